import PyProof.Rows.All
import Wide.All
import OpenK.AllK
import Wide.FinOn
import PySem.Challenge.RW_sn0101_01
set_option Elab.async false
set_option linter.all false
set_option maxRecDepth 100000
set_option genInjectivity false
set_option genSizeOfSpec false
section
namespace Mine
section
theorem el03 {a b c G:Prop} (h:a∧b∧c) (q:a→b→c→G):G:=q h.1 h.2.1 h.2.2
theorem el04 {a b c d G:Prop} (h:a∧b∧c∧d) (q:a→b→c→d→G):G:=q h.1 h.2.1 h.2.2.1 h.2.2.2
theorem el05 {a b c d e G:Prop} (h:a∧b∧c∧d∧e) (q:a→b→c→d→e→G):G:=q h.1 h.2.1 h.2.2.1 h.2.2.2.1 h.2.2.2.2
theorem el06 {a b c d e f G:Prop} (h:a∧b∧c∧d∧e∧f) (q:a→b→c→d→e→f→G):G:=q h.1 h.2.1 h.2.2.1 h.2.2.2.1 h.2.2.2.2.1 h.2.2.2.2.2
theorem el07 {a b c d e f g G:Prop} (h:a∧b∧c∧d∧e∧f∧g) (q:a→b→c→d→e→f→g→G):G:=q h.1 h.2.1 h.2.2.1 h.2.2.2.1 h.2.2.2.2.1 h.2.2.2.2.2.1 h.2.2.2.2.2.2
theorem el08 {a b c d e f g i G:Prop} (h:a∧b∧c∧d∧e∧f∧g∧i) (q:a→b→c→d→e→f→g→i→G):G:=q h.1 h.2.1 h.2.2.1 h.2.2.2.1 h.2.2.2.2.1 h.2.2.2.2.2.1 h.2.2.2.2.2.2.1 h.2.2.2.2.2.2.2
theorem el12 {α0:Sort _} {a b:α0→Prop} {G:Prop} (h:∃ x,a x∧b x) (q:∀ x,a x→b x→G):G:=Exists.elim h fun x h=>q x h.1 h.2
theorem el13 {α0:Sort _} {a b c:α0→Prop} {G:Prop} (h:∃ x,a x∧b x∧c x) (q:∀ x,a x→b x→c x→G):G:=Exists.elim h fun x h=>q x h.1 h.2.1 h.2.2
theorem el14 {α0:Sort _} {a b c d:α0→Prop} {G:Prop} (h:∃ x,a x∧b x∧c x∧d x) (q:∀ x,a x→b x→c x→d x→G):G:=Exists.elim h fun x h=>q x h.1 h.2.1 h.2.2.1 h.2.2.2
theorem el15 {α0:Sort _} {a b c d e:α0→Prop} {G:Prop} (h:∃ x,a x∧b x∧c x∧d x∧e x) (q:∀ x,a x→b x→c x→d x→e x→G):G:=Exists.elim h fun x h=>q x h.1 h.2.1 h.2.2.1 h.2.2.2.1 h.2.2.2.2
theorem el21 {α0:Sort _} {α1:Sort _} {a:α0→α1→Prop} {G:Prop} (h:∃ x y,a x y) (q:∀ x y,a x y→G):G:=Exists.elim h fun x h=>Exists.elim h fun y h=>q x y h
theorem el22 {α0:Sort _} {α1:Sort _} {a b:α0→α1→Prop} {G:Prop} (h:∃ x y,a x y∧b x y) (q:∀ x y,a x y→b x y→G):G:=Exists.elim h fun x h=>Exists.elim h fun y h=>q x y h.1 h.2
theorem el23 {α0:Sort _} {α1:Sort _} {a b c:α0→α1→Prop} {G:Prop} (h:∃ x y,a x y∧b x y∧c x y) (q:∀ x y,a x y→b x y→c x y→G):G:=Exists.elim h fun x h=>Exists.elim h fun y h=>q x y h.1 h.2.1 h.2.2
theorem el24 {α0:Sort _} {α1:Sort _} {a b c d:α0→α1→Prop} {G:Prop} (h:∃ x y,a x y∧b x y∧c x y∧d x y) (q:∀ x y,a x y→b x y→c x y→d x y→G):G:=Exists.elim h fun x h=>Exists.elim h fun y h=>q x y h.1 h.2.1 h.2.2.1 h.2.2.2
theorem el25 {α0:Sort _} {α1:Sort _} {a b c d e:α0→α1→Prop} {G:Prop} (h:∃ x y,a x y∧b x y∧c x y∧d x y∧e x y) (q:∀ x y,a x y→b x y→c x y→d x y→e x y→G):G:=Exists.elim h fun x h=>Exists.elim h fun y h=>q x y h.1 h.2.1 h.2.2.1 h.2.2.2.1 h.2.2.2.2
theorem el26 {α0:Sort _} {α1:Sort _} {a b c d e f:α0→α1→Prop} {G:Prop} (h:∃ x y,a x y∧b x y∧c x y∧d x y∧e x y∧f x y) (q:∀ x y,a x y→b x y→c x y→d x y→e x y→f x y→G):G:=Exists.elim h fun x h=>Exists.elim h fun y h=>q x y h.1 h.2.1 h.2.2.1 h.2.2.2.1 h.2.2.2.2.1 h.2.2.2.2.2
theorem el31 {α0:Sort _} {α1:Sort _} {α2:Sort _} {a:α0→α1→α2→Prop} {G:Prop} (h:∃ x y z,a x y z) (q:∀ x y z,a x y z→G):G:=Exists.elim h fun x h=>Exists.elim h fun y h=>Exists.elim h fun z h=>q x y z h
theorem el32 {α0:Sort _} {α1:Sort _} {α2:Sort _} {a b:α0→α1→α2→Prop} {G:Prop} (h:∃ x y z,a x y z∧b x y z) (q:∀ x y z,a x y z→b x y z→G):G:=Exists.elim h fun x h=>Exists.elim h fun y h=>Exists.elim h fun z h=>q x y z h.1 h.2
theorem el33 {α0:Sort _} {α1:Sort _} {α2:Sort _} {a b c:α0→α1→α2→Prop} {G:Prop} (h:∃ x y z,a x y z∧b x y z∧c x y z) (q:∀ x y z,a x y z→b x y z→c x y z→G):G:=Exists.elim h fun x h=>Exists.elim h fun y h=>Exists.elim h fun z h=>q x y z h.1 h.2.1 h.2.2
theorem el34 {α0:Sort _} {α1:Sort _} {α2:Sort _} {a b c d:α0→α1→α2→Prop} {G:Prop} (h:∃ x y z,a x y z∧b x y z∧c x y z∧d x y z) (q:∀ x y z,a x y z→b x y z→c x y z→d x y z→G):G:=Exists.elim h fun x h=>Exists.elim h fun y h=>Exists.elim h fun z h=>q x y z h.1 h.2.1 h.2.2.1 h.2.2.2
theorem el37 {α0:Sort _} {α1:Sort _} {α2:Sort _} {a b c d e f g:α0→α1→α2→Prop} {G:Prop} (h:∃ x y z,a x y z∧b x y z∧c x y z∧d x y z∧e x y z∧f x y z∧g x y z) (q:∀ x y z,a x y z→b x y z→c x y z→d x y z→e x y z→f x y z→g x y z→G):G:=Exists.elim h fun x h=>Exists.elim h fun y h=>Exists.elim h fun z h=>q x y z h.1 h.2.1 h.2.2.1 h.2.2.2.1 h.2.2.2.2.1 h.2.2.2.2.2.1 h.2.2.2.2.2.2
theorem el41 {α0:Sort _} {α1:Sort _} {α2:Sort _} {α3:Sort _} {a:α0→α1→α2→α3→Prop} {G:Prop} (h:∃ x y z u,a x y z u) (q:∀ x y z u,a x y z u→G):G:=Exists.elim h fun x h=>Exists.elim h fun y h=>Exists.elim h fun z h=>Exists.elim h fun u h=>q x y z u h
theorem el42 {α0:Sort _} {α1:Sort _} {α2:Sort _} {α3:Sort _} {a b:α0→α1→α2→α3→Prop} {G:Prop} (h:∃ x y z u,a x y z u∧b x y z u) (q:∀ x y z u,a x y z u→b x y z u→G):G:=Exists.elim h fun x h=>Exists.elim h fun y h=>Exists.elim h fun z h=>Exists.elim h fun u h=>q x y z u h.1 h.2
theorem el44 {α0:Sort _} {α1:Sort _} {α2:Sort _} {α3:Sort _} {a b c d:α0→α1→α2→α3→Prop} {G:Prop} (h:∃ x y z u,a x y z u∧b x y z u∧c x y z u∧d x y z u) (q:∀ x y z u,a x y z u→b x y z u→c x y z u→d x y z u→G):G:=Exists.elim h fun x h=>Exists.elim h fun y h=>Exists.elim h fun z h=>Exists.elim h fun u h=>q x y z u h.1 h.2.1 h.2.2.1 h.2.2.2
theorem named {α:Sort _} (a:α) {G:Prop} (h:∀ x,x=a→G):G:=h a rfl
theorem cps {G:Prop} (h:∀ P:Prop,(G→P)→P):G:=h G id
noncomputable def tabN {α:Type} (f:Nat→α):Nat→Nat→List α
  | 0,_=>[]
  | n+1,i=>f i::tabN f n (i+1)
theorem tabN_get {α:Type} (f:Nat→α) (n:Nat):∀ k i,i<n→(tabN f n k)[i]?=some (f (k+i)):=by
  induction n with
  | zero=>exact fun _ _ h=>absurd h (Nat.not_lt_zero _)
  | succ n ih =>
    intro k i h
    cases i with
    | zero=>rfl
    | succ i=>exact (ih (k+1) i (Nat.lt_of_succ_lt_succ h)).trans (by rw [Nat.add_assoc,Nat.add_comm 1 i])
theorem atN {α:Type} {n:Nat} {f g:Nat→α} (h:tabN f n 0=(List.range n).map g) {i:Nat} (hi:i<n):f i=g i:=by
  have e:(tabN f n 0)[i]?=((List.range n).map g)[i]?:=congrArg (·[i]?) h
  rw [tabN_get f n 0 i hi,List.getElem?_map,List.getElem?_range hi,Nat.zero_add] at e
  exact Option.some.inj e
theorem al0 {P:Nat→Prop}:∀ x,x<0→P x:=fun x h=>absurd h (Nat.not_lt_zero x)
theorem alS {P:Nat→Prop} {n:Nat} (h:∀ x,x<n→P x) (p:P n):∀ x,x<n+1→P x:=fun x hx=>(Nat.lt_succ_iff_lt_or_eq.1 hx).elim (h x) fun e=>e▸p
theorem al3 {P:Nat→Prop} (a:P 0) (b:P 1) (c:P 2):∀ x,x<3→P x:=alS (alS (alS al0 a) b) c
end
end Mine
end
section
open PySem PySem.W PyProof.Rows
namespace Mine
section
set_option maxHeartbeats 0
noncomputable section
noncomputable abbrev St (l:List Nat):Str:=Str.mk (Array.mk l)
noncomputable abbrev pw:Program:=PySem.Challenge.pw_sn0101_01
noncomputable def theLife:Life:={}
noncomputable def stm (i:Nat):Stmt:=(behindTheImports pw).getD i (.Pass default)
noncomputable def mth (i j:Nat):Stmt:=match stm i with
  | .ClassDef _ _ _ b ..=>b.getD j (.Pass default)
  | s=>s
noncomputable def fdP:Stmt→Arguments | .FunctionDef _ a ..=>a|_=>default
noncomputable def fdB:Stmt→List Stmt | .FunctionDef _ _ b ..=>b|_=>[]
noncomputable def fdS:Stmt→Scope | .FunctionDef _ _ _ _ _ _ s ..=>s|_=>default
noncomputable abbrev dob (es:Array DictEntry) (ep:Nat):Obj:=Obj.mk (.type "dict") none (.dict es ep) #[]
noncomputable abbrev dl (l:List DictEntry):Obj:=dob (Array.mk l) l.length
noncomputable def ents:Nat→List (Int × Str)→List DictEntry
  | _,[]=>[]
  | T,(i,c)::l=>⟨i,.int i T,.str c (T+1)⟩::ents (T+3) l
noncomputable def entsS:Nat→List (Int × Str)→List DictEntry
  | _,[]=>[]
  | T,(i,c)::l=>⟨i,.int i T,.str c (T+1)⟩::entsS (T+2) l
noncomputable def accE:Nat→List DictEntry→List (List (Int × Str))→List (Int × Str)→List DictEntry
  | T,l,[],z=>l++entsS T z
  | T,l,q::qs,z=>accE (T+51) (l++ents T q) qs z
noncomputable def tblOf:List (Option Expr)→List Expr→List (Int × Str)
  | some (.Constant (.int i) _ _)::ks,.Constant (.str c) _ _::vs=>(i,c)::tblOf ks vs
  | _,_=>[]
noncomputable def tbl:List (Int × Str):=match stm 5 with
  | .Assign _ (.Dict ks vs _) _=>tblOf ks vs
  | _=>[]
noncomputable def chop {α:Type}:Nat→List α→List (List α)
  | 0,_=>[]
  | n+1,l=>l.take 17::chop n (l.drop 17)
noncomputable def tq0:List (Int × Str):=tbl.take 17
noncomputable def tqs:List (List (Int × Str)):=chop 37 (tbl.drop 17)
noncomputable def tz:List (Int × Str):=tbl.drop 646
noncomputable def tMain:List DictEntry:=accE 358 (ents 307 tq0) tqs tz
noncomputable def s (T:Nat) (x:Str):Value:=.str x T
noncomputable def ke (P:Params) (T:Nat) (x:Str) (v:Value):DictEntry:=⟨PyData.keyHash P x,.str x T,v⟩
noncomputable def i0 (n:Nat):Value:=.int n 0
noncomputable def ob' (c:Value) (d:Data):Obj:=Obj.mk c none d #[]
noncomputable def tu (l:List Value):Obj:=ob' (.type "tuple") (.seq (Array.mk l) 0)
noncomputable def fl (c:Value) (l:List Value):Obj:=ob' c (.fields (Array.mk l))
noncomputable def cu (T:Nat):Value:=s T (St [47,99,108,97,105,109,47,99,117,116,46,112,121])
noncomputable def co (T:Nat) (x y:Str) (ln ac a f g ab:Nat) (b c d:Value) (X:Nat):Obj:=fl (.type "code") [s T x,s (T+1) y,cu (T+2),i0 ln,i0 ac,i0 0,i0 0,i0 f,.ref a,.bool true,i0 g,.ref ab,.none,b,c,d,i0 X,i0 ln,cu (X+1)]
noncomputable def fn (x y:Str) (t:Stmt) (m:Value) (r:Nat):Obj:=ob' (.type "function") (.func (FuncData.mk x y (fdP t) (.stmts (fdB t)) (fdS t) 3 [] .none .none .none m none (.ref r) .none 0))
noncomputable def fs (x y:Str) (t:Stmt):Obj:=ob' .none (.func (FuncData.mk x y (fdP t) (.stmts (fdB t)) (fdS t) 0 [] .none .none .none .none none .none .none 0))
noncomputable def nd (f:Params→Obj) (l r:Params→BT) (P:Params):BT:=.node (f P) (l P) (r P)
noncomputable def ni (P:Params):BT:=.nil
noncomputable def lf (f:Params→Obj) (P:Params):BT:=.node (f P) .nil .nil
noncomputable def hn0:Str:=St [99,112,121,51,49,51,46,119,115,103,105,114,101,102,46,104,101,97,100,101,114,115]
noncomputable def hn1:Str:=St [108,97,119,95,115,110,48,49,48,49,95,48,49]
noncomputable def hn2:Str:=St [47,99,108,97,105,109,47,99,117,116,46,112,121]
noncomputable def hn3:Str:=St [95,95,100,111,99,95,95]
noncomputable def hn4:Str:=St [95,119,97,108,108]
noncomputable def hn5:Str:=St [95,101,108,108,105,112,115,105,115,95,109,97,116,99,104]
noncomputable def hn6:Str:=St [95,115,114,101]
noncomputable def hn7:Str:=St [72,101,97,100,101,114,115]
noncomputable def hn8:Str:=St [46,46,46]
noncomputable def hn9:Str:=St [109,97,112,95,116,97,98,108,101,95,98,51]
noncomputable def hn10:Str:=St [115,101,108,102]
noncomputable def hn11:Str:=St [95,95,112,97,99,107,97,103,101,95,95]
noncomputable def hn12:Str:=St [95,95,108,111,97,100,101,114,95,95]
noncomputable def hn13:Str:=St [95,95,115,112,101,99,95,95]
noncomputable def hn14:Str:=St [73,83,78,79,78,84,69,82,77,73,78,65,76]
noncomputable def hn15:Str:=St [95,95,97,110,110,111,116,97,116,105,111,110,115,95,95]
noncomputable def hn16:Str:=St [95,95,98,117,105,108,116,105,110,115,95,95]
noncomputable def hn17:Str:=St [95,95,102,105,108,101,95,95]
noncomputable def hn18:Str:=St [95,95,99,97,99,104,101,100,95,95]
noncomputable def hn19:Str:=St [95,95,110,97,109,101,95,95]
noncomputable def hn20:Str:=St [95,95,100,105,99,116,95,95]
noncomputable def hn21:Str:=St [95,95,119,101,97,107,114,101,102,95,95]
noncomputable def hn22:Str:=St [110,97,109,101]
noncomputable def hn23:Str:=St [95,95,105,110,105,116,95,95]
noncomputable def hn24:Str:=St [95,95,114,101,112,114,95,95]
noncomputable def hn25:Str:=St [69,76,76,73,80,83,73,83,95,77,65,82,75,69,82]
noncomputable def hn26:Str:=St [95,108,97,119,95,100,114,97,119,115]
noncomputable def hn27:Str:=St [95,108,97,119,95,115,112,101,108,108,101,100]
noncomputable def hn28:Str:=St [95,108,97,119,95,115,105,103,110]
noncomputable def hn29:Str:=St [95,108,97,119,95,114,111,119,115]
noncomputable def hn30:Str:=St [95,108,97,119,95,98,111,97,114,100]
noncomputable def hn31:Str:=St [95,108,97,119,95,100,117,101]
noncomputable def hn32:Str:=St [95,108,97,119,95,112,108,97,121]
noncomputable def hn33:Str:=St [95,108,97,119,95,116,111,108,100]
noncomputable def hn34:Str:=St [95,108,97,119,95,111,100,100,95,119,105,110,115]
noncomputable def hn35:Str:=St [95,108,97,119,95,98,121,95,116,104,101,95,112,97,115,116]
noncomputable def hn36:Str:=St [108,97,119]
noncomputable def hn37:Str:=St [95,95,102,105,114,115,116,108,105,110,101,110,111,95,95]
noncomputable def hn38:Str:=St [95,95,115,116,97,116,105,99,95,97,116,116,114,105,98,117,116,101,115,95,95]
noncomputable def hn39:Str:=St [95,99,111,110,118,101,114,116,95,115,116,114,105,110,103,95,116,121,112,101]
noncomputable def hn40:Str:=St [98,51,95,101,120,99,101,112,116,105,111,110,115]
noncomputable def hn41:Str:=St [95,95,108,101,110,95,95]
noncomputable def hn42:Str:=St [95,95,115,101,116,105,116,101,109,95,95]
noncomputable def hn43:Str:=St [95,95,100,101,108,105,116,101,109,95,95]
noncomputable def hn44:Str:=St [95,95,103,101,116,105,116,101,109,95,95]
noncomputable def hn45:Str:=St [95,95,99,111,110,116,97,105,110,115,95,95]
noncomputable def hn46:Str:=St [103,101,116,95,97,108,108]
noncomputable def hn47:Str:=St [103,101,116]
noncomputable def hn48:Str:=St [107,101,121,115]
noncomputable def hn49:Str:=St [118,97,108,117,101,115]
noncomputable def hn50:Str:=St [105,116,101,109,115]
noncomputable def hn51:Str:=St [95,95,115,116,114,95,95]
noncomputable def hn52:Str:=St [95,95,98,121,116,101,115,95,95]
noncomputable def hn53:Str:=St [115,101,116,100,101,102,97,117,108,116]
noncomputable def hn54:Str:=St [97,100,100,95,104,101,97,100,101,114]
noncomputable def hn55:Str:=St [76,80,65,82]
noncomputable def hn56:Str:=St [82,80,65,82]
noncomputable def hn57:Str:=St [76,83,81,66]
noncomputable def hn58:Str:=St [82,83,81,66]
noncomputable def hn59:Str:=St [67,79,76,79,78]
noncomputable def hn60:Str:=St [67,79,77,77,65]
noncomputable def hn61:Str:=St [83,69,77,73]
noncomputable def hn62:Str:=St [80,76,85,83]
noncomputable def hn63:Str:=St [77,73,78,85,83]
noncomputable def hn64:Str:=St [83,84,65,82]
noncomputable def hn65:Str:=St [83,76,65,83,72]
noncomputable def hn66:Str:=St [86,66,65,82]
noncomputable def hn67:Str:=St [65,77,80,69,82]
noncomputable def hn68:Str:=St [76,69,83,83]
noncomputable def hn69:Str:=St [71,82,69,65,84,69,82]
noncomputable def hn70:Str:=St [69,81,85,65,76]
noncomputable def hn71:Str:=St [68,79,84]
noncomputable def hn72:Str:=St [80,69,82,67,69,78,84]
noncomputable def hn73:Str:=St [76,66,82,65,67,69]
noncomputable def hn74:Str:=St [82,66,82,65,67,69]
noncomputable def hn75:Str:=St [69,81,69,81,85,65,76]
noncomputable def hn76:Str:=St [78,79,84,69,81,85,65,76]
noncomputable def hn77:Str:=St [76,69,83,83,69,81,85,65,76]
noncomputable def hn78:Str:=St [71,82,69,65,84,69,82,69,81,85,65,76]
noncomputable def hn79:Str:=St [84,73,76,68,69]
noncomputable def hn80:Str:=St [67,73,82,67,85,77,70,76,69,88]
noncomputable def hn81:Str:=St [76,69,70,84,83,72,73,70,84]
noncomputable def hn82:Str:=St [82,73,71,72,84,83,72,73,70,84]
noncomputable def hn83:Str:=St [68,79,85,66,76,69,83,84,65,82]
noncomputable def hn84:Str:=St [80,76,85,83,69,81,85,65,76]
noncomputable def hn85:Str:=St [77,73,78,69,81,85,65,76]
noncomputable def hn86:Str:=St [83,84,65,82,69,81,85,65,76]
noncomputable def hn87:Str:=St [83,76,65,83,72,69,81,85,65,76]
noncomputable def hn88:Str:=St [80,69,82,67,69,78,84,69,81,85,65,76]
noncomputable def hn89:Str:=St [65,77,80,69,82,69,81,85,65,76]
noncomputable def hn90:Str:=St [86,66,65,82,69,81,85,65,76]
noncomputable def hn91:Str:=St [67,73,82,67,85,77,70,76,69,88,69,81,85,65,76]
noncomputable def hn92:Str:=St [76,69,70,84,83,72,73,70,84,69,81,85,65,76]
noncomputable def hn93:Str:=St [82,73,71,72,84,83,72,73,70,84,69,81,85,65,76]
noncomputable def hn94:Str:=St [68,79,85,66,76,69,83,84,65,82,69,81,85,65,76]
noncomputable def hn95:Str:=St [68,79,85,66,76,69,83,76,65,83,72]
noncomputable def hn96:Str:=St [68,79,85,66,76,69,83,76,65,83,72,69,81,85,65,76]
noncomputable def hn97:Str:=St [65,84,69,81,85,65,76]
noncomputable def hn98:Str:=St [82,65,82,82,79,87]
noncomputable def hn99:Str:=St [69,76,76,73,80,83,73,83]
noncomputable def hn100:Str:=St [67,79,76,79,78,69,81,85,65,76]
noncomputable def hn101:Str:=St [69,88,67,76,65,77,65,84,73,79,78]
noncomputable def hn102:Str:=St [78,84,95,79,70,70,83,69,84]
noncomputable def hn103:Str:=St [69,88,65,67,84,95,84,79,75,69,78,95,84,89,80,69,83]
noncomputable def hn104:Str:=St [95,95,109,97,105,110,95,95]
noncomputable def hn105:Str:=St [95,110,97,109,101,95,100,105,115,97,108,108,111,119,101,100,95,114,101]
noncomputable def hn106:Str:=St [95,118,97,108,117,101,95,100,105,115,97,108,108,111,119,101,100,95,114,101]
noncomputable def hn107:Str:=St [98,117,105,108,116,45,105,110]
noncomputable def hn108:Str:=St [95,95,109,111,100,117,108,101,95,95]
noncomputable def hn109:Str:=St [60,109,111,100,117,108,101,62]
noncomputable def hn110:Str:=St [99,112,121,51,49,51,46,115,116,114,105,110,103,112,114,101,112]
noncomputable def hn111:Str:=St [99,112,121,51,49,51,46,116,111,107,101,110]
noncomputable def hn112:Str:=St [72,101,97,100,101,114,115,46,95,99,111,110,118,101,114,116,95,115,116,114,105,110,103,95,116,121,112,101]
noncomputable def hn113:Str:=St [108,111,97,100,101,114,95,115,116,97,116,101]
noncomputable def hn114:Str:=St [115,117,98,109,111,100,117,108,101,95,115,101,97,114,99,104,95,108,111,99,97,116,105,111,110,115]
noncomputable def hn115:Str:=St [95,117,110,105,110,105,116,105,97,108,105,122,101,100,95,115,117,98,109,111,100,117,108,101,115]
noncomputable def hn116:Str:=St [95,115,101,116,95,102,105,108,101,97,116,116,114]
noncomputable def hn117:Str:=St [72,101,97,100,101,114,115,46,95,95,105,110,105,116,95,95]
noncomputable def hn118:Str:=St [72,101,97,100,101,114,115,46,95,95,108,101,110,95,95]
noncomputable def hn119:Str:=St [72,101,97,100,101,114,115,46,95,95,115,101,116,105,116,101,109,95,95]
noncomputable def hn120:Str:=St [72,101,97,100,101,114,115,46,95,95,100,101,108,105,116,101,109,95,95]
noncomputable def hn121:Str:=St [72,101,97,100,101,114,115,46,95,95,103,101,116,105,116,101,109,95,95]
noncomputable def hn122:Str:=St [72,101,97,100,101,114,115,46,95,95,99,111,110,116,97,105,110,115,95,95]
noncomputable def hn123:Str:=St [72,101,97,100,101,114,115,46,103,101,116,95,97,108,108]
noncomputable def hn124:Str:=St [72,101,97,100,101,114,115,46,103,101,116]
noncomputable def hn125:Str:=St [72,101,97,100,101,114,115,46,107,101,121,115]
noncomputable def hn126:Str:=St [72,101,97,100,101,114,115,46,118,97,108,117,101,115]
noncomputable def hn127:Str:=St [72,101,97,100,101,114,115,46,105,116,101,109,115]
noncomputable def hn128:Str:=St [72,101,97,100,101,114,115,46,95,95,114,101,112,114,95,95]
noncomputable def hn129:Str:=St [72,101,97,100,101,114,115,46,95,95,115,116,114,95,95]
noncomputable def hn130:Str:=St [72,101,97,100,101,114,115,46,95,95,98,121,116,101,115,95,95]
noncomputable def hn131:Str:=St [72,101,97,100,101,114,115,46,115,101,116,100,101,102,97,117,108,116]
noncomputable def hn132:Str:=St [72,101,97,100,101,114,115,46,97,100,100,95,104,101,97,100,101,114]
noncomputable def hn133:Str:=St [32,83,82,69,32,50,46,50,46,50,32,67,111,112,121,114,105,103,104,116,32,40,99,41,32,49,57,57,55,45,50,48,48,50,32,98,121,32,83,101,99,114,101,116,32,76,97,98,115,32,65,66,32]
noncomputable def hn134:Str:=St [95,102,114,111,122,101,110,95,105,109,112,111,114,116,108,105,98]
noncomputable def gl (P:Params):List DictEntry:=[ke P 166 hn3 .none,ke P 167 hn11 .none,ke P 168 hn12 (.builtin "__main__.__loader__#opaque"),ke P 169 hn13 .none,ke P 170 hn15 (.ref 6),ke P 171 hn16 (.ref 4),ke P 173 hn17 (s 172 hn2),ke P 174 hn18 .none,ke P 275 hn6 (.ref 12),ke P 288 hn4 (.ref 38),ke P 292 hn25 (s 291 hn8),ke P 304 hn5 (.ref 45),ke P 2257 hn40 (.ref 46),ke P 2265 hn9 (.ref 91),ke P 2269 hn55 (.int 7 2268),ke P 2271 hn56 (.int 8 2270),ke P 2273 hn57 (.int 9 2272),ke P 2275 hn58 (.int 10 2274),ke P 2277 hn59 (.int 11 2276),ke P 2279 hn60 (.int 12 2278),ke P 2281 hn61 (.int 13 2280),ke P 2283 hn62 (.int 14 2282),ke P 2285 hn63 (.int 15 2284),ke P 2287 hn64 (.int 16 2286),ke P 2289 hn65 (.int 17 2288),ke P 2291 hn66 (.int 18 2290),ke P 2293 hn67 (.int 19 2292),ke P 2295 hn68 (.int 20 2294),ke P 2297 hn69 (.int 21 2296),ke P 2299 hn70 (.int 22 2298),ke P 2301 hn71 (.int 23 2300),ke P 2303 hn72 (.int 24 2302),ke P 2305 hn73 (.int 25 2304),ke P 2307 hn74 (.int 26 2306),ke P 2309 hn75 (.int 27 2308),ke P 2311 hn76 (.int 28 2310),ke P 2313 hn77 (.int 29 2312),ke P 2315 hn78 (.int 30 2314),ke P 2317 hn79 (.int 31 2316),ke P 2319 hn80 (.int 32 2318),ke P 2321 hn81 (.int 33 2320),ke P 2323 hn82 (.int 34 2322),ke P 2325 hn83 (.int 35 2324),ke P 2327 hn84 (.int 36 2326),ke P 2329 hn85 (.int 37 2328),ke P 2331 hn86 (.int 38 2330),ke P 2333 hn87 (.int 39 2332),ke P 2335 hn88 (.int 40 2334),ke P 2337 hn89 (.int 41 2336),ke P 2339 hn90 (.int 42 2338),ke P 2341 hn91 (.int 43 2340),ke P 2343 hn92 (.int 44 2342),ke P 2345 hn93 (.int 45 2344),ke P 2347 hn94 (.int 46 2346),ke P 2349 hn95 (.int 47 2348),ke P 2351 hn96 (.int 48 2350),ke P 2353 (St [65,84]) (.int 49 2352),ke P 2355 hn97 (.int 50 2354),ke P 2357 hn98 (.int 51 2356),ke P 2359 hn99 (.int 52 2358),ke P 2361 hn100 (.int 53 2360),ke P 2363 hn101 (.int 54 2362),ke P 2365 hn102 (.int 256 2364),ke P 2462 hn103 (.ref 92),ke P 2469 hn14 (.ref 101),ke P 2497 hn105 (.ref 106),ke P 2531 hn106 (.ref 111),ke P 2685 hn7 (.ref 232),ke P 2697 hn26 (.ref 243),ke P 2705 hn27 (.ref 250),ke P 2712 hn28 (.ref 257),ke P 2726 hn29 (.ref 264),ke P 2732 hn30 (.ref 269),ke P 2738 hn31 (.ref 274),ke P 2751 hn32 (.ref 281),ke P 2757 hn33 (.ref 286),ke P 2763 hn34 (.ref 291),ke P 2769 hn35 (.ref 296),ke P 2775 hn36 (.ref 301)]
noncomputable def ob0 (P:Params):Obj:=dl [ke P 162 (St [98,117,105,108,116,105,110,115]) (.ref 4),ke P 163 hn104 (.ref 5),ke P 244 hn6 (.ref 12)]
noncomputable def ob1 (P:Params):Obj:=ob' .none (.dict (Array.mk [ke P 183 (St [105,109,112,111,114,116,46,108,111,97,100,101,100,46,95,115,114,101]) (.bool true),ke P 185 (St [99,108,97,115,115,46,95,102,114,111,122,101,110,95,105,109,112,111,114,116,108,105,98,46,66,117,105,108,116,105,110,73,109,112,111,114,116,101,114]) (.ref 14),ke P 206 (St [119,97,116,99,104,101,100,46,105,109,112,111,114,116]) (.ref 18),ke P 216 (St [99,108,97,115,115,46,95,102,114,111,122,101,110,95,105,109,112,111,114,116,108,105,98,46,77,111,100,117,108,101,83,112,101,99]) (.ref 22),ke P 245 (St [115,121,115,46,109,111,100,117,108,101,115,46,98,111,111,107,101,100,45,101,112,111,99,104]) (i0 3),ke P 270 (St [105,109,112,111,114,116,46,108,97,116,101,114,45,108,97,105,100,46,95,115,114,101]) (.bool true),ke P 272 (St [119,97,116,99,104,101,100,46,108,105,98,114,97,114,121]) (.ref 27),ke P 0 (St [119,97,116,99,104,101,100,46,108,105,98,114,97,114,121,45,111,98,106,101,99,116,115]) (s 0 (St [12])),ke P 273 (St [119,97,116,99,104,101,100,46,108,105,98,114,97,114,121,45,100,101,101,112,46,95,115,114,101]) (s 0 (St [4,0,0,11,4,0,0,11,4,0,0,3,4,0,0,11,8,4,100,105,99,116,2]))]) 9)
noncomputable def ob2 (P:Params):Obj:=dl (ke P 165 hn19 (s 164 hn104)::(gl P).take 9)
noncomputable def ob3 (P:Params):Obj:=dl [ke P 247 hn19 (s 246 hn6),ke P 248 hn3 .none,ke P 250 hn11 (s 249 (St [])),ke P 251 hn12 (.builtin "off-the-table:_sre.__loader__:shared#opaque"),ke P 252 hn13 (.builtin "off-the-table:_sre.__spec__:shared#opaque"),ke P 253 (St [99,111,109,112,105,108,101]) (.builtin "_sre.compile"),ke P 254 (St [116,101,109,112,108,97,116,101]) (.builtin "off-the-table:_sre.template:shared#opaque"),ke P 255 (St [103,101,116,99,111,100,101,115,105,122,101]) (.builtin "off-the-table:_sre.getcodesize:shared#opaque"),ke P 256 (St [97,115,99,105,105,95,105,115,99,97,115,101,100]) (.builtin "off-the-table:_sre.ascii_iscased:shared#opaque"),ke P 257 (St [117,110,105,99,111,100,101,95,105,115,99,97,115,101,100]) (.builtin "off-the-table:_sre.unicode_iscased:shared#opaque"),ke P 258 (St [97,115,99,105,105,95,116,111,108,111,119,101,114]) (.builtin "off-the-table:_sre.ascii_tolower:shared#opaque"),ke P 259 (St [117,110,105,99,111,100,101,95,116,111,108,111,119,101,114]) (.builtin "off-the-table:_sre.unicode_tolower:shared#opaque"),ke P 261 (St [77,65,71,73,67]) (.int 20230612 260),ke P 263 (St [67,79,68,69,83,73,90,69]) (.int 4 262),ke P 265 (St [77,65,88,82,69,80,69,65,84]) (.int 4294967295 264),ke P 267 (St [77,65,88,71,82,79,85,80,83]) (.int 1073741823 266),ke P 269 (St [99,111,112,121,114,105,103,104,116]) (s 268 hn133)]
noncomputable def ob4 (P:Params):Obj:=Obj.mk (.type "module") (some 11) .plain (Array.mk [])
noncomputable def ob5 (P:Params):Obj:=dl [ke P 189 hn108 (s 186 hn134),ke P 190 hn37 (.int 971 187),ke P 191 hn3 (.builtin "_frozen_importlib.BuiltinImporter.__doc__:str#opaque"),ke P 192 (St [95,79,82,73,71,73,78]) (s 188 hn107),ke P 193 (St [102,105,110,100,95,115,112,101,99]) (.builtin "_frozen_importlib.BuiltinImporter.find_spec#opaque"),ke P 194 (St [99,114,101,97,116,101,95,109,111,100,117,108,101]) (.builtin "_frozen_importlib.BuiltinImporter.create_module#opaque"),ke P 195 (St [101,120,101,99,95,109,111,100,117,108,101]) (.builtin "_frozen_importlib.BuiltinImporter.exec_module#opaque"),ke P 196 (St [103,101,116,95,99,111,100,101]) (.builtin "_frozen_importlib.BuiltinImporter.get_code#opaque"),ke P 197 (St [103,101,116,95,115,111,117,114,99,101]) (.builtin "_frozen_importlib.BuiltinImporter.get_source#opaque"),ke P 198 (St [105,115,95,112,97,99,107,97,103,101]) (.builtin "_frozen_importlib.BuiltinImporter.is_package#opaque"),ke P 199 (St [108,111,97,100,95,109,111,100,117,108,101]) (.builtin "_frozen_importlib.BuiltinImporter.load_module#opaque"),ke P 200 hn38 (.ref 15),ke P 202 hn20 (.ref 16),ke P 204 hn21 (.ref 17)]
noncomputable def ob6 (P:Params):Obj:=ob' (.type "type") (.cls (ClassData.mk (St [66,117,105,108,116,105,110,73,109,112,111,114,116,101,114]) [.type "object"] [.ref 14,.type "object"] 13 (St [66,117,105,108,116,105,110,73,109,112,111,114,116,101,114]) true [] [] false none false))
noncomputable def ob7 (P:Params):Obj:=tu []
noncomputable def ob8 (P:Params):Obj:=fl (.type "getset_descriptor") [s 201 hn20,.ref 14,.builtin "function.__dict__",.builtin "function.__dict__#set"]
noncomputable def ob9 (P:Params):Obj:=fl (.type "getset_descriptor") [s 203 hn21,.ref 14,.builtin "ExceptionGroup.__weakref__",.none]
noncomputable def ob10 (P:Params):Obj:=ob' .none (.seq (Array.mk [i0 13,.str (St [6,189,10,95,95,109,111,100,117,108,101,95,95,6,186,17,95,102,114,111,122,101,110,95,105,109,112,111,114,116,108,105,98,6,190,15,95,95,102,105,114,115,116,108,105,110,101,110,111,95,95,4,187,0,971,6,191,7,95,95,100,111,99,95,95,9,52,95,102,114,111,122,101,110,95,105,109,112,111,114,116,108,105,98,46,66,117,105,108,116,105,110,73,109,112,111,114,116,101,114,46,95,95,100,111,99,95,95,58,115,116,114,35,111,112,97,113,117,101,6,192,7,95,79,82,73,71,73,78,6,188,8,98,117,105,108,116,45,105,110,6,193,9,102,105,110,100,95,115,112,101,99,9,50,95,102,114,111,122,101,110,95,105,109,112,111,114,116,108,105,98,46,66,117,105,108,116,105,110,73,109,112,111,114,116,101,114,46,102,105,110,100,95,115,112,101,99,35,111,112,97,113,117,101,6,194,13,99,114,101,97,116,101,95,109,111,100,117,108,101,9,54,95,102,114,111,122,101,110,95,105,109,112,111,114,116,108,105,98,46,66,117,105,108,116,105,110,73,109,112,111,114,116,101,114,46,99,114,101,97,116,101,95,109,111,100,117,108,101,35,111,112,97,113,117,101,6,195,11,101,120,101,99,95,109,111,100,117,108,101,9,52,95,102,114,111,122,101,110,95,105,109,112,111,114,116,108,105,98,46,66,117,105,108,116,105,110,73,109,112,111,114,116,101,114,46,101,120,101,99,95,109,111,100,117,108,101,35,111,112,97,113,117,101,6,196,8,103,101,116,95,99,111,100,101,9,49,95,102,114,111,122,101,110,95,105,109,112,111,114,116,108,105,98,46,66,117,105,108,116,105,110,73,109,112,111,114,116,101,114,46,103,101,116,95,99,111,100,101,35,111,112,97,113,117,101,6,197,10,103,101,116,95,115,111,117,114,99,101,9,51,95,102,114,111,122,101,110,95,105,109,112,111,114,116,108,105,98,46,66,117,105,108,116,105,110,73,109,112,111,114,116,101,114,46,103,101,116,95,115,111,117,114,99,101,35,111,112,97,113,117,101,6,198,10,105,115,95,112,97,99,107,97,103,101,9,51,95,102,114,111,122,101,110,95,105,109,112,111,114,116,108,105,98,46,66,117,105,108,116,105,110,73,109,112,111,114,116,101,114,46,105,115,95,112,97,99,107,97,103,101,35,111,112,97,113,117,101,6,199,11,108,111,97,100,95,109,111,100,117,108,101,9,52,95,102,114,111,122,101,110,95,105,109,112,111,114,116,108,105,98,46,66,117,105,108,116,105,110,73,109,112,111,114,116,101,114,46,108,111,97,100,95,109,111,100,117,108,101,35,111,112,97,113,117,101,6,200,21,95,95,115,116,97,116,105,99,95,97,116,116,114,105,98,117,116,101,115,95,95,4,0,0,15,6,202,8,95,95,100,105,99,116,95,95,4,0,0,16,6,204,11,95,95,119,101,97,107,114,101,102,95,95,4,0,0,17]) 0,.bool true,.bool true,s 205 (St []),i0 21,.str (St [6,227,10,95,95,109,111,100,117,108,101,95,95,6,217,17,95,102,114,111,122,101,110,95,105,109,112,111,114,116,108,105,98,6,228,15,95,95,102,105,114,115,116,108,105,110,101,110,111,95,95,4,218,0,562,6,229,7,95,95,100,111,99,95,95,9,47,95,102,114,111,122,101,110,95,105,109,112,111,114,116,108,105,98,46,77,111,100,117,108,101,83,112,101,99,46,95,95,100,111,99,95,95,58,115,116,114,35,111,112,97,113,117,101,6,230,8,95,95,105,110,105,116,95,95,9,44,95,102,114,111,122,101,110,95,105,109,112,111,114,116,108,105,98,46,77,111,100,117,108,101,83,112,101,99,46,95,95,105,110,105,116,95,95,35,111,112,97,113,117,101,6,231,8,95,95,114,101,112,114,95,95,9,44,95,102,114,111,122,101,110,95,105,109,112,111,114,116,108,105,98,46,77,111,100,117,108,101,83,112,101,99,46,95,95,114,101,112,114,95,95,35,111,112,97,113,117,101,6,232,6,95,95,101,113,95,95,9,42,95,102,114,111,122,101,110,95,105,109,112,111,114,116,108,105,98,46,77,111,100,117,108,101,83,112,101,99,46,95,95,101,113,95,95,35,111,112,97,113,117,101,6,233,6,99,97,99,104,101,100,9,42,95,102,114,111,122,101,110,95,105,109,112,111,114,116,108,105,98,46,77,111,100,117,108,101,83,112,101,99,46,99,97,99,104,101,100,35,111,112,97,113,117,101,6,234,6,112,97,114,101,110,116,9,42,95,102,114,111,122,101,110,95,105,109,112,111,114,116,108,105,98,46,77,111,100,117,108,101,83,112,101,99,46,112,97,114,101,110,116,35,111,112,97,113,117,101,6,235,12,104,97,115,95,108,111,99,97,116,105,111,110,9,48,95,102,114,111,122,101,110,95,105,109,112,111,114,116,108,105,98,46,77,111,100,117,108,101,83,112,101,99,46,104,97,115,95,108,111,99,97,116,105,111,110,35,111,112,97,113,117,101,6,236,21,95,95,115,116,97,116,105,99,95,97,116,116,114,105,98,117,116,101,115,95,95,4,0,0,23,6,238,8,95,95,100,105,99,116,95,95,4,0,0,24,6,240,11,95,95,119,101,97,107,114,101,102,95,95,4,0,0,25,6,241,8,95,95,104,97,115,104,95,95,0]) 0,.bool true,.bool true,s 242 (St [])]) 1)
noncomputable def ob11 (P:Params):Obj:=ob' (.type "list") (.seq (Array.mk []) 0)
noncomputable def ob12 (P:Params):Obj:=dl [ke P 208 hn22 (s 207 hn6),ke P 209 (St [108,111,97,100,101,114]) (.ref 14),ke P 210 (St [111,114,105,103,105,110]) (s 184 hn107),ke P 211 hn113 .none,ke P 212 hn114 .none,ke P 213 hn115 (.ref 19),ke P 214 hn116 (.bool false),ke P 215 (St [95,99,97,99,104,101,100]) .none,ke P 243 (St [95,105,110,105,116,105,97,108,105,122,105,110,103]) (.bool false)]
noncomputable def ob13 (P:Params):Obj:=dl [ke P 227 hn108 (s 217 hn134),ke P 228 hn37 (.int 562 218),ke P 229 hn3 (.builtin "_frozen_importlib.ModuleSpec.__doc__:str#opaque"),ke P 230 hn23 (.builtin "_frozen_importlib.ModuleSpec.__init__#opaque"),ke P 231 hn24 (.builtin "_frozen_importlib.ModuleSpec.__repr__#opaque"),ke P 232 (St [95,95,101,113,95,95]) (.builtin "_frozen_importlib.ModuleSpec.__eq__#opaque"),ke P 233 (St [99,97,99,104,101,100]) (.builtin "_frozen_importlib.ModuleSpec.cached#opaque"),ke P 234 (St [112,97,114,101,110,116]) (.builtin "_frozen_importlib.ModuleSpec.parent#opaque"),ke P 235 (St [104,97,115,95,108,111,99,97,116,105,111,110]) (.builtin "_frozen_importlib.ModuleSpec.has_location#opaque"),ke P 236 hn38 (.ref 23),ke P 238 hn20 (.ref 24),ke P 240 hn21 (.ref 25),ke P 241 (St [95,95,104,97,115,104,95,95]) .none]
noncomputable def ob14 (P:Params):Obj:=ob' (.type "type") (.cls (ClassData.mk (St [77,111,100,117,108,101,83,112,101,99]) [.type "object"] [.ref 22,.type "object"] 21 (St [77,111,100,117,108,101,83,112,101,99]) true [] [] false none false))
noncomputable def ob15 (P:Params):Obj:=tu [s 219 (St [95,99,97,99,104,101,100]),s 220 hn116,s 221 hn115,s 222 (St [108,111,97,100,101,114]),s 223 hn113,s 224 hn22,s 225 (St [111,114,105,103,105,110]),s 226 hn114]
noncomputable def ob16 (P:Params):Obj:=fl (.type "getset_descriptor") [s 237 hn20,.ref 22,.builtin "function.__dict__",.builtin "function.__dict__#set"]
noncomputable def ob17 (P:Params):Obj:=fl (.type "getset_descriptor") [s 239 hn21,.ref 22,.builtin "ExceptionGroup.__weakref__",.none]
noncomputable def ob18 (P:Params):Obj:=Obj.mk (.ref 22) (some 20) .plain (Array.mk [])
noncomputable def ob19 (P:Params):Obj:=ob' .none (.seq (Array.mk [i0 11,.str (St [6,247,8,95,95,110,97,109,101,95,95,6,246,4,95,115,114,101,6,248,7,95,95,100,111,99,95,95,0,6,250,11,95,95,112,97,99,107,97,103,101,95,95,6,249,0,6,251,10,95,95,108,111,97,100,101,114,95,95,4,0,0,14,6,252,8,95,95,115,112,101,99,95,95,4,0,0,26,6,253,7,99,111,109,112,105,108,101,9,12,95,115,114,101,46,99,111,109,112,105,108,101,6,254,8,116,101,109,112,108,97,116,101,9,13,95,115,114,101,46,116,101,109,112,108,97,116,101,6,255,11,103,101,116,99,111,100,101,115,105,122,101,9,16,95,115,114,101,46,103,101,116,99,111,100,101,115,105,122,101,6,256,13,97,115,99,105,105,95,105,115,99,97,115,101,100,9,18,95,115,114,101,46,97,115,99,105,105,95,105,115,99,97,115,101,100,6,257,15,117,110,105,99,111,100,101,95,105,115,99,97,115,101,100,9,20,95,115,114,101,46,117,110,105,99,111,100,101,95,105,115,99,97,115,101,100,6,258,13,97,115,99,105,105,95,116,111,108,111,119,101,114,9,18,95,115,114,101,46,97,115,99,105,105,95,116,111,108,111,119,101,114,6,259,15,117,110,105,99,111,100,101,95,116,111,108,111,119,101,114,9,20,95,115,114,101,46,117,110,105,99,111,100,101,95,116,111,108,111,119,101,114,6,261,5,77,65,71,73,67,4,260,0,20230612,6,263,8,67,79,68,69,83,73,90,69,4,262,0,4,6,265,9,77,65,88,82,69,80,69,65,84,4,264,0,4294967295,6,267,9,77,65,88,71,82,79,85,80,83,4,266,0,1073741823,6,269,9,99,111,112,121,114,105,103,104,116,6,268,53,32,83,82,69,32,50,46,50,46,50,32,67,111,112,121,114,105,103,104,116,32,40,99,41,32,49,57,57,55,45,50,48,48,50,32,98,121,32,83,101,99,114,101,116,32,76,97,98,115,32,65,66,32]) 0,.bool true,.bool false,s 271 hn6]) 0)
noncomputable def tr_0:Params→BT:=nd boot_o_0 (nd ob0 (nd ob2 (nd boot_o_7 (lf ob7) (lf ob15)) (nd ob3 (lf ob11) (lf ob19))) (nd boot_o_5 (nd boot_o_9 (lf ob9) (lf ob17)) (nd ob5 (lf ob13) ni))) (nd ob1 (nd boot_o_4 (nd boot_o_8 (lf ob8) (lf ob16)) (nd ob4 (lf ob12) ni)) (nd boot_o_6 (nd boot_o_10 (lf ob10) (lf ob18)) (nd ob6 (lf ob14) ni)))
noncomputable def S_0 (w:World) (os:OsState):SharedT:=⟨tr_0 w.params,28,theLife,#[],⟨0,0,0,0⟩,276,os⟩
noncomputable def ob20 (P:Params):Obj:=fl .none []
noncomputable def ob21 (P:Params):Obj:=fl (.type "code") [s 277 hn109,s 278 hn109,s 279 hn2,i0 1,i0 0,i0 0,i0 0,i0 0,.ref 28,.bool false,i0 276,.ref 29,.none,.none,.none,.none,i0 280,i0 1,s 281 hn2]
noncomputable def ob22 (P:Params):Obj:=Obj.mk (.type "frame") none .plain (Array.mk [some (.ref 30),some (.ref 3),some (.ref 3),none,some (s 164 hn104),none,some (.ref 0)])
noncomputable def tr_a:Params→BT:=nd boot_o_0 (nd ob0 (nd ob2 (nd boot_o_7 (nd ob7 (lf ob22) ni) (lf ob15)) (nd ob3 (lf ob11) (lf ob19))) (nd boot_o_5 (nd boot_o_9 (lf ob9) (lf ob17)) (nd ob5 (lf ob13) (lf ob20)))) (nd ob1 (nd boot_o_4 (nd boot_o_8 (lf ob8) (lf ob16)) (nd ob4 (lf ob12) (lf ob7))) (nd boot_o_6 (nd boot_o_10 (lf ob10) (lf ob18)) (nd ob6 (lf ob14) (lf ob21))))
noncomputable def S_a (w:World) (os:OsState):SharedT:=⟨tr_a w.params,32,theLife,#[],⟨0,0,0,0⟩,282,os⟩
noncomputable def tr_b:Params→BT:=nd boot_o_0 (nd ob0 (nd ob2 (nd boot_o_7 (nd ob7 (lf ob22) ni) (lf ob15)) (nd ob3 (lf ob11) (lf ob19))) (nd boot_o_5 (nd boot_o_9 (lf ob9) (lf ob17)) (nd ob5 (lf ob13) (lf ob20)))) (nd ob1 (nd boot_o_4 (nd boot_o_8 (lf ob8) (lf ob16)) (nd ob4 (lf ob12) (lf ob7))) (nd boot_o_6 (nd boot_o_10 (lf ob10) (lf ob18)) (nd ob6 (lf ob14) (lf ob21))))
noncomputable def S_b (w:World) (os:OsState):SharedT:=⟨tr_b w.params,32,theLife,#[],⟨0,0,0,0⟩,282,os⟩
noncomputable def ob23 (P:Params):Obj:=dl (ke P 165 hn19 (s 305 hn110)::(gl P).take 12)
noncomputable def ob24 (P:Params):Obj:=fl .none [i0 2,i0 0,.ref 37,i0 7,i0 0,.ref 44]
noncomputable def ob25 (P:Params):Obj:=tu [s 285 (St [107])]
noncomputable def ob26 (P:Params):Obj:=fs hn4 hn4 (stm 0)
noncomputable def ob27 (P:Params):Obj:=co 282 hn4 hn4 2 1 32 3 276 33 (.ref 34) (.ref 35) (.ref 36) 286
noncomputable def ob28 (P:Params):Obj:=fn hn4 hn4 (stm 0) (s 164 hn104) 37
noncomputable def ob29 (P:Params):Obj:=tu [s 296 (St [119,97,110,116]),s 297 (St [103,111,116]),s 298 (St [119,115]),s 299 (St [115,116,97,114,116,112,111,115]),s 300 (St [101,110,100,112,111,115]),s 301 (St [119])]
noncomputable def ob30 (P:Params):Obj:=fs hn5 hn5 (stm 3)
noncomputable def ob31 (P:Params):Obj:=co 293 hn5 hn5 7 2 39 3 276 40 (.ref 41) (.ref 42) (.ref 43) 302
noncomputable def ob32 (P:Params):Obj:=fn hn5 hn5 (stm 3) (s 289 (St [99,112,121,51,49,51,46,100,111,99,116,101,115,116])) 44
noncomputable def tr_c5:Params→BT:=nd boot_o_0 (nd ob0 (nd ob23 (nd boot_o_7 (nd ob7 (lf ob22) ni) (nd ob15 (lf ob7) ni)) (nd ob3 (nd ob11 (lf ob7) ni) (nd ob19 (lf ob30) ni))) (nd boot_o_5 (nd boot_o_9 (nd ob9 (lf ob20) ni) (nd ob17 (lf ob29) ni)) (nd ob5 (nd ob13 (lf ob27) ni) (nd ob24 (lf ob32) ni)))) (nd ob1 (nd boot_o_4 (nd boot_o_8 (nd ob8 (lf ob7) ni) (nd ob16 (lf ob20) ni)) (nd ob4 (nd ob12 (lf ob26) ni) (nd ob7 (lf ob31) ni))) (nd boot_o_6 (nd boot_o_10 (nd ob10 (lf ob25) ni) (nd ob18 (lf ob7) ni)) (nd ob6 (nd ob14 (lf ob28) ni) (lf ob21))))
noncomputable def S_c5 (w:World) (os:OsState):SharedT:=⟨tr_c5 w.params,46,theLife,#[],⟨0,0,0,0⟩,307,os⟩
noncomputable def ob33 (P:Params):Obj:=dl (ke P 165 hn19 (s 305 hn110)::(gl P).take 13)
noncomputable def ob34 (P:Params):Obj:=dl tMain
noncomputable def ob35 (P:Params):Obj:=dl (ents 358 (tqs.getD 0 []))
noncomputable def ob36 (P:Params):Obj:=dl (ents 409 (tqs.getD 1 []))
noncomputable def ob37 (P:Params):Obj:=dl (ents 460 (tqs.getD 2 []))
noncomputable def ob38 (P:Params):Obj:=dl (ents 511 (tqs.getD 3 []))
noncomputable def ob39 (P:Params):Obj:=dl (ents 562 (tqs.getD 4 []))
noncomputable def ob40 (P:Params):Obj:=dl (ents 613 (tqs.getD 5 []))
noncomputable def ob41 (P:Params):Obj:=dl (ents 664 (tqs.getD 6 []))
noncomputable def ob42 (P:Params):Obj:=dl (ents 715 (tqs.getD 7 []))
noncomputable def ob43 (P:Params):Obj:=dl (ents 766 (tqs.getD 8 []))
noncomputable def ob44 (P:Params):Obj:=dl (ents 817 (tqs.getD 9 []))
noncomputable def ob45 (P:Params):Obj:=dl (ents 868 (tqs.getD 10 []))
noncomputable def ob46 (P:Params):Obj:=dl (ents 919 (tqs.getD 11 []))
noncomputable def ob47 (P:Params):Obj:=dl (ents 970 (tqs.getD 12 []))
noncomputable def ob48 (P:Params):Obj:=dl (ents 1021 (tqs.getD 13 []))
noncomputable def ob49 (P:Params):Obj:=dl (ents 1072 (tqs.getD 14 []))
noncomputable def ob50 (P:Params):Obj:=dl (ents 1123 (tqs.getD 15 []))
noncomputable def ob51 (P:Params):Obj:=dl (ents 1174 (tqs.getD 16 []))
noncomputable def ob52 (P:Params):Obj:=dl (ents 1225 (tqs.getD 17 []))
noncomputable def ob53 (P:Params):Obj:=dl (ents 1276 (tqs.getD 18 []))
noncomputable def ob54 (P:Params):Obj:=dl (ents 1327 (tqs.getD 19 []))
noncomputable def ob55 (P:Params):Obj:=dl (ents 1378 (tqs.getD 20 []))
noncomputable def ob56 (P:Params):Obj:=dl (ents 1429 (tqs.getD 21 []))
noncomputable def ob57 (P:Params):Obj:=dl (ents 1480 (tqs.getD 22 []))
noncomputable def ob58 (P:Params):Obj:=dl (ents 1531 (tqs.getD 23 []))
noncomputable def ob59 (P:Params):Obj:=dl (ents 1582 (tqs.getD 24 []))
noncomputable def ob60 (P:Params):Obj:=dl (ents 1633 (tqs.getD 25 []))
noncomputable def ob61 (P:Params):Obj:=dl (ents 1684 (tqs.getD 26 []))
noncomputable def ob62 (P:Params):Obj:=dl (ents 1735 (tqs.getD 27 []))
noncomputable def ob63 (P:Params):Obj:=dl (ents 1786 (tqs.getD 28 []))
noncomputable def ob64 (P:Params):Obj:=dl (ents 1837 (tqs.getD 29 []))
noncomputable def ob65 (P:Params):Obj:=dl (ents 1888 (tqs.getD 30 []))
noncomputable def ob66 (P:Params):Obj:=dl (ents 1939 (tqs.getD 31 []))
noncomputable def ob67 (P:Params):Obj:=dl (ents 1990 (tqs.getD 32 []))
noncomputable def ob68 (P:Params):Obj:=dl (ents 2041 (tqs.getD 33 []))
noncomputable def ob69 (P:Params):Obj:=dl (ents 2092 (tqs.getD 34 []))
noncomputable def ob70 (P:Params):Obj:=dl (ents 2143 (tqs.getD 35 []))
noncomputable def ob71 (P:Params):Obj:=dl (ents 2194 (tqs.getD 36 []))
noncomputable def ob72 (P:Params):Obj:=dl (entsS 2245 tz)
noncomputable def tr_c6:Params→BT:=nd boot_o_0 (nd ob0 (nd ob33 (nd boot_o_7 (nd ob7 (nd ob22 (lf ob51) ni) (nd ob35 (lf ob67) ni)) (nd ob15 (nd ob7 (lf ob59) ni) (lf ob43))) (nd ob3 (nd ob11 (nd ob7 (lf ob55) ni) (nd ob39 (lf ob71) ni)) (nd ob19 (nd ob30 (lf ob63) ni) (lf ob47)))) (nd boot_o_5 (nd boot_o_9 (nd ob9 (nd ob20 (lf ob53) ni) (nd ob37 (lf ob69) ni)) (nd ob17 (nd ob29 (lf ob61) ni) (lf ob45))) (nd ob5 (nd ob13 (nd ob27 (lf ob57) ni) (lf ob41)) (nd ob24 (nd ob32 (lf ob65) ni) (lf ob49))))) (nd ob1 (nd boot_o_4 (nd boot_o_8 (nd ob8 (nd ob7 (lf ob52) ni) (nd ob36 (lf ob68) ni)) (nd ob16 (nd ob20 (lf ob60) ni) (lf ob44))) (nd ob4 (nd ob12 (nd ob26 (lf ob56) ni) (nd ob40 (lf ob72) ni)) (nd ob7 (nd ob31 (lf ob64) ni) (lf ob48)))) (nd boot_o_6 (nd boot_o_10 (nd ob10 (nd ob25 (lf ob54) ni) (nd ob38 (lf ob70) ni)) (nd ob18 (nd ob7 (lf ob62) ni) (lf ob46))) (nd ob6 (nd ob14 (nd ob28 (lf ob58) ni) (lf ob42)) (nd ob21 (nd ob34 (lf ob66) ni) (lf ob50)))))
noncomputable def S_c6 (w:World) (os:OsState):SharedT:=⟨tr_c6 w.params,85,theLife,#[],⟨0,0,0,0⟩,2258,os⟩
noncomputable def ob73 (P:Params):Obj:=dl (ke P 165 hn19 (s 2266 hn111)::(gl P).take 63)
noncomputable def ob74 (P:Params):Obj:=fl .none [i0 2,i0 0,.ref 37,i0 7,i0 0,.ref 44,i0 37,i0 0,.ref 90]
noncomputable def ob75 (P:Params):Obj:=tu [s 2261 (St [99,111,100,101]),s 2262 (St [114])]
noncomputable def ob76 (P:Params):Obj:=fs hn9 hn9 (stm 6)
noncomputable def ob77 (P:Params):Obj:=co 2258 hn9 hn9 37 1 85 3 276 86 (.ref 87) (.ref 88) (.ref 89) 2263
noncomputable def ob78 (P:Params):Obj:=fn hn9 hn9 (stm 6) (s 305 hn110) 90
noncomputable def tr_c57:Params→BT:=nd boot_o_0 (nd ob0 (nd ob73 (nd boot_o_7 (nd ob7 (nd ob22 (lf ob51) ni) (nd ob35 (lf ob67) ni)) (nd ob15 (nd ob7 (lf ob59) ni) (nd ob43 (lf ob75) ni))) (nd ob3 (nd ob11 (nd ob7 (lf ob55) ni) (nd ob39 (lf ob71) ni)) (nd ob19 (nd ob30 (lf ob63) ni) (nd ob47 (lf ob78) ni)))) (nd boot_o_5 (nd boot_o_9 (nd ob9 (nd ob20 (lf ob53) ni) (nd ob37 (lf ob69) ni)) (nd ob17 (nd ob29 (lf ob61) ni) (nd ob45 (lf ob76) ni))) (nd ob5 (nd ob13 (nd ob27 (lf ob57) ni) (nd ob41 (lf ob7) ni)) (nd ob74 (nd ob32 (lf ob65) ni) (lf ob49))))) (nd ob1 (nd boot_o_4 (nd boot_o_8 (nd ob8 (nd ob7 (lf ob52) ni) (nd ob36 (lf ob68) ni)) (nd ob16 (nd ob20 (lf ob60) ni) (nd ob44 (lf ob7) ni))) (nd ob4 (nd ob12 (nd ob26 (lf ob56) ni) (nd ob40 (lf ob72) ni)) (nd ob7 (nd ob31 (lf ob64) ni) (lf ob48)))) (nd boot_o_6 (nd boot_o_10 (nd ob10 (nd ob25 (lf ob54) ni) (nd ob38 (lf ob70) ni)) (nd ob18 (nd ob7 (lf ob62) ni) (nd ob46 (lf ob77) ni))) (nd ob6 (nd ob14 (nd ob28 (lf ob58) ni) (nd ob42 (lf ob20) ni)) (nd ob21 (nd ob34 (lf ob66) ni) (lf ob50)))))
noncomputable def S_c57 (w:World) (os:OsState):SharedT:=⟨tr_c57 w.params,92,theLife,#[],⟨0,0,0,0⟩,2366,os⟩
noncomputable def ob79 (P:Params):Obj:=dl (ke P 165 hn19 (s 2266 hn111)::(gl P).take 64)
noncomputable def ob80 (P:Params):Obj:=dl [ke P 2366 (St [33]) (.int 54 2362),ke P 2368 (St [33,61]) (.int 28 2310),ke P 2370 (St [37]) (.int 24 2302),ke P 2372 (St [37,61]) (.int 40 2334),ke P 2374 (St [38]) (.int 19 2292),ke P 2376 (St [38,61]) (.int 41 2336),ke P 2378 (St [40]) (.int 7 2268),ke P 2380 (St [41]) (.int 8 2270),ke P 2382 (St [42]) (.int 16 2286),ke P 2384 (St [42,42]) (.int 35 2324),ke P 2386 (St [42,42,61]) (.int 46 2346),ke P 2388 (St [42,61]) (.int 38 2330),ke P 2390 (St [43]) (.int 14 2282),ke P 2392 (St [43,61]) (.int 36 2326),ke P 2394 (St [44]) (.int 12 2278),ke P 2396 (St [45]) (.int 15 2284),ke P 2398 (St [45,61]) (.int 37 2328),ke P 2400 (St [45,62]) (.int 51 2356),ke P 2402 (St [46]) (.int 23 2300),ke P 2404 hn8 (.int 52 2358),ke P 2406 (St [47]) (.int 17 2288),ke P 2408 (St [47,47]) (.int 47 2348),ke P 2410 (St [47,47,61]) (.int 48 2350),ke P 2412 (St [47,61]) (.int 39 2332),ke P 2414 (St [58]) (.int 11 2276),ke P 2416 (St [58,61]) (.int 53 2360),ke P 2418 (St [59]) (.int 13 2280),ke P 2420 (St [60]) (.int 20 2294),ke P 2422 (St [60,60]) (.int 33 2320),ke P 2424 (St [60,60,61]) (.int 44 2342),ke P 2426 (St [60,61]) (.int 29 2312),ke P 2428 (St [61]) (.int 22 2298),ke P 2430 (St [61,61]) (.int 27 2308),ke P 2432 (St [62]) (.int 21 2296),ke P 2434 (St [62,61]) (.int 30 2314),ke P 2435 (St [62,62]) (.int 34 2322),ke P 2436 (St [62,62,61]) (.int 45 2344),ke P 2437 (St [64]) (.int 49 2352),ke P 2438 (St [64,61]) (.int 50 2354),ke P 2439 (St [91]) (.int 9 2272),ke P 2440 (St [93]) (.int 10 2274),ke P 2441 (St [94]) (.int 32 2318),ke P 2442 (St [94,61]) (.int 43 2340),ke P 2443 (St [123]) (.int 25 2304),ke P 2444 (St [124]) (.int 18 2290),ke P 2445 (St [124,61]) (.int 42 2338),ke P 2446 (St [125]) (.int 26 2306),ke P 2447 (St [126]) (.int 31 2316)]
noncomputable def ob81 (P:Params):Obj:=dl [ke P 2400 (St [45,62]) (.int 51 2356),ke P 2402 (St [46]) (.int 23 2300),ke P 2404 hn8 (.int 52 2358),ke P 2406 (St [47]) (.int 17 2288),ke P 2408 (St [47,47]) (.int 47 2348),ke P 2410 (St [47,47,61]) (.int 48 2350),ke P 2412 (St [47,61]) (.int 39 2332),ke P 2414 (St [58]) (.int 11 2276),ke P 2416 (St [58,61]) (.int 53 2360),ke P 2418 (St [59]) (.int 13 2280),ke P 2420 (St [60]) (.int 20 2294),ke P 2422 (St [60,60]) (.int 33 2320),ke P 2424 (St [60,60,61]) (.int 44 2342),ke P 2426 (St [60,61]) (.int 29 2312),ke P 2428 (St [61]) (.int 22 2298),ke P 2430 (St [61,61]) (.int 27 2308),ke P 2432 (St [62]) (.int 21 2296)]
noncomputable def ob82 (P:Params):Obj:=dl [ke P 2434 (St [62,61]) (.int 30 2314),ke P 2435 (St [62,62]) (.int 34 2322),ke P 2436 (St [62,62,61]) (.int 45 2344),ke P 2437 (St [64]) (.int 49 2352),ke P 2438 (St [64,61]) (.int 50 2354),ke P 2439 (St [91]) (.int 9 2272),ke P 2440 (St [93]) (.int 10 2274),ke P 2441 (St [94]) (.int 32 2318),ke P 2442 (St [94,61]) (.int 43 2340),ke P 2443 (St [123]) (.int 25 2304),ke P 2444 (St [124]) (.int 18 2290),ke P 2445 (St [124,61]) (.int 42 2338),ke P 2446 (St [125]) (.int 26 2306),ke P 2447 (St [126]) (.int 31 2316)]
noncomputable def tr_c58:Params→BT:=nd boot_o_0 (nd ob0 (nd ob79 (nd boot_o_7 (nd ob7 (nd ob22 (lf ob51) ni) (nd ob35 (lf ob67) ni)) (nd ob15 (nd ob7 (lf ob59) ni) (nd ob43 (lf ob75) ni))) (nd ob3 (nd ob11 (nd ob7 (lf ob55) ni) (nd ob39 (lf ob71) ni)) (nd ob19 (nd ob30 (lf ob63) ni) (nd ob47 (lf ob78) ni)))) (nd boot_o_5 (nd boot_o_9 (nd ob9 (nd ob20 (lf ob53) ni) (nd ob37 (lf ob69) ni)) (nd ob17 (nd ob29 (lf ob61) ni) (nd ob45 (lf ob76) ni))) (nd ob5 (nd ob13 (nd ob27 (lf ob57) ni) (nd ob41 (lf ob7) ni)) (nd ob74 (nd ob32 (lf ob65) ni) (nd ob49 (lf ob81) ni))))) (nd ob1 (nd boot_o_4 (nd boot_o_8 (nd ob8 (nd ob7 (lf ob52) ni) (nd ob36 (lf ob68) ni)) (nd ob16 (nd ob20 (lf ob60) ni) (nd ob44 (lf ob7) ni))) (nd ob4 (nd ob12 (nd ob26 (lf ob56) ni) (nd ob40 (lf ob72) ni)) (nd ob7 (nd ob31 (lf ob64) ni) (nd ob48 (lf ob80) ni)))) (nd boot_o_6 (nd boot_o_10 (nd ob10 (nd ob25 (lf ob54) ni) (nd ob38 (lf ob70) ni)) (nd ob18 (nd ob7 (lf ob62) ni) (nd ob46 (lf ob77) ni))) (nd ob6 (nd ob14 (nd ob28 (lf ob58) ni) (nd ob42 (lf ob20) ni)) (nd ob21 (nd ob34 (lf ob66) ni) (nd ob50 (lf ob82) ni)))))
noncomputable def S_c58 (w:World) (os:OsState):SharedT:=⟨tr_c58 w.params,95,theLife,#[],⟨0,0,0,0⟩,2463,os⟩
noncomputable def ob83 (P:Params):Obj:=dl (ke P 165 hn19 (s 2470 hn0)::(gl P).take 67)
noncomputable def ob84 (P:Params):Obj:=fl .none [i0 2,i0 0,.ref 37,i0 7,i0 0,.ref 44,i0 37,i0 0,.ref 90,i0 93,i0 0,.ref 100]
noncomputable def ob85 (P:Params):Obj:=tu [s 2466 (St [120])]
noncomputable def ob86 (P:Params):Obj:=fs hn14 hn14 (stm 58)
noncomputable def ob87 (P:Params):Obj:=co 2463 hn14 hn14 93 1 95 3 276 96 (.ref 97) (.ref 98) (.ref 99) 2467
noncomputable def ob88 (P:Params):Obj:=fn hn14 hn14 (stm 58) (s 2266 hn111) 100
noncomputable def ob89 (P:Params):Obj:=ob' (.type "list") (.seq (Array.mk [.int 14 2475,.int 10 2476,.int 4 2477,.int 1 2478,.int 1 2479,.int 22 2480,.int 0 2481,.int 31 2482,.int 16 2483,.int 127 2484,.int 0 2485,.int 13 2486,.int 7 2487,.int 22 2488,.int 0 2489,.int 31 2490,.int 16 2491,.int 127 2492,.int 0 2493,.int 1 2494]) 0)
noncomputable def ob90 (P:Params):Obj:=dl []
noncomputable def ob91 (P:Params):Obj:=tu [.none]
noncomputable def ob92 (P:Params):Obj:=tu [i0 14,i0 10,i0 4,i0 1,i0 1,i0 22,i0 0,i0 31,i0 16,i0 127,i0 0,i0 13,i0 7,i0 22,i0 0,i0 31,i0 16,i0 127,i0 0,i0 1]
noncomputable def ob93 (P:Params):Obj:=fl (.type "re.Pattern") [s 2473 (St [91,92,120,48,48,45,92,120,49,70,92,120,55,70,93]),.int 32 2496,i0 0,.none,.none,.ref 105,i0 0]
noncomputable def ob94 (P:Params):Obj:=ob' (.type "list") (.seq (Array.mk [.int 14 2501,.int 14 2502,.int 4 2503,.int 1 2504,.int 1 2505,.int 9 2506,.int 4294966783 2507,.int 0 2508,.int 0 2509,.int 2147483648 2510,.int 0 2511,.int 0 2512,.int 0 2513,.int 0 2514,.int 0 2515,.int 13 2516,.int 11 2517,.int 9 2518,.int 4294966783 2519,.int 0 2520,.int 0 2521,.int 2147483648 2522,.int 0 2523,.int 0 2524,.int 0 2525,.int 0 2526,.int 0 2527,.int 1 2528]) 0)
noncomputable def ob95 (P:Params):Obj:=tu [i0 14,i0 14,i0 4,i0 1,i0 1,i0 9,i0 4294966783,i0 0,i0 0,i0 2147483648,i0 0,i0 0,i0 0,i0 0,i0 0,i0 13,i0 11,i0 9,i0 4294966783,i0 0,i0 0,i0 2147483648,i0 0,i0 0,i0 0,i0 0,i0 0,i0 1]
noncomputable def ob96 (P:Params):Obj:=fl (.type "re.Pattern") [s 2499 (St [91,92,120,48,48,45,92,120,48,56,92,120,48,65,45,92,120,49,70,92,120,55,70,93]),.int 32 2530,i0 0,.none,.none,.ref 110,i0 0]
noncomputable def tr_c62:Params→BT:=nd boot_o_0 (nd ob0 (nd ob83 (nd boot_o_7 (nd ob7 (nd ob22 (lf ob51) (lf ob7)) (nd ob35 (lf ob67) (lf ob96))) (nd ob15 (nd ob7 (lf ob59) (lf ob90)) (nd ob43 (lf ob75) ni))) (nd ob3 (nd ob11 (nd ob7 (lf ob55) (lf ob86)) (nd ob39 (lf ob71) ni)) (nd ob19 (nd ob30 (lf ob63) (lf ob94)) (nd ob47 (lf ob78) ni)))) (nd boot_o_5 (nd boot_o_9 (nd ob9 (nd ob20 (lf ob53) (lf ob85)) (nd ob37 (lf ob69) ni)) (nd ob17 (nd ob29 (lf ob61) (lf ob92)) (nd ob45 (lf ob76) ni))) (nd ob5 (nd ob13 (nd ob27 (lf ob57) (lf ob88)) (nd ob41 (lf ob7) ni)) (nd ob84 (nd ob32 (lf ob65) (lf ob91)) (nd ob49 (lf ob81) ni))))) (nd ob1 (nd boot_o_4 (nd boot_o_8 (nd ob8 (nd ob7 (lf ob52) (lf ob20)) (nd ob36 (lf ob68) ni)) (nd ob16 (nd ob20 (lf ob60) (lf ob91)) (nd ob44 (lf ob7) ni))) (nd ob4 (nd ob12 (nd ob26 (lf ob56) (lf ob87)) (nd ob40 (lf ob72) ni)) (nd ob7 (nd ob31 (lf ob64) (lf ob90)) (nd ob48 (lf ob80) ni)))) (nd boot_o_6 (nd boot_o_10 (nd ob10 (nd ob25 (lf ob54) (lf ob7)) (nd ob38 (lf ob70) ni)) (nd ob18 (nd ob7 (lf ob62) (lf ob93)) (nd ob46 (lf ob77) ni))) (nd ob6 (nd ob14 (nd ob28 (lf ob58) (lf ob89)) (nd ob42 (lf ob20) ni)) (nd ob21 (nd ob34 (lf ob66) (lf ob95)) (nd ob50 (lf ob82) ni)))))
noncomputable def S_c62 (w:World) (os:OsState):SharedT:=⟨tr_c62 w.params,112,theLife,#[],⟨0,0,0,0⟩,2532,os⟩
noncomputable def ob97 (P:Params):Obj:=dl (ke P 165 hn19 (s 2470 hn0)::(gl P).take 68)
noncomputable def ob98 (P:Params):Obj:=fl .none [i0 2,i0 0,.ref 37,i0 7,i0 0,.ref 44,i0 37,i0 0,.ref 90,i0 93,i0 0,.ref 100,i0 98,i0 0,.ref 117]
noncomputable def ob99 (P:Params):Obj:=fl (.type "builtin_function_or_method") [.builtin "type.__prepare__",.type "type"]
noncomputable def ob100 (P:Params):Obj:=dl [ke P 2539 hn108 (s 2470 hn0),ke P 2541 (St [95,95,113,117,97,108,110,97,109,101,95,95]) (s 2540 hn7),ke P 2543 hn37 (.int 98 2542),ke P 2553 hn23 (.ref 126),ke P 2563 hn39 (.ref 133),ke P 2570 hn41 (.ref 140),ke P 2579 hn42 (.ref 147),ke P 2585 hn43 (.ref 152),ke P 2593 hn44 (.ref 159),ke P 2601 hn45 (.ref 166),ke P 2607 hn46 (.ref 171),ke P 2618 hn47 (.ref 179),ke P 2624 hn48 (.ref 184),ke P 2630 hn49 (.ref 189),ke P 2637 hn50 (.ref 196),ke P 2644 hn24 (.ref 203),ke P 2650 hn51 (.ref 208),ke P 2657 hn52 (.ref 215),ke P 2666 hn53 (.ref 222),ke P 2676 hn54 (.ref 229),ke P 2678 hn38 (.ref 230)]
noncomputable def ob101 (P:Params):Obj:=fl .none [i0 100,i0 4,.ref 125,i0 110,i0 4,.ref 132,i0 118,i0 4,.ref 139,i0 121,i0 4,.ref 146,i0 125,i0 4,.ref 151,i0 129,i0 4,.ref 158,i0 132,i0 4,.ref 165,i0 135,i0 4,.ref 170,i0 139,i0 4,.ref 178,i0 146,i0 4,.ref 183,i0 149,i0 4,.ref 188,i0 152,i0 4,.ref 195,i0 155,i0 4,.ref 202,i0 158,i0 4,.ref 207,i0 161,i0 4,.ref 214,i0 164,i0 4,.ref 221,i0 167,i0 4,.ref 228]
noncomputable def ob102 (P:Params):Obj:=fl (.type "code") [s 2534 hn7,s 2535 hn7,s 2536 hn2,i0 98,i0 0,i0 0,i0 0,i0 0,.ref 115,.bool false,i0 276,.ref 116,.none,.none,.none,.none,i0 2537,i0 98,s 2538 hn2]
noncomputable def ob103 (P:Params):Obj:=Obj.mk (.type "frame") none .plain (Array.mk [some (.ref 117),some (.ref 3),some (.ref 114),none,some (s 2470 hn0),none,some (.ref 0)])
noncomputable def ob104 (P:Params):Obj:=tu [s 2547 hn10,s 2548 (St [104,101,97,100,101,114,115]),s 2549 (St [107]),s 2550 (St [118])]
noncomputable def ob105 (P:Params):Obj:=fs hn23 hn117 (mth 62 0)
noncomputable def ob106 (P:Params):Obj:=co 2544 hn23 hn117 100 2 120 3 276 121 (.ref 122) (.ref 123) (.ref 124) 2551
noncomputable def ob107 (P:Params):Obj:=ob' (.type "function") (.func (FuncData.mk hn23 hn117 (fdP (mth 62 0)) (.stmts (fdB (mth 62 0))) (fdS (mth 62 0)) 3 [] (.ref 119) .none .none (s 2470 hn0) none (.ref 125) .none 0))
noncomputable def ob108 (P:Params):Obj:=tu [s 2557 hn10,s 2558 (St [118,97,108,117,101]),s 2559 hn22,s 2560 (St [114,101,103,101,120])]
noncomputable def ob109 (P:Params):Obj:=fs hn39 hn112 (mth 62 1)
noncomputable def ob110 (P:Params):Obj:=fl (.type "code") [s 2554 hn39,s 2555 hn112,s 2556 hn2,i0 110,i0 2,i0 0,i0 1,i0 3,.ref 127,.bool true,i0 276,.ref 128,.none,.ref 129,.ref 130,.ref 131,i0 2561,i0 110,s 2562 hn2]
noncomputable def ob111 (P:Params):Obj:=fn hn39 hn112 (mth 62 1) (s 2470 hn0) 132
noncomputable def ob112 (P:Params):Obj:=tu [s 2567 hn10]
noncomputable def ob113 (P:Params):Obj:=fs hn41 hn118 (mth 62 2)
noncomputable def ob114 (P:Params):Obj:=co 2564 hn41 hn118 118 1 134 3 276 135 (.ref 136) (.ref 137) (.ref 138) 2568
noncomputable def ob115 (P:Params):Obj:=fn hn41 hn118 (mth 62 2) (s 2470 hn0) 139
noncomputable def ob116 (P:Params):Obj:=tu [s 2574 hn10,s 2575 hn22,s 2576 (St [118,97,108])]
noncomputable def ob117 (P:Params):Obj:=fs hn42 hn119 (mth 62 3)
noncomputable def ob118 (P:Params):Obj:=co 2571 hn42 hn119 121 3 141 3 276 142 (.ref 143) (.ref 144) (.ref 145) 2577
noncomputable def ob119 (P:Params):Obj:=fn hn42 hn119 (mth 62 3) (s 2470 hn0) 146
noncomputable def ob120 (P:Params):Obj:=fs hn43 hn120 (mth 62 4)
noncomputable def ob121 (P:Params):Obj:=co 2580 hn43 hn120 125 2 148 3 276 149 .none .none (.ref 150) 2583
noncomputable def ob122 (P:Params):Obj:=fn hn43 hn120 (mth 62 4) (s 2470 hn0) 151
noncomputable def ob123 (P:Params):Obj:=tu [s 2589 hn10,s 2590 hn22]
noncomputable def ob124 (P:Params):Obj:=fs hn44 hn121 (mth 62 5)
noncomputable def ob125 (P:Params):Obj:=co 2586 hn44 hn121 129 2 153 3 276 154 (.ref 155) (.ref 156) (.ref 157) 2591
noncomputable def ob126 (P:Params):Obj:=fn hn44 hn121 (mth 62 5) (s 2470 hn0) 158
noncomputable def ob127 (P:Params):Obj:=tu [s 2597 hn10,s 2598 hn22]
noncomputable def ob128 (P:Params):Obj:=fs hn45 hn122 (mth 62 6)
noncomputable def ob129 (P:Params):Obj:=co 2594 hn45 hn122 132 2 160 3 276 161 (.ref 162) (.ref 163) (.ref 164) 2599
noncomputable def ob130 (P:Params):Obj:=fn hn45 hn122 (mth 62 6) (s 2470 hn0) 165
noncomputable def ob131 (P:Params):Obj:=fs hn46 hn123 (mth 62 7)
noncomputable def ob132 (P:Params):Obj:=co 2602 hn46 hn123 135 2 167 3 276 168 .none .none (.ref 169) 2605
noncomputable def ob133 (P:Params):Obj:=fn hn46 hn123 (mth 62 7) (s 2470 hn0) 170
noncomputable def ob134 (P:Params):Obj:=tu [s 2611 hn10,s 2612 hn22,s 2613 (St [100,101,102,97,117,108,116]),s 2614 (St [107]),s 2615 (St [118])]
noncomputable def ob135 (P:Params):Obj:=fs hn47 hn124 (mth 62 8)
noncomputable def ob136 (P:Params):Obj:=co 2608 hn47 hn124 139 3 173 3 276 174 (.ref 175) (.ref 176) (.ref 177) 2616
noncomputable def ob137 (P:Params):Obj:=ob' (.type "function") (.func (FuncData.mk hn47 hn124 (fdP (mth 62 8)) (.stmts (fdB (mth 62 8))) (fdS (mth 62 8)) 3 [] (.ref 172) .none .none (s 2470 hn0) none (.ref 178) .none 0))
noncomputable def ob138 (P:Params):Obj:=fs hn48 hn125 (mth 62 9)
noncomputable def ob139 (P:Params):Obj:=co 2619 hn48 hn125 146 1 180 3 276 181 .none .none (.ref 182) 2622
noncomputable def ob140 (P:Params):Obj:=fn hn48 hn125 (mth 62 9) (s 2470 hn0) 183
noncomputable def ob141 (P:Params):Obj:=fs hn49 hn126 (mth 62 10)
noncomputable def ob142 (P:Params):Obj:=co 2625 hn49 hn126 149 1 185 3 276 186 .none .none (.ref 187) 2628
noncomputable def ob143 (P:Params):Obj:=fn hn49 hn126 (mth 62 10) (s 2470 hn0) 188
noncomputable def ob144 (P:Params):Obj:=tu [s 2634 hn10]
noncomputable def ob145 (P:Params):Obj:=fs hn50 hn127 (mth 62 11)
noncomputable def ob146 (P:Params):Obj:=co 2631 hn50 hn127 152 1 190 3 276 191 (.ref 192) (.ref 193) (.ref 194) 2635
noncomputable def ob147 (P:Params):Obj:=fn hn50 hn127 (mth 62 11) (s 2470 hn0) 195
noncomputable def ob148 (P:Params):Obj:=tu [s 2641 hn10]
noncomputable def ob149 (P:Params):Obj:=fs hn24 hn128 (mth 62 12)
noncomputable def ob150 (P:Params):Obj:=co 2638 hn24 hn128 155 1 197 3 276 198 (.ref 199) (.ref 200) (.ref 201) 2642
noncomputable def ob151 (P:Params):Obj:=fn hn24 hn128 (mth 62 12) (s 2470 hn0) 202
noncomputable def ob152 (P:Params):Obj:=fs hn51 hn129 (mth 62 13)
noncomputable def ob153 (P:Params):Obj:=co 2645 hn51 hn129 158 1 204 3 276 205 .none .none (.ref 206) 2648
noncomputable def ob154 (P:Params):Obj:=fn hn51 hn129 (mth 62 13) (s 2470 hn0) 207
noncomputable def ob155 (P:Params):Obj:=tu [s 2654 hn10]
noncomputable def ob156 (P:Params):Obj:=fs hn52 hn130 (mth 62 14)
noncomputable def ob157 (P:Params):Obj:=co 2651 hn52 hn130 161 1 209 3 276 210 (.ref 211) (.ref 212) (.ref 213) 2655
noncomputable def ob158 (P:Params):Obj:=fn hn52 hn130 (mth 62 14) (s 2470 hn0) 214
noncomputable def ob159 (P:Params):Obj:=tu [s 2661 hn10,s 2662 hn22,s 2663 (St [118,97,108,117,101])]
noncomputable def ob160 (P:Params):Obj:=fs hn53 hn131 (mth 62 15)
noncomputable def ob161 (P:Params):Obj:=co 2658 hn53 hn131 164 3 216 3 276 217 (.ref 218) (.ref 219) (.ref 220) 2664
noncomputable def ob162 (P:Params):Obj:=fn hn53 hn131 (mth 62 15) (s 2470 hn0) 221
noncomputable def ob163 (P:Params):Obj:=tu [s 2670 hn10,s 2671 (St [95,110,97,109,101]),s 2672 (St [95,118,97,108,117,101]),s 2673 (St [95,112,97,114,97,109,115])]
noncomputable def ob164 (P:Params):Obj:=fs hn54 hn132 (mth 62 16)
noncomputable def ob165 (P:Params):Obj:=co 2667 hn54 hn132 167 3 223 11 276 224 (.ref 225) (.ref 226) (.ref 227) 2674
noncomputable def ob166 (P:Params):Obj:=fn hn54 hn132 (mth 62 16) (s 2470 hn0) 228
noncomputable def ob167 (P:Params):Obj:=tu [s 2677 (St [95,104,101,97,100,101,114,115])]
noncomputable def ob168 (P:Params):Obj:=ob' (.type "dict") (.dict (Array.mk [ke P 2539 hn108 (s 2470 hn0),ke P 2543 hn37 (.int 98 2542),ke P 2553 hn23 (.ref 126),ke P 2563 hn39 (.ref 133),ke P 2570 hn41 (.ref 140),ke P 2579 hn42 (.ref 147),ke P 2585 hn43 (.ref 152),ke P 2593 hn44 (.ref 159),ke P 2601 hn45 (.ref 166),ke P 2607 hn46 (.ref 171),ke P 2618 hn47 (.ref 179),ke P 2624 hn48 (.ref 184),ke P 2630 hn49 (.ref 189),ke P 2637 hn50 (.ref 196),ke P 2644 hn24 (.ref 203),ke P 2650 hn51 (.ref 208),ke P 2657 hn52 (.ref 215),ke P 2666 hn53 (.ref 222),ke P 2676 hn54 (.ref 229),ke P 2678 hn38 (.ref 230),ke P 2680 hn20 (.ref 233),ke P 2682 hn21 (.ref 234),ke P 2683 hn3 .none]) 4)
noncomputable def ob169 (P:Params):Obj:=Obj.mk (.type "type") none (.cls (ClassData.mk hn7 [.type "object"] [.ref 232,.type "object"] 231 hn7 true [] [] false none false)) (Array.mk [none,none,some (s 2532 hn7),some (s 2540 hn7),some (.builtin "object.__new__"),some (.bool true)])
noncomputable def ob170 (P:Params):Obj:=fl (.type "getset_descriptor") [s 2679 hn20,.ref 232,.builtin "function.__dict__",.builtin "function.__dict__#set"]
noncomputable def ob171 (P:Params):Obj:=fl (.type "getset_descriptor") [s 2681 hn21,.ref 232,.builtin "ExceptionGroup.__weakref__",.none]
noncomputable def ob172 (P:Params):Obj:=fl (.type "super") [.ref 232,.ref 232,.ref 232]
noncomputable def ob173 (P:Params):Obj:=fl (.type "builtin_function_or_method") [.builtin "object.__init_subclass__",.ref 232]
noncomputable def tr_c63:Params→BT:=nd boot_o_0 (nd ob0 (nd ob97 (nd boot_o_7 (nd ob7 (nd ob22 (nd ob51 (lf ob7) (lf ob20)) (nd ob7 (lf ob126) (lf ob7))) (nd ob35 (nd ob67 (lf ob116) (lf ob153)) (nd ob96 (lf ob134) ni))) (nd ob15 (nd ob7 (nd ob59 (lf ob20) (lf ob148)) (nd ob90 (lf ob7) (lf ob168))) (nd ob43 (nd ob75 (lf ob121) (lf ob158)) (nd ob91 (lf ob139) ni)))) (nd ob3 (nd ob11 (nd ob7 (nd ob55 (lf ob109) (lf ob146)) (nd ob86 (lf ob7) (lf ob164))) (nd ob39 (nd ob71 (lf ob119) (lf ob155)) (nd ob7 (lf ob137) ni))) (nd ob19 (nd ob30 (nd ob63 (lf ob114) (lf ob151)) (nd ob94 (lf ob133) (lf ob172))) (nd ob47 (nd ob78 (lf ob123) (lf ob7)) (nd ob7 (lf ob141) ni))))) (nd boot_o_5 (nd boot_o_9 (nd ob9 (nd ob20 (nd ob53 (lf ob108) (lf ob7)) (nd ob85 (lf ob20) (lf ob163))) (nd ob37 (nd ob69 (lf ob117) (lf ob7)) (nd ob99 (lf ob135) ni))) (nd ob17 (nd ob29 (nd ob61 (lf ob7) (lf ob149)) (nd ob92 (lf ob131) (lf ob170))) (nd ob45 (nd ob76 (lf ob7) (lf ob20)) (nd ob20 (lf ob7) ni)))) (nd ob5 (nd ob13 (nd ob27 (nd ob57 (lf ob111) (lf ob7)) (nd ob88 (lf ob129) (lf ob166))) (nd ob41 (nd ob7 (lf ob20) (lf ob156)) (nd ob102 (lf ob20) ni))) (nd ob98 (nd ob32 (nd ob65 (lf ob7) (lf ob20)) (nd ob91 (lf ob7) ni)) (nd ob49 (nd ob81 (lf ob124) (lf ob161)) (nd ob106 (lf ob143) ni)))))) (nd ob1 (nd boot_o_4 (nd boot_o_8 (nd ob8 (nd ob7 (nd ob52 (lf ob20) (lf ob144)) (nd ob20 (lf ob7) (lf ob20))) (nd ob36 (nd ob68 (lf ob7) (lf ob154)) (nd ob7 (lf ob7) ni))) (nd ob16 (nd ob20 (nd ob60 (lf ob112) (lf ob7)) (nd ob91 (lf ob20) (lf ob169))) (nd ob44 (nd ob7 (lf ob122) (lf ob7)) (nd ob7 (lf ob140) ni)))) (nd ob4 (nd ob12 (nd ob26 (nd ob56 (lf ob110) (lf ob147)) (nd ob87 (lf ob128) (lf ob165))) (nd ob40 (nd ob72 (lf ob7) (lf ob7)) (nd ob101 (lf ob7) ni))) (nd ob7 (nd ob31 (nd ob64 (lf ob115) (lf ob7)) (nd ob90 (lf ob91) (lf ob173))) (nd ob48 (nd ob80 (lf ob7) (lf ob160)) (nd ob105 (lf ob142) ni))))) (nd boot_o_6 (nd boot_o_10 (nd ob10 (nd ob25 (nd ob54 (lf ob7) (lf ob145)) (nd ob7 (lf ob127) (lf ob7))) (nd ob38 (nd ob70 (lf ob118) (lf ob20)) (nd ob100 (lf ob136) ni))) (nd ob18 (nd ob7 (nd ob62 (lf ob113) (lf ob150)) (nd ob93 (lf ob132) (lf ob171))) (nd ob46 (nd ob77 (lf ob20) (lf ob159)) (nd ob104 (lf ob20) ni)))) (nd ob6 (nd ob14 (nd ob28 (nd ob58 (lf ob7) (lf ob20)) (nd ob89 (lf ob130) (lf ob167))) (nd ob42 (nd ob20 (lf ob120) (lf ob157)) (nd ob103 (lf ob138) ni))) (nd ob21 (nd ob34 (nd ob66 (lf ob20) (lf ob152)) (nd ob95 (lf ob20) ni)) (nd ob50 (nd ob82 (lf ob125) (lf ob162)) (nd ob107 (lf ob7) ni))))))
noncomputable def S_c63 (w:World) (os:OsState):SharedT:=⟨tr_c63 w.params,237,theLife,#[],⟨0,0,0,0⟩,2686,os⟩
noncomputable def ob174 (P:Params):Obj:=dl (ke P 165 hn19 (s 2686 hn1)::(gl P).take 79)
noncomputable def ob175 (P:Params):Obj:=fl .none [i0 2,i0 0,.ref 37,i0 7,i0 0,.ref 44,i0 37,i0 0,.ref 90,i0 93,i0 0,.ref 100,i0 98,i0 0,.ref 117,i0 170,i0 0,.ref 242,i0 175,i0 0,.ref 249,i0 179,i0 0,.ref 256,i0 181,i0 0,.ref 263,i0 197,i0 0,.ref 268,i0 205,i0 0,.ref 273,i0 207,i0 0,.ref 280,i0 217,i0 0,.ref 285,i0 223,i0 0,.ref 290,i0 230,i0 0,.ref 295,i0 236,i0 0,.ref 300]
noncomputable def ob176 (P:Params):Obj:=tu [s 2691 (St [115,99,114,105,112,116]),s 2692 (St [100,114,97,119,115]),s 2693 (St [97,116]),s 2694 (St [110,117,109,98,101,114])]
noncomputable def ob177 (P:Params):Obj:=fs hn26 hn26 (stm 64)
noncomputable def ob178 (P:Params):Obj:=co 2688 hn26 hn26 170 1 237 3 276 238 (.ref 239) (.ref 240) (.ref 241) 2695
noncomputable def ob179 (P:Params):Obj:=fn hn26 hn26 (stm 64) (s 2686 hn1) 242
noncomputable def ob180 (P:Params):Obj:=tu [s 2701 (St [112,108,97,99,101]),s 2702 (St [100,114,101,115,115])]
noncomputable def ob181 (P:Params):Obj:=fs hn27 hn27 (stm 65)
noncomputable def ob182 (P:Params):Obj:=co 2698 hn27 hn27 175 2 244 3 276 245 (.ref 246) (.ref 247) (.ref 248) 2703
noncomputable def ob183 (P:Params):Obj:=fn hn27 hn27 (stm 65) (s 2686 hn1) 249
noncomputable def ob184 (P:Params):Obj:=tu [s 2709 (St [100,114,97,119])]
noncomputable def ob185 (P:Params):Obj:=fs hn28 hn28 (stm 66)
noncomputable def ob186 (P:Params):Obj:=co 2706 hn28 hn28 179 1 251 3 276 252 (.ref 253) (.ref 254) (.ref 255) 2710
noncomputable def ob187 (P:Params):Obj:=fn hn28 hn28 (stm 66) (s 2686 hn1) 256
noncomputable def ob188 (P:Params):Obj:=tu [s 2716 (St [100,114,97,119,115]),s 2717 (St [114,111,119,115]),s 2718 (St [116,117,114,110]),s 2719 (St [112,108,97,99,101]),s 2720 (St [100,114,97,119]),s 2721 (St [100,114,101,115,115]),s 2722 hn22,s 2723 (St [109,97,114,107])]
noncomputable def ob189 (P:Params):Obj:=fs hn29 hn29 (stm 67)
noncomputable def ob190 (P:Params):Obj:=co 2713 hn29 hn29 181 1 258 3 276 259 (.ref 260) (.ref 261) (.ref 262) 2724
noncomputable def ob191 (P:Params):Obj:=fn hn29 hn29 (stm 67) (s 2686 hn1) 263
noncomputable def ob192 (P:Params):Obj:=fs hn30 hn30 (stm 68)
noncomputable def ob193 (P:Params):Obj:=co 2727 hn30 hn30 197 1 265 3 276 266 .none .none (.ref 267) 2730
noncomputable def ob194 (P:Params):Obj:=fn hn30 hn30 (stm 68) (s 2686 hn1) 268
noncomputable def ob195 (P:Params):Obj:=fs hn31 hn31 (stm 69)
noncomputable def ob196 (P:Params):Obj:=co 2733 hn31 hn31 205 1 270 3 276 271 .none .none (.ref 272) 2736
noncomputable def ob197 (P:Params):Obj:=fn hn31 hn31 (stm 69) (s 2686 hn1) 273
noncomputable def ob198 (P:Params):Obj:=tu [s 2742 (St [98,111,97,114,100]),s 2743 (St [99,104,111,105,99,101]),s 2744 (St [104,101,114,101]),s 2745 (St [116,101,120,116]),s 2746 (St [116,117,114,110]),s 2747 (St [112,108,97,99,101,115]),s 2748 (St [112,108,97,99,101])]
noncomputable def ob199 (P:Params):Obj:=fs hn32 hn32 (stm 70)
noncomputable def ob200 (P:Params):Obj:=co 2739 hn32 hn32 207 3 275 3 276 276 (.ref 277) (.ref 278) (.ref 279) 2749
noncomputable def ob201 (P:Params):Obj:=fn hn32 hn32 (stm 70) (s 2686 hn1) 280
noncomputable def ob202 (P:Params):Obj:=fs hn33 hn33 (stm 71)
noncomputable def ob203 (P:Params):Obj:=co 2752 hn33 hn33 217 1 282 3 276 283 .none .none (.ref 284) 2755
noncomputable def ob204 (P:Params):Obj:=fn hn33 hn33 (stm 71) (s 2686 hn1) 285
noncomputable def ob205 (P:Params):Obj:=fs hn34 hn34 (stm 72)
noncomputable def ob206 (P:Params):Obj:=co 2758 hn34 hn34 223 2 287 3 276 288 .none .none (.ref 289) 2761
noncomputable def ob207 (P:Params):Obj:=fn hn34 hn34 (stm 72) (s 2686 hn1) 290
noncomputable def ob208 (P:Params):Obj:=fs hn35 hn35 (stm 73)
noncomputable def ob209 (P:Params):Obj:=co 2764 hn35 hn35 230 2 292 3 276 293 .none .none (.ref 294) 2767
noncomputable def ob210 (P:Params):Obj:=fn hn35 hn35 (stm 73) (s 2686 hn1) 295
noncomputable def ob211 (P:Params):Obj:=fs hn36 hn36 (stm 74)
noncomputable def ob212 (P:Params):Obj:=co 2770 hn36 hn36 236 1 297 3 276 298 .none .none (.ref 299) 2773
noncomputable def ob213 (P:Params):Obj:=fn hn36 hn36 (stm 74) (s 2686 hn1) 300
noncomputable def tr_f:Params→BT:=nd boot_o_0 (nd ob0 (nd ob174 (nd boot_o_7 (nd ob7 (nd ob22 (nd ob51 (nd ob7 (lf ob185) ni) (lf ob20)) (nd ob7 (nd ob126 (lf ob7) ni) (lf ob7))) (nd ob35 (nd ob67 (nd ob116 (lf ob20) ni) (lf ob153)) (nd ob96 (lf ob134) (lf ob176)))) (nd ob15 (nd ob7 (nd ob59 (nd ob20 (lf ob190) ni) (lf ob148)) (nd ob90 (nd ob7 (lf ob209) ni) (lf ob168))) (nd ob43 (nd ob75 (nd ob121 (lf ob199) ni) (lf ob158)) (nd ob91 (lf ob139) (lf ob7))))) (nd ob3 (nd ob11 (nd ob7 (nd ob55 (nd ob109 (lf ob20) ni) (lf ob146)) (nd ob86 (nd ob7 (lf ob207) ni) (lf ob164))) (nd ob39 (nd ob71 (nd ob119 (lf ob7) ni) (lf ob155)) (nd ob7 (lf ob137) (lf ob179)))) (nd ob19 (nd ob30 (nd ob63 (nd ob114 (lf ob192) ni) (lf ob151)) (nd ob94 (nd ob133 (lf ob211) ni) (lf ob172))) (nd ob47 (nd ob78 (nd ob123 (lf ob20) ni) (lf ob7)) (nd ob7 (lf ob141) (lf ob7)))))) (nd boot_o_5 (nd boot_o_9 (nd ob9 (nd ob20 (nd ob53 (nd ob108 (lf ob187) ni) (lf ob7)) (nd ob85 (nd ob20 (lf ob205) ni) (lf ob163))) (nd ob37 (nd ob69 (nd ob117 (lf ob196) ni) (lf ob7)) (nd ob99 (lf ob135) (lf ob177)))) (nd ob17 (nd ob29 (nd ob61 (nd ob7 (lf ob7) ni) (lf ob149)) (nd ob92 (nd ob131 (lf ob7) ni) (lf ob170))) (nd ob45 (nd ob76 (nd ob7 (lf ob201) ni) (lf ob20)) (nd ob20 (lf ob7) (lf ob182))))) (nd ob5 (nd ob13 (nd ob27 (nd ob57 (nd ob111 (lf ob7) ni) (lf ob7)) (nd ob88 (nd ob129 (lf ob20) ni) (lf ob166))) (nd ob41 (nd ob7 (nd ob20 (lf ob198) ni) (lf ob156)) (nd ob102 (lf ob20) (lf ob20)))) (nd ob175 (nd ob32 (nd ob65 (nd ob7 (lf ob194) ni) (lf ob20)) (nd ob91 (nd ob7 (lf ob213) ni) (lf ob7))) (nd ob49 (nd ob81 (nd ob124 (lf ob203) ni) (lf ob161)) (nd ob106 (lf ob143) (lf ob184))))))) (nd ob1 (nd boot_o_4 (nd boot_o_8 (nd ob8 (nd ob7 (nd ob52 (nd ob20 (lf ob186) ni) (lf ob144)) (nd ob20 (nd ob7 (lf ob20) ni) (lf ob20))) (nd ob36 (nd ob68 (nd ob7 (lf ob195) ni) (lf ob154)) (nd ob7 (lf ob7) (lf ob7)))) (nd ob16 (nd ob20 (nd ob60 (nd ob112 (lf ob191) ni) (lf ob7)) (nd ob91 (nd ob20 (lf ob210) ni) (lf ob169))) (nd ob44 (nd ob7 (nd ob122 (lf ob200) ni) (lf ob7)) (nd ob7 (lf ob140) (lf ob181))))) (nd ob4 (nd ob12 (nd ob26 (nd ob56 (nd ob110 (lf ob188) ni) (lf ob147)) (nd ob87 (nd ob128 (lf ob7) ni) (lf ob165))) (nd ob40 (nd ob72 (nd ob7 (lf ob20) ni) (lf ob7)) (nd ob101 (lf ob7) (lf ob7)))) (nd ob7 (nd ob31 (nd ob64 (nd ob115 (lf ob193) ni) (lf ob7)) (nd ob90 (nd ob91 (lf ob212) ni) (lf ob173))) (nd ob48 (nd ob80 (nd ob7 (lf ob202) ni) (lf ob160)) (nd ob105 (lf ob142) (lf ob20)))))) (nd boot_o_6 (nd boot_o_10 (nd ob10 (nd ob25 (nd ob54 (nd ob7 (lf ob7) ni) (lf ob145)) (nd ob7 (nd ob127 (lf ob206) ni) (lf ob7))) (nd ob38 (nd ob70 (nd ob118 (lf ob197) ni) (lf ob20)) (nd ob100 (lf ob136) (lf ob178)))) (nd ob18 (nd ob7 (nd ob62 (nd ob113 (lf ob20) ni) (lf ob150)) (nd ob93 (nd ob132 (lf ob20) ni) (lf ob171))) (nd ob46 (nd ob77 (nd ob20 (lf ob7) ni) (lf ob159)) (nd ob104 (lf ob20) (lf ob183))))) (nd ob6 (nd ob14 (nd ob28 (nd ob58 (nd ob7 (lf ob189) ni) (lf ob20)) (nd ob89 (nd ob130 (lf ob208) ni) (lf ob167))) (nd ob42 (nd ob20 (nd ob120 (lf ob7) ni) (lf ob157)) (nd ob103 (lf ob138) (lf ob180)))) (nd ob21 (nd ob34 (nd ob66 (nd ob20 (lf ob7) ni) (lf ob152)) (nd ob95 (lf ob20) (lf ob20))) (nd ob50 (nd ob82 (nd ob125 (lf ob204) ni) (lf ob162)) (nd ob107 (lf ob7) (lf ob7)))))))
noncomputable def S_f (w:World) (os:OsState):SharedT:=⟨tr_f w.params,302,theLife,#[],⟨0,0,0,0⟩,2776,os⟩
end
end
section
set_option maxHeartbeats 0
noncomputable abbrev TS:=@PySem.W.Fast.tw10110043849684766642
noncomputable abbrev TT:=PySem.W.Fast.tw14364793385576792824
noncomputable abbrev TX:=PySem.W.Fast.tw12563942051412417395
noncomputable def bE:List Stmt:=behindTheImports pw
noncomputable def env:Env:={ scope:=pw.main.scope,locals:=mainNs,globals:=mainNs,cells:=[],code:=.ref 30,frame:=some 31 }
noncomputable def cE:Code:=.body bE env
noncomputable def grp (i j:Nat):List Stmt:=(bE.drop i).take (j - i)
noncomputable def thr (l:List Stmt) (p:Pos):Thread:=⟨(TX l env).wrap doneF deadEnd id id,cE,p,[topFrame ⟨0,0,0,0⟩]⟩
theorem g1 (w:World) (os:OsState):TS TT pw w 28 (some (.ref 6)) 1 100 (S_b w os) (thr (grp 0 5) ⟨0,0,0,0⟩)=some (.next,S_c5 w os,cE,⟨35,0,35,8⟩):=by kernel_rfl!
end
section
set_option maxHeartbeats 0
noncomputable section
noncomputable def qv:Program:={ pw with main:={ pw.main with body:=[stm 74] } }
noncomputable def lz:List Str:=pw.boundNames.filter fun n=>n != ("law":Str)
noncomputable def H0 (P:Params):Heap:=absHeap (tr_0 P) 28 theLife
noncomputable def H1 (P:Params):Heap:=absHeap (tr_f P) 302 theLife
noncomputable abbrev OSN:=@PySem.W.Fast.tw4187177175401517315
theorem isLaw:(match stm 74 with | .FunctionDef n ..=>n==("law":Str)|_=>false)=true:=by kernel_rfl!
theorem size0 (w:World):((H0 w.params).isNs mainGlobals&&(#[]:Array GenState).size==0,(H0 w.params).objs.size,(H0 w.params).nsMap mainGlobals "__annotations__")=(true,28,some (.ref 6)):=by kernel_rfl!
theorem looksA (w:World) (os:OsState):(staticsOk (importedModules pw.main.body) (H0 w.params) (H1 w.params)&&namesBound pw (H1 w.params)&&gensDone ⟨H1 w.params,#[],⟨0,0,0,0⟩,2776,os⟩&&laidKept (H0 w.params) (H1 w.params))=true:=by kernel_rfl!
end
end
section
set_option maxHeartbeats 0
noncomputable section
theorem looksB (w:World) (os:OsState):OSN qv lz (importedModules pw.main.body) (fun _=>true) true ⟨H1 w.params,#[],⟨0,0,0,0⟩,2776,os⟩=openGood qv lz:=by kernel_rfl!
end
end
section
set_option maxHeartbeats 0
noncomputable section
noncomputable abbrev IE:=@PySem.W.Fast.tw10274390034422433532
noncomputable abbrev FM:=@PySem.W.Fast.tw14289696077712309145
noncomputable abbrev STt:=@PySem.W.Fast.tw1435165496053646825
theorem gOpen (w:World):((IE TT (opening pw) w 20000 (STt (opening pw)).1 (STt (opening pw)).2).bind (FM pw)).map (fun s=>(s.heap,s.gens,s.drawn,s.toks))=some (H0 w.params,#[],⟨0,0,0,0⟩,276):=by kernel_rfl!
end
end
section
set_option maxHeartbeats 0
noncomputable abbrev TG:=@PySem.W.Fast.tw15667345088766844465
noncomputable abbrev DN:=@PySem.W.Fast.tw11892475500146522536
theorem gPre (w:World) (os:OsState):TG TT pw w 28 (some (.ref 6)) 12 (S_0 w os).abs (topStub pw)=some ((S_a w os).abs,⟨DN TT cE,cE,⟨0,0,0,0⟩,[topFrame ⟨0,0,0,0⟩]⟩):=by kernel_rfl!
theorem gBlk (w:World) (os:OsState):TS TT pw w 28 (some (.ref 6)) 1 1 (S_a w os) (blockOf bE env cE ⟨0,0,0,0⟩ [topFrame ⟨0,0,0,0⟩])=some (.next,S_b w os,cE,⟨0,0,0,0⟩):=by kernel_rfl!
theorem g1' (w:World) (os:OsState) (p:Pos):TS TT pw w 28 (some (.ref 6)) 1 100 (S_b w os) (thr (grp 0 5) p)=some (.next,S_c5 w os,cE,⟨35,0,35,8⟩):=by kernel_rfl!
theorem g3' (w:World) (os:OsState) (p:Pos):TS TT pw w 28 (some (.ref 6)) 1 1000 (S_c6 w os) (thr (grp 6 57) p)=some (.next,S_c57 w os,cE,⟨91,0,91,9⟩):=by kernel_rfl!
theorem g5' (w:World) (os:OsState) (p:Pos):TS TT pw w 28 (some (.ref 6)) 1 1000 (S_c58 w os) (thr (grp 58 62) p)=some (.next,S_c62 w os,cE,⟨97,0,97,20⟩):=by kernel_rfl!
theorem g6' (w:World) (os:OsState) (p:Pos):TS TT pw w 28 (some (.ref 6)) 1 1000 (S_c62 w os) (thr (grp 62 63) p)=some (.next,S_c63 w os,cE,⟨98,0,168,16⟩):=by kernel_rfl!
theorem g7' (w:World) (os:OsState) (p:Pos):TS TT pw w 28 (some (.ref 6)) 1 1000 (S_c63 w os) (thr (grp 63 75) p)=some (.next,S_f w os,cE,⟨236,0,249,35⟩):=by kernel_rfl!
theorem gFin (w:World) (os:OsState):topRun treeTable pw w 28 (some (.ref 6)) 2 (S_f w os).abs ⟨doneF .next,cE,⟨236,0,249,35⟩,[topFrame ⟨0,0,0,0⟩]⟩=some (S_f w os).abs:=by kernel_rfl!
end
section
set_option maxHeartbeats 0
theorem g4a (w:World) (os:OsState) (p:Pos):TS TT pw (w.withFollow "special-get-raises" false) 28 (some (.ref 6)) 1 1000 (S_c57 (w.withFollow "special-get-raises" false) os) (thr (grp 57 58) p)=some (.next,S_c58 (w.withFollow "special-get-raises" false) os,cE,⟨92,0,92,17⟩):=by kernel_rfl!
theorem g4b (w:World) (os:OsState) (p:Pos):TS TT pw (w.withFollow "special-get-raises" true) 28 (some (.ref 6)) 1 1000 (S_c57 (w.withFollow "special-get-raises" true) os) (thr (grp 57 58) p)=some (.next,S_c58 (w.withFollow "special-get-raises" true) os,cE,⟨92,0,92,17⟩):=by kernel_rfl!
theorem g4' (w:World) (os:OsState) (p:Pos):TS TT pw w 28 (some (.ref 6)) 1 1000 (S_c57 w os) (thr (grp 57 58) p)=some (.next,S_c58 w os,cE,⟨92,0,92,17⟩) :=
  byRow2 "special-get-raises" (P:=fun w=>TS TT pw w 28 (some (.ref 6)) 1 1000 (S_c57 w os) (thr (grp 57 58) p)=some (.next,S_c58 w os,cE,⟨92,0,92,17⟩)) (fun w=>g4a w os p) (fun w=>g4b w os p) w
end
section
noncomputable abbrev B0:List Frame:=[topFrame ⟨0,0,0,0⟩]
noncomputable abbrev R (w:World):=segRunT treeTable pw w 28 (some (.ref 6)) 1
noncomputable def Ev (w:World) {α:Type} (k:Nat) (m:Sem α) (s:SharedT) (a:α) (s':SharedT):Prop :=
  ∀ pos:Pos,∃ pos':Pos,∀ (K:α→Sem Fin) (H:Value→Sem Fin) (gd:Bool→Bool) (lv:List Value→List Value) (N:Nat),
    R w (N+k) s ⟨m.wrap K H gd lv,cE,pos,B0⟩=R w N s' ⟨K a,cE,pos',B0⟩
section
variable {w:World} {α β:Type} {s s' s'':SharedT} {k k':Nat}
theorem ev_pure {a:α}:Ev w 0 (Pure.pure a) s a s:=fun pos=>⟨pos,fun _ _ _ _ _=>rfl⟩
theorem ev_bind {m:Sem α} {f:α→Sem β} {a:α} {b:β} (h:Ev w k m s a s') (h':Ev w k' (f a) s' b s''):Ev w (k'+k) (m >>= f) s b s'':=fun pos=>by
  obtain ⟨p1,e1⟩:=h pos
  obtain ⟨p2,e2⟩:=h' p1
  refine ⟨p2,fun K H gd lv N=>?_⟩
  rw [Sem.bind_eq_wrap',Sem.wrap_wrap,← Nat.add_assoc,e1,e2]
theorem ev_map {m:Sem α} {f:α→β} {a:α} (h:Ev w k m s a s'):Ev w k (f <$> m) s (f a) s':=by
  have:=ev_bind (f:=fun a=>(Pure.pure (f a):Sem β)) h ev_pure
  rw [Nat.zero_add] at this
  exact this
theorem ev_keep {m:Sem α} {a:α} {vs:List Value} (h:Ev w k m s a s'):Ev w k (m.keep vs) s a s':=fun pos=>by
  obtain ⟨p1,e1⟩:=h pos
  refine ⟨p1,fun K H gd lv N=>?_⟩
  rw [Sem.keep_eq_wrap,Sem.wrap_wrap,e1]
  rfl
theorem ev_holding {m:Sem α} {a:α} {vs:List Value} (h:Ev w k m s a s'):Ev w k (holding vs m) s a s':=by
  rw [holding_eq_keep];exact ev_keep h
theorem ev_try {m:Sem α} {a:α} {c:Value→Sem α} (h:Ev w k m s a s'):Ev w k (m.tryCatch c) s a s':=fun pos=>by
  obtain ⟨p1,e1⟩:=h pos
  refine ⟨p1,fun K H gd lv N=>?_⟩
  rw [Sem.tryCatch_eq_wrap,Sem.wrap_wrap,e1]
  rfl
theorem ev_onRaise {m:Sem α} {a:α} {c:Value→Sem Unit} (h:Ev w k m s a s'):Ev w k (m.onRaise c) s a s':=fun pos=>by
  obtain ⟨p1,e1⟩:=h pos
  refine ⟨p1,fun K H gd lv N=>?_⟩
  rw [Sem.onRaise_eq_wrap,Sem.wrap_wrap,e1]
  rfl
theorem ev_fresh:Ev w 1 fresh s s.toks { s with toks:=s.toks+1 }:=fun pos=>by
  obtain ⟨T,n,life,gens,drawn,toks,os⟩:=s
  exact ⟨pos,fun K H gd lv N=>rfl⟩
theorem ev_at {p:Pos}:Ev w 1 (standAt p) s () s:=fun pos=>by
  obtain ⟨T,n,life,gens,drawn,toks,os⟩:=s
  exact ⟨p,fun K H gd lv N=>rfl⟩
theorem ev_rule {t:String}:Ev w 1 (rule t) s () s:=fun pos=>by
  obtain ⟨T,n,life,gens,drawn,toks,os⟩:=s
  exact ⟨pos,fun K H gd lv N=>rfl⟩
theorem ev_point:Ev w 1 point s () s:=fun pos=>by
  obtain ⟨T,n,life,gens,drawn,toks,os⟩:=s
  exact ⟨pos,fun K H gd lv N=>rfl⟩
theorem ev_ask:Ev w 1 ask s ⟨pw,w.params⟩ s:=fun pos=>by
  obtain ⟨T,n,life,gens,drawn,toks,os⟩:=s
  exact ⟨pos,fun K H gd lv N=>rfl⟩
theorem ev_loadPart {a:Addr} {part:Option Value} {o:Obj} (lt:a<s.n) (g:s.tree.get a=some o) (al:alive o=some o):Ev w 1 (loadPart a part) s o s:=fun pos=>by
  obtain ⟨T,n,life,gens,drawn,toks,os⟩:=s
  refine ⟨pos,fun K H gd lv N=>?_⟩
  have lt':Nat.blt a n=true:=Nat.ble_eq_true_of_le lt
  dsimp only at g
  have e:stepT (denote treeTable) pw w ⟨T,n,life,gens,drawn,toks,os⟩ ⟨(loadPart a part).wrap K H gd lv,cE,pos,B0⟩=some (⟨T,n,life,gens,drawn,toks,os⟩,⟨K o,cE,pos,B0⟩):=by
    show (match Nat.blt a n with|true=>_|false=>_)=_
    rw [lt']
    show (match T.get a with|some o=>_|none=>_)=_
    rw [g]
    show (match alive o with|some o'=>_|none=>_)=_
    rw [al]
    rfl
  show (match stepT (denote treeTable) pw w ⟨T,n,life,gens,drawn,toks,os⟩ ⟨(loadPart a part).wrap K H gd lv,cE,pos,B0⟩ with|some (s',t')=>R w N s' t'|none=>none)=_
  rw [e]
theorem ev_load {a:Addr} {o:Obj} (lt:a<s.n) (g:s.tree.get a=some o) (al:alive o=some o):Ev w 1 (load a) s o s:=ev_loadPart lt g al
theorem ev_updatePart {a:Addr} {part:Option Value} {f:Obj→Obj} {o:Obj} (lo:28≤a) (lt:a<s.n) (g:s.tree.get a=some o) (al:alive o=some o):Ev w 1 (updatePart a part f) s () { s with tree:=s.tree.set a f }:=fun pos=>by
  obtain ⟨T,n,life,gens,drawn,toks,os⟩:=s
  refine ⟨pos,fun K H gd lv N=>?_⟩
  have lt':Nat.blt a n=true:=Nat.ble_eq_true_of_le lt
  dsimp only at g
  have e:stepT (denote treeTable) pw w ⟨T,n,life,gens,drawn,toks,os⟩ ⟨(updatePart a part f).wrap K H gd lv,cE,pos,B0⟩=some (⟨T.set a f,n,life,gens,drawn,toks,os⟩,⟨K (),cE,pos,B0⟩):=by
    show (match Nat.blt a n with|true=>_|false=>_)=_
    rw [lt']
    show (match T.get a with|some o=>_|none=>_)=_
    rw [g]
    show (match alive o with|some o'=>_|none=>_)=_
    rw [al]
    rfl
  have ok:stepOk 28 (some (.ref 6)) ⟨(updatePart a part f).wrap K H gd lv,cE,pos,B0⟩=true:=by
    show (true&&(Nat.ble 28 a||a==mainNs||a==cStatics||some (Value.ref 6)==some (.ref a)))=true
    rw [Nat.ble_eq_true_of_le lo];rfl
  show (match stepOk 28 (some (.ref 6)) ⟨(updatePart a part f).wrap K H gd lv,cE,pos,B0⟩ with
    | false=>none
    | true=>match stepT (denote treeTable) pw w ⟨T,n,life,gens,drawn,toks,os⟩ ⟨(updatePart a part f).wrap K H gd lv,cE,pos,B0⟩ with|some (s',t')=>R w N s' t'|none=>none)=_
  rw [ok]
  show (match stepT (denote treeTable) pw w ⟨T,n,life,gens,drawn,toks,os⟩ ⟨(updatePart a part f).wrap K H gd lv,cE,pos,B0⟩ with|some (s',t')=>R w N s' t'|none=>none)=_
  rw [e]
theorem ev_alloc {o:Obj} (g:((s.tree.ins s.n o).get s.n).isSome=true):Ev w 1 (alloc o) s s.n { s with tree:=s.tree.ins s.n o,n:=s.n+1 }:=fun pos=>by
  obtain ⟨T,n,life,gens,drawn,toks,os⟩:=s
  refine ⟨pos,fun K H gd lv N=>?_⟩
  dsimp only at g
  have e:stepT (denote treeTable) pw w ⟨T,n,life,gens,drawn,toks,os⟩ ⟨(alloc o).wrap K H gd lv,cE,pos,B0⟩=some (⟨T.ins n o,n+1,life,gens,drawn,toks,os⟩,⟨K n,cE,pos,B0⟩):=by
    show (match ((T.ins n o).get n).isSome with|true=>_|false=>_)=_
    rw [g]
    rfl
  show (match stepT (denote treeTable) pw w ⟨T,n,life,gens,drawn,toks,os⟩ ⟨(alloc o).wrap K H gd lv,cE,pos,B0⟩ with|some (s',t')=>R w N s' t'|none=>none)=_
  rw [e]
theorem ev_of_eq {m m':Sem α} {a:α} (e:m=m') (h:Ev w k m' s a s'):Ev w k m s a s':=e▸h
theorem ev_cast {m:Sem α} {a:α} (e:k=k') (h:Ev w k m s a s'):Ev w k' m s a s':=e▸h
end
end
section
set_option maxHeartbeats 0
noncomputable def hs (i:Int):Int:=match Builtin.«int.__hash__» ⟨[.int i 0],[]⟩ with
  | .fresh k=>(match k 0 with | .pure (.done (.ret (.int h _)))=>h|_=>0)
  | _=>0
section
variable {w:World} {s:SharedT} {i:Int} {t:Tok}
theorem ev_hash_call:Ev w 4 (call (.builtin "int.__hash__") [.int i t]) s (.int (hs i) s.toks) { s with toks:=s.toks+1 }:=fun pos=>by
  obtain ⟨T,n,life,gens,drawn,toks,os⟩:=s
  refine ⟨pos,fun K H gd lv N=>?_⟩
  kernel_rfl!
theorem special_hash:specialOf (.int i t) "__hash__"=Pure.pure (some (.builtin "int.__hash__")):=by kernel_rfl!
theorem bind_hash:bindSpecial (.builtin "int.__hash__") (.int i t)=Pure.pure (.builtin "int.__hash__",[.int i t]):=by kernel_rfl!
theorem hs_is (h0:0≤i) (h1:i<2 ^ 31):hs i=i:=by
  have e:hs i=(let h:Int:=(i.natAbs % (2 ^ 61 - 1:Nat):Nat);let h:=if i<0 then -h else h;if h==-1 then -2 else h):=by kernel_rfl!
  rw [e]
  have:i.natAbs % (2 ^ 61 - 1:Nat)=i.natAbs:=Nat.mod_eq_of_lt (by lia)
  simp only [this]
  rw [if_neg (show ¬ i<0 by lia)]
  have:((i.natAbs:Nat):Int)=i:=by lia
  rw [this]
  rw [if_neg]
  simp;lia
theorem ev_bindHash:Ev w 1 (bindSpecialIfBound? (.int i t) "__hash__") s (some (.builtin "int.__hash__",[.int i t])) s:=by
  unfold bindSpecialIfBound?
  rw [special_hash]
  refine ev_bind (k:=0) (k':=1) ev_pure ?_
  dsimp only
  refine ev_bind (k:=1) (k':=0) ev_ask ?_
  rw [bind_hash]
  split
  · exact ev_bind (k:=0) (k':=0) ev_pure ev_pure
  · exact ev_try (ev_bind (k:=0) (k':=0) ev_pure ev_pure)
theorem ev_callHash {r:Sem Value}:Ev w 5 (callSpecialIfBoundUnlessNone? (.int i t) "__hash__" r) s (some (.int (hs i) s.toks)) { s with toks:=s.toks+1 }:=by
  unfold callSpecialIfBoundUnlessNone?
  refine ev_holding ?_
  refine ev_bind (k:=1) (k':=4) ev_bindHash ?_
  dsimp only
  rw [if_neg (by decide)]
  exact ev_bind (k:=4) (k':=0) ev_hash_call ev_pure
theorem ev_pyHash (h0:0≤i) (h1:i<2 ^ 31):Ev w 5 (pyHash (.int i t)) s i { s with toks:=s.toks+1 }:=by
  show Ev w 5 (pyHashByItsType (.int i t)) s i _
  unfold pyHashByItsType
  refine ev_bind (k:=0) (k':=5) (ev_of_eq (show cRoomFor "hash" [Value.int i t]=(Pure.pure ():Sem Unit) by kernel_rfl!) ev_pure) ?_
  rw [special_hash]
  refine ev_bind (k:=0) (k':=5) ev_pure ?_
  rw [if_neg (by decide)]
  refine ev_bind (k:=0) (k':=5) ev_pure ?_
  rw [if_neg (by decide)]
  refine ev_bind (k:=5) (k':=0) ev_callHash ?_
  dsimp only
  rw [hs_is h0 h1]
  unfold pyHashByItsType.reduced
  rw [if_pos (by simp;lia),if_neg (by simp;lia)]
  exact ev_pure
end
end
section
set_option maxHeartbeats 0
section
variable {w:World} {s:SharedT} {i:Int} {t:Tok} {d:Addr} {es:Array DictEntry} {ep:Nat} {h:Int} {part:Option Value}
theorem ev_dictEntries (lt:d<s.n) (g:s.tree.get d=some (dob es ep)):Ev w 1 (dictEntries d part) s es s:=by
  unfold dictEntries
  exact ev_bind (k':=0) (ev_loadPart lt g rfl) ev_pure
theorem ev_dictEpoch (lt:d<s.n) (g:s.tree.get d=some (dob es ep)):Ev w 1 (dictEpoch d part) s ep s:=by
  unfold dictEpoch
  exact ev_bind (k':=0) (ev_loadPart lt g rfl) ev_pure
theorem no_places (hne:∀ e∈es.toList,e.hash≠h):placesWithHash es.size (fun i=>es[i]?.map (·.hash)) h=[]:=by
  unfold placesWithHash
  rw [List.filter_eq_nil_iff]
  intro j hj
  have hj':j<es.size:=by simpa using hj
  simp only [Array.getElem?_eq_getElem hj',Option.map_some,beq_iff_eq,Option.some.injEq]
  exact hne _ (by simp)
theorem ev_dictFind (lt:d<s.n) (g:s.tree.get d=some (dob es ep)) (hne:∀ e∈es.toList,e.hash≠h):Ev w 1 (dictFind d (.int i t) h) s none s:=by
  unfold dictFind
  refine ev_holding ?_
  refine ev_bind (k':=0) (ev_dictEntries lt g) ?_
  dsimp only
  rw [no_places hne]
  dsimp only [List.filterMap_nil,List.all_cons,List.all_nil,carriedByValue,Bool.and_self,if_true]
  exact ev_pure
theorem set_const {f:Obj→Obj}:∀ (T:BT) (a:Nat) (o:Obj),T.get a=some o→T.set a f=T.set a (fun _=>f o)
  | .nil,_,_,h=>by cases h
  | .node v l r,a,o,h=>by
    rw [BT.get_node] at h
    rw [BT.set_node,BT.set_node]
    split
    · rename_i e;rw [if_pos e] at h;cases h;rfl
    · rename_i e;rw [if_neg e] at h
      split
      · rename_i e';rw [if_pos e'] at h;rw [set_const l _ o h]
      · rename_i e';rw [if_neg e'] at h;rw [set_const r _ o h]
theorem set_set {o o':Obj}:∀ (T:BT) (a:Nat),(T.set a (fun _=>o)).set a (fun _=>o')=T.set a (fun _=>o')
  | .nil,_=>rfl
  | .node v l r,a=>by
    rw [BT.set_node,BT.set_node]
    split
    · rename_i e;rw [BT.set_node,if_pos e]
    · rename_i e
      split
      · rename_i e';rw [BT.set_node,if_neg e,if_pos e',set_set l]
      · rename_i e';rw [BT.set_node,if_neg e,if_neg e',set_set r]
theorem ev_push {e:DictEntry} (lo:28≤d) (lt:d<s.n) (g:s.tree.get d=some (dob es ep)) (sz:es.size≤1000) :
    Ev w 3 (updateDictKeys d (·.push e) part) s () { s with tree:=s.tree.set d (fun _=>dob (es.push e) (ep+1)) }:=by
  unfold updateDictKeys
  refine ev_bind (k':=2) (ev_loadPart lt g rfl) ?_
  dsimp only
  refine ev_bind (k':=1) (ev_updatePart lo lt g rfl) ?_
  unfold lookBehind
  rw [set_const _ _ _ g]
  change Ev w 1 _ { s with tree:=s.tree.set d (fun _=>dob (es.push e) (ep+1)) } () _
  refine ev_bind (k':=0) (ev_loadPart (s:={ s with tree:=s.tree.set d (fun _=>dob (es.push e) (ep+1)) }) (o:=dob (es.push e) (ep+1)) lt ?_ rfl) ?_
  · show (BT.set _ _ _).get _=_
    rw [BT.get_set,if_pos rfl,g];rfl
  · have:(dob (es.push e) (ep+1)).data.pastItsLine=none:=by
      show (if (es.push e).size > sizeLine+1 then some "dict:memory" else none)=none
      rw [if_neg]
      rw [Array.size_push,sizeLine_eq];lia
    rw [this]
    exact ev_pure
end
end
section
set_option maxHeartbeats 0
noncomputable def loadAddr {α:Type}:Sem α→Option Addr
  | .load a _ _=>some a
  | _=>none
noncomputable def afterLoad {α:Type}:Sem α→Obj→Sem α
  | .load _ _ k,o=>k o
  | m,_=>m
noncomputable def Asc:Int→List (Int × Str)→Bool
  | _,[]=>true
  | lo,(i,_)::l=>decide (lo<i)&&(decide (i<2 ^ 31)&&Asc i l)
theorem dl_push (l:List DictEntry) (e:DictEntry):dl (l++[e])=dob ((Array.mk l).push e) (l.length+1):=by
  unfold dl;rw [List.length_append,List.push_toArray];rfl
theorem set_id {o:Obj}:∀ (T:BT) (a:Nat),T.get a=some o→T.set a (fun _=>o)=T
  | .nil,_,h=>by cases h
  | .node v l r,a,h=>by
    rw [BT.get_node] at h
    rw [BT.set_node]
    split
    · rename_i e;rw [if_pos e] at h;cases h;rfl
    · rename_i e;rw [if_neg e] at h
      split
      · rename_i e';rw [if_pos e'] at h;rw [set_id l _ h]
      · rename_i e';rw [if_neg e'] at h;rw [set_id r _ h]
section
variable {w:World} {α:Type} {s s':SharedT} {i:Int} {t:Tok} {d a:Addr} {l:List DictEntry} {o:Obj} {k:Nat} {v:Value}
theorem ev_stepLoad {m:Sem α} {b:α} (e:loadAddr m=some a) (lt:a<s.n) (g:s.tree.get a=some o) (al:alive o=some o) (h:Ev w k (afterLoad m o) s b s'):Ev w (k+1) m s b s':=by
  cases m with
  | load a' p f =>
    cases e
    have:=ev_bind (f:=f) (ev_loadPart (part:=p) (w:=w) lt g al) h
    exact this
  | _=>cases e
theorem ev_dictSet (lo:28≤d) (lt:d<s.n) (g:s.tree.get d=some (dl l)) (h0:0≤i) (h1:i<2 ^ 31) (hne:∀ e∈l,e.hash<i) (sz:l.length≤1000) :
    Ev w 10 (dictSet d (.int i t) v) s () { s with toks:=s.toks+1,tree:=s.tree.set d (fun _=>dl (l++[⟨i,.int i t,v⟩])) }:=by
  unfold dictSet
  refine ev_holding ?_
  refine ev_bind (k:=5) (k':=5) (ev_pyHash h0 h1) ?_
  unfold dictSetHashed
  refine ev_holding ?_
  refine ev_bind (k:=1) (k':=4) (ev_dictFind (s:={ s with toks:=s.toks+1 }) lt g fun e he=>?_) ?_
  · exact Int.ne_of_lt (hne e he)
  dsimp only
  refine ev_bind (k:=1) (k':=3) ev_rule ?_
  rw [dl_push]
  exact ev_push (w:=w) (s:={ s with toks:=s.toks+1 }) (e:=⟨i,.int i t,v⟩) (part:=keyPart (.int i t)) lo lt g sz
noncomputable def Lit (w:World) (p:Sem Value × Sem Value) (q:Int × Str):Prop :=
  (∀ s,Ev w 1 p.1 s (.int q.1 s.toks) { s with toks:=s.toks+1 })∧∀ s,Ev w 2 p.2 s (.str q.2 s.toks) { s with toks:=s.toks+1 }
inductive Lits (w:World):List (Sem Value × Sem Value)→List (Int × Str)→Prop
  | nil:Lits w [] []
  | cons {p q ps qs}:Lit w p q→Lits w ps qs→Lits w (p::ps) (q::qs)
theorem ents_length:∀ (T:Nat) (q:List (Int × Str)),(ents T q).length=q.length
  | _,[]=>rfl
  | T,(_,_)::q=>congrArg (·+1) (ents_length (T+3) q)
theorem ev_fill (lo:28≤d):∀ (ps:List (Sem Value × Sem Value)) (qs:List (Int × Str)) (s:SharedT) (l:List DictEntry) (b:Int),Lits w ps qs→d<s.n→s.tree.get d=some (dl l)→-1≤b→Asc b qs=true →
    (∀ e∈l,e.hash≤b)→l.length+qs.length≤1000 →
    Ev w (13*qs.length) (forIn ps PUnit.unit fun (x:Sem Value × Sem Value) (_:PUnit)=>(do
      let kv ← x.1
      let vv ← holding [kv] x.2
      holding [kv,vv] (dictSet d kv vv)
      pure (ForInStep.yield PUnit.unit):Sem (ForInStep PUnit))) s PUnit.unit
      { s with toks:=s.toks+3*qs.length,tree:=s.tree.set d (fun _=>dl (l++ents s.toks qs)) }
  | _,_,s,l,b,.nil,lt,g,hb,ha,hl,sz=>by
    rw [List.forIn_nil]
    simp only [List.length_nil,Nat.mul_zero,Nat.add_zero,ents,List.append_nil]
    rw [set_id _ _ g]
    exact ev_pure
  | _,_,s,l,b,.cons (p:=p) (q:=(i,c)) (ps:=ps) (qs:=qs) hp hps,lt,g,hb,ha,hl,sz=>by
    rw [List.forIn_cons]
    simp only [Asc,Bool.and_eq_true,decide_eq_true_eq] at ha
    obtain ⟨h0,h1,ha⟩:=ha
    rw [List.length_cons] at sz
    have step:Ev w 13 (do
      let kv ← p.1
      let vv ← holding [kv] p.2
      holding [kv,vv] (dictSet d kv vv)
      pure (ForInStep.yield PUnit.unit):Sem (ForInStep PUnit)) s (ForInStep.yield PUnit.unit)
        { s with toks:=s.toks+3,tree:=s.tree.set d (fun _=>dl (l++[⟨i,.int i s.toks,.str c (s.toks+1)⟩])) }:=by
      refine ev_bind (k:=1) (k':=12) (hp.1 s) ?_
      refine ev_bind (k:=2) (k':=10) (ev_holding (hp.2 { s with toks:=s.toks+1 })) ?_
      refine ev_bind (k:=10) (k':=0) (ev_holding (ev_dictSet (s:={ s with toks:=s.toks+1+1 }) lo lt g (by lia) h1 (fun e he=>by have:=hl e he;lia) (by lia))) ?_
      exact ev_pure
    have ih:=ev_fill lo ps qs { s with toks:=s.toks+3,tree:=s.tree.set d (fun _=>dl (l++[⟨i,.int i s.toks,.str c (s.toks+1)⟩])) } (l++[⟨i,.int i s.toks,.str c (s.toks+1)⟩]) i hps lt
      (by show (BT.set _ _ _).get _=_;rw [BT.get_set,if_pos rfl,g];rfl) (by lia) ha
      (fun e he=>by
        rcases List.mem_append.1 he with h|h
        · have:=hl e h;lia
        · rw [List.mem_singleton.1 h];exact Int.le_refl _)
      (by rw [List.length_append,List.length_singleton];lia)
    dsimp only at ih
    rw [set_set,List.append_assoc] at ih
    simp only [List.singleton_append] at ih
    refine ev_cast (k:=13*qs.length+13) (by rw [List.length_cons];lia) ?_
    simp only [List.length_cons,ents]
    have e3:s.toks+3*(qs.length+1)=s.toks+3+3*qs.length:=by lia
    rw [e3]
    exact ev_bind step ih
end
end
section
set_option maxHeartbeats 0
inductive EAsc:Int→List DictEntry→Prop
  | nil {b}:EAsc b []
  | cons {b t e l}:b<e.hash→e.hash<2 ^ 31→e.key=.int e.hash t→EAsc e.hash l→EAsc b (e::l)
theorem easc_ents:∀ (q:List (Int × Str)) (T:Nat) (b:Int),Asc b q=true→EAsc b (ents T q)
  | [],_,_,_=>.nil
  | (i,c)::q,T,b,h=>by
    simp only [Asc,Bool.and_eq_true,decide_eq_true_eq] at h
    exact .cons (t:=T) h.1 h.2.1 rfl (easc_ents q (T+3) i h.2.2)
theorem easc_entsS:∀ (q:List (Int × Str)) (T:Nat) (b:Int),Asc b q=true→EAsc b (entsS T q)
  | [],_,_,_=>.nil
  | (i,c)::q,T,b,h=>by
    simp only [Asc,Bool.and_eq_true,decide_eq_true_eq] at h
    exact .cons (t:=T) h.1 h.2.1 rfl (easc_entsS q (T+2) i h.2.2)
theorem entsS_length:∀ (q:List (Int × Str)) (T:Nat),(entsS T q).length=q.length
  | [],_=>rfl
  | (_,_)::q,T=>congrArg (·+1) (entsS_length q (T+2))
section
variable {w:World} {α:Type} {s s':SharedT} {i:Int} {t:Tok} {d a:Addr} {l:List DictEntry} {o:Obj} {k:Nat} {v:Value} {b:Int} {ps:List (Sem Value × Sem Value)} {qs:List (Int × Str)}
theorem lits_length:∀ {ps:List (Sem Value × Sem Value)} {qs:List (Int × Str)},Lits w ps qs→ps.length=qs.length
  | _,_,.nil=>rfl
  | _,_,.cons _ h=>congrArg (·+1) (lits_length h)
theorem ev_evalPairs:∀ (ps:List (Sem Value × Sem Value)) (qs:List (Int × Str)) (s:SharedT),Lits w ps qs →
    Ev w (3*qs.length) (evalPairs ps) s ((entsS s.toks qs).map fun e=>(e.key,e.val)) { s with toks:=s.toks+2*qs.length }
  | _,_,s,.nil=>ev_pure
  | _,_,s,.cons (p:=p) (q:=(i,c)) (ps:=ps) (qs:=qs) hp hps=>by
    unfold evalPairs
    refine ev_cast (k:=((0+3*qs.length)+2)+1) (by rw [List.length_cons];lia) ?_
    refine ev_bind (hp.1 s) ?_
    refine ev_bind (ev_holding (hp.2 { s with toks:=s.toks+1 })) ?_
    have ih:=ev_evalPairs ps qs { s with toks:=s.toks+1+1 } hps
    refine ev_bind (ev_holding ih) ?_
    simp only [List.length_cons,entsS,List.map_cons]
    have e3:s.toks+2*(qs.length+1)=s.toks+1+1+2*qs.length:=by lia
    rw [e3]
    exact ev_pure
theorem get_setc {T:BT} {o o':Obj} {d:Nat} (g:T.get d=some o):(T.set d (fun _=>o')).get d=some o':=by
  rw [BT.get_set,if_pos rfl,g];rfl
theorem ev_store (lo:28≤d):∀ (es:List DictEntry) (s:SharedT) (l:List DictEntry) (b:Int),d<s.n→s.tree.get d=some (dl l)→-1≤b→EAsc b es →
    (∀ e∈l,e.hash≤b)→l.length+es.length≤1000 →
    Ev w (10*es.length) (forIn (es.map fun e=>(e.key,e.val)) PUnit.unit fun (x:Value × Value) (_:PUnit)=>(do
      dictSet d x.1 x.2
      pure (ForInStep.yield PUnit.unit):Sem (ForInStep PUnit))) s PUnit.unit
      { s with toks:=s.toks+es.length,tree:=s.tree.set d (fun _=>dl (l++es)) }
  | [],s,l,b,lt,g,hb,_,hl,sz=>by
    rw [List.map_nil,List.forIn_nil]
    simp only [List.length_nil,Nat.mul_zero,Nat.add_zero,List.append_nil]
    rw [set_id _ _ g]
    exact ev_pure
  | e::es,s,l,b,lt,g,hb,.cons (t:=t) h0 h1 hk ha,hl,sz=>by
    rw [List.map_cons,List.forIn_cons]
    rw [List.length_cons] at sz
    obtain ⟨eh,ek,ev⟩:=e
    dsimp only at h0 h1 hk ha ⊢
    subst hk
    have step:Ev w 10 (do
      dictSet d (.int eh t) ev
      pure (ForInStep.yield PUnit.unit):Sem (ForInStep PUnit)) s (ForInStep.yield PUnit.unit)
        { s with toks:=s.toks+1,tree:=s.tree.set d (fun _=>dl (l++[⟨eh,.int eh t,ev⟩])) } :=
      ev_bind (k:=10) (k':=0) (ev_dictSet lo lt g (by lia) h1 (fun e he=>by have:=hl e he;lia) (by lia)) ev_pure
    have ih:=ev_store lo es { s with toks:=s.toks+1,tree:=s.tree.set d (fun _=>dl (l++[⟨eh,.int eh t,ev⟩])) } (l++[⟨eh,.int eh t,ev⟩]) eh lt
      (get_setc g) (by lia) ha
      (fun e he=>by
        rcases List.mem_append.1 he with h|h
        · have:=hl e h;lia
        · rw [List.mem_singleton.1 h];exact Int.le_refl _)
      (by rw [List.length_append,List.length_singleton];lia)
    dsimp only at ih
    rw [set_set,List.append_assoc] at ih
    simp only [List.singleton_append] at ih
    refine ev_cast (k:=10*es.length+10) (by rw [List.length_cons];lia) ?_
    simp only [List.length_cons]
    have e3:s.toks+(es.length+1)=s.toks+1+es.length:=by lia
    rw [e3]
    exact ev_bind step ih
theorem get_insc {T:BT} {o:Obj} {d:Nat} (g:((T.ins d o).get d).isSome=true):(T.ins d o).get d=some o:=by
  rw [BT.get_ins _ _ _ g,if_pos rfl]
theorem ev_subLong (h17:qs.length=17) (hps:Lits w ps qs) (lo:28≤s.n) (gi:((s.tree.ins s.n (dl [])).get s.n).isSome=true) (asc:Asc b qs=true) (hb:-1≤b) :
    Ev w 223 (subDict ps) s s.n { s with n:=s.n+1,toks:=s.toks+51,tree:=(s.tree.ins s.n (dl [])).set s.n (fun _=>dl (ents s.toks qs)) }:=by
  unfold subDict
  refine ev_bind (k:=1) (k':=222) (ev_alloc (o:=dl []) gi) ?_
  refine ev_bind (k:=222) (k':=0) (a:=PUnit.unit) (ev_holding ?_) ev_pure
  rw [if_neg (by rw [lits_length hps,h17];decide)]
  refine ev_bind (k:=1) (k':=221) ev_rule ?_
  have:=ev_fill (w:=w) (d:=s.n) lo ps qs { s with n:=s.n+1,tree:=s.tree.ins s.n (dl []) } [] b hps (Nat.lt_succ_self _) (get_insc gi) hb asc (by simp) (by rw [h17];decide)
  rw [h17] at this
  exact ev_bind (k:=221) (k':=0) this ev_pure
theorem ev_subShort (h15:qs.length≤15) (hps:Lits w ps qs) (lo:28≤s.n) (gi:((s.tree.ins s.n (dl [])).get s.n).isSome=true) (asc:Asc b qs=true) (hb:-1≤b) :
    Ev w (10*qs.length+3*qs.length+1) (subDict ps) s s.n { s with n:=s.n+1,toks:=s.toks+2*qs.length+qs.length,tree:=(s.tree.ins s.n (dl [])).set s.n (fun _=>dl (entsS s.toks qs)) }:=by
  unfold subDict
  refine ev_bind (k:=1) (ev_alloc (o:=dl []) gi) ?_
  refine ev_cast (Nat.zero_add _) (ev_bind (k':=0) (k:=10*qs.length+3*qs.length) (a:=PUnit.unit) (ev_holding ?_) ev_pure)
  rw [if_pos (by rw [lits_length hps];exact h15)]
  refine ev_bind (ev_evalPairs ps qs _ hps) ?_
  refine ev_holding ?_
  have:=ev_store (w:=w) (d:=s.n) lo (entsS s.toks qs) { s with n:=s.n+1,toks:=s.toks+2*qs.length,tree:=s.tree.ins s.n (dl []) } [] b (Nat.lt_succ_self _) (get_insc gi) hb (easc_entsS qs _ b asc) (by simp) (by rw [entsS_length,List.length_nil];lia)
  rw [entsS_length] at this
  exact ev_cast (Nat.zero_add _) (ev_bind (k':=0) this ev_pure)
end
end
section
set_option maxHeartbeats 0
section
variable {w:World} {α:Type} {s s':SharedT} {i:Int} {t:Tok} {d a:Addr} {l es:List DictEntry} {o:Obj} {k:Nat} {v:Value} {b:Int}
theorem ev_dictPut {e:DictEntry} (hk:e.key=.int e.hash t) (lo:28≤d) (lt:d<s.n) (g:s.tree.get d=some (dl l)) (hne:∀ e'∈l,e'.hash<e.hash) (sz:l.length≤1000) :
    Ev w 4 (dictPut d e.hash e.key e.val) s () { s with tree:=s.tree.set d (fun _=>dl (l++[e])) }:=by
  obtain ⟨eh,ek,ev⟩:=e
  dsimp only at hk hne ⊢
  subst hk
  unfold dictPut
  refine ev_bind (k:=1) (k':=3) (ev_dictFind (s:=s) lt g fun e he=>?_) ?_
  · exact Int.ne_of_lt (hne e he)
  dsimp only
  rw [dl_push]
  exact ev_push (w:=w) lo lt g sz
theorem ev_isDict (lt:a<s.n) (g:s.tree.get a=some (dl l)):Ev w 1 (isInstance (.ref a) (.type "dict")) s true s:=by
  refine ev_stepLoad (by kernel_rfl!) lt g rfl (k:=0) ?_
  refine ev_of_eq (m':=Pure.pure true) (by kernel_rfl!) ev_pure
theorem ev_iterOf (lt:a<s.n) (g:s.tree.get a=some (dl l)):Ev w 1 (specialOf (.ref a) "__iter__") s (some (.builtin "dict.__iter__")) s:=by
  refine ev_stepLoad (by kernel_rfl!) lt g rfl (k:=0) ?_
  refine ev_of_eq (m':=Pure.pure (some (.builtin "dict.__iter__"))) (by kernel_rfl!) ev_pure
theorem ev_mergeLoop {F:Nat→PUnit→Sem (ForInStep PUnit)} {n0:Nat} (ne:d≠a)
    (hF:∀ (s:SharedT) (l:List DictEntry) (j:Nat) (e:DictEntry) (t:Tok),es[j]?=some e→e.key=.int e.hash t→s.n=n0→s.tree.get a=some (dl es)→s.tree.get d=some (dl l)→(∀ e'∈l,e'.hash<e.hash)→l.length≤1000 →
      Ev w 6 (F j PUnit.unit) s (.yield PUnit.unit) { s with tree:=s.tree.set d (fun _=>dl (l++[e])) }) :
    ∀ (rest done:List DictEntry) (s:SharedT) (l:List DictEntry) (b:Int),es=done++rest→s.n=n0→s.tree.get a=some (dl es)→s.tree.get d=some (dl l)→EAsc b rest→(∀ e∈l,e.hash≤b)→l.length+rest.length≤1000 →
    Ev w (6*rest.length) (forIn (List.range' done.length rest.length) PUnit.unit F) s PUnit.unit { s with tree:=s.tree.set d (fun _=>dl (l++rest)) }
  | [],done,s,l,b,_,_,_,gd,_,_,_=>by
    simp only [List.length_nil,Nat.mul_zero,List.range'_zero,List.forIn_nil,List.append_nil]
    rw [set_id _ _ gd]
    exact ev_pure
  | e::rest,done,s,l,b,he,hn,ga,gd,.cons (t:=t) h0 h1 hk ha,hl,sz=>by
    simp only [List.length_cons,List.range'_succ,List.forIn_cons] at sz ⊢
    have hj:es[done.length]?=some e:=by rw [he];simp
    have step:=hF s l done.length e t hj hk hn ga gd (fun e' h'=>by have:=hl e' h';lia) (by lia)
    have ga':(s.tree.set d (fun _=>dl (l++[e]))).get a=some (dl es):=by
      rw [BT.get_set,if_neg (fun h=>ne h.symm)];exact ga
    have ih:=ev_mergeLoop ne hF rest (done++[e]) { s with tree:=s.tree.set d (fun _=>dl (l++[e])) } (l++[e]) e.hash (by rw [he];simp) hn ga' (get_setc gd) ha
      (fun e' h'=>by
        rcases List.mem_append.1 h' with h|h
        · have:=hl e' h;lia
        · rw [List.mem_singleton.1 h];exact Int.le_refl _)
      (by rw [List.length_append,List.length_singleton];lia)
    dsimp only at ih
    rw [set_set,List.append_assoc,List.length_append,List.length_singleton] at ih
    simp only [List.singleton_append] at ih
    refine ev_cast (k:=6*rest.length+6) (by lia) ?_
    exact ev_bind step ih
theorem ev_merge (lo:28≤d) (ld:d<s.n) (gd:s.tree.get d=some (dl l)) (la:a<s.n) (ga:s.tree.get a=some (dl es)) (ne:d≠a) (hl0:l≠[]) (hl:∀ e∈l,e.hash≤b) (asc:EAsc b es) (a1:a≠sysModules) (sz:l.length+es.length≤1000) :
    Ev w (6*es.length+5) (mergeMapping d (.ref a) false) s () { s with tree:=s.tree.set d (fun _=>dl (l++es)) }:=by
  unfold mergeMapping
  refine ev_bind (k:=1) (k':=6*es.length+4) (ev_isDict la ga) ?_
  rw [if_pos rfl]
  refine ev_bind (k:=1) (k':=6*es.length+3) (ev_iterOf la ga) ?_
  refine ev_bind (k:=0) (k':=6*es.length+3) ev_pure ?_
  rw [show ((some (Value.builtin "dict.__iter__"):Option Value)==some (.builtin "dict.__iter__"))=true by decide]
  dsimp only
  rw [if_neg (by simpa using a1)]
  refine ev_bind (k:=1) (k':=6*es.length+2) (ev_dictEntries ld gd) ?_
  rw [if_neg (by simpa using hl0)]
  refine ev_bind (k:=1) (k':=6*es.length+1) (ev_dictEntries la ga) ?_
  refine ev_bind (k:=1) (k':=6*es.length) (ev_dictEpoch la ga) ?_
  have hs:List.range (Array.mk es).size=List.range' ([]:List DictEntry).length es.length:=List.range_eq_range' ..
  rw [hs]
  refine ev_cast (Nat.zero_add _) (ev_bind (k':=0) (a:=PUnit.unit) (ev_mergeLoop (es:=es) (n0:=s.n) ne (fun s1 l1 j e t hj hk hn ga1 gd1 h1 sz1=>?_) es [] s l b rfl rfl ga gd asc hl sz) ev_pure)
  refine ev_bind (k:=1) (k':=5) (ev_dictEntries (s:=s1) (by rw [hn];exact la) ga1) ?_
  have hj':(Array.mk es)[j]?=some e:=by simpa using hj
  rw [hj']
  dsimp only
  refine ev_bind (k:=4) (k':=1) (ev_holding (ev_dictPut hk lo (by rw [hn];exact ld) gd1 h1 sz1)) ?_
  refine ev_bind (k:=1) (k':=0) (ev_dictEpoch (s:={ s1 with tree:=s1.tree.set d (fun _=>dl (l1++[e])) }) (d:=a) (es:=Array.mk es) (ep:=es.length) (by show a<s1.n;rw [hn];exact la) ?_) ?_
  · show BT.get (BT.set _ _ _) _=_
    rw [BT.get_set,if_neg (fun h=>ne h.symm)];exact ga1
  rw [if_neg (by simp)]
  exact ev_pure
end
end
section
set_option maxHeartbeats 0
noncomputable abbrev SP:=Sem Value × Sem Value
noncomputable def nextL (d:Addr) (s:SharedT) (l:List DictEntry) (es:List DictEntry) (k:Nat):SharedT :=
  { s with n:=s.n+1,toks:=s.toks+k,tree:=((s.tree.ins s.n (dl [])).set s.n (fun _=>dl es)).set d (fun _=>dl (l++es)) }
noncomputable def lastOf:Int→List (Int × Str)→Int
  | b,[]=>b
  | _,(i,_)::q=>lastOf i q
noncomputable def insOk (s:SharedT):Bool:=((s.tree.ins s.n (dl [])).get s.n).isSome
noncomputable def runL (d:Addr):SharedT→List DictEntry→List (List (Int × Str))→List (Int × Str)→SharedT
  | s,l,[],z=>nextL d s l (entsS s.toks z) (2*z.length+z.length)
  | s,l,q::qs,z=>runL d (nextL d s l (ents s.toks q) 51) (l++ents s.toks q) qs z
noncomputable def goodL (d:Addr):SharedT→List DictEntry→Int→Nat→List (List (Int × Str))→List (Int × Str)→Bool
  | s,l,b,m,[],z=>insOk s&&(Asc b z&&(Nat.ble z.length 15&&(Nat.ble 1 z.length&&Nat.ble (m+z.length) 1000)))
  | s,l,b,m,q::qs,z=>insOk s&&(Asc b q&&(Nat.beq q.length 17&&(Nat.ble (m+17) 1000&&goodL d (nextL d s l (ents s.toks q) 51) (l++ents s.toks q) (lastOf b q) (m+17) qs z)))
theorem le_lastOf:∀ (q:List (Int × Str)) (b:Int),Asc b q=true→b≤lastOf b q
  | [],b,_=>Int.le_refl _
  | (i,_)::q,b,h=>by
    simp only [Asc,Bool.and_eq_true,decide_eq_true_eq] at h
    have:=le_lastOf q i h.2.2
    have h1:=h.1
    show b≤lastOf i q
    lia
theorem ents_le:∀ (q:List (Int × Str)) (T:Nat) (b:Int),Asc b q=true→∀ e∈ents T q,e.hash≤lastOf b q
  | [],_,_,_,e,he=>by cases he
  | (i,c)::q,T,b,h,e,he=>by
    simp only [Asc,Bool.and_eq_true,decide_eq_true_eq] at h
    show e.hash≤lastOf i q
    rcases List.mem_cons.1 he with h'|h'
    · subst h';exact le_lastOf q i h.2.2
    · exact ents_le q (T+3) i h.2.2 e h'
section
variable {w:World} {α:Type} {s s':SharedT} {i:Int} {t:Tok} {d a:Addr} {l es:List DictEntry} {o:Obj} {k:Nat} {v:Value} {b:Int}
noncomputable abbrev mkI (p:SP):Option (Sem Value) × Sem Value:=(some p.1,p.2)
section
variable {G:(Option (Sem Value) × Sem Value)→(Option Addr × List SP)→Sem (ForInStep (Option Addr × List SP))} {FL:List SP→Option Addr→Sem (Option Addr)}
theorem forIn_tail
    (h1:∀ (p:SP) (run:List SP) (main:Option Addr),run.length+1≠17→G (mkI p) (main,run)=pure (.yield (main,run++[p]))) :
    ∀ (c run:List SP) (main:Option Addr),run.length+c.length<17→forIn (c.map mkI) (main,run) G=pure (main,run++c)
  | [],run,main,_=>by simp
  | p::c,run,main,h=>by
    rw [List.map_cons,List.forIn_cons,h1 p run main (by simp at h;lia),pure_bind]
    have:=forIn_tail h1 c (run++[p]) main (by simp at h ⊢;lia)
    simpa using this
theorem forIn_chunk
    (h1:∀ (p:SP) (run:List SP) (main:Option Addr),run.length+1≠17→G (mkI p) (main,run)=pure (.yield (main,run++[p])))
    (h2:∀ (p:SP) (run:List SP) (main:Option Addr),run.length+1=17→G (mkI p) (main,run)=(do let m ← FL (run++[p]) main;pure (.yield (m,[])))) :
    ∀ (c run rest:List SP) (main:Option Addr),c≠[]→run.length+c.length=17→forIn ((c++rest).map mkI) (main,run) G=(do let m ← FL (run++c) main;forIn (rest.map mkI) (m,([]:List SP)) G)
  | [],_,_,_,h,_=>absurd rfl h
  | [p],run,rest,main,_,h=>by
    rw [List.singleton_append,List.map_cons,List.forIn_cons,h2 p run main (by simpa using h)]
    simp [bind_assoc]
  | p::p'::c,run,rest,main,_,h=>by
    rw [List.cons_append,List.map_cons,List.forIn_cons,h1 p run main (by simp at h;lia),pure_bind]
    have:=forIn_chunk h1 h2 (p'::c) (run++[p]) rest main (by simp) (by simp at h ⊢;lia)
    simpa using this
end
end
end
section
set_option maxHeartbeats 0
section
variable {w:World} {α:Type} {s s':SharedT} {i:Int} {t:Tok} {d a:Addr} {l es:List DictEntry} {o:Obj} {k:Nat} {v:Value} {b:Int} {ps:List SP} {qs:List (Int × Str)}
theorem ev_sub (E:Nat) {X:Value→Sem Unit} (hsub:Ev w k (subDict ps) s s.n { s with n:=s.n+1,toks:=s.toks+E,tree:=(s.tree.ins s.n (dl [])).set s.n (fun _=>dl es) })
    (lo:28≤d) (ld:d<s.n) (gd:s.tree.get d=some (dl l)) (gi:insOk s=true) (hl0:l≠[]) (hl:∀ e∈l,e.hash≤b) (asc:EAsc b es) (sz:l.length+es.length≤1000) :
    Ev w (6*es.length+5+k) (do
      let sub ← holding [.ref d] (subDict ps)
      (holding [.ref d,.ref sub] (mergeMapping d (.ref sub) false)).onRaise X
      return some d) s (some d) (nextL d s l es E):=by
  refine ev_bind (k:=k) (ev_holding hsub) ?_
  refine ev_cast (Nat.zero_add _) (ev_bind (k':=0) (a:=()) (ev_onRaise (ev_holding ?_)) ev_pure)
  have hne:d≠s.n:=Nat.ne_of_lt ld
  exact ev_merge (w:=w) (b:=b) (s:={ s with n:=s.n+1,toks:=s.toks+E,tree:=(s.tree.ins s.n (dl [])).set s.n (fun _=>dl es) }) lo (Nat.lt_succ_of_lt ld)
    (by show BT.get (BT.set _ _ _) _=_
        rw [BT.get_set,if_neg hne,BT.get_ins _ _ _ gi,if_neg hne];exact gd)
    (Nat.lt_succ_self _)
    (by show BT.get (BT.set _ _ _) _=_
        rw [BT.get_set,if_pos rfl,BT.get_ins _ _ _ gi,if_pos rfl];rfl)
    hne hl0 hl asc (Nat.ne_of_gt (Nat.lt_of_lt_of_le (by decide:sysModules<28) (Nat.le_trans lo (Nat.le_of_lt ld)))) sz
theorem nextL_get (ld:d<s.n) (gd:s.tree.get d=some (dl l)) (gi:insOk s=true):(nextL d s l es k).tree.get d=some (dl (l++es)):=by
  have hne:d≠s.n:=Nat.ne_of_lt ld
  refine get_setc (o:=dl l) ?_
  rw [BT.get_set,if_neg hne,BT.get_ins _ _ _ gi,if_neg hne];exact gd
inductive LitsL (w:World):List (List SP)→List (List (Int × Str))→Prop
  | nil:LitsL w [] []
  | cons {p q ps qs}:Lits w p q→LitsL w ps qs→LitsL w (p::ps) (q::qs)
section
variable {G:(Option (Sem Value) × Sem Value)→(Option Addr × List SP)→Sem (ForInStep (Option Addr × List SP))} {FL:List SP→Option Addr→Sem (Option Addr)} {X:Addr→Value→Sem Unit}
theorem ev_rest
    (h1:∀ (p:SP) (run:List SP) (main:Option Addr),run.length+1≠17→G (mkI p) (main,run)=pure (.yield (main,run++[p])))
    (h2:∀ (p:SP) (run:List SP) (main:Option Addr),run.length+1=17→G (mkI p) (main,run)=(do let m ← FL (run++[p]) main;pure (.yield (m,[]))))
    (hF:∀ (run:List SP) (d:Addr),run≠[]→FL run (some d)=(do
      let sub ← holding [.ref d] (subDict run)
      (holding [.ref d,.ref sub] (mergeMapping d (.ref sub) false)).onRaise (X d)
      return some d)) (z:List (Int × Str)) (pz:List SP) (hz:Lits w pz z) (lo:28≤d) :
    ∀ (pss:List (List SP)) (qss:List (List (Int × Str))) (s:SharedT) (l:List DictEntry) (b:Int) (m:Nat),LitsL w pss qss→d<s.n→s.tree.get d=some (dl l)→l≠[]→-1≤b→(∀ e∈l,e.hash≤b)→l.length=m→goodL d s l b m qss z=true →
    Ev w (19*z.length+6+330*qss.length) (do
      let r ← forIn ((pss.flatten++pz).map mkI) (some d,([]:List SP)) G
      FL r.2 r.1) s (some d) (runL d s l qss z)
  | _,_,s,l,b,m,.nil,ld,gd,hl0,hb,hl,hm,good=>by
    simp only [goodL,Bool.and_eq_true] at good
    refine el05 good fun gi asc l15 l1 sz=>?_
    have l15:=Nat.le_of_ble_eq_true l15
    have l1:=Nat.le_of_ble_eq_true l1
    have sz:=Nat.le_of_ble_eq_true sz
    have hpl:=lits_length hz
    rw [List.flatten_nil,List.nil_append,forIn_tail h1 pz [] (some d) (by rw [hpl,List.length_nil];lia),List.nil_append]
    refine ev_cast (k:=6*(entsS s.toks z).length+5+(10*z.length+3*z.length+1)+0) (by rw [entsS_length,List.length_nil];lia) ?_
    refine ev_bind (k:=0) ev_pure ?_
    dsimp only
    rw [hF pz d (by intro h;rw [h,List.length_nil] at hpl;lia)]
    have hs:=ev_subShort (w:=w) (s:=s) l15 hz (Nat.le_trans lo (Nat.le_of_lt ld)) gi asc hb
    exact ev_sub (2*z.length+z.length) (by rw [← Nat.add_assoc];exact hs) lo ld gd gi hl0 hl (easc_entsS z s.toks b asc) (by rw [entsS_length];lia)
  | _,_,s,l,b,m,.cons (p:=p) (q:=q) (ps:=pss) (qs:=qss) hp hps,ld,gd,hl0,hb,hl,hm,good=>by
    simp only [goodL,Bool.and_eq_true] at good
    refine el05 good fun gi asc l17 sz good=>?_
    have l17:=Nat.eq_of_beq_eq_true l17
    have sz:=Nat.le_of_ble_eq_true sz
    have hpl:=lits_length hp
    have hpne:p≠[]:=by intro h;rw [h,l17,List.length_nil] at hpl;lia
    rw [List.flatten_cons,List.append_assoc,forIn_chunk h1 h2 p [] _ (some d) hpne (by rw [hpl,l17,List.length_nil]),List.nil_append,hF p d hpne]
    have hs:=ev_subLong (w:=w) (s:=s) l17 hp (Nat.le_trans lo (Nat.le_of_lt ld)) gi asc hb
    have hel:(ents s.toks q).length=17:=by rw [ents_length,l17]
    have step:=ev_sub (X:=X d) 51 hs lo ld gd gi hl0 hl (easc_ents q s.toks b asc) (by rw [hel];lia)
    rw [hel] at step
    have hlo:=le_lastOf q b asc
    have ih:=ev_rest h1 h2 hF z pz hz lo pss qss (nextL d s l (ents s.toks q) 51) (l++ents s.toks q) (lastOf b q) (m+17) hps (Nat.lt_succ_of_lt ld) (nextL_get ld gd gi)
      (by intro h;exact hl0 (List.append_eq_nil_iff.1 h).1) (by lia)
      (fun e he=>by
        rcases List.mem_append.1 he with h|h
        · have:=hl e h;lia
        · exact ents_le q _ b asc e h)
      (by rw [List.length_append,hel,hm]) good
    refine ev_cast (k:=(19*z.length+6+330*qss.length)+330) (by rw [List.length_cons];lia) ?_
    rw [bind_assoc]
    exact ev_bind (k:=330) step ih
end
end
end
section
set_option maxHeartbeats 0
noncomputable def firstL (s:SharedT) (q:List (Int × Str)):SharedT:={ s with n:=s.n+1,toks:=s.toks+51,tree:=(s.tree.ins s.n (dl [])).set s.n (fun _=>dl (ents s.toks q)) }
section
variable {w:World} {s:SharedT} {p0:List SP} {q0:List (Int × Str)} {pss:List (List SP)} {qss:List (List (Int × Str))} {pz:List SP} {z:List (Int × Str)}
theorem ev_dispGen {G:(Option (Sem Value) × Sem Value)→(Option Addr × List SP)→Sem (ForInStep (Option Addr × List SP))} {FL:List SP→Option Addr→Sem (Option Addr)} {X:Addr→Value→Sem Unit}
    (h1:∀ (p:SP) (run:List SP) (main:Option Addr),run.length+1≠17→G (mkI p) (main,run)=pure (.yield (main,run++[p])))
    (h2:∀ (p:SP) (run:List SP) (main:Option Addr),run.length+1=17→G (mkI p) (main,run)=(do let m ← FL (run++[p]) main;pure (.yield (m,[]))))
    (hF:∀ (run:List SP) (d:Addr),run≠[]→FL run (some d)=(do
      let sub ← holding [.ref d] (subDict run)
      (holding [.ref d,.ref sub] (mergeMapping d (.ref sub) false)).onRaise (X d)
      return some d))
    (hN:∀ (run:List SP),run≠[]→FL run none=(do let x ← subDict run;pure (some x)))
    (h0:Lits w p0 q0) (hs:LitsL w pss qss) (hz:Lits w pz z) (lo:28≤s.n) (gi:insOk s=true) (a0:Asc (-1) q0=true) (l17:q0.length=17)
    (good:goodL s.n (firstL s q0) (ents s.toks q0) (lastOf (-1) q0) 17 qss z=true) :
    Ev w (19*z.length+6+330*qss.length+223) (do
      let r ← forIn (((p0++(pss.flatten++pz))).map mkI) ((none:Option Addr),([]:List SP)) G
      FL r.2 r.1) s (some s.n) (runL s.n (firstL s q0) (ents s.toks q0) qss z):=by
  have hp0:=lits_length h0
  have hpne:p0≠[]:=by intro h;rw [h,l17,List.length_nil] at hp0;lia
  have sub:=ev_subLong (w:=w) (s:=s) l17 h0 lo gi a0 (Int.le_refl _)
  have hel:(ents s.toks q0).length=17:=by rw [ents_length,l17]
  rw [forIn_chunk h1 h2 p0 [] _ none hpne (by rw [hp0,l17,List.length_nil]),List.nil_append,bind_assoc,hN p0 hpne]
  refine ev_bind (k:=223) (k':=19*z.length+6+330*qss.length) (a:=some s.n) (s':=firstL s q0) (ev_bind (k:=223) (k':=0) sub ev_pure) ?_
  exact ev_rest h1 h2 hF z pz hz lo pss qss (firstL s q0) (ents s.toks q0) (lastOf (-1) q0) 17 hs (Nat.lt_succ_self _)
    (get_setc (get_insc gi)) (by intro h;rw [h,List.length_nil] at hel;lia) (le_lastOf q0 (-1) a0) (ents_le q0 _ _ a0) hel good
theorem ev_display
    (h0:Lits w p0 q0) (hs:LitsL w pss qss) (hz:Lits w pz z) (lo:28≤s.n) (gi:insOk s=true) (a0:Asc (-1) q0=true) (l17:q0.length=17)
    (good:goodL s.n (firstL s q0) (ents s.toks q0) (lastOf (-1) q0) 17 qss z=true) :
    Ev w (19*z.length+6+330*qss.length+223) (dictDisplay (((p0++(pss.flatten++pz))).map mkI)) s (.ref s.n) (runL s.n (firstL s q0) (ents s.toks q0) qss z):=by
  unfold dictDisplay
  dsimp only
  let FL:List SP→Option Addr→Sem (Option Addr):=fun run main=>if run.isEmpty=true then pure main else match main with
    | none=>do let x ← subDict run;pure (some x)
    | some d=>do
      let sub ← holding [.ref d] (subDict run)
      (holding [.ref d,.ref sub] (mergeMapping d (.ref sub) false)).onRaise fun x=>do let _ ← holding [.ref d,x] (runValue (.builtin "proto.let_go" {}))
      pure (some d)
  have hF:∀ (run:List SP) (d:Addr),run≠[]→FL run (some d)=(do
      let sub ← holding [.ref d] (subDict run)
      (holding [.ref d,.ref sub] (mergeMapping d (.ref sub) false)).onRaise fun x=>do let _ ← holding [.ref d,x] (runValue (.builtin "proto.let_go" {}))
      return some d):=by
    intro run d h
    show (if run.isEmpty=true then _ else _)=_
    rw [if_neg (by simpa using h)]
  have hN:∀ (run:List SP),run≠[]→FL run none=(do let x ← subDict run;pure (some x)):=by
    intro run h
    show (if run.isEmpty=true then _ else _)=_
    rw [if_neg (by simpa using h)]
  refine ev_of_eq (bind_assoc _ (fun (r:Option Addr × List SP)=>FL r.2 r.1) (fun o=>match o with|some d=>pure (.ref d)|none=>newDict)).symm ?_
  refine ev_cast (Nat.zero_add _) (ev_bind (k':=0) (ev_dispGen (FL:=FL) ?h1 ?h2 hF hN h0 hs hz lo gi a0 l17 good) ev_pure)
  case h1 =>
    intro p run main h
    dsimp only
    rw [if_neg (by simp;lia)]
  case h2 =>
    intro p run main h
    dsimp only
    rw [if_pos (by simp;lia)]
    rfl
end
end
section
set_option maxHeartbeats 0
noncomputable section
noncomputable def dcK:Stmt→List (Option Expr) | .Assign _ (.Dict ks _ _) _=>ks|_=>[]
noncomputable def dcV:Stmt→List Expr | .Assign _ (.Dict _ vs _) _=>vs|_=>[]
noncomputable def dcP:Stmt→Pos | .Assign _ (.Dict _ _ p) _=>p|_=>default
noncomputable def psOf (q:Int × Str):SP:=(mkInt q.1,do let x ← mkText q.2;standAt (dcP (stm 5));pure x)
theorem lit_psOf {w:World} (q:Int × Str):Lit w (psOf q) q :=
  ⟨fun s=>ev_bind (k:=1) (k':=0) ev_fresh ev_pure,fun s=>ev_bind (k:=1) (k':=1) (ev_bind (k:=1) (k':=0) ev_fresh ev_pure) (ev_bind (k:=1) (k':=0) ev_at ev_pure)⟩
theorem lits_psOf {w:World}:∀ (qs:List (Int × Str)),Lits w (qs.map psOf) qs
  | []=>.nil
  | q::qs=>.cons (lit_psOf q) (lits_psOf qs)
theorem litsL_psOf {w:World}:∀ (qss:List (List (Int × Str))),LitsL w (qss.map (List.map psOf)) qss
  | []=>.nil
  | q::qs=>.cons (lits_psOf q) (litsL_psOf qs)
theorem items_are:(evalEachOpt (dcK (stm 5)) env).zip ((evalEach (dcV (stm 5)) env).map fun v=>do let x ← v;standAt (dcP (stm 5));pure x)=((tq0.map psOf++((tqs.map (List.map psOf)).flatten++tz.map psOf))).map mkI:=by kernel_rfl!
theorem good5 (w:World) (os:OsState):(insOk (S_c5 w os)&&(Asc (-1) tq0&&(Nat.beq tq0.length 17&&goodL 46 (firstL (S_c5 w os) tq0) (ents 307 tq0) (lastOf (-1) tq0) 17 tqs tz)))=true:=by kernel_rfl!
end
end
section
set_option maxHeartbeats 0
noncomputable section
noncomputable def asT:Stmt→List Expr | .Assign ts _ _=>ts|_=>[]
noncomputable def asV:Stmt→Expr | .Assign _ v _=>v|_=>default
noncomputable def asP:Stmt→Pos | .Assign _ _ p=>p|_=>default
noncomputable def S_m (w:World) (os:OsState):SharedT:=runL 46 (firstL (S_c5 w os) tq0) (ents 307 tq0) tqs tz
noncomputable def rest5 (v:Value):Sem Flow:=do assignStores env v (← swappedStores (asT (stm 5)) (asV (stm 5)) env) ((assignEach (asT (stm 5)) env).map (·.2))
noncomputable def disp5:Sem Value:=dictDisplay (((tq0.map psOf++((tqs.map (List.map psOf)).flatten++tz.map psOf))).map mkI)
theorem no_swap:swapsWithSole (asT (stm 5)) (asV (stm 5)) (asP (stm 5)).line env=Pure.pure false:=by kernel_rfl!
theorem eval5:eval (asV (stm 5)) env=(do standAt (dcP (stm 5));dictDisplay ((evalEachOpt (dcK (stm 5)) env).zip ((evalEach (dcV (stm 5)) env).map fun v=>do let x ← v;standAt (dcP (stm 5));pure x))):=by kernel_rfl!
theorem stm5:stm 5=.Assign (asT (stm 5)) (asV (stm 5)) (asP (stm 5)):=by kernel_rfl!
theorem exec5:exec (stm 5) env=(do standAt (asP (stm 5));let v ← (do standAt (dcP (stm 5));disp5);rest5 v):=by
  have h:exec (stm 5) env=exec (.Assign (asT (stm 5)) (asV (stm 5)) (asP (stm 5))) env:=congrArg (fun s=>exec s env) stm5
  rw [h,arm_exec_Assign,no_swap,eval5,items_are]
  rfl
theorem goods (w:World) (os:OsState):insOk (S_c5 w os)=true∧Asc (-1) tq0=true∧tq0.length=17∧goodL 46 (firstL (S_c5 w os) tq0) (ents 307 tq0) (lastOf (-1) tq0) 17 tqs tz=true:=by
  have h:=good5 w os
  rw [Bool.and_eq_true,Bool.and_eq_true,Bool.and_eq_true] at h
  exact ⟨h.1,h.2.1,Nat.eq_of_beq_eq_true h.2.2.1,h.2.2.2⟩
theorem ev5 (w:World) (os:OsState):Ev w (19*tz.length+6+330*tqs.length+223) disp5 (S_c5 w os) (.ref 46) (S_m w os):=by
  refine el04 (goods w os) fun a b c d=>?_
  exact ev_display (w:=w) (s:=S_c5 w os) (lits_psOf tq0) (litsL_psOf tqs) (lits_psOf tz) (show 28≤46 by decide) a b c d
theorem steps5:19*tz.length+6+330*tqs.length+223=12515:=by kernel_rfl!
theorem tail5 (w:World) (os:OsState) (p:Pos):TS TT pw w 28 (some (.ref 6)) 1 100 (S_m w os) ⟨(rest5 (.ref 46)).wrap (fun f=>match f with | .next=>(execs [] env).wrap doneF deadEnd id id|f=>doneF f) deadEnd id id,cE,p,B0⟩=some (.next,S_c6 w os,cE,⟨36,0,36,13⟩):=by kernel_rfl!
end
end
section
set_option maxHeartbeats 0
noncomputable abbrev q0:Pos:=⟨0,0,0,0⟩
noncomputable abbrev SG (w:World) (n:Nat) (s:Shared) (t:Thread):=segRun treeTable pw w 28 (some (.ref 6)) 1 n s t
theorem tsIs:TS TT=segRunT treeTable:=(congr PySem.W.Fast.te10110043849684766642 PySem.W.Fast.te14364793385576792824).symm
theorem txIs:TX=execs:=PySem.W.Fast.te12563942051412417395.symm
theorem tgIs:TG TT=topGo treeTable:=(congr PySem.W.Fast.te15667345088766844465 PySem.W.Fast.te14364793385576792824).symm
theorem dnIs:DN TT=denote treeTable:=(congr PySem.W.Fast.te11892475500146522536 PySem.W.Fast.te14364793385576792824).symm
theorem ofTS {w:World} {n:Nat} {s:SharedT} {t:Thread} {r:Option (Flow × SharedT × Code × Pos)} (h:TS TT pw w 28 (some (.ref 6)) 1 n s t=r):segRunT treeTable pw w 28 (some (.ref 6)) 1 n s t=r :=
  (congrArg (fun f=>f pw w 28 (some (.ref 6)) 1 n s t) tsIs).symm.trans h
theorem conv {w:World} {n:Nat} {s s':SharedT} {t:Thread} {f:Flow} {c:Code} {p:Pos} (h:TS TT pw w 28 (some (.ref 6)) 1 n s t=some (f,s',c,p)):SG w n s.abs t=some (f,s'.abs,c,p):=segRun_of (ofTS h)
theorem thr_is (l:List Stmt) (p:Pos):thr l p=piecesOf l env cE p [topFrame q0] :=
  congrArg (fun X=>(⟨(X l env).wrap doneF deadEnd id id,cE,p,[topFrame q0]⟩:Thread)) txIs
theorem convT {w:World} {n:Nat} {s s':SharedT} {l:List Stmt} {f:Flow} {c:Code} {p p':Pos} (h:TS TT pw w 28 (some (.ref 6)) 1 n s (thr l p)=some (f,s',c,p')):SG w n s.abs (piecesOf l env cE p [topFrame q0])=some (f,s'.abs,c,p') :=
  (congrArg (fun t=>SG w n s.abs t) (thr_is l p)).symm.trans (conv h)
theorem grp5:grp 5 6=[stm 5]:=by kernel_rfl!
end
section
set_option maxHeartbeats 0
noncomputable def d5:Sem Value:=do standAt (dcP (stm 5));disp5
noncomputable def x5:Sem Value:=do standAt (asP (stm 5));d5
noncomputable def k5:Flow→Sem Fin:=fun f=>match f with | .next=>(execs [] env).wrap doneF deadEnd id id|f=>doneF f
noncomputable def kk5:Value→Sem Fin:=fun v=>(rest5 v).wrap k5 deadEnd id id
theorem exec5b:exec (stm 5) env=bind (standAt (asP (stm 5))) (fun _=>bind d5 rest5):=exec5
theorem wrap_two {α β:Type} (m:Sem Unit) (B:Sem α) (r:α→Sem β) (K:β→Sem Fin) (H:Value→Sem Fin):(bind m fun _=>bind B r).wrap K H id id=(bind m fun _=>B).wrap (fun v=>(r v).wrap K H id id) H id id:=by
  rw [← bind_assoc,Sem.bind_eq_wrap' _ r,Sem.wrap_wrap]
  rfl
theorem hx5:(execs (grp 5 6) env).wrap doneF deadEnd id id=x5.wrap kk5 deadEnd id id:=by
  have e1:(execs (grp 5 6) env).wrap doneF deadEnd id id=(execs [stm 5] env).wrap doneF deadEnd id id:=congrArg (fun l=>(execs l env).wrap doneF deadEnd id id) grp5
  have e2:(execs [stm 5] env).wrap doneF deadEnd id id=(exec (stm 5) env).wrap k5 deadEnd id id:=execs_cons_wrap ..
  have e4:=wrap_two (standAt (asP (stm 5))) d5 rest5 k5 deadEnd
  rw [e1,e2,exec5b,e4]
  rfl
theorem g2' (w:World) (os:OsState) (p:Pos):SG w (100+12517) (S_c5 w os).abs (piecesOf (grp 5 6) env cE p [topFrame q0])=some (.next,(S_c6 w os).abs,cE,⟨36,0,36,13⟩):=by
  have e:Ev w 12517 x5 (S_c5 w os) (.ref 46) (S_m w os):=by
    unfold x5 d5
    exact ev_bind (k:=1) (k':=12516) ev_at (ev_bind (k:=1) (k':=12515) ev_at (ev_cast steps5 (ev5 w os)))
  obtain ⟨p',h⟩:=e p
  have hr:=h kk5 deadEnd id id 100
  have ht:R w 100 (S_m w os) ⟨kk5 (.ref 46),cE,p',B0⟩=some (.next,S_c6 w os,cE,⟨36,0,36,13⟩):=ofTS (tail5 w os p')
  refine segRun_of ?_
  refine (congrArg (fun x=>R w (100+12517) (S_c5 w os) ⟨x,cE,p,[topFrame q0]⟩) hx5).trans ?_
  exact hr.trans ht
end
section
set_option maxHeartbeats 0
theorem bE_is:bE=grp 0 5++(grp 5 6++(grp 6 57++(grp 57 58++(grp 58 62++(grp 62 63++(grp 63 75++[])))))):=by kernel_rfl!
theorem topRuns (w:World) (os:OsState):topRun treeTable pw w 28 (some (.ref 6)) (12+(1+(100+((100+12517)+(1000+(1000+(1000+(1000+(1000+2))))))))) (S_0 w os).abs (topStub pw)=some (S_f w os).abs:=by
  have hpre:topGo treeTable pw w 28 (some (.ref 6)) 12 (S_0 w os).abs (topStub pw)=some ((S_a w os).abs,⟨denote treeTable cE,cE,q0,[topFrame q0]⟩):=by
    have h1:=(congrArg (fun f=>f pw w 28 (some (.ref 6)) 12 (S_0 w os).abs (topStub pw)) tgIs).symm.trans (gPre w os)
    exact h1.trans (congrArg (fun f=>some ((S_a w os).abs,(⟨f cE,cE,q0,[topFrame q0]⟩:Thread))) dnIs)
  refine go_top hpre ?_
  refine piece_block (conv (gBlk w os)) ?_
  have hb:restOf bE env cE q0 [topFrame q0]=restOf (grp 0 5++(grp 5 6++(grp 6 57++(grp 57 58++(grp 58 62++(grp 62 63++(grp 63 75++[]))))))) env cE q0 [topFrame q0]:=congrArg (fun l=>restOf l env cE q0 [topFrame q0]) bE_is
  rw [hb]
  refine piece_app (convT (g1' w os _)) ?_
  refine piece_app (g2' w os _) ?_
  refine piece_app (convT (g3' w os _)) ?_
  refine piece_app (convT (g4' w os _)) ?_
  refine piece_app (convT (g5' w os _)) ?_
  refine piece_app (convT (g6' w os _)) ?_
  refine piece_app (convT (g7' w os _)) ?_
  refine piece_nil ?_
  exact gFin w os
end
section
set_option maxHeartbeats 0
noncomputable section
noncomputable abbrev lrow:OpenRow:=PySem.Challenge.rw_sn0101_01.row
noncomputable def YP (w:World) (h:Heap):Prop:=∀ b o,(H1 w.params).get? b=some o→h.get? b=some o
noncomputable def dLaw:DefRec:=⟨"law",fdP (stm 74),fdB (stm 74),fdS (stm 74),match stm 74 with | .FunctionDef _ _ _ _ _ _ _ _ _ p=>p|_=>default⟩
theorem hOpen (w:World):(fencedOpening treeTable pw w 20000).map (fun s=>(s.heap,s.gens,s.drawn,s.toks))=some (H0 w.params,#[],⟨0,0,0,0⟩,276):=by
  have h:=gOpen w
  have e1:IE=importEnds:=PySem.W.Fast.te10274390034422433532.symm
  have e2:FM=fenceModules?:=PySem.W.Fast.te14289696077712309145.symm
  have e3:STt=start:=PySem.W.Fast.te1435165496053646825.symm
  have e4:TT=treeTable:=PySem.W.Fast.te14364793385576792824.symm
  rw [e1,e2,e3,e4] at h
  exact h
theorem looks (w:World):(fun os=>((staticsOk (importedModules pw.main.body) (H0 w.params) (H1 w.params)&&namesBound pw (H1 w.params)&&gensDone ⟨H1 w.params,#[],⟨0,0,0,0⟩,2776,os⟩&&laidKept (H0 w.params) (H1 w.params)),
        openSeen qv lz (importedModules pw.main.body) (fun _=>true) true ⟨H1 w.params,#[],⟨0,0,0,0⟩,2776,os⟩,(fun s:Shared=>s.heap.get?) ⟨H1 w.params,#[],⟨0,0,0,0⟩,2776,os⟩))=fun _=>(true,openGood qv lz,(H1 w.params).get?):=by
  funext os
  have hb:openSeen qv lz (importedModules pw.main.body) (fun _=>true) true ⟨H1 w.params,#[],⟨0,0,0,0⟩,2776,os⟩=openGood qv lz:=by
    have e:OSN=openSeen:=PySem.W.Fast.te4187177175401517315.symm
    have h:=looksB w os
    rw [e] at h
    exact h
  rw [looksA w os,hb]
theorem left:LeftO pw qv lz (fun _=>true) (fun s:Shared=>s.heap.get?) (fun w=>(H1 w.params).get?) 20000 true :=
  LeftO.of_pieces (H₀:=H0) (H₁:=H1) (gs₀:=#[]) (gs₁:=#[]) (d₀:=⟨0,0,0,0⟩) (d₁:=⟨0,0,0,0⟩) (k₀:=276) (k₁:=2776) (m₀:=28) (ann:=some (.ref 6)) (M:=12+(1+(100+((100+12517)+(1000+(1000+(1000+(1000+(1000+2))))))))) hOpen size0 topRuns (by decide) looks
theorem saidT:@PySem.W.Fast.tw9446332074065402090 PySem.Challenge.rw_sn0101_01=true:=by
  unfold PySem.W.Fast.tw9446332074065402090 PySem.W.Fast.tw17960256430627541270 PySem.W.Fast.tw2436336058641802641 PySem.W.Fast.tw12908688711261696721
  repeat' with_reducible refine look_both ?_ ?_
  all_goals decide +kernel
theorem headAll (call:WalkO qv lz (fun _ _=>True) YP lrow.toRowW dLaw [] fun f vs=>PySem.call f vs):PySem.Challenge.rw_sn0101_01.Holds:=by
  refine PySem.W.holds_law ((congrFun PySem.W.Fast.te9446332074065402090 _).trans saidT) fun said=>?_
  have hp:pw.theDef "law"=some (dLaw.params,dLaw.body,dLaw.scope):=by kernel_rfl!
  have hd:defOf qv "law"=some (dLaw,[]):=by kernel_rfl!
  refine PySem.W.holds_open (q:=qv) (loose:=lz) (Xt:=fun _=>true) (XP:=fun _ _=>True) (Yf:=fun s:Shared=>s.heap.get?) (Ya:=fun w=>(H1 w.params).get?) (YP:=YP) (d:=dLaw) (kwd:=[]) (N:=20000)
    left (fun w s e b o h=>(congrFun e b).trans h) (fun w h h' y k b o g=>k b o (y b o g)) (fun _ _=>trivial) (fun _ _ _ _ _=>trivial) hd hp ?hk ?hR ?hwr said ?ok ?hb ?hw call
  case hk=>kernel_rfl!
  case hR=>intro s _;exact recFacts_nil rfl
  case hwr=>kernel_rfl!
  case ok=>kernel_rfl!
  case hb=>exact ⟨rfl,rfl,rfl,rfl,rfl,by decide +kernel⟩
  case hw=>w_witness2
end
end
section
theorem nope {α:Type} {d:α} {P:Prop} (h:none=some d):P:=by cases h
inductive Vw
  | call (f:PySem.Expr) (a:List PySem.Expr) (k:List Keyword) (p:Pos)
  | attr (f:PySem.Expr) (a:Str) (p:Pos)
  | name (f:Str) (p:Pos)
  | sub (f:PySem.Expr) (a:PySem.Expr) (p:Pos)
  | sli (f:Option PySem.Expr) (a:Option PySem.Expr) (b:Option PySem.Expr) (p:Pos)
  | bin (f:PySem.Expr) (o:Operator) (a:PySem.Expr) (p:Pos)
  | con (f:PySem.Const) (k:Nat) (p:Pos)
  | ls (f:List PySem.Expr) (p:Pos)
  | tup (f:List PySem.Expr) (k:Nat) (p:Pos)
  | uop (o:UnaryOp) (f:PySem.Expr) (p:Pos)
  | cmp (f:PySem.Expr) (o:List CmpOp) (a:List PySem.Expr) (p:Pos)
  | ife (f:PySem.Expr) (a:PySem.Expr) (b:PySem.Expr) (p:Pos)
  | bop (o:BoolOp) (a:List PySem.Expr) (p:Pos)
  | no
noncomputable def vw:PySem.Expr→Vw
  | .Call f a k p=>.call f a k p
  | .Attribute f a p=>.attr f a p
  | .Name f p=>.name f p
  | .Subscript f a p=>.sub f a p
  | .Slice f a b p=>.sli f a b p
  | .BinOp f o a p=>.bin f o a p
  | .Constant f k p=>.con f k p
  | .List f p=>.ls f p
  | .Tuple f k p=>.tup f k p
  | .UnaryOp o f p=>.uop o f p
  | .Compare f o a p=>.cmp f o a p
  | .IfExp f a b p=>.ife f a b p
  | .BoolOp o a p=>.bop o a p
  | _=>.no
noncomputable def vwx:Vw→PySem.Expr→PySem.Expr
  | .call f a k p,_=>.Call f a k p
  | .attr f a p,_=>.Attribute f a p
  | .name f p,_=>.Name f p
  | .sub f a p,_=>.Subscript f a p
  | .sli f a b p,_=>.Slice f a b p
  | .bin f o a p,_=>.BinOp f o a p
  | .con f k p,_=>.Constant f k p
  | .ls f p,_=>.List f p
  | .tup f k p,_=>.Tuple f k p
  | .uop o f p,_=>.UnaryOp o f p
  | .cmp f o a p,_=>.Compare f o a p
  | .ife f a b p,_=>.IfExp f a b p
  | .bop o a p,_=>.BoolOp o a p
  | .no,x=>x
theorem vw_eq (x:PySem.Expr):vwx (vw x) x=x:=by cases x<;>rfl
section
variable {α:Type} {d:α}
noncomputable def onCall (x:PySem.Expr) (F:PySem.Expr→List PySem.Expr→List Keyword→Pos→Option α):Option α:=match vw x with | .call f a k p=>F f a k p|_=>none
noncomputable def onAttr (x:PySem.Expr) (F:PySem.Expr→Str→Pos→Option α):Option α:=match vw x with | .attr f a p=>F f a p|_=>none
noncomputable def onName (x:PySem.Expr) (F:Str→Pos→Option α):Option α:=match vw x with | .name f p=>F f p|_=>none
noncomputable def onSub (x:PySem.Expr) (F:PySem.Expr→PySem.Expr→Pos→Option α):Option α:=match vw x with | .sub f a p=>F f a p|_=>none
noncomputable def onSli (x:PySem.Expr) (F:Option PySem.Expr→Option PySem.Expr→Option PySem.Expr→Pos→Option α):Option α:=match vw x with | .sli f a b p=>F f a b p|_=>none
noncomputable def onBin (x:PySem.Expr) (F:PySem.Expr→Operator→PySem.Expr→Pos→Option α):Option α:=match vw x with | .bin f o a p=>F f o a p|_=>none
noncomputable def onConst (x:PySem.Expr) (F:PySem.Const→Nat→Pos→Option α):Option α:=match vw x with | .con f k p=>F f k p|_=>none
noncomputable def onIntC (x:PySem.Const) (F:Int→Option α):Option α:=match x with | .int i=>F i|_=>none
noncomputable def onBoolC (x:PySem.Const) (F:Bool→Option α):Option α:=match x with | .bool i=>F i|_=>none
noncomputable def onLs (x:PySem.Expr) (F:List PySem.Expr→Pos→Option α):Option α:=match vw x with | .ls f p=>F f p|_=>none
noncomputable def onTup (x:PySem.Expr) (F:List PySem.Expr→Nat→Pos→Option α):Option α:=match vw x with | .tup f k p=>F f k p|_=>none
noncomputable def onOne {β:Type} (x:List β) (F:β→Option α):Option α:=match x with|[]=>none|a::t=>match t with|[]=>F a|_=>none
noncomputable def onNil {β:Type} (x:List β) (F:Option α):Option α:=match x with|[]=>F|_=>none
noncomputable def onKw (x:Keyword) (F:Str→PySem.Expr→Pos→Option α):Option α:=match x with|⟨a,v,p⟩=>match a with|some k=>F k v p|_=>none
noncomputable def onNat (x:Int) (F:Nat→Option α):Option α:=match x with | .ofNat n=>F n|_=>none
@[elab_as_elim] theorem onCall_e (x:PySem.Expr) {F} {P:PySem.Expr→Prop} (h:onCall x F=some d) (q:∀ f a k p,F f a k p=some d→P (.Call f a k p)):P x:=by
  rw [← vw_eq x]
  unfold onCall at h
  generalize vw x=v at h
  cases v<;>first|exact q _ _ _ _ h|exact nope h
@[elab_as_elim] theorem onAttr_e (x:PySem.Expr) {F} {P:PySem.Expr→Prop} (h:onAttr x F=some d) (q:∀ f a p,F f a p=some d→P (.Attribute f a p)):P x:=by
  rw [← vw_eq x]
  unfold onAttr at h
  generalize vw x=v at h
  cases v<;>first|exact q _ _ _ h|exact nope h
@[elab_as_elim] theorem onName_e (x:PySem.Expr) {F} {P:PySem.Expr→Prop} (h:onName x F=some d) (q:∀ f p,F f p=some d→P (.Name f p)):P x:=by
  rw [← vw_eq x]
  unfold onName at h
  generalize vw x=v at h
  cases v<;>first|exact q _ _ h|exact nope h
@[elab_as_elim] theorem onSub_e (x:PySem.Expr) {F} {P:PySem.Expr→Prop} (h:onSub x F=some d) (q:∀ f a p,F f a p=some d→P (.Subscript f a p)):P x:=by
  rw [← vw_eq x]
  unfold onSub at h
  generalize vw x=v at h
  cases v<;>first|exact q _ _ _ h|exact nope h
@[elab_as_elim] theorem onSli_e (x:PySem.Expr) {F} {P:PySem.Expr→Prop} (h:onSli x F=some d) (q:∀ f a b p,F f a b p=some d→P (.Slice f a b p)):P x:=by
  rw [← vw_eq x]
  unfold onSli at h
  generalize vw x=v at h
  cases v<;>first|exact q _ _ _ _ h|exact nope h
@[elab_as_elim] theorem onBin_e (x:PySem.Expr) {F} {P:PySem.Expr→Prop} (h:onBin x F=some d) (q:∀ f o a p,F f o a p=some d→P (.BinOp f o a p)):P x:=by
  rw [← vw_eq x]
  unfold onBin at h
  generalize vw x=v at h
  cases v<;>first|exact q _ _ _ _ h|exact nope h
@[elab_as_elim] theorem onConst_e (x:PySem.Expr) {F} {P:PySem.Expr→Prop} (h:onConst x F=some d) (q:∀ f k p,F f k p=some d→P (.Constant f k p)):P x:=by
  rw [← vw_eq x]
  unfold onConst at h
  generalize vw x=v at h
  cases v<;>first|exact q _ _ _ h|exact nope h
@[elab_as_elim] theorem onLs_e (x:PySem.Expr) {F} {P:PySem.Expr→Prop} (h:onLs x F=some d) (q:∀ f p,F f p=some d→P (.List f p)):P x:=by
  rw [← vw_eq x]
  unfold onLs at h
  generalize vw x=v at h
  cases v<;>first|exact q _ _ h|exact nope h
@[elab_as_elim] theorem onTup_e (x:PySem.Expr) {F} {P:PySem.Expr→Prop} (h:onTup x F=some d) (q:∀ f k p,F f k p=some d→P (.Tuple f k p)):P x:=by
  rw [← vw_eq x]
  unfold onTup at h
  generalize vw x=v at h
  cases v<;>first|exact q _ _ _ h|exact nope h
@[elab_as_elim] theorem onIntC_e (x:PySem.Const) {F} {P:PySem.Const→Prop} (h:onIntC x F=some d) (q:∀ i,F i=some d→P (.int i)):P x:=by cases x<;>first|exact q _ h|exact nope h
@[elab_as_elim] theorem onBoolC_e (x:PySem.Const) {F} {P:PySem.Const→Prop} (h:onBoolC x F=some d) (q:∀ i,F i=some d→P (.bool i)):P x:=by cases x<;>first|exact q _ h|exact nope h
@[elab_as_elim] theorem onOne_e {β:Type} (x:List β) {F} {P:List β→Prop} (h:onOne x F=some d) (q:∀ a,F a=some d→P [a]):P x:=by
  cases x with
  | nil=>exact nope h
  | cons a t=>cases t with
    | nil=>exact q _ h
    | cons b t=>exact nope h
@[elab_as_elim] theorem onNil_e {β:Type} (x:List β) {F} {P:List β→Prop} (h:onNil x F=some d) (q:F=some d→P []):P x:=by cases x<;>first|exact q h|exact nope h
@[elab_as_elim] theorem onKw_e (x:Keyword) {F} {P:Keyword→Prop} (h:onKw x F=some d) (q:∀ k v p,F k v p=some d→P ⟨some k,v,p⟩):P x:=by
  obtain ⟨a,v,p⟩:=x
  cases a<;>first|exact q _ _ _ h|exact nope h
@[elab_as_elim] theorem onNat_e (x:Int) {F} {P:Int→Prop} (h:onNat x F=some d) (q:∀ n,F n=some d→P (.ofNat n)):P x:=by cases x<;>first|exact q _ h|exact nope h
noncomputable def on1 (x:PySem.Expr) (F:Str→Pos→PySem.Expr→Pos→Option α):Option α:=onCall x fun f a k pos=>onName f fun n p=>onOne a fun a=>onNil k (F n p a pos)
noncomputable def onM (x:PySem.Expr) (F:Str→Pos→Str→Pos→PySem.Expr→Pos→Option α):Option α:=onCall x fun f a k pos=>onAttr f fun f m mp=>onName f fun n p=>onOne a fun a=>onNil k (F n p m mp a pos)
noncomputable def onK (x:PySem.Expr) (F:Str→Pos→PySem.Expr→Str→Bool→Nat→Pos→Pos→Pos→Option α):Option α:=onCall x fun f a k pos=>onName f fun n p=>onOne a fun a=>onOne k fun k=>onKw k fun k v kq=>onConst v fun v kk kp=>onBoolC v fun b=>F n p a k b kk kp kq pos
noncomputable def onMK (x:PySem.Expr) (F:Str→Pos→Str→Pos→PySem.Expr→Str→Bool→Nat→Pos→Pos→Pos→Option α):Option α:=onCall x fun f a k pos=>onAttr f fun f m mp=>onName f fun n p=>onOne a fun a=>onOne k fun k=>onKw k fun k v kq=>onConst v fun v kk kp=>onBoolC v fun b=>F n p m mp a k b kk kp kq pos
noncomputable def onInt (x:PySem.Expr) (F:Int→Nat→Pos→Option α):Option α:=onConst x fun v kk kp=>onIntC v fun b=>F b kk kp
@[elab_as_elim] theorem onInt_e (x:PySem.Expr) {F} {P:PySem.Expr→Prop} (h:onInt x F=some d) (q:∀ i k p,F i k p=some d→P (.Constant (.int i) k p)):P x :=
  onConst_e x h fun v k p h=>onIntC_e v h fun i h=>q i k p h
@[elab_as_elim] theorem on1_e (x:PySem.Expr) {F} {P:PySem.Expr→Prop} (h:on1 x F=some d) (q:∀ n p a pos,F n p a pos=some d→P (.Call (.Name n p) [a] [] pos)):P x :=
  onCall_e x h fun f a k pos h=>onName_e f h fun n p h=>onOne_e a h fun a h=>onNil_e k h fun h=>q _ _ _ _ h
@[elab_as_elim] theorem onM_e (x:PySem.Expr) {F} {P:PySem.Expr→Prop} (h:onM x F=some d) (q:∀ n p m mp a pos,F n p m mp a pos=some d→P (.Call (.Attribute (.Name n p) m mp) [a] [] pos)):P x :=
  onCall_e x h fun f a k pos h=>onAttr_e f h fun f m mp h=>onName_e f h fun n p h=>onOne_e a h fun a h=>onNil_e k h fun h=>q _ _ _ _ _ _ h
@[elab_as_elim] theorem onK_e (x:PySem.Expr) {F} {P:PySem.Expr→Prop} (h:onK x F=some d) (q:∀ n p a k b kk kp kq pos,F n p a k b kk kp kq pos=some d→P (.Call (.Name n p) [a] [⟨some k,.Constant (.bool b) kk kp,kq⟩] pos)):P x :=
  onCall_e x h fun f a k pos h=>onName_e f h fun n p h=>onOne_e a h fun a h=>onOne_e k h fun k h=>onKw_e k h fun k v kq h=>onConst_e v h fun v kk kp h=>onBoolC_e v h fun b h=>q _ _ _ _ _ _ _ _ _ h
@[elab_as_elim] theorem onMK_e (x:PySem.Expr) {F} {P:PySem.Expr→Prop} (h:onMK x F=some d) (q:∀ n p m mp a k b kk kp kq pos,F n p m mp a k b kk kp kq pos=some d→P (.Call (.Attribute (.Name n p) m mp) [a] [⟨some k,.Constant (.bool b) kk kp,kq⟩] pos)):P x :=
  onCall_e x h fun f a k pos h=>onAttr_e f h fun f m mp h=>onName_e f h fun n p h=>onOne_e a h fun a h=>onOne_e k h fun k h=>onKw_e k h fun k v kq h=>onConst_e v h fun v kk kp h=>onBoolC_e v h fun b h=>q _ _ _ _ _ _ _ _ _ _ _ h
theorem or_e {a b:Option α} {P:Prop} (h:a.or b=some d) (q:a=some d→P) (r:b=some d→P):P:=by
  cases a with
  | none=>exact r h
  | some x=>exact q h
theorem if_e {c:Prop} [Decidable c] {a:Option α} {P:Prop} (h:(if c then a else none)=some d) (q:c→a=some d→P):P:=by
  by_cases hc:c
  · rw [if_pos hc] at h;exact q hc h
  · rw [if_neg hc] at h;exact nope h
theorem ife_e {c:Prop} [Decidable c] {a b:Option α} {P:Prop} (h:(if c then a else b)=some d) (q:c→a=some d→P) (r:¬ c→b=some d→P):P:=by
  by_cases hc:c
  · rw [if_pos hc] at h;exact q hc h
  · rw [if_neg hc] at h;exact r hc h
theorem ifn_e {c:Prop} [Decidable c] {a:Option α} {P:Prop} (h:(if c then none else a)=some d) (q:¬ c→a=some d→P):P:=by
  by_cases hc:c
  · rw [if_pos hc] at h;exact nope h
  · rw [if_neg hc] at h;exact q hc h
theorem bnd_e {β:Type} {a:Option β} {F:β→Option α} {P:Prop} (h:a.bind F=some d) (q:∀ b,a=some b→F b=some d→P):P:=by
  cases a with
  | none=>exact nope h
  | some b=>exact q b rfl h
theorem map_e {β:Type} {a:Option β} {F:β→α} {P:α→Prop} (h:a.map F=some d) (q:∀ b,a=some b→P (F b)):P d:=by
  cases a with
  | none=>exact nope h
  | some b=>exact Option.some.inj h▸q b rfl
noncomputable def isMod:Operator→Bool | .Mod=>true|_=>false
noncomputable def isAdd:Operator→Bool | .Add=>true|_=>false
noncomputable def isFD:Operator→Bool | .FloorDiv=>true|_=>false
theorem isMod_e {o:Operator} (h:isMod o=true):o=.Mod:=by cases o<;>first|rfl|cases h
theorem isAdd_e {o:Operator} (h:isAdd o=true):o=.Add:=by cases o<;>first|rfl|cases h
theorem isFD_e {o:Operator} (h:isFD o=true):o=.FloorDiv:=by cases o<;>first|rfl|cases h
inductive Sv
  | ret (x:Option PySem.Expr) (p:Pos)
  | del (x:List PySem.Expr) (p:Pos)
  | asg (t:List PySem.Expr) (x:PySem.Expr) (p:Pos)
  | aug (t:PySem.Expr) (o:Operator) (x:PySem.Expr) (p:Pos)
  | for_ (t:PySem.Expr) (i:PySem.Expr) (b:List Stmt) (l:List Stmt) (p:Pos)
  | ift (t:PySem.Expr) (b:List Stmt) (l:List Stmt) (p:Pos)
  | asr (t:PySem.Expr) (m:Option PySem.Expr) (p:Pos)
  | exp (x:PySem.Expr) (p:Pos)
  | no
noncomputable def sv:Stmt→Sv
  | .Return x p=>.ret x p
  | .Delete x p=>.del x p
  | .Assign t x p=>.asg t x p
  | .AugAssign t o x p=>.aug t o x p
  | .For t i b l p=>.for_ t i b l p
  | .If t b l p=>.ift t b l p
  | .Assert t m p=>.asr t m p
  | .Expr x p=>.exp x p
  | _=>.no
noncomputable def svx:Sv→Stmt→Stmt
  | .ret x p,_=>.Return x p
  | .del x p,_=>.Delete x p
  | .asg t x p,_=>.Assign t x p
  | .aug t o x p,_=>.AugAssign t o x p
  | .for_ t i b l p,_=>.For t i b l p
  | .ift t b l p,_=>.If t b l p
  | .asr t m p,_=>.Assert t m p
  | .exp x p,_=>.Expr x p
  | .no,x=>x
theorem sv_eq (x:Stmt):svx (sv x) x=x:=by cases x<;>rfl
noncomputable def onNT (x:PySem.Expr) (F:Str→Pos→Option α) (G:List PySem.Expr→Nat→Pos→Option α):Option α:=match vw x with | .name n p=>F n p | .tup l k p=>G l k p|_=>none
noncomputable def onNS (x:PySem.Expr) (F:Str→Pos→Option α) (G:PySem.Expr→PySem.Expr→Pos→Option α):Option α:=match vw x with | .name n p=>F n p | .sub l k p=>G l k p|_=>none
noncomputable def on01 {β:Type} (x:List β) (F:Option α) (G:β→Option α):Option α:=match x with|[]=>F|a::t=>onNil t (G a)
@[elab_as_elim] theorem onNT_e (x:PySem.Expr) {F G} {P:PySem.Expr→Prop} (h:onNT x F G=some d) (q:∀ n p,F n p=some d→P (.Name n p)) (r:∀ l k p,G l k p=some d→P (.Tuple l k p)):P x:=by
  rw [← vw_eq x]
  unfold onNT at h
  generalize vw x=v at h
  cases v<;>first|exact q _ _ h|exact r _ _ _ h|exact nope h
@[elab_as_elim] theorem onNS_e (x:PySem.Expr) {F G} {P:PySem.Expr→Prop} (h:onNS x F G=some d) (q:∀ n p,F n p=some d→P (.Name n p)) (r:∀ l k p,G l k p=some d→P (.Subscript l k p)):P x:=by
  rw [← vw_eq x]
  unfold onNS at h
  generalize vw x=v at h
  cases v<;>first|exact q _ _ h|exact r _ _ _ h|exact nope h
@[elab_as_elim] theorem on01_e {β:Type} (x:List β) {F G} {P:List β→Prop} (h:on01 x F G=some d) (q:F=some d→P []) (r:∀ a,G a=some d→P [a]):P x:=by
  cases x with
  | nil=>exact q h
  | cons a t=>exact onNil_e t h fun h=>r a h
noncomputable def onNA (x:PySem.Expr) (F:Str→Pos→Option α) (G:PySem.Expr→Str→Pos→Option α):Option α:=match vw x with | .name n p=>F n p | .attr l k p=>G l k p|_=>none
@[elab_as_elim] theorem onNA_e (x:PySem.Expr) {F G} {P:PySem.Expr→Prop} (h:onNA x F G=some d) (q:∀ n p,F n p=some d→P (.Name n p)) (r:∀ l k p,G l k p=some d→P (.Attribute l k p)):P x:=by
  rw [← vw_eq x]
  unfold onNA at h
  generalize vw x=v at h
  cases v<;>first|exact q _ _ h|exact r _ _ _ h|exact nope h
noncomputable def onCB (x:PySem.Expr) (F:BoolOp→List PySem.Expr→Pos→Option α) (G:PySem.Expr→List PySem.Expr→List Keyword→Pos→Option α) (H:Option α):Option α:=match vw x with | .bop n p q=>F n p q | .call f l k p=>G f l k p|_=>H
theorem onCB_e (x:PySem.Expr) {F G H} {P:PySem.Expr→Prop} (h:onCB x F G H=some d) (q:∀ n p r,F n p r=some d→P (.BoolOp n p r)) (r:∀ f l k p,G f l k p=some d→P (.Call f l k p)) (t:H=some d→P x):P x:=by
  have e:=vw_eq x
  unfold onCB at h
  generalize vw x=v at h e
  cases v<;>first|exact t h|exact e▸q _ _ _ h|exact e▸r _ _ _ _ h
noncomputable def onSl (x:PySem.Expr) (F:Option PySem.Expr→Option PySem.Expr→Option PySem.Expr→Pos→Option α) (H:Option α):Option α:=match vw x with | .sli f a b p=>F f a b p|_=>H
theorem onSl_e {x:PySem.Expr} {F H} {P:PySem.Expr→Prop} (h:onSl x F H=some d) (q:∀ f a b p,F f a b p=some d→P (.Slice f a b p)) (t:H=some d→P x):P x:=by
  have e:=vw_eq x
  unfold onSl at h
  generalize vw x=v at h e
  cases v<;>first|exact t h|exact e▸q _ _ _ _ h
noncomputable def isNot:UnaryOp→Bool | .Not=>true|_=>false
theorem isNot_e {o:UnaryOp} (h:isNot o=true):o=.Not:=by cases o<;>first|rfl|cases h
end
end
section
structure Res where
  a:Nat
  b:Nat
  s:Nat
  m:Bool
  q:Nat
structure Fits (x:Int) (r:Res):Prop where
  a:x.fmod 3=r.a
  b:(x.fdiv 3).fmod 3=r.b
  s:(x.fdiv 9).fmod 16=r.s
  m:(x.fdiv 144).fmod 2=if r.m then 1 else 0
  q:∀ t:Nat,(x.fdiv 288+t).fmod 8=((r.q+t) % 8:Nat)
inductive D where
  | int (i:Int)
  | num (x:Int) (r:Res)
  | bool (b:Bool)
  | str (s:Str)
  | none
  | raw (v:Value)
  | list (l:List D)
  | tup (l:List D)
  | obj (l:List D)
  | pl (l:List D)
structure HdrAt (h:Heap) (W:List Addr) (a dx b:Addr):Prop where
  inst:∃ o,h.get? a=some o∧o.cls=.ref 232∧(∀ c,o.data≠.cls c)∧o.dict=some dx∧dx≠a
  ns:h.Ns1 dx fun n=>if n=("_headers":Str) then some (.ref b) else Option.none
  na:a∉W
  nd:dx∉W
  nb:b∉W
theorem HdrAt.to {h h':Heap} {W W':List Addr} {a dx b:Addr} (x:HdrAt h W a dx b) (k:∀ c o,c∉W→h.get? c=some o→h'.get? c=some o) (hW:∀ c o,h.get? c=some o→c∉W→c∉W') (hb:∃ o,h.get? b=some o):HdrAt h' W' a dx b:=by
  obtain ⟨⟨o,g,r⟩,ns,na,nd,nb⟩:=x
  refine ⟨⟨o,k a o na g,r⟩,ns.at fun o=>k dx o nd,hW a o g na,?_,?_⟩
  · refine el32 ns fun o' _ _ g' _=>?_
    exact hW dx o' g' nd
  · obtain ⟨o',g'⟩:=hb
    exact hW b o' g' nb
theorem islist_live {h:Heap} {b:Addr} {xs:Array Value} (x:h.IsList b xs):∃ o,h.get? b=some o:=let ⟨o,ho,_⟩:=x;⟨o,ho⟩
mutual
noncomputable def rep (h:Heap) (W:List Addr):D→Value→Prop
  | .int i,v=>∃ t,v=.int i t
  | .num x r,v=>(∃ t,v=.int x t)∧Fits x r
  | .bool b,v=>v=.bool b
  | .str s,v=>∃ t,v=.str s t
  | .none,v=>v=.none
  | .raw u,v=>v=u
  | .list l,v=>∃ a xs,v=.ref a∧a∉W∧h.IsList a (List.toArray xs)∧reps h W l xs
  | .tup l,v=>∃ a xs,v=.ref a∧a∉W∧h.IsTuple a (List.toArray xs)∧reps h W l xs
  | .obj l,v=>∃ a dx b xs,v=.ref a∧HdrAt h W a dx b∧h.IsList b (List.toArray xs)∧reps h W l xs
  | .pl l,v=>∃ a xs,v=.ref a∧a∉W∧h.PlainList a (List.toArray xs)∧reps h W l xs
noncomputable def reps (h:Heap) (W:List Addr):List D→List Value→Prop
  | [],xs=>xs=[]
  | d::l,xs=>∃ v vs,xs=v::vs∧rep h W d v∧reps h W l vs
end
noncomputable abbrev HK (h h':Heap):Prop:=∀ b o,h.get? b=some o→h'.get? b=some o
noncomputable abbrev HKW (W:List Addr) (h h':Heap):Prop:=∀ b o,b∉W→h.get? b=some o→h'.get? b=some o
theorem islist_keep {h h':Heap} {a:Addr} {xs:Array Value} (hk:∀ o,h.get? a=some o→h'.get? a=some o) (x:h.IsList a xs):h'.IsList a xs:=let ⟨o,ho,r⟩:=x;⟨o,hk o ho,r⟩
theorem istup_keep {h h':Heap} {a:Addr} {xs:Array Value} (hk:∀ o,h.get? a=some o→h'.get? a=some o) (x:h.IsTuple a xs):h'.IsTuple a xs:=let ⟨o,ho,r⟩:=x;⟨o,hk o ho,r⟩
mutual
theorem rep_keepW {h h':Heap} {W U:List Addr} (hk:HKW U h h') (sub:∀ a∈U,a∈W):∀ (d:D) (v:Value),rep h W d v→rep h' W d v
  | .int i,v,x=>by simpa only [rep] using x
  | .num _ _,v,x=>by simpa only [rep] using x
  | .bool b,v,x=>by simpa only [rep] using x
  | .str s,v,x=>by simpa only [rep] using x
  | .none,v,x=>by simpa only [rep] using x
  | .raw u,v,x=>by simpa only [rep] using x
  | .list l,v,x=>by
    simp only [rep] at x ⊢
    refine el24 x fun a xs e n il r=>?_
    exact ⟨a,xs,e,n,islist_keep (fun o=>hk a o fun m=>n (sub a m)) il,reps_keepW hk sub l xs r⟩
  | .tup l,v,x=>by
    simp only [rep] at x ⊢
    refine el24 x fun a xs e n il r=>?_
    exact ⟨a,xs,e,n,istup_keep (fun o=>hk a o fun m=>n (sub a m)) il,reps_keepW hk sub l xs r⟩
  | .obj l,v,x=>by
    simp only [rep] at x ⊢
    refine el44 x fun a dx b xs e n il r=>?_
    exact ⟨a,dx,b,xs,e,n.to (fun c o nc=>hk c o fun m=>nc (sub c m)) (fun _ _ _ m=>m) (islist_live il),islist_keep (fun o=>hk b o fun m=>n.nb (sub b m)) il,reps_keepW hk sub l xs r⟩
  | .pl l,v,x=>by
    simp only [rep] at x ⊢
    refine el24 x fun a xs e n il r=>?_
    exact ⟨a,xs,e,n,il.at fun o=>hk a o fun m=>n (sub a m),reps_keepW hk sub l xs r⟩
theorem reps_keepW {h h':Heap} {W U:List Addr} (hk:HKW U h h') (sub:∀ a∈U,a∈W):∀ (l:List D) (xs:List Value),reps h W l xs→reps h' W l xs
  | [],xs,x=>by simpa only [reps] using x
  | d::l,xs,x=>by
    simp only [reps] at x ⊢
    refine el23 x fun v vs e r rs=>?_
    exact ⟨v,vs,e,rep_keepW hk sub d v r,reps_keepW hk sub l vs rs⟩
end
theorem rep_keep {h h':Heap} {W:List Addr} (hk:HK h h') (d:D) (v:Value) (x:rep h W d v):rep h' W d v :=
  rep_keepW (U:=[]) (fun b o _ e=>hk b o e) (fun a m=>by cases m) d v x
theorem reps_keep {h h':Heap} {W:List Addr} (hk:HK h h') (l:List D) (xs:List Value) (x:reps h W l xs):reps h' W l xs :=
  reps_keepW (U:=[]) (fun b o _ e=>hk b o e) (fun a m=>by cases m) l xs x
mutual
theorem rep_sub {h:Heap} {W U:List Addr} (sub:∀ a∈U,a∈W):∀ (d:D) (v:Value),rep h W d v→rep h U d v
  | .int i,v,x=>by simpa only [rep] using x
  | .num _ _,v,x=>by simpa only [rep] using x
  | .bool b,v,x=>by simpa only [rep] using x
  | .str s,v,x=>by simpa only [rep] using x
  | .none,v,x=>by simpa only [rep] using x
  | .raw u,v,x=>by simpa only [rep] using x
  | .list l,v,x=>by
    simp only [rep] at x ⊢
    refine el24 x fun a xs e n il r=>?_
    exact ⟨a,xs,e,fun m=>n (sub a m),il,reps_sub sub l xs r⟩
  | .tup l,v,x=>by
    simp only [rep] at x ⊢
    refine el24 x fun a xs e n il r=>?_
    exact ⟨a,xs,e,fun m=>n (sub a m),il,reps_sub sub l xs r⟩
  | .obj l,v,x=>by
    simp only [rep] at x ⊢
    refine el44 x fun a dx b xs e n il r=>?_
    exact ⟨a,dx,b,xs,e,n.to (fun _ _ _ g=>g) (fun c _ _ nc m=>nc (sub c m)) (islist_live il),il,reps_sub sub l xs r⟩
  | .pl l,v,x=>by
    simp only [rep] at x ⊢
    refine el24 x fun a xs e n il r=>?_
    exact ⟨a,xs,e,fun m=>n (sub a m),il,reps_sub sub l xs r⟩
theorem reps_sub {h:Heap} {W U:List Addr} (sub:∀ a∈U,a∈W):∀ (l:List D) (xs:List Value),reps h W l xs→reps h U l xs
  | [],xs,x=>by simpa only [reps] using x
  | d::l,xs,x=>by
    simp only [reps] at x ⊢
    refine el23 x fun v vs e r rs=>?_
    exact ⟨v,vs,e,rep_sub sub d v r,reps_sub sub l vs rs⟩
end
mutual
theorem rep_fresh {h:Heap} {W:List Addr} {n:Addr} (hn:h.get? n=Option.none):∀ (d:D) (v:Value),rep h W d v→rep h (n::W) d v
  | .int i,v,x=>by simpa only [rep] using x
  | .num _ _,v,x=>by simpa only [rep] using x
  | .bool b,v,x=>by simpa only [rep] using x
  | .str s,v,x=>by simpa only [rep] using x
  | .none,v,x=>by simpa only [rep] using x
  | .raw u,v,x=>by simpa only [rep] using x
  | .list l,v,x=>by
    simp only [rep] at x ⊢
    refine el24 x fun a xs e m il r=>?_
    refine ⟨a,xs,e,fun q=>?_,il,reps_fresh hn l xs r⟩
    rcases List.mem_cons.1 q with q|q
    · subst q;obtain ⟨o,ho,_⟩:=il;rw [hn] at ho;cases ho
    · exact m q
  | .tup l,v,x=>by
    simp only [rep] at x ⊢
    refine el24 x fun a xs e m il r=>?_
    refine ⟨a,xs,e,fun q=>?_,il,reps_fresh hn l xs r⟩
    rcases List.mem_cons.1 q with q|q
    · subst q;obtain ⟨o,ho,_⟩:=il;rw [hn] at ho;cases ho
    · exact m q
  | .obj l,v,x=>by
    simp only [rep] at x ⊢
    refine el44 x fun a dx b xs e m il r=>?_
    refine ⟨a,dx,b,xs,e,m.to (fun _ _ _ g=>g) (fun c o g nc q=>?_) (islist_live il),il,reps_fresh hn l xs r⟩
    rcases List.mem_cons.1 q with q|q
    · subst q;rw [hn] at g;cases g
    · exact nc q
  | .pl l,v,x=>by
    simp only [rep] at x ⊢
    refine el24 x fun a xs e m il r=>?_
    refine ⟨a,xs,e,fun q=>?_,il,reps_fresh hn l xs r⟩
    rcases List.mem_cons.1 q with q|q
    · subst q;obtain ⟨k,ho⟩:=il;rw [hn] at ho;cases ho
    · exact m q
theorem reps_fresh {h:Heap} {W:List Addr} {n:Addr} (hn:h.get? n=Option.none):∀ (l:List D) (xs:List Value),reps h W l xs→reps h (n::W) l xs
  | [],xs,x=>by simpa only [reps] using x
  | d::l,xs,x=>by
    simp only [reps] at x ⊢
    refine el23 x fun v vs e r rs=>?_
    exact ⟨v,vs,e,rep_fresh hn d v r,reps_fresh hn l vs rs⟩
end
theorem reps_len {h:Heap} {W:List Addr}:∀ (l:List D) (xs:List Value),reps h W l xs→xs.length=l.length
  | [],xs,x=>by simp only [reps] at x;subst x;rfl
  | d::l,xs,x=>by
    simp only [reps] at x
    refine el23 x fun v vs e r rs=>?_
    rw [e,List.length_cons,List.length_cons,reps_len l vs rs]
theorem reps_get {h:Heap} {W:List Addr}:∀ (l:List D) (xs:List Value) (i:Nat) (d:D),reps h W l xs→l[i]?=some d→∃ v,xs[i]?=some v∧rep h W d v
  | [],xs,i,d,x,e=>by simp at e
  | d0::l,xs,i,d,x,e=>by
    simp only [reps] at x
    refine el23 x fun v vs q2q r rs=>?_;subst q2q
    cases i with
    | zero=>simp at e;subst e;exact ⟨v,by simp,r⟩
    | succ i =>
      simp only [List.getElem?_cons_succ] at e ⊢
      exact reps_get l vs i d rs e
theorem reps_append {h:Heap} {W:List Addr}:∀ (l m:List D) (xs ys:List Value),reps h W l xs→reps h W m ys→reps h W (l++m) (xs++ys)
  | [],m,xs,ys,x,y=>by simp only [reps] at x;rw [x];exact y
  | d::l,m,xs,ys,x,y=>by
    simp only [reps] at x
    refine el23 x fun v vs q2q r rs=>?_;subst q2q
    simp only [List.cons_append,reps]
    exact ⟨v,vs++ys,rfl,r,reps_append l m vs ys rs y⟩
end
section
noncomputable def asStr:D→Option (Str) | .str b=>some b|_=>none
noncomputable def asInt:D→Option (Int) | .int b=>some b|_=>none
noncomputable def asObj:D→Option (List D) | .obj b=>some b|_=>none
noncomputable def asLi:D→Option (List D) | .list b=>some b|_=>none
noncomputable def asPl:D→Option (List D) | .pl b=>some b|_=>none
noncomputable def asRaw:D→Option (Value) | .raw b=>some b|_=>none
noncomputable def asTup:D→Option (List D) | .tup b=>some b|_=>none
noncomputable def asNum:D→Option (Int × Res) | .num x r=>some (x,r)|_=>none
noncomputable def vRef:Value→Option (Addr) | .ref b=>some b|_=>none
noncomputable def asRef (d:D):Option (Addr):=(asRaw d).bind vRef
noncomputable def vTy:Value→Option (String) | .type b=>some b|_=>none
noncomputable def asTy (d:D):Option (String):=(asRaw d).bind vTy
noncomputable def vBi:Value→Option (String) | .builtin b=>some b|_=>none
noncomputable def asBi (d:D):Option (String):=(asRaw d).bind vBi
noncomputable def asNat (d:D):Option Nat:=(asInt d).bind fun i=>onNat i some
noncomputable def on2 {α β:Type} (l:List β) (F:β→β→Option α):Option α:=match l with|[]=>none|a::t=>onOne t (F a)
noncomputable def on3 {α β:Type} (l:List β) (F:β→β→β→Option α):Option α:=match l with|[]=>none|a::t=>on2 t (F a)
noncomputable def onD {α β:Type} (a:Option D) (g:D→Option β) (F:β→Option α):Option α:=a.bind fun d=>(g d).bind F
noncomputable def Gets {β:Type} (g:D→Option β) (mk:β→D):Prop:=∀ {d b},g d=some b→d=mk b
theorem onD_e {α β:Type} {r:α} {a:Option D} {g:D→Option β} {F:β→Option α} {mk:β→D} {P:Prop} (hg:Gets g mk) (h:onD a g F=some r) (q:∀ b,a=some (mk b)→F b=some r→P):P :=
  bnd_e h fun d hd h=>bnd_e h fun b hb h=>q b (hd.trans (congrArg some (hg hb))) h
@[elab_as_elim] theorem on2_e {α β:Type} {r:α} (l:List β) {F:β→β→Option α} {P:List β→Prop} (h:on2 l F=some r) (q:∀ a b,F a b=some r→P [a,b]):P l:=by
  cases l with
  | nil=>exact nope h
  | cons a t=>exact onOne_e t h fun b h=>q a b h
@[elab_as_elim] theorem on3_e {α β:Type} {r:α} (l:List β) {F:β→β→β→Option α} {P:List β→Prop} (h:on3 l F=some r) (q:∀ a b c,F a b c=some r→P [a,b,c]):P l:=by
  cases l with
  | nil=>exact nope h
  | cons a t=>exact on2_e t h fun b c h=>q a b c h
theorem asStr_g:Gets asStr .str:=fun {d b} h=>by cases d<;>first|exact congrArg _ (Option.some.inj h)|exact nope h
theorem asInt_g:Gets asInt .int:=fun {d b} h=>by cases d<;>first|exact congrArg _ (Option.some.inj h)|exact nope h
theorem asObj_g:Gets asObj .obj:=fun {d b} h=>by cases d<;>first|exact congrArg _ (Option.some.inj h)|exact nope h
theorem asLi_g:Gets asLi .list:=fun {d b} h=>by cases d<;>first|exact congrArg _ (Option.some.inj h)|exact nope h
theorem asPl_g:Gets asPl .pl:=fun {d b} h=>by cases d<;>first|exact congrArg _ (Option.some.inj h)|exact nope h
theorem asRaw_g:Gets asRaw .raw:=fun {d b} h=>by cases d<;>first|exact congrArg _ (Option.some.inj h)|exact nope h
theorem asTup_g:Gets asTup .tup:=fun {d b} h=>by cases d<;>first|exact congrArg _ (Option.some.inj h)|exact nope h
theorem asNum_g:Gets asNum (fun b=>.num b.1 b.2):=fun {d b} h=>by cases d<;>first|exact nope h|exact Option.some.inj h▸rfl
theorem asRef_g:Gets asRef (fun b=>.raw (.ref b)):=fun {d b} h=>bnd_e h fun v hv h=>(asRaw_g hv).trans (by cases v<;>first|exact nope h|exact congrArg (fun b=>D.raw (.ref b)) (Option.some.inj h))
theorem asTy_g:Gets asTy (fun b=>.raw (.type b)):=fun {d b} h=>bnd_e h fun v hv h=>(asRaw_g hv).trans (by cases v<;>first|exact nope h|exact congrArg (fun b=>D.raw (.type b)) (Option.some.inj h))
theorem asBi_g:Gets asBi (fun b=>.raw (.builtin b)):=fun {d b} h=>bnd_e h fun v hv h=>(asRaw_g hv).trans (by cases v<;>first|exact nope h|exact congrArg (fun b=>D.raw (.builtin b)) (Option.some.inj h))
theorem asNat_g:Gets asNat (fun b=>.int (.ofNat b)):=fun {d b} h=>bnd_e h fun v hv h=>(asInt_g hv).trans (by cases v<;>first|exact nope h|exact congrArg (fun b=>D.int (.ofNat b)) (Option.some.inj h))
noncomputable def on2D {α β γ:Type} (g:D→Option β) (k:D→Option γ) (x y:D) (F:β→γ→Option α):Option α:=(g x).bind fun a=>(k y).bind fun b=>F a b
@[elab_as_elim] theorem on2D_e {α β γ:Type} {g:D→Option β} {k:D→Option γ} {mk:β→D} {mk':γ→D} {F:β→γ→Option α} {r:α} {P:D→D→Prop} (hg:Gets g mk) (hk:Gets k mk') (x y:D) (h:on2D g k x y F=some r) (q:∀ a b,F a b=some r→P (mk a) (mk' b)):P x y :=
  bnd_e h fun a ha h=>bnd_e h fun b hb h=>by rw [hg ha,hk hb];exact q a b h
noncomputable def asBool:D→Option Bool | .bool b=>some b|_=>none
theorem asBool_g:Gets asBool .bool:=fun {d b} h=>by cases d<;>first|exact congrArg _ (Option.some.inj h)|exact nope h
noncomputable def isNo:D→Bool | .none=>true|_=>false
theorem isNo_e {d:D} (h:isNo d=true):d=.none:=by cases d<;>first|rfl|cases h
theorem len1 {P:List Value→Prop} (h:∀ a,P [a]):∀ vs:List Value,vs.length=1→P vs
  | [a],_=>h a
theorem len2 {P:List Value→Prop} (h:∀ a b,P [a,b]):∀ vs:List Value,vs.length=2→P vs
  | [a,b],_=>h a b
theorem len3 {P:List Value→Prop} (h:∀ a b c,P [a,b,c]):∀ vs:List Value,vs.length=3→P vs
  | [a,b,c],_=>h a b c
end
section
theorem H1_get {P:Params} {a:Addr} {o:Obj} (lt:a<302) (g:(tr_f P).get a=some o) (al:PySem.W.alive o=some o):(H1 P).get? a=some o:=by
  unfold Heap.get? H1
  rw [absHeap_at,if_pos lt,g]
  obtain ⟨c,d,dat,sl⟩:=o
  cases dat<;>first|rfl|(cases al)
theorem base_get {w:World} {h:Heap} {a:Addr} {o:Obj} (Y:YP w h) (lt:a<302) (g:(tr_f w.params).get a=some o) (al:PySem.W.alive o=some o):h.get? a=some o:=Y a o (H1_get lt g al)
noncomputable def esAt (P:Params) (a:Addr):Array DictEntry:=match (tr_f P).get a with
  | some ⟨_,_,.dict es _,_⟩=>es
  | _=>#[]
noncomputable def strKeysB (l:List DictEntry):Bool:=l.all fun e=>match e.key with | .str ..=>true|_=>false
theorem strKeys_of {es:Array DictEntry} (h:strKeysB es.toList=true):StrKeys es:=fun e he=>by
  have:=List.all_eq_true.mp h e (Array.mem_toList_iff.mpr he)
  revert this
  cases e.key<;>simp
theorem nsAt {w:World} {h:Heap} {a:Addr} (Y:YP w h) (lt:a<302) (o:Obj) (g:(tr_f w.params).get a=some o) (ep:Nat) (hd:o.data=.dict (esAt w.params a) ep)
    (hk:strKeysB (esAt w.params a).toList=true):h.Ns a (nsFind (esAt w.params a)):=by
  refine ⟨o,_,ep,base_get Y lt g ?_,hd,strKeys_of hk,fun _=>rfl⟩
  obtain ⟨c,d,dat,sl⟩:=o
  dsimp only at hd
  subst hd
  rfl
noncomputable def objAt (P:Params) (a:Addr):Obj:=((tr_f P).get a).getD default
noncomputable def epAt (P:Params) (a:Addr):Nat:=match objAt P a with
  | ⟨_,_,.dict _ ep,_⟩=>ep
  | _=>0
theorem nsMain {w:World} {h:Heap} (Y:YP w h):h.Ns mainGlobals (nsFind (esAt w.params 3)) :=
  nsAt (a:=3) Y (by decide) (objAt w.params 3) (by kernel_rfl!) (epAt w.params 3) (by kernel_rfl!) (by kernel_rfl!)
theorem nsBlt {w:World} {h:Heap} (Y:YP w h):h.Ns builtinsNs (nsFind (esAt w.params 0)) :=
  nsAt (a:=0) Y (by decide) (objAt w.params 0) (by kernel_rfl!) (epAt w.params 0) (by kernel_rfl!) (by kernel_rfl!)
theorem nsSta {w:World} {h:Heap} (Y:YP w h):h.Ns cStatics (nsFind (esAt w.params cStatics)) :=
  nsAt (a:=cStatics) Y (by decide) (objAt w.params cStatics) (by kernel_rfl!) (epAt w.params cStatics) (by kernel_rfl!) (by kernel_rfl!)
theorem noLimit {w:World} {h:Heap} (Y:YP w h):h.NoLimit:=⟨_,nsSta Y,by kernel_rfl!⟩
noncomputable def toD:Value→Option D
  | .int i _=>some (.int i)
  | .str s _=>some (.str s)
  | .ref a=>some (.raw (.ref a))
  | .builtin n=>some (.raw (.builtin n))
  | .type n=>some (.raw (.type n))
  | _=>none
theorem toD_rep {v:Value} {d:D} {h:Heap} {W:List Addr} (e:toD v=some d):rep h W d v:=by
  cases v<;>simp only [toD,Option.some.injEq,reduceCtorEq] at e<;>subst e<;>simp [rep]
noncomputable def gD (P:Params) (n:Str):Option D:=match nsFind (esAt P 3) n with
  | some v=>toD v
  | none=>match nsFind (esAt P 0) n with
    | some v=>toD v
    | none=>none
theorem loadG {w:World} {A:Around} {E:Value→Shared→Prop} {Q:Value→Shared→Prop} {s:Shared} {e:Env} {n:Str} {d:D} {W:List Addr} (Y:YP w s.heap) (hg:e.globals=mainGlobals) (hb:e.builtins=builtinsNs)
    (hd:gD w.params n=some d) (h:∀ v,rep s.heap W d v→Q v s):wpAny (model pw w) A (loadGlobal e n) Q E s:=by
  unfold gD at hd
  cases e1:nsFind (esAt w.params 3) n with
  | some v =>
    rw [e1] at hd
    exact PySem.Calls.loadGlobal_global (hg▸nsMain Y) e1 (h v (toD_rep hd))
  | none =>
    rw [e1] at hd
    cases e2:nsFind (esAt w.params 0) n with
    | some v =>
      rw [e2] at hd
      exact PySem.Calls.loadGlobal_builtin (hg▸nsMain Y) e1 (hb▸nsBlt Y) e2 (h v (toD_rep hd))
    | none=>rw [e2] at hd;cases hd
noncomputable def isLoc:Option NameKind→Bool
  | some .local|some .cell|some .free=>true
  | _=>false
noncomputable def Has (e:Env) (h:Heap) (n:Str) (v:Value):Prop :=
  (e.kindOf n=some .local∧∃ m,h.Ns e.locals m∧m n=some v)∨((e.kindOf n=some .cell∨e.kindOf n=some .free)∧∃ c,e.cells.lookup n=some c∧h.IsCell c (some v))
theorem Has.keep {e:Env} {h h':Heap} {n:Str} {v:Value} (x:Has e h n v) (hk:HK h h'):Has e h' n v:=by
  rcases x with ⟨k,m,ns,hm⟩|⟨k,c,hc,x⟩
  · exact .inl ⟨k,m,ns.keeps hk,hm⟩
  · exact .inr ⟨k,c,hc,x.keeps hk⟩
noncomputable def isCF:Option NameKind→Bool
  | some .cell|some .free=>true
  | _=>false
structure EnvR (e:Env) (h:Heap) (W:List Addr) (nm:List (Str × NameKind)) (σ:List (Str × D)):Prop where
  kind:e.scope.kind=.function
  glob:e.globals=mainGlobals
  blt:e.builtins=builtinsNs
  gl:∀ n,nm.lookup n=some .globalImplicit→e.kindOf n=some .globalImplicit
  cf:∀ n,isCF (nm.lookup n)=true→∃ c,e.cells.lookup n=some c∧(e.kindOf n=some .cell∨e.kindOf n=some .free)
  ce:∀ n c,e.cells.lookup n=some c→∃ v,h.IsCell c v
  loc:∀ n d,σ.lookup n=some d→isLoc (nm.lookup n)=true→∃ v,Has e h n v∧rep h W d v
theorem EnvR.keep {e:Env} {h h':Heap} {W:List Addr} {nm:List (Str × NameKind)} {σ:List (Str × D)} (R:EnvR e h W nm σ) (hk:HK h h'):EnvR e h' W nm σ :=
  ⟨R.kind,R.glob,R.blt,R.gl,R.cf,fun n c hc=>let ⟨v,x⟩:=R.ce n c hc;⟨v,x.keeps hk⟩,fun n d x y=>let ⟨v,a,b⟩:=R.loc n d x y;⟨v,a.keep hk,rep_keep hk d v b⟩⟩
noncomputable def EvOk (w:World) (A:Around) (m:Sem Value) (s:Shared) (W:List Addr) (d:D):Prop :=
  ∀ (Q:Value→Shared→Prop) (E:Value→Shared→Prop),(∀ v s',Keeps s s'→rep s'.heap W d v→Q v s')→wpAny (model pw w) A m Q E s
noncomputable def nameD (P:Params) (nm:List (Str × NameKind)) (σ:List (Str × D)) (n:Str):Option D:=match nm.lookup n with
  | some .globalImplicit=>gD P n
  | some .local|some .cell|some .free=>σ.lookup n
  | _=>none
theorem Keeps.rfl' (s:Shared):Keeps s s:=⟨s.heap,s.toks,rfl,fun _ _ e=>e⟩
theorem Keeps.tok' (s:Shared) (t:Nat):Keeps s { s with toks:=t }:=⟨s.heap,t,rfl,fun _ _ e=>e⟩
theorem Keeps.heap {s s':Shared} (k:Keeps s s'):HK s.heap s'.heap:=by obtain ⟨h',tk,rfl,hk⟩:=k;exact hk
theorem Keeps.tr {s s' s'':Shared} (k:Keeps s s') (k':Keeps s' s''):Keeps s s'':=by
  refine el22 k fun h' tk q2q hk=>?_;subst q2q
  refine el22 k' fun h'' tk' q2q hk'=>?_;subst q2q
  exact ⟨h'',tk',rfl,fun b o e=>hk' b o (hk b o e)⟩
theorem ok_Name {w:World} {A:Around} {s:Shared} {e:Env} {n:Str} {pos:Pos} {d:D} {W:List Addr} {nm:List (Str × NameKind)} {σ:List (Str × D)} (Y:YP w s.heap) (R:EnvR e s.heap W nm σ)
    (hd:nameD w.params nm σ n=some d) (hdb:(n==("__debug__":Str))=false) (hcd:(n==("__classdict__":Str))=false):EvOk w A (eval (.Name n pos) e) s W d:=fun Q E h=>by
  unfold nameD at hd
  refine wpAny_Name ?_ hdb
  have loc:∀ k,nm.lookup n=some k→isLoc (some k)=true→σ.lookup n=some d→wpAny (model pw w) A (loadName e n) Q E s:=fun k hk hl hs=>by
    obtain ⟨v,hv,r⟩:=R.loc n d hs (by rw [hk];exact hl)
    rcases hv with ⟨k,m,ns,hm⟩|⟨k|k,c,hc,x⟩
    · exact wpAny_loadName_local R.kind k ns hm (h v s (Keeps.rfl' s) r)
    · exact wpAny_loadName_cell R.kind k hc x (h v s (Keeps.rfl' s) r)
    · exact wpAny_loadName_free R.kind k hc x (h v s (Keeps.rfl' s) r) hcd
  cases hk:nm.lookup n with
  | none=>rw [hk] at hd;cases hd
  | some k =>
    rw [hk] at hd
    cases k with
    | globalImplicit =>
      rw [loadName_read R.kind (R.gl n hk)]
      exact loadG Y R.glob R.blt hd fun v r=>h v s (Keeps.rfl' s) r
    | «local»=>exact loc _ hk rfl hd
    | cell=>exact loc _ hk rfl hd
    | free=>exact loc _ hk rfl hd
    | _=>cases hd
end
section
noncomputable def small29 (b:Int):Bool:=Nat.blt b.natAbs 1073741824
noncomputable def bopI (op:Operator) (a b:Int):Option Int:=match op with
  | .Add=>some (a+b)
  | .Sub=>some (a - b)
  | .Mult=>if small29 a then some (a*b) else none
  | .FloorDiv=>if b != 0&&small29 b then some (a.fdiv b) else none
  | .Mod=>if b != 0 then some (a.fmod b) else none
  | .RShift=>if decide (0≤b) then some (a.fdiv (2 ^ b.toNat)) else none
  | .LShift=>if decide (0≤b)&&(decide (b≤1000000)&&small29 a) then some (a*2 ^ b.toNat) else none
  | .BitAnd=>some (Builtin.bitAnd a b)
  | _=>none
noncomputable def catS (x y:Str):Option Str:=if Nat.ble (x++y).length sizeLine then some (x++y) else none
noncomputable def bopD (op:Operator) (x y:D):Option D :=
  (on2D asInt asInt x y fun a b=>(bopI op a b).map .int).or (on2D asStr asStr x y fun x y=>if isAdd op then (catS x y).map .str else none)
section
variable {w:World} {A:Around} {s:Shared} {W:List Addr}
theorem mulOk {a b:Int} (h:small29 a=true):IntMulOk a b:=by
  refine IntMulOk.of_left ?_
  have h':a.natAbs<1073741824:=by simpa [small29] using h
  unfold Builtin.Int.intBits
  by_cases h0:a.natAbs=0
  · have:a=0:=by lia
    subst this;decide
  · have:a.natAbs.log2<30:=(Nat.log2_lt h0).mpr h'
    split<;>lia
theorem keepsTok (s:Shared) (t:Nat):Keeps s { s with toks:=t }:=⟨s.heap,t,rfl,fun _ _ e=>e⟩
theorem app_empty_l {x y:Str} (h:(x.length==0)=true):x++y=y:=by
  obtain ⟨x⟩:=x;obtain ⟨y⟩:=y
  have:x=#[]:=by simpa [Str.length] using h
  subst this
  show Str.append _ _=_
  simp [Str.append]
theorem app_empty_r {x y:Str} (h:(y.length==0)=true):x++y=x:=by
  obtain ⟨x⟩:=x;obtain ⟨y⟩:=y
  have:y=#[]:=by simpa [Str.length] using h
  subst this
  show Str.append _ _=_
  simp [Str.append]
theorem ok_bopI {op:Operator} {a b r:Int} {t t':Nat} (hr:bopI op a b=some r) {Q E:Value→Shared→Prop} (fin:∀ r',r'=r→Q (.int r' s.toks) { s with toks:=s.toks+1 }):wpAny (model pw w) A (binaryOp op (.int a t) (.int b t')) Q E s:=by
  cases op<;>first|exact nope hr|skip
  case Add=>exact add_int (fin _ (Option.some.inj hr))
  case Sub=>exact sub_int (fin _ (Option.some.inj hr))
  case Mult=>exact if_e hr fun hs hr=>mul_int (fin _ (Option.some.inj hr)) (mulOk hs)
  case FloorDiv =>
    refine if_e hr fun hs hr=>?_
    rw [Bool.and_eq_true] at hs
    exact floordiv_int (by simpa using hs.1) (fin _ (Option.some.inj hr)) (.inl (PyProof.noPylong_small (by simpa [small29] using hs.2)))
  case Mod=>exact if_e hr fun hs hr=>mod_int' (by simpa using hs) (fin _ (Option.some.inj hr))
  case RShift=>exact if_e hr fun hs hr=>rshift_int (by simpa using hs) (fin _ (Option.some.inj hr))
  case LShift =>
    refine if_e hr fun hs hr=>?_
    simp only [Bool.and_eq_true,decide_eq_true_eq] at hs
    have h':a.natAbs<1073741824:=by simpa [small29] using hs.2.2
    exact lshift_int_small hs.1 hs.2.1 (Nat.lt_trans h' (by decide)) (fin _ (Option.some.inj hr))
  case BitAnd=>exact and_int (fin _ (Option.some.inj hr))
theorem ok_bop {op:Operator} {x y d:D} {u v:Value} (hd:bopD op x y=some d) (hu:rep s.heap W x u) (hv:rep s.heap W y v):EvOk w A (binaryOp op u v) s W d:=fun Q E h=>by
  revert hu hv
  refine or_e hd (fun hd=>on2D_e asInt_g asInt_g x y hd fun a b hd hu hv=>?_) (fun hd=>on2D_e asStr_g asStr_g x y hd fun a b hd hu hv=>?_)
  · simp only [rep] at hu hv
    obtain ⟨t,rfl⟩:=hu
    obtain ⟨t',rfl⟩:=hv
    rw [Option.map_eq_some_iff] at hd
    obtain ⟨r,hr,rfl⟩:=hd
    exact ok_bopI hr fun r' e=>h _ _ (keepsTok s _) (by simp only [rep];exact ⟨_,by rw [e]⟩)
  · simp only [rep] at hu hv
    obtain ⟨t,rfl⟩:=hu
    obtain ⟨t',rfl⟩:=hv
    refine if_e hd fun ho hd=>?_
    rw [isAdd_e ho]
    rw [Option.map_eq_some_iff] at hd
    obtain ⟨r,hr,rfl⟩:=hd
    refine if_e hr fun hs hr=>?_
    cases hr
    refine PySem.P.add_str ?_
    split
    · rename_i h0
      exact h _ _ (Keeps.rfl' s) (by simp only [rep];exact ⟨_,by rw [app_empty_l h0]⟩)
    · split
      · rename_i h0
        exact h _ _ (Keeps.rfl' s) (by simp only [rep];exact ⟨_,by rw [app_empty_r h0]⟩)
      · exact ⟨Nat.le_of_ble_eq_true hs,h _ _ (keepsTok s _) ⟨_,rfl⟩⟩
end
end
end Mine
end
section
open PySem PySem.W PyProof.Rows PySem.SeqAt
namespace Mine
section
noncomputable def deqs (f:D→D→Option Bool):List D→List D→Option Bool
  | [],[]=>some true
  | x::xs,y::ys=>(f x y).bind fun a=>(deqs f xs ys).bind fun b=>some (a&&b)
  | _,_=>some false
noncomputable def eqD (rec:List D→List D→Option Bool) (x y:D):Option Bool :=
  (on2D asInt asInt x y fun a b=>some (a==b)).or <| (on2D asStr asStr x y fun a b=>some (a==b)).or <| (on2D asBool asBool x y fun a b=>some (a==b)).or <| on2D asLi asLi x y rec
noncomputable def deq:Nat→D→D→Option Bool
  | 0=>eqD fun _ _=>none
  | n+1=>eqD (deqs (deq n))
theorem eqD_e {rec:List D→List D→Option Bool} {P:D→D→Bool→Prop} {x y:D} {b:Bool} (h:eqD rec x y=some b) (qi:∀ a c,P (.int a) (.int c) (a==c)) (qs:∀ a c,P (.str a) (.str c) (a==c)) (qb:∀ a c,P (.bool a) (.bool c) (a==c)) (ql:∀ l m b,rec l m=some b→P (.list l) (.list m) b):P x y b :=
  or_e h (fun h=>on2D_e asInt_g asInt_g x y h fun a c h=>Option.some.inj h▸qi a c) fun h=>or_e h (fun h=>on2D_e asStr_g asStr_g x y h fun a c h=>Option.some.inj h▸qs a c) fun h=>or_e h (fun h=>on2D_e asBool_g asBool_g x y h fun a c h=>Option.some.inj h▸qb a c) fun h=>on2D_e asLi_g asLi_g x y h fun l m h=>ql l m b h
theorem deqs_len {f:D→D→Option Bool}:∀ {l m:List D} {b:Bool},deqs f l m=some b→l.length≠m.length→b=false
  | [],[],_,_,h=>absurd rfl h
  | [],_::_,b,e,_=>(Option.some.inj e).symm
  | _::_,[],b,e,_=>(Option.some.inj e).symm
  | x::xs,y::ys,b,e,h=>bnd_e e fun a ha e=>bnd_e e fun c hc e=>by
    rw [← Option.some.inj e,deqs_len hc (fun q=>h (congrArg (·+1) q)),Bool.and_false]
noncomputable def deqF (f:D→D→Option Bool) (l m:List D) (j:Nat):Bool:=match l[j]?,m[j]? with|some x,some y=>(f x y).getD false|_,_=>false
theorem deqs_at {f:D→D→Option Bool}:∀ {l m:List D} {b:Bool},deqs f l m=some b→l.length=m.length →
    (∀ (j:Nat) (x y:D),l[j]?=some x→m[j]?=some y→∃ c,f x y=some c)∧b=(List.range l.length).all (deqF f l m)
  | [],[],b,e,_=>⟨fun j x y h=>nope (show none=some x from h),(Option.some.inj e).symm⟩
  | [],_::_,_,_,h=>nomatch h
  | _::_,[],_,_,h=>nomatch h
  | x::xs,y::ys,b,e,h=>bnd_e e fun a ha e=>bnd_e e fun c hc e=>by
    obtain ⟨h1,h2⟩:=deqs_at hc (Nat.succ.inj h)
    refine ⟨fun j x' y' e1 e2=>?_,?_⟩
    · cases j with
      | zero=>exact ⟨a,by rw [← Option.some.inj e1,← Option.some.inj e2];exact ha⟩
      | succ j=>exact h1 j x' y' e1 e2
    · rw [List.length_cons,List.range_succ_eq_map,List.all_cons,List.all_map,← Option.some.inj e,h2]
      show _=((f x y).getD false&&_)
      rw [ha]
      rfl
theorem cLine_is:cLine=9900:=rfl
theorem deqs_same {h:Heap} {W:List Addr} {f:D→D→Option Bool} (hf:∀ x y v b,rep h W x v→rep h W y v→f x y=some b→b=true) :
    ∀ (l m:List D) (xs:List Value) (b:Bool),reps h W l xs→reps h W m xs→deqs f l m=some b→b=true
  | [],[],_,b,_,_,e=>(Option.some.inj e).symm
  | [],y::m,xs,b,r,r',e=>by
    skip
    refine el22 r' fun _ _ q _=>?_
    rw [r] at q;cases q
  | x::l,[],xs,b,r,r',e=>by
    skip
    refine el22 r fun _ _ q _=>?_
    rw [r'] at q;cases q
  | x::l,y::m,xs,b,r,r',e=>bnd_e e fun a ha e=>bnd_e e fun c hc e=>by
    skip
    refine el23 r fun v vs q2q r1 r2=>?_;subst q2q
    refine el23 r' fun v' vs' q r1' r2'=>?_
    cases q
    rw [← Option.some.inj e,hf x y v a r1 r1' ha,deqs_same hf l m vs c r2 r2' hc];rfl
theorem isList_same {h:Heap} {a:Addr} {xs ys:List Value} (il:h.IsList a xs.toArray) (il':h.IsList a ys.toArray):xs=ys:=by
  obtain ⟨o,ho,_,k,hd⟩:=il
  obtain ⟨o',ho',_,k',hd'⟩:=il'
  rw [ho] at ho';cases ho'
  rw [hd] at hd'
  injection hd' with e1 _;simpa using e1
theorem eqD_same {h:Heap} {W:List Addr} {rec:List D→List D→Option Bool} (hr:∀ l m xs b,reps h W l xs→reps h W m xs→rec l m=some b→b=true) {x y:D} {v:Value} {b:Bool} (hx:rep h W x v) (hy:rep h W y v) (e:eqD rec x y=some b):b=true:=by
  revert hx hy
  refine eqD_e (P:=fun x y b=>rep h W x v→rep h W y v→b=true) e (fun a c hx hy=>?_) (fun a c hx hy=>?_) (fun a c hx hy=>?_) fun l m b e hx hy=>?_<;>simp only [rep] at hx hy
  · obtain ⟨t,rfl⟩:=hx;obtain ⟨t',e⟩:=hy;cases e;exact BEq.rfl
  · obtain ⟨t,rfl⟩:=hx;obtain ⟨t',e⟩:=hy;cases e;exact BEq.rfl
  · subst hx;cases hy;exact BEq.rfl
  · refine el24 hx fun a xs q2q _ il r=>?_;subst q2q
    refine el24 hy fun a' xs' ea _ il' r'=>?_
    cases ea
    rw [← isList_same il il'] at r'
    exact hr l m xs b r r' e
theorem deq_same {h:Heap} {W:List Addr}:∀ (n:Nat) (x y:D) (v:Value) (b:Bool),rep h W x v→rep h W y v→deq n x y=some b→b=true
  | 0,_,_,_,_,hx,hy,e=>eqD_same (fun _ _ _ _ _ _ e=>nope e) hx hy e
  | n+1,_,_,_,_,hx,hy,e=>eqD_same (fun l m xs b r r' e=>deqs_same (deq_same n) l m xs b r r' e) hx hy e
theorem elemOf {xs:List Value} {j:Nat} {v:Value} (h:xs[j]?=some v) (hj:j<xs.toArray.size):xs.toArray[j]=v:=by
  have:=List.getElem?_eq_some_iff.mp h
  simpa using this.2
theorem deqs_elems {A:Around} {s:Shared} {W:List Addr} {f:D→D→Option Bool} (hf:∀ x y u v b,rep s.heap W x u→rep s.heap W y v→f x y=some b→EqAt A s u v b) {l m:List D} {xs ys:List Value} {b:Bool} (r:reps s.heap W l xs) (r':reps s.heap W m ys) (e:deqs f l m=some b) (hlen:l.length=m.length) :
    ∃ g:Nat→Bool,(∀ j (h1:j<xs.toArray.size) (h2:j<ys.toArray.size),EqAt A s xs.toArray[j] ys.toArray[j] (g j))∧b=(List.range xs.toArray.size).all g:=by
  have l1:=reps_len l xs r
  have l2:=reps_len m ys r'
  obtain ⟨h1,h2⟩:=deqs_at e hlen
  refine ⟨deqF f l m,fun j j1 j2=>?_,by rw [h2,← l1];rfl⟩
  have j1':j<l.length:=l1▸j1
  have j2':j<m.length:=l2▸j2
  have g1:=List.getElem?_eq_getElem j1'
  have g2:=List.getElem?_eq_getElem j2'
  obtain ⟨c,hc⟩:=h1 j _ _ g1 g2
  refine el12 (reps_get l xs j _ r g1) fun u hu1 ru=>?_
  refine el12 (reps_get m ys j _ r' g2) fun v hv1 rv=>?_
  have:=hf _ _ u v c ru rv hc
  unfold deqF
  rw [g1,g2,elemOf hu1 j1,elemOf hv1 j2]
  show EqAt A s u v ((f l[j] m[j]).getD false)
  rw [hc]
  exact this
theorem eqD_at {A:Around} {s:Shared} {W:List Addr} {rec:List D→List D→Option Bool} {x y:D} {u v:Value} {b:Bool} (hl:∀ l m b,rec l m=some b→rep s.heap W (.list l) u→rep s.heap W (.list m) v→EqAt A s u v b) (hx:rep s.heap W x u) (hy:rep s.heap W y v) (e:eqD rec x y=some b):EqAt A s u v b:=by
  revert hx hy
  refine eqD_e (P:=fun x y b=>rep s.heap W x u→rep s.heap W y v→EqAt A s u v b) e (fun a c hx hy=>?_) (fun a c hx hy=>?_) (fun a c hx hy=>?_) hl<;>simp only [rep] at hx hy
  · obtain ⟨t,rfl⟩:=hx;obtain ⟨t',rfl⟩:=hy;exact EqAt.int_int _ _ _ _
  · obtain ⟨t,rfl⟩:=hx;obtain ⟨t',rfl⟩:=hy;exact (eqGives_str _ _ _ _).at _ _
  · subst hx;subst hy;exact EqAt.bool_bool _ _
theorem deq_at {A:Around} {s:Shared} {W:List Addr}:∀ (n:Nat) (k:Nat) (x y:D) (u v:Value) (b:Bool),A.units+k+n<cLine→rep s.heap W x u→rep s.heap W y v→deq n x y=some b →
    EqAt { A with units:=A.units+k } s u v b
  | 0,_,_,_,_,_,_,_,hx,hy,e=>eqD_at (fun _ _ _ e=>nope e) hx hy e
  | n+1,k,_,_,u,v,b,hu,hx,hy,e=>eqD_at (fun l m b e hx0 hy0=>by
      have hx:=hx0
      have hy:=hy0
      skip
      refine el24 hx fun a xs q2q na il r=>?_;subst q2q
      refine el24 hy fun a' xs' q2q na' il' r'=>?_;subst q2q
      by_cases haa:a=a'
      · subst haa
        have:b=true:=by
          rw [← isList_same il il'] at r'
          exact deqs_same (deq_same n) l m xs b r r' e
        subst this
        exact EqAt.same _
      · refine EqAt.of_refs haa ?_
        have l1:=reps_len l xs r
        have l2:=reps_len m xs' r'
        by_cases hlen:l.length=m.length
        · refine el12 (deqs_elems (A:={ A with units:=A.units+k+1 }) (fun x y u v b ru rv e=>deq_at n (k+1) x y u v b (by lia) ru rv e) r r' e hlen) fun f hf hb=>?_
          rw [hb]
          exact RcAt.lists (A:={ A with units:=A.units+k }) (s:=s) il il' (by simp [l1,l2,hlen]) (by show A.units+k<cLine;lia) hf
        · rw [deqs_len e hlen]
          exact RcAt.lists_lengths il il' (by simp [l1,l2,hlen]) (by show A.units+k<cLine;lia)) hx hy e
end
section
noncomputable def anyD (f:D→Option Bool):List D→Option Bool
  | []=>some false
  | y::l=>(f y).bind fun a=>(anyD f l).bind fun b=>some (a||b)
noncomputable def noT:D→Option Bool | .none=>some true | .str _=>some false | .list _=>some false|_=>none
noncomputable def isPl (x y:D):Option Bool :=
  (on2D asBool asBool x y fun a b=>some (a==b)).or <| (if isNo y then noT x else none).or <| on2D asTy asTy x y fun m n=>some (m==n)
noncomputable def inD (x y:D):Option Bool :=
  (on2D asStr asStr x y fun p t=>some (!(Builtin.Str.occurrences t p 0 t.length 1).isEmpty)).or <| (asLi y).bind fun l=>anyD (fun y=>deq 0 y x) l
noncomputable def cmpB (op:CmpOp) (x y:D):Option Bool:=match op with
  | .Eq=>deq 8 x y
  | .NotEq=>(deq 8 x y).map (!·)
  | .Is=>isPl x y
  | .IsNot=>(isPl x y).map (!·)
  | .In=>inD x y
  | .NotIn=>(inD x y).map (!·)
  | .Lt=>on2D asInt asInt x y fun a b=>some (decide (a<b))
  | .LtE=>on2D asInt asInt x y fun a b=>some (decide (a≤b))
  | .Gt=>on2D asInt asInt x y fun a b=>some (decide (a > b))
  | .GtE=>on2D asInt asInt x y fun a b=>some (decide (a ≥ b))
section
variable {w:World} {A:Around} {s:Shared} {W:List Addr}
theorem lists_elems {n:Nat} {l m:List D} {xs ys:List Value} {b:Bool} (hA:A.units+20<cLine) (hn:n≤8) (r:reps s.heap W l xs) (r':reps s.heap W m ys) (e:deqs (deq n) l m=some b) (hlen:l.length=m.length) :
    ∃ f:Nat→Bool,(∀ j (h1:j<xs.toArray.size) (h2:j<ys.toArray.size),EqAt { A with units:=A.units+1 } s xs.toArray[j] ys.toArray[j] (f j))∧b=(List.range xs.toArray.size).all f :=
  deqs_elems (fun x y u v b ru rv e=>deq_at n 1 x y u v b (by lia) ru rv e) r r' e hlen
theorem ok_eq {x y:D} {u v:Value} {b:Bool} (hA:A.units+20<cLine) (hu:rep s.heap W x u) (hv:rep s.heap W y v) (e:deq 8 x y=some b):EvOk w A (compareOp .Eq u v) s W (.bool b):=fun Q E h=>by
  have fin:Q (.bool b) s:=h _ _ (Keeps.rfl' s) rfl
  show wpAny _ A (richCompare .Eq u v) Q E s
  clear h
  revert hu hv fin
  refine eqD_e (P:=fun x y b=>rep s.heap W x u→rep s.heap W y v→Q (.bool b) s→wpAny (model pw w) A (richCompare .Eq u v) Q E s) e (fun a c hu hv fin=>?_) (fun a c hu hv fin=>?_) (fun a c hu hv fin=>?_) fun l m b e hu hv fin=>?_<;>simp only [rep] at hu hv
  · obtain ⟨t,rfl⟩:=hu;obtain ⟨t',rfl⟩:=hv;exact RcAt.int_int _ _ _ _ _ w E Q fin
  · obtain ⟨t,rfl⟩:=hu;obtain ⟨t',rfl⟩:=hv;exact RcAt.str_str _ _ _ _ _ w E Q fin
  · subst hu;subst hv;exact RcAt.bool_bool _ _ _ w E Q fin
  · refine el24 hu fun a xs q2q na il r=>?_;subst q2q
    refine el24 hv fun a' ys q2q na' il' r'=>?_;subst q2q
    have l1:=reps_len l xs r
    have l2:=reps_len m ys r'
    by_cases hlen:l.length=m.length
    · refine el12 (lists_elems hA (by decide) r r' e hlen) fun f hf hb=>?_
      refine RcAt.lists (e:=f) il il' (by simp [l1,l2,hlen]) (by lia) hf _ w E Q ?_
      rw [← hb];exact fin
    · have:=deqs_len e hlen
      subst this
      exact RcAt.lists_lengths il il' (by simp [l1,l2,hlen]) (by lia) _ w E Q fin
theorem ok_ne {x y:D} {u v:Value} {b:Bool} (hA:A.units+20<cLine) (hu:rep s.heap W x u) (hv:rep s.heap W y v) (e:deq 8 x y=some b):EvOk w A (compareOp .NotEq u v) s W (.bool (!b)):=fun Q E h=>by
  have fin:Q (.bool (!b)) s:=h _ _ (Keeps.rfl' s) rfl
  show wpAny _ A (richCompare .NotEq u v) Q E s
  clear h
  revert hu hv fin
  refine eqD_e (P:=fun x y b=>rep s.heap W x u→rep s.heap W y v→Q (.bool (!b)) s→wpAny (model pw w) A (richCompare .NotEq u v) Q E s) e (fun a c hu hv fin=>?_) (fun a c hu hv fin=>?_) (fun a c hu hv fin=>?_) fun l m b e hu hv fin=>?_<;>simp only [rep] at hu hv
  · obtain ⟨t,rfl⟩:=hu;obtain ⟨t',rfl⟩:=hv;exact RcNeAt.int_int _ _ _ _ _ w E Q fin
  · obtain ⟨t,rfl⟩:=hu;obtain ⟨t',rfl⟩:=hv;exact RcNeAt.str_str _ _ _ _ _ w E Q fin
  · subst hu;subst hv;exact RcNeAt.bool_bool _ _ _ w E Q fin
  · refine el24 hu fun a xs q2q na il r=>?_;subst q2q
    refine el24 hv fun a' ys q2q na' il' r'=>?_;subst q2q
    have l1:=reps_len l xs r
    have l2:=reps_len m ys r'
    by_cases hlen:l.length=m.length
    · refine el12 (lists_elems hA (by decide) r r' e hlen) fun f hf hb=>?_
      refine RcNeAt.lists (e:=f) il il' (by simp [l1,l2,hlen]) (by lia) hf _ w E Q ?_
      rw [← hb];exact fin
    · have:=deqs_len e hlen
      subst this
      exact RcNeAt.lists_lengths il il' (by simp [l1,l2,hlen]) (by lia) _ w E Q fin
theorem anyD_at {f:D→Option Bool}:∀ {l:List D} {b:Bool},anyD f l=some b→(∀ y∈l,∃ c,f y=some c)∧b=l.any fun y=>(f y).getD false
  | [],b,e=>⟨fun y h=>(nomatch h),(Option.some.inj e).symm⟩
  | y::l,b,e=>bnd_e e fun a ha e=>bnd_e e fun c hc e=>by
    obtain ⟨h1,h2⟩:=anyD_at hc
    refine ⟨fun z hz=>?_,by rw [List.any_cons,ha,← Option.some.inj e,h2];rfl⟩
    rcases List.mem_cons.1 hz with h|h
    · subst h;exact ⟨a,ha⟩
    · exact h1 z h
noncomputable def vD:Value→Option D
  | .int i _=>some (.int i)
  | .str s _=>some (.str s)
  | .bool b=>some (.bool b)
  | _=>none
theorem vD_of {h:Heap} {x y:D} {v:Value} {c:Bool} (r:rep h W x v) (e:deq 0 x y=some c):vD v=some x:=by
  revert r
  refine eqD_e (P:=fun x y _=>rep h W x v→vD v=some x) e (fun a c r=>?_) (fun a c r=>?_) (fun a c r=>?_) (fun l m b e=>nope e)<;>simp only [rep] at r
  · obtain ⟨t,rfl⟩:=r;rfl
  · obtain ⟨t,rfl⟩:=r;rfl
  · subst r;rfl
theorem any_vals {h:Heap} {x:D}:∀ {l:List D} {xs:List Value},reps h W l xs→(∀ y∈l,∃ c,deq 0 y x=some c) →
    (xs.any fun v=>((vD v).bind fun d=>deq 0 d x).getD false)=l.any fun y=>(deq 0 y x).getD false
  | [],xs,r,_=>by simp only [reps] at r;subst r;rfl
  | y::l,xs,r,hc=>by
    simp only [reps] at r
    refine el23 r fun v vs q2q r1 r2=>?_;subst q2q
    obtain ⟨c,e⟩:=hc y List.mem_cons_self
    rw [List.any_cons,List.any_cons,vD_of r1 e,any_vals r2 fun z hz=>hc z (List.mem_cons_of_mem _ hz)]
    rfl
theorem each_val {h:Heap} {x:D} {c':Value→Prop}:∀ {l:List D} {xs:List Value},reps h W l xs→(∀ (y:D) (v:Value),y∈l→rep h W y v→c' v)→∀ v∈xs,c' v
  | [],xs,r,_,v,hv=>by simp only [reps] at r;subst r;cases hv
  | y::l,xs,r,hc,v,hv=>by
    simp only [reps] at r
    refine el23 r fun u vs q2q r1 r2=>?_;subst q2q
    rcases List.mem_cons.1 hv with h|h
    · subst h;exact hc y v List.mem_cons_self r1
    · exact each_val (x:=x) r2 (fun z u hz=>hc z u (List.mem_cons_of_mem _ hz)) v h
theorem inList {x:D} {u:Value} {l:List D} {xs:List Value} {b:Bool} (hA:A.units+20<cLine) (hu:rep s.heap W x u) (r:reps s.heap W l xs) (e:anyD (fun y=>deq 0 y x) l=some b) :
    ∃ f:Value→Bool,(∀ y,y∈xs.toArray→EqAt A.in1 s y u (f y))∧b=xs.toArray.any f:=by
  obtain ⟨h1,h2⟩:=anyD_at e
  refine ⟨fun v=>((vD v).bind fun d=>deq 0 d x).getD false,fun v hv=>?_,by rw [h2,← any_vals r h1];simp⟩
  refine each_val (x:=x) (c':=fun v=>EqAt A.in1 s v u (((vD v).bind fun d=>deq 0 d x).getD false)) r (fun y v hy ry=>?_) v (by simpa using hv)
  obtain ⟨c,hc⟩:=h1 y hy
  have:=deq_at (A:=A) (s:=s) 0 1 y x v u c (by lia) ry hu hc
  rw [vD_of ry hc]
  simpa [hc] using this
theorem plain_ok {x y:D} {u v:Value} {c:Bool} (hu:rep s.heap W x u) (hv:rep s.heap W y v) (hc:isPl x y=some c):plainIs u v=true∧(u==v)=c:=by
  revert hu hv
  refine or_e hc (fun hc=>on2D_e asBool_g asBool_g x y hc fun a b hc hu hv=>?ga) fun hc=>or_e hc (fun hc=>if_e hc fun hn hc hu hv=>?gb) fun hc=>on2D_e asTy_g asTy_g x y hc fun m n hc hu hv=>?gc
  case ga =>
    simp only [rep] at hu hv
    subst hu;subst hv
    exact ⟨rfl,by rw [← Option.some.inj hc];cases a<;>cases b<;>rfl⟩
  case gb =>
    rw [isNo_e hn] at hv
    simp only [rep] at hv
    subst hv
    cases x<;>first|exact nope hc|skip
    · simp only [rep] at hu
      obtain ⟨t,rfl⟩:=hu
      exact ⟨rfl,Option.some.inj hc⟩
    · simp only [rep] at hu
      subst hu
      exact ⟨rfl,Option.some.inj hc⟩
    · simp only [rep] at hu
      refine el22 hu fun a xs q2q _=>?_;subst q2q
      exact ⟨rfl,Option.some.inj hc⟩
  case gc =>
    simp only [rep] at hu hv
    subst hu;subst hv
    exact ⟨rfl,by rw [← Option.some.inj hc,Bool.eq_iff_iff,beq_iff_eq,beq_iff_eq];exact ⟨fun e=>by injection e,fun e=>by rw [e]⟩⟩
theorem map_w {a:Option Bool} {b:Bool} {P:Bool→Prop} (h:a.map (!·)=some b) (q:∀ c,a=some c→P (!c)):P b:=map_e h q
theorem ok_in {x y:D} {u v:Value} {b:Bool} (hA:A.units+20<cLine) (hu:rep s.heap W x u) (hv:rep s.heap W y v) (e:inD x y=some b):EvOk w A (compareOp .In u v) s W (.bool b)∧EvOk w A (compareOp .NotIn u v) s W (.bool (!b)):=by
  revert hu hv
  refine or_e e (fun e=>on2D_e asStr_g asStr_g x y e fun p t e hu hv=>?ga) fun e=>bnd_e e fun l hl e hu hv=>?gb
  case ga =>
    simp only [rep] at hu hv
    obtain ⟨t,rfl⟩:=hu;obtain ⟨t',rfl⟩:=hv
    rw [← Option.some.inj e]
    exact ⟨fun Q E h=>PySem.P.in_str (h _ _ (Keeps.rfl' s) rfl),fun Q E h=>PySem.P.notIn_str (h _ _ (Keeps.rfl' s) rfl)⟩
  case gb =>
    rw [asLi_g hl] at hv
    simp only [rep] at hv
    refine el24 hv fun a xs q2q _ il r=>?_;subst q2q
    refine el12 (inList (A:=A) hA hu r e) fun f hf hb=>?_
    exact ⟨fun Q E h=>in_listAt f il hf (by rw [← hb];exact h _ _ (Keeps.rfl' s) rfl),fun Q E h=>notIn_listAt f il hf (by rw [← hb];exact h _ _ (Keeps.rfl' s) rfl)⟩
theorem ok_ord {x y:D} {u v:Value} {b:Bool} {R:Int→Int→Bool} {op:CmpOp} (k:∀ {a c:Int} {t t':Nat} {Q E:Value→Shared→Prop},Q (.bool (R a c)) s→wpAny (model pw w) A (compareOp op (.int a t) (.int c t')) Q E s) (hu:rep s.heap W x u) (hv:rep s.heap W y v) (e:(on2D asInt asInt x y fun a c=>some (R a c))=some b):EvOk w A (compareOp op u v) s W (.bool b):=by
  revert hu hv
  refine on2D_e asInt_g asInt_g x y e fun a c e hu hv=>?_
  simp only [rep] at hu hv
  obtain ⟨t,rfl⟩:=hu;obtain ⟨t',rfl⟩:=hv
  rw [← Option.some.inj e]
  exact fun Q E h=>k (h _ _ (Keeps.rfl' s) rfl)
theorem ok_cmp {op:CmpOp} {x y:D} {u v:Value} {b:Bool} (hA:A.units+20<cLine) (hu:rep s.heap W x u) (hv:rep s.heap W y v) (e:cmpB op x y=some b):EvOk w A (compareOp op u v) s W (.bool b):=by
  cases op
  case Eq=>exact ok_eq hA hu hv e
  case NotEq=>exact map_w (P:=fun b=>EvOk w A (compareOp .NotEq u v) s W (.bool b)) e fun c hc=>ok_ne hA hu hv hc
  case Is =>
    obtain ⟨h1,h2⟩:=plain_ok hu hv e
    exact fun Q E h=>wpAny_is_plain h1 (by rw [h2];exact h _ _ (Keeps.rfl' s) rfl)
  case IsNot =>
    refine map_w (P:=fun b=>EvOk w A (compareOp .IsNot u v) s W (.bool b)) e fun c hc=>?_
    obtain ⟨h1,h2⟩:=plain_ok hu hv hc
    exact fun Q E h=>wpAny_isNot_plain h1 (by rw [h2];exact h _ _ (Keeps.rfl' s) rfl)
  case In=>exact (ok_in hA hu hv e).1
  case NotIn=>exact map_w (P:=fun b=>EvOk w A (compareOp .NotIn u v) s W (.bool b)) e fun c hc=>(ok_in hA hu hv hc).2
  case Lt=>exact ok_ord (R:=fun a c=>decide (a<c)) (fun h=>PySem.P.lt_int h) hu hv e
  case LtE=>exact ok_ord (R:=fun a c=>decide (a≤c)) (fun h=>PySem.P.le_int h) hu hv e
  case Gt=>exact ok_ord (R:=fun a c=>decide (a > c)) (fun h=>PySem.P.gt_int h) hu hv e
  case GtE=>exact ok_ord (R:=fun a c=>decide (a ≥ c)) (fun h=>PySem.P.ge_int h) hu hv e
end
end
end Mine
end
section
open PySem PySem.W PyProof.Rows
namespace Mine
section
noncomputable def truthD:D→Option Bool
  | .int a=>some (a != 0)
  | .bool b=>some b
  | .str x=>if Nat.ble x.length sizeLine then some ((x.length:Int) != 0) else none
  | .list l=>if Nat.ble l.length sizeLine then some (!l.isEmpty) else none
  | .none=>some false
  | _=>none
noncomputable def TrOk (w:World) (A:Around) (m:Sem Bool) (s:Shared) (b:Bool):Prop :=
  ∀ (Q:Bool→Shared→Prop) (E:Value→Shared→Prop),(∀ s',Keeps s s'→Q b s')→wpAny (model pw w) A m Q E s
section
variable {w:World} {A:Around} {s:Shared} {W:List Addr}
theorem sz63:(sizeLine:Int)<2 ^ 63:=by decide
theorem ok_truthy {x:D} {u:Value} {b:Bool} (hu:rep s.heap W x u) (e:truthD x=some b):TrOk w A (truthy u) s b:=fun Q E h=>by
  cases x<;>simp only [truthD,reduceCtorEq,Option.some.injEq] at e<;>simp only [rep] at hu
  · subst e;obtain ⟨t,rfl⟩:=hu;exact PySem.P.truthy_int (h _ (Keeps.rfl' s))
  · subst e;subst hu;exact wpAny_truthy_bool (h _ (Keeps.rfl' s))
  · split at e
    · rename_i hs
      cases e
      obtain ⟨t,rfl⟩:=hu
      have:=Nat.le_of_ble_eq_true hs
      have h2:=sz63
      exact PySem.P.truthy_str (by lia) (h _ (keepsTok s _))
    · exact nope e
  · subst e;subst hu;exact wpAny_of_eq (show truthy .none=pure false from rfl) (h _ (Keeps.rfl' s))
  · split at e
    · rename_i hs
      cases e
      obtain ⟨a,xs,rfl,_,il,r⟩:=hu
      have:=Nat.le_of_ble_eq_true hs
      have h2:=sz63
      have l1:=reps_len _ xs r
      refine wpAny_truthy_list il (by simp only [List.size_toArray];lia) ?_
      have:(!xs.toArray.isEmpty)=(!List.isEmpty ‹List D›):=by
        rename_i l _
        cases l<;>cases xs<;>simp at l1<;>simp
      rw [this]
      exact h _ (keepsTok s _)
    · exact nope e
noncomputable def uopD:UnaryOp→D→Option D
  | .Invert,.int a=>some (.int (Builtin.bitNot a))
  | .USub,.int a=>some (.int (-a))
  | _,_=>none
theorem ok_uop {op:UnaryOp} {x d:D} {u:Value} (hu:rep s.heap W x u) (e:uopD op x=some d):EvOk w A (unaryOp op u) s W d:=fun Q E h=>by
  unfold uopD at e
  split at e<;>simp only [reduceCtorEq,Option.some.injEq] at e<;>subst e<;>simp only [rep] at hu<;>obtain ⟨t,rfl⟩:=hu
  · exact invert_int (h _ _ (keepsTok s _) ⟨_,rfl⟩)
  · exact PySem.P.neg_int (h _ _ (keepsTok s _) ⟨_,rfl⟩)
noncomputable def idxD:D→D→Option D
  | .list l,.int i=>if decide (-1000000<i)&&decide (i<1000000) then (seqIndex? i l.length).bind (l[·]?) else none
  | .tup l,.int i=>if decide (-1000000<i)&&decide (i<1000000) then (seqIndex? i l.length).bind (l[·]?) else none
  | .str x,.int i=>if decide (-1000000<i)&&decide (i<1000000) then ((seqIndex? i x.length).bind (x.cps[·]?)).map fun c=>.str ⟨#[c]⟩ else none
  | _,_=>none
theorem reps_elem {h:Heap} {l:List D} {xs:List Value} {i:Nat} {d:D} (r:reps h W l xs) (e:l[i]?=some d):∃ v,xs[i]?=some v∧rep h W d v:=reps_get l xs i d r e
theorem ok_idx {x y d:D} {u v:Value} (hu:rep s.heap W x u) (hv:rep s.heap W y v) (e:idxD x y=some d):EvOk w A (getItem u v) s W d:=fun Q E h=>by
  unfold idxD at e
  split at e
  · rename_i l i
    split at e
    · rename_i hb
      simp only [Bool.and_eq_true,decide_eq_true_eq] at hb
      simp only [rep] at hu hv
      obtain ⟨a,xs,rfl,_,il,r⟩:=hu
      obtain ⟨t,rfl⟩:=hv
      have l1:=reps_len _ xs r
      simp only [Option.bind_eq_some_iff] at e
      obtain ⟨j,hj,ej⟩:=e
      obtain ⟨v,hv,rv⟩:=reps_elem r ej
      unfold seqIndex? at hj
      by_cases hi:i<0
      · simp only [hi,if_true] at hj
        split at hj
        · rename_i hc
          cases hj
          simp only [Bool.and_eq_true,decide_eq_true_eq] at hc
          exact wpAny_getItem_list_neg il hi (by simp only [List.size_toArray];lia) (by lia) (by simpa [l1] using hv) (h _ _ (Keeps.rfl' s) rv)
        · exact nope hj
      · simp only [hi,if_false] at hj
        split at hj
        · rename_i hc
          cases hj
          simp only [Bool.and_eq_true,decide_eq_true_eq] at hc
          exact wpAny_getItem_list il hc.1 (by lia) (by simpa using hv) (h _ _ (Keeps.rfl' s) rv)
        · exact nope hj
    · exact nope e
  · rename_i l i
    split at e
    · rename_i hb
      simp only [Bool.and_eq_true,decide_eq_true_eq] at hb
      simp only [rep] at hu hv
      obtain ⟨a,xs,rfl,_,il,r⟩:=hu
      obtain ⟨t,rfl⟩:=hv
      have l1:=reps_len _ xs r
      simp only [Option.bind_eq_some_iff] at e
      obtain ⟨j,hj,ej⟩:=e
      obtain ⟨v,hv,rv⟩:=reps_elem r ej
      exact getItem_tuple il (by lia) (by lia) (by simpa [l1] using hj) (by simpa using hv) (h _ _ (Keeps.rfl' s) rv)
    · exact nope e
  · rename_i x i
    split at e
    · rename_i hb
      simp only [Bool.and_eq_true,decide_eq_true_eq] at hb
      simp only [rep] at hu hv
      obtain ⟨t,rfl⟩:=hu
      obtain ⟨t',rfl⟩:=hv
      simp only [Option.map_eq_some_iff] at e
      obtain ⟨c,hc,rfl⟩:=e
      exact PySem.P.getItem_str (by simp only [Bool.or_eq_false_iff,decide_eq_false_iff_not];lia) hc (h _ _ (keepsTok s _) ⟨_,rfl⟩)
    · exact nope e
  · exact nope e
end
end
section
noncomputable def sliceD (x:D) (lo hi st:Option Int):Option D:=match x with
  | .list l=>if Nat.ble l.length sizeLine&&!(st==some 0) then some (.list ((sliceRange (sliceBounds lo hi st l.length).1 (sliceBounds lo hi st l.length).2.1 (sliceBounds lo hi st l.length).2.2).filterMap (l[·]?))) else none
  | .str x=>if !(st.getD 1==0) then
      (if (st.getD 1==1&&(Builtin.Str.strSliceIndices lo hi (st.getD 1) x.length).length==x.length)=true then some (.str x)
       else if Nat.ble (Str.mk ((Builtin.Str.strSliceIndices lo hi (st.getD 1) x.length).filterMap (x.cps[·]?)).toArray).length sizeLine then some (.str ⟨((Builtin.Str.strSliceIndices lo hi (st.getD 1) x.length).filterMap (x.cps[·]?)).toArray⟩) else none) else none
  | _=>none
noncomputable def isSeqD:D→Bool
  | .list _ | .tup _ | .str _=>true
  | _=>false
section
variable {w:World} {A:Around} {s:Shared} {W:List Addr}
theorem EvOk.bind {m:Sem Value} {f:Value→Sem Value} {d d':D} (h1:EvOk w A m s W d) (h2:∀ v s',Keeps s s'→rep s'.heap W d v→EvOk w A (f v) s' W d'):EvOk w A (m >>= f) s W d':=fun Q E h =>
  wpAny_bind (h1 _ E fun v s' k r=>h2 v s' k r Q E fun v' s'' k' r'=>h v' s'' (Keeps.tr k k') r')
theorem EvOk.hold {m:Sem Value} {vs:List Value} {d:D} (h1:EvOk w A m s W d):EvOk w A (holding vs m) s W d:=fun Q E h=>wpAny_holding (h1 Q E h)
theorem EvOk.at {f:Unit→Sem Value} {p:Pos} {d:D} (h1:EvOk w A (f ()) s W d):EvOk w A (standAt p >>= f) s W d:=fun Q E h=>wpAny_bind (wpAny_standAt (h1 Q E h))
theorem subscripted_ok {slice:PySem.Expr} {o i:Value} {d:D} (h:EvOk w A (getItem o i) s W d):EvOk w A (subscripted slice false o i) s W d:=fun Q E q=>by
  unfold subscripted
  split
  · exact wpAny_operate' (h Q E q)
  · rename_i hx;cases hx
  · exact wpAny_operate' (h Q E q)
theorem seqType {x:D} {u:Value} (hu:rep s.heap W x u) (hs:isSeqD x=true) :
    ∃ T id,s.TypeIs u T∧typeLookup (.type T) "__getitem__"=pure (some (.builtin id)):=by
  cases x<;>simp only [isSeqD,Bool.false_eq_true] at hs<;>simp only [rep] at hu
  · obtain ⟨t,rfl⟩:=hu;exact ⟨_,_,typeIs_str _ _ _,F.slot_str_getitem.lookup⟩
  · obtain ⟨a,xs,rfl,_,il,_⟩:=hu;exact ⟨_,_,il.typeIs,list_getitem_lookup⟩
  · obtain ⟨a,xs,rfl,_,il,_⟩:=hu;exact ⟨_,_,il.typeIs,F.slot_tuple_getitem.lookup⟩
theorem ok_item_tail {slice value:PySem.Expr} {x d:D} {o i:Value} (hu:rep s.heap W x o) (hs:isSeqD x=true) (h:EvOk w A (getItem o i) s W d) :
    EvOk w A (do let r ← subscripted slice (← getitemInPython o) o i;letTemporaryGo value o r;pure r) s W d:=fun Q E q=>by
  refine el22 (seqType hu hs) fun T id hT hl=>?_
  rw [getitemInPython_of_ne hT.not_modules]
  refine wpAny_bind (wpAny_bind (wpAny_specialOf hT hl ?_))
  refine wpAny_pure ?_
  exact wpAny_bind (subscripted_ok h _ E fun v s' k r=>wpAny_bind (PySem.wpAny_letTemporaryGo (wpAny_pure (q v s' k r))))
theorem ok_sub {value slice:PySem.Expr} {pos:Pos} {e:Env} {x y d:D} (hx:EvOk w A (eval value e) s W x) (hy:∀ s',Keeps s s'→EvOk w A (eval slice e) s' W y) (hs:isSeqD x=true) (hd:idxD x y=some d) :
    EvOk w A (eval (.Subscript value slice pos) e) s W d:=by
  rw [arm_eval_Subscript]
  refine EvOk.bind hx fun o s1 k1 ro=>?_
  refine EvOk.bind (EvOk.hold (hy s1 k1)) fun i s2 k2 ri=>?_
  exact EvOk.at (ok_item_tail (rep_keep (Keeps.heap k2) _ _ ro) hs (ok_idx (rep_keep (Keeps.heap k2) _ _ ro) ri hd))
noncomputable def WOk (h:Heap) (W:List Addr):Prop:=∀ a∈W,∃ o,h.get? a=some o
theorem WOk.keep {h h':Heap} {W:List Addr} (x:WOk h W) (hk:HK h h'):WOk h' W:=fun a m=>let ⟨o,e⟩:=x a m;⟨o,hk a o e⟩
noncomputable def PartOk (w:World) (A:Around) (m:Sem Value) (s:Shared) (p:Option Int):Prop :=
  ∀ (Q:Value→Shared→Prop) (E:Value→Shared→Prop),(∀ v s',Keeps s s'→IsPart v p→Q v s')→wpAny (model pw w) A m Q E s
theorem part_none {e:Env}:PartOk w A (valueOrNone (evalOpt none e)) s none:=fun Q E h=>wpAny_pure (h _ _ (Keeps.rfl' s) .none)
theorem part_some {e:Env} {x:PySem.Expr} {i:Int} (h:EvOk w A (eval x e) s W (.int i)):PartOk w A (valueOrNone (evalOpt (some x) e)) s (some i):=fun Q E q=>h Q E fun v s' k r=>by
  simp only [rep] at r
  obtain ⟨t,rfl⟩:=r
  exact q _ s' k (.int i t)
theorem reps_filterMap {h:Heap} {l:List D} {xs:List Value} (r:reps h W l xs):∀ (js:List Nat),reps h W (js.filterMap (l[·]?)) (js.filterMap (xs[·]?))
  | []=>by simp [reps]
  | j::js=>by
    have ih:=reps_filterMap r js
    have hl:=reps_len _ _ r
    cases e:l[j]? with
    | none =>
      have:xs[j]?=none:=by
        rw [List.getElem?_eq_none_iff] at e ⊢
        lia
      simpa only [List.filterMap_cons,e,this] using ih
    | some d =>
      refine el12 (reps_get _ _ j d r e) fun v hv rv=>?_
      simp only [List.filterMap_cons,e,hv,reps]
      exact ⟨v,_,rfl,rv,ih⟩
theorem keepsPush (s:Shared) (o:Obj) (t:Nat):Keeps s { s with heap:=s.heap.push o,toks:=t }:=⟨_,_,rfl,fun _ _ e=>Heap.get?_push_of_some o e⟩
theorem get_none_of_size (h:Heap):h.get? h.objs.size=none:=by
  cases e:h.get? h.objs.size with
  | none=>rfl
  | some o=>exact absurd (Heap.lt_size e) (Nat.lt_irrefl _)
theorem ok_slice {x d:D} {u vl vu vs:Value} {sl:Addr} {lo hi st:Option Int} (hW:WOk s.heap W) (hu:rep s.heap W x u) (hs:s.heap.IsSliceOf sl vl vu vs) (pl:IsPart vl lo) (pu:IsPart vu hi) (ps:IsPart vs st)
    (e:sliceD x lo hi st=some d):EvOk w A (getItem u (.ref sl)) s W d:=fun Q E q=>by
  unfold sliceD at e
  split at e
  · rename_i l
    split at e
    · rename_i hc
      cases e
      simp only [Bool.and_eq_true,Bool.not_eq_true',beq_eq_false_iff_ne] at hc
      simp only [rep] at hu
      refine el24 hu fun a xs q2q na il r=>?_;subst q2q
      have hl:=reps_len _ _ r
      refine wpAny_getItem_list_slice il hs pl pu ps hc.2 ?_ (by have:=Nat.le_of_ble_eq_true hc.1;simpa [hl] using this)
      refine q _ _ (keepsPush s _ _) ?_
      simp only [rep]
      refine ⟨_,(slicePick xs.toArray lo hi st).toList,rfl,fun m=>let ⟨_,ho⟩:=hW _ m;Nat.lt_irrefl _ (Heap.lt_size ho),?_,?_⟩
      · exact ⟨_,Heap.get?_push_size _ rfl,rfl,0,by simp⟩
      · have:=reps_filterMap r (sliceRange (sliceBounds lo hi st l.length).1 (sliceBounds lo hi st l.length).2.1 (sliceBounds lo hi st l.length).2.2)
        have e2:(slicePick xs.toArray lo hi st).toList=(sliceRange (sliceBounds lo hi st l.length).1 (sliceBounds lo hi st l.length).2.1 (sliceBounds lo hi st l.length).2.2).filterMap (xs[·]?):=by
          simp [slicePick,hl]
        rw [e2]
        exact reps_keep (fun _ _ e=>Heap.get?_push_of_some _ e) _ _ this
    · exact nope e
  · rename_i x
    simp only [rep] at hu
    obtain ⟨t,rfl⟩:=hu
    have part:∀ {v:Value} {p:Option Int},IsPart v p→∃ q:Option (Int × Tok),partValue q=v∧q.map (·.1)=p:=fun {v p} h=>by
      cases h with
      | none=>exact ⟨none,rfl,rfl⟩
      | int i t=>exact ⟨some (i,t),rfl,rfl⟩
    refine el12 (part pl) fun ql el q2q=>?_;subst q2q
    refine el12 (part pu) fun qu eu q2q=>?_;subst q2q
    refine el12 (part ps) fun qs es q2q=>?_;subst q2q
    subst el eu es
    split at e
    · rename_i hc
      have h0:((qs.map (·.1)).getD 1==0)=false:=by simpa using hc
      refine wpAny_getItem_str_slice hs h0 ?_
      unfold sliceMade slicePicked
      split at e
      · rename_i hw
        rw [if_pos hw]
        cases e
        exact q _ _ (Keeps.rfl' s) ⟨_,rfl⟩
      · rename_i hw
        rw [if_neg hw]
        split at e
        · rename_i hz
          cases e
          exact ⟨Nat.le_of_ble_eq_true hz,q _ _ (keepsTok s _) ⟨_,rfl⟩⟩
        · exact nope e
    · exact nope e
  · exact nope e
theorem ok_sub_slice {value:PySem.Expr} {lower upper step:Option PySem.Expr} {p pos:Pos} {e:Env} {x d:D} {lo hi st:Option Int} (hW:WOk s.heap W) (hx:EvOk w A (eval value e) s W x)
    (hl:∀ s',Keeps s s'→PartOk w A (valueOrNone (evalOpt lower e)) s' lo) (hu:∀ s',Keeps s s'→PartOk w A (valueOrNone (evalOpt upper e)) s' hi) (ht:∀ s',Keeps s s'→PartOk w A (valueOrNone (evalOpt step e)) s' st)
    (hs:isSeqD x=true) (hd:sliceD x lo hi st=some d):EvOk w A (eval (.Subscript value (.Slice lower upper step p) pos) e) s W d:=by
  rw [arm_eval_Subscript,arm_eval_Slice]
  refine EvOk.bind hx fun o s1 k1 ro=>fun Q E q=>?_
  refine wpAny_bind (wpAny_holding (wpAny_bind (hl s1 k1 _ _ fun vl s2 k2 il=>wpAny_bind (wpAny_holding (hu s2 (Keeps.tr k1 k2) _ _ fun vu s3 k3 iu=>wpAny_bind (wpAny_holding (ht s3 (Keeps.tr k1 (Keeps.tr k2 k3)) _ _ fun vt s4 k4 it=>?_)))))))
  refine wpAny_newObj_type ?_
  refine wpAny_bind (wpAny_standAt ?_)
  have k5:=keepsPush s4 { cls:=.type "slice",data:=.fields ([vl,vu,vt]:List Value).toArray } s4.toks
  have kk:Keeps s1 { s4 with heap:=s4.heap.push { cls:=.type "slice",data:=.fields ([vl,vu,vt]:List Value).toArray } }:=Keeps.tr k2 (Keeps.tr k3 (Keeps.tr k4 k5))
  have ro':=rep_keep (Keeps.heap kk) _ _ ro
  exact ok_item_tail ro' hs (ok_slice (hW.keep (Keeps.heap (Keeps.tr k1 kk))) ro' (Heap.IsSliceOf.new ..) il iu it hd) Q E fun v s' k r=>q v s' (Keeps.tr kk k) r
end
end
section
noncomputable def isStar:PySem.Expr→Bool
  | .Starred ..=>true
  | _=>false
inductive EachOk (w:World) (A:Around) (e:Env) (W:List Addr) (s0:Shared):List PySem.Expr→List D→Prop
  | nil:EachOk w A e W s0 [] []
  | cons {x d xs ds}:isStar x=false→(∀ s',Keeps s0 s'→EvOk w A (eval x e) s' W d)→EachOk w A e W s0 xs ds→EachOk w A e W s0 (x::xs) (d::ds)
section
variable {w:World} {A:Around} {s:Shared} {W:List Addr} {e:Env}
theorem EachOk.later {s s':Shared} (k:Keeps s s'):∀ {xs:List PySem.Expr} {ds:List D},EachOk w A e W s xs ds→EachOk w A e W s' xs ds
  | _,_,.nil=>.nil
  | _,_,.cons h1 h2 h3=>.cons h1 (fun s'' k'=>h2 s'' (Keeps.tr k k')) (EachOk.later k h3)
theorem EachOk.len:∀ {xs:List PySem.Expr} {ds:List D},EachOk w A e W s xs ds→xs.length=ds.length
  | _,_,.nil=>rfl
  | _,_,.cons _ _ h3=>congrArg (·+1) (EachOk.len h3)
theorem starEach_plain {x:PySem.Expr} {xs:List PySem.Expr} (h:isStar x=false):starEach (x::xs) e=(false,eval x e)::starEach xs e:=by
  cases x<;>first|rfl|cases h
theorem ok_spliced {pos:Pos}:∀ {xs:List PySem.Expr} {ds:List D} (s:Shared),EachOk w A e W s xs ds →
    ∀ (Q:List Value→Shared→Prop) (E:Value→Shared→Prop),(∀ vs s',Keeps s s'→reps s'.heap W ds vs→Q vs s')→wpAny (model pw w) A (spliced (backTo pos (starEach xs e))) Q E s
  | _,_,s,.nil,Q,E,h=>PySem.Calls.spliced_nil (h [] s (Keeps.rfl' s) (by simp only [reps]))
  | _,_,s,.cons (x:=x) (d:=d) (xs:=xs) (ds:=ds) h1 h2 h3,Q,E,h=>by
    rw [starEach_plain h1]
    show wpAny _ _ (spliced ((false,eval x e)::backTo pos (starEach xs e))) _ _ _
    refine PySem.Calls.spliced_cons (h2 s (Keeps.rfl' s) _ E fun v s1 k1 r1=>?_)
    refine ok_spliced s1 (EachOk.later k1 h3) _ E fun vs s2 k2 r2=>?_
    refine h (v::vs) s2 (Keeps.tr k1 k2) ?_
    simp only [reps]
    exact ⟨v,vs,rfl,rep_keep (Keeps.heap k2) _ _ r1,r2⟩
theorem new_not_owned {h:Heap} (hW:WOk h W):h.objs.size∉W:=fun m=>let ⟨_,ho⟩:=hW _ m;Nat.lt_irrefl _ (Heap.lt_size ho)
theorem ok_List {xs:List PySem.Expr} {ds:List D} {pos:Pos} (hW:WOk s.heap W) (h:EachOk w A e W s xs ds) (hn:Nat.ble ds.length 100000=true):EvOk w A (eval (.List xs pos) e) s W (.list ds):=fun Q E q=>by
  rw [arm_eval_List]
  refine wpAny_bind (wpAny_standAt (wpAny_bind (ok_spliced s h _ E fun vs s1 k1 r1=>?_)))
  have hl:=reps_len _ _ r1
  have hn:=Nat.le_of_ble_eq_true hn
  refine wpAny_newList (q _ _ (Keeps.tr k1 (keepsPush s1 _ _)) ?_) (by rw [sizeLine_eq];lia)
  simp only [rep]
  exact ⟨_,vs,rfl,new_not_owned (hW.keep (Keeps.heap k1)),⟨_,Heap.get?_push_size _ rfl,rfl,0,rfl⟩,reps_keep (fun _ _ e=>Heap.get?_push_of_some _ e) _ _ r1⟩
theorem ok_Tuple {xs:List PySem.Expr} {ds:List D} {k:Nat} {pos:Pos} (hW:WOk s.heap W) (h:EachOk w A e W s xs ds) (hn:Nat.ble ds.length 100000=true):EvOk w A (eval (.Tuple xs k pos) e) s W (.tup ds):=fun Q E q=>by
  rw [arm_eval_Tuple]
  refine wpAny_bind (wpAny_standAt (wpAny_bind (ok_spliced s h _ E fun vs s1 k1 r1=>?_)))
  have hl:=reps_len _ _ r1
  have hn:=Nat.le_of_ble_eq_true hn
  refine wpAny_newTuple (q _ _ (Keeps.tr k1 (keepsPush s1 _ _)) ?_) (by rw [sizeLine_eq];lia)
  simp only [rep]
  exact ⟨_,vs,rfl,new_not_owned (hW.keep (Keeps.heap k1)),⟨_,Heap.get?_push_size _ rfl,rfl,0,rfl⟩,reps_keep (fun _ _ e=>Heap.get?_push_of_some _ e) _ _ r1⟩
theorem plainArgs {pos:Pos}:∀ {xs:List PySem.Expr} {ds:List D},EachOk w A e W s xs ds→(backTo pos (starEach xs e)).any (·.1)=false
  | _,_,.nil=>rfl
  | _,_,.cons (xs:=xs) h1 _ h3=>by
    rw [starEach_plain h1]
    show (false||(backTo pos (starEach xs e)).any (·.1))=false
    rw [plainArgs h3];rfl
theorem ok_evalArgs {pos:Pos} {f:Value} {xs:List PySem.Expr} {ds:List D} (h:EachOk w A e W s xs ds) (Q:Args→Shared→Prop) (E:Value→Shared→Prop) (q:∀ vs s',Keeps s s'→reps s'.heap W ds vs→Q ⟨vs,[]⟩ s') :
    wpAny (model pw w) A (evalArgs f true (backTo pos (starEach xs e)) []) Q E s:=by
  cases h with
  | nil=>exact evalArgs_nil3 (q [] s (Keeps.rfl' s) (by simp only [reps]))
  | cons h1 h2 h3 =>
    have:=ok_spliced (pos:=pos) s (.cons h1 h2 h3) (fun vs s'=>Q ⟨vs,[]⟩ s') E q
    rw [starEach_plain h1] at this ⊢
    exact PySem.Calls.evalArgs_plain this
noncomputable def callable (w:World):Value→Bool
  | .builtin _=>true
  | .type _=>true
  | .ref a=>match (tr_f w.params).get a with
    | some ⟨_,_,.func _,_⟩=>Nat.blt a 302
    | _=>false
  | _=>false
theorem ok_callWith {pos:Pos} {f:Value} {xs:List PySem.Expr} {ds:List D} {d:D} (Y:YP w s.heap) (hf:callable w f=true) (h:EachOk w A e W s xs ds)
    (hc:∀ s' vs,Keeps s s'→reps s'.heap W ds vs→EvOk w A (call f vs) s' W d):EvOk w A (callWith pos f [] (backTo pos (starEach xs e)) []) s W d:=fun Q E q=>by
  have hp:=plainArgs (pos:=pos) h
  cases f with
  | builtin id=>exact PySem.Calls.callWith_builtin hp (ok_evalArgs h _ E fun vs s1 k1 r1=>hc s1 vs k1 r1 Q E fun v s2 k2 r2=>q v s2 (Keeps.tr k1 k2) r2)
  | type T=>exact PyProof.Rows.callWith_type hp (ok_evalArgs h _ E fun vs s1 k1 r1=>hc s1 vs k1 r1 Q E fun v s2 k2 r2=>q v s2 (Keeps.tr k1 k2) r2)
  | ref a =>
    simp only [callable] at hf
    split at hf
    · rename_i c dd fd sl hg
      have ha:a<302:=by simpa using hf
      have ho:=base_get Y ha hg rfl
      exact callWith_function_kw (ok_evalArgs h _ E fun vs s1 k1 r1=>⟨⟨Keeps.heap k1 _ _ ho,rfl⟩,hc s1 vs k1 r1 Q E fun v s2 k2 r2=>q v s2 (Keeps.tr k1 k2) r2⟩)
    · cases hf
  | _=>cases hf
theorem ok_Call_Name {n:Str} {p pos:Pos} {f:Value} {xs:List PySem.Expr} {ds:List D} {d:D} (Y:YP w s.heap) (hn:EvOk w A (eval (.Name n p) e) s W (.raw f)) (hf:callable w f=true) (h:EachOk w A e W s xs ds)
    (hc:∀ s' vs,Keeps s s'→reps s'.heap W ds vs→EvOk w A (call f vs) s' W d):EvOk w A (eval (.Call (.Name n p) xs [] pos) e) s W d:=by
  have:eval (.Call (.Name n p) xs [] pos) e=(do callWith pos (← eval (.Name n p) e) [] (backTo pos (starEach xs e)) (backToKw pos (keywordEach [] e))):=rfl
  rw [this]
  refine EvOk.bind hn fun f' s1 k1 r1=>?_
  simp only [rep] at r1
  subst r1
  exact ok_callWith (fun b o x=>Keeps.heap k1 b o (Y b o x)) hf (h.later k1) fun s' vs k=>hc s' vs (Keeps.tr k1 k)
end
end
section
noncomputable def biD (id:String) (ds:List D):Option D:=onOne ds fun x =>
  if id=="len" then ((asStr x).bind fun x=>if Nat.ble x.length sizeLine then some (.int x.length) else none).or ((asLi x).bind fun l=>if Nat.ble l.length sizeLine then some (.int l.length) else none)
  else if id=="ord" then (asStr x).bind fun x=>onOne x.cps.toList fun c=>some (.int c)
  else if id=="chr" then (asInt x).bind fun i=>if decide (0≤i)&&decide (i≤0x10FFFF) then some (.str ⟨#[i.toNat]⟩) else none
  else none
section
variable {w:World} {A:Around} {s:Shared} {W:List Addr}
theorem reps_one {h:Heap} {d:D} {vs:List Value} (r:reps h W [d] vs):∃ v,vs=[v]∧rep h W d v:=by
  simp only [reps] at r
  refine el23 r fun v vs' q2q r1 q4q=>?_;subst q2q;subst q4q
  exact ⟨v,rfl,r1⟩
theorem ok_bi {id:String} {ds:List D} {d:D} {vs:List Value} (e:biD id ds=some d) (r:reps s.heap W ds vs):EvOk w A (call (.builtin id) vs) s W d:=fun Q E q=>by
  have h2:=sz63
  revert r
  refine onOne_e ds e fun x e r=>?_
  refine el12 (reps_one r) fun v q1q r1=>?_;subst q1q
  clear r
  refine ife_e e (fun hid e=>?_) fun _ e=>ife_e e (fun hid e=>?_) fun _ e=>if_e e fun hid e=>?_
  · rw [eq_of_beq hid]
    refine or_e e (fun e=>bnd_e e fun y hy e=>if_e e fun hs e=>?_) fun e=>bnd_e e fun y hy e=>if_e e fun hs e=>?_
    · rw [asStr_g hy] at r1
      simp only [rep] at r1
      obtain ⟨t,rfl⟩:=r1
      rw [← Option.some.inj e] at q
      have:=Nat.le_of_ble_eq_true hs
      exact PySem.P.len_str (by lia) (q _ _ (keepsTok s _) ⟨_,rfl⟩)
    · rw [asLi_g hy] at r1
      skip
      refine el24 r1 fun a xs q2q _ il rr=>?_;subst q2q
      rw [← Option.some.inj e] at q
      have:=Nat.le_of_ble_eq_true hs
      have hl:=reps_len _ _ rr
      exact PySem.Calls.call_len_list il (by simp only [List.size_toArray];lia) (q _ _ (keepsTok s _) (by simp only [rep,List.size_toArray,hl];exact ⟨_,rfl⟩))
  · rw [eq_of_beq hid]
    refine bnd_e e fun y hy e=>?_
    rw [asStr_g hy] at r1
    skip
    obtain ⟨t,rfl⟩:=r1
    obtain ⟨⟨l⟩⟩:=y
    clear hy
    refine onOne_e l e fun c e=>?_
    rw [← Option.some.inj e] at q
    exact PySem.P.ord_of_char (q _ _ (keepsTok s _) ⟨_,rfl⟩)
  · rw [eq_of_beq hid]
    refine bnd_e e fun i hi e=>if_e e fun hs e=>?_
    rw [asInt_g hi] at r1
    skip
    obtain ⟨t,rfl⟩:=r1
    rw [← Option.some.inj e] at q
    simp only [Bool.and_eq_true,decide_eq_true_eq] at hs
    exact PySem.P.chr_of_int (by simp only [Bool.or_eq_false_iff,decide_eq_false_iff_not];lia) (q _ _ (keepsTok s _) ⟨_,rfl⟩)
end
end
section
noncomputable def tgName:PySem.Expr→Bool
  | .Name ..=>true
  | _=>false
noncomputable def tgTup:PySem.Expr→Bool
  | .Tuple ..=>true
  | _=>false
noncomputable def tgAny (t:PySem.Expr):Bool:=tgName t||tgTup t
structure Iter (w:World) (A:Around) (I:Addr) (U W:List Addr) (ds:List D) (tg:PySem.Expr→Bool) (K:Nat→Heap→Prop):Prop where
  live:∀ i h,K i h→∀ a∈U,∃ o,h.get? a=some o
  item:∀ (i:Nat) (d:D) (t:PySem.Expr) (s:Shared) (Q:Value→Shared→Prop) (E:Value→Shared→Prop),tg t=true→ds[i]?=some d→K i s.heap→WOk s.heap W →
    (∀ v h' tk,K (i+1) h'→HKW U s.heap h'→rep h' (U++W) d v→Q v { s with heap:=h',toks:=tk }) →
    wpAny (model pw w) A (pyNext (.ref I)) (fun r s₁=>∃ v,r=some v∧wpAny (model pw w) A (letOwnedTupleGo t (.ref I) v) (fun _ s₂=>Q v s₂) E s₁) E s
  done:∀ (s:Shared) (Q:Option Value→Shared→Prop) (E:Value→Shared→Prop),K ds.length s.heap→(∀ h' tk,HKW U s.heap h'→Q none { s with heap:=h',toks:=tk })→wpAny (model pw w) A (pyNext (.ref I)) Q E s
  self:∀ (i:Nat) (s:Shared) (Q:Value→Shared→Prop) (E:Value→Shared→Prop),K i s.heap→Q (.ref I) s→wpAny (model pw w) A (pyIter (.ref I)) Q E s
  frame:∀ (i:Nat) (h h':Heap) (M:List Addr),(∀ a∈M,a∈W)→(∀ a∈U,a∉M)→K i h→HKW M h h'→K i h'
noncomputable def Made (w:World) (I:Addr) (U W:List Addr) (ds:List D) (tg:PySem.Expr→Bool) (s':Shared):Prop :=
  ∀ N:List Addr,(∀ a∈N,s'.heap.get? a=none)→∃ K:Nat→Heap→Prop,(∀ A':Around,A'.handled=none→Iter w A' I U (N++W) ds tg K)∧K 0 s'.heap
noncomputable def IterOk (w:World) (A:Around) (m:Sem Value) (s:Shared) (W:List Addr) (ds:List D) (tg:PySem.Expr→Bool):Prop :=
  ∀ (Q:Value→Shared→Prop) (E:Value→Shared→Prop),(∀ I U s',Keeps s s'→(∀ a∈U,s.heap.get? a=none)→I∈U→Mine.Made w I U W ds tg s'→Q (.ref I) s')→wpAny (model pw w) A m Q E s
theorem reps_made {h:Heap} {N U W:List Addr} {l:List D} {xs:List Value} (hN:∀ a∈N,h.get? a=none) (r:reps h (U++W) l xs):reps h (U++(N++W)) l xs:=by
  have fr:∀ (N:List Addr),(∀ a∈N,h.get? a=none)→reps h (N++(U++W)) l xs:=fun N=>by
    induction N with
    | nil=>exact fun _=>r
    | cons a N ih=>exact fun hN=>reps_fresh (hN a List.mem_cons_self) _ _ (ih fun b hb=>hN b (List.mem_cons_of_mem _ hb))
  refine reps_sub (fun a m=>?_) _ _ (fr N hN)
  rcases List.mem_append.1 m with m|m
  · exact List.mem_append_right _ (List.mem_append_left _ m)
  · rcases List.mem_append.1 m with m|m
    · exact List.mem_append_left _ m
    · exact List.mem_append_right _ (List.mem_append_right _ m)
theorem out_made {h:Heap} {N W:List Addr} {a:Addr} {o:Obj} (hN:∀ a∈N,h.get? a=none) (ha:h.get? a=some o) (na:a∉W):a∉N++W:=fun m=>by
  rcases List.mem_append.1 m with m|m
  · rw [hN a m] at ha;cases ha
  · exact na m
section
variable {w:World} {A:Around} {s:Shared} {W:List Addr}
theorem go_name {t:PySem.Expr} {v it:Value} {Q:Unit→Shared→Prop} {E:Value→Shared→Prop} (ht:tgName t=true) (h:Q () s):wpAny (model pw w) A (letOwnedTupleGo t it v) Q E s:=by
  cases t<;>first|exact wpAny_pure h|cases ht
theorem go_none {t:PySem.Expr} {v:Value} {I:Addr} {Q:Unit→Shared→Prop} {E:Value→Shared→Prop} {c:String} {o:Obj} {vs:Array Value} (ht:tgAny t=true) (ho:s.heap.get? I=some o) (hc:o.cls=.type c) (hd:o.data=.fields vs)
    (hn:["enumerate","zip","dict_itemiterator","dict_reverseitemiterator","odict_iterator","itertools.zip_longest","itertools.pairwise"].contains c=false) (h:Q () s):wpAny (model pw w) A (letOwnedTupleGo t (.ref I) v) Q E s:=by
  cases t with
  | Tuple l k p =>
    unfold letOwnedTupleGo
    cases v with
    | ref a =>
      refine wpAny_bind (wpAny_load ho ?_)
      rw [hc,hd]
      show wpAny _ A (if (["enumerate","zip","dict_itemiterator","dict_reverseitemiterator","odict_iterator","itertools.zip_longest","itertools.pairwise"].contains c&&vs[0]?==some (rawInt a))=true then _ else _) Q E s
      rw [if_neg (by rw [hn];simp)]
      exact wpAny_pure h
    | _=>exact wpAny_pure h
  | Name n p=>exact wpAny_pure h
  | _=>cases ht
theorem list_go {t:PySem.Expr} {v:Value} {I a:Addr} {i:Nat} {Q:Unit→Shared→Prop} {E:Value→Shared→Prop} (ht:tgAny t=true) (hi:s.heap.IsListIter I a i) (h:Q () s):wpAny (model pw w) A (letOwnedTupleGo t (.ref I) v) Q E s:=by
  refine el13 hi fun o ho hc hd=>?_
  exact go_none ht ho hc hd (by decide) h
theorem hkw_one {I:Addr} {W:List Addr} {h h':Heap} (hk:∀ b o,b∉[I]→h.get? b=some o→h'.get? b=some o):HKW [I] h h':=hk
theorem iter_list {a:Addr} {xs:List Value} {l:List D} (na:a∉W) (il:s.heap.IsList a xs.toArray) (r:reps s.heap W l xs):IterOk w A (pyIter (.ref a)) s W l tgAny:=fun Q E q=>by
  have hne:a≠s.heap.objs.size:=fun e=>by obtain ⟨o,ho,_⟩:=il;exact Nat.lt_irrefl _ (e▸Heap.lt_size ho)
  have hl:=reps_len _ _ r
  refine wpAny_pyIter_list il ?_
  refine q s.heap.objs.size [s.heap.objs.size] _ (keepsPush s _ _) (fun b hb=>by rw [List.mem_singleton.1 hb];exact get_none_of_size _) List.mem_cons_self fun N hN=>?_
  have il':=islist_keep (h':=s.heap.push { cls:=.type "list_iterator",data:=.fields #[.ref a,.int 0 0] }) (fun o g=>Heap.get?_push_of_some _ g) il
  refine el12 (id il') fun oa hoa _=>?_
  have naN:=out_made hN hoa na
  have rN:=reps_made (U:=[s.heap.objs.size]) hN (reps_keep (h':=s.heap.push { cls:=.type "list_iterator",data:=.fields #[.ref a,.int 0 0] }) (fun _ _ e=>Heap.get?_push_of_some _ e) _ _ (reps_fresh (get_none_of_size _) _ _ r))
  clear r na
  generalize hWN:N++W=WN at naN rN
  refine ⟨fun i h=>(h.IsListIter s.heap.objs.size a i∧h.IsList a xs.toArray)∧reps h (s.heap.objs.size::WN) l xs,fun A' hA=>?_,?_⟩
  · have Wk:=Walks.list (prog:=pw) (w:=w) (A:=A') hA s.heap.objs.size a hne xs.toArray
    refine ⟨fun i h hK b hb=>?_,fun i d t s' Q E ht hd hK _ hq=>?_,fun s' Q E hK hq=>?_,fun i s' Q E hK hq=>Wk.self i s' Q E hK.1 hq,fun i h h' M hM hI hK hk=>?_⟩
    · rw [List.mem_singleton.1 hb]
      refine el12 hK.1.1 fun o ho _=>?_
      exact ⟨o,ho⟩
    · refine el12 (reps_get _ _ _ _ hK.2 hd) fun v hv rv=>?_
      have hi:i<xs.toArray.size:=by
        have:=(List.getElem?_eq_some_iff.mp hd).1
        simp only [List.size_toArray];lia
      refine Wk.item i s' _ E hi hK.1 fun u h' tk hu st hk=>⟨u,rfl,?_⟩
      have:u=v:=by
        have h1:xs[i]?=some u:=by simpa using hu
        rw [hv] at h1;injection h1 with h1;exact h1.symm
      subst this
      have hk':HKW [s.heap.objs.size] s'.heap h':=fun b o hb e=>hk b o (by simpa using hb) e
      have hsub:reps h' (s.heap.objs.size::WN) l xs:=reps_keepW hk' (fun a m=>by rw [List.mem_singleton.1 m];exact List.mem_cons_self) l xs hK.2
      refine list_go ht st.1 (hq u h' tk ⟨st,hsub⟩ hk' ?_)
      obtain ⟨v',hv',rv'⟩:=reps_get _ _ _ _ hsub hd;rw [hv] at hv';cases hv';exact rv'
    · refine Wk.done s' Q E (by have:=hK.1;simpa [hl] using this) fun h' tk hk=>hq h' tk fun b o hb e=>hk b o (by simpa using hb) e
    · refine ⟨Wk.frame i h h' hK.1 fun b hb o e=>hk b o ?_ e,reps_keepW hk (fun a m=>List.mem_cons_of_mem _ (hM a m)) l xs hK.2⟩
      simp only [List.mem_cons,List.not_mem_nil,or_false] at hb
      rcases hb with rfl|rfl
      · exact hI _ List.mem_cons_self
      · exact fun m=>naN (hM _ m)
  · exact ⟨⟨⟨_,Heap.get?_push_size _ rfl,rfl,rfl⟩,il.push _⟩,rN⟩
theorem iter_plain {I:Addr} {St:Nat→Heap→Prop} {n:Nat} {P:Nat→Value→Prop} {ds:List D} (hn:ds.length=n) (Wk:∀ A':Around,A'.handled=none→Walks pw w A' I [I] [I] n P St) (hlive:∀ i h,St i h→∃ o,h.get? I=some o) (hP:∀ i d v h W,ds[i]?=some d→P i v→rep h W d v) (A':Around) (hA:A'.handled=none):Iter w A' I [I] W ds tgName St:=by
  have Wk:=Wk A' hA
  refine ⟨fun i h hK b hb=>by rw [List.mem_singleton.1 hb];exact hlive i h hK,fun i d t s' Q E ht hd hK _ hq=>?_,fun s' Q E hK hq=>?_,fun i s' Q E hK hq=>Wk.self i s' Q E hK hq,fun i h h' M hM hI hK hk=>?_⟩
  · refine Wk.item i s' _ E (hn▸(List.getElem?_eq_some_iff.mp hd).1) hK fun u h' tk hu st hk=>⟨u,rfl,?_⟩
    exact go_name ht (hq u h' tk st (fun b o hb e=>hk b o hb e) (hP i d u h' _ hd hu))
  · exact Wk.done s' Q E (hn▸hK) fun h' tk hk=>hq h' tk fun b o hb e=>hk b o hb e
  · exact Wk.frame i h h' hK fun b hb o e=>hk b o (by rw [List.mem_singleton.1 hb];exact hI _ List.mem_cons_self) e
noncomputable def charsD (x:Str):List D:=x.cps.toList.map fun c=>.str ⟨#[c]⟩
theorem iter_str {x:Str} {t:Tok}:IterOk w A (pyIter (.str x t)) s W (charsD x) tgName:=fun Q E q=>by
  have hP:∀ (i:Nat) (d:D) (v:Value) (h:Heap) (W:List Addr),(charsD x)[i]?=some d→SignAt x i v→rep h W d v:=fun i d v h W hd hv=>by
    refine el22 hv fun c t' hc q3q=>?_;subst q3q
    simp only [charsD,List.getElem?_map,Option.map_eq_some_iff] at hd
    refine el12 hd fun c' hc' q2q=>?_;subst q2q
    simp only [rep]
    have:c=c':=by
      have h1:x.cps.toList[i]?=some c:=by simpa using hc
      rw [hc'] at h1;injection h1 with h1;exact h1.symm
    subst this
    exact ⟨_,rfl⟩
  have fr:∀ b∈[s.heap.objs.size],s.heap.get? b=none:=fun b hb=>by rw [List.mem_singleton.1 hb];exact get_none_of_size _
  cases ha:x.cps.all (·<128)
  · refine wpAny_pyIter_wide ha (q _ _ _ (keepsPush s _ _) fr List.mem_cons_self fun N hN=>⟨_,iter_plain (by simp [charsD]) (fun A' hA=>Walks.strWide hA _ x t) (fun i h ⟨o,ho,_⟩=>⟨o,ho⟩) hP,⟨_,Heap.get?_push_size _ rfl,rfl,rfl⟩⟩)
  · refine wpAny_pyIter_ascii ha (q _ _ _ (keepsPush s _ _) fr List.mem_cons_self fun N hN=>⟨_,iter_plain (by simp [charsD]) (fun A' hA=>Walks.strAscii hA _ x t) (fun i h ⟨o,ho,_⟩=>⟨o,ho⟩) hP,⟨_,Heap.get?_push_size _ rfl,rfl,rfl⟩⟩)
end
end
section
section
variable {w:World} {A:Around} {s:Shared} {W:List Addr}
theorem iter_tuple {a:Addr} {xs:List Value} {l:List D} (na:a∉W) (il:s.heap.IsTuple a xs.toArray) (r:reps s.heap W l xs):IterOk w A (pyIter (.ref a)) s W l tgAny:=fun Q E q=>by
  have hne:a≠s.heap.objs.size:=fun e=>by obtain ⟨o,ho,_⟩:=il;exact Nat.lt_irrefl _ (e▸Heap.lt_size ho)
  have hl:=reps_len _ _ r
  refine wpAny_pyIter_tuple il ?_
  refine q s.heap.objs.size [s.heap.objs.size] _ (keepsPush s _ _) (fun b hb=>by rw [List.mem_singleton.1 hb];exact get_none_of_size _) List.mem_cons_self fun N hN=>?_
  have il':=istup_keep (h':=s.heap.push { cls:=.type "tuple_iterator",data:=.fields #[.ref a,.int 0 0] }) (fun o g=>Heap.get?_push_of_some _ g) il
  refine el12 (id il') fun oa hoa _=>?_
  have naN:=out_made hN hoa na
  have rN:=reps_made (U:=[s.heap.objs.size]) hN (reps_keep (h':=s.heap.push { cls:=.type "tuple_iterator",data:=.fields #[.ref a,.int 0 0] }) (fun _ _ e=>Heap.get?_push_of_some _ e) _ _ (reps_fresh (get_none_of_size _) _ _ r))
  clear r na
  generalize hWN:N++W=WN at naN rN
  refine ⟨fun i h=>(h.IsTupleIter s.heap.objs.size a i∧h.IsTuple a xs.toArray)∧reps h (s.heap.objs.size::WN) l xs,fun A' hA=>?_,?_⟩
  · have Wk:=Walks.tuple (prog:=pw) (w:=w) (A:=A') hA s.heap.objs.size a hne xs.toArray
    refine ⟨fun i h hK b hb=>?_,fun i d t s' Q E ht hd hK _ hq=>?_,fun s' Q E hK hq=>?_,fun i s' Q E hK hq=>Wk.self i s' Q E hK.1 hq,fun i h h' M hM hI hK hk=>?_⟩
    · rw [List.mem_singleton.1 hb]
      refine el12 hK.1.1 fun o ho _=>?_
      exact ⟨o,ho⟩
    · refine el12 (reps_get _ _ _ _ hK.2 hd) fun v hv rv=>?_
      have hi:i<xs.toArray.size:=by
        have:=(List.getElem?_eq_some_iff.mp hd).1
        simp only [List.size_toArray];lia
      refine Wk.item i s' _ E hi hK.1 fun u h' tk hu st hk=>⟨u,rfl,?_⟩
      have:u=v:=by
        have h1:xs[i]?=some u:=by simpa using hu
        rw [hv] at h1;injection h1 with h1;exact h1.symm
      subst this
      have hk':HKW [s.heap.objs.size] s'.heap h':=fun b o hb e=>hk b o (by simpa using hb) e
      have hsub:reps h' (s.heap.objs.size::WN) l xs:=reps_keepW hk' (fun a m=>by rw [List.mem_singleton.1 m];exact List.mem_cons_self) l xs hK.2
      have hgo:rep h' (s.heap.objs.size::WN) d u:=by
        obtain ⟨v',hv',rv'⟩:=reps_get _ _ _ _ hsub hd;rw [hv] at hv';cases hv';exact rv'
      refine el13 st.1 fun o ho hc hdd=>?_
      exact go_none ht ho hc hdd (by decide) (hq u h' tk ⟨⟨⟨o,ho,hc,hdd⟩,st.2⟩,hsub⟩ hk' hgo)
    · refine Wk.done s' Q E (by have:=hK.1;simpa [hl] using this) fun h' tk hk=>hq h' tk fun b o hb e=>hk b o (by simpa using hb) e
    · refine ⟨Wk.frame i h h' hK.1 fun b hb o e=>hk b o ?_ e,reps_keepW hk (fun a m=>List.mem_cons_of_mem _ (hM a m)) l xs hK.2⟩
      simp only [List.mem_cons,List.not_mem_nil,or_false] at hb
      rcases hb with rfl|rfl
      · exact hI _ List.mem_cons_self
      · exact fun m=>naN (hM _ m)
  · exact ⟨⟨⟨_,Heap.get?_push_size _ rfl,rfl,rfl⟩,il.push _⟩,rN⟩
noncomputable def SrcOk (w:World) (A:Around) (m:Sem Value) (s:Shared) (W:List Addr) (ds:List D) (tg:PySem.Expr→Bool):Prop :=
  ∀ (Q:Value→Shared→Prop) (E:Value→Shared→Prop),(∀ I U s',Keeps s s'→(∀ a∈U,s.heap.get? a=none)→I∈U→Mine.Made w I U W ds tg s'→Q (.ref I) s') →
    wpAny (model pw w) A m (fun v s1=>wpAny (model pw w) A (pyIter v) Q E s1) E s
noncomputable def iterD:D→Option (List D × (PySem.Expr→Bool))
  | .list l=>some (l,tgAny)
  | .tup l=>some (l,tgAny)
  | .str x=>some (charsD x,tgName)
  | _=>none
theorem iter_of_rep {d:D} {v:Value} {ds:List D} {tg:PySem.Expr→Bool} (r:rep s.heap W d v) (e:iterD d=some (ds,tg)):IterOk w A (pyIter v) s W ds tg:=by
  cases d<;>simp only [iterD,reduceCtorEq,Option.some.injEq,Prod.mk.injEq] at e<;>obtain ⟨rfl,rfl⟩:=e<;>simp only [rep] at r
  · obtain ⟨t,rfl⟩:=r;exact iter_str
  · obtain ⟨a,xs,rfl,na,il,rr⟩:=r;exact iter_list na il rr
  · obtain ⟨a,xs,rfl,na,il,rr⟩:=r;exact iter_tuple na il rr
theorem not_before {s s':Shared} {a:Addr} (k:Keeps s s') (h:s'.heap.get? a=none):s.heap.get? a=none:=by
  cases e:s.heap.get? a with
  | none=>rfl
  | some o=>rw [Keeps.heap k a o e] at h;cases h
theorem src_of_ev {m:Sem Value} {d:D} {ds:List D} {tg:PySem.Expr→Bool} (h:EvOk w A m s W d) (e:iterD d=some (ds,tg)):SrcOk w A m s W ds tg:=fun Q E q=>h _ E fun v s1 k1 r =>
  iter_of_rep r e Q E fun I U s2 k2 fr hI it=>q I U s2 (Keeps.tr k1 k2) (fun a m=>not_before k1 (fr a m)) hI it
noncomputable def rangeD (n:Int):List D:=(List.range n.toNat).map fun (i:Nat)=>.int (i:Int)
theorem iter_range {r:Addr} {n:Int} {t u v:Tok} (hn:0≤n) (hb:n<100000) (hr:IsRange s.heap r 0 n 1 t u v):IterOk w A (pyIter (.ref r)) s W (rangeD n) tgName:=fun Q E q=>by
  refine wpAny_pyIter_range hr (small_one (by decide) (by decide) (by lia) (by lia)) ?_
  have hsz:Builtin.Range.rangeSize 0 n 1=(n.toNat:Int):=by rw [rangeSize_one];split<;>lia
  refine q s.heap.objs.size [s.heap.objs.size] _ (keepsPush s _ _) (fun b hb=>by rw [List.mem_singleton.1 hb];exact get_none_of_size _) List.mem_cons_self fun N hN=>⟨_,iter_plain (n:=n.toNat) (by simp [rangeD]) (fun A' hA=>Walks.range hA s.heap.objs.size 0 1 n.toNat) (fun i h hi=>⟨_,hi⟩) fun i d v h W hd hv=>?_,?_⟩
  · obtain ⟨t',rfl⟩:=hv
    simp only [rangeD,List.getElem?_map,Option.map_eq_some_iff] at hd
    refine el12 hd fun j hj q2q=>?_;subst q2q
    have:j=i:=by
      have:=List.getElem?_eq_some_iff.mp hj
      simpa using this.2.symm
    subst this
    simp only [rep]
    exact ⟨t',by congr 1;lia⟩
  · show IsRangeIter _ _ _ _ _
    rw [hsz]
    simpa using Heap.get?_push_size _ rfl
theorem src_range {n:Int} {m:Sem Value} (hn:0≤n) (hb:n<100000)
    (hm:∀ (Q:Value→Shared→Prop) (E:Value→Shared→Prop),(∀ s1 vs,Keeps s s1→reps s1.heap W [.int n] vs→wpAny (model pw w) A (call (.type "range") vs) Q E s1)→wpAny (model pw w) A m Q E s):SrcOk w A m s W (rangeD n) tgName:=fun Q E q=>by
  refine hm _ E fun s1 vs k1 r=>?_
  refine el12 (reps_one r) fun v q1q r1=>?_;subst q1q
  simp only [rep] at r1
  obtain ⟨t,rfl⟩:=r1
  refine call_range_1 ?_
  exact iter_range (W:=W) hn hb (Heap.get?_push_size _ rfl) Q E fun I U s2 k2 fr hI it=>q I U s2 (Keeps.tr k1 (Keeps.tr (keepsPush s1 _ _) k2)) (fun a m=>not_before k1 (not_before (keepsPush s1 _ _) (fr a m))) hI it
noncomputable def enumD (l:List D):List D:=l.zipIdx.map fun x=>.tup [.int (x.2:Int),x.1]
theorem fst_enum {s:Shared} {n:Nat}:n+1≠n:=by lia
theorem enumD_at {l:List D} {i:Nat} {d:D} (h:(enumD l)[i]?=some d):∃ d1,l[i]?=some d1∧d=.tup [.int (i:Int),d1]:=by
  simp only [enumD,List.getElem?_map,Option.map_eq_some_iff] at h
  refine el12 h fun x hj e=>?_
  rw [List.getElem?_zipIdx,Option.map_eq_some_iff] at hj
  refine el12 hj fun d1 hd1 e1=>⟨d1,hd1,?_⟩
  rw [← e,← e1,Nat.zero_add]
theorem tgTup_e {t:PySem.Expr} (h:tgTup t=true):∃ ts k p,t=.Tuple ts k p:=by
  cases t<;>first|exact ⟨_,_,_,rfl⟩|cases h
theorem mem2 {P:Addr→Prop} {x y:Addr} (px:P x) (py:P y):∀ b∈[x,y],P b:=fun b hb=>(List.mem_cons.1 hb).elim (fun e=>e▸px) fun m=>List.mem_singleton.1 m▸py
theorem enum_iter {e it a:Addr} {xs:List Value} {l:List D} {WN:List Addr} (hlen:xs.length=l.length) (hie:e≠it) (hef:e∉[it,a]) (hai:a≠it) (naN:a∉WN) (hA:A.handled=none) :
    Iter w A e [e,it] WN (enumD l) tgTup fun i h=>((∃ old,IsEnum h e it i old)∧h.IsListIter it a i∧h.IsList a xs.toArray)∧reps h ([e,it]++WN) l xs:=by
  have Wk:=WalksT.enumerateD (Draws.list (prog:=pw) (w:=w) (A:=A.in1) hA it a hai xs.toArray) e hie hef List.mem_cons_self
  refine ⟨fun i h hK=>mem2 (hK.1.1.elim fun old ho=>⟨_,ho⟩) (hK.1.2.1.elim fun o ho=>⟨o,ho.1⟩),fun i d t s' Q E ht hd hK hW hq=>?_,fun s' Q E hK hq=>Wk.done s' Q E (by have:=hK.1;simpa [enumD,hlen] using this) fun h' tk hk=>hq h' tk hk,fun i s' Q E hK hq=>Wk.self i s' Q E hK.1 hq,fun i h h' M hM hU hK hk=>?_⟩
  · refine el12 (enumD_at hd) fun d1 hd1 e1=>el12 (reps_get _ _ _ _ hK.2 hd1) fun v hv rv=>?_
    refine Wk.item i s' _ E (by rw [List.size_toArray];exact (List.getElem?_eq_some_iff.mp hv).1) hK.1 fun T vals h' tk hP hT htup mid hk=>⟨_,rfl,?_⟩
    refine el22 hP fun tk' x hx q3q=>?_
    rw [q3q] at htup
    have hxv:v=x:=Option.some.inj (hv.symm.trans ((List.getElem?_toArray (xs:=xs) (i:=i)).symm.trans hx))
    refine el31 (tgTup_e ht) fun ts k p et=>?_
    rw [et]
    refine Wk.go _ _ _ i T _ _ E mid fun h'' st hk''=>?_
    have hkk:HKW [e,it] s'.heap h'':=fun b o hb g=>hk'' b o hb (hk b o hb g)
    have rr':reps h'' ([e,it]++WN) l xs:=reps_keepW hkk (fun b m=>List.mem_append_left _ m) l xs hK.2
    refine hq _ h'' tk ⟨st,rr'⟩ hkk ?_
    refine el12 (reps_get _ _ _ _ rr' hd1) fun v' hv' rv'=>?_
    rw [e1]
    simp only [rep,reps]
    refine ⟨T,[.int i tk',x],rfl,fun m=>(List.mem_append.1 m).elim (Wk.apart i T _ mid) fun m=>(hW T m).elim fun o ho=>nope ((Heap.get?_none_of_le hT).symm.trans ho),istup_keep (fun o g=>hk'' T o (Wk.apart i T _ mid) g) htup,_,_,rfl,⟨tk',by simp⟩,_,_,rfl,((Option.some.inj (hv'.symm.trans hv)).trans hxv)▸rv',rfl⟩
  · refine ⟨Wk.frame i h h' hK.1 fun b hb o g=>hk b o (fun m=>?_) g,reps_keepW hk (fun b m=>List.mem_append_right _ (hM b m)) l xs hK.2⟩
    exact (List.mem_cons.1 hb).elim (fun q=>hU b (q▸List.mem_cons_self) m) fun hb=>(List.mem_cons.1 hb).elim (fun q=>hU b (q▸List.mem_cons_of_mem _ List.mem_cons_self) m) fun hb=>naN (hM _ (List.mem_singleton.1 hb▸m))
theorem src_enum {l:List D} {m:Sem Value}
    (hm:∀ (Q:Value→Shared→Prop) (E:Value→Shared→Prop),(∀ s1 vs,Keeps s s1→reps s1.heap W [.list l] vs→wpAny (model pw w) A (call (.type "enumerate") vs) Q E s1)→wpAny (model pw w) A m Q E s):SrcOk w A m s W (enumD l) tgTup:=fun Q E q=>by
  refine hm _ E fun s1 vs k1 r=>el12 (reps_one r) fun v q1q r1=>?_
  simp only [rep] at r1
  refine el24 r1 fun a xs q2q na il rr=>?_
  rw [q1q,q2q]
  have hlen:=reps_len _ _ rr
  refine call_enumerate_list il fun h1 he hit hsz hk=>?_
  have hlt:a<s1.heap.objs.size:=il.elim fun o ho=>Heap.lt_size ho.1
  have hie:s1.heap.objs.size+1≠s1.heap.objs.size:=fst_enum (s:=s)
  have hai:a≠s1.heap.objs.size:=Nat.ne_of_lt hlt
  have hef:s1.heap.objs.size+1∉[s1.heap.objs.size,a]:=fun m=>mem2 (P:=fun b=>s1.heap.objs.size+1=b→False) hie (fun h=>Nat.ne_of_lt (Nat.lt_succ_of_lt hlt) h.symm) _ m rfl
  have fr1:∀ b∈[s1.heap.objs.size+1,s1.heap.objs.size],s1.heap.get? b=none:=mem2 (Heap.get?_none_of_le (Nat.le_succ _)) (Heap.get?_none_of_le (Nat.le_refl _))
  refine wpAny_pyIter_enum he ?_
  generalize s1.heap.objs.size+1=e at he hie hef fr1
  generalize s1.heap.objs.size=it at he hit hie hai hef fr1
  refine q e [e,it] _ (Keeps.tr k1 ⟨h1,s1.toks,rfl,hk⟩) (fun b m=>not_before k1 (fr1 b m)) List.mem_cons_self fun N hN=>?_
  refine el12 (id il) fun oa hoa _=>?_
  refine ⟨_,fun A' hA=>enum_iter hlen hie hef hai (out_made hN (hk _ _ hoa) na) hA,⟨⟨.none,he⟩,hit,islist_keep (fun o g=>hk a o g) il⟩,reps_made (U:=[e,it]) hN (reps_keep hk _ _ (reps_fresh (fr1 e List.mem_cons_self) _ _ (reps_fresh (fr1 it (List.mem_cons_of_mem _ List.mem_cons_self)) _ _ rr)))⟩
end
end
section
noncomputable def allInt (l:List D):Bool:=l.all fun d=>match d with | .int _=>true|_=>false
noncomputable def allBool (l:List D):Bool:=l.all fun d=>match d with | .bool _=>true|_=>false
noncomputable def iv:D→Int
  | .int i=>i
  | .bool true=>1
  | _=>0
noncomputable def valAt (l:List D) (i:Nat):Int:=match l[i]? with|some d=>iv d|none=>0
noncomputable def foldD (id:String) (ds:List D):Option D :=
  if id=="sum" then onOne ds fun d=>(asLi d).bind fun l=>if allInt l then some (.int (preSum (valAt l) l.length)) else none
  else if id=="max" then onOne ds fun d=>(asLi d).bind fun l=>if (allInt l||allBool l)&&Nat.blt 0 l.length then l[argBest (fun i j=>decide (valAt l i > valAt l j)) (l.length - 1)]? else none
  else if id=="min" then onOne ds fun d=>(asLi d).bind fun l=>if (allInt l||allBool l)&&Nat.blt 0 l.length then l[argBest (fun i j=>decide (valAt l i<valAt l j)) (l.length - 1)]? else none
  else none
section
variable {w:World} {A:Around} {s:Shared} {W:List Addr}
theorem int_at {h:Heap} {l:List D} {xs:List Value} {i:Nat} {v:Value} (hl:allInt l=true) (r:reps h W l xs) (e:xs.toArray[i]?=some v):∃ t,v=.int (valAt l i) t:=by
  have e:xs[i]?=some v:=by simpa using e
  have hlen:=reps_len _ _ r
  have hi:i<l.length:=by have:=(List.getElem?_eq_some_iff.mp e).1;lia
  refine el12 (reps_get l xs i l[i] r (by simp [hi])) fun u hu ru=>?_
  rw [e] at hu;cases hu
  have:=List.all_eq_true.mp hl l[i] (List.getElem_mem hi)
  unfold valAt
  rw [List.getElem?_eq_getElem hi]
  generalize l[i]=d at this ru ⊢
  cases d<;>simp only [Bool.false_eq_true] at this
  simpa only [rep,iv] using ru
theorem bool_at {h:Heap} {l:List D} {xs:List Value} {i:Nat} {v:Value} (hl:allBool l=true) (r:reps h W l xs) (e:xs.toArray[i]?=some v):∃ b:Bool,v=.bool b∧valAt l i=b2i b:=by
  have e:xs[i]?=some v:=by simpa using e
  have hlen:=reps_len _ _ r
  have hi:i<l.length:=by have:=(List.getElem?_eq_some_iff.mp e).1;lia
  refine el12 (reps_get l xs i l[i] r (by simp [hi])) fun u hu ru=>?_
  rw [e] at hu;cases hu
  have:=List.all_eq_true.mp hl l[i] (List.getElem_mem hi)
  unfold valAt
  rw [List.getElem?_eq_getElem hi]
  generalize l[i]=d at this ru ⊢
  cases d<;>simp only [Bool.false_eq_true] at this
  rename_i b
  simp only [rep] at ru
  exact ⟨b,ru,by cases b<;>rfl⟩
theorem cmp_gt {l:List D} {xs:List Value} {h:Heap} (hl:(allInt l||allBool l)=true) (r:reps h W l xs):CmpOf pw w A .Gt (fun i v=>xs.toArray[i]?=some v) (fun i j=>decide (valAt l i > valAt l j)):=fun i j vi vj s Q E hi hj q=>by
  rcases Bool.or_eq_true_iff.mp hl with hl|hl
  · obtain ⟨t,rfl⟩:=int_at hl r hi
    obtain ⟨t',rfl⟩:=int_at hl r hj
    exact show wpAny _ _ (compareOp .Gt _ _) _ _ _ from PySem.P.gt_int q
  · refine el12 (bool_at hl r hi) fun b q1q hb=>?_;subst q1q
    refine el12 (bool_at hl r hj) fun b' q1q hb'=>?_;subst q1q
    dsimp only at q
    rw [hb,hb'] at q
    exact show wpAny _ _ (compareOp .Gt _ _) _ _ _ from gt_bool q
theorem cmp_lt {l:List D} {xs:List Value} {h:Heap} (hl:(allInt l||allBool l)=true) (r:reps h W l xs):CmpOf pw w A .Lt (fun i v=>xs.toArray[i]?=some v) (fun i j=>decide (valAt l i<valAt l j)):=fun i j vi vj s Q E hi hj q=>by
  rcases Bool.or_eq_true_iff.mp hl with hl|hl
  · obtain ⟨t,rfl⟩:=int_at hl r hi
    obtain ⟨t',rfl⟩:=int_at hl r hj
    exact show wpAny _ _ (compareOp .Lt _ _) _ _ _ from PySem.P.lt_int q
  · refine el12 (bool_at hl r hi) fun b q1q hb=>?_;subst q1q
    refine el12 (bool_at hl r hj) fun b' q1q hb'=>?_;subst q1q
    dsimp only at q
    rw [hb,hb'] at q
    exact show wpAny _ _ (compareOp .Lt _ _) _ _ _ from lt_bool q
theorem moved {s2:Shared} {o:Obj} {h':Heap} {tk:Nat} {I:Addr} (hI:I=s.heap.objs.size) (e:s2={ s with heap:=s.heap.push o }) (hk:∀ b o',b∉[I]→s2.heap.get? b=some o'→h'.get? b=some o'):Keeps s { s2 with heap:=h',toks:=tk }:=by
  subst e hI
  exact ⟨h',tk,rfl,fun b o' x=>hk b o' (fun m=>by rw [List.mem_singleton.1 m] at x;exact Nat.lt_irrefl _ (Heap.lt_size x)) (Heap.get?_push_of_some _ x)⟩
theorem reps_li {h:Heap} {l:List D} {vs:List Value} (r:reps h W [.list l] vs):∃ a xs,vs=[.ref a]∧a∉W∧h.IsList a (List.toArray xs)∧reps h W l xs :=
  el12 (reps_one r) fun v e r1=>by
    simp only [rep] at r1
    exact el24 r1 fun a xs q na il rr=>⟨a,xs,by rw [e,q],na,il,rr⟩
theorem fold_dom {a:Addr} (hlt:a<s.heap.objs.size) (o:Obj):∀ b∈[s.heap.objs.size,a],b<(s.heap.push o).objs.size:=fun b hb=>by
  rw [Heap.size_push]
  exact (List.mem_cons.1 hb).elim (fun e=>e▸Nat.lt_succ_self _) fun m=>List.mem_singleton.1 m▸Nat.lt_succ_of_lt hlt
theorem ok_sum {l:List D} {vs:List Value} (hA:A.handled=none) (hs:allInt l=true) (r:reps s.heap W [.list l] vs):EvOk w A (call (.builtin "sum") vs) s W (.int (preSum (valAt l) l.length)):=fun Q E q=>by
  refine el24 (reps_li r) fun a xs ev _ il rr=>?_
  rw [ev]
  have hlen:=reps_len _ _ rr
  have hlt:a<s.heap.objs.size:=il.elim fun o ho=>Heap.lt_size ho.1
  refine call_sum_walkG (wpAny_pyIter_list il ⟨_,_,_,_,_,_,valAt l,rfl,Walks.list (A:=A.in1) hA s.heap.objs.size a (Nat.ne_of_lt hlt) xs.toArray,⟨⟨_,Heap.get?_push_size _ rfl,rfl,rfl⟩,il.push _⟩,fold_dom hlt _,fun i v hv=>int_at hs rr hv,fun h' tk t' hk=>q _ _ (moved rfl rfl hk) ?_⟩)
  simp only [rep]
  exact ⟨t',by rw [List.size_toArray,hlen]⟩
theorem ok_max {l:List D} {d:D} {vs:List Value} (hA:A.handled=none) (hs:((allInt l||allBool l)&&Nat.blt 0 l.length)=true) (e:l[argBest (fun i j=>decide (valAt l i > valAt l j)) (l.length - 1)]?=some d) (r:reps s.heap W [.list l] vs):EvOk w A (call (.builtin "max") vs) s W d:=fun Q E q=>by
  have hs:=Bool.and_eq_true_iff.1 hs
  refine el24 (reps_li r) fun a xs ev _ il rr=>?_
  rw [ev]
  have hlen:=reps_len _ _ rr
  have hlt:a<s.heap.objs.size:=il.elim fun o ho=>Heap.lt_size ho.1
  refine call_max_walk (wpAny_pyIter_list il ⟨s.heap.objs.size,_,_,_,_,_,_,rfl,Walks.list (A:=A.in1) hA s.heap.objs.size a (Nat.ne_of_lt hlt) xs.toArray,⟨⟨_,Heap.get?_push_size _ rfl,rfl,rfl⟩,il.push _⟩,fold_dom hlt _,?_,cmp_gt hs.1 rr,fun v h' tk hv hk=>?_⟩)
  · rw [List.size_toArray,hlen];exact Nat.le_of_ble_eq_true hs.2
  · have kk:Keeps s { s with heap:=h',toks:=tk }:=moved (s2:={ s with heap:=s.heap.push { cls:=.type "list_iterator",data:=.fields #[.ref a,.int 0 0] } }) rfl rfl hk
    rw [List.size_toArray,hlen,List.getElem?_toArray] at hv
    exact el12 (reps_get l xs _ d rr e) fun u hu ru=>q _ _ kk (Option.some.inj (hu.symm.trans hv)▸rep_keep (Keeps.heap kk) _ _ ru)
theorem ok_min {l:List D} {d:D} {vs:List Value} (hA:A.handled=none) (hs:((allInt l||allBool l)&&Nat.blt 0 l.length)=true) (e:l[argBest (fun i j=>decide (valAt l i<valAt l j)) (l.length - 1)]?=some d) (r:reps s.heap W [.list l] vs):EvOk w A (call (.builtin "min") vs) s W d:=fun Q E q=>by
  have hs:=Bool.and_eq_true_iff.1 hs
  refine el24 (reps_li r) fun a xs ev _ il rr=>?_
  rw [ev]
  have hlen:=reps_len _ _ rr
  have hlt:a<s.heap.objs.size:=il.elim fun o ho=>Heap.lt_size ho.1
  refine call_min_walk (wpAny_pyIter_list il ⟨s.heap.objs.size,_,_,_,_,_,_,rfl,Walks.list (A:=A.in1) hA s.heap.objs.size a (Nat.ne_of_lt hlt) xs.toArray,⟨⟨_,Heap.get?_push_size _ rfl,rfl,rfl⟩,il.push _⟩,fold_dom hlt _,?_,cmp_lt hs.1 rr,fun v h' tk hv hk=>?_⟩)
  · rw [List.size_toArray,hlen];exact Nat.le_of_ble_eq_true hs.2
  · have kk:Keeps s { s with heap:=h',toks:=tk }:=moved (s2:={ s with heap:=s.heap.push { cls:=.type "list_iterator",data:=.fields #[.ref a,.int 0 0] } }) rfl rfl hk
    rw [List.size_toArray,hlen,List.getElem?_toArray] at hv
    exact el12 (reps_get l xs _ d rr e) fun u hu ru=>q _ _ kk (Option.some.inj (hu.symm.trans hv)▸rep_keep (Keeps.heap kk) _ _ ru)
theorem ok_fold {id:String} {ds:List D} {d:D} {vs:List Value} (hA:A.handled=none) (e:foldD id ds=some d) (r:reps s.heap W ds vs):EvOk w A (call (.builtin id) vs) s W d:=by
  revert r
  refine ife_e e (fun hi e=>?_) fun _ e=>ife_e e (fun hi e=>?_) fun _ e=>if_e e fun hi e=>?_
  · rw [eq_of_beq hi]
    exact onOne_e ds e fun x e=>bnd_e e fun l hl e=>if_e e fun hs e=>by rw [asLi_g hl,← Option.some.inj e];exact ok_sum hA hs
  · rw [eq_of_beq hi]
    exact onOne_e ds e fun x e=>bnd_e e fun l hl e=>if_e e fun hs e=>by rw [asLi_g hl];exact ok_max hA hs e
  · rw [eq_of_beq hi]
    exact onOne_e ds e fun x e=>bnd_e e fun l hl e=>if_e e fun hs e=>by rw [asLi_g hl];exact ok_min hA hs e
end
end
end Mine
end
section
open PySem PySem.W PyProof.Rows
open Builtin Builtin.Str
namespace Mine
section
noncomputable def findAt (x y:Str) (i j:Int):Int:=match occurrences x y (fromIndex x.length i) (min (fromIndex x.length j) x.length) 1 with|k::_=>(k:Int)|[]=>-1
theorem gives_find4 (x y:Str) (i j:Int) (t u v v':Tok):Gives («str.find» ⟨[.str x t,.str y u,.int i v,.int j v'],[]⟩) (.int (findAt x y i j)):=by
  show Gives (match occurrences x y (fromIndex x.length i) (min (fromIndex x.length j) x.length) 1 with|k::_=>retInt k|[]=>(do rule "str.find.not-found";retInt (-1))) _
  unfold findAt
  cases occurrences x y (fromIndex x.length i) (min (fromIndex x.length j) x.length) 1 with
  | nil=>exact .rule (.of_eq rfl)
  | cons k _=>exact .of_eq rfl
noncomputable def lowS (x:Str):Str:=⟨placed x fun i _=>Unicode.lowerAt x.cps i⟩
noncomputable def smD (id:String) (x:Str) (ds:List D):Option D :=
  if id=="str.lower" then onNil ds (if Nat.ble (lowS x).length sizeLine then some (.str (lowS x)) else none)
  else if id=="str.find" then on3 ds fun y i j=>(asStr y).bind fun y=>(asInt i).bind fun i=>(asInt j).bind fun j=>some (.int (findAt x y i j))
  else onOne ds fun y=>(asStr y).bind fun y =>
    if id=="str.startswith" then some (.bool (0+y.length≤x.length&&subAt x y 0))
    else if id=="str.endswith" then some (.bool (0+y.length≤x.length&&subAt x y (x.length - y.length)))
    else if id=="str.index" then (match occurrences x y 0 x.length 1 with
      | i::_=>some (.int i)
      | []=>none)
    else none
section
variable {w:World} {A:Around} {s:Shared} {W:List Addr}
theorem reps_nil {h:Heap} {vs:List Value} (r:reps h W [] vs):vs=[]:=by simpa only [reps] using r
theorem ok_sm {id:String} {x:Str} {t:Tok} {ds:List D} {d:D} {vs:List Value} (e:smD id x ds=some d) (r:reps s.heap W ds vs):EvOk w A (call (.builtin id) (.str x t::vs)) s W d:=fun Q E q=>by
  revert r
  refine ife_e e (fun hid e=>?_) fun _ e=>ife_e e (fun hid e=>?_) fun _ e=>?_
  · rw [eq_of_beq hid]
    refine onNil_e ds e fun e r=>if_e e fun hs e=>?_
    rw [← Option.some.inj e] at q
    rw [reps_nil r]
    have:=Nat.le_of_ble_eq_true hs
    refine call_gives F.slot_str_lower (typeIs_str s x t) F.entry_str_lower (F.args_str_lower_1 _) (gives_str_lower x t ?_) ⟨this,q _ _ (keepsTok s _) ⟨_,rfl⟩⟩
    unfold tooLong
    exact decide_eq_false (Nat.not_lt.mpr this)
  · rw [eq_of_beq hid]
    refine on3_e ds e fun y i j e r=>bnd_e e fun y' hy e=>bnd_e e fun i' hi e=>bnd_e e fun j' hj e=>?_
    rw [asStr_g hy,asInt_g hi,asInt_g hj] at r
    rw [← Option.some.inj e] at q
    skip
    obtain ⟨v1,_,rfl,⟨u,rfl⟩,v2,_,rfl,⟨u2,rfl⟩,v3,_,rfl,⟨u3,rfl⟩,rfl⟩:=r
    exact call_gives F.slot_str_find (typeIs_str s x t) F.entry_str_find (F.args_str_find_4 _ _ _ _) (gives_find4 x _ _ _ t u u2 u3) (q _ _ (keepsTok s _) ⟨_,rfl⟩)
  · refine onOne_e ds e fun y e r=>bnd_e e fun y' hy e=>?_
    rw [asStr_g hy] at r
    refine el12 (reps_one r) fun v q1q r1=>?_;subst q1q
    skip
    obtain ⟨u,rfl⟩:=r1
    clear r
    refine ife_e e (fun hid e=>?_) fun _ e=>ife_e e (fun hid e=>?_) fun _ e=>if_e e fun hid e=>?_<;>rw [eq_of_beq hid]
    · rw [← Option.some.inj e] at q
      exact call_gives F.slot_str_startswith (typeIs_str s x t) F.entry_str_startswith (F.args_str_startswith_2 _ _) (gives_str_startswith x _ t u) (q _ _ (Keeps.rfl' s) rfl)
    · rw [← Option.some.inj e] at q
      exact call_gives F.slot_str_endswith (typeIs_str s x t) F.entry_str_endswith (F.args_str_endswith_2 _ _) (gives_str_endswith x _ t u) (q _ _ (Keeps.rfl' s) rfl)
    · cases ho:occurrences x y' 0 x.length 1 with
      | nil=>rw [ho] at e;exact nope e
      | cons i rest =>
        rw [ho] at e
        rw [← Option.some.inj e] at q
        exact call_gives F.slot_str_index (typeIs_str s x t) F.entry_str_index (F.args_str_index_2 _ _) (gives_str_index x _ t u _ _ ho) (q _ _ (keepsTok s _) ⟨_,rfl⟩)
noncomputable def splitD (x y:Str):Option (List D):=if (!(y.length==0))&&(Nat.ble x.length sizeLine&&Nat.ble (partsBetween x (occurrences x y 0 x.length (x.length+1)) y.length).length sizeLine) then some ((Txt.split x y).map .str) else none
theorem reps_strs {h:Heap}:∀ (l:List (Str × Tok)),reps h W ((l.map (·.1)).map .str) (strValues l)
  | []=>by simp [reps,strValues]
  | (x,t)::l=>by
    simp only [List.map_cons,reps,strValues]
    exact ⟨_,_,rfl,by simp only [rep];exact ⟨t,rfl⟩,reps_strs l⟩
end
end
section
noncomputable def isCallE:PySem.Expr→Bool
  | .Call ..=>true
  | _=>false
noncomputable def strMeth (n:Str):Option String :=
  if n==("lower":Str) then some "str.lower"
  else if n==("startswith":Str) then some "str.startswith"
  else if n==("endswith":Str) then some "str.endswith"
  else if n==("index":Str) then some "str.index"
  else if n==("find":Str) then some "str.find"
  else if n==("split":Str) then some "str.split"
  else none
theorem strMeth_ok {n:Str} {id:String} (h:strMeth n=some id):Slot "str" n id∧typeOf (.builtin id)=pure (.type "method_descriptor"):=by
  unfold strMeth at h
  repeat' split at h
  all_goals first|cases h|skip
  all_goals (rename_i hn;have hn:=eq_of_beq hn;subst hn)
  · exact ⟨F.slot_str_lower,F.type_str_lower⟩
  · exact ⟨F.slot_str_startswith,F.type_str_startswith⟩
  · exact ⟨F.slot_str_endswith,F.type_str_endswith⟩
  · exact ⟨F.slot_str_index,F.type_str_index⟩
  · exact ⟨F.slot_str_find,F.type_str_find⟩
  · exact ⟨F.slot_str_split,F.type_str_split⟩
section
variable {w:World} {A:Around} {s:Shared} {W:List Addr} {e:Env}
theorem base_plain {o:PySem.Expr} {n:Str} (h:isCallE o=false):attributeBase o n e (eval o e)=eval o e:=by
  cases o<;>first|rfl|cases h
theorem any_all {α:Type}:∀ (l:List (Bool × α)),l.any (·.1)=false→l.all (fun x=>!x.1)=true
  | [],_=>rfl
  | x::l,h=>by
    rw [List.any_cons,Bool.or_eq_false_iff] at h
    rw [List.all_cons,h.1,any_all l h.2];rfl
theorem ok_strCall {o:PySem.Expr} {n:Str} {apos pos:Pos} {args:List PySem.Expr} {id:String} {x:Str} {ds:List D} {d:D} (ho:EvOk w A (eval o e) s W (.str x)) (hb:isCallE o=false) (hline:(apos.endLine==pos.line)=true)
    (hargs:EachOk w A e W s args ds) (few:Nat.blt args.length 30=true) (hm:strMeth n=some id)
    (hc:∀ s' t vs,Keeps s s'→reps s'.heap W ds vs→EvOk w A (call (.builtin id) (.str x t::vs)) s' W d):EvOk w A (eval (.Call (.Attribute o n apos) args [] pos) e) s W d:=fun Q E q=>by
  obtain ⟨slot,ty⟩:=strMeth_ok hm
  have hp:=plainArgs (pos:=pos) hargs
  have hlt:args.length<30:=by simpa using few
  refine wpAny_Call_method (base_plain hb) (by rw [any_all _ hp];simp [backToKw,keywordEach,hlt]) hline F.plainAttrs_str slot ty (ho _ E fun v s1 k1 r1=>?_)
  simp only [rep] at r1
  obtain ⟨t,rfl⟩:=r1
  refine ⟨typeIs_str _ _ _,(fun _ h=>nomatch h),?_⟩
  refine PySem.Calls.callWith_builtin hp (ok_evalArgs (hargs.later k1) _ E fun vs s2 k2 r2=>?_)
  exact hc s2 t vs (Keeps.tr k1 k2) r2 Q E fun v s3 k3 r3=>q v s3 (Keeps.tr k1 (Keeps.tr k2 k3)) r3
theorem ok_strMethod {o:PySem.Expr} {n:Str} {apos pos:Pos} {args:List PySem.Expr} {id:String} {x:Str} {ds:List D} {d:D} (ho:EvOk w A (eval o e) s W (.str x)) (hb:isCallE o=false) (hline:(apos.endLine==pos.line)=true)
    (hargs:EachOk w A e W s args ds) (few:Nat.blt args.length 30=true) (hm:strMeth n=some id) (hd:smD id x ds=some d):EvOk w A (eval (.Call (.Attribute o n apos) args [] pos) e) s W d :=
  ok_strCall ho hb hline hargs few hm fun s' t vs k r=>ok_sm hd r
theorem ok_split {x y:Str} {t:Tok} {l:List D} {vs:List Value} (hW:WOk s.heap W) (hd:splitD x y=some l) (r:reps s.heap W [.str y] vs):EvOk w A (call (.builtin "str.split") (.str x t::vs)) s W (.list l):=fun Q E q=>by
  unfold splitD at hd
  split at hd
  · rename_i hc
    cases hd
    simp only [Bool.and_eq_true,Bool.not_eq_true'] at hc
    refine el12 (reps_one r) fun v q1q r1=>?_;subst q1q
    simp only [rep] at r1
    obtain ⟨u,rfl⟩:=r1
    have fin:∀ (l:List (Str × Tok)) (tk:Nat),l.map (·.1)=Txt.split x y→Q (.ref s.heap.objs.size) { s with toks:=tk,heap:=s.heap.push { cls:=.type "list",data:=.seq (strValues l).toArray } }:=fun l tk ht=>by
      refine q _ _ (keepsPush s _ _) ?_
      simp only [rep]
      refine ⟨_,strValues l,rfl,new_not_owned hW,⟨_,Heap.get?_push_size _ rfl,rfl,0,rfl⟩,?_⟩
      rw [← ht];exact reps_strs l
    have hx:=Nat.le_of_ble_eq_true hc.2.1
    have hn:=Nat.le_of_ble_eq_true hc.2.2
    cases h1:(decide (x.length<y.length)||decide (strKind x<strKind y))
    · cases hf:(occurrences x y 0 x.length (x.length+1)).isEmpty
      · refine call_meets F.slot_str_split (typeIs_str s x t) F.entry_str_split (F.args_str_split_2 _ _) (meets_str_split_sep x y t u h1 hc.1 hf hx hn) ?_
        show wants Q E _ { s with toks:=_,heap:=s.heap.push { cls:=.type "list",data:=.seq (strsFrom s.toks (partsBetween x (occurrences x y 0 x.length (x.length+1)) y.length)).toArray } }
        rw [strsFrom_eq]
        exact fin (numbered s.toks _) _ ((numbered_texts _ _).trans ((if_neg (ne_true_of_eq_false h1)).trans (if_neg (ne_true_of_eq_false hf))).symm)
      · exact call_meets F.slot_str_split (typeIs_str s x t) F.entry_str_split (F.args_str_split_2 _ _) (meets_str_split_not_found x y t u h1 hc.1 hf) (fin [(x,t)] s.toks ((if_neg (ne_true_of_eq_false h1)).trans (if_pos hf)).symm)
    · exact call_meets F.slot_str_split (typeIs_str s x t) F.entry_str_split (F.args_str_split_2 _ _) (meets_str_split_cannot_occur x y t u h1) (fin [(x,t)] s.toks (if_pos h1).symm)
  · exact nope hd
end
end
end Mine
end
section
open PySem PySem.W PyProof.Rows
namespace Mine
section
noncomputable def plainTest:PySem.Expr→Bool
  | .UnaryOp .Not _ _ | .BoolOp .. | .IfExp .. | .Compare ..=>false
  | _=>true
section
variable {w:World} {A:Around} {s:Shared} {W:List Addr} {e:Env}
theorem ok_BinOp {l r:PySem.Expr} {op:Operator} {pos:Pos} {x y d:D} (hx:EvOk w A (eval l e) s W x) (hy:∀ s',Keeps s s'→EvOk w A (eval r e) s' W y) (hd:bopD op x y=some d):EvOk w A (eval (.BinOp l op r pos) e) s W d:=fun Q E q =>
  wpAny_BinOp (hx _ E fun u s1 k1 r1=>hy s1 k1 _ E fun v s2 k2 r2=>ok_bop hd (rep_keep (Keeps.heap k2) _ _ r1) r2 Q E fun v' s3 k3 r3=>q v' s3 (Keeps.tr k1 (Keeps.tr k2 k3)) r3)
theorem ok_UnaryOp {x:PySem.Expr} {op:UnaryOp} {pos:Pos} {y d:D} (hx:EvOk w A (eval x e) s W y) (hd:uopD op y=some d):EvOk w A (eval (.UnaryOp op x pos) e) s W d:=fun Q E q =>
  wpAny_UnaryOp (hx _ E fun u s1 k1 r1=>ok_uop r1 hd Q E fun v s2 k2 r2=>q v s2 (Keeps.tr k1 k2) r2)
theorem ok_Compare {l r:PySem.Expr} {op:CmpOp} {pos:Pos} {x y:D} {b:Bool} (hA:A.units+20<cLine) (hm:behindInMarks op r=false) (hx:EvOk w A (eval l e) s W x) (hy:∀ s',Keeps s s'→EvOk w A (eval r e) s' W y) (hd:cmpB op x y=some b) :
    EvOk w A (eval (.Compare l [op] [r] pos) e) s W (.bool b):=fun Q E q=>by
  rw [eval_Compare1,markedBehindIn_of_false hm]
  refine wpAny_bind (hx _ E fun u s1 k1 r1=>wpAny_bind (wpAny_holding (hy s1 k1 _ E fun v s2 k2 r2=>wpAny_bind (wpAny_standAt (wpAny_operate' ?_)))))
  exact ok_cmp hA (rep_keep (Keeps.heap k2) _ _ r1) r2 hd Q E fun v' s3 k3 r3=>q v' s3 (Keeps.tr k1 (Keeps.tr k2 k3)) r3
theorem tr_Compare {l r:PySem.Expr} {op:CmpOp} {pos:Pos} {x y:D} {b:Bool} {whole:Sem Value} (hA:A.units+20<cLine) (hm:behindInMarks op r=false) (hx:EvOk w A (eval l e) s W x) (hy:∀ s',Keeps s s'→EvOk w A (eval r e) s' W y) (hd:cmpB op x y=some b) :
    TrOk w A (isTrue (.Compare l [op] [r] pos) e whole) s b:=fun Q E q=>by
  rw [isTrue_Compare1,markedBehindIn_of_false hm]
  refine wpAny_bind (hx _ E fun u s1 k1 r1=>wpAny_bind (wpAny_holding (hy s1 k1 _ E fun v s2 k2 r2=>wpAny_bind (wpAny_standAt (wpAny_bind (wpAny_operate' ?_))))))
  refine ok_cmp hA (rep_keep (Keeps.heap k2) _ _ r1) r2 hd _ E fun v' s3 k3 r3=>wpAny_holding ?_
  skip
  subst r3
  exact wpAny_truthy_bool (q s3 (Keeps.tr k1 (Keeps.tr k2 k3)))
theorem tr_plain {x:PySem.Expr} {y:D} {b:Bool} (hp:plainTest x=true) (hx:EvOk w A (eval x e) s W y) (hd:truthD y=some b):TrOk w A (isTrue x e (eval x e)) s b:=fun Q E q=>by
  refine isTrue_plain (hx _ E fun u s1 k1 r1=>ok_truthy r1 hd Q E fun s2 k2=>q s2 (Keeps.tr k1 k2)) ?_
  cases x with
  | UnaryOp op y p=>cases op<;>first|rfl|cases hp
  | BoolOp=>cases hp
  | IfExp=>cases hp
  | Compare=>cases hp
  | _=>rfl
theorem tr_Not {x:PySem.Expr} {pos:Pos} {b:Bool} {whole:Sem Value} (hx:TrOk w A (isTrue x e (eval x e)) s b):TrOk w A (isTrue (.UnaryOp .Not x pos) e whole) s (!b):=fun Q E q=>wpAny_isTrue_Not (hx _ E fun s1 k1=>q s1 k1)
noncomputable def bopUnit (op:BoolOp) (b:Bool):Bool:=match op,b with
  | .And,false | .Or,true=>true
  | _,_=>false
theorem tr_all_nil {op:BoolOp}:TrOk w A (allTrue op [] e) s (op==.And):=fun Q E q=>wpAny_pure (q s (Keeps.rfl' s))
theorem tr_all_cons {op:BoolOp} {x:PySem.Expr} {xs:List PySem.Expr} {b c:Bool} (hx:TrOk w A (isTrue x e (eval x e)) s b) (hs:bopUnit op b=false→∀ s',Keeps s s'→TrOk w A (allTrue op xs e) s' c) :
    TrOk w A (allTrue op (x::xs) e) s (if bopUnit op b then b else c):=fun Q E q=>by
  rw [arm_allTrue_cons]
  refine wpAny_bind (hx _ E fun s1 k1=>?_)
  cases op<;>cases b
  · exact wpAny_pure (q s1 k1)
  · exact hs rfl s1 k1 Q E fun s2 k2=>q s2 (Keeps.tr k1 k2)
  · exact hs rfl s1 k1 Q E fun s2 k2=>q s2 (Keeps.tr k1 k2)
  · exact wpAny_pure (q s1 k1)
theorem tr_BoolOp {op:BoolOp} {xs:List PySem.Expr} {pos:Pos} {b:Bool} {whole:Sem Value} (h:TrOk w A (allTrue op xs e) s b):TrOk w A (isTrue (.BoolOp op xs pos) e whole) s b:=h
theorem ok_IfExp {t x y:PySem.Expr} {pos:Pos} {b:Bool} {d:D} (ht:TrOk w A (isTrue t e (eval t e)) s b) (h:∀ s',Keeps s s'→EvOk w A (eval (if b then x else y) e) s' W d):EvOk w A (eval (.IfExp t x y pos) e) s W d:=fun Q E q=>by
  refine wpAny_IfExp (ht _ E fun s1 k1=>?_)
  have:=h s1 k1 Q E fun v s2 k2 r2=>q v s2 (Keeps.tr k1 k2) r2
  cases b<;>exact this
theorem ok_bool_one {op:BoolOp} {x:PySem.Expr} {pos:Pos} {d:D} (h:EvOk w A (eval x e) s W d):EvOk w A (boolOp pos op (evalEach [x] e)) s W d:=h
theorem ok_bool_cons {op:BoolOp} {x y:PySem.Expr} {xs:List PySem.Expr} {pos:Pos} {d d':D} {b:Bool} (hx:EvOk w A (eval x e) s W d) (ht:truthD d=some b) (hs:bopUnit op b=false→∀ s',Keeps s s'→EvOk w A (boolOp pos op (evalEach (y::xs) e)) s' W d') :
    EvOk w A (boolOp pos op (evalEach (x::y::xs) e)) s W (if bopUnit op b then d else d'):=fun Q E q=>by
  show wpAny _ _ (do
    let v ← eval x e
    standAt pos
    let t ← holding [v] (truthy v)
    match op,t with
    | .And,false | .Or,true=>pure v
    | _,_=>boolOp pos op (evalEach (y::xs) e)) _ _ _
  refine wpAny_bind (hx _ E fun v s1 k1 r1=>wpAny_bind (wpAny_standAt (wpAny_bind (wpAny_holding (ok_truthy r1 ht _ E fun s2 k2=>?_)))))
  cases op<;>cases b
  · exact wpAny_pure (q v s2 (Keeps.tr k1 k2) (rep_keep (Keeps.heap k2) _ _ r1))
  · exact hs rfl s2 (Keeps.tr k1 k2) Q E fun v s3 k3 r3=>q v s3 (Keeps.tr k1 (Keeps.tr k2 k3)) r3
  · exact hs rfl s2 (Keeps.tr k1 k2) Q E fun v s3 k3 r3=>q v s3 (Keeps.tr k1 (Keeps.tr k2 k3)) r3
  · exact wpAny_pure (q v s2 (Keeps.tr k1 k2) (rep_keep (Keeps.heap k2) _ _ r1))
theorem ok_Const {c:Const} {k:Nat} {pos:Pos} {d:D} (h:(match c with | .int i=>some (.int i) | .str x=>some (.str x) | .bool b=>some (.bool b) | .none=>some .none|_=>none:Option D)=some d):EvOk w A (eval (.Constant c k pos) e) s W d:=fun Q E q=>by
  rw [arm_eval_Constant]
  cases c<;>simp only [reduceCtorEq,Option.some.injEq] at h<;>subst h
  · exact wpAny_pure (q _ s (Keeps.rfl' s) rfl)
  · exact wpAny_pure (q _ s (Keeps.rfl' s) rfl)
  · exact wpAny_mkInt (q _ _ (keepsTok s _) ⟨_,rfl⟩)
  · exact wpAny_mkText (q _ _ (keepsTok s _) ⟨_,rfl⟩)
end
end
section
structure FrameR (e:Env) (h:Heap) (M W:List Addr) (σ:List (Str × D)) (O:List Str:=[]):Prop where
  env:EnvR e h W e.scope.names σ
  ns:∃ m,h.Ns e.locals m
  apart:∀ n n' c,n∉O→e.kindOf n=some .cell→e.cells.lookup n=some c→e.cells.lookup n'=some c→n'=n
  own:e.locals∈M∧∀ n c,n∉O→e.kindOf n=some .cell→e.cells.lookup n=some c→c∈M
  sub:∀ a∈M,a∈W
  wok:WOk h W
theorem FrameR.cell {e:Env} {h:Heap} {M W:List Addr} {σ:List (Str × D)} {O:List Str} (F:FrameR e h M W σ O):∀ n c,e.cells.lookup n=some c→∃ v,h.IsCell c v:=F.env.ce
theorem ns_fun {h:Heap} {a:Addr} {m m':Str→Option Value} (x:h.Ns a m) (y:h.Ns a m') (n:Str):m n=m' n:=by
  refine el34 x fun o es ep g hd _ f=>?_
  refine el34 y fun o' es' ep' g' hd' _ f'=>?_
  rw [g] at g';cases g'
  rw [hd] at hd';injection hd' with e1 _
  rw [← f n,← f' n,e1]
theorem cell_ne_ns {h:Heap} {a c:Addr} {m:Str→Option Value} {v:Option Value} (x:h.Ns a m) (y:h.IsCell c v):c≠a:=fun e=>by
  subst e
  refine el33 x fun o es ep g hd _=>?_
  refine el12 y fun o' g' hd'=>?_
  rw [g] at g';cases g'
  rw [hd] at hd';cases hd'
theorem sameBut_hkw {a:Addr} {h h':Heap} {M:List Addr} (x:Heap.SameBut a h h') (m:a∈M):HKW M h h':=fun b o hb e=>x.extBut b o (fun q=>hb (q▸m)) e
theorem wok_sameBut {a:Addr} {h h':Heap} {W:List Addr} {o:Obj} (x:Heap.SameBut a h h') (hw:WOk h W) (ha:h'.get? a=some o):WOk h' W:=fun b m=>by
  by_cases q:b=a
  · subst q;exact ⟨o,ha⟩
  · obtain ⟨o',e⟩:=hw b m;exact ⟨o',x.extBut b o' q e⟩
section
variable {w:World} {A:Around} {s:Shared} {W M:List Addr} {e:Env} {σ:List (Str × D)} {O:List Str}
theorem store_local {n:Str} {v:Value} {d:D} {Q:Unit→Shared→Prop} {E:Value→Shared→Prop} (F:FrameR e s.heap M W σ O) (hk:e.kindOf n=some .local) (r:rep s.heap W d v)
    (q:∀ h' tk,HKW M s.heap h'→FrameR e h' M W ((n,d)::σ) O→Q () { s with heap:=h',toks:=tk }):wpAny (model pw w) A (storeName e n v) Q E s:=by
  obtain ⟨m,hm⟩:=F.ns
  have hL:∀ a,a=e.locals→a∈W:=fun a q=>q▸F.sub _ F.own.1
  refine wpAny_storeName_local hk hm (fun h' hn' hs'=>?_) (by rw [F.env.kind];rfl)
  have hk1:HKW M s.heap h':=sameBut_hkw hs' F.own.1
  have rk:∀ d v,rep s.heap W d v→rep h' W d v:=fun d v=>rep_keepW hk1 F.sub d v
  refine q h' _ hk1 ⟨⟨F.env.kind,F.env.glob,F.env.blt,F.env.gl,F.env.cf,fun n' c hc=>?_,fun n' d' hd' hl'=>?_⟩,⟨_,hn'⟩,F.apart,F.own,F.sub,?_⟩
  · obtain ⟨v0,hc2⟩:=F.cell n' c hc
    exact ⟨v0,hc2.sameBut hs' (cell_ne_ns hm hc2)⟩
  · rw [List.lookup_cons] at hd'
    cases hb:n'==n with
    | true =>
      rw [hb] at hd'
      cases hd'
      have hb:=eq_of_beq hb
      subst hb
      exact ⟨v,.inl ⟨hk,_,hn',by simp⟩,rk _ _ r⟩
    | false =>
      rw [hb] at hd'
      have hne:n'≠n:=fun q=>by rw [q] at hb;simp at hb
      refine el12 (F.env.loc n' d' hd' hl') fun u hu ru=>?_
      refine ⟨u,?_,rk _ _ ru⟩
      rcases hu with ⟨k1,m1,ns1,h1⟩|⟨k1,c,hc,hx⟩
      · exact .inl ⟨k1,_,hn',by
          show (if n'=n then some v else m n')=some u
          rw [if_neg hne,ns_fun hm ns1 n',h1]⟩
      · exact .inr ⟨k1,c,hc,hx.sameBut hs' (cell_ne_ns hm hx)⟩
  · refine el32 hn' fun o es ep g _=>?_
    exact wok_sameBut hs' F.wok g
theorem store_cell {n:Str} {v:Value} {d:D} {Q:Unit→Shared→Prop} {E:Value→Shared→Prop} (F:FrameR e s.heap M W σ O) (hO:n∉O) (hk:e.kindOf n=some .cell) (r:rep s.heap W d v)
    (q:∀ h' tk,HKW M s.heap h'→FrameR e h' M W ((n,d)::σ) O→Q () { s with heap:=h',toks:=tk }):wpAny (model pw w) A (storeName e n v) Q E s:=by
  obtain ⟨m,hm⟩:=F.ns
  obtain ⟨c,hc,_⟩:=F.env.cf n (by rw [show e.scope.names.lookup n=some .cell from hk];rfl)
  obtain ⟨v0,hx⟩:=F.cell n c hc
  have hcM:=F.own.2 n c hO hk hc
  refine wpAny_storeName_cell F.env.kind hk hc hx fun h' hx' hs'=>?_
  have hk1:HKW M s.heap h':=sameBut_hkw hs' hcM
  have rk:∀ d v,rep s.heap W d v→rep h' W d v:=fun d v=>rep_keepW hk1 F.sub d v
  have hm':h'.Ns e.locals m:=hm.sameBut hs' (Ne.symm (cell_ne_ns hm hx))
  have other:∀ n' c' v',n'≠n→e.cells.lookup n'=some c'→s.heap.IsCell c' v'→h'.IsCell c' v':=fun n' c' v' hne hl hx' =>
    hx'.sameBut hs' fun q=>hne (F.apart n n' c hO hk hc (q▸hl))
  refine q h' _ hk1 ⟨⟨F.env.kind,F.env.glob,F.env.blt,F.env.gl,F.env.cf,fun n' c' hc'=>?_,fun n' d' hd' hl'=>?_⟩,⟨m,hm'⟩,F.apart,F.own,F.sub,?_⟩
  · by_cases hne:n'=n
    · subst hne;rw [hc] at hc';cases hc';exact ⟨_,hx'⟩
    · obtain ⟨v',hc2⟩:=F.cell n' c' hc'
      exact ⟨v',other n' c' v' hne hc' hc2⟩
  · rw [List.lookup_cons] at hd'
    cases hb:n'==n with
    | true =>
      rw [hb] at hd'
      cases hd'
      have hb:=eq_of_beq hb
      subst hb
      exact ⟨v,.inr ⟨.inl hk,c,hc,hx'⟩,rk _ _ r⟩
    | false =>
      rw [hb] at hd'
      have hne:n'≠n:=fun q=>by rw [q] at hb;simp at hb
      refine el12 (F.env.loc n' d' hd' hl') fun u hu ru=>?_
      refine ⟨u,?_,rk _ _ ru⟩
      rcases hu with ⟨k1,m1,ns1,h1⟩|⟨k1,c',hc',hx'⟩
      · exact .inl ⟨k1,m,hm',by rw [ns_fun hm ns1 n',h1]⟩
      · exact .inr ⟨k1,c',hc',other n' c' _ hne hc' hx'⟩
  · refine el12 hx' fun o g _=>?_
    exact wok_sameBut hs' F.wok g
end
end
section
noncomputable def KeepsW (M:List Addr) (s s':Shared):Prop:=∃ h' tk,s'={ s with heap:=h',toks:=tk }∧HKW M s.heap h'
theorem KeepsW.rfl' (M:List Addr) (s:Shared):KeepsW M s s:=⟨s.heap,s.toks,rfl,fun _ _ _ e=>e⟩
theorem KeepsW.tr {M:List Addr} {s s' s'':Shared} (k:KeepsW M s s') (k':KeepsW M s' s''):KeepsW M s s'':=by
  refine el22 k fun h' tk q2q hk=>?_;subst q2q
  refine el22 k' fun h'' tk' q2q hk'=>?_;subst q2q
  exact ⟨h'',tk',rfl,fun b o n e=>hk' b o n (hk b o n e)⟩
theorem KeepsW.of {M:List Addr} {s s':Shared} (k:Keeps s s'):KeepsW M s s':=by
  refine el22 k fun h' tk q2q hk=>?_;subst q2q
  exact ⟨h',tk,rfl,fun b o _ e=>hk b o e⟩
theorem KeepsW.heap {M:List Addr} {s s':Shared} (k:KeepsW M s s'):HKW M s.heap s'.heap:=by obtain ⟨h',tk,rfl,hk⟩:=k;exact hk
theorem H1_lt {P:Params} {b:Addr} {o:Obj} (h:(H1 P).get? b=some o):b<302:=by
  have:=Heap.lt_size h
  unfold H1 at this
  rwa [absHeap_size] at this
structure StR (w:World) (e:Env) (s:Shared) (M W:List Addr) (σ:List (Str × D)) (O:List Str:=[]):Prop where
  fr:FrameR e s.heap M W σ O
  base:YP w s.heap
  hi:∀ a∈M,302≤a
theorem FrameR.keep {e:Env} {h h':Heap} {M W:List Addr} {σ:List (Str × D)} {O:List Str} (F:FrameR e h M W σ O) (hk:HK h h'):FrameR e h' M W σ O :=
  ⟨F.env.keep hk,let ⟨m,x⟩:=F.ns;⟨m,x.keeps hk⟩,F.apart,F.own,F.sub,F.wok.keep hk⟩
theorem baseW {w:World} {h h':Heap} {M:List Addr} (Y:YP w h) (hi:∀ a∈M,302≤a) (hk:HKW M h h'):YP w h':=fun b o g=>hk b o (fun m=>Nat.lt_irrefl _ (Nat.lt_of_lt_of_le (H1_lt g) (hi b m))) (Y b o g)
theorem StR.keep {w:World} {e:Env} {s s':Shared} {M W:List Addr} {σ:List (Str × D)} {O:List Str} (S:StR w e s M W σ O) (k:Keeps s s'):StR w e s' M W σ O :=
  ⟨S.fr.keep (Keeps.heap k),fun b o g=>Keeps.heap k b o (S.base b o g),S.hi⟩
inductive FlD where
  | next
  | ret (d:D)
noncomputable def flRep (h:Heap) (W:List Addr):FlD→Flow→Prop
  | .next,f=>f=.next
  | .ret d,f=>∃ v,f=.ret v∧rep h W d v
noncomputable def StOk (w:World) (A:Around) (e:Env) (M W:List Addr) (m:Sem Flow) (s:Shared) (fl:FlD) (σ:List (Str × D)):Prop :=
  ∀ (Q:Flow→Shared→Prop) (E:Value→Shared→Prop),(∀ f s',KeepsW M s s'→StR w e s' M W σ→flRep s'.heap W fl f→Q f s')→wpAny (model pw w) A m Q E s
section
variable {w:World} {A:Around} {s:Shared} {W M:List Addr} {e:Env} {σ σ':List (Str × D)}
theorem st_nil (S:StR w e s M W σ):StOk w A e M W (execs [] e) s .next σ:=fun Q E q=>wpAny_execs_nil (q _ s (KeepsW.rfl' M s) S rfl)
theorem st_cons_next {st:Stmt} {rest:List Stmt} {fl:FlD} {σ'':List (Str × D)} (h:StOk w A e M W (exec st e) s .next σ') (hr:∀ s',KeepsW M s s'→StR w e s' M W σ'→StOk w A e M W (execs rest e) s' fl σ'') :
    StOk w A e M W (execs (st::rest) e) s fl σ'':=fun Q E q=>by
  refine wpAny_execs_cons (h _ E fun f s1 k1 S1 r1=>?_)
  have r1:f=.next:=r1
  subst r1
  exact hr s1 k1 S1 Q E fun f s2 k2 S2 r2=>q f s2 (KeepsW.tr k1 k2) S2 r2
theorem st_cons_ret {st:Stmt} {rest:List Stmt} {d:D} (h:StOk w A e M W (exec st e) s (.ret d) σ'):StOk w A e M W (execs (st::rest) e) s (.ret d) σ':=fun Q E q=>by
  refine wpAny_execs_cons (h _ E fun f s1 k1 S1 r1=>?_)
  refine el12 r1 fun v q1q r=>?_;subst q1q
  exact q _ s1 k1 S1 ⟨v,rfl,r⟩
theorem st_Return {x:PySem.Expr} {pos:Pos} {d:D} (S:StR w e s M W σ) (h:EvOk w A (eval x e) s W d):StOk w A e M W (exec (.Return (some x) pos) e) s (.ret d) σ:=fun Q E q =>
  wpAny_Return_some (h _ E fun v s1 k1 r1=>q _ s1 (KeepsW.of k1) (S.keep k1) ⟨v,rfl,r1⟩)
theorem st_If {t:PySem.Expr} {body orelse:List Stmt} {pos:Pos} {b:Bool} {fl:FlD} (S:StR w e s M W σ) (ht:TrOk w A (isTrue t e (eval t e)) s b) (h:∀ s',Keeps s s'→StR w e s' M W σ→StOk w A e M W (execs (if b then body else orelse) e) s' fl σ') :
    StOk w A e M W (exec (.If t body orelse pos) e) s fl σ':=fun Q E q=>by
  refine wpAny_If (ht _ E fun s1 k1=>?_)
  have:=h s1 k1 (S.keep k1) Q E fun f s2 k2 S2 r2=>q f s2 (KeepsW.tr (KeepsW.of k1) k2) S2 r2
  cases b<;>exact this
noncomputable def mineK (e:Env) (n:Str):Bool:=e.kindOf n==some .local||e.kindOf n==some .cell
theorem ok_store {O:List Str} {n:Str} {v:Value} {d:D} {Q:Unit→Shared→Prop} {E:Value→Shared→Prop} (S:StR w e s M W σ O) (hO:n∉O) (hk:mineK e n=true) (r:rep s.heap W d v)
    (q:∀ s',KeepsW M s s'→StR w e s' M W ((n,d)::σ) O→Q () s'):wpAny (model pw w) A (storeName e n v) Q E s:=by
  unfold mineK at hk
  rcases Bool.or_eq_true_iff.mp hk with hk|hk
  · exact store_local S.fr (eq_of_beq hk) r fun h' tk k F=>q _ ⟨h',tk,rfl,k⟩ ⟨F,baseW S.base S.hi k,S.hi⟩
  · exact store_cell S.fr hO (eq_of_beq hk) r fun h' tk k F=>q _ ⟨h',tk,rfl,k⟩ ⟨F,baseW S.base S.hi k,S.hi⟩
theorem st_Assign {n:Str} {p pos:Pos} {x:PySem.Expr} {d:D} (S:StR w e s M W σ) (hk:mineK e n=true) (hs:swapsWith x (some (.Name n p)) pos.line e=pure false) (h:EvOk w A (eval x e) s W d) :
    StOk w A e M W (exec (.Assign [.Name n p] x pos) e) s .next ((n,d)::σ):=fun Q E q =>
  wpAny_Assign_Name (hs:=hs) (h _ E fun v s1 k1 r1=>ok_store (S.keep k1) (List.not_mem_nil) hk r1 fun s2 k2 S2=>q _ s2 (KeepsW.tr (KeepsW.of k1) k2) S2 rfl)
end
end
section
theorem bindL_out {k:Str→Option NameKind}:∀ (r:List (Str × Value)) (m:Str→Option Value) (n:Str),(∀ x∈r,x.1≠n)→bindL k r m n=m n
  | [],m,n,_=>rfl
  | (n',v)::r,m,n,h=>by
    unfold bindL
    rw [bindL_out r _ n fun x hx=>h x (List.mem_cons_of_mem _ hx)]
    have:=h (n',v) List.mem_cons_self
    split
    · exact if_neg fun q=>this q.symm
    · rfl
theorem bindC_out {k:Str→Option NameKind}:∀ (r:List (Str × Value)) (m:Str→Option Value) (n:Str),(∀ x∈r,x.1≠n)→bindC k r m n=m n
  | [],m,n,_=>rfl
  | (n',v)::r,m,n,h=>by
    unfold bindC
    rw [bindC_out r _ n fun x hx=>h x (List.mem_cons_of_mem _ hx)]
    have:=h (n',v) List.mem_cons_self
    split
    · rfl
    · exact if_neg fun q=>this q.symm
theorem bindL_in {k:Str→Option NameKind}:∀ (r:List (Str × Value)) (m:Str→Option Value) (n:Str) (v:Value),(n,v)∈r→(r.map (·.1)).Nodup→k n=some .local→bindL k r m n=some v
  | (n',v')::r,m,n,v,h,nd,hk=>by
    simp only [List.map_cons,List.nodup_cons] at nd
    unfold bindL
    rcases List.mem_cons.1 h with h|h
    · cases h
      rw [bindL_out r _ n' fun x hx q=>nd.1 (by rw [← q];exact List.mem_map_of_mem hx),if_pos hk]
      simp
    · exact bindL_in r _ n v h nd.2 hk
theorem bindC_in {k:Str→Option NameKind}:∀ (r:List (Str × Value)) (m:Str→Option Value) (n:Str) (v:Value),(n,v)∈r→(r.map (·.1)).Nodup→k n=some .cell→bindC k r m n=some v
  | (n',v')::r,m,n,v,h,nd,hk=>by
    simp only [List.map_cons,List.nodup_cons] at nd
    unfold bindC
    rcases List.mem_cons.1 h with h|h
    · cases h
      rw [bindC_out r _ n' fun x hx q=>nd.1 (by rw [← q];exact List.mem_map_of_mem hx),if_neg (by rw [hk];simp)]
      simp
    · exact bindC_in r _ n v h nd.2 hk
theorem reps_zip {h:Heap} {W:List Addr}:∀ (ns:List Str) (ds:List D) (vs:List Value) (n:Str) (d:D),reps h W ds vs→(ns.zip ds).lookup n=some d→∃ v,(n,v)∈ns.zip vs∧rep h W d v
  | [],_,_,n,d,_,e=>by simp at e
  | _::_,[],_,n,d,_,e=>by simp at e
  | m::ns,d0::ds,vs,n,d,r,e=>by
    simp only [reps] at r
    refine el23 r fun v vs q2q r1 r2=>?_;subst q2q
    simp only [List.zip_cons_cons,List.lookup_cons] at e ⊢
    cases hb:n==m with
    | true =>
      rw [hb] at e
      cases e
      rw [eq_of_beq hb]
      exact ⟨v,List.mem_cons_self,r1⟩
    | false =>
      rw [hb] at e
      refine el12 (reps_zip ns ds vs n d r2 e) fun u hu ru=>?_
      exact ⟨u,List.mem_cons_of_mem _ hu,ru⟩
theorem reps_freshs {h:Heap} {W:List Addr}:∀ (M:List Addr) (l:List D) (xs:List Value),(∀ a∈M,h.get? a=none)→reps h W l xs→reps h (M++W) l xs
  | [],l,xs,_,r=>r
  | a::M,l,xs,hm,r=>reps_fresh (hm a List.mem_cons_self) _ _ (reps_freshs M l xs (fun b hb=>hm b (List.mem_cons_of_mem _ hb)) r)
end
section
theorem cellsFrom_keep:∀ (names:List (Str × NameKind)) (k:Nat) (acc:List (Str × Addr)) (n:Str),(acc.lookup n).isSome=true→((cellsFrom k names acc).lookup n).isSome=true
  | [],_,_,_,h=>h
  | (m,kd)::r,k,acc,n,h=>by
    unfold cellsFrom
    split
    · refine cellsFrom_keep r _ _ n ?_
      rw [List.lookup_cons]
      split
      · rfl
      · exact h
    · exact cellsFrom_keep r _ _ n h
theorem cellsFrom_has:∀ (names:List (Str × NameKind)) (k:Nat) (acc:List (Str × Addr)) (n:Str),names.lookup n=some .cell→((cellsFrom k names acc).lookup n).isSome=true
  | [],_,_,_,h=>by cases h
  | (m,kd)::r,k,acc,n,h=>by
    rw [List.lookup_cons] at h
    unfold cellsFrom
    cases hb:n==m with
    | true =>
      rw [hb] at h
      cases h
      rw [if_pos (by rfl)]
      exact cellsFrom_keep r _ _ n (by rw [List.lookup_cons,hb];rfl)
    | false =>
      rw [hb] at h
      split
      · exact cellsFrom_has r _ _ n h
      · exact cellsFrom_has r _ _ n h
noncomputable def ownM (e:Env):List Addr:=e.locals::e.cells.filterMap fun x=>if e.cells.lookup x.1==some x.2 then some x.2 else none
structure DefR0 (w:World) (a:Addr) (fd:FuncData) (ps:List Str) (body:List Stmt):Prop where
  lt:a<302
  get:∃ c dd sl,(tr_f w.params).get a=some ⟨c,dd,.func fd,sl⟩
  body:fd.body=.stmts body
  clo:fd.closure=[]
  glob:fd.globals=mainGlobals
  blt:fd.builtins=builtinsNs
  kind:fd.scope.kind=.function
  co:fd.scope.isCoroutine=false
  gen:fd.scope.isGenerator=false
  nofree:fd.scope.names.all (fun x=>x.2 != .free)=true
  code:∀ h,YP w h→h.CodeRec fd.code fd.qualname
  pk:∀ n∈ps,fd.scope.names.lookup n=some .local∨fd.scope.names.lookup n=some .cell
  nd:ps.Nodup
structure DefR (w:World) (a:Addr) (fd:FuncData) (ps:List Str) (body:List Stmt):Prop extends DefR0 w a fd ps body where
  bind:∀ vs:List Value,vs.length=ps.length→bindArgs fd ⟨vs,[]⟩=pure (ps.zip vs)
noncomputable def CallOk (w:World) (A:Around) (f:Value) (ds:List D) (d:D):Prop:=∀ (s:Shared) (W:List Addr) (vs:List Value),YP w s.heap→WOk s.heap W→reps s.heap W ds vs→EvOk w A (call f vs) s W d
theorem size_ge {w:World} {h:Heap} (Y:YP w h):302≤h.objs.size:=Heap.lt_size (base_get (a:=301) (o:=objAt w.params 301) Y (by decide) (by kernel_rfl!) (by kernel_rfl!))
theorem enter_def {w:World} {A:Around} {a:Addr} {fd:FuncData} {ps:List Str} {body:List Stmt} {ds:List D} {s:Shared} {W:List Addr} {vs:List Value} {args:Args} {Q:Value→Shared→Prop} {E:Value→Shared→Prop} (F:DefR0 w a fd ps body) (hd:A.depth<recursionLimit) (hl:ds.length=ps.length)
    (hbind:BindsTo s fd args (ps.zip vs)) (Y:YP w s.heap) (hW:WOk s.heap W) (r:reps s.heap W ds vs)
    (h:∀ (s':Shared) (L:Addr) (M:List Addr),Keeps s s'→(∀ b∈M,s.heap.get? b=none)→StR w (callEnvC fd L a) s' M (M++W) (ps.zip ds)→∀ E':Value→Shared→Prop,wpAny (model pw w) (A.deeper (callEnvC fd L a)) (execs body (callEnvC fd L a)) (fun f s2=>Q (match f with | .ret v=>v|_=>.none) s2) E' s') :
    wpAny (model pw w) A (call (.ref a) args.pos args.kw) Q E s:=by
  refine el31 F.get fun c dd sl hget=>?_
  have ho:=base_get Y F.lt hget rfl
  have hlen:=reps_len _ _ r
  have hmap:(ps.zip vs).map (·.1)=ps:=List.map_fst_zip (by omega)
  refine wpAny_call (codeAny_call_function hd ho rfl F.co F.gen F.body (F.code _ Y) (hbind _ _ _ _ ?_))
  rw [F.clo]
  refine (wpAny_newFunctionEnv_cells F.kind (fun x hx=>?_) fun env he s1 X=>?_)
  · have hx1:x.1∈ps:=by rw [← hmap];exact List.mem_map_of_mem hx
    rcases F.pk x.1 hx1 with h1|h1
    · exact .inl h1
    · exact .inr ⟨h1,cellsFrom_has _ _ _ _ h1⟩
  · subst he
    refine ⟨(noLimit Y).keeps X.toInCall.keep,codeAny_func ?_⟩
    refine el22 X.done fun h1 tk q2q hk=>?_;subst q2q
    have hL:s.heap.objs.size≤(callEnvC fd s.heap.objs.size a).locals:=X.toInCall.fresh
    have hkind:(callEnvC fd s.heap.objs.size a).scope.kind=.function:=F.kind
    have fresh:∀ b,s.heap.objs.size≤b→s.heap.get? b=none:=fun b hb=>by
      cases e:s.heap.get? b with
      | none=>rfl
      | some o=>exact absurd (Heap.lt_size e) (Nat.not_lt.mpr hb)
    have hMge:∀ b∈ownM (callEnvC fd s.heap.objs.size a),s.heap.objs.size≤b:=fun b hb=>by
      rcases List.mem_cons.1 hb with q|q
      · rw [q];exact hL
      · refine el12 (List.mem_filterMap.1 q) fun x hx hq=>?_
        split at hq
        · cases hq
          exact Nat.le_trans hL (Nat.le_of_lt (X.above x.1 x.2 hx))
        · exact nope hq
    have kp:Keeps s { s with heap:=h1,toks:=tk }:=⟨h1,tk,rfl,hk⟩
    have r1:=reps_keep hk _ _ (reps_freshs _ _ _ (fun b hb=>fresh b (hMge b hb)) r)
    have S:StR w (callEnvC fd s.heap.objs.size a) { s with heap:=h1,toks:=tk } (ownM (callEnvC fd s.heap.objs.size a)) ((ownM (callEnvC fd s.heap.objs.size a))++W) (ps.zip ds):=by
      refine ⟨⟨⟨hkind,F.glob,F.blt,fun n hn=>hn,fun n hn=>?_,fun n c hc=>⟨_,X.cell n c hc⟩,fun n d' hd' _=>?_⟩,⟨_,X.toInCall.ns⟩,fun n n' c _ _ h1 h2=>name_of_addr X.apart (mem_of_lookup h2) (mem_of_lookup h1),⟨List.mem_cons_self,fun n c _ hn hc=>List.mem_cons_of_mem _ (List.mem_filterMap.2 ⟨(n,c),mem_of_lookup hc,if_pos (by rw [hc];simp)⟩)⟩,fun b hb=>List.mem_append_left _ hb,?_⟩,fun b o g=>hk b o (Y b o g),fun b hb=>Nat.le_trans (size_ge Y) (hMge b hb)⟩
      · have hn1:isCF (fd.scope.names.lookup n)=true:=hn
        cases hq:fd.scope.names.lookup n with
        | none=>rw [hq] at hn1;cases hn1
        | some kd =>
          rw [hq] at hn1
          have hne:kd≠.free:=by
            have:=List.all_eq_true.1 F.nofree _ (mem_of_lookup hq)
            simpa using this
          have hkd:kd=.cell:=by cases kd<;>first|rfl|exact absurd rfl hne|cases hn1
          subst hkd
          obtain ⟨cc,hcc⟩:=Option.isSome_iff_exists.mp (cellsFrom_has fd.scope.names (s.heap.objs.size+1) [] n hq)
          exact ⟨cc,hcc,.inl hq⟩
      · refine el12 (reps_zip ps ds vs n d' r1 hd') fun v hv rv=>?_
        refine ⟨v,?_,rv⟩
        have hn:n∈ps:=by rw [← hmap];exact List.mem_map_of_mem hv
        have nd:((ps.zip vs).map (·.1)).Nodup:=by rw [hmap];exact F.nd
        rcases F.pk n hn with h2|h2
        · exact .inl ⟨h2,_,X.toInCall.ns,bindL_in _ _ _ _ hv nd h2⟩
        · have hs:=cellsFrom_has fd.scope.names (s.heap.objs.size+1) [] n h2
          obtain ⟨cc,hcc⟩:=Option.isSome_iff_exists.mp hs
          have hx:=X.cell n cc hcc
          rw [bindC_in _ _ _ _ hv nd h2] at hx
          exact .inr ⟨.inl h2,cc,hcc,hx⟩
      · intro b hb
        rcases List.mem_append.1 hb with q|q
        · rcases List.mem_cons.1 q with q|q
          · refine el32 X.toInCall.ns fun o es ep g _=>?_
            exact ⟨o,q▸g⟩
          · refine el12 (List.mem_filterMap.1 q) fun x hx hq=>?_
            split at hq
            · rename_i hc
              cases hq
              refine el12 (X.cell x.1 x.2 (eq_of_beq hc)) fun o g _=>?_
              exact ⟨o,g⟩
            · exact nope hq
        · exact hW.keep hk b q
    exact h _ s.heap.objs.size _ kp (fun b hb=>fresh b (hMge b hb)) S _
theorem ok_defA {w:World} {A:Around} {a:Addr} {fd:FuncData} {ps:List Str} {body:List Stmt} {ds:List D} {d:D} {s:Shared} {W:List Addr} {vs:List Value} {args:Args} (F:DefR0 w a fd ps body) (hd:A.depth<recursionLimit) (hl:ds.length=ps.length)
    (hbind:BindsTo s fd args (ps.zip vs)) (Y:YP w s.heap) (hW:WOk s.heap W) (r:reps s.heap W ds vs)
    (h:∀ (s':Shared) (L:Addr) (M W' W0:List Addr),StR w (callEnvC fd L a) s' M W' (ps.zip ds)→(∀ b∈W0,b∈W')→∀ (Q:Flow→Shared→Prop) (E:Value→Shared→Prop),(∀ f s2,KeepsW M s' s2→flRep s2.heap W0 (.ret d) f→Q f s2)→wpAny (model pw w) (A.deeper (callEnvC fd L a)) (execs body (callEnvC fd L a)) Q E s') :
    EvOk w A (call (.ref a) args.pos args.kw) s W d:=fun Q E q=>by
  refine enter_def F hd hl hbind Y hW r fun s' L M k fr S E'=>h s' L M (M++W) W S (fun b hb=>List.mem_append_right _ hb) _ _ fun f s2 k2 r2=>?_
  refine el12 r2 fun v q1q rv=>?_;subst q1q
  refine q v s2 ?_ rv
  refine el22 k fun h1 tk1 q2q hk=>?_;subst q2q
  refine el22 k2 fun h2 tk2 q2q hk2=>?_;subst q2q
  exact ⟨h2,tk2,rfl,fun b o e=>hk2 b o (fun m=>by rw [fr b m] at e;cases e) (hk b o e)⟩
theorem ok_def {w:World} {A:Around} {a:Addr} {fd:FuncData} {ps:List Str} {body:List Stmt} {ds:List D} {d:D} (F:DefR w a fd ps body) (hd:A.depth<recursionLimit) (hl:ds.length=ps.length)
    (h:∀ (s':Shared) (L:Addr) (M W' W0:List Addr),StR w (callEnvC fd L a) s' M W' (ps.zip ds)→(∀ b∈W0,b∈W')→∀ (Q:Flow→Shared→Prop) (E:Value→Shared→Prop),(∀ f s2,KeepsW M s' s2→flRep s2.heap W0 (.ret d) f→Q f s2)→wpAny (model pw w) (A.deeper (callEnvC fd L a)) (execs body (callEnvC fd L a)) Q E s') :
    CallOk w A (.ref a) ds d:=fun s W vs Y hW r=>ok_defA (args:=⟨vs,[]⟩) F.toDefR0 hd hl (.of_eq (F.bind vs ((reps_len _ _ r).trans hl))) Y hW r h
end
section
noncomputable def fdAt (P:Params) (a:Addr):FuncData:=match objAt P a with
  | ⟨_,_,.func fd,_⟩=>fd
  | _=>default
noncomputable def codeRef (P:Params) (a:Addr):Addr:=match (fdAt P a).code with
  | .ref c=>c
  | _=>0
noncomputable def codeVs (P:Params) (a:Addr):Array Value:=match objAt P (codeRef P a) with
  | ⟨_,_,.fields vs,_⟩=>vs
  | _=>#[]
theorem code_of {w:World} {a:Addr} (t:Tok) (h1:(fdAt w.params a).code=.ref (codeRef w.params a)) (h2:codeRef w.params a<302) (h3:(tr_f w.params).get (codeRef w.params a)=some (objAt w.params (codeRef w.params a)))
    (h4:(objAt w.params (codeRef w.params a)).data=.fields (codeVs w.params a)) (h5:(codeVs w.params a)[1]?=some (.str (fdAt w.params a).qualname t)):∀ h,YP w h→h.CodeRec (fdAt w.params a).code (fdAt w.params a).qualname:=fun h Y=>by
  refine ⟨_,_,_,t,h1,base_get Y h2 h3 ?_,h4,h5⟩
  generalize objAt w.params (codeRef w.params a)=o at h4
  obtain ⟨c,d,dat,sl⟩:=o
  dsimp only at h4
  subst h4
  rfl
noncomputable def tokOf (P:Params) (a:Addr):Tok:=match (codeVs P a)[1]? with
  | some (Value.str _ t)=>t
  | _=>0
noncomputable def pkB:Option NameKind→Bool
  | some .local=>true
  | some .cell=>true
  | _=>false
theorem pkB_e {o:Option NameKind} (h:pkB o=true):o=some .local∨o=some .cell:=by
  cases o with
  | none=>cases h
  | some k=>cases k<;>first|exact .inl rfl|exact .inr rfl|cases h
noncomputable def fdT (fd:FuncData):=(fd.body,fd.closure,fd.globals,fd.builtins,fd.scope.kind,fd.scope.isCoroutine,fd.scope.isGenerator)
theorem defr_mk {w:World} {a:Addr} {ps:List Str} {body:List Stmt} (t:Tok) (lt:a<302) (get:(tr_f w.params).get a=some ⟨.type "function",(objAt w.params a).dict,.func (fdAt w.params a),(objAt w.params a).slots⟩)
    (h:fdT (fdAt w.params a)=(.stmts body,[],mainGlobals,builtinsNs,.function,false,false))
    (hb:((fdAt w.params a).scope.names.all (fun x=>x.2 != .free)&&(ps.all (fun n=>pkB ((fdAt w.params a).scope.names.lookup n))&&Nat.ble (codeRef w.params a+1) 302))=true)
    (hc:((fdAt w.params a).code,(tr_f w.params).get (codeRef w.params a),(objAt w.params (codeRef w.params a)).data)=(.ref (codeRef w.params a),some (objAt w.params (codeRef w.params a)),.fields (codeVs w.params a)))
    (h5:(codeVs w.params a)[1]?=some (.str (fdAt w.params a).qualname t)) (bind:∀ vs:List Value,vs.length=ps.length→bindArgs (fdAt w.params a) ⟨vs,[]⟩=pure (ps.zip vs)) (nd:ps.Nodup):DefR w a (fdAt w.params a) ps body :=
  have B:=Bool.and_eq_true_iff.1 hb
  have B2:=Bool.and_eq_true_iff.1 B.2
  { lt,get:=⟨_,_,_,get⟩,body:=congrArg (·.1) h,clo:=congrArg (·.2.1) h,glob:=congrArg (·.2.2.1) h,blt:=congrArg (·.2.2.2.1) h,kind:=congrArg (·.2.2.2.2.1) h,co:=congrArg (·.2.2.2.2.2.1) h,gen:=congrArg (·.2.2.2.2.2.2) h,nofree:=B.1,
    code:=code_of t (congrArg (·.1) hc) (Nat.le_of_ble_eq_true B2.2) (congrArg (·.2.1) hc) (congrArg (·.2.2) hc) h5,bind,nd,pk:=fun n hn=>pkB_e (List.all_eq_true.1 B2.1 n hn) }
theorem defr_sign (w:World):DefR w 257 (fdAt w.params 257) ["draw"] (fdB (stm 66)) :=
  defr_mk (tokOf w.params 257) (by decide) (by kernel_rfl!) (by kernel_rfl!) (by kernel_rfl!) (by kernel_rfl!) (by kernel_rfl!) (len1 fun v0=>by kernel_rfl!) (by decide)
end
section
structure Cx where
  nm:List (Str × NameKind)
  σ:List (Str × D)
noncomputable abbrev CT:=Value→List D→Option D
structure Ops where
  ev:Cx→PySem.Expr→Option D
  tr:Cx→PySem.Expr→Option Bool
noncomputable def evL (f:PySem.Expr→Option D):List PySem.Expr→Option (List D)
  | []=>some []
  | x::xs=>if isStar x then none else (f x).bind fun d=>(evL f xs).bind fun ds=>some (d::ds)
noncomputable def evPart (f:PySem.Expr→Option D):Option PySem.Expr→Option (Option Int)
  | none=>some none
  | some x=>onD (f x) asInt fun i=>some (some i)
noncomputable def callD (ct:CT) (f:Value) (ds:List D):Option D:=((vBi f).bind fun id=>(biD id ds).or (foldD id ds)).or (ct f ds)
noncomputable def constD (k:PySem.Const):Option D:=match k with | .int i=>some (.int i) | .str x=>some (.str x) | .bool b=>some (.bool b) | .none=>some .none|_=>none
noncomputable def stepEv (P:Params) (ct:CT) (o:Ops) (c:Cx) (x:PySem.Expr):Option D:=match vw x with
  | .con k _ _=>constD k
  | .name n _=>if (n==("__debug__":Str))||(n==("__classdict__":Str)) then none else nameD P c.nm c.σ n
  | .bin l op r _=>(o.ev c l).bind fun x=>(o.ev c r).bind fun y=>bopD op x y
  | .uop op x _=>(o.ev c x).bind fun y=>uopD op y
  | .cmp l ops rs _=>onOne ops fun op=>onOne rs fun r=>if behindInMarks op r then none else (o.ev c l).bind fun x=>(o.ev c r).bind fun y=>(cmpB op x y).map .bool
  | .ife t x y _=>(o.tr c t).bind fun b=>o.ev c (if b then x else y)
  | .ls xs _=>(evL (o.ev c) xs).bind fun ds=>if Nat.ble ds.length 100000 then some (.list ds) else none
  | .tup xs _ _=>(evL (o.ev c) xs).bind fun ds=>if Nat.ble ds.length 100000 then some (.tup ds) else none
  | .sub v i _=>(o.ev c v).bind fun x=>onSl i (fun lo hi st _=>(evPart (o.ev c) lo).bind fun l=>(evPart (o.ev c) hi).bind fun h=>(evPart (o.ev c) st).bind fun t=>if isSeqD x then sliceD x l h t else none) ((o.ev c i).bind fun y=>if isSeqD x then idxD x y else none)
  | _=>none
end
section
noncomputable def SoundEv (w:World) (A:Around) (ev:Cx→PySem.Expr→Option D):Prop:=∀ (e:Env) (W:List Addr) (c:Cx) (s:Shared) (x:PySem.Expr) (d:D),YP w s.heap→WOk s.heap W→EnvR e s.heap W c.nm c.σ→ev c x=some d→EvOk w A (eval x e) s W d
noncomputable def SoundTr (w:World) (A:Around) (tr:Cx→PySem.Expr→Option Bool):Prop:=∀ (e:Env) (W:List Addr) (c:Cx) (s:Shared) (x:PySem.Expr) (b:Bool),YP w s.heap→WOk s.heap W→EnvR e s.heap W c.nm c.σ→tr c x=some b→TrOk w A (isTrue x e (eval x e)) s b
section
variable {w:World} {A:Around} {o:Ops} {ct:CT}
theorem each_of (S:SoundEv w A o.ev) {e:Env} {W:List Addr} {c:Cx} {s:Shared} (Y:YP w s.heap) (hW:WOk s.heap W) (R:EnvR e s.heap W c.nm c.σ):∀ (xs:List PySem.Expr) (ds:List D),evL (o.ev c) xs=some ds→EachOk w A e W s xs ds
  | [],ds,h=>Option.some.inj h▸.nil
  | x::xs,ds,h=>ifn_e h fun hs h=>bnd_e h fun d hd h=>bnd_e h fun ds' hds h=>Option.some.inj h▸.cons (Bool.eq_false_iff.2 hs) (fun s' k=>S e W c s' x d (fun b o g=>Keeps.heap k b o (Y b o g)) (hW.keep (Keeps.heap k)) (R.keep (Keeps.heap k)) hd) (each_of S Y hW R xs ds' hds)
theorem part_of (S:SoundEv w A o.ev) {e:Env} {W:List Addr} {c:Cx} {s:Shared} (Y:YP w s.heap) (hW:WOk s.heap W) (R:EnvR e s.heap W c.nm c.σ) {x:Option PySem.Expr} {p:Option Int} (h:evPart (o.ev c) x=some p) (s':Shared) (k:Keeps s s'):PartOk w A (valueOrNone (evalOpt x e)) s' p:=by
  cases x with
  | none=>exact Option.some.inj h▸part_none
  | some x=>exact onD_e asInt_g h fun i hi h=>Option.some.inj h▸part_some (S e W c s' x _ (fun b o g=>Keeps.heap k b o (Y b o g)) (hW.keep (Keeps.heap k)) (R.keep (Keeps.heap k)) hi)
theorem sound_step (hu:A.units+20<cLine) (S:SoundEv w A o.ev) (T:SoundTr w A o.tr):SoundEv w A (stepEv w.params ct o):=fun e W c s x d Y hW R h=>by
  have later:∀ x d,o.ev c x=some d→∀ s',Keeps s s'→EvOk w A (eval x e) s' W d:=fun x d hx s' k=>S e W c s' x d (fun b o g=>Keeps.heap k b o (Y b o g)) (hW.keep (Keeps.heap k)) (R.keep (Keeps.heap k)) hx
  have now:∀ x d,o.ev c x=some d→EvOk w A (eval x e) s W d:=fun x d hx=>later x d hx s (Keeps.rfl' s)
  have each:=fun xs ds=>each_of S Y hW R xs ds
  have part:=fun x p h=>@part_of _ _ _ S _ _ _ _ Y hW R x p h
  clear S
  rw [← vw_eq x]
  unfold stepEv at h
  generalize vw x=v at h
  cases v with
  | con k n p=>exact ok_Const h
  | name n p =>
    refine ifn_e h fun hn h=>?_
    rw [Bool.not_eq_true,Bool.or_eq_false_iff] at hn
    exact ok_Name Y R h hn.1 hn.2
  | bin l op r p=>exact bnd_e h fun x hx h=>bnd_e h fun y hy h=>ok_BinOp (now _ _ hx) (later _ _ hy) h
  | uop op y p=>exact bnd_e h fun x hx h=>ok_UnaryOp (now _ _ hx) h
  | cmp l ops rs p=>exact onOne_e ops h fun op h=>onOne_e rs h fun r h=>ifn_e h fun hm h=>bnd_e h fun x hx h=>bnd_e h fun y hy h=>map_e (P:=fun d=>EvOk w A (eval (.Compare l [op] [r] p) e) s W d) h fun b hb=>ok_Compare hu (Bool.eq_false_iff.2 hm) (now _ _ hx) (later _ _ hy) hb
  | ife t y z p=>exact bnd_e h fun b hb h=>ok_IfExp (T e W c s _ _ Y hW R hb) fun s' k=>later _ _ h s' k
  | ls xs p=>exact bnd_e h fun ds hds h=>if_e h fun hn h=>Option.some.inj h▸ok_List hW (each _ _ hds) hn
  | tup xs k p=>exact bnd_e h fun ds hds h=>if_e h fun hn h=>Option.some.inj h▸ok_Tuple hW (each _ _ hds) hn
  | sub v i p=>exact bnd_e h fun x hx h=>onSl_e (P:=fun i=>EvOk w A (eval (.Subscript v i p) e) s W d) h (fun lo hi st q h=>bnd_e h fun a hl h=>bnd_e h fun b hh h=>bnd_e h fun t ht h=>if_e h fun hs h=>ok_sub_slice hW (now _ _ hx) (part _ _ hl) (part _ _ hh) (part _ _ ht) hs h) fun h=>bnd_e h fun y hy h=>if_e h fun hs h=>ok_sub (now _ _ hx) (later _ _ hy) hs h
  | _=>exact nope h
end
end
section
noncomputable def allT (f:PySem.Expr→Option Bool) (op:BoolOp):List PySem.Expr→Option Bool
  | []=>some (op==.And)
  | x::xs=>(f x).bind fun b=>if bopUnit op b then some b else allT f op xs
noncomputable def trD (o:Ops) (c:Cx) (x:PySem.Expr):Option Bool:=if plainTest x then (o.ev c x).bind fun d=>truthD d else none
noncomputable def stepTr (o:Ops) (c:Cx) (x:PySem.Expr):Option Bool:=match vw x with
  | .uop op y _=>if isNot op then (o.tr c y).map (!·) else trD o c x
  | .bop op xs _=>allT (o.tr c) op xs
  | .cmp l ops rs _=>onOne ops fun op=>onOne rs fun r=>if behindInMarks op r then none else (o.ev c l).bind fun x=>(o.ev c r).bind fun y=>cmpB op x y
  | _=>trD o c x
noncomputable def evB (f:PySem.Expr→Option D) (op:BoolOp):List PySem.Expr→Option D
  | []=>none
  | x::xs=>match xs with
    | []=>f x
    | _=>(f x).bind fun d=>(truthD d).bind fun b=>if bopUnit op b then some d else evB f op xs
section
variable {w:World} {A:Around} {o:Ops} {ct:CT}
theorem allT_of (T:SoundTr w A o.tr) {e:Env} {W:List Addr} {c:Cx} {op:BoolOp}:∀ (xs:List PySem.Expr) (s:Shared) (b:Bool),YP w s.heap→WOk s.heap W→EnvR e s.heap W c.nm c.σ→allT (o.tr c) op xs=some b→TrOk w A (allTrue op xs e) s b
  | [],s,b,Y,hW,R,h=>Option.some.inj h▸tr_all_nil
  | x::xs,s,b,Y,hW,R,h=>bnd_e h fun b1 hb1 h=>by
    have hx:=T e W c s x b1 Y hW R hb1
    by_cases hu:bopUnit op b1=true
    · rw [if_pos hu] at h
      cases h
      have:=tr_all_cons (xs:=xs) (c:=b) hx (fun hn=>by rw [hu] at hn;cases hn)
      rwa [if_pos hu] at this
    · rw [if_neg hu] at h
      have:=tr_all_cons (xs:=xs) (c:=b) hx (fun hn s' k=>allT_of T xs s' b (fun b o g=>Keeps.heap k b o (Y b o g)) (hW.keep (Keeps.heap k)) (R.keep (Keeps.heap k)) h)
      rwa [if_neg hu] at this
theorem sound_tr (hu:A.units+20<cLine) (S:SoundEv w A o.ev) (T:SoundTr w A o.tr):SoundTr w A (stepTr o):=fun e W c s x b Y hW R h=>by
  have later:∀ x d,o.ev c x=some d→∀ s',Keeps s s'→EvOk w A (eval x e) s' W d:=fun x d hx s' k=>S e W c s' x d (fun b o g=>Keeps.heap k b o (Y b o g)) (hW.keep (Keeps.heap k)) (R.keep (Keeps.heap k)) hx
  have now:∀ x d,o.ev c x=some d→EvOk w A (eval x e) s W d:=fun x d hx=>later x d hx s (Keeps.rfl' s)
  have dflt:trD o c x=some b→TrOk w A (isTrue x e (eval x e)) s b:=fun h=>if_e h fun hp h=>bnd_e h fun d hd h=>tr_plain hp (now _ _ hd) h
  have hx:=vw_eq x
  unfold stepTr at h
  generalize vw x=v at h hx
  cases v with
  | uop op y p =>
    by_cases hn:isNot op=true
    · rw [← hx,isNot_e hn]
      rw [isNot_e hn] at h
      exact map_e (P:=fun b=>TrOk w A (isTrue (.UnaryOp .Not y p) e (eval (.UnaryOp .Not y p) e)) s b) (show (o.tr c y).map (!·)=some b from h) fun b' hb'=>tr_Not (T e W c s _ _ Y hW R hb')
    · exact dflt ((if_neg hn).symm.trans h)
  | bop op xs p=>exact hx▸tr_BoolOp (allT_of T _ s b Y hW R h)
  | cmp l ops rs p=>exact hx▸onOne_e ops h fun op h=>onOne_e rs h fun r h=>ifn_e h fun hm h=>bnd_e h fun x hx h=>bnd_e h fun y hy h=>tr_Compare hu (Bool.eq_false_iff.2 hm) (now _ _ hx) (later _ _ hy) h
  | _=>exact dflt h
theorem evB_of (S:SoundEv w A o.ev) {e:Env} {W:List Addr} {c:Cx} {op:BoolOp} {pos:Pos}:∀ (xs:List PySem.Expr) (s:Shared) (d:D),YP w s.heap→WOk s.heap W→EnvR e s.heap W c.nm c.σ→evB (o.ev c) op xs=some d→EvOk w A (boolOp pos op (evalEach xs e)) s W d
  | [],s,d,Y,hW,R,h=>nope h
  | [x],s,d,Y,hW,R,h=>ok_bool_one (S e W c s x d Y hW R h)
  | x::y::xs,s,d,Y,hW,R,h=>bnd_e h fun d1 hd1 h=>bnd_e h fun b hb h=>by
    have hx:=S e W c s x d1 Y hW R hd1
    by_cases hu:bopUnit op b=true
    · rw [if_pos hu] at h
      cases h
      have:=ok_bool_cons (pos:=pos) (y:=y) (xs:=xs) (d':=d) hx hb (fun hn=>by rw [hu] at hn;cases hn)
      rwa [if_pos hu] at this
    · rw [if_neg hu] at h
      have:=ok_bool_cons (pos:=pos) (y:=y) (xs:=xs) (d':=d) hx hb (fun hn s' k=>evB_of S (y::xs) s' d (fun b o g=>Keeps.heap k b o (Y b o g)) (hW.keep (Keeps.heap k)) (R.keep (Keeps.heap k)) h)
      rwa [if_neg hu] at this
end
end
section
noncomputable def strCallD (n:Str) (x:Str) (ds:Option (List D)):Option D:=(strMeth n).bind fun id=>ds.bind fun ds=>if id=="str.split" then onOne ds fun y=>onD (some y) asStr fun y=>(splitD x y).map .list else smD id x ds
noncomputable def stepAll (w:World) (ct:CT) (o:Ops) (c:Cx) (x:PySem.Expr):Option D:=onCB x (fun op xs _=>evB (o.ev c) op xs)
  (fun f args ks pos=>onNil ks (onNA f (fun n p=>onD (o.ev c (.Name n p)) asRaw fun f=>if callable w f then (evL (o.ev c) args).bind fun ds=>callD ct f ds else none)
    fun ob n apos=>if !isCallE ob&&(apos.endLine==pos.line&&Nat.blt args.length 30) then onD (o.ev c ob) asStr fun x=>strCallD n x (evL (o.ev c) args) else none)) (stepEv w.params ct o c x)
noncomputable def SoundCT (w:World) (A:Around) (ct:CT):Prop:=∀ f ds d,ct f ds=some d→CallOk w A f ds d
section
variable {w:World} {A:Around} {o:Ops} {ct:CT}
theorem callD_ok (hA:A.handled=none) (C:SoundCT w A ct) {f:Value} {ds:List D} {d:D} (h:callD ct f ds=some d):CallOk w A f ds d:=fun s W vs Y hW r =>
  or_e h (fun h=>bnd_e h fun id hf h=>by
    have hf:f=.builtin id:=by cases f<;>first|exact congrArg _ (Option.some.inj hf)|exact nope hf
    rw [hf]
    exact or_e h (fun h=>ok_bi h r) fun h=>ok_fold hA h r) fun h=>C _ _ _ h s W vs Y hW r
theorem sound_all (hA:A.handled=none) (hu:A.units+20<cLine) (S:SoundEv w A o.ev) (T:SoundTr w A o.tr) (C:SoundCT w A ct):SoundEv w A (stepAll w ct o):=fun e W c s x d Y hW R h=>by
  have base:∀ {s':Shared},Keeps s s'→YP w s'.heap:=fun k b o g=>Keeps.heap k b o (Y b o g)
  refine onCB_e (P:=fun x=>EvOk w A (eval x e) s W d) x h (fun op xs p h=>evB_of S _ s d Y hW R h) (fun f args ks pos h=>onNil_e ks h fun h=>onNA_e f h (fun n p h=>onD_e asRaw_g h fun f hf h=>if_e h fun hc h=>bnd_e h fun ds hds h=>?ga) fun ob n apos h=>if_e h fun hc h=>onD_e asStr_g h fun x hx h=>bnd_e h fun id hid h=>bnd_e h fun ds hds hz=>?gb) fun h=>sound_step hu S T e W c s x d Y hW R h
  case ga=>exact ok_Call_Name Y (S e W c s _ _ Y hW R hf) hc (each_of S Y hW R _ _ hds) fun s' vs k r=>callD_ok hA C h s' W vs (base k) (hW.keep (Keeps.heap k)) r
  case gb =>
    simp only [Bool.and_eq_true,Bool.not_eq_true'] at hc
    by_cases hsp:(id=="str.split")=true
    · rw [if_pos hsp] at hz
      have hsp:=eq_of_beq hsp
      subst hsp
      revert hds
      refine onOne_e ds hz fun y hz hds=>onD_e asStr_g hz fun b hb hz=>?_
      rw [Option.some.inj hb] at hds
      exact map_e (P:=fun d=>EvOk w A (eval (.Call (.Attribute ob n apos) args [] pos) e) s W d) hz fun l hl=>ok_strCall (S e W c s _ _ Y hW R hx) hc.1 hc.2.1 (each_of S Y hW R _ _ hds) hc.2.2 hid fun s' t vs k r=>ok_split (hW.keep (Keeps.heap k)) hl r
    · rw [if_neg hsp] at hz
      exact ok_strMethod (S e W c s _ _ Y hW R hx) hc.1 hc.2.1 (each_of S Y hW R _ _ hds) hc.2.2 hid hz
noncomputable def ops (w:World) (ct:CT):Nat→Ops
  | 0=>⟨fun _ _=>none,fun _ _=>none⟩
  | n+1=>⟨stepAll w ct (ops w ct n),stepTr (ops w ct n)⟩
theorem sound_ops (hA:A.handled=none) (hu:A.units+20<cLine) (C:SoundCT w A ct):∀ n,SoundEv w A (ops w ct n).ev∧SoundTr w A (ops w ct n).tr
  | 0=>⟨fun _ _ _ _ _ _ _ _ _ h=>(by cases h),fun _ _ _ _ _ _ _ _ _ h=>(by cases h)⟩
  | n+1=>have ih:=sound_ops hA hu C n;⟨sound_all hA hu ih.1 ih.2 C,sound_tr hu ih.1 ih.2⟩
end
end
section
noncomputable def notComp:PySem.Expr→Bool
  | .ListComp .. | .SetComp .. | .DictComp ..=>false
  | _=>true
theorem noSwap {x:PySem.Expr} {t:Option PySem.Expr} {l:Nat} {e:Env} (h:notComp x=true):swapsWith x t l e=pure false:=by
  cases x<;>first|rfl|cases h
noncomputable def mineN (nm:List (Str × NameKind)) (n:Str):Bool:=nm.lookup n==some .local||nm.lookup n==some .cell
end
section
structure Room (A:Around) (n:Nat):Prop where
  h:A.handled=none
  d:A.depth+n<recursionLimit
  u:A.units+8*n+20<cLine
noncomputable def Contract (w:World) (n:Nat) (f:Value) (ds:List D) (d:D):Prop:=∀ A,Room A n→CallOk w A f ds d
theorem Room.deeper {A:Around} {n:Nat} {e:Env} (R:Room A (n+1)):Room (A.deeper e) n :=
  ⟨R.h,by show A.depth+1+n<_;have:=R.d;lia,by show A.units+3+8*n+20<_;have:=R.u;lia⟩
noncomputable def ct0:CT:=fun _ _=>none
end
section
theorem defr_ell (w:World):DefR w 45 (fdAt w.params 45) ["want","got"] (fdB (stm 3)) :=
  defr_mk (tokOf w.params 45) (by decide) (by kernel_rfl!) (by kernel_rfl!) (by kernel_rfl!) (by kernel_rfl!) (by kernel_rfl!) (len2 fun v0 v1=>by kernel_rfl!) (by decide)
theorem defr_map3 (w:World):DefR w 91 (fdAt w.params 91) ["code"] (fdB (stm 6)) :=
  defr_mk (tokOf w.params 91) (by decide) (by kernel_rfl!) (by kernel_rfl!) (by kernel_rfl!) (by kernel_rfl!) (by kernel_rfl!) (len1 fun v0=>by kernel_rfl!) (by decide)
theorem defr_isnt (w:World):DefR w 101 (fdAt w.params 101) ["x"] (fdB (stm 58)) :=
  defr_mk (tokOf w.params 101) (by decide) (by kernel_rfl!) (by kernel_rfl!) (by kernel_rfl!) (by kernel_rfl!) (by kernel_rfl!) (len1 fun v0=>by kernel_rfl!) (by decide)
theorem defr_draws (w:World):DefR w 243 (fdAt w.params 243) ["script"] (fdB (stm 64)) :=
  defr_mk (tokOf w.params 243) (by decide) (by kernel_rfl!) (by kernel_rfl!) (by kernel_rfl!) (by kernel_rfl!) (by kernel_rfl!) (len1 fun v0=>by kernel_rfl!) (by decide)
theorem defr_spelled (w:World):DefR w 250 (fdAt w.params 250) ["place","dress"] (fdB (stm 65)) :=
  defr_mk (tokOf w.params 250) (by decide) (by kernel_rfl!) (by kernel_rfl!) (by kernel_rfl!) (by kernel_rfl!) (by kernel_rfl!) (len2 fun v0 v1=>by kernel_rfl!) (by decide)
theorem defr_rows (w:World):DefR w 264 (fdAt w.params 264) ["draws"] (fdB (stm 67)) :=
  defr_mk (tokOf w.params 264) (by decide) (by kernel_rfl!) (by kernel_rfl!) (by kernel_rfl!) (by kernel_rfl!) (by kernel_rfl!) (len1 fun v0=>by kernel_rfl!) (by decide)
theorem defr_board (w:World):DefR w 269 (fdAt w.params 269) ["draws"] (fdB (stm 68)) :=
  defr_mk (tokOf w.params 269) (by decide) (by kernel_rfl!) (by kernel_rfl!) (by kernel_rfl!) (by kernel_rfl!) (by kernel_rfl!) (len1 fun v0=>by kernel_rfl!) (by decide)
theorem defr_due (w:World):DefR w 274 (fdAt w.params 274) ["draws"] (fdB (stm 69)) :=
  defr_mk (tokOf w.params 274) (by decide) (by kernel_rfl!) (by kernel_rfl!) (by kernel_rfl!) (by kernel_rfl!) (by kernel_rfl!) (len1 fun v0=>by kernel_rfl!) (by decide)
theorem defr_play (w:World):DefR w 281 (fdAt w.params 281) ["board","choice","here"] (fdB (stm 70)) :=
  defr_mk (tokOf w.params 281) (by decide) (by kernel_rfl!) (by kernel_rfl!) (by kernel_rfl!) (by kernel_rfl!) (by kernel_rfl!) (len3 fun v0 v1 v2=>by kernel_rfl!) (by decide)
theorem defr_told (w:World):DefR w 286 (fdAt w.params 286) ["play"] (fdB (stm 71)) :=
  defr_mk (tokOf w.params 286) (by decide) (by kernel_rfl!) (by kernel_rfl!) (by kernel_rfl!) (by kernel_rfl!) (by kernel_rfl!) (len1 fun v0=>by kernel_rfl!) (by decide)
theorem defr_odd (w:World):DefR w 291 (fdAt w.params 291) ["board","text"] (fdB (stm 72)) :=
  defr_mk (tokOf w.params 291) (by decide) (by kernel_rfl!) (by kernel_rfl!) (by kernel_rfl!) (by kernel_rfl!) (by kernel_rfl!) (len2 fun v0 v1=>by kernel_rfl!) (by decide)
theorem defr_past (w:World):DefR w 296 (fdAt w.params 296) ["draws","path"] (fdB (stm 73)) :=
  defr_mk (tokOf w.params 296) (by decide) (by kernel_rfl!) (by kernel_rfl!) (by kernel_rfl!) (by kernel_rfl!) (by kernel_rfl!) (len2 fun v0 v1=>by kernel_rfl!) (by decide)
theorem defr_law (w:World):DefR w 301 (fdAt w.params 301) ["script"] (fdB (stm 74)) :=
  defr_mk (tokOf w.params 301) (by decide) (by kernel_rfl!) (by kernel_rfl!) (by kernel_rfl!) (by kernel_rfl!) (by kernel_rfl!) (len1 fun v0=>by kernel_rfl!) (by decide)
end
section
theorem FrameR.mono {e:Env} {h:Heap} {M W:List Addr} {σ σ':List (Str × D)} {O:List Str} (F:FrameR e h M W σ O) (hs:∀ n d,σ'.lookup n=some d→σ.lookup n=some d):FrameR e h M W σ' O :=
  ⟨⟨F.env.kind,F.env.glob,F.env.blt,F.env.gl,F.env.cf,F.env.ce,fun n d hn hl=>F.env.loc n d (hs n d hn) hl⟩,F.ns,F.apart,F.own,F.sub,F.wok⟩
theorem StR.mono {w:World} {e:Env} {s:Shared} {M W:List Addr} {σ σ':List (Str × D)} {O:List Str} (S:StR w e s M W σ O) (hs:∀ n d,σ'.lookup n=some d→σ.lookup n=some d):StR w e s M W σ' O:=⟨S.fr.mono hs,S.base,S.hi⟩
theorem StR.sub {w:World} {e:Env} {s:Shared} {M W W':List Addr} {σ:List (Str × D)} {O:List Str} (S:StR w e s M W σ O) (h1:∀ a∈W',a∈W) (h2:∀ a∈M,a∈W'):StR w e s M W' σ O :=
  ⟨⟨⟨S.fr.env.kind,S.fr.env.glob,S.fr.env.blt,S.fr.env.gl,S.fr.env.cf,S.fr.env.ce,fun n d hn hl=>let ⟨v,a,b⟩:=S.fr.env.loc n d hn hl;⟨v,a,rep_sub h1 _ _ b⟩⟩,S.fr.ns,S.fr.apart,S.fr.own,h2,fun a m=>S.fr.wok a (h1 a m)⟩,S.base,S.hi⟩
theorem StR.more {w:World} {e:Env} {s:Shared} {M M' W:List Addr} {σ:List (Str × D)} {O:List Str} (S:StR w e s M' W σ O) (h1:∀ a∈M',a∈M) (h2:∀ a∈M,a∈W) (hi:∀ a∈M,302≤a):StR w e s M W σ O :=
  ⟨⟨S.fr.env,S.fr.ns,S.fr.apart,⟨h1 _ S.fr.own.1,fun n c a b d=>h1 _ (S.fr.own.2 n c a b d)⟩,h2,S.fr.wok⟩,S.base,hi⟩
theorem list_ne_ns {h:Heap} {a b:Addr} {m:Str→Option Value} {xs:Array Value} (x:h.Ns a m) (y:h.IsList b xs):b≠a:=fun e=>by
  subst e
  refine el33 x fun o es ep g hd _=>?_
  obtain ⟨o',g',_,n,hd'⟩:=y
  rw [g] at g';cases g'
  rw [hd] at hd';cases hd'
theorem list_ne_cell {h:Heap} {b c:Addr} {v:Option Value} {xs:Array Value} (x:h.IsCell c v) (y:h.IsList b xs):b≠c:=fun e=>by
  subst e
  refine el12 x fun o g hd=>?_
  obtain ⟨o',g',_,n,hd'⟩:=y
  rw [g] at g';cases g'
  rw [hd] at hd';cases hd'
noncomputable abbrev less (a:Addr) (M:List Addr):List Addr:=M.filter fun b=>b != a
theorem mem_less {a b:Addr} {M:List Addr}:b∈less a M↔b∈M∧b≠a:=by simp [less]
theorem StR.less {w:World} {e:Env} {s:Shared} {M W:List Addr} {σ:List (Str × D)} {O:List Str} {a:Addr} {xs:Array Value} (S:StR w e s M W σ O) (il:s.heap.IsList a xs):StR w e s (less a M) W σ O:=by
  obtain ⟨m,hm⟩:=S.fr.ns
  refine ⟨⟨S.fr.env,S.fr.ns,S.fr.apart,⟨mem_less.2 ⟨S.fr.own.1,(list_ne_ns hm il).symm⟩,fun n c hO hk hc=>mem_less.2 ⟨S.fr.own.2 n c hO hk hc,?_⟩⟩,fun b hb=>S.fr.sub b (mem_less.1 hb).1,S.fr.wok⟩,S.base,fun b hb=>S.hi b (mem_less.1 hb).1⟩
  obtain ⟨v,hx⟩:=S.fr.cell n c hc
  exact (list_ne_cell hx il).symm
theorem Has.keepU {e:Env} {h h':Heap} {n:Str} {v:Value} {U:List Addr} (x:Has e h n v) (hk:HKW U h h') (hL:e.locals∉U) (hc:∀ c,e.cells.lookup n=some c→c∉U):Has e h' n v:=by
  rcases x with ⟨k,m,ns,hm⟩|⟨k,c,hc',x⟩
  · exact .inl ⟨k,m,ns.at' fun o g=>hk _ o hL g,hm⟩
  · refine el12 x fun o g hd=>?_
    exact .inr ⟨k,c,hc',o,hk _ o (hc c hc') g,hd⟩
theorem lt_none {h:Heap} {a:Addr} {o:Obj} (g:h.get? a=some o) {U:List Addr} {h0:Heap} (hU:∀ b∈U,h0.get? b=none) (k:h0.get? a=some o):a∉U:=fun m=>by rw [hU a m] at k;cases k
theorem StR.beside {w:World} {e:Env} {s s':Shared} {M W U:List Addr} {σ:List (Str × D)} {O:List Str} (S:StR w e s M W σ O) (k:Keeps s s') (hU:∀ a∈U,s.heap.get? a=none) (hl:∀ a∈U,∃ o,s'.heap.get? a=some o):StR w e s' M (U++W) σ O:=by
  have hk:=Keeps.heap k
  have fr:∀ (U:List Addr) (d:D) (v:Value),(∀ a∈U,s.heap.get? a=none)→rep s.heap W d v→rep s.heap (U++W) d v:=fun U=>by
    induction U with
    | nil=>exact fun d v _ r=>r
    | cons a U ih=>exact fun d v hU r=>rep_fresh (hU a List.mem_cons_self) _ _ (ih d v (fun b hb=>hU b (List.mem_cons_of_mem _ hb)) r)
  refine ⟨⟨⟨S.fr.env.kind,S.fr.env.glob,S.fr.env.blt,S.fr.env.gl,S.fr.env.cf,fun n c hn=>let ⟨v,b⟩:=S.fr.cell n c hn;⟨v,b.keeps hk⟩,fun n d hn hl=>?_⟩,let ⟨m,x⟩:=S.fr.ns;⟨m,x.keeps hk⟩,S.fr.apart,S.fr.own,fun a m=>List.mem_append_right _ (S.fr.sub a m),fun a m=>?_⟩,fun b o g=>hk b o (S.base b o g),S.hi⟩
  · refine el12 (S.fr.env.loc n d hn hl) fun v a b=>?_
    exact ⟨v,a.keep hk,rep_keep hk _ _ (fr U d v hU b)⟩
  · rcases List.mem_append.1 m with m|m
    · exact hl a m
    · exact S.fr.wok.keep hk a m
noncomputable def FrameOn (e:Env) (h:Heap) (U:List Addr):Prop:=e.locals∉U∧∀ n c,e.cells.lookup n=some c→c∉U
theorem StR.step {w:World} {e:Env} {s:Shared} {h':Heap} {tk:Nat} {M W U:List Addr} {σ:List (Str × D)} {O:List Str} (S:StR w e s M W σ O) (hk:HKW U s.heap h') (hU:∀ a∈U,a∈W) (hF:FrameOn e s.heap U) (hi:∀ a∈U,302≤a) (hl:∀ a∈U,∃ o,h'.get? a=some o) :
    StR w e { s with heap:=h',toks:=tk } M W σ O:=by
  refine ⟨⟨⟨S.fr.env.kind,S.fr.env.glob,S.fr.env.blt,S.fr.env.gl,S.fr.env.cf,fun n c hn=>?_,fun n d hn hl=>?_⟩,?_,S.fr.apart,S.fr.own,S.fr.sub,fun a m=>?_⟩,baseW S.base hi hk,S.hi⟩
  · refine el22 (S.fr.cell n c hn) fun v o g hd=>?_
    exact ⟨v,o,hk _ o (hF.2 n c hn) g,hd⟩
  · refine el12 (S.fr.env.loc n d hn hl) fun v a b=>?_
    exact ⟨v,a.keepU hk hF.1 (hF.2 n),rep_keepW hk hU _ _ b⟩
  · obtain ⟨m,x⟩:=S.fr.ns
    exact ⟨m,x.at' fun o g=>hk _ o hF.1 g⟩
  · by_cases q:a∈U
    · exact hl a q
    · obtain ⟨o,g⟩:=S.fr.wok a m
      exact ⟨o,hk a o q g⟩
theorem StR.frameOn {w:World} {e:Env} {s:Shared} {M W U:List Addr} {σ:List (Str × D)} {O:List Str} (S:StR w e s M W σ O) (hU:∀ a∈U,s.heap.get? a=none):FrameOn e s.heap U:=by
  refine el42 S.fr.ns fun m o es ep g _=>?_
  refine ⟨lt_none g hU g,fun n c hc=>?_⟩
  refine el22 (S.fr.cell n c hc) fun v o g _=>?_
  exact lt_none g hU g
theorem StR.stepOff {w:World} {e:Env} {s:Shared} {h':Heap} {tk:Nat} {M W U:List Addr} {σ:List (Str × D)} {O:List Str} (S:StR w e s M (U++W) σ O) (hM:∀ a∈M,a∈W) (hk:HKW U s.heap h') (hW:∀ a∈W,a∉U) (hF:FrameOn e s.heap U) (hi:∀ a∈U,302≤a) :
    StR w e { s with heap:=h',toks:=tk } M W σ O:=by
  refine ⟨⟨⟨S.fr.env.kind,S.fr.env.glob,S.fr.env.blt,S.fr.env.gl,S.fr.env.cf,fun n c hn=>?_,fun n d hn hl=>?_⟩,?_,S.fr.apart,S.fr.own,hM,fun a m=>?_⟩,baseW S.base hi hk,S.hi⟩
  · refine el22 (S.fr.cell n c hn) fun v o g hd=>?_
    exact ⟨v,o,hk _ o (hF.2 n c hn) g,hd⟩
  · refine el12 (S.fr.env.loc n d hn hl) fun v a b=>?_
    exact ⟨v,a.keepU hk hF.1 (hF.2 n),rep_sub (fun b hb=>List.mem_append_right _ hb) _ _ (rep_keepW hk (fun b hb=>List.mem_append_left _ hb) _ _ b)⟩
  · obtain ⟨m,x⟩:=S.fr.ns
    exact ⟨m,x.at' fun o g=>hk _ o hF.1 g⟩
  · obtain ⟨o,g⟩:=S.fr.wok a (List.mem_append_right _ m)
    exact ⟨o,hk a o (hW a m) g⟩
noncomputable def notSet:PySem.Expr→Bool
  | .Set ..=>false
  | _=>true
theorem notSet_pure {e:PySem.Expr} {env:Env} (h:notSet e=true):∀ x,foldedSetIterable e env x=pure x:=fun x=>by
  cases e<;>first|rfl|cases h
inductive SrcK where
  | plain|range|enum
noncomputable def srcK (x:PySem.Expr):SrcK:=(on1 x fun n _ _ _=>some (if n==("range":Str) then SrcK.range else if n==("enumerate":Str) then .enum else .plain)).getD .plain
noncomputable def tArg:PySem.Expr→PySem.Expr
  | .Call _ [x] _ _=>x
  | x=>x
noncomputable def tFun:PySem.Expr→PySem.Expr
  | .Call f _ _ _=>f
  | x=>x
noncomputable def srcD (o:Ops) (c:Cx) (x:PySem.Expr):Option (List D × (PySem.Expr→Bool)):=match srcK x with
  | .range=>onD (o.ev c (tFun x)) asTy fun T=>if T=="range"&&!isStar (tArg x) then onD (o.ev c (tArg x)) asInt fun n=>if decide (0≤n)&&decide (n<100000) then some (rangeD n,tgName) else none else none
  | .enum=>onD (o.ev c (tFun x)) asTy fun T=>if T=="enumerate"&&!isStar (tArg x) then onD (o.ev c (tArg x)) asLi fun l=>some (enumD l,tgTup) else none
  | .plain=>if notSet x then (o.ev c x).bind fun d=>iterD d else none
section
variable {w:World} {A:Around} {s:Shared} {W:List Addr}
theorem call_type_raw {e:Env} {f x:PySem.Expr} {pos:Pos} {T:String} {d:D} (hf:EvOk w A (eval f e) s W (.raw (.type T))) (hfn:∃ n p,f=.Name n p) (hst:isStar x=false) (hx:∀ s',Keeps s s'→EvOk w A (eval x e) s' W d) (Q:Value→Shared→Prop) (E:Value→Shared→Prop)
    (q:∀ s1 vs,Keeps s s1→reps s1.heap W [d] vs→wpAny (model pw w) A (call (.type T) vs) Q E s1):wpAny (model pw w) A (eval (.Call f [x] [] pos) e) Q E s:=by
  refine el21 hfn fun n p q2q=>?_;subst q2q
  have:eval (.Call (.Name n p) [x] [] pos) e=(do callWith pos (← eval (.Name n p) e) [] (backTo pos (starEach [x] e)) (backToKw pos (keywordEach [] e))):=rfl
  rw [this]
  refine wpAny_bind (hf _ E fun v s1 k1 r1=>?_)
  skip
  subst r1
  have hE:EachOk w A e W s1 [x] [d]:=.cons hst (fun s' k=>hx s' (Keeps.tr k1 k)) .nil
  exact PyProof.Rows.callWith_type (plainArgs hE) (ok_evalArgs hE _ E fun vs s2 k2 r2=>q s2 vs (Keeps.tr k1 k2) r2)
theorem srcK_call {x:PySem.Expr} {k:SrcK} (hk:srcK x=k) (h:k≠.plain):∃ n p y pos,x=.Call (.Name n p) [y] [] pos:=by
  unfold srcK at hk
  cases e:(on1 x fun n _ _ _=>some (if n==("range":Str) then SrcK.range else if n==("enumerate":Str) then .enum else .plain)) with
  | none=>rw [e] at hk;exact absurd hk.symm h
  | some r=>exact on1_e x e fun n p a pos _=>⟨_,_,_,_,rfl⟩
theorem src_ok {o:Ops} (S:SoundEv w A o.ev) {e:Env} {c:Cx} {x:PySem.Expr} {ds:List D} {tg:PySem.Expr→Bool} (Y:YP w s.heap) (hW:WOk s.heap W) (R:EnvR e s.heap W c.nm c.σ) (h:srcD o c x=some (ds,tg)):SrcOk w A (eval x e) s W ds tg∧∀ v,foldedSetIterable x e v=pure v:=by
  have later:∀ x d,o.ev c x=some d→∀ s',Keeps s s'→EvOk w A (eval x e) s' W d:=fun x d hx s' k=>S e W c s' x d (fun b o g=>Keeps.heap k b o (Y b o g)) (hW.keep (Keeps.heap k)) (R.keep (Keeps.heap k)) hx
  have now:∀ x d,o.ev c x=some d→EvOk w A (eval x e) s W d:=fun x d hx=>later x d hx s (Keeps.rfl' s)
  unfold srcD at h
  cases hk:srcK x with
  | range =>
    rw [hk] at h
    refine el41 (srcK_call hk (fun e=>nomatch e)) fun n p y pos q4q=>?_;subst q4q
    refine ⟨onD_e asTy_g h fun T hT h=>if_e h fun hc h=>onD_e asInt_g h fun n hn h=>if_e h fun hb hz=>?_,notSet_pure rfl⟩
    simp only [Bool.and_eq_true,Bool.not_eq_true',beq_iff_eq,decide_eq_true_eq] at hc hb
    obtain ⟨rfl,hst⟩:=hc
    cases hz
    exact src_range hb.1 hb.2 fun Q E q=>call_type_raw (now _ _ hT) ⟨_,_,rfl⟩ hst (later _ _ hn) Q E q
  | enum =>
    rw [hk] at h
    refine el41 (srcK_call hk (fun e=>nomatch e)) fun n p y pos q4q=>?_;subst q4q
    refine ⟨onD_e asTy_g h fun T hT h=>if_e h fun hc h=>onD_e asLi_g h fun l hl hz=>?_,notSet_pure rfl⟩
    simp only [Bool.and_eq_true,Bool.not_eq_true',beq_iff_eq] at hc
    obtain ⟨rfl,hst⟩:=hc
    cases hz
    exact src_enum fun Q E q=>call_type_raw (now _ _ hT) ⟨_,_,rfl⟩ hst (later _ _ hl) Q E q
  | plain =>
    rw [hk] at h
    exact if_e h fun hs h=>bnd_e h fun d hd h=>⟨src_of_ev (now _ _ hd) h,notSet_pure hs⟩
end
end
section
structure Sg where
  σ:List (Str × D)
  own:Option (Bool × List D)
noncomputable def sgm (on:Str) (a:Addr) (g:Sg):List (Str × D):=match g.own with
  | some _=>(on,.raw (.ref a))::g.σ
  | none=>g.σ
structure OwnOk (h:Heap) (M W W0:List Addr) (a:Addr) (p:Bool) (l:List D):Prop where
  mem:a∈M
  out:a∉W0
  val:∃ xs,h.IsList a (List.toArray xs)∧(p=true→h.PlainList a (List.toArray xs))∧reps h W l xs
structure St2 (w:World) (e:Env) (s:Shared) (M W W0:List Addr) (on:Str) (a:Addr) (g:Sg):Prop where
  st:StR w e s M W (sgm on a g)
  w0:∀ b∈W0,b∈W
  own:∀ p l,g.own=some (p,l)→OwnOk s.heap M W W0 a p l
  no:∀ x,g.own=some x→g.σ.lookup on=none∧isLoc (e.scope.names.lookup on)=true
theorem lookup_off {on:Str} {x:D} {σ:List (Str × D)} (no:σ.lookup on=none) (n:Str) (d:D) (h:σ.lookup n=some d):List.lookup n ((on,x)::σ)=some d:=by
  rw [List.lookup_cons]
  cases hb:n==on with
  | true=>rw [eq_of_beq hb,no] at h;cases h
  | false=>exact h
section
variable {w:World} {A:Around} {e:Env} {s:Shared} {M W W0:List Addr} {on:Str} {a:Addr} {g:Sg}
theorem St2.plain (S:St2 w e s M W W0 on a g):StR w e s M W g.σ:=by
  cases ho:g.own with
  | none=>have:=S.st;unfold sgm at this;rw [ho] at this;exact this
  | some x =>
    have:=S.st
    unfold sgm at this;rw [ho] at this
    exact this.mono fun n d h=>lookup_off (S.no x ho).1 n d h
theorem St2.has {x:Bool × List D} (S:St2 w e s M W W0 on a g) (ho:g.own=some x):Has e s.heap on (.ref a):=by
  have:=S.st
  unfold sgm at this;rw [ho] at this
  refine el12 (this.fr.env.loc on (.raw (.ref a)) (by simp) (S.no x ho).2) fun v hv r=>?_
  simp only [rep] at r
  exact r▸hv
theorem OwnOk.keep {s':Shared} {p:Bool} {l:List D} (x:OwnOk s.heap M W W0 a p l) (k:Keeps s s'):OwnOk s'.heap M W W0 a p l :=
  ⟨x.mem,x.out,let ⟨xs,a1,a2,a3⟩:=x.val;⟨xs,islist_keep (fun o g=>Keeps.heap k _ o g) a1,fun hp=>(a2 hp).at fun o g=>Keeps.heap k _ o g,reps_keep (Keeps.heap k) _ _ a3⟩⟩
theorem St2.keep {s':Shared} (S:St2 w e s M W W0 on a g) (k:Keeps s s'):St2 w e s' M W W0 on a g:=⟨S.st.keep k,S.w0,fun p l ho=>(S.own p l ho).keep k,S.no⟩
theorem St2.borrow {p:Bool} {l:List D} (S:St2 w e s M W W0 on a g) (ho:g.own=some (p,l)):StR w e s (Mine.less a M) (Mine.less a W) ((on,.list l)::g.σ)∧(∀ b∈W0,b∈Mine.less a W):=by
  have O:=S.own p l ho
  refine el13 O.val fun xs il pl r=>?_
  have P:=S.plain
  have h1:∀ b∈Mine.less a W,b∈W:=fun b hb=>(mem_less.1 hb).1
  have h2:∀ b∈Mine.less a M,b∈Mine.less a W:=fun b hb=>mem_less.2 ⟨P.fr.sub b (mem_less.1 hb).1,(mem_less.1 hb).2⟩
  have P2:=(P.less il).sub h1 h2
  refine ⟨⟨⟨⟨P2.fr.env.kind,P2.fr.env.glob,P2.fr.env.blt,P2.fr.env.gl,P2.fr.env.cf,P2.fr.env.ce,fun n d hn hl=>?_⟩,P2.fr.ns,P2.fr.apart,P2.fr.own,P2.fr.sub,P2.fr.wok⟩,P2.base,P2.hi⟩,fun b hb=>mem_less.2 ⟨S.w0 b hb,fun q=>O.out (q▸hb)⟩⟩
  rw [List.lookup_cons] at hn
  cases hb:n==on with
  | true =>
    rw [hb] at hn;cases hn
    rw [eq_of_beq hb]
    refine ⟨_,S.has ho,?_⟩
    simp only [rep]
    exact ⟨a,xs,rfl,fun m=>(mem_less.1 m).2 rfl,il,reps_sub h1 _ _ r⟩
  | false =>
    rw [hb] at hn
    exact P2.fr.env.loc n d hn hl
noncomputable def isAtom:D→Bool
  | .list _ | .tup _ | .obj _ | .pl _=>false
  | _=>true
theorem rep_atom {h:Heap} {W W':List Addr} {d:D} {v:Value} (ha:isAtom d=true) (r:rep h W d v):rep h W' d v:=by
  cases d<;>first|(cases ha;done)|(simp only [rep] at r ⊢;exact r)
noncomputable def ev2 (o:Ops) (nm:List (Str × NameKind)) (on:Str) (g:Sg) (x:PySem.Expr):Option D:=match o.ev ⟨nm,g.σ⟩ x with
  | some d=>some d
  | none=>match g.own with
    | some (_,l)=>match o.ev ⟨nm,(on,.list l)::g.σ⟩ x with
      | some d=>if isAtom d then some d else none
      | none=>none
    | none=>none
noncomputable def tr2 (o:Ops) (nm:List (Str × NameKind)) (on:Str) (g:Sg) (x:PySem.Expr):Option Bool:=match o.tr ⟨nm,g.σ⟩ x with
  | some d=>some d
  | none=>match g.own with
    | some (_,l)=>o.tr ⟨nm,(on,.list l)::g.σ⟩ x
    | none=>none
theorem ev2_ok {o:Ops} (Sd:SoundEv w A o.ev) {x:PySem.Expr} {d:D} (S:St2 w e s M W W0 on a g) (h:ev2 o e.scope.names on g x=some d):EvOk w A (eval x e) s W d:=by
  unfold ev2 at h
  split at h
  · rename_i hd
    cases h
    exact Sd e W ⟨e.scope.names,_⟩ s _ _ S.plain.base S.plain.fr.wok S.plain.fr.env hd
  · split at h
    · rename_i p l ho
      split at h
      · rename_i hd
        split at h
        · rename_i ha
          cases h
          have B:=(S.borrow ho).1
          exact fun Q E q=>Sd e _ ⟨e.scope.names,_⟩ s _ _ B.base B.fr.wok B.fr.env hd Q E fun v s' k r=>q v s' k (rep_atom ha r)
        · exact nope h
      · exact nope h
    · exact nope h
theorem tr2_ok {o:Ops} (T:SoundTr w A o.tr) {x:PySem.Expr} {b:Bool} (S:St2 w e s M W W0 on a g) (h:tr2 o e.scope.names on g x=some b):TrOk w A (isTrue x e (eval x e)) s b:=by
  unfold tr2 at h
  split at h
  · rename_i hd
    cases h
    exact T e W ⟨e.scope.names,_⟩ s _ _ S.plain.base S.plain.fr.wok S.plain.fr.env hd
  · split at h
    · rename_i p l ho
      have B:=(S.borrow ho).1
      exact T e _ ⟨e.scope.names,_⟩ s _ _ B.base B.fr.wok B.fr.env h
    · exact nope h
theorem store2 {n:Str} {v:Value} {d:D} {Q:Unit→Shared→Prop} {E:Value→Shared→Prop} (S:St2 w e s M W W0 on a g) (hn:(g.own.isSome&&n==on)=false) (hk:mineK e n=true) (r:rep s.heap W d v)
    (q:∀ s',KeepsW M s s'→St2 w e s' M W W0 on a ⟨(n,d)::g.σ,g.own⟩→Q () s'):wpAny (model pw w) A (storeName e n v) Q E s:=by
  cases ho:g.own with
  | none =>
    refine ok_store S.plain (List.not_mem_nil) hk r fun s' k S'=>q s' k ⟨?_,S.w0,fun p l h=>(by rw [ho] at h;cases h),fun x h=>(by rw [ho] at h;cases h)⟩
    show StR w e s' M W (sgm on a ⟨(n,d)::g.σ,g.own⟩)
    unfold sgm
    rw [ho]
    exact S'
  | some x =>
    obtain ⟨p,l⟩:=x
    rw [ho] at hn
    have hne:(n==on)=false:=by simpa using hn
    refine el13 ((S.own p l ho).val) fun xs il pl rr=>?_
    have O:=S.own p l ho
    have st:=S.st
    unfold sgm at st
    rw [ho] at st
    have hM:∀ b∈Mine.less a M,b∈M:=fun b hb=>(mem_less.1 hb).1
    have st1:=st.less il
    refine ok_store st1 (List.not_mem_nil) hk r fun s' k S'=>q s' ?_ ⟨?_,S.w0,fun p' l' h=>?_,fun x h=>?_⟩
    · refine el22 k fun h' tk q2q hk=>?_;subst q2q
      exact ⟨h',tk,rfl,fun b o hb g=>hk b o (fun m=>hb (hM b m)) g⟩
    · have S2:=S'.more hM st.fr.sub st.hi
      unfold sgm
      rw [ho]
      refine S2.mono fun m d' h=>?_
      rw [List.lookup_cons] at h ⊢
      cases hb:m==on with
      | true =>
        rw [hb] at h
        have:(m==n)=false:=by rw [eq_of_beq hb];exact BEq.comm.trans hne
        rw [this]
        show List.lookup m ((on,D.raw (.ref a))::g.σ)=some d'
        rw [List.lookup_cons,hb]
        exact h
      | false =>
        rw [hb] at h
        rw [List.lookup_cons] at h
        cases hb2:m==n with
        | true=>rw [hb2] at h;exact h
        | false =>
          rw [hb2] at h
          show List.lookup m ((on,D.raw (.ref a))::g.σ)=some d'
          rw [List.lookup_cons,hb]
          exact h
    · rw [ho] at h
      cases h
      have hk:=KeepsW.heap k
      have ha:a∉Mine.less a M:=fun m=>(mem_less.1 m).2 rfl
      exact ⟨O.mem,O.out,xs,islist_keep (fun o g=>hk _ o ha g) il,fun hp=>(pl hp).at fun o g=>hk _ o ha g,reps_keepW hk (fun b m=>st.fr.sub b (hM b m)) _ _ rr⟩
    · have:=S.no x h
      refine ⟨?_,this.2⟩
      show List.lookup on ((n,d)::g.σ)=none
      rw [List.lookup_cons]
      have:(on==n)=false:=BEq.comm.trans hne
      rw [this]
      exact (S.no x h).1
theorem own2 {s':Shared} {h':Heap} {p q:Bool} {l l':List D} {ys:List Value} (S:St2 w e s M W W0 on a g) (ho:g.own=some (p,l)) (hs:Heap.SameBut a s.heap h') (il:h'.IsList a ys.toArray) (pl:q=true→h'.PlainList a ys.toArray) (r:reps h' W l' ys) :
    KeepsW M s { s with heap:=h' }∧St2 w e { s with heap:=h' } M W W0 on a ⟨g.σ,some (q,l')⟩:=by
  refine el13 ((S.own p l ho).val) fun xs il0 _ _=>?_
  have O:=S.own p l ho
  have st:=S.st
  unfold sgm at st
  rw [ho] at st
  have hk:HKW [a] s.heap h':=fun b o hb g=>hs.extBut b o (fun q=>hb (q▸List.mem_cons_self)) g
  obtain ⟨m,hm⟩:=st.fr.ns
  refine el12 (id il) fun o0 ho0 _=>?_
  have S':StR w e { s with heap:=h' } M W ((on,.raw (.ref a))::g.σ):=by
    refine ⟨⟨⟨st.fr.env.kind,st.fr.env.glob,st.fr.env.blt,st.fr.env.gl,st.fr.env.cf,fun n c hn=>?_,fun n d hn hl=>?_⟩,⟨m,hm.sameBut hs (list_ne_ns hm il0).symm⟩,st.fr.apart,st.fr.own,st.fr.sub,fun b hb=>?_⟩,baseW st.base (fun b hb=>List.mem_singleton.1 hb▸st.hi a O.mem) hk,st.hi⟩
    · obtain ⟨v,hx⟩:=st.fr.cell n c hn
      exact ⟨v,hx.sameBut hs (list_ne_cell hx il0).symm⟩
    · refine el12 (st.fr.env.loc n d hn hl) fun v hv rv=>?_
      refine ⟨v,?_,rep_keepW hk (fun b hb=>List.mem_singleton.1 hb▸st.fr.sub a O.mem) _ _ rv⟩
      rcases hv with ⟨k1,m1,ns1,h1⟩|⟨k1,c,hc,hx⟩
      · exact .inl ⟨k1,m1,ns1.sameBut hs (list_ne_ns ns1 il0).symm,h1⟩
      · exact .inr ⟨k1,c,hc,hx.sameBut hs (list_ne_cell hx il0).symm⟩
    · exact wok_sameBut hs st.fr.wok ho0 b hb
  refine ⟨⟨h',s.toks,rfl,sameBut_hkw hs O.mem⟩,⟨S',S.w0,fun p' l'' h=>?_,fun x h=>?_⟩⟩
  · cases h
    exact ⟨O.mem,O.out,ys,il,pl,r⟩
  · exact S.no _ ho
end
end
section
section
variable {w:World} {A:Around} {E:Value→Shared→Prop} {s:Shared}
theorem draw_list {it t:Addr} {items:Array Value} (hne:t≠it):∀ (n i:Nat) (s:Shared) (Q:List Value→Shared→Prop),s.heap.IsListIter it t i→s.heap.IsList t items→i+n≤items.size →
    (∀ h',h'.IsListIter it t (i+n)→Heap.SameBut it s.heap h'→Q ((items.toList.drop i).take n) { s with heap:=h' })→wpAny (model pw w) A (draw (.ref it) n) Q E s
  | 0,i,s,Q,hit,_,_,hQ=>by
    show wpAny _ _ (pure []) Q E s
    exact wpAny_pure (by simpa using hQ s.heap hit (Heap.SameBut.refl ..))
  | n+1,i,s,Q,hit,ht,hle,hQ=>by
    have hlt:i<items.size:=by lia
    show wpAny _ _ (pyNext (.ref it) >>= _) Q E s
    refine wpAny_bind (wpAny_pyNext_list_item hit ht (x:=items[i]) (by simp [hlt]) fun h₁ hit₁ hs₁=>?_)
    refine wpAny_bind (wpAny_holding (draw_list hne n (i+1) _ _ hit₁ (ht.extBut hs₁.extBut hne) (by lia) fun h₂ hit₂ hs₂=>wpAny_pure ?_))
    have hd:items.toList.drop i=items[i]::items.toList.drop (i+1):=by simp [List.drop_eq_getElem_cons,hlt]
    have:=hQ h₂ (by rw [show i+(n+1)=i+1+n by lia];exact hit₂) (hs₁.trans hs₂)
    rw [hd,List.take_succ_cons] at this
    exact this
theorem unpackItems_list {t:Addr} {items:Array Value} {Q:List Value→Shared→Prop} (hh:A.handled=none) (ht:s.heap.IsList t items)
    (hQ:∀ h',Heap.ExtBut s.heap.objs.size s.heap h'→Q items.toList { s with heap:=h' }):wpAny (model pw w) A (unpackItems (.ref t) items.size none) Q E s:=by
  have hlt:t≠s.heap.objs.size:=by obtain ⟨o,ho,_⟩:=ht;exact Nat.ne_of_lt (Heap.lt_size ho)
  unfold unpackItems
  refine wpAny_bind ?_
  · unfold notIterableAtAll
    refine wpAny_bind (wpAny_specialOf ht.typeIs slot_list_iter.lookup ?_)
    refine wpAny_pure ?_
    simp only [Bool.false_eq_true,if_false]
    refine wpAny_bind (wpAny_holding (wpAny_pyIter_list ht ?_))
    refine wpAny_bind (wpAny_holding (draw_list hlt items.size 0 _ _ ⟨_,Heap.get?_push_size _ rfl,rfl,rfl⟩ (ht.push _) (by lia) fun h₁ hit₁ hs₁=>?_))
    have hall:List.take items.size (List.drop 0 items.toList)=items.toList:=by
      rw [List.drop_zero];exact List.take_of_length_le (by simp)
    rw [hall]
    rw [if_neg (by simp)]
    have ht₁:h₁.IsList t items:=(ht.push _).extBut hs₁.extBut hlt
    refine wpAny_bind (wpAny_holding (wpAny_pyNext_list_end hh hit₁ ht₁ (by simp) fun h₂ he₂=>?_))
    simp only [Option.isSome_none,Bool.false_eq_true,if_false]
    refine wpAny_pure (hQ h₂ fun b o hb e=>he₂ b o hb (hs₁.extBut b o hb (Heap.get?_push_of_some _ e)))
noncomputable def seqOf:D→Option (List D)
  | .list l=>some l
  | .tup l=>some l
  | _=>none
theorem keepsExt {h':Heap} (he:Heap.ExtBut s.heap.objs.size s.heap h'):Keeps s { s with heap:=h' } :=
  ⟨h',s.toks,rfl,fun b o g=>he b o (Nat.ne_of_lt (Heap.lt_size g)) g⟩
theorem ok_unpackItems {W:List Addr} {d:D} {v:Value} {ds:List D} {n:Nat} {Q:List Value→Shared→Prop} (hh:A.handled=none) (r:rep s.heap W d v) (hs:seqOf d=some ds) (hn:n=ds.length)
    (q:∀ vs s',Keeps s s'→reps s'.heap W ds vs→Q vs s'):wpAny (model pw w) A (unpackItems v n none) Q E s:=by
  cases d<;>simp only [seqOf,reduceCtorEq,Option.some.injEq] at hs<;>subst hs<;>simp only [rep] at r
  · refine el24 r fun a xs q2q na il rr=>?_;subst q2q
    have hl:=reps_len _ _ rr
    have:=unpackItems_list (w:=w) (A:=A) (E:=E) (Q:=Q) hh il fun h' he=>q _ _ (keepsExt he) (by simpa using reps_keep (Keeps.heap (keepsExt he)) _ _ rr)
    rw [List.size_toArray] at this
    rwa [hn,← hl]
  · refine el24 r fun a xs q2q na il rr=>?_;subst q2q
    have hl:=reps_len _ _ rr
    have:=wpAny_unpackItems_tuple (prog:=pw) (w:=w) (A:=A) (E:=E) (Q:=Q) hh il fun h' he=>q _ _ (keepsExt he) (by simpa using reps_keep (Keeps.heap (keepsExt he)) _ _ rr)
    rw [List.size_toArray] at this
    rwa [hn,← hl]
end
noncomputable def bindAll:List Str→List D→List (Str × D)→Option (List (Str × D))
  | [],[],σ=>some σ
  | n::ns,d::ds,σ=>bindAll ns ds ((n,d)::σ)
  | _,_,_=>none
noncomputable def StoreOf (w:World) (A:Around) (e:Env) (n:Str) (f:Value→Sem Unit):Prop:=∀ (v:Value) (Q:Unit→Shared→Prop) (E:Value→Shared→Prop) (s:Shared),wpAny (model pw w) A (storeName e n v) Q E s→wpAny (model pw w) A (f v) Q E s
inductive StoresOf (w:World) (A:Around) (e:Env):List Str→List (Value→Sem Unit)→Prop
  | nil:StoresOf w A e [] []
  | cons {n f ns fs}:StoreOf w A e n f→StoresOf w A e ns fs→StoresOf w A e (n::ns) (f::fs)
section
variable {w:World} {A:Around} {e:Env} {M W W0:List Addr} {on:Str} {a:Addr}
noncomputable def mayStore (e:Env) (on:Str) (g:Sg) (n:Str):Bool:=mineK e n&&!(g.own.isSome&&n==on)
theorem ok_stores:∀ {ns:List Str} {fs:List (Value→Sem Unit)} (hf:StoresOf w A e ns fs) (ds:List D) (vs:List Value) (g:Sg) (σ':List (Str × D)) (s:Shared) (Q:Unit→Shared→Prop) (E:Value→Shared→Prop),
    St2 w e s M W W0 on a g→ns.all (mayStore e on g)=true→reps s.heap W ds vs→bindAll ns ds g.σ=some σ'→(∀ s',KeepsW M s s'→St2 w e s' M W W0 on a ⟨σ',g.own⟩→Q () s')→wpAny (model pw w) A (assignInOrder fs vs) Q E s
  | _,_,.nil,ds,vs,g,σ',s,Q,E,S,_,r,hb,q=>by
    cases ds with
    | nil =>
      cases hb
      exact wpAny_pure (q s (KeepsW.rfl' M s) S)
    | cons d ds=>cases hb
  | _,_,.cons (n:=n) (f:=f) (ns:=ns) (fs:=fs) h1 h2,ds,vs,g,σ',s,Q,E,S,hm,r,hb,q=>by
    cases ds with
    | nil=>cases hb
    | cons d ds =>
      simp only [reps] at r
      refine el23 r fun v vs q2q r1 r2=>?_;subst q2q
      simp only [List.all_cons,Bool.and_eq_true] at hm
      obtain ⟨hm1,hm2⟩:=hm
      have hm1':=hm1
      simp only [mayStore,Bool.and_eq_true,Bool.not_eq_true'] at hm1'
      refine assignInOrder_cons (h1 v _ E s (store2 S hm1'.2 hm1'.1 r1 fun s1 k1 S1=>?_))
      refine ok_stores h2 ds vs ⟨(n,d)::g.σ,g.own⟩ σ' s1 Q E S1 (by simpa [mayStore] using hm2) (reps_keepW (KeepsW.heap k1) S.plain.fr.sub _ _ r2) hb fun s2 k2 S2=>q s2 (KeepsW.tr k1 k2) S2
theorem store_assign {n:Str} {p:Pos}:StoreOf w A e n (assign (.Name n p) e):=fun v Q E s h=>wpAny_assign_Name h
theorem store_bind {n:Str}:StoreOf w A e n (fun v=>bindName e n v):=fun v Q E s h=>wpAny_bindName h
noncomputable def namesOf:List PySem.Expr→Option (List Str)
  | []=>some []
  | .Name n _::xs=>(namesOf xs).map (n::·)
  | _=>none
theorem each_names:∀ {xs:List PySem.Expr} {ns:List Str},namesOf xs=some ns→StoresOf w A e ns ((assignEach xs e).map (·.2))∧(assignEach xs e).length=ns.length∧(assignEach xs e).findIdx? (·.1)=none
  | [],ns,h=>by cases h;exact ⟨.nil,rfl,rfl⟩
  | x::xs,ns,h=>by
    cases x<;>try (cases h;done)
    rename_i n p
    simp only [namesOf,Option.map_eq_some_iff] at h
    obtain ⟨ns',h,rfl⟩:=h
    obtain ⟨i1,i2,i3⟩:=each_names h
    refine ⟨.cons store_assign i1,congrArg (·+1) i2,?_⟩
    show List.findIdx? _ ((false,assign (.Name n p) e)::assignEach xs e)=none
    rw [List.findIdx?_cons]
    simp only [Bool.false_eq_true,if_false,i3,Option.map_none]
noncomputable def bindT (t:PySem.Expr) (d:D) (σ:List (Str × D)):Option (List (Str × D)):=onNT t (fun n _=>some ((n,d)::σ)) fun xs _ _=>(namesOf xs).bind fun ns=>(seqOf d).bind fun ds=>bindAll ns ds σ
noncomputable def tgNames:PySem.Expr→List Str
  | .Name n _=>[n]
  | .Tuple xs _ _=>(namesOf xs).getD []
  | _=>[]
theorem bindAll_len:∀ {ns:List Str} {ds:List D} {σ σ':List (Str × D)},bindAll ns ds σ=some σ'→ns.length=ds.length
  | [],[],_,_,_=>rfl
  | [],_::_,_,_,h=>by cases h
  | _::_,[],_,_,h=>by cases h
  | n::ns,d::ds,σ,σ',h=>congrArg (·+1) (bindAll_len (ns:=ns) (ds:=ds) h)
theorem ok_target {t:PySem.Expr} {d:D} {v:Value} {g:Sg} {σ':List (Str × D)} {s:Shared} {Q:Unit→Shared→Prop} {E:Value→Shared→Prop} (hh:A.handled=none) (S:St2 w e s M W W0 on a g) (hm:(tgNames t).all (mayStore e on g)=true)
    (r:rep s.heap W d v) (hb:bindT t d g.σ=some σ') (q:∀ s',KeepsW M s s'→St2 w e s' M W W0 on a ⟨σ',g.own⟩→Q () s'):wpAny (model pw w) A (assign t e v) Q E s:=by
  revert hm
  refine onNT_e t hb (fun n p hb hm=>?ga) fun xs k p hb=>bnd_e hb fun ns hn hb=>bnd_e hb fun ds hs hz hm=>?gb
  case ga =>
    rw [← Option.some.inj hb] at q
    simp only [tgNames,List.all_cons,List.all_nil,Bool.and_true] at hm
    simp only [mayStore,Bool.and_eq_true,Bool.not_eq_true'] at hm
    exact wpAny_assign_Name (store2 S hm.2 hm.1 r q)
  case gb =>
    refine el03 (each_names (w:=w) (A:=A) (e:=e) hn) fun i1 i2 i3=>?_
    rw [arm_assign_Tuple]
    refine wpAny_bind (wpAny_standAt ?_)
    unfold unpack
    rw [i3]
    refine wpAny_bind (wpAny_holding (ok_unpackItems hh r hs (by rw [i2];exact bindAll_len hz) fun vs s1 k1 r1=>?_))
    have hm:ns.all (mayStore e on g)=true:=by
      have e1:tgNames (.Tuple xs k p)=ns:=by show (namesOf xs).getD []=ns;rw [hn];rfl
      rwa [e1] at hm
    refine ok_stores i1 ds vs g σ' s1 Q E (S.keep k1) hm r1 hz fun s2 k2 S2=>q s2 (KeepsW.tr (KeepsW.of k1) k2) S2
end
end
section
noncomputable def StOk2 (w:World) (A:Around) (e:Env) (M W W0:List Addr) (on:Str) (a:Addr) (m:Sem Flow) (s:Shared) (fl:FlD) (g':Sg):Prop :=
  ∀ (Q:Flow→Shared→Prop) (E:Value→Shared→Prop),(∀ f s',KeepsW M s s'→(fl=.next→St2 w e s' M W W0 on a g')→flRep s'.heap W0 fl f→Q f s')→wpAny (model pw w) A m Q E s
section
variable {w:World} {A:Around} {e:Env} {s:Shared} {M W W0:List Addr} {on:Str} {a:Addr} {g g':Sg}
theorem t2_nil (S:St2 w e s M W W0 on a g):StOk2 w A e M W W0 on a (execs [] e) s .next g:=fun Q E q=>wpAny_execs_nil (q _ s (KeepsW.rfl' M s) (fun _=>S) rfl)
theorem t2_cons_next {st:Stmt} {rest:List Stmt} {fl:FlD} {g'':Sg} (h:StOk2 w A e M W W0 on a (exec st e) s .next g') (hr:∀ s',KeepsW M s s'→St2 w e s' M W W0 on a g'→StOk2 w A e M W W0 on a (execs rest e) s' fl g'') :
    StOk2 w A e M W W0 on a (execs (st::rest) e) s fl g'':=fun Q E q=>by
  refine wpAny_execs_cons (h _ E fun f s1 k1 S1 r1=>?_)
  have r1:f=.next:=r1
  subst r1
  exact hr s1 k1 (S1 rfl) Q E fun f s2 k2 S2 r2=>q f s2 (KeepsW.tr k1 k2) S2 r2
theorem t2_cons_ret {st:Stmt} {rest:List Stmt} {d:D} {g'':Sg} (h:StOk2 w A e M W W0 on a (exec st e) s (.ret d) g'):StOk2 w A e M W W0 on a (execs (st::rest) e) s (.ret d) g'':=fun Q E q=>by
  refine wpAny_execs_cons (h _ E fun f s1 k1 S1 r1=>?_)
  refine el12 r1 fun v q1q r=>?_;subst q1q
  exact q _ s1 k1 (fun h=>by cases h) ⟨v,rfl,r⟩
theorem t2_Return {x:PySem.Expr} {pos:Pos} {d:D} (S:St2 w e s M W W0 on a g) (h:EvOk w A (eval x e) s W d):StOk2 w A e M W W0 on a (exec (.Return (some x) pos) e) s (.ret d) g':=fun Q E q =>
  wpAny_Return_some (h _ E fun v s1 k1 r1=>q _ s1 (KeepsW.of k1) (fun h=>by cases h) ⟨v,rfl,rep_sub S.w0 _ _ r1⟩)
theorem t2_If {t:PySem.Expr} {body orelse:List Stmt} {pos:Pos} {b:Bool} {fl:FlD} (S:St2 w e s M W W0 on a g) (ht:TrOk w A (isTrue t e (eval t e)) s b) (h:∀ s',Keeps s s'→St2 w e s' M W W0 on a g→StOk2 w A e M W W0 on a (execs (if b then body else orelse) e) s' fl g') :
    StOk2 w A e M W W0 on a (exec (.If t body orelse pos) e) s fl g':=fun Q E q=>by
  refine wpAny_If (ht _ E fun s1 k1=>?_)
  have:=h s1 k1 (S.keep k1) Q E fun f s2 k2 S2 r2=>q f s2 (KeepsW.tr (KeepsW.of k1) k2) S2 r2
  cases b<;>exact this
theorem t2_Assert {t:PySem.Expr} {m:Option PySem.Expr} {pos:Pos} (S:St2 w e s M W W0 on a g) (ht:TrOk w A (isTrue t e (eval t e)) s true):StOk2 w A e M W W0 on a (exec (.Assert t m pos) e) s .next g:=fun Q E q =>
  wpAny_Assert_holds (ht _ E fun s1 k1=>⟨rfl,q _ s1 (KeepsW.of k1) (fun _=>S.keep k1) rfl⟩)
theorem mayStore_split {n:Str} (hm:mayStore e on g n=true):mineK e n=true∧(g.own.isSome&&n==on)=false:=by
  simpa only [mayStore,Bool.and_eq_true,Bool.not_eq_true'] using hm
theorem t2_Assign {n:Str} {p pos:Pos} {x:PySem.Expr} {d:D} (S:St2 w e s M W W0 on a g) (hm:mayStore e on g n=true) (hs:swapsWith x (some (.Name n p)) pos.line e=pure false) (h:EvOk w A (eval x e) s W d) :
    StOk2 w A e M W W0 on a (exec (.Assign [.Name n p] x pos) e) s .next ⟨(n,d)::g.σ,g.own⟩:=fun Q E q =>
  wpAny_Assign_Name (hs:=hs) (h _ E fun v s1 k1 r1=>store2 (S.keep k1) (mayStore_split hm).2 (mayStore_split hm).1 r1 fun s2 k2 S2=>q _ s2 (KeepsW.tr (KeepsW.of k1) k2) (fun _=>S2) rfl)
noncomputable def iopI (op:Operator) (x y:Int):Option Int:=match op with
  | .Add=>some (x+y)
  | .Sub=>some (x - y)
  | _=>none
theorem ok_iop {op:Operator} {x y z:Int} {t u:Tok} (h:iopI op x y=some z):EvOk w A (inplaceOp op (.int x t) (.int y u)) s W (.int z):=fun Q E q=>by
  have fin:∀ i:Int,i=z→Q (.int i s.toks) { s with toks:=s.toks+1 }:=fun i hi=>q _ _ (keepsTok s _) (by simp only [rep];exact ⟨_,by rw [hi]⟩)
  cases op<;>simp only [iopI,reduceCtorEq,Option.some.injEq] at h
  · exact PySem.AutoIntOps.iadd_0 (fin _ h)
  · exact PySem.AutoIntOps.isub_0 (fin _ h)
theorem t2_Aug {n:Str} {p pos:Pos} {op:Operator} {x:PySem.Expr} {i j z:Int} (S:St2 w e s M W W0 on a g) (hm:mayStore e on g n=true) (hn:g.σ.lookup n=some (.int i)) (h:∀ s',Keeps s s'→EvOk w A (eval x e) s' W (.int j)) (hz:iopI op i j=some z) (hcd:(n==("__classdict__":Str))=false) :
    StOk2 w A e M W W0 on a (exec (.AugAssign (.Name n p) op x pos) e) s .next ⟨(n,.int z)::g.σ,g.own⟩:=fun Q E q=>by
  have P:=S.plain
  have hk:=(mayStore_split hm).1
  have loc:isLoc (e.scope.names.lookup n)=true:=by
    unfold mineK at hk
    rcases Bool.or_eq_true_iff.mp hk with hk|hk<;>(rw [show e.scope.names.lookup n=_ from eq_of_beq hk];rfl)
  refine el12 (P.fr.env.loc n _ hn loc) fun v hv rv=>?_
  have rv0:=rv
  simp only [rep] at rv
  obtain ⟨t,rfl⟩:=rv
  refine wpAny_AugAssign_Name ?_
  have go:wpAny (model pw w) A (eval x e) (fun v s₂=>wpAny (model pw w) A (inplaceOp op (.int i t) v) (fun r s₃=>wpAny (model pw w) A (storeName e n r) (fun _=>Q .next) E s₃) E s₂) E s:=by
    refine h s (Keeps.rfl' s) _ E fun u s1 k1 ru=>?_
    simp only [rep] at ru
    obtain ⟨t',rfl⟩:=ru
    refine ok_iop (W:=W) hz _ E fun r s2 k2 r2=>?_
    exact store2 ((S.keep k1).keep k2) (mayStore_split hm).2 hk r2 fun s3 k3 S3=>q _ s3 (KeepsW.tr (KeepsW.of (Keeps.tr k1 k2)) k3) (fun _=>S3) rfl
  rcases hv with ⟨k,m,ns,hm⟩|⟨k|k,c,hc,x⟩
  · exact wpAny_loadName_local P.fr.env.kind k ns hm go
  · exact wpAny_loadName_cell P.fr.env.kind k hc x go
  · exact wpAny_loadName_free P.fr.env.kind k hc x go hcd
theorem eval_own {x:Bool × List D} {p:Pos} (S:St2 w e s M W W0 on a g) (ho:g.own=some x) (hdb:(on==("__debug__":Str))=false) (hcd:(on==("__classdict__":Str))=false) {Q:Value→Shared→Prop} {E:Value→Shared→Prop} (q:Q (.ref a) s):wpAny (model pw w) A (eval (.Name on p) e) Q E s:=by
  refine wpAny_Name ?_ hdb
  have P:=S.plain
  rcases S.has ho with ⟨k,m,ns,hm⟩|⟨k|k,c,hc,x⟩
  · exact wpAny_loadName_local P.fr.env.kind k ns hm q
  · exact wpAny_loadName_cell P.fr.env.kind k hc x q
  · exact wpAny_loadName_free P.fr.env.kind k hc x q hcd
theorem reps_set {h:Heap} {W:List Addr}:∀ (l:List D) (xs:List Value) (i:Nat) (d:D) (v:Value),reps h W l xs→rep h W d v→reps h W (l.set i d) (xs.set i v)
  | [],xs,i,d,v,r,_=>by simp only [reps] at r;subst r;simp [reps]
  | d0::l,xs,0,d,v,r,rv=>by
    simp only [reps] at r
    refine el23 r fun v0 vs q2q _ rs=>?_;subst q2q
    simp only [List.set_cons_zero,reps]
    exact ⟨_,_,rfl,rv,rs⟩
  | d0::l,xs,i+1,d,v,r,rv=>by
    simp only [reps] at r
    refine el23 r fun v0 vs q2q r0 rs=>?_;subst q2q
    simp only [List.set_cons_succ,reps]
    exact ⟨_,_,rfl,r0,reps_set l vs i d v rs rv⟩
theorem reps_erase {h:Heap} {W:List Addr}:∀ (l:List D) (xs:List Value) (i:Nat),reps h W l xs→reps h W (l.eraseIdx i) (xs.eraseIdx i)
  | [],xs,i,r=>by simp only [reps] at r;subst r;simp [reps]
  | d0::l,xs,0,r=>by
    simp only [reps] at r
    refine el23 r fun v0 vs q2q _ rs=>?_;subst q2q
    exact rs
  | d0::l,xs,i+1,r=>by
    simp only [reps] at r
    refine el23 r fun v0 vs q2q r0 rs=>?_;subst q2q
    simp only [List.eraseIdx_cons_succ,reps]
    exact ⟨_,_,rfl,r0,reps_erase l vs i rs⟩
theorem t2_augsub {p tp pos:Pos} {i x:PySem.Expr} {op:Operator} {k:Nat} {y b z:Int} {pl:Bool} {l:List D} (S:St2 w e s M W W0 on a g) (ho:g.own=some (pl,l)) (hdb:(on==("__debug__":Str))=false) (hcd:(on==("__classdict__":Str))=false)
    (hi:∀ s',Keeps s s'→EvOk w A (eval i e) s' W (.int k)) (hk:k<1000000) (hl:l[k]?=some (.int y)) (hx:∀ s',Keeps s s'→EvOk w A (eval x e) s' W (.int b)) (hz:iopI op y b=some z) (hsl:∀ ov iv new,augStore i ov iv new=(do holding [new,ov,iv] (setItem ov iv new);release [new,ov,iv] [];pure .next)) :
    StOk2 w A e M W W0 on a (exec (.AugAssign (.Subscript (.Name on p) i tp) op x pos) e) s .next ⟨g.σ,some (false,l.set k (.int z))⟩:=fun Q E q=>by
  refine wpAny_AugAssign_Subscript_any (eval_own S ho hdb hcd ?_) hsl
  refine hi s (Keeps.rfl' s) _ E fun iv s1 k1 ri=>?_
  simp only [rep] at ri
  obtain ⟨ti,rfl⟩:=ri
  have S1:=S.keep k1
  refine el13 ((S1.own _ _ ho).val) fun xs il _ r=>?_
  have hlen:=reps_len _ _ r
  have hkl:k<l.length:=(List.getElem?_eq_some_iff.mp hl).1
  refine el12 (reps_get _ _ _ _ r hl) fun v hv rv=>?_
  have hke:wpAny (model pw w) A (getItem (.ref a) (.int k ti)) (fun old s₃=>wpAny (model pw w) A (eval x e) (fun v s₄=>wpAny (model pw w) A (inplaceOp op old v) (fun new s₅=>wpAny (model pw w) A (setItem (.ref a) (.int k ti) new) (fun _=>Q .next) E s₅) E s₄) E s₃) E s1:=by
    refine wpAny_getItem_list il (by lia) (by lia) (by simpa using hv) ?_
    simp only [rep] at rv
    obtain ⟨tv,rfl⟩:=rv
    refine hx s1 k1 _ E fun u s2 k2 ru=>?_
    simp only [rep] at ru
    obtain ⟨tu,rfl⟩:=ru
    refine ok_iop (W:=W) hz _ E fun nv s3 k3 rn=>?_
    have k13:=Keeps.tr k2 k3
    have S3:=S1.keep k13
    have il3:=islist_keep (fun o g=>Keeps.heap k13 _ o g) il
    refine wpAny_setItem_list il3 (by lia) (by lia) (by simp only [List.size_toArray];lia) fun h' il' hs'=>?_
    have hkk:HKW [a] s3.heap h':=fun b o hb g=>hs'.extBut b o (fun q=>hb (q▸List.mem_cons_self)) g
    have r3:=reps_keepW hkk (fun b hb=>List.mem_singleton.1 hb▸S3.plain.fr.sub a (S3.own _ _ ho).mem) _ _ (reps_set l xs k _ nv (reps_keep (Keeps.heap k13) _ _ r) rn)
    obtain ⟨kw,S4⟩:=own2 (s':=s3) (q:=false) S3 ho hs' (ys:=xs.set k nv) (by simpa using il') (fun h=>by cases h) r3
    exact q _ _ (KeepsW.tr (KeepsW.of (Keeps.tr k1 k13)) kw) (fun _=>S4) rfl
  exact hke
theorem t2_append {p apos cpos pos:Pos} {x:PySem.Expr} {d:D} {l:List D} (S:St2 w e s M W W0 on a g) (ho:g.own=some (true,l)) (hdb:(on==("__debug__":Str))=false) (hcd:(on==("__classdict__":Str))=false)
    (hst:isStar x=false) (hline:(apos.endLine==cpos.line)=true) (hsz:l.length<100000) (hx:∀ s',Keeps s s'→EvOk w A (eval x e) s' W d) :
    StOk2 w A e M W W0 on a (exec (.Expr (.Call (.Attribute (.Name on p) "append" apos) [x] [] cpos) pos) e) s .next ⟨g.σ,some (true,l++[d])⟩:=fun Q E q=>by
  have ht:backTo cpos (starEach [x] e)=[(false,eval x e)]:=by rw [starEach_plain hst];rfl
  have hi:interactive e=false:=by unfold interactive;rw [S.plain.fr.env.kind];rfl
  refine wpAny_Expr_any (hi:=hi) (hs:=noSwap rfl) ?_
  refine wpAny_Call_append rfl (by rw [ht];rfl) hline ht (eval_own S ho hdb hcd ?_)
  refine el13 ((S.own _ _ ho).val) fun xs il pl r=>?_
  obtain ⟨n,hpl⟩:=pl rfl
  refine ⟨a,xs.toArray,rfl,⟨_,n,hpl,rfl,rfl,rfl⟩,?_⟩
  refine hx s (Keeps.rfl' s) _ E fun v s1 k1 rv=>?_
  have S1:=S.keep k1
  have r1:=reps_keep (Keeps.heap k1) _ _ r
  have hlen:=reps_len _ _ r
  refine wpAny_list_append_plain (hsz:=by rw [sizeLine_eq];simp only [List.size_toArray];lia) ((pl rfl).at fun o g=>Keeps.heap k1 _ o g) fun h' pl' hs'=>?_
  have hkk:HKW [a] s1.heap h':=fun b o hb g=>hs'.extBut b o (fun q=>hb (q▸List.mem_cons_self)) g
  have pl2:h'.PlainList a (xs++[v]).toArray:=by simpa using pl'
  have r2:=reps_keepW hkk (fun b hb=>List.mem_singleton.1 hb▸S1.plain.fr.sub a (S1.own _ _ ho).mem) _ _ (reps_append l [d] xs [v] r1 (by simp only [reps];exact ⟨_,_,rfl,rv,rfl⟩))
  obtain ⟨kw,S2⟩:=own2 (s':=s1) (q:=true) S1 ho hs' pl2.isList (fun _=>pl2) r2
  exact q _ _ (KeepsW.tr (KeepsW.of k1) kw) (fun _=>S2) rfl
theorem t2_del {p tp pos:Pos} {i:PySem.Expr} {j:Int} {k:Nat} {l:List D} (S:St2 w e s M W W0 on a g) (ho:g.own=some (true,l)) (hdb:(on==("__debug__":Str))=false) (hcd:(on==("__classdict__":Str))=false)
    (hi:∀ s',Keeps s s'→EvOk w A (eval i e) s' W (.int j)) (hj:-1000000<j∧j<1000000) (hk:seqIndex? j l.length=some k) (hsz:l.length<100000) :
    StOk2 w A e M W W0 on a (exec (.Delete [.Subscript (.Name on p) i tp] pos) e) s .next ⟨g.σ,some (true,l.eraseIdx k)⟩:=fun Q E q=>by
  refine wpAny_Delete (wpAny_deleteEach_cons (PyProof.Rows.delete_Subscript (eval_own S ho hdb hcd ?_)))
  refine hi s (Keeps.rfl' s) _ E fun iv s1 k1 ri=>?_
  simp only [rep] at ri
  obtain ⟨ti,rfl⟩:=ri
  have S1:=S.keep k1
  refine el13 ((S1.own _ _ ho).val) fun xs il pl r=>?_
  have hlen:=reps_len _ _ r
  refine wpAny_delItem_plain (k:=k) (pl rfl) (by simp only [Builtin.List.listFitsIndex,Bool.and_eq_true,decide_eq_true_eq];lia) (by simpa [hlen] using hk) (fun h' pl' hs'=>?_) (by rw [sizeLine_eq];simp only [List.size_toArray];lia)
  have hkk:HKW [a] s1.heap h':=fun b o hb g=>hs'.extBut b o (fun q=>hb (q▸List.mem_cons_self)) g
  have pl2:h'.PlainList a (xs.eraseIdx k).toArray:=by simpa using pl'
  have r2:=reps_keepW hkk (fun b hb=>List.mem_singleton.1 hb▸S1.plain.fr.sub a (S1.own _ _ ho).mem) _ _ (reps_erase l xs k r)
  obtain ⟨kw,S2⟩:=own2 (s':=s1) (q:=true) S1 ho hs' pl2.isList (fun _=>pl2) r2
  exact wpAny_deleteEach_nil (q _ _ (KeepsW.tr (KeepsW.of k1) kw) (fun _=>S2) rfl)
end
end
section
noncomputable def dedA:List Str→List (Str × D)→List (Str × D)
  | _,[]=>[]
  | seen,(n,d)::σ=>if seen.contains n then dedA seen σ else (n,d)::dedA (n::seen) σ
theorem dedA_lookup:∀ (σ:List (Str × D)) (seen:List Str) (m:Str),(dedA seen σ).lookup m=if seen.contains m then none else σ.lookup m
  | [],seen,m=>by simp [dedA]
  | (n,d)::σ,seen,m=>by
    unfold dedA
    split
    · rename_i hc
      rw [dedA_lookup σ seen m,List.lookup_cons]
      cases hb:m==n with
      | true=>rw [eq_of_beq hb,if_pos hc,if_pos hc]
      | false=>rfl
    · rename_i hc
      rw [List.lookup_cons,List.lookup_cons,dedA_lookup σ (n::seen) m,List.contains_cons]
      cases hb:m==n with
      | true=>rw [eq_of_beq hb,if_neg hc]
      | false=>rw [Bool.false_or]
noncomputable def ded (σ:List (Str × D)):List (Str × D):=dedA [] σ
theorem ded_lookup (σ:List (Str × D)) (m:Str):(ded σ).lookup m=σ.lookup m:=by
  unfold ded
  rw [dedA_lookup];rfl
noncomputable def forD (ok:Sg→Bool) (t:PySem.Expr) (body:Sg→Option (FlD × Sg)):List D→Sg→Option (FlD × Sg)
  | [],g=>some (.next,g)
  | d::ds,g=>if ok g then (match bindT t d g.σ with
    | none=>none
    | some σ1=>match body ⟨σ1,g.own⟩ with
      | some (.next,g2)=>forD ok t body ds ⟨ded g2.σ,g2.own⟩
      | some (.ret d,g2)=>some (.ret d,g2)
      | none=>none) else none
section
variable {w:World} {A:Around} {e:Env} {s:Shared} {M W W0:List Addr} {on:Str} {a:Addr} {g g':Sg}
theorem KeepsW.weak {M M':List Addr} {s s':Shared} (k:KeepsW M s s') (h:∀ b∈M,b∈M'):KeepsW M' s s':=by
  refine el22 k fun h' tk q2q hk=>?_;subst q2q
  exact ⟨h',tk,rfl,fun b o hb g=>hk b o (fun m=>hb (h b m)) g⟩
theorem KeepsW.drop {M U:List Addr} {s s':Shared} (k:KeepsW (U++M) s s') (h:∀ b∈U,s.heap.get? b=none):KeepsW M s s':=by
  refine el22 k fun h' tk q2q hk=>?_;subst q2q
  refine ⟨h',tk,rfl,fun b o hb g=>hk b o (fun m=>?_) g⟩
  rcases List.mem_append.1 m with m|m
  · rw [h b m] at g;cases g
  · exact hb m
theorem OwnOk.rep {h h':Heap} {W W':List Addr} {p:Bool} {l:List D} (x:OwnOk h M W W0 a p l) (hk:∀ o,h.get? a=some o→h'.get? a=some o) (hr:∀ xs,reps h W l xs→reps h' W' l xs):OwnOk h' M W' W0 a p l :=
  ⟨x.mem,x.out,let ⟨xs,a1,a2,a3⟩:=x.val;⟨xs,islist_keep hk a1,fun hp=>(a2 hp).at hk,hr xs a3⟩⟩
theorem St2.beside {s':Shared} {U:List Addr} (S:St2 w e s M W W0 on a g) (k:Keeps s s') (hU:∀ b∈U,s.heap.get? b=none) (hl:∀ b∈U,∃ o,s'.heap.get? b=some o):St2 w e s' M (U++W) W0 on a g :=
  ⟨S.st.beside k hU hl,fun b hb=>List.mem_append_right _ (S.w0 b hb),fun p l ho=>(S.own p l ho).rep (fun o g=>Keeps.heap k _ o g) fun xs r=>reps_keep (Keeps.heap k) _ _ (reps_freshs U _ _ hU r),S.no⟩
theorem St2.ded (S:St2 w e s M W W0 on a g):St2 w e s M W W0 on a ⟨Mine.ded g.σ,g.own⟩:=by
  refine ⟨S.st.mono fun n d h=>?_,S.w0,S.own,fun x h=>⟨(ded_lookup _ _).trans (S.no x h).1,(S.no x h).2⟩⟩
  unfold sgm at h ⊢
  cases ho:g.own with
  | none=>rw [ho] at h;dsimp only at h ⊢;rw [ded_lookup] at h;exact h
  | some x =>
    rw [ho] at h
    dsimp only at h ⊢
    rw [List.lookup_cons] at h ⊢
    cases hb:n==on with
    | true=>rw [hb] at h;exact h
    | false=>rw [hb,ded_lookup] at h;exact h
theorem St2.step {h':Heap} {tk:Nat} {U:List Addr} (S:St2 w e s M W W0 on a g) (hk:HKW U s.heap h') (hU:∀ b∈U,b∈W) (hM:∀ b∈U,b∉M) (hF:FrameOn e s.heap U) (hi:∀ b∈U,302≤b) (hl:∀ b∈U,∃ o,h'.get? b=some o) :
    St2 w e { s with heap:=h',toks:=tk } M W W0 on a g :=
  ⟨S.st.step hk hU hF hi hl,S.w0,fun p l ho=>(S.own p l ho).rep (fun o g=>hk _ o (fun m=>hM a m (S.own p l ho).mem) g) fun xs r=>reps_keepW hk hU _ _ r,S.no⟩
theorem St2.stepOff {h':Heap} {tk:Nat} {U:List Addr} (S:St2 w e s M (U++W) W0 on a g) (h0:∀ b∈W0,b∈W) (hM:∀ b∈M,b∈W) (hk:HKW U s.heap h') (hW:∀ b∈W,b∉U) (hF:FrameOn e s.heap U) (hi:∀ b∈U,302≤b) :
    St2 w e { s with heap:=h',toks:=tk } M W W0 on a g :=
  ⟨S.st.stepOff hM hk hW hF hi,h0,fun p l ho=>(S.own p l ho).rep (fun o g=>hk _ o (fun m=>hW a (hM a (S.own p l ho).mem) m) g) fun xs r=>reps_sub (fun b hb=>List.mem_append_right _ hb) _ _ (reps_keepW hk (fun b hb=>List.mem_append_left _ hb) _ _ r),S.no⟩
noncomputable def aliveAt (P:Params) (b:Nat):Bool:=match (tr_f P).get b with
  | some o=>(PySem.W.alive o).isSome
  | none=>false
theorem base_alive (P:Params):(List.range 302).all (aliveAt P)=true:=by kernel_rfl!
theorem base_all (P:Params) (b:Addr) (hb:b<302) (h:(H1 P).get? b=none):False:=by
  have:=List.all_eq_true.1 (base_alive P) b (List.mem_range.2 hb)
  unfold aliveAt at this
  split at this
  · rename_i o ho
    have al:PySem.W.alive o=some o:=by
      obtain ⟨c,d,dat,sl⟩:=o
      cases dat<;>first|rfl|(cases this)
    rw [H1_get hb ho al] at h;cases h
  · cases this
theorem new_hi {w:World} {s:Shared} {b:Addr} (Y:YP w s.heap) (h:s.heap.get? b=none):302≤b:=by
  refine Nat.le_of_not_lt fun hb=>?_
  have hx:∃ o,(H1 w.params).get? b=some o:=by
    cases e:(H1 w.params).get? b with
    | some o=>exact ⟨o,rfl⟩
    | none =>
      exact (base_all w.params b hb e).elim
  obtain ⟨o,ho⟩:=hx
  rw [Y b o ho] at h;cases h
end
end
end Mine
end
section
open PySem PySem.W PyProof.Rows
open Builtin Builtin.Str
namespace Mine
section
section
variable {w:World} {A:Around} {e:Env} {s:Shared} {M W W0:List Addr} {on:Str} {a:Addr} {g g':Sg}
theorem drop_of {ds:List D} {i:Nat} {d:D} (h:ds[i]?=some d):i<ds.length∧ds.drop i=d::ds.drop (i+1):=by
  have hlt:=(List.getElem?_eq_some_iff.1 h).1
  rw [List.getElem?_eq_getElem hlt] at h
  exact ⟨hlt,(List.drop_eq_getElem_cons hlt).trans (congrArg (·::_) (Option.some.inj h))⟩
noncomputable def ForI (w:World) (e:Env) (M W W0 U:List Addr) (on:Str) (a:Addr) (K:Nat→Heap→Prop) (ds:List D) (F:List D→Sg→Prop) (s1:Shared) (n:Nat) (s':Shared):Prop :=
  ∃ i gi,i≤ds.length∧n=ds.length - i∧K i s'.heap∧KeepsW (U++M) s1 s'∧St2 w e s' M (U++W) W0 on a gi∧F (ds.drop i) gi
theorem forD_e {ok:Sg→Bool} {t:PySem.Expr} {bd:Sg→Option (FlD × Sg)} {d:D} {ds:List D} {g:Sg} {r:FlD × Sg} (h:forD ok t bd (d::ds) g=some r) :
    ok g=true∧∃ σ1,bindT t d g.σ=some σ1∧((∃ g2,bd ⟨σ1,g.own⟩=some (.next,g2)∧forD ok t bd ds ⟨ded g2.σ,g2.own⟩=some r)∨∃ d' g2,bd ⟨σ1,g.own⟩=some (.ret d',g2)∧(.ret d',g2)=r):=by
  refine if_e h fun hok h=>⟨hok,?_⟩
  cases hb:bindT t d g.σ with
  | none=>rw [hb] at h;exact nope h
  | some σ1 =>
    rw [hb] at h
    refine ⟨σ1,rfl,?_⟩
    dsimp only at h
    rcases hc:bd ⟨σ1,g.own⟩ with _|⟨f,g2⟩
    · rw [hc] at h;exact nope h
    · rw [hc] at h
      cases f with
      | next=>exact .inl ⟨g2,rfl,h⟩
      | ret d'=>exact .inr ⟨d',g2,rfl,Option.some.inj h⟩
theorem t2_For {t iter:PySem.Expr} {body:List Stmt} {pos:Pos} {ds:List D} {tg:PySem.Expr→Bool} {ok:Sg→Bool} {bd:Sg→Option (FlD × Sg)} {fl:FlD} (hh:A.handled=none) (S:St2 w e s M W W0 on a g) (src:SrcOk w A (eval iter e) s W ds tg) (hs:∀ x,foldedSetIterable iter e x=pure x)
    (htg:tg t=true) (hok:∀ g,ok g=true→(tgNames t).all (mayStore e on g)=true) (hb:∀ W2 g1 fl1 g2 s1,St2 w e s1 M W2 W0 on a g1→bd g1=some (fl1,g2)→StOk2 w A e M W2 W0 on a (execs body e) s1 fl1 g2) (hd:forD ok t bd ds g=some (fl,g')) :
    StOk2 w A e M W W0 on a (exec (.For t iter body [] pos) e) s fl g':=fun Q E q=>by
  refine wpAny_For (src _ E fun I U s1 k1 fr hI made=>Exists.elim (made [] (fun a m=>nomatch m)) fun K hit=>?_) hs
  have IT:=hit.1 A hh
  have P:=S.plain
  have hWU:∀ b∈W,b∉U:=fun b hb m=>(P.fr.wok b hb).elim fun o g=>nope ((fr b m).symm.trans g)
  have hMU:∀ b∈U,b∉M:=fun b hb m=>hWU b (P.fr.sub b m) hb
  have hiU:∀ b∈U,302≤b:=fun b hb=>new_hi P.base (fr b hb)
  have hF:∀ h,FrameOn e h U:=fun h=>P.frameOn fr
  refine named (ForI w e M W W0 U on a K ds (fun l gi=>forD ok t bd l gi=some (fl,g')) s1) fun J hJ=>?_
  refine codeAny_forLoop_any J ?_ ds.length (hJ▸⟨0,g,Nat.zero_le _,rfl,hit.2,KeepsW.rfl' _ _,S.beside k1 fr (IT.live 0 _ hit.2),hd⟩)
  intro n s2 hJ2
  rw [hJ] at hJ2
  refine el26 hJ2 fun i gi hi hn hK k2 S2 hfd=>?_
  have back:∀ s',KeepsW (U++M) s2 s'→KeepsW M s s':=fun s' k=>KeepsW.drop (KeepsW.tr (KeepsW.of k1) (KeepsW.tr k2 k)) fr
  cases hdi:ds[i]? with
  | none =>
    have hlen:=List.getElem?_eq_none_iff.1 hdi
    rw [List.drop_eq_nil_of_le hlen] at hfd
    cases hfd
    rw [Nat.le_antisymm hi hlen] at hK
    exact IT.done s2 _ _ hK fun h' tk hk=>wpAny_execs_nil (q .next _ (back _ ⟨h',tk,rfl,fun b o hb g=>hk b o (fun m=>hb (List.mem_append_left _ m)) g⟩) (fun _=>S2.stepOff (tk:=tk) S.w0 P.fr.sub hk hWU (hF _) hiU) rfl)
  | some d =>
    have hlt:=drop_of hdi
    rw [hlt.2] at hfd
    have hf:=forD_e hfd
    refine Exists.elim hf.2 fun σ1 hσ=>?_
    refine wpAny_mono (IT.item i d t s2 _ _ htg hdi hK (fun b m=>S2.plain.fr.wok b (List.mem_append_right _ m)) fun v h' tk K' hk r=>?_) (fun r s3 x=>Exists.elim x fun v hv=>by rw [hv.1];exact hv.2) fun _ _ x=>x
    refine ok_target hh (S2.step (tk:=tk) hk (fun b m=>List.mem_append_left _ m) hMU (hF _) hiU (IT.live _ _ K')) (hok _ hf.1) r hσ.1 fun s4 k4 S4=>?_
    have k24:KeepsW (U++M) s2 s4:=KeepsW.tr ⟨h',tk,rfl,fun b o hb g=>hk b o (fun m=>hb (List.mem_append_left _ m)) g⟩ (k4.weak fun b m=>List.mem_append_right _ m)
    rcases hσ.2 with hr|hr
    · refine Exists.elim hr fun g2 hr=>hb _ _ _ _ s4 S4 hr.1 _ _ fun f s5 k5 S5 r5=>?_
      rw [show f=.next from r5]
      have k25:=KeepsW.tr k24 (k5.weak fun b m=>List.mem_append_right _ m)
      exact ⟨ds.length - (i+1),by omega,hJ▸⟨i+1,⟨ded g2.σ,g2.own⟩,hlt.1,rfl,IT.frame (i+1) _ s5.heap M P.fr.sub hMU (IT.frame (i+1) h' s4.heap M P.fr.sub hMU K' (KeepsW.heap k4)) (KeepsW.heap k5),KeepsW.tr k2 k25,(S5 rfl).ded,hr.2⟩⟩
    · refine Exists.elim hr fun d' hr=>Exists.elim hr fun g2 hr=>hb _ _ _ _ s4 S4 hr.1 _ _ fun f s5 k5 S5 r5=>Exists.elim r5 fun v' rv=>?_
      rw [rv.1]
      have e1:FlD.ret d'=fl:=congrArg Prod.fst hr.2
      exact q _ s5 (back _ (KeepsW.tr k24 (k5.weak fun b m=>List.mem_append_right _ m))) (fun h=>nomatch e1.trans h) (e1▸⟨v',rfl,rv.2⟩)
theorem t2_freeze {m:Sem Flow} {d:D} {p:Bool} {l:List D} {g1:Sg} {a':Addr} (S:St2 w e s M W W0 on a g) (ho:g.own=some (p,l))
    (h:∀ M' W',(∀ b∈M',b∈M)→St2 w e s M' W' W0 on a' ⟨(on,.list l)::g.σ,none⟩→StOk2 w A e M' W' W0 on a' m s (.ret d) g1):StOk2 w A e M W W0 on a m s (.ret d) g':=fun Q E q=>by
  obtain ⟨B,h0⟩:=S.borrow ho
  refine h _ _ (fun b hb=>(mem_less.1 hb).1) ⟨B,h0,fun p l h=>(by cases h),fun x h=>(by cases h)⟩ Q E fun f s' k S' r=>q f s' (k.weak fun b hb=>(mem_less.1 hb).1) (fun h=>by cases h) r
noncomputable def EvNew (w:World) (A:Around) (m:Sem Value) (s:Shared) (W:List Addr) (l:List D):Prop :=
  ∀ (Q:Value→Shared→Prop) (E:Value→Shared→Prop),(∀ a xs s',Keeps s s'→s.heap.get? a=none→s'.heap.PlainList a (List.toArray xs)→reps s'.heap (a::W) l xs→Q (.ref a) s')→wpAny (model pw w) A m Q E s
theorem new_List {xs:List PySem.Expr} {ds:List D} {pos:Pos} (h:EachOk w A e W s xs ds) (hn:Nat.ble ds.length 100000=true):EvNew w A (eval (.List xs pos) e) s W ds:=fun Q E q=>by
  rw [arm_eval_List]
  refine wpAny_bind (wpAny_standAt (wpAny_bind (ok_spliced s h _ E fun vs s1 k1 r1=>?_)))
  have hl:=reps_len _ _ r1
  have hn:=Nat.le_of_ble_eq_true hn
  have hnew:=get_none_of_size s1.heap
  refine wpAny_newList (q _ vs _ (Keeps.tr k1 (keepsPush s1 _ _)) (not_before k1 hnew) ⟨0,Heap.get?_push_size _ rfl⟩ (reps_keep (fun _ _ e=>Heap.get?_push_of_some _ e) _ _ (reps_fresh hnew _ _ r1))) (by rw [sizeLine_eq];lia)
theorem new_split {x y:Str} {t:Tok} {l:List D} {vs:List Value} (hd:splitD x y=some l) (r:reps s.heap W [.str y] vs):EvNew w A (call (.builtin "str.split") (.str x t::vs)) s W l:=fun Q E q=>by
  unfold splitD at hd
  split at hd
  · rename_i hc
    cases hd
    simp only [Bool.and_eq_true,Bool.not_eq_true'] at hc
    refine el12 (reps_one r) fun v q1q r1=>?_;subst q1q
    simp only [rep] at r1
    obtain ⟨u,rfl⟩:=r1
    have fin:∀ (l:List (Str × Tok)) (tk:Nat),l.map (·.1)=Txt.split x y→Q (.ref s.heap.objs.size) { s with toks:=tk,heap:=s.heap.push { cls:=.type "list",data:=.seq (strValues l).toArray } }:=fun l tk ht=>by
      refine q _ (strValues l) _ (keepsPush s _ _) (get_none_of_size _) ⟨0,Heap.get?_push_size _ rfl⟩ ?_
      rw [← ht];exact reps_strs l
    have hx:=Nat.le_of_ble_eq_true hc.2.1
    have hn:=Nat.le_of_ble_eq_true hc.2.2
    cases h1:(decide (x.length<y.length)||decide (Builtin.Str.strKind x<Builtin.Str.strKind y))
    · cases hf:(occurrences x y 0 x.length (x.length+1)).isEmpty
      · refine call_meets F.slot_str_split (typeIs_str s x t) F.entry_str_split (F.args_str_split_2 _ _) (meets_str_split_sep x y t u h1 hc.1 hf hx hn) ?_
        show wants Q E _ { s with toks:=_,heap:=s.heap.push { cls:=.type "list",data:=.seq (strsFrom s.toks (partsBetween x (occurrences x y 0 x.length (x.length+1)) y.length)).toArray } }
        rw [strsFrom_eq]
        exact fin (numbered s.toks _) _ ((numbered_texts _ _).trans ((if_neg (ne_true_of_eq_false h1)).trans (if_neg (ne_true_of_eq_false hf))).symm)
      · exact call_meets F.slot_str_split (typeIs_str s x t) F.entry_str_split (F.args_str_split_2 _ _) (meets_str_split_not_found x y t u h1 hc.1 hf) (fin [(x,t)] s.toks ((if_neg (ne_true_of_eq_false h1)).trans (if_pos hf)).symm)
    · exact call_meets F.slot_str_split (typeIs_str s x t) F.entry_str_split (F.args_str_split_2 _ _) (meets_str_split_cannot_occur x y t u h1) (fin [(x,t)] s.toks (if_pos h1).symm)
  · exact nope hd
theorem new_strCall {o:PySem.Expr} {n:Str} {apos pos:Pos} {args:List PySem.Expr} {id:String} {x:Str} {ds:List D} {l:List D} (ho:EvOk w A (eval o e) s W (.str x)) (hb:isCallE o=false) (hline:(apos.endLine==pos.line)=true)
    (hargs:EachOk w A e W s args ds) (few:Nat.blt args.length 30=true) (hm:strMeth n=some id)
    (hc:∀ s' t vs,Keeps s s'→reps s'.heap W ds vs→EvNew w A (call (.builtin id) (.str x t::vs)) s' W l):EvNew w A (eval (.Call (.Attribute o n apos) args [] pos) e) s W l:=fun Q E q=>by
  obtain ⟨slot,ty⟩:=strMeth_ok hm
  have hp:=plainArgs (pos:=pos) hargs
  have hlt:args.length<30:=by simpa using few
  refine wpAny_Call_method (base_plain hb) (by rw [any_all _ hp];simp [backToKw,keywordEach,hlt]) hline F.plainAttrs_str slot ty (ho _ E fun v s1 k1 r1=>?_)
  simp only [rep] at r1
  obtain ⟨t,rfl⟩:=r1
  refine ⟨typeIs_str _ _ _,(fun _ h=>nomatch h),?_⟩
  refine PySem.Calls.callWith_builtin hp (ok_evalArgs (hargs.later k1) _ E fun vs s2 k2 r2=>?_)
  exact hc s2 t vs (Keeps.tr k1 k2) r2 Q E fun a xs s3 k3 hn pl r3=>q a xs s3 (Keeps.tr k1 (Keeps.tr k2 k3)) (not_before (Keeps.tr k1 k2) hn) pl r3
noncomputable def onLC {α:Type} (x:PySem.Expr) (F:List PySem.Expr→Option α) (G:PySem.Expr→List PySem.Expr→List Keyword→Pos→Option α):Option α:=match vw x with | .ls l _=>F l | .call f l k p=>G f l k p|_=>none
@[elab_as_elim] theorem onLC_e {α:Type} {d:α} (x:PySem.Expr) {F G} {P:PySem.Expr→Prop} (h:onLC x F G=some d) (q:∀ l p,F l=some d→P (.List l p)) (r:∀ f l k p,G f l k p=some d→P (.Call f l k p)):P x:=by
  rw [← vw_eq x]
  unfold onLC at h
  generalize vw x=v at h
  cases v<;>first|exact q _ _ h|exact r _ _ _ _ h|exact nope h
noncomputable def evNew (o:Ops) (c:Cx) (x:PySem.Expr):Option (List D) :=
  onLC x (fun xs=>(evL (o.ev c) xs).bind fun ds=>if Nat.ble ds.length 100000 then some ds else none)
    fun f args ks pos=>onNil ks (onAttr f fun ob n apos=>if !isCallE ob&&(apos.endLine==pos.line&&Nat.blt args.length 30) then onD (o.ev c ob) asStr fun x=>(strMeth n).bind fun mid=>(evL (o.ev c) args).bind fun ds=>if mid=="str.split" then onOne ds fun y=>(asStr y).bind fun y=>splitD x y else none else none)
theorem evNew_ok {o:Ops} (Sd:SoundEv w A o.ev) {c:Cx} {x:PySem.Expr} {l:List D} (Y:YP w s.heap) (hW:WOk s.heap W) (R:EnvR e s.heap W c.nm c.σ) (h:evNew o c x=some l):EvNew w A (eval x e) s W l:=by
  refine onLC_e x h (fun xs p h=>bnd_e h fun ds hds h=>if_e h fun hn h=>Option.some.inj h▸new_List (each_of Sd Y hW R _ _ hds) hn) fun f args ks pos h=>onNil_e ks h fun h=>onAttr_e f h fun ob n apos h=>if_e h fun hc h=>onD_e asStr_g h fun x hx h=>bnd_e h fun id hid h=>bnd_e h fun ds hds h=>if_e h fun hsp hz=>?_
  simp only [Bool.and_eq_true,Bool.not_eq_true'] at hc
  have hsp:=eq_of_beq hsp
  subst hsp
  revert hds
  refine onOne_e ds hz fun y hz hds=>bnd_e hz fun b hb hz=>?_
  rw [asStr_g hb] at hds
  exact new_strCall (Sd e W c s _ _ Y hW R hx) hc.1 hc.2.1 (each_of Sd Y hW R _ _ hds) hc.2.2 hid fun s' t vs k r=>new_split hz r
theorem t2_alloc {x:PySem.Expr} {p pos:Pos} {l:List D} {rest:List Stmt} {d:D} {g1:Sg} (S:St2 w e s M W W0 on a g) (hn:g.own=none) (hno:g.σ.lookup on=none) (hk:mineK e on=true) (hs:swapsWith x (some (.Name on p)) pos.line e=pure false)
    (h:EvNew w A (eval x e) s W l) (hr:∀ b M' W' s',St2 w e s' M' W' W0 on b ⟨g.σ,some (true,l)⟩→StOk2 w A e M' W' W0 on b (execs rest e) s' (.ret d) g1) :
    StOk2 w A e M W W0 on a (execs (.Assign [.Name on p] x pos::rest) e) s (.ret d) g':=fun Q E q=>by
  refine wpAny_execs_cons (wpAny_Assign_Name (hs:=hs) (h _ E fun b xs s1 k1 nb pl r1=>?_))
  have P:=S.plain
  have hbW:b∉W:=fun m=>by obtain ⟨o,g⟩:=P.fr.wok b m;rw [nb] at g;cases g
  have hbM:b∉M:=fun m=>hbW (P.fr.sub b m)
  have hb3:302≤b:=new_hi P.base nb
  have P1:StR w e s1 M ([b]++W) g.σ:=P.beside k1 (fun c hc=>List.mem_singleton.1 hc▸nb) fun c hc=>by
    obtain ⟨n,g⟩:=pl;exact ⟨_,List.mem_singleton.1 hc▸g⟩
  have loc:isLoc (e.scope.names.lookup on)=true:=by
    unfold mineK at hk
    rcases Bool.or_eq_true_iff.mp hk with hk|hk<;>(rw [show e.scope.names.lookup on=_ from eq_of_beq hk];rfl)
  refine ok_store (d:=.raw (.ref b)) P1 List.not_mem_nil hk rfl fun s2 k2 S2=>?_
  have hk2:=KeepsW.heap k2
  have S3:St2 w e s2 (b::M) ([b]++W) W0 on b ⟨g.σ,some (true,l)⟩:=by
    refine ⟨S2.more (fun c hc=>List.mem_cons_of_mem _ hc) (fun c hc=>?_) (fun c hc=>?_),fun c hc=>List.mem_append_right _ (S.w0 c hc),fun p' l' h=>?_,fun x h=>⟨hno,loc⟩⟩
    · rcases List.mem_cons.1 hc with hc|hc
      · exact hc▸List.mem_cons_self
      · exact List.mem_append_right _ (P.fr.sub c hc)
    · rcases List.mem_cons.1 hc with hc|hc
      · exact hc▸hb3
      · exact P.hi c hc
    · cases h
      refine ⟨List.mem_cons_self,fun m=>hbW (S.w0 b m),xs,islist_keep (fun o g=>hk2 _ o hbM g) pl.isList,fun _=>pl.at fun o g=>hk2 _ o hbM g,reps_keepW hk2 (fun c hc=>List.mem_append_right _ (P.fr.sub c hc)) _ _ r1⟩
  refine hr b _ _ s2 S3 Q E fun f s3 k3 _ r3=>q f s3 ?_ (fun h=>by cases h) r3
  have k:KeepsW ([b]++M) s s3:=KeepsW.tr (KeepsW.of k1) (KeepsW.tr (k2.weak fun c hc=>List.mem_append_right _ hc) k3)
  exact k.drop fun c hc=>List.mem_singleton.1 hc▸nb
end
end
end Mine
end
section
open PySem PySem.W PyProof.Rows
namespace Mine
section
noncomputable def UseOk (w:World) (A:Around) (e:Env) (s:Shared) (W:List Addr) (x:PySem.Expr) (d:D):Prop :=
  ∀ (u:Value→Sem Unit) (Q:Shared→Prop) (E:Value→Shared→Prop),(∀ v C s',Keeps s s'→s.heap.get? C=none→(∃ m,s'.heap.Ns C m)→rep s'.heap ([C]++W) d v →
      wpAny (model pw w) A (u v) (fun _ s''=>∃ m,s''.heap.Ns C m∧∀ h',Heap.SameBut C s''.heap h'→Q { s'' with heap:=h' }) E s') →
    wpAny (model pw w) A (evalThenUse x e u) (fun _ s'=>Q s') E s
noncomputable def isLC:PySem.Expr→Bool
  | .ListComp ..=>true
  | _=>false
noncomputable def SoundUse (w:World) (A:Around) (ev:Cx→PySem.Expr→Option D):Prop:=∀ (e:Env) (W:List Addr) (c:Cx) (s:Shared) (x:PySem.Expr) (d:D),isLC x=true→YP w s.heap→WOk s.heap W→EnvR e s.heap W c.nm c.σ→ev c x=some d→UseOk w A e s W x d
section
variable {w:World} {A:Around} {e:Env} {s:Shared} {M W W0:List Addr} {on:Str} {a:Addr} {g g':Sg}
theorem swaps_LC {x:PySem.Expr} {n:Str} {p:Pos} {l:Nat} (h:isLC x=true):swapsWith x (some (.Name n p)) l e=pure false∨(swapsWith x (some (.Name n p)) l e=pure true):=by
  cases x<;>first|(cases h;done)|skip
  rename_i elt gens scope pos
  have:∃ b:Bool,swapsWith (.ListComp elt gens scope pos) (some (.Name n p)) l e=pure b:=⟨_,rfl⟩
  obtain ⟨b,hb⟩:=this
  cases b
  · exact .inl hb
  · exact .inr hb
theorem t2_AssignUse {n:Str} {p pos:Pos} {x:PySem.Expr} {d:D} (S:St2 w e s M W W0 on a g) (hm:mayStore e on g n=true) (hs:swapsWith x (some (.Name n p)) pos.line e=pure true) (h:UseOk w A e s W x d) :
    StOk2 w A e M W W0 on a (exec (.Assign [.Name n p] x pos) e) s .next ⟨(n,d)::g.σ,g.own⟩:=fun Q E q=>by
  rw [exec_Assign_Name_used _ _ _ _ hs]
  refine wpAny_bind (wpAny_standAt (wpAny_bind ?_))
  refine wpAny_mono (h (assign (.Name n p) e) (fun s'=>Q .next s') E fun v C s1 k1 hC hns rv=>?_) (fun _ s' hq=>wpAny_pure hq) fun _ _ x=>x
  have P:=S.plain
  have fr:∀ b∈[C],s.heap.get? b=none:=fun b hb=>List.mem_singleton.1 hb▸hC
  have hCW:∀ b∈W,b∉[C]:=fun b hb m=>by obtain ⟨o,g⟩:=P.fr.wok b hb;rw [fr b m] at g;cases g
  have al:∀ s':Shared,(∃ m,s'.heap.Ns C m)→∀ b∈[C],∃ o,s'.heap.get? b=some o:=fun s' ⟨m,o,es,ep,g,_⟩ b hb=>⟨o,List.mem_singleton.1 hb▸g⟩
  have S1:=S.beside k1 fr (al s1 hns)
  refine wpAny_assign_Name (store2 S1 (mayStore_split hm).2 (mayStore_split hm).1 rv fun s2 k2 S2=>?_)
  refine el42 hns fun m o es ep gC r=>?_
  have hCM:C∉M:=fun m=>hCW C (P.fr.sub C m) List.mem_cons_self
  refine ⟨m,⟨o,es,ep,KeepsW.heap k2 C o hCM gC,r⟩,fun h' hs'=>?_⟩
  have hk:HKW [C] s2.heap h':=fun b o hb g=>hs'.extBut b o (fun q=>hb (q▸List.mem_cons_self)) g
  have S3:=S2.stepOff (tk:=s2.toks) S.w0 P.fr.sub hk hCW (P.frameOn fr) fun b hb=>new_hi P.base (fr b hb)
  refine q _ _ ?_ (fun _=>S3) rfl
  have kk:KeepsW ([C]++M) s { s2 with heap:=h' }:=KeepsW.tr (KeepsW.of k1) (KeepsW.tr (k2.weak fun b hb=>List.mem_append_right _ hb) ⟨h',s2.toks,rfl,fun b o hb g=>hk b o (fun m=>hb (List.mem_append_left _ m)) g⟩)
  exact kk.drop fr
end
end
section
noncomputable def okOn (on:Str):Bool:=!(on==("__debug__":Str))&&!(on==("__classdict__":Str))
noncomputable def stN (st:Stmt):Option Str:=match sv st with
  | .ret x _=>x.bind fun x=>onName x fun n _=>some n
  | .for_ _ x _ _ _=>onName x fun n _=>some n
  | _=>none
noncomputable def frozenAt (on:Str) (g:Sg) (st:Stmt):Option (List D):=g.own.bind fun x=>(stN st).bind fun n=>if n==on then some x.2 else none
noncomputable def mayStoreN (nm:List (Str × NameKind)) (on:Str) (g:Sg) (n:Str):Bool:=mineN nm n&&!(g.own.isSome&&n==on)
noncomputable def notSlice:PySem.Expr→Bool
  | .Slice ..=>false
  | _=>true
theorem notSlice_aug {i:PySem.Expr} (h:notSlice i=true):∀ ov iv new,augStore i ov iv new=(do holding [new,ov,iv] (setItem ov iv new);release [new,ov,iv] [];pure .next):=fun ov iv new=>by
  cases i<;>first|rfl|cases h
noncomputable def nmL (nm:List (Str × NameKind)) (ts:List PySem.Expr):List Str:=ts.filterMap fun
    | .Name id pos=>if nm.lookup id==some .local&&pos.line==(ts.head?.map (·.pos.line)).getD 0 then some id else none
    | _=>none
noncomputable def starB (vs:List PySem.Expr):Bool:=vs.any fun | .Starred ..=>true|_=>false
noncomputable def swapN (nm:List (Str × NameKind)) (ts vs:List PySem.Expr):Option (List Str) :=
  if !(!(ts.length==2||ts.length==3)||vs.length != ts.length)&&!(starB vs)&&!((nmL nm ts).length != ts.length||(nmL nm ts).eraseDups.length != (nmL nm ts).length)&&!(vs.all (foldedForSure 8))&&!(vs.all (constantsAlone 8)) then some (nmL nm ts) else none
theorem swapN_ok {e:Env} {ts vs:List PySem.Expr} {k k':Nat} {p p':Pos} {names:List Str} (hk:e.scope.kind=.function) (h:swapN e.scope.names ts vs=some names):swappedStores [.Tuple ts k p] (.Tuple vs k' p') e=pure (some names):=by
  have e1:swappedStores [.Tuple ts k p] (.Tuple vs k' p') e=(if (!(ts.length==2||ts.length==3)||vs.length != ts.length||e.blockKind != .function)=true then pure none else
      if (starB vs)=true then pure none else
      if ((nmL e.scope.names ts).length != ts.length||(nmL e.scope.names ts).eraseDups.length != (nmL e.scope.names ts).length)=true then pure none else
      if vs.all (foldedForSure 8)=true then pure none else
      if vs.all (constantsAlone 8)=true then (do unsupported "assign.tuple-of-constant-expressions:order-of-the-stores";return some (nmL e.scope.names ts)) else pure (some (nmL e.scope.names ts))):=rfl
  rw [e1]
  unfold swapN at h
  generalize nmL e.scope.names ts=N at h ⊢
  split at h
  · rename_i hc
    simp only [Bool.and_eq_true,Bool.not_eq_true'] at hc
    obtain ⟨⟨⟨⟨h1,h3⟩,h4⟩,h6⟩,h7⟩:=hc
    have hb:(e.blockKind != .function)=false:=by unfold Env.blockKind;rw [hk];rfl
    cases h
    rw [h1,hb,h3,h4,h6,h7]
    rfl
  · exact nope h
noncomputable def onOwn {α:Type} (g:Sg) (F:Bool→List D→Option α):Option α:=g.own.bind fun x=>F x.1 x.2
noncomputable def retS (o:Ops) (on:Str) (nm:List (Str × NameKind)) (g:Sg) (x:Option PySem.Expr):Option (FlD × Sg):=x.bind fun x=>(ev2 o nm on g x).map fun d=>(.ret d,g)
noncomputable def asgS (o:Ops) (on:Str) (nm:List (Str × NameKind)) (g:Sg) (ts:List PySem.Expr) (x:PySem.Expr):Option (FlD × Sg) :=
  onOne ts fun t=>onNT t (fun n _=>if mayStoreN nm on g n then (if notComp x then (ev2 o nm on g x).map fun d=>(.next,⟨(n,d)::g.σ,g.own⟩) else if isLC x then (o.ev ⟨nm,g.σ⟩ x).map fun d=>(.next,⟨(n,d)::g.σ,g.own⟩) else none) else none)
    fun ts k p=>onTup x fun vs k' p'=>(swapN nm ts vs).bind fun ns=>onD (ev2 o nm on g (.Tuple vs k' p')) asTup fun ds=>if ns.all (mayStoreN nm on g) then (bindAll ns.reverse ds.reverse g.σ).map fun σ'=>(.next,⟨σ',g.own⟩) else none
noncomputable def augS (o:Ops) (on:Str) (nm:List (Str × NameKind)) (g:Sg) (t:PySem.Expr) (op:Operator) (x:PySem.Expr):Option (FlD × Sg) :=
  onNS t (fun n _=>if mayStoreN nm on g n&&!(n==("__classdict__":Str)) then onD (g.σ.lookup n) asInt fun i=>onD (ev2 o nm on g x) asInt fun j=>(iopI op i j).map fun z=>(.next,⟨(n,.int z)::g.σ,g.own⟩) else none)
    fun v i _=>onName v fun n _=>if n==on&&(okOn on&&notSlice i) then onOwn g fun _ l=>onD (ev2 o nm on g i) asNat fun k=>onD (ev2 o nm on g x) asInt fun b=>onD l[k]? asInt fun y=>if Nat.ble k 99999 then (iopI op y b).map fun z=>(.next,⟨g.σ,some (false,l.set k (.int z))⟩) else none else none
noncomputable def expS (o:Ops) (on:Str) (nm:List (Str × NameKind)) (g:Sg) (x:PySem.Expr):Option (FlD × Sg) :=
  onCall x fun f a k cpos=>onAttr f fun ob m apos=>onOne a fun x=>on01 k (onName ob fun n _=>if n==on&&(m==("append":Str))&&(okOn on&&(!isStar x&&(apos.endLine==cpos.line))) then onOwn g fun b l=>(ev2 o nm on g x).bind fun d=>if b&&Nat.ble l.length 99999 then some (.next,⟨g.σ,some (true,l++[d])⟩) else none else none)
    fun kw=>(ev2 o nm on g (.Call (.Attribute ob m apos) [x] [kw] cpos)).map fun _=>(.next,g)
noncomputable def delS (o:Ops) (on:Str) (nm:List (Str × NameKind)) (g:Sg) (ts:List PySem.Expr):Option (FlD × Sg) :=
  onOne ts fun t=>onSub t fun v i _=>onName v fun n _=>if n==on&&okOn on then onOwn g fun b l=>onD (ev2 o nm on g i) asInt fun j=>(seqIndex? j l.length).bind fun k=>if b&&(Nat.ble l.length 99999&&(decide (-1000000<j)&&decide (j<1000000))) then some (.next,⟨g.σ,some (true,l.eraseIdx k)⟩) else none else none
noncomputable def st1 (o:Ops) (on:Str) (nm:List (Str × NameKind)) (rec:Sg→List Stmt→Option (FlD × Sg)) (g:Sg) (st:Stmt):Option (FlD × Sg):=match sv st with
  | .ret x _=>retS o on nm g x
  | .asg ts x _=>asgS o on nm g ts x
  | .aug t op x _=>augS o on nm g t op x
  | .ift t b e _=>(tr2 o nm on g t).bind fun c=>rec g (if c then b else e)
  | .for_ t iter body l _=>onNil l ((srcD o ⟨nm,g.σ⟩ iter).bind fun x=>if x.2 t then forD (fun g=>(tgNames t).all (mayStoreN nm on g)) t (fun g=>rec g body) x.1 g else none)
  | .asr t _ _=>(tr2 o nm on g t).bind fun c=>if c then some (.next,g) else none
  | .exp x _=>expS o on nm g x
  | .del ts _=>delS o on nm g ts
  | .no=>none
noncomputable def allocAt (o:Ops) (on:Str) (nm:List (Str × NameKind)) (g:Sg) (st:Stmt):Option (List D):=match sv st with
  | .asg ts x _=>onOne ts fun t=>onName t fun n _=>if n==on&&g.own.isNone&&(g.σ.lookup on).isNone&&mineN nm on&&notComp x then evNew o ⟨nm,g.σ⟩ x else none
  | _=>none
noncomputable def retOnly:Option (FlD × Sg)→Option (FlD × Sg)
  | some (.ret d,g)=>some (.ret d,g)
  | _=>none
noncomputable def exs2 (o:Ops) (on:Str) (nm:List (Str × NameKind)):Nat→Sg→List Stmt→Option (FlD × Sg)
  | 0,_,_=>none
  | _+1,g,[]=>some (.next,g)
  | k+1,g,st::rest=>match frozenAt on g st with
    | some l=>retOnly (exs2 o on nm k ⟨(on,.list l)::g.σ,none⟩ (st::rest))
    | none=>match allocAt o on nm g st with
      | some l=>retOnly (exs2 o on nm k ⟨g.σ,some (true,l)⟩ rest)
      | none=>match st1 o on nm (exs2 o on nm k) g st with
        | some (.next,g')=>exs2 o on nm k g' rest
        | some (.ret d,g')=>some (.ret d,g')
        | none=>none
section
variable {w:World} {A:Around} {e:Env} {on:Str}
theorem stores_bind:∀ (ns:List Str),StoresOf w A e ns (ns.map fun n=>bindName e n)
  | []=>.nil
  | n::ns=>.cons store_bind (stores_bind ns)
theorem reps_rev {h:Heap} {W:List Addr}:∀ (l:List D) (xs:List Value),reps h W l xs→reps h W l.reverse xs.reverse
  | [],xs,r=>by simp only [reps] at r;subst r;simp [reps]
  | d::l,xs,r=>by
    simp only [reps] at r
    obtain ⟨v,vs,rfl,r1,r2⟩:=r
    simp only [List.reverse_cons]
    exact reps_append _ [d] _ [v] (reps_rev l vs r2) (by simp only [reps];exact ⟨_,_,rfl,r1,rfl⟩)
noncomputable def RecOk (w:World) (A:Around) (e:Env) (on:Str) (rec:Sg→List Stmt→Option (FlD × Sg)):Prop :=
  ∀ (M W W0:List Addr) (a:Addr) (g:Sg) (l:List Stmt) (fl:FlD) (g':Sg) (s:Shared),St2 w e s M W W0 on a g→rec g l=some (fl,g')→StOk2 w A e M W W0 on a (execs l e) s fl g'
theorem t2_swap {M W W0:List Addr} {a:Addr} {g:Sg} {s:Shared} {ts vs:List PySem.Expr} {k k':Nat} {p p' pos:Pos} {ns:List Str} {ds:List D} {σ':List (Str × D)} (hh:A.handled=none) (S:St2 w e s M W W0 on a g) (hs:swapN e.scope.names ts vs=some ns) (hv:EvOk w A (eval (.Tuple vs k' p') e) s W (.tup ds))
    (hm:ns.all (mayStoreN e.scope.names on g)=true) (hb:bindAll ns.reverse ds.reverse g.σ=some σ'):StOk2 w A e M W W0 on a (exec (.Assign [.Tuple ts k p] (.Tuple vs k' p') pos) e) s .next ⟨σ',g.own⟩:=fun Q E q=>by
  refine Assign_Tuple_swapped (names:=ns) (hv _ E fun v s1 k1 r1=>?_) (by rfl) (swapN_ok S.plain.fr.env.kind hs)
  have hlen:=bindAll_len hb
  simp only [List.length_reverse] at hlen
  refine ok_unpackItems hh r1 rfl hlen fun us s2 k2 r2=>?_
  have S2:=(S.keep k1).keep k2
  refine ok_stores (stores_bind ns.reverse) ds.reverse us.reverse g σ' s2 _ E S2 (by rw [List.all_reverse];exact hm) (reps_rev _ _ r2) hb fun s3 k3 S3=>q _ s3 (KeepsW.tr (KeepsW.of (Keeps.tr k1 k2)) k3) (fun _=>S3) rfl
theorem t2_Expr {M W W0:List Addr} {a:Addr} {g:Sg} {s:Shared} {x:PySem.Expr} {pos:Pos} {d:D} (S:St2 w e s M W W0 on a g) (hn:notComp x=true) (h:EvOk w A (eval x e) s W d):StOk2 w A e M W W0 on a (exec (.Expr x pos) e) s .next g:=fun Q E q=>by
  have hi:interactive e=false:=by unfold interactive;rw [S.plain.fr.env.kind];rfl
  exact wpAny_Expr_any (hi:=hi) (hs:=noSwap hn) (h _ E fun v s1 k1 r1=>q _ s1 (KeepsW.of k1) (fun _=>S.keep k1) rfl)
theorem map_s {β:Type} {a:Option β} {F:β→FlD × Sg} {fl:FlD} {g:Sg} {P:FlD→Sg→Prop} (h:a.map F=some (fl,g)) (q:∀ b,a=some b→P (F b).1 (F b).2):P fl g:=by
  cases a with
  | none=>exact nope h
  | some b =>
    have e:F b=(fl,g):=Option.some.inj h
    have:=q b rfl
    rw [e] at this
    exact this
theorem st1_ok {o:Ops} (hh:A.handled=none) (Sd:SoundEv w A o.ev) (T:SoundTr w A o.tr) (Us:SoundUse w A o.ev) {rec:Sg→List Stmt→Option (FlD × Sg)} (R:RecOk w A e on rec) {M W W0:List Addr} {a:Addr} {g:Sg} {st:Stmt} {fl:FlD} {g':Sg} {s:Shared} (S:St2 w e s M W W0 on a g) (h:st1 o on e.scope.names rec g st=some (fl,g')) :
    StOk2 w A e M W W0 on a (exec st e) s fl g':=by
  have ev:∀ {x d},ev2 o e.scope.names on g x=some d→∀ s',Keeps s s'→EvOk w A (eval x e) s' W d:=fun hx s' k=>ev2_ok Sd (S.keep k) hx
  have now:∀ {x d},ev2 o e.scope.names on g x=some d→EvOk w A (eval x e) s W d:=fun hx=>ev2_ok Sd S hx
  rw [← sv_eq st]
  unfold st1 at h
  generalize sv st=v at h
  have own:∀ {α:Type} {F:Bool→List D→Option α} {r:α} {P:Prop},onOwn g F=some r→(∀ b l,g.own=some (b,l)→F b l=some r→P)→P:=fun h q=>bnd_e h fun x hx h=>q _ _ hx h
  cases v with
  | ret x p=>exact bnd_e h fun x hx hz=>by subst hx;exact map_s hz fun d hd=>t2_Return S (now hd)
  | asg ts x p =>
    refine onOne_e ts h fun t h=>onNT_e t h (fun n p h=>if_e h fun hc h=>?_) fun ts k p h=>onTup_e x h fun vs k' p' h=>bnd_e h fun ns hs h=>onD_e asTup_g h fun ds hv h=>if_e h fun hm h=>map_s h fun σ' hb=>t2_swap hh S hs (now hv) hm hb
    by_cases hnc:notComp x=true
    · rw [if_pos hnc] at h
      exact map_s h fun d hd=>t2_Assign S hc (noSwap hnc) (now hd)
    · rw [if_neg hnc] at h
      refine if_e h fun hlc h=>map_s h fun d hd=>?_
      have P:=S.plain
      rcases swaps_LC hlc with hs|hs
      · exact t2_Assign S hc hs (Sd e W ⟨e.scope.names,g.σ⟩ s _ _ P.base P.fr.wok P.fr.env hd)
      · exact t2_AssignUse S hc hs (Us e W ⟨e.scope.names,g.σ⟩ s _ _ hlc P.base P.fr.wok P.fr.env hd)
  | aug t op x p =>
    refine onNS_e t h (fun n p h=>if_e h fun hc h=>onD_e asInt_g h fun i hi h=>onD_e asInt_g h fun j hj h=>map_s h fun z hz=>?_) fun v i p h=>onName_e v h fun n p h=>if_e h fun hc h=>own h fun b l ho h=>onD_e asNat_g h fun k hi h=>onD_e asInt_g h fun b hx h=>onD_e asInt_g h fun y hl h=>if_e h fun hk h=>map_s h fun z hz=>?_
    · simp only [Bool.and_eq_true,Bool.not_eq_true'] at hc
      exact t2_Aug S hc.1 hi (ev hj) hz hc.2
    · simp only [Bool.and_eq_true,beq_iff_eq,okOn,Bool.not_eq_true'] at hc
      obtain ⟨rfl,hon,hsl⟩:=hc
      exact t2_augsub S ho hon.1 hon.2 (ev hi) (Nat.lt_of_le_of_lt (Nat.le_of_ble_eq_true hk) (by decide)) hl (ev hx) hz (notSlice_aug hsl)
  | ift t b e' p=>exact bnd_e h fun c hc h=>t2_If S (tr2_ok T S hc) fun s' k S'=>R _ _ _ _ _ _ _ _ _ S' h
  | for_ t iter body l p =>
    refine onNil_e l h fun h=>bnd_e h fun x hsrc h=>if_e h fun htg h=>?_
    have P:=S.plain
    obtain ⟨h1,h2⟩:=src_ok (c:=⟨e.scope.names,g.σ⟩) Sd P.base P.fr.wok P.fr.env hsrc
    exact t2_For hh S h1 h2 htg (fun g hg=>hg) (fun W2 g1 fl1 g2 s1 S1 hb=>R _ _ _ _ _ _ _ _ _ S1 hb) h
  | asr t m p =>
    refine bnd_e h fun c hc h=>if_e h fun ht hz=>?_
    cases hz
    rw [ht] at hc
    exact t2_Assert S (tr2_ok T S hc)
  | exp x p =>
    refine onCall_e x h fun f a k cpos h=>onAttr_e f h fun ob m apos h=>onOne_e a h fun x h=>on01_e k h (fun h=>onName_e ob h fun n p h=>if_e h fun hc h=>own h fun b l ho h=>bnd_e h fun d hx h=>if_e h fun hsz hz=>?_) fun kw h=>map_s h fun d hd=>t2_Expr S rfl (now hd)
    simp only [Bool.and_eq_true,beq_iff_eq,Bool.not_eq_true',okOn] at hc hsz
    obtain ⟨⟨rfl,rfl⟩,hon,hst,hline⟩:=hc
    obtain ⟨rfl,hsz⟩:=hsz
    cases hz
    exact t2_append S ho hon.1 hon.2 hst (by rw [hline];exact BEq.rfl) (Nat.lt_of_le_of_lt (Nat.le_of_ble_eq_true hsz) (by decide)) (ev hx)
  | del ts p =>
    refine onOne_e ts h fun t h=>onSub_e t h fun v i p h=>onName_e v h fun n p h=>if_e h fun hc h=>own h fun b l ho h=>onD_e asInt_g h fun j hi h=>bnd_e h fun k hk h=>if_e h fun hb hz=>?_
    simp only [Bool.and_eq_true,beq_iff_eq,Bool.not_eq_true',okOn,decide_eq_true_eq] at hc hb
    obtain ⟨rfl,hon⟩:=hc
    obtain ⟨rfl,hb1,hb2⟩:=hb
    cases hz
    exact t2_del S ho hon.1 hon.2 (ev hi) hb2 hk (Nat.lt_of_le_of_lt (Nat.le_of_ble_eq_true hb1) (by decide))
  | no=>exact nope h
theorem retOnly_eq {x:Option (FlD × Sg)} {fl:FlD} {g:Sg} (h:retOnly x=some (fl,g)):∃ d,fl=.ret d∧x=some (.ret d,g):=by
  unfold retOnly at h
  split at h
  · cases h;exact ⟨_,rfl,rfl⟩
  · exact nope h
theorem exs2_ok {o:Ops} (hh:A.handled=none) (Sd:SoundEv w A o.ev) (T:SoundTr w A o.tr) (Us:SoundUse w A o.ev):∀ (k:Nat),RecOk w A e on (exs2 o on e.scope.names k):=by
  intro k
  induction k with
  | zero=>intro M W W0 a g l fl g' s _ h;cases h
  | succ k ih =>
    intro M W W0 a g l fl g' s S h
    cases l with
    | nil=>cases h;exact t2_nil S
    | cons st rest =>
      unfold exs2 at h
      cases hf:frozenAt on g st with
      | some l =>
        rw [hf] at h
        obtain ⟨d,rfl,h'⟩:=retOnly_eq h
        exact bnd_e hf fun x ho hf=>bnd_e hf fun n _ hf=>if_e hf fun _ hf=>by
          have e:=Option.some.inj hf
          subst e
          exact t2_freeze (a':=a) (p:=x.1) S ho fun M' W' hM S'=>ih M' W' W0 a _ _ _ _ s S' h'
      | none =>
        rw [hf] at h
        cases hl:allocAt o on e.scope.names g st with
        | some l =>
          rw [hl] at h
          obtain ⟨d,rfl,h'⟩:=retOnly_eq h
          clear h hf
          rw [← sv_eq st]
          unfold allocAt at hl
          generalize sv st=v at hl
          cases v<;>first|exact nope hl|skip
          rename_i ts x p
          refine onOne_e ts hl fun t hl=>onName_e t hl fun n q hl=>if_e hl fun hc hz=>?_
          simp only [Bool.and_eq_true,beq_iff_eq,Option.isNone_iff_eq_none] at hc
          obtain ⟨⟨⟨⟨rfl,hn⟩,hno⟩,hk⟩,hs⟩:=hc
          have P:=S.plain
          exact t2_alloc S hn hno hk (noSwap hs) (evNew_ok (c:=⟨e.scope.names,g.σ⟩) Sd P.base P.fr.wok P.fr.env hz) fun b M' W' s' S'=>ih M' W' W0 b _ _ _ _ s' S' h'
        | none =>
          rw [hl] at h
          dsimp only at h
          cases h1:st1 o on e.scope.names (exs2 o on e.scope.names k) g st with
          | none=>rw [h1] at h;exact nope h
          | some r =>
            rw [h1] at h
            obtain ⟨f1,g1⟩:=r
            cases f1 with
            | next=>exact t2_cons_next (st1_ok hh Sd T Us ih S h1) fun s' k' S'=>ih _ _ _ _ _ _ _ _ s' S' h
            | ret d =>
              cases h
              exact t2_cons_ret (st1_ok hh Sd T Us ih S h1)
end
end
section
theorem noUse {w:World} {A:Around} {ct:CT}:∀ m,SoundUse w A (ops w ct m).ev
  | 0=>fun e W c s x d hl _ _ _ h=>by cases h
  | m+1=>fun e W c s x d hl _ _ _ h=>by
    cases x<;>first|(cases hl;done)|(cases h;done)
theorem def_ok2 {w:World} {ct:CT} {n m k:Nat} {a:Addr} {fd:FuncData} {ps:List Str} {body:List Stmt} {ds:List D} {d:D} {g':Sg} (on:Str) (F:DefR w a fd ps body) (C:∀ f ds d,ct f ds=some d→Contract w n f ds d) (hl:ds.length=ps.length)
    (h:exs2 (ops w ct m) on fd.scope.names k ⟨ps.zip ds,none⟩ body=some (.ret d,g')):Contract w (n+1) (.ref a) ds d:=fun A R =>
  ok_def F (by have:=R.d;lia) hl fun s' L M W' W0 S h0 Q E q=>by
    have R':Room (A.deeper (callEnvC fd L a)) n:=R.deeper
    have sd:=sound_ops (w:=w) (ct:=ct) R'.h (by have:=R'.u;lia) (fun f ds d hc=>C f ds d hc _ R') m
    exact exs2_ok (e:=callEnvC fd L a) (on:=on) R'.h sd.1 sd.2 (noUse m) k M W' W0 0 ⟨ps.zip ds,none⟩ _ _ _ s' ⟨S,h0,fun p l h=>(by cases h),fun x h=>(by cases h)⟩ h Q E fun f s2 k2 _ r=>q f s2 k2 r
end
section
section
variable {o:Ops} {on:Str} {nm:List (Str × NameKind)} {k:Nat} {g g':Sg} {st:Stmt} {rest:List Stmt}
theorem x2_next (h1:frozenAt on g st=none) (h2:allocAt o on nm g st=none) (h3:st1 o on nm (exs2 o on nm k) g st=some (.next,g')):exs2 o on nm (k+1) g (st::rest)=exs2 o on nm k g' rest:=by
  show (match frozenAt on g st with
    | some l=>retOnly (exs2 o on nm k ⟨(on,.list l)::g.σ,none⟩ (st::rest))
    | none=>match allocAt o on nm g st with
      | some l=>retOnly (exs2 o on nm k ⟨g.σ,some (true,l)⟩ rest)
      | none=>match st1 o on nm (exs2 o on nm k) g st with
        | some (.next,g')=>exs2 o on nm k g' rest
        | some (.ret d,g')=>some (.ret d,g')
        | none=>none)=_
  rw [h1,h2,h3]
theorem x2_ret {d:D} (h1:frozenAt on g st=none) (h2:allocAt o on nm g st=none) (h3:st1 o on nm (exs2 o on nm k) g st=some (.ret d,g')):exs2 o on nm (k+1) g (st::rest)=some (.ret d,g'):=by
  show (match frozenAt on g st with
    | some l=>retOnly (exs2 o on nm k ⟨(on,.list l)::g.σ,none⟩ (st::rest))
    | none=>match allocAt o on nm g st with
      | some l=>retOnly (exs2 o on nm k ⟨g.σ,some (true,l)⟩ rest)
      | none=>match st1 o on nm (exs2 o on nm k) g st with
        | some (.next,g')=>exs2 o on nm k g' rest
        | some (.ret d,g')=>some (.ret d,g')
        | none=>none)=_
  rw [h1,h2,h3]
theorem x2_alloc {l:List D} (h1:frozenAt on g st=none) (h2:allocAt o on nm g st=some l):exs2 o on nm (k+1) g (st::rest)=retOnly (exs2 o on nm k ⟨g.σ,some (true,l)⟩ rest):=by
  show (match frozenAt on g st with
    | some l=>retOnly (exs2 o on nm k ⟨(on,.list l)::g.σ,none⟩ (st::rest))
    | none=>match allocAt o on nm g st with
      | some l=>retOnly (exs2 o on nm k ⟨g.σ,some (true,l)⟩ rest)
      | none=>match st1 o on nm (exs2 o on nm k) g st with
        | some (.next,g')=>exs2 o on nm k g' rest
        | some (.ret d,g')=>some (.ret d,g')
        | none=>none)=_
  rw [h1,h2]
theorem x2_freeze {l:List D} (h1:frozenAt on g st=some l):exs2 o on nm (k+1) g (st::rest)=retOnly (exs2 o on nm k ⟨(on,.list l)::g.σ,none⟩ (st::rest)):=by
  show (match frozenAt on g st with
    | some l=>retOnly (exs2 o on nm k ⟨(on,.list l)::g.σ,none⟩ (st::rest))
    | none=>match allocAt o on nm g st with
      | some l=>retOnly (exs2 o on nm k ⟨g.σ,some (true,l)⟩ rest)
      | none=>match st1 o on nm (exs2 o on nm k) g st with
        | some (.next,g')=>exs2 o on nm k g' rest
        | some (.ret d,g')=>some (.ret d,g')
        | none=>none)=_
  rw [h1]
theorem s1_For {rec:Sg→List Stmt→Option (FlD × Sg)} {t iter:PySem.Expr} {body:List Stmt} {p:Pos} {ds:List D} {tg:PySem.Expr→Bool} (h1:srcD o ⟨nm,g.σ⟩ iter=some (ds,tg)) (h2:tg t=true) :
    st1 o on nm rec g (.For t iter body [] p)=forD (fun g=>(tgNames t).all (mayStoreN nm on g)) t (fun g=>rec g body) ds g:=by
  show (srcD o ⟨nm,g.σ⟩ iter).bind _=_
  rw [h1]
  show (if tg t=true then _ else none)=_
  rw [if_pos h2]
theorem s1_augsub {rec:Sg→List Stmt→Option (FlD × Sg)} {n:Str} {p tp pos:Pos} {i x:PySem.Expr} {op:Operator} {pl:Bool} {l:List D} {j:Nat} {y b z:Int} (h0:(n==on&&(okOn on&&notSlice i))=true) (ho:g.own=some (pl,l))
    (hi:ev2 o nm on g i=some (.int (.ofNat j))) (hx:ev2 o nm on g x=some (.int b)) (hl:l[j]?=some (.int y)) (hk:j≤99999) (hz:iopI op y b=some z) :
    st1 o on nm rec g (.AugAssign (.Subscript (.Name n p) i tp) op x pos)=some (.next,⟨g.σ,some (false,l.set j (.int z))⟩):=by
  show (if (n==on&&(okOn on&&notSlice i))=true then g.own.bind _ else none)=_
  rw [if_pos h0,ho]
  show onD (ev2 o nm on g i) asNat _=_
  rw [hi]
  show onD (ev2 o nm on g x) asInt _=_
  rw [hx]
  show onD l[j]? asInt _=_
  rw [hl]
  show (if Nat.ble j 99999=true then (iopI op y b).map _ else none)=_
  rw [if_pos (Nat.ble_eq_true_of_le hk),hz]
  rfl
theorem forD_cons {ok:Sg→Bool} {t:PySem.Expr} {body:Sg→Option (FlD × Sg)} {d:D} {ds:List D} {σ1:List (Str × D)} (h0:ok g=true) (h1:bindT t d g.σ=some σ1) (h2:body ⟨σ1,g.own⟩=some (.next,g')):forD ok t body (d::ds) g=forD ok t body ds ⟨ded g'.σ,g'.own⟩:=by
  show (if ok g then _ else none)=_
  rw [if_pos h0,h1]
  simp only [h2]
end
noncomputable def forT:Stmt→PySem.Expr | .For t _ _ _ _=>t|_=>.Constant .none 0 default
noncomputable def forI:Stmt→PySem.Expr | .For _ i _ _ _=>i|_=>.Constant .none 0 default
noncomputable def forB:Stmt→List Stmt | .For _ _ b _ _=>b|_=>[]
noncomputable def posS:Stmt→Pos | .For _ _ _ _ p=>p | .AugAssign _ _ _ p=>p | .Assign _ _ p=>p|_=>default
noncomputable def augT:Stmt→PySem.Expr | .AugAssign t _ _ _=>t|_=>.Constant .none 0 default
noncomputable def augX:Stmt→PySem.Expr | .AugAssign _ _ x _=>x|_=>.Constant .none 0 default
noncomputable def subI:PySem.Expr→PySem.Expr | .Subscript _ i _=>i|x=>x
noncomputable def subP:PySem.Expr→Pos | .Subscript _ _ p=>p | .Name _ p=>p|_=>default
noncomputable def subV:PySem.Expr→PySem.Expr | .Subscript v _ _=>v|x=>x
noncomputable def dS (i:Nat):Stmt:=(fdB (stm 64)).getD i (.Pass default)
noncomputable def dB:Stmt:=(forB (dS 1)).getD 0 (.Pass default)
noncomputable def dnm (w:World):List (Str × NameKind):=(fdAt w.params 243).scope.names
theorem d_parts:fdB (stm 64)=[dS 0,dS 1,dS 2]:=by kernel_rfl!
theorem d_for:dS 1=.For (forT (dS 1)) (forI (dS 1)) (forB (dS 1)) [] (posS (dS 1)):=by kernel_rfl!
theorem d_body:forB (dS 1)=[dB]:=by kernel_rfl!
theorem d_aug:dB=.AugAssign (.Subscript (.Name "draws" (subP (subV (augT dB)))) (subI (augT dB)) (subP (augT dB))) .Add (augX dB) (posS dB):=by kernel_rfl!
noncomputable def addAt (t:List Int) (k:Nat) (b:Int):List Int:=t.set k (t.getD k 0+b)
noncomputable def drawsL:List Int→Nat→List Int→List Int
  | [],_,acc=>acc
  | x::xs,i,acc=>drawsL xs (i+1) (addAt acc (i % 3) (x.fmod 1000000))
theorem addAt_len (t:List Int) (k:Nat) (b:Int):(addAt t k b).length=t.length:=by simp [addAt]
theorem d_turn (w:World) (i:Nat) (x:Int) (p:Bool) (acc:List Int) (σ:List (Str × D)) (hacc:acc.length=3) :
    exs2 (ops w ct0 8) "draws" (dnm w) 8 ⟨("number",.int x)::("at",.int (i:Int))::σ,some (p,acc.map .int)⟩ (forB (dS 1)) =
      some (.next,⟨("number",.int x)::("at",.int (i:Int))::σ,some (false,(addAt acc (i % 3) (x.fmod 1000000)).map .int)⟩):=by
  rw [d_body]
  refine (x2_next (k:=7) (g':=⟨("number",.int x)::("at",.int (i:Int))::σ,some (false,(addAt acc (i % 3) (x.fmod 1000000)).map .int)⟩) (by kernel_rfl!) (by kernel_rfl!) ?_).trans rfl
  have e:ev2 (ops w ct0 8) (dnm w) "draws" ⟨("number",.int x)::("at",.int (i:Int))::σ,some (p,acc.map .int)⟩ (subI (augT dB))=some (.int ((i:Int).fmod 3)):=by kernel_rfl!
  have e2:ev2 (ops w ct0 8) (dnm w) "draws" ⟨("number",.int x)::("at",.int (i:Int))::σ,some (p,acc.map .int)⟩ (augX dB)=some (.int (x.fmod 1000000)):=by kernel_rfl!
  have e3:(i:Int).fmod 3=.ofNat (i % 3):=by rw [Int.fmod_eq_emod_of_nonneg _ (by lia)];rfl
  rw [e3] at e
  have h3:i % 3<acc.length:=by lia
  rw [d_aug]
  rw [s1_augsub (j:=i % 3) (y:=acc.getD (i % 3) 0) (z:=acc.getD (i % 3) 0+x.fmod 1000000) (by kernel_rfl!) rfl e e2 (by
    rw [List.getElem?_map,List.getElem?_eq_getElem h3]
    simp [List.getD_eq_getElem?_getD,List.getElem?_eq_getElem h3]) (by lia) rfl]
  simp only [addAt,List.map_set]
end
section
theorem d_loop (w:World):∀ (l:List Int) (i:Nat) (p:Bool) (acc:List Int) (σ:List (Str × D)),acc.length=3 →
    ∃ σ' p',forD (fun g=>(tgNames (forT (dS 1))).all (mayStoreN (dnm w) "draws" g)) (forT (dS 1)) (fun g=>exs2 (ops w ct0 8) "draws" (dnm w) 8 g (forB (dS 1))) (((l.map D.int).zipIdx i).map fun x=>.tup [.int (x.2:Int),x.1]) ⟨σ,some (p,acc.map .int)⟩=some (.next,⟨σ',some (p',(drawsL l i acc).map .int)⟩)∧(σ.lookup ("draws":Str)=none→σ'.lookup ("draws":Str)=none)
  | [],i,p,acc,σ,h=>⟨σ,p,rfl,id⟩
  | x::l,i,p,acc,σ,h=>by
    obtain ⟨σ',p',e,hn⟩:=d_loop w l (i+1) false (addAt acc (i % 3) (x.fmod 1000000)) (ded (("number",.int x)::("at",.int (i:Int))::σ)) (by rw [addAt_len];exact h)
    refine ⟨σ',p',?_,fun h=>hn ?_⟩
    · rw [List.map_cons,List.zipIdx_cons,List.map_cons]
      rw [forD_cons (g':=⟨("number",.int x)::("at",.int (i:Int))::σ,some (false,(addAt acc (i % 3) (x.fmod 1000000)).map .int)⟩) (σ1:=("number",.int x)::("at",.int (i:Int))::σ) (by kernel_rfl!) (by kernel_rfl!) (d_turn w i x p acc σ h)]
      exact e
    · rw [ded_lookup,List.lookup_cons,List.lookup_cons]
      exact h
theorem take_slice (L:List D) (h:L.length≤63):sliceD (.list L) none (some 63) none=some (.list L):=by
  have hs:sliceBounds none (some 63) none L.length=(((0:Nat):Int),((L.length:Nat):Int),1):=by
    rw [sliceBounds_plain]
    have:clipAt L.length 63=L.length:=by unfold clipAt;lia
    simp only [Option.elim,this]
  unfold sliceD
  simp only [hs]
  rw [sliceRange_one]
  have hb:(Nat.ble L.length sizeLine&&!((none:Option Int)==some 0))=true:=by
    rw [Nat.ble_eq_true_of_le (by rw [sizeLine_eq];lia)];rfl
  rw [if_pos hb]
  simp only [Nat.sub_zero,Nat.zero_add,List.map_id']
  rw [PySem.List.filterMap_getElem?_range_length]
theorem draws_run (w:World) (l:List Int) (h:l.length≤63):∃ g',exs2 (ops w ct0 8) "draws" (dnm w) 10 ⟨[("script",.list (l.map D.int))],none⟩ (fdB (stm 64))=some (.ret (.list ((drawsL l 0 [1096,354,218]).map .int)),g'):=by
  obtain ⟨σ',p',e,hn⟩:=d_loop w l 0 true [1096,354,218] [("script",.list (l.map D.int))] rfl
  refine ⟨⟨("draws",.list ((drawsL l 0 [1096,354,218]).map .int))::σ',none⟩,?_⟩
  have hsrc:srcD (ops w ct0 8) ⟨dnm w,[("script",.list (l.map D.int))]⟩ (forI (dS 1))=some (enumD (l.map D.int),tgTup):=by
    have h1:srcD (ops w ct0 8) ⟨dnm w,[("script",.list (l.map D.int))]⟩ (forI (dS 1))=onD (sliceD (.list (l.map D.int)) none (some 63) none) asLi fun l=>some (enumD l,tgTup):=by kernel_rfl!
    rw [h1,take_slice _ (by simpa using h)];rfl
  rw [d_parts,x2_alloc (l:=[.int 1096,.int 354,.int 218]) (by kernel_rfl!) (by kernel_rfl!)]
  have e2:st1 (ops w ct0 8) "draws" (dnm w) (exs2 (ops w ct0 8) "draws" (dnm w) 8) ⟨[("script",.list (l.map D.int))],some (true,[.int 1096,.int 354,.int 218])⟩ (dS 1)=some (.next,⟨σ',some (p',(drawsL l 0 [1096,354,218]).map .int)⟩):=by
    have ht:tgTup (forT (dS 1))=true:=by kernel_rfl!
    have e3:=s1_For (on:="draws") (rec:=exs2 (ops w ct0 8) "draws" (dnm w) 8) (g:=⟨[("script",.list (l.map D.int))],some (true,[.int 1096,.int 354,.int 218])⟩) (t:=forT (dS 1)) (body:=forB (dS 1)) (p:=posS (dS 1)) hsrc ht
    rw [← d_for] at e3
    exact e3.trans e
  rw [x2_next (k:=8) (by kernel_rfl!) (by kernel_rfl!) e2]
  rw [x2_freeze (k:=7) (l:=(drawsL l 0 [1096,354,218]).map .int) (by kernel_rfl!)]
  rw [x2_ret (k:=6) (d:=.list ((drawsL l 0 [1096,354,218]).map .int)) (g':=⟨("draws",.list ((drawsL l 0 [1096,354,218]).map .int))::σ',none⟩) (by kernel_rfl!) (by kernel_rfl!) (by kernel_rfl!)]
  rfl
theorem draws_ok (w:World) (n:Nat) (l:List Int) (h:l.length≤63):Contract w (n+1) (.ref 243) [.list (l.map D.int)] (.list ((drawsL l 0 [1096,354,218]).map .int)):=by
  obtain ⟨g',e⟩:=draws_run w l h
  exact def_ok2 (ct:=ct0) (m:=8) (k:=10) "draws" (defr_draws w) (fun f ds d h=>by cases h) rfl e
theorem drawsL_len:∀ (l:List Int) (i:Nat) (acc:List Int),(drawsL l i acc).length=acc.length
  | [],_,_=>rfl
  | x::l,i,acc=>by rw [drawsL,drawsL_len l];exact addAt_len ..
theorem drawsL_nonneg:∀ (l:List Int) (i:Nat) (acc:List Int),(∀ x∈acc,0≤x)→∀ x∈drawsL l i acc,0≤x
  | [],_,_,h=>h
  | x::l,i,acc,h=>drawsL_nonneg l (i+1) _ fun y hy=>by
    unfold addAt at hy
    rcases List.mem_or_eq_of_mem_set hy with hy|rfl
    · exact h y hy
    · have h1:0≤x.fmod 1000000:=Int.fmod_nonneg_of_pos _ (by decide)
      have h2:0≤acc.getD (i % 3) 0:=by
        rw [List.getD_eq_getElem?_getD]
        cases e:acc[i % 3]? with
        | none=>simp
        | some z=>exact h z (List.mem_of_getElem? e)
      lia
theorem draws_three (l:List Int):∃ a b c:Nat,drawsL l 0 [1096,354,218]=[(a:Int),(b:Int),(c:Int)]:=by
  have hl:=drawsL_len l 0 [1096,354,218]
  have hn:=drawsL_nonneg l 0 [1096,354,218] (by simp)
  generalize drawsL l 0 [1096,354,218]=t at hl hn
  match t,hl with
  | [x,y,z],_ =>
    obtain ⟨a,rfl⟩:=Int.eq_ofNat_of_zero_le (hn x (by simp))
    obtain ⟨b,rfl⟩:=Int.eq_ofNat_of_zero_le (hn y (by simp))
    obtain ⟨c,rfl⟩:=Int.eq_ofNat_of_zero_le (hn z (by simp))
    exact ⟨a,b,c,rfl⟩
end
section
noncomputable abbrev testsC (ifs:List PySem.Expr) (env:Env):Sem Bool:=forIn ifs true fun c r=>if r=true then do let ok ← PySem.isTrue c env (eval c env);pure (ForInStep.yield ok) else pure (ForInStep.yield r)
theorem compTurn_last {elt t iter:PySem.Expr} {ifs:List PySem.Expr} {gens:List Comprehension} {scope:Scope} {pos:Pos} {k:Nat} {itv acc:Value} {env:Env} (h:gens[k]?=some ⟨t,iter,ifs,0⟩) (h2:gens[k+1]?=none) :
    compTurn (.ListComp elt gens scope pos) k itv acc env=(standAt iter.pos >>= fun _=>pyNext itv >>= fun r=>match r with
      | none=>pure (.done .next)
      | some v=>letOwnedTupleGo t itv v >>= fun _=>assign t env v >>= fun _=>testsC ifs env >>= fun ok =>
        if ok=true then (eval elt env >>= fun x=>call (.builtin "list.append") [acc,x] >>= fun _=>pure ()) >>= fun _=>again (.compLoop (.ListComp elt gens scope pos) k itv acc env) else again (.compLoop (.ListComp elt gens scope pos) k itv acc env)):=by
  unfold compTurn
  simp only [h,h2]
  rfl
theorem compTurn_more {elt t iter t' iter':PySem.Expr} {ifs ifs':List PySem.Expr} {gens:List Comprehension} {scope:Scope} {pos:Pos} {k:Nat} {itv acc:Value} {env:Env} (h:gens[k]?=some ⟨t,iter,ifs,0⟩) (h2:gens[k+1]?=some ⟨t',iter',ifs',0⟩) :
    compTurn (.ListComp elt gens scope pos) k itv acc env=(standAt iter.pos >>= fun _=>pyNext itv >>= fun r=>match r with
      | none=>pure (.done .next)
      | some v=>letOwnedTupleGo t itv v >>= fun _=>assign t env v >>= fun _=>testsC ifs env >>= fun ok =>
        if ok=true then eval iter' env >>= fun x=>standAt iter'.pos >>= fun _=>foldedSetIterable iter' env x >>= fun x=>holding [x] (pyIter x) >>= fun it'=>runOwn (.compStart (.ListComp elt gens scope pos) (k+1) it' acc env) env >>= fun _=>again (.compLoop (.ListComp elt gens scope pos) k itv acc env)
        else again (.compLoop (.ListComp elt gens scope pos) k itv acc env)):=by
  unfold compTurn
  simp only [h,h2]
  rfl
section
variable {w:World} {A:Around} {E:Value→Shared→Prop} {R:Result→Shared→Prop} {s:Shared}
noncomputable def innerW (w:World) (A:Around) (E:Value→Shared→Prop) (e elt:PySem.Expr) (gens:List Comprehension) (k:Nat) (acc:Value) (env:Env) (Q:Shared→Prop) (s:Shared):Prop:=match gens[k+1]? with
  | some ⟨_,iter,_,_⟩=>wpAny (model pw w) A (eval iter env) (fun x s₁=>wpAny (model pw w) A (pyIter x) (fun it s₂=>codeAny (model pw w) A (.compStart e (k+1) it acc env) (fun r s'=>match r with | .ok f=>Q s' | .error e=>cameBackBy (model pw w) A env E e s') s₂) E s₁) E s
  | none=>wpAny (model pw w) A (eval elt env) (fun x s₁=>wpAny (model pw w) A (call (.builtin "list.append") [acc,x]) (fun _ s₂=>Q s₂) E s₁) E s
theorem codeAny_compLoop_any {elt t iter:PySem.Expr} {ifs:List PySem.Expr} {gens:List Comprehension} {scope:Scope} {pos:Pos} {k:Nat} {it acc:Value} {env:Env} (hg:gens[k]?=some ⟨t,iter,ifs,0⟩)
    (hn:∀ t' i' f' z,gens[k+1]?=some ⟨t',i',f',z⟩→z=0∧∀ x,foldedSetIterable i' env x=pure x) (I:Nat→Shared→Prop)
    (turn:∀ n s,I n s→wpAny (model pw w) A (pyNext it) (fun r s₁=>match r with
      | none=>R (.ok .next) s₁
      | some v=>wpAny (model pw w) A (letOwnedTupleGo t it v) (fun _ s₁'=>wpAny (model pw w) A (assign t env v) (fun _ s₂ =>
          wpAny (model pw w) A (testsC ifs env) (fun ok s₃ =>
            if ok=true then innerW w A (notedBy (model pw w) A env fun e s'=>R (.error e) s') (.ListComp elt gens scope pos) elt gens k acc env (fun s₄=>∃ m,m<n∧I m s₄) s₃
            else ∃ m,m<n∧I m s₃) (notedBy (model pw w) A env fun e s'=>R (.error e) s') s₂) (notedBy (model pw w) A env fun e s'=>R (.error e) s') s₁') (notedBy (model pw w) A env fun e s'=>R (.error e) s') s₁) (notedBy (model pw w) A env fun e s'=>R (.error e) s') s)
    (n:Nat) (h:I n s) (hq:(Code.compLoop (.ListComp elt gens scope pos) k it acc env).quiet=true:=by rfl):codeAny (model pw w) A (.compLoop (.ListComp elt gens scope pos) k it acc env) R s:=by
  refine codeAny_loop hq I (fun n s hI=>?_) n h
  show wpAny _ A ((compTurn (.ListComp elt gens scope pos) k it acc env).onRaise (fun x=>do noteFrame x env;theTreesLotGoes x)) _ _ s
  refine wpAny_noted ?_
  have key:=turn n s hI
  cases h2:gens[k+1]? with
  | none =>
    rw [compTurn_last hg h2]
    refine wpAny_bind (wpAny_standAt (wpAny_bind (wpAny_mono key (fun r s₁ h₁=>?_) fun _ _ h'=>h')))
    cases r with
    | none=>exact wpAny_pure h₁
    | some v =>
      refine wpAny_bind (wpAny_mono h₁ (fun _ s₁' h₁'=>wpAny_bind (wpAny_mono h₁' (fun _ s₂ h₂=>wpAny_bind (wpAny_mono h₂ (fun ok s₃ h₃=>?_) fun _ _ h'=>h')) fun _ _ h'=>h')) fun _ _ h'=>h')
      cases ok with
      | false=>exact wpAny_pure ⟨rfl,h₃⟩
      | true =>
        rw [if_pos rfl] at h₃ ⊢
        unfold innerW at h₃
        rw [h2] at h₃
        exact wpAny_bind (wpAny_bind (wpAny_mono h₃ (fun x s₄ h₄=>wpAny_bind (wpAny_mono h₄ (fun _ s₅ h₅=>wpAny_pure (wpAny_pure ⟨rfl,h₅⟩)) fun _ _ h'=>h')) fun _ _ h'=>h'))
  | some g' =>
    obtain ⟨t',i',f',z⟩:=g'
    obtain ⟨rfl,hs⟩:=hn _ _ _ _ h2
    rw [compTurn_more hg h2]
    refine wpAny_bind (wpAny_standAt (wpAny_bind (wpAny_mono key (fun r s₁ h₁=>?_) fun _ _ h'=>h')))
    cases r with
    | none=>exact wpAny_pure h₁
    | some v =>
      refine wpAny_bind (wpAny_mono h₁ (fun _ s₁' h₁'=>wpAny_bind (wpAny_mono h₁' (fun _ s₂ h₂=>wpAny_bind (wpAny_mono h₂ (fun ok s₃ h₃=>?_) fun _ _ h'=>h')) fun _ _ h'=>h')) fun _ _ h'=>h')
      cases ok with
      | false=>exact wpAny_pure ⟨rfl,h₃⟩
      | true =>
        rw [if_pos rfl] at h₃ ⊢
        unfold innerW at h₃
        rw [h2] at h₃
        refine wpAny_bind (wpAny_mono h₃ (fun x s₄ h₄=>?_) fun _ _ h'=>h')
        refine wpAny_bind (wpAny_standAt ?_)
        refine wpAny_bind (wpAny_of_eq (hs x) ?_)
        refine wpAny_bind (wpAny_holding (wpAny_mono h₄ (fun it' s₅ h₅=>?_) fun _ _ h'=>h'))
        refine wpAny_bind (wpAny_runOwn (codeAny_mono (A:=A) h₅ fun r s' hr=>?_))
        cases r with
        | ok f=>exact wpAny_pure ⟨rfl,hr⟩
        | error e=>exact hr
theorem codeAny_compStart_any {elt t iter:PySem.Expr} {ifs:List PySem.Expr} {gens:List Comprehension} {scope:Scope} {pos:Pos} {k:Nat} {it acc:Value} {env:Env} (hg:gens[k]?=some ⟨t,iter,ifs,0⟩)
    (h0:codeAny (model pw w) A (.compLoop (.ListComp elt gens scope pos) k it acc env) R s)
    (h:wpAny (model pw w) A (pyIter it) (fun it' s'=>codeAny (model pw w) A (.compLoop (.ListComp elt gens scope pos) k it' acc env) R s') (notedBy (model pw w) A env fun x s'=>R (.error x) s') s) :
    codeAny (model pw w) A (.compStart (.ListComp elt gens scope pos) k it acc env) R s:=by
  have hc:(clausesOf (.ListComp elt gens scope pos))[k]?=some ⟨t,iter,ifs,0⟩:=hg
  refine codeAny_of_tree ?_
  show wpAny _ _ ((compStart (.ListComp elt gens scope pos) k it acc env).onRaise (fun x=>do noteFrame x env;standAt theWindowsPlace)) _ _ s
  refine wpAny_notedAt ?_
  unfold compStart
  simp only [hc]
  show wpAny _ _ (ask >>= _) _ _ s
  refine wpAny_bind (wpAny_askSetting (wpAny_ite ?_))
  split
  · first
      | exact wpAny_bind (wpAny_pure (wpAny_pure (And.intro rfl h0)))
      | exact wpAny_pure (And.intro rfl h0)
  · first
      | exact wpAny_bind (wpAny_rule (wpAny_bind (wpAny_standAt (wpAny_bind (wpAny_mono h (fun it' s' h'=>wpAny_pure (And.intro rfl h')) fun _ _ x=>x)))))
      | (refine wpAny_bind (wpAny_rule ?_);show wpAny _ _ (standAt iter.pos >>= _) _ _ s;exact wpAny_bind (wpAny_standAt (wpAny_bind (wpAny_mono h (fun it' s' h'=>wpAny_pure (And.intro rfl h')) fun _ _ x=>x))))
end
end
section
noncomputable def testsD (o:Ops) (c:Cx):List PySem.Expr→Option Bool
  | []=>some true
  | x::xs=>match o.tr c x with
    | some true=>testsD o c xs
    | some false=>some false
    | none=>none
noncomputable def turnsD (f:D→Option (List D)):List D→Option (List D)
  | []=>some []
  | d::ds=>match f d with
    | some a=>match turnsD f ds with
      | some b=>some (a++b)
      | none=>none
    | none=>none
noncomputable def tgtN (t:PySem.Expr):Option Str:=onName t fun n _=>some n
noncomputable def turnD (o:Ops) (nm:List (Str × NameKind)) (inn:List (Str × D)→Option (List D)) (ifs:List PySem.Expr) (n:Str) (σ:List (Str × D)) (d:D):Option (List D):=match testsD o ⟨nm,(n,d)::σ⟩ ifs with
  | some true=>inn ((n,d)::σ)
  | some false=>some []
  | none=>none
noncomputable def loopD (o:Ops) (nm:List (Str × NameKind)) (inn:List (Str × D)→Option (List D)) (g:Comprehension) (σ:List (Str × D)) (ds:List D) (tg:PySem.Expr→Bool):Option (List D):=match tgtN g.target with
  | some n=>if mineN nm n&&((σ.lookup n).isNone&&tg g.target) then turnsD (turnD o nm inn g.ifs n σ) ds else none
  | none=>none
noncomputable def bodyD (o:Ops) (nm:List (Str × NameKind)) (elt:PySem.Expr):List Comprehension→List (Str × D)→Option (List D)
  | [],σ=>(o.ev ⟨nm,σ⟩ elt).map fun d=>[d]
  | g::gs,σ=>match srcD o ⟨nm,σ⟩ g.iter with
    | some (ds,tg)=>loopD o nm (bodyD o nm elt gs) g σ ds tg
    | none=>none
structure CompSt (w:World) (e:Env) (s:Shared) (M W:List Addr) (O:List Str) (acc:Addr) (σ:List (Str × D)) (l:List D):Prop where
  st:StR w e s M W σ O
  mem:acc∈M
  val:∃ xs,s.heap.PlainList acc (List.toArray xs)∧reps s.heap W l xs
section
variable {w:World} {A:Around} {e:Env} {s:Shared} {M W:List Addr} {O:List Str} {acc:Addr} {σ:List (Str × D)} {l:List D}
theorem CompSt.keep {s':Shared} (S:CompSt w e s M W O acc σ l) (k:Keeps s s'):CompSt w e s' M W O acc σ l :=
  ⟨S.st.keep k,S.mem,let ⟨xs,a,b⟩:=S.val;⟨xs,a.at fun o g=>Keeps.heap k _ o g,reps_keep (Keeps.heap k) _ _ b⟩⟩
theorem CompSt.mono {σ':List (Str × D)} (S:CompSt w e s M W O acc σ l) (h:∀ n d,σ'.lookup n=some d→σ.lookup n=some d):CompSt w e s M W O acc σ' l:=⟨S.st.mono h,S.mem,S.val⟩
theorem CompSt.beside {s':Shared} {U:List Addr} (S:CompSt w e s M W O acc σ l) (k:Keeps s s') (hU:∀ b∈U,s.heap.get? b=none) (hl:∀ b∈U,∃ o,s'.heap.get? b=some o):CompSt w e s' M (U++W) O acc σ l :=
  ⟨S.st.beside k hU hl,S.mem,let ⟨xs,a,b⟩:=S.val;⟨xs,a.at fun o g=>Keeps.heap k _ o g,reps_keep (Keeps.heap k) _ _ (reps_freshs U _ _ hU b)⟩⟩
theorem CompSt.step {h':Heap} {tk:Nat} {U:List Addr} (S:CompSt w e s M W O acc σ l) (hk:HKW U s.heap h') (hU:∀ b∈U,b∈W) (hM:∀ b∈U,b∉M) (hF:FrameOn e s.heap U) (hi:∀ b∈U,302≤b) (hl:∀ b∈U,∃ o,h'.get? b=some o) :
    CompSt w e { s with heap:=h',toks:=tk } M W O acc σ l :=
  ⟨S.st.step hk hU hF hi hl,S.mem,let ⟨xs,a,b⟩:=S.val;⟨xs,a.at fun o g=>hk _ o (fun m=>hM acc m S.mem) g,reps_keepW hk hU _ _ b⟩⟩
theorem CompSt.stepOff {h':Heap} {tk:Nat} {U:List Addr} (S:CompSt w e s M (U++W) O acc σ l) (hM:∀ b∈M,b∈W) (hk:HKW U s.heap h') (hW:∀ b∈W,b∉U) (hF:FrameOn e s.heap U) (hi:∀ b∈U,302≤b) :
    CompSt w e { s with heap:=h',toks:=tk } M W O acc σ l :=
  ⟨S.st.stepOff hM hk hW hF hi,S.mem,let ⟨xs,a,b⟩:=S.val;⟨xs,a.at fun o g=>hk _ o (fun m=>hW acc (hM acc S.mem) m) g,reps_sub (fun b hb=>List.mem_append_right _ hb) _ _ (reps_keepW hk (fun b hb=>List.mem_append_left _ hb) _ _ b)⟩⟩
theorem CompSt.store {n:Str} {v:Value} {d:D} {Q:Unit→Shared→Prop} {E:Value→Shared→Prop} (S:CompSt w e s M W O acc σ l) (hO:n∉O) (hk:mineK e n=true) (r:rep s.heap W d v)
    (q:∀ s',KeepsW M s s'→CompSt w e s' M W O acc ((n,d)::σ) l→Q () s'):wpAny (model pw w) A (storeName e n v) Q E s:=by
  refine el12 S.val fun xs pl rr=>?_
  have st:=S.st
  have hM:∀ b∈Mine.less acc M,b∈M:=fun b hb=>(mem_less.1 hb).1
  refine ok_store (st.less pl.isList) hO hk r fun s' k S'=>q s' (k.weak hM) ⟨S'.more hM st.fr.sub st.hi,S.mem,xs,pl.at fun o g=>(KeepsW.heap k) _ o (fun m=>(mem_less.1 m).2 rfl) g,reps_keepW (KeepsW.heap k) (fun b m=>st.fr.sub b (hM b m)) _ _ rr⟩
theorem CompSt.append {d:D} {v:Value} {Q:Value→Shared→Prop} {E:Value→Shared→Prop} (S:CompSt w e s M W O acc σ l) (hn:l.length<100000) (r:rep s.heap W d v) (q:∀ v s',KeepsW M s s'→CompSt w e s' M W O acc σ (l++[d])→Q v s'):wpAny (model pw w) A (call (.builtin "list.append") [.ref acc,v]) Q E s:=by
  refine el12 S.val fun xs pl rr=>?_
  have hlen:=reps_len _ _ rr
  have st:=S.st
  refine wpAny_list_append_plain (hsz:=by rw [sizeLine_eq];simp only [List.size_toArray];lia) pl fun h' pl' hs'=>?_
  have hkk:HKW [acc] s.heap h':=fun b o hb g=>hs'.extBut b o (fun q=>hb (q▸List.mem_cons_self)) g
  have hin:∀ b∈[acc],b∈W:=fun b hb=>List.mem_singleton.1 hb▸st.fr.sub acc S.mem
  have r2:=reps_keepW hkk hin _ _ (reps_append l [d] xs [v] rr (by simp only [reps];exact ⟨_,_,rfl,r,rfl⟩))
  have pl2:h'.PlainList acc (xs++[v]).toArray:=by simpa using pl'
  obtain ⟨m,hm⟩:=st.fr.ns
  obtain ⟨n0,ho0⟩:=pl2
  refine q _ _ ⟨h',s.toks,rfl,sameBut_hkw hs' S.mem⟩ ⟨⟨⟨⟨st.fr.env.kind,st.fr.env.glob,st.fr.env.blt,st.fr.env.gl,st.fr.env.cf,fun n c hn=>?_,fun n d hn hl=>?_⟩,⟨m,hm.sameBut hs' (list_ne_ns hm pl.isList).symm⟩,st.fr.apart,st.fr.own,st.fr.sub,wok_sameBut hs' st.fr.wok ho0⟩,baseW st.base (fun b hb=>List.mem_singleton.1 hb▸st.hi acc S.mem) hkk,st.hi⟩,S.mem,xs++[v],⟨n0,ho0⟩,r2⟩
  · obtain ⟨u,hx⟩:=st.fr.cell n c hn
    exact ⟨u,hx.sameBut hs' (list_ne_cell hx pl.isList).symm⟩
  · refine el12 (st.fr.env.loc n d hn hl) fun u hv rv=>?_
    refine ⟨u,?_,rep_keepW hkk hin _ _ rv⟩
    rcases hv with ⟨k1,m1,ns1,h1⟩|⟨k1,c,hc,hx⟩
    · exact .inl ⟨k1,m1,ns1.sameBut hs' (list_ne_ns ns1 pl.isList).symm,h1⟩
    · exact .inr ⟨k1,c,hc,hx.sameBut hs' (list_ne_cell hx pl.isList).symm⟩
theorem tests_false {env:Env}:∀ (ifs:List PySem.Expr) {Q:Bool→Shared→Prop} {E:Value→Shared→Prop} {s:Shared},Q false s→wpAny (model pw w) A (forIn ifs false fun c r=>if r=true then do let ok ← PySem.isTrue c env (eval c env);pure (ForInStep.yield ok) else pure (ForInStep.yield r)) Q E s
  | [],_,_,_,h=>wpAny_pure h
  | x::xs,_,_,_,h=>by
    rw [List.forIn_cons]
    simp only [Bool.false_eq_true,if_false]
    exact wpAny_bind (wpAny_pure (tests_false xs h))
theorem tests_ok {o:Ops} (T:SoundTr w A o.tr) {nm:List (Str × NameKind)}:∀ (ifs:List PySem.Expr) (b:Bool) (s:Shared) (Q:Bool→Shared→Prop) (E:Value→Shared→Prop),YP w s.heap→WOk s.heap W→EnvR e s.heap W nm σ→testsD o ⟨nm,σ⟩ ifs=some b→(∀ s',Keeps s s'→Q b s')→wpAny (model pw w) A (testsC ifs e) Q E s
  | [],b,s,Q,E,Y,hW,R,h,q=>by cases h;exact wpAny_pure (q s (Keeps.rfl' s))
  | x::xs,b,s,Q,E,Y,hW,R,h,q=>by
    simp only [testsD] at h
    show wpAny _ _ (forIn (x::xs) true _) _ _ _
    rw [List.forIn_cons]
    simp only [if_true]
    split at h
    · rename_i hx
      refine wpAny_bind (wpAny_bind (T e W ⟨nm,σ⟩ s x true Y hW R hx _ E fun s1 k1=>wpAny_pure ?_))
      exact tests_ok T xs b s1 Q E (fun b o g=>Keeps.heap k1 b o (Y b o g)) (hW.keep (Keeps.heap k1)) (R.keep (Keeps.heap k1)) h fun s2 k2=>q s2 (Keeps.tr k1 k2)
    · rename_i hx
      cases h
      refine wpAny_bind (wpAny_bind (T e W ⟨nm,σ⟩ s x false Y hW R hx _ E fun s1 k1=>wpAny_pure ?_))
      exact tests_false xs (q s1 k1)
    · exact nope h
end
end
section
section
variable {w:World} {A:Around} {e:Env} {M:List Addr} {O:List Str} {acc:Addr} {elt:PySem.Expr} {gens:List Comprehension} {scope:Scope} {pos:Pos} {nm:List (Str × NameKind)} {o:Ops}
noncomputable def InnOk (w:World) (A:Around) (e:Env) (M:List Addr) (O:List Str) (acc:Addr) (elt:PySem.Expr) (gens:List Comprehension) (scope:Scope) (pos:Pos) (k:Nat) (inn:List (Str × D)→Option (List D)):Prop :=
  ∀ (W:List Addr) (s:Shared) (σ:List (Str × D)) (l r:List D) (E:Value→Shared→Prop) (Q:Shared→Prop),CompSt w e s M W O acc σ l→inn σ=some r→(l++r).length≤100000 →
    (∀ s',KeepsW M s s'→CompSt w e s' M W O acc σ (l++r)→Q s')→innerW w A E (.ListComp elt gens scope pos) elt gens k (.ref acc) e Q s
structure EnvOk (e:Env) (nm:List (Str × NameKind)) (O:List Str):Prop where
  env:∀ h W σ,EnvR e h W e.scope.names σ→EnvR e h W nm σ
  mine:∀ n,mineN nm n=true→mineK e n=true∧n∉O
theorem loopD_e {inn:List (Str × D)→Option (List D)} {t iter:PySem.Expr} {ifs:List PySem.Expr} {z:Int} {σ:List (Str × D)} {ds r:List D} {tg:PySem.Expr→Bool} (h:loopD o nm inn ⟨t,iter,ifs,z⟩ σ ds tg=some r) :
    ∃ n p,t=.Name n p∧mineN nm n=true∧σ.lookup n=none∧tg t=true∧turnsD (turnD o nm inn ifs n σ) ds=some r:=by
  unfold loopD at h
  dsimp only at h
  cases hn:tgtN t with
  | none=>rw [hn] at h;exact nope h
  | some n =>
    rw [hn] at h
    refine if_e h fun hc h=>?_
    rw [Bool.and_eq_true,Bool.and_eq_true,Option.isNone_iff_eq_none] at hc
    have e:∃ p,t=.Name n p:=by
      unfold tgtN at hn
      exact onName_e t hn fun m p h=>⟨p,by rw [Option.some.inj h]⟩
    exact Exists.elim e fun p e=>⟨n,p,e,hc.1,hc.2.1,hc.2.2,h⟩
theorem turnsD_cons {f:D→Option (List D)} {d:D} {ds r:List D} (h:turnsD f (d::ds)=some r):∃ a b,f d=some a∧turnsD f ds=some b∧a++b=r:=by
  have h:(match f d with|some a=>(match turnsD f ds with|some b=>some (a++b)|none=>none)|none=>none)=some r:=h
  cases ha:f d with
  | none=>rw [ha] at h;exact nope h
  | some a =>
    rw [ha] at h
    cases hb:turnsD f ds with
    | none=>rw [hb] at h;exact nope h
    | some b=>rw [hb] at h;exact ⟨a,b,rfl,rfl,Option.some.inj h⟩
theorem turnD_e {inn:List (Str × D)→Option (List D)} {ifs:List PySem.Expr} {n:Str} {σ:List (Str × D)} {d:D} {a:List D} (h:turnD o nm inn ifs n σ d=some a):∃ b,testsD o ⟨nm,(n,d)::σ⟩ ifs=some b∧((b=true∧inn ((n,d)::σ)=some a)∨(b≠true∧[]=a)):=by
  unfold turnD at h
  cases ht:testsD o ⟨nm,(n,d)::σ⟩ ifs with
  | none=>rw [ht] at h;exact nope h
  | some b =>
    rw [ht] at h
    cases b with
    | true=>exact ⟨true,rfl,.inl ⟨rfl,h⟩⟩
    | false=>exact ⟨false,rfl,.inr ⟨Bool.false_ne_true,Option.some.inj h⟩⟩
theorem loop_ok (hh:A.handled=none) (T:SoundTr w A o.tr) (H:EnvOk e nm O) {k:Nat} {t iter:PySem.Expr} {ifs:List PySem.Expr} (hg:gens[k]?=some ⟨t,iter,ifs,0⟩)
    (hn:∀ t' i' f' z,gens[k+1]?=some ⟨t',i',f',z⟩→z=0∧∀ x,foldedSetIterable i' e x=pure x) {inn:List (Str × D)→Option (List D)} (IN:InnOk w A e M O acc elt gens scope pos k inn)
    {I:Addr} {U W:List Addr} {ds:List D} {tg:PySem.Expr→Bool} {K:Nat→Heap→Prop} (IT:Iter w A I U W ds tg K) {s:Shared} {σ:List (Str × D)} {l r:List D} (S:CompSt w e s M (U++W) O acc σ l) (hMW:∀ b∈M,b∈W) (hWU:∀ b∈W,b∉U) (hF:∀ h,FrameOn e h U) (hiU:∀ b∈U,302≤b)
    (h0:K 0 s.heap) (hd:loopD o nm inn ⟨t,iter,ifs,0⟩ σ ds tg=some r) (hlen:(l++r).length≤100000) {R:Result→Shared→Prop} (q:∀ s',KeepsW (U++M) s s'→CompSt w e s' M W O acc σ (l++r)→R (.ok .next) s') :
    codeAny (model pw w) A (.compStart (.ListComp elt gens scope pos) k (.ref I) (.ref acc) e) R s:=by
  refine el25 (loopD_e hd) fun n p et hm hno htg hd2=>?_
  subst et
  have hm2:=H.mine n hm
  have hMU:∀ b∈U,b∉M:=fun b hb m=>hWU b (hMW b m) hb
  refine named (fun (m:Nat) (s':Shared)=>∃ i li ri,i≤ds.length∧m=ds.length - i∧K i s'.heap∧KeepsW (U++M) s s'∧CompSt w e s' M (U++W) O acc σ li∧turnsD (turnD o nm inn ifs n σ) (ds.drop i)=some ri∧li++ri=l++r) fun J hJ=>?_
  have go:codeAny (model pw w) A (.compLoop (.ListComp elt gens scope pos) k (.ref I) (.ref acc) e) R s:=by
    refine codeAny_compLoop_any hg hn J (fun m s2 hJ2=>?_) ds.length (by rw [hJ];exact ⟨0,l,r,Nat.zero_le _,rfl,h0,KeepsW.rfl' _ _,S,hd2,rfl⟩)
    rw [hJ] at hJ2
    refine el37 hJ2 fun i li ri hi hm hK k2 S2 hri happ=>?_
    cases hdi:ds[i]? with
    | none =>
      have hlen:=List.getElem?_eq_none_iff.1 hdi
      rw [List.drop_eq_nil_of_le hlen] at hri
      rw [Nat.le_antisymm hi hlen] at hK
      rw [← Option.some.inj hri,List.append_nil] at happ
      exact IT.done s2 _ _ hK fun h' tk hk=>q _ (KeepsW.tr k2 ⟨h',tk,rfl,fun b o hb g=>hk b o (fun m=>hb (List.mem_append_left _ m)) g⟩) (happ▸S2.stepOff hMW hk hWU (hF _) hiU)
    | some d =>
      have hlt:=drop_of hdi
      rw [hlt.2] at hri
      refine el23 (turnsD_cons hri) fun a1 b1 ha1 hb1 hab=>?_
      refine wpAny_mono (IT.item i d (.Name n p) s2 _ _ htg hdi hK (fun b m=>S2.st.fr.wok b (List.mem_append_right _ m)) fun v h' tk K' hk rv=>?_) (fun r s3 x=>Exists.elim x fun v hv=>by rw [hv.1];exact hv.2) fun _ _ x=>x
      refine wpAny_assign_Name ((S2.step (tk:=tk) hk (fun b m=>List.mem_append_left _ m) hMU (hF _) hiU (IT.live _ _ K')).store hm2.2 hm2.1 rv fun s4 k4 S4=>?_)
      have k24:KeepsW (U++M) s s4:=KeepsW.tr k2 (KeepsW.tr ⟨h',tk,rfl,fun b o hb g=>hk b o (fun m=>hb (List.mem_append_left _ m)) g⟩ (k4.weak fun b m=>List.mem_append_right _ m))
      have fr:∀ s5,Keeps s4 s5→K (i+1) s5.heap:=fun s5 k5=>IT.frame (i+1) _ s5.heap [] (fun a m=>nomatch m) (fun a _ m=>nomatch m) (IT.frame (i+1) h' s4.heap M hMW hMU K' (KeepsW.heap k4)) fun b o _ g=>Keeps.heap k5 b o g
      have mlt:ds.length - (i+1)<m:=hm▸Nat.sub_lt_sub_left hlt.1 (Nat.lt_succ_self i)
      refine el12 (turnD_e ha1) fun b ht hr=>tests_ok T ifs b s4 _ _ S4.st.base S4.st.fr.wok (H.env _ _ _ S4.st.fr.env) ht fun s5 k5=>?_
      rcases hr with hr|hr
      · rw [if_pos hr.1]
        refine IN _ s5 _ li a1 _ _ (S4.keep k5) hr.2 ?_ fun s6 k6 S6=>⟨ds.length - (i+1),mlt,?_⟩
        · rw [← happ,← hab,← List.append_assoc,List.length_append] at hlen
          exact Nat.le_trans (Nat.le_add_right _ _) hlen
        · rw [hJ]
          exact ⟨i+1,li++a1,b1,hlt.1,rfl,IT.frame (i+1) _ s6.heap M hMW hMU (fr s5 k5) (KeepsW.heap k6),KeepsW.tr k24 (KeepsW.tr (KeepsW.of k5) (k6.weak fun b m=>List.mem_append_right _ m)),S6.mono fun m d' h=>lookup_off hno m d' h,hb1,by rw [List.append_assoc,hab];exact happ⟩
      · rw [if_neg hr.1]
        refine ⟨ds.length - (i+1),mlt,?_⟩
        rw [hJ]
        exact ⟨i+1,li,b1,hlt.1,rfl,fr s5 k5,KeepsW.tr k24 (KeepsW.of k5),(S4.keep k5).mono fun m d' h=>lookup_off hno m d' h,hb1,by rw [← happ,← hab,← hr.2];rfl⟩
  exact codeAny_compStart_any hg go (IT.self 0 s _ _ h0 go)
theorem inn_ok (hh:A.handled=none) (Sd:SoundEv w A o.ev) (T:SoundTr w A o.tr) (H:EnvOk e nm O) (hz:∀ g∈gens,g.is_async=0∧notSet g.iter=true):∀ (gs:List Comprehension) (k:Nat),gens.drop (k+1)=gs→InnOk w A e M O acc elt gens scope pos k (bodyD o nm elt gs)
  | [],k,hgs=>fun W s σ l r E Q S hb hlen q=>by
    have h0:gens[k+1]?=none:=by
      rw [List.getElem?_eq_none_iff]
      exact List.drop_eq_nil_iff.1 hgs
    unfold innerW
    rw [h0]
    simp only [bodyD,Option.map_eq_some_iff] at hb
    refine el12 hb fun d hd q2q=>?_;subst q2q
    refine Sd e W ⟨nm,σ⟩ s elt d S.st.base S.st.fr.wok (H.env _ _ _ S.st.fr.env) hd _ _ fun v s1 k1 r1=>?_
    refine (S.keep k1).append (by simp only [List.length_append,List.length_singleton] at hlen;lia) r1 fun u s2 k2 S2=>q s2 (KeepsW.tr (KeepsW.of k1) k2) S2
  | g::gs,k,hgs=>fun W s σ l r E Q S hb hlen q=>by
    have hlt:k+1<gens.length:=by
      refine Nat.lt_of_not_le fun h=>?_
      rw [List.drop_of_length_le h] at hgs;cases hgs
    have hcons:=List.drop_eq_getElem_cons hlt
    rw [hgs] at hcons
    injection hcons with hg1 hg2
    have h0:gens[k+1]?=some g:=by rw [List.getElem?_eq_getElem hlt,hg1]
    have hmem:g∈gens:=List.mem_of_getElem? h0
    obtain ⟨t,iter,ifs,z⟩:=g
    have hz0:z=0:=(hz _ hmem).1
    subst hz0
    unfold innerW
    rw [h0]
    simp only [bodyD] at hb
    split at hb
    · rename_i ds tg hsrc
      have E0:=H.env _ _ _ S.st.fr.env
      obtain ⟨src,_⟩:=src_ok (c:=⟨nm,σ⟩) Sd S.st.base S.st.fr.wok E0 hsrc
      dsimp only
      refine src _ _ fun I U s1 k1 fr hI made=>?_
      refine el12 (made [] (fun a m=>by cases m)) fun K it h00=>?_
      have IT:=it A hh
      have hWU:∀ b∈W,b∉U:=fun b hb m=>by obtain ⟨o,g⟩:=S.st.fr.wok b hb;rw [fr b m] at g;cases g
      refine loop_ok hh T H h0 (fun t' i' f' z h=>?_) (inn_ok hh Sd T H hz gs (k+1) (by rw [hg2])) IT (S.beside k1 fr (IT.live 0 _ h00)) S.st.fr.sub hWU (fun h=>S.st.frameOn fr) (fun b hb=>new_hi S.st.base (fr b hb)) h00 hb hlen fun s2 k2 S2=>?_
      · have:=hz _ (List.mem_of_getElem? h)
        exact ⟨this.1,notSet_pure this.2⟩
      · exact q s2 (KeepsW.drop (KeepsW.tr (KeepsW.of k1) k2) fr) S2
    · exact nope hb
end
end
section
noncomputable def cloL (cells:List (Str × Addr)):List (Str × NameKind)→List (Str × Addr)→List (Str × Addr)
  | [],acc=>acc
  | (n,k)::r,acc=>if k==.free then cloL cells r ((n,(cells.lookup n).getD 0)::acc) else cloL cells r acc
theorem clo_forIn {env:Env}:∀ (names:List (Str × NameKind)) (acc:List (Str × Addr)),(∀ x∈names,x.2=.free→∃ c,env.cells.lookup x.1=some c) →
    (forIn names acc (fun (x:Str × NameKind) (cs:List (Str × Addr))=>match x with
      | (name,kind)=>if (kind==NameKind.free)=true then (do let c ← cellOf env name;pure (ForInStep.yield ((name,c)::cs))) else pure (ForInStep.yield cs)):Sem (List (Str × Addr)))=pure (cloL env.cells names acc)
  | [],acc,_=>rfl
  | (n,k)::r,acc,h=>by
    rw [List.forIn_cons]
    unfold cloL
    dsimp only
    cases hk:k==NameKind.free with
    | true =>
      obtain ⟨c,hc⟩:=h (n,k) List.mem_cons_self (eq_of_beq hk)
      rw [if_pos rfl,if_pos rfl]
      have e:cellOf env n=pure c:=by unfold cellOf;rw [hc]
      rw [e,hc]
      simp only [pure_bind]
      exact clo_forIn r _ fun x hx=>h x (List.mem_cons_of_mem _ hx)
    | false =>
      rw [if_neg (by simp),if_neg (by simp)]
      simp only [pure_bind]
      exact clo_forIn r _ fun x hx=>h x (List.mem_cons_of_mem _ hx)
theorem closure_pure {scope:Scope} {env:Env} (h:∀ x∈scope.names,x.2=.free→∃ c,env.cells.lookup x.1=some c):closureFor scope env=pure (cloL env.cells scope.names []):=by
  have:=clo_forIn scope.names [] h
  unfold closureFor
  show (forIn scope.names ([]:List (Str × Addr)) _ >>= fun cs=>pure cs)=_
  rw [show (fun (x:Str × NameKind) (cs:List (Str × Addr))=>_)=_ from rfl] at this
  exact (congrArg (fun m=>m >>= fun cs=>pure cs) this).trans rfl
theorem newEnv_comp {M:Model} {A:Around} {E:Value→Shared→Prop} {s:Shared} {scope:Scope} {globals:Addr} {cl:List (Str × Addr)} {qual:Str} {env:Env} {Q:Env→Shared→Prop}
    (h:Q (newEnv scope s.heap.objs.size globals (cellsFrom (s.heap.objs.size+1) scope.names cl) qual none .none (some env) 0) { s with heap:=pushCells (s.heap.push { cls:=.type "dict",data:=.dict #[] }) scope.names }) :
    wpAny M A (newFunctionEnv scope globals cl [] qual none .none (some env)) Q E s:=by
  simp only [newFunctionEnv,Option.isSome_some,if_true]
  refine wpAny_bind (wpAny_alloc ?_)
  refine wpAny_bind (wpAny_layCells _ (fun name kind cells=>by cases hkc:kind==NameKind.cell<;>simp [hkc]) _ _ _ _ ?_)
  rw [show ({ s with heap:=s.heap.push { cls:=.type "dict",data:=.dict #[] } }:Shared).heap.objs.size=s.heap.objs.size+1 from Heap.size_push ..]
  exact wpAny_bind (wpAny_pure (wpAny_pure h))
structure NewCell (h:Heap) (lo:Nat) (nms:List (Str × NameKind)) (n:Str) (c:Addr):Prop where
  lo:lo≤c
  is:h.IsCell c none
  kind:(n,.cell)∈nms
theorem cells_new:∀ (names all:List (Str × NameKind)) (h:Heap) (lo:Nat) (cl acc:List (Str × Addr)),lo≤h.objs.size→(∀ x∈names,x∈all) →
    (∀ n c,(n,c)∈acc→(n,c)∈cl∨NewCell h lo all n c)→(∀ n c,(n,c)∈cl→c<lo)→(∀ x y,x∈acc→y∈acc→lo≤x.2→x.2=y.2→x.1=y.1) →
    (∀ n c,(n,c)∈cellsFrom h.objs.size names acc→(n,c)∈cl∨NewCell (pushCells h names) lo all n c)∧(∀ x y,x∈cellsFrom h.objs.size names acc→y∈cellsFrom h.objs.size names acc→lo≤x.2→x.2=y.2→x.1=y.1)
  | [],all,h,lo,cl,acc,_,_,h1,h2,h3=>⟨h1,h3⟩
  | (n0,k0)::r,all,h,lo,cl,acc,hlo,hall,h1,h2,h3=>by
    unfold cellsFrom pushCells
    split
    · rename_i hk
      have hk:=eq_of_beq hk
      subst hk
      have hs:(h.push { cls:=.type "cell",data:=.cell none }).objs.size=h.objs.size+1:=Heap.size_push ..
      have old:∀ x,x∈acc→x.2<h.objs.size:=fun x hx=>by
        rcases h1 x.1 x.2 hx with h|h
        · exact Nat.lt_of_lt_of_le (h2 _ _ h) hlo
        · exact h.is.lt
      have:=cells_new r all (h.push { cls:=.type "cell",data:=.cell none }) lo cl ((n0,h.objs.size)::acc) (by rw [hs];lia) (fun x hx=>hall x (List.mem_cons_of_mem _ hx)) (fun n c hm=>by
        rcases List.mem_cons.1 hm with e|hm
        · cases e
          exact .inr ⟨hlo,⟨_,Heap.get?_push_size _ rfl,rfl⟩,hall _ List.mem_cons_self⟩
        · rcases h1 n c hm with h|h
          · exact .inl h
          · exact .inr ⟨h.lo,h.is.keeps fun b o e=>Heap.get?_push_of_some _ e,h.kind⟩) h2 (fun x y hx hy hl e=>by
        rcases List.mem_cons.1 hx with ex|hx<;>rcases List.mem_cons.1 hy with ey|hy
        · rw [ex,ey]
        · have:=old y hy
          rw [ex] at e
          have e:h.objs.size=y.2:=e
          exact absurd this (by rw [← e];exact Nat.lt_irrefl _)
        · have:=old x hx
          rw [ey] at e
          have e:x.2=h.objs.size:=e
          exact absurd this (by rw [e];exact Nat.lt_irrefl _)
        · exact h3 x y hx hy hl e)
      rwa [hs] at this
    · exact cells_new r all h lo cl acc hlo (fun x hx=>hall x (List.mem_cons_of_mem _ hx)) h1 h2 h3
theorem cellsFrom_other:∀ (names:List (Str × NameKind)) (k:Nat) (acc:List (Str × Addr)) (n:Str),(∀ x∈names,x.1=n→x.2≠.cell)→(cellsFrom k names acc).lookup n=acc.lookup n
  | [],_,_,_,_=>rfl
  | (m,kd)::r,k,acc,n,h=>by
    unfold cellsFrom
    split
    · rename_i hk
      rw [cellsFrom_other r _ _ n fun x hx=>h x (List.mem_cons_of_mem _ hx),List.lookup_cons]
      have:(n==m)=false:=by
        cases hb:n==m with
        | false=>rfl
        | true=>exact absurd (eq_of_beq hk) (h (m,kd) List.mem_cons_self (eq_of_beq hb).symm)
      rw [this]
    · exact cellsFrom_other r _ _ n fun x hx=>h x (List.mem_cons_of_mem _ hx)
theorem cloL_old:∀ (cells:List (Str × Addr)) (names:List (Str × NameKind)) (acc:List (Str × Addr)) (n:Str) (c:Addr),(n,c)∈cloL cells names acc→(n,c)∈acc∨((n,.free)∈names∧c=(cells.lookup n).getD 0)
  | _,[],_,_,_,h=>.inl h
  | cells,(m,k)::r,acc,n,c,h=>by
    unfold cloL at h
    split at h
    · rename_i hk
      rcases cloL_old cells r _ n c h with h|⟨h,e⟩
      · rcases List.mem_cons.1 h with h|h
        · cases h
          exact .inr ⟨by rw [eq_of_beq hk];exact List.mem_cons_self,rfl⟩
        · exact .inl h
      · exact .inr ⟨List.mem_cons_of_mem _ h,e⟩
    · rcases cloL_old cells r _ n c h with h|⟨h,e⟩
      · exact .inl h
      · exact .inr ⟨List.mem_cons_of_mem _ h,e⟩
theorem cloL_lookup:∀ (cells:List (Str × Addr)) (names:List (Str × NameKind)) (acc:List (Str × Addr)) (n:Str),((n,NameKind.free)∈names∨acc.lookup n=some ((cells.lookup n).getD 0))→(cloL cells names acc).lookup n=some ((cells.lookup n).getD 0)
  | _,[],_,_,h=>by
    rcases h with h|h
    · cases h
    · exact h
  | cells,(m,k)::r,acc,n,h=>by
    unfold cloL
    by_cases hn:n=m
    · subst hn
      split
      · refine cloL_lookup cells r _ n (.inr ?_)
        rw [List.lookup_cons];simp
      · rename_i hk
        refine cloL_lookup cells r _ n ?_
        rcases h with h|h
        · rcases List.mem_cons.1 h with h|h
          · cases h;exact absurd rfl hk
          · exact .inl h
        · exact .inr h
    · have hb:(n==m)=false:=beq_eq_false_iff_ne.2 hn
      have h':(n,NameKind.free)∈r∨acc.lookup n=some ((cells.lookup n).getD 0):=by
        rcases h with h|h
        · rcases List.mem_cons.1 h with h|h
          · cases h;exact absurd rfl hn
          · exact .inl h
        · exact .inr h
      split
      · refine cloL_lookup cells r _ n ?_
        rcases h' with h|h
        · exact .inl h
        · exact .inr (by rw [List.lookup_cons,hb];exact h)
      · exact cloL_lookup cells r _ n h'
end
section
noncomputable def isFun:ScopeKind→Bool
  | .function=>true
  | _=>false
noncomputable def scopeB (nm:List (Str × NameKind)) (scope:Scope):Bool:=isFun scope.kind&&scope.names.all fun x=>scope.names.lookup x.1==some x.2&&(!(x.2==.free)||isCF (nm.lookup x.1))
noncomputable def compL (o:Ops) (c:Cx):PySem.Expr→Option (List D)
  | .ListComp elt (g::gs) scope _=>if scopeB c.nm scope&&(g::gs).all (fun g=>g.is_async==0&&notSet g.iter) then (srcD o c g.iter).bind fun q=>(loopD o scope.names (bodyD o scope.names elt gs) g (c.σ.filter fun x=>scope.names.lookup x.1==some .free) q.1 q.2).bind fun l=>if Nat.ble l.length 100000 then some l else none else none
  | _=>none
theorem relabel_lookup {env:Env} {scope:Scope} (n:Str):(relabel scope env).names.lookup n=(scope.names.lookup n).map fun k=>if (k==NameKind.free&&env.scope.kind==.function&&env.kindOf n==some .cell) then NameKind.cell else k:=by
  show List.lookup n (scope.names.map fun (n,k)=>if (k==NameKind.free&&env.scope.kind==.function&&env.kindOf n==some .cell) then (n,NameKind.cell) else (n,k))=_
  induction scope.names with
  | nil=>rfl
  | cons x r ih =>
    obtain ⟨m,k⟩:=x
    rw [List.map_cons]
    dsimp only
    cases hb:n==m with
    | true =>
      have e:=eq_of_beq hb
      subst e
      split
      · rename_i hc
        rw [List.lookup_cons,List.lookup_cons,hb]
        exact (congrArg some (if_pos hc)).symm
      · rename_i hc
        rw [List.lookup_cons,List.lookup_cons,hb]
        exact (congrArg some (if_neg hc)).symm
    | false =>
      split
      · rw [List.lookup_cons,List.lookup_cons,hb];exact ih
      · rw [List.lookup_cons,List.lookup_cons,hb];exact ih
theorem relabel_of {env:Env} {scope:Scope} {n:Str} {k:NameKind} (h:scope.names.lookup n=some k) (hk:k≠.free):(relabel scope env).names.lookup n=some k:=by
  rw [relabel_lookup,h]
  have:(k==NameKind.free)=false:=beq_eq_false_iff_ne.2 hk
  exact congrArg some (if_neg (by rw [this];simp))
theorem relabel_free {env:Env} {scope:Scope} {n:Str} (h:scope.names.lookup n=some .free):(relabel scope env).names.lookup n=some .free∨(relabel scope env).names.lookup n=some .cell:=by
  rw [relabel_lookup,h]
  simp only [Option.map_some]
  split
  · exact .inr rfl
  · exact .inl rfl
theorem relabel_cell {env:Env} {scope:Scope} {n:Str} (h:(relabel scope env).names.lookup n=some .cell):scope.names.lookup n=some .cell∨scope.names.lookup n=some .free:=by
  rw [relabel_lookup] at h
  cases e:scope.names.lookup n with
  | none=>rw [e] at h;cases h
  | some k =>
    rw [e] at h
    simp only [Option.map_some,Option.some.injEq] at h
    split at h
    · rename_i hc
      simp only [Bool.and_eq_true,beq_iff_eq] at hc
      rw [hc.1.1];exact .inr rfl
    · rw [h];exact .inl rfl
theorem rep_freshs {h:Heap} {W:List Addr}:∀ (U:List Addr) (d:D) (v:Value),(∀ a∈U,h.get? a=none)→rep h W d v→rep h (U++W) d v
  | [],d,v,_,r=>r
  | a::U,d,v,hU,r=>rep_fresh (hU a List.mem_cons_self) _ _ (rep_freshs U d v (fun b hb=>hU b (List.mem_cons_of_mem _ hb)) r)
theorem lookup_filter (p:Str→Bool):∀ (σ:List (Str × D)) (n:Str) (d:D),(σ.filter fun x=>p x.1).lookup n=some d→p n=true∧σ.lookup n=some d
  | [],n,d,h=>by cases h
  | (m,x)::σ,n,d,h=>by
    rw [List.filter_cons] at h
    split at h
    · rename_i hp
      rw [List.lookup_cons] at h ⊢
      cases hb:n==m with
      | true=>rw [hb] at h;rw [eq_of_beq hb];exact ⟨hp,h⟩
      | false=>rw [hb] at h;exact lookup_filter p σ n d h
    · rename_i hp
      obtain ⟨h1,h2⟩:=lookup_filter p σ n d h
      refine ⟨h1,?_⟩
      rw [List.lookup_cons]
      cases hb:n==m with
      | true=>rw [eq_of_beq hb] at h1;exact absurd h1 hp
      | false=>exact h2
noncomputable def freeOf (names:List (Str × NameKind)):List Str:=names.filterMap fun x=>if x.2==.free then some x.1 else none
theorem mem_freeOf {names:List (Str × NameKind)} {n:Str} (h:n∈freeOf names):(n,NameKind.free)∈names:=by
  refine el12 (List.mem_filterMap.1 h) fun x hx e=>?_
  split at e
  · rename_i hk
    cases e
    rw [← eq_of_beq hk];exact hx
  · exact nope e
theorem freeOf_mem {names:List (Str × NameKind)} {n:Str} (h:(n,NameKind.free)∈names):n∈freeOf names:=List.mem_filterMap.2 ⟨(n,.free),h,rfl⟩
theorem cf_cases {o:Option NameKind} (h:isCF o=true):o=some .cell∨o=some .free:=by
  cases o with
  | none=>cases h
  | some k=>cases k<;>first|exact .inl rfl|exact .inr rfl|cases h
theorem loc_cases {o:Option NameKind} (h:isLoc o=true):(o=some .local∨o=some .cell)∨o=some .free:=by
  cases o with
  | none=>cases h
  | some k=>cases k<;>first|exact .inl (.inl rfl)|exact .inl (.inr rfl)|exact .inr rfl|cases h
section
variable {env:Env} {scope:Scope} {n:Str}
theorem cf_relabel (h:isCF (scope.names.lookup n)=true):isCF ((relabel scope env).names.lookup n)=true:=by
  rcases cf_cases h with e|e
  · rw [relabel_of e nofun];rfl
  · rcases relabel_free (env:=env) e with h|h<;>(rw [h];rfl)
theorem loc_relabel (h:isLoc (scope.names.lookup n)=true):isLoc ((relabel scope env).names.lookup n)=true:=by
  rcases loc_cases h with (e|e)|e
  · rw [relabel_of e nofun];rfl
  · rw [relabel_of e nofun];rfl
  · rcases relabel_free (env:=env) e with h|h<;>(rw [h];rfl)
theorem relabel_cf (h:isCF ((relabel scope env).names.lookup n)=true):isCF (scope.names.lookup n)=true:=by
  rw [relabel_lookup] at h
  cases e:scope.names.lookup n with
  | none=>rw [e] at h;cases h
  | some k =>
    rw [e] at h
    cases k<;>first|rfl|(simp [isCF] at h)
theorem comp_env {cs:List (Str × Addr)} {C:Addr} (hcons:∀ x∈scope.names,scope.names.lookup x.1=some x.2):EnvOk (compEnvC scope cs C env) scope.names (freeOf scope.names):=by
  refine ⟨fun h W σ R'=>⟨R'.kind,R'.glob,R'.blt,fun n hn=>R'.gl n (relabel_of hn nofun),fun n hn=>R'.cf n (cf_relabel hn),R'.ce,fun n d hn hl=>R'.loc n d hn (loc_relabel hl)⟩,fun n hn=>?_⟩
  have hk:∃ k,scope.names.lookup n=some k∧(k=.local∨k=.cell):=(Bool.or_eq_true_iff.mp hn).elim (fun h=>⟨_,eq_of_beq h,.inl rfl⟩) fun h=>⟨_,eq_of_beq h,.inr rfl⟩
  refine el12 hk fun k hk hkk=>⟨?_,fun m=>?_⟩
  · have h1:(compEnvC scope cs C env).kindOf n=some k:=relabel_of hk (by rcases hkk with rfl|rfl<;>nofun)
    unfold mineK
    rw [h1]
    rcases hkk with rfl|rfl<;>rfl
  · have:=(hcons _ (mem_freeOf m)).symm.trans hk
    rcases hkk with rfl|rfl<;>cases this
theorem isCF_loc {o:Option NameKind} (h:isCF o=true):isLoc o=true:=by
  rcases cf_cases h with e|e<;>(rw [e];rfl)
theorem comp_st0 {w:World} {nm:List (Str × NameKind)} {σ:List (Str × D)} {cl cs:List (Str × Addr)} {C:Addr} {h0:Heap} {s4:Shared} {W U N:List Addr} (hkind:scope.kind=.function) (R:EnvR env h0 W nm σ) (hfree:∀ n,scope.names.lookup n=some .free→isCF (nm.lookup n)=true)
    (k04:HK h0 s4.heap) (ns4:s4.heap.Ns C fun _=>none) (CN1:∀ n c,(n,c)∈cs→(n,c)∈cl∨NewCell s4.heap (C+1) scope.names n c) (CN2:∀ x y,x∈cs→y∈cs→C+1≤x.2→x.2=y.2→x.1=y.1) (hclm:∀ n c,(n,c)∈cl→(n,NameKind.free)∈scope.names∧env.cells.lookup n=some c)
    (hfr:∀ n,scope.names.lookup n=some .free→cs.lookup n=some ((env.cells.lookup n).getD 0)) (hhas:∀ n,scope.names.lookup n=some .cell→∃ c,cs.lookup n=some c) (N2:C∈N) (N3:∀ n c,cs.lookup n=some c→C+1≤c→c∈N)
    (alive:∀ b∈U++(N++W),∃ o,s4.heap.get? b=some o) (Nf:∀ b∈N,h0.get? b=none) (Uf:∀ b∈U,h0.get? b=none) (Y:YP w s4.heap) (hi:∀ b∈N,302≤b) :
    StR w (compEnvC scope cs C env) s4 N (U++(N++W)) (σ.filter fun x=>scope.names.lookup x.1==some .free) (freeOf scope.names):=by
  have hcell:∀ n c,n∉freeOf scope.names→cs.lookup n=some c→C+1≤c:=fun n c hO hc=>(CN1 n c (mem_of_lookup hc)).elim (fun hm=>absurd (freeOf_mem (hclm n c hm).1) hO) NewCell.lo
  refine ⟨⟨⟨hkind,R.glob,R.blt,fun n hn=>hn,fun n hn=>?_,fun n c hc=>?_,fun n d hn hl=>?_⟩,⟨_,ns4⟩,fun n n' c hO hk h1 h2=>?_,⟨N2,fun n c hO hk hc=>N3 n c hc (hcell n c hO hc)⟩,fun b hb=>List.mem_append_right _ (List.mem_append_left _ hb),alive⟩,Y,hi⟩
  · exact (cf_cases (relabel_cf hn)).elim (fun e=>(hhas n e).elim fun c hc=>⟨c,hc,.inl (relabel_of e nofun)⟩) fun e=>⟨_,hfr n e,(relabel_free e).symm⟩
  · exact (CN1 n c (mem_of_lookup hc)).elim (fun hm=>(R.ce n c (hclm n c hm).2).elim fun v hx=>⟨v,hx.keeps k04⟩) fun hm=>⟨_,hm.is⟩
  · have hp:=lookup_filter (fun n=>scope.names.lookup n==some .free) _ n d hn
    have e:scope.names.lookup n=some .free:=eq_of_beq hp.1
    have hcf:=hfree n e
    refine el12 (R.loc n d hp.2 (isCF_loc hcf)) fun v hv rv=>el12 (R.cf n hcf) fun c0 hc0 hk0=>⟨v,.inr ⟨(relabel_free e).symm,c0,?_,?_⟩,rep_keep k04 _ _ (rep_freshs U _ _ Uf (rep_freshs N _ _ Nf rv))⟩
    · have h1:=hfr n e
      rw [hc0] at h1
      exact h1
    · rcases hv with hv|hv
      · rcases hk0 with hk0|hk0<;>exact nomatch hv.1.symm.trans hk0
      · exact el12 hv.2 fun c1 hc1 hx=>Option.some.inj (hc0.symm.trans hc1)▸hx.keeps k04
  · exact (CN2 (n,c) (n',c) (mem_of_lookup h1) (mem_of_lookup h2) (hcell n c hO h1) rfl).symm
end
theorem compL_e {o:Ops} {c:Cx} {elt:PySem.Expr} {g:Comprehension} {gs:List Comprehension} {scope:Scope} {pos:Pos} {l:List D} (h:compL o c (.ListComp elt (g::gs) scope pos)=some l) :
    (scopeB c.nm scope&&(g::gs).all fun g=>g.is_async==0&&notSet g.iter)=true∧∃ q,srcD o c g.iter=some q∧loopD o scope.names (bodyD o scope.names elt gs) g (c.σ.filter fun x=>scope.names.lookup x.1==some .free) q.1 q.2=some l∧l.length≤100000 :=
  if_e h fun hc h=>⟨hc,bnd_e h fun q hq h=>bnd_e h fun l' hl h=>if_e h fun hn h=>Option.some.inj h▸⟨q,hq,hl,Nat.le_of_ble_eq_true hn⟩⟩
theorem mem3 {a b x:Addr} {L:List Addr} {P:Addr→Prop} (pa:P a) (pb:P b) (pl:∀ x∈L,P x):∀ x∈a::b::L,P x:=fun x hx=>(List.mem_cons.1 hx).elim (fun e=>e▸pa) fun hx=>(List.mem_cons.1 hx).elim (fun e=>e▸pb) (pl x)
theorem memA {L M:List Addr} {P:Addr→Prop} (l:∀ x∈L,P x) (m:∀ x∈M,P x):∀ x∈L++M,P x:=fun x hx=>(List.mem_append.1 hx).elim (l x) (m x)
section
variable {w:World} {A:Around} {env:Env} {s:Shared} {W:List Addr} {o:Ops} {c:Cx}
theorem comp_core {elt:PySem.Expr} {g:Comprehension} {gs:List Comprehension} {scope:Scope} {pos:Pos} {l:List D} (hh:A.handled=none) (Sd:SoundEv w A o.ev) (T:SoundTr w A o.tr) (Y:YP w s.heap) (hW:WOk s.heap W) (R:EnvR env s.heap W c.nm c.σ)
    (h:compL o c (.ListComp elt (g::gs) scope pos)=some l) {E:Value→Shared→Prop} {RR:Value→Addr→Result→Shared→Prop}
    (q:∀ d C s' m xs,Keeps s s'→s.heap.get? d=none→s.heap.get? C=none→d≠C→s'.heap.Ns C m→s'.heap.PlainList d (List.toArray xs)→reps s'.heap (C::W) l xs→RR (.ref d) C (.ok .next) s') :
    (∀ x,foldedSetIterable g.iter env x=pure x)∧closureFor scope env=pure (cloL env.cells scope.names [])∧scope.kind=.function∧(∀ x∈scope.names,x.2=.local→scope.names.lookup x.1=some .local) ∧
    wpAny (model pw w) A (eval g.iter env) (fun x s₁=>wpAny (model pw w) A (pyIter x) (fun it s₂=>wpAny (model pw w) A (newList []) (fun acc s₃ =>
      wpAny (model pw w) A (newFunctionEnv scope env.globals (cloL env.cells scope.names []) [] env.qual none .none (some env)) (fun cenv s₄ =>
        codeAny (model pw w) A (.compStart (.ListComp elt (g::gs) scope pos) 0 it acc { cenv with scope:=relabel scope env }) (RR acc cenv.locals) s₄) E s₃) E s₂) E s₁) E s:=by
  refine Exists.elim (compL_e h).2 fun p hp=>?_
  have hB:=Bool.and_eq_true_iff.1 (compL_e h).1
  have hS:=Bool.and_eq_true_iff.1 hB.1
  have hnms:∀ x∈scope.names,scope.names.lookup x.1=some x.2∧(!(x.2==.free)||isCF (c.nm.lookup x.1))=true:=fun x hx=>by
    have:=List.all_eq_true.1 hS.2 x hx
    rw [Bool.and_eq_true] at this
    exact ⟨eq_of_beq this.1,this.2⟩
  have hfree:∀ n,scope.names.lookup n=some .free→isCF (c.nm.lookup n)=true:=fun n hn=>(hnms _ (mem_of_lookup hn)).2
  have hfree':∀ x∈scope.names,x.2=.free→∃ c,env.cells.lookup x.1=some c:=fun x hx e=>el12 (R.cf x.1 (hfree x.1 (by rw [(hnms x hx).1,e]))) fun c hc _=>⟨c,hc⟩
  have hz:∀ g'∈g::gs,g'.is_async=0∧notSet g'.iter=true:=fun g' hg'=>by
    have:=List.all_eq_true.1 hB.2 g' hg'
    rw [Bool.and_eq_true] at this
    exact ⟨eq_of_beq this.1,this.2⟩
  have hkind:scope.kind=.function:=by
    have hfun:=hS.1
    cases hk:scope.kind<;>rw [hk] at hfun<;>first|rfl|cases hfun
  have src:=src_ok Sd Y hW R hp.1
  refine ⟨src.2,closure_pure hfree',hkind,fun x hx e=>by rw [(hnms x hx).1,e],?_⟩
  refine src.1 _ _ fun I U s2 k2 fr hI made=>?_
  have hk2:=Keeps.heap k2
  refine wpAny_newObj_type (newEnv_comp ?_)
  have hC:(s2.heap.push { cls:=.type "list",dict:=none,data:=.seq ([]:List Value).toArray }).objs.size=s2.heap.objs.size+1:=Heap.size_push ..
  have k3:HK s2.heap (s2.heap.push { cls:=.type "list",dict:=none,data:=.seq ([]:List Value).toArray }):=fun b o g=>Heap.get?_push_of_some _ g
  have pl3:Heap.PlainList (s2.heap.push { cls:=.type "list",dict:=none,data:=.seq ([]:List Value).toArray }) s2.heap.objs.size #[]:=⟨0,Heap.get?_push_size _ rfl⟩
  generalize s2.heap.push { cls:=.type "list",dict:=none,data:=.seq ([]:List Value).toArray }=H3 at hC k3 pl3 ⊢
  dsimp only
  have hC4:(H3.push { cls:=.type "dict",data:=.dict #[] }).objs.size=H3.objs.size+1:=Heap.size_push ..
  have hclm:∀ n c,(n,c)∈cloL env.cells scope.names []→(n,NameKind.free)∈scope.names∧env.cells.lookup n=some c:=fun n c hm =>
    (cloL_old _ _ _ _ _ hm).elim (fun hm=>nomatch hm) fun hm=>⟨hm.1,(hfree' _ hm.1 rfl).elim fun c' hc'=>by rw [hm.2,hc'];rfl⟩
  have hclL:∀ n,scope.names.lookup n=some .free→(cloL env.cells scope.names []).lookup n=some ((env.cells.lookup n).getD 0):=fun n e=>cloL_lookup _ _ _ _ (.inl (mem_of_lookup e))
  generalize cloL env.cells scope.names []=cl at hclm hclL ⊢
  have hclt:∀ n c,(n,c)∈cl→c<H3.objs.size+1:=fun n c hm=>(R.ce n c (hclm n c hm).2).elim fun v hx=>Nat.lt_succ_of_lt (hx.keeps (h':=H3) fun b o g=>k3 b o (hk2 b o g)).lt
  have CN:=cells_new scope.names scope.names (H3.push { cls:=.type "dict",data:=.dict #[] }) (H3.objs.size+1) cl cl (by rw [hC4];exact Nat.le_refl _) (fun x hx=>hx) (fun n c hm=>.inl hm) hclt (fun x y hx hy hl e=>absurd (hclt x.1 x.2 hx) (Nat.not_lt.2 hl))
  rw [hC4] at CN
  have k4:HK H3 (pushCells (H3.push { cls:=.type "dict",data:=.dict #[] }) scope.names):=fun b o g=>pushCells_keeps _ _ b o (Heap.get?_push_of_some _ g)
  have ns4:(pushCells (H3.push { cls:=.type "dict",data:=.dict #[] }) scope.names).Ns H3.objs.size (fun _=>none):=(Heap.Ns.new H3 (.type "dict")).keeps (pushCells_keeps _ _)
  generalize pushCells (H3.push { cls:=.type "dict",data:=.dict #[] }) scope.names=H4 at CN k4 ns4 ⊢
  have hfr:∀ n,scope.names.lookup n=some .free→(cellsFrom (H3.objs.size+1) scope.names cl).lookup n=some ((env.cells.lookup n).getD 0):=fun n e=>(cellsFrom_other _ _ _ _ fun x hx e1 e2=>nomatch ((e.symm.trans ((congrArg (List.lookup · scope.names) e1).symm.trans (hnms x hx).1)).trans (congrArg some e2):some NameKind.free=some NameKind.cell)).trans (hclL n e)
  have hhas:∀ n,scope.names.lookup n=some .cell→∃ c,(cellsFrom (H3.objs.size+1) scope.names cl).lookup n=some c:=fun n hn=>Option.isSome_iff_exists.mp (cellsFrom_has _ _ _ n hn)
  generalize cellsFrom (H3.objs.size+1) scope.names cl=cs at CN hfr hhas ⊢
  show codeAny (model pw w) A (.compStart (.ListComp elt (g::gs) scope pos) 0 (.ref I) (.ref s2.heap.objs.size) (compEnvC scope cs H3.objs.size env)) (RR (.ref s2.heap.objs.size) H3.objs.size) { s2 with heap:=H4 }
  refine named (s2.heap.objs.size::H3.objs.size::(cs.filterMap fun x=>if H3.objs.size+1≤x.2 then some x.2 else none)) fun N hN=>?_
  have N1:s2.heap.objs.size∈N:=by rw [hN];exact List.mem_cons_self
  have N2:H3.objs.size∈N:=by rw [hN];exact List.mem_cons_of_mem _ List.mem_cons_self
  have N3:∀ n c,cs.lookup n=some c→H3.objs.size+1≤c→c∈N:=fun n c hc hl=>by
    rw [hN]
    exact List.mem_cons_of_mem _ (List.mem_cons_of_mem _ (List.mem_filterMap.2 ⟨(n,c),mem_of_lookup hc,if_pos hl⟩))
  have Nge:∀ b∈N,s2.heap.objs.size≤b∧∃ o,H4.get? b=some o:=by
    rw [hN]
    refine mem3 (x:=0) ⟨Nat.le_refl _,pl3.elim fun n g=>⟨_,k4 _ _ g⟩⟩ ⟨by rw [hC];exact Nat.le_succ _,ns4.elim fun o x=>⟨o,(x.choose_spec.choose_spec).1⟩⟩ fun b hb=>el12 (List.mem_filterMap.1 hb) fun x hx hq=>?_
    refine if_e hq fun hl hq=>?_
    rw [← Option.some.inj hq]
    refine (CN.1 x.1 x.2 hx).elim (fun hm=>absurd (hclt _ _ hm) (Nat.not_lt.2 hl)) fun hm=>⟨?_,hm.is.elim fun o g=>⟨o,g.1⟩⟩
    rw [hC] at hl
    exact Nat.le_trans (Nat.le_trans (Nat.le_succ _) (Nat.le_succ _)) hl
  have Nfr:∀ b∈N,s2.heap.get? b=none:=fun b hb=>Heap.get?_none_of_le (Nge b hb).1
  have Nfr0:∀ b∈N,s.heap.get? b=none:=fun b hb=>not_before k2 (Nfr b hb)
  clear hN
  refine Exists.elim (made N Nfr) fun K hK=>?_
  have IT:=hK.1 A hh
  have k24:HK s2.heap H4:=fun b o g=>k4 b o (k3 b o g)
  have h04:=IT.frame 0 _ H4 [] (fun a m=>nomatch m) (fun a _ m=>nomatch m) hK.2 fun b o _ g=>k24 b o g
  have k04:HK s.heap H4:=fun b o g=>k24 b o (hk2 b o g)
  have hUal:=IT.live 0 _ hK.2
  have St0:=comp_st0 (w:=w) (s4:={ s2 with heap:=H4 }) hkind R hfree k04 ns4 CN.1 CN.2 hclm hfr hhas N2 N3 (U:=U) (memA (fun b hb=>(hUal b hb).elim fun o g=>⟨o,k24 b o g⟩) (memA (fun b hb=>(Nge b hb).2) fun b hb=>(hW b hb).elim fun o g=>⟨o,k04 b o g⟩)) Nfr0 fr (fun b o g=>k04 b o (Y b o g)) fun b hb=>new_hi (fun b o g=>hk2 b o (Y b o g)) (Nfr b hb)
  have hWU:∀ b∈N++W,b∉U:=memA (fun b hb m=>(hUal b m).elim fun o g=>nope ((Nfr b hb).symm.trans g)) fun b hb m=>(hW b hb).elim fun o g=>nope ((fr b m).symm.trans g)
  have S0:CompSt w (compEnvC scope cs H3.objs.size env) { s2 with heap:=H4 } N (U++(N++W)) (freeOf scope.names) s2.heap.objs.size (c.σ.filter fun x=>scope.names.lookup x.1==some .free) [] :=
    ⟨St0,N1,[],pl3.at fun o g=>k4 _ o g,by simp only [reps]⟩
  cases g with
  | mk t iter ifs z =>
  have hz0:z=0:=(hz _ List.mem_cons_self).1
  subst hz0
  refine loop_ok hh T (comp_env fun x hx=>(hnms x hx).1) (gens:=⟨t,iter,ifs,0⟩::gs) (k:=0) rfl (fun t' i' f' z h=>?_) (inn_ok hh Sd T (comp_env fun x hx=>(hnms x hx).1) hz gs 0 rfl) IT S0 (fun b hb=>List.mem_append_left _ hb) hWU (fun h=>⟨fun m=>hWU _ (List.mem_append_left _ N2) m,fun n c hc m=>?_⟩) (fun b hb=>new_hi Y (fr b hb)) h04 hp.2.1 (by simpa using hp.2.2) fun s5 k5 S5=>?_
  · have:=hz _ (List.mem_of_getElem? h)
    exact ⟨this.1,notSet_pure this.2⟩
  · exact (CN.1 n c (mem_of_lookup hc)).elim (fun hm=>(R.ce n c (hclm n c hm).2).elim fun v x=>x.elim fun o g=>nope ((fr c m).symm.trans g.1)) fun hm=>hWU c (List.mem_append_left _ (N3 n c hc hm.lo)) m
  · refine Exists.elim S5.st.fr.ns fun m hm=>el12 S5.val fun xs pl5 r5=>?_
    refine q _ _ s5 m xs ?_ (Nfr0 _ N1) (Nfr0 _ N2) (by rw [hC];exact Nat.ne_of_lt (Nat.lt_succ_self _)) hm pl5 (reps_sub (fun b hb=>(List.mem_cons.1 hb).elim (fun q=>q▸List.mem_append_left _ N2) (List.mem_append_right _)) _ _ r5)
    refine el22 k5 fun h' tk e5 hk=>el22 k2 fun h2 tk2 e2 _=>?_
    subst e2
    exact ⟨h',tk,e5,fun b o g=>hk b o (memA (P:=fun b=>s.heap.get? b=some o→False) (fun b m g=>nope ((fr b m).symm.trans g)) (fun b m g=>nope ((Nfr0 b m).symm.trans g)) b · g) (k04 b o g)⟩
end
end
section
@[elab_as_elim] theorem compL_x {o:Ops} {c:Cx} {l:List D} {P:PySem.Expr→Prop} (x:PySem.Expr) (h:compL o c x=some l) (q:∀ elt t iter ifs gs scope pos,compL o c (.ListComp elt (⟨t,iter,ifs,0⟩::gs) scope pos)=some l→P (.ListComp elt (⟨t,iter,ifs,0⟩::gs) scope pos)):P x:=by
  cases x<;>first|exact nope h|skip
  rename_i elt gens scope pos
  cases gens with
  | nil=>exact nope h
  | cons g gs =>
    obtain ⟨t,iter,ifs,z⟩:=g
    have hz:=List.all_eq_true.1 (Bool.and_eq_true_iff.1 (compL_e h).1).2 _ List.mem_cons_self
    rw [Bool.and_eq_true] at hz
    have hz:z=0:=eq_of_beq hz.1
    subst hz
    exact q _ _ _ _ _ _ _ h
section
variable {w:World} {A:Around} {o:Ops} {ct:CT}
theorem sound_comp (hh:A.handled=none) (Sd:SoundEv w A o.ev) (T:SoundTr w A o.tr) {e:Env} {W:List Addr} {c:Cx} {s:Shared} {x:PySem.Expr} {l:List D} (Y:YP w s.heap) (hW:WOk s.heap W) (R:EnvR e s.heap W c.nm c.σ) (h:compL o c x=some l):EvOk w A (eval x e) s W (.list l):=fun Q E q=>by
  refine compL_x x h fun elt t iter ifs gs scope pos h=>?_
  have key:∀ d C s' m xs,Keeps s s'→s.heap.get? d=none→s.heap.get? C=none→d≠C→s'.heap.Ns C m→s'.heap.PlainList d (List.toArray xs)→reps s'.heap (C::W) l xs→compPost (model pw w) A E none Q (.ref d) C (.ok .next) s':=fun d C s' m xs k hd hC hne hns pl r=>by
    refine ⟨m,hns,fun h' hs=>q _ _ ?_ ?_⟩
    · refine el22 k fun h1 tk q2q hk=>?_;subst q2q
      exact ⟨h',tk,rfl,fun b o g=>hs.extBut b o (fun e=>by rw [e,hC] at g;cases g) (hk b o g)⟩
    · have hk:HKW [C] s'.heap h':=fun b o hb g=>hs.extBut b o (fun q=>hb (q▸List.mem_cons_self)) g
      have hdW:d∉W:=fun m=>(hW d m).elim fun o g=>nope (hd.symm.trans g)
      simp only [rep]
      exact ⟨d,xs,rfl,hdW,islist_keep (fun o g=>hk d o (fun m=>hne (List.mem_singleton.1 m)) g) pl.isList,reps_sub (fun b hb=>List.mem_cons_of_mem _ hb) _ _ (reps_keepW hk (fun b hb=>List.mem_singleton.1 hb▸List.mem_cons_self) _ _ r)⟩
  refine el05 (comp_core (E:=E) (pos:=pos) (RR:=fun acc C=>compPost (model pw w) A E none Q acc C) hh Sd T Y hW R h key) fun h1 h2 h3 h4 h5=>?_
  rw [eval_ListComp]
  exact wpAny_comprehension_free (use:=none) rfl h1 h2 h3 h4 h5
theorem use_comp (hh:A.handled=none) (Sd:SoundEv w A o.ev) (T:SoundTr w A o.tr) {e:Env} {W:List Addr} {c:Cx} {s:Shared} {x:PySem.Expr} {l:List D} (Y:YP w s.heap) (hW:WOk s.heap W) (R:EnvR e s.heap W c.nm c.σ) (h:compL o c x=some l):UseOk w A e s W x (.list l):=fun u Q E q=>by
  refine compL_x x h fun elt t iter ifs gs scope pos h=>?_
  have key:∀ d C s' m xs,Keeps s s'→s.heap.get? d=none→s.heap.get? C=none→d≠C→s'.heap.Ns C m→s'.heap.PlainList d (List.toArray xs)→reps s'.heap (C::W) l xs→compPost (model pw w) A E (some u) (fun _ s'=>Q s') (.ref d) C (.ok .next) s':=fun d C s' m xs k hd hC hne hns pl r=>by
    have hdW:d∉W:=fun m=>(hW d m).elim fun o g=>nope (hd.symm.trans g)
    refine q (.ref d) C s' k hC ⟨m,hns⟩ ?_
    simp only [rep]
    refine ⟨d,xs,rfl,fun m=>?_,pl.isList,r⟩
    rcases List.mem_append.1 m with m|m
    · exact hne (List.mem_singleton.1 m)
    · exact hdW m
  refine el05 (comp_core (E:=E) (pos:=pos) (RR:=fun acc C=>compPost (model pw w) A E (some u) (fun _ s'=>Q s') acc C) hh Sd T Y hW R h key) fun h1 h2 h3 h4 h5=>?_
  rw [arm_evalThenUse_ListComp]
  refine wpAny_bind (wpAny_mono (wpAny_comprehension_free (use:=some u) (Q:=fun _ s'=>Q s') rfl h1 h2 h3 h4 h5) (fun _ s' hq=>wpAny_pure hq) fun _ _ x=>x)
noncomputable abbrev Extra:=Ops→Cx→PySem.Expr→Option (Option D)
noncomputable def SoundX (w:World) (A:Around) (X:Extra):Prop:=∀ o,SoundEv w A o.ev→SoundTr w A o.tr→∀ (e:Env) (W:List Addr) (c:Cx) (s:Shared) (x:PySem.Expr) (d:D),YP w s.heap→WOk s.heap W→EnvR e s.heap W c.nm c.σ→X o c x=some (some d)→EvOk w A (eval x e) s W d
noncomputable def stepC (w:World) (ct:CT) (X:Extra) (o:Ops) (c:Cx) (x:PySem.Expr):Option D :=
  if isLC x then (compL o c x).map .list else match X o c x with
    | some r=>r
    | none=>stepAll w ct o c x
noncomputable def ops2 (w:World) (ct:CT) (X:Extra):Nat→Ops
  | 0=>⟨fun _ _=>none,fun _ _=>none⟩
  | n+1=>⟨stepC w ct X (ops2 w ct X n),stepTr (ops2 w ct X n)⟩
theorem sound_ops2 {X:Extra} (hA:A.handled=none) (hu:A.units+20<cLine) (C:SoundCT w A ct) (HX:SoundX w A X):∀ n,SoundEv w A (ops2 w ct X n).ev∧SoundTr w A (ops2 w ct X n).tr
  | 0=>⟨fun _ _ _ _ _ _ _ _ _ h=>(by cases h),fun _ _ _ _ _ _ _ _ _ h=>(by cases h)⟩
  | n+1=>by
    have ih:=sound_ops2 hA hu C HX n
    refine ⟨fun e W c s x d Y hW R h=>?_,sound_tr hu ih.1 ih.2⟩
    have h:stepC w ct X (ops2 w ct X n) c x=some d:=h
    unfold stepC at h
    split at h
    · rw [Option.map_eq_some_iff] at h
      refine el12 h fun l hl q2q=>?_;subst q2q
      exact sound_comp hA ih.1 ih.2 Y hW R hl
    · split at h
      · rename_i hx
        rw [h] at hx
        exact HX _ ih.1 ih.2 e W c s x _ Y hW R hx
      · exact sound_all hA hu ih.1 ih.2 C e W c s x d Y hW R h
theorem use_ops2 {X:Extra} (hA:A.handled=none) (hu:A.units+20<cLine) (C:SoundCT w A ct) (HX:SoundX w A X):∀ n,SoundUse w A (ops2 w ct X n).ev
  | 0=>fun _ _ _ _ _ _ _ _ _ _ h=>(by cases h)
  | n+1=>fun e W c s x d hl Y hW R h=>by
    have ih:=sound_ops2 hA hu C HX n
    have h:stepC w ct X (ops2 w ct X n) c x=some d:=h
    unfold stepC at h
    rw [if_pos hl,Option.map_eq_some_iff] at h
    refine el12 h fun l hl q2q=>?_;subst q2q
    exact use_comp hA ih.1 ih.2 Y hW R hl
end
theorem def_ok3 {w:World} {ct:CT} {X:Extra} {n m k:Nat} {a:Addr} {fd:FuncData} {ps:List Str} {body:List Stmt} {ds:List D} {d:D} {g':Sg} (on:Str) (F:DefR w a fd ps body) (C:∀ f ds d,ct f ds=some d→Contract w n f ds d) (HX:∀ A,Room A n→SoundX w A X) (hl:ds.length=ps.length)
    (h:exs2 (ops2 w ct X m) on fd.scope.names k ⟨ps.zip ds,none⟩ body=some (.ret d,g')):Contract w (n+1) (.ref a) ds d:=fun A R =>
  ok_def F (by have:=R.d;lia) hl fun s' L M W' W0 S h0 Q E q=>by
    have R':Room (A.deeper (callEnvC fd L a)) n:=R.deeper
    have hu:(A.deeper (callEnvC fd L a)).units+20<cLine:=by have:=R'.u;lia
    have hC:SoundCT w (A.deeper (callEnvC fd L a)) ct:=fun f ds d hc=>C f ds d hc _ R'
    have sd:=sound_ops2 (w:=w) (ct:=ct) R'.h hu hC (HX _ R') m
    exact exs2_ok (e:=callEnvC fd L a) (on:=on) R'.h sd.1 sd.2 (use_ops2 R'.h hu hC (HX _ R') m) k M W' W0 0 ⟨ps.zip ds,none⟩ _ _ _ s' ⟨S,h0,fun p l h=>(by cases h),fun x h=>(by cases h)⟩ h Q E fun f s2 k2 _ r=>q f s2 k2 r
noncomputable def X0:Extra:=fun _ _ _=>none
theorem soundX0 {w:World} {A:Around}:SoundX w A X0:=fun o _ _ e W c s x d _ _ _ h=>by cases h
end
section
noncomputable def keyI:Value→Int
  | .int i _=>i
  | _=>0
noncomputable def keyS:Value→Str
  | .str x _=>x
  | _=>default
noncomputable def isIntV:Value→Bool | .int ..=>true|_=>false
noncomputable def isStrV:Value→Bool | .str ..=>true|_=>false
theorem map_hash {es:List DictEntry} {f:Value→Int} (h:es.map (·.hash)=es.map fun e=>f e.key):∀ e∈es,e.hash=f e.key:=by
  induction es with
  | nil=>intro e he;cases he
  | cons x es ih =>
    rw [List.map_cons,List.map_cons] at h
    injection h with h1 h2
    intro e he
    rcases List.mem_cons.1 he with rfl|he
    · exact h1
    · exact ih h2 e he
theorem b3_map (w:World):(esAt w.params 46).toList.map (·.hash)=(esAt w.params 46).toList.map fun e=>hashInt (keyI e.key):=by kernel_rfl!
theorem b3_keys (w:World):(esAt w.params 46).toList.all (fun e=>isIntV e.key)=true:=by kernel_rfl!
theorem ex_map (w:World):(esAt w.params 92).toList.map (·.hash)=(esAt w.params 92).toList.map fun e=>hashStr w (keyS e.key):=by kernel_rfl!
theorem ex_keys (w:World):(esAt w.params 92).toList.all (fun e=>isStrV e.key)=true:=by kernel_rfl!
theorem b3_pairs (w:World):(esAt w.params 46).toList.map (fun e=>(keyI e.key,keyS e.val))=tbl:=by kernel_rfl!
theorem b3_vals (w:World):(esAt w.params 46).toList.all (fun e=>isStrV e.val)=true:=by kernel_rfl!
theorem ex_vals (w:World):(esAt w.params 92).toList.all (fun e=>isIntV e.val)=true:=by kernel_rfl!
noncomputable def b3F (w:World) (i:Int):Option Value:=findBy (intKind pw w).is (esAt w.params 46) i
noncomputable def exF (w:World) (x:Str):Option Value:=findBy (strKind pw w).is (esAt w.params 92) x
noncomputable def lookN (n:Nat):List (Int × Str)→Option Str
  | []=>none
  | (.ofNat k,x)::l=>if Nat.beq k n then some x else lookN n l
  | (.negSucc _,_)::l=>lookN n l
noncomputable def b3D (n:Nat):D:=match lookN n tbl with
  | some x=>.str x
  | none=>.none
noncomputable def exT (P:Params):List (Str × Int):=(esAt P 92).toList.map fun e=>(keyS e.key,keyI e.val)
noncomputable def exD (P:Params) (x:Str):Option D:=match (exT P).find? fun p=>p.1==x with
  | some p=>some (.int p.2)
  | none=>none
theorem find_b3 {h:Heap} {W:List Addr} {i:Nat}:∀ (l:List DictEntry),l.all (fun e=>isIntV e.key)=true→l.all (fun e=>isStrV e.val)=true →
    rep h W (match lookN i (l.map fun e=>(keyI e.key,keyS e.val)) with|some x=>D.str x|none=>D.none) (((l.find? fun e=>Value.isInt (i:Int) e.key).map (·.val)).getD .none)
  | [],_,_=>by simp [rep,lookN]
  | ⟨hs,k,v⟩::l,hk,hv=>by
    simp only [List.all_cons,Bool.and_eq_true] at hk hv
    have ih:=find_b3 (h:=h) (W:=W) (i:=i) l hk.2 hv.2
    cases k<;>simp only [isIntV,Bool.false_eq_true,false_and] at hk
    cases v<;>simp only [isStrV,Bool.false_eq_true,false_and] at hv
    rename_i j t x u
    rw [List.map_cons,List.find?_cons]
    have ne:∀ j:Int,j≠(i:Int)→Value.isInt (i:Int) (.int j t)=false:=fun j q=>by
      cases hb:Value.isInt (i:Int) (.int j t) with
      | false=>rfl
      | true =>
        obtain ⟨t',e⟩:=Value.isInt_shape hb
        cases e;exact absurd rfl q
    dsimp only [keyI,keyS]
    cases j with
    | ofNat j =>
      by_cases q:j=i
      · subst q
        have e1:Value.isInt ((j:Nat):Int) (.int (Int.ofNat j) t)=true:=by simp [Value.isInt]
        rw [e1]
        simp only [lookN,Nat.beq_refl,if_true,Option.map_some,Option.getD_some,rep]
        exact ⟨_,rfl⟩
      · rw [ne _ (by show ((j:Nat):Int)≠(i:Int);lia)]
        have:Nat.beq j i=false:=by
          cases hb:Nat.beq j i with
          | false=>rfl
          | true=>exact absurd (Nat.eq_of_beq_eq_true hb) q
        simp only [lookN,this,Bool.false_eq_true,if_false]
        exact ih
    | negSucc j =>
      rw [ne _ (by lia)]
      simp only [lookN]
      exact ih
theorem b3D_rep (w:World) (i:Nat) {h:Heap} {W:List Addr}:rep h W (b3D i) ((b3F w i).getD .none):=by
  have:=find_b3 (h:=h) (W:=W) (i:=i) _ (b3_keys w) (b3_vals w)
  rw [b3_pairs] at this
  unfold b3D b3F findBy
  generalize hes:esAt w.params 46=es at this ⊢
  obtain ⟨l⟩:=es
  rw [List.find?_toArray]
  exact this
theorem find_ex {x:Str} {d:D}:∀ (l:List DictEntry),l.all (fun e=>isStrV e.key)=true→l.all (fun e=>isIntV e.val)=true→(match (l.map fun e=>(keyS e.key,keyI e.val)).find? fun p=>p.1==x with|some p=>some (D.int p.2)|none=>none)=some d →
    ∃ v,((l.find? fun e=>Value.isStrOf x e.key).map (·.val))=some v∧toD v=some d
  | [],_,_,e=>by cases e
  | ⟨hs,k,v⟩::l,hk,hv,e=>by
    simp only [List.all_cons,Bool.and_eq_true] at hk hv
    cases k<;>simp only [isStrV,Bool.false_eq_true,false_and] at hk
    cases v<;>simp only [isIntV,Bool.false_eq_true,false_and] at hv
    rename_i y t j u
    rw [List.map_cons,List.find?_cons] at e
    rw [List.find?_cons]
    have e2:Value.isStrOf x (.str y t)=(keyS (.str y t)==x):=rfl
    dsimp only at e ⊢
    rw [e2]
    cases hb:(keyS (.str y t)==x) with
    | true=>rw [hb] at e;cases e;exact ⟨_,rfl,rfl⟩
    | false=>rw [hb] at e;exact find_ex l hk.2 hv.2 e
theorem exD_rep (w:World) (x:Str) {d:D} (e:exD w.params x=some d):∃ v,exF w x=some v∧toD v=some d:=by
  have:=find_ex (x:=x) (d:=d) _ (ex_keys w) (ex_vals w) e
  unfold exF findBy
  generalize esAt w.params 92=es at this ⊢
  obtain ⟨l⟩:=es
  rw [List.find?_toArray]
  exact this
end
section
theorem b3_of (w:World) {h:Heap} (Y:YP w h):h.MapOf (intKind pw w) 46 (b3F w):=by
  refine ⟨⟨.type "dict",none,.dict (esAt w.params 46) (epAt w.params 46),#[]⟩,esAt w.params 46,epAt w.params 46,base_get Y (by decide) (by kernel_rfl!) rfl,⟨rfl,rfl,rfl⟩,rfl,fun e he=>?_,fun k=>rfl⟩
  have h1:=map_hash (f:=fun k=>hashInt (keyI k)) (b3_map w) e (Array.mem_toList_iff.2 he)
  have h2:=List.all_eq_true.1 (b3_keys w) e (Array.mem_toList_iff.2 he)
  obtain ⟨hs,k,v⟩:=e
  cases k<;>simp only [isIntV,Bool.false_eq_true] at h2
  exact ⟨_,intKind_is pw w _ _,h1⟩
theorem ex_of (w:World) {h:Heap} (Y:YP w h):h.MapOf (PySem.strKind pw w) 92 (exF w):=by
  refine ⟨⟨.type "dict",none,.dict (esAt w.params 92) (epAt w.params 92),#[]⟩,esAt w.params 92,epAt w.params 92,base_get Y (by decide) (by kernel_rfl!) rfl,⟨rfl,rfl,rfl⟩,rfl,fun e he=>?_,fun k=>rfl⟩
  have h1:=map_hash (f:=fun k=>hashStr w (keyS k)) (ex_map w) e (Array.mem_toList_iff.2 he)
  have h2:=List.all_eq_true.1 (ex_keys w) e (Array.mem_toList_iff.2 he)
  obtain ⟨hs,k,v⟩:=e
  cases k<;>simp only [isStrV,Bool.false_eq_true] at h2
  exact ⟨_,PySem.strKind_is pw w _ _,h1⟩
noncomputable def dictX (w:World) (n0:Nat) (r0:D) (o:Ops) (c:Cx) (x:PySem.Expr):Option (Option D) :=
  (onM x fun n p m mp a pos=>if (m==("get":Str))&&((mp.endLine==pos.line)&&!isStar a) then onD (o.ev c (.Name n p)) asRef fun d=>onD (o.ev c a) asNat fun i=>if d==46&&Nat.beq i n0 then some (some r0) else none else none).or
  (onSub x fun v i pos=>onName v fun n p=>onD (o.ev c (.Name n p)) asRef fun d=>onD (o.ev c i) asStr fun x=>if d==92 then some (exD w.params x) else none)
theorem sound_dictX {w:World} {A:Around} {n0:Nat} {r0:D} (hr:b3D n0=r0):SoundX w A (dictX w n0 r0):=fun o Sd T e W c s x d Y hW R h=>by
  have later:∀ x d,o.ev c x=some d→∀ s',Keeps s s'→EvOk w A (eval x e) s' W d:=fun x d hx s' k=>Sd e W c s' x d (fun b o g=>Keeps.heap k b o (Y b o g)) (hW.keep (Keeps.heap k)) (R.keep (Keeps.heap k)) hx
  have now:∀ x d,o.ev c x=some d→EvOk w A (eval x e) s W d:=fun x d hx=>later x d hx s (Keeps.rfl' s)
  unfold dictX at h
  refine or_e h (fun h=>onM_e x h fun n p m apos arg pos h=>if_e h fun hc h=>onD_e asRef_g h fun d0 hn h=>onD_e asNat_g h fun i ha h=>if_e h fun hd hz=>?_) (fun h=>onSub_e x h fun v i pos h=>onName_e v h fun n p h=>onD_e asRef_g h fun d0 hn h=>onD_e asStr_g h fun x hi h=>if_e h fun hd hz=>?_)
  · simp only [Bool.and_eq_true,beq_iff_eq,Bool.not_eq_true'] at hc hd
    refine el03 hc fun q0q hline hst=>?_;subst q0q
    obtain ⟨rfl,hi⟩:=hd
    have hi:=Nat.eq_of_beq_eq_true hi
    subst hi
    intro Q E q
    have ht:backTo pos (starEach [arg] e)=[(false,eval arg e)]:=by rw [starEach_plain hst];rfl
    refine wpAny_Call_method1_late rfl (by rw [hline];exact BEq.rfl) ht (now _ _ hn _ E fun v s1 k1 r1=>?_)
    simp only [rep] at r1
    subst r1
    have Y1:YP w s1.heap:=fun b o g=>Keeps.heap k1 b o (Y b o g)
    refine ⟨"dict","dict.get",F.plainAttrs_dict,F.slot_dict_get,F.type_dict_get,(b3_of w Y1).typeIs,(b3_of w Y1).noDict,?_⟩
    refine wpAny_dict_get1 (knd:=intKind pw w) (by decide) (later _ _ ha s1 k1 _ E fun u s2 k2 r2=>?_)
    simp only [rep] at r2
    obtain ⟨t,rfl⟩:=r2
    refine ⟨i,b3F w,intKind_is pw w _ _,b3_of w (fun b o g=>Keeps.heap k2 b o (Y1 b o g)),?_⟩
    cases hz
    exact q _ _ (Keeps.tr k1 (Keeps.tr k2 (keepsTok s2 _))) (hr▸b3D_rep w i)
  · have hd:=eq_of_beq hd
    subst hd
    injection hz with hz
    refine el12 (exD_rep w x hz) fun v hv hz=>?_
    rw [arm_eval_Subscript]
    refine EvOk.bind (now _ _ hn) fun o1 s1 k1 r1=>?_
    simp only [rep] at r1
    subst r1
    have Y1:YP w s1.heap:=fun b o g=>Keeps.heap k1 b o (Y b o g)
    refine EvOk.bind (EvOk.hold (later _ _ hi s1 k1)) fun u s2 k2 r2=>?_
    simp only [rep] at r2
    obtain ⟨t,rfl⟩:=r2
    have Y2:YP w s2.heap:=fun b o g=>Keeps.heap k2 b o (Y1 b o g)
    refine EvOk.at fun Q E q=>?_
    have hT:=(ex_of w Y2).typeIs
    rw [getitemInPython_of_ne hT.not_modules]
    refine wpAny_bind (wpAny_bind (wpAny_specialOf hT slot_dict_getitem.lookup ?_))
    refine wpAny_pure ?_
    refine wpAny_bind (subscripted_ok (W:=W) (d:=d) (fun Q E q=>wpAny_getItem_of (knd:=PySem.strKind pw w) (PySem.strKind_is pw w _ _) (ex_of w Y2) hv (q v _ (keepsTok s2 _) (toD_rep hz))) _ E fun v s' k r=>wpAny_bind (PySem.wpAny_letTemporaryGo (wpAny_pure (q v s' k r))))
noncomputable def numA (o:Ops) (c:Cx) (x:PySem.Expr):Option (Option D) :=
  onBin x fun A op M p3=>onBin A fun B op2 t p2=>onBin B fun l op3 N p1=>onInt M fun m mk mp=>onInt N fun n nk np=>if isMod op&&(isAdd op2&&isFD op3) then onD (o.ev c l) asNum fun r=>onD (o.ev c t) asNat fun k=>if (n==288)&&(m==8) then some (some (.int (.ofNat ((r.2.q+k) % 8)))) else none else none
noncomputable def numB (o:Ops) (c:Cx) (x:PySem.Expr):Option (Option D) :=
  onBin x fun A op M p3=>onBin A fun l op2 N p1=>onInt M fun m mk mp=>onInt N fun n nk np=>if isMod op&&isFD op2 then onD (o.ev c l) asNum fun r=>if (n==3)&&(m==3) then some (some (.int (.ofNat r.2.b))) else if (n==9)&&(m==16) then some (some (.int (.ofNat r.2.s))) else if (n==144)&&(m==2) then some (some (.int (if r.2.m then 1 else 0))) else none else none
noncomputable def numC (o:Ops) (c:Cx) (x:PySem.Expr):Option (Option D) :=
  onBin x fun l op M p3=>if isMod op then onD (o.ev c l) asNum fun r=>onInt M fun m mk mp=>if m==3 then some (some (.int (.ofNat r.2.a))) else none else none
noncomputable def orX (X Y:Extra):Extra:=fun o c x=>match X o c x with
  | some r=>some r
  | none=>Y o c x
theorem sound_orX {w:World} {A:Around} {X Y:Extra} (HX:SoundX w A X) (HY:SoundX w A Y):SoundX w A (orX X Y):=fun o Sd T e W c s x d y hW R h=>by
  unfold orX at h
  cases hx:X o c x with
  | some r=>rw [hx] at h;exact HX o Sd T e W c s x _ y hW R (hx.trans h)
  | none=>rw [hx] at h;exact HY o Sd T e W c s x d y hW R h
noncomputable def numX:Extra:=orX numA (orX numB numC)
noncomputable def EvOkP (w:World) (A:Around) (m:Sem Value) (s:Shared) (W:List Addr) (d:D) (P:Prop):Prop :=
  ∀ (Q:Value→Shared→Prop) (E:Value→Shared→Prop),(∀ v s',Keeps s s'→rep s'.heap W d v→P→Q v s')→wpAny (model pw w) A m Q E s
section
variable {w:World} {A:Around} {s:Shared} {W:List Addr} {e:Env}
theorem okP_BinOp {l r:PySem.Expr} {op:Operator} {pos:Pos} {x y d:D} {P:Prop} (hx:EvOkP w A (eval l e) s W x P) (hy:∀ s',Keeps s s'→EvOk w A (eval r e) s' W y) (hd:P→bopD op x y=some d):EvOkP w A (eval (.BinOp l op r pos) e) s W d P:=fun Q E q =>
  wpAny_BinOp (hx _ E fun u s1 k1 r1 hp=>hy s1 k1 _ E fun v s2 k2 r2=>ok_bop (hd hp) (rep_keep (Keeps.heap k2) _ _ r1) r2 Q E fun v' s3 k3 r3=>q v' s3 (Keeps.tr k1 (Keeps.tr k2 k3)) r3 hp)
theorem EvOkP.ev {m:Sem Value} {d:D} {P:Prop} (h:EvOkP w A m s W d P):EvOk w A m s W d:=fun Q E q=>h Q E fun v s' k r _=>q v s' k r
theorem ok_ConstI {i:Int} {k:Nat} {p:Pos}:EvOk w A (eval (.Constant (.int i) k p) e) s W (.int i):=ok_Const rfl
theorem num_now {o:Ops} {c:Cx} {l:PySem.Expr} {x:Int × Res} (now:EvOk w A (eval l e) s W (.num x.1 x.2)):EvOkP w A (eval l e) s W (.int x.1) (Fits x.1 x.2):=fun Q E q=>now Q E fun v s' k r=>by
  simp only [rep] at r
  exact q v s' k (by simp only [rep];exact r.1) r.2
theorem sound_numA:SoundX w A numA:=fun o Sd T e W c s x d Y hW R h=>by
  unfold numA at h
  refine onBin_e x h fun A op M p3 h=>onBin_e A h fun B op2 t p2 h=>onBin_e B h fun l op3 N p1 h=>onInt_e M h fun m mk mp h=>onInt_e N h fun n nk np h=>if_e h fun ho h=>onD_e asNum_g h fun r hl h=>onD_e asNat_g h fun k ht h=>if_e h fun hc h=>?_
  simp only [Bool.and_eq_true,beq_iff_eq] at hc ho
  obtain ⟨rfl,rfl⟩:=hc
  refine el03 ho fun h1 h2 h3=>?_
  rw [isMod_e h1,isAdd_e h2,isFD_e h3]
  cases h
  refine (okP_BinOp (op:=.Mod) (okP_BinOp (op:=.Add) (d:=.int (r.1.fdiv 288+(k:Int))) (okP_BinOp (op:=.FloorDiv) (d:=.int (r.1.fdiv 288)) (num_now (o:=o) (c:=c) (Sd e W c s _ _ Y hW R hl)) (fun s' k=>ok_ConstI (i:=288)) fun _=>rfl) (fun s' k=>Sd e W c s' _ _ (fun b o g=>Keeps.heap k b o (Y b o g)) (hW.keep (Keeps.heap k)) (R.keep (Keeps.heap k)) ht) fun _=>rfl) (fun s' k=>ok_ConstI (i:=8)) fun f=>?_).ev
  show some (D.int ((r.1.fdiv 288+(k:Int)).fmod 8))=_
  rw [f.q k];rfl
theorem sound_numB:SoundX w A numB:=fun o Sd T e W c s x d Y hW R h=>by
  unfold numB at h
  refine onBin_e x h fun A op M p3 h=>onBin_e A h fun l op2 N p1 h=>onInt_e M h fun m mk mp h=>onInt_e N h fun n nk np h=>if_e h fun ho h=>onD_e asNum_g h fun r hl h=>?_
  rw [Bool.and_eq_true] at ho
  rw [isMod_e ho.1,isFD_e ho.2]
  refine (okP_BinOp (op:=.Mod) (okP_BinOp (op:=.FloorDiv) (d:=.int (r.1.fdiv n)) (num_now (o:=o) (c:=c) (Sd e W c s _ _ Y hW R hl)) (fun s' k=>ok_ConstI (i:=n)) fun _=>?_) (fun s' k=>ok_ConstI (i:=m)) fun f=>?_).ev
  all_goals
    by_cases hc:((n==3)&&(m==3))=true
    · rw [Bool.and_eq_true,beq_iff_eq,beq_iff_eq] at hc
      obtain ⟨rfl,rfl⟩:=hc
      cases h
      first|rfl|exact congrArg (fun x=>some (D.int x)) f.b
    · rw [if_neg hc] at h
      by_cases hc:((n==9)&&(m==16))=true
      · rw [Bool.and_eq_true,beq_iff_eq,beq_iff_eq] at hc
        obtain ⟨rfl,rfl⟩:=hc
        cases h
        first|rfl|exact congrArg (fun x=>some (D.int x)) f.s
      · rw [if_neg hc] at h
        refine if_e h fun hc h=>?_
        rw [Bool.and_eq_true,beq_iff_eq,beq_iff_eq] at hc
        obtain ⟨rfl,rfl⟩:=hc
        cases h
        first|rfl|exact congrArg (fun x=>some (D.int x)) f.m
theorem sound_numC:SoundX w A numC:=fun o Sd T e W c s x d Y hW R h=>by
  unfold numC at h
  refine onBin_e x h fun l op M p3 h=>if_e h fun ho h=>onD_e asNum_g h fun r hl h=>onInt_e M h fun m mk mp h=>if_e h fun hc h=>?_
  have hc:=eq_of_beq hc
  subst hc
  rw [isMod_e ho]
  cases h
  exact (okP_BinOp (op:=.Mod) (num_now (o:=o) (c:=c) (Sd e W c s _ _ Y hW R hl)) (fun s' k=>ok_ConstI (i:=3)) fun f=>congrArg (fun x=>some (D.int x)) f.a).ev
theorem sound_numX:SoundX w A numX:=sound_orX sound_numA (sound_orX sound_numB sound_numC)
end
end
section
theorem plainAttrs_re:PlainAttrs "re.Pattern":=⟨⟨"object.__getattribute__",by rw [typeLookup_type,builtinLookup_eq_fast];kernel_rfl,by decide +kernel⟩,by rw [typeLookup_type,builtinLookup_eq_fast];kernel_rfl⟩
theorem slot_search:Slot "re.Pattern" "search" "re.Pattern.search" :=
  .of (owner:="re.Pattern") (n:="search") (by rw [typeLookup_type,builtinLookup_eq_fast];kernel_rfl) (by decide +kernel) (by decide +kernel) (by decide +kernel)
    (by first|exact .inl (by decide +kernel)|exact .inr (by decide +kernel)) (by rw [isSubtype_type];kernel_rfl)
theorem type_search:typeOf (.builtin "re.Pattern.search")=pure (.type "method_descriptor"):=by show builtinType _=_;rw [builtinType_eq_fast];kernel_rfl
theorem entry_search:entryFor table "re.Pattern.search"=some Builtin.«re.Pattern.search»:=entryFor_of_tree (by kernel_rfl)
theorem args_search (a b:Value):argsOk "re.Pattern.search" ⟨[a,b],[]⟩:=by
  unfold argsOk;kernel_rfl
end
end Mine
end
section
open PySem PySem.W PyProof.Rows
open Builtin Builtin.Re
namespace Mine
section
noncomputable def searchFails (code:Array Nat) (x:Str):Bool:=match (Sre.M.runFor reTurnSteps (Sre.forSearch code x.cps 0 0 x.cps.size false)).outcome with
  | some .failed=>true
  | _=>false
theorem rules_free {M:Model} {A:Around} {E:Value→Shared→Prop} {s:Shared} {α:Type} {Q:PUnit→Shared→Prop} (l:List α) (p:α→Bool) (f:α→String) (h:Q ⟨⟩ s) :
    wpAny M A (forIn l PUnit.unit fun i _=>(if p i=true then (do rule (f i);pure (ForInStep.yield PUnit.unit)) else pure (ForInStep.yield PUnit.unit):Sem (ForInStep PUnit))) Q E s:=by
  refine wpAny_forIn_list _ (fun _ _ s'=>s'=s) Q (fun x rest b s' e=>?_) (fun b s' e=>by subst e;exact h) l _ rfl
  subst e
  split
  · exact wpAny_bind (wpAny_rule (wpAny_pure rfl))
  · exact wpAny_pure rfl
theorem drive_one {M:Model} {A:Around} {E:Value→Shared→Prop} {s:Shared} {m:Sre.M} {Q:Sre.M→Shared→Prop} (h:(m.runFor reTurnSteps).outcome.isSome=true) (q:Q (m.runFor reTurnSteps) s) (n:Nat):wpAny M A (reDrive (n+1) m) Q E s:=by
  unfold reDrive
  rw [if_pos h]
  exact wpAny_pure q
theorem toEnd_failed {M:Model} {A:Around} {E:Value→Shared→Prop} {s:Shared} {m:Sre.M} {Q:Option Sre.M→Shared→Prop} (h:(m.runFor reTurnSteps).outcome=some .failed) (q:Q none s):wpAny M A (reRunToEnd m) Q E s:=by
  unfold reRunToEnd
  rw [show (2 ^ 64:Nat)=(2 ^ 64 - 1)+1 from rfl]
  refine wpAny_bind (drive_one (by rw [h];rfl) ?_ _)
  refine wpAny_bind (rules_free _ (fun i=>(m.runFor reTurnSteps).seen.has i) (fun i=>Sre.names.getD i "") ?_)
  rw [h]
  exact wpAny_pure q
theorem search_none {M:Model} {A:Around} {E:Value→Shared→Prop} {s:Shared} {a c:Addr} {o oc:Obj} {vs:Array Value} {is:Array Value} {n:Nat} {x:Str} {t t0 t1:Tok} {Q:Fin→Shared→Prop} (ho:s.heap.get? a=some o) (hd:o.data=.fields vs)
    (h6:vs.getD 6 .none=.int 0 t0) (h2:vs.getD 2 .none=.int 0 t1) (h5:vs.getD 5 .none=.ref c) (hc:s.heap.get? c=some oc) (hcd:oc.data=.seq is n) (hf:searchFails ((is.map reRawOf).map (·.toNat)) x=true) (hx:(x.cps.size:Int)<2 ^ 63 - 1) (q:Q (.done (.ret .none)) s) :
    wpAny M A («re.Pattern.search» ⟨[.ref a,.str x t],[]⟩) Q E s:=by
  unfold «re.Pattern.search»
  refine wpAny_bind ?_
  unfold reTarget
  have hn:reNamed "re.Pattern.search" "search" ["string","pos","endpos"] 1 [.str x t] []=pure [some (.str x t),none,none]:=by kernel_rfl!
  show wpAny _ _ (reNamed "re.Pattern.search" "search" ["string","pos","endpos"] 1 [.str x t] [] >>= _) _ _ _
  rw [hn]
  refine wpAny_bind (wpAny_pure ?_)
  refine wpAny_bind (wpAny_pure ?_)
  refine wpAny_bind (wpAny_pure ?_)
  refine wpAny_bind ?_
  show wpAny _ _ (fieldsOf (.ref a)) _ _ _
  unfold fieldsOf
  refine wpAny_bind (wpAny_load ho ?_)
  rw [hd]
  refine wpAny_pure ?_
  refine wpAny_bind ?_
  show wpAny _ _ (reTextOf (.str x t)) _ _ _
  unfold reTextOf asStr?
  refine wpAny_bind (wpAny_pure (wpAny_pure ?_))
  rw [h6,h2,h5]
  repeat wp_step
  rw [hcd]
  refine wpAny_pure (wpAny_pure (wpAny_pure ?_))
  have hl:(fun i:Int=>min i.toNat x.cps.size) (2 ^ 63 - 1)=x.cps.size:=by
    show min (2 ^ 63 - 1:Int).toNat x.cps.size=x.cps.size
    lia
  have hp:(fun i:Int=>min i.toNat x.cps.size) 0=0:=by
    show min (0:Int).toNat x.cps.size=0
    simp
  rw [hl,hp]
  have hf':((Sre.forSearch ((is.map reRawOf).map (·.toNat)) x.cps 0 0 x.cps.size false).runFor reTurnSteps).outcome=some .failed:=by
    unfold searchFails at hf
    split at hf
    · rename_i h;exact h
    · cases hf
  refine wpAny_bind (toEnd_failed hf' ?_)
  exact wpAny_pure q
end
end Mine
end
section
open PySem PySem.W PyProof.Rows
namespace Mine
section
noncomputable def letS (p:Nat):Str:=⟨#[97+p]⟩
noncomputable def retOf (x:Option (FlD × Sg)):Option D:=match x with
  | some (.ret d,_)=>some d
  | _=>none
theorem retOf_some {x:Option (FlD × Sg)} {d:D} (h:retOf x=some d):∃ g,x=some (.ret d,g):=by
  unfold retOf at h
  split at h
  · cases h;exact ⟨_,rfl⟩
  · exact nope h
noncomputable def spC (p d:Nat):Nat:=if d<2 then (if d==0 then 97 else 65)+p else 120068+52*d+p
noncomputable def b3R (p d:Nat):D:=if d<2 then .none else .str (letS p)
theorem b3_table:(List.range 24).map (fun i=>b3D (spC (i % 3) (i / 3)))=(List.range 24).map fun i=>b3R (i % 3) (i / 3):=by kernel_rfl
noncomputable def b3run (w:World) (p d:Nat):Option (FlD × Sg):=exs2 (ops2 w ct0 (dictX w (spC p d) (b3R p d)) 10) "" (fdAt w.params 91).scope.names 10 ⟨[(("code":Str),.str ⟨#[spC p d]⟩)],none⟩ (fdB (stm 6))
theorem b3_run (w:World):(List.range 24).map (fun i=>retOf (b3run w (i % 3) (i / 3)))=(List.range 24).map fun i=>some (.str (letS (i % 3))):=by kernel_rfl
theorem at24 {α:Type} {f g:Nat→α} (h:(List.range 24).map f=(List.range 24).map g) {i:Nat} (hi:i<24):f i=g i:=by
  have:=congrArg (fun l=>l[i]?) h
  simpa [hi] using this
theorem b3_ok (w:World) (n:Nat) {p d:Nat} (hp:p<3) (hd:d<8):Contract w (n+1) (.ref 91) [.str ⟨#[spC p d]⟩] (.str (letS p)):=by
  have h1:=at24 b3_table (i:=p+3*d) (by lia)
  have h2:=at24 (b3_run w) (i:=p+3*d) (by lia)
  rw [show (p+3*d) % 3=p by lia,show (p+3*d) / 3=d by lia] at h1 h2
  obtain ⟨g,h⟩:=retOf_some h2
  exact def_ok3 (ct:=ct0) (X:=dictX w (spC p d) (b3R p d)) (m:=10) (k:=10) "" (defr_map3 w) (fun f ds d h=>by cases h) (fun A _=>sound_dictX h1) rfl h
end
section
noncomputable def reCode (P:Params) (d:Addr):Array Nat:=#[]
noncomputable def reItems (P:Params) (c:Addr):Array Value:=match objAt P c with
  | ⟨_,_,.seq is _,_⟩=>is
  | _=>#[]
noncomputable def codeOfRe (P:Params) (b:Bool):Array Nat:=((reItems P (if b then 105 else 110)).map Builtin.Re.reRawOf).map (·.toNat)
noncomputable def fineT (P:Params) (b:Bool) (x:Str):Bool:=Nat.ble x.cps.size 1000&&searchFails (codeOfRe P b) x
noncomputable def typeD:D→Option D
  | .list _=>some (.raw (.type "list"))
  | .str _=>some (.raw (.type "str"))
  | _=>none
noncomputable def miscX (w:World) (o:Ops) (c:Cx) (x:PySem.Expr):Option (Option D) :=
  (onName x fun n p=>if n==("__debug__":Str) then some (some (.bool true)) else none).or <|
  (on1 x fun n p x pos=>onD (o.ev c (.Name n p)) asTy fun T=>if T=="type"&&!isStar x then (o.ev c x).bind fun d=>some (typeD d) else none).or <|
  onM x fun n p m apos arg pos=>if (m==("search":Str))&&((apos.endLine==pos.line)&&!isStar arg) then onD (o.ev c (.Name n p)) asRef fun d=>onD (o.ev c arg) asStr fun x=>if d==106||d==111 then some (if fineT w.params (d==106) x then some .none else none) else none else none
theorem re_at (w:World) (b:Bool):∃ o oc vs n t0 t1,(tr_f w.params).get (if b then 106 else 111)=some o∧PySem.W.alive o=some o∧o.cls=.type "re.Pattern"∧o.dict=none∧o.data=.fields vs∧vs.getD 6 .none=.int 0 t0∧vs.getD 2 .none=.int 0 t1∧vs.getD 5 .none=.ref (if b then 105 else 110) ∧
    (tr_f w.params).get (if b then 105 else 110)=some oc∧PySem.W.alive oc=some oc∧oc.data=.seq (reItems w.params (if b then 105 else 110)) n:=by
  cases b
  · exact ⟨objAt w.params 111,objAt w.params 110,(match objAt w.params 111 with|⟨_,_,.fields vs,_⟩=>vs|_=>#[]),0,0,0,by kernel_rfl!,by kernel_rfl!,by kernel_rfl!,by kernel_rfl!,by kernel_rfl!,by kernel_rfl!,by kernel_rfl!,by kernel_rfl!,by kernel_rfl!,by kernel_rfl!,by kernel_rfl!⟩
  · exact ⟨objAt w.params 106,objAt w.params 105,(match objAt w.params 106 with|⟨_,_,.fields vs,_⟩=>vs|_=>#[]),0,0,0,by kernel_rfl!,by kernel_rfl!,by kernel_rfl!,by kernel_rfl!,by kernel_rfl!,by kernel_rfl!,by kernel_rfl!,by kernel_rfl!,by kernel_rfl!,by kernel_rfl!,by kernel_rfl!⟩
section
variable {w:World} {A:Around} {s:Shared} {W:List Addr} {e:Env}
theorem ok_search {n:Str} {p apos pos:Pos} {arg:PySem.Expr} {x:Str} {b:Bool} (Y:YP w s.heap) (hn:EvOk w A (eval (.Name n p) e) s W (.raw (.ref (if b then 106 else 111)))) (hx:∀ s',Keeps s s'→EvOk w A (eval arg e) s' W (.str x)) (hline:(apos.endLine==pos.line)=true) (hst:isStar arg=false)
    (hf:fineT w.params b x=true):EvOk w A (eval (.Call (.Attribute (.Name n p) "search" apos) [arg] [] pos) e) s W .none:=fun Q E q=>by
  obtain ⟨o,oc,vs,k,t0,t1,h1,h2,h3,h4,h5,h6,h7,h8,h9,h10,h11⟩:=re_at w b
  have lt1:(if b then 106 else 111)<302:=by cases b<;>decide
  have lt2:(if b then 105 else 110)<302:=by cases b<;>decide
  have ht:backTo pos (starEach [arg] e)=[(false,eval arg e)]:=by rw [starEach_plain hst];rfl
  refine wpAny_Call_method1_late rfl hline ht (hn _ E fun v s1 k1 r1=>?_)
  simp only [rep] at r1
  subst r1
  have Y1:YP w s1.heap:=fun b o g=>Keeps.heap k1 b o (Y b o g)
  have g1:=base_get Y1 lt1 h1 h2
  have hE:EachOk w A e W s1 [arg] [.str x]:=.cons hst (fun s' k=>hx s' (Keeps.tr k1 k)) .nil
  refine ⟨"re.Pattern","re.Pattern.search",plainAttrs_re,slot_search,type_search,⟨o,g1,h3⟩,(fun a ea=>by cases ea;exact ⟨o,g1,h4⟩),?_⟩
  have:=ok_evalArgs (pos:=pos) (f:=.builtin "re.Pattern.search") hE
  rw [ht] at this
  refine PySem.Calls.callWith_builtin rfl (this _ E fun us s2 k2 r2=>?_)
  refine el12 (reps_one r2) fun v q1q r=>?_;subst q1q
  simp only [rep] at r
  obtain ⟨t,rfl⟩:=r
  have Y2:YP w s2.heap:=fun b o g=>Keeps.heap k2 b o (Y1 b o g)
  have g2:=base_get Y2 lt1 h1 h2
  have g3:=base_get Y2 lt2 h9 h10
  simp only [fineT,Bool.and_eq_true] at hf
  have hsz:=Nat.le_of_ble_eq_true hf.1
  refine wpAny_call (codeAny_call_builtin slot_search.plain entry_search (slot_search.check _ _ _ _ _ _ _ _ ⟨o,g2,h3⟩ (args_search _ _) ?_))
  refine search_none g2 h5 h6 h7 h8 g3 h11 (by cases b<;>exact hf.2) (by omega) ?_
  exact q .none s2 (Keeps.tr k1 k2) rfl
theorem ok_type {n:Str} {p pos:Pos} {x:PySem.Expr} {d d':D} (Y:YP w s.heap) (hn:EvOk w A (eval (.Name n p) e) s W (.raw (.type "type"))) (hst:isStar x=false) (hx:∀ s',Keeps s s'→EvOk w A (eval x e) s' W d) (hd:typeD d=some d'):EvOk w A (eval (.Call (.Name n p) [x] [] pos) e) s W d':=fun Q E q=>by
  refine call_type_raw hn ⟨_,_,rfl⟩ hst hx Q E fun s1 vs k1 r1=>?_
  refine el12 (reps_one r1) fun v q1q r=>?_;subst q1q
  cases d<;>simp only [typeD,reduceCtorEq,Option.some.injEq] at hd<;>subst hd<;>simp only [rep] at r
  · obtain ⟨t,rfl⟩:=r
    exact call_type_of (typeIs_str _ _ _) (by decide) (q _ s1 k1 rfl)
  · refine el24 r fun a xs q2q _ il _=>?_;subst q2q
    exact call_type_of il.typeIs (by decide) (q _ s1 k1 rfl)
theorem sound_miscX:SoundX w A (miscX w):=fun o Sd T e W c s x d Y hW R h=>by
  have later:∀ x d,o.ev c x=some d→∀ s',Keeps s s'→EvOk w A (eval x e) s' W d:=fun x d hx s' k=>Sd e W c s' x d (fun b o g=>Keeps.heap k b o (Y b o g)) (hW.keep (Keeps.heap k)) (R.keep (Keeps.heap k)) hx
  have now:∀ x d,o.ev c x=some d→EvOk w A (eval x e) s W d:=fun x d hx=>later x d hx s (Keeps.rfl' s)
  unfold miscX at h
  refine or_e h (fun h=>onName_e x h fun n p h=>if_e h fun hn hz=>?_) fun h=>or_e h (fun h=>on1_e x h fun n p x pos h=>onD_e asTy_g h fun T hT h=>if_e h fun hc h=>bnd_e h fun d0 hd0 hz=>?_) fun h=>onM_e x h fun n p m apos arg pos h=>if_e h fun hc h=>onD_e asRef_g h fun d0 hn h=>onD_e asStr_g h fun x ha h=>if_e h fun hd hz=>?_
  · have hn:=eq_of_beq hn
    subst hn
    cases hz
    intro Q E q
    have:eval (.Name "__debug__" p) e=(do standAt p;(do rule "name.__debug__";pure (.bool true):Sem Value)):=rfl
    rw [this]
    exact wpAny_bind (wpAny_standAt (wpAny_bind (wpAny_rule (wpAny_pure (q _ s (Keeps.rfl' s) rfl)))))
  · simp only [Bool.and_eq_true,Bool.not_eq_true',beq_iff_eq] at hc
    obtain ⟨rfl,hst⟩:=hc
    injection hz with hz
    exact ok_type Y (now _ _ hT) hst (later _ _ hd0) hz
  · simp only [Bool.and_eq_true,beq_iff_eq,Bool.not_eq_true'] at hc
    refine el03 hc fun q0q hline hst=>?_;subst q0q
    injection hz with hz
    refine if_e hz fun hf hy=>?_
    cases hy
    have hl:(apos.endLine==pos.line)=true:=by rw [hline];exact BEq.rfl
    rw [Bool.or_eq_true,beq_iff_eq,beq_iff_eq] at hd
    rcases hd with rfl|rfl
    · exact ok_search (b:=true) Y (now _ _ hn) (later _ _ ha) hl hst hf
    · exact ok_search (b:=false) Y (now _ _ hn) (later _ _ ha) hl hst hf
end
end
section
theorem defr_conv (w:World):DefR0 w 133 (fdAt w.params 133) ["self","value","name"] (fdB (mth 62 1)) where
  lt:=by decide
  get:=⟨_,_,_,(by kernel_rfl!:(tr_f w.params).get 133=some ⟨.type "function",(objAt w.params 133).dict,.func (fdAt w.params 133),(objAt w.params 133).slots⟩)⟩
  body:=by kernel_rfl!
  clo:=by kernel_rfl!
  glob:=by kernel_rfl!
  blt:=by kernel_rfl!
  kind:=by kernel_rfl!
  co:=by kernel_rfl!
  gen:=by kernel_rfl!
  nofree:=by kernel_rfl!
  code:=code_of (tokOf w.params 133) (by kernel_rfl!) (Nat.le_of_ble_eq_true (by kernel_rfl!)) (by kernel_rfl!) (by kernel_rfl!) (by kernel_rfl!)
  pk:=fun n hn=>by
    simp only [List.mem_cons,List.not_mem_nil,or_false] at hn
    rcases hn with rfl|rfl|rfl<;>first|exact .inl (by kernel_rfl!)|exact .inr (by kernel_rfl!)
  nd:=by decide
theorem bind_conv (w:World) (v0 v1 v2:Value):bindArgs (fdAt w.params 133) ⟨[v0,v1],[("name",v2)]⟩=pure ((["self","value","name"]:List Str).zip [v0,v1,v2]):=by kernel_rfl!
theorem s1_If {o:Ops} {on:Str} {nm:List (Str × NameKind)} {rec:Sg→List Stmt→Option (FlD × Sg)} {g:Sg} {t:PySem.Expr} {b e:List Stmt} {p:Pos} {c:Bool} (h:tr2 o nm on g t=some c):st1 o on nm rec g (.If t b e p)=rec g (if c then b else e):=by
  show (tr2 o nm on g t).bind _=_
  rw [h];rfl
theorem tr2_of {o:Ops} {on:Str} {nm:List (Str × NameKind)} {g:Sg} {t:PySem.Expr} {c:Bool} (h:o.tr ⟨nm,g.σ⟩ t=some c):tr2 o nm on g t=some c:=by
  unfold tr2
  rw [h]
noncomputable def ifT:Stmt→PySem.Expr | .If t _ _ _=>t|_=>.Constant .none 0 default
noncomputable def ifB:Stmt→List Stmt | .If _ b _ _=>b|_=>[]
noncomputable def ifE:Stmt→List Stmt | .If _ _ e _=>e|_=>[]
noncomputable def ifP:Stmt→Pos | .If _ _ _ p=>p|_=>default
noncomputable def cS (i:Nat):Stmt:=(fdB (mth 62 1)).getD i (.Pass default)
noncomputable def cB (i:Nat):Stmt:=(ifB (cS 0)).getD i (.Pass default)
theorem c_parts:fdB (mth 62 1)=[cS 0,cS 1]:=by kernel_rfl!
theorem c_if:cS 0=.If (ifT (cS 0)) (ifB (cS 0)) [] (ifP (cS 0)):=by kernel_rfl!
theorem c_body:ifB (cS 0)=[cB 0,cB 1,cB 2]:=by kernel_rfl!
theorem c_if2:cB 1=.If (ifT (cB 1)) (ifB (cB 1)) [] (ifP (cB 1)):=by kernel_rfl!
noncomputable def cnm (w:World):List (Str × NameKind):=(fdAt w.params 133).scope.names
theorem conv_search (w:World) (vs:Value) (x:Str) (b:Bool) (h:fineT w.params b x=true):(ops2 w ct0 (miscX w) 9).tr ⟨cnm w,("regex",.raw (.ref (if b then 106 else 111)))::[("self",.raw vs),("value",.str x),("name",.bool b)]⟩ (ifT (cB 1))=some false:=by
  have e:∀ b:Bool,(ops2 w ct0 (miscX w) 9).tr ⟨cnm w,("regex",.raw (.ref (if b then 106 else 111)))::[("self",.raw vs),("value",.str x),("name",.bool b)]⟩ (ifT (cB 1)) =
    (match (if fineT w.params b x then some D.none else none:Option D) with|some d=>truthD d|none=>none):=fun b=>by cases b<;>kernel_rfl!
  rw [e,h];rfl
theorem conv_run (w:World) (vs:Value) (x:Str) (b:Bool) (h:fineT w.params b x=true):∃ g,exs2 (ops2 w ct0 (miscX w) 9) "" (cnm w) 9 ⟨[("self",.raw vs),("value",.str x),("name",.bool b)],none⟩ (fdB (mth 62 1))=some (.ret (.str x),g):=by
  refine ⟨⟨("regex",.raw (.ref (if b then 106 else 111)))::[("self",.raw vs),("value",.str x),("name",.bool b)],none⟩,?_⟩
  rw [c_parts]
  refine x2_ret (k:=8) (d:=.str x) (by kernel_rfl!) (by kernel_rfl!) ?_
  rw [c_if,s1_If (c:=true) (by kernel_rfl!)]
  show exs2 _ _ _ 8 _ (ifB (cS 0))=_
  rw [c_body]
  rw [x2_next (k:=7) (g':=⟨("regex",.raw (.ref (if b then 106 else 111)))::[("self",.raw vs),("value",.str x),("name",.bool b)],none⟩) (by kernel_rfl!) (by kernel_rfl!) (by cases b<;>kernel_rfl!)]
  have h3:st1 (ops2 w ct0 (miscX w) 9) "" (cnm w) (exs2 (ops2 w ct0 (miscX w) 9) "" (cnm w) 6) ⟨("regex",.raw (.ref (if b then 106 else 111)))::[("self",.raw vs),("value",.str x),("name",.bool b)],none⟩ (cB 1)=some (.next,⟨("regex",.raw (.ref (if b then 106 else 111)))::[("self",.raw vs),("value",.str x),("name",.bool b)],none⟩):=by
    rw [c_if2,s1_If (tr2_of (conv_search w vs x b h))]
    rfl
  rw [x2_next (k:=6) (by kernel_rfl!) (by kernel_rfl!) h3]
  exact x2_ret (k:=5) (by kernel_rfl!) (by kernel_rfl!) (by kernel_rfl!)
theorem conv_ok (w:World) (n:Nat) (A:Around) (R:Room A (n+1)) {s:Shared} {W:List Addr} {vs:Value} {x:Str} {t:Tok} {b:Bool} (Y:YP w s.heap) (hW:WOk s.heap W) (h:fineT w.params b x=true) :
    EvOk w A (call (.ref 133) [vs,.str x t] [("name",.bool b)]) s W (.str x):=by
  obtain ⟨g,hg⟩:=conv_run w vs x b h
  refine ok_defA (args:=⟨[vs,.str x t],[("name",.bool b)]⟩) (ds:=[.raw vs,.str x,.bool b]) (vs:=[vs,.str x t,.bool b]) (defr_conv w) (by have:=R.d;lia) rfl (.of_eq (bind_conv w _ _ _)) Y hW (by simp only [reps,rep];exact ⟨_,_,rfl,rfl,_,_,rfl,⟨t,rfl⟩,_,_,rfl,rfl,rfl⟩) fun s' L M W' W0 S h0 Q E q=>?_
  have R':Room (A.deeper (callEnvC (fdAt w.params 133) L 133)) n:=R.deeper
  have hu:(A.deeper (callEnvC (fdAt w.params 133) L 133)).units+20<cLine:=by have:=R'.u;lia
  have hC:SoundCT w (A.deeper (callEnvC (fdAt w.params 133) L 133)) ct0:=fun f ds d hc=>by cases hc
  have sd:=sound_ops2 (w:=w) (ct:=ct0) R'.h hu hC (sound_miscX (w:=w)) 9
  exact exs2_ok (e:=callEnvC (fdAt w.params 133) L 133) (on:="") R'.h sd.1 sd.2 (use_ops2 R'.h hu hC sound_miscX 9) 9 M W' W0 0 ⟨_,none⟩ _ _ _ s' ⟨S,h0,fun p l h=>(by cases h),fun x h=>(by cases h)⟩ hg Q E fun f s2 k2 _ r=>q f s2 k2 r
end
section
noncomputable abbrev hdrNs (P:Params):Str→Option Value:=nsFind (esAt P 231)
theorem hdr_cls {w:World} {h:Heap} (Y:YP w h):ClsAt h 232 231 (hdrNs w.params) where
  obj:=by
    have e:∃ nm q bs sn sub col dd k0 k1 k2 k3 k5,(tr_f w.params).get 232=some (excClassObj nm q 232 231 bs [.type "object"] true sn sub false col dd k0 k1 k2 k3 k5 "object.__new__") :=
      ⟨"Headers","Headers",[.type "object"],[],[],none,none,none,none,(objAt w.params 232).slots.getD 2 none,(objAt w.params 232).slots.getD 3 none,some (.bool true),by kernel_rfl!⟩
    obtain ⟨nm,q,bs,sn,sub,col,dd,k0,k1,k2,k3,k5,e⟩:=e
    exact ⟨nm,q,bs,sn,sub,col,dd,k0,k1,k2,k3,k5,base_get Y (by decide) e rfl⟩
  ns:=nsAt (a:=231) Y (by decide) (objAt w.params 231) (by kernel_rfl!) (epAt w.params 231) (by kernel_rfl!) (by kernel_rfl!)
theorem ns_ga (P:Params):hdrNs P "__getattribute__"=none:=by kernel_rfl!
theorem ns_gt (P:Params):hdrNs P "__getattr__"=none:=by kernel_rfl!
theorem ns_sa (P:Params):hdrNs P "__setattr__"=none:=by kernel_rfl!
theorem ns_hd (P:Params):hdrNs P "_headers"=none:=by kernel_rfl!
theorem ns_init (P:Params):hdrNs P "__init__"=some (.ref 126):=by kernel_rfl!
theorem ns_conv (P:Params):hdrNs P "_convert_string_type"=some (.ref 133):=by kernel_rfl!
theorem ns_all (P:Params):hdrNs P "get_all"=some (.ref 171):=by kernel_rfl!
theorem lk_hd:typeLookup (.type "object") "_headers"=pure none:=by rw [typeLookup_type,builtinLookup_eq_fast];kernel_rfl
theorem lk_conv:typeLookup (.type "object") "_convert_string_type"=pure none:=by rw [typeLookup_type,builtinLookup_eq_fast];kernel_rfl
theorem lk_all:typeLookup (.type "object") "get_all"=pure none:=by rw [typeLookup_type,builtinLookup_eq_fast];kernel_rfl
noncomputable def hdA (b:Addr):Str→Option Value:=fun n=>if n=("_headers":Str) then some (.ref b) else none
theorem HdrAt.isInst {h:Heap} {W:List Addr} {a dx b:Addr} (x:HdrAt h W a dx b):h.Inst a 232 (hdA b):=by
  obtain ⟨⟨o,g,c,nc,hd,ne⟩,ns,_⟩:=x
  exact ⟨o,g,c,nc,.inr ⟨dx,hd,ne,ns⟩⟩
section
variable {w:World} {A:Around} {s:Shared} {W:List Addr} {e:Env}
theorem ok_attr {n:Str} {p pos:Pos} {l:List D} (Y:YP w s.heap) (hn:EvOk w A (eval (.Name n p) e) s W (.obj l)):EvOk w A (eval (.Attribute (.Name n p) "_headers" pos) e) s W (.list l):=fun Q E q=>by
  rw [arm_eval_Attribute]
  refine wpAny_bind (hn _ E fun v s1 k1 r1=>?_)
  simp only [rep] at r1
  refine el44 r1 fun a dx b xs q4q hx il r=>?_;subst q4q
  have Y1:YP w s1.heap:=fun b o g=>Keeps.heap k1 b o (Y b o g)
  have C:=hdr_cls Y1
  obtain ⟨nm,qn,bs,sn,sub,col,dd,k0,k1',k2,k3,k5,hC⟩:=C.obj
  refine wpAny_bind (wpAny_standAt (wpAny_bind (wpAny_holding ?_)))
  have key:wpAny (model pw w) A (getAttr (.ref a) "_headers" true) (fun r s'=>wpAny (model pw w) A (letTemporaryGo (.Name n p) (.ref a) r >>= fun _=>pure r) Q E s') E s1:=by
    obtain ⟨hh,gg,d,t,os⟩:=s1
    refine load_attr hC C.ns (ns_ga _) (ns_hd _) lk_hd hx.isInst (v:=.ref b) (by simp [hdA]) rfl ?_
    refine wpAny_bind (PySem.wpAny_letTemporaryGo (wpAny_pure (q _ _ (Keeps.tr k1 (keepsTok ⟨hh,gg,d,t,os⟩ _)) ?_)))
    simp only [rep]
    exact ⟨b,xs,rfl,hx.nb,il,r⟩
  exact key
theorem callPos_same {o:PySem.Expr} {apos pos:Pos} (h:(apos.endLine==pos.line)=true):methodCallPos true o e apos pos=pure pos:=by unfold methodCallPos;simp [h]
theorem form_args {xs:List PySem.Expr} {ds:List D} {kws:List Keyword} {pos:Pos} (h:EachOk w A e W s xs ds) (hk:(backToKw pos (keywordEach kws e)).all (fun x=>x.1.isSome)=true) (few:xs.length+kws.length+1<30) :
    methodCallForm (xs.length+kws.length) (backTo pos (starEach xs e)) (backToKw pos (keywordEach kws e))=true:=by
  unfold methodCallForm
  rw [any_all _ (plainArgs h),hk]
  simp only [Bool.true_and,decide_eq_true_eq]
  split<;>omega
theorem ok_objCall {n m:Str} {p apos pos:Pos} {args:List PySem.Expr} {kws:List Keyword} {l:List D} {f:Addr} {ds:List D} {d:D} {kv:List Value} (Y:YP w s.heap) (hn:EvOk w A (eval (.Name n p) e) s W (.obj l)) (hm:hdrNs w.params m=some (.ref f)) (hlk:typeLookup (.type "object") m=pure none)
    (hne:m≠"_headers") (hf:∃ dd fd sl,(tr_f w.params).get f=some ⟨.type "function",dd,.func fd,sl⟩) (hlt:f<302) (hline:(apos.endLine==pos.line)=true) (hargs:EachOk w A e W s args ds) (few:args.length+kws.length+1<30) (hk:(backToKw pos (keywordEach kws e)).all (fun x=>x.1.isSome)=true)
    (hev:∀ (s':Shared) (Q:Args→Shared→Prop) (E:Value→Shared→Prop),Keeps s s'→(∀ vs s'',Keeps s' s''→reps s''.heap W ds vs→Q ⟨vs,((backToKw pos (keywordEach kws e)).filterMap (·.1)).zip kv⟩ s'')→wpAny (model pw w) A (evalArgs (.ref f) true (backTo pos (starEach args e)) (backToKw pos (keywordEach kws e))) Q E s')
    (hc:∀ s' a vs,Keeps s s'→rep s'.heap W (.obj l) (.ref a)→reps s'.heap W ds vs→EvOk w A (call (.ref f) (.ref a::vs) (((backToKw pos (keywordEach kws e)).filterMap (·.1)).zip kv)) s' W d) :
    EvOk w A (eval (.Call (.Attribute (.Name n p) m apos) args kws pos) e) s W d:=fun Q E q=>by
  refine el31 hf fun dd fd sl hget=>?_
  rw [arm_eval_Call]
  refine wpAny_bind (hn _ E fun v s1 k1 r1=>?_)
  have r0:=r1
  simp only [rep] at r1
  refine el44 r1 fun a dx b xs q4q hx il r=>?_;subst q4q
  have Y1:YP w s1.heap:=fun b o g=>Keeps.heap k1 b o (Y b o g)
  have C:=hdr_cls Y1
  obtain ⟨nm,qn,bs,sn,sub,col,dd,k0,k1',k2,k3,k5,hC⟩:=C.obj
  have hfo:=base_get Y1 hlt hget rfl
  refine wpAny_bind (wpAny_standAt ?_)
  unfold methodCall
  rw [form_args hargs hk few]
  refine wpAny_bind (wpAny_holding ?_)
  show wpAny _ _ (getMethod (.ref a) m _) _ _ _
  have key:∀ {pl:Sem Bool} {Q':Value × List Value→Shared→Prop},Q' (.ref f,[.ref a]) s1→wpAny (model pw w) A (getMethod (.ref a) m pl) Q' E s1:=fun {pl Q'} hq=>by
    obtain ⟨hh,gg,d,t,os⟩:=s1
    exact method_of hC C.ns (ns_ga _) (ns_gt _) hm hfo rfl hlk hx.isInst (by simp [hdA,hne]) hq
  refine key ?_
  refine wpAny_bind (wpAny_of_eq (callPos_same hline) ?_)
  refine callWith_function_kw (o:=⟨.type "function",_,.func fd,sl⟩) (fd:=fd) (hev s1 _ E k1 fun vs s2 k2 r2=>⟨⟨Keeps.heap k2 _ _ hfo,rfl⟩,?_⟩)
  exact hc s2 a vs (Keeps.tr k1 k2) (rep_keep (Keeps.heap k2) _ _ r0) r2 Q E fun v s3 k3 r3=>q v s3 (Keeps.tr k1 (Keeps.tr k2 k3)) r3
end
end
section
noncomputable def hdrX (w:World) (o:Ops) (c:Cx) (x:PySem.Expr):Option (Option D) :=
  (onAttr x fun v m pos=>onName v fun n p=>if m==("_headers":Str) then onD (o.ev c (.Name n p)) asObj fun l=>some (some (.list l)) else none).or <|
  onMK x fun n p m apos arg kn b kk kp kq pos=>if (m==("_convert_string_type":Str))&&((kn==("name":Str))&&((apos.endLine==pos.line)&&!isStar arg)) then onD (o.ev c (.Name n p)) asObj fun l=>onD (o.ev c arg) asStr fun x=>some (if fineT w.params b x then some (.str x) else none) else none
theorem fn_conv (w:World):∃ dd fd sl,(tr_f w.params).get 133=some ⟨.type "function",dd,.func fd,sl⟩:=⟨_,_,_,(by kernel_rfl!:(tr_f w.params).get 133=some ⟨.type "function",(objAt w.params 133).dict,.func (fdAt w.params 133),(objAt w.params 133).slots⟩)⟩
theorem fn_all (w:World):∃ dd fd sl,(tr_f w.params).get 171=some ⟨.type "function",dd,.func fd,sl⟩:=⟨_,_,_,(by kernel_rfl!:(tr_f w.params).get 171=some ⟨.type "function",(objAt w.params 171).dict,.func (fdAt w.params 171),(objAt w.params 171).slots⟩)⟩
theorem ne_of_len {x y:Str} (h:x.length≠y.length):x≠y:=fun e=>h (e▸rfl)
theorem sound_hdrX {w:World} {A:Around} {n:Nat} (R0:Room A (n+1)):SoundX w A (hdrX w):=fun o Sd T e W c s x d Y hW R h=>by
  have later:∀ x d,o.ev c x=some d→∀ s',Keeps s s'→EvOk w A (eval x e) s' W d:=fun x d hx s' k=>Sd e W c s' x d (fun b o g=>Keeps.heap k b o (Y b o g)) (hW.keep (Keeps.heap k)) (R.keep (Keeps.heap k)) hx
  have now:∀ x d,o.ev c x=some d→EvOk w A (eval x e) s W d:=fun x d hx=>later x d hx s (Keeps.rfl' s)
  unfold hdrX at h
  refine or_e h (fun h=>onAttr_e x h fun v m pos h=>onName_e v h fun n p h=>if_e h fun hm h=>onD_e asObj_g h fun l hl hz=>?ga) fun h=>onMK_e x h fun nn p m apos arg kn b kk kp kq pos h=>if_e h fun hc h=>onD_e asObj_g h fun l hn h=>onD_e asStr_g h fun x ha hz=>?gb
  case ga =>
    have hm:=eq_of_beq hm
    subst hm
    cases hz
    exact ok_attr Y (now _ _ hl)
  case gb =>
    simp only [Bool.and_eq_true,beq_iff_eq,Bool.not_eq_true'] at hc
    obtain ⟨rfl,rfl,hline,hst⟩:=hc
    injection hz with hz
    refine if_e hz fun hf hy=>?_
    cases hy
    have hE:EachOk w A e W s [arg] [.str x]:=.cons hst (fun s' k=>later _ _ ha s' k) .nil
    refine ok_objCall (kv:=[.bool b]) Y (now _ _ hn) (ns_conv _) lk_conv (ne_of_len (by decide)) (fn_conv w) (by decide) (by rw [hline];exact BEq.rfl) hE (by simp) rfl (fun s' Q E k q=>?_) (fun s' a vs k r0 r1=>?_)
    · have ht:backTo pos (starEach [arg] e)=[(false,eval arg e)]:=by rw [starEach_plain hst];rfl
      have hsp:=ok_spliced (pos:=pos) s' (hE.later k)
      rw [ht] at hsp ⊢
      refine evalArgs_kw rfl (hsp _ E fun vs s1 k1 r1=>?_)
      refine wpAny_evalAll_cons ?_
      refine wpAny_bind ?_
      rw [arm_eval_Constant]
      refine wpAny_pure (wpAny_bind (wpAny_standAt (wpAny_pure ?_)))
      exact wpAny_evalAll_nil (q vs s1 k1 r1)
    · obtain ⟨v,rfl,r⟩:=reps_one r1
      simp only [rep] at r
      obtain ⟨t,rfl⟩:=r
      exact conv_ok w n A R0 (fun b o g=>Keeps.heap k b o (Y b o g)) (hW.keep (Keeps.heap k)) hf
theorem turnsD_of {f:D→Option (List D)} {F:D→List D}:∀ {ds:List D},(∀ d∈ds,f d=some (F d))→turnsD f ds=some (ds.flatMap F)
  | [],_=>rfl
  | d::ds,h=>by
    simp only [turnsD,h d List.mem_cons_self,turnsD_of (fun x hx=>h x (List.mem_cons_of_mem _ hx)),List.flatMap_cons]
theorem turnD_one {o:Ops} {nm:List (Str × NameKind)} {elt:PySem.Expr} {ifs:List PySem.Expr} {n:Str} {σ:List (Str × D)} {d:D} {b:Bool} {r:D} (h:testsD o ⟨nm,(n,d)::σ⟩ ifs=some b) (hr:b=true→o.ev ⟨nm,(n,d)::σ⟩ elt=some r) :
    turnD o nm (bodyD o nm elt []) ifs n σ d=some (if b then [r] else []):=by
  unfold turnD
  rw [h]
  cases b with
  | true =>
    show (o.ev ⟨nm,(n,d)::σ⟩ elt).map (fun d=>[d])=_
    rw [hr rfl];rfl
  | false=>rfl
theorem loopD_of {o:Ops} {nm:List (Str × NameKind)} {inn:List (Str × D)→Option (List D)} {g:Comprehension} {σ:List (Str × D)} {ds:List D} {tg:PySem.Expr→Bool} {n:Str} {F:D→List D} (h1:tgtN g.target=some n) (h2:(mineN nm n&&((σ.lookup n).isNone&&tg g.target))=true)
    (h:∀ d∈ds,turnD o nm inn g.ifs n σ d=some (F d)):loopD o nm inn g σ ds tg=some (ds.flatMap F):=by
  unfold loopD
  rw [h1]
  dsimp only
  rw [if_pos h2]
  exact turnsD_of h
theorem compL_of {o:Ops} {c:Cx} {elt:PySem.Expr} {g:Comprehension} {gs:List Comprehension} {scope:Scope} {pos:Pos} {ds:List D} {tg:PySem.Expr→Bool} {l:List D} (h1:(scopeB c.nm scope&&(g::gs).all (fun g=>g.is_async==0&&notSet g.iter))=true) (h2:srcD o c g.iter=some (ds,tg))
    (h3:loopD o scope.names (bodyD o scope.names elt gs) g (c.σ.filter fun x=>scope.names.lookup x.1==some .free) ds tg=some l) (h4:l.length≤100000):compL o c (.ListComp elt (g::gs) scope pos)=some l:=by
  refine (if_pos h1).trans ?_
  rw [h2]
  show (loopD o scope.names _ g _ ds tg).bind _=_
  rw [h3]
  exact if_pos (Nat.ble_eq_true_of_le h4)
noncomputable def lcE:PySem.Expr→PySem.Expr | .ListComp e _ _ _=>e|x=>x
noncomputable def lcG:PySem.Expr→List Comprehension | .ListComp _ g _ _=>g|_=>[]
noncomputable def lcS:PySem.Expr→Scope | .ListComp _ _ s _=>s|_=>default
noncomputable def lcP:PySem.Expr→Pos | .ListComp _ _ _ p=>p|_=>default
noncomputable def lcG0 (x:PySem.Expr):Comprehension:=(lcG x).getD 0 ⟨.Constant .none 0 default,.Constant .none 0 default,[],0⟩
noncomputable def retX:Stmt→PySem.Expr | .Return (some x) _=>x|_=>.Constant .none 0 default
noncomputable def asgX:Stmt→PySem.Expr | .Assign _ x _=>x|_=>.Constant .none 0 default
end
section
theorem defr_all (w:World):DefR w 171 (fdAt w.params 171) ["self","name"] (fdB (mth 62 7)) :=
  defr_mk (tokOf w.params 171) (by decide) (by kernel_rfl!) (by kernel_rfl!) (by kernel_rfl!) (by kernel_rfl!) (by kernel_rfl!) (len2 fun v0 v1=>by kernel_rfl!) (by decide)
theorem ev2_of {o:Ops} {on:Str} {nm:List (Str × NameKind)} {g:Sg} {t:PySem.Expr} {c:D} (h:o.ev ⟨nm,g.σ⟩ t=some c):ev2 o nm on g t=some c:=by
  unfold ev2
  rw [h]
noncomputable def rowD (r:Str × Str):D:=.tup [.str r.1,.str r.2]
noncomputable def aS (i:Nat):Stmt:=(fdB (mth 62 7)).getD i (.Pass default)
theorem a_parts:fdB (mth 62 7)=[aS 0,aS 1]:=by kernel_rfl!
theorem a_asg:aS 0=.Assign [.Name "name" (match aS 0 with | .Assign [.Name _ p] _ _=>p|_=>default)] (asgX (aS 0)) (posS (aS 0)):=by kernel_rfl!
theorem a_ret:aS 1=.Return (some (retX (aS 1))) (match aS 1 with | .Return _ p=>p|_=>default):=by kernel_rfl!
theorem a_lc:retX (aS 1)=.ListComp (lcE (retX (aS 1))) [lcG0 (retX (aS 1))] (lcS (retX (aS 1))) (lcP (retX (aS 1))):=by kernel_rfl!
noncomputable def anm (w:World):List (Str × NameKind):=(fdAt w.params 171).scope.names
noncomputable def getRow (y:Str):D→List D
  | .tup [.str k,.str v]=>if lowS k==y then [.str v] else []
  | _=>[]
noncomputable def getF (R:List (Str × Str)) (y:Str):List D:=(R.map rowD).flatMap (getRow y)
theorem getRow_len (y:Str) (r:Str × Str):(getRow y (rowD r)).length≤1:=by
  show (if lowS r.1==y then [D.str r.2] else []).length≤1
  split<;>simp
theorem getF_len (y:Str):∀ (R:List (Str × Str)),(getF R y).length≤R.length
  | []=>by simp [getF]
  | r::R=>by
    have h1:=getF_len y R
    have h2:=getRow_len y r
    unfold getF at h1 ⊢
    rw [List.map_cons,List.flatMap_cons,List.length_append,List.length_cons]
    lia
noncomputable abbrev aO (w:World) (m:Nat):Ops:=ops2 w ct0 (hdrX w) m
noncomputable def upS (i:Nat):Str:=⟨#[65+i]⟩
noncomputable def lwS (i:Nat):Str:=⟨#[97+i]⟩
noncomputable abbrev aσ (R:List (Str × Str)) (y:Str):List (Str × D):=[(("self":Str),D.obj (R.map rowD)),(("name":Str),D.str y)]
theorem get_ev0 (w:World) (R:List (Str × Str)):∀ i,i<3→(aO w 10).ev ⟨anm w,aσ R (upS i)⟩ (asgX (aS 0))=if fineT w.params true (lwS i) then some (.str (lwS i)) else none
  | 0,_=>by kernel_rfl!
  | 1,_=>by kernel_rfl!
  | 2,_=>by kernel_rfl!
  | _+3,h=>by lia
noncomputable abbrev aF (R:List (Str × Str)) (x y:Str):List (Str × D):=((("name":Str),D.str x)::aσ R y).filter fun x=>(lcS (retX (aS 1))).names.lookup x.1==some .free
noncomputable def ifs0 (x:PySem.Expr):PySem.Expr:=(lcG0 x).ifs.getD 0 (.Constant .none 0 default)
noncomputable def cmpL:PySem.Expr→PySem.Expr | .Compare l _ _ _=>l|x=>x
noncomputable def cmpR:PySem.Expr→PySem.Expr | .Compare _ _ (r::_) _=>r|x=>x
noncomputable def cmpP:PySem.Expr→Pos | .Compare _ _ _ p=>p|_=>default
theorem tr_Cmp {o:Ops} {c:Cx} {l r:PySem.Expr} {op:CmpOp} {p:Pos} {x y:D} (hm:behindInMarks op r=false) (hx:o.ev c l=some x) (hy:o.ev c r=some y):stepTr o c (.Compare l [op] [r] p)=cmpB op x y:=by
  show (if behindInMarks op r then none else (o.ev c l).bind fun x=>(o.ev c r).bind fun y=>cmpB op x y)=_
  rw [hm,hx,hy];rfl
theorem tests_one {o:Ops} {c:Cx} {t:PySem.Expr} {b:Bool} (h:o.tr c t=some b):testsD o c [t]=some b:=by
  unfold testsD
  rw [h]
  cases b<;>rfl
theorem get_turn (w:World) (R:List (Str × Str)) (x y k v:Str) (hk:Nat.ble (lowS k).length sizeLine=true):turnD (aO w 9) (lcS (retX (aS 1))).names (bodyD (aO w 9) (lcS (retX (aS 1))).names (lcE (retX (aS 1))) []) (lcG0 (retX (aS 1))).ifs "kv" (aF R x y) (rowD (k,v))=some (getRow x (rowD (k,v))):=by
  refine turnD_one (b:=lowS k==x) (r:=.str v) ?_ (fun _=>by kernel_rfl!)
  have e1:(aO w 8).ev ⟨(lcS (retX (aS 1))).names,(("kv":Str),rowD (k,v))::aF R x y⟩ (cmpL (ifs0 (retX (aS 1))))=if Nat.ble (lowS k).length sizeLine then some (D.str (lowS k)) else none:=by kernel_rfl!
  rw [hk,if_pos rfl] at e1
  have e2:(aO w 8).ev ⟨(lcS (retX (aS 1))).names,(("kv":Str),rowD (k,v))::aF R x y⟩ (cmpR (ifs0 (retX (aS 1))))=some (D.str x):=by kernel_rfl!
  have e3:=tr_Cmp (p:=cmpP (ifs0 (retX (aS 1)))) (op:=.Eq) rfl e1 e2
  have e4:ifs0 (retX (aS 1))=.Compare (cmpL (ifs0 (retX (aS 1)))) [.Eq] [cmpR (ifs0 (retX (aS 1)))] (cmpP (ifs0 (retX (aS 1)))):=by kernel_rfl!
  rw [← e4] at e3
  have e5:(lcG0 (retX (aS 1))).ifs=[ifs0 (retX (aS 1))]:=by kernel_rfl!
  rw [e5]
  exact tests_one e3
theorem get_run (w:World) (R:List (Str × Str)) (i:Nat) (hi:i<3) (hf:fineT w.params true (lwS i)=true) (hR:R.length≤1000) (hk:∀ r∈R,Nat.ble (lowS r.1).length sizeLine=true) :
    ∃ g,exs2 (aO w 10) "" (anm w) 10 ⟨aσ R (upS i),none⟩ (fdB (mth 62 7))=some (.ret (.list (getF R (lwS i))),g):=by
  refine ⟨⟨(("name":Str),.str (lwS i))::aσ R (upS i),none⟩,?_⟩
  rw [a_parts]
  have h1:st1 (aO w 10) "" (anm w) (exs2 (aO w 10) "" (anm w) 9) ⟨aσ R (upS i),none⟩ (aS 0)=some (.next,⟨(("name":Str),.str (lwS i))::aσ R (upS i),none⟩):=by
    have e0:=get_ev0 w R i hi
    rw [hf,if_pos rfl] at e0
    have e1:st1 (aO w 10) "" (anm w) (exs2 (aO w 10) "" (anm w) 9) ⟨aσ R (upS i),none⟩ (aS 0)=(ev2 (aO w 10) (anm w) "" ⟨aσ R (upS i),none⟩ (asgX (aS 0))).map fun d=>(.next,⟨(("name":Str),d)::aσ R (upS i),none⟩):=by kernel_rfl!
    rw [e1,ev2_of (g:=⟨aσ R (upS i),none⟩) e0];rfl
  rw [x2_next (k:=9) (by kernel_rfl!) (by kernel_rfl!) h1]
  refine x2_ret (k:=8) (by kernel_rfl!) (by kernel_rfl!) ?_
  have hsrc:srcD (aO w 9) ⟨anm w,(("name":Str),.str (lwS i))::aσ R (upS i)⟩ (lcG0 (retX (aS 1))).iter=some (R.map rowD,tgAny):=by kernel_rfl!
  have hl:=compL_of (pos:=lcP (retX (aS 1))) (elt:=lcE (retX (aS 1))) (gs:=[]) (scope:=lcS (retX (aS 1))) (o:=aO w 9) (c:=⟨anm w,(("name":Str),.str (lwS i))::aσ R (upS i)⟩) (g:=lcG0 (retX (aS 1))) (by kernel_rfl!) hsrc
    (loopD_of (n:="kv") (F:=getRow (lwS i)) (by kernel_rfl!) (by kernel_rfl!) fun d hd=>by
      refine el12 (List.mem_map.1 hd) fun r hr q2q=>?_;subst q2q
      exact get_turn w R (lwS i) (upS i) r.1 r.2 (hk r hr)) (by have:=getF_len (lwS i) R;unfold getF at this;lia)
  rw [← a_lc] at hl
  have e1:st1 (aO w 10) "" (anm w) (exs2 (aO w 10) "" (anm w) 8) ⟨(("name":Str),.str (lwS i))::aσ R (upS i),none⟩ (aS 1)=(ev2 (aO w 10) (anm w) "" ⟨(("name":Str),.str (lwS i))::aσ R (upS i),none⟩ (retX (aS 1))).map fun d=>(.ret d,⟨(("name":Str),.str (lwS i))::aσ R (upS i),none⟩):=by kernel_rfl!
  rw [e1]
  have e2:(aO w 10).ev ⟨anm w,(("name":Str),.str (lwS i))::aσ R (upS i)⟩ (retX (aS 1))=(compL (aO w 9) ⟨anm w,(("name":Str),.str (lwS i))::aσ R (upS i)⟩ (retX (aS 1))).map .list:=by kernel_rfl!
  rw [hl] at e2
  rw [ev2_of (g:=⟨(("name":Str),.str (lwS i))::aσ R (upS i),none⟩) e2]
  rfl
theorem all_ok (w:World) (n:Nat) (R:List (Str × Str)) (i:Nat) (hi:i<3) (hf:fineT w.params true (lwS i)=true) (hR:R.length≤1000) (hk:∀ r∈R,Nat.ble (lowS r.1).length sizeLine=true):Contract w (n+2) (.ref 171) [.obj (R.map rowD),.str (upS i)] (.list (getF R (lwS i))):=by
  obtain ⟨g,h⟩:=get_run w R i hi hf hR hk
  exact def_ok3 (ct:=ct0) (X:=hdrX w) (m:=10) (k:=10) "" (defr_all w) (fun f ds d h=>by cases h) (fun A R=>sound_hdrX R) rfl h
end
section
theorem defr_init (w:World):DefR0 w 126 (fdAt w.params 126) ["self","headers"] (fdB (mth 62 0)) where
  lt:=by decide
  get:=⟨_,_,_,(by kernel_rfl!:(tr_f w.params).get 126=some ⟨.type "function",(objAt w.params 126).dict,.func (fdAt w.params 126),(objAt w.params 126).slots⟩)⟩
  body:=by kernel_rfl!
  clo:=by kernel_rfl!
  glob:=by kernel_rfl!
  blt:=by kernel_rfl!
  kind:=by kernel_rfl!
  co:=by kernel_rfl!
  gen:=by kernel_rfl!
  nofree:=by kernel_rfl!
  code:=code_of (tokOf w.params 126) (by kernel_rfl!) (Nat.le_of_ble_eq_true (by kernel_rfl!)) (by kernel_rfl!) (by kernel_rfl!) (by kernel_rfl!)
  pk:=fun n hn=>by
    simp only [List.mem_cons,List.not_mem_nil,or_false] at hn
    rcases hn with rfl|rfl<;>first|exact .inl (by kernel_rfl!)|exact .inr (by kernel_rfl!)
  nd:=by decide
noncomputable def bindK (fd:FuncData) (v0 v1:Value):{ k:Option (Array Value)→Sem (List (Str × Value)) // bindArgs fd ⟨[v0,v1],[]⟩=seqItems? fd.defaults >>= k }:=⟨_,rfl⟩
theorem bind_init (w:World) {s:Shared} (Y:YP w s.heap) (v0 v1:Value):BindsTo s (fdAt w.params 126) ⟨[v0,v1],[]⟩ ((["self","headers"]:List Str).zip [v0,v1]) :=
  .of_defaults (T:=119) (o:=⟨.type "tuple",none,.seq #[.none] 0,#[]⟩) (items:=#[.none]) (n:=0) (by kernel_rfl!) (base_get Y (by decide) (by kernel_rfl!) rfl) rfl (bindK (fdAt w.params 126) v0 v1).2 (by kernel_rfl!)
noncomputable def iX (w:World):Extra:=orX (miscX w) (hdrX w)
noncomputable abbrev iO (w:World) (m:Nat):Ops:=ops2 w ct0 (iX w) m
noncomputable def inm (w:World):List (Str × NameKind):=(fdAt w.params 126).scope.names
noncomputable def iS (i:Nat):Stmt:=(fdB (mth 62 0)).getD i (.Pass default)
noncomputable def iF:Stmt:=(ifB (iS 3)).getD 0 (.Pass default)
noncomputable def iE (i:Nat):Stmt:=(forB iF).getD i (.Pass default)
noncomputable def exX:Stmt→PySem.Expr | .Expr x _=>x|_=>.Constant .none 0 default
noncomputable def exP:Stmt→Pos | .Expr _ p=>p|_=>default
noncomputable def callF:PySem.Expr→PySem.Expr | .Call f _ _ _=>f|x=>x
noncomputable def callA:PySem.Expr→PySem.Expr | .Call _ (a::_) _ _=>a|x=>x
noncomputable def callP:PySem.Expr→Pos | .Call _ _ _ p=>p|_=>default
noncomputable def attO:PySem.Expr→PySem.Expr | .Attribute o _ _=>o|x=>x
noncomputable def attP:PySem.Expr→Pos | .Attribute _ _ p=>p|_=>default
noncomputable def nmP:PySem.Expr→Pos | .Name _ p=>p|_=>default
noncomputable def kwX (x:PySem.Expr):Keyword:=match x with | .Call _ _ (k::_) _=>k|_=>⟨none,.Constant .none 0 default,default⟩
noncomputable def coK:PySem.Expr→Nat | .Constant _ k _=>k|_=>0
noncomputable def coP:PySem.Expr→Pos | .Constant _ _ p=>p|_=>default
theorem i_parts:fdB (mth 62 0)=[iS 0,iS 1,iS 2,iS 3]:=by kernel_rfl!
theorem i_if:iS 3=.If (ifT (iS 3)) (ifB (iS 3)) [] (ifP (iS 3)):=by kernel_rfl!
theorem i_ifb:ifB (iS 3)=[iF]:=by kernel_rfl!
theorem i_for:iF=.For (forT iF) (forI iF) (forB iF) [] (posS iF):=by kernel_rfl!
theorem i_body:forB iF=[iE 0,iE 1]:=by kernel_rfl!
noncomputable def iCall (i:Nat) (b:Bool) (nm:Str):PySem.Expr:=.Call (.Attribute (.Name "self" (nmP (attO (callF (exX (iE i)))))) "_convert_string_type" (attP (callF (exX (iE i))))) [.Name nm (nmP (callA (exX (iE i))))] [⟨some "name",.Constant (.bool b) (coK (kwX (exX (iE i))).value) (coP (kwX (exX (iE i))).value),(kwX (exX (iE i))).pos⟩] (callP (exX (iE i)))
theorem i_e0:iE 0=.Expr (iCall 0 true "k") (exP (iE 0)):=by kernel_rfl!
theorem i_e1:iE 1=.Expr (iCall 1 false "v") (exP (iE 1)):=by kernel_rfl!
theorem ev_conv {w:World} {m:Nat} {c:Cx} {p apos pos kp kq:Pos} {arg:PySem.Expr} {kk:Nat} {b:Bool} {l:List D} {x:Str} (hl:(apos.endLine==pos.line)=true) (hs:isStar arg=false) (h1:(iO w m).ev c (.Name "self" p)=some (.obj l)) (h2:(iO w m).ev c arg=some (.str x)) (hf:fineT w.params b x=true) :
    (iO w (m+1)).ev c (.Call (.Attribute (.Name "self" p) "_convert_string_type" apos) [arg] [⟨some "name",.Constant (.bool b) kk kp,kq⟩] pos)=some (.str x):=by
  have e:(iO w (m+1)).ev c (.Call (.Attribute (.Name "self" p) "_convert_string_type" apos) [arg] [⟨some "name",.Constant (.bool b) kk kp,kq⟩] pos)=(match (if (("_convert_string_type":Str)==("_convert_string_type":Str))&&((("name":Str)==("name":Str))&&((apos.endLine==pos.line)&&!isStar arg)) then (onD ((iO w m).ev c (.Name "self" p)) asObj fun l=>onD ((iO w m).ev c arg) asStr fun x=>some (if fineT w.params b x then some (.str x) else none)) else none:Option (Option D)) with|some r=>r|none=>stepAll w ct0 (iO w m) c (.Call (.Attribute (.Name "self" p) "_convert_string_type" apos) [arg] [⟨some "name",.Constant (.bool b) kk kp,kq⟩] pos)):=rfl
  rw [e,hl,hs,h1,h2]
  show (if fineT w.params b x=true then some (D.str x) else none)=_
  rw [hf]
  rfl
theorem i_turn (w:World) (k v:Str) (l:List D) (σ:List (Str × D)) (hσ:σ.lookup ("self":Str)=some (.obj l)) (hk:fineT w.params true k=true) (hv:fineT w.params false v=true) :
    exs2 (iO w 8) "" (inm w) 8 ⟨(("v":Str),.str v)::(("k":Str),.str k)::σ,none⟩ (forB iF)=some (.next,⟨(("v":Str),.str v)::(("k":Str),.str k)::σ,none⟩):=by
  have hself:∀ p,(iO w 7).ev ⟨inm w,(("v":Str),.str v)::(("k":Str),.str k)::σ⟩ (.Name "self" p)=some (.obj l):=fun p=>by
    have e:(iO w 7).ev ⟨inm w,(("v":Str),.str v)::(("k":Str),.str k)::σ⟩ (.Name "self" p)=σ.lookup ("self":Str):=by kernel_rfl!
    rw [e,hσ]
  have h0:=ev_conv (w:=w) (m:=7) (c:=⟨inm w,(("v":Str),.str v)::(("k":Str),.str k)::σ⟩) (p:=nmP (attO (callF (exX (iE 0))))) (apos:=attP (callF (exX (iE 0)))) (pos:=callP (exX (iE 0))) (kk:=coK (kwX (exX (iE 0))).value) (kp:=coP (kwX (exX (iE 0))).value) (kq:=(kwX (exX (iE 0))).pos) (arg:=.Name "k" (nmP (callA (exX (iE 0))))) (b:=true) (x:=k) (by kernel_rfl!) rfl (hself _) (by kernel_rfl!) hk
  have h1:=ev_conv (w:=w) (m:=7) (c:=⟨inm w,(("v":Str),.str v)::(("k":Str),.str k)::σ⟩) (p:=nmP (attO (callF (exX (iE 1))))) (apos:=attP (callF (exX (iE 1)))) (pos:=callP (exX (iE 1))) (kk:=coK (kwX (exX (iE 1))).value) (kp:=coP (kwX (exX (iE 1))).value) (kq:=(kwX (exX (iE 1))).pos) (arg:=.Name "v" (nmP (callA (exX (iE 1))))) (b:=false) (x:=v) (by kernel_rfl!) rfl (hself _) (by kernel_rfl!) hv
  rw [i_body]
  have s0:st1 (iO w 8) "" (inm w) (exs2 (iO w 8) "" (inm w) 7) ⟨(("v":Str),.str v)::(("k":Str),.str k)::σ,none⟩ (iE 0)=some (.next,⟨(("v":Str),.str v)::(("k":Str),.str k)::σ,none⟩):=by
    rw [i_e0]
    show (ev2 (iO w 8) (inm w) "" ⟨_,none⟩ (iCall 0 true "k")).map _=_
    rw [ev2_of (g:=⟨(("v":Str),.str v)::(("k":Str),.str k)::σ,none⟩) (show (iO w 8).ev _ (iCall 0 true "k")=_ from h0)]
    rfl
  have s1:st1 (iO w 8) "" (inm w) (exs2 (iO w 8) "" (inm w) 6) ⟨(("v":Str),.str v)::(("k":Str),.str k)::σ,none⟩ (iE 1)=some (.next,⟨(("v":Str),.str v)::(("k":Str),.str k)::σ,none⟩):=by
    rw [i_e1]
    show (ev2 (iO w 8) (inm w) "" ⟨_,none⟩ (iCall 1 false "v")).map _=_
    rw [ev2_of (g:=⟨(("v":Str),.str v)::(("k":Str),.str k)::σ,none⟩) (show (iO w 8).ev _ (iCall 1 false "v")=_ from h1)]
    rfl
  rw [x2_next (k:=7) (by kernel_rfl!) (by kernel_rfl!) s0,x2_next (k:=6) (by kernel_rfl!) (by kernel_rfl!) s1]
  rfl
noncomputable def fineR (w:World) (r:Str × Str):Prop:=fineT w.params true r.1=true∧fineT w.params false r.2=true
theorem i_loop (w:World) (l:List D):∀ (R:List (Str × Str)) (σ:List (Str × D)),σ.lookup ("self":Str)=some (.obj l)→(∀ r∈R,fineR w r) →
    ∃ σ',forD (fun g=>(tgNames (forT iF)).all (mayStoreN (inm w) "" g)) (forT iF) (fun g=>exs2 (iO w 8) "" (inm w) 8 g (forB iF)) (R.map rowD) ⟨σ,none⟩=some (.next,⟨σ',none⟩)
  | [],σ,_,_=>⟨σ,rfl⟩
  | (k,v)::R,σ,hσ,hR=>by
    obtain ⟨hk,hv⟩:=hR _ List.mem_cons_self
    obtain ⟨σ',e⟩:=i_loop w l R (ded ((("v":Str),.str v)::(("k":Str),.str k)::σ)) (by rw [ded_lookup,List.lookup_cons,List.lookup_cons];exact hσ) (fun r hr=>hR r (List.mem_cons_of_mem _ hr))
    refine ⟨σ',?_⟩
    rw [List.map_cons,forD_cons (g':=⟨(("v":Str),.str v)::(("k":Str),.str k)::σ,none⟩) (σ1:=(("v":Str),.str v)::(("k":Str),.str k)::σ) (by kernel_rfl!) (by kernel_rfl!) (i_turn w k v l σ hσ hk hv)]
    exact e
theorem i_last (w:World) (R:List (Str × Str)) (l:List D) (hR:∀ r∈R,fineR w r):∃ g,st1 (iO w 8) "" (inm w) (exs2 (iO w 8) "" (inm w) 9) ⟨[(("self":Str),.obj l),(("headers":Str),.list (R.map rowD))],none⟩ (iS 3)=some (.next,g):=by
  obtain ⟨σ',e⟩:=i_loop w l R [(("self":Str),.obj l),(("headers":Str),.list (R.map rowD))] rfl hR
  refine ⟨⟨σ',none⟩,?_⟩
  rw [i_if,s1_If (c:=true) (by kernel_rfl!)]
  show exs2 _ _ _ 9 _ (ifB (iS 3))=_
  rw [i_ifb]
  have hsrc:srcD (iO w 8) ⟨inm w,[(("self":Str),.obj l),(("headers":Str),.list (R.map rowD))]⟩ (forI iF)=some (R.map rowD,tgAny):=by kernel_rfl!
  have ht:tgAny (forT iF)=true:=by kernel_rfl!
  have e3:=s1_For (on:="") (rec:=exs2 (iO w 8) "" (inm w) 8) (g:=⟨[(("self":Str),.obj l),(("headers":Str),.list (R.map rowD))],none⟩) (t:=forT iF) (body:=forB iF) (p:=posS iF) hsrc ht
  rw [← i_for] at e3
  rw [x2_next (k:=8) (by kernel_rfl!) (by kernel_rfl!) (e3.trans e)]
  rfl
theorem init_cells (w:World) (L:Addr):(callEnvC (fdAt w.params 126) L 126).cells=[]:=by kernel_rfl!
theorem i_asg:iS 2=.Assign [.Attribute (.Name "self" (match iS 2 with | .Assign [.Attribute (.Name _ p) _ _] _ _=>p|_=>default)) "_headers" (match iS 2 with | .Assign [.Attribute _ _ p] _ _=>p|_=>default)] (.Name "headers" (match iS 2 with | .Assign _ (.Name _ p) _=>p|_=>default)) (posS (iS 2)):=by kernel_rfl!
theorem init_ok {w:World} {n:Nat} {A:Around} (R0:Room A (n+2)) {s:Shared} {W:List Addr} {x dx:Addr} {v:Value} {R:List (Str × Str)} {Q:Value→Shared→Prop} {E:Value→Shared→Prop} (Y:YP w s.heap) (hW:WOk s.heap W) (hI:s.heap.Inst x 232 fun _=>none) (hd:∀ o,s.heap.get? x=some o→o.dict=some dx)
    (hx:x∉W) (hdx:dx∉W) (hx3:302≤x) (hdx3:302≤dx) (hv:rep s.heap ([x,dx]++W) (.list (R.map rowD)) v) (hR:∀ r∈R,fineR w r)
    (q:∀ s',KeepsW [x,dx] s s'→rep s'.heap W (.obj (R.map rowD)) (.ref x)→Q .none s'):wpAny (model pw w) A (call (.ref 126) [.ref x,v]) Q E s:=by
  refine el14 (id hI) fun ox hgx hcx hncx hdd=>?_
  have hodx:=hd ox hgx
  have hdd':dx≠x∧s.heap.Ns1 dx fun _=>none:=by
    rcases hdd with ⟨h,_⟩|⟨d,h,ne,ns⟩
    · rw [h] at hodx;cases hodx
    · rw [h] at hodx;cases hodx;exact ⟨ne,ns⟩
  refine el32 (id hdd'.2) fun odx _ _ hgdx _=>?_
  have hWx:WOk s.heap ([x,dx]++W):=fun a ha=>by
    rcases List.mem_append.1 ha with ha|ha
    · rcases List.mem_cons.1 ha with e|ha
      · exact ⟨ox,e▸hgx⟩
      · rcases List.mem_cons.1 ha with e|ha
        · exact ⟨odx,e▸hgdx⟩
        · cases ha
    · exact hW a ha
  refine enter_def (args:=⟨[.ref x,v],[]⟩) (ds:=[.raw (.ref x),.list (R.map rowD)]) (vs:=[.ref x,v]) (W:=[x,dx]++W) (defr_init w) (by have:=R0.d;lia) rfl (bind_init w Y _ _) Y hWx (by simp only [reps];exact ⟨_,_,rfl,by simp only [rep],_,_,rfl,hv,rfl⟩) fun s1 L M k1 fr S E'=>?_
  have R1:Room (A.deeper (callEnvC (fdAt w.params 126) L 126)) (n+1):=R0.deeper
  have hu:(A.deeper (callEnvC (fdAt w.params 126) L 126)).units+20<cLine:=by have:=R1.u;lia
  have hC:SoundCT w (A.deeper (callEnvC (fdAt w.params 126) L 126)) ct0:=fun f ds d hc=>by cases hc
  have HX:SoundX w (A.deeper (callEnvC (fdAt w.params 126) L 126)) (iX w):=sound_orX sound_miscX (sound_hdrX R1)
  have sd:=sound_ops2 (w:=w) (ct:=ct0) (X:=iX w) R1.h hu hC HX 8
  have us:=use_ops2 (w:=w) (ct:=ct0) (X:=iX w) R1.h hu hC HX 8
  have recO:=fun k=>exs2_ok (e:=callEnvC (fdAt w.params 126) L 126) (on:="") R1.h sd.1 sd.2 us k
  have S0:St2 w (callEnvC (fdAt w.params 126) L 126) s1 M (M++([x,dx]++W)) W "" 0 ⟨[(("self":Str),.raw (.ref x)),(("headers":Str),.list (R.map rowD))],none⟩ :=
    ⟨S,fun b hb=>List.mem_append_right _ (List.mem_append_right _ hb),fun p l h=>(by cases h),fun x h=>(by cases h)⟩
  rw [i_parts]
  have e0:st1 (iO w 8) "" (inm w) (exs2 (iO w 8) "" (inm w) 9) ⟨[(("self":Str),.raw (.ref x)),(("headers":Str),.list (R.map rowD))],none⟩ (iS 0)=some (.next,⟨(("headers":Str),.list (R.map rowD))::[(("self":Str),.raw (.ref x)),(("headers":Str),.list (R.map rowD))],none⟩):=by kernel_rfl!
  have e1:st1 (iO w 8) "" (inm w) (exs2 (iO w 8) "" (inm w) 9) ⟨(("headers":Str),.list (R.map rowD))::[(("self":Str),.raw (.ref x)),(("headers":Str),.list (R.map rowD))],none⟩ (iS 1)=some (.next,⟨(("headers":Str),.list (R.map rowD))::[(("self":Str),.raw (.ref x)),(("headers":Str),.list (R.map rowD))],none⟩):=by kernel_rfl!
  refine wpAny_execs_cons (st1_ok R1.h sd.1 sd.2 us (recO 9) S0 e0 _ _ fun f s2 k2 S2 r2=>?_)
  have r2:f=.next:=r2
  subst r2
  refine wpAny_execs_cons (st1_ok R1.h sd.1 sd.2 us (recO 9) (S2 rfl) e1 _ _ fun f s3 k3 S3 r3=>?_)
  have r3:f=.next:=r3
  subst r3
  have S3:=(S3 rfl).plain
  have k13:=KeepsW.tr k2 k3
  rw [i_asg]
  have evH:∀ s',Keeps s3 s'→∀ p,EvOk w (A.deeper (callEnvC (fdAt w.params 126) L 126)) (eval (.Name "headers" p) (callEnvC (fdAt w.params 126) L 126)) s' (M++([x,dx]++W)) (.list (R.map rowD)):=fun s' k p =>
    sd.1 _ _ ⟨inm w,(("headers":Str),.list (R.map rowD))::[(("self":Str),.raw (.ref x)),(("headers":Str),.list (R.map rowD))]⟩ s' _ _ (S3.keep k).base (S3.keep k).fr.wok (S3.keep k).fr.env (by kernel_rfl!)
  have evS:∀ s',Keeps s3 s'→∀ p,EvOk w (A.deeper (callEnvC (fdAt w.params 126) L 126)) (eval (.Name "self" p) (callEnvC (fdAt w.params 126) L 126)) s' (M++([x,dx]++W)) (.raw (.ref x)):=fun s' k p =>
    sd.1 _ _ ⟨inm w,(("headers":Str),.list (R.map rowD))::[(("self":Str),.raw (.ref x)),(("headers":Str),.list (R.map rowD))]⟩ s' _ _ (S3.keep k).base (S3.keep k).fr.wok (S3.keep k).fr.env (by kernel_rfl!)
  refine wpAny_execs_cons (plainObj_wpAny_Assign_Attribute (hs:=noSwap rfl) (evH s3 (Keeps.rfl' s3) _ _ _ fun v4 s4 k4 r4=>evS s4 k4 _ _ _ fun v5 s5 k5 r5=>?_))
  simp only [rep] at r5
  subst r5
  have k45:=Keeps.tr k4 k5
  have r4:=rep_keep (Keeps.heap k5) _ _ r4
  have S5:=S3.keep k45
  have xM:x∉M:=fun m=>by rw [fr x m] at hgx;cases hgx
  have dM:dx∉M:=fun m=>by rw [fr dx m] at hgdx;cases hgdx
  have k15:KeepsW M s s5:=KeepsW.tr (KeepsW.of k1) (KeepsW.tr k13 (KeepsW.of k45))
  have gx5:=KeepsW.heap k15 x ox xM hgx
  have ns5:s5.heap.Ns1 dx fun _=>none:=hdd'.2.at fun o=>KeepsW.heap k15 dx o dM
  have I5:s5.heap.Inst x 232 fun _=>none:=⟨ox,gx5,hcx,hncx,.inr ⟨dx,hodx,hdd'.1,ns5⟩⟩
  have C:=hdr_cls S5.base
  obtain ⟨nm,qn,bs,sn,sub,col,dd,k0,k1',k2',k3',k5',hC⟩:=C.obj
  have key:∀ {Q':Unit→Shared→Prop} {E'':Value→Shared→Prop},(∀ h' tk,h'.Inst x 232 (fun y=>if y=("_headers":Str) then some v4 else none)→HKW [x,dx] s5.heap h'→(∃ o₁,h'.get? x=some o₁∧o₁.dict=some dx)→Q' () { s5 with heap:=h',toks:=tk }) →
      wpAny (model pw w) (A.deeper (callEnvC (fdAt w.params 126) L 126)) (setAttr (.ref x) "_headers" v4) Q' E'' s5:=fun {Q' E''} hq=>by
    obtain ⟨hh,gg,d,t,os⟩:=s5
    refine store_attr F.store_object hC C.ns (ns_sa _) (ns_hd _) lk_hd (fun e=>by subst e;exact absurd hx3 (by decide)) I5 (ns:=[]) (fun h' tk' hI' hk' ho'=>?_) (hw:=Within.nil) (hsz:=Nat.zero_le _)
    refine hq h' tk' hI' (fun b o hb g=>hk' b o (fun e=>hb (e▸List.mem_cons_self)) (fun o₀ dx' h₀ h₁ e=>?_) g) ?_
    · have h0:hh.get? x=some o₀:=h₀
      have:o₀=ox:=Option.some.inj (h0.symm.trans gx5)
      subst this
      rw [hodx] at h₁;cases h₁
      exact hb (e▸List.mem_cons_of_mem _ List.mem_cons_self)
    · refine el15 (ho' ox gx5) fun o₁ g₁ _ _ _ hdc=>?_
      exact ⟨o₁,g₁,hdc dx hodx⟩
  refine key fun h' tk hI' hk6 ⟨o₁,g₁,hd₁⟩=>?_
  simp only [rep] at r4
  refine el24 r4 fun b xs q2q hb il rr=>?_;subst q2q
  have bM:b∉M:=fun m=>hb (List.mem_append_left _ m)
  have bx:b∉[x,dx]:=fun m=>hb (List.mem_append_right _ (List.mem_append_left _ m))
  have bW:b∉W:=fun m=>hb (List.mem_append_right _ (List.mem_append_right _ m))
  have hrep:rep h' (M++W) (.obj (R.map rowD)) (.ref x):=by
    refine el14 hI' fun o g c nc hdo=>?_
    have:o=o₁:=Option.some.inj (g.symm.trans g₁)
    subst this
    simp only [rep]
    refine ⟨x,dx,b,xs,rfl,⟨⟨o,g,c,nc,hd₁,hdd'.1⟩,?_,fun m=>?_,fun m=>?_,fun m=>?_⟩,islist_keep (fun o g=>hk6 b o bx g) il,?_⟩
    · rcases hdo with ⟨h,_⟩|⟨d,h,_,ns⟩
      · rw [h] at hd₁;cases hd₁
      · rw [h] at hd₁;cases hd₁;exact ns
    · rcases List.mem_append.1 m with m|m
      · exact xM m
      · exact hx m
    · rcases List.mem_append.1 m with m|m
      · exact dM m
      · exact hdx m
    · rcases List.mem_append.1 m with m|m
      · exact bM m
      · exact bW m
    · refine reps_sub (fun a ha=>?_) _ _ (reps_keepW (U:=[x,dx]) hk6 (fun a ha=>List.mem_append_right _ (List.mem_append_left _ ha)) _ _ rr)
      rcases List.mem_append.1 ha with ha|ha
      · exact List.mem_append_left _ ha
      · exact List.mem_append_right _ (List.mem_append_right _ ha)
  have S6:StR w (callEnvC (fdAt w.params 126) L 126) { s5 with heap:=h',toks:=tk } M (M++W) ((("headers":Str),.list (R.map rowD))::[(("self":Str),.raw (.ref x)),(("headers":Str),.list (R.map rowD))]):=by
    have S5':StR w (callEnvC (fdAt w.params 126) L 126) s5 M ([x,dx]++(M++W)) ((("headers":Str),.list (R.map rowD))::[(("self":Str),.raw (.ref x)),(("headers":Str),.list (R.map rowD))]) :=
      S5.sub (fun a ha=>by
        rcases List.mem_append.1 ha with ha|ha
        · exact List.mem_append_right _ (List.mem_append_left _ ha)
        · rcases List.mem_append.1 ha with ha|ha
          · exact List.mem_append_left _ ha
          · exact List.mem_append_right _ (List.mem_append_right _ ha)) (fun a ha=>List.mem_append_right _ (List.mem_append_left _ ha))
    have out:∀ a∈M++W,a∉[x,dx]:=fun a ha m=>by
      rcases List.mem_cons.1 m with e|m
      · subst e;rcases List.mem_append.1 ha with ha|ha
        · exact xM ha
        · exact hx ha
      · rcases List.mem_cons.1 m with e|m
        · subst e;rcases List.mem_append.1 ha with ha|ha
          · exact dM ha
          · exact hdx ha
        · cases m
    refine S5'.stepOff (fun a ha=>List.mem_append_left _ ha) hk6 out ⟨fun m=>out _ (List.mem_append_left _ S5.fr.own.1) m,fun n c hc=>?_⟩ (fun a ha=>?_)
    · rw [init_cells] at hc;cases hc
    · rcases List.mem_cons.1 ha with e|ha
      · exact e▸hx3
      · rcases List.mem_cons.1 ha with e|ha
        · exact e▸hdx3
        · cases ha
  have S7:StR w (callEnvC (fdAt w.params 126) L 126) { s5 with heap:=h',toks:=tk } M (M++W) [(("self":Str),.obj (R.map rowD)),(("headers":Str),.list (R.map rowD))]:=by
    refine ⟨⟨⟨S6.fr.env.kind,S6.fr.env.glob,S6.fr.env.blt,S6.fr.env.gl,S6.fr.env.cf,S6.fr.env.ce,fun m d hm hl=>?_⟩,S6.fr.ns,S6.fr.apart,S6.fr.own,S6.fr.sub,S6.fr.wok⟩,S6.base,S6.hi⟩
    have loc:=S6.fr.env.loc
    rw [List.lookup_cons] at hm
    cases hb1:m==("self":Str) with
    | true =>
      rw [hb1] at hm;cases hm
      have e:=eq_of_beq hb1
      subst e
      refine el12 (loc "self" (.raw (.ref x)) rfl hl) fun v6 hv6 rv6=>?_
      simp only [rep] at rv6
      subst rv6
      exact ⟨_,hv6,hrep⟩
    | false =>
      rw [hb1] at hm
      refine loc m d ?_ hl
      rw [List.lookup_cons] at hm ⊢
      cases hb2:m==("headers":Str) with
      | true=>rw [hb2] at hm;exact hm
      | false=>rw [hb2] at hm;cases hm
  obtain ⟨g8,e8⟩:=i_last w R (R.map rowD) hR
  have S8:St2 w (callEnvC (fdAt w.params 126) L 126) { s5 with heap:=h',toks:=tk } M (M++W) W "" 0 ⟨[(("self":Str),.obj (R.map rowD)),(("headers":Str),.list (R.map rowD))],none⟩ :=
    ⟨S7,fun b hb=>List.mem_append_right _ hb,fun p l h=>(by cases h),fun x h=>(by cases h)⟩
  refine wpAny_execs_cons (st1_ok R1.h sd.1 sd.2 us (recO 9) S8 e8 _ _ fun f s9 k9 _ r9=>?_)
  have r9:f=.next:=r9
  subst r9
  refine wpAny_execs_nil ?_
  refine q s9 ?_ ?_
  · have kk:KeepsW (M++[x,dx]) s s9:=KeepsW.tr (k15.weak fun b m=>List.mem_append_left _ m) (KeepsW.tr ⟨h',tk,rfl,fun b o hb g=>hk6 b o (fun m=>hb (List.mem_append_right _ m)) g⟩ (k9.weak fun b m=>List.mem_append_left _ m))
    exact kk.drop fr
  · have:=rep_keepW (KeepsW.heap k9) (fun a m=>List.mem_append_left _ m) _ _ hrep
    exact rep_sub (fun a m=>List.mem_append_right _ m) _ _ this
theorem make_ok {w:World} {n:Nat} {A:Around} (R0:Room A (n+3)) {s:Shared} {W:List Addr} {v:Value} {R:List (Str × Str)} (Y:YP w s.heap) (hW:WOk s.heap W) (hv:rep s.heap W (.list (R.map rowD)) v) (hR:∀ r∈R,fineR w r) :
    EvOk w A (call (.ref 232) [v]) s W (.obj (R.map rowD)):=fun Q E q=>by
  have C:=hdr_cls Y
  obtain ⟨nm,qn,bs,sn,sub,col,dd,k0,k1',k2',k3',k5',hC⟩:=C.obj
  obtain ⟨ddi,fdi,sli,hgi⟩:∃ dd fd sl,(tr_f w.params).get 126=some ⟨.type "function",dd,.func fd,sl⟩:=⟨_,_,_,(by kernel_rfl!:(tr_f w.params).get 126=some ⟨.type "function",(objAt w.params 126).dict,.func (fdAt w.params 126),(objAt w.params 126).slots⟩)⟩
  have hfi:=base_get Y (by decide) hgi rfl
  have RU:Room (A.under (.builtin "type.__call__" ⟨[.ref 232,v],[]⟩)) (n+2):=by
    refine ⟨R0.h,?_,?_⟩
    · show A.depth+1+(n+2)<_
      have:=R0.d;lia
    · show A.units+1+8*(n+2)+20<_
      have:=R0.u;lia
  obtain ⟨hh,gg,d,t,os⟩:=s
  refine wpAny_call_obj_init F.objNew hC C.ns (ns_init _) hfi rfl fun h' x dx hm=>?_
  have Y1:YP w h':=fun b o g=>hm.keeps b o (Y b o g)
  have hk:Keeps ⟨hh,gg,d,t,os⟩ ⟨h',gg,d,t,os⟩:=⟨h',t,rfl,hm.keeps⟩
  have nW:∀ a,hh.get? a=none→a∉W:=fun a ha m=>by
    obtain ⟨o,g⟩:=hW a m
    have g:hh.get? a=some o:=g
    rw [ha] at g;cases g
  have frs:∀ a∈[x,dx],hh.get? a=none:=fun a ha=>by
    rcases List.mem_cons.1 ha with e|ha
    · exact e▸hm.newX
    · rcases List.mem_cons.1 ha with e|ha
      · exact e▸hm.newD
      · cases ha
  refine init_ok (s:=⟨h',gg,d,t,os⟩) RU Y1 (hW.keep hm.keeps) hm.inst hm.dict (nW x hm.newX) (nW dx hm.newD) (new_hi (s:=⟨hh,gg,d,t,os⟩) Y hm.newX) (new_hi (s:=⟨hh,gg,d,t,os⟩) Y hm.newD)
    (rep_keep hm.keeps _ _ (rep_freshs [x,dx] _ _ frs hv)) hR fun s' k' r'=>⟨rfl,q (.ref x) s' ?_ r'⟩
  refine el22 k' fun h2 tk q2q hk2=>?_;subst q2q
  exact ⟨h2,tk,rfl,fun b o g=>hk2 b o (fun m=>by
    have g:hh.get? b=some o:=g
    rw [frs b m] at g;cases g) (hm.keeps b o g)⟩
end
section
section
variable {w:World} {ct:CT} {X:Extra} {m:Nat} {c:Cx} {o:Ops} {on:Str} {nm:List (Str × NameKind)} {g:Sg} {rec:Sg→List Stmt→Option (FlD × Sg)}
theorem s1_Asg {n:Str} {p pos:Pos} {x:PySem.Expr} {d:D} (h1:mayStoreN nm on g n=true) (h2:notComp x=true) (h:ev2 o nm on g x=some d):st1 o on nm rec g (.Assign [.Name n p] x pos)=some (.next,⟨(n,d)::g.σ,g.own⟩):=by
  show (if mayStoreN nm on g n then (if notComp x then (ev2 o nm on g x).map fun d=>(FlD.next,(⟨(n,d)::g.σ,g.own⟩:Sg)) else if isLC x then (o.ev ⟨nm,g.σ⟩ x).map fun d=>(FlD.next,(⟨(n,d)::g.σ,g.own⟩:Sg)) else none) else none)=_
  rw [if_pos h1,if_pos h2,h];rfl
theorem s1_AsgLC {n:Str} {p pos:Pos} {x:PySem.Expr} {d:D} (h1:mayStoreN nm on g n=true) (h2:isLC x=true) (h:o.ev ⟨nm,g.σ⟩ x=some d):st1 o on nm rec g (.Assign [.Name n p] x pos)=some (.next,⟨(n,d)::g.σ,g.own⟩):=by
  show (if mayStoreN nm on g n then (if notComp x then (ev2 o nm on g x).map fun d=>(FlD.next,(⟨(n,d)::g.σ,g.own⟩:Sg)) else if isLC x then (o.ev ⟨nm,g.σ⟩ x).map fun d=>(FlD.next,(⟨(n,d)::g.σ,g.own⟩:Sg)) else none) else none)=_
  have h3:notComp x=false:=by cases x<;>first|rfl|cases h2
  rw [if_pos h1,h3,if_neg Bool.false_ne_true,if_pos h2,h];rfl
theorem s1_Ret {x:PySem.Expr} {pos:Pos} {d:D} (h:ev2 o nm on g x=some d):st1 o on nm rec g (.Return (some x) pos)=some (.ret d,g):=by
  show (ev2 o nm on g x).map (fun d=>(FlD.ret d,g))=_
  rw [h];rfl
theorem s1_App {p apos cpos pos:Pos} {x:PySem.Expr} {n a:Str} {d:D} {l:List D} (h0:(n==on&&(a==("append":Str))&&(okOn on&&(!isStar x&&(apos.endLine==cpos.line))))=true) (ho:g.own=some (true,l)) (h:ev2 o nm on g x=some d) (hl:l.length≤99999) :
    st1 o on nm rec g (.Expr (.Call (.Attribute (.Name n p) a apos) [x] [] cpos) pos)=some (.next,⟨g.σ,some (true,l++[d])⟩):=by
  show (if (n==on&&(a==("append":Str))&&(okOn on&&(!isStar x&&(apos.endLine==cpos.line))))=true then g.own.bind _ else none)=_
  rw [if_pos h0,ho]
  show (ev2 o nm on g x).bind _=_
  rw [h]
  show (if Nat.ble l.length 99999=true then _ else none)=_
  rw [if_pos (Nat.ble_eq_true_of_le hl)]
theorem ev_X {e:PySem.Expr} {r:Option D} (h0:isLC e=false) (hX:X (ops2 w ct X m) c e=some r):(ops2 w ct X (m+1)).ev c e=r:=by
  show (if isLC e then (compL (ops2 w ct X m) c e).map .list else match X (ops2 w ct X m) c e with
    | some r=>r
    | none=>stepAll w ct (ops2 w ct X m) c e)=_
  rw [h0,hX];rfl
theorem ev_st {e:PySem.Expr} {r:Option D} (h0:isLC e=false) (hX:X (ops2 w ct X m) c e=none) (h:stepAll w ct (ops2 w ct X m) c e=r):(ops2 w ct X (m+1)).ev c e=r:=by
  show (if isLC e then (compL (ops2 w ct X m) c e).map .list else match X (ops2 w ct X m) c e with
    | some r=>r
    | none=>stepAll w ct (ops2 w ct X m) c e)=_
  rw [h0,hX];exact h
theorem ev_LC {e:PySem.Expr} {l:List D} (h0:isLC e=true) (h:compL (ops2 w ct X m) c e=some l):(ops2 w ct X (m+1)).ev c e=some (.list l):=by
  show (if isLC e then (compL (ops2 w ct X m) c e).map .list else match X (ops2 w ct X m) c e with
    | some r=>r
    | none=>stepAll w ct (ops2 w ct X m) c e)=_
  rw [if_pos h0,h];rfl
theorem ev_ct {n:Str} {p pos:Pos} {args:List PySem.Expr} {a:Addr} {ds:List D} (hX:X (ops2 w ct X m) c (.Call (.Name n p) args [] pos)=none) (hn:(ops2 w ct X m).ev c (.Name n p)=some (.raw (.ref a))) (hc:callable w (.ref a)=true) (ha:evL ((ops2 w ct X m).ev c) args=some ds) :
    (ops2 w ct X (m+1)).ev c (.Call (.Name n p) args [] pos)=ct (.ref a) ds:=by
  refine ev_st rfl hX ?_
  show onD ((ops2 w ct X m).ev c (.Name n p)) asRaw _=_
  rw [hn]
  show (if callable w (.ref a) then (evL ((ops2 w ct X m).ev c) args).bind fun ds=>callD ct (.ref a) ds else none)=_
  rw [if_pos hc,ha];rfl
theorem evL_one {f:PySem.Expr→Option D} {x:PySem.Expr} {d:D} (hs:isStar x=false) (h:f x=some d):evL f [x]=some [d]:=by
  show (if isStar x then none else (f x).bind fun d=>(evL f []).bind fun ds=>some (d::ds))=_
  rw [hs,h];rfl
theorem evL_cons {f:PySem.Expr→Option D} {x:PySem.Expr} {xs:List PySem.Expr} {d:D} {ds:List D} (hs:isStar x=false) (h:f x=some d) (h2:evL f xs=some ds):evL f (x::xs)=some (d::ds):=by
  show (if isStar x then none else (f x).bind fun d=>(evL f xs).bind fun ds=>some (d::ds))=_
  rw [hs,h,h2];rfl
theorem ev_List {xs:List PySem.Expr} {pos:Pos} {ds:List D} (hX:X (ops2 w ct X m) c (.List xs pos)=none) (h:evL ((ops2 w ct X m).ev c) xs=some ds) (hl:ds.length≤100000):(ops2 w ct X (m+1)).ev c (.List xs pos)=some (.list ds):=by
  refine ev_st rfl hX ?_
  show (evL ((ops2 w ct X m).ev c) xs).bind _=_
  rw [h]
  show (if Nat.ble ds.length 100000 then some (D.list ds) else none)=_
  rw [if_pos (Nat.ble_eq_true_of_le hl)]
theorem ev_Tuple {xs:List PySem.Expr} {k:Nat} {pos:Pos} {ds:List D} (hX:X (ops2 w ct X m) c (.Tuple xs k pos)=none) (h:evL ((ops2 w ct X m).ev c) xs=some ds) (hl:ds.length≤100000):(ops2 w ct X (m+1)).ev c (.Tuple xs k pos)=some (.tup ds):=by
  refine ev_st rfl hX ?_
  show (evL ((ops2 w ct X m).ev c) xs).bind _=_
  rw [h]
  show (if Nat.ble ds.length 100000 then some (D.tup ds) else none)=_
  rw [if_pos (Nat.ble_eq_true_of_le hl)]
theorem ev_Bin {l r:PySem.Expr} {op:Operator} {pos:Pos} {x y:D} (hX:X (ops2 w ct X m) c (.BinOp l op r pos)=none) (hl:(ops2 w ct X m).ev c l=some x) (hr:(ops2 w ct X m).ev c r=some y):(ops2 w ct X (m+1)).ev c (.BinOp l op r pos)=bopD op x y:=by
  refine ev_st rfl hX ?_
  show ((ops2 w ct X m).ev c l).bind (fun x=>((ops2 w ct X m).ev c r).bind fun y=>bopD op x y)=_
  rw [hl,hr];rfl
theorem ev_ix {v i:PySem.Expr} {pos:Pos} {x y d:D} (h0:∀ (F:_→_→_→_→Option D) H,onSl i F H=H) (hX:X (ops2 w ct X m) c (.Subscript v i pos)=none) (hv:(ops2 w ct X m).ev c v=some x) (hi:(ops2 w ct X m).ev c i=some y) (hs:isSeqD x=true) (hd:idxD x y=some d):(ops2 w ct X (m+1)).ev c (.Subscript v i pos)=some d:=by
  refine ev_st rfl hX ?_
  show ((ops2 w ct X m).ev c v).bind (fun x=>onSl i _ (((ops2 w ct X m).ev c i).bind fun y=>if isSeqD x then idxD x y else none))=_
  rw [hv]
  show onSl i _ (((ops2 w ct X m).ev c i).bind fun y=>if isSeqD x then idxD x y else none)=_
  rw [h0,hi]
  show (if isSeqD x then idxD x y else none)=_
  rw [if_pos hs,hd]
theorem ev_Cmp {l r:PySem.Expr} {op:CmpOp} {pos:Pos} {x y:D} (hX:X (ops2 w ct X m) c (.Compare l [op] [r] pos)=none) (hm:behindInMarks op r=false) (hl:(ops2 w ct X m).ev c l=some x) (hr:(ops2 w ct X m).ev c r=some y):(ops2 w ct X (m+1)).ev c (.Compare l [op] [r] pos)=(cmpB op x y).map .bool:=by
  refine ev_st rfl hX ?_
  show (if behindInMarks op r then none else ((ops2 w ct X m).ev c l).bind fun x=>((ops2 w ct X m).ev c r).bind fun y=>(cmpB op x y).map D.bool)=_
  rw [hm,hl,hr];rfl
end
noncomputable def tblX (mk:List D→Option D) (ga:List D→Str→Option D) (o:Ops) (c:Cx) (x:PySem.Expr):Option (Option D) :=
  (on1 x fun n p x pos=>onD (o.ev c (.Name n p)) asRef fun f=>if f==232&&!isStar x then onD (o.ev c x) asLi fun l=>some (mk l) else none).or <|
  onM x fun n p a apos arg pos=>if (a==("get_all":Str))&&((apos.endLine==pos.line)&&!isStar arg) then onD (o.ev c (.Name n p)) asObj fun l=>onD (o.ev c arg) asStr fun y=>some (ga l y) else none
theorem sound_tblX {w:World} {A:Around} {mk:List D→Option D} {ga:List D→Str→Option D} (hmk:∀ l d,mk l=some d→∀ (s:Shared) (W:List Addr) (v:Value),YP w s.heap→WOk s.heap W→rep s.heap W (.list l) v→EvOk w A (call (.ref 232) [v]) s W d)
    (hga:∀ l y d,ga l y=some d→CallOk w A (.ref 171) [.obj l,.str y] d):SoundX w A (tblX mk ga):=fun o Sd T e W c s x d Y hW R h=>by
  have later:∀ x d,o.ev c x=some d→∀ s',Keeps s s'→EvOk w A (eval x e) s' W d:=fun x d hx s' k=>Sd e W c s' x d (fun b o g=>Keeps.heap k b o (Y b o g)) (hW.keep (Keeps.heap k)) (R.keep (Keeps.heap k)) hx
  have now:∀ x d,o.ev c x=some d→EvOk w A (eval x e) s W d:=fun x d hx=>later x d hx s (Keeps.rfl' s)
  unfold tblX at h
  refine or_e h (fun h=>on1_e x h fun n p x pos h=>onD_e asRef_g h fun f hf h=>if_e h fun hc h=>onD_e asLi_g h fun l hl hz=>?_) fun h=>onM_e x h fun n p a apos arg pos h=>if_e h fun hc h=>onD_e asObj_g h fun l hn h=>onD_e asStr_g h fun y ha hz=>?_
  · simp only [Bool.and_eq_true,beq_iff_eq,Bool.not_eq_true'] at hc
    obtain ⟨rfl,hst⟩:=hc
    injection hz with hz
    intro Q E q
    have e1:eval (.Call (.Name n p) [x] [] pos) e=(do callWith pos (← eval (.Name n p) e) [] (backTo pos (starEach [x] e)) (backToKw pos (keywordEach [] e))):=rfl
    rw [e1]
    refine wpAny_bind (now _ _ hf _ E fun v s1 k1 r1=>?_)
    simp only [rep] at r1
    subst r1
    have Y1:YP w s1.heap:=fun b o g=>Keeps.heap k1 b o (Y b o g)
    have hE:EachOk w A e W s1 [x] [.list l]:=.cons hst (fun s' k=>later _ _ hl s' (Keeps.tr k1 k)) .nil
    refine callWith_cls (hdr_cls Y1) (ok_spliced s1 hE _ E fun vs s2 k2 r2=>⟨Keeps.heap k2,?_⟩) (starEach_plain hst)
    obtain ⟨v,rfl,r⟩:=reps_one r2
    exact hmk l d hz s2 W v (fun b o g=>Keeps.heap k2 b o (Y1 b o g)) (hW.keep (Keeps.heap (Keeps.tr k1 k2))) r Q E fun v s3 k3 r3=>q v s3 (Keeps.tr k1 (Keeps.tr k2 k3)) r3
  · simp only [Bool.and_eq_true,beq_iff_eq,Bool.not_eq_true'] at hc
    obtain ⟨rfl,hline,hst⟩:=hc
    injection hz with hz
    have hE:EachOk w A e W s [arg] [.str y]:=.cons hst (fun s' k=>later _ _ ha s' k) .nil
    refine ok_objCall (kv:=[]) (kws:=[]) Y (now _ _ hn) (ns_all _) lk_all (ne_of_len (by decide)) (fn_all w) (by decide) (by rw [hline];exact BEq.rfl) hE (by simp) rfl (fun s' Q E k q=>?_) (fun s' a vs k r0 r1=>?_)
    · exact ok_evalArgs (hE.later k) _ E fun vs s'' k' r'=>q vs s'' k' r'
    · exact hga l y d hz s' W (.ref a::vs) (fun b o g=>Keeps.heap k b o (Y b o g)) (hW.keep (Keeps.heap k)) (by simp only [reps];exact ⟨_,_,rfl,r0,by simpa only [reps] using r1⟩)
end
section
noncomputable def eS (i:Nat):Stmt:=(fdB (stm 3)).getD i (.Pass default)
noncomputable def enm (w:World):List (Str × NameKind):=(fdAt w.params 45).scope.names
noncomputable abbrev eO (w:World):Ops:=ops2 w ct0 X0 9
noncomputable def assT:Stmt→PySem.Expr | .Assert t _ _=>t|_=>.Constant .none 0 default
noncomputable def assP:Stmt→Option PySem.Expr × Pos | .Assert _ m p=>(m,p)|_=>(none,default)
section
variable {w:World} {ct:CT} {X:Extra} {m:Nat} {c:Cx} {o:Ops} {on:Str} {nm:List (Str × NameKind)} {g:Sg} {rec:Sg→List Stmt→Option (FlD × Sg)}
theorem ev_bi {n:Str} {p pos:Pos} {args:List PySem.Expr} {id:String} {ds:List D} {d:D} (hX:X (ops2 w ct X m) c (.Call (.Name n p) args [] pos)=none) (hn:(ops2 w ct X m).ev c (.Name n p)=some (.raw (.builtin id))) (hc:callable w (.builtin id)=true)
    (ha:evL ((ops2 w ct X m).ev c) args=some ds) (hb:biD id ds=some d):(ops2 w ct X (m+1)).ev c (.Call (.Name n p) args [] pos)=some d:=by
  refine ev_st rfl hX ?_
  show onD ((ops2 w ct X m).ev c (.Name n p)) asRaw _=_
  rw [hn]
  show (if callable w (.builtin id) then (evL ((ops2 w ct X m).ev c) args).bind fun ds=>callD ct (.builtin id) ds else none)=_
  rw [if_pos hc,ha]
  show ((biD id ds).or _).or _=_
  rw [hb];rfl
theorem trC {l r:PySem.Expr} {op:CmpOp} {p:Pos} {x y:D} {b:Bool} (hm:behindInMarks op r=false) (hx:(ops2 w ct X m).ev c l=some x) (hy:(ops2 w ct X m).ev c r=some y) (hb:cmpB op x y=some b):(ops2 w ct X (m+1)).tr c (.Compare l [op] [r] p)=some b :=
  (tr_Cmp (p:=p) (o:=ops2 w ct X m) hm hx hy).trans hb
theorem s1_Tup {ts vs:List PySem.Expr} {k k':Nat} {p p' pos:Pos} {ns:List Str} {ds:List D} {σ':List (Str × D)} (h1:swapN nm ts vs=some ns) (h2:ev2 o nm on g (.Tuple vs k' p')=some (.tup ds)) (h3:ns.all (mayStoreN nm on g)=true) (h4:bindAll ns.reverse ds.reverse g.σ=some σ') :
    st1 o on nm rec g (.Assign [.Tuple ts k p] (.Tuple vs k' p') pos)=some (.next,⟨σ',g.own⟩):=by
  show (swapN nm ts vs).bind _=_
  rw [h1]
  show onD (ev2 o nm on g (.Tuple vs k' p')) asTup _=_
  rw [h2]
  show (if ns.all (mayStoreN nm on g) then (bindAll ns.reverse ds.reverse g.σ).map fun σ'=>(FlD.next,(⟨σ',g.own⟩:Sg)) else none)=_
  rw [if_pos h3,h4];rfl
theorem s1_Del {n:Str} {p tp pos:Pos} {i:PySem.Expr} {l:List D} {j:Int} {k:Nat} (h0:(n==on&&okOn on)=true) (ho:g.own=some (true,l)) (hi:ev2 o nm on g i=some (.int j)) (hk:seqIndex? j l.length=some k) (hb:(Nat.ble l.length 99999&&(decide (-1000000<j)&&decide (j<1000000)))=true) :
    st1 o on nm rec g (.Delete [.Subscript (.Name n p) i tp] pos)=some (.next,⟨g.σ,some (true,l.eraseIdx k)⟩):=by
  show (if (n==on&&okOn on)=true then g.own.bind _ else none)=_
  rw [if_pos h0,ho]
  show onD (ev2 o nm on g i) asInt _=_
  rw [hi]
  show (seqIndex? j l.length).bind _=_
  rw [hk]
  show (if (Nat.ble l.length 99999&&(decide (-1000000<j)&&decide (j<1000000)))=true then _ else none)=_
  rw [if_pos hb]
theorem s1_Ass {t:PySem.Expr} {mg:Option PySem.Expr} {pos:Pos} (h:tr2 o nm on g t=some true):st1 o on nm rec g (.Assert t mg pos)=some (.next,g):=by
  show (tr2 o nm on g t).bind _=_
  rw [h];rfl
theorem s1_AugN {n:Str} {p pos:Pos} {op:Operator} {x:PySem.Expr} {i j z:Int} (h0:(mayStoreN nm on g n&&!(n==("__classdict__":Str)))=true) (h1:g.σ.lookup n=some (.int i)) (h2:ev2 o nm on g x=some (.int j)) (h3:iopI op i j=some z) :
    st1 o on nm rec g (.AugAssign (.Name n p) op x pos)=some (.next,⟨(n,.int z)::g.σ,g.own⟩):=by
  show (if (mayStoreN nm on g n&&!(n==("__classdict__":Str)))=true then onD (g.σ.lookup n) asInt _ else none)=_
  rw [if_pos h0,h1]
  show onD (ev2 o nm on g x) asInt _=_
  rw [h2]
  show (iopI op i j).map _=_
  rw [h3];rfl
end
theorem e_parts:fdB (stm 3)=[eS 0,eS 1,eS 2,eS 3,eS 4,eS 5,eS 6,eS 7,eS 8,eS 9,eS 10]:=by kernel_rfl!
theorem e_if0:eS 0=.If (ifT (eS 0)) (ifB (eS 0)) [] (ifP (eS 0)):=by kernel_rfl!
theorem e_if5:eS 5=.If (ifT (eS 5)) (ifB (eS 5)) [] (ifP (eS 5)):=by kernel_rfl!
theorem e_if7:eS 7=.If (ifT (eS 7)) (ifB (eS 7)) [] (ifP (eS 7)):=by kernel_rfl!
theorem e_if8:eS 8=.If (ifT (eS 8)) (ifB (eS 8)) [] (ifP (eS 8)):=by kernel_rfl!
noncomputable def eI (i:Nat):Stmt:=(ifB (eS i)).getD 0 (.Pass default)
theorem e_b5:ifB (eS 5)=[eI 5]:=by kernel_rfl!
theorem e_b7:ifB (eS 7)=[eI 7]:=by kernel_rfl!
theorem e_i5:eI 5=.If (ifT (eI 5)) (ifB (eI 5)) (ifE (eI 5)) (ifP (eI 5)):=by kernel_rfl!
theorem e_i7:eI 7=.If (ifT (eI 7)) (ifB (eI 7)) (ifE (eI 7)) (ifP (eI 7)):=by kernel_rfl!
theorem e_for:eS 9=.For (forT (eS 9)) (forI (eS 9)) (forB (eS 9)) [] (posS (eS 9)):=by kernel_rfl!
noncomputable def eL (i:Nat):Stmt:=(forB (eS 9)).getD i (.Pass default)
theorem e_body:forB (eS 9)=[eL 0,eL 1,eL 2]:=by kernel_rfl!
theorem e_l1:eL 1=.If (ifT (eL 1)) (ifB (eL 1)) [] (ifP (eL 1)):=by kernel_rfl!
noncomputable def dotS:Str:=⟨#[46,46,46]⟩
noncomputable def hasS (x y:Str):Bool:=!(Builtin.Str.occurrences x y 0 x.length 1).isEmpty
noncomputable def begS (x y:Str):Bool:=0+y.length≤x.length&&Builtin.Str.subAt x y 0
noncomputable def endS (x y:Str):Bool:=0+y.length≤x.length&&Builtin.Str.subAt x y (x.length - y.length)
noncomputable def neS (x:Str):Bool:=(x.length:Int) != 0
noncomputable abbrev eσ0 (a b:Str):List (Str × D):=[(("want":Str),.str a),(("got":Str),.str b)]
section
variable (w:World) (a b:Str)
theorem e_t0:tr2 (eO w) (enm w) "ws" ⟨eσ0 a b,none⟩ (ifT (eS 0))=some (!(hasS a dotS)):=by kernel_rfl!
theorem e_r0:exs2 (eO w) "ws" (enm w) 9 ⟨eσ0 a b,none⟩ (ifB (eS 0))=some (.ret (.bool (a==b)),⟨eσ0 a b,none⟩):=by kernel_rfl!
theorem e_s1:allocAt (eO w) "ws" (enm w) ⟨eσ0 a b,none⟩ (eS 1)=splitD a dotS:=by kernel_rfl!
noncomputable abbrev eσ3 (a b:Str) (sp ep:Int):List (Str × D):=(("startpos":Str),.int sp)::(("endpos":Str),.int ep)::eσ0 a b
end
theorem tr2_own {o:Ops} {on:Str} {nm:List (Str × NameKind)} {g:Sg} {t:PySem.Expr} {p c:Bool} {l:List D} (h0:o.tr ⟨nm,g.σ⟩ t=none) (ho:g.own=some (p,l)) (h:o.tr ⟨nm,(on,.list l)::g.σ⟩ t=some c):tr2 o nm on g t=some c:=by
  unfold tr2
  rw [h0,ho];exact h
theorem ev2_own {o:Ops} {on:Str} {nm:List (Str × NameKind)} {g:Sg} {t:PySem.Expr} {p:Bool} {c:D} {l:List D} (h0:o.ev ⟨nm,g.σ⟩ t=none) (ho:g.own=some (p,l)) (h:o.ev ⟨nm,(on,.list l)::g.σ⟩ t=some c) (ha:isAtom c=true):ev2 o nm on g t=some c:=by
  unfold ev2
  rw [h0,ho]
  dsimp only
  rw [h]
  dsimp only
  rw [if_pos ha]
noncomputable def callAs:PySem.Expr→List PySem.Expr | .Call _ a _ _=>a|_=>[]
noncomputable def tupXs:PySem.Expr→List PySem.Expr | .Tuple l _ _=>l|_=>[]
noncomputable def tupK:PySem.Expr→Nat | .Tuple _ k _=>k|_=>0
noncomputable def tupP:PySem.Expr→Pos | .Tuple _ _ p=>p|_=>default
noncomputable def asgT (s:Stmt):PySem.Expr:=match s with | .Assign [t] _ _=>t|_=>.Constant .none 0 default
noncomputable abbrev eNm (w:World) (σ:List (Str × D)):Cx:=⟨enm w,σ⟩
theorem ev_len {w:World} {m:Nat} {c:Cx} {n:Str} {p q pos:Pos} {x d:D} (hn:(ops2 w ct0 X0 m).ev c (.Name "len" p)=some (.raw (.builtin "len"))) (hx:(ops2 w ct0 X0 m).ev c (.Name n q)=some x) (hb:biD "len" [x]=some d) :
    (ops2 w ct0 X0 (m+1)).ev c (.Call (.Name "len" p) [.Name n q] [] pos)=some d :=
  ev_bi rfl hn rfl (evL_one rfl hx) hb
theorem len_str {x:Str} (h:x.length≤1000):biD "len" [.str x]=some (.int x.length):=by
  show (if Nat.ble x.length sizeLine then some (D.int x.length) else none).or _=_
  rw [if_pos (Nat.ble_eq_true_of_le (by rw [sizeLine_eq];lia))];rfl
theorem len_list {l:List D} (h:l.length≤1000):biD "len" [.list l]=some (.int l.length):=by
  show (if Nat.ble l.length sizeLine then some (D.int l.length) else none)=_
  rw [if_pos (Nat.ble_eq_true_of_le (by rw [sizeLine_eq];lia))]
noncomputable def lenE (p q pos:Pos) (n:Str):PySem.Expr:=.Call (.Name "len" p) [.Name n q] [] pos
noncomputable def cmpN (x:PySem.Expr):PySem.Expr:=cmpL x
theorem e_x2:assT (eS 2)=.Compare (lenE (nmP (callF (cmpL (assT (eS 2))))) (nmP (callA (cmpL (assT (eS 2))))) (callP (cmpL (assT (eS 2)))) "ws") [.GtE] [cmpR (assT (eS 2))] (cmpP (assT (eS 2))):=by kernel_rfl!
theorem e_a2:eS 2=.Assert (assT (eS 2)) (assP (eS 2)).1 (assP (eS 2)).2:=by kernel_rfl!
theorem e_a3:eS 3=.Assign [.Tuple (tupXs (asgT (eS 3))) (tupK (asgT (eS 3))) (tupP (asgT (eS 3)))] (.Tuple (tupXs (asgX (eS 3))) (tupK (asgX (eS 3))) (tupP (asgX (eS 3)))) (posS (eS 3)):=by kernel_rfl!
noncomputable def e3l:PySem.Expr:=(tupXs (asgX (eS 3))).getD 1 (.Constant .none 0 default)
theorem e_x3:tupXs (asgX (eS 3))=[(tupXs (asgX (eS 3))).getD 0 (.Constant .none 0 default),lenE (nmP (callF e3l)) (nmP (callA e3l)) (callP e3l) "got"]:=by kernel_rfl!
section
variable (w:World) (a b:Str)
theorem e_s2 {l:List D} (hl:l.length≤1000) (h2:2≤l.length) (rec:Sg→List Stmt→Option (FlD × Sg)):st1 (eO w) "ws" (enm w) rec ⟨eσ0 a b,some (true,l)⟩ (eS 2)=some (.next,⟨eσ0 a b,some (true,l)⟩):=by
  rw [e_a2]
  refine s1_Ass (tr2_own (l:=l) (p:=true) (by kernel_rfl!) rfl ?_)
  rw [e_x2]
  have h:=ev_len (w:=w) (m:=7) (c:=⟨enm w,(("ws":Str),.list l)::eσ0 a b⟩) (n:="ws") (p:=nmP (callF (cmpL (assT (eS 2))))) (q:=nmP (callA (cmpL (assT (eS 2))))) (pos:=callP (cmpL (assT (eS 2)))) (by kernel_rfl!) (x:=.list l) (by kernel_rfl!) (len_list hl)
  refine trC (m:=8) (op:=.GtE) (r:=cmpR (assT (eS 2))) (x:=.int l.length) (y:=.int 2) (by kernel_rfl!) h (by kernel_rfl!) ?_
  show some (decide ((l.length:Int) ≥ 2))=some true
  rw [decide_eq_true (by lia)]
theorem e_s3 {l:List D} (hb:b.length≤1000) (rec:Sg→List Stmt→Option (FlD × Sg)):st1 (eO w) "ws" (enm w) rec ⟨eσ0 a b,some (true,l)⟩ (eS 3)=some (.next,⟨eσ3 a b 0 b.length,some (true,l)⟩):=by
  rw [e_a3]
  refine s1_Tup (ns:=["startpos","endpos"]) (ds:=[.int 0,.int b.length]) (by kernel_rfl!) (ev2_of (g:=⟨eσ0 a b,some (true,l)⟩) ?_) (by kernel_rfl!) (by kernel_rfl!)
  refine ev_Tuple rfl ?_ (by simp)
  rw [e_x3]
  refine evL_cons (by kernel_rfl!) (by kernel_rfl!) (evL_one rfl (ev_len (by kernel_rfl!) (x:=.str b) (by kernel_rfl!) (len_str hb)))
end
end
section
noncomputable def subE (x:PySem.Expr):PySem.Expr:=match x with | .Subscript _ i _=>i|x=>x
section
variable {w:World} {ct:CT} {X:Extra} {m:Nat} {c:Cx}
theorem ev_idx {v:PySem.Expr} {k:Nat} {i:Int} {q pos:Pos} {x y d:D} (hX:X (ops2 w ct X m) c (.Subscript v (.Constant (.int i) k q) pos)=none) (hv:(ops2 w ct X m).ev c v=some x) (hi:(ops2 w ct X m).ev c (.Constant (.int i) k q)=some y) (hs:isSeqD x=true) (hd:idxD x y=some d):(ops2 w ct X (m+1)).ev c (.Subscript v (.Constant (.int i) k q) pos)=some d:=by
  refine ev_ix (fun _ _=>rfl) hX hv hi hs hd
theorem ev_idxU {v j:PySem.Expr} {q pos:Pos} {x y d:D} (hX:X (ops2 w ct X m) c (.Subscript v (.UnaryOp .USub j q) pos)=none) (hv:(ops2 w ct X m).ev c v=some x) (hi:(ops2 w ct X m).ev c (.UnaryOp .USub j q)=some y) (hs:isSeqD x=true) (hd:idxD x y=some d):(ops2 w ct X (m+1)).ev c (.Subscript v (.UnaryOp .USub j q) pos)=some d:=by
  refine ev_ix (fun _ _=>rfl) hX hv hi hs hd
end
theorem idx_last (l:List D) (x:D):idxD (.list (l++[x])) (.int (-1))=some x:=by
  show (if decide (-1000000<(-1:Int))&&decide ((-1:Int)<1000000) then (seqIndex? (-1) (l++[x]).length).bind ((l++[x])[·]?) else none)=_
  rw [if_pos (by decide)]
  have:seqIndex? (-1) (l++[x]).length=some l.length:=by
    simp [seqIndex?]
    try lia
  rw [this]
  simp
theorem idx_first (l:List D) (x:D):idxD (.list (x::l)) (.int 0)=some x:=by
  show (if decide (-1000000<(0:Int))&&decide ((0:Int)<1000000) then (seqIndex? 0 (x::l).length).bind ((x::l)[·]?) else none)=_
  rw [if_pos (by decide)]
  have:seqIndex? 0 (x::l).length=some 0:=by
    simp [seqIndex?]
    try lia
  rw [this]
  simp
theorem e_a4:eS 4=.Assign [.Name "w" (nmP (asgT (eS 4)))] (asgX (eS 4)) (posS (eS 4)):=by kernel_rfl!
theorem e_x4:asgX (eS 4)=.Subscript (.Name "ws" (nmP (subV (asgX (eS 4))))) (.Constant (.int 0) (coK (subE (asgX (eS 4)))) (coP (subE (asgX (eS 4))))) (subP (asgX (eS 4))):=by kernel_rfl!
noncomputable def unX:PySem.Expr→PySem.Expr | .UnaryOp _ x _=>x|x=>x
noncomputable def unP:PySem.Expr→Pos | .UnaryOp _ _ p=>p|_=>default
theorem e_a6:eS 6=.Assign [.Name "w" (nmP (asgT (eS 6)))] (asgX (eS 6)) (posS (eS 6)):=by kernel_rfl!
theorem e_x6:asgX (eS 6)=.Subscript (.Name "ws" (nmP (subV (asgX (eS 6))))) (.UnaryOp .USub (unX (subE (asgX (eS 6)))) (unP (subE (asgX (eS 6))))) (subP (asgX (eS 6))):=by kernel_rfl!
noncomputable def e5 (i:Nat):Stmt:=(ifB (eI 5)).getD i (.Pass default)
noncomputable def e7 (i:Nat):Stmt:=(ifB (eI 7)).getD i (.Pass default)
theorem e_b55:ifB (eI 5)=[e5 0,e5 1]:=by kernel_rfl!
theorem e_b77:ifB (eI 7)=[e7 0,e7 1]:=by kernel_rfl!
theorem e_50:e5 0=.Assign [.Name "startpos" (nmP (asgT (e5 0)))] (lenE (nmP (callF (asgX (e5 0)))) (nmP (callA (asgX (e5 0)))) (callP (asgX (e5 0))) "w") (posS (e5 0)):=by kernel_rfl!
noncomputable def delT:Stmt→PySem.Expr | .Delete (t::_) _=>t|_=>.Constant .none 0 default
noncomputable def delP:Stmt→Pos | .Delete _ p=>p|_=>default
theorem e_51:e5 1=.Delete [.Subscript (.Name "ws" (nmP (subV (delT (e5 1))))) (subE (delT (e5 1))) (subP (delT (e5 1)))] (delP (e5 1)):=by kernel_rfl!
theorem e_70:e7 0=.AugAssign (.Name "endpos" (nmP (augT (e7 0)))) .Sub (lenE (nmP (callF (augX (e7 0)))) (nmP (callA (augX (e7 0)))) (callP (augX (e7 0))) "w") (posS (e7 0)):=by kernel_rfl!
theorem e_71:e7 1=.Delete [.Subscript (.Name "ws" (nmP (subV (delT (e7 1))))) (subE (delT (e7 1))) (subP (delT (e7 1)))] (delP (e7 1)):=by kernel_rfl!
theorem e_tw (i:Nat) (hi:i=5∨i=7):ifT (eS i)=.Name "w" (nmP (ifT (eS i))):=by
  rcases hi with rfl|rfl<;>kernel_rfl!
theorem tr_str {w:World} {ct:CT} {X:Extra} {m:Nat} {c:Cx} {n:Str} {p:Pos} {s:Str} (h:(ops2 w ct X m).ev c (.Name n p)=some (.str s)) (hs:s.length≤1000):(ops2 w ct X (m+1)).tr c (.Name n p)=some (neS s):=by
  show (if plainTest (.Name n p) then ((ops2 w ct X m).ev c (.Name n p)).bind fun d=>truthD d else none)=_
  rw [h]
  show (if Nat.ble s.length sizeLine then some ((s.length:Int) != 0) else none)=_
  rw [if_pos (Nat.ble_eq_true_of_le (by rw [sizeLine_eq];lia))];rfl
section
variable (w:World) (a b:Str)
noncomputable abbrev eRec:=Sg→List Stmt→Option (FlD × Sg)
theorem e_s4 {s:Str} {l:List D} (rec:eRec):st1 (eO w) "ws" (enm w) rec ⟨eσ3 a b 0 b.length,some (true,.str s::l)⟩ (eS 4)=some (.next,⟨(("w":Str),.str s)::eσ3 a b 0 b.length,some (true,.str s::l)⟩):=by
  rw [e_a4]
  refine s1_Asg (by kernel_rfl!) (by kernel_rfl!) (ev2_own (l:=.str s::l) (p:=true) (by kernel_rfl!) rfl ?_ rfl)
  rw [e_x4]
  exact ev_idx rfl (x:=.list (.str s::l)) (by kernel_rfl!) (y:=.int 0) (by kernel_rfl!) rfl (idx_first l _)
noncomputable def fr5 (s:Str) (l:List D):List D:=if neS s then l else .str s::l
noncomputable def sp5 (s:Str):Int:=if neS s then s.length else 0
noncomputable def eσ5 (a b s:Str):List (Str × D):=if neS s then (("startpos":Str),.int s.length)::(("w":Str),.str s)::eσ3 a b 0 b.length else (("w":Str),.str s)::eσ3 a b 0 b.length
noncomputable abbrev eσ4 (a b s:Str):List (Str × D):=(("w":Str),.str s)::eσ3 a b 0 b.length
theorem e_u5 (l:List D) (s:Str):(eO w).tr ⟨enm w,eσ4 a b s⟩ (ifT (eI 5))=some (begS b s):=by kernel_rfl!
theorem e_w5 (k:Nat) (l:List D) (s:Str):exs2 (eO w) "ws" (enm w) (k+1) ⟨eσ4 a b s,some (true,l)⟩ (ifE (eI 5))=some (.ret (.bool false),⟨eσ4 a b s,some (true,l)⟩):=by kernel_rfl!
theorem e_v5 (k:Nat) {l:List D} {s:Str} (hs:s.length≤1000) (hl:l.length≤1000) (hn:neS s=true):exs2 (eO w) "ws" (enm w) (k+3) ⟨eσ4 a b s,some (true,.str s::l)⟩ (ifB (eI 5))=some (.next,⟨eσ5 a b s,some (true,l)⟩):=by
  have hσ:eσ5 a b s=(("startpos":Str),.int s.length)::eσ4 a b s:=by unfold eσ5;rw [if_pos hn]
  rw [hσ,e_b55]
  have h1:st1 (eO w) "ws" (enm w) (exs2 (eO w) "ws" (enm w) (k+2)) ⟨eσ4 a b s,some (true,.str s::l)⟩ (e5 0)=some (.next,⟨(("startpos":Str),.int s.length)::eσ4 a b s,some (true,.str s::l)⟩):=by
    rw [e_50]
    exact s1_Asg (by kernel_rfl!) (by kernel_rfl!) (ev2_of (g:=⟨eσ4 a b s,some (true,.str s::l)⟩) (ev_len (by kernel_rfl!) (x:=.str s) (by kernel_rfl!) (len_str hs)))
  rw [x2_next (k:=k+2) (by kernel_rfl!) (by kernel_rfl!) h1]
  have h2:st1 (eO w) "ws" (enm w) (exs2 (eO w) "ws" (enm w) (k+1)) ⟨(("startpos":Str),.int s.length)::eσ4 a b s,some (true,.str s::l)⟩ (e5 1)=some (.next,⟨(("startpos":Str),.int s.length)::eσ4 a b s,some (true,l)⟩):=by
    rw [e_51]
    exact s1_Del (l:=.str s::l) (j:=0) (k:=0) (by kernel_rfl!) rfl (by kernel_rfl!) (by simp [seqIndex?];try lia) (by
      have:Nat.ble (D.str s::l).length 99999=true:=Nat.ble_eq_true_of_le (by rw [List.length_cons];lia)
      rw [this];rfl)
  rw [x2_next (k:=k+1) (by kernel_rfl!) (by kernel_rfl!) h2]
  rfl
theorem e_s5 (k:Nat) {l:List D} {s:Str} (hs:s.length≤1000) (hl:l.length≤1000):st1 (eO w) "ws" (enm w) (exs2 (eO w) "ws" (enm w) (k+4)) ⟨eσ4 a b s,some (true,.str s::l)⟩ (eS 5) =
    if neS s&&!(begS b s) then some (.ret (.bool false),⟨eσ4 a b s,some (true,.str s::l)⟩) else some (.next,⟨eσ5 a b s,some (true,fr5 s l)⟩):=by
  rw [e_if5]
  have ht:tr2 (eO w) (enm w) "ws" ⟨eσ4 a b s,some (true,.str s::l)⟩ (ifT (eS 5))=some (neS s):=by
    rw [e_tw 5 (.inl rfl)]
    exact tr2_of (g:=⟨eσ4 a b s,some (true,.str s::l)⟩) (tr_str (by kernel_rfl!) hs)
  rw [s1_If ht]
  cases hn:neS s with
  | false =>
    rw [if_neg (by simp),if_neg (by simp)]
    unfold eσ5 fr5
    rw [hn];rfl
  | true =>
    rw [if_pos rfl,e_b5]
    have hi:st1 (eO w) "ws" (enm w) (exs2 (eO w) "ws" (enm w) (k+3)) ⟨eσ4 a b s,some (true,.str s::l)⟩ (eI 5)=if (true&&!(begS b s))=true then some (.ret (.bool false),⟨eσ4 a b s,some (true,.str s::l)⟩) else some (.next,⟨eσ5 a b s,some (true,fr5 s l)⟩):=by
      rw [e_i5,s1_If (tr2_of (g:=⟨eσ4 a b s,some (true,.str s::l)⟩) (e_u5 w a b l s))]
      cases hb:begS b s with
      | false=>rw [if_neg (by simp),if_pos (by simp)];exact e_w5 w a b (k+2) _ s
      | true =>
        rw [if_pos rfl,if_neg (by simp)]
        have:fr5 s l=l:=by unfold fr5;rw [if_pos hn]
        rw [this]
        exact e_v5 w a b k hs hl hn
    cases hb:begS b s with
    | false =>
      rw [hb] at hi
      rw [x2_ret (k:=k+3) (by kernel_rfl!) (by kernel_rfl!) (hi.trans (if_pos rfl)),if_pos (by simp)]
    | true =>
      rw [hb] at hi
      rw [x2_next (k:=k+3) (by kernel_rfl!) (by kernel_rfl!) (hi.trans (if_neg (by simp))),if_neg (by simp)]
      rfl
end
end
section
section
variable (w:World) (a b:Str)
noncomputable def shp (c:Bool) (a b s:Str) (sp ep:Int):List (Str × D):=match c with
  | true=>(("startpos":Str),.int sp)::(("w":Str),.str s)::(("startpos":Str),.int 0)::(("endpos":Str),.int ep)::eσ0 a b
  | false=>(("w":Str),.str s)::(("startpos":Str),.int sp)::(("endpos":Str),.int ep)::eσ0 a b
noncomputable def shp7 (c d:Bool) (a b s t:Str) (sp ep:Int):List (Str × D):=match d with
  | true=>(("endpos":Str),.int ep)::(("w":Str),.str t)::shp c a b s sp b.length
  | false=>(("w":Str),.str t)::shp c a b s sp ep
noncomputable abbrev eσ6 (c:Bool) (a b s t:Str) (sp:Int):List (Str × D):=(("w":Str),.str t)::shp c a b s sp b.length
theorem e_s6 {c:Bool} {s t:Str} {sp:Int} {l:List D} (rec:eRec):st1 (eO w) "ws" (enm w) rec ⟨shp c a b s sp b.length,some (true,l++[D.str t])⟩ (eS 6)=some (.next,⟨eσ6 c a b s t sp,some (true,l++[D.str t])⟩):=by
  cases c <;>
  · rw [e_a6]
    refine s1_Asg (by kernel_rfl!) (by kernel_rfl!) (ev2_own (l:=l++[D.str t]) (p:=true) (by kernel_rfl!) rfl ?_ rfl)
    rw [e_x6]
    exact ev_idxU rfl (x:=.list (l++[D.str t])) (by kernel_rfl!) (y:=.int (-1)) (by kernel_rfl!) rfl (idx_last l _)
theorem e_u7 (c:Bool) (s t:Str) (sp:Int):(eO w).tr ⟨enm w,eσ6 c a b s t sp⟩ (ifT (eI 7))=some (endS b t):=by cases c<;>kernel_rfl!
theorem e_w7 (k:Nat) (c:Bool) (s t:Str) (sp:Int) (l:List D):exs2 (eO w) "ws" (enm w) (k+1) ⟨eσ6 c a b s t sp,some (true,l)⟩ (ifE (eI 7))=some (.ret (.bool false),⟨eσ6 c a b s t sp,some (true,l)⟩):=by cases c<;>kernel_rfl!
theorem e_v7 (k:Nat) {c:Bool} {s t:Str} {sp:Int} {l:List D} (hs:t.length≤1000) (hl:l.length≤1000):exs2 (eO w) "ws" (enm w) (k+3) ⟨eσ6 c a b s t sp,some (true,l++[D.str t])⟩ (ifB (eI 7))=some (.next,⟨shp7 c true a b s t sp (b.length - t.length),some (true,l)⟩):=by
  have h1:st1 (eO w) "ws" (enm w) (exs2 (eO w) "ws" (enm w) (k+2)) ⟨eσ6 c a b s t sp,some (true,l++[D.str t])⟩ (e7 0)=some (.next,⟨(("endpos":Str),.int (b.length - t.length))::eσ6 c a b s t sp,some (true,l++[D.str t])⟩):=by
    have hx:=ev_len (w:=w) (m:=8) (c:=⟨enm w,eσ6 c a b s t sp⟩) (n:="w") (p:=nmP (callF (augX (e7 0)))) (q:=nmP (callA (augX (e7 0)))) (pos:=callP (augX (e7 0))) (by cases c<;>kernel_rfl!) (x:=.str t) (by kernel_rfl!) (len_str hs)
    rw [e_70]
    exact s1_AugN (op:=.Sub) (i:=b.length) (j:=t.length) (z:=b.length - t.length) (g:=⟨eσ6 c a b s t sp,some (true,l++[D.str t])⟩) (by kernel_rfl!) (by cases c<;>kernel_rfl!) (ev2_of (g:=⟨eσ6 c a b s t sp,some (true,l++[D.str t])⟩) hx) (by kernel_rfl!)
  have h2:st1 (eO w) "ws" (enm w) (exs2 (eO w) "ws" (enm w) (k+1)) ⟨(("endpos":Str),.int (b.length - t.length))::eσ6 c a b s t sp,some (true,l++[D.str t])⟩ (e7 1)=some (.next,⟨(("endpos":Str),.int (b.length - t.length))::eσ6 c a b s t sp,some (true,l)⟩):=by
    rw [e_71]
    refine (s1_Del (p:=nmP (subV (delT (e7 1)))) (i:=subE (delT (e7 1))) (tp:=subP (delT (e7 1))) (pos:=delP (e7 1)) (g:=⟨(("endpos":Str),.int (b.length - t.length))::eσ6 c a b s t sp,some (true,l++[D.str t])⟩) (l:=l++[D.str t]) (j:=-1) (k:=l.length) (by kernel_rfl!) rfl (by cases c<;>kernel_rfl!) (by simp [seqIndex?];try lia) (by
      have:Nat.ble (l++[D.str t]).length 99999=true:=Nat.ble_eq_true_of_le (by rw [List.length_append,List.length_singleton];lia)
      rw [this];rfl)).trans ?_
    rw [List.eraseIdx_append_of_length_le (Nat.le_refl _)]
    simp
  rw [e_b77,x2_next (k:=k+2) (by kernel_rfl!) (by kernel_rfl!) h1,x2_next (k:=k+1) (by kernel_rfl!) (by kernel_rfl!) h2]
  rfl
noncomputable def ep7 (b t:Str):Int:=if neS t then b.length - t.length else b.length
noncomputable def bk7 (t:Str) (l:List D):List D:=if neS t then l else l++[D.str t]
theorem e_s7 (k:Nat) {c:Bool} {s t:Str} {sp:Int} {l:List D} (hs:t.length≤1000) (hl:l.length≤1000):st1 (eO w) "ws" (enm w) (exs2 (eO w) "ws" (enm w) (k+4)) ⟨eσ6 c a b s t sp,some (true,l++[D.str t])⟩ (eS 7) =
    if neS t&&!(endS b t) then some (.ret (.bool false),⟨eσ6 c a b s t sp,some (true,l++[D.str t])⟩) else some (.next,⟨shp7 c (neS t) a b s t sp (ep7 b t),some (true,bk7 t l)⟩):=by
  rw [e_if7]
  have ht:tr2 (eO w) (enm w) "ws" ⟨eσ6 c a b s t sp,some (true,l++[D.str t])⟩ (ifT (eS 7))=some (neS t):=by
    rw [e_tw 7 (.inr rfl)]
    exact tr2_of (g:=⟨eσ6 c a b s t sp,some (true,l++[D.str t])⟩) (tr_str (w:=w) (ct:=ct0) (X:=X0) (m:=8) (c:=⟨enm w,eσ6 c a b s t sp⟩) (n:="w") (p:=nmP (ifT (eS 7))) (by kernel_rfl!) hs)
  rw [s1_If ht]
  unfold ep7 bk7
  cases hn:neS t with
  | false=>rw [if_neg (by simp),if_neg (by simp),if_neg (by simp),if_neg (by simp)];rfl
  | true =>
    rw [if_pos rfl,if_pos rfl,if_pos rfl,e_b7]
    have hi:st1 (eO w) "ws" (enm w) (exs2 (eO w) "ws" (enm w) (k+3)) ⟨eσ6 c a b s t sp,some (true,l++[D.str t])⟩ (eI 7)=if (true&&!(endS b t))=true then some (.ret (.bool false),⟨eσ6 c a b s t sp,some (true,l++[D.str t])⟩) else some (.next,⟨shp7 c true a b s t sp (b.length - t.length),some (true,l)⟩):=by
      rw [e_i7,s1_If (tr2_of (on:="ws") (g:=⟨eσ6 c a b s t sp,some (true,l++[D.str t])⟩) (e_u7 w a b c s t sp))]
      cases hb:endS b t with
      | false=>rw [if_neg (by simp),if_pos (by simp)];exact e_w7 w a b (k+2) c s t sp _
      | true=>rw [if_pos rfl,if_neg (by simp)];exact e_v7 w a b k hs hl
    cases hb:endS b t with
    | false =>
      rw [hb] at hi
      rw [x2_ret (k:=k+3) (by kernel_rfl!) (by kernel_rfl!) (hi.trans (if_pos rfl)),if_pos (by simp)]
    | true =>
      rw [hb] at hi
      rw [x2_next (k:=k+3) (by kernel_rfl!) (by kernel_rfl!) (hi.trans (if_neg (by simp))),if_neg (by simp)]
      rfl
theorem e_u8 (c d:Bool) (s t:Str) (sp ep:Int):(eO w).tr ⟨enm w,shp7 c d a b s t sp ep⟩ (ifT (eS 8))=some (decide (sp > ep)):=by cases c<;>cases d<;>kernel_rfl!
theorem e_w8 (k:Nat) (g:Sg):exs2 (eO w) "ws" (enm w) (k+1) g (ifB (eS 8))=some (.ret (.bool false),g):=by
  obtain ⟨σ,o⟩:=g
  cases o with
  | none=>kernel_rfl!
  | some x=>obtain ⟨p,l⟩:=x;kernel_rfl!
theorem e_s8 (k:Nat) (c d:Bool) (s t:Str) (sp ep:Int) (l:List D):st1 (eO w) "ws" (enm w) (exs2 (eO w) "ws" (enm w) (k+1)) ⟨shp7 c d a b s t sp ep,some (true,l)⟩ (eS 8) =
    if sp > ep then some (.ret (.bool false),⟨shp7 c d a b s t sp ep,some (true,l)⟩) else some (.next,⟨shp7 c d a b s t sp ep,some (true,l)⟩):=by
  rw [e_if8,s1_If (tr2_of (on:="ws") (g:=⟨shp7 c d a b s t sp ep,some (true,l)⟩) (e_u8 w a b c d s t sp ep))]
  by_cases h:sp > ep
  · rw [decide_eq_true h,if_pos rfl,if_pos h];exact e_w8 w k _
  · rw [decide_eq_false h,if_neg (by simp),if_neg h];rfl
noncomputable def lσ (q:Option (Bool × Bool)) (a b s t:Str) (sp ep:Int) (l:List D):List (Str × D):=match q with
  | none=>[(("startpos":Str),.int sp),(("w":Str),.str s),(("ws":Str),.list l),(("endpos":Str),.int ep),(("want":Str),.str a),(("got":Str),.str b)]
  | some (c,d)=>(("ws":Str),.list l)::shp7 c d a b s t sp ep
theorem e_l0:eL 0=.Assign [.Name "startpos" (nmP (asgT (eL 0)))] (asgX (eL 0)) (posS (eL 0)):=by kernel_rfl!
theorem e_l2:eL 2=.AugAssign (.Name "startpos" (nmP (augT (eL 2)))) .Add (lenE (nmP (callF (augX (eL 2)))) (nmP (callA (augX (eL 2)))) (callP (augX (eL 2))) "w") (posS (eL 2)):=by kernel_rfl!
section
variable (q:Option (Bool × Bool)) (s t x:Str) (sp ep:Int) (l:List D)
theorem e_f0:(eO w).ev ⟨enm w,(("w":Str),.str x)::lσ q a b s t sp ep l⟩ (asgX (eL 0))=some (.int (findAt b x sp ep)):=by
  rcases q with _|⟨c,d⟩
  · kernel_rfl!
  · cases c<;>cases d<;>kernel_rfl!
theorem e_f1 (i:Int) (σ:List (Str × D)):(eO w).tr ⟨enm w,(("startpos":Str),.int i)::σ⟩ (ifT (eL 1))=some (decide (i<0)):=by kernel_rfl!
theorem e_g1 (k:Nat) (σ:List (Str × D)):exs2 (eO w) "ws" (enm w) (k+1) ⟨σ,none⟩ (ifB (eL 1))=some (.ret (.bool false),⟨σ,none⟩):=by kernel_rfl!
theorem e_turn (k:Nat) (hx:x.length≤1000):exs2 (eO w) "ws" (enm w) (k+4) ⟨(("w":Str),.str x)::lσ q a b s t sp ep l,none⟩ (forB (eS 9)) =
    if findAt b x sp ep<0 then some (.ret (.bool false),⟨(("startpos":Str),.int (findAt b x sp ep))::(("w":Str),.str x)::lσ q a b s t sp ep l,none⟩)
    else some (.next,⟨(("startpos":Str),.int (findAt b x sp ep+x.length))::(("startpos":Str),.int (findAt b x sp ep))::(("w":Str),.str x)::lσ q a b s t sp ep l,none⟩):=by
  rw [e_body]
  have h0:st1 (eO w) "ws" (enm w) (exs2 (eO w) "ws" (enm w) (k+3)) ⟨(("w":Str),.str x)::lσ q a b s t sp ep l,none⟩ (eL 0)=some (.next,⟨(("startpos":Str),.int (findAt b x sp ep))::(("w":Str),.str x)::lσ q a b s t sp ep l,none⟩):=by
    rw [e_l0]
    exact s1_Asg (by kernel_rfl!) (by kernel_rfl!) (ev2_of (g:=⟨(("w":Str),.str x)::lσ q a b s t sp ep l,none⟩) (e_f0 w a b q s t x sp ep l))
  rw [x2_next (k:=k+3) (by kernel_rfl!) (by kernel_rfl!) h0]
  have h1:=s1_If (on:="ws") (rec:=exs2 (eO w) "ws" (enm w) (k+2)) (b:=ifB (eL 1)) (e:=[]) (p:=ifP (eL 1)) (tr2_of (on:="ws") (g:=⟨(("startpos":Str),.int (findAt b x sp ep))::(("w":Str),.str x)::lσ q a b s t sp ep l,none⟩) (e_f1 w (findAt b x sp ep) ((("w":Str),.str x)::lσ q a b s t sp ep l)))
  rw [← e_l1] at h1
  by_cases h:findAt b x sp ep<0
  · rw [if_pos h]
    rw [decide_eq_true h,if_pos rfl,e_g1] at h1
    exact x2_ret (k:=k+2) (by kernel_rfl!) (by kernel_rfl!) h1
  · rw [if_neg h]
    rw [decide_eq_false h,if_neg (by simp)] at h1
    rw [x2_next (k:=k+2) (by kernel_rfl!) (by kernel_rfl!) (h1.trans rfl)]
    have h2:st1 (eO w) "ws" (enm w) (exs2 (eO w) "ws" (enm w) (k+1)) ⟨(("startpos":Str),.int (findAt b x sp ep))::(("w":Str),.str x)::lσ q a b s t sp ep l,none⟩ (eL 2)=some (.next,⟨(("startpos":Str),.int (findAt b x sp ep+x.length))::(("startpos":Str),.int (findAt b x sp ep))::(("w":Str),.str x)::lσ q a b s t sp ep l,none⟩):=by
      rw [e_l2]
      exact s1_AugN (i:=findAt b x sp ep) (j:=x.length) (by kernel_rfl!) (by kernel_rfl!) (ev2_of (g:=⟨(("startpos":Str),.int (findAt b x sp ep))::(("w":Str),.str x)::lσ q a b s t sp ep l,none⟩) (ev_len (by kernel_rfl!) (x:=.str x) (by kernel_rfl!) (len_str hx))) rfl
    rw [x2_next (k:=k+1) (by kernel_rfl!) (by kernel_rfl!) h2]
    rfl
theorem e_ded (i j:Int):ded ((("startpos":Str),.int j)::(("startpos":Str),.int i)::(("w":Str),.str x)::lσ q a b s t sp ep l)=lσ none a b x t j ep l:=by
  rcases q with _|⟨c,d⟩
  · kernel_rfl!
  · cases c<;>cases d<;>kernel_rfl!
end
noncomputable def loopE (got:Str):List Str→Int→Int→Bool
  | [],_,_=>true
  | x::xs,sp,ep=>if findAt got x sp ep<0 then false else loopE got xs (findAt got x sp ep+x.length) ep
theorem e_loop (k:Nat) (t:Str) (ep:Int) (l:List D):∀ (xs:List Str) (q:Option (Bool × Bool)) (s:Str) (sp:Int),(∀ x∈xs,x.length≤1000) →
    ∃ σ',forD (fun g=>(tgNames (forT (eS 9))).all (mayStoreN (enm w) "ws" g)) (forT (eS 9)) (fun g=>exs2 (eO w) "ws" (enm w) (k+4) g (forB (eS 9))) (xs.map .str) ⟨lσ q a b s t sp ep l,none⟩=some (if loopE b xs sp ep then .next else .ret (.bool false),⟨σ',none⟩)
  | [],q,s,sp,_=>⟨_,rfl⟩
  | x::xs,q,s,sp,hx=>by
    have ht:=e_turn w a b q s t x sp ep l k (hx x List.mem_cons_self)
    by_cases h:findAt b x sp ep<0
    · refine ⟨(("startpos":Str),.int (findAt b x sp ep))::(("w":Str),.str x)::lσ q a b s t sp ep l,?_⟩
      rw [List.map_cons]
      show (if (tgNames (forT (eS 9))).all (mayStoreN (enm w) "ws" ⟨lσ q a b s t sp ep l,none⟩) then (match bindT (forT (eS 9)) (.str x) (lσ q a b s t sp ep l) with
        | none=>none
        | some σ1=>match exs2 (eO w) "ws" (enm w) (k+4) ⟨σ1,none⟩ (forB (eS 9)) with
          | some (.next,g2)=>forD (fun g=>(tgNames (forT (eS 9))).all (mayStoreN (enm w) "ws" g)) (forT (eS 9)) (fun g=>exs2 (eO w) "ws" (enm w) (k+4) g (forB (eS 9))) (xs.map .str) ⟨ded g2.σ,g2.own⟩
          | some (.ret d,g2)=>some (.ret d,g2)
          | none=>none) else none)=_
      rw [if_pos (by kernel_rfl!)]
      rw [show bindT (forT (eS 9)) (.str x) (lσ q a b s t sp ep l)=some ((("w":Str),.str x)::lσ q a b s t sp ep l) by kernel_rfl!]
      dsimp only
      show (match exs2 (eO w) "ws" (enm w) (k+4) ⟨(("w":Str),.str x)::lσ q a b s t sp ep l,none⟩ (forB (eS 9)) with
        | some (.next,g2)=>forD (fun g=>(tgNames (forT (eS 9))).all (mayStoreN (enm w) "ws" g)) (forT (eS 9)) (fun g=>exs2 (eO w) "ws" (enm w) (k+4) g (forB (eS 9))) (xs.map .str) ⟨ded g2.σ,g2.own⟩
        | some (.ret d,g2)=>some (.ret d,g2)
        | none=>none)=_
      rw [ht,if_pos h]
      have:loopE b (x::xs) sp ep=false:=by unfold loopE;rw [if_pos h]
      rw [this]
      rfl
    · obtain ⟨σ',e⟩:=e_loop k t ep l xs none x (findAt b x sp ep+x.length) fun y hy=>hx y (List.mem_cons_of_mem _ hy)
      refine ⟨σ',?_⟩
      have:loopE b (x::xs) sp ep=loopE b xs (findAt b x sp ep+x.length) ep:=by
        show (if findAt b x sp ep<0 then _ else _)=_
        rw [if_neg h]
      rw [this,← e,List.map_cons]
      rw [forD_cons (d:=.str x) (g:=⟨lσ q a b s t sp ep l,none⟩) (σ1:=(("w":Str),.str x)::lσ q a b s t sp ep l) (by kernel_rfl!) (by kernel_rfl!) (ht.trans (if_neg h)),e_ded]
end
end
section
noncomputable def msE (w0:Str) (mid:List Str) (wl:Str):List Str:=(if neS w0 then [] else [w0])++(mid++(if neS wl then [] else [wl]))
noncomputable def ellP (got w0:Str) (mid:List Str) (wl:Str):Bool :=
  if neS w0&&!(begS got w0) then false else if neS wl&&!(endS got wl) then false else if sp5 w0 > ep7 got wl then false else loopE got (msE w0 mid wl) (sp5 w0) (ep7 got wl)
theorem eσ5_shp (a b s:Str):eσ5 a b s=shp (neS s) a b s (sp5 s) b.length:=by
  unfold eσ5 sp5
  cases neS s<;>rfl
theorem lists_eq (w0 wl:Str) (mid:List Str):bk7 wl (fr5 w0 (mid.map D.str))=(msE w0 mid wl).map D.str:=by
  unfold bk7 fr5 msE
  cases neS w0<;>cases neS wl<;>simp
theorem fr5_app (s:Str) (l:List D) (x:D):fr5 s (l++[x])=fr5 s l++[x]:=by
  unfold fr5
  cases neS s<;>simp
theorem fr5_len (s:Str) (l:List D):(fr5 s l).length≤l.length+1:=by
  unfold fr5
  split<;>simp
section
variable (w:World) (a b:Str)
theorem e_r00 (k:Nat):exs2 (eO w) "ws" (enm w) (k+1) ⟨eσ0 a b,none⟩ (ifB (eS 0))=some (.ret (.bool (a==b)),⟨eσ0 a b,none⟩):=by kernel_rfl!
theorem run_plain (h:hasS a dotS=false):∃ g,exs2 (eO w) "ws" (enm w) 20 ⟨eσ0 a b,none⟩ (fdB (stm 3))=some (.ret (.bool (a==b)),g):=by
  rw [e_parts]
  have h1:=s1_If (on:="ws") (rec:=exs2 (eO w) "ws" (enm w) 19) (b:=ifB (eS 0)) (e:=[]) (p:=ifP (eS 0)) (e_t0 w a b)
  rw [← e_if0,h,Bool.not_false,if_pos rfl,e_r00 w a b 18] at h1
  exact ⟨_,x2_ret (k:=19) (by kernel_rfl!) (by kernel_rfl!) h1⟩
theorem retO (d:D) (g:Sg):retOnly (some (.ret d,g))=some (.ret d,g):=rfl
theorem run_parts {w0 wl:Str} {mid:List Str} (h:hasS a dotS=true) (hs:splitD a dotS=some ((w0::(mid++[wl])).map .str)) (hb:b.length≤1000) (hm:mid.length≤900) (h0:w0.length≤1000) (hl:wl.length≤1000) (hx:∀ x∈mid,x.length≤1000) :
    ∃ g,exs2 (eO w) "ws" (enm w) 20 ⟨eσ0 a b,none⟩ (fdB (stm 3))=some (.ret (.bool (ellP b w0 mid wl)),g):=by
  rw [e_parts]
  have h1:=s1_If (on:="ws") (rec:=exs2 (eO w) "ws" (enm w) 19) (b:=ifB (eS 0)) (e:=[]) (p:=ifP (eS 0)) (e_t0 w a b)
  rw [← e_if0,h,Bool.not_true,if_neg (by simp)] at h1
  rw [x2_next (k:=19) (by kernel_rfl!) (by kernel_rfl!) (h1.trans rfl)]
  have hL:(w0::(mid++[wl])).map D.str=.str w0::(mid.map D.str++[D.str wl]):=by simp
  rw [hL] at hs
  have h2:allocAt (eO w) "ws" (enm w) ⟨eσ0 a b,none⟩ (eS 1)=some (.str w0::(mid.map D.str++[D.str wl])):=(e_s1 w a b).trans hs
  rw [x2_alloc (k:=18) (by kernel_rfl!) h2]
  have hlen:(mid.map D.str++[D.str wl]).length≤1000:=by simp;lia
  rw [x2_next (k:=17) (by kernel_rfl!) (by kernel_rfl!) (e_s2 w a b (by simp;lia) (by simp) _)]
  rw [x2_next (k:=16) (by kernel_rfl!) (by kernel_rfl!) (e_s3 w a b hb _)]
  rw [x2_next (k:=15) (by kernel_rfl!) (by kernel_rfl!) (e_s4 w a b _)]
  have h5:=e_s5 w a b 10 (l:=mid.map D.str++[D.str wl]) h0 hlen
  unfold ellP
  by_cases c0:(neS w0&&!(begS b w0))=true
  · rw [if_pos c0] at h5 ⊢
    rw [x2_ret (k:=14) (by kernel_rfl!) (by kernel_rfl!) h5]
    exact ⟨_,rfl⟩
  rw [if_neg c0] at h5 ⊢
  rw [x2_next (k:=14) (by kernel_rfl!) (by kernel_rfl!) h5,eσ5_shp,fr5_app]
  rw [x2_next (k:=13) (by kernel_rfl!) (by kernel_rfl!) (e_s6 w a b _)]
  have h7:=e_s7 w a b 8 (c:=neS w0) (s:=w0) (t:=wl) (sp:=sp5 w0) (l:=fr5 w0 (mid.map D.str)) hl (by have:=fr5_len w0 (mid.map D.str);rw [List.length_map] at this;lia)
  by_cases c1:(neS wl&&!(endS b wl))=true
  · rw [if_pos c1] at h7 ⊢
    rw [x2_ret (k:=12) (by kernel_rfl!) (by kernel_rfl!) h7]
    exact ⟨_,rfl⟩
  rw [if_neg c1] at h7 ⊢
  rw [x2_next (k:=12) (by kernel_rfl!) (by kernel_rfl!) h7,lists_eq]
  have h8:=e_s8 w a b 10 (neS w0) (neS wl) w0 wl (sp5 w0) (ep7 b wl) ((msE w0 mid wl).map D.str)
  by_cases c2:sp5 w0 > ep7 b wl
  · rw [if_pos c2] at h8 ⊢
    rw [x2_ret (k:=11) (by kernel_rfl!) (by kernel_rfl!) h8]
    exact ⟨_,rfl⟩
  rw [if_neg c2] at h8 ⊢
  rw [x2_next (k:=11) (by kernel_rfl!) (by kernel_rfl!) h8]
  rw [x2_freeze (k:=10) (l:=(msE w0 mid wl).map D.str) (by kernel_rfl!)]
  have hms:∀ x∈msE w0 mid wl,x.length≤1000:=fun x m=>by
    unfold msE at m
    rcases List.mem_append.1 m with m|m
    · split at m
      · cases m
      · rw [List.mem_singleton.1 m];exact h0
    · rcases List.mem_append.1 m with m|m
      · exact hx x m
      · split at m
        · cases m
        · rw [List.mem_singleton.1 m];exact hl
  obtain ⟨σ',hloop⟩:=e_loop w a b 5 wl (ep7 b wl) ((msE w0 mid wl).map D.str) (msE w0 mid wl) (some (neS w0,neS wl)) w0 (sp5 w0) hms
  have hsrc:srcD (eO w) ⟨enm w,lσ (some (neS w0,neS wl)) a b w0 wl (sp5 w0) (ep7 b wl) ((msE w0 mid wl).map D.str)⟩ (forI (eS 9))=some ((msE w0 mid wl).map D.str,tgAny):=by
    generalize (msE w0 mid wl).map D.str=l
    generalize ep7 b wl=ep
    generalize sp5 w0=sp
    cases neS w0<;>cases neS wl<;>kernel_rfl!
  have h9:=s1_For (on:="ws") (rec:=exs2 (eO w) "ws" (enm w) 9) (g:=⟨lσ (some (neS w0,neS wl)) a b w0 wl (sp5 w0) (ep7 b wl) ((msE w0 mid wl).map D.str),none⟩) (t:=forT (eS 9)) (body:=forB (eS 9)) (p:=posS (eS 9)) hsrc (by kernel_rfl!)
  rw [← e_for] at h9
  have h9:=h9.trans hloop
  show ∃ g,retOnly (retOnly (exs2 (eO w) "ws" (enm w) 10 ⟨lσ (some (neS w0,neS wl)) a b w0 wl (sp5 w0) (ep7 b wl) ((msE w0 mid wl).map D.str),none⟩ [eS 9,eS 10]))=_
  cases c3:loopE b (msE w0 mid wl) (sp5 w0) (ep7 b wl) with
  | false =>
    rw [c3,if_neg (by simp)] at h9
    rw [x2_ret (k:=9) (by kernel_rfl!) (by kernel_rfl!) h9]
    exact ⟨_,rfl⟩
  | true =>
    rw [c3,if_pos rfl] at h9
    rw [x2_next (k:=9) (by kernel_rfl!) (by kernel_rfl!) h9]
    rw [show exs2 (eO w) "ws" (enm w) 9 ⟨σ',none⟩ [eS 10]=some (.ret (.bool true),⟨σ',none⟩) by kernel_rfl!]
    exact ⟨_,rfl⟩
end
theorem ell_parts (w:World) (n:Nat) {a b w0 wl:Str} {mid:List Str} (h:hasS a dotS=true) (hs:splitD a dotS=some ((w0::(mid++[wl])).map .str)) (hb:b.length≤1000) (hm:mid.length≤900) (h0:w0.length≤1000) (hl:wl.length≤1000) (hx:∀ x∈mid,x.length≤1000) :
    Contract w (n+1) (.ref 45) [.str a,.str b] (.bool (ellP b w0 mid wl)):=by
  obtain ⟨g,e⟩:=run_parts w a b h hs hb hm h0 hl hx
  exact def_ok3 (ct:=ct0) (X:=X0) (m:=9) (k:=20) "ws" (defr_ell w) (fun f ds d h=>by cases h) (fun A _=>soundX0) rfl e
theorem ell_plain (w:World) (n:Nat) {a b:Str} (h:hasS a dotS=false):Contract w (n+1) (.ref 45) [.str a,.str b] (.bool (a==b)):=by
  obtain ⟨g,e⟩:=run_plain w a b h
  exact def_ok3 (ct:=ct0) (X:=X0) (m:=9) (k:=20) "ws" (defr_ell w) (fun f ds d h=>by cases h) (fun A _=>soundX0) rfl e
end
end Mine
end
section
open PySem PySem.W PyProof.Rows
open Builtin Builtin.Str
namespace Mine
section
noncomputable def ellB (a b:Str):Bool:=if hasS a dotS then (match Txt.split a dotS with
    | w0::r=>match r.reverse with
      | wl::m=>ellP b w0 m.reverse wl
      | []=>false
    | []=>false) else a==b
noncomputable def okE (a:Str):Bool:=!(hasS a dotS)||((splitD a dotS).isSome&&(match Txt.split a dotS with
    | w0::r=>!r.isEmpty&&Nat.ble r.length 900&&(w0::r).all fun x=>Nat.ble x.length 1000
    | []=>false))
theorem ell_ok (w:World) (n:Nat) {a b:Str} (h:okE a=true) (hb:b.length≤1000):Contract w (n+1) (.ref 45) [.str a,.str b] (.bool (ellB a b)):=by
  unfold ellB
  unfold okE at h
  cases hd:hasS a dotS with
  | false=>rw [if_neg (by simp)];exact ell_plain w n hd
  | true =>
    rw [hd,Bool.not_true,Bool.false_or,Bool.and_eq_true] at h
    obtain ⟨h1,h2⟩:=h
    rw [if_pos rfl]
    have hs:splitD a dotS=some ((Txt.split a dotS).map .str):=by
      unfold splitD at h1 ⊢
      split
      · rfl
      · rename_i hc;rw [if_neg hc] at h1;cases h1
    cases he:Txt.split a dotS with
    | nil=>rw [he] at h2;cases h2
    | cons w0 r =>
      rw [he] at h2 hs
      dsimp only at h2 ⊢
      simp only [Bool.and_eq_true,Bool.not_eq_true',List.all_cons] at h2
      obtain ⟨⟨hr,hl⟩,hw,ha⟩:=h2
      have hl:=Nat.le_of_ble_eq_true hl
      have hw:=Nat.le_of_ble_eq_true hw
      cases hrev:r.reverse with
      | nil=>rw [List.reverse_eq_nil_iff.1 hrev] at hr;cases hr
      | cons wl m =>
        have e:r=m.reverse++[wl]:=by rw [← List.reverse_reverse r,hrev,List.reverse_cons]
        have all:∀ x∈r,x.length≤1000:=fun x m=>Nat.le_of_ble_eq_true (List.all_eq_true.1 ha x m)
        rw [e] at hs all hl
        dsimp only
        refine ell_parts w n hd hs hb ?_ hw (all wl (by simp)) (fun x m=>all x (by simp at m ⊢;exact .inl m))
        simp at hl ⊢
        lia
noncomputable def ren (f:Nat→Nat) (x:Str):Str:=⟨x.cps.map f⟩
noncomputable def In (S:Nat→Prop) (x:Str):Prop:=∀ c∈x.cps.toList,S c
structure Inj (f:Nat→Nat) (S:Nat→Prop):Prop where
  inj:∀ c d,S c→S d→f c=f d→c=d
  dot:f 46=46
  sd:S 46
theorem map_inj {f:Nat→Nat} {S:Nat→Prop} (hf:∀ c d,S c→S d→f c=f d→c=d):∀ (l m:List Nat),(∀ c∈l,S c)→(∀ c∈m,S c)→(l.map f=m.map f↔l=m)
  | [],[],_,_=>by simp
  | [],_::_,_,_=>by simp
  | _::_,[],_,_=>by simp
  | a::l,b::m,h1,h2=>by
    rw [List.map_cons,List.map_cons,List.cons.injEq,List.cons.injEq,map_inj hf l m (fun c hc=>h1 c (List.mem_cons_of_mem _ hc)) (fun c hc=>h2 c (List.mem_cons_of_mem _ hc))]
    constructor
    · rintro ⟨e,r⟩;exact ⟨hf a b (h1 a List.mem_cons_self) (h2 b List.mem_cons_self) e,r⟩
    · rintro ⟨e,r⟩;exact ⟨by rw [e],r⟩
section
variable {f:Nat→Nat} {S:Nat→Prop} (H:Inj f S)
theorem len_ren (x:Str):(ren f x).length=x.length:=by show (x.cps.map f).size=x.cps.size;simp
theorem sub_ren (x:Str) (i j:Nat):strSub (ren f x) i j=ren f (strSub x i j):=by
  show Str.mk ((x.cps.map f).extract i j)=Str.mk ((x.cps.extract i j).map f)
  rw [Array.map_extract]
theorem In_sub {x:Str} (h:In S x) (i j:Nat):In S (strSub x i j):=fun c hc=>h c (by
  have hc:c∈(x.cps.extract i j).toList:=hc
  rw [Array.toList_extract,List.extract_eq_take_drop] at hc
  exact List.mem_of_mem_drop (List.mem_of_mem_take hc))
include H in
theorem arr_inj {A B:Array Nat} (h1:∀ c∈A.toList,S c) (h2:∀ c∈B.toList,S c):(A.map f==B.map f)=(A==B):=by
  rw [Bool.eq_iff_iff,beq_iff_eq,beq_iff_eq,← Array.toList_inj,Array.toList_map,Array.toList_map,map_inj H.inj _ _ h1 h2,Array.toList_inj]
include H in
theorem subAt_ren {x y:Str} (hx:In S x) (hy:In S y) (i:Nat):subAt (ren f x) (ren f y) i=subAt x y i:=by
  unfold subAt
  rw [len_ren]
  show ((x.cps.map f).extract i (i+y.length)==y.cps.map f)=_
  rw [← Array.map_extract]
  exact arr_inj H (In_sub hx i (i+y.length)) hy
include H in
theorem eq_ren {x y:Str} (hx:In S x) (hy:In S y):(ren f x==ren f y)=(x==y):=by
  have e:∀ (a b:Str),(a==b)=(a.cps==b.cps):=fun a b=>by
    rw [Bool.eq_iff_iff,beq_iff_eq,beq_iff_eq]
    constructor
    · intro e;rw [e]
    · intro e;cases a;cases b;cases e;rfl
  rw [e,e]
  exact arr_inj H hx hy
include H in
theorem occ_ren {x y:Str} (hx:In S x) (hy:In S y) (i j n:Nat):occurrences (ren f x) (ren f y) i j n=occurrences x y i j n:=by
  unfold occurrences
  simp only [len_ren,subAt_ren H hx hy]
include H in
theorem ren_dot:ren f dotS=dotS:=by
  show Str.mk (#[46,46,46].map f)=_
  simp [H.dot,dotS]
include H in
theorem In_dot:In S dotS:=fun c hc=>by
  have:c=46:=by simpa [dotS] using hc
  rw [this];exact H.sd
include H in
theorem hasS_ren {x y:Str} (hx:In S x) (hy:In S y):hasS (ren f x) (ren f y)=hasS x y:=by
  unfold hasS
  rw [occ_ren H hx hy,len_ren]
include H in
theorem hasD_ren {x:Str} (hx:In S x):hasS (ren f x) dotS=hasS x dotS:=by
  have:=hasS_ren H hx (In_dot H)
  rwa [ren_dot H] at this
include H in
theorem begS_ren {x y:Str} (hx:In S x) (hy:In S y):begS (ren f x) (ren f y)=begS x y:=by
  unfold begS
  rw [len_ren,len_ren,subAt_ren H hx hy]
include H in
theorem endS_ren {x y:Str} (hx:In S x) (hy:In S y):endS (ren f x) (ren f y)=endS x y:=by
  unfold endS
  rw [len_ren,len_ren,subAt_ren H hx hy]
theorem neS_ren (x:Str):neS (ren f x)=neS x:=by unfold neS;rw [len_ren]
theorem kind_dot (x:Str):decide (Builtin.Str.strKind x<Builtin.Str.strKind dotS)=false:=by
  have h:Builtin.Str.strKind dotS=1:=by decide +kernel
  rw [h]
  refine decide_eq_false fun hx=>?_
  unfold Builtin.Str.strKind at hx
  split at hx
  · lia
  · split at hx<;>lia
theorem parts_ren {x:Str} (l:List Nat) (n:Nat):partsBetween (ren f x) l n=(partsBetween x l n).map (ren f):=by
  unfold partsBetween
  simp only [len_ren,List.map_map]
  refine List.map_congr_left fun p _=>?_
  obtain ⟨i,j⟩:=p
  exact sub_ren x i j
include H in
theorem split_ren {x:Str} (hx:In S x):Txt.split (ren f x) dotS=(Txt.split x dotS).map (ren f):=by
  unfold Txt.split
  rw [kind_dot,kind_dot,len_ren]
  have:=fun n=>occ_ren H hx (In_dot H) 0 x.length n
  rw [ren_dot H] at this
  rw [this,parts_ren]
  split
  · rfl
  · split<;>rfl
theorem In_split {x:Str} (hx:In S x):∀ y∈Txt.split x dotS,In S y:=fun y hy=>by
  unfold Txt.split at hy
  split at hy
  · rw [List.mem_singleton.1 hy];exact hx
  · split at hy
    · rw [List.mem_singleton.1 hy];exact hx
    · unfold partsBetween at hy
      refine el12 (List.mem_map.1 hy) fun p _ q2q=>?_;subst q2q
      exact In_sub hx _ _
include H in
theorem find_ren {x y:Str} (hx:In S x) (hy:In S y) (i j:Int):findAt (ren f x) (ren f y) i j=findAt x y i j:=by
  unfold findAt
  rw [len_ren,occ_ren H hx hy]
include H in
theorem loopE_ren {got:Str} (hg:In S got):∀ (l:List Str) (sp ep:Int),(∀ x∈l,In S x)→loopE (ren f got) (l.map (ren f)) sp ep=loopE got l sp ep
  | [],_,_,_=>rfl
  | x::l,sp,ep,h=>by
    show (if findAt (ren f got) (ren f x) sp ep<0 then false else loopE (ren f got) (l.map (ren f)) (findAt (ren f got) (ren f x) sp ep+(ren f x).length) ep)=(if findAt got x sp ep<0 then false else loopE got l (findAt got x sp ep+x.length) ep)
    rw [find_ren H hg (h x List.mem_cons_self),len_ren,loopE_ren hg l _ _ fun y m=>h y (List.mem_cons_of_mem _ m)]
include H in
theorem ellP_ren {got w0 wl:Str} {mid:List Str} (hg:In S got) (h0:In S w0) (hl:In S wl) (hm:∀ x∈mid,In S x):ellP (ren f got) (ren f w0) (mid.map (ren f)) (ren f wl)=ellP got w0 mid wl:=by
  unfold ellP
  have e1:sp5 (ren f w0)=sp5 w0:=by unfold sp5;rw [neS_ren,len_ren]
  have e2:ep7 (ren f got) (ren f wl)=ep7 got wl:=by unfold ep7;rw [neS_ren,len_ren,len_ren]
  have e3:msE (ren f w0) (mid.map (ren f)) (ren f wl)=(msE w0 mid wl).map (ren f):=by
    unfold msE
    rw [neS_ren,neS_ren]
    cases neS w0<;>cases neS wl<;>simp
  rw [neS_ren,neS_ren,begS_ren H hg h0,endS_ren H hg hl,e1,e2,e3,loopE_ren H hg]
  intro x m
  unfold msE at m
  rcases List.mem_append.1 m with m|m
  · split at m
    · cases m
    · rw [List.mem_singleton.1 m];exact h0
  · rcases List.mem_append.1 m with m|m
    · exact hm x m
    · split at m
      · cases m
      · rw [List.mem_singleton.1 m];exact hl
include H in
theorem ellB_ren {a b:Str} (ha:In S a) (hb:In S b):ellB (ren f a) (ren f b)=ellB a b:=by
  unfold ellB
  rw [hasD_ren H ha,split_ren H ha,eq_ren H ha hb]
  have hin:=In_split ha
  split
  · cases he:Txt.split a dotS with
    | nil=>rfl
    | cons w0 r =>
      rw [he] at hin
      rw [List.map_cons]
      dsimp only
      rw [← List.map_reverse]
      cases hr:r.reverse with
      | nil=>rfl
      | cons wl m =>
        have hmem:∀ x,x∈wl::m→In S x:=fun x hx=>hin x (List.mem_cons_of_mem _ (List.mem_reverse.1 (hr▸hx)))
        rw [List.map_cons]
        dsimp only
        rw [← List.map_reverse]
        exact ellP_ren H hb (hin w0 List.mem_cons_self) (hmem wl List.mem_cons_self) fun x hx=>hmem x (List.mem_cons_of_mem _ (List.mem_reverse.1 hx))
  · rfl
include H in
theorem okE_ren {a:Str} (ha:In S a):okE (ren f a)=okE a:=by
  unfold okE
  rw [hasD_ren H ha,split_ren H ha]
  have e1:(splitD (ren f a) dotS).isSome=(splitD a dotS).isSome:=by
    unfold splitD
    have:=fun n=>occ_ren H ha (In_dot H) 0 a.length n
    rw [ren_dot H] at this
    rw [len_ren,this,parts_ren,List.length_map]
    split<;>rfl
  rw [e1]
  congr 2
  cases Txt.split a dotS with
  | nil=>rfl
  | cons w0 r =>
    rw [List.map_cons]
    dsimp only
    rw [← List.map_cons,List.all_map]
    simp [len_ren,Function.comp_def]
end
end
section
theorem occ_some (s sub:Str) (hi n:Nat):∀ (l:List Nat) (free:Nat),(∀ i∈l,free≤i)→(∃ i∈l,i+sub.length≤hi∧subAt s sub i=true) →
    (forIn l ((#[]:Array Nat),free) (StrLaws.occBody s sub hi (n+1))).run.fst≠#[]
  | [],_,_,⟨i,m,_⟩=>by cases m
  | a::l,free,hf,⟨i,m,h⟩=>by
    rw [List.forIn_cons]
    unfold StrLaws.occBody
    split
    · exact StrLaws.occ_grows s sub hi (n+1) l _ (by simp)
    · rename_i hc
      refine occ_some s sub hi n l free (fun i hi'=>hf i (List.mem_cons_of_mem _ hi')) ?_
      rcases List.mem_cons.1 m with e|m
      · subst e
        exact absurd ⟨⟨⟨by simp,hf _ List.mem_cons_self⟩,h.1⟩,h.2⟩ hc
      · exact ⟨i,m,h⟩
theorem okE_of {a:Str} (h:a.length≤800):okE a=true:=by
  unfold okE
  cases hd:hasS a dotS with
  | false=>rfl
  | true =>
    rw [Bool.not_true,Bool.false_or]
    refine el12 ((StrLaws.found_iff a dotS).1 hd) fun i h1 h2=>?_
    have hl3:dotS.length=3:=rfl
    have hne:occurrences a dotS 0 a.length (a.length+1)≠[]:=by
      rw [StrLaws.occ_eq]
      have:=occ_some a dotS a.length a.length (List.range' 0 (a.length+1 - 0)) 0 (fun _ _=>Nat.zero_le _) ⟨i,by simp [List.mem_range'];lia,h1,h2⟩
      intro e
      exact this (Array.toList_inj.1 (by simpa using e))
    have hle:=StrLaws.occ_length_le a dotS 0 a.length (a.length+1)
    have hsplit:Txt.split a dotS=partsBetween a (occurrences a dotS 0 a.length (a.length+1)) dotS.length:=by
      unfold Txt.split
      rw [kind_dot,if_neg (by simp;lia),if_neg (by simpa using hne)]
    generalize occurrences a dotS 0 a.length (a.length+1)=cuts at hne hle hsplit
    have hpl:(partsBetween a cuts dotS.length).length=cuts.length+1:=by unfold partsBetween;simp
    have hpm:∀ x∈partsBetween a cuts dotS.length,x.length≤a.length:=fun x hx=>by
      unfold partsBetween at hx
      refine el12 (List.mem_map.1 hx) fun p _ q2q=>?_;subst q2q
      show (a.cps.extract p.1 p.2).size≤a.cps.size
      simp
      lia
    rw [hsplit,Bool.and_eq_true]
    constructor
    · unfold splitD
      rw [if_pos]
      · rfl
      · rw [hl3,Nat.ble_eq_true_of_le (by rw [sizeLine_eq];lia)]
        have h5:(partsBetween a (occurrences a dotS 0 a.length (a.length+1)) dotS.length).length≤900:=by
          have:=StrLaws.occ_length_le a dotS 0 a.length (a.length+1)
          unfold partsBetween
          simp
          lia
        rw [hl3] at h5
        rw [Nat.ble_eq_true_of_le (by rw [sizeLine_eq];lia)];rfl
    · generalize partsBetween a cuts dotS.length=L at hpl hpm
      cases L with
      | nil=>simp at hpl
      | cons w0 r =>
        dsimp only
        have hr:r.length=cuts.length:=by simpa using hpl
        have hc:cuts.length≠0:=fun e=>hne (List.length_eq_zero_iff.1 e)
        have h1:r.isEmpty=false:=by cases r with|nil=>simp at hr;lia|cons _ _=>rfl
        rw [h1,Nat.ble_eq_true_of_le (by lia)]
        simp only [Bool.not_false,Bool.true_and]
        refine List.all_eq_true.2 fun x hx=>Nat.ble_eq_true_of_le ?_
        have:=hpm x hx
        lia
noncomputable def ctE:CT:=fun f ds=>(vRef f).bind fun k=>on2 ds fun a b=>(asStr a).bind fun a=>(asStr b).bind fun b=>if k==45&&(Nat.ble a.length 800&&Nat.ble b.length 800) then some (.bool (ellB a b)) else none
theorem vRef_eq {f:Value} {k:Addr} (h:vRef f=some k):f=.ref k:=by cases f<;>first|exact nope h|exact congrArg _ (Option.some.inj h)
theorem ctE_ok (w:World) (n:Nat) (f:Value) (ds:List D) (d:D) (h:ctE f ds=some d):Contract w (n+1) f ds d:=by
  refine bnd_e h fun k hk h=>on2_e ds h fun a b h=>bnd_e h fun x hx h=>bnd_e h fun y hy h=>if_e h fun hc h=>?_
  simp only [Bool.and_eq_true,beq_iff_eq] at hc
  rw [vRef_eq hk,asStr_g hx,asStr_g hy,← Option.some.inj h,hc.1]
  exact ell_ok w n (okE_of (Nat.le_of_ble_eq_true hc.2.1)) (Nat.le_trans (Nat.le_of_ble_eq_true hc.2.2) (by decide))
end
end Mine
end
section
open PySem PySem.W PyProof.Rows
namespace Mine
section
noncomputable def toS (i:Nat):Stmt:=(fdB (stm 71)).getD i (.Pass default)
noncomputable def tonm (w:World):List (Str × NameKind):=(fdAt w.params 286).scope.names
noncomputable abbrev toO (w:World):Ops:=ops2 w ctE X0 10
theorem to_parts:fdB (stm 71)=[toS 0,toS 1,toS 2,toS 3,toS 4]:=by kernel_rfl!
theorem to_a0:toS 0=.Assign [.Name "ends" (nmP (asgT (toS 0)))] (asgX (toS 0)) (posS (toS 0)):=by kernel_rfl!
theorem to_a1:toS 1=.Assign [.Name "last" (nmP (asgT (toS 1)))] (asgX (toS 1)) (posS (toS 1)):=by kernel_rfl!
theorem to_a2:toS 2=.Assign [.Name "first" (nmP (asgT (toS 2)))] (asgX (toS 2)) (posS (toS 2)):=by kernel_rfl!
theorem to_a3:toS 3=.Assign [.Name "whole" (nmP (asgT (toS 3)))] (asgX (toS 3)) (posS (toS 3)):=by kernel_rfl!
noncomputable def retP:Stmt→Pos | .Return _ p=>p|_=>default
theorem to_a4:toS 4=.Return (some (retX (toS 4))) (retP (toS 4)):=by kernel_rfl!
noncomputable def bXs:PySem.Expr→List PySem.Expr | .BoolOp _ l _=>l|_=>[]
noncomputable def bP:PySem.Expr→Pos | .BoolOp _ _ p=>p|_=>default
noncomputable def toB (i:Nat):PySem.Expr:=(bXs (retX (toS 4))).getD i (.Constant .none 0 default)
theorem to_b4:retX (toS 4)=.BoolOp .And [toB 0,toB 1,toB 2] (bP (retX (toS 4))):=by kernel_rfl!
noncomputable def toG (i:Nat):Comprehension:=(lcG (asgX (toS 0))).getD i ⟨.Constant .none 0 default,.Constant .none 0 default,[],0⟩
theorem to_lc:asgX (toS 0)=.ListComp (lcE (asgX (toS 0))) [toG 0,toG 1] (lcS (asgX (toS 0))) (lcP (asgX (toS 0))):=by kernel_rfl!
noncomputable def abcD:List D:=[.str ⟨#[97]⟩,.str ⟨#[98]⟩,.str ⟨#[99]⟩]
theorem loopD_ok {o:Ops} {nm:List (Str × NameKind)} {inn:List (Str × D)→Option (List D)} {g:Comprehension} {σ:List (Str × D)} {ds:List D} {tg:PySem.Expr→Bool} {n:Str} {l:List D} (h1:tgtN g.target=some n) (h2:(mineN nm n&&((σ.lookup n).isNone&&tg g.target))=true)
    (h:turnsD (turnD o nm inn g.ifs n σ) ds=some l):loopD o nm inn g σ ds tg=some l:=by
  unfold loopD
  rw [h1]
  dsimp only
  rw [if_pos h2]
  exact h
theorem turns3 {f:D→Option (List D)} {a b c:D} {x y z:List D} (h1:f a=some x) (h2:f b=some y) (h3:f c=some z):turnsD f [a,b,c]=some (x++(y++(z++[]))):=by
  simp only [turnsD,h1,h2,h3]
theorem turn_if {o:Ops} {nm:List (Str × NameKind)} {inn:List (Str × D)→Option (List D)} {t:PySem.Expr} {n:Str} {σ:List (Str × D)} {d:D} {b:Bool} {l:List D} (h:o.tr ⟨nm,(n,d)::σ⟩ t=some b) (hr:inn ((n,d)::σ)=some l) :
    turnD o nm inn [t] n σ d=some (if b then l else []):=by
  unfold turnD
  rw [tests_one h]
  cases b<;>simp [hr]
theorem tr_call {w:World} {ct:CT} {X:Extra} {m:Nat} {c:Cx} {f:PySem.Expr} {args:List PySem.Expr} {p:Pos} {b:Bool} (h:(ops2 w ct X m).ev c (.Call f args [] p)=some (.bool b)):(ops2 w ct X (m+1)).tr c (.Call f args [] p)=some b:=by
  show (if plainTest (.Call f args [] p) then ((ops2 w ct X m).ev c (.Call f args [] p)).bind fun d=>truthD d else none)=_
  rw [h];rfl
theorem ev_and3 {w:World} {ct:CT} {X:Extra} {m:Nat} {c:Cx} {x y z:PySem.Expr} {p:Pos} (hX:X (ops2 w ct X m) c (.BoolOp .And [x,y,z] p)=none) (h1:(ops2 w ct X m).ev c x=some (.bool true)) (h2:(ops2 w ct X m).ev c y=some (.bool true)) (h3:(ops2 w ct X m).ev c z=some (.bool true)) :
    (ops2 w ct X (m+1)).ev c (.BoolOp .And [x,y,z] p)=some (.bool true):=by
  refine ev_st rfl hX ?_
  show evB ((ops2 w ct X m).ev c) .And [x,y,z]=_
  have u:∀ {x y:PySem.Expr} {xs:List PySem.Expr},(ops2 w ct X m).ev c x=some (.bool true)→evB ((ops2 w ct X m).ev c) .And (x::y::xs)=evB ((ops2 w ct X m).ev c) .And (y::xs):=fun {x y xs} h=>by
    show ((ops2 w ct X m).ev c x).bind _=_
    rw [h];rfl
  rw [u h1,u h2]
  exact h3
noncomputable def wantS (x y:Nat):Str:=⟨#[97+x,46,46,46,97+y]⟩
noncomputable def endD (p q x y:Nat):List D:=if x==p&&y==q then [.str ⟨#[97+x,97+y]⟩] else []
noncomputable abbrev tonmC:List (Str × NameKind):=(lcS (asgX (toS 0))).names
noncomputable def toT:PySem.Expr:=(toG 1).ifs.getD 0 (.Constant .none 0 default)
theorem to_ifs:(toG 1).ifs=[toT]:=by kernel_rfl!
noncomputable def ends9 (p q:Nat):List D:=(endD p q 0 0++(endD p q 0 1++(endD p q 0 2++[])))++((endD p q 1 0++(endD p q 1 1++(endD p q 1 2++[])))++((endD p q 2 0++(endD p q 2 1++(endD p q 2 2++[])))++[]))
theorem ends_is:∀ p q,p<3→q<3→ends9 p q=[.str ⟨#[97+p,97+q]⟩]
  | 0,0,_,_|0,1,_,_|0,2,_,_|1,0,_,_|1,1,_,_|1,2,_,_|2,0,_,_|2,1,_,_|2,2,_,_=>rfl
  | _+3,_,h,_=>by lia
  | 0,_+3,_,h=>by lia
  | 1,_+3,_,h=>by lia
  | 2,_+3,_,h=>by lia
theorem to_call:toT=.Call (callF toT) (callAs toT) [] (callP toT):=by kernel_rfl!
theorem lt3 {p:Nat} (h:p<3):p=0∨p=1∨p=2:=by lia
noncomputable abbrev toσ (P:Str):List (Str × D):=[("play",.str P)]
noncomputable abbrev toσ1 (P:Str) (p q:Nat):List (Str × D):=("ends",.list [.str ⟨#[97+p,97+q]⟩])::toσ P
noncomputable abbrev toσ2 (P:Str) (p q:Nat) (lv:Bool):List (Str × D):=("last",.bool lv)::toσ1 P p q
noncomputable abbrev toσ3 (P:Str) (p q:Nat) (lv fv:Bool):List (Str × D):=("first",.bool fv)::toσ2 P p q lv
noncomputable abbrev toσ4 (P:Str) (p q:Nat) (lv fv:Bool):List (Str × D):=("whole",.list [.bool true,.bool false,.bool false])::toσ3 P p q lv fv
noncomputable abbrev toσx (P:Str) (x:Nat):List (Str × D):=("one",.str ⟨#[97+x]⟩)::toσ P
noncomputable abbrev toσy (P:Str) (x y:Nat):List (Str × D):=("other",.str ⟨#[97+y]⟩)::toσx P x
noncomputable abbrev to9 (w:World):Ops:=ops2 w ctE X0 9
structure Told (P wl wf w2 w3 bl sl bf sf:Str) (p q:Nat) (lv fv:Bool):Prop where
  e:∀ x y,x<3→y<3→ellB (wantS x y) P=(x==p&&y==q)
  l:ellB wl P=lv
  f:ellB wf P=fv
  w1:ellB P P=true
  w2:ellB w2 P=false
  w3:ellB w3 P=false
  il:hasS bl sl=lv
  fl:hasS bf sf=fv
structure ToL (w:World) (P wl wf w2 w3 bl sl bf sf:Str) (p q:Nat):Prop where
  t:∀ x y,x<3→y<3→(ops2 w ctE X0 8).ev ⟨tonmC,toσy P x y⟩ toT=some (.bool (ellB (wantS x y) P))
  l:(toO w).ev ⟨tonm w,toσ1 P p q⟩ (asgX (toS 1))=some (.bool (ellB wl P))
  f:∀ lv,(toO w).ev ⟨tonm w,toσ2 P p q lv⟩ (asgX (toS 2))=some (.bool (ellB wf P))
  a:∀ lv fv,(toO w).ev ⟨tonm w,toσ3 P p q lv fv⟩ (asgX (toS 3))=some (.list [.bool (ellB P P),.bool (ellB w2 P),.bool (ellB w3 P)])
  r0:p<3→q<3→∀ lv fv,(to9 w).ev ⟨tonm w,toσ4 P p q lv fv⟩ (toB 0)=some (.bool true)
  r1:∀ lv fv,(to9 w).ev ⟨tonm w,toσ4 P p q lv fv⟩ (toB 1)=some (.bool ((lv==hasS bl sl)&&((fv==hasS bf sf)&&true)))
section
variable {w:World} {P wl wf w2 w3 bl sl bf sf:Str} {p q:Nat} {lv fv:Bool} (L:ToL w P wl wf w2 w3 bl sl bf sf p q) (H:Told P wl wf w2 w3 bl sl bf sf p q lv fv)
omit L H in
theorem to_elt:∀ x y,x<3→y<3→bodyD (to9 w) tonmC (lcE (asgX (toS 0))) [] (toσy P x y)=some [.str ⟨#[97+x,97+y]⟩]:=fun x y hx hy=>by
  rcases lt3 hx with rfl|rfl|rfl<;>rcases lt3 hy with rfl|rfl|rfl<;>kernel_rfl!
omit L H in
theorem to_src (x:Nat):srcD (to9 w) ⟨tonmC,toσx P x⟩ (toG 1).iter=some (abcD,tgName):=by kernel_rfl!
omit L H in
theorem to_r2:(to9 w).ev ⟨tonm w,toσ4 P p q lv fv⟩ (toB 2)=some (.bool true):=by kernel_rfl!
include L H
theorem to_inner (x:Nat) (hx:x<3):bodyD (to9 w) tonmC (lcE (asgX (toS 0))) [toG 1] (toσx P x)=some (endD p q x 0++(endD p q x 1++(endD p q x 2++[]))):=by
  show (match srcD (to9 w) ⟨tonmC,toσx P x⟩ (toG 1).iter with
    | some (ds,tg)=>loopD (to9 w) tonmC (bodyD (to9 w) tonmC (lcE (asgX (toS 0))) []) (toG 1) (toσx P x) ds tg
    | none=>none)=_
  rw [to_src]
  have one:∀ y,y<3→turnD (to9 w) tonmC (bodyD (to9 w) tonmC (lcE (asgX (toS 0))) []) (toG 1).ifs "other" (toσx P x) (.str ⟨#[97+y]⟩)=some (endD p q x y):=fun y hy=>by
    rw [to_ifs]
    have h:=L.t x y hx hy
    rw [H.e x y hx hy] at h
    refine turn_if (b:=x==p&&y==q) (l:=[.str ⟨#[97+x,97+y]⟩]) ?_ (to_elt x y hx hy)
    rw [to_call] at h ⊢
    exact tr_call h
  exact loopD_ok (n:="other") (by kernel_rfl!) (by kernel_rfl!) (turns3 (one 0 (by decide)) (one 1 (by decide)) (one 2 (by decide)))
theorem to_ends (hp:p<3) (hq:q<3):(toO w).ev ⟨tonm w,toσ P⟩ (asgX (toS 0))=some (.list [.str ⟨#[97+p,97+q]⟩]):=by
  have e:(toG 0).ifs=[]:=by kernel_rfl!
  have one:∀ x,x<3→turnD (to9 w) tonmC (bodyD (to9 w) tonmC (lcE (asgX (toS 0))) [toG 1]) (toG 0).ifs "one" (toσ P) (.str ⟨#[97+x]⟩)=some (endD p q x 0++(endD p q x 1++(endD p q x 2++[]))):=fun x hx=>by
    rw [e]
    exact to_inner L H x hx
  have t:=turns3 (one 0 (by decide)) (one 1 (by decide)) (one 2 (by decide))
  rw [show _++(_++(_++[]))=[.str ⟨#[97+p,97+q]⟩] from ends_is p q hp hq] at t
  rw [to_lc]
  exact ev_LC rfl (compL_of (by kernel_rfl!) (ds:=abcD) (tg:=tgName) (by kernel_rfl!) (loopD_ok (n:="one") (by kernel_rfl!) (by kernel_rfl!) t) (Nat.le_of_ble_eq_true rfl))
theorem told_ok (n:Nat) (hp:p<3) (hq:q<3):Contract w (n+2) (.ref 286) [.str P] (.bool true):=by
  refine def_ok3 (ct:=ctE) (X:=X0) (m:=10) (k:=10) (g':=⟨toσ4 P p q lv fv,none⟩) "" (defr_told w) (ctE_ok w n) (fun A _=>soundX0) rfl ?_
  show exs2 (toO w) "" (tonm w) 10 ⟨toσ P,none⟩ (fdB (stm 71))=_
  have h1:=L.l
  rw [H.l] at h1
  have h2:=L.f lv
  rw [H.f] at h2
  have h3:=L.a lv fv
  rw [H.w1,H.w2,H.w3] at h3
  have r1:=L.r1 lv fv
  rw [H.il,H.fl,show ((lv==lv)&&((fv==fv)&&true))=true by simp] at r1
  have h4:(toO w).ev ⟨tonm w,toσ4 P p q lv fv⟩ (retX (toS 4))=some (.bool true):=by
    rw [to_b4]
    exact ev_and3 rfl (L.r0 hp hq lv fv) r1 to_r2
  have a0:=s1_AsgLC (on:="") (nm:=tonm w) (rec:=exs2 (toO w) "" (tonm w) 9) (n:="ends") (p:=nmP (asgT (toS 0))) (pos:=posS (toS 0)) (g:=⟨toσ P,none⟩) (by kernel_rfl!) (by kernel_rfl!) (to_ends L H hp hq)
  have a1:=s1_Asg (on:="") (nm:=tonm w) (rec:=exs2 (toO w) "" (tonm w) 8) (n:="last") (p:=nmP (asgT (toS 1))) (pos:=posS (toS 1)) (g:=⟨toσ1 P p q,none⟩) (by kernel_rfl!) (by kernel_rfl!) (ev2_of h1)
  have a2:=s1_Asg (on:="") (nm:=tonm w) (rec:=exs2 (toO w) "" (tonm w) 7) (n:="first") (p:=nmP (asgT (toS 2))) (pos:=posS (toS 2)) (g:=⟨toσ2 P p q lv,none⟩) (by kernel_rfl!) (by kernel_rfl!) (ev2_of h2)
  have a3:=s1_Asg (on:="") (nm:=tonm w) (rec:=exs2 (toO w) "" (tonm w) 6) (n:="whole") (p:=nmP (asgT (toS 3))) (pos:=posS (toS 3)) (g:=⟨toσ3 P p q lv fv,none⟩) (by kernel_rfl!) (by kernel_rfl!) (ev2_of h3)
  have a4:=s1_Ret (on:="") (nm:=tonm w) (rec:=exs2 (toO w) "" (tonm w) 5) (pos:=retP (toS 4)) (g:=⟨toσ4 P p q lv fv,none⟩) (ev2_of h4)
  rw [← to_a0] at a0
  rw [← to_a1] at a1
  rw [← to_a2] at a2
  rw [← to_a3] at a3
  rw [← to_a4] at a4
  rw [to_parts,x2_next (k:=9) (by kernel_rfl!) (by kernel_rfl!) a0,x2_next (k:=8) (by kernel_rfl!) (by kernel_rfl!) a1,x2_next (k:=7) (by kernel_rfl!) (by kernel_rfl!) a2,x2_next (k:=6) (by kernel_rfl!) (by kernel_rfl!) a3]
  exact x2_ret (k:=5) (by kernel_rfl!) (by kernel_rfl!) a4
end
noncomputable def to3 (p q t1:Nat):Str:=⟨#[97+p,t1,97+q]⟩
noncomputable abbrev Told3 (p q t1:Nat) (lv fv:Bool):Prop:=Told (to3 p q t1) ⟨#[46,46,46,t1,46,46,46,t1,97+q]⟩ ⟨#[46,46,46,97+p,t1,46,46,46,t1,46,46,46]⟩ ⟨#[t1,97+q]⟩ ⟨#[97+p,t1,97+q,97+q]⟩ ⟨#[97+p]⟩ ⟨#[t1]⟩ ⟨#[97+q]⟩ ⟨#[t1]⟩ p q lv fv
theorem told_ok3 (w:World) (p q t1:Nat) (lv fv:Bool) (n:Nat) (hp:p<3) (hq:q<3) (H:Told3 p q t1 lv fv):Contract w (n+2) (.ref 286) [.str (to3 p q t1)] (.bool true) :=
  told_ok (L:=⟨fun x y hx hy=>by rcases lt3 hx with rfl|rfl|rfl<;>rcases lt3 hy with rfl|rfl|rfl<;>kernel_rfl!,by kernel_rfl!,fun lv=>by kernel_rfl!,fun lv fv=>by kernel_rfl!,fun hp hq lv fv=>by
    clear H
    rcases lt3 hp with rfl|rfl|rfl<;>rcases lt3 hq with rfl|rfl|rfl<;>kernel_rfl!,fun lv fv=>by kernel_rfl!⟩) H n hp hq
noncomputable def to5 (p q t1 t2 t3:Nat):Str:=⟨#[97+p,t1,t2,t3,97+q]⟩
noncomputable abbrev Told5 (p q t1 t2 t3:Nat) (lv fv:Bool):Prop:=Told (to5 p q t1 t2 t3) ⟨#[46,46,46,t3,46,46,46,t3,97+q]⟩ ⟨#[46,46,46,97+p,t1,46,46,46,t1,46,46,46]⟩ ⟨#[t1,t2,t3,97+q]⟩ ⟨#[97+p,t1,t2,t3,97+q,97+q]⟩ ⟨#[97+p,t1,t2]⟩ ⟨#[t3]⟩ ⟨#[t2,t3,97+q]⟩ ⟨#[t1]⟩ p q lv fv
theorem told_ok5 (w:World) (p q t1 t2 t3:Nat) (lv fv:Bool) (n:Nat) (hp:p<3) (hq:q<3) (H:Told5 p q t1 t2 t3 lv fv):Contract w (n+2) (.ref 286) [.str (to5 p q t1 t2 t3)] (.bool true) :=
  told_ok (L:=⟨fun x y hx hy=>by rcases lt3 hx with rfl|rfl|rfl<;>rcases lt3 hy with rfl|rfl|rfl<;>kernel_rfl!,by kernel_rfl!,fun lv=>by kernel_rfl!,fun lv fv=>by kernel_rfl!,fun hp hq lv fv=>by
    clear H
    rcases lt3 hp with rfl|rfl|rfl<;>rcases lt3 hq with rfl|rfl|rfl<;>kernel_rfl!,fun lv fv=>by kernel_rfl!⟩) H n hp hq
noncomputable def to7 (p q t1 t2 t3 t4 t5:Nat):Str:=⟨#[97+p,t1,t2,t3,t4,t5,97+q]⟩
noncomputable abbrev Told7 (p q t1 t2 t3 t4 t5:Nat) (lv fv:Bool):Prop:=Told (to7 p q t1 t2 t3 t4 t5) ⟨#[46,46,46,t5,46,46,46,t5,97+q]⟩ ⟨#[46,46,46,97+p,t1,46,46,46,t1,46,46,46]⟩ ⟨#[t1,t2,t3,t4,t5,97+q]⟩ ⟨#[97+p,t1,t2,t3,t4,t5,97+q,97+q]⟩ ⟨#[97+p,t1,t2,t3,t4]⟩ ⟨#[t5]⟩ ⟨#[t2,t3,t4,t5,97+q]⟩ ⟨#[t1]⟩ p q lv fv
theorem told_ok7 (w:World) (p q t1 t2 t3 t4 t5:Nat) (lv fv:Bool) (n:Nat) (hp:p<3) (hq:q<3) (H:Told7 p q t1 t2 t3 t4 t5 lv fv):Contract w (n+2) (.ref 286) [.str (to7 p q t1 t2 t3 t4 t5)] (.bool true) :=
  told_ok (L:=⟨fun x y hx hy=>by rcases lt3 hx with rfl|rfl|rfl<;>rcases lt3 hy with rfl|rfl|rfl<;>kernel_rfl!,by kernel_rfl!,fun lv=>by kernel_rfl!,fun lv fv=>by kernel_rfl!,fun hp hq lv fv=>by
    clear H
    rcases lt3 hp with rfl|rfl|rfl<;>rcases lt3 hq with rfl|rfl|rfl<;>kernel_rfl!,fun lv fv=>by kernel_rfl!⟩) H n hp hq
end
end Mine
end
section
open PySem PySem.W PyProof.Rows PySem.SeqAt
open AutoSeq1 (wpAny_loadPart')
open MeetsSeq MeetsSeq2 MeetsSeq3 SeqRoads2
namespace Mine
section
structure RowV (items:Array Value) (p:Int) (x:Str):Prop where
  sz:items.size=2
  a:∃ t,items[0]?=some (.int p t)
  b:∃ t,items[1]?=some (.str x t)
section
variable (l b:Addr) (I J:Array Value) (p q:Int) (x y:Str) (n n2:Nat) (dd dd2:Option Addr) (sl sl2:Array (Option Value)) (HI:RowV I p x) (HJ:RowV J q y) (hxy:p=q→x=y)
include HI HJ
noncomputable abbrev rowO (I:Array Value) (n:Nat) (dd:Option Addr) (sl:Array (Option Value)):Obj:={ cls:=.type "list",dict:=dd,data:=.seq I n,slots:=sl }
theorem lt_loop2:Meets (Builtin.«list.__eq__.loop» ⟨[.ref l,.ref b,rawInt (2:Nat),rawInt 0],[]⟩)
    (fun A R s=>s.heap.get? l=some (rowO I n dd sl)∧s.heap.get? b=some (rowO J n2 dd2 sl2)∧R (.ok (.ret (.bool false))) s):=by
  intro prog w A R s h
  obtain ⟨hp,g,d,tk,os⟩:=s;obtain ⟨hl,hb,h⟩:=h
  wp_walk using wpAny_loadPart' hl,wpAny_loadPart' hb
  have hi1:I[((2:Nat):Int).toNat]?=none:=by have:=HI.sz;simp;lia
  have hi2:J[((2:Nat):Int).toNat]?=none:=by have:=HJ.sz;simp;lia
  rw [hi1,hi2]
  wp_walk using wpAny_loadPart' hl,wpAny_loadPart' hb
  show R (.ok (.ret (.bool (decide (I.size<J.size))))) _
  rw [HI.sz,HJ.sz]
  exact h
theorem lt_loop1 (hxy:x=y):Meets (Builtin.«list.__eq__.loop» ⟨[.ref l,.ref b,rawInt (1:Nat),rawInt 0],[]⟩)
    (fun A R s=>s.heap.get? l=some (rowO I n dd sl)∧s.heap.get? b=some (rowO J n2 dd2 sl2)∧R (.ok (.ret (.bool false))) s):=by
  intro prog w A R s h
  obtain ⟨hp,g,d,tk,os⟩:=s;obtain ⟨hl,hb,h⟩:=h
  wp_walk using wpAny_loadPart' hl,wpAny_loadPart' hb
  obtain ⟨tx,hi1⟩:=HI.b
  obtain ⟨ty,hi2⟩:=HJ.b
  rw [show I[((1:Nat):Int).toNat]?=some (.str x tx) from hi1,show J[((1:Nat):Int).toNat]?=some (.str y ty) from hi2]
  refine wpAny_bind ((eqGives_str x y tx ty).at _ _ prog w _ _ ?_)
  subst hxy
  rw [show (x==x)=true by simp]
  wp_walk
  rw [show ((1:Nat):Int)+1=((2:Nat):Int) from rfl]
  exact ⟨plainId_quiet plain_eq_loop _,codeAny_builtin entry_eq_loop (by
    rw [Around.under_plainId plain_eq_loop _]
    exact lt_loop2 l b I J p q x x n n2 dd dd2 sl sl2 HI HJ prog w A R _ ⟨hl,hb,h⟩)⟩
include hxy
theorem lt_loop0:Meets (Builtin.«list.__eq__.loop» ⟨[.ref l,.ref b,rawInt (0:Nat),rawInt 0],[]⟩)
    (fun A R s=>s.heap.get? l=some (rowO I n dd sl)∧s.heap.get? b=some (rowO J n2 dd2 sl2)∧R (.ok (.ret (.bool (decide (p<q))))) s):=by
  intro prog w A R s h
  obtain ⟨hp,g,d,tk,os⟩:=s;obtain ⟨hl,hb,h⟩:=h
  wp_walk using wpAny_loadPart' hl,wpAny_loadPart' hb
  obtain ⟨tx,hi1⟩:=HI.a
  obtain ⟨ty,hi2⟩:=HJ.a
  rw [show I[((0:Nat):Int).toNat]?=some (.int p tx) from hi1,show J[((0:Nat):Int).toNat]?=some (.int q ty) from hi2]
  refine wpAny_bind (EqAt.int_int _ _ _ _ prog w _ _ ?_)
  by_cases hpq:p=q
  · have e:(p==q)=true:=by simp [hpq]
    rw [e]
    wp_walk
    rw [show ((0:Nat):Int)+1=((1:Nat):Int) from rfl]
    refine ⟨plainId_quiet plain_eq_loop _,codeAny_builtin entry_eq_loop ?_⟩
    rw [Around.under_plainId plain_eq_loop _]
    refine lt_loop1 l b I J p q x y n n2 dd dd2 sl sl2 HI HJ (hxy hpq) prog w A R _ ⟨hl,hb,?_⟩
    rw [decide_eq_false (by lia)] at h
    exact h
  · have e:(p==q)=false:=by simp [hpq]
    rw [e]
    wp_walk using wpAny_loadPart' hl,wpAny_loadPart' hb
    rw [show I[((0:Nat):Int).toNat]?=some (.int p tx) from hi1,show J[((0:Nat):Int).toNat]?=some (.int q ty) from hi2]
    dsimp only
    refine wpAny_bind (show wpAny _ _ (richCompare .Lt _ _) _ _ _ from ?_)
    exact PySem.P.lt_int (by wp_walk;exact h)
theorem list_ltAt:Meets (Builtin.«list.__lt__» ⟨[.ref l,.ref b],[]⟩)
    (fun A R s=>s.heap.get? l=some (rowO I n dd sl)∧s.heap.get? b=some (rowO J n2 dd2 sl2)∧R (.ok (.ret (.bool (decide (p<q))))) s):=by
  intro prog w A R s h
  obtain ⟨hp,g,d,tk,os⟩:=s;obtain ⟨hl,hb,h⟩:=h
  have f3:=AutoSeq1.sub_list_list
  wp_walk using wpAny_loadPart' hl,wpAny_loadPart' hb
  exact ⟨plainId_quiet plain_eq_loop _,codeAny_builtin entry_eq_loop (by
    rw [Around.under_plainId plain_eq_loop _]
    exact lt_loop0 l b I J p q x y n n2 dd dd2 sl sl2 HI HJ hxy prog w A R _ ⟨hl,hb,h⟩)⟩
end
end
end Mine
end
section
open PySem PySem.W PyProof.Rows PySem.SeqAt
namespace Mine
section
theorem unroll {β:Type} {a b:Nat} (c:β) (f:Nat→β→StateT SortSt Sem (ForInStep β)):forIn [a:b] c f=forIn (List.range' a (b - a) 1) c f:=by
  rw [Std.Legacy.Range.forIn_eq_forIn_range']
  have hsz:([a:b]:Std.Legacy.Range).size=b - a:=by simp [Std.Legacy.Range.size]
  show forIn (List.range' a ([a:b]:Std.Legacy.Range).size 1) c f=_
  rw [hsz]
noncomputable def mk3 (x y z:Value):SortSt:=SortSt.mk' oneType' #[(x,x),(y,y),(z,z)] #[] 7 none
section
variable {w:World} {A:Around} {E:Value→Shared→Prop} {s:Shared} (key:Value→Int) (L:List Value)
noncomputable def LtOk (w:World) (A:Around) (s:Shared) (key:Value→Int) (L:List Value):Prop:=∀ (x y:Value) (E:Value→Shared→Prop) (Q:Bool→Shared→Prop),x∈L→y∈L→Q (decide (key x<key y)) s→wpAny (model pw w) A (oneLt' true x y) Q E s
structure In3 (L:List Value) (x y z:Value):Prop where
  x:x∈L
  y:y∈L
  z:z∈L
variable (H:LtOk w A s key L)
section
variable {key L} {x y z:Value} {Q:Option Bool→SortSt→Prop} (M:In3 L x y z)
include H M
theorem lt_gen {i j:Nat} {u v:Value} (hi:(arrOf (mk3 x y z))[i]?=some (u,u)) (hj:(arrOf (mk3 x y z))[j]?=some (v,v)) (hu:u∈L) (hv:v∈L) (h:Q (some (decide (key u<key v))) (mk3 x y z)):wpS (model pw w) A E s (ltAt' i j) Q (mk3 x y z):=by
  rw [ltAt'_eq]
  refine wpS_bind (wpS_get ?_)
  show wpS _ _ _ _ (do let a ← elem' (arrOf (mk3 x y z)) i;let b ← elem' (arrOf (mk3 x y z)) j;lt' a b) Q _
  rw [elem'_eq,elem'_eq,hi,hj]
  refine wpS_bind (wpS_pure (wpS_bind (wpS_pure ?_)))
  rw [lt'_eq]
  refine wpS_bind (wpS_get ?_)
  show wpS _ _ _ _ (do
    let r ← liftM (keyLt' oneType' u v).attempt
    match r with
    | .ok b=>return some b
    | .error e=>modify (fun s=>SortSt.mk' (kindOf s) (arrOf s) (pendingOf s) (gallopOf s) (some e));return none) Q _
  rw [keyLt'_oneType]
  refine wpS_bind (wpS_lift (wpAny_attempt (H u v _ _ hu hv ⟨rfl,?_⟩)))
  exact wpS_pure h
theorem lt10 (h:Q (some (decide (key y<key x))) (mk3 x y z)):wpS (model pw w) A E s (ltAt' 1 0) Q (mk3 x y z):=lt_gen H M rfl rfl M.y M.x h
theorem lt01 (h:Q (some (decide (key x<key y))) (mk3 x y z)):wpS (model pw w) A E s (ltAt' 0 1) Q (mk3 x y z):=lt_gen H M rfl rfl M.x M.y h
theorem lt21 (h:Q (some (decide (key z<key y))) (mk3 x y z)):wpS (model pw w) A E s (ltAt' 2 1) Q (mk3 x y z):=lt_gen H M rfl rfl M.z M.y h
theorem lt12 (h:Q (some (decide (key y<key z))) (mk3 x y z)):wpS (model pw w) A E s (ltAt' 1 2) Q (mk3 x y z):=lt_gen H M rfl rfl M.y M.z h
theorem lt20 (h:Q (some (decide (key z<key x))) (mk3 x y z)):wpS (model pw w) A E s (ltAt' 2 0) Q (mk3 x y z):=lt_gen H M rfl rfl M.z M.x h
end
section
variable {x y z:Value} {Q:Unit→SortSt→Prop}
theorem rev02 (h:Q () (mk3 y x z)):wpS (model pw w) A E s (reverseSlice' 0 2) Q (mk3 x y z):=wpS_reverse (show Q () (mk3 y x z) from h)
theorem rev03 (h:Q () (mk3 z y x)):wpS (model pw w) A E s (reverseSlice' 0 3) Q (mk3 x y z):=wpS_reverse (show Q () (mk3 z y x) from h)
theorem rev13 (h:Q () (mk3 x z y)):wpS (model pw w) A E s (reverseSlice' 1 3) Q (mk3 x y z):=wpS_reverse (show Q () (mk3 x z y) from h)
end
theorem mv22 {x y z:Value} {Q:Unit→SortSt→Prop} (h:Q () (mk3 x y z)):wpS (model pw w) A E s (moveDown' 2 2) Q (mk3 x y z):=by
  rw [moveDown'_eq];exact wpS_modify (show Q () (mk3 x y z) from h)
theorem mv21 {x y z:Value} {Q:Unit→SortSt→Prop} (h:Q () (mk3 x z y)):wpS (model pw w) A E s (moveDown' 2 1) Q (mk3 x y z):=by
  rw [moveDown'_eq];exact wpS_modify (show Q () (mk3 x z y) from h)
theorem mv20 {x y z:Value} {Q:Unit→SortSt→Prop} (h:Q () (mk3 z x y)):wpS (model pw w) A E s (moveDown' 2 0) Q (mk3 x y z):=by
  rw [moveDown'_eq];exact wpS_modify (show Q () (mk3 z x y) from h)
section
variable {key L} {x y z:Value} (M:In3 L x y z)
theorem asc33 {st:SortSt} {Q:AscSt→SortSt→Prop} (h:Q (none,3) st):wpS (model pw w) A E s (ascLoop 3 3) Q st:=by
  unfold ascLoop
  rw [unroll]
  exact wpS_pure h
include H M
theorem asc23 {Q:AscSt→SortSt→Prop} (h1:key z<key y→Q (none,2) (mk3 x y z)) (h2:¬ key z<key y→Q (none,3) (mk3 x y z)):wpS (model pw w) A E s (ascLoop 2 3) Q (mk3 x y z):=by
  unfold ascLoop
  rw [unroll]
  show wpS _ _ _ _ (forIn [2] _ _) _ _
  rw [List.forIn_cons]
  refine wpS_bind (wpS_bind (lt21 H M ?_))
  by_cases c:key z<key y
  · rw [decide_eq_true c];exact wpS_pure (wpS_pure (h1 c))
  · rw [decide_eq_false c];exact wpS_pure (wpS_pure (h2 c))
theorem asc13 {Q:AscSt→SortSt→Prop} (h0:key y<key x→Q (none,1) (mk3 x y z)) (h1:¬ key y<key x→key z<key y→Q (none,2) (mk3 x y z)) (h2:¬ key y<key x→¬ key z<key y→Q (none,3) (mk3 x y z)):wpS (model pw w) A E s (ascLoop 1 3) Q (mk3 x y z):=by
  unfold ascLoop
  rw [unroll]
  show wpS _ _ _ _ (forIn [1,2] _ _) _ _
  rw [List.forIn_cons]
  refine wpS_bind (wpS_bind (lt10 H M ?_))
  by_cases c:key y<key x
  · rw [decide_eq_true c];exact wpS_pure (wpS_pure (h0 c))
  · rw [decide_eq_false c]
    refine wpS_pure ?_
    show wpS _ _ _ _ (forIn [2] _ _) _ _
    rw [List.forIn_cons]
    refine wpS_bind (wpS_bind (lt21 H M ?_))
    by_cases c2:key z<key y
    · rw [decide_eq_true c2];exact wpS_pure (wpS_pure (h1 c c2))
    · rw [decide_eq_false c2];exact wpS_pure (wpS_pure (h2 c c2))
theorem tail33 {Q:Option Nat→SortSt→Prop} (h:Q (some 3) (mk3 z y x)):wpS (model pw w) A E s (tail3 3 3) Q (mk3 x y z):=by
  unfold tail3
  exact wpS_bind (rev03 (wpS_bind (asc33 (wpS_pure h))))
theorem tail23 {Q:Option Nat→SortSt→Prop} (h1:key z<key x→Q (some 2) (mk3 y x z)) (h2:¬ key z<key x→Q (some 3) (mk3 y x z)):wpS (model pw w) A E s (tail3 2 3) Q (mk3 x y z):=by
  unfold tail3
  refine wpS_bind (rev02 (wpS_bind (asc23 H ⟨M.y,M.x,M.z⟩ (fun c=>wpS_pure (h1 c)) fun c=>wpS_pure (h2 c))))
structure Run3 (key:Value→Int) (L:List Value) (x y z:Value) (m:Nat) (a b c:Value):Prop where
  perm:[a,b,c].Perm [x,y,z]
  inn:In3 L a b c
  ab:key a≤key b
  m:m=3∧key b≤key c∨m=2
theorem desc2 {Q:Option Nat→SortSt→Prop} (c0:key y<key x) (h:∀ m a b c,Run3 key L x y z m a b c→Q (some m) (mk3 a b c)):wpS (model pw w) A E s (descPart 1 3) Q (mk3 x y z):=by
  unfold descPart
  refine wpS_bind (wpS_lift (wpAny_rule ⟨rfl,?_⟩))
  refine wpS_bind ?_
  unfold descLoop
  rw [unroll]
  show wpS _ _ _ _ (forIn [2] _ _) _ _
  rw [List.forIn_cons]
  refine wpS_bind (wpS_bind (lt21 H M ?_))
  by_cases c:key z<key y
  · rw [decide_eq_true c]
    refine wpS_pure (wpS_pure ?_)
    refine tail33 H M (h 3 z y x ⟨?_,⟨M.z,M.y,M.x⟩,Int.le_of_lt c,.inl ⟨rfl,Int.le_of_lt c0⟩⟩)
    exact (List.reverse_perm [x,y,z])
  · rw [decide_eq_false c]
    refine wpS_bind (lt12 H M ?_)
    by_cases d:key y<key z
    · rw [decide_eq_true d]
      refine wpS_pure (wpS_pure ?_)
      exact tail23 H M (fun e=>h 2 y x z ⟨.swap _ _ _,⟨M.y,M.x,M.z⟩,Int.le_of_lt c0,.inr rfl⟩) fun e=>h 3 y x z ⟨.swap _ _ _,⟨M.y,M.x,M.z⟩,Int.le_of_lt c0,.inl ⟨rfl,by lia⟩⟩
    · rw [decide_eq_false d]
      refine wpS_pure (wpS_pure ?_)
      refine wpS_bind (rev13 ?_)
      refine tail33 H ⟨M.x,M.z,M.y⟩ (h 3 y z x ⟨?_,⟨M.y,M.z,M.x⟩,by lia,.inl ⟨rfl,by lia⟩⟩)
      exact (List.perm_append_comm:([y,z]++[x]).Perm ([x]++[y,z]))
theorem count3 {Q:Option Nat→SortSt→Prop} (h:∀ m a b c,Run3 key L x y z m a b c→Q (some m) (mk3 a b c)):wpS (model pw w) A E s (countRun' 0 3) Q (mk3 x y z):=by
  rw [countRun0_eq]
  refine wpS_bind (asc13 H M (fun c=>?_) (fun c d=>?_) fun c d=>?_)
  · show wpS _ _ _ _ (descPart 1 3) _ _
    exact desc2 H M c h
  · show wpS _ _ _ _ (do
        let __x ← ltAt' 0 1
        match __x with
        | some rose=>if rose=true then pure (some 2) else do
            reverseSlice' 0 2
            descPart 2 3
        | _=>pure none) _ _
    refine wpS_bind (lt01 H M ?_)
    by_cases e:key x<key y
    · rw [decide_eq_true e]
      exact wpS_pure (h 2 x y z ⟨.refl _,M,by lia,.inr rfl⟩)
    · rw [decide_eq_false e]
      refine wpS_bind (rev02 ?_)
      unfold descPart
      refine wpS_bind (wpS_lift (wpAny_rule ⟨rfl,?_⟩))
      refine wpS_bind ?_
      unfold descLoop
      rw [unroll]
      refine wpS_pure ?_
      refine tail33 H ⟨M.y,M.x,M.z⟩ (h 3 z x y ⟨?_,⟨M.z,M.x,M.y⟩,by lia,.inl ⟨rfl,by lia⟩⟩)
      exact (List.perm_append_comm:([z]++[x,y]).Perm ([x,y]++[z]))
  · exact wpS_pure (h 3 x y z ⟨.refl _,M,by lia,.inl ⟨rfl,by lia⟩⟩)
structure Done3 (key:Value→Int) (x y z:Value) (a b c:Value):Prop where
  perm:[a,b,c].Perm [x,y,z]
  ab:key a≤key b
  bc:key b≤key c
theorem bin3 {Q:Bool→SortSt→Prop} (hxy:key x≤key y) (h:∀ a b c,Done3 key x y z a b c→Q true (mk3 a b c)):wpS (model pw w) A E s (binarySort' 0 3 2) Q (mk3 x y z):=by
  rw [binarySort'_eq]
  simp only [Nat.zero_add]
  rw [unroll]
  refine wpS_bind ?_
  show wpS _ _ _ _ (forIn [2] _ _) _ _
  rw [List.forIn_cons]
  refine wpS_bind (wpS_bind ?_)
  rw [unroll]
  show wpS _ _ _ _ (forIn [0,1] _ _) _ _
  rw [List.forIn_cons]
  refine wpS_bind ?_
  rw [if_neg (by decide)]
  refine wpS_bind (show wpS _ _ _ _ (ltAt' 2 1) _ _ from lt21 H M ?_)
  by_cases c:key z<key y
  · rw [decide_eq_true c]
    refine wpS_pure ?_
    show wpS _ _ _ _ (forIn [1] _ _) _ _
    rw [List.forIn_cons]
    refine wpS_bind ?_
    dsimp only
    rw [if_neg (by decide)]
    refine wpS_bind (show wpS _ _ _ _ (ltAt' 2 0) _ _ from lt20 H M ?_)
    by_cases d:key z<key x
    · rw [decide_eq_true d]
      refine wpS_pure (wpS_pure ?_)
      refine wpS_bind (show wpS _ _ _ _ (moveDown' 2 0) _ _ from mv20 ?_)
      refine wpS_pure (wpS_pure (wpS_pure (h z x y ⟨?_,by lia,hxy⟩)))
      exact (List.perm_append_comm:([z]++[x,y]).Perm ([x,y]++[z]))
    · rw [decide_eq_false d]
      refine wpS_pure (wpS_pure ?_)
      refine wpS_bind (show wpS _ _ _ _ (moveDown' 2 1) _ _ from mv21 ?_)
      refine wpS_pure (wpS_pure (wpS_pure (h x z y ⟨?_,by lia,by lia⟩)))
      exact (List.Perm.swap _ _ _).cons _
  · rw [decide_eq_false c]
    refine wpS_pure ?_
    show wpS _ _ _ _ (forIn [1] _ _) _ _
    rw [List.forIn_cons]
    refine wpS_bind ?_
    dsimp only
    rw [if_pos (by decide)]
    refine wpS_pure (wpS_pure ?_)
    refine wpS_bind (show wpS _ _ _ _ (moveDown' 2 2) _ _ from mv22 ?_)
    exact wpS_pure (wpS_pure (wpS_pure (h x y z ⟨.refl _,hxy,by lia⟩)))
noncomputable def dn3 (x y z:Value):SortSt:=SortSt.mk' oneType' #[(x,x),(y,y),(z,z)] #[(0,3,0)] 7 none
theorem sort3 {Q:Unit→SortSt→Prop} (h:∀ a b c,Done3 key x y z a b c→Q () (dn3 a b c)):wpS (model pw w) A E s sortRuns' Q (mk3 x y z):=by
  rw [sortRuns'_eq]
  refine wpS_bind (wpS_get ?_)
  dsimp only
  have hmr:minRun' 3 3 0=3:=by rw [minRun'_succ,if_pos (by decide)]
  rw [show (arrOf (mk3 x y z)).size=3 from rfl,hmr]
  rw [unroll]
  refine wpS_bind ?_
  show wpS _ _ _ _ (forIn [0,1,2] _ _) _ _
  rw [List.forIn_cons]
  refine wpS_bind ?_
  dsimp only
  rw [if_neg (by decide)]
  refine wpS_bind (show wpS _ _ _ _ (countRun' 0 3) _ _ from count3 H M fun m a b c R=>?_)
  dsimp only
  have hx:∀ a b c,(pendingOf (mk3 a b c)).back?=none:=fun a b c=>rfl
  obtain ⟨hp,hi,hab,hm⟩:=R
  rcases hm with ⟨rfl,hbc⟩|rfl
  · rw [if_neg (by decide)]
    refine wpS_bind (wpS_get ?_)
    rw [hx]
    dsimp only
    refine wpS_bind (wpS_modify ?_)
    refine wpS_pure ?_
    show wpS _ _ _ _ (forIn [1,2] (none,3) _) _ (dn3 a b c)
    rw [List.forIn_cons]
    refine wpS_bind ?_
    dsimp only
    rw [if_pos (by decide)]
    refine wpS_pure (wpS_pure ?_)
    dsimp only
    rw [unroll]
    refine wpS_bind ?_
    show wpS _ _ _ _ (forIn [0,1,2] _ _) _ _
    rw [List.forIn_cons]
    refine wpS_bind (wpS_bind (wpS_get ?_))
    rw [if_pos (show (pendingOf (dn3 a b c)).size≤1 from Nat.le_refl 1)]
    exact wpS_pure (wpS_pure (wpS_pure (h a b c ⟨hp,hab,hbc⟩)))
  · rw [if_pos (by decide)]
    refine wpS_bind (wpS_lift (wpAny_rule ⟨rfl,?_⟩))
    rw [show min (3 - 0) 3=3 from rfl]
    refine wpS_bind (bin3 H hi hab fun a' b' c' D=>?_)
    rw [if_neg (by decide)]
    refine wpS_bind (wpS_get ?_)
    rw [hx]
    dsimp only
    refine wpS_bind (wpS_modify ?_)
    refine wpS_pure ?_
    show wpS _ _ _ _ (forIn [1,2] (none,3) _) _ (dn3 a' b' c')
    rw [List.forIn_cons]
    refine wpS_bind ?_
    dsimp only
    rw [if_pos (by decide)]
    refine wpS_pure (wpS_pure ?_)
    dsimp only
    rw [unroll]
    refine wpS_bind ?_
    show wpS _ _ _ _ (forIn [0,1,2] _ _) _ _
    rw [List.forIn_cons]
    refine wpS_bind (wpS_bind (wpS_get ?_))
    rw [if_pos (show (pendingOf (dn3 a' b' c')).size≤1 from Nat.le_refl 1)]
    exact wpS_pure (wpS_pure (wpS_pure (h a' b' c' ⟨D.perm.trans hp,D.ab,D.bc⟩)))
end
end
end
end Mine
end
section
open PySem PySem.W PyProof.Rows PySem.SeqAt
open Builtin
namespace Mine
section
noncomputable def RowAt (h:Heap) (v:Value) (p:Int) (x:Str):Prop:=∃ a I,v=.ref a∧h.IsList a I∧RowV I p x
theorem RowAt.uniq {h:Heap} {v:Value} {p q:Int} {x y:Str} (r:RowAt h v p x) (r':RowAt h v q y):p=q:=by
  obtain ⟨a,I,rfl,⟨o,g,_,n,d⟩,_,⟨t,hp⟩,_⟩:=r
  obtain ⟨a',J,e,⟨o',g',_,n',d'⟩,_,⟨t',hq⟩,_⟩:=r'
  cases e
  rw [g] at g';cases g'
  rw [d] at d';cases d'
  rw [hp] at hq;cases hq;rfl
theorem RowAt.uniq2 {h:Heap} {v:Value} {p q:Int} {x y:Str} (r:RowAt h v p x) (r':RowAt h v q y):p=q∧x=y:=by
  obtain ⟨a,I,rfl,⟨o,g,_,n,d⟩,_,⟨t,hp⟩,⟨u,hx⟩⟩:=r
  obtain ⟨a',J,e,⟨o',g',_,n',d'⟩,_,⟨t',hq⟩,⟨u',hy⟩⟩:=r'
  cases e
  rw [g] at g';cases g'
  rw [d] at d';cases d'
  rw [hp] at hq;cases hq
  rw [hx] at hy;cases hy;exact ⟨rfl,rfl⟩
theorem RowAt.keep {h h':Heap} {v:Value} {p:Int} {x:Str} (k:HK h h') (r:RowAt h v p x):RowAt h' v p x:=by
  refine el23 r fun a I q2q il rv=>?_;subst q2q
  exact ⟨a,I,rfl,islist_keep (k a) il,rv⟩
open Classical in
noncomputable def keyAt (h:Heap) (v:Value):Int:=if hh:∃ p x,RowAt h v p x then hh.choose else 0
theorem keyAt_eq {h:Heap} {v:Value} {p:Int} {x:Str} (r:RowAt h v p x):keyAt h v=p:=by
  have hh:∃ p x,RowAt h v p x:=⟨p,x,r⟩
  unfold keyAt
  rw [dif_pos hh]
  obtain ⟨y,r'⟩:=hh.choose_spec
  exact r'.uniq r
section
variable {w:World} {A:Around} {E:Value→Shared→Prop} {s:Shared}
theorem oneLt_rows {u v:Value} {p q:Int} {x y:Str} (hu:RowAt s.heap u p x) (hv:RowAt s.heap v q y) (hxy:p=q→x=y) (room:A.units<cLine) {Q:Bool→Shared→Prop} (h:Q (decide (p<q)) s):wpAny (model pw w) A (oneLt' true u v) Q E s:=by
  refine el23 hu fun a I q2q il rI=>?_;subst q2q
  refine el23 hv fun b J q2q jl rJ=>?_;subst q2q
  have T1:=il.typeIs
  obtain ⟨⟨cls,dd,data,sl⟩,ho,hc,n,hd⟩:=il
  obtain ⟨⟨cls2,dd2,data2,sl2⟩,ho2,hc2,n2,hd2⟩:=jl
  simp only at hc hd hc2 hd2
  subst hc hd hc2 hd2
  rw [oneLt'_eq]
  simp only [if_true]
  refine wpAny_bind (wpAny_cRoomFor room ?_)
  refine wpAny_bind (wpAny_callSpecialIfBound?_slot T1 F.slot_list_lt ?_)
  refine call_meets F.slot_list_lt T1 F.entry_list_lt (F.args_list_lt_2 _ _) (list_ltAt a b I J p q x y n n2 dd dd2 sl sl2 rI rJ hxy) ⟨ho,ho2,?_⟩
  exact wpAny_truthy_bool h
structure Rows3 (h:Heap) (L:List Value):Prop where
  row:∀ v∈L,∃ p x,RowAt h v p x
  tie:∀ u v p q x y,u∈L→v∈L→RowAt h u p x→RowAt h v q y→p=q→x=y
theorem Rows3.lt {L:List Value} (R:Rows3 s.heap L) (room:A.units<cLine):LtOk w A s (keyAt s.heap) L:=fun u v E Q hu hv h=>by
  refine el21 (R.row u hu) fun p x ru=>?_
  refine el21 (R.row v hv) fun q y rv=>?_
  rw [keyAt_eq ru,keyAt_eq rv] at h
  exact oneLt_rows ru rv (R.tie u v p q x y hu hv ru rv) room h
theorem first_list {v:Value} {Q:Option Value→Shared→Prop} (hT:s.TypeIs v "list") (h:Q none s):wpAny (model pw w) A (firstOfTuple' v) Q E s:=by
  show wpAny _ _ (typeOf v >>= fun t=>if t != .type "tuple" then pure none else List.listItems v >>= fun l=>pure l[0]?) _ _ _
  refine wpAny_bind (wpAny_typeOf hT ?_)
  rw [if_pos (by decide)]
  exact wpAny_pure h
theorem kind_lists {v0 v1 v2:Value} {Q:SortKind→Shared→Prop} (h0:s.TypeIs v0 "list") (h1:s.TypeIs v1 "list") (h2:s.TypeIs v2 "list") (h:Q oneType' s):wpAny (model pw w) A (keyKind' #[v0,v1,v2]) Q E s:=by
  rw [keyKind'_eq]
  have m1:∀ {Q:Array (Option Value)→Shared→Prop},Q #[none,none,none] s→wpAny (model pw w) A ((#[v0,v1,v2]:Array Value).mapM firstOfTuple') Q E s:=fun {Q} h=>by
    rw [show (#[v0,v1,v2]:Array Value)=[v0,v1,v2].toArray from rfl,List.mapM_toArray]
    simp only [List.mapM_cons,List.mapM_nil,map_eq_pure_bind]
    refine wpAny_bind (wpAny_bind (first_list h0 (wpAny_bind (wpAny_bind (first_list h1 (wpAny_bind (wpAny_bind (first_list h2 ?_))))))))
    repeat' first|exact h|refine wpAny_bind ?_|refine wpAny_pure ?_
  have m2:∀ {Q:Array Value→Shared→Prop},Q #[.type "list",.type "list",.type "list"] s→wpAny (model pw w) A ((#[v0,v1,v2]:Array Value).mapM typeOf) Q E s:=fun {Q} h=>by
    rw [show (#[v0,v1,v2]:Array Value)=[v0,v1,v2].toArray from rfl,List.mapM_toArray]
    simp only [List.mapM_cons,List.mapM_nil,map_eq_pure_bind]
    refine wpAny_bind (wpAny_bind (wpAny_typeOf h0 (wpAny_bind (wpAny_bind (wpAny_typeOf h1 (wpAny_bind (wpAny_bind (wpAny_typeOf h2 ?_))))))))
    repeat' first|exact h|refine wpAny_bind ?_|refine wpAny_pure ?_
  refine wpAny_bind (m1 ?_)
  rw [if_neg (by simp),if_neg (by simp)]
  rw [oneTypeOnly'_eq]
  refine wpAny_bind (wpAny_bind (m2 ?_))
  refine wpAny_pure (wpAny_pure ?_)
  have ha:((#[Value.type "list",Value.type "list",Value.type "list"]:Array Value).all fun x=>x==Value.type "list")=true:=by decide +kernel
  show Q (if (if ((#[Value.type "list",Value.type "list",Value.type "list"]:Array Value).all fun x=>x==Value.type "list")=true then some (Value.type "list") else none).isSome=true then oneType' else general') s
  rw [if_pos ha]
  exact h
theorem RowAt.type {v:Value} {p:Int} {x:Str} (r:RowAt s.heap v p x):s.TypeIs v "list":=by
  refine el23 r fun a I q2q il _=>?_;subst q2q
  exact il.typeIs
theorem sort_tree3 {a:Addr} {v0 v1 v2:Value} {n:Nat} {P:Fin→Shared→Prop} (ho:s.heap.get? a=some (seqObj "list" #[v0,v1,v2] n)) (R:∀ h',(∀ b o,b≠a→s.heap.get? b=some o→h'.get? b=some o)→Rows3 h' [v0,v1,v2]) (key:Value→Int) (hkey:∀ h',(∀ b o,b≠a→s.heap.get? b=some o→h'.get? b=some o)→∀ v∈[v0,v1,v2],keyAt h' v=key v) (room:A.units<cLine)
    (h:∀ x y z,Done3 key v2 v1 v0 x y z→P (.done (.ret .none)) { s with heap:=sortedHeap s.heap a [v0,v1,v2] #[z,y,x] }) :
    wpAny (model pw w) A (Builtin.«list.sort» ⟨[.ref a],[(Str.ofString "reverse",.bool true)]⟩) P E s:=by
  rw [list_sort_rev]
  have ha:a<s.heap.objs.size:=Heap.lt_size ho
  refine wpAny_bind (listItems_at ho rfl ?_)
  refine wpAny_bind (listUpdate_at ho rfl ?_)
  obtain ⟨e1,ho1⟩:∃ e1,(s.heap.update a (Obj.mapSeq fun _=>#[])).get? a=some (seqObj "list" #[] e1):=⟨_,get?_update_seq ho (fun _=>#[])⟩
  refine wpAny_bind (seqEpoch_at ho1 rfl ?_)
  refine wpAny_bind (wpAny_newTuple ?_)
  refine wpAny_bind (wpAny_newList ?_)
  refine wpAny_holding ?_
  show wpAny (model pw w) A _ P E { s with heap:=((s.heap.update a (Obj.mapSeq fun _=>#[])).push (seqObj "tuple" [v0,v1,v2].toArray 0)).push (seqObj "list" #[] 0) }
  have hH:∀ b o,b≠a→s.heap.get? b=some o→(((s.heap.update a (Obj.mapSeq fun _=>#[])).push (seqObj "tuple" [v0,v1,v2].toArray 0)).push (seqObj "list" #[] 0)).get? b=some o:=fun b o hb g=>by
    refine Heap.get?_push_of_some _ (Heap.get?_push_of_some _ ?_)
    rw [Heap.get?_update_ne _ _ _ _ hb];exact g
  have ho6:(((s.heap.update a (Obj.mapSeq fun _=>#[])).push (seqObj "tuple" [v0,v1,v2].toArray 0)).push (seqObj "list" #[] 0)).get? a=some (seqObj "list" #[] e1):=Heap.get?_push_of_some _ (Heap.get?_push_of_some _ ho1)
  have R6:=R _ hH
  have K6:=hkey _ hH
  have L6:LtOk w A { s with heap:=((s.heap.update a (Obj.mapSeq fun _=>#[])).push (seqObj "tuple" [v0,v1,v2].toArray 0)).push (seqObj "list" #[] 0) } key [v0,v1,v2]:=fun u v E Q hu hv hq=>by
    have:=R6.lt (w:=w) (A:=A) (s:={ s with heap:=((s.heap.update a (Obj.mapSeq fun _=>#[])).push (seqObj "tuple" [v0,v1,v2].toArray 0)).push (seqObj "list" #[] 0) }) room u v E Q hu hv
    rw [K6 u hu,K6 v hv] at this
    exact this hq
  have T:∀ v∈[v0,v1,v2],Shared.TypeIs { s with heap:=((s.heap.update a (Obj.mapSeq fun _=>#[])).push (seqObj "tuple" [v0,v1,v2].toArray 0)).push (seqObj "list" #[] 0) } v "list":=fun v hv=>by
    refine el21 (R6.row v hv) fun p x r=>?_
    exact r.type
  dsimp only
  rw [if_pos rfl]
  refine wpAny_bind (wpAny_rule ?_)
  have h32:¬ (#[v0,v1,v2]:Array Value).size<2:=by show ¬ 3<2;decide
  rw [if_neg h32,if_neg h32]
  refine wpAny_bind (kind_lists (T v0 (by simp)) (T v1 (by simp)) (T v2 (by simp)) ?_)
  have er:(if true=true then ((#[v0,v1,v2]:Array Value).zip #[v0,v1,v2]).reverse else (#[v0,v1,v2]:Array Value).zip #[v0,v1,v2])=#[(v2,v2),(v1,v1),(v0,v0)]:=by simp
  rw [er]
  refine wpAny_bind (wpAny_mono (show wpAny _ _ (sortRuns'.run (mk3 v2 v1 v0)) _ _ _ from sort3 (Q:=fun _ st'=>∃ x y z,Done3 key v2 v1 v0 x y z∧st'=dn3 x y z) L6 ⟨by simp,by simp,by simp⟩ fun x y z D=>⟨x,y,z,D,rfl⟩) ?_ fun _ _ e=>e)
  rintro ⟨⟨⟩,st'⟩ s' ⟨rfl,x,y,z,D,rfl⟩
  dsimp only
  have eo:(if true=true then (Array.map (fun x=>x.snd) (arrOf (dn3 x y z))).reverse else Array.map (fun x=>x.snd) (arrOf (dn3 x y z)))=#[z,y,x]:=by
    rw [if_pos rfl]
    show (Array.map (fun x=>x.snd) (#[(x,x),(y,y),(z,z)]:Array Keyed)).reverse=_
    simp
  rw [eo]
  refine wpAny_bind (seqEpoch_at ho6 rfl ?_)
  refine wpAny_bind (listUpdate_at ho6 rfl ?_ (hsz2:=by show 3≤_;rw [sizeLine_eq];lia))
  show wpAny _ _ (if (e1 != e1)=true then _ else _) _ _ _
  rw [if_neg (by simp)]
  exact wpAny_pure (h x y z D)
theorem sorted_rev3 {l:Addr} {v0 v1 v2:Value} {Q:Value→Shared→Prop} (hl:s.heap.IsList l #[v0,v1,v2]) (R:Rows3 s.heap [v0,v1,v2]) (room:A.units+5<cLine)
    (h:∀ x y z,Done3 (keyAt s.heap) v2 v1 v0 x y z→Q (.ref (s.heap.objs.size+1)) { s with heap:=sortedAll s.heap [v0,v1,v2] #[z,y,x] }) :
    wpAny (model pw w) A (call (.builtin "sorted") [.ref l] [(Str.ofString "reverse",.bool true)]) Q E s:=by
  refine call_function_entry_kw kind_sorted plain_sorted entry_sorted (args_sorted_rev _ _) ?_
  unfold Builtin.«sorted»
  refine wpAny_bind (m:=checkCount "sorted" 1 1 _) (wpAny_pure ?_)
  refine wpAny_bind (collect_list (vs:=[v0,v1,v2]) hl ?_ (by show 3≤_;rw [sizeLine_eq];lia))
  refine wpAny_bind (wpAny_newList ?_)
  have hsz:((s.heap.push (seqObj "list" #[] 0)).update s.heap.objs.size (Obj.mapSeq (·++[v0,v1,v2].toArray))).objs.size=s.heap.objs.size+1:=by
    rw [Heap.size_update,size_push']
  have hoL:(((s.heap.push (seqObj "list" #[] 0)).update s.heap.objs.size (Obj.mapSeq (·++[v0,v1,v2].toArray))).push (seqObj "list" [v0,v1,v2].toArray 0)).get? (s.heap.objs.size+1)=some (seqObj "list" [v0,v1,v2].toArray 0):=by
    rw [← hsz];exact Heap.get?_push_size _ rfl
  show wpAny _ _ _ _ _ { s with heap:=((s.heap.push (seqObj "list" #[] 0)).update s.heap.objs.size (Obj.mapSeq (·++[v0,v1,v2].toArray))).push (seqObj "list" [v0,v1,v2].toArray 0) }
  rw [hsz]
  have k1:HK s.heap (((s.heap.push (seqObj "list" #[] 0)).update s.heap.objs.size (Obj.mapSeq (·++[v0,v1,v2].toArray))).push (seqObj "list" [v0,v1,v2].toArray 0)):=fun b o g=>by
    refine Heap.get?_push_of_some _ ?_
    rw [Heap.get?_update_ne _ _ _ _ (Nat.ne_of_lt (Heap.lt_size g))]
    exact Heap.get?_push_of_some _ g
  have back:∀ h',(∀ b o,b≠s.heap.objs.size+1→(((s.heap.push (seqObj "list" #[] 0)).update s.heap.objs.size (Obj.mapSeq (·++[v0,v1,v2].toArray))).push (seqObj "list" [v0,v1,v2].toArray 0)).get? b=some o→h'.get? b=some o)→HK s.heap h':=fun h' hh b o g=>hh b o (fun e=>by
    have:=Heap.lt_size g
    rw [e] at this
    exact absurd this (Nat.not_lt.2 (Nat.le_succ _))) (k1 b o g)
  have keep:∀ h',HK s.heap h'→Rows3 h' [v0,v1,v2]∧∀ v∈[v0,v1,v2],keyAt h' v=keyAt s.heap v:=fun h' hk=>by
    refine ⟨⟨fun v hv=>?_,fun u v p q x y hu hv ru rv hpq=>?_⟩,fun v hv=>?_⟩
    · refine el21 (R.row v hv) fun p x r=>?_
      exact ⟨p,x,r.keep hk⟩
    · refine el21 (R.row u hu) fun p' x' ru'=>?_
      refine el21 (R.row v hv) fun q' y' rv'=>?_
      have e1:=RowAt.uniq2 ru (ru'.keep hk)
      have e2:=RowAt.uniq2 rv (rv'.keep hk)
      rw [e1.2,e2.2]
      exact R.tie u v p' q' x' y' hu hv ru' rv' (by rw [← e1.1,← e2.1];exact hpq)
    · refine el21 (R.row v hv) fun p x r=>?_
      rw [keyAt_eq r,keyAt_eq (r.keep hk)]
  refine wpAny_bind (wpAny_holding (wpAny_call_entry_kw slot_list_sort ⟨_,hoL,rfl⟩ entry_list_sort (sort_tree3 (v0:=v0) (v1:=v1) (v2:=v2) hoL (fun h' hh=>(keep h' (back h' hh)).1) (keyAt s.heap) (fun h' hh=>(keep h' (back h' hh)).2) (by show A.units+1+1<cLine;lia) fun x y z D=>⟨_,rfl,?_⟩) (args_list_sort_rev _ _)))
  exact wpAny_pure ⟨_,rfl,h x y z D⟩
end
end
end Mine
end
section
open PySem PySem.W PyProof.Rows PySem.SeqAt
namespace Mine
section
noncomputable def sort3I (a b c:Int):List Int:=if b≤a then (if c≤b then [a,b,c] else if c≤a then [a,c,b] else [c,a,b]) else if c≤a then [b,a,c] else if c≤b then [b,c,a] else [c,b,a]
theorem sort3I_sorted (a b c:Int):(sort3I a b c).Pairwise (fun x y=>y≤x):=by
  unfold sort3I
  split
  · split
    · simp;lia
    · split<;>(simp;lia)
  · split
    · simp;lia
    · split<;>(simp;lia)
theorem sort3I_perm (a b c:Int):(sort3I a b c).Perm [a,b,c]:=by
  unfold sort3I
  split
  · split
    · exact .refl _
    · split
      · exact (List.Perm.swap _ _ _).cons _
      · exact (List.perm_append_comm:([c]++[a,b]).Perm ([a,b]++[c]))
  · split
    · exact .swap _ _ _
    · split
      · exact ((List.Perm.swap a c []).cons b).trans (.swap _ _ _)
      · exact (List.reverse_perm [a,b,c])
theorem sort3I_eq {x y z a b c:Int} (hp:[x,y,z].Perm [a,b,c]) (h1:y≤x) (h2:z≤y):[x,y,z]=sort3I a b c :=
  List.Perm.eq_of_pairwise (le:=fun x y=>y≤x) (fun a b _ _ h h'=>Int.le_antisymm h' h) (by simp;lia) (sort3I_sorted a b c) (hp.trans (sort3I_perm a b c).symm)
noncomputable def sgS (s:Nat):Str:=⟨#[(#[40,41,91,93,58,44,59,43,45,42,47,124,38,60,62,61]:Array Nat).getD s 0]⟩
noncomputable def sgF (n:Int):Str:=sgS (n - 7).toNat
noncomputable def rowN (n:Int):D:=.list [.int n,.str (sgF n)]
noncomputable def srtF (a:Int) (x:Str) (b:Int) (y:Str) (c:Int) (z:Str):Option D:=if x==sgF a&&(y==sgF b&&z==sgF c) then some (.list ((sort3I a b c).map rowN)) else none
noncomputable def asRow (d:D):Option (Int × Str):=(asLi d).bind fun l=>on2 l fun a b=>(asInt a).bind fun i=>(asStr b).bind fun s=>some (i,s)
noncomputable def as3 (d:D):Option ((Int × Str) × (Int × Str) × (Int × Str)):=(asLi d).bind fun l=>on3 l fun a b c=>(asRow a).bind fun x=>(asRow b).bind fun y=>(asRow c).bind fun z=>some (x,y,z)
theorem asRow_g:Gets asRow fun b=>.list [.int b.1,.str b.2]:=fun {d b} h=>bnd_e h fun l hl h=>(asLi_g hl).trans (congrArg D.list (on2_e l h fun x y h=>bnd_e h fun i hi h=>bnd_e h fun s hs h=>by rw [asInt_g hi,asStr_g hs,← Option.some.inj h]))
theorem as3_g:Gets as3 fun b=>.list [.list [.int b.1.1,.str b.1.2],.list [.int b.2.1.1,.str b.2.1.2],.list [.int b.2.2.1,.str b.2.2.2]]:=fun {d b} h=>bnd_e h fun l hl h=>(asLi_g hl).trans (congrArg D.list (on3_e l h fun x y z h=>bnd_e h fun i hi h=>bnd_e h fun j hj h=>bnd_e h fun k hk h=>by rw [asRow_g hi,asRow_g hj,asRow_g hk,← Option.some.inj h]))
noncomputable def sortX (o:Ops) (c:Cx) (x:PySem.Expr):Option (Option D) :=
  onK x fun n p arg kn b kk kp kq pos=>if kn==("reverse":Str)&&(b&&!isStar arg) then onD (o.ev c (.Name n p)) asBi fun id=>onD (o.ev c arg) as3 fun r=>if id=="sorted" then some (srtF r.1.1 r.1.2 r.2.1.1 r.2.1.2 r.2.2.1 r.2.2.2) else none else none
theorem rowAt_of {h:Heap} {W:List Addr} {n:Int} {x:Str} {v:Value} (r:rep h W (.list [.int n,.str x]) v):RowAt h v n x:=by
  skip
  obtain ⟨a,xs,rfl,_,il,v1,vs,rfl,⟨t,rfl⟩,v2,vs2,rfl,⟨u,rfl⟩,rfl⟩:=r
  exact ⟨a,_,rfl,il,rfl,⟨t,rfl⟩,⟨u,rfl⟩⟩
section
variable {w:World} {A:Around} {s:Shared} {W:List Addr} {e:Env}
theorem ok_sorted {l:Value} {p1 p2 p3:Int} {x1 x2 x3:Str} {d:D} (hW:WOk s.heap W) (room:A.units+5<cLine) (r:rep s.heap W (.list [.list [.int p1,.str x1],.list [.int p2,.str x2],.list [.int p3,.str x3]]) l) (hd:srtF p1 x1 p2 x2 p3 x3=some d) :
    EvOk w A (call (.builtin "sorted") [l] [(Str.ofString "reverse",.bool true)]) s W d:=fun Q E q=>by
  unfold srtF at hd
  split at hd
  · rename_i hc
    cases hd
    simp only [Bool.and_eq_true,beq_iff_eq] at hc
    obtain ⟨rfl,rfl,rfl⟩:=hc
    skip
    obtain ⟨a,xs,rfl,na,il,v0,vs0,rfl,r0,v1,vs1,rfl,r1,v2,vs2,rfl,r2,rfl⟩:=r
    have r0:rep s.heap W (.list [.int p1,.str (sgF p1)]) v0:=by simp only [rep,reps];exact r0
    have r1:rep s.heap W (.list [.int p2,.str (sgF p2)]) v1:=by simp only [rep,reps];exact r1
    have r2:rep s.heap W (.list [.int p3,.str (sgF p3)]) v2:=by simp only [rep,reps];exact r2
    have a0:=rowAt_of r0
    have a1:=rowAt_of r1
    have a2:=rowAt_of r2
    have all:∀ v∈[v0,v1,v2],rep s.heap W (rowN (keyAt s.heap v)) v∧RowAt s.heap v (keyAt s.heap v) (sgF (keyAt s.heap v)):=fun v hv=>by
      simp only [List.mem_cons,List.not_mem_nil,or_false] at hv
      rcases hv with rfl|rfl|rfl
      · rw [keyAt_eq a0];exact ⟨r0,a0⟩
      · rw [keyAt_eq a1];exact ⟨r1,a1⟩
      · rw [keyAt_eq a2];exact ⟨r2,a2⟩
    refine sorted_rev3 il ⟨fun v hv=>⟨_,_,(all v hv).2⟩,fun u v p q x y hu hv ru rv hpq=>?_⟩ room fun x y z D=>?_
    · have e1:=RowAt.uniq2 ru (all u hu).2
      have e2:=RowAt.uniq2 rv (all v hv).2
      rw [e1.2,e2.2,← e1.1,← e2.1,hpq]
    · have k:HK s.heap (sortedAll s.heap [v0,v1,v2] #[z,y,x]):=fun b o g=>sortedAll_old g
      have hm:∀ v∈[x,y,z],v∈[v0,v1,v2]:=fun v hv=>by
        have:=D.perm.mem_iff.1 hv
        simp only [List.mem_cons,List.not_mem_nil,or_false] at this ⊢
        rcases this with h|h|h
        · exact .inr (.inr h)
        · exact .inr (.inl h)
        · exact .inl h
      have hr:∀ v∈[x,y,z],rep (sortedAll s.heap [v0,v1,v2] #[z,y,x]) W (rowN (keyAt s.heap v)) v:=fun v hv=>rep_keep k _ _ (all v (hm v hv)).1
      have hp:[keyAt s.heap z,keyAt s.heap y,keyAt s.heap x].Perm [p1,p2,p3]:=by
        have h1:[x,y,z].Perm [v0,v1,v2]:=D.perm.trans (List.reverse_perm [v0,v1,v2])
        have h2:=(((List.reverse_perm [x,y,z]).trans h1).map (keyAt s.heap))
        simp only [List.reverse_cons,List.reverse_nil,List.nil_append,List.cons_append,List.map_cons,List.map_nil] at h2
        rwa [keyAt_eq a0,keyAt_eq a1,keyAt_eq a2] at h2
      obtain ⟨e,he⟩:=sortedAll_at s.heap [v0,v1,v2] #[z,y,x]
      refine q _ _ ⟨_,s.toks,rfl,k⟩ ?_
      rw [← sort3I_eq hp D.bc D.ab]
      simp only [List.map_cons,List.map_nil,rep]
      refine ⟨_,[z,y,x],rfl,fun m=>?_,⟨_,he,rfl,e,rfl⟩,?_⟩
      · obtain ⟨o,g⟩:=hW _ m
        have:=Heap.lt_size g
        exact absurd this (Nat.not_lt.2 (Nat.le_succ _))
      · simp only [reps]
        exact ⟨_,_,rfl,hr z (by simp),_,_,rfl,hr y (by simp),_,_,rfl,hr x (by simp),rfl⟩
  · exact nope hd
theorem sound_sortX (room:A.units+5<cLine):SoundX w A sortX:=fun o Sd T e W c s x d Y hW R h=>by
  have later:∀ x d,o.ev c x=some d→∀ s',Keeps s s'→EvOk w A (eval x e) s' W d:=fun x d hx s' k=>Sd e W c s' x d (fun b o g=>Keeps.heap k b o (Y b o g)) (hW.keep (Keeps.heap k)) (R.keep (Keeps.heap k)) hx
  have now:∀ x d,o.ev c x=some d→EvOk w A (eval x e) s W d:=fun x d hx=>later x d hx s (Keeps.rfl' s)
  unfold sortX at h
  refine onK_e x h fun n p arg kn b kk kp kq pos h=>if_e h fun hc h=>onD_e asBi_g h fun id hn h=>onD_e as3_g h fun r ha h=>if_e h fun hid hz=>?_
  simp only [Bool.and_eq_true,beq_iff_eq,Bool.not_eq_true'] at hc hid
  obtain ⟨rfl,rfl,hst⟩:=hc
  subst hid
  injection hz with hz
  intro Q E q
  have e1:eval (.Call (.Name n p) [arg] [⟨some ("reverse":Str),.Constant (.bool true) kk kp,kq⟩] pos) e=(do callWith pos (← eval (.Name n p) e) [] (backTo pos (starEach [arg] e)) (backToKw pos (keywordEach [⟨some ("reverse":Str),.Constant (.bool true) kk kp,kq⟩] e))):=rfl
  rw [e1]
  refine wpAny_bind (now _ _ hn _ E fun v s1 k1 r1=>?_)
  skip
  subst r1
  have hE:EachOk w A e W s1 [arg] [_]:=.cons hst (fun s' k=>later _ _ ha s' (Keeps.tr k1 k)) .nil
  have he:backTo pos (starEach [arg] e)=(false,eval arg e)::backTo pos (starEach [] e):=by rw [starEach_plain hst];rfl
  refine callWith_kw (ok_spliced s1 hE _ E fun vs s2 k2 r2=>?_) he (plainArgs hE) rfl rfl
  obtain ⟨v,rfl,r⟩:=reps_one r2
  refine kws_cons ?_
  rw [arm_eval_Constant]
  refine wpAny_pure ?_
  refine kws_nil ?_
  exact ok_sorted (hW.keep (Keeps.heap (Keeps.tr k1 k2))) room r hz Q E fun v s3 k3 r3=>q v s3 (Keeps.tr k1 (Keeps.tr k2 k3)) r3
end
end
end Mine
end
section
open PySem PySem.W PyProof.Rows
namespace Mine
section
noncomputable def owS (i:Nat):Stmt:=(fdB (stm 72)).getD i (.Pass default)
noncomputable def ownm (w:World):List (Str × NameKind):=(fdAt w.params 291).scope.names
noncomputable abbrev owO (w:World):Ops:=ops2 w ctE sortX 10
theorem ow_parts:fdB (stm 72)=[owS 0,owS 1,owS 2,owS 3]:=by kernel_rfl!
theorem ow_a0:owS 0=.Assign [.Name "here" (nmP (asgT (owS 0)))] (asgX (owS 0)) (posS (owS 0)):=by kernel_rfl!
theorem ow_a1:owS 1=.Assign [.Name "head" (nmP (asgT (owS 1)))] (asgX (owS 1)) (posS (owS 1)):=by kernel_rfl!
theorem ow_for:owS 2=.For (forT (owS 2)) (forI (owS 2)) (forB (owS 2)) [] (posS (owS 2)):=by kernel_rfl!
noncomputable def owB:Stmt:=(forB (owS 2)).getD 0 (.Pass default)
theorem ow_body:forB (owS 2)=[owB]:=by kernel_rfl!
theorem ow_if:owB=.If (ifT owB) (ifB owB) [] (ifP owB):=by kernel_rfl!
noncomputable def slHi:PySem.Expr→PySem.Expr | .Slice _ (some h) _ _=>h|x=>x
noncomputable def slP:PySem.Expr→Pos | .Slice _ _ _ p=>p|_=>default
noncomputable def binL:PySem.Expr→PySem.Expr | .BinOp l _ _ _=>l|x=>x
noncomputable def binR:PySem.Expr→PySem.Expr | .BinOp _ _ r _=>r|x=>x
noncomputable def binP:PySem.Expr→Pos | .BinOp _ _ _ p=>p|_=>default
noncomputable def owH:PySem.Expr:=slHi (subE (asgX (owS 1)))
theorem ow_x1:asgX (owS 1)=.Subscript (subV (asgX (owS 1))) (.Slice none (some owH) none (slP (subE (asgX (owS 1))))) (subP (asgX (owS 1))):=by kernel_rfl!
theorem ow_h:owH=.BinOp (binL owH) .Add (binR owH) (binP owH):=by kernel_rfl!
theorem ev_slHi {w:World} {ct:CT} {X:Extra} {m:Nat} {c:Cx} {v hi:PySem.Expr} {q pos:Pos} {x d:D} {i:Int} (hX:X (ops2 w ct X m) c (.Subscript v (.Slice none (some hi) none q) pos)=none) (hv:(ops2 w ct X m).ev c v=some x) (hi':(ops2 w ct X m).ev c hi=some (.int i)) (hs:isSeqD x=true) (hd:sliceD x none (some i) none=some d) :
    (ops2 w ct X (m+1)).ev c (.Subscript v (.Slice none (some hi) none q) pos)=some d:=by
  refine ev_st rfl hX ?_
  show ((ops2 w ct X m).ev c v).bind (fun x=>(evPart ((ops2 w ct X m).ev c) (some hi)).bind fun h=>if isSeqD x then sliceD x none h none else none)=_
  have e:evPart ((ops2 w ct X m).ev c) (some hi)=some (some i):=by
    show onD ((ops2 w ct X m).ev c hi) asInt _=_
    rw [hi'];rfl
  rw [hv,e]
  show (if isSeqD x then sliceD x none (some i) none else none)=_
  rw [if_pos hs,hd]
structure Row where
  m:Bool
  s:Nat
  a:Nat
  b:Nat
noncomputable def rowB (r:Row):D:=.list [.bool r.m,.int (7+(r.s:Int)),.str (sgS r.s),.list [.str (letS r.a),.str (letS r.b)]]
noncomputable def boardD (r0 r1 r2:Row):D:=.list [rowB r0,rowB r1,rowB r2]
theorem sgF_is (s:Nat):sgF (7+(s:Int))=sgS s:=by
  unfold sgF
  rw [show (7+(s:Int) - 7).toNat=s by lia]
theorem srt_board (r0 r1 r2:Row):srtF (7+(r0.s:Int)) (sgS r0.s) (7+(r1.s:Int)) (sgS r1.s) (7+(r2.s:Int)) (sgS r2.s)=some (.list ((sort3I (7+(r0.s:Int)) (7+(r1.s:Int)) (7+(r2.s:Int))).map rowN)):=by
  unfold srtF
  rw [sgF_is,sgF_is,sgF_is,if_pos (by simp)]
noncomputable def oddR (hit:Int→Bool):List Int→Bool
  | []=>false
  | n::l=>if hit n then n.fmod 2==1 else oddR hit l
noncomputable def sgC (n:Int):Nat:=(#[40,41,91,93,58,44,59,43,45,42,47,124,38,60,62,61]:Array Nat).getD (n - 7).toNat 0
theorem forD_ret {ok:Sg→Bool} {t:PySem.Expr} {body:Sg→Option (FlD × Sg)} {d r:D} {ds:List D} {g g':Sg} {σ1:List (Str × D)} (h0:ok g=true) (h1:bindT t d g.σ=some σ1) (h2:body ⟨σ1,g.own⟩=some (.ret r,g')):forD ok t body (d::ds) g=some (.ret r,g'):=by
  show (if ok g then _ else none)=_
  rw [if_pos h0,h1]
  simp only [h2]
theorem oddR_none {hit:Int→Bool}:∀ (L:List Int),L.any hit=false→oddR hit L=false
  | [],_=>rfl
  | n::L,h=>by
    rw [List.any_cons,Bool.or_eq_false_iff] at h
    show (if hit n then _ else _)=_
    rw [h.1,if_neg (by simp)]
    exact oddR_none L h.2
section
variable (w:World) (T hd:Str) (q:Nat) (r0 r1 r2:Row) (W:Int→Str)
noncomputable abbrev owσ0:List (Str × D):=[(("board":Str),boardD r0 r1 r2),(("text":Str),.str T)]
noncomputable abbrev owσ1:List (Str × D):=(("here":Str),.str ⟨#[97+q]⟩)::owσ0 T r0 r1 r2
noncomputable abbrev owσ2:List (Str × D):=(("head":Str),.str hd)::owσ1 T q r0 r1 r2
noncomputable abbrev owσ3 (b:Option (Int × Str)):List (Str × D):=match b with
  | none=>owσ2 T hd q r0 r1 r2
  | some (n,x)=>(("sign":Str),.str x)::(("number":Str),.int n)::owσ2 T hd q r0 r1 r2
noncomputable abbrev owσ (b:Option (Int × Str)) (n:Int):List (Str × D):=(("sign":Str),.str (sgF n))::(("number":Str),.int n)::owσ3 T hd q r0 r1 r2 b
structure OwL (i:Nat):Prop where
  e0:(owO w).ev ⟨ownm w,owσ0 T r0 r1 r2⟩ (asgX (owS 0))=some (.str ⟨#[97+q]⟩)
  sl:sliceD (.str T) none (some ((i:Int)+1)) none=some (.str hd)
  test:∀ b n,(owO w).tr ⟨ownm w,owσ T hd q r0 r1 r2 b n⟩ (ifT owB)=some (ellB (W n) T)
theorem ow_loop {i:Nat} (H:OwL w T hd q r0 r1 r2 W i):∀ (L:List Int) (b:Option (Int × Str)),∃ g',
    forD (fun g=>(tgNames (forT (owS 2))).all (mayStoreN (ownm w) "" g)) (forT (owS 2)) (fun g=>exs2 (owO w) "" (ownm w) 7 g (forB (owS 2))) (L.map rowN) ⟨owσ3 T hd q r0 r1 r2 b,none⟩=some (if L.any (fun n=>ellB (W n) T) then .ret (.bool (oddR (fun n=>ellB (W n) T) L)) else .next,⟨g',none⟩)
  | [],b=>⟨_,rfl⟩
  | n::L,b=>by
    have hb:bindT (forT (owS 2)) (rowN n) (owσ3 T hd q r0 r1 r2 b)=some (owσ T hd q r0 r1 r2 b n):=by kernel_rfl!
    have hok:(tgNames (forT (owS 2))).all (mayStoreN (ownm w) "" ⟨owσ3 T hd q r0 r1 r2 b,none⟩)=true:=by kernel_rfl!
    have h1:=s1_If (on:="") (rec:=exs2 (owO w) "" (ownm w) 6) (b:=ifB owB) (e:=[]) (p:=ifP owB) (tr2_of (on:="") (g:=⟨owσ T hd q r0 r1 r2 b n,none⟩) (H.test b n))
    rw [← ow_if] at h1
    cases hh:ellB (W n) T with
    | true =>
      have h0:exs2 (owO w) "" (ownm w) 6 ⟨owσ T hd q r0 r1 r2 b n,none⟩ (ifB owB)=some (.ret (.bool (n.fmod 2==1)),⟨owσ T hd q r0 r1 r2 b n,none⟩):=by
        rcases b with _|⟨m,x⟩<;>kernel_rfl!
      rw [hh,if_pos rfl,h0] at h1
      have h2:exs2 (owO w) "" (ownm w) 7 ⟨owσ T hd q r0 r1 r2 b n,none⟩ (forB (owS 2))=some (.ret (.bool (n.fmod 2==1)),⟨owσ T hd q r0 r1 r2 b n,none⟩):=by
        rw [ow_body]
        exact x2_ret (k:=6) (by kernel_rfl!) (by kernel_rfl!) h1
      refine ⟨owσ T hd q r0 r1 r2 b n,?_⟩
      rw [List.map_cons,forD_ret hok hb h2]
      simp only [List.any_cons,hh,Bool.true_or,if_true,oddR]
    | false =>
      rw [hh,if_neg (by simp)] at h1
      have h2:exs2 (owO w) "" (ownm w) 7 ⟨owσ T hd q r0 r1 r2 b n,none⟩ (forB (owS 2))=some (.next,⟨owσ T hd q r0 r1 r2 b n,none⟩):=by
        rw [ow_body,x2_next (k:=6) (by kernel_rfl!) (by kernel_rfl!) (h1.trans rfl)]
        rfl
      obtain ⟨g',e⟩:=ow_loop H L (some (n,sgF n))
      refine ⟨g',?_⟩
      have hded:ded (owσ T hd q r0 r1 r2 b n)=owσ3 T hd q r0 r1 r2 (some (n,sgF n)):=by
        rcases b with _|⟨m,x⟩<;>kernel_rfl!
      rw [List.map_cons,forD_cons hok hb h2,hded,e]
      simp only [List.any_cons,hh,Bool.false_or,oddR,Bool.false_eq_true,if_false]
noncomputable abbrev owL (r0 r1 r2:Row):List Int:=sort3I (7+(r0.s:Int)) (7+(r1.s:Int)) (7+(r2.s:Int))
variable {w T hd q r0 r1 r2 W}
theorem odd_gen {i:Nat} (H:OwL w T hd q r0 r1 r2 W i) (n:Nat) (hi:∃ r,Builtin.Str.occurrences T ⟨#[97+q]⟩ 0 T.length 1=i::r):Contract w (n+2) (.ref 291) [boardD r0 r1 r2,.str T] (.bool (oddR (fun n=>ellB (W n) T) (owL r0 r1 r2))):=by
  have run:∃ g,exs2 (owO w) "" (ownm w) 10 ⟨owσ0 T r0 r1 r2,none⟩ (fdB (stm 72))=some (.ret (.bool (oddR (fun n=>ellB (W n) T) (owL r0 r1 r2))),g):=by
    rw [ow_parts]
    have a0:=s1_Asg (on:="") (nm:=ownm w) (rec:=exs2 (owO w) "" (ownm w) 9) (n:="here") (p:=nmP (asgT (owS 0))) (pos:=posS (owS 0)) (g:=⟨owσ0 T r0 r1 r2,none⟩) (by kernel_rfl!) (by kernel_rfl!) (ev2_of (g:=⟨owσ0 T r0 r1 r2,none⟩) H.e0)
    rw [← ow_a0] at a0
    rw [x2_next (k:=9) (by kernel_rfl!) (by kernel_rfl!) a0]
    obtain ⟨rr,hi⟩:=hi
    have i0:(ops2 w ctE sortX 8).ev ⟨ownm w,owσ1 T q r0 r1 r2⟩ (binL owH)=(match Builtin.Str.occurrences T ⟨#[97+q]⟩ 0 T.length 1 with|i::_=>some (D.int i)|[]=>none):=by kernel_rfl!
    rw [hi] at i0
    have i1:(ops2 w ctE sortX 9).ev ⟨ownm w,owσ1 T q r0 r1 r2⟩ owH=some (.int ((i:Int)+1)):=by
      rw [ow_h]
      exact (ev_Bin (op:=.Add) (y:=.int 1) rfl i0 (by kernel_rfl!)).trans (by kernel_rfl!)
    have e1:(owO w).ev ⟨ownm w,owσ1 T q r0 r1 r2⟩ (asgX (owS 1))=some (.str hd):=by
      rw [ow_x1]
      exact ev_slHi rfl (x:=.str T) (by kernel_rfl!) i1 rfl H.sl
    have a1:=s1_Asg (on:="") (nm:=ownm w) (rec:=exs2 (owO w) "" (ownm w) 8) (n:="head") (p:=nmP (asgT (owS 1))) (pos:=posS (owS 1)) (g:=⟨owσ1 T q r0 r1 r2,none⟩) (by kernel_rfl!) (by kernel_rfl!) (ev2_of (g:=⟨owσ1 T q r0 r1 r2,none⟩) e1)
    rw [← ow_a1] at a1
    rw [x2_next (k:=8) (by kernel_rfl!) (by kernel_rfl!) a1]
    have src:srcD (owO w) ⟨ownm w,owσ2 T hd q r0 r1 r2⟩ (forI (owS 2))=(match srtF (7+(r0.s:Int)) (sgS r0.s) (7+(r1.s:Int)) (sgS r1.s) (7+(r2.s:Int)) (sgS r2.s) with|some d=>iterD d|none=>none):=by kernel_rfl!
    rw [srt_board] at src
    obtain ⟨g',e2⟩:=ow_loop w T hd q r0 r1 r2 W H (owL r0 r1 r2) none
    have h2:=(s1_For (on:="") (rec:=exs2 (owO w) "" (ownm w) 7) (g:=⟨owσ2 T hd q r0 r1 r2,none⟩) (t:=forT (owS 2)) (body:=forB (owS 2)) (p:=posS (owS 2)) src (by kernel_rfl!)).trans e2
    rw [← ow_for] at h2
    show ∃ g,exs2 (owO w) "" (ownm w) 8 ⟨owσ2 T hd q r0 r1 r2,none⟩ [owS 2,owS 3]=_
    generalize owL r0 r1 r2=L at h2 ⊢
    cases ha:L.any (fun n=>ellB (W n) T) with
    | true =>
      rw [ha,if_pos rfl] at h2
      exact ⟨_,x2_ret (k:=7) (by kernel_rfl!) (by kernel_rfl!) h2⟩
    | false =>
      rw [ha,if_neg (by simp)] at h2
      rw [x2_next (k:=7) (by kernel_rfl!) (by kernel_rfl!) h2,oddR_none L ha]
      exact ⟨⟨g',none⟩,by kernel_rfl!⟩
  obtain ⟨g,e⟩:=run
  exact def_ok3 (ct:=ctE) (X:=sortX) (m:=10) (k:=10) "" (defr_odd w) (ctE_ok w n) (fun A R=>sound_sortX (by have:=R.u;lia)) rfl e
end
section
variable (w:World) (p q t1 t2 t3 t4 t5:Nat) (r0 r1 r2:Row) (n:Nat)
noncomputable def owW30 (p q t1:Nat) (n:Int):Str:=⟨#[97+p,46,46,46,sgC n,46,46,46,97+q]⟩
theorem odd_ok30 (hi:∃ r,Builtin.Str.occurrences (to3 p q t1) ⟨#[97+q]⟩ 0 (to3 p q t1).length 1=0::r):Contract w (n+2) (.ref 291) [boardD r0 r1 r2,.str (to3 p q t1)] (.bool (oddR (fun n=>ellB (owW30 p q t1 n) (to3 p q t1)) (owL r0 r1 r2))) :=
  odd_gen (hd:=⟨#[97+p]⟩) (W:=owW30 p q t1) ⟨by kernel_rfl!,by kernel_rfl!,fun b n=>by rcases b with _|⟨m,x⟩<;>kernel_rfl!⟩ n hi
noncomputable def owW50 (p q t1 t2 t3:Nat) (n:Int):Str:=⟨#[97+p,46,46,46,sgC n,46,46,46,97+q]⟩
theorem odd_ok50 (hi:∃ r,Builtin.Str.occurrences (to5 p q t1 t2 t3) ⟨#[97+q]⟩ 0 (to5 p q t1 t2 t3).length 1=0::r):Contract w (n+2) (.ref 291) [boardD r0 r1 r2,.str (to5 p q t1 t2 t3)] (.bool (oddR (fun n=>ellB (owW50 p q t1 t2 t3 n) (to5 p q t1 t2 t3)) (owL r0 r1 r2))) :=
  odd_gen (hd:=⟨#[97+p]⟩) (W:=owW50 p q t1 t2 t3) ⟨by kernel_rfl!,by kernel_rfl!,fun b n=>by rcases b with _|⟨m,x⟩<;>kernel_rfl!⟩ n hi
noncomputable def owW52 (p q t1 t2 t3:Nat) (n:Int):Str:=⟨#[97+p,t1,t2,46,46,46,sgC n,46,46,46,97+q]⟩
theorem odd_ok52 (hi:∃ r,Builtin.Str.occurrences (to5 p q t1 t2 t3) ⟨#[97+q]⟩ 0 (to5 p q t1 t2 t3).length 1=2::r):Contract w (n+2) (.ref 291) [boardD r0 r1 r2,.str (to5 p q t1 t2 t3)] (.bool (oddR (fun n=>ellB (owW52 p q t1 t2 t3 n) (to5 p q t1 t2 t3)) (owL r0 r1 r2))) :=
  odd_gen (hd:=⟨#[97+p,t1,t2]⟩) (W:=owW52 p q t1 t2 t3) ⟨by kernel_rfl!,by kernel_rfl!,fun b n=>by rcases b with _|⟨m,x⟩<;>kernel_rfl!⟩ n hi
noncomputable def owW70 (p q t1 t2 t3 t4 t5:Nat) (n:Int):Str:=⟨#[97+p,46,46,46,sgC n,46,46,46,97+q]⟩
theorem odd_ok70 (hi:∃ r,Builtin.Str.occurrences (to7 p q t1 t2 t3 t4 t5) ⟨#[97+q]⟩ 0 (to7 p q t1 t2 t3 t4 t5).length 1=0::r):Contract w (n+2) (.ref 291) [boardD r0 r1 r2,.str (to7 p q t1 t2 t3 t4 t5)] (.bool (oddR (fun n=>ellB (owW70 p q t1 t2 t3 t4 t5 n) (to7 p q t1 t2 t3 t4 t5)) (owL r0 r1 r2))) :=
  odd_gen (hd:=⟨#[97+p]⟩) (W:=owW70 p q t1 t2 t3 t4 t5) ⟨by kernel_rfl!,by kernel_rfl!,fun b n=>by rcases b with _|⟨m,x⟩<;>kernel_rfl!⟩ n hi
noncomputable def owW72 (p q t1 t2 t3 t4 t5:Nat) (n:Int):Str:=⟨#[97+p,t1,t2,46,46,46,sgC n,46,46,46,97+q]⟩
theorem odd_ok72 (hi:∃ r,Builtin.Str.occurrences (to7 p q t1 t2 t3 t4 t5) ⟨#[97+q]⟩ 0 (to7 p q t1 t2 t3 t4 t5).length 1=2::r):Contract w (n+2) (.ref 291) [boardD r0 r1 r2,.str (to7 p q t1 t2 t3 t4 t5)] (.bool (oddR (fun n=>ellB (owW72 p q t1 t2 t3 t4 t5 n) (to7 p q t1 t2 t3 t4 t5)) (owL r0 r1 r2))) :=
  odd_gen (hd:=⟨#[97+p,t1,t2]⟩) (W:=owW72 p q t1 t2 t3 t4 t5) ⟨by kernel_rfl!,by kernel_rfl!,fun b n=>by rcases b with _|⟨m,x⟩<;>kernel_rfl!⟩ n hi
noncomputable def owW74 (p q t1 t2 t3 t4 t5:Nat) (n:Int):Str:=⟨#[97+p,t1,t2,t3,t4,46,46,46,sgC n,46,46,46,97+q]⟩
theorem odd_ok74 (hi:∃ r,Builtin.Str.occurrences (to7 p q t1 t2 t3 t4 t5) ⟨#[97+q]⟩ 0 (to7 p q t1 t2 t3 t4 t5).length 1=4::r):Contract w (n+2) (.ref 291) [boardD r0 r1 r2,.str (to7 p q t1 t2 t3 t4 t5)] (.bool (oddR (fun n=>ellB (owW74 p q t1 t2 t3 t4 t5 n) (to7 p q t1 t2 t3 t4 t5)) (owL r0 r1 r2))) :=
  odd_gen (hd:=⟨#[97+p,t1,t2,t3,t4]⟩) (W:=owW74 p q t1 t2 t3 t4 t5) ⟨by kernel_rfl!,by kernel_rfl!,fun b n=>by rcases b with _|⟨m,x⟩<;>kernel_rfl!⟩ n hi
end
end
section
theorem isnt_ok (w:World) (n:Nat) (i:Int):Contract w (n+1) (.ref 101) [.int i] (.bool (decide (i ≥ 256))) :=
  def_ok3 (ct:=ct0) (X:=X0) (m:=10) (k:=10) (g':=⟨[(("x":Str),D.int i)],none⟩) "" (defr_isnt w) (fun f ds d h=>nope h) (fun A R=>soundX0) rfl
    (show exs2 (ops2 w ct0 X0 10) "" (fdAt w.params 101).scope.names 10 ⟨[(("x":Str),D.int i)],none⟩ (fdB (stm 58))=some (.ret (.bool (decide (i ≥ 256))),⟨[(("x":Str),D.int i)],none⟩) by kernel_rfl!)
noncomputable def spellS (p d:Nat):Str:=if d<2 then ⟨#[(if d==0 then 97 else 65)+p]⟩ else ⟨#[120068+52*d+p]⟩
noncomputable def spellRun (w:World) (p d:Nat):Option (FlD × Sg):=exs2 (ops2 w ct0 X0 12) "" (fdAt w.params 250).scope.names 12 ⟨[(("place":Str),D.int p),(("dress":Str),D.int d)],none⟩ (fdB (stm 65))
theorem spell_ok (w:World) (n:Nat) {p d:Nat} (hp:p<3) (hd:d<8):Contract w (n+1) (.ref 250) [.int p,.int d] (.str (spellS p d)):=by
  have h:(List.range 24).map (fun i=>spellRun w (i % 3) (i / 3))=(List.range 24).map fun i=>some (.ret (.str (spellS (i % 3) (i / 3))),⟨[(("place":Str),D.int (i % 3:Nat)),(("dress":Str),D.int (i / 3:Nat))],none⟩):=by kernel_rfl!
  have h:=at24 h (i:=p+3*d) (by lia)
  rw [show (p+3*d) % 3=p by lia,show (p+3*d) / 3=d by lia] at h
  exact def_ok3 (ct:=ct0) (X:=X0) (m:=12) (k:=12) "" (defr_spelled w) (fun f ds d h=>nope h) (fun A R=>soundX0) rfl h
theorem sgn_run (w:World) (x:Int) (a b:Nat) (m:Bool) (q:Nat):∀ s,s<16→exs2 (ops2 w ct0 numX 10) "" (fdAt w.params 257).scope.names 10 ⟨[(("draw":Str),D.num x ⟨a,b,s,m,q⟩)],none⟩ (fdB (stm 66))=some (.ret (.str (sgS s)),⟨[(("draw":Str),D.num x ⟨a,b,s,m,q⟩)],none⟩)
  | 0,_|1,_|2,_|3,_|4,_|5,_|6,_|7,_|8,_|9,_|10,_|11,_|12,_|13,_|14,_|15,_=>by kernel_rfl!
  | _+16,h=>by lia
theorem sgn_ok (w:World) (n:Nat) (x:Int) (r:Res) (h:r.s<16):Contract w (n+1) (.ref 257) [.num x r] (.str (sgS r.s)):=by
  obtain ⟨a,b,s,m,q⟩:=r
  exact def_ok3 (ct:=ct0) (X:=numX) (m:=10) (k:=10) "" (defr_sign w) (fun f ds d h=>by cases h) (fun A R=>sound_numX) rfl (sgn_run w x a b m q s h)
noncomputable def b3T (x:Str):Option D:=match (List.range 24).find? (fun i=>x==⟨#[spC (i % 3) (i / 3)]⟩) with
  | some i=>some (.str (letS (i % 3)))
  | none=>none
theorem b3T_ok (w:World) (n:Nat) {x:Str} {d:D} (h:b3T x=some d):Contract w (n+1) (.ref 91) [.str x] d:=by
  unfold b3T at h
  split at h
  · rename_i i hi
    cases h
    have h1:=List.find?_some hi
    have h2:=List.mem_range.1 (List.mem_of_find?_eq_some hi)
    rw [beq_iff_eq] at h1
    subst h1
    exact b3_ok w n (by lia) (by lia)
  · exact nope h
theorem b3T_spell:∀ p d,p<3→d<8→b3T (spellS p d)=some (.str (letS p)):=by
  have h:(List.range 24).map (fun i=>b3T (spellS (i % 3) (i / 3)))=(List.range 24).map fun i=>some (.str (letS (i % 3))):=by kernel_rfl!
  intro p d hp hd
  have:=at24 h (i:=p+3*d) (by lia)
  rwa [show (p+3*d) % 3=p by lia,show (p+3*d) / 3=d by lia] at this
noncomputable def ctR:CT:=fun f ds=>(vRef f).bind fun k =>
  (on2 ds fun a b=>(asNat a).bind fun p=>(asNat b).bind fun d=>if k==250&&(Nat.blt p 3&&Nat.blt d 8) then some (.str (spellS p d)) else none).or <|
  onOne ds fun a=>((asStr a).bind fun x=>if k==91 then b3T x else none).or <|
  ((asNum a).bind fun r=>if k==257&&Nat.blt r.2.s 16 then some (.str (sgS r.2.s)) else none).or <|
  (asInt a).bind fun i=>if k==101 then some (.bool (decide (i ≥ 256))) else none
theorem ctR_ok (w:World) (n:Nat) (f:Value) (ds:List D) (d:D) (h:ctR f ds=some d):Contract w (n+1) f ds d:=by
  unfold ctR at h
  refine bnd_e h fun k hk h=>?_
  rw [vRef_eq hk]
  refine or_e h (fun h=>on2_e ds h fun a b h=>bnd_e h fun p hp h=>bnd_e h fun d hd h=>if_e h fun hc hz=>?_) fun h=>onOne_e ds h fun a h=>or_e h (fun h=>bnd_e h fun x hx h=>if_e h fun hc hz=>?_) fun h=>or_e h (fun h=>bnd_e h fun r hr h=>if_e h fun hc hz=>?_) fun h=>bnd_e h fun i hi h=>if_e h fun hc hz=>?_
  · simp only [Bool.and_eq_true,beq_iff_eq] at hc
    rw [asNat_g hp,asNat_g hd,← Option.some.inj hz,hc.1]
    exact spell_ok w n (Nat.le_of_ble_eq_true hc.2.1) (Nat.le_of_ble_eq_true hc.2.2)
  · rw [eq_of_beq hc,asStr_g hx]
    exact b3T_ok w n hz
  · rw [Bool.and_eq_true,beq_iff_eq] at hc
    rw [asNum_g hr,← Option.some.inj hz,hc.1]
    exact sgn_ok w n _ _ (Nat.le_of_ble_eq_true hc.2)
  · rw [eq_of_beq hc,asInt_g hi,← Option.some.inj hz]
    exact isnt_ok w n _
theorem ctR_spell {p d:Nat} (hp:p<3) (hd:d<8):ctR (.ref 250) [.int p,.int d]=some (.str (spellS p d)):=by
  show ((if (250:Nat)==250&&(Nat.blt p 3&&Nat.blt d 8) then some (D.str (spellS p d)) else none):Option D).or _=_
  rw [show Nat.blt p 3=true from Nat.ble_eq_true_of_le hp,show Nat.blt d 8=true from Nat.ble_eq_true_of_le hd];rfl
theorem ctR_b3 {p d:Nat} (hp:p<3) (hd:d<8):ctR (.ref 91) [.str (spellS p d)]=some (.str (letS p)):=by
  show (b3T (spellS p d)).or _=_
  rw [b3T_spell p d hp hd];rfl
theorem ctR_sign {x:Int} {r:Res} (hs:r.s<16):ctR (.ref 257) [.num x r]=some (.str (sgS r.s)):=by
  show ((if (257:Nat)==257&&Nat.blt r.s 16 then some (D.str (sgS r.s)) else none):Option D).or _=_
  rw [show Nat.blt r.s 16=true from Nat.ble_eq_true_of_le hs];rfl
structure ResOk (r:Res):Prop where
  a:r.a<3
  b:r.b<3
  s:r.s<16
end
section
noncomputable def raS (i:Nat):Stmt:=(fdB (stm 67)).getD i (.Pass default)
noncomputable def ranm (w:World):List (Str × NameKind):=(fdAt w.params 264).scope.names
noncomputable abbrev raO (w:World):Ops:=ops2 w ctR numX 10
theorem ra_parts:fdB (stm 67)=[raS 0,raS 1,raS 2]:=by kernel_rfl!
theorem ra_for:raS 1=.For (forT (raS 1)) (forI (raS 1)) (forB (raS 1)) [] (posS (raS 1)):=by kernel_rfl!
noncomputable def raG:Stmt:=(forB (raS 1)).getD 0 (.Pass default)
theorem ra_body:forB (raS 1)=[raG]:=by kernel_rfl!
theorem ra_g:raG=.For (forT raG) (forI raG) (forB raG) [] (posS raG):=by kernel_rfl!
noncomputable def raB (i:Nat):Stmt:=(forB raG).getD i (.Pass default)
theorem ra_gbody:forB raG=[raB 0,raB 1,raB 2,raB 3]:=by kernel_rfl!
theorem ra_b0:raB 0=.Assign [.Name "dress" (nmP (asgT (raB 0)))] (asgX (raB 0)) (posS (raB 0)):=by kernel_rfl!
theorem ra_b1:raB 1=.Assign [.Name "name" (nmP (asgT (raB 1)))] (asgX (raB 1)) (posS (raB 1)):=by kernel_rfl!
noncomputable def callE (n:Str) (x:PySem.Expr):PySem.Expr:=.Call (.Name n (nmP (callF x))) (callAs x) [] (callP x)
theorem ra_x1:asgX (raB 1)=callE "_law_spelled" (asgX (raB 1)):=by kernel_rfl!
theorem ra_b2:raB 2=.If (ifT (raB 2)) (ifB (raB 2)) [] (ifP (raB 2)):=by kernel_rfl!
noncomputable def raN:Stmt:=(ifB (raB 2)).getD 0 (.Pass default)
theorem ra_b2b:ifB (raB 2)=[raN]:=by kernel_rfl!
theorem ra_n:raN=.Assign [.Name "name" (nmP (asgT raN))] (asgX raN) (posS raN):=by kernel_rfl!
theorem ra_xn:asgX raN=callE "map_table_b3" (asgX raN):=by kernel_rfl!
theorem ra_b3:raB 3=.If (ifT (raB 3)) (ifB (raB 3)) (ifE (raB 3)) (ifP (raB 3)):=by kernel_rfl!
noncomputable def raM (i:Nat):Stmt:=(ifB (raB 3)).getD i (.Pass default)
theorem ra_b3b:ifB (raB 3)=[raM 0,raM 1]:=by kernel_rfl!
noncomputable def raE:Stmt:=(ifE (raB 3)).getD 0 (.Pass default)
theorem ra_b3e:ifE (raB 3)=[raE]:=by kernel_rfl!
theorem ra_e:raE=.If (ifT raE) (ifB raE) (ifE raE) (ifP raE):=by kernel_rfl!
noncomputable def raP (t:Nat):Stmt:=match t with|0=>raM 1|1=>(ifB raE).getD 0 (.Pass default)|_=>(ifE raE).getD 0 (.Pass default)
theorem ra_eb:ifB raE=[raP 1]:=by kernel_rfl!
theorem ra_ee:ifE raE=[raP 2]:=by kernel_rfl!
theorem ra_m0:raM 0=.Assign [.Name "mark" (nmP (asgT (raM 0)))] (asgX (raM 0)) (posS (raM 0)):=by kernel_rfl!
noncomputable def appE (s:Stmt) (x:PySem.Expr):Stmt:=.Expr (.Call (.Attribute (.Name "rows" (nmP (attO (callF (exX s))))) "append" (attP (callF (exX s)))) [x] [] (callP (exX s))) (exP s)
noncomputable def pairE (x:PySem.Expr):PySem.Expr:=.Tuple [(tupXs x).getD 0 (.Constant .none 0 default),(tupXs x).getD 1 (.Constant .none 0 default)] (tupK x) (tupP x)
noncomputable def raT (t:Nat):PySem.Expr:=(tupXs (callA (exX (raP t)))).getD 1 (.Constant .none 0 default)
theorem ra_p0:raP 0=appE (raP 0) (pairE (callA (exX (raP 0)))):=by kernel_rfl!
theorem ra_p1:raP 1=appE (raP 1) (pairE (callA (exX (raP 1)))):=by kernel_rfl!
theorem ra_p2:raP 2=appE (raP 2) (pairE (callA (exX (raP 2)))):=by kernel_rfl!
theorem ra_t0:raT 0=.BinOp (binL (raT 0)) .Add (callE "_law_sign" (binR (raT 0))) (binP (raT 0)):=by kernel_rfl!
theorem ra_t1:raT 1=callE "_law_spelled" (raT 1):=by kernel_rfl!
theorem ra_t2:raT 2=callE "_law_spelled" (raT 2):=by kernel_rfl!
theorem ev_call {w:World} {ct:CT} {X:Extra} {m:Nat} {c:Cx} {n:Str} {x:PySem.Expr} {a:Addr} {ds:List D} {d:D} (hX:X (ops2 w ct X m) c (callE n x)=none) (hn:(ops2 w ct X m).ev c (.Name n (nmP (callF x)))=some (.raw (.ref a))) (hc:callable w (.ref a)=true) (ha:evL ((ops2 w ct X m).ev c) (callAs x)=some ds) (hd:ct (.ref a) ds=some d) :
    (ops2 w ct X (m+1)).ev c (callE n x)=some d:=(ev_ct hX hn hc ha).trans hd
noncomputable def nameR (p d:Nat):Str:=if 1<d then letS p else spellS p d
noncomputable def markR (m:Bool) (p:Nat):Nat:=if m then 256+p else 255 - p
noncomputable def sgc0 (s:Nat):Nat:=(#[40,41,91,93,58,44,59,43,45,42,47,124,38,60,62,61]:Array Nat).getD s 0
noncomputable def rowD2 (x y:Str):D:=.tup [.str x,.str y]
theorem ra_d0:asgX (raB 0)=.BinOp (.BinOp (.BinOp (.Name "draw" (nmP (binL (binL (binL (asgX (raB 0))))))) .FloorDiv (.Constant (.int 288) (coK (binR (binL (binL (asgX (raB 0)))))) (coP (binR (binL (binL (asgX (raB 0))))))) (binP (binL (binL (asgX (raB 0)))))) .Add (.Name "turn" (nmP (binR (binL (asgX (raB 0)))))) (binP (binL (asgX (raB 0))))) .Mod (.Constant (.int 8) (coK (binR (asgX (raB 0)))) (coP (binR (asgX (raB 0))))) (binP (asgX (raB 0))):=by kernel_rfl!
theorem ra_c3:ifT (raB 3)=.Compare (.Name "turn" (nmP (cmpL (ifT (raB 3))))) [.Eq] [cmpR (ifT (raB 3))] (cmpP (ifT (raB 3))):=by kernel_rfl!
theorem ra_ce:ifT raE=.Compare (.Name "turn" (nmP (cmpL (ifT raE)))) [.Eq] [cmpR (ifT raE)] (cmpP (ifT raE)):=by kernel_rfl!
theorem numA_eq {o:Ops} {c:Cx} {l t:PySem.Expr} {nk mk:Nat} {np mp p1 p2 p3:Pos} {x:Int} {r:Res} {k:Nat} (hl:o.ev c l=some (.num x r)) (ht:o.ev c t=some (.int k)):numX o c (.BinOp (.BinOp (.BinOp l .FloorDiv (.Constant (.int 288) nk np) p1) .Add t p2) .Mod (.Constant (.int 8) mk mp) p3)=some (some (.int ((r.q+k) % 8:Nat))):=by
  have e:numA o c (.BinOp (.BinOp (.BinOp l .FloorDiv (.Constant (.int 288) nk np) p1) .Add t p2) .Mod (.Constant (.int 8) mk mp) p3)=some (some (.int ((r.q+k) % 8:Nat))):=by
    show onD (o.ev c l) asNum _=_
    rw [hl]
    show onD (o.ev c t) asNat _=_
    rw [ht]
    rfl
  unfold numX orX
  rw [e]
noncomputable def Tk (σ:List (Str × D)) (t:Nat) (dr:D):Prop:=σ.lookup ("turn":Str)=some (.int t)∧σ.lookup ("draws":Str)=some dr
theorem Tk.ded {σ:List (Str × D)} {t:Nat} {dr:D} (h:Tk σ t dr):Tk (Mine.ded σ) t dr:=⟨(ded_lookup _ _).trans h.1,(ded_lookup _ _).trans h.2⟩
noncomputable abbrev rx (w:World) (k:Nat):Sg→List Stmt→Option (FlD × Sg):=exs2 (raO w) "rows" (ranm w) k
noncomputable def valR (t p:Nat) (r:Res):Str:=match t with
  | 0=>⟨#[markR r.m p,sgc0 r.s]⟩
  | 1=>spellS r.a ((r.q+1) % 8)
  | _=>spellS r.b ((r.q+2) % 8)
noncomputable def rowR (t p:Nat) (r:Res):D:=rowD2 (nameR p ((r.q+t) % 8)) (valR t p r)
section
variable (w:World) (x:Int) (r:Res) (τ:List (Str × D)) (p t:Nat)
noncomputable abbrev rσ:List (Str × D):=(("draw":Str),.num x r)::(("place":Str),.int p)::τ
noncomputable abbrev rσ1:List (Str × D):=(("dress":Str),.int ((r.q+t) % 8:Nat))::rσ x r τ p
noncomputable abbrev rσ2:List (Str × D):=(("name":Str),.str (spellS p ((r.q+t) % 8)))::rσ1 x r τ p t
noncomputable def rσ3 (b:Bool):List (Str × D):=match b with
  | true=>(("name":Str),.str (letS p))::rσ2 x r τ p t
  | false=>rσ2 x r τ p t
noncomputable def nmB (b:Bool) (p d:Nat):Str:=match b with
  | true=>letS p
  | false=>spellS p d
noncomputable abbrev rσ4 (b:Bool):List (Str × D):=(("mark":Str),.int (markR r.m p:Nat))::rσ3 x r τ p t b
theorem ra_turn_ev {m:Nat} {σ:List (Str × D)} {dr:D} {q:Pos} (h:Tk σ t dr):(ops2 w ctR numX (m+1)).ev ⟨ranm w,σ⟩ (.Name "turn" q)=some (.int t):=by
  have e:(ops2 w ctR numX (m+1)).ev ⟨ranm w,σ⟩ (.Name "turn" q)=σ.lookup ("turn":Str):=by kernel_rfl!
  rw [e,h.1]
theorem rσ3_tk {b:Bool} {dr:D} (h:Tk τ t dr):Tk (rσ3 x r τ p t b) t dr:=by cases b<;>exact h
theorem ra_test {σ:List (Str × D)} {dr:D} {c:Stmt} {k:Nat} (h:Tk σ t dr) (hc:ifT c=.Compare (.Name "turn" (nmP (cmpL (ifT c)))) [.Eq] [cmpR (ifT c)] (cmpP (ifT c))) (hm:behindInMarks .Eq (cmpR (ifT c))=false) (hk:(ops2 w ctR numX 9).ev ⟨ranm w,σ⟩ (cmpR (ifT c))=some (.int k)):(raO w).tr ⟨ranm w,σ⟩ (ifT c)=some ((t:Int)==(k:Int)):=by
  rw [hc]
  exact tr_Cmp (p:=cmpP (ifT c)) (op:=.Eq) (o:=ops2 w ctR numX 9) hm (ra_turn_ev w t h) hk
theorem ra_app {σ:List (Str × D)} {L:List D} {N V:Str} {n t:Nat} (hL:L.length≤1000) (hp:raP t=appE (raP t) (pairE (callA (exX (raP t))))) (h1:(ops2 w ctR numX 9).ev ⟨ranm w,σ⟩ ((tupXs (callA (exX (raP t)))).getD 0 (.Constant .none 0 default))=some (.str N)) (h2:(ops2 w ctR numX 9).ev ⟨ranm w,σ⟩ (raT t)=some (.str V)) (hs:isStar ((tupXs (callA (exX (raP t)))).getD 0 (.Constant .none 0 default))=false∧isStar (raT t)=false)
    (ha:((attP (callF (exX (raP t)))).endLine==(callP (exX (raP t))).line)=true) :
    exs2 (raO w) "rows" (ranm w) (n+3) ⟨σ,some (true,L)⟩ [raP t]=some (.next,⟨σ,some (true,L++[rowD2 N V])⟩):=by
  have et:(raO w).ev ⟨ranm w,σ⟩ (pairE (callA (exX (raP t))))=some (rowD2 N V):=ev_Tuple rfl (evL_cons hs.1 h1 (evL_one hs.2 h2)) (by simp)
  have ap:=s1_App (on:="rows") (nm:=ranm w) (rec:=rx w (n+2)) (n:="rows") (a:="append") (g:=⟨σ,some (true,L)⟩) (p:=nmP (attO (callF (exX (raP t))))) (apos:=attP (callF (exX (raP t)))) (cpos:=callP (exX (raP t))) (pos:=exP (raP t)) (x:=pairE (callA (exX (raP t)))) (l:=L) (d:=rowD2 N V) (by rw [ha];rfl) rfl (ev2_of (g:=⟨σ,some (true,L)⟩) et) (by lia)
  rw [show Stmt.Expr _ _=raP t from hp.symm] at ap
  rw [x2_next (k:=n+2) (by rw [hp];rfl) (by rw [hp];rfl) ap];rfl
theorem ra_end {b:Bool} {dr:D} (H:ResOk r) (h:Tk τ t dr) (ht:t<3) (hp:p<3) {L:List D} (hL:L.length≤1000) (n:Nat) :
    ∃ σ',Tk σ' t dr∧exs2 (raO w) "rows" (ranm w) (n+5) ⟨rσ3 x r τ p t b,some (true,L)⟩ [raB 3]=some (.next,⟨σ',some (true,L++[rowD2 (nmB b p ((r.q+t) % 8)) (valR t p r)])⟩):=by
  have hq:(r.q+t) % 8<8:=Nat.mod_lt _ (by decide)
  have h3:=s1_If (on:="rows") (rec:=rx w (n+4)) (b:=ifB (raB 3)) (e:=ifE (raB 3)) (p:=ifP (raB 3)) (tr2_of (on:="rows") (g:=⟨rσ3 x r τ p t b,some (true,L)⟩) (ra_test w t (rσ3_tk x r τ p t h) ra_c3 (by kernel_rfl!) (k:=0) (by kernel_rfl!)))
  have h4:=s1_If (on:="rows") (rec:=rx w (n+3)) (b:=ifB raE) (e:=ifE raE) (p:=ifP raE) (tr2_of (on:="rows") (g:=⟨rσ3 x r τ p t b,some (true,L)⟩) (ra_test w t (rσ3_tk x r τ p t h) ra_ce (by kernel_rfl!) (k:=1) (by kernel_rfl!)))
  rw [← ra_b3] at h3
  rw [← ra_e] at h4
  rcases lt3 ht with rfl|rfl|rfl
  · rw [if_pos (by decide),ra_b3b] at h3
    have em:=atN (n:=3) (f:=fun p=>(raO w).ev ⟨ranm w,rσ3 x r τ p 0 b⟩ (asgX (raM 0))) (g:=fun p=>some (.int (markR r.m p:Nat))) (by
      obtain ⟨ra,rb,rs,rm,rq⟩:=r
      cases b<;>cases rm<;>kernel_rfl!) hp
    have ec:=atN (n:=3) (f:=fun p=>(ops2 w ctR numX 8).ev ⟨ranm w,rσ4 x r τ p 0 b⟩ (binL (raT 0))) (g:=fun p=>some (.str ⟨#[markR r.m p]⟩)) (by
      obtain ⟨ra,rb,rs,rm,rq⟩:=r
      cases b<;>cases rm<;>kernel_rfl!) hp
    have a0:=s1_Asg (on:="rows") (nm:=ranm w) (rec:=rx w (n+3)) (n:="mark") (p:=nmP (asgT (raM 0))) (pos:=posS (raM 0)) (g:=⟨rσ3 x r τ p 0 b,some (true,L)⟩) (by kernel_rfl!) (by kernel_rfl!) (ev2_of (g:=⟨rσ3 x r τ p 0 b,some (true,L)⟩) em)
    rw [← ra_m0] at a0
    have es:(ops2 w ctR numX 8).ev ⟨ranm w,rσ4 x r τ p 0 b⟩ (callE "_law_sign" (binR (raT 0)))=some (.str (sgS r.s)) :=
      ev_call rfl (by kernel_rfl!) (by kernel_rfl!) (ds:=[.num x r]) (by cases b<;>kernel_rfl!) (ctR_sign H.s)
    have ev:(ops2 w ctR numX 9).ev ⟨ranm w,rσ4 x r τ p 0 b⟩ (raT 0)=some (.str (valR 0 p r)):=by
      rw [ra_t0]
      exact (ev_Bin (op:=.Add) rfl ec es).trans (by kernel_rfl!)
    have ap:=ra_app w (σ:=rσ4 x r τ p 0 b) (t:=0) (n:=n) (N:=nmB b p ((r.q+0) % 8)) hL ra_p0 (by cases b<;>kernel_rfl!) ev ⟨by kernel_rfl!,by kernel_rfl!⟩ (by kernel_rfl!)
    refine ⟨_,?_,(x2_next (k:=n+4) (by kernel_rfl!) (by kernel_rfl!) (h3.trans ((x2_next (k:=n+3) (by kernel_rfl!) (by kernel_rfl!) a0).trans ap))).trans rfl⟩
    exact rσ3_tk x r τ p 0 h
  · rw [if_neg (by decide),ra_b3e] at h3
    rw [if_pos (by decide),ra_eb] at h4
    have ev:(ops2 w ctR numX 9).ev ⟨ranm w,rσ3 x r τ p 1 b⟩ (raT 1)=some (.str (valR 1 p r)):=by
      rw [ra_t1]
      exact ev_call rfl (by kernel_rfl!) (by kernel_rfl!) (ds:=[.int (r.a:Nat),.int ((r.q+1) % 8:Nat)]) (by cases b<;>kernel_rfl!) (ctR_spell H.a hq)
    have ap:=ra_app w (σ:=rσ3 x r τ p 1 b) (t:=1) (n:=n) (N:=nmB b p ((r.q+1) % 8)) hL ra_p1 (by cases b<;>kernel_rfl!) ev ⟨by kernel_rfl!,by kernel_rfl!⟩ (by kernel_rfl!)
    exact ⟨_,rσ3_tk x r τ p 1 h,(x2_next (k:=n+4) (by kernel_rfl!) (by kernel_rfl!) (h3.trans ((x2_next (k:=n+3) (by kernel_rfl!) (by kernel_rfl!) (h4.trans ap)).trans rfl))).trans rfl⟩
  · rw [if_neg (by decide),ra_b3e] at h3
    rw [if_neg (by decide),ra_ee] at h4
    have ev:(ops2 w ctR numX 9).ev ⟨ranm w,rσ3 x r τ p 2 b⟩ (raT 2)=some (.str (valR 2 p r)):=by
      rw [ra_t2]
      exact ev_call rfl (by kernel_rfl!) (by kernel_rfl!) (ds:=[.int (r.b:Nat),.int ((r.q+2) % 8:Nat)]) (by cases b<;>kernel_rfl!) (ctR_spell H.b hq)
    have ap:=ra_app w (σ:=rσ3 x r τ p 2 b) (t:=2) (n:=n) (N:=nmB b p ((r.q+2) % 8)) hL ra_p2 (by cases b<;>kernel_rfl!) ev ⟨by kernel_rfl!,by kernel_rfl!⟩ (by kernel_rfl!)
    exact ⟨_,rσ3_tk x r τ p 2 h,(x2_next (k:=n+4) (by kernel_rfl!) (by kernel_rfl!) (h3.trans ((x2_next (k:=n+3) (by kernel_rfl!) (by kernel_rfl!) (h4.trans ap)).trans rfl))).trans rfl⟩
theorem ra_turn {dr:D} (H:ResOk r) (h:Tk τ t dr) (ht:t<3) (hp:p<3) {L:List D} (hL:L.length≤1000) (n:Nat) :
    ∃ σ',Tk σ' t dr∧exs2 (raO w) "rows" (ranm w) (n+8) ⟨rσ x r τ p,some (true,L)⟩ (forB raG)=some (.next,⟨σ',some (true,L++[rowR t p r])⟩):=by
  have hq:(r.q+t) % 8<8:=Nat.mod_lt _ (by decide)
  rw [ra_gbody]
  have e0:(raO w).ev ⟨ranm w,rσ x r τ p⟩ (asgX (raB 0))=some (.int ((r.q+t) % 8:Nat)):=by
    rw [ra_d0]
    exact ev_X rfl (numA_eq (x:=x) (by kernel_rfl!) (ra_turn_ev w t (m:=8) (σ:=rσ x r τ p) h))
  have a0:=s1_Asg (on:="rows") (nm:=ranm w) (rec:=rx w (n+7)) (n:="dress") (p:=nmP (asgT (raB 0))) (pos:=posS (raB 0)) (g:=⟨rσ x r τ p,some (true,L)⟩) (by kernel_rfl!) (by kernel_rfl!) (ev2_of (g:=⟨rσ x r τ p,some (true,L)⟩) e0)
  rw [← ra_b0] at a0
  rw [x2_next (k:=n+7) (by kernel_rfl!) (by kernel_rfl!) a0]
  have e1:(raO w).ev ⟨ranm w,rσ1 x r τ p t⟩ (asgX (raB 1))=some (.str (spellS p ((r.q+t) % 8))):=by
    rw [ra_x1]
    exact ev_call rfl (by kernel_rfl!) (by kernel_rfl!) (ds:=[.int (p:Nat),.int ((r.q+t) % 8:Nat)]) (by kernel_rfl!) (ctR_spell hp hq)
  have a1:=s1_Asg (on:="rows") (nm:=ranm w) (rec:=rx w (n+6)) (n:="name") (p:=nmP (asgT (raB 1))) (pos:=posS (raB 1)) (g:=⟨rσ1 x r τ p t,some (true,L)⟩) (by kernel_rfl!) (by kernel_rfl!) (ev2_of (g:=⟨rσ1 x r τ p t,some (true,L)⟩) e1)
  rw [← ra_b1] at a1
  rw [x2_next (k:=n+6) (by kernel_rfl!) (by kernel_rfl!) a1]
  have t2:(raO w).tr ⟨ranm w,rσ2 x r τ p t⟩ (ifT (raB 2))=some (decide ((((r.q+t) % 8:Nat):Int) > 1)):=by kernel_rfl!
  have h2:=s1_If (on:="rows") (rec:=rx w (n+5)) (b:=ifB (raB 2)) (e:=[]) (p:=ifP (raB 2)) (tr2_of (on:="rows") (g:=⟨rσ2 x r τ p t,some (true,L)⟩) t2)
  rw [← ra_b2] at h2
  unfold rowR nameR
  by_cases c:1<(r.q+t) % 8
  · rw [decide_eq_true (by lia),if_pos rfl,ra_b2b] at h2
    have e2:(raO w).ev ⟨ranm w,rσ2 x r τ p t⟩ (asgX raN)=some (.str (letS p)):=by
      rw [ra_xn]
      exact ev_call rfl (by kernel_rfl!) (by kernel_rfl!) (ds:=[.str (spellS p ((r.q+t) % 8))]) (by kernel_rfl!) (ctR_b3 hp hq)
    have a2:=s1_Asg (on:="rows") (nm:=ranm w) (rec:=rx w (n+4)) (n:="name") (p:=nmP (asgT raN)) (pos:=posS raN) (g:=⟨rσ2 x r τ p t,some (true,L)⟩) (by kernel_rfl!) (by kernel_rfl!) (ev2_of (g:=⟨rσ2 x r τ p t,some (true,L)⟩) e2)
    rw [← ra_n] at a2
    obtain ⟨σ',k',h4⟩:=ra_end w x r τ p t (b:=true) H h ht hp hL n
    rw [if_pos c]
    exact ⟨σ',k',(x2_next (k:=n+5) (by kernel_rfl!) (by kernel_rfl!) (h2.trans ((x2_next (k:=n+4) (by kernel_rfl!) (by kernel_rfl!) a2).trans rfl))).trans h4⟩
  · rw [decide_eq_false (by lia),if_neg (by simp)] at h2
    obtain ⟨σ',k',h4⟩:=ra_end w x r τ p t (b:=false) H h ht hp hL n
    rw [if_neg c]
    exact ⟨σ',k',(x2_next (k:=n+5) (by kernel_rfl!) (by kernel_rfl!) (h2.trans rfl)).trans h4⟩
end
theorem forD_step {ok:Sg→Bool} {t:PySem.Expr} {body:Sg→Option (FlD × Sg)} {d:D} {ds:List D} {σ σ1 σ2:List (Str × D)} {own own2:Option (Bool × List D)} (h0:ok ⟨σ,own⟩=true) (h1:bindT t d σ=some σ1) (h2:body ⟨σ1,own⟩=some (.next,⟨σ2,own2⟩)):forD ok t body (d::ds) ⟨σ,own⟩=forD ok t body ds ⟨ded σ2,own2⟩:=forD_cons h0 h1 h2
noncomputable def drawsD (x0 x1 x2:Int) (r0 r1 r2:Res):D:=.list [.num x0 r0,.num x1 r1,.num x2 r2]
section
variable (w:World) (x0 x1 x2:Int) (r0 r1 r2:Res) (H0:ResOk r0) (H1:ResOk r1) (H2:ResOk r2)
noncomputable def rowsT (t:Nat) (r0 r1 r2:Res):List D:=[rowR t 0 r0,rowR t 1 r1,rowR t 2 r2]
noncomputable def rowsL (r0 r1 r2:Res):List D:=[rowD2 "abc" "abc"]++rowsT 0 r0 r1 r2++rowsT 1 r0 r1 r2++rowsT 2 r0 r1 r2
include H0 H1 H2 in
theorem ra_inner {σ:List (Str × D)} {t:Nat} (h:Tk σ t (drawsD x0 x1 x2 r0 r1 r2)) (ht:t<3) {L:List D} (hL:L.length≤900) (n:Nat) :
    ∃ σ',Tk σ' t (drawsD x0 x1 x2 r0 r1 r2)∧exs2 (raO w) "rows" (ranm w) (n+9) ⟨σ,some (true,L)⟩ (forB (raS 1))=some (.next,⟨σ',some (true,L++rowsT t r0 r1 r2)⟩):=by
  rw [ra_body]
  have src:srcD (raO w) ⟨ranm w,σ⟩ (forI raG)=some ([.tup [.int 0,.num x0 r0],.tup [.int 1,.num x1 r1],.tup [.int 2,.num x2 r2]],tgTup):=by
    have e:srcD (raO w) ⟨ranm w,σ⟩ (forI raG)=onD (σ.lookup ("draws":Str)) asLi fun l=>some (enumD l,tgTup):=by kernel_rfl!
    rw [e,h.2];rfl
  obtain ⟨σ0,k0,e0⟩:=ra_turn w x0 r0 σ 0 t H0 h ht (by decide) (L:=L) (by lia) n
  obtain ⟨σ1,k1,e1⟩:=ra_turn w x1 r1 (ded σ0) 1 t H1 k0.ded ht (by decide) (L:=L++[rowR t 0 r0]) (by rw [List.length_append];show L.length+1≤_;lia) n
  obtain ⟨σ2,k2,e2⟩:=ra_turn w x2 r2 (ded σ1) 2 t H2 k1.ded ht (by decide) (L:=L++[rowR t 0 r0]++[rowR t 1 r1]) (by rw [List.length_append,List.length_append];show L.length+1+1≤_;lia) n
  have hf:=s1_For (on:="rows") (rec:=rx w (n+8)) (g:=⟨σ,some (true,L)⟩) (t:=forT raG) (body:=forB raG) (p:=posS raG) src (by kernel_rfl!)
  rw [← ra_g,forD_step (body:=fun g=>rx w (n+8) g (forB raG)) (by kernel_rfl!) (by kernel_rfl!) e0,forD_step (body:=fun g=>rx w (n+8) g (forB raG)) (by kernel_rfl!) (by kernel_rfl!) e1,forD_step (body:=fun g=>rx w (n+8) g (forB raG)) (by kernel_rfl!) (by kernel_rfl!) e2] at hf
  refine ⟨ded σ2,k2.ded,?_⟩
  rw [x2_next (k:=n+8) (by kernel_rfl!) (by kernel_rfl!) (hf.trans rfl)]
  rw [List.append_assoc,List.append_assoc]
  rfl
include H0 H1 H2 in
theorem rows_run:∃ g,exs2 (raO w) "rows" (ranm w) 20 ⟨[(("draws":Str),drawsD x0 x1 x2 r0 r1 r2)],none⟩ (fdB (stm 67))=some (.ret (.list (rowsL r0 r1 r2)),g):=by
  rw [ra_parts,x2_alloc (k:=19) (l:=[rowD2 "abc" "abc"]) (by kernel_rfl!) (by kernel_rfl!)]
  have src:srcD (raO w) ⟨ranm w,[(("draws":Str),drawsD x0 x1 x2 r0 r1 r2)]⟩ (forI (raS 1))=some ([.int 0,.int 1,.int 2],tgName):=by kernel_rfl!
  have hf:=s1_For (on:="rows") (rec:=rx w 18) (g:=⟨[(("draws":Str),drawsD x0 x1 x2 r0 r1 r2)],some (true,[rowD2 "abc" "abc"])⟩) (t:=forT (raS 1)) (body:=forB (raS 1)) (p:=posS (raS 1)) src (by kernel_rfl!)
  obtain ⟨σ0,k0,i0⟩:=ra_inner w x0 x1 x2 r0 r1 r2 H0 H1 H2 (σ:=[(("turn":Str),.int 0),(("draws":Str),drawsD x0 x1 x2 r0 r1 r2)]) (t:=0) ⟨rfl,rfl⟩ (by decide) (L:=[rowD2 "abc" "abc"]) (by decide) 9
  obtain ⟨σ1,k1,i1⟩:=ra_inner w x0 x1 x2 r0 r1 r2 H0 H1 H2 (σ:=(("turn":Str),.int 1)::ded σ0) (t:=1) ⟨rfl,k0.ded.2⟩ (by decide) (L:=[rowD2 "abc" "abc"]++rowsT 0 r0 r1 r2) (by show 4≤900;decide) 9
  obtain ⟨σ2,k2,i2⟩:=ra_inner w x0 x1 x2 r0 r1 r2 H0 H1 H2 (σ:=(("turn":Str),.int 2)::ded σ1) (t:=2) ⟨rfl,k1.ded.2⟩ (by decide) (L:=[rowD2 "abc" "abc"]++rowsT 0 r0 r1 r2++rowsT 1 r0 r1 r2) (by show 7≤900;decide) 9
  rw [← ra_for,forD_step (body:=fun g=>rx w 18 g (forB (raS 1))) (by kernel_rfl!) (by kernel_rfl!) i0,forD_step (body:=fun g=>rx w 18 g (forB (raS 1))) (by kernel_rfl!) (by kernel_rfl!) i1,forD_step (body:=fun g=>rx w 18 g (forB (raS 1))) (by kernel_rfl!) (by kernel_rfl!) i2] at hf
  rw [x2_next (k:=18) (by kernel_rfl!) (by kernel_rfl!) (hf.trans rfl)]
  refine ⟨⟨(("rows":Str),.list (rowsL r0 r1 r2))::ded σ2,none⟩,?_⟩
  rw [x2_freeze (k:=17) (l:=rowsL r0 r1 r2) (by kernel_rfl!)]
  rw [show exs2 (raO w) "rows" (ranm w) 17 ⟨(("rows":Str),.list (rowsL r0 r1 r2))::ded σ2,none⟩ [raS 2]=some (.ret (.list (rowsL r0 r1 r2)),⟨(("rows":Str),.list (rowsL r0 r1 r2))::ded σ2,none⟩) by kernel_rfl!]
  rfl
include H0 H1 H2 in
theorem rows_ok (n:Nat):Contract w (n+2) (.ref 264) [drawsD x0 x1 x2 r0 r1 r2] (.list (rowsL r0 r1 r2)):=by
  obtain ⟨g,e⟩:=rows_run w x0 x1 x2 r0 r1 r2 H0 H1 H2
  exact def_ok3 (ct:=ctR) (X:=numX) (m:=10) (k:=20) "rows" (defr_rows w) (ctR_ok w n) (fun A R=>sound_numX) rfl e
end
end
section
noncomputable def bdS (i:Nat):Stmt:=(fdB (stm 68)).getD i (.Pass default)
noncomputable def bdnm (w:World):List (Str × NameKind):=(fdAt w.params 269).scope.names
theorem bd_parts:fdB (stm 68)=[bdS 0,bdS 1,bdS 2,bdS 3]:=by kernel_rfl!
theorem bd_for:bdS 2=.For (forT (bdS 2)) (forI (bdS 2)) (forB (bdS 2)) [] (posS (bdS 2)):=by kernel_rfl!
noncomputable def bdB (i:Nat):Stmt:=(forB (bdS 2)).getD i (.Pass default)
theorem bd_body:forB (bdS 2)=[bdB 0,bdB 1,bdB 2]:=by kernel_rfl!
theorem bd_a0:bdS 0=.Assign [.Name "table" (nmP (asgT (bdS 0)))] (asgX (bdS 0)) (posS (bdS 0)):=by kernel_rfl!
theorem bd_x0:asgX (bdS 0)=.Call (.Name "Headers" (nmP (callF (asgX (bdS 0))))) [callE "_law_rows" (callA (asgX (bdS 0)))] [] (callP (asgX (bdS 0))):=by kernel_rfl!
theorem bd_b0:bdB 0=.Assign [.Name "rows" (nmP (asgT (bdB 0)))] (asgX (bdB 0)) (posS (bdB 0)):=by kernel_rfl!
theorem bd_b1:bdB 1=.Assign [.Name "sign" (nmP (asgT (bdB 1)))] (asgX (bdB 1)) (posS (bdB 1)):=by kernel_rfl!
noncomputable def appB (s:Stmt) (x:PySem.Expr):Stmt:=.Expr (.Call (.Attribute (.Name "board" (nmP (attO (callF (exX s))))) "append" (attP (callF (exX s)))) [x] [] (callP (exX s))) (exP s)
noncomputable def lsXs:PySem.Expr→List PySem.Expr | .List l _=>l|_=>[]
noncomputable def lsP:PySem.Expr→Pos | .List _ p=>p|_=>default
noncomputable def bdL:PySem.Expr:=callA (exX (bdB 2))
noncomputable def bdE (i:Nat):PySem.Expr:=(lsXs bdL).getD i (.Constant .none 0 default)
theorem bd_b2:bdB 2=appB (bdB 2) (.List [bdE 0,bdE 1,bdE 2,bdE 3] (lsP bdL)):=by kernel_rfl!
theorem bd_lc:bdE 3=.ListComp (callE "map_table_b3" (lcE (bdE 3))) [lcG0 (bdE 3)] (lcS (bdE 3)) (lcP (bdE 3)):=by kernel_rfl!
noncomputable def ctB (rw:List D→Option D):CT:=fun f ds=>match f with
  | .ref k=>if k==264 then rw ds else ctR (.ref k) ds
  | _=>none
noncomputable def bdX (w:World) (mk:List D→Option D) (ga:List D→Str→Option D):Extra:=orX (tblX mk ga) (dictX w 0 (b3D 0))
noncomputable abbrev bdO (w:World) (rw:List D→Option D) (mk:List D→Option D) (ga:List D→Str→Option D):Ops:=ops2 w (ctB rw) (bdX w mk ga) 10
theorem ex_sign (w:World):∀ s,s<16→exD w.params (sgS s)=some (.int (7+(s:Int)))
  | 0,_|1,_|2,_|3,_|4,_|5,_|6,_|7,_|8,_|9,_|10,_|11,_|12,_|13,_|14,_|15,_=>by kernel_rfl!
  | _+16,h=>by lia
structure BIn (ga:List D→Str→Option D) (T:List D) (nn:Str) (mkc s:Nat) (x y:Str) (r:Row):Prop where
  g:ga T nn=some (.list [.str ⟨#[mkc,sgc0 s]⟩,.str x,.str y])
  m:(decide ((mkc:Int) ≥ 256)==true)=r.m
  es:r.s=s
  lt:s<16
  x:ctR (.ref 91) [.str x]=some (.str (letS r.a))
  y:ctR (.ref 91) [.str y]=some (.str (letS r.b))
theorem bd_turn1 (w:World) (rw:List D→Option D) (mk:List D→Option D) (ga:List D→Str→Option D) (T:List D) (DR:D) (nn:Str) (mkc s:Nat) (x y:Str) (r:Row) (H:BIn ga T nn mkc s x y r) (L:List D) (hL:L.length≤1000) (n:Nat):∃ σ',ded σ'=[(("sign":Str),.str (sgS s)),(("rows":Str),.list [.str ⟨#[mkc,sgc0 s]⟩,.str x,.str y]),(("name":Str),.str nn),(("table":Str),.obj T),(("draws":Str),DR)]∧exs2 (bdO w rw mk ga) "board" (bdnm w) (n+4) ⟨[(("name":Str),.str nn),(("table":Str),.obj T),(("draws":Str),DR)],some (true,L)⟩ (forB (bdS 2))=some (.next,⟨σ',some (true,L++[rowB r])⟩):=by
  rw [bd_body]
  have e0:(bdO w rw mk ga).ev ⟨bdnm w,[(("name":Str),.str nn),(("table":Str),.obj T),(("draws":Str),DR)]⟩ (asgX (bdB 0))=ga T nn:=by kernel_rfl!
  rw [H.g] at e0
  have a0:=s1_Asg (on:="board") (nm:=bdnm w) (rec:=exs2 (bdO w rw mk ga) "board" (bdnm w) (n+3)) (n:="rows") (p:=nmP (asgT (bdB 0))) (pos:=posS (bdB 0)) (g:=⟨[(("name":Str),.str nn),(("table":Str),.obj T),(("draws":Str),DR)],some (true,L)⟩) (by kernel_rfl!) (by kernel_rfl!) (ev2_of (g:=⟨[(("name":Str),.str nn),(("table":Str),.obj T),(("draws":Str),DR)],some (true,L)⟩) e0)
  rw [← bd_b0] at a0
  rw [x2_next (k:=n+3) (by kernel_rfl!) (by kernel_rfl!) a0]
  have e1:(bdO w rw mk ga).ev ⟨bdnm w,[(("rows":Str),.list [.str ⟨#[mkc,sgc0 s]⟩,.str x,.str y]),(("name":Str),.str nn),(("table":Str),.obj T),(("draws":Str),DR)]⟩ (asgX (bdB 1))=some (.str (sgS s)):=by kernel_rfl!
  have a1:=s1_Asg (on:="board") (nm:=bdnm w) (rec:=exs2 (bdO w rw mk ga) "board" (bdnm w) (n+2)) (n:="sign") (p:=nmP (asgT (bdB 1))) (pos:=posS (bdB 1)) (g:=⟨[(("rows":Str),.list [.str ⟨#[mkc,sgc0 s]⟩,.str x,.str y]),(("name":Str),.str nn),(("table":Str),.obj T),(("draws":Str),DR)],some (true,L)⟩) (by kernel_rfl!) (by kernel_rfl!) (ev2_of (g:=⟨[(("rows":Str),.list [.str ⟨#[mkc,sgc0 s]⟩,.str x,.str y]),(("name":Str),.str nn),(("table":Str),.obj T),(("draws":Str),DR)],some (true,L)⟩) e1)
  rw [← bd_b1] at a1
  rw [x2_next (k:=n+2) (by kernel_rfl!) (by kernel_rfl!) a1]
  have f0:(ops2 w (ctB rw) (bdX w mk ga) 9).ev ⟨bdnm w,[(("sign":Str),.str (sgS s)),(("rows":Str),.list [.str ⟨#[mkc,sgc0 s]⟩,.str x,.str y]),(("name":Str),.str nn),(("table":Str),.obj T),(("draws":Str),DR)]⟩ (bdE 0)=some (.bool (decide ((mkc:Int) ≥ 256)==true)):=by kernel_rfl!
  rw [H.m] at f0
  have f1:(ops2 w (ctB rw) (bdX w mk ga) 9).ev ⟨bdnm w,[(("sign":Str),.str (sgS s)),(("rows":Str),.list [.str ⟨#[mkc,sgc0 s]⟩,.str x,.str y]),(("name":Str),.str nn),(("table":Str),.obj T),(("draws":Str),DR)]⟩ (bdE 1)=exD w.params (sgS s):=by kernel_rfl!
  rw [ex_sign w s H.lt] at f1
  have f2:(ops2 w (ctB rw) (bdX w mk ga) 9).ev ⟨bdnm w,[(("sign":Str),.str (sgS s)),(("rows":Str),.list [.str ⟨#[mkc,sgc0 s]⟩,.str x,.str y]),(("name":Str),.str nn),(("table":Str),.obj T),(("draws":Str),DR)]⟩ (bdE 2)=some (.str (sgS s)):=by kernel_rfl!
  have turn:∀ (u:Str) (d:D),ctR (.ref 91) [.str u]=some d→turnD (ops2 w (ctB rw) (bdX w mk ga) 8) (lcS (bdE 3)).names (bodyD (ops2 w (ctB rw) (bdX w mk ga) 8) (lcS (bdE 3)).names (callE "map_table_b3" (lcE (bdE 3))) []) (lcG0 (bdE 3)).ifs "row" ([(("sign":Str),.str (sgS s)),(("rows":Str),.list [.str ⟨#[mkc,sgc0 s]⟩,.str x,.str y]),(("name":Str),.str nn),(("table":Str),.obj T),(("draws":Str),DR)].filter fun x=>(lcS (bdE 3)).names.lookup x.1==some .free) (.str u)=some [d]:=fun u d hu=>by
    rw [show (lcG0 (bdE 3)).ifs=[] by kernel_rfl!]
    refine (turnD_one (b:=true) (r:=d) rfl fun _=>?_).trans rfl
    exact ev_call (by kernel_rfl!) (by kernel_rfl!) (by kernel_rfl!) (ds:=[.str u]) (by kernel_rfl!) (show ctB rw (.ref 91) [.str u]=some d from hu)
  have f3:(ops2 w (ctB rw) (bdX w mk ga) 9).ev ⟨bdnm w,[(("sign":Str),.str (sgS s)),(("rows":Str),.list [.str ⟨#[mkc,sgc0 s]⟩,.str x,.str y]),(("name":Str),.str nn),(("table":Str),.obj T),(("draws":Str),DR)]⟩ (bdE 3)=some (.list [.str (letS r.a),.str (letS r.b)]):=by
    rw [bd_lc]
    refine ev_LC rfl (compL_of (by kernel_rfl!) (ds:=[.str x,.str y]) (tg:=tgAny) (by kernel_rfl!) (loopD_ok (n:="row") (by kernel_rfl!) (by kernel_rfl!) (l:=[.str (letS r.a),.str (letS r.b)]) ?_) (by simp))
    simp only [turnsD,turn x _ H.x,turn y _ H.y,List.cons_append,List.nil_append]
  have fl:(bdO w rw mk ga).ev ⟨bdnm w,[(("sign":Str),.str (sgS s)),(("rows":Str),.list [.str ⟨#[mkc,sgc0 s]⟩,.str x,.str y]),(("name":Str),.str nn),(("table":Str),.obj T),(("draws":Str),DR)]⟩ (.List [bdE 0,bdE 1,bdE 2,bdE 3] (lsP bdL))=some (rowB r):=by
    refine (ev_List (by kernel_rfl!) (evL_cons (by kernel_rfl!) f0 (evL_cons (by kernel_rfl!) f1 (evL_cons (by kernel_rfl!) f2 (evL_one (by kernel_rfl!) f3)))) (by simp)).trans ?_
    rw [← H.es];rfl
  have ap:=s1_App (on:="board") (nm:=bdnm w) (rec:=exs2 (bdO w rw mk ga) "board" (bdnm w) (n+1)) (n:="board") (a:="append") (g:=⟨[(("sign":Str),.str (sgS s)),(("rows":Str),.list [.str ⟨#[mkc,sgc0 s]⟩,.str x,.str y]),(("name":Str),.str nn),(("table":Str),.obj T),(("draws":Str),DR)],some (true,L)⟩) (p:=nmP (attO (callF (exX (bdB 2))))) (apos:=attP (callF (exX (bdB 2)))) (cpos:=callP (exX (bdB 2))) (pos:=exP (bdB 2)) (by kernel_rfl!) rfl (ev2_of (g:=⟨[(("sign":Str),.str (sgS s)),(("rows":Str),.list [.str ⟨#[mkc,sgc0 s]⟩,.str x,.str y]),(("name":Str),.str nn),(("table":Str),.obj T),(("draws":Str),DR)],some (true,L)⟩) fl) (by lia)
  rw [show Stmt.Expr _ _=bdB 2 from bd_b2.symm] at ap
  refine ⟨[(("sign":Str),.str (sgS s)),(("rows":Str),.list [.str ⟨#[mkc,sgc0 s]⟩,.str x,.str y]),(("name":Str),.str nn),(("table":Str),.obj T),(("draws":Str),DR)],by kernel_rfl!,?_⟩
  rw [x2_next (k:=n+1) (by kernel_rfl!) (by kernel_rfl!) ap]
  rfl
theorem bd_turn2 (w:World) (rw:List D→Option D) (mk:List D→Option D) (ga:List D→Str→Option D) (T:List D) (DR:D) (nn:Str) (mkc s:Nat) (x y:Str) (r:Row) (H:BIn ga T nn mkc s x y r) (z1 z2 z3:D) (L:List D) (hL:L.length≤1000) (n:Nat):∃ σ',ded σ'=[(("sign":Str),.str (sgS s)),(("rows":Str),.list [.str ⟨#[mkc,sgc0 s]⟩,.str x,.str y]),(("name":Str),.str nn),(("table":Str),.obj T),(("draws":Str),DR)]∧exs2 (bdO w rw mk ga) "board" (bdnm w) (n+4) ⟨[(("name":Str),.str nn),(("sign":Str),z1),(("rows":Str),z2),(("name":Str),z3),(("table":Str),.obj T),(("draws":Str),DR)],some (true,L)⟩ (forB (bdS 2))=some (.next,⟨σ',some (true,L++[rowB r])⟩):=by
  rw [bd_body]
  have e0:(bdO w rw mk ga).ev ⟨bdnm w,[(("name":Str),.str nn),(("sign":Str),z1),(("rows":Str),z2),(("name":Str),z3),(("table":Str),.obj T),(("draws":Str),DR)]⟩ (asgX (bdB 0))=ga T nn:=by kernel_rfl!
  rw [H.g] at e0
  have a0:=s1_Asg (on:="board") (nm:=bdnm w) (rec:=exs2 (bdO w rw mk ga) "board" (bdnm w) (n+3)) (n:="rows") (p:=nmP (asgT (bdB 0))) (pos:=posS (bdB 0)) (g:=⟨[(("name":Str),.str nn),(("sign":Str),z1),(("rows":Str),z2),(("name":Str),z3),(("table":Str),.obj T),(("draws":Str),DR)],some (true,L)⟩) (by kernel_rfl!) (by kernel_rfl!) (ev2_of (g:=⟨[(("name":Str),.str nn),(("sign":Str),z1),(("rows":Str),z2),(("name":Str),z3),(("table":Str),.obj T),(("draws":Str),DR)],some (true,L)⟩) e0)
  rw [← bd_b0] at a0
  rw [x2_next (k:=n+3) (by kernel_rfl!) (by kernel_rfl!) a0]
  have e1:(bdO w rw mk ga).ev ⟨bdnm w,[(("rows":Str),.list [.str ⟨#[mkc,sgc0 s]⟩,.str x,.str y]),(("name":Str),.str nn),(("sign":Str),z1),(("rows":Str),z2),(("name":Str),z3),(("table":Str),.obj T),(("draws":Str),DR)]⟩ (asgX (bdB 1))=some (.str (sgS s)):=by kernel_rfl!
  have a1:=s1_Asg (on:="board") (nm:=bdnm w) (rec:=exs2 (bdO w rw mk ga) "board" (bdnm w) (n+2)) (n:="sign") (p:=nmP (asgT (bdB 1))) (pos:=posS (bdB 1)) (g:=⟨[(("rows":Str),.list [.str ⟨#[mkc,sgc0 s]⟩,.str x,.str y]),(("name":Str),.str nn),(("sign":Str),z1),(("rows":Str),z2),(("name":Str),z3),(("table":Str),.obj T),(("draws":Str),DR)],some (true,L)⟩) (by kernel_rfl!) (by kernel_rfl!) (ev2_of (g:=⟨[(("rows":Str),.list [.str ⟨#[mkc,sgc0 s]⟩,.str x,.str y]),(("name":Str),.str nn),(("sign":Str),z1),(("rows":Str),z2),(("name":Str),z3),(("table":Str),.obj T),(("draws":Str),DR)],some (true,L)⟩) e1)
  rw [← bd_b1] at a1
  rw [x2_next (k:=n+2) (by kernel_rfl!) (by kernel_rfl!) a1]
  have f0:(ops2 w (ctB rw) (bdX w mk ga) 9).ev ⟨bdnm w,[(("sign":Str),.str (sgS s)),(("rows":Str),.list [.str ⟨#[mkc,sgc0 s]⟩,.str x,.str y]),(("name":Str),.str nn),(("sign":Str),z1),(("rows":Str),z2),(("name":Str),z3),(("table":Str),.obj T),(("draws":Str),DR)]⟩ (bdE 0)=some (.bool (decide ((mkc:Int) ≥ 256)==true)):=by kernel_rfl!
  rw [H.m] at f0
  have f1:(ops2 w (ctB rw) (bdX w mk ga) 9).ev ⟨bdnm w,[(("sign":Str),.str (sgS s)),(("rows":Str),.list [.str ⟨#[mkc,sgc0 s]⟩,.str x,.str y]),(("name":Str),.str nn),(("sign":Str),z1),(("rows":Str),z2),(("name":Str),z3),(("table":Str),.obj T),(("draws":Str),DR)]⟩ (bdE 1)=exD w.params (sgS s):=by kernel_rfl!
  rw [ex_sign w s H.lt] at f1
  have f2:(ops2 w (ctB rw) (bdX w mk ga) 9).ev ⟨bdnm w,[(("sign":Str),.str (sgS s)),(("rows":Str),.list [.str ⟨#[mkc,sgc0 s]⟩,.str x,.str y]),(("name":Str),.str nn),(("sign":Str),z1),(("rows":Str),z2),(("name":Str),z3),(("table":Str),.obj T),(("draws":Str),DR)]⟩ (bdE 2)=some (.str (sgS s)):=by kernel_rfl!
  have turn:∀ (u:Str) (d:D),ctR (.ref 91) [.str u]=some d→turnD (ops2 w (ctB rw) (bdX w mk ga) 8) (lcS (bdE 3)).names (bodyD (ops2 w (ctB rw) (bdX w mk ga) 8) (lcS (bdE 3)).names (callE "map_table_b3" (lcE (bdE 3))) []) (lcG0 (bdE 3)).ifs "row" ([(("sign":Str),.str (sgS s)),(("rows":Str),.list [.str ⟨#[mkc,sgc0 s]⟩,.str x,.str y]),(("name":Str),.str nn),(("sign":Str),z1),(("rows":Str),z2),(("name":Str),z3),(("table":Str),.obj T),(("draws":Str),DR)].filter fun x=>(lcS (bdE 3)).names.lookup x.1==some .free) (.str u)=some [d]:=fun u d hu=>by
    rw [show (lcG0 (bdE 3)).ifs=[] by kernel_rfl!]
    refine (turnD_one (b:=true) (r:=d) rfl fun _=>?_).trans rfl
    exact ev_call (by kernel_rfl!) (by kernel_rfl!) (by kernel_rfl!) (ds:=[.str u]) (by kernel_rfl!) (show ctB rw (.ref 91) [.str u]=some d from hu)
  have f3:(ops2 w (ctB rw) (bdX w mk ga) 9).ev ⟨bdnm w,[(("sign":Str),.str (sgS s)),(("rows":Str),.list [.str ⟨#[mkc,sgc0 s]⟩,.str x,.str y]),(("name":Str),.str nn),(("sign":Str),z1),(("rows":Str),z2),(("name":Str),z3),(("table":Str),.obj T),(("draws":Str),DR)]⟩ (bdE 3)=some (.list [.str (letS r.a),.str (letS r.b)]):=by
    rw [bd_lc]
    refine ev_LC rfl (compL_of (by kernel_rfl!) (ds:=[.str x,.str y]) (tg:=tgAny) (by kernel_rfl!) (loopD_ok (n:="row") (by kernel_rfl!) (by kernel_rfl!) (l:=[.str (letS r.a),.str (letS r.b)]) ?_) (by simp))
    simp only [turnsD,turn x _ H.x,turn y _ H.y,List.cons_append,List.nil_append]
  have fl:(bdO w rw mk ga).ev ⟨bdnm w,[(("sign":Str),.str (sgS s)),(("rows":Str),.list [.str ⟨#[mkc,sgc0 s]⟩,.str x,.str y]),(("name":Str),.str nn),(("sign":Str),z1),(("rows":Str),z2),(("name":Str),z3),(("table":Str),.obj T),(("draws":Str),DR)]⟩ (.List [bdE 0,bdE 1,bdE 2,bdE 3] (lsP bdL))=some (rowB r):=by
    refine (ev_List (by kernel_rfl!) (evL_cons (by kernel_rfl!) f0 (evL_cons (by kernel_rfl!) f1 (evL_cons (by kernel_rfl!) f2 (evL_one (by kernel_rfl!) f3)))) (by simp)).trans ?_
    rw [← H.es];rfl
  have ap:=s1_App (on:="board") (nm:=bdnm w) (rec:=exs2 (bdO w rw mk ga) "board" (bdnm w) (n+1)) (n:="board") (a:="append") (g:=⟨[(("sign":Str),.str (sgS s)),(("rows":Str),.list [.str ⟨#[mkc,sgc0 s]⟩,.str x,.str y]),(("name":Str),.str nn),(("sign":Str),z1),(("rows":Str),z2),(("name":Str),z3),(("table":Str),.obj T),(("draws":Str),DR)],some (true,L)⟩) (p:=nmP (attO (callF (exX (bdB 2))))) (apos:=attP (callF (exX (bdB 2)))) (cpos:=callP (exX (bdB 2))) (pos:=exP (bdB 2)) (by kernel_rfl!) rfl (ev2_of (g:=⟨[(("sign":Str),.str (sgS s)),(("rows":Str),.list [.str ⟨#[mkc,sgc0 s]⟩,.str x,.str y]),(("name":Str),.str nn),(("sign":Str),z1),(("rows":Str),z2),(("name":Str),z3),(("table":Str),.obj T),(("draws":Str),DR)],some (true,L)⟩) fl) (by lia)
  rw [show Stmt.Expr _ _=bdB 2 from bd_b2.symm] at ap
  refine ⟨[(("sign":Str),.str (sgS s)),(("rows":Str),.list [.str ⟨#[mkc,sgc0 s]⟩,.str x,.str y]),(("name":Str),.str nn),(("sign":Str),z1),(("rows":Str),z2),(("name":Str),z3),(("table":Str),.obj T),(("draws":Str),DR)],by kernel_rfl!,?_⟩
  rw [x2_next (k:=n+1) (by kernel_rfl!) (by kernel_rfl!) ap]
  rfl
theorem tbl_mk {mk:List D→Option D} {ga:List D→Str→Option D} {Y:Extra} {o:Ops} {c:Cx} {n:Str} {p pos:Pos} {x:PySem.Expr} {l:List D} {d:D} (hn:o.ev c (.Name n p)=some (.raw (.ref 232))) (hs:isStar x=false) (hx:o.ev c x=some (.list l)) (hd:mk l=some d):orX (tblX mk ga) Y o c (.Call (.Name n p) [x] [] pos)=some (some d):=by
  have h:tblX mk ga o c (.Call (.Name n p) [x] [] pos)=some (some d):=by
    have h1:(on1 (.Call (.Name n p) [x] [] pos) fun n p x pos=>onD (o.ev c (.Name n p)) asRef fun f=>if f==232&&!isStar x then onD (o.ev c x) asLi fun l=>some (mk l) else none)=some (some d):=by
      show onD (o.ev c (.Name n p)) asRef _=_
      rw [hn]
      show (if (232:Nat)==232&&!isStar x then onD (o.ev c x) asLi fun l=>some (mk l) else none)=_
      rw [hs,hx]
      show some (mk l)=_
      rw [hd]
    unfold tblX
    rw [h1]
    rfl
  unfold orX
  rw [h]
theorem board_run (w:World) (rw:List D→Option D) (mk:List D→Option D) (ga:List D→Str→Option D) (T:List D) (DR:D) (c0 c1 c2 s0 s1 s2:Nat) (x0 x1 x2 y0 y1 y2:Str) (r0 r1 r2:Row) (hrw:rw [DR]=some (.list T)) (hmk:mk T=some (.obj T)) (H0:BIn ga T (upS 0) c0 s0 x0 y0 r0) (H1:BIn ga T (upS 1) c1 s1 x1 y1 r1) (H2:BIn ga T (upS 2) c2 s2 x2 y2 r2) :
    ∃ g,exs2 (bdO w rw mk ga) "board" (bdnm w) 12 ⟨[(("draws":Str),DR)],none⟩ (fdB (stm 68))=some (.ret (boardD r0 r1 r2),g):=by
  rw [bd_parts]
  have ec:(ops2 w (ctB rw) (bdX w mk ga) 9).ev ⟨bdnm w,[(("draws":Str),DR)]⟩ (callE "_law_rows" (callA (asgX (bdS 0))))=some (.list T):=ev_call (by kernel_rfl!) (by kernel_rfl!) (by kernel_rfl!) (ds:=[DR]) (by kernel_rfl!) (show ctB rw (.ref 264) [DR]=some (.list T) from hrw)
  have e0:(bdO w rw mk ga).ev ⟨bdnm w,[(("draws":Str),DR)]⟩ (asgX (bdS 0))=some (.obj T):=by
    rw [bd_x0]
    exact ev_X rfl (tbl_mk (by kernel_rfl!) rfl ec hmk)
  have a0:=s1_Asg (on:="board") (nm:=bdnm w) (rec:=exs2 (bdO w rw mk ga) "board" (bdnm w) 11) (n:="table") (p:=nmP (asgT (bdS 0))) (pos:=posS (bdS 0)) (g:=⟨[(("draws":Str),DR)],none⟩) (by kernel_rfl!) (by kernel_rfl!) (ev2_of (g:=⟨[(("draws":Str),DR)],none⟩) e0)
  rw [← bd_a0] at a0
  rw [x2_next (k:=11) (by kernel_rfl!) (by kernel_rfl!) a0]
  rw [x2_alloc (k:=10) (l:=[]) (by kernel_rfl!) (by kernel_rfl!)]
  have src:srcD (bdO w rw mk ga) ⟨bdnm w,[(("table":Str),.obj T),(("draws":Str),DR)]⟩ (forI (bdS 2))=some ([.str (upS 0),.str (upS 1),.str (upS 2)],tgName):=by kernel_rfl!
  have hf:=s1_For (on:="board") (rec:=exs2 (bdO w rw mk ga) "board" (bdnm w) 9) (g:=⟨[(("table":Str),.obj T),(("draws":Str),DR)],some (true,[])⟩) (t:=forT (bdS 2)) (body:=forB (bdS 2)) (p:=posS (bdS 2)) src (by kernel_rfl!)
  obtain ⟨σ0,d0,i0⟩:=bd_turn1 w rw mk ga T DR (upS 0) c0 s0 x0 y0 r0 H0 [] (by simp) 5
  obtain ⟨σ1,d1,i1⟩:=bd_turn2 w rw mk ga T DR (upS 1) c1 s1 x1 y1 r1 H1 (.str (sgS s0)) (.list [.str ⟨#[c0,sgc0 s0]⟩,.str x0,.str y0]) (.str (upS 0)) ([]++[rowB r0]) (by simp) 5
  obtain ⟨σ2,d2,i2⟩:=bd_turn2 w rw mk ga T DR (upS 2) c2 s2 x2 y2 r2 H2 (.str (sgS s1)) (.list [.str ⟨#[c1,sgc0 s1]⟩,.str x1,.str y1]) (.str (upS 1)) ([]++[rowB r0]++[rowB r1]) (by simp) 5
  rw [← bd_for,forD_step (body:=fun g=>exs2 (bdO w rw mk ga) "board" (bdnm w) 9 g (forB (bdS 2))) (by kernel_rfl!) (by kernel_rfl!) i0,d0,forD_step (body:=fun g=>exs2 (bdO w rw mk ga) "board" (bdnm w) 9 g (forB (bdS 2))) (by kernel_rfl!) (by kernel_rfl!) i1,d1,forD_step (body:=fun g=>exs2 (bdO w rw mk ga) "board" (bdnm w) 9 g (forB (bdS 2))) (by kernel_rfl!) (by kernel_rfl!) i2,d2] at hf
  rw [x2_next (k:=9) (by kernel_rfl!) (by kernel_rfl!) (hf.trans rfl)]
  rw [x2_freeze (k:=8) (l:=[rowB r0,rowB r1,rowB r2]) (by kernel_rfl!)]
  rw [show ∀ σ,exs2 (bdO w rw mk ga) "board" (bdnm w) 8 ⟨(("board":Str),.list [rowB r0,rowB r1,rowB r2])::σ,none⟩ [bdS 3]=some (.ret (boardD r0 r1 r2),⟨(("board":Str),.list [rowB r0,rowB r1,rowB r2])::σ,none⟩) from fun σ=>by kernel_rfl!]
  exact ⟨_,rfl⟩
end
end Mine
end
section
namespace Mine
section
inductive Fo where
  | tt
  | v (n:Nat)
  | neg (f:Fo)
  | con (f g:Fo)
  | dis (f g:Fo)
  | sel (m x y:Fo)
noncomputable def Fo.b (v:Nat→Bool):Fo→Bool
  | .tt=>true
  | .v n=>v n
  | .neg f=>!(f.b v)
  | .con f g=>f.b v&&g.b v
  | .dis f g=>f.b v||g.b v
  | .sel m x y=>if m.b v then x.b v||y.b v else x.b v&&y.b v
noncomputable def selN (m x y:Nat):Nat:=Nat.lor (Nat.land x y) (Nat.land m (Nat.lor x y))
noncomputable def Fo.n (full:Nat) (v:Nat→Nat):Fo→Nat
  | .tt=>full
  | .v n=>v n
  | .neg f=>Nat.xor full (f.n full v)
  | .con f g=>Nat.land (f.n full v) (g.n full v)
  | .dis f g=>Nat.lor (f.n full v) (g.n full v)
  | .sel m x y=>selN (m.n full v) (x.n full v) (y.n full v)
theorem Fo.bit {full i:Nat} {vn:Nat→Nat} {vb:Nat→Bool} (hf:full.testBit i=true) (hv:∀ n,(vn n).testBit i=vb n):∀ f:Fo,(f.n full vn).testBit i=f.b vb
  | .tt=>hf
  | .v n=>hv n
  | .neg f=>by
    show (full ^^^ f.n full vn).testBit i=_
    rw [Nat.testBit_xor,hf,Fo.bit hf hv f,Bool.true_xor];rfl
  | .con f g=>by
    show (f.n full vn &&& g.n full vn).testBit i=_
    rw [Nat.testBit_and,Fo.bit hf hv f,Fo.bit hf hv g];rfl
  | .dis f g=>by
    show (f.n full vn ||| g.n full vn).testBit i=_
    rw [Nat.testBit_or,Fo.bit hf hv f,Fo.bit hf hv g];rfl
  | .sel m x y=>by
    show ((x.n full vn &&& y.n full vn) ||| (m.n full vn &&& (x.n full vn ||| y.n full vn))).testBit i=_
    rw [Nat.testBit_or,Nat.testBit_and,Nat.testBit_and,Nat.testBit_or,Fo.bit hf hv m,Fo.bit hf hv x,Fo.bit hf hv y]
    show _=(if m.b vb then x.b vb||y.b vb else x.b vb&&y.b vb)
    cases m.b vb<;>cases x.b vb<;>cases y.b vb<;>rfl
noncomputable def ones (n:Nat):Nat:=2 ^ n - 1
noncomputable def digM (P:Nat→Bool) (lo:Nat):Nat→Nat
  | 0=>0
  | r+1=>Nat.lor (digM P lo r) (if P r then Nat.shiftLeft (ones lo) (lo*r) else 0)
noncomputable def repM (p w:Nat):Nat→Nat
  | 0=>0
  | k+1=>Nat.lor p (Nat.shiftLeft (repM p w k) w)
theorem ones_bit (n i:Nat):(ones n).testBit i=decide (i<n):=Nat.testBit_two_pow_sub_one n i
theorem digM_bit (P:Nat→Bool) (lo:Nat) (hl:0<lo) (i:Nat):∀ r,(digM P lo r).testBit i=(decide (i<lo*r)&&P (i / lo))
  | 0=>by simp [digM]
  | r+1=>by
    show (digM P lo r ||| (if P r then ones lo <<< (lo*r) else 0)).testBit i=_
    rw [Nat.testBit_or,digM_bit P lo hl i r]
    have h1:i<lo*r↔i / lo<r:=by rw [Nat.div_lt_iff_lt_mul hl,Nat.mul_comm]
    have h2:i<lo*(r+1)↔i / lo<r+1:=by rw [Nat.div_lt_iff_lt_mul hl,Nat.mul_comm]
    have h3:(ones lo <<< (lo*r)).testBit i=decide (i / lo=r):=by
      rw [Nat.testBit_shiftLeft,ones_bit]
      by_cases hq:i / lo=r
      · have ha:lo*r≤i:=by rw [← hq];exact Nat.mul_div_le i lo
        have hb:i - lo*r<lo:=by
          have:=Nat.mod_lt i hl
          rw [← hq]
          have e:=Nat.div_add_mod i lo
          lia
        simp [ha,hb,hq]
      · by_cases ha:lo*r≤i
        · have hb:¬ i - lo*r<lo:=fun hb=>hq (by
            have:i<lo*(r+1):=by rw [Nat.mul_succ];lia
            have:=h2.1 this
            have:¬ i / lo<r:=fun x=>by have:=h1.2 x;lia
            lia)
          simp [hb,hq]
        · simp [ha,hq]
    by_cases hq:i / lo=r
    · cases hP:P r<;>simp [h3,h1,h2,hq,hP]
    · cases hP:P r
      · simp only [Bool.false_eq_true,if_false,Nat.zero_testBit,Bool.or_false]
        by_cases hx:i / lo<r
        · simp [h1,h2,hx,Nat.lt_succ_of_lt hx]
        · have:¬ i / lo<r+1:=by lia
          simp [h1,h2,hx,this]
      · simp only [if_true,h3,hq,decide_false,Bool.or_false]
        by_cases hx:i / lo<r
        · simp [h1,h2,hx,Nat.lt_succ_of_lt hx]
        · have:¬ i / lo<r+1:=by lia
          simp [h1,h2,hx,this]
theorem repM_bit (p w:Nat) (hp:p<2 ^ w) (hw:0<w):∀ (k i:Nat),(repM p w k).testBit i=(decide (i<w*k)&&p.testBit (i % w))
  | 0,i=>by simp [repM]
  | k+1,i=>by
    show (p ||| (repM p w k <<< w)).testBit i=_
    rw [Nat.testBit_or,Nat.testBit_shiftLeft]
    by_cases h:w≤i
    · have e:p.testBit i=false:=Nat.testBit_lt_two_pow (Nat.lt_of_lt_of_le hp (Nat.pow_le_pow_right (by decide) h))
      rw [e,repM_bit p w hp hw k (i - w)]
      have e2:(i - w) % w=i % w:=by
        conv=>rhs;rw [← Nat.sub_add_cancel h,Nat.add_mod_right]
      have e3:i - w<w*k↔i<w*(k+1):=by rw [Nat.mul_succ];lia
      simp [h,e2,e3]
    · have e2:i % w=i:=Nat.mod_eq_of_lt (by lia)
      have e3:i<w*(k+1):=by rw [Nat.mul_succ];exact Nat.lt_of_lt_of_le (by lia) (Nat.le_add_left _ _)
      simp [h,e2,e3]
theorem digM_lt (P:Nat→Bool) (lo:Nat) (hl:0<lo) (r:Nat):digM P lo r<2 ^ (lo*r):=by
  refine Nat.lt_pow_two_of_testBit _ fun i hi=>?_
  rw [digM_bit P lo hl]
  have:¬ i<lo*r:=by lia
  simp [this]
theorem repM_lt (p w:Nat) (hp:p<2 ^ w) (hw:0<w) (k:Nat):repM p w k<2 ^ (w*k):=by
  refine Nat.lt_pow_two_of_testBit _ fun i hi=>?_
  rw [repM_bit p w hp hw]
  have:¬ i<w*k:=by lia
  simp [this]
noncomputable def mk (P:Nat→Bool) (lo r k1 k2:Nat):Nat:=repM (repM (digM P lo r) (lo*r) k1) (lo*r*k1) k2
theorem mk_bit (P:Nat→Bool) (lo r k1 k2:Nat) (hl:0<lo) (hr:0<r) (h1:0<k1) (i:Nat) (hi:i<lo*r*k1*k2):(mk P lo r k1 k2).testBit i=P (i / lo % r):=by
  unfold mk
  have hw:0<lo*r:=Nat.mul_pos hl hr
  have hw2:0<lo*r*k1:=Nat.mul_pos hw h1
  rw [repM_bit _ _ (repM_lt _ _ (digM_lt P lo hl r) hw k1) hw2,repM_bit _ _ (digM_lt P lo hl r) hw,digM_bit P lo hl]
  have e1:i % (lo*r*k1)<lo*r*k1:=Nat.mod_lt _ hw2
  have e2:i % (lo*r*k1) % (lo*r)=i % (lo*r):=Nat.mod_mul_right_mod ..
  have e3:i % (lo*r)<lo*r:=Nat.mod_lt _ hw
  rw [e2,Nat.mod_mul_right_div_self]
  simp [hi,e1,e3]
end
section
noncomputable def any3 (f:Nat→Fo):Fo:=.dis (f 0) (.dis (f 1) (f 2))
noncomputable def all3 (f:Nat→Fo):Fo:=.con (f 0) (.con (f 1) (f 2))
noncomputable def any8 (f:Nat→Fo):Fo:=.dis (f 0) (.dis (f 1) (.dis (f 2) (.dis (f 3) (.dis (f 4) (.dis (f 5) (.dis (f 6) (f 7)))))))
noncomputable def all8 (f:Nat→Fo):Fo:=.con (f 0) (.con (f 1) (.con (f 2) (.con (f 3) (.con (f 4) (.con (f 5) (.con (f 6) (f 7)))))))
noncomputable def toF (p e q:Nat):Fo:=.v (11+6*p+3*e+q)
noncomputable def walkT {α:Type} (v:Nat→α) (st:Nat→(Nat→α)→α) (p0:Nat):α :=
  st p0 fun p1=>bif Nat.beq p1 p0 then v (2 ^ p0) else
  st p1 fun p2=>bif Nat.beq p2 p1 then v (2 ^ p1) else bif Nat.beq p2 p0 then v (2 ^ p0+2 ^ p1) else
  st p2 fun p3=>bif Nat.beq p3 p2 then v (2 ^ p2) else bif Nat.beq p3 p1 then v (2 ^ p1+2 ^ p2) else v (2 ^ p0+2 ^ p1+2 ^ p2)
noncomputable def stepF (p:Nat) (k:Nat→Fo):Fo:=.sel (.v (8+p)) (any3 fun q=>.con (toF p 0 q) (k q)) (any3 fun q=>.con (toF p 1 q) (k q))
noncomputable def goF (c p:Nat) (k:Nat→Fo):Fo:=any3 fun q=>.con (toF p (Nat.land (Nat.shiftRight c p) 1) q) (k q)
noncomputable def foA:List Fo:=[walkT .v stepF 0,walkT .v stepF 1,walkT .v stepF 2]++(List.range 24).map fun i=>walkT .v (goF (i / 3)) (i % 3)
noncomputable def bestV (h:Nat):Fo:=.v (29+h)
noncomputable def wonV (c h:Nat):Fo:=.v (32+3*c+h)
noncomputable def foB:List Fo:=((List.range 8).map fun c=>all3 fun h=>.dis (.neg (bestV h)) (wonV c h))++((List.range 8).map fun c=>all3 fun h=>.dis (.neg (wonV c h)) (bestV h))
noncomputable def oddV (c:Nat):Fo:=.v (56+c)
noncomputable def evenV (c:Nat):Fo:=.v (64+c)
noncomputable def mineF (p:Nat):Fo:=.v (8+p)
noncomputable def yourF (p:Nat):Fo:=.neg (.v (8+p))
noncomputable def ff:Fo:=.neg .tt
noncomputable def bitsF (q:Nat→Fo) (c x:Nat):Fo:=all3 fun p=>if Nat.testBit x p then (if Nat.testBit c p then q p else ff) else (if Nat.testBit c p then .neg (q p) else .tt)
noncomputable def inF (q:Nat→Fo) (x:Nat):Fo:=all3 fun p=>if Nat.testBit x p then q p else .tt
noncomputable def foC:List Fo:=[any8 fun x=>.con (inF mineF x) (all8 fun c=>.dis (.neg (bitsF mineF c x)) (oddV c)),any8 fun x=>.con (inF yourF x) (all8 fun c=>.dis (.neg (bitsF yourF c x)) (evenV c))]
noncomputable def pats:List Nat:=[0,2,4,10,12,14,16,34,48,50,68,80,84,170,174,186,204,206,220,238,240,242,244,250,252,254]
noncomputable def fullN:Nat:=ones (208*729)
noncomputable def varN:Nat→Nat
  | 0=>0
  | n=>if Nat.blt n 8 then mk (fun k=>Nat.testBit (pats.getD k 0) n) 8 26 1 729 else if Nat.blt n 11 then mk (fun o=>Nat.testBit o (n - 8)) 1 8 26 729 else
    mk (fun d=>Nat.beq d ((n - 11) % 3)) (208*3 ^ ((n - 11) / 3)) 3 1 (3 ^ (5 - (n - 11) / 3))
noncomputable def val (v:Nat→Nat) (l:List Fo) (n:Nat):Nat:=match l[n]? with
  | some f=>f.n fullN v
  | none=>0
noncomputable def v1 (n:Nat):Nat:=if Nat.blt n 29 then varN n else val varN foA (n - 29)
noncomputable def v2 (n:Nat):Nat:=if Nat.blt n 56 then v1 n else val v1 foB (n - 56)
theorem games:(Nat.beq (val v2 foC 0) fullN&&Nat.beq (val v2 foC 1) fullN)=true:=by kernel_rfl
end
section
structure Gm where
  to:Nat→Bool→Nat
  own:Nat→Bool
  num:Nat→Nat
noncomputable def topOf (num:Nat→Nat) (C:Nat):Nat:=max (if Nat.testBit C 0 then num 0 else 0) (max (if Nat.testBit C 1 then num 1 else 0) (if Nat.testBit C 2 then num 2 else 0))
noncomputable def oddC (num:Nat→Nat) (C:Nat):Bool:=topOf num C % 2==1
noncomputable def stepB (G:Gm) (p:Nat) (k:Nat→Bool):Bool:=if G.own p then k (G.to p false)||k (G.to p true) else k (G.to p false)&&k (G.to p true)
noncomputable def goB (G:Gm) (c p:Nat) (k:Nat→Bool):Bool:=k (G.to p (Nat.land (Nat.shiftRight c p) 1==1))
noncomputable def bestB (G:Gm) (h:Nat):Bool:=walkT (oddC G.num) (stepB G) h
noncomputable def wonB (G:Gm) (c h:Nat):Bool:=walkT (oddC G.num) (goB G c) h
noncomputable def nat3 {α:Type} (a b c:α):Nat→α
  | 0=>a
  | 1=>b
  | _=>c
noncomputable def b2 (b:Bool) (n:Nat):Nat:=if b then n else 0
noncomputable def patB (f:Nat→Bool):Nat:=b2 (f 1) 2+(b2 (f 2) 4+(b2 (f 3) 8+(b2 (f 4) 16+(b2 (f 5) 32+(b2 (f 6) 64+b2 (f 7) 128)))))
noncomputable def oddN (n:Nat):Bool:=n % 2==1
theorem top_sets (a b c:Nat):topOf (nat3 a b c) 1=a∧topOf (nat3 a b c) 2=b∧topOf (nat3 a b c) 3=max a b∧topOf (nat3 a b c) 4=c∧topOf (nat3 a b c) 5=max a c∧topOf (nat3 a b c) 6=max b c∧topOf (nat3 a b c) 7=max a (max b c):=by
  refine ⟨?_,?_,?_,?_,?_,?_,?_⟩<;>simp [topOf,nat3,Nat.testBit,Nat.shiftRight]
noncomputable def patM (ea eb ec x y z t:Bool):Nat:=patB (fun C=>([false,ea,eb,x,ec,y,z,t]:List Bool).getD C false)
theorem pat_eq (a b c:Nat):patB (oddC (nat3 a b c))=patM (oddN a) (oddN b) (oddN c) (oddN (max a b)) (oddN (max a c)) (oddN (max b c)) (oddN (max a (max b c))):=by
  refine el07 (top_sets a b c) fun h1 h2 h3 h4 h5 h6 h7=>?_
  unfold patB patM patB oddC
  rw [h1,h2,h3,h4,h5,h6,h7];rfl
theorem pat_mem (a b c:Nat):pats.contains (patB (oddC (nat3 a b c)))=true:=by
  rw [pat_eq]
  rcases Nat.le_total a b with h1|h1<;>rcases Nat.le_total b c with h2|h2<;>rcases Nat.le_total a c with h3|h3
  · rw [Nat.max_eq_right h1,Nat.max_eq_right h3,Nat.max_eq_right h2,Nat.max_eq_right h3]
    cases oddN a<;>cases oddN b<;>cases oddN c<;>decide
  · have e:a=b:=by lia
    have e2:c=b:=by lia
    subst e e2
    simp only [Nat.max_self]
    cases oddN c<;>decide
  · rw [Nat.max_eq_right h1,Nat.max_eq_right h3,Nat.max_eq_left h2,Nat.max_eq_right h1]
    cases oddN a<;>cases oddN b<;>cases oddN c<;>decide
  · rw [Nat.max_eq_right h1,Nat.max_eq_left h3,Nat.max_eq_left h2,Nat.max_eq_right h1]
    cases oddN a<;>cases oddN b<;>cases oddN c<;>decide
  · rw [Nat.max_eq_left h1,Nat.max_eq_right h3,Nat.max_eq_right h2,Nat.max_eq_right h3]
    cases oddN a<;>cases oddN b<;>cases oddN c<;>decide
  · rw [Nat.max_eq_left h1,Nat.max_eq_left h3,Nat.max_eq_right h2,Nat.max_eq_left h3]
    cases oddN a<;>cases oddN b<;>cases oddN c<;>decide
  · have e:a=b:=by lia
    have e2:c=b:=by lia
    subst e e2
    simp only [Nat.max_self]
    cases oddN c<;>decide
  · rw [Nat.max_eq_left h1,Nat.max_eq_left h3,Nat.max_eq_left h2,Nat.max_eq_left h1]
    cases oddN a<;>cases oddN b<;>cases oddN c<;>decide
end
end Mine
end
section
open PySem PySem.W PyProof.Rows
namespace Mine
section
noncomputable def plS (i:Nat):Stmt:=(fdB (stm 70)).getD i (.Pass default)
noncomputable def plnm (w:World):List (Str × NameKind):=(fdAt w.params 281).scope.names
noncomputable abbrev plO (w:World):Ops:=ops2 w ctE X0 10
theorem pl_parts:fdB (stm 70)=[plS 0,plS 1,plS 2]:=by kernel_rfl!
theorem pl_for:plS 1=.For (forT (plS 1)) (forI (plS 1)) (forB (plS 1)) [] (posS (plS 1)):=by kernel_rfl!
noncomputable def plB (i:Nat):Stmt:=(forB (plS 1)).getD i (.Pass default)
theorem pl_body:forB (plS 1)=[plB 0,plB 1,plB 2,plB 3,plB 4]:=by kernel_rfl!
theorem pl_b0:plB 0=.Assign [.Name "places" (nmP (asgT (plB 0)))] (asgX (plB 0)) (posS (plB 0)):=by kernel_rfl!
theorem pl_b1:plB 1=.If (ifT (plB 1)) (ifB (plB 1)) [] (ifP (plB 1)):=by kernel_rfl!
theorem pl_b2:plB 2=.Assign [.Name "place" (nmP (asgT (plB 2)))] (asgX (plB 2)) (posS (plB 2)):=by kernel_rfl!
theorem pl_b3:plB 3=.Assign [.Name "here" (nmP (asgT (plB 3)))] (asgX (plB 3)) (posS (plB 3)):=by kernel_rfl!
theorem pl_b4:plB 4=.Assign [.Name "text" (nmP (asgT (plB 4)))] (asgX (plB 4)) (posS (plB 4)):=by kernel_rfl!
noncomputable def plI:PySem.Expr:=subE (asgX (plB 3))
theorem pl_x3:asgX (plB 3)=.Subscript (subV (asgX (plB 3))) plI (subP (asgX (plB 3))):=by kernel_rfl!
noncomputable def binO:PySem.Expr→Operator | .BinOp _ o _ _=>o|_=>.Add
theorem pl_i:plI=.BinOp (binL plI) (binO plI) (binR plI) (binP plI):=by kernel_rfl!
theorem ev_idxB {w:World} {ct:CT} {X:Extra} {m:Nat} {c:Cx} {v l r:PySem.Expr} {op:Operator} {q pos:Pos} {x y d:D} (hX:X (ops2 w ct X m) c (.Subscript v (.BinOp l op r q) pos)=none) (hv:(ops2 w ct X m).ev c v=some x) (hi:(ops2 w ct X m).ev c (.BinOp l op r q)=some y) (hs:isSeqD x=true) (hd:idxD x y=some d):(ops2 w ct X (m+1)).ev c (.Subscript v (.BinOp l op r q) pos)=some d:=by
  refine ev_ix (fun _ _=>rfl) hX hv hi hs hd
noncomputable def bitI (c p:Nat):Int:=PySem.Builtin.bitAnd ((c:Int).fdiv (2 ^ p)) 1
noncomputable def bitB (c p:Nat):Bool:=Nat.land (Nat.shiftRight c p) 1==1
theorem bitI_is:∀ c p,c<8→p<3→bitI c p=if bitB c p then 1 else 0:=by
  have h:((List.range 8).all fun c=>(List.range 3).all fun p=>bitI c p==if bitB c p then 1 else 0)=true:=by kernel_rfl!
  intro c p hc hp
  have h1:=List.all_eq_true.1 h c (List.mem_range.2 hc)
  have h2:=List.all_eq_true.1 h1 p (List.mem_range.2 hp)
  exact eq_of_beq h2
noncomputable def nx (r:Row) (c p:Nat):Nat:=if bitB c p then r.b else r.a
theorem idx_nx (r:Row) (c p:Nat) (hc:c<8) (hp:p<3):idxD (.list [.str (letS r.a),.str (letS r.b)]) (.int (bitI c p))=some (.str (letS (nx r c p))):=by
  rw [bitI_is c p hc hp]
  unfold nx
  cases bitB c p<;>rfl
noncomputable def rowAtP (r0 r1 r2:Row):Nat→Row
  | 0=>r0
  | 1=>r1
  | _=>r2
noncomputable def sgc (s:Nat):Nat:=(#[40,41,91,93,58,44,59,43,45,42,47,124,38,60,62,61]:Array Nat).getD s 0
noncomputable abbrev plR (B:D) (c:Nat) (T h:Str) (x y z:D):List (Str × D):=[(("text":Str),.str T),(("here":Str),.str h),(("place":Str),x),(("places":Str),y),(("turn":Str),z),(("board":Str),B),(("choice":Str),.int c)]
noncomputable def plσ (first:Bool) (B:D) (c t:Nat) (T h:Str) (x y z:D):List (Str × D):=match first with
  | true=>(("turn":Str),.int t)::[(("text":Str),.str T),(("board":Str),B),(("choice":Str),.int c),(("here":Str),.str h)]
  | false=>(("turn":Str),.int t)::plR B c T h x y z
theorem pl_idx (w:World) (first:Bool) (r0 r1 r2:Row) (c t:Nat) (T h:Str) (x y z P:D) (hc:c<8):∀ p:Nat,p<3→(plO w).ev ⟨plnm w,(("place":Str),.int p)::(("places":Str),P)::plσ first (boardD r0 r1 r2) c t T h x y z⟩ (asgX (plB 3))=some (.str (letS (nx (rowAtP r0 r1 r2 p) c p))):=fun p hp=>by
  have e1:=atN (n:=3) (f:=fun p=>(ops2 w ctE X0 9).ev ⟨plnm w,(("place":Str),.int p)::(("places":Str),P)::plσ first (boardD r0 r1 r2) c t T h x y z⟩ (subV (asgX (plB 3)))) (g:=fun p=>some (.list [.str (letS (rowAtP r0 r1 r2 p).a),.str (letS (rowAtP r0 r1 r2 p).b)])) (by cases first<;>kernel_rfl!) hp
  have e2:=atN (n:=3) (f:=fun p=>(ops2 w ctE X0 9).ev ⟨plnm w,(("place":Str),.int p)::(("places":Str),P)::plσ first (boardD r0 r1 r2) c t T h x y z⟩ plI) (g:=fun p=>some (.int (bitI c p))) (by cases first<;>kernel_rfl!) hp
  rw [pl_x3]
  rw [pl_i] at e2 ⊢
  exact ev_idxB rfl e1 e2 rfl (idx_nx _ c p hc hp)
section
variable (w:World) (r0 r1 r2:Row) (c t:Nat) (f:Bool) (T Pl T2:Str) (p q:Nat) (x y z:D)
noncomputable abbrev plσ0:List (Str × D):=plσ f (boardD r0 r1 r2) c t T (letS p) x y z
noncomputable abbrev plσ1:List (Str × D):=(("places":Str),.str Pl)::plσ0 r0 r1 r2 c t f T p x y z
noncomputable abbrev plσ2:List (Str × D):=(("place":Str),.int p)::plσ1 r0 r1 r2 c t f T Pl p x y z
noncomputable abbrev plσ3:List (Str × D):=(("here":Str),.str (letS q))::plσ2 r0 r1 r2 c t f T Pl p x y z
noncomputable abbrev plσ4:List (Str × D):=(("text":Str),.str T2)::plσ3 r0 r1 r2 c t f T Pl p q x y z
theorem pl_ded:ded (plσ4 r0 r1 r2 c t f T Pl T2 p q x y z)=plR (boardD r0 r1 r2) c T2 (letS q) (.int p) (.str Pl) (.int t):=by cases f<;>kernel_rfl!
noncomputable def PlT (b:Bool):Prop:=(plO w).ev ⟨plnm w,plσ0 r0 r1 r2 c t f T p x y z⟩ (asgX (plB 0))=some (.str Pl)∧(plO w).tr ⟨plnm w,plσ1 r0 r1 r2 c t f T Pl p x y z⟩ (ifT (plB 1))=some b
variable {w r0 r1 r2 c t f T Pl T2 p q x y z}
theorem pl_next (H:PlT w r0 r1 r2 c t f T Pl p x y z false) (hc:c<8) (hp:p<3) (hq:nx (rowAtP r0 r1 r2 p) c p=q) (e4:(plO w).ev ⟨plnm w,plσ3 r0 r1 r2 c t f T Pl p q x y z⟩ (asgX (plB 4))=some (.str T2)) (n:Nat) :
    exs2 (plO w) "" (plnm w) (n+6) ⟨plσ0 r0 r1 r2 c t f T p x y z,none⟩ (forB (plS 1))=some (.next,⟨plσ4 r0 r1 r2 c t f T Pl T2 p q x y z,none⟩):=by
  rw [pl_body]
  have e2:=atN (n:=3) (f:=fun p=>(plO w).ev ⟨plnm w,plσ1 r0 r1 r2 c t f T Pl p x y z⟩ (asgX (plB 2))) (g:=fun p=>some (.int p)) (by cases f<;>kernel_rfl!) hp
  have e3:=pl_idx w f r0 r1 r2 c t T (letS p) x y z (.str Pl) hc p hp
  rw [hq] at e3
  have a0:=s1_Asg (on:="") (nm:=plnm w) (rec:=exs2 (plO w) "" (plnm w) (n+5)) (n:="places") (p:=nmP (asgT (plB 0))) (pos:=posS (plB 0)) (g:=⟨plσ0 r0 r1 r2 c t f T p x y z,none⟩) (by kernel_rfl!) (by kernel_rfl!) (ev2_of (g:=⟨plσ0 r0 r1 r2 c t f T p x y z,none⟩) H.1)
  have a1:=s1_If (on:="") (rec:=exs2 (plO w) "" (plnm w) (n+4)) (b:=ifB (plB 1)) (e:=[]) (p:=ifP (plB 1)) (tr2_of (on:="") (g:=⟨plσ1 r0 r1 r2 c t f T Pl p x y z,none⟩) H.2)
  have a2:=s1_Asg (on:="") (nm:=plnm w) (rec:=exs2 (plO w) "" (plnm w) (n+3)) (n:="place") (p:=nmP (asgT (plB 2))) (pos:=posS (plB 2)) (g:=⟨plσ1 r0 r1 r2 c t f T Pl p x y z,none⟩) (by kernel_rfl!) (by kernel_rfl!) (ev2_of (g:=⟨plσ1 r0 r1 r2 c t f T Pl p x y z,none⟩) e2)
  have a3:=s1_Asg (on:="") (nm:=plnm w) (rec:=exs2 (plO w) "" (plnm w) (n+2)) (n:="here") (p:=nmP (asgT (plB 3))) (pos:=posS (plB 3)) (g:=⟨plσ2 r0 r1 r2 c t f T Pl p x y z,none⟩) (by kernel_rfl!) (by kernel_rfl!) (ev2_of (g:=⟨plσ2 r0 r1 r2 c t f T Pl p x y z,none⟩) e3)
  have a4:=s1_Asg (on:="") (nm:=plnm w) (rec:=exs2 (plO w) "" (plnm w) (n+1)) (n:="text") (p:=nmP (asgT (plB 4))) (pos:=posS (plB 4)) (g:=⟨plσ3 r0 r1 r2 c t f T Pl p q x y z,none⟩) (by kernel_rfl!) (by kernel_rfl!) (ev2_of (g:=⟨plσ3 r0 r1 r2 c t f T Pl p q x y z,none⟩) e4)
  rw [← pl_b0] at a0
  rw [← pl_b1,if_neg (by simp)] at a1
  rw [← pl_b2] at a2
  rw [← pl_b3] at a3
  rw [← pl_b4] at a4
  rw [x2_next (k:=n+5) (by kernel_rfl!) (by kernel_rfl!) a0,x2_next (k:=n+4) (by kernel_rfl!) (by kernel_rfl!) (a1.trans rfl),x2_next (k:=n+3) (by kernel_rfl!) (by kernel_rfl!) a2,x2_next (k:=n+2) (by kernel_rfl!) (by kernel_rfl!) a3,x2_next (k:=n+1) (by kernel_rfl!) (by kernel_rfl!) a4]
  rfl
theorem pl_stop (H:PlT w r0 r1 r2 c t f T Pl p x y z true) (n:Nat):exs2 (plO w) "" (plnm w) (n+3) ⟨plσ0 r0 r1 r2 c t f T p x y z,none⟩ (forB (plS 1))=some (.ret (.str T),⟨plσ1 r0 r1 r2 c t f T Pl p x y z,none⟩):=by
  rw [pl_body]
  have a0:=s1_Asg (on:="") (nm:=plnm w) (rec:=exs2 (plO w) "" (plnm w) (n+2)) (n:="places") (p:=nmP (asgT (plB 0))) (pos:=posS (plB 0)) (g:=⟨plσ0 r0 r1 r2 c t f T p x y z,none⟩) (by kernel_rfl!) (by kernel_rfl!) (ev2_of (g:=⟨plσ0 r0 r1 r2 c t f T p x y z,none⟩) H.1)
  have a1:=s1_If (on:="") (rec:=exs2 (plO w) "" (plnm w) (n+1)) (b:=ifB (plB 1)) (e:=[]) (p:=ifP (plB 1)) (tr2_of (on:="") (g:=⟨plσ1 r0 r1 r2 c t f T Pl p x y z,none⟩) H.2)
  rw [← pl_b0] at a0
  rw [← pl_b1,if_pos rfl] at a1
  rw [x2_next (k:=n+2) (by kernel_rfl!) (by kernel_rfl!) a0]
  exact x2_ret (k:=n+1) (by kernel_rfl!) (by kernel_rfl!) (a1.trans (by cases f<;>kernel_rfl!))
theorem pl_t1 {p0:Nat} (h0:p0<3):PlT w r0 r1 r2 c 0 true ⟨#[97+p0]⟩ ⟨#[97+p0]⟩ p0 x y z false :=
  ⟨by kernel_rfl!,atN (n:=3) (f:=fun p=>(plO w).tr ⟨plnm w,plσ1 r0 r1 r2 c 0 true ⟨#[97+p]⟩ ⟨#[97+p]⟩ p x y z⟩ (ifT (plB 1))) (g:=fun _=>some false) (by kernel_rfl!) h0⟩
theorem pl_t2 {p0 p1 t1:Nat} (h0:p0<3) (h1:p1<3):PlT w r0 r1 r2 c 1 false ⟨#[97+p0,t1,97+p1]⟩ ⟨#[97+p0,97+p1]⟩ p1 x y z (p1==p0):=by
  refine ⟨by kernel_rfl!,?_⟩
  have h:=atN (n:=9) (f:=fun i=>(plO w).tr ⟨plnm w,plσ1 r0 r1 r2 c 1 false ⟨#[97+i % 3,t1,97+i / 3]⟩ ⟨#[97+i % 3,97+i / 3]⟩ (i / 3) x y z⟩ (ifT (plB 1))) (g:=fun i=>some (i / 3==i % 3)) (by kernel_rfl!) (i:=p0+3*p1) (by lia)
  rwa [show (p0+3*p1) % 3=p0 by lia,show (p0+3*p1) / 3=p1 by lia] at h
theorem pl_t3 {p0 p1 p2 t1 t2:Nat} (h0:p0<3) (h1:p1<3) (h2:p2<3):PlT w r0 r1 r2 c 2 false ⟨#[97+p0,t1,97+p1,t2,97+p2]⟩ ⟨#[97+p0,97+p1,97+p2]⟩ p2 x y z (p2==p0||p2==p1):=by
  refine ⟨by kernel_rfl!,?_⟩
  have h:=atN (n:=27) (f:=fun i=>(plO w).tr ⟨plnm w,plσ1 r0 r1 r2 c 2 false ⟨#[97+i % 3,t1,97+i / 3 % 3,t2,97+i / 9]⟩ ⟨#[97+i % 3,97+i / 3 % 3,97+i / 9]⟩ (i / 9) x y z⟩ (ifT (plB 1))) (g:=fun i=>some (i / 9==i % 3||i / 9==i / 3 % 3)) (by kernel_rfl!) (i:=p0+3*p1+9*p2) (by lia)
  rwa [show (p0+3*p1+9*p2) % 3=p0 by lia,show (p0+3*p1+9*p2) / 3 % 3=p1 by lia,show (p0+3*p1+9*p2) / 9=p2 by lia] at h
theorem pl_e1 {p0:Nat} (h:p0<3):(plO w).ev ⟨plnm w,plσ3 r0 r1 r2 c t f ⟨#[97+p0]⟩ Pl p0 q x y z⟩ (asgX (plB 4))=some (.str ⟨#[97+p0,sgc (rowAtP r0 r1 r2 p0).s,97+q]⟩) :=
  atN (n:=3) (f:=fun p=>(plO w).ev ⟨plnm w,plσ3 r0 r1 r2 c t f ⟨#[97+p]⟩ Pl p q x y z⟩ (asgX (plB 4))) (g:=fun p=>some (.str ⟨#[97+p,sgc (rowAtP r0 r1 r2 p).s,97+q]⟩)) (by cases f<;>kernel_rfl!) h
theorem pl_e2 {p0 p1 t1:Nat} (h:p1<3):(plO w).ev ⟨plnm w,plσ3 r0 r1 r2 c t f ⟨#[97+p0,t1,97+p1]⟩ Pl p1 q x y z⟩ (asgX (plB 4))=some (.str ⟨#[97+p0,t1,97+p1,sgc (rowAtP r0 r1 r2 p1).s,97+q]⟩) :=
  atN (n:=3) (f:=fun p=>(plO w).ev ⟨plnm w,plσ3 r0 r1 r2 c t f ⟨#[97+p0,t1,97+p]⟩ Pl p q x y z⟩ (asgX (plB 4))) (g:=fun p=>some (.str ⟨#[97+p0,t1,97+p,sgc (rowAtP r0 r1 r2 p).s,97+q]⟩)) (by cases f<;>kernel_rfl!) h
theorem pl_e3 {p0 p1 p2 t1 t2:Nat} (h:p2<3):(plO w).ev ⟨plnm w,plσ3 r0 r1 r2 c t f ⟨#[97+p0,t1,97+p1,t2,97+p2]⟩ Pl p2 q x y z⟩ (asgX (plB 4))=some (.str ⟨#[97+p0,t1,97+p1,t2,97+p2,sgc (rowAtP r0 r1 r2 p2).s,97+q]⟩) :=
  atN (n:=3) (f:=fun p=>(plO w).ev ⟨plnm w,plσ3 r0 r1 r2 c t f ⟨#[97+p0,t1,97+p1,t2,97+p]⟩ Pl p q x y z⟩ (asgX (plB 4))) (g:=fun p=>some (.str ⟨#[97+p0,t1,97+p1,t2,97+p,sgc (rowAtP r0 r1 r2 p).s,97+q]⟩)) (by cases f<;>kernel_rfl!) h
end
end
section
noncomputable def nxP (r0 r1 r2:Row) (c p:Nat):Nat:=nx (rowAtP r0 r1 r2 p) c p
noncomputable def sgP (r0 r1 r2:Row) (p:Nat):Nat:=sgc (rowAtP r0 r1 r2 p).s
noncomputable def playP (nxt sg:Nat→Nat) (p0:Nat):Str :=
  if nxt p0=p0 then ⟨#[97+p0,sg p0,97+nxt p0]⟩
  else if nxt (nxt p0)=p0∨nxt (nxt p0)=nxt p0 then ⟨#[97+p0,sg p0,97+nxt p0,sg (nxt p0),97+nxt (nxt p0)]⟩
  else ⟨#[97+p0,sg p0,97+nxt p0,sg (nxt p0),97+nxt (nxt p0),sg (nxt (nxt p0)),97+nxt (nxt (nxt p0))]⟩
structure RowOk (r:Row):Prop where
  a:r.a<3
  b:r.b<3
  s:r.s<16
theorem nx_lt {r:Row} (h:RowOk r) (c p:Nat):nx r c p<3:=by
  unfold nx
  split
  · exact h.b
  · exact h.a
theorem play_run (w:World) {r0 r1 r2:Row} (H0:RowOk r0) (H1:RowOk r1) (H2:RowOk r2) {c p0:Nat} (hc:c<8) (h0:p0<3) :
    ∃ g,exs2 (plO w) "" (plnm w) 12 ⟨[(("board":Str),boardD r0 r1 r2),(("choice":Str),.int c),(("here":Str),.str (letS p0))],none⟩ (fdB (stm 70))=some (.ret (.str (playP (nxP r0 r1 r2 c) (sgP r0 r1 r2) p0)),g):=by
  have hR:∀ p,RowOk (rowAtP r0 r1 r2 p):=fun p=>by unfold rowAtP;split<;>assumption
  have lt:∀ p,nxP r0 r1 r2 c p<3:=fun p=>nx_lt (hR p) c p
  rw [pl_parts]
  have s0:st1 (plO w) "" (plnm w) (exs2 (plO w) "" (plnm w) 11) ⟨[(("board":Str),boardD r0 r1 r2),(("choice":Str),.int c),(("here":Str),.str (letS p0))],none⟩ (plS 0)=some (.next,⟨[(("text":Str),.str ⟨#[97+p0]⟩),(("board":Str),boardD r0 r1 r2),(("choice":Str),.int c),(("here":Str),.str (letS p0))],none⟩):=by kernel_rfl!
  rw [x2_next (k:=11) (by kernel_rfl!) (by kernel_rfl!) s0]
  have src:srcD (plO w) ⟨plnm w,[(("text":Str),.str ⟨#[97+p0]⟩),(("board":Str),boardD r0 r1 r2),(("choice":Str),.int c),(("here":Str),.str (letS p0))]⟩ (forI (plS 1))=some ([.int 0,.int 1,.int 2],tgName):=by kernel_rfl!
  have hf:=s1_For (on:="") (rec:=exs2 (plO w) "" (plnm w) 10) (g:=⟨[(("text":Str),.str ⟨#[97+p0]⟩),(("board":Str),boardD r0 r1 r2),(("choice":Str),.int c),(("here":Str),.str (letS p0))],none⟩) (t:=forT (plS 1)) (body:=forB (plS 1)) (p:=posS (plS 1)) src (by kernel_rfl!)
  rw [← pl_for] at hf
  have n1:=pl_next (x:=.none) (y:=.none) (z:=.none) (pl_t1 (w:=w) (r0:=r0) (r1:=r1) (r2:=r2) (c:=c) h0) hc h0 (q:=nxP r0 r1 r2 c p0) rfl (pl_e1 h0) 4
  rw [forD_cons (σ1:=plσ0 r0 r1 r2 c 0 true ⟨#[97+p0]⟩ p0 .none .none .none) (by kernel_rfl!) (by kernel_rfl!) n1,pl_ded] at hf
  by_cases c1:nxP r0 r1 r2 c p0=p0
  · have H:=pl_t2 (w:=w) (r0:=r0) (r1:=r1) (r2:=r2) (c:=c) (t1:=sgP r0 r1 r2 p0) (x:=.int p0) (y:=.str ⟨#[97+p0]⟩) (z:=.int (0:Nat)) h0 (lt p0)
    rw [beq_iff_eq.2 c1] at H
    rw [forD_ret (by kernel_rfl!) (by kernel_rfl!) (pl_stop H 7)] at hf
    unfold playP
    rw [if_pos c1]
    exact ⟨_,x2_ret (k:=10) (by kernel_rfl!) (by kernel_rfl!) hf⟩
  · have H:=pl_t2 (w:=w) (r0:=r0) (r1:=r1) (r2:=r2) (c:=c) (t1:=sgP r0 r1 r2 p0) (x:=.int p0) (y:=.str ⟨#[97+p0]⟩) (z:=.int (0:Nat)) h0 (lt p0)
    rw [beq_eq_false_iff_ne.2 c1] at H
    have n2:=pl_next H hc (lt p0) (q:=nxP r0 r1 r2 c (nxP r0 r1 r2 c p0)) rfl (pl_e2 (lt p0)) 4
    rw [forD_cons (by kernel_rfl!) (by kernel_rfl!) n2,pl_ded] at hf
    have H:=pl_t3 (w:=w) (r0:=r0) (r1:=r1) (r2:=r2) (c:=c) (t1:=sgP r0 r1 r2 p0) (t2:=sgP r0 r1 r2 (nxP r0 r1 r2 c p0)) (x:=.int (nxP r0 r1 r2 c p0)) (y:=.str ⟨#[97+p0,97+nxP r0 r1 r2 c p0]⟩) (z:=.int (1:Nat)) h0 (lt p0) (lt (nxP r0 r1 r2 c p0))
    by_cases c2:nxP r0 r1 r2 c (nxP r0 r1 r2 c p0)=p0∨nxP r0 r1 r2 c (nxP r0 r1 r2 c p0)=nxP r0 r1 r2 c p0
    · rw [Bool.or_eq_true_iff.2 (c2.imp beq_iff_eq.2 beq_iff_eq.2)] at H
      rw [forD_ret (by kernel_rfl!) (by kernel_rfl!) (pl_stop H 7)] at hf
      unfold playP
      rw [if_neg c1,if_pos c2]
      exact ⟨_,x2_ret (k:=10) (by kernel_rfl!) (by kernel_rfl!) hf⟩
    · rw [Bool.or_eq_false_iff.2 ⟨beq_eq_false_iff_ne.2 fun e=>c2 (.inl e),beq_eq_false_iff_ne.2 fun e=>c2 (.inr e)⟩] at H
      have n3:=pl_next H hc (lt (nxP r0 r1 r2 c p0)) (q:=nxP r0 r1 r2 c (nxP r0 r1 r2 c (nxP r0 r1 r2 c p0))) rfl (pl_e3 (lt (nxP r0 r1 r2 c p0))) 4
      rw [forD_cons (by kernel_rfl!) (by kernel_rfl!) n3,pl_ded] at hf
      rw [x2_next (k:=10) (by kernel_rfl!) (by kernel_rfl!) (hf.trans rfl)]
      unfold playP
      rw [if_neg c1,if_neg c2]
      exact ⟨⟨_,none⟩,rfl⟩
theorem play_ok (w:World) (n:Nat) {r0 r1 r2:Row} (H0:RowOk r0) (H1:RowOk r1) (H2:RowOk r2) {c p0:Nat} (hc:c<8) (h0:p0<3):Contract w (n+2) (.ref 281) [boardD r0 r1 r2,.int c,.str (letS p0)] (.str (playP (nxP r0 r1 r2 c) (sgP r0 r1 r2) p0)):=by
  obtain ⟨g,e⟩:=play_run w H0 H1 H2 hc h0
  exact def_ok3 (ct:=ctE) (X:=X0) (m:=10) (k:=12) "" (defr_play w) (ctE_ok w n) (fun A R=>soundX0) rfl e
end
section
noncomputable def tx (v:Nat→Nat) (l:List Nat):Str:=⟨(l.map v).toArray⟩
structure Vok (v:Nat→Nat):Prop where
  dot:∀ i,7≤i→v i=46
  ne:∀ i,i<7→v i≠46
  low:∀ i j,i<3→j<7→v i=v j→i=j
noncomputable def fstOf (v:Nat→Nat) (c:Nat):Prop:=∀ j,j<c→v j≠v c
theorem first_of (v:Nat→Nat):∀ n i,i≤n→∃ j,j≤i∧v j=v i∧fstOf v j
  | n,i,h=>by
    by_cases e:∃ j,j<i∧v j=v i
    · obtain ⟨j,hj,ej⟩:=e
      match n with
      | 0=>lia
      | n+1 =>
        obtain ⟨k,hk,ek,fk⟩:=first_of v n j (by lia)
        exact ⟨k,by lia,ek.trans ej,fk⟩
    · exact ⟨i,Nat.le_refl _,rfl,fun j hj ej=>e ⟨j,hj,ej⟩⟩
noncomputable def vk (a b c:Nat):Nat→Nat
  | 0=>0|1=>1|2=>2|3=>3|4=>a|5=>b|6=>c|_=>46
noncomputable def Svc (v:Nat→Nat) (c:Nat):Prop:=c=46∨(c<7∧fstOf v c)
section
variable {v:Nat→Nat} (h:Vok v)
include h
theorem inj_v:Inj v (Svc v) where
  inj:=fun c d hc hd e=>by
    rcases hc with rfl|⟨lc,fc⟩<;>rcases hd with rfl|⟨ld,fd⟩
    · rfl
    · exact absurd (e.symm.trans (h.dot 46 (by decide))) (h.ne d ld)
    · exact absurd (e.trans (h.dot 46 (by decide))) (h.ne c lc)
    · rcases Nat.lt_trichotomy c d with l|l|l
      · exact absurd e (fd c l)
      · exact l
      · exact absurd e.symm (fc d l)
  dot:=h.dot 46 (by decide)
  sd:=.inl rfl
theorem fst_low {i:Nat} (hi:i≤3):fstOf v i:=fun j hj e=>by
  have:=h.low j i (by lia) (by lia) e
  lia
theorem up_low {i j:Nat} (hi:3≤i) (hi':i<7) (e:v j=v i):3≤j:=by
  rcases Nat.lt_or_ge j 3 with l|l
  · have:=h.low j i l hi' e;lia
  · exact l
theorem canonV:∃ a b c,a∈[3,4]∧b∈[3,4,5]∧c∈[3,4,5,6]∧(v 6=v 3→c=3)∧(∀ i,Svc v (vk a b c i))∧∀ i,v (vk a b c i)=v i:=by
  obtain ⟨a,la,ea,fa⟩:=first_of v 4 4 (Nat.le_refl _)
  obtain ⟨b,lb,eb,fb⟩:=first_of v 5 5 (Nat.le_refl _)
  obtain ⟨c,lc,ec,fc⟩:=first_of v 6 6 (Nat.le_refl _)
  have ua:=up_low h (by decide) (by decide) ea
  have ub:=up_low h (by decide) (by decide) eb
  have uc:=up_low h (by decide) (by decide) ec
  have M:∀ {x n:Nat},3≤x→x≤n→x∈List.range' 3 (n - 2):=fun hx hn=>List.mem_range'_1.2 ⟨hx,by lia⟩
  refine ⟨a,b,c,M ua la,M ub lb,M uc lc,fun e=>Nat.le_antisymm (Nat.le_of_not_lt fun l=>fc 3 l (e.symm.trans ec.symm)) uc,fun i=>?_,fun i=>?_⟩
  · match i with
    | 0=>exact .inr ⟨(by decide:0<7),fst_low h (by decide:0≤3)⟩
    | 1=>exact .inr ⟨(by decide:1<7),fst_low h (by decide:1≤3)⟩
    | 2=>exact .inr ⟨(by decide:2<7),fst_low h (by decide:2≤3)⟩
    | 3=>exact .inr ⟨(by decide:3<7),fst_low h (by decide:3≤3)⟩
    | 4=>exact .inr ⟨Nat.lt_of_le_of_lt la (by decide),fa⟩
    | 5=>exact .inr ⟨Nat.lt_of_le_of_lt lb (by decide),fb⟩
    | 6=>exact .inr ⟨Nat.lt_of_le_of_lt lc (by decide),fc⟩
    | _+7=>exact .inl rfl
  · match i with
    | 0|1|2|3=>rfl
    | 4=>exact ea
    | 5=>exact eb
    | 6=>exact ec
    | n+7=>exact (h.dot 46 (by decide)).trans (h.dot _ (Nat.le_add_left _ _)).symm
end
noncomputable def eV (v:Nat→Nat) (l m:List Nat):Bool:=ellB (tx v l) (tx v m)
noncomputable def hV (v:Nat→Nat) (l m:List Nat):Bool:=hasS (tx v l) (tx v m)
noncomputable def oV (v:Nat→Nat) (n:Nat) (l m:List Nat):List Nat:=Builtin.Str.occurrences (tx v l) (tx v m) 0 n 1
noncomputable def qV (v:Nat→Nat) (s:Nat):Bool:=v s==v 6
theorem inv {v:Nat→Nat} (h:Vok v):∃ a b c,a∈[3,4]∧b∈[3,4,5]∧c∈[3,4,5,6]∧(v 6=v 3→c=3)∧eV v=eV (vk a b c)∧hV v=hV (vk a b c)∧oV v=oV (vk a b c)∧qV v=qV (vk a b c):=by
  obtain ⟨a,b,c,ma,mb,mc,h3,hS,hv⟩:=canonV h
  have J:=inj_v h
  have t:∀ l,tx v l=ren v (tx (vk a b c) l):=fun l=>by
    show Str.mk _=Str.mk ((l.map (vk a b c)).toArray.map v)
    rw [List.map_toArray,List.map_map]
    exact congrArg (fun f=>Str.mk (List.map f l).toArray) (funext fun i=>(hv i).symm)
  have n:∀ l,In (Svc v) (tx (vk a b c) l):=fun l x hx=>by
    obtain ⟨i,-,rfl⟩:=List.mem_map.1 (show x∈l.map (vk a b c) from hx)
    exact hS i
  refine ⟨a,b,c,ma,mb,mc,h3,?_,?_,?_,?_⟩
  · funext l m;unfold eV;rw [t l,t m];exact ellB_ren J (n l) (n m)
  · funext l m;unfold hV;rw [t l,t m];exact hasS_ren J (n l) (n m)
  · funext k l m;unfold oV;rw [t l,t m];exact occ_ren J (n l) (n m) 0 k 1
  · funext s
    unfold qV
    rw [Bool.eq_iff_iff,beq_iff_eq,beq_iff_eq,← hv s,← hv 6]
    exact ⟨J.inj _ _ (hS s) (hS 6),congrArg v⟩
structure Shp where
  T:List Nat
  j:Nat
  cyc:(Nat→Bool)→Bool
noncomputable def sh30:Shp:=⟨[0,3,0],0,fun q=>q 3⟩
noncomputable def sh50:Shp:=⟨[0,3,1,4,0],0,fun q=>q 3||q 4⟩
noncomputable def sh52:Shp:=⟨[0,3,1,4,1],1,fun q=>q 4⟩
noncomputable def sh70:Shp:=⟨[0,3,1,4,2,5,0],0,fun q=>q 3||q 4||q 5⟩
noncomputable def sh72:Shp:=⟨[0,3,1,4,2,5,1],1,fun q=>q 4||q 5⟩
noncomputable def sh74:Shp:=⟨[0,3,1,4,2,5,2],2,fun q=>q 5⟩
noncomputable def Shp.b (s:Shp):List Nat:=s.T.take (s.T.length - 2)
noncomputable def Shp.l (s:Shp):Nat:=s.T.getD (s.T.length - 2) 0
structure Chk (s:Shp) (E H:List Nat→List Nat→Bool) (O:Nat→List Nat→List Nat→List Nat):Prop where
  e:∀ x,x<3→∀ y,y<3→E [x,7,7,7,y] s.T=(x==0&&y==s.j)
  l:E [7,7,7,s.l,7,7,7,s.l,s.j] s.T=H s.b [s.l]
  f:E [7,7,7,0,3,7,7,7,3,7,7,7] s.T=H (s.T.drop 2) [3]
  w1:E s.T s.T=true
  w2:E (s.T.drop 1) s.T=false
  w3:E (s.T++[s.j]) s.T=false
  c:O s.T.length s.T [s.j]=[2*s.j]
noncomputable def chkB (s:Shp) (E H:List Nat→List Nat→Bool) (O:Nat→List Nat→List Nat→List Nat):Bool :=
  ((List.range 3).all fun x=>(List.range 3).all fun y=>E [x,7,7,7,y] s.T==(x==0&&y==s.j))&&(E [7,7,7,s.l,7,7,7,s.l,s.j] s.T==H s.b [s.l]&&(E [7,7,7,0,3,7,7,7,3,7,7,7] s.T==H (s.T.drop 2) [3]&&(E s.T s.T==true&&(E (s.T.drop 1) s.T==false&&(E (s.T++[s.j]) s.T==false&&O s.T.length s.T [s.j]==[2*s.j])))))
theorem chk_of {s:Shp} {E H:List Nat→List Nat→Bool} {O:Nat→List Nat→List Nat→List Nat} (h:chkB s E H O=true):Chk s E H O:=by
  unfold chkB at h
  simp only [Bool.and_eq_true,beq_iff_eq,List.all_eq_true,List.mem_range] at h
  obtain ⟨h1,h2,h3,h4,h5,h6,h7⟩:=h
  exact ⟨h1,h2,h3,h4,h5,h6,h7⟩
noncomputable def sixS:List Shp:=[sh30,sh50,sh52,sh70,sh72,sh74]
noncomputable def oddE (s:Shp) (v:Nat→Nat):Bool:=eV v (s.T.take (2*s.j+1)++[7,7,7,6,7,7,7,s.j]) s.T==s.cyc (qV v)
theorem chk_all:(sixS.all fun s=>[3,4].all fun a=>[3,4,5].all fun b=>chkB s (eV (vk a b 3)) (hV (vk a b 3)) (oV (vk a b 3)))=true:=by decide +kernel
theorem odd_all:(sixS.all fun s=>[3,4].all fun a=>[3,4,5].all fun b=>[3,4,5,6].all fun c=>oddE s (vk a b c))=true:=by decide +kernel
theorem facts {s:Shp} (hs:s∈sixS) {v:Nat→Nat} (h:Vok v) (h6:v 6=v 3):Chk s (eV v) (hV v) (oV v):=by
  obtain ⟨a,b,c,ma,mb,mc,h3,e1,e2,e3,e4⟩:=inv h
  rw [h3 h6] at e1 e2 e3
  rw [e1,e2,e3]
  exact chk_of (List.all_eq_true.1 (List.all_eq_true.1 (List.all_eq_true.1 chk_all s hs) a ma) b mb)
theorem oddF {s:Shp} (hs:s∈sixS) {v:Nat→Nat} (h:Vok v):eV v (s.T.take (2*s.j+1)++[7,7,7,6,7,7,7,s.j]) s.T=s.cyc (qV v):=by
  obtain ⟨a,b,c,ma,mb,mc,-,e1,-,-,e4⟩:=inv h
  rw [e1,e4]
  exact eq_of_beq (List.all_eq_true.1 (List.all_eq_true.1 (List.all_eq_true.1 (List.all_eq_true.1 odd_all s hs) a ma) b mb) c mc)
theorem msh30:sh30∈sixS:=.head _
theorem msh50:sh50∈sixS:=.tail _ (.head _)
theorem msh52:sh52∈sixS:=.tail _ (.tail _ (.head _))
theorem msh70:sh70∈sixS:=.tail _ (.tail _ (.tail _ (.head _)))
theorem msh72:sh72∈sixS:=.tail _ (.tail _ (.tail _ (.tail _ (.head _))))
theorem msh74:sh74∈sixS:=.tail _ (.tail _ (.tail _ (.tail _ (.tail _ (.head _)))))
structure Tri (x y z:Nat):Prop where
  a:x<3
  b:y<3
  c:z<3
  ab:x≠y
  ac:x≠z
  bc:y≠z
theorem tri_inj {a b c i j:Nat} (X:Tri a b c) (hi:i<3) (hj:j<3) (e:nat3 a b c i=nat3 a b c j):i=j:=by
  rcases lt3 hi with rfl|rfl|rfl<;>rcases lt3 hj with rfl|rfl|rfl<;>first|rfl|exact absurd e X.ab|exact absurd e X.ac|exact absurd e X.bc|exact absurd e.symm X.ab|exact absurd e.symm X.ac|exact absurd e.symm X.bc
noncomputable abbrev pA (j:Nat):Nat:=[0,0,1,1,2,2].getD j 0
noncomputable abbrev pB (j:Nat):Nat:=[1,2,0,2,0,1].getD j 0
noncomputable abbrev pC (j:Nat):Nat:=[2,1,2,0,1,0].getD j 0
theorem two_j:∀ {a b:Nat},a<3→b<3→a≠b→∃ j,j<6∧a=pA j∧b=pB j:=by
  have h:∀ a,a<3→∀ b,b<3→a≠b→∃ j,j<6∧a=pA j∧b=pB j:=by decide
  exact fun {a b} ha hb n=>h a ha b hb n
theorem tri_j {a b c:Nat} (X:Tri a b c):∃ j,j<6∧a=pA j∧b=pB j∧c=pC j:=by
  have h:∀ c,c<3→∀ j,j<6→¬ pA j=c→¬ pB j=c→c=pC j:=by decide
  obtain ⟨j,hj,rfl,rfl⟩:=two_j X.a X.b X.ab
  exact ⟨j,hj,rfl,rfl,h c X.c j hj X.ac X.bc⟩
theorem tri_any {a b c d:Nat} (X:Tri a b c) (hd:d<3):d=a∨d=b∨d=c:=by
  have h:∀ d,d<3→∀ j,j<6→d=pA j∨d=pB j∨d=pC j:=by decide
  obtain ⟨j,hj,rfl,rfl,rfl⟩:=tri_j X
  exact h d hd j hj
theorem last_j {a b c d:Nat} (X:Tri a b c) (hd:d<3) (n1:d≠c) (n2:d≠b):d=a:=(tri_any X hd).elim id fun h=>absurd h fun h=>h.elim n2 n1
noncomputable def SgOk (u:Nat):Prop:=u≠46∧(u<97∨99<u)∧u<1000
noncomputable def valT (a b c u1 u2 u3 u4:Nat):Nat→Nat
  | 0=>97+a|1=>97+b|2=>97+c|3=>u1|4=>u2|5=>u3|6=>u4|_=>46
theorem val_lo {a b c u1 u2 u3 u4 i:Nat} (hi:i<3):valT a b c u1 u2 u3 u4 i=97+nat3 a b c i:=by rcases lt3 hi with rfl|rfl|rfl<;>rfl
theorem val_hi {a b c u1 u2 u3 u4:Nat} (g1:SgOk u1) (g2:SgOk u2) (g3:SgOk u3) (g4:SgOk u4):∀ i,3≤i→i<7→SgOk (valT a b c u1 u2 u3 u4 i):=fun i h h'=>by
  obtain ⟨k,rfl⟩:=Nat.exists_eq_add_of_le' h
  cases k with
  | zero=>exact g1
  | succ k=>cases k with
    | zero=>exact g2
    | succ k=>cases k with
      | zero=>exact g3
      | succ k=>cases k with
        | zero=>exact g4
        | succ k=>exact absurd h' (Nat.not_lt.2 (Nat.le_add_left _ _))
theorem nat3_lt {a b c i:Nat} (X:Tri a b c) (hi:i<3):nat3 a b c i<3:=by rcases lt3 hi with rfl|rfl|rfl;exact X.a;exact X.b;exact X.c
theorem sg_ne {x u:Nat} (hx:x<3) (hu:SgOk u) (e:97+x=u):False:=hu.2.1.elim (fun h=>absurd (e▸h) (Nat.not_lt.2 (Nat.le_add_right _ _))) fun h=>by lia
section
variable {a b c u1 u2 u3 u4:Nat} (X:Tri a b c) (g1:SgOk u1) (g2:SgOk u2) (g3:SgOk u3) (g4:SgOk u4)
include X g1
theorem vok (g2:SgOk u2) (g3:SgOk u3) (g4:SgOk u4):Vok (valT a b c u1 u2 u3 u4) where
  dot:=fun i hi=>by obtain ⟨k,rfl⟩:=Nat.exists_eq_add_of_le' hi;rfl
  ne:=fun i hi=>by
    rcases Nat.lt_or_ge i 3 with l|l
    · rw [val_lo l];lia
    · exact (val_hi g1 g2 g3 g4 i l hi).1
  low:=fun i j hi hj e=>by
    rw [val_lo hi] at e
    rcases Nat.lt_or_ge j 3 with l|l
    · rw [val_lo l] at e;exact tri_inj X hi l (Nat.add_left_cancel e)
    · exact (sg_ne (nat3_lt X hi) (val_hi g1 g2 g3 g4 j l hj) e).elim
omit g1 in
theorem want9 {T:List Nat} {j q:Nat} (hj:j<3) (hq:valT a b c u1 u2 u3 u4 j=97+q) (F:∀ x,x<3→∀ y,y<3→eV (valT a b c u1 u2 u3 u4) [x,7,7,7,y] T=(x==0&&y==j)) (x y:Nat) (hx:x<3) (hy:y<3):ellB (wantS x y) (tx (valT a b c u1 u2 u3 u4) T)=(x==a&&y==q):=by
  have L:∀ x,x<3→∃ i,i<3∧valT a b c u1 u2 u3 u4 i=97+x:=fun x hx=>by
    rcases tri_any X hx with rfl|rfl|rfl
    · exact ⟨0,by decide,rfl⟩
    · exact ⟨1,by decide,rfl⟩
    · exact ⟨2,by decide,rfl⟩
  have J:∀ {i j x y:Nat},i<3→j<3→valT a b c u1 u2 u3 u4 i=97+x→valT a b c u1 u2 u3 u4 j=97+y→(i==j)=(x==y):=fun {i j x y} hi hj ei ej=>by
    rw [val_lo hi] at ei
    rw [val_lo hj] at ej
    rw [Bool.eq_iff_iff,beq_iff_eq,beq_iff_eq,← Nat.add_left_cancel ei,← Nat.add_left_cancel ej]
    exact ⟨fun e=>by rw [e],tri_inj X hi hj⟩
  obtain ⟨i,hi,ei⟩:=L x hx
  obtain ⟨k,hk,ek⟩:=L y hy
  rw [← J hi (by decide) ei (show valT a b c u1 u2 u3 u4 0=97+a from rfl),← J hk hj ek hq,← F i hi k hk]
  show ellB (Str.mk [97+x,46,46,46,97+y].toArray) _=ellB (Str.mk [valT a b c u1 u2 u3 u4 i,46,46,46,valT a b c u1 u2 u3 u4 k].toArray) _
  rw [ei,ek]
theorem told_T30:Told3 a a u1 (hasS ⟨#[97+a]⟩ ⟨#[u1]⟩) (hasS ⟨#[97+a]⟩ ⟨#[u1]⟩) :=
  have F:=facts (s:=sh30) msh30 (vok X g1 g1 g1 g1) rfl
  ⟨Eq.mp (by kernel_rfl!) (want9 X (by decide) rfl F.e),Eq.mp (by kernel_rfl!) F.l,Eq.mp (by kernel_rfl!) F.f,Eq.mp (by kernel_rfl!) F.w1,Eq.mp (by kernel_rfl!) F.w2,Eq.mp (by kernel_rfl!) F.w3,rfl,rfl⟩
theorem odd_T30 (g4:SgOk u4):ellB ⟨#[97+a,46,46,46,u4,46,46,46,97+a]⟩ ⟨#[97+a,u1,97+a]⟩=((u1==u4)):=Eq.mp (by kernel_rfl!) (oddF (s:=sh30) msh30 (vok X g1 g1 g1 g4))
theorem occ_T30:Builtin.Str.occurrences ⟨#[97+a,u1,97+a]⟩ ⟨#[97+a]⟩ 0 3 1=[0]:=Eq.mp (by kernel_rfl!) (facts (s:=sh30) msh30 (vok X g1 g1 g1 g1) rfl).c
include g2
theorem told_T50:Told5 a a u1 (97+b) u2 (hasS ⟨#[97+a,u1,97+b]⟩ ⟨#[u2]⟩) (hasS ⟨#[97+b,u2,97+a]⟩ ⟨#[u1]⟩) :=
  have F:=facts (s:=sh50) msh50 (vok X g1 g2 g1 g1) rfl
  ⟨Eq.mp (by kernel_rfl!) (want9 X (by decide) rfl F.e),Eq.mp (by kernel_rfl!) F.l,Eq.mp (by kernel_rfl!) F.f,Eq.mp (by kernel_rfl!) F.w1,Eq.mp (by kernel_rfl!) F.w2,Eq.mp (by kernel_rfl!) F.w3,rfl,rfl⟩
theorem odd_T50 (g4:SgOk u4):ellB ⟨#[97+a,46,46,46,u4,46,46,46,97+a]⟩ ⟨#[97+a,u1,97+b,u2,97+a]⟩=((u1==u4)||(u2==u4)):=Eq.mp (by kernel_rfl!) (oddF (s:=sh50) msh50 (vok X g1 g2 g1 g4))
theorem occ_T50:Builtin.Str.occurrences ⟨#[97+a,u1,97+b,u2,97+a]⟩ ⟨#[97+a]⟩ 0 5 1=[0]:=Eq.mp (by kernel_rfl!) (facts (s:=sh50) msh50 (vok X g1 g2 g1 g1) rfl).c
theorem told_T52:Told5 a b u1 (97+b) u2 (hasS ⟨#[97+a,u1,97+b]⟩ ⟨#[u2]⟩) (hasS ⟨#[97+b,u2,97+b]⟩ ⟨#[u1]⟩) :=
  have F:=facts (s:=sh52) msh52 (vok X g1 g2 g1 g1) rfl
  ⟨Eq.mp (by kernel_rfl!) (want9 X (by decide) rfl F.e),Eq.mp (by kernel_rfl!) F.l,Eq.mp (by kernel_rfl!) F.f,Eq.mp (by kernel_rfl!) F.w1,Eq.mp (by kernel_rfl!) F.w2,Eq.mp (by kernel_rfl!) F.w3,rfl,rfl⟩
theorem odd_T52 (g4:SgOk u4):ellB ⟨#[97+a,u1,97+b,46,46,46,u4,46,46,46,97+b]⟩ ⟨#[97+a,u1,97+b,u2,97+b]⟩=((u2==u4)):=Eq.mp (by kernel_rfl!) (oddF (s:=sh52) msh52 (vok X g1 g2 g1 g4))
theorem occ_T52:Builtin.Str.occurrences ⟨#[97+a,u1,97+b,u2,97+b]⟩ ⟨#[97+b]⟩ 0 5 1=[2]:=Eq.mp (by kernel_rfl!) (facts (s:=sh52) msh52 (vok X g1 g2 g1 g1) rfl).c
include g3
theorem told_T70:Told7 a a u1 (97+b) u2 (97+c) u3 (hasS ⟨#[97+a,u1,97+b,u2,97+c]⟩ ⟨#[u3]⟩) (hasS ⟨#[97+b,u2,97+c,u3,97+a]⟩ ⟨#[u1]⟩) :=
  have F:=facts (s:=sh70) msh70 (vok X g1 g2 g3 g1) rfl
  ⟨Eq.mp (by kernel_rfl!) (want9 X (by decide) rfl F.e),Eq.mp (by kernel_rfl!) F.l,Eq.mp (by kernel_rfl!) F.f,Eq.mp (by kernel_rfl!) F.w1,Eq.mp (by kernel_rfl!) F.w2,Eq.mp (by kernel_rfl!) F.w3,rfl,rfl⟩
theorem odd_T70 (g4:SgOk u4):ellB ⟨#[97+a,46,46,46,u4,46,46,46,97+a]⟩ ⟨#[97+a,u1,97+b,u2,97+c,u3,97+a]⟩=((u1==u4)||(u2==u4)||(u3==u4)):=Eq.mp (by kernel_rfl!) (oddF (s:=sh70) msh70 (vok X g1 g2 g3 g4))
theorem occ_T70:Builtin.Str.occurrences ⟨#[97+a,u1,97+b,u2,97+c,u3,97+a]⟩ ⟨#[97+a]⟩ 0 7 1=[0]:=Eq.mp (by kernel_rfl!) (facts (s:=sh70) msh70 (vok X g1 g2 g3 g1) rfl).c
theorem told_T72:Told7 a b u1 (97+b) u2 (97+c) u3 (hasS ⟨#[97+a,u1,97+b,u2,97+c]⟩ ⟨#[u3]⟩) (hasS ⟨#[97+b,u2,97+c,u3,97+b]⟩ ⟨#[u1]⟩) :=
  have F:=facts (s:=sh72) msh72 (vok X g1 g2 g3 g1) rfl
  ⟨Eq.mp (by kernel_rfl!) (want9 X (by decide) rfl F.e),Eq.mp (by kernel_rfl!) F.l,Eq.mp (by kernel_rfl!) F.f,Eq.mp (by kernel_rfl!) F.w1,Eq.mp (by kernel_rfl!) F.w2,Eq.mp (by kernel_rfl!) F.w3,rfl,rfl⟩
theorem odd_T72 (g4:SgOk u4):ellB ⟨#[97+a,u1,97+b,46,46,46,u4,46,46,46,97+b]⟩ ⟨#[97+a,u1,97+b,u2,97+c,u3,97+b]⟩=((u2==u4)||(u3==u4)):=Eq.mp (by kernel_rfl!) (oddF (s:=sh72) msh72 (vok X g1 g2 g3 g4))
theorem occ_T72:Builtin.Str.occurrences ⟨#[97+a,u1,97+b,u2,97+c,u3,97+b]⟩ ⟨#[97+b]⟩ 0 7 1=[2]:=Eq.mp (by kernel_rfl!) (facts (s:=sh72) msh72 (vok X g1 g2 g3 g1) rfl).c
theorem told_T74:Told7 a c u1 (97+b) u2 (97+c) u3 (hasS ⟨#[97+a,u1,97+b,u2,97+c]⟩ ⟨#[u3]⟩) (hasS ⟨#[97+b,u2,97+c,u3,97+c]⟩ ⟨#[u1]⟩) :=
  have F:=facts (s:=sh74) msh74 (vok X g1 g2 g3 g1) rfl
  ⟨Eq.mp (by kernel_rfl!) (want9 X (by decide) rfl F.e),Eq.mp (by kernel_rfl!) F.l,Eq.mp (by kernel_rfl!) F.f,Eq.mp (by kernel_rfl!) F.w1,Eq.mp (by kernel_rfl!) F.w2,Eq.mp (by kernel_rfl!) F.w3,rfl,rfl⟩
theorem odd_T74 (g4:SgOk u4):ellB ⟨#[97+a,u1,97+b,u2,97+c,46,46,46,u4,46,46,46,97+c]⟩ ⟨#[97+a,u1,97+b,u2,97+c,u3,97+c]⟩=((u3==u4)):=Eq.mp (by kernel_rfl!) (oddF (s:=sh74) msh74 (vok X g1 g2 g3 g4))
theorem occ_T74:Builtin.Str.occurrences ⟨#[97+a,u1,97+b,u2,97+c,u3,97+c]⟩ ⟨#[97+c]⟩ 0 7 1=[4]:=Eq.mp (by kernel_rfl!) (facts (s:=sh74) msh74 (vok X g1 g2 g3 g1) rfl).c
end
end
end Mine
end
section
namespace Mine
section
noncomputable def codeG (G:Gm) (k:Nat):Nat:=(b2 (G.own 0) 1+b2 (G.own 1) 2+b2 (G.own 2) 4)+8*(k+26*(G.to 0 false+3*(G.to 0 true+3*(G.to 1 false+3*(G.to 1 true+3*(G.to 2 false+3*G.to 2 true))))))
structure GmOk (G:Gm):Prop where
  to:∀ p e,G.to p e<3
theorem dm {a m b:Nat} (h:a<m):(a+m*b) % m=a∧(a+m*b) / m=b :=
  ⟨by rw [Nat.add_mul_mod_self_left,Nat.mod_eq_of_lt h],by rw [Nat.add_mul_div_left _ _ (Nat.lt_of_le_of_lt (Nat.zero_le _) h),Nat.div_eq_of_lt h,Nat.zero_add]⟩
noncomputable def val3:List Nat→Nat
  | []=>0
  | d::l=>d+3*val3 l
theorem val3_at (l:List Nat):(∀ d∈l,d<3)→∀ i,val3 l / 3 ^ i % 3=l.getD i 0:=by
  induction l with
  | nil=>intro _ i;rw [show val3 []=0 from rfl,Nat.zero_div];rfl
  | cons d l ih =>
    intro h i
    show (d+3*val3 l) / 3 ^ i % 3=_
    have hd:=h d List.mem_cons_self
    cases i with
    | zero=>rw [Nat.pow_zero,Nat.div_one];exact (dm hd).1
    | succ i=>rw [Nat.pow_succ',← Nat.div_div_eq_div_mul,(dm hd).2];exact ih (fun d m=>h d (List.mem_cons_of_mem _ m)) i
theorem val3_lt (l:List Nat):(∀ d∈l,d<3)→val3 l<3 ^ l.length:=by
  induction l with
  | nil=>exact fun _=>Nat.zero_lt_one
  | cons d l ih =>
    intro h
    show d+3*val3 l<3 ^ (l.length+1)
    have h1:=ih fun d m=>h d (List.mem_cons_of_mem _ m)
    have h2:=h d List.mem_cons_self
    generalize val3 l=v at h1 ⊢
    rw [Nat.pow_succ]
    generalize 3 ^ l.length=m at h1 ⊢
    lia
noncomputable def ownS (G:Gm):Nat:=b2 (G.own 0) 1+b2 (G.own 1) 2+b2 (G.own 2) 4
noncomputable def toL (G:Gm):List Nat:=[G.to 0 false,G.to 0 true,G.to 1 false,G.to 1 true,G.to 2 false,G.to 2 true]
theorem codeG_is (G:Gm) (k:Nat):codeG G k=ownS G+8*(k+26*val3 (toL G)):=rfl
theorem own_bits:∀ a b c:Bool,b2 a 1+b2 b 2+b2 c 4<8∧Nat.testBit (b2 a 1+b2 b 2+b2 c 4) 0=a∧Nat.testBit (b2 a 1+b2 b 2+b2 c 4) 1=b∧Nat.testBit (b2 a 1+b2 b 2+b2 c 4) 2=c:=by decide
theorem own_lt (G:Gm):ownS G<8:=(own_bits _ _ _).1
section
variable {G:Gm} (H:GmOk G) {k:Nat} (hk:k<26)
include H hk
theorem toL_lt:∀ d∈toL G,d<3:=fun d hd=>by
  simp only [toL,List.mem_cons,List.not_mem_nil,or_false] at hd
  rcases hd with rfl|rfl|rfl|rfl|rfl|rfl<;>exact H.to _ _
theorem code_lt:codeG G k<208*729:=by
  have h1:=own_lt G
  have h2:val3 (toL G)<729:=val3_lt _ (toL_lt H hk)
  rw [codeG_is]
  clear H
  generalize ownS G=a at h1 ⊢
  generalize val3 (toL G)=b at h2 ⊢
  lia
theorem code_own (p:Nat) (hp:p<3):Nat.testBit (codeG G k / 1 % 8) p=G.own p:=by
  rw [Nat.div_one,codeG_is,(dm (own_lt G)).1]
  have h:=own_bits (G.own 0) (G.own 1) (G.own 2)
  exact al3 (P:=fun p=>Nat.testBit (ownS G) p=G.own p) h.2.1 h.2.2.1 h.2.2.2 p hp
theorem code_pat:codeG G k / 8 % 26=k:=by rw [codeG_is,(dm (own_lt G)).2,(dm hk).1]
theorem code_to (p:Nat) (hp:p<3) (e:Bool):codeG G k / (208*3 ^ (2*p+b2 e 1)) % 3=G.to p e:=by
  have e0:codeG G k / 208=val3 (toL G):=by rw [show (208:Nat)=8*26 from rfl,← Nat.div_div_eq_div_mul,codeG_is,(dm (own_lt G)).2,(dm hk).2]
  rw [← Nat.div_div_eq_div_mul,e0,val3_at _ (toL_lt H hk)]
  refine al3 (P:=fun p=>(toL G).getD (2*p+b2 e 1) 0=G.to p e) ?_ ?_ ?_ p hp<;>cases e<;>rfl
theorem full_bit:fullN.testBit (codeG G k)=true:=by
  unfold fullN
  rw [ones_bit]
  exact decide_eq_true (code_lt H hk)
theorem bit_pat (C:Nat) (h1:0<C) (h2:C<8):(varN C).testBit (codeG G k)=Nat.testBit (pats.getD k 0) C:=by
  have e:∀ C,C<7→varN (C+1)=mk (fun k=>Nat.testBit (pats.getD k 0) (C+1)) 8 26 1 729:=alS (alS (alS (alS (al3 rfl rfl rfl) rfl) rfl) rfl) rfl
  obtain ⟨i,rfl⟩:=Nat.exists_eq_succ_of_ne_zero (Nat.ne_of_gt h1)
  rw [e i (Nat.lt_of_succ_lt_succ h2),mk_bit _ _ _ _ _ (by decide) (by decide) (by decide) _ (code_lt H hk),code_pat H hk]
theorem bit_own (p:Nat) (hp:p<3):(varN (8+p)).testBit (codeG G k)=G.own p:=by
  have e:varN (8+p)=mk (fun o=>Nat.testBit o p) 1 8 26 729:=al3 (P:=fun p=>varN (8+p)=mk (fun o=>Nat.testBit o p) 1 8 26 729) rfl rfl rfl p hp
  rw [e,mk_bit _ _ _ _ _ (by decide) (by decide) (by decide) _ (code_lt H hk),code_own H hk p hp]
theorem bit_to (p q:Nat) (hp:p<3) (hq:q<3) (e:Bool):(varN (11+6*p+3*b2 e 1+q)).testBit (codeG G k)=Nat.beq (G.to p e) q:=by
  have ev:varN (11+6*p+3*b2 e 1+q)=mk (fun d=>Nat.beq d q) (208*3 ^ (2*p+b2 e 1)) 3 1 (3 ^ (5 - (2*p+b2 e 1))):=by
    refine al3 (P:=fun p=>∀ q,q<3→varN (11+6*p+3*b2 e 1+q)=mk (fun d=>Nat.beq d q) (208*3 ^ (2*p+b2 e 1)) 3 1 (3 ^ (5 - (2*p+b2 e 1)))) ?_ ?_ ?_ p hp q hq<;>cases e<;>exact al3 rfl rfl rfl
  have hlt:=code_lt H hk
  rw [ev,mk_bit _ _ _ _ _ (Nat.mul_pos (by decide) (Nat.pow_pos (by decide))) (by decide) (by decide) _ ?_,code_to H hk p hp e]
  have:208*3 ^ (2*p+b2 e 1)*3*1*3 ^ (5 - (2*p+b2 e 1))=208*729 :=
    al3 (P:=fun p=>208*3 ^ (2*p+b2 e 1)*3*1*3 ^ (5 - (2*p+b2 e 1))=208*729) (by cases e<;>rfl) (by cases e<;>rfl) (by cases e<;>rfl) p hp
  rw [this];exact hlt
end
end
section
theorem bits7:∀ x1 x2 x3 x4 x5 x6 x7:Bool,(List.range 7).map (fun i=>Nat.testBit (b2 x1 2+(b2 x2 4+(b2 x3 8+(b2 x4 16+(b2 x5 32+(b2 x6 64+b2 x7 128)))))) (i+1))=[x1,x2,x3,x4,x5,x6,x7]:=by decide +kernel
theorem patB_bit (f:Nat→Bool) (C:Nat) (h1:0<C) (h2:C<8):Nat.testBit (patB f) C=f C:=by
  obtain ⟨i,rfl⟩:=Nat.exists_eq_succ_of_ne_zero (Nat.ne_of_gt h1)
  exact (atN (n:=7) (f:=fun i=>f (i+1)) (g:=fun i=>Nat.testBit (patB f) (i+1)) (bits7 (f 1) (f 2) (f 3) (f 4) (f 5) (f 6) (f 7)).symm (Nat.lt_of_succ_lt_succ h2)).symm
theorem pat_at (a b c:Nat):∃ k,k<26∧∀ C,0<C→C<8→Nat.testBit (pats.getD k 0) C=oddC (nat3 a b c) C:=by
  have h:=pat_mem a b c
  rw [List.contains_iff_mem] at h
  obtain ⟨k,hk,e⟩:=List.mem_iff_getElem.1 h
  refine ⟨k,hk,fun C h1 h2=>?_⟩
  rw [List.getD_eq_getElem?_getD,List.getElem?_eq_getElem hk,Option.getD_some,e,patB_bit _ C h1 h2]
theorem any3_b {v:Nat→Bool} {f:Nat→Fo}:(any3 f).b v=((f 0).b v||((f 1).b v||(f 2).b v)):=rfl
theorem all3_b {v:Nat→Bool} {f:Nat→Fo}:(all3 f).b v=((f 0).b v&&((f 1).b v&&(f 2).b v)):=rfl
theorem pick_b {v:Nat→Bool} {kF:Nat→Fo} {kB:Nat→Bool} {p e t:Nat} (ht:t<3) (hv:∀ q<3,v (11+6*p+3*e+q)=Nat.beq t q) (hk:∀ q<3,(kF q).b v=kB q):(any3 fun q=>.con (toF p e q) (kF q)).b v=kB t:=by
  rw [any3_b]
  show ((v (11+6*p+3*e+0)&&(kF 0).b v)||((v (11+6*p+3*e+1)&&(kF 1).b v)||(v (11+6*p+3*e+2)&&(kF 2).b v)))=_
  rw [hv 0 (by decide),hv 1 (by decide),hv 2 (by decide),hk 0 (by decide),hk 1 (by decide),hk 2 (by decide)]
  refine al3 (P:=fun t=>((Nat.beq t 0&&kB 0)||((Nat.beq t 1&&kB 1)||(Nat.beq t 2&&kB 2)))=kB t) ?_ ?_ ?_ t ht
  · show ((true&&kB 0)||((false&&kB 1)||(false&&kB 2)))=_;cases kB 0<;>rfl
  · show ((false&&kB 0)||((true&&kB 1)||(false&&kB 2)))=_;cases kB 1<;>rfl
  · show ((false&&kB 0)||((false&&kB 1)||(true&&kB 2)))=_;cases kB 2<;>rfl
theorem set_ok:((List.range 3).all fun p=>(Nat.blt 0 (2 ^ p)&&Nat.blt (2 ^ p) 8)&&(List.range 3).all fun q=>Nat.beq q p||((Nat.blt 0 (2 ^ p+2 ^ q)&&Nat.blt (2 ^ p+2 ^ q) 8)&&(List.range 3).all fun r=>Nat.beq r q||(Nat.beq r p||(Nat.blt 0 (2 ^ p+2 ^ q+2 ^ r)&&Nat.blt (2 ^ p+2 ^ q+2 ^ r) 8))))=true:=by decide +kernel
noncomputable def InC (C:Nat):Bool:=Nat.blt 0 C&&Nat.blt C 8
theorem set1 {p:Nat} (hp:p<3):InC (2 ^ p)=true:=(Bool.and_eq_true_iff.1 (List.all_eq_true.1 set_ok p (List.mem_range.2 hp))).1
theorem set23 {p q:Nat} (hp:p<3) (hq:q<3) (e:Nat.beq q p=false):InC (2 ^ p+2 ^ q)=true∧∀ r,r<3→Nat.beq r q=false→Nat.beq r p=false→InC (2 ^ p+2 ^ q+2 ^ r)=true:=by
  have h:=List.all_eq_true.1 (Bool.and_eq_true_iff.1 (List.all_eq_true.1 set_ok p (List.mem_range.2 hp))).2 q (List.mem_range.2 hq)
  rw [e,Bool.false_or] at h
  have h:=Bool.and_eq_true_iff.1 h
  refine ⟨h.1,fun r hr e1 e2=>?_⟩
  have h:=List.all_eq_true.1 h.2 r (List.mem_range.2 hr)
  rw [e1,e2,Bool.false_or,Bool.false_or] at h
  exact h
theorem walk_b {v:Nat→Bool} {stF:Nat→(Nat→Fo)→Fo} {stB:Nat→(Nat→Bool)→Bool} {vB:Nat→Bool} (hs:∀ p,p<3→∀ kF kB,(∀ q,q<3→(kF q).b v=kB q)→(stF p kF).b v=stB p kB) (hv:∀ C,0<C→C<8→v C=vB C) (p0:Nat) (h0:p0<3) :
    (walkT Fo.v stF p0).b v=walkT vB stB p0:=by
  have hC:∀ {C},InC C=true→v C=vB C:=fun h=>have h:=Bool.and_eq_true_iff.1 h;hv _ (Nat.le_of_ble_eq_true h.1) (Nat.le_of_ble_eq_true h.2)
  unfold walkT
  refine hs p0 h0 _ _ fun p1 h1=>?_
  cases e1:Nat.beq p1 p0 with
  | true=>exact hC (set1 h0)
  | false =>
    refine hs p1 h1 _ _ fun p2 h2=>?_
    cases e2:Nat.beq p2 p1 with
    | true=>exact hC (set1 h1)
    | false =>
      cases e3:Nat.beq p2 p0 with
      | true=>exact hC (set23 h0 h1 e1).1
      | false =>
        refine hs p2 h2 _ _ fun p3 h3=>?_
        cases e4:Nat.beq p3 p2 with
        | true=>exact hC (set1 h2)
        | false =>
          cases e5:Nat.beq p3 p1 with
          | true=>exact hC (set23 h1 h2 e2).1
          | false=>exact hC ((set23 h0 h1 e1).2 p2 h2 e2 e3)
section
variable {G:Gm} (H:GmOk G) {a b c:Nat} (hn:G.num=nat3 a b c)
include H hn
theorem rows_at {k:Nat} (hk:k<26) (hp:∀ C,0<C→C<8→Nat.testBit (pats.getD k 0) C=oddC (nat3 a b c) C):∀ C,0<C→C<8→(varN C).testBit (codeG G k)=oddC G.num C:=fun C h1 h2=>by rw [bit_pat H hk C h1 h2,hp C h1 h2,hn]
theorem key_at {k:Nat} (hk:k<26) (f:Fo):(f.n fullN varN).testBit (codeG G k)=f.b (fun n=>(varN n).testBit (codeG G k)):=Fo.bit (full_bit H hk) (fun n=>rfl) f
theorem step_at {k:Nat} (hk:k<26) (p:Nat) (hp:p<3) (kF:Nat→Fo) (kB:Nat→Bool) (hk2:∀ q,q<3→(kF q).b (fun n=>(varN n).testBit (codeG G k))=kB q):(stepF p kF).b (fun n=>(varN n).testBit (codeG G k))=stepB G p kB:=by
  unfold stepF stepB
  show (if (varN (8+p)).testBit (codeG G k) then _ else _)=_
  rw [bit_own H hk p hp,pick_b (v:=fun n=>(varN n).testBit (codeG G k)) (e:=0) (H.to p false) (fun q hq=>bit_to H hk p q hp hq false) hk2,pick_b (v:=fun n=>(varN n).testBit (codeG G k)) (e:=1) (H.to p true) (fun q hq=>bit_to H hk p q hp hq true) hk2]
theorem go_at {k:Nat} (hk:k<26) (c p:Nat) (hp:p<3) (kF:Nat→Fo) (kB:Nat→Bool) (hk2:∀ q,q<3→(kF q).b (fun n=>(varN n).testBit (codeG G k))=kB q):(goF c p kF).b (fun n=>(varN n).testBit (codeG G k))=goB G c p kB:=by
  unfold goF goB
  have hb:Nat.land (Nat.shiftRight c p) 1=b2 (Nat.land (Nat.shiftRight c p) 1==1) 1:=by
    have:Nat.land (Nat.shiftRight c p) 1=(c >>> p) % 2:=Nat.and_one_is_mod _
    rw [this]
    rcases Nat.mod_two_eq_zero_or_one (c >>> p) with h|h<;>rw [h]<;>rfl
  rw [pick_b (v:=fun n=>(varN n).testBit (codeG G k)) (H.to p (Nat.land (Nat.shiftRight c p) 1==1)) (fun q hq=>by rw [hb];exact (bit_to H hk p q hp hq _).trans (by rw [← hb])) hk2]
omit H hn in
theorem v1_won (c:Nat) (hc:c<8) (h:Nat) (hh:h<3):v1 (32+3*c+h)=(walkT Fo.v (goF c) h).n fullN varN:=by
  refine al3 (P:=fun h=>v1 (32+3*c+h)=(walkT Fo.v (goF c) h).n fullN varN) ?_ ?_ ?_ h hh
  all_goals (revert c;refine alS (alS (alS (alS (alS (al3 rfl rfl rfl) rfl) rfl) rfl) rfl) rfl)
theorem rows_game:∃ i,(∀ h<3,(v1 (29+h)).testBit i=bestB G h)∧(∀ c<8,∀ h<3,(v1 (32+3*c+h)).testBit i=wonB G c h)∧(∀ p<3,(v1 (8+p)).testBit i=G.own p)∧fullN.testBit i=true:=by
  refine el12 (pat_at a b c) fun k hk hp=>⟨codeG G k,fun h hh=>?_,fun c hc h hh=>?_,fun p hp=>?_,full_bit H hk⟩
  · rw [show v1 (29+h)=(walkT Fo.v stepF h).n fullN varN from al3 (P:=fun h=>v1 (29+h)=(walkT Fo.v stepF h).n fullN varN) rfl rfl rfl h hh,key_at H hn hk]
    exact walk_b (step_at H hn hk) (rows_at H hn hk hp) h hh
  · rw [v1_won c hc h hh,key_at H hn hk]
    exact walk_b (go_at H hn hk c) (rows_at H hn hk hp) h hh
  · rw [show v1 (8+p)=varN (8+p) from al3 (P:=fun p=>v1 (8+p)=varN (8+p)) rfl rfl rfl p hp,bit_own H hk p hp]
end
theorem stage2 {i:Nat} (hf:fullN.testBit i=true) (n:Nat) (h:n<16):(v2 (56+n)).testBit i=(foB.getD n .tt).b (fun n=>(v1 n).testBit i):=by
  have hb:Nat.blt (56+n) 56=false:=by
    cases hq:Nat.blt (56+n) 56 with
    | false=>rfl
    | true=>have:=Nat.le_of_ble_eq_true hq;lia
  have hl:n<foB.length:=by
    have:foB.length=16:=by simp [foB]
    lia
  have e:v2 (56+n)=(foB.getD n .tt).n fullN v1:=by
    unfold v2
    rw [hb]
    simp only [Bool.false_eq_true,if_false]
    rw [show 56+n - 56=n by lia]
    unfold val
    rw [List.getElem?_eq_getElem hl,List.getD_eq_getElem?_getD,List.getElem?_eq_getElem hl]
    rfl
  rw [e]
  exact Fo.bit hf (fun n=>rfl) _
theorem any8_get {v:Nat→Bool} {f:Nat→Fo} (h:(any8 f).b v=true):∃ x,x<8∧(f x).b v=true:=by
  have h:((f 0).b v||((f 1).b v||((f 2).b v||((f 3).b v||((f 4).b v||((f 5).b v||((f 6).b v||(f 7).b v)))))))=true:=h
  simp only [Bool.or_eq_true] at h
  rcases h with h|h|h|h|h|h|h|h
  · exact ⟨0,by decide,h⟩
  · exact ⟨1,by decide,h⟩
  · exact ⟨2,by decide,h⟩
  · exact ⟨3,by decide,h⟩
  · exact ⟨4,by decide,h⟩
  · exact ⟨5,by decide,h⟩
  · exact ⟨6,by decide,h⟩
  · exact ⟨7,by decide,h⟩
theorem all8_get {v:Nat→Bool} {f:Nat→Fo} (h:(all8 f).b v=true) (x:Nat) (hx:x<8):(f x).b v=true:=by
  have h:((f 0).b v&&((f 1).b v&&((f 2).b v&&((f 3).b v&&((f 4).b v&&((f 5).b v&&((f 6).b v&&(f 7).b v)))))))=true:=h
  simp only [Bool.and_eq_true] at h
  refine el08 h fun h0 h1 h2 h3 h4 h5 h6 h7=>?_
  exact alS (P:=fun x=>(f x).b v=true) (alS (alS (alS (alS (al3 h0 h1 h2) h3) h4) h5) h6) h7 x hx
theorem all3_get {v:Nat→Bool} {f:Nat→Fo} (h:(all3 f).b v=true) (x:Nat) (hx:x<3):(f x).b v=true:=by
  have h:((f 0).b v&&((f 1).b v&&(f 2).b v))=true:=h
  simp only [Bool.and_eq_true] at h
  refine el03 h fun h0 h1 h2=>?_
  exact al3 (P:=fun x=>(f x).b v=true) h0 h1 h2 x hx
theorem all3_of {v:Nat→Bool} {f:Nat→Fo} (h:∀ x,x<3→(f x).b v=true):(all3 f).b v=true:=by
  show ((f 0).b v&&((f 1).b v&&(f 2).b v))=true
  rw [h 0 (by decide),h 1 (by decide),h 2 (by decide)];rfl
theorem in_get {v:Nat→Bool} {q:Nat→Fo} {x:Nat} (h:(inF q x).b v=true) (p:Nat) (hp:p<3) (hx:Nat.testBit x p=true):(q p).b v=true:=by
  have:=all3_get h p hp
  rwa [if_pos hx] at this
theorem bits_of {v:Nat→Bool} {q:Nat→Fo} {c x:Nat} (h:∀ p,p<3→Nat.testBit x p=(Nat.testBit c p&&(q p).b v)):(bitsF q c x).b v=true:=by
  refine all3_of fun p hp=>?_
  have:=h p hp
  cases hx:Nat.testBit x p<;>cases hc:Nat.testBit c p<;>rw [hx,hc] at this
  · rfl
  · show (!((q p).b v))=true
    rw [Bool.true_and] at this;rw [← this];rfl
  · cases this
  · show (q p).b v=true
    rw [Bool.true_and] at this;exact this.symm
theorem no_memory {G:Gm} (H:GmOk G) {a b c:Nat} (hn:G.num=nat3 a b c) :
    (∃ x,x<8∧(∀ p,p<3→Nat.testBit x p=true→G.own p=true)∧∀ c,c<8→(∀ p,p<3→Nat.testBit x p=(Nat.testBit c p&&G.own p))→∀ h,h<3→bestB G h=true→wonB G c h=true) ∧
    (∃ x,x<8∧(∀ p,p<3→Nat.testBit x p=true→G.own p=false)∧∀ c,c<8→(∀ p,p<3→Nat.testBit x p=(Nat.testBit c p&&!G.own p))→∀ h,h<3→wonB G c h=true→bestB G h=true):=by
  refine el14 (rows_game H hn) fun i hb hw ho hf=>?_
  have g:=games
  rw [Bool.and_eq_true] at g
  have g0:=Nat.eq_of_beq_eq_true g.1
  have g1:=Nat.eq_of_beq_eq_true g.2
  have low:∀ n,n<56→(v2 n).testBit i=(v1 n).testBit i:=fun n hn=>by
    unfold v2
    have:Nat.blt n 56=true:=Nat.ble_eq_true_of_le hn
    rw [this];rfl
  have own2:∀ p,p<3→(v2 (8+p)).testBit i=G.own p:=fun p hp=>(low _ (by lia)).trans (ho p hp)
  have e0:(foC.getD 0 .tt).b (fun n=>(v2 n).testBit i)=true:=by
    rw [← Fo.bit hf (fun n=>rfl)]
    have:(foC.getD 0 .tt).n fullN v2=fullN:=g0
    rw [this];exact hf
  have e1:(foC.getD 1 .tt).b (fun n=>(v2 n).testBit i)=true:=by
    rw [← Fo.bit hf (fun n=>rfl)]
    have:(foC.getD 1 .tt).n fullN v2=fullN:=g1
    rw [this];exact hf
  have s2o:∀ c,c<8→foB.getD c .tt=all3 fun h=>.dis (.neg (bestV h)) (wonV c h):=alS (alS (alS (alS (alS (al3 rfl rfl rfl) rfl) rfl) rfl) rfl) rfl
  have s2e:∀ c,c<8→foB.getD (8+c) .tt=all3 fun h=>.dis (.neg (wonV c h)) (bestV h):=alS (alS (alS (alS (alS (al3 rfl rfl rfl) rfl) rfl) rfl) rfl) rfl
  constructor
  · have e0:(any8 fun x=>.con (inF mineF x) (all8 fun c=>.dis (.neg (bitsF mineF c x)) (oddV c))).b (fun n=>(v2 n).testBit i)=true:=e0
    refine el12 (any8_get e0) fun x hx e=>?_
    have e:((inF mineF x).b (fun n=>(v2 n).testBit i)&&(all8 fun c=>Fo.dis (.neg (bitsF mineF c x)) (oddV c)).b (fun n=>(v2 n).testBit i))=true:=e
    rw [Bool.and_eq_true] at e
    refine ⟨x,hx,fun p hp hxp=>?_,fun c hc hcx h hh hbest=>?_⟩
    · have:=in_get e.1 p hp hxp
      rw [← own2 p hp];exact this
    · have h1:=all8_get e.2 c hc
      have h1:(!((bitsF mineF c x).b (fun n=>(v2 n).testBit i))||(v2 (56+c)).testBit i)=true:=h1
      rw [bits_of (v:=fun n=>(v2 n).testBit i) (q:=mineF) (fun p hp=>(hcx p hp).trans (by rw [← own2 p hp];rfl)),stage2 hf c (by lia),s2o c hc] at h1
      have h2:=all3_get (by simpa using h1) h hh
      have h2:(!((v1 (29+h)).testBit i)||(v1 (32+3*c+h)).testBit i)=true:=h2
      rw [hb h hh,hw c hc h hh,hbest] at h2
      simpa using h2
  · have e1:(any8 fun x=>.con (inF yourF x) (all8 fun c=>.dis (.neg (bitsF yourF c x)) (evenV c))).b (fun n=>(v2 n).testBit i)=true:=e1
    refine el12 (any8_get e1) fun x hx e=>?_
    have e:((inF yourF x).b (fun n=>(v2 n).testBit i)&&(all8 fun c=>Fo.dis (.neg (bitsF yourF c x)) (evenV c)).b (fun n=>(v2 n).testBit i))=true:=e
    rw [Bool.and_eq_true] at e
    refine ⟨x,hx,fun p hp hxp=>?_,fun c hc hcx h hh hbest=>?_⟩
    · have:=in_get e.1 p hp hxp
      have h3:(!((v2 (8+p)).testBit i))=true:=this
      rw [own2 p hp] at h3
      simpa using h3
    · have h1:=all8_get e.2 c hc
      have h1:(!((bitsF yourF c x).b (fun n=>(v2 n).testBit i))||(v2 (64+c)).testBit i)=true:=h1
      rw [bits_of (v:=fun n=>(v2 n).testBit i) (q:=yourF) (fun p hp=>(hcx p hp).trans (by rw [← own2 p hp];rfl)),show 64+c=56+(8+c) by lia,stage2 hf (8+c) (by lia),s2e c hc] at h1
      have h2:=all3_get (by simpa using h1) h hh
      have h2:(!((v1 (32+3*c+h)).testBit i)||(v1 (29+h)).testBit i)=true:=h2
      rw [hb h hh,hw c hc h hh,hbest] at h2
      simpa using h2
end
end Mine
end
section
open PySem PySem.W PyProof.Rows
namespace Mine
section
theorem oddR_top {hit:Int→Bool} {M:Int}:∀ {L:List Int},L.Pairwise (fun x y=>y≤x)→M∈L→hit M=true→(∀ x∈L,hit x=true→x≤M)→oddR hit L=(M.fmod 2==1)
  | [],_,m,_,_=>by cases m
  | n::L,hs,m,hh,hle=>by
    rw [List.pairwise_cons] at hs
    show (if hit n then n.fmod 2==1 else oddR hit L)=_
    cases hn:hit n with
    | true =>
      rw [if_pos rfl]
      have h1:=hle n List.mem_cons_self hn
      have h2:M≤n:=by
        rcases List.mem_cons.1 m with e|m
        · rw [e];exact Int.le_refl _
        · exact hs.1 M m
      rw [Int.le_antisymm h1 h2]
    | false =>
      rw [if_neg (by simp)]
      rcases List.mem_cons.1 m with e|m
      · rw [← e,hh] at hn;cases hn
      · exact oddR_top hs.2 m hh fun x hx=>hle x (List.mem_cons_of_mem _ hx)
theorem max_or (a b:Nat):max a b=a∨max a b=b:=(Nat.le_total a b).elim (fun h=>.inr (Nat.max_eq_right h)) fun h=>.inl (Nat.max_eq_left h)
theorem top_one {f:Nat→Nat} {C p:Nat} (hp:p<3) (M:Nat) (h:M=if Nat.testBit C p then f p else 0):M=0∨∃ p,p<3∧Nat.testBit C p=true∧f p=M:=by
  by_cases t:Nat.testBit C p=true
  · exact .inr ⟨p,hp,t,(h.trans (if_pos t)).symm⟩
  · exact .inl (h.trans (if_neg t))
theorem top_at (f:Nat→Nat) (C:Nat):topOf f C=0∨∃ p,p<3∧Nat.testBit C p=true∧f p=topOf f C:=by
  rcases max_or (if Nat.testBit C 0 then f 0 else 0) (max (if Nat.testBit C 1 then f 1 else 0) (if Nat.testBit C 2 then f 2 else 0)) with h|h
  · exact top_one (p:=0) (by decide) _ h
  · rcases max_or (if Nat.testBit C 1 then f 1 else 0) (if Nat.testBit C 2 then f 2 else 0) with h'|h'
    · exact top_one (p:=1) (by decide) _ (h.trans h')
    · exact top_one (p:=2) (by decide) _ (h.trans h')
theorem top_ge (f:Nat→Nat) {C p:Nat} (hp:p<3) (h:Nat.testBit C p=true):f p≤topOf f C:=by
  refine Nat.le_trans (Nat.le_of_eq (if_pos h).symm:f p≤if Nat.testBit C p then f p else 0) ?_
  rcases lt3 hp with rfl|rfl|rfl
  · exact Nat.le_max_left _ _
  · exact Nat.le_trans (Nat.le_max_left _ _) (Nat.le_max_right _ _)
  · exact Nat.le_trans (Nat.le_max_right _ _) (Nat.le_max_right _ _)
theorem top_props (a b c:Nat) (C:Nat) (h0:0<C) (h8:C<8):(∃ p,p<3∧Nat.testBit C p=true∧nat3 a b c p=topOf (nat3 a b c) C)∧∀ p,p<3→Nat.testBit C p=true→nat3 a b c p≤topOf (nat3 a b c) C:=by
  refine ⟨(top_at (nat3 a b c) C).elim (fun h=>?_) id,fun p=>top_ge _⟩
  have key:∀ C,C<8→0<C→∃ p,p<3∧Nat.testBit C p=true:=by decide
  exact el12 (key C h8 h0) fun p hp ht=>⟨p,hp,ht,Nat.le_antisymm (top_ge _ hp ht) (h▸Nat.zero_le _)⟩
theorem odd_val {hit:Int→Bool} {C s0 s1 s2:Nat} (h0:0<C) (h8:C<8) (hh:∀ p,p<3→(hit (7+((nat3 s0 s1 s2 p:Nat):Int))=true↔∃ m,m<3∧Nat.testBit C m=true∧nat3 s0 s1 s2 m=nat3 s0 s1 s2 p)) :
    oddR hit (sort3I (7+(s0:Int)) (7+(s1:Int)) (7+(s2:Int)))=oddC (nat3 (7+s0) (7+s1) (7+s2)) C:=by
  have e:∀ p,p<3→nat3 (7+s0) (7+s1) (7+s2) p=7+nat3 s0 s1 s2 p:=fun p hp=>by rcases lt3 hp with rfl|rfl|rfl<;>rfl
  have mem:∀ x:Int,x∈sort3I (7+(s0:Int)) (7+(s1:Int)) (7+(s2:Int))↔∃ p,p<3∧x=7+((nat3 s0 s1 s2 p:Nat):Int):=fun x=>by
    rw [(sort3I_perm _ _ _).mem_iff]
    simp only [List.mem_cons,List.not_mem_nil,or_false]
    constructor
    · rintro (rfl|rfl|rfl)
      · exact ⟨0,by decide,rfl⟩
      · exact ⟨1,by decide,rfl⟩
      · exact ⟨2,by decide,rfl⟩
    · rintro ⟨p,hp,rfl⟩
      rcases lt3 hp with rfl|rfl|rfl
      · exact .inl rfl
      · exact .inr (.inl rfl)
      · exact .inr (.inr rfl)
  obtain ⟨⟨p,hp,hb,ht⟩,hmax⟩:=top_props (7+s0) (7+s1) (7+s2) C h0 h8
  have hM:((topOf (nat3 (7+s0) (7+s1) (7+s2)) C:Nat):Int)=7+((nat3 s0 s1 s2 p:Nat):Int):=by
    rw [← ht,e p hp];lia
  rw [oddR_top (M:=((topOf (nat3 (7+s0) (7+s1) (7+s2)) C:Nat):Int)) (sort3I_sorted _ _ _) ((mem _).2 ⟨p,hp,hM⟩) (by rw [hM];exact (hh p hp).2 ⟨p,hp,hb,rfl⟩) fun x hx hxh=>?_]
  · show _=(topOf (nat3 (7+s0) (7+s1) (7+s2)) C % 2==1)
    generalize topOf (nat3 (7+s0) (7+s1) (7+s2)) C=M
    rw [Int.fmod_eq_emod_of_nonneg _ (by lia),Bool.eq_iff_iff,beq_iff_eq,beq_iff_eq]
    lia
  · refine el12 ((mem x).1 hx) fun p' hp' q2q=>?_;subst q2q
    refine el13 ((hh p' hp').1 hxh) fun m hm hbm es=>?_
    have:=hmax m hm hbm
    rw [e m hm] at this
    lia
theorem sgc_lt:∀ s,s<16→SgOk (sgc s):=by
  have h:((List.range 16).all fun s=>sgc s != 46&&((Nat.blt (sgc s) 97||Nat.blt 99 (sgc s))&&Nat.blt (sgc s) 1000))=true:=by decide +kernel
  intro s hs
  have:=List.all_eq_true.1 h s (List.mem_range.2 hs)
  unfold SgOk
  simpa using this
theorem sgc_big {s:Nat} (h:16≤s):sgc s=0:=by
  unfold sgc
  have:¬ s<16:=by lia
  simp [Array.getD,this]
theorem sgc_ok (s:Nat):SgOk (sgc s):=by
  by_cases h:s<16
  · exact sgc_lt s h
  · rw [sgc_big (by lia)];unfold SgOk;lia
theorem sgc_inj {s t:Nat} (hs:s<16) (ht:t<16):sgc s=sgc t↔s=t:=by
  have h:((List.range 16).all fun s=>(List.range 16).all fun t=>(sgc s==sgc t)==(s==t))=true:=by decide +kernel
  have h1:=List.all_eq_true.1 (List.all_eq_true.1 h s (List.mem_range.2 hs)) t (List.mem_range.2 ht)
  have h2:=eq_of_beq h1
  rw [Bool.eq_iff_iff,beq_iff_eq,beq_iff_eq] at h2
  exact h2
theorem sgC_is (s:Nat):sgC (7+(s:Int))=sgc s:=by
  unfold sgC sgc
  rw [show (7+(s:Int) - 7).toNat=s by lia]
end
section
noncomputable def gm (r0 r1 r2:Row):Gm where
  to:=fun p e=>if e then (rowAtP r0 r1 r2 p).b else (rowAtP r0 r1 r2 p).a
  own:=fun p=>(rowAtP r0 r1 r2 p).m
  num:=nat3 (7+r0.s) (7+r1.s) (7+r2.s)
theorem tri1 {p:Nat} (h:p<3):∃ b c,Tri p b c:=by
  rcases lt3 h with rfl|rfl|rfl
  · exact ⟨1,2,by constructor<;>decide⟩
  · exact ⟨0,2,by constructor<;>decide⟩
  · exact ⟨0,1,by constructor<;>decide⟩
theorem tri2 {p q:Nat} (h:p<3) (h':q<3) (n:p≠q):∃ c,Tri p q c:=⟨3 - p - q,by constructor<;>omega⟩
section
variable {nxt sg:Nat→Nat} (lt:∀ p,nxt p<3) (g:∀ p,SgOk (sg p))
include lt
theorem tri_nxt {p0:Nat} (h0:p0<3) (c1:nxt p0≠p0) (c2:¬ (nxt (nxt p0)=p0∨nxt (nxt p0)=nxt p0)):Tri p0 (nxt p0) (nxt (nxt p0)):=⟨h0,lt _,lt _,fun e=>c1 e.symm,fun e=>c2 (.inl e.symm),fun e=>c2 (.inr e.symm)⟩
include g
theorem told_play (w:World) (n:Nat) {p0:Nat} (h0:p0<3):Contract w (n+2) (.ref 286) [.str (playP nxt sg p0)] (.bool true):=by
  unfold playP
  by_cases c1:nxt p0=p0
  · rw [if_pos c1,c1]
    obtain ⟨b,c,X⟩:=tri1 h0
    exact told_ok3 w p0 p0 (sg p0) _ _ n h0 h0 (told_T30 X (g _))
  · rw [if_neg c1]
    by_cases c2:nxt (nxt p0)=p0∨nxt (nxt p0)=nxt p0
    · rw [if_pos c2]
      obtain ⟨c,X⟩:=tri2 h0 (lt p0) (fun e=>c1 e.symm)
      rcases c2 with c2|c2
      · rw [c2]
        exact told_ok5 w p0 p0 (sg p0) (97+nxt p0) (sg (nxt p0)) _ _ n h0 h0 (told_T50 X (g _) (g _))
      · rw [c2]
        exact told_ok5 w p0 (nxt p0) (sg p0) (97+nxt p0) (sg (nxt p0)) _ _ n h0 (lt _) (told_T52 X (g _) (g _))
    · rw [if_neg c2]
      have X:=tri_nxt lt h0 c1 c2
      rcases tri_any X (lt (nxt (nxt p0))) with e|e|e
      · rw [e]
        exact told_ok7 w p0 p0 (sg p0) (97+nxt p0) (sg (nxt p0)) (97+nxt (nxt p0)) (sg (nxt (nxt p0))) _ _ n h0 h0 (told_T70 X (g _) (g _) (g _))
      · rw [e]
        exact told_ok7 w p0 (nxt p0) (sg p0) (97+nxt p0) (sg (nxt p0)) (97+nxt (nxt p0)) (sg (nxt (nxt p0))) _ _ n h0 (lt _) (told_T72 X (g _) (g _) (g _))
      · rw [e]
        exact told_ok7 w p0 (nxt (nxt p0)) (sg p0) (97+nxt p0) (sg (nxt p0)) (97+nxt (nxt p0)) (sg (nxt (nxt p0))) _ _ n h0 (lt _) (told_T74 X (g _) (g _) (g _))
end
theorem row_s (r0 r1 r2:Row) (p:Nat):(rowAtP r0 r1 r2 p).s=nat3 r0.s r1.s r2.s p:=by
  match p with
  | 0=>rfl
  | 1=>rfl
  | _+2=>rfl
noncomputable def cycB (C:Nat) (cyc:List Nat):Bool:=Nat.blt 0 C&&(Nat.blt C 8&&(cyc.all (fun p=>Nat.blt p 3)&&(List.range 3).all fun p=>Nat.testBit C p==cyc.contains p))
theorem cyc_e {C:Nat} {cyc:List Nat} (hc:cycB C cyc=true):0<C∧C<8∧(∀ p∈cyc,p<3)∧∀ p,p<3→Nat.testBit C p=cyc.contains p:=by
  have B:=Bool.and_eq_true_iff.1 hc
  have B2:=Bool.and_eq_true_iff.1 B.2
  have B3:=Bool.and_eq_true_iff.1 B2.2
  exact ⟨Nat.le_of_ble_eq_true B.1,Nat.le_of_ble_eq_true B2.1,fun p hp=>Nat.le_of_ble_eq_true (List.all_eq_true.1 B3.1 p hp),fun p hp=>eq_of_beq (List.all_eq_true.1 B3.2 p (List.mem_range.2 hp))⟩
theorem cyc1 {p:Nat} (h:p<3):cycB (2 ^ p) [p]=true:=atN (n:=3) (f:=fun p=>cycB (2 ^ p) [p]) (g:=fun _=>true) (by kernel_rfl!) h
theorem cyc2 {p q:Nat} (h:p<3) (h':q<3) (n:p≠q):cycB (2 ^ p+2 ^ q) [p,q]=true:=by
  obtain ⟨j,hj,rfl,rfl⟩:=two_j h h' n
  exact atN (n:=6) (f:=fun j=>cycB (2 ^ pA j+2 ^ pB j) [pA j,pB j]) (g:=fun _=>true) (by kernel_rfl!) hj
theorem cyc3 {p q r:Nat} (X:Tri p q r):cycB (2 ^ p+2 ^ q+2 ^ r) [p,q,r]=true:=by
  obtain ⟨j,hj,rfl,rfl,rfl⟩:=tri_j X
  exact atN (n:=6) (f:=fun j=>cycB (2 ^ pA j+2 ^ pB j+2 ^ pC j) [pA j,pB j,pC j]) (g:=fun _=>true) (by kernel_rfl!) hj
theorem odd_cyc {hit:Int→Bool} {C s0 s1 s2:Nat} {cyc:List Nat} (hc:cycB C cyc=true) (hh:∀ p,p<3→hit (7+((nat3 s0 s1 s2 p:Nat):Int))=cyc.any fun m=>nat3 s0 s1 s2 m==nat3 s0 s1 s2 p) :
    oddR hit (sort3I (7+(s0:Int)) (7+(s1:Int)) (7+(s2:Int)))=oddC (nat3 (7+s0) (7+s1) (7+s2)) C :=
  el04 (cyc_e hc) fun h0 h8 h3 hb=>odd_val h0 h8 fun p hp=>by
    rw [hh p hp,List.any_eq_true]
    exact ⟨fun h=>el12 h fun m hm e=>⟨m,h3 m hm,(hb m (h3 m hm)).trans (List.contains_iff_mem.2 hm),eq_of_beq e⟩,fun h=>el13 h fun m hm hm' e=>⟨m,List.contains_iff_mem.1 ((hb m hm).symm.trans hm'),beq_iff_eq.2 e⟩⟩
section
variable {K:Nat→Bool} {nxt:Nat→Nat} {p0:Nat}
theorem bT:∀ {a b:Nat},a=b→Nat.beq a b=true:=fun e=>by rw [e];exact Nat.beq_refl _
theorem bF {a b:Nat} (e:a≠b):Nat.beq a b=false:=by
  cases hb:Nat.beq a b with
  | false=>rfl
  | true=>exact absurd (Nat.eq_of_beq_eq_true hb) e
theorem wk1 (c1:nxt p0=p0):walkT K (fun p k=>k (nxt p)) p0=K (2 ^ p0):=by unfold walkT;dsimp only;rw [bT c1];rfl
theorem wk2 (c1:nxt p0≠p0) (c2:nxt (nxt p0)=p0):walkT K (fun p k=>k (nxt p)) p0=K (2 ^ p0+2 ^ nxt p0):=by unfold walkT;dsimp only;rw [bF c1,bF (by rw [c2];exact c1.symm),bT c2];rfl
theorem wk3 (c1:nxt p0≠p0) (c2:nxt (nxt p0)=nxt p0):walkT K (fun p k=>k (nxt p)) p0=K (2 ^ nxt p0):=by unfold walkT;dsimp only;rw [bF c1,bT c2];rfl
theorem wk4 (X:Tri p0 (nxt p0) (nxt (nxt p0))) (e3:nxt (nxt (nxt p0))=p0):walkT K (fun p k=>k (nxt p)) p0=K (2 ^ p0+2 ^ nxt p0+2 ^ nxt (nxt p0)):=by unfold walkT;dsimp only;rw [bF X.ab.symm,bF X.bc.symm,bF X.ac.symm,bF (by rw [e3];exact X.ac),bF (by rw [e3];exact X.ab)];rfl
theorem wk5 (X:Tri p0 (nxt p0) (nxt (nxt p0))) (e3:nxt (nxt (nxt p0))=nxt p0):walkT K (fun p k=>k (nxt p)) p0=K (2 ^ nxt p0+2 ^ nxt (nxt p0)):=by unfold walkT;dsimp only;rw [bF X.ab.symm,bF X.bc.symm,bF X.ac.symm,bF (by rw [e3];exact X.bc),bT e3];rfl
theorem wk6 (X:Tri p0 (nxt p0) (nxt (nxt p0))) (e3:nxt (nxt (nxt p0))=nxt (nxt p0)):walkT K (fun p k=>k (nxt p)) p0=K (2 ^ nxt (nxt p0)):=by unfold walkT;dsimp only;rw [bF X.ab.symm,bF X.bc.symm,bF X.ac.symm,bT e3];rfl
end
theorem odd_play (w:World) (n:Nat) {r0 r1 r2:Row} (H0:RowOk r0) (H1:RowOk r1) (H2:RowOk r2) {c p0:Nat} (hc:c<8) (h0:p0<3):Contract w (n+2) (.ref 291) [boardD r0 r1 r2,.str (playP (nxP r0 r1 r2 c) (sgP r0 r1 r2) p0)] (.bool (wonB (gm r0 r1 r2) c p0)):=by
  have hR:∀ p,RowOk (rowAtP r0 r1 r2 p):=fun p=>by unfold rowAtP;split<;>assumption
  have lt:∀ p,nxP r0 r1 r2 c p<3:=fun p=>nx_lt (hR p) c p
  have sgs:∀ p,sgP r0 r1 r2 p=sgc (nat3 r0.s r1.s r2.s p):=fun p=>by unfold sgP;rw [row_s]
  have s16:∀ p,nat3 r0.s r1.s r2.s p<16:=fun p=>by rw [← row_s];exact (hR p).s
  have g:∀ p,SgOk (sgP r0 r1 r2 p):=fun p=>sgc_ok _
  have hs:∀ m p,(sgP r0 r1 r2 m==sgC (7+((nat3 r0.s r1.s r2.s p:Nat):Int)))=(nat3 r0.s r1.s r2.s m==nat3 r0.s r1.s r2.s p):=fun m p=>by
    rw [sgC_is,sgs,Bool.eq_iff_iff,beq_iff_eq,beq_iff_eq,sgc_inj (s16 m) (s16 p)]
  have gC:∀ p,SgOk (sgC (7+((nat3 r0.s r1.s r2.s p:Nat):Int))):=fun p=>by rw [sgC_is];exact sgc_ok _
  show Contract w (n+2) (.ref 291) _ (.bool (walkT (oddC (nat3 (7+r0.s) (7+r1.s) (7+r2.s))) (fun p k=>k (nxP r0 r1 r2 c p)) p0))
  clear s16 sgs hR
  generalize sgP r0 r1 r2=sg at g hs ⊢
  generalize nxP r0 r1 r2 c=nxt at lt ⊢
  unfold playP
  by_cases c1:nxt p0=p0
  · rw [if_pos c1,wk1 c1,c1]
    refine Exists.elim (tri1 h0) fun b h=>Exists.elim h fun c' X=>?_
    have:=odd_ok30 w p0 p0 (sg p0) r0 r1 r2 n ⟨[],occ_T30 X (g _)⟩
    rw [odd_cyc (cyc1 h0) fun p hp=>(odd_T30 X (g _) (gC p)).trans (by rw [hs];simp only [List.any_cons,List.any_nil,Bool.or_false])] at this
    exact this
  · rw [if_neg c1]
    have n01:p0≠nxt p0:=fun e=>c1 e.symm
    by_cases c2:nxt (nxt p0)=p0∨nxt (nxt p0)=nxt p0
    · rw [if_pos c2]
      refine Exists.elim (tri2 h0 (lt p0) n01) fun c' X=>?_
      rcases c2 with c2|c2
      · rw [wk2 c1 c2,c2]
        have:=odd_ok50 w p0 p0 (sg p0) (97+nxt p0) (sg (nxt p0)) r0 r1 r2 n ⟨[],occ_T50 X (g _) (g _)⟩
        rw [odd_cyc (cyc2 h0 (lt p0) n01) fun p hp=>(odd_T50 X (g _) (g _) (gC p)).trans (by rw [hs,hs];simp only [List.any_cons,List.any_nil,Bool.or_false])] at this
        exact this
      · rw [wk3 c1 c2,c2]
        have:=odd_ok52 w p0 (nxt p0) (sg p0) (97+nxt p0) (sg (nxt p0)) r0 r1 r2 n ⟨[],occ_T52 X (g _) (g _)⟩
        rw [odd_cyc (cyc1 (lt p0)) fun p hp=>(odd_T52 X (g _) (g _) (gC p)).trans (by rw [hs];simp only [List.any_cons,List.any_nil,Bool.or_false])] at this
        exact this
    · rw [if_neg c2]
      have X:=tri_nxt lt h0 c1 c2
      rcases tri_any X (lt (nxt (nxt p0))) with e3|e3|e3
      · rw [wk4 X e3,e3]
        have:=odd_ok70 w p0 p0 (sg p0) (97+nxt p0) (sg (nxt p0)) (97+nxt (nxt p0)) (sg (nxt (nxt p0))) r0 r1 r2 n ⟨[],occ_T70 X (g _) (g _) (g _)⟩
        rw [odd_cyc (cyc3 X) fun p hp=>(odd_T70 X (g _) (g _) (g _) (gC p)).trans (by rw [hs,hs,hs];simp only [List.any_cons,List.any_nil,Bool.or_false,Bool.or_assoc])] at this
        exact this
      · rw [wk5 X e3,e3]
        have:=odd_ok72 w p0 (nxt p0) (sg p0) (97+nxt p0) (sg (nxt p0)) (97+nxt (nxt p0)) (sg (nxt (nxt p0))) r0 r1 r2 n ⟨[],occ_T72 X (g _) (g _) (g _)⟩
        rw [odd_cyc (cyc2 (lt p0) (lt _) X.bc) fun p hp=>(odd_T72 X (g _) (g _) (g _) (gC p)).trans (by rw [hs,hs];simp only [List.any_cons,List.any_nil,Bool.or_false])] at this
        exact this
      · rw [wk6 X e3,e3]
        have:=odd_ok74 w p0 (nxt (nxt p0)) (sg p0) (97+nxt p0) (sg (nxt p0)) (97+nxt (nxt p0)) (sg (nxt (nxt p0))) r0 r1 r2 n ⟨[],occ_T74 X (g _) (g _) (g _)⟩
        rw [odd_cyc (cyc1 (lt (nxt p0))) fun p hp=>(odd_T74 X (g _) (g _) (g _) (gC p)).trans (by rw [hs];simp only [List.any_cons,List.any_nil,Bool.or_false])] at this
        exact this
end
section
theorem fine_name (w:World):(List.range 24).map (fun i=>fineT w.params true (nameR (i % 3) (i / 3)))=(List.range 24).map fun _=>true:=by kernel_rfl!
theorem fine_spell (w:World):(List.range 24).map (fun i=>fineT w.params false (spellS (i % 3) (i / 3)))=(List.range 24).map fun _=>true:=by kernel_rfl!
theorem fine_low (w:World):(List.range 3).map (fun i=>fineT w.params true (lwS i))=(List.range 3).map fun _=>true:=by kernel_rfl!
theorem fine_abc (w:World):(fineT w.params true "abc"&&fineT w.params false "abc")=true:=by kernel_rfl!
theorem fine_mark (w:World):(List.range 96).map (fun i=>fineT w.params false ⟨#[markR (i / 48==1) (i / 16 % 3),sgc0 (i % 16)]⟩)=(List.range 96).map fun _=>true:=by kernel_rfl!
theorem low_name:(List.range 24).map (fun i=>lowS (nameR (i % 3) (i / 3)))=(List.range 24).map fun i=>letS (i % 3):=by kernel_rfl!
theorem fine_nameR (w:World) {p d:Nat} (hp:p<3) (hd:d<8):fineT w.params true (nameR p d)=true:=by
  have:=at24 (fine_name w) (i:=p+3*d) (by lia)
  rwa [show (p+3*d) % 3=p by lia,show (p+3*d) / 3=d by lia] at this
theorem fine_spellS (w:World) {p d:Nat} (hp:p<3) (hd:d<8):fineT w.params false (spellS p d)=true:=by
  have:=at24 (fine_spell w) (i:=p+3*d) (by lia)
  rwa [show (p+3*d) % 3=p by lia,show (p+3*d) / 3=d by lia] at this
theorem low_nameR {p d:Nat} (hp:p<3) (hd:d<8):lowS (nameR p d)=letS p:=by
  have:=at24 low_name (i:=p+3*d) (by lia)
  rwa [show (p+3*d) % 3=p by lia,show (p+3*d) / 3=d by lia] at this
theorem atM {α:Type} {f g:Nat→α} {N:Nat} (h:(List.range N).map f=(List.range N).map g) {i:Nat} (hi:i<N):f i=g i:=by
  have:=congrArg (fun l=>l[i]?) h
  simpa [hi] using this
theorem fine_markS (w:World) (m:Bool) {p s:Nat} (hp:p<3) (hs:s<16):fineT w.params false ⟨#[markR m p,sgc0 s]⟩=true:=by
  cases m with
  | false =>
    have:=atM (fine_mark w) (i:=16*p+s) (by lia)
    rwa [show (16*p+s) / 48=0 by lia,show (16*p+s) / 16 % 3=p by lia,show (16*p+s) % 16=s by lia] at this
  | true =>
    have:=atM (fine_mark w) (i:=48+(16*p+s)) (by lia)
    rwa [show (48+(16*p+s)) / 48=1 by lia,show (48+(16*p+s)) / 16 % 3=p by lia,show (48+(16*p+s)) % 16=s by lia] at this
theorem fine_lwS (w:World) {i:Nat} (hi:i<3):fineT w.params true (lwS i)=true:=atM (fine_low w) hi
noncomputable def dq (r:Res) (t:Nat):Nat:=(r.q+t) % 8
noncomputable def rowsR (r0 r1 r2:Res):List (Str × Str):=[("abc","abc"),
  (nameR 0 (dq r0 0),⟨#[markR r0.m 0,sgc0 r0.s]⟩),(nameR 1 (dq r1 0),⟨#[markR r1.m 1,sgc0 r1.s]⟩),(nameR 2 (dq r2 0),⟨#[markR r2.m 2,sgc0 r2.s]⟩),
  (nameR 0 (dq r0 1),spellS r0.a (dq r0 1)),(nameR 1 (dq r1 1),spellS r1.a (dq r1 1)),(nameR 2 (dq r2 1),spellS r2.a (dq r2 1)),
  (nameR 0 (dq r0 2),spellS r0.b (dq r0 2)),(nameR 1 (dq r1 2),spellS r1.b (dq r1 2)),(nameR 2 (dq r2 2),spellS r2.b (dq r2 2))]
theorem rows_eq (r0 r1 r2:Res):rowsL r0 r1 r2=(rowsR r0 r1 r2).map rowD:=rfl
theorem dq_lt (r:Res) (t:Nat):dq r t<8:=Nat.mod_lt _ (by decide)
section
variable {r0 r1 r2:Res} (H0:ResOk r0) (H1:ResOk r1) (H2:ResOk r2)
include H0 H1 H2
theorem rows_fine (w:World):∀ r∈rowsR r0 r1 r2,fineR w r:=fun r hr=>by
  have abc:=fine_abc w
  rw [Bool.and_eq_true] at abc
  simp only [rowsR,List.mem_cons,List.not_mem_nil,or_false] at hr
  rcases hr with rfl|rfl|rfl|rfl|rfl|rfl|rfl|rfl|rfl|rfl
  · exact abc
  · exact ⟨fine_nameR w (by decide) (dq_lt _ _),fine_markS w _ (by decide) H0.s⟩
  · exact ⟨fine_nameR w (by decide) (dq_lt _ _),fine_markS w _ (by decide) H1.s⟩
  · exact ⟨fine_nameR w (by decide) (dq_lt _ _),fine_markS w _ (by decide) H2.s⟩
  · exact ⟨fine_nameR w (by decide) (dq_lt _ _),fine_spellS w H0.a (dq_lt _ _)⟩
  · exact ⟨fine_nameR w (by decide) (dq_lt _ _),fine_spellS w H1.a (dq_lt _ _)⟩
  · exact ⟨fine_nameR w (by decide) (dq_lt _ _),fine_spellS w H2.a (dq_lt _ _)⟩
  · exact ⟨fine_nameR w (by decide) (dq_lt _ _),fine_spellS w H0.b (dq_lt _ _)⟩
  · exact ⟨fine_nameR w (by decide) (dq_lt _ _),fine_spellS w H1.b (dq_lt _ _)⟩
  · exact ⟨fine_nameR w (by decide) (dq_lt _ _),fine_spellS w H2.b (dq_lt _ _)⟩
omit H0 H1 H2 in
theorem low_abc:lowS "abc"="abc":=by kernel_rfl!
omit H0 H1 H2 in
theorem rows_low:∀ r∈rowsR r0 r1 r2,Nat.ble (lowS r.1).length sizeLine=true:=fun r hr=>by
  have one:∀ p d,p<3→d<8→Nat.ble (lowS (nameR p d)).length sizeLine=true:=fun p d hp hd=>by
    rw [low_nameR hp hd]
    exact Nat.ble_eq_true_of_le (by show 1≤_;rw [sizeLine_eq];lia)
  simp only [rowsR,List.mem_cons,List.not_mem_nil,or_false] at hr
  rcases hr with rfl|rfl|rfl|rfl|rfl|rfl|rfl|rfl|rfl|rfl
  · rw [low_abc];exact Nat.ble_eq_true_of_le (by show 3≤_;rw [sizeLine_eq];lia)
  all_goals exact one _ _ (by decide) (dq_lt _ _)
noncomputable def rowOf (r:Res):Row:=⟨r.m,r.s,r.a,r.b⟩
noncomputable def r3 (r0 r1 r2:Res):Nat→Res
  | 0=>r0
  | 1=>r1
  | _=>r2
omit H0 H1 H2 in
theorem getRow_name {i p d:Nat} (v:Str) (hi:i<3) (hp:p<3) (hd:d<8):getRow (lwS i) (rowD (nameR p d,v))=if p=i then [.str v] else []:=by
  show (if lowS (nameR p d)==lwS i then [D.str v] else [])=_
  rw [low_nameR hp hd]
  rcases lt3 hi with rfl|rfl|rfl<;>rcases lt3 hp with rfl|rfl|rfl<;>rfl
omit H0 H1 H2 in
theorem getRow_abc {i:Nat} (hi:i<3):getRow (lwS i) (rowD ("abc","abc"))=[]:=by
  show (if lowS "abc"==lwS i then [D.str "abc"] else [])=_
  rw [low_abc]
  rcases lt3 hi with rfl|rfl|rfl<;>rfl
omit H0 H1 H2 in
theorem get_rows {i:Nat} (hi:i<3):getF (rowsR r0 r1 r2) (lwS i)=[.str ⟨#[markR (r3 r0 r1 r2 i).m i,sgc0 (r3 r0 r1 r2 i).s]⟩,.str (spellS (r3 r0 r1 r2 i).a (dq (r3 r0 r1 r2 i) 1)),.str (spellS (r3 r0 r1 r2 i).b (dq (r3 r0 r1 r2 i) 2))]:=by
  unfold getF rowsR
  simp only [List.map_cons,List.map_nil,List.flatMap_cons,List.flatMap_nil]
  rw [getRow_abc hi,getRow_name _ hi (by decide) (dq_lt _ _),getRow_name _ hi (by decide) (dq_lt _ _),getRow_name _ hi (by decide) (dq_lt _ _),getRow_name _ hi (by decide) (dq_lt _ _),getRow_name _ hi (by decide) (dq_lt _ _),getRow_name _ hi (by decide) (dq_lt _ _),getRow_name _ hi (by decide) (dq_lt _ _),getRow_name _ hi (by decide) (dq_lt _ _),getRow_name _ hi (by decide) (dq_lt _ _)]
  rcases lt3 hi with rfl|rfl|rfl<;>rfl
theorem res3 {i:Nat} (hi:i<3):ResOk (r3 r0 r1 r2 i):=by
  rcases lt3 hi with rfl|rfl|rfl<;>assumption
omit H0 H1 H2 in
theorem mark_m (m:Bool) {p:Nat} (hp:p<3):(decide (((markR m p:Nat):Int) ≥ 256)==true)=m:=by
  rcases lt3 hp with rfl|rfl|rfl<;>cases m<;>rfl
open Classical in
noncomputable def mkT (T:List D) (l:List D):Option D:=if l=T then some (.obj T) else none
open Classical in
noncomputable def gaT (r0 r1 r2:Res) (l:List D) (y:Str):Option D:=if l=rowsL r0 r1 r2 then (if y=upS 0 then some (.list (getF (rowsR r0 r1 r2) (lwS 0))) else if y=upS 1 then some (.list (getF (rowsR r0 r1 r2) (lwS 1))) else if y=upS 2 then some (.list (getF (rowsR r0 r1 r2) (lwS 2))) else none) else none
open Classical in
noncomputable def rwT (x0 x1 x2:Int) (r0 r1 r2:Res) (ds:List D):Option D:=if ds=[drawsD x0 x1 x2 r0 r1 r2] then some (.list (rowsL r0 r1 r2)) else none
omit H0 H1 H2 in
theorem gaT_is {i:Nat} (hi:i<3):gaT r0 r1 r2 (rowsL r0 r1 r2) (upS i)=some (.list (getF (rowsR r0 r1 r2) (lwS i))):=by
  unfold gaT
  rw [if_pos rfl]
  rcases lt3 hi with rfl|rfl|rfl
  · rw [if_pos rfl]
  · rw [if_neg (by decide),if_pos rfl]
  · rw [if_neg (by decide),if_neg (by decide),if_pos rfl]
theorem bin_ok {i:Nat} (hi:i<3):BIn (gaT r0 r1 r2) (rowsL r0 r1 r2) (upS i) (markR (r3 r0 r1 r2 i).m i) (r3 r0 r1 r2 i).s (spellS (r3 r0 r1 r2 i).a (dq (r3 r0 r1 r2 i) 1)) (spellS (r3 r0 r1 r2 i).b (dq (r3 r0 r1 r2 i) 2)) (rowOf (r3 r0 r1 r2 i)) where
  g:=by rw [gaT_is hi,get_rows hi]
  m:=mark_m _ hi
  es:=rfl
  lt:=(res3 H0 H1 H2 hi).s
  x:=ctR_b3 (res3 H0 H1 H2 hi).a (dq_lt _ _)
  y:=ctR_b3 (res3 H0 H1 H2 hi).b (dq_lt _ _)
theorem board_ok (w:World) (x0 x1 x2:Int) (n:Nat):Contract w (n+4) (.ref 269) [drawsD x0 x1 x2 r0 r1 r2] (boardD (rowOf r0) (rowOf r1) (rowOf r2)):=by
  have hmk:mkT (rowsL r0 r1 r2) (rowsL r0 r1 r2)=some (.obj (rowsL r0 r1 r2)):=by unfold mkT;rw [if_pos rfl]
  have hrw:rwT x0 x1 x2 r0 r1 r2 [drawsD x0 x1 x2 r0 r1 r2]=some (.list (rowsL r0 r1 r2)):=by unfold rwT;rw [if_pos rfl]
  obtain ⟨g,e⟩:=board_run w (rwT x0 x1 x2 r0 r1 r2) (mkT (rowsL r0 r1 r2)) (gaT r0 r1 r2) (rowsL r0 r1 r2) (drawsD x0 x1 x2 r0 r1 r2) _ _ _ _ _ _ _ _ _ _ _ _ _ _ _ hrw hmk (bin_ok H0 H1 H2 (i:=0) (by decide)) (bin_ok H0 H1 H2 (i:=1) (by decide)) (bin_ok H0 H1 H2 (i:=2) (by decide))
  refine def_ok3 (ct:=ctB (rwT x0 x1 x2 r0 r1 r2)) (X:=bdX w (mkT (rowsL r0 r1 r2)) (gaT r0 r1 r2)) (m:=10) (k:=12) "board" (defr_board w) (fun f ds d h=>?_) (fun A R=>?_) rfl e
  · unfold ctB at h
    split at h
    · split at h
      · rename_i k hk
        have hk:=eq_of_beq hk
        subst hk
        unfold rwT at h
        split at h
        · rename_i hds
          cases h
          rw [hds]
          exact rows_ok w x0 x1 x2 r0 r1 r2 H0 H1 H2 (n+1)
        · exact nope h
      · exact ctR_ok w (n+2) _ _ _ h
    · exact nope h
  · refine sound_orX (sound_tblX (fun l d h s W v Y hW hv=>?_) fun l y d h=>?_) (sound_dictX rfl)
    · unfold mkT at h
      split at h
      · rename_i hl
        cases h
        subst hl
        exact make_ok (R:=rowsR r0 r1 r2) R Y hW hv (rows_fine H0 H1 H2 w)
      · exact nope h
    · have all:∀ i,i<3→CallOk w A (.ref 171) [.obj (rowsL r0 r1 r2),.str (upS i)] (.list (getF (rowsR r0 r1 r2) (lwS i))):=fun i hi=>all_ok w (n+1) (rowsR r0 r1 r2) i hi (fine_lwS w hi) (by show 10≤1000;decide) rows_low A R
      unfold gaT at h
      split at h
      · rename_i hl
        subst hl
        split at h
        · rename_i hy;cases h;rw [hy];exact all 0 (by decide)
        · split at h
          · rename_i hy;cases h;rw [hy];exact all 1 (by decide)
          · split at h
            · rename_i hy;cases h;rw [hy];exact all 2 (by decide)
            · exact nope h
      · exact nope h
end
end
section
noncomputable def duS (i:Nat):Stmt:=(fdB (stm 69)).getD i (.Pass default)
noncomputable def dunm (w:World):List (Str × NameKind):=(fdAt w.params 274).scope.names
noncomputable abbrev duO (w:World):Ops:=ops2 w ctR numX 10
theorem du_parts:fdB (stm 69)=[duS 0]:=by kernel_rfl!
theorem du_ret:duS 0=.Return (some (retX (duS 0))) (retP (duS 0)):=by kernel_rfl!
noncomputable def duL:PySem.Expr:=retX (duS 0)
noncomputable def duE (i:Nat):PySem.Expr:=(lsXs (lcE duL)).getD i (.Constant .none 0 default)
theorem du_lc:retX (duS 0)=.ListComp (.List [duE 0,duE 1,callE "_law_sign" (duE 2),.List [(lsXs (duE 3)).getD 0 (.Constant .none 0 default),(lsXs (duE 3)).getD 1 (.Constant .none 0 default)] (lsP (duE 3))] (lsP (lcE duL))) [lcG0 duL] (lcS duL) (lcP duL):=by kernel_rfl!
theorem du_elt (w:World) (x:Int) (r:Res) (H:ResOk r) (σ:List (Str × D)):(ops2 w ctR numX 9).ev ⟨(lcS duL).names,(("draw":Str),.num x r)::σ⟩ (.List [duE 0,duE 1,callE "_law_sign" (duE 2),.List [(lsXs (duE 3)).getD 0 (.Constant .none 0 default),(lsXs (duE 3)).getD 1 (.Constant .none 0 default)] (lsP (duE 3))] (lsP (lcE duL)))=some (rowB (rowOf r)):=by
  have e0:(ops2 w ctR numX 8).ev ⟨(lcS duL).names,(("draw":Str),.num x r)::σ⟩ (duE 0)=some (.bool r.m):=by
    obtain ⟨a,b,s,m,q⟩:=r
    cases m<;>kernel_rfl!
  have e1:(ops2 w ctR numX 8).ev ⟨(lcS duL).names,(("draw":Str),.num x r)::σ⟩ (duE 1)=some (.int (7+(r.s:Int))):=by kernel_rfl!
  have e2:(ops2 w ctR numX 8).ev ⟨(lcS duL).names,(("draw":Str),.num x r)::σ⟩ (callE "_law_sign" (duE 2))=some (.str (sgS r.s)):=ev_call rfl (by kernel_rfl!) (by kernel_rfl!) (ds:=[.num x r]) (by kernel_rfl!) (ctR_sign H.s)
  have e3:(ops2 w ctR numX 7).ev ⟨(lcS duL).names,(("draw":Str),.num x r)::σ⟩ ((lsXs (duE 3)).getD 0 (.Constant .none 0 default))=some (.str (letS r.a)):=by
    have h:=H.a
    obtain ⟨a,b,s,m,q⟩:=r
    dsimp only at h ⊢
    rcases lt3 h with rfl|rfl|rfl<;>kernel_rfl!
  have e4:(ops2 w ctR numX 7).ev ⟨(lcS duL).names,(("draw":Str),.num x r)::σ⟩ ((lsXs (duE 3)).getD 1 (.Constant .none 0 default))=some (.str (letS r.b)):=by
    have h:=H.b
    obtain ⟨a,b,s,m,q⟩:=r
    dsimp only at h ⊢
    rcases lt3 h with rfl|rfl|rfl<;>kernel_rfl!
  have e5:=ev_List (w:=w) (ct:=ctR) (X:=numX) (m:=7) (c:=⟨(lcS duL).names,(("draw":Str),.num x r)::σ⟩) (pos:=lsP (duE 3)) rfl (evL_cons (by kernel_rfl!) e3 (evL_one (by kernel_rfl!) e4)) (by simp)
  exact ev_List rfl (evL_cons (by kernel_rfl!) e0 (evL_cons (by kernel_rfl!) e1 (evL_cons rfl e2 (evL_one rfl e5)))) (by simp)
theorem due_ok (w:World) (x0 x1 x2:Int) {r0 r1 r2:Res} (H0:ResOk r0) (H1:ResOk r1) (H2:ResOk r2) (n:Nat):Contract w (n+2) (.ref 274) [drawsD x0 x1 x2 r0 r1 r2] (boardD (rowOf r0) (rowOf r1) (rowOf r2)):=by
  refine def_ok3 (ct:=ctR) (X:=numX) (m:=10) (k:=10) (g':=⟨[(("draws":Str),drawsD x0 x1 x2 r0 r1 r2)],none⟩) "" (defr_due w) (ctR_ok w n) (fun A R=>sound_numX) rfl ?_
  show exs2 (duO w) "" (dunm w) 10 ⟨[(("draws":Str),drawsD x0 x1 x2 r0 r1 r2)],none⟩ (fdB (stm 69))=_
  rw [du_parts]
  have turn:∀ (x:Int) (r:Res),ResOk r→turnD (ops2 w ctR numX 9) (lcS duL).names (bodyD (ops2 w ctR numX 9) (lcS duL).names (.List [duE 0,duE 1,callE "_law_sign" (duE 2),.List [(lsXs (duE 3)).getD 0 (.Constant .none 0 default),(lsXs (duE 3)).getD 1 (.Constant .none 0 default)] (lsP (duE 3))] (lsP (lcE duL))) []) (lcG0 duL).ifs "draw" ([(("draws":Str),drawsD x0 x1 x2 r0 r1 r2)].filter fun x=>(lcS duL).names.lookup x.1==some .free) (.num x r)=some [rowB (rowOf r)]:=fun x r H=>by
    rw [show (lcG0 duL).ifs=[] by kernel_rfl!]
    exact (turnD_one (b:=true) (r:=rowB (rowOf r)) rfl fun _=>du_elt w x r H _).trans rfl
  have e:(duO w).ev ⟨dunm w,[(("draws":Str),drawsD x0 x1 x2 r0 r1 r2)]⟩ (retX (duS 0))=some (boardD (rowOf r0) (rowOf r1) (rowOf r2)):=by
    rw [du_lc]
    refine ev_LC rfl (compL_of (by kernel_rfl!) (ds:=[.num x0 r0,.num x1 r1,.num x2 r2]) (tg:=tgAny) (by kernel_rfl!) (loopD_ok (n:="draw") (by kernel_rfl!) (by kernel_rfl!) (l:=[rowB (rowOf r0),rowB (rowOf r1),rowB (rowOf r2)]) ?_) (by simp))
    simp only [turnsD,turn x0 r0 H0,turn x1 r1 H1,turn x2 r2 H2,List.cons_append,List.nil_append]
  have a:=s1_Ret (on:="") (nm:=dunm w) (rec:=exs2 (duO w) "" (dunm w) 9) (pos:=retP (duS 0)) (g:=⟨[(("draws":Str),drawsD x0 x1 x2 r0 r1 r2)],none⟩) (ev2_of (g:=⟨[(("draws":Str),drawsD x0 x1 x2 r0 r1 r2)],none⟩) e)
  rw [← du_ret] at a
  exact x2_ret (k:=9) (by kernel_rfl!) (by kernel_rfl!) a
end
end Mine
end
section
open PySem PySem.W PyProof.Rows PySem.SeqAt
namespace Mine
section
noncomputable def idxI:List D→Int→Option Nat
  | .int k::l,i=>if k==i then some 0 else (idxI l i).map (·+1)
  | _,_=>none
noncomputable def plX (o:Ops) (c:Cx) (x:PySem.Expr):Option (Option D) :=
  (onLs x fun l pos=>onOne l fun x=>if isStar x then none else (o.ev c x).bind fun d=>some (some (.pl [d]))).or <|
  (onBin x fun l op r pos=>if isAdd op then onD (o.ev c l) asPl fun a=>onD (o.ev c r) asPl fun b=>if Nat.ble (a++b).length 1000 then some (some (.pl (a++b))) else none else none).or <|
  (onSub x fun v i pos=>onSli i fun lo hi st p=>onD (o.ev c v) asPl fun l=>(evPart (o.ev c) lo).bind fun a=>(evPart (o.ev c) hi).bind fun b=>(evPart (o.ev c) st).bind fun t=>some (sliceD (.list l) a b t)).or <|
  (onSub x fun v i pos=>onD (o.ev c v) asPl fun l=>(o.ev c i).bind fun y=>some (idxD (.list l) y)).or <|
  onM x fun n p m apos arg pos=>if m==("index":Str)&&((apos.endLine==pos.line)&&!isStar arg) then onD (o.ev c (.Name n p)) asPl fun l=>onD (o.ev c arg) asInt fun i=>if allInt l&&Nat.ble l.length 1000 then some ((idxI l i).map fun (j:Nat)=>D.int (j:Int)) else none else none
section
variable {w:World} {A:Around} {s:Shared} {W:List Addr} {e:Env}
theorem pl_list {h:Heap} {l:List D} {v:Value} (r:rep h W (.pl l) v):rep h W (.list l) v:=by
  simp only [rep] at r ⊢
  refine el24 r fun a xs e na pl r=>?_
  exact ⟨a,xs,e,na,pl.isList,r⟩
theorem EvOk.list {m:Sem Value} {l:List D} (h:EvOk w A m s W (.pl l)):EvOk w A m s W (.list l):=fun Q E q=>h Q E fun v s' k r=>q v s' k (pl_list r)
theorem idxI_spec:∀ {l:List D} {i:Int} {j:Nat},idxI l i=some j→j<l.length∧l[j]?=some (.int i)∧∀ m,m<j→∃ k,l[m]?=some (.int k)∧k≠i
  | [],_,_,h=>by simp [idxI] at h
  | d::l,i,j,h=>by
    cases d<;>simp only [idxI,reduceCtorEq] at h
    rename_i k
    split at h
    · rename_i hk
      cases h
      rw [beq_iff_eq] at hk
      subst hk
      exact ⟨by simp,by simp,fun m hm=>by lia⟩
    · rename_i hk
      rw [Option.map_eq_some_iff] at h
      refine el12 h fun j' hj q2q=>?_;subst q2q
      refine el03 (idxI_spec hj) fun h1 h2 h3=>?_
      refine ⟨by simp;lia,by simpa using h2,fun m hm=>?_⟩
      cases m with
      | zero=>exact ⟨k,by simp,by simpa using hk⟩
      | succ m =>
        refine el12 (h3 m (by lia)) fun k' e1 e2=>?_
        exact ⟨k',by simpa using e1,e2⟩
theorem ok_index {a:Addr} {xs:List Value} {l:List D} {i:Int} {t:Tok} {j:Nat} (il:s.heap.PlainList a (List.toArray xs)) (r:reps s.heap W l xs) (hint:allInt l=true) (hj:idxI l i=some j) (hlen:l.length≤1000):EvOk w A (call (.builtin "list.index") [.ref a,.int i t]) s W (.int (j:Int)):=fun Q E q=>by
  obtain ⟨n,ho⟩:=il
  refine el03 (idxI_spec hj) fun h1 h2 h3=>?_
  have hl:=reps_len _ _ r
  have at':∀ (m:Nat) (k:Int),l[m]?=some (D.int k)→∃ u,xs[m]?=some (Value.int k u):=fun m k hm=>by
    refine el12 (reps_get _ _ m _ r hm) fun v hv rv=>?_
    simp only [rep] at rv
    obtain ⟨u,rfl⟩:=rv
    exact ⟨u,hv⟩
  let ef:Value→Bool:=fun y=>match y with | .int k _=>k==i|_=>false
  have elem:∀ m (hm:m<xs.toArray.size) v,xs[m]?=some v→xs.toArray[m]=v:=fun m hm v hv=>by
    have:=List.getElem?_eq_some_iff.mp hv
    simpa using this.2
  refine call_meets PySem.F.slot_list_index ⟨_,ho,rfl⟩ PySem.F.entry_list_index (PySem.F.args_list_index_2 _ _) (list_indexAt a xs.toArray n none #[] (.int i t) ef j (by simp [hl];exact h1) (by lia) ?_ ?_) ⟨ho,fun y hy=>?_,?_⟩
  · obtain ⟨u,hu⟩:=at' j i h2
    rw [elem j (by simp [hl];exact h1) _ hu]
    show (i==i)=true
    simp
  · intro m hm hlt
    refine el12 (h3 m hlt) fun k hk hne=>?_
    obtain ⟨u,hu⟩:=at' m k hk
    rw [elem m hm _ hu]
    show (k==i)=false
    simpa using hne
  · obtain ⟨m,hm,rfl⟩:=Array.getElem_of_mem hy
    have hm':m<l.length:=by simpa [hl] using hm
    obtain ⟨u,hu⟩:=int_at (i:=m) (v:=xs.toArray[m]) hint r (by simp)
    have hu:xs.toArray[m]=.int (valAt l m) u:=hu
    rw [hu]
    exact EqAt.int_int _ _ _ _
  · exact q _ _ (keepsTok s _) ⟨_,rfl⟩
theorem ok_plAdd {l m:List D} {u v:Value} (hW:WOk s.heap W) (hu:rep s.heap W (.pl l) u) (hv:rep s.heap W (.pl m) v) (hlen:(l++m).length≤1000):EvOk w A (binaryOp .Add u v) s W (.pl (l++m)):=fun Q E q=>by
  simp only [rep] at hu hv
  obtain ⟨a,xs,rfl,na,⟨n,ha⟩,r⟩:=hu
  obtain ⟨b,ys,rfl,nb,⟨n2,hb⟩,r2⟩:=hv
  have l1:=reps_len _ _ r
  have l2:=reps_len _ _ r2
  rw [List.length_append] at hlen
  have e:xs.toArray++ys.toArray=(xs++ys).toArray:=by simp
  refine concat_meets ⟨_,ha,rfl⟩ ⟨_,hb,rfl⟩ noFill_list_add seq_list_add PySem.F.slot_list_add PySem.F.entry_list_add (PySem.F.args_list_add_2 _ _) (list_addW a b xs.toArray ys.toArray n n2 none none #[] #[] (by simp [l1,l2];rw [sizeLine_eq];lia)) ⟨ha,hb,?_⟩
  rw [e]
  refine q _ _ (keepsPush s _ _) ?_
  simp only [rep]
  refine ⟨_,xs++ys,rfl,fun m=>?_,⟨0,Heap.get?_push_size _ rfl⟩,reps_keep (fun _ _ g=>Heap.get?_push_of_some _ g) _ _ (reps_append _ _ _ _ r r2)⟩
  obtain ⟨o,g⟩:=hW _ m
  exact absurd (Heap.lt_size g) (Nat.lt_irrefl _)
theorem sound_plX:SoundX w A plX:=fun o Sd T e W c s x d Y hW R h=>by
  have later:∀ x d,o.ev c x=some d→∀ s',Keeps s s'→EvOk w A (eval x e) s' W d:=fun x d hx s' k=>Sd e W c s' x d (fun b o g=>Keeps.heap k b o (Y b o g)) (hW.keep (Keeps.heap k)) (R.keep (Keeps.heap k)) hx
  have now:∀ x d,o.ev c x=some d→EvOk w A (eval x e) s W d:=fun x d hx=>later x d hx s (Keeps.rfl' s)
  unfold plX at h
  refine or_e h (fun h=>onLs_e x h fun l pos h=>onOne_e l h fun x h=>ifn_e h fun hst h=>bnd_e h fun d0 hd0 hz=>?g1) fun h=>or_e h (fun h=>onBin_e x h fun l op r pos h=>if_e h fun ho h=>onD_e asPl_g h fun la hl h=>onD_e asPl_g h fun lb hr h=>if_e h fun hlen hz=>?g2) fun h=>or_e h (fun h=>onSub_e x h fun v i pos h=>onSli_e i h fun lo hi st p h=>onD_e asPl_g h fun l hv h=>bnd_e h fun a hl h=>bnd_e h fun b hh h=>bnd_e h fun t ht hz=>?g3) fun h=>or_e h (fun h=>onSub_e x h fun v i pos h=>onD_e asPl_g h fun l hv h=>bnd_e h fun y hi hz=>?g4) fun h=>onM_e x h fun n p m apos arg pos h=>if_e h fun hc h=>onD_e asPl_g h fun l hn h=>onD_e asInt_g h fun i ha h=>if_e h fun hck hz=>?g5
  case g1 =>
    cases hz
    intro Q E q
    have hE:EachOk w A e W s [x] [d0]:=.cons (by simpa using hst) (fun s' k=>later _ _ hd0 s' k) .nil
    refine new_List hE rfl Q E fun a xs s' k hn pl r=>q _ _ k ?_
    simp only [rep]
    refine ⟨a,xs,rfl,fun m=>?_,pl,reps_sub (fun b hb=>List.mem_cons_of_mem _ hb) _ _ r⟩
    obtain ⟨o',g⟩:=hW a m
    rw [hn] at g;cases g
  case g2 =>
    cases hz
    rw [isAdd_e ho]
    intro Q E q
    exact wpAny_BinOp (now _ _ hl _ E fun u s1 k1 r1=>later _ _ hr s1 k1 _ E fun v s2 k2 r2=>ok_plAdd (hW.keep (Keeps.heap (Keeps.tr k1 k2))) (rep_keep (Keeps.heap k2) _ _ r1) r2 (Nat.le_of_ble_eq_true hlen) Q E fun v' s3 k3 r3=>q v' s3 (Keeps.tr k1 (Keeps.tr k2 k3)) r3)
  case g3 =>
    exact ok_sub_slice hW (EvOk.list (now _ _ hv)) (part_of Sd Y hW R hl) (part_of Sd Y hW R hh) (part_of Sd Y hW R ht) rfl (Option.some.inj hz)
  case g4 =>
    exact ok_sub (EvOk.list (now _ _ hv)) (later _ _ hi) rfl (Option.some.inj hz)
  case g5 =>
    simp only [Bool.and_eq_true,beq_iff_eq,Bool.not_eq_true'] at hc
    refine el03 hc fun q0q hline hst=>?_;subst q0q
    rw [Bool.and_eq_true] at hck
    injection hz with hz
    rw [Option.map_eq_some_iff] at hz
    refine el12 hz fun j hj q2q=>?_;subst q2q
    intro Q E q
    have ht:backTo pos (starEach [arg] e)=[(false,eval arg e)]:=by rw [starEach_plain hst];rfl
    refine wpAny_Call_method1_late rfl (by rw [hline];exact BEq.rfl) ht (now _ _ hn _ E fun v s1 k1 r1=>?_)
    simp only [rep] at r1
    refine el24 r1 fun a xs q2q na pl r=>?_;subst q2q
    obtain ⟨n0,g0⟩:=pl
    have hE:EachOk w A e W s1 [arg] [.int i]:=.cons hst (fun s' k=>later _ _ ha s' (Keeps.tr k1 k)) .nil
    refine ⟨"list","list.index",F.plainAttrs_list,F.slot_list_index,F.type_list_index,⟨_,g0,rfl⟩,(fun a' ea=>by cases ea;exact ⟨_,g0,rfl⟩),?_⟩
    have:=ok_evalArgs (pos:=pos) (f:=.builtin "list.index") hE
    rw [ht] at this
    refine PySem.Calls.callWith_builtin rfl (this _ E fun us s2 k2 r2=>?_)
    refine el12 (reps_one r2) fun v q1q rv=>?_;subst q1q
    simp only [rep] at rv
    obtain ⟨t,rfl⟩:=rv
    exact ok_index ⟨n0,Keeps.heap k2 _ _ g0⟩ (reps_keep (Keeps.heap k2) _ _ r) hck.1 hj (Nat.le_of_ble_eq_true hck.2) Q E fun v s3 k3 r3=>q v s3 (Keeps.tr k1 (Keeps.tr k2 k3)) r3
end
end
end Mine
end
section
open PySem PyProof.Rows
namespace Mine
section
noncomputable def addN (σ:List Nat) (c:Nat):List Nat:=if σ.contains c then σ else σ++[c]
noncomputable def metN (l:List Nat):List Nat:=l.foldl addN []
noncomputable def hasN (σ:List Nat) (k:Str):Bool:=σ.any fun c=>k==⟨#[c]⟩
theorem metN_succ {l:List Nat} {i c:Nat} (h:l[i]?=some c):metN (l.take (i+1))=addN (metN (l.take i)) c:=by
  unfold metN
  rw [List.take_add_one,h,List.foldl_append];rfl
theorem one_eq (c d:Nat):((⟨#[c]⟩:Str)==⟨#[d]⟩)=(c==d):=by
  rw [Bool.eq_iff_iff,beq_iff_eq,beq_iff_eq]
  constructor
  · intro e;injection e with e;simpa using e
  · intro e;rw [e]
theorem hasN_one (σ:List Nat) (c:Nat):hasN σ ⟨#[c]⟩=σ.contains c:=by
  unfold hasN
  induction σ with
  | nil=>rfl
  | cons d σ ih=>rw [List.any_cons,List.contains_cons,one_eq,ih]
theorem hasN_add (σ:List Nat) (c:Nat) (k:Str):hasN (addN σ c) k=(hasN σ k||decide (k=⟨#[c]⟩)):=by
  unfold addN
  split
  · rename_i hc
    by_cases e:k=⟨#[c]⟩
    · rw [e,hasN_one,hc];rfl
    · rw [decide_eq_false e,Bool.or_false]
  · unfold hasN
    rw [List.any_append]
    simp only [List.any_cons,List.any_nil,Bool.or_false]
    congr 1
theorem len_add (σ:List Nat) (c:Nat):(addN σ c).length=if hasN σ ⟨#[c]⟩ then σ.length else σ.length+1:=by
  rw [hasN_one]
  unfold addN
  split<;>simp
theorem metN_len:∀ (l:List Nat),(metN l).length≤l.length:=fun l=>by
  have:∀ (l σ:List Nat),(l.foldl addN σ).length≤σ.length+l.length:=by
    intro l
    induction l with
    | nil=>intro σ;simp
    | cons c l ih =>
      intro σ
      rw [List.foldl_cons,List.length_cons]
      have h1:=ih (addN σ c)
      have h2:(addN σ c).length≤σ.length+1:=by rw [len_add];split<;>lia
      lia
  have:=this l []
  unfold metN
  simpa using this
section
variable {prog:Program} {w:World} {A:Around} {R:Result→Shared→Prop} {I:Addr} {x:Str} {St:Nat→Heap→Prop}
theorem set_text_loop (W:Walks prog w A.in1 I [I] [I] x.cps.size (SignAt x) St) (S:Addr) (hS:S≠I) (hb:x.cps.size+1<scanBound) :
    ∀ (k i:Nat) (s:Shared),x.cps.size - i=k→i≤x.cps.size→St i s.heap→s.heap.SetOf (PySem.strKind prog w) S (hasN (metN (x.cps.toList.take i))) (metN (x.cps.toList.take i)).length →
      (∀ h' tk,(∀ b o,b≠S→b≠I→s.heap.get? b=some o→h'.get? b=some o)→h'.SetOf (PySem.strKind prog w) S (hasN (metN x.cps.toList)) (metN x.cps.toList).length→R (.ok (.ret .none)) { s with heap:=h',toks:=tk }) →
      codeAny (model prog w) A (.builtin "set.update.loop" ⟨[.ref S,.ref I],[]⟩) R s:=by
  intro k
  induction k with
  | zero =>
    intro i s hk hi hst hSet hR
    have hin:i=x.cps.size:=by lia
    subst hin
    refine codeAny_builtin F.entry_set_update_loop ?_
    rw [Around.under_plainId F.plain_set_update_loop _]
    show wpAny _ A.in1 (pyNext (.ref I) >>= _) _ _ s
    refine wpAny_bind (W.done s _ _ hst fun h' tk hk'=>?_)
    show wpAny _ A.in1 (ret Value.none) _ _ _
    refine wpAny_pure (hR h' tk (fun b o _ h2 g=>hk' b o (by simpa using h2) g) ?_)
    refine el42 hSet fun o es ep t ho rest=>?_
    have e:x.cps.toList.take x.cps.size=x.cps.toList:=List.take_of_length_le (by simp)
    rw [e] at rest
    exact ⟨o,es,ep,t,hk' S o (by simpa using hS) ho,rest⟩
  | succ k ih =>
    intro i s hk hi hst hSet hR
    have hlt:i<x.cps.size:=by lia
    refine codeAny_builtin F.entry_set_update_loop ?_
    rw [Around.under_plainId F.plain_set_update_loop _]
    show wpAny _ A.in1 (pyNext (.ref I) >>= _) _ _ s
    refine wpAny_bind (W.item i s _ _ hlt hst fun v h1 tk1 hP hst1 hk1=>?_)
    refine el22 hP fun c u hc q3q=>?_;subst q3q
    have hcl:x.cps.toList[i]?=some c:=by simpa using hc
    have hS1:h1.SetOf (PySem.strKind prog w) S (hasN (metN (x.cps.toList.take i))) (metN (x.cps.toList.take i)).length:=by
      refine el42 hSet fun o es ep t ho rest=>?_
      exact ⟨o,es,ep,t,hk1 S o (by simpa using hS) ho,rest⟩
    show wpAny _ A.in1 (holding [Value.str ⟨#[c]⟩ u] (setAdd S (.str ⟨#[c]⟩ u)) >>= _) _ _ _
    refine wpAny_bind (wpAny_holding ?_)
    unfold setAdd
    refine wpAny_holding ?_
    refine wpAny_bind ((PySem.strKind prog w).pyHash (k:=⟨#[c]⟩) (PySem.strKind_is _ _ _ _) ?_)
    have hroom:(metN (x.cps.toList.take i)).length+1<scanBound:=by
      have h1:=metN_len (x.cps.toList.take i)
      have h2:(x.cps.toList.take i).length≤x.cps.size:=by simp;lia
      lia
    refine wpAny_setAddHashed_of (knd:=PySem.strKind prog w) (s:={ s with heap:=h1,toks:=tk1+1 }) (PySem.strKind_is _ _ _ _) rfl hS1 hroom fun h' hsb hS2=>?_
    have hSi:h'.SetOf (PySem.strKind prog w) S (hasN (metN (x.cps.toList.take (i+1)))) (metN (x.cps.toList.take (i+1))).length:=by
      have e1:(fun k'=>hasN (metN (x.cps.toList.take i)) k'||decide (k'=(⟨#[c]⟩:Str)))=hasN (metN (x.cps.toList.take (i+1))):=funext fun k'=>by rw [metN_succ hcl,hasN_add]
      rw [e1] at hS2
      rw [metN_succ hcl] at hS2 ⊢
      rw [len_add];exact hS2
    refine wpAny_pure ⟨plainId_quiet F.plain_set_update_loop _,ih (i+1) _ (by lia) hlt (W.frame _ h1 _ hst1 fun b hb' o e=>?_) hSi fun h2 tk2 hk2 hS3=>?_⟩
    · rw [hsb.2 b (fun h:b=S=>hS (by rw [← h];simpa using hb'))];exact e
    · refine hR h2 tk2 (fun b o n1 n2 g=>hk2 b o n1 n2 ?_) hS3
      have g1:=hk1 b o (by simpa using n2) g
      show h'.get? b=some o
      rw [hsb.2 b n1];exact g1
end
section
variable {prog:Program} {w:World} {A:Around} {E:Value→Shared→Prop} {s:Shared}
set_option maxHeartbeats 3200000 in
theorem set_text {x:Str} {t:Tok} {Q:Value→Shared→Prop} (hh:A.handled=none) (hb:x.cps.size+1<scanBound)
    (h:∀ (h':Heap) (tk:Nat),h'.SetOf (PySem.strKind prog w) s.heap.objs.size (hasN (metN x.cps.toList)) (metN x.cps.toList).length→(∀ b o,s.heap.get? b=some o→h'.get? b=some o)→Q (.ref s.heap.objs.size) { s with heap:=h',toks:=tk }) :
    wpAny (model prog w) A (call (.type "set") [.str x t]) Q E s:=by
  refine el21 F.called_set.mro fun c tl hmro=>?_
  have hmade:=F.called_set.made
  have hsub:=F.called_set.sub
  refine wpAny_call (codeAny_of_tree ?_)
  show wpAny _ _ (callAny (.type "set") _) _ _ _
  refine wpAny_pure ⟨Code.quiet_builtin _ (by decide +kernel),codeAny_builtin F.entry_type_call ?_⟩
  rw [Around.under_plain (weight_type_call_type "set" [.str x t] []) rfl]
  have h1:=F.called_set.notType
  have h2:=F.called_set.canCreate
  have hct:=F.typeCall_set_1 (.str x t)
  repeat (any_goals (first|assumption|wp_step))
  refine codeAny_mono (code_set_new_1 (.str x t) (E:=E) (Q₁:=fun obj s₁=>∃ led:Bool,obj=.ref s.heap.objs.size∧s₁={ s with heap:=s.heap.push { cls:=.type "set",dict:=none,data:=.set #[] 0 (.fresh 0 0 led) } }) fun led=>⟨led,rfl,rfl⟩) fun r s₁ hr=>?_
  cases r with
  | error e=>exact hr
  | ok fl =>
    cases fl with
    | ret obj =>
      refine el12 hr fun led q1q q2q=>?_;subst q1q;subst q2q
      have hS:(s.heap.push { cls:=.type "set",dict:=none,data:=.set #[] 0 (.fresh 0 0 led) }).get? s.heap.objs.size=some { cls:=.type "set",dict:=none,data:=.set #[] 0 (.fresh 0 0 led) }:=Heap.get?_push_size _ rfl
      have hT:Shared.TypeIs { s with heap:=s.heap.push { cls:=.type "set",dict:=none,data:=.set #[] 0 (.fresh 0 0 led) } } (.ref s.heap.objs.size) "set":=⟨_,hS,rfl⟩
      have hli:=F.called_set.init.lookup
      have hbi:=F.called_set.init.bind (.ref s.heap.objs.size)
      repeat (any_goals (first|assumption|wp_step))
      refine codeAny_mono (codeAny_call_builtin (R:=wants (fun r s₂=>r=.none∧∃ h' tk,s₂={ s with heap:=h',toks:=tk } ∧
          h'.SetOf (PySem.strKind prog w) s.heap.objs.size (hasN (metN x.cps.toList)) (metN x.cps.toList).length∧(∀ b o,s.heap.get? b=some o→h'.get? b=some o)) E) F.called_set.init.plain F.entry_set_init (check_set_init_1 hT ?_)) fun r₂ s₂ hr₂=>?_
      · have hsls:=F.sub_str_set
        have hslf:=F.sub_str_frozenset
        have hne:(Value.type "str"==Value.type "dict")=false:=by decide
        unfold Builtin.«set.__init__» noKeywords Builtin.Frozenset.updateFrom
        generalize hPI:pyIter=PI
        wp_walk
        subst hPI
        refine wpAny_pyIter_str fun o St W hst=>?_
        refine wpAny_bind (wpAny_runValue ?_)
        have hneI:s.heap.objs.size≠(s.heap.push { cls:=.type "set",dict:=none,data:=.set #[] 0 (.fresh 0 0 led) }).objs.size:=by
          rw [Heap.size_push];exact Nat.ne_of_lt (Nat.lt_succ_self _)
        refine set_text_loop (W _ (by simp [hh])) s.heap.objs.size hneI hb (x.cps.size - 0) 0 _ (by lia) (Nat.zero_le _) hst ?_ fun h' tk hk hS'=>?_
        · have hget:((s.heap.push { cls:=.type "set",dict:=none,data:=.set #[] 0 (.fresh 0 0 led) }).push o).get? s.heap.objs.size=some { cls:=.type "set",dict:=none,data:=.set #[] 0 (.fresh 0 0 led) }:=Heap.get?_push_of_some _ hS
          have:=(PyProof.Rows.setObjOf_fresh (knd:=PySem.strKind prog w) led).setOf hget (by unfold scanBound;lia)
          rw [List.take_zero]
          have e:(fun _=>false)=hasN (metN []):=rfl
          rw [← e]
          exact this
        · show wpAny _ _ _ _ _ _
          refine wpAny_pure ?_
          show wpAny _ _ (ret Value.none) _ _ _
          refine wpAny_pure ⟨rfl,h',tk,rfl,hS',fun b o' g=>?_⟩
          have hb1:b≠s.heap.objs.size:=Nat.ne_of_lt (Heap.lt_size g)
          have hb2:b≠(s.heap.push { cls:=.type "set",dict:=none,data:=.set #[] 0 (.fresh 0 0 led) }).objs.size:=by
            rw [Heap.size_push];exact Nat.ne_of_lt (Nat.lt_succ_of_lt (Heap.lt_size g))
          exact hk b o' hb1 hb2 (Heap.get?_push_of_some _ (Heap.get?_push_of_some _ g))
      · cases r₂ with
        | error e=>exact hr₂
        | ok fl₂ =>
          cases fl₂ with
          | ret r =>
            obtain ⟨rfl,h',tk,rfl,hS',hk'⟩:=hr₂
            repeat (any_goals (first|assumption|wp_step))
            exact h _ _ hS' hk'
          | _=>exact hr₂.elim
    | _=>exact hr.elim
end
end
end Mine
end
section
open PySem PySem.W PyProof.Rows PySem.SeqAt
namespace Mine
section
noncomputable def lenX (o:Ops) (c:Cx) (x:PySem.Expr):Option (Option D) :=
  on1 x fun n p y pos=>on1 y fun m q x pos2=>if isStar x then none else onD (o.ev c (.Name n p)) asBi fun f=>onD (o.ev c (.Name m q)) asTy fun T=>onD (o.ev c x) asStr fun s=>if f=="len"&&(T=="set"&&Nat.ble s.length 1000) then some (some (.int ((metN s.cps.toList).length:Nat))) else none
theorem sound_lenX {w:World} {A:Around} (hA:A.handled=none):SoundX w A lenX:=fun o Sd T e W c s x d Y hW R h=>by
  have later:∀ x d,o.ev c x=some d→∀ s',Keeps s s'→EvOk w A (eval x e) s' W d:=fun x d hx s' k=>Sd e W c s' x d (fun b o g=>Keeps.heap k b o (Y b o g)) (hW.keep (Keeps.heap k)) (R.keep (Keeps.heap k)) hx
  have now:∀ x d,o.ev c x=some d→EvOk w A (eval x e) s W d:=fun x d hx=>later x d hx s (Keeps.rfl' s)
  unfold lenX at h
  refine on1_e x h fun n p y pos h=>on1_e y h fun m q x pos2 h=>ifn_e h fun hst h=>onD_e asBi_g h fun f hn h=>onD_e asTy_g h fun T' hm h=>onD_e asStr_g h fun y hx h=>if_e h fun hc hz=>?_
  simp only [Bool.and_eq_true,beq_iff_eq] at hc
  obtain ⟨rfl,rfl,hlen⟩:=hc
  have hlen:=Nat.le_of_ble_eq_true hlen
  cases hz
  intro Q E qq
  have e1:eval (.Call (.Name n p) [.Call (.Name m q) [x] [] pos2] [] pos) e=(do callWith pos (← eval (.Name n p) e) [] (backTo pos (starEach [.Call (.Name m q) [x] [] pos2] e)) (backToKw pos (keywordEach [] e))):=rfl
  rw [e1]
  refine wpAny_bind (now _ _ hn _ E fun v s1 k1 r1=>?_)
  simp only [rep] at r1
  subst r1
  have ht:backTo pos (starEach [.Call (.Name m q) [x] [] pos2] e)=[(false,eval (.Call (.Name m q) [x] [] pos2) e)]:=by rw [starEach_plain rfl];rfl
  rw [ht]
  refine callWith_builtin1 ?_
  refine call_type_raw (d:=.str y) (later _ _ hm s1 k1) ⟨_,_,rfl⟩ (by simpa using hst) (fun s' k=>later _ _ hx s' (Keeps.tr k1 k)) _ E fun s2 vs k2 r2=>?_
  obtain ⟨v,rfl,r⟩:=reps_one r2
  simp only [rep] at r
  obtain ⟨t,rfl⟩:=r
  refine set_text hA (by show y.length+1<scanBound;unfold scanBound;lia) fun h' tk hS hk=>?_
  obtain ⟨o',es,ep,tb,ho,hex,hd,_,_,hsz,hf,hn'⟩:=hS
  refine call_len_set ho hex hd hf (by have:es.size<scanBound:=hsz;unfold scanBound at this;lia) ?_
  refine qq _ _ (Keeps.tr k1 (Keeps.tr k2 ⟨h',tk+1+1,rfl,hk⟩)) ?_
  simp only [rep]
  exact ⟨_,by rw [hn']⟩
end
end Mine
end
section
open PySem PySem.W PyProof.Rows
namespace Mine
section
noncomputable def paS (i:Nat):Stmt:=(fdB (stm 73)).getD i (.Pass default)
noncomputable def panm (w:World):List (Str × NameKind):=(fdAt w.params 296).scope.names
noncomputable def ctP (F:List D→Option D):CT:=fun f ds=>match f with
  | .ref k=>if k==296 then F ds else none
  | _=>none
noncomputable abbrev paX:Extra:=orX plX numX
noncomputable abbrev paO (w:World) (F:List D→Option D):Ops:=ops2 w (ctP F) paX 12
theorem pa_parts:fdB (stm 73)=[paS 0,paS 1,paS 2,paS 3]:=by kernel_rfl!
theorem pa_a0:paS 0=.Assign [.Name "here" (nmP (asgT (paS 0)))] (asgX (paS 0)) (posS (paS 0)):=by kernel_rfl!
theorem pa_if:paS 1=.If (ifT (paS 1)) (ifB (paS 1)) [] (ifP (paS 1)):=by kernel_rfl!
noncomputable def paR:Stmt:=(ifB (paS 1)).getD 0 (.Pass default)
theorem pa_ifb:ifB (paS 1)=[paR]:=by kernel_rfl!
theorem pa_r:paR=.Return (some (retX paR)) (retP paR):=by kernel_rfl!
theorem pa_a2:paS 2=.Assign [.Name "ends" (nmP (asgT (paS 2)))] (asgX (paS 2)) (posS (paS 2)):=by kernel_rfl!
theorem pa_r3:paS 3=.Return (some (retX (paS 3))) (retP (paS 3)):=by kernel_rfl!
theorem pa_lc:asgX (paS 2)=.ListComp (callE "_law_by_the_past" (lcE (asgX (paS 2)))) [lcG0 (asgX (paS 2))] (lcS (asgX (paS 2))) (lcP (asgX (paS 2))):=by kernel_rfl!
noncomputable def paM:PySem.Expr:=binL (cmpL (retX paR))
theorem pa_x:retX paR=.Compare (.BinOp (callE "max" paM) .Mod (binR (cmpL (retX paR))) (binP (cmpL (retX paR)))) [.Eq] [cmpR (retX paR)] (cmpP (retX paR)):=by kernel_rfl!
theorem ev_fold {w:World} {ct:CT} {X:Extra} {m:Nat} {c:Cx} {n:Str} {x:PySem.Expr} {id:String} {ds:List D} {d:D} (hX:X (ops2 w ct X m) c (callE n x)=none) (hn:(ops2 w ct X m).ev c (.Name n (nmP (callF x)))=some (.raw (.builtin id))) (hc:callable w (.builtin id)=true)
    (ha:evL ((ops2 w ct X m).ev c) (callAs x)=some ds) (h1:biD id ds=none) (hd:foldD id ds=some d):(ops2 w ct X (m+1)).ev c (callE n x)=some d:=by
  refine ev_st rfl hX ?_
  show onD ((ops2 w ct X m).ev c (.Name n (nmP (callF x)))) asRaw _=_
  rw [hn]
  show (if callable w (.builtin id) then (evL ((ops2 w ct X m).ev c) (callAs x)).bind fun ds=>callD ct (.builtin id) ds else none)=_
  rw [if_pos hc,ha]
  show ((biD id ds).or (foldD id ds)).or _=_
  rw [h1,hd];rfl
theorem numX_call {o:Ops} {c:Cx} {n:Str} {x r:PySem.Expr} {p:Pos} {z:Int} (h:o.ev c (callE n x)=some (.int z)):numX o c (.BinOp (callE n x) .Mod r p)=none:=by
  show (if isMod .Mod=true then onD (o.ev c (callE n x)) asNum _ else none)=none
  rw [h]
  rfl
theorem paX_call {o:Ops} {c:Cx} {n:Str} {x r:PySem.Expr} {p:Pos} {z:Int} (h:o.ev c (callE n x)=some (.int z)):orX plX numX o c (.BinOp (callE n x) .Mod r p)=none:=by
  unfold orX
  rw [show plX o c (.BinOp (callE n x) .Mod r p)=none from rfl]
  exact numX_call h
theorem arg_top (v:Nat→Int):∀ k,argBest (fun i j=>decide (v i > v j)) k≤k∧∀ i,i≤k→v i≤v (argBest (fun i j=>decide (v i > v j)) k)
  | 0=>⟨Nat.le_refl _,fun i hi=>by rw [Nat.le_zero.1 hi];exact Int.le_refl _⟩
  | k+1=>by
    obtain ⟨h1,h2⟩:=arg_top v k
    show (if decide (v (k+1) > v (argBest (fun i j=>decide (v i > v j)) k))=true then k+1 else argBest (fun i j=>decide (v i > v j)) k)≤k+1∧∀ i,i≤k+1→v i≤v (if decide (v (k+1) > v (argBest (fun i j=>decide (v i > v j)) k))=true then k+1 else argBest (fun i j=>decide (v i > v j)) k)
    by_cases h:v (k+1) > v (argBest (fun i j=>decide (v i > v j)) k)
    · rw [decide_eq_true h,if_pos rfl]
      refine ⟨Nat.le_refl _,fun i hi=>?_⟩
      by_cases e:i=k+1
      · rw [e];exact Int.le_refl _
      · have:=h2 i (by lia);lia
    · rw [decide_eq_false h,if_neg (by simp)]
      refine ⟨by lia,fun i hi=>?_⟩
      by_cases e:i=k+1
      · rw [e];lia
      · exact h2 i (by lia)
theorem max_gen {L:List Int} {M:Int} (hM:M∈L) (hle:∀ x∈L,x≤M):foldD "max" [.list (L.map D.int)]=some (.int M):=by
  have hpos:0<L.length:=List.length_pos_of_mem hM
  have hall:allInt (L.map D.int)=true:=by
    unfold allInt
    rw [List.all_map]
    exact List.all_eq_true.2 fun x _=>rfl
  show (if (allInt (L.map D.int)||allBool (L.map D.int))&&Nat.blt 0 (L.map D.int).length then (L.map D.int)[argBest (fun i j=>decide (valAt (L.map D.int) i > valAt (L.map D.int) j)) ((L.map D.int).length - 1)]? else none)=_
  rw [hall,if_pos (by rw [Bool.true_or,Bool.true_and];exact Nat.ble_eq_true_of_le (by rw [List.length_map];exact hpos))]
  obtain ⟨h1,h2⟩:=arg_top (valAt (L.map D.int)) ((L.map D.int).length - 1)
  rw [List.length_map] at h1 h2 ⊢
  generalize argBest (fun i j=>decide (valAt (L.map D.int) i > valAt (L.map D.int) j)) (L.length - 1)=b at h1 h2 ⊢
  have hb:b<L.length:=by lia
  have val:∀ i (hi:i<L.length),valAt (L.map D.int) i=L[i]:=fun i hi=>by
    unfold valAt
    rw [List.getElem?_map,List.getElem?_eq_getElem hi];rfl
  rw [List.getElem?_map,List.getElem?_eq_getElem hb]
  obtain ⟨j,hj,ej⟩:=List.getElem_of_mem hM
  have e1:=h2 j (by lia)
  rw [val j hj,val b hb,ej] at e1
  have e2:=hle L[b] (List.getElem_mem hb)
  show some (D.int L[b])=_
  rw [Int.le_antisymm e2 e1]
theorem bool_max (a b:Bool):foldD "max" [.list [.bool a,.bool b]]=some (.bool (a||b)):=by cases a<;>cases b<;>rfl
theorem bool_min (a b:Bool):foldD "min" [.list [.bool a,.bool b]]=some (.bool (a&&b)):=by cases a<;>cases b<;>rfl
noncomputable def PastOk (w:World) (n:Nat) (dr:D) (path:List Nat) (v:Bool):Prop:=Contract w n (.ref 296) [dr,.pl (path.map fun (p:Nat)=>D.int (p:Int))] (.bool v)
noncomputable abbrev paσ (dr:D) (l:List D):List (Str × D):=[(("draws":Str),dr),(("path":Str),.pl l)]
theorem pa_stop (w:World) (n:Nat) (dr:D) (l:List D) (h:D) (L:List D) (M:Int) (e0:(paO w fun _=>none).ev ⟨panm w,paσ dr l⟩ (asgX (paS 0))=some h) (t:(paO w fun _=>none).tr ⟨panm w,(("here":Str),h)::paσ dr l⟩ (ifT (paS 1))=some true)
    (eL:evL ((ops2 w (ctP fun _=>none) paX 9).ev ⟨panm w,(("here":Str),h)::paσ dr l⟩) (callAs paM)=some [.list L]) (hM:foldD "max" [.list L]=some (.int M)):Contract w (n+1) (.ref 296) [dr,.pl l] (.bool (M.fmod 2==1)):=by
  refine def_ok3 (ct:=ctP fun _=>none) (X:=paX) (m:=12) (k:=10) (g':=⟨(("here":Str),h)::paσ dr l,none⟩) "" (defr_past w) (fun f ds d hh=>?_) (fun A R=>sound_orX sound_plX sound_numX) rfl ?_
  · unfold ctP at hh
    split at hh
    · split at hh<;>cases hh
    · exact nope hh
  show exs2 (paO w fun _=>none) "" (panm w) 10 ⟨paσ dr l,none⟩ (fdB (stm 73))=_
  rw [pa_parts]
  have a0:=s1_Asg (on:="") (nm:=panm w) (rec:=exs2 (paO w fun _=>none) "" (panm w) 9) (n:="here") (p:=nmP (asgT (paS 0))) (pos:=posS (paS 0)) (g:=⟨paσ dr l,none⟩) (by kernel_rfl!) (by kernel_rfl!) (ev2_of (g:=⟨paσ dr l,none⟩) e0)
  rw [← pa_a0] at a0
  rw [x2_next (k:=9) (by kernel_rfl!) (by kernel_rfl!) a0]
  have h1:=s1_If (on:="") (rec:=exs2 (paO w fun _=>none) "" (panm w) 8) (b:=ifB (paS 1)) (e:=[]) (p:=ifP (paS 1)) (tr2_of (on:="") (g:=⟨(("here":Str),h)::paσ dr l,none⟩) t)
  rw [← pa_if,if_pos rfl,pa_ifb] at h1
  have em:(ops2 w (ctP fun _=>none) paX 10).ev ⟨panm w,(("here":Str),h)::paσ dr l⟩ (callE "max" paM)=some (.int M):=ev_fold rfl (by kernel_rfl!) (by kernel_rfl!) eL rfl hM
  have eb:(ops2 w (ctP fun _=>none) paX 11).ev ⟨panm w,(("here":Str),h)::paσ dr l⟩ (.BinOp (callE "max" paM) .Mod (binR (cmpL (retX paR))) (binP (cmpL (retX paR))))=some (.int (M.fmod 2)):=(ev_Bin (op:=.Mod) (y:=.int 2) (paX_call em) em (by kernel_rfl!)).trans (by kernel_rfl!)
  have ec:(paO w fun _=>none).ev ⟨panm w,(("here":Str),h)::paσ dr l⟩ (retX paR)=some (.bool (M.fmod 2==1)):=by
    rw [pa_x]
    exact (ev_Cmp (op:=.Eq) (x:=.int (M.fmod 2)) (y:=.int 1) rfl (by kernel_rfl!) eb (by kernel_rfl!)).trans (by kernel_rfl!)
  have ar:=s1_Ret (on:="") (nm:=panm w) (rec:=exs2 (paO w fun _=>none) "" (panm w) 7) (pos:=retP paR) (g:=⟨(("here":Str),h)::paσ dr l,none⟩) (ev2_of (g:=⟨(("here":Str),h)::paσ dr l,none⟩) ec)
  rw [← pa_r] at ar
  rw [x2_ret (k:=7) (by kernel_rfl!) (by kernel_rfl!) ar] at h1
  exact x2_ret (k:=8) (by kernel_rfl!) (by kernel_rfl!) h1
theorem pa_step (w:World) (n:Nat) (dr:D) (l:List D) (p a b:Nat) (v1 v2 v:Bool) (F:List D→Option D) (hF:∀ ds d,F ds=some d→Contract w n (.ref 296) ds d) (e0:(paO w F).ev ⟨panm w,paσ dr l⟩ (asgX (paS 0))=some (.int (p:Nat))) (t:(paO w F).tr ⟨panm w,(("here":Str),.int (p:Nat))::paσ dr l⟩ (ifT (paS 1))=some false)
    (src:srcD (ops2 w (ctP F) paX 11) ⟨panm w,(("here":Str),.int (p:Nat))::paσ dr l⟩ (lcG0 (asgX (paS 2))).iter=some ([.int (a:Nat),.int (b:Nat)],tgAny))
    (arg:∀ q:Nat,evL ((ops2 w (ctP F) paX 10).ev ⟨(lcS (asgX (paS 2))).names,(("place":Str),.int (q:Nat))::(((("here":Str),D.int (p:Nat))::paσ dr l).filter fun x=>(lcS (asgX (paS 2))).names.lookup x.1==some .free)⟩) (callAs (lcE (asgX (paS 2))))=some [dr,.pl (l++[.int (q:Nat)])])
    (h1:F [dr,.pl (l++[.int (a:Nat)])]=some (.bool v1)) (h2:F [dr,.pl (l++[.int (b:Nat)])]=some (.bool v2))
    (tm:(paO w F).ev ⟨panm w,(("ends":Str),.list [.bool v1,.bool v2])::(("here":Str),.int (p:Nat))::paσ dr l⟩ (retX (paS 3))=some (.bool v)):Contract w (n+1) (.ref 296) [dr,.pl l] (.bool v):=by
  refine def_ok3 (ct:=ctP F) (X:=paX) (m:=12) (k:=10) (g':=⟨(("ends":Str),.list [.bool v1,.bool v2])::(("here":Str),.int (p:Nat))::paσ dr l,none⟩) "" (defr_past w) (fun f ds d hh=>?_) (fun A R=>sound_orX sound_plX sound_numX) rfl ?_
  · unfold ctP at hh
    split at hh
    · split at hh
      · rename_i hk
        have hk:=eq_of_beq hk
        subst hk
        exact hF _ _ hh
      · exact nope hh
    · exact nope hh
  show exs2 (paO w F) "" (panm w) 10 ⟨paσ dr l,none⟩ (fdB (stm 73))=_
  rw [pa_parts]
  have a0:=s1_Asg (on:="") (nm:=panm w) (rec:=exs2 (paO w F) "" (panm w) 9) (n:="here") (p:=nmP (asgT (paS 0))) (pos:=posS (paS 0)) (g:=⟨paσ dr l,none⟩) (by kernel_rfl!) (by kernel_rfl!) (ev2_of (g:=⟨paσ dr l,none⟩) e0)
  rw [← pa_a0] at a0
  rw [x2_next (k:=9) (by kernel_rfl!) (by kernel_rfl!) a0]
  have hi:=s1_If (on:="") (rec:=exs2 (paO w F) "" (panm w) 8) (b:=ifB (paS 1)) (e:=[]) (p:=ifP (paS 1)) (tr2_of (on:="") (g:=⟨(("here":Str),.int (p:Nat))::paσ dr l,none⟩) t)
  rw [← pa_if,if_neg (by simp)] at hi
  rw [x2_next (k:=8) (by kernel_rfl!) (by kernel_rfl!) (hi.trans rfl)]
  have turn:∀ (q:Nat) (d:D),F [dr,.pl (l++[.int (q:Nat)])]=some d→turnD (ops2 w (ctP F) paX 11) (lcS (asgX (paS 2))).names (bodyD (ops2 w (ctP F) paX 11) (lcS (asgX (paS 2))).names (callE "_law_by_the_past" (lcE (asgX (paS 2)))) []) (lcG0 (asgX (paS 2))).ifs "place" (((("here":Str),D.int (p:Nat))::paσ dr l).filter fun x=>(lcS (asgX (paS 2))).names.lookup x.1==some .free) (.int (q:Nat))=some [d]:=fun q d hq=>by
    rw [show (lcG0 (asgX (paS 2))).ifs=[] by kernel_rfl!]
    refine (turnD_one (b:=true) (r:=d) rfl fun _=>?_).trans rfl
    exact ev_call rfl (by kernel_rfl!) (by kernel_rfl!) (arg q) (show ctP F (.ref 296) [dr,.pl (l++[.int (q:Nat)])]=some d from hq)
  have el:(paO w F).ev ⟨panm w,(("here":Str),.int (p:Nat))::paσ dr l⟩ (asgX (paS 2))=some (.list [.bool v1,.bool v2]):=by
    rw [pa_lc]
    refine ev_LC rfl (compL_of (by kernel_rfl!) src (loopD_ok (n:="place") (by kernel_rfl!) (by kernel_rfl!) (l:=[.bool v1,.bool v2]) ?_) (by simp))
    simp only [turnsD,turn a _ h1,turn b _ h2,List.cons_append,List.nil_append]
  have a2:=s1_AsgLC (on:="") (nm:=panm w) (rec:=exs2 (paO w F) "" (panm w) 7) (n:="ends") (p:=nmP (asgT (paS 2))) (pos:=posS (paS 2)) (g:=⟨(("here":Str),.int (p:Nat))::paσ dr l,none⟩) (by kernel_rfl!) (by kernel_rfl!) el
  rw [← pa_a2] at a2
  rw [x2_next (k:=7) (by kernel_rfl!) (by kernel_rfl!) a2]
  have ar:=s1_Ret (on:="") (nm:=panm w) (rec:=exs2 (paO w F) "" (panm w) 6) (pos:=retP (paS 3)) (g:=⟨(("ends":Str),.list [.bool v1,.bool v2])::(("here":Str),.int (p:Nat))::paσ dr l,none⟩) (ev2_of (g:=⟨(("ends":Str),.list [.bool v1,.bool v2])::(("here":Str),.int (p:Nat))::paσ dr l,none⟩) tm)
  rw [← pa_r3] at ar
  exact x2_ret (k:=6) (by kernel_rfl!) (by kernel_rfl!) ar
end
section
theorem fm2 (t:Nat):(((t:Int).fmod 2)==1)=(t % 2==1):=by
  rw [Int.fmod_eq_emod_of_nonneg _ (by omega),Bool.eq_iff_iff,beq_iff_eq,beq_iff_eq]
  omega
noncomputable abbrev drR (x0 x1 x2:Int) (r0 r1 r2:Res):D:=drawsD x0 x1 x2 r0 r1 r2
noncomputable abbrev intsD (l:List Nat):List D:=l.map fun (p:Nat)=>D.int (p:Int)
noncomputable abbrev numL (s0 s1 s2:Nat) (cyc:List Nat):List D:=(cyc.map fun p=>(7+((nat3 s0 s1 s2 p:Nat):Int))).map D.int
theorem stop_of (w:World) (n:Nat) (dr:D) (l:List D) (h:D) {s0 s1 s2:Nat} (cyc:List Nat) (C:Nat) (hc:cycB C cyc=true) (e0:(paO w fun _=>none).ev ⟨panm w,paσ dr l⟩ (asgX (paS 0))=some h) (t:(paO w fun _=>none).tr ⟨panm w,(("here":Str),h)::paσ dr l⟩ (ifT (paS 1))=some true)
    (eL:evL ((ops2 w (ctP fun _=>none) paX 9).ev ⟨panm w,(("here":Str),h)::paσ dr l⟩) (callAs paM)=some [.list (numL s0 s1 s2 cyc)]):Contract w (n+1) (.ref 296) [dr,.pl l] (.bool (oddC (nat3 (7+s0) (7+s1) (7+s2)) C)):=by
  have e:∀ p,p<3→nat3 (7+s0) (7+s1) (7+s2) p=7+nat3 s0 s1 s2 p:=fun p hp=>by rcases lt3 hp with rfl|rfl|rfl<;>rfl
  obtain ⟨c0,c8,h3,hb⟩:=cyc_e hc
  obtain ⟨⟨p,hp,hpb,ht⟩,hmax⟩:=top_props (7+s0) (7+s1) (7+s2) C c0 c8
  have hM:foldD "max" [.list (numL s0 s1 s2 cyc)]=some (.int ((topOf (nat3 (7+s0) (7+s1) (7+s2)) C:Nat):Int)):=by
    refine max_gen (List.mem_map.2 ⟨p,List.contains_iff_mem.1 ((hb p hp).symm.trans hpb),?_⟩) fun x hx=>?_
    · rw [← ht,e p hp];exact (Int.natCast_add 7 _).symm
    · obtain ⟨q,hq,rfl⟩:=List.mem_map.1 hx
      have:=hmax q (h3 q hq) ((hb q (h3 q hq)).trans (List.contains_iff_mem.2 hq))
      rw [e q (h3 q hq)] at this
      exact Int.ofNat_le.2 this
  have:=pa_stop w n dr l h _ _ e0 t eL hM
  rw [fm2] at this
  exact this
open Classical in
theorem step_of (w:World) (n:Nat) (dr:D) (l:List D) (p a b:Nat) (V:Nat→Bool) (m:Bool) (h1:Contract w n (.ref 296) [dr,.pl (l++[.int (a:Nat)])] (.bool (V a))) (h2:Contract w n (.ref 296) [dr,.pl (l++[.int (b:Nat)])] (.bool (V b)))
    (e0:∀ F,(paO w F).ev ⟨panm w,paσ dr l⟩ (asgX (paS 0))=some (.int (p:Nat))) (t:∀ F,(paO w F).tr ⟨panm w,(("here":Str),.int (p:Nat))::paσ dr l⟩ (ifT (paS 1))=some false)
    (src:∀ F,srcD (ops2 w (ctP F) paX 11) ⟨panm w,(("here":Str),.int (p:Nat))::paσ dr l⟩ (lcG0 (asgX (paS 2))).iter=some ([.int (a:Nat),.int (b:Nat)],tgAny))
    (arg:∀ F (q:Nat),evL ((ops2 w (ctP F) paX 10).ev ⟨(lcS (asgX (paS 2))).names,(("place":Str),.int (q:Nat))::(((("here":Str),D.int (p:Nat))::paσ dr l).filter fun x=>(lcS (asgX (paS 2))).names.lookup x.1==some .free)⟩) (callAs (lcE (asgX (paS 2))))=some [dr,.pl (l++[.int (q:Nat)])])
    (tm:∀ F v1 v2,(paO w F).ev ⟨panm w,(("ends":Str),.list [.bool v1,.bool v2])::(("here":Str),.int (p:Nat))::paσ dr l⟩ (retX (paS 3))=some (.bool (if m then v1||v2 else v1&&v2))):Contract w (n+1) (.ref 296) [dr,.pl l] (.bool (if m then V a||V b else V a&&V b)):=by
  let F:List D→Option D:=fun ds=>if ds=[dr,.pl (l++[.int (a:Nat)])] then some (.bool (V a)) else if ds=[dr,.pl (l++[.int (b:Nat)])] then some (.bool (V b)) else none
  have fa:F [dr,.pl (l++[.int (a:Nat)])]=some (.bool (V a)):=if_pos rfl
  have fb:F [dr,.pl (l++[.int (b:Nat)])]=some (.bool (V b)):=by
    by_cases hab:a=b
    · rw [← hab];exact fa
    · refine (if_neg fun e=>hab ?_).trans (if_pos rfl)
      injection e with _ e
      injection e with e _
      injection e with e
      have:=List.append_cancel_left e
      injection this with this _
      injection this with this
      injection this with this
      exact this.symm
  refine pa_step w n dr l p a b (V a) (V b) _ F (fun ds d hd=>?_) (e0 F) (t F) (src F) (arg F) fa fb (tm F _ _)
  show Contract w n (.ref 296) ds d
  have hd:(if ds=[dr,.pl (l++[.int (a:Nat)])] then some (D.bool (V a)) else if ds=[dr,.pl (l++[.int (b:Nat)])] then some (.bool (V b)) else none)=some d:=hd
  split at hd
  · rename_i e;cases hd;rw [e];exact h1
  · split at hd
    · rename_i e;cases hd;rw [e];exact h2
    · cases hd
noncomputable def tb3 {α:Type} (f:Bool→Bool→Bool→α):List α:=[f true true true,f true true false,f true false true,f true false false,f false true true,f false true false,f false false true,f false false false]
theorem atB3 {α:Type} {f g:Bool→Bool→Bool→α} (h:tb3 f=[g true true true,g true true false,g true false true,g true false false,g false true true,g false true false,g false false true,g false false false]) (a b c:Bool):f a b c=g a b c:=by
  have k:=fun i:Nat=>congrArg (fun l:List α=>l[i]?) h
  cases a<;>cases b<;>cases c
  · exact Option.some.inj (k 7)
  · exact Option.some.inj (k 6)
  · exact Option.some.inj (k 5)
  · exact Option.some.inj (k 4)
  · exact Option.some.inj (k 3)
  · exact Option.some.inj (k 2)
  · exact Option.some.inj (k 1)
  · exact Option.some.inj (k 0)
theorem allN {α:Type} {n:Nat} {f g:Nat→α} (h:tabN f n 0=(List.range n).map g):∀ i,i<n→f i=g i:=fun i hi=>atN h hi
section
variable (w:World) (x0 x1 x2:Int) (r0 r1 r2:Res) (n:Nat)
noncomputable abbrev PO (w:World) (n:Nat) (x0 x1 x2:Int) (r0 r1 r2:Res) (path:List Nat) (v:Bool):Prop:=PastOk w n (drR x0 x1 x2 r0 r1 r2) path v
noncomputable abbrev nmR (r0 r1 r2:Res):Nat→Nat:=nat3 (7+r0.s) (7+r1.s) (7+r2.s)
theorem stop2 {p0:Nat} (h0:p0<3):PO w (n+1) x0 x1 x2 r0 r1 r2 [p0,p0] (oddC (nmR r0 r1 r2) (2 ^ p0)):=by
  refine stop_of w n (drR x0 x1 x2 r0 r1 r2) _ (.int (p0:Nat)) [p0,p0] (2 ^ p0) (atN (n:=3) (f:=fun p=>cycB (2 ^ p) [p,p]) (g:=fun _=>true) (by kernel_rfl!) h0) (by kernel_rfl!) ?_ ?_
  all_goals (revert p0;apply allN;kernel_rfl!)
theorem stop3a {p0 p1:Nat} (h0:p0<3) (h1:p1<3) (d:p0≠p1):PO w (n+1) x0 x1 x2 r0 r1 r2 [p0,p1,p0] (oddC (nmR r0 r1 r2) (2 ^ p0+2 ^ p1)):=by
  obtain ⟨j,hj,rfl,rfl⟩:=two_j h0 h1 d
  refine stop_of w n (drR x0 x1 x2 r0 r1 r2) _ (.int (pA j:Nat)) [pA j,pB j,pA j] (2 ^ pA j+2 ^ pB j) (atN (n:=6) (f:=fun j=>cycB (2 ^ pA j+2 ^ pB j) [pA j,pB j,pA j]) (g:=fun _=>true) (by kernel_rfl!) hj) (by kernel_rfl!) ?_ ?_
  all_goals (clear d h0 h1;revert j;refine allN ?_;kernel_rfl!)
theorem stop3b {p0 p1:Nat} (h0:p0<3) (h1:p1<3) (d:p0≠p1):PO w (n+1) x0 x1 x2 r0 r1 r2 [p0,p1,p1] (oddC (nmR r0 r1 r2) (2 ^ p1)):=by
  obtain ⟨j,hj,rfl,rfl⟩:=two_j h0 h1 d
  refine stop_of w n (drR x0 x1 x2 r0 r1 r2) _ (.int (pB j:Nat)) [pB j,pB j] (2 ^ pB j) (atN (n:=6) (f:=fun j=>cycB (2 ^ pB j) [pB j,pB j]) (g:=fun _=>true) (by kernel_rfl!) hj) (by kernel_rfl!) ?_ ?_
  all_goals (clear d h0 h1;revert j;refine allN ?_;kernel_rfl!)
theorem stop4a {p0 p1 p2:Nat} (X:Tri p0 p1 p2):PO w (n+1) x0 x1 x2 r0 r1 r2 [p0,p1,p2,p0] (oddC (nmR r0 r1 r2) (2 ^ p0+2 ^ p1+2 ^ p2)):=by
  obtain ⟨j,hj,rfl,rfl,rfl⟩:=tri_j X
  refine stop_of w n (drR x0 x1 x2 r0 r1 r2) _ (.int (pA j:Nat)) [pA j,pB j,pC j,pA j] (2 ^ pA j+2 ^ pB j+2 ^ pC j) (atN (n:=6) (f:=fun j=>cycB (2 ^ pA j+2 ^ pB j+2 ^ pC j) [pA j,pB j,pC j,pA j]) (g:=fun _=>true) (by kernel_rfl!) hj) (by kernel_rfl!) ?_ ?_
  all_goals (clear X;revert j;refine allN ?_;kernel_rfl!)
theorem stop4b {p0 p1 p2:Nat} (X:Tri p0 p1 p2):PO w (n+1) x0 x1 x2 r0 r1 r2 [p0,p1,p2,p1] (oddC (nmR r0 r1 r2) (2 ^ p1+2 ^ p2)):=by
  obtain ⟨j,hj,rfl,rfl,rfl⟩:=tri_j X
  refine stop_of w n (drR x0 x1 x2 r0 r1 r2) _ (.int (pB j:Nat)) [pB j,pC j,pB j] (2 ^ pB j+2 ^ pC j) (atN (n:=6) (f:=fun j=>cycB (2 ^ pB j+2 ^ pC j) [pB j,pC j,pB j]) (g:=fun _=>true) (by kernel_rfl!) hj) (by kernel_rfl!) ?_ ?_
  all_goals (clear X;revert j;refine allN ?_;kernel_rfl!)
theorem stop4c {p0 p1 p2:Nat} (X:Tri p0 p1 p2):PO w (n+1) x0 x1 x2 r0 r1 r2 [p0,p1,p2,p2] (oddC (nmR r0 r1 r2) (2 ^ p2)):=by
  obtain ⟨j,hj,rfl,rfl,rfl⟩:=tri_j X
  refine stop_of w n (drR x0 x1 x2 r0 r1 r2) _ (.int (pC j:Nat)) [pC j,pC j] (2 ^ pC j) (atN (n:=6) (f:=fun j=>cycB (2 ^ pC j) [pC j,pC j]) (g:=fun _=>true) (by kernel_rfl!) hj) (by kernel_rfl!) ?_ ?_
  all_goals (clear X;revert j;refine allN ?_;kernel_rfl!)
noncomputable def stepR (r0 r1 r2:Res) (p:Nat) (V:Nat→Bool):Bool:=if (r3 r0 r1 r2 p).m then V (r3 r0 r1 r2 p).a||V (r3 r0 r1 r2 p).b else V (r3 r0 r1 r2 p).a&&V (r3 r0 r1 r2 p).b
theorem pa_tm {p:Nat} (hp:p<3) (F:List D→Option D) (l:List D) (v1 v2:Bool):(paO w F).ev ⟨panm w,(("ends":Str),.list [.bool v1,.bool v2])::(("here":Str),.int (p:Nat))::paσ (drR x0 x1 x2 r0 r1 r2) l⟩ (retX (paS 3))=some (.bool (if (r3 r0 r1 r2 p).m then v1||v2 else v1&&v2)):=by
  obtain ⟨a0,b0,s0,m0,q0⟩:=r0
  obtain ⟨a1,b1,s1,m1,q1⟩:=r1
  obtain ⟨a2,b2,s2,m2,q2⟩:=r2
  rcases lt3 hp with rfl|rfl|rfl
  · revert m0 v1 v2;exact atB3 (by kernel_rfl!)
  · revert m1 v1 v2;exact atB3 (by kernel_rfl!)
  · revert m2 v1 v2;exact atB3 (by kernel_rfl!)
variable {r0 r1 r2} (H0:ResOk r0) (H1:ResOk r1) (H2:ResOk r2)
include H0 H1 H2
theorem step_p {path:List Nat} {p:Nat} (hp:p<3) (V:Nat→Bool) (hV:∀ q,q<3→PO w n x0 x1 x2 r0 r1 r2 (path++[q]) (V q))
    (e0:∀ F,(paO w F).ev ⟨panm w,paσ (drR x0 x1 x2 r0 r1 r2) (intsD path)⟩ (asgX (paS 0))=some (.int (p:Nat))) (t:∀ F,(paO w F).tr ⟨panm w,(("here":Str),.int (p:Nat))::paσ (drR x0 x1 x2 r0 r1 r2) (intsD path)⟩ (ifT (paS 1))=some false)
    (arg:∀ F (q:Nat),evL ((ops2 w (ctP F) paX 10).ev ⟨(lcS (asgX (paS 2))).names,(("place":Str),.int (q:Nat))::(((("here":Str),D.int (p:Nat))::paσ (drR x0 x1 x2 r0 r1 r2) (intsD path)).filter fun x=>(lcS (asgX (paS 2))).names.lookup x.1==some .free)⟩) (callAs (lcE (asgX (paS 2))))=some [drR x0 x1 x2 r0 r1 r2,.pl (intsD path++[.int (q:Nat)])]):PO w (n+1) x0 x1 x2 r0 r1 r2 path (stepR r0 r1 r2 p V):=by
  have R:=res3 H0 H1 H2 hp
  have hW:∀ q,q<3→Contract w n (.ref 296) [drR x0 x1 x2 r0 r1 r2,.pl (intsD path++[.int (q:Nat)])] (.bool (V q)):=fun q hq=>by
    have:=hV q hq
    unfold PO PastOk at this
    rw [List.map_append] at this
    exact this
  exact step_of w n (drR x0 x1 x2 r0 r1 r2) _ p (r3 r0 r1 r2 p).a (r3 r0 r1 r2 p).b V (r3 r0 r1 r2 p).m (hW _ R.a) (hW _ R.b) e0 t (fun F=>by rcases lt3 hp with rfl|rfl|rfl<;>kernel_rfl!) arg (fun F=>pa_tm w x0 x1 x2 r0 r1 r2 hp F _)
theorem step1 {p0:Nat} (h0:p0<3) (V:Nat→Bool) (hV:∀ q,q<3→PO w n x0 x1 x2 r0 r1 r2 [p0,q] (V q)):PO w (n+1) x0 x1 x2 r0 r1 r2 [p0] (stepR r0 r1 r2 p0 V) :=
  step_p w x0 x1 x2 n H0 H1 H2 (path:=[p0]) h0 V hV (fun F=>by kernel_rfl!) (fun F=>by clear hV;revert p0;apply allN;kernel_rfl!) (fun F q=>by kernel_rfl!)
theorem step2 {p0 p1:Nat} (h0:p0<3) (h1:p1<3) (d:p0≠p1) (V:Nat→Bool) (hV:∀ q,q<3→PO w n x0 x1 x2 r0 r1 r2 [p0,p1,q] (V q)):PO w (n+1) x0 x1 x2 r0 r1 r2 [p0,p1] (stepR r0 r1 r2 p1 V):=by
  obtain ⟨j,hj,rfl,rfl⟩:=two_j h0 h1 d
  exact step_p w x0 x1 x2 n H0 H1 H2 (path:=[pA j,pB j]) h1 V hV (fun F=>by kernel_rfl!) (fun F=>by clear hV d h0 h1;revert j;refine allN ?_;kernel_rfl!) (fun F q=>by kernel_rfl!)
theorem step3 {p0 p1 p2:Nat} (X:Tri p0 p1 p2) (V:Nat→Bool) (hV:∀ q,q<3→PO w n x0 x1 x2 r0 r1 r2 [p0,p1,p2,q] (V q)):PO w (n+1) x0 x1 x2 r0 r1 r2 [p0,p1,p2] (stepR r0 r1 r2 p2 V):=by
  obtain ⟨j,hj,rfl,rfl,rfl⟩:=tri_j X
  exact step_p w x0 x1 x2 n H0 H1 H2 (path:=[pA j,pB j,pC j]) X.c V hV (fun F=>by kernel_rfl!) (fun F=>by clear hV X;revert j;refine allN ?_;kernel_rfl!) (fun F q=>by kernel_rfl!)
theorem past_ok {p0:Nat} (h0:p0<3):PO w (n+4) x0 x1 x2 r0 r1 r2 [p0] (bestB (gm (rowOf r0) (rowOf r1) (rowOf r2)) p0):=by
  have hb:bestB (gm (rowOf r0) (rowOf r1) (rowOf r2)) p0=walkT (oddC (nmR r0 r1 r2)) (stepR r0 r1 r2) p0:=by
    have e:stepB (gm (rowOf r0) (rowOf r1) (rowOf r2))=stepR r0 r1 r2:=funext fun p=>funext fun k=>by
      match p with
      | 0=>rfl
      | 1=>rfl
      | _+2=>rfl
    show walkT (oddC (nmR r0 r1 r2)) (stepB (gm (rowOf r0) (rowOf r1) (rowOf r2))) p0=_
    rw [e]
  rw [hb]
  have bF:∀ {a b:Nat},a≠b→Nat.beq a b=false:=fun e=>by
    cases hb:Nat.beq _ _ with
    | false=>rfl
    | true=>exact absurd (Nat.eq_of_beq_eq_true hb) e
  refine step1 w x0 x1 x2 (n+3) H0 H1 H2 h0 _ fun p1 h1=>?_
  by_cases c1:p1=p0
  · subst c1
    rw [Nat.beq_refl]
    exact stop2 w x0 x1 x2 r0 r1 r2 (n+2) h0
  · rw [bF c1,cond_false]
    refine step2 w x0 x1 x2 (n+2) H0 H1 H2 h0 h1 (fun e=>c1 e.symm) _ fun p2 h2=>?_
    by_cases c2:p2=p1
    · subst c2
      rw [Nat.beq_refl]
      exact stop3b w x0 x1 x2 r0 r1 r2 (n+1) h0 h1 (fun e=>c1 e.symm)
    · rw [bF c2,cond_false]
      by_cases c3:p2=p0
      · subst c3
        rw [Nat.beq_refl]
        exact stop3a w x0 x1 x2 r0 r1 r2 (n+1) h0 h1 (fun e=>c1 e.symm)
      · rw [bF c3,cond_false]
        have X:Tri p0 p1 p2:=⟨h0,h1,h2,fun e=>c1 e.symm,fun e=>c3 e.symm,fun e=>c2 e.symm⟩
        refine step3 w x0 x1 x2 (n+1) H0 H1 H2 X _ fun p3 h3=>?_
        by_cases c4:p3=p2
        · subst c4
          rw [Nat.beq_refl]
          exact stop4c w x0 x1 x2 r0 r1 r2 n X
        · rw [bF c4,cond_false]
          by_cases c5:p3=p1
          · subst c5
            rw [Nat.beq_refl]
            exact stop4b w x0 x1 x2 r0 r1 r2 n X
          · rw [bF c5,cond_false]
            obtain rfl:=last_j X h3 c4 c5
            exact stop4a w x0 x1 x2 r0 r1 r2 n X
end
end
section
noncomputable def resI (a:Nat):Res:=⟨a % 3,a / 3 % 3,a / 9 % 16,a / 144 % 2==1,a / 288 % 8⟩
theorem fits_I (a:Nat):Fits (a:Int) (resI a):=by
  have fm:∀ (x:Nat) (k:Nat),0<k→((x:Int).fmod k)=((x % k:Nat):Int):=fun x k hk=>by
    rw [Int.fmod_eq_emod_of_nonneg _ (by lia)];rfl
  have fd:∀ (x:Nat) (k:Nat),((x:Int).fdiv k)=((x / k:Nat):Int):=fun x k=>by
    rw [Int.fdiv_eq_ediv_of_nonneg _ (by lia)];rfl
  have d3:((a:Int).fdiv 3)=((a / 3:Nat):Int):=fd a 3
  have d9:((a:Int).fdiv 9)=((a / 9:Nat):Int):=fd a 9
  have d144:((a:Int).fdiv 144)=((a / 144:Nat):Int):=fd a 144
  have d288:((a:Int).fdiv 288)=((a / 288:Nat):Int):=fd a 288
  refine ⟨fm a 3 (by decide),?_,?_,?_,fun t=>?_⟩
  · rw [d3];exact fm _ 3 (by decide)
  · rw [d9];exact fm _ 16 (by decide)
  · rw [d144]
    refine (fm _ 2 (by decide)).trans ?_
    show ((a / 144 % 2:Nat):Int)=if (a / 144 % 2==1)=true then 1 else 0
    by_cases h:a / 144 % 2=1
    · rw [h];rfl
    · have:a / 144 % 2=0:=by lia
      rw [this];rfl
  · rw [d288]
    have:=fm (a / 288+t) 8 (by decide)
    rw [show ((a / 288:Nat):Int)+(t:Int)=((a / 288+t:Nat):Int) by lia]
    refine this.trans ?_
    show ((((a / 288+t) % 8:Nat)):Int)=(((a / 288 % 8+t) % 8:Nat):Int)
    lia
theorem resI_ok (a:Nat):ResOk (resI a):=⟨Nat.mod_lt _ (by decide),Nat.mod_lt _ (by decide),Nat.mod_lt _ (by decide)⟩
theorem draws_num (w:World) (n:Nat) (l:List Int) (h:l.length≤63):∃ a b c:Nat,Contract w (n+1) (.ref 243) [.list (l.map D.int)] (drawsD a b c (resI a) (resI b) (resI c)):=by
  refine el31 (draws_three l) fun a b c e=>?_
  refine ⟨a,b,c,fun A R s W vs Y hW r Q E q=>?_⟩
  have:=draws_ok w n l h
  rw [e] at this
  refine this A R s W vs Y hW r Q E fun v s' k rv=>q v s' k ?_
  simp only [drawsD,List.map_cons,List.map_nil,rep,reps] at rv ⊢
  obtain ⟨ad,xs,e1,na,il,v1,vs1,e2,h1,v2,vs2,e3,h2,v3,vs3,e4,h3,e5⟩:=rv
  exact ⟨ad,xs,e1,na,il,v1,vs1,e2,⟨h1,fits_I a⟩,v2,vs2,e3,⟨h2,fits_I b⟩,v3,vs3,e4,⟨h3,fits_I c⟩,e5⟩
theorem play_walk {nxt nxt' sg sg':Nat→Nat} {p:Nat} (v:Nat→Bool) (h:playP nxt sg p=playP nxt' sg' p):walkT v (fun p k=>k (nxt p)) p=walkT v (fun p k=>k (nxt' p)) p:=by
  have A:∀ {l m:List Nat},(⟨l.toArray⟩:Str)=⟨m.toArray⟩→l=m:=fun e=>by injection e with e;simpa using e
  unfold playP at h
  unfold walkT
  dsimp only
  have bT:∀ {a b:Nat},a=b→Nat.beq a b=true:=fun e=>by rw [e];exact Nat.beq_refl _
  have bF:∀ {a b:Nat},a≠b→Nat.beq a b=false:=fun e=>by
    cases hb:Nat.beq _ _ with
    | false=>rfl
    | true=>exact absurd (Nat.eq_of_beq_eq_true hb) e
  by_cases c1:nxt p=p
  · rw [if_pos c1] at h
    by_cases c1':nxt' p=p
    · rw [bT c1,bT c1'];rfl
    · rw [if_neg c1'] at h
      by_cases c2':nxt' (nxt' p)=p∨nxt' (nxt' p)=nxt' p
      · rw [if_pos c2'] at h;have:=A h;simp at this
      · rw [if_neg c2'] at h;have:=A h;simp at this
  · rw [if_neg c1] at h
    by_cases c1':nxt' p=p
    · rw [if_pos c1'] at h
      by_cases c2:nxt (nxt p)=p∨nxt (nxt p)=nxt p
      · rw [if_pos c2] at h;have:=A h;simp at this
      · rw [if_neg c2] at h;have:=A h;simp at this
    · rw [if_neg c1'] at h
      by_cases c2:nxt (nxt p)=p∨nxt (nxt p)=nxt p
      · rw [if_pos c2] at h
        by_cases c2':nxt' (nxt' p)=p∨nxt' (nxt' p)=nxt' p
        · rw [if_pos c2'] at h
          have:=A h
          simp at this
          refine el04 this fun _ e1 _ e2=>?_
          rw [bF c1,bF c1',cond_false,cond_false]
          rcases c2 with c2|c2
          · have d2:nxt' (nxt' p)=p:=by rw [← e2];exact c2
            have n1:nxt (nxt p)≠nxt p:=by rw [c2];exact fun e=>c1 e.symm
            have n2:nxt' (nxt' p)≠nxt' p:=by rw [d2];exact fun e=>c1' e.symm
            simp only [bF n1,bT c2,bF n2,bT d2,cond_false,cond_true]
            rw [e1]
          · have d2:nxt' (nxt' p)=nxt' p:=by rw [← e2,c2,e1]
            simp only [bT c2,bT d2,cond_true]
            rw [e1]
        · rw [if_neg c2'] at h;have:=A h;simp at this
      · rw [if_neg c2] at h
        by_cases c2':nxt' (nxt' p)=p∨nxt' (nxt' p)=nxt' p
        · rw [if_pos c2'] at h;have:=A h;simp at this
        · rw [if_neg c2'] at h
          have:=A h
          simp at this
          refine el06 this fun _ e1 _ e2 _ e3=>?_
          rw [bF c1,bF c1',bF (fun e=>c2 (.inr e)),bF (fun e=>c2' (.inr e)),bF (fun e=>c2 (.inl e)),bF (fun e=>c2' (.inl e)),e3,e2,e1]
end
section
noncomputable def lvS (i:Nat):Stmt:=(fdB (stm 74)).getD i (.Pass default)
noncomputable def lwnm (w:World):List (Str × NameKind):=(fdAt w.params 301).scope.names
theorem lw_parts:fdB (stm 74)=[lvS 0,lvS 1,lvS 2,lvS 3,lvS 4,lvS 5,lvS 6,lvS 7,lvS 8,lvS 9,lvS 10]:=by kernel_rfl!
noncomputable def ctL (F:Nat→List D→Option D):CT:=fun f ds=>match f with
  | .ref k=>F k ds
  | _=>none
noncomputable abbrev lwX:Extra:=orX plX lenX
noncomputable abbrev lwO (w:World) (F:Nat→List D→Option D) (m:Nat):Ops:=ops2 w (ctL F) lwX m
theorem ev_F {w:World} {F:Nat→List D→Option D} {m:Nat} {c:Cx} {n:Str} {x:PySem.Expr} {a:Nat} {ds:List D} {d:D} (hX:lwX (lwO w F m) c (callE n x)=none) (hn:(lwO w F m).ev c (.Name n (nmP (callF x)))=some (.raw (.ref a))) (hc:callable w (.ref a)=true) (ha:evL ((lwO w F m).ev c) (callAs x)=some ds) (hd:F a ds=some d) :
    (lwO w F (m+1)).ev c (callE n x)=some d:=ev_call hX hn hc ha hd
theorem turns_map {α:Type} {f:D→Option (List D)} {h g:α→D}:∀ {l:List α},(∀ a∈l,f (h a)=some [g a])→turnsD f (l.map h)=some (l.map g)
  | [],_=>rfl
  | a::l,H=>by
    simp only [List.map_cons,turnsD,H a List.mem_cons_self,turns_map fun b hb=>H b (List.mem_cons_of_mem _ hb),List.cons_append,List.nil_append]
theorem turns_flat {α:Type} {f:D→Option (List D)} {h:α→D} {g:α→List D}:∀ {l:List α},(∀ a∈l,f (h a)=some (g a))→turnsD f (l.map h)=some (l.flatMap g)
  | [],_=>rfl
  | a::l,H=>by
    simp only [List.map_cons,turnsD,H a List.mem_cons_self,turns_flat fun b hb=>H b (List.mem_cons_of_mem _ hb),List.flatMap_cons]
theorem ev_LC1 {w:World} {ct:CT} {X:Extra} {m:Nat} {c:Cx} {elt:PySem.Expr} {g:Comprehension} {scope:Scope} {pos:Pos} {ds l:List D} {tg:PySem.Expr→Bool} {n:Str} (h1:(scopeB c.nm scope&&[g].all (fun g=>g.is_async==0&&notSet g.iter))=true) (hsrc:srcD (ops2 w ct X m) c g.iter=some (ds,tg))
    (htn:tgtN g.target=some n) (hmn:(mineN scope.names n&&(((c.σ.filter fun x=>scope.names.lookup x.1==some .free).lookup n).isNone&&tg g.target))=true) (ht:turnsD (turnD (ops2 w ct X m) scope.names (bodyD (ops2 w ct X m) scope.names elt []) g.ifs n (c.σ.filter fun x=>scope.names.lookup x.1==some .free)) ds=some l) (hl:l.length≤100000) :
    (ops2 w ct X (m+1)).ev c (.ListComp elt [g] scope pos)=some (.list l):=ev_LC rfl (compL_of h1 hsrc (loopD_ok htn hmn ht) hl)
theorem turn_one {o:Ops} {nm:List (Str × NameKind)} {elt:PySem.Expr} {n:Str} {σ:List (Str × D)} {d r:D} (h:o.ev ⟨nm,(n,d)::σ⟩ elt=some r):turnD o nm (bodyD o nm elt []) [] n σ d=some [r]:=(turnD_one (b:=true) (r:=r) rfl fun _=>h).trans rfl
theorem turn_test {o:Ops} {nm:List (Str × NameKind)} {elt t:PySem.Expr} {n:Str} {σ:List (Str × D)} {d r:D} {b:Bool} (ht:o.tr ⟨nm,(n,d)::σ⟩ t=some b) (h:o.ev ⟨nm,(n,d)::σ⟩ elt=some r):turnD o nm (bodyD o nm elt []) [t] n σ d=some (if b then [r] else []) :=
  turn_if ht (by show (o.ev ⟨nm,(n,d)::σ⟩ elt).map (fun d=>[d])=_;rw [h];rfl)
theorem tr_and2 {w:World} {ct:CT} {X:Extra} {m:Nat} {c:Cx} {x y:PySem.Expr} {p:Pos} {a b:Bool} (hx:(ops2 w ct X m).tr c x=some a) (hy:(ops2 w ct X m).tr c y=some b):(ops2 w ct X (m+1)).tr c (.BoolOp .And [x,y] p)=some (a&&b):=by
  show allT ((ops2 w ct X m).tr c) .And [x,y]=_
  simp only [allT,hx,hy]
  cases a<;>cases b<;>rfl
theorem tr_or2 {w:World} {ct:CT} {X:Extra} {m:Nat} {c:Cx} {x y:PySem.Expr} {p:Pos} {a b:Bool} (hx:(ops2 w ct X m).tr c x=some a) (hy:(ops2 w ct X m).tr c y=some b):(ops2 w ct X (m+1)).tr c (.BoolOp .Or [x,y] p)=some (a||b):=by
  show allT ((ops2 w ct X m).tr c) .Or [x,y]=_
  simp only [allT,hx,hy]
  cases a<;>cases b<;>rfl
theorem tr_not {w:World} {ct:CT} {X:Extra} {m:Nat} {c:Cx} {x:PySem.Expr} {p:Pos} {a:Bool} (hx:(ops2 w ct X m).tr c x=some a):(ops2 w ct X (m+1)).tr c (.UnaryOp .Not x p)=some (!a):=by
  show ((ops2 w ct X m).tr c x).map (!·)=_
  rw [hx];rfl
theorem ne_nil (l:List D):cmpB .NotEq (.list l) (.list [])=some (!l.isEmpty):=by cases l<;>rfl
theorem eq_nil (l:List D):cmpB .Eq (.list l) (.list [])=some l.isEmpty:=by cases l<;>rfl
theorem idx_row {g:Nat→D}:∀ c,c<8→idxD (.list ((List.range 8).map g)) (.int (c:Nat))=some (g c)
  | 0,_|1,_|2,_|3,_|4,_|5,_|6,_|7,_=>rfl
  | _+8,h=>by lia
noncomputable def letters (S:Nat→Bool):List D:=(List.range 3).flatMap fun p=>if S p then [.str (letS p)] else []
theorem letters_is (S:Nat→Bool):letters S=(if S 0 then [D.str (letS 0)] else [])++((if S 1 then [D.str (letS 1)] else [])++((if S 2 then [D.str (letS 2)] else [])++[])):=rfl
theorem letters_empty (S:Nat→Bool):(letters S).isEmpty=!(S 0||(S 1||S 2)):=by
  rw [letters_is]
  cases S 0<;>cases S 1<;>cases S 2<;>rfl
theorem any_letters (S:Nat→Bool):∀ p,p<3→anyD (fun y=>deq 0 y (.str (letS p))) (letters S)=some (S p):=fun p hp=>by
  rw [letters_is]
  rcases lt3 hp with rfl|rfl|rfl
  · cases h:S 0<;>cases S 1<;>cases S 2<;>rfl
  · cases S 0<;>cases h:S 1<;>cases S 2<;>rfl
  · cases S 0<;>cases S 1<;>cases h:S 2<;>rfl
theorem turns_letters {f:D→Option (List D)} {S R:Nat→Bool} (H:∀ p,p<3→f (.str (letS p))=some (if R p then [.str (letS p)] else [])):turnsD f (letters S)=some (letters fun p=>S p&&R p):=by
  rw [letters_is,letters_is]
  have h0:=H 0 (by decide)
  have h1:=H 1 (by decide)
  have h2:=H 2 (by decide)
  cases S 0<;>cases S 1<;>cases S 2<;>cases hr0:R 0<;>cases hr1:R 1<;>cases hr2:R 2<;>simp only [hr0,hr1,hr2,Bool.false_eq_true,if_true,if_false] at h0 h1 h2<;>simp [turnsD,h0,h1,h2]
theorem len_flat {α:Type} {g:α→List D} (hg:∀ a,(g a).length≤1):∀ (l:List α),(l.flatMap g).length≤l.length
  | []=>by simp
  | a::l=>by
    have:=len_flat hg l
    have:=hg a
    rw [List.flatMap_cons,List.length_append,List.length_cons]
    lia
theorem len_letters (S:Nat→Bool):(letters S).length≤3:=len_flat (fun p=>by split<;>simp) (List.range 3)
end
section
structure LawF (F:Nat→List D→Option D) (sc dr B:D) (bs:Nat→Bool) (T:Nat→Nat→Str) (wn:Nat→Nat→Bool):Prop where
  draws:F 243 [sc]=some dr
  board:F 269 [dr]=some B
  due:F 274 [dr]=some B
  past:∀ p,p<3→F 296 [dr,.pl [.int (p:Nat)]]=some (.bool (bs p))
  play:∀ c p,c<8→p<3→F 281 [B,.int (c:Nat),.str (letS p)]=some (.str (T c p))
  told:∀ p,p<3→F 286 [.str (T 0 p)]=some (.bool true)
  odd:∀ c p,c<8→p<3→F 291 [B,.str (T c p)]=some (.bool (wn c p))
theorem lw_a0:lvS 0=.Assign [.Name "draws" (nmP (asgT (lvS 0)))] (asgX (lvS 0)) (posS (lvS 0)):=by kernel_rfl!
theorem lw_x0:asgX (lvS 0)=callE "_law_draws" (asgX (lvS 0)):=by kernel_rfl!
theorem lw_a1:lvS 1=.Assign [.Name "board" (nmP (asgT (lvS 1)))] (asgX (lvS 1)) (posS (lvS 1)):=by kernel_rfl!
theorem lw_x1:asgX (lvS 1)=callE "_law_board" (asgX (lvS 1)):=by kernel_rfl!
theorem lw_i2:lvS 2=.If (ifT (lvS 2)) (ifB (lvS 2)) [] (ifP (lvS 2)):=by kernel_rfl!
theorem lw_t2:ifT (lvS 2)=.Compare (cmpL (ifT (lvS 2))) [.NotEq] [callE "_law_due" (cmpR (ifT (lvS 2)))] (cmpP (ifT (lvS 2))):=by kernel_rfl!
theorem lw_a3:lvS 3=.Assign [.Name "best" (nmP (asgT (lvS 3)))] (asgX (lvS 3)) (posS (lvS 3)):=by kernel_rfl!
theorem lw_l3:asgX (lvS 3)=.ListComp (lcE (asgX (lvS 3))) [lcG0 (asgX (lvS 3))] (lcS (asgX (lvS 3))) (lcP (asgX (lvS 3))):=by kernel_rfl!
theorem lw_f3:(lcG0 (asgX (lvS 3))).ifs=[callE "_law_by_the_past" (ifs0 (asgX (lvS 3)))]:=by kernel_rfl!
theorem lw_a4:lvS 4=.Assign [.Name "mask" (nmP (asgT (lvS 4)))] (asgX (lvS 4)) (posS (lvS 4)):=by kernel_rfl!
theorem lw_a5:lvS 5=.Assign [.Name "plays" (nmP (asgT (lvS 5)))] (asgX (lvS 5)) (posS (lvS 5)):=by kernel_rfl!
noncomputable def lv5:PySem.Expr:=asgX (lvS 5)
theorem lw_l5:asgX (lvS 5)=.ListComp (.ListComp (callE "_law_play" (lcE (lcE lv5))) [lcG0 (lcE lv5)] (lcS (lcE lv5)) (lcP (lcE lv5))) [lcG0 lv5] (lcS lv5) (lcP lv5):=by kernel_rfl!
theorem eqD_int {rec:List D→List D→Option Bool} (a:Int):eqD rec (.int a) (.int a)=some true:=by
  have e:eqD rec (.int a) (.int a)=some (a==a):=rfl
  rw [e,beq_self_eq_true]
theorem eqD_str {rec:List D→List D→Option Bool} (a:Str):eqD rec (.str a) (.str a)=some true:=by
  have e:eqD rec (.str a) (.str a)=some (a==a):=rfl
  rw [e,beq_self_eq_true]
theorem eqD_bool {rec:List D→List D→Option Bool} (a:Bool):eqD rec (.bool a) (.bool a)=some true:=by cases a<;>rfl
theorem deqs_cons {f:D→D→Option Bool} {x:D} {l:List D} (h1:f x x=some true) (h2:deqs f l l=some true):deqs f (x::l) (x::l)=some true:=by
  show (f x x).bind (fun a=>(deqs f l l).bind fun b=>some (a&&b))=_
  rw [h1,h2];rfl
theorem deq_row (n:Nat) (q:Row):deq (n+2) (rowB q) (rowB q)=some true :=
  deqs_cons (eqD_bool _) (deqs_cons (eqD_int _) (deqs_cons (eqD_str _) (deqs_cons (show deqs (deq n) _ _=some true from by cases n<;>exact deqs_cons (eqD_str _) (deqs_cons (eqD_str _) rfl)) rfl)))
theorem deq_board (q0 q1 q2:Row):deq 8 (boardD q0 q1 q2) (boardD q0 q1 q2)=some true :=
  show deqs (deq 7) [rowB q0,rowB q1,rowB q2] [rowB q0,rowB q1,rowB q2]=some true from deqs_cons (deq_row 5 q0) (deqs_cons (deq_row 5 q1) (deqs_cons (deq_row 5 q2) rfl))
section
variable {w:World} {F:Nat→List D→Option D} {sc dr:D} {q0 q1 q2:Row} {bs:Nat→Bool} {T:Nat→Nat→Str} {wn:Nat→Nat→Bool} (L:LawF F sc dr (boardD q0 q1 q2) bs T wn)
noncomputable abbrev lσ1 (sc dr:D):List (Str × D):=[(("draws":Str),dr),(("script":Str),sc)]
noncomputable abbrev lσ2 (sc dr B:D):List (Str × D):=(("board":Str),B)::lσ1 sc dr
noncomputable abbrev lσ3 (sc dr B:D) (bs:Nat→Bool):List (Str × D):=(("best":Str),.list (letters bs))::lσ2 sc dr B
noncomputable abbrev lσ4 (sc dr B:D) (bs:Nat→Bool) (M:Nat):List (Str × D):=(("mask":Str),.int (M:Nat))::lσ3 sc dr B bs
noncomputable def rowT (T:Nat→Nat→Str) (c:Nat):D:=.list ((List.range 3).map fun p=>D.str (T c p))
noncomputable abbrev lσ5 (sc dr B:D) (bs:Nat→Bool) (M:Nat) (T:Nat→Nat→Str):List (Str × D):=(("plays":Str),.list ((List.range 8).map (rowT T)))::lσ4 sc dr B bs M
include L
theorem lw_e0:(lwO w F 20).ev ⟨lwnm w,[(("script":Str),sc)]⟩ (asgX (lvS 0))=some dr:=by
  rw [lw_x0]
  exact ev_F rfl (by kernel_rfl!) (by kernel_rfl!) (ds:=[sc]) (by kernel_rfl!) L.draws
theorem lw_e1:(lwO w F 20).ev ⟨lwnm w,lσ1 sc dr⟩ (asgX (lvS 1))=some (boardD q0 q1 q2):=by
  rw [lw_x1]
  exact ev_F rfl (by kernel_rfl!) (by kernel_rfl!) (ds:=[dr]) (by kernel_rfl!) L.board
theorem lw_e2:(lwO w F 20).tr ⟨lwnm w,lσ2 sc dr (boardD q0 q1 q2)⟩ (ifT (lvS 2))=some false:=by
  rw [lw_t2]
  have hy:(lwO w F 19).ev ⟨lwnm w,lσ2 sc dr (boardD q0 q1 q2)⟩ (callE "_law_due" (cmpR (ifT (lvS 2))))=some (boardD q0 q1 q2):=ev_F rfl (by kernel_rfl!) (by kernel_rfl!) (ds:=[dr]) (by kernel_rfl!) L.due
  refine trC (m:=19) (op:=.NotEq) (x:=boardD q0 q1 q2) (by kernel_rfl!) (by kernel_rfl!) hy ?_
  show (deq 8 (boardD q0 q1 q2) (boardD q0 q1 q2)).map (!·)=_
  rw [deq_board];rfl
theorem lw_e3:(lwO w F 20).ev ⟨lwnm w,lσ2 sc dr (boardD q0 q1 q2)⟩ (asgX (lvS 3))=some (.list (letters bs)):=by
  rw [lw_l3]
  refine ev_LC1 (ds:=(List.range 3).map fun (p:Nat)=>D.int (p:Int)) (tg:=tgName) (n:="place") (by kernel_rfl!) (by kernel_rfl!) (by kernel_rfl!) (by kernel_rfl!) ?_ (Nat.le_trans (len_letters bs) (by decide))
  refine turns_flat fun p hp=>?_
  have hp:=List.mem_range.1 hp
  rw [lw_f3]
  refine turn_test (tr_call (ev_F rfl (by kernel_rfl!) (by kernel_rfl!) (ds:=[dr,.pl [.int (p:Nat)]]) (by kernel_rfl!) (L.past p hp))) ?_
  rcases lt3 hp with rfl|rfl|rfl<;>kernel_rfl!
omit L in
theorem lw_e4:(lwO w F 20).ev ⟨lwnm w,lσ3 sc dr (boardD q0 q1 q2) bs⟩ (asgX (lvS 4))=some (.int (b2 q0.m 1+b2 q1.m 2+b2 q2.m 4:Nat)):=by
  obtain ⟨m0,s0,a0,b0⟩:=q0
  obtain ⟨m1,s1,a1,b1⟩:=q1
  obtain ⟨m2,s2,a2,b2'⟩:=q2
  cases m0<;>cases m1<;>cases m2<;>kernel_rfl!
theorem lw_e5 (M:Nat):(lwO w F 20).ev ⟨lwnm w,lσ4 sc dr (boardD q0 q1 q2) bs M⟩ (asgX (lvS 5))=some (.list ((List.range 8).map (rowT T))):=by
  rw [lw_l5]
  refine ev_LC1 (ds:=(List.range 8).map fun (p:Nat)=>D.int (p:Int)) (tg:=tgName) (n:="choice") (by kernel_rfl!) (by kernel_rfl!) (by kernel_rfl!) (by kernel_rfl!) ?_ (by simp)
  refine turns_map fun c hc=>?_
  have hc:=List.mem_range.1 hc
  rw [show (lcG0 lv5).ifs=[] by kernel_rfl!]
  refine turn_one ?_
  refine ev_LC1 (ds:=(List.range 3).map fun (p:Nat)=>D.str (letS p)) (tg:=tgName) (n:="here") (by kernel_rfl!) (by kernel_rfl!) (by kernel_rfl!) (by kernel_rfl!) ?_ (by simp)
  refine turns_map fun p hp=>?_
  have hp:=List.mem_range.1 hp
  rw [show (lcG0 (lcE lv5)).ifs=[] by kernel_rfl!]
  exact turn_one (ev_F rfl (by kernel_rfl!) (by kernel_rfl!) (ds:=[boardD q0 q1 q2,.int (c:Nat),.str (letS p)]) (by kernel_rfl!) (L.play c p hc hp))
end
end
section
inductive PlayF:Str→Nat→Prop
  | f3 (x u:Nat):PlayF ⟨#[x,u,x]⟩ x
  | f5 (x u y v z:Nat):x≠y→(z=x∨z=y)→PlayF ⟨#[x,u,y,v,z]⟩ x
  | f7 (x u y v z k t:Nat):x≠y→x≠z→y≠z→(t=x∨t=y∨t=z)→PlayF ⟨#[x,u,y,v,z,k,t]⟩ x
theorem play_form {nxt sg:Nat→Nat} (lt:∀ p,nxt p<3) {p0:Nat} (h0:p0<3):PlayF (playP nxt sg p0) (97+p0):=by
  unfold playP
  by_cases c1:nxt p0=p0
  · rw [if_pos c1,c1];exact .f3 _ _
  · rw [if_neg c1]
    by_cases c2:nxt (nxt p0)=p0∨nxt (nxt p0)=nxt p0
    · rw [if_pos c2];exact .f5 _ _ _ _ _ (by lia) (by lia)
    · rw [if_neg c2]
      have a:=lt p0;have b:=lt (nxt p0);have c:=lt (nxt (nxt p0))
      exact .f7 _ _ _ _ _ _ _ (by omega) (by omega) (by omega) (by omega)
theorem met2 (x:Nat):(metN [x,x]).length=1:=by simp [metN,addN]
theorem met3 {x y z:Nat} (h:x≠y) (hz:z=x∨z=y):(metN [x,y,z]).length=2:=by
  rcases hz with rfl|rfl<;>simp [metN,addN,h,h.symm]
theorem met4 {x y z t:Nat} (h:x≠y) (h2:x≠z) (h3:y≠z) (ht:t=x∨t=y∨t=z):(metN [x,y,z,t]).length=3:=by
  rcases ht with rfl|rfl|rfl<;>simp [metN,addN,h,h2,h3,h.symm,h2.symm,h3.symm]
theorem turn_inn {o:Ops} {nm:List (Str × NameKind)} {inn:List (Str × D)→Option (List D)} {n:Str} {σ:List (Str × D)} {d:D} {l:List D} (h:inn ((n,d)::σ)=some l):turnD o nm inn [] n σ d=some l:=h
theorem src_plain {o:Ops} {c:Cx} {x:PySem.Expr} {l:List D} (hk:srcK x=.plain) (hs:notSet x=true) (h:o.ev c x=some (.list l)):srcD o c x=some (l,tgAny):=by
  unfold srcD
  rw [hk]
  dsimp only
  rw [if_pos hs,h];rfl
theorem ev_idxN {w:World} {ct:CT} {X:Extra} {m:Nat} {c:Cx} {v:PySem.Expr} {n:Str} {q pos:Pos} {x y d:D} (hX:X (ops2 w ct X m) c (.Subscript v (.Name n q) pos)=none) (hv:(ops2 w ct X m).ev c v=some x) (hi:(ops2 w ct X m).ev c (.Name n q)=some y) (hs:isSeqD x=true) (hd:idxD x y=some d):(ops2 w ct X (m+1)).ev c (.Subscript v (.Name n q) pos)=some d:=by
  refine ev_ix (fun _ _=>rfl) hX hv hi hs hd
noncomputable def lv6 (i:Nat):PySem.Expr:=(bXs (ifT (lvS 6))).getD i (.Constant .none 0 default)
noncomputable def lw6 (i:Nat):PySem.Expr:=cmpL (lv6 i)
noncomputable def nilE (x:PySem.Expr):PySem.Expr:=.List [] (lsP (cmpR x))
theorem lw_i6:lvS 6=.If (ifT (lvS 6)) (ifB (lvS 6)) [] (ifP (lvS 6)):=by kernel_rfl!
noncomputable def lg6 (i:Nat):Comprehension:=(lcG (lw6 0)).getD i ⟨.Constant .none 0 default,.Constant .none 0 default,[],0⟩
theorem lw_t6:ifT (lvS 6)=.BoolOp .Or [.Compare (.ListComp (lcE (lw6 0)) [lg6 0,lg6 1] (lcS (lw6 0)) (lcP (lw6 0))) [.NotEq] [nilE (lv6 0)] (cmpP (lv6 0)),.Compare (.ListComp (lcE (lw6 1)) [lcG0 (lw6 1)] (lcS (lw6 1)) (lcP (lw6 1))) [.NotEq] [nilE (lv6 1)] (cmpP (lv6 1))] (bP (ifT (lvS 6))):=by kernel_rfl!
noncomputable def lt6:PySem.Expr:=(lg6 1).ifs.getD 0 (.Constant .none 0 default)
theorem lw_f6:(lg6 1).ifs=[lt6]:=by kernel_rfl!
theorem lw_f6b:(lcG0 (lw6 1)).ifs=[.UnaryOp .Not (callE "_law_told" (unX (ifs0 (lw6 1)))) (unP (ifs0 (lw6 1)))]:=by kernel_rfl!
theorem len_test {w:World} {F:Nat→List D→Option D} {X:Str} {x:Nat} (h:PlayF X x) (τ:List (Str × D)):(lwO w F 17).tr ⟨(lcS (lw6 0)).names,(("play":Str),.str X)::τ⟩ lt6=some false:=by
  cases h with
  | f3 x u =>
    have e:(lwO w F 17).tr ⟨(lcS (lw6 0)).names,(("play":Str),.str ⟨#[x,u,x]⟩)::τ⟩ lt6=some (!((((metN [x,x]).length:Nat):Int)==1)):=by kernel_rfl!
    rw [e,met2];rfl
  | f5 x u y v z h hz =>
    have e:(lwO w F 17).tr ⟨(lcS (lw6 0)).names,(("play":Str),.str ⟨#[x,u,y,v,z]⟩)::τ⟩ lt6=some (!((((metN [x,y,z]).length:Nat):Int)==2)):=by kernel_rfl!
    rw [e,met3 h hz];rfl
  | f7 x u y v z k t h h2 h3 ht =>
    have e:(lwO w F 17).tr ⟨(lcS (lw6 0)).names,(("play":Str),.str ⟨#[x,u,y,v,z,k,t]⟩)::τ⟩ lt6=some (!((((metN [x,y,z,t]).length:Nat):Int)==3)):=by kernel_rfl!
    rw [e,met4 h h2 h3 ht];rfl
noncomputable def lv7:PySem.Expr:=asgX (lvS 7)
theorem lw_a7:lvS 7=.Assign [.Name "won" (nmP (asgT (lvS 7)))] (asgX (lvS 7)) (posS (lvS 7)):=by kernel_rfl!
theorem lw_l7:asgX (lvS 7)=.ListComp (.ListComp (lcE (lcE lv7)) [lcG0 (lcE lv7)] (lcS (lcE lv7)) (lcP (lcE lv7))) [lcG0 lv7] (lcS lv7) (lcP lv7):=by kernel_rfl!
theorem lw_f7:(lcG0 (lcE lv7)).ifs=[callE "_law_odd_wins" (ifs0 (lcE lv7))]:=by kernel_rfl!
theorem first_ev {w:World} {F:Nat→List D→Option D} {X:Str} {x:Nat} (h:PlayF X x) (τ:List (Str × D)):(lwO w F 18).ev ⟨(lcS (lcE lv7)).names,(("play":Str),.str X)::τ⟩ (lcE (lcE lv7))=some (.str ⟨#[x]⟩):=by
  cases h<;>kernel_rfl!
section
variable {w:World} {F:Nat→List D→Option D} {sc dr:D} {q0 q1 q2:Row} {bs:Nat→Bool} {T:Nat→Nat→Str} {wn:Nat→Nat→Bool} (L:LawF F sc dr (boardD q0 q1 q2) bs T wn) (hT:∀ c p,c<8→p<3→PlayF (T c p) (97+p)) (M:Nat)
noncomputable def wonR (wn:Nat→Nat→Bool) (c:Nat):D:=.list (letters (wn c))
noncomputable abbrev lσ6 (sc dr B:D) (bs:Nat→Bool) (M:Nat) (T:Nat→Nat→Str) (wn:Nat→Nat→Bool):List (Str × D):=(("won":Str),.list ((List.range 8).map (wonR wn)))::lσ5 sc dr B bs M T
include L hT
theorem lw_e6:(lwO w F 20).tr ⟨lwnm w,lσ5 sc dr (boardD q0 q1 q2) bs M T⟩ (ifT (lvS 6))=some false:=by
  rw [lw_t6]
  refine (tr_or2 (a:=false) (b:=false) (trC (m:=18) (op:=.NotEq) (x:=.list []) (y:=.list []) (by kernel_rfl!) ?_ (by kernel_rfl!) rfl) (trC (m:=18) (op:=.NotEq) (x:=.list []) (y:=.list []) (by kernel_rfl!) ?_ (by kernel_rfl!) rfl))
  · refine ev_LC rfl (compL_of (ds:=(List.range 8).map (rowT T)) (tg:=tgAny) (by kernel_rfl!) (by kernel_rfl!) (loopD_ok (n:="row") (by kernel_rfl!) (by kernel_rfl!) (l:=[]) ?_) (by simp))
    rw [show ([]:List D)=(List.range 8).flatMap fun _=>[] by simp]
    refine turns_flat fun c hc=>?_
    have hc:=List.mem_range.1 hc
    rw [show (lg6 0).ifs=[] by kernel_rfl!]
    refine turn_inn ?_
    have src:srcD (lwO w F 17) ⟨(lcS (lw6 0)).names,(("row":Str),rowT T c)::((lσ5 sc dr (boardD q0 q1 q2) bs M T).filter fun x=>(lcS (lw6 0)).names.lookup x.1==some .free)⟩ (lg6 1).iter=some ((List.range 3).map (fun p=>D.str (T c p)),tgAny):=by kernel_rfl!
    show (match srcD (lwO w F 17) ⟨(lcS (lw6 0)).names,(("row":Str),rowT T c)::((lσ5 sc dr (boardD q0 q1 q2) bs M T).filter fun x=>(lcS (lw6 0)).names.lookup x.1==some .free)⟩ (lg6 1).iter with
      | some (ds,tg)=>loopD (lwO w F 17) (lcS (lw6 0)).names (bodyD (lwO w F 17) (lcS (lw6 0)).names (lcE (lw6 0)) []) (lg6 1) ((("row":Str),rowT T c)::((lσ5 sc dr (boardD q0 q1 q2) bs M T).filter fun x=>(lcS (lw6 0)).names.lookup x.1==some .free)) ds tg
      | none=>none)=some []
    rw [src]
    dsimp only
    refine loopD_ok (n:="play") (by kernel_rfl!) (by kernel_rfl!) ?_
    rw [show ([]:List D)=(List.range 3).flatMap fun _=>[] by simp]
    refine turns_flat fun p hp=>?_
    rw [lw_f6]
    exact (turn_test (b:=false) (r:=.str (T c p)) (len_test (hT c p hc (List.mem_range.1 hp)) _) (by kernel_rfl!)).trans rfl
  · refine ev_LC1 (ds:=(List.range 3).map (fun p=>D.str (T 0 p))) (tg:=tgAny) (n:="play") (by kernel_rfl!) (by kernel_rfl!) (by kernel_rfl!) (by kernel_rfl!) ?_ (by simp)
    rw [show ([]:List D)=(List.range 3).flatMap fun _=>[] by simp]
    refine turns_flat fun p hp=>?_
    rw [lw_f6b]
    refine (turn_test (b:=false) (r:=.str (T 0 p)) (tr_not (a:=true) (tr_call (ev_F rfl (by kernel_rfl!) (by kernel_rfl!) (ds:=[.str (T 0 p)]) (by kernel_rfl!) (L.told p (List.mem_range.1 hp))))) (by kernel_rfl!)).trans rfl
theorem lw_e7:(lwO w F 20).ev ⟨lwnm w,lσ5 sc dr (boardD q0 q1 q2) bs M T⟩ (asgX (lvS 7))=some (.list ((List.range 8).map (wonR wn))):=by
  rw [lw_l7]
  refine ev_LC1 (ds:=(List.range 8).map (rowT T)) (tg:=tgAny) (n:="row") (by kernel_rfl!) (by kernel_rfl!) (by kernel_rfl!) (by kernel_rfl!) ?_ (by simp)
  refine turns_map fun c hc=>?_
  have hc:=List.mem_range.1 hc
  rw [show (lcG0 lv7).ifs=[] by kernel_rfl!]
  refine turn_one ?_
  refine ev_LC1 (ds:=(List.range 3).map (fun p=>D.str (T c p))) (tg:=tgAny) (n:="play") (by kernel_rfl!) (by kernel_rfl!) (by kernel_rfl!) (by kernel_rfl!) (l:=letters (wn c)) ?_ (Nat.le_trans (len_letters _) (by decide))
  refine turns_flat fun p hp=>?_
  have hp:=List.mem_range.1 hp
  rw [lw_f7]
  exact turn_test (tr_call (ev_F rfl (by kernel_rfl!) (by kernel_rfl!) (ds:=[boardD q0 q1 q2,.str (T c p)]) (by kernel_rfl!) (L.odd c p hc hp))) (first_ev (hT c p hc hp) _)
end
end
section
noncomputable def kX (k:Nat):PySem.Expr:=asgX (lvS k)
noncomputable def kAt (x:PySem.Expr) (i:Nat):PySem.Expr:=(bXs (ifs0 x)).getD i (.Constant .none 0 default)
noncomputable def kC (k:Nat):PySem.Expr:=cmpL (kAt (kX k) 1)
noncomputable def kH (k:Nat):PySem.Expr:=cmpL (kAt (kC k) 1)
theorem lw_a8:lvS 8=.Assign [.Name "odd" (nmP (asgT (lvS 8)))] (asgX (lvS 8)) (posS (lvS 8)):=by kernel_rfl!
theorem lw_a9:lvS 9=.Assign [.Name "even" (nmP (asgT (lvS 9)))] (asgX (lvS 9)) (posS (lvS 9)):=by kernel_rfl!
noncomputable def lc1E (x:PySem.Expr):PySem.Expr:=.ListComp (lcE x) [lcG0 x] (lcS x) (lcP x)
theorem lw_l8:asgX (lvS 8)=lc1E (kX 8):=by kernel_rfl!
theorem lw_l9:asgX (lvS 9)=lc1E (kX 9):=by kernel_rfl!
noncomputable def and2E (x a b:PySem.Expr):PySem.Expr:=.BoolOp .And [a,b] (bP x)
noncomputable def cmpE (op:CmpOp) (x l r:PySem.Expr):PySem.Expr:=.Compare l [op] [r] (cmpP x)
theorem lw_f8:(lcG0 (kX 8)).ifs=[and2E (ifs0 (kX 8)) (kAt (kX 8) 0) (cmpE .Eq (kAt (kX 8) 1) (lc1E (kC 8)) (nilE (kAt (kX 8) 1)))]:=by kernel_rfl!
theorem lw_f9:(lcG0 (kX 9)).ifs=[and2E (ifs0 (kX 9)) (kAt (kX 9) 0) (cmpE .Eq (kAt (kX 9) 1) (lc1E (kC 9)) (nilE (kAt (kX 9) 1)))]:=by kernel_rfl!
theorem lw_c8:(lcG0 (kC 8)).ifs=[and2E (ifs0 (kC 8)) (kAt (kC 8) 0) (cmpE .NotEq (kAt (kC 8) 1) (lc1E (kH 8)) (nilE (kAt (kC 8) 1)))]:=by kernel_rfl!
theorem lw_c9:(lcG0 (kC 9)).ifs=[and2E (ifs0 (kC 9)) (kAt (kC 9) 0) (cmpE .NotEq (kAt (kC 9) 1) (lc1E (kH 9)) (nilE (kAt (kC 9) 1)))]:=by kernel_rfl!
noncomputable def subN (x:PySem.Expr) (v i:Str):PySem.Expr:=.Subscript (.Name v (nmP (subV x))) (.Name i (nmP (subE x))) (subP x)
theorem lw_h8:(lcG0 (kH 8)).ifs=[cmpE .NotIn (ifs0 (kH 8)) (cmpL (ifs0 (kH 8))) (subN (cmpR (ifs0 (kH 8))) "won" "choice")]:=by kernel_rfl!
theorem lw_h9:(lcG0 (kH 9)).ifs=[cmpE .NotIn (ifs0 (kH 9)) (cmpL (ifs0 (kH 9))) (cmpR (ifs0 (kH 9)))]:=by kernel_rfl!
theorem lw_g9:(lcG0 (kH 9)).iter=subN (lcG0 (kH 9)).iter "won" "choice":=by kernel_rfl!
theorem notIn_letters (S:Nat→Bool) {p:Nat} (hp:p<3):cmpB .NotIn (.str (letS p)) (.list (letters S))=some (!(S p)):=by
  show (anyD (fun y=>deq 0 y (.str (letS p))) (letters S)).map (!·)=_
  rw [any_letters S p hp];rfl
section
variable (w:World) (F:Nat→List D→Option D) (sc dr:D) (q0 q1 q2:Row) (bs:Nat→Bool) (T:Nat→Nat→Str) (wn:Nat→Nat→Bool) (M:Nat)
noncomputable def bI (a:Int) (b:Int):Int:=PySem.Builtin.bitAnd a b
noncomputable def nI (a:Int):Int:=PySem.Builtin.bitNot a
noncomputable def cho8 (bs:Nat→Bool) (wn:Nat→Nat→Bool) (M x:Nat):List D:=(List.range 8).flatMap fun c=>if (bI (c:Nat) (M:Nat)==((x:Nat):Int))&&!(letters fun p=>bs p&&!(wn c p)).isEmpty then [D.int (c:Nat)] else []
noncomputable def cho9 (bs:Nat→Bool) (wn:Nat→Nat→Bool) (M x:Nat):List D:=(List.range 8).flatMap fun c=>if (bI (c:Nat) (nI (M:Nat))==((x:Nat):Int))&&!(letters fun p=>wn c p&&!(bs p)).isEmpty then [D.int (c:Nat)] else []
noncomputable def oddL (bs:Nat→Bool) (wn:Nat→Nat→Bool) (M:Nat):List D:=(List.range 8).flatMap fun x=>if (bI (x:Nat) (nI (M:Nat))==0)&&(cho8 bs wn M x).isEmpty then [D.int (x:Nat)] else []
noncomputable def evenL (bs:Nat→Bool) (wn:Nat→Nat→Bool) (M:Nat):List D:=(List.range 8).flatMap fun x=>if (bI (x:Nat) (M:Nat)==0)&&(cho9 bs wn M x).isEmpty then [D.int (x:Nat)] else []
noncomputable abbrev lσ7 (sc dr B:D) (bs:Nat→Bool) (M:Nat) (T:Nat→Nat→Str) (wn:Nat→Nat→Bool):List (Str × D):=(("odd":Str),.list (oddL bs wn M))::lσ6 sc dr B bs M T wn
theorem len8 {f:Nat→Bool} {g:Nat→D}:((List.range 8).flatMap fun c=>if f c then [g c] else []).length≤100000:=Nat.le_trans (len_flat (fun c=>by split<;>simp) _) (by decide)
theorem lw_e8:(lwO w F 20).ev ⟨lwnm w,lσ6 sc dr (boardD q0 q1 q2) bs M T wn⟩ (asgX (lvS 8))=some (.list (oddL bs wn M)):=by
  rw [lw_l8]
  refine ev_LC1 (ds:=(List.range 8).map fun (p:Nat)=>D.int (p:Int)) (tg:=tgName) (n:="mine") (by kernel_rfl!) (by kernel_rfl!) (by kernel_rfl!) (by kernel_rfl!) ?_ len8
  refine turns_flat fun x hx=>?_
  rw [lw_f8]
  refine turn_test (tr_and2 (m:=18) (by kernel_rfl!) (trC (m:=17) (op:=.Eq) (x:=.list (cho8 bs wn M x)) (y:=.list []) (by kernel_rfl!) ?_ (by kernel_rfl!) (eq_nil _))) (by kernel_rfl!)
  refine ev_LC1 (ds:=(List.range 8).map fun (p:Nat)=>D.int (p:Int)) (tg:=tgName) (n:="choice") (by kernel_rfl!) (by kernel_rfl!) (by kernel_rfl!) (by kernel_rfl!) ?_ len8
  refine turns_flat fun c hc=>?_
  have hc:=List.mem_range.1 hc
  rw [lw_c8]
  refine turn_test (tr_and2 (m:=15) (by kernel_rfl!) (trC (m:=14) (op:=.NotEq) (x:=.list (letters fun p=>bs p&&!(wn c p))) (y:=.list []) (by kernel_rfl!) ?_ (by kernel_rfl!) (ne_nil _))) (by kernel_rfl!)
  refine ev_LC1 (ds:=letters bs) (tg:=tgAny) (n:="here") (by kernel_rfl!) (by kernel_rfl!) (by kernel_rfl!) (by kernel_rfl!) (turns_letters fun p hp=>?_) (Nat.le_trans (len_letters _) (by decide))
  rw [lw_h8]
  refine turn_test (b:=!(wn c p)) (trC (m:=12) (op:=.NotIn) (x:=.str (letS p)) (y:=wonR wn c) (by kernel_rfl!) (by kernel_rfl!) ?_ (notIn_letters _ hp)) (by kernel_rfl!)
  exact ev_idxN (by kernel_rfl!) (x:=.list ((List.range 8).map (wonR wn))) (by kernel_rfl!) (y:=.int (c:Nat)) (by kernel_rfl!) rfl (idx_row c hc)
theorem lw_e9:(lwO w F 20).ev ⟨lwnm w,lσ7 sc dr (boardD q0 q1 q2) bs M T wn⟩ (asgX (lvS 9))=some (.list (evenL bs wn M)):=by
  rw [lw_l9]
  refine ev_LC1 (ds:=(List.range 8).map fun (p:Nat)=>D.int (p:Int)) (tg:=tgName) (n:="yours") (by kernel_rfl!) (by kernel_rfl!) (by kernel_rfl!) (by kernel_rfl!) ?_ len8
  refine turns_flat fun x hx=>?_
  rw [lw_f9]
  refine turn_test (tr_and2 (m:=18) (by kernel_rfl!) (trC (m:=17) (op:=.Eq) (x:=.list (cho9 bs wn M x)) (y:=.list []) (by kernel_rfl!) ?_ (by kernel_rfl!) (eq_nil _))) (by kernel_rfl!)
  refine ev_LC1 (ds:=(List.range 8).map fun (p:Nat)=>D.int (p:Int)) (tg:=tgName) (n:="choice") (by kernel_rfl!) (by kernel_rfl!) (by kernel_rfl!) (by kernel_rfl!) ?_ len8
  refine turns_flat fun c hc=>?_
  have hc:=List.mem_range.1 hc
  rw [lw_c9]
  refine turn_test (tr_and2 (m:=15) (by kernel_rfl!) (trC (m:=14) (op:=.NotEq) (x:=.list (letters fun p=>wn c p&&!(bs p))) (y:=.list []) (by kernel_rfl!) ?_ (by kernel_rfl!) (ne_nil _))) (by kernel_rfl!)
  refine ev_LC1 (ds:=letters (wn c)) (tg:=tgAny) (n:="here") (by kernel_rfl!) ?_ (by kernel_rfl!) (by kernel_rfl!) (turns_letters fun p hp=>?_) (Nat.le_trans (len_letters _) (by decide))
  · rw [lw_g9]
    refine src_plain rfl rfl ?_
    exact ev_idxN (by kernel_rfl!) (x:=.list ((List.range 8).map (wonR wn))) (by kernel_rfl!) (y:=.int (c:Nat)) (by kernel_rfl!) rfl (idx_row c hc)
  · rw [lw_h9]
    exact turn_test (b:=!(bs p)) (trC (m:=12) (op:=.NotIn) (x:=.str (letS p)) (y:=.list (letters bs)) (by kernel_rfl!) (by kernel_rfl!) (by kernel_rfl!) (notIn_letters _ hp)) (by kernel_rfl!)
end
end
section
theorem lw_r10:lvS 10=.Return (some (retX (lvS 10))) (retP (lvS 10)):=by kernel_rfl!
noncomputable def lv10 (i:Nat):PySem.Expr:=(bXs (retX (lvS 10))).getD i (.Constant .none 0 default)
theorem lw_x10:retX (lvS 10)=.BoolOp .And [cmpE .NotEq (lv10 0) (cmpL (lv10 0)) (cmpR (lv10 0)),cmpE .NotEq (lv10 1) (cmpL (lv10 1)) (cmpR (lv10 1))] (bP (retX (lvS 10))):=by kernel_rfl!
theorem ev_and2' {w:World} {ct:CT} {X:Extra} {m:Nat} {c:Cx} {x y:PySem.Expr} {p:Pos} {b:D} (hX:X (ops2 w ct X m) c (.BoolOp .And [x,y] p)=none) (h1:(ops2 w ct X m).ev c x=some (.bool true)) (h2:(ops2 w ct X m).ev c y=some b):(ops2 w ct X (m+1)).ev c (.BoolOp .And [x,y] p)=some b:=by
  refine ev_st rfl hX ?_
  show ((ops2 w ct X m).ev c x).bind _=_
  rw [h1]
  exact h2
theorem law_run {w:World} {F:Nat→List D→Option D} {sc dr:D} {q0 q1 q2:Row} {bs:Nat→Bool} {T:Nat→Nat→Str} {wn:Nat→Nat→Bool} (L:LawF F sc dr (boardD q0 q1 q2) bs T wn) (hT:∀ c p,c<8→p<3→PlayF (T c p) (97+p))
    (ho:(oddL bs wn (b2 q0.m 1+b2 q1.m 2+b2 q2.m 4)).isEmpty=false) (he:(evenL bs wn (b2 q0.m 1+b2 q1.m 2+b2 q2.m 4)).isEmpty=false):∃ g,exs2 (lwO w F 20) "" (lwnm w) 20 ⟨[(("script":Str),sc)],none⟩ (fdB (stm 74))=some (.ret (.bool true),g):=by
  rw [lw_parts]
  have e4:=lw_e4 (w:=w) (F:=F) (sc:=sc) (dr:=dr) (q0:=q0) (q1:=q1) (q2:=q2) (bs:=bs)
  generalize b2 q0.m 1+b2 q1.m 2+b2 q2.m 4=M at ho he e4
  have e0:=lw_e0 (w:=w) L
  have e1:=lw_e1 (w:=w) L
  have e2:=lw_e2 (w:=w) L
  have e3:=lw_e3 (w:=w) L
  have e5:=lw_e5 (w:=w) L M
  have e6:=lw_e6 (w:=w) L hT M
  have e7:=lw_e7 (w:=w) L hT M
  have e8:=lw_e8 w F sc dr q0 q1 q2 bs T wn M
  have e9:=lw_e9 w F sc dr q0 q1 q2 bs T wn M
  have a0:=s1_Asg (on:="") (nm:=lwnm w) (rec:=exs2 (lwO w F 20) "" (lwnm w) 19) (n:="draws") (p:=nmP (asgT (lvS 0))) (pos:=posS (lvS 0)) (g:=⟨[(("script":Str),sc)],none⟩) (by kernel_rfl!) (by kernel_rfl!) (ev2_of (g:=⟨[(("script":Str),sc)],none⟩) e0)
  have a1:=s1_Asg (on:="") (nm:=lwnm w) (rec:=exs2 (lwO w F 20) "" (lwnm w) 18) (n:="board") (p:=nmP (asgT (lvS 1))) (pos:=posS (lvS 1)) (g:=⟨lσ1 sc dr,none⟩) (by kernel_rfl!) (by kernel_rfl!) (ev2_of (g:=⟨lσ1 sc dr,none⟩) e1)
  have a2:=s1_If (on:="") (rec:=exs2 (lwO w F 20) "" (lwnm w) 17) (b:=ifB (lvS 2)) (e:=[]) (p:=ifP (lvS 2)) (tr2_of (on:="") (g:=⟨lσ2 sc dr (boardD q0 q1 q2),none⟩) e2)
  have a3:=s1_AsgLC (on:="") (nm:=lwnm w) (rec:=exs2 (lwO w F 20) "" (lwnm w) 16) (n:="best") (p:=nmP (asgT (lvS 3))) (pos:=posS (lvS 3)) (g:=⟨lσ2 sc dr (boardD q0 q1 q2),none⟩) (by kernel_rfl!) (by kernel_rfl!) e3
  have a4:=s1_Asg (on:="") (nm:=lwnm w) (rec:=exs2 (lwO w F 20) "" (lwnm w) 15) (n:="mask") (p:=nmP (asgT (lvS 4))) (pos:=posS (lvS 4)) (g:=⟨lσ3 sc dr (boardD q0 q1 q2) bs,none⟩) (by kernel_rfl!) (by kernel_rfl!) (ev2_of (g:=⟨lσ3 sc dr (boardD q0 q1 q2) bs,none⟩) e4)
  have a5:=s1_AsgLC (on:="") (nm:=lwnm w) (rec:=exs2 (lwO w F 20) "" (lwnm w) 14) (n:="plays") (p:=nmP (asgT (lvS 5))) (pos:=posS (lvS 5)) (g:=⟨lσ4 sc dr (boardD q0 q1 q2) bs M,none⟩) (by kernel_rfl!) (by kernel_rfl!) e5
  have a6:=s1_If (on:="") (rec:=exs2 (lwO w F 20) "" (lwnm w) 13) (b:=ifB (lvS 6)) (e:=[]) (p:=ifP (lvS 6)) (tr2_of (on:="") (g:=⟨lσ5 sc dr (boardD q0 q1 q2) bs M T,none⟩) e6)
  have a7:=s1_AsgLC (on:="") (nm:=lwnm w) (rec:=exs2 (lwO w F 20) "" (lwnm w) 12) (n:="won") (p:=nmP (asgT (lvS 7))) (pos:=posS (lvS 7)) (g:=⟨lσ5 sc dr (boardD q0 q1 q2) bs M T,none⟩) (by kernel_rfl!) (by kernel_rfl!) e7
  have a8:=s1_AsgLC (on:="") (nm:=lwnm w) (rec:=exs2 (lwO w F 20) "" (lwnm w) 11) (n:="odd") (p:=nmP (asgT (lvS 8))) (pos:=posS (lvS 8)) (g:=⟨lσ6 sc dr (boardD q0 q1 q2) bs M T wn,none⟩) (by kernel_rfl!) (by kernel_rfl!) e8
  have a9:=s1_AsgLC (on:="") (nm:=lwnm w) (rec:=exs2 (lwO w F 20) "" (lwnm w) 10) (n:="even") (p:=nmP (asgT (lvS 9))) (pos:=posS (lvS 9)) (g:=⟨lσ7 sc dr (boardD q0 q1 q2) bs M T wn,none⟩) (by kernel_rfl!) (by kernel_rfl!) e9
  rw [← lw_a0] at a0
  rw [← lw_a1] at a1
  rw [← lw_i2,if_neg (by simp)] at a2
  rw [← lw_a3] at a3
  rw [← lw_a4] at a4
  rw [← lw_a5] at a5
  rw [← lw_i6,if_neg (by simp)] at a6
  rw [← lw_a7] at a7
  rw [← lw_a8] at a8
  rw [← lw_a9] at a9
  have er:(lwO w F 20).ev ⟨lwnm w,(("even":Str),.list (evenL bs wn M))::lσ7 sc dr (boardD q0 q1 q2) bs M T wn⟩ (retX (lvS 10))=some (.bool true):=by
    rw [lw_x10]
    have c1:(lwO w F 19).ev ⟨lwnm w,(("even":Str),.list (evenL bs wn M))::lσ7 sc dr (boardD q0 q1 q2) bs M T wn⟩ (cmpE .NotEq (lv10 0) (cmpL (lv10 0)) (cmpR (lv10 0)))=some (.bool true):=by
      refine (ev_Cmp (m:=18) (op:=.NotEq) (x:=.list (oddL bs wn M)) (y:=.list []) rfl (by kernel_rfl!) (by kernel_rfl!) (by kernel_rfl!)).trans ?_
      rw [ne_nil,ho];rfl
    have c2:(lwO w F 19).ev ⟨lwnm w,(("even":Str),.list (evenL bs wn M))::lσ7 sc dr (boardD q0 q1 q2) bs M T wn⟩ (cmpE .NotEq (lv10 1) (cmpL (lv10 1)) (cmpR (lv10 1)))=some (.bool true):=by
      refine (ev_Cmp (m:=18) (op:=.NotEq) (x:=.list (evenL bs wn M)) (y:=.list []) rfl (by kernel_rfl!) (by kernel_rfl!) (by kernel_rfl!)).trans ?_
      rw [ne_nil,he];rfl
    exact ev_and2' rfl c1 c2
  have ar:=s1_Ret (on:="") (nm:=lwnm w) (rec:=exs2 (lwO w F 20) "" (lwnm w) 9) (pos:=retP (lvS 10)) (g:=⟨(("even":Str),.list (evenL bs wn M))::lσ7 sc dr (boardD q0 q1 q2) bs M T wn,none⟩) (ev2_of (g:=⟨(("even":Str),.list (evenL bs wn M))::lσ7 sc dr (boardD q0 q1 q2) bs M T wn,none⟩) er)
  rw [← lw_r10] at ar
  rw [x2_next (k:=19) (by kernel_rfl!) (by kernel_rfl!) a0,x2_next (k:=18) (by kernel_rfl!) (by kernel_rfl!) a1,x2_next (k:=17) (by kernel_rfl!) (by kernel_rfl!) (a2.trans rfl),x2_next (k:=16) (by kernel_rfl!) (by kernel_rfl!) a3,x2_next (k:=15) (by kernel_rfl!) (by kernel_rfl!) a4,x2_next (k:=14) (by kernel_rfl!) (by kernel_rfl!) a5,x2_next (k:=13) (by kernel_rfl!) (by kernel_rfl!) (a6.trans rfl),x2_next (k:=12) (by kernel_rfl!) (by kernel_rfl!) a7,x2_next (k:=11) (by kernel_rfl!) (by kernel_rfl!) a8,x2_next (k:=10) (by kernel_rfl!) (by kernel_rfl!) a9]
  exact ⟨_,x2_ret (k:=9) (by kernel_rfl!) (by kernel_rfl!) ar⟩
theorem flat_empty {f:Nat→Bool} {g:Nat→D}:∀ l:List Nat,(l.flatMap fun c=>if f c then [g c] else []).isEmpty=!(l.any f)
  | []=>rfl
  | a::l=>by
    rw [List.flatMap_cons,List.any_cons]
    cases h:f a with
    | true=>simp
    | false =>
      have:=flat_empty (f:=f) (g:=g) l
      simpa using this
theorem tabA:∀ x M,x<8→M<8→(∀ p,p<3→Nat.testBit x p=true→Nat.testBit M p=true)→(bI (x:Nat) (nI (M:Nat))==0)=true:=by
  have h:((List.range 8).all fun x=>(List.range 8).all fun M=>!((List.range 3).all fun p=>!(Nat.testBit x p)||Nat.testBit M p)||(bI (x:Nat) (nI (M:Nat))==0))=true:=by kernel_rfl!
  intro x M hx hM hp
  have h1:=List.all_eq_true.1 (List.all_eq_true.1 h x (List.mem_range.2 hx)) M (List.mem_range.2 hM)
  have h2:((List.range 3).all fun p=>!(Nat.testBit x p)||Nat.testBit M p)=true:=List.all_eq_true.2 fun p hpm=>by
    have:=hp p (List.mem_range.1 hpm)
    cases hb:Nat.testBit x p with
    | false=>rfl
    | true=>rw [this hb];rfl
  rw [h2] at h1
  exact h1
theorem tabC:∀ x M,x<8→M<8→(∀ p,p<3→Nat.testBit x p=true→Nat.testBit M p=false)→(bI (x:Nat) (M:Nat)==0)=true:=by
  have h:((List.range 8).all fun x=>(List.range 8).all fun M=>!((List.range 3).all fun p=>!(Nat.testBit x p)||!(Nat.testBit M p))||(bI (x:Nat) (M:Nat)==0))=true:=by kernel_rfl!
  intro x M hx hM hp
  have h1:=List.all_eq_true.1 (List.all_eq_true.1 h x (List.mem_range.2 hx)) M (List.mem_range.2 hM)
  have h2:((List.range 3).all fun p=>!(Nat.testBit x p)||!(Nat.testBit M p))=true:=List.all_eq_true.2 fun p hpm=>by
    have:=hp p (List.mem_range.1 hpm)
    cases hb:Nat.testBit x p with
    | false=>rfl
    | true=>rw [this hb];rfl
  rw [h2] at h1
  exact h1
theorem tabB:∀ c M x,c<8→M<8→x<8→(bI (c:Nat) (M:Nat)==((x:Nat):Int))=true→∀ p,p<3→Nat.testBit x p=(Nat.testBit c p&&Nat.testBit M p):=by
  have h:((List.range 8).all fun c=>(List.range 8).all fun M=>(List.range 8).all fun x=>!(bI (c:Nat) (M:Nat)==((x:Nat):Int))||(List.range 3).all fun p=>Nat.testBit x p==(Nat.testBit c p&&Nat.testBit M p))=true:=by kernel_rfl!
  intro c M x hc hM hx e p hp
  have h1:=List.all_eq_true.1 (List.all_eq_true.1 (List.all_eq_true.1 h c (List.mem_range.2 hc)) M (List.mem_range.2 hM)) x (List.mem_range.2 hx)
  rw [e,Bool.not_true,Bool.false_or] at h1
  exact eq_of_beq (List.all_eq_true.1 h1 p (List.mem_range.2 hp))
theorem tabD:∀ c M x,c<8→M<8→x<8→(bI (c:Nat) (nI (M:Nat))==((x:Nat):Int))=true→∀ p,p<3→Nat.testBit x p=(Nat.testBit c p&&!(Nat.testBit M p)):=by
  have h:((List.range 8).all fun c=>(List.range 8).all fun M=>(List.range 8).all fun x=>!(bI (c:Nat) (nI (M:Nat))==((x:Nat):Int))||(List.range 3).all fun p=>Nat.testBit x p==(Nat.testBit c p&&!(Nat.testBit M p)))=true:=by kernel_rfl!
  intro c M x hc hM hx e p hp
  have h1:=List.all_eq_true.1 (List.all_eq_true.1 (List.all_eq_true.1 h c (List.mem_range.2 hc)) M (List.mem_range.2 hM)) x (List.mem_range.2 hx)
  rw [e,Bool.not_true,Bool.false_or] at h1
  exact eq_of_beq (List.all_eq_true.1 h1 p (List.mem_range.2 hp))
theorem mask_bit (r0 r1 r2:Row):∀ p,p<3→Nat.testBit (b2 r0.m 1+b2 r1.m 2+b2 r2.m 4) p=(gm r0 r1 r2).own p:=fun p hp=>by
  rcases lt3 hp with rfl|rfl|rfl
  · show _=r0.m
    cases r0.m<;>cases r1.m<;>cases r2.m<;>decide
  · show _=r1.m
    cases r0.m<;>cases r1.m<;>cases r2.m<;>decide
  · show _=r2.m
    cases r0.m<;>cases r1.m<;>cases r2.m<;>decide
theorem mask_lt (r0 r1 r2:Row):b2 r0.m 1+b2 r1.m 2+b2 r2.m 4<8:=by
  cases r0.m<;>cases r1.m<;>cases r2.m<;>decide
theorem sides {r0 r1 r2:Row} (H0:RowOk r0) (H1:RowOk r1) (H2:RowOk r2):(oddL (bestB (gm r0 r1 r2)) (wonB (gm r0 r1 r2)) (b2 r0.m 1+b2 r1.m 2+b2 r2.m 4)).isEmpty=false∧(evenL (bestB (gm r0 r1 r2)) (wonB (gm r0 r1 r2)) (b2 r0.m 1+b2 r1.m 2+b2 r2.m 4)).isEmpty=false:=by
  have hR:∀ p,RowOk (rowAtP r0 r1 r2 p):=fun p=>by unfold rowAtP;split<;>assumption
  have G:GmOk (gm r0 r1 r2):=⟨fun p e=>by
    show (if e then (rowAtP r0 r1 r2 p).b else (rowAtP r0 r1 r2 p).a)<3
    split
    · exact (hR p).b
    · exact (hR p).a⟩
  obtain ⟨⟨x,hx,hxo,hxc⟩,⟨y,hy,hyo,hyc⟩⟩:=no_memory G (a:=7+r0.s) (b:=7+r1.s) (c:=7+r2.s) rfl
  have mb:=mask_bit r0 r1 r2
  have ml:=mask_lt r0 r1 r2
  generalize b2 r0.m 1+b2 r1.m 2+b2 r2.m 4=M at mb ml
  have empty:∀ S:Nat→Bool,(∀ p,p<3→S p=false)→(letters S).isEmpty=true:=fun S h=>by
    rw [letters_empty,h 0 (by decide),h 1 (by decide),h 2 (by decide)];rfl
  constructor
  · unfold oddL
    rw [flat_empty]
    have:((List.range 8).any fun x=>(bI (x:Nat) (nI (M:Nat))==0)&&(cho8 (bestB (gm r0 r1 r2)) (wonB (gm r0 r1 r2)) M x).isEmpty)=true:=by
      refine List.any_eq_true.2 ⟨x,List.mem_range.2 hx,?_⟩
      rw [tabA x M hx ml fun p hp hb=>by rw [mb p hp];exact hxo p hp hb,Bool.true_and]
      unfold cho8
      rw [flat_empty,Bool.not_eq_true']
      refine List.any_eq_false.2 fun c hc=>?_
      have hc:=List.mem_range.1 hc
      cases hcm:(bI (c:Nat) (M:Nat)==((x:Nat):Int)) with
      | false=>simp
      | true =>
        have hb:=tabB c M x hc ml hx hcm
        have won:=hxc c hc fun p hp=>by rw [hb p hp,mb p hp]
        rw [empty _ fun p hp=>by
          cases h:bestB (gm r0 r1 r2) p with
          | false=>rfl
          | true=>rw [won p hp h];rfl]
        simp
    rw [this];rfl
  · unfold evenL
    rw [flat_empty]
    have:((List.range 8).any fun x=>(bI (x:Nat) (M:Nat)==0)&&(cho9 (bestB (gm r0 r1 r2)) (wonB (gm r0 r1 r2)) M x).isEmpty)=true:=by
      refine List.any_eq_true.2 ⟨y,List.mem_range.2 hy,?_⟩
      rw [tabC y M hy ml fun p hp hb=>by rw [mb p hp];exact hyo p hp hb,Bool.true_and]
      unfold cho9
      rw [flat_empty,Bool.not_eq_true']
      refine List.any_eq_false.2 fun c hc=>?_
      have hc:=List.mem_range.1 hc
      cases hcm:(bI (c:Nat) (nI (M:Nat))==((y:Nat):Int)) with
      | false=>simp
      | true =>
        have hb:=tabD c M y hc ml hy hcm
        have won:=hyc c hc fun p hp=>by rw [hb p hp,mb p hp]
        rw [empty _ fun p hp=>by
          cases h:wonB (gm r0 r1 r2) c p with
          | false=>rfl
          | true=>rw [won p hp h];rfl]
        simp
    rw [this];rfl
end
section
noncomputable def Good (sc dr B:D) (bs:Nat→Bool) (T:Nat→Nat→Str) (wn:Nat→Nat→Bool) (k:Nat) (ds:List D) (d:D):Prop :=
  if k=243 then ds=[sc]∧d=dr else if k=269 then ds=[dr]∧d=B else if k=274 then ds=[dr]∧d=B else if k=296 then ∃ p,p<3∧ds=[dr,.pl [.int (p:Nat)]]∧d=.bool (bs p) else
    if k=281 then ∃ c p,c<8∧p<3∧ds=[B,.int (c:Nat),.str (letS p)]∧d=.str (T c p) else if k=286 then ∃ p,p<3∧ds=[.str (T 0 p)]∧d=.bool true else if k=291 then ∃ c p,c<8∧p<3∧ds=[B,.str (T c p)]∧d=.bool (wn c p) else False
theorem ite_1 {c:Prop} [Decidable c] {P Q G:Prop} (h:if c then P else Q) (p:c→P→G) (q:Q→G):G:=by
  by_cases hc:c
  · exact p hc (Eq.mp (if_pos hc) h)
  · exact q (Eq.mp (if_neg hc) h)
theorem ite_2 {c:Prop} [Decidable c] {P Q P' Q' G:Prop} (h:if c then P else Q) (h':if c then P' else Q') (p:P→P'→G) (q:Q→Q'→G):G:=by
  by_cases hc:c
  · exact p (Eq.mp (if_pos hc) h) (Eq.mp (if_pos hc) h')
  · exact q (Eq.mp (if_neg hc) h) (Eq.mp (if_neg hc) h')
theorem letS_inj {p q:Nat} (h:letS p=letS q):p=q:=by
  unfold letS at h
  injection h with h
  simpa using h
noncomputable def exI:List D→Int
  | [_,.pl [.int i]]=>i
  | [_,.int i,_]=>i
  | _=>0
noncomputable def exS:List D→Str
  | [_,_,.str s]=>s
  | [_,.str s]=>s
  | _=>⟨#[]⟩
theorem good_det {sc dr B:D} {bs:Nat→Bool} {T:Nat→Nat→Str} {wn:Nat→Nat→Bool} (hw:∀ c p c' p',c<8→p<3→c'<8→p'<3→T c p=T c' p'→wn c p=wn c' p') {k:Nat} {ds:List D} {d d':D} (h:Good sc dr B bs T wn k ds d) (h':Good sc dr B bs T wn k ds d'):d=d':=by
  unfold Good at h h'
  refine ite_2 h h' (fun h h'=>h.2.trans h'.2.symm) fun h h'=>ite_2 h h' (fun h h'=>h.2.trans h'.2.symm) fun h h'=>ite_2 h h' (fun h h'=>h.2.trans h'.2.symm) fun h h'=>ite_2 h h' (fun h h'=>?_) fun h h'=>ite_2 h h' (fun h h'=>?_) fun h h'=>ite_2 h h' (fun h h'=>?_) fun h h'=>ite_2 h h' (fun h h'=>?_) fun h _=>h.elim
  · exact el13 h fun p hp e1 e=>el13 h' fun p' hp' f1 f=>e.trans (by rw [f,Int.ofNat.inj (congrArg exI (e1.symm.trans f1))])
  · exact el24 h fun c p hc hp e1 e=>el24 h' fun c' p' hc' hp' f1 f=>e.trans (by rw [f,Int.ofNat.inj (congrArg exI (e1.symm.trans f1)),letS_inj (congrArg exS (e1.symm.trans f1))])
  · exact el13 h fun p hp e1 e=>el13 h' fun p' hp' f1 f=>e.trans f.symm
  · exact el24 h fun c p hc hp e1 e=>el24 h' fun c' p' hc' hp' f1 f=>e.trans (by rw [f,hw c p c' p' hc hp hc' hp' (congrArg exS (e1.symm.trans f1))])
open Classical in
noncomputable def lawFn (sc dr B:D) (bs:Nat→Bool) (T:Nat→Nat→Str) (wn:Nat→Nat→Bool) (k:Nat) (ds:List D):Option D:=if h:∃ d,Good sc dr B bs T wn k ds d then some h.choose else none
theorem lawFn_is {sc dr B:D} {bs:Nat→Bool} {T:Nat→Nat→Str} {wn:Nat→Nat→Bool} (hw:∀ c p c' p',c<8→p<3→c'<8→p'<3→T c p=T c' p'→wn c p=wn c' p') {k:Nat} {ds:List D} {d:D} (h:Good sc dr B bs T wn k ds d):lawFn sc dr B bs T wn k ds=some d:=by
  unfold lawFn
  rw [dif_pos ⟨d,h⟩]
  exact congrArg some (good_det hw (Exists.choose_spec ⟨d,h⟩) h)
theorem lawFn_good {sc dr B:D} {bs:Nat→Bool} {T:Nat→Nat→Str} {wn:Nat→Nat→Bool} {k:Nat} {ds:List D} {d:D} (h:lawFn sc dr B bs T wn k ds=some d):Good sc dr B bs T wn k ds d:=by
  unfold lawFn at h
  split at h
  · rename_i hh
    cases h
    exact hh.choose_spec
  · exact nope h
theorem rowOf_ok {r:Res} (h:ResOk r):RowOk (rowOf r):=⟨h.a,h.b,h.s⟩
theorem first_letter {nxt sg nxt' sg':Nat→Nat} {p p':Nat} (h:playP nxt sg p=playP nxt' sg' p'):p=p':=by
  have f:∀ (nxt sg:Nat→Nat) (p:Nat),(playP nxt sg p).cps[0]?=some (97+p):=fun nxt sg p=>by
    unfold playP
    split
    · rfl
    · split<;>rfl
  have h1:=f nxt sg p
  rw [h,f nxt' sg' p'] at h1
  injection h1 with h1
  lia
theorem lawF_of {sc dr B:D} {bs:Nat→Bool} {T:Nat→Nat→Str} {wn:Nat→Nat→Bool} (hw:∀ c p c' p',c<8→p<3→c'<8→p'<3→T c p=T c' p'→wn c p=wn c' p'):LawF (lawFn sc dr B bs T wn) sc dr B bs T wn :=
  ⟨lawFn_is hw (k:=243) ⟨rfl,rfl⟩,lawFn_is hw (k:=269) ⟨rfl,rfl⟩,lawFn_is hw (k:=274) ⟨rfl,rfl⟩,fun p hp=>lawFn_is hw (k:=296) ⟨p,hp,rfl,rfl⟩,fun ch p hc hp=>lawFn_is hw (k:=281) ⟨ch,p,hc,hp,rfl,rfl⟩,fun p hp=>lawFn_is hw (k:=286) ⟨p,hp,rfl,rfl⟩,fun ch p hc hp=>lawFn_is hw (k:=291) ⟨ch,p,hc,hp,rfl,rfl⟩⟩
theorem law_of {w:World} {n:Nat} {sc dr:D} {q0 q1 q2:Row} {bs:Nat→Bool} {T:Nat→Nat→Str} {wn:Nat→Nat→Bool} (hw:∀ c p c' p',c<8→p<3→c'<8→p'<3→T c p=T c' p'→wn c p=wn c' p') (hT:∀ c p,c<8→p<3→PlayF (T c p) (97+p))
    (ho:(oddL bs wn (b2 q0.m 1+b2 q1.m 2+b2 q2.m 4)).isEmpty=false) (he:(evenL bs wn (b2 q0.m 1+b2 q1.m 2+b2 q2.m 4)).isEmpty=false)
    (c1:Contract w n (.ref 243) [sc] dr) (c2:Contract w n (.ref 269) [dr] (boardD q0 q1 q2)) (c3:Contract w n (.ref 274) [dr] (boardD q0 q1 q2)) (c4:∀ p,p<3→Contract w n (.ref 296) [dr,.pl [.int (p:Nat)]] (.bool (bs p)))
    (c5:∀ c p,c<8→p<3→Contract w n (.ref 281) [boardD q0 q1 q2,.int (c:Nat),.str (letS p)] (.str (T c p))) (c6:∀ p,p<3→Contract w n (.ref 286) [.str (T 0 p)] (.bool true)) (c7:∀ c p,c<8→p<3→Contract w n (.ref 291) [boardD q0 q1 q2,.str (T c p)] (.bool (wn c p))) :
    Contract w (n+1) (.ref 301) [sc] (.bool true):=by
  refine Exists.elim (law_run (w:=w) (lawF_of (sc:=sc) (dr:=dr) hw) hT ho he) fun g e=>?_
  refine def_ok3 (ct:=ctL (lawFn sc dr (boardD q0 q1 q2) bs T wn)) (X:=lwX) (m:=20) (k:=20) "" (defr_law w) (fun f ds d h=>?_) (fun A R=>sound_orX sound_plX (sound_lenX R.h)) rfl e
  unfold ctL at h
  cases f with
  | ref k =>
    have h:=lawFn_good h
    unfold Good at h
    refine ite_1 h (fun e h=>?_) fun h=>ite_1 h (fun e h=>?_) fun h=>ite_1 h (fun e h=>?_) fun h=>ite_1 h (fun e h=>?_) fun h=>ite_1 h (fun e h=>?_) fun h=>ite_1 h (fun e h=>?_) fun h=>ite_1 h (fun e h=>?_) False.elim
    · rw [e,h.1,h.2];exact c1
    · rw [e,h.1,h.2];exact c2
    · rw [e,h.1,h.2];exact c3
    · exact el13 h fun p hp e1 e2=>by rw [e,e1,e2];exact c4 p hp
    · exact el24 h fun c p hc hp e1 e2=>by rw [e,e1,e2];exact c5 c p hc hp
    · exact el13 h fun p hp e1 e2=>by rw [e,e1,e2];exact c6 p hp
    · exact el24 h fun c p hc hp e1 e2=>by rw [e,e1,e2];exact c7 c p hc hp
  | _=>exact nope h
theorem law_ok (w:World) (n:Nat) (l:List Int) (hl:l.length≤63):Contract w (n+5) (.ref 301) [.list (l.map D.int)] (.bool true):=by
  refine el31 (draws_num w (n+3) l hl) fun a b c hd=>?_
  have H0:=resI_ok a
  have H1:=resI_ok b
  have H2:=resI_ok c
  have G0:=rowOf_ok H0
  have G1:=rowOf_ok H1
  have G2:=rowOf_ok H2
  have hR:∀ p,RowOk (rowAtP (rowOf (resI a)) (rowOf (resI b)) (rowOf (resI c)) p):=fun p=>by unfold rowAtP;split<;>assumption
  have oe:=sides G0 G1 G2
  refine law_of (fun ch p ch' p' _ _ _ _ e=>?_) (fun ch p _ hp=>play_form (fun q=>nx_lt (hR q) ch q) hp) oe.1 oe.2 hd (board_ok H0 H1 H2 w a b c n) (due_ok w a b c H0 H1 H2 (n+2)) (fun p hp=>past_ok w a b c n H0 H1 H2 hp) (fun ch p hc hp=>play_ok w (n+2) G0 G1 G2 hc hp) (fun p hp=>told_play (fun q=>nx_lt (hR q) 0 q) (fun q=>sgc_ok _) w (n+2) hp) fun ch p hc hp=>odd_play w (n+2) G0 G1 G2 hc hp
  have hp:=first_letter e
  subst hp
  exact play_walk (oddC (gm (rowOf (resI a)) (rowOf (resI b)) (rowOf (resI c))).num) e
end
section
theorem ns_same {h:Heap} {a:Addr} {m m':Str→Option Value} (x:h.Ns a m) (y:h.Ns a m') (n:Str):m n=m' n:=by
  refine el34 x fun o es ep g d _ e=>?_
  refine el34 y fun o' es' ep' g' d' _ e'=>?_
  rw [g] at g';cases g'
  rw [d] at d';cases d'
  rw [← e n,← e' n]
theorem ints_of {R:WRecords} {xs:List WData}:WShape.hasItems R xs .int=true→∃ ns:List Int,xs=ns.map WData.int:=by
  induction xs with
  | nil=>exact fun _=>⟨[],rfl⟩
  | cons x xs ih =>
    intro h
    have h2:=Bool.and_eq_true_iff.1 (show (WShape.has R x .int&&WShape.hasItems R xs .int)=true from h)
    have hx:∃ i,x=.int i:=by
      have h1:=h2.1
      clear h h2 ih
      cases x<;>first|exact ⟨_,rfl⟩|exact (Bool.false_ne_true h1).elim
    exact hx.elim fun i hx=>(ih h2.2).elim fun ns hn=>⟨i::ns,by rw [hx,hn];rfl⟩
section
variable {R:WRecords} {cl:Str→Option Addr} {h:Heap}
theorem reads_cons {vs:List Value} {x:WData} {xs:List WData} {as:List Addr} (r:ReadsAllW R cl h vs (x::xs) as):∃ v bs vs' cs,vs=v::vs'∧ReadsW R cl h v x bs∧ReadsAllW R cl h vs' xs cs:=by
  cases r with
  | cons r1 r2=>exact ⟨_,_,_,_,rfl,r1,r2⟩
theorem reads_nil {vs:List Value} {as:List Addr} (r:ReadsAllW R cl h vs [] as):vs=[]:=by cases r;rfl
theorem reads_int {v:Value} {n:Int} {as:List Addr} (r:ReadsW R cl h v (.int n) as):∃ t,v=.int n t:=by
  cases r with
  | int i t=>exact ⟨t,rfl⟩
theorem reps_of {ns:List Int}:∀ {vs:List Value} {as:List Addr},ReadsAllW R cl h vs (ns.map WData.int) as→reps h [] (ns.map D.int) vs:=by
  induction ns with
  | nil=>intro vs as r;simp only [List.map_nil,reps];exact reads_nil r
  | cons n ns ih =>
    intro vs as r
    refine Exists.elim (reads_cons r) fun v x=>el33 x fun bs vs' cs e r1 r2=>Exists.elim (reads_int r1) fun t et=>?_
    rw [e,et]
    simp only [List.map_cons,reps,rep]
    exact ⟨_,_,rfl,⟨t,rfl⟩,ih r2⟩
theorem reads_list {v:Value} {ns:List Int} {bs:List Addr} (hr:ReadsW R cl h v (.list (ns.map WData.int)) bs):rep h [] (.list (ns.map D.int)) v:=by
  cases hr with
  | list g c d r =>
    rename_i a' o' vs' n' as'
    simp only [rep]
    exact ⟨_,vs'.toList,rfl,by simp,⟨o',g,c,n',by simpa using d⟩,reps_of r⟩
end
theorem one_list {args:List WData} (h:WShape.hasAll [] args [.list .int]=true):∃ ns:List Int,args=[.list (ns.map WData.int)]:=by
  cases args with
  | nil=>exact (Bool.false_ne_true h).elim
  | cons d r=>cases r with
    | cons e r=>exact (Bool.false_ne_true ((Bool.and_false _).symm.trans (show (WShape.has [] d (.list .int)&&false)=true from h))).elim
    | nil =>
      have h:WShape.has [] d (.list .int)=true:=(Bool.and_true _).symm.trans (show (WShape.has [] d (.list .int)&&true)=true from h)
      have hd:∃ xs,d=.list xs:=by cases d<;>first|exact (Bool.false_ne_true h).elim|exact ⟨_,rfl⟩
      refine hd.elim fun xs e=>?_
      rw [e] at h ⊢
      exact (ints_of (R:=[]) (xs:=xs) ((Bool.or_false _).symm.trans (show (WShape.hasItems [] xs .int||false)=true from h))).elim fun ns e=>⟨ns,by rw [e]⟩
theorem len_63 {ns:List Int} (hp:lrow.pre.holds [] { args:=[WData.list (ns.map WData.int)] }=true):ns.length≤63:=by
  have v0:(WTm.arg 0).value [] { args:=[WData.list (ns.map WData.int)] }=some (.list (ns.map WData.int)):=rfl
  have v1:lrow.pre.value [] { args:=[WData.list (ns.map WData.int)] }=some (.bool (!(decide ((63:Int)<(ns.map WData.int).length))&&true)):=w_and (w_not (w_lt rfl (w_len_list v0))) rfl
  have hp:(match lrow.pre.value [] { args:=[WData.list (ns.map WData.int)] } with|some (.bool true)=>true|_=>false)=true:=hp
  rw [v1] at hp
  by_cases hc:(63:Int)<(ns.map WData.int).length
  · rw [decide_eq_true hc] at hp;cases hp
  · rw [List.length_map] at hc;exact Nat.le_of_not_lt fun l=>hc (Int.ofNat_lt.2 l)
theorem walkLaw:WalkO qv lz (fun _ _=>True) YP lrow.toRowW dLaw [] fun f vs=>PySem.call f vs:=by
  intro w s₀ s₁ mg mb G Y a o pm cd doc dV kV ho hd hcd hdf hmg hgens args vals as hpre hlay hreads hwell hnot
  have ha:a=301:=Value.ref.inj (Option.some.inj (hmg.symm.trans ((ns_same G.T.g (nsMain Y) "law").trans (by kernel_rfl!))))
  have hq:=Bool.and_eq_true_iff.1 (show (WShape.hasAll [] args [.list .int]&&lrow.pre.holds [] { args:=args })=true from hpre)
  refine Exists.elim (one_list hq.1) fun ns hn=>?_
  have hlen:=len_63 (hn▸hq.2)
  rw [hn] at hreads
  refine Exists.elim (reads_cons hreads) fun v x=>el33 x fun bs vs' cs e r1 r2=>?_
  rw [e,reads_nil r2,ha,hn]
  refine law_ok w 0 ns hlen callerA ⟨rfl,by decide +kernel,by decide +kernel⟩ s₁ [] [v] Y (fun a m=>nomatch m) (by simp only [reps];exact ⟨_,_,rfl,reads_list r1,rfl⟩) _ _ fun u s' k ru=>?_
  simp only [rep] at ru
  rw [ru]
  refine el22 k fun h' tk q2q hk=>?_
  rw [q2q]
  exact ⟨.inl ⟨.bool true,.bool true,[],rfl,fun cls=>rfl,.bool true,by kernel_rfl!,fun _=>⟨by simp,fun a m=>nomatch m⟩⟩,.of_keep hk,rfl,AllBare.of_eq hgens⟩
end
end Mine
end
set_option maxRecDepth 100000 in
theorem PySem.Challenge.cw_sn0101_01_holds : PySem.Challenge.rw_sn0101_01.Holds :=
  Mine.headAll Mine.walkLaw
