import PyProof.Rows.All
import Wide.All
import OpenK.KLine
import OpenK.KMake
import OpenK.KMore
import OpenK.KGet
import OpenK.KWalk
import OpenK.Peek
import OpenK.KCall
import OpenK.KCls
import OpenK.KDescr
import KE.IntText
import KE.KIntText
import KE.KMinBuiltin
import KE.KRevSl
import KE.KSortAsk
import KE.KStopIter
import KE.KTypeOf
import KE.KUnpack
import Wide.FinOn
import Lean
import PySem.Challenge.RW_aa0062_01
set_option maxRecDepth 100000
set_option maxHeartbeats 4000000
set_option linter.all false
set_option genSizeOf false
set_option Elab.async false
namespace Mine.Tactic
section
open PySem PySem.Calls PyProof.Rows PySem.W
abbrev LA:=List Addr
abbrev VP:=Value->Shared->Prop
def zpw:=@List.mem_append_right
def zpx:=@List.mem_cons_of_mem
def zpy:=@List.mem_singleton
def zpz:=@List.mem_cons
def zpB:=@Nat.le_refl
def zpC:=@List.mem_append_left
def zpD:=@Heap.get?_push_of_some
def zpE:=@List.mem_append
def zpF:=@Nat.le_trans
def zpG:=@Heap.get?_push_size
def zpH:=@beq_eq_false_iff_ne
def zpI:=@Heap.lt_size
def zpJ:=@List.getElem?_eq_some_iff
def zpK:=@Heap.get?_none_of_le
def zpM:=@Nat.lt_of_lt_of_le
def zpN:=@List.getElem?_eq_getElem
def zpO:=@Nat.not_lt
def zpP:=@List.mem_cons_self
def zpQ:=@wpAny_bind
def zpR:=@wpAny_pure
def zpS:=@wpAny_holding
def zpT:=@wpAny_execs_cons
def zpU:=@Heap.get?_update_self
def zpV:=@Around.under_plainId
def zpW:=@Heap.SameBut.update
def zpX:=@Nat.ne_of_lt
def zpY:=@Nat.lt_succ_self
def zpZ:=@Nat.lt_irrefl
def zp0:=@Nat.lt_succ_of_lt
def zp1:=@Heap.get?_update_other
def zp2:=@Around.frames_deeper
def zp3:=@codeAny_builtin
def zp4:=@wpAny_Call_NameR
def zp5:=@List.mem_filterMap
def zp6:=@Option.isSome_iff_exists
def zp7:=@List.drop_eq_getElem_cons
def zp8:=@wpAny_newObj_type
def zp9:=@wpAny_mono
def zqa:=@List.mem_map
def zqb:=@List.all_eq_true
def zqc:=@Bool.and_eq_true_iff
def zqd:=@List.mem_of_getElem?
def zqe:=@List.mem_range
def zqf:=@Nat.lt_of_le_of_lt
def zqg:=@List.mem_filter
def zqh:=@List.count_eq_zero
def zqi:=@List.count_pos_iff
def zqj:=@of_decide_eq_true
def zqk:=@decide_eq_true
def zql:=@decide_eq_false
def zqm:=@List.mem_flatMap
def zqn:=@List.length_map
def zqo:=@Nat.add_le_add_left
def zqp:=@List.size_toArray
def zqq:=@List.length_append
def zqr:=@Option.some.inj
def zqs:=@Nat.add_le_add_right
def zqt:=@Nat.le_of_lt
def zqu:=@Nat.le_add_right
def zqv:=@List.count_cons_of_ne
def zqw:=@Heap.size_push
def zqx:=@Nat.succ_le_succ
def zqy:=@Nat.zero_le
def zqz:=@Nat.le_succ
def zqA:=@List.count_cons_self
def zqB:=@List.flatMap_append
def zqC:=@List.map_append
def zqD:=@isSubtype_type
def zqE:=@Nat.le_of_succ_le
def zqF:=@Nat.le_of_eq
def zqG:=@beq_self_eq_true
def zqH:=@Nat.ne_of_gt
def zqI:=@wpAny_standAt
def zqJ:=@plainId_quiet
def zqK:=@Nat.le_of_not_lt
def zqL:=@List.count_append
def zqM:=@Nat.add_le_add
def zqN:=@Nat.mul_le_mul_left
def zqO:=@wpAny_assign_Name
def zqP:=@List.mem_singleton
def zqR:=@Bool.eq_false_iff
def zqS:=@List.getElem?_map
def zqU:=@Nat.lt_trans
def zqV:=@Nat.ne_of_lt
def zqW:=@Nat.add_sub_cancel'
def zqX:=@Nat.le_of_ble_eq_true
def zqY:=@wpAny_call
def zqZ:=@wpAny_Call_NameR
def zq4:=@List.length_cons
def zq7:=@wpAny_callSpecial?_slot
def zq8:=@wpAny_call_entry
def zq9:=@wpAny_load
@[elab_as_elim] theorem rwE {c:Sort u}{a b:c}(h:a=b){motive:c->Prop}(x:motive b):motive a:=by cases h;exact x
@[elab_as_elim] theorem rwB {c:Sort u}{a b:c}(h:a=b){motive:c->Prop}(x:motive a):motive b:=by cases h;exact x
theorem mem1 {b:Type u}{a:b}{l:List b}:a∈a::l:=.head _
theorem mem2 {c:Type u}{a b:c}{l:List c}:a∈b::a::l:=.tail _ (.head _)
theorem mem3 {d:Type u}{a b c:d}{l:List d}:a∈b::c::a::l:=.tail _ (.tail _ (.head _))
theorem mem4 {e:Type u}{a b c d:e}{l:List e}:a∈b::c::d::a::l:=.tail _ (.tail _ (.tail _ (.head _)))
theorem memC {c:Type u}{a b:c}{l:List c}(h:a∈b::l):b=a\/a∈l:=(zpz.mp h).imp_left Eq.symm
@[elab_as_elim] theorem memK {c:Type u}{a b:c}{l:List c}{G:c->Prop}(h:a∈b::l) (k1:G b) (k2:a∈l->G a):G a:=(memC h).elim (λe=>e▸k1) k2
theorem ex2X {c:Sort u0}{d:Sort u1}{p:c->d->Prop}{G:Prop}(h:∃a b,p a b) (k:∀a b,p a b->G):G:=h.elim λa h=>h.elim λb h=>k a b h
theorem ex3X {d:Sort u0}{e:Sort u1}{f:Sort u2}{p:d->e->f->Prop}{G:Prop}(h:∃a b c,p a b c) (k:∀a b c,p a b c->G):G:=h.elim λa h=>h.elim λb h=>h.elim λc h=>k a b c h
theorem ex4X {e:Sort u0}{f:Sort u1}{g:Sort u2}{i:Sort u3}{p:e->f->g->i->Prop}{G:Prop}(h:∃a b c d,p a b c d) (k:∀a b c d,p a b c d->G):G:=h.elim λa h=>h.elim λb h=>h.elim λc h=>h.elim λd h=>k a b c d h
theorem ex5X {f:Sort u0}{g:Sort u1}{i:Sort u2}{j:Sort u3}{l:Sort u4}{p:f->g->i->j->l->Prop}{G:Prop}(h:∃a b c d e,p a b c d e) (k:∀a b c d e,p a b c d e->G):G:=h.elim λa h=>h.elim λb h=>h.elim λc h=>h.elim λd h=>h.elim λe h=>k a b c d e h
theorem ex8X {g:Sort u0}{l:Sort u1}{m:Sort u2}{n:Sort u3}{o:Sort u4}{q:Sort u5}{r:Sort u6}{s:Sort u7}{p:g->l->m->n->o->q->r->s->Prop}{G:Prop}(h:∃a b c d e f i j,p a b c d e f i j) (k:∀a b c d e f i j,p a b c d e f i j->G):G:=h.elim λa h=>h.elim λb h=>h.elim λc h=>h.elim λd h=>h.elim λe h=>h.elim λf h=>h.elim λi h=>h.elim λj h=>k a b c d e f i j h
set_option compiler.extract_closed false
def yN (k : String) (l : List Lean.Syntax) : Lean.Syntax := .node .none (match k.toList with
  | 'T' :: r => `Lean.Parser.Tactic ++ (String.ofList r).toName
  | 'M' :: r => `Lean.Parser.Term ++ (String.ofList r).toName
  | _ => .mkSimple k) l.toArray
def yS (w : String) (a : List Lean.Syntax) : Lean.Syntax := ((w.splitOn " ").foldl (init := []) λst t => match t.toList with
  | '\'' :: r => .atom .none (.ofList r) :: st
  | '$' :: r => a.getD ((r.headD '0').toNat - 48) .missing :: st
  | '~' :: r => (Lean.mkIdent (String.ofList r).toName).raw :: st
  | r => let n := (r.getLastD '0').toNat - 48
    yN (.ofList r.dropLast) (st.take n).reverse :: st.drop n).headD .missing
def yQ (l : List Lean.Syntax) : Lean.Syntax := yN "TtacticSeq" [yN "TtacticSeq1Indented" [yN "null" (l.intersperse (.atom .none ";"))]]
def yF (l : List Lean.Syntax) : Lean.Syntax := yN "Tfirst" [.atom .none "first", yN "null" ((l ++ [yQ [yS "'fail null0 Tfail2" []]]).map λx => yN "group" [.atom .none "|", x])]
def yI (w : String) : Lean.Syntax := Lean.mkCIdent (if w.toName.isAtomic || w.startsWith "Rd" || w.startsWith "Fl." then `Mine.Tactic ++ w.toName else w.toName)
def yX (y : Lean.Syntax) : Lean.Syntax := yS "'exact $0 Texact2" [y]
def yH (y : Lean.Syntax) : Lean.Syntax := yS "'have null0 MletConfig1 ~e MletId1 null0 ': '_ Mhole1 '= '_ Mhole1 term_=_3 MtypeSpec2 null1 ':= $0 MletIdDecl5 MletDecl1 TtacticHave__3" [y]
def yG (y : Lean.Syntax) : Lean.Syntax := yS "'have null0 MletConfig1 ~e MletId1 null0 null0 ':= $0 MletIdDecl5 MletDecl1 TtacticHave__3" [y]
def yC (x : Lean.Syntax) : Lean.Syntax := yS "'clear $0 null1 Tclear2" [x]
def yU : Lean.Syntax := yS "'subst ~e null1 Tsubst2" []
def yD (e : String) : Lean.Syntax := yS "'cases null0 $0 TelimTarget2 null1 null0 null0 Tcases4" [Lean.mkIdent e.toName]
def yO (l : List Lean.Syntax) : Lean.Syntax := yS "'obtain '⟨ $0 '⟩ TrcasesPat.tuple3 null1 TrcasesPatMed1 null1 null0 ':= ~e null1 null2 Tobtain4" [yN "null" ((l.map λp => yS "$0 null1 TrcasesPatMed1 null0 TrcasesPatLo2" [if p.isIdent then yS "$0 TrcasesPat.one1" [p] else yS "'_ TrcasesPat.ignore1" []]).intersperse (.atom .none ","))]
def yK (k x : Lean.Syntax) (l : List Lean.Syntax) : Lean.Syntax := if l.isEmpty then yS "'refine $0 $1 '? '_ MsyntheticHole2 null2 Mapp2 Trefine2" [k, x] else yS "'refine $0 $1 'fun $2 null0 '=> '? '_ MsyntheticHole2 MbasicFun4 Mfun2 null2 Mapp2 Trefine2" [k, x, yN "null" l]
def yA (s : Lean.Syntax) : List Lean.Syntax :=
  let x := s[1][0][1]
  let al := s[3][0]
  let ap (w : String) : Lean.Syntax := yS "$0 $1 null1 Mapp2" [yI w, x]
  if s[3].isNone then
    if x.isIdent then
      [yQ [yX (ap "zg")], yQ [yX (ap "zoJ")], yQ [yH x, yC x, yU], yQ [yS "'injection $0 null0 Tinjection3" [x], yS "'done Tdone1" []]]
      ++ ([["e1", "e2", "e3"], ["e1", "e2"], ["e1"]].map λl => yQ (yS "'injection $0 'with $1 null2 Tinjection3" [x, yN "null" (l.map λe => (Lean.mkIdent e.toName).raw)] :: l.map yD))
      ++ ([["Rd.intK", "_"], ["Rd.strK", "_"], ["Rd.boolK"], ["Rd.noneK"], ["Rd.ptrK"], ["Rds.nilK"]].map λw => yQ [yK (yI (w.headD "")) x (w.drop 1 |>.map λ_ => yS "'_ Mhole1" []), yC x])
    else if x.isOfKind `Lean.Parser.Term.paren then [yQ [yG x, yD "e"]] else []
  else
    let l := al[2][0][0][0]
    let vs := l[2].getArgs.toList
    (if x.isIdent && al[2].getNumArgs == 1 then ("Rd.listK33 Rd.tupleK33 Rds.consK22 Rd.intK12 Rd.strK12".splitOn " ").filterMap λw =>
      let d := w.toList.reverse
      if (d.headD ' ').toNat == vs.length + 48 then
        let hd := yS "'_ Mhole1" []
        let ps := if (d.getD 1 ' ') == '1' then vs.drop 1 else List.replicate ((d.getD 1 ' ').toNat - 48) hd ++ vs
        some (yQ [yK (yI (String.ofList (d.drop 2).reverse)) x ps, yC x, yS "'( $0 ') Tparen3" [al[2][0][1][1]]])
      else none else [])
    ++ ("PySem.Expr List PySem.PyData Bool Option PySem.Value Nat PySem.Stmt Int PySem.Flow PySem.Const PySem.UnaryOp PySem.Operator Fl".splitOn " ").map λw =>
      yQ [yS "'induction $0 'using $1 null2 null0 $2 Tinduction5" [s[1], yI (w ++ (if w == "Nat" then ".casesAuxOn" else ".casesOn")), s[3]]]
def yR (h m : Lean.Syntax) : Lean.Syntax := yS "'rcases null0 $0 TelimTarget2 null1 'with $1 null0 TrcasesPatLo2 null2 Trcases3" [h, m]
def yV (w : String) (p : Lean.Syntax) : Lean.Syntax := Lean.mkIdent (.mkSimple (w ++ toString ((p.getPos?.map (·.byteIdx)).getD 0)))
def yB (p : Lean.Syntax) : Lean.Syntax × List Lean.Syntax :=
  let h := yV "hz" p
  let q := p[0][0][0]
  if p[0][0].getNumArgs == 1 && q.getNumArgs == 1 then
    if q[0].isIdent then (if q[0].getId == `rfl then (h, [yS "'subst $0 null1 Tsubst2" [h]]) else (q[0], []))
    else if q[0].isToken "_" then (yS "'_ Mhole1" [], []) else (h, [yC h])
  else (h, [yR h p[0]])
def yP (t m : Lean.Syntax) : List Lean.Syntax :=
  let u := m[0][0]
  let ps := u[1].getSepArgs.toList
  let n := ps.length
  if n < 2 || n > 30 || m[0].getNumArgs != 1 || !u.isOfKind `Lean.Parser.Tactic.rcasesPat.tuple then [] else
    let bs := ps.map yB
    let cl := if t.isIdent then [yS "'try $0 TtacticTry_2" [yQ [yC t]]] else []
    let j := (bs.takeWhile (·.2.isEmpty)).length
    let go (f : String) (c : Nat) :=
      let r := ps.drop c
      let h := yV "hh" (r.headD .missing)
      let (a, o) := if r.isEmpty then ([], []) else ([h], [yR h (if r.length == 1 then (r.headD .missing)[0] else yS "'⟨ $0 '⟩ TrcasesPat.tuple3 null1 TrcasesPatMed1" [yN "null" (r.intersperse (.atom .none ","))])])
      yQ (yK (yI f) t [] :: cl ++ yS "'intro $0 Tintro2" [yN "null" ((bs.take c).map (·.1) ++ a)] :: (bs.take c).flatMap (·.2) ++ o)
    ((List.range (min 8 (min n (j + 2)) - 1)).reverse.map λk => go ("and" ++ toString (k + 2) ++ "X") (if k + 2 == n then n else k + 1)) ++ ((List.range (min 7 (n - 2))).reverse.map λk => go ("ex" ++ toString (k + 2) ++ "X") (if k + 3 == n then n else k + 2)) ++ [go "Exists.elim" (if n == 2 then 2 else 1)]
def yW (us : List Lean.Syntax) : Lean.Syntax :=
  let as := yS "'by 'assumption Tassumption1 null1 TtacticSeq1Indented1 TtacticSeq1 MbyTactic2" []
  let ho := yS "'? '_ MsyntheticHole2" []
  let rd := λx => yQ [yS "'with_reducible $0 TwithReducible2" [yQ x]]
  let rf := λ(w : String) => let l := w.toList.reverse
    yS "'refine $0 $1 Mapp2 Trefine2" [Lean.mkIdent (`PySem ++ (String.ofList l.tail.reverse).toName), yN "null" (List.replicate ((l.headD '0').toNat - 48) as ++ [ho])]
  let ap := λ(w : String) => let l := w.splitOn ":"
    yQ [yS "'with_reducible $0 TwithReducible2" [yQ [yS "'apply $0 Tapply2" [Lean.mkIdent (`PySem ++ (l.headD "").toName)]]], yS "'focus $0 Tfocus2" [yQ [yS (l.getD 1 "") [], yS "'done Tdone1" []]]]
  yF (us.map (λu => rd [yS "'apply $0 Tapply2" [u]]) ++ [
    rd [yF ("wpAny_pure0 wpAny_bind0 wpAny_holding0 wpAny_standAt0 wpAny_point0 wpAny_rule0 wpAny_letGo0 wpAny_mkInt'0".splitOn " " |>.map λw => yQ [rf w])],
    rd [yS "'refine $0 $1 $1 null2 Mapp2 Trefine2" [yI "mkS", ho], yS "'size_fits tacticSize_fits1" []],
    rd [yF ("wpAny_fresh'0 wpAny_alloc'0 wpAny_attempt0 wpAny_throw0 wpAny_of_eq1 wpAny_typeOf1 wpAny_specialOf_val2 wpAny_specialOf2 wpAny_isInstance_val2 wpAny_isInstance2 wpAny_call0 wpAny_runValue0 wpAny_run0".splitOn " " |>.map λw => yQ [rf w])]]
    ++ ("wpAny_load':'heap_get tacticHeap_get1,wpAny_update':'heap_get tacticHeap_get1,wpAny_loadPart':'heap_get tacticHeap_get1,wpAny_updatePart':'heap_get tacticHeap_get1,wpAny_handled_none:'assumption Tassumption1,wpAny_ite_false:'rfl TtacticRfl1,wpAny_ite_true:'rfl TtacticRfl1,wpAny_ite_false:'simp null0 ToptConfig1 null0 null0 '[ '* TsimpStar1 null1 '] null3 null0 Tsimp6,wpAny_ite_true:'simp null0 ToptConfig1 null0 null0 '[ '* TsimpStar1 null1 '] null3 null0 Tsimp6".splitOn "," |>.map ap)
    ++ [yQ [yS "'wp_delta tacticWp_delta1" []]] ++ ["wpAny_pure0", "wpAny_bind0"].map λw => yQ [yS "'with_reducible_and_instances $0 TwithReducibleAndInstances2" [yQ [rf w]]])
def yL : List Lean.Syntax :=
  let as := yS "'by 'assumption Tassumption1 null1 TtacticSeq1Indented1 TtacticSeq1 MbyTactic2" []
  let xs := [yS "'_ Mhole1" [], as, yS "'by 'decide null0 ToptConfig1 Tdecide2 null1 TtacticSeq1Indented1 TtacticSeq1 MbyTactic2" []]
  let b := "Nat.le_refl100 Nat.lt_succ_self100 Nat.sub_le200 Nat.le_of_lt010 Nat.le_of_not_lt010 Nat.lt_of_not_le010 Nat.lt_succ_of_lt010 Nat.lt_succ_of_le010 Nat.le_succ_of_le010 Nat.zero_lt_succ100 Nat.zero_le100 Nat.succ_le_succ010 Nat.le_add_right200 Nat.le_add_left200 Nat.lt_irrefl110 Nat.lt_of_lt_of_le020 Nat.lt_of_le_of_lt020 Nat.le_trans020 Nat.lt_trans020 Ne.symm010 Nat.ne_of_lt010 Nat.ne_of_gt010 oA010 oB010 oC010 oD020 oE010 oF020 oG020 oH020 oI020 oJ011 oK011 oM010 oN021 oO021 oP031 oQ021 oT011 oR021 oS021 oU021 oV020 oW020 oY010 oZ010 pA030 pB030 pC010 pD000 pE020 pF010 pG020 pH040 pK020 pL010 pN010 pT000 pU010 pV020 pW020 pX020 pY020 rC000 rD010 rE0020 rE060 rF020 rG000 rH020 rJ010 rK010 rL010 rN020 rM030 rO020 rP030 rQ020 rR020 rS030 rT030 rU020 rV010 rW010 rX031 rY010 rZ000 sA030 sB020 sC010 sD020 sE010 sG021 tA020 tB010 tC000 tD030 tE000 tF010 tG010 tH010 tI020 tO020 tP020 tQ020 tR000 tS020 tU010 tV010 tX010 tW040 tY020 tZ030 uA040 uB020 uC040 uD020 uE020 uF020 uG000 uH020 vA011 vB011 vC011 vD011 vE021 vF021 vG021 vH0011 vH1021 vH2011 vH3011 vI010 vJ010 vK010 vL010 vM010 vN020".splitOn " " |>.map λw =>
    let n := w.length - 3
    yQ [yX (yS "$0 $1 Mapp2" [yI (String.ofList (w.toList.take n)), yN "null" (((w.toList.drop n).zip xs).flatMap λ(k, x) => List.replicate (k.toNat - 48) x)])]
  yQ [yS "'assumption Tassumption1" []] :: yQ [yX (yS "~absurd $0 ~Nat.not_lt.mpr $0 null1 Mapp2 null2 Mapp2" [as])] :: b
local macro_rules (kind := tacticWp_walkUsing_)
| s => pure (yS "'repeat $0 TtacticRepeat_2" [yQ [yW s[1][1].getSepArgs.toList]])
local macro_rules (kind := Lean.Parser.Term.omission)
| s => if s.isMissing then Lean.Macro.throwUnsupported else pure (yS "'by 'rfl TtacticRfl1 null1 TtacticSeq1Indented1 TtacticSeq1 MbyTactic2" [])
local macro_rules | `(∅) => `(by kernel_rfl)
local macro_rules | `(tactic| ext) => `(tactic| decide)
local macro_rules (kind := Lean.Parser.Tactic.rcases)
| s => if s[1].getNumArgs != 1 || s[2].isNone || (yP s[1][0][1] s[2][1][0]).isEmpty then Lean.Macro.throwUnsupported else pure (yF (yP s[1][0][1] s[2][1][0]))
local macro_rules (kind := Lean.Parser.Tactic.obtain)
| s => if s[1].isNone || !s[2].isNone || s[3][1].getNumArgs != 1 || (yP s[3][1][0] s[1][0]).isEmpty then Lean.Macro.throwUnsupported else pure (yF (yP s[3][1][0] s[1][0]))
local macro_rules (kind := Lean.Parser.Tactic.cases)
| s => if (yA s).isEmpty then Lean.Macro.throwUnsupported else pure (yF (yA s))
local macro_rules (kind := Lean.Parser.Tactic.omega)
| s =>
  let li := yS "'lia null0 ToptConfig1 Tlia2" []
  let no := λx => yS "'fail_if_success $0 TfailIfSuccess2" [yQ [x]]
  pure (yS "'( $0 ') Tparen3" [yQ [no (no li), yF [yQ [yS "'with_reducible $0 TwithReducible2" [yQ [yF yL]]], yQ [li]]]])
local macro_rules (kind := Lean.Parser.Tactic.sleep)
| s => pure (yF [yQ [yS "'with_reducible $0 TwithReducible2" [yL.getD (s[1].isNatLit?.getD 0) .missing]]])
local macro_rules (kind := Lean.Parser.Tactic.rwSeq)
| s =>
  if s[3].isNone then pure (yS "'( $0 ') Tparen3" [yQ ((s[2][1].getSepArgs.toList.map λr => yF ([r[1], yS "$0 '.. Mellipsis1 null1 Mapp2" [r[1]]].map (λe => yQ [yS "'refine $0 $1 '? '_ MsyntheticHole2 null2 Mapp2 Trefine2" [yI (if r[0].isNone then "rwE" else "rwB"), e]]) ++ [yQ [yS "'rewrite null0 ToptConfig1 '[ $0 null1 '] TrwRuleSeq3 null0 TrewriteSeq4" [r]]])) ++ [yS "'try $0 TtacticTry_2" [yQ [yS "'with_reducible $0 TwithReducible2" [yQ [yS "'rfl TtacticRfl1" []]]]]])]) else Lean.Macro.throwUnsupported
local macro_rules (kind := Lean.Parser.Tactic.simp)
| s =>
  if s[3].isNone && s[5].isNone then pure (yF (["mem1", "mem2", "mem3", "mem4"].map λw => yQ [yX (yI w)])) else Lean.Macro.throwUnsupported
local macro_rules (kind := Lean.Parser.Tactic.simpa)
| s =>
  if s[3][2].isNone then pure (yX s[3][4][1]) else Lean.Macro.throwUnsupported
local macro_rules (kind := Lean.Parser.Tactic.decide)
| s =>
  if s[1][0].getNumArgs == 0 then pure (yX (yS "~of_decide_eq_true ~Eq.refl ~true null1 Mapp2 null1 Mapp2" [])) else Lean.Macro.throwUnsupported
local macro_rules (kind := Lean.Parser.Tactic.show)
| s => pure (yS "'refine '( ~ hygieneInfo1 MhygienicLParen2 '? '_ MsyntheticHole2 ': $0 null1 ') MtypeAscription5 Trefine2" [s[1]])
local macro_rules | `(tactic| rfl) => `(tactic| (refine (?_ : _ = ?r); exact (Eq.refl ?r :)))
theorem oA {a i k:Nat}(h:a - i=k+1):a - (i+1)=k:=by rw[Nat.sub_add_eq,h];rfl
theorem oB {a i k:Nat}(h:a - i=k+1):i<a:=Nat.lt_of_sub_pos (h▸Nat.succ_pos k)
theorem oC {a i k:Nat}(h:a - i=k+1):i+1<=a:=oB h
theorem oD {a i:Nat}(h:a - i=0) (l:i<=a):i=a:=Nat.le_antisymm l (Nat.le_of_sub_eq_zero h)
theorem oE {a i:Nat}(h:a - i=0):a<=i:=Nat.le_of_sub_eq_zero h
theorem oF {i n N:Nat}(h:i+n=N) (l:i<N):i+1+(n - 1)=N:=by cases n with|zero=>exact absurd (h▸l) (zpZ _)|succ n=>exact(Nat.add_right_comm i 1 n).trans h
theorem oG {i n N:Nat}(h:i+n=N) (l:i<N):n - 1<n:=by cases n with|zero=>exact absurd (h▸l) (zpZ _)|succ n=>exact zpY n
theorem oH {a b i:Nat}(e:a=b) (l:i<b):i<a:=e▸l
theorem oI {a b i:Nat}(e:a=b) (l:i<a):i<b:=e▸l
theorem oJ {U C n j k:Nat}(h:U+10 * (n+j)+400<C) (q:Nat.ble k j=true):U+10 * (n+k)+400<C:=zqf (zqs (zqo (zqN _ (zqo (zqX q) _)) _) _) h
theorem oK {U C n j k:Nat}(h:U+2 * (n+j)+110<C) (q:Nat.ble k j=true):U+2 * (n+k)+110<C:=zqf (zqs (zqo (zqN _ (zqo (zqX q) _)) _) _) h
theorem oM {U C n j:Nat}(h:U+2 * (n+j)+110<C):U+2 * n+110<C:=oK (k:=0) h (Nat.ble_eq_true_of_le (zqy j))
theorem oN {S a b:Nat}(e:S=2 ^ 24) (h:a<=b) (q:Nat.ble b (2 ^ 24)=true):a<=S:=e▸zpF h (zqX q)
theorem oO {S a b:Nat}(e:S=2 ^ 24) (h:a<b) (q:Nat.ble b (2 ^ 24)=true):a<=S:=oN e (zqt h) q
theorem oP {S a b c:Nat}(e:S=2 ^ 24) (h:a<=c) (h':c<b) (q:Nat.ble b (2 ^ 24)=true):a<=S:=oO e (zqf h h') q
theorem oQ {S a b c:Nat}(e:S=2 ^ 24) (h:a+c<=b) (q:Nat.ble b (2 ^ 24)=true):a<=S:=oN e (zpF (zqu _ _) h) q
theorem oT {n b:Nat}(h:n<b) (q:Nat.ble b (2 ^ 62)=true):(n:Int)<2 ^ 63:=by have:=zqX q;lia
theorem oR {i n b:Nat}(l:i<n) (h:n<b) (q:Nat.ble b (2 ^ 62)=true):(i:Int)<2 ^ 63:=oT (zqU l h) q
theorem oS {i n b:Nat}(l:i<=n) (h:n<b) (q:Nat.ble b (2 ^ 62)=true):(i:Int)<2 ^ 63:=oT (zqf l h) q
theorem oU {i n b:Nat}(l:i<n) (h:n<=b) (q:Nat.ble b (2 ^ 62)=true):(i:Int)<2 ^ 63:=oT (zpM l h) q
theorem oV {z k f p:Nat}(e:p=z) (h:k+(f+1)<=z):k<p:=e▸zpM (Nat.lt_add_of_pos_right (Nat.succ_pos f)) h
theorem oW {z k f p:Nat}(e:p=z) (h:k+(f+1)<=z):k<=p:=zqt (oV e h)
theorem oY {U C n:Nat}(h:U+10 * (n+1)+400<C):U+1+10 * n+400<C:=(Nat.add_right_comm U 1 (10 * n))▸zqf (zqs (zqo (zqo (by decide:1<=10) _) _) _) h
theorem oZ {U C n:Nat}(h:U+10 * (n+2)+400<C):U+1+1+10 * n+400<C:=zqf (zqs (by rw[Nat.add_assoc U 1 1,Nat.add_assoc,Nat.add_comm (1+1),Nat.mul_add];exact zqo (zqo (by ext) _) _) _) h
theorem pA {U C n m d e:Nat}(h:U+10 * n+400<C) (l:d<=e+1) (k:e=1):U+1+min m d<C:=by rw[k] at l;exact zqf (zqo (zpF (Nat.min_le_right m d) l) _) (zqf (by rw[Nat.add_assoc];exact zqM (zqu _ _) (by ext)) h)
theorem pB {U C n m d e:Nat}{P:Prop}(h:U+10 * n+400<C) (l:d<=e+1) (k:P/\e<40):U+1+min m d<C:=zqf (zqo (zpF (Nat.min_le_right m d) (zpF l k.2)) _) (zqf (by rw[Nat.add_assoc];exact zqM (zqu _ _) (by ext)) h)
theorem pC {a b j:Nat}(l:j<min a b):j<a:=zpM l (Nat.min_le_left a b)
theorem pD {a b:Nat}:min a b<=a:=Nat.min_le_left a b
theorem pE {a b j:Nat}(l:j<a) (h:a+1<=b):j<min a b:=Nat.lt_min.mpr ⟨l,zqU l h⟩
theorem pF {r f k:Nat}(h:r<=k+1+f):r<=k+(f+1):=zpF h (zqF (Nat.add_right_comm k 1 f))
theorem pG {k n m:Nat}(h:k<=n) (l:m<=k+(n - k)):m<=n:=zpF l (zqF (zqW h))
theorem pH {k n m p z:Nat}(e:p=z) (h':n<=z) (h:k<=n) (l:m<=k+(n - k)):m<=p:=e▸zpF (pG h l) h'
theorem pK {a b c:Nat}(e:a=b) (h:b<=c):a<=c:=e▸h
theorem pL {a b c:Nat}(h:a+b<=c):a<=c:=zpF (zqu _ _) h
theorem pN {a b:Nat}(h:a<b):a+1<=b:=h
theorem pT {w h:Nat}:((w:Int) - (h:Int)).toNat=w - h:=Int.toNat_sub w h
theorem pU {U C n:Nat}(h:U+10 * n+400<C):U+64<C:=zqf (zqM (zqu _ _) (by ext)) h
theorem pV {D C n E:Nat}(l:E<=D+1) (h:D+2 * n+110<C):E<C:=zqf l (zqf (zqM (zqu _ _) (by ext)) h)
theorem pW {n m U C:Nat}(l:m<=n) (h:U+10 * n+400<C):U+10 * m+400<C:=zqf (zqs (zqo (zqN _ l) _) _) h
theorem pX {n m U C:Nat}(l:m<=n) (h:U+2 * n+110<C):U+2 * m+110<C:=zqf (zqs (zqo (zqN _ l) _) _) h
theorem pY {i n:Nat}(h:i<=n) (q:n<=1000):(i:Int)<2 ^ 63:=Int.ofNat_lt.mpr (zqf (zpF h q) (by ext))
theorem rC {a b:Nat}:a+(b - a) - (a - b)=b:=by
 rcases Nat.le_total a b with h|h
 .rw [zqW h,Nat.sub_eq_zero_of_le h];rfl
 .rw [Nat.sub_eq_zero_of_le h];exact Nat.sub_sub_self h
theorem rD {c m:Nat}(h:0<c):c<m+1↔c - 1<m:=by
 cases c with
 | zero=>exact absurd h (zpZ _)
 | succ c=>exact⟨Nat.lt_of_succ_lt_succ,Nat.succ_lt_succ⟩
theorem rE0 {E i G j:Nat}(p:i<=E) (r:j<=G):E - i+(G - j)+(i+j)=E+G:=by rw[Nat.add_add_add_comm,Nat.sub_add_cancel p,Nat.sub_add_cancel r]
theorem rE {i j c d E G k:Nat}(l:E - i+(G - j)<=k+1) (h:i+j<c+d) (a:c<=E) (b:d<=G) (p:i<E) (r:j<G):E - c+(G - d)<=k:=Nat.le_of_add_le_add_right (b:=c+d) (by rw[rE0 a b,<-rE0 (zqt p) (zqt r)];exact zpF (zqs l _) (by rw[Nat.add_assoc,Nat.add_comm 1];exact zqo h k))
theorem rF {j d c:Nat}(l:d<=c) (h:j<d):0<c - j:=Nat.sub_pos_of_lt (zpM h l)
theorem rG {a b:Nat}:0<b - a↔a<b:=Nat.sub_pos_iff_lt
theorem rH {E i G j k:Nat}(h:E - i+(G - j)<=k) (l:i<E):k=k - 1+1:=(Nat.sub_add_cancel (zpM (Nat.sub_pos_of_lt l) (zpF (zqu _ _) h))).symm
theorem rJ {i k l:Nat}(h:k<l - i):i+k<l:=Nat.add_lt_of_lt_sub' h
theorem rK {i l:Nat}(h:i<=l):i+(l - i)=l:=zqW h
theorem rL {a c x y:Nat}(e:a=c):a - x<=c+y:=zpF (Nat.sub_le _ _) (e▸zqu _ _)
theorem rN {d h w:Nat}{P:Prop}(l:d<=500) (p:P/\h<=60/\w<=60):d+(w - h)<=600:=zpF (zqM l (zpF (Nat.sub_le _ _) p.2.2)) (by ext)
theorem rM {S d h w:Nat}{P:Prop}(e:S=2 ^ 24) (p:P/\h<=60/\w<=60) (l:d<=500):d+((w:Int) - (h:Int)).toNat<=S:=by rw[pT];exact e▸zpF (rN l p) (by ext)
theorem rO {c m:Nat}(n:¬0<c) (h:0<m):c<m+1↔c<m:=by rw[Nat.eq_zero_of_not_pos n];exact⟨λ_=>h,λ_=>Nat.succ_pos m⟩
theorem rP {es c n d1 d2:Nat}(h:es+1+(c+1)<=n+1) (a:d1<=es) (b:d2<=c):d1+d2<=n:=zpF (zqM a b) (zpF (zqs (zqz es) c) (Nat.le_of_succ_le_succ h))
theorem rQ {es b n d1:Nat}(h:es+1+(b+1)<=n+1) (a:d1<=es):d1+(b+1)<=n:=Nat.le_of_succ_le_succ (zpF (zqF (Nat.succ_add d1 (b+1)).symm) (zpF (zqs (zqx a) _) h))
theorem rR {es a n d2:Nat}(h:es+1+(a+1)<=n+1) (b:d2<=a):es+1+d2<=n:=zpF (zqo b _) (Nat.le_of_succ_le_succ h)
theorem rS {a b S:Nat}(e:a=3) (l:b<=7) (c:S=2 ^ 24):a+b<=S:=c▸e▸zpF (zqo l 3) (by ext)
theorem rT {a b S:Nat}(e:a=3) (l:b<=7) (c:S=2 ^ 24):a+b+6<=S:=c▸e▸zpF (zqs (zqo l 3) 6) (by ext)
theorem rU {a S:Nat}(l:a<=4) (b:S=2 ^ 24):2+a+1<=S:=b▸zpF (zqs (zqo l 2) 1) (by ext)
theorem rV {a:Nat}(l:a<=4):2+a+1<=7:=zqs (zqo l 2) 1
theorem rW {a:Nat}(l:a<=4):a+(a+1) * 2<=16777216:=zpF (zqM l (Nat.mul_le_mul_right 2 (zqs l 1))) (by ext)
theorem rX {n i S b:Nat}(e:S=2 ^ 24) (l:i<n) (h:n<b) (q:Nat.ble b (2 ^ 24)=true):min i n<=S:=oO e (zqf (Nat.min_le_right i n) h) q
theorem rY {i l:Nat}(h:i<l):i<((l:Nat):Int).toNat:=h
theorem rZ {l:Nat}:l=((l:Nat):Int).toNat:=rfl
theorem sA {f g n a b:Nat}(h:f+g<=n) (e:a=f) (c:b=g):a+b<=n:=e▸c▸h
theorem sB {f g a b:Nat}(e:a=f) (c:b=g):f+g<=a+b:=e▸c▸zpB _
theorem sC {a b:Nat}(h:¬a<b):b<a+1:=Nat.lt_succ_of_le (zqK h)
theorem sD {p l:Nat}(h:p<l) (h':¬p+1<l):(l:Int)=(p:Int)+1:=congrArg Int.ofNat (Nat.le_antisymm (zqK h') h)
theorem sE {m:Nat}(h:0<m):min 1 m=1:=Nat.min_eq_left h
theorem sG {n i b c:Nat}(l:i+n<c) (h:c<b) (q:Nat.ble b 1000=true):i+n<1000:=zqU l (zpM h (zqX q))
theorem tA {i j k:Nat}(a:i<=k) (b:k<j):i<=i+j - 1 - k/\i+j - 1 - k<j:=
 have p:0<i+j:=zpM (zqf (zqy k) b) (Nat.le_add_left j i)
 ⟨Nat.le_sub_of_add_le (Nat.le_sub_one_of_lt (Nat.add_lt_add_left b i)),Nat.sub_lt_left_of_lt_add (Nat.le_sub_one_of_lt (zpM b (Nat.le_add_left j i))) (zpM (Nat.sub_lt p Nat.one_pos) (zqs a j))⟩
theorem tB {l r:Nat}(h:l<r):l<=(l+r) / 2/\(l+r) / 2<r:=⟨(Nat.le_div_iff_mul_le (by ext)).mpr (by rw[Nat.mul_two];exact zqo (zqt h) l),Nat.div_lt_of_lt_mul (by rw[Nat.two_mul];exact Nat.add_lt_add_right h r)⟩
theorem tC {p r:Nat}:p+(r+1) - r=p+1:=by rw[Nat.add_comm r 1,<-Nat.add_assoc];exact Nat.add_sub_cancel _ _
theorem tD {i E M:Nat}(a:i<=E) (b:M<=i) (c:E<60):M+(E - i)<=1000:=zpF (zqs b _) (by rw[zqW a];exact zqt (zqU c (by ext)))
theorem tE {a b:Nat}:a<b↔((a:Nat):Int)<((b:Nat):Int):=Int.ofNat_lt.symm
theorem tF {n m:Int}(h:n<m):m - n=((m - n).toNat:Int):=(Int.toNat_of_nonneg (Int.sub_nonneg_of_le (Int.le_of_lt h))).symm
theorem tG {m:Nat}{k:Int}(h:0<=k/\k<(m:Int)):k.toNat<m:=(Int.toNat_lt h.1).mpr h.2
theorem tH {a b j:Nat}(l:j<min a b):j<b:=zpM l (Nat.min_le_right a b)
theorem tI {f k l y:Nat}(h:f<=k * l) (a:y<=k):y+f<=k * l+k * 1:=by rw[Nat.mul_one,Nat.add_comm];exact zqM h a
theorem tO {D w n L:Nat}(l:w<=1) (h:D+2 * (n+1)+110<L):D+w+2 * n+110<L:=zqf (zqs (zpF (zqs (zqo l D) _) (by rw[Nat.add_assoc,Nat.mul_succ,Nat.add_comm 1];exact zqo (zqo (by ext) _) _)) _) h
theorem tP {i:Int}{n:Nat}(a:0<=i) (h:i.toNat<n):i<(n:Int):=(Int.toNat_lt a).mp h
theorem tQ {a S:Nat}(l:a<=4) (b:S=2 ^ 24):2+a<=S:=b▸zpF (zqo l 2) (by ext)
theorem tR {x:Nat}:min 6 x+10<=16:=zqs (Nat.min_le_left 6 x) 10
theorem tS {t y F a S:Nat}(h:t+y<=F) (b:a+F<=S):a+t+y<=S:=by rw[Nat.add_assoc];exact zpF (zqo h a) b
theorem tU {U n C:Nat}(h:U+10 * (n+1)+400<C):U+3+10 * n+400<C:=zqf (zqs (by rw[Nat.add_assoc,Nat.mul_succ,Nat.add_comm 3];exact zqo (zqo (by ext) _) _) _) h
theorem tV {D n L:Nat}(h:D+2 * n+110<L):D<L:=zqf (zpF (zqu _ _) (zqu _ _)) h
theorem tX {D n L:Nat}(h:D+10 * n+400<L):D<L:=zqf (zpF (zqu _ _) (zqu _ _)) h
theorem tW {c i n S:Nat}(e:S=2 ^ 24) (a:c<=i) (l:i<n) (h:n<=1000):c+1<=S+1:=zqx (e▸zpF a (zpF (zqt l) (zpF h (by ext))))
theorem tY {a b l:Nat}(h:a<=b) (p:b<l):a<=min b l:=Nat.le_min.mpr ⟨h,zpF h (zqt p)⟩
theorem tZ {d a b:Nat}(l:d<=a+b) (h:a<60) (h':b<60):d<=500:=zpF l (zpF (zqM (zqt h) (zqt h')) (by ext))
theorem uA {y z u v S:Nat}(h:y+z<=1000) (e:S=2 ^ 24) (a:u=y) (b:v=z):u+v<=S+1:=a▸b▸e▸zpF h (by ext)
theorem uB {r S:Nat}(l:r<=10000) (e:S=2 ^ 24):1+r+1<=S:=e▸zpF (zqs (zqo l 1) 1) (by ext)
theorem uC {r i o S:Nat}(e:S=2 ^ 24) (l:r<=i) (a:i<o) (b:o<60):r<=S:=e▸zpF l (zpF (zqt (zqU a b)) (by ext))
theorem uD {x y:Nat}(h:x+1<40) (l:y<=x):y+1<40:=zqf (zqx l) h
theorem uE {P:Prop}{i l:Nat}(a:i<l) (b:l<i):P:=absurd a (Nat.lt_asymm b)
theorem uF {a b c:Nat}(h:a=b+c) (e:b=0):c=a:=by rw[h,e,Nat.zero_add]
theorem uG {a b:Nat}:((a:Nat):Int)=((b:Nat):Int)↔a=b:=Int.ofNat_inj
theorem uH {f g a b:Nat}(e:a=f) (c:b=g):g+f<=a+b:=e▸c▸zqF (Nat.add_comm _ _)
theorem vA {x b c:Nat}(h:x<b) (q:Nat.ble b c=true):x<c:=zpM h (zqX q)
theorem vB {x b c:Nat}(h:x<=b) (q:Nat.ble b c=true):x<=c:=zpF h (zqX q)
theorem vC {x b c:Nat}(h:x<b) (q:Nat.ble b c=true):x<=c:=zqt (vA h q)
theorem vD {x b c:Nat}(h:x<=b) (q:Nat.ble (b+1) c=true):x<c:=zqf h (zqX q)
theorem vE {x y b c:Nat}(e:x=y) (h:y<b) (q:Nat.ble b c=true):x<c:=e▸vA h q
theorem vF {x y b c:Nat}(e:x=y) (h:y<b) (q:Nat.ble b c=true):x<=c:=e▸vC h q
theorem vG {x y b c:Nat}(l:x<=y) (h:y<b) (q:Nat.ble b c=true):x<c:=zqf l (vA h q)
theorem vH0 {n b:Nat}(h:n<b) (q:Nat.ble b (2 ^ 61)=true):(n:Int)<2 ^ 62:=Int.ofNat_lt.mpr (zpM h (zpF (zqX q) (by ext)))
theorem vH1 {i n b:Nat}(l:i<=n) (h:n<b) (q:Nat.ble b (2 ^ 61)=true):(i:Int)<2 ^ 62:=vH0 (zqf l h) q
theorem vH2 {n b:Nat}(h:n<=b) (q:Nat.ble (b+1) (2 ^ 61)=true):(n:Int)<2 ^ 62:=vH0 (Nat.lt_succ_of_le h) q
theorem vH3 {n b:Nat}(h:n<=b) (q:Nat.ble (b+1) (2 ^ 62)=true):(n:Int)<2 ^ 63:=oT (Nat.lt_succ_of_le h) q
theorem vI {D n L:Nat}(h:D+2 * (n+1)+110<L):D+1+2 * n+110<L:=zqf (zqs (by rw[Nat.add_assoc,Nat.mul_succ,Nat.add_comm 1];exact zqo (zqo (by ext) _) _) _) h
theorem vJ {x:Int}(h:x<=1000):x.toNat<=1000:=Int.toNat_le.mpr h
theorem vK {p l:Nat}(h:p+1<l):(p:Int)+1<(l:Int):=Int.ofNat_lt.mpr h
theorem vL {p l:Nat}(h:¬p+1<l):¬(p:Int)+1<(l:Int):=λq=>h (Int.ofNat_lt.mp q)
theorem vM {n:Int}(h:0<n):n - 0=(n.toNat:Int):=(Int.sub_zero n).trans (Int.toNat_of_nonneg (Int.le_of_lt h)).symm
theorem vN {a b c:Nat}(e:b=c+2) (h:a=c+1):a<b:=e▸h▸zpY _
theorem and2X {a b G:Prop}(h:a/\b) (k:a->b->G):G:=k h.1 h.2
theorem and3X {a b c G:Prop}(h:a/\b/\c) (k:a->b->c->G):G:=k h.1 h.2.1 h.2.2
theorem and4X {a b c d G:Prop}(h:a/\b/\c/\d) (k:a->b->c->d->G):G:=k h.1 h.2.1 h.2.2.1 h.2.2.2
theorem and5X {a b c d e G:Prop}(h:a/\b/\c/\d/\e) (k:a->b->c->d->e->G):G:=k h.1 h.2.1 h.2.2.1 h.2.2.2.1 h.2.2.2.2
theorem and6X {a b c d e f G:Prop}(h:a/\b/\c/\d/\e/\f) (k:a->b->c->d->e->f->G):G:=k h.1 h.2.1 h.2.2.1 h.2.2.2.1 h.2.2.2.2.1 h.2.2.2.2.2
theorem and7X {a b c d e f i G:Prop}(h:a/\b/\c/\d/\e/\f/\i) (k:a->b->c->d->e->f->i->G):G:=k h.1 h.2.1 h.2.2.1 h.2.2.2.1 h.2.2.2.2.1 h.2.2.2.2.2.1 h.2.2.2.2.2.2
theorem and8X {a b c d e f i j G:Prop}(h:a/\b/\c/\d/\e/\f/\i/\j) (k:a->b->c->d->e->f->i->j->G):G:=k h.1 h.2.1 h.2.2.1 h.2.2.2.1 h.2.2.2.2.1 h.2.2.2.2.2.1 h.2.2.2.2.2.2.1 h.2.2.2.2.2.2.2
theorem wpB {M:PySem.Model}{A:PySem.Around}{b c:Type}{m:PySem.Sem b}{f:b->PySem.Sem c}{Q:c->PySem.Shared->Prop}{E:PySem.Value->PySem.Shared->Prop}{s:PySem.Shared}(h:PySem.wpAny M A m (λa=>PySem.wpAny M A (f a) Q E) E s):PySem.wpAny M A (m>>=f) Q E s:=PySem.wpAny_bind h
theorem mkS{M:PySem.Model}{A:PySem.Around}{E:PySem.Value->PySem.Shared->Prop}{h:PySem.Heap}{g}{d}{t}{os}{x:PySem.Str}{Q:PySem.Value->PySem.Shared->Prop}(a:x.length<=PySem.sizeLine) (b:Q (.str x t) ⟨h,g,d,t+1,os⟩):PySem.wpAny M A (PySem.mkStr x) Q E ⟨h,g,d,t,os⟩:=PySem.wpAny_mkStr' b a
theorem on_checkNew:checkBuiltinCall "object.__new__" ⟨[.type "object"],[]⟩=pure ():=by kernel_rfl
section
theorem zg {a:Type}{b:a}{P:Prop}(h:none=some b):P:=nomatch h
theorem zoJ {a:Type}{b:a}{P:Prop}(h:some b=none):P:=nomatch h
@[elab_as_elim] theorem zr {c:Type}{a b:c}{P:c->Prop}(h:some a=some b) (k:P a):P b:=zqr h▸k
theorem zi {c d:Type}{o:Option c}{f:c->Option d}{b:d}{P:Prop}(h:o.bind f=some b) (k:∀a,o=some a->f a=some b->P):P:=by
 cases o with
 | none=>exact zg h
 | some a=>exact k a rfl h
@[elab_as_elim] theorem mapX {d c:Type}{o:Option d}{f:d->c}{b:c}{P:c->Prop}(h:o.map f=some b) (k:∀a,o=some a->P (f a)):P b:=by
 cases o with
 | none=>exact zg h
 | some a=>exact zr h (k a rfl)
theorem iteX {p:Prop}{_:Decidable p}{b:Type}{x:Option b}{y:b}{P:Prop}(h:(if p then x else none)=some y) (k:p->x=some y->P):P:=by
 by_cases a:p
 .rw [if_pos a] at h;exact k a h
 .rw [if_neg a] at h;exact zg h
theorem zd2 {p:Prop}{_:Decidable p}{b:Type}{x x' y:b}{P:Prop}(h:(if p then x else x')=y) (k:p->x=y->P) (c:¬p->x'=y->P):P:=by
 by_cases a:p
 .rw [if_pos a] at h;exact k a h
 .rw [if_neg a] at h;exact c a h
theorem zb3 {a:Type}{b:Bool}{x x' y:a}{P:Prop}(h:(bif b then x else x')=y) (k:b=true->x=y->P) (c:b=false->x'=y->P):P:=by
 cases b with
 | true=>exact k rfl h
 | false=>exact c rfl h
theorem conX {a:Type}{b:Bool}{x:Option a}{y:a}{P:Prop}(h:(bif b then x else none)=some y) (k:b=true->x=some y->P):P:=zb3 h k λ_ h=>zg h
end
noncomputable abbrev hz (s:Shared):Nat:=s.heap.objs.size
structure Kept (P:Heap->Prop):Prop where
 push:∀{h}(o:Obj),P h->P (h.push o)
 upd:∀{h a}(f:Obj->Obj),(h.get? a).isSome->P h->P (h.update a f)
section
variable {P:Heap->Prop}(k:Kept P)
include k
theorem zfx {M:Model} {f : PySem.Ctx}{p:Pos}{t:Sem Fin}{fs:List Frame}{s s':Shared}{e:End}(h:Runs M f p t fs s e s'):P s.heap->P s'.heap:=by
 induction h with
 | update g _ c=>exact λd=>c (k.upd _ g d)
 | alloc _ c=>exact λd=>c (k.push _ d)
 | done|raise|yield=>exact id
 | call _ _ a b|segRet _ _ a b|segGen _ _ a b=>exact λd=>b (a d)
 | segSuspGen _ _ _ _ a b|resumeFresh _ _ _ _ a b|resumeSuspended _ _ _ _ a b=>exact λd=>b (a d)
 | callSusp _ c|segSuspOut _ _ c=>exact c
 | resumeThrowFresh _ _ c=>exact λd=>c d
 | _=>rename_i c;exact λd=>c d
theorem zin {M:Model} {j : PySem.Ctx}{p:Pos}{s s':Shared}{g:Nat}{r:Resume}{i:GenResult}(h:Wakes M j p g r s i s') (d:P s.heap):P s'.heap:=by
 have key:∀{st:GenState}{a:End}{b:Shared} {f:PySem.Ctx}{p':Pos}{t:Sem Fin}{fs:List Frame},Runs M f p' t fs (s.setGen g .running) a b->P (b.setGen g st).heap:=λx=>by have y:=zfx k x d;exact y
 have done:∀{f:PySem.Ctx}{p':Pos}{t:Sem Fin}{fs:List Frame},(∃a b,Runs M f p' t fs (s.setGen g .running) a b/\a.quiet=true/\i=a.result/\s'=b.setGen g a.genState)->P s'.heap:=λh=>h.elim λ_ h=>h.elim λ_ h=>h.2.2.2▸key h.1;have e:∀{c:Prop},c/\s'=s->P s'.heap:=λh=>h.2▸d;unfold Wakes at h;generalize s.gens[g]? = x at h;cases x with
 | none=>exact h.elim
 | some x=>
  cases x with
  | fresh c=>
   cases r with
   | send v=>cases v with
    | none=>exact done h
    | _=>exact e h
   | throw x=>rw[h.2];exact d
  | suspended=>exact done h
  | _=>exact e h
theorem zjq {l:Type}(M:Model) (n : PySem.Ctx) (t:Sem l):∀(Q:l->Pos->Shared->Prop) (E:Value->Pos->Shared->Prop) (p:Pos) (s:Shared),P s.heap->Sem.wp M n t Q E p s->
  Sem.wp M n t (λa p' s'=>P s'.heap/\Q a p' s') (λe p' s'=>P s'.heap/\E e p' s') p s:=by
 induction t with
 | pure _|raise _=>exact λQ E p s b h=>⟨b,h⟩
 | unsupported _|finish _|register _ _|yield _ _ _ _|fork _ _|await _ _ _ _ _=>exact λQ E p s _ h=>h
 | load a _ k d=>exact λQ E p s b h=>h.elim λo h=>⟨o,h.1,d o Q E p s b h.2⟩
 | update a _ f j d=>exact λQ E p s b h=>⟨h.1,d () Q E p _ (k.upd _ h.1 b) h.2⟩
 | alloc o j d=>exact λQ E p s b h=>d _ Q E p _ (k.push _ b) h
 | choose q m k d=>exact λQ E p s b h=>⟨h.1,d _ Q E p _ b h.2⟩
 | call c hd _ _ j d=>exact λQ E p s b h=>h.elim λr h=>h.elim λs' h=>⟨r,s',h.1,d r Q E p s' (zfx k h.1 b) h.2⟩
 | genState g k d=>exact λQ E p s b h=>h.elim λst h=>⟨st,h.1,d _ Q E p s b h.2⟩
 | resume g r _ j d=>exact λQ E p s b h=>h.elim λi h=>h.elim λs' h=>⟨i,s',h.1,d i Q E p s' (zin k h.1 b) h.2⟩
 | «at» p' k d=>exact λQ E p s b h=>d () Q E p' s b h
 | _=>rename_i d;exact λQ E p s b h=>d _ Q E p _ b h
end
theorem zkz {h:Heap}{b:Addr}(o:Obj) (a:b<h.objs.size) (e:h.get? b=none):(h.push o).get? b=none:=by
 rw[Heap.get?_push_ne _ _ _ (zqV a)];exact e
theorem zhr {h:Heap}{a b:Addr}{f:Obj->Obj}(c:(h.get? a).isSome) (e:h.get? b=none):(h.update a f).get? b=none:=by
 rw[Heap.get?_update_ne _ _ _ _ (λq=>by rw[q] at e;rw[e] at c;cases c)];exact e
def zmB (h₀ h:Heap):Prop:=h₀.objs.size<=h.objs.size/\∀b,b<h₀.objs.size->h₀.get? b=none->h.get? b=none
theorem zep (h₀:Heap):Kept (zmB h₀):=⟨λo d=>⟨by rw[zqw];exact Nat.le_succ_of_le d.1,λb a e=>zkz o (zpM a d.1) (d.2 b a e)⟩,λf c d=>⟨by rw[Heap.size_after_update];exact d.1,λb a e=>zhr c (d.2 b a e)⟩⟩
theorem zmB.refl {h:Heap}:zmB h h:=⟨zpB _,λ_ _ e=>e⟩
theorem wpd {i:Type}{M:Model}{A:Around}{s:Shared}{t:Sem i}{Q:i->Shared->Prop}{E:VP}(h:wpAny M A t (λa s'=>(∀b o,s.heap.get? b=none->s'.heap.get? b=some o->hz s<=b)->Q a s') (λe s'=>(∀b o,s.heap.get? b=none->s'.heap.get? b=some o->hz s<=b)->E e s') s):wpAny M A t Q E s:=λd p f=>
 have c:∀{s':Shared},zmB s.heap s'.heap->∀b o,s.heap.get? b=none->s'.heap.get? b=some o->hz s<=b:=λg b o j k=>zqK λq=>zg ((g.2 b q j).symm.trans k)
 Sem.wp_mono M d _ (λ_ _ _ x=>x.2 (c x.1)) (λ_ _ _ x=>x.2 (c x.1)) _ _ (zjq (zep s.heap) M d t _ _ p s .refl (h d p f))
theorem wpt {f:Type}{M:Model}{A:Around}{s:Shared}{t:Sem f}{Q:f->Shared->Prop}{E:VP}(h:wpAny M A t (λa s'=>s.toks<=s'.toks->hz s<=hz s'->Q a s') (λe s'=>s.toks<=s'.toks->hz s<=hz s'->E e s') s):wpAny M A t Q E s:=
 wpAny_with_toks (zpB _) λb p c=>Sem.wp_mono M b _ (λ_ _ _ h' d=>h'.2 d h'.1.1) (λ_ _ _ h' d=>h'.2 d h'.1.1) _ _ (zjq (zep s.heap) M b t _ _ p s .refl (h b p c))
theorem lkp {a b:Type} [BEq a] [LawfulBEq a] {x y:a}{v:b}{l:List (a×b)}:List.lookup x ((y,v)::l)=bif x==y then some v else List.lookup x l:=by
 rw[List.lookup];cases x==y<;>rfl
theorem zaS {a e:Type} [BEq a] [LawfulBEq a] (p:a->Bool) (x:a) (l:List (a×e)):List.lookup x (l.filter λq=>p q.1)=bif p x then List.lookup x l else none:=by
 induction l with
 | nil=>cases p x<;>rfl
 | cons q l c=>
  obtain⟨y,v⟩:=q;rw[List.filter_cons];show List.lookup x (if p y=true then (y,v)::l.filter (λq=>p q.1) else l.filter λq=>p q.1)=_;rw[lkp];cases b:x==y with
  | true=>
   rw[eq_of_beq b];cases d:p y with
   | true=>rw[if_pos rfl,lkp,zqG];rfl
   | false=>rw[if_neg (by ext),<-eq_of_beq b,c,eq_of_beq b,d];rfl
  | false=>
   cases d:p y with
   | true=>rw[if_pos rfl,lkp,b];exact c
   | false=>rw[if_neg (by ext)];exact c
def zbA (fs:LA) (b:Addr) (o o':Obj):Prop:=o'=o\/(b∈fs/\∃sl,o'={o with slots:=sl})
theorem zbA.refl {fs:LA}{b:Addr}{o:Obj}:zbA fs b o o:=.inl rfl
theorem zbA.trans {fs:LA}{b:Addr}{o o' a:Obj}(x:zbA fs b o o') (y:zbA fs b o' a):zbA fs b o a:=by
 rcases x with rfl|⟨h1,sl,rfl⟩
 .exact y
 .rcases y with rfl|⟨_,sl',rfl⟩
  .exact .inr ⟨h1,sl,rfl⟩
  .exact .inr ⟨h1,sl',rfl⟩
theorem zbA.data {fs:LA}{b:Addr}{o o':Obj}(x:zbA fs b o o'):o'.data=o.data/\o'.cls=o.cls/\o'.dict=o.dict:=by
 rcases x with rfl|⟨_,sl,rfl⟩<;>exact⟨rfl,rfl,rfl⟩
theorem zbA.ex {fs:LA}{b:Addr}{o o':Obj}(x:zbA fs b o o') (h:b∉fs):o'=o:=by
 rcases x with rfl|⟨h1,_⟩
 .rfl
 .exact absurd h1 h
def Keep (fs:LA) (mu:LA) (h h':Heap):Prop:=∀b o,b∉mu->h.get? b=some o->∃o',h'.get? b=some o'/\zbA fs b o o'
theorem Keep.refl {fs:LA}{mu:LA}{h:Heap}:Keep fs mu h h:=λ_ o _ e=>⟨o,e,.refl⟩
theorem Keep.trans {fs:LA}{mu:LA}{h h' c:Heap}(a:Keep fs mu h h') (b:Keep fs mu h' c):Keep fs mu h c:=λx o m e=>
 let ⟨_,e1,r1⟩:=a x o m e;let ⟨o2,e2,r2⟩:=b x _ m e1;⟨o2,e2,r1.trans r2⟩
theorem Keep.mono {fs:LA}{mu mu':LA}{h h':Heap}(a:Keep fs mu h h') (s:∀x∈mu,x∈mu'):Keep fs mu' h h':=λx o m e=>a x o (λq=>m (s x q)) e
theorem Keep.all {fs:LA}{mu:LA}{h h':Heap}(a:∀b o,h.get? b=some o->h'.get? b=some o):Keep fs mu h h':=λx o _ e=>⟨o,a x o e,.refl⟩
theorem Keep.but {fs:LA}{mu:LA}{h h':Heap}(a:∀b o,b∉mu->h.get? b=some o->h'.get? b=some o):Keep fs mu h h':=λx o m e=>⟨o,a x o m e,.refl⟩
theorem Keep.ex {fs:LA}{mu:LA}{h h':Heap}(a:Keep fs mu h h'){b:Addr}{o:Obj}(m:b∉mu) (e:h.get? b=some o) (c:b∉fs):h'.get? b=some o:=by
 obtain⟨o',d,r⟩:=a b o m e;rw[d,r.ex c]
theorem Keep.push {fs:LA}{mu:LA}{h:Heap}(o:Obj):Keep fs mu h (h.push o):=.all λ_ _ e=>zpD _ e
theorem Keep.sameBut {fs:LA}{mu:LA}{h h':Heap}{a:Addr}(s:Heap.SameBut a h h') (m:a∈mu):Keep fs mu h h':=.but λb _ q e=>(s.2 b (λr=>q (r▸m))).trans e
theorem Keep.fresh {fs:LA}{mu mu':LA}{h h':Heap}(a:Keep fs mu h h') (s:∀x∈mu,x∈mu'\/h.get? x=none):Keep fs mu' h h':=λx o m e=>a x o (λq=>by
 rcases s x q with r|r
 .exact m r
 .rw [r] at e;cases e) e
noncomputable abbrev lst (vs:List Value) (n:Nat:=0):Obj:={cls:=.type "list",data:=.seq vs.toArray n}
noncomputable abbrev tup (vs:List Value) (n:Nat:=0):Obj:={cls:=.type "tuple",data:=.seq vs.toArray n}
noncomputable abbrev ptr (a:Addr):PyData:=.dict [(.int (a:Nat),.none)]
mutual
inductive Rd (h:Heap) (mu:LA):Value->PyData->Prop
 | none:Rd h mu .none .none
 | bool (b:Bool):Rd h mu (.bool b) (.bool b)
 | int (i:Int) (t:Tok):Rd h mu (.int i t) (.int i)
 | str (x:Str) (t:Tok):Rd h mu (.str x t) (.str x)
 | ptr (a:Addr):Rd h mu (.ref a) (.dict [(.int (a:Nat),.none)])
 | list {a:Addr}{vs:List Value}{n:Nat}{xs:List PyData}:a∉mu->h.get? a=some (lst vs n)->Rds h mu vs xs->Rd h mu (.ref a) (.list xs)
 | tuple {a:Addr}{vs:List Value}{n:Nat}{xs:List PyData}:a∉mu->h.get? a=some (tup vs n)->Rds h mu vs xs->Rd h mu (.ref a) (.tuple xs)
 | kin {a C:Addr}{o:Obj}{vs:List Value}{n:Nat}{xs:List PyData}:a∉mu->h.get? a=some o->o.cls=.ref C->o.data=.seq vs.toArray n->Rds h mu vs xs->Rd h mu (.ref a) (.dict [(.none,.tuple (.int (C:Nat)::xs))])
inductive Rds (h:Heap) (mu:LA):List Value->List PyData->Prop
 | nil:Rds h mu [] []
 | cons {v:Value}{vs:List Value}{x:PyData}{xs:List PyData}:Rd h mu v x->Rds h mu vs xs->Rds h mu (v::vs) (x::xs)
end
section
variable {h:Heap}{mu:LA}{v:Value}{vs:List Value}
theorem Rd.ind {P:Value->PyData->Prop}{Q:List Value->List PyData->Prop}(n:P .none .none) (b:∀b,P (.bool b) (.bool b)) (i:∀i t,P (.int i t) (.int i)) (s:∀x t,P (.str x t) (.str x)) (p:∀a:Addr,P (.ref a) (.dict [(.int (a:Nat),.none)]))
  (l:∀{a vs n xs},a∉mu->h.get? a=some (lst vs n)->Q vs xs->P (.ref a) (.list xs)) (t:∀{a vs n xs},a∉mu->h.get? a=some (tup vs n)->Q vs xs->P (.ref a) (.tuple xs))
  (k:∀{a C:Addr} {o vs n xs},a∉mu->h.get? a=some o->o.cls=.ref C->o.data=.seq vs.toArray n->Q vs xs->P (.ref a) (.dict [(.none,.tuple (.int (C:Nat)::xs))]))
  (f:Q [] []) (e:∀{v vs x xs},Rd h mu v x->P v x->Q vs xs->Q (v::vs) (x::xs)):(∀{v d},Rd h mu v d->P v d)/\∀{vs xs},Rds h mu vs xs->Q vs xs:=
 ⟨λr=>Rd.rec (motive_1:=λv d _=>P v d) (motive_2:=λvs xs _=>Q vs xs) n b i s p (λa b _=>l a b) (λa b _=>t a b) (λa b c d _=>k a b c d) f (λa _ p q=>e a p q) r,
 λr=>Rds.rec (motive_1:=λv d _=>P v d) (motive_2:=λvs xs _=>Q vs xs) n b i s p (λa b _=>l a b) (λa b _=>t a b) (λa b c d _=>k a b c d) f (λa _ p q=>e a p q) r⟩
theorem Rds.indL {Q:List Value->List PyData->Prop}(c:Q [] []) (b:∀{v vs x xs},Rd h mu v x->Q vs xs->Q (v::vs) (x::xs)):∀{vs xs},Rds h mu vs xs->Q vs xs:=
 (Rd.ind (P:=λ_ _=>True) trivial (λ_=>trivial) (λ_ _=>trivial) (λ_ _=>trivial) (λ_=>trivial) (λ_ _ _=>trivial) (λ_ _ _=>trivial) (λ_ _ _ _ _=>trivial) c λa _ q=>b a q).2
inductive zkZ (h:Heap) (mu:LA) (v:Value) (xs:List PyData):Prop
 | mk (a:Addr) (vs:List Value) (n:Nat):v=.ref a->a∉mu->h.get? a=some (lst vs n)->Rds h mu vs xs->zkZ h mu v xs
inductive zmA (h:Heap) (mu:LA) (v:Value) (xs:List PyData):Prop
 | mk (a:Addr) (vs:List Value) (n:Nat):v=.ref a->a∉mu->h.get? a=some (tup vs n)->Rds h mu vs xs->zmA h mu v xs
inductive zjp (h:Heap) (mu:LA) (v:Value) (kvs:List (PyData×PyData)):Prop
 | ptr (a:Addr):v=.ref a->kvs=[(.int (a:Nat),.none)]->zjp h mu v kvs
 | kin (a C:Addr) (o:Obj) (vs:List Value) (n:Nat) (xs:List PyData):v=.ref a->kvs=[(.none,.tuple (.int (C:Nat)::xs))]->a∉mu->h.get? a=some o->o.cls=.ref C->o.data=.seq vs.toArray n->Rds h mu vs xs->zjp h mu v kvs
noncomputable def RdV (h:Heap) (mu:LA) (v:Value):PyData->Prop
 | .none=>v=.none
 | .bool b=>v=.bool b
 | .int i=>∃t,v=.int i t
 | .str x=>∃t,v=.str x t
 | .list xs=>zkZ h mu v xs
 | .tuple xs=>zmA h mu v xs
 | .dict kvs=>zjp h mu v kvs
theorem Rd.view {d:PyData}(r:Rd h mu v d):RdV h mu v d:=by
 cases r with
 | none=>rfl
 | bool=>rfl
 | int i t=>exact⟨t,rfl⟩
 | str x t=>exact⟨t,rfl⟩
 | ptr a=>exact .ptr a rfl rfl
 | list a b c=>exact⟨_,_,_,rfl,a,b,c⟩
 | tuple a b c=>exact⟨_,_,_,rfl,a,b,c⟩
 | kin a b c d e=>exact .kin _ _ _ _ _ _ rfl rfl a b c d e
theorem Rd.intE {i:Int}(r:Rd h mu v (.int i)):∃t,v=.int i t:=r.view
theorem Rd.strE {x:Str}(r:Rd h mu v (.str x)):∃t,v=.str x t:=r.view
theorem Rd.boolE {b:Bool}(r:Rd h mu v (.bool b)):v=.bool b:=r.view
theorem Rd.noneE (r:Rd h mu v .none):v=.none:=r.view
theorem Rd.listE {xs:List PyData}(r:Rd h mu v (.list xs)):zkZ h mu v xs:=r.view
theorem Rd.tupleE {xs:List PyData}(r:Rd h mu v (.tuple xs)):zmA h mu v xs:=r.view
theorem Rd.ptrE {a:Addr}(r:Rd h mu v (Tactic.ptr a)):v=.ref a:=by
 obtain⟨b,e,q⟩|⟨b,C,o,us,n,xs,e,q,_⟩:=(show zjp h mu v _ from r.view)
 .injection q with q;injection q with q;injection q with q;rw[e,Int.ofNat.inj q]
 .injection q with q;injection q with q;injection q
theorem Rds.consE {x:PyData}{xs:List PyData}(r:Rds h mu vs (x::xs)):∃u us,vs=u::us/\Rd h mu u x/\Rds h mu us xs:=by
 have key:∀{ys},Rds h mu vs ys->(match ys with|[]=>vs=[]|x::xs=>∃u us,vs=u::us/\Rd h mu u x/\Rds h mu us xs):=λr=>by
  cases r with
  | nil=>rfl
  | cons a b=>exact⟨_,_,rfl,a,b⟩
 exact key r
theorem Rds.length {xs:List PyData}(r:Rds h mu vs xs):vs.length=xs.length:=r.indL (Q:=λvs xs=>vs.length=xs.length) rfl λ_ e=>congrArg Nat.succ e
theorem Rds.nilE (r:Rds h mu vs []):vs=[]:=List.eq_nil_of_length_eq_zero r.length
theorem Rds.oneE {x:PyData}(r:Rds h mu vs [x]):∃u,vs=[u]/\Rd h mu u x:=by
 obtain⟨u,us,e,a,b⟩:=r.consE;rw[b.nilE] at e;exact⟨u,e,a⟩
theorem Rds.twoE {x y:PyData}(r:Rds h mu vs [x,y]):∃u w,vs=[u,w]/\Rd h mu u x/\Rd h mu w y:=by
 obtain⟨u,us,e,a,b⟩:=r.consE;obtain⟨w,d,c⟩:=b.oneE;rw[d] at e;exact⟨u,w,e,a,c⟩
theorem Rds.threeE {x y z:PyData}(r:Rds h mu vs [x,y,z]):∃u w q,vs=[u,w,q]/\Rd h mu u x/\Rd h mu w y/\Rd h mu q z:=by
 obtain⟨u,us,e,a,b⟩:=r.consE;obtain⟨w,q,f,c,d⟩:=b.twoE;rw[f] at e;exact⟨u,w,q,e,a,c,d⟩
@[elab_as_elim] theorem Rd.ptrK {a:Addr}{G:Value->Prop}(r:Rd h mu v (Tactic.ptr a)) (k:G (.ref a)):G v:=by rw[r.ptrE];exact k
@[elab_as_elim] theorem Rds.consK {x:PyData}{xs:List PyData}{G:List Value->Prop}(r:Rds h mu vs (x::xs)) (k:∀u us,Rd h mu u x->Rds h mu us xs->G (u::us)):G vs:=by
 obtain⟨u,us,e,a,b⟩:=r.consE;rw[e];exact k u us a b
@[elab_as_elim] theorem Rds.nilK {G:List Value->Prop}(r:Rds h mu vs []) (k:G []):G vs:=by rw[r.nilE];exact k
@[elab_as_elim] theorem Rd.listK {xs:List PyData}{G:Value->Prop}(r:Rd h mu v (.list xs)) (k:∀a vs n,a∉mu->h.get? a=some (lst vs n)->Rds h mu vs xs->G (.ref a)):G v:=by
 obtain⟨a,vs,n,e,x,y,z⟩:=r.listE;rw[e];exact k a vs n x y z
@[elab_as_elim] theorem Rd.tupleK {xs:List PyData}{G:Value->Prop}(r:Rd h mu v (.tuple xs)) (k:∀a vs n,a∉mu->h.get? a=some (tup vs n)->Rds h mu vs xs->G (.ref a)):G v:=by
 obtain⟨a,vs,n,e,x,y,z⟩:=r.tupleE;rw[e];exact k a vs n x y z
@[elab_as_elim] theorem Rd.intK {i:Int}{G:Value->Prop}(r:Rd h mu v (.int i)) (k:∀t,G (.int i t)):G v:=by
 obtain⟨t,e⟩:=r.intE;rw[e];exact k t
@[elab_as_elim] theorem Rd.strK {x:Str}{G:Value->Prop}(r:Rd h mu v (.str x)) (k:∀t,G (.str x t)):G v:=by
 obtain⟨t,e⟩:=r.strE;rw[e];exact k t
@[elab_as_elim] theorem Rd.boolK {b:Bool}{G:Value->Prop}(r:Rd h mu v (.bool b)) (k:G (.bool b)):G v:=by rw[r.boolE];exact k
@[elab_as_elim] theorem Rd.noneK {G:Value->Prop}(r:Rd h mu v .none) (k:G .none):G v:=by rw[r.noneE];exact k
@[elab_as_elim] theorem Rd.allK {d:PyData}{G:Value->PyData->Prop}(r:Rd h mu v d) (n:G .none .none) (b:∀b,G (.bool b) (.bool b)) (i:∀i t,G (.int i t) (.int i)) (s:∀x t,G (.str x t) (.str x)) (l:∀a xs,G (.ref a) (.list xs)) (u:∀a xs,G (.ref a) (.tuple xs)) (c:∀a f,G (.ref a) (.dict f)):G v d:=by
 have w:=r.view;cases d with
 | none=>rw[show v=_ from w];exact n
 | bool x=>rw[show v=_ from w];exact b x
 | int x=>exact Exists.elim w λt e=>e▸i x t
 | str x=>exact Exists.elim w λt e=>e▸s x t
 | list xs=>obtain⟨a,_,_,e,_⟩:=(show zkZ h mu v xs from w);rw[e];exact l a xs
 | tuple xs=>obtain⟨a,_,_,e,_⟩:=(show zmA h mu v xs from w);rw[e];exact u a xs
 | dict f=>
  obtain⟨a,e,_⟩|⟨a,_,_,_,_,_,e,_⟩:=(show zjp h mu v f from w)
  .rw [e];exact c a f
  .rw [e];exact c a f
@[elab_as_elim] theorem Rds.one {x:PyData}{G:List Value->Prop}(r:Rds h mu vs [x]) (k:∀u,Rd h mu u x->G [u]):G vs:=by
 obtain⟨u,e,a⟩:=r.oneE;rw[e];exact k u a
@[elab_as_elim] theorem Rds.two {x y:PyData}{G:List Value->Prop}(r:Rds h mu vs [x,y]) (k:∀u w,Rd h mu u x->Rd h mu w y->G [u,w]):G vs:=by
 obtain⟨u,w,e,a,b⟩:=r.twoE;rw[e];exact k u w a b
@[elab_as_elim] theorem Rds.three {x y z:PyData}{G:List Value->Prop}(r:Rds h mu vs [x,y,z]) (k:∀u w q,Rd h mu u x->Rd h mu w y->Rd h mu q z->G [u,w,q]):G vs:=by
 obtain⟨u,w,q,e,a,b,c⟩:=r.threeE;rw[e];exact k u w q a b c
@[elab_as_elim] theorem Rd.tuple2K {x y:PyData}{G:Value->Prop}(r:Rd h mu v (.tuple [x,y])) (k:∀a u w n,a∉mu->h.get? a=some (tup [u,w] n)->Rd h mu u x->Rd h mu w y->G (.ref a)):G v:=by
 obtain⟨a,vs,n,e,p,q,z⟩:=r.tupleE;obtain⟨u,w,f,c,d⟩:=z.twoE;rw[e];exact k a u w n p (f▸q) c d
@[elab_as_elim] theorem Rd.list2K {x y:PyData}{G:Value->Prop}(r:Rd h mu v (.list [x,y])) (k:∀a u w n,a∉mu->h.get? a=some (lst [u,w] n)->Rd h mu u x->Rd h mu w y->G (.ref a)):G v:=by
 obtain⟨a,vs,n,e,p,q,z⟩:=r.listE;obtain⟨u,w,f,c,d⟩:=z.twoE;rw[e];exact k a u w n p (f▸q) c d
@[elab_as_elim] theorem Rd.tuple3K {x y z:PyData}{G:Value->Prop}(r:Rd h mu v (.tuple [x,y,z])) (k:∀a u w b n,a∉mu->h.get? a=some (tup [u,w,b] n)->Rd h mu u x->Rd h mu w y->Rd h mu b z->G (.ref a)):G v:=by
 obtain⟨a,vs,n,e,p,q,s⟩:=r.tupleE;obtain⟨u,w,b,f,c,d,g⟩:=s.threeE;rw[e];exact k a u w b n p (f▸q) c d g
theorem zef:(∀{v d},Rd h mu v d->d.canLay0=true->∃c,Reads h v d c)/\∀{vs xs},Rds h mu vs xs->PyData.canLayAll0 xs=true->∃c,ReadsAll h vs xs c:=
 Rd.ind (λ_=>⟨_,.none⟩) (λb _=>⟨_,.bool b⟩) (λi t _=>⟨_,.int i t⟩) (λi t _=>⟨_,.str i t⟩) (λa z=>by simp[PyData.canLay0] at z)
  (λ_ e q z=>(q (by simpa [PyData.canLay0] using z)).elim λ_ q=>⟨_,.list e rfl rfl (by simpa using q)⟩)
  (λ_ e q z=>(q (by simpa [PyData.canLay0] using z)).elim λ_ q=>⟨_,.tuple e rfl rfl (by simpa using q)⟩)
  (λ_ _ _ _ _ z=>by simp[PyData.canLay0] at z) (λ_=>⟨_,.nil⟩) λ_ p q z=>by
   have f:=zqc.mp z;exact(p f.1).elim λ_ p=>(q f.2).elim λ_ q=>⟨_,.cons p q⟩
theorem Rd.reads {d:PyData}(r:Rd h mu v d):d.canLay0=true->∃a,Reads h v d a:=zef.1 r
theorem Rds.reads {xs:List PyData}(r:Rds h mu vs xs):PyData.canLayAll0 xs=true->∃a,ReadsAll h vs xs a:=zef.2 r
theorem zfH {h':Heap}{mu':LA}(k:∀a o,a∉mu->h.get? a=some o->a∉mu'/\h'.get? a=some o):(∀{v d},Rd h mu v d->Rd h' mu' v d)/\∀{vs xs},Rds h mu vs xs->Rds h' mu' vs xs:=
 Rd.ind .none .bool .int .str .ptr (λn e q=>.list (k _ _ n e).1 (k _ _ n e).2 q) (λn e q=>.tuple (k _ _ n e).1 (k _ _ n e).2 q) (λn e c1 c2 q=>.kin (k _ _ n e).1 (k _ _ n e).2 c1 c2 q) .nil λ_ a b=>.cons a b
theorem Rd.move {h':Heap}{mu':LA}(k:∀a o,a∉mu->h.get? a=some o->a∉mu'/\h'.get? a=some o){d:PyData}(r:Rd h mu v d):Rd h' mu' v d:=(zfH k).1 r
theorem Rds.move {h':Heap}{mu':LA}(k:∀a o,a∉mu->h.get? a=some o->a∉mu'/\h'.get? a=some o){xs:List PyData}(r:Rds h mu vs xs):Rds h' mu' vs xs:=(zfH k).2 r
end
theorem Rd.keep {fs:LA}{h h':Heap}{mu:LA}{d:PyData}{v:Value}(k:Keep fs mu h h') (b:∀a∈fs,a∈mu) (r:Rd h mu v d):Rd h' mu v d:=r.move λ_ _ m e=>⟨m,k.ex m e λq=>m (b _ q)⟩
theorem Rds.keep {fs:LA}{h h':Heap}{mu:LA}{d:List PyData}{v:List Value}(k:Keep fs mu h h') (b:∀a∈fs,a∈mu) (r:Rds h mu v d):Rds h' mu v d:=r.move λ_ _ m e=>⟨m,k.ex m e λq=>m (b _ q)⟩
theorem Rd.more {h h':Heap}{mu:LA}{d:PyData}{v:Value}(k:∀b o,h.get? b=some o->h'.get? b=some o) (r:Rd h mu v d):Rd h' mu v d:=r.move λ_ _ m e=>⟨m,k _ _ e⟩
theorem Rds.more {h h':Heap}{mu:LA}{d:List PyData}{v:List Value}(k:∀b o,h.get? b=some o->h'.get? b=some o) (r:Rds h mu v d):Rds h' mu v d:=r.move λ_ _ m e=>⟨m,k _ _ e⟩
theorem Rd.push {h:Heap}{mu:LA}{d:PyData}{v:Value}(o:Obj) (r:Rd h mu v d):Rd (h.push o) mu v d:=r.more λ_ _ e=>zpD _ e
theorem Rds.push {h:Heap}{mu:LA}{d:List PyData}{v:List Value}(o:Obj) (r:Rds h mu v d):Rds (h.push o) mu v d:=r.more λ_ _ e=>zpD _ e
theorem Rds.get {h:Heap}{mu:LA}{xs:List PyData}{vs:List Value}(r:Rds h mu vs xs){i:Nat}{d:PyData}(e:xs[i]? = some d):∃v,vs[i]? = some v/\Rd h mu v d:=
 r.indL (Q:=λvs xs=>∀i:Nat,xs[i]? = some d->∃v,vs[i]? = some v/\Rd h mu v d) (λ_ e=>zg e) (λa q i e=>by
  cases i with
  | zero=>exact⟨_,rfl,zqr e▸a⟩
  | succ i=>exact q i e) i e
theorem Rds.append {h:Heap}{mu:LA}{xs ys:List PyData}{vs us:List Value}(r:Rds h mu vs xs) (q:Rds h mu us ys):Rds h mu (vs++us) (xs++ys):=
 r.indL (Q:=λvs xs=>Rds h mu (vs++us) (xs++ys)) q λa q=>.cons a q
theorem Rds.take {h:Heap}{mu:LA}(n:Nat){xs:List PyData}{vs:List Value}(r:Rds h mu vs xs):Rds h mu (vs.take n) (xs.take n):=
 r.indL (Q:=λvs xs=>∀n,Rds h mu (List.take n vs) (List.take n xs)) (λn=>by cases n<;>exact .nil) (λa q n=>by
  cases n with
  | zero=>exact .nil
  | succ n=>exact .cons a (q n)) n
theorem Rds.drop {h:Heap}{mu:LA}:∀(n:Nat){xs:List PyData}{vs:List Value},Rds h mu vs xs->Rds h mu (vs.drop n) (xs.drop n):=by
 intro n
 induction n with
 | zero=>exact λr=>r
 | succ n a=>
  intro xs vs r;cases xs with
  | nil=>rw[r.nilE];exact .nil
  | cons x xs=>
   obtain⟨u,us,e,_,b⟩:=r.consE;rw[e];exact a b
theorem Rd.low {h:Heap}{new mu:LA}{v:Value}{d:PyData}(c:∀b∈new,h.objs.size<=b) (r:Rd h mu v d):Rd h (new++mu) v d:=r.move λa o m e=>⟨λq=>by
 rcases zpE.mp q with q|q
 .exact absurd (zpI e) (zpO.mpr (c a q))
 .exact m q,e⟩
theorem Rds.low {h:Heap}{new mu:LA}{v:List Value}{d:List PyData}(c:∀b∈new,h.objs.size<=b) (r:Rds h mu v d):Rds h (new++mu) v d:=r.move λa o m e=>⟨λq=>by
 rcases zpE.mp q with q|q
 .exact absurd (zpI e) (zpO.mpr (c a q))
 .exact m q,e⟩
theorem Rd.sub {h:Heap}{mu mu':LA}{v:Value}{d:PyData}(a:∀b∈mu',b∈mu) (r:Rd h mu v d):Rd h mu' v d:=r.move λ_ _ m e=>⟨λq=>m (a _ q),e⟩
theorem Rds.sub {h:Heap}{mu mu':LA}{v:List Value}{d:List PyData}(a:∀b∈mu',b∈mu) (r:Rds h mu v d):Rds h mu' v d:=r.move λ_ _ m e=>⟨λq=>m (a _ q),e⟩
structure Wd where
 prog:Program
 w:World
 kk:Heap
 tb:Addr
 mg:Str->Option Value
 mb:Str->Option Value
 os:OsState
noncomputable abbrev Wd.M (X:Wd):Model:=model X.prog X.w
structure Wd.Ok (X:Wd):Prop where
 g:X.kk.Ns mainGlobals X.mg
 b:X.kk.Ns builtinsNs X.mb
 bi:∀x:Str,x≠"__name__"->X.mb x=bootBuiltins x
 lim:X.kk.NoLimit
 tb:X.kk.get? X.tb=none
noncomputable def fsOf (A:Around):LA:=(A.frames.getD []).filterMap (·.frame)
noncomputable def TabO:Type:={o:Obj // ∃vs,o={cls:=.none,data:=.fields vs}/\TriplesOk vs.toList}
structure Aft (X:Wd) (A:Around) (s s':Shared):Prop where
 keep:Keep (fsOf A) [X.tb] s.heap s'.heap
 os:s'.os=s.os
 gens:AllBare s.gens->AllBare s'.gens
 size:s.heap.objs.size<=s'.heap.objs.size
 toks:s.toks<=s'.toks
 live:∀o:TabO,s.heap.get? X.tb=some o.1->∃o':TabO,s'.heap.get? X.tb=some o'.1
theorem Aft.refl {X:Wd}{A:Around}{s:Shared}:Aft X A s s:=⟨.refl,rfl,id,zpB _,zpB _,λo e=>⟨o,e⟩⟩
theorem Aft.trans {X:Wd}{A:Around}{s s' c:Shared}(a:Aft X A s s') (b:Aft X A s' c):Aft X A s c:=⟨a.keep.trans b.keep,b.os.trans a.os,λg=>b.gens (a.gens g),zpF a.size b.size,zpF a.toks b.toks,λo e=>let ⟨o',e'⟩:=a.live o e;b.live o' e'⟩
theorem Aft.tok {X:Wd}{A:Around}{s:Shared}(t:Nat) (h:s.toks<=t:=by (first|omega|(dsimp only;omega))):Aft X A s {s with toks:=t}:=⟨.refl,rfl,id,Nat.le_refl _,h,λo e=>⟨o,e⟩⟩
theorem Aft.push {X:Wd}{A:Around}{s:Shared}(o:Obj):Aft X A s {s with heap:=s.heap.push o}:=⟨.push o,rfl,id,by show s.heap.objs.size<=(s.heap.push o).objs.size;rw[zqw];sleep 14,zpB _,λx e=>⟨x,zpD _ e⟩⟩
theorem Aft.pushT {X:Wd}{A:Around}{s:Shared}(o:Obj) (t:Nat) (h:s.toks<=t:=by (first|omega|(dsimp only;omega))):Aft X A s {s with heap:=s.heap.push o,toks:=t}:=(Aft.push o).trans (.tok t h)
theorem Aft.heap {X:Wd}{A:Around}{s:Shared}{h:Heap}{t:Nat}(k:∀b o,s.heap.get? b=some o->h.get? b=some o) (z:s.heap.objs.size<=h.objs.size) (a:s.toks<=t):Aft X A s {s with heap:=h,toks:=t}:=⟨.all k,rfl,id,z,a,λo e=>⟨o,k _ _ e⟩⟩
structure Rdy (X:Wd) (s:Shared):Prop where
 tk:0<s.toks
 tb:∃o:TabO,s.heap.get? X.tb=some o.1
theorem Rdy.aft {X:Wd}{A:Around}{s s':Shared}(r:Rdy X s) (a:Aft X A s s'):Rdy X s':=⟨zpM r.tk a.toks,let ⟨o,e⟩:=r.tb;a.live o e⟩
def Low (mu:LA) (s:Shared):Prop:=∀a∈mu,a<s.heap.objs.size
theorem Low.aft {X:Wd}{A:Around}{mu:LA}{s s':Shared}(l:Low mu s) (a:Aft X A s s'):Low mu s':=λx m=>zpM (l x m) a.size
structure Mu (X:Wd) (A:Around) (mu:LA):Prop where
 tb:X.tb∈mu
 fs:∀a∈fsOf A,a∈mu
theorem Mu.keep {X:Wd}{A:Around}{mu:LA}{s s':Shared}(b:Mu X A mu) (a:Aft X A s s'):Keep (fsOf A) mu s.heap s'.heap:=a.keep.mono λx m=>by rw[zqP.mp m];exact b.tb
theorem Rd.aft {X:Wd}{A:Around}{mu:LA}{s s':Shared}{v:Value}{d:PyData}(b:Mu X A mu) (a:Aft X A s s') (r:Rd s.heap mu v d):Rd s'.heap mu v d:=r.keep (b.keep a) b.fs
inductive Own where
 | lst (xs:List PyData)
 | raw (o:Obj)
 | inst (C dx:Addr) (fs:List (Str×PyData))
noncomputable def Own.ads:Addr×Own->LA
 | (a,.inst _ dx _)=>[a,dx]
 | (a,_)=>[a]
noncomputable def owns (l:List (Addr×Own)):LA:=l.flatMap Own.ads
inductive Flds (h:Heap) (mu:LA):List DictEntry->List (Str×PyData)->Prop
 | nil:Flds h mu [] []
 | cons {x:Str}{t:Tok}{k:Int}{v:Value}{d:PyData}{es:List DictEntry}{fs:List (Str×PyData)}:Rd h mu v d->Flds h mu es fs->Flds h mu (⟨k,.str x t,v⟩::es) ((x,d)::fs)
theorem Flds.keep {fs:LA}{h h':Heap}{mu:LA}(k:Keep fs mu h h') (b:∀a∈fs,a∈mu){es:List DictEntry}{fs:List (Str×PyData)}(x:Flds h mu es fs):Flds h' mu es fs:=by
 induction x with
 | nil=>exact .nil
 | cons r _ c=>exact .cons (r.keep k b) c
noncomputable def zR (h:Heap) (mu:LA) (a:Addr):Own->Prop
 | .lst xs=>∃vs n,h.get? a=some (lst vs n)/\Rds h mu vs xs
 | .raw o=>h.get? a=some o
 | .inst C dx fs=>h.get? a=some ⟨.ref C,some dx,.plain,#[]⟩/\∃es n,h.get? dx=some (dictOf es n)/\Flds h mu es fs
theorem zR.keep {fs:LA}{h h':Heap}{mu:LA}{a:Addr}{o:Own}(x:zR h mu a o) (k:Keep fs mu h h') (d:∀a∈fs,a∈mu) (c:∀b∈Own.ads (a,o),∀f,h.get? b=some f->h'.get? b=some f):zR h' mu a o:=by
 cases o with
 | lst xs=>rcases x with ⟨vs,m,e,r⟩;exact⟨vs,m,c a (by simp[Own.ads]) _ e,r.keep k d⟩
 | raw o=>exact c a (by simp[Own.ads]) _ x
 | inst C dx fs=>rcases x with ⟨e,es,m,g,r⟩;exact⟨c a (by simp[Own.ads]) _ e,es,m,c dx (by simp[Own.ads]) _ g,r.keep k d⟩
inductive FrOk (X:Wd) (h:Heap) (env:Env):Prop
 | mk:env.scope.kind≠.module->(L:Addr)->(o:Obj)->(es:Array DictEntry)->(ep:Nat)->env.frame=some L->X.kk.get? L=none->L≠X.tb->h.get? L=some o->o.data=.dict es ep->FrOk X h env
inductive Frs (X:Wd) (A:Around) (h:Heap):Prop
 | mk (fl:List Env):A.frames=some fl->(∀env∈fl,FrOk X h env)->Frs X A h
theorem Frs.fl {X:Wd}{A:Around}{h:Heap}(x:Frs X A h):∃fl,A.frames=some fl:=let ⟨fl,e,_⟩:=x;⟨fl,e⟩
inductive NmIs (h:Heap) (mu:LA) (o:Option Value) (d:PyData):Prop
 | mk (v:Value):o=some v->Rd h mu v d->NmIs h mu o d
inductive NsIs (h:Heap) (mu:LA) (L:Addr) (l:List (Str×PyData)):Prop
 | mk (m:Str->Option Value):h.Ns L m->(∀x d,l.lookup x=some d->NmIs h mu (m x) d)->NsIs h mu L l
inductive ClIs (X:Wd) (env:Env) (h:Heap) (mu:LA) (x:Str) (d:PyData):Prop
 | mk (a:Addr) (v:Value):env.cells.lookup x=some a->a≠X.tb->h.IsCell a (some v)->Rd h mu v d->ClIs X env h mu x d
theorem FrOk.keep {X:Wd}{fs mu:LA}{h h':Heap}{env:Env}(x:FrOk X h env) (k:Keep fs mu h h') (b:∀L,env.frame=some L->L∉mu):FrOk X h' env:=by
 obtain⟨c,L,o,es,d,a,e,f,g,i⟩:=x;obtain⟨o',j,r⟩:=k L o (b L a) g;exact⟨c,L,o',es,d,a,e,f,j,r.data.1.trans i⟩
theorem Frs.aft {X:Wd}{A:Around}{s s':Shared}(x:Frs X A s.heap) (a:Aft X A s s'):Frs X A s'.heap:=by
 obtain⟨fl,f,b⟩:=x;refine⟨fl,f,λenv c=>(b env c).keep a.keep λL e m=>?_⟩;obtain⟨_,L',_,_,_,d,_,g,_⟩:=b env c;rw[e] at d;cases d;exact g (zqP.mp m)
theorem Frs.none {X:Wd}{A:Around}{h:Heap}(x:Frs X A h){L:Addr}(m:L∈fsOf A):X.kk.get? L=none/\L≠X.tb:=by
 obtain⟨fl,b,c⟩:=x;unfold fsOf at m;rw[b] at m;obtain⟨env,d,a⟩:=zp5.mp m;obtain⟨_,L',_,_,_,e,f,g,_⟩:=c env d;rw[e] at a;cases a;exact⟨f,g⟩
structure Ctx where
 loc:List (Str×PyData)
 cel:List (Str×PyData):=[]
 own:List (Addr×Own):=[]
structure Stat (X:Wd) (env:Env) (sc:Scope):Prop where
 scope:env.scope=sc
 kind:sc.kind=.function
 globals:env.globals=mainGlobals
 builtins:env.builtins=builtinsNs
structure Loc (X:Wd) (A:Around) (env:Env) (mu:LA) (c:Ctx) (s:Shared):Prop where
 stay:X.kk.StaysIn s.heap
 tbm:Mu X A mu
 low:Low mu s
 ltb:env.locals≠X.tb
 ns:NsIs s.heap mu env.locals c.loc
 cell:∀x d,c.cel.lookup x=some d->ClIs X env s.heap mu x d
 cis:∀y a,env.cells.lookup y=some a->a≠X.tb/\∃v,s.heap.IsCell a v
 tk:Rdy X s
 frs:Frs X A s.heap
 own:∀p∈c.own,zR s.heap mu p.1 p.2
 ownNd:(owns c.own).Nodup
 ownMu:∀a∈owns c.own,a∈mu/\a∉fsOf A/\a≠X.tb/\a≠env.locals/\X.kk.get? a=none/\∀y b,env.cells.lookup y=some b->a≠b
theorem zeH {X:Wd}{A:Around}{h:Heap}(x:Frs X A h){o o':Obj}(r:zbA (fsOf A) X.tb o o'):o'=o:=r.elim id λm=>absurd rfl (x.none m.1).2
theorem zu {l:List (Addr×Own)}{p:Addr×Own}{b:Addr}(m:p∈l) (h:b∈Own.ads p):b∈owns l:=zqm.mpr ⟨p,m,h⟩
theorem zH {X:Wd}(O:X.Ok){A:Around}{s s':Shared}(f:Frs X A s.heap) (a:Aft X A s s') (h:X.kk.StaysIn s.heap):X.kk.StaysIn s'.heap:=λb o e=>
 a.keep.ex (by rw[zqP];rintro rfl;rw[O.tb] at e;cases e) (h b o e) λm=>by rw[(f.none m).1] at e;cases e
theorem Ns.same {fs:LA}{b:Addr}{h h':Heap}{m:Str->Option Value}(x:h.Ns b m) (k:∀o,h.get? b=some o->∃o',h'.get? b=some o'/\zbA fs b o o'):h'.Ns b m:=by
 obtain⟨o,es,c,d,hd,r⟩:=x;obtain⟨o',a,q⟩:=k o d;exact⟨o',es,c,a,q.data.1.trans hd,r⟩
theorem IsCell.same {fs:LA}{b:Addr}{h h':Heap}{v:Option Value}(x:h.IsCell b v) (k:∀o,h.get? b=some o->∃o',h'.get? b=some o'/\zbA fs b o o'):h'.IsCell b v:=by
 obtain⟨o,c,r⟩:=x;obtain⟨o',a,q⟩:=k o c;exact⟨o',a,q.data.1.trans r⟩
theorem Loc.aft {X:Wd}(O:X.Ok){A:Around}{env:Env}{mu:LA}{c:Ctx}{s s':Shared}(l:Loc X A env mu c s) (a:Aft X A s s'):Loc X A env mu c s':=by
 have k:=l.tbm.keep a;refine⟨zH O l.frs a l.stay,l.tbm,l.low.aft a,l.ltb,?_,λx d e=>?_,λy b e=>⟨(l.cis y b e).1,let ⟨v,g⟩:=(l.cis y b e).2;⟨v,IsCell.same g λo f=>a.keep _ _ (by simpa using (l.cis y b e).1) f⟩⟩,l.tk.aft a,l.frs.aft a,λp i=>?_,l.ownNd,l.ownMu⟩
 .obtain ⟨m,hn,h⟩:=l.ns;refine⟨m,Ns.same hn λo f=>a.keep _ _ (by simpa using l.ltb) f,λx d e=>?_⟩;obtain⟨v,g,n⟩:=h x d e;exact⟨v,g,n.aft l.tbm a⟩
 .obtain ⟨b,v,h1,h2,h3,h4⟩:=l.cell x d e;exact⟨b,v,h1,h2,IsCell.same h3 λo f=>a.keep _ _ (by simpa using h2) f,h4.aft l.tbm a⟩
 .exact (l.own p i).keep k l.tbm.fs λb j q e=>a.keep.ex (by simpa using (l.ownMu b (zu i j)).2.2.1) e (l.ownMu b (zu i j)).2.1
def Ev (X:Wd) (A:Around) (env:Env) (mu:LA) (e:Expr) (d:PyData) (s:Shared):Prop:=
 ∀(E:VP) (Q:VP),(∀v s',Aft X A s s'->Rd s'.heap mu v d->Q v s')->wpAny X.M A (eval e env) Q E s
def Ts (X:Wd) (A:Around) (env:Env) (e:Expr) (b:Bool) (s:Shared):Prop:=
 ∀(E:VP) (Q:Bool->Shared->Prop),(∀s',Aft X A s s'->Q b s')->wpAny X.M A (isTrue e env (eval e env)) Q E s
variable {X:Wd}{A:Around}{env:Env}{sc:Scope}{mu fr:LA}{c:Ctx}{s:Shared}{E:VP}
section
theorem ev_int {i:Int}{k:Nat}{p:Pos}:Ev X A env mu (.Constant (.int i) k p) (.int i) s:=λ_ _ h=>wpAny_Constant_int (h _ _ (.tok _) (.int _ _))
theorem ev_str {x:Str}{k:Nat}{p:Pos}:Ev X A env mu (.Constant (.str x) k p) (.str x) s:=λ_ _ h=>Constant_str (h _ _ (.tok _) (.str _ _))
theorem zkr {k:Nat}{p:Pos}:Ev X A env mu (.Constant .none k p) .none s:=λ_ _ h=>wpAny_Constant_none (h _ _ .refl .none)
theorem ev_bool {b:Bool}{k:Nat}{p:Pos}:Ev X A env mu (.Constant (.bool b) k p) (.bool b) s:=λ_ _ h=>wpAny_Constant_bool (h _ _ .refl (.bool _))
theorem zf (S:Stat X env sc) (l:Loc X A env mu c s){x:Str}{p:Pos}{d:PyData}(a:sc.names.lookup x=some .local) (hd:(x==("__debug__":Str))=false) (e:c.loc.lookup x=some d):Ev X A env mu (.Name x p) d s:=by
 intro E Q h;obtain⟨m,b,f⟩:=l.ns;obtain⟨v,g,i⟩:=f x d e;exact wpAny_Name (wpAny_loadName_local (by rw[S.scope];exact S.kind) (by unfold Env.kindOf;rw[S.scope];exact a) b g (h _ _ .refl i)) hd
theorem zn8 (S:Stat X env sc) (l:Loc X A env mu c s){x:Str}{p:Pos}{d:PyData}(b:sc.names.lookup x=some .cell) (hd:(x==("__debug__":Str))=false) (e:c.cel.lookup x=some d):Ev X A env mu (.Name x p) d s:=by
 intro E Q h;obtain⟨a,v,f,_,g,i⟩:=l.cell x d e;exact wpAny_Name (wpAny_loadName_cell (by rw[S.scope];exact S.kind) (by unfold Env.kindOf;rw[S.scope];exact b) f g (h _ _ .refl i)) hd
theorem zn7 (S:Stat X env sc) (l:Loc X A env mu c s){x:Str}{p:Pos}{d:PyData}(b:sc.names.lookup x=some .free) (hd:(x==("__debug__":Str))=false) (f:(x==("__classdict__":Str))=false) (e:c.cel.lookup x=some d):Ev X A env mu (.Name x p) d s:=by
 intro E Q h;obtain⟨a,v,g,_,i,j⟩:=l.cell x d e;exact wpAny_Name (wpAny_loadName_free (by rw[S.scope];exact S.kind) (by unfold Env.kindOf;rw[S.scope];exact b) g i (h _ _ .refl j) f) hd
theorem zaK {l r:Expr}{a b:PyData}(O:X.Ok) (g:Mu X A mu) (i:Ev X A env mu l a s) (j:∀s',Aft X A s s'->Ev X A env mu r b s'){K:Value->Value->Shared->Prop}
  (h:∀u v s',Aft X A s s'->Rd s'.heap mu u a->Rd s'.heap mu v b->K u v s'):wpAny X.M A (eval l env) (λu c=>wpAny X.M A (eval r env) (λv d=>K u v d) E c) E s:=
 i _ _ λu c e k=>j c e _ _ λv d f m=>h u v d (e.trans f) (k.aft g f) m
theorem ev_addStr (O:X.Ok) (d:Mu X A mu){l r:Expr}{p:Pos}{a b:Str}(e:Ev X A env mu l (.str a) s) (f:∀s',Aft X A s s'->Ev X A env mu r (.str b) s') (hz:a.length+b.length<=sizeLine) :
  Ev X A env mu (.BinOp l .Add r p) (.str (a++b)) s:=λE Q h=>by
 refine wpAny_BinOp (zaK O d e f λu v s' g i j=>?_);cases i;cases j;exact wpt (PyProof.Rows.add_str (λk tk c _=>h _ _ (g.trans (.tok _ c)) (.str _ _)) hz)
theorem ev_addInt (O:X.Ok) (c:Mu X A mu){l r:Expr}{p:Pos}{a b:Int}(d:Ev X A env mu l (.int a) s) (e:∀s',Aft X A s s'->Ev X A env mu r (.int b) s'):Ev X A env mu (.BinOp l .Add r p) (.int (a+b)) s:=λE Q h=>by
 refine wpAny_BinOp (zaK O c d e λu v s' f g i=>?_);cases g;cases i;exact PyProof.Rows.add_int (h _ _ (f.trans (.tok _)) (.int _ _))
theorem ev_subInt (O:X.Ok) (c:Mu X A mu){l r:Expr}{p:Pos}{a b:Int}(d:Ev X A env mu l (.int a) s) (e:∀s',Aft X A s s'->Ev X A env mu r (.int b) s'):Ev X A env mu (.BinOp l .Sub r p) (.int (a - b)) s:=λE Q h=>by
 refine wpAny_BinOp (zaK O c d e λu v s' f g i=>?_);cases g;cases i;exact PyProof.Rows.sub_int (h _ _ (f.trans (.tok _)) (.int _ _))
theorem ev_modInt (O:X.Ok) (c:Mu X A mu){l r:Expr}{p:Pos}{a b:Int}(d:Ev X A env mu l (.int a) s) (e:∀s',Aft X A s s'->Ev X A env mu r (.int b) s') (f:b≠0):Ev X A env mu (.BinOp l .Mod r p) (.int (a.fmod b)) s:=λE Q h=>by
 refine wpAny_BinOp (zaK O c d e λu v s' g i j=>?_);cases i;cases j;exact PyProof.Rows.mod_int f (h _ _ (g.trans (.tok _)) (.int _ _))
end
open PySem PySem.Calls PyProof.Rows PySem.W PySem.SeqAt
structure Rm (n:Nat) (A:Around):Prop where
 units:A.units+10 * n+400<cLine
 depth:A.depth+2 * n+110<recursionLimit
theorem Rm.deeper {n:Nat}(R:Rm (n+1) A) (e:Env):Rm n (A.deeper e):=⟨by have:=R.units;show A.units+3+10 * n+400<cLine;sleep 109,by have:=R.depth;show A.depth+1+2 * n+110<recursionLimit;sleep 134⟩
theorem Rm.less {n m:Nat}(R:Rm n A) (h:m<=n):Rm m A:=⟨by have:=R.units;sleep 62,by have:=R.depth;sleep 63⟩
theorem Rm.in1 {n:Nat}(R:Rm (n+1) A):Rm n A.in1:=⟨by have:=R.units;show A.units+1+10 * n+400<cLine;sleep 46,by have:=R.depth;show A.depth+2 * n+110<recursionLimit;sleep 35⟩
mutual
noncomputable def dep:PyData->Nat
 | .list xs=>deps xs+1
 | .tuple xs=>deps xs+1
 | .dict kvs=>100+PyData.depth (.dict kvs)
 | _=>0
noncomputable def deps:List PyData->Nat
 | []=>0
 | x::xs=>max (dep x) (deps xs)
end
theorem zl9 {a:List (PyData×PyData)}:dep (.dict a)=100+PyData.depth (.dict a):=rfl
theorem zl8 {xs:List PyData}:dep (.list xs)=deps xs+1:=rfl
theorem zky {xs:List PyData}:dep (.tuple xs)=deps xs+1:=rfl
theorem zkx {x:PyData}{xs:List PyData}:deps (x::xs)=max (dep x) (deps xs):=rfl
theorem zlK {h:Heap}:(∀{v d},Rd h mu v d->PyData.depth d<=dep d+1)/\∀{vs xs},Rds h mu vs xs->PyData.depthAll xs<=deps xs+1:=
 have b:∀a,PyData.depth (.dict a)<=dep (.dict a)+1:=λa=>by rw[zl9];exact zpF (Nat.le_add_left _ 100) (zqz _)
 Rd.ind (P:=λ_ d=>PyData.depth d<=dep d+1) (Q:=λ_ xs=>PyData.depthAll xs<=deps xs+1) (by simp[PyData.depth]) (λ_=>by simp[PyData.depth]) (λ_ _=>by simp[PyData.depth]) (λ_ _=>by simp[PyData.depth]) (λ_=>b _)
  (λ_ _ q=>by rw[PyData.depth,zl8];exact Nat.succ_le_succ q) (λ_ _ q=>by rw[PyData.depth,zky];exact Nat.succ_le_succ q) (λ_ _ _ _ _=>b _) (by simp[PyData.depthAll])
  λ_ p q=>by
   rw[PyData.depthAll,zkx];exact Nat.max_le.mpr ⟨zpF p (zqx (Nat.le_max_left ..)),zpF q (zqx (Nat.le_max_right ..))⟩
theorem Rd.lay {h:Heap}{d:PyData}{v:Value}(r:Rd h mu v d):d.depth<=dep d+1:=zlK.1 r
noncomputable def good (d:PyData):Bool:=d.canLay0&&decide (dep d<40)
theorem zl {d:PyData}:good d=true↔d.canLay0=true/\dep d<40:=by simp[good]
theorem Rd.shaped {h:Heap}{d:PyData}{v:Value}(r:Rd h mu v d) (z:good d=true):SeqAt.shaped d=true:=by
 have:=r.lay;have z:=zl.mp z;show (PyData.canLay0 d&&decide (PyData.depth d<=64))=true;rw[z.1];exact zqk (zpF this (zpF (Nat.succ_le_of_lt z.2) (by ext)))
def Cm (X:Wd) (A:Around) (op:CmpOp) (u v:Value) (b:Bool) (s:Shared):Prop:=
 ∀(E:VP) (Q:VP),(∀s',Aft X A s s'->Q (.bool b) s')->wpAny X.M A (compareOp op u v) Q E s
def Tr (X:Wd) (A:Around) (v:Value) (b:Bool) (s:Shared):Prop:=
 ∀(E:VP) (Q:Bool->Shared->Prop),(∀s',Aft X A s s'->Q b s')->wpAny X.M A (truthy v) Q E s
section
variable {mu mu':LA}{u v:Value}{a b:PyData}
theorem zmj {n:Nat}(R:Rm n A) (c:Rd s.heap mu u a) (d:Rd s.heap mu' v b) (e:good a=true) (f:good b=true):Cm X A .Eq u v (PyData.eqv a b) s:=λE Q h=>by
 obtain⟨j,g⟩:=c.reads (zl.mp e).1;obtain⟨bs,i⟩:=d.reads (zl.mp f).1;exact compareEq_shaped g i (c.shaped e) (d.shaped f) (by have:=R.units;sleep 60) (h _ .refl)
theorem zoh {n:Nat}(R:Rm n A) (c:Rd s.heap mu u a) (d:Rd s.heap mu' v b) (e:good a=true) (f:good b=true):Cm X A .NotEq u v (!PyData.eqv a b) s:=λE Q h=>by
 obtain⟨j,g⟩:=c.reads (zl.mp e).1;obtain⟨bs,i⟩:=d.reads (zl.mp f).1;exact compareNe_shaped g i (c.shaped e) (d.shaped f) (by have:=R.units;sleep 60) (h _ .refl)
theorem zkF {n:Nat}(R:Rm n A){xs:List PyData}(b:Rd s.heap mu u a) (e:Rd s.heap mu' v (.list xs)) (c:good a=true) (d:good (.list xs)=true):Cm X A .In u v (xs.any λy=>PyData.eqv y a) s:=λE Q h=>by
 obtain⟨j,f⟩:=b.reads (zl.mp c).1;obtain⟨bs,g⟩:=e.reads (zl.mp d).1;have k:=b.lay;have g1:=zl.mp c;have i:=zl.mp d;exact in_list_reads g f (by simpa [PyData.canLay0] using i.1) g1.1 (by have:=R.units;sleep 49) (h _ .refl)
theorem zaP {n:Nat}(R:Rm n A){xs:List PyData}(b:Rd s.heap mu u a) (e:Rd s.heap mu' v (.list xs)) (c:good a=true) (d:good (.list xs)=true):Cm X A .NotIn u v (!xs.any λy=>PyData.eqv y a) s:=λE Q h=>by
 obtain⟨j,f⟩:=b.reads (zl.mp c).1;obtain⟨bs,g⟩:=e.reads (zl.mp d).1;have k:=b.lay;have g1:=zl.mp c;have i:=zl.mp d;exact notIn_list_reads g f (by simpa [PyData.canLay0] using i.1) g1.1 (by have:=R.units;sleep 49) (h _ .refl)
theorem zew {n:Nat}(R:Rm n A){xs:List PyData}(b:Rd s.heap mu u a) (e:Rd s.heap mu' v (.tuple xs)) (c:good a=true) (d:good (.tuple xs)=true):Cm X A .In u v (xs.any λy=>PyData.eqv y a) s:=λE Q h=>by
 obtain⟨j,f⟩:=b.reads (zl.mp c).1;obtain⟨bs,g⟩:=e.reads (zl.mp d).1;have k:=b.lay;have g1:=zl.mp c;have i:=zl.mp d;exact in_tuple_reads g f (by simpa [PyData.canLay0] using i.1) g1.1 (by have:=R.units;sleep 49) (h _ .refl)
theorem zmh {x y:Str}{t a:Tok}:Cm X A .In (.str y t) (.str x a) (!(Builtin.Str.occurrences x y 0 x.length 1).isEmpty) s:=λ_ _ h=>PyProof.Rows.in_str (h _ .refl)
theorem zht {x y:Str}{t a:Tok}:Cm X A .NotIn (.str y t) (.str x a) (!(!(Builtin.Str.occurrences x y 0 x.length 1).isEmpty)) s:=λ_ _ h=>P.notIn_str (h _ .refl)
theorem zmf {x y:Int}{t a:Tok}:Cm X A .Lt (.int x t) (.int y a) (decide (x<y)) s:=λ_ _ h=>PyProof.Rows.lt_int (h _ .refl)
theorem zfi {x y:Int}{t a:Tok}:Cm X A .Gt (.int x t) (.int y a) (decide (y<x)) s:=λ_ _ h=>PyProof.Rows.gt_int (h _ .refl)
theorem zmi {x y:Int}{t a:Tok}:Cm X A .GtE (.int x t) (.int y a) (decide (x ≥ y)) s:=λ_ _ h=>P.ge_int (h _ .refl)
theorem zmg {x y:Int}{t a:Tok}:Cm X A .LtE (.int x t) (.int y a) (decide (x<=y)) s:=λ_ _ h=>P.le_int (h _ .refl)
theorem tr_bool {q:Bool}:Tr X A (.bool q) q s:=λ_ _ h=>wpAny_truthy_bool (h _ .refl)
theorem zoD {x:Str}{t:Tok}(z:x.length<=sizeLine):Tr X A (.str x t) ((x.length:Int) != 0) s:=λ_ _ h=>P.truthy_str (Int.not_le.mpr (Int.ofNat_lt.mpr (zqf z (by ext)))) (h _ (.tok _))
end
section
theorem ev_fdiv (O:X.Ok) (c:Mu X A mu){l r:Expr}{p:Pos}{a b:Int}(d:Ev X A env mu l (.int a) s) (e:∀s',Aft X A s s'->Ev X A env mu r (.int b) s') (f:b≠0) (k:b.natAbs.log2<9000):Ev X A env mu (.BinOp l .FloorDiv r p) (.int (a.fdiv b)) s:=λE Q h=>by
 refine wpAny_BinOp (zaK O c d e λu v s' g i j=>?_);cases i;cases j;exact floordiv_int f (h _ _ (g.trans (.tok _)) (.int _ _)) (Or.inl (by
  unfold Builtin.divisionGoesByPylong;rw[Bool.and_eq_false_iff]
  left
  simp only [decide_eq_false_iff_not]
  split<;>lia))
theorem zoW {x:Expr}{p:Pos}{a:Int}(b:Ev X A env mu x (.int a) s):Ev X A env mu (.UnaryOp .USub x p) (.int (-a)) s:=λE Q h=>
 wpAny_UnaryOp (b _ _ λv s' c r=>by cases r;exact neg_int (h _ _ (c.trans (.tok _)) (.int _ _)))
theorem zmP {t x y:Expr}{p:Pos}{d:PyData}(c:Ts X A env t true s) (e:∀s',Aft X A s s'->Ev X A env mu x d s'):Ev X A env mu (.IfExp t x y p) d s:=λE Q h=>
 wpAny_IfExp (c _ _ λs' b=>by rw[if_pos rfl];exact e s' b _ _ λv a f r=>h v a (b.trans f) r)
theorem zmQ {t x y:Expr}{p:Pos}{d:PyData}(c:Ts X A env t false s) (e:∀s',Aft X A s s'->Ev X A env mu y d s'):Ev X A env mu (.IfExp t x y p) d s:=λE Q h=>
 wpAny_IfExp (c _ _ λs' b=>by rw[if_neg (by ext)];exact e s' b _ _ λv a f r=>h v a (b.trans f) r)
theorem zmD {x:Expr}{p:Pos}{b:Bool}(e:Ts X A env x b s):Ts X A env (.UnaryOp .Not x p) (!b) s:=λE Q h=>wpAny_isTrue_Not (e _ _ h)
theorem zQ (O:X.Ok) (e:Mu X A mu){l r:Expr}{c:CmpOp}{p:Pos}{a b:PyData}{q:Bool}(f:Ev X A env mu l a s) (g:∀s',Aft X A s s'->Ev X A env mu r b s') (i:behindInMarks c r=false)
  (j:∀u v s',Aft X A s s'->Rd s'.heap mu u a->Rd s'.heap mu v b->Cm X A c u v q s'):Ts X A env (.Compare l [c] [r] p) q s:=λE Q h=>
 wpAny_isTrue_Compare1 (zaK O e f g λu v s' d k m=>j u v s' d k m _ _ λn o=>wpAny_truthy_bool (h _ (d.trans o))) i
theorem zmR (O:X.Ok) (e:Mu X A mu){l r:Expr}{c:CmpOp}{p:Pos}{a b:PyData}{q:Bool}(f:Ev X A env mu l a s) (g:∀s',Aft X A s s'->Ev X A env mu r b s') (i:behindInMarks c r=false)
  (j:∀u v s',Aft X A s s'->Rd s'.heap mu u a->Rd s'.heap mu v b->Cm X A c u v q s'):Ev X A env mu (.Compare l [c] [r] p) (.bool q) s:=λE Q h=>
 wpAny_Compare1 (zaK O e f g λu v s' d k m=>j u v s' d k m _ _ λn o=>h _ _ (d.trans o) (.bool _)) i
def Evs (X:Wd) (A:Around) (env:Env) (mu:LA) (p:Pos) (es:List Expr) (ds:List PyData) (s:Shared):Prop:=
 ∀(E:VP) (Q:List Value->Shared->Prop),(∀vs s',Aft X A s s'->Rds s'.heap mu vs ds->Q vs s')->wpAny X.M A (spliced (backTo p (starEach es env))) Q E s
theorem evs_nil {p:Pos}:Evs X A env mu p [] [] s:=λ_ _ h=>spliced_none (h _ _ .refl .nil)
noncomputable def plainArg (e:Expr):Bool:=e.ctorIdx != 22
theorem zh {e:Expr}{es:List Expr}(h:plainArg e=true):starEach (e::es) env=(false,eval e env)::starEach es env:=by
 cases e<;>first|rfl|exact absurd h (by ext)
theorem zc (j:Mu X A mu){p:Pos}{e:Expr}{es:List Expr}{d:PyData}{ds:List PyData}(k:plainArg e=true) (l:Ev X A env mu e d s) (m:∀s',Aft X A s s'->Evs X A env mu p es ds s'):Evs X A env mu p (e::es) (d::ds) s:=λE Q h=>
 spliced_more (l _ _ λv c a f=>m c a _ _ λvs i b g=>h _ _ (a.trans b) (.cons (f.aft j b) g)) (zh k)
theorem zb1 (c:Mu X A mu) (b:Low mu s){es:List Expr}{p:Pos}{ds:List PyData}(e:Evs X A env mu p es ds s) (z:ds.length<=sizeLine):Ev X A env mu (.List es p) (.list ds) s:=λE Q h=>
 List_ (e _ _ λvs s' a r=>zp8 (h _ _ (a.trans (.push _)) (.list (λq=>zpZ _ ((b.aft a) _ q)) (zpG _ rfl) (r.push _))) (by show vs.toArray.size<=sizeLine;rw[zqp,r.length];exact z))
theorem zar (c:Mu X A mu) (b:Low mu s){es:List Expr}{k:Nat}{p:Pos}{ds:List PyData}(e:Evs X A env mu p es ds s) (z:ds.length<=sizeLine):Ev X A env mu (.Tuple es k p) (.tuple ds) s:=λE Q h=>
 Tuple_ (e _ _ λvs s' a r=>zp8 (h _ _ (a.trans (.push _)) (.tuple (λq=>zpZ _ ((b.aft a) _ q)) (zpG _ rfl) (r.push _))) (by show vs.toArray.size<=sizeLine;rw[zqp,r.length];exact z))
theorem ev_addList (O:X.Ok) (f:Mu X A mu) (g:Low mu s){l r:Expr}{p:Pos}{a b:List PyData}(i:Ev X A env mu l (.list a) s) (j:∀s',Aft X A s s'->Ev X A env mu r (.list b) s') (hz:a.length+b.length<=sizeLine) :
  Ev X A env mu (.BinOp l .Add r p) (.list (a++b)) s:=λE Q h=>by
 refine wpAny_BinOp (zaK O f i j λu v s' c k m=>?_);cases k with
 | list w o d=>
  cases m with
  | list x t e=>
   refine P.add_list o t (h _ _ (c.trans (.push _)) (.list (vs:=_++_) (n:=0) (λq=>zpZ _ ((g.aft c) _ q)) ?_ ((d.append e).push _))) (by rw[zqp,zqp,d.length,e.length];exact hz);rw[zpG _ rfl];simp
end
noncomputable def cutLo (n:Nat) (lo:Option Int):Nat:=lo.elim 0 (clipAt n)
noncomputable def cutHi (n:Nat) (hi:Option Int):Nat:=hi.elim n (clipAt n)
noncomputable def cutL {α:Type}(xs:List α) (lo hi:Option Int):List α:=(xs.drop (cutLo xs.length lo)).take (cutHi xs.length hi - cutLo xs.length lo)
noncomputable def cutS (x:Str) (lo hi:Option Int):Str:=⟨(cutL x.cps.toList lo hi).toArray⟩
theorem zkH (n:Nat) (i:Int):clipAt n i<=n:=Int.toNat_le.mpr (Int.max_le.mpr ⟨Int.natCast_nonneg n,Int.min_le_right _ _⟩)
theorem zic (n k:Nat):clipAt n (k:Int)=min k n:=by
 unfold clipAt;rw[if_neg (Int.not_lt.mpr (Int.natCast_nonneg k))];rcases Nat.le_total k n with h|h
 .rw [Int.min_eq_left (Int.ofNat_le.mpr h),Nat.min_eq_left h];exact congrArg Int.toNat (Int.max_eq_right (Int.natCast_nonneg k))
 .rw [Int.min_eq_right (Int.ofNat_le.mpr h),Nat.min_eq_right h];exact congrArg Int.toNat (Int.max_eq_right (Int.natCast_nonneg n))
theorem zcK {n k:Nat}(h:k<=n):clipAt n (k:Int)=k:=(zic n k).trans (Nat.min_eq_left h)
theorem zma (n:Nat) (a:Option Int):cutHi n a<=n:=by
 cases a with
 | none=>exact zpB n
 | some i=>exact zkH n i
theorem zh8 {a:Type}(xs:List a) (b c:Option Int):(cutL xs b c).Sublist xs:=(List.take_sublist _ _).trans (List.drop_sublist _ _)
theorem zd3 {c:Type}(xs:List c) (a b:Option Int):(cutL xs a b).length<=xs.length:=(zh8 xs a b).length_le
theorem zeP (items:Array Value) (a b:Option Int):slicePick items a b none=(cutL items.toList a b).toArray:=by
 rw[slicePick_plain];rfl
theorem zdn (x:Str) (a b:Option (Int×Tok)):(slicePicked x a b none).filterMap (x.cps[·]?)=cutL x.cps.toList (a.map (·.1)) (b.map (·.1)):=by
 have e:slicePicked x a b none=sliceRange (sliceBounds (a.map (·.1)) (b.map (·.1)) none x.length).1 (sliceBounds (a.map (·.1)) (b.map (·.1)) none x.length).2.1 1:=by
  cases a<;>cases b<;>rfl
 rw[e,sliceBounds_plain];show (sliceRange ((cutLo x.length (a.map (·.1)):Nat):Int) ((cutHi x.length (b.map (·.1)):Nat):Int) 1).filterMap _=_;rw[sliceRange_one,pick_run]
 rfl
theorem zdm (x:Str) (a b:Option (Int×Tok)):(slicePicked x a b none).length=cutHi x.length (b.map (·.1)) - cutLo x.length (a.map (·.1)):=by
 have e:slicePicked x a b none=sliceRange (sliceBounds (a.map (·.1)) (b.map (·.1)) none x.length).1 (sliceBounds (a.map (·.1)) (b.map (·.1)) none x.length).2.1 1:=by
  cases a<;>cases b<;>rfl
 rw[e,sliceBounds_plain];show (sliceRange ((cutLo x.length (a.map (·.1)):Nat):Int) ((cutHi x.length (b.map (·.1)):Nat):Int) 1).length=_;rw[sliceRange_one];simp
theorem zjH (x:Str):x.cps.toList.length=x.length:=Array.length_toList
theorem zeQ {x:Str}{t:Tok}{a b:Option (Int×Tok)}{Q:VP}(z:x.length<=sizeLine) (h:∀c tk,s.toks<=tk->Q (.str (cutS x (a.map (·.1)) (b.map (·.1))) c) {s with toks:=tk}):(sliceMade x t a b none).post Q s:=by
 unfold sliceMade;have e:((slicePicked x a b none).filterMap (x.cps[·]?))=cutL x.cps.toList (a.map (·.1)) (b.map (·.1)):=zdn x a b
 split
 .rename_i hc;have d:(slicePicked x a b none).length=x.length:=eq_of_beq (zqc.mp hc).2;have f:cutL x.cps.toList (a.map (·.1)) (b.map (·.1))=x.cps.toList:=(zh8 _ _ _).eq_of_length (by
   rw[cutL,List.length_take,List.length_drop,zjH,Nat.min_eq_left (Nat.sub_le_sub_right (zma ..) _)];exact(zdm x a b).symm.trans d)
  have q:=h t s.toks (zpB _);rw[cutS,f] at q;exact q
 .rw [e];exact⟨zpF (zqF zqp) (zpF (zd3 ..) (zjH x▸z)),h _ _ (zqz _)⟩
section
set_option backward.match.sparseCases false in
noncomputable def zav:Expr->Bool
 | .Slice ..=>false
 | _=>true
theorem zM {a:Expr}(h:zav a=true) (o i:Value):subscripted a false o i=operate [o,i] (getItem o i):=by
 cases a<;>first|rfl|exact absurd h (by ext)
theorem zcP {i:Int}{n:Nat}(c:0<=i) (d:i.toNat<n):seqIndex? i n=some i.toNat:=by
 have a:¬i<0:=by lia
 have b:i<n:=by sleep 105
 simp[seqIndex?,a,b,c]
theorem Rds.cut {h:Heap}{xs:List PyData}{vs:List Value}(r:Rds h mu vs xs) (i j:Option Int):Rds h mu (cutL vs i j) (cutL xs i j):=by
 have a:=r.length;unfold cutL;rw[a];exact(r.drop _).take _
theorem ev_itemList (O:X.Ok) (a:Mu X A mu){l r:Expr}{p:Pos}{xs:List PyData}{i:Int}{d:PyData}(b:Ev X A env mu l (.list xs) s) (c:∀s',Aft X A s s'->Ev X A env mu r (.int i) s') (f:zav r=true)
  (g:0<=i) (j:i<2 ^ 63) (k:xs[i.toNat]? = some d):Ev X A env mu (.Subscript l r p) d s:=λE Q h=>by
 refine Subscript_ (zaK O a b c λu v s' m o q=>?_);cases q;cases o with
 | list n e t=>
  obtain⟨y,w,x⟩:=t.get k;exact tail_any ⟨_,e,rfl⟩ PySem.F.slot_list_getitem.lookup (wpAny_getItem_list ⟨_,e,rfl,_,rfl⟩ g j (by simpa using w) (h _ _ m x)) (zM f _ _)
theorem ev_itemTuple (O:X.Ok) (g:Mu X A mu){l r:Expr}{p:Pos}{xs:List PyData}{i:Int}{d:PyData}(j:Ev X A env mu l (.tuple xs) s) (k:∀s',Aft X A s s'->Ev X A env mu r (.int i) s') (m:zav r=true)
  (o:0<=i) (q:i<2 ^ 63) (c:xs[i.toNat]? = some d):Ev X A env mu (.Subscript l r p) d s:=λE Q h=>by
 refine Subscript_ (zaK O g j k λu v s' t w x=>?_);cases x;cases w with
 | tuple n e f=>
  obtain⟨y,z,B⟩:=f.get c;have a:i.toNat<xs.length:=(zpJ.mp c).1;have b:seqIndex? i (List.toArray _).size=some i.toNat:=zcP o (by rw[zqp,f.length];exact a);exact tail_any ⟨_,e,rfl⟩ PySem.F.slot_tuple_getitem.lookup (P.getItem_tuple e (by lia) q b (by simpa using z) (h _ _ t B)) (zM m _ _)
theorem ev_itemStr (O:X.Ok) (d:Mu X A mu){l r:Expr}{p:Pos}{x:Str}{i:Int}{a:Nat}(e:Ev X A env mu l (.str x) s) (f:∀s',Aft X A s s'->Ev X A env mu r (.int i) s') (g:zav r=true)
  (j:0<=i) (q:i<2 ^ 63) (b:x.cps.toList[i.toNat]? = some a):Ev X A env mu (.Subscript l r p) (.str ⟨#[a]⟩) s:=λE Q h=>by
 refine Subscript_ (zaK O d e f λu v s' k m n=>?_);cases n;cases m;have o:i.toNat<x.length:=by
  have:=(zpJ.mp b).1;simpa [Str.length] using this
 refine tail_any (typeIs_str _ _ _) PySem.F.slot_str_getitem.lookup (P.getItem_str (c:=a) (by simp;lia) ?_ (h _ _ (k.trans (.tok _)) (.str _ _))) (zM g _ _);rw[zcP j o];simpa using b
def EvP (X:Wd) (A:Around) (env:Env) (mu:LA) (e:Option Expr) (d:Option Int) (s:Shared):Prop:=
 ∀(E:VP) (Q:VP),(∀s' t,Aft X A s s'->Q (partValue (d.map λi=>(i,t))) s')->wpAny X.M A (evalPart e env) Q E s
theorem zay:EvP X A env mu none none s:=λ_ _ h=>wpAny_evalPart_none (h _ 0 .refl)
theorem zY {e:Expr}{i:Int}(x:Ev X A env mu e (.int i) s):EvP X A env mu (some e) (some i) s:=λ_ _ h=>wpAny_evalPart_some (x _ _ λv s' a r=>by cases r with|int _ t=>exact h _ t a)
theorem zdD (d:Option (Int×Tok)):IsPart (partValue d) (d.map (·.1)):=by
 cases d with
 | none=>exact .none
 | some p=>exact .int _ _
theorem zZ (O:X.Ok) (v:Mu X A mu) (D:Low mu s){l:Expr}{w x:Option Expr}{p p':Pos}{xs:List PyData}{i j:Option Int}(G:Ev X A env mu l (.list xs) s) (H:∀s',Aft X A s s'->EvP X A env mu w i s') (I:∀s',Aft X A s s'->EvP X A env mu x j s')
  (z:xs.length<=sizeLine):Ev X A env mu (.Subscript l (.Slice w x none p') p) (.list (cutL xs i j)) s:=λE Q h=>by
 refine Subscript_ (G _ _ λu d a t=>wpAny_Slice (H d a _ _ λf o b=>I f (a.trans b) _ _ λy r c=>wpAny_evalPart_none ?_));have J:=(a.trans b).trans c;have t:=(t.aft v b).aft v c;have g:=J.trans (.push {cls:=.type "slice",data:=.fields #[partValue (i.map λk=>(k,o)),partValue (j.map λk=>(k,r)),.none]});cases t with
 | list n e B=>
  rename_i vs m;have C:=zpD ({cls:=.type "slice",data:=.fields #[partValue (i.map λk=>(k,o)),partValue (j.map λk=>(k,r)),.none]}:Obj) e;have K:=zdD (i.map λk=>(k,o));have L:=zdD (j.map λk=>(k,r));refine tail_any ⟨_,C,rfl⟩ PySem.F.slot_list_getitem.lookup (wpAny_getItem_list_slice ⟨_,C,rfl,_,rfl⟩ (Heap.IsSliceOf.new ..) K L .none (by simp) ?_ (by rw [List.size_toArray,B.length];exact z)) rfl;rw[zeP];have M:(i.map λk=>(k,o)).map (·.1)=i:=by cases i<;>rfl
  have N:(j.map λk=>(k,r)).map (·.1)=j:=by cases j<;>rfl
  rw[M,N];refine h _ _ (g.trans (.push _)) (.list (vs:=cutL (List.toArray vs).toList i j) (n:=0) (λq=>zpZ _ ((D.aft g) _ q)) (zpG _ rfl) ?_);exact((B.cut i j).push _).push _
theorem zdN (O:X.Ok) (G:Mu X A mu){l:Expr}{o q:Option Expr}{p p':Pos}{x:Str}{i j:Option Int}(t:Ev X A env mu l (.str x) s) (v:∀s',Aft X A s s'->EvP X A env mu o i s') (w:∀s',Aft X A s s'->EvP X A env mu q j s')
  (z:x.length<=sizeLine):Ev X A env mu (.Subscript l (.Slice o q none p') p) (.str (cutS x i j)) s:=λE Q h=>by
 refine Subscript_ (t _ _ λu c a y=>wpAny_Slice (v c a _ _ λd f b=>w d (a.trans b) _ _ λr g e=>wpAny_evalPart_none ?_));have B:=(a.trans b).trans e;have m:=B.trans (.push {cls:=.type "slice",data:=.fields #[partValue (i.map λk=>(k,f)),partValue (j.map λk=>(k,g)),.none]});cases y;refine tail_any (typeIs_str _ _ _) PySem.F.slot_str_getitem.lookup (wpAny_getItem_str_slice (l:=i.map λk=>(k,f)) (u:=j.map λk=>(k,g)) (st:=none) ⟨_,zpG _ rfl,rfl,rfl⟩ rfl (zeQ z λH tk n=>?_)) rfl;have C:(i.map λk=>(k,f)).map (·.1)=i:=by cases i<;>rfl
 have D:(j.map λk=>(k,g)).map (·.1)=j:=by cases j<;>rfl
 rw[C,D];exact h _ _ (m.trans (.tok _ n)) (.str _ _)
end
inductive Fn (X:Wd):Value->Prop
 | builtin (id:String):Fn X (.builtin id)
 | type (T:String):Fn X (.type T)
 | fn {a:Addr}{o:Obj}{fd:FuncData}:X.kk.get? a=some o->o.data=.func fd->Fn X (.ref a)
section
theorem zak {p:Pos}:∀{es:List Expr},es.all plainArg=true->(backTo p (starEach es env)).any (·.1)=false
 | [],_=>rfl
 | e::es,h=>by
  rw[List.all_cons,Bool.and_eq_true] at h;rw[zh h.1];show (false||(backTo p (starEach es env)).any (·.1))=false;rw[zak h.2];rfl
theorem zat {p:Pos}{c:Value}{es:List Expr}{ds:List PyData}{Q:Args->Shared->Prop}(b:es.all plainArg=true) (d:es.length=ds.length) (e:Evs X A env mu p es ds s)
  (h:∀vs s',Aft X A s s'->Rds s'.heap mu vs ds->Q ⟨vs,[]⟩ s'):wpAny X.M A (evalArgs c true (backTo p (starEach es env)) []) Q E s:=by
 cases es with
 | nil=>
  cases ds with
  | nil=>exact PyProof.Rows.evalArgs_none (h _ _ .refl .nil)
  | cons _ _=>cases d
 | cons a es=>
  rw[List.all_cons,Bool.and_eq_true] at b;have z:=e E (λvs s'=>Q ⟨vs,[]⟩ s') h;rw[zh b.1] at z ⊢;exact Calls.evalArgs_plain z
theorem zy (O:X.Ok){p:Pos}{b:Value}{first:List Value}{es:List Expr}{ds:List PyData}{Q:VP}(F:Fn X b) (st:X.kk.StaysIn s.heap) (c:Frs X A s.heap) (a:es.all plainArg=true) (d:es.length=ds.length) (e:Evs X A env mu p es ds s)
  (h:∀vs s',Aft X A s s'->Rds s'.heap mu vs ds->wpAny X.M A (call b (first++vs)) Q E s'):wpAny X.M A (callWith p b first (backTo p (starEach es env)) []) Q E s:=by
 cases F with
 | builtin id=>exact Calls.callWith_builtin (zak a) (zat a d e h)
 | type T=>exact PyProof.Rows.callWith_type (zak a) (zat a d e h)
 | fn g hd=>exact Calls.callWith_function (zat a d e λvs s' f r=>⟨⟨zH O c f st _ _ g,hd⟩,h vs s' f r⟩)
inductive Top1 (X:Wd) (x:Str) (v:Value):Prop
 | glob:X.mg x=some v->Top1 X x v
 | blt:X.mg x=none->X.mb x=some v->Top1 X x v
theorem zw (S:Stat X env sc) (O:X.Ok) (st:X.kk.StaysIn s.heap){x:Str}{p:Pos}{v:Value}{Q:VP}(a:sc.names.lookup x=some .globalImplicit) (hd:(x==("__debug__":Str))=false) (T:Top1 X x v) (h:Q v s) :
  wpAny X.M A (eval (.Name x p) env) Q E s:=by
 refine Calls.Name_function_global (by rw[S.scope];exact S.kind) (by unfold Env.kindOf;rw[S.scope];exact a) ?_ hd;have g:s.heap.Ns env.globals X.mg:=by rw[S.globals];exact O.g.keeps st
 have b:s.heap.Ns env.builtins X.mb:=by rw[S.builtins];exact O.b.keeps st
 cases T with
 | glob e=>exact Calls.loadGlobal_global g e h
 | blt c d=>exact Calls.loadGlobal_builtin g c b d h
def Cl (X:Wd) (A:Around) (mu:LA) (fv:Value) (ds:List PyData) (d:PyData):Prop:=
 ∀(vs:List Value) (s:Shared) (E:VP) (Q:VP),X.kk.StaysIn s.heap->Rdy X s->Frs X A s.heap->Mu X A mu->Low mu s->Rds s.heap mu vs ds->(∀v s',Aft X A s s'->Rd s'.heap mu v d->Q v s')->wpAny X.M A (call fv vs) Q E s
theorem zU (S:Stat X env sc) (O:X.Ok) (l:Loc X A env mu c s){f:Str}{i p:Pos}{b:Value}{es:List Expr}{ds:List PyData}{d:PyData}(j:sc.names.lookup f=some .globalImplicit) (hd:(f==("__debug__":Str))=false) (T:Top1 X f b) (F:Fn X b)
  (k:es.all plainArg=true) (m:es.length=ds.length) (e:Evs X A env mu p es ds s) (C:Cl X A mu b ds d):Ev X A env mu (.Call (.Name f i) es [] p) d s:=λE Q h=>by
 refine zqZ (zw S O l.stay j hd T (zy O (ds:=ds) F l.stay l.frs k m e λvs s' a r=>?_));exact C vs s' E Q (zH O l.frs a l.stay) (l.tk.aft a) (l.frs.aft a) l.tbm (l.low.aft a) r λv g n o=>h v g (a.trans n) o
theorem zex {xs:List PyData}(z:xs.length<2 ^ 62):Cl X A mu (.builtin "len") [.list xs] (.int xs.length):=λvs s E Q st tk d g i r h=>by
 cases r with
 | cons a b=>
  cases b;cases a with
  | list n e f=>
   have c:=f.length;refine call_len_list (items:=List.toArray _) ⟨_,e,rfl,_,rfl⟩ (by rw[zqp,c];sleep 40) (h _ _ (.tok _) ?_);rw[zqp,c];exact .int _ _
theorem zdU {x:Str}(z:x.length<2 ^ 62):Cl X A mu (.builtin "len") [.str x] (.int x.length):=λvs s E Q st tk c d e r h=>by
 cases r with
 | cons a b=>
  cases b;cases a;exact P.len_str (by lia) (h _ _ (.tok _) (.int _ _))
theorem zdT {i:Int}(z:i.natAbs.log2<1920):Cl X A mu (.type "str") [.int i] (.str (Str.ofString (toString i))):=λvs s E Q st tk c d e r h=>by
 cases r with
 | cons a b=>
  cases b;cases a;exact P.str_of_int z (h _ _ (.tok _) (.str _ _))
theorem zgf {x:Str}:Cl X A mu (.type "str") [.str x] (.str x):=λvs s E Q st tk c d e r h=>by
 cases r with
 | cons a b=>
  cases b;cases a;exact P.str_of_str (h _ _ .refl (.str _ _))
end
noncomputable def plainBase:Expr->Bool
 | .Call _ es _ _=>!es.isEmpty
 | _=>true
theorem zab {o:Expr}{name:Str}{t:Sem Value}(h:plainBase o=true):attributeBase o name env t=t:=by
 cases o with
 | Call f b c p=>cases b with
  | nil=>exact absurd h (by ext)
  | cons a r=>cases f<;>rfl
 | _=>rfl
section
theorem zbu {p:Pos}:∀{es:List Expr},es.all plainArg=true->(backTo p (starEach es env)).all (λx=>!x.1)=true
 | [],_=>rfl
 | e::es,h=>by
  rw[List.all_cons,Bool.and_eq_true] at h;rw[zh h.1];show (true&&(backTo p (starEach es env)).all (λx=>!x.1))=true;rw[zbu h.2];rfl
theorem zhj (O:X.Ok) (l:Loc X A env mu c s){o:Expr}{name:Str}{ap p:Pos}{T id:String}{es:List Expr}{ds:List PyData}{d0 d:PyData}(y:PlainAttrs T) (j:Slot T name id) (t:typeOf (.builtin id)=pure (.type "method_descriptor"))
  (z:plainBase o=true) (B:(ap.endLine==p.line)=true) (u:es.all plainArg=true) (D:es.length=ds.length) (H:es.length<29)
  (F:Ev X A env mu o d0 s) (w:∀(v:Value) (s':Shared),Rd s'.heap mu v d0->s'.TypeIs v T/\∀a,v=.ref a->∃x,s'.heap.get? a=some x/\x.dict=none)
  (e:∀s',Aft X A s s'->Evs X A env mu p es ds s') (C:Cl X A mu (.builtin id) (d0::ds) d):Ev X A env mu (.Call (.Attribute o name ap) es [] p) d s:=λE Q h=>by
 refine wpAny_Call_method (zab z) ?_ B y j t (F _ _ λv g b i=>⟨(w v g i).1,(w v g i).2,?_⟩)
 .rw [zbu u];have:es.length+([]:List Keyword).length+0<30:=by simp;sleep 8
  show (true&&true&&decide (es.length+([]:List Keyword).length+0<30))=true;rw[zqk this];rfl
 .refine zy O (ds:=ds) (.builtin id) (zH O l.frs b l.stay) (l.frs.aft b) u D (e g b) λvs k f m=>?_;exact C (v::vs) k E Q (zH O (l.frs.aft b) f (zH O l.frs b l.stay)) (l.tk.aft (b.trans f)) ((l.frs.aft b).aft f) l.tbm ((l.low.aft b).aft f) (.cons (i.aft l.tbm f) m) λG n q r=>h G n ((b.trans f).trans q) r
theorem zbg {v:Value}{s':Shared}{x:Str}(r:Rd s'.heap mu v (.str x)):s'.TypeIs v "str"/\∀a,v=.ref a->∃b,s'.heap.get? a=some b/\b.dict=none:=by
 cases r;exact⟨typeIs_str _ _ _,λa e=>nomatch e⟩
theorem zaI {v:Value}{s':Shared}{xs:List PyData}(r:Rd s'.heap mu v (.list xs)):s'.TypeIs v "list"/\∀a,v=.ref a->∃b,s'.heap.get? a=some b/\b.dict=none:=by
 cases r with
 | list _ e _=>exact⟨⟨_,e,rfl⟩,λa q=>by cases q;exact⟨_,e,rfl⟩⟩
theorem zoj {x y:Str}:Cl X A mu (.builtin "str.find") [.str x,.str y] (.int (Txt.find x y)):=λvs s E Q st tk c d e r h=>by
 refine Rds.two r λ_ _ a b=>?_;cases a;cases b;exact SC.find (h _ _ (.tok _) (.int _ _))
theorem zmm {x y:Str}{i:Int}:Cl X A mu (.builtin "str.find") [.str x,.str y,.int i] (.int (Txt.find3 x y i)):=λvs s E Q st tk c d e r h=>by
 refine Rds.three r λ_ _ _ a b k=>?_;cases a;cases b;cases k;exact SC.find3 (h _ _ (.tok _) (.int _ _))
theorem zfu {h:Heap}{xs:List Str}:∀{vs:List Value},Rds h mu vs (xs.map .str)->∃l,vs=strValues l/\l.map (·.1)=xs:=by
 induction xs with
 | nil=>exact λr=>⟨[],r.nilE,rfl⟩
 | cons x xs c=>
  intro vs r;obtain⟨u,us,e,a,b⟩:=r.consE;obtain⟨t,d⟩:=a.strE;obtain⟨l,f,g⟩:=c b;exact⟨(x,t)::l,by rw[e,d,f];rfl,congrArg (x::·) g⟩
theorem zcQ {h:Heap}:∀(k:Nat) (xs:List Str),Rds h mu (strsFrom k xs) (xs.map .str)
 | _,[]=>.nil
 | k,_::xs=>.cons (.str _ _) (zcQ (k+1) xs)
theorem zmk {x y:Str}(c:(decide (x.length<y.length)||decide (Builtin.Str.strKind x<Builtin.Str.strKind y))=false) (d:(Builtin.Str.occurrences x y 0 x.length (x.length+1)).isEmpty=false) (e:(y.length==0)=false) (f:x.length<=sizeLine)
  (hz:(Builtin.Str.partsBetween x (Builtin.Str.occurrences x y 0 x.length (x.length+1)) y.length).length<=sizeLine) :
  Cl X A mu (.builtin "str.split") [.str x,.str y] (.list ((Builtin.Str.partsBetween x (Builtin.Str.occurrences x y 0 x.length (x.length+1)) y.length).map .str)):=λvs s E Q st tk g j i r h=>by
 refine Rds.two r λ_ _ a b=>?_;cases a;cases b;refine call_meets PySem.F.slot_str_split (typeIs_str _ _ _) PySem.F.entry_str_split (PySem.F.args_str_split_2 _ _) (meets_str_split_sep _ _ _ _ c e d f hz) ?_;exact(h _ _ (.pushT _ _ (zqu _ _)) (.list (λq=>zpZ _ (i _ q)) (zpG _ rfl) (zcQ _ _)))
theorem zkJ {x:Str}{xs:List Str}(c:JoinOk x xs=true):Cl X A mu (.builtin "str.join") [.str x,.list (xs.map .str)] (.str (Txt.join x xs)):=λvs s E Q st tk f j m r h=>by
 refine Rds.two r λ_ _ a b=>?_;cases a;cases b with
 | list n e g=>
  obtain⟨l,rfl,i⟩:=zfu g;exact wpt (SC.join (D:=_) ⟨_,e,rfl,_,rfl⟩ i c λo k d _=>h _ _ (.tok _ d) (.str _ _))
theorem zid {xs:List PyData}{d:PyData}{n:Nat}(R:Rm n A) (g1:good (.list xs)=true) (f:good d=true):Cl X A mu (.builtin "list.count") [.list xs,d] (.int (xs.countP λy=>PyData.eqv y d:Nat)):=λvs s E Q st tk g o p r h=>by
 refine Rds.two r λ_ _ a b=>?_;cases a with
 | list n e i=>
  rename_i j m;have q1:=zl.mp g1;have q2:=zl.mp f;have c1:PyData.canLayAll0 xs=true:=by simpa [PyData.canLay0] using q1.1
  obtain⟨q,c⟩:=i.reads c1;obtain⟨bs,k⟩:=b.reads q2.1;refine call_meets PySem.F.slot_list_count ⟨_,e,rfl⟩ PySem.F.entry_list_count (PySem.F.args_list_count_2 _ _) (list_countAt _ _ _ _ _ _ _) ⟨e,items_eqAt (by simpa using c) k c1 q2.1 (by have:=R.units;have:=b.lay;show A.units+1+min (PyData.depthAll xs) d.depth<cLine;sleep 49),?_⟩;have l:(List.toArray j).toList.countP (λy=>PyData.eqv (readOf s.heap y) d)=xs.countP λy=>PyData.eqv y d:=by
   rw[<-readsAll_map xs _ _ c1 c,List.countP_map]
   rfl
  rw[l];exact h _ _ (.tok _) (.int _ _)
theorem zkI {xs:List PyData}(hz:xs.length<=sizeLine):Cl X A mu (.type "list") [.list xs] (.list xs):=λvs s E Q st tk c f d r h=>by
 refine Rds.one r λ_ a=>?_;cases a with
 | list n e b=>
  refine call_list_seq _ (.inl rfl) e rfl rfl (λh' c' k1 k2=>h _ _ (.heap k1 ?_ (zpB _)) (.list (λq=>zpZ _ (d _ q)) k2 (b.more k1))) (by rw[zqp,b.length];exact hz);exact zqt (zpI k2)
end
noncomputable def setL {α:Type}:List (Str×α)->Str->α->List (Str×α)
 | [],x,d=>[(x,d)]
 | p::r,x,d=>if p.1==x then (x,d)::r else p::setL r x d
theorem zjR {a:Type}{p:Str×a}{r:List (Str×a)}{x:Str}{d:a}:setL (p::r) x d=if p.1==x then (x,d)::r else p::setL r x d:=rfl
theorem zk {f:Type}(x y:Str) (d:f) (l:List (Str×f)):(setL l x d).lookup y=if y=x then some d else l.lookup y:=by
 have c:∀(a:f) (r:List (Str×f)),List.lookup y ((x,a)::r)=if y=x then some a else List.lookup y r:=λa r=>by
  by_cases h:y=x
  .rw [if_pos h,List.lookup,beq_iff_eq.mpr h]
  .rw [if_neg h,List.lookup,zpH.mpr h]
 induction l with
 | nil=>exact c d []
 | cons p r i=>
  have e:setL (p::r) x d=if (p.1==x)=true then (x,d)::r else p::setL r x d:=rfl
  rw[e]
  by_cases g:p.1=x
  .rw [if_pos (beq_iff_eq.mpr g),c];obtain⟨a,b⟩:=p;obtain rfl:a=x:=g;rw[c]
   by_cases h:y=a
   .rw [if_pos h,if_pos h]
   .rw [if_neg h,if_neg h,if_neg h]
  .rw [if_neg λq=>g (eq_of_beq q),List.lookup,List.lookup,i];cases j:y==p.1 with
   | true=>exact(if_neg λq=>g ((eq_of_beq j).symm.trans q)).symm
   | false=>rfl
structure AftL (X:Wd) (A:Around) (fr:LA) (s s':Shared):Prop where
 keep:Keep (fsOf A) (X.tb::fr) s.heap s'.heap
 os:s'.os=s.os
 gens:AllBare s.gens->AllBare s'.gens
 size:s.heap.objs.size<=s'.heap.objs.size
 toks:s.toks<=s'.toks
 live:∀o:TabO,s.heap.get? X.tb=some o.1->∃o':TabO,s'.heap.get? X.tb=some o'.1
section
variable {s s' s'':Shared}
theorem AftL.refl:AftL X A fr s s:=⟨.refl,rfl,id,zpB _,zpB _,λo e=>⟨o,e⟩⟩
theorem AftL.trans (a:AftL X A fr s s') (b:AftL X A fr s' s''):AftL X A fr s s'':=⟨a.keep.trans b.keep,b.os.trans a.os,λg=>b.gens (a.gens g),zpF a.size b.size,zpF a.toks b.toks,λo e=>let ⟨o',e'⟩:=a.live o e;b.live o' e'⟩
theorem Aft.toL (a:Aft X A s s'):AftL X A fr s s':=⟨a.keep.mono λx m=>by rw[List.mem_singleton.mp m];simp,a.os,a.gens,a.size,a.toks,a.live⟩
theorem AftL.toAft (a:AftL X A [] s s'):Aft X A s s':=⟨a.keep,a.os,a.gens,a.size,a.toks,a.live⟩
theorem AftL.fresh {fr':LA}(a:AftL X A fr s s') (h:∀x∈fr,x∈fr'\/s.heap.get? x=none):AftL X A fr' s s':=
 ⟨a.keep.fresh λx m=>by rcases memC m with rfl|m;exact .inl (by simp);exact(h x m).imp (λq=>List.mem_cons_of_mem _ q) id,a.os,a.gens,a.size,a.toks,a.live⟩
end
theorem Low.aftL {s s':Shared}(l:Low mu s) (a:AftL X A fr s s'):Low mu s':=λx m=>zpM (l x m) a.size
noncomputable def Ctx.set (c:Ctx) (x:Str) (d:PyData):Ctx:={c with loc:=setL c.loc x d}
inductive FlS (h₀:Heap) (mu:LA) (L e:Addr) (vs:Array Value) (h:Heap):Prop
 | mk (T:Addr) (oT:Obj) (ts:Array Value) (fl:Value):vs[1]? = some (.ref T)->h₀.objs.size<=T->T∉mu->T≠e->h.get? T=some oT->oT.data=.fields ts->ts[3]? = some fl->(fl=.none\/fl=rawInt L)->FlS h₀ mu L e vs h
inductive FlX (h₀:Heap) (mu:LA) (L:Addr) (e:Addr) (cls:Value) (ds:List PyData) (h:Heap):Prop
 | mk (o:Obj) (vs:Array Value) (t:Addr) (us:List Value) (n:Nat):h.get? e=some o->o.cls=cls->o.data=.fields vs->vs[0]? = some (.ref t)->h.get? t=some (tup us n)->t∉mu->Rds h mu us ds->(vs[1]? = some .none\/FlS h₀ mu L e vs h)->FlX h₀ mu L e cls ds h
structure Fly (h₀:Heap) (mu:LA) (L:Addr) (e:Addr) (cls:Value) (ds:List PyData) (h:Heap):Prop where
 new:h₀.objs.size<=e
 out:e∉mu
 ex:FlX h₀ mu L e cls ds h
theorem Fly.mono {h₀ a h:Heap}{mu mu':LA}{L e:Addr}{cls:Value}{ds:List PyData}(f:Fly a mu L e cls ds h) (c:h₀.objs.size<=a.objs.size) (d:∀b∈mu',b∈mu):Fly h₀ mu' L e cls ds h:=by
 obtain⟨o,vs,t,us,m,g,i,j,k,l,n,p,r⟩:=f.ex;exact⟨zpF c f.new,λq=>f.out (d _ q),o,vs,t,us,m,g,i,j,k,l,λq=>n (d _ q),p.sub d,r.imp id λh=>by obtain⟨T,oT,ts,fl,q1,q2,s,u,v,w,x,y⟩:=h;exact⟨T,oT,ts,fl,q1,zpF c q2,λq=>s (d _ q),u,v,w,x,y⟩⟩
inductive Fl where
 | next|brk|cont
 | ret (d:PyData)
 | exc (cls:Value) (ds:List PyData)
noncomputable def FlIs (mu:LA) (h:Heap):Fl->Flow->Prop
 | .next,f=>f=.next
 | .brk,f=>f=.brk
 | .cont,f=>f=.cont
 | .ret d,f=>∃v,f=.ret v/\Rd h mu v d
 | .exc ..,_=>False
noncomputable def ExIs (h₀:Heap) (mu:LA) (L:Addr) (h:Heap):Fl->Value->Prop
 | .exc cls ds,v=>∃e,v=.ref e/\Fly h₀ mu L e cls ds h
 | _,_=>False
def StR (X:Wd) (A:Around) (env:Env) (mu fr:LA) (t:Sem Flow) (s:Shared) (f:Fl) (c':Ctx):Prop:=
 ∀(E:VP) (Q:Flow->Shared->Prop),(∀f' s',AftL X A fr s s'->Loc X A env mu c' s'->FlIs mu s'.heap f f'->Q f' s')->(∀v s',AftL X A fr s s'->Loc X A env mu c' s'->ExIs s.heap mu env.locals s'.heap f v->E v s')->wpAny X.M A t Q E s
def St (X:Wd) (A:Around) (env:Env) (mu fr:LA) (c:Ctx) (ss:List Stmt) (f:Fl) (c':Ctx):Prop:=∀s,Loc X A env mu c s->StR X A env mu fr (execs ss env) s f c'
def St1 (X:Wd) (A:Around) (env:Env) (mu fr:LA) (c:Ctx) (st:Stmt) (f:Fl) (c':Ctx):Prop:=∀s,Loc X A env mu c s->StR X A env mu fr (exec st env) s f c'
theorem Fly.after {s b:Shared}{L e:Addr}{cls:Value}{ds:List PyData}{h:Heap}(a:AftL X A fr s b) (f:Fly b.heap mu L e cls ds h):Fly s.heap mu L e cls ds h:=f.mono a.size λ_ m=>m
theorem ExIs.after {L:Addr}{s b:Shared}{f:Fl}{v:Value}{h:Heap}(a:AftL X A fr s b) (x:ExIs b.heap mu L h f v):ExIs s.heap mu L h f v:=by
 cases f with
 | exc cls ds=>rcases x with ⟨e,c,d⟩;exact⟨e,c,d.after a⟩
 | _=>exact x
section
variable {c c' c'':Ctx}
structure Frm (X:Wd) (A:Around) (env:Env) (sc:Scope) (mu fr:LA):Prop extends Stat X env sc where
 lmu:env.locals∈mu
 lfr:env.locals∈fr
 new:X.kk.get? env.locals=none
 cel:∀y a,env.cells.lookup y=some a->a≠env.locals
 sub:∀x∈fr,x∈mu
theorem Frm.tfr (F:Frm X A env sc mu fr) (l:Mu X A mu):∀x∈X.tb::fr,x∈mu:=λx m=>by
 refine memK m ?_ λm=>?_
 .exact l.tb
 .exact F.sub x m
theorem zq (F:Frm X A env sc mu fr) (l:Loc X A env mu c s){x:Str}{v:Value}{d:PyData}(I:sc.names.lookup x=some .local) (r:Rd s.heap mu v d){Q:Unit->Shared->Prop}
  (h:∀s',AftL X A fr s s'->Loc X A env mu (c.set x d) s'->Q () s'):wpAny X.M A (storeName env x v) Q E s:=by
 obtain⟨m,J,K⟩:=l.ns;have N:=F.lmu;refine wpAny_storeName_local (by unfold Env.kindOf;rw[F.scope];exact I) J (λh' g i=>?_) (by rw[F.scope,F.kind];rfl);have k:Keep (fsOf A) mu s.heap h':=.sameBut i N;have f:∀b o,b≠env.locals->s.heap.get? b=some o->h'.get? b=some o:=λb o n e=>(i.2 b n).trans e;refine h _ ⟨.sameBut i (zpx _ F.lfr),rfl,id,by show _<=h'.objs.size;rw[i.1];exact zpB _,zqz _,λo e=>⟨o,f _ _ (Ne.symm l.ltb) e⟩⟩ ⟨λb o e=>?_,l.tbm,?_,l.ltb,⟨_,g,λy d' e=>?_⟩,λy d' e=>?_,λy b e=>⟨(l.cis y b e).1,let ⟨j,o,w,z⟩:=(l.cis y b e).2;⟨j,o,f b o (F.cel y b e) w,z⟩⟩,⟨zpM l.tk.tk (zqz _),let ⟨o,e⟩:=l.tk.tb;⟨o,f _ _ (Ne.symm l.ltb) e⟩⟩,?_,λp D=>?_,l.ownNd,l.ownMu⟩
 .refine f b o (λq=>?_) (l.stay b o e);rw[q,F.new] at e;cases e
 .intro a ha;show a<h'.objs.size;rw[i.1];exact l.low a ha
 .have e:(setL c.loc x d).lookup y=some d':=e;rw[zk] at e
  by_cases t:y=x
  .rw [if_pos t] at e;cases e;exact⟨v,by simp[t],r.keep k l.tbm.fs⟩
  .rw [if_neg t] at e;obtain⟨j,O,P⟩:=K y d' e;exact⟨j,by simp[t,O],P.keep k l.tbm.fs⟩
 .obtain⟨a,j,h1,h2,h3,h4⟩:=l.cell y d' e;obtain⟨o,w,z⟩:=h3;exact⟨a,j,h1,h2,⟨o,f a o (F.cel y a h1) w,z⟩,h4.keep k l.tbm.fs⟩
 .obtain⟨fl,h1,h2⟩:=l.frs;refine⟨fl,h1,λR S=>?_⟩;obtain⟨q1,L,o,es,T,q2,G,H,U,V⟩:=h2 R S
  by_cases u:L=env.locals
  .subst u;obtain⟨o',B,C,W,Y,_⟩:=g;exact⟨q1,_,o',B,C,q2,G,H,W,Y⟩
  .exact ⟨q1,L,o,es,T,q2,G,H,f L o u U,V⟩
 .exact (l.own p D).keep k l.tbm.fs λb u Z e=>f b Z (l.ownMu b (zu D u)).2.2.2.1 e
noncomputable def Ctx.setC (c:Ctx) (x:Str) (d:PyData):Ctx:={c with cel:=setL c.cel x d}
structure zW (X:Wd) (A:Around) (env:Env) (fr:LA) (x:Str) (a:Addr):Prop where
 at_:env.cells.lookup x=some a
 fr:a∈fr
 fs:a∉fsOf A
 kk:X.kk.get? a=none
 one:∀y,env.cells.lookup y=some a->y=x
theorem zea (F:Frm X A env sc mu fr) (l:Loc X A env mu c s){x:Str}{a:Addr}{v:Value}{d:PyData}(P:sc.names.lookup x=some .cell) (C:zW X A env fr x a) (r:Rd s.heap mu v d){Q:Unit->Shared->Prop}
  (h:∀s',AftL X A fr s s'->Loc X A env mu (c.setC x d) s'->Q () s'):wpAny X.M A (storeName env x v) Q E s:=by
 obtain⟨J,g⟩:=(l.cis x a C.at_).2;have G:=F.cel x a C.at_;refine wpAny_storeName_cell (by rw[F.scope];exact F.kind) (by unfold Env.kindOf;rw[F.scope];exact P) C.at_ g λh' j k=>?_;have B:Keep (fsOf A) mu s.heap h':=.sameBut k (F.sub a C.fr);have f:∀b o,b≠a->s.heap.get? b=some o->h'.get? b=some o:=λb o n e=>(k.2 b n).trans e;refine h _ ⟨.sameBut k (zpx _ C.fr),rfl,id,by show _<=h'.objs.size;rw[k.1];exact zpB _,zpB _,λo e=>⟨o,f _ _ (Ne.symm (l.cis x a C.at_).1) e⟩⟩ ⟨λb o e=>?_,l.tbm,?_,l.ltb,?_,λy d' e=>?_,λy b e=>⟨(l.cis y b e).1,?_⟩,⟨l.tk.tk,let ⟨o,e⟩:=l.tk.tb;⟨o,f _ _ (Ne.symm (l.cis x a C.at_).1) e⟩⟩,?_,λp K=>?_,l.ownNd,l.ownMu⟩
 .refine f b o (λq=>?_) (l.stay b o e);rw[q,C.kk] at e;cases e
 .intro b i;show b<h'.objs.size;rw[k.1];exact l.low b i
 .obtain⟨m,⟨o,es,H,t,u⟩,hl⟩:=l.ns;refine⟨m,⟨o,es,H,f _ _ (Ne.symm G) t,u⟩,λy d' e=>?_⟩;obtain⟨w,R,S⟩:=hl y d' e;exact⟨w,R,S.keep B l.tbm.fs⟩
 .have e:(setL c.cel x d).lookup y=some d':=e;rw[zk] at e
  by_cases D:y=x
  .rw [if_pos D] at e;cases e;subst D;exact⟨a,v,C.at_,(l.cis y a C.at_).1,j,r.keep B l.tbm.fs⟩
  .rw [if_neg D] at e;obtain⟨b,w,z,I,⟨o,t,u⟩,T⟩:=l.cell y d' e;exact⟨b,w,z,I,⟨o,f b o (λq=>D (C.one y (q▸z))) t,u⟩,T.keep B l.tbm.fs⟩
 .by_cases i:b=a
  .subst i;exact⟨_,j⟩
  .obtain⟨w,o,t,u⟩:=(l.cis y b e).2;exact⟨w,o,f b o i t,u⟩
 .obtain⟨fl,z,I⟩:=l.frs;refine⟨fl,z,λN O=>?_⟩;obtain⟨q1,L,o,es,H,q2,U,V,W,Y⟩:=I N O;refine⟨q1,L,o,es,H,q2,U,V,f L o (λq=>C.fs ?_) W,Y⟩;unfold fsOf;rw[z];exact zp5.mpr ⟨N,O,q▸q2⟩
 .exact (l.own p K).keep B l.tbm.fs λb i Z e=>f b Z ((l.ownMu b (zu K i)).2.2.2.2.2 x a C.at_) e
theorem zeI {t:Sem Flow}{f:Fl}{b:Shared}(a:AftL X A fr s b) (h:StR X A env mu fr t b f c'){Q:Flow->Shared->Prop}
  (g:∀c s',AftL X A fr s s'->Loc X A env mu c' s'->FlIs mu s'.heap f c->Q c s') (i:∀v s',AftL X A fr s s'->Loc X A env mu c' s'->ExIs s.heap mu env.locals s'.heap f v->E v s'):wpAny X.M A t Q E b:=
 h E Q (λc s' d e j=>g c s' (a.trans d) e j) λv s' d e k=>i v s' (a.trans d) e (k.after a)
theorem st_nil:St X A env mu fr c [] .next c:=λ_ l _ _ a _=>wpAny_execs_nil (a _ _ .refl l rfl)
theorem ze (F:Frm X A env sc mu fr){st:Stmt}{a:List Stmt}{f:Fl}(b:St1 X A env mu fr c st .next c') (d:St X A env mu fr c' a f c''):St X A env mu fr c (st::a) f c'':=λs l E Q e g=>
 zpT (b s l E _ (λh s' i l' j=>by
  cases (show h=.next from j);exact zeI i (d s' l') e g) λv s' _ _ k=>False.elim k)
theorem zI {st:Stmt}{e:List Stmt}{f:Fl}(g:f≠.next) (h:St1 X A env mu fr c st f c'):St X A env mu fr c (st::e) f c':=λs l E Q i j=>
 zpT (h s l E _ (λb s' k l' a=>by
  have q:=i b s' k l' a;cases f with
  | next=>exact absurd rfl g
  | brk=>cases (show b=.brk from a);exact q
  | cont=>cases (show b=.cont from a);exact q
  | ret d=>rcases a with ⟨v,rfl,_⟩;exact q
  | exc cls ds=>exact False.elim a) j)
set_option backward.match.sparseCases false in
noncomputable def zah:Expr->Bool
 | .ListComp .. | .SetComp .. | .DictComp ..=>false
 | _=>true
theorem zC {e:Expr}{t:Option Expr}{k:Nat}(h:zah e=true):swapsWith e t k env=pure false:=by
 cases e<;>first|rfl|cases h
theorem zj (F:Frm X A env sc mu fr) (O:X.Ok){x:Str}{xp p:Pos}{e:Expr}{d:PyData}(j:sc.names.lookup x=some .local) (k:zah e=true) (m:∀s,Loc X A env mu c s->Ev X A env mu e d s) :
  St1 X A env mu fr c (.Assign [.Name x xp] e p) .next (c.set x d):=λs l E Q h _=>
 wpAny_Assign_Name (m s l _ _ λv g a b=>zq F (l.aft O a) j b λi f l₂=>h _ _ (a.toL.trans f) l₂ rfl) (zC k)
theorem zeJ {e:Expr}{p:Pos}{d:PyData}(O:X.Ok) (g:∀s,Loc X A env mu c s->Ev X A env mu e d s):St1 X A env mu fr c (.Return (some e) p) (.ret d) c:=λs l E Q h _=>
 wpAny_Return_some (g s l _ _ λv f a b=>h _ _ a.toL (l.aft O a) ⟨v,rfl,b⟩)
theorem zB (F:Frm X A env sc mu fr) (O:X.Ok){t:Expr}{a b:List Stmt}{p:Pos}{f:Fl}{q:Bool}(j:∀s,Loc X A env mu c s->Ts X A env t q s) (g:St X A env mu fr c (if q then a else b) f c'):St1 X A env mu fr c (.If t a b p) f c':=λs l E Q h i=>
 wpAny_If (j s l _ _ λe d=>by
  cases q with
  | true=>rw[if_pos rfl] at g ⊢;exact zeI d.toL (g e (l.aft O d)) h i
  | false=>rw[if_neg (by ext)] at g ⊢;exact zeI d.toL (g e (l.aft O d)) h i)
theorem st1_break {p:Pos}:St1 X A env mu fr c (.Break p) .brk c:=λs l E Q h _=>wpAny_Break (h _ _ .refl l rfl)
theorem st1_continue {p:Pos}:St1 X A env mu fr c (.Continue p) .cont c:=λs l E Q h _=>wpAny_Continue (h _ _ .refl l rfl)
theorem zln {p:Pos}:St1 X A env mu fr c (.Pass p) .next c:=λs l E Q h _=>wpAny_Pass (h _ _ .refl l rfl)
noncomputable def atom (d:PyData):Bool:=@PyData.casesOn (λ_=>Bool) d true (λ_=>true) (λ_=>true) (λ_=>true) (λ_=>false) (λ_=>false) (λ_=>false)
theorem zmw {h:Heap}{v:Value}{d:PyData}(r:Rd h mu v d) (a:atom d=true):∀b,v≠.ref b:=by
 revert a
 refine Rd.allK r ?_ (λ_=>?_) (λ_ _=>?_) (λ_ _=>?_) (λ_ _ a=>?_) (λ_ _ a=>?_) (λ_ _ a=>?_)
 .exact λ_ _ q=>by cases q
 .exact λ_ _ q=>by cases q
 .exact λ_ _ q=>by cases q
 .exact λ_ _ q=>by cases q
 .exact absurd a (by ext)
 .exact absurd a (by ext)
 .exact absurd a (by ext)
theorem zaq (S:Stat X env sc) (O:X.Ok){e:Expr}{p:Pos}{d:PyData}(g:atom d=true) (i:zah e=true) (j:∀s,Loc X A env mu c s->Ev X A env mu e d s):St1 X A env mu fr c (.Expr e p) .next c:=λs l E Q h _=>
 wpAny_Expr (j s l _ _ λv b a f=>by
  have q:=h .next b a.toL (l.aft O a) rfl;cases v<;>first|exact q|exact absurd rfl (zmw f g _)) (by unfold interactive;rw[S.scope,S.kind];rfl) (zC i)
end
inductive FnX (X:Wd) (fa:Addr) (ps:List Str) (body:List Stmt) (sc:Scope):Prop
 | mk (o:Obj) (fd:FuncData):X.kk.get? fa=some o->o.data=.func fd->X.kk.CodeRec fd.code fd.qualname->fd.body=.stmts body->fd.scope=sc->fd.globals=mainGlobals->fd.builtins=builtinsNs->fd.closure=[]->
  (∀vs:List Value,vs.length=ps.length->bindArgs fd ⟨vs,[]⟩=pure (ps.zip vs))->FnX X fa ps body sc
structure FnAt (X:Wd) (fa:Addr) (ps:List Str) (body:List Stmt) (sc:Scope):Prop where
 ex:FnX X fa ps body sc
 kind:sc.kind=.function
 co:sc.isCoroutine=false
 gen:sc.isGenerator=false
 kinds:∀x∈ps,sc.names.lookup x=some .local\/sc.names.lookup x=some .cell
 nd:ps.Nodup
theorem zjk (k:Str->Option NameKind){x:Str}{a:List Str}:∀(us:List Value) (m:Str->Option Value),x∉a->bindL k (a.zip us) m x=m x:=by
 induction a with
 | nil=>exact λ_ _ _=>rfl
 | cons q a d=>
  intro us m b;cases us with
  | nil=>rfl
  | cons u us=>
   rw[List.zip_cons_cons,bindL,d _ _ λh=>b (.tail _ h)]
   by_cases c:k q=some .local
   .rw [if_pos c];exact if_neg (λh:x=q=>b (h▸.head _))
   .rw [if_neg c]
theorem zjl (k:Str->Option NameKind){x:Str}{a:List Str}:∀(us:List Value) (m:Str->Option Value),x∉a->bindC k (a.zip us) m x=m x:=by
 induction a with
 | nil=>exact λ_ _ _=>rfl
 | cons q a d=>
  intro us m b;cases us with
  | nil=>rfl
  | cons u us=>
   rw[List.zip_cons_cons,bindC,d _ _ λh=>b (.tail _ h)]
   by_cases c:k q=some .local
   .rw [if_pos c]
   .rw [if_neg c];exact if_neg (λh:x=q=>b (h▸.head _))
theorem zfl {h:Heap}(k:Str->Option NameKind){ps:List Str}:∀{vs:List Value}{ds:List PyData}(m f:Str->Option Value),ps.Nodup->Rds h mu vs ds->∀{x:Str}{d:PyData},(ps.zip ds).lookup x=some d->
  ∃v,Rd h mu v d/\(k x=some .local->bindL k (ps.zip vs) m x=some v)/\(k x≠some .local->bindC k (ps.zip vs) f x=some v):=by
 induction ps with
 | nil=>exact λ_ _ _ _ _ _ e=>zg e
 | cons p ps g=>
  intro vs ds m f b r x d e;cases ds with
  | nil=>exact zg e
  | cons d0 ds=>
   obtain⟨v,us,rfl,a,r⟩:=r.consE;rw[List.zip_cons_cons,lkp] at e;rw[List.nodup_cons] at b;rw[List.zip_cons_cons,bindL,bindC];refine zb3 e (λi e=>?_) λ_ e=>g _ _ b.2 r e;rw[eq_of_beq i,<-zqr e];exact⟨v,a,λc=>by rw[zjk _ _ _ b.1,if_pos c,if_pos rfl],λc=>by rw[zjl _ _ _ b.1,if_neg c,if_pos rfl]⟩
theorem zbP {n:Nat}{y:Str}{k:NameKind}{r:List (Str×NameKind)}{acc:List (Str×Addr)}:cellsFrom n ((y,k)::r) acc=if k == .cell then cellsFrom (n+1) r ((y,n)::acc) else cellsFrom n r acc:=rfl
theorem zT {names:List (Str×NameKind)}:∀{n:Nat}{acc:List (Str×Addr)}{x:Str},((x,NameKind.cell)∈names\/(acc.lookup x).isSome=true)->((cellsFrom n names acc).lookup x).isSome=true:=by
 induction names with
 | nil=>exact λh=>h.elim nofun id
 | cons p r b=>
  intro n acc x h;obtain⟨y,k⟩:=p;rw[zbP]
  by_cases a:(k == .cell)=true
  .rw [if_pos a];refine b (h.elim (λh=>(zpz.mp h).elim (λe=>.inr ?_) .inl) λh=>.inr ?_)
   .rw [lkp,(Prod.mk.inj e).1,zqG];rfl
   .rw [lkp];cases x==y with
    | true=>rfl
    | false=>exact h
  .rw [if_neg a];exact b (h.imp (λh=>(zpz.mp h).elim (λe=>absurd ((Prod.mk.inj e).2▸zqG _) a) id) id)
theorem zbe {a:Type}(p:Str->Bool){l:List (Str×a)}{x:Str}{d:a}(e:(l.filter λq=>p q.1).lookup x=some d):p x=true/\l.lookup x=some d:=by
 rw[zaS] at e;exact conX e λh e=>⟨h,e⟩
section
variable {n:Nat}{fa:Addr}{ps:List Str}{body:List Stmt}{ds:List PyData}{d:PyData}
theorem zap {e:Env}{L:Addr}(a:e.frame=some L) (h:∃fl,A.frames=some fl):fsOf (A.deeper e)=L::fsOf A:=by
 obtain⟨fl,h⟩:=h;unfold fsOf;rw[zp2 h,h];simp[a]
noncomputable def startC (sc:Scope) (ps:List Str) (ds:List PyData):Ctx:=
 {loc:=(ps.zip ds).filter λq=>sc.names.lookup q.1==some .local,cel:=(ps.zip ds).filter λq=>sc.names.lookup q.1==some .cell}
theorem zb0 (O:X.Ok){fd:FuncData}{s i:Shared}{vs:List Value}(H:fd.scope=sc) (hg:fd.globals=mainGlobals) (U:fd.builtins=builtinsNs) (Z:sc.kind=.function) (nd:ps.Nodup)
  (st:X.kk.StaysIn s.heap) (B:Frs X A s.heap) (V:Mu X A mu) (lw:Low mu s) (r:Rds s.heap mu vs ds)
  (x:InCallC s (callEnvC fd s.heap.objs.size fa).locals (bindL (callEnvC fd s.heap.objs.size fa).kindOf (ps.zip vs) λ_=>none) (callEnvC fd s.heap.objs.size fa).cells (bindC (callEnvC fd s.heap.objs.size fa).kindOf (ps.zip vs) λ_=>none) i) (W:Rdy X i) :
  ∃new,(∀b∈new,hz s<=b)/\Frm X (A.deeper (callEnvC fd s.heap.objs.size fa)) (callEnvC fd s.heap.objs.size fa) sc (new++mu) new/\Loc X (A.deeper (callEnvC fd s.heap.objs.size fa)) (callEnvC fd s.heap.objs.size fa) (new++mu) (startC sc ps ds) i/\
   ∀y,sc.names.lookup y=some .cell->∃a,zW X (A.deeper (callEnvC fd s.heap.objs.size fa)) (callEnvC fd s.heap.objs.size fa) new y a:=by
 generalize G:callEnvC fd s.heap.objs.size fa=env at x;have f:env.locals=s.heap.objs.size:=by rw[<-G];rfl
 have k:env.frame=some s.heap.objs.size:=by rw[<-G];rfl
 have l:env.cells=cellsFrom (s.heap.objs.size+1) sc.names []:=by rw[<-G,<-H];rfl
 have j:env.scope=sc:=by rw[<-G,<-H];rfl
 have t:∀y,env.kindOf y=sc.names.lookup y:=λy=>by unfold Env.kindOf;rw[j]
 have I:=zap (A:=A) (e:=env) k B.fl;have w:X.tb<s.heap.objs.size:=lw _ V.tb;have C:∀b,s.heap.objs.size<=b->X.kk.get? b=none:=λb U=>by
  cases q:X.kk.get? b with
  | none=>rfl
  | some o=>exact absurd (zpI (st _ _ q)) (zpO.mpr U)
 have c:∀y a,env.cells.lookup y=some a->s.heap.objs.size<a:=λy a e=>f▸x.above y a (mem_of_lookup e);let J:LA:=env.cells.filterMap λp=>env.cells.lookup p.1;have D:∀a,a∈J↔∃y,env.cells.lookup y=some a:=λa=>⟨λm=>(zp5.mp m).elim λp h=>⟨p.1,h.2⟩,λh=>h.elim λy e=>zp5.mpr ⟨(y,a),mem_of_lookup e,e⟩⟩;have z:∀b∈s.heap.objs.size::J,s.heap.objs.size<=b:=λb m=>by
  rcases memC m with rfl|m
  .exact zpB _
  .obtain⟨y,e⟩:=(D b).mp m;exact zqt (c y b e)
 have K:s.heap.objs.size<i.heap.objs.size:=f▸x.toInCall.ns.lt;have M:∀b∈s.heap.objs.size::J,b<i.heap.objs.size:=λb m=>by
  rcases memC m with rfl|m
  .exact K
  .obtain⟨y,e⟩:=(D b).mp m;exact(x.cell y b e).lt
 have N:∀a∈fsOf A,a<s.heap.objs.size:=λa m=>by
  obtain⟨fl,E,F⟩:=B;unfold fsOf at m;rw[E] at m;obtain⟨Y,P,hf⟩:=zp5.mp m;obtain⟨_,L',_,_,_,e',_,_,h5,_⟩:=F Y P;rw[e'] at hf;cases hf;exact zpI h5
 have Q:∀{v:Value}{d:PyData},Rd s.heap mu v d->Rd i.heap ((s.heap.objs.size::J)++mu) v d:=λR=>R.move λa o hn ho=>⟨λq=>by
  rcases zpE.mp q with q|q
  .exact absurd (zpI ho) (zpO.mpr (z a q))
  .exact hn q,x.toInCall.keep a o ho⟩
 refine⟨s.heap.objs.size::J,z,⟨⟨j,Z,by rw[<-G];exact hg,by rw[<-G];exact U⟩,by rw[f];simp,by rw[f];simp,by rw[f];exact C _ (Nat.le_refl _),λy a e=>by rw[f];exact Nat.ne_of_gt (c y a e),λy m=>List.mem_append_left _ m⟩,
  ⟨λb o e=>x.toInCall.keep b o (st b o e),⟨List.mem_append_right _ V.tb,λa m=>?_⟩,λa m=>?_,by rw[f];exact Nat.ne_of_gt w,⟨_,x.toInCall.ns,λy d e=>?_⟩,λy d e=>?_,λy a e=>⟨Nat.ne_of_gt (Nat.lt_trans w (c y a e)),_,x.cell y a e⟩,W,?_,λp hp=>by simp[startC] at hp,by simp[owns,startC],λa m=>by simp[owns,startC] at m⟩,λy hy=>?_⟩
 .rw [I] at m;rcases memC m with rfl|m
  .simp
  .exact zpw _ (V.fs a m)
 .rcases zpE.mp m with m|m
  .exact M a m
  .exact zqU (lw a m) K
 .obtain⟨E,F⟩:=zbe (λq=>sc.names.lookup q==some .local) e;obtain⟨v,R,hl,_⟩:=zfl env.kindOf (λ_=>none) (λ_=>none) nd r F;exact⟨v,hl (by rw[t];exact beq_iff_eq.mp E),Q R⟩
 .obtain⟨E,F⟩:=zbe (λq=>sc.names.lookup q==some .cell) e;obtain⟨v,R,_,hc⟩:=zfl env.kindOf (λ_=>none) (λ_=>none) nd r F;have S:=beq_iff_eq.mp E;have g:=zT (n:=s.heap.objs.size+1) (acc:=[]) (.inl (mem_of_lookup S));rw[<-l] at g;obtain⟨a,u⟩:=zp6.mp g;have T:=x.cell y a u;rw[hc (by rw[t,S];decide)] at T;exact⟨a,v,u,zqH (zqU w (c y a u)),T,Q R⟩
 .obtain⟨fl,E,F⟩:=B;refine⟨_,zp2 E,λY P=>?_⟩;rcases memC P with rfl|P
  .obtain⟨o',es',ep',w1,w2,_⟩:=x.toInCall.ns;exact⟨by rw[j,Z];decide,_,o',es',ep',k,C _ (zpB _),zqH w,f▸w1,w2⟩
  .obtain⟨q1,L,o,es,ep,q2,q3,q4,q5,q6⟩:=F Y P;exact⟨q1,L,o,es,ep,q2,q3,q4,x.toInCall.keep _ _ q5,q6⟩
 .have g:=zT (n:=s.heap.objs.size+1) (acc:=[]) (.inl (mem_of_lookup hy));rw[<-l] at g;obtain⟨a,u⟩:=zp6.mp g;refine⟨a,u,zpx _ ((D a).mpr ⟨y,u⟩),λm=>?_,C _ (zqt (c y a u)),λy' e=>name_of_addr x.apart (mem_of_lookup e) (mem_of_lookup u)⟩;rw[I] at m;rcases memC m with rfl|m
  .exact zpZ _ (c y _ u)
  .exact zpZ _ (zqU (N a m) (c y a u))
theorem AftL.back {e:Env}{s s₀ s':Shared}(j:e.frame=some s.heap.objs.size) (f:Frs X A s.heap) (c:∀b o,s.heap.get? b=some o->s₀.heap.get? b=some o) (k:s₀.os=s.os) (l:s₀.gens=s.gens) (hz:s.heap.objs.size<=s₀.heap.objs.size) (n:s.toks<=s'.toks)
  {fr:LA}(h:∀x∈fr,x=s.heap.objs.size\/s.heap.get? x=none) (a:AftL X (A.deeper e) fr s₀ s'):Aft X A s s':=by
 refine⟨λb o p q=>?_,a.os.trans k,λg=>a.gens (l▸g),zpF hz a.size,n,λo e=>a.live o (c _ _ e)⟩;have d:b≠s.heap.objs.size:=zqV (zpI q);have i:b∉X.tb::fr:=λm=>by
  rcases memC m with rfl|m
  .exact p (zqP.mpr rfl)
  .rcases h b m with rfl|w
   .exact d rfl
   .rw [w] at q;cases q
 obtain⟨o',t,r⟩:=a.keep b o i (c b o q);refine⟨o',t,r.imp id λm=>⟨?_,m.2⟩⟩;replace m:=m.1;rw[zap j f.fl] at m;rcases memC m with rfl|m
 .exact absurd rfl d
 .exact m
theorem zez {prog:Program}{w:World}{R:Result->Shared->Prop}{a:Addr}{o:Obj}{fd:FuncData}{c:List Value}{binds:List (Str×Value)}
  (d:A.depth<recursionLimit) (t:s.heap.get? a=some o) (g:o.data=.func fd) (m:s.heap.NoLimit) (q:s.heap.CodeRec fd.code fd.qualname)
  (i:fd.body=.stmts body) (j:bindArgs fd ⟨c,[]⟩=pure binds) (n:fd.closure=[])
  (k:∀x∈binds,fd.scope.names.lookup x.1=some .local\/(fd.scope.names.lookup x.1=some .cell/\((cellsFrom (s.heap.objs.size+1) fd.scope.names []).lookup x.1).isSome=true))
  (h:∀b,InCallC s (callEnvC fd s.heap.objs.size a).locals (bindL (callEnvC fd s.heap.objs.size a).kindOf binds λ_=>none) (callEnvC fd s.heap.objs.size a).cells
    (bindC (callEnvC fd s.heap.objs.size a).kindOf binds λ_=>none) b->s.toks<=b.toks->
   wpAny (model prog w) (A.deeper (callEnvC fd s.heap.objs.size a)) (execs body (callEnvC fd s.heap.objs.size a)) (λf s'=>R (.ok (.ret (match f with | .ret v=>v|_=>.none))) s')
    (λe s'=>wpAny (model prog w) (A.deeper (callEnvC fd s.heap.objs.size a)) (leaving (callEnvC fd s.heap.objs.size a) e) (λ_ l=>R (.error e) l) (λu l=>R (.error u) l) s') b)
  (r:fd.scope.isCoroutine=false) (p:fd.scope.isGenerator=false) (y:fd.scope.kind=.function) :
  codeAny (model prog w) A (.call (.ref a) ⟨c,[]⟩) R s:=by
 refine codeAny_call_function d t g r p i q ?_;rw[j,n];refine zpR (wpt (wpAny_newFunctionEnv_cells y k λenv z s' x B _=>?_));subst z;exact⟨m.keeps x.toInCall.keep,codeAny_func (h s' x B)⟩
structure InFn (A:Around) (env:Env):Prop where
 fr:∃outer,A.frames=some (env::outer)
 at_:env.frame=some env.locals
def zP (X:Wd) (A:Around) (n:Nat) (sc:Scope) (ps:List Str) (ds:List PyData) (body:List Stmt) (f:Fl):Prop:=
 ∀(A':Around) (env:Env) (mu' fr':LA),Rm n A'->A'.handled=A.handled->InFn A' env->Frm X A' env sc mu' fr'->(∀y,sc.names.lookup y=some .cell->∃a,zW X A' env fr' y a)->∀s,Loc X A' env mu' (startC sc ps ds) s->
  ∀(E:VP) (Q:Flow->Shared->Prop),(∀f' s',AftL X A' fr' s s'->FlIs mu' s'.heap f f'->Q f' s')->(∀v s',AftL X A' fr' s s'->Frs X A' s'.heap->X.kk.StaysIn s'.heap->ExIs s.heap mu' env.locals s'.heap f v->E v s')->wpAny X.M A' (execs body env) Q E s
theorem zP.of {f:Fl}(h:∀(b:Around) (env:Env) (mu' fr':LA),Rm n b->b.handled=A.handled->InFn b env->Frm X b env sc mu' fr'->(∀y,sc.names.lookup y=some .cell->∃a,zW X b env fr' y a)->∃c',St X b env mu' fr' (startC sc ps ds) body f c'):zP X A n sc ps ds body f:=
 λb env mu' fr' R c d F C s l E Q e g=>by
  obtain⟨c',i⟩:=h b env mu' fr' R c d F C;exact i s l E Q (λj s' a l' k=>e j s' a k) λv s' a l' m=>g v s' a l'.frs l'.stay m
theorem zi8 (O:X.Ok) (R:Rm (n+1) A) (F:FnAt X fa ps body sc) (C:ds.length=ps.length) (D:zP X A n sc ps ds body (.ret d)):Cl X A mu (.ref fa) ds d:=λvs s E Q st tk c G H r h=>by
 obtain⟨o,fd,I,hd,J,l,a,K,p,q,f⟩:=F.ex;have i:vs.length=ps.length:=by rw[r.length,C]
 refine wpt (zqY (zez (fd:=fd) (body:=body) (binds:=ps.zip vs) (by have:=R.depth;sleep 110) (st _ _ I) hd (O.lim.keeps st) (J.keeps st) l (f vs i) q (λy L=>?_) (λB x g=>?_) (by rw[a];exact F.co) (by rw[a];exact F.gen) (by rw[a];exact F.kind)))
 .rw [a];refine(F.kinds _ (List.of_mem_zip L).1).imp id λe=>⟨e,zT (.inl (mem_of_lookup e))⟩
 obtain⟨new,j,fr,M,cel⟩:=zb0 (fa:=fa) O a K p F.kind F.nd st c G H r x ⟨zpM tk.tk g,let ⟨o,e⟩:=tk.tb;⟨o,x.toInCall.keep _ _ e⟩⟩;obtain⟨⟨k,t,rfl⟩,u,w,_⟩:=x.toInCall;have z:s.heap.objs.size<=k.objs.size:=zqt u.lt;refine D _ _ _ _ (R.deeper _) rfl ⟨⟨_,zp2 c.fl.choose_spec⟩,rfl⟩ fr cel _ M _ _ (λV s' N P S _=>?_) λv s' _ _ _ T=>False.elim T;obtain⟨v,rfl,U⟩:=P;exact h v s' (N.back (s:=s) rfl c w rfl rfl z S λx m=>.inr (zpK (j x m))) (U.sub λb m=>zpw _ m)
end
noncomputable def zbM:PyData->Option Int
 | .int i=>some i
 | _=>none
noncomputable def zc2:PyData->Option Str
 | .str x=>some x
 | _=>none
noncomputable def zgt:PyData->Option (List PyData)
 | .list x=>some x
 | _=>none
theorem zv {d:PyData}{i:Int}(h:zbM d=some i):d=.int i:=by cases d<;>first|exact zg h|exact congrArg _ (zqr h)
theorem zO {d:PyData}{i:Str}(h:zc2 d=some i):d=.str i:=by cases d<;>first|exact zg h|exact congrArg _ (zqr h)
theorem zbj {d:PyData}{i:List PyData}(h:zgt d=some i):d=.list i:=by cases d<;>first|exact zg h|exact congrArg _ (zqr h)
noncomputable def zbh:PyData->Bool
 | .none=>true
 | _=>false
noncomputable def int2 {α:Type}(f:Int->Int->α) (a b:PyData):Option α:=(zbM a).bind λx=>(zbM b).map (f x)
noncomputable def addD (a b:PyData):Option PyData:=match a with
 | .int x=>(zbM b).map λy=>.int (x+y)
 | .str x=>(zc2 b).bind λy=>if x.length+y.length<=sizeLine then some (.str (x++y)) else none
 | .list x=>(zgt b).bind λy=>if x.length+y.length<=sizeLine then some (.list (x++y)) else none
 | _=>none
noncomputable def binD (op:Operator) (a b:PyData):Option PyData:=match op with
 | .Add=>addD a b
 | .Sub=>int2 (λx y=>.int (x - y)) a b
 | .Mod=>(zbM a).bind λx=>(zbM b).bind λy=>if y≠0 then some (.int (x.fmod y)) else none
 | .FloorDiv=>(zbM a).bind λx=>(zbM b).bind λy=>if y≠0/\y.natAbs.log2<9000 then some (.int (x.fdiv y)) else none
 | _=>none
noncomputable def inD (a b:PyData):Option Bool:=match b with
 | .str y=>(zc2 a).map λx=>!(Builtin.Str.occurrences y x 0 y.length 1).isEmpty
 | .list xs=>if good a=true/\good (.list xs)=true then some (xs.any λy=>PyData.eqv y a) else none
 | .tuple xs=>if good a=true/\good (.tuple xs)=true then some (xs.any λy=>PyData.eqv y a) else none
 | _=>none
noncomputable def cmI (op:CmpOp) (a b:PyData):Option Bool:=match op with
 | .Eq=>if good a=true/\good b=true then some (PyData.eqv a b) else none
 | .NotEq=>if good a=true/\good b=true then some (!PyData.eqv a b) else none
 | .In=>inD a b
 | .NotIn=>(inD a b).map (!·)
 | .Is=>if zbh b=true then some (zbh a) else none
 | .IsNot=>if zbh b=true then some (!(zbh a)) else none
 | .Lt=>int2 (λx y=>decide (x<y)) a b
 | .Gt=>int2 (λx y=>decide (y<x)) a b
 | .GtE=>int2 (λx y=>decide (x ≥ y)) a b
 | .LtE=>int2 (λx y=>decide (x<=y)) a b
noncomputable def trD:PyData->Option Bool
 | .bool b=>some b
 | .str x=>if x.length<=sizeLine then some ((x.length:Int) != 0) else none
 | _=>none
noncomputable def nthD (b:PyData) (f:Nat->Option PyData):Option PyData:=(zbM b).bind λi=>if 0<=i/\i<2 ^ 63 then f i.toNat else none
noncomputable def zoR (a b:PyData):Option PyData:=match a with
 | .list xs=>nthD b λi=>xs[i]?
 | .tuple xs=>nthD b λi=>xs[i]?
 | .str x=>nthD b λi=>(x.cps.toList[i]?).map λcp=>.str ⟨#[cp]⟩
 | _=>none
noncomputable def cutD (a:PyData) (i j:Option Int):Option PyData:=match a with
 | .list xs=>if xs.length<=sizeLine then some (.list (cutL xs i j)) else none
 | .str x=>if x.length<=sizeLine then some (.str (cutS x i j)) else none
 | _=>none
noncomputable abbrev FT:=Str->List PyData->Option PyData
section
variable {n:Nat}{a b:PyData}{q:Bool}{u v:Value}
theorem zfh {c:CmpOp}{f:Int->Int->Bool}(H:∀x y t g,Cm X A c (.int x t) (.int y g) (f x y) s) (h:int2 f a b=some q) (d:Rd s.heap mu u a) (e:Rd s.heap mu v b):Cm X A c u v q s:=
 zi h λx i h=>mapX h λy j=>by
  rw[zv i] at d;rw[zv j] at e;obtain⟨_,rfl⟩:=d.intE;obtain⟨_,rfl⟩:=e.intE;exact H _ _ _ _
theorem zfg (R:Rm n A){xs:List PyData}{mu':LA}(b:Rd s.heap mu u a) (e:Rd s.heap mu' v (.tuple xs)) (c:good a=true) (d:good (.tuple xs)=true):Cm X A .NotIn u v (!xs.any λy=>PyData.eqv y a) s:=λE Q h=>by
 obtain⟨j,f⟩:=b.reads (zl.mp c).1;obtain⟨bs,g⟩:=e.reads (zl.mp d).1;have k:=b.lay;have g1:=zl.mp c;have i:=zl.mp d;exact notIn_tuple_reads g f (by simpa [PyData.canLay0] using i.1) g1.1 (by have:=R.units;sleep 49) (h _ .refl)
theorem zo5 (R:Rm n A) (h:inD a b=some q) (c:Rd s.heap mu u a) (d:Rd s.heap mu v b):Cm X A .In u v q s/\Cm X A .NotIn u v (!q) s:=by
 cases b with
 | str y=>
  refine mapX h λx e=>?_;rw[zO e] at c;obtain⟨_,rfl⟩:=c.strE;obtain⟨_,rfl⟩:=d.strE;exact⟨zmh,zht⟩
 | list xs=>exact iteX h λg h=>zr h ⟨zkF R c d g.1 g.2,zaP R c d g.1 g.2⟩
 | tuple xs=>exact iteX h λg h=>zr h ⟨zew R c d g.1 g.2,zfg R c d g.1 g.2⟩
 | _=>exact zg h
theorem zo4 (f:Rd s.heap mu u a) (h:zbh b=true) (d:Rd s.heap mu v b):Cm X A .Is u v (zbh a) s/\Cm X A .IsNot u v (!(zbh a)) s:=by
 have e:b=.none:=by cases b<;>first|rfl|cases h
 rw[e] at d;rw[d.noneE];have c:∀a,Cm X A .Is (.ref a) .none false s/\Cm X A .IsNot (.ref a) .none true s:=λ_=>⟨λ_ _ h=>is_ref_none (h _ .refl),λ_ _ h=>wpAny_isNot_other ⋯ (by intro q;cases q) (h _ .refl)⟩;refine Rd.allK f ?_ (λ_=>?_) (λ_ _=>?_) (λ_ _=>?_) (λa _=>c a) (λa _=>c a) (λa _=>c a)
 .exact ⟨λ_ _ h=>wpAny_is_self ⋯ (h _ .refl),λ_ _ h=>wpAny_isNot_self ⋯ (h _ .refl)⟩
 all_goals exact⟨λ_ _ h=>wpAny_is_other ⋯ (by intro q;cases q) (h _ .refl),λ_ _ h=>wpAny_isNot_other ⋯ (by intro q;cases q) (h _ .refl)⟩
theorem zkG (R:Rm n A){e:CmpOp}(h:cmI e a b=some q) (c:Rd s.heap mu u a) (d:Rd s.heap mu v b):Cm X A e u v q s:=by
 cases e with
 | Eq=>exact iteX h λg h=>zr h (zmj R c d g.1 g.2)
 | NotEq=>exact iteX h λg h=>zr h (zoh R c d g.1 g.2)
 | In=>exact(zo5 R h c d).1
 | NotIn=>exact mapX h λ_ h=>(zo5 R h c d).2
 | Is=>exact iteX h λg h=>zr h (zo4 c g d).1
 | IsNot=>exact iteX h λg h=>zr h (zo4 c g d).2
 | Lt=>exact zfh (λ_ _ _ _=>zmf) h c d
 | Gt=>exact zfh (λ_ _ _ _=>zfi) h c d
 | GtE=>exact zfh (λ_ _ _ _=>zmi) h c d
 | LtE=>exact zfh (λ_ _ _ _=>zmg) h c d
theorem zla (h:trD a=some q) (c:Rd s.heap mu u a):Tr X A u q s:=by
 revert h
 refine Rd.allK c ?_ ?_ ?_ ?_ ?_ ?_ ?_
 .exact λh=>zg h
 .exact λb h=>zr h tr_bool
 .exact λi t h=>zg h
 .exact λx t h=>iteX h λz h=>zr h (zoD z)
 .exact λ_ _ h=>zg h
 .exact λ_ _ h=>zg h
 .exact λ_ _ h=>zg h
set_option backward.match.sparseCases false in
noncomputable def valE:Expr->Bool
 | .UnaryOp op _ _=>(match op with | .Not=>false|_=>true)
 | .BoolOp _ _ _=>false
 | .IfExp _ _ _ _=>false
 | .Compare _ _ _ _=>false
 | _=>true
theorem zaN {e:Expr}(i:valE e=true) (j:Ev X A env mu e a s) (k:∀u s',Rd s'.heap mu u a->Tr X A u q s'):Ts X A env e q s:=λE Q h=>by
 have key:isTrue e env (eval e env)=(do let v <-eval e env;standAt e.pos;holding [v] (truthy v)):=by
  cases e with
  | UnaryOp l x p=>cases l<;>first|rfl|cases i
  | BoolOp=>cases i
  | IfExp=>cases i
  | Compare=>cases i
  | _=>rfl
 rw[key];exact wpB (j _ _ λv b c d=>wpB (zqI (zpS (k v b d _ _ λf g=>h f (c.trans g)))))
end
theorem Flds.map {h h':Heap}{mu mu':LA}(k:∀{v d},Rd h mu v d->Rd h' mu' v d){es:List DictEntry}{fs:List (Str×PyData)}(x:Flds h mu es fs):Flds h' mu' es fs:=by
 induction x with
 | nil=>exact .nil
 | cons r _ a=>exact .cons (k r) a
theorem Flds.low {h:Heap}{new mu:LA}(a:∀b∈new,h.objs.size<=b){es:List DictEntry}{fs:List (Str×PyData)}(x:Flds h mu es fs):Flds h (new++mu) es fs:=x.map (·.low a)
theorem Flds.sub {h:Heap}{mu mu':LA}(a:∀b∈mu',b∈mu){es:List DictEntry}{fs:List (Str×PyData)}(x:Flds h mu es fs):Flds h mu' es fs:=x.map (·.sub a)
theorem zR.low {h:Heap}{new mu:LA}{a:Addr}{o:Own}(c:∀b∈new,h.objs.size<=b) (x:zR h mu a o):zR h (new++mu) a o:=by
 cases o with
 | lst xs=>rcases x with ⟨vs,m,e,r⟩;exact⟨vs,m,e,r.low c⟩
 | raw o=>exact x
 | inst C dx fs=>rcases x with ⟨e,es,m,d,r⟩;exact⟨e,es,m,d,r.low c⟩
structure Apart (X:Wd) (A:Around) (env:Env) (ow:LA) (ch:LA):Prop where
 kk:∀b∈ch,X.kk.get? b=none
 tb:X.tb∉ch
 loc:env.locals∉ch
 fs:∀b∈ch,b∉fsOf A
 own:∀b∈ch,b∉ow
 cel:∀b∈ch,∀y a,env.cells.lookup y=some a->b≠a
section
variable {s s':Shared}
theorem Frs.lt (f:Frs X A s.heap){L:Addr}(m:L∈fsOf A):L<hz s:=by
 obtain⟨fl,b,c⟩:=f;unfold fsOf at m;rw[b] at m;obtain⟨d,e,a⟩:=zp5.mp m;obtain⟨_,L',_,_,_,g,_,_,h,_⟩:=c d e;rw[g] at a;cases a;exact zpI h
theorem Apart.fresh (l:Loc X A env mu c s){ch:LA}(h:∀b∈ch,hz s<=b):Apart X A env (owns c.own) ch where
 kk b m:=by
  cases q:X.kk.get? b with
  | none=>rfl
  | some o=>exact absurd (zpI (l.stay _ _ q)) (zpO.mpr (h b m))
 tb m:=absurd (l.low _ l.tbm.tb) (zpO.mpr (h _ m))
 loc m:=by obtain⟨_,d,_⟩:=l.ns;exact absurd d.lt (zpO.mpr (h _ m))
 fs b m q:=absurd (l.frs.lt q) (zpO.mpr (h b m))
 own b m q:=absurd (l.low _ (l.ownMu b q).1) (zpO.mpr (h b m))
 cel b m y a e q:=absurd (l.cis y a e).2.choose_spec.lt (zpO.mpr (q▸h b m))
theorem Loc.upd (l:Loc X A env mu c s){ch:LA}(ap:Apart X A env (owns c.own) ch) (sub:∀b∈ch,b∈mu) (k:∀b o,b∉ch->s.heap.get? b=some o->s'.heap.get? b=some o) (z:hz s<=hz s') (r:s.toks<=s'.toks):Loc X A env mu c s':=by
 have f:Keep (fsOf A) mu s.heap s'.heap:=.but λb o m e=>k b o (λq=>m (sub b q)) e;refine⟨λb o e=>k b o (λq=>by rw[ap.kk b q] at e;cases e) (l.stay b o e),l.tbm,λa m=>zpM (l.low a m) z,l.ltb,?_,λx d e=>?_,λy b e=>⟨(l.cis y b e).1,let ⟨v',o,ho,rr⟩:=(l.cis y b e).2;⟨v',o,k b o (λq=>ap.cel b q y b e rfl) ho,rr⟩⟩,⟨zpM l.tk.tk r,let ⟨o,e⟩:=l.tk.tb;⟨o,k _ _ ap.tb e⟩⟩,?_,λp i=>?_,l.ownNd,l.ownMu⟩
 .obtain ⟨m,⟨o,es,g,ho,hr⟩,h⟩:=l.ns;refine⟨m,⟨o,es,g,k _ _ ap.loc ho,hr⟩,λx d e=>?_⟩;obtain⟨v,t,u⟩:=h x d e;exact⟨v,t,u.keep f l.tbm.fs⟩
 .obtain ⟨b,v,h1,h2,⟨o,ho,hr⟩,h4⟩:=l.cell x d e;exact⟨b,v,h1,h2,⟨o,k _ _ (λq=>ap.cel b q x b h1 rfl) ho,hr⟩,h4.keep f l.tbm.fs⟩
 .obtain ⟨fl,h1,h2⟩:=l.frs;refine⟨fl,h1,λj n=>?_⟩;obtain⟨q1,L,o,es,g,q2,w,B,C,D⟩:=h2 j n;refine⟨q1,L,o,es,g,q2,w,B,k _ _ (λq=>ap.fs L q ?_) C,D⟩;unfold fsOf;rw[h1];exact zp5.mpr ⟨j,n,q2⟩
 .exact (l.own p i).keep f l.tbm.fs λb E F e=>k b F (λq=>ap.own b q (zu i E)) e
theorem Loc.grow (O:X.Ok) (l:Loc X A env mu c s) (a:Aft X A s s'){new:LA}(n:∀b∈new,hz s<=b/\b<hz s'):Loc X A env (new++mu) c s':=by
 have l':=l.aft O a;have g:∀b∈new,s.heap.objs.size<=b:=λb m=>(n b m).1;have f:Mu X A (new++mu):=⟨zpw _ l.tbm.tb,λb m=>zpw _ (l.tbm.fs b m)⟩;have i:=f.keep a;refine⟨l'.stay,f,λb m=>?_,l'.ltb,?_,λx d e=>?_,l'.cis,l'.tk,l'.frs,λp j=>?_,l.ownNd,λb m=>?_⟩
 .rcases zpE.mp m with m|m
  .exact (n b m).2
  .exact l'.low b m
 .obtain ⟨m,hns,h⟩:=l.ns;refine⟨m,Ns.same hns λo k=>a.keep _ _ (by simpa using l.ltb) k,λx d e=>?_⟩;obtain⟨v,r,t⟩:=h x d e;exact⟨v,r,(t.low g).keep i f.fs⟩
 .obtain ⟨b,v,h1,h2,h3,h4⟩:=l.cell x d e;exact⟨b,v,h1,h2,IsCell.same h3 λo k=>a.keep _ _ (by simpa using h2) k,(h4.low g).keep i f.fs⟩
 .exact ((l.own p j).low g).keep i f.fs λb q u e=>a.keep.ex (by simpa using (l.ownMu b (zu j q)).2.2.1) e (l.ownMu b (zu j q)).2.1
 .obtain ⟨h1,h2⟩:=l.ownMu b m;exact⟨zpw _ h1,h2⟩
theorem Loc.less (l:Loc X A env mu c s){c':Ctx}(b:∀x d,c'.loc.lookup x=some d->c.loc.lookup x=some d) (f:∀x d,c'.cel.lookup x=some d->c.cel.lookup x=some d) (a:c'.own=c.own):Loc X A env mu c' s:=by
 refine⟨l.stay,l.tbm,l.low,l.ltb,?_,λx d e=>l.cell x d (f x d e),l.cis,l.tk,l.frs,by rw[a];exact l.own,by rw[a];exact l.ownNd,by rw[a];exact l.ownMu⟩;obtain⟨m,g,h⟩:=l.ns;exact⟨m,g,λx d e=>h x d (b x d e)⟩
theorem Loc.mu_less (l:Loc X A env mu c s){mu':LA}(f:∀b∈mu',b∈mu) (g:Mu X A mu') (i:∀b∈owns c.own,b∈mu'):Loc X A env mu' c s:=by
 refine⟨l.stay,g,λb m=>l.low b (f b m),l.ltb,?_,λx d e=>?_,l.cis,l.tk,l.frs,λp j=>?_,l.ownNd,λb m=>?_⟩
 .obtain⟨m,hn,h⟩:=l.ns;exact⟨m,hn,λx d e=>let ⟨v,hv,rv⟩:=h x d e;⟨v,hv,rv.sub f⟩⟩
 .obtain⟨b,v,h1,h2,h3,h4⟩:=l.cell x d e;exact⟨b,v,h1,h2,h3,h4.sub f⟩
 .have:=l.own p j;obtain⟨a,o⟩:=p;cases o with
  | lst xs=>rcases this with ⟨vs,m,e,r⟩;exact⟨vs,m,e,r.sub f⟩
  | raw o=>exact this
  | inst C dx fs=>
   obtain⟨e,es,m,k,r⟩:=this;exact⟨e,es,m,k,r.sub f⟩
 .obtain⟨h1,h2⟩:=l.ownMu b m;exact⟨i b m,h2⟩
theorem Frm.grow (F:Frm X A env sc mu fr) (new:LA):Frm X A env sc (new++mu) (new++fr):=
 ⟨F.toStat,zpw _ F.lmu,zpw _ F.lfr,F.new,F.cel,λx m=>by
  rcases zpE.mp m with m|m
  .exact zpC _ m
  .exact zpw _ (F.sub x m)⟩
end
structure Src (X:Wd) (A:Around) (mu:LA) (I:Addr) (fp wr:LA) (P:Nat->Value->Prop) (S:Nat->Heap->Prop) (xs:List PyData) (s:Shared):Prop where
 W:Walks X.prog X.w A I fp wr xs.length P S
 st:S 0 s.heap
 rd:∀i v d,P i v->xs[i]? = some d->Rd s.heap (wr++mu) v d
 ap:∀b∈fp,b∈wr\/b∉mu
 lt:∀b∈fp,b<hz s
 go:∀(t:Expr) (v:Value) (i:Nat) (s:Shared) (Q:Unit->Shared->Prop) (E:VP),S i s.heap->Q () s->wpAny X.M A (letOwnedTupleGo t (.ref I) v) Q E s
def ItOk (X:Wd) (A:Around) (mu:LA) (v:Value) (xs:List PyData) (s:Shared):Prop:=∀(E:VP) (Q:VP),
 (∀I fp wr P S s',Aft X A s s'->Src X A mu I fp wr P S xs s'->(∀b∈wr,hz s<=b/\b<hz s')->Q (.ref I) s')->wpAny X.M A (pyIter v) Q E s
def Itr (X:Wd) (A:Around) (env:Env) (mu:LA) (e:Expr) (xs:List PyData) (s:Shared):Prop:=∀(E:VP) (Q:VP),
 (∀v s',Aft X A s s'->ItOk X A mu v xs s'->Q v s')->wpAny X.M A (eval e env) Q E s
theorem zdG {M:Model}{t:Expr}{I:Addr}{o:Obj}{n:String}{vs:Array Value}{v:Value}{Q:Unit->Shared->Prop}(b:s.heap.get? I=some o) (d:o.cls=.type n) (hd:o.data=.fields vs)
  (e:(["enumerate","zip","dict_itemiterator","dict_reverseitemiterator","odict_iterator","itertools.zip_longest","itertools.pairwise"].contains n)=false) (h:Q () s):wpAny M A (letOwnedTupleGo t (.ref I) v) Q E s:=by
 have key:∀a,wpAny M A (do
   let o <-load I
   match o.cls,o.data with
   | .type n,.fields vs=>
    if ["enumerate","zip","dict_itemiterator","dict_reverseitemiterator","odict_iterator","itertools.zip_longest","itertools.pairwise"].contains n&&vs[0]? == some (rawInt a) then do
     rule "for.unpacks-the-owned-tuple"
     updateField I 0 .none
    else pure ()
   | _,_=>pure ()) Q E s:=λa=>by
  refine wpB (zq9 b ?_);rw[d,hd];show wpAny M A (if (_&&_)=true then _ else _) Q E s;rw[e,Bool.false_and];exact zpR h
 cases t with
 | Tuple es c p=>cases v with
  | ref a=>exact key a
  | _=>exact zpR h
 | List es c=>cases v with
  | ref a=>exact key a
  | _=>exact zpR h
 | _=>exact zpR h
section
theorem zfR (f:A.handled=none){v:Value}{xs:List PyData}(k:Low mu s) (r:Rd s.heap mu v (.list xs)):ItOk X A mu v xs s:=λE Q h=>by
 cases r with
 | list n e c=>
  rename_i a vs m;have lt:=zpI e;have W:=Walks.list (prog:=X.prog) (w:=X.w) f s.heap.objs.size a (zqV lt) vs.toArray;rw[show vs.toArray.size=xs.length by rw[zqp,c.length]] at W;refine wpAny_pyIter_list ⟨_,e,rfl,_,rfl⟩ (h s.heap.objs.size [s.heap.objs.size,a] [s.heap.objs.size] (λi v=>vs.toArray[i]? = some v) (λi h=>h.IsListIter s.heap.objs.size a i/\h.IsList a vs.toArray) _ (.push _) ⟨W,⟨⟨_,zpG _ rfl,rfl,rfl⟩,_,zpD _ e,rfl,_,rfl⟩,λi v d g hd=>?_,λb m=>?_,λb m=>?_,λt v i s' Q E st j=>?_⟩ λb m=>?_)
  .obtain⟨u,hu,ru⟩:=c.get hd;have:vs[i]? = some v:=by simpa using g
   rw[hu] at this;cases this;exact(ru.low λb m=>by rw[zqP.mp m];exact zpB _).push _
  .refine memK m ?_ λm=>?_
   .exact .inl (zqP.mpr rfl)
   .rw [zqP.mp m];exact .inr n
  .show b<(Heap.push _ _).objs.size;rw[zqw];refine memK m ?_ λm=>?_
   .exact zpY _
   .rw [zqP.mp m];exact zp0 lt
  .obtain⟨⟨o,ho,hc,hd⟩,_⟩:=st;exact zdG ho hc hd (by ext) j
  .rw [zqP.mp m];exact⟨zpB _,by show _<(Heap.push _ _).objs.size;rw[zqw];exact zpY _⟩
theorem ziL (f:A.handled=none){v:Value}{xs:List PyData}(k:Low mu s) (r:Rd s.heap mu v (.tuple xs)):ItOk X A mu v xs s:=λE Q h=>by
 cases r with
 | tuple n e c=>
  rename_i a vs m;have lt:=zpI e;have W:=Walks.tuple (prog:=X.prog) (w:=X.w) f s.heap.objs.size a (zqV lt) vs.toArray;rw[show vs.toArray.size=xs.length by rw[zqp,c.length]] at W;refine wpAny_pyIter_tuple ⟨_,e,rfl,_,rfl⟩ (h s.heap.objs.size [s.heap.objs.size,a] [s.heap.objs.size] (λi v=>vs.toArray[i]? = some v) (λi h=>h.IsTupleIter s.heap.objs.size a i/\h.IsTuple a vs.toArray) _ (.push _) ⟨W,⟨⟨_,zpG _ rfl,rfl,rfl⟩,_,zpD _ e,rfl,_,rfl⟩,λi v d g hd=>?_,λb m=>?_,λb m=>?_,λt v i s' Q E st j=>?_⟩ λb m=>?_)
  .obtain⟨u,hu,ru⟩:=c.get hd;have:vs[i]? = some v:=by simpa using g
   rw[hu] at this;cases this;exact(ru.low λb m=>by rw[zqP.mp m];exact zpB _).push _
  .refine memK m ?_ λm=>?_
   .exact .inl (zqP.mpr rfl)
   .rw [zqP.mp m];exact .inr n
  .show b<(Heap.push _ _).objs.size;rw[zqw];refine memK m ?_ λm=>?_
   .exact zpY _
   .rw [zqP.mp m];exact zp0 lt
  .obtain⟨⟨o,ho,hc,hd⟩,_⟩:=st;exact zdG ho hc hd (by ext) j
  .rw [zqP.mp m];exact⟨zpB _,by show _<(Heap.push _ _).objs.size;rw[zqw];exact zpY _⟩
theorem zax (O:X.Ok) (b:A.handled=none){e:Expr}{xs:List PyData}(c:Low mu s) (d:Ev X A env mu e (.list xs) s):Itr X A env mu e xs s:=λ_ _ h=>d _ _ λv s' a r=>h v s' a (zfR b (c.aft a) r)
theorem zdB (O:X.Ok) (b:A.handled=none){e:Expr}{xs:List PyData}(c:Low mu s) (d:Ev X A env mu e (.tuple xs) s):Itr X A env mu e xs s:=λ_ _ h=>d _ _ λv s' a r=>h v s' a (ziL b (c.aft a) r)
end
noncomputable def zac (a c:Int) (n:Nat):List PyData:=(List.range n).map λi=>.int (a+(i:Nat) * c)
theorem zx {a c:Int}{n:Nat}:(zac a c n).length=n:=by simp[zac]
theorem zX {a c:Int}{n i:Nat}(h:i<n):(zac a c n)[i]? = some (.int (a+(i:Nat) * c)):=by simp[zac,h]
section
theorem zcB (c:A.handled=none){r:Addr}{a b k:Int}{t u v:Tok}{n:Nat}(e:IsRange s.heap r a b k t u v) (f:Builtin.Range.small a b k=true) (g:Builtin.Range.rangeSize a b k=(n:Nat)):ItOk X A mu (.ref r) (zac a k n) s:=λE Q h=>by
 have W:=Walks.range (prog:=X.prog) (w:=X.w) c s.heap.objs.size a k n;rw[show n=(zac a k n).length by rw[zx]] at W;refine wpAny_pyIter_range e f (h s.heap.objs.size [s.heap.objs.size] [s.heap.objs.size] _ _ _ (.push _) ⟨W,?_,λi v d j hd=>?_,λb m=>.inl m,λb m=>by rw[zqP.mp m];show _<(Heap.push _ _).objs.size;rw[zqw];exact zpY _,λt v i s' Q E st l=>?_⟩ λb m=>?_)
 .rw [g];have:((zac a k n).length:Int) - ((0:Nat):Int)=n:=by rw[zx];lia
  have o:a+((0:Nat):Int) * k=a:=by simp
  show IsRangeIter _ _ _ _ _;rw[this,o];exact zpG _ rfl
 .have hi:i<n:=by
   have:=(zpJ.mp hd).1;rwa[zx] at this
  rw[zX hi] at hd;cases hd;obtain⟨t,rfl⟩:=j;exact .int _ _
 .exact zdG st rfl rfl (by ext) l
 .rw [zqP.mp m];exact⟨zpB _,by show _<(Heap.push _ _).objs.size;rw[zqw];exact zpY _⟩
theorem zeZ {f:Str}{d p:Pos}{a:Value}{es:List Expr}{ds xs:List PyData}(S:Stat X env sc) (O:X.Ok) (l:Loc X A env mu c s) (g:sc.names.lookup f=some .globalImplicit) (hd:(f==("__debug__":Str))=false) (T:Top1 X f a) (F:Fn X a)
  (i:es.all plainArg=true) (j:es.length=ds.length) (e:Evs X A env mu p es ds s) (C:∀(vs:List Value) (s:Shared) (E:VP) (Q:VP),Rds s.heap mu vs ds->(∀v s',Aft X A s s'->ItOk X A mu v xs s'->Q v s')->wpAny X.M A (call a vs) Q E s) :
  Itr X A env mu (.Call (.Name f d) es [] p) xs s:=λE Q h=>by
 refine zqZ (zw S O l.stay g hd T (zy O (ds:=ds) F l.stay l.frs i j e λvs s' k r=>?_));exact C vs s' E Q r λv b m n=>h v b (k.trans m) n
theorem za5 (S:Stat X env sc) (O:X.Ok) (b:A.handled=none) (l:Loc X A env mu c s){d p:Pos}{e:Expr}{n:Int}(f:sc.names.lookup ("range":Str)=some .globalImplicit) (T:Top1 X "range" (.type "range")) (a:plainArg e=true) (g:Ev X A env mu e (.int n) s) (i : -(2 ^ 62)<=n) (j:n<2 ^ 62) :
  Itr X A env mu (.Call (.Name "range" d) [e] [] p) (zac 0 1 n.toNat) s:=
 zeZ S O l f (by ext) T (.type _) (by simp[a]) (ds:=[.int n]) rfl (zc l.tbm a g λ_ _=>evs_nil) λvs s' E Q r h=>by
  cases r with|cons r k=>
  cases k;cases r;exact call_range_1 (h _ _ (.pushT _ _) (zcB b (IsRange.new ..) (small_one (by ext) (by ext) i j) (by rw[rangeSize_one];split<;>omega)))
theorem ziK (S:Stat X env sc) (O:X.Ok) (j:A.handled=none) (l:Loc X A env mu c s){k p:Pos}{e d:Expr}{n m:Int}(o:sc.names.lookup ("range":Str)=some .globalImplicit) (T:Top1 X "range" (.type "range")) (i:plainArg e=true) (b:plainArg d=true) (q:Ev X A env mu e (.int n) s) (f:∀s',Aft X A s s'->Ev X A env mu d (.int m) s')
  (t : -(2 ^ 62)<=n) (u:n<2 ^ 62) (v : -(2 ^ 62)<=m) (w:m<2 ^ 62) :
  Itr X A env mu (.Call (.Name "range" k) [e,d] [] p) (zac n 1 (m - n).toNat) s:=
 zeZ S O l o (by ext) T (.type _) (by simp[i,b]) rfl (zc l.tbm i q λs' a=>zc l.tbm b (f s' a) λ_ _=>evs_nil) λvs s' E Q r h=>by
  cases r with|cons r g=>cases g with|cons g x=>
  cases x;cases r;cases g;exact call_range_2 (h _ _ (.pushT _ _) (zcB j (IsRange.new ..) (small_one t u v w) (by rw[rangeSize_one];split<;>omega)))
theorem zeo (S:Stat X env sc) (O:X.Ok) (u:A.handled=none) (l:Loc X A env mu c s){v p:Pos}{e g b:Expr}{n m k:Int}{j:Nat}(w:sc.names.lookup ("range":Str)=some .globalImplicit) (T:Top1 X "range" (.type "range")) (d:[e,g,b].all plainArg=true)
  (x:Ev X A env mu e (.int n) s) (i:∀s',Aft X A s s'->Ev X A env mu g (.int m) s') (f:∀s',Aft X A s s'->Ev X A env mu b (.int k) s')
  (y:k≠0) (z:Builtin.Range.small n m k=true) (B:Builtin.Range.rangeSize n m k=(j:Nat)) (C:Builtin.divisionGoesByPylong (m - n) k=false) :
  Itr X A env mu (.Call (.Name "range" v) [e,g,b] [] p) (zac n k j) s:=by
 simp only [List.all_cons,List.all_nil,Bool.and_true,Bool.and_eq_true] at d;refine zeZ S O l w (by ext) T (.type _) (by simp[d]) rfl (zc l.tbm d.1 x λs' a=>zc l.tbm d.2.1 (i s' a) λo D=>zc l.tbm d.2.2 (f o (a.trans D)) λ_ _=>evs_nil) λvs s' E Q r h=>?_;cases r with|cons r q=>cases q with|cons q t=>cases t with|cons t F=>
 cases F;cases r;cases q;cases t;exact call_range_3 y (h _ _ (.pushT _ _) (zcB u (IsRange.new ..) z B)) (.inl C)
theorem Src.step {I:Addr}{g a:LA}{P:Nat->Value->Prop}{S:Nat->Heap->Prop}{xs:List PyData}{s₀ s:Shared}(c:Src X A mu I g a P S xs s₀){fs:LA}(e:∀b∈fs,b∈a++mu) (j:Keep fs (a++mu) s₀.heap s.heap){i:Nat}{d:PyData}(f:xs[i]? = some d) (st:S i s.heap)
  {E:VP}{Q:Option Value->Shared->Prop}(h:∀v h' tk,(∀b o,b∉a->s.heap.get? b=some o->h'.get? b=some o)->hz s<=h'.objs.size->s.toks<=tk->S (i+1) h'->Rd s.heap (a++mu) v d->Q (some v) {s with heap:=h',toks:=tk}):wpAny X.M A (pyNext (.ref I)) Q E s:=
 wpt (c.W.item i s _ _ (zpJ.mp f).1 st λv h' tk k l m n p=>h v h' tk m p n l ((c.rd i v d k f).keep j e))
theorem Src.last {I:Addr}{d c:LA}{P:Nat->Value->Prop}{S:Nat->Heap->Prop}{xs:List PyData}{s₀ s:Shared}(a:Src X A mu I d c P S xs s₀) (st:S xs.length s.heap)
  {E:VP}{Q:Option Value->Shared->Prop}(h:∀h' tk,(∀b o,b∉c->s.heap.get? b=some o->h'.get? b=some o)->hz s<=h'.objs.size->s.toks<=tk->Q none {s with heap:=h',toks:=tk}):wpAny X.M A (pyNext (.ref I)) Q E s:=
 wpt (a.W.done s _ _ st λh' tk e f g=>h h' tk e g f)
end
section
variable {c c':Ctx}
def zk3 (X:Wd) (A:Around) (env:Env) (mu fr:LA) (c:Ctx) (t:Expr) (d:PyData) (c':Ctx):Prop:=∀(s:Shared) (v:Value),Loc X A env mu c s->Rd s.heap mu v d->
 ∀(E:VP) (Q:Unit->Shared->Prop),(∀s',AftL X A fr s s'->Loc X A env mu c' s'->Q () s')->wpAny X.M A (assign t env v) Q E s
theorem zbK (F:Frm X A env sc mu fr){x:Str}{p:Pos}{d:PyData}(a:sc.names.lookup x=some .local):zk3 X A env mu fr c (.Name x p) d (c.set x d):=λ_ _ l r _ _ h=>zqO (zq F l a r h)
theorem zmx (F:Frm X A env sc mu fr){x:Str}{a:Addr}{p:Pos}{d:PyData}(b:sc.names.lookup x=some .cell) (C:zW X A env fr x a):zk3 X A env mu fr c (.Name x p) d (c.setC x d):=λ_ _ l r _ _ h=>zqO (zea F l b C r h)
theorem AftL.sub {fr':LA}{s s':Shared}(a:AftL X A fr s s') (h:∀b∈fr,b∈fr'):AftL X A fr' s s':=⟨a.keep.mono λb m=>by
 refine memK m ?_ λm=>?_
 .simp
 .exact zpx _ (h b m),a.os,a.gens,a.size,a.toks,a.live⟩
theorem Src.stay {I:Addr}{k g:LA}{P:Nat->Value->Prop}{S:Nat->Heap->Prop}{xs:List PyData}{s₀ s s':Shared}(c:Src X A mu I k g P S xs s₀) (h:Mu X A mu) (d:∀b∈fr,b∈mu) (f:∀b∈g,b∉mu)
  {i:Nat}(st:S i s.heap) (a:AftL X A fr s s'):S i s'.heap:=c.W.frame i _ _ st λb l o e=>by
 have j:b∉mu:=(c.ap b l).elim (f b) id;exact a.keep.ex (λm=>j (by rcases memC m with rfl|m;exact h.tb;exact d b m)) e λm=>j (h.fs b m)
inductive LpI (X:Wd) (A:Around) (env:Env) (mu fr wr:LA) (S:Nat->Heap->Prop) (m:Nat) (cs:Nat->Ctx) (s₂:Shared) (n:Nat) (s':Shared):Prop
 | mk (i:Nat) (hin:i+n=m) (st:S i s'.heap) (a₃:AftL X A (wr++fr) s₂ s') (l₃:Loc X A env (wr++mu) (cs i) s')
theorem zdg (F:Frm X A env sc mu fr) (O:X.Ok){t it:Expr}{body:List Stmt}{p:Pos}{xs:List PyData}(C cm:Nat->Ctx) (h0:C 0=c) (ho:∀i,owns (C i).own=owns c.own)
  (hs:∀x,foldedSetIterable it env x=pure x) (hi:∀s,Loc X A env mu c s->Itr X A env mu it xs s)
  (hb:∀(i:Nat) (d:PyData),xs[i]? = some d->∀mu':LA,(∀b∈mu,b∈mu')->Frm X A env sc mu' fr->zk3 X A env mu' fr (C i) t d (cm i)/\∃f,(f=.next\/f=.cont)/\St X A env mu' fr (cm i) body f (C (i+1))) :
  St1 X A env mu fr c (.For t it body [] p) .next (C xs.length):=λs l E Q hQ _=>by
 refine wpAny_For (hi s l _ _ λv a4 r a2=>a2 _ _ λI fp g P S a G j D=>?_) hs;have u:=l.aft O r;have H:∀b∈g,b∉mu:=λb m q=>absurd (u.low b q) (zpO.mpr (D b m).1);have T:=Apart.fresh u λb m=>(D b m).1;have F':Frm X A env sc (g++mu) fr:=⟨F.toStat,zpw _ F.lmu,F.lfr,F.new,F.cel,λb m=>zpw _ (F.sub b m)⟩;have l₂:Loc X A env (g++mu) c a:=u.grow O G D;have a3:∀(h':Heap) (tk:Nat) (s':Shared),AftL X A (g++fr) a s'->Loc X A env (g++mu) (C xs.length) s'->AftL X A fr s s'/\Loc X A env mu (C xs.length) s':=λh' tk s' h w=>by
  refine⟨((r.trans G).toL.trans h).fresh λb m=>?_,w.mu_less (λb m=>zpw _ m) l.tbm λb m=>?_⟩
  .rcases zpE.mp m with m|m
   .exact .inr (zpK (zpF r.size (D b m).1))
   .exact .inl m
  .rw [ho] at m;exact(l.ownMu b m).1
 refine codeAny_forLoop_any (LpI X A env mu fr g S xs.length C a) (λn s' hZ=>?_) xs.length ⟨0,by lia,j.st,.refl,by rw[h0];exact l₂⟩;obtain⟨i,a5,st,h,w⟩:=hZ;have ap:Apart X A env (owns (C i).own) g:=by rw[ho];exact T
 have U:Mu X A (g++mu):=l₂.tbm;have W:∀b∈g++fr,b∈g++mu:=λb m=>(zpE.mp m).elim (λm=>zpC _ m) λm=>zpw _ (F.sub b m);have Y:Keep (fsOf A) (g++mu) a.heap s'.heap:=h.keep.mono λb m=>by
  refine memK m ?_ λm=>?_
  .exact U.tb
  .exact W b m
 have J:∀{h':Heap}{tk:Nat},(∀b o,b∉g->s'.heap.get? b=some o->h'.get? b=some o)->hz s'<=h'.objs.size->s'.toks<=tk->AftL X A (g++fr) a {s' with heap:=h',toks:=tk}/\Loc X A env (g++mu) (C i) {s' with heap:=h',toks:=tk}:=fun {h'} {tk} K k V=>
  ⟨h.trans ⟨.but λb o m e=>K b o (λq=>m (zpx _ (zpC _ q))) e,rfl,id,k,V,λo e=>⟨o,K _ _ ap.tb e⟩⟩,w.upd (s':={s' with heap:=h',toks:=tk}) ap (λb m=>zpC _ m) K k V⟩
 cases hd:xs[i]? with
 | none=>
  have hl:i=xs.length:=by have:=List.getElem?_eq_none_iff.mp hd;lia
  subst hl;refine j.last st λh' tk K k V=>wpAny_execs_nil ?_;obtain⟨y,z⟩:=J K k V;obtain⟨q1,q2⟩:=a3 h' tk _ y z;exact hQ _ _ q1 q2 rfl
 | some d=>
  refine j.step U.fs Y hd st λv h' tk K k V hS rv=>?_;obtain⟨y,z⟩:=J K k V;obtain⟨hA,f,hf,hB⟩:=hb i d hd (g++mu) (λb m=>zpw _ m) F';refine j.go _ _ _ _ _ _ hS (hA _ v z (rv.keep (.but λb o m e=>K b o (λq=>m (zpC _ q)) e) U.fs) _ _ λZ L a0=>hB Z a0 _ _ (λf' M N R a1=>?_) λv M _ _ hv=>?_)
  .have st₅:=j.stay l.tbm F.sub H hS L;have B:=j.stay l.tbm F.sub H st₅ N;have lt:i<xs.length:=(zpJ.mp hd).1;have up:AftL X A (g++fr) a M:=y.trans ((L.trans N).sub λb m=>zpw _ m);rcases hf with rfl|rfl
   .cases (show f'=.next from a1);exact⟨n - 1,by sleep 30,i+1,by sleep 29,B,up,R⟩
   .cases (show f'=.cont from a1);exact⟨n - 1,by sleep 30,i+1,by sleep 29,B,up,R⟩
  .rcases hf with rfl|rfl<;>exact False.elim hv
end
noncomputable abbrev zmF (ifs:List Expr) (env:Env):Sem Bool:=forIn ifs true λc r=>if r=true then do let ok <-isTrue c env (eval c env);pure (ForInStep.yield ok) else pure (ForInStep.yield r)
noncomputable abbrev znb (ip:Pos) (t:Expr) (it:Value) (ifs:List Expr) (env:Env) (rest:Sem Unit) (cd:Code):Sem Fin:=do
 standAt ip
 match <-pyNext it with
 | none=>pure (.done .next)
 | some v=>
  letOwnedTupleGo t it v
  assign t env v
  let mut ok:=true
  for c in ifs do
   if ok then ok <-isTrue c env (eval c env)
  if ok then rest
  again cd
noncomputable abbrev zn9 (elt:Expr) (acc:Value) (env:Env):Sem Unit:=do let _ <-call (.builtin "list.append") [acc,<-eval elt env]
noncomputable abbrev zmC (ip:Pos) (t:Expr) (it:Value) (ifs:List Expr) (env:Env) (e:Expr) (k:Nat) (it':Expr) (acc:Value) (cd:Code):Sem Fin:=do
 standAt ip
 match <-pyNext it with
 | none=>pure (.done .next)
 | some v=>
  letOwnedTupleGo t it v
  assign t env v
  let mut ok:=true
  for c in ifs do
   if ok then ok <-isTrue c env (eval c env)
  if ok then
   let x <-eval it' env
   standAt it'.pos
   let x <-foldedSetIterable it' env x;let _ <-runOwn (.compStart e k (<-holding [x] (pyIter x)) acc env) env
  again cd
theorem zk8 (a t c:Expr) (b:List Expr) (scope:Scope) (pos:Pos) (d acc:Value) (env:Env) :
  compTurn (.ListComp a [⟨t,c,b,0⟩] scope pos) 0 d acc env=znb c.pos t d b env (zn9 a acc env) (.compLoop (.ListComp a [⟨t,c,b,0⟩] scope pos) 0 d acc env):=by rfl
theorem zjy (d t e f b:Expr) (c a:List Expr) (scope:Scope) (pos:Pos) (g acc:Value) (env:Env) :
  compTurn (.ListComp d [⟨t,e,c,0⟩,⟨f,b,a,0⟩] scope pos) 0 g acc env=zmC e.pos t g c env (.ListComp d [⟨t,e,c,0⟩,⟨f,b,a,0⟩] scope pos) 1 b acc (.compLoop (.ListComp d [⟨t,e,c,0⟩,⟨f,b,a,0⟩] scope pos) 0 g acc env):=by rfl
theorem zjx (b t g e c:Expr) (d a:List Expr) (scope:Scope) (pos:Pos) (f acc:Value) (env:Env) :
  compTurn (.ListComp b [⟨t,g,d,0⟩,⟨e,c,a,0⟩] scope pos) 1 f acc env=znb c.pos e f a env (zn9 b acc env) (.compLoop (.ListComp b [⟨t,g,d,0⟩,⟨e,c,a,0⟩] scope pos) 1 f acc env):=by rfl
noncomputable def Ctx.acc (c:Ctx) (D:Addr) (ys:List PyData):Ctx:={c with own:=[(D,.lst ys)]}
section
variable {c c':Ctx}{D:Addr}
noncomputable abbrev Tx:=(Value->Shared->Prop)->(Shared->Prop)->Shared->Prop
noncomputable abbrev zf4 (X:Wd) (A:Around) (elt:Expr) (acc:Value) (env:Env):Tx:=λE K s=>wpAny X.M A (zn9 elt acc env) (λ_ s'=>K s') E s
noncomputable abbrev zfV (X:Wd) (A:Around) (e:Expr) (k:Nat) (it:Expr) (acc:Value) (env:Env):Tx:=λE K s=>wpAny X.M A (eval it env) (λx s₁=>wpAny X.M A (pyIter x) (λiv s₂=>wpAny X.M A (runOwn (.compStart e k iv acc env) env) (λ_ s₃=>K s₃) E s₂) E s₁) E s
def zmz (X:Wd) (A:Around) (t:Expr) (iv:Value) (ifs:List Expr) (env:Env) (rest:Tx) (cd:Code) (Q:Fin->Shared->Prop) (E:VP) (s:Shared):Prop:=
 wpAny X.M A (pyNext iv) (λr s₁=>match r with
  | none=>Q (.done .next) s₁
  | some v=>wpAny X.M A (letOwnedTupleGo t iv v) (λ_ s₂=>wpAny X.M A (assign t env v) (λ_ s₃=>wpAny X.M A (zmF ifs env) (λok s₄=>if ok=true then rest E (λs₅=>Q (.again cd) s₅) s₄ else Q (.again cd) s₄) E s₃) E s₂) E s₁) E s
theorem turnW_one {u:Pos}{t:Expr}{j:Value}{c:List Expr}{k:Sem Unit}{i:Code}(l:i.quiet=true){Q:Fin->Shared->Prop}
  (h:zmz X A t j c env (λE K s=>wpAny X.M A k (λ_ s'=>K s') E s) i (λf s=>(match f with | .again c'=>c'.quiet=true->Q f s|_=>Q f s)) E s):wpAny X.M A (znb u t j c env k i) Q E s:=by
 refine zpQ (zqI (zpQ (zp9 h (λr m a=>?_) λ_ _ h'=>h')));cases r with
 | none=>exact zpR a
 | some v=>
  refine zpQ (zp9 a (λ_ n d=>zpQ (zp9 d (λ_ o e=>zpQ (zp9 e (λw p b=>?_) λ_ _ h'=>h')) λ_ _ h'=>h')) λ_ _ h'=>h');cases w with
  | false=>exact zpR (b l)
  | true=>exact zpQ (zp9 b (λ_ q g=>zpR (g l)) λ_ _ h'=>h')
theorem turnW_two {D:Pos}{t:Expr}{o:Value}{d:List Expr}{e c:Expr}{k:Nat}{acc:Value}{n:Code}(F:∀x,foldedSetIterable c env x=pure x) (p:n.quiet=true){Q:Fin->Shared->Prop}
  (h:zmz X A t o d env (zfV X A e k c acc env) n (λf s=>(match f with | .again c'=>c'.quiet=true->Q f s|_=>Q f s)) E s):wpAny X.M A (zmC D t o d env e k c acc n) Q E s:=by
 refine wpB (zqI (wpB (zp9 h (λr q a=>?_) λ_ _ h'=>h')));cases r with
 | none=>exact zpR a
 | some v=>
  refine wpB (zp9 a (λ_ u g=>wpB (zp9 g (λ_ w i=>wpB (zp9 i (λG y b=>?_) λ_ _ h'=>h')) λ_ _ h'=>h')) λ_ _ h'=>h');cases G with
  | false=>exact zpR (b p)
  | true=>
   refine wpB (zp9 b (λx z j=>?_) λ_ _ h'=>h');refine wpB (zqI (wpB (wpAny_of_eq (F x) (wpB (zpS (zp9 j (λH B l=>?_) λ_ _ h'=>h'))))));exact wpB (zp9 l (λ_ C m=>zpR (m p)) λ_ _ h'=>h')
def zhD (X:Wd) (A:Around) (env:Env) (mu fr:LA) (D:Addr) (c:Ctx) (t:Tx) (ys:List PyData):Prop:=∀(s:Shared) (acc:List PyData),Loc X A env mu (c.acc D acc) s->acc.length+ys.length<=sizeLine->
 ∀(E:VP) (K:Shared->Prop),(∀s',AftL X A fr s s'->Loc X A env mu (c.acc D (acc++ys)) s'->K s')->t E K s
def zkV (X:Wd) (A:Around) (env:Env) (mu:LA) (D:Addr) (c:Ctx) (ifs:List Expr) (b:Bool):Prop:=∀(s:Shared) (acc:List PyData),Loc X A env mu (c.acc D acc) s->∀(E:VP) (Q:Bool->Shared->Prop),(∀s',Aft X A s s'->Q b s')->wpAny X.M A (zmF ifs env) Q E s
theorem zb7:zkV X A env mu D c [] true:=λ_ _ _ _ _ h=>wpAny_tests_nil (h _ .refl)
theorem zdc {t:Expr}{b:Bool}(a:∀s acc,Loc X A env mu (c.acc D acc) s->Ts X A env t b s):zkV X A env mu D c [t] b:=λs acc l _ _ h=>wpAny_tests_one (a s acc l _ _ h)
theorem ziD {ys:List PyData}(l:Loc X A env mu (c.acc D ys) s) (G:D∈fr){v:Value}{d:PyData}(r:Rd s.heap mu v d) (k:ys.length<=sizeLine){Q:VP}
  (h:∀s',AftL X A fr s s'->Loc X A env mu (c.acc D (ys++[d])) s'->Q .none s'):wpAny X.M A (call (.builtin "list.append") [.ref D,v]) Q E s:=by
 have f:(D,Own.lst ys)∈(c.acc D ys).own:=by simp[Ctx.acc]
 obtain⟨vs,n,e,x⟩:=l.own _ f;have t:D∈owns (c.acc D ys).own:=by simp[owns,Ctx.acc,Own.ads]
 obtain⟨H,I,z,J,K,B⟩:=l.ownMu D t;refine wpAny_list_append_plain (items:=vs.toArray) ⟨n,e⟩ (λh' u g=>?_) (by rw[zqp,x.length];exact k);have a:∀b o,b≠D->s.heap.get? b=some o->h'.get? b=some o:=λb o q e=>(g.2 b q).trans e;have j:Keep (fsOf A) mu s.heap h':=.sameBut g H;refine h {s with heap:=h'} ⟨.sameBut g (zpx _ G),rfl,id,by show _<=h'.objs.size;rw[g.1];exact zpB _,zpB _,λo e=>⟨o,a _ _ (Ne.symm z) e⟩⟩ ⟨λb o e=>a b o (λq=>by rw[q,K] at e;cases e) (l.stay b o e),l.tbm,λb m=>by show b<h'.objs.size;rw[g.1];exact l.low b m,l.ltb,?_,λy d' e=>?_,λy b e=>⟨(l.cis y b e).1,let ⟨i,o,ho,rr⟩:=(l.cis y b e).2;⟨i,o,a b o (λq=>B y b e q.symm) ho,rr⟩⟩,⟨l.tk.tk,let ⟨o,e⟩:=l.tk.tb;⟨o,a _ _ (Ne.symm z) e⟩⟩,?_,λp N=>?_,l.ownNd,l.ownMu⟩
 .obtain⟨m,⟨o,es,w,ho,hr⟩,hl⟩:=l.ns;refine⟨m,⟨o,es,w,a _ _ (Ne.symm J) ho,hr⟩,λy d' e=>?_⟩;obtain⟨i,O,P⟩:=hl y d' e;exact⟨i,O,P.keep j l.tbm.fs⟩
 .obtain⟨b,i,h1,h2,⟨o,ho,hr⟩,h4⟩:=l.cell y d' e;exact⟨b,i,h1,h2,⟨o,a b o (λq=>B y b h1 q.symm) ho,hr⟩,h4.keep j l.tbm.fs⟩
 .obtain⟨fl,h1,h2⟩:=l.frs;refine⟨fl,h1,λC F=>?_⟩;obtain⟨q1,L,o,es,w,q2,R,S,T,U⟩:=h2 C F;refine⟨q1,L,o,es,w,q2,R,S,a L o (λq=>I ?_) T,U⟩;unfold fsOf;rw[h1];exact zp5.mpr ⟨C,F,q▸q2⟩
 .rw [zqP.mp N];obtain⟨V,W⟩:=u;refine⟨vs++[v],V,by rw[W];simp[lst],?_⟩;exact(x.keep j l.tbm.fs).append (.cons (r.keep j l.tbm.fs) .nil)
theorem zaQ {b:Expr}{d:PyData}(O:X.Ok) (j:D∈fr) (k:∀s acc,Loc X A env mu (c.acc D acc) s->Ev X A env mu b d s):zhD X A env mu fr D c (zf4 X A b (.ref D) env) [d]:=λs acc l hz E K h=>by
 refine wpB (k s acc l _ _ λv i a e=>wpB (ziD (l.aft O a) j e (by simp at hz;sleep 57) λf g l₂=>wpAny_pure (h f (a.toL.trans g) l₂)))
structure za8 (X:Wd) (A:Around) (env:Env) (mu fr:LA) (D:Addr) (c:Ctx) (t:Expr) (ifs:List Expr) (rest:Tx) (d:PyData) (ys:List PyData):Prop where
 ex:∃cm b,(∀acc,zk3 X A env mu fr (c.acc D acc) t d (cm.acc D acc))/\(∀x d,c.loc.lookup x=some d->cm.loc.lookup x=some d)/\(∀x d,c.cel.lookup x=some d->cm.cel.lookup x=some d)/\zkV X A env mu D cm ifs b/\(b=true->zhD X A env mu fr D cm rest ys)/\(b=false->ys=[])
theorem zg1 (O:X.Ok) (F:Frm X A env sc mu fr){B:Expr}{r:List Comprehension}{scope:Scope}{pos:Pos}{t:Expr}{k:Nat}{a0:List Expr}{G:Tx}{I:Addr}{fp p:LA}{P:Nat->Value->Prop}{S:Nat->Heap->Prop}{xs:List PyData}{g:List (List PyData)}{acc₀:List PyData}{h:Shared}{R:Result->Shared->Prop}
  (a5:∀(Q:Fin->Shared->Prop) (E:VP) (s:Shared),zmz X A t (.ref I) a0 env G (.compLoop (.ListComp B r scope pos) k (.ref I) (.ref D) env) (λf s=>(match f with | .again c'=>c'.quiet=true->Q f s|_=>Q f s)) E s->wpAny X.M A (compTurn (.ListComp B r scope pos) k (.ref I) (.ref D) env) Q E s)
  (u:Src X A mu I fp p P S xs h) (a1:Mu X A mu) (J:∀b∈p,b∉mu) (ap:Apart X A env (owns (c.acc D acc₀).own) p) (l₂:Loc X A env (p++mu) (c.acc D acc₀) h) (b8:g.length=xs.length) (c0:acc₀.length+g.flatten.length<=sizeLine)
  (hb:∀(i:Nat) (d:PyData) (ys:List PyData),xs[i]? = some d->g[i]? = some ys->Frm X A env sc (p++mu) fr->za8 X A env (p++mu) fr D c t a0 G d ys)
  (hR:∀s',AftL X A (p++fr) h s'->Loc X A env (p++mu) (c.acc D (acc₀++g.flatten)) s'->R (.ok .next) s'):codeAny X.M A (.compLoop (.ListComp B r scope pos) k (.ref I) (.ref D) env) R h:=by
 have F':Frm X A env sc (p++mu) fr:=⟨F.toStat,zpw _ F.lmu,F.lfr,F.new,F.cel,λb m=>zpw _ (F.sub b m)⟩;have a2:=l₂.tbm;have a6:∀b∈p++fr,b∈p++mu:=λb m=>(zpE.mp m).elim (λm=>zpC _ m) λm=>zpw _ (F.sub b m);refine codeAny_loop ⋯ (LpI X A env mu fr p S xs.length (λi=>c.acc D (acc₀++(g.take i).flatten)) h) (λn s' hZ=>?_) xs.length ⟨0,by lia,u.st,.refl,by simpa using l₂⟩;obtain⟨i,a7,st,N,a8⟩:=hZ;show wpAny _ A ((compTurn (.ListComp B r scope pos) k (.ref I) (.ref D) env).onRaise (λx=>do noteFrame x env;theTreesLotGoes x)) _ _ s';have a9:Keep (fsOf A) (p++mu) h.heap s'.heap:=N.keep.mono λb m=>by
  refine memK m ?_ λm=>?_
  .exact a2.tb
  .exact a6 b m
 have T:∀{h':Heap}{tk:Nat},(∀b o,b∉p->s'.heap.get? b=some o->h'.get? b=some o)->hz s'<=h'.objs.size->s'.toks<=tk->AftL X A (p++fr) h {s' with heap:=h',toks:=tk}/\Loc X A env (p++mu) (c.acc D (acc₀++(g.take i).flatten)) {s' with heap:=h',toks:=tk}:=fun {h'} {tk} U C ht=>
  ⟨N.trans ⟨.but λb o m e=>U b o (λq=>m (zpx _ (zpC _ q))) e,rfl,id,C,ht,λo e=>⟨o,U _ _ ap.tb e⟩⟩,a8.upd (s':={s' with heap:=h',toks:=tk}) ap (λb m=>zpC _ m) U C ht⟩
 have H:∀(Qm:Fin->Shared->Prop) (Em:VP),(∀j,AftL X A (p++fr) h j->Loc X A env (p++mu) (c.acc D (acc₀++g.flatten)) j->Qm (.done .next) j)->
   (∀j,i<xs.length->S (i+1) j.heap->AftL X A (p++fr) h j->Loc X A env (p++mu) (c.acc D (acc₀++(g.take (i+1)).flatten)) j->Qm (.again (.compLoop (.ListComp B r scope pos) k (.ref I) (.ref D) env)) j)->
   zmz X A t (.ref I) a0 env G (.compLoop (.ListComp B r scope pos) k (.ref I) (.ref D) env) Qm Em s':=λQm Em hN hG=>by
  cases hd:xs[i]? with
  | none=>
   have hl:i=xs.length:=by have:=List.getElem?_eq_none_iff.mp hd;lia
   refine u.last (hl▸st) λh' tk U C ht=>?_;obtain⟨w,y⟩:=T U C ht;rw[List.take_of_length_le (by lia)] at y;exact hN _ w y
  | some d=>
   have lt:i<xs.length:=(zpJ.mp hd).1;have hy:g[i]? = some g[i]:=zpN (by sleep 31);have hT:(g.take (i+1)).flatten=(g.take i).flatten++g[i]:=by
    rw[List.take_add_one,hy,List.flatten_append];simp only [Option.toList,List.flatten_cons,List.flatten_nil,List.append_nil]
   have a3:(g.take (i+1)).flatten.length<=g.flatten.length:=by
    conv=>rhs;rw[<-List.take_append_drop (i+1) g,List.flatten_append,zqq]
    sleep 14
   refine u.step a2.fs a9 hd st λv h' tk U C ht hS rv=>?_;obtain⟨w,y⟩:=T U C ht;obtain⟨cm,b,hA,b0,b1,b6,b2,b7⟩:=(hb i d _ hd hy F').ex;refine u.go _ _ _ _ _ _ hS (hA _ _ v y (rv.keep (.but λb o m e=>U b o (λq=>m (zpC _ q)) e) a2.fs) _ _ λb3 K V=>b6 b3 _ V _ _ λW z=>?_);have a4:=u.stay a1 F.sub J hS K;have L:=u.stay (fr:=fr) a1 F.sub J a4 z.toL;have Y:Loc X A env (p++mu) (cm.acc D (acc₀++(g.take i).flatten)) W:=V.aft O z;cases b4:b with
   | false=>
    rw[if_neg (by ext)];refine hG _ lt L (w.trans ((K.trans z.toL).sub λb m=>zpw _ m)) ?_;show Loc _ _ _ _ (c.acc D (acc₀++(g.take (i+1)).flatten)) _;rw[hT,b7 b4,List.append_nil];exact Y.less b0 b1 rfl
   | true=>
    rw[if_pos rfl];refine b2 b4 W _ Y (by rw[hT,zqq] at a3;rw[zqq];sleep 108) _ _ λb9 Z b5=>?_;refine hG _ lt (u.stay a1 F.sub J L Z) (w.trans (((K.trans z.toL).trans Z).sub λb m=>zpw _ m)) ?_;show Loc _ _ _ _ (c.acc D (acc₀++(g.take (i+1)).flatten)) _;rw[hT,<-List.append_assoc];exact b5.less b0 b1 rfl
 exact wpAny_noted (a5 _ _ _ (H _ _ (λ_ a l=>hR _ a l) λ_ lt st a l _=>⟨rfl,n - 1,oG a7 lt,i+1,oF a7 lt,st,a,l⟩))
end
noncomputable def zck (cells:List (Str×Addr)):List (Str×NameKind)->List (Str×Addr)->List (Str×Addr)
 | [],acc=>acc
 | (x,k)::r,acc=>zck cells r (if k == .free then (x,(cells.lookup x).getD 0)::acc else acc)
theorem zcJ {cells:List (Str×Addr)}{y:Str}{k:NameKind}{r:List (Str×NameKind)}{acc:List (Str×Addr)}:zck cells ((y,k)::r) acc=zck cells r (if k == .free then (y,(cells.lookup y).getD 0)::acc else acc):=rfl
theorem zi4 {cells:List (Str×Addr)}{names:List (Str×NameKind)}:∀{acc:List (Str×Addr)}{x:Str}{a:Addr},(zck cells names acc).lookup x=some a->((x,NameKind.free)∈names/\(cells.lookup x).getD 0=a)\/acc.lookup x=some a:=by
 induction names with
 | nil=>exact λh=>.inr h
 | cons p r c=>
  intro acc x a h;obtain⟨y,k⟩:=p;refine(c h).elim (λh=>.inl ⟨.tail _ h.1,h.2⟩) λh=>?_
  by_cases b:(k == .free)=true
  .rw [if_pos b,lkp] at h;refine zb3 h (λd h=>.inl ?_) λ_ h=>.inr h;rw[eq_of_beq d,eq_of_beq b];exact⟨.head _,zqr h⟩
  .rw [if_neg b] at h;exact .inr h
theorem zi5 {cells:List (Str×Addr)}{names:List (Str×NameKind)}:∀{acc:List (Str×Addr)}{x:Str},((x,NameKind.free)∈names\/(acc.lookup x).isSome=true)->((zck cells names acc).lookup x).isSome=true:=by
 induction names with
 | nil=>exact λh=>h.elim nofun id
 | cons p r a=>
  intro acc x h;obtain⟨y,k⟩:=p;rw[zcJ];refine a (h.elim (λh=>(zpz.mp h).elim (λe=>.inr ?_) .inl) λh=>.inr ?_)
  .rw [if_pos ((Prod.mk.inj e).2▸zqG _),lkp,(Prod.mk.inj e).1,zqG];rfl
  .by_cases hk:(k == .free)=true
   .rw [if_pos hk,lkp];cases x==y with
    | true=>rfl
    | false=>exact h
   .rw [if_neg hk];exact h
theorem zau {scope:Scope}(h:∀x∈scope.names,x.2=.free->(env.cells.lookup x.1).isSome=true):closureFor scope env=pure (zck env.cells scope.names []):=by
 have key:∀(names:List (Str×NameKind)) (acc:List (Str×Addr)),(∀x∈names,x.2=.free->(env.cells.lookup x.1).isSome=true)->
   (forIn names acc λx r=>(match x with|(name,kind)=>if (kind==NameKind.free)=true then (do let a <-cellOf env name;pure (ForInStep.yield ((name,a)::r))) else pure (ForInStep.yield r):Sem (ForInStep (List (Str×Addr)))))=pure (zck env.cells names acc):=by
  intro names
  induction names with
  | nil=>intro acc _;rfl
  | cons p r d=>
   intro acc c;obtain⟨y,k⟩:=p;rw[List.forIn_cons]
   by_cases b:(k==NameKind.free)=true
   .have hk':k=.free:=by simpa using b
    obtain⟨a,f⟩:=zp6.mp (c (y,k) zpP hk');have g:cellOf env y=pure a:=by unfold cellOf;rw[f]
    have e:(match (y,k) with|(name,kind)=>if (kind==NameKind.free)=true then (do let a <-cellOf env name;pure (ForInStep.yield ((name,a)::acc))) else pure (ForInStep.yield acc):Sem (ForInStep (List (Str×Addr))))=pure (ForInStep.yield ((y,a)::acc)):=by
     show (if (k==NameKind.free)=true then _ else _)=_;rw[if_pos b,g];rfl
    rw[e];show (forIn r ((y,a)::acc) _:Sem (List (Str×Addr)))=_;rw[d _ λx m=>c x (zpx _ m)];rw[zcJ,if_pos b,f];rfl
   .have e:(match (y,k) with|(name,kind)=>if (kind==NameKind.free)=true then (do let a <-cellOf env name;pure (ForInStep.yield ((name,a)::acc))) else pure (ForInStep.yield acc):Sem (ForInStep (List (Str×Addr))))=pure (ForInStep.yield acc):=by
     show (if (k==NameKind.free)=true then _ else _)=_;rw[if_neg b]
    rw[e];show (forIn r acc _:Sem (List (Str×Addr)))=_;rw[d _ λx m=>c x (zpx _ m)];rw[zcJ,if_neg b]
 have:=key scope.names [] h;simpa using congrArg (λm=>m>>=λi=>pure i) this
theorem zol {names:List (Str×NameKind)}:∀{h:Heap}{acc:List (Str×Addr)}{x:Str}{a:Addr},(cellsFrom h.objs.size names acc).lookup x=some a->
  (h.objs.size<=a/\(pushCells h names).IsCell a none/\(x,NameKind.cell)∈names)\/acc.lookup x=some a:=by
 induction names with
 | nil=>exact λe=>.inr e
 | cons p r c=>
  intro h acc x a e;obtain⟨y,k⟩:=p;rw[zbP] at e;unfold pushCells
  by_cases b:(k==NameKind.cell)=true
  .have hs:(h.push {cls:=.type "cell",data:=.cell none}).objs.size=h.objs.size+1:=zqw ..;rw[if_pos b,<-hs] at e;rw[if_pos b];refine(c e).elim (λq=>.inl ⟨zpF (hs▸zqz _) q.1,q.2.1,.tail _ q.2.2⟩) λe=>?_;rw[lkp] at e;refine zb3 e (λd e=>.inl ?_) λ_ e=>.inr e;rw[eq_of_beq d,eq_of_beq b,<-zqr e];exact⟨zpB _,⟨_,pushCells_keeps _ _ _ _ (zpG _ rfl),rfl⟩,.head _⟩
  .rw [if_neg b] at e ⊢;exact(c e).imp (λq=>⟨q.1,q.2.1,.tail _ q.2.2⟩) id
theorem zaR:∀(names:List (Str×NameKind)) (h:Heap),h.objs.size<=(pushCells h names).objs.size
 | [],_=>zpB _
 | (_,k)::r,h=>by
  unfold pushCells
  split
  .have:=zaR r (h.push {cls:=.type "cell",data:=.cell none});rw[zqw] at this;sleep 57
  .exact zaR r h
theorem zeF {M:Model}{scope:Scope}{cl:List (Str×Addr)}{Q:Env->Shared->Prop}
  (h:Q {scope,locals:=s.heap.objs.size,globals:=env.globals,cells:=cellsFrom (s.heap.objs.size+1) scope.names cl,qual:=env.qual,func:=none,code:=env.code,frame:=env.frame,builtins:=env.builtins} {s with heap:=pushCells (s.heap.push {cls:=.type "dict",data:=.dict #[]}) scope.names}) :
  wpAny M A (newFunctionEnv scope env.globals cl [] env.qual none .none (some env)) Q E s:=by
 simp only [newFunctionEnv,Option.isSome_some,if_true];refine wpB (wpAny_alloc ?_);refine wpB (wpAny_layCells _ (λname kind cells=>by cases a:kind==NameKind.cell<;>simp[a]) _ _ _ _ ?_);rw[show ({s with heap:=s.heap.push {cls:=.type "dict",data:=.dict #[]}}:Shared).heap.objs.size=s.heap.objs.size+1 from zqw ..];simp only [List.forIn_nil];exact wpB (zpR (zpR h))
noncomputable def relS (scope sc:Scope):Scope:={scope with names:=scope.names.map λ(n,k)=>if (k == .free&&sc.kind == .function&&sc.names.lookup n==some .cell) then (n,.cell) else (n,k)}
theorem zfA {scope:Scope}:relabel scope env=relS scope env.scope:=rfl
section
structure ScOk (scope:Scope) (c:Ctx):Prop where
 kind:scope.kind=.function
 names:∀x∈scope.names,x.2=.local->scope.names.lookup x.1=some .local
 one:∀x y,(x,NameKind.cell)∈scope.names->(y,NameKind.cell)∈scope.names->x=y
 free:∀x∈scope.names,x.2=.free->(c.cel.lookup x.1).isSome=true
 apart:∀x,(x,NameKind.cell)∈scope.names->(x,NameKind.free)∉scope.names
noncomputable def zog (scope:Scope) (c:Ctx) (D:Addr) (ys:List PyData):Ctx:={loc:=[],cel:=c.cel.filter λq=>scope.names.contains (q.1,NameKind.free),own:=[(D,.lst ys)]}
theorem zi1 (F:Frm X A env sc mu fr) (O:X.Ok){scope:Scope}(K:ScOk scope c){I:Addr}{fp Q:LA}{P:Nat->Value->Prop}{S:Nat->Heap->Prop}{xs:List PyData}{U f:Shared}(s:Loc X A env mu c U) (a1:Aft X A U f) (C:Src X A mu I fp Q P S xs f) (G:∀b∈Q,hz U<=b/\b<hz f)
  {E:VP}{R:Value->Env->Shared->Prop}
  (h:∀(g:Env) (D:Addr) (new:LA) (w:Shared),g.frame=env.frame->(∀b∈new,hz f<=b)->D∈new->g.locals∈new->D≠g.locals->Aft X A f w->Frm X A g (relS scope sc) (new++mu) new->(∀y,(y,NameKind.cell)∈scope.names->∃a,zW X A g new y a)->
   Src X A (new++mu) I fp Q P S xs w->(∀b∈Q,b∉new++mu)->Apart X A g [D] Q->Loc X A g (Q++(new++mu)) (zog scope c D []) w->R (.ref D) g w) :
  wpAny X.M A (newList []) (λacc a6=>wpAny X.M A (newFunctionEnv scope env.globals (zck env.cells scope.names []) [] env.qual none .none (some env)) (λg w=>R acc {g with scope:=relabel scope env} w) E a6) E f:=by
 have l₂:Loc X A env (Q++mu) c f:=s.grow O a1 G;refine zp8 (zeF ?_);generalize hH:f.heap.push {cls:=.type "list",dict:=none,data:=.seq ([]:List Value).toArray}=H;have a0:H.objs.size=f.heap.objs.size+1:=by rw[<-hH,zqw]
 generalize hh:pushCells (H.push {cls:=.type "dict",data:=.dict #[]}) scope.names=j;have k0:∀b o,f.heap.get? b=some o->j.get? b=some o:=λb o e=>by rw[<-hh];exact pushCells_keeps _ _ _ _ (zpD _ (hH▸zpD _ e))
 have a7:f.heap.objs.size+2<=j.objs.size:=by
  have:=zaR scope.names (H.push {cls:=.type "dict",data:=.dict #[]});rw[zqw,a0] at this;rw[<-hh];exact this
 have z:Aft X A f {f with heap:=j}:=⟨.all k0,rfl,id,by show _<=j.objs.size;sleep 57,zpB _,λo e=>⟨o,k0 _ _ e⟩⟩;have L:∀x,(x,NameKind.free)∈scope.names->∃a,env.cells.lookup x=some a:=λx m=>by
  obtain⟨d,hd⟩:=zp6.mp (K.free (x,.free) m rfl);obtain⟨a,_,Y,_⟩:=s.cell x d hd;exact⟨a,Y⟩
 have b3:∀x a,(zck env.cells scope.names []).lookup x=some a->(x,NameKind.free)∈scope.names/\env.cells.lookup x=some a:=λx a e=>by
  rcases zi4 e with ⟨l,t⟩|h
  .obtain⟨a',ha'⟩:=L x l;rw[ha'] at t;cases t;exact⟨l,ha'⟩
  .cases h
 generalize a5:cellsFrom (H.objs.size+1) scope.names (zck env.cells scope.names [])=cells;have k:∀x a,cells.lookup x=some a->(f.heap.objs.size+2<=a/\j.IsCell a none/\(x,NameKind.cell)∈scope.names)\/((x,NameKind.free)∈scope.names/\env.cells.lookup x=some a):=λx a e=>by
  have e':(cellsFrom (H.push {cls:=.type "dict",data:=.dict #[]}).objs.size scope.names (zck env.cells scope.names [])).lookup x=some a:=by rw[zqw,a5];exact e
  rcases zol e' with ⟨l,t,h3⟩|b4
  .rw [zqw,a0] at l;exact .inl ⟨l,hh▸t,h3⟩
  .exact .inr (b3 x a b4)
 have V:∀x,(x,NameKind.cell)∈scope.names->∃a,cells.lookup x=some a/\f.heap.objs.size+2<=a/\j.IsCell a none:=λx m=>by
  have:=zT (n:=H.objs.size+1) (acc:=zck env.cells scope.names []) (.inl m);rw[a5] at this;obtain⟨a,Y⟩:=zp6.mp this;rcases k x a Y with ⟨l,t,_⟩|⟨l,_⟩
  .exact ⟨a,Y,l,t⟩
  .exact absurd l (K.apart x m)
 have a8:∀x,(x,NameKind.free)∈scope.names->∃a,env.cells.lookup x=some a/\cells.lookup x=some a:=λx m=>by
  obtain⟨a,Y⟩:=L x m;have s1:=zi5 (cells:=env.cells) (acc:=[]) (.inl m);have s2:=zT (n:=H.objs.size+1) (names:=scope.names) (.inr s1);rw[a5] at s2;obtain⟨b,J⟩:=zp6.mp s2;rcases k x b J with ⟨_,_,h3⟩|⟨_,t⟩
  .exact absurd m (K.apart x h3)
  .rw [Y] at t;cases t;exact⟨a,Y,J⟩
 let cs:LA:=cells.filterMap λp=>if (p.1,NameKind.cell)∈scope.names then cells.lookup p.1 else none
 have a2:∀a,a∈cs↔∃y,(y,NameKind.cell)∈scope.names/\cells.lookup y=some a:=λa=>by
  constructor
  .intro m;obtain⟨p,_,e⟩:=zp5.mp m
   by_cases h:(p.1,NameKind.cell)∈scope.names
   .exact ⟨p.1,h,(if_pos h).symm.trans e⟩
   .exact zg ((if_neg h).symm.trans e)
  .rintro ⟨y,l,e⟩
   exact zp5.mpr ⟨(y,a),mem_of_lookup e,by rw[if_pos l];exact e⟩
 have a3:∀a∈cs,f.heap.objs.size+2<=a/\j.IsCell a none:=λa m=>by
  obtain⟨y,l,t⟩:=(a2 a).mp m;obtain⟨b,J,q⟩:=V y l;rw[t] at J;cases J;exact q
 generalize T:({scope:=relabel scope env,locals:=H.objs.size,globals:=env.globals,cells:=cells,qual:=env.qual,func:=none,code:=env.code,frame:=env.frame,builtins:=env.builtins}:Env)=g;have Z:g.locals=f.heap.objs.size+1:=by rw[<-T];exact a0
 have hC:g.cells=cells:=by rw[<-T]
 have u:∀b,f.heap.objs.size<=b->X.kk.get? b=none/\b∉fsOf A/\b≠X.tb/\b∉Q++mu/\∀y a,env.cells.lookup y=some a->b≠a:=λb J=>by
  refine⟨?_,λm=>absurd (l₂.frs.lt m) (zpO.mpr J),λq=>absurd (l₂.low _ l₂.tbm.tb) (zpO.mpr (q▸J)),λm=>absurd (l₂.low _ m) (zpO.mpr J),λy a e q=>absurd (l₂.cis y a e).2.choose_spec.lt (zpO.mpr (q▸J))⟩;cases q:X.kk.get? b with
  | none=>rfl
  | some o=>exact absurd (zpI (l₂.stay _ _ q)) (zpO.mpr J)
 let new:LA:=f.heap.objs.size::(f.heap.objs.size+1)::cs;have N:∀b∈new,hz f<=b:=λb m=>by
  refine memK m ?_ λm=>?_
  .exact zpB _
  .refine memK m ?_ λm=>?_
   .exact zqz _
   .exact zpF (zqu _ 2) (a3 b m).1
 have a9:∀b∈new,b<j.objs.size:=λb m=>by
  refine memK m ?_ λm=>?_
  .exact zpM (Nat.lt_add_of_pos_right (by ext)) a7
  .refine memK m ?_ λm=>?_
   .exact a7
   .exact (a3 b m).2.lt
 have b5:j.get? f.heap.objs.size=some (lst [] 0):=by
  rw[<-hh];exact pushCells_keeps _ _ _ _ (zpD _ (hH▸zpG _ rfl))
 have b6:j.Ns (f.heap.objs.size+1) λ_=>none:=by
  rw[<-hh,<-a0];exact(Heap.Ns.new H (.type "dict")).keeps (pushCells_keeps _ _)
 have b0:∀b∈Q,b∉new++mu:=λb m q=>by
  rcases zpE.mp q with q|q
  .exact absurd (G b m).2 (zpO.mpr (N b q))
  .exact absurd (s.low b q) (zpO.mpr (G b m).1)
 have a4:Mu X A (new++mu):=⟨zpw _ s.tbm.tb,λb m=>zpw _ (s.tbm.fs b m)⟩;have b1:Mu X A (Q++(new++mu)):=⟨zpw _ a4.tb,λb m=>zpw _ (a4.fs b m)⟩;have b2:∀{v:Value}{d:PyData},Rd f.heap (Q++mu) v d->Rd j (Q++(new++mu)) v d:=λr=>r.move λa o hn ho=>⟨λq=>by
  rcases zpE.mp q with q|q
  .exact hn (zpC _ q)
  .rcases zpE.mp q with q|q
   .exact absurd (zpI ho) (zpO.mpr (N a q))
   .exact hn (zpw _ q),k0 a o ho⟩
 have B:Apart X A env (owns c.own) Q:=Apart.fresh s λb m=>(G b m).1;refine h g f.heap.objs.size new {f with heap:=j} (by rw[<-T]) N zpP (by rw[Z];exact zpx _ zpP) (by rw[Z];exact zqV (zpY _)) z ?_ (λy hy=>?_) ?_ b0 ?_ ?_
 .refine ⟨⟨by rw[<-T];show relabel scope env=_;rw[zfA,F.scope],by show (relS scope sc).kind=_;exact K.kind,by rw[<-T];exact F.globals,by rw[<-T];exact F.builtins⟩,?_,?_,?_,λy a e=>?_,λb m=>zpC _ m⟩
  .rw [Z];exact zpC _ (zpx _ zpP)
  .rw [Z];exact zpx _ zpP
  .rw [Z];exact(u _ (zqz _)).1
  .rw [Z];rw[hC] at e;rcases k y a e with ⟨l,_,_⟩|⟨_,t⟩
   .exact zqH l
   .exact Ne.symm ((u _ (zqz _)).2.2.2.2 y a t)
 .obtain⟨a,Y,l,_⟩:=V y hy;refine⟨a,by rw[hC];exact Y,zpx _ (zpx _ ((a2 a).mpr ⟨y,hy,Y⟩)),(u a (zpF (zqu _ 2) l)).2.1,(u a (zpF (zqu _ 2) l)).1,λy' e=>?_⟩;rw[hC] at e;rcases k y' a e with ⟨_,_,h3⟩|⟨_,h3⟩
  .exact K.one _ _ h3 hy
  .exact absurd rfl ((u a (zpF (zqu _ 2) l)).2.2.2.2 y' a h3)
 .refine ⟨C.W,C.W.frame _ _ _ C.st λb _ o e=>k0 b o e,λi v d hv hd=>b2 (C.rd i v d hv hd),λb m=>?_,λb m=>zpM (C.lt b m) z.size,C.go⟩;rcases C.ap b m with q|q
  .exact .inl q
  .refine .inr λq'=>?_;rcases zpE.mp q' with q'|q'
   .exact absurd (C.lt b m) (zpO.mpr (N b q'))
   .exact q q'
 .refine ⟨B.kk,B.tb,λm=>?_,B.fs,λb m q=>?_,λb m y a e q=>?_⟩
  .rw [Z] at m;exact absurd (G _ m).2 (zpO.mpr (zqz _))
  .rw [zqP.mp q] at m;exact absurd (G _ m).2 (zpZ _)
  .subst q;rw[hC] at e;rcases k y b e with ⟨l,_,_⟩|⟨_,t⟩
   .exact absurd (zpM (G b m).2 (zqu _ 2)) (zpO.mpr l)
   .exact B.cel b m y b t rfl
 .refine ⟨λb o e=>k0 b o (l₂.stay b o e),b1,λb m=>?_,by rw[Z];exact(u _ (zqz _)).2.2.1,⟨_,Z▸b6,λx d e=>zg e⟩,λx d e=>?_,λy a e=>?_,l₂.tk.aft z,?_,λp hp=>?_,?_,λb m=>?_⟩
  .rcases zpE.mp m with m|m
   .exact zpM (G b m).2 z.size
   .rcases zpE.mp m with m|m
    .exact a9 b m
    .exact zpM (s.low b m) (zpF a1.size z.size)
  .have e:(c.cel.filter λq=>scope.names.contains (q.1,NameKind.free)).lookup x=some d:=e;obtain⟨l,t⟩:=zbe (λq=>scope.names.contains (q,NameKind.free)) e;obtain⟨a,v,q1,q2,q3,q4⟩:=l₂.cell x d t;obtain⟨b,J,b7⟩:=a8 x (List.contains_iff_mem.mp l);rw[q1] at J;cases J;exact⟨a,v,by rw[hC];exact b7,q2,q3.keeps k0,b2 q4⟩
  .rw [hC] at e;rcases k y a e with ⟨l,t,_⟩|⟨_,t⟩
   .exact ⟨(u a (zpF (zqu _ 2) l)).2.2.1,_,t⟩
   .obtain⟨q,v,hv⟩:=l₂.cis y a t;exact⟨q,v,hv.keeps k0⟩
  .exact l₂.frs.aft z
  .rw [zqP.mp hp];exact⟨[],0,b5,.nil⟩
  .exact List.nodup_cons.mpr ⟨List.not_mem_nil,List.nodup_nil⟩
  .have J:b=f.heap.objs.size:=zqP.mp m;subst J;refine⟨zpw _ (zpC _ zpP),(u _ (zpB _)).2.1,(u _ (zpB _)).2.2.1,by rw[Z];exact zqV (zpY _),(u _ (zpB _)).1,λy a e q=>?_⟩;rw[hC] at e;rcases k y a e with ⟨l,_,_⟩|⟨_,t⟩
   .exact absurd (zpM (Nat.lt_add_of_pos_right (by ext)) l) (q▸zpZ _)
   .exact (u _ (zpB _)).2.2.2.2 y a t q
end
section
def zcX (X:Wd) (A:Around) (sc:Scope) (mu:LA) (c:Ctx) (scope:Scope) (e:Expr) (xs ys:List PyData):Prop:=
 ∀(cenv:Env) (D I:Addr) (new fp wr:LA) (P:Nat->Value->Prop) (S:Nat->Heap->Prop) (s₄:Shared),D∈new->Mu X A (new++mu)->Frm X A cenv (relS scope sc) (new++mu) new->(∀y,(y,NameKind.cell)∈scope.names->∃a,zW X A cenv new y a)->
  Src X A (new++mu) I fp wr P S xs s₄->(∀b∈wr,b∉new++mu)->Apart X A cenv [D] wr->Loc X A cenv (wr++(new++mu)) (zog scope c D []) s₄->
  ∀R:Result->Shared->Prop,(∀s',AftL X A (wr++new) s₄ s'->Loc X A cenv (wr++(new++mu)) (zog scope c D ys) s'->R (.ok .next) s')->codeAny X.M A (.compLoop e 0 (.ref I) (.ref D) cenv) R s₄
theorem zgd (F:Frm X A env sc mu fr) (O:X.Ok) (l:Loc X A env mu c s){q t r:Expr}{o:List Expr}{gs:List Comprehension}{scope:Scope}{pos p0:Pos}(K:ScOk scope c){xs ys:List PyData}(N:Itr X A env mu r xs s) (hs:∀x,foldedSetIterable r env x=pure x)
  (u:zcX X A sc mu c scope (.ListComp q (⟨t,r,o,0⟩::gs) scope pos) xs ys){use:Option (Value->Sem Unit)}{Q:VP}{E:VP}
  (w:∀D C s',Aft X A s s'->(∀b∈[C],hz s<=b/\b<hz s')->D≠C->hz s<=D->Rd s'.heap ([C]++mu) (.ref D) (.list ys)->(∃m,s'.heap.Ns C m)->compPost X.M A E use Q (.ref D) C (.ok .next) s') :
  wpAny X.M A (comprehension (.ListComp q (⟨t,r,o,0⟩::gs) scope pos) scope env p0 (newList []) false (eval r env) use) Q E s:=by
 refine wpAny_comprehension_free (g:=⟨t,r,o,0⟩) (gs:=gs) rfl hs (zau λx hx hk=>?_) K.kind K.names ?_
 .obtain⟨d,hd⟩:=zp6.mp (K.free x hx hk);obtain⟨a,_,ha,_⟩:=l.cell _ d hd;exact zp6.mpr ⟨a,ha⟩
 refine N _ _ λv a0 f T=>T _ _ λI fp wr P S a1 i U y=>?_;have z:=l.aft O f;refine zi1 F O K z i U y (R:=λacc h j=>codeAny X.M A (.compStart (.ListComp q (⟨t,r,o,0⟩::gs) scope pos) 0 (.ref I) acc h) (compPost X.M A E use Q acc h.locals) j) λh D new j _ k V B G H F4 cel p J Y l4=>?_;have L:codeAny X.M A (.compLoop (.ListComp q (⟨t,r,o,0⟩::gs) scope pos) 0 (.ref I) (.ref D) h) (compPost X.M A E use Q (.ref D) h.locals) j:=by
  refine u h D I new fp wr P S j V ⟨zpw _ l.tbm.tb,λb m=>zpw _ (l.tbm.fs b m)⟩ F4 cel p J Y l4 _ λs' a5 Z=>?_;have up:Aft X A s s':=AftL.toAft ((((f.trans i).trans H).toL.trans a5).fresh λb m=>.inr (zpK ?_))
  .refine w D h.locals s' up (λb m=>?_) G ?_ ?_ ?_
   .rw [zqP.mp m];exact⟨zpF (zpF f.size i.size) (k _ B),by rcases Z.ns with ⟨_,hn,_⟩;exact hn.lt⟩
   .exact zpF (zpF f.size i.size) (k _ V)
   .obtain⟨vs,n,e,rs⟩:=Z.own (D,.lst ys) zpP;refine .list (n:=n) (λm=>?_) e (rs.sub λb m=>?_)
    .rcases zpE.mp m with m|m
     .exact G (zqP.mp m)
     .exact absurd (l.low _ m) (zpO.mpr (zpF (zpF f.size i.size) (k _ V)))
    .rcases zpE.mp m with m|m
     .rw [zqP.mp m];exact zpw _ (zpC _ B)
     .exact zpw _ (zpw _ m)
   .rcases Z.ns with ⟨m,hn,_⟩;exact⟨m,hn⟩
  .rcases zpE.mp m with m|m
   .exact zpF f.size (y b m).1
   .exact zpF (zpF f.size i.size) (k b m)
 exact codeAny_compStart_list L (p.W.self 0 _ _ _ p.st L)
theorem Aft.trans' {s s':Shared}(a:Aft X A s s'){C:Addr}{h':Heap}(c:Heap.SameBut C s'.heap h') (f:hz s<=C):Aft X A s {s' with heap:=h'}:=by
 refine⟨λb o m e=>?_,a.os,a.gens,by show _<=h'.objs.size;rw[c.1];exact a.size,a.toks,λo e=>let ⟨o',d⟩:=a.live o e;⟨o',(c.2 X.tb (λ(q:X.tb=C)=>absurd (zpI e) (zpO.mpr (q▸f)))).trans d⟩⟩;obtain⟨o',d,r⟩:=a.keep b o m e;exact⟨o',(c.2 b (λq=>absurd (zpI e) (zpO.mpr (q▸f)))).trans d,r⟩
theorem AftL.trans' {s s':Shared}(a:AftL X A fr s s'){C:Addr}{h':Heap}(c:Heap.SameBut C s'.heap h') (f:hz s<=C):AftL X A fr s {s' with heap:=h'}:=by
 refine⟨λb o m e=>?_,a.os,a.gens,by show _<=h'.objs.size;rw[c.1];exact a.size,a.toks,λo e=>let ⟨o',d⟩:=a.live o e;⟨o',(c.2 X.tb (λ(q:X.tb=C)=>absurd (zpI e) (zpO.mpr (q▸f)))).trans d⟩⟩;obtain⟨o',d,r⟩:=a.keep b o m e;exact⟨o',(c.2 b (λq=>absurd (zpI e) (zpO.mpr (q▸f)))).trans d,r⟩
theorem zb2 (F:Frm X A env sc mu fr) (O:X.Ok) (l:Loc X A env mu c s){f t j:Expr}{g:List Expr}{gs:List Comprehension}{scope:Scope}{pos:Pos}(K:ScOk scope c){xs ys:List PyData}(k:Itr X A env mu j xs s) (u:∀x,foldedSetIterable j env x=pure x)
  (d:zcX X A sc mu c scope (.ListComp f (⟨t,j,g,0⟩::gs) scope pos) xs ys):Ev X A env mu (.ListComp f (⟨t,j,g,0⟩::gs) scope pos) (.list ys) s:=λE Q h=>by
 rw[eval_ListComp];refine zgd F O l K k u d (use:=none) λD C s' a v w y r n=>?_;obtain⟨m,n⟩:=n;refine⟨m,n,λh' i=>h (.ref D) {s' with heap:=h'} (a.trans' i (v C (by simp)).1) ?_⟩;refine(r.move λb o p e=>⟨λq=>p (List.mem_append_right _ q),(i.2 b λq=>p (by simp[q])).trans e⟩)
theorem zN (F:Frm X A env sc mu fr) (O:X.Ok){d t i:Expr}{f:List Expr}{gs:List Comprehension}{scope:Scope}{pos xp p:Pos}{x:Str}(K:ScOk scope c){xs ys:List PyData}(z:sc.names.lookup x=some .local) (v:∀s,Loc X A env mu c s->Itr X A env mu i xs s) (B:∀x,foldedSetIterable i env x=pure x)
  (w:swapsWith (.ListComp d (⟨t,i,f,0⟩::gs) scope pos) (some (.Name x xp)) p.line env=pure true)
  (j:zcX X A sc mu c scope (.ListComp d (⟨t,i,f,0⟩::gs) scope pos) xs ys):St1 X A env mu fr c (.Assign [.Name x xp] (.ListComp d (⟨t,i,f,0⟩::gs) scope pos) p) .next (c.set x (.list ys)):=λs l E Q h _=>by
 rw[exec_Assign_Name_used _ _ _ _ w];refine wpB (zqI (wpB ?_));show wpAny _ A (do let _ <-comprehension (.ListComp d (⟨t,i,f,0⟩::gs) scope pos) scope env _ (newList []) false (eval i env) (some (assign (.Name x xp) env))) _ _ s;refine wpB (zgd F O l K (v s l) B j (use:=some (assign (.Name x xp) env)) (Q:=λ_ s'=>wpAny X.M A (pure ()) (λ_ s'=>wpAny X.M A (pure .next) Q E s') E s') λD C s' a u G J r y=>?_);have l':Loc X A env ([C]++mu) c s':=l.grow O a u;have H:Frm X A env sc ([C]++mu) fr:=⟨F.toStat,zpw _ F.lmu,F.lfr,F.new,F.cel,λb m=>zpw _ (F.sub b m)⟩;have ap:Apart X A env (owns c.own) [C]:=Apart.fresh l λb m=>(u b m).1;obtain⟨m,y⟩:=y;refine zqO (zq H l' z r λn g l₂=>⟨m,?_,λh' k=>zpR (zpR (h _ _ ?_ ?_ rfl))⟩)
 .refine Ns.same (fs:=fsOf A) y λo I=>g.keep _ _ (λq=>?_) I;rcases zpz.mp q with q|q
  .exact ap.tb (by simp[q])
  .exact absurd (l.low _ (F.sub _ q)) (Nat.not_lt.mpr (u C (by simp)).1)
 .exact (a.toL.trans g).trans' k (u C (by simp)).1
 .refine (l₂.upd (s':={n with heap:=h'}) (ch:=[C]) ap (λb m=>List.mem_append_left _ m) (λb o m e=>(k.2 b λq=>m (by simp[q])).trans e) (by show _<=h'.objs.size;rw[k.1];exact Nat.le_refl _) (Nat.le_refl _)).mu_less (λb m=>List.mem_append_right _ m) l.tbm λb m=>(l.ownMu b m).1
end
theorem zff {M:Model}{R:Result->Shared->Prop}{c t e f a:Expr}{d b:List Expr}{scope:Scope}{pos:Pos}{g acc:Value}
  (j:codeAny M A (.compLoop (.ListComp c [⟨t,e,d,0⟩,⟨f,a,b,0⟩] scope pos) 1 g acc env) R s)
  (h:wpAny M A (pyIter g) (λi s'=>codeAny M A (.compLoop (.ListComp c [⟨t,e,d,0⟩,⟨f,a,b,0⟩] scope pos) 1 i acc env) R s') (notedBy M A env λx s'=>R (.error x) s') s) (k:M.den (.compStart (.ListComp c [⟨t,e,d,0⟩,⟨f,a,b,0⟩] scope pos) 1 g acc env)=(compStart (.ListComp c [⟨t,e,d,0⟩,⟨f,a,b,0⟩] scope pos) 1 g acc env).onRaise (λx=>do noteFrame x env;standAt theWindowsPlace)) :
  codeAny M A (.compStart (.ListComp c [⟨t,e,d,0⟩,⟨f,a,b,0⟩] scope pos) 1 g acc env) R s:=by
 refine codeAny_of_tree ?_;show wpAny M A (M.den _) _ _ s;rw[k];refine wpAny_notedAt ?_;show wpAny _ _ (ask>>=_) _ _ s;refine wpB (wpAny_askSetting (wpAny_ite ?_))
 split
 .first
   | exact wpB (zpR (zpR (And.intro rfl j)))
   | exact zpR (And.intro rfl j)
 .first
   | exact wpB (wpAny_rule (wpB (zqI (wpB (zp9 h (λa s' h'=>zpR (And.intro rfl h')) λ_ _ x=>x)))))
   | (refine wpB (wpAny_rule ?_);show wpAny _ _ (standAt a.pos>>=_) _ _ s;exact wpB (zqI (wpB (zp9 h (λa s' h'=>zpR (And.intro rfl h')) λ_ _ x=>x))))
section
variable {D:Addr}
noncomputable def comp0 (scope:Scope) (c:Ctx):Ctx:={loc:=[],cel:=c.cel.filter λq=>scope.names.contains (q.1,NameKind.free)}
theorem zaB (O:X.Ok){g t q:Expr}{j:List Expr}{scope:Scope}{pos:Pos}{xs:List PyData}(e:List (List PyData)) (k:e.length=xs.length) (m:e.flatten.length<=sizeLine)
  (f:∀(i:Nat) (d:PyData) (ys:List PyData),xs[i]? = some d->e[i]? = some ys->∀(b:Env) (D:Addr) (mu' fr':LA),D∈fr'->Frm X A b (relS scope sc) mu' fr'->(∀y,(y,NameKind.cell)∈scope.names->∃a,zW X A b fr' y a)->
   za8 X A b mu' fr' D (comp0 scope c) t j (zf4 X A g (.ref D) b) d ys) :
  zcX X A sc mu c scope (.ListComp g [⟨t,q,j,0⟩] scope pos) xs e.flatten:=λb D I new B C P S p r u F cel n o ap l R v=>
 zg1 O F (c:=comp0 scope c) (acc₀:=[]) (λQ E s h=>by rw[zk8];exact turnW_one ⋯ h) n u o ap l k (by rw[List.length_nil,Nat.zero_add];exact m) (λi d ys w x z=>f i d ys w x b D _ _ r z cel) λs' a l'=>v s' a (by rw[List.nil_append] at l';exact l')
theorem zkU (O:X.Ok) (F:Frm X A env sc mu fr) (hD:D∈fr) (R:Mu X A mu){p t T H k:Expr}{y f:List Expr}{scope:Scope}{pos:Pos}{xs:List PyData}(u:List (List PyData)) (z:u.length=xs.length)
  (J:∀s acc,Loc X A env mu (c.acc D acc) s->Itr X A env mu k xs s)
  (w:∀(i:Nat) (d:PyData) (ys:List PyData),xs[i]? = some d->u[i]? = some ys->∀mu':LA,Frm X A env sc mu' fr->za8 X A env mu' fr D c H f (zf4 X A p (.ref D) env) d ys) :
  zhD X A env mu fr D c (zfV X A (.ListComp p [⟨t,T,y,0⟩,⟨H,k,f,0⟩] scope pos) 1 k (.ref D) env) u.flatten:=λs acc l L E K h=>by
 refine J s acc l _ _ λv U g N=>N _ _ λI fp V P S B o x n=>?_;have j:=l.aft O g;have l₂:=j.grow O o n;have C:∀b∈V,b∉mu:=λb m q=>absurd (j.low b q) (zpO.mpr (n b m).1);refine wpAny_runOwn (h:=none) ?_;have G:codeAny X.M A (.compLoop (.ListComp p [⟨t,T,y,0⟩,⟨H,k,f,0⟩] scope pos) 1 (.ref I) (.ref D) env) (λr s'=>match r with | .ok _=>K s' | .error e=>cameBackBy X.M A env E e s') B:=
  zg1 O F (c:=c) (acc₀:=acc) (λQ E s h=>by rw[zjx];exact turnW_one ⋯ h) x R C (Apart.fresh j λb m=>(n b m).1) l₂ z L (λi d ys Y Z F'=>w i d ys Y Z _ F') λs' a l'=>by
   refine h s' (((g.trans o).toL.trans a).fresh λb m=>?_) (l'.mu_less (λb m=>zpw _ m) R λb m=>?_)
   .rcases zpE.mp m with m|m
    .exact .inr (zpK (zpF g.size (n b m).1))
    .exact .inl m
   .have hb:b∈owns (c.acc D acc).own:=by simpa [owns,Ctx.acc,Own.ads] using m
    exact(l.ownMu b hb).1
 exact zff (M:=X.M) G (x.W.self 0 _ _ _ x.st G) ⋯
theorem zi2 (O:X.Ok){m t r u e:Expr}{j g:List Expr}{scope:Scope}{pos:Pos}{xs:List PyData}(f:List (List PyData)) (n:f.length=xs.length) (o:f.flatten.length<=sizeLine) (w:∀(env:Env) x,foldedSetIterable e env x=pure x)
  (k:∀(i:Nat) (d:PyData) (ys:List PyData),xs[i]? = some d->f[i]? = some ys->∀(b:Env) (D:Addr) (mu' fr':LA),D∈fr'->Mu X A mu'->Frm X A b (relS scope sc) mu' fr'->(∀y,(y,NameKind.cell)∈scope.names->∃a,zW X A b fr' y a)->
   za8 X A b mu' fr' D (comp0 scope c) t j (zfV X A (.ListComp m [⟨t,r,j,0⟩,⟨u,e,g,0⟩] scope pos) 1 e (.ref D) b) d ys) :
  zcX X A sc mu c scope (.ListComp m [⟨t,r,j,0⟩,⟨u,e,g,0⟩] scope pos) xs f.flatten:=λb D I new K L P S v z B F cel p q ap l R C=>
 zg1 O F (c:=comp0 scope c) (acc₀:=[]) (λQ E s h=>by rw[zjy];exact turnW_two (w b) ⋯ h) p B q ap l n (by rw[List.length_nil,Nat.zero_add];exact o) (λi d ys G H J=>k i d ys G H b D _ _ z l.tbm J cel) λs' a l'=>C s' a (by rw[List.nil_append] at l';exact l')
theorem zas (F:Frm X A env sc mu fr){x:Str}{p:Pos}{d:PyData}{f:List Expr}{a:Tx}{ys:List PyData}(h:sc.names.lookup x=some .local) (i:c.loc.lookup x=none){b:Bool}(j:zkV X A env mu D (c.set x d) f b) (k:b=true->zhD X A env mu fr D (c.set x d) a ys) (l:b=false->ys=[]) :
  za8 X A env mu fr D c (.Name x p) f a d ys:=⟨c.set x d,b,λacc=>zbK (c:=c.acc D acc) F h,λy d' e=>by
   show (setL c.loc x d).lookup y=some d';rw[zk]
   by_cases g:y=x
   .subst g;rw[i] at e;cases e
   .rw [if_neg g];exact e,λ_ _ e=>e,j,k,l⟩
theorem zjz (F:Frm X A env sc mu fr){x:Str}{a:Addr}{p:Pos}{d:PyData}{g:List Expr}{f:Tx}{ys:List PyData}(i:sc.names.lookup x=some .cell) (C:zW X A env fr x a) (j:c.cel.lookup x=none){b:Bool}(k:zkV X A env mu D (c.setC x d) g b) (l:b=true->zhD X A env mu fr D (c.setC x d) f ys) (m:b=false->ys=[]) :
  za8 X A env mu fr D c (.Name x p) g f d ys:=⟨c.setC x d,b,λacc=>zmx (c:=c.acc D acc) F i C,λ_ _ e=>e,λy d' e=>by
   show (setL c.cel x d).lookup y=some d';rw[zk]
   by_cases h:y=x
   .subst h;rw[j] at e;cases e
   .rw [if_neg h];exact e,k,l,m⟩
theorem zaV (F:Frm X A env sc mu fr) (O:X.Ok){x:Str}{p:Pos}{d d':PyData}{a:Expr}(e:D∈fr) (f:sc.names.lookup x=some .local) (g:c.loc.lookup x=none) (h:∀s acc,Loc X A env mu ((c.set x d).acc D acc) s->Ev X A env mu a d' s):za8 X A env mu fr D c (.Name x p) [] (zf4 X A a (.ref D) env) d [d']:=
 zas F f g (b:=true) zb7 (λ_=>zaQ O e h) nofun
theorem zj6 {a c e:Type}{f:a->c}{g:a->e}{zs:List a}{i:Nat}{d:c}{ys:e}(hd:(zs.map f)[i]? = some d) (b:(zs.map g)[i]? = some ys):∃z,z∈zs/\d=f z/\ys=g z:=by
 rw[zqS] at hd b;cases hz:zs[i]? with
 | none=>rw[hz] at hd;exact zg hd
 | some z=>rw[hz] at hd b;exact⟨z,zqd hz,(zqr hd).symm,(zqr b).symm⟩
theorem zdI {a b:Type}(f:a->b) (l:List a):(l.map λx=>[f x]).flatten=l.map f:=by
 induction l with
 | nil=>rfl
 | cons x l c=>exact congrArg (f x::·) c
theorem zev (O:X.Ok){k:Type}{zs:List k}{f:k->PyData}{g:k->List PyData}{h t n:Expr}{j:List Expr}{scope:Scope}{pos:Pos}(l:(zs.map g).flatten.length<=sizeLine)
  (e:∀z∈zs,∀(b:Env) (D:Addr) (mu' fr':LA),D∈fr'->Frm X A b (relS scope sc) mu' fr'->(∀y,(y,NameKind.cell)∈scope.names->∃a,zW X A b fr' y a)->
   za8 X A b mu' fr' D (comp0 scope c) t j (zf4 X A h (.ref D) b) (f z) (g z)) :
  zcX X A sc mu c scope (.ListComp h [⟨t,n,j,0⟩] scope pos) (zs.map f) (zs.map g).flatten:=
 zaB O _ (by rw[zqn,zqn]) l λi d ys hd o=>by
  obtain⟨z,m,p,q⟩:=zj6 hd o;rw[p,q];exact e z m
theorem zaL (O:X.Ok){i:Type}{zs:List i}{f:i->PyData}{g:i->PyData}{e t k:Expr}{h:List Expr}{scope:Scope}{pos:Pos}(j:zs.length<=sizeLine)
  (d:∀z∈zs,∀(b:Env) (D:Addr) (mu' fr':LA),D∈fr'->Frm X A b (relS scope sc) mu' fr'->(∀y,(y,NameKind.cell)∈scope.names->∃a,zW X A b fr' y a)->
   za8 X A b mu' fr' D (comp0 scope c) t h (zf4 X A e (.ref D) b) (f z) [g z]) :
  zcX X A sc mu c scope (.ListComp e [⟨t,k,h,0⟩] scope pos) (zs.map f) (zs.map g):=
 zdI g zs▸zev O (g:=λz=>[g z]) (by rw[zdI,zqn];exact j) d
theorem zdR (O:X.Ok){n:Type}{zs:List n}{f:n->PyData}{g:n->List PyData}{l t p q e:Expr}{j h:List Expr}{scope:Scope}{pos:Pos}(o:(zs.map g).flatten.length<=sizeLine) (r:∀(env:Env) x,foldedSetIterable e env x=pure x)
  (k:∀z∈zs,∀(b:Env) (D:Addr) (mu' fr':LA),D∈fr'->Mu X A mu'->Frm X A b (relS scope sc) mu' fr'->(∀y,(y,NameKind.cell)∈scope.names->∃a,zW X A b fr' y a)->
   za8 X A b mu' fr' D (comp0 scope c) t j (zfV X A (.ListComp l [⟨t,p,j,0⟩,⟨q,e,h,0⟩] scope pos) 1 e (.ref D) b) (f z) (g z)) :
  zcX X A sc mu c scope (.ListComp l [⟨t,p,j,0⟩,⟨q,e,h,0⟩] scope pos) (zs.map f) (zs.map g).flatten:=
 zi2 O _ (by rw[zqn,zqn]) o r λi d ys hd s=>by
  obtain⟨z,m,u,v⟩:=zj6 hd s;rw[u,v];exact k z m
theorem zil (O:X.Ok) (F:Frm X A env sc mu fr) (o:D∈fr) (p:Mu X A mu){j:Type}{zs:List j}{f:j->PyData}{g:j->PyData}{h t q n b:Expr}{k a:List Expr}{scope:Scope}{pos:Pos}
  (l:∀s acc,Loc X A env mu (c.acc D acc) s->Itr X A env mu b (zs.map f) s)
  (e:∀z∈zs,∀mu':LA,Frm X A env sc mu' fr->za8 X A env mu' fr D c n a (zf4 X A h (.ref D) env) (f z) [g z]) :
  zhD X A env mu fr D c (zfV X A (.ListComp h [⟨t,q,k,0⟩,⟨n,b,a,0⟩] scope pos) 1 b (.ref D) env) (zs.map g):=
 zdI g zs▸zkU O F o p (zs.map λz=>[g z]) (by rw[zqn,zqn]) l λi d ys hd r=>by
  obtain⟨z,m,u,v⟩:=zj6 hd r;rw[u,v];exact e z m
end
structure Blt (X:Wd):Prop where
 len:Top1 X "len" (.builtin "len")
 str:Top1 X "str" (.type "str")
 list:Top1 X "list" (.type "list")
 int:Top1 X "int" (.type "int")
 range:Top1 X "range" (.type "range")
noncomputable def znw:List PyData->Option (List Str)
 | []=>some []
 | a::r=>(zc2 a).bind λx=>(znw r).map (x::·)
theorem ziu {ds:List PyData}:∀{xs:List Str},znw ds=some xs->ds=xs.map .str:=by
 induction ds with
 | nil=>exact λh=>zr h rfl
 | cons a r b=>exact λh=>zi h λx c h=>mapX h λy d=>by rw[zO c,b d];rfl
noncomputable def one? {α:Type}:List α->Option α
 | [d]=>some d
 | _=>none
theorem zaw {b:Type}{ds:List b}{d:b}(h:one? ds=some d):ds=[d]:=by
 cases ds with
 | nil=>exact zg h
 | cons a r=>cases r with
  | nil=>exact zr h rfl
  | cons=>exact zg h
noncomputable def lenD:PyData->Option PyData
 | .list xs=>if xs.length<2 ^ 62 then some (.int xs.length) else none
 | .str x=>if x.length<2 ^ 62 then some (.int x.length) else none
 | _=>none
noncomputable def strD:PyData->Option PyData
 | .int i=>if i.natAbs.log2<1920 then some (.str (Str.ofString (toString i))) else none
 | .str x=>some (.str x)
 | _=>none
noncomputable def zpq (d:PyData):Option PyData:=(zgt d).bind λxs=>if xs.length<=sizeLine then some (.list xs) else none
noncomputable def intD (d:PyData):Option PyData:=(zc2 d).bind λx=>if x.length<=640 then (PySem.intText? x).map .int else none
noncomputable def bltD (f:Str) (ds:List PyData):Option PyData:=(one? ds).bind λd=>
 if f=("len":Str) then lenD d else if f=("str":Str) then strD d else if f=("list":Str) then zpq d else if f=("int":Str) then intD d else none
section
theorem zgi {x:Str}{n:Int}(c:PySem.intText? x=some n) (d:x.length<=640):Cl X A mu (.type "int") [.str x] (.int n):=λvs s E Q st tk e f g r h=>by
 cases r with|cons a b=>
 cases b;cases a;exact KIN.call_text c d (h _ _ (.tok _) (.int _ _))
theorem zpc (B:Blt X){f:Str}{ds:List PyData}{d:PyData}(h:bltD f ds=some d):∃c,Top1 X f c/\Fn X c/\Cl X A mu c ds d:=zi h λa g h=>by
 rw[zaw g];refine zd2 h (λb h=>?_) λ_ h=>zd2 h (λb h=>?_) λ_ h=>zd2 h (λb h=>?_) λ_ h=>iteX h λb h=>?_
 all_goals rw[b]
 .refine ⟨_,B.len,.builtin _,?_⟩;cases a with
  | list xs=>exact iteX h λz h=>zr h (zex z)
  | str xs=>exact iteX h λz h=>zr h (zdU z)
  | _=>exact zg h
 .refine ⟨_,B.str,.type _,?_⟩;cases a with
  | int xs=>exact iteX h λz h=>zr h (zdT z)
  | str xs=>exact zr h zgf
  | _=>exact zg h
 .refine ⟨_,B.list,.type _,zi h λxs e h=>iteX h λz h=>?_⟩;rw[zbj e];exact zr h (zkI z)
 .refine ⟨_,B.int,.type _,zi h λxs e h=>iteX h λz h=>mapX h λn i=>?_⟩;rw[zO e];exact zgi i z
end
noncomputable def zoF (x y:Str):Option PyData:=
 if (decide (x.length<y.length)||decide (Builtin.Str.strKind x<Builtin.Str.strKind y))=false/\(Builtin.Str.occurrences x y 0 x.length (x.length+1)).isEmpty=false/\(y.length==0)=false/\x.length<=sizeLine/\
   (Builtin.Str.partsBetween x (Builtin.Str.occurrences x y 0 x.length (x.length+1)) y.length).length<=sizeLine then
  some (.list ((Builtin.Str.partsBetween x (Builtin.Str.occurrences x y 0 x.length (x.length+1)) y.length).map .str)) else none
noncomputable def zps (x:Str):List PyData->Option PyData
 | []=>none
 | a::r=>(zc2 a).bind λy=>match r with
  | []=>some (.int (Txt.find x y))
  | b::r=>match r with
   | []=>(zbM b).map λi=>.int (Txt.find3 x y i)
   | _::_=>none
noncomputable def zpr (x:Str) (d:PyData):Option PyData:=(zgt d).bind λys=>(znw ys).bind λxs=>if JoinOk x xs=true then some (.str (Txt.join x xs)) else none
noncomputable def zo1 (xs:List PyData) (d:PyData):Option PyData:=if good (.list xs)=true/\good d=true then some (.int (xs.countP λy=>PyData.eqv y d:Nat)) else none
noncomputable def zoN (f:Str) (d0:PyData) (ds:List PyData):Option PyData:=
 if f=("find":Str) then (zc2 d0).bind λx=>zps x ds
 else if f=("split":Str) then (zc2 d0).bind λx=>(one? ds).bind λd=>(zc2 d).bind (zoF x)
 else if f=("join":Str) then (zc2 d0).bind λx=>(one? ds).bind (zpr x)
 else if f=("count":Str) then (zgt d0).bind λxs=>(one? ds).bind (zo1 xs)
 else none
section
theorem znO {k:Nat}(R:Rm k A){f:Str}{d0 d:PyData}{ds:List PyData}(h:zoN f d0 ds=some d):∃T id,PlainAttrs T/\Slot T f id/\typeOf (.builtin id)=pure (.type "method_descriptor")/\(∀(v:Value) (s':Shared),Rd s'.heap mu v d0->s'.TypeIs v T/\∀a,v=.ref a->∃n,s'.heap.get? a=some n/\n.dict=none)/\Cl X A mu (.builtin id) (d0::ds) d:=by
 refine zd2 h (λe h=>zi h λx g h=>?_) λ_ h=>zd2 h (λe h=>zi h λx g h=>zi h λa j h=>zi h λy l h=>?_) λ_ h=>zd2 h (λe h=>zi h λx g h=>zi h λa j h=>zi h λys l h=>zi h λxs m h=>?_) λ_ h=>iteX h λe h=>zi h λx g h=>zi h λa j h=>?_
 .rw [e,zO g];refine⟨_,_,F.plainAttrs_str,F.slot_str_find,F.type_str_find,λv s' r=>zbg r,?_⟩;cases ds with
  | nil=>exact zg h
  | cons a r=>
   refine zi h λy l h=>?_;rw[zO l];cases r with
   | nil=>exact zr h zoj
   | cons b r=>cases r with
    | nil=>
     refine mapX h λi o=>?_;rw[zv o];exact zmm
    | cons=>exact zg h
 .rw [e,zO g,zaw j,zO l];exact iteX h λc h=>zr h ⟨_,_,F.plainAttrs_str,F.slot_str_split,F.type_str_split,λv s' r=>zbg r,zmk c.1 c.2.1 c.2.2.1 c.2.2.2.1 c.2.2.2.2⟩
 .rw [e,zO g,zaw j,zbj l,ziu m];exact iteX h λc h=>zr h ⟨_,_,F.plainAttrs_str,F.slot_str_join,F.type_str_join,λv s' r=>zbg r,zkJ c⟩
 .rw [e,zbj g,zaw j];exact iteX h λc h=>zr h ⟨_,_,F.plainAttrs_list,F.slot_list_count,F.type_list_count,λv s' r=>zaI r,zid R c.1 c.2⟩
end
theorem zer (O:X.Ok) (l:Loc X A env mu c s){o:Expr}{x y z:Str}{ap p p1 p2:Pos}{k1 k2:Nat}(g:plainBase o=true) (i:(ap.endLine==p.line)=true)
  (j:Ev X A env mu o (.str x) s) (e:(y==z)=false) (hz:x.length+(x.length+1) * z.length<=16777216) :
  Ev X A env mu (.Call (.Attribute o "replace" ap) [.Constant (.str y) k1 p1,.Constant (.str z) k2 p2] [] p) (.str (Txt.replace x y z)) s:=λE Q h=>by
 refine wpAny_Call_method (zab g) ⋯ i F.plainAttrs_str F.slot_str_replace F.type_str_replace (j _ _ λv b d a=>⟨(zbg a).1,(zbg a).2,?_⟩);cases a;refine Calls.callWith_builtin (zak (es:=[.Constant (.str y) k1 p1,.Constant (.str z) k2 p2]) rfl) (Calls.evalArgs_plain (spliced_more (Constant_str (spliced_more (Constant_str (spliced_none ?_)) rfl)) rfl));have tk:=zpM l.tk.tk d.toks;refine wpt (SC.replace (zqH tk) (zqH (Nat.succ_pos _)) (zqV (zpY _)) e hz λm k f _=>h _ _ (d.trans (.tok k ?_)) (.str _ _));have f:b.toks+1+1<=k:=f;show b.toks<=k;lia
structure Tab (X:Wd) (k:Nat) (F:FT):Prop where
 ok:∀(A:Around) (mu:LA) (f:Str) (ds:List PyData) (d:PyData),Rm k A->A.handled=none->F f ds=some d->∃fv,Top1 X f fv/\Fn X fv/\Cl X A mu fv ds d
noncomputable def zoL (sc:Scope) (c:Ctx) (x:Str):Option PyData:=
 if (x==("__debug__":Str))=true\/(x==("__classdict__":Str))=true then none else
 (sc.names.lookup x).bind λk=>match k with
 | .local=>c.loc.lookup x
 | .cell=>c.cel.lookup x
 | .free=>c.cel.lookup x
 | _=>none
noncomputable def zpb (F:FT) (sc:Scope) (f:Str) (ds:List PyData):Option PyData:=
 if sc.names.lookup f=some .globalImplicit/\(f==("__debug__":Str))=false then (match bltD f ds with|some d=>some d|none=>F f ds) else none
set_option backward.match.sparseCases false in
noncomputable def exD {σ:Type}(e:Expr) (nm:Str->Option σ:=λ_=>none) (at_:Expr->Str->Pos->Option σ:=λ_ _ _=>none) (ct:Const->Option σ:=λ_=>none) (sl:Option Expr->Option Expr->Option Expr->Option σ:=λ_ _ _=>none) (cl:Expr->List Expr->List Keyword->Option σ:=λ_ _ _=>none):Option σ:=match e with
 | .Name x _=>nm x
 | .Attribute o f p=>at_ o f p
 | .Constant k _ _=>ct k
 | .Slice lo hi st _=>sl lo hi st
 | .Call f es kw _=>cl f es kw
 | _=>none
theorem exK {b:Type}{e:Expr}{nm:Str->Option b}{at_:Expr->Str->Pos->Option b}{ct:Const->Option b}{sl:Option Expr->Option Expr->Option Expr->Option b}{cl:Expr->List Expr->List Keyword->Option b}{a:b}{G:Expr->Prop}(h:exD e nm at_ ct sl cl=some a) (d:∀x p,nm x=some a->G (.Name x p)) (g:∀o f p,at_ o f p=some a->G (.Attribute o f p)) (i:∀k u p,ct k=some a->G (.Constant k u p)) (j:∀l u v p,sl l u v=some a->G (.Slice l u v p)) (m:∀f es c p,cl f es c=some a->G (.Call f es c p)):G e:=by
 cases e with
 | Name x p=>exact d x p h
 | Attribute o f p=>exact g o f p h
 | Constant k u p=>exact i k u p h
 | Slice l u v p=>exact j l u v p h
 | Call f es c p=>exact m f es c p h
 | _=>exact zg h
noncomputable def zii (e:Expr):Option Str:=exD e (nm:=some)
theorem zb4 {e:Expr}{x:Str}(h:zii e=some x):∃p,e=.Name x p:=
 exK (G:=λe=>∃p,e=.Name x p) h (λ_ p h=>zr h ⟨p,rfl⟩) (λ_ _ _ h=>zg h) (λ_ _ _ h=>zg h) (λ_ _ _ _ h=>zg h) λ_ _ _ _ h=>zg h
noncomputable def zo2:Const->Option PyData
 | .int i=>some (.int i)
 | .str x=>some (.str x)
 | .none=>some .none
 | .bool b=>some (.bool b)
 | _=>none
noncomputable def litC:Const->Option Str
 | .str x=>some x
 | _=>none
noncomputable def zj9 (e:Expr):Option Str:=exD e (ct:=litC)
theorem zdy {e:Expr}{x:Str}(h:zj9 e=some x):∃k p,e=.Constant (.str x) k p:=
 exK (G:=λe=>∃k p,e=.Constant (.str x) k p) h (λ_ _ h=>zg h) (λ_ _ _ h=>zg h) (λy k p h=>by
  cases y with
  | str y=>exact zr h ⟨k,p,rfl⟩
  | _=>exact zg h) (λ_ _ _ _ h=>zg h) λ_ _ _ _ h=>zg h
noncomputable def negD (op:UnaryOp) (d:PyData):Option PyData:=match op with
 | .USub=>(zbM d).map λi=>.int (-i)
 | _=>none
noncomputable def two? : List Expr->Option (Expr×Expr)
 | []=>none
 | a::r=>(one? r).map λb=>(a,b)
theorem zk7 {es:List Expr}{q:Expr×Expr}(h:two? es=some q):es=[q.1,q.2]:=by
 cases es with
 | nil=>exact zg h
 | cons a r=>exact mapX h λb c=>congrArg _ (zaw c)
noncomputable def zpn (d0:PyData) (es:List Expr):Option PyData:=(zc2 d0).bind λx=>(two? es).bind λq=>(zj9 q.1).bind λy=>(zj9 q.2).bind λz=>if (y==z)=false/\x.length+(x.length+1) * z.length<=16777216 then some (.str (Txt.replace x y z)) else none
structure Ops (σ:Type) where
 nm:σ->Str->Option PyData
 fld:σ->Str->Str->Option PyData
 cl:Str->List PyData->Option PyData
noncomputable def zoM (evs:List Expr->Option (List PyData)) (name:Str) (d0:PyData) (es:List Expr):Option PyData:=
 if name=("replace":Str) then zpn d0 es else (evs es).bind (zoN name d0)
noncomputable def sliceE (a:Option PyData) (evO:Option Expr->Option (Option Int)) (r:Expr):Option PyData:=
 exD r (sl:=λlo hi st=>bif st.isNone then a.bind λa=>(evO lo).bind λi=>(evO hi).bind λj=>cutD a i j else none)
noncomputable def subE (a:Option PyData) (ev:Expr->Option PyData) (evO:Option Expr->Option (Option Int)) (r:Expr):Option PyData:=
 bif zav r then a.bind λa=>(ev r).bind λb=>zoR a b else sliceE a evO r
noncomputable def zpa {σ:Type}(W:Ops σ) (ev:Expr->Option PyData) (evs:List Expr->Option (List PyData)) (f:Expr) (es:List Expr) (kw:List Keyword) (p:Pos):Option PyData:=
 bif kw.isEmpty&&es.all plainArg then exD f (nm:=λx=>(evs es).bind (W.cl x))
  (at_:=λo name ap=>if plainBase o=true/\(ap.endLine==p.line)=true/\es.length<29 then (ev o).bind λd0=>zoM evs name d0 es else none) else none
noncomputable def cmpE (a:Option PyData) (ev:Expr->Option PyData) (ops:List CmpOp) (rs:List Expr):Option Bool:=(one? ops).bind λop=>(one? rs).bind λr=>
 if behindInMarks op r=false then a.bind λa=>(ev r).bind λb=>cmI op a b else none
set_option backward.match.sparseCases false in
mutual
noncomputable def gE {σ:Type}(W:Ops σ):Nat->σ->Expr->Option PyData
 | 0,_,_=>none
 | n+1,c,e=>match e with
  | .Constant k _ _=>zo2 k
  | .Name x _=>W.nm c x
  | .Attribute o f _=>(zii o).bind λy=>W.fld c y f
  | .BinOp l op r _=>(gE W n c l).bind λa=>(gE W n c r).bind λb=>binD op a b
  | .UnaryOp op x _=>(gE W n c x).bind (negD op)
  | .Compare l ops rs _=>(cmpE (gE W n c l) (gE W n c) ops rs).map .bool
  | .IfExp t x y _=>(gT W n c t).bind λq=>bif q then gE W n c x else gE W n c y
  | .List es _=>(gEs W n c es).bind λds=>if ds.length<=sizeLine then some (.list ds) else none
  | .Tuple es _ _=>(gEs W n c es).bind λds=>if ds.length<=sizeLine then some (.tuple ds) else none
  | .Subscript l r _=>subE (gE W n c l) (gE W n c) (gO W n c) r
  | .Call f es kw p=>zpa W (gE W n c) (gEs W n c) f es kw p
  | _=>none
noncomputable def gT {σ:Type}(W:Ops σ):Nat->σ->Expr->Option Bool
 | 0,_,_=>none
 | n+1,c,e=>bif valE e then (gE W n c e).bind trD else match e with
  | .UnaryOp _ x _=>(gT W n c x).map (!·)
  | .BoolOp op es _=>gB W n c op es
  | .IfExp _ _ _ _=>none
  | .Compare l ops rs _=>cmpE (gE W n c l) (gE W n c) ops rs
  | _=>none
noncomputable def gB {σ:Type}(W:Ops σ):Nat->σ->BoolOp->List Expr->Option Bool
 | 0,_,_,_=>none
 | n+1,c,op,es=>match es with
  | []=>some (op == .And)
  | x::r=>(gT W n c x).bind λq=>match op with
   | .And=>bif q then gB W n c .And r else some false
   | .Or=>bif q then some true else gB W n c .Or r
noncomputable def gEs {σ:Type}(W:Ops σ):Nat->σ->List Expr->Option (List PyData)
 | 0,_,_=>none
 | n+1,c,es=>match es with
  | []=>some []
  | e::r=>bif plainArg e then (gE W n c e).bind λd=>(gEs W n c r).map (d::·) else none
noncomputable def gO {σ:Type}(W:Ops σ):Nat->σ->Option Expr->Option (Option Int)
 | 0,_,_=>none
 | n+1,c,e=>match e with
  | none=>some none
  | some e=>(gE W n c e).bind λd=>(zbM d).map some
end
noncomputable def opsE (F:FT) (sc:Scope):Ops Ctx:=⟨zoL sc,λ_ _ _=>none,zpb F sc⟩
noncomputable abbrev evE (F:FT) (sc:Scope) (n:Nat) (c:Ctx) (e:Expr):Option PyData:=gE (opsE F sc) n c e
noncomputable abbrev evT (F:FT) (sc:Scope) (n:Nat) (c:Ctx) (e:Expr):Option Bool:=gT (opsE F sc) n c e
noncomputable abbrev evEs (F:FT) (sc:Scope) (n:Nat) (c:Ctx) (es:List Expr):Option (List PyData):=gEs (opsE F sc) n c es
theorem zhb {a:Type}{W:Ops a}:∀{n:Nat}{c:a}{es:List Expr}{ds:List PyData},gEs W n c es=some ds->es.length=ds.length:=by
 intro n
 induction n with
 | zero=>exact λh=>zg h
 | succ n b=>
  intro c es ds h;cases es with
  | nil=>exact zr h rfl
  | cons e r=>exact conX h λ_ h=>zi h λd _ h=>mapX h λds hd=>congrArg Nat.succ (b hd)
section
def Bs (X:Wd) (A:Around) (env:Env) (op:BoolOp) (es:List Expr) (b:Bool) (s:Shared):Prop:=∀(E:VP) (Q:Bool->Shared->Prop),(∀s',Aft X A s s'->Q b s')->wpAny X.M A (allTrue op es env) Q E s
theorem zgm {a:BoolOp}:Bs X A env a [] (a == .And) s:=λ_ _ h=>zpR (h _ .refl)
theorem zaj {f:BoolOp}{x:Expr}{r:List Expr}{a b:Bool}(j:Ts X A env x a s) (k:f=.And->a=false->b=false) (l:f=.Or->a=true->b=true) (i:¬(f=.And/\a=false)->¬(f=.Or/\a=true)->∀s',Aft X A s s'->Bs X A env f r b s'):Bs X A env f (x::r) b s:=λE Q h=>by
 have e:allTrue f (x::r) env=(do
  match f,<-isTrue x env (eval x env) with
  | .And,false=>pure false
  | .Or,true=>pure true
  | _,_=>allTrue f r env):=rfl
 rw[e];refine wpB (j _ _ λs' c=>?_);cases f<;>cases a
 .cases k rfl rfl;exact zpR (h _ c)
 .exact i (by simp) (by simp) s' c _ _ λg d=>h _ (c.trans d)
 .exact i (by simp) (by simp) s' c _ _ λg d=>h _ (c.trans d)
 .cases l rfl rfl;exact zpR (h _ c)
theorem zbQ {a:BoolOp}{es:List Expr}{p:Pos}{b:Bool}(h:Bs X A env a es b s):Ts X A env (.BoolOp a es p) b s:=λE Q c=>wpAny_isTrue_BoolOp (h _ _ c)
theorem znN (S:Stat X env sc) (l:Loc X A env mu c s){x:Str}{p:Pos}{d:PyData}(h:zoL sc c x=some d):Ev X A env mu (.Name x p) d s:=
 zd2 h (λ_ h=>zg h) λe h=>zi h λk a h=>by
  have b:(x==("__debug__":Str))=false:=zqR.mpr λq=>e (.inl q);cases k with
  | «local»=>exact zf S l a b h
  | cell=>exact zn8 S l a b h
  | free=>exact zn7 S l a b (zqR.mpr λq=>e (.inr q)) h
  | _=>exact zg h
end
section
theorem zpd (O:X.Ok) (l:Loc X A env mu c s){j:Operator}{x y:Expr}{p:Pos}{a b d:PyData}(h:binD j a b=some d) (g:Ev X A env mu x a s) (e:∀s',Aft X A s s'->Ev X A env mu y b s'):Ev X A env mu (.BinOp x j y p) d s:=by
 cases j with
 | Add=>cases a with
  | int=>refine mapX h λy f=>?_;rw[zv f] at e;exact ev_addInt O l.tbm g e
  | str=>refine zi h λy f h=>iteX h λz h=>zr h ?_;rw[zO f] at e;exact ev_addStr O l.tbm g e z
  | list=>refine zi h λy f h=>iteX h λz h=>zr h ?_;rw[zbj f] at e;exact ev_addList O l.tbm l.low g e z
  | _=>exact zg h
 | Sub=>refine zi h λx i h=>mapX h λy f=>?_;rw[zv i] at g;rw[zv f] at e;exact ev_subInt O l.tbm g e
 | Mod=>refine zi h λx i h=>zi h λy f h=>iteX h λz h=>zr h ?_;rw[zv i] at g;rw[zv f] at e;exact ev_modInt O l.tbm g e z
 | FloorDiv=>refine zi h λx i h=>zi h λy f h=>iteX h λz h=>zr h ?_;rw[zv i] at g;rw[zv f] at e;exact ev_fdiv O l.tbm g e z.1 z.2
 | _=>exact zg h
theorem zn0 (O:X.Ok) (l:Loc X A env mu c s){x y:Expr}{p:Pos}{a b d:PyData}(j:zav y=true) (h:zoR a b=some d) (k:Ev X A env mu x a s) (f:∀s',Aft X A s s'->Ev X A env mu y b s'):Ev X A env mu (.Subscript x y p) d s:=by
 cases a with
 | list=>refine zi h λi g h=>iteX h λe h=>?_;rw[zv g] at f;exact ev_itemList O l.tbm k f j e.1 e.2 h
 | tuple=>refine zi h λi g h=>iteX h λe h=>?_;rw[zv g] at f;exact ev_itemTuple O l.tbm k f j e.1 e.2 h
 | str=>refine zi h λi g h=>iteX h λe h=>mapX h λn m=>?_;rw[zv g] at f;exact ev_itemStr O l.tbm k f j e.1 e.2 m
 | _=>exact zg h
theorem zo0 (O:X.Ok) (l:Loc X A env mu c s){x:Expr}{b e:Option Expr}{p p':Pos}{a d:PyData}{i j:Option Int}(h:cutD a i j=some d) (f:Ev X A env mu x a s) (g:∀s',Aft X A s s'->EvP X A env mu b i s') (k:∀s',Aft X A s s'->EvP X A env mu e j s'):Ev X A env mu (.Subscript x (.Slice b e none p') p) d s:=by
 cases a with
 | list=>exact iteX h λz h=>zr h (zZ O l.tbm l.low f g k z)
 | str=>exact iteX h λz h=>zr h (zdN O l.tbm f g k z)
 | _=>exact zg h
theorem zon {k:Nat}{F:FT}(B:Blt X) (T:Tab X k F) (R:Rm k A) (c:A.handled=none){f:Str}{ds:List PyData}{d:PyData}(h:zpb F sc f ds=some d):(sc.names.lookup f=some .globalImplicit/\(f==("__debug__":Str))=false)/\∃a,Top1 X f a/\Fn X a/\Cl X A mu a ds d:=
 iteX h λe h=>⟨e,by
  cases b:bltD f ds with
  | some d'=>rw[b] at h;exact zpc B (b.trans h)
  | none=>rw[b] at h;exact T.ok A mu _ ds d R c h⟩
structure GOk (X:Wd) (A:Around) (env:Env) (mu:LA){σ:Type}(cx:σ->Ctx) (I:σ->Prop) (W:Ops σ):Prop where
 nm:∀{c x d p},W.nm c x=some d->I c->∀s,Loc X A env mu (cx c) s->Ev X A env mu (.Name x p) d s
 fld:∀{c y f d p p'},W.fld c y f=some d->I c->∀s,Loc X A env mu (cx c) s->Ev X A env mu (.Attribute (.Name y p) f p') d s
 cl:∀{c f fp p es ds d s},W.cl f ds=some d->es.all plainArg=true->es.length=ds.length->Loc X A env mu (cx c) s->Evs X A env mu p es ds s->Ev X A env mu (.Call (.Name f fp) es [] p) d s
structure GSnd (X:Wd) (A:Around) (env:Env) (mu:LA){σ:Type}(cx:σ->Ctx) (I:σ->Prop) (W:Ops σ) (n:Nat):Prop where
 e:∀{c:σ}{e:Expr}{d:PyData},gE W n c e=some d->I c->∀s,Loc X A env mu (cx c) s->Ev X A env mu e d s
 t:∀{c:σ}{e:Expr}{b:Bool},gT W n c e=some b->I c->∀s,Loc X A env mu (cx c) s->Ts X A env e b s
 b:∀{c:σ}{op:BoolOp}{es:List Expr}{b:Bool},gB W n c op es=some b->I c->∀s,Loc X A env mu (cx c) s->Bs X A env op es b s
 es:∀{c:σ}{p:Pos}{es:List Expr}{ds:List PyData},gEs W n c es=some ds->I c->∀s,Loc X A env mu (cx c) s->Evs X A env mu p es ds s
 o:∀{c:σ}{e:Option Expr}{i:Option Int},gO W n c e=some i->I c->∀s,Loc X A env mu (cx c) s->EvP X A env mu e i s
section
variable {σ:Type}{cx:σ->Ctx}{I:σ->Prop}{W:Ops σ}{n k:Nat}{c:σ}
theorem zlE (O:X.Ok) (R:Rm k A) (f:GSnd X A env mu cx I W n) (i:I c) (l:Loc X A env mu (cx c) s){o:Expr}{name:Str}{ap p:Pos}{es:List Expr}{d0 d:PyData}(m:es.all plainArg=true) (b:plainBase o=true/\(ap.endLine==p.line)=true/\es.length<29) (g:gE W n c o=some d0) (h:zoM (gEs W n c) name d0 es=some d):Ev X A env mu (.Call (.Attribute o name ap) es [] p) d s:=
 zd2 h (λr h=>zi h λx t h=>zi h λq u h=>zi h λy v h=>zi h λz hz h=>iteX h λj h=>by
  rw[zO t] at g;obtain⟨k1,p1,w⟩:=zdy v;obtain⟨k2,p2,B⟩:=zdy hz;rw[zk7 u,w,B,r];exact zr h (zer O l b.1 b.2.1 (f.e g i s l) j.1 j.2)) λ_ h=>zi h λds hd h=>by
  obtain⟨F,id,q1,q2,C,D,E⟩:=znO (mu:=mu) R h;exact zhj O l q1 q2 C b.1 b.2.1 m (zhb hd) b.2.2 (f.e g i s l) D (λs' a=>f.es hd i s' (l.aft O a)) E
theorem zmp (O:X.Ok) (R:Rm k A) (G:GOk X A env mu cx I W) (b:GSnd X A env mu cx I W n) (i:I c) (l:Loc X A env mu (cx c) s){f:Expr}{es:List Expr}{e:List Keyword}{p:Pos}{d:PyData}(h:zpa W (gE W n c) (gEs W n c) f es e p=some d):Ev X A env mu (.Call f es e p) d s:=
 conX h λa h=>by
  rw[Bool.and_eq_true] at a;rw[List.isEmpty_iff.mp a.1];exact exK (G:=λf=>Ev X A env mu (.Call f es [] p) d s) h (λx m h=>zi h λds hd h=>G.cl h a.2 (zhb hd) l (b.es hd i s l)) (λo name ap h=>iteX h λg h=>zi h λd0 j h=>zlE O R b i l a.2 g j h) (λ_ _ _ h=>zg h) (λ_ _ _ _ h=>zg h) λ_ _ _ _ h=>zg h
theorem znu (O:X.Ok) (f:GSnd X A env mu cx I W n) (i:I c) (l:Loc X A env mu (cx c) s){x y:Expr}{p:Pos}{d:PyData}(h:subE (gE W n c x) (gE W n c) (gO W n c) y=some d):Ev X A env mu (.Subscript x y p) d s:=
 zb3 h (λj h=>zi h λa g h=>zi h λb k h=>zn0 O l j h (f.e g i s l) λs' a=>f.e k i s' (l.aft O a)) λ_ h=>by
  refine exK (G:=λy=>Ev X A env mu (.Subscript x y p) d s) h (λ_ _ h=>zg h) (λ_ _ _ h=>zg h) (λ_ _ _ h=>zg h) (λt w st p' h=>conX h λm h=>zi h λa g h=>zi h λu q h=>zi h λv r h=>?_) λ_ _ _ _ h=>zg h;rw[Option.isNone_iff_eq_none.mp m];exact zo0 O l h (f.e g i s l) (λs' a=>f.o q i s' (l.aft O a)) λs' a=>f.o r i s' (l.aft O a)
theorem cmpK {e:Option PyData}{f:Expr->Option PyData}{c:List CmpOp}{g:List Expr}{q:Bool}{G:List CmpOp->List Expr->Prop}(h:cmpE e f c g=some q) (k:∀d r a b,behindInMarks d r=false->e=some a->f r=some b->cmI d a b=some q->G [d] [r]):G c g:=
 zi h λd i h=>zi h λr j h=>iteX h λl h=>zi h λa m h=>zi h λb n h=>zaw i▸zaw j▸k d r a b l m n h
theorem gsnd (O:X.Ok) (R:Rm k A) (G:GOk X A env mu cx I W):∀n,GSnd X A env mu cx I W n:=by
 intro n
 induction n with
 | zero=>exact⟨λh=>zg h,λh=>zg h,λh=>zg h,λh=>zg h,λh=>zg h⟩
 | succ n g=>
 refine⟨fun {c e d} h i s l=>?_,fun {c e b} h i s l=>?_,fun {c C es b} h i s l=>?_,fun {c p es ds} h i s l=>?_,fun {c e j} h i s l=>?_⟩
 .cases e with
  | Constant y k p=>cases y with
   | int=>exact zr h ev_int
   | str=>exact zr h ev_str
   | none=>exact zr h zkr
   | bool=>exact zr h ev_bool
   | _=>exact zg h
  | Name x p=>exact G.nm h i s l
  | Attribute o f p=>
   refine zi h λy N h=>?_;obtain⟨p',e⟩:=zb4 N;rw[e];exact G.fld h i s l
  | BinOp x C y p=>exact zi h λa B h=>zi h λb E h=>zpd O l h (g.e B i s l) λs' a=>g.e E i s' (l.aft O a)
  | UnaryOp C x p=>
   refine zi h λa B h=>?_;cases C with
   | USub=>
    refine mapX h λk D=>?_;rw[zv D] at B;exact zoW (g.e B i s l)
   | _=>exact zg h
  | Compare x m F p=>
   exact mapX h λq w=>cmpK (G:=λm F=>Ev X A env mu (.Compare x m F p) (.bool q) s) w λC r a b D B E J=>zmR O l.tbm (g.e B i s l) (λs' a=>g.e E i s' (l.aft O a)) D λu v s' _ H K=>zkG R J H K
  | IfExp t x y p=>
    refine zi h λq w h=>?_;cases q with
    | true=>exact zmP (g.t w i s l) λs' a=>g.e h i s' (l.aft O a)
    | false=>exact zmQ (g.t w i s l) λs' a=>g.e h i s' (l.aft O a)
  | List es p=>exact zi h λds hd h=>iteX h λz h=>zr h (zb1 l.tbm l.low (g.es hd i s l) z)
  | Tuple es k p=>exact zi h λds hd h=>iteX h λz h=>zr h (zar l.tbm l.low (g.es hd i s l) z)
  | Subscript x y p=>exact znu O g i l h
  | Call f es Q p=>exact zmp O R G g i l h
  | _=>exact zg h
 .refine zb3 h (λL h=>zi h λa B h=>zaN L (g.e B i s l) λu s' H=>zla h H) λL h=>?_;cases e with
  | UnaryOp C x p=>cases C with
   | Not=>exact mapX h λq w=>zmD (g.t w i s l)
   | _=>exact absurd (show true=false from L) (by ext)
  | BoolOp C es p=>exact zbQ (g.b h i s l)
  | Compare x m F p=>
   exact cmpK (G:=λm F=>Ts X A env (.Compare x m F p) _ s) h λC r a b D B E J=>zQ O l.tbm (g.e B i s l) (λs' a=>g.e E i s' (l.aft O a)) D λu v s' _ H K=>zkG R J H K
  | _=>exact zg h
 .cases es with
  | nil=>exact zr h zgm
  | cons x r=>
    refine zi h λq w h=>?_;cases C with
    | And=>cases q with
     | true=>exact zaj (g.t w i s l) (λ_ h=>absurd h (by ext)) (λh=>absurd h (by ext)) λ_ _ s' a=>g.b h i s' (l.aft O a)
     | false=>exact zaj (g.t w i s l) (λ_ _=>(zqr h).symm) (λh=>absurd h (by ext)) λh=>absurd ⟨rfl,rfl⟩ h
    | Or=>cases q with
     | true=>exact zaj (g.t w i s l) (λh=>absurd h (by ext)) (λ_ _=>(zqr h).symm) λ_ h=>absurd ⟨rfl,rfl⟩ h
     | false=>exact zaj (g.t w i s l) (λh=>absurd h (by ext)) (λ_ h=>absurd h (by ext)) λ_ _ s' a=>g.b h i s' (l.aft O a)
 .cases es with
  | nil=>exact zr h evs_nil
  | cons e r=>exact conX h λP h=>zi h λd hd h=>mapX h λds M=>zc l.tbm P (g.e hd i s l) λs' a=>g.es M i s' (l.aft O a)
 .cases e with
  | none=>exact zr h zay
  | some e=>
    refine zi h λd hd h=>mapX h λk D=>?_;rw[zv D] at hd;exact zY (g.e hd i s l)
end
structure zoy (X:Wd) (A:Around) (env:Env) (sc:Scope) (mu:LA) (F:FT) (n:Nat):Prop where
 e:∀{c:Ctx}{e:Expr}{d:PyData},evE F sc n c e=some d->∀s,Loc X A env mu c s->Ev X A env mu e d s
 t:∀{c:Ctx}{e:Expr}{b:Bool},evT F sc n c e=some b->∀s,Loc X A env mu c s->Ts X A env e b s
 es:∀{c:Ctx}{p:Pos}{es:List Expr}{ds:List PyData},evEs F sc n c es=some ds->∀s,Loc X A env mu c s->Evs X A env mu p es ds s
theorem zj0 {k:Nat}{F:FT}(O:X.Ok) (B:Blt X) (T:Tab X k F) (R:Rm k A) (b:A.handled=none) (S:Stat X env sc):GOk X A env mu id (λ_=>True) (opsE F sc):=
 ⟨λh _ s l=>znN S l h,λh=>zg h,λh c d l e=>(zon (mu:=mu) B T R b h).elim λa h=>h.elim λ_ h=>zU S O l a.1 a.2 h.1 h.2.1 c d e h.2.2⟩
theorem sound {k:Nat}{F:FT}(O:X.Ok) (B:Blt X) (T:Tab X k F) (R:Rm k A) (a:A.handled=none) (S:Stat X env sc) (n:Nat):zoy X A env sc mu F n:=
 have G:=gsnd O R (zj0 (mu:=mu) O B T R a S) n
 ⟨λh=>G.e h trivial,λh=>G.t h trivial,λh=>G.es h trivial⟩
end
def zgw (X:Wd) (cls:Value):Prop:=
 ∀(A:Around) (env:Env) (x:Str) (np cpos pos:Pos) (args:List Expr) (s:Shared) (Q:Flow->Shared->Prop) (E:VP),A.handled=none->args.all plainArg=true->
  wpAny X.M A (eval (.Name x np) env) (λf s₁=>f=cls/\wpAny X.M A (evalArgs cls true (backTo cpos (starEach args env)) []) (λa s₂=>a.kw=[]/\a.pos.length<=sizeLine/\X.kk.StaysIn s₂.heap/\
   ∀h' e,Heap.MadeExcOf s₂.heap h' e cls a.pos->E (.ref e) {s₂ with heap:=h'}) E s₁) E s->
  wpAny X.M A (exec (.Raise (some (.Call (.Name x np) args [] cpos)) none pos) env) Q E s
structure Exs (X:Wd) (Ex:Str->Option Value):Prop where
 ok:∀x cls,Ex x=some cls->Top1 X x cls/\zgw X cls
structure OpsS (σ:Type) extends Ops σ where
 set:σ->Str->PyData->Option σ
 setF:σ->Str->Str->PyData->Option σ
 aug:σ->Str->PyData->Option σ
 augF:σ->Str->Str->PyData->Option σ
 ex:Str->Option Value
noncomputable def isNext:Fl->Bool
 | .next=>true
 | _=>false
theorem zg9 {f:Fl}(h:isNext f=true):f=.next:=by cases f<;>first|rfl|cases h
noncomputable def asgD {σ:Type}(g:Str->Option σ) (gF:Str->Str->Option σ) (t:Expr):Option σ:=exD t (nm:=g) (at_:=λo f _=>(zii o).bind λy=>gF y f)
noncomputable def zoS:Operator->Bool
 | .Add=>true
 | _=>false
theorem ziN {f:Operator}(h:zoS f=true):f=.Add:=by cases f<;>first|rfl|cases h
noncomputable def excE (e:Expr):Option (Str×List Expr):=exD e (cl:=λf es kw=>bif kw.isEmpty then (zii f).map λx=>(x,es) else none)
theorem zkn {e:Expr}{q:Str×List Expr}(h:excE e=some q):∃a b,e=.Call (.Name q.1 a) q.2 [] b:=
 exK (G:=λe=>∃a b,e=.Call (.Name q.1 a) q.2 [] b) h (λ_ _ h=>zg h) (λ_ _ _ h=>zg h) (λ_ _ _ h=>zg h) (λ_ _ _ _ h=>zg h) λf es g p h=>by
  refine conX h λc h=>mapX h λx d=>?_;obtain⟨a,e⟩:=zb4 d;rw[e,List.isEmpty_iff.mp c];exact⟨a,p,rfl⟩
set_option backward.match.sparseCases false in
mutual
noncomputable def gS {σ:Type}(W:OpsS σ):Nat->σ->List Stmt->Option (Fl×σ)
 | 0,_,_=>none
 | n+1,c,ss=>match ss with
  | []=>some (.next,c)
  | st::r=>(g1 W n c st).bind λq=>bif isNext q.1 then gS W n q.2 r else some q
noncomputable def g1 {σ:Type}(W:OpsS σ):Nat->σ->Stmt->Option (Fl×σ)
 | 0,_,_=>none
 | n+1,c,st=>match st with
  | .Assign ts e _=>bif zah e then (one? ts).bind λt=>(gE W.toOps n c e).bind λd=>(asgD (W.set c · d) (W.setF c · · d) t).map λc'=>(.next,c') else none
  | .AugAssign t op e _=>bif zoS op then (gE W.toOps n c e).bind λd=>(asgD (W.aug c · d) (W.augF c · · d) t).map λc'=>(.next,c') else none
  | .Expr e _=>bif zah e then (gE W.toOps n c e).bind λd=>bif atom d then some (.next,c) else none else none
  | .Return o _=>o.bind λe=>(gE W.toOps n c e).map λd=>(.ret d,c)
  | .If t a b _=>(gT W.toOps n c t).bind λq=>gS W n c (if q then a else b)
  | .While t body els _=>bif els.isEmpty then gW W n c t body else none
  | .Break _=>some (.brk,c)
  | .Continue _=>some (.cont,c)
  | .Pass _=>some (.next,c)
  | .Raise o cause _=>bif cause.isNone then o.bind λe=>(excE e).bind λq=>(W.ex q.1).bind λcls=>(gEs W.toOps n c q.2).bind λds=>if q.2.all plainArg=true/\ds.length<=sizeLine then some (.exc cls ds,c) else none else none
  | _=>none
noncomputable def gW {σ:Type}(W:OpsS σ):Nat->σ->Expr->List Stmt->Option (Fl×σ)
 | 0,_,_,_=>none
 | n+1,c,t,body=>(gT W.toOps n c t).bind λq=>bif q then (gS W n c body).bind λr=>match r.1 with
   | .next=>gW W n r.2 t body
   | .cont=>gW W n r.2 t body
   | .brk=>some (.next,r.2)
   | .ret d=>some (.ret d,r.2)
   | .exc ..=>none
  else some (.next,c)
end
noncomputable def ziM (sc:Scope) (x:Str):Bool:=match sc.names.lookup x with
 | some k=>(match k with | .local=>true|_=>false)
 | none=>false
theorem zbF {x:Str}(h:ziM sc x=true):sc.names.lookup x=some .local:=by
 unfold ziM at h;cases a:sc.names.lookup x with
 | none=>rw[a] at h;cases h
 | some k=>rw[a] at h;cases k<;>first|rfl|cases h
noncomputable def opsX (F:FT) (Ex:Str->Option Value) (sc:Scope):OpsS Ctx where
 toOps:=opsE F sc
 set c x d:=bif ziM sc x then some (c.set x d) else none
 setF _ _ _ _:=none
 aug c x d:=bif ziM sc x then (c.loc.lookup x).bind λa=>(int2 (λi j=>PyData.int (i+j)) a d).map (c.set x) else none
 augF _ _ _ _:=none
 ex x:=if sc.names.lookup x=some .globalImplicit/\(x==("__debug__":Str))=false then Ex x else none
noncomputable abbrev exS (F:FT) (Ex:Str->Option Value) (sc:Scope) (n:Nat) (c:Ctx) (ss:List Stmt):Option (Fl×Ctx):=gS (opsX F Ex sc) n c ss
section
variable {c c':Ctx}
theorem zdh (F:Frm X A env sc mu fr) (O:X.Ok){x:Str}{xp p:Pos}{e:Expr}{a b:Int}(j:sc.names.lookup x=some .local) (n:c.loc.lookup x=some (.int a)) (o:∀s,Loc X A env mu c s->Ev X A env mu e (.int b) s) :
  St1 X A env mu fr c (.AugAssign (.Name x xp) .Add e p) .next (c.set x (.int (a+b))):=λs l E Q h _=>by
 obtain⟨m,q,r⟩:=l.ns;obtain⟨v,t,u⟩:=r x _ n;obtain⟨_,rfl⟩:=u.intE;refine wpAny_AugAssign_Name (wpAny_loadName_local (by rw[F.scope];exact F.kind) (by unfold Env.kindOf;rw[F.scope];exact j) q t (o s l _ _ λv d f g=>?_));cases g;exact PySem.AutoIntOps.iadd_0 <| zq F ((l.aft O f).aft O (.tok (d.toks+1))) j (.int _ _) λk i l₂=>h _ _ ((f.trans (.tok (d.toks+1))).toL.trans i) l₂ rfl
theorem zjL (O:X.Ok) (S:Stat X env sc) (F:A.handled=none){x:Str}{cls:Value}{w d p:Pos}{es:List Expr}{ds:List PyData}(G:sc.names.lookup x=some .globalImplicit) (hd:(x==("__debug__":Str))=false) (T:Top1 X x cls) (W:zgw X cls) (y:es.all plainArg=true) (H:es.length=ds.length) (n:ds.length<=sizeLine)
  (I:∀s,Loc X A env mu c s->Evs X A env mu d es ds s):St1 X A env mu fr c (.Raise (some (.Call (.Name x w) es [] d)) none p) (.exc cls ds) c:=λs l E Q _ J=>by
 refine wpt (wpd (W A env x w d p es s _ _ F y (zw S O l.stay G hd T ⟨rfl,zat y H (I s l) λvs f a g=>⟨rfl,by show vs.length<=_;rw[g.length];exact n,(l.aft O a).stay,λh' e j h _ r=>?_⟩⟩)));obtain⟨t,z,B,C⟩:=j.there;have l₂:=l.aft O a;have u:s.heap.get? e=none:=by
  cases q:s.heap.get? e with
  | none=>rfl
  | some o=>
   by_cases k:e=X.tb
   .subst k;obtain⟨o',b⟩:=l₂.tk.tb;rw[j.new] at b;cases b
   .obtain⟨o',b,_⟩:=a.keep e o (by simpa using k) q;rw[j.new] at b;cases b
 have v:s.heap.get? t=none:=by
  cases q:s.heap.get? t with
  | none=>rfl
  | some o=>
   by_cases k:t=X.tb
   .subst k;obtain⟨o',b⟩:=l₂.tk.tb;rw[B] at b;cases b
   .obtain⟨o',b,_⟩:=a.keep t o (by simpa using k) q;rw[B] at b;cases b
 have D:=h e _ u z;have K:=h t _ v C;have i:Aft X A s {f with heap:=h'}:=⟨a.keep.trans (.all j.keeps),a.os,a.gens,r,a.toks,λo e=>let ⟨o',b⟩:=a.live o e;⟨o',j.keeps _ _ b⟩⟩;exact J (.ref e) {f with heap:=h'} i.toL (l.aft O i) ⟨e,rfl,D,λm=>absurd (l.low _ m) (zpO.mpr D),_,_,t,vs,0,z,rfl,rfl,rfl,C,λm=>absurd (l.low _ m) (zpO.mpr K),g.more j.keeps,.inl rfl⟩
end
structure GKeep {σ:Type}(P:σ->Prop) (W:OpsS σ):Prop where
 set:∀{c x d c'},W.set c x d=some c'->P c->P c'
 setF:∀{c x f d c'},W.setF c x f d=some c'->P c->P c'
 aug:∀{c x d c'},W.aug c x d=some c'->P c->P c'
 augF:∀{c x f d c'},W.augF c x f d=some c'->P c->P c'
structure GKp {σ:Type}(P:σ->Prop) (W:OpsS σ) (n:Nat):Prop where
 s:∀{c:σ}{ss:List Stmt}{r:Fl×σ},gS W n c ss=some r->P c->P r.2
 o:∀{c:σ}{st:Stmt}{r:Fl×σ},g1 W n c st=some r->P c->P r.2
 w:∀{c:σ}{t:Expr}{body:List Stmt}{r:Fl×σ},gW W n c t body=some r->P c->P r.2
section
variable {σ:Type}{P:σ->Prop}{W:OpsS σ}{c c':σ}
theorem asgK {g:Str->Option σ}{a:Str->Str->Option σ}{t:Expr}{G:Expr->Prop}(h:asgD g a t=some c') (b:∀x p,g x=some c'->G (.Name x p)) (c:∀x p f q,a x f=some c'->G (.Attribute (.Name x p) f q)):G t:=
 exK h b (λo f p h=>zi h λy d h=>(zb4 d).elim λq e=>e▸c y q f p h) (λ_ _ _ h=>zg h) (λ_ _ _ _ h=>zg h) λ_ _ _ _ h=>zg h
theorem zih {g:Str->Option σ}{a:Str->Str->Option σ}{t:Expr}(h:asgD g a t=some c') (b:∀x,g x=some c'->P c') (c:∀x f,a x f=some c'->P c'):P c':=
 asgK (G:=λ_=>P c') h (λx _=>b x) λx _ f _=>c x f
theorem gkeep (G:GKeep P W):∀n,GKp P W n:=by
 intro n
 induction n with
 | zero=>exact⟨λh=>zg h,λh=>zg h,λh=>zg h⟩
 | succ n f=>
 refine⟨fun {c l r} h i=>?_,fun {c st r} h i=>?_,fun {c t body r} h i=>?_⟩
 .cases l with
  | nil=>exact zr h i
  | cons st l=>exact zi h λq m h=>zb3 h (λ_ h=>f.s h (f.o m i)) λ_ h=>zr h (f.o m i)
 .cases st with
  | Assign ts e p=>exact conX h λ_ h=>zi h λt _ h=>zi h λd _ h=>mapX h λc' j=>zih j (λ_ h=>G.set h i) λ_ _ h=>G.setF h i
  | AugAssign t z e p=>exact conX h λ_ h=>zi h λd _ h=>mapX h λc' j=>zih j (λ_ h=>G.aug h i) λ_ _ h=>G.augF h i
  | Expr e p=>exact conX h λ_ h=>zi h λd _ h=>conX h λ_ h=>zr h i
  | Return o p=>exact zi h λe _ h=>mapX h λd _=>i
  | If t a b p=>exact zi h λq _ h=>f.s h i
  | While t body u p=>exact conX h λ_ h=>f.w h i
  | Break p=>exact zr h i
  | Continue p=>exact zr h i
  | Pass p=>exact zr h i
  | Raise o k p=>exact conX h λ_ h=>zi h λe _ h=>zi h λq _ h=>zi h λcls _ h=>zi h λds _ h=>iteX h λ_ h=>zr h i
  | _=>exact zg h
 .refine zi h λq _ h=>zb3 h (λ_ h=>zi h λv x h=>?_) λ_ h=>zr h i;have g:=f.s x i;obtain⟨y,c1⟩:=v;cases y with
  | next=>exact f.w h g
  | cont=>exact f.w h g
  | brk=>exact zr h g
  | ret d=>exact zr h g
  | exc=>exact zg h
end
section
def Wl (X:Wd) (A:Around) (env:Env) (mu fr:LA) (c:Ctx) (t:Expr) (body:List Stmt) (f:Fl) (c':Ctx):Prop:=∀s,Loc X A env mu c s->∀R:Result->Shared->Prop,(∀f' s',AftL X A fr s s'->Loc X A env mu c' s'->FlIs mu s'.heap f f'->R (.ok f') s')->codeAny X.M A (.whileLoop t body [] env) R s
structure GOkS (X:Wd) (A:Around) (env:Env) (mu fr:LA){σ:Type}(cx:σ->Ctx) (I:σ->Prop) (W:OpsS σ):Prop extends GKeep I W where
 set1:∀{c x d c' e xp p},W.set c x d=some c'->I c->zah e=true->(∀s,Loc X A env mu (cx c) s->Ev X A env mu e d s)->St1 X A env mu fr (cx c) (.Assign [.Name x xp] e p) .next (cx c')
 setF1:∀{c y f d c' e yp ap p},W.setF c y f d=some c'->I c->zah e=true->(∀s,Loc X A env mu (cx c) s->Ev X A env mu e d s)->St1 X A env mu fr (cx c) (.Assign [.Attribute (.Name y yp) f ap] e p) .next (cx c')
 aug1:∀{c x d c' e xp p},W.aug c x d=some c'->I c->(∀s,Loc X A env mu (cx c) s->Ev X A env mu e d s)->St1 X A env mu fr (cx c) (.AugAssign (.Name x xp) .Add e p) .next (cx c')
 augF1:∀{c y f d c' e yp ap p},W.augF c y f d=some c'->I c->(∀s,Loc X A env mu (cx c) s->Ev X A env mu e d s)->St1 X A env mu fr (cx c) (.AugAssign (.Attribute (.Name y yp) f ap) .Add e p) .next (cx c')
 ex1:∀{x cls c np cp p es ds},W.ex x=some cls->es.all plainArg=true->es.length=ds.length->ds.length<=sizeLine->(∀s,Loc X A env mu (cx c) s->Evs X A env mu cp es ds s)->St1 X A env mu fr (cx c) (.Raise (some (.Call (.Name x np) es [] cp)) none p) (.exc cls ds) (cx c)
structure zpj (X:Wd) (A:Around) (env:Env) (mu fr:LA){σ:Type}(cx:σ->Ctx) (I:σ->Prop) (W:OpsS σ) (n:Nat):Prop where
 s:∀{c:σ}{ss:List Stmt}{r:Fl×σ},gS W n c ss=some r->I c->St X A env mu fr (cx c) ss r.1 (cx r.2)
 o:∀{c:σ}{st:Stmt}{r:Fl×σ},g1 W n c st=some r->I c->St1 X A env mu fr (cx c) st r.1 (cx r.2)
 w:∀{c:σ}{t:Expr}{body:List Stmt}{r:Fl×σ},gW W n c t body=some r->I c->Wl X A env mu fr (cx c) t body r.1 (cx r.2)
section
variable {σ:Type}{cx:σ->Ctx}{I:σ->Prop}{W:OpsS σ}{c c':σ}
inductive zm7 (X:Wd) (A:Around) (env:Env) (mu fr:LA) (J:Nat->Ctx->Prop) (t:Expr) (body:List Stmt) (f:Fl) (c':Ctx) (k:Nat) (c:Ctx):Prop
 | stop (h:∀s,Loc X A env mu c s->Ts X A env t false s) (e:c=c') (hf:f=.next)
 | go (f1:Fl) (c2:Ctx) (m:Nat) (h:∀s,Loc X A env mu c s->Ts X A env t true s) (hb:St X A env mu fr c body f1 c2) (hf:f1=.next\/f1=.cont) (hm:m<k) (hj:J m c2)
 | out (f1:Fl) (h:∀s,Loc X A env mu c s->Ts X A env t true s) (hb:St X A env mu fr c body f1 c') (hf:(f1=.brk/\f=.next)\/∃d,f1=.ret d/\f=.ret d)
inductive WhI (X:Wd) (A:Around) (env:Env) (mu fr:LA) (J:Nat->Ctx->Prop) (s:Shared) (m:Nat) (s':Shared):Prop
 | mk (c1:Ctx) (hj:J m c1) (l1:Loc X A env mu c1 s') (a1:AftL X A fr s s')
theorem zjt (O:X.Ok){J:Nat->Ctx->Prop}{m0:Nat}{c c':Ctx}{t:Expr}{body:List Stmt}{f:Fl}(z:J m0 c) (p:∀k c1,J k c1->zm7 X A env mu fr J t body f c' k c1):Wl X A env mu fr c t body f c':=by
 intro s l F u;refine codeAny_whileLoop (WhI X A env mu fr J s) (λm s' B=>?_) m0 ⟨c,z,l,.refl⟩;obtain⟨c1,w,o,r⟩:=B;cases p m c1 w with
 | stop h e n=>
  refine h s' o _ _ λi a=>?_;rw[if_neg (by ext)];exact wpAny_execs_nil (u _ _ (r.trans a.toL) (e▸o.aft O a) (n▸rfl))
 | go C c2 D h x n E w=>
  refine h s' o _ _ λi a=>?_;rw[if_pos rfl];refine x i (o.aft O a) _ _ (λy j b g q=>?_) λv j b g q=>by rcases n with rfl|rfl<;>exact False.elim q
  rcases n with rfl|rfl<;>(rw[show y=_ from q];exact⟨D,E,c2,w,g,(r.trans a.toL).trans b⟩)
 | out C h x n=>
  refine h s' o _ _ λi a=>?_;rw[if_pos rfl];refine x i (o.aft O a) _ _ (λy j b g q=>?_) λv j b g q=>by rcases n with ⟨rfl,_⟩|⟨d,rfl,_⟩<;>exact False.elim q
  rcases n with ⟨rfl,rfl⟩|⟨d,rfl,rfl⟩
  .rw [show y=.brk from q];exact u _ _ ((r.trans a.toL).trans b) g rfl
  .obtain ⟨v,rfl,rv⟩:=q;exact u _ _ ((r.trans a.toL).trans b) g ⟨v,rfl,rv⟩
theorem zju (O:X.Ok) (f:∀m,GSnd X A env mu cx I W.toOps m) (G:GKeep I W){n:Nat}(k:∀m,m<n+1->zpj X A env mu fr cx I W m){t:Expr}{body:List Stmt}{r:Fl×σ}(h:gW W (n+1) c t body=some r) (i:I c):Wl X A env mu fr (cx c) t body r.1 (cx r.2):=by
 refine zjt O (J:=λm c'=>∃c1,c'=cx c1/\m<=n+1/\gW W m c1 t body=some r/\I c1) (m0:=n+1) ⟨c,rfl,zpB _,h,i⟩ ?_
 rintro m _ ⟨c1,rfl,hm,a,i1⟩
 cases m with
 | zero=>exact zg a
 | succ m=>
  refine zi a λq b a=>zb3 a (λe a=>?_) λe a=>?_
  .rw [e] at b;refine zi a λo g a=>?_;have T:=λs l=>(f m).t b i1 s l;have B:=(k m hm).s g i1;have j:=(gkeep G m).s g i1;obtain⟨p,c2⟩:=o;cases p with
   | next=>exact .go .next _ m T B (.inl rfl) (zpY _) ⟨c2,rfl,zqt hm,a,j⟩
   | cont=>exact .go .cont _ m T B (.inr rfl) (zpY _) ⟨c2,rfl,zqt hm,a,j⟩
   | brk=>exact zr a (.out .brk T B (.inl ⟨rfl,rfl⟩))
   | ret d=>exact zr a (.out (.ret d) T B (.inr ⟨d,rfl,rfl⟩))
   | exc=>exact zg a
  .rw [e] at b;exact zr a (.stop (λs l=>(f m).t b i1 s l) rfl rfl)
theorem zoU (O:X.Ok) (j:∀m,GSnd X A env mu cx I W.toOps m) (G:GOkS X A env mu fr cx I W) (z:Frm X A env sc mu fr):∀n,zpj X A env mu fr cx I W n:=by
 intro n
 induction n using Nat.strongRecOn with
 | ind n D=>
 cases n with
 | zero=>exact⟨λh=>zg h,λh=>zg h,λh=>zg h⟩
 | succ n=>
 have J:=D n (zpY n);refine⟨fun {c F r} h i=>?_,fun {c st r} h i=>?_,λh i=>zju O j G.toGKeep D h i⟩
 .cases F with
  | nil=>exact zr h st_nil
  | cons st F=>
   refine zi h λq k h=>zb3 h (λe h=>?_) λe h=>?_
   .have st:=J.o k i;rw[zg9 e] at st;exact ze z st (J.s h ((gkeep G.toGKeep n).o k i))
   .exact zr h (zI (λq=>by rw[q] at e;cases e) (J.o k i))
 .cases st with
  | Assign ts e p=>
   refine conX h λu h=>zi h λt H h=>zi h λd hd h=>mapX h λc' g=>?_;rw[zaw H];exact asgK (G:=λt=>St1 X A env mu fr (cx c) (.Assign [t] e p) .next (cx c')) g (λx xp g=>G.set1 g i u λs l=>(j n).e hd i s l) λy K f ap g=>G.setF1 g i u λs l=>(j n).e hd i s l
  | AugAssign t U e p=>
   refine conX h λL h=>zi h λd hd h=>mapX h λc' g=>?_;rw[ziN L];exact asgK (G:=λt=>St1 X A env mu fr (cx c) (.AugAssign t .Add e p) .next (cx c')) g (λx xp g=>G.aug1 g i λs l=>(j n).e hd i s l) λy K f ap g=>G.augF1 g i λs l=>(j n).e hd i s l
  | Expr e p=>exact conX h λu h=>zi h λd hd h=>conX h λM h=>zr h (zaq z.toStat O M u λs l=>(j n).e hd i s l)
  | Return o p=>
   refine zi h λe v h=>mapX h λd hd=>?_;rw[v];exact zeJ O λs l=>(j n).e hd i s l
  | If t a b p=>exact zi h λq k h=>zB z O (λs l=>(j n).t k i s l) (J.s h i)
  | While t body N p=>
   refine conX h λv h=>?_;rw[List.isEmpty_iff.mp v];exact λs l E Q P V=>wpAny_While (J.w h i s l _ λR s' a l' S=>P R s' a l' S)
  | Break p=>exact zr h st1_break
  | Continue p=>exact zr h st1_continue
  | Pass p=>exact zr h zln
  | Raise o B p=>
   refine conX h λu h=>zi h λe v h=>zi h λq k h=>zi h λcls C h=>zi h λds hd h=>iteX h λhz h=>zr h ?_;obtain⟨Y,Z,T⟩:=zkn k;rw[v,T,Option.isNone_iff_eq_none.mp u];exact G.ex1 C hz.1 (zhb hd) hz.2 λs l=>(j n).es hd i s l
  | _=>exact zg h
end
structure zm8 (X:Wd) (A:Around) (env:Env) (sc:Scope) (mu fr:LA) (F:FT) (Ex:Str->Option Value) (n:Nat):Prop where
 s:∀{c:Ctx}{ss:List Stmt}{f:Fl}{c':Ctx},exS F Ex sc n c ss=some (f,c')->St X A env mu fr c ss f c'
theorem zoG {k:Nat}{F:FT}{f:Str->Option Value}(O:X.Ok) (B:Blt X) (T:Tab X k F) (o:Exs X f) (R:Rm k A) (l:A.handled=none) (c:Frm X A env sc mu fr) (n:Nat):zm8 X A env sc mu fr F f n:=
 ⟨λh=>(zoU (cx:=id) (I:=λ_=>True) (W:=opsX F f sc) O (gsnd O R (zj0 (mu:=mu) O B T R l c.toStat)) {
  set:=λ_ _=>trivial,setF:=λ_ _=>trivial,aug:=λ_ _=>trivial,augF:=λ_ _=>trivial
  set1:=λh _ e b=>conX h λg h=>zr h (zj c O (zbF g) e b)
  setF1:=λh=>zg h
  aug1:=λh _ b=>conX h λg h=>zi h λa m h=>mapX h λd hd=>by
   refine zi hd λi p hd=>mapX hd λj q=>?_;rw[zv p] at m;rw[zv q] at b;exact zdh c O (zbF g) m b
  augF1:=λh=>zg h
  ex1:=λh r t hz b=>iteX h λe h=>let ⟨h1,h2⟩:=o.ok _ _ h;zjL O c.toStat l e.1 e.2 h1 h2 r t hz b} c n).s h trivial⟩
end
theorem zek {h h':Heap}{mu mu':LA}(k:∀a o,a∉mu->h.get? a=some o->(∃vs n,o.data=.seq vs n)->a∉mu'/\h'.get? a=some o):(∀{v d},Rd h mu v d->Rd h' mu' v d)/\∀{vs xs},Rds h mu vs xs->Rds h' mu' vs xs:=
 Rd.ind .none .bool .int .str .ptr (λn e q=>.list (k _ _ n e ⟨_,_,rfl⟩).1 (k _ _ n e ⟨_,_,rfl⟩).2 q) (λn e q=>.tuple (k _ _ n e ⟨_,_,rfl⟩).1 (k _ _ n e ⟨_,_,rfl⟩).2 q) (λn e c1 c2 q=>.kin (k _ _ n e ⟨_,_,c2⟩).1 (k _ _ n e ⟨_,_,c2⟩).2 c1 c2 q) .nil λ_ a b=>.cons a b
theorem Rd.moveS {h h':Heap}{mu mu':LA}(k:∀a o,a∉mu->h.get? a=some o->(∃vs n,o.data=.seq vs n)->a∉mu'/\h'.get? a=some o){d:PyData}{v:Value}(r:Rd h mu v d):Rd h' mu' v d:=(zek k).1 r
theorem Rds.moveS {h h':Heap}{mu mu':LA}(k:∀a o,a∉mu->h.get? a=some o->(∃vs n,o.data=.seq vs n)->a∉mu'/\h'.get? a=some o){xs:List PyData}{vs:List Value}(r:Rds h mu vs xs):Rds h' mu' vs xs:=(zek k).2 r
section
variable {outer:List Env}{h₀:Heap}{L e:Addr}{cls:Value}{ds:List PyData}
theorem zcD (d:Frs X A s.heap){fl:List Env}(b:A.frames=some fl){base:Heap}(f:∀a∈fsOf A,base.get? a=none):s.heap.FunFrames base fl:=by
 obtain⟨j,g,h⟩:=d;rw[b] at g;cases g;have c:∀env∈fl,∀L,env.frame=some L->base.get? L=none:=λenv k L l=>f L (by unfold fsOf;rw[b];exact List.mem_filterMap.mpr ⟨env,k,l⟩);clear b f
 induction fl with
 | nil=>trivial
 | cons env i n=>
  obtain⟨q1,L,o,es,t,q2,u,v,p,r⟩:=h env zpP;exact⟨q1,⟨L,o,q2,c env zpP L q2,p,λvs q=>by rw[r] at q;cases q⟩,n (λe m=>h e (zpx _ m)) λe m=>c e (zpx _ m)⟩
theorem zaT (b:Frs X A s.heap){a:Addr}(m:a∈fsOf A){o:Obj}(e:s.heap.get? a=some o):∀vs,o.data≠.fields vs:=by
 obtain⟨fl,f,g⟩:=b;unfold fsOf at m;rw[f] at m;obtain⟨h,i,c⟩:=zp5.mp m;obtain⟨_,L',o',_,_,j,_,_,d,k⟩:=g h i;rw[j] at c;cases c;rw[e] at d;cases d;intro vs q;rw[k] at q;cases q
structure zbn (A:Around) (h₀ h h':Heap):Prop where
 old:∀b o,b<h₀.objs.size->h.get? b=some o->∃o',h'.get? b=some o'/\zbA (fsOf A) b o o'
 seq:∀b o,b∉fsOf A->h.get? b=some o->(∀vs,o.data≠.fields vs)->h'.get? b=some o
theorem zbi (h:Frs X A s.heap) (F:Low mu s) (G:Mu X A mu){j:Addr}(f:Fly h₀ mu j e cls ds s.heap){h':Heap}{hid:LA}{fl:Value}{a0:Value}(x:h₀.objs.size<=hz s)
  (c:∀b∈hid,b∈fsOf A\/(h₀.objs.size<=b/\b∉mu/\∃o,s.heap.get? b=some o/\∃vs,o.data=.fields vs)) (l:∀b o,s.heap.get? b=none->h'.get? b=some o->hz s<=b)
  (k1:(hideAll s.heap hid).StaysIn h') (y:∃o vs,s.heap.get? e=some o/\o.data=.fields vs/\vs[0]? = some a0) (k3:h'.TracedAtW (hideAll s.heap hid) e cls a0 fl) (z:fl=.none\/fl=rawInt L)
  (C:∀b o,s.heap.get? b=some o->(∀vs,o.data≠.fields vs)->∃sl,h'.get? b=some {o with slots:=sl}):zbn A h₀ s.heap h'/\Fly h₀ mu L e cls ds h':=by
 obtain⟨o,vs,t,us,n,H,S,I,J,K,D,M,U⟩:=f.ex;have d:∀b o,b∉fsOf A->s.heap.get? b=some o->(∀vs,o.data≠.fields vs)->h'.get? b=some o:=λb o p i N=>k1 b o (hideAll_get _ i λm=>by
  rcases c b m with q|⟨_,_,o',e',vs',q⟩
  .exact p q
  .rw [i] at e';cases e';exact N _ q)
 refine⟨⟨λb B p i=>?_,d⟩,?_⟩
 .by_cases g:b∈hid
  .rcases c b g with q|⟨q,_⟩
   .obtain⟨sl,hs⟩:=C b B i (zaT h q i);exact⟨_,hs,.inr ⟨q,sl,rfl⟩⟩
   .exact absurd p (zpO.mpr q)
  .exact ⟨B,k1 b B (hideAll_get _ i g),.refl⟩
 .obtain⟨oe,ws,T,oT,ts,he,⟨hcls,hw0⟩,hd,hw1,hnT,hTe,hT,hdT,hts⟩:=k3;obtain⟨o2,O,q1,q2,E⟩:=y;rw[H] at q1;cases q1;rw[I] at q2;cases q2;rw[J] at E;cases E;have r:∀b,b∉mu->b∉fsOf A:=λb p m=>p (G.fs b m);have u:(h₀.objs.size<=T/\T∉mu):=by
   cases q:s.heap.get? T with
   | none=>
    have:=l T oT q hT;exact⟨zpF x this,λm=>absurd (F T m) (zpO.mpr this)⟩
   | some P=>
    have g:T∈hid:=Classical.byContradiction λQ=>by rw[hideAll_get _ q Q] at hnT;cases hnT
    rcases c T g with w|⟨w1,w2,_⟩
    .obtain⟨sl,hs⟩:=C T P q (zaT h w q);rw[hT] at hs;cases hs;exact absurd hdT (zaT h w q _)
    .exact ⟨w1,w2⟩
  refine⟨f.new,f.out,oe,ws,t,us,n,he,hcls,hd,hw0,d t _ (r t D) K (λvs q=>by cases q),D,M.moveS λa o2 v R k2=>⟨v,d a o2 (r a v) R λ_ q=>k2.elim λ_ k=>k.elim λ_ k=>nomatch k.symm.trans q⟩,.inr ⟨T,oT,ts,fl,hw1,u.1,u.2,hTe,hT,hdT,hts,z⟩⟩
theorem zkk (d:A.frames=some (env::outer)) (B:env.frame=some L) (g:Frs X A s.heap) (D:Low mu s) (F:Mu X A mu) (f:Fly h₀ mu L e cls ds s.heap) (p:h₀.objs.size<=hz s){Q:Unit->Shared->Prop}
  (h:∀h',zbn A h₀ s.heap h'->(∀L',Fly h₀ mu L' e cls ds h')->hz s<=h'.objs.size->Q () {s with heap:=h'}):wpAny X.M A (leaving env (.ref e)) Q E s:=by
 obtain⟨o,vs,t,us,n,r,G,u,z,P,R,S,C⟩:=f.ex;have i:∀(h':Heap) (hid:LA),(∀b∈hid,b∈fsOf A\/(h₀.objs.size<=b/\b∉mu/\∃o,s.heap.get? b=some o/\∃vs,o.data=.fields vs))->(∀b o,s.heap.get? b=none->h'.get? b=some o->hz s<=b)->(hideAll s.heap hid).StaysIn h'->h'.TracedW (hideAll s.heap hid) e cls (.ref t)->
   (∀b o,s.heap.get? b=some o->(∀vs,o.data≠.fields vs)->∃sl,h'.get? b=some {o with slots:=sl})->hz s<=h'.objs.size->Q () {s with heap:=h'}:=λh' hid q1 q2 H I J K=>
  h h' (zbi (L:=L) (a0:=.ref t) (fl:=.none) g D F f p q1 q2 H ⟨o,vs,r,u,z⟩ I (.inl rfl) J).1 (λL'=>(zbi (L:=L') (a0:=.ref t) (fl:=.none) g D F f p q1 q2 H ⟨o,vs,r,u,z⟩ I (.inl rfl) J).2) K
 have v:h₀.objs.size<=e/\e∉mu/\∃o,s.heap.get? e=some o/\∃vs,o.data=.fields vs:=⟨f.new,f.out,o,r,vs,u⟩;rcases C with C|⟨T,oT,ts,fl,w1,w2,w3,w4,w5,w6,w7,w8⟩
 .refine wpt (wpd (wpAny_leaving_firstW (base:=hideAll s.heap (e::fsOf A)) (a0:=.ref t) d (zcD g d λa m=>hideAll_none _ (zpx _ m)) B r (λb x q=>of_hideAll _ q) (hideAll_none _ zpP) u C z λh' k w _ c=>?_));exact i h' (e::fsOf A) (λb m=>(zpz.mp m).elim (λq=>.inr (q▸v)) .inl) w k.1 (G▸k.2.2.1) k.2.2.2 c
 .have hT':h₀.objs.size<=T/\T∉mu/\∃o,s.heap.get? T=some o/\∃vs,o.data=.fields vs:=⟨w2,w3,oT,w5,ts,w6⟩;have hid:∀b∈e::T::fsOf A,b∈fsOf A\/(h₀.objs.size<=b/\b∉mu/\∃o,s.heap.get? b=some o/\∃vs,o.data=.fields vs):=λb m=>by
   refine memK m ?_ λm=>?_
   .exact .inr v
   .refine memK m ?_ λm=>?_
    .exact .inr hT'
    .exact .inl m
  have j:s.heap.TracedAtW (hideAll s.heap (e::T::fsOf A)) e cls (.ref t) fl:=⟨o,vs,T,oT,ts,r,⟨G,z⟩,u,w1,hideAll_none _ (by simp),w4,w5,w6,w7⟩;have y:=zcD (base:=hideAll s.heap (e::T::fsOf A)) g d λa m=>hideAll_none _ (zpx _ (zpx _ m));rcases w8 with rfl|rfl
  .refine wpt (wpd (wpAny_leaving_nextW (base:=hideAll s.heap (e::T::fsOf A)) (a0:=.ref t) (cls:=cls) d y B j (λb x q=>of_hideAll _ q) (hideAll_none _ (by simp)) λh' k w _ c=>?_));exact i h' _ hid w k.1 k.2.2.1 k.2.2.2 c
  .refine wpt (wpd (wpB (wpAny_noteFrame_againW B j (wpAny_setFlight_noneW (base:=hideAll s.heap (e::T::fsOf A)) (l:=env::outer) (λb x q=>of_hideAll _ q) y j λh' k1 _ k3 N w _ c=>?_))));exact i h' _ hid w k1 k3 (λb x q O=>⟨x.slots,N b x q O⟩) c
end
section
variable {n:Nat}{fa:Addr}{ps:List Str}{body:List Stmt}{ds eds:List PyData}{cls:Value}
def ClE (X:Wd) (A:Around) (mu:LA) (fv:Value) (ds:List PyData) (cls:Value) (eds:List PyData):Prop:=
 ∀(vs:List Value) (s:Shared) (E:VP) (Q:VP),X.kk.StaysIn s.heap->Rdy X s->Frs X A s.heap->Mu X A mu->Low mu s->Rds s.heap mu vs ds->(∀e s',Aft X A s s'->(∀L,Fly s.heap mu L e cls eds s'.heap)->E (.ref e) s')->wpAny X.M A (call fv vs) Q E s
theorem Fly.sub {h₀ h:Heap}{mu':LA}{L e:Addr}(f:Fly h₀ mu L e cls ds h) (a:∀b∈mu',b∈mu):Fly h₀ mu' L e cls ds h:=f.mono (zpB _) a
theorem Fly.since {h₀ a h:Heap}{L e:Addr}(f:Fly a mu L e cls ds h) (b:h₀.objs.size<=a.objs.size):Fly h₀ mu L e cls ds h:=f.mono b λ_ m=>m
end
section
variable {outer:List Env}{h₀:Heap}{L e:Addr}{cls:Value}{ds:List PyData}
def Tcd (h:Heap) (e:Addr):Prop:=∃o vs T,h.get? e=some o/\o.data=.fields vs/\vs[1]? = some (.ref T)
theorem Fly.hidden (f:Fly h₀ mu L e cls ds s.heap) (T:Addr){oT:Obj}{ts:Array Value}(a:h₀.objs.size<=T) (c:T∉mu) (d:s.heap.get? T=some oT) (g:oT.data=.fields ts) :
  ∀b∈e::T::fsOf A,b∈fsOf A\/(h₀.objs.size<=b/\b∉mu/\∃o,s.heap.get? b=some o/\∃vs,o.data=.fields vs):=λb m=>by
 obtain⟨o,vs,t,us,n,h,j,i,_⟩:=f.ex;refine memK m ?_ λm=>?_
 .exact .inr ⟨f.new,f.out,o,h,vs,i⟩
 .refine memK m ?_ λm=>?_
  .exact .inr ⟨a,c,oT,d,ts,g⟩
  .exact .inl m
theorem zjE {base h:Heap}{a0 fl:Value}(k:h.TracedAtW base e cls a0 fl):Tcd h e:=by
 obtain⟨b,c,T,oT,ts,d,_,hd,a,_⟩:=k;exact⟨b,c,T,d,hd,a⟩
theorem ze1 (c:A.frames=some (env::outer)) (p:env.frame=some L) (d:Frs X A s.heap) (y:Low mu s) (z:Mu X A mu) (f:Fly h₀ mu L e cls ds s.heap) (l:h₀.objs.size<=hz s){Q:Unit->Shared->Prop}
  (h:∀h',zbn A h₀ s.heap h'->Fly h₀ mu L e cls ds h'->Tcd h' e->hz s<=h'.objs.size->Q () {s with heap:=h'}):wpAny X.M A (noteFrame (.ref e) env) Q E s:=by
 obtain⟨o,vs,t,us,n,i,B,j,r,C,D,F,u⟩:=f.ex;rcases u with u|⟨T,oT,ts,fl,w1,w2,w3,w4,w5,w6,w7,w8⟩
 .refine wpt (wpd ?_);unfold noteFrame;simp only [p];refine wpB (wpAny_field i j u ?_);rw[if_neg (by ext)];refine wpAny_entryW (base:=hideAll s.heap (e::fsOf A)) (a0:=.ref t) c (zcD d c λa m=>hideAll_none _ (zpx _ m)) p i (λb x q=>of_hideAll _ q) (hideAll_none _ zpP) j (Array.getElem?_eq_some_iff.mp u).1 r λh' k v _ g=>?_;have k3:=k.2.2.1;rw[B] at k3;obtain⟨q1,q2⟩:=zbi (L:=L) (a0:=.ref t) (fl:=rawInt L) (hid:=e::fsOf A) d y z f l (λb m=>(zpz.mp m).elim (λq=>.inr (q▸⟨f.new,f.out,o,i,vs,j⟩)) .inl) v k.1 ⟨o,vs,i,j,r⟩ k3 (.inr rfl) k.2.2.2;exact h h' q1 q2 (zjE k3) g
 .have hTr:s.heap.TracedAtW (hideAll s.heap (e::T::fsOf A)) e cls (.ref t) fl:=⟨o,vs,T,oT,ts,i,⟨B,r⟩,j,w1,hideAll_none _ (by simp),w4,w5,w6,w7⟩;have w:=zcD (base:=hideAll s.heap (e::T::fsOf A)) d c λa m=>hideAll_none _ (zpx _ (zpx _ m));rcases w8 with rfl|rfl
  .refine wpt (wpd (wpAny_noteFrame_onW (base:=hideAll s.heap (e::T::fsOf A)) (a0:=.ref t) (cls:=cls) c w p hTr (λb x q=>of_hideAll _ q) (hideAll_none _ (by simp)) λh' k v _ g=>?_));obtain⟨q1,q2⟩:=zbi (L:=L) (a0:=.ref t) (fl:=rawInt L) (hid:=e::T::fsOf A) d y z f l (f.hidden T w2 w3 w5 w6) v k.1 ⟨o,vs,i,j,r⟩ k.2.2.1 (.inr rfl) k.2.2.2;exact h h' q1 q2 (zjE k.2.2.1) g
  .refine wpAny_noteFrame_againW p hTr ?_;exact h s.heap ⟨λb o _ q=>⟨o,q,.refl⟩,λb o _ q _=>q⟩ f (zjE hTr) (zpB _)
theorem zc9 (c:Frs X A s.heap) (y:Low mu s) (z:Mu X A mu) (f:Fly h₀ mu L e cls ds s.heap) (C:Tcd s.heap e) (d:h₀.objs.size<=hz s){Q:Unit->Shared->Prop}
  (h:∀h',zbn A h₀ s.heap h'->(∀L',Fly h₀ mu L' e cls ds h')->hz s<=h'.objs.size->Q () {s with heap:=h'}):wpAny X.M A (setFlight (.ref e) none) Q E s:=by
 obtain⟨o,vs,t,us,n,i,D,j,k,H,I,J,p⟩:=f.ex;obtain⟨r,u,_⟩:=id c;rcases p with p|⟨T,oT,ts,fl,w1,w2,w3,w4,w5,w6,w7,w8⟩
 .obtain⟨o',vs',T,q1,q2,q3⟩:=C;rw[i] at q1;cases q1;rw[j] at q2;cases q2;rw[p] at q3;cases q3
 .have hTr:s.heap.TracedAtW (hideAll s.heap (e::T::fsOf A)) e cls (.ref t) fl:=⟨o,vs,T,oT,ts,i,⟨D,k⟩,j,w1,hideAll_none _ (by simp),w4,w5,w6,w7⟩;have v:=zcD (base:=hideAll s.heap (e::T::fsOf A)) c u λa m=>hideAll_none _ (zpx _ (zpx _ m));refine wpt (wpd (wpAny_setFlight_noneW (base:=hideAll s.heap (e::T::fsOf A)) (l:=r) (λb x q=>of_hideAll _ q) v hTr λh' k1 _ k3 F B _ w=>?_));have g:∀b o,s.heap.get? b=some o->(∀vs,o.data≠.fields vs)->∃sl,h'.get? b=some {o with slots:=sl}:=λb x q G=>⟨x.slots,F b x q G⟩;exact h h' (zbi (L:=L) (a0:=.ref t) (fl:=.none) c y z f d (f.hidden T w2 w3 w5 w6) B k1 ⟨o,vs,i,j,k⟩ k3 (.inl rfl) g).1 (λL'=>(zbi (L:=L') (a0:=.ref t) (fl:=.none) c y z f d (f.hidden T w2 w3 w5 w6) B k1 ⟨o,vs,i,j,k⟩ k3 (.inl rfl) g).2) w
theorem zl0 (p:env.frame=some L) (d:Frs X A s.heap) (r:Low mu s) (u:Mu X A mu) (f:Fly h₀ mu L e cls ds s.heap) (v:Tcd s.heap e) (j:h₀.objs.size<=hz s)
  (h:∀h',zbn A h₀ s.heap h'->Fly h₀ mu L e cls ds h'->hz s<=h'.objs.size->E (.ref e) {s with heap:=h'}):cameBackBy X.M A env E (.ref e) s:=by
 obtain⟨o,vs,t,us,n,g,y,i,m,G,H,I,k⟩:=f.ex;obtain⟨z,B,_⟩:=id d;rcases k with k|⟨T,oT,ts,fl,w1,w2,w3,w4,w5,w6,w7,w8⟩
 .obtain⟨o',vs',T,q1,q2,q3⟩:=v;rw[g] at q1;cases q1;rw[i] at q2;cases q2;rw[k] at q3;cases q3
 .refine wpt (wpd (wpB (wpAny_field g i w1 ?_)));rw[if_neg (by show ¬((Value.ref T==Value.none)=true);simp)];refine wpB (wpAny_field g i w1 ?_);rw[if_pos (show (Value.ref T != Value.none)=true from by simp)];rw[p];have c:3<ts.size:=(Array.getElem?_eq_some_iff.mp w7).1;have a:∀b,b≠T->(s.heap.update T (Obj.mapFields (·.setIfInBounds 3 ((some L:Option Addr).elim Value.none λf=>rawInt f)))).get? b=s.heap.get? b:=λb C=>zp1 _ _ (Ne.symm C);refine wpAny_setField w5 w6 c λD _ l=>?_;have k3:(s.heap.update T (Obj.mapFields (·.setIfInBounds 3 ((some L:Option Addr).elim Value.none λf=>rawInt f)))).TracedAtW (hideAll s.heap (e::T::fsOf A)) e cls (.ref t) (rawInt L):=
   ⟨o,vs,T,_,_,(a e (Ne.symm w4)).trans g,⟨y,m⟩,i,w1,hideAll_none _ (by simp),w4,Heap.get?_update_self _ w5 (Obj.isFreed_of_fields (Obj.data_mapFields w6 _)),Obj.data_mapFields w6 _,by simp[c]⟩
  obtain⟨q1,q2⟩:=zbi (L:=L) (a0:=.ref t) (fl:=rawInt L) (hid:=e::T::fsOf A) d r u f j (f.hidden T w2 w3 w5 w6) D (λb x q=>(a b λw=>by rw[w,hideAll_none _ (by simp)] at q;cases q).trans (of_hideAll _ q)) ⟨o,vs,g,i,m⟩ k3 (.inr rfl) (λb x q F=>⟨x.slots,(a b λw=>by rw[w,w5] at q;cases q;exact F _ w6).trans q⟩);exact h _ q1 q2 l
end
section
variable {c c' c₀ c1 c2:Ctx}{s s₀ s':Shared}{hd:Option Value}
theorem Frs.to {c:Around}{h:Heap}(x:Frs X A h) (e:c.frames=A.frames:=by rfl):Frs X c h:=let ⟨fl,a,b⟩:=x;⟨fl,e.trans a,b⟩
theorem Frs.mark {h:Heap}(x:Frs X A h):Frs X (A.mark hd) h:=let ⟨fl,a,b⟩:=x;⟨fl,a,b⟩
theorem Frs.unmark {h:Heap}(x:Frs X (A.mark hd) h):Frs X A h:=let ⟨fl,a,b⟩:=x;⟨fl,a,b⟩
theorem Loc.mark (l:Loc X A env mu c s):Loc X (A.mark hd) env mu c s:=⟨l.stay,⟨l.tbm.tb,l.tbm.fs⟩,l.low,l.ltb,l.ns,l.cell,l.cis,l.tk,l.frs.mark,l.own,l.ownNd,l.ownMu⟩
theorem Loc.unmark (l:Loc X (A.mark hd) env mu c s):Loc X A env mu c s:=⟨l.stay,⟨l.tbm.tb,l.tbm.fs⟩,l.low,l.ltb,l.ns,l.cell,l.cis,l.tk,l.frs.unmark,l.own,l.ownNd,l.ownMu⟩
theorem AftL.unmark (a:AftL X (A.mark hd) fr s s'):AftL X A fr s s':=⟨a.keep,a.os,a.gens,a.size,a.toks,a.live⟩
theorem Aft.unmark (a:Aft X (A.mark hd) s s'):Aft X A s s':=⟨a.keep,a.os,a.gens,a.size,a.toks,a.live⟩
theorem Frm.mark (F:Frm X A env sc mu fr):Frm X (A.mark hd) env sc mu fr:=⟨F.toStat,F.lmu,F.lfr,F.new,F.cel,F.sub⟩
theorem Rm.mark {n:Nat}(R:Rm n A):Rm n (A.mark hd):=⟨R.units,R.depth⟩
theorem zbn.ex {h₀ h h':Heap}(a:zbn A h₀ h h'){b:Addr}{o:Obj}(c:b<h₀.objs.size) (d:b∉fsOf A) (e:h.get? b=some o):h'.get? b=some o:=by
 obtain⟨o',f,r⟩:=a.old b o c e;rw[f,r.ex d]
theorem Rd.noted {h₀ h h':Heap}(b:zbn A h₀ h h') (c:Mu X A mu){v:Value}{d:PyData}(r:Rd h mu v d):Rd h' mu v d:=r.moveS λa o m e k=>⟨m,b.seq a o (λq=>m (c.fs a q)) e λ_ q=>k.elim λ_ k=>k.elim λ_ k=>nomatch k.symm.trans q⟩
theorem Rds.noted {h₀ h h':Heap}(b:zbn A h₀ h h') (c:Mu X A mu){v:List Value}{d:List PyData}(r:Rds h mu v d):Rds h' mu v d:=r.moveS λa o m e k=>⟨m,b.seq a o (λq=>m (c.fs a q)) e λ_ q=>k.elim λ_ k=>k.elim λ_ k=>nomatch k.symm.trans q⟩
theorem Loc.noted (f:Loc X A env mu c₀ s₀) (l:Loc X A env mu c s){h':Heap}(g:zbn A s₀.heap s.heap h') (u:hz s<=h'.objs.size) (J:owns c.own=owns c₀.own):Loc X A env mu c {s with heap:=h'}:=by
 have j:∀b o,X.kk.get? b=some o->b<s₀.heap.objs.size/\b∉fsOf A:=λb o e=>⟨zpI (f.stay b o e),λm=>by rw[(l.frs.none m).1] at e;cases e⟩;have w:∀b∈owns c.own,b<s₀.heap.objs.size:=λb m=>f.low b (f.ownMu b (J▸m)).1;refine⟨λb o e=>g.ex (j b o e).1 (j b o e).2 (l.stay b o e),l.tbm,λb m=>zpM (l.low b m) u,l.ltb,?_,λx d e=>?_,λy b e=>⟨(l.cis y b e).1,?_⟩,⟨l.tk.tk,?_⟩,?_,λp z=>?_,l.ownNd,l.ownMu⟩
 .obtain⟨m,hns,h⟩:=l.ns;obtain⟨_,i,_⟩:=f.ns;refine⟨m,Ns.same hns λo e=>g.old _ o i.lt e,λx d e=>?_⟩;obtain⟨v,B,K⟩:=h x d e;exact⟨v,B,K.noted g l.tbm⟩
 .obtain⟨b,v,h1,h2,h3,h4⟩:=l.cell x d e;exact⟨b,v,h1,h2,IsCell.same h3 λo e=>g.old _ o (f.cis x b h1).2.choose_spec.lt e,h4.noted g l.tbm⟩
 .obtain⟨v,B⟩:=(l.cis y b e).2;exact⟨v,IsCell.same B λo k=>g.old _ o (f.cis y b e).2.choose_spec.lt k⟩
 .obtain⟨o,e⟩:=l.tk.tb;obtain⟨o',k,r⟩:=g.old X.tb o.1 (f.low _ f.tbm.tb) e;exact⟨o,zeH l.frs r▸k⟩
 .obtain⟨fl,h1,h2⟩:=l.frs;refine⟨fl,h1,λF G=>?_⟩;obtain⟨q1,D,o,es,L,q2,M,N,O,P⟩:=h2 F G;have n:D∈fsOf A:=by unfold fsOf;rw[h1];exact List.mem_filterMap.mpr ⟨F,G,q2⟩
  obtain⟨o',k,r⟩:=g.old D o (f.frs.lt n) O;exact⟨q1,D,o',es,L,q2,M,N,k,r.data.1.trans P⟩
 .have:=l.own p z;obtain⟨a,ow⟩:=p;have t:∀b∈Own.ads (a,ow),∀E,s.heap.get? b=some E->h'.get? b=some E:=λb H E e=>g.ex (w b (zu z H)) (l.ownMu b (zu z H)).2.1 e;cases ow with
  | lst xs=>rcases this with ⟨vs,m,e,r⟩;exact⟨vs,m,t a (by first|rfl|simp[Own.ads]) _ e,r.noted g l.tbm⟩
  | raw o=>exact t a (by first|rfl|simp[Own.ads]) _ this
  | inst C dx fs=>
   obtain⟨e,es,m,I,r⟩:=this;refine⟨t a (by first|rfl|simp[Own.ads]) _ e,es,m,t dx (by first|rfl|simp[Own.ads]) _ I,?_⟩;clear I;have key:∀{es:List DictEntry}{fs:List (Str×PyData)},Flds s.heap mu es fs->Flds h' mu es fs:=fun {es fs} r=>by
    induction r with
    | nil=>exact .nil
    | cons r q Q=>exact .cons (r.noted g l.tbm) Q
   exact key r
theorem AftL.noted (a:AftL X A fr s₀ s){h':Heap}(h:zbn A s₀.heap s.heap h') (f:hz s<=h'.objs.size){g:Heap}(i:Frs X A g):AftL X A fr s₀ {s with heap:=h'}:=by
 refine⟨λb o m e=>?_,a.os,a.gens,zpF a.size f,a.toks,λo e=>?_⟩
 .obtain⟨o',e',r⟩:=a.keep b o m e;obtain⟨d,c,j⟩:=h.old b o' (zpI e) e';exact⟨d,c,r.trans j⟩
 .obtain⟨o',e'⟩:=a.live o e;obtain⟨d,c,r⟩:=h.old X.tb o'.1 (zpI e) e';exact⟨o',zeH i r▸c⟩
def Mt (X:Wd) (T cls:Value) (b:Bool):Prop:=∀(A:Around) (s:Shared) (e:Addr) (o:Obj) (Q:Bool->Shared->Prop) (E:VP),X.kk.StaysIn s.heap->s.heap.get? e=some o->o.cls=cls->Q b s->wpAny X.M A (excMatches (.ref e) T) Q E s
theorem zgP (O:X.Ok) (F:Frm X A env sc mu fr) (I:InFn A env){x:Str}{xp hp p:Pos}{body h:List Stmt}{u:Stmt}{T cls:Value}{ds:List PyData}{f:Fl}(W:∀cls ds,f≠.exc cls ds) (hk:sc.names.lookup x=some .globalImplicit) (hd:(x==("__debug__":Str))=false) (hT:Top1 X x T) (hm:Mt X T cls true)
  (Y:owns c1.own=owns c.own) (hb:St X A env mu fr c body (.exc cls ds) c1) (hs:∀e,St X (A.mark (some (.ref e))) env mu fr c1 (u::h) f c2) :
  St1 X A env mu fr c (.Try body [.ExceptHandler (some (.Name x xp)) none (u::h) hp] [] [] p) f c2:=λs l E Q hQ hE=>by
 obtain⟨Z,a0⟩:=I.fr;refine wpAny_Try_except (hb s l _ _ (λf' s' _ _ W=>False.elim W) λv i y d hv=>?_);obtain⟨e,rfl,a1⟩:=hv;refine ze1 (h₀:=s.heap) a0 I.at_ d.frs d.low d.tbm a1 y.size λh2 H J a2 K=>?_;have l₂:=l.noted d H K Y;have z:=y.noted H K l.frs;refine zc9 (h₀:=s.heap) l₂.frs l₂.low l₂.tbm J a2 z.size λV L j N=>?_;have g:=l.noted l₂ L N Y;have B:=z.noted L N l.frs;obtain⟨o,vs,t,us,n,e1,e2,_⟩:=(j env.locals).ex;refine wpAny_handleBy_cons (codeAny_handlers_test (zw (A:=A.mark (some (.ref e))) F.toStat O g.stay hk hd hT (hm _ _ e o _ _ g.stay e1 e2 ?_))) (by intro q;cases q);refine codeAny_handlers_suite ?_;have a:Loc X (A.mark (some (.ref e))) env mu c1 _:=g.mark;have C:∀{Q':Unit->Shared->Prop}{E':VP},(∀G,zbn A s.heap V G->hz {i with heap:=V}<=G.objs.size->Q' () {i with heap:=G})->wpAny X.M (A.mark (some (.ref e))) (setFlight (.ref e) none) Q' E' {i with heap:=V}:=fun {Q' E'} k=>by
  obtain⟨o',a3,t',a5,n',P,a6,R,a7,a8,a9,b0,D⟩:=(j env.locals).ex;rcases D with D|⟨T',oT',ts',fl',w,_⟩
  .refine wpB (wpAny_field P R D ?_);rw[if_neg (by ext)];exact zpR (k V ⟨λb o _ q=>⟨o,q,.refl⟩,λb o _ q _=>q⟩ (zpB _))
  .exact zc9 (X:=X) (A:=A.mark (some (.ref e))) (h₀:=s.heap) a.frs a.low a.tbm (j env.locals) ⟨o',a3,T',P,R,w⟩ B.size λG m _ r=>k G ⟨m.old,m.seq⟩ r
 refine C λG m r=>?_;have S:=l.noted g m r Y;have U:=B.noted m r l.frs;refine hs e _ S.mark _ _ (λf' s' a' l' a4=>?_) λv s' _ _ hv=>?_
 .exact hQ f' s' (U.trans a'.unmark) l'.unmark a4
 .cases f with
  | exc cls ds=>exact absurd rfl (W cls ds)
  | _=>exact False.elim hv
end
noncomputable def stm (i:Nat):Stmt:=(PySem.Challenge.pw_aa0062_01.main.body[i]?).getD (.Pass ⟨0,0,0,0⟩)
set_option backward.match.sparseCases false in
noncomputable def zhX:Stmt->List Stmt×Scope×List Str×Str
 | .FunctionDef n a b _ _ _ s _ _ _=>(b,s,(a.posonlyargs++a.args).map (·.arg),n)
 | .ClassDef _ _ _ b _ _ s _ _ _ _=>(b,s,[],"")
 | .While _ b _ _=>(b,default,[],"")
 | .Try b _ _ _ _=>(b,default,[],"")
 | _=>([],default,[],"")
noncomputable def zG (st:Stmt):List Stmt:=(zhX st).1
noncomputable def zd (st:Stmt):Scope:=(zhX st).2.1
noncomputable def zA (st:Stmt):List Str:=(zhX st).2.2.1
noncomputable abbrev noF:FT:=λ_ _=>none
noncomputable abbrev noX:Str->Option Value:=λ_=>none
abbrev zba (X:Wd) (A:Around) (n i:Nat) (ds:List PyData) (f:Fl):Prop:=zP X A n (zd (stm i)) (zA (stm i)) ds (zG (stm i)) f
def StX (X:Wd) (A:Around) (env:Env) (mu fr:LA) (c:Ctx) (ss:List Stmt) (f:Fl):Prop:=∃c',St X A env mu fr c ss f c'
section
variable {c c1 c':Ctx}{st:Stmt}{ss:List Stmt}{f:Fl}
theorem zz (F:Frm X A env sc mu fr) (a:St1 X A env mu fr c st .next c1) (b:StX X A env mu fr c1 ss f):StX X A env mu fr c (st::ss) f:=b.imp λ_ h=>ze F a h
theorem zaf (O:X.Ok){e:Expr}{p:Pos}{d:PyData}(a:∀s,Loc X A env mu c s->Ev X A env mu e d s):StX X A env mu fr c (.Return (some e) p::ss) (.ret d):=⟨c,zI (by intro q;cases q) (zeJ O a)⟩
theorem znv {k:Nat}{a:FT}{b:Str->Option Value}{m:Nat}(h:zm8 X A env sc mu fr a b m){c':Ctx}(e:exS a b sc m c ss=some (f,c')):StX X A env mu fr c ss f:=⟨c',h.s e⟩
theorem zP.ofX {n:Nat}{ps:List Str}{ds:List PyData}{body:List Stmt}(h:∀(b:Around) (env:Env) (mu' fr':LA),Rm n b->b.handled=A.handled->InFn b env->Frm X b env sc mu' fr'->(∀y,sc.names.lookup y=some .cell->∃a,zW X b env fr' y a)->StX X b env mu' fr' (startC sc ps ds) body f):zP X A n sc ps ds body f:=zP.of h
end
noncomputable def names:List Str:=["a","b\"c","d e","it's",""]
noncomputable def nm (k:Int):Str:=names.getD k.toNat ""
theorem zai {k:Nat}:Tab X k noF:=⟨λ_ _ _ _ _ _ _ h=>zg h⟩
theorem zpv :Exs X noX:=⟨λ_ _ h=>zg h⟩
theorem domN {k:Int}{m:Nat}(h:0<=k/\k<(m:Int)){P:Int->Prop}(q:∀n:Nat,n<m->P n):P k:=by
 obtain⟨n,rfl⟩:=Int.eq_ofNat_of_zero_le h.1;exact q n (Int.ofNat_lt.mp h.2)
theorem dom5 {k:Int}(h:0<=k/\k<5):k=0\/k=1\/k=2\/k=3\/k=4:=domN (m:=5) (P:=λk=>k=0\/k=1\/k=2\/k=3\/k=4) h (by ext)
theorem dom4 {k:Int}(h:0<=k/\k<4):k=0\/k=1\/k=2\/k=3:=domN (m:=4) (P:=λk=>k=0\/k=1\/k=2\/k=3) h (by ext)
theorem dom2 {k:Int}(h:0<=k/\k<2):k=0\/k=1:=domN (m:=2) (P:=λk=>k=0\/k=1) h (by ext)
@[elab_as_elim] theorem dom2K {k:Int}{G:Int->Prop}(h:0<=k/\k<2) (a:G 0) (b:G 1):G k:=by rcases dom2 h with e|e<;>rw[e]<;>assumption
@[elab_as_elim] theorem dom4K {k:Int}{G:Int->Prop}(h:0<=k/\k<4) (a:G 0) (b:G 1) (c:G 2) (d:G 3):G k:=by rcases dom4 h with e|e|e|e<;>rw[e]<;>assumption
@[elab_as_elim] theorem dom5K {k:Int}{G:Int->Prop}(h:0<=k/\k<5) (a:G 0) (b:G 1) (c:G 2) (d:G 3) (f:G 4):G k:=by rcases dom5 h with e|e|e|e|e<;>rw[e]<;>assumption
theorem fmod5 (x:Int):0<=x.fmod 5/\x.fmod 5<5:=⟨Int.fmod_nonneg_of_pos x (by ext),Int.fmod_lt_of_pos x (by ext)⟩
theorem fmod2 (x:Int):0<=x.fmod 2/\x.fmod 2<2:=⟨Int.fmod_nonneg_of_pos x (by ext),Int.fmod_lt_of_pos x (by ext)⟩
theorem fmod4 (x:Int):0<=x.fmod 4/\x.fmod 4<4:=⟨Int.fmod_nonneg_of_pos x (by ext),Int.fmod_lt_of_pos x (by ext)⟩
section
variable {n:Nat}
theorem zkO (O:X.Ok) (B:Blt X) (f:A.handled=none) (x:Int):zba X A n 42 [.int x] (.ret (.str (nm (x.fmod 5)))):=zP.ofX λj env mu' fr' R b o F C=>by
 rw[f] at b;have c:=λm=>sound (mu:=mu') O B (zai (k:=n)) R b F.toStat m;show (_:List Stmt->_->Prop) (_::_) _;refine zaf O λs l=>?_;obtain⟨d,g⟩:=fmod5 x;refine ev_itemList (xs:=names.map .str) (i:=x.fmod 5) O l.tbm ((c 9).e ⋯ s l) (λs' a=>(c 9).e ⋯ s' (l.aft O a)) ⋯ d (by lia) ?_;obtain h|h|h|h|h:x.fmod 5=0\/x.fmod 5=1\/x.fmod 5=2\/x.fmod 5=3\/x.fmod 5=4:=dom5 ⟨d,g⟩
 all_goals rw[h];rfl
end
noncomputable def dbl (x:Str):Str:=Txt.replace x "\"" "\"\""
noncomputable def codes:List Str:=["257","257","250","257"]
noncomputable def ends4:List Str:=["|)",")","|)","|)"]
noncomputable def zaZ (k4 k5:Int):Str:=codes.getD k4.toNat ""++([" \""++dbl (nm k5)++"\"",""].getD (k4.fdiv 3).toNat "":Str)++" it is"
noncomputable def zaY (k4 k2:Int):Str:="229 go (|||"++Str.ofString (toString (20+k2))++ends4.getD k4.toNat ""
noncomputable def intF (g:Int->PyData) (ds:List PyData):Option PyData:=(one? ds).bind λd=>(zbM d).map g
theorem zdE {g:Int->PyData}{ds:List PyData}{d:PyData}(h:intF g ds=some d):∃y,ds=[.int y]/\d=g y:=zi h λa b h=>mapX h λy c=>⟨y,by rw[zaw b,zv c],rfl⟩
noncomputable def zoK:FT:=λf ds=>if f=("_law_name":Str) then intF (λy=>.str (nm (y.fmod 5))) ds else none
section
variable {n:Nat}
theorem zdM (S:Stat X env sc) (O:X.Ok) (B:Blt X) (l:Loc X A env mu c s){b p:Pos}{e:Expr}{i:Int}(d:sc.names.lookup ("str":Str)=some .globalImplicit) (a:plainArg e=true) (f:i.natAbs.log2<1920) (g:Ev X A env mu e (.int i) s) :
  Ev X A env mu (.Call (.Name "str" b) [e] [] p) (.str (Str.ofString (toString i))) s:=zU S O l d (by ext) B.str (.type _) (by simp[a]) (ds:=[.int i]) rfl (zc l.tbm a g λ_ _=>evs_nil) (zdT f)
theorem zgo (O:X.Ok) (B:Blt X) (w:A.handled=none) (T:Tab X n zoK) (x:Int):zba X A n 43 [.int x] (.ret (.list [.str (zaZ ((x.fdiv 30).fmod 4) (x.fmod 5)),.str (zaY ((x.fdiv 30).fmod 4) ((x.fdiv 5).fmod 2))])):=zP.ofX λz env mu' fr' R u D F C=>by
 rw[w] at u;have j:=λm=>sound (mu:=mu') O B T R u F.toStat m;have q:=fmod4 (x.fdiv 30);have v:=fmod5 x;have d2:=fmod2 (x.fdiv 5);obtain⟨o,r⟩:∃k,(x.fdiv 30).fmod 4=k:=⟨_,rfl⟩;rw[r] at q ⊢;show (_:List Stmt->_->Prop) (_::_) _;refine zz F (zj F O ⋯ ⋯ λs l=>(j 9).e (d:=.int o) (by rw[<-r];rfl) s l) ?_;refine zz F (zj F O (d:=.str (zaZ (o) (x.fmod 5))) ⋯ ⋯ λs l=>?_) ?_
 .have hlen:(nm (x.fmod 5)).length<=4:=by refine dom5K v ?_ ?_ ?_ ?_ ?_<;>decide
  have t:(dbl (nm (x.fmod 5))).length<=4:=by refine dom5K v ?_ ?_ ?_ ?_ ?_<;>decide +kernel
  have p:o.fdiv 3=0\/o.fdiv 3=1:=by refine dom4K q ?_ ?_ ?_ ?_<;>decide
  refine ev_addStr O l.tbm (ev_addStr O l.tbm ((j 9).e (d:=.str (codes.getD o.toNat "")) ?_ s l) (λf g=>?_) ?_) (λf g=>(j 3).e ⋯ f (l.aft O g)) ?_
  .refine dom4K q ?_ ?_ ?_ ?_<;>rfl
  .have b:=l.aft O g;refine ev_itemList (xs:=[.str (" \""++dbl (nm (x.fmod 5))++"\""),.str ""]) (i:=o.fdiv 3) O l.tbm (zb1 l.tbm b.low (zc l.tbm ⋯ (ev_addStr O l.tbm (ev_addStr O l.tbm ((j 3).e ⋯ f b) (λc a=>?_) ?_) (λc a=>(j 3).e ⋯ c (b.aft O a)) ?_) λc a=>zc l.tbm ⋯ ((j 3).e ⋯ c (b.aft O a)) λ_ _=>evs_nil) ?_) (λc a=>(j 9).e ⋯ c (b.aft O a)) ⋯ (by rcases p with h|h<;>rw[h]<;>decide) (by rcases p with h|h<;>rw[h]<;>decide) ?_
   .have l₂:=b.aft O a;exact zer O l₂ ⋯ ⋯ ((j 9).e (d:=.str (nm (x.fmod 5))) ⋯ c l₂) (by ext) (by show _+_ * 2<=_;sleep 85)
   .show 2+_<=sizeLine;have:sizeLine=2 ^ 24:=rfl;sleep 106
   .rw [Str.length_append];show (2+_)+1<=sizeLine;have:sizeLine=2 ^ 24:=rfl;sleep 83
   .show 2<=sizeLine
    decide
   .rcases p with h|h<;>rw[h]<;>rfl
  .have h1:(codes.getD o.toNat "").length=3:=by refine dom4K q ?_ ?_ ?_ ?_<;>rfl
   have y:([" \""++dbl (nm (x.fmod 5))++"\"",""].getD (o.fdiv 3).toNat "":Str).length<=7:=by
    rcases p with h|h<;>rw[h]
    .show (" \""++dbl (nm (x.fmod 5))++"\"":Str).length<=7;rw[Str.length_append,Str.length_append];show (2+_)+1<=7;sleep 84
    .exact (by decide:("":Str).length<=7)
   have:sizeLine=2 ^ 24:=rfl;sleep 81
  .have h1:(codes.getD o.toNat "").length=3:=by refine dom4K q ?_ ?_ ?_ ?_<;>rfl
   have y:([" \""++dbl (nm (x.fmod 5))++"\"",""].getD (o.fdiv 3).toNat "":Str).length<=7:=by
    rcases p with h|h<;>rw[h]
    .show (" \""++dbl (nm (x.fmod 5))++"\"":Str).length<=7;rw[Str.length_append,Str.length_append];show (2+_)+1<=7;sleep 84
    .exact (by decide:("":Str).length<=7)
   rw[Str.length_append];show _+6<=sizeLine;have:sizeLine=2 ^ 24:=rfl;sleep 82
 .refine zaf O λs l=>zb1 l.tbm l.low (zc l.tbm ⋯ ((j 9).e ⋯ s l) λf g=>zc l.tbm ⋯ ?_ λ_ _=>evs_nil) (by show 2<=sizeLine;decide);have b:=l.aft O g;refine ev_addStr O l.tbm (ev_addStr O l.tbm ((j 9).e ⋯ f b) (λc a=>zdM F.toStat O B (b.aft O a) ⋯ ⋯ ?_ ((j 12).e (d:=.int (20+(x.fdiv 5).fmod 2)) ⋯ c (b.aft O a))) ?_) (λc a=>(j 9).e (d:=.str (ends4.getD (o).toNat "")) ?_ c (b.aft O a)) ?_
  .refine dom2K d2 ?_ ?_<;>decide
  .refine dom2K d2 ?_ ?_<;>decide
  .refine dom4K q ?_ ?_ ?_ ?_<;>rfl
  .refine dom2K d2 ?_ ?_<;>refine dom4K q ?_ ?_ ?_ ?_<;>decide
end
noncomputable def zhV (y:Int):List PyData:=[.str (zaZ ((y.fdiv 30).fmod 4) (y.fmod 5)),.str (zaY ((y.fdiv 30).fmod 4) ((y.fdiv 5).fmod 2))]
noncomputable def zhU:FT:=λf ds=>if f=("_law_name":Str) then intF (λy=>.str (nm (y.fmod 5))) ds else if f=("_law_replies":Str) then intF (λy=>.list (zhV y)) ds else none
noncomputable def zcM (k4 k5:Int):Str:=[nm k5,nm k5,zaZ k4 k5,""].getD k4.toNat ""
noncomputable def thingB (k4 k2:Int):Str:=if k4=1 then "-" else "h "++Str.ofString (toString (20+k2))
noncomputable def zmE (y:Int):PyData:=.list [.str (zcM ((y.fdiv 30).fmod 4) (y.fmod 5)),.str (thingB ((y.fdiv 30).fmod 4) ((y.fdiv 5).fmod 2))]
section
variable {n:Nat}
theorem zjg (O:X.Ok) (B:Blt X) (y:A.handled=none) (T:Tab X n zhU) (x:Int):zba X A n 44 [.int x] (.ret (zmE x)):=zP.ofX λz env mu' fr' R w D F C=>by
 rw[y] at w;have g:=λm=>sound (mu:=mu') O B T R w F.toStat m;have v:=fmod4 (x.fdiv 30);have d2:=fmod2 (x.fdiv 5);unfold zmE;obtain⟨r,o⟩:∃k,(x.fdiv 30).fmod 4=k:=⟨_,rfl⟩;rw[o] at v ⊢;show (_:List Stmt->_->Prop) (_::_) _;refine zz F (zj F O ⋯ ⋯ λs l=>(g 9).e (d:=.int r) (by rw[<-o];rfl) s l) ?_;refine zz F (zj F O (d:=.str (zcM r (x.fmod 5))) ⋯ ⋯ λs l=>(g 14).e ?_ s l) ?_
 .unfold zcM;refine Eq.trans (b:=some (.str ([nm (x.fmod 5),nm (x.fmod 5),zaZ ((x.fdiv 30).fmod 4) (x.fmod 5),""].getD r.toNat ""))) ?_ (by rw[o]);refine dom4K v ?_ ?_ ?_ ?_<;>rfl
 .refine zaf O λs l=>zb1 l.tbm l.low (zc l.tbm ⋯ ((g 9).e ⋯ s l) λi p=>zc l.tbm ⋯ ?_ λ_ _=>evs_nil) (by show 2<=sizeLine;decide);have a:=l.aft O p;unfold thingB
  by_cases u:r=1
  .rw [if_pos u];subst u;exact zmP ((g 9).t ⋯ i a) λc f=>(g 3).e ⋯ c (a.aft O f)
  .rw [if_neg u];refine zmQ ((g 9).t (b:=false) ?_ i a) λc f=>?_
   .rcases dom4 v with h|h|h|h<;>first|exact absurd h u|(subst h;rfl)
   .have l₂:=a.aft O f;refine ev_addStr O l.tbm ((g 9).e ⋯ c l₂) (λq j=>zdM F.toStat O B (l₂.aft O j) ⋯ ⋯ ?_ ((g 12).e (d:=.int (20+(x.fdiv 5).fmod 2)) ⋯ q (l₂.aft O j))) ?_
    .refine dom2K d2 ?_ ?_<;>decide
    .refine dom2K d2 ?_ ?_<;>decide
end
noncomputable def exT (r p:Value):Str->Option Value:=λx=>if x=("error_reply":Str) then some r else if x=("error_proto":Str) then some p else none
noncomputable def run (r p:Value) (i m:Nat) (ds:List PyData):Option Fl:=(exS noF (exT r p) (zd (stm i)) m (startC (zd (stm i)) (zA (stm i)) ds) (zG (stm i))).map (·.1)
noncomputable def end257 (r:Value) (k4 k5:Int):Fl:=if k4=2 then .exc r [.str (zaZ k4 k5)] else .ret (.str (zcM k4 k5))
noncomputable def zly:PyData:=.tuple [.str "h",.int 21]
noncomputable def end229 (p:Value) (k4 k2:Int):Fl:=if k4=1 then .exc p [.str (zaY k4 k2)] else .ret (.tuple [.str "h",.int (20+k2)])
theorem run257 (r p:Value){a k5:Int}(b:0<=a/\a<4) (c:0<=k5/\k5<5):run r p 8 60 [.str (zaZ a k5)]=some (end257 r a k5):=by
 refine dom4K b ?_ ?_ ?_ ?_<;>refine dom5K c ?_ ?_ ?_ ?_ ?_<;>kernel_rfl
theorem run229 (r p:Value){a k2:Int}(b:0<=a/\a<4) (c:0<=k2/\k2<2):run r p 7 60 [.str (zaY a k2),zly]=some (end229 p a k2):=by
 refine dom4K b ?_ ?_ ?_ ?_<;>refine dom2K c ?_ ?_<;>kernel_rfl
section
variable {n:Nat}{r p:Value}
theorem zig (O:X.Ok) (B:Blt X) (b:A.handled=none) (c:Exs X (exT r p)){i m:Nat}{ds:List PyData}{f:Fl}(h:run r p i m ds=some f):zba X A n i ds f:=zP.ofX λe env mu' fr' R a g F C=>by
 rw[b] at a;obtain⟨q,d,rfl⟩:=Option.map_eq_some_iff.mp h;exact znv (k:=n) (zoG O B (zai (k:=n)) c R a F m) d
end
noncomputable def zjN:Nat->Sre.M->Option Sre.M
 | 0,_=>none
 | n+1,m=>match (m.runFor Builtin.Re.reTurnSteps).outcome with
  | some _=>some (m.runFor Builtin.Re.reTurnSteps)
  | none=>zjN n (m.runFor Builtin.Re.reTurnSteps)
noncomputable def findCode:Array Nat:=#[14,17,4,1,1,21,9,0,604043296,1,0,0,0,0,0,8,4,0,13,14,21,9,0,604043296,1,0,0,0,0,0,8,4,0,1]
noncomputable def zcg (x:Str):Option Bool:=(zjN 200 (Sre.forSearch findCode x.cps 0 0 x.cps.size false)).bind λm=>match m.outcome with
 | some .matched=>some true
 | some .failed=>some false
 | _=>none
section
variable {M:Model}
theorem zl7 {a:Sre.M}:∀{n k:Nat}{m:Sre.M}{Q:Sre.M->Shared->Prop},zjN n m=some a->n<=k->Q a s->wpAny M A (Builtin.Re.reDrive k m) Q E s:=by
 intro n
 induction n with
 | zero=>exact λh _ _=>zg h
 | succ n e=>
  intro k m Q h b c;obtain⟨k,rfl⟩:∃j,k=j+1:=⟨k - 1,(Nat.succ_pred_eq_of_pos (zpM (Nat.succ_pos n) b)).symm⟩;unfold zjN at h;unfold Builtin.Re.reDrive;dsimp only;cases d:(m.runFor Builtin.Re.reTurnSteps).outcome with
  | some o=>
   rw[d] at h;cases h;rw[if_pos ⋯];exact zpR c
  | none=>
   rw[d] at h;rw[if_neg (by ext)];exact zpQ (wpAny_rule (e h (Nat.le_of_succ_le_succ b) c))
theorem zls {c:Nat->Bool}{g:Nat->String}:∀(l:List Nat){Q:PUnit->Shared->Prop}(_:Q ⟨⟩ s),wpAny M A (forIn l PUnit.unit λi _=>(if c i=true then (do rule (g i);pure (ForInStep.yield PUnit.unit)) else pure (ForInStep.yield PUnit.unit):Sem (ForInStep PUnit))) Q E s:=by
 intro l Q h
 induction l with
 | nil=>exact zpR h
 | cons i l a=>
  rw[List.forIn_cons]
  by_cases b:c i=true
  .rw [if_pos b];exact wpB (wpB (wpAny_rule (zpR a)))
  .rw [if_neg b];exact wpB (zpR a)
theorem ziy {n:Nat}{m d:Sre.M}(h:zjN n m=some d) (j:n<=2 ^ 64){b:Bool}(a:(match d.outcome with|some .matched=>some true|some .failed=>some false|_=>none)=some b){Q:Option Sre.M->Shared->Prop}(e:Q (if b then some d else none) s):wpAny M A (Builtin.Re.reRunToEnd m) Q E s:=by
 refine wpB (zl7 h j (wpB (zls (c:=λi=>d.seen.has i) (g:=λi=>Sre.names.getD i "") _ ?_)));cases f:d.outcome with
 | none=>rw[f] at a;cases a
 | some o=>
  rw[f] at a;cases o with
  | matched=>cases a;exact zpR e
  | failed=>cases a;exact zpR e
  | stuck w=>cases a
end
structure zcW (X:Wd) (a:Addr):Prop where
 ex:∃p q v0 v1 v3 v4 n sl,X.kk.get? a=some {cls:=.type "builtin_function_or_method",data:=.fields #[.builtin "re.Pattern.search",.ref p]}/\X.kk.get? p=some {cls:=.type "re.Pattern",data:=.fields #[v0,v1,.int 0 0,v3,v4,.ref q,.int 0 0]}/\
  X.kk.get? q=some {cls:=.type "tuple",data:=.seq (findCode.map λi=>.int (i:Nat) 0) n,slots:=sl}
theorem sig_find:(Manifest.signature? "re.Pattern.search").isSome=true:=by decide +kernel
theorem zkd:builtinKind "re.Pattern.search"=some .method:=by decide +kernel
theorem zk4:Manifest.varargsMethods.contains "re.Pattern.search"=false:=by decide +kernel
theorem zkS (p:Addr) (x:Str) (t:Tok):Bind.checkArgs "re.Pattern.search" {(Manifest.signature? "re.Pattern.search").get sig_find with full:=s!"{Bind.lastOf "re.Pattern"}.{Bind.lastOf "re.Pattern.search"}"} ⟨[.ref p,.str x t],[]⟩=pure ():=by kernel_rfl
theorem ziF (x:Str) (t:Tok):Builtin.Re.reNamed "re.Pattern.search" "search" ["string","pos","endpos"] 1 [.str x t] []=pure [some (.str x t),none,none]:=by kernel_rfl
theorem zjG:isSubtype (.type "re.Pattern") (.type "module")=pure false:=by rw[zqD];kernel_rfl
theorem ziZ:entryFor table "re.Pattern.search"=some Builtin.«re.Pattern.search»:=entryFor_of_tree ∅
section
theorem zi9 {M:Model}{p:Addr}{o:Obj}(a:s.heap.get? p=some o) (c:o.cls=.type "re.Pattern"){vs:Array Value}(hd:o.data=.fields vs){x:Str}{t:Tok}{Q:Unit->Shared->Prop}(h:Q () s):wpAny M A (checkBoundCall "re.Pattern.search" ⟨[.ref p,.str x t],[]⟩) Q E s:=by
 have e:s.TypeIs (.ref p) "re.Pattern":=⟨_,a,c⟩;have b:Manifest.signature? "re.Pattern.search"=some ((Manifest.signature? "re.Pattern.search").get sig_find):=(Option.some_get sig_find).symm;have f:=zkS p x t;generalize (Manifest.signature? "re.Pattern.search").get sig_find=i at b f;unfold checkBoundCall;rw[b,zkd];refine zpQ (wpAny_isInstance e zjG ?_);rw[zk4];rw[if_neg (by ext)];obtain⟨j,g,d,tk,k⟩:=s
 repeat (first|with_reducible refine wpAny_loadPart_at a ?_|wp_step)
 exact h
theorem zgI {M:Model}{p q:Addr}{a b c d:Value}{n:Nat}{sl:Array (Option Value)}(f:s.heap.get? p=some {cls:=.type "re.Pattern",data:=.fields #[a,b,.int 0 0,c,d,.ref q,.int 0 0]}) (g:s.heap.get? q=some {cls:=.type "tuple",data:=.seq (findCode.map λi=>.int (i:Nat) 0) n,slots:=sl})
  {x:Str}{t:Tok}(l:x.cps.size<=2 ^ 24){Q:Builtin.Re.ReTarget->Shared->Prop}(h:Q {pattern:=.ref p,string:=.str x t,code:=findCode,text:=x.cps,kind:=0,groups:=0,pos:=0,lim:=x.cps.size} s):wpAny M A (Builtin.Re.reTarget "re.Pattern.search" "search" ⟨[.ref p,.str x t],[]⟩) Q E s:=by
 unfold Builtin.Re.reTarget;dsimp only;rw[ziF];refine wpB (zpR (wpB (zpR (wpB (zpR ?_)))));refine wpB (wpB (zq9 f (zpR ?_)));refine wpB (wpB (zpR (zpR ?_)));rw[if_neg (by ext),if_neg (by ext)];unfold Builtin.Re.reNoCollectionInside;rw[if_neg (by simp)];refine wpB (zpR ?_);unfold Builtin.Re.reRawItems;refine wpB (wpB (wpB (zq9 g (zpR (zpR (zpR ?_))))));have j:(Array.map (λ(x:Int)=>x.toNat) (Array.map Builtin.Re.reRawOf (Array.map (λi:Nat=>Value.int (i:Int) 0) findCode)))=findCode:=by decide +kernel
 have k:min ((2:Int) ^ 63 - 1).toNat x.cps.size=x.cps.size:=by
  have:((2:Int) ^ 63 - 1).toNat=2 ^ 63 - 1:=by decide
  lia
 have e:({pattern:=Value.ref p,string:=Value.str x t,code:=Array.map (λ(x:Int)=>x.toNat) (Array.map Builtin.Re.reRawOf (Array.map (λi:Nat=>Value.int (i:Int) 0) findCode)),text:=x.cps,kind:=0,groups:=0,pos:=min (Int.toNat 0) x.cps.size,lim:=min ((2:Int) ^ 63 - 1).toNat x.cps.size}:Builtin.Re.ReTarget) =
   {pattern:=.ref p,string:=.str x t,code:=findCode,text:=x.cps,kind:=0,groups:=0,pos:=0,lim:=x.cps.size}:=by
  rw[j,k];have:min (Int.toNat 0) x.cps.size=0:=by simp
  rw[this]
 rw[<-e] at h;exact h
end
noncomputable def quoteD (w:Str) (b:Bool):Str:=if w.length=0 then "''" else if b then "'"++Txt.replace w "'" "'\"'\"'"++"'" else w
section
variable {a:Addr}{o o':Own}{pre post:List (Addr×Own)}
theorem Loc.own_set (l:Loc X A env mu c s) (h:c.own=pre++(a,o)::post) (f:Own.ads (a,o)=[a]) (i:Own.ads (a,o')=[a]) (w:a∈fr){h':Heap}{t:Nat}(j:Heap.SameBut a s.heap h') (F:s.toks<=t) (K:zR h' mu a o') :
  AftL X A fr s {s with heap:=h',toks:=t}/\Loc X A env mu {c with own:=pre++(a,o')::post} {s with heap:=h',toks:=t}:=by
 have k:(a,o)∈c.own:=by rw[h];simp
 have x:a∈owns c.own:=zu k (by rw[f];simp);obtain⟨M,N,G,O,P,H⟩:=l.ownMu a x;have d:owns (pre++(a,o')::post)=owns c.own:=by rw[h];simp[owns,f,i]
 have g:∀b o,b≠a->s.heap.get? b=some o->h'.get? b=some o:=λb o q e=>(j.2 b q).trans e;have z:Keep (fsOf A) mu s.heap h':=.sameBut j M;refine⟨⟨.sameBut j (zpx _ w),rfl,id,by show _<=h'.objs.size;rw[j.1];exact zpB _,F,λo e=>⟨o,g _ _ (Ne.symm G) e⟩⟩,⟨λb o e=>g b o (λq=>by rw[q,P] at e;cases e) (l.stay b o e),l.tbm,λb m=>by show b<h'.objs.size;rw[j.1];exact l.low b m,l.ltb,?_,λy d' e=>?_,λy b e=>⟨(l.cis y b e).1,let ⟨n,o,ho,rr⟩:=(l.cis y b e).2;⟨n,o,g b o (λq=>H y b e q.symm) ho,rr⟩⟩,⟨zpM l.tk.tk F,let ⟨o,e⟩:=l.tk.tb;⟨o,g _ _ (Ne.symm G) e⟩⟩,?_,λp B=>?_,?_,?_⟩⟩
 .obtain⟨m,⟨o,es,C,ho,hr⟩,hl⟩:=l.ns;refine⟨m,⟨o,es,C,g _ _ (Ne.symm O) ho,hr⟩,λy d' e=>?_⟩;obtain⟨n,Q,R⟩:=hl y d' e;exact⟨n,Q,R.keep z l.tbm.fs⟩
 .obtain⟨b,n,f,i,⟨o,ho,hr⟩,h4⟩:=l.cell y d' e;exact⟨b,n,f,i,⟨o,g b o (λq=>H y b f q.symm) ho,hr⟩,h4.keep z l.tbm.fs⟩
 .obtain⟨fl,f,i⟩:=l.frs;refine⟨fl,f,λI J=>?_⟩;obtain⟨q1,L,o,es,C,q2,S,T,U,V⟩:=i I J;refine⟨q1,L,o,es,C,q2,S,T,g L o (λq=>N ?_) U,V⟩;unfold fsOf;rw[f];exact zp5.mpr ⟨I,J,q▸q2⟩
 .have other:∀p∈c.own,(∀b∈Own.ads p,b≠a)->zR h' mu p.1 p.2:=λp B r=>(l.own p B).keep z l.tbm.fs λb D W e=>g b W (r b D) e;have v:=l.ownNd;rw[h] at v;simp only [owns,List.flatMap_append,List.flatMap_cons,f] at v;have E:p∈pre++(a,o')::post:=B;rcases zpE.mp E with hq|hq
  .refine other p (by rw[h];exact zpC _ hq) λb r q=>?_;subst q;exact(List.nodup_append.mp v).2.2 b (List.mem_flatMap.mpr ⟨p,hq,r⟩) b (by simp) rfl
  .refine memK hq ?_ λu=>?_
   .exact K
   .refine other p (by rw[h];exact zpw _ (zpx _ u)) λb r q=>?_;subst q;have:=(List.nodup_append.mp v).2.1;rw[List.singleton_append,List.nodup_cons] at this;exact this.1 (zqm.mpr ⟨p,u,r⟩)
 .show (owns (pre++(a,o')::post)).Nodup;rw[d];exact l.ownNd
 .show ∀b∈owns (pre++(a,o')::post),_;rw[d];exact l.ownMu
end
section
variable {a:Addr}{pre post:List (Addr×Own)}{ys:List PyData}
theorem zlz (l:Loc X A env mu c s) (f:(a,Own.lst ys)∈c.own):s.TypeIs (.ref a) "list"/\∀b,Value.ref a=.ref b->∃d,s.heap.get? b=some d/\d.dict=none:=by
 obtain⟨vs,n,e,_⟩:=l.own _ f;exact⟨⟨_,e,rfl⟩,λb q=>by cases q;exact⟨_,e,rfl⟩⟩
theorem zcl (S:Stat X env sc) (O:X.Ok) (l:Loc X A env mu c s){x m:Str}{id:String}{xp ap p:Pos}{es:List Expr}{ds:List PyData}(r:sc.names.lookup x=some .local) (hd:(x==("__debug__":Str))=false) (t:c.loc.lookup x=some (ptr a)) (u:(a,Own.lst ys)∈c.own)
  (d:Slot "list" m id) (n:typeOf (.builtin id)=pure (.type "method_descriptor")) (w:(ap.endLine==p.line)=true) (o:es.all plainArg=true) (y:es.length=ds.length) (z:es.length<29) (e:∀s',Aft X A s s'->Evs X A env mu p es ds s')
  {E:VP}{Q:VP}(h:∀vs s',Aft X A s s'->Rds s'.heap mu vs ds->wpAny X.M A (call (.builtin id) (.ref a::vs)) Q E s'):wpAny X.M A (eval (.Call (.Attribute (.Name x xp) m ap) es [] p) env) Q E s:=by
 refine wpAny_Call_method (zab ⋯) ?_ w F.plainAttrs_list d n (zf S l r hd t _ _ λv f b g=>?_)
 .rw [zbu o];have:es.length+([]:List Keyword).length+0<30:=by simp;sleep 8
  show (true&&true&&decide (es.length+([]:List Keyword).length+0<30))=true;rw[zqk this];rfl
 .cases g;have q:=zlz (l.aft O b) u;refine⟨q.1,q.2,zy O (ds:=ds) (.builtin id) (zH O l.frs b l.stay) (l.frs.aft b) o y (e f b) λvs i j k=>h vs i (b.trans j) k⟩
theorem zan (F:Frm X A env sc mu fr) (O:X.Ok){x:Str}{xp ap p p':Pos}{e:Expr}{d:PyData}(C:sc.names.lookup x=some .local) (hd:(x==("__debug__":Str))=false) (D:c.loc.lookup x=some (ptr a)) (v:c.own=pre++(a,.lst ys)::post) (k:a∈fr) (G:(ap.endLine==p.line)=true)
  (w:plainArg e=true) (m:ys.length<=sizeLine) (H:∀s,Loc X A env mu c s->Ev X A env mu e d s):St1 X A env mu fr c (.Expr (.Call (.Attribute (.Name x xp) "append" ap) [e] [] p) p') .next {c with own:=pre++(a,.lst (ys++[d]))::post}:=λs l E Q h _=>by
 have o:(a,Own.lst ys)∈c.own:=by rw[v];simp
 refine wpAny_Expr ?_ (by unfold interactive;rw[F.scope,F.kind];rfl) (zC ⋯);refine zcl F.toStat O l C hd D o slot_list_append PySem.F.type_list_append G (by simp [w]) (ds:=[d]) rfl (by simp) (λg i=>zc l.tbm w (H g (l.aft O i)) λ_ _=>evs_nil) λvs b f j=>?_;cases j with|cons r I=>
 cases I;have l₂:=l.aft O f;obtain⟨us,n,J,y⟩:=l₂.own _ o;refine wpAny_list_append_plain (items:=us.toArray) ⟨n,J⟩ (λh' q z=>?_) (by rw[zqp,y.length];exact m);have u:=(l₂.ownMu a (zu o (by first|rfl|simp[Own.ads]))).1;obtain⟨K,L⟩:=q;have B:Keep (fsOf A) mu b.heap h':=.sameBut z u;obtain⟨q1,q2⟩:=l₂.own_set (o':=.lst (ys++[d])) (t:=b.toks) v (by first|rfl|simp[Own.ads]) (by first|rfl|simp[Own.ads]) k z (Nat.le_refl _) ⟨us++[_],K,by rw[L];simp[lst],(y.keep B l.tbm.fs).append (.cons (r.keep B l.tbm.fs) .nil)⟩;exact h _ _ (f.toL.trans q1) q2 rfl
end
section
variable {mu fr mu0:LA}{c c1:Ctx}{n:Nat}
def EvN (X:Wd) (A:Around) (env:Env) (mu:LA) (e:Expr) (ys:List PyData) (s:Shared):Prop:=
 ∀(E:VP) (Q:VP),(∀b s',Aft X A s s'->hz s<=b->(∃vs n,s'.heap.get? b=some (lst vs n)/\Rds s'.heap ([b]++mu) vs ys)->Q (.ref b) s')->wpAny X.M A (eval e env) Q E s
theorem zbG {es:List Expr}{p:Pos}{ds:List PyData}(e:Evs X A env mu p es ds s) (z:ds.length<=sizeLine):EvN X A env mu (.List es p) ds s:=λE Q h=>
 List_ (e _ _ λvs s' a r=>zp8 (h _ _ (a.trans (.push _)) a.size ⟨vs,0,zpG _ rfl,(r.low (new:=[s'.heap.objs.size]) λy q=>by rw[zqP.mp q];exact zpB _).push _⟩) (by show vs.toArray.size<=sizeLine;rw[zqp,r.length];exact z))
def StF (X:Wd) (A:Around) (env:Env) (mu fr mu0:LA) (c:Ctx) (ss:List Stmt) (f:Fl):Prop:=∀s,Loc X A env mu c s->∀(E:VP) (Q:Flow->Shared->Prop),
 (∀f' s',AftL X A fr s s'->FlIs mu0 s'.heap f f'->Q f' s')->(∀v s',AftL X A fr s s'->Frs X A s'.heap->X.kk.StaysIn s'.heap->ExIs s.heap mu0 env.locals s'.heap f v->E v s')->wpAny X.M A (execs ss env) Q E s
theorem zP.ofF {f:Fl}{ps:List Str}{ds:List PyData}{body:List Stmt}(h:∀(b:Around) (env:Env) (mu' fr':LA),Rm n b->b.handled=A.handled->InFn b env->Frm X b env sc mu' fr'->(∀y,sc.names.lookup y=some .cell->∃a,zW X b env fr' y a)->StF X b env mu' fr' mu' (startC sc ps ds) body f):zP X A n sc ps ds body f:=
 λb env mu' fr' R c d F C s l E Q e g=>h b env mu' fr' R c d F C s l E Q e g
theorem zeb {f:Fl}{i:List Stmt}(h:StX X A env mu fr c i f) (j:∀b∈mu0,b∈mu):StF X A env mu fr mu0 c i f:=λs l E Q n o=>by
 obtain⟨c',h⟩:=h;refine h s l E Q (λp s' a l' k=>n p s' a ?_) λv s' a l' m=>o v s' a l'.frs l'.stay ?_
 .cases f with
  | ret d=>obtain⟨v,rfl,r⟩:=k;exact⟨v,rfl,r.sub j⟩
  | _=>exact k
 .cases f with
  | exc cls ds=>obtain⟨e,rfl,g⟩:=m;exact⟨e,rfl,g.sub j⟩
  | _=>exact m
theorem zL {f:Fl}{st:Stmt}{i:List Stmt}(j:St1 X A env mu fr c st .next c1) (k:StF X A env mu fr mu0 c1 i f):StF X A env mu fr mu0 c (st::i) f:=λs l E Q m n=>
 zpT (j s l E _ (λo s' b l' p=>by
  cases (show o=.next from p);exact k s' l' E Q (λd a e g=>m d a (b.trans e) g) λv a e q1 q2 h=>n v a (b.trans e) q1 q2 (h.after b)) λv s' _ _ h=>False.elim h)
theorem zdd (F:Frm X A env sc mu fr) (O:X.Ok){f:Fl}{x:Str}{xp p:Pos}{e:Expr}{ys:List PyData}{H:List Stmt}(J:sc.names.lookup x=some .local) (K:zah e=true) (L:∀s,Loc X A env mu c s->EvN X A env mu e ys s) (V:∀b∈mu0,b∈mu)
  (h:∀b,b∉mu->Frm X A env sc (b::mu) (b::fr)->StF X A env (b::mu) (b::fr) mu0 {c.set x (ptr b) with own:=(b,.lst ys)::c.own} H f):StF X A env mu fr mu0 c (.Assign [.Name x xp] e p::H) f:=λs l E Q M N=>by
 refine zpT (wpAny_Assign_Name (L s l _ _ λb i d B o=>?_) (zC K));obtain⟨vs,m,I,P⟩:=o;have C:=zpI I;have a:Loc X A env ([b]++mu) c i:=l.grow O d λy q=>by rw[zqP.mp q];exact⟨B,C⟩
 have j:Frm X A env sc ([b]++mu) ([b]++fr):=F.grow [b];have ap:Apart X A env (owns c.own) [b]:=Apart.fresh l λy q=>by rw[zqP.mp q];exact B
 have D:b∉mu:=λq=>absurd (l.low b q) (zpO.mpr B);have l₂:Loc X A env ([b]++mu) {c with own:=(b,.lst ys)::c.own} i:=by
  refine⟨a.stay,a.tbm,a.low,a.ltb,a.ns,a.cell,a.cis,a.tk,a.frs,λq G=>?_,?_,λy r=>?_⟩
  .refine memK G ?_ λG=>?_
   .exact ⟨vs,m,I,P⟩
   .exact a.own q G
  .show (owns ((b,Own.lst ys)::c.own)).Nodup;simp only [owns,List.flatMap_cons,Own.ads];exact List.nodup_cons.mpr ⟨λw=>ap.own b (by simp) w,l.ownNd⟩
  .have r:y∈b::owns c.own:=by simpa [owns,Own.ads] using r
   refine memK r ?_ λr=>?_
   .exact ⟨by simp,ap.fs _ (by simp),λw=>ap.tb (by simp[w]),λw=>ap.loc (by simp[w]),ap.kk _ (by simp),λz w hz R=>ap.cel _ (by simp) z w hz R⟩
   .exact a.ownMu y r
 refine zq j l₂ J (.ptr b) λg k t=>?_;have n:∀{s':Shared},AftL X A (b::fr) g s'->AftL X A fr s s':=λu=>((d.toL.trans k).trans u).fresh λy m=>by
  refine memK m ?_ λm=>?_
  .exact .inr (zpK B)
  .exact .inl m
 exact h b D j g t E Q (λS s' u T=>M S s' (n u) T) λv s' u q1 q2 U=>N v s' (n u) q1 q2 (U.after (d.toL.trans k:AftL X A ([b]++fr) s g))
end
section
variable {mu mu' fr mu0:LA}{c c':Ctx}{b:Addr}{pre post:List (Addr×Own)}{ys:List PyData}
theorem zhL {f:Fl}{a:List Stmt}(b:∀s,Loc X A env mu c s->Loc X A env mu' c' s) (h:StF X A env mu' fr mu0 c' a f):StF X A env mu fr mu0 c a f:=λs l E Q d e=>h s (b s l) E Q d e
theorem Loc.freeze (l:Loc X A env mu c s) (k:c.own=pre++(b,.lst ys)::post){x:Str}(t:c.loc.lookup x=some (ptr b)) (o:∀y∈mu',y∈mu) (u:b∉mu') (w:Mu X A mu') (z:∀y∈owns (pre++post),y∈mu') :
  Loc X A env mu' {loc:=setL c.loc x (.list ys),cel:=c.cel,own:=pre++post} s:=by
 have j:(b,Own.lst ys)∈c.own:=by rw[k];simp
 have g:∀p∈pre++post,p∈c.own:=λp f=>by
  rw[k];rcases zpE.mp f with f|f
  .exact zpC _ f
  .exact zpw _ (zpx _ f)
 have l':Loc X A env mu {c with own:=pre++post} s:=by
  refine⟨l.stay,l.tbm,l.low,l.ltb,l.ns,l.cell,l.cis,l.tk,l.frs,λp f=>l.own p (g p f),?_,λy i=>l.ownMu y ?_⟩
  .have nd:=l.ownNd;rw[k] at nd;refine nd.sublist ?_;show (owns (pre++post)).Sublist (owns (pre++(b,Own.lst ys)::post));unfold owns;rw[zqB,zqB,List.flatMap_cons];exact List.Sublist.append (List.Sublist.refl _) (List.sublist_append_right _ _)
  .obtain⟨p,f,i⟩:=zqm.mp i;exact zu (g p f) i
 have a:=l'.mu_less o w z;obtain⟨vs,n,e,B⟩:=l.own _ j;refine⟨a.stay,a.tbm,a.low,a.ltb,?_,a.cell,a.cis,a.tk,a.frs,a.own,a.ownNd,a.ownMu⟩;obtain⟨m,C,h⟩:=l.ns;refine⟨m,C,λy d hd=>?_⟩;have hd:(setL c.loc x (.list ys)).lookup y=some d:=hd;rw[zk] at hd
 by_cases i:y=x
 .rw [if_pos i] at hd;cases hd;subst i;obtain⟨v,q,r⟩:=h y _ t;obtain rfl:=r.ptrE;exact⟨_,q,.list u e (B.sub o)⟩
 .rw [if_neg i] at hd;obtain⟨v,q,r⟩:=h y d hd;exact⟨v,q,r.sub o⟩
theorem zam {f:Fl}{a:List Stmt}(d:c.own=pre++(b,.lst ys)::post){x:Str}(e:c.loc.lookup x=some (ptr b)) (g:∀y∈mu',y∈mu) (i:b∉mu') (j:Mu X A mu') (k:∀y∈owns (pre++post),y∈mu')
  (h:StF X A env mu' fr mu0 {loc:=setL c.loc x (.list ys),cel:=c.cel,own:=pre++post} a f):StF X A env mu fr mu0 c a f:=zhL (λs l=>l.freeze d e g i j k) h
end
section
variable {n:Nat}
theorem zdj (F:Frm X A env sc mu fr) (O:X.Ok){x:Str}{a:Addr}{xp p:Pos}{e:Expr}{d:PyData}(k:sc.names.lookup x=some .cell) (C:zW X A env fr x a) (m:zah e=true) (n:∀s,Loc X A env mu c s->Ev X A env mu e d s) :
  St1 X A env mu fr c (.Assign [.Name x xp] e p) .next (c.setC x d):=λs l E Q h _=>
 wpAny_Assign_Name (n s l _ _ λv i b f=>zea F (l.aft O b) k C f λj g l₂=>h _ _ (b.toL.trans g) l₂ rfl) (zC m)
theorem zaW {b:Expr}{a:List Comprehension}{scope:Scope}{pos xp:Pos}{x:Str}{c:Nat}(S:Stat X env sc) (d:sc.names.lookup x=some .local) (e:(xp.line==pos.line)=true) (f:(scope.names.any λ(n,k)=>n==x&&(k == .local||k == .cell))=false) :
  swapsWith (.ListComp b a scope pos) (some (.Name x xp)) c env=pure true:=by
 have g:env.kindOf x=some .local:=by unfold Env.kindOf;rw[S.scope];exact d
 show (pure (env.blockKind == .function&&env.kindOf x==some .local&&xp.line==pos.line && !(scope.names.any λ(n,k)=>n==x&&(k == .local||k == .cell))):Sem Bool)=pure true;rw[g,e,f];have h:env.blockKind=.function:=by unfold Env.blockKind;rw[S.scope,S.kind];rfl
 rw[h];rfl
theorem zcF (S:Stat X env sc) (O:X.Ok) (B:Blt X) (l:Loc X A env mu c s){b p:Pos}{e:Expr}{xs:List PyData}(d:sc.names.lookup ("len":Str)=some .globalImplicit) (a:plainArg e=true) (g:xs.length<=1000000) (f:Ev X A env mu e (.list xs) s) :
  Ev X A env mu (.Call (.Name "len" b) [e] [] p) (.int (xs.length:Nat)) s:=zU S O l d (by ext) B.len (.builtin _) (by simp[a]) (ds:=[.list xs]) rfl (zc l.tbm a f λ_ _=>evs_nil) (zex (by sleep 126))
noncomputable def zjS (scope:Scope) (c:Ctx):Bool:=
 (scope.kind == .function)&&(scope.names.all λp=>p.2 != .local||scope.names.lookup p.1==some .local)&&decide ((scope.names.filter λp=>p.2 == .cell).length<=1)&&(scope.names.all λp=>p.2 != .free||(c.cel.map (·.1)).contains p.1)&&(scope.names.all λp=>p.2 != .cell || !(scope.names.contains (p.1,NameKind.free)))
theorem zbk {b:Type}{x:Str}:∀{l:List (Str×b)},(l.map (·.1)).contains x=true->(l.lookup x).isSome=true
 | [],h=>by simp at h
 | (y,v)::r,h=>by
  rw[List.lookup]
  by_cases a:x=y
  .subst a;simp
  .rw [zpH.mpr a];rw[List.map_cons,List.contains_cons,zpH.mpr a,Bool.false_or] at h;exact zbk h
theorem ScOk.of {scope:Scope}(h:zjS scope c=true):ScOk scope c:=by
 unfold zjS at h;simp only [Bool.and_eq_true] at h;obtain⟨⟨⟨⟨i,j⟩,d⟩,k⟩,m⟩:=h;refine⟨by simpa using i,λx b e=>?_,λx y b n=>?_,λx b e=>?_,λx b=>?_⟩
 .have:=zqb.mp j x b;rw[e] at this;simpa using this
 .have d:=zqj d;have f:(x,NameKind.cell)∈scope.names.filter λp=>p.2 == .cell:=zqg.mpr ⟨b,rfl⟩;have g:(y,NameKind.cell)∈scope.names.filter λp=>p.2 == .cell:=zqg.mpr ⟨n,rfl⟩;generalize (scope.names.filter λp=>p.2 == .cell)=l at d f g;cases l with
  | nil=>cases f
  | cons p l=>cases l with
   | nil=>
    have q1:=zqP.mp f;have q2:=zqP.mp g;rw[<-q2] at q1;exact(Prod.mk.inj q1).1
   | cons a l=>exact absurd (Nat.le_of_succ_le_succ d) (Nat.not_succ_le_zero _)
 .have:=zqb.mp k x b;rw[e] at this;exact zbk (by simpa using this)
 .have:=zqb.mp m (x,.cell) b;simpa using this
theorem zfd {a:Type}{xs:List a}{k:Nat}(h:k<=xs.length):cutL xs none (some (k:Int))=xs.take k:=by
 have:clipAt xs.length (k:Int)=k:=zcK (by sleep 0);simp[cutL,cutLo,cutHi,this]
theorem zmV {d:PyData}:∀{xs:List PyData},d∈xs->dep d<=deps xs
 | x::r,h=>by
  rw[deps];refine memK h ?_ λh=>?_
  .exact Nat.le_max_left _ _
  .exact zpF (zmV h) (Nat.le_max_right _ _)
theorem zdQ {k:Nat}:∀{xs:List PyData},(∀d∈xs,dep d<=k)->deps xs<=k
 | [],_=>by rw[deps];exact zqy _
 | x::r,h=>by
  rw[deps];exact Nat.max_le.mpr ⟨h x zpP,zdQ λd m=>h d (zpx _ m)⟩
theorem zaa:∀{xs:List PyData},PyData.canLayAll0 xs=true↔∀d∈xs,d.canLay0=true
 | []=>by simp[PyData.canLayAll0]
 | x::r=>by
  have a:PyData.canLayAll0 (x::r)=(x.canLay0&&PyData.canLayAll0 r):=rfl;rw[a,Bool.and_eq_true,zaa];simp
theorem zlW {xs ys:List PyData}(h:good (.list xs)=true) (b:∀d∈ys,d∈xs):good (.list ys)=true:=by
 obtain⟨a,c⟩:=zl.mp h;have a:PyData.canLayAll0 xs=true:=a;rw[zaa] at a;have c:deps xs+1<40:=c;refine zl.mpr ⟨?_,?_⟩
 .show PyData.canLayAll0 ys=true;exact zaa.mpr λd m=>a d (b d m)
 .show deps ys+1<40;have:=zdQ (k:=deps xs) (xs:=ys) λd m=>zmV (b d m);sleep 118
noncomputable def onceY (xs:List PyData):List (List PyData):=(List.range xs.length).map λk=>match xs[k]? with
 | some d=>if (xs.take k).any (λy=>PyData.eqv y d) then [] else [d]
 | none=>[]
noncomputable def unlikeY (f g:List PyData) (xs:List PyData):List (List PyData):=xs.map λd=>if f.countP (λy=>PyData.eqv y d)=g.countP (λy=>PyData.eqv y d) then [] else [.tuple [.int (f.countP λy=>PyData.eqv y d:Nat),.int (g.countP λy=>PyData.eqv y d:Nat),d]]
noncomputable def zgC (f g:List PyData):List PyData:=(unlikeY f g (onceY (f++g)).flatten).flatten
theorem zbs {xs:List PyData}:(onceY xs).length=xs.length:=by simp[onceY]
theorem ze2 {a:Type}{k:Nat}:∀{l:List (List a)},(∀y∈l,y.length<=k)->l.flatten.length<=k * l.length
 | [],_=>by simp
 | y::l,h=>by
  have:=ze2 (l:=l) λz m=>h z (zpx _ m);have b:=h y zpP;rw[List.flatten_cons,zqq,zq4,Nat.mul_add];sleep 103
theorem zhY {xs:List PyData}:(onceY xs).flatten.length<=xs.length:=by
 have:=ze2 (k:=1) (l:=onceY xs) λy m=>by
  obtain⟨k,_,rfl⟩:=zqa.mp m
  split
  .split<;>simp
  .simp
 rwa[zbs,Nat.one_mul] at this
theorem zkt {a b:Int}:PyData.eqv (.int a) (.int b)=(a==b):=by first|rfl|simp[PyData.eqv]
theorem zaO (O:X.Ok) (R:Rm n A) (l:Loc X A env mu c s){o e:Expr}{xs:List PyData}{d:PyData}{ap p:Pos}(f:plainBase o=true) (g:(ap.endLine==p.line)=true) (b:plainArg e=true) (g1:good (.list xs)=true) (h:good d=true) (i:Ev X A env mu o (.list xs) s) (j:∀s',Aft X A s s'->Ev X A env mu e d s') :
  Ev X A env mu (.Call (.Attribute o "count" ap) [e] [] p) (.int (xs.countP λy=>PyData.eqv y d:Nat)) s:=
 zhj O l (d0:=.list xs) (ds:=[d]) F.plainAttrs_list F.slot_list_count F.type_list_count f g (by simp[b]) rfl (by simp) i (λv s' r=>zaI r) (λs' a=>zc l.tbm b (j s' a) λ_ _=>evs_nil) (zid R g1 h)
noncomputable def goods (xs:List PyData):Bool:=xs.all good&&decide (xs.length<=10000)&&good (.list xs)
theorem zhz (O:X.Ok) (B:Blt X) (hA:A.handled=none){f g:List PyData}(hf:good (.list f)=true) (hg:good (.list g)=true) (j:good (.list (f++g))=true) (G:∀d∈f++g,good d=true) (p:(f++g).length<=1000):zba X A n 46 [.list f,.list g] (.ret (.list (zgC f g))):=zP.ofX λA' env mu' fr' R E IF F C=>by
 rw[hA] at E;have N:=λm=>sound (mu:=mu') O B (zai (k:=n)) R E F.toStat m;have hs:sizeLine=2 ^ 24:=rfl;obtain⟨ab,Q⟩:=C "both" ⋯;rw[zqq] at p;show (_:List Stmt->_->Prop) (_::_) _;refine zz F (zdj F O (d:=.list (f++g)) ⋯ Q ⋯ λs l=>?_) ?_
 .exact ev_addList O l.tbm l.low ((N 3).e ⋯ s l) (λs' a=>(N 3).e ⋯ s' (l.aft O a)) (by sleep 36)
 refine zz F (zN F O (ys:=(onceY (f++g)).flatten) ?_ ⋯ (λs l=>za5 F.toStat O E l ⋯ B.range ⋯ (zcF F.toStat O B l ⋯ ⋯ (xs:=f++g) (by rw[zqq];sleep 124) ((N 3).e ⋯ s l)) (by lia) (by rw[zqq];sleep 132)) (λ_=>rfl) (zaW F.toStat ⋯ ⋯ ⋯) ?_) ?_
 .exact .of ⋯
 .refine zaB O (onceY (f++g)) ?_ ?_ λi d ys hd t H D w S T I J=>?_
  .rw [zbs,zx];sleep 88
  .have:=zhY (xs:=f++g);rw[zqq] at this;exact zpF this (zpF p (by ext))
  have c:=λm=>sound (mu:=w) O B (zai (k:=n)) R E I.toStat m;have hi:i<(f++g).length:=by
   have:=(zpJ.mp t).1;rwa[zbs] at this
  have U:d=.int (i:Nat):=by
   rw[zX (by sleep 87)] at hd;cases hd;simp
  subst U;obtain⟨e,P⟩:∃e,(f++g)[i]? = some e:=⟨_,zpN hi⟩;have r:ys=if ((f++g).take i).any (λy=>PyData.eqv y e) then [] else [e]:=by
   unfold onceY at t;rw[zqS,List.getElem?_range (by sleep 0)] at t;simp only [Option.map_some,P] at t;exact(zqr t).symm
  have o:good e=true:=G e (zqd P);have V:good (.list ((f++g).take i))=true:=zlW j λd m=>List.mem_of_mem_take m;have x:=hi;rw[zqq] at x;refine zas I ⋯ ⋯ (b:=!((f++g).take i).any λy=>PyData.eqv y e) (zdc λs acc l=>zQ O l.tbm (a:=e) (b:=.list ((f++g).take i)) (ev_itemList (xs:=f++g) (i:=(i:Nat)) O l.tbm ((c 3).e ⋯ s l) (λs' a=>(c 3).e ⋯ s' (l.aft O a)) ⋯ (by lia) (by sleep 43) (by simpa using P)) (λs' a=>?_) ⋯ λu v s' _ W Y=>zaP R W Y o V) (λj=>?_) (λj=>?_)
  .have l':=l.aft O a;rw[<-zfd (xs:=f++g) (k:=i) (by rw[zqq];sleep 5)];refine zZ O l'.tbm l'.low ((c 3).e ⋯ s' l') (λ_ _=>zay) (λh z=>zY ((c 3).e ⋯ h (l'.aft O z))) (by rw[zqq];sleep 36)
  .have:ys=[e]:=by rw[r,if_neg (by simpa using j)]
   rw[this];exact zaQ O T λs acc l=>ev_itemList (xs:=f++g) (i:=(i:Nat)) O l.tbm ((c 3).e ⋯ s l) (λs' a=>(c 3).e ⋯ s' (l.aft O a)) ⋯ (by lia) (by sleep 43) (by simpa using P)
  .rw [r,if_pos (by simpa using j)]
 refine zaf O λs l=>?_;have Z:∀e∈(onceY (f++g)).flatten,e∈f++g:=λe m=>by
  obtain⟨y,my,K⟩:=List.mem_flatten.mp m;obtain⟨k,_,rfl⟩:=zqa.mp my
  split at K
  .rename_i d hd
   split at K
   .cases K
   .rw [zqP.mp K];exact zqd hd
  .cases K
 refine zb2 F O l (.of ⋯) (xs:=(onceY (f++g)).flatten) ?_ (λ_=>rfl) ?_
 .exact zax O E l.low ((N 3).e ⋯ s l)
 have L:=zhY (xs:=f++g);rw[zqq] at L;have M:(unlikeY f g (onceY (f++g)).flatten).length=(onceY (f++g)).flatten.length:=by rw[zqn]
 refine zaB O (unlikeY f g (onceY (f++g)).flatten) M ?_ λi d ys hd t H D w S T I J=>?_
 .have:=ze2 (k:=1) (l:=unlikeY f g (onceY (f++g)).flatten) λy m=>by
   obtain⟨k,_,rfl⟩:=zqa.mp m
   split<;>simp
  exact zpF this (by rw[Nat.one_mul,M];exact zpF L (zpF p (by ext)))
 have c:=λm=>sound (mu:=w) O B (zai (k:=n)) R E I.toStat m;have o:good d=true:=G d (Z d (zqd hd));have r:ys=if f.countP (λy=>PyData.eqv y d)=g.countP (λy=>PyData.eqv y d) then [] else [.tuple [.int (f.countP λy=>PyData.eqv y d:Nat),.int (g.countP λy=>PyData.eqv y d:Nat),d]]:=by
  unfold unlikeY at t;rw[zqS,hd] at t;exact(zqr t).symm
 refine zas I ⋯ ⋯ (b:=!(PyData.eqv (.int (f.countP λy=>PyData.eqv y d:Nat)) (.int (g.countP λy=>PyData.eqv y d:Nat)))) (zdc λs acc l=>?_) (λj=>?_) (λj=>?_)
 .refine zQ O l.tbm (zaO O R l ⋯ ⋯ ⋯ hf o ((c 3).e ⋯ s l) λs' a=>(c 3).e ⋯ s' (l.aft O a)) (λs' a=>zaO O R (l.aft O a) ⋯ ⋯ ⋯ hg o ((c 3).e ⋯ s' (l.aft O a)) λh z=>(c 3).e ⋯ h ((l.aft O a).aft O z)) ⋯ λu v s' _ W Y=>zoh R W Y ⋯ ⋯
 .have h1:ys=[.tuple [.int (f.countP λy=>PyData.eqv y d:Nat),.int (g.countP λy=>PyData.eqv y d:Nat),d]]:=by
   rw[r,if_neg];intro q;rw[q] at j;simp[PyData.eqv] at j
  rw[h1];refine zaQ O T λs acc l=>zar l.tbm l.low (zc l.tbm ⋯ ?_ λs' a=>zc l.tbm ⋯ ?_ λh z=>zc l.tbm ⋯ ?_ λ_ _=>evs_nil) (by rw[hs];show 3<=_;decide)
  .exact zaO O R l ⋯ ⋯ ⋯ hf o ((c 3).e ⋯ s l) λs' a=>(c 3).e ⋯ s' (l.aft O a)
  .exact zaO O R (l.aft O a) ⋯ ⋯ ⋯ hg o ((c 3).e ⋯ s' (l.aft O a)) λh z=>(c 3).e ⋯ h ((l.aft O a).aft O z)
  .exact (c 3).e ⋯ h ((l.aft O a).aft O z)
 .rw [r,if_pos];have j:(!PyData.eqv (.int (f.countP λy=>PyData.eqv y d:Nat)) (.int (g.countP λy=>PyData.eqv y d:Nat)))=false:=j;rw[zkt] at j;have:((f.countP λy=>PyData.eqv y d:Nat):Int)=(g.countP λy=>PyData.eqv y d:Nat):=by simpa using j
  exact Int.ofNat.inj this
end
open PySem.AutoSeq1 (wpAny_loadPart')
open PySem.MeetsSeq PySem.MeetsSeq2 PySem.MeetsSeq3
noncomputable def ordS:CmpOp->Str->Str->Bool
 | .Lt,x,y=>decide (x.cps.toList<y.cps.toList)
 | .Gt,x,y=>decide (y.cps.toList<x.cps.toList)
 | _,_,_=>false
noncomputable def ordL (op:CmpOp):List Str->List Str->Bool
 | x::xs,y::ys=>if (x==y)=true then ordL op xs ys else ordS op x y
 | _,_=>false
theorem zfF {a:CmpOp}{x y:Str}{xs ys:List Str}:ordL a (x::xs) (y::ys)=if (x==y)=true then ordL a xs ys else ordS a x y:=rfl
theorem zch {xs:List Str}{i:Nat}(h:i<xs.length):xs.drop i=xs.getD i ""::xs.drop (i+1):=by
 rw[zp7 h,List.getD_eq_getElem?_getD,zpN h];rfl
theorem zby {items:Array Value}{i:Nat}{v:Value}(h:i<items.size) (e:items[i]=v):items[((i:Nat):Int).toNat]? = some v:=e▸Array.getElem?_eq_getElem h
theorem zfm {items:Array Value}{i:Nat}(h:items.size<=i):items[((i:Nat):Int).toNat]? = none:=Array.getElem?_eq_none h
theorem zfM (l b:Addr) (items a:Array Value) (n B:Nat) (dd r:Option Addr) (sl v:Array (Option Value)) (xs ys:List Str) (x:items.size=xs.length) (C:a.size=ys.length)
  (D:∀j (h:j<items.size),∃t,items[j]=.str (xs.getD j "") t) (E:∀j (h:j<a.size),∃t,a[j]=.str (ys.getD j "") t) (e:items.size=a.size) (k:Nat) :
  ∀i:Nat,items.size - i=k->Meets (Builtin.«list.__eq__.loop» ⟨[.ref l,.ref b,rawInt i,rawInt 0],[]⟩)
   (λ_ R s=>s.heap.get? l=some {cls:=.type "list",dict:=dd,data:=.seq items n,slots:=sl}/\s.heap.get? b=some {cls:=.type "list",dict:=r,data:=.seq a B,slots:=v}/\
    R (.ok (.ret (.bool (ordL .Lt (xs.drop i) (ys.drop i))))) s):=by
 induction k with
 | zero=>
  intro i q prog w A R s h;have f:=Nat.le_of_sub_eq_zero q;rw[List.drop_eq_nil_of_le (x▸f)] at h;obtain⟨F,g,d,tk,G⟩:=s;obtain⟨m,o,h⟩:=h
  wp_walk using wpAny_loadPart' m,wpAny_loadPart' o
  rw[zfm f,zfm (e▸f)]
  wp_walk using wpAny_loadPart' m,wpAny_loadPart' o
  show R (.ok (.ret (.bool (decide (items.size<a.size))))) _;rw[e,zql (zpZ _)];exact h
 | succ k H=>
  intro i q prog w A R s h;have c:i<items.size:=oB q;obtain⟨t,y⟩:=D i c;obtain⟨u,z⟩:=E i (e▸c);rw[zch (x▸c),zch (xs:=ys) (C▸e▸c),zfF] at h;obtain⟨F,g,d,tk,G⟩:=s;obtain⟨m,o,h⟩:=h
  wp_walk using wpAny_loadPart' m,wpAny_loadPart' o
  rw[zby c y,zby (e▸c) z];refine zpQ (EqAt.str_str _ t _ u prog w _ _ ?_);cases p:xs.getD i ""==ys.getD i "" with
  | true=>
   rw[p,if_pos rfl] at h
   wp_walk
   exact⟨zqJ plain_eq_loop _,zp3 entry_eq_loop (by
    rw[zpV plain_eq_loop _];exact H (i+1) (oA q) prog w A R _ ⟨m,o,h⟩)⟩
  | false=>
   rw[p,if_neg (by ext)] at h
   wp_walk using wpAny_loadPart' m,wpAny_loadPart' o
   rw[zby c y,zby (e▸c) z];refine wpB ?_;refine PyProof.Rows.lt_str ?_
   wp_walk
   exact h
theorem zfN (l b:Addr) (items a:Array Value) (n B:Nat) (dd r:Option Addr) (sl v:Array (Option Value)) (xs ys:List Str) (x:items.size=xs.length) (C:a.size=ys.length)
  (D:∀j (h:j<items.size),∃t,items[j]=.str (xs.getD j "") t) (E:∀j (h:j<a.size),∃t,a[j]=.str (ys.getD j "") t) (e:items.size=a.size) (k:Nat) :
  ∀i:Nat,items.size - i=k->Meets (Builtin.«list.__eq__.loop» ⟨[.ref l,.ref b,rawInt i,rawInt 4],[]⟩)
   (λ_ R s=>s.heap.get? l=some {cls:=.type "list",dict:=dd,data:=.seq items n,slots:=sl}/\s.heap.get? b=some {cls:=.type "list",dict:=r,data:=.seq a B,slots:=v}/\
    R (.ok (.ret (.bool (ordL .Gt (xs.drop i) (ys.drop i))))) s):=by
 induction k with
 | zero=>
  intro i q prog w A R s h;have f:=Nat.le_of_sub_eq_zero q;rw[List.drop_eq_nil_of_le (x▸f)] at h;obtain⟨F,g,d,tk,G⟩:=s;obtain⟨m,o,h⟩:=h
  wp_walk using wpAny_loadPart' m,wpAny_loadPart' o
  rw[zfm f,zfm (e▸f)]
  wp_walk using wpAny_loadPart' m,wpAny_loadPart' o
  show R (.ok (.ret (.bool (decide (items.size>a.size))))) _;rw[e,zql (zpZ _)];exact h
 | succ k H=>
  intro i q prog w A R s h;have c:i<items.size:=oB q;obtain⟨t,y⟩:=D i c;obtain⟨u,z⟩:=E i (e▸c);rw[zch (x▸c),zch (xs:=ys) (C▸e▸c),zfF] at h;obtain⟨F,g,d,tk,G⟩:=s;obtain⟨m,o,h⟩:=h
  wp_walk using wpAny_loadPart' m,wpAny_loadPart' o
  rw[zby c y,zby (e▸c) z];refine zpQ (EqAt.str_str _ t _ u prog w _ _ ?_);cases p:xs.getD i ""==ys.getD i "" with
  | true=>
   rw[p,if_pos rfl] at h
   wp_walk
   exact⟨zqJ plain_eq_loop _,zp3 entry_eq_loop (by
    rw[zpV plain_eq_loop _];exact H (i+1) (oA q) prog w A R _ ⟨m,o,h⟩)⟩
  | false=>
   rw[p,if_neg (by ext)] at h
   wp_walk using wpAny_loadPart' m,wpAny_loadPart' o
   rw[zby c y,zby (e▸c) z];refine wpB ?_;refine PySem.P.gt_str ?_
   wp_walk
   exact h
theorem znQ (l b:Addr) (items a:Array Value) (n i:Nat) (dd c:Option Addr) (sl e:Array (Option Value)) (xs ys:List Str) (o:items.size=xs.length) (p:a.size=ys.length)
  (q:∀j (h:j<items.size),∃t,items[j]=.str (xs.getD j "") t) (r:∀j (h:j<a.size),∃t,a[j]=.str (ys.getD j "") t) (f:items.size=a.size) :
  Meets (Builtin.«list.__lt__» ⟨[.ref l,.ref b],[]⟩)
   (λ_ R s=>s.heap.get? l=some {cls:=.type "list",dict:=dd,data:=.seq items n,slots:=sl}/\s.heap.get? b=some {cls:=.type "list",dict:=c,data:=.seq a i,slots:=e}/\
    R (.ok (.ret (.bool (ordL .Lt xs ys)))) s):=by
 intro prog w A R s h;obtain⟨u,g,d,tk,v⟩:=s;obtain⟨k,m,h⟩:=h;have x:=AutoSeq1.sub_list_list
 wp_walk using wpAny_loadPart' k,wpAny_loadPart' m
 exact⟨zqJ plain_eq_loop _,zp3 entry_eq_loop (by
  rw[zpV plain_eq_loop _];exact zfM l b items a n i dd c sl e xs ys o p q r f _ 0 rfl prog w A R _ ⟨k,m,by simpa using h⟩)⟩
theorem znR (l b:Addr) (items a:Array Value) (n i:Nat) (dd c:Option Addr) (sl e:Array (Option Value)) (xs ys:List Str) (o:items.size=xs.length) (p:a.size=ys.length)
  (q:∀j (h:j<items.size),∃t,items[j]=.str (xs.getD j "") t) (r:∀j (h:j<a.size),∃t,a[j]=.str (ys.getD j "") t) (f:items.size=a.size) :
  Meets (Builtin.«list.__gt__» ⟨[.ref l,.ref b],[]⟩)
   (λ_ R s=>s.heap.get? l=some {cls:=.type "list",dict:=dd,data:=.seq items n,slots:=sl}/\s.heap.get? b=some {cls:=.type "list",dict:=c,data:=.seq a i,slots:=e}/\
    R (.ok (.ret (.bool (ordL .Gt xs ys)))) s):=by
 intro prog w A R s h;obtain⟨u,g,d,tk,v⟩:=s;obtain⟨k,m,h⟩:=h;have x:=AutoSeq1.sub_list_list
 wp_walk using wpAny_loadPart' k,wpAny_loadPart' m
 exact⟨zqJ plain_eq_loop _,zp3 entry_eq_loop (by
  rw[zpV plain_eq_loop _];exact zfN l b items a n i dd c sl e xs ys o p q r f _ 0 rfl prog w A R _ ⟨k,m,by simpa using h⟩)⟩
theorem zc6 {h:Heap}{xs:List Str}{vs:List Value}(r:Rds h mu vs (xs.map .str)) (j:Nat) (q:j<vs.toArray.size):∃t,vs.toArray[j]=.str (xs.getD j "") t:=by
 have a:j<xs.length:=by rw[<-zqn (f:=PyData.str),<-r.length];exact zqp▸q
 obtain⟨v,e,b⟩:=r.get (i:=j) (by rw[zqS,zpN a];rfl);obtain⟨t,rfl⟩:=b.strE;refine⟨t,?_⟩;rw[List.getD_eq_getElem?_getD,zpN a];exact(zpJ.mp e).2
section
variable {mu mu':LA}{u v:Value}
theorem isL {d:List PyData}{h:Heap}(r:Rd h mu u (.list d)):zkZ h mu u d:=r.listE
theorem zif {xs ys:List Str}{Q:VP}(e:Rd s.heap mu u (.list (xs.map .str))) (f:Rd s.heap mu' v (.list (ys.map .str))) (i:xs.length=ys.length) (h:Q (.bool (ordL .Lt xs ys)) s):wpAny X.M A (call (.builtin "list.__lt__") [u,v]) Q E s:=by
 obtain⟨a,us,n,rfl,-,e1,r1⟩:=isL e;obtain⟨b,g,k,rfl,-,e2,r2⟩:=isL f;have c:=r1.length;have d:=r2.length;rw[zqn] at c d;exact call_meets F.slot_list_lt ⟨_,e1,rfl⟩ F.entry_list_lt (F.args_list_lt_2 _ _) (znQ a b us.toArray g.toArray _ _ _ _ _ _ xs ys (by simpa using c) (by simpa using d) (zc6 r1) (zc6 r2) (by simp;lia)) ⟨e1,e2,h⟩
theorem zms {xs ys:List Str}{Q:VP}(e:Rd s.heap mu u (.list (xs.map .str))) (f:Rd s.heap mu' v (.list (ys.map .str))) (i:xs.length=ys.length) (h:Q (.bool (ordL .Gt xs ys)) s):wpAny X.M A (call (.builtin "list.__gt__") [u,v]) Q E s:=by
 obtain⟨a,us,n,rfl,-,e1,r1⟩:=isL e;obtain⟨b,g,k,rfl,-,e2,r2⟩:=isL f;have c:=r1.length;have d:=r2.length;rw[zqn] at c d;exact call_meets F.slot_list_gt ⟨_,e1,rfl⟩ F.entry_list_gt (F.args_list_gt_2 _ _) (znR a b us.toArray g.toArray _ _ _ _ _ _ xs ys (by simpa using c) (by simpa using d) (zc6 r1) (zc6 r2) (by simp;lia)) ⟨e1,e2,h⟩
theorem zlv {n:Nat}(R:Rm n A){xs ys:List Str}{Q:VP}(a:Rd s.heap mu u (.list (xs.map .str))) (b:Rd s.heap mu' v (.list (ys.map .str))) (c:xs.length=ys.length) (h:Q (.bool (ordL .Lt xs ys)) s):wpAny X.M A (richCompare .Lt u v) Q E s:=
 wpAny_richCompare_same_room (zaI a).1 (zaI b).1 F.slot_list_lt (zif a b c ⟨(by intro q;cases q),h⟩) (by have:=R.units;sleep 111)
theorem zhT {n:Nat}(R:Rm n A){xs ys:List Str}{Q:VP}(a:Rd s.heap mu u (.list (xs.map .str))) (b:Rd s.heap mu' v (.list (ys.map .str))) (c:xs.length=ys.length) (h:Q (.bool (ordL .Gt xs ys)) s):wpAny X.M A (richCompare .Gt u v) Q E s:=
 wpAny_richCompare_same_room (zaI a).1 (zaI b).1 F.slot_list_gt (zms a b c ⟨(by intro q;cases q),h⟩) (by have:=R.units;sleep 111)
theorem zo3 {n:Nat}(R:Rm n A){xs ys:List Str}(a:Rd s.heap mu u (.list (xs.map .str))) (b:Rd s.heap mu' v (.list (ys.map .str))) (c:xs.length=ys.length):Cm X A .Lt u v (ordL .Lt xs ys) s:=λE Q h=>cmp_ofLt (zlv R a b c (h _ .refl))
theorem zmX {n:Nat}(R:Rm n A){xs ys:List Str}(a:Rd s.heap mu u (.list (xs.map .str))) (b:Rd s.heap mu' v (.list (ys.map .str))) (c:xs.length=ys.length):Cm X A .Gt u v (ordL .Gt xs ys) s:=λE Q h=>cmp_ofGt (zhT R a b c (h _ .refl))
theorem znY {n:Nat}(R:Rm n A){xs ys:List Str}{Q:Bool->Shared->Prop}(a:Rd s.heap mu u (.list (xs.map .str))) (b:Rd s.heap mu' v (.list (ys.map .str))) (c:xs.length=ys.length) (h:Q (ordL .Lt xs ys) s):wpAny X.M A (keyLt' oneType' u v) Q E s:=by
 rw[keyLt'_oneType,oneLt'_eq];rw[if_pos rfl];refine wpB (wpAny_cRoomFor (by have:=R.units;sleep 111) ?_);refine wpB (wpAny_callSpecialIfBound?_slot (zaI a).1 F.slot_list_lt (zif a b c ?_));exact wpAny_truthy_bool h
end
noncomputable def ksRun {α:Type}(lt:Nat->Nat->Bool):KasT α->α
 | .ret a=>a
 | .ask i j k=>ksRun lt (k (lt i j))
theorem za4 {a b:Type}{lt:Nat->Nat->Bool}{f:a->KasT b}(t:KasT a):ksRun lt (t.bind f)=ksRun lt (f (ksRun lt t)):=by
 induction t with
 | ret _=>rfl
 | ask i j k c=>exact c _
structure LtOk (lt:Nat->Nat->Bool):Prop where
 irr:∀a,lt a a=false
 asym:∀{a b},lt a b=true->lt b a=false
 trans:∀{a b c},lt b a=false->lt c b=false->lt c a=false
noncomputable def gA (p:Array Nat) (k:Nat):Nat:=p.getD k 0
theorem zkj {p p':Array Nat}{k a:Nat}(h:p'[k]? = p[a]?):gA p' k=gA p a:=by
 unfold gA;rw[Array.getD_eq_getD_getElem?,Array.getD_eq_getD_getElem?,h]
theorem zeq {p:Array Nat}{i j:Nat}(a:j<=p.size) (k:Nat):gA (kas_rev p i j) k=if i<=k/\k<j then gA p (i+j - 1 - k) else gA p k:=by
 have e:=getElem?_mirror_all (i:=i) a k
 by_cases h:i<=k/\k<j
 .rw [if_pos h] at e ⊢;exact zkj e
 .rw [if_neg h] at e ⊢;exact zkj e
theorem zdH {p:Array Nat}{a d:Nat}(b:a<p.size) (hd:d<=a) (k:Nat):gA (bubble p a d) k=if k=a - d then gA p a else if a - d<k/\k<=a then gA p (k - 1) else gA p k:=by
 have e:=getElem?_bubble b d hd k
 by_cases h:k=a - d
 .rw [if_pos h] at e ⊢;exact zkj e
 .rw [if_neg h] at e ⊢
  by_cases h:a - d<k/\k<=a
  .rw [if_pos h] at e ⊢;exact zkj e
  .rw [if_neg h] at e ⊢;exact zkj e
theorem zm6 {l r:Nat}(h:l<r):l<=(l+r) / 2/\(l+r) / 2<r:=by sleep 96
theorem zm5 {i j k:Nat}(a:i<=k) (b:k<j):i<=i+j - 1 - k/\i+j - 1 - k<j:=by sleep 95
theorem zov {n i j:Nat}(h:i<=j):0+n - 1 - j<=0+n - 1 - i:=Nat.sub_le_sub_left h _
theorem zow {n k:Nat}(a:n+1 - (0+1)<=k) (b:k<n+1):k=n:=Nat.le_antisymm (Nat.le_of_lt_succ b) a
theorem zkT {i j:Nat}(h:i<=j) (a:i≠j):i<=j - 1:=Nat.le_sub_one_of_lt (Nat.lt_of_le_of_ne h a)
theorem zmy {l j k:Nat}(a:l<j) (b:j<=k):l<=j - 1/\j - 1<k:=⟨Nat.le_sub_one_of_lt a,zpM (Nat.sub_lt (Nat.zero_lt_of_lt a) Nat.one_pos) b⟩
theorem zpe {n q k:Nat}(a:n+1 - (q+1+1)<=k):n - (q+1)<=k:=by lia
theorem ar_up {a n f:Nat}(h:a<=n+1+f):a<=n+(f+1):=Nat.succ_add_eq_add_succ n f▸h
theorem zm4 {n f z:Nat}(h:n+(f+1)<=z):n+1+f<=z:=Nat.succ_add_eq_add_succ n f▸h
section
variable {lt:Nat->Nat->Bool}(O:LtOk lt)
def Sor (lt:Nat->Nat->Bool) (p:Array Nat) (m:Nat):Prop:=∀i j,i<=j->j<m->lt (gA p j) (gA p i)=false
def Dec (lt:Nat->Nat->Bool) (p:Array Nat) (m:Nat):Prop:=∀i j,i<=j->j<m->lt (gA p i) (gA p j)=false
include O
theorem Sor.succ {p:Array Nat}{n:Nat}(h:Sor lt p n) (b:1<=n) (e:lt (gA p n) (gA p (n - 1))=false):Sor lt p (n+1):=λi j a c=>by
 by_cases q:j=n
 .rw [q] at a ⊢
  by_cases q2:i=n
  .rw [q2];exact O.irr _
  .exact O.trans (h i (n - 1) (zkT a q2) (Nat.sub_lt b Nat.one_pos)) e
 .exact h i j a (Nat.lt_of_le_of_ne (Nat.le_of_lt_succ c) q)
theorem Dec.succ {p:Array Nat}{n:Nat}(h:Dec lt p n) (b:1<=n) (e:lt (gA p (n - 1)) (gA p n)=false):Dec lt p (n+1):=λi j a c=>by
 by_cases q:j=n
 .rw [q] at a ⊢
  by_cases q2:i=n
  .rw [q2];exact O.irr _
  .exact O.trans e (h i (n - 1) (zkT a q2) (Nat.sub_lt b Nat.one_pos))
 .exact h i j a (Nat.lt_of_le_of_ne (Nat.le_of_lt_succ c) q)
theorem Sor.one {p:Array Nat}:Sor lt p 1:=λi j a b=>by
 have b:=Nat.lt_one_iff.mp b;rw[b] at a ⊢;rw[Nat.le_zero.mp a];exact O.irr _
theorem Dec.one {p:Array Nat}:Dec lt p 1:=λi j a b=>by
 have b:=Nat.lt_one_iff.mp b;rw[b] at a ⊢;rw[Nat.le_zero.mp a];exact O.irr _
structure Asc (lt:Nat->Nat->Bool) (p:Array Nat) (n f r:Nat):Prop where
 sor:Sor lt p r
 ge:n<=r
 le:r<=n+f
 stop:r<n+f->lt (gA p r) (gA p (r - 1))=true
theorem zm3 {p:Array Nat}(f:Nat):∀n:Nat,1<=n->Sor lt p n->Asc lt p n f (ksRun lt (kas_asc p f n)):=by
 induction f with
 | zero=>exact λn _ h=>⟨h,zpB _,zpB _,λq=>absurd q (zpZ _)⟩
 | succ f a=>
  intro n b h;have e:ksRun lt (kas_asc p (f+1) n)=ksRun lt (if lt (gA p n) (gA p (n - 1))=true then KasT.ret n else kas_asc p f (n+1)):=rfl;rw[e]
  by_cases c:lt (gA p n) (gA p (n - 1))=true
  .rw [if_pos c];exact⟨h,zpB _,zqu _ _,λ_=>c⟩
  .rw [if_neg c];have I:=a (n+1) (Nat.succ_pos _) (h.succ O b (zqR.mpr c));exact⟨I.sor,zqE I.ge,ar_up I.le,λq=>I.stop (Nat.succ_add_eq_add_succ n f▸q)⟩
def Eqv (lt:Nat->Nat->Bool) (a b:Nat):Prop:=lt a b=false/\lt b a=false
theorem Eqv.tr {a b c:Nat}(x:Eqv lt a b) (y:Eqv lt b c):Eqv lt a c:=⟨O.trans y.1 x.1,O.trans x.2 y.2⟩
theorem Dec.eqv {p p':Array Nat}{m:Nat}(h:Dec lt p m) (e:∀k,Eqv lt (gA p' k) (gA p k)):Dec lt p' m:=λi j a b=>
 O.trans (O.trans (e j).2 (h i j a b)) (e i).1
structure DInv (lt:Nat->Nat->Bool) (p0:Array Nat) (r:Array Nat×Nat×Nat):Prop where
 perm:r.1.Perm p0
 dec:Dec lt r.1 r.2.1
 q:r.2.2+1<=r.2.1
 eq:∀k,r.2.1 - (r.2.2+1)<=k->k<r.2.1->Eqv lt (gA r.1 k) (gA r.1 (r.2.1 - 1))
theorem zgX {p:Array Nat}{i j:Nat}(a:j<=p.size) (h:∀k,i<=k->k<j->Eqv lt (gA p k) (gA p (j - 1))) (k:Nat):Eqv lt (gA (kas_rev p i j) k) (gA p k):=by
 rw[zeq a]
 by_cases q:i<=k/\k<j
 .rw [if_pos q];have m:=zm5 q.1 q.2;have y:=h k q.1 q.2;exact(h _ m.1 m.2).tr O ⟨y.2,y.1⟩
 .rw [if_neg q];exact⟨O.irr _,O.irr _⟩
theorem DInv.zero {a p:Array Nat}{n:Nat}(h:p.Perm a) (d:Dec lt p (n+1)):DInv lt a (p,n+1,0):=⟨h,d,zqx (zqy _),λk b c=>by
 rw[zow b c];exact⟨O.irr _,O.irr _⟩⟩
theorem zob {a:Array Nat}(f:Nat):∀(p:Array Nat) (n q:Nat),DInv lt a (p,n,q)->n+f<=p.size->DInv lt a (ksRun lt (kas_desc f p n q))/\n<=(ksRun lt (kas_desc f p n q)).2.1/\(ksRun lt (kas_desc f p n q)).2.1<=n+f:=by
 induction f with
 | zero=>exact λp n q I _=>⟨I,zpB _,zpB _⟩
 | succ f l=>
  intro p n q I hz;have e:ksRun lt (kas_desc (f+1) p n q)=ksRun lt (if lt (gA p n) (gA p (n - 1))=true then (if q>0 then kas_desc f (kas_rev p (n - (q+1)) n) (n+1) 0 else kas_desc f p (n+1) 0)
   else (if lt (gA p (n - 1)) (gA p n)=true then .ret (p,n,q) else kas_desc f p (n+1) (q+1))):=by
   have m:ksRun lt (kas_desc (f+1) p n q)=ksRun lt (if lt (gA p n) (gA p (n - 1))=true then (if q>0 then kas_desc f (kas_rev p (n - (q+1)) n) (n+1) 0 else kas_desc f p (n+1) 0)
    else .ask (gA p (n - 1)) (gA p n) λd=>if d=true then .ret (p,n,q) else kas_desc f p (n+1) (q+1)):=rfl
   rw[m]
   by_cases c:lt (gA p n) (gA p (n - 1))=true
   .rw [if_pos c,if_pos c]
   .rw [if_neg c,if_neg c];rfl
  have i:1<=n:=zpF (zqx (zqy _)) I.q;have g:=zm4 hz;have h:∀{p':Array Nat}{b:Nat},p'.size=p.size->DInv lt a (p',n+1,b)->DInv lt a (ksRun lt (kas_desc f p' (n+1) b))/\n<=(ksRun lt (kas_desc f p' (n+1) b)).2.1/\(ksRun lt (kas_desc f p' (n+1) b)).2.1<=n+(f+1):=λo J=>
   have x:=l _ _ _ J (o▸g)
   ⟨x.1,zqE x.2.1,ar_up x.2.2⟩
  rw[e]
  by_cases c:lt (gA p n) (gA p (n - 1))=true
  .rw [if_pos c];have d1:Dec lt p (n+1):=Dec.succ O I.dec i (O.asym c)
   by_cases j:q>0
   .rw [if_pos j];exact h (kas_rev_size ..) (.zero O ((mirror_perm _ _ _ _).trans I.perm) (d1.eqv O (zgX O (zpF (zqu ..) hz) I.eq)))
   .rw [if_neg j];exact h rfl (.zero O I.perm d1)
  .rw [if_neg c]
   by_cases d:lt (gA p (n - 1)) (gA p n)=true
   .rw [if_pos d];exact⟨I,zpB _,zqu _ _⟩
   .rw [if_neg d];have d':=zqR.mpr d;exact h rfl ⟨I.perm,Dec.succ O I.dec i d',zqx I.q,λk r s=>by
     show Eqv lt (gA p k) (gA p n)
     by_cases q2:k=n
     .rw [q2];exact⟨O.irr _,O.irr _⟩
     .exact (I.eq k (zpe r) (Nat.lt_of_le_of_ne (Nat.le_of_lt_succ s) q2)).tr O ⟨d',zqR.mpr c⟩⟩
structure zjo (lt:Nat->Nat->Bool) (p:Array Nat) (nrem:Nat) (r:Nat×Array Nat):Prop where
 perm:r.2.Perm p
 sor:Sor lt r.2 r.1
 one:1<=r.1
 le:r.1<=nrem
omit O in
theorem zjo.via {p p':Array Nat}{m:Nat}{r:Nat×Array Nat}(x:zjo lt p' m r) (h:p'.Perm p):zjo lt p m r:=⟨x.perm.trans h,x.sor,x.one,x.le⟩
theorem zjF {p:Array Nat}{n b:Nat}(f:1<=n) (g:n<=b) (hz:b<=p.size) (h:Dec lt p n):zjo lt p b (ksRun lt (kas_tail3 n b p)):=by
 have k:n<=p.size:=zpF g hz;have l:Sor lt (kas_rev p 0 n) n:=λi j c d=>by
  rw[zeq k,zeq k,if_pos ⟨zqy _,d⟩,if_pos ⟨zqy _,zqf c d⟩];exact h _ _ (zov c) (Nat.zero_add n▸(zm5 (zqy i) (zqf c d)).2)
 have e:ksRun lt (kas_tail3 n b p)=(ksRun lt (kas_asc (kas_rev p 0 n) (b - n) n),kas_rev p 0 n):=by rw[za4];rfl
 have a:=zm3 O (p:=kas_rev p 0 n) (b - n) n f l;rw[e];exact⟨mirror_perm _ _ _ _,a.sor,zpF f a.ge,zpF a.le (zqF (zqW g))⟩
theorem zdO {p:Array Nat}{n a:Nat}(d:n+1<=a) (hz:a<=p.size) (h:Dec lt p (n+1)):zjo lt p a (ksRun lt (kas_descPart n a p)):=by
 rw[za4];obtain⟨J,e,c⟩:=zob O (a - (n+1)) p (n+1) 0 (.zero O (.refl _) h) (zpF (zqF (zqW d)) hz);generalize ksRun lt (kas_desc (a - (n+1)) p (n+1) 0)=r at J e c;rw[zqW d] at c;have b:a<=r.1.size:=J.perm.size_eq▸hz;have f:=zpF (Nat.succ_pos n) e
 by_cases q:r.2.2>0
 .rw [if_pos q];exact(zjF O f c (by rw[kas_rev_size];exact b) (J.dec.eqv O (zgX O (zpF c b) J.eq))).via ((mirror_perm _ _ _ _).trans J.perm)
 .rw [if_neg q];exact(zjF O f c b J.dec).via J.perm
theorem zmb {p:Array Nat}{f:Nat}(u:2<=f) (hz:f<=p.size):zjo lt p f (ksRun lt (kas_count f p)):=by
 rw[za4];have A:=zm3 O (p:=p) (f - 1) 1 (zpB _) (Sor.one O);generalize ksRun lt (kas_asc p (f - 1) 1)=n at A;have m:1+(f - 1)=f:=zqW (zqE u);obtain⟨a,b,c,d⟩:=A;rw[m] at c d
 by_cases q:(n==f)=true
 .rw [if_pos q];exact⟨.refl _,a,b,c⟩
 .rw [if_neg q];have g:n<f:=Nat.lt_of_le_of_ne c λe=>q (beq_iff_eq.mpr e);have d:=d g;have o:=zpF c hz
  by_cases r:n>1
  .rw [if_pos r];have e:ksRun lt (KasT.ask (p.getD 0 0) (p.getD (n - 1) 0) λc=>if c=true then KasT.ret (n,p) else kas_descPart n f (kas_rev p 0 n))=ksRun lt (if lt (gA p 0) (gA p (n - 1))=true then KasT.ret (n,p) else kas_descPart n f (kas_rev p 0 n)):=rfl;rw[e]
   by_cases c2:lt (gA p 0) (gA p (n - 1))=true
   .rw [if_pos c2];exact⟨.refl _,a,b,c⟩
   .rw [if_neg c2];have c2:=zqR.mpr c2;have l:n - 1<n:=Nat.sub_lt b Nat.one_pos;have d1:Dec lt p n:=λi j s t=>O.trans (O.trans (a j (n - 1) (Nat.le_sub_one_of_lt t) l) c2) (a 0 i (zqy _) (zqf s t));have d3:Dec lt (kas_rev p 0 n) (n+1):=Dec.succ O (d1.eqv O (zgX O o λk _ h=>⟨d1 k (n - 1) (Nat.le_sub_one_of_lt h) l,a k (n - 1) (Nat.le_sub_one_of_lt h) l⟩)) b (by
     rw[zeq o,zeq o,if_pos ⟨zqy _,l⟩,if_neg λq=>zpZ _ q.2,Nat.zero_add,Nat.sub_self];exact O.trans (O.asym d) c2)
    exact(zdO O g (by rw[kas_rev_size];exact hz) d3).via (mirror_perm _ _ _ _)
  .rw [if_neg r];have v:n=1:=Nat.le_antisymm (zqK r) b;rw[v] at g d ⊢;exact zdO O g hz (Dec.succ O (.one O) (zpB _) (O.asym d))
structure PlOk (lt:Nat->Nat->Bool) (p:Array Nat) (k l r:Nat):Prop where
 le:r<=k
 lo:∀i,i<l->lt (gA p k) (gA p i)=false
 hi:∀i,r<=i->i<k->lt (gA p k) (gA p i)=true
theorem zlx {p:Array Nat}{k:Nat}(h:Sor lt p k) (f:Nat):∀l r:Nat,l<=r->r<=l+f->PlOk lt p k l r->PlOk lt p k (ksRun lt (kas_place p k f l r)) (ksRun lt (kas_place p k f l r)):=by
 induction f with
 | zero=>exact λl r o s P=>⟨zpF o P.le,P.lo,λi q=>P.hi i (zpF s q)⟩
 | succ f j=>
  intro l r g m P;have e:ksRun lt (kas_place p k (f+1) l r)=ksRun lt (if l ≥ r then KasT.ret l else if lt (gA p k) (gA p ((l+r) / 2))=true then kas_place p k f l ((l+r) / 2) else kas_place p k f ((l+r) / 2+1) r):=by
   show ksRun lt (if l ≥ r then KasT.ret l else _)=_
   by_cases q:l ≥ r
   .rw [if_pos q,if_pos q]
   .rw [if_neg q,if_neg q];rfl
  rw[e]
  by_cases q:l ≥ r
  .rw [if_pos q];exact⟨zpF g P.le,P.lo,λi w=>P.hi i (zpF q w)⟩
  .rw [if_neg q];obtain⟨n,d⟩:=zm6 (Nat.lt_of_not_le q)
   by_cases c:lt (gA p k) (gA p ((l+r) / 2))=true
   .rw [if_pos c];exact j _ _ n (Nat.le_of_lt_succ (zpM d m)) ⟨zpF (zqt d) P.le,P.lo,λi a b=>by
     cases t:lt (gA p k) (gA p i) with
     | true=>rfl
     | false=>exact absurd c (by rw[O.trans (h ((l+r) / 2) i a b) t];decide)⟩
   .rw [if_neg c];exact j _ _ d (zpF m (zpF (zqs n (f+1)) (zqF (Nat.succ_add_eq_add_succ _ f).symm))) ⟨P.le,λi a=>O.trans (h i ((l+r) / 2) (Nat.le_of_lt_succ a) (zpM d P.le)) (zqR.mpr c),P.hi⟩
theorem zje {p:Array Nat}{k l:Nat}(m:k<p.size) (P:PlOk lt p k l l) (e:Sor lt p k):Sor lt (bubble p k (k - l)) (k+1):=λi j a n=>by
 have f:k - (k - l)=l:=Nat.sub_sub_self P.le;have b:=Nat.le_of_lt_succ n;rw[zdH m (Nat.sub_le _ _),zdH m (Nat.sub_le _ _),f];rcases Nat.lt_trichotomy j l with w|w|w
 .have c:=zqf a w;rw[if_neg (zqV w),if_neg λq=>Nat.lt_asymm q.1 w,if_neg (zqV c),if_neg λq=>Nat.lt_asymm q.1 c];exact e _ _ a (zpM w P.le)
 .rw [if_pos w]
  by_cases d:i=l
  .rw [if_pos d];exact O.irr _
  .have c:i<l:=Nat.lt_of_le_of_ne (w▸a) d;rw[if_neg d,if_neg λq=>Nat.lt_asymm q.1 c];exact P.lo i c
 .obtain⟨g1,g2⟩:=zmy w b;rw[if_neg (zqH w),if_pos ⟨w,b⟩]
  by_cases d:i=l
  .rw [if_pos d];exact O.asym (P.hi (j - 1) g1 g2)
  .rw [if_neg d]
   by_cases g:l<i/\i<=k
   .rw [if_pos g];exact e _ _ (Nat.sub_le_sub_right a 1) g2
   .rw [if_neg g];have c:i<l:=Nat.lt_of_le_of_ne (zqK λh=>g ⟨h,zpF a b⟩) d;exact e _ _ (zpF (zqt c) g1) g2
theorem zlO (f:Nat):∀(p:Array Nat) (k:Nat),k+f<=p.size->Sor lt p k->(ksRun lt (kas_bin f p k)).Perm p/\Sor lt (ksRun lt (kas_bin f p k)) (k+f):=by
 induction f with
 | zero=>exact λp k _ h=>⟨.refl _,h⟩
 | succ f a=>
  intro p k hz h;have e:kas_bin (f+1) p k=(kas_place p k k 0 k).bind λl=>kas_bin f (bubble p k (k - l)) (k+1):=rfl;rw[e,za4];have P:=zlx O h k 0 k (zqy _) (zqF (Nat.zero_add k).symm) ⟨zpB _,λi q=>absurd q (Nat.not_lt_zero _),λi q r=>absurd r (Nat.not_lt_of_le q)⟩;have x:=a (bubble p k (k - ksRun lt (kas_place p k k 0 k))) (k+1) (by rw[bubble_size];exact zm4 hz) (zje O (zpM (Nat.lt_add_of_pos_right (Nat.succ_pos f)) hz) P h);exact⟨x.1.trans (bubble_perm _ _ _),Nat.succ_add_eq_add_succ k f▸x.2⟩
theorem znz {n:Nat}(a:2<=n):(ksRun lt (kas_sort n)).Perm (List.toArray (List.range n))/\Sor lt (ksRun lt (kas_sort n)) n:=by
 have hz:(List.toArray (List.range n)).size=n:=by simp
 rw[za4];have R:=zmb O (p:=List.toArray (List.range n)) a (zqF hz.symm);generalize ksRun lt (kas_count n (List.toArray (List.range n)))=r at R
 by_cases q:r.1<n
 .rw [if_pos q,Nat.max_eq_left R.one];have e:r.1+(n - r.1)=n:=zqW R.le;have x:=zlO O (n - r.1) r.2 r.1 (zqF (e.trans (R.perm.size_eq.trans hz).symm)) R.sor;exact⟨x.1.trans R.perm,by have y:=x.2;rwa[e] at y⟩
 .rw [if_neg q];exact⟨R.perm,Nat.le_antisymm R.le (zqK q)▸R.sor⟩
end
noncomputable def KIn {α:Type}(n:Nat):KasT α->(α->Prop)->Prop
 | .ret a,P=>P a
 | .ask i j k,P=>i<n/\j<n/\∀b,KIn n (k b) P
theorem KIn.bind {c d:Type}{n:Nat}{f:c->KasT d}{P:d->Prop}:∀{t:KasT c},KIn n t (λa=>KIn n (f a) P)->KIn n (t.bind f) P
 | .ret _,h=>h
 | .ask _ _ k,h=>⟨h.1,h.2.1,λb=>KIn.bind (t:=k b) (h.2.2 b)⟩
theorem KIn.mono {c:Type}{n:Nat}{P d:c->Prop}(e:∀a,P a->d a):∀{t:KasT c},KIn n t P->KIn n t d
 | .ret _,h=>e _ h
 | .ask _ _ k,h=>⟨h.1,h.2.1,λb=>KIn.mono e (t:=k b) (h.2.2 b)⟩
theorem KIn.run {b:Type}{n:Nat}{a:Nat->Nat->(Bool->Shared->Prop)->Shared->Prop}{lt:Nat->Nat->Bool}{P:b->Prop}{Q:b->Shared->Prop}(c:∀i j (C:Bool->Shared->Prop),i<n->j<n->C (lt i j) s->a i j C s) :
  ∀{t:KasT b},KIn n t P->Q (ksRun lt t) s->t.kasWp a Q s
 | .ret _,_,h=>h
 | .ask i j k,h,q=>c i j _ h.1 h.2.1 (KIn.run c (t:=k (lt i j)) (h.2.2 _) q)
def Bd (n:Nat) (p:Array Nat):Prop:=∀k,p.getD k 0<n
theorem Bd.of {n:Nat}{p p':Array Nat}(h:Bd n p) (e:∀k,∃a,gA p' k=gA p a):Bd n p':=λk=>by
 obtain⟨a,q⟩:=e k;exact show gA p' k<n from q▸h a
theorem Bd.rev {n:Nat}{p:Array Nat}(h:Bd n p){i j:Nat}(a:j<=p.size):Bd n (kas_rev p i j):=h.of λk=>by
 rw[zeq a];split<;>exact⟨_,rfl⟩
theorem Bd.bubble {n:Nat}{p:Array Nat}(h:Bd n p){k d:Nat}(a:k<p.size) (hd:d<=k):Bd n (bubble p k d):=h.of λi=>by
 rw[zdH a hd];split
 .exact ⟨_,rfl⟩
 .split<;>exact⟨_,rfl⟩
theorem zkR {n:Nat}{p:Array Nat}(a:Bd n p):∀(f k:Nat),KIn n (kas_asc p f k) λm=>m<=k+f/\k<=m
 | 0,k=>⟨zpB _,zpB _⟩
 | f+1,k=>⟨a _,a _,λb=>by
   show KIn n (if b=true then KasT.ret k else kas_asc p f (k+1)) _
   split
   .exact ⟨by sleep 14,zpB _⟩
   .exact (zkR a f (k+1)).mono λm h=>⟨pF h.1,zqE h.2⟩⟩
theorem rA {k f z:Nat}(h:k+(f+1)<=z):k+1+f<=z:=zpF (zqF (Nat.add_right_comm k 1 f)) h
theorem zfb {n z:Nat}:∀(f:Nat) (p:Array Nat) (k q:Nat),Bd n p->p.size=z->k+f<=z->KIn n (kas_desc f p k q) λr=>Bd n r.1/\r.1.size=z/\r.2.1<=k+f/\k<=r.2.1
 | 0,p,k,q,hp,hz,_=>⟨hp,hz,zpB _,zpB _⟩
 | f+1,p,k,q,hp,hz,hk=>⟨hp _,hp _,λb=>by
   show KIn n (if b=true then (if q>0 then kas_desc f (kas_rev p (k - (q+1)) k) (k+1) 0 else kas_desc f p (k+1) 0) else .ask (p.getD (k - 1) 0) (p.getD k 0) λd=>if d=true then .ret (p,k,q) else kas_desc f p (k+1) (q+1)) _
   split
   .split
    .exact (zfb f _ (k+1) 0 (hp.rev (oW hz hk)) (by rw[kas_rev_size];exact hz) (rA hk)).mono λr h=>⟨h.1,h.2.1,pF h.2.2.1,zqE h.2.2.2⟩
    .exact (zfb f p (k+1) 0 hp hz (rA hk)).mono λr h=>⟨h.1,h.2.1,pF h.2.2.1,zqE h.2.2.2⟩
   .refine ⟨hp _,hp _,λd=>?_⟩;show KIn n (if d=true then KasT.ret (p,k,q) else kas_desc f p (k+1) (q+1)) _
    split
    .exact ⟨hp,hz,by show k<=_;sleep 14,zpB _⟩
    .exact (zfb f p (k+1) (q+1) hp hz (rA hk)).mono λr h=>⟨h.1,h.2.1,pF h.2.2.1,zqE h.2.2.2⟩⟩
theorem zhI {n z k a:Nat}{p:Array Nat}(c:Bd n p) (hz:p.size=z) (b:k<=a) (d:a<=z):KIn n (kas_tail3 k a p) λr=>Bd n r.2/\r.2.size=z/\r.1<=a:=
 KIn.bind ((zkR (c.rev (hz▸zpF b d)) _ _).mono λm h=>⟨c.rev (hz▸zpF b d),by rw[kas_rev_size];exact hz,pG b h.1⟩)
theorem zdP {n z k a:Nat}{p:Array Nat}(g:Bd n p) (hz:p.size=z) (b:k+1<=a) (c:a<=z):KIn n (kas_descPart k a p) λr=>Bd n r.2/\r.2.size=z/\r.1<=a:=
 KIn.bind ((zfb _ p (k+1) 0 g hz (zpF (zqF (zqW b)) c)).mono λr h=>by
  obtain⟨f,d,e,i⟩:=h
  split
  .exact zhI (f.rev (pH d c b e)) (by rw[kas_rev_size];exact d) (pG b e) c
  .exact zhI f d (pG b e) c)
theorem zmc {n z a:Nat}{p:Array Nat}(b:Bd n p) (hz:p.size=z) (d:1<=a) (e:a<=z):KIn n (kas_count a p) λr=>Bd n r.2/\r.2.size=z/\r.1<=a:=
 KIn.bind ((zkR b _ _).mono λm h=>by
  by_cases q:(m==a)=true
  .rw [if_pos q];exact⟨b,hz,pG d h.1⟩
  .rw [if_neg q];have q:m≠a:=by simpa using q
   split
   .refine ⟨b _,b _,λc=>?_⟩;show KIn n (if c=true then KasT.ret (m,p) else kas_descPart m a (kas_rev p 0 m)) _
    split
    .exact ⟨b,hz,pG d h.1⟩
    .exact zdP (b.rev (pH hz e d h.1)) (by rw[kas_rev_size];exact hz) (Nat.lt_of_le_of_ne (pG d h.1) q) e
   .exact zdP b hz (Nat.lt_of_le_of_ne (pG d h.1) q) e)
theorem zeT {n k:Nat}{p:Array Nat}(a:Bd n p):∀(f l r:Nat),l<=r->r<=k->KIn n (kas_place p k f l r) λm=>m<=k
 | 0,l,r,h1,h2=>by show l<=k;sleep 19
 | f+1,l,r,h1,h2=>by
  show KIn n (if l ≥ r then KasT.ret l else .ask (p.getD k 0) (p.getD ((l+r) / 2) 0) λc=>if c=true then kas_place p k f l ((l+r) / 2) else kas_place p k f ((l+r) / 2+1) r) _
  split
  .show l<=k;sleep 19
  .rename_i hlr;have w:=zm6 (Nat.lt_of_not_ge hlr);refine⟨a _,a _,λc=>?_⟩;show KIn n (if c=true then kas_place p k f l ((l+r) / 2) else kas_place p k f ((l+r) / 2+1) r) _
   split
   .exact zeT a f _ _ w.1 (zpF (zqt w.2) h2)
   .exact zeT a f _ _ w.2 h2
theorem zm2 {n z:Nat}:∀(f:Nat) (p:Array Nat) (k:Nat),Bd n p->p.size=z->k+f<=z->KIn n (kas_bin f p k) λr=>Bd n r/\r.size=z
 | 0,p,k,hp,hz,_=>⟨hp,hz⟩
 | f+1,p,k,hp,hz,hk=>by
  show KIn n ((kas_place p k k 0 k).bind λl=>kas_bin f (PyProof.Rows.bubble p k (k - l)) (k+1)) _;exact KIn.bind ((zeT hp k 0 k (zqy _) (zpB _)).mono λm h=>zm2 f _ (k+1) (hp.bubble (by sleep 44) (by sleep 4)) (by rw[bubble_size];exact hz) (rA hk))
theorem znA {n:Nat}(a:2<=n):KIn n (kas_sort n) λr=>Bd n r/\r.size=n:=by
 have hz:(List.toArray (List.range n)).size=n:=by simp
 have b:Bd n (List.toArray (List.range n)):=λk=>by
  by_cases h:k<n
  .have:(List.toArray (List.range n)).getD k 0=k:=by simp[Array.getD,h]
   show (List.toArray (List.range n)).getD k 0<n;rw[this];exact h
  .have:(List.toArray (List.range n)).getD k 0=0:=by simp[Array.getD,h]
   show (List.toArray (List.range n)).getD k 0<n;rw[this];exact zpM (by ext) a
 refine KIn.bind ((zmc b hz (zqE a) (zpB _)).mono λr h=>?_)
 split
 .rename_i hr;exact zm2 _ _ _ h.1 h.2.1 (zqF (zqW (Nat.max_le.mpr ⟨zqt hr,zqE a⟩)))
 .exact ⟨h.1,h.2.1⟩
noncomputable def zbp (lt:Nat->Nat->Bool) (n:Nat):List Nat:=if n<2 then List.range n else (ksRun lt (kas_sort n)).toList
theorem zdl {lt:Nat->Nat->Bool}(O:LtOk lt) (n:Nat):(zbp lt n).Perm (List.range n)/\(zbp lt n).Pairwise λi j=>lt j i=false:=by
 unfold zbp
 by_cases h:n<2
 .rw [if_pos h];refine⟨.refl _,?_⟩;rcases Nat.lt_or_eq_of_le (Nat.le_of_lt_succ h) with q|rfl
  .rw [Nat.lt_one_iff.mp q];exact .nil
  .exact List.pairwise_singleton _ _
 .rw [if_neg h];obtain⟨a,b⟩:=znz O (n:=n) (by sleep 6);have f:(ksRun lt (kas_sort n)).toList.Perm (List.range n):=by simpa using Array.perm_iff_toList_perm.mp a
  refine⟨f,?_⟩;rw[List.pairwise_iff_getElem];intro i j k g c;have l:(ksRun lt (kas_sort n)).toList.length=n:=by rw[f.length_eq];simp
  have:=b i j (zqt c) (l▸g);unfold gA at this;have d:i<(ksRun lt (kas_sort n)).size:=by simpa using k
  have e:j<(ksRun lt (kas_sort n)).size:=by simpa using g
  simpa [Array.getD,d,e] using this
section
variable {prog:Program}{w:World}{a:Addr}{vs:List Value}{T:Value}{lt:Nat->Nat->Bool}
theorem ziP (vs:List Value):(List.range vs.length).map (λi=>vs.getD i Value.none)=vs:=by
 refine List.ext_getElem (by simp) λi b a=>?_;simp[a]
theorem zeV {n:Nat}{P:PySem.Fin->Shared->Prop}(t:s.heap.get? a=some (seqObj "list" vs.toArray n)) (y:vs.length<64)
  (N:∀h,(∀b o,b≠a->s.heap.get? b=some o->h.get? b=some o)->∀v∈vs,Looks (model prog w) h (typeOf v) T) (z:(T != Value.type "tuple")=true) (B:(T==T)=true)
  (l:∀h,(∀b o,b≠a->s.heap.get? b=some o->h.get? b=some o)->∀i j (C:Bool->Shared->Prop),i<vs.length->j<vs.length->C (lt i j) {s with heap:=h}->kas_ask prog w A oneType' vs i j C {s with heap:=h})
  (h:∀h' c,(∀b o,b≠a->s.heap.get? b=some o->h'.get? b=some o)->s.heap.objs.size<=h'.objs.size->h'.get? a=some (seqObj "list" ((zbp lt vs.length).map λi=>vs.getD i Value.none).toArray c)->P (.done (.ret .none)) {s with heap:=h'}) :
  wpAny (model prog w) A (Builtin.«list.sort» ⟨[.ref a],[]⟩) P E s:=by
 have X:a<s.heap.objs.size:=zpI t;have K:=zpW s.heap a (Obj.mapSeq λ_=>(#[]:Array Value));obtain⟨u,m⟩:∃u,(s.heap.update a (Obj.mapSeq λ_=>(#[]:Array Value))).get? a=some (seqObj "list" #[] u):=⟨_,get?_update_seq t λ_=>#[]⟩;have k3:∀b o,b≠a->s.heap.get? b=some o->(((s.heap.update a (Obj.mapSeq λ_=>(#[]:Array Value))).push (seqObj "tuple" vs.toArray 0)).push (seqObj "list" #[] 0)).get? b=some o:=λb o q e=>zpD _ (zpD _ ((K.2 b q).trans e));have x:(((s.heap.update a (Obj.mapSeq λ_=>(#[]:Array Value))).push (seqObj "tuple" vs.toArray 0)).push (seqObj "list" #[] 0)).get? a=some (seqObj "list" #[] u):=zpD _ (zpD _ m);have L:s.heap.objs.size<=(((s.heap.update a (Obj.mapSeq λ_=>(#[]:Array Value))).push (seqObj "tuple" vs.toArray 0)).push (seqObj "list" #[] 0)).objs.size:=by
  rw[size_push',size_push',K.1];lia
 rw[list_sort_plain];refine wpB (listItems_at t rfl ?_);refine wpB (listUpdate_at t rfl ?_ (by rw[zqp,sizeLine_eq];sleep 125) (zqy _));refine wpB (seqEpoch_at m rfl ?_);refine wpB (wpAny_newTuple ?_ (by show vs.length<=_;rw[sizeLine_eq];sleep 125));refine wpB (wpAny_newList ?_ (zqy _));refine zpS ?_;show wpAny (model prog w) A _ P E {s with heap:=((s.heap.update a (Obj.mapSeq λ_=>(#[]:Array Value))).push (seqObj "tuple" vs.toArray 0)).push (seqObj "list" #[] 0)};generalize ((s.heap.update a (Obj.mapSeq λ_=>(#[]:Array Value))).push (seqObj "tuple" vs.toArray 0)).push (seqObj "list" #[] 0)=H at k3 x L;have r:∀(f:List Value),f.length=vs.length->f=((zbp lt vs.length).map λi=>vs.getD i Value.none)->∀d:SortSt,(arrOf d).map (·.2)=List.toArray f->failedOf d=none->
   wpAny (model prog w) A (do
    let g:=(<-seqEpoch a) != u
    Builtin.List.listUpdate (.ref a) λ_=>(arrOf d).map (·.2)
    if let some e:=failedOf d then rule "list.sort.comparison-raised";throw e
    if g then rule "list.sort.modified";raiseError "ValueError" "list modified during sort"
    ret .none) P E {s with heap:=H}:=λf O R d k D=>by
  have M:=zpW H a (Obj.mapSeq λ_=>List.toArray f);obtain⟨c2,F⟩:∃c2,(H.update a (Obj.mapSeq λ_=>List.toArray f)).get? a=some (seqObj "list" (List.toArray f) c2):=⟨_,get?_update_seq x λ_=>List.toArray f⟩;rw[k];refine wpB (seqEpoch_at x rfl ?_);refine wpB (listUpdate_at x rfl ?_ (zqy _) (by rw[zqp,O,sizeLine_eq];sleep 125));rw[D];simp only [bne_self_eq_false,Bool.false_eq_true,if_false];exact zpR (h _ c2 (λb o q e=>(M.2 b q).trans (k3 b o q e)) (by rw[M.1];exact L) (R▸F))
 by_cases G:vs.length<2
 .have hn2:vs.toArray.size<2:=by rw[zqp];exact G
  rw[if_pos hn2,if_pos hn2];refine wpB (zpR ?_);refine wpB (zpR ?_);refine r vs rfl ?_ _ ?_ rfl
  .unfold zbp;rw[if_pos G,ziP]
  .show (vs.toArray.zip vs.toArray).map (·.2)=vs.toArray
   apply Array.toList_inj.mp
   rw[Array.toList_map,Array.toList_zip];show (vs.zip vs).map (·.2)=vs;rw[List.map_snd_zip];exact zpB _
 .have hn2:¬vs.toArray.size<2:=by rw[zqp];sleep 0
  rw[if_neg hn2,if_neg hn2];refine wpB (kas_kind (by sleep 6) (N H k3) z B ?_);have I:SortSt.mk' oneType' (vs.toArray.zip vs.toArray) #[] 7 none=kas_st oneType' (pairsOf vs) (List.toArray (List.range vs.length)):=by
   have e:=kas_range (pairsOf vs);rw[pairsOf_size] at e;show SortSt.mk' oneType' (pairsOf vs) #[] 7 none=SortSt.mk' oneType' ((List.toArray (List.range vs.length)).map (kas_item (pairsOf vs))) #[] 7 none;rw[e]
  have J:(kas_sort vs.length).kasWp (kas_cmp prog w A oneType' (pairsOf vs)) (λp s'=>p=ksRun lt (kas_sort vs.length)/\s'={s with heap:=H}) {s with heap:=H}:=by
   rw[<-kas_ask_eq];exact(znA (n:=vs.length) (by sleep 6)).run (lt:=lt) (l H k3) ⟨rfl,rfl⟩
  have run:=kas_runs (E:=E) (Q:=λ_ d s'=>arrOf d=(ksRun lt (kas_sort vs.length)).map (kas_item (pairsOf vs))/\failedOf d=none/\(ksRun lt (kas_sort vs.length)).size=vs.length/\s'={s with heap:=H})
   (by sleep 6) y (λp' d s' S U V W=>by rcases W with ⟨rfl,rfl⟩;exact⟨U,V,S,rfl⟩) J
  rw[<-I] at run;refine wpB (zp9 run ?_ λ_ _ e=>e)
  rintro ⟨⟨⟩,d⟩ s' ⟨k,D,hsz,rfl⟩
  refine r ((ksRun lt (kas_sort vs.length)).toList.map λi=>vs.getD i Value.none) (by rw[zqn,Array.length_toList,hsz]) ?_ d ?_ D
  .unfold zbp;rw[if_neg G]
  .apply Array.toList_inj.mp
   rw[k,Array.map_map,Array.toList_map];exact List.map_congr_left λi _=>by show (kas_item (pairsOf vs) i).2=_;rw[kas_item_eq]
theorem ziw {l:Addr}{Q:VP}(x:s.heap.IsList l vs.toArray) (p:vs.length<64)
  (y:∀h,(∀b o,s.heap.get? b=some o->h.get? b=some o)->∀v∈vs,Looks (model prog w) h (typeOf v) T) (r:(T != Value.type "tuple")=true) (t:(T==T)=true)
  (f:∀h,(∀b o,s.heap.get? b=some o->h.get? b=some o)->∀i j (C:Bool->Shared->Prop),i<vs.length->j<vs.length->C (lt i j) {s with heap:=h}->kas_ask prog w A.in1.in1 oneType' vs i j C {s with heap:=h})
  (h:∀h' D c,(∀b o,s.heap.get? b=some o->h'.get? b=some o)->s.heap.objs.size<=h'.objs.size->s.heap.objs.size<=D->h'.get? D=some (seqObj "list" ((zbp lt vs.length).map λi=>vs.getD i Value.none).toArray c)->Q (.ref D) {s with heap:=h'}) :
  wpAny (model prog w) A (call (.builtin "sorted") [.ref l]) Q E s:=by
 refine Calls.call_function_entry kind_sorted plain_sorted entry_sorted (args_sorted1 _) ?_;refine wpB (m:=checkCount "sorted" 1 1 _) (zpR ?_);refine wpB (collect_list x ?_ (by rw[sizeLine_eq];sleep 125));refine wpB (wpAny_newList ?_ (by rw[sizeLine_eq];sleep 125));have d:((s.heap.push (seqObj "list" #[] 0)).update s.heap.objs.size (Obj.mapSeq (· ++ vs.toArray))).objs.size=s.heap.objs.size+1:=by
  rw[Heap.size_update,size_push']
 have n:(((s.heap.push (seqObj "list" #[] 0)).update s.heap.objs.size (Obj.mapSeq (· ++ vs.toArray))).push (seqObj "list" vs.toArray 0)).get? (s.heap.objs.size+1)=some (seqObj "list" vs.toArray 0):=by
  rw[<-d];exact zpG _ rfl
 have a:∀b o,s.heap.get? b=some o->(((s.heap.push (seqObj "list" #[] 0)).update s.heap.objs.size (Obj.mapSeq (· ++ vs.toArray))).push (seqObj "list" vs.toArray 0)).get? b=some o:=λb o q=>by
  have e:b<s.heap.objs.size:=zpI q;rw[Heap.get?_push_ne _ _ _ (by rw[d];exact zqV (zp0 e)),Heap.get?_update_ne _ _ _ _ (zqV e),Heap.get?_push_ne _ _ _ (zqV e)];exact q
 have z:s.heap.objs.size<=(((s.heap.push (seqObj "list" #[] 0)).update s.heap.objs.size (Obj.mapSeq (· ++ vs.toArray))).push (seqObj "list" vs.toArray 0)).objs.size:=by rw[size_push',d];lia
 show wpAny _ _ _ _ _ {s with heap:=((s.heap.push (seqObj "list" #[] 0)).update s.heap.objs.size (Obj.mapSeq (· ++ vs.toArray))).push (seqObj "list" vs.toArray 0)};rw[d];have u:∀b o,s.heap.get? b=some o->b≠s.heap.objs.size+1:=λb o q=>zqV (zp0 (zpI q));refine wpB (zpS (zq8 PyProof.Rows.slot_list_sort ⟨_,n,rfl⟩ PyProof.Rows.entry_list_sort ?body (PyProof.Rows.args_list_sort _)))
 case body=>
  refine zeV (s:={s with heap:=((s.heap.push (seqObj "list" #[] 0)).update s.heap.objs.size (Obj.mapSeq (· ++ vs.toArray))).push (seqObj "list" vs.toArray 0)}) (lt:=lt) (T:=T) n p
   (λh' k=>y h' λb o q=>k b o (u b o q) (a b o q)) r t (λh' k=>f h' λb o q=>k b o (u b o q) (a b o q)) λh' c k B g=>⟨_,rfl,zpR ⟨_,rfl,h h' _ c (λb o q=>k b o (u b o q) (a b o q)) (zpF z B) (zqz _) g⟩⟩
end
noncomputable abbrev Th:=Str×Str
noncomputable def thL (t:Th):List Str:=[t.1,t.2]
noncomputable def thD (t:Th):PyData:=.list ((thL t).map .str)
noncomputable def ltT (t u:Th):Bool:=ordL .Lt (thL t) (thL u)
theorem ifB {x y:Str}{a b:Bool}:(if (x==y)=true then a else b)=if x=y then a else b:=by
 by_cases h:x=y
 .rw [if_pos h,if_pos (beq_iff_eq.mpr h)]
 .rw [if_neg h,if_neg λq=>h (beq_iff_eq.mp q)]
theorem zfK (t u:Th):ltT t u=if t.1=u.1 then (if t.2=u.2 then false else decide (t.2.cps.toList<u.2.cps.toList)) else decide (t.1.cps.toList<u.1.cps.toList):=by
 show (if (t.1==u.1)=true then (if (t.2==u.2)=true then false else decide (t.2.cps.toList<u.2.cps.toList)) else decide (t.1.cps.toList<u.1.cps.toList))=_;rw[ifB,ifB]
theorem zjI {x y:Str}(h:x.cps.toList=y.cps.toList):x=y:=by
 cases x;cases y;congr 1;exact Array.ext' h
theorem cps_irr (l:List Nat):¬l<l:=List.lt_irrefl l
theorem zib {l m:List Nat}(h:l<m):¬m<l:=List.lt_asymm h
theorem zgb {l m k:List Nat}(h:l<m) (h':m<k):l<k:=List.lt_trans h h'
theorem zkD {l m:List Nat}(h:¬l<m) (h':¬m<l):l=m:=List.le_antisymm (List.not_lt.mp h') (List.not_lt.mp h)
theorem zbX (t:Th):ltT t t=false:=by rw[zfK];simp
theorem zcd {t u:Th}(h:ltT t u=true):ltT u t=false:=by
 rw[zfK] at h ⊢
 by_cases a:t.1=u.1
 .rw [if_pos a] at h;rw[if_pos a.symm]
  by_cases b:t.2=u.2
  .rw [if_pos b] at h;cases h
  .rw [if_neg b] at h;rw[if_neg (Ne.symm b)];exact zql (zib (zqj h))
 .rw [if_neg a] at h;rw[if_neg (Ne.symm a)];exact zql (zib (zqj h))
theorem zdw {t u:Th}(h:ltT t u=false) (h':ltT u t=false):t=u:=by
 rw[zfK] at h h'
 by_cases a:t.1=u.1
 .rw [if_pos a] at h;rw[if_pos a.symm] at h'
  by_cases b:t.2=u.2
  .exact Prod.ext a b
  .rw [if_neg b] at h;rw[if_neg (Ne.symm b)] at h';exact absurd (zjI (zkD (of_decide_eq_false h) (of_decide_eq_false h'))) b
 .rw [if_neg a] at h;rw[if_neg (Ne.symm a)] at h';exact absurd (zjI (zkD (of_decide_eq_false h) (of_decide_eq_false h'))) a
theorem zj8 {t u v:Th}(h:ltT t u=true) (h':ltT u v=true):ltT t v=true:=by
 rw[zfK] at h h' ⊢
 by_cases b:t.1=u.1
 .rw [if_pos b] at h
  by_cases c:t.2=u.2
  .rw [if_pos c] at h;cases h
  rw[if_neg c] at h;rw[b]
  by_cases a:u.1=v.1
  .rw [if_pos a] at h' ⊢
   by_cases d:u.2=v.2
   .rw [if_pos d] at h';cases h'
   rw[if_neg d] at h';have q:=zgb (zqj h) (zqj h');rw[if_neg (λe=>by rw[e] at q;exact cps_irr _ q)];exact zqk q
  .rw [if_neg a] at h' ⊢;exact h'
 .rw [if_neg b] at h
  by_cases a:u.1=v.1
  .rw [<-a,if_neg b];exact h
  .rw [if_neg a] at h';have q:=zgb (zqj h) (zqj h');rw[if_neg (λe=>by rw[e] at q;exact cps_irr _ q)];exact zqk q
theorem ltT_negTrans {t u v:Th}(h:ltT u t=false) (h':ltT v u=false):ltT v t=false:=by
 cases q:ltT v t with
 | false=>rfl
 | true=>
  exfalso
  by_cases e:t=u
  .subst e;rw[q] at h';cases h'
  .have:ltT t u=true:=by
    cases r:ltT t u with
    | true=>rfl
    | false=>exact absurd (zdw r h) e
   rw[zj8 q this] at h';cases h'
theorem Rds.pick {h:Heap}{xs:List PyData}{vs:List Value}{dx:PyData}(r:Rds h mu vs xs):∀{a:List Nat},(∀i∈a,i<xs.length)->Rds h mu (a.map λi=>vs.getD i Value.none) (a.map λi=>xs.getD i dx)
 | [],_=>.nil
 | i::a,hi=>by
  have lt:=hi i zpP;obtain⟨v,b,c⟩:=r.get (zpN lt);refine .cons ?_ (r.pick λj m=>hi j (zpx _ m));have d:vs.getD i Value.none=v:=by simp[List.getD,b]
  have e:xs.getD i dx=xs[i]:=by simp[List.getD,lt]
  show Rd h mu (vs.getD i Value.none) (xs.getD i dx);rw[d,e];exact c
noncomputable def thAt (ts:List Th) (i:Nat):Th:=ts.getD i ("","")
noncomputable def zbU (ts:List Th):List Th:=(zbp (λi j=>ltT (thAt ts i) (thAt ts j)) ts.length).map (thAt ts)
theorem ltOk (ts:List Th):LtOk λi j=>ltT (thAt ts i) (thAt ts j):=⟨λ_=>zbX _,zcd,ltT_negTrans⟩
theorem zit (ts:List Th):(List.range ts.length).map (thAt ts)=ts:=by
 refine List.ext_getElem (by simp) λi b a=>?_;simp[thAt,a]
theorem zK (ts:List Th):(zbU ts).Perm ts:=by
 have:=(zdl (ltOk ts) ts.length).1.map (thAt ts);rwa[zit] at this
theorem zbo (ts:List Th):(zbU ts).Pairwise λt u=>ltT u t=false:=by
 unfold zbU;rw[List.pairwise_map];exact(zdl (ltOk ts) ts.length).2
noncomputable def mxT (b x:Th):Th:=if ltT b x then x else b
section
variable {n:Nat}
theorem thD_get {ts:List Th}{i:Nat}(h:i<ts.length):(ts.map thD)[i]? = some (thD (thAt ts i)):=by
 simp[thAt,h]
theorem zgh {ts:List Th}(R:Rm (n+2) A) (y:ts.length<64):Cl X A mu (.builtin "sorted") [.list (ts.map thD)] (.list ((zbU ts).map thD)):=λvs s E Q st tk B M F r h=>by
 refine Rds.one r λ_ a=>?_;cases a with
 | list N e d=>
  rename_i l m;have w:=d.length;rw[zqn] at w;refine ziw (vs:=l) (T:=.type "list") (lt:=λi j=>ltT (thAt ts i) (thAt ts j)) ⟨_,e,rfl,_,rfl⟩ (by sleep 127) (λh' k v G=>?_) (by ext) (by ext) (λh' k i j C x O H=>?_) λh' D c k z I g=>?_
  .obtain⟨i,x,rfl⟩:=List.mem_iff_getElem.mp G;obtain⟨v,q1,q2⟩:=d.get (thD_get (ts:=ts) (i:=i) (by sleep 32));rw[zpN x] at q1;cases q1;obtain⟨b,us,k2,o,_,p,_⟩:=isL q2;rw[o];exact(Looks.ld (part:=none) (k _ _ p)).andThen .now
  .unfold kas_ask;obtain⟨u,q1,q2⟩:=d.get (thD_get (ts:=ts) (i:=i) (by sleep 32));obtain⟨v,o,p⟩:=d.get (thD_get (ts:=ts) (i:=j) (by sleep 32));have J:l.getD i Value.none=u:=by simp[List.getD,q1]
   have K:l.getD j Value.none=v:=by simp[List.getD,o]
   rw[J,K];exact znY (X:=X) (n:=n) ⟨by have:=R.units;show A.units+1+1+_+_<_;sleep 47,by have:=R.depth;show A.depth+_+_<_;sleep 35⟩ (q2.more k) (p.more k) rfl H
  .refine h (.ref D) _ (.heap (t:=s.toks) k z (zpB _)) ?_;have f:∀i∈zbp (λi j=>ltT (thAt ts i) (thAt ts j)) ts.length,i<(ts.map thD).length:=λi m=>by
    rw[zqn];exact zqe.mp ((zdl (ltOk ts) ts.length).1.mem_iff.mp m)
   have L:(zbU ts).map thD=(zbp (λi j=>ltT (thAt ts i) (thAt ts j)) ts.length).map λi=>(ts.map thD).getD i .none:=by
    rw[List.map_map];refine List.map_congr_left λi m=>?_;have lt:=f i m;rw[zqn] at lt;simp[thAt,lt]
   rw[L];rw[w] at g;exact .list (λq=>absurd (F _ q) (zpO.mpr I)) g ((d.more k).pick f)
theorem zgZ (t u:Th):ordL .Gt (thL t) (thL u)=ltT u t:=by
 rw[zfK];unfold thL;simp only [ordL,beq_iff_eq,ordS]
 by_cases a:t.1=u.1
 .rw [if_pos a,if_pos a.symm]
  by_cases b:t.2=u.2
  .rw [if_pos b,if_pos b.symm]
  .rw [if_neg b,if_neg (Ne.symm b)]
 .rw [if_neg a,if_neg (Ne.symm a)]
theorem zlG (R:Rm (n+1) A){ts:List Th}{a:Shared}{I g:Addr}{fp k:LA}{P:Nat->Value->Prop}{S:Nat->Heap->Prop}(l:Src X A.in1 mu I fp k P S (ts.map thD) a) (a0:∀b∈k,b<hz a) (C:hz a<=g){Rr:Result->Shared->Prop} :
  ∀(r j:Nat) (h:Heap) (tk:Nat) (z:Value) (c:Nat) (f:Th),ts.length - (j+1)=r->j+1<=ts.length->(∀b o,b∉k->a.heap.get? b=some o->h.get? b=some o)->hz a<=h.objs.size->a.toks<=tk->
   h.get? g=some (seqObj "list" #[z,z] c)->S (j+1) h->Rd a.heap (k++mu) z (thD f)->
   (∀v h' p,(∀b o,b∉k->a.heap.get? b=some o->h'.get? b=some o)->hz a<=h'.objs.size->a.toks<=p->Rd a.heap (k++mu) v (thD ((ts.drop (j+1)).foldl mxT f))->Rr (.ok (.ret v)) {a with heap:=h',toks:=p})->
   codeAny X.M A (.builtin "max.loop" ⟨[.ref I,.none,.ref g],[]⟩) Rr {a with heap:=h,toks:=tk}:=by
 have t:(toString "max"++toString ".loop":String)="max.loop":=by decide
 have L:(ts.map thD).length=ts.length:=zqn ..;have N:∀b o,a.heap.get? b=some o->b≠g:=λb o e q=>absurd (zpI e) (zpO.mpr (q▸C));have a1:∀b∈fp,b≠g:=λb m q=>absurd (l.lt b m) (zpO.mpr (q▸C));have O:g∉k:=λq=>absurd (a0 _ q) (zpO.mpr C);intro r
 induction r with
 | zero=>
  intro j h tk z c f hr hj kh y T Q D U E;have a2:j+1=ts.length:=by sleep 27
  refine zp3 PySem.F.entry_max_loop ?_;rw [zpV PySem.F.plain_max_loop _];show wpAny _ A.in1 (seqItems? (.ref g)>>=_) _ _ _;refine wpB (wpAny_seqItems Q rfl ?_);show wpAny _ A.in1 (tryCatch (pyNext (.ref I)) _>>=_) _ _ _;refine wpB (wpAny_tryCatch (wpt (l.W.done _ _ _ (by rw[L,<-a2];exact D) λh' p w V Y=>?_)));have x:=w g _ O Q;show wpAny _ A.in1 (updateSeq g (λ_=>#[])>>=_) _ _ _;refine wpB (wpAny_updateSeq x rfl (wpB (wpAny_letGo (zpR ?_))));have K:=zpW h' g (Obj.mapSeq λ_=>(#[]:Array Value));refine E z _ _ (λb o m e=>(K.2 b (N b o e)).trans (w b o m (kh b o m e))) (by rw[K.1];exact zpF y Y) (zpF T V) ?_;have:ts.drop (j+1)=[]:=by simp;sleep 28
  rw[this];exact U
 | succ r ih=>
  intro j h tk z c f hr hj kh y T Q D U E;have i:j+1<ts.length:=by sleep 25
  refine zp3 PySem.F.entry_max_loop ?_;rw [zpV PySem.F.plain_max_loop _];show wpAny _ A.in1 (seqItems? (.ref g)>>=_) _ _ _;refine wpB (wpAny_seqItems Q rfl ?_);show wpAny _ A.in1 (tryCatch (pyNext (.ref I)) _>>=_) _ _ _;refine wpB (wpAny_tryCatch (wpt (l.W.item (j+1) _ _ _ (by rw[L];exact i) D λv h' p hP B w V Y=>?_)));have rv:=l.rd (j+1) v _ hP (thD_get i);have x:=w g _ O Q;have G:∀b o,b∉k->a.heap.get? b=some o->h'.get? b=some o:=λb o m e=>w b o m (kh b o m e);have mv:∀{u:Value}{d:PyData},Rd a.heap (k++mu) u d->Rd h' (k++mu) u d:=λru=>ru.move λb o m e=>⟨m,G b o (λq=>m (zpC _ q)) e⟩;refine wpB (zpR ?_);show wpAny _ A.in1 (tryCatch (holding [v,v] (richCompare .Gt v z>>=_)) _>>=_) _ _ _;refine wpB (wpAny_tryCatch (zpS (wpB (zhT (X:=X) (n:=n) (s:={a with heap:=h',toks:=p}) (mu:=k++mu) (mu':=k++mu) R.in1 (xs:=thL (thAt ts (j+1))) (ys:=thL f) (mv rv) (mv U) rfl ?_))));rw[zgZ];refine wpB (zpS (wpAny_truthy_bool ?_));refine wpB (wpAny_letGo (zpR ?_));have H:ts.drop (j+1)=thAt ts (j+1)::ts.drop (j+1+1):=by rw[List.drop_eq_getElem_cons i];simp[thAt,i]
  rw[H,List.foldl_cons] at E;cases Z:ltT f (thAt ts (j+1)) with
  | true=>
   have J:mxT f (thAt ts (j+1))=thAt ts (j+1):=by unfold mxT;rw[Z];rfl
   rw[J] at E;rw[if_pos rfl];have K:=zpW h' g (Obj.mapSeq λ_=>#[v,v]);obtain⟨c2,a3⟩:∃c2,(h'.update g (Obj.mapSeq λ_=>#[v,v])).get? g=some (seqObj "list" #[v,v] c2):=⟨_,get?_update_seq x λ_=>#[v,v]⟩;refine wpB (wpAny_updateSeq x rfl (wpB (wpAny_letGo ?_)));rw[t];exact zpR ⟨zqJ PySem.F.plain_max_loop _,ih (j+1) _ _ v c2 _ (by sleep 24) i (λb o m e=>(K.2 b (N b o e)).trans (G b o m e)) (by rw [K.1];exact zpF y Y) (zpF T V) a3
    (l.W.frame _ _ _ B λb Z o e=>(K.2 b (a1 b Z)).trans e) rv E⟩
  | false=>
   have J:mxT f (thAt ts (j+1))=f:=by unfold mxT;rw[Z];rfl
   rw[J] at E;rw[if_neg (by ext)];refine wpB (wpAny_letGo ?_);rw[t];exact zpR ⟨zqJ PySem.F.plain_max_loop _,ih (j+1) _ _ z c _ (by sleep 24) i G (zpF y Y) (zpF T V) x B U E⟩
noncomputable def maxT:List Th->Th
 | []=>("","")
 | t::ts=>ts.foldl mxT t
theorem zlH (a:Value):argsOk "max" ⟨[a],[]⟩:=by kernel_rfl
theorem zo6 (L:A.handled=none){ts:List Th}(R:Rm (n+1) A) (j:0<ts.length):Cl X A mu (.builtin "max") [.list (ts.map thD)] (thD (maxT ts)):=λvs s E Q st tk M N J r h=>by
 have i:(toString "max"++toString ".loop":String)="max.loop":=by decide
 have y:(ts.map thD).length=ts.length:=zqn ..;refine Rds.one r λ_ a=>?_;refine kmb_tree PySem.F.kind_max PySem.F.plain_max PySem.F.entry_max (zlH _) ?_;show wpAny _ A.in1 (Builtin.Builtins.bindParams "max" ["key","default"] 0 ⟨[],[]⟩>>=_) _ _ s;refine wpB (wpAny_of_eq (show Builtin.Builtins.bindParams "max" ["key","default"] 0 ⟨[],[]⟩=pure [none,none] from rfl) ?_);refine wpB (zpR ?_);refine wpB (zfR (X:=X) (A:=A.in1) L J a _ _ λI O K P S c d f x=>?_);refine wpB (wpAny_newList ?_ (zqy _));rw[i];refine zpR ⟨zqJ PySem.F.plain_max_loop _,?_⟩;obtain⟨t,g,rfl⟩:∃t g,ts=t::g:=by cases ts with|nil=>simp at j|cons t g=>exact⟨t,g,rfl⟩
 have gS:(c.heap.push (seqObj "list" #[] 0)).get? c.heap.objs.size=some (seqObj "list" #[] 0):=zpG _ rfl;have k0:∀b o,c.heap.get? b=some o->(c.heap.push (seqObj "list" #[] 0)).get? b=some o:=λb o e=>zpD _ e;have z:c.heap.objs.size∉K:=λq=>absurd (x _ q).2 (zpZ _);have B:∀b∈O,b≠c.heap.objs.size:=λb m=>zqV (f.lt b m);have C:∀b o,c.heap.get? b=some o->b≠c.heap.objs.size:=λb o e=>zqV (zpI e);refine zp3 PySem.F.entry_max_loop ?_;rw [zpV PySem.F.plain_max_loop _];show wpAny _ A.in1 (seqItems? (.ref _)>>=_) _ _ _;refine wpB (wpAny_seqItems gS rfl ?_);show wpAny _ A.in1 (tryCatch (pyNext (.ref I)) _>>=_) _ _ _;refine wpB (wpAny_tryCatch (wpt (f.W.item 0 _ _ _ (by rw[y];exact j) (f.W.frame _ _ _ f.st λb _ o e=>k0 b o e) λv h' T U l p V u=>?_)));have Y:=f.rd 0 v (thD t) U rfl;have w:=p _ _ z gS;refine wpB (zpR ?_);have D:=zpW h' c.heap.objs.size (Obj.mapSeq λ_=>#[v,v]);obtain⟨c2,G⟩:∃c2,(h'.update c.heap.objs.size (Obj.mapSeq λ_=>#[v,v])).get? c.heap.objs.size=some (seqObj "list" #[v,v] c2):=⟨_,get?_update_seq w λ_=>#[v,v]⟩;show wpAny _ A.in1 (updateSeq c.heap.objs.size (λ_=>#[v,v])>>=_) _ _ _;have u:c.heap.objs.size+1<=h'.objs.size:=by have u:(c.heap.push (seqObj "list" #[] 0)).objs.size<=h'.objs.size:=u;rwa[size_push'] at u
 refine wpB (wpAny_updateSeq w rfl ?_);rw[i];refine zpR ⟨zqJ PySem.F.plain_max_loop _,zlG R f (λb m=>(x b m).2) (zpB _) _ 0 _ _ v c2 t rfl j (λb o m e=>(D.2 b (C b o e)).trans (p b o m (k0 b o e))) (by rw [D.1];exact zqE u) V G
  (f.W.frame _ _ _ l λb Z o e=>(D.2 b (B b Z)).trans e) Y λv' h3 H k3 z3 t3 r3=>?_⟩
 have aL:AftL X A K c {c with heap:=h3,toks:=H}:=⟨.but λb o m e=>k3 b o (λq=>m (zpx _ q)) e,rfl,id,z3,t3,λo e=>⟨o,k3 _ _ (λq=>absurd (J _ N.tb) (zpO.mpr (x _ q).1)) e⟩⟩;have k:Aft X A s c:=⟨d.keep,d.os,d.gens,d.size,d.toks,d.live⟩;refine h v' _ (AftL.toAft ((k.toL.trans aL).fresh λb m=>.inr (zpK (x b m).1))) ?_;exact r3.move λb o m e=>⟨λq=>m (zpw _ q),k3 b o (λq=>m (zpC _ q)) e⟩
end
structure Blt2 (X:Wd):Prop extends Blt X where
 max:Top1 X "max" (.builtin "max")
 sorted:Top1 X "sorted" (.builtin "sorted")
 enumerate:Top1 X "enumerate" (.type "enumerate")
 tuple:Top1 X "tuple" (.type "tuple")
section
variable {mu fr mu0:LA}{c c1 c2:Ctx}{n:Nat}{f:Fl}{ss:List Stmt}
theorem zaE (h:St X A env mu fr c ss f c1) (b:∀x d,c2.loc.lookup x=some d->c1.loc.lookup x=some d) (e:∀x d,c2.cel.lookup x=some d->c1.cel.lookup x=some d) (g:c2.own=c1.own):St X A env mu fr c ss f c2:=λs l E Q i j=>
 h s l E Q (λk s' a l' m=>i k s' a (l'.less b e g) m) λv s' a l' n=>j v s' a (l'.less b e g) n
theorem zc3 (h:∀s,Loc X A env mu c s->StF X A env mu fr mu0 c ss f):StF X A env mu fr mu0 c ss f:=λs l=>h s l s l
theorem zbd {x y:Str}{d d':PyData}(h:c.loc.lookup x=none) (e:c.loc.lookup y=some d):(c.set x d').loc.lookup y=some d:=by
 show (setL c.loc x d').lookup y=some d;rw[zk]
 by_cases a:y=x
 .subst a;rw[h] at e;cases e
 .rw [if_neg a];exact e
theorem zcG (t u:Th):PyData.eqv (thD t) (thD u)=(t==u):=by
 have h:PyData.eqv (thD t) (thD u)=((t.1==u.1)&&((t.2==u.2)&&true)):=by
  rfl
 rw[h,Bool.and_true];show _=(t.1==u.1&&t.2==u.2)
 rfl
theorem zfc (t:Th):dep (thD t)=1:=by
 rfl
theorem zoc (ts:List Th):deps (ts.map thD)<=1:=zdQ λd m=>by
 obtain⟨t,_,rfl⟩:=zqa.mp m;exact zqF (zfc t)
theorem zae {ts:List Th}(h:∀t∈ts,good (thD t)=true):good (.list (ts.map thD))=true:=by
 refine zl.mpr ⟨?_,?_⟩
 .show PyData.canLayAll0 (ts.map thD)=true;refine zaa.mpr λd m=>?_;obtain⟨t,a,rfl⟩:=zqa.mp m;exact(zl.mp (h t a)).1
 .show deps (ts.map thD)+1<40;have:=zoc ts;lia
theorem zij (t:Th):∀ts:List Th,((ts.map thD).any λy=>PyData.eqv y (thD t))=ts.contains t
 | []=>rfl
 | u::ts=>by
  rw[List.map_cons,List.any_cons,zij t ts,zcG,List.contains_cons]
  congr 1
  rw[Bool.eq_iff_iff,beq_iff_eq,beq_iff_eq];exact eq_comm
theorem za7 (t:Th) (ts:List Th):((ts.map thD).countP λy=>PyData.eqv y (thD t))=ts.count t:=by
 rw[List.countP_map,List.count];refine congrArg (λp=>List.countP p ts) (funext λu=>?_);exact zcG u t
theorem zoC {a b:Expr}{p:Pos}{q r:Bool}(_:X.Ok) (c:Ts X A env a q s) (d:q=true->∀s',Aft X A s s'->Ts X A env b r s'):Ts X A env (.BoolOp .And [a,b] p) (q&&r) s:=by
 refine zbQ (zaj c (λ_ h=>by rw[h];rfl) (λh=>nomatch h) λh _ s' a=>?_);have e:q=true:=by cases q with|true=>rfl|false=>exact absurd ⟨rfl,rfl⟩ h
 subst e;rw[Bool.true_and];refine zaj (d rfl s' a) (λ_ h=>h) (λh=>nomatch h) λh _ f i=>?_;have g:r=true:=by cases r with|true=>rfl|false=>exact absurd ⟨rfl,rfl⟩ h
 subst g;exact zgm
theorem zoB {a b:Expr}{p:Pos}{q r:Bool}(_:X.Ok) (c:Ts X A env a q s) (d:q=false->∀s',Aft X A s s'->Ts X A env b r s'):Ts X A env (.BoolOp .Or [a,b] p) (q||r) s:=by
 refine zbQ (zaj c (λh=>nomatch h) (λ_ h=>by rw[h];rfl) λ_ h s' a=>?_);have e:q=false:=by cases q with|false=>rfl|true=>exact absurd ⟨rfl,rfl⟩ h
 subst e;rw[Bool.false_or];refine zaj (d rfl s' a) (λh=>nomatch h) (λ_ h=>h) λ_ h f i=>?_;have g:r=false:=by cases r with|false=>rfl|true=>exact absurd ⟨rfl,rfl⟩ h
 subst g;exact zgm
noncomputable def lackK (one other:List Th) (k:Nat):Bool:=!other.contains (thAt one k)&&(!(one.take k).contains (thAt one k)||ltT (maxT other) (thAt one k))
noncomputable def lackRow (one other:List Th) (n:Nat):List Th:=((List.range n).filter (lackK one other)).map (thAt one)
noncomputable def zcz (one other:List Th):List Th:=zbU (lackRow one other one.length)
theorem zcS (b a:List Th) (n:Nat):lackRow b a (n+1)=if lackK b a n then lackRow b a n++[thAt b n] else lackRow b a n:=by
 unfold lackRow;rw[List.range_succ,List.filter_append,zqC]
 by_cases h:lackK b a n
 .simp [h]
 .simp [h]
theorem zen (b a:List Th) (n:Nat):(lackRow b a n).length<=n:=by
 unfold lackRow;rw[zqn];exact Nat.le_trans (List.length_filter_le _ _) (by simp)
theorem zgr (O:X.Ok) (B:Blt2 X) (hA:A.handled=none){g f:List Th}(M:∀t∈g,good (thD t)=true) (h2:∀t∈f,good (thD t)=true) (N:0<f.length) (a0:g.length<60) (a1:f.length<60) :
  zba X A (n+3) 48 [.list (g.map thD),.list (f.map thD)] (.ret (.list ((zcz g f).map thD))):=zP.ofF λP env mu' fr' R D IF F C=>by
 rw[hA] at D;have hs:sizeLine=2 ^ 24:=rfl;have E:=B.toBlt;show (_:List Stmt->_->Prop) (_::_) _;refine zc3 λs0 l0=>?_;refine zdd F O (ys:=[]) ⋯ ⋯ (λs l=>zbG evs_nil (by ext)) (λb m=>m) λb hb K=>?_;have Q:=λm=>sound (mu:=b::mu') O E (zai (k:=n+3)) R D K.toStat m;have a4:=zae M;have S:=zae h2;let j (i:Nat):Ctx:={(startC (zd (stm 48)) (zA (stm 48)) [.list (g.map thD),.list (f.map thD)]).set "row" (ptr b) with own:=[(b,.lst ((lackRow g f i).map thD))]};have h:(g.map thD).length=g.length:=zqn ..;refine zL (c1:=j g.length) (?_:St1 X P env (b::mu') (b::fr') (j 0) _ .next (j g.length)) ?_
 .have hr:(zac 0 1 ((g.map thD).length:Int).toNat).length=g.length:=by rw[zx,h];rfl
  have T:j g.length=j (zac 0 1 ((g.map thD).length:Int).toNat).length:=by rw[hr]
  rw[T];refine zdg K O (xs:=zac 0 1 ((g.map thD).length:Int).toNat) (c:=j 0) j (λi=>(j i).set "k" (.int (i:Nat))) rfl (λi=>rfl) (λ_=>rfl)
   (λs l=>za5 K.toStat O D l ⋯ E.range ⋯ (zcF K.toStat O E l ⋯ ⋯ (xs:=g.map thD) (by rw[h];sleep 125) ((Q 3).e ⋯ s l)) (by lia) (by rw[h];sleep 130)) ?_
  intro i d hd w a5 z;have L:i<g.length:=by
   have:=(zpJ.mp hd).1;rwa[hr] at this
  have U:d=.int (i:Nat):=by
   rw[zX (by rw[h];exact L)] at hd;cases hd;simp
  subst U;refine⟨zbK z ⋯,.next,.inl rfl,?_⟩;have r:=λm=>sound (mu:=w) O E (zai (k:=n+3)) R D z.toStat m;have o:∀s,Loc X P env w ((j i).set "k" (.int (i:Nat))) s->∀{p p1 p2:Pos},Ev X P env w (.Subscript (.Name "one" p) (.Name "k" p1) p2) (thD (thAt g i)) s:=λs l {_ _ _}=>
   ev_itemList (xs:=g.map thD) (i:=(i:Nat)) O l.tbm ((r 3).e ⋯ s l) (λs' a=>(r 3).e ⋯ s' (l.aft O a)) ⋯ (by lia) (by sleep 41) (by rw[Int.toNat_natCast];exact thD_get L)
  have G:good (thD (thAt g i))=true:=by
   have e:=thD_get L;refine M _ ?_;simp[thAt,L]
  have Z:(j (i+1)).own=[(b,.lst ((if lackK g f i then lackRow g f i++[thAt g i] else lackRow g f i).map thD))]:=by
   show [(b,Own.lst ((lackRow g f (i+1)).map thD))]=_;rw[zcS]
  refine zaE (c1:={(j i).set "k" (.int (i:Nat)) with own:=(j (i+1)).own}) (ze z (c':={(j i).set "k" (.int (i:Nat)) with own:=(j (i+1)).own}) (zB z O (q:=lackK g f i) (λs l=>?_) ?_) st_nil) (λx d e=>zbd (c:=j i) (x:="k") (d':=.int (i:Nat)) ⋯ e) (λx d e=>e) rfl
  .have l':=l;refine zoC O (zQ O l.tbm (o s l) (λs' a=>(r 3).e ⋯ s' (l.aft O a)) ⋯ (b:=.list (f.map thD)) (q:=!f.contains (thAt g i)) λu v s' a H I=>?_) λhq s' a=>?_
   .rw [<-zij];exact zaP R H I G S
   have V:=l.aft O a;refine zoB O (zQ O l.tbm (o s' V) (λW J=>?_) ⋯ (b:=.list ((g.take i).map thD)) (q:=!(g.take i).contains (thAt g i)) λu v s' a H I=>?_) λa6 W J=>?_
   .have l2:=V.aft O J;rw[List.map_take,<-zfd (xs:=g.map thD) (k:=i) (by rw[h];sleep 5)];refine zZ O l2.tbm l2.low ((r 3).e ⋯ W l2) (λ_ _=>zay) (λY J=>zY ((r 3).e ⋯ Y (l2.aft O J))) (by rw[h];sleep 37)
   .rw [<-zij];exact zaP R H I G (zae λt m=>M t (List.mem_of_mem_take m))
   .have l2:=V.aft O J;refine zQ O l.tbm (b:=thD (maxT f)) (o W l2) (λs3 a3=>?_) ⋯ λu v s' a H I=>?_
    .exact zU z.toStat O (l2.aft O a3) ⋯ ⋯ B.max (.builtin _) ⋯ (ds:=[.list (f.map thD)]) rfl (zc l.tbm ⋯ ((r 3).e ⋯ s3 (l2.aft O a3)) λ_ _=>evs_nil) (zo6 (n:=n+2) D R N)
    .have:=zmX (X:=X) R (xs:=thL (thAt g i)) (ys:=thL (maxT f)) H I rfl;rwa[zgZ] at this
  .by_cases hk:lackK g f i=true
   .rw [if_pos hk];rw[Z,if_pos hk,zqC];refine ze z (c':={(j i).set "k" (.int (i:Nat)) with own:=[(b,.lst ((lackRow g f i).map thD++[thD (thAt g i)]))]}) ?_ st_nil;exact zan z O (pre:=[]) (post:=[]) ⋯ ⋯ ⋯ rfl (by simp) ⋯ ⋯ (by have:=zen g f i;rw[List.length_map];sleep 117) λs l=>o s l
   .rw [if_neg hk];rw[Z,if_neg hk];exact st_nil
 .refine zam (mu':=mu') (pre:=[]) (post:=[]) (x:="row") rfl ⋯ (λy m=>List.mem_cons_of_mem _ m) hb l0.tbm (λy m=>by simp[owns] at m) ?_;refine zeb (zaf O λs l=>?_) (λb m=>m);have SE:=λm=>sound (mu:=mu') O E (zai (k:=n+3)) R D F.toStat m;refine zU F.toStat O l ⋯ ⋯ B.sorted (.builtin _) ⋯ (ds:=[.list ((lackRow g f g.length).map thD)]) rfl (zc l.tbm ⋯ ((SE 3).e ⋯ s l) λ_ _=>evs_nil) (zgh (n:=n+1) R (by have:=zen g f g.length;sleep 129))
end
theorem Rds.rev {h:Heap}{xs:List PyData}{vs:List Value}(r:Rds h mu vs xs):Rds h mu vs.reverse xs.reverse:=
 r.indL (Q:=λvs xs=>Rds h mu vs.reverse xs.reverse) .nil λa b=>by rw[List.reverse_cons,List.reverse_cons];exact b.append (.cons a .nil)
theorem zfe {a:Type}{xs:List a}{k:Nat}(h:k<=xs.length):cutL xs (some (k:Int)) none=xs.drop k:=by
 have:clipAt xs.length (k:Int)=k:=zcK (by sleep 0);simp only [cutL,cutLo,cutHi,this,Option.elim];exact List.take_of_length_le (by rw[List.length_drop];exact zpB _)
theorem zdK {a:Type}{p:Nat->Bool}{g:Nat->a}:∀l:List Nat,(l.map λk=>if p k=true then [g k] else []).flatten=(l.filter p).map g
 | []=>rfl
 | k::l=>by
  rw[List.map_cons,List.flatten_cons,zdK l]
  by_cases h:p k=true
  .rw [if_pos h,List.filter_cons_of_pos h];rfl
  .rw [if_neg h,List.filter_cons_of_neg h];rfl
section
variable {n:Nat}
def zD (X:Wd) (k:Nat) (f:Str) (ds:List PyData) (d:PyData):Prop:=∀(A:Around) (mu:LA),Rm k A->A.handled=none->∃fv,Top1 X f fv/\Fn X fv/\Cl X A mu fv ds d
theorem zbw (S:Stat X env sc) (O:X.Ok) (R:Rm n A) (a:A.handled=none) (l:Loc X A env mu c s){f:Str}{b p:Pos}{es:List Expr}{ds:List PyData}{d:PyData}(g:sc.names.lookup f=some .globalImplicit) (hd:(f==("__debug__":Str))=false)
  (C:zD X n f ds d) (h:es.all plainArg=true) (i:es.length=ds.length) (e:Evs X A env mu p es ds s):Ev X A env mu (.Call (.Name f b) es [] p) d s:=by
 obtain⟨j,T,F,cl⟩:=C A mu R a;exact zU S O l g hd T F h i e cl
theorem ziU (_:X.Ok) (r:Mu X A mu) (t:Low mu s){l st:Expr}{p p':Pos}{xs:List PyData}(v:Ev X A env mu l (.list xs) s) (es:∀s',Aft X A s s'->Ev X A env mu st (.int (-1)) s')
  (z:xs.length<=sizeLine):Ev X A env mu (.Subscript l (.Slice none none (some st) p') p) (.list xs.reverse) s:=λE Q h=>by
 refine Subscript_ (v _ _ λu c a g=>wpAny_Slice (wpAny_evalPart_none (wpAny_evalPart_none (wpAny_evalPart_some (es c a _ _ λvs i b d=>?_)))));have w:=a.trans b;have g:=g.aft r b;cases d with
 | int _ j=>
 have f:=w.trans (.push {cls:=.type "slice",data:=.fields #[.none,.none,.int (-1) j]});cases g with
 | list n e k=>
  rename_i vs m;have o:=zpD ({cls:=.type "slice",data:=.fields #[.none,.none,.int (-1) j]}:Obj) e;refine tail_any ⟨_,o,rfl⟩ PySem.F.slot_list_getitem.lookup (wpAny_getItem_list_slice ⟨_,o,rfl,_,rfl⟩ (Heap.IsSliceOf.new ..) .none .none (.int _ _) (by simp) ?_ (by rw [List.size_toArray,k.length];exact z)) rfl;rw[krv_pick];refine h _ _ (f.trans (.push _)) (.list (vs:=vs.reverse) (n:=0) (λq=>zpZ _ ((t.aft f) _ q)) (zpG _ rfl) ?_);refine(Rds.push _ (Rds.push _ ?_));exact k.rev
end
noncomputable def missK (f g:List Th) (k:Nat):Bool:=decide (g.count (thAt f k)<(f.drop k).count (thAt f k))
noncomputable def leftK (f g:List Th) (k:Nat):Bool:=decide (f.count (thAt g k)<(g.take (k+1)).count (thAt g k))
noncomputable def missT (f g:List Th):List Th:=((List.range f.length).filter (missK f g)).map (thAt f)
noncomputable def leftT (f g:List Th):List Th:=((List.range g.length).filter (leftK f g)).map (thAt g)
noncomputable def zfq (f g:List Th):PyData:=.list [.tuple [.list ((zcz f g).map thD),.list ((zcz g f).map thD)],.tuple [.list (((missT f g).reverse).map thD),.list ((leftT f g).map thD)]]
noncomputable def ysOf (p:Nat->Bool) (f:List Th):List (List PyData):=(List.range f.length).map λk=>if p k=true then [thD (thAt f k)] else []
theorem zb6 (p:Nat->Bool) (f:List Th):(ysOf p f).flatten=(((List.range f.length).filter p).map (thAt f)).map thD:=by
 unfold ysOf;rw[zdK (g:=λk=>thD (thAt f k)),List.map_map];rfl
theorem zhE {p:Nat->Bool}{f:List Th}{i:Nat}(h:i<f.length):(ysOf p f)[i]? = some (if p i=true then [thD (thAt f i)] else []):=by
 unfold ysOf;simp[h]
theorem zgA {p:Nat->Bool}{f:List Th}:(ysOf p f).flatten.length<=f.length:=by
 rw[zb6,zqn,zqn];exact Nat.le_trans (List.length_filter_le _ _) (by simp)
section
variable {n:Nat}
theorem ziY {F:FT}(b:∀m,zoy X A env sc mu F m) (O:X.Ok) (l:Loc X A env mu c s){x y:Expr}{p:Pos}{f:List Th}{i:Nat}(d:zav y=true) (g:i<f.length) (k:f.length<1000)
  (h:evE F sc 3 c x=some (.list (f.map thD))) (j:evE F sc 3 c y=some (.int (i:Nat))):Ev X A env mu (.Subscript x y p) (thD (thAt f i)) s:=
 ev_itemList (xs:=f.map thD) (i:=(i:Nat)) O l.tbm ((b 3).e h s l) (λs' a=>(b 3).e j s' (l.aft O a)) d (by lia) (by sleep 41) (by rw[Int.toNat_natCast];exact thD_get g)
theorem zkM (O:X.Ok) (B:Blt2 X) (hA:A.handled=none){f g:List Th}(Q:∀t∈f,good (thD t)=true) (S:∀t∈g,good (thD t)=true) (a0:f.length<60) (a1:g.length<60)
  (L1:zD X n "_law_lacking" [.list (f.map thD),.list (g.map thD)] (.list ((zcz f g).map thD))) (L2:zD X n "_law_lacking" [.list (g.map thD),.list (f.map thD)] (.list ((zcz g f).map thD))) :
  zba X A n 49 [.list (f.map thD),.list (g.map thD)] (.ret (zfq f g)):=zP.ofX λA' env mu' fr' R w IF F C=>by
 rw[hA] at w;have x:=B.toBlt;have r:=λm=>sound (mu:=mu') O x (zai (k:=n)) R w F.toStat m;have hs:sizeLine=2 ^ 24:=rfl;have T:=zae Q;have U:=zae S;have z:(f.map thD).length=f.length:=zqn ..;have E:(g.map thD).length=g.length:=zqn ..;show (_:List Stmt->_->Prop) (_::_) _;refine zz F (zN F O (ys:=(ysOf (missK f g) f).flatten) (.of ⋯) ⋯ (λs l=>za5 F.toStat O w l ⋯ x.range ⋯ (zcF F.toStat O x l ⋯ ⋯ (xs:=f.map thD) (by rw[z];sleep 125) ((r 3).e ⋯ s l)) (by lia) (by rw[z];sleep 130)) (λ_=>rfl) (zaW F.toStat ⋯ ⋯ ⋯) ?_) ?_
 .refine zaB O (ysOf (missK f g) f) (by rw[zx,z];simp[ysOf]) (by have:=zgA (p:=missK f g) (f:=f);sleep 38) λi d ys hd J K D G V W L M=>?_;have c:=λm=>sound (mu:=G) O x (zai (k:=n)) R w L.toStat m;have j:i<f.length:=by
   have:=(zpJ.mp hd).1;rw[zx,z] at this;exact this
  have H:d=.int (i:Nat):=by
   rw[zX (by rw[z];exact j)] at hd;cases hd;simp
  subst H;rw[zhE j] at J;cases J;have o:good (thD (thAt f i))=true:=Q _ (by simp[thAt,j]);refine zas L ⋯ ⋯ (b:=missK f g i) (zdc λs acc l=>?_) (λI=>?_) (λI=>?_)
  .refine zQ O l.tbm (a:=.int (((f.drop i).map thD).countP λy=>PyData.eqv y (thD (thAt f i)):Nat)) (b:=.int ((g.map thD).countP λy=>PyData.eqv y (thD (thAt f i)):Nat)) (zaO O R l ⋯ ⋯ ⋯ (zae λt m=>Q t (List.mem_of_mem_drop m)) o ?_ λs' a=>ziY c O (l.aft O a) ⋯ j (by sleep 123) ⋯ ⋯) (λs' a=>zaO O R (l.aft O a) ⋯ ⋯ ⋯ U o ((c 3).e ⋯ s' (l.aft O a)) λY Z=>ziY c O ((l.aft O a).aft O Z) ⋯ j (by sleep 123) ⋯ ⋯) ⋯ λu v s' _ ru rv=>?_
   .rw [List.map_drop,<-zfe (xs:=f.map thD) (k:=i) (by rw[z];sleep 5)];exact zZ O l.tbm l.low ((c 3).e ⋯ s l) (λs' a=>zY ((c 3).e ⋯ s' (l.aft O a))) (λ_ _=>zay) (by rw[z];sleep 37)
   .cases ru;cases rv;have:missK f g i=decide ((((g.map thD).countP λy=>PyData.eqv y (thD (thAt f i)):Nat):Int)<(((f.drop i).map thD).countP λy=>PyData.eqv y (thD (thAt f i)):Nat)):=by
     rw[za7,za7];unfold missK;rw[decide_eq_decide];sleep 99
    rw[this];exact zfi
  .rw [if_pos I];exact zaQ O W λs acc l=>ziY c O l ⋯ j (by sleep 123) ⋯ ⋯
  .rw [if_neg (by rw[I];decide)]
 refine zz F (zN F O (ys:=(ysOf (leftK f g) g).flatten) (.of ⋯) ⋯ (λs l=>za5 F.toStat O w l ⋯ x.range ⋯ (zcF F.toStat O x l ⋯ ⋯ (xs:=g.map thD) (by rw[E];sleep 125) ((r 3).e ⋯ s l)) (by lia) (by rw[E];sleep 130)) (λ_=>rfl) (zaW F.toStat ⋯ ⋯ ⋯) ?_) ?_
 .refine zaB O (ysOf (leftK f g) g) (by rw[zx,E];simp[ysOf]) (by have:=zgA (p:=leftK f g) (f:=g);sleep 38) λi d ys hd J K D G V W L M=>?_;have c:=λm=>sound (mu:=G) O x (zai (k:=n)) R w L.toStat m;have j:i<g.length:=by
   have:=(zpJ.mp hd).1;rw[zx,E] at this;exact this
  have H:d=.int (i:Nat):=by
   rw[zX (by rw[E];exact j)] at hd;cases hd;simp
  subst H;rw[zhE j] at J;cases J;have o:good (thD (thAt g i))=true:=S _ (by simp[thAt,j]);refine zas L ⋯ ⋯ (b:=leftK f g i) (zdc λs acc l=>?_) (λI=>?_) (λI=>?_)
  .refine zQ O l.tbm (a:=.int (((g.take (i+1)).map thD).countP λy=>PyData.eqv y (thD (thAt g i)):Nat)) (b:=.int ((f.map thD).countP λy=>PyData.eqv y (thD (thAt g i)):Nat)) (zaO O R l ⋯ ⋯ ⋯ (zae λt m=>S t (List.mem_of_mem_take m)) o ?_ λs' a=>ziY c O (l.aft O a) ⋯ j (by sleep 123) ⋯ ⋯) (λs' a=>zaO O R (l.aft O a) ⋯ ⋯ ⋯ T o ((c 3).e ⋯ s' (l.aft O a)) λY Z=>ziY c O ((l.aft O a).aft O Z) ⋯ j (by sleep 123) ⋯ ⋯) ⋯ λu v s' _ ru rv=>?_
   .rw [List.map_take,<-zfd (xs:=g.map thD) (k:=i+1) (by rw[E];sleep 58)];exact zZ O l.tbm l.low ((c 3).e ⋯ s l) (λ_ _=>zay) (λs' a=>zY ((c 5).e ⋯ s' (l.aft O a))) (by rw[E];sleep 37)
   .cases ru;cases rv;have:leftK f g i=decide ((((f.map thD).countP λy=>PyData.eqv y (thD (thAt g i)):Nat):Int)<(((g.take (i+1)).map thD).countP λy=>PyData.eqv y (thD (thAt g i)):Nat)):=by
     rw[za7,za7];unfold leftK;rw[decide_eq_decide];sleep 99
    rw[this];exact zfi
  .rw [if_pos I];exact zaQ O W λs acc l=>ziY c O l ⋯ j (by sleep 123) ⋯ ⋯
  .rw [if_neg (by rw[I];decide)]
 refine zaf O λs l=>?_;have z2:2<=sizeLine:=by rw[hs];decide
 refine zb1 l.tbm l.low (zc l.tbm ⋯ (zar l.tbm l.low (zc l.tbm ⋯ ?_ λq h=>zc l.tbm ⋯ ?_ λ_ _=>evs_nil) z2) λq h=>zc l.tbm ⋯ (zar l.tbm (l.aft O h).low (zc l.tbm ⋯ ?_ λN P=>zc l.tbm ⋯ ?_ λ_ _=>evs_nil) z2) λ_ _=>evs_nil) z2
 .exact zbw F.toStat O R w l ⋯ ⋯ L1 ⋯ rfl (zc l.tbm ⋯ ((r 3).e ⋯ s l) λs' a=>zc l.tbm ⋯ ((r 3).e ⋯ s' (l.aft O a)) λ_ _=>evs_nil)
 .have l:=l.aft O h;exact zbw F.toStat O R w l ⋯ ⋯ L2 ⋯ rfl (zc l.tbm ⋯ ((r 3).e ⋯ q l) λs' a=>zc l.tbm ⋯ ((r 3).e ⋯ s' (l.aft O a)) λ_ _=>evs_nil)
 .have l:=l.aft O h;rw[List.map_reverse];refine ziU O l.tbm l.low (xs:=(missT f g).map thD) ((r 3).e ?_ q l) (λs' a=>(r 3).e ⋯ s' (l.aft O a)) ?_
  .show some (PyData.list (ysOf (missK f g) f).flatten)=_;rw[zb6];rfl
  .have:=zgA (p:=missK f g) (f:=f);rw[zb6] at this;unfold missT;sleep 38
 .have l:=(l.aft O h).aft O P;refine(r 3).e ?_ N l;show some (PyData.list (ysOf (leftK f g) g).flatten)=_;rw[zb6];rfl
end
theorem zeR (l:Addr) (items:Array Value) (n:Nat) (x:Value) (e:Value->Bool) (j:Nat) (v:j<items.size) (q:e items[j]=true) (k:Nat) (f:items.size<=sizeLine) :
  ∀i:Nat,j - i=k->i<=j->(∀m (z:m<items.size),i<=m->m<j->e items[m]=false)->Meets (Builtin.«list.remove.loop» ⟨[.ref l,x,rawInt i],[]⟩)
   (λA R s=>s.heap.get? l=some {cls:=.type "list",dict:=none,data:=.seq items n,slots:=#[]}/\(∀y,y∈items->EqAt A.in1 s y x (e y))/\R (.ok (.ret .none)) {s with heap:=s.heap.update l (Obj.mapSeq λxs=>xs.eraseIdxIfInBounds j)}):=by
 induction k with
 | zero=>
  intro i B r a prog w A R s h;obtain⟨C,g,d,tk,D⟩:=s;obtain⟨c,p,h⟩:=h;have o:i=j:=by sleep 27
  subst o
  wp_walk using wpAny_loadPart' c
  have t:items[((i:Nat):Int).toNat]? = some items[i]:=by simp[v]
  rw[t];refine wpB (p _ (Array.getElem_mem v) prog w _ _ ?_);rw[q];have u:(items.eraseIdxIfInBounds i).size<=sizeLine+1:=zpF (size_erased items _) (Nat.le_succ_of_le f)
  wp_walk using (wpAny_updateSeq c rfl (hz:=f) (_hz':=u)),wpAny_loadPart' c
  simpa using h
 | succ k E=>
  intro i B r a prog w A R s h;obtain⟨C,g,d,tk,D⟩:=s;obtain⟨c,p,h⟩:=h;have b:i<items.size:=by sleep 18
  wp_walk using wpAny_loadPart' c
  have t:items[((i:Nat):Int).toNat]? = some items[i]:=by simp[b]
  have F:((i:Int)+1)=((i+1:Nat):Int):=by push_cast;rfl
  rw[t];refine wpB (p _ (Array.getElem_mem b) prog w _ _ ?_);rw[a i b (zpB _) (by sleep 25)]
  wp_walk
  rw[F];exact⟨zqJ plain_remove_loop _,zp3 entry_remove_loop (by
   rw[zpV plain_remove_loop _];exact E (i+1) (by sleep 24) (by sleep 26) (λm z H G=>a m z (by sleep 57) G) prog w A R _ ⟨c,p,h⟩)⟩
theorem zeW (l:Addr) (items:Array Value) (n:Nat) (x:Value) (e:Value->Bool) (j:Nat) (k:j<items.size)
  (a:e items[j]=true) (b:∀m (f:m<items.size),m<j->e items[m]=false) (c:items.size<=sizeLine) :
  Meets (Builtin.«list.remove» ⟨[.ref l,x],[]⟩)
   (λA R s=>s.heap.get? l=some {cls:=.type "list",dict:=none,data:=.seq items n,slots:=#[]}/\(∀y,y∈items->EqAt A.in1 s y x (e y))/\R (.ok (.ret .none)) {s with heap:=s.heap.update l (Obj.mapSeq λxs=>xs.eraseIdxIfInBounds j)}):=by
 intro prog w A R s h;obtain⟨q,g,d,tk,r⟩:=s;obtain⟨i,o,h⟩:=h
 wp_walk using wpAny_loadPart' i
 exact⟨zqJ plain_remove_loop _,zp3 entry_remove_loop (by
  rw[zpV plain_remove_loop _];exact zeR l items n x e j k a _ c 0 rfl (zqy _) (λm f _ p=>b m f p) prog w A R _ ⟨i,o,h⟩)⟩
theorem Rds.eraseIdx {h:Heap}{xs:List PyData}{vs:List Value}{j:Nat}(c:Rds h mu vs xs):Rds h mu (vs.eraseIdx j) (xs.eraseIdx j):=by
 induction j generalizing xs vs with
 | zero=>induction xs using List.casesOn with
  | nil=>cases c;exact .nil
  | cons x xs=>cases c with|cons a b=>exact b
 | succ j d=>induction xs using List.casesOn with
  | nil=>cases c;exact .nil
  | cons x xs=>cases c with|cons a b=>exact .cons a (d b)
noncomputable def ixT (t:Th) (ts:List Th):Nat:=ts.idxOf t
theorem zhl {t:Th}{ts:List Th}(_:t∈ts):ts.eraseIdx (ixT t ts)=ts.erase t:=by
 unfold ixT;rw[List.erase_eq_eraseIdx_of_idxOf ⋯]
section
variable {c c':Ctx}{a:Addr}{pre post:List (Addr×Own)}{n:Nat}
theorem zcc {a b:Type}(f:a->b):∀(l:List a) (j:Nat),(l.eraseIdx j).map f=(l.map f).eraseIdx j
 | [],_=>by simp
 | _::_,0=>rfl
 | x::l,j+1=>by simp[zcc f l j]
theorem zec (F:Frm X A env sc mu fr) (O:X.Ok) (R:Rm n A){x:Str}{xp ap p p':Pos}{e:Expr}{t:Th}{ts:List Th}(q:sc.names.lookup x=some .local) (hd:(x==("__debug__":Str))=false) (V:c.loc.lookup x=some (ptr a)) (N:c.own=pre++(a,.lst (ts.map thD))::post) (B:a∈fr) (W:(ap.endLine==p.line)=true)
  (P:plainArg e=true) (Y:ts.length<=1000) (C:t∈ts) (S:∀u∈ts,good (thD u)=true) (Z:∀s,Loc X A env mu c s->Ev X A env mu e (thD t) s):St1 X A env mu fr c (.Expr (.Call (.Attribute (.Name x xp) "remove" ap) [e] [] p) p') .next {c with own:=pre++(a,.lst ((ts.erase t).map thD))::post}:=λs l E Q h _=>by
 have d:(a,Own.lst (ts.map thD))∈c.own:=by rw[N];simp
 refine wpAny_Expr ?_ (by unfold interactive;rw[F.scope,F.kind];rfl) (zC ⋯);refine zcl F.toStat O l q hd V d PySem.F.slot_list_remove PySem.F.type_list_remove W (by simp [P]) (ds:=[thD t]) rfl (by simp) (λv w=>zc l.tbm P (Z v (l.aft O w)) λ_ _=>evs_nil) λvs b f z=>?_;cases z with|cons r rr=>
 cases rr;have l₂:=l.aft O f;obtain⟨us,m,D,G⟩:=l₂.own _ d;have j:us.length=ts.length:=by rw[G.length,zqn]
 have c1:PyData.canLayAll0 (ts.map thD)=true:=(zl.mp (zae S)).1;have q2:=zl.mp (S t C);obtain⟨as,T⟩:=G.reads c1;obtain⟨bs,r2⟩:=r.reads q2.1;have g:∀k (q:k<us.toArray.size),PyData.eqv (readOf b.heap us.toArray[k]) (thD t)=(thAt ts k==t):=λk q=>by
  have e1:us.map (readOf b.heap)=ts.map thD:=readsAll_map _ _ _ c1 T;have H:k<us.length:=by simpa using q
  have e3:readOf b.heap us[k]=thD (thAt ts k):=by
   have:(us.map (readOf b.heap))[k]? = (ts.map thD)[k]?:=by rw[e1]
   rw[thD_get (by sleep 32),zqS,zpN H] at this;exact zqr this
  show PyData.eqv (readOf b.heap us.toArray[k]) (thD t)=_;rw[List.getElem_toArray,e3,zcG]
 have o:ixT t ts<ts.length:=List.idxOf_lt_length_iff.mpr C;have I:thAt ts (ixT t ts)=t:=by
  unfold thAt ixT;have:ts[List.idxOf t ts]? = some t:=by
   have i:List.idxOf t ts<ts.length:=o;rw[zpN i];exact congrArg some (List.getElem_idxOf i)
  simp[List.getD,this]
 refine call_meets PySem.F.slot_list_remove ⟨_,D,rfl⟩ PySem.F.entry_list_remove (PySem.F.args_list_remove_2 _ _) (zeW a us.toArray m _ (λy=>PyData.eqv (readOf b.heap y) (thD t)) (ixT t ts) (by simpa [j] using o) (by rw [g];simpa using I) (λk q J=>?_) (by rw [List.size_toArray,j];have:sizeLine=2 ^ 24:=rfl;sleep 36)) ⟨D,items_eqAt (by simpa using T) r2 c1 q2.1 (by have:=R.units;have:=r.lay;have:=zfc t;show A.units+1+min (PyData.depthAll (ts.map thD)) (thD t).depth<cLine;sleep 48),?_⟩
 .rw [g];have K:k<ts.length:=by sleep 20
  have hb:=List.not_of_lt_findIdx (xs:=ts) (p:=(· == t)) J;have e5:thAt ts k=ts[k]:=by simp[thAt,K]
  rw[e5];simpa using hb
 have L:=(l₂.ownMu a (zu d (by first|rfl|simp[Own.ads]))).1;have U:=zpW b.heap a (Obj.mapSeq λxs=>xs.eraseIdxIfInBounds (ixT t ts));have kp:Keep (fsOf A) mu b.heap (b.heap.update a (Obj.mapSeq λxs=>xs.eraseIdxIfInBounds (ixT t ts))):=.sameBut U L;have e6:(us.toArray.eraseIdxIfInBounds (ixT t ts))=(us.eraseIdx (ixT t ts)).toArray:=by
  unfold Array.eraseIdxIfInBounds;rw[dif_pos (by simpa [j] using o)];simp
 obtain⟨M,e'⟩:∃M,(b.heap.update a (Obj.mapSeq λxs=>xs.eraseIdxIfInBounds (ixT t ts))).get? a=some (lst (us.eraseIdx (ixT t ts)) M):=⟨_,by rw[get?_update_seq D λxs=>xs.eraseIdxIfInBounds (ixT t ts),e6]⟩;obtain⟨q1,q2⟩:=l₂.own_set (o':=.lst ((ts.erase t).map thD)) (t:=b.toks) N (by first|rfl|simp[Own.ads]) (by first|rfl|simp[Own.ads]) B U (Nat.le_refl _) ⟨_,M,e',by
  rw[<-zhl C,zcc];exact(G.keep kp l.tbm.fs).eraseIdx⟩
 exact h _ _ (f.toL.trans q1) q2 rfl
end
section
variable {c c1 c2:Ctx}{n:Nat}{f:Fl}{ss:List Stmt}
theorem Rds.rep {h:Heap}{vs:List Value}{xs:List PyData}(r:Rds h mu vs xs):∀n:Nat,Rds h mu (List.replicate n vs).flatten (List.replicate n xs).flatten
 | 0=>.nil
 | n+1=>by
  rw[List.replicate_succ,List.replicate_succ,List.flatten_cons,List.flatten_cons];exact r.append (r.rep n)
theorem ziV (O:X.Ok) (j:Mu X A mu) (m:Low mu s){l r:Expr}{p:Pos}{xs:List PyData}{x:Int}(o:Ev X A env mu l (.list xs) s) (w:∀s',Aft X A s s'->Ev X A env mu r (.int x) s') (B : -1000<=x) (C:x<=1000) (b:xs.length<=1000) :
  Ev X A env mu (.BinOp l .Mult r p) (.list (List.replicate x.toNat xs).flatten) s:=λE Q h=>by
 refine wpAny_BinOp (zaK O j o w λu v s' e y z=>?_);cases z with
 | int _ t=>
 obtain⟨a,vs,k,rfl,D,c,f⟩:=isL y;have g:=f.length;have i:vs.toArray.size * x.toNat<=1000 * 1000:=Nat.mul_le_mul (by rw[zqp,g];exact b) (by sleep 135);have d:vs.length * x.toNat<=1000 * 1000:=Nat.mul_le_mul (by rw[g];exact b) (by sleep 135);refine wpAny_binaryOp_repeat_ref (T:="list") (U:="int") (by ext) ⟨_,c,rfl⟩ (λs'=>typeIs_int s' x t) noFill_list_mul F.fills_int_mul F.slot_int_rmul repeat_list F.slot_int_index.lookup
  (call_meets F.slot_int_rmul (typeIs_int s' x t) F.entry_int_rmul (F.args_int_rmul_2 _ _) (lm_int_rmul_list_any x t a vs.toArray k none #[])
   ⟨c,rfl,⟨_,c,rfl⟩,call_meets F.slot_list_mul ⟨_,c,rfl⟩ F.entry_list_mul (F.args_list_mul_2 _ _)
    (lm_list_mul_any a vs.toArray k none #[] x t (by simp[Builtin.List.listFitsIndex];lia) (by lia) (by simp[Builtin.List.listTooLong,sizeLine];sleep 124))
    ⟨c,?_⟩⟩)
 rw[listMul_foldl_if];exact h _ _ (e.trans (.push _)) (.list (vs:=(List.replicate x.toNat vs).flatten) (n:=0) (λq=>zpZ _ ((m.aft e) _ q)) (zpG _ rfl) ((f.rep _).push _))
theorem zhh (O:X.Ok) (g:Mu X A mu){l r:Expr}{p:Pos}{a b:List PyData}(i:Ev X A env mu l (.list a) s) (j:∀s',Aft X A s s'->Ev X A env mu r (.list b) s') (c:a.length+b.length<=sizeLine) :
  EvN X A env mu (.BinOp l .Add r p) (a++b) s:=λE Q h=>by
 refine wpAny_BinOp (zaK O g i j λu v s' d k m=>?_);cases k with
 | list t n e=>
  cases m with
  | list w o f=>
   refine P.add_list n o (h _ _ (d.trans (.push _)) d.size ⟨_++_,0,?_,((e.append f).low (new:=[s'.heap.objs.size]) λy q=>by rw[zqP.mp q];exact zpB _).push _⟩) (by rw[zqp,zqp,e.length,f.length];exact c);rw[zpG _ rfl];simp
theorem zoE (F:Frm X A env sc mu fr) (O:X.Ok){x:Str}{xp p:Pos}{e:Expr}{ys zs:List PyData}(V:sc.names.lookup x=some .local) (W:zah e=true) (Y:∀s,Loc X A env mu c s->EvN X A env mu e ys s)
  (h:∀b,b∉mu->Frm X A env sc (b::mu) (b::fr)->∃c1:Ctx,St X A env (b::mu) (b::fr) {c.set x (ptr b) with own:=(b,.lst ys)::c.own} ss f c1/\c1.own=(b,.lst zs)::c.own/\c1.loc.lookup x=some (ptr b)/\
   (∀y d,c2.loc.lookup y=some d->(setL c1.loc x (.list zs)).lookup y=some d)/\(∀y d,c2.cel.lookup y=some d->c1.cel.lookup y=some d)) (Z:c2.own=c.own):St X A env mu fr c (.Assign [.Name x xp] e p::ss) f c2:=λs l E Q hQ hE=>by
 refine zpT (wpAny_Assign_Name (Y s l _ _ λb j g H t=>?_) (zC W));obtain⟨vs,m,S,rs⟩:=t;have J:=zpI S;have a:Loc X A env ([b]++mu) c j:=l.grow O g λy q=>by rw[zqP.mp q];exact⟨H,J⟩
 have k:Frm X A env sc ([b]++mu) ([b]++fr):=F.grow [b];have ap:Apart X A env (owns c.own) [b]:=Apart.fresh l λy q=>by rw[zqP.mp q];exact H
 have u:b∉mu:=λq=>absurd (l.low b q) (zpO.mpr H);have l₂:Loc X A env ([b]++mu) {c with own:=(b,.lst ys)::c.own} j:=by
  refine⟨a.stay,a.tbm,a.low,a.ltb,a.ns,a.cell,a.cis,a.tk,a.frs,λq K=>?_,?_,λy B=>?_⟩
  .refine memK K ?_ λK=>?_
   .exact ⟨vs,m,S,rs⟩
   .exact a.own q K
  .show (owns ((b,Own.lst ys)::c.own)).Nodup;simp only [owns,List.flatMap_cons,Own.ads];exact List.nodup_cons.mpr ⟨λw=>ap.own b (by simp) w,l.ownNd⟩
  .have B:y∈b::owns c.own:=by simpa [owns,Own.ads] using B
   refine memK B ?_ λB=>?_
   .exact ⟨by simp,ap.fs _ (by simp),λw=>ap.tb (by simp[w]),λw=>ap.loc (by simp[w]),ap.kk _ (by simp),λz w hz hw=>ap.cel _ (by simp) z w hz hw⟩
   .exact a.ownMu y B
 refine zq k l₂ V (.ptr b) λi n C=>?_;have o:∀{s':Shared},AftL X A (b::fr) i s'->AftL X A fr s s':=λD=>((g.toL.trans n).trans D).fresh λy m=>by
  refine memK m ?_ λm=>?_
  .exact .inr (zpK H)
  .exact .inl m
 obtain⟨c1,hs,L,M,N,P⟩:=h b u k;have T:∀{s':Shared},Loc X A env (b::mu) c1 s'->Loc X A env mu c2 s':=λG=>by
  have:=G.freeze (mu':=mu) (pre:=[]) (b:=b) (ys:=zs) (post:=c.own) L M (λy m=>zpx _ m) u l.tbm λy m=>(l.ownMu y m).1;exact this.less N P Z
 refine hs i C E Q (λf' s' D G U=>hQ f' s' (o D) (T G) ?_) λv s' D G I=>hE v s' (o D) (T G) ?_
 .cases f with
  | ret d=>rcases U with ⟨v,rfl,r⟩;exact⟨v,rfl,r.sub λy m=>zpx _ m⟩
  | _=>exact U
 .have I:=I.after (g.toL.trans n:AftL X A ([b]++fr) s i);cases f with
  | exc cls ds=>rcases I with ⟨e,rfl,R⟩;exact⟨e,rfl,R.sub λy m=>zpx _ m⟩
  | _=>exact I
end
noncomputable def strI (i:Int):Str:=Str.ofString (toString i)
theorem zfU:∀k:Fin 141,PySem.intText? (strI ((k.val:Int) - 70))=some ((k.val:Int) - 70)/\(strI ((k.val:Int) - 70)).length<=600:=by decide +kernel
theorem zlU {i:Int}(a : -70<=i) (b:i<=70):PySem.intText? (strI i)=some i/\(strI i).length<=600:=by
 obtain⟨n,e⟩:=Int.eq_ofNat_of_zero_le (Int.add_le_add_right a 70:0<=i+70);have h:=zfU ⟨n,Int.ofNat_lt.mp (Int.lt_of_le_of_lt (e▸Int.add_le_add_right b 70) (by ext))⟩;dsimp only at h;rwa[<-e,Int.add_sub_cancel] at h
theorem ar3 (i:Nat):(0+(i:Int) * 3)=((3 * i:Nat):Int):=by rw[Int.zero_add,Int.mul_comm];rfl
theorem ar32 (i:Nat):(0+(i:Int) * 3+2)=((3 * i+2:Nat):Int):=by rw[ar3];rfl
theorem zoY {a b:Nat}(c:a<=60) (d:b<=60) : -70<=(b:Int) - a/\(b:Int) - a<=70:=by lia
noncomputable abbrev Dif:=Nat×Nat×Th
noncomputable def trip (r:Dif):List Str:=[r.2.2.1,r.2.2.2,strI ((r.2.1:Int) - r.1)]
noncomputable def ordW (rows:List Dif):List Str:=rows.flatMap trip
noncomputable def zbl (t:Th):Nat->List Th->List Th
 | 0,l=>l
 | n+1,l=>zbl t n (l.erase t)
theorem zhk (t:Th) (n:Nat):∀l:List Th,zbl t (n+1) l=(zbl t n l).erase t:=by
 induction n with
 | zero=>exact λ_=>rfl
 | succ n a=>exact λl=>a (l.erase t)
noncomputable def zaJ (row:List Th) (r:Dif):List Th:=row++List.replicate (r.2.1 - r.1) r.2.2
noncomputable def zcY (row:List Th) (r:Dif):List Th:=zbl r.2.2 (r.1 - r.2.1) (zaJ row r)
noncomputable def doneAt (things:List Th) (rows:List Dif) (i:Nat):List Th:=(rows.take i).foldl zcY things
noncomputable def doneT (things:List Th) (rows:List Dif):List Th:=rows.foldl zcY things
theorem zjZ (a:List Dif) (i:Nat):(ordW a).drop (3 * i)=ordW (a.drop i):=by
 induction i generalizing a with
 | zero=>rfl
 | succ i b=>
  cases a with
  | nil=>rfl
  | cons r a=>exact b a
theorem zdt (a:List Dif):(ordW a).length=3 * a.length:=by
 unfold ordW
 induction a with
 | nil=>rfl
 | cons r a b=>rw[List.flatMap_cons,List.length_append,b,List.length_cons];simp[trip];lia
theorem znI {a:List Dif}{i:Nat}{r:Dif}(h:a[i]? = some r):(ordW a).drop (3 * i)=trip r++ordW (a.drop (i+1)):=by
 have b:=(zpJ.mp h);obtain⟨b,e⟩:=b;rw[zjZ,zp7 b,e];rfl
theorem zhp {a:List Th}{b:List Dif}{i:Nat}{r:Dif}(h:b[i]? = some r):doneAt a b (i+1)=zcY (doneAt a b i) r:=by
 unfold doneAt;rw[List.take_add_one,h,List.foldl_append];rfl
theorem zgc (t:Th) (l:List Th):(l.erase t).count t=l.count t - 1:=by
 rw[List.count_erase_self]
theorem zcT (t:Th) (n:Nat):∀l:List Th,(zbl t n l).count t=l.count t - n:=by
 induction n with
 | zero=>exact λ_=>rfl
 | succ n a=>exact λl=>(a (l.erase t)).trans (by rw[zgc,Nat.sub_sub,Nat.add_comm])
theorem zbH (t:Th) (n:Nat):∀l:List Th,(zbl t n l).Sublist l:=by
 induction n with
 | zero=>exact List.Sublist.refl
 | succ n a=>exact λ_=>(a _).trans List.erase_sublist
theorem ziA:∀j:Fin 100,Builtin.Range.small 0 (3 * (j.val:Int)) 3=true/\Builtin.Range.rangeSize 0 (3 * (j.val:Int)) 3=(j.val:Int)/\Builtin.divisionGoesByPylong (3 * (j.val:Int) - 0) 3=false:=by decide +kernel
theorem zof {c:Type}{xs:List c}{a b:Nat}(f:a<=xs.length) (g:b<=xs.length):cutL xs (some (a:Int)) (some (b:Int))=(xs.drop a).take (b - a):=by
 have d:clipAt xs.length (a:Int)=a:=zcK (by sleep 0);have e:clipAt xs.length (b:Int)=b:=zcK (by sleep 0);simp only [cutL,cutLo,cutHi,d,e,Option.elim]
theorem zh2 {a:Type}(x:a) (n:Nat):(List.replicate n [x]).flatten=List.replicate n x:=by
 induction n with
 | zero=>rfl
 | succ n b=>exact congrArg (x::·) b
section
variable {n:Nat}
theorem zhq {a:List Th}{b:List Dif}(c:∀t∈a,good (thD t)=true) (d:∀r∈b,good (thD r.2.2)=true):∀t∈b.foldl zcY a,good (thD t)=true:=by
 induction b generalizing a with
 | nil=>exact c
 | cons r b e=>
  refine e (λt m=>?_) λq m=>d q (zpx _ m);have m:=(zbH _ _ _).subset m;rcases zpE.mp m with m|m
  .exact c t m
  .rw [(List.mem_replicate.mp m).2];exact d r zpP
theorem zkQ (O:X.Ok) (B:Blt2 X) (hA:A.handled=none){g:List Th}{f:List Dif}(h1:∀t∈g,good (thD t)=true) (h2:∀r∈f,good (thD r.2.2)=true/\r.1<=60/\r.2.1<=60) (b6:f.length<60) (W:∀i,i<=f.length->(doneAt g f i).length<=500)
  (a7:∀i r,f[i]? = some r->r.1 - r.2.1<=(zaJ (doneAt g f i) r).count r.2.2) :
  zba X A (n+3) 47 [.list (g.map thD),.list ((ordW f).map .str)] (.ret (.list ((doneT g f).map thD))):=zP.ofX λA' env mu' fr' R P IF F C=>by
 rw[hA] at P;have hs:sizeLine=2 ^ 24:=rfl;have H:=B.toBlt;have Y:=λm=>sound (mu:=mu') O H (zai (k:=n+3)) R P F.toStat m;have a8:=zdt f;have Q:((ordW f).map PyData.str).length=3 * f.length:=by rw[zqn,a8]
 show (_:List Stmt->_->Prop) (_::_) _;let base:Ctx:=startC (zd (stm 47)) (zA (stm 47)) [.list (g.map thD),.list ((ordW f).map .str)];let M (i:Nat):Ctx:=base.set "row" (.list ((doneAt g f i).map thD));have a9:=W 0 (zqy _);have Z:doneAt g f 0=g:=by unfold doneAt;rfl
 rw[Z] at a9;refine zz (c1:=M 0) F (zj F O (c:=base) (d:=.list ((doneAt g f 0).map thD)) ⋯ ⋯ λs l=>?_) ?_
 .rw [Z];exact zU F.toStat O l ⋯ ⋯ H.list (.type _) ⋯ (ds:=[.list (g.map thD)]) rfl (zc l.tbm ⋯ ((Y 3).e ⋯ s l) λ_ _=>evs_nil) (zkI (by rw[zqn];sleep 36))
 refine zz (c1:=M f.length) F ?_ (zaf O λs l=>?_)
 .have hr:(zac 0 3 f.length).length=f.length:=by rw[zx]
  have S:M f.length=M (zac 0 3 f.length).length:=by rw[hr]
  rw[S];have T:=ziA ⟨f.length,by sleep 123⟩;refine zdg F O M (λi=>(M i).set "k" (.int (0+(i:Nat) * 3))) rfl (λi=>rfl) (λ_=>rfl)
   (λs l=>zeo F.toStat O P l (n:=0) (m:=3 * (f.length:Int)) (k:=3) (j:=f.length) ⋯ H.range ⋯ ((Y 3).e ⋯ s l) (λs' a=>?_) (λs' a=>(Y 3).e ⋯ s' (l.aft O a)) (by ext) T.1 T.2.1 T.2.2) ?_
  .have e0:(3 * (f.length:Int))=(((ordW f).map PyData.str).length:Nat):=by rw[Q];rfl
   rw[e0];exact zcF F.toStat O H (l.aft O a) ⋯ ⋯ (xs:=(ordW f).map .str) (by lia) ((Y 3).e ⋯ s' (l.aft O a))
  intro i d hd a0 b7 V;have hi:i<f.length:=by
   have:=(zpJ.mp hd).1;rwa[hr] at this
  have U:d=.int (0+(i:Nat) * 3):=by
   rw[zX hi] at hd;exact(zqr hd).symm
  subst U;refine⟨zbK V ⋯,.next,.inl rfl,?_⟩;have E:=λm=>sound (mu:=a0) O H (zai (k:=n+3)) R P V.toStat m;obtain⟨r,I⟩:∃r,f[i]? = some r:=⟨_,zpN hi⟩;obtain⟨o,w,t⟩:=r;have J:=h2 _ (zqd I);have a1:=znI I;dsimp only at J;have b0:good (thD t)=true:=J.1;have a3:((ordW f).map PyData.str)[(0+(i:Int) * 3+2).toNat]? = some (.str (strI ((w:Int) - o))):=by
   have e1:(0+(i:Int) * 3+2).toNat=3 * i+2:=by rw[ar32];rfl
   rw[e1,zqS,<-List.getElem?_drop,a1];rfl
  have a4:cutL ((ordW f).map PyData.str) (some (0+(i:Int) * 3)) (some (0+(i:Int) * 3+2))=(thL t).map .str:=by
   have e1:=ar3 i;have e2:=ar32 i;rw[e1] at *
   rw[show (((3 * i:Nat):Int)+2)=((3 * i+2:Nat):Int) from rfl];rw[zof (by rw[Q];lia) (by rw[Q];lia),<-List.map_drop,<-List.map_take,a1];have:3 * i+2 - 3 * i=2:=Nat.add_sub_cancel_left ..;rw[this];rfl
  have hd:=zoY J.2.1 J.2.2;have N:=zlU (i:=(w:Int) - o) hd.1 hd.2;let c3:Ctx:=((M i).set "k" (.int (0+(i:Nat) * 3))).set "more" (.int ((w:Int) - o));have G:∀{K:LA}{cx:Ctx}{s:Shared}(D:∀m,zoy X A' env (zd (stm 47)) K noF m) (l:Loc X A' env K cx s){x y:Expr}{p p':Pos}{z:Expr},evE noF (zd (stm 47)) 5 cx x=some (.list ((ordW f).map .str))->evE noF (zd (stm 47)) 5 cx y=some (.int (0+(i:Int) * 3))->evE noF (zd (stm 47)) 5 cx z=some (.int (0+(i:Int) * 3+2))->
    Ev X A' env K (.Subscript x (.Slice (some y) (some z) none p') p) (thD t) s:=fun {K cx s} D l {x y p p' z} ex ey ez=>by
   unfold thD;rw[<-a4];exact zZ O l.tbm l.low ((D 5).e ex s l) (λs' a=>zY ((D 5).e ey s' (l.aft O a))) (λs' a=>zY ((D 5).e ez s' (l.aft O a))) (by lia)
  refine ze (c':=c3) V (zj V O (c:=(M i).set "k" (.int (0+(i:Nat) * 3))) (d:=.int ((w:Int) - o)) ⋯ ⋯ λs l=>?_) ?_
  .refine zU V.toStat O l ⋯ ⋯ H.int (.type _) ⋯ (ds:=[.str (strI ((w:Int) - o))]) rfl (zc l.tbm ⋯ ?_ λ_ _=>evs_nil) (zgi N.1 (by have:=N.2;sleep 124));exact ev_itemList (i:=0+(i:Int) * 3+2) O l.tbm ((E 3).e ⋯ s l) (λs' a=>(E 5).e ⋯ s' (l.aft O a)) ⋯ (by lia) (by lia) a3
  have b5:=W i (by sleep 5);refine zoE V O (ys:=(zaJ (doneAt g f i) (o,w,t)).map thD) (zs:=(doneAt g f (i+1)).map thD) ⋯ ⋯ (λs l=>?_) (λb hb F3=>?_) rfl
  .have e3:(zaJ (doneAt g f i) (o,w,t)).map thD=(doneAt g f i).map thD++(List.replicate ((w:Int) - o).toNat [thD t]).flatten:=by
    unfold zaJ;rw[zqC,zh2,List.map_replicate];have:((w:Int) - o).toNat=w - o:=Int.toNat_sub w o;rw[this]
   rw[e3];refine zhh O l.tbm ((E 3).e ⋯ s l) (λs' a=>?_) ?_
   .have l':=l.aft O a;exact ziV O l'.tbm l'.low (zb1 l'.tbm l'.low (zc l'.tbm ⋯ (G E l' ⋯ ⋯ ⋯) λ_ _=>evs_nil) (by rw[hs];show 1<=_;decide)) (λb1 a2=>(E 3).e ⋯ b1 (l'.aft O a2)) (by lia) (by lia) (by simp)
   .rw [zh2,List.length_replicate,zqn];sleep 76
  .
   have D:=λm=>sound (mu:=b::a0) O H (zai (k:=n+3)) R P F3.toStat m;let h:=zaJ (doneAt g f i) (o,w,t);let v (j:Nat):Ctx:={c3.set "row" (ptr b) with own:=[(b,.lst ((zbl t j h).map thD))]};have b8:h.length<=600:=by
    show (zaJ _ _).length<=_;unfold zaJ;rw[zqq,List.length_replicate];dsimp only;sleep 75
   have b2:∀u∈h,good (thD u)=true:=λu m=>by
    rcases zpE.mp m with m|m
    .exact zhq h1 (λq mq=>(h2 q (List.mem_of_mem_take mq)).1) u m
    .rw [(List.mem_replicate.mp m).2];exact b0
   have a5:(-((w:Int) - o)).toNat=o - w:=by rw[Int.neg_sub];exact Int.toNat_sub o w
   refine⟨v (o - w),?_,?_,rfl,λy d' e=>?_,λy d' e=>e⟩
   .have hrr:(zac 0 1 (-((w:Int) - o)).toNat).length=o - w:=by rw[zx,a5]
    refine ze (c':=v (o - w)) F3 ?_ st_nil;have S:v (o - w)=v (zac 0 1 (-((w:Int) - o)).toNat).length:=by rw[hrr]
    rw[S];refine zdg (c:=v 0) F3 O v (λj=>(v j).set "turn" (.int (j:Nat))) rfl (λ_=>rfl) (λ_=>rfl) (λs l=>za5 F3.toStat O P l ⋯ H.range ⋯ ((D 5).e ⋯ s l) (by lia) (by lia)) ?_;intro j d hd b3 b9 F4;have hj:j<o - w:=by
     have:=(zpJ.mp hd).1;rwa[hrr] at this
    have U:d=.int (j:Nat):=by
     rw[zX (by rw[a5];exact hj)] at hd;cases hd;simp
    subst U;have b4:=λm=>sound (mu:=b3) O H (zai (k:=n+3)) R P F4.toStat m;refine⟨zbK F4 ⋯,.next,.inl rfl,?_⟩;have L:=a7 i _ I;dsimp only at L;have a6:t∈zbl t j h:=by
     rw[<-zqi,zcT];show 0<(zaJ (doneAt g f i) (o,w,t)).count t - j;sleep 69
    refine zaE (c1:={(v j).set "turn" (.int (j:Nat)) with own:=(v (j+1)).own}) (ze F4 (c':={(v j).set "turn" (.int (j:Nat)) with own:=(v (j+1)).own}) ?_ st_nil) (λx d e=>zbd (c:=v j) (x:="turn") (d':=.int (j:Nat)) ⋯ e) (λx d e=>e) rfl;have e8:(v (j+1)).own=[(b,.lst (((zbl t j h).erase t).map thD))]:=by
     show [(b,Own.lst ((zbl t (j+1) h).map thD))]=_;rw[zhk]
    rw[e8];exact zec F4 O R (pre:=[]) (post:=[]) ⋯ ⋯ ⋯ rfl (by simp) ⋯ ⋯ (Nat.le_trans (zbH t j h).length_le (by sleep 124)) a6 (λu m=>b2 u ((zbH t j h).subset m)) λs l=>G b4 l ⋯ ⋯ ⋯
   .show [(b,Own.lst ((zbl t (o - w) h).map thD))]=_;rw[zhp I];rfl
   .have e:(setL base.loc "row" (.list ((doneAt g f (i+1)).map thD))).lookup y=some d':=e;have key:(v (o - w)).loc=setL (setL (setL (setL base.loc "row" (.list ((doneAt g f i).map thD))) "k" (.int (0+(i:Nat) * 3))) "more" (.int ((w:Int) - o))) "row" (ptr b):=rfl;rw[key];simp only [zk] at e ⊢
    by_cases q1:y=("row":Str)
    .rw [if_pos q1] at e ⊢;exact e
    .rw [if_neg q1] at e ⊢;rw[if_neg q1]
     by_cases q2:y=("more":Str)
     .subst q2;cases e
     .rw [if_neg q2]
      by_cases q3:y=("k":Str)
      .subst q3;cases e
      .rw [if_neg q3,if_neg q1];exact e
 .have e9:doneT g f=doneAt g f f.length:=by unfold doneAt doneT;rw[List.take_length]
  rw[e9];exact(Y 3).e ⋯ s l
end
section
variable {mu mu' fr:LA}{c c':Ctx}{s s₁:Shared}{a b:Addr}{n:Nat}{pre post:List (Addr×Own)}
theorem Loc.own_new (O:X.Ok) (l:Loc X A env mu c s) (d:Aft X A s s₁) (h:hz s<=b) (f:b<hz s₁){o:Own}(i:Own.ads (b,o)=[b]) (j:zR s₁.heap ([b]++mu) b o):Loc X A env ([b]++mu) {c with own:=(b,o)::c.own} s₁:=by
 have a:Loc X A env ([b]++mu) c s₁:=l.grow O d λy q=>by rw[zqP.mp q];exact⟨h,f⟩
 have ap:Apart X A env (owns c.own) [b]:=Apart.fresh l λy q=>by rw[zqP.mp q];exact h
 refine⟨a.stay,a.tbm,a.low,a.ltb,a.ns,a.cell,a.cis,a.tk,a.frs,λq g=>?_,?_,λy e=>?_⟩
 .rcases memC g with rfl|g
  .exact j
  .exact a.own q g
 .show (owns ((b,o)::c.own)).Nodup;simp only [owns,List.flatMap_cons,i];exact List.nodup_cons.mpr ⟨λw=>ap.own b (by simp) w,l.ownNd⟩
 .have e:y∈b::owns c.own:=by simpa [owns,i] using e
  rcases memC e with rfl|e
  .exact ⟨by simp,ap.fs _ (by simp),λw=>ap.tb (by simp[w]),λw=>ap.loc (by simp[w]),ap.kk _ (by simp),λz w hz k=>ap.cel _ (by simp) z w hz k⟩
  .exact a.ownMu y e
noncomputable abbrev bare:Obj:={cls:=.type "object",data:=.plain}
theorem zgV:Slot "object" (cmpInfo .Eq).2.1 "object.__eq__":=
 .of (owner:="object") (n:="__eq__") (by rw[typeLookup_type,builtinLookup_eq_fast];kernel_rfl) (by decide +kernel) (by decide +kernel) (by decide +kernel)
  (by first|exact .inl (by decide +kernel)|exact .inr (by decide +kernel)) (by rw[zqD];kernel_rfl)
theorem zeO:Slot "list" (cmpInfo .Eq).2.2 "list.__eq__":=
 .of (owner:="list") (n:="__eq__") (by rw[typeLookup_type,builtinLookup_eq_fast];kernel_rfl) (by decide +kernel) (by decide +kernel) (by decide +kernel)
  (by first|exact .inl (by decide +kernel)|exact .inr (by decide +kernel)) (by rw[zqD];kernel_rfl)
theorem zft:isSubtype (.type "list") (.type "object")=pure true:=by rw[zqD];kernel_rfl
theorem zfs:isSubtype (.type "object") (.type "list")=pure false:=by rw[zqD];kernel_rfl
theorem zhC (x y:Value):argsOk "object.__eq__" ⟨[x,y],[]⟩:=by unfold argsOk;kernel_rfl
theorem zgu (x y:Value):argsOk "list.__eq__" ⟨[x,y],[]⟩:=by unfold argsOk;kernel_rfl
theorem zf3:entryFor table "object.__eq__"=some Builtin.«object.__eq__»:=entryFor_of_tree ∅
theorem ze7:entryFor table "list.__eq__"=some Builtin.«list.__eq__»:=entryFor_of_tree ∅
theorem zc1 (b a:Addr):Meets (Builtin.«list.__eq__» ⟨[.ref b,.ref a],[]⟩) (λ_ R s=>s.heap.get? a=some bare/\R (.ok (.ret .notImplemented)) s):=λprog w A R s h=>by
 obtain⟨f,g,d,tk,i⟩:=s;obtain⟨e,h⟩:=h;have c:=zfs
 wp_walk using wpAny_loadPart' e
 exact h
theorem zdu (a b:Addr){o:Obj}(c:a≠b):Meets (Builtin.«object.__eq__» ⟨[.ref a,.ref b],[]⟩) (λ_ R s=>s.heap.get? a=some bare/\s.heap.get? b=some o/\R (.ok (.ret .notImplemented)) s):=λprog w A R s h=>by
 obtain⟨d,e,h⟩:=h;exact objEq_entry_other c d e (by ext) h
theorem zi3 (R:Rm n A){v:Value}{d:List PyData}(c:s.heap.get? a=some bare) (p:Rd s.heap mu' v (.list d)):Cm X A .Eq (.ref a) v false s:=λE Q h=>by
 obtain⟨b,vs,k,rfl,_,e,_⟩:=isL p;have g:a≠b:=λq=>by subst q;exact absurd (congrArg Obj.cls (zqr (c.symm.trans e))) (by show ¬(Value.type "object"=Value.type "list");decide)
 have i:s.TypeIs (.ref a) "object":=⟨_,c,rfl⟩;have j:s.TypeIs (.ref b) "list":=⟨_,e,rfl⟩;show wpAny X.M A (richCompare .Eq (.ref a) (.ref b)) Q E s;have l:=zgV;have o:=zeO;rcases hi:cmpInfo CmpOp.Eq with ⟨t,f,r⟩;rw[hi] at l o;simp only [richCompare,hi,i.oneThing_none];refine zpS ?_;refine wpB (wpAny_cRoomFor (by have:=R.units;sleep 111) ?_);refine wpB (wpAny_typeOf i (wpB (wpAny_typeOf j ?_)));rw[if_pos (by ext)];refine wpB (wpAny_of_eq zft ?_);rw[if_pos rfl];refine wpB (m:=tryCompare (.ref b) _ (.ref a)) (wpAny_tryCompare_declines j o (call_meets o j ze7 (zgu _ _) (zc1 b a) ⟨c,rfl,?_⟩));dsimp only;refine wpB (m:=tryCompare (.ref a) _ (.ref b)) (wpAny_tryCompare_declines i l (call_meets l i zf3 (zhC _ _) (zdu a b g) ⟨c,e,rfl,?_⟩));dsimp only;rw[if_neg (by ext)];exact wpB (wpAny_rule (wpB (wpAny_isSame_ref_other g c e (by ext) (zpR (h _ .refl)))))
theorem ziX (S:Stat X env sc) (O:X.Ok) (l:Loc X A env mu c s){x:Str}{xp p:Pos}{r:Expr}{ys:List PyData}{i:Int}{d:PyData}(g:sc.names.lookup x=some .local) (hd:(x==("__debug__":Str))=false) (j:c.loc.lookup x=some (ptr a)) (k:(a,Own.lst ys)∈c.own) (m:∀s',Aft X A s s'->Ev X A env mu r (.int i) s') (o:zav r=true)
  (q:0<=i) (t:i<2 ^ 63) (w:ys[i.toNat]? = some d):Ev X A env mu (.Subscript (.Name x xp) r p) d s:=λE Q h=>by
 refine Subscript_ (zaK O l.tbm (zf S l g hd j) m λu v s' f z B=>?_);cases B;cases z;obtain⟨vs,n,e,C⟩:=(l.aft O f).own _ k;obtain⟨y,b,D⟩:=C.get w;exact tail_any ⟨_,e,rfl⟩ PySem.F.slot_list_getitem.lookup (wpAny_getItem_list ⟨_,e,rfl,_,rfl⟩ q t (by simpa using b) (h _ _ f D)) (zM o _ _)
theorem zf1 (S:Stat X env sc) (O:X.Ok) (B:Blt X) (l:Loc X A env mu c s){x:Str}{xp f p:Pos}{ys:List PyData}(g:sc.names.lookup x=some .local) (hd:(x==("__debug__":Str))=false) (i:c.loc.lookup x=some (ptr a)) (j:(a,Own.lst ys)∈c.own) (k:sc.names.lookup ("len":Str)=some .globalImplicit) (m:ys.length<=100000) :
  Ev X A env mu (.Call (.Name "len" f) [.Name x xp] [] p) (.int (ys.length:Nat)) s:=λE Q h=>by
 refine zqZ (zw S O l.stay k (by ext) B.len (zy O (ds:=[ptr a]) (.builtin _) l.stay l.frs ⋯ rfl (zc l.tbm ⋯ (zf S l g hd i) λ_ _=>evs_nil) λvs s' b r=>?_));cases r with|cons o q=>
 cases q;cases o;obtain⟨us,n,e,d⟩:=(l.aft O b).own _ j;refine call_len_list (items:=us.toArray) ⟨_,e,rfl,_,rfl⟩ (by rw[zqp,d.length];sleep 133) (h _ _ (b.trans (.tok _)) ?_);rw[zqp,d.length];exact .int _ _
theorem Rds.set {h:Heap}{xs:List PyData}{vs:List Value}{j:Nat}{v:Value}{d:PyData}(c:Rds h mu vs xs) (r:Rd h mu v d):Rds h mu (vs.set j v) (xs.set j d):=by
 induction j generalizing xs vs with
 | zero=>induction xs using List.casesOn with
  | nil=>cases c;exact .nil
  | cons x xs=>cases c with|cons a b=>exact .cons r b
 | succ j e=>induction xs using List.casesOn with
  | nil=>cases c;exact .nil
  | cons x xs=>cases c with|cons a b=>exact .cons a (e b)
theorem zgW {prog:Program}{w:World}{vs:List Value}{m j:Nat}{t:Tok}{v:Value}{Q:Unit->Shared->Prop}(c:s.heap.get? a=some (lst vs m)) (l:j<vs.length) (n:j<2 ^ 60)
  (h:∀h' b,h'.get? a=some (lst (vs.set j v) b)->Heap.SameBut a s.heap h'->Q () {s with heap:=h'}):wpAny (model prog w) A (setItem (.ref a) (.int (j:Nat) t) v) Q E s:=by
 have d:s.heap.IsList a vs.toArray:=⟨_,c,rfl,_,rfl⟩;have e:j<vs.toArray.size:=by simpa using l
 obtain⟨k,g⟩:∃k:Int,k=((j:Nat):Int):=⟨_,rfl⟩;rw[<-g];unfold setItem
 try with_reducible refine zpS ?_
 first|refine wpB (zpR ?_)|skip
 refine wpB (wpAny_sequenceKey d.typeIs (by ext) ?_);refine wpB (zq7 (name:=Str.ofString "__setitem__") d.typeIs slot_list_setitem
  (zq8 slot_list_setitem d.typeIs entry_list_setitem ?_ (args_list_setitem _ _ _)))
 show wpAny _ _ (Builtin.List.listSubscript? (.int k t)>>=_) _ _ s;refine wpB (wpAny_listSubscript_int (fitsIndex_of (by lia) (by lia)) ?_);subst g;have f:vs.toArray[j]? = some vs.toArray[j]:=Array.getElem?_eq_getElem e;show wpAny _ _ ((seqItemAt a j>>=λr=>pure (r.map (j,·)))>>=_) _ _ s;refine wpB (wpB (wpAny_seqItemAt c rfl (zpR ?_)));rw[f];show wpAny _ _ (setSeqItemAt a j v>>=_) _ _ s;obtain⟨b,i⟩:∃b,(s.heap.update a (Obj.mapSeq (·.setIfInBounds j v))).get? a=some (lst (vs.set j v) b):=⟨_,by rw[get?_update_seq c (·.setIfInBounds j v)];simp[lst];rfl⟩;refine wpB (wpAny_setSeqItemAt c rfl ?_)
 first
  | exact wpB (zpR (zpR ⟨.none,rfl,zpR (h _ b i (zpW ..))⟩))
  | exact zpR ⟨.none,rfl,zpR (h _ b i (zpW ..))⟩
theorem zgQ (F:Frm X A env sc mu fr) (O:X.Ok){x:Str}{xp M p:Pos}{D vE:Expr}{ys:List PyData}{j:Nat}{d:PyData}(N:sc.names.lookup x=some .local) (hd:(x==("__debug__":Str))=false) (P:c.loc.lookup x=some (ptr a)) (G:c.own=pre++(a,.lst ys)::post) (z:a∈fr) (R:j<ys.length) (B:j<2 ^ 60) (S:zah vE=true)
  (T:∀s,Loc X A env mu c s->Ev X A env mu vE d s) (U:∀s,Loc X A env mu c s->Ev X A env mu D (.int (j:Nat)) s):St1 X A env mu fr c (.Assign [.Subscript (.Name x xp) D M] vE p) .next {c with own:=pre++(a,.lst (ys.set j d))::post}:=λs l E Q h _=>by
 have H:(a,Own.lst ys)∈c.own:=by rw[G];simp
 refine wpAny_Assign_Subscript (T s l _ _ λv I b k=>zf F.toStat (l.aft O b) N hd P _ _ λu m e o=>U m ((l.aft O b).aft O e) _ _ λw g i q=>?_) (zC S);cases o;have y:=(b.trans e).trans i;have f:=l.aft O y;have r:=(k.aft l.tbm e).aft l.tbm i;cases q with
 | int _ t=>
 obtain⟨us,n,V,J⟩:=f.own _ H;refine zgW V (by rw[J.length];exact R) B λh' W Y K=>?_;have C:=(f.ownMu a (zu H (by first|rfl|simp[Own.ads]))).1;have L:Keep (fsOf A) mu g.heap h':=.sameBut K C;obtain⟨q1,q2⟩:=f.own_set (o':=.lst (ys.set j d)) (t:=g.toks) G (by first|rfl|simp[Own.ads]) (by first|rfl|simp[Own.ads]) z K (Nat.le_refl _) ⟨_,W,Y,(J.keep L l.tbm.fs).set (r.keep L l.tbm.fs)⟩;exact h _ _ (y.toL.trans q1) q2 rfl
theorem zdk (F:Frm X A env sc mu fr) (O:X.Ok){x y:Str}{xp k p:Pos}{e:Expr}{d:PyData}(q:sc.names.lookup x=some .local) (j:sc.names.lookup y=some .local) (r:swappedStores [.Name x xp,.Name y k] e env=pure none) (t:∀s,Loc X A env mu c s->Ev X A env mu e d s) :
  St1 X A env mu fr c (.Assign [.Name x xp,.Name y k] e p) .next ((c.set x d).set y d):=λs l E Q h _=>
 wpAny_Assign_two (t s l _ _ λv m a b=>zqO (zq F (l.aft O a) q b λn f l₂=>zqO (zq F l₂ j (b.keep (f.keep.mono (F.tfr l.tbm)) l.tbm.fs) λo g i=>h _ _ ((a.toL.trans f).trans g) i rfl))) rfl r
theorem zfn {prog:Program}{w:World}{a:List Expr}{e:Nat}{pos:Pos}{t:Addr}{items:Array Value}{Q:Unit->Shared->Prop}(f:A.handled=none) (g:s.heap.IsTuple t items)
  (i:(assignEach a env).length=items.size) (c:(assignEach a env).findIdx? (·.1)=none)
  (h:∀h',(∀b o,s.heap.get? b=some o->h'.get? b=some o)->hz s<=h'.objs.size->wpAny (model prog w) A (assignInOrder ((assignEach a env).map (·.2)) items.toList) Q E {s with heap:=h'}) :
  wpAny (model prog w) A (assign (.Tuple a e pos) env (.ref t)) Q E s:=by
 rw[arm_assign_Tuple];refine wpB (zqI ?_);unfold unpack;rw[i,c];exact wpB (zpS (wpt (wpAny_unpackItems_tuple f g λh' j _ d=>h h' (λb o q=>j b o (zqV (zpI q)) q) d)))
theorem zcq (S:Stat X env sc){ts:List Expr}{v:Expr}{r:Option (List Str)}(h:swappedStores ts v (envOf "" sc 0 0 .none)=pure r):swappedStores ts v env=pure r:=by
 have a:env.scope=(envOf "" sc 0 0 .none).scope:=S.scope;rw[<-h];unfold swappedStores Env.blockKind Env.kindOf;rw[a]
theorem zgU (F:Frm X A env sc mu fr) (O:X.Ok) (J:A.handled=none){x y:Str}{xp C p D:Pos}{k:Nat}{e:Expr}{d1 d2:PyData}(K:sc.names.lookup x=some .local) (G:sc.names.lookup y=some .local) (L:swapsWithSole [.Tuple [.Name x xp,.Name y C] k D] e p.line env=pure false) (M:swappedStores [.Tuple [.Name x xp,.Name y C] k D] e env=pure (some [x,y])) (N:∀s,Loc X A env mu c s->Ev X A env mu e (.tuple [d1,d2]) s) :
  St1 X A env mu fr c (.Assign [.Tuple [.Name x xp,.Name y C] k D] e p) .next ((c.set y d2).set x d1):=λs l E Q h _=>by
 refine Assign_Tuple_swapped (N s l _ _ λv a d m=>?_) L M;have r:=l.aft O d;refine Rd.tuple2K m λb u v n U P R S=>?_;refine wpt (wpAny_unpackItems_tuple J (t:=b) (items:=#[u,v]) ⟨_,P,rfl,_,rfl⟩ λf j _ T=>?_);have k5:∀b o,a.heap.get? b=some o->f.get? b=some o:=λb o q=>j b o (zqV (zpI q)) q;have g:Aft X A a {a with heap:=f}:=.heap (t:=a.toks) k5 T (zpB _);have l₂:=r.aft O g;show wpAny _ A (do holding [u] (bindName env y v);do holding [] (bindName env x u);pure ()) _ _ _;refine zpQ (zpS (wpAny_bindName (zq F l₂ G (S.more k5) λH i w=>?_)));refine zpQ (zpS (wpAny_bindName (zq F w K ((R.more k5).keep (i.keep.mono (F.tfr l.tbm)) l.tbm.fs) λI z B=>zpR (h _ _ ((((d.trans g).toL).trans i).trans z) B rfl))))
end
section
variable {a:Addr}
inductive EnI (X:Wd) (A:Around) (env:Env) (mu fr:LA) (s₂:Shared) (e it a:Addr) (N:Nat) (cs:Nat->Ctx) (n:Nat) (s':Shared):Prop
 | mk (i:Nat) (old:Value) (hin:i+n=N) (he:IsEnum s'.heap e it (i:Int) old) (hit:s'.heap.IsListIter it a i) (a₃:AftL X A ([e,it]++fr) s₂ s') (l₃:Loc X A env ([e,it]++mu) (cs i) s')
theorem ListIter.mv {h h':Heap}{b a:Addr}{i:Nat}(x:h.IsListIter b a i) (k:∀o,h.get? b=some o->h'.get? b=some o):h'.IsListIter b a i:=by
 obtain⟨o,q,r⟩:=x;exact⟨o,k o q,r⟩
theorem ListIter.lt {h:Heap}{b a:Addr}{i:Nat}(x:h.IsListIter b a i):b<h.objs.size:=by
 obtain⟨o,q,_⟩:=x;exact zpI q
section
variable {s₂ s':Shared}{e it:Addr}{C:Ctx}{xs:List PyData}{i:Nat}{old:Value}
theorem zf2 (F:Frm X A env sc ([e,it]++mu) fr) (a:AftL X A ([e,it]++fr) s₂ s') (c:Loc X A env ([e,it]++mu) C s') (ap:Apart X A env (owns C.own) [e,it]){h':Heap}{tk:Nat}(f:∀b o,b∉[e,it]->s'.heap.get? b=some o->h'.get? b=some o) (d:hz s'<=h'.objs.size) (g:s'.toks<=tk) :
  AftL X A ([e,it]++fr) s₂ {s' with heap:=h',toks:=tk}/\Loc X A env ([e,it]++mu) C {s' with heap:=h',toks:=tk}:=
 ⟨a.trans ⟨.but λb o m q=>f b o (λw=>m (zpx _ (zpC _ w))) q,rfl,id,d,g,λo q=>⟨o,f _ _ ap.tb q⟩⟩,c.upd (s':={s' with heap:=h',toks:=tk}) ap (λb m=>zpC _ m) f d g⟩
theorem zku (F:Frm X A env sc ([e,it]++mu) fr) (hh:A.handled=none) (V:e≠it){W Y:Str}{pi pv pt:Pos}{k1:Nat}(a7:sc.names.lookup W=some .local) (a8:sc.names.lookup Y=some .local)
  (J:IsEnum s'.heap e it (i:Int) old) (l:s'.heap.IsListIter it a i) (E:AftL X A ([e,it]++fr) s₂ s') (k:Loc X A env ([e,it]++mu) C s') (ap:Apart X A env (owns C.own) [e,it]) (ho:(a,Own.lst xs)∈C.own){N B:Shared->Prop}{EN:VP}
  (hN:xs[i]? = none->∀s,AftL X A ([e,it]++fr) s₂ s->Loc X A env ([e,it]++mu) C s->N s)
  (hB:∀d v g s,xs[i]? = some d->AftL X A ([e,it]++fr) s₂ g->IsEnum g.heap e it ((i:Int)+1) v->g.heap.IsListIter it a (i+1)->AftL X A fr g s->Loc X A env ([e,it]++mu) ((C.set W (.int (i:Nat))).set Y d) s->B s) :
  wpAny X.M A (pyNext (.ref e)) (λr G=>match r with
   | none=>N G
   | some v=>wpAny X.M A (letOwnedTupleGo (.Tuple [.Name W pi,.Name Y pv] k1 pt) (.ref e) v) (λ_ K=>wpAny X.M A (assign (.Tuple [.Name W pi,.Name Y pv] k1 pt) env v) (λ_ s=>B s) EN K) EN G) EN s':=by
 have Z:Mu X A ([e,it]++mu):=k.tbm;obtain⟨us,b3,a0,rs⟩:=k.own _ ho;have hl:s'.heap.IsList a us.toArray:=⟨_,a0,rfl,_,rfl⟩;cases hd:xs[i]? with
 | none=>
  refine wpt (wpAny_pyNext_enum_end hh J l hl (by have:=List.getElem?_eq_none_iff.mp hd;have:=rs.length;simp;sleep 56) λh' a9 ht b0=>?_);obtain⟨n,p⟩:=zf2 F E k ap (h':=h') (tk:=s'.toks) (λb o m q=>a9 b o (λw=>m (by simp[w])) q) b0 (Nat.le_refl _);exact hN hd _ n p
 | some d=>
  obtain⟨v,hv,rv⟩:=rs.get hd;refine wpAny_pyNext_enum_item J l hl (x:=v) (by simpa using hv) V λa1 b1 z L O P=>?_;refine wpAny_letOwnedTupleGo_enum b1 λh Q f=>?_;replace f:Heap.SameBut e a1 h:=f;have H:e<s'.heap.objs.size:=zpI J;have u:h.get? s'.heap.objs.size=some {cls:=.type "tuple",data:=.seq #[.int (i:Int) s'.toks,v]}:=(f.2 _ (zqH H)).trans L;have y:h.objs.size=s'.heap.objs.size+1:=by rw[f.1,O]
  refine wpAny_assign_Tuple hh (t:=s'.heap.objs.size) (items:=#[.int (i:Int) s'.toks,v]) ⟨_,u,rfl,_,rfl⟩ rfl rfl λc j=>?_;replace j:Heap.ExtBut h.objs.size h c:=j;have up:∀b o,b<s'.heap.objs.size->h.get? b=some o->c.get? b=some o:=λb o q w=>j b o (zqV (by rw[y];exact zp0 q)) w;have R:s'.heap.objs.size<=c.objs.size:=zqt (zpI (j _ _ (zqV (by rw[y];exact zpY _)) u));have kk:∀b o,b∉[e,it]->s'.heap.get? b=some o->c.get? b=some o:=λb o m q=>by
   have a2:b≠e:=λw=>m (by simp[w]);have b2:b≠it:=λw=>m (by simp[w]);exact up b o (zpI q) ((f.2 b a2).trans (P b o a2 b2 q))
  obtain⟨n,p⟩:=zf2 F E k ap (h':=c) (tk:=s'.toks+1) kk R (zqz _);have S:IsEnum c e it ((i:Int)+1) v:=up e _ H Q;have D:c.IsListIter it a (i+1):=ListIter.mv z λo q=>up it o (ListIter.lt l) ((f.2 it V.symm).trans q);have T:Rd c ([e,it]++mu) v d:=rv.move λb o m q=>⟨m,kk b o (λw=>m (zpC _ w)) q⟩;show wpAny _ A (do holding [v] (assign (.Name W pi) env (.int (i:Int) s'.toks));do holding [] (assign (.Name Y pv) env v);pure ()) _ _ _;refine zpQ (zpS (zqO (zq F p a7 (.int _ _) λg I a3=>?_)));have U:Rd g.heap ([e,it]++mu) v d:=T.keep (I.keep.mono λb m=>(zpz.mp m).elim (λq=>q▸Z.tb) (F.sub b)) Z.fs;exact zpQ (zpS (zqO (zq F a3 a8 U λa4 a5 a6=>zpR (hB d v {s' with heap:=c,toks:=s'.toks+1} a4 hd n S D (I.trans a5) a6))))
end
theorem zbS (F:Frm X A env sc mu fr) (O:X.Ok) (hh:A.handled=none) (B:Blt2 X){x xi xv:Str}{pi pv pt xp fp p p':Pos}{k1:Nat}{body:List Stmt}(I:Nat->Ctx) (N:Nat) (ys:Nat->List PyData) (h0:I 0=c) (ho:∀i,owns (I i).own=owns c.own)
  (b1:sc.names.lookup x=some .local) (b2:(x==("__debug__":Str))=false) (hx:c.loc.lookup x=some (ptr a)) (b3:sc.names.lookup xi=some .local) (b4:sc.names.lookup xv=some .local) (b5:sc.names.lookup ("enumerate":Str)=some .globalImplicit)
  (M:∀i,i<=N->(a,Own.lst (ys i))∈(I i).own/\(ys i).length=N) (hs:∀x',foldedSetIterable (.Call (.Name "enumerate" fp) [.Name x xp] [] p') env x'=pure x')
  (hb:∀(i:Nat) (d:PyData),i<N->(ys i)[i]? = some d->∀mu':LA,(∀b∈mu,b∈mu')->Frm X A env sc mu' fr->∃f,(f=.next\/f=.cont)/\St X A env mu' fr (((I i).set xi (.int (i:Nat))).set xv d) body f (I (i+1))) :
  St1 X A env mu fr c (.For (.Tuple [.Name xi pi,.Name xv pv] k1 pt) (.Call (.Name "enumerate" fp) [.Name x xp] [] p') body [] p) .next (I N):=λs l E Q hQ _=>by
 refine wpAny_For (zqZ (zw F.toStat O l.stay b5 (by ext) B.enumerate (zy O (ds:=[ptr a]) (.type _) l.stay l.frs ⋯ rfl (zc l.tbm ⋯ (zf F.toStat l b1 b2 hx) λ_ _=>evs_nil) λvs g u Y=>?_))) hs;cases Y with|cons ra rb=>
 cases rb;cases ra;have k:=l.aft O u;obtain⟨b6,c3,P,b7⟩:=k.own _ (h0▸(M 0 (zqy _)).1);refine call_enumerate_1 P λh he a0 b8 a1=>wpAny_pyIter_enum he ?_;have y:a<g.heap.objs.size:=zpI P;obtain⟨e,ee⟩:∃e,e=g.heap.objs.size+1:=⟨_,rfl⟩;obtain⟨j,J⟩:∃j,j=g.heap.objs.size:=⟨_,rfl⟩;have b9:e≠j:=by lia
 have c4:a≠e:=by rw[ee];exact zqV (zp0 y)
 have c5:a≠j:=by rw[J];exact zqV y
 have c0:hz g<=e/\e<h.objs.size:=⟨by show g.heap.objs.size<=e;lia,by sleep 139⟩;have a2:hz g<=j/\j<h.objs.size:=⟨by show g.heap.objs.size<=j;lia,by lia⟩;rw[<-ee,<-J] at he;rw[<-J] at a0;rw[<-ee];clear ee J;have R:Aft X A g {g with heap:=h}:=.heap (t:=g.toks) a1 (by lia) (zpB _);have K:∀b∈[e,j],hz g<=b/\b<hz {g with heap:=h}:=λb m=>by
  refine memK m ?_ λm=>?_
  .exact c0
  .rw [zqP.mp m];exact a2
 have z:∀b∈[e,j],b∉mu:=λb m q=>absurd (k.low b q) (zpO.mpr (K b m).1);have U:=Apart.fresh k λb m=>(K b m).1;have F':Frm X A env sc ([e,j]++mu) fr:=⟨F.toStat,zpw _ F.lmu,F.lfr,F.new,F.cel,λb m=>zpw _ (F.sub b m)⟩;have l₂:Loc X A env ([e,j]++mu) c {g with heap:=h}:=k.grow O R K;have c1:∀(s':Shared),AftL X A ([e,j]++fr) {g with heap:=h} s'->Loc X A env ([e,j]++mu) (I N) s'->AftL X A fr s s'/\Loc X A env mu (I N) s':=λs' C D=>by
  refine⟨((u.trans R).toL.trans C).fresh λb m=>?_,D.mu_less (λb m=>zpw _ m) l.tbm λb m=>?_⟩
  .rcases zpE.mp m with m|m
   .exact .inr (zpK (zpF u.size (K b m).1))
   .exact .inl m
  .rw [ho] at m;exact(l.ownMu b m).1
 refine codeAny_forLoop_any (EnI X A env mu fr {g with heap:=h} e j a N I) (λn s' hZ=>?_) N (.mk 0 .none (Nat.zero_add N) he a0 .refl (by rw[h0];exact l₂));obtain⟨i,c6,G,c2,a3,C,D⟩:=hZ;have V:=M i (G▸zqu i n);refine zku F' hh b9 b3 b4 c2 a3 C D (by rw[ho];exact U) V.1 (λhd s' H a4=>wpAny_execs_nil ?_) λd v S a5 hd H W L a6 a7=>?_
 .have hi:i=N:=Nat.le_antisymm (G▸zqu i n) (V.2▸List.getElem?_eq_none_iff.mp hd);subst hi;obtain⟨q1,q2⟩:=c1 _ H a4;exact hQ _ _ q1 q2 rfl
 .have hiN:i<N:=V.2▸(zpJ.mp hd).1;obtain⟨f,hf,hB⟩:=hb i d hiN hd ([e,j]++mu) (λb m=>zpw _ m) F';refine hB a5 a7 _ _ (λf' r a8 a9 b0=>?_) λv r _ _ hv=>?_
  .have a57:AftL X A fr S r:=a6.trans a8;have T:∀b∈[e,j],∀o,S.heap.get? b=some o->r.heap.get? b=some o:=λb m o q=>
    a57.keep.ex (λw=>(zpz.mp w).elim (λw=>z b m (w▸l.tbm.tb)) λw=>z b m (F.sub b w)) q λw=>z b m (l.tbm.fs b w)
   have Z:EnI X A env mu fr {g with heap:=h} e j a N I (n - 1) r:=.mk (i+1) v (oF G hiN) (T e (.head _) _ W) (ListIter.mv L (T j (.tail _ (.head _)))) (H.trans (a57.sub λb m=>zpw _ m)) a9;rcases hf with rfl|rfl
   .cases (show f'=.next from b0);exact⟨n - 1,oG G hiN,Z⟩
   .cases (show f'=.cont from b0);exact⟨n - 1,oG G hiN,Z⟩
  .rcases hf with rfl|rfl<;>exact False.elim hv
end
def PK (K:Frag){α:Type}(t:Sem α) (r:α):Prop:=∀S,peek K S t=some r
theorem PK.lk {K:Frag}{a:Type}{t:Sem a}{r:a}(h:PK K t r){M:Model}{b:Heap}(x:K.In b):Looks M b t r:=Looks.of_peek x (h _)
theorem zJ {K:Frag}(x:K.In X.kk){h:Heap}(st:X.kk.StaysIn h):K.In h:=λa o e=>st _ _ (x a o e)
noncomputable abbrev tcA (A:Around) (C:Addr) (rest:List Value) (kw:List (Str×Value)):Around:=A.under (.builtin "type.__call__" ⟨.ref C::rest,kw⟩)
section
variable {n:Nat}{C:Addr}{rest:List Value}{kw:List (Str×Value)}
theorem Rm.tc (R:Rm (n+1) A):Rm n (tcA A C rest kw):=by
 refine⟨by have:=R.units;show A.units+1+10 * n+400<cLine;sleep 46,?_⟩;have h:(Code.builtin "type.__call__" ⟨.ref C::rest,kw⟩).weight<=1:=by first|exact zpB 1|exact zqy _
 have:=R.depth;show A.depth+(Code.builtin "type.__call__" ⟨.ref C::rest,kw⟩).weight+2 * n+110<recursionLimit;sleep 104
theorem Aft.tc {s':Shared}:Aft X (tcA A C rest kw) s s'↔Aft X A s s':=⟨λa=>⟨a.keep,a.os,a.gens,a.size,a.toks,a.live⟩,λa=>⟨a.keep,a.os,a.gens,a.size,a.toks,a.live⟩⟩
structure zgx (K:Frag) (C fN sm:Addr):Prop where
 cls:∃od cd sl,K.lookup C=some ⟨.type "type",od,.cls cd,sl⟩/\cd.mro.isEmpty=false
 call:PK K (specialOf (.ref C) "__call__") (some (.builtin "type.__call__"))
 typ:PK K (isInstance (.ref C) (.type "type")) true
 made:PK K (Bind.madeBy (.ref C)) none
 reads:readsIn K C (.type "type")=true
 new:findCls K (.ref C) (.type "type") "__new__"=some (.get (.builtin "staticmethod.__get__") (.ref sm) .none (.ref C))
 sm:∃rest,recIn K sm "staticmethod"=some (.ref fN::rest)
 self:PK K (isSubtype (.ref C) (.ref C)) true
theorem zei {K:Frag}{q u:Addr}(Y:zgx K C q u){R:Result->Shared->Prop}{h:Heap}{g:Array GenState}{d:Drawn}{t:Nat}{n:OsState}(x:K.In h)
  (v:wpAny X.M (tcA A C rest kw) (call (.ref q) (.ref C::rest) kw) (λj k=>wpAny X.M (tcA A C rest kw) (isInstance j (.ref C)) (λb l=>b=true/\wpAny X.M (tcA A C rest kw) (callSpecial? j "__init__" rest kw) (λr c=>(r=none\/r=some .none)/\R (.ok (.ret j)) c) (λe c=>R (.error e) c) l) (λe c=>R (.error e) c) k) (λe c=>R (.error e) c) ⟨h,g,d,t+1,n⟩) :
  codeAny X.M A (.call (.ref C) ⟨rest,kw⟩) R ⟨h,g,d,t,n⟩:=by
 obtain⟨B,w,sl,o,y⟩:=Y.cls;have o:=x _ _ o;refine codeAny_of_tree ?_;show wpAny _ _ (callAny (.ref C) _) _ _ _;refine nd_load o ?_;show wpAny _ _ (callAny.viaDunder (.ref C) _) _ _ _;unfold callAny.viaDunder;refine wpB ((Y.call.lk x).at ?_);dsimp only;rw[tc_bind];refine wpB (zpR (wpB (zpR ?_)));refine zpR (a:=Fin.again (.call (.builtin "type.__call__") ⟨.ref C::rest,kw⟩)) (And.intro rfl ?_);refine codeAny_call_builtin_at (Code.quiet_builtin _ (by decide +kernel)) entry_typeCall (check_slot tc_kind tc_split (Y.typ.lk x) (tc_args _ _ _) ?_);unfold Builtin.«type.__call__»;have z:Looks X.M h (mroOf (.ref C)) w.mro:=((Looks.ld (part:=none) o).andThen .now).andThen .now;have p:Looks X.M h (Bind.madeBy (.ref C)) none:=Y.made.lk x;refine wpB (z.at ?_);rw[if_neg (by rw[y];decide)];refine wpB (p.at ?_);refine wpB (cls_bind (s:=⟨h,g,d,t,n⟩) x Y.reads Y.new (zqY (sm_get (s:=⟨h,g,d,t+1,n⟩) x Y.sm.choose_spec (handed_on rfl ?_))));refine wpB (zpS (zp9 v (λj k m=>?_) λ_ _ e=>e));refine wpB (zp9 m (λb l i=>?_) λ_ _ e=>e);obtain⟨rfl,i⟩:=i;rw[if_neg (by ext)];refine wpB (zpS (zp9 i (λr c f=>?_) λ_ _ e=>e));obtain⟨rfl|rfl,f⟩:=f
 .exact zpR f
 .dsimp only;rw[if_neg (by ext)];exact zpR f
end
theorem zd0 {h:Heap}:Frag.In [] h:=λa o e=>by cases e
noncomputable def misD (C:Addr) (xs:List PyData):PyData:=.dict [(.none,.tuple (.int (C:Nat)::xs))]
inductive zpu (h:Heap) (mu:LA) (C:Addr) (xs:List PyData) (v:Value):Prop
 | mk (a:Addr) (o:Obj) (vs:List Value) (n:Nat) (e:v=.ref a) (hn:a∉mu) (ho:h.get? a=some o) (hc:o.cls=.ref C) (hd:o.data=.seq vs.toArray n) (rs:Rds h mu vs xs)
theorem Rd.kinE {h:Heap}{C:Addr}{xs:List PyData}{v:Value}(r:Rd h mu v (misD C xs)):zpu h mu C xs v:=by
 cases (show zjp h mu v _ from r.view) with
 | ptr b e q=>exact nomatch (Prod.mk.inj (List.cons.inj q).1).1
 | kin b i o us n ys e q a c d f g=>
  have q:=List.cons.inj (PyData.tuple.inj (Prod.mk.inj (List.cons.inj q).1).2);exact⟨b,o,us,n,e,a,c,Int.ofNat.inj (PyData.int.inj q.1)▸d,f,q.2▸g⟩
section
variable {n:Nat}{C:Addr}
theorem zdW {M:Model}{o:Expr}{name:Str}{ap p:Pos}{es:List Expr}{Q:VP}(k:plainBase o=true) (l:(ap.endLine==p.line)=true) (m:es.all plainArg=true) (n:es.length<29)
  (h:wpAny M A (eval o env) (λj a=>wpAny M A (getMethod j name (do return (<-importBound o env).getD true)) (λi b=>wpAny M A (callWith p i.1 i.2 (backTo p (starEach es env)) []) Q E b) E a) E s) :
  wpAny M A (eval (.Call (.Attribute o name ap) es [] p) env) Q E s:=by
 rw[arm_eval_Call,zab k];refine wpB (zp9 h (λj a d=>?_) λ_ _ e=>e);refine wpB (zqI ?_);have c:methodCallForm (es.length+([]:List Keyword).length) (backTo p (starEach es env)) (backToKw p (keywordEach [] env))=true:=by
  unfold methodCallForm;rw[zbu m];show (true&&true&&decide (es.length+([]:List Keyword).length+0<30))=true;have:es.length+([]:List Keyword).length+0<30:=by simp;sleep 8
  rw[zqk this];rfl
 have f:methodCallPos true o env ap p=pure p:=by unfold methodCallPos;simp[l]
 unfold methodCall;rw[c];refine wpB (zpS ?_);unfold calleeOf;rw[if_pos rfl];refine zp9 d (λi b g=>?_) λ_ _ e=>e;exact wpB (wpAny_of_eq f g)
theorem zir:PK [] (specialOf (.type "tuple") "__getattribute__") (some (.builtin "type.__getattribute__")):=λ_=>⋯
theorem zno:PK [] (typeOf (.type "tuple")) (.type "type"):=λ_=>⋯
theorem zjD:PK [] (opaqueClassAbove (.type "tuple")) none:=λ_=>⋯
theorem znq:findCls [] (.type "tuple") (.type "type") "__new__"=some (.val (.builtin "tuple.__new__")):=by kernel_rfl
theorem znp {prog:Program}{w:World}{a:Sem Bool}{Q:Value×List Value->Shared->Prop}(h:Q (.builtin "tuple.__new__",[]) {s with toks:=s.toks+1}):wpAny (model prog w) A (getMethod (.type "tuple") "__new__" a) Q E s:=by
 unfold getMethod;refine wpB ((zir.lk zd0).here ?_);dsimp only;rw[if_pos canon_tga];refine wpB (cls_open (K:=[]) (mc:=.type "type") (hook:=none) zd0 (zjD.lk zd0) (zno.lk zd0) ⋯ (looks_hook zd0 ⋯) ⋯ znq ?_);refine zpR ?_;show wpAny _ _ (handedOut _) _ _ _;rw[handedOut_of ⋯];exact zpR (zpR h)
structure zeE (K:Frag) (C:Addr):Prop where
 isT:PK K (isType (.ref C)) true
 sub:PK K (isSubtype (.ref C) (.type "tuple")) true
 here:PK K (Bind.madeHere "tuple.__new__" (.ref C)) ()
 chk:∀v,PK K (checkBuiltinCall "tuple.__new__" ⟨[.ref C,v],[]⟩) ()
 ini:PK K (typeLookup (.ref C) "__init__") (some (.builtin "object.__init__"))
 obj:PK K (isSubtype (.ref C) (.type "object")) true
 made:PK K (Bind.madeBy (.ref C)) none
 cls:∃od cd sl,K.lookup C=some ⟨.type "type",od,.cls cd,sl⟩/\cd.hasDel=false
theorem zld:plainId "tuple.__new__"=true:=by decide +kernel
theorem zle:entryFor table "tuple.__new__"=some Builtin.«tuple.__new__»:=entryFor_of_tree ⋯
theorem znr {prog:Program}{w:World}{K:Frag}(Y:zeE K C){t:Addr}{vs:List Value}{m:Nat}{Q:VP}(x:K.In s.heap) (j:s.heap.get? t=some (tup vs m)) (k:vs.length<=1000)
  (h:∀h' b dx,(∀b o,s.heap.get? b=some o->h'.get? b=some o)->s.heap.objs.size<=b->s.heap.objs.size<=h'.objs.size->h'.get? b=some ⟨.ref C,some dx,.seq vs.toArray 0,#[]⟩->Q (.ref b) {s with heap:=h'}) :
  wpAny (model prog w) A (call (.builtin "tuple.__new__") [.ref C,.ref t]) Q E s:=by
 refine zqY (codeAny_call_builtin zld zle ((Y.chk (.ref t)).lk x |>.here ?_));unfold Builtin.«tuple.__new__»;refine wpB ((Y.isT.lk x).here ?_);rw[if_neg (by ext)];refine wpB ((Y.sub.lk x).here ?_);rw[if_neg (by ext)];refine wpB ((Y.here.lk x).here ?_);refine wpB ((Y.ini.lk x).here ?_);rw[if_pos (by ext)];refine wpB (wpAny_of_eq (a:=()) ⋯ ?_);refine wpB (m:=checkCount "tuple" 0 1 _) (wpAny_of_eq (a:=()) ⋯ ?_);refine wpB (m:=collect (.ref t)) ?_;refine wpt ?_;refine wpAny_collect_seq t (T:="tuple") (o:=tup vs m) (items:=vs.toArray) (n:=m) (.inr rfl) j rfl rfl (λc d _ f=>?_) (by rw[zqp,sizeLine_eq];sleep 124);refine wpB (zpR ?_);obtain⟨p,q,sl,l,i⟩:=Y.cls;have f:s.heap.objs.size<=c.objs.size:=f;have g:=d _ _ (x _ _ l);dsimp only;refine wpB (wpAny_alloc ?_);unfold newObj;dsimp only;rw[if_neg (by rw[zqp,sizeLine_eq];lia)];unfold newObjAsIs classHasDel;refine wpB (wpB (wpAny_alloc ?_));dsimp only;refine wpB (wpB (zq9 (zpD _ (zpD _ g)) (zpR ?_)));rw[i,if_neg (by ext)];refine zpR (zpR ?_);refine h _ _ c.objs.size (λb o e=>zpD _ (zpD _ (d b o e))) ?_ ?_ (zpG _ rfl)
 .show s.heap.objs.size<=(Heap.push _ _).objs.size;rw[size_push'];sleep 10
 .show s.heap.objs.size<=(Heap.push _ _).objs.size;rw[size_push',size_push'];lia
end
noncomputable def zo (i:Nat) (x:Str):Stmt:=((zG (stm i)).find? λst=>(zhX st).2.2.2==x).getD (.Pass ⟨0,0,0,0⟩)
abbrev zpk (X:Wd) (A:Around) (n i:Nat) (x:Str) (ds:List PyData) (f:Fl):Prop:=zP X A n (zd (zo i x)) (zA (zo i x)) ds (zG (zo i x)) f
abbrev FnIn (X:Wd) (fa:Addr) (i:Nat) (x:Str):Prop:=FnAt X fa (zA (zo i x)) (zG (zo i x)) (zd (zo i x))
section
variable {n:Nat}{C:Addr}{K:Frag}
theorem zhi (S:Stat X env sc) (O:X.Ok) (B:Blt2 X) (Y:zeE K C) (z:K.In X.kk) (l:Loc X A env mu c s){ap p D:Pos}{u v:Expr}{xs:List PyData}(F:sc.names.lookup ("tuple":Str)=some .globalImplicit) (G:(ap.endLine==p.line)=true) (f:plainArg u=true) (i:plainArg v=true)
  (H:∀s',Aft X A s s'->Ev X A env mu u (ptr C) s') (I:∀s',Aft X A s s'->Ev X A env mu v (.tuple xs) s') (w:xs.length<=1000):Ev X A env mu (.Call (.Attribute (.Name "tuple" D) "__new__" ap) [u,v] [] p) (misD C xs) s:=λE Q h=>by
 refine zdW ⋯ G (by simp[f,i]) (show 2<29 by decide) (zw S O l.stay F (by ext) B.tuple (znp ?_));have a0:Aft X A s {s with toks:=s.toks+1}:=.tok _;have x:=l.aft O a0;refine zy O (mu:=mu) (ds:=[ptr C,.tuple xs]) (.builtin _) x.stay x.frs (by simp[f,i]) rfl (zc l.tbm f (H _ a0) λs' a=>zc l.tbm i (I s' (a0.trans a)) λ_ _=>evs_nil) λvs j m n=>?_;have o:=a0.trans m;have d:=l.aft O o;refine Rds.two n λ_ _ J L=>?_;cases J;cases L with
 | tuple N e y=>
 refine znr Y (zJ z d.stay) e (by rw[y.length];exact w) λh' b dx k M r g=>?_;exact h _ _ (o.trans (.heap (t:=j.toks) k r (zpB _))) (.kin (λq=>absurd (d.low _ q) (zpO.mpr M)) g rfl rfl (y.more k))
theorem zhB (O:X.Ok) (B:Blt2 X) (Y:zeE K C) (g:K.In X.kk) (h:A.handled=none){d1 d2 d3:PyData}:zpk X A n 38 "__new__" [ptr C,d1,d2,d3] (.ret (misD C [d1,d2,d3])):=zP.ofX λp env mu' fr' R c q F r=>by
 rw[h] at c;have b:=λm=>sound (mu:=mu') O B.toBlt (zai (k:=n)) R c F.toStat m;show (_:List Stmt->_->Prop) (_::_) _;refine zz F (zaq F.toStat O (d:=.str _) ⋯ ⋯ λs l=>ev_str) ?_;refine zaf O λs l=>?_;refine zhi F.toStat O B Y g l ⋯ ⋯ ⋯ ⋯ (λs' a=>(b 3).e ⋯ s' (l.aft O a)) (λs' a=>?_) (show 3<=1000 by decide);have l':=l.aft O a;exact zar l'.tbm l'.low (zc l'.tbm ⋯ ((b 3).e ⋯ s' l') λi f=>zc l'.tbm ⋯ ((b 3).e ⋯ i (l'.aft O f)) λj o=>zc l'.tbm ⋯ ((b 3).e ⋯ j ((l'.aft O f).aft O o)) λ_ _=>evs_nil) (by show 3<=sizeLine;decide)
theorem zlC (a b c d:Value):argsOk "object.__init__" ⟨[a,b,c,d],[]⟩:=by unfold argsOk;kernel_rfl
theorem zmY (O:X.Ok) (B:Blt2 X) (Y:zeE K C){J S:Addr}(N:zgx K C J S) (w:K.In X.kk) (R:Rm (n+2) A) (T:A.handled=none) (F:FnIn X J 38 "__new__"){d1 d2 d3:PyData}:Cl X A mu (.ref C) [d1,d2,d3] (misD C [d1,d2,d3]):=λvs s E Q st tk p L U r h=>by
 refine Rds.three r λ_ _ _ V W Z=>?_;rename_i y z D;refine zqY ?_;obtain⟨G,g,d,t,H⟩:=s;refine zei N (zJ w st) ?_;have a0:Aft X A ⟨G,g,d,t,H⟩ ⟨G,g,d,t+1,H⟩:=.tok _;have cl:=zi8 (A:=tcA A C [y,z,D] []) (mu:=mu) O R.tc F (ds:=[ptr C,d1,d2,d3]) rfl (zhB O B Y w T);refine cl [.ref C,y,z,D] _ _ _ st ⟨zp0 tk.tk,tk.tb⟩ p.to ⟨L.tb,L.fs⟩ U (.cons (.ptr C) (.cons V (.cons W (.cons Z .nil)))) λv b q P=>?_;have c:Aft X A ⟨G,g,d,t+1,H⟩ b:=Aft.tc.mp q;have j:X.kk.StaysIn b.heap:=zH O p (a0.trans c) st;have x:=zJ w j;have I:=P;obtain⟨a,o,ws,m,rfl,hn,e,hc,hd,rs⟩:=P.kinE;have f:Looks X.M b.heap (typeOf (.ref a)) (.ref C):=hc▸(Looks.ld (part:=none) e).andThen .now;have k:=N.self.lk (M:=X.M) x;have u:=Y.obj.lk (M:=X.M) x;have i:=Y.ini.lk (M:=X.M) x;have l:=Y.made.lk (M:=X.M) x;refine wpB (f.here (k.here ⟨rfl,?_⟩));unfold callSpecial? specialOf;refine wpB (wpB (f.here (i.here (zpS (wpB ?_)))));rw[oi_bind];refine zpR (wpB (zqY (codeAny_call_builtin oi_plain entry_oi (@check_slot X.M _ _ _ "object.__init__" "object" "__init__" (.ref a) [y,z,D] [] _ oi_kind oi_split (f.andThen u) (zlC _ _ _ _) ?_))));unfold Builtin.«object.__init__»;refine wpB (f.here (wpB (i.here (wpB (l.here ?_)))));rw[if_neg (by ext)];rw[if_neg (by show ¬((!(false||((none:Option String) != some "object.__new__")))=true);decide)];exact zpR (zpR ⟨.inr rfl,h _ _ (a0.trans c) I⟩)
theorem zcU (O:X.Ok){i j:Addr}(N:zgx K C i j) (k:K.In X.kk){p:Pos}{es:List Expr}{ds:List PyData}{Q:VP}(st:X.kk.StaysIn s.heap) (d:Frs X A s.heap) (f:es.all plainArg=true) (l:es.length=ds.length) (e:Evs X A env mu p es ds s)
  (h:∀vs s',Aft X A s s'->Rds s'.heap mu vs ds->wpAny X.M A (call (.ref C) vs) Q E s'):wpAny X.M A (callWith p (.ref C) [] (backTo p (starEach es env)) []) Q E s:=by
 unfold callWith;refine wpB (zpS (zat f l e λvs b a c=>wpB (zqI ?_)));rw[zak f];have x:=zJ k (zH O d a st);obtain⟨o,q,sl,m,_⟩:=N.cls;unfold keeperOf;refine wpB (wpB (zq9 (x _ _ m) (wpB ((N.call.lk x).here ?_))));rw[if_pos (by ext)];refine zpR ?_;exact wpB (zp9 (h vs b a c) (λr g n=>wpB (zpS (wpAny_point (zpR n)))) λ_ _ x=>x)
theorem zeu (S:Stat X env sc) (O:X.Ok) (l:Loc X A env mu c s){g i:Addr}(N:zgx K C g i) (j:K.In X.kk){f:Str}{k p:Pos}{es:List Expr}{ds:List PyData}{d:PyData}(m:sc.names.lookup f=some .globalImplicit) (hd:(f==("__debug__":Str))=false) (T:Top1 X f (.ref C))
  (n:es.all plainArg=true) (o:es.length=ds.length) (e:Evs X A env mu p es ds s) (q:Cl X A mu (.ref C) ds d):Ev X A env mu (.Call (.Name f k) es [] p) d s:=λE Q h=>by
 refine zqZ (zw S O l.stay m hd T (zcU O N j l.stay l.frs n o e λvs s' a r=>?_));exact q vs s' E Q (zH O l.frs a l.stay) (l.tk.aft a) (l.frs.aft a) l.tbm (l.low.aft a) r λv b t u=>h v b (a.trans t) u
end
theorem zej:mroOf (.type "object")=pure [.type "object"]:=by rw[mroOf_type];kernel_rfl
theorem zcw:typeLookup (.type "object") "__new__"=pure (some (.builtin "object.__new__")):=by rw[typeLookup_type,builtinLookup_eq_fast];kernel_rfl
theorem zcZ:Slot "object" "__init__" "object.__init__":=
 .of (owner:="object") (n:="__init__") (by rw[typeLookup_type,builtinLookup_eq_fast];kernel_rfl) (by decide +kernel) (by decide +kernel) (by decide +kernel)
  (by first|exact .inl (by decide +kernel)|exact .inr (by decide +kernel)) (by rw[zqD];kernel_rfl)
theorem called_object:TypeCalled "object" "object.__new__" "object.__init__":=
 ⟨by decide +kernel,by decide +kernel,⟨_,_,zej⟩,madeBy_type zej zcw (by decide +kernel),by decide +kernel,by rw[zqD];kernel_rfl,zcZ⟩
theorem on_entry:entryFor table "object.__new__"=some Builtin.«object.__new__»:=entryFor_of_tree ∅
theorem on_check:checkTypeCall "object" ⟨[],[]⟩=pure ():=by kernel_rfl
theorem on_meets:Meets (Builtin.«object.__new__» ⟨[.type "object"],[]⟩) (λ_ R s=>R (.ok (.ret (.ref s.heap.objs.size))) {s with heap:=s.heap.push bare}):=.of_wp λprog w A R s h=>by
 have e:Builtin.«object.__new__» ⟨[.type "object"],[]⟩=(alloc bare>>=λa=>pure (.done (.ret (.ref a)))):=by kernel_rfl
 rw[e];exact wpB (wpAny_alloc (zpR ⟨_,rfl,h⟩))
theorem zhx {prog:Program}{w:World}{Q:VP}(h:Q (.ref s.heap.objs.size) {s with heap:=s.heap.push bare}):wpAny (model prog w) A (call (.type "object") []) Q E s:=by
 refine callType_meets (Q₁:=λb a=>a.TypeIs b "object"/\Q b a) called_object on_check on_checkNew on_entry PySem.F.entry_object_init on_meets ?_ λb a c=>⟨c.1,oi_args b,(λ_ R s=>R (.ok (.ret .none)) s),?_,rfl,c.2⟩
 .exact ⟨⟨_,zpG _ rfl,rfl⟩,h⟩
 .exact λprog w A R s h=>by rw[oi_run];exact zpR h
section
variable {mu fr mu0:LA}{n:Nat}
def EvO (X:Wd) (A:Around) (env:Env) (mu:LA) (e:Expr) (o:Own) (s:Shared):Prop:=
 ∀(E:VP) (Q:VP),(∀b s',Aft X A s s'->hz s<=b->b<hz s'->zR s'.heap ([b]++mu) b o->Q (.ref b) s')->wpAny X.M A (eval e env) Q E s
theorem EvN.evo {e:Expr}{ys:List PyData}(h:EvN X A env mu e ys s):EvO X A env mu e (.lst ys) s:=λE Q c=>h E Q λb s' a d h=>c b s' a d (h.elim λ_ h=>h.elim λ_ h=>zpI h.1) h
theorem zaA (S:Stat X env sc) (O:X.Ok) (B:Blt X) (l:Loc X A env mu c s){j p:Pos}{e:Expr}{xs:List PyData}(k:sc.names.lookup ("list":Str)=some .globalImplicit) (f:plainArg e=true) (m:Ev X A env mu e (.list xs) s) (b:xs.length<=sizeLine) :
  EvN X A env mu (.Call (.Name "list" j) [e] [] p) xs s:=λE Q h=>by
 refine wpAny_Call_NameR (zw S O l.stay k (by ext) B.list (zy O (ds:=[.list xs]) (.type _) l.stay l.frs (by simp[f]) rfl (zc l.tbm f m λ_ _=>evs_nil) λvs s' g r=>?_));refine Rds.one r λ_ a=>?_;cases a with
 | list n e i=>
  refine wpt (call_list_seq _ (.inl rfl) e rfl rfl (λh' c' k1 k2 _ d=>h _ _ (g.trans (.heap (t:=s'.toks) k1 d (zpB _))) g.size ⟨_,_,k2,?_⟩) (by rw[zqp,i.length];exact b));exact(i.low (new:=[s'.heap.objs.size]) λy q=>by rw[zqP.mp q];exact zpB _).more k1
theorem ziT (S:Stat X env sc) (O:X.Ok) (T:Top1 X "object" (.type "object")) (l:Loc X A env mu c s){b p:Pos}(d:sc.names.lookup ("object":Str)=some .globalImplicit):EvO X A env mu (.Call (.Name "object" b) [] [] p) (.raw bare) s:=λE Q h=>by
 refine zqZ (zw S O l.stay d (by ext) T (zy O (mu:=mu) (ds:=[]) (.type _) l.stay l.frs ⋯ rfl evs_nil λvs s' a r=>?_));cases r;refine zhx (h _ _ (a.trans (.push _)) a.size ?_ (zpG _ rfl));show _<(Heap.push _ _).objs.size;rw[size_push'];exact zpY _
theorem zhK (F:Frm X A env sc mu fr) (O:X.Ok){f:Fl}{x:Str}{xp p:Pos}{e:Expr}{o:Own}{z:List Stmt}(C:∀b,Own.ads (b,o)=[b]) (D:sc.names.lookup x=some .local) (G:zah e=true) (H:∀s,Loc X A env mu c s->EvO X A env mu e o s)
  (h:∀b,b∉mu->Frm X A env sc (b::mu) (b::fr)->StF X A env (b::mu) (b::fr) mu0 {c.set x (ptr b) with own:=(b,o)::c.own} z f):StF X A env mu fr mu0 c (.Assign [.Name x xp] e p::z) f:=λs l E Q I J=>by
 refine zpT (wpAny_Assign_Name (H s l _ _ λb B a t u k=>?_) (zC G));have g:Frm X A env sc ([b]++mu) ([b]++fr):=F.grow [b];have w:b∉mu:=λq=>absurd (l.low b q) (zpO.mpr t);have l₂:=l.own_new O a t u (C b) k;refine zq g l₂ D (.ptr b) λd i n=>?_;have j:∀{s':Shared},AftL X A (b::fr) d s'->AftL X A fr s s':=λr=>((a.toL.trans i).trans r).fresh λy m=>by
  refine memK m ?_ λm=>?_
  .exact .inr (zpK t)
  .exact .inl m
 exact h b w g d n E Q (λK s' r L=>I K s' (j r) L) λv s' r q1 q2 M=>J v s' (j r) q1 q2 (M.after (a.toL.trans i:AftL X A ([b]++fr) s d))
theorem zlk (F:Frm X A env sc mu fr) (O:X.Ok) (hh:A.handled=none){f:Fl}{x y:Str}{xp Y p Z C:Pos}{k k':Nat}{H I:Expr}{o1 o2:Own}{ss:List Stmt}(h1:∀b,Own.ads (b,o1)=[b]) (h2:∀b,Own.ads (b,o2)=[b]) (hk:sc.names.lookup x=some .local) (a0:sc.names.lookup y=some .local) (a1:plainArg H=true) (a2:plainArg I=true)
  (hs:swapsWithSole [.Tuple [.Name x xp,.Name y Y] k Z] (.Tuple [H,I] k' C) p.line env=pure false) (hw:swappedStores [.Tuple [.Name x xp,.Name y Y] k Z] (.Tuple [H,I] k' C) env=pure (some [x,y]))
  (a3:∀s,Loc X A env mu c s->EvO X A env mu H o1 s) (a4:∀b mu' s,Loc X A env mu' {c with own:=(b,o1)::c.own} s->EvO X A env mu' I o2 s)
  (h:∀b d,b∉mu->d∉b::mu->Frm X A env sc (d::b::mu) (d::b::fr)->StF X A env (d::b::mu) (d::b::fr) mu0 {(c.set y (ptr d)).set x (ptr b) with own:=(d,o2)::(b,o1)::c.own} ss f):StF X A env mu fr mu0 c (.Assign [.Tuple [.Name x xp,.Name y Y] k Z] (.Tuple [H,I] k' C) p::ss) f:=λs l E Q hQ hE=>by
 refine zpT (Assign_Tuple_swapped (Tuple_ (spliced_more (a3 s l _ _ λb J e hb a5 ob=>?_) (zh a1))) hs hw);have K:Frm X A env sc ([b]++mu) ([b]++fr):=F.grow [b];have a6:b∉mu:=λq=>absurd (l.low b q) (zpO.mpr hb);have g:=l.own_new O e hb a5 (h1 b) ob;refine spliced_more (a4 b _ J g _ _ λd a n D L a8=>?_) (zh a2);have i:Frm X A env sc ([d]++([b]++mu)) ([d]++([b]++fr)):=K.grow [d];have M:d∉[b]++mu:=λq=>absurd (g.low d q) (zpO.mpr D);have l₂:=g.own_new O n D L (h2 d) a8;refine spliced_none (zp8 ?_ (by show 2<=sizeLine;decide));have r:Aft X A a {a with heap:=a.heap.push {cls:=.type "tuple",data:=.seq [Value.ref b,.ref d].toArray}}:=.push _;have N:=l₂.aft O r;refine wpt (wpAny_unpackItems_tuple hh (t:=a.heap.objs.size) (items:=#[.ref b,.ref d]) ⟨_,zpG _ rfl,rfl,_,rfl⟩ λu G _ z5=>?_);have k5:∀z o,(a.heap.push {cls:=.type "tuple",data:=.seq [Value.ref b,.ref d].toArray}).get? z=some o->u.get? z=some o:=λz o q=>G z o (zqV (zpI q)) q;have w:Aft X A {a with heap:=a.heap.push {cls:=.type "tuple",data:=.seq [Value.ref b,.ref d].toArray}} {a with heap:=u}:=.heap (t:=a.toks) k5 z5 (zpB _);have P:=N.aft O w;show wpAny _ A (do holding [.ref b] (bindName env y (.ref d));do holding [] (bindName env x (.ref b));pure ()) _ _ _;refine wpB (zpS (wpAny_bindName (zq i P a0 (.ptr d) λa9 R S=>?_)));refine wpB (zpS (wpAny_bindName (zq i S hk (.ptr b) λj T U=>zpR ?_)));have V:AftL X A ([d]++([b]++fr)) s j:=((((e.trans n).trans r).trans w).toL.trans R).trans T;have B:∀{s':Shared},AftL X A (d::b::fr) j s'->AftL X A fr s s':=λW=>(V.trans W).fresh λz m=>by
  refine memK m ?_ λm=>?_
  .exact .inr (zpK (zpF e.size D))
  .refine memK m ?_ λm=>?_
   .exact .inr (zpK hb)
   .exact .inl m
 exact h b d a6 M i j U E Q (λf' s' W hf=>hQ f' s' (B W) hf) λv s' W q1 q2 hv=>hE v s' (B W) q1 q2 (hv.after V)
end
noncomputable def SubL {α:Type}:List (Str×α)->List (Str×α)->Prop
 | [],_=>True
 | p::r,l=>l.lookup p.1=some p.2/\SubL r l
theorem SubL.of {a:Type}{l:List (Str×a)}:∀{r:List (Str×a)},SubL r l->∀y d,r.lookup y=some d->l.lookup y=some d
 | [],_,y,d,e=>by simp at e
 | (x,v)::r,h,y,d,e=>by
  rw[List.lookup] at e
  by_cases b:y=x
  .subst b;rw[zqG] at e;cases e;exact h.1
  .rw [zpH.mpr b] at e;exact SubL.of h.2 y d e
noncomputable def elD (nl:Addr):Option Th->PyData
 | none=>ptr nl
 | some t=>thD t
noncomputable def strike (l:List (Option Th)) (t:Th) (a b:Nat):List (Option Th):=l.mapIdx λj o=>if a<=j/\j<b/\o=some t then none else o
noncomputable def cnt (l:List (Option Th)) (t:Th) (a b:Nat):Nat:=((l.take b).drop a).count (some t)
theorem strike_length {l:List (Option Th)}{t:Th}{a b:Nat}:(strike l t a b).length=l.length:=by simp[strike]
theorem zag {l:List (Option Th)}{t:Th}{a b j:Nat}(h:j<l.length):(strike l t a b)[j]? = some (if a<=j/\j<b/\l[j]=some t then none else l[j]):=by
 unfold strike;rw[List.getElem?_mapIdx,zpN h];rfl
theorem zkm {a:Type}{l m:List a}(e:l.length=m.length) (h:∀j,j<m.length->l[j]? = m[j]?):l=m:=List.ext_getElem? λj=>by
 by_cases q:j<m.length
 .exact h j q
 .rw [List.getElem?_eq_none (zqK q),List.getElem?_eq_none (e▸zqK q)]
theorem zgJ {l:List (Option Th)}{t:Th}{a:Nat}:strike l t a a=l:=by
 refine zkm strike_length λj h=>?_;rw[zag h,zpN h,if_neg λq=>zpZ _ (zqf q.1 q.2.1)]
theorem zgK {l:List (Option Th)}{t:Th}{a b:Nat}(f:a<=b) (h:b<l.length):strike l t a (b+1)=if l[b]=some t then (strike l t a b).set b none else strike l t a b:=by
 have key:∀j (c:j<l.length),j≠b->(strike l t a (b+1))[j]? = (strike l t a b)[j]?:=λj c n=>by
  rw[zag c,zag c]
  by_cases q:a<=j/\j<b/\l[j]=some t
  .rw [if_pos q,if_pos ⟨q.1,zp0 q.2.1,q.2.2⟩]
  .rw [if_neg q,if_neg (λw=>q ⟨w.1,Nat.lt_of_le_of_ne (Nat.le_of_lt_succ w.2.1) n,w.2.2⟩)]
 have hz:b<(strike l t a b).length:=Nat.lt_of_lt_of_eq h strike_length.symm
 by_cases d:l[b]=some t
 .rw [if_pos d];refine zkm (strike_length.trans (List.length_set.trans strike_length).symm) λj c=>?_
  by_cases e:j=b
  .rw [e,zag h,if_pos ⟨f,zpY _,d⟩,List.getElem?_set_self hz]
  .rw [List.getElem?_set_ne λq=>e q.symm];exact key j (Nat.lt_of_lt_of_eq c (List.length_set.trans strike_length)) e
 .rw [if_neg d];refine zkm (strike_length.trans strike_length.symm) λj c=>?_
  by_cases e:j=b
  .rw [e,zag h,zag h,if_neg λw=>d w.2.2,if_neg λw=>d w.2.2]
  .exact key j (Nat.lt_of_lt_of_eq c strike_length) e
theorem zmd {l:List (Option Th)}{t:Th}{a:Nat}:cnt l t a a=0:=by
 unfold cnt;have:(l.take a).drop a=[]:=List.drop_eq_nil_of_le (by rw[List.length_take];sleep 51);rw[this];rfl
theorem zme {l:List (Option Th)}{t:Th}{a b:Nat}(d:a<=b) (h:b<l.length):cnt l t a (b+1)=if l[b]=some t then cnt l t a b+1 else cnt l t a b:=by
 unfold cnt;have e:(l.take (b+1)).drop a=(l.take b).drop a++[l[b]]:=by
  rw[List.take_succ_eq_append_getElem h,List.drop_append_of_le_length (by rw[List.length_take];sleep 113)]
 rw[e,zqL]
 by_cases c:l[b]=some t
 .rw [if_pos c,c];simp
 .rw [if_neg c];have:List.count (some t) [l[b]]=0:=by simp[c]
  rw[this];rfl
structure CdS where
 ss:List (Option Th)
 ts:List (Option Th)
 res:List Dif
noncomputable def cdStep1 (i:Nat) (q:CdS):CdS:=q.ss[i]?.elim q λo=>o.elim q λt=>⟨strike q.ss t i q.ss.length,strike q.ts t 0 q.ts.length,if cnt q.ss t i q.ss.length=cnt q.ts t 0 q.ts.length then q.res else q.res++[(cnt q.ss t i q.ss.length,cnt q.ts t 0 q.ts.length,t)]⟩
noncomputable def cdStep2 (i:Nat) (q:CdS):CdS:=q.ts[i]?.elim q λo=>o.elim q λt=>⟨q.ss,strike q.ts t i q.ts.length,q.res++[(0,cnt q.ts t i q.ts.length,t)]⟩
noncomputable def cdAt1 (f g:List Th):Nat->CdS
 | 0=>⟨f.map some,g.map some,[]⟩
 | i+1=>cdStep1 i (cdAt1 f g i)
noncomputable def cdAt2 (f g:List Th):Nat->CdS
 | 0=>cdAt1 f g f.length
 | i+1=>cdStep2 i (cdAt2 f g i)
noncomputable def cdT (f g:List Th):List Dif:=(cdAt2 f g g.length).res
noncomputable def difD (C:Addr) (r:Dif):PyData:=misD C [.int (r.1:Nat),.int (r.2.1:Nat),thD r.2.2]
theorem zhw (i:Nat) (q:CdS):(cdStep1 i q).ss.length=q.ss.length/\(cdStep1 i q).ts.length=q.ts.length/\(cdStep1 i q).res.length<=q.res.length+1:=by
 unfold cdStep1;cases q.ss[i]? with
 | none=>exact⟨rfl,rfl,zqz _⟩
 | some o=>cases o with
  | none=>exact⟨rfl,rfl,zqz _⟩
  | some t=>
   refine⟨strike_length,strike_length,?_⟩;show (if _ then q.res else _).length<=_
   by_cases h:cnt q.ss t i q.ss.length=cnt q.ts t 0 q.ts.length
   .rw [if_pos h];exact zqz _
   .rw [if_neg h,zqq];exact zpB _
theorem zhv (i:Nat) (q:CdS):(cdStep2 i q).ss.length=q.ss.length/\(cdStep2 i q).ts.length=q.ts.length/\(cdStep2 i q).res.length<=q.res.length+1:=by
 unfold cdStep2;cases q.ts[i]? with
 | none=>exact⟨rfl,rfl,zqz _⟩
 | some o=>cases o with
  | none=>exact⟨rfl,rfl,zqz _⟩
  | some t=>exact⟨rfl,strike_length,zqF zqq⟩
theorem zdV (f g:List Th) (i:Nat):(cdAt1 f g i).ss.length=f.length/\(cdAt1 f g i).ts.length=g.length/\(cdAt1 f g i).res.length<=i:=by
 induction i with
 | zero=>exact⟨zqn _,zqn _,zpB _⟩
 | succ i a=>
  obtain⟨b,c,c'⟩:=zhw i (cdAt1 f g i);exact⟨b.trans a.1,c.trans a.2.1,zpF c' (zqx a.2.2)⟩
theorem zgl (f g:List Th) (i:Nat):(cdAt2 f g i).ss.length=f.length/\(cdAt2 f g i).ts.length=g.length/\(cdAt2 f g i).res.length<=f.length+i:=by
 induction i with
 | zero=>exact zdV f g f.length
 | succ i a=>
  obtain⟨b,c,c'⟩:=zhv i (cdAt2 f g i);exact⟨b.trans a.1,c.trans a.2.1,zpF c' (zqx a.2.2)⟩
def zb5 (l:List (Option Th)):Prop:=∀t,some t∈l->good (thD t)=true
theorem zb5.strike {l:List (Option Th)}(h:zb5 l){t:Th}{a b:Nat}:zb5 (strike l t a b):=λu m=>by
 obtain⟨j,c,e⟩:=List.mem_iff_getElem.mp m;have d:j<l.length:=Nat.lt_of_lt_of_eq c strike_length;have e:=zqr ((zag d).symm.trans ((zpN c).trans (congrArg _ e)))
 by_cases q:a<=j/\j<b/\l[j]=Option.some t
 .rw [if_pos q] at e;cases e
 .rw [if_neg q] at e;exact h u (e▸List.getElem_mem _)
theorem zb5.some {f:List Th}(h:∀t∈f,good (thD t)=true):zb5 (f.map Option.some):=λt m=>by
 obtain⟨u,mu,e⟩:=zqa.mp m;cases e;exact h _ mu
theorem zey {f g:List Th}(c:∀t∈f,good (thD t)=true) (d:∀t∈g,good (thD t)=true):∀i,zb5 (cdAt1 f g i).ss/\zb5 (cdAt1 f g i).ts:=by
 intro i
 induction i with
 | zero=>exact⟨.some c,.some d⟩
 | succ i e=>
  obtain⟨a,b⟩:=e;show zb5 (cdStep1 i (cdAt1 f g i)).ss/\zb5 (cdStep1 i (cdAt1 f g i)).ts;unfold cdStep1;cases (cdAt1 f g i).ss[i]? with
  | none=>exact⟨a,b⟩
  | some o=>cases o with
   | none=>exact⟨a,b⟩
   | some t=>exact⟨a.strike,b.strike⟩
theorem zja {f g:List Th}(c:∀t∈f,good (thD t)=true) (d:∀t∈g,good (thD t)=true):∀i,zb5 (cdAt2 f g i).ss/\zb5 (cdAt2 f g i).ts:=by
 intro i
 induction i with
 | zero=>exact zey c d _
 | succ i e=>
  obtain⟨a,b⟩:=e;show zb5 (cdStep2 i (cdAt2 f g i)).ss/\zb5 (cdStep2 i (cdAt2 f g i)).ts;unfold cdStep2;cases (cdAt2 f g i).ts[i]? with
  | none=>exact⟨a,b⟩
  | some o=>cases o with
   | none=>exact⟨a,b⟩
   | some t=>exact⟨a,b.strike⟩
section
variable {n:Nat}{nl:Addr}
theorem zmT {l:List (Option Th)}{i:Nat}(h:i<l.length):(l.map (elD nl))[i]? = some (elD nl l[i]):=by simp[h]
theorem zpt (R:Rm n A) (l:Loc X A env mu c s) (f:(nl,Own.raw bare)∈c.own){o:Option Th}{t:Th}{u v:Value}(b:Rd s.heap mu u (elD nl o)) (d:Rd s.heap mu v (thD t)) (g:good (thD t)=true) (a:∀w,o=some w->good (thD w)=true):Cm X A .Eq u v (decide (o=some t)) s:=by
 cases o with
 | none=>
  have i:s.heap.get? nl=some bare:=l.own _ f;have e:decide ((none:Option Th)=some t)=false:=by simp
  rw[e];cases b;exact zi3 R i d
 | some w=>
  have e:decide (some w=some t)=PyData.eqv (thD w) (thD t):=by
   rw[zcG]
   by_cases h:w=t
   .subst h;simp
   .simp [h]
  rw[e];exact zmj R b d (a w rfl) g
theorem zfj (l:Loc X A env mu c s) (g:(nl,Own.raw bare)∈c.own){o:Option Th}{u v:Value}(d:Rd s.heap mu u (elD nl o)) (i:Rd s.heap mu v (ptr nl)):Cm X A .Is u v (decide (o=none)) s:=λE Q h=>by
 have f:s.heap.get? nl=some bare:=l.own _ g;cases i;cases o with
 | none=>cases d;exact wpAny_is_ref_self (h _ .refl)
 | some w=>
  obtain⟨a,vs,k,rfl,_,e,_⟩:=isL d;have b:a≠nl:=λq=>by subst q;exact absurd (congrArg Obj.cls (zqr (e.symm.trans f))) (by show ¬(Value.type "list"=Value.type "object");decide)
  exact wpAny_is_ref_other b e f (by show ¬(Value.type "list"=Value.type "tuple");decide) (h _ .refl)
end
section
variable {c c' c1:Ctx}{n:Nat}{a nl:Addr}{pre post:List (Addr×Own)}{f:Fl}{st:Stmt}
theorem Loc.own_eq (l:Loc X A env mu c s){ow:List (Addr×Own)}(h:c.own=ow):Loc X A env mu {c with own:=ow} s:=by subst h;exact l
theorem zhO (a:∀s,Loc X A env mu c s->Loc X A env mu c' s) (h:St1 X A env mu fr c' st f c1):St1 X A env mu fr c st f c1:=λs l=>h s (a s l)
theorem zeM (h:St1 X A env mu fr c st f c1) (b:∀s,Loc X A env mu c1 s->Loc X A env mu c' s):St1 X A env mu fr c st f c':=λs l E Q d e=>
 h s l E Q (λg s' a l' i=>d g s' a (b s' l') i) λv s' a l' j=>e v s' a (b s' l') j
theorem zdx {x y:Str}{d d':PyData}(h:c.loc.lookup x=some d'):(c.set x d').loc.lookup y=some d->c.loc.lookup y=some d:=λe=>by
 have e:(setL c.loc x d').lookup y=some d:=e;rw[zk] at e
 by_cases a:y=x
 .rw [if_pos a] at e;rw[a,h];exact e
 .rw [if_neg a] at e;exact e
theorem zn {x y:Str}{d d':PyData}(a:(y==x)=false) (h:c.loc.lookup y=some d):(c.set x d').loc.lookup y=some d:=by
 show (setL c.loc x d').lookup y=_;rw[zk,if_neg (zpH.mp a)];exact h
theorem lookup_set_self {x:Str}{d':PyData}:(c.set x d').loc.lookup x=some d':=by
 show (setL c.loc x d').lookup x=_;rw[zk,if_pos rfl]
theorem getElem_strike {l:List (Option Th)}{t:Th}{i j:Nat}(h:j<l.length):((strike l t i j).map (elD nl))[j]? = some (elD nl l[j]):=by
 rw[zqS,zag h,if_neg (by lia)];rfl
theorem zfJ {l:List (Option Th)}{j:Nat}:(l.map (elD nl)).set j (ptr nl)=(l.set j none).map (elD nl):=by
 rw[List.map_set];rfl
theorem zmW (R:Rm n A) (l:Loc X A env mu c s) (d:(nl,Own.raw bare)∈c.own){o:Option Th}{t:Th}(e:good (thD t)=true) (b:∀w,o=some w->good (thD w)=true) (O:X.Ok):∀u v s',Aft X A s s'->Rd s'.heap mu u (elD nl o)->Rd s'.heap mu v (thD t)->Cm X A .Eq u v (decide (o=some t)) s':=λ_ _ _ a f g=>zpt R (l.aft O a) d f g e b
theorem zlm (F:Frm X A env sc mu fr) (O:X.Ok){x cv:Str}{p1 p2 p3 p4 p5 p6 p7 p8:Pos}{k1:Nat}{ys:List PyData}{j:Nat}{m:Int}(d:sc.names.lookup cv=some .local) (e:sc.names.lookup x=some .local) (f:(x==("__debug__":Str))=false) (g:sc.names.lookup ("j":Str)=some .local) (h:sc.names.lookup ("NULL":Str)=some .local) (i:(x==cv)=false) (k:(("j":Str)==cv)=false) (n:(("NULL":Str)==cv)=false)
  (o:c.loc.lookup cv=some (.int m)) (r:c.loc.lookup x=some (ptr a)) (t:c.loc.lookup ("j":Str)=some (.int (j:Nat))) (u:c.loc.lookup ("NULL":Str)=some (ptr nl)) (v:c.own=pre++(a,.lst ys)::post) (p:a∈fr) (q:j<ys.length) (w:j<1000) :
  St X A env mu fr c [.AugAssign (.Name cv p1) .Add (.Constant (.int 1) k1 p2) p3,.Assign [.Subscript (.Name x p4) (.Name "j" p5) p6] (.Name "NULL" p7) p8] .next {c.set cv (.int (m+1)) with own:=pre++(a,.lst (ys.set j (ptr nl)))::post}:=
 ze F (zdh F O (b:=1) d o λs l=>ev_int) (ze F (zgQ F O (c:=c.set cv (.int (m+1))) e f (zn i r) v p q (by sleep 123) ⋯ (λs l=>zf F.toStat l h (by ext) (zn n u)) λs l=>zf F.toStat l g (by ext) (zn k t)) st_nil)
theorem zhN (F:Frm X A env sc mu fr) (O:X.Ok){x cv:Str}{C:Expr}{p1 p2 p3 p4 p5 p6 p7 p8 j:Pos}{k1:Nat}{l:List (Option Th)}{i k:Nat}{t:Th}(m:sc.names.lookup cv=some .local) (n:sc.names.lookup x=some .local) (o:(x==("__debug__":Str))=false) (p:sc.names.lookup ("j":Str)=some .local) (r:sc.names.lookup ("NULL":Str)=some .local) (u:(x==cv)=false) (v:(("j":Str)==cv)=false) (w:(("NULL":Str)==cv)=false)
  (f:i<=k) (z:k<l.length) (K:l.length<100) (D:∀s,Loc X A env mu c s->Ts X A env C (decide (l[k]=some t)) s) (g:c.loc.lookup cv=some (.int (cnt l t i k:Nat))) (H:c.loc.lookup x=some (ptr a)) (I:c.loc.lookup ("j":Str)=some (.int (k:Nat))) (J:c.loc.lookup ("NULL":Str)=some (ptr nl))
  (E:c.own=pre++(a,.lst ((strike l t i k).map (elD nl)))::post) (B:a∈fr) (G:∀{y d},y≠cv->c'.loc.lookup y=some d->c.loc.lookup y=some d) (h:c'.cel=c.cel) :
  St X A env mu fr c [.If C [.AugAssign (.Name cv p1) .Add (.Constant (.int 1) k1 p2) p3,.Assign [.Subscript (.Name x p4) (.Name "j" p5) p6] (.Name "NULL" p7) p8] [] j] .next {c'.set cv (.int (cnt l t i (k+1):Nat)) with own:=pre++(a,.lst ((strike l t i (k+1)).map (elD nl)))::post}:=by
 rw[zgK f z,zme f z]
 by_cases b:l[k]=some t
 .rw [if_pos b,if_pos b];refine zaE (ze F (zB F O (q:=true) (λs l'=>zqk b▸D s l') (zlm F O m n o p r u v w g H I J E B (by rw[zqn,strike_length];exact z) (by lia))) st_nil) (λy d e=>?_) (λ_ _ e=>by rw[<-h];exact e) (by rw[zfJ]);have e:(setL c'.loc cv (.int ((cnt l t i k+1:Nat):Int))).lookup y=some d:=e;show (setL c.loc cv _).lookup y=some d;rw[zk] at e ⊢
  by_cases q:y=cv
  .rw [if_pos q] at e ⊢;exact e
  .rw [if_neg q] at e ⊢;exact G q e
 .rw [if_neg b,if_neg b];refine zaE (ze F (zB F O (q:=false) (λs l'=>zql b▸D s l') st_nil) st_nil) (λy d e=>?_) (λ_ _ e=>by rw[<-h];exact e) E.symm;have e:(setL c'.loc cv (.int (cnt l t i k:Nat))).lookup y=some d:=e;rw[zk] at e
  by_cases q:y=cv
  .rw [if_pos q] at e;rw[q,g];exact e
  .rw [if_neg q] at e;exact G q e
noncomputable def csC (c:Ctx) (pre:List (Addr×Own)) (a nl:Addr) (post:List (Addr×Own)) (cv:Str) (l:List (Option Th)) (t:Th) (i j:Nat):Ctx:={c.set cv (.int (cnt l t i j:Nat)) with own:=pre++(a,.lst ((strike l t i j).map (elD nl)))::post}
theorem zh9 {cv:Str}{l:List (Option Th)}{t:Th}{i:Nat}(b:c.loc.lookup cv=some (.int 0)) (f:c.own=pre++(a,.lst (l.map (elD nl)))::post) (l':Loc X A env mu c s):Loc X A env mu (csC c pre a nl post cv l t i i) s:=by
 have e:c.own=(csC c pre a nl post cv l t i i).own:=by
  show c.own=pre++(a,.lst ((strike l t i i).map (elD nl)))::post;rw[zgJ];exact f
 refine(l'.own_eq e).less (λy d q=>?_) (λ_ _ q=>q) rfl;have q:(c.set cv (.int (cnt l t i i:Nat))).loc.lookup y=some d:=q;rw[zmd] at q;exact zdx b q
theorem zia {cv:Str}{l:List (Option Th)}{t:Th}{i j k:Nat}:owns (csC c pre a nl post cv l t i j).own=owns (csC c pre a nl post cv l t i k).own:=by
 show owns (pre++(a,Own.lst _)::post)=owns (pre++(a,Own.lst _)::post);simp[owns,Own.ads]
theorem zkC {b:Addr}{o:Own}{cv:Str}{l:List (Option Th)}{t:Th}{i j:Nat}(h:(b,o)∈pre++post):(b,o)∈(csC c pre a nl post cv l t i j).own:=by
 show _∈pre++(a,Own.lst _)::post;rcases zpE.mp h with m|m
 .exact zpC _ m
 .exact zpw _ (zpx _ m)
theorem zbN (F:Frm X A env sc mu fr) (O:X.Ok) (B:Blt X) (R:Rm n A) (hh:A.handled=none){x cv bn:Str}{pj pr pi pb pc ps pt I pe J p1 p2 p3 p4 p5 p6 p7 p8 K p:Pos}{k1:Nat}{l:List (Option Th)}{i:Nat}{t:Th}
  (L:sc.names.lookup cv=some .local) (m:sc.names.lookup x=some .local) (o:(x==("__debug__":Str))=false) (g:sc.names.lookup ("j":Str)=some .local) (M:sc.names.lookup ("NULL":Str)=some .local) (N:sc.names.lookup ("i":Str)=some .local) (P:sc.names.lookup bn=some .local) (Q:(bn==("__debug__":Str))=false) (S:sc.names.lookup ("elem":Str)=some .local) (T:sc.names.lookup ("range":Str)=some .globalImplicit)
  (h:(x==cv)=false) (r:(("j":Str)==cv)=false) (u:(("NULL":Str)==cv)=false) (v:(x==("j":Str))=false) (U:(cv==("j":Str))=false) (V:(bn==cv)=false) (W:(("i":Str)==cv)=false) (Y:(("elem":Str)==cv)=false)
  (Z:c.loc.lookup cv=some (.int 0)) (hx:c.loc.lookup x=some (ptr a)) (a0:c.loc.lookup ("j":Str)=none) (hn:c.loc.lookup ("NULL":Str)=some (ptr nl)) (hi:c.loc.lookup ("i":Str)=some (.int (i:Nat))) (a1:c.loc.lookup bn=some (.int (l.length:Nat))) (he:c.loc.lookup ("elem":Str)=some (thD t))
  (ho:c.own=pre++(a,.lst (l.map (elD nl)))::post) (z:(nl,Own.raw bare)∈pre++post) (a2:a∈fr) (hl:l.length<100) (a3:i<=l.length) (hg:good (thD t)=true) (a4:zb5 l) :
  St1 X A env mu fr c (.For (.Name "j" pj) (.Call (.Name "range" pr) [.Name "i" pi,.Name bn pb] [] pc) [.If (.Compare (.Subscript (.Name x ps) (.Name "j" pt) I) [.Eq] [.Name "elem" pe] J) [.AugAssign (.Name cv p1) .Add (.Constant (.int 1) k1 p2) p3,.Assign [.Subscript (.Name x p4) (.Name "j" p5) p6] (.Name "NULL" p7) p8] [] K] [] p) .next
   {c.set cv (.int (cnt l t i l.length:Nat)) with own:=pre++(a,.lst ((strike l t i l.length).map (elD nl)))::post}:=by
 have C:(((l.length:Nat):Int) - ((i:Nat):Int)).toNat=l.length - i:=by sleep 59
 have D:(zac (i:Nat) 1 (((l.length:Nat):Int) - ((i:Nat):Int)).toNat).length=l.length - i:=by rw[zx,C]
 have E:i+(zac (i:Nat) 1 (((l.length:Nat):Int) - ((i:Nat):Int)).toNat).length=l.length:=by rw[D];exact zqW a3
 refine zeM (c1:=csC c pre a nl post cv l t i (i+(zac (i:Nat) 1 (((l.length:Nat):Int) - ((i:Nat):Int)).toNat).length)) (zhO (λs l'=>zh9 Z ho l') (zdg F O (λk=>csC c pre a nl post cv l t i (i+k)) (λk=>(csC c pre a nl post cv l t i (i+k)).set "j" (.int ((i+k:Nat):Int))) rfl (λ_=>zia) (λ_=>rfl) (λs l'=>ziK F.toStat O hh l' T B.range ⋯ ⋯ (zf F.toStat l' N (by ext) (zn W hi)) (λs' G=>zf F.toStat (l'.aft O G) P Q (zn V a1)) (by lia) (by sleep 131) (by lia) (by sleep 130)) ?_)) λs l'=>E▸l';intro k d hd a6 a7 H;have hk:k<l.length - i:=by
  have:=(zpJ.mp hd).1;rwa[D] at this
 have a5:d=.int ((i+k:Nat):Int):=by
  rw[zX (by rw[C];exact hk)] at hd;cases hd
  congr 1
  lia
 subst a5;have j:i+k<l.length:=by sleep 72
 have f:∀{y:Str}{d:PyData},(y==("j":Str))=false->(y==cv)=false->c.loc.lookup y=some d->((csC c pre a nl post cv l t i (i+k)).set "j" (.int ((i+k:Nat):Int))).loc.lookup y=some d:=λh1 h2 h3=>zn (c:=csC c pre a nl post cv l t i (i+k)) h1 (zn (c:=c) h2 h3);exact⟨zbK H g,.next,.inl rfl,zhN H O L m o g M h r u (zqu _ _) j hl (λs l'=>zQ O l'.tbm (a:=elD nl l[i+k]) (b:=thD t) (ziX H.toStat O l' (ys:=(strike l t i (i+k)).map (elD nl)) (i:=((i+k:Nat):Int)) m o (f v h hx) (zpw _ zpP) (λs' G=>zf H.toStat (l'.aft O G) g (by ext) lookup_set_self) ⋯ (by lia) (by sleep 41) (by rw[Int.toNat_natCast];exact getElem_strike j)) (λs' G=>zf H.toStat (l'.aft O G) S (by ext) (f (by ext) Y he)) ⋯ (zmW R l' (zkC (c:=c) (cv:=cv) z) hg (λw q=>a4 w (q▸List.getElem_mem j)) O)) (zn (c:=csC c pre a nl post cv l t i (i+k)) U (lookup_set_self (c:=c))) (f v h hx) lookup_set_self (f (by ext) u hn) rfl a2 (λq e=>zbd (c:=csC c pre a nl post cv l t i (i+k)) (by
  show (setL c.loc cv _).lookup ("j":Str)=none;rw[zk,if_neg (zpH.mp r)];exact a0) (zn (c:=c) (zpH.mpr q) e)) rfl⟩
end
section
variable {c c' c1:Ctx}{n:Nat}{a nl:Addr}{pre post:List (Addr×Own)}{f:Fl}{st:Stmt}
theorem zeN (F:Frm X A env sc mu fr) (O:X.Ok) (B:Blt2 X) (R:Rm n A) (hh:A.handled=none){x cv:Str}{pj po v px z C ps pe D p1 p2 p3 p4 p5 p6 p7 p8 E p:Pos}{k1 kt:Nat}{l:List (Option Th)}{t:Th}
  (G:sc.names.lookup cv=some .local) (i:sc.names.lookup x=some .local) (j:(x==("__debug__":Str))=false) (m:sc.names.lookup ("j":Str)=some .local) (H:sc.names.lookup ("NULL":Str)=some .local) (o:sc.names.lookup ("other_elem":Str)=some .local) (I:sc.names.lookup ("elem":Str)=some .local) (J:sc.names.lookup ("enumerate":Str)=some .globalImplicit)
  (g:(x==cv)=false) (K:(("j":Str)==cv)=false) (r:(("NULL":Str)==cv)=false) (L:(x==("j":Str))=false) (M:(cv==("j":Str))=false) (N:(("elem":Str)==cv)=false) (P:(x==("other_elem":Str))=false) (Q:(cv==("other_elem":Str))=false)
  (S:c.loc.lookup cv=some (.int 0)) (hx:c.loc.lookup x=some (ptr a)) (T:c.loc.lookup ("j":Str)=none) (U:c.loc.lookup ("other_elem":Str)=none) (hn:c.loc.lookup ("NULL":Str)=some (ptr nl)) (he:c.loc.lookup ("elem":Str)=some (thD t))
  (ho:c.own=pre++(a,.lst (l.map (elD nl)))::post) (u:(nl,Own.raw bare)∈pre++post) (V:a∈fr) (hl:l.length<100) (hg:good (thD t)=true) (W:zb5 l) :
  St1 X A env mu fr c (.For (.Tuple [.Name "j" pj,.Name "other_elem" po] kt v) (.Call (.Name "enumerate" z) [.Name x px] [] C) [.If (.Compare (.Name "other_elem" ps) [.Eq] [.Name "elem" pe] D) [.AugAssign (.Name cv p1) .Add (.Constant (.int 1) k1 p2) p3,.Assign [.Subscript (.Name x p4) (.Name "j" p5) p6] (.Name "NULL" p7) p8] [] E] [] p) .next
   {c.set cv (.int (cnt l t 0 l.length:Nat)) with own:=pre++(a,.lst ((strike l t 0 l.length).map (elD nl)))::post}:=by
 refine zhO (λs l'=>zh9 S ho l') (zbS F O hh B (csC c pre a nl post cv l t 0) l.length (λk=>(strike l t 0 k).map (elD nl)) rfl (λ_=>zia) i j (zn (c:=c) g hx) m o J (λk _=>⟨zpw _ zpP,by rw[zqn,strike_length]⟩) (λ_=>rfl) ?_);intro k d h hd a0 a1 Y;have Z:d=elD nl l[k]:=by
  rw[getElem_strike h] at hd;exact(zqr hd).symm
 subst Z;have f:∀{y:Str}{d:PyData},(y==("other_elem":Str))=false->(y==("j":Str))=false->(y==cv)=false->c.loc.lookup y=some d->(((csC c pre a nl post cv l t 0 k).set "j" (.int ((k:Nat):Int))).set "other_elem" (elD nl l[k])).loc.lookup y=some d:=λh0 h1 h2 h3=>zn (c:=(csC c pre a nl post cv l t 0 k).set "j" (.int ((k:Nat):Int))) h0 (zn (c:=csC c pre a nl post cv l t 0 k) h1 (zn (c:=c) h2 h3));exact⟨.next,.inl rfl,zhN Y O G i j m H g K r (zqy _) h hl (λs l'=>zQ O l'.tbm (a:=elD nl l[k]) (b:=thD t) (zf Y.toStat l' o (by ext) lookup_set_self) (λs' a'=>zf Y.toStat (l'.aft O a') I (by ext) (f (by ext) (by ext) N he)) ⋯ (zmW R l' (zkC (c:=c) (cv:=cv) u) hg (λw q=>W w (q▸List.getElem_mem h)) O)) (zn (c:=(csC c pre a nl post cv l t 0 k).set "j" (.int ((k:Nat):Int))) Q (zn (c:=csC c pre a nl post cv l t 0 k) M (lookup_set_self (c:=c)))) (f P L g hx) (zn (c:=(csC c pre a nl post cv l t 0 k).set "j" (.int ((k:Nat):Int))) (by ext) lookup_set_self) (f (by ext) (by ext) r hn) rfl V (fun {y d} q e=>f (zpH.mpr λw=>by rw[w,U] at e;cases e) (zpH.mpr λw=>by rw[w,T] at e;cases e) (zpH.mpr q) e) rfl⟩
end
section
variable {n:Nat}{C:Addr}{K:Frag}
noncomputable abbrev sc40:Scope:=zd (stm 40)
noncomputable abbrev cn40 (f g:List Th):Ctx:=startC sc40 (zA (stm 40)) [.list (f.map thD),.list (g.map thD)]
noncomputable def bl40 (f g:List Th) (b b2 nl rr:Addr):List (Str×PyData):=((((((cn40 f g).set "t" (ptr b2)).set "s" (ptr b)).set "n" (.int (g.length:Nat))).set "m" (.int (f.length:Nat))).set "NULL" (ptr nl)).set "result" (ptr rr) |>.loc
noncomputable def ow40 (C:Addr) (b b2 nl rr:Addr) (q:CdS):List (Addr×Own):=[(rr,.lst (q.res.map (difD C))),(nl,.raw bare),(b2,.lst (q.ts.map (elD nl))),(b,.lst (q.ss.map (elD nl)))]
noncomputable def cx40 (C:Addr) (f g:List Th) (b b2 nl rr:Addr) (q:CdS):Ctx:=⟨bl40 f g b b2 nl rr,[],ow40 C b b2 nl rr q⟩
theorem zd5 (O:X.Ok) (B:Blt2 X) (Bo:Top1 X "object" (.type "object")) (TM:Top1 X "_Mismatch" (.ref C)) (Y:zeE K C){fN sm:Addr}(NI:zgx K C fN sm) (KX:K.In X.kk) (FN:FnIn X fN 38 "__new__") (hA:A.handled=none){f g:List Th}(h1:∀t∈f,good (thD t)=true) (h2:∀t∈g,good (thD t)=true) (a0:f.length<60) (a3:g.length<60) :
  zba X A (n+3) 40 [.list (f.map thD),.list (g.map thD)] (.ret (.list ((cdT f g).map (difD C)))):=zP.ofF λA' env mu' fr' R G IF F Cc=>by
 rw[hA] at G;have hs:sizeLine=2 ^ 24:=rfl;have M:=B.toBlt;have a4:(f.map thD).length=f.length:=zqn ..;have a5:(g.map thD).length=g.length:=zqn ..;show (_:List Stmt->_->Prop) (_::_) _;refine zc3 λs0 l0=>?_;refine zL (zaq F.toStat O (d:=.str _) ⋯ ⋯ λs l=>ev_str) ?_;have SE:=λmu m=>sound (mu:=mu) O M (zai (k:=n+3)) R G F.toStat m;refine zlk F O G (o1:=.lst (f.map thD)) (o2:=.lst (g.map thD)) (λb=>rfl) (λb=>rfl) ⋯ ⋯ ⋯ ⋯ ⋯ (zcq F.toStat ⋯) (λs l=>(zaA F.toStat O M l ⋯ ⋯ ((SE _ 3).e ⋯ s l) (by sleep 128)).evo) (λb m s l=>(zaA F.toStat O M l ⋯ ⋯ ((SE _ 3).e ⋯ s l) (by sleep 128)).evo) λb p hb a7 Z=>?_;refine zL (zgU Z O G (d1:=.int (f.length:Nat)) (d2:=.int (g.length:Nat)) ⋯ ⋯ ⋯ (zcq Z.toStat ⋯) λs l=>zar l.tbm l.low (zc l.tbm ⋯ ?_ λs' a=>zc l.tbm ⋯ ?_ λ_ _=>evs_nil) (by rw[hs];show 2<=_;decide)) ?_
 .have e:PyData.int (f.length:Nat)=.int ((f.map thD).length:Nat):=by rw[a4]
  rw[e];exact zf1 Z.toStat O M l (a:=b) (ys:=f.map thD) (x:="s") ⋯ ⋯ ⋯ (by simp) ⋯ (by sleep 128)
 .have e:PyData.int (g.length:Nat)=.int ((g.map thD).length:Nat):=by rw[a5]
  rw[e];exact zf1 Z.toStat O M (l.aft O a) (a:=p) (ys:=g.map thD) (x:="t") ⋯ ⋯ ⋯ (by simp) ⋯ (by sleep 128)
 refine zhK Z O (o:=.raw bare) (λb=>rfl) ⋯ ⋯ (λs l=>ziT Z.toStat O Bo l ⋯) λnl a8 F3=>?_;refine zhK F3 O (o:=.lst []) (λb=>rfl) ⋯ ⋯ (λs l=>(zbG evs_nil (by ext)).evo) λz a6 F4=>?_;have e1:f.map thD=(f.map some).map (elD nl):=by rw[List.map_map];rfl
 have e2:g.map thD=(g.map some).map (elD nl):=by rw[List.map_map];rfl
 refine zhL (c':=cx40 C f g b p nl z (cdAt1 f g 0)) (λs l=>l.own_eq (ow:=ow40 C b p nl z (cdAt1 f g 0)) (by
  show [(z,Own.lst []),(nl,.raw bare),(p,.lst (g.map thD)),(b,.lst (f.map thD))]=_;rw[e1,e2];rfl)) ?_
 refine zL (c1:=cx40 C f g b p nl z (cdAt1 f g f.length)) (zbS F4 O G B (λi=>cx40 C f g b p nl z (cdAt1 f g i)) f.length (λi=>(cdAt1 f g i).ss.map (elD nl)) (a:=b) rfl (λ_=>rfl) ⋯ ⋯ ⋯ ⋯ ⋯ ⋯ (λi _=>⟨by simp[cx40,ow40],by rw[List.length_map,(zdV f g i).1]⟩) (λ_=>rfl) ?_) ?_
 .intro i d hi hd mu2 hm2 F5;obtain⟨q,Q⟩:∃q,q=cdAt1 f g i:=⟨_,rfl⟩;have I:cdAt1 f g (i+1)=cdStep1 i q:=by rw[Q];rfl
  obtain⟨N,P,J⟩:=zdV f g i;obtain⟨L,H⟩:=zey h1 h2 i;rw[I];rw[<-Q] at N P J L H hd ⊢;clear Q I;have D:i<q.ss.length:=by sleep 31
  have S:d=elD nl q.ss[i]:=by
   rw[zmT D] at hd;exact(zqr hd).symm
  subst S;have j:=λm=>sound (mu:=mu2) O M (zai (k:=n+3)) R G F5.toStat m;have r:∀{cz:Ctx},SubL (bl40 f g b p nl z) cz.loc->∀y d,(cx40 C f g b p nl z (cdStep1 i q)).loc.lookup y=some d->cz.loc.lookup y=some d:=λh=>SubL.of h;cases T:q.ss[i] with
  | none=>
   have e:cdStep1 i q=q:=by unfold cdStep1;rw[List.getElem?_eq_getElem D,T];rfl
   rw[e] at r ⊢;refine⟨.cont,.inr rfl,?_⟩;refine zaE (c1:=((cx40 C f g b p nl z q).set "i" (.int (i:Nat))).set "elem" (elD nl none)) (zI (by intro q;cases q) (zB F5 O (q:=true) (λs l=>?_) (zI (by intro q;cases q) st1_continue))) (r (by repeat' (first|refine⟨∅,?_⟩|exact trivial))) (λ_ _ e=>e) rfl;exact zQ O l.tbm (a:=elD nl none) (b:=ptr nl) ((j 3).e ∅ s l) (λs' a=>(j 3).e ∅ s' (l.aft O a)) ∅ λu v s' a U V=>zfj (l.aft O a) (by simp[cx40,ow40,Ctx.set]) U V
  | some t=>
   have E:good (thD t)=true:=L t (T▸List.getElem_mem D);have e:cdStep1 i q=⟨strike q.ss t i q.ss.length,strike q.ts t 0 q.ts.length,if cnt q.ss t i q.ss.length=cnt q.ts t 0 q.ts.length then q.res else q.res++[(cnt q.ss t i q.ss.length,cnt q.ts t 0 q.ts.length,t)]⟩:=by unfold cdStep1;rw[List.getElem?_eq_getElem D,T];rfl
   rw[e] at r ⊢;refine⟨.next,.inl rfl,?_⟩;let cm:Ctx:=((cx40 C f g b p nl z q).set "i" (.int (i:Nat))).set "elem" (thD t);let W:Ctx:=(cm.set "cnt_s" (.int 0)).set "cnt_t" (.int 0);let c1:Ctx:={W.set "cnt_s" (.int (cnt q.ss t i q.ss.length:Nat)) with own:=[(z,.lst (q.res.map (difD C))),(nl,.raw bare),(p,.lst (q.ts.map (elD nl)))]++(b,.lst ((strike q.ss t i q.ss.length).map (elD nl)))::[]};let c2:Ctx:={c1.set "cnt_t" (.int (cnt q.ts t 0 q.ts.length:Nat)) with own:=[(z,.lst (q.res.map (difD C))),(nl,.raw bare)]++(p,.lst ((strike q.ts t 0 q.ts.length).map (elD nl)))::[(b,.lst ((strike q.ss t i q.ss.length).map (elD nl)))]};let c3:Ctx:=if cnt q.ss t i q.ss.length=cnt q.ts t 0 q.ts.length then c2 else {c2.set "diff" (difD C (cnt q.ss t i q.ss.length,cnt q.ts t 0 q.ts.length,t)) with own:=[]++(z,.lst (q.res.map (difD C)++[difD C (cnt q.ss t i q.ss.length,cnt q.ts t 0 q.ts.length,t)]))::[(nl,.raw bare),(p,.lst ((strike q.ts t 0 q.ts.length).map (elD nl))),(b,.lst ((strike q.ss t i q.ss.length).map (elD nl)))]}
   have w:∀y:Str,y∈(["i","elem","cnt_s","cnt_t","j","other_elem","s","t","m","n","NULL","result","diff"]:List Str)->sc40.names.lookup y=some .local:=by decide +kernel
   refine zaE (c1:=c3) (ze F5 (c':=cm) (zB F5 O (q:=false) (λs l=>?_) st_nil) (ze F5 (c':=W) (zdk F5 O (w _ (by ext)) (w _ (by ext)) ∅ λs l=>ev_int)
    (ze F5 (c':=c1) (zbN F5 O M R G (x:="s") (cv:="cnt_s") (bn:="m") (l:=q.ss) (i:=i) (t:=t) (a:=b) (nl:=nl) (c:=W) (pre:=[(z,.lst (q.res.map (difD C))),(nl,.raw bare),(p,.lst (q.ts.map (elD nl)))]) (post:=[]) (w _ (by ext)) (w _ (by ext)) ∅ (w _ (by ext)) (w _ (by ext)) (w _ (by ext)) (w _ (by ext)) ∅ (w _ (by ext)) ∅ ∅ ∅ ∅ ∅ ∅ ∅ ∅ ∅ ∅ ∅ ∅ ∅ ∅ (by rw[N];kernel_rfl) ∅ rfl (by simp) (by simp) (by sleep 127) (by sleep 5) E L)
    (ze F5 (c':=c2) (zeN F5 O B R G (x:="t") (cv:="cnt_t") (l:=q.ts) (t:=t) (a:=p) (nl:=nl) (c:=c1) (pre:=[(z,.lst (q.res.map (difD C))),(nl,.raw bare)]) (post:=[(b,.lst ((strike q.ss t i q.ss.length).map (elD nl)))]) (w _ (by ext)) (w _ (by ext)) ∅ (w _ (by ext)) (w _ (by ext)) (w _ (by ext)) (w _ (by ext)) ∅ ∅ ∅ ∅ ∅ ∅ ∅ ∅ ∅ ∅ ∅ ∅ ∅ ∅ ∅ rfl (by simp) (by simp) (by sleep 127) E H)
    (ze F5 (c':=c3) (zB F5 O (q:=!decide (cnt q.ss t i q.ss.length=cnt q.ts t 0 q.ts.length)) (λs l=>?_) ?_) st_nil))))) (r ?_) (λ_ _ e=>by cases e) ?_
   .exact zQ O l.tbm (a:=elD nl (some t)) (b:=ptr nl) ((j 3).e ∅ s l) (λs' a=>(j 3).e ∅ s' (l.aft O a)) ∅ λu v s' a U V=>zfj (l.aft O a) (zpx _ zpP) U V
   .have e3:(!PyData.eqv (.int (cnt q.ss t i q.ss.length:Nat)) (.int (cnt q.ts t 0 q.ts.length:Nat))) = !decide (cnt q.ss t i q.ss.length=cnt q.ts t 0 q.ts.length):=by
     rw[zkt]
     congr 1
     rw[Bool.eq_iff_iff,beq_iff_eq,decide_eq_true_iff];sleep 121
    rw[<-e3];exact(j 5).t ∅ s l
   .rcases Decidable.em (cnt q.ss t i q.ss.length=cnt q.ts t 0 q.ts.length) with hc|hc
    .rw [if_neg (by rw[zqk hc];decide)];show St _ _ _ _ _ c2 _ _ (if _ then _ else _);rw[if_pos hc];exact st_nil
    .rw [if_pos (by rw[zql hc];decide)];show St _ _ _ _ _ c2 _ _ (if _ then _ else _);rw[if_neg hc];refine ze F5 (c':=c2.set "diff" (difD C (cnt q.ss t i q.ss.length,cnt q.ts t 0 q.ts.length,t))) (zj F5 O (w _ (by ext)) ⋯ λs l=>?_) (ze F5 (zan F5 O (pre:=[]) (post:=[(nl,.raw bare),(p,.lst ((strike q.ts t 0 q.ts.length).map (elD nl))),(b,.lst ((strike q.ss t i q.ss.length).map (elD nl)))]) (w _ (by ext)) ⋯ ∅ rfl (by simp) ⋯ ⋯ (by rw[List.length_map];exact Nat.le_trans J (Nat.le_trans (Nat.le_of_lt (Nat.lt_trans hi a0)) (by ext))) λs l=>(j 3).e ∅ s l) st_nil);exact zeu F5.toStat O l NI KX ⋯ ⋯ TM ⋯ (ds:=[.int (cnt q.ss t i q.ss.length:Nat),.int (cnt q.ts t 0 q.ts.length:Nat),thD t]) rfl (zc l.tbm ⋯ ((j 3).e ∅ s l) λs1 a1=>zc l.tbm ⋯ ((j 3).e ∅ s1 (l.aft O a1)) λs2 a2=>zc l.tbm ⋯ ((j 3).e ∅ s2 ((l.aft O a1).aft O a2)) λ_ _=>evs_nil) (zmY O B Y NI KX (n:=n+1) R G FN)
   .show SubL _ (if _ then c2 else _).loc
    split
    .repeat' (first|exact trivial|refine⟨∅,?_⟩)
    .repeat' (first|exact trivial|refine⟨∅,?_⟩)
   .show [(z,Own.lst (List.map (difD C) (if _ then _ else _))),(nl,.raw bare),(p,.lst ((strike q.ts t 0 q.ts.length).map (elD nl))),(b,.lst ((strike q.ss t i q.ss.length).map (elD nl)))]=(if _ then c2 else _).own;rcases Decidable.em (cnt q.ss t i q.ss.length=cnt q.ts t 0 q.ts.length) with hc|hc
    .rw [if_pos hc,if_pos hc];rfl
    .rw [if_neg hc,if_neg hc,zqC];rfl
 refine zL (c1:=cx40 C f g b p nl z (cdAt2 f g g.length)) (zbS F4 O G B (λi=>cx40 C f g b p nl z (cdAt2 f g i)) g.length (λi=>(cdAt2 f g i).ts.map (elD nl)) (a:=p) rfl (λ_=>rfl) ⋯ ⋯ ∅ ⋯ ⋯ ⋯ (λi _=>⟨zpx _ (zpx _ zpP),by rw[zqn,(zgl f g i).2.1]⟩) (λ_=>rfl) ?_) ?_
 .intro i d hi hd mu2 hm2 F5;obtain⟨q,Q⟩:∃q,q=cdAt2 f g i:=⟨_,rfl⟩;have I:cdAt2 f g (i+1)=cdStep2 i q:=by rw[Q];rfl
  obtain⟨N,P,J⟩:=zgl f g i;obtain⟨L,H⟩:=zja h1 h2 i;rw[I];rw[<-Q] at N P J L H hd ⊢;clear Q I;have D:i<q.ts.length:=by sleep 31
  have S:d=elD nl q.ts[i]:=by
   rw[zmT D] at hd;exact(zqr hd).symm
  subst S;have j:=λm=>sound (mu:=mu2) O M (zai (k:=n+3)) R G F5.toStat m;have r:∀{cz:Ctx},SubL (bl40 f g b p nl z) cz.loc->∀y d,(cx40 C f g b p nl z (cdStep2 i q)).loc.lookup y=some d->cz.loc.lookup y=some d:=λh=>SubL.of h;cases T:q.ts[i] with
  | none=>
   have e:cdStep2 i q=q:=by unfold cdStep2;rw[List.getElem?_eq_getElem D,T];rfl
   rw[e] at r ⊢;refine⟨.cont,.inr rfl,?_⟩;refine zaE (c1:=((cx40 C f g b p nl z q).set "i" (.int (i:Nat))).set "elem" (elD nl none)) (zI (by intro q;cases q) (zB F5 O (q:=true) (λs l=>?_) (zI (by intro q;cases q) st1_continue))) (r (by repeat' (first|exact trivial|refine⟨∅,?_⟩))) (λ_ _ e=>e) rfl;exact zQ O l.tbm (a:=elD nl none) (b:=ptr nl) ((j 3).e ∅ s l) (λs' a=>(j 3).e ∅ s' (l.aft O a)) ∅ λu v s' a U V=>zfj (l.aft O a) (zpx _ zpP) U V
  | some t=>
   have E:good (thD t)=true:=H t (T▸List.getElem_mem D);have e:cdStep2 i q=⟨q.ss,strike q.ts t i q.ts.length,q.res++[(0,cnt q.ts t i q.ts.length,t)]⟩:=by unfold cdStep2;rw[List.getElem?_eq_getElem D,T];rfl
   rw[e] at r ⊢;refine⟨.next,.inl rfl,?_⟩;let cm:Ctx:=((cx40 C f g b p nl z q).set "i" (.int (i:Nat))).set "elem" (thD t);let W:Ctx:=cm.set "cnt_t" (.int 0);let c2:Ctx:={W.set "cnt_t" (.int (cnt q.ts t i q.ts.length:Nat)) with own:=[(z,.lst (q.res.map (difD C))),(nl,.raw bare)]++(p,.lst ((strike q.ts t i q.ts.length).map (elD nl)))::[(b,.lst (q.ss.map (elD nl)))]};let c3:Ctx:={c2.set "diff" (difD C (0,cnt q.ts t i q.ts.length,t)) with own:=[]++(z,.lst (q.res.map (difD C)++[difD C (0,cnt q.ts t i q.ts.length,t)]))::[(nl,.raw bare),(p,.lst ((strike q.ts t i q.ts.length).map (elD nl))),(b,.lst (q.ss.map (elD nl)))]};have w:∀y:Str,y∈(["i","elem","cnt_s","cnt_t","j","other_elem","s","t","m","n","NULL","result","diff"]:List Str)->sc40.names.lookup y=some .local:=by decide +kernel
   refine zaE (c1:=c3) (ze F5 (c':=cm) (zB F5 O (q:=false) (λs l=>?_) st_nil) (ze F5 (c':=W) (zj F5 O (w _ (by ext)) ∅ λs l=>ev_int)
    (ze F5 (c':=c2) (zbN F5 O M R G (x:="t") (cv:="cnt_t") (bn:="n") (l:=q.ts) (i:=i) (t:=t) (a:=p) (nl:=nl) (c:=W) (pre:=[(z,.lst (q.res.map (difD C))),(nl,.raw bare)]) (post:=[(b,.lst (q.ss.map (elD nl)))]) (w _ (by ext)) (w _ (by ext)) ∅ (w _ (by ext)) (w _ (by ext)) (w _ (by ext)) (w _ (by ext)) ∅ (w _ (by ext)) ∅ ∅ ∅ ∅ ∅ ∅ ∅ ∅ ∅ ∅ ∅ ∅ ∅ ∅ (by rw[P];kernel_rfl) ∅ rfl (by simp) (by simp) (by sleep 127) (by sleep 5) E H)
    (ze F5 (c':=c2.set "diff" (difD C (0,cnt q.ts t i q.ts.length,t))) (zj F5 O (w _ (by ext)) ⋯ λs l=>?_) (ze F5 (c':=c3) (zan F5 O (pre:=[]) (post:=[(nl,.raw bare),(p,.lst ((strike q.ts t i q.ts.length).map (elD nl))),(b,.lst (q.ss.map (elD nl)))]) (w _ (by ext)) ⋯ ∅ rfl (by simp) ⋯ ⋯ (by rw[List.length_map];exact Nat.le_trans J (Nat.le_trans (Nat.add_le_add (Nat.le_of_lt a0) (Nat.le_of_lt (Nat.lt_trans hi a3))) (by ext))) λs l=>(j 3).e ∅ s l) st_nil))))) (r (by repeat' (first|exact trivial|refine⟨∅,?_⟩))) (λ_ _ e=>by cases e) ?_
   .exact zQ O l.tbm (a:=elD nl (some t)) (b:=ptr nl) ((j 3).e ∅ s l) (λs' a=>(j 3).e ∅ s' (l.aft O a)) ∅ λu v s' a U V=>zfj (l.aft O a) (zpx _ zpP) U V
   .exact zeu F5.toStat O l NI KX ⋯ ⋯ TM ⋯ (ds:=[.int 0,.int (cnt q.ts t i q.ts.length:Nat),thD t]) rfl (zc l.tbm ⋯ ev_int λs1 a1=>zc l.tbm ⋯ ((j 3).e ⋯ s1 (l.aft O a1)) λs2 a2=>zc l.tbm ⋯ ((j 3).e ⋯ s2 ((l.aft O a1).aft O a2)) λ_ _=>evs_nil) (zmY O B Y NI KX (n:=n+1) R G FN)
   .show [(z,Own.lst (List.map (difD C) (q.res++[_]))),(nl,Own.raw bare),(p,.lst ((strike q.ts t i q.ts.length).map (elD nl))),(b,.lst (q.ss.map (elD nl)))]=_;rw[zqC];rfl
 refine zam (mu':=nl::p::b::mu') (pre:=[]) (post:=[(nl,.raw bare),(p,.lst ((cdAt2 f g g.length).ts.map (elD nl))),(b,.lst ((cdAt2 f g g.length).ss.map (elD nl)))]) (x:="result") rfl ⋯ (λy m=>zpx _ m) a6 ⟨zpx _ (zpx _ (zpx _ l0.tbm.tb)),λy m=>zpx _ (zpx _ (zpx _ (l0.tbm.fs y m)))⟩ (λy m=>?_) ?_
 .have m:y∈[nl,p,b]:=m;refine memK m ?_ λm=>?_
  .simp
  .refine memK m ?_ λm=>?_
   .simp
   .rw [List.mem_singleton.mp m];simp
 .refine zeb (zaf O λs l=>?_) (λy m=>zpx _ (zpx _ (zpx _ m)));exact(SE _ 3).e ⋯ s l
end
structure zF (K:Frag) (C:Addr) (names:List Str):Prop where
 cd:∃cd,clsIn K C=some cd/\cd.hasDict=true
 hga:findIn K (.ref C) "__getattribute__"=some (some (.builtin "object.__getattribute__"))
 hgt:findIn K (.ref C) "__getattr__"=some none
 over:plainOver K C=true
 seta:findIn K (.ref C) "__setattr__"=some (some (.builtin "object.__setattr__"))
 free:∀f∈names,findIn K (.ref C) f=some none
theorem zlX {x f:Str}{t:Tok}{k:Int}{v:Value}{es:List DictEntry}(h:(x==f)=true):getL f (⟨k,.str x t,v⟩::es)=some (some v):=by
 unfold getL;rw[List.find?_cons_of_pos (p:=λ(e:DictEntry)=>e.key.isStr f) (a:=⟨k,.str x t,v⟩) (l:=es) h]
theorem zfZ {x f:Str}{t:Tok}{k:Int}{v:Value}{es:List DictEntry}(h:(x==f)=false):getL f (⟨k,.str x t,v⟩::es)=getL f es:=by
 unfold getL;rw[List.find?_cons_of_neg (p:=λ(e:DictEntry)=>e.key.isStr f) (a:=⟨k,.str x t,v⟩) (l:=es) (show ¬(x==f)=true from h▸Bool.false_ne_true)]
 rfl
theorem zl3 {h:Heap}{f:Str}{d:PyData}:∀{es:List DictEntry}{fs:List (Str×PyData)},Flds h mu es fs->fs.lookup f=some d->∃v,getL f es=some (some v)/\Rd h mu v d:=by
 intro es fs x
 induction x with
 | nil=>exact λe=>zg e
 | @cons y t k v d' es fs r q g=>
  intro e
  by_cases a:f=y
  .refine zb3 (b:=f==y) (x:=some d') (x':=fs.lookup f) e (λ_ e=>?_) (λc _=>?_)
   .rw [zlX (by rw[a];exact zqG y)];exact zr e ⟨v,rfl,r⟩
   .rw [a,zqG] at c;cases c
  .rw [zfZ (zpH.mpr (Ne.symm a))];refine zb3 (b:=f==y) (x:=some d') (x':=fs.lookup f) e (λc _=>absurd (eq_of_beq c) a) λ_ e=>g e
theorem ziR {h:Heap}{es:List DictEntry}{fs:List (Str×PyData)}(x:Flds h mu es fs):es.any (·.refKey)=false:=by
 induction x with
 | nil=>rfl
 | cons r q a=>rw[List.any_cons,a];rfl
theorem zl1 {h:Heap}{f:Str}{k:Int}{t:Tok}{v:Value}{d:PyData}(r:Rd h mu v d){es:List DictEntry}{fs:List (Str×PyData)}(x:Flds h mu es fs):Flds h mu (putL f k (.str f t) v es) (setL fs f d):=by
 induction x with
 | nil=>exact .cons r .nil
 | @cons x b g i d' es fs c q e=>
  show Flds h mu (if ((Value.str x b).isStr f)=true then _ else _) (if (x==f)=true then _ else _);rw[show (Value.str x b).isStr f=(x==f) from rfl]
  by_cases a:(x==f)=true
  .rw [if_pos a,if_pos a,eq_of_beq a];exact .cons r q
  .rw [if_neg a,if_neg a];exact .cons c e
theorem zhW {f:Str}{k:Int}{key v:Value}:∀{es:List DictEntry},(putL f k key v es).length<=es.length+1
 | []=>by simp[putL]
 | e::es=>by
  unfold putL
  split
  .simp
  .have:=zhW (f:=f) (k:=k) (key:=key) (v:=v) (es:=es);simp only [List.length_cons];sleep 13
theorem zl2 {h:Heap}{es:List DictEntry}{fs:List (Str×PyData)}(x:Flds h mu es fs):es.length=fs.length:=by
 induction x with
 | nil=>rfl
 | cons _ _ a=>exact congrArg Nat.succ a
theorem zfB {h:Heap}{v:Value}{d:PyData}(r:Rd h mu v d):handedIn v=true:=Rd.allK (G:=λv _=>handedIn v=true) r rfl (λ_=>rfl) (λ_ _=>rfl) (λ_ _=>rfl) (λ_ _=>rfl) (λ_ _=>rfl) (λ_ _=>rfl)
section
variable {n:Nat}{C x dx a:Addr}{K:Frag}{fs:List (Str×PyData)}{pre post:List (Addr×Own)}{names:List Str}{f:Str}{d:PyData}{o o':Own}
theorem Loc.own_setAt (l:Loc X A env mu c s) (h:c.own=pre++(x,o)::post) (g:Own.ads (x,o')=Own.ads (x,o)) (v:a∈Own.ads (x,o)) (w:a∈fr){h':Heap}{t:Nat}(i:Heap.SameBut a s.heap h') (G:s.toks<=t) (M:zR h' mu x o') :
  AftL X A fr s {s with heap:=h',toks:=t}/\Loc X A env mu {c with own:=pre++(x,o')::post} {s with heap:=h',toks:=t}:=by
 have j:(x,o)∈c.own:=by rw[h];simp
 have z:a∈owns c.own:=zu j v;obtain⟨N,O,H,P,Q,I⟩:=l.ownMu a z;have d:owns (pre++(x,o')::post)=owns c.own:=by rw[h];simp[owns,g]
 have f:∀b o,b≠a->s.heap.get? b=some o->h'.get? b=some o:=λb o q e=>(i.2 b q).trans e;have B:Keep (fsOf A) mu s.heap h':=.sameBut i N;refine⟨⟨.sameBut i (zpx _ w),rfl,id,by show _<=h'.objs.size;rw[i.1];exact zpB _,G,λo e=>⟨o,f _ _ (Ne.symm H) e⟩⟩,⟨λb o e=>f b o (λq=>by rw[q,Q] at e;cases e) (l.stay b o e),l.tbm,λb m=>by show b<h'.objs.size;rw[i.1];exact l.low b m,l.ltb,?_,λy d' e=>?_,λy b e=>⟨(l.cis y b e).1,let ⟨k,o,ho,rr⟩:=(l.cis y b e).2;⟨k,o,f b o (λq=>I y b e q.symm) ho,rr⟩⟩,⟨zpM l.tk.tk G,let ⟨o,e⟩:=l.tk.tb;⟨o,f _ _ (Ne.symm H) e⟩⟩,?_,λp C=>?_,?_,?_⟩⟩
 .obtain⟨m,⟨o,es,D,ho,hr⟩,hl⟩:=l.ns;refine⟨m,⟨o,es,D,f _ _ (Ne.symm P) ho,hr⟩,λy d' e=>?_⟩;obtain⟨k,R,S⟩:=hl y d' e;exact⟨k,R,S.keep B l.tbm.fs⟩
 .obtain⟨b,k,g,h2,⟨o,ho,hr⟩,h4⟩:=l.cell y d' e;exact⟨b,k,g,h2,⟨o,f b o (λq=>I y b g q.symm) ho,hr⟩,h4.keep B l.tbm.fs⟩
 .obtain⟨fl,g,h2⟩:=l.frs;refine⟨fl,g,λJ K=>?_⟩;obtain⟨q1,L,o,es,D,q2,T,U,V,W⟩:=h2 J K;refine⟨q1,L,o,es,D,q2,T,U,f L o (λq=>O ?_) V,W⟩;unfold fsOf;rw[g];exact zp5.mpr ⟨J,K,q▸q2⟩
 .have other:∀p∈c.own,(∀b∈Own.ads p,b≠a)->zR h' mu p.1 p.2:=λp C n=>(l.own p C).keep B l.tbm.fs λb E Y e=>f b Y (n b E) e;have u:=l.ownNd;rw[h] at u;simp only [owns,List.flatMap_append,List.flatMap_cons] at u;have F:p∈pre++(x,o')::post:=C;rcases zpE.mp F with hq|hq
  .refine other p (by rw[h];exact zpC _ hq) λb n q=>?_;subst q;exact(List.nodup_append.mp u).2.2 b (zqm.mpr ⟨p,hq,n⟩) b (zpC _ v) rfl
  .refine memK hq ?_ λr=>?_
   .exact M
   .refine other p (by rw[h];exact zpw _ (zpx _ r)) λb n q=>?_;subst q;have:=(List.nodup_append.mp u).2.1;exact(List.nodup_append.mp this).2.2 b v b (zqm.mpr ⟨p,r,n⟩) rfl
 .show (owns (pre++(x,o')::post)).Nodup;rw[d];exact l.ownNd
 .show ∀b∈owns (pre++(x,o')::post),_;rw[d];exact l.ownMu
theorem zc7 (l:Loc X A env mu c s) (b:(x,Own.inst C dx fs)∈c.own):∃es m,s.heap.get? x=some ⟨.ref C,some dx,.plain,#[]⟩/\s.heap.get? dx=some (dictOf es m)/\Flds s.heap mu es fs/\InstAt s.heap x ⟨.ref C,some dx,.plain,#[]⟩ C (some (dictOf es m)):=by
 obtain⟨e,es,m,a,r⟩:=l.own _ b;exact⟨es,m,e,a,r,⟨e,rfl,rfl,a⟩⟩
theorem zl4 (I:zF K C names) (a:f∈names){es:List DictEntry}{m:Nat}{v:Value}(h:getL f es=some (some v)):findObj K C (some (dictOf es m)) f=some (.value v):=by
 obtain⟨b,c,d⟩:=I.cd;unfold findObj;rw[c,Option.bind_some,I.free f a,Option.bind_some];show (((PySem.W.ownOf b (some (dictOf es m)) f).bind _):Option Builtin.ObjectAttr.Found)=_;unfold PySem.W.ownOf;rw[d,if_pos rfl];show ((getL f es).bind _:Option Builtin.ObjectAttr.Found)=_;rw[h];rfl
theorem zki (I:zF K C names) (b:K.In X.kk) (l:Loc X A env mu c s) (g:(x,Own.inst C dx fs)∈c.own) (i:f∈names) (e:fs.lookup f=some d){j:Bool}{Q:VP}(h:∀v,Rd s.heap mu v d->Q v {s with toks:=s.toks+1}):wpAny X.M A (getAttr (.ref x) f j) Q E s:=by
 obtain⟨es,m,o,p,r,k⟩:=zc7 l g;obtain⟨v,n,a⟩:=zl3 r e;exact get_value (zJ b l.stay) k I.hga (zl4 I i n) (zfB a) (h v a)
theorem ze5 (S:Stat X env sc) (O:X.Ok) (I:zF K C names) (i:K.In X.kk) (l:Loc X A env mu c s){y:Str}{j p:Pos}(k:sc.names.lookup y=some .local) (hd:(y==("__debug__":Str))=false) (m:c.loc.lookup y=some (ptr x)) (n:(x,Own.inst C dx fs)∈c.own) (o:f∈names) (e:fs.lookup f=some d):Ev X A env mu (.Attribute (.Name y j) f p) d s:=λE Q h=>by
 rw[arm_eval_Attribute];refine wpB ?_;rw[zab ⋯];refine zf S l k hd m _ _ λv g a b=>?_;cases b;refine wpB (zqI (wpB (zpS (zki I i (l.aft O a) n o e λv r=>?_))));exact wpB (zpR (zpR (h v _ (a.trans (.tok _)) r)))
theorem zdp (I:zF K C names) (N:K.In X.kk) (l:Loc X A env mu c s) (j:c.own=pre++(x,.inst C dx fs)::post) (n:dx∈fr) (O:f∈names) (P:fs.length<=500){v:Value}(r:Rd s.heap mu v d){Q:Unit->Shared->Prop}
  (h:∀s',AftL X A fr s s'->Loc X A env mu {c with own:=pre++(x,.inst C dx (setL fs f d))::post} s'->Q () s'):wpAny X.M A (setAttr (.ref x) f v) Q E s:=by
 have e:(x,Own.inst C dx fs)∈c.own:=by rw[j];simp
 obtain⟨es,m,F,o,p,G⟩:=zc7 l e;obtain⟨T,R,S⟩:=I.cd;have u:=zJ N l.stay;refine set_plain u G I.seta ?_;have g:takerIn K C f=some none:=by unfold takerIn;rw[I.free f O];rfl
 have U:Loc X A env mu c {s with toks:=s.toks+1}:=by
  refine⟨l.stay,l.tbm,l.low,l.ltb,l.ns,l.cell,l.cis,⟨zp0 l.tk.tk,l.tk.tb⟩,l.frs,l.own,l.ownNd,l.ownMu⟩
 refine osa_open (s:={s with toks:=s.toks+1}) u G I.over g λb=>?_;refine wpB (zpR (wpB (wpB (wpAny_loadPart F (wpB ((looks_clsIn u R).at ?_))))));rw[S];refine zpR (a:=some dx) (wpB (zpR (wpB ?_)));unfold nsSet;refine wpB (wpB (wpAny_askSetting (zpR (wpB (wpAny_mkText (wpB (wpAny_loadPart o ?_)))))));have y:(!(es.toArray).any (·.key.isStr f)&&(es.toArray).any (·.refKey))=false:=by
  have:=ziR p;rw[<-Array.any_toList,<-Array.any_toList];show (!es.any _&&es.any _)=false;rw[this,Bool.and_false]
 dsimp only;rw[aRefKeyMayBeTheName_at,y];have z:=zpW s.heap dx (Obj.putName f (PyData.keyHash X.w.params f) (.str f (s.toks+1)) v);have H:(s.heap.update dx (Obj.putName f (PyData.keyHash X.w.params f) (.str f (s.toks+1)) v)).get? dx=some (dictOf (putL f (PyData.keyHash X.w.params f) (.str f (s.toks+1)) v es) (putN f es m)):=by
  rw[zpU _ o (by rw[putName_dict];rfl),putName_dict]
 have J:(putL f (PyData.keyHash X.w.params f) (.str f (s.toks+1)) v es).length<=1000:=by
  have:=zhW (f:=f) (k:=PyData.keyHash X.w.params f) (key:=.str f (s.toks+1)) (v:=v) (es:=es);have:=zl2 p;lia
 refine wpAny_updatePart o ?_;refine wpB (wpAny_lookBehind H (pastItsLine_dict (by rw[zqp,sizeLine_eq];sleep 124)) ?_);have B:dx∈mu:=(l.ownMu dx (zu e (by first|rfl|simp[Own.ads]))).1;have i:x≠dx:=by
  have D:=l.ownNd;rw[j] at D;simp only [owns,List.flatMap_append,List.flatMap_cons,Own.ads] at D;have:=(List.nodup_append.mp D).2.1;have:=(List.nodup_append.mp this).1;intro q;rw[q] at this;simp at this
 have L:Keep (fsOf A) mu s.heap (s.heap.update dx (Obj.putName f (PyData.keyHash X.w.params f) (.str f (s.toks+1)) v)):=.sameBut z B;obtain⟨q1,q2⟩:=l.own_setAt (a:=dx) (fr:=fr) (o':=.inst C dx (setL fs f d)) (t:=s.toks+1+1) j (by first|rfl|simp[Own.ads]) (by first|rfl|simp[Own.ads]) n z (by lia) ⟨(z.2 x i).trans F,_,_,H,zl1 (r.keep L l.tbm.fs) (p.keep L l.tbm.fs)⟩;exact zpR (h _ q1 q2)
end
structure OwnOk (X:Wd) (A:Around) (mu:LA) (ow:List (Addr×Own)) (s:Shared):Prop where
 is_:∀p∈ow,zR s.heap mu p.1 p.2
 nd:(owns ow).Nodup
 mu:∀a∈owns ow,a∈mu/\a∉fsOf A/\a≠X.tb/\X.kk.get? a=none
structure FnB (X:Wd) (K:Frag) (fa:Addr) (fd:FuncData) (body:List Stmt) (sc:Scope):Prop where
 at_:∃o,K.lookup fa=some o/\o.data=.func fd
 code:X.kk.CodeRec fd.code fd.qualname
 body:fd.body=.stmts body
 scope:fd.scope=sc
 globals:fd.globals=mainGlobals
 builtins:fd.builtins=builtinsNs
 closure:fd.closure=[]
 kind:sc.kind=.function
 co:sc.isCoroutine=false
 gen:sc.isGenerator=false
section
variable {s s':Shared}{n:Nat}{K:Frag}{fa:Addr}{fd:FuncData}{body:List Stmt}{ps:List Str}{us:List Value}{ds:List PyData}{ow ow' pre post:List (Addr×Own)}{f:Fl}{a:Args}
def zS (X:Wd) (A:Around) (n:Nat) (sc:Scope) (ps:List Str) (ds:List PyData) (ow:List (Addr×Own)) (body:List Stmt) (f:Fl) (ow':List (Addr×Own)):Prop:=
 ∀(A':Around) (env:Env) (mu' fr':LA),Rm n A'->A'.handled=A.handled->InFn A' env->Frm X A' env sc mu' fr'->(∀y,sc.names.lookup y=some .cell->∃a,zW X A' env fr' y a)->(∀b∈owns ow,b∈fr')->∀s,Loc X A' env mu' {startC sc ps ds with own:=ow} s->
  ∀(E:VP) (Q:Flow->Shared->Prop),(∀f' s',AftL X A' fr' s s'->FlIs mu' s'.heap f f'->(∀p∈ow',zR s'.heap mu' p.1 p.2)->Q f' s')->
   (∀v s',AftL X A' fr' s s'->Frs X A' s'.heap->X.kk.StaysIn s'.heap->ExIs s.heap mu' env.locals s'.heap f v->(∀p∈ow',zR s'.heap mu' p.1 p.2)->E v s')->wpAny X.M A' (execs body env) Q E s
def StO (X:Wd) (A:Around) (env:Env) (mu fr:LA) (c:Ctx) (ss:List Stmt) (f:Fl) (ow':List (Addr×Own)):Prop:=∃c',St X A env mu fr c ss f c'/\c'.own=ow'
theorem zS.of (h:∀(c:Around) (env:Env) (mu' fr':LA),Rm n c->c.handled=A.handled->InFn c env->Frm X c env sc mu' fr'->(∀y,sc.names.lookup y=some .cell->∃a,zW X c env fr' y a)->(∀b∈owns ow,b∈fr')->StO X c env mu' fr' {startC sc ps ds with own:=ow} body f ow'):zS X A n sc ps ds ow body f ow':=
 λc env mu' fr' R d e F C g s l E Q i j=>by
  obtain⟨c',k,rfl⟩:=h c env mu' fr' R d e F C g;exact k s l E Q (λm s' a l' o=>i m s' a o l'.own) λv s' a l' p=>j v s' a l'.frs l'.stay p l'.own
theorem zm {c1:Ctx}{st:Stmt}{a:List Stmt}(F:Frm X A env sc mu fr) (b:St1 X A env mu fr c st .next c1) (d:StO X A env mu fr c1 a f ow'):StO X A env mu fr c (st::a) f ow':=d.elim λc' h=>⟨c',ze F b h.1,h.2⟩
theorem zcr (O:X.Ok){e:Expr}{p:Pos}{d:PyData}{a:List Stmt}(b:∀s,Loc X A env mu c s->Ev X A env mu e d s):StO X A env mu fr c (.Return (some e) p::a) (.ret d) c.own:=⟨c,zI (by intro q;cases q) (zeJ O b),rfl⟩
theorem zhy {prog:Program}{w:World}{R:Result->Shared->Prop}{args:Args}{o:Obj}{binds:List (Str×Value)}
  (b:A.depth<recursionLimit) (q:s.heap.get? fa=some o) (c:o.data=.func fd) (k:s.heap.NoLimit) (n:s.heap.CodeRec fd.code fd.qualname)
  (d:fd.body=.stmts body) (g:Looks (model prog w) s.heap (bindArgs fd args) binds) (l:fd.closure=[])
  (i:∀x∈binds,fd.scope.names.lookup x.1=some .local\/(fd.scope.names.lookup x.1=some .cell/\((cellsFrom (s.heap.objs.size+1) fd.scope.names []).lookup x.1).isSome=true))
  (h:∀a,InCallC s (callEnvC fd s.heap.objs.size fa).locals (bindL (callEnvC fd s.heap.objs.size fa).kindOf binds λ_=>none) (callEnvC fd s.heap.objs.size fa).cells
    (bindC (callEnvC fd s.heap.objs.size fa).kindOf binds λ_=>none) a->s.toks<=a.toks->
   wpAny (model prog w) (A.deeper (callEnvC fd s.heap.objs.size fa)) (execs body (callEnvC fd s.heap.objs.size fa)) (λf s'=>R (.ok (.ret (match f with | .ret v=>v|_=>.none))) s')
    (λe s'=>wpAny (model prog w) (A.deeper (callEnvC fd s.heap.objs.size fa)) (leaving (callEnvC fd s.heap.objs.size fa) e) (λ_ j=>R (.error e) j) (λr j=>R (.error r) j) s') a)
  (p:fd.scope.isCoroutine=false) (m:fd.scope.isGenerator=false) (t:fd.scope.kind=.function) :
  codeAny (model prog w) A (.call (.ref fa) args) R s:=by
 refine codeAny_call_function b q c p m d n ?_;rw[l];refine g.here (wpt (wpAny_newFunctionEnv_cells t i λenv u s' x y _=>?_));subst u;exact⟨k.keeps x.toInCall.keep,codeAny_func (h s' x y)⟩
theorem AftL.backO {e:Env}{s₀:Shared}(l:e.frame=some s.heap.objs.size) (f:Frs X A s.heap) (c:∀b o,s.heap.get? b=some o->s₀.heap.get? b=some o) (n:s₀.os=s.os) (p:s₀.gens=s.gens) (hz:s.heap.objs.size<=s₀.heap.objs.size) (t:s.toks<=s'.toks)
  {fr d:LA}(h:∀x∈fr,x∈d\/s.heap.get? x=none) (a:AftL X (A.deeper e) fr s₀ s'):AftL X A d s s':=by
 refine⟨λb o k q=>?_,a.os.trans n,λg=>a.gens (p▸g),zpF hz a.size,t,λo e=>a.live o (c _ _ e)⟩;have i:b≠s.heap.objs.size:=zqV (zpI q);have j:b∉X.tb::fr:=λm=>by
  rcases memC m with rfl|m
  .exact k (by simp)
  .rcases h b m with w|w
   .exact k (zpx _ w)
   .rw [w] at q;cases q
 obtain⟨o',u,r⟩:=a.keep b o j (c b o q);refine⟨o',u,r.imp id λm=>⟨?_,m.2⟩⟩;replace m:=m.1;rw[zap l f.fl] at m;rcases memC m with rfl|m
 .exact absurd rfl i
 .exact m
theorem Frm.more (F:Frm X A env sc mu fr){fr':LA}(a:∀b∈fr,b∈fr') (c:∀b∈fr',b∈mu):Frm X A env sc mu fr':=⟨F.toStat,F.lmu,a _ F.lfr,F.new,F.cel,c⟩
theorem zR.sub {h:Heap}{mu':LA}{x:Addr}{o:Own}(q:zR h mu x o) (a:∀b∈mu',b∈mu):zR h mu' x o:=by
 cases o with
 | lst xs=>rcases q with ⟨vs,m,e,r⟩;exact⟨vs,m,e,r.sub a⟩
 | raw o=>exact q
 | inst C dx fs=>rcases q with ⟨e,es,m,c,r⟩;exact⟨e,es,m,c,r.sub a⟩
theorem Loc.lend (l:Loc X A env mu c s) (b:c.own=pre++ow++post):OwnOk X A mu ow s:=by
 have sub:∀p∈ow,p∈c.own:=λp m=>by rw[b];exact zpC _ (zpw _ m)
 refine⟨λp m=>l.own p (sub p m),?_,λa m=>?_⟩
 .have nd:=l.ownNd;rw[b] at nd;unfold owns at nd ⊢;rw[zqB,zqB] at nd;exact(List.nodup_append.mp (List.nodup_append.mp nd).1).2.1
 .obtain⟨p,mp,ma⟩:=zqm.mp m;obtain⟨d,e,f,_,g,_⟩:=l.ownMu a (zu (sub p mp) ma);exact⟨d,e,f,g⟩
theorem Loc.back (O:X.Ok) (l:Loc X A env mu c s) (F:c.own=pre++ow++post) (a:AftL X A (owns ow) s s') (R:∀p∈ow',zR s'.heap mu p.1 p.2) (u:owns ow'=owns ow) (G:∀b∈owns ow,b∈fr):AftL X A fr s s'/\Loc X A env mu {c with own:=pre++ow'++post} s':=by
 have sub:∀p∈ow,p∈c.own:=λp m=>by rw[F];exact zpC _ (zpw _ m)
 have g:∀b∈owns ow,b∈mu/\b∉fsOf A/\b≠X.tb/\b≠env.locals/\X.kk.get? b=none/\∀y M,env.cells.lookup y=some M->b≠M:=λb m=>by
  obtain⟨p,S,T⟩:=zqm.mp m;exact l.ownMu b (zu (sub p S) T)
 have f:∀b o,b≠X.tb->b∉owns ow->s.heap.get? b=some o->∃o',s'.heap.get? b=some o'/\zbA (fsOf A) b o o':=λb o k n e=>a.keep b o (λm=>by
  rcases memC m with rfl|m
  .exact k rfl
  .exact n m) e
 have H:Keep (fsOf A) mu s.heap s'.heap:=λb o m e=>f b o (λq=>m (q▸l.tbm.tb)) (λq=>m (g b q).1) e;have j:owns (pre++ow'++post)=owns c.own:=by
  rw[F];unfold owns at u ⊢;rw[zqB,zqB,zqB,zqB,u]
 refine⟨a.sub G,⟨λb o e=>?_,l.tbm,λb m=>zpM (l.low b m) a.size,l.ltb,?_,λx d e=>?_,λy b e=>⟨(l.cis y b e).1,?_⟩,⟨zpM l.tk.tk a.toks,let ⟨o,e⟩:=l.tk.tb;a.live o e⟩,?_,λp U=>?_,?_,?_⟩⟩
 .have hk:b≠X.tb:=by rintro rfl;rw[O.tb] at e;cases e
  obtain⟨o',w,r⟩:=f b o hk (λq=>by rw[(g b q).2.2.2.2.1] at e;cases e) (l.stay b o e);rw[w,r.ex λm=>by rw[(l.frs.none m).1] at e;cases e]
 .obtain⟨m,hn,h⟩:=l.ns;refine⟨m,Ns.same hn λo z=>f _ o l.ltb (λq=>(g _ q).2.2.2.1 rfl) z,λy d' e=>?_⟩;obtain⟨V,I,W⟩:=h y d' e;exact⟨V,I,W.keep H l.tbm.fs⟩
 .obtain⟨b,v,k,n,h3,h4⟩:=l.cell x d e;exact⟨b,v,k,n,IsCell.same h3 λo z=>f b o n (λq=>(g b q).2.2.2.2.2 x b k rfl) z,h4.keep H l.tbm.fs⟩
 .obtain⟨v,I⟩:=(l.cis y b e).2;exact⟨v,IsCell.same I λo z=>f b o (l.cis y b e).1 (λq=>(g b q).2.2.2.2.2 y b e rfl) z⟩
 .obtain⟨fl,k,n⟩:=l.frs;refine⟨fl,k,λN P=>?_⟩;obtain⟨q1,L,o,es,Y,q2,Z,Q,q5,q6⟩:=n N P;have B:L∈fsOf A:=by unfold fsOf;rw[k];exact List.mem_filterMap.mpr ⟨N,P,q2⟩
  obtain⟨o',w,r⟩:=f L o Q (λq=>(g L q).2.1 B) q5;exact⟨q1,L,o',es,Y,q2,Z,Q,w,r.data.1.trans q6⟩
 .have hp':p∈pre++ow'++post:=U;have i:p∈pre\/p∈post->zR s'.heap mu p.1 p.2:=λt=>by
   have C:p∈c.own:=by rw[F];rcases t with q|q;exact zpC _ (zpC _ q);exact zpw _ q
   refine(l.own p C).keep H l.tbm.fs λb J ob e=>?_;have D:=l.ownMu b (zu C J);have K:b∉owns ow:=λq=>by
    have E:=l.ownNd;rw[F] at E;unfold owns at E q;rw[zqB,zqB] at E;rcases t with t|t
    .exact (List.nodup_append.mp (List.nodup_append.mp E).1).2.2 b (zqm.mpr ⟨p,t,J⟩) b q rfl
    .exact (List.nodup_append.mp E).2.2 b (zpw _ q) b (zqm.mpr ⟨p,t,J⟩) rfl
   obtain⟨o',w,r⟩:=f b ob D.2.2.1 K e;rw[w,r.ex D.2.1]
  rcases zpE.mp hp' with hp'|hp'
  .rcases zpE.mp hp' with hp'|hp'
   .exact i (.inl hp')
   .exact R p hp'
  .exact i (.inr hp')
 .show (owns (pre++ow'++post)).Nodup;rw[j];exact l.ownNd
 .show ∀b∈owns (pre++ow'++post),_;rw[j];exact l.ownMu
end
noncomputable abbrev Fds:=List (Str×PyData)
noncomputable def zpf (a b:PyData):Option PyData:=match a with
 | .str x=>(zc2 b).bind λy=>if x.length+y.length<=sizeLine then some (.str (x++y)) else none
 | .int x=>(zbM b).map λy=>.int (x+y)
 | _=>none
noncomputable def zfS (y:Str):Bool:=y==("self":Str)
noncomputable def opsI (sc:Scope) (nm:List Str):OpsS (Fds×Fds) where
 nm c x:=if ziM sc x=true/\(x==("__debug__":Str))=false then c.1.lookup x else none
 fld c y f:=bif zfS y then (if f∈nm then c.2.lookup f else if f=("punctuation_chars":Str)/\("*":Str)∈nm then c.2.lookup ("_punctuation_chars":Str) else none) else none
 cl _ _:=none
 set c x d:=if ziM sc x=true/\zfS x=false then some (setL c.1 x d,c.2) else none
 setF c y f d:=if zfS y=true/\f∈nm/\c.2.length<=400 then some (c.1,setL c.2 f d) else none
 aug _ _ _:=none
 augF c y f d:=if zfS y=true/\f∈nm/\c.2.length<=400 then (c.2.lookup f).bind λa=>(zpf a d).map λd=>(c.1,setL c.2 f d) else none
 ex _:=none
noncomputable abbrev ivE (sc:Scope) (nm:List Str) (n:Nat) (loc fs:Fds) (e:Expr):Option PyData:=gE (opsI sc nm).toOps n (loc,fs) e
noncomputable abbrev ivT (sc:Scope) (nm:List Str) (n:Nat) (loc fs:Fds) (e:Expr):Option Bool:=gT (opsI sc nm).toOps n (loc,fs) e
noncomputable abbrev ixS (sc:Scope) (nm:List Str) (n:Nat) (loc fs:Fds) (ss:List Stmt):Option (Fl×Fds×Fds):=gS (opsI sc nm) n (loc,fs) ss
noncomputable abbrev ix1 (sc:Scope) (nm:List Str) (n:Nat) (loc fs:Fds) (st:Stmt):Option (Fl×Fds×Fds):=g1 (opsI sc nm) n (loc,fs) st
noncomputable def cI (loc:Fds) (pre post:List (Addr×Own)) (x C dx:Addr) (fs:Fds):Ctx:=⟨loc,[],pre++(x,.inst C dx fs)::post⟩
section
variable {n:Nat}{C x dx:Addr}{K:Frag}{pre post:List (Addr×Own)}{nm:List Str}
structure SndE (X:Wd) (A:Around) (env:Env) (sc:Scope) (mu:LA) (pre post:List (Addr×Own)) (x C dx:Addr) (nm:List Str) (n:Nat):Prop where
 e:∀{loc fs:Fds}{e:Expr}{d:PyData},ivE sc nm n loc fs e=some d->loc.lookup ("self":Str)=some (ptr x)->∀s,Loc X A env mu (cI loc pre post x C dx fs) s->Ev X A env mu e d s
 t:∀{loc fs:Fds}{e:Expr}{b:Bool},ivT sc nm n loc fs e=some b->loc.lookup ("self":Str)=some (ptr x)->∀s,Loc X A env mu (cI loc pre post x C dx fs) s->Ts X A env e b s
def zdZ (X:Wd) (A:Around) (env:Env) (sc:Scope) (mu:LA) (pre post:List (Addr×Own)) (x C dx:Addr):Prop:=∀(loc fs:Fds) (d:PyData) (yp p:Pos),fs.lookup ("_punctuation_chars":Str)=some d->loc.lookup ("self":Str)=some (ptr x)->∀s,Loc X A env mu (cI loc pre post x C dx fs) s->Ev X A env mu (.Attribute (.Name "self" yp) "punctuation_chars" p) d s
theorem zdC {y:Str}(h:zfS y=true):y=("self":Str):=eq_of_beq h
theorem own_cI {loc fs:Fds}:(x,Own.inst C dx fs)∈(cI loc pre post x C dx fs).own:=zpw _ zpP
noncomputable abbrev cxI (pre post:List (Addr×Own)) (x C dx:Addr) (c:Fds×Fds):Ctx:=cI c.1 pre post x C dx c.2
abbrev zlr (x:Addr) (c:Fds×Fds):Prop:=c.1.lookup ("self":Str)=some (ptr x)
theorem gokI (O:X.Ok) (S:Stat X env sc) (I:zF K C nm) (e:K.In X.kk) (a:sc.names.lookup ("self":Str)=some .local) (f:("*":Str)∈nm->zdZ X A env sc mu pre post x C dx):GOk X A env mu (cxI pre post x C dx) (zlr x) (opsI sc nm).toOps:=
 ⟨λh _ s l=>iteX h λc h=>zf S l (zbF c.1) c.2 h,
 λh d s l=>conX h λg h=>by
  rw[zdC g];refine zd2 h (λb h=>ze5 (C:=C) (dx:=dx) S O I e l a (by ext) d own_cI b h) λ_ h=>iteX h λb h=>?_;rw[b.1];exact f b.2 _ _ _ _ _ h d s l,
 λh=>zg h⟩
theorem sndG {k:Nat}(O:X.Ok) (R:Rm k A) (S:Stat X env sc) (I:zF K C nm) (b:K.In X.kk) (a:sc.names.lookup ("self":Str)=some .local) (c:("*":Str)∈nm->zdZ X A env sc mu pre post x C dx):∀n,GSnd X A env mu (cxI pre post x C dx) (zlr x) (opsI sc nm).toOps n:=gsnd O R (gokI O S I b a c)
theorem sndE {k:Nat}(O:X.Ok) (R:Rm k A) (S:Stat X env sc) (I:zF K C nm) (b:K.In X.kk) (a:sc.names.lookup ("self":Str)=some .local) (c:("*":Str)∈nm->zdZ X A env sc mu pre post x C dx) (n:Nat):SndE X A env sc mu pre post x C dx nm n:=
 have G:=sndG O R S I b a c n
 ⟨λh=>G.e h,λh=>G.t h⟩
theorem sndT (_:X.Ok){k:Nat}(_:Rm k A) (a:∀n,SndE X A env sc mu pre post x C dx nm n) (n:Nat):SndE X A env sc mu pre post x C dx nm n:=a n
theorem zdf (F:Frm X A env sc mu fr) (O:X.Ok) (I:zF K C nm) (t:K.In X.kk){loc fs:Fds}{f:Str}{d:PyData}{w ap p:Pos}{e:Expr}(c:sc.names.lookup ("self":Str)=some .local) (y:loc.lookup ("self":Str)=some (ptr x)) (m:dx∈fr) (z:f∈nm) (n:fs.length<=500) (B:zah e=true)
  (D:∀s,Loc X A env mu (cI loc pre post x C dx fs) s->Ev X A env mu e d s):St1 X A env mu fr (cI loc pre post x C dx fs) (.Assign [.Attribute (.Name "self" w) f ap] e p) .next (cI loc pre post x C dx (setL fs f d)):=λs l E Q h _=>by
 refine plainObj_wpAny_Assign_Attribute (D s l _ _ λv o a g=>zf F.toStat (l.aft O a) c (by ext) y _ _ λu q b i=>?_) (zC B);obtain rfl:=i.ptrE;exact zdp I t ((l.aft O a).aft O b) rfl m z n (g.aft l.tbm b) λr j k=>h _ _ ((a.trans b).toL.trans j) k rfl
theorem zgT (F:Frm X A env sc mu fr) (O:X.Ok) (I:zF K C nm) (L:K.In X.kk){loc fs:Fds}{f:Str}{d d0 M:PyData}{U ap p:Pos}{e:Expr}(z:sc.names.lookup ("self":Str)=some .local) (V:loc.lookup ("self":Str)=some (ptr x)) (B:dx∈fr) (N:f∈nm) (D:fs.length<=500)
  (W:fs.lookup f=some d0) (Y:∀s,Loc X A env mu (cI loc pre post x C dx fs) s->Ev X A env mu e M s) (c:zpf d0 M=some d) :
  St1 X A env mu fr (cI loc pre post x C dx fs) (.AugAssign (.Attribute (.Name "self" U) f ap) .Add e p) .next (cI loc pre post x C dx (setL fs f d)):=λs l E Q h _=>by
 refine wpAny_AugAssign_AttributeAny (zf F.toStat l z (by ext) V _ _ λu i o G=>?_);obtain rfl:=G.ptrE;have q:=l.aft O o;refine zki I L q (dx:=dx) (fs:=fs) own_cI N W λv r=>?_;have j:Aft X A i {i with toks:=i.toks+1}:=.tok _;have l₂:=q.aft O j;refine Y _ l₂ _ _ λw S k g=>?_;have t:=l₂.aft O k;have y:=(o.trans j).trans k;have T:=(r.aft l.tbm j).aft l.tbm k;cases d0 with
 | str a=>
  refine zi c λb P c=>iteX c λR c=>?_;rw[zO P] at g;rw[<-zqr c] at h;obtain⟨_,rfl⟩:=T.strE;obtain⟨_,rfl⟩:=g.strE;exact wpt (PyProof.Rows.iadd_str (λZ tk H _=>zdp I L (t.aft O (.tok _ H)) rfl B N D (.str _ _) λJ m n=>h _ _ ((y.trans (.tok _ H)).toL.trans m) n rfl) R)
 | int a=>
  have c:(zbM M).map _=some d:=c;obtain⟨b,P,e⟩:=Option.map_eq_some_iff.mp c;rw[zv P] at g;rw[<-e] at h;obtain⟨_,rfl⟩:=T.intE;obtain⟨_,rfl⟩:=g.intE;exact PySem.AutoIntOps.iadd_0 (zdp I L (t.aft O (.tok _)) rfl B N D (.int _ _) λJ m n=>h _ _ ((y.trans (.tok _)).toL.trans m) n rfl)
 | _=>exact zg c
structure SndS (X:Wd) (A:Around) (env:Env) (sc:Scope) (mu fr:LA) (pre post:List (Addr×Own)) (x C dx:Addr) (nm:List Str) (n:Nat):Prop where
 s:∀{loc fs:Fds}{ss:List Stmt}{f:Fl}{loc' fs':Fds},ixS sc nm n loc fs ss=some (f,loc',fs')->loc.lookup ("self":Str)=some (ptr x)->St X A env mu fr (cI loc pre post x C dx fs) ss f (cI loc' pre post x C dx fs')/\loc'.lookup ("self":Str)=some (ptr x)
 o:∀{loc fs:Fds}{st:Stmt}{f:Fl}{loc' fs':Fds},ix1 sc nm n loc fs st=some (f,loc',fs')->loc.lookup ("self":Str)=some (ptr x)->St1 X A env mu fr (cI loc pre post x C dx fs) st f (cI loc' pre post x C dx fs')/\loc'.lookup ("self":Str)=some (ptr x)
theorem znZ:GKeep (zlr x) (opsI sc nm):=
 ⟨fun {c y d c'} h i=>iteX h λa h=>zr h (by
  show (setL c.1 y d).lookup _=_;rw[zk,if_neg (λq:("self":Str)=y=>zqR.mp a.2 (q▸rfl))];exact i),
 λh i=>iteX h λ_ h=>zr h i,λh=>zg h,λh i=>iteX h λ_ h=>zi h λ_ _ h=>mapX h λ_ _=>i⟩
theorem sndS {k:Nat}(O:X.Ok) (R:Rm k A) (F:Frm X A env sc mu fr) (I:zF K C nm) (g:K.In X.kk) (b:sc.names.lookup ("self":Str)=some .local) (l:("*":Str)∈nm->zdZ X A env sc mu pre post x C dx) (e:dx∈fr) (n:Nat):SndS X A env sc mu fr pre post x C dx nm n:=
 have G:=zoU (cx:=cxI pre post x C dx) (I:=zlr x) (W:=opsI sc nm) O (sndG O R F.toStat I g b l) {
  toGKeep:=znZ
  set1:=λh _ j f=>iteX h λc h=>zr h (zj F O (zbF c.1) j f)
  setF1:=λh i j f=>iteX h λc h=>zr h (by
   rw[zdC c.1];exact zdf F O I g b i e c.2.1 (zpF c.2.2 (by ext)) j f)
  aug1:=λh=>zg h
  augF1:=λh i f=>iteX h λc h=>zi h λa m h=>mapX h λd hd=>by
   rw[zdC c.1];exact zgT F O I g b i e c.2.1 (zpF c.2.2 (by ext)) m f hd
  ex1:=λh=>zg h} F n
 have K:=gkeep (znZ (x:=x) (sc:=sc) (nm:=nm)) n
 ⟨λh i=>⟨G.s h i,K.s h i⟩,λh i=>⟨G.o h i,K.o h i⟩⟩
theorem zoQ {nm:List Str}{g:Str}{d:PyData}(e:g∉nm):GKeep (λc=>c.2.lookup g=some d) (opsI sc nm):=
 have a:∀{f:Str}{fs:Fds}{d:PyData},f∈nm->(setL fs f d).lookup g=fs.lookup g:=λj=>by
  rw[zk,if_neg (λq=>e (q.symm▸j):¬g=_)]
 ⟨λh i=>iteX h λ_ h=>zr h i,λh i=>iteX h λb h=>zr h ((a b.2.1).trans i),λh=>zg h,λh i=>iteX h λb h=>zi h λ_ _ h=>mapX h λ_ _=>(a b.2.1).trans i⟩
end
def FlR (f:Fl) (d:PyData):Prop:=f=.ret d\/(f=.next/\d=.none)
noncomputable def retF:Flow->Value
 | .ret v=>v
 | _=>.none
theorem flR {f:Fl}{d:PyData}{h:Heap}{a:Flow}(r:FlR f d) (b:FlIs mu h f a):∃v,retF a=v/\Rd h mu v d:=by
 rcases r with rfl|⟨rfl,rfl⟩
 .obtain ⟨v,rfl,rv⟩:=b;exact⟨v,rfl,rv⟩
 .cases b;exact⟨.none,rfl,.none⟩
theorem zkl {h:Heap}{f:Str}:∀{es:List DictEntry}{fs:List (Str×PyData)},Flds h mu es fs->fs.lookup f=none->getL f es=some none:=by
 intro es fs x
 induction x with
 | nil=>exact λ_=>rfl
 | @cons y t k v d' es fs r q c=>
  intro e
  by_cases a:f=y
  .rw [List.lookup,a,zqG] at e;exact zoJ e
  .rw [zfZ (zpH.mpr (Ne.symm a))];exact c (zb3 (b:=f==y) (x:=some d') (x':=fs.lookup f) e (λd _=>absurd (eq_of_beq d) a) λ_ e=>e)
section
variable {sc sc':Scope}{c c':Ctx}{s s':Shared}{n:Nat}{K:Frag}{C x dx fa:Addr}{fd:FuncData}{body:List Stmt}{ps:List Str}{us:List Value}{d:PyData}{ds:List PyData}{ow ow' pre post:List (Addr×Own)}{f:Fl}{a:Args}{fs:Fds}{m:Str}{names:List Str}
def zcL (X:Wd) (A:Around) (n:Nat) (sc:Scope) (ps:List Str) (ds:List PyData) (ow:List (Addr×Own)) (body:List Stmt) (f:Fl):Prop:=
 ∀(A':Around) (env:Env) (mu' fr':LA),Rm n A'->A'.handled=A.handled->InFn A' env->Frm X A' env sc mu' fr'->StO X A' env mu' fr' {startC sc ps ds with own:=ow} body f ow
def ClO (X:Wd) (A:Around) (mu:LA) (fv:Value) (ds:List PyData) (d:PyData) (ow ow':List (Addr×Own)):Prop:=∀us (s:Shared) (E:VP) (Q:VP),X.kk.StaysIn s.heap->Rdy X s->Frs X A s.heap->Mu X A mu->Low mu s->Rds s.heap mu us ds->OwnOk X A mu ow s->
 (∀v s',AftL X A (owns ow) s s'->(∀p∈ow',zR s'.heap mu p.1 p.2)->Rd s'.heap mu v d->Q v s')->wpAny X.M A (call fv us) Q E s
def ClR (X:Wd) (A:Around) (mu:LA) (fv:Value) (ds:List PyData) (d:PyData) (ow:List (Addr×Own)):Prop:=∀us (s:Shared) (E:VP) (Q:VP),X.kk.StaysIn s.heap->Rdy X s->Frs X A s.heap->Mu X A mu->Low mu s->Rds s.heap mu us ds->OwnOk X A mu ow s->
 (∀v s',Aft X A s s'->Rd s'.heap mu v d->Q v s')->wpAny X.M A (call fv us) Q E s
structure zgz (X:Wd) (A:Around) (mu:LA) (s:Shared) (e:Env) (sc:Scope) (ps:List Str) (ds:List PyData) (ow:List (Addr×Own)) (new:LA) (h₁:Heap) (tk₁:Nat):Prop where
 frame:e.frame=some s.heap.objs.size
 toks:s.toks<=tk₁
 new_:∀b∈new,s.heap.objs.size<=b
 fr:Frm X (A.deeper e) e sc (new++mu) new
 cel:∀y,sc.names.lookup y=some .cell->∃a,zW X (A.deeper e) e new y a
 loc:Loc X (A.deeper e) e (new++mu) {startC sc ps ds with own:=ow} {s with heap:=h₁,toks:=tk₁}
 keep:∀b o,s.heap.get? b=some o->h₁.get? b=some o
 size:s.heap.objs.size<=h₁.objs.size
 inf:InFn (A.deeper e) e
theorem zka (O:X.Ok) (F:FnB X K fa fd body sc) (C:ps.Nodup) (st:X.kk.StaysIn s.heap) (tk:Rdy X s) (i:Frs X A s.heap) (z:Mu X A mu) (B:Low mu s) (r:Rds s.heap mu us ds) (w:OwnOk X A mu ow s){d:Shared}
  (x:InCallC s (callEnvC fd s.heap.objs.size fa).locals (bindL (callEnvC fd s.heap.objs.size fa).kindOf (ps.zip us) λ_=>none) (callEnvC fd s.heap.objs.size fa).cells (bindC (callEnvC fd s.heap.objs.size fa).kindOf (ps.zip us) λ_=>none) d) (f:s.toks<=d.toks) :
  ∃new c a,d={s with heap:=c,toks:=a}/\zgz X A mu s (callEnvC fd s.heap.objs.size fa) sc ps ds ow new c a:=by
 obtain⟨new,h,fr,g,cel⟩:=zb0 (fa:=fa) O F.scope F.globals F.builtins F.kind C st i z B r x ⟨zpM tk.tk f,let ⟨o,e⟩:=tk.tb;⟨o,x.toInCall.keep _ _ e⟩⟩;have l:=x.above;obtain⟨⟨c,a,rfl⟩,n,j,_⟩:=x.toInCall;have t:s.heap.objs.size<=c.objs.size:=zqt n.lt;have u:=zap (A:=A) (e:=callEnvC fd s.heap.objs.size fa) (L:=s.heap.objs.size) rfl i.fl;have v:∀b∈owns ow,b<s.heap.objs.size:=λb m=>B b (w.mu b m).1;refine⟨new,c,a,rfl,rfl,f,h,fr,cel,⟨g.stay,g.tbm,g.low,g.ltb,g.ns,g.cell,g.cis,g.tk,g.frs,λp D=>?_,w.nd,λb m=>?_⟩,j,t,⟨⟨_,zp2 i.fl.choose_spec⟩,rfl⟩⟩
 .have hm:∀b∈fsOf A,b∈new++mu:=λb m=>zpw _ (z.fs b m);exact((w.is_ p D).low λb m=>h b m).keep (.all j) hm λb _ E e=>j b E e
 .obtain⟨q1,q2,q3,q4⟩:=w.mu b m;have k:=v b m;refine⟨zpw _ q1,?_,q3,zqV k,q4,λy G e=>?_⟩
  .rw [u];intro q;rcases memC q with rfl|q
   .exact zpZ _ k
   .exact q2 q
  .exact zqV (zqU k (l y G (mem_of_lookup e)))
section
variable {e:Env}{new:LA}{h₁:Heap}{tk₁:Nat}(L:zgz X A mu s e sc ps ds ow new h₁ tk₁)
include L
theorem zgz.sub (w:OwnOk X A mu ow s):∀b∈owns ow++new,b∈new++mu:=λb m=>(zpE.mp m).elim (λm=>zpw _ (w.mu b m).1) λm=>zpC _ m
theorem zgz.frO (w:OwnOk X A mu ow s):Frm X (A.deeper e) e sc (new++mu) (owns ow++new):=L.fr.more (λb m=>zpw _ m) (L.sub w)
theorem zgz.celO:∀y,sc.names.lookup y=some .cell->∃a,zW X (A.deeper e) e (owns ow++new) y a:=λy b=>(L.cel y b).imp λ_ q=>⟨q.at_,zpw _ q.fr,q.fs,q.kk,q.one⟩
theorem zgz.back (b:Frs X A s.heap) (a:AftL X (A.deeper e) new {s with heap:=h₁,toks:=tk₁} s'):Aft X A s s':=a.back (s:=s) (s₀:={s with heap:=h₁,toks:=tk₁}) L.frame b L.keep rfl rfl L.size (zpF L.toks a.toks) λx m=>.inr (zpK (L.new_ x m))
theorem zgz.backO (b:Frs X A s.heap) (a:AftL X (A.deeper e) (owns ow++new) {s with heap:=h₁,toks:=tk₁} s'):AftL X A (owns ow) s s':=a.backO (s:=s) (s₀:={s with heap:=h₁,toks:=tk₁}) L.frame b L.keep rfl rfl L.size (zpF L.toks a.toks) λx m=>(zpE.mp m).imp id λm=>zpK (L.new_ x m)
end
theorem za3 (O:X.Ok) (p:K.In X.kk) (R:Rm (n+1) A) (F:FnB X K fa fd body sc) (q:PK K (bindArgs fd a) (ps.zip us)) (d:∀x∈ps,sc.names.lookup x=some .local\/sc.names.lookup x=some .cell) (t:ps.Nodup)
  (st:X.kk.StaysIn s.heap) (tk:Rdy X s) (i:Frs X A s.heap) (u:Mu X A mu) (z:Low mu s) (r:Rds s.heap mu us ds) (w:OwnOk X A mu ow s){Q:Result->Shared->Prop}
  (k:∀(e:Env) (new:LA) (c:Heap) (b:Nat),e.code=fd.code->zgz X A mu s e sc ps ds ow new c b->
   wpAny X.M (A.deeper e) (execs body e) (λf s'=>Q (.ok (.ret (retF f))) s') (λv s'=>wpAny X.M (A.deeper e) (leaving e v) (λ_ g=>Q (.error v) g) (λB g=>Q (.error B) g) s') {s with heap:=c,toks:=b}):codeAny X.M A (.call (.ref fa) a) Q s:=by
 obtain⟨o,C,j⟩:=F.at_;have l:=zJ p st;refine zhy (args:=a) (fd:=fd) (body:=body) (binds:=ps.zip us) (by have:=R.depth;sleep 110) (l _ _ C) j (O.lim.keeps st) (F.code.keeps st) F.body (q.lk l) F.closure (λy D=>?_) (λm x h=>?_) (by rw[F.scope];exact F.co) (by rw[F.scope];exact F.gen) (by rw[F.scope];exact F.kind)
 .rw [F.scope];refine(d _ (List.of_mem_zip D).1).imp id λe=>⟨e,zT (.inl (mem_of_lookup e))⟩
 obtain⟨new,c,b,rfl,L⟩:=zka O F t st tk i u z r w x h;exact k _ new c b rfl L
theorem zkK (O:X.Ok) (l:K.In X.kk) (R:Rm (n+1) A) (F:FnB X K fa fd body sc) (o:PK K (bindArgs fd a) (ps.zip us)) (c:∀x∈ps,sc.names.lookup x=some .local\/sc.names.lookup x=some .cell) (p:ps.Nodup) (hd:FlR f d) (q:zcL X A n sc ps ds ow body f)
  (st:X.kk.StaysIn s.heap) (tk:Rdy X s) (g:Frs X A s.heap) (t:Mu X A mu) (u:Low mu s) (r:Rds s.heap mu us ds) (w:OwnOk X A mu ow s){Q:Result->Shared->Prop}
  (h:∀v s',Aft X A s s'->Rd s'.heap mu v d->Q (.ok (.ret v)) s'):codeAny X.M A (.call (.ref fa) a) Q s:=by
 refine za3 O l R F o c p st tk g t u r w λe new k i _ L=>?_;obtain⟨c',y,z⟩:=q _ _ _ new (R.deeper _) rfl L.inf L.fr;refine y _ L.loc _ _ (λB s' C l' D=>?_) λv s' G l' j=>by rcases hd with rfl|⟨rfl,_⟩<;>exact False.elim j
 obtain⟨v,j,E⟩:=flR hd D;show Q (.ok (.ret (retF B))) s';rw[j];exact h v s' (L.back g C) (E.sub λb m=>zpw _ m)
theorem zo7 (O:X.Ok) (e:K.In X.kk) (R:Rm (n+1) A) (F:FnB X K fa fd body sc) (g:PK K (bindArgs fd a) (ps.zip us)) (b:∀x∈ps,sc.names.lookup x=some .local\/sc.names.lookup x=some .cell) (i:ps.Nodup) (hd:FlR f d) (j:zcL X A n sc ps ds ow body f)
  (st:X.kk.StaysIn s.heap) (tk:Rdy X s) (c:Frs X A s.heap) (k:Mu X A mu) (l:Low mu s) (r:Rds s.heap mu us ds) (w:OwnOk X A mu ow s){E:VP}{Q:VP}
  (h:∀v s',Aft X A s s'->Rd s'.heap mu v d->Q v s'):wpAny X.M A (call (.ref fa) a.pos a.kw) Q E s:=zqY (zkK (a:=a) O e R F g b i hd j st tk c k l r w h)
theorem zmZ (O:X.Ok) (l:K.In X.kk) (R:Rm (n+1) A) (F:FnB X K fa fd body sc) (o:PK K (bindArgs fd a) (ps.zip us)) (c:∀x∈ps,sc.names.lookup x=some .local\/sc.names.lookup x=some .cell) (q:ps.Nodup) (hd:FlR f d) (t:zS X A n sc ps ds ow body f ow') (u:owns ow'=owns ow)
  (st:X.kk.StaysIn s.heap) (tk:Rdy X s) (g:Frs X A s.heap) (y:Mu X A mu) (z:Low mu s) (r:Rds s.heap mu us ds) (w:OwnOk X A mu ow s){E:VP}{Q:VP}
  (h:∀v s',AftL X A (owns ow) s s'->(∀p∈ow',zR s'.heap mu p.1 p.2)->Rd s'.heap mu v d->Q v s'):wpAny X.M A (call (.ref fa) a.pos a.kw) Q E s:=by
 refine zqY (za3 (a:=a) O l R F o c q st tk g y z r w λe new k i _ L=>?_);refine t _ _ _ (owns ow++new) (R.deeper _) rfl L.inf (L.frO w) L.celO (λb m=>zpC _ m) _ L.loc _ _ (λB s' C D G=>?_) λv s' _ _ _ j _=>by rcases hd with rfl|⟨rfl,_⟩<;>exact False.elim j
 obtain⟨v,j,H⟩:=flR hd D;show Q (retF B) s';rw[j];exact h v s' (L.backO g C) (λp I=>(G p I).sub λb m=>zpw _ m) (H.sub λb m=>zpw _ m)
structure zcn (X:Wd) (K:Frag) (C:Addr) (m:Str) (fa:Addr) (fd:FuncData) (ps:List Str) (body:List Stmt) (sc:Scope):Prop where
 find:findIn K (.ref C) m=some (some (.ref fa))
 typ:typeIn K (.ref fa)=some (.type "function")
 fn:FnB X K fa fd body sc
 kinds:∀x∈ps,sc.names.lookup x=some .local\/sc.names.lookup x=some .cell
 nd:ps.Nodup
theorem zgj (O:X.Ok) (e:K.In X.kk) (R:Rm (n+1) A) (M:zcn X K C m fa fd ps body sc') (g:∀us:List Value,us.length=ds.length->PK K (bindArgs fd ⟨us,[]⟩) (ps.zip us)) (hd:FlR f d) (i:zS X A n sc' ps ds ow body f ow') (b:owns ow'=owns ow):ClO X A mu (.ref fa) ds d ow ow':=
 λus _ _ _ st tk c j k r w h=>zmZ (a:=⟨us,[]⟩) O e R M.fn (g us r.length) M.kinds M.nd hd i b st tk c j k r w h
theorem zie (O:X.Ok) (c:K.In X.kk) (R:Rm (n+1) A) (M:zcn X K C m fa fd ps body sc') (e:∀us:List Value,us.length=ds.length->PK K (bindArgs fd ⟨us,[]⟩) (ps.zip us)) (hd:FlR f d) (g:zcL X A n sc' ps ds ow body f):ClR X A mu (.ref fa) ds d ow:=
 λus _ _ _ st tk b i j r w h=>zo7 (a:=⟨us,[]⟩) O c R M.fn (e us r.length) M.kinds M.nd hd g st tk b i j r w h
def EvW (X:Wd) (A:Around) (env:Env) (mu fr:LA) (c:Ctx) (e:Expr) (d:PyData) (c':Ctx):Prop:=∀s,Loc X A env mu c s->∀(E:VP) (Q:VP),(∀v s',AftL X A fr s s'->Loc X A env mu c' s'->Rd s'.heap mu v d->Q v s')->wpAny X.M A (eval e env) Q E s
theorem zlF (I:zF K C names) (a:K.In X.kk) (M:zcn X K C m fa fd ps body sc') (l:Loc X A env mu c s) (b:(x,Own.inst C dx fs)∈c.own) (d:fs.lookup m=none){e:Sem Bool}{Q:Value×List Value->Shared->Prop}(h:Q (.ref fa,[.ref x]) s):wpAny X.M A (getMethod (.ref x) m e) Q E s:=by
 obtain⟨es,f,i,j,r,g⟩:=zc7 l b;exact method_fn (zJ a l.stay) g I.hga I.hgt M.find M.typ (by show (lookIn m (dictOf es f)).map _=_;rw[lookIn_dict,zkl r d];rfl) h
theorem zfI (O:X.Ok) (I:zF K C names) (n:K.In X.kk) (M:zcn X K C m fa fd ps body sc') (l:Loc X A env mu c s) (r:(x,Own.inst C dx fs)∈c.own) (t:fs.lookup m=none){o:Expr}{ap p:Pos}{es:List Expr}(u:plainBase o=true) (w:(ap.endLine==p.line)=true) (q:es.all plainArg=true) (y:es.length=ds.length) (z:es.length<29)
  (B:Ev X A env mu o (ptr x) s) (D:∀s',Aft X A s s'->Evs X A env mu p es ds s'){E:VP}{Q:VP}
  (h:∀us s',Aft X A s s'->Rds s'.heap mu (.ref x::us) (ptr x::ds)->wpAny X.M A (call (.ref fa) (.ref x::us)) Q E s'):wpAny X.M A (eval (.Call (.Attribute o m ap) es [] p) env) Q E s:=by
 refine zdW u w q z (B _ _ λv d a e=>?_);cases e;have b:=l.aft O a;refine zlF I n M b r t ?_;obtain⟨o',j,k⟩:=M.fn.at_;exact zy O (first:=[.ref x]) (.fn (n _ _ j) k) b.stay b.frs q y (D d a) λus f g i=>h us f (a.trans g) (.cons (.ptr x) i)
theorem ze3 (O:X.Ok) (I:zF K C names) (t:K.In X.kk) (M:zcn X K C m fa fd ps body sc') (q:c.own=pre++ow++post) (u:(x,Own.inst C dx fs)∈c.own) (w:fs.lookup m=none){o:Expr}{ap p:Pos}{es:List Expr}(y:plainBase o=true) (z:(ap.endLine==p.line)=true) (B:es.all plainArg=true) (D:es.length=ds.length) (F:es.length<29)
  (G:∀s,Loc X A env mu c s->Ev X A env mu o (ptr x) s) (H:∀s,Loc X A env mu c s->Evs X A env mu p es ds s) (Cl:ClO X A mu (.ref fa) (ptr x::ds) d ow ow') (k:owns ow'=owns ow) (n:∀b∈owns ow,b∈fr):EvW X A env mu fr c (.Call (.Attribute o m ap) es [] p) d {c with own:=pre++ow'++post}:=λs l E Q h=>by
 refine zfI O I t M l u w y z B D F (G s l) (λs' a=>H s' (l.aft O a)) λus r f g=>?_;have e:=l.aft O f;refine Cl _ _ _ _ e.stay e.tk e.frs e.tbm e.low g (e.lend q) λv i j J L=>?_;obtain⟨N,P⟩:=e.back O q j J k n;exact h v i (f.toL.trans N) P L
theorem ze4 (O:X.Ok) (I:zF K C names) (k:K.In X.kk) (M:zcn X K C m fa fd ps body sc') (n:c.own=pre++ow++post) (q:(x,Own.inst C dx fs)∈c.own) (r:fs.lookup m=none){o:Expr}{ap p:Pos}{es:List Expr}(t:plainBase o=true) (u:(ap.endLine==p.line)=true) (w:es.all plainArg=true) (y:es.length=ds.length) (z:es.length<29)
  (B:∀s,Loc X A env mu c s->Ev X A env mu o (ptr x) s) (D:∀s,Loc X A env mu c s->Evs X A env mu p es ds s) (Cl:ClR X A mu (.ref fa) (ptr x::ds) d ow):∀s,Loc X A env mu c s->Ev X A env mu (.Call (.Attribute o m ap) es [] p) d s:=λs l E Q h=>by
 refine zfI O I k M l q r t u w y z (B s l) (λs' a=>D s' (l.aft O a)) λus j e f=>?_;have b:=l.aft O e;exact Cl _ _ _ _ b.stay b.tk b.frs b.tbm b.low f (b.lend n) λv g i F=>h v g (e.trans i) F
theorem zbb (F:Frm X A env sc mu fr) (O:X.Ok){y:Str}{k p:Pos}{e:Expr}(m:sc.names.lookup y=some .local) (n:zah e=true) (o:EvW X A env mu fr c e d c'):St1 X A env mu fr c (.Assign [.Name y k] e p) .next {c' with loc:=setL c'.loc y d}:=λs l E Q h _=>
 wpAny_Assign_Name (o s l _ _ λv i a b f=>zq F b m f λj g l₂=>h _ _ (a.trans g) l₂ rfl) (zC n)
end
abbrev za9 (X:Wd) (K:Frag) (C:Addr) (m:Str) (fa:Addr) (fd:FuncData) (i:Nat) (x:Str):Prop:=zcn X K C m fa fd (zA (zo i x)) (zG (zo i x)) (zd (zo i x))
noncomputable def sioF (line:Str) (p:Nat):Fds:=[("_StringIO__newline",.str "\n"),("_StringIO__buf",.str line),("_StringIO__pos",.int p)]
noncomputable def sioN:List Str:=["_StringIO__newline","_StringIO__buf","_StringIO__pos"]
section
variable {c c':Ctx}{s s':Shared}{n:Nat}{K:Frag}{C x dx fa fi fc:Addr}{fd fdc:FuncData}
theorem zlT {M:Model}{t:String}{Q:VP}(h:Q (.bool false) s):wpAny M A (compareOp .IsNot (.type t) (.type t)) Q E s:=wpAny_isNot_self ⋯ h
theorem zcp (S:Stat X env sc) (O:X.Ok) (l:Loc X A env mu c s){n o q p:Pos}{e:Expr}{d:PyData}{T:String}(b:Top1 X "type" (.type "type")) (r:Top1 X T (.type T)) (t:sc.names.lookup ("type":Str)=some .globalImplicit) (g:sc.names.lookup (T:Str)=some .globalImplicit) (i:(((T:String):Str)==("__debug__":Str))=false) (k:plainArg e=true)
  (u:Ev X A env mu e d s) (hd:∀(v:Value) (s':Shared),Rd s'.heap mu v d->s'.TypeIs v T) (j:(Value.type T==Value.type "builtin_function_or_method")=false):Ts X A env (.Compare (.Call (.Name "type" n) [e] [] o) [.IsNot] [.Name (T:Str) q] p) false s:=λE Q h=>by
 refine wpAny_isTrue_Compare1 ?_ ⋯;refine wpAny_Call_NameR (zw S O l.stay t (by ext) b (zy O (mu:=mu) (ds:=[d]) (.type "type") l.stay l.frs (by simp[k]) rfl (zc l.tbm k u λ_ _=>evs_nil) λvs m a f=>?_));refine Rds.one f λ_ w=>?_;refine call_type_of (hd _ _ w) j ?_;refine zw S O (l.aft O a).stay g i r ?_;exact zlT (wpAny_truthy_bool (h _ a))
theorem cl_intInt {i:Int}:Cl X A mu (.type "int") [.int i] (.int i):=λvs s E Q st tk a c d r h=>by
 refine Rds.one r λ_ b=>?_;cases b;exact call_int_int (h _ _ .refl (.int _ _))
theorem zeA (O:X.Ok) (B:Blt X) (b:Top1 X "type" (.type "type")) (g:A.handled=none){w:Str}:zba X A n 12 [.int 1,.str w] (.ret (.int 1)):=zP.ofX λi env mu' fr' R f j F o=>by
 rw[g] at f;have c:=λm=>sound (mu:=mu') O B (zai (k:=n)) R f F.toStat m;show (_:List Stmt->_->Prop) (_::_) _;refine zz F (c1:=⟨[("n",.int 1),("what",.str w)],[],[]⟩) (zB F O (q:=false) (λs l=>zbQ (zaj (a:=false) ?_ (λ_ _=>rfl) (λh=>by cases h) λh _=>absurd ⟨rfl,rfl⟩ h)) ?_) ?_
 .exact zcp F.toStat O l (T:="int") b B.int ⋯ ⋯ (by ext) ⋯ ((c 3).e ⋯ s l) (λv s' r=>by cases r;exact typeIs_int _ _ _) (by ext)
 .exact st_nil
 refine zz F (c1:=⟨[("n",.int 1),("what",.str w)],[],[]⟩) (zj F O (d:=.int 1) ⋯ ⋯ λs l=>zU F.toStat O l (ds:=[.int 1]) ⋯ (by ext) B.int (.type "int") ⋯ rfl (zc l.tbm ⋯ ((c 3).e ⋯ s l) λ_ _=>evs_nil) cl_intInt) ?_;refine zz F (c1:=⟨[("n",.int 1),("what",.str w)],[],[]⟩) (zB F O (q:=false) (λs l=>(c 8).t ⋯ s l) st_nil) ?_;exact zaf O λs l=>(c 3).e ⋯ s l
theorem zeB (O:X.Ok) (I:zF K C sioN) (a:K.In X.kk){line:Str}{p:Nat}:zcL X A n (zd (zo 18 "__check")) (zA (zo 18 "__check")) [ptr x] [(x,.inst C dx (sioF line p))] (zG (zo 18 "__check")) .next:=λc env mu' fr' R d e F=>by
 have b:=sndE (nm:=sioN) (mu:=mu') (pre:=[]) (post:=[]) (x:=x) (dx:=dx) O R F.toStat I a ⋯ (λh=>absurd h (by ext));refine zm F (c1:=cI [("self",ptr x)] [] [] x C dx (sioF line p)) (zB F O (q:=false) (λs l=>(sndT O R b 6).t ⋯ ⋯ s l) st_nil) ⟨_,st_nil,rfl⟩
theorem zcE {ps:List Str}{body:List Stmt}(F:FnAt X fa ps body sc):Fn X (.ref fa):=by
 obtain⟨o,fd,a,b,_⟩:=F.ex;exact .fn a b
noncomputable def oneS (c:Nat):Str:=⟨#[c]⟩
theorem zkB {line:Str}{p c:Nat}(h:line.cps.toList[p]? = some c):cutS line (some (p:Int)) (some ((p:Int)+1))=oneS c:=by
 obtain⟨a,e⟩:=zpJ.mp h;have b:clipAt line.cps.toList.length (p:Int)=p:=zcK (by sleep 5);have d:clipAt line.cps.toList.length ((p:Int)+1)=p+1:=zcK (k:=p+1) (by sleep 58);have f:cutLo line.cps.toList.length (some (p:Int))=p:=b;have g:cutHi line.cps.toList.length (some ((p:Int)+1))=p+1:=d;unfold cutS cutL oneS;rw[f,g,Nat.add_sub_cancel_left,zp7 a,e]
 rfl
theorem zoe {line:Str}{p c:Nat}(h:line.cps.toList[p]? = some c):cutS (cutS line (some (p:Int)) (some ((p:Int)+1))++(" ":Str)) none (some (-1))=oneS c:=by
 rw[zkB h]
 rfl
theorem zjj (O:X.Ok) (B:Blt X) (I:zF K C sioN) (j:K.In X.kk) (N:A.handled=none) (H:FnAt X fi (zA (stm 12)) (zG (stm 12)) (zd (stm 12))) (P:Top1 X "_index" (.ref fi)) (i:Top1 X "type" (.type "type")) (J:za9 X K C "_StringIO__check" fc fdc 18 "__check")
  (w:∀us:List Value,us.length=1->PK K (bindArgs fdc ⟨us,[]⟩) ((zA (zo 18 "__check")).zip us)){line:Str}{p ch:Nat}(u:line.cps.toList[p]? = some ch) (Q:line.length<=100000) :
  zS X A (n+2) (zd (zo 18 "read")) (zA (zo 18 "read")) [ptr x,.int 1] [(x,.inst C dx (sioF line p))] (zG (zo 18 "read")) (.ret (.str (oneS ch))) [(x,.inst C dx (sioF line (p+1)))]:=zS.of λy env mu' fr' R z IF F Cc S=>by
 rw[N] at z;have T:p<line.length:=by
  obtain⟨h,_⟩:=zpJ.mp u;rw[Array.length_toList] at h;exact h
 have D:=λm=>sound (mu:=mu') O B (zai (k:=n+2)) R z F.toStat m;have f:=sndE (nm:=sioN) (mu:=mu') (pre:=[]) (post:=[]) (x:=x) (dx:=dx) O R F.toStat I j ⋯ (λh=>absurd h (by ext));have v:=sndS (nm:=sioN) (pre:=[]) (post:=[]) (x:=x) (dx:=dx) O R F I j ⋯ (λh=>absurd h (by ext)) (S _ (by simp[owns,Own.ads]));have r:∀{loc:Fds}{fs:Fds},(cI loc [] [] x C dx fs).own=[]++[(x,Own.inst C dx fs)]++[]:=rfl;show StO X y env mu' fr' (cI [("self",ptr x),("size",.int 1)] [] [] x C dx (sioF line p)) _ _ _;let E:Fds:=[("self",ptr x),("size",.int 1)];let U:Fds:=[("self",ptr x),("size",.int 1),("start",.int p)];let c:Fds:=[("self",ptr x),("size",.int 1),("start",.int p),("stop",.int line.length)];let G:Fds:=[("self",ptr x),("size",.int 1),("start",.int p),("stop",.int ((p:Int)+1))];refine zm F (c1:=cI E [] [] x C dx (sioF line p)) ((v 8).o ⋯ ⋯).1 ?_;refine zm F (c1:=cI E [] [] x C dx (sioF line p)) (zj F O (d:=.int 1) ⋯ ⋯ λs l=>zU F.toStat O l (ds:=[.int 1,.str "StringIO.read of a size that is no exact int"]) ⋯ (by ext) P (zcE H) ⋯ rfl (zc l.tbm ⋯ ((f 3).e ⋯ ⋯ s l) λ_ _=>zc l.tbm ⋯ ev_str λ_ _=>evs_nil) (zi8 O R H rfl (zeA O B i z))) ?_;refine zm F (c1:=cI E [] [] x C dx (sioF line p)) (zaq F.toStat O (d:=.none) ⋯ ⋯ (ze4 O I j J (ds:=[]) (fs:=sioF line p) (dx:=dx) r (by simp[cI]) ⋯ ⋯ ⋯ ⋯ rfl (by ext) (λs l=>(f 3).e ⋯ ⋯ s l) (λs l=>evs_nil) (zie O j R J (λus h=>w us h) (.inr ⟨rfl,rfl⟩) (zeB O I j)))) ?_;refine zm F (c1:=cI U [] [] x C dx (sioF line p)) ((v 8).o ⋯ ⋯).1 ?_;refine zm F (c1:=cI c [] [] x C dx (sioF line p)) (zj F O (d:=.int line.length) ⋯ ⋯ λs l=>zU F.toStat O l (ds:=[.str line]) ⋯ (by ext) B.len (.builtin _) ⋯ rfl (zc l.tbm ⋯ ((f 3).e ⋯ ⋯ s l) λ_ _=>evs_nil) (zdU (by sleep 126))) ?_;refine zm F (c1:=cI c [] [] x C dx (sioF line p)) (zB F O (q:=false) (λs l=>by refine(sndT O R f 6).t (loc:=c) (fs:=sioF line p) ?_ ⋯ s l;show some (decide _)=_;rw[zql];lia) st_nil) ?_;refine zm F (c1:=cI G [] [] x C dx (sioF line p)) ?_ ?_
 .have ht:∀q:Bool,decide ((p:Int)+1<(line.length:Int))=q->∀(L:Pos) (a b d:Expr) s,ivT (zd (zo 18 "read")) sioN 6 c (sioF line p) a=some true->ivT (zd (zo 18 "read")) sioN 6 c (sioF line p) b=some (decide ((p:Int)+1<(line.length:Int)))->Loc X y env mu' (cI c [] [] x C dx (sioF line p)) s->Ts X y env (.BoolOp .And [a,b] L) q s:=λq M L a b d s V W l=>
   zbQ (zaj (a:=true) ((sndT O R f 6).t (loc:=c) (fs:=sioF line p) V ⋯ s l) (λ_ h=>by cases h) (λh=>by cases h) λ_ _ s' Y=>zaj (a:=q) ((sndT O R f 6).t (loc:=c) (fs:=sioF line p) (by rw[W,M]) ⋯ s' (l.aft O Y)) (λ_ h=>h) (λh=>by cases h) λg _ s2 a2=>by
    have:q=true:=by cases q;exact absurd ⟨rfl,rfl⟩ g;rfl
    subst this;exact zgm)
  by_cases M:p+1<line.length
  .exact zB F O (q:=true) (λs l=>ht true (by rw[zqk];sleep 136) _ _ _ (.Name "" ⟨0,0,0,0⟩) s ⋯ ⋯ l) (((v 8).s (loc:=c) (fs:=sioF line p) ⋯ ⋯).1)
  .have e:(line.length:Int)=(p:Int)+1:=by sleep 92
   have Z:c=G:=by show [_,_,_,_]=_;rw[e]
   refine zB F O (q:=false) (λs l=>ht false (by rw[zql];sleep 137) _ _ _ (.Name "" ⟨0,0,0,0⟩) s ⋯ ⋯ l) ?_;rw[Z];exact st_nil
 refine zm F (c1:=cI G [] [] x C dx (sioF line (p+1))) ((v 8).o ⋯ ⋯).1 ?_;rw[<-zoe u];refine zcr O λs l=>?_;refine zdN O l.tbm (ev_addStr O l.tbm (zdN O l.tbm ((f 3).e ⋯ ⋯ s l) (λs' a=>zY ((f 3).e ⋯ ⋯ s' (l.aft O a))) (λs' a=>zY ((f 3).e ⋯ ⋯ s' (l.aft O a))) (by unfold sizeLine;sleep 124)) (λ_ _=>ev_str) ?_) (λ_ _=>zay) (λs' a=>zY ((D 4).e ⋯ s' (l.aft O a))) ?_
 .rw [zkB u];show 1+1<=sizeLine;decide
 .rw [zkB u];show 2<=sizeLine;decide
end
section
variable {c c':Ctx}{s s':Shared}{n:Nat}{K:Frag}{C x dx fa fi fc:Addr}{fd fdc:FuncData}
theorem zji (O:X.Ok) (B:Blt X) (I:zF K C sioN) (b:K.In X.kk) (y:A.handled=none) (v:FnAt X fi (zA (stm 12)) (zG (stm 12)) (zd (stm 12))) (z:Top1 X "_index" (.ref fi)) (a:Top1 X "type" (.type "type")) (w:za9 X K C "_StringIO__check" fc fdc 18 "__check")
  (i:∀us:List Value,us.length=1->PK K (bindArgs fdc ⟨us,[]⟩) ((zA (zo 18 "__check")).zip us)){line:Str}{p:Nat}(D:p=line.length) (E:line.length<=100000) :
  zS X A (n+2) (zd (zo 18 "read")) (zA (zo 18 "read")) [ptr x,.int 1] [(x,.inst C dx (sioF line p))] (zG (zo 18 "read")) (.ret (.str "")) [(x,.inst C dx (sioF line p))]:=zS.of λG env mu' fr' R j M F N H=>by
 rw[y] at j;have J:=λm=>sound (mu:=mu') O B (zai (k:=n+2)) R j F.toStat m;have f:=sndE (nm:=sioN) (mu:=mu') (pre:=[]) (post:=[]) (x:=x) (dx:=dx) O R F.toStat I b ⋯ (λh=>absurd h (by ext));have r:=sndS (nm:=sioN) (pre:=[]) (post:=[]) (x:=x) (dx:=dx) O R F I b ⋯ (λh=>absurd h (by ext)) (H _ (by simp[owns,Own.ads]));have c:∀{loc:Fds}{fs:Fds},(cI loc [] [] x C dx fs).own=[]++[(x,Own.inst C dx fs)]++[]:=rfl;show StO X G env mu' fr' (cI [("self",ptr x),("size",.int 1)] [] [] x C dx (sioF line p)) _ _ _;let u:Fds:=[("self",ptr x),("size",.int 1)];let L:Fds:=[("self",ptr x),("size",.int 1),("start",.int p)];let g:Fds:=[("self",ptr x),("size",.int 1),("start",.int p),("stop",.int line.length)];refine zm F (c1:=cI u [] [] x C dx (sioF line p)) ((r 8).o ⋯ ⋯).1 ?_;refine zm F (c1:=cI u [] [] x C dx (sioF line p)) (zj F O (d:=.int 1) ⋯ ⋯ λs l=>zU F.toStat O l (ds:=[.int 1,.str "StringIO.read of a size that is no exact int"]) ⋯ (by ext) z (zcE v) ⋯ rfl (zc l.tbm ⋯ ((f 3).e ⋯ ⋯ s l) λ_ _=>zc l.tbm ⋯ ev_str λ_ _=>evs_nil) (zi8 O R v rfl (zeA O B a j))) ?_;refine zm F (c1:=cI u [] [] x C dx (sioF line p)) (zaq F.toStat O (d:=.none) ⋯ ⋯ (ze4 O I b w (ds:=[]) (fs:=sioF line p) (dx:=dx) c (by simp[cI]) ⋯ ⋯ ⋯ ⋯ rfl (by ext) (λs l=>(f 3).e ⋯ ⋯ s l) (λs l=>evs_nil) (zie O b R w (λus h=>i us h) (.inr ⟨rfl,rfl⟩) (zeB O I b)))) ?_;refine zm F (c1:=cI L [] [] x C dx (sioF line p)) ((r 8).o ⋯ ⋯).1 ?_;refine zm F (c1:=cI g [] [] x C dx (sioF line p)) (zj F O (d:=.int line.length) ⋯ ⋯ λs l=>zU F.toStat O l (ds:=[.str line]) ⋯ (by ext) B.len (.builtin _) ⋯ rfl (zc l.tbm ⋯ ((f 3).e ⋯ ⋯ s l) λ_ _=>evs_nil) (zdU (by sleep 126))) ?_;refine⟨cI g [] [] x C dx (sioF line p),zI (by intro q;cases q) (zB F O (q:=true) (λs l=>by refine(sndT O R f 6).t (loc:=g) (fs:=sioF line p) ?_ ⋯ s l;show some (decide _)=_;rw[zqk];lia) ((r 8).s (loc:=g) (fs:=sioF line p) ⋯ ⋯).1),rfl⟩
end
section
variable {c c':Ctx}{s s':Shared}{n:Nat}
theorem zaX (O:X.Ok){t:Expr}{body:List Stmt}{p:Pos}{f:Fl}{J:Nat->Ctx->Prop}{m0:Nat}(b:J m0 c) (a:∀m c1,J m c1->zm7 X A env mu fr J t body f c' m c1):St1 X A env mu fr c (.While t body [] p) f c':=λs l E Q d _=>
 wpAny_While (zjt O b a s l _ λe s' g l' h=>d e s' g l' h)
end
section
variable {sc sc':Scope}{c c':Ctx}{s s':Shared}{n:Nat}{K:Frag}{C x dx fa fg pp:Addr}{fd:FuncData}{body:List Stmt}{ps:List Str}{us:List Value}{d:PyData}{ds:List PyData}{ow ow' pre post:List (Addr×Own)}{f:Fl}{a:Args}{names:List Str}
structure zm9 (X:Wd) (K:Frag) (C:Addr) (m:Str) (pp fg:Addr) (fd:FuncData) (body:List Stmt) (sc:Scope):Prop where
 find:findIn K (.ref C) m=some (some (.ref pp))
 get:specialIn K (.ref pp) "__get__"=some (some (.builtin "property.__get__"))
 takes:takesIn K (.ref pp)=some true
 rec_:∃rest,recIn K pp "property"=some (.ref fg::rest)
 fn:FnB X K fg fd body sc
 bind:∀v,PK K (bindArgs fd ⟨[v],[]⟩) [("self",v)]
theorem Aft.in1 {s':Shared}:Aft X A.in1 s s'↔Aft X A s s':=⟨λa=>⟨a.keep,a.os,a.gens,a.size,a.toks,a.live⟩,λa=>⟨a.keep,a.os,a.gens,a.size,a.toks,a.live⟩⟩
theorem zoH (O:X.Ok) (o:K.In X.kk) (R:Rm (n+3) A) (S:Stat X env sc) (i:sc.names.lookup ("self":Str)=some .local) (I:zF K C names) (q:("_punctuation_chars":Str)∈names) (P:zm9 X K C "punctuation_chars" pp fg fd (zG (zo 28 "punctuation_chars")) (zd (zo 28 "punctuation_chars"))):zdZ X A env sc mu pre post x C dx:=λloc fs d L p z B s l E Q h=>by
 rw[arm_eval_Attribute];refine wpB ?_;rw[zab ⋯];refine zf S l i (by ext) B _ _ λv c e j=>?_;cases j;have b:=l.aft O e;have D:(x,Own.inst C dx fs)∈(cI loc pre post x C dx fs).own:=by simp[cI]
 obtain⟨es,M,N,T,U,G⟩:=zc7 b D;have t:=zJ o b.stay;obtain⟨V,r,_⟩:=I.cd;refine wpB (zqI (wpB (zpS ?_)));refine get_bind t G I.hga (findObj_data (by rw[r];rfl) P.find P.get P.takes) I.hgt ?_;have l₂:=b.aft O (.tok (Nat.succ c.toks));refine zqY (prop_get (s:={c with toks:=c.toks+1}) t P.rec_.choose_spec ?_);have w:OwnOk X A mu [(x,Own.inst C dx fs)] {c with toks:=c.toks+1}:=(b.aft O (.tok _)).lend (pre:=pre) (post:=post) (by show pre++(x,_)::post=_;simp);refine zkK (a:=⟨[.ref x],[]⟩) (n:=n+1) (A:=A.in1) (s:={c with toks:=c.toks+1}) (mu:=mu) (ow:=[(x,.inst C dx fs)]) (ds:=[ptr x]) (ps:=["self"]) (us:=[.ref x]) (d:=d) (f:=.ret d) O o R.in1 P.fn (P.bind _) (by intro y H;cases List.mem_singleton.mp H;exact .inl ⋯) (by simp) (.inl rfl) (λJ k mu' fr' W Y Z F=>?_) b.stay ⟨Nat.lt_succ_of_lt b.tk.tk,b.tk.tb⟩ b.frs.to ⟨b.tbm.tb,b.tbm.fs⟩ b.low (.cons (.ptr x) .nil) ⟨w.is_,w.nd,w.mu⟩ λv u m g=>?_
 .show StO X J k mu' fr' (cI [("self",ptr x)] [] [] x C dx fs) _ _ _;refine zcr O λs l=>?_;exact ze5 (C:=C) (dx:=dx) (fs:=fs) F.toStat O I o l ⋯ (by ext) ⋯ (by simp[cI]) q z
 .refine handed_on (zfB g) (wpB (zpR (zpR (h v _ ((e.trans (.tok _)).trans (Aft.in1.mp m)) g))))
end
noncomputable def rtS:List Stmt:=zG (zo 28 "read_token")
set_option backward.match.sparseCases false in
noncomputable def zmI:List Stmt:=match rtS[2]? with
 | some (Stmt.While _ b _ _)=>b
 | _=>[]
noncomputable def zmH:List Stmt:=zmI.drop 1
noncomputable def rtTail:List Stmt:=rtS.drop 3
noncomputable def rtSc:Scope:=zd (zo 28 "read_token")
noncomputable def lexR:List Str:=["*","state","debug","token","quotes","posix","escape","whitespace","commenters","escapedquotes","whitespace_split","wordchars","lineno"]
noncomputable def lexN:List Str:=["state","debug","token","_punctuation_chars","quotes","posix","escape","whitespace","commenters","escapedquotes","whitespace_split","wordchars","instream","infile","eof","pushback","lineno","filestack","source"]
noncomputable def lexW:Str:=⟨#[97,98,99,100,102,101,103,104,105,106,107,108,109,110,111,112,113,114,115,116,117,118,119,120,121,122,65,66,67,68,69,70,71,72,73,74,75,76,77,78,79,80,81,82,83,84,85,86,87,88,89,90,48,49,50,51,52,53,54,55,56,57,95,223,224,225,226,227,228,229,230,231,232,233,234,235,236,237,238,239,240,241,242,243,244,245,246,248,249,250,251,252,253,254,255,192,193,194,195,196,197,198,199,200,201,202,203,204,205,206,207,208,209,210,211,212,213,214,216,217,218,219,220,221,222]⟩
noncomputable def lexF (y q1 q2:Addr) (st tok:PyData) (ln:Int):Fds:=[("instream",ptr y),("infile",.none),("posix",.bool true),("eof",.none),("commenters",.str ""),("wordchars",.str lexW),("whitespace",.str " \t\r\n"),("whitespace_split",.bool true),("quotes",.str "'\""),("escape",.str "\\"),("escapedquotes",.str "\""),("state",st),("pushback",ptr q1),("lineno",.int ln),("debug",.int 0),("token",tok),("filestack",ptr q2),("source",.none),("_punctuation_chars",.str "")]
noncomputable abbrev turn (loc fs:Fds) (ch:Str):Option (Fl×Fds×Fds):=ixS rtSc lexR 40 (setL loc "nextchar" (.str ch)) fs zmH
noncomputable def zlV:List Nat->Str
 | []=>""
 | c::_=>oneS c
noncomputable def goes:Fl->Option Bool
 | .brk=>some false
 | .next=>some true
 | .cont=>some true
 | _=>none
theorem zfY {f:Fl}{b:Bool}(h:goes f=some b):(b=true->f=.next\/f=.cont)/\(b=false->f=.brk):=by
 cases f with
 | next=>exact zr h ⟨λ_=>.inl rfl,nofun⟩
 | cont=>exact zr h ⟨λ_=>.inr rfl,nofun⟩
 | brk=>exact zr h ⟨nofun,λ_=>rfl⟩
 | _=>exact zg h
noncomputable def readW:Nat->Fds->Fds->List Nat->Option (Fds×Fds×List Nat)
 | 0,_,_,_=>none
 | n+1,loc,fs,inp=>(turn loc fs (zlV inp)).bind λq=>(goes q.1).bind λb=>bif b then readW n q.2.1 q.2.2 inp.tail else some (q.2.1,q.2.2,inp.tail)
noncomputable def retO:Fl->Option PyData
 | .ret d=>some d
 | _=>none
theorem zjT {f:Fl}{d:PyData}(h:retO f=some d):f=.ret d:=by cases f<;>first|exact zg h|exact congrArg _ (zqr h)
noncomputable def tokD (x:Addr) (fs:Fds) (inp:List Nat):Option (PyData×Fds×List Nat):=
 (readW 400 [("self",ptr x),("quoted",.bool false),("escapedstate",.str " ")] fs inp).bind λq=>(ixS rtSc lexR 40 q.1 q.2.1 rtTail).bind λr=>(retO r.1).map λd=>(d,r.2.2,q.2.2)
noncomputable def cpsL (x:Str):List Nat:=x.cps.toList
structure zbz (w q:Str):Prop where
 sp:∀(x y q1 q2:Addr) (ln:Int) (r:List Nat),tokD x (lexF y q1 q2 (.str " ") (.str "") ln) (cpsL q++32::r)=some (.str w,lexF y q1 q2 (.str " ") (.str "") ln,r)
 en:∀(x y q1 q2:Addr) (ln:Int),tokD x (lexF y q1 q2 (.str " ") (.str "") ln) (cpsL q++[])=some (.str w,lexF y q1 q2 .none (.str "") ln,[])
 good:good (.str w)=true
 qt:∃b,(w.length≠0->zcg w=some b)/\quoteD w b=q
 ql:q.length<=60
 wl:w.length<=60
 rl:(Txt.replace w "'" "'\"'\"'").length<=60
theorem zaC {b:Bool}{W:List Str}(f:∀(x y q1 q2:Addr) (a:Int) (r:List Nat),(W.map λw=>tokD x (lexF y q1 q2 (.str " ") (.str "") a) (cpsL (quoteD w b)++32::r))=W.map λw=>some (.str w,lexF y q1 q2 (.str " ") (.str "") a,r))
  (h:∀(x y q1 q2:Addr) (a:Int),(W.map λw=>tokD x (lexF y q1 q2 (.str " ") (.str "") a) (cpsL (quoteD w b)++[]))=W.map λw=>some (.str w,lexF y q1 q2 .none (.str "") a,[]))
  (i:(W.all λw=>good (.str w)&&(zcg w==some b&&(decide ((quoteD w b).length<=60)&&(decide (w.length<=60)&&decide ((Txt.replace w "'" "'\"'\"'").length<=60)))))=true):∀w∈W,∃q,zbz w q:=λw m=>
 have g:=zqc.mp (zqb.mp i w m);have c:=zqc.mp g.2;have d:=zqc.mp c.2;have e:=zqc.mp d.2
 ⟨quoteD w b,λx y q1 q2 a r=>List.map_inj_left.mp (f x y q1 q2 a r) w m,λx y q1 q2 a=>List.map_inj_left.mp (h x y q1 q2 a) w m,g.1,⟨b,λ_=>eq_of_beq c.1,rfl⟩,zqj d.1,zqj e.1,zqj e.2⟩
theorem zaU {P:Str->Prop}{l m:List Str}(h:∀w∈l,P w) (h':∀w∈m,P w):∀w∈l++m,P w:=λw q=>(zpE.mp q).elim (h w) (h' w)
noncomputable def W0:List Str:="257 \"a\" it is"::"257 \"b\"\"c\" it is"::"257 \"d e\" it is"::[]
theorem znm:∀w∈W0,∃q,zbz w q:=zaC (b:=true) (λ_ _ _ _ _ _=>∅) (λ_ _ _ _ _=>∅) (by decide +kernel)
noncomputable def W1:List Str:="257 \"it's\" it is"::"257 \"\" it is"::"250 \"a\" it is"::[]
theorem znl:∀w∈W1,∃q,zbz w q:=zaC (b:=true) (λ_ _ _ _ _ _=>∅) (λ_ _ _ _ _=>∅) (by decide +kernel)
noncomputable def W2:List Str:="250 \"b\"\"c\" it is"::"250 \"d e\" it is"::"250 \"it's\" it is"::[]
theorem znk:∀w∈W2,∃q,zbz w q:=zaC (b:=true) (λ_ _ _ _ _ _=>∅) (λ_ _ _ _ _=>∅) (by decide +kernel)
noncomputable def W3:List Str:="250 \"\" it is"::"257 it is"::"229 go (|||20|)"::[]
theorem znj:∀w∈W3,∃q,zbz w q:=zaC (b:=true) (λ_ _ _ _ _ _=>∅) (λ_ _ _ _ _=>∅) (by decide +kernel)
noncomputable def W4:List Str:="229 go (|||21|)"::"229 go (|||20)"::"229 go (|||21)"::[]
theorem zni:∀w∈W4,∃q,zbz w q:=zaC (b:=true) (λ_ _ _ _ _ _=>∅) (λ_ _ _ _ _=>∅) (by decide +kernel)
noncomputable def W5:List Str:="b\"c"::"d e"::"it's"::[]
theorem znh:∀w∈W5,∃q,zbz w q:=zaC (b:=true) (λ_ _ _ _ _ _=>∅) (λ_ _ _ _ _=>∅) (by decide +kernel)
noncomputable def W6:List Str:="h 20"::"h 21"::[]
theorem zng:∀w∈W6,∃q,zbz w q:=zaC (b:=true) (λ_ _ _ _ _ _=>∅) (λ_ _ _ _ _=>∅) (by decide +kernel)
noncomputable def W7:List Str:="a"::""::"-"::"-16"::"-15"::"-14"::"-13"::"-12"::"-11"::[]
theorem znf:∀w∈W7,∃q,zbz w q:=zaC (b:=false) (λ_ _ _ _ _ _=>∅) (λ_ _ _ _ _=>∅) (by decide +kernel)
noncomputable def W8:List Str:="-10"::"-9"::"-8"::"-7"::"-6"::"-5"::"-4"::"-3"::"-2"::[]
theorem zne:∀w∈W8,∃q,zbz w q:=zaC (b:=false) (λ_ _ _ _ _ _=>∅) (λ_ _ _ _ _=>∅) (by decide +kernel)
noncomputable def W9:List Str:="-1"::"0"::"1"::"2"::"3"::"4"::"5"::"6"::"7"::[]
theorem znd:∀w∈W9,∃q,zbz w q:=zaC (b:=false) (λ_ _ _ _ _ _=>∅) (λ_ _ _ _ _=>∅) (by decide +kernel)
noncomputable def W10:List Str:="8"::"9"::"10"::"11"::"12"::"13"::"14"::"15"::"16"::[]
theorem zlb:∀w∈W10,∃q,zbz w q:=zaC (b:=false) (λ_ _ _ _ _ _=>∅) (λ_ _ _ _ _=>∅) (by decide +kernel)
noncomputable def allW:List Str:=W0++W1++W2++W3++W4++W5++W6++W7++W8++W9++W10
theorem zik:∀w∈allW,∃q,zbz w q:=zaU (zaU (zaU (zaU (zaU (zaU (zaU (zaU (zaU (zaU znm znl) znk) znj) zni) znh) zng) znf) zne) znd) zlb
structure LexIn (X:Wd) (K:Frag) (C Cy:Addr) (fi fc fr pp fg:Addr) (fdc fdr fdg:FuncData):Prop where
 lex:zF K C lexN
 star:zF K C lexR
 sio:zF K Cy sioN
 prop:zm9 X K C "punctuation_chars" pp fg fdg (zG (zo 28 "punctuation_chars")) (zd (zo 28 "punctuation_chars"))
 index:FnAt X fi (zA (stm 12)) (zG (stm 12)) (zd (stm 12))
 indexT:Top1 X "_index" (.ref fi)
 type:Top1 X "type" (.type "type")
 check:za9 X K Cy "_StringIO__check" fc fdc 18 "__check"
 checkB:∀us:List Value,us.length=1->PK K (bindArgs fdc ⟨us,[]⟩) ((zA (zo 18 "__check")).zip us)
 read:za9 X K Cy "read" fr fdr 18 "read"
 readB:∀us:List Value,us.length=2->PK K (bindArgs fdr ⟨us,[]⟩) ((zA (zo 18 "read")).zip us)
section
variable {c c':Ctx}{s s':Shared}{n:Nat}{K:Frag}{C Cy x dx y dy fi fc fR pp fg:Addr}{fdc fdr fdg:FuncData}{line:Str}{loc fs:Fds}{inp:List Nat}
noncomputable abbrev ctxR (line:Str) (x C dx y Cy dy:Addr) (loc fs:Fds) (inp:List Nat):Ctx:=cI loc [] [(y,.inst Cy dy (sioF line (line.length - inp.length)))] x C dx fs
structure RdOk (x y:Addr) (c:Fds×Fds):Prop where
 self:c.1.lookup ("self":Str)=some (ptr x)
 ins:c.2.lookup ("instream":Str)=some (ptr y)
 pun:c.2.lookup ("_punctuation_chars":Str)=some (.str "")
theorem znE:GKeep (RdOk x y) (opsI rtSc lexR):=
 have a:=zoQ (sc:=rtSc) (nm:=lexR) (g:="instream") (d:=ptr y) (by ext);have b:=zoQ (sc:=rtSc) (nm:=lexR) (g:="_punctuation_chars") (d:=.str "") (by ext);have c:=znZ (sc:=rtSc) (nm:=lexR) (x:=x)
 ⟨λh i=>⟨c.set h i.self,a.set h i.ins,b.set h i.pun⟩,λh i=>⟨c.setF h i.self,a.setF h i.ins,b.setF h i.pun⟩,λh i=>⟨c.aug h i.self,a.aug h i.ins,b.aug h i.pun⟩,λh i=>⟨c.augF h i.self,a.augF h i.ins,b.augF h i.pun⟩⟩
theorem zdb {loc fs:Fds}{ch:Str}{q:Fl×Fds×Fds}(h:turn loc fs ch=some q) (i:RdOk x y (loc,fs)):RdOk x y q.2:=
 (gkeep znE 40).s h ⟨by rw[zk,if_neg (by ext)];exact i.self,i.ins,i.pun⟩
theorem ziz {L:List Nat}{r:Fds×Fds×List Nat}:∀{n:Nat}{loc fs:Fds}{a:List Nat},readW n loc fs a=some r->a <:+ L->RdOk x y (loc,fs)->RdOk x y (r.1,r.2.1)/\r.2.2 <:+ L:=by
 intro n
 induction n with
 | zero=>exact λh=>zg h
 | succ n e=>
  exact λh c i=>zi h λq d h=>zi h λb _ h=>zb3 h (λ_ h=>e h ((List.tail_suffix _).trans c) (zdb d i)) λ_ h=>zr h ⟨zdb d i,(List.tail_suffix _).trans c⟩
theorem zlt (O:X.Ok) (B:Blt X) (L:LexIn X K C Cy fi fc fR pp fg fdc fdr fdg) (e:K.In X.kk) (R:Rm (n+4) A) (m:A.handled=none) (F:Frm X A env rtSc mu fr) (o:∀b∈[y,dy],b∈fr) (p:zdZ X A env rtSc mu [] [(y,.inst Cy dy (sioF line (line.length - inp.length)))] x C dx) (j:line.length<=100000) (i:RdOk x y (loc,fs)) (t:inp <:+ line.cps.toList){f:Fl}{c2:Ctx}
  (v:St X A env mu fr (ctxR line x C dx y Cy dy (setL loc "nextchar" (.str (zlV inp))) fs inp.tail) zmH f c2):St X A env mu fr (ctxR line x C dx y Cy dy loc fs inp) zmI f c2:=by
 have w:ClO X A mu (.ref fR) [ptr y,.int 1] (.str (zlV inp)) [(y,.inst Cy dy (sioF line (line.length - inp.length)))] [(y,.inst Cy dy (sioF line (line.length - inp.tail.length)))]:=by
  cases inp with
  | nil=>exact zgj (n:=n+3) O e R L.read (λus h=>L.readB us h) (.inl rfl) (zji (n:=n+1) O B L.sio e m L.index L.indexT L.type L.check L.checkB rfl j) rfl
  | cons ch r=>
   obtain⟨pre,d⟩:=t;have k:line.length=pre.length+(r.length+1):=(Array.length_toList.symm.trans (congrArg List.length d).symm).trans zqq;rw[show line.length - (ch::r).length=pre.length from by rw[k];exact Nat.add_sub_cancel ..,show line.length - (ch::r).tail.length=pre.length+1 from by rw[k];show pre.length+(r.length+1) - r.length=_;sleep 97];exact zgj (n:=n+3) O e R L.read (λus h=>L.readB us h) (.inl rfl) (zjj (n:=n+1) O B L.sio e m L.index L.indexT L.type L.check L.checkB (by rw[<-d];simp) j) rfl
 show (_:List Stmt->_->_->Prop) (_::_) _ _;refine ze F (c':=ctxR line x C dx y Cy dy (setL loc "nextchar" (.str (zlV inp))) fs inp.tail) (zB F O (q:=false) (λs l=>zbQ (zaj (a:=false) (zaN ⋯ (p loc fs _ _ _ i.pun i.self s l) λu s' z=>zla ⋯ z) (λ_ _=>rfl) nofun λg=>absurd ⟨rfl,rfl⟩ g)) (ze F ?_ st_nil)) v;refine zbb F O ⋯ ⋯ (ze3 (c:=ctxR line x C dx y Cy dy loc fs inp) (pre:=[(x,.inst C dx fs)]) (post:=[]) (ds:=[.int 1]) (x:=y) (C:=Cy) (dx:=dy) (fs:=sioF line (line.length - inp.length)) O L.sio e L.read ⋯ (.tail _ (.head _)) ⋯ ⋯ ⋯ ⋯ rfl (by ext) (λs l=>?_) (λs l=>zc l.tbm ⋯ ev_int λ_ _=>evs_nil) w rfl o);exact ze5 (C:=C) (dx:=dx) (fs:=fs) F.toStat O L.lex e l ⋯ (by ext) i.self own_cI (by ext) i.ins
inductive RtI (line:Str) (x C dx y Cy dy:Addr) (q:Fds×Fds×List Nat) (m:Nat) (c:Ctx):Prop
 | mk (loc fs:Fds) (inp:List Nat) (e:c=ctxR line x C dx y Cy dy loc fs inp) (i:RdOk x y (loc,fs)) (e5:inp <:+ line.cps.toList) (e6:readW m loc fs inp=some q)
theorem zdY (O:X.Ok) (B:Blt X) (L:LexIn X K C Cy fi fc fR pp fg fdc fdr fdg) (p:K.In X.kk) (T:A.handled=none){t:PyData×Fds×List Nat}(v:fs.lookup ("instream":Str)=some (ptr y)) (w:fs.lookup ("_punctuation_chars":Str)=some (.str "")) (z:line.length<=100000) (E:f <:+ line.cps.toList)
  (h:tokD x fs f=some t) :
  zS X A (n+4) rtSc ["self"] [ptr x] [(x,.inst C dx fs),(y,.inst Cy dy (sioF line (line.length - f.length)))] rtS (.ret t.1) [(x,.inst C dx t.2.1),(y,.inst Cy dy (sioF line (line.length - t.2.2.length)))]:=zi h λq G h=>zi h λr U h=>mapX h λd hd=>zS.of λH env mu' fr' R I Y F Z M=>by
 rw[T] at I;have N:∀(post:List (Addr×Own)),zdZ X H env rtSc mu' [] post x C dx:=λpost=>zoH (n:=n+1) O p R F.toStat ⋯ L.lex (by ext) L.prop;have k:=λpost n=>sndS (nm:=lexR) (pre:=[]) (post:=post) (x:=x) (dx:=dx) O R F L.star p ⋯ (λ_=>N post) (M _ (.tail _ (.head _))) n;have P:RdOk x y ([("self",ptr x),("quoted",.bool false),("escapedstate",.str " ")],fs):=⟨⋯,v,w⟩;obtain⟨V,_⟩:=ziz G E P;let cx (loc fs:Fds) (f:List Nat):Ctx:=ctxR line x C dx y Cy dy loc fs f;show StO X H env mu' fr' (cx [("self",ptr x)] fs f) _ _ _;show (_:List Stmt->_->_->Prop) (_::_) _ _;refine zm F (c1:=cx [("self",ptr x),("quoted",.bool false)] fs f) ((k _ 8).o ⋯ ⋯).1 (zm F (c1:=cx _ fs f) ((k _ 8).o ⋯ ⋯).1 (zm F (c1:=cx q.1 q.2.1 q.2.2) (zaX O (J:=RtI line x C dx y Cy dy q) (m0:=400) ⟨_,fs,f,rfl,P,E,G⟩ λm c W=>?_) ?_))
 .obtain ⟨loc,fs1,inp1,rfl,i,e5,g⟩:=W;cases m with
  | zero=>exact zg g
  | succ m=>
   refine zi g λq1 j g=>zi g λb Q g=>?_;have S:=zlt (n:=n) O B L p R I F (λb m=>M b (.tail _ (.tail _ m))) (N _) z i e5 ((k _ 40).s j (by rw[zk,if_neg (by ext)];exact i.self)).1;exact zb3 g (λe g=>.go q1.1 (cx q1.2.1 q1.2.2 inp1.tail) m (λs l=>zaN (mu:=mu') ⋯ ev_bool λu s' D=>zla (a:=.bool true) ⋯ D) S ((zfY Q).1 e) (zpY _) ⟨_,_,_,rfl,zdb j i,(List.tail_suffix _).trans e5,g⟩)
    λe g=>zr g (.out q1.1 (λs l=>zaN (mu:=mu') ⋯ ev_bool λu s' D=>zla (a:=.bool true) ⋯ D) S (.inl ⟨(zfY Q).2 e,rfl⟩))
 .exact ⟨_,zjT hd▸((k _ 40).s U V.self).1,rfl⟩
theorem zd4 (O:X.Ok) (B:Blt X) (L:LexIn X K C Cy fi fc fR pp fg fdc fdr fdg) (f:K.In X.kk) (g:A.handled=none){fs':Fds}{d:PyData}{a:List Nat}(b:fs.lookup ("instream":Str)=some (ptr y)) (c:fs.lookup ("_punctuation_chars":Str)=some (.str "")) (e:line.length<=100000) (i:inp <:+ line.cps.toList)
  (h:tokD x fs inp=some (d,fs',a)) :
  zS X A (n+4) rtSc ["self"] [ptr x] [(x,.inst C dx fs),(y,.inst Cy dy (sioF line (line.length - inp.length)))] rtS (.ret d) [(x,.inst C dx fs'),(y,.inst Cy dy (sioF line (line.length - a.length)))]:=zdY O B L f g b c e i h
end
noncomputable def dqO:Obj:={cls:=.type "collections.deque",data:=.fields #[.none,.int 0 0]}
theorem zf6:typeLookup (.type "collections.deque") "__bool__"=pure none:=by rw[typeLookup_type,builtinLookup_eq_fast];kernel_rfl
theorem zh6:Slot "collections.deque" "__len__" "collections.deque.__len__":=
 .of (owner:="collections.deque") (n:="__len__") (by rw[typeLookup_type,builtinLookup_eq_fast];kernel_rfl) (by decide +kernel) (by decide +kernel) (by decide +kernel)
  (by first|exact .inl (by decide +kernel)|exact .inr (by decide +kernel)) (by rw[zqD];kernel_rfl)
theorem zf8:entryFor table "collections.deque.__len__"=some Builtin.«collections.deque.__len__»:=entryFor_of_tree ⋯
theorem zho (a:Value):argsOk "collections.deque.__len__" ⟨[a],[]⟩:=by unfold argsOk;kernel_rfl
theorem zf5:Slot "collections.deque" "__init__" "collections.deque.__init__":=
 .of (owner:="collections.deque") (n:="__init__") (by rw[typeLookup_type,builtinLookup_eq_fast];kernel_rfl) (by decide +kernel) (by decide +kernel) (by decide +kernel)
  (by first|exact .inl (by decide +kernel)|exact .inr (by decide +kernel)) (by rw[zqD];kernel_rfl)
theorem zmU:mroOf (.type "collections.deque")=pure [.type "collections.deque",.type "object"]:=by rw[mroOf_type];kernel_rfl
theorem ze9:typeLookup (.type "collections.deque") "__new__"=pure (some (.builtin "collections.deque.__new__")):=by rw[typeLookup_type,builtinLookup_eq_fast];kernel_rfl
theorem dq_called:TypeCalled "collections.deque" "collections.deque.__new__" "collections.deque.__init__":=
 ⟨by decide +kernel,by decide +kernel,⟨_,_,zmU⟩,madeBy_type zmU ze9 (by decide +kernel),by decide +kernel,by rw[zqD];kernel_rfl,zf5⟩
theorem dq_typeCall:checkTypeCall "collections.deque" ⟨[],[]⟩=pure ():=by rfl
theorem zi0:checkBuiltinCall "collections.deque.__new__" ⟨[.type "collections.deque"],[]⟩=pure ():=by kernel_rfl
theorem zf7:entryFor table "collections.deque.__new__"=some Builtin.«collections.deque.__new__»:=entryFor_of_tree ⋯
theorem dq_entry_init:entryFor table "collections.deque.__init__"=some Builtin.«collections.deque.__init__»:=entryFor_of_tree ⋯
theorem zf9 (a:Value):argsOk "collections.deque.__init__" ⟨[a],[]⟩:=by unfold argsOk;kernel_rfl
theorem zoX:isSubtype (.type "collections.deque") (.type "collections.deque")=pure true:=by rw[zqD];kernel_rfl
section
variable {prog:Program}{w:World}
theorem zhm {q:Addr}{Q:VP}(b:s.heap.get? q=some dqO) (h:Q (.int 0 (s.toks+1)) {s with toks:=s.toks+1+1}) :
  wpAny (model prog w) A (Builtin.«len» ⟨[.ref q],[]⟩) (λa s'=>∃r,a=.done (.ret r)/\Q r s') E s:=by
 have c:s.TypeIs (.ref q) "collections.deque":=⟨_,b,rfl⟩;unfold Builtin.«len»;refine wpB (m:=oneArg "len" _) (zpR ?_);refine wpB (m:=callSpecial? (.ref q) (Str.ofString "__len__")) (zq7 (name:=Str.ofString "__len__") c zh6 (zq8 zh6 c zf8 ?_ (zho _)));show wpAny _ _ (do retInt (<-Builtin.Deque.size (.ref q))) _ _ s;unfold Builtin.Deque.size;refine wpB (wpB (wpB (zq9 b (zpR (zpR ?_)))));refine wpB (wpAny_mkInt (zpR ⟨_,rfl,?_⟩));refine wpB (zpS (zpR ?_));refine wpB (wpAny_letGo ?_);exact wpB (wpAny_mkInt (zpR ⟨_,rfl,h⟩))
theorem zkw {q:Addr}{Q:Bool->Shared->Prop}(a:s.heap.get? q=some dqO) (h:Q false {s with toks:=s.toks+1+1}):wpAny (model prog w) A (truthy (.ref q)) Q E s:=by
 have b:s.TypeIs (.ref q) "collections.deque":=⟨_,a,rfl⟩;have key:wpAny (model prog w) A (runValue (.builtin "len" ⟨[.ref q],[]⟩)) (λr s'=>r=.int 0 (s.toks+1)/\Q false s') E s:=by
  refine wpAny_runValue (zp3 entry_len ?_);rw[zpV plain_len _];exact zp9 (zhm (Q:=λr s'=>r=.int 0 (s.toks+1)/\Q false s') a ⟨rfl,h⟩)
   (λc s' h'=>by rcases h' with ⟨r,rfl,a⟩;exact a) λ_ _ e=>e
 unfold truthy
 first
  | refine wpB (wpAny_callSpecial?_none (name:=Str.ofString "__bool__") b zf6 ?_)
  | refine wpB (zpR (wpB (wpAny_callSpecial?_none (name:=Str.ofString "__bool__") b zf6 ?_)))
 first
  | refine wpB (wpAny_specialOf (name:=Str.ofString "__len__") b zh6.lookup ?_)
  | refine wpB (zpR (wpB (wpAny_specialOf (name:=Str.ofString "__len__") b zh6.lookup ?_)))
 first
  | exact wpB (zp9 key (λr s' h'=>by rcases h' with ⟨rfl,a⟩;exact zpR a) λ_ _ e=>e)
  | exact wpB (zpR (wpB (zp9 key (λr s' h'=>by rcases h' with ⟨rfl,a⟩;exact zpR a) λ_ _ e=>e)))
theorem zhn {Q₁:VP}(h:Q₁ (.ref s.heap.objs.size) {s with heap:=s.heap.push dqO}) :
  codeAny (model prog w) A (.call (.builtin "collections.deque.__new__") ⟨[.type "collections.deque"],[]⟩) (wants Q₁ E) s:=by
 refine codeAny_call_builtin (by decide +kernel) zf7 (wpAny_of_eq zi0 ?_);unfold Builtin.«collections.deque.__new__» Builtin.Deque.newArgs Builtin.Deque.new;have a:isSubtype (Value.type "collections.deque") (Value.type Builtin.Deque.ty)=pure true:=zoX;obtain⟨b,g,d,tk,c⟩:=s;dsimp only
 wp_walk
 exact h
theorem zjd {Q:VP}(h:∀h',(∀b f,s.heap.get? b=some f->h'.get? b=some f)->h'.get? s.heap.objs.size=some dqO->s.heap.objs.size<=h'.objs.size->Q (.ref s.heap.objs.size) {s with heap:=h'}):wpAny (model prog w) A (call (.type "collections.deque") []) Q E s:=by
 refine callType_codes (Q₁:=λc a=>c=.ref s.heap.objs.size/\a={s with heap:=s.heap.push dqO}) dq_called dq_typeCall dq_entry_init (zhn ⟨rfl,rfl⟩) λc a i=>?_;have k:=i.1;have l:=i.2;clear i;subst k;subst l;have j:(s.heap.push dqO).get? s.heap.objs.size=some dqO:=zpG _ rfl;refine⟨⟨_,j,rfl⟩,zf9 _,?_⟩;unfold Builtin.«collections.deque.__init__»;have key:=h ((s.heap.push dqO).update s.heap.objs.size (Obj.mapFields λx=>x.setIfInBounds 0 Value.none)) (λb f e=>by
  rw[zp1 _ _ (Ne.symm (zqV (zpI e)))];exact Heap.get?_push_of_some _ e) (Heap.get?_update_self _ j rfl) (by rw[(Heap.SameBut.update _ _ _).1];simp[Heap.push])
 obtain⟨m,g,d,tk,n⟩:=s;dsimp only
 wp_walk
 exact⟨rfl,key⟩
end
noncomputable abbrev lexO (line:Str) (x C dx y Cy dy q1 q2:Addr) (fs:Fds) (inp:List Nat):List (Addr×Own):=[(x,.inst C dx fs),(y,.inst Cy dy (sioF line (line.length - inp.length))),(q1,.raw dqO),(q2,.raw dqO)]
section
variable {c c':Ctx}{s s':Shared}{n:Nat}{K:Frag}{C Cy x dx y dy q q1 q2 fi fc fR fT pp fg:Addr}{fdc fdr fdg fdt:FuncData}{line:Str}{fs:Fds}{names:List Str}{f:Str}
theorem zhG (S:Stat X env sc) (O:X.Ok) (I:zF K C names) (i:K.In X.kk) (l:Loc X A env mu c s){v:Str}{d p:Pos}(j:sc.names.lookup v=some .local) (hd:(v==("__debug__":Str))=false) (k:c.loc.lookup v=some (ptr x)) (m:(x,Own.inst C dx fs)∈c.own) (n:f∈names) (e:fs.lookup f=some (ptr q)) (o:(q,Own.raw dqO)∈c.own):Ts X A env (.Attribute (.Name v d) f p) false s:=λE Q h=>by
 have key:isTrue (.Attribute (.Name v d) f p) env (eval (.Attribute (.Name v d) f p) env)=(do let v <-eval (.Attribute (.Name v d) f p) env;standAt p;holding [v] (truthy v)):=rfl;rw[key];refine wpB (ze5 S O I i l j hd k m n e _ _ λu g a b=>?_);cases b;exact wpB (zqI (zpS (zkw ((l.aft O a).own _ o) (h _ (a.trans ((Aft.tok _).trans (.tok _)))))))
theorem zfv (O:X.Ok){t:Expr}{body:List Stmt}{p:Pos}{d:PyData}(a:∀s,Loc X A env mu c s->Ts X A env t true s) (b:St X A env mu fr c body (.ret d) c'):St1 X A env mu fr c (.While t body [] p) (.ret d) c':=λs l E Q e _=>
 wpAny_While ((zjt O (J:=λ_ c1=>c1=c) (m0:=0) (f:=.ret d) rfl λk c1 g=>by rw[g];exact .out (.ret d) a b (.inr ⟨d,rfl,rfl⟩)) s l _ λh s' i l' j=>e h s' i l' j)
theorem zfk (O:X.Ok) (B:Blt X) (L:LexIn X K C Cy fi fc fR pp fg fdc fdr fdg) (w:K.In X.kk) (P:A.handled=none) (Mt:za9 X K C "read_token" fT fdt 28 "read_token") (E:∀us:List Value,us.length=1->PK K (bindArgs fdt ⟨us,[]⟩) ((["self"]:List Str).zip us))
  {st k g f:PyData}{u j:Int}{d:PyData}{r a:List Nat}(G:line.length<=100000) (Q:r <:+ line.cps.toList) (h:tokD x (lexF y q1 q2 st k u) r=some (d,lexF y q1 q2 g f j,a)) (hd:d=.none\/∃t,d=.str t/\good (.str t)=true) :
  zS X A (n+5) (zd (zo 28 "get_token")) (zA (zo 28 "get_token")) [ptr x] (lexO line x C dx y Cy dy q1 q2 (lexF y q1 q2 st k u) r) (zG (zo 28 "get_token")) (.ret d) (lexO line x C dx y Cy dy q1 q2 (lexF y q1 q2 g f j) a):=zS.of λS env mu' fr' R H T F U I=>by
 rw[P] at H;let post (i:List Nat):List (Addr×Own):=[(y,.inst Cy dy (sioF line (line.length - i.length))),(q1,.raw dqO),(q2,.raw dqO)];have p:(zd (zo 28 "get_token")).names.lookup ("self":Str)=some .local:=by rfl
 have z:=λi=>sndE (nm:=lexN) (mu:=mu') (pre:=[]) (post:=post i) (x:=x) (dx:=dx) O R F.toStat L.lex w p λh=>absurd h (by ext);have M:=λi=>sndS (nm:=lexN) (pre:=[]) (post:=post i) (x:=x) (dx:=dx) O R F L.lex w p (λh=>absurd h (by ext)) (I _ (by simp[owns,Own.ads,lexO]));let cx (loc:Fds) (fs:Fds) (i:List Nat):Ctx:=cI loc [] (post i) x C dx fs;let D:Fds:=[("self",ptr x)];let v:Fds:=[("self",ptr x),("raw",d)];show StO X S env mu' fr' (cx D (lexF y q1 q2 st k u) r) _ _ _;show (_:List Stmt->_->_->Prop) (_::_) _ _;refine zm F (c1:=cx D (lexF y q1 q2 st k u) r) (zaq F.toStat O (d:=.str _) ⋯ ⋯ λs l=>ev_str) ?_;refine zm F (c1:=cx D (lexF y q1 q2 st k u) r) (zB F O (q:=false) (λs l=>zhG (C:=C) (dx:=dx) (fs:=lexF y q1 q2 st k u) (x:=x) F.toStat O L.lex w l p (by ext) ⋯ (by simp[cx,cI]) (by ext) ⋯ (by simp[cx,cI,post])) st_nil) ?_;refine zm F (c1:=cx v (lexF y q1 q2 g f j) a) (zbb F O ⋯ ⋯ (ze3 (c:=cx D (lexF y q1 q2 st k u) r) (pre:=[]) (ow:=[(x,.inst C dx (lexF y q1 q2 st k u)),(y,.inst Cy dy (sioF line (line.length - r.length)))]) (post:=[(q1,.raw dqO),(q2,.raw dqO)]) (ds:=[]) (x:=x) (C:=C) (dx:=dx) (fs:=lexF y q1 q2 st k u) O L.lex w Mt ⋯ (by simp[cx,cI]) ⋯ ⋯ ⋯ ⋯ rfl (by ext) (λs l=>(z _ 3).e ⋯ ⋯ s l) (λs l=>evs_nil)
  (zgj (n:=n+4) O w R Mt (λus h=>E us h) (.inl rfl) (zd4 (n:=n) (dx:=dx) (dy:=dy) O B L w H ⋯ ⋯ G Q h) ⋯) ⋯ λb N=>I b (by simp[owns,Own.ads,lexO] at N ⊢;rcases N with h|h|h|h<;>simp[h]))) ?_
 refine zm F (c1:=cx v (lexF y q1 q2 g f j) a) ((M _ 8).o ⋯ ⋯).1 ?_;rcases hd with rfl|⟨t,rfl,hg⟩
 .refine ⟨cx v (lexF y q1 q2 g f j) a,zI (by intro q;cases q) (zfv O (λs l=>(sndT O R (z a) 8).t (loc:=v) (fs:=lexF y q1 q2 g f j) ⋯ ⋯ s l) (zI (by intro q;cases q) (zB F O (q:=true) (λs l=>zmD (b:=false) (zhG (C:=C) (dx:=dx) (fs:=lexF y q1 q2 g f j) (x:=x) F.toStat O L.lex w l p (by ext) ⋯ (by simp[cx,cI]) (by ext) ⋯ (by simp[cx,cI,post]))) (zI (by intro q;cases q) (zeJ O λs l=>(z a 3).e ⋯ ⋯ s l))))),rfl⟩
 .refine zm F (c1:=cx v (lexF y q1 q2 g f j) a) (zaX O (J:=λm c1=>c1=cx v (lexF y q1 q2 g f j) a) (m0:=0) rfl λm c1 e=>.stop (λs l=>?_) e rfl) ?_
  .subst e;refine(sndT O R (z a) 8).t (loc:=v) (fs:=lexF y q1 q2 g f j) ?_ ⋯ s l;show (if good (.str t)=true/\good .none=true then some (PyData.eqv (.str t) .none) else none)=some false;rw[if_pos ⟨hg,⋯⟩];rfl
  refine zm F (c1:=cx v (lexF y q1 q2 g f j) a) ((M _ 8).o ⋯ ⋯).1 ?_;exact zcr O λs l=>(z a 3).e ⋯ ⋯ s l
end
noncomputable def zkf:List (PyData×PyData)->Bool
 | []=>false
 | p::r=>r.isEmpty&&(zbM p.1).isSome&&zbh p.2
theorem zfT {d:PyData}(h:zbh d=true):d=.none:=by
 cases d with
 | none=>rfl
 | _=>exact absurd h Bool.false_ne_true
theorem zg8 {l:List (PyData×PyData)}(h:zkf l=true):∃i,l=[(.int i,.none)]:=by
 cases l with
 | nil=>cases h
 | cons p r=>
  rw[zkf,Bool.and_eq_true,Bool.and_eq_true] at h;cases p with|mk a b=>
  rw[List.isEmpty_iff.mp h.1.1];obtain⟨i,e⟩:=zp6.mp h.1.2;have c:a=.int i:=zv e;have d:b=.none:=zfT h.2;exact⟨i,by rw[c,d]⟩
noncomputable def zbt:PyData->Bool
 | .list _=>false
 | .tuple _=>false
 | .dict l=>zkf l
 | _=>true
noncomputable def zhf:Own->Bool
 | .inst _ _ fs=>fs.all λp=>zbt p.2
 | .raw _=>true
 | .lst _=>false
theorem Rd.flat {h h':Heap}{v:Value}{d:PyData}(r:Rd h mu v d) (f:zbt d=true):Rd h' mu v d:=by
 cases d with
 | none=>cases r;exact .none
 | bool b=>cases r;exact .bool b
 | int i=>cases r;exact .int i _
 | str x=>cases r;exact .str x _
 | list xs=>cases f
 | tuple xs=>cases f
 | dict a=>
  obtain⟨i,rfl⟩:=zg8 f;cases r;exact .ptr _
theorem Flds.flat {h h':Heap}{es:List DictEntry}{fs:List (Str×PyData)}(x:Flds h mu es fs):(fs.all λp=>zbt p.2)=true->Flds h' mu es fs:=by
 induction x with
 | nil=>exact λ_=>.nil
 | cons r _ a=>
  intro f;rw[List.all_cons,Bool.and_eq_true] at f;exact .cons (r.flat f.1) (a f.2)
theorem zR.flat {h h':Heap}{x:Addr}{o:Own}(q:zR h mu x o) (f:zhf o=true) (k:∀b∈Own.ads (x,o),∀a,h.get? b=some a->h'.get? b=some a):zR h' mu x o:=by
 cases o with
 | lst xs=>cases f
 | raw o=>exact k x (by first|rfl|simp[Own.ads]) _ q
 | inst C dx fs=>rcases q with ⟨e,es,m,c,r⟩;exact⟨k x (by first|rfl|simp[Own.ads]) _ e,es,m,k dx (by first|rfl|simp[Own.ads]) _ c,r.flat f⟩
section
variable {sc sc':Scope}{c c':Ctx}{s s':Shared}{n:Nat}{K:Frag}{C Cy x dx y dy q1 q2 fa fi fc fR fT fG pp fg:Addr}{fd fdc fdr fdg fdt fdG:FuncData}{line:Str}{fs:Fds}{f:Fl}{d:PyData}{ds eds:List PyData}{ow ow':List (Addr×Own)}{body:List Stmt}{ps:List Str}{us:List Value}{a:Args}{cls:Value}{m:Str}
theorem zeL (O:X.Ok) (S:Stat X env sc) (n:A.handled=none){x:Str}{q p:Pos}(r:sc.names.lookup x=some .globalImplicit) (hd:(x==("__debug__":Str))=false) (T:Top1 X x (.type "StopIteration")):St1 X A env mu fr c (.Raise (some (.Name x q)) none p) (.exc (.type "StopIteration") []) c:=λs l E Q _ u=>by
 refine wpt (wpd (owsi_raiseC n (zw S O l.stay r hd T ⟨rfl,rfl⟩) λh' e d a _ f=>?_));obtain⟨t,i,v,j⟩:=d.there;have g:s.heap.get? e=none:=d.new;have h:s.heap.get? t=none:=v;have k:=a e _ g i;have w:=a t _ h j;have b:Aft X A s {s with heap:=h'}:=⟨.all d.keeps,rfl,id,f,zpB _,λo e=>⟨o,d.keeps _ _ e⟩⟩;exact u (.ref e) {s with heap:=h'} b.toL (l.aft O b) ⟨e,rfl,k,λm=>absurd (l.low _ m) (zpO.mpr k),_,_,t,[],0,i,rfl,rfl,rfl,j,λm=>absurd (l.low _ m) (zpO.mpr w),.nil,.inl rfl⟩
def ClOE (X:Wd) (A:Around) (mu:LA) (fv:Value) (ds:List PyData) (cls:Value) (eds:List PyData) (ow ow':List (Addr×Own)):Prop:=∀us (s:Shared) (E:VP) (Q:VP),X.kk.StaysIn s.heap->Rdy X s->Frs X A s.heap->Mu X A mu->Low mu s->Rds s.heap mu us ds->OwnOk X A mu ow s->
 (∀e s',AftL X A (owns ow) s s'->(∀p∈ow',zR s'.heap mu p.1 p.2)->(∀L,Fly s.heap mu L e cls eds s'.heap)->E (.ref e) s')->wpAny X.M A (call fv us) Q E s
theorem zkL (O:X.Ok) (KX:K.In X.kk) (R:Rm (n+1) A) (F:FnB X K fa fd body sc) (t:PK K (bindArgs fd a) (ps.zip us)) (g:∀x∈ps,sc.names.lookup x=some .local\/sc.names.lookup x=some .cell) (nd:ps.Nodup) (hB:zS X A n sc ps ds ow body (.exc cls eds) ow') (y:owns ow'=owns ow) (I:∀p∈ow',zhf p.2=true)
  (st:X.kk.StaysIn s.heap) (tk:Rdy X s) (z:Frs X A s.heap) (tm:Mu X A mu) (Y:Low mu s) (r:Rds s.heap mu us ds) (w:OwnOk X A mu ow s){E:VP}{Q:VP}
  (h:∀e s',AftL X A (owns ow) s s'->(∀p∈ow',zR s'.heap mu p.1 p.2)->(∀L,Fly s.heap mu L e cls eds s'.heap)->E (.ref e) s'):wpAny X.M A (call (.ref fa) a.pos a.kw) Q E s:=by
 refine zqY (za3 (a:=a) O KX R F t g nd st tk z tm Y r w λJ new Z N _ L=>?_);refine hB _ _ _ (owns ow++new) (R.deeper _) rfl L.inf (L.frO w) L.celO (λb m=>zpC _ m) _ L.loc _ _ (λf' s' _ hf=>False.elim hf) λv s' P f a0 hv hw=>?_;obtain⟨e,rfl,B⟩:=hv;obtain⟨i,j,C⟩:=z;have D:=zp2 (env:=J) j;rw[show J.locals=s.heap.objs.size from zqr (L.inf.at_.symm.trans L.frame)] at B;have u:AftL X A (owns ow) s s':=L.backO ⟨i,j,C⟩ P;refine zkk (h₀:=s.heap) D L.frame f (L.loc.low.aftL P) L.loc.tbm (B.since L.size) (zpF L.size P.size) λh' S T U=>?_;have G:=zap (A:=A) (e:=J) (L:=s.heap.objs.size) L.frame ⟨_,j⟩;have V:∀b o,b<s.heap.objs.size->b∉fsOf A->s'.heap.get? b=some o->h'.get? b=some o:=λb o c hn e=>by
  obtain⟨k,d,l⟩:=S.old b o c e;rw[d,l.ex];rw[G];intro m;rcases memC m with rfl|m
  .exact zpZ _ c
  .exact hn m
 refine h e {s' with heap:=h'} ⟨λb o t q=>?_,u.os,u.gens,zpF u.size U,u.toks,λo q=>?_⟩ (λp H=>?_) λL=>(T L).sub λb m=>zpw _ m
 .have c:=zpI q;obtain⟨o',W,r'⟩:=u.keep b o t q;obtain⟨k,d,l⟩:=S.old b o' c W;refine⟨k,d,r'.trans (l.imp id λm=>⟨?_,m.2⟩)⟩;replace m:=m.1;rw[G] at m;rcases memC m with rfl|m
  .exact absurd c (zpZ _)
  .exact m
 .obtain ⟨o',W⟩:=u.live o q;obtain⟨k,d,r⟩:=S.old X.tb o'.1 (zpI q) W;exact⟨o',zeH f r▸d⟩
 .refine ((hw p H).sub λb m=>zpw _ m).flat (I p H) λb t ob e=>V b ob ?_ ?_ e
  .exact Y b (w.mu b (y▸zu H t)).1
  .exact (w.mu b (y▸zu H t)).2.1
theorem zok (O:X.Ok) (e:K.In X.kk) (R:Rm (n+1) A) (M:zcn X K C m fa fd ps body sc') (f:∀us:List Value,us.length=ds.length->PK K (bindArgs fd ⟨us,[]⟩) (ps.zip us)) (g:zS X A n sc' ps ds ow body (.exc cls eds) ow') (b:owns ow'=owns ow) (c:∀p∈ow',zhf p.2=true):ClOE X A mu (.ref fa) ds cls eds ow ow':=
 λus _ _ _ st tk d i j r w h=>zkL (a:=⟨us,[]⟩) O e R M.fn (f us r.length) M.kinds M.nd g b c st tk d i j r w h
theorem FnAt.fnB (F:FnAt X fa ps body sc):∃(K:Frag) (fd:FuncData),K.In X.kk/\FnB X K fa fd body sc/\∀vs:List Value,vs.length=ps.length->PK K (bindArgs fd ⟨vs,[]⟩) (ps.zip vs):=by
 obtain⟨o,fd,b,c,d,f,g,i,j,k,l⟩:=F.ex;have e:List.lookup fa [(fa,o)]=some o:=by rw[List.lookup,zqG]
 refine⟨[(fa,o)],fd,λa o' q=>?_,⟨⟨o,e,c⟩,d,f,g,i,j,k,F.kind,F.co,F.gen⟩,λvs m S=>by rw[l vs m];rfl⟩
 by_cases h:a=fa
 .rw [h] at q ⊢;rw[e] at q;exact zr q b
 .rw [List.lookup,zpH.mpr h] at q;exact zg q
theorem zm1 (O:X.Ok) (R:Rm (n+1) A) (F:FnAt X fa ps body sc) (i:ds.length=ps.length) (j:zP X A n sc ps ds body (.exc cls eds)):ClE X A mu (.ref fa) ds cls eds:=λvs s E Q st tk d k m r h=>by
 obtain⟨K,fd,o,q,g⟩:=F.fnB;exact zkL (a:=⟨vs,[]⟩) (ow:=[]) (ow':=[]) O o R q (g vs (r.length.trans i)) F.kinds F.nd (λt env mu' fr' R u w F C _ s l E Q y z=>j t env mu' fr' R u w F C s l E Q (λB s' a D=>y B s' a D λp c=>nomatch c) λv s' a f st x=>z v s' a f st x λp c=>nomatch c) rfl (λp c=>nomatch c) st tk d k m r ⟨λp c=>(nomatch c),List.nodup_nil,λb g=>(nomatch g)⟩ λe s' a _ fl=>h e s' ⟨a.keep,a.os,a.gens,a.size,a.toks,a.live⟩ fl
end
noncomputable def zpp:PyData->Fl
 | .none=>.exc (.type "StopIteration") []
 | d=>.ret d
structure zgy (X:Wd) (K:Frag) (C Cy:Addr) (fi fc fR pp fg fT fG fN fI:Addr) (fdc fdr fdg fdt fdG fdN fdI:FuncData):Prop extends LexIn X K C Cy fi fc fR pp fg fdc fdr fdg where
 rt:za9 X K C "read_token" fT fdt 28 "read_token"
 rtB:∀us:List Value,us.length=1->PK K (bindArgs fdt ⟨us,[]⟩) ((["self"]:List Str).zip us)
 gt:za9 X K C "get_token" fG fdG 28 "get_token"
 gtB:∀us:List Value,us.length=1->PK K (bindArgs fdG ⟨us,[]⟩) ((["self"]:List Str).zip us)
 nx:za9 X K C "__next__" fN fdN 28 "__next__"
 nxB:∀us:List Value,us.length=1->PK K (bindArgs fdN ⟨us,[]⟩) ((["self"]:List Str).zip us)
 it:za9 X K C "__iter__" fI fdI 28 "__iter__"
 itB:∀us:List Value,us.length=1->PK K (bindArgs fdI ⟨us,[]⟩) ((["self"]:List Str).zip us)
 stop:Top1 X "StopIteration" (.type "StopIteration")
section
variable {c c':Ctx}{s s':Shared}{n:Nat}{K:Frag}{C Cy x dx y dy q1 q2 fi fc fR fT fG fN fI pp fg:Addr}{fdc fdr fdg fdt fdG fdN fdI:FuncData}{line:Str}{fs:Fds}
theorem zkP (O:X.Ok){ow:List (Addr×Own)}:zcL X A n (zd (zo 28 "__iter__")) (zA (zo 28 "__iter__")) [ptr x] ow (zG (zo 28 "__iter__")) (.ret (ptr x)):=λa env mu' fr' R b c F=>by
 show StO X a env mu' fr' ⟨[("self",ptr x)],[],ow⟩ _ _ _;show (_:List Stmt->_->_->Prop) (_::_) _ _;exact zcr O λs l=>zf F.toStat l ⋯ (by ext) ⋯
theorem zgp (O:X.Ok) (B:Blt X) (L:zgy X K C Cy fi fc fR pp fg fT fG fN fI fdc fdr fdg fdt fdG fdN fdI) (u:K.In X.kk) (E:A.handled=none)
  {st k g f:PyData}{p j:Int}{d:PyData}{m a:List Nat}(w:line.length<=100000) (G:m <:+ line.cps.toList) (h:tokD x (lexF y q1 q2 st k p) m=some (d,lexF y q1 q2 g f j,a)) (hd:d=.none\/∃t,d=.str t/\good (.str t)=true) :
  zS X A (n+6) (zd (zo 28 "__next__")) (zA (zo 28 "__next__")) [ptr x] (lexO line x C dx y Cy dy q1 q2 (lexF y q1 q2 st k p) m) (zG (zo 28 "__next__")) (zpp d) (lexO line x C dx y Cy dy q1 q2 (lexF y q1 q2 g f j) a):=zS.of λH env mu' fr' R z M F N I=>by
 rw[E] at z;let post (i:List Nat):List (Addr×Own):=[(y,.inst Cy dy (sioF line (line.length - i.length))),(q1,.raw dqO),(q2,.raw dqO)];have o:(zd (zo 28 "__next__")).names.lookup ("self":Str)=some .local:=by rfl
 have v:=λi=>sndE (nm:=lexN) (mu:=mu') (pre:=[]) (post:=post i) (x:=x) (dx:=dx) O R F.toStat L.lex u o λh=>absurd h (by ext);let cx (loc:Fds) (fs:Fds) (i:List Nat):Ctx:=cI loc [] (post i) x C dx fs;let D:Fds:=[("self",ptr x)];let r:Fds:=[("self",ptr x),("token",d)];show StO X H env mu' fr' (cx D (lexF y q1 q2 st k p) m) _ _ _;show (_:List Stmt->_->_->Prop) (_::_) _ _;refine zm F (c1:=cx r (lexF y q1 q2 g f j) a) (zbb F O ⋯ ⋯ (ze3 (c:=cx D (lexF y q1 q2 st k p) m) (pre:=[]) (ow:=lexO line x C dx y Cy dy q1 q2 (lexF y q1 q2 st k p) m) (post:=[]) (ds:=[]) (x:=x) (C:=C) (dx:=dx) (fs:=lexF y q1 q2 st k p) O L.lex u L.gt ⋯ (by simp[cx,cI]) ⋯ ⋯ ⋯ ⋯ rfl (by ext) (λs l=>(v _ 3).e ⋯ ⋯ s l) (λs l=>evs_nil)
  (zgj (n:=n+5) O u R L.gt (λus h=>L.gtB us h) (.inl rfl) (zfk (n:=n) (dx:=dx) (dy:=dy) O B L.toLexIn u z L.rt (λus h=>L.rtB us h) w G h hd) ⋯) ⋯ λb J=>I b J)) ?_
 rcases hd with rfl|⟨t,rfl,hg⟩
 .refine ⟨cx r (lexF y q1 q2 g f j) a,zI (by intro q;cases q) (zB F O (q:=true) (λs l=>(sndT O R (v a) 8).t (loc:=r) (fs:=lexF y q1 q2 g f j) ⋯ ⋯ s l) (zI (by intro q;cases q) (zeL O F.toStat z ⋯ (by ext) L.stop))),rfl⟩
 .refine zm F (c1:=cx r (lexF y q1 q2 g f j) a) (zB F O (q:=false) (λs l=>?_) st_nil) ?_
  .refine (sndT O R (v a) 8).t (loc:=r) (fs:=lexF y q1 q2 g f j) ?_ ⋯ s l;show (if good (.str t)=true/\good .none=true then some (PyData.eqv (.str t) .none) else none)=some false;rw[if_pos ⟨hg,⋯⟩];rfl
  exact zcr O λs l=>(v a 3).e ⋯ ⋯ s l
end
inductive Toks (x y q1 q2:Addr):PyData->PyData->Int->List Nat->List Str->PyData->PyData->Int->List Nat->Prop
 | done {st tok st' tok':PyData}{ln ln':Int}{inp rest:List Nat}:tokD x (lexF y q1 q2 st tok ln) inp=some (.none,lexF y q1 q2 st' tok' ln',rest)->rest <:+ inp->(zbt st'=true/\zbt tok'=true)->Toks x y q1 q2 st tok ln inp [] st' tok' ln' rest
 | more {st tok st1 tok1 st' tok':PyData}{ln ln1 ln':Int}{inp mid rest:List Nat}{t:Str}{ts:List Str}:tokD x (lexF y q1 q2 st tok ln) inp=some (.str t,lexF y q1 q2 st1 tok1 ln1,mid)->good (.str t)=true->mid <:+ inp->(zbt st1=true/\zbt tok1=true)->Toks x y q1 q2 st1 tok1 ln1 mid ts st' tok' ln' rest->Toks x y q1 q2 st tok ln inp (t::ts) st' tok' ln' rest
theorem zfP {y q1 q2 C dx:Addr}{a b:PyData}{c:Int}(d:zbt a=true) (e:zbt b=true):zhf (.inst C dx (lexF y q1 q2 a b c))=true:=by
 unfold zhf;simp only [lexF,List.all_cons,List.all_nil,d,e]
 rfl
section
variable {c c':Ctx}{s s':Shared}{n:Nat}{K:Frag}{C Cy x dx y dy q1 q2 fi fc fR fT fG fN fI pp fg:Addr}{fdc fdr fdg fdt fdG fdN fdI:FuncData}{line:Str}{fs:Fds}{ow ow':List (Addr×Own)}
structure Lent (X:Wd) (A:Around) (mu:LA) (ow:List (Addr×Own)) (s:Shared):Prop where
 st:X.kk.StaysIn s.heap
 tk:Rdy X s
 frs:Frs X A s.heap
 tm:Mu X A mu
 lw:Low mu s
 own:OwnOk X A mu ow s
theorem Lent.step (O:X.Ok) (l:Lent X A mu ow s)(a:AftL X A fr s s') (h:∀b∈fr,b∈owns ow\/s.heap.get? b=none) (u:∀p∈ow',zR s'.heap mu p.1 p.2) (d:owns ow'=owns ow):Lent X A mu ow' s':=by
 have c:∀b o,b≠X.tb->b∉owns ow->s.heap.get? b=some o->∃o',s'.heap.get? b=some o'/\zbA (fsOf A) b o o':=λb o g i e=>a.keep b o (λm=>by
  rcases memC m with rfl|m
  .exact g rfl
  .rcases h b m with m|m
   .exact i m
   .rw [m] at e;cases e) e
 refine⟨λb o e=>?_,⟨zpM l.tk.tk a.toks,let ⟨o,e⟩:=l.tk.tb;a.live o e⟩,?_,l.tm,λb m=>zpM (l.lw b m) a.size,⟨u,d▸l.own.nd,λb m=>?_⟩⟩
 .have hk:b≠X.tb:=by rintro rfl;rw[O.tb] at e;cases e
  obtain⟨o',j,r⟩:=c b o hk (λq=>by rw[(l.own.mu b q).2.2.2] at e;cases e) (l.st b o e);rw[j,r.ex λm=>by rw[(l.frs.none m).1] at e;cases e]
 .obtain⟨fl,g,i⟩:=l.frs;refine⟨fl,g,λk n=>?_⟩;obtain⟨q1,L,o,es,v,q2,w,t,x,y⟩:=i k n;have f:L∈fsOf A:=by unfold fsOf;rw[g];exact List.mem_filterMap.mpr ⟨k,n,q2⟩
  obtain⟨o',j,r⟩:=c L o t (λq=>(l.own.mu L q).2.1 f) x;exact⟨q1,L,o',es,v,q2,w,t,j,r.data.1.trans y⟩
 .exact l.own.mu b (d▸m)
theorem Lent.in1 (l:Lent X A mu ow s):Lent X A.in1 mu ow s:=⟨l.st,l.tk,l.frs.to,⟨l.tm.tb,l.tm.fs⟩,l.lw,⟨l.own.is_,l.own.nd,l.own.mu⟩⟩
theorem Lent.out1 (l:Lent X A.in1 mu ow s):Lent X A mu ow s:=⟨l.st,l.tk,l.frs.to,⟨l.tm.tb,l.tm.fs⟩,l.lw,⟨l.own.is_,l.own.nd,l.own.mu⟩⟩
theorem AftL.in1 :AftL X A.in1 fr s s'↔AftL X A fr s s':=⟨λa=>⟨a.keep,a.os,a.gens,a.size,a.toks,a.live⟩,λa=>⟨a.keep,a.os,a.gens,a.size,a.toks,a.live⟩⟩
theorem Lent.inst (l:Lent X A mu ow s) (h:(x,Own.inst C dx fs)∈ow):∃es m,Flds s.heap mu es fs/\InstAt s.heap x ⟨.ref C,some dx,.plain,#[]⟩ C (some (dictOf es m)):=by
 obtain⟨e,es,m,a,r⟩:=l.own.is_ _ h;exact⟨es,m,r,e,rfl,rfl,a⟩
theorem zj2 (O:X.Ok) (B:Blt X) (L:zgy X K C Cy fi fc fR pp fg fT fG fN fI fdc fdr fdg fdt fdG fdN fdI) (o:K.In X.kk) (R:Rm (n+7) A) (q:A.handled=none)
  {st c i e:PyData}{k j:Int}{t:Str}{d g:List Nat}(p:line.length<=100000) (r:d <:+ line.cps.toList) (h:tokD x (lexF y q1 q2 st c k) d=some (.str t,lexF y q1 q2 i e j,g)) (u:good (.str t)=true)
  (l:Lent X A mu (lexO line x C dx y Cy dy q1 q2 (lexF y q1 q2 st c k) d) s){Q:Option Value->Shared->Prop}
  (w:∀tk s',AftL X A (owns (lexO line x C dx y Cy dy q1 q2 (lexF y q1 q2 st c k) d)) s s'->Lent X A mu (lexO line x C dx y Cy dy q1 q2 (lexF y q1 q2 i e j) g) s'->Q (some (.str t tk)) s'):wpAny X.M A (pyNext (.ref x)) Q E s:=by
 obtain⟨es,m,_,z⟩:=l.inst (x:=x) (C:=C) (dx:=dx) (fs:=lexF y q1 q2 st c k) (by simp);unfold pyNext;refine wpB (wpAny_attempt (special_fn (name:="__next__") (args:=[]) (zJ o l.st) z L.nx.find L.nx.typ ?_));refine zgj (n:=n+6) (mu:=mu) (ds:=[ptr x]) O o R L.nx (λus h=>L.nxB us h) (f:=.ret (.str t)) (.inl rfl) (zgp (n:=n) (dx:=dx) (dy:=dy) O B L o q p r h (.inr ⟨t,rfl,u⟩)) ⋯ [.ref x] s _ _ l.st l.tk l.frs l.tm l.lw (.cons (.ptr x) .nil) l.own λv s' a D F=>?_;cases F;exact zpR (w _ s' a (l.step O a (λb m=>.inl m) D ⋯))
theorem zlD (O:X.Ok) (B:Blt X) (L:zgy X K C Cy fi fc fR pp fg fT fG fN fI fdc fdr fdg fdt fdG fdN fdI) (q:K.In X.kk) (R:Rm (n+7) A) (z:A.handled=none)
  {st d i c:PyData}{k j:Int}{f g:List Nat}(r:line.length<=100000) (D:f <:+ line.cps.toList) (h:tokD x (lexF y q1 q2 st d k) f=some (.none,lexF y q1 q2 i c j,g)) (v:zbt i=true/\zbt c=true)
  (l:Lent X A mu (lexO line x C dx y Cy dy q1 q2 (lexF y q1 q2 st d k) f) s){Q:Option Value->Shared->Prop}
  (F:∀s',AftL X A (owns (lexO line x C dx y Cy dy q1 q2 (lexF y q1 q2 st d k) f)) s s'->Lent X A mu (lexO line x C dx y Cy dy q1 q2 (lexF y q1 q2 i c j) g) s'->Q none s'):wpAny X.M A (pyNext (.ref x)) Q E s:=by
 obtain⟨es,m,_,G⟩:=l.inst (x:=x) (C:=C) (dx:=dx) (fs:=lexF y q1 q2 st d k) (by simp);unfold pyNext;refine wpB (wpAny_attempt (special_fn (name:="__next__") (args:=[]) (zJ q l.st) G L.nx.find L.nx.typ ?_));refine zok (n:=n+6) (mu:=mu) (ds:=[ptr x]) O q R L.nx (λus h=>L.nxB us h) (zgp (n:=n) (dx:=dx) (dy:=dy) O B L q z r D h (.inl rfl)) ⋯ (λp w=>?_) [.ref x] s _ _ l.st l.tk l.frs l.tm l.lw (.cons (.ptr x) .nil) l.own λe s' a H u=>?_
 .simp only [lexO,List.mem_cons,List.not_mem_nil,or_false] at w;rcases w with rfl|rfl|rfl|rfl
  .exact zfP v.1 v.2
  .rfl
  .rfl
  .rfl
 .obtain ⟨o,vs,t,us,mm,h1,h2,_⟩:=(u 0).ex;exact wpB (wpAny_isInstance (show ∃o,_/\_ from ⟨o,h1,h2⟩) owsi_facts.sub (by exact zpR (F s' a (l.step O a (λb m=>.inl m) H ⋯))))
end
def zox (vs:List Value) (ts:List Str):Prop:=∀h mu,Rds h mu vs (ts.map .str)
theorem zce {line:Str}{x C dx y e dy q1 q2:Addr}{a b:PyData}{f:Int}{c:List Nat}(h:zbt a=true/\zbt b=true):∀p∈lexO line x C dx y e dy q1 q2 (lexF y q1 q2 a b f) c,zhf p.2=true:=λp d=>by
 simp only [lexO,List.mem_cons,List.not_mem_nil,or_false] at d;rcases d with rfl|rfl|rfl|rfl
 .exact zfP h.1 h.2
 .rfl
 .rfl
 .rfl
section
variable {c c':Ctx}{s s':Shared}{n:Nat}{K:Frag}{C Cy x dx y dy q1 q2 fi fc fR fT fG fN fI pp fg S:Addr}{fdc fdr fdg fdt fdG fdN fdI:FuncData}{line:Str}{fs:Fds}{ow ow':List (Addr×Own)}
theorem Lent.list (O:X.Ok) (l:Lent X A mu ow s) (h:∀p∈ow,zhf p.2=true){h':Heap}(g:Heap.SameBut S s.heap h') (a:S∉mu) (r:S∉fsOf A) (t:X.kk.get? S=none){o':Obj}(u:h'.get? S=some o'):AftL X A [S] s {s with heap:=h'}/\Lent X A mu ow {s with heap:=h'}:=by
 have c:∀b o,b≠S->s.heap.get? b=some o->h'.get? b=some o:=λb o q e=>(g.2 b q).trans e;have v:S∉owns ow:=λq=>a (l.own.mu S q).1;have d:S≠X.tb:=λq=>a (q▸l.tm.tb);have w:∃o:TabO,h'.get? X.tb=some o.1:=let ⟨o,e⟩:=l.tk.tb;⟨o,c _ _ (Ne.symm d) e⟩;refine⟨⟨.sameBut g (by simp),rfl,id,by show _<=h'.objs.size;rw[g.1];exact Nat.le_refl _,Nat.le_refl _,λo e=>⟨o,c _ _ (Ne.symm d) e⟩⟩,⟨λb o e=>c b o (λq=>by rw[q,t] at e;cases e) (l.st b o e),⟨l.tk.tk,w⟩,?_,l.tm,λb m=>by show b<h'.objs.size;rw[g.1];exact l.lw b m,⟨λp i=>(l.own.is_ p i).flat (h p i) λb x y e=>c b y (λq=>v (q▸zu i x)) e,l.own.nd,l.own.mu⟩⟩⟩;obtain⟨fl,a,j⟩:=l.frs;refine⟨fl,a,λk n=>?_⟩;obtain⟨q1,L,o,es,z,q2,B,C,D,E⟩:=j k n;have f:L∈fsOf A:=by unfold fsOf;rw[a];exact List.mem_filterMap.mpr ⟨k,n,q2⟩
 exact⟨q1,L,o,es,z,q2,B,C,c L o (λq=>r (q▸f)) D,E⟩
theorem zl5 (O:X.Ok) (B:Blt X) (L:zgy X K C Cy fi fc fR pp fg fT fG fN fI fdc fdr fdg fdt fdG fdN fdI) (V:K.In X.kk) (R:Rm (n+8) A) (W:A.handled=none) (w:line.length<=100000) (z:S∉mu) (I:S∉fsOf A) (Z:X.kk.get? S=none){D:Value}{Y:Result->Shared->Prop} :
  ∀{st c:PyData}{G:Int}{d:List Nat}{ts:List Str}{o e:PyData}{p:Int}{f:List Nat},Toks x y q1 q2 st c G d ts o e p f->(zbt st=true/\zbt c=true)->d <:+ line.cps.toList->∀(s:Shared) (acc:Array Value) (k:Nat),
   Lent X A mu (lexO line x C dx y Cy dy q1 q2 (lexF y q1 q2 st c G) d) s->s.heap.get? S=some {cls:=.type "list",data:=.seq acc k}->acc.size+ts.length<=1000->
   (∀s' vs J,AftL X A (S::owns (lexO line x C dx y Cy dy q1 q2 (lexF y q1 q2 st c G) d)) s s'->Lent X A mu (lexO line x C dx y Cy dy q1 q2 (lexF y q1 q2 o e p) f) s'->s'.heap.get? S=some {cls:=.type "list",data:=.seq (acc++vs.toArray) J}->zox vs ts->Y (.ok (.ret D)) s')->
   codeAny X.M A (.builtin "list.extend.loop" ⟨[.ref S,.ref x,D],[]⟩) Y s:=by
 intro st c G d ts o e p f ht
 induction ht with
 | done h i E=>
  intro N H s acc k l P t Q;refine zp3 PySem.F.entry_extend_loop ?_;rw [zpV PySem.F.plain_extend_loop _];show wpAny _ A.in1 (pyNext (.ref x)>>=_) _ _ s;refine wpB (zlD (n:=n) (dx:=dx) (dy:=dy) (mu:=mu) O B L V R.in1 W w H h E l.in1 λs' a l'=>?_);have a:=AftL.in1.mp a;have u:S∉owns (lexO line x C dx y Cy dy q1 q2 (lexF y q1 q2 _ _ _) _):=λq=>z (l.own.mu S q).1;have v:S≠X.tb:=λq=>z (q▸l.tm.tb);obtain⟨o',T,r⟩:=a.keep S _ (λm=>by rcases zpz.mp m with m|m;exact v m;exact u m) P;have g:=T.trans (congrArg some (r.ex I));refine wpAny_pure (Q s' [] k (a.sub λb m=>List.mem_cons_of_mem _ m) l'.out1 (by rw[g];simp) λ_ _=>.nil)
 | more h hg i j _ ih=>
  intro N H s acc k l P t Q;refine zp3 PySem.F.entry_extend_loop ?_;rw [zpV PySem.F.plain_extend_loop _];show wpAny _ A.in1 (pyNext (.ref x)>>=_) _ _ s;refine wpB (zj2 (n:=n) (dx:=dx) (dy:=dy) (mu:=mu) O B L V R.in1 W w H h hg l.in1 λtk s' a l'=>?_);have a:=AftL.in1.mp a;have u:S∉owns (lexO line x C dx y Cy dy q1 q2 (lexF y q1 q2 _ _ _) _):=λq=>z (l.own.mu S q).1;have v:S≠X.tb:=λq=>z (q▸l.tm.tb);obtain⟨o',T,r⟩:=a.keep S _ (λm=>by rcases zpz.mp m with m|m;exact v m;exact u m) P;have g:=T.trans (congrArg some (r.ex I));have a0:sizeLine=2 ^ 24:=rfl;rw[zq4] at t;show wpAny _ A.in1 (updateSeq S (·.push (.str _ tk))>>=_) _ _ _;refine wpB ?_;refine wpAny_updateSeq g rfl (zpR ⟨zqJ PySem.F.plain_extend_loop _,?_⟩) (by sleep 39) (by show (acc.push _).size<=sizeLine+1;rw [Array.size_push];exact zqx (zpF (zpF (zqu _ _) t) (by ext)));obtain⟨a2,l2⟩:=l'.out1.list O (zce j) (zpW s'.heap S (Obj.mapSeq (·.push (.str _ tk)))) z I Z (zpU _ g rfl);refine ih j (i.trans H) _ (acc.push (.str _ tk)) _ l2 (zpU _ g rfl) (by rw[Array.size_push];lia) λs2 vs J a3 l3 U hv=>?_;refine Q s2 (.str _ tk::vs) J ?_ l3 (by rw[U];simp) λh mu=>.cons (.str _ _) (hv h mu);exact(((a.sub λb m=>List.mem_cons_of_mem _ m).trans (a2.sub λb m=>by rw[List.mem_singleton.mp m];simp)).trans (a3.sub λb m=>m))
end
theorem zg7 {c:Prop} [Decidable c] {a b:Prop}(h:a) (h':b):if c then a else b:=by
 by_cases q:c
 .rw [if_pos q];exact h
 .rw [if_neg q];exact h'
section
variable {c c':Ctx}{s s':Shared}{n:Nat}{K:Frag}{C Cy x dx y dy q1 q2 fi fc fR fT fG fN fI pp fg S:Addr}{fdc fdr fdg fdt fdG fdN fdI:FuncData}{line:Str}{fs:Fds}{ow ow':List (Addr×Own)}
theorem zlI (O:X.Ok) (L:zgy X K C Cy fi fc fR pp fg fT fG fN fI fdc fdr fdg fdt fdG fdN fdI) (i:K.In X.kk) (R:Rm (n+1) A)
  (l:Lent X A mu ow s) (k:(x,Own.inst C dx fs)∈ow){Q:VP}(t:∀s',Aft X A s s'->Q (.ref x) s'):wpAny X.M A (pyIter (.ref x)) Q E s:=by
 obtain⟨es,m,_,o⟩:=l.inst k;have g:=zJ i l.st;have f:∀{E:VP}{Q:Option Value->Shared->Prop},(∀s',Aft X A s s'->Q (some (.ref x)) s')->wpAny X.M A (do let v <-call (.ref fI) [.ref x];pure (some v)) Q E s:=λh=>
  wpB (zie (n:=n) (mu:=mu) (ds:=[ptr x]) O i R L.it (λus h=>L.itB us h) (.inl rfl) (zkP O (ow:=ow)) [.ref x] s _ _ l.st l.tk l.frs l.tm l.lw (.cons (.ptr x) .nil) l.own λv s' a u=>by cases u;exact zpR (h s' a))
 have d:∀c:Sem Value,∀{E:VP}{Q:Option Value->Shared->Prop},(∀s',Aft X A s s'->Q (some (.ref x)) s')->wpAny X.M A (callSpecialIfBoundUnlessNone? (.ref x) "__iter__" c) Q E s:=λc _ _ h=>by
  unfold callSpecialIfBoundUnlessNone? bindSpecialIfBound?;refine zpS (wpB (wpB (wpB (o.type.here ((looks_findIn g L.it.find).here (wpB (wpAny_askSetting (wpAny_ite ?_))))))));exact zg7 (wpB ((bind_fn g _ L.it.typ).here (zpR (f h)))) (wpAny_tryCatch (wpB ((bind_fn g _ L.it.typ).here (zpR (f h)))))
 unfold pyIter;refine wpB (wpB (o.type.here ((looks_findIn g L.it.find).here ?_)));refine wpB (d _ λs' a=>?_);have l':=l.step (ow':=ow) O (a.toL (fr:=[])) (λb m=>nomatch m) (λp j=>?_) rfl
 .obtain⟨es',m',_,ia'⟩:=l'.inst k;exact wpB (wpB (ia'.type.here ((looks_findIn (zJ i l'.st) L.nx.find).here (zpR (t s' a)))))
 .exact (l.own.is_ p j).keep (l.tm.keep a) l.tm.fs λb q w e=>by
   obtain⟨o',y,r⟩:=a.keep b w (by simpa using (l.own.mu b (zu j q)).2.2.1) e;rw[y,r.ex (l.own.mu b (zu j q)).2.1]
theorem Lent.aft (O:X.Ok) (l:Lent X A mu ow s) (a:Aft X A s s'):Lent X A mu ow s':=l.step (ow':=ow) O (a.toL (fr:=[])) (λb m=>nomatch m) (λp c=>(l.own.is_ p c).keep (l.tm.keep a) l.tm.fs λb d f e=>by
   obtain⟨o',g,r⟩:=a.keep b f (by simpa using (l.own.mu b (zu c d)).2.2.1) e;rw[g,r.ex (l.own.mu b (zu c d)).2.1]) rfl
theorem zi7 (O:X.Ok) (B:Blt X) (L:zgy X K C Cy fi fc fR pp fg fT fG fN fI fdc fdr fdg fdt fdG fdN fdI) (U:K.In X.kk) (R:Rm (n+10) A) (hA:A.handled=none) (V:line.length<=100000) (H:findIn K (.ref C) "__len__"=some none) (v:findIn K (.ref C) "__length_hint__"=some none)
  {st a I l:PyData}{z J:Int}{f p:List Nat}{ts:List Str}(ht:Toks x y q1 q2 st a z f ts I l J p) (i:zbt st=true/\zbt a=true) (hs:f <:+ line.cps.toList) (hn:ts.length<=1000) :
  ClO X A mu (.type "list") [ptr x] (.list (ts.map .str)) (lexO line x C dx y Cy dy q1 q2 (lexF y q1 q2 st a z) f) (lexO line x C dx y Cy dy q1 q2 (lexF y q1 q2 I l J) p):=λus s E Q M tk W Y lw r w h=>by
 refine Rds.one r λ_ r1=>?_;cases r1;have l0:Lent X A mu (lexO line x C dx y Cy dy q1 q2 (lexF y q1 q2 st a z) f) s:=⟨M,tk,W,Y,lw,w⟩;have c:s.heap.objs.size∉mu:=λm=>zpZ _ (lw _ m);have g:s.heap.objs.size∉fsOf A:=λm=>c (Y.fs _ m);have j:X.kk.get? s.heap.objs.size=none:=by
  cases e:X.kk.get? s.heap.objs.size with
  | none=>rfl
  | some o=>exact absurd (zpI (M _ _ e)) (zpZ _)
 have Z:s.heap.get? s.heap.objs.size=none:=zpK (zpB _);refine callType_codes (Q₁:=λN t=>N=.ref s.heap.objs.size/\t={s with heap:=s.heap.push {cls:=.type "list",data:=.seq #[]}}) PySem.F.called_list (PySem.F.typeCall_list_1 _) PySem.F.entry_list_init (code_list_new _ ⟨rfl,rfl⟩) λN t P=>?_;obtain⟨rfl,rfl⟩:=P;have S:(s.heap.push {cls:=.type "list",data:=.seq #[]}).get? s.heap.objs.size=some {cls:=.type "list",data:=.seq #[]}:=zpG _ rfl;have a1:Aft X A s {s with heap:=s.heap.push {cls:=.type "list",data:=.seq #[]}}:=.push _;have l1:=l0.aft O a1;refine ⟨⟨_,S,rfl⟩,PySem.F.args_list_init_2 _ _,?_⟩;show wpAny _ A.in1.in1 (do let old <-Builtin.List.listItems (.ref s.heap.objs.size);Builtin.List.listUpdate (.ref s.heap.objs.size) (λ_=>#[]);letGo old.toList.reverse;Builtin.List.listExtendWith (.ref s.heap.objs.size) (.ref x) .none) _ _ _;refine wpB ?_;unfold Builtin.List.listItems;refine wpB (wpAny_seqItems S rfl (zpR ?_));show wpAny _ A.in1.in1 (updateSeq s.heap.objs.size (λ_=>#[])>>=λ_=>letGo (#[]:Array Value).toList.reverse>>=λ_=>Builtin.List.listExtendWith (.ref s.heap.objs.size) (.ref x) .none) _ _ _;refine wpB (wpAny_updateSeq S rfl ?_);obtain⟨a2,l2⟩:=l1.list O (zce i) (zpW _ s.heap.objs.size (Obj.mapSeq (λ_=>(#[]:Array Value)))) c g j (zpU _ S rfl);obtain⟨k2,a0⟩:∃k,((s.heap.push {cls:=.type "list",data:=.seq #[]}).update s.heap.objs.size (Obj.mapSeq (λ_=>(#[]:Array Value)))).get? s.heap.objs.size=some {cls:=.type "list",data:=.seq #[] k}:=⟨_,zpU (Obj.mapSeq (λ_=>(#[]:Array Value))) S rfl⟩;refine wpB (wpAny_letGo ?_);unfold Builtin.List.listExtendWith;obtain⟨es,m,_,ia⟩:=l2.inst (x:=x) (C:=C) (dx:=dx) (fs:=lexF y q1 q2 st a z) (by simp);refine wpB (ia.type.here ?_);have a3:s.heap.objs.size≠x:=λq=>c (by rw[q];exact(w.mu x (by simp[owns,Own.ads])).1);have e1:Builtin.List.listSameRef (.ref s.heap.objs.size) (.ref x)=false:=by simp[Builtin.List.listSameRef,a3]
 have e2:(Value.ref C==Value.type "list")=false:=rfl;have e3:(Value.ref C==Value.type "tuple")=false:=rfl;simp only [e1,e2,e3,Bool.or_false,Bool.false_eq_true,if_false];refine wpB (zlI (n:=n) (C:=C) (dx:=dx) (fs:=lexF y q1 q2 st a z) O L U (show Rm (n+1) A.in1.in1 from ((show Rm (n+3) A from ⟨by have:=R.units;sleep 33,by have:=R.depth;sleep 34⟩).in1).in1) l2.in1.in1 (by simp) λu d=>?_);have d:=Aft.in1.mp (Aft.in1.mp d);have l3:=l2.aft O d;have D:u.heap.get? s.heap.objs.size=some {cls:=.type "list",data:=.seq #[] k2}:=by
  obtain⟨o',e',r⟩:=d.keep _ _ (λm=>c (by have:=zqP.mp m;rw[this];exact Y.tb)) a0;exact e'.trans (congrArg some (r.ex g))
 obtain⟨a9,m3,_,T⟩:=l3.inst (x:=x) (C:=C) (dx:=dx) (fs:=lexF y q1 q2 st a z) (by simp);have x3:=zJ U l3.st;refine wpB (zpS ?_);unfold Builtin.List.listLengthHint;refine wpB (wpB (T.type.here ((looks_findIn x3 H).here ?_)));show wpAny _ A.in1.in1 (specialOf (.ref x) (Str.ofString "__length_hint__")>>=_) _ _ _;refine wpB (wpB (T.type.here ((looks_findIn x3 v).here ?_)));refine zpR ?_;rw[Bool.true_or,if_pos rfl];refine wpB (wpAny_rule (wpB ?_));show wpAny _ A.in1.in1 (updateSeq s.heap.objs.size (·.push .none)>>=λ_=>updateSeq s.heap.objs.size (·.pop)) _ _ _;have b0:sizeLine=2 ^ 24:=rfl;refine wpB (wpAny_updateSeq D rfl ?_ (by show (0:Nat)<=_;sleep 12) (by show (1:Nat)<=_;sleep 15));obtain⟨a4,l4⟩:=l3.list O (zce i) (zpW _ s.heap.objs.size (Obj.mapSeq (·.push Value.none))) c g j (zpU _ D rfl);have G:=zpU (Obj.mapSeq (·.push Value.none)) D rfl;refine wpAny_updateSeq G rfl ?_ (by show (1:Nat)<=_;lia) (by show (0:Nat)<=_;sleep 12);obtain⟨a5,l5⟩:=l4.list O (zce i) (zpW _ s.heap.objs.size (Obj.mapSeq (·.pop))) c g j (zpU _ G rfl);obtain⟨k5,a7⟩:∃k,((u.heap.update s.heap.objs.size (Obj.mapSeq (·.push Value.none))).update s.heap.objs.size (Obj.mapSeq (·.pop))).get? s.heap.objs.size=some {cls:=.type "list",data:=.seq #[] k}:=⟨_,zpU (Obj.mapSeq (·.pop)) G rfl⟩;refine zpR ⟨zqJ PySem.F.plain_extend_loop _,?_⟩;refine zl5 (n:=n) (A:=A.in1) (mu:=mu) (dx:=dx) (dy:=dy) O B L U (show Rm (n+8) A.in1 from (show Rm (n+9) A from ⟨by have:=R.units;sleep 33,by have:=R.depth;sleep 34⟩).in1) hA V c g j ht i hs _ #[] k5 l5.in1 a7 (by show 0+_<=_;lia) λs6 vs k6 a6 l6 a8 hv=>?_;have l6:=l6.out1;refine⟨rfl,?_⟩;have aS:AftL X A (s.heap.objs.size::owns (lexO line x C dx y Cy dy q1 q2 (lexF y q1 q2 st a z) f)) s s6:=((((a1.toL.trans (a2.sub λb m=>by rw[List.mem_singleton.mp m];simp)).trans d.toL).trans (a4.sub λb m=>by rw[List.mem_singleton.mp m];simp)).trans (a5.sub λb m=>by rw[List.mem_singleton.mp m];simp)).trans (AftL.in1.mp a6);refine h _ s6 (aS.fresh λb m=>?_) l6.own.is_ (.list c (n:=k6) ?_ (hv _ _))
 .refine memK m ?_ λm=>?_
  .exact .inr Z
  .exact .inl m
 .rw [a8];simp[lst]
end
theorem zV (a b:List (Addr×Own)):owns (a++b)=owns a++owns b:=by unfold owns;rw[List.flatMap_append]
section
variable {mu mu0 fr:LA}{c c':Ctx}{s s' s₁:Shared}{n:Nat}{K:Frag}{C x dx fa:Addr}{fd:FuncData}{fs:Fds}{ow ow' pre post:List (Addr×Own)}{body:List Stmt}{ps:List Str}{us:List Value}{ds:List PyData}{d:PyData}{a:Args}{names:List Str}{f:Fl}
theorem Loc.own_newL (O:X.Ok) (l:Loc X A env mu c s) (f:Aft X A s s₁) (h:∀b∈owns ow,hz s<=b/\b<hz s₁) (j:(owns ow).Nodup) (k:∀p∈ow,zR s₁.heap (owns ow++mu) p.1 p.2):Loc X A env (owns ow++mu) {c with own:=ow++c.own} s₁:=by
 have a:Loc X A env (owns ow++mu) c s₁:=l.grow O f h;have ap:Apart X A env (owns c.own) (owns ow):=Apart.fresh l λy q=>(h y q).1;refine⟨a.stay,a.tbm,a.low,a.ltb,a.ns,a.cell,a.cis,a.tk,a.frs,λq g=>?_,?_,λy d=>?_⟩
 .rcases zpE.mp g with g|g
  .exact k q g
  .exact a.own q g
 .show (owns (ow++c.own)).Nodup;rw[zV];exact List.nodup_append.mpr ⟨j,l.ownNd,λb h m i e=>ap.own b h (e▸i)⟩
 .have d:y∈owns (ow++c.own):=d;rw[zV] at d;rcases zpE.mp d with d|d
  .exact ⟨zpC _ d,ap.fs _ d,λw=>ap.tb (w▸d),λw=>ap.loc (w▸d),ap.kk _ d,λz w hz=>ap.cel _ d z w hz⟩
  .exact a.ownMu y d
def EvG (X:Wd) (A:Around) (env:Env) (mu:LA) (e:Expr) (P:Addr->List (Addr×Own)->Prop) (s:Shared):Prop:=
 ∀(E:VP) (Q:VP),(∀b ow s',P b ow->Aft X A s s'->(∀b∈owns ow,hz s<=b/\b<hz s')->(owns ow).Nodup->(∀p∈ow,zR s'.heap (owns ow++mu) p.1 p.2)->Q (.ref b) s')->wpAny X.M A (eval e env) Q E s
def StG (X:Wd) (A:Around) (env:Env) (mu0 fr:LA) (mu:LA) (c:Ctx) (ss:List Stmt) (P:List (Addr×Own)->Prop):Prop:=∀s,Loc X A env mu c s->∀(E:VP) (Q:Flow->Shared->Prop),
 (∀s' ow',AftL X A fr s s'->P ow'->(∀b∈owns ow',(b∈owns c.own\/hz s<=b)/\b<hz s')->(owns ow').Nodup->(∀p∈ow',zR s'.heap (owns ow'++mu0) p.1 p.2)->Q .next s')->wpAny X.M A (execs ss env) Q E s
theorem zny {P:List (Addr×Own)->Prop}(a:∀b∈mu0,b∈mu) (h:P c.own):StG X A env mu0 fr mu c [] P:=λs l E Q d=>
 wpAny_execs_nil (d s c.own .refl h (λb m=>⟨.inl m,l.low _ (l.ownMu b m).1⟩) l.ownNd λp e=>(l.own p e).sub λb m=>by
  rcases zpE.mp m with m|m
  .exact (l.ownMu b m).1
  .exact a b m)
theorem zlh {P:List (Addr×Own)->Prop}{c1:Ctx}{st:Stmt}{e:List Stmt}(h:St1 X A env mu fr c st .next c1) (a:owns c1.own=owns c.own) (i:StG X A env mu0 fr mu c1 e P):StG X A env mu0 fr mu c (st::e) P:=λs l E Q j=>
 zpT (h s l E _ (λk s' f l' n=>by
  cases (show k=.next from n);exact i s' l' E Q λd ow' o p g r t=>j d ow' (f.trans o) p (λb m=>⟨by rw[<-a];exact(g b m).1.imp id λq=>zpF f.size q,(g b m).2⟩) r t) λv s' _ _ u=>False.elim u)
theorem zhJ {P:List (Addr×Own)->Prop}{c1:Ctx}{f:List Stmt}(d:owns c1.own=owns ow++owns c.own) (g:∀b∈owns ow,hz s<=b) (a:AftL X A (owns ow++fr) s s₁) (l:Loc X A env (owns ow++mu) c1 s₁) (h:StG X A env mu0 (owns ow++fr) (owns ow++mu) c1 f P){Q:Flow->Shared->Prop}
  (i:∀s' ow',AftL X A fr s s'->P ow'->(∀b∈owns ow',(b∈owns c.own\/hz s<=b)/\b<hz s')->(owns ow').Nodup->(∀p∈ow',zR s'.heap (owns ow'++mu0) p.1 p.2)->Q .next s'):wpAny X.M A (execs f env) Q E s₁:=
 h s₁ l E Q λs' ow' j k e n o=>i s' ow' ((a.trans j).fresh λb m=>by
  rcases zpE.mp m with m|m
  .exact .inr (zpK (g b m))
  .exact .inl m) k (λb m=>⟨by
   rcases (e b m).1 with q|q
   .rw [d] at q;rcases zpE.mp q with q|q
    .exact .inr (g b q)
    .exact .inl q
   .exact .inr (zpF a.size q),(e b m).2⟩) n o
theorem zcN (F:Frm X A env sc mu fr) (O:X.Ok) (I:zF K C names) (L:K.In X.kk){P:List (Addr×Own)->Prop}{o:Own}{v g:Str}{M ap p:Pos}{e:Expr}{D:List Stmt}(N:sc.names.lookup v=some .local) (t:(v==("__debug__":Str))=false) (R:c.loc.lookup v=some (ptr x)) (a:c.own=pre++(x,.inst C dx fs)::post) (w:dx∈fr) (S:g∈names) (y:fs.length<=500) (T:zah e=true) (U:∀s,Loc X A env mu c s->EvG X A env mu e (λb ow=>ow=[(b,o)]) s)
  (h:∀b,(∀z∈owns [(b,o)],z∉mu)->Frm X A env sc (owns [(b,o)]++mu) (owns [(b,o)]++fr)->StG X A env mu0 (owns [(b,o)]++fr) (owns [(b,o)]++mu) {c with own:=[(b,o)]++(pre++(x,.inst C dx (setL fs g (ptr b)))::post)} D P):StG X A env mu0 fr mu c (.Assign [.Attribute (.Name v M) g ap] e p::D) P:=λs l E Q V=>by
 refine zpT (plainObj_wpAny_Assign_Attribute (U s l _ _ λb ow G W d B Y Z=>?_) (zC T));subst W;have f:=F.grow (owns [(b,o)]);have l₂:=l.own_newL O d B Y Z;refine zf f.toStat l₂ N t R _ _ λu H i n=>?_;cases n;have k:=l₂.aft O i;refine zdp (fr:=owns [(b,o)]++fr) (pre:=[(b,o)]++pre) (post:=post) (fs:=fs) I L k (by show [(b,o)]++c.own=_;rw[a];simp) (List.mem_append_right _ w) S y (.ptr b) λJ r j=>?_;refine zhJ (c:=c) (c1:={c with own:=[(b,o)]++(pre++(x,.inst C dx (setL fs g (ptr b)))::post)}) ?_ (λb m=>(B b m).1) ((d.toL.trans i.toL).trans r) (by rw[List.append_assoc] at j;exact j) (h b (λz m q=>absurd (l.low z q) (zpO.mpr (B z m).1)) f) V;show owns ([(b,o)]++(pre++_::post))=_;rw[zV,a,zV,zV]
 rfl
theorem zlj (F:Frm X A env sc mu fr) (O:X.Ok){f:Fl}{y:Str}{u p:Pos}{e:Expr}{Pn:Addr->List (Addr×Own)->Prop}{r:List Stmt}(w:sc.names.lookup y=some .local) (x:zah e=true) (B:∀s,Loc X A env mu c s->EvG X A env mu e Pn s)
  (h:∀b ow,Pn b ow->(∀z∈owns ow,z∉mu)->Frm X A env sc (owns ow++mu) (owns ow++fr)->StF X A env (owns ow++mu) (owns ow++fr) mu0 {c.set y (ptr b) with own:=ow++c.own} r f):StF X A env mu fr mu0 c (.Assign [.Name y u] e p::r) f:=λs l E Q C D=>by
 refine zpT (wpAny_Assign_Name (B s l _ _ λb ow t G a o H I=>?_) (zC x));have g:=F.grow (owns ow);have l₂:=l.own_newL O a o H I;refine zq g l₂ w (.ptr b) λd i k=>?_;have j:∀{s':Shared},AftL X A (owns ow++fr) d s'->AftL X A fr s s':=λn=>((a.toL.trans i).trans n).fresh λy m=>by
  rcases zpE.mp m with m|m
  .exact .inr (zpK (o y m).1)
  .exact .inl m
 exact h b ow G (λz m q=>absurd (l.low z q) (zpO.mpr (o z m).1)) g d k E Q (λJ s' n K=>C J s' (j n) K) λv s' n q1 q2 L=>D v s' (j n) q1 q2 (L.after (a.toL.trans i:AftL X A (owns ow++fr) s d))
def zk1 (X:Wd) (A:Around) (n:Nat) (sc:Scope) (ps:List Str) (ds:List PyData) (mu:LA) (ow:List (Addr×Own)) (body:List Stmt) (P:List (Addr×Own)->Prop):Prop:=
 ∀(A':Around) (env:Env) (new fr':LA),Rm n A'->A'.handled=A.handled->InFn A' env->Frm X A' env sc (new++mu) fr'->(∀b∈owns ow,b∈fr')->StG X A' env mu fr' (new++mu) {startC sc ps ds with own:=ow} body P
theorem zoi (O:X.Ok) (k:K.In X.kk) (R:Rm (n+1) A) (F:FnB X K fa fd body sc) (f:PK K (bindArgs fd a) (ps.zip us)) (c:∀x∈ps,sc.names.lookup x=some .local\/sc.names.lookup x=some .cell) (g:ps.Nodup){P:List (Addr×Own)->Prop}(l:zk1 X A n sc ps ds mu ow body P)
  (st:X.kk.StaysIn s.heap) (tk:Rdy X s) (d:Frs X A s.heap) (o:Mu X A mu) (t:Low mu s) (r:Rds s.heap mu us ds) (w:OwnOk X A mu ow s){Q:Result->Shared->Prop}
  (h:∀s' ow',AftL X A (owns ow) s s'->P ow'->(∀b∈owns ow',(b∈owns ow\/hz s<=b)/\b<hz s')->(owns ow').Nodup->(∀p∈ow',zR s'.heap (owns ow'++mu) p.1 p.2)->Q (.ok (.ret .none)) s'):codeAny X.M A (.call (.ref fa) a) Q s:=by
 refine za3 O k R F f c g st tk d o t r w λe new j i _ L=>?_;refine l _ _ new (owns ow++new) (R.deeper _) rfl L.inf (L.frO w) (λb m=>zpC _ m) _ L.loc _ _ λs' ow' u v f g y=>?_;exact h s' ow' (L.backO d u) v (λb m=>⟨(f b m).1.imp id λq=>zpF L.size q,(f b m).2⟩) g y
end
section
variable {c c':Ctx}{s s':Shared}{n:Nat}{K:Frag}{C x dx fa ft:Addr}{fd fdt:FuncData}{init:Str}
theorem zgE {a b:Expr}{p:Pos}{q:Bool}(c:Ts X A env a true s) (d:∀s',Aft X A s s'->Ts X A env b q s'):Ts X A env (.BoolOp .And [a,b] p) q s:=
 zbQ (zaj (a:=true) c (λ_ h=>by cases h) (λh=>by cases h) λ_ _ s' e=>zaj (a:=q) (d s' e) (λ_ h=>h) (λh=>by cases h) λg _ f i=>by
  have:q=true:=by cases q;exact absurd ⟨rfl,rfl⟩ g;rfl
  subst this;exact zgm)
noncomputable def sio0:Fds:=[("_StringIO__newline",.str "\n"),("_StringIO__buf",.str ""),("_StringIO__pos",.int 0)]
theorem zdX (O:X.Ok) (I:zF K C sioN) (c:K.In X.kk):zcL X A n (zd (zo 18 "__translated")) (zA (zo 18 "__translated")) [ptr x,.str init] [(x,.inst C dx sio0)] (zG (zo 18 "__translated")) (.ret (.str init)):=λf env mu' fr' R g i F=>by
 have b:=sndE (nm:=sioN) (mu:=mu') (pre:=[]) (post:=[]) (x:=x) (dx:=dx) O R F.toStat I c ⋯ (λh=>absurd h (by ext));show StO X f env mu' fr' (cI [("self",ptr x),("s",.str init)] [] [] x C dx sio0) _ _ _;let a:Fds:=[("self",ptr x),("s",.str init),("newline",.str "\n")];refine zm F (c1:=cI a [] [] x C dx sio0) (zj F O (d:=.str "\n") ⋯ ⋯ λs l=>(b 3).e ⋯ ⋯ s l) ?_;refine zm F (c1:=cI a [] [] x C dx sio0) (zB F O (q:=false) (λs l=>(sndT O R b 6).t (loc:=a) (fs:=sio0) ⋯ ⋯ s l) st_nil) ?_;refine zm F (c1:=cI a [] [] x C dx sio0) (zB F O (q:=false) (λs l=>(sndT O R b 8).t (loc:=a) (fs:=sio0) ∅ ⋯ s l) st_nil) ?_;exact zcr O λs l=>(b 3).e ⋯ ⋯ s l
theorem zgn (O:X.Ok) (B:Blt X) (I:zF K C sioN) (g:K.In X.kk) (p:A.handled=none) (b:Top1 X "type" (.type "type")) (Mt:za9 X K C "_StringIO__translated" ft fdt 18 "__translated") (k:∀us:List Value,us.length=2->PK K (bindArgs fdt ⟨us,[]⟩) ((zA (zo 18 "__translated")).zip us)) :
  zS X A (n+1) (zd (zo 18 "__init__")) (zA (zo 18 "__init__")) [ptr x,.str init,.str "\n"] [(x,.inst C dx [])] (zG (zo 18 "__init__")) .next [(x,.inst C dx (sioF init 0))]:=zS.of λu env mu' fr' R w z F D y=>by
 rw[p] at w;have i:=y dx (by simp[owns,Own.ads]);have f:=sndE (nm:=sioN) (mu:=mu') (pre:=[]) (post:=[]) (x:=x) (dx:=dx) O R F.toStat I g ∅ (λh=>absurd h (by ext));have m:=sndS (nm:=sioN) (pre:=[]) (post:=[]) (x:=x) (dx:=dx) O R F I g ∅ (λh=>absurd h (by ext)) i;let j:Fds:=[("self",ptr x),("initial_value",.str init),("newline",.str "\n")];let cx (fs:Fds):Ctx:=cI j [] [] x C dx fs;show StO X u env mu' fr' (cx []) _ _ _;refine zm F (c1:=cx []) (zB F O (q:=false) (λs l=>zgE ((sndT O R f 6).t (loc:=j) (fs:=[]) ⋯ ⋯ s l) λs' a=>zcp (d:=.str "\n") F.toStat O (l.aft O a) (T:="str") b B.str ∅ ∅ (by ext) ⋯ ((f 3).e ⋯ ⋯ s' (l.aft O a)) (λv s' r=>by cases r;exact typeIs_str _ _ _) (by ext)) st_nil) ?_;refine zm F (c1:=cx []) (zB F O (q:=false) (λs l=>(sndT O R f 12).t (loc:=j) (fs:=[]) ∅ ⋯ s l) st_nil) ?_;refine zm F (c1:=cx []) (zB F O (q:=false) (λs l=>zgE ((sndT O R f 6).t (loc:=j) (fs:=[]) ⋯ ⋯ s l) λs' a=>zcp (d:=.str init) F.toStat O (l.aft O a) (T:="str") b B.str ∅ ∅ (by ext) ⋯ ((f 3).e ⋯ ⋯ s' (l.aft O a)) (λv s' r=>by cases r;exact typeIs_str _ _ _) (by ext)) st_nil) ?_;refine zm F (c1:=cx [("_StringIO__newline",.str "\n")]) ((m 8).o ⋯ ⋯).1 ?_;refine zm F (c1:=cx [("_StringIO__newline",.str "\n"),("_StringIO__buf",.str "")]) ((m 8).o ⋯ ⋯).1 ?_;refine zm F (c1:=cx sio0) ((m 8).o ⋯ ⋯).1 ?_;refine zm F (c1:=cx (sioF init 0)) (zB F O (q:=true) (λs l=>(sndT O R f 6).t (loc:=j) (fs:=sio0) ⋯ ⋯ s l) (ze F (c':=cx (sioF init 0)) (zdf F O I g (d:=.str init) (fs:=sio0) ∅ ⋯ i (by ext) (by ext) ⋯ ?_) st_nil)) ⟨_,st_nil,rfl⟩;exact ze4 O I g Mt (c:=cx sio0) (ds:=[.str init]) (fs:=sio0) (dx:=dx) (pre:=[]) (post:=[]) (ow:=[(x,.inst C dx sio0)]) ⋯ (by simp[cx,cI]) ⋯ ⋯ ⋯ ⋯ rfl (by ext) (λs l=>(f 3).e ⋯ ⋯ s l) (λs l=>zc l.tbm ⋯ ((f 3).e ⋯ ⋯ s l) λ_ _=>evs_nil) (zie (n:=n) O g R Mt (λus h=>k us h) (.inl rfl) (zdX O I g))
end
theorem ziE:PK [] (specialOf (.type "object") "__getattribute__") (some (.builtin "type.__getattribute__")):=λ_=>⋯
theorem znJ:PK [] (typeOf (.type "object")) (.type "type"):=λ_=>⋯
theorem zj1:PK [] (opaqueClassAbove (.type "object")) none:=λ_=>⋯
theorem znL:findCls [] (.type "object") (.type "type") "__new__"=some (.val (.builtin "object.__new__")):=by rfl
section
variable {c c':Ctx}{s s':Shared}{n:Nat}{K:Frag}{C x dx fa ft:Addr}{fd fdt:FuncData}{init:Str}
theorem znK {prog:Program}{w:World}{a:Sem Bool}{Q:Value×List Value->Shared->Prop}(h:Q (.builtin "object.__new__",[]) {s with toks:=s.toks+1}):wpAny (model prog w) A (getMethod (.type "object") "__new__" a) Q E s:=by
 unfold getMethod;refine wpB ((ziE.lk zd0).here ?_);dsimp only;rw[if_pos canon_tga];refine wpB (cls_open (K:=[]) (mc:=.type "type") (hook:=none) zd0 (zj1.lk zd0) (znJ.lk zd0) ⋯ (looks_hook zd0 ⋯) ⋯ znL ?_);refine zpR ?_;show wpAny _ _ (handedOut _) _ _ _;rw[handedOut_of ⋯];exact zpR (zpR h)
structure zkY (K:Frag) (C:Addr):Prop where
 chk:PK K (checkBuiltinCall "object.__new__" ⟨[.ref C],[]⟩) ()
 isT:PK K (isType (.ref C)) true
 here:PK K (Bind.madeHere "object.__new__" (.ref C)) ()
 cls:∃od cd sl,K.lookup C=some ⟨.type "type",od,.cls cd,sl⟩/\cd.abstract=false/\cd.hasDel=false
theorem zlB:plainId "object.__new__"=true:=by decide +kernel
theorem znM {prog:Program}{w:World}(Y:zkY K C) (b:K.In s.heap){Q:VP}(h:Q (.ref (s.heap.objs.size+1)) {s with heap:=(s.heap.push emptyDict).push (instObj C s.heap.objs.size)}):wpAny (model prog w) A (call (.builtin "object.__new__") [.ref C]) Q E s:=by
 obtain⟨f,g,sl,c,d,e⟩:=Y.cls;have a:=b _ _ c;refine zqY (codeAny_call_builtin zlB PySem.F.objNew.entry ((Y.chk.lk b).here ?_));unfold Builtin.«object.__new__»;refine wpB ((Y.isT.lk b).here ?_);rw[if_neg (by ext)];refine wpB ((Y.here.lk b).here ?_);rw[if_neg (by exact Bool.false_ne_true)];refine wpB (wpB (zq9 a (zpR ?_)));rw[d,if_neg (by ext)];show wpAny _ _ ((alloc emptyDict>>=λx=>pure (some x))>>=_) _ _ _;refine wpB (wpB (wpAny_alloc (zpR (wpB ?_))));show wpAny _ _ (newObjAsIs _ _ _) _ _ _;unfold newObjAsIs classHasDel;refine wpB (wpAny_alloc (wpB (wpB (zq9 (zpD _ (zpD _ a)) (zpR ?_)))));rw[e];refine zpR (zpR ?_);rw[zqw];exact h
theorem zge {b:Addr}:Cm X A .IsNot (.ref b) (.ref b) false s:=λ_ _ h=>wpAny_isNot_ref_self (h _ .refl)
theorem zkE (c:K.In s.heap){a b:Addr}{d e:Obj}(f:K.lookup a=some d) (g:K.lookup b=some e) (i:d.cls≠Value.type "tuple") (h:a≠b):Cm X A .IsNot (.ref a) (.ref b) true s:=λ_ _ q=>kto_isnot (c _ _ f) (c _ _ g) h i (q _ .refl)
theorem zn1 (O:X.Ok) (y:K.In X.kk){i tA z:Addr}(fr':Frm X A env (zd (zo 14 "__new__")) mu fr) (l:Loc X A env mu ⟨[("cls",ptr C),("args",ptr tA),("kwargs",ptr z)],[],[]⟩ s) (Y:zkY K C) (j:Top1 X "object" (.type "object")) (B:Top1 X "StringIO" (.ref C)) (D:Top1 X "BytesIO" (.ref i)) (n:C≠i) (p:∃o,K.lookup i=some o){Q:Flow->Shared->Prop}
  (h:∀c,AftL X A fr s {c with heap:=(c.heap.push emptyDict).push (instObj C c.heap.objs.size)}->hz s<=hz c->Q (.ret (.ref (c.heap.objs.size+1))) {c with heap:=(c.heap.push emptyDict).push (instObj C c.heap.objs.size)}):wpAny X.M A (execs (zG (zo 14 "__new__")) env) Q E s:=by
 obtain⟨oB,r⟩:=p;obtain⟨P,R,sl,t,_⟩:=Y.cls;refine zpT (zB fr' O (q:=false) (λs l=>zgE (zQ (a:=ptr C) (b:=ptr i) O l.tbm (zf fr'.toStat l ⋯ (by ext) ⋯) (λs' a=>?_) ⋯ λu v s' a w x=>?_) λs' a=>zQ (a:=ptr C) (b:=ptr C) O l.tbm (zf fr'.toStat (l.aft O a) ⋯ (by ext) ⋯) (λS F=>?_) ⋯ λu v s' a w x=>?_) st_nil _ l _ _ (λG d f g H=>?_) λv s' _ _ I=>False.elim I)
 .exact λE Q h=>zw fr'.toStat O (l.aft O a).stay ⋯ (by ext) D (h _ _ .refl (.ptr i))
 .cases w;cases x;exact zkE (zJ y (l.aft O a).stay) t r (show Value.type "type"≠Value.type "tuple" by decide) n
 .exact λE Q h=>zw fr'.toStat O ((l.aft O a).aft O F).stay ⋯ (by ext) B (h _ _ .refl (.ptr C))
 .cases w;cases x;exact zge
 cases (show G=.next from H);refine zpT (wpAny_Return_some (zdW ⋯ ⋯ ⋯ (by ext) (zw fr'.toStat O g.stay ⋯ (by ext) j (znK ?_))));have a0:Aft X A d {d with toks:=d.toks+1}:=.tok _;have k:=g.aft O a0;refine zy O (mu:=mu) (ds:=[ptr C]) (.builtin _) k.stay k.frs ⋯ rfl (zc k.tbm ⋯ (zf fr'.toStat k ⋯ (by ext) ⋯) λ_ _=>evs_nil) λvs c e m=>?_;refine Rds.one m λ_ J=>?_;cases J;have L:=k.aft O e;refine znM Y (zJ y L.stay) ?_;have N:Aft X A c {c with heap:=(c.heap.push emptyDict).push (instObj C c.heap.objs.size)}:=(Aft.push (s:=c) emptyDict).trans (.push _);exact h c (f.trans ((a0.trans e).trans N).toL) (zpF f.size (a0.trans e).size)
theorem zjb (O:X.Ok) (T:K.In X.kk) (R:Rm (n+1) A){U u:Addr}{k:FuncData}(F:FnB X K U k (zG (zo 14 "__new__")) (zd (zo 14 "__new__"))) (Y:zkY K C) (l:Top1 X "object" (.type "object")) (Z:Top1 X "StringIO" (.ref C)) (hB:Top1 X "BytesIO" (.ref u)) (w:C≠u) (z:∃o,K.lookup u=some o)
  (B:∀v,bindArgs k ⟨[.ref C,v],[]⟩=(do let t <-newTuple [v];let d <-alloc {cls:=.type "dict",data:=.dict #[]};pure [("cls",.ref C),("args",t),("kwargs",.ref d)]))
  (st:X.kk.StaysIn s.heap) (tk:Rdy X s) (m:Frs X A s.heap) (tm:Mu X A mu) (lw:Low mu s){v:Value}{E:VP}{Q:VP}
  (h:∀s' dx,Aft X A s s'->hz s<=dx->dx+1<hz s'->s'.heap.get? (dx+1)=some (instObj C dx)->s'.heap.get? dx=some emptyDict->Q (.ref (dx+1)) s'):wpAny X.M A (call (.ref U) [.ref C,v]) Q E s:=by
 obtain⟨o,ho,D⟩:=F.at_;have x0:=zJ T st;have f:A.depth<recursionLimit:=by have:=R.depth;sleep 110
 refine zqY (codeAny_call_function f (x0 _ _ ho) D (by rw[F.scope];exact F.co) (by rw[F.scope];exact F.gen) F.body (F.code.keeps st) ?_);rw[F.closure,B];refine zpQ (wpAny_newTuple (zpQ (wpAny_alloc (zpR ?_))) (by show 1<=sizeLine;decide));have a1:Aft X A s {s with heap:=s.heap.push {cls:=.type "tuple",data:=.seq [v].toArray}}:=.push _;have a2:Aft X A {s with heap:=s.heap.push {cls:=.type "tuple",data:=.seq [v].toArray}} {s with heap:=(s.heap.push {cls:=.type "tuple",data:=.seq [v].toArray}).push {cls:=.type "dict",data:=.dict #[]}}:=.push _;have ab:=a1.trans a2;generalize a0:({s with heap:=(s.heap.push {cls:=.type "tuple",data:=.seq [v].toArray}).push {cls:=.type "dict",data:=.dict #[]}}:Shared)=sb at ab;have q:=zH O m ab st;have e:=m.aft ab;have G:=tk.aft ab;have H:Low mu sb:=lw.aft ab;obtain⟨tA,g,r⟩:∃tA g:Addr,tA=s.heap.objs.size/\g=(s.heap.push {cls:=.type "tuple",data:=.seq [v].toArray}).objs.size:=⟨_,_,rfl,rfl⟩;rw[<-r.1,<-r.2];have c:[(("cls":Str),Value.ref C),("args",.ref tA),("kwargs",.ref g)]=(["cls","args","kwargs"]:List Str).zip [.ref C,.ref tA,.ref g]:=rfl;rw[c];refine wpt (wpAny_newFunctionEnv_cells (by rw[F.scope];exact F.kind) (λy i=>?_) λenv he V x j _=>?_)
 .rw [F.scope];refine memK i ?_ λi=>?_
  .exact .inl ⋯
  refine memK i ?_ λi=>?_
  .exact .inl ⋯
  refine memK i ?_ λi=>?_
  .exact .inl ⋯
  .cases i
 subst he;refine⟨(O.lim.keeps q).keeps x.toInCall.keep,codeAny_func ?_⟩;obtain⟨new,W,I,rfl,L⟩:=zka (ow:=[]) (ds:=[ptr C,ptr tA,ptr g]) O F (by ext) q G e tm H (.cons (.ptr C) (.cons (.ptr tA) (.cons (.ptr g) .nil))) ⟨λp hp=>(nomatch hp),List.nodup_nil,λb B=>(nomatch B)⟩ x j;have J:Loc X _ _ (new++mu) ⟨[("cls",ptr C),("args",ptr tA),("kwargs",ptr g)],[],[]⟩ _:=L.loc;refine zn1 O T L.fr J Y l Z hB w z λa aL N=>?_;have P:hz s<=a.heap.objs.size:=zpF ab.size (zpF L.size N);have S:=L.back e aL;refine h _ a.heap.objs.size (ab.trans S) P ?_ ?_ ?_
 .show _<(Heap.push _ _).objs.size;simp[Heap.push]
 .show (Heap.push _ _).get? _=_;have:=zpG (a.heap.push emptyDict) (o:=instObj C a.heap.objs.size) rfl;rw[zqw] at this;exact this
 .exact zpD _ (zpG _ rfl)
end
structure zgv (X:Wd) (K:Frag) (C:Addr) (fN sm cB ft fI:Addr) (fdN fdt fdI:FuncData) (tk:Tok):Prop where
 inst:zF K C sioN
 new:zgx K C fN sm
 newF:FnB X K fN fdN (zG (zo 14 "__new__")) (zd (zo 14 "__new__"))
 raw:zkY K C
 obj:Top1 X "object" (.type "object")
 top:Top1 X "StringIO" (.ref C)
 bio:Top1 X "BytesIO" (.ref cB)
 ne:C≠cB
 bioK:∃o,K.lookup cB=some o
 newB:∀v,bindArgs fdN ⟨[.ref C,v],[]⟩=(do let t <-newTuple [v];let d <-alloc {cls:=.type "dict",data:=.dict #[]};pure [("cls",.ref C),("args",t),("kwargs",.ref d)])
 type:Top1 X "type" (.type "type")
 tr:za9 X K C "_StringIO__translated" ft fdt 18 "__translated"
 trB:∀us:List Value,us.length=2->PK K (bindArgs fdt ⟨us,[]⟩) ((zA (zo 18 "__translated")).zip us)
 ini:za9 X K C "__init__" fI fdI 18 "__init__"
 iniB:∀a b:Value,PK K (bindArgs fdI ⟨[a,b],[]⟩) [("self",a),("initial_value",b),("newline",.str "\n" tk)]
section
variable {c c':Ctx}{s s':Shared}{n:Nat}{K:Frag}{C x dx fN sm cB ft fI:Addr}{fdN fdt fdI:FuncData}{tk:Tok}{init:Str}
theorem zmS:emptyDict=dictOf [] 0:=rfl
theorem zmq (O:X.Ok) (B:Blt X) (S:K.In X.kk) (R:Rm (n+4) A) (hA:A.handled=none) (Y:zgv X K C fN sm cB ft fI fdN fdt fdI tk)
  (st:X.kk.StaysIn s.heap) (D:Rdy X s) (G:Frs X A s.heap) (N:Mu X A mu) (W:Low mu s){v:Value}(rv:∀h mu,Rd h mu v (.str init)){Q:VP}
  (h:∀s' x dx,Aft X A s s'->hz s<=dx->x=dx+1->x<hz s'->zR s'.heap ([x,dx]++mu) x (.inst C dx (sioF init 0))->Q (.ref x) s'):wpAny X.M A (call (.ref C) [v]) Q E s:=by
 refine zqY ?_;obtain⟨r,g,d,t,T⟩:=s;refine zei Y.new (zJ S st) ?_;have a0:Aft X A ⟨r,g,d,t,T⟩ ⟨r,g,d,t+1,T⟩:=.tok _;have RT:Rm (n+3) (tcA A C [v] []):=R.tc;refine zjb (s:=⟨r,g,d,t+1,T⟩) (A:=tcA A C [v] []) (mu:=mu) (n:=n+2) O S RT Y.newF Y.raw Y.obj Y.top Y.bio Y.ne Y.bioK Y.newB st ⟨zp0 D.tk,D.tb⟩ G.to ⟨N.tb,N.fs⟩ W λi dx U k u ex ed=>?_;have H:Aft X A ⟨r,g,d,t+1,T⟩ i:=Aft.tc.mp U;have l:=a0.trans H;have y:=zH O G l st;have F:=zJ S y;have ia:InstAt i.heap (dx+1) (instObj C dx) C (some emptyDict):=⟨ex,rfl,rfl,ed⟩;have I:=Y.new.self.lk (M:=X.M) F;refine zpQ (ia.type.here (I.here ⟨rfl,?_⟩));refine special_fn F ia Y.ini.find Y.ini.typ ?_;have j:∀b∈[dx+1,dx],b∉mu:=λb m q=>by
  have:=W b q;have k:r.objs.size<=dx:=k;have this:b<r.objs.size:=this;rcases memC m with rfl|m
  .omega
  .cases zqP.mp m;sleep 1
 have V:∀b∈[dx+1,dx],r.objs.size<=b:=λb m=>by
  have k:r.objs.size<=dx:=k;rcases memC m with rfl|m
  .omega
  .cases zqP.mp m;exact k
 have w:OwnOk X (tcA A C [v] []) ([dx+1,dx]++mu) [(dx+1,.inst C dx [])] i:=by
  refine⟨λp r=>?_,by simp[owns,Own.ads],λb P=>?_⟩
  .cases zqP.mp r;exact⟨ex,[],0,ed.trans (congrArg some zmS),.nil⟩
  .have P:b∈[dx+1,dx]:=P;refine⟨zpC _ P,λq=>j b P (N.fs b q),λq=>j b P (q▸N.tb),?_⟩;cases e:X.kk.get? b with
   | none=>rfl
   | some o=>exact absurd (zpI (st _ _ e)) (zpO.mpr (V b P))
 have Z:Mu X (tcA A C [v] []) ([dx+1,dx]++mu):=⟨zpw _ N.tb,λb m=>zpw _ (N.fs b m)⟩;have J:Low ([dx+1,dx]++mu) i:=λb m=>by
  rcases zpE.mp m with m|m
  .have u:dx+1<i.heap.objs.size:=u;rcases memC m with rfl|m
   .exact u
   .cases zqP.mp m;exact Nat.lt_of_succ_lt u
  .exact (Low.aft W l) b m
 refine zmZ (a:=⟨[.ref (dx+1),v],[]⟩) (A:=tcA A C [v] []) (n:=n+2) (us:=[.ref (dx+1),v,.str "\n" tk]) (ds:=[ptr (dx+1),.str init,.str "\n"]) (ow:=[(dx+1,.inst C dx [])]) (ow':=[(dx+1,.inst C dx (sioF init 0))]) (mu:=[dx+1,dx]++mu) (f:=.next) (d:=.none) O S RT Y.ini.fn (Y.iniB _ _) Y.ini.kinds Y.ini.nd (.inr ⟨rfl,rfl⟩) (zgn (n:=n+1) O B Y.inst S hA Y.type Y.tr Y.trB) ⋯ y ⟨(D.aft l).tk,(D.aft l).tb⟩ (G.aft l).to Z J (.cons (.ptr _) (.cons (rv _ _) (.cons (.str _ _) .nil))) w λv' z c hw a1=>?_;cases a1;have L:AftL X A (owns [(dx+1,Own.inst C dx [])]) i z:=⟨c.keep,c.os,c.gens,c.size,c.toks,c.live⟩;have aa:Aft X A ⟨r,g,d,t,T⟩ z:=((l.toL.trans L).fresh (fr':=[]) λb m=>.inr (zpK (V b m))).toAft;exact⟨.inr rfl,h z (dx+1) dx aa k rfl (zpM u c.size) (hw _ (zqP.mpr rfl))⟩
end
section
variable {mu mu0 fr:LA}{c c':Ctx}{s s':Shared}{n:Nat}{K:Frag}{C Cy x dx fN sm cB ft fI:Addr}{fdN fdt fdI:FuncData}{tk:Tok}{line:Str}
theorem zk9 (S:Stat X env sc) (O:X.Ok) (B:Blt X) (l:Loc X A env mu c s) (q:Top1 X "isinstance" (.builtin "isinstance")){i d p:Pos}{e:Expr}{t:Str}(r:sc.names.lookup ("isinstance":Str)=some .globalImplicit) (j:sc.names.lookup ("str":Str)=some .globalImplicit) (k:plainArg e=true) (u:Ev X A env mu e (.str t) s):Ts X A env (.Call (.Name "isinstance" i) [e,.Name "str" d] [] p) true s:=λE Q h=>by
 have key:isTrue (.Call (.Name "isinstance" i) [e,.Name "str" d] [] p) env (eval (.Call (.Name "isinstance" i) [e,.Name "str" d] [] p) env)=(do let v <-eval (.Call (.Name "isinstance" i) [e,.Name "str" d] [] p) env;standAt p;holding [v] (truthy v)):=rfl;rw[key];have z:∀{K:List Value->Shared->Prop}{E:VP},(∀tk s',Aft X A s s'->K [.str t tk,.type "str"] s')->wpAny X.M A (spliced (backTo p (starEach [e,.Name "str" d] env))) K E s:=λm=>
  spliced_more (u _ _ λv n b f=>spliced_more (zw S O (l.aft O b).stay j (by ext) B.str (spliced_nil (by cases f;exact m _ _ b))) (zh ⋯)) (zh k)
 refine wpAny_bind (wpAny_Call_NameR (zw S O l.stay r (by ext) q (Calls.callWith_builtin (zak (by simp[k];rfl)) ?_)));have o:=@z (λvs s'=>wpAny X.M A (call (.builtin "isinstance") vs) (λv g=>wpAny X.M A (do standAt p;holding [v] (truthy v)) Q E g) E s') E λtk s' a=>call_isinstance_yes (T:="str") (typeIs_str s' t tk) ∅ (by rw[zqD];kernel_rfl) (zpQ (zqI (zpS (wpAny_truthy_bool (h _ a)))));rw[zh k] at o ⊢;exact Calls.evalArgs_plain o
theorem zjK (F:Frm X A env sc mu fr) (O:X.Ok){P:List (Addr×Own)->Prop}{Pn:Addr->List (Addr×Own)->Prop}{y:Str}{v p w:Pos}{t e:Expr}{n:List Stmt}(x:∀s,Loc X A env mu c s->Ts X A env t true s) (B:sc.names.lookup y=some .local) (C:zah e=true) (D:∀s,Loc X A env mu c s->EvG X A env mu e Pn s)
  (h:∀b ow,Pn b ow->(∀z∈owns ow,z∉mu)->Frm X A env sc (owns ow++mu) (owns ow++fr)->StG X A env mu0 (owns ow++fr) (owns ow++mu) {c.set y (ptr b) with own:=ow++c.own} n P):StG X A env mu0 fr mu c (.If t [.Assign [.Name y v] e p] [] w::n) P:=λs l E Q G=>by
 refine zpT (wpAny_If (x s l _ _ λs₀ a=>?_));rw[if_pos rfl];have d:=l.aft O a;refine zpT (wpAny_Assign_Name (D s₀ d _ _ λb ow o H f r I J=>?_) (zC C));have g:=F.grow (owns ow);have l₂:=d.own_newL O f r I J;refine zq g l₂ B (.ptr b) λu i j=>wpAny_execs_nil ?_;have k:∀b∈owns ow,hz s<=b:=λb m=>zpF a.size (r b m).1;exact zhJ (c:=c) (zV _ _) k ((a.toL.trans f.toL).trans i) j (h b ow H (λz m q=>absurd (l.low z q) (zpO.mpr (k z m))) g) G
theorem zf0 (S:Stat X env sc) (O:X.Ok) (l:Loc X A env mu c s) (hd:Top1 X "deque" (.type "collections.deque")){f p:Pos}(i:sc.names.lookup ("deque":Str)=some .globalImplicit):EvG X A env mu (.Call (.Name "deque" f) [] [] p) (λb ow=>ow=[(b,.raw dqO)]) s:=λE Q h=>by
 refine zqZ (zw S O l.stay i (by ext) hd (zy O (mu:=mu) (ds:=[]) (.type _) l.stay l.frs ⋯ rfl evs_nil λvs a d e=>?_));cases e;refine zjd λh' k g z=>?_;have j:Aft X A a {a with heap:=h'}:=.heap (t:=a.toks) k z (zpB _);refine h a.heap.objs.size [(a.heap.objs.size,.raw dqO)] _ rfl (d.trans j) (λb m=>?_) (by simp[owns,Own.ads]) λp n=>?_
 .cases zqP.mp (show b∈[a.heap.objs.size] from m);exact⟨d.size,zpI g⟩
 .cases zqP.mp n;exact g
theorem zn5 (S:Stat X env sc) (O:X.Ok) (B:Blt X) (o:K.In X.kk) (R:Rm (n+4) A) (t:A.handled=none) (Y:zgv X K Cy fN sm cB ft fI fdN fdt fdI tk) (l:Loc X A env mu c s){u p:Pos}{e:Expr}(v:sc.names.lookup ("StringIO":Str)=some .globalImplicit) (j:plainArg e=true) (w:Ev X A env mu e (.str line) s) :
  EvG X A env mu (.Call (.Name "StringIO" u) [e] [] p) (λb ow=>∃dy,dy≠b/\ow=[(b,.inst Cy dy (sioF line 0))]) s:=λE Q h=>by
 refine wpAny_Call_NameR (zw S O l.stay v (by ext) Y.top (zcU O Y.new o (mu:=mu) (ds:=[.str line]) l.stay l.frs (by simp[j]) rfl (zc l.tbm j w λ_ _=>evs_nil) λvs q d f=>?_));refine Rds.one f λ_ x=>?_;have a:=l.aft O d;refine zmq (n:=n) (mu:=mu) (init:=line) O B o R t Y a.stay a.tk a.frs a.tbm a.low (λh mu=>by cases x;exact .str _ _) λg y dy i k z r C=>?_;have k:hz s<=dy:=zpF d.size k;subst z;refine h (dy+1) [(dy+1,.inst Cy dy (sioF line 0))] g ⟨dy,zqV (zpY dy),rfl⟩ (d.trans i) (λb m=>?_) ?_ λp j=>?_
 .have m:b∈[dy+1,dy]:=m;refine memK m ?_ λm=>?_
  .exact ⟨Nat.le_succ_of_le k,r⟩
  .cases zqP.mp m;exact⟨k,Nat.lt_of_succ_lt r⟩
 .show [dy+1,dy].Nodup;exact List.nodup_cons.mpr ⟨λm=>Nat.succ_ne_self dy (List.mem_singleton.mp m),by simp⟩
 .cases zqP.mp j;exact C
end
noncomputable def ixN (sc:Scope) (nm:List Str):Nat->Fds->Fds->List Stmt->Option (Fds×Fds)
 | 0,l,f,_=>some (l,f)
 | k+1,l,f,ss=>match ss with
  | []=>none
  | st::ss=>(ix1 sc nm 40 l f st).bind λq=>match q.1 with
   | .next=>ixN sc nm k q.2.1 q.2.2 ss
   | _=>none
noncomputable def lexI (y q1 q2:Addr):Fds:=[("instream",ptr y),("infile",.none),("posix",.bool true),("eof",.none),("commenters",.str "#"),("wordchars",.str lexW),("whitespace",.str " \t\r\n"),("whitespace_split",.bool false),("quotes",.str "'\""),("escape",.str "\\"),("escapedquotes",.str "\""),("state",.str " "),("pushback",ptr q1),("lineno",.int 1),("debug",.int 0),("token",.str ""),("filestack",ptr q2),("source",.none),("_punctuation_chars",.str "")]
section
variable {mu mu0 fr:LA}{c c':Ctx}{s s':Shared}{n:Nat}{K:Frag}{C Cy x dx fN sm cB ft fI:Addr}{fdN fdt fdI:FuncData}{tk:Tok}{line:Str}{pre post:List (Addr×Own)}{nm:List Str}
theorem zoo {l l' fs fs':Fds}:owns (cI l' pre post x C dx fs').own=owns (cI l pre post x C dx fs).own:=by
 show owns (pre++_::post)=owns (pre++_::post);rw[zV,zV];rfl
theorem zlS {nm:List Str}{k:Nat}{l f:Fds}{st:Stmt}{a:List Stmt}:ixN sc nm (k+1) l f (st::a)=(ix1 sc nm 40 l f st).bind λq=>match q.1 with
   | .next=>ixN sc nm k q.2.1 q.2.2 a
   | _=>none:=rfl
theorem zgL {P:List (Addr×Own)->Prop}(g:∀n,SndS X A env sc mu fr pre post x C dx nm n):∀{k:Nat}{l fs:Fds}{c:List Stmt}{l' fs':Fds},ixN sc nm k l fs c=some (l',fs')->l.lookup ("self":Str)=some (ptr x)->StG X A env mu0 fr mu (cI l' pre post x C dx fs') (c.drop k) P->StG X A env mu0 fr mu (cI l pre post x C dx fs) c P:=by
 intro k
 induction k with
 | zero=>intro _ _ _ _ _ h _ e;cases h;exact e
 | succ k i=>
  intro l fs c l' fs' h j e;cases c with
  | nil=>cases h
  | cons st c=>
   rw[zlS] at h;refine zi h λp m h=>?_;obtain⟨f,q,r⟩:=p;obtain⟨a,b⟩:=(g 40).o m j;cases f with
   | next=>exact zlh a zoo (i h b e)
   | brk=>cases h
   | cont=>cases h
   | ret d=>cases h
   | exc cls ds=>cases h
theorem zgq (O:X.Ok) (B:Blt X) (I:zF K C lexN) (d:K.In X.kk) (L:A.handled=none) (Y:zgv X K Cy fN sm cB ft fI fdN fdt fdI tk) (f:Top1 X "deque" (.type "collections.deque")) (g:Top1 X "isinstance" (.builtin "isinstance")) :
  zk1 X A (n+5) (zd (zo 28 "__init__")) (zA (zo 28 "__init__")) [ptr x,.str line,.none,.bool true,.bool false] mu [(x,.inst C dx [])] (zG (zo 28 "__init__"))
   (λow'=>∃y dy q1 q2,dy≠y/\ow'=[(q2,.raw dqO),(q1,.raw dqO),(y,.inst Cy dy (sioF line 0)),(x,.inst C dx (lexI y q1 q2))]):=λi env new fr' R q W F M=>by
 rw[L] at q;have c:dx∈fr':=M _ (by simp[owns,Own.ads]);have j:=λm=>sound (mu:=new++mu) O B (zai (k:=n+5)) R q F.toStat m;have a:(zd (zo 28 "__init__")).names.lookup ("self":Str)=some .local:=by rfl
 let N:Fds:=[("self",ptr x),("instream",.str line),("infile",.none),("posix",.bool true),("punctuation_chars",.bool false)];show StG X i env mu fr' (new++mu) (cI N [] [] x C dx []) _ _;show (_:List Stmt->_->Prop) (_::_) _;refine zjK (Pn:=λb ow=>∃dy,dy≠b/\ow=[(b,.inst Cy dy (sioF line 0))]) F O (λs l=>zk9 (t:=line) F.toStat O B l g ⋯ ⋯ ⋯ ((j 3).e ⋯ s l)) ⋯ ⋯ (λs l=>zn5 (n:=n) F.toStat O B d (show Rm (n+4) i from ⟨by have:=R.units;sleep 33,by have:=R.depth;sleep 34⟩) q Y l ⋯ ⋯ ((j 3).e ⋯ s l)) λy ow hd P r=>hd.elim λdy hd=>?_;have u:=hd.1;have v:=hd.2;subst v;let p:Fds:=[("self",ptr x),("instream",ptr y),("infile",.none),("posix",.bool true),("punctuation_chars",.bool false)];let G:Fds:=[("instream",ptr y),("infile",.none),("posix",.bool true),("eof",.none),("commenters",.str "#"),("wordchars",.str lexW),("whitespace",.str " \t\r\n"),("whitespace_split",.bool false),("quotes",.str "'\""),("escape",.str "\\"),("escapedquotes",.str "\""),("state",.str " ")];show StG X i env mu _ _ (cI p [(y,.inst Cy dy (sioF line 0))] [] x C dx []) _ _;have w:=sndS (nm:=lexN) (pre:=[(y,.inst Cy dy (sioF line 0))]) (post:=[]) (x:=x) (dx:=dx) O R r I d a (λh=>absurd h (by ext)) (zpw _ c);refine zgL w (k:=12) (l':=p) (fs':=G) ∅ ⋯ ?_;show (_:List Stmt->_->Prop) (_::_) _;refine zcN (x:=x) (C:=C) (dx:=dx) (pre:=[(y,.inst Cy dy (sioF line 0))]) (post:=[]) (o:=.raw dqO) r O I d a (by ext) ⋯ ⋯ (zpw _ c) (by ext) (by show 12<=500;decide) ⋯ (λs l=>zf0 r.toStat O l f ∅) λq1 Q z=>?_;let H:Fds:=setL G "pushback" (ptr q1);let J:Fds:=H++([("lineno",.int 1),("debug",.int 0),("token",.str "")]:Fds);show StG X i env mu _ _ (cI p [(q1,.raw dqO),(y,.inst Cy dy (sioF line 0))] [] x C dx H) _ _;have D:=sndS (nm:=lexN) (pre:=[(q1,.raw dqO),(y,.inst Cy dy (sioF line 0))]) (post:=[]) (x:=x) (dx:=dx) O R z I d a (λh=>absurd h (by ext)) (zpw _ (zpw _ c));refine zgL D (k:=3) (l':=p) (fs':=J) ⋯ ⋯ ?_;show (_:List Stmt->_->Prop) (_::_) _;refine zcN (x:=x) (C:=C) (dx:=dx) (pre:=[(q1,.raw dqO),(y,.inst Cy dy (sioF line 0))]) (post:=[]) (o:=.raw dqO) z O I d a (by ext) ⋯ ⋯ (zpw _ (zpw _ c)) (by ext) (by show 16<=500;decide) ⋯ (λs l=>zf0 z.toStat O l f ∅) λq2 S T=>?_;let U:Fds:=setL J "filestack" (ptr q2);let V:Fds:=[("self",ptr x),("instream",ptr y),("infile",.none),("posix",.bool true),("punctuation_chars",.str "")];show StG X i env mu _ _ (cI p [(q2,.raw dqO),(q1,.raw dqO),(y,.inst Cy dy (sioF line 0))] [] x C dx U) _ _;have E:=sndS (nm:=lexN) (pre:=[(q2,.raw dqO),(q1,.raw dqO),(y,.inst Cy dy (sioF line 0))]) (post:=[]) (x:=x) (dx:=dx) O R T I d a (λh=>absurd h (by ext)) (zpw _ (zpw _ (zpw _ c)));refine zgL E (k:=4) (l':=V) (fs':=lexI y q1 q2) ⋯ ⋯ ?_
 conv=>arg 8;whnf
 exact zny (λb m=>zpw _ (zpw _ (zpw _ (zpw _ m)))) ⟨y,dy,q1,q2,u,rfl⟩
end
theorem zhZ {a:Type}{x dx y dy q1 q2:a}:List.Perm [q2,q1,y,dy,x,dx] [x,dx,y,dy,q1,q2]:=
 (show List.Perm ([q2,q1,y,dy]++[x,dx]) ([x,dx]++[q2,q1,y,dy]) from List.perm_append_comm).trans (((show List.Perm ([q2,q1]++[y,dy]) ([y,dy]++[q2,q1]) from List.perm_append_comm).trans ((List.Perm.swap q1 q2 []).append_left [y,dy])).append_left [x,dx])
structure zim (X:Wd) (K:Frag) (C Cy fN sm cB ft fI fL:Addr) (fdN fdt fdI fdL:FuncData) (tk:Tok):Prop where
 lex:zF K C lexN
 makes:makesIn K C=true
 keep:keepIn K (.ref C)=true
 ini:za9 X K C "__init__" fL fdL 28 "__init__"
 iniB:∀a b c:Value,PK K (bindArgs fdL ⟨[a,b],[("posix",c)]⟩) [("self",a),("instream",b),("infile",.none),("posix",c),("punctuation_chars",.bool false)]
 top:Top1 X "shlex" (.ref C)
 sio:zgv X K Cy fN sm cB ft fI fdN fdt fdI tk
 deque:Top1 X "deque" (.type "collections.deque")
 isi:Top1 X "isinstance" (.builtin "isinstance")
def lexP (C Cy:Addr) (line:Str) (x:Addr) (ow:List (Addr×Own)):Prop:=∃dx y dy q1 q2,ow=[(x,.inst C dx (lexI y q1 q2)),(y,.inst Cy dy (sioF line 0)),(q1,.raw dqO),(q2,.raw dqO)]
section
variable {mu mu0 fr:LA}{c c':Ctx}{s s':Shared}{n:Nat}{K:Frag}{C Cy x dx fN sm cB ft fI fL:Addr}{fdN fdt fdI fdL:FuncData}{tk:Tok}{line:Str}{pre post:List (Addr×Own)}{nm:List Str}
theorem zmr (O:X.Ok) (B:Blt X) (N:K.In X.kk) (R:Rm (n+7) A) (Z:A.handled=none) (Y:zim X K C Cy fN sm cB ft fI fL fdN fdt fdI fdL tk)
  (st:X.kk.StaysIn s.heap) (H:Rdy X s) (I:Frs X A s.heap) (L:Mu X A mu) (V:Low mu s){v:Value}(rv:∀h mu,Rd h mu v (.str line)){Q:VP}
  (h:∀s' x ow,lexP C Cy line x ow->Aft X A s s'->(∀b∈owns ow,hz s<=b/\b<hz s')->(owns ow).Nodup->(∀p∈ow,zR s'.heap (owns ow++mu) p.1 p.2)->Q (.ref x) s'):wpAny X.M A (call (.ref C) [v] [("posix",.bool true)]) Q E s:=by
 refine zqY ?_;obtain⟨c,g,d,t,z⟩:=s;have P:=zJ N st;refine make_core (makes_of P Y.makes) (looks_findIn P Y.ini.find) (λJ=>bind_fn P J Y.ini.typ) (.inl ⋯) ?_;have W:((c.push emptyDict).push (instObj C c.objs.size)).get? (c.objs.size+1)=some (instObj C c.objs.size):=by
  have:=zpG (c.push emptyDict) (o:=instObj C c.objs.size) rfl;rw[zqw] at this;exact this
 have hd:((c.push emptyDict).push (instObj C c.objs.size)).get? c.objs.size=some emptyDict:=zpD _ (zpG _ rfl);have i:Aft X A ⟨c,g,d,t,z⟩ ⟨(c.push emptyDict).push (instObj C c.objs.size),g,d,t,z⟩:=(Aft.push (s:=⟨c,g,d,t,z⟩) emptyDict).trans (.push _);have D:=zH O I i st;have l:∀b∈[c.objs.size+1,c.objs.size],c.objs.size<=b:=λb m=>by
  refine memK m ?_ λm=>?_
  .exact zqz _
  .cases zqP.mp m;exact zpB _
 have j:∀b∈[c.objs.size+1,c.objs.size],b∉mu:=λb m q=>zpZ _ (zpM (V b q) (l b m));have w:OwnOk X (tcA A C [v] [("posix",.bool true)]) ([c.objs.size+1,c.objs.size]++mu) [(c.objs.size+1,.inst C c.objs.size [])] ⟨(c.push emptyDict).push (instObj C c.objs.size),g,d,t,z⟩:=by
  refine⟨λp c=>?_,by simp[owns,Own.ads],λb r=>?_⟩
  .cases zqP.mp c;exact⟨W,[],0,hd.trans (congrArg some zmS),.nil⟩
  .have r:b∈[c.objs.size+1,c.objs.size]:=r;refine⟨zpC _ r,λq=>j b r (L.fs b q),λq=>j b r (q▸L.tb),?_⟩;cases e:X.kk.get? b with
   | none=>rfl
   | some o=>exact absurd (zpI (st _ _ e)) (zpO.mpr (l b r))
 have S:Mu X (tcA A C [v] [("posix",.bool true)]) ([c.objs.size+1,c.objs.size]++mu):=⟨zpw _ L.tb,λb m=>zpw _ (L.fs b m)⟩;have F:Low ([c.objs.size+1,c.objs.size]++mu) ⟨(c.push emptyDict).push (instObj C c.objs.size),g,d,t,z⟩:=λb m=>by
  rcases zpE.mp m with m|m
  .refine memK m ?_ λm=>?_
   .exact zpI W
   .cases zqP.mp m;exact zpI hd
  .exact (Low.aft V i) b m
 refine zoi (a:=⟨[.ref (c.objs.size+1),v],[("posix",.bool true)]⟩) (A:=tcA A C [v] [("posix",.bool true)]) (n:=n+5) (us:=[.ref (c.objs.size+1),v,.none,.bool true,.bool false]) (ds:=[ptr (c.objs.size+1),.str line,.none,.bool true,.bool false]) (ow:=[(c.objs.size+1,.inst C c.objs.size [])]) (mu:=[c.objs.size+1,c.objs.size]++mu) O N R.tc Y.ini.fn (Y.iniB _ _ _) Y.ini.kinds Y.ini.nd (zgq (n:=n) (line:=line) O B Y.lex N Z Y.sio Y.deque Y.isi) D ⟨(H.aft i).tk,(H.aft i).tb⟩ (I.aft i).to S F (.cons (.ptr _) (.cons (rv _ _) (.cons .none (.cons (.bool _) (.cons (.bool _) .nil))))) w λk ow' f hP r T ho=>?_;have G:AftL X A (owns [(c.objs.size+1,Own.inst C c.objs.size [])]) ⟨(c.push emptyDict).push (instObj C c.objs.size),g,d,t,z⟩ k:=⟨f.keep,f.os,f.gens,f.size,f.toks,f.live⟩;have aa:Aft X A ⟨c,g,d,t,z⟩ k:=((i.toL.trans G).fresh (fr':=[]) λb m=>.inr (zpK (l b m))).toAft;obtain⟨y,dy,q1,q2,a0,rfl⟩:=hP;have u:∀b,b∈[c.objs.size+1,c.objs.size,y,dy,q1,q2]->b∈[q2,q1,y,dy,c.objs.size+1,c.objs.size]:=λb m=>zhZ.mem_iff.mpr m;refine⟨rfl,h k (c.objs.size+1) [(c.objs.size+1,.inst C c.objs.size (lexI y q1 q2)),(y,.inst Cy dy (sioF line 0)),(q1,.raw dqO),(q2,.raw dqO)] ⟨_,y,dy,q1,q2,rfl⟩ aa (λb m=>?_) ?_ λp U=>?_⟩
 .obtain⟨h1,h2⟩:=r b (u b m);exact⟨h1.elim (l b) λq=>zpF i.size q,h2⟩
 .have T:[q2,q1,y,dy,c.objs.size+1,c.objs.size].Nodup:=T;show [c.objs.size+1,c.objs.size,y,dy,q1,q2].Nodup;exact zhZ.nodup_iff.mp T
 .have hm:p∈[(q2,Own.raw dqO),(q1,Own.raw dqO),(y,Own.inst Cy dy (sioF line 0)),(c.objs.size+1,Own.inst C c.objs.size (lexI y q1 q2))]:=List.mem_reverse.mpr U;refine(ho p hm).sub λb m=>?_;rcases zpE.mp m with m|m
  .exact zpC _ (u b m)
  .exact zpw _ (zpw _ m)
end
section
variable {mu mu0 fr:LA}{c c':Ctx}{s s':Shared}{n:Nat}{K:Frag}{C Cy x y dx dy q1 q2 fN sm cB ft fI fL fa fi fc fR fT fG fX fJ pp fg:Addr}{fdN fdt fdI fdL fd fdc fdr fdg fdT fdG fdX fdJ:FuncData}{tk:Tok}{line:Str}{ow ow' pre post:List (Addr×Own)}{nm:List Str}{body:List Stmt}{ps:List Str}{us:List Value}{ds:List PyData}{d:PyData}{a:Args}{names:List Str}{fs:Fds}
theorem zn6 (S:Stat X env sc) (O:X.Ok) (B:Blt X) (o:K.In X.kk) (R:Rm (n+7) A) (u:A.handled=none) (Y:zim X K C Cy fN sm cB ft fI fL fdN fdt fdI fdL tk) (l:Loc X A env mu c s){w p y D F:Pos}(G:sc.names.lookup ("shlex":Str)=some .globalImplicit) (H:sc.names.lookup ("s":Str)=some .local) (q:sc.names.lookup ("posix":Str)=some .local) (I:c.loc.lookup ("s":Str)=some (.str line)) (J:c.loc.lookup ("posix":Str)=some (.bool true)) :
  EvG X A env mu (.Call (.Name "shlex" w) [.Name "s" y] [⟨some "posix",.Name "posix" D,F⟩] p) (lexP C Cy line) s:=λE Q h=>by
 refine wpAny_Call_Name_kw (zw S O l.stay G (by ext) Y.top (callWith_KW (h₀:=X.kk) o Y.keep ⋯ ?_));refine spliced_more (zf S l H (by ext) I _ _ λv r a f=>spliced_nil (kwAll_cons (zf S (l.aft O a) q (by ext) J _ _ λT e d g=>kwAll_nil ?_))) (zh ⋯);have l₂:=(l.aft O a).aft O d;have i:=zJ o l₂.stay;cases g;refine⟨i,?_⟩;show wpAny X.M A (call (.ref C) [v] [("posix",.bool true)]) Q E e;refine zmr (n:=n) (mu:=mu) (line:=line) O B o R u Y l₂.stay l₂.tk l₂.frs l₂.tbm l₂.low (λh mu=>by cases f;exact .str _ _) λj x ow L k t N P=>?_;have z:hz s<=hz e:=(a.trans d).size;exact h x ow j L ((a.trans d).trans k) (λb m=>⟨zpF z (t b m).1,(t b m).2⟩) N P
theorem zcO (F:Frm X A env sc mu fr) (O:X.Ok) (I:zF K C nm) (t:K.In X.kk){loc fs:Fds}{v f:Str}{d:PyData}{w ap p:Pos}{e:Expr}(y:sc.names.lookup v=some .local) (k:(v==("__debug__":Str))=false) (z:loc.lookup v=some (ptr x)) (m:dx∈fr) (B:f∈nm) (n:fs.length<=500) (D:zah e=true)
  (G:∀s,Loc X A env mu (cI loc pre post x C dx fs) s->Ev X A env mu e d s):St1 X A env mu fr (cI loc pre post x C dx fs) (.Assign [.Attribute (.Name v w) f ap] e p) .next (cI loc pre post x C dx (setL fs f d)):=λs l E Q h _=>by
 refine plainObj_wpAny_Assign_Attribute (G s l _ _ λv o a c=>zf F.toStat (l.aft O a) y k z _ _ λu q b g=>?_) (zC D);cases g;exact zdp I t ((l.aft O a).aft O b) rfl m B n (c.aft l.tbm b) λr i j=>h _ _ ((a.trans b).toL.trans i) j rfl
theorem zkp (S:Stat X env sc) (O:X.Ok){T:String}(r:sc.names.lookup (T:Str)=some .globalImplicit) (hd:(((T:String):Str)==("__debug__":Str))=false) (t:Top1 X T (.type T)){u p:Pos}{e:Expr}{d1:PyData}(n:plainArg e=true) (o:c.own=pre++ow++post) (w:∀s,Loc X A env mu c s->Ev X A env mu e d1 s) (Cl:ClO X A mu (.type T) [d1] d ow ow') (k:owns ow'=owns ow) (m:∀b∈owns ow,b∈fr):EvW X A env mu fr c (.Call (.Name (T:Str) u) [e] [] p) d {c with own:=pre++ow'++post}:=λs l E Q h=>by
 refine wpAny_Call_NameR (zw S O l.stay r hd t (zy O (ds:=[d1]) (.type _) l.stay l.frs (by simp[n]) rfl (zc l.tbm n (w s l) λ_ _=>evs_nil) λvs q f g=>?_));have a:=l.aft O f;refine Cl _ _ _ _ a.stay a.tk a.frs a.tbm a.low g (a.lend o) λv i j x y=>?_;obtain⟨z,B⟩:=a.back O o j x k m;exact h v i (f.toL.trans z) B y
theorem zli {e:Expr}{p:Pos}{h:List Stmt}(i:∀b∈mu0,b∈mu) (j:EvW X A env mu fr c e d c'):StF X A env mu fr mu0 c (.Return (some e) p::h) (.ret d):=λs l E Q k _=>
 zpT (wpAny_Return_some (j s l _ _ λv a f _ g=>k (.ret v) a f ⟨v,rfl,g.sub i⟩))
theorem zm0 (O:X.Ok) (l:K.In X.kk) (R:Rm (n+1) A) (F:FnB X K fa fd body sc) (i:PK K (bindArgs fd a) (ps.zip us)) (c:∀x∈ps,sc.names.lookup x=some .local\/sc.names.lookup x=some .cell) (o:ps.Nodup)
  (q:∀(f:Around) (env:Env) (mu' fr':LA),Rm n f->f.handled=A.handled->InFn f env->Frm X f env sc mu' fr'->(∀y,sc.names.lookup y=some .cell->∃a,zW X f env fr' y a)->env.code=fd.code->StF X f env mu' fr' mu' (startC sc ps ds) body (.ret d))
  (st:X.kk.StaysIn s.heap) (tk:Rdy X s) (g:Frs X A s.heap) (t:Mu X A mu) (u:Low mu s) (r:Rds s.heap mu us ds){E:VP}{Q:VP}
  (h:∀v s',Aft X A s s'->Rd s'.heap mu v d->Q v s'):wpAny X.M A (call (.ref fa) a.pos a.kw) Q E s:=by
 refine zqY (za3 (ow:=[]) (a:=a) O l R F i c o st tk g t u r ⟨λp w=>(nomatch w),List.nodup_nil,λb i=>(nomatch i)⟩ λe new k j z L=>?_);refine q _ _ _ new (R.deeper _) rfl L.inf L.fr L.cel z _ L.loc _ _ (λH s' B C=>?_) λv s' _ _ _ D=>False.elim D;obtain⟨v,rfl,G⟩:=C;exact h v s' (L.back g B) (G.sub λb m=>zpw _ m)
theorem zo8 (O:X.Ok) (j:K.In X.kk) (R:Rm (n+1) A) (F:FnB X K fa fd body sc) (k:PK K (bindArgs fd a) (ps.zip us)) (g:∀x∈ps,sc.names.lookup x=some .local\/sc.names.lookup x=some .cell) (l:ps.Nodup)
  (m:∀(f:Around) (env:Env) (mu' fr':LA),Rm n f->f.handled=A.handled->InFn f env->Frm X f env sc mu' fr'->(∀y,sc.names.lookup y=some .cell->∃a,zW X f env fr' y a)->StF X f env mu' fr' mu' (startC sc ps ds) body (.ret d))
  (st:X.kk.StaysIn s.heap) (tk:Rdy X s) (i:Frs X A s.heap) (o:Mu X A mu) (p:Low mu s) (r:Rds s.heap mu us ds){E:VP}{Q:VP}
  (h:∀v s',Aft X A s s'->Rd s'.heap mu v d->Q v s'):wpAny X.M A (call (.ref fa) a.pos a.kw) Q E s:=zm0 O j R F k g l (λf env mu' fr' a b c d e _=>m f env mu' fr' a b c d e) st tk i o p r h
end
structure zkX (X:Wd) (K:Frag) (C Cy fN sm cB ft fI fL fi fc fR pp fg fT fG fX fJ:Addr) (fdN fdt fdI fdL fdc fdr fdg fdT fdG fdX fdJ:FuncData) (tk:Tok):Prop where
 it:zgy X K C Cy fi fc fR pp fg fT fG fX fJ fdc fdr fdg fdT fdG fdX fdJ
 new:zim X K C Cy fN sm cB ft fI fL fdN fdt fdI fdL tk
 len:findIn K (.ref C) "__len__"=some none
 hint:findIn K (.ref C) "__length_hint__"=some none
def zkW (line:Str) (ts:List Str):Prop:=ts.length<=1000/\line.length<=100000/\∀x y q1 q2,∃st' tok' ln' rest,Toks x y q1 q2 (.str " ") (.str "") 1 line.cps.toList ts st' tok' ln' rest
section
variable {mu mu0 fr:LA}{c c':Ctx}{s s':Shared}{n:Nat}{K:Frag}{C Cy fN sm cB ft fI fL fi fc fR pp fg fT fG fX fJ fS:Addr}{fdN fdt fdI fdL fdc fdr fdg fdT fdG fdX fdJ fdS:FuncData}{tk:Tok}{line:Str}
theorem zjh (O:X.Ok) (B:Blt X) (p:K.In X.kk) (Y:zkX X K C Cy fN sm cB ft fI fL fi fc fR pp fg fT fG fX fJ fdN fdt fdI fdL fdc fdr fdg fdT fdG fdX fdJ tk) (G:A.handled=none){ts:List Str}(h:zkW line ts) :
  ∀(c:Around) (env:Env) (mu' fr':LA),Rm (n+10) c->c.handled=A.handled->InFn c env->Frm X c env (zd (stm 29)) mu' fr'->(∀y,(zd (stm 29)).names.lookup y=some .cell->∃a,zW X c env fr' y a)->StF X c env mu' fr' mu' (startC (zd (stm 29)) (zA (stm 29)) [.str line,.bool false,.bool true]) (zG (stm 29)) (.ret (.list (ts.map .str))):=λc env mu' fr' R i P F Q=>by
 rw[G] at i;have r:=λm=>sound (mu:=mu') O B (zai (k:=n+10)) R i F.toStat m;obtain⟨H,w,h⟩:=h;let z:Fds:=[("s",.str line),("comments",.bool false),("posix",.bool true)];show StF X c env mu' fr' mu' ⟨z,[],[]⟩ _ _;show (_:List Stmt->_->Prop) (_::_) _;refine zL (c1:=⟨z,[],[]⟩) (zaq F.toStat O (d:=.str _) ⋯ ⋯ λs l=>ev_str) ?_;refine zL (c1:=⟨z,[],[]⟩) (zB F O (q:=false) (λs l=>zQ (a:=.str line) (b:=.none) O l.tbm ((r 3).e ⋯ s l) (λs' a=>zkr) ⋯ λu v s' a I J=>zkG R ⋯ I J) st_nil) ?_;refine zlj F O ⋯ ⋯ (λs l=>zn6 (n:=n) F.toStat O B p (show Rm (n+7) c from ⟨by have:=R.units;sleep 33,by have:=R.depth;sleep 34⟩) i Y.new l ⋯ ⋯ ⋯ ⋯ ⋯) λx ow L M f=>?_;obtain(⟨dx,y,dy,q1,q2,rfl⟩):=L;obtain(⟨st',tok',ln',rest,h⟩):=h x y q1 q2;have g:∀b∈[x,dx,y,dy,q1,q2],b∈owns [(x,Own.inst C dx (lexI y q1 q2)),(y,Own.inst Cy dy (sioF line 0)),(q1,Own.raw dqO),(q2,Own.raw dqO)]++fr':=λb m=>zpC _ m;let post:List (Addr×Own):=[(y,.inst Cy dy (sioF line 0)),(q1,.raw dqO),(q2,.raw dqO)];let j:Fds:=[("s",.str line),("comments",.bool false),("posix",.bool true),("lex",ptr x)];let g1:Fds:=setL (lexI y q1 q2) "whitespace_split" (.bool true);let D:Fds:=setL g1 "commenters" (.str "");show StF X c env _ _ mu' (cI j [] post x C dx (lexI y q1 q2)) _ _;refine zL (c1:=cI j [] post x C dx g1) (zcO f O Y.it.lex p ⋯ (by ext) ⋯ (g dx (by simp)) (by ext) (by show 19<=500;decide) ⋯ λs l=>ev_bool) ?_;have E:=λm=>sound (mu:=owns [(x,Own.inst C dx (lexI y q1 q2)),(y,Own.inst Cy dy (sioF line 0)),(q1,Own.raw dqO),(q2,Own.raw dqO)]++mu') O B (zai (k:=n+10)) R i f.toStat m;refine zL (c1:=cI j [] post x C dx D) (zB f O (q:=true) (λs l=>(E 6).t ⋯ s l) (ze f (c':=cI j [] post x C dx D) (zcO f O Y.it.lex p ⋯ (by ext) ⋯ (g dx (by simp)) (by ext) (by show 19<=500;decide) ⋯ λs l=>ev_str) st_nil)) ?_;have N:line.length - line.cps.toList.length=0:=by rw[Array.length_toList];exact Nat.sub_self _
 have o:(cI j [] post x C dx D).own=[]++lexO line x C dx y Cy dy q1 q2 (lexF y q1 q2 (.str " ") (.str "") 1) line.cps.toList++[]:=by
  show _=[(x,Own.inst C dx (lexF y q1 q2 (.str " ") (.str "") 1)),(y,Own.inst Cy dy (sioF line (line.length - line.cps.toList.length))),(q1,.raw dqO),(q2,.raw dqO)];rw[N];rfl
 exact zli (λb m=>zpw _ m) (zkp (T:="list") f.toStat O ⋯ (by ext) B.list ⋯ o (λs l=>zf f.toStat l ⋯ (by ext) ⋯) (zi7 (n:=n) O B Y.it p R i w Y.len Y.hint h ⟨rfl,rfl⟩ (List.suffix_refl _) H) ⋯ λb m=>g b m)
end
theorem znn (x y q1 q2:Addr) (a:Int):tokD x (lexF y q1 q2 .none (.str "") a) []=some (.none,lexF y q1 q2 .none (.str "") a,[]):=by kernel_rfl
theorem zlc (x y q1 q2:Addr) (a:Int):tokD x (lexF y q1 q2 (.str " ") (.str "") a) []=some (.none,lexF y q1 q2 .none (.str "") a,[]):=by kernel_rfl
noncomputable def zg2:List Str->List Nat
 | []=>[]
 | [q]=>cpsL q
 | q::qs=>cpsL q++32::zg2 qs
inductive zal:List Str->List Str->Prop
 | nil:zal [] []
 | cons {w q:Str}{ws qs:List Str}:zbz w q->zal ws qs->zal (w::ws) (q::qs)
theorem zjC {x y q1 q2:Addr}{c d:List Str}(h:zal c d):∃b a,Toks x y q1 q2 (.str " ") (.str "") 1 (zg2 d) c b (.str "") 1 a:=by
 induction h with
 | nil=>exact⟨.none,[],.done (zlc ..) (List.suffix_refl _) ⟨rfl,rfl⟩⟩
 | cons h t f=>
  cases t with
  | nil=>
   have e:=h.en x y q1 q2 1;rw[List.append_nil] at e;exact⟨.none,[],.more e h.good (List.nil_suffix) ⟨rfl,rfl⟩ (.done (znn ..) (List.suffix_refl _) ⟨rfl,rfl⟩)⟩
  | cons h' t=>exact f.elim λb e=>e.elim λa g=>⟨b,a,.more (h.sp x y q1 q2 1 _) h.good ⟨cpsL _++[32],by rw[List.append_assoc];rfl⟩ ⟨rfl,rfl⟩ g⟩
theorem zal.length {a b:List Str}(h:zal a b):a.length=b.length:=by
 induction h with
 | nil=>rfl
 | cons _ _ c=>exact congrArg Nat.succ c
theorem zem:∀c:List Str,(Txt.join " " c).cps.toList=zg2 c:=λc=>by
 show (Builtin.Str.glued " " c).cps.toList=_;rw[StrLaws.glued_eq_join]
 induction c with
 | nil=>rfl
 | cons q c f=>
  cases c with
  | nil=>rfl
  | cons d c=>
   show (q++" "++Str.join " " (d::c)).cps.toList=cpsL q++32::zg2 (d::c);have e:∀a b:Str,(a++b).cps=a.cps++b.cps:=λ_ _=>rfl;rw[e,e,Array.toList_append,Array.toList_append,f,List.append_assoc]
   rfl
theorem zfO {b a:List Str}(h:zal b a):(zg2 a).length<=61 * a.length:=by
 induction h with
 | nil=>exact zqy _
 | @cons w q b a h t c=>
  have e:(cpsL q).length<=60:=zpF (zqF Array.length_toList) h.ql;cases t with
  | nil=>exact Nat.le_succ_of_le e
  | cons h' t=>
   show (cpsL q++32::zg2 _).length<=61 * (_+1);rw[zqq,Nat.mul_succ,Nat.add_comm];exact zpF (zqM (zqx c) e) (zqF (Nat.succ_add_eq_add_succ ..))
theorem zjO {b a:List Str}(h:zal b a) (c:b.length<=200):zkW (Txt.join " " a) b:=by
 have d:=zfO h;have f:=h.length;refine⟨by sleep 124,?_,λx y q1 q2=>?_⟩
 .have e:(Txt.join " " a).length=(zg2 a).length:=by rw[<-zem];exact Array.length_toList.symm
  rw[e];lia
 .obtain⟨st',rest,ht⟩:=zjC (x:=x) (y:=y) (q1:=q1) (q2:=q2) h;rw[zem];exact⟨_,_,_,_,ht⟩
section
variable {n:Nat}{K:Frag}{C Cy fN sm cB ft fI fL fi fc fR pp fg fT fG fX fJ fS:Addr}{fdN fdt fdI fdL fdc fdr fdg fdT fdG fdX fdJ fdS:FuncData}{tk:Tok}{line:Str}
theorem zgg (O:X.Ok) (B:Blt X) (d:K.In X.kk) (R:Rm (n+11) A) (e:A.handled=none) (Y:zkX X K C Cy fN sm cB ft fI fL fi fc fR pp fg fT fG fX fJ fdN fdt fdI fdL fdc fdr fdg fdT fdG fdX fdJ tk) (F:FnB X K fS fdS (zG (stm 29)) (zd (stm 29))) (f:∀v:Value,PK K (bindArgs fdS ⟨[v],[]⟩) [("s",v),("comments",.bool false),("posix",.bool true)]){ts:List Str}(g:zkW line ts):Cl X A mu (.ref fS) [.str line] (.list (ts.map .str)):=λvs s E Q st tk c i j r h=>by
 refine Rds.one r λ_ k=>?_;rename_i v;exact zo8 (a:=⟨[v],[]⟩) (us:=[v,.bool false,.bool true]) (ps:=["s","comments","posix"]) (ds:=[.str line,.bool false,.bool true]) O d R F (f v) (λy b=>.inl (by
  refine memK b ?_ λb=>?_
  .kernel_rfl
  refine memK b ?_ λb=>?_
  .kernel_rfl
  cases zqP.mp b;kernel_rfl)) (by ext) (zjh (n:=n) O B d Y e g) st tk c i j (.cons k (.cons (.bool _) (.cons (.bool _) .nil))) h
end
noncomputable def zkv (l:Fds) (v:Str):Fds:=l.filter λp=>!(p.1==v)
theorem zcR {v y:Str}{l:Fds}:(zkv l v).lookup y=bif !(y==v) then l.lookup y else none:=zaS (λy=>!(y==v)) y l
theorem zfL {v y:Str}{l:Fds}{d:PyData}(h:(zkv l v).lookup y=some d):y≠v/\l.lookup y=some d:=by
 rw[zcR] at h;exact conX h λa h=>⟨λe=>by rw[e,zqG] at a;exact absurd a (by ext),h⟩
section
variable {c c':Ctx}{s s':Shared}{n:Nat}
theorem zj3 (F:Frm X A env sc mu fr) (l:Loc X A env mu c s){v:Str}{pos:Pos}(D:sc.names.lookup v=some .local){Q:Unit->Shared->Prop}
  (h:∀s',AftL X A fr s s'->Loc X A env mu {c with loc:=zkv c.loc v} s'->Q () s'):wpAny X.M A (do bindName env v .none;unbindBehindTheSuite env v pos) Q E s:=by
 obtain⟨m,G,H⟩:=l.ns;have I:=F.lmu;refine wpAny_nameGoes_keeps (by unfold Env.kindOf;rw[F.scope];exact D) G (by rw[F.scope,F.kind];rfl) λh' w f g=>?_;have k:Keep (fsOf A) mu s.heap h':=.sameBut g I;have d:∀b o,b≠env.locals->s.heap.get? b=some o->h'.get? b=some o:=λb o n e=>(g.2 b n).trans e;refine h _ ⟨.sameBut g (zpx _ F.lfr),rfl,id,by show _<=h'.objs.size;rw[g.1];exact zpB _,zqz _,λo e=>⟨o,d _ _ (Ne.symm l.ltb) e⟩⟩ ⟨λb o e=>?_,l.tbm,?_,l.ltb,⟨_,f,λy d' e=>?_⟩,λy d' e=>?_,λy b e=>⟨(l.cis y b e).1,let ⟨i,o,r,t⟩:=(l.cis y b e).2;⟨i,o,d b o (F.cel y b e) r,t⟩⟩,⟨zpM l.tk.tk (zqz _),let ⟨o,e⟩:=l.tk.tb;⟨o,d _ _ (Ne.symm l.ltb) e⟩⟩,?_,λp z=>?_,l.ownNd,l.ownMu⟩
 .refine d b o (λq=>?_) (l.stay b o e);rw[q,F.new] at e;cases e
 .intro a ha;show a<h'.objs.size;rw[g.1];exact l.low a ha
 .obtain⟨h1,h2⟩:=zfL e;obtain⟨i,J,K⟩:=H y d' h2;exact⟨i,by simp[h1,J],K.keep k l.tbm.fs⟩
 .obtain⟨a,i,h1,h2,h3,h4⟩:=l.cell y d' e;obtain⟨o,r,t⟩:=h3;exact⟨a,i,h1,h2,⟨o,d a o (F.cel y a h1) r,t⟩,h4.keep k l.tbm.fs⟩
 .obtain⟨fl,h1,h2⟩:=l.frs;refine⟨fl,h1,λN O=>?_⟩;obtain⟨q1,L,o,es,P,q2,B,C,R,S⟩:=h2 N O
  by_cases j:L=env.locals
  .subst j;obtain⟨o',u,x,T,U,_⟩:=f;exact⟨q1,_,o',u,x,q2,B,C,T,U⟩
  .exact ⟨q1,L,o,es,P,q2,B,C,d L o j R,S⟩
 .exact (l.own p z).keep k l.tbm.fs λb j V e=>d b V (l.ownMu b (zu z j)).2.2.2.1 e
end
structure zjn (K:Frag) (C:Addr):Prop where
 find:findIn K (.ref C) "__str__"=some (some (.builtin "BaseException.__str__"))
 sub:PK K (isSubtype (.ref C) (.type "BaseException")) true
theorem zmu:plainId "BaseException.__str__"=true:=by decide +kernel
theorem zop:builtinKind "BaseException.__str__"=some .slot:=by decide +kernel
theorem zmt:splitId "BaseException.__str__"=some ("BaseException","__str__"):=by decide +kernel
theorem zor (a:Value):bindSpecial (.builtin "BaseException.__str__") a=pure (.builtin "BaseException.__str__",[a]):=
 (Slot.of (T:="BaseException") (name:="__str__") (owner:="BaseException") (n:="__str__") (by rw[typeLookup_type,builtinLookup_eq_fast];kernel_rfl) (by decide +kernel) (by decide +kernel) (by decide +kernel)
  (.inl (by decide +kernel)) (by rw[zqD];kernel_rfl)).bind a
section
variable {prog:Program}{w:World}{e t0 C:Addr}{K:Frag}{m:Str}{tk:Tok}
inductive ExcX (h:Heap) (e C:Addr) (m:Str):Prop
 | mk (o:Obj) (vs:Array Value) (t:Addr) (tk:Tok) (n:Nat):h.get? e=some o->o.cls=.ref C->o.data=.fields vs->vs[0]? = some (.ref t)->h.get? t=some (tup [.str m tk] n)->ExcX h e C m
structure zk0 (h:Heap) (e C:Addr) (m:Str):Prop where
 ex:ExcX h e C m
theorem zoq (x:zk0 s.heap e C m){Q:Fin->Shared->Prop}(a:∀tk,Q (.done (.ret (.str m tk))) s):wpAny (model prog w) A (Builtin.«BaseException.__str__» ⟨[.ref e],[]⟩) Q E s:=by
 obtain⟨o,vs,t,tk,n,b,g,c,d,f⟩:=x.ex;have args:∀{Q:Value×List Value->Shared->Prop}{E:VP},Q (.ref t,[.str m tk]) s->wpAny (model prog w) A (Builtin.BaseException.bexcArgs (.ref e)) Q E s:=λa=>by
  unfold Builtin.BaseException.bexcArgs;exact wpB (wpAny_field b c d (wpB (wpAny_seqItems f rfl (zpR a))))
 have a:=a tk;unfold Builtin.«BaseException.__str__»
 repeat (first|with_reducible refine args ?_|wp_step)
 exact a
theorem zjJ (Y:zjn K C) (b:K.In s.heap) (c:A.units<cLine) (x:zk0 s.heap e C m){Q:VP}(d:∀tk,Q (.str m tk) s):wpAny (model prog w) A (Builtin.Str.strOf (.ref e)) Q E s:=by
 obtain⟨o,vs,t,tk,n,f,g,h,i,j⟩:=id x.ex;have a:Looks (model prog w) s.heap (typeOf (.ref e)) (.ref C):=g▸(Looks.ld (part:=none) f).andThen .now;unfold Builtin.Str.strOf;rw[if_neg (by exact Bool.false_ne_true)];refine wpB (wpAny_cRoomFor c (wpB ?_));unfold callSpecial? specialOf;refine wpB (wpB (a.here ((looks_findIn b Y.find).here (zpS (wpB ?_)))));rw[zor];refine zpR (wpB (zqY (codeAny_call_builtin zmu PySem.F.entry_bexc_str (@check_slot (model prog w) _ _ _ "BaseException.__str__" "BaseException" "__str__" (.ref e) [] [] _ zop zmt (a.andThen (Y.sub.lk b)) (PySem.F.args_bexc_str _) ?_))));refine zoq x λtk=>?_;refine zpR (wpB (zpR ?_));exact zpR (d tk)
theorem znx (Y:zjn K C) (d:K.In s.heap) (f:A.units+2<cLine) (x:zk0 s.heap e C m){Q:VP}(a:∀tk,Q (.str m tk) s):wpAny (model prog w) A (call (.type "str") [.ref e]) Q E s:=
 callType_new PySem.F.called_str (by ext) (PySem.F.typeCall_str_1 _) (PySem.F.newCall_str_1 _) (λb=>PySem.F.args_object_init_2 b _) PySem.F.entry_str_new
  (meets_str_new (S:=λc R s'=>c.units+1<cLine/\K.In s'.heap/\zk0 s'.heap e C m/\∀tk,R (.ok (.ret (.str m tk))) s')
   λ_ _ c _ _ a=>zjJ (A:=c.in1) Y a.2.1 a.1 a.2.2.1 λtk=>a.2.2.2 tk)
  ⟨(show A.units+1+1<cLine from f),d,x,λtk=>⟨typeIs_str _ _ _,a tk⟩⟩
end
theorem zeU {v y:Str}(h:y≠v){l:Fds}:(zkv l v).lookup y=l.lookup y:=by
 rw[zcR,zpH.mpr h];rfl
section
variable {c c1 c':Ctx}{s s':Shared}{n:Nat}{K:Frag}{e C:Addr}{m:Str}
theorem Loc.sub (l:Loc X A env mu c s){f:Fds}(h:∀y d,f.lookup y=some d->c.loc.lookup y=some d):Loc X A env mu {c with loc:=f} s:=
 ⟨l.stay,l.tbm,l.low,l.ltb,let ⟨m,a,b⟩:=l.ns;⟨m,a,λy d e=>b y d (h y d e)⟩,l.cell,l.cis,l.tk,l.frs,l.own,l.ownNd,l.ownMu⟩
inductive zd6 (h:Heap) (mu:LA) (e C:Addr) (m:Str):Prop
 | mk (o:Obj) (vs:Array Value) (t:Addr) (tk:Tok) (n:Nat) (h1:h.get? e=some o) (h2:o.cls=.ref C) (h3:o.data=.fields vs) (h4:vs[0]? = some (.ref t)) (h5:h.get? t=some (tup [.str m tk] n)) (h6:e∉mu) (h7:t∉mu)
theorem zd6.of {h:Heap}(x:zd6 h mu e C m):zk0 h e C m:=by
 obtain⟨o,vs,t,tk,n,a,b,c,d,f,_,_⟩:=x;exact⟨o,vs,t,tk,n,a,b,c,d,f⟩
theorem zd6.aftL (x:zd6 s.heap mu e C m) (a:AftL X A fr s s') (d:Mu X A mu) (c:∀b∈fr,b∈mu):zd6 s'.heap mu e C m:=by
 obtain⟨o,vs,t,tk,n,i,j,l,p,u,f,g⟩:=x;have k:∀b o,b∉mu->s.heap.get? b=some o->s'.heap.get? b=some o:=λb o h v=>by
  obtain⟨o',w,r⟩:=a.keep b o (λq=>h ((zpz.mp q).elim (λq=>q▸d.tb) (c b))) v;rw[w,r.ex λq=>h (d.fs b q)]
 exact⟨o,vs,t,tk,n,k _ _ f i,j,l,p,k _ _ g u,f,g⟩
theorem zd6.fly {h₀ h:Heap}{L:Addr}(fl:Fly h₀ mu L e (.ref C) [.str m] h):zd6 h mu e C m:=by
 obtain⟨o',a,k,l,n,b,c,d,f,g,i,j,_⟩:=fl.ex;obtain⟨_,rfl,o⟩:=j.oneE;obtain⟨_,rfl⟩:=o.strE;exact⟨o',a,k,_,n,b,c,d,f,g,fl.out,i⟩
theorem zlM {h₀:Heap}(h:Frs X A s.heap) (r:Low mu s) (t:Mu X A mu) (a:∀L,Fly h₀ mu L e (.ref C) [.str m] s.heap) (L:Addr) (i:h₀.objs.size<=hz s){Q':Unit->Shared->Prop}{E':VP}
  (k:∀d,zbn A h₀ s.heap d->hz s<=d.objs.size->zd6 d mu e C m->Q' () {s with heap:=d}):wpAny X.M A (setFlight (.ref e) none) Q' E' s:=by
 obtain⟨o',j,D,u,E,f,v,g,x,y,z,B,c⟩:=(a L).ex;rcases c with c|⟨T',oT',ts',fl',w,_⟩
 .unfold setFlight;refine zpQ (wpAny_field f g c ?_);rw[if_neg (by ext)];exact zpR (k s.heap ⟨λb o _ q=>⟨o,q,.refl⟩,λb o _ q _=>q⟩ (zpB _) (.fly (a L)))
 .exact zc9 (X:=X) (h₀:=h₀) h r t (a L) ⟨o',j,T',f,g,w⟩ i λd l n p=>k d l p (.fly (n L))
theorem ziv (O:X.Ok) (B:Blt X) (KX:K.In X.kk) (F:Frm X A env sc mu fr) (I:InFn A env) (R:Rm (n+1) A) (Y:zjn K C){x v y:Str}{xp hp p yp sp vp cp ap:Pos}{body:List Stmt}{T:Value}(hk:sc.names.lookup x=some .globalImplicit) (hd:(x==("__debug__":Str))=false) (hT:Top1 X x T) (hm:Mt X T (.ref C) true)
  (hv:sc.names.lookup v=some .local) (a6:(v==("__debug__":Str))=false) (hy:sc.names.lookup y=some .local) (a7:y≠v) (hs:sc.names.lookup ("str":Str)=some .globalImplicit)
  (ho:owns c1.own=owns c.own) (hn:c1.loc.lookup v=none) (hb:St X A env mu fr c body (.exc (.ref C) [.str m]) c1) :
  St1 X A env mu fr c (.Try body [.ExceptHandler (some (.Name x xp)) (some v) [.Assign [.Name y yp] (.Call (.Name "str" sp) [.Name v vp] [] cp) ap] hp] [] [] p) .next {c1 with loc:=setL c1.loc y (.str m)}:=λs l E Q hQ hE=>by
 obtain⟨a8,a9⟩:=I.fr;refine wpAny_Try_except (hb s l _ _ (λf' s' _ _ hf=>False.elim hf) λv' k r f b0=>?_);obtain⟨e,rfl,b1⟩:=b0;refine ze1 (h₀:=s.heap) a9 I.at_ f.frs f.low f.tbm b1 r.size λh2 J L b2 M=>?_;have l₂:=l.noted f J M ho;have u:=r.noted J M l.frs;refine zc9 (h₀:=s.heap) l₂.frs l₂.low l₂.tbm L b2 u.size λh3 N w P=>?_;have g:=l.noted l₂ N P ho;have D:=u.noted N P l.frs;obtain⟨o,vs,t,us,n',e1,e2,_⟩:=(w env.locals).ex;refine wpAny_handleBy_cons (codeAny_handlers_test (zw (A:=A.mark (some (.ref e))) F.toStat O g.stay hk hd hT (hm _ _ e o _ _ g.stay e1 e2 ?_))) (by intro q;cases q);refine codeAny_handlers_suite_as ?_;have b:Loc X (A.mark (some (.ref e))) env mu c1 _:=g.mark;refine zlM (A:=A.mark (some (.ref e))) (s:={k with heap:=h3}) (h₀:=s.heap) b.frs b.low b.tbm w env.locals D.size λh4 h S b3=>?_;replace h:zbn A s.heap h3 h4:=⟨h.old,h.seq⟩;have i:=l.noted g h S ho;have U:=D.noted h S l.frs;have FM:Frm X (A.mark (some (.ref e))) env sc mu fr:=F.mark;refine zq FM i.mark hv (.ptr e) λb4 G a=>?_;have V:=zd6.aftL (A:=A) (s:={k with heap:=h4}) b3 G.unmark i.tbm F.sub;refine zpT (wpAny_Assign_Name (zqZ (zw FM.toStat O a.stay hs (by ext) B.str (zy (A:=A.mark (some (.ref e))) O (mu:=mu) (ds:=[ptr e]) (.type "str") a.stay a.frs ⋯ rfl (zc a.tbm ⋯ (zf FM.toStat a hv a6 (by show (setL c1.loc v (ptr e)).lookup v=_;rw[zk,if_pos rfl])) λ_ _=>evs_nil) λvs b5 j W=>?_))) (zC ⋯));refine Rds.one W λ_ r1=>?_;cases r1;have H:=a.aft O j;have Z:=(zd6.aftL (A:=A) V (j.unmark.toL (fr:=fr)) i.tbm F.sub).of;refine znx (K:=K) (C:=C) (m:=m) Y (zJ KX H.stay) (by exact zqf (zpF (zqo (by decide:2<=400) _) (zqs (zqu _ _) _)) R.units) Z λtk=>?_;refine zq FM H hy (.str m tk) λb6 a0 a1=>wpAny_execs_nil ?_;refine zj3 F a1.unmark hv λa2 a3 a4=>?_;refine hQ .next a2 ((((U.trans G.unmark).trans j.unmark.toL).trans a0.unmark).trans a3) (a4.sub λz d hz=>?_) rfl;have hz:(setL c1.loc y (.str m)).lookup z=some d:=hz;rw[zk] at hz;have a5:z≠v:=by
  rintro rfl
  rw[if_neg (Ne.symm a7),hn] at hz;cases hz
 show (zkv (setL (setL c1.loc v (ptr e)) y (.str m)) v).lookup z=some d;rw[zeU a5,zk,zk,if_neg a5];exact hz
end
theorem ziB:∀j:Fin 100,Builtin.Range.small 0 (2 * (j.val:Int)) 2=true/\Builtin.Range.rangeSize 0 (2 * (j.val:Int)) 2=(j.val:Int)/\Builtin.divisionGoesByPylong (2 * (j.val:Int) - 0) 2=false:=by decide +kernel
section
variable {c c1 c':Ctx}{s s':Shared}{n:Nat}{cls:Value}{ds eds:List PyData}
def EvX (X:Wd) (A:Around) (env:Env) (mu:LA) (e:Expr) (cls:Value) (eds:List PyData) (s:Shared):Prop:=∀(E:VP) (Q:VP),(∀x s',Aft X A s s'->(∀L,Fly s.heap mu L x cls eds s'.heap)->E (.ref x) s')->wpAny X.M A (eval e env) Q E s
theorem zh3 (S:Stat X env sc) (O:X.Ok) (l:Loc X A env mu c s){f:Str}{i p:Pos}{b:Value}{es:List Expr}(j:sc.names.lookup f=some .globalImplicit) (hd:(f==("__debug__":Str))=false) (T:Top1 X f b) (F:Fn X b)
  (k:es.all plainArg=true) (m:es.length=ds.length) (e:Evs X A env mu p es ds s) (C:ClE X A mu b ds cls eds):EvX X A env mu (.Call (.Name f i) es [] p) cls eds s:=λE Q h=>by
 refine zqZ (zw S O l.stay j hd T (zy O (ds:=ds) F l.stay l.frs k m e λvs s' a r=>?_));exact C vs s' E _ (zH O l.frs a l.stay) (l.tk.aft a) (l.frs.aft a) l.tbm (l.low.aft a) r λx d n g=>h x d (a.trans n) λL=>(g L).since a.size
theorem zbT (O:X.Ok){x:Str}{xp p:Pos}{e:Expr}(d:zah e=true) (f:∀s,Loc X A env mu c s->EvX X A env mu e cls eds s):St1 X A env mu fr c (.Assign [.Name x xp] e p) (.exc cls eds) c:=λs l E Q _ g=>
 wpAny_Assign_Name (f s l _ _ λy s' a b=>g (.ref y) s' a.toL (l.aft O a) ⟨y,rfl,b env.locals⟩) (zC d)
theorem zb8 {body:List Stmt}{h₀:ExceptHandler}{b:List ExceptHandler}{p:Pos}(d:St X A env mu fr c body .next c1):St1 X A env mu fr c (.Try body (h₀::b) [] [] p) .next c1:=λs l E Q e i=>by
 refine wpAny_Try_except (d s l _ _ (λf s' a l' g=>?_) λv s' _ _ h=>False.elim h);cases (show f=.next from g);exact wpAny_execs_nil (e .next s' a l' rfl)
theorem zfw {K:Frag}{fa C:Addr}(O:X.Ok) (B:Blt X) (o:K.In X.kk) (F:Frm X A env sc mu fr) (I:InFn A env) (R:Rm (n+1) A) (Y:zjn K C){p':Value}(p:Exs X (exT (.ref C) p')) (d:FnAt X fa (zA (stm 8)) (zG (stm 8)) (zd (stm 8))) (i:Top1 X "parse257" (.ref fa)) (r:A.handled=none){a k5:Int}(t:0<=a/\a<4) (u:0<=k5/\k5<5)
  (v:Top1 X "error_reply" (.ref C)) (w:Mt X (.ref C) (.ref C) true) (j:sc.names.lookup ("parse257":Str)=some .globalImplicit) (g:sc.names.lookup ("error_reply":Str)=some .globalImplicit) (x:sc.names.lookup ("refused":Str)=some .local) (k:sc.names.lookup ("name":Str)=some .local) (y:sc.names.lookup ("str":Str)=some .globalImplicit) (z:c.loc.lookup ("refused":Str)=none)
  {e:Expr}{q1 q2 D E G H J L M N P Q:Pos}(f:plainArg e=true) (m:∀s,Loc X A env mu c s->Ev X A env mu e (.str (zaZ a k5)) s) :
  St1 X A env mu fr c (.Try [.Assign [.Name "name" q1] (.Call (.Name "parse257" q2) [e] [] D) E] [.ExceptHandler (some (.Name "error_reply" G)) (some "refused") [.Assign [.Name "name" H] (.Call (.Name "str" J) [.Name "refused" L] [] M) N] P] [] [] Q) .next {c with loc:=setL c.loc "name" (.str (zcM a k5))}:=by
 have b:=zig (n:=n) (A:=A) O B r p (run257 (.ref C) p' t u);unfold end257 at b
 by_cases h:a=2
 .subst h;rw[if_pos rfl] at b;exact ziv O B o F I R Y g (by ext) v w x (by ext) k (by ext) y rfl z (zI (by intro q;cases q) (zbT O ⋯ λs l=>zh3 F.toStat O l (ds:=[.str (zaZ 2 k5)]) j (by ext) i (zcE d) (by simp[f]) rfl (zc l.tbm f (m s l) λ_ _=>evs_nil) (zm1 O R d rfl b)))
 .rw [if_neg h] at b;exact zb8 (ze F (zj F O k ⋯ λs l=>zU F.toStat O l (ds:=[.str (zaZ a k5)]) j (by ext) i (zcE d) (by simp[f]) rfl (zc l.tbm f (m s l) λ_ _=>evs_nil) (zi8 O R d rfl b)) st_nil)
end
section
variable {c c1 c':Ctx}{s s':Shared}{n:Nat}{cls:Value}{ds eds:List PyData}
theorem zl6 (F:Frm X A env sc mu fr) (O:X.Ok) (l:Loc X A env mu c s){f t e:Expr}{b:List Expr}{gs:List Comprehension}{scope:Scope}{pos:Pos}(K:ScOk scope c) (i:EvX X A env mu e cls eds s) (j:∀x,foldedSetIterable e env x=pure x):EvX X A env mu (.ListComp f (⟨t,e,b,0⟩::gs) scope pos) cls eds s:=λE Q h=>by
 rw[eval_ListComp];refine wpAny_comprehension_free (g:=⟨t,e,b,0⟩) (gs:=gs) rfl j (zau λx k m=>?_) K.kind K.names ?_
 .obtain ⟨d,hd⟩:=zp6.mp (K.free x k m);obtain⟨a,_,n,_⟩:=l.cell _ d hd;exact zp6.mpr ⟨a,n⟩
 exact i _ _ h
theorem zko (O:X.Ok) (w:Mu X A mu){o e:Expr}{name:Str}{ap p:Pos}{T id:String}{d0:PyData}(n:PlainAttrs T) (f:Slot T name id) (i:typeOf (.builtin id)=pure (.type "method_descriptor"))
  (q:plainBase o=true) (r:(ap.endLine==p.line)=true) (g:plainArg e=true) (t:Ev X A env mu o d0 s) (k:∀(v:Value) (s':Shared),Rd s'.heap mu v d0->s'.TypeIs v T/\∀a,v=.ref a->∃l,s'.heap.get? a=some l/\l.dict=none)
  (u:∀s',Aft X A s s'->EvX X A env mu e cls eds s'):EvX X A env mu (.Call (.Attribute o name ap) [e] [] p) cls eds s:=λE Q h=>by
 refine wpAny_Call_method (zab q) ?_ r n f i (t _ _ λv b c d=>⟨(k v b d).1,(k v b d).2,?_⟩)
 .rw [zbu (by simp[g])];show (true&&true&&decide (1+0+0<30))=true
  rfl
 .refine Calls.callWith_builtin (zak (by simp[g])) ?_;have z:∀{K:List Value->Shared->Prop},wpAny X.M A (spliced (backTo p (starEach [e] env))) K E b:=spliced_more (u b c _ _ λx s' a j=>h x s' (c.trans a) λL=>(j L).since c.size) (zh g);have m:=@z (λvs s'=>wpAny X.M A (call (.builtin id) ([v]++vs)) Q E s');rw[zh g] at m ⊢;exact Calls.evalArgs_plain m
end
section
variable {c c1 c':Ctx}{s s':Shared}{n:Nat}{cls:Value}{ds eds:List PyData}
theorem zoI {a k2:Int}(b:0<=k2/\k2<2) (h:a≠1):thingB a k2=Txt.join " " ["h",Str.ofString (toString (20+k2))]:=by
 unfold thingB;rw[if_neg h];refine dom2K b ?_ ?_<;>rfl
theorem zeK {fa C:Addr}(O:X.Ok) (B:Blt X) (F:Frm X A env sc mu fr) (I:InFn A env) (R:Rm (n+1) A){r':Value}(XE:Exs X (exT r' (.ref C))) (E:FnAt X fa (zA (stm 7)) (zG (stm 7)) (zd (stm 7))) (Ta:Top1 X "parse229" (.ref fa)) (hh:A.handled=none){b k2:Int}(h4:0<=b/\b<4) (G:0<=k2/\k2<2)
  (hT:Top1 X "error_proto" (.ref C)) (hm:Mt X (.ref C) (.ref C) true) (hk:sc.names.lookup ("parse229":Str)=some .globalImplicit) (J:sc.names.lookup ("error_proto":Str)=some .globalImplicit) (hy:sc.names.lookup ("place":Str)=some .local)
  {e:Expr}{scope:Scope}{K H L M:Nat}{q1 q2 q3 q4 q5 q6 q7 q8 q9 qa N P Q S qf qg qh qi qj qk ql:Pos}(U:plainArg e=true) (hl:(q3.endLine==qa.line)=true) (o:ScOk scope c) (p:(relS scope sc).names.lookup ("one":Str)=some .local) (V:(relS scope sc).names.lookup ("str":Str)=some .globalImplicit)
  (W:∀s,Loc X A env mu c s->Ev X A env mu e (.str (zaY b k2)) s) :
  St1 X A env mu fr c (.Try [.Assign [.Name "place" q1] (.Call (.Attribute (.Constant (.str " ") K q2) "join" q3) [.ListComp (.Call (.Name "str" q4) [.Name "one" q5] [] q6) [⟨.Name "one" q7,.Call (.Name "parse229" q8) [e,.Tuple [.Constant (.str "h") H N,.Constant (.int 21) L P] M Q] [] S,[],0⟩] scope q9] [] qa) qf] [.ExceptHandler (some (.Name "error_proto" qg)) none [.Assign [.Name "place" qh] (.Constant (.str "-") H qi) qj] qk] [] [] ql) .next {c with loc:=setL c.loc "place" (.str (thingB b k2))}:=by
 have t:=zig (n:=n) (A:=A) O B hh XE (run229 r' (.ref C) h4 G);unfold end229 at t;have args:∀s,Loc X A env mu c s->Evs X A env mu S [e,.Tuple [.Constant (.str "h") H N,.Constant (.int 21) L P] M Q] [.str (zaY b k2),zly] s:=λs l=>
  zc l.tbm U (W s l) λs' a=>zc l.tbm ⋯ (zar (l.aft O a).tbm (l.aft O a).low (zc l.tbm ⋯ ev_str λ_ _=>zc l.tbm ⋯ ev_int λ_ _=>evs_nil) (by show 2<=sizeLine;decide)) λ_ _=>evs_nil
 rcases Decidable.em (b=1) with h|h
 .rw [if_pos h] at t;have e1:thingB b k2="-":=by unfold thingB;rw[if_pos h]
  rw[e1];refine zgP (f:=.next) (c1:=c) (cls:=.ref C) (ds:=[.str (zaY b k2)]) O F I (λ_ _=>by intro q;cases q) J (by ext) hT hm rfl (zI (by intro q;cases q) (zbT O ⋯ λs l=>?_)) λe'=>ze F.mark (zj F.mark O hy ⋯ λs l=>ev_str) st_nil;have ec:∀s',Loc X A env mu c s'->EvX X A env mu (.Call (.Name "parse229" q8) [e,.Tuple [.Constant (.str "h") H N,.Constant (.int 21) L P] M Q] [] S) (.ref C) [.str (zaY b k2)] s':=λs' l'=>
   zh3 F.toStat O l' (ds:=[.str (zaY b k2),zly]) hk (by ext) Ta (zcE E) (by rw[List.all_cons,U];rfl) rfl (args s' l') (zm1 O R E rfl t)
  have j:∀(v:Value) (s':Shared),Rd s'.heap mu v (.str " ")->s'.TypeIs v "str"/\∀a,v=.ref a->∃u,s'.heap.get? a=some u/\u.dict=none:=λv s' r=>zbg r;have m:Ev X A env mu (.Constant (.str " ") K q2) (.str " ") s:=ev_str;refine zko (T:="str") (name:="join") (d0:=.str " ") (id:="str.join") O l.tbm PySem.F.plainAttrs_str PySem.F.slot_str_join PySem.F.type_str_join rfl hl rfl m j λs' a=>?_;exact zl6 F O (l.aft O a) o (ec s' (l.aft O a)) λ_=>rfl
 .rw [if_neg h] at t;rw[zoI G h];have j:∀(v:Value) (s':Shared),Rd s'.heap mu v (.str " ")->s'.TypeIs v "str"/\∀a,v=.ref a->∃u,s'.heap.get? a=some u/\u.dict=none:=λv s' r=>zbg r;have m:∀s,Ev X A env mu (.Constant (.str " ") K q2) (.str " ") s:=λs=>ev_str;refine zb8 (ze F (zj F O hy ⋯ λs l=>?_) st_nil);refine zhj (T:="str") (name:="join") (d0:=.str " ") (id:="str.join") (ds:=[.list ((["h",Str.ofString (toString (20+k2))]:List Str).map .str)]) O l PySem.F.plainAttrs_str PySem.F.slot_str_join PySem.F.type_str_join rfl hl rfl rfl (show 1<29 by decide) (m s) j (λs' a=>zc l.tbm rfl ?_ λ_ _=>evs_nil) (zkJ (x:=" ") (xs:=(["h",Str.ofString (toString (20+k2))]:List Str)) (by refine dom2K G ?_ ?_<;>decide +kernel));have l':=l.aft O a;refine zb2 F O l' o (xs:=[.str "h",.int (20+k2)]) (ys:=[[PyData.str "h"],[PyData.str (Str.ofString (toString (20+k2)))]].flatten) (zdB O hh l'.low (zU F.toStat O l' (ds:=[.str (zaY b k2),zly]) hk (by ext) Ta (zcE E) (by rw[List.all_cons,U];rfl) rfl (args s' l') (zi8 O R E rfl t))) (λ_=>rfl) ?_;refine zaB O [[PyData.str "h"],[PyData.str (Str.ofString (toString (20+k2)))]] rfl (by show 2<=sizeLine;decide) λi d ys hd w g D y Y hD Z a0=>?_;have turn:∀z,Cl X A y (.type "str") [d] z->ys=[z]->za8 X A g y Y D (comp0 scope c) (.Name "one" q7) [] (zf4 X A (.Call (.Name "str" q4) [.Name "one" q5] [] q6) (.ref D) g) d ys:=λz hz W=>by
   subst W;exact zas Z p rfl zb7 (λ_=>zaQ O hD λs acc l=>zU Z.toStat O l (ds:=[d]) V (by ext) B.str (.type _) rfl rfl (zc l.tbm rfl (zf Z.toStat l p (by ext) rfl) λ_ _=>evs_nil) hz) (λh=>by cases h)
  cases i with
  | zero=>cases hd;cases w;exact turn _ zgf rfl
  | succ i=>cases i with
   | zero=>cases hd;cases w;exact turn _ (zdT (by refine dom2K G ?_ ?_<;>decide +kernel)) rfl
   | succ k=>simp at hd
end
theorem ar2 (i:Nat):(0+(i:Int) * 2)=((2 * i:Nat):Int):=by rw[Int.zero_add,Int.mul_comm];rfl
theorem zpo {i n:Nat}(h:i<n) (a:n<60):(0<=(0+(i:Int) * 2)/\(0+(i:Int) * 2)<2 ^ 63)/\(0<=(0+(i:Int) * 2+1)/\(0+(i:Int) * 2+1)<2 ^ 63):=by
 have b:2 * i<=2 * 60:=zqN 2 (zqt (zqU h a));rw[ar2];exact⟨⟨Int.natCast_nonneg _,Int.ofNat_lt.mpr (zqf b (by ext))⟩,Int.natCast_nonneg (2 * i+1),Int.ofNat_lt.mpr (zqf (zqx b) (by ext))⟩
noncomputable def repS (y:Int):List Str:=[zaZ ((y.fdiv 30).fmod 4) (y.fmod 5),zaY ((y.fdiv 30).fmod 4) ((y.fdiv 5).fmod 2)]
noncomputable def repW (xs:List Int):List Str:=xs.flatMap repS
noncomputable def thT (y:Int):Th:=(zcM ((y.fdiv 30).fmod 4) (y.fmod 5),thingB ((y.fdiv 30).fmod 4) ((y.fdiv 5).fmod 2))
theorem zao:∀xs:List Int,(repW xs).length=2 * xs.length
 | []=>rfl
 | x::xs=>by
  have:=zao xs;show (repW xs).length+2=_;rw[zq4];lia
theorem zfz:∀(xs:List Int) (i:Nat),(repW xs).drop (2 * i)=repW (xs.drop i)
 | _,0=>by simp
 | [],i+1=>by simp[repW]
 | x::xs,i+1=>by
  have:2 * (i+1)=2 * i+1+1:=by lia
  rw[this];exact zfz xs i
theorem znD {xs:List Int}{i:Nat}{y:Int}(h:xs[i]? = some y):(repW xs).drop (2 * i)=repS y++repW (xs.drop (i+1)):=by
 rw[zfz];obtain⟨a,rfl⟩:=zpJ.mp h;rw[zp7 a]
 rfl
section
variable {n:Nat}{K:Frag}{fa fb C C':Addr}
theorem zkN (O:X.Ok) (B:Blt X) (KX:K.In X.kk) (hA:A.handled=none) (Y:zjn K C) (w:Exs X (exT (.ref C) (.ref C'))) (Fa:FnAt X fa (zA (stm 8)) (zG (stm 8)) (zd (stm 8))) (Ta:Top1 X "parse257" (.ref fa)) (Fb:FnAt X fb (zA (stm 7)) (zG (stm 7)) (zd (stm 7))) (Tb:Top1 X "parse229" (.ref fb))
  (E:Mt X (.ref C) (.ref C) true) (G:Mt X (.ref C') (.ref C') true){xs:List Int}(hl:xs.length<60){line:Str}(SP:zD X (n+1) "split" [.str line] (.list ((repW xs).map .str))) :
  zba X A (n+1) 45 [.str line] (.ret (.list (xs.map λy=>thD (thT y)))):=zP.ofF λA' env mu' fr' R o V F _=>by
 rw[hA] at o;have hs:sizeLine=2 ^ 24:=rfl;have H:=zao xs;have I:((repW xs).map PyData.str).length=2 * xs.length:=by rw[zqn,H]
 show (_:List Stmt->_->Prop) (_::_) _;refine zc3 λs0 l0=>?_;have J:=λm=>sound (mu:=mu') O B (zai (k:=n+1)) R o F.toStat m;refine zL (zj F O ⋯ ⋯ λs l=>zbw F.toStat O R o l ⋯ (by ext) SP rfl rfl (zc l.tbm ⋯ ((J 3).e ⋯ s l) λ_ _=>evs_nil)) ?_;refine zdd F O (ys:=[]) ⋯ ⋯ (λs l=>zbG evs_nil (by ext)) (λb m=>m) λb hb z=>?_;have q:=λm=>sound (mu:=b::mu') O B (zai (k:=n+1)) R o z.toStat m;let base:Ctx:=((startC (zd (stm 45)) (zA (stm 45)) [.str line]).set "words" (.list ((repW xs).map .str))).set "things" (ptr b);let h (i:Nat):Ctx:={base with own:=[(b,.lst ((xs.take i).map λy=>thD (thT y)))]};have t:h xs.length={base with own:=[(b,.lst (xs.map λy=>thD (thT y)))]}:=by
  show Ctx.mk _ _ _=_;rw[List.take_length]
 refine zL (c1:=h xs.length) (?_:St1 X A' env (b::mu') (b::fr') (h 0) _ .next (h xs.length)) ?_
 .have hr:(zac 0 2 xs.length).length=xs.length:=by rw[zx]
  have L:h xs.length=h (zac 0 2 xs.length).length:=by rw[hr]
  rw[L];have r:=ziB ⟨xs.length,by sleep 123⟩;refine zdg z O (c:=h 0) h (λi=>(h i).set "k" (.int (0+(i:Nat) * 2))) rfl (λi=>rfl) (λ_=>rfl)
   (λs l=>zeo z.toStat O o l (n:=0) (m:=2 * (xs.length:Int)) (k:=2) (j:=xs.length) ⋯ B.range ⋯ ((q 3).e ⋯ s l) (λs' a=>?_) (λs' a=>(q 3).e ⋯ s' (l.aft O a)) (by ext) r.1 r.2.1 r.2.2) ?_
  .have e0:(2 * (xs.length:Int))=(((repW xs).map PyData.str).length:Nat):=by rw[I];rfl
   rw[e0];exact zcF z.toStat O B (l.aft O a) ⋯ ⋯ (xs:=(repW xs).map .str) (by lia) ((q 3).e ⋯ s' (l.aft O a))
  intro i d hd M W p;have N:i<xs.length:=by
   have:=(zpJ.mp hd).1;rwa[hr] at this
  have P:d=.int (0+(i:Nat) * 2):=by
   rw[zX N] at hd;exact(zqr hd).symm
  subst P;refine⟨zbK p ⋯,.next,.inl rfl,?_⟩;have g:=λm=>sound (mu:=M) O B (zai (k:=n+1)) R o p.toStat m;obtain⟨y,u⟩:∃y,xs[i]? = some y:=⟨_,zpN N⟩;have v:=znD u;have f:=zpo N hl;have Z:=fmod4 (y.fdiv 30);have d5:=fmod5 y;have d2:=fmod2 (y.fdiv 5);have Q:((repW xs).map PyData.str)[(0+(i:Int) * 2).toNat]? = some (.str (zaZ ((y.fdiv 30).fmod 4) (y.fmod 5))):=by
   have S:(0+(i:Int) * 2).toNat=2 * i+0:=by rw[ar2];rfl
   rw[S,zqS,<-List.getElem?_drop,v];rfl
  have T:((repW xs).map PyData.str)[(0+(i:Int) * 2+1).toNat]? = some (.str (zaY ((y.fdiv 30).fmod 4) ((y.fdiv 5).fmod 2))):=by
   have S:(0+(i:Int) * 2+1).toNat=2 * i+1:=by rw[ar2];rfl
   rw[S,zqS,<-List.getElem?_drop,v];rfl
  have U:(xs.take (i+1)).map (λy=>thD (thT y))=(xs.take i).map (λy=>thD (thT y))++[thD (thT y)]:=by
   rw[List.take_add_one,u,zqC];rfl
  let c3:Ctx:=(h i).set "k" (.int (0+(i:Nat) * 2));let D:Ctx:={c3 with loc:=setL c3.loc "name" (.str (zcM ((y.fdiv 30).fmod 4) (y.fmod 5)))};let c5:Ctx:={D with loc:=setL D.loc "place" (.str (thingB ((y.fdiv 30).fmod 4) ((y.fdiv 5).fmod 2)))};refine zaE (c1:={c5 with own:=[(b,.lst ((xs.take i).map (λy=>thD (thT y))++[thD (thT y)]))]}) ?_ (SubL.of ⟨rfl,rfl,rfl,trivial⟩) (λx d e=>e) (by show [(b,Own.lst _)]=[(b,Own.lst _)];rw[U]);refine ze p (c':=D) (zfw (n:=n) O B KX p V R Y w Fa Ta o Z d5 (w.ok "error_reply" _ rfl).1 E ⋯ ⋯ ⋯ ⋯ ⋯ ⋯ ⋯ λs l=>?_) ?_
  .exact ev_itemList (xs:=(repW xs).map .str) (i:=0+(i:Int) * 2) O l.tbm ((g 3).e ⋯ s l) (λs' a=>(g 3).e ⋯ s' (l.aft O a)) ⋯ f.1.1 f.1.2 Q
  refine ze p (c':=c5) ?_ ?_
  .refine zeK (n:=n) (c:=D) O B p V R w Fb Tb o Z d2 ?_ G ?_ ?_ ?_ ?_ ?_ ?_ ?_ ?_ ?_
   .exact (w.ok "error_proto" _ rfl).1
   .kernel_rfl
   .kernel_rfl
   .kernel_rfl
   .kernel_rfl
   .kernel_rfl
   .exact ScOk.of ⋯
   .kernel_rfl
   .kernel_rfl
   .exact λs l=>ev_itemList (xs:=(repW xs).map .str) (i:=0+(i:Int) * 2+1) O l.tbm ((g 3).e ⋯ s l) (λs' a=>(g 4).e ⋯ s' (l.aft O a)) ⋯ f.2.1 f.2.2 T
  refine ze p (zan p O (pre:=[]) (post:=[]) (ys:=(xs.take i).map λy=>thD (thT y)) (d:=thD (thT y)) ⋯ ⋯ ⋯ rfl (by simp) ⋯ ⋯ (by rw[List.length_map,List.length_take];sleep 86) λs l=>(g 4).e ⋯ s l) st_nil
 .rw [t];refine zam (mu':=mu') (pre:=[]) (post:=[]) (x:="things") rfl ⋯ (λy m=>List.mem_cons_of_mem _ m) hb l0.tbm (λy m=>by simp[owns] at m) ?_;refine zeb (zaf O λs l=>?_) (λb m=>m);have SE:=λm=>sound (mu:=mu') O B (zai (k:=n+1)) R o F.toStat m;exact(SE 3).e ⋯ s l
end
def Hd (hd:Option Value) (h:Heap):Prop:=hd=none\/∃b o vs,hd=some (.ref b)/\h.get? b=some o/\o.data=.fields vs/\vs[2]? = some .none
inductive FrE (hd:Option Value) (mu:LA) (x:Addr) (cls:String) (m:Str) (h:Heap):Prop
 | mk (t:Addr) (ctx:Value) (tk:Tok) (n:Nat):h.get? x=some {cls:=.type cls,data:=.fields #[.ref t,.none,ctx,.none,.bool false,.none]}->(hd=none->ctx=.none)->h.get? t=some (tup [.str m tk] n)->t∉mu->FrE hd mu x cls m h
structure FrX (hd:Option Value) (h₀:Heap) (mu:LA) (x:Addr) (cls:String) (m:Str) (h:Heap):Prop where
 new:h₀.objs.size<=x
 out:x∉mu
 ex:FrE hd mu x cls m h
def Cx (h:Heap) (x:Addr):Prop:=∃o vs,h.get? x=some o/\o.data=.fields vs/\vs[2]? = some .none
theorem FrX.fly {hd:Option Value}{h₀ h:Heap}{x:Addr}{cls:String}{m:Str}(f:FrX hd h₀ mu x cls m h) (L:Addr):Fly h₀ mu L x (.type cls) [.str m] h:=by
 obtain⟨t,a,tk,n,b,_,c,d⟩:=f.ex;exact⟨f.new,f.out,_,_,t,_,n,b,rfl,rfl,rfl,c,d,.cons (.str _ _) .nil,.inl rfl⟩
theorem FrX.since {hd:Option Value}{h₀ a h:Heap}{x:Addr}{cls:String}{m:Str}(f:FrX hd a mu x cls m h) (b:h₀.objs.size<=a.objs.size):FrX hd h₀ mu x cls m h:=⟨zpF b f.new,f.out,f.ex⟩
theorem ze6:entryFor table "proto.unchain"=some Builtin.«proto.unchain»:=entryFor_of_tree ∅
section
variable {prog:Program}{w:World}{α:Type}
theorem zaH {cls j:String}{Q:α->Shared->Prop}(t:PlainExc cls) (l:Hd A.handled s.heap) (y:Low mu s)
  (h:∀h' tk x,s.toks<=tk->(∀b o,s.heap.get? b=some o->h'.get? b=some o)->s.heap.objs.size<=h'.objs.size->FrX A.handled s.heap mu x cls j h'->E (.ref x) {s with heap:=h',toks:=tk}) :
  wpAny (model prog w) A (raiseErrorWords cls j:Sem α) Q E s:=by
 obtain⟨H,g,d,T,B⟩:=s;have u:∀o1 o2:Obj,((H.push o1).push o2).objs.size=H.objs.size+2:=λo1 o2=>by rw[zqw,zqw]
 have e:∀o1:Obj,(H.push o1).objs.size=H.objs.size+1:=λo1=>zqw ..;have f:∀k,H.objs.size<=k->k∉mu:=λk z m=>absurd (y k m) (zpO.mpr z);unfold raiseErrorWords;refine wpB (wpAny_mkText (wpB ?_));unfold newExc newTuple;refine wpB (zp8 ?_);refine wpB (m:=firstArgMember _ _) (wpAny_of_eq (a:=Value.none) (by simp only [firstArgMember,t.first];rfl) ?_);rw[t.own];refine zp8 ?_;dsimp only at l h ⊢;have g1:∀(o1 o2:Obj) b o,H.get? b=some o->((H.push o1).push o2).get? b=some o:=λo1 o2 b o n=>zpD _ (zpD _ n);unfold raiseNew;refine wpB (wpAny_handled ?_);rcases l with l|⟨b,o,vs,l,n,hd,h2⟩
 .rw [l]
  first
   | refine wpAny_throw ?_
   | refine wpB (zpR (wpAny_throw ?_))
  exact h _ _ _ (zqz _) (g1 _ _) (by rw[u];sleep 14) ⟨by rw[e];sleep 14,f _ (by rw[e];sleep 14),H.objs.size,.none,T,0,zpG _ rfl,λ_=>rfl,zpD _ (zpG _ rfl),f _ (zpB _)⟩
 .rw [l];have p:=zpI n;have r:∀o1:Obj,(Value.ref b != Value.ref (H.push o1).objs.size)=true:=λo1=>by
   rw[e];rw[bne_iff_ne];intro q;cases q;exact absurd p (by show ¬(H.objs.size+1<H.objs.size);lia)
  dsimp only;rw[if_pos (r _)];refine wpB (zpS (wpAny_runValue (zp3 ze6 ?_)));unfold Builtin.«proto.unchain»;refine wpB (wpAny_field (g1 _ _ _ _ n) hd h2 ?_);rw[if_pos ⋯];refine zpR (wpB ?_);refine wpAny_mono (wpAny_setField (M:=model prog w) (A:=A) (E:=E) (i:=2) (x:=.ref b) (Q:=λ_ s'=>E (.ref (H.objs.size+1)) s') (Heap.get?_push_size _ rfl) rfl (by simp) ?_) (λ_ _ q=>wpAny_throw (by rw[e];exact q)) (λ_ _ q=>q);refine h _ _ _ (zqz _) (λc C v=>?_) (by rw[Heap.size_after_update,u];sleep 14) ⟨by sleep 14,f _ (by sleep 14),H.objs.size,.ref b,T,0,?_,λq=>(by rw[l] at q;cases q),?_,f _ (zpB _)⟩
  .rw [zp1 _ _ (by rw[e];exact zqH (zp0 (zpI v)))];exact g1 _ _ _ _ v
  .rw [<-e {cls:=.type "tuple",data:=.seq [Value.str j T].toArray}];exact zpU _ (zpG _ rfl) rfl
  .rw [zp1 _ _ (by rw[e];exact Nat.succ_ne_self _)];exact zpD _ (zpG _ rfl)
theorem zha {l:Addr}{items:Array Value}{k:Int}{t:Tok}{Q:VP}(c:Hd A.handled s.heap) (d:Low mu s) (e:s.heap.IsList l items) (g:0<=k) (m:(items.size:Int)<=k) (a:k<2 ^ 63)
  (f:∀h' tk x,s.toks<=tk->(∀b o,s.heap.get? b=some o->h'.get? b=some o)->s.heap.objs.size<=h'.objs.size->FrX A.handled s.heap mu x "IndexError" "list index out of range" h'->E (.ref x) {s with heap:=h',toks:=tk}) :
  wpAny (model prog w) A (getItem (.ref l) (.int k t)) Q E s:=by
 obtain⟨o,h,n,p,hd⟩:=id e;unfold getItem
 try with_reducible refine zpS ?_
 first|refine wpB (zpR ?_)|skip
 refine wpB (wpAny_sequenceKey e.typeIs (by ext) ?_);refine wpB (zq7 (name:=Str.ofString "__getitem__") e.typeIs PySem.F.slot_list_getitem
  (zq8 PySem.F.slot_list_getitem e.typeIs PySem.F.entry_list_getitem ?_ (PySem.F.args_list_getitem_2 _ _)))
 show wpAny _ _ (Builtin.List.listSubscript? (.int k t)>>=_) _ _ s;refine wpB (wpAny_listSubscript_int (fitsIndex_of g a) ?_);clear a;obtain⟨j,rfl⟩:=Int.eq_ofNat_of_zero_le g;have i:items[j]? = none:=Array.getElem?_eq_none (by lia);show wpAny _ _ ((seqItemAt l j>>=λr=>pure (r.map (j,·)))>>=_) _ _ s;refine wpB (wpB (wpAny_seqItemAt h hd (zpR ?_)));rw[i]
 first
  | exact wpB (wpAny_rule (zaH (mu:=mu) plainExc_IndexError c d f))
  | exact wpB (wpAny_rule (wpB (zaH (mu:=mu) plainExc_IndexError c d f)))
  | exact wpB (wpB (wpAny_rule (zaH (mu:=mu) plainExc_IndexError c d f)))
  | exact wpAny_rule (zaH (mu:=mu) plainExc_IndexError c d f)
end
inductive HeX (hd:Option Value) (fl:Value) (h₀:Heap) (mu:LA) (e:Addr) (cls:String) (m:Str) (h:Heap):Prop
 | mk (o:Obj) (vs:Array Value) (t:Addr) (tk:Tok) (n:Nat) (T:Addr) (oT:Obj) (ts:Array Value):h.get? e=some o->o.cls=.type cls->o.data=.fields vs->vs[0]? = some (.ref t)->h.get? t=some (tup [.str m tk] n)->t∉mu->(hd=none->vs[2]? = some .none)->
  vs[1]? = some (.ref T)->h₀.objs.size<=T->T∉mu->T≠e->h.get? T=some oT->oT.data=.fields ts->ts[3]? = some fl->HeX hd fl h₀ mu e cls m h
structure Held (hd:Option Value) (fl:Value) (h₀:Heap) (mu:LA) (e:Addr) (cls:String) (m:Str) (h:Heap):Prop where
 new:h₀.objs.size<=e
 out:e∉mu
 ex:HeX hd fl h₀ mu e cls m h
section
variable {outer:List Env}{c c₀ c1 c2:Ctx}{s s' s₀:Shared}{h₀:Heap}{L e:Addr}{cls:String}{m:Str}{hd:Option Value}{fl:Value}
theorem Held.fly {h:Heap}(x:Held hd fl h₀ mu e cls m h) (a:fl=.none\/fl=rawInt L):Fly h₀ mu L e (.type cls) [.str m] h:=by
 obtain⟨o,vs,t,tk,n,T,oT,ts,g,i,j,k,l,p,_,q,r,s,b,c,d,f⟩:=x.ex;exact⟨x.new,x.out,o,vs,t,_,n,g,i,j,k,l,p,.cons (.str _ _) .nil,.inr ⟨T,oT,ts,fl,q,r,s,b,c,d,f,a⟩⟩
theorem ziQ (i:A.frames=some (env::outer)) (I:env.frame=some L) (z:Frs X A s.heap) (N:Low mu s) (O:Mu X A mu) (f:FrX hd h₀ mu e cls m s.heap) (B:h₀.objs.size<=hz s){Q:Unit->Shared->Prop}
  (h:∀h',zbn A h₀ s.heap h'->Held hd (rawInt L) h₀ mu e cls m h'->hz s<=h'.objs.size->Q () {s with heap:=h'}):wpAny X.M A (noteFrame (.ref e) env) Q E s:=by
 obtain⟨t,P,tk,n,w,R,C,J⟩:=f.ex;have l:∀b,b∉mu->b∉fsOf A:=λb j q=>j (O.fs b q);have p:(env::outer).filterMap (·.frame)=fsOf A:=by unfold fsOf;rw[i];rfl
 unfold noteFrame;simp only [I];refine wpB (wpAny_field w rfl (x:=.none) ⋯ ?_);rw[if_neg (by ext)];refine wpB (wpAny_frameOf_fun (base:=hideAll s.heap (fsOf A)) i (zcD z i λa q=>hideAll_none _ q) I λd c=>?_);rw[p] at c;refine wpB (wpAny_entryPlaceOf λy D=>?_);unfold EntryCells.newEntry newFields;refine wpB (zp8 ?_ (D.sizeOk5 _ _ _ _ _));have F:=(c.2.1 e (l e f.out)).trans w;have K:=(c.2.1 t (l t J)).trans C;have k:d.objs.size=hz s:=c.1;refine wpAny_setField (Heap.get?_push_of_some _ F) rfl (by simp) ?_;have r:d.objs.size≠e:=zqH (zpI F);have S:d.objs.size≠t:=zqH (zpI K);have G:t≠e:=λq=>by rw[q,w] at C;cases C
 have u:∀b,hz s<=b->b∉mu:=λb j q=>absurd (N b q) (zpO.mpr j);refine h _ ⟨λb o j g=>?_,λb o j g H=>?_⟩ ⟨f.new,f.out,?_⟩ ?_
 .have hbe:b≠e:=λq=>absurd f.new (Nat.not_le.mpr (q▸j));rw[zp1 _ _ (Ne.symm hbe)]
  by_cases v:b∈fsOf A
  .obtain ⟨sl,hsl⟩:=c.2.2 b o g;exact⟨_,zpD _ hsl,.inr ⟨v,sl,rfl⟩⟩
  .exact ⟨o,zpD _ ((c.2.1 b v).trans g),.refl⟩
 .have hbe:b≠e:=λq=>by rw[q,w] at g;cases g;exact H _ rfl
  rw[zp1 _ _ (Ne.symm hbe)];exact zpD _ ((c.2.1 b j).trans g)
 .refine ⟨_,_,t,tk,n,d.objs.size,{cls:=.type "traceback",dict:=none,data:=.fields ([Value.none,.ref L,.none,rawInt L,.none]++(if y.isEmpty then List.replicate 6 Value.none else y)).toArray},([Value.none,.ref L,.none,rawInt L,.none]++(if y.isEmpty then List.replicate 6 Value.none else y)).toArray,Heap.get?_update_self _ (Heap.get?_push_of_some _ F) rfl,rfl,rfl,⋯,?_,J,λq=>by rw[R q];rfl,⋯,by rw[k];exact B,u _ (by rw[k];exact Nat.le_refl _),r,?_,rfl,by simp⟩
  .rw [zp1 _ _ (Ne.symm G)];exact zpD _ K
  .rw [zp1 _ _ (Ne.symm r)];exact zpG _ rfl
 .rw [Heap.size_after_update,zqw,k];exact zqz _
theorem zc8 (C:Frs X A s.heap) (x:Held hd fl h₀ mu e cls m s.heap){L':Option Addr}{Q:Unit->Shared->Prop}
  (h:∀h',zbn A h₀ s.heap h'->Held hd (L'.elim .none λf=>rawInt f) h₀ mu e cls m h'->hz s<=h'.objs.size->Q () {s with heap:=h'}):wpAny X.M A (setFlight (.ref e) L') Q E s:=by
 obtain⟨o,vs,t,tk,n,T,oT,ts,v,D,w,F,k,G,H,y,z,I,j,g,c,l⟩:=x.ex;have i:3<ts.size:=(Array.getElem?_eq_some_iff.mp l).1;unfold setFlight;refine wpB (wpAny_field v w y ?_);rw[if_pos (show (Value.ref T != Value.none)=true from by simp)];refine wpAny_setField g c i ?_;have a:∀b,b≠T->(s.heap.update T (Obj.mapFields (·.setIfInBounds 3 (L'.elim Value.none λf=>rawInt f)))).get? b=s.heap.get? b:=λb p=>zp1 _ _ (Ne.symm p);have r:t≠T:=λq=>by rw[q,g] at k;cases k;cases c
 refine h _ ⟨λb B p d=>⟨B,(a b λq=>absurd z (Nat.not_le.mpr (q▸p))).trans d,.refl⟩,λb B _ d u=>(a b λq=>by rw[q,g] at d;cases d;exact u _ c).trans d⟩ ⟨x.new,x.out,o,vs,t,tk,n,T,_,_,(a e (Ne.symm j)).trans v,D,w,F,(a t r).trans k,G,H,y,z,I,j,Heap.get?_update_self _ g (Obj.isFreed_of_fields (Obj.data_mapFields c _)),Obj.data_mapFields c _,by simp[i]⟩ (by rw[Heap.size_after_update];exact Nat.le_refl _)
theorem zfX (b:env.frame=some L) (a:Frs X A s.heap) (x:Held hd fl h₀ mu e cls m s.heap)
  (h:∀h',zbn A h₀ s.heap h'->Held hd (rawInt L) h₀ mu e cls m h'->hz s<=h'.objs.size->E (.ref e) {s with heap:=h'}):cameBackBy X.M A env E (.ref e) s:=by
 obtain⟨o,vs,t,tk,n,T,oT,ts,c,g,d,i,j,k,l,f,_⟩:=x.ex;unfold cameBackBy;refine wpB (wpAny_field c d f ?_);rw[if_neg (by show ¬((Value.ref T==Value.none)=true);simp),b];exact zc8 (L':=some L) a x h
theorem zkh (c:env.frame=some L) (a:Frs X A s.heap) (x:Held hd fl h₀ mu e cls m s.heap){b:Type}{w:String}{Q:b->Shared->Prop}
  (h:∀h',zbn A h₀ s.heap h'->Held hd (rawInt L) h₀ mu e cls m h'->hz s<=h'.objs.size->E (.ref e) {s with heap:=h'}):wpAny X.M A (PySem.passOn w (.ref e) env:Sem b) Q E s:=by
 obtain⟨o,vs,t,tk,n,T,oT,ts,d,l,f,p,q,r,u,g,_⟩:=x.ex;unfold PySem.passOn;refine wpB (wpAny_field d f g ?_);rw[if_neg (by show ¬((Value.ref T==Value.none)=true);simp),c];refine wpB (zc8 (L':=some L) (Q:=λ_ s'=>wpAny X.M A (throw (.ref e):Sem b) Q E s') a x λh' i j k=>wpAny_throw (h h' i j k))
theorem za6 (d:env.frame=some L) (x:Held hd (rawInt L) h₀ mu e cls m s.heap){Q:Unit->Shared->Prop}(h:Q () s):wpAny X.M A (noteFrame (.ref e) env) Q E s:=by
 obtain⟨o,vs,t,tk,n,T,oT,ts,f,k,g,l,p,q,r,i,u,v,j,a,b,c⟩:=x.ex;exact wpAny_noteFrame_inFlight d f g i a b c h
theorem Held.aftL (x:Held hd fl h₀ mu e cls m s.heap) (a:AftL X A fr s s') (j:Mu X A mu) (c:∀b∈fr,b∈mu):Held hd fl h₀ mu e cls m s'.heap:=by
 obtain⟨o,vs,t,tk,n,T,oT,ts,r,u,v,w,y,l,z,B,C,p,d,f,g,h⟩:=x.ex;have k:∀b o,b∉mu->s.heap.get? b=some o->s'.heap.get? b=some o:=λb o i D=>a.keep.ex (λq=>(zpz.mp q).elim (λq=>i (q▸j.tb)) λq=>i (c b q)) D λq=>i (j.fs b q);exact⟨x.new,x.out,o,vs,t,tk,n,T,oT,ts,k _ _ x.out r,u,v,w,k _ _ l y,l,z,B,C,p,d,k _ _ p f,g,h⟩
theorem Held.mono {a h:Heap}{mu':LA}(x:Held hd fl a mu e cls m h) (c:h₀.objs.size<=a.objs.size) (d:∀b∈mu',b∈mu):Held hd fl h₀ mu' e cls m h:=by
 obtain⟨o,vs,t,tk,n,T,oT,ts,k,l,p,r,s,u,v,w,y,z,f,g,i,j⟩:=x.ex;exact⟨zpF c x.new,λq=>x.out (d _ q),o,vs,t,tk,n,T,oT,ts,k,l,p,r,s,λq=>u (d _ q),v,w,zpF c y,λq=>z (d _ q),f,g,i,j⟩
theorem Held.since {a h:Heap}(x:Held hd fl a mu e cls m h) (b:h₀.objs.size<=a.objs.size):Held hd fl h₀ mu e cls m h:=x.mono b λ_ m=>m
end
section
variable {outer:List Env}{c c' c₀ c1 c2:Ctx}{s s' s₀:Shared}{cls:String}{m:Str}
def EvY (X:Wd) (A:Around) (env:Env) (mu:LA) (e:Expr) (cls:String) (m:Str) (s:Shared):Prop:=∀(E:VP) (Q:VP),(∀x s',Aft X A s s'->FrX A.handled s.heap mu x cls m s'.heap->E (.ref x) s')->wpAny X.M A (eval e env) Q E s
def TsY (X:Wd) (A:Around) (env:Env) (mu:LA) (e:Expr) (cls:String) (m:Str) (s:Shared):Prop:=∀(E:VP) (Q:Bool->Shared->Prop),(∀x s',Aft X A s s'->FrX A.handled s.heap mu x cls m s'.heap->E (.ref x) s')->wpAny X.M A (isTrue e env (eval e env)) Q E s
noncomputable abbrev outM:Str:="list index out of range"
theorem zhg (O:X.Ok) (d:Mu X A mu) (g:Low mu s){l r:Expr}{p:Pos}{xs:List PyData}{i:Int}(j:∀s',Aft X A s s'->Hd A.handled s'.heap) (k:Ev X A env mu l (.list xs) s) (m:∀s',Aft X A s s'->Ev X A env mu r (.int i) s') (o:zav r=true)
  (q:0<=i) (t:i<2 ^ 63) (w:(xs.length:Int)<=i):EvY X A env mu (.Subscript l r p) "IndexError" outM s:=λE Q h=>by
 refine Subscript_ (zaK O d k m λu v s' a y z=>?_);cases z;cases y with
 | list n e B=>
  refine tail_any ⟨_,e,rfl⟩ PySem.F.slot_list_getitem.lookup (zha (mu:=mu) (j _ a) (g.aft a) ⟨_,e,rfl,_,rfl⟩ q (by rw [zqp,B.length];exact w) t λh' tk x C b c f=>?_) (zM o _ _);exact h x _ (a.trans (.heap b c C)) (f.since a.size)
theorem znc {l r:Expr}{a:CmpOp}{p:Pos}(b:EvY X A env mu l cls m s) (c:behindInMarks a r=false):TsY X A env mu (.Compare l [a] [r] p) cls m s:=λE Q h=>
 wpAny_isTrue_Compare1 (b _ _ h) c
theorem zdi (O:X.Ok){x:Str}{xp p:Pos}{e:Expr}(b:zah e=true) (d:∀s,Loc X A env mu c s->EvY X A env mu e cls m s):St1 X A env mu fr c (.Assign [.Name x xp] e p) (.exc (.type cls) [.str m]) c:=
 zbT O b λs l E Q h=>d s l E Q λx s' a f=>h x s' a f.fly
def zaM (X:Wd) (A:Around) (env:Env) (mu fr:LA) (c:Ctx) (t:Sem Flow) (cls:String) (m:Str) (c':Ctx):Prop:=∀s,Loc X A env mu c s->∀(E:VP) (Q:Flow->Shared->Prop),(∀e s',AftL X A fr s s'->Loc X A env mu c' s'->Held A.handled (rawInt env.locals) s.heap mu e cls m s'.heap->E (.ref e) s')->wpAny X.M A t Q E s
theorem zaM.st1 {st:Stmt}(h:zaM X A env mu fr c (exec st env) cls m c'):St1 X A env mu fr c st (.exc (.type cls) [.str m]) c':=λs l E Q _ b=>h s l E Q λe s' a l' x=>b _ s' a l' ⟨e,rfl,x.fly (.inr rfl)⟩
theorem zfC {st:Stmt}{a:List Stmt}(d:St1 X A env mu fr c st .next c1) (f:zaM X A env mu fr c1 (execs a env) cls m c'):zaM X A env mu fr c (execs (st::a) env) cls m c':=λs l E Q h=>
 zpT (d s l E _ (λg s' b l' i=>by
  cases (show g=.next from i);exact f s' l' E Q λe j k n x=>h e j (b.trans k) n (x.since b.size)) λv s' _ _ o=>False.elim o)
theorem zbq {st:Stmt}{a:List Stmt}(b:zaM X A env mu fr c (exec st env) cls m c'):zaM X A env mu fr c (execs (st::a) env) cls m c':=λs l E Q h=>
 zpT (b s l E _ h)
theorem zeS (O:X.Ok) (I:InFn A env){t:Expr}{body:List Stmt}{p:Pos}{J:Nat->Ctx->Prop}{m0:Nat}(K:J m0 c) (z:owns c'.own=owns c.own)
  (h:∀k c,J k c->(c=c'/\∀s,Loc X A env mu c s->TsY X A env mu t cls m s)\/((∀s,Loc X A env mu c s->Ts X A env t true s)/\∃c2 j,St X A env mu fr c body .next c2/\j<k/\J j c2)) :
  zaM X A env mu fr c (exec (.While t body [] p) env) cls m c':=λs l E Q L=>by
 obtain⟨o,q⟩:=I.fr;refine wpAny_While ?_;refine codeAny_whileLoop (WhI X A env mu fr J s) (λk s' M=>?_) m0 ⟨c,K,l,.refl⟩;obtain⟨c1,N,n,r⟩:=M;rcases h k c1 N with ⟨rfl,u⟩|⟨u,c2,j,P,w,y⟩
 .refine u s' n _ _ λx b a f=>?_;have g:=n.aft O a;have B:AftL X A fr s b:=r.trans a.toL;refine ziQ (h₀:=s.heap) q I.at_ g.frs g.low g.tbm (f.since r.size) B.size λY C R D=>?_;have F:=l.noted g C D z;have S:=B.noted C D l.frs;refine zfX I.at_ F.frs R λZ G T H=>?_;exact L x _ (S.noted G H l.frs) (l.noted F G H z) T
 .refine u s' n _ _ λb a=>?_;have g:=n.aft O a;rw[if_pos rfl];refine P b g _ _ (λU i d e V=>?_) (λv i d e W=>False.elim W);cases (show U=.next from V);exact⟨j,w,c2,y,e,(r.trans a.toL).trans d⟩
theorem zR.moveS {h:Heap}{mu':LA}(k:∀a o,a∉mu->h.get? a=some o->(∃vs n,o.data=.seq vs n)->a∉mu'){a:Addr}{o:Own}(q:zR h mu a o):zR h mu' a o:=by
 cases o with
 | lst xs=>
  obtain⟨vs,n,d,c⟩:=q;exact⟨vs,n,d,c.moveS λb o q e w=>⟨k b o q e w,e⟩⟩
 | raw o=>exact q
 | inst C dx fs=>
  obtain⟨d,es,n,c,f⟩:=q;refine⟨d,es,n,c,?_⟩;clear c
  induction f with
  | nil=>exact .nil
  | cons r _ g=>exact .cons (r.moveS λb o q e w=>⟨k b o q e w,e⟩) g
theorem Loc.addRaw (g:Loc X A env mu c₀ s₀) (l:Loc X A env mu c s) (F:Frm X A env sc mu fr){e:Addr}{o:Obj}{vs:Array Value}(B:hz s₀<=e) (j:e∉mu) (r:s.heap.get? e=some o) (hd:o.data=.fields vs):Loc X A env (e::mu) {c with own:=(e,.raw o)::c.own} s:=by
 have k:∀a t,a∉mu->s.heap.get? a=some t->(∃y n,t.data=.seq y n)->a∉e::mu:=λa t q i f w=>f.elim λy f=>f.elim λn f=>by
  rcases memC w with rfl|w
  .rw [r] at i;cases i;rw[hd] at f;cases f
  .exact q w
 have ap:=Apart.fresh g (ch:=[e]) λb q=>by rw[zqP.mp q];exact B
 refine⟨l.stay,⟨zpx _ l.tbm.tb,λb q=>zpx _ (l.tbm.fs b q)⟩,λb q=>?_,l.ltb,?_,λx d q=>?_,l.cis,l.tk,l.frs,λp u=>?_,?_,λb q=>?_⟩
 .rcases memC q with rfl|q
  .exact zpI r
  .exact l.low b q
 .obtain⟨m,hn,h⟩:=l.ns;exact⟨m,hn,λx d e=>let ⟨v,hv,rv⟩:=h x d e;⟨v,hv,rv.moveS λb o q e w=>⟨k b o q e w,e⟩⟩⟩
 .obtain⟨b,v,i,f,h3,h4⟩:=l.cell x d q;exact⟨b,v,i,f,h3,h4.moveS λb o q e w=>⟨k b o q e w,e⟩⟩
 .rcases memC u with rfl|u
  .exact r
  .exact (l.own p u).moveS k
 .show (owns ((e,Own.raw o)::c.own)).Nodup;simp only [owns,List.flatMap_cons,Own.ads];exact List.nodup_cons.mpr ⟨λw=>j (l.ownMu e w).1,l.ownNd⟩
 .have q:b∈e::owns c.own:=by simpa [owns,Own.ads] using q
  rcases memC q with rfl|q
  .exact ⟨by simp,ap.fs _ (by simp),λw=>ap.tb (by simp[w]),λw=>ap.loc (by simp[w]),ap.kk _ (by simp),λz w hz C=>ap.cel _ (by simp) z w hz C⟩
  .obtain⟨q1,q2⟩:=l.ownMu b q;exact⟨zpx _ q1,q2⟩
theorem Loc.unRaw {e:Addr}{o:Obj}{ow:List (Addr×Own)}(l:Loc X A env (e::mu) {c with own:=(e,.raw o)::ow} s) (d:Mu X A mu) (f:∀b∈owns ow,b∈mu):Loc X A env mu {c with own:=ow} s:=by
 have a:∀b∈owns ow,b∈owns ((e,Own.raw o)::ow):=λb q=>by simp only [owns,List.flatMap_cons];exact List.mem_append_right _ q
 have g:Loc X A env (e::mu) {c with own:=ow} s:=by
  refine⟨l.stay,l.tbm,l.low,l.ltb,l.ns,l.cell,l.cis,l.tk,l.frs,λp h=>l.own p (zpx _ h),?_,λb q=>l.ownMu b (a b q)⟩;have:=l.ownNd;simp only [owns,List.flatMap_cons,Own.ads] at this;exact(List.nodup_cons.mp this).2
 exact g.mu_less (λb q=>zpx _ q) d f
end
section
variable {outer:List Env}{c c' c₀ c1 c2:Ctx}{s s' s₀:Shared}{cls cls':String}{m m':Str}
theorem Held.sub {hd:Option Value}{fl:Value}{h₀ h:Heap}{mu':LA}{e:Addr}(x:Held hd fl h₀ mu e cls m h) (a:∀b∈mu',b∈mu):Held hd fl h₀ mu' e cls m h:=x.mono (zpB _) a
theorem zde (I:InFn A env){body fs:List Stmt}{d:Stmt}{p:Pos}{f:Fl}(w:f=.next\/∃cls ds,f=.exc cls ds) (x:owns c2.own=owns c.own) (H:St X A env mu fr c body .next c1) (J:St X A env mu fr c1 (d::fs) f c2):St1 X A env mu fr c (.Try body [] [] (d::fs) p) f c2:=λs l E Q K L=>by
 obtain⟨q,r⟩:=I.fr;refine wpAny_Try_finally (H s l _ _ (λM h a i t=>?_) λv s' _ _ n=>False.elim n);cases (show M=.next from t);refine wpAny_execs_nil (J h i _ _ (λg j b l₂ y=>?_) λv j b l₂ n=>?_)
 .rcases w with rfl|⟨_,_,rfl⟩
  .cases (show g=.next from y);exact K _ _ (a.trans b) l₂ rfl
  .exact False.elim y
 .rcases w with rfl|⟨cls,ds,rfl⟩
  .exact False.elim n
  .obtain ⟨e,rfl,fly⟩:=ExIs.after a n;have z:=a.trans b;refine ze1 (h₀:=s.heap) r I.at_ l₂.frs l₂.low l₂.tbm fly z.size λN B k u C=>?_;have o:=l.noted l₂ B C x;have D:=z.noted B C l.frs;refine zl0 (h₀:=s.heap) I.at_ o.frs o.low o.tbm k u D.size λO F m G=>?_;exact L _ _ (D.noted F G l.frs) (l.noted o F G x) ⟨e,rfl,m⟩
def CxO (o:Obj):Prop:=∃vs,o.data=.fields vs/\vs[2]? = some .none
theorem zgN (F:Frm X A env sc mu fr) (I:InFn A env) (C:A.handled=none){body fs:List Stmt}{d:Stmt}{p:Pos}(j:owns c1.own=owns c.own) (g:owns c2.own=owns c.own) (D:zaM X A env mu fr c (execs body env) cls m c1)
  (G:∀e o,CxO o->e∉mu->zaM X (A.mark (some (.ref e))) env (e::mu) fr {c1 with own:=(e,.raw o)::c1.own} (execs (d::fs) env) cls' m' {c2 with own:=(e,.raw o)::c2.own}) :
  St1 X A env mu fr c (.Try body [] [] (d::fs) p) (.exc (.type cls') [.str m']) c2:=λs l E Q _ H=>by
 refine wpAny_Try_finally (D s l _ _ λe k h f a=>za6 I.at_ a ⟨ref_ne_byPass _,za6 I.at_ a (zc8 (L':=none) f.frs a λS r i u=>?_)⟩);have J:=l.noted f r u j;have v:=h.noted r u l.frs;obtain⟨o,vs,t,tk,n,T,oT,ts,K,_,w,_,_,_,L,_⟩:=i.ex;refine G e o ⟨vs,w,L C⟩ i.out _ (l.addRaw J F i.new i.out K w).mark _ _ λM U N O x=>za6 I.at_ x ?_;have y:=Loc.unRaw O.unmark l.tbm λb q=>(l.ownMu b (g▸q)).1;have P:=v.trans N.unmark;refine zfX I.at_ y.frs ((x.sub λb q=>zpx _ q).since (h₀:=s.heap) v.size) λV z R B=>?_;exact H _ _ (P.noted z B l.frs) (l.noted y z B g) ⟨M,rfl,R.fly (.inr rfl)⟩
theorem zgO (F:Frm X A env sc mu fr) (I:InFn A env) (G:A.handled=none){body fs:List Stmt}{d:Stmt}{p:Pos}(k:owns c1.own=owns c.own) (h:owns c2.own=owns c.own) (H:zaM X A env mu fr c (execs body env) cls m c1)
  (J:∀e o,CxO o->e∉mu->St X (A.mark (some (.ref e))) env (e::mu) fr {c1 with own:=(e,.raw o)::c1.own} (d::fs) .next {c2 with own:=(e,.raw o)::c2.own}) :
  St1 X A env mu fr c (.Try body [] [] (d::fs) p) (.exc (.type cls) [.str m]) c2:=λs l E Q _ K=>by
 refine wpAny_Try_finally (H s l _ _ λe u i f a=>za6 I.at_ a ⟨ref_ne_byPass _,za6 I.at_ a (zc8 (L':=none) f.frs a λW w j x=>?_)⟩);have L:=l.noted f w x k;have M:=i.noted w x l.frs;obtain⟨o,vs,t,tk,n,T,oT,ts,N,_,y,_,_,_,O,_⟩:=j.ex;refine J e o ⟨vs,y,O G⟩ j.out _ (l.addRaw L F j.new j.out N y).mark _ _ (λg P r z R=>?_) λv P r z S=>False.elim S;cases (show g=.next from R);have B:=Loc.unRaw z.unmark l.tbm λb q=>(l.ownMu b (h▸q)).1;have U:=M.trans r.unmark;refine zkh I.at_ B.frs (j.aftL r.unmark l.tbm F.sub) λY C V D=>?_;exact K _ _ (U.noted C D l.frs) (l.noted B C D h) ⟨e,rfl,V.fly (.inr rfl)⟩
theorem zmN (O:X.Ok){e:Addr}{o:Obj}(b:A.handled=some (.ref e)) (d:CxO o) (l:Loc X A env mu c s) (f:(e,Own.raw o)∈c.own):∀s',Aft X A s s'->Hd A.handled s'.heap:=λs' a=>by
 obtain⟨vs,g,h⟩:=d;exact .inr ⟨e,o,vs,b,(l.aft O a).own _ f,g,h⟩
theorem zbZ (a:A.handled=none):∀s',Aft X A s s'->Hd A.handled s'.heap:=λ_ _=>.inl a
end
noncomputable def zjV (mu:LA) (cls:String) (m:Str):PySem.Spec:=λA R s=>Hd A.handled s.heap/\Low mu s/\∀h' tk x,s.toks<=tk->(∀b o,s.heap.get? b=some o->h'.get? b=some o)->s.heap.objs.size<=h'.objs.size->FrX A.handled s.heap mu x cls m h'->R (.error (.ref x)) {s with heap:=h',toks:=tk}
noncomputable abbrev remM:Str:="list.remove(x): x not in list"
theorem zdr (mu:LA) (l:Addr) (items:Array Value) (n:Nat) (x:Value) (e:Value->Bool) (c:∀m (u:m<items.size),e items[m]=false) (k:Nat) :
  ∀i:Nat,items.size - i=k->Meets (Builtin.«list.remove.loop» ⟨[.ref l,x,rawInt i],[]⟩)
   (λA R s=>s.heap.get? l=some {cls:=.type "list",dict:=none,data:=.seq items n,slots:=#[]}/\(∀y,y∈items->EqAt A.in1 s y x (e y))/\zjV mu "ValueError" remM A R s):=by
 induction k with
 | zero=>
  intro i o prog w A R s h;obtain⟨p,g,d,tk,q⟩:=s;obtain⟨b,f,h⟩:=h
  wp_walk using wpAny_loadPart' b
  have j:items[((i:Nat):Int).toNat]? = none:=by simp;sleep 28
  rw[j]
  wp_walk
  exact zaH plainExc_ValueError h.1 h.2.1 h.2.2
 | succ k r=>
  intro i o prog w A R s h;obtain⟨p,g,d,tk,q⟩:=s;obtain⟨b,f,h⟩:=h;have a:i<items.size:=by sleep 25
  wp_walk using wpAny_loadPart' b
  have j:items[((i:Nat):Int).toNat]? = some items[i]:=by simp[a]
  have t:((i:Int)+1)=((i+1:Nat):Int):=by push_cast;rfl
  rw[j];refine zpQ (f _ (Array.getElem_mem a) prog w _ _ ?_);rw[c i a]
  wp_walk
  rw[t];exact⟨zqJ plain_remove_loop _,zp3 entry_remove_loop (by
   rw[zpV plain_remove_loop _];exact r (i+1) (by sleep 24) prog w A R _ ⟨b,f,h⟩)⟩
theorem zdz (mu:LA) (l:Addr) (items:Array Value) (n:Nat) (x:Value) (e:Value->Bool) (a:∀m (f:m<items.size),e items[m]=false) :
  Meets (Builtin.«list.remove» ⟨[.ref l,x],[]⟩)
   (λA R s=>s.heap.get? l=some {cls:=.type "list",dict:=none,data:=.seq items n,slots:=#[]}/\(∀y,y∈items->EqAt A.in1 s y x (e y))/\zjV mu "ValueError" remM A R s):=by
 intro prog w A R s h;obtain⟨i,g,d,tk,j⟩:=s;obtain⟨b,c,h⟩:=h
 wp_walk using wpAny_loadPart' b
 exact⟨zqJ plain_remove_loop _,zp3 entry_remove_loop (by
  rw[zpV plain_remove_loop _];exact zdr mu l items n x e a _ 0 rfl prog w A R _ ⟨b,c,h⟩)⟩
theorem zeX (l:Addr) (items:Array Value) (n:Nat) (j:Nat) (b:items.size=j+1) (v:Value) (f:items[j]? = some v) (a:items.size<=sizeLine) :
  Meets (Builtin.«list.pop» ⟨[.ref l],[]⟩)
   (λ_ R s=>s.heap.get? l=some {cls:=.type "list",dict:=none,data:=.seq items n,slots:=#[]}/\R (.ok (.ret v)) {s with heap:=s.heap.update l (Obj.mapSeq λxs=>xs.eraseIdxIfInBounds j)}):=by
 intro prog w A R s h;obtain⟨o,g,d,tk,p⟩:=s;obtain⟨c,h⟩:=h;have q:items.isEmpty=false:=by simp[Array.isEmpty,b]
 have i:((seqIndex? (-1) items.size).bind λk=>items[k]?.map (k,·))=some (j,v):=by
  have:seqIndex? (-1) items.size=some j:=by
   unfold seqIndex?;have m:(if (-1:Int)<0 then (-1:Int)+(items.size:Int) else -1)=(j:Int):=by rw[if_pos (by ext),b];lia
   simp only [m];rw[if_pos (by rw[b];simp;lia)];simp
  rw[this];simp[f]
 wp_walk using wpAny_loadPart' c
 rw[i];have e:(items.eraseIdxIfInBounds j).size<=sizeLine+1:=zpF (size_erased items _) (Nat.le_succ_of_le a)
 wp_walk using (wpAny_updateSeq c rfl (hz:=a) (_hz':=e)),wpAny_loadPart' c
 exact h
section
variable {c c':Ctx}{a:Addr}{pre post:List (Addr×Own)}{n:Nat}
theorem zj4 {T:String}(a:isSubtype (.type T) (.type "BaseException")=pure true) (c:isSubtype (.type ((Manifest.find? T).elim "type" λx=>x.metatype)) (.type "tuple")=pure false) (b:isSubtype (.type T) (.type T)=pure true):Mt X (.type T) (.type T) true:=λA s e o Q E _ d f h=>
 wpAny_excMatches_type ⟨o,d,f⟩ a c b h
theorem mt_index:Mt X (.type "IndexError") (.type "IndexError") true:=zj4 (by rw[zqD];kernel_rfl) (by rw[zqD];kernel_rfl) (by rw[zqD];kernel_rfl)
theorem mt_value:Mt X (.type "ValueError") (.type "ValueError") true:=zj4 (by rw[zqD];kernel_rfl) (by rw[zqD];kernel_rfl) (by rw[zqD];kernel_rfl)
theorem zgR (F:Frm X A env sc mu fr) (O:X.Ok) (R:Rm n A) (M:A.handled=none){x:Str}{xp ap p p':Pos}{e:Expr}{t:Th}{ts:List Th}(i:sc.names.lookup x=some .local) (hd:(x==("__debug__":Str))=false) (N:c.loc.lookup x=some (ptr a)) (P:c.own=pre++(a,.lst (ts.map thD))::post) (S:(ap.endLine==p.line)=true)
  (I:plainArg e=true) (T:t∉ts) (B:good (thD t)=true) (U:∀u∈ts,good (thD u)=true) (V:∀s,Loc X A env mu c s->Ev X A env mu e (thD t) s):St1 X A env mu fr c (.Expr (.Call (.Attribute (.Name x xp) "remove" ap) [e] [] p) p') (.exc (.type "ValueError") [.str remM]) c:=λs l E Q _ W=>by
 have g:(a,Own.lst (ts.map thD))∈c.own:=by rw[P];simp
 refine wpAny_Expr ?_ (by unfold interactive;rw[F.scope,F.kind];rfl) (zC ⋯);refine zcl F.toStat O l i hd N g PySem.F.slot_list_remove PySem.F.type_list_remove S (by simp [I]) (ds:=[thD t]) rfl (by simp) (λj o=>zc l.tbm I (V j (l.aft O o)) λ_ _=>evs_nil) λvs b d v=>?_;cases v with|cons r Y=>
 cases Y;have l₂:=l.aft O d;obtain⟨us,m,J,K⟩:=l₂.own _ g;have C:us.length=ts.length:=by rw[K.length,zqn]
 have c1:PyData.canLayAll0 (ts.map thD)=true:=(zl.mp (zae U)).1;have q2:=zl.mp B;obtain⟨as,L⟩:=K.reads c1;obtain⟨bs,Z⟩:=r.reads q2.1;have w:∀k (i:k<us.toArray.size),PyData.eqv (readOf b.heap us.toArray[k]) (thD t)=(thAt ts k==t):=λk i=>by
  have e1:us.map (readOf b.heap)=ts.map thD:=readsAll_map _ _ _ c1 L;have D:k<us.length:=by simpa using i
  have e3:readOf b.heap us[k]=thD (thAt ts k):=by
   have:(us.map (readOf b.heap))[k]? = (ts.map thD)[k]?:=by rw[e1]
   rw[thD_get (by sleep 32),zqS,zpN D] at this;exact zqr this
  show PyData.eqv (readOf b.heap us.toArray[k]) (thD t)=_;rw[List.getElem_toArray,e3,zcG]
 refine call_meets PySem.F.slot_list_remove ⟨_,J,rfl⟩ PySem.F.entry_list_remove (PySem.F.args_list_remove_2 _ _) (zdz mu a us.toArray m _ (λy=>PyData.eqv (readOf b.heap y) (thD t)) (λk i=>?_)) ⟨J,items_eqAt (by simpa using L) Z c1 q2.1 (by have:=R.units;have:=r.lay;have:=zfc t;show A.units+1+min (PyData.depthAll (ts.map thD)) (thD t).depth<cLine;sleep 48),.inl M,l₂.low,λh' tk x ht G H f=>?_⟩
 .rw [w];have z:k<ts.length:=by simpa [C] using i
  have e5:thAt ts k=ts[k]:=by simp[thAt,z]
  rw[e5];exact zpH.mpr λq=>T (q▸List.getElem_mem z)
 have h:Aft X A b {b with heap:=h',toks:=tk}:=.heap G H ht;exact W _ _ (d.trans h).toL (l₂.aft O h) ⟨x,rfl,(f.since d.size).fly _⟩
theorem zn4 (S:Stat X env sc) (O:X.Ok){x:Str}{xp ap p:Pos}{ys:List PyData}{d:PyData}(D:sc.names.lookup x=some .local) (hd:(x==("__debug__":Str))=false) (G:c.loc.lookup x=some (ptr a)) (w:c.own=pre++(a,.lst (ys++[d]))::post) (n:a∈fr) (H:(ap.endLine==p.line)=true)
  (I:ys.length<=1000):EvW X A env mu fr c (.Call (.Attribute (.Name x xp) "pop" ap) [] [] p) d {c with own:=pre++(a,.lst ys)::post}:=λs l E Q h=>by
 have e:(a,Own.lst (ys++[d]))∈c.own:=by rw[w];simp
 refine zcl S O l D hd G e PySem.F.slot_list_pop PySem.F.type_list_pop H rfl (ds:=[]) rfl (by simp) (λy z=>evs_nil) λvs b f k=>?_;cases k;have l₂:=l.aft O f;obtain⟨us,m,o,q⟩:=l₂.own _ e;have g:us.length=ys.length+1:=by rw[q.length,zqq];rfl
 obtain⟨v,J,K⟩:=q.get (i:=ys.length) (d:=d) (by simp);refine call_meets PySem.F.slot_list_pop ⟨_,o,rfl⟩ PySem.F.entry_list_pop (PySem.F.args_list_pop_1 _) (zeX a us.toArray m ys.length (by simpa using g) v (by simpa using J) (by rw [List.size_toArray,g];have:sizeLine=2 ^ 24:=rfl;lia)) ⟨o,?_⟩;have r:=(l₂.ownMu a (zu e (by first|rfl|simp[Own.ads]))).1;have B:=zpW b.heap a (Obj.mapSeq λxs=>xs.eraseIdxIfInBounds ys.length);have C:Keep (fsOf A) mu b.heap (b.heap.update a (Obj.mapSeq λxs=>xs.eraseIdxIfInBounds ys.length)):=.sameBut B r;have L:(us.toArray.eraseIdxIfInBounds ys.length)=(us.eraseIdx ys.length).toArray:=by
  unfold Array.eraseIdxIfInBounds;rw[dif_pos (by simp[g])];simp
 obtain⟨u,M⟩:∃u,(b.heap.update a (Obj.mapSeq λxs=>xs.eraseIdxIfInBounds ys.length)).get? a=some (lst (us.eraseIdx ys.length) u):=⟨_,by rw[get?_update_seq o λxs=>xs.eraseIdxIfInBounds ys.length,L]⟩;obtain⟨q1,q2⟩:=l₂.own_set (o':=.lst ys) (t:=b.toks) w (by first|rfl|simp[Own.ads]) (by first|rfl|simp[Own.ads]) n B (Nat.le_refl _) ⟨_,u,M,by
  have:=(q.keep C l.tbm.fs).eraseIdx (j:=ys.length);rwa[List.eraseIdx_append_of_length_le (zpB _),Nat.sub_self,List.eraseIdx_zero,List.tail_cons,List.append_nil] at this⟩
 exact h _ _ (f.toL.trans q1) q2 (K.keep C l.tbm.fs)
theorem zjA (S:Stat X env sc) (O:X.Ok) (l:Loc X A env mu c s){x:Str}{xp:Pos}{ys:List PyData}(f:sc.names.lookup x=some .local) (hd:(x==("__debug__":Str))=false) (g:c.loc.lookup x=some (ptr a)) (i:(a,Own.lst ys)∈c.own) (j:ys.length<=1000):Ts X A env (.Name x xp) (!ys.isEmpty) s:=λE Q h=>by
 have key:isTrue (.Name x xp) env (eval (.Name x xp) env)=(do let v <-eval (.Name x xp) env;standAt xp;holding [v] (truthy v)):=rfl;rw[key];refine wpB (zf S l f hd g _ _ λv d b r=>?_);cases r;obtain⟨us,m,k,e⟩:=(l.aft O b).own _ i;refine wpB (zqI (zpS (wpAny_truthy_list ⟨_,k,rfl,_,rfl⟩ (by rw[zqp,e.length];sleep 133) ?_)));have:(!us.toArray.isEmpty) = !ys.isEmpty:=by
  have:=e.length;cases us<;>cases ys<;>simp_all
 rw[this];exact h _ (b.trans (.tok _))
theorem zed (F:Frm X A env sc mu fr) (O:X.Ok){x:Str}{xp ap p p':Pos}{e:Expr}{ys zs:List PyData}(G:sc.names.lookup x=some .local) (hd:(x==("__debug__":Str))=false) (H:c.loc.lookup x=some (ptr a)) (w:c.own=pre++(a,.lst ys)::post) (k:a∈fr) (I:(ap.endLine==p.line)=true)
  (y:plainArg e=true) (J:ys.length+zs.length<=1000) (K:∀s,Loc X A env mu c s->Ev X A env mu e (.list zs) s):St1 X A env mu fr c (.Expr (.Call (.Attribute (.Name x xp) "extend" ap) [e] [] p) p') .next {c with own:=pre++(a,.lst (ys++zs))::post}:=λs l E Q h _=>by
 have P:sizeLine=2 ^ 24:=rfl;have m:(a,Own.lst ys)∈c.own:=by rw[w];simp
 refine wpAny_Expr ?_ (by unfold interactive;rw[F.scope,F.kind];rfl) (zC ⋯);refine zcl F.toStat O l G hd H m PySem.F.slot_list_extend PySem.F.type_list_extend I (by simp [y]) (ds:=[.list zs]) rfl (by simp) (λg i=>zc l.tbm y (K g (l.aft O i)) λ_ _=>evs_nil) λvs d f j=>?_;cases j with|cons r L=>
 cases L;have l₂:=l.aft O f;obtain⟨us,n,o,z⟩:=l₂.own _ m;cases r with
 | list R M B=>
  rename_i b vs q;have S:=z.length;have T:=B.length;refine call_meets PySem.F.slot_list_extend ⟨_,o,rfl⟩ PySem.F.entry_list_extend (PySem.F.args_list_extend_2 _ _) (PySem.AutoSeq1.list_extend_list_list_0 a us.toArray n b vs.toArray q (by simp [Builtin.List.listTooLong,sizeLine];lia) (by simp;lia) (by simp;sleep 115)) ⟨o,M,?_⟩;have u:=(l₂.ownMu a (zu m (by first|rfl|simp[Own.ads]))).1;have C:=zpW d.heap a (Obj.mapSeq λxs=>xs++vs.toArray);have D:Keep (fsOf A) mu d.heap (d.heap.update a (Obj.mapSeq λxs=>xs++vs.toArray)):=.sameBut C u;obtain⟨v,N⟩:∃v,(d.heap.update a (Obj.mapSeq λxs=>xs++vs.toArray)).get? a=some (lst (us++vs) v):=⟨_,by rw[get?_update_seq o λxs=>xs++vs.toArray,List.append_toArray]⟩;obtain⟨q1,q2⟩:=l₂.own_set (o':=.lst (ys++zs)) (t:=d.toks) w (by first|rfl|simp[Own.ads]) (by first|rfl|simp[Own.ads]) k C (Nat.le_refl _) ⟨us++vs,v,N,(z.keep D l.tbm.fs).append (B.keep D l.tbm.fs)⟩;exact h _ _ (f.toL.trans q1) q2 rfl
end
section
variable {c c':Ctx}{s s':Shared}{n:Nat}{K:Frag}{fa:Addr}{fd:FuncData}{body:List Stmt}{ps:List Str}{d:PyData}{xs ys:List PyData}
def zk2 (X:Wd) (A:Around) (n:Nat) (sc:Scope) (ps:List Str) (mu:LA) (xs ys:List PyData) (body:List Stmt) (d:PyData):Prop:=
 ∀(b b2:Addr) (A':Around) (env:Env) (new fr':LA),Rm n A'->A'.handled=A.handled->InFn A' env->Frm X A' env sc (new++b2::b::mu) fr'->b∈fr'->b2∈fr'->b∉new++mu->b2∉new++mu->b≠b2->Mu X A' (new++mu)->
  StF X A' env (new++b2::b::mu) fr' mu {startC sc ps [ptr b,ptr b2] with own:=[(b2,.lst ys),(b,.lst xs)]} body (.ret d)
def Cl2 (X:Wd) (A:Around) (mu:LA) (fv:Value) (xs ys:List PyData) (d:PyData):Prop:=∀(b b2:Addr) (s:Shared) (E:VP) (Q:VP),b∉mu->b2∉mu->b≠b2->X.kk.StaysIn s.heap->Rdy X s->Frs X A s.heap->Mu X A mu->Low (b2::b::mu) s->
 OwnOk X A (b2::b::mu) [(b2,.lst ys),(b,.lst xs)] s->(∀v s',AftL X A [b2,b] s s'->Rd s'.heap mu v d->Q v s')->wpAny X.M A (call fv [.ref b,.ref b2]) Q E s
theorem zo9 (O:X.Ok) (t:K.In X.kk) (R:Rm (n+1) A) (F:FnB X K fa fd body sc) (u:∀us:List Value,us.length=2->PK K (bindArgs fd ⟨us,[]⟩) (ps.zip us)) (f:∀x∈ps,sc.names.lookup x=some .local\/sc.names.lookup x=some .cell) (y:ps.Nodup)
  (B:zk2 X A n sc ps mu xs ys body d):Cl2 X A mu (.ref fa) xs ys d:=λb c s E Q C D G st tk g j p w h=>by
 have k:Mu X A (c::b::mu):=⟨zpx _ (zpx _ j.tb),λa q=>zpx _ (zpx _ (j.fs a q))⟩;refine zqY (za3 (a:=⟨[.ref b,.ref c],[]⟩) (ds:=[ptr b,ptr c]) O t R F (u _ rfl) f y st tk g k p (.cons (.ptr _) (.cons (.ptr _) .nil)) w λe new r l _ L=>?_);have m:∀z∈c::b::mu,z∉new:=λz q w=>absurd (p z q) (zpO.mpr (L.new_ z w));have i:∀z,z∈c::b::mu->z∉mu->z∉new++mu:=λz q1 q2 w=>(zpE.mp w).elim (m z q1) q2;have o:Mu X (A.deeper e) (new++mu):=⟨zpw _ j.tb,λz q=>by
  rw[zap (A:=A) (e:=e) (L:=s.heap.objs.size) L.frame g.fl] at q;refine memK q ?_ λq=>?_
  .exact zpC _ (zqr (L.frame.symm.trans L.inf.at_)▸L.fr.lfr)
  .exact zpw _ (j.fs z q)⟩
 refine B b c _ _ new ([c,b]++new) (R.deeper _) rfl L.inf (L.frO w) (by simp) (by simp) (i b (by simp) C) (i c (by simp) D) G o _ L.loc _ _ (λN s' H I=>?_) λv s' _ _ _ J=>False.elim J;obtain⟨v,rfl,M⟩:=I;exact h v s' (L.backO g H) M
theorem zh4 (S:Stat X env sc) (O:X.Ok) (l:Loc X A env mu c s){f:Str}{P p:Pos}{y B:Expr}(R:sc.names.lookup f=some .globalImplicit) (hd:(f==("__debug__":Str))=false) (T:Top1 X f (.ref fa)){n:Obj}(U:X.kk.get? fa=some n) (V:n.data=.func fd) (r:plainArg y=true) (D:plainArg B=true)
  (F:EvO X A env mu y (.lst xs) s) (G:∀b mu' s,Loc X A env mu' {c with own:=(b,.lst xs)::c.own} s->EvO X A env mu' B (.lst ys) s) (C:Cl2 X A mu (.ref fa) xs ys d):Ev X A env mu (.Call (.Name f P) [y,B] [] p) d s:=λE Q h=>by
 refine zqZ (zw S O l.stay R hd T (Calls.callWith_function (o:=n) (fd:=fd) ?_));have key:∀{E':VP}{Q':List Value->Shared->Prop},(∀b a s',b∉mu->a∉mu->b≠a->Aft X A s s'->Loc X A env (a::b::mu) {c with own:=(a,.lst ys)::(b,.lst xs)::c.own} s'->hz s<=b->hz s<=a->Q' [.ref b,.ref a] s')->wpAny X.M A (spliced (backTo p (starEach [y,B] env))) Q' E' s:=fun {E' Q'} k=>by
  refine spliced_more (F _ _ λb t e u H W=>?_) (zh r);have I:b∉mu:=λq=>absurd (l.low b q) (zpO.mpr u);have g:=l.own_new O e u H rfl W;refine spliced_more (G b _ t g _ _ λa w j i x J=>?_) (zh D);have m:a∉[b]++mu:=λq=>absurd (g.low a q) (zpO.mpr i);have l₂:=g.own_new O j i x rfl J;refine spliced_none (k b a w I (λq=>m (zpw _ q)) (λq=>m (q▸zpC _ (zqP.mpr rfl))) (e.trans j) l₂ u (zpF e.size i))
 have z:=key (E':=E) (Q':=λvs s'=>(s'.heap.get? fa=some n/\n.data=.func fd)/\wpAny X.M A (call (.ref fa) ([]++vs)) Q E s') λb a s' Y Z h3 N l' u i=>by
  refine⟨⟨zH O l.frs N l.stay _ _ U,V⟩,?_⟩;refine C b a s' E Q Y Z h3 l'.stay l'.tk l'.frs l.tbm l'.low (l'.lend (pre:=[]) (ow:=[(a,.lst ys),(b,.lst xs)]) (post:=c.own) rfl) λv K L rv=>?_;refine h v K (AftL.toAft ((N.toL.trans L).fresh λz q=>?_)) rv;refine memK q ?_ λq=>?_
  .exact .inr (zpK i)
  .rw [zqP.mp q];exact .inr (zpK u)
 rw[zh r] at z ⊢;exact Calls.evalArgs_plain z
end
noncomputable def zco:List Th->List Th->List Th->List Th×List Th
 | [],act,mis=>(mis,act)
 | t::r,act,mis=>if t∈act then zco r (act.erase t) mis else zco r act (mis++[t])
theorem zbB {t:Th}{r a b:List Th}:zco (t::r) a b=if t∈a then zco r (a.erase t) b else zco r a (b++[t]):=rfl
noncomputable def unoT (f g:List Th):List Th×List Th:=zco f.reverse g []
noncomputable def zfD (q:List Th×List Th):PyData:=.tuple [.list (q.1.map thD),.list (q.2.map thD)]
theorem Mu.more {mu mu':LA}(h:Mu X A mu) (a:∀b∈mu,b∈mu'):Mu X A mu':=⟨a _ h.tb,λb q=>a b (h.fs b q)⟩
section
variable {n:Nat}
noncomputable abbrev cx37 (b b2 mb:Addr) (r act mis:List Th):Ctx:=
 {(startC (zd (stm 37)) (zA (stm 37)) [ptr b,ptr b2]).set "missing" (ptr mb) with own:=[(mb,.lst (mis.map thD)),(b2,.lst (act.map thD)),(b,.lst (r.reverse.map thD))]}
inductive J37 (f g:List Th) (b b2 mb:Addr) (k:Nat) (c:Ctx):Prop
 | mk (r act mis:List Th) (hk:r.length=k) (hgo:zco r act mis=unoT f g) (e:c=cx37 b b2 mb r act mis) (hg1:∀t∈r,good (thD t)=true) (hg2:∀t∈act,good (thD t)=true) (hz1:act.length<=100) (hz2:mis.length+r.length<=100)
theorem zjf (O:X.Ok) (hV:Top1 X "ValueError" (.type "ValueError")) (hA:A.handled=none){f g:List Th}(h1:∀t∈f,good (thD t)=true) (h2:∀t∈g,good (thD t)=true) (a0:f.length<60) (a1:g.length<60) :
  zk2 X A (n+1) (zd (stm 37)) (zA (stm 37)) mu (f.map thD) (g.map thD) (zG (stm 37)) (zfD (unoT f g)):=λb o Z env new fr' R hh IF F hb T h3 h4 h5 tm=>by
 rw[hA] at hh;have a2:sizeLine=2 ^ 24:=rfl;show (_:List Stmt->_->Prop) (_::_) _;refine zL (zaq F.toStat O ⋯ ⋯ λs l=>ev_str) ?_;refine zdd F O (ys:=[]) ⋯ ⋯ (λs l=>zbG evs_nil (by ext)) (λz m=>zpw _ (zpx _ (zpx _ m))) λj U p=>?_;refine zL (c1:=cx37 b o j [] (unoT f g).2 (unoT f g).1) (?_:St1 X Z env (j::(new++o::b::mu)) (j::fr') {(startC (zd (stm 37)) (zA (stm 37)) [ptr b,ptr o]).set "missing" (ptr j) with own:=[(j,.lst []),(o,.lst (g.map thD)),(b,.lst (f.map thD))]} _ .next (cx37 b o j [] (unoT f g).2 (unoT f g).1)) ?_
 .refine zaX (m0:=f.length) (J:=J37 f g b o j) O ⟨f.reverse,g,[],List.length_reverse,rfl,by unfold cx37;rw[List.reverse_reverse];rfl,λt q=>h1 t (List.mem_reverse.mp q),h2,by sleep 125,by rw[List.length_reverse];show 0+_<=_;lia⟩ ?_;intro k c hJ;obtain⟨r,i,h,hk,v,rfl,K,B,V,C⟩:=hJ;cases r with
  | nil=>
   have P:(!(([]:List Th).reverse.map thD).isEmpty)=false:=rfl;exact .stop (λs l=>P▸zjA p.toStat O l ⋯ (by ext) ⋯ (by simp) (by simp)) (by rw[<-v];rfl) rfl
  | cons t r=>
    have W:=K t zpP;have D:r.length<k:=hk▸zpY _;have L:(t::r).reverse.map thD=r.reverse.map thD++[thD t]:=by rw[List.reverse_cons,zqC];rfl
    have P:(!((t::r).reverse.map thD).isEmpty)=true:=by rw[L];cases r.reverse.map thD<;>rfl
    have C:h.length+(r.length+1)<=100:=C;have M:((t::r).reverse.map thD).length<=1000:=by rw[zqn,List.length_reverse];show r.length+1<=1000;lia
    let c1:Ctx:={cx37 b o j r i h with loc:=setL (cx37 b o j r i h).loc "item" (thD t)};have E:∀{p1 p2 p3 p4 p5:Pos},(p3.endLine==p4.line)=true->St1 X Z env (j::(new++o::b::mu)) (j::fr') (cx37 b o j (t::r) i h) (.Assign [.Name "item" p1] (.Call (.Attribute (.Name "expected" p2) "pop" p3) [] [] p4) p5) .next c1:=λhl=>zbb p O ⋯ ⋯ (zn4 (pre:=[(j,.lst (h.map thD)),(o,.lst (i.map thD))]) (post:=[]) (ys:=r.reverse.map thD) (d:=thD t) p.toStat O ⋯ (by ext) ⋯ (by rw[cx37,L];rfl) (by simp[hb]) hl (by simp at C ⊢;lia));have G:∀(H I:List Th),SubL (cx37 b o j r H I).loc (setL (cx37 b o j r i h).loc "item" (thD t)):=λH I=>⟨rfl,rfl,rfl,trivial⟩;have Y:∀{N:LA}{A2:Around}{cx:Ctx}(S:Stat X env (zd (stm 37))){q:Pos},cx.loc.lookup ("item":Str)=some (thD t)->∀s,Loc X A2 env N cx s->Ev X A2 env N (.Name "item" q) (thD t) s:=fun {_ _ _} S {q} e s l=>zf S l ⋯ (by ext) e
    by_cases Q:t∈i
    .refine .go .next (cx37 b o j r (i.erase t) h) r.length (λs l=>P▸zjA p.toStat O l ⋯ (by ext) ⋯ (by simp) M) ?_ (.inl rfl) D ⟨r,i.erase t,h,rfl,?_,rfl,λu q=>K u (List.mem_cons_of_mem _ q),λu q=>B u (List.mem_of_mem_erase q),?_,?_⟩
     .refine zaE (c1:={c1 with own:=[(j,.lst (h.map thD)),(o,.lst ((i.erase t).map thD)),(b,.lst (r.reverse.map thD))]}) (ze p (E ⋯) ?_) (SubL.of (G _ _)) (λx d e=>e) rfl;refine ze p (zb8 (ze p (zec (pre:=[(j,.lst (h.map thD))]) (post:=[(b,.lst (r.reverse.map thD))]) (t:=t) (ts:=i) p O R ⋯ (by ext) ⋯ rfl (by simp[T]) ⋯ ⋯ (by sleep 124) Q B (Y p.toStat ⋯)) st_nil)) st_nil
     .rw [zbB,if_pos Q] at v;exact v
     .have:=List.length_erase_le (a:=t) (l:=i);sleep 19
     .exact zpF (zqo (zqz _) _) C
    .refine .go .next (cx37 b o j r i (h++[t])) r.length (λs l=>P▸zjA p.toStat O l ⋯ (by ext) ⋯ (by simp) M) ?_ (.inl rfl) D ⟨r,i,h++[t],rfl,?_,rfl,λu q=>K u (List.mem_cons_of_mem _ q),B,V,?_⟩
     .refine zaE (c1:={c1 with own:=[(j,.lst (h.map thD++[thD t])),(o,.lst (i.map thD)),(b,.lst (r.reverse.map thD))]}) (ze p (E ⋯) ?_) (SubL.of (G _ _)) (λx d e=>e) (by show [(j,Own.lst ((h++[t]).map thD)),_,_]=_;rw[zqC];rfl);refine ze p (zgP (c1:=c1) (f:=.next) O p IF (λ_ _=>by intro q;cases q) ⋯ (by ext) hV mt_value rfl (zI (by intro q;cases q) (zgR (pre:=[(j,.lst (h.map thD))]) (post:=[(b,.lst (r.reverse.map thD))]) (t:=t) (ts:=i) p O R hh ⋯ (by ext) ⋯ rfl ⋯ ⋯ Q W B (Y p.toStat ⋯))) λe'=>?_) st_nil;exact ze p.mark (zan (pre:=[]) (post:=[(o,.lst (i.map thD)),(b,.lst (r.reverse.map thD))]) (ys:=h.map thD) (d:=thD t) p.mark O ⋯ (by ext) ⋯ rfl (by simp) ⋯ ⋯ (by simp;sleep 39) (Y p.toStat ⋯)) st_nil
     .rw [zbB,if_neg Q] at v;exact v
     .rw [zqq];show h.length+1+r.length<=100;lia
 .refine zam (mu':=new++o::b::mu) (pre:=[]) (post:=[(o,.lst ((unoT f g).2.map thD)),(b,.lst [])]) (x:="missing") rfl ⋯ (λy m=>zpx _ m) U (tm.more λz q=>(zpE.mp q).elim (zpC _) λw=>zpw _ (zpx _ (zpx _ w))) (λy m=>zpw new (zpC mu (show y∈[o,b] from m))) ?_;refine zam (mu':=new++b::mu) (pre:=[]) (post:=[(b,.lst [])]) (x:="actual") rfl ⋯ (λy m=>?_) (λq=>?_) (tm.more λz q=>(zpE.mp q).elim (zpC _) λw=>zpw _ (zpx _ w)) (λy m=>zpw new (zpC mu (show y∈[b] from m))) ?_
  .rcases zpE.mp m with m|m
   .exact zpC _ m
   .exact zpw _ (zpx _ m)
  .rcases zpE.mp q with q|q
   .exact h4 (zpC _ q)
   .rcases zpz.mp q with q|q
    .exact h5 q.symm
    .exact h4 (zpw _ q)
  refine zeb (zaf O λs l=>?_) (λz m=>zpw _ (zpx _ m));exact zar l.tbm l.low (zc l.tbm ⋯ (zf F.toStat l ⋯ (by ext) ⋯) λs' a=>zc l.tbm ⋯ (zf F.toStat (l.aft O a) ⋯ (by ext) ⋯) λ_ _=>evs_nil) (by show 2<=sizeLine;decide)
end
theorem setL_setL {c:Type}{x:Str}{a b:c}{l:List (Str×c)}:setL (setL l x a) x b=setL l x b:=by
 induction l with
 | nil=>exact if_pos (zqG _)
 | cons p l f=>
  have e:∀(r:List (Str×c)) (d:c),setL (p::r) x d=if (p.1==x)=true then (x,d)::r else p::setL r x d:=λ_ _=>rfl
  by_cases h:(p.1==x)=true
  .rw [e,e,if_pos h,if_pos h];exact if_pos (zqG _)
  .rw [e,e,if_neg h,if_neg h,e,if_neg h,f]
theorem zjQ {c:Type}{x:Str}{a:c}{l:List (Str×c)}:l.lookup x=some a->setL l x a=l:=by
 induction l with
 | nil=>exact λh=>zg h
 | cons p l d=>
  intro h;rw[zjR]
  by_cases b:p.1=x
  .rw [if_pos (beq_iff_eq.mpr b)];rw[List.lookup,<-b,zqG] at h;rw[<-zqr h,<-b]
  .rw [List.lookup,zpH.mpr (Ne.symm b)] at h;rw[if_neg λq=>b (eq_of_beq q),d h]
noncomputable def preN (e:Th) (l:List Th):Nat:=(l.takeWhile (· == e)).length
theorem zb9 (e x:Th) (l:List Th):preN e (x::l)=bif x==e then preN e l+1 else 0:=by
 unfold preN;rw[List.takeWhile_cons];cases x==e<;>rfl
theorem znG (e:Th) (l:List Th):preN e l<=l.length:=by
 induction l with
 | nil=>exact zpB _
 | cons x l a=>
  rw[zb9];cases x==e with
  | true=>exact zqx a
  | false=>exact zqy _
theorem znF {e:Th}{l:List Th}:∀{k:Nat},k<preN e l->l[k]? = some e:=by
 induction l with
 | nil=>exact λh=>absurd h (Nat.not_lt_zero _)
 | cons x l b=>
  intro k h;rw[zb9] at h;cases a:x==e with
  | true=>
   rw[a] at h;cases k with
   | zero=>exact congrArg some (eq_of_beq a)
   | succ k=>exact b (Nat.lt_of_succ_lt_succ h)
  | false=>rw[a] at h;exact absurd h (Nat.not_lt_zero _)
theorem znH {e:Th}{l:List Th}:preN e l<l.length->∃x,l[preN e l]? = some x/\(x==e)=false:=by
 induction l with
 | nil=>exact λh=>absurd h (Nat.not_lt_zero _)
 | cons x l a=>
  rw[zb9];cases b:x==e with
  | true=>exact λh=>a (Nat.lt_of_succ_lt_succ h)
  | false=>exact λ_=>⟨x,rfl,b⟩
theorem zjX {e:Th}{l:List Th}:l.drop (preN e l)=l.dropWhile (· == e):=by
 induction l with
 | nil=>rfl
 | cons x l a=>
  rw[zb9,List.dropWhile_cons];cases x==e with
  | true=>exact a
  | false=>rfl
theorem Frm.muMore {mu mu' fr:LA}(F:Frm X A env sc mu fr) (h:∀b∈mu,b∈mu'):Frm X A env sc mu' fr:=⟨F.toStat,h _ F.lmu,F.lfr,F.new,F.cel,λb q=>h b (F.sub b q)⟩
section
variable {c c':Ctx}{s s':Shared}{n:Nat}
theorem zmJ {i n:Nat}(h:i<=n) (a:n<=1000):0<=(i:Int)/\(i:Int)<2 ^ 63:=⟨Int.natCast_nonneg i,by sleep 64⟩
theorem zkq (S:Stat X env sc) (O:X.Ok) (l:Loc X A env mu c s){L Iv:Str}{T:List Th}{i:Nat}{x:Th}{p1 p2 p3:Pos}(b:sc.names.lookup L=some .local) (d:sc.names.lookup Iv=some .local) (e:(L==("__debug__":Str))=false) (f:(Iv==("__debug__":Str))=false)
  (h:c.loc.lookup L=some (.list (T.map thD))) (j:c.loc.lookup Iv=some (.int (i:Nat))) (g:T[i]? = some x) (k:T.length<=1000):Ev X A env mu (.Subscript (.Name L p1) (.Name Iv p2) p3) (thD x) s:=
 have z:=zmJ (zqt (zpJ.mp g).1) k
 ev_itemList (i:=(i:Nat)) O l.tbm (zf S l b e h) (λs' a=>zf S (l.aft O a) d f j) ⋯ z.1 z.2 (by rw[Int.toNat_natCast,zqS,g];rfl)
theorem zn3 (S:Stat X env sc) (O:X.Ok) (l:Loc X A env mu c s) (h:∀s',Aft X A s s'->Hd A.handled s'.heap){L Iv:Str}{T:List Th}{i:Nat}{p1 p2 p3:Pos}(b:sc.names.lookup L=some .local) (d:sc.names.lookup Iv=some .local) (e:(L==("__debug__":Str))=false) (f:(Iv==("__debug__":Str))=false)
  (j:c.loc.lookup L=some (.list (T.map thD))) (k:c.loc.lookup Iv=some (.int (i:Nat))) (g:T.length=i) (m:T.length<=1000):EvY X A env mu (.Subscript (.Name L p1) (.Name Iv p2) p3) "IndexError" outM s:=
 have z:=zmJ (zqF g.symm) m
 zhg (i:=(i:Nat)) O l.tbm l.low h (zf S l b e j) (λs' a=>zf S (l.aft O a) d f k) ⋯ z.1 z.2 (by rw[zqn,g];exact Int.le_refl _)
theorem zlq (S:Stat X env sc) (O:X.Ok) (R:Rm n A) (l:Loc X A env mu c s){L Iv V:Str}{T:List Th}{i:Nat}{x e:Th}{p1 p2 p3 p4 p5:Pos}(d:sc.names.lookup L=some .local) (f:sc.names.lookup Iv=some .local) (g:sc.names.lookup V=some .local) (h:(L==("__debug__":Str))=false) (j:(Iv==("__debug__":Str))=false) (k:(V==("__debug__":Str))=false)
  (p:c.loc.lookup L=some (.list (T.map thD))) (q:c.loc.lookup Iv=some (.int (i:Nat))) (r:c.loc.lookup V=some (thD e)) (w:∀t∈T,good (thD t)=true) (m:good (thD e)=true) (o:T[i]? = some x) (y:T.length<=1000):Ts X A env (.Compare (.Subscript (.Name L p1) (.Name Iv p2) p3) [.Eq] [.Name V p4] p5) (x==e) s:=
 zQ O l.tbm (a:=thD x) (b:=thD e) (zkq S O l d f h j p q o y) (λs' a=>zf S (l.aft O a) g k r) ⋯ λu v s' a z B=>zcG x e▸zmj R z B (w x (zqd o)) m
theorem znC {Iv:Str}{q:Nat}:(c.set Iv (.int (q:Nat))).set Iv (.int (q+1:Nat))=c.set Iv (.int (q+1:Nat)):=congrArg (λy=>({c with loc:=y}:Ctx)) setL_setL
theorem zcv {x y:Str}{d:PyData}(h:(y==x)=false):(c.set x d).loc.lookup y=c.loc.lookup y:=by
 rw[Ctx.set,zk,if_neg (zpH.mp h)]
theorem lookup_set_eq {x:Str}{d:PyData}:(c.set x d).loc.lookup x=some d:=by rw[Ctx.set,zk,if_pos rfl]
theorem zd7 (F:Frm X A env sc mu fr) (O:X.Ok) (I:InFn A env) (R:Rm n A){L Iv V:Str}{T:List Th}{i1:Nat}{e:Th}{p1 p2 p3 p4 p5 p6 p7 p8 p9:Pos}{k1:Nat}(i:sc.names.lookup L=some .local) (g:sc.names.lookup Iv=some .local) (v:sc.names.lookup V=some .local)
  (j:(L==("__debug__":Str))=false) (o:(Iv==("__debug__":Str))=false) (w:(V==("__debug__":Str))=false) (p:(L==Iv)=false) (z:(V==Iv)=false)
  (E:c.loc.lookup L=some (.list (T.map thD))) (H:c.loc.lookup Iv=some (.int (i1:Nat))) (K:c.loc.lookup V=some (thD e)) (M:∀t∈T,good (thD t)=true) (B:good (thD e)=true) (a:T.length<=1000) (P:i1<=T.length)
  (N:∀c1 s,c1.own=c.own->Loc X A env mu c1 s->∀s',Aft X A s s'->Hd A.handled s'.heap) :
  (i1+preN e (T.drop i1)<T.length->St1 X A env mu fr c (.While (.Compare (.Subscript (.Name L p1) (.Name Iv p2) p3) [.Eq] [.Name V p4] p5) [.AugAssign (.Name Iv p6) .Add (.Constant (.int 1) k1 p7) p8] [] p9) .next (c.set Iv (.int (i1+preN e (T.drop i1):Nat))))/\
  (T.length=i1+preN e (T.drop i1)->zaM X A env mu fr c (exec (.While (.Compare (.Subscript (.Name L p1) (.Name Iv p2) p3) [.Eq] [.Name V p4] p5) [.AugAssign (.Name Iv p6) .Add (.Constant (.int 1) k1 p7) p8] [] p9) env) "IndexError" outM (c.set Iv (.int (i1+preN e (T.drop i1):Nat)))):=by
 have G:c=c.set Iv (.int (i1+0:Nat)):=congrArg (λy=>({c with loc:=y}:Ctx)) (zjQ H).symm;have d:∀(k:Nat) (x:Th),T[i1+k]? = some x->∀s,Loc X A env mu (c.set Iv (.int (i1+k:Nat))) s->Ts X A env (.Compare (.Subscript (.Name L p1) (.Name Iv p2) p3) [.Eq] [.Name V p4] p5) (x==e) s:=λk x u s l=>
  zlq F.toStat O R l i g v j o w ((zcv p).trans E) lookup_set_eq ((zcv z).trans K) M B u a
 have f:∀k:Nat,St X A env mu fr (c.set Iv (.int (i1+k:Nat))) [.AugAssign (.Name Iv p6) .Add (.Constant (.int 1) k1 p7) p8] .next (c.set Iv (.int (i1+(k+1):Nat))):=λk=>
  znC▸ze F (zdh F O g lookup_set_eq (b:=1) λs l=>ev_int) st_nil
 have q:∀k:Nat,k<preN e (T.drop i1)->∀s,Loc X A env mu (c.set Iv (.int (i1+k:Nat))) s->Ts X A env (.Compare (.Subscript (.Name L p1) (.Name Iv p2) p3) [.Eq] [.Name V p4] p5) true s:=λk h s l=>
  zqG e▸d k e (List.getElem?_drop▸znF h) s l
 refine⟨λC=>?_,λr=>?_⟩
 .refine zaX (m0:=preN e (T.drop i1)) (J:=λm c1=>∃k,m+k=preN e (T.drop i1)/\c1=c.set Iv (.int (i1+k:Nat))) O ⟨0,rfl,G⟩ ?_
  rintro m c1 ⟨k,h1,rfl⟩
  cases m with
  | zero=>
   obtain⟨x,u,D⟩:=znH (e:=e) (l:=T.drop i1) (by rw[List.length_drop];exact Nat.lt_sub_of_add_lt (Nat.add_comm _ _▸C));rw[<-h1,Nat.zero_add,List.getElem?_drop] at u;exact .stop (λs l=>D▸d k x u s l) (by rw[<-h1,Nat.zero_add]) rfl
  | succ m=>exact .go .next _ m (q k (h1▸Nat.lt_add_of_pos_left (Nat.succ_pos m))) (f k) (.inl rfl) (zpY _) ⟨k+1,(Nat.succ_add m k).symm.trans h1,rfl⟩
 .refine zeS (m0:=preN e (T.drop i1)) (J:=λm c1=>∃k,m+k=preN e (T.drop i1)/\c1=c.set Iv (.int (i1+k:Nat))) O I ⟨0,rfl,G⟩ rfl ?_
  rintro m c1 ⟨k,h1,rfl⟩
  cases m with
  | zero=>
   rw[Nat.zero_add] at h1;rw[<-h1] at r ⊢;exact .inl ⟨rfl,λs l=>znc (zn3 F.toStat O l (N (c.set Iv _) s rfl l) i g j o ((zcv p).trans E) lookup_set_eq r a) ⋯⟩
  | succ m=>exact .inr ⟨q k (h1▸Nat.lt_add_of_pos_left (Nat.succ_pos m)),_,m,f k,zpY _,k+1,(Nat.succ_add m k).symm.trans h1,rfl⟩
theorem zjM (F:Frm X A env sc mu fr) (O:X.Ok){t:Expr}{a b:List Stmt}{p:Pos}{f:Fl}{q:Bool}(d:q=true) (e:∀s,Loc X A env mu c s->Ts X A env t q s) (g:St X A env mu fr c a f c'):St1 X A env mu fr c (.If t a b p) f c':=zB F O (q:=true) (λs l=>d▸e s l) g
theorem zgS (F:Frm X A env sc mu fr) (O:X.Ok){t:Expr}{a b:List Stmt}{p:Pos}{f:Fl}{q:Bool}(d:q=false) (e:∀s,Loc X A env mu c s->Ts X A env t q s) (g:St X A env mu fr c b f c'):St1 X A env mu fr c (.If t a b p) f c':=zB F O (q:=false) (λs l=>d▸e s l) g
theorem zaF (F:Frm X A env sc mu fr){st:Stmt}{f:Fl}(h:St1 X A env mu fr c st f c'):St X A env mu fr c [st] f c':=by
 cases f with
 | next=>exact ze F h st_nil
 | _=>exact zI nofun h
end
noncomputable def zbm:Nat->List Th->List Th->List Th->List Th->List Th×List Th
 | 0,es,as,M,U=>(M++es,U++as)
 | _+1,[],as,M,U=>(M++[],U++as)
 | _+1,es,[],M,U=>(M++es,U++[])
 | n+1,e::es,a::as,M,U=>if ltT e a=true then zbm n (es.dropWhile (· == e)) (a::as) (M++[e]) U else if ltT a e=true then zbm n (e::es) (as.dropWhile (· == a)) M (U++[a]) else zbm n (es.dropWhile (· == e)) (as.dropWhile (· == a)) M U
theorem zaz {n:Nat}{e a:Th}{es b M U:List Th}:zbm (n+1) (e::es) (a::b) M U=if ltT e a=true then zbm n (es.dropWhile (· == e)) (a::b) (M++[e]) U else if ltT a e=true then zbm n (e::es) (b.dropWhile (· == a)) M (U++[a]) else zbm n (es.dropWhile (· == e)) (b.dropWhile (· == a)) M U:=rfl
noncomputable def sldT (E G:List Th):List Th×List Th:=zbm (E.length+G.length) E G [] []
theorem zaG {n:Nat}{es a M U:List Th}(h:es=[]\/a=[]):zbm n es a M U=(M++es,U++a):=by
 cases n with
 | zero=>rfl
 | succ n=>
  rcases h with rfl|rfl
  .rfl
  .cases es<;>rfl
noncomputable abbrev cx36 (E G:List Th) (mb ub:Addr) (i j:Nat) (M U:List Th) (ex:Fds):Ctx:=
 ⟨(("expected":Str),.list (E.map thD))::(("actual":Str),.list (G.map thD))::(("i":Str),.int (i:Nat))::(("j":Str),.int (j:Nat))::(("missing":Str),ptr mb)::(("unexpected":Str),ptr ub)::ex,[],[(ub,.lst (U.map thD)),(mb,.lst (M.map thD))]⟩
noncomputable abbrev cEnd (mb ub:Addr) (q:List Th×List Th):Ctx:=⟨[("missing",ptr mb),("unexpected",ptr ub)],[],[(ub,.lst (q.2.map thD)),(mb,.lst (q.1.map thD))]⟩
section
variable {n:Nat}{E G:List Th}{mb ub:Addr}
noncomputable abbrev sc36:Scope:=zd (stm 36)
theorem own36 {i j:Nat}{M U:List Th}{b:Fds}{c d:Nat}{e f:List Th}{a:Fds}:owns (cx36 E G mb ub i j M U b).own=owns (cx36 E G mb ub c d e f a).own:=rfl
theorem last36 (F:Frm X A env sc36 mu fr) (O:X.Ok) (I:InFn A env) (J:Top1 X "IndexError" (.type "IndexError")) (r:mb∈fr) (t:ub∈fr){i j b g:Nat}{M U h m:List Th}{o:Fds}{body:List Stmt}{p1 p2 p3 p4 p5 p6 p7 p8 p9 q1 q2 u z B C v D H K L:Pos}
  (N:b<=E.length) (P:g<=G.length) (S:h.length<=b) (T:m.length<=g) (V:E.length<60) (W:G.length<60) (w:(p3.endLine==p7.line)=true) (y:(u.endLine==v.line)=true) (Q:(h++E.drop b,m++G.drop g)=sldT E G)
  (R:St X A env mu fr (cx36 E G mb ub i j M U []) body (.exc (.type "IndexError") [.str outM]) (cx36 E G mb ub b g h m o)) :
  St1 X A env mu fr (cx36 E G mb ub i j M U []) (.Try body [.ExceptHandler (some (.Name "IndexError" p1)) none [.Expr (.Call (.Attribute (.Name "missing" p2) "extend" p3) [.Subscript (.Name "expected" p4) (.Slice (some (.Name "i" p5)) none none p6) p8] [] p7) p9,.Expr (.Call (.Attribute (.Name "unexpected" q2) "extend" u) [.Subscript (.Name "actual" z) (.Slice (some (.Name "j" B)) none none C) D] [] v) H,.Break q1] K] [] [] L) .brk (cEnd mb ub (sldT E G)):=by
 have Y:sizeLine=2 ^ 24:=rfl;refine zeM (c':=cEnd mb ub (sldT E G)) (zgP (f:=.brk) (c2:=cx36 E G mb ub b g (h++E.drop b) (m++G.drop g) o) O F I (λ_ _=>by intro q;cases q) ⋯ (by ext) J mt_index own36 R λe=>?_) λs l=>l.less (SubL.of ⟨rfl,rfl,trivial⟩) (λx d e=>e) (by rw[<-Q]);have n:=F.mark (hd:=some (.ref e));refine ze n (c':=cx36 E G mb ub b g (h++E.drop b) m o) ?_ (ze n (c':=cx36 E G mb ub b g (h++E.drop b) (m++G.drop g) o) ?_ (zI (by intro q;cases q) st1_break))
 .have:=zed (xp:=p2) (ap:=p3) (p:=p7) (p':=p9) (e:=.Subscript (.Name "expected" p4) (.Slice (some (.Name "i" p5)) none none p6) p8) (c:=cx36 E G mb ub b g h m o) (x:="missing") (pre:=[(ub,.lst (m.map thD))]) (post:=[]) (ys:=h.map thD) (zs:=(E.drop b).map thD) n O ⋯ (by ext) ⋯ rfl r w ⋯ (by simp;sleep 98) λs l=>by
   rw[List.map_drop,<-zfe (xs:=E.map thD) (k:=b) (by rw[zqn];exact N)];exact zZ O l.tbm l.low (zf n.toStat l ⋯ (by ext) ⋯) (λs' a=>zY (zf n.toStat (l.aft O a) ⋯ (by ext) ⋯)) (λ_ _=>zay) (by rw[zqn];sleep 37)
  rwa[<-zqC] at this
 .have:=zed (xp:=q2) (ap:=u) (p:=v) (p':=H) (e:=.Subscript (.Name "actual" z) (.Slice (some (.Name "j" B)) none none C) D) (c:=cx36 E G mb ub b g (h++E.drop b) m o) (x:="unexpected") (pre:=[]) (post:=[(mb,.lst ((h++E.drop b).map thD))]) (ys:=m.map thD) (zs:=(G.drop g).map thD) n O ⋯ (by ext) ⋯ rfl t y ⋯ (by simp;sleep 98) λs l=>by
   rw[List.map_drop,<-zfe (xs:=G.map thD) (k:=g) (by rw[zqn];exact P)];exact zZ O l.tbm l.low (zf n.toStat l ⋯ (by ext) ⋯) (λs' a=>zY (zf n.toStat (l.aft O a) ⋯ (by ext) ⋯)) (λ_ _=>zay) (by rw[zqn];sleep 37)
  rwa[<-zqC] at this
end
noncomputable def zpl:List Stmt:=zG ((zG (stm 36)).getD 4 (.Pass ⟨0,0,0,0⟩))
noncomputable def tryB36:List Stmt:=zG (zpl.getD 0 (.Pass ⟨0,0,0,0⟩))
noncomputable abbrev excIx:Fl:=.exc (.type "IndexError") [.str outM]
theorem zcH {T:List Th}{i:Nat}{e:Th}(h:T[i]? = some e):T.drop i=e::T.drop (i+1):=by
 obtain⟨a,rfl⟩:=zpJ.mp h;exact zp7 a
section
variable {n:Nat}{E G:List Th}{mb ub:Addr}
structure Adv (T:List Th) (i:Nat) (e:Th) (i2:Nat):Prop where
 lt:i<i2
 le:i2<=T.length
 drop:T.drop i2=(T.drop (i+1)).dropWhile (· == e)
theorem adv {T:List Th}{i:Nat}{e:Th}(h:T[i]? = some e):Adv T i e (i+1+preN e (T.drop (i+1))):=
 ⟨zpM (zpY i) (zqu _ _),by
  have:=znG e (T.drop (i+1));rw[List.length_drop] at this;exact(Nat.le_sub_iff_add_le' (zpJ.mp h).1).mp this,by rw[<-List.drop_drop,zjX]⟩
inductive T36 (X:Wd) (A:Around) (env:Env) (mu fr:LA) (E G:List Th) (mb ub:Addr) (i j:Nat) (M U:List Th) (e a:Th):Prop
 | mk (f:Fl) (i2 j2:Nat) (M2 U2:List Th):(f=.next\/(f=excIx/\(i2=E.length\/j2=G.length)))->St X A env mu fr (cx36 E G mb ub i j M U []) tryB36 f (cx36 E G mb ub i2 j2 M2 U2 [("e",thD e),("a",thD a)])->(∀k,zbm (k+1) (E.drop i) (G.drop j) M U=zbm k (E.drop i2) (G.drop j2) M2 U2)->
   i+j<i2+j2->i<=i2->j<=j2->i2<=E.length->j2<=G.length->M2.length<=i2->U2.length<=j2->T36 X A env mu fr E G mb ub i j M U e a
theorem zhP {M:List Th}{e:Th}:M.map thD++[thD e]=(M++[e]).map thD:=(zqC (l₂:=[e])).symm
theorem zjP {M:List Th}{i m:Nat}(h:M.length<=i) (a:i<m) (b:m<=1000):(M.map thD).length<=sizeLine:=by
 rw[zqn];exact zpF h (zpF (zqt a) (zpF b (by ext)))
theorem aug36i {i j:Nat}{M U:List Th}{c:Fds}{p1 p2 p3:Pos}{k1:Nat}(F:Frm X A env sc36 mu fr) (O:X.Ok):St1 X A env mu fr (cx36 E G mb ub i j M U c) (.AugAssign (.Name "i" p1) .Add (.Constant (.int 1) k1 p2) p3) .next (cx36 E G mb ub (i+1) j M U c):=zdh (a:=(i:Nat)) (b:=1) F O ∅ ⋯ λs l=>ev_int
theorem aug36j {i j:Nat}{c:Fds}{ow:List (Addr×Own)}{p1 p2 p3:Pos}{k1:Nat}(F:Frm X A env sc36 mu fr) (O:X.Ok):St1 X A env mu fr {cx36 E G mb ub i j [] [] c with own:=ow} (.AugAssign (.Name "j" p1) .Add (.Constant (.int 1) k1 p2) p3) .next {cx36 E G mb ub i (j+1) [] [] c with own:=ow}:=zdh (a:=(j:Nat)) (b:=1) F O ∅ ⋯ λs l=>ev_int
theorem app36m {i j:Nat}{M U:List Th}{a:Fds}{t:Th}{q1 q2 d e f:Pos}{x:Str}(F:Frm X A env sc36 mu fr) (O:X.Ok) (b:mb∈fr) (g:(q2.endLine==e.line)=true) (h:M.length<=i) (c:i<E.length) (k:E.length<=1000) (l:∀s,Loc X A env mu (cx36 E G mb ub i j M U a) s->Ev X A env mu (.Name x d) (thD t) s) :
  St1 X A env mu fr (cx36 E G mb ub i j M U a) (.Expr (.Call (.Attribute (.Name "missing" q1) "append" q2) [.Name x d] [] e) f) .next (cx36 E G mb ub i j (M++[t]) U a):=by
 have:=zan (p':=f) (xp:=q1) (x:="missing") (pre:=[(ub,.lst (U.map thD))]) (post:=[]) (ys:=M.map thD) F O ∅ (by ext) ⋯ rfl b g ⋯ (zjP h c k) l;rwa[zhP] at this
theorem app36u {i j:Nat}{M U:List Th}{a:Fds}{t:Th}{q1 q2 d e f:Pos}{x:Str}(F:Frm X A env sc36 mu fr) (O:X.Ok) (b:ub∈fr) (g:(q2.endLine==e.line)=true) (h:U.length<=j) (c:j<G.length) (k:G.length<=1000) (l:∀s,Loc X A env mu (cx36 E G mb ub i j M U a) s->Ev X A env mu (.Name x d) (thD t) s) :
  St1 X A env mu fr (cx36 E G mb ub i j M U a) (.Expr (.Call (.Attribute (.Name "unexpected" q1) "append" q2) [.Name x d] [] e) f) .next (cx36 E G mb ub i j M (U++[t]) a):=by
 have:=zan (p':=f) (xp:=q1) (x:="unexpected") (pre:=[]) (post:=[(mb,.lst (M.map thD))]) (ys:=U.map thD) F O ∅ (by ext) ⋯ rfl b g ⋯ (zjP h c k) l;rwa[zhP] at this
theorem try36 (F:Frm X A env sc36 mu fr) (O:X.Ok) (I:InFn A env) (R:Rm n A) (N:A.handled=none) (a3:mb∈fr) (a4:ub∈fr){i j:Nat}{M U:List Th}{e a:Th}(P:E[i]? = some e) (Q:G[j]? = some a) (hM:M.length<=i) (hU:U.length<=j) (hE:E.length<=1000) (hG:G.length<=1000) (h1:∀t∈E,good (thD t)=true) (h2:∀t∈G,good (thD t)=true):T36 X A env mu fr E G mb ub i j M U e a:=by
 have S:=(zpJ.mp P).1;have W:=(zpJ.mp Q).1;have m:=adv P;have g:=adv Q;let d:Fds:=[("e",thD e),("a",thD a)];have pre:∀{f:Fl}{c':Ctx}{D:List Stmt}{p1 p2 p3 p4 p5 q1 q2 Y z Z:Pos},St X A env mu fr (cx36 E G mb ub i j M U d) D f c'->St X A env mu fr (cx36 E G mb ub i j M U []) (.Assign [.Name "e" p1] (.Subscript (.Name "expected" p2) (.Name "i" p3) p4) p5::.Assign [.Name "a" q1] (.Subscript (.Name "actual" q2) (.Name "j" Y) z) Z::D) f c':=λh=>
  ze F (c':=cx36 E G mb ub i j M U [("e",thD e)]) (zj F O ∅ ⋯ λs l=>zkq F.toStat O l ∅ ∅ (by ext) (by ext) ⋯ ⋯ P hE)
  (ze F (c':=cx36 E G mb ub i j M U d) (zj F O ∅ ⋯ λs l=>zkq F.toStat O l ∅ ∅ (by ext) (by ext) ⋯ ⋯ Q hG) h)
 have eE:∀{p:Pos}{s:Shared}{M U:List Th},Loc X A env mu (cx36 E G mb ub i j M U d) s->Ev X A env mu (.Name "e" p) (thD e) s:=λl=>zf F.toStat l ∅ (by ext) ⋯;have eA:∀{p:Pos}{s:Shared}{M U:List Th},Loc X A env mu (cx36 E G mb ub i j M U d) s->Ev X A env mu (.Name "a" p) (thD a) s:=λl=>zf F.toStat l ∅ (by ext) ⋯;have a0:∀{p1 p2 p3:Pos} s,Loc X A env mu (cx36 E G mb ub i j M U d) s->Ts X A env (.Compare (.Name "e" p1) [.Lt] [.Name "a" p2] p3) (ltT e a) s:=λs l=>
  zQ O l.tbm (a:=thD e) (b:=thD a) (eE l) (λs' a=>eA (l.aft O a)) ⋯ λu v s' _ ru rv=>zo3 (xs:=thL e) (ys:=thL a) R ru rv rfl
 have a1:∀{p1 p2 p3:Pos} s,Loc X A env mu (cx36 E G mb ub i j M U d) s->Ts X A env (.Compare (.Name "e" p1) [.Gt] [.Name "a" p2] p3) (ltT a e) s:=λs l=>
  zQ O l.tbm (a:=thD e) (b:=thD a) (eE l) (λs' a=>eA (l.aft O a)) ⋯ λu v s' _ ru rv=>zgZ e a▸zmX (X:=X) (s:=s') (xs:=thL e) (ys:=thL a) R ru rv rfl
 have wI:=fun {j1:Nat}{M1 U1:List Th}{p1 p2 p3 p4 p5 p6 p7 p8 p9:Pos}{k1:Nat}=>zd7 (c:=cx36 E G mb ub (i+1) j1 M1 U1 d) (L:="expected") (Iv:="i") (V:="e") (T:=E) (i1:=i+1) (e:=e) (p1:=p1) (p2:=p2) (p3:=p3) (p4:=p4) (p5:=p5) (p6:=p6) (p7:=p7) (p8:=p8) (p9:=p9) (k1:=k1) F O I R ∅ ∅ ∅ (by ext) (by ext) (by ext) (by ext) (by ext) ⋯ ⋯ ⋯ h1 (h1 e (zqd P)) hE S λ_ _ _ _=>zbZ N;have wJ:=fun {A2:Around}{a5:LA}{i1:Nat}{ow:List (Addr×Own)}{p1 p2 p3 p4 p5 p6 p7 p8 p9:Pos}{k1:Nat}(F2:Frm X A2 env sc36 a5 fr) (I2:InFn A2 env) (R2:Rm n A2) hH=>zd7 (c:={cx36 E G mb ub i1 (j+1) [] [] d with own:=ow}) (L:="actual") (Iv:="j") (V:="a") (T:=G) (i1:=j+1) (e:=a) (p1:=p1) (p2:=p2) (p3:=p3) (p4:=p4) (p5:=p5) (p6:=p6) (p7:=p7) (p8:=p8) (p9:=p9) (k1:=k1) F2 O I2 R2 ∅ ∅ ∅ (by ext) (by ext) (by ext) (by ext) (by ext) ⋯ ⋯ ⋯ h2 (h2 a (zqd Q)) hG W hH
 by_cases r:ltT e a=true
 .have k:∀f,(f=.next\/f=excIx/\i+1+preN e (E.drop (i+1))=E.length)->St X A env mu fr (cx36 E G mb ub i j M U []) tryB36 f (cx36 E G mb ub (i+1+preN e (E.drop (i+1))) j (M++[e]) U d)->T36 X A env mu fr E G mb ub i j M U e a:=λf hf h=>
   .mk f _ _ _ _ (hf.imp id λq=>⟨q.1,.inl q.2⟩) h (λk=>by rw[zcH P,zcH Q,zaz,if_pos r,m.drop]) (Nat.add_lt_add_right m.lt j) (zqt m.lt) (zpB _) m.le (zqt W) (by rw[zqq];exact zpF (zqx hM) m.lt) hU
  have run:∀f {c':Ctx}{t:Stmt}{q1 q2 Y z Z H J K:Pos}{k1:Nat}{w:List Stmt}{p1 p2 p3 p9:Pos},(q2.endLine==z.line)=true->St1 X A env mu fr (cx36 E G mb ub (i+1) j (M++[e]) U d) t f c'->St X A env mu fr (cx36 E G mb ub i j M U d) [.If (.Compare (.Name "e" p1) [.Lt] [.Name "a" p2] p3) [.Expr (.Call (.Attribute (.Name "missing" q1) "append" q2) [.Name "e" Y] [] z) Z,.AugAssign (.Name "i" H) .Add (.Constant (.int 1) k1 J) K,t] w p9] f c':=λf {c' t q1 q2 Y z Z H J K k1 w p1 p2 p3 p9} hl h=>
   zaF F (zjM F O r a0 (ze F (app36m F O a3 hl hM S hE λs l=>eE l) (ze F (aug36i F O) (zaF F h))))
  by_cases B:i+1+preN e (E.drop (i+1))<E.length
  .exact k _ (.inl rfl) (by (show (_:List Stmt->_->_->Prop) (_::_) _ _);exact pre (run _ ∅ (wI.1 B)))
  .have he:=Nat.le_antisymm m.le (zqK B);exact k _ (.inr ⟨rfl,he⟩) (by (show (_:List Stmt->_->_->Prop) (_::_) _ _);exact pre (run _ ∅ (wI.2 he.symm).st1))
 .have hlt':ltT e a=false:=zqR.mpr r
  by_cases C:ltT a e=true
  .have k:∀f,(f=.next\/f=excIx/\j+1+preN a (G.drop (j+1))=G.length)->St X A env mu fr (cx36 E G mb ub i j M U []) tryB36 f (cx36 E G mb ub i (j+1+preN a (G.drop (j+1))) M (U++[a]) d)->T36 X A env mu fr E G mb ub i j M U e a:=λf hf h=>
    .mk f _ _ _ _ (hf.imp id λq=>⟨q.1,.inr q.2⟩) h (λk=>by rw[zcH P,zcH Q,zaz,if_neg r,if_pos C,g.drop]) (Nat.add_lt_add_left g.lt i) (zpB _) (zqt g.lt) (zqt S) g.le hM (by rw[zqq];exact zpF (zqx hU) g.lt)
   have run:∀f {c':Ctx}{t:Stmt}{q1 q2 Y z Z H J K:Pos}{k1:Nat}{th w:List Stmt}{p1 p2 p3 p9 r1 r2 r3 r9:Pos},(q2.endLine==z.line)=true->St1 X A env mu fr (cx36 E G mb ub i (j+1) M (U++[a]) d) t f c'->St X A env mu fr (cx36 E G mb ub i j M U d) [.If (.Compare (.Name "e" r1) [.Lt] [.Name "a" r2] r3) th [.If (.Compare (.Name "e" p1) [.Gt] [.Name "a" p2] p3) [.Expr (.Call (.Attribute (.Name "unexpected" q1) "append" q2) [.Name "a" Y] [] z) Z,.AugAssign (.Name "j" H) .Add (.Constant (.int 1) k1 J) K,t] w p9] r9] f c':=λf {c' t q1 q2 Y z Z H J K k1 th w p1 p2 p3 p9 r1 r2 r3 r9} hl h=>
    zaF F (zgS F O hlt' a0 (zaF F (zjM F O C a1 (ze F (app36u F O a4 hl hU W hG λs l=>eA l) (ze F (aug36j F O) (zaF F h))))))
   by_cases B:j+1+preN a (G.drop (j+1))<G.length
   .exact k _ (.inl rfl) (by (show (_:List Stmt->_->_->Prop) (_::_) _ _);exact pre (run _ ∅ ((wJ F I R λ_ _ _ _=>zbZ N).1 B)))
   .have he:=Nat.le_antisymm g.le (zqK B);exact k _ (.inr ⟨rfl,he⟩) (by (show (_:List Stmt->_->_->Prop) (_::_) _ _);exact pre (run _ ∅ ((wJ F I R λ_ _ _ _=>zbZ N).2 he.symm).st1))
  .have hgt':ltT a e=false:=zqR.mpr C;have k:∀f,(f=.next\/f=excIx/\(i+1+preN e (E.drop (i+1))=E.length\/j+1+preN a (G.drop (j+1))=G.length))->St X A env mu fr (cx36 E G mb ub i j M U []) tryB36 f (cx36 E G mb ub (i+1+preN e (E.drop (i+1))) (j+1+preN a (G.drop (j+1))) M U d)->T36 X A env mu fr E G mb ub i j M U e a:=λf hf h=>
    .mk f _ _ _ _ hf h (λk=>by rw[zcH P,zcH Q,zaz,if_neg r,if_neg C,m.drop,g.drop]) (Nat.add_lt_add m.lt g.lt) (zqt m.lt) (zqt g.lt) m.le g.le (zpF hM (zqt m.lt)) (zpF hU (zqt g.lt))
   have run:∀f {c':Ctx}{t:Stmt}{H J K:Pos}{k1:Nat}{th a2:List Stmt}{p1 p2 p3 p9 r1 r2 r3 r9:Pos},St1 X A env mu fr (cx36 E G mb ub (i+1) j M U d) t f c'->St X A env mu fr (cx36 E G mb ub i j M U d) [.If (.Compare (.Name "e" r1) [.Lt] [.Name "a" r2] r3) th [.If (.Compare (.Name "e" p1) [.Gt] [.Name "a" p2] p3) a2 [.AugAssign (.Name "i" H) .Add (.Constant (.int 1) k1 J) K,t] p9] r9] f c':=λf {c' t H J K k1 th a2 p1 p2 p3 p9 r1 r2 r3 r9} h=>
    zaF F (zgS F O hlt' a0 (zaF F (zgS F O hgt' a1 (ze F (aug36i F O) (zaF F h)))))
   by_cases B:i+1+preN e (E.drop (i+1))<E.length
   .by_cases y:j+1+preN a (G.drop (j+1))<G.length
    .exact k _ (.inl rfl) (by (show (_:List Stmt->_->_->Prop) (_::_) _ _);exact pre (run _ (zde I (.inl rfl) own36 (ze F (wI.1 B) st_nil) (ze F (aug36j F O) (zaF F ((wJ F I R λ_ _ _ _=>zbZ N).1 y))))))
    .have he:=Nat.le_antisymm g.le (zqK y);exact k _ (.inr ⟨rfl,.inr he⟩) (by (show (_:List Stmt->_->_->Prop) (_::_) _ _);exact pre (run _ (zde I (.inr ⟨_,_,rfl⟩) own36 (ze F (wI.1 B) st_nil) (ze F (aug36j F O) (zaF F ((wJ F I R λ_ _ _ _=>zbZ N).2 he.symm).st1)))))
   .have hei:=Nat.le_antisymm m.le (zqK B);have F':=λx=>(F.mark (hd:=some (.ref x))).muMore (mu':=x::mu) λb q=>zpx _ q
    by_cases y:j+1+preN a (G.drop (j+1))<G.length
    .exact k _ (.inr ⟨rfl,.inl hei⟩) (by (show (_:List Stmt->_->_->Prop) (_::_) _ _);exact pre (run _ (zgO F I N own36 own36 (zbq (wI.2 hei.symm)) λx o hc hx=>ze (F' x) (aug36j (F' x) O) (zaF (F' x) ((wJ (F' x) ⟨I.fr,I.at_⟩ R.mark λc1 s h0 l=>zmN O rfl hc l (h0▸.head _)).1 y)))))
    .have he:=Nat.le_antisymm g.le (zqK y);exact k _ (.inr ⟨rfl,.inl hei⟩) (by (show (_:List Stmt->_->_->Prop) (_::_) _ _);exact pre (run _ (zgN F I N own36 own36 (zbq (wI.2 hei.symm)) λx o hc hx=>zfC (aug36j (F' x) O) (zbq ((wJ (F' x) ⟨I.fr,I.at_⟩ R.mark λc1 s h0 l=>zmN O rfl hc l (h0▸.head _)).2 he.symm)))))
end
section
variable {n:Nat}
inductive J36 (E G:List Th) (mb ub:Addr) (k:Nat) (c:Ctx):Prop
 | mk (i j:Nat) (M U:List Th) (e:c=cx36 E G mb ub i j M U []) (hk:(E.length - i)+(G.length - j)<=k) (hgo:zbm k (E.drop i) (G.drop j) M U=sldT E G) (hi:i<=E.length) (hj:j<=G.length) (hM:M.length<=i) (hU:U.length<=j)
theorem zhA (O:X.Ok) (H:Top1 X "IndexError" (.type "IndexError")) (hA:A.handled=none){E G:List Th}(h1:∀t∈E,good (thD t)=true) (h2:∀t∈G,good (thD t)=true) (I:E.length<60) (K:G.length<60) :
  zba X A (n+1) 36 [.list (E.map thD),.list (G.map thD)] (.ret (zfD (sldT E G))):=zP.ofF λT env mu' fr' R B D F C=>by
 rw[hA] at B;show (_:List Stmt->_->Prop) (_::_) _;refine zc3 λs0 V=>?_;refine zL (zaq F.toStat O ⋯ ⋯ λs l=>ev_str) ?_;refine zL (zdk F O ∅ ∅ (zcq F.toStat ⋯) λs l=>ev_int) ?_;refine zdd F O (ys:=[]) ∅ ⋯ (λs l=>zbG evs_nil (by ext)) (λb m=>m) λg hb F1=>?_;refine zdd F1 O (ys:=[]) ∅ ⋯ (λs l=>zbG evs_nil (by ext)) (λb m=>zpx _ m) λo hu h=>?_;refine zL (c1:=cEnd g o (sldT E G)) (?_:St1 X T env (o::g::mu') (o::g::fr') (cx36 E G g o 0 0 [] [] []) _ .next (cEnd g o (sldT E G))) ?_
 .refine zaX (m0:=E.length+G.length) (J:=J36 E G g o) O ⟨0,0,[],[],rfl,by lia,rfl,zqy _,zqy _,zpB _,zpB _⟩ ?_;intro k c hJ;obtain⟨i,j,M,U,rfl,hk,p,W,Y,L,N⟩:=hJ;have v:g∈o::g::fr':=by simp
  have w:o∈o::g::fr':=by simp
  by_cases P:i<E.length
  .obtain ⟨e,he⟩:∃e,E[i]? = some e:=⟨_,zpN P⟩
   by_cases Q:j<G.length
   .obtain ⟨a,ha⟩:∃a,G[j]? = some a:=⟨_,zpN Q⟩;obtain⟨f,Z,j2,M2,U2,hf,S,z,a0,_,_,q1,q2,q3,q4⟩:=try36 h O D R B v w he ha L N (by sleep 125) (by sleep 125) h1 h2;obtain⟨k,rfl⟩:∃k',k=k'+1:=⟨k - 1,by sleep 71⟩;rw[z] at p
    conv at S=>arg 7;whnf
    rcases hf with rfl|⟨rfl,hend⟩
    .exact .go .next _ k (λs l=>zaN (mu:=mu') (a:=.bool true) rfl ev_bool λu s' r=>by cases r;exact tr_bool) (ze h (zeM (zb8 S) λs l=>l.less (c':=cx36 E G g o Z j2 M2 U2 []) (SubL.of ⟨rfl,rfl,rfl,rfl,rfl,rfl,trivial⟩) (λx d e=>e) rfl) st_nil) (.inl rfl) (zpY _) ⟨Z,j2,M2,U2,rfl,by sleep 68,p,q1,q2,q3,q4⟩
    .refine .out .brk (λs l=>zaN (mu:=mu') (a:=.bool true) rfl ev_bool λu s' r=>by cases r;exact tr_bool) (zI (by intro q;cases q) (last36 h O D H v w q1 q2 q3 q4 I K ∅ ∅ ?_ S)) (.inl ⟨rfl,rfl⟩);rw[<-p,zaG (hend.imp (λq=>by rw[q];exact List.drop_length ..) λq=>by rw[q];exact List.drop_length ..)]
   .refine .out .brk (λs l=>zaN (mu:=mu') (a:=.bool true) rfl ev_bool λu s' r=>by cases r;exact tr_bool) (zI (by intro q;cases q) (last36 h O D H v w W Y L N I K ∅ ∅ ?_ (ze h (c':=cx36 E G g o i j M U [("e",thD e)]) (zj h O ∅ ⋯ λs l=>ev_itemList (xs:=E.map thD) (i:=(i:Nat)) O l.tbm (zf h.toStat l ∅ (by ext) ⋯) (λs' a=>zf h.toStat (l.aft O a) ∅ (by ext) ⋯) ⋯ (by lia) (by sleep 41) (by rw[Int.toNat_natCast,zqS,he];rfl))
     (zI (by intro q;cases q) (zdi O ⋯ λs l=>zhg (xs:=G.map thD) (i:=(j:Nat)) O l.tbm l.low (zbZ B) (zf h.toStat l ∅ (by ext) ⋯) (λs' a=>zf h.toStat (l.aft O a) ∅ (by ext) ⋯) ⋯ (by lia) (by sleep 42) (by rw[zqn];lia)))))) (.inl ⟨rfl,rfl⟩)
    rw[<-p,zaG (.inr (List.drop_eq_nil_of_le (by sleep 6)))]
  .refine .out .brk (λs l=>zaN (mu:=mu') (a:=.bool true) rfl ev_bool λu s' r=>by cases r;exact tr_bool) (zI (by intro q;cases q) (last36 h O D H v w W Y L N I K ∅ ∅ ?_
     (zI (by intro q;cases q) (zdi O ⋯ λs l=>zhg (xs:=E.map thD) (i:=(i:Nat)) O l.tbm l.low (zbZ B) (zf h.toStat l ∅ (by ext) ⋯) (λs' a=>zf h.toStat (l.aft O a) ∅ (by ext) ⋯) ⋯ (by lia) (by sleep 42) (by rw[zqn];lia))))) (.inl ⟨rfl,rfl⟩)
   rw[<-p,zaG (.inl (List.drop_eq_nil_of_le (by sleep 6)))]
 .have tm1:Mu X T (g::mu'):=V.tbm.more λb q=>zpx _ q;refine zam (mu':=g::mu') (pre:=[]) (post:=[(g,.lst ((sldT E G).1.map thD))]) (x:="unexpected") rfl ⋯ (λy m=>List.mem_cons_of_mem _ m) hu tm1 (λy m=>by simp[owns,Own.ads] at m;subst m;simp) ?_;refine zam (mu':=mu') (pre:=[]) (post:=[]) (x:="missing") rfl ⋯ (λy m=>List.mem_cons_of_mem _ m) hb V.tbm (λy m=>by simp[owns] at m) ?_;refine zeb (zaf O λs l=>?_) (λb m=>m);exact zar l.tbm l.low (zc l.tbm ⋯ (zf F.toStat l ∅ (by ext) ⋯) λs' a=>zc l.tbm ⋯ (zf F.toStat (l.aft O a) ∅ (by ext) ⋯) λ_ _=>evs_nil) (by show 2<=sizeLine;decide)
end
theorem zg5 (s:Shared):Keeps s s:=⟨s.heap,s.toks,rfl,λ_ _ e=>e⟩
theorem zE {s s' c:Shared}(a:Keeps s s') (b:Keeps s' c):Keeps s c:=by
 obtain⟨g,h,rfl,k1⟩:=a;obtain⟨d,f,rfl,k2⟩:=b;exact⟨d,f,rfl,λb o e=>k2 b o (k1 b o e)⟩
theorem zbO (s:Shared) (t:Nat):Keeps s {s with toks:=t}:=⟨s.heap,t,rfl,λ_ _ e=>e⟩
theorem znU {h:Heap}{t:Nat}(k:∀b o,s.heap.get? b=some o->h.get? b=some o):Keeps s {s with heap:=h,toks:=t}:=⟨h,t,rfl,k⟩
theorem zcA {s s':Shared}(a:Keeps s s') (st:X.kk.StaysIn s.heap):X.kk.StaysIn s'.heap:=by
 obtain⟨c,d,rfl,k1⟩:=a;exact λb o e=>k1 b o (st b o e)
section
theorem zjc {a:Addr}(g:zcW X a) (st:X.kk.StaysIn s.heap){x:Str}{t:Tok}{b:Bool}(i:zcg x=some b) (j:x.cps.size<=2 ^ 24){Q:VP}
  (h:∀v s',Keeps s s'->(if b=true then ∃r,v=.ref r else v=.none)->Q v s'):wpAny X.M A (call (.ref a) [.str x t]) Q E s:=by
 obtain⟨p,q,z,B,C,D,n,sl,k,l,m⟩:=g.ex;have u:=st _ _ k;have f:=st _ _ l;have w:=st _ _ m;obtain⟨y,c,d⟩:=Option.bind_eq_some_iff.mp i;refine zqY (codeAny_of_tree ?_);show wpAny _ _ (callAny (.ref a) _) _ _ s;unfold callAny;refine wpB (zq9 u ?_);show wpAny _ _ (checkBoundCall "re.Pattern.search" ⟨[.ref p,.str x t],[]⟩>>=λ_=>again (.builtin "re.Pattern.search" ⟨[.ref p,.str x t],[]⟩)) _ _ s;refine wpB (zi9 f rfl rfl (zpR ⟨Code.quiet_builtin _ (by decide +kernel),codeAny_builtinAt ziZ ?_⟩));refine wpAt_of_wpAny ?_;unfold Builtin.«re.Pattern.search»;refine wpB (zgI f w j ?_);unfold Builtin.Re.reAnswer;refine wpB (ziy c (by ext) d ?_);cases b with
 | false=>exact zpR (h _ _ (zg5 _) rfl)
 | true=>
  show wpAny _ _ (Builtin.Re.reNewMatch (.ref p) (.str x t) 0 0 x.cps.size y>>=λv=>ret v) _ _ s;unfold Builtin.Re.reNewMatch newFields newTuple;refine wpB (wpB (zp8 (zp8 (zpR ?_)) ?_))
  .exact h _ _ ⟨_,_,rfl,λb o e=>zpD _ (zpD _ e)⟩ ⟨_,rfl⟩
  .show 2<=sizeLine
   decide
def Kv (X:Wd) (A:Around) (env:Env) (e:Expr) (x:Str) (s:Shared):Prop:=∀(E:VP) (Q:VP),(∀t s',Keeps s s'->s.toks<=s'.toks->Q (.str x t) s')->wpAny X.M A (eval e env) Q E s
theorem zoO {x:Str}{k:Nat}{p:Pos}:Kv X A env (.Constant (.str x) k p) x s:=λ_ _ h=>Constant_str (h _ _ (zbO _ _) (zqz _))
theorem zoP {l r:Expr}{p:Pos}{a b:Str}(j:Kv X A env l a s) (k:∀s',Keeps s s'->s.toks<=s'.toks->Kv X A env r b s') (hz:a.length+b.length<=sizeLine):Kv X A env (.BinOp l .Add r p) (a++b) s:=λE Q h=>
 wpAny_BinOp (j _ _ λu d c e=>k d c e _ _ λv g f i=>wpt (PyProof.Rows.add_str (λn tk m _=>h _ _ (zE (zE c f) (zbO _ _)) (by lia)) hz))
theorem zkb {r:Expr}{k1 k2:Nat}{p1 p2 p3 p:Pos}{a x b:Str}(i:∀s',Keeps s s'->0<s'.toks->Kv X A env r x s') (hz:a.length+x.length<=sizeLine) (e:(a++x).length+b.length<=sizeLine):Kv X A env (.BinOp (.BinOp (.Constant (.str a) k1 p1) .Add r p2) .Add (.Constant (.str b) k2 p3) p) (a++x++b) s:=
 zoP (λE Q h=>wpAny_BinOp (Constant_str (i {s with toks:=s.toks+1} (zbO _ _) (Nat.succ_pos _) _ _ λv g c d=>wpt (PyProof.Rows.add_str (λj tk f _=>h _ _ (zE (zE (zbO _ _) c) (zbO _ _)) (zpF (zqz _) (zpF d f))) hz)))) (λ_ _ _=>zoO) e
theorem ziJ {o:Expr}{x y z:Str}{ap p p1 p2:Pos}{k1 k2:Nat}(g:plainBase o=true) (i:(ap.endLine==p.line)=true) (d:0<s.toks) (j:Kv X A env o x s) (e:(y==z)=false) (hz:x.length+(x.length+1) * z.length<=16777216) :
  Kv X A env (.Call (.Attribute o "replace" ap) [.Constant (.str y) k1 p1,.Constant (.str z) k2 p2] [] p) (Txt.replace x y z) s:=λE Q h=>by
 refine wpAny_Call_method (zab g) ⋯ i F.plainAttrs_str F.slot_str_replace F.type_str_replace (j _ _ λt a b c=>⟨typeIs_str _ _ _,λ_ q=>(nomatch q),?_⟩);refine Calls.callWith_builtin (zak (es:=[.Constant (.str y) k1 p1,.Constant (.str z) k2 p2]) rfl) (Calls.evalArgs_plain (spliced_more (Constant_str (spliced_more (Constant_str (spliced_none ?_)) rfl)) rfl));have tk:=zpM d c;refine wpt (SC.replace (zqH tk) (zqH (Nat.succ_pos _)) (zqV (zpY _)) e hz λl k f _=>h _ _ (zE b (zbO _ _)) ?_);have f:a.toks+1+1<=k:=f;show s.toks<=k;lia
theorem zkc (S:Stat X env sc){m:Str->Option Value}{x:Str}{w:Str}{t:Tok}{p:Pos}(a:s.heap.Ns env.locals m) (b:m x=some (.str w t)) (c:sc.names.lookup x=some .local) (hd:(x==("__debug__":Str))=false):Kv X A env (.Name x p) w s:=λE Q h=>
 wpAny_Name (wpAny_loadName_local (by rw[S.scope];exact S.kind) (by unfold Env.kindOf;rw[S.scope];exact c) a b (h _ _ (zg5 _) (Nat.le_refl _))) hd
theorem zbv {M:Model}{p:Pos}{b:Value}{e:Expr}{Q:Args->Shared->Prop}(a:plainArg e=true) (h:wpAny M A (eval e env) (λv s'=>Q ⟨[v],[]⟩ s') E s):wpAny M A (evalArgs b true (backTo p (starEach [e] env)) []) Q E s:=by
 have z:wpAny M A (spliced (backTo p (starEach [e] env))) (λvs s'=>Q ⟨vs,[]⟩ s') E s:=spliced_more (zp9 h (λv s' q=>spliced_none q) λ_ _ x=>x) (zh a);rw[zh a] at z ⊢;exact Calls.evalArgs_plain z
theorem zlN (S:Stat X env sc) (O:X.Ok) (st:X.kk.StaysIn s.heap){a:Addr}(l:zcW X a){m p p' n:Pos}{k:Nat}{e:Expr}{w:Str}{b:Bool}(u:sc.names.lookup ("_find_unsafe":Str)=some .globalImplicit) (T:Top1 X "_find_unsafe" (.ref a)) (o:plainArg e=true)
  (y:Kv X A env e w s) (z:zcg w=some b) (B:w.cps.size<=2 ^ 24){Q:Bool->Shared->Prop}(h:∀s',Keeps s s'->Q (!b) s'):wpAny X.M A (isTrue (.Compare (.Call (.Name "_find_unsafe" m) [e] [] p) [.Is] [.Constant .none k n] p') env (eval (.Compare (.Call (.Name "_find_unsafe" m) [e] [] p) [.Is] [.Constant .none k n] p') env)) Q E s:=by
 obtain⟨D,_,_,_,_,_,_,_,C,_⟩:=id l.ex;refine wpAny_isTrue_Compare1 (zqZ (zw S O st u (by ext) T ?_)) ⋯;unfold callWith;refine wpB (zpS ?_);refine zbv o (y _ _ λt g c _=>?_);refine wpB (zqI ?_);rw[zak (es:=[e]) (by simp[o])];have j:=zcA c st _ _ C;unfold keeperOf;refine wpB (wpB (zq9 j (zpR ?_)));refine wpB (zp9 (zjc (E:=E) (A:=A) (t:=t) l (zcA c st) z B λv f d i=>(⟨d,i⟩:Keeps g f/\(if b=true then ∃r,v=.ref r else v=.none))) (λv f q=>wpB (zpS (wpAny_point (zpR ?_)))) λ_ _ x=>x);obtain⟨d,i⟩:=q;refine wpAny_Constant_none ?_;have k3:=zE (zE c d) (zbO _ f.toks);cases b with
 | true=>
  obtain⟨r,rfl⟩:=i;exact is_ref_none (wpAny_truthy_bool (h _ (zE c d)))
 | false=>
  obtain rfl:=i;exact wpAny_is_self ⋯ (wpAny_truthy_bool (h _ (zE c d)))
end
section
theorem ziC (O:X.Ok){a:Addr}(B:zcW X a) (T:Top1 X "_find_unsafe" (.ref a)) (S:Stat X env (zd (stm 33))){w:Str}{b:Bool}(C:w.length≠0->zcg w=some b) (H:w.length<=10000) (I:(Txt.replace w "'" "'\"'\"'").length<=10000) (st:X.kk.StaysIn s.heap)
  (nm:∀{c:Shared}{p:Pos},Keeps s c->Kv X A env (.Name "s" p) w c){Q:Flow->Shared->Prop}{E:VP}(h:∀D s',Keeps s s'->Q (.ret (.str (quoteD w b) D)) s'):wpAny X.M A (execs (zG (stm 33)) env) Q E s:=by
 have F:sizeLine=2 ^ 24:=rfl
 conv=>arg 3;arg 1;whnf
 refine wpAny_execs_cons (wpAny_Expr (Constant_str ?_) (by unfold interactive;rw[S.scope];rfl) (zC ⋯));have f:Keeps s {s with toks:=s.toks+1}:=zbO _ _;have o:∀{p p':Pos}{Q':Bool->Shared->Prop}{E':VP}{c:Shared},Keeps s c->(∀d,Keeps c d->Q' (!((w.length:Int) != 0)) d)->wpAny X.M (A) (isTrue (.UnaryOp .Not (.Name "s" p) p') env (eval (.UnaryOp .Not (.Name "s" p) p') env)) Q' E' c:=fun {p p' Q' E' c} k G=>by
  refine wpAny_isTrue_Not ?_;show wpAny X.M (A) (do let v <-eval (.Name "s" p) env;standAt p;holding [v] (truthy v)) _ _ _;refine wpB (nm k _ _ λj d e _=>wpB (zqI (zpS (P.truthy_str (by lia) ?_))));exact G _ (zE e (zbO _ _))
 by_cases n:w.length=0
 .have q:quoteD w b="''":=by unfold quoteD;rw[if_pos n]
  rw[q] at h;refine zpT (wpAny_If (o f λd e=>?_));rw[show (!((w.length:Int) != 0))=true by rw[n];rfl,if_pos rfl];exact zpT (wpAny_Return_some (Constant_str (h _ _ (zE (zE f e) (zbO _ _)))))
 .have hb':=C n;have x:w.cps.size<=2 ^ 24:=by have:w.cps.size=w.length:=rfl;lia
  refine zpT (wpAny_If (o f λd e=>?_));rw[show (!((w.length:Int) != 0))=false by simp;exact n,if_neg (by ext)];refine wpAny_execs_nil ?_;have l:=zE f e;refine zpT (wpAny_If (zlN S O (zcA l st) B ⋯ T ⋯ (nm l) hb' x λy r=>?_));have i:=zE l r;cases b with
  | false=>
   have q:quoteD w false=w:=by unfold quoteD;rw[if_neg n];rfl
   rw[q] at h;rw[show (!false)=true from rfl,if_pos rfl];exact zpT (wpAny_Return_some (nm i _ _ λj t g _=>h _ _ (zE i g)))
  | true=>
   have q:quoteD w true="'"++Txt.replace w "'" "'\"'\"'"++"'":=by unfold quoteD;rw[if_neg n];rfl
   rw[q] at h;rw[show (!true)=false from rfl,if_neg (by ext)];refine wpAny_execs_nil (zpT (wpAny_Return_some (zkb (λt g m=>ziJ ⋯ ⋯ m (nm (zE i g)) (by ext) (by show _+_ * 5<=_;lia)) ?_ ?_ _ _ λj z u _=>h _ _ (zE i u))))
   .show 1+_<=sizeLine;lia
   .rw [Str.length_append];show (1+_)+1<=sizeLine;sleep 116
theorem zjW (O:X.Ok){a m:Addr}(H:zcW X a) (T:Top1 X "_find_unsafe" (.ref a)) (I:FnAt X m (zA (stm 33)) (zG (stm 33)) (zd (stm 33))){w:Str}{b:Bool}(J:w.length≠0->zcg w=some b) (K:w.length<=10000) (L:(Txt.replace w "'" "'\"'\"'").length<=10000) (hd:A.depth<recursionLimit) (st:X.kk.StaysIn s.heap){t:Tok}{Q:VP}
  (h:∀F s',Keeps s s'->Q (.str (quoteD w b) F) s'):wpAny X.M A (call (.ref m) [.str w t]) Q E s:=by
 obtain⟨o,fd,N,n,P,q,c,R,r,u,j⟩:=I.ex;refine zqY (zez hd (st _ _ N) n (O.lim.keeps st) (P.keeps st) q (j [.str w t] rfl) u (λy U=>?_) (λG x z=>?_) (by rw[c];rfl) (by rw[c];rfl) (by rw[c];rfl))
 .left
  rw[c];rw[zqP.mp (show y∈[((("s":Str)),Value.str w t)] from U)];rfl
 obtain⟨⟨e,f,rfl⟩,B,C,_⟩:=x.toInCall;generalize V:callEnvC fd s.heap.objs.size m=env at *
 have S:Stat X env (zd (stm 33)):=by subst V;exact⟨c,⋯,R,r⟩
 have i:Keeps s {s with heap:=e,toks:=f}:=znU C;have l:=zcA i st;obtain⟨v,W,D,_⟩:=zfl (h:=e) (mu:=[]) env.kindOf (ps:=zA (stm 33)) (vs:=[.str w t]) (ds:=[.str w]) (λ_=>none) (λ_=>none) (by ext) (.cons (.str _ _) .nil) (x:="s") (d:=.str w) ⋯;have Y:=D (by unfold Env.kindOf;rw[S.scope];rfl);obtain⟨_,rfl⟩:=W.strE;have nm:∀{g:Shared}{p:Pos},Keeps {s with heap:=e,toks:=f} g->Kv X (A.deeper env) env (.Name "s" p) w g:=fun {g p} k=>by
  obtain⟨Z,t2,rfl,k2⟩:=k;exact zkc S (B.keeps k2) Y ⋯ (by ext)
 exact ziC O H T S J K L l nm λF s' k=>h _ _ (zE i k)
end
inductive GenC (X:Wd) (cd:Addr):Prop
 | mk (o:Obj) (vs:Array Value) (file:Str) (tf:Tok) (flags:Int) (tg:Tok) (inF:Bool) (text:Int) (tt:Tok):X.kk.get? cd=some o->o.cls=.type "code"->o.data=.fields vs->vs[11]? = some (.ref X.tb)->vs.getD 18 .none=.str file tf->vs.getD 7 .none=.int flags tg->vs.getD 9 .none=.bool inF->vs.getD 10 .none=.int text tt->GenC X cd
inductive GenB (X:Wd) (bm:Addr):Prop
 | mk (ob:Obj):X.kk.get? bm=some ob->ob.cls=.type "module"->ob.dict=some builtinsNs->ob.data=.plain->GenB X bm
structure zoz (X:Wd) (cd bm:Addr):Prop where
 code:GenC X cd
 name:X.mg "__builtins__"=some (.ref bm)
 ne:bm≠builtinsNs
 obj:GenB X bm
theorem zlY {M:Model}{H:Heap}{g:Array GenState}{d:Drawn}{t:Nat}{i:OsState}{c P:Addr}{ps:Array Value}{pos:Pos}{a:Str}{scope:Scope}{Q:VP}(j:env.code=.ref c) (f:H.IsCode c P ps) (b:H.TableAt c P ps) (k:TriplesOk ps.toList)
  (l:∀c' h' tk h,Heap.ExtBut P H h'->h'.get? P=some {cls:=.none,data:=.fields h}->TriplesOk h.toList->Q c' ⟨h',g,d,tk,i⟩):wpAny M A (genexprCode env pos a scope) Q E ⟨H,g,d,t,i⟩:=by
 cases m:codeAmong pos ps.toList with
 | none=>exact wpAny_genexprCodeX j f b m λc' h' tk n _ _ _ _ o _=>l _ h' tk _ n o.2 (by rw[Array.toList_append];exact TriplesOk_snoc _ _ _ _ k)
 | some c'=>exact wpAny_genexprCode_hit j f m (l c' H t ps (λ_ _ _ e=>e) b.2 k)
theorem zgY (n:Nat):passing (λ_=>true) n 0=List.range n:=by
 unfold passing;rw[List.drop_zero,List.filter_eq_self.mpr (λ_ _=>rfl)]
theorem and8I {a b c d e f g i:Prop}(h:a) (j:b) (k:c) (l:d) (m:e) (n:f) (o:g) (p:i):a/\b/\c/\d/\e/\f/\g/\i:=⟨h,j,k,l,m,n,o,p⟩
theorem ex8I {j k l m n o q r:Type}{p:j->k->l->m->n->o->q->r->Prop}(a:j) (b:k) (c:l) (d:m) (e:n) (f:o) (g:q) (i:r) (h:p a b c d e f g i):∃a b c d e f g i,p a b c d e f g i:=⟨a,b,c,d,e,f,g,i,h⟩
section
variable {n:Nat}
theorem zke {scope:Scope}(O:X.Ok) (B:Stat X env scope){a C:Addr}(J:zcW X a) (T:Top1 X "_find_unsafe" (.ref a)) (D:FnAt X C (zA (stm 33)) (zG (stm 33)) (zd (stm 33))) (K:Top1 X "quote" (.ref C)){q2 L N:Pos}
  (P:scope.names.lookup ("arg":Str)=some .local) (Q:scope.names.lookup ("quote":Str)=some .globalImplicit) (hd:A.depth<recursionLimit) (f:X.kk.StaysIn s.heap){m:Str->Option Value}{v:Value}(R:s.heap.Ns env.locals m) (S:m "arg"=some v){i:Nat}{vs:List Value}{c:List Str}{F:Str->Bool}{h:Heap}
  (l:vs.toArray[i]? = some v) (G:Rds h mu vs (c.map .str)) (n:∀w∈c,(w.length≠0->zcg w=some (F w))/\w.length<=10000/\(Txt.replace w "'" "'\"'\"'").length<=10000) :
  wpAny X.M A (eval (.Call (.Name "quote" q2) [.Name "arg" L] [] N) env) (λy e=>(∃t,y=.str (quoteD (c.getD i "") (F (c.getD i ""))) t)/\Keeps s e) E s:=by
 rw[List.getElem?_toArray] at l;have p:=(zpJ.mp l).1;have q:vs.length=c.length:=by rw[G.length,zqn]
 have H:c[i]? = some (c.getD i ""):=by
  rw[List.getD_eq_getElem?_getD,zpN (q▸p)];rfl
 obtain⟨V,j,r⟩:=G.get (i:=i) (d:=.str (c.getD i "")) (by rw[zqS,H];rfl);rw[l] at j;have r:Rd h mu v (.str (c.getD i "")):=zqr j▸r;obtain⟨t,rfl⟩:=r.strE;have g:=n _ (zqd H);obtain⟨U,fd,u,x,_⟩:=D.ex;refine zqZ (zw B O f Q (by ext) K (Calls.callWith_function (o:=U) (fd:=fd) ?_));refine zbv ⋯ (zkc B R S P (by ext) _ _ λW e b _=>⟨⟨zcA b f _ _ u,x⟩,?_⟩);exact zjW O J T D g.1 g.2.1 g.2.2 hd (zcA b f) λz I k=>⟨⟨z,rfl⟩,zE b k⟩
theorem ziW (S:Stat X env sc) (O:X.Ok) (R:Rm n A) (hh:A.handled=none) (l:Loc X A env mu c s){cd bm:Addr}(GI:zoz X cd bm) (a0:env.code=.ref cd){a fq:Addr}(FA:zcW X a) (T:Top1 X "_find_unsafe" (.ref a)) (Fq:FnAt X fq (zA (stm 33)) (zG (stm 33)) (zd (stm 33))) (Tq:Top1 X "quote" (.ref fq))
  {C:Expr}{scope:Scope}{pos ap p q1 q2 q3 q4 q5:Pos}{k1:Nat}(hl:(ap.endLine==p.line)=true) (e2:scope.isCoroutine=false) (a1:∀x∈scope.names,x.2≠NameKind.free) (a2:∀y∈scope.names,y.2≠.cell) (h0:scope.names.lookup (".0":Str)=some NameKind.local)
  (hx:scope.names.lookup ("arg":Str)=some .local) (hq:scope.names.lookup ("quote":Str)=some .globalImplicit) (H:scope.kind=.function) (hs:∀x,genFold C env x=pure x)
  {D:List Str}(qb:Str->Bool) (e3:∀w∈D,(w.length≠0->zcg w=some (qb w))/\w.length<=10000/\(Txt.replace w "'" "'\"'\"'").length<=10000) (g0:D.length<=1000) (e4:JoinOk " " (D.map λw=>quoteD w (qb w))=true)
  (e5:∀s',Aft X A s s'->Ev X A env mu C (.list (D.map .str)) s') :
  Ev X A env mu (.Call (.Attribute (.Constant (.str " ") k1 q1) "join" ap) [.GeneratorExp (.Call (.Name "quote" q2) [.Name "arg" q3] [] q4) [⟨.Name "arg" q5,C,[],0⟩] scope pos] [] p) (.str (Txt.join " " (D.map λw=>quoteD w (qb w)))) s:=λE Q h=>by
 have a3:A.depth<recursionLimit:=by have:=R.depth;sleep 110
 obtain⟨co,b8,b9,tf,a4,tg,e6,text,tt,c1,c0,c2,c3,c4,c5,c6,c7⟩:=GI.code;obtain⟨ob,b1,b2,b3,b4⟩:=GI.obj;refine wpt (wpAny_Call_method (zab ⋯) ⋯ hl F.plainAttrs_str PySem.F.slot_str_join PySem.F.type_str_join (Constant_str ⟨typeIs_str _ _ _,λ_ q=>(nomatch q),?_⟩));have I:Aft X A s {s with toks:=s.toks+1}:=.tok _;have c8:=l.aft O I;refine Calls.callWith_builtin (zak (es:=[.GeneratorExp (.Call (.Name "quote" q2) [.Name "arg" q3] [] q4) [⟨.Name "arg" q5,C,[],0⟩] scope pos]) rfl) (zbv ⋯ ?_);have a5:closureFor scope env=pure (zck env.cells scope.names []):=zau λx e7 hf=>absurd hf (a1 x e7);refine wpAny_GeneratorExp_walksQD hh e2 a5 a2 h0 hx H a3 (e5 _ I _ _ λv d N c9=>?_) hs;have f:=c8.aft O N;cases c9 with
 | list e8 J rs=>
  rename_i lb vs nb;have d0:=zpI J;have e9:vs.length=D.length:=by rw[rs.length,zqn]
  refine wpAny_pyIter_list ⟨_,J,rfl,_,rfl⟩ ?_;have P:Aft X A d {d with heap:=d.heap.push {cls:=.type "list_iterator",data:=.fields #[.ref lb,.int 0 0]}}:=.push _;have l₂:=f.aft O P;refine⟨O.lim.keeps l₂.stay,?_⟩;obtain⟨to,a6⟩:=l₂.tk.tb;obtain⟨g2,f0,d1⟩:=to.2;have a7:cd≠X.tb:=λq=>by rw[q,O.tb] at c1;cases c1
  rw[f0] at a6;refine wpt (zlY a0 ⟨co,b8,b9,tf,a4,tg,e6,text,tt,_,l₂.stay _ _ c1,c2,by rw[Array.getD_eq_getD_getElem?,c3];rfl,c4,c5,c6,c7,a6,rfl,d1,a7⟩ ⟨⟨co,b8,l₂.stay _ _ c1,c0,c2,c3⟩,a6⟩ d1 λcode z a8 f1 r a9 K f2 d2=>?_);have U:Aft X A {d with heap:=d.heap.push {cls:=.type "list_iterator",data:=.fields #[.ref lb,.int 0 0]}} {d with heap:=z,toks:=a8}:=
   ⟨.but λb o hm e=>r b o (by simpa using hm) e,rfl,id,d2,f2,λ_ _=>⟨⟨_,f1,rfl,K⟩,a9⟩⟩
  have B:=l₂.aft O U;refine wpAny_builtinsFor (m:=X.mg) (bm:=bm) (o:=ob) (by rw[S.globals];exact O.g.keeps B.stay) GI.name GI.ne (B.stay _ _ b1) b2 b3 b4 ?_;have hI:(d.heap.push {cls:=.type "list_iterator",data:=.fields #[.ref lb,.int 0 0]}).get? d.heap.objs.size=some {cls:=.type "list_iterator",data:=.fields #[.ref lb,.int 0 0]}:=zpG _ rfl;have d3:(d.heap.push {cls:=.type "list_iterator",data:=.fields #[.ref lb,.int 0 0]}).objs.size=d.heap.objs.size+1:=zqw ..;have V:X.tb<d.heap.objs.size:=f.low _ f.tbm.tb;have d4:d.heap.objs.size≠X.tb:=zqH V;have b0:lb≠X.tb:=λq=>e8 (q▸f.tbm.tb);have eI:=r _ _ d4 hI;have eL:=r _ _ b0 (zpD _ J);have b5:d.heap.objs.size+1<=z.objs.size:=by rw[<-d3];exact d2
  refine ex8I d.heap.objs.size [d.heap.objs.size,lb] [d.heap.objs.size] vs.toArray.size _ _ (λ_=>true) (λi y=>∃t,y=.str (quoteD (D.getD i "") (qb (D.getD i ""))) t) (and8I rfl (λA' hA=>Walks.list hA _ _ (zqV d0) vs.toArray) ⟨⟨_,eI,rfl,rfl⟩,⟨_,eL,rfl,_,rfl⟩⟩ (λb u=>?_) (O.lim.keeps B.stay) ?_ (λg1 b6=>⟨λA' E' i v d5 d6 _ _ _ _ _ _ _=>wpAny_tests_nil ⟨rfl,zg5 _⟩,λA' E' i v d5 d6 hA hD _ hP _ hn hm f3=>?_⟩) λga d7 tk gs f4 d8 L b7 W f5=>?_)
  .rcases memC u with rfl|u
   .exact b5
   .rw [zqP.mp u];exact zpM d0 (zpF (zqz _) b5)
  .intro hc;have h1:=zqP.mp hc;obtain⟨_,f6,_⟩:=O.lim.keeps f.stay;have h2:=f6.lt;rw[h1] at h2;exact zpZ _ h2
  .exact zke (env:=genEnv scope (zck env.cells scope.names []) z.objs.size code builtinsNs env) (scope:=scope) O ⟨rfl,H,S.globals,rfl⟩ FA T Fq Tq hx hq (by have:=R.depth;sleep 61) (λb o e=>f3 b (zqe.mpr (zpI (B.stay b o e))) (λq=>by
     have h9:=zpI (f.stay b o e);rw[zqP.mp q] at h9;exact zpZ _ h9) o (b6 b o (B.stay b o e))) hn hm hP rs e3
  .rw [zgY] at W;have Y:vs.toArray.size=D.length:=by rw[zqp,e9]
   refine(SC.joinGen (x:=" ") (t:=s.toks) W.in4_2 (λi s' st=>st.1.typeIs) f5 (λb u=>?_) (by simp) (λj v hv=>?_) (λs' lt hm Z=>?_) (by rw[List.length_range,Y];have:sizeLine=2 ^ 24:=rfl;sleep 36))
   .show b<d7.objs.size;rw[L];rcases memC u with rfl|u
    .exact zpY _
    .rcases memC u with rfl|u
     .exact zp0 d8
     .exact zp0 (zqU (zqe.mp u) d8)
   .obtain⟨i,_,t,rfl⟩:=hv;exact⟨_,t,rfl⟩
   .have hlen':lt.length=D.length:=by
     have:=Z.1;rw[List.length_range,Y] at this;simpa [strValues] using this
    have f7:lt.map (·.1)=D.map λw=>quoteD w (qb w):=by
     apply List.ext_getElem?
     intro j
     by_cases hj:j<D.length
     .have hj':j<lt.length:=by sleep 31
      obtain⟨i,hi,t,hv⟩:=Z.2 j (.str lt[j].1 lt[j].2) (by simp[strValues,List.getElem?_eq_getElem hj']);rw[List.getElem?_range (by sleep 31)] at hi;cases hi;injection hv with e1 _;simp[List.getElem?_eq_getElem hj',List.getElem?_eq_getElem hj,e1]
     .rw [List.getElem?_eq_none (by simp;lia),List.getElem?_eq_none (by simp;sleep 6)]
    rw[f7];refine⟨e4,λt' k=>?_⟩;have d9:∀b,b<d.heap.objs.size->b∉z.objs.size::[d.heap.objs.size]:=λb J q=>by
     rcases memC q with rfl|q
     .exact absurd J (zpO.mpr (zqE b5))
     .rw [zqP.mp q] at J;exact zpZ _ J
    have kp:∀b o,b<d.heap.objs.size->z.get? b=some o->s'.heap.get? b=some o:=λb o J e=>hm.heap b o (d9 b J) (b7 b o e);intro e0 f8;have M:=I.trans N;refine h _ {s' with toks:=k} ⟨M.keep.trans (.but λb o f9 e=>kp b o (Heap.lt_size e) (r b o (by simpa using f9) (Heap.get?_push_of_some _ e))),hm.os.trans M.os,λG=>hm.gens.bare ?_,f8,e0,λo e=>?_⟩ (.str _ _)
    .exact AllBare.push (M.gens G) f4
    .obtain⟨o',e'⟩:=(M.trans (P.trans U)).live o e;exact⟨o',kp _ _ V e'⟩
end
structure zcV (K:Frag) (C:Addr):Prop where
 iter:findIn K (.ref C) "__iter__"=some (some (.builtin "tuple.__iter__"))
 len:findIn K (.ref C) "__len__"=some (some (.builtin "tuple.__len__"))
 sub:PK K (isSubtype (.ref C) (.type "tuple")) true
theorem znt:builtinKind "tuple.__iter__"=some .slot:=by decide +kernel
theorem zlg:splitId "tuple.__iter__"=some ("tuple","__iter__"):=by decide +kernel
theorem zns:builtinKind "tuple.__len__"=some .slot:=by decide +kernel
theorem zhH:splitId "tuple.__len__"=some ("tuple","__len__"):=by decide +kernel
section
variable {prog:Program}{w:World}{m C it:Addr}{o:Obj}{vs:Array Value}{n:Nat}{K:Frag}
theorem zlQ {i:Nat}{x:Value}{Q:Option Value->Shared->Prop}(c:s.heap.IsTupleIter it m i) (d:s.heap.get? m=some o) (hd:o.data=.seq vs n) (e:vs[i]? = some x)
  (f:∀h',h'.IsTupleIter it m (i+1)->Heap.SameBut it s.heap h'->Q (some x) {s with heap:=h'}):wpAny (model prog w) A (pyNext (.ref it)) Q E s:=by
 obtain⟨h,b,g,a⟩:=id c;unfold pyNext;refine wpB (wpAny_attempt (zq7 (name:=Str.ofString "__next__") c.typeIs PySem.F.slot_tuple_iterator_next
  (zq8 PySem.F.slot_tuple_iterator_next c.typeIs PySem.F.entry_tuple_iterator_next ?_ (PySem.F.args_tuple_iterator_next_1 _))))
 show wpAny _ _ (field (.ref it) 0>>=_) _ _ s;refine wpB (wpAny_field b a (x:=.ref m) rfl ?_);show wpAny _ _ (if (Value.ref m==Value.none)=true then _ else _) _ _ s;rw[if_neg (show ¬((Value.ref m==Value.none)=true) from Bool.false_ne_true)];show wpAny _ _ (field (.ref it) 1>>=_) _ _ s;refine wpB (wpAny_field b a (x:=.int i 0) rfl ?_);show wpAny _ _ (seqItems? (.ref m)>>=_) _ _ s;refine wpB (wpAny_seqItems d hd ?_);rw[Int.toNat_natCast];dsimp only;rw[e];refine wpB (wpAny_setField b a (by simp) (wpAny_pure ⟨x,rfl,wpAny_pure (f _ ?_ (Heap.SameBut.update ..))⟩));exact⟨_,zpU _ b (Obj.isFreed_of_fields (Obj.data_mapFields a _)),(Obj.cls_mapFields ..).trans g,by
  rw[Obj.data_mapFields a];simp[rawInt]⟩
theorem znX {i:Nat}{Q:Option Value->Shared->Prop}(g:A.handled=none) (c:s.heap.IsTupleIter it m i) (h:s.heap.get? m=some o) (hd:o.data=.seq vs n) (j:vs[i]? = none)
  (k:∀h',Heap.ExtBut it s.heap h'->Q none {s with heap:=h'}):wpAny (model prog w) A (pyNext (.ref it)) Q E s:=by
 obtain⟨q,d,r,f⟩:=id c;unfold pyNext;refine wpB (wpAny_attempt (zq7 (name:=Str.ofString "__next__") c.typeIs PySem.F.slot_tuple_iterator_next
  (zq8 PySem.F.slot_tuple_iterator_next c.typeIs PySem.F.entry_tuple_iterator_next ?_ (PySem.F.args_tuple_iterator_next_1 _))))
 show wpAny _ _ (field (.ref it) 0>>=_) _ _ s;refine wpB (wpAny_field d f (x:=.ref m) rfl ?_);show wpAny _ _ (if (Value.ref m==Value.none)=true then _ else _) _ _ s;rw[if_neg (show ¬((Value.ref m==Value.none)=true) from Bool.false_ne_true)];show wpAny _ _ (field (.ref it) 1>>=_) _ _ s;refine wpB (wpAny_field d f (x:=.int i 0) rfl ?_);show wpAny _ _ (seqItems? (.ref m)>>=_) _ _ s;refine wpB (wpAny_seqItems h hd ?_);rw[Int.toNat_natCast];dsimp only;rw[j];refine wpB (wpAny_rule (wpB (wpAny_setField d f (by simp) ?_)));show wpAny _ _ (newExc (.type "StopIteration") []>>=_) _ _ _;refine wpB ?_;unfold newExc newTuple;refine wpB (zp8 ?_ (by size_fits));refine wpB (m:=firstArgMember _ _) (wpAny_of_eq (a:=Value.none) ⋯ ?_);refine zp8 ?_ (by size_fits);unfold raiseNew;refine wpB (wpAny_handled ?_)
 first|rw[show A.in1.handled=none from g]|rw[g]
 refine wpAny_throw ?_;refine wpB (wpAny_isInstance (T:="StopIteration") (b:=true) ⟨_,zpG _ rfl,rfl⟩ isSubtype_stop ?_);exact zpR (k _ λb l p e=>zpD _ (zpD _ ((zpW ..).extBut b l p e)))
theorem zbf (a:s.heap.get? m=some o) (b:o.cls=.ref C):Looks (model prog w) s.heap (typeOf (.ref m)) (.ref C):=b▸(Looks.ld (part:=none) a).andThen .now
theorem zlP (Y:zcV K C) (d:K.In s.heap) (g:s.heap.get? m=some o) (i:o.cls=.ref C){Q:VP}
  (j:Q (.ref s.heap.objs.size) {s with heap:=s.heap.push {cls:=.type "tuple_iterator",data:=.fields #[.ref m,.int 0 0]}}):wpAny (model prog w) A (pyIter (.ref m)) Q E s:=by
 have c:=zbf (prog:=prog) (w:=w) g i;have b:∀a:Sem Value,∀{E:VP}{Q:Option Value->Shared->Prop},Q (some (.ref s.heap.objs.size)) {s with heap:=s.heap.push {cls:=.type "tuple_iterator",data:=.fields #[.ref m,.int 0 0]}}->wpAny (model prog w) A (callSpecialIfBoundUnlessNone? (.ref m) "__iter__" a) Q E s:=λa E Q h=>by
  have f:∀{E:VP}{Q:Option Value->Shared->Prop},Q (some (.ref s.heap.objs.size)) {s with heap:=s.heap.push {cls:=.type "tuple_iterator",data:=.fields #[.ref m,.int 0 0]}}->wpAny (model prog w) A (do let v <-call (.builtin "tuple.__iter__") [.ref m];pure (some v)) Q E s:=λh=>by
   refine wpB (zqY (codeAny_call_builtin PySem.F.slot_tuple_iter.plain PySem.F.entry_tuple_iter (@check_slot (model prog w) _ _ _ "tuple.__iter__" "tuple" "__iter__" (.ref m) [] [] _ znt zlg (c.andThen (Y.sub.lk d)) (PySem.F.args_tuple_iter_1 _) ?_)));show wpAny _ _ (do ret (<-newFields "tuple_iterator" [.ref m,rawInt 0])) _ _ s;exact wpB (zp8 (zpR (zpR h)))
  unfold callSpecialIfBoundUnlessNone? bindSpecialIfBound?;refine zpS (wpB (wpB (wpB (c.here ((looks_findIn d Y.iter).here (wpB (wpAny_askSetting (wpAny_ite ?_))))))));rw [PySem.F.slot_tuple_iter.bind];exact zg7 (wpB (zpR (zpR (f h)))) (wpAny_tryCatch (wpB (zpR (zpR (f h)))))
 unfold pyIter;refine wpB (wpB (c.here ((looks_findIn d Y.iter).here ?_)));refine wpB (b _ ?_);have e:Shared.TypeIs {s with heap:=s.heap.push {cls:=.type "tuple_iterator",data:=.fields #[.ref m,.int 0 0]}} (.ref s.heap.objs.size) "tuple_iterator":=⟨_,zpG _ rfl,rfl⟩;exact wpB (wpAny_specialOf (name:=Str.ofString "__next__") e PySem.F.slot_tuple_iterator_next.lookup (zpR j))
end
section
variable {prog:Program}{w:World}{m C it S:Addr}{o:Obj}{vs:List Value}{n:Nat}{K:Frag}
theorem znW (Y:zcV K C) (d:K.In s.heap) (e:s.heap.get? m=some o) (f:o.cls=.ref C) (hd:o.data=.seq vs.toArray n) (g:vs.length<=1000){Q:VP}(h:∀t k,s.toks<=k->Q (.int vs.length t) {s with toks:=k}):wpAny (model prog w) A (call (.builtin "len") [.ref m]) Q E s:=by
 have b:=zbf (prog:=prog) (w:=w) e f;refine zqY (codeAny_call_builtin plain_len entry_len (wpAny_of_eq (a:=()) ∅ ?_));unfold Builtin.«len»;refine wpB (m:=oneArg "len" _) (zpR ?_);refine wpB ?_;unfold callSpecial? specialOf;refine wpB (wpB (b.here ((looks_findIn d Y.len).here (zpS (wpB ?_)))));rw [PySem.F.slot_tuple_len.bind];refine zpR (wpB (zqY (codeAny_call_builtin PySem.F.slot_tuple_len.plain PySem.F.entry_tuple_len (@check_slot (model prog w) _ _ _ "tuple.__len__" "tuple" "__len__" (.ref m) [] [] _ zns zhH (b.andThen (Y.sub.lk d)) (PySem.F.args_tuple_len_1 _) ?_))));show wpAny _ _ (do retInt (<-Builtin.Tuple.tupleItemsOf (.ref m)).size) _ _ s;unfold Builtin.Tuple.tupleItemsOf;refine wpB (wpB (wpAny_seqItems e hd (zpR ?_)));refine wpB (wpAny_mkInt (zpR ?_));refine zpR ?_;refine wpB (zpS (zpR ?_));refine wpB (wpAny_letGo ?_);have c:(vs.toArray.size:Int)=vs.length:=by simp
 rw[if_neg (by rw[c];lia),if_neg (by rw[c];lia),c];exact wpB (wpAny_mkInt (zpR (h _ _ (by show s.toks<=s.toks+1+1;lia))))
end
section
variable {prog:Program}{w:World}{m C it S:Addr}{o:Obj}{vs:List Value}{n:Nat}{K:Frag}
theorem zh1 (P:A.handled=none) (hd:o.data=.seq vs.toArray n) (Q:vs.length<=1000) (D:S≠it) (T:S≠m) (U:it≠m){s:Value}{R:Result->Shared->Prop}(M:Heap) (g:Array GenState) (d:Drawn) (N:OsState) :
  ∀(k i:Nat) (acc:Array Value) (c:Nat) (h:Heap) (t:Nat),vs.length - i=k->i<=vs.length->h.get? S=some {cls:=.type "list",data:=.seq acc c}->h.IsTupleIter it m i->h.get? m=some o->acc.size<=i->(∀b f,b≠S->b≠it->M.get? b=some f->h.get? b=some f)->
   (∀h' E c',h'.get? S=some {cls:=.type "list",data:=.seq (acc++(vs.drop i).toArray) c'}->(∀b f,b≠S->b≠it->M.get? b=some f->h'.get? b=some f)->R (.ok (.ret s)) ⟨h',g,d,E,N⟩)->codeAny (model prog w) A (.builtin "list.extend.loop" ⟨[.ref S,.ref it,s],[]⟩) R ⟨h,g,d,t,N⟩:=by
 intro k
 induction k with
 | zero=>
  intro i acc c h t V W G j B H l I;have u:i=vs.length:=by sleep 27
  refine zp3 PySem.F.entry_extend_loop ?_;rw [zpV PySem.F.plain_extend_loop _];show wpAny _ A.in1 (pyNext (.ref it)>>=_) _ _ _;refine wpB (znX P j B hd (by simp[u]) λh' O=>wpAny_pure (I h' t c ?_ λb f C a e=>O b f a (l b f C a e)));rw[O S _ D G,u,List.drop_length];simp
 | succ k X=>
  intro i acc c h t V W G j B H l I;have p:i<vs.length:=by sleep 25
  have Y:sizeLine=2 ^ 24:=rfl;refine zp3 PySem.F.entry_extend_loop ?_;rw [zpV PySem.F.plain_extend_loop _];show wpAny _ A.in1 (pyNext (.ref it)>>=_) _ _ _;refine wpB (zlQ (x:=vs[i]) j B hd (by simp[p]) λh' v r=>?_);have y:=(r.2 S D).trans G;have J:=(r.2 m (Ne.symm U)).trans B;show wpAny _ A.in1 (updateSeq S (·.push vs[i])>>=_) _ _ _;refine wpB ?_;refine wpAny_updateSeq y rfl (zpR ⟨zqJ PySem.F.plain_extend_loop _,?_⟩) (by lia) (by show (acc.push _).size<=sizeLine+1;rw [Array.size_push];sleep 112);refine X (i+1) (acc.push vs[i]) _ _ t (by sleep 24) p (zpU _ y rfl) ?_ ((zp1 _ _ T).trans J) (by rw[Array.size_push];sleep 13) (λb f C a e=>?_) λK E c' L z=>?_
  .obtain⟨oi,hoi,q⟩:=v;exact⟨oi,(zp1 _ _ D).trans hoi,q⟩
  .exact (zp1 _ _ (Ne.symm C)).trans ((r.2 b a).trans (l b f C a e))
  .refine I K E c' ?_ z;rw[L,zp7 p];simp
theorem zlR (Y:zcV K C) (c:K.In s.heap) (a:s.heap.get? m=some o) (b:o.cls=.ref C) (hd:o.data=.seq vs.toArray n) (d:vs.length<=1000){Q:Bool->Shared->Prop}
  (h:∀k,s.toks<=k->Q ((vs.length:Int) != 0) {s with toks:=k}):wpAny (model prog w) A (Builtin.List.listLengthHint (.ref m)) Q E s:=by
 unfold Builtin.List.listLengthHint;refine zpQ (zpQ ((zbf a b).here ((looks_findIn c Y.len).here ?_)));dsimp only;rw[zhH];dsimp only;refine zpQ (m:=isInstance (.ref m) (.type "tuple")) (zpQ ((zbf a b).here ((Y.sub.lk c).here ?_)));rw[if_neg (by ext)];rw[if_pos ∅];refine zpQ ((zbf a b).here ?_);refine zpQ (znW Y c a b hd d λt k e=>?_);exact zpQ (m:=asInt? (.int vs.length t)) (zpR (zpR (h k e)))
theorem zg6 (U:A.handled=none) (Y:zcV K C) (V:K.In s.heap) (L:s.heap.get? m=some o) (M:o.cls=.ref C) (hd:o.data=.seq vs.toArray n) (q:vs.length<=1000){Q:List Value->Shared->Prop}
  (h:∀h' t,(∀b a,s.heap.get? b=some a->h'.get? b=some a)->Q vs {s with heap:=h',toks:=t}):wpAny (model prog w) A (collect (.ref m)) Q E s:=by
 obtain⟨H,g,d,T,N⟩:=s;have c:m<H.objs.size:=zpI L;have W:sizeLine=2 ^ 24:=rfl;unfold collect;refine zpQ (wpAny_runValue (zp3 PySem.F.entry_proto_collect ?_));rw [zpV PySem.F.plain_proto_collect _];show wpAny _ A.in1 (newList []>>=λl=>again (.builtin "list.__iadd__" ⟨[l,.ref m],[]⟩)) _ _ _;refine zpQ (zp8 ?_);refine zpR ⟨zqJ PySem.F.plain_list_iadd _,zp3 PySem.F.entry_list_iadd ?_⟩;rw [zpV PySem.F.plain_list_iadd _];dsimp only at V L ⊢;have O:(H.push {cls:=.type "list",data:=.seq ([]:List Value).toArray}).get? H.objs.size=some {cls:=.type "list",data:=.seq #[]}:=zpG _ rfl;have r:(H.push {cls:=.type "list",data:=.seq ([]:List Value).toArray}).get? m=some o:=zpD _ L;have y:K.In (H.push {cls:=.type "list",data:=.seq ([]:List Value).toArray}):=λb a e=>zpD _ (V b a e);show wpAny _ A.in1 (Builtin.List.listExtendWith (.ref H.objs.size) (.ref m) (.ref H.objs.size)) _ _ _;unfold Builtin.List.listExtendWith;have j:H.objs.size≠m:=zqH c;refine zpQ ((zbf r M).here ?_);have X:Builtin.List.listSameRef (.ref H.objs.size) (.ref m)=false:=by simp[Builtin.List.listSameRef,j]
 have Z:(Value.ref C==Value.type "list")=false:=rfl;have e3:(Value.ref C==Value.type "tuple")=false:=rfl;rw[X,Z,e3,if_neg (by ext)];refine zpQ (zlP Y y r M ?_);dsimp only;have z:(H.push {cls:=.type "list",data:=.seq ([]:List Value).toArray}).objs.size=H.objs.size+1:=zqw ..;rw[z];generalize B:(H.push {cls:=.type "list",data:=.seq ([]:List Value).toArray}).push {cls:=.type "tuple_iterator",data:=.fields #[.ref m,.int 0 0]}=f;have D:f.get? (H.objs.size+1)=some {cls:=.type "tuple_iterator",data:=.fields #[.ref m,.int 0 0]}:=by rw[<-B,<-z];exact zpG _ rfl
 have k2:∀b a,(H.push {cls:=.type "list",data:=.seq ([]:List Value).toArray}).get? b=some a->f.get? b=some a:=λb a e=>by rw[<-B];exact zpD _ e
 have u:=k2 _ _ O;have v:=k2 _ _ r;have P:K.In f:=λb a e=>k2 b a (y b a e);refine zpQ (zpS ?_);refine zlR Y P v M hd q λk hk=>?_;have kH:∀b a,H.get? b=some a->f.get? b=some a:=λb a e=>k2 b a (zpD _ e);have p:∀(h':Heap) (x c':Nat),h'.get? H.objs.size=some {cls:=.type "list",data:=.seq (#[]++(vs.drop 0).toArray) c'}->(∀b a,b≠H.objs.size->b≠H.objs.size+1->f.get? b=some a->h'.get? b=some a)->
   wpAny (model prog w) A (do match (<-load H.objs.size).data with | .seq xs _=>pure xs.toList|_=>unsupported "internal:collect") Q E ⟨h',g,d,x,N⟩:=λh' x c' G i=>by
  refine zpQ (zq9 G ?_);have:=h h' x λb a e=>i b a (zqV (zpI e)) (zqV (zp0 (zpI e))) (kH b a e);refine zpR ?_;simpa using this
 have I:f.IsTupleIter (H.objs.size+1) m (0:Nat):=⟨_,D,rfl,rfl⟩;refine wpAny_ite (zg7 ?_ ?_)
 .refine zpQ (wpAny_rule (zpQ ?_));show wpAny _ A.in1 (updateSeq H.objs.size (·.push .none)>>=λ_=>updateSeq H.objs.size (·.pop)) _ _ _;refine zpQ (wpAny_updateSeq u rfl ?_ (by show (0:Nat)<=_;sleep 12) (by show (1:Nat)<=_;sleep 15));have J:=zpU (Obj.mapSeq (·.push Value.none)) u rfl;refine wpAny_updateSeq J rfl ?_ (by show (1:Nat)<=_;lia) (by show (0:Nat)<=_;sleep 12);obtain⟨k5,R⟩:∃k,((f.update H.objs.size (Obj.mapSeq (·.push Value.none))).update H.objs.size (Obj.mapSeq (·.pop))).get? H.objs.size=some {cls:=.type "list",data:=.seq #[] k}:=⟨_,zpU (Obj.mapSeq (·.pop)) J rfl⟩;have S:Heap.SameBut H.objs.size f ((f.update H.objs.size (Obj.mapSeq (·.push Value.none))).update H.objs.size (Obj.mapSeq (·.pop))):=(zpW ..).trans (.update ..);refine zpR ⟨zqJ PySem.F.plain_extend_loop _,zh1 U hd q (Nat.succ_ne_self _).symm j (zqH (zp0 c)) f g d N vs.length 0 #[] k5 _ k (by lia) (zqy _) R ⟨_,(S.2 _ (Nat.succ_ne_self _)).trans D,rfl,rfl⟩ ((S.2 m (Ne.symm j)).trans v) (zpB _) (λb a hb _ e=>(S.2 b hb).trans e) λh' x c' G i=>p h' x c' G i⟩
 .refine zpR ⟨zqJ PySem.F.plain_extend_loop _,zh1 U hd q (Nat.succ_ne_self _).symm j (zqH (zp0 c)) f g d N vs.length 0 #[] 0 _ k (by lia) (zqy _) u I v (zpB _) (λb a _ _ e=>e) λh' x c' G i=>p h' x c' G i⟩
theorem znV (Y:zcV K C):Meets (Builtin.«tuple.__new__» ⟨[.type "tuple",.ref m],[]⟩) (λA R s=>A.handled=none/\K.In s.heap/\(∃o n,s.heap.get? m=some o/\o.cls=.ref C/\o.data=.seq vs.toArray n)/\vs.length<=1000/\
  ∀(h':Heap) (t:Nat),(∀b e,s.heap.get? b=some e->h'.get? b=some e)->s.heap.objs.size<=h'.objs.size->R (.ok (.ret (.ref h'.objs.size))) {s with heap:=h'.push (tup vs),toks:=t}):=.of_wp λprog w A R s i=>by
 obtain⟨j,l,⟨o,n,f,g,hd⟩,c,h⟩:=i;have p:sizeLine=2 ^ 24:=rfl;unfold Builtin.«tuple.__new__»;refine wpB (m:=isType (.type "tuple")) (wpAny_of_eq (a:=true) (by first|rfl|kernel_rfl) ?_);rw[if_neg (by ext)];refine wpB (wpAny_of_eq sub_tuple_self ?_);rw[if_neg (by ext)];dsimp only;rw[if_neg (by decide +kernel)];refine wpB (wpAny_of_eq madeHere_tuple ?_);refine wpB (wpAny_of_eq init_tuple_lookup ?_);rw[if_pos (by ext)];refine wpB (wpAny_of_eq (a:=()) ⋯ ?_);refine wpB (m:=checkCount "tuple" 0 1 _) (wpAny_of_eq (a:=()) ⋯ ?_);rw[if_pos (by ext)];refine wpB (m:=Builtin.Tuple.tupleIsExact (.ref m)) (wpB ((zbf f g).here (zpR ?_)));rw[if_neg (by show ¬(false=true);decide)];refine wpB (wpt (zg6 (A:=A.in1) j Y l f g hd c λh' t k _ d=>wpB (zpR (wpB ?_))));unfold Builtin.Tuple.tupleExact;refine zp8 (zpR ⟨_,rfl,h h' t k d⟩) (by show vs.toArray.size<=sizeLine;rw[zqp];sleep 36)
end
section
variable {n:Nat}{C:Addr}{K:Frag}
theorem zi6 (u:K.In X.kk) (Y:zcV K C) (v:A.handled=none){xs:List PyData}(d:xs.length<=1000):Cl X A mu (.type "tuple") [misD C xs] (.tuple xs):=λvs s E Q st tk w D x r h=>by
 refine Rds.one r λ_ y=>?_;obtain⟨a,o,us,m,rfl,G,e,z,hd,l⟩:=y.kinE;refine wpt (callType_new PySem.F.called_tuple (by ext) (PySem.F.typeCall_tuple_1 _) (PySem.F.newCall_tuple_1 _) (λf=>PySem.F.args_object_init_2 f _) PySem.F.entry_tuple_new (znV (vs:=us) Y) ⟨v,zJ u st,⟨o,m,e,z,hd⟩,by rw [l.length];exact d,λh' t k g=>⟨⟨_,zpG _ rfl,rfl⟩,λB i=>?_⟩⟩);have p:∀b c,s.heap.get? b=some c->(h'.push (tup us)).get? b=some c:=λb c e=>zpD _ (k b c e);have j:s.heap.objs.size<=(h'.push (tup us)).objs.size:=i;exact h _ _ (.heap p j B) (.tuple (n:=0) (λq=>absurd (x _ q) (zpO.mpr g)) (zpG _ rfl) (l.more p))
end
section
variable {c c':Ctx}{s s':Shared}{n:Nat}
theorem Rd.stay (F:Frm X A env sc mu fr) (l:Loc X A env mu c s) (a:AftL X A fr s s'){v:Value}{d:PyData}(r:Rd s.heap mu v d):Rd s'.heap mu v d:=
 r.keep (a.keep.mono (F.tfr l.tbm)) l.tbm.fs
theorem zgM (F:Frm X A env sc mu fr) (O:X.Ok) (H:A.handled=none){x y:Str}{xp j n p:Pos}{k:Nat}{e:Expr}{d1 d2:PyData}(I:sc.names.lookup x=some .local) (C:sc.names.lookup y=some .local) (J:swapsWithSole [.Tuple [.Name x xp,.Name y j] k n] e p.line env=pure false) (K:swappedStores [.Tuple [.Name x xp,.Name y j] k n] e env=pure none)
  (L:∀s,Loc X A env mu c s->Ev X A env mu e (.list [d1,d2]) s):St1 X A env mu fr c (.Assign [.Tuple [.Name x xp,.Name y j] k n] e p) .next ((c.set x d1).set y d2):=λs l E Q h _=>by
 refine wpAny_Assign_stores (L s l _ _ λv d f r=>?_) J K;have u:=l.aft O f;show wpAny _ _ (assignAll v [assign (.Tuple [.Name x xp,.Name y j] k n) env]) _ _ _;refine Rd.list2K r λa M N m T e P R=>?_;show wpAny _ _ (assign (.Tuple [.Name x xp,.Name y j] k n) env (.ref a)) _ _ _;rw[arm_assign_Tuple];refine wpB (zqI ?_);unfold unpack;refine wpB (zpS (wpt (kun_itemsOf (items:=#[M,N]) H ⟨_,e,rfl,_,rfl⟩ λh' S _ hz=>?_)));have k:∀b o,d.heap.get? b=some o->h'.get? b=some o:=λb o q=>S b o (zqV (zpI q)) q;have g:Aft X A d {d with heap:=h'}:=.heap (t:=d.toks) k hz (zpB _);have l₂:=u.aft O g;refine assignInOrder_cons (zqO (zq F l₂ I (P.more k) λD i w=>?_));refine assignInOrder_cons (zqO (zq F w C ((R.more k).stay F l₂ i) λG z B=>?_));exact assignInOrder_nil (h _ _ (((f.trans g).toL.trans i).trans z) B rfl)
theorem zjm (F:Frm X A env sc mu fr) (O:X.Ok) (I:A.handled=none){x y z:Str}{xp J K p:Pos}{k:Nat}{d1 d2 d3:PyData}(L:sc.names.lookup x=some .local) (u:sc.names.lookup y=some .local) (w:sc.names.lookup z=some .local) :
  zk3 X A env mu fr c (.Tuple [.Name x xp,.Name y J,.Name z K] k p) (.tuple [d1,d2,d3]) (((c.set x d1).set y d2).set z d3):=λs v l r E Q h=>by
 refine Rd.tuple3K r λa M N P m U e R S T=>?_;refine zfn (items:=#[M,N,P]) I ⟨_,e,rfl,_,rfl⟩ rfl rfl λh' q hz=>?_;have f:Aft X A s {s with heap:=h'}:=.heap (t:=s.toks) q hz (zpB _);have b:=l.aft O f;refine assignInOrder_cons (zqO (zq F b L (R.more q) λD d g=>?_));have B:=(S.more q).stay F b d;have C:=(T.more q).stay F b d;refine assignInOrder_cons (zqO (zq F g u B λG i j=>?_));refine assignInOrder_cons (zqO (zq F j w (C.stay F g i) λH n o=>?_));exact assignInOrder_nil (h _ (((f.toL.trans d).trans i).trans n) o)
end
noncomputable def qbD (w:Str):Bool:=(zcg w).getD false
theorem zbz.eq {w q:Str}(h:zbz w q):quoteD w (qbD w)=q:=by
 obtain⟨b,a,c⟩:=h.qt;rw[<-c];unfold quoteD
 split
 .rfl
 .next hn=>rw[qbD,a hn];rfl
theorem zal.eq {a b:List Str}(h:zal a b):(a.map λw=>quoteD w (qbD w))=b:=by
 induction h with
 | nil=>rfl
 | cons h _ c=>rw[List.map_cons,h.eq,c]
theorem zal.all {a b:List Str}(h:zal a b):∀w∈a,∃q,zbz w q:=by
 induction h with
 | nil=>exact nofun
 | cons h _ c=>exact λw m=>(zpz.mp m).elim (λe=>⟨_,e▸h⟩) (c w)
theorem zal.sum {c b:List Str}(h:zal c b):∀k,b.foldl (λa q=>a+q.length+1) k<=k+61 * b.length:=by
 induction h with
 | nil=>exact λk=>zpB _
 | cons h _ d=>
  intro k;rw[List.foldl_cons,zq4];exact zpF (d _) (by have:=h.ql;lia)
theorem zal.joinOk {c b:List Str}(h:zal c b) (d:c.length<=200):JoinOk " " b=true:=by
 have e:=h.sum 0;have f:=h.length;unfold JoinOk;have:¬(b.foldl (λa q=>a+q.length+1) 0>2 ^ 24):=by lia
 rw[Builtin.Str.tooLong,List.foldl_toArray];show (!decide (b.foldl (λa q=>a+q.length+1) 0>2 ^ 24))=true;rw[zql this];rfl
section
variable {n:Nat}{K:Frag}{fJ:Addr}{fdJ:FuncData}
theorem zhu (O:X.Ok) (u:K.In X.kk) (R:Rm (n+11) A) (x:A.handled=none){a k o bm:Addr}(z:zoz X o bm) (B:zcW X a) (T:Top1 X "_find_unsafe" (.ref a)) (C:FnAt X k (zA (stm 33)) (zG (stm 33)) (zd (stm 33))) (D:Top1 X "quote" (.ref k))
  (F:FnB X K fJ fdJ (zG (stm 30)) (zd (stm 30))) (f:fdJ.code=.ref o) (G:∀v:Value,PK K (bindArgs fdJ ⟨[v],[]⟩) [("split_command",v)]){e p:List Str}(c:zal e p) (H:e.length<=200):Cl X A mu (.ref fJ) [.list (e.map .str)] (.str (Txt.join " " p)):=λvs s E Q st tk g I J r h=>by
 refine Rds.one r λ_ L=>?_;rename_i v;refine zm0 (a:=⟨[v],[]⟩) (us:=[v]) (ps:=["split_command"]) (ds:=[.list (e.map .str)]) O u R F (G v) (λy M=>.inl (by cases zqP.mp M;kernel_rfl)) (by ext) (λV env mu' fr' N P W i Y j=>?_) st tk g I J (.cons L .nil) h;show (_:List Stmt->_->Prop) (_::_) _;refine zL (zaq i.toStat O (d:=.str _) ⋯ ⋯ λs l=>ev_str) ?_;refine zeb (zaf O λs l=>?_) λ_ m=>m;have t:=c.length;rw[<-c.eq];refine ziW i.toStat O (N.less (m:=n) (by sleep 14)) (P.trans x) l z (j.trans f) B T C D ⋯ ⋯ ?_ ?_ ⋯ ⋯ ⋯ ⋯ (λ_=>rfl) qbD (λw m=>?_) (by sleep 124) ?_ λs' a=>?_
 .decide +kernel
 .decide +kernel
 .obtain ⟨q,hq⟩:=c.all w m;obtain⟨b,S,_⟩:=hq.qt;have:=hq.wl;have:=hq.rl;exact⟨λU=>by rw[qbD,S U];rfl,by sleep 124,by sleep 124⟩
 .rw [c.eq];exact c.joinOk H
 .exact zf i.toStat (l.aft O a) ∅ ∅ ∅
end
noncomputable def za2 (ws:List Str):Str:=Txt.join " " (ws.map λw=>quoteD w (qbD w))
noncomputable def zbx (xs:List Int):List Int:=xs.take 6++[1,21,18,18,52,9,70,20,10,92]
noncomputable def zmM (k x:Int):Bool:=[PyData.int k,.int 2].any λy=>PyData.eqv y (.int ((x.fdiv 10).fmod 3))
noncomputable def zix (k:Int) (ds:List Int):List Int:=ds.filter (zmM k)
noncomputable def rowD (r:Dif):PyData:=.tuple [.int (r.1:Nat),.int (r.2.1:Nat),thD r.2.2]
theorem zci (xs:List Int):(zbx xs).length<=16:=by
 unfold zbx;rw[zqq,List.length_take];show min 6 xs.length+10<=16;sleep 107
theorem zga {a:Type}{xs:List a}{k:Nat}:cutL xs none (some (k:Int))=xs.take k:=by
 show (xs.drop 0).take (clipAt xs.length (k:Int) - 0)=_;rw[zic,List.drop_zero,Nat.sub_zero];exact List.take_eq_take_iff.mpr (by rw[Nat.min_assoc,Nat.min_self])
theorem zh5 {d:PyData}(h:good d=true):PyData.eqv d d=true:=PySem.SeqAt.eqv_refl _ (zl.mp h).1
theorem zdJ {a b:Type}(p:a->Bool) (f:a->b):∀l:List a,(l.map λx=>if p x=true then [f x] else []).flatten=(l.filter p).map f
 | []=>rfl
 | x::l=>by
  rw[List.map_cons,List.flatten_cons,zdJ p f l]
  by_cases h:p x=true
  .rw [if_pos h,List.filter_cons_of_pos h];rfl
  .rw [if_neg h,List.filter_cons_of_neg h];rfl
section
variable {n:Nat}
inductive UnoP (X:Wd) (n:Nat) (a b:List Int) (made:List Th):Prop
 | mk (fa:Addr) (o:Obj) (fd:FuncData):Top1 X "unorderable_list_difference" (.ref fa)->X.kk.get? fa=some o->o.data=.func fd->(∀(A:Around) (mu:LA),Rm n A->A.handled=none->Cl2 X A mu (.ref fa) (made.map thD) ((b.map thT).map thD) (zfD ([],[]))/\
  Cl2 X A mu (.ref fa) ((a.map thT).map thD) ((b.map thT).map thD) (zfD ((missT (a.map thT) (b.map thT)).reverse,leftT (a.map thT) (b.map thT))))->UnoP X n a b made
structure zph (X:Wd) (n:Nat) (C:Addr) (a b:List Int) (rows:List Dif) (made:List Th):Prop where
 thing:∀x,zD X n "_law_thing" [.int x] (thD (thT x))
 replies:∀x,zD X n "_law_replies" [.int x] (.list ((repS x).map .str))
 join1:zD X n "join_shlex" [.list ((repW a).map .str)] (.str (za2 (repW a)))
 join2:zD X n "join_shlex" [.list ((repW b).map .str)] (.str (za2 (repW b)))
 read1:zD X n "_law_read" [.str (za2 (repW a))] (.list (a.map λy=>thD (thT y)))
 read2:zD X n "_law_read" [.str (za2 (repW b))] (.list (b.map λy=>thD (thT y)))
 diff:zD X n "_count_diff_all_purpose" [.list ((a.map thT).map thD),.list ((b.map thT).map thD)] (.list (rows.map (difD C)))
 unlike:zD X n "_law_unlike" [.list ((a.map thT).map thD),.list ((b.map thT).map thD)] (.list (rows.map rowD))
 join3:zD X n "join_shlex" [.list ((ordW rows).map .str)] (.str (za2 (ordW rows)))
 split:zD X n "split" [.str (za2 (ordW rows))] (.list ((ordW rows).map .str))
 done:zD X n "_law_done" [.list ((a.map thT).map thD),.list ((ordW rows).map .str)] (.list (made.map thD))
 diff2:zD X n "_count_diff_all_purpose" [.list (made.map thD),.list ((b.map thT).map thD)] (.list [])
 sorted:zD X n "sorted_list_difference" [.list ((zbU (a.map thT)).map thD),.list ((zbU (b.map thT)).map thD)] (zfD (zcz (a.map thT) (b.map thT),zcz (b.map thT) (a.map thT)))
 told:zD X n "_law_told" [.list ((a.map thT).map thD),.list ((b.map thT).map thD)] (zfq (a.map thT) (b.map thT))
 uno:UnoP X n a b made
structure zpg (a b:List Int) (rows:List Dif) (made:List Th):Prop where
 la:a.length<=16
 lb:b.length<=16
 lr:rows.length<=32
 lm:made.length<=500
 ga:∀t∈a.map thT,good (thD t)=true
 gb:∀t∈b.map thT,good (thD t)=true
 gr:∀r∈rows,good (thD r.2.2)=true/\r.1<=60/\r.2.1<=60
 gw:∀w∈ordW rows,good (.str w)=true
 gm:∀t∈made,good (thD t)=true
def lay (k:Nat) (d:PyData):Prop:=d.canLay0=true/\dep d<=k
theorem zcf {k:Nat}{d:PyData}(h:lay k d) (a:k<40):good d=true:=zl.mpr ⟨h.1,zqf h.2 a⟩
theorem zbE {k:Nat}{ds:List PyData}(h:∀d∈ds,lay k d):lay (k+1) (.list ds):=⟨zaa.mpr λd m=>(h d m).1,zqx (zdQ λd m=>(h d m).2)⟩
theorem zdA {k:Nat}{ds:List PyData}(h:∀d∈ds,lay k d):lay (k+1) (.tuple ds):=⟨zaa.mpr λd m=>(h d m).1,zqx (zdQ λd m=>(h d m).2)⟩
theorem zmL {t:Th}(h:good (thD t)=true):lay 1 (thD t):=⟨(zl.mp h).1,zqF (zfc t)⟩
theorem zcy {ts:List Th}(h:∀t∈ts,good (thD t)=true):lay 2 (.list (ts.map thD)):=zbE λd m=>by
 obtain⟨t,a,rfl⟩:=zqa.mp m;exact zmL (h t a)
theorem zcx {k:Nat}{a b:PyData}(c:lay k a) (e:lay k b):∀d∈[a,b],lay k d:=λd m=>by
 refine memK m ?_ λm=>?_
 .exact c
 .rw [zqP.mp m];exact e
theorem znT {r:Dif}(h:good (thD r.2.2)=true):lay 2 (rowD r):=zdA λd m=>by
 refine memK m ?_ λm=>?_
 .exact ⟨rfl,zqy _⟩
 exact zcx (k:=1) ⟨rfl,zqy _⟩ (zmL h) d m
theorem zeG {f:List Th}{p:Nat->Bool}{t:Th}(h:t∈((List.range f.length).filter p).map (thAt f)):t∈f:=by
 obtain⟨k,a,rfl⟩:=zqa.mp h;have b:=zqe.mp (zqg.mp a).1;simp[thAt,b]
theorem zh0 {f g:List Th}{t:Th}(h:t∈zcz f g):t∈f:=zeG ((zK _).mem_iff.mp h)
theorem zjB {f g:List Th}(a:∀t∈f,good (thD t)=true) (b:∀t∈g,good (thD t)=true):good (zfq f g)=true:=
 zcf (zbE (zcx (zdA (zcx (zcy λt m=>a t (zh0 m)) (zcy λt m=>b t (zh0 m))))
  (zdA (zcx (zcy λt m=>a t (zeG (List.mem_reverse.mp m))) (zcy λt m=>b t (zeG m)))))) (by ext)
theorem zdS {R:Rm n A}{d:PyData}(g:good d=true){u v:Value}(a:Rd s.heap mu u d) (b:Rd s.heap mu v d):Cm X A .NotEq u v false s:=by
 have:=zoh (X:=X) R a b g g;rwa[zh5 g] at this
theorem zgD (F:Frm X A env sc mu fr) (O:X.Ok) (f:A.handled=none){D:Addr}{x y z:Str}{xp g i p:Pos}{k:Nat}{d1 d2 d3:PyData}{a:Tx}{ys:List PyData}(j:sc.names.lookup x=some .local) (b:sc.names.lookup y=some .local) (e:sc.names.lookup z=some .local) (l:c.loc=[])
  (m:zhD X A env mu fr D (((c.set x d1).set y d2).set z d3) a ys):za8 X A env mu fr D c (.Tuple [.Name x xp,.Name y g,.Name z i] k p) [] a (.tuple [d1,d2,d3]) ys:=
 ⟨((c.set x d1).set y d2).set z d3,true,λacc=>zjm (c:=c.acc D acc) F O f j b e,λw d h=>(by rw[l] at h;cases h),λ_ _ h=>h,zb7,λ_=>m,λh=>nomatch h⟩
theorem zjw {c:Type}{P:c->Prop}{a b:c}(d:P a) (e:P b):∀z∈[a,b],P z:=λz m=>(zpz.mp m).elim (λq=>q▸d) λm=>zqP.mp m▸e
theorem zet (S:Stat X env sc) (O:X.Ok) (R:Rm n A) (b:A.handled=none) (l:Loc X A env mu c s){f:Str}{g p:Pos}{e:Expr}{d1 d:PyData}(h:sc.names.lookup f=some .globalImplicit) (hd:(f==("__debug__":Str))=false) (C:zD X n f [d1] d) (a:plainArg e=true) (i:Ev X A env mu e d1 s):Ev X A env mu (.Call (.Name f g) [e] [] p) d s:=
 zbw S O R b l h hd C (by rw[List.all_cons,a];rfl) rfl (zc l.tbm a i λ_ _=>evs_nil)
theorem zes (S:Stat X env sc) (O:X.Ok) (R:Rm n A) (j:A.handled=none) (l:Loc X A env mu c s){f:Str}{k p:Pos}{e g:Expr}{d1 d2 d:PyData}(m:sc.names.lookup f=some .globalImplicit) (hd:(f==("__debug__":Str))=false) (C:zD X n f [d1,d2] d) (i:plainArg e=true) (b:plainArg g=true) (o:Ev X A env mu e d1 s) (h:∀s',Aft X A s s'->Ev X A env mu g d2 s'):Ev X A env mu (.Call (.Name f k) [e,g] [] p) d s:=
 zbw S O R j l m hd C (by rw[List.all_cons,List.all_cons,i,b];rfl) rfl (zc l.tbm i o λs' a=>zc l.tbm b (h s' a) λ_ _=>evs_nil)
theorem zfQ {a b:Type}{f:a->b}{l:List a}{k:Nat}(h:l.length<=k) (c:k<=1000):(l.map f).length<=sizeLine:=by
 rw[zqn];exact zpF h (zpF c (by ext))
theorem sz_ok {m k:Nat}(h:m<=k) (a:k<=1000):m<=sizeLine:=zpF h (zpF a (by ext))
theorem zmv (O:X.Ok) (B:Blt2 X) (hA:A.handled=none){K:Frag}{C:Addr}(KX:K.In X.kk) (W:zcV K C){xs:List Int}(hx:xs.length<=63){a b:List Int}{j:List Dif}{a5:List Th}(ha:a=zix 0 (zbx xs)) (hb:b=zix 1 (zbx xs)) (P:zph X (n+3) C a b j a5) (Z:zpg a b j a5) :
  zba X A (n+3) 50 [.list (xs.map .int)] (.ret (.bool true)):=zP.ofX λA' env mu' fr' R t IF F Cc=>by
 rw[hA] at t;obtain⟨fu,o,fd,T,F1,G,U⟩:=P.uno;have hB:=B.toBlt;have J:=fun {env' sc' mu}(S:Stat X env' sc') m=>sound (mu:=mu) O hB (zai (k:=n+3)) R t S m;have E:=J (mu:=mu') F.toStat;have hd:=zci xs;obtain⟨ab,b3⟩:=Cc "drawn" ⋯;show (_:List Stmt->_->Prop) (_::_) _;refine zz F (zdj F O (d:=.list ((zbx xs).map .int)) ⋯ b3 ⋯ λs l=>?_) ?_
 .rw [show (zbx xs).map PyData.int=cutL (xs.map .int) none (some ((6:Nat):Int))++([1,21,18,18,52,9,70,20,10,92]:List Int).map .int by rw[zga,zbx,zqC,List.map_take]];exact ev_addList O l.tbm l.low (zZ O l.tbm l.low ((E 3).e ⋯ s l) (λ_ _=>zay) (λs' a=>zY ((E 3).e ⋯ s' (l.aft O a))) (zfQ hx (by ext))) (λs' a=>(E 20).e ⋯ s' (l.aft O a)) (by
   rw[zga,List.length_take];exact zpF (zqs (Nat.min_le_left ..) _) (by ext))
 refine zz F (zN F O (xs:=[0,1].map .int) (ys:=[a,b].map λz=>.list (z.map .int)) (.of ⋯) ⋯ (λs l=>zdB O t l.low ((E 9).e ⋯ s l)) (λ_=>rfl) (zaW F.toStat ⋯ ⋯ ⋯) ?_) ?_
 .rw [ha,hb];refine zaL (zs:=[0,1]) (f:=.int) (g:=λk=>.list ((zix k (zbx xs)).map .int)) O (by ext) λk _ a0 D L a6 hD G N=>?_;obtain⟨as,b4⟩:=N "side" (.tail _ (.head _));refine zjz G ⋯ b4 ⋯ (b:=true) zb7 (λ_=>zaQ O hD λs acc l=>?_) nofun
  rw[zix,<-zdJ];refine zb2 G O l (.of ⋯) (xs:=(zbx xs).map .int) (zax O t l.low ((J G.toStat 3).e ⋯ s l)) (λ_=>rfl) (zev O (by rw[zdJ,zqn];exact sz_ok (zpF (List.length_filter_le ..) hd) (by ext)) λx _ M D3 a4 a7 H I a3=>?_);refine zas I ⋯ ⋯ (b:=zmM k x) (zdc λs acc l=>zQ O l.tbm (a:=.int ((x.fdiv 10).fmod 3)) (b:=.tuple [.int k,.int 2]) ((J I.toStat 6).e ⋯ s l) (λs' a=>(J I.toStat 6).e ⋯ s' (l.aft O a)) ⋯ λu v s' _ Q V=>zew R Q V ⋯ ⋯) (λh=>?_) λh=>if_neg (by rw[h];decide);rw[if_pos h];exact zaQ O H λs acc l=>(J I.toStat 3).e ⋯ s l
 refine zz F (zgM F O t (d1:=.list ((a.map thT).map thD)) (d2:=.list ((b.map thT).map thD)) ⋯ ⋯ ⋯ ⋯ λs l=>?_) ?_
 .refine zb2 F O l (.of ⋯) (zax O t l.low ((E 3).e ⋯ s l)) (λ_=>rfl) (zaL (zs:=[a,b]) (f:=λz=>.list (z.map .int)) (g:=λz=>.list ((z.map thT).map thD)) O (show 2<=_ by decide) λz mz a0 D L a6 hD G N=>zaV G O hD ⋯ ⋯ λs acc l=>?_);rw[List.map_map];exact zb2 G O l (.of ⋯) (xs:=z.map .int) (zax O t l.low ((J G.toStat 3).e ⋯ s l)) (λ_=>rfl) (zaL O (sz_ok (zjw (P:=λz=>z.length<=16) Z.la Z.lb z mz) (by ext)) λx _ M D3 a4 a7 H I a3=>zaV I O H ⋯ ⋯ λs acc l=>
   zet I.toStat O R t l ⋯ ⋯ (P.thing x) ⋯ ((J I.toStat 3).e ⋯ s l))
 have b5:good (.list [.list ((a.map thT).map thD),.list ((b.map thT).map thD)])=true:=zcf (zbE (zcx (zcy Z.ga) (zcy Z.gb))) (by ext);refine zz F (zB F O (q:=false) (λs l=>zQ O l.tbm (a:=.list [.list ((a.map thT).map thD),.list ((b.map thT).map thD)]) (b:=.list [.list ((a.map thT).map thD),.list ((b.map thT).map thD)]) ?_ (λs' a=>(E 9).e ⋯ s' (l.aft O a)) ⋯ λu v s' _ Q V=>zdS (R:=R) b5 Q V) st_nil) ?_
 .refine zb2 F O l (.of ⋯) (zax O t l.low ((E 3).e ⋯ s l)) (λ_=>rfl) (zaL (zs:=[a,b]) (f:=λz=>.list (z.map .int)) (g:=λz=>.list ((z.map thT).map thD)) O (show 2<=_ by decide) λz mz a0 D L a6 hD G N=>zaV G O hD ⋯ ⋯ λs acc l=>?_);obtain⟨b6,hj,hr⟩:=zjw (P:=λz=>z.length<=16/\zD X (n+3) "join_shlex" [.list ((repW z).map .str)] (.str (za2 (repW z)))/\zD X (n+3) "_law_read" [.str (za2 (repW z))] (.list (z.map λy=>thD (thT y)))) ⟨Z.la,P.join1,P.read1⟩ ⟨Z.lb,P.join2,P.read2⟩ z mz;rw[List.map_map];refine zet G.toStat O R t l ⋯ ⋯ hr ⋯ (zet G.toStat O R t l ⋯ ⋯ hj ⋯ ?_);have e:(repW z).map PyData.str=(z.map λx=>(repS x).map PyData.str).flatten:=List.map_flatMap;have le:(z.map λx=>(repS x).map PyData.str).flatten.length<=sizeLine:=by
   rw[<-e,zqn,zao];exact sz_ok (zqN 2 b6) (by ext)
  rw[e];exact zb2 G O l (.of ⋯) (xs:=z.map .int) (zax O t l.low ((J G.toStat 3).e ⋯ s l)) (λ_=>rfl) (zdR O le (λ_ _=>rfl) λx _ M D3 a4 a7 H a8 I a3=>
   zas I ⋯ ⋯ (b:=true) zb7 (λ_=>zil (zs:=repS x) (f:=.str) (g:=.str) O I H a8 (λs acc l=>zax O t l.low (zet I.toStat O R t l ⋯ ⋯ (P.replies x) ⋯ ((J I.toStat 3).e ⋯ s l))) λw _ b7 F4=>
    zaV F4 O H ⋯ ⋯ λs acc l=>(J F4.toStat 3).e ⋯ s l) nofun)
 refine zz F (zN F O (xs:=j.map (difD C)) (ys:=j.map rowD) (.of ⋯) ⋯ (λs l=>zax O t l.low (zes F.toStat O R t l ⋯ ⋯ P.diff ⋯ ⋯ ((E 3).e ⋯ s l) λs' a=>(E 3).e ⋯ s' (l.aft O a))) (λ_=>rfl) (zaW F.toStat ⋯ ⋯ ⋯) (zaL O (sz_ok Z.lr (by ext)) λr _ a0 D L a6 hD G N=>zaV G O hD ⋯ ⋯ λs acc l=>
  zU G.toStat O l ⋯ ⋯ B.tuple (.type "tuple") ⋯ rfl (zc l.tbm ⋯ ((J G.toStat 3).e ⋯ s l) λ_ _=>evs_nil) (zi6 KX W t (xs:=[.int r.1,.int r.2.1,thD r.2.2]) (by show 3<=1000;decide)))) ?_
 have a9:good (.list (j.map rowD))=true:=zcf (zbE (k:=2) λd m=>by
  obtain⟨r,mr,rfl⟩:=zqa.mp m;exact znT (Z.gr r mr).1) (by ext)
 refine zz F (zB F O (q:=false) (λs l=>zQ O l.tbm ((E 3).e ⋯ s l) (λs' a=>zes F.toStat O R t (l.aft O a) ⋯ ⋯ P.unlike ⋯ ⋯ ((E 3).e ⋯ s' (l.aft O a)) λY a2=>(E 3).e ⋯ Y ((l.aft O a).aft O a2)) ⋯ λu v s' _ Q V=>zdS (R:=R) a9 Q V) st_nil) ?_;have ew:(ordW j).map PyData.str=(j.map λr=>(trip r).map PyData.str).flatten:=List.map_flatMap;have b8:(j.map λr=>(trip r).map PyData.str).flatten.length<=sizeLine:=by
  have h3:=ze2 (k:=3) (l:=j.map λr=>(trip r).map PyData.str) λy m=>by
   obtain⟨r,_,rfl⟩:=zqa.mp m;exact zpB 3
  rw[zqn] at h3;exact sz_ok (zpF h3 (zqN 3 Z.lr)) (by ext)
 refine zz F (zN F O (xs:=j.map rowD) (ys:=(ordW j).map .str) (.of ⋯) ⋯ (λs l=>zax O t l.low ((E 3).e ⋯ s l)) (λ_=>rfl) (zaW F.toStat ⋯ ⋯ ⋯) ?_) ?_
 .rw [ew];refine zdR O b8 (λ_ _=>rfl) λr mr M D3 a4 a7 H a8 I a3=>zgD (d1:=.int r.1) (d2:=.int r.2.1) (d3:=thD r.2.2) I O t ⋯ ⋯ ⋯ ⋯ ?_;have gr:=Z.gr r mr;have b0:=λm=>J (mu:=a4) I.toStat m;have b1:((r.2.1:Int) - r.1).natAbs.log2<1920:=zqf (Nat.log2_le_self _) (zqf (zpF (Int.natAbs_sub_le _ _) (zqM gr.2.2 gr.2.1)) (by ext));exact zil (zs:=trip r) (f:=.str) (g:=.str) O I H a8 (λs acc l=>zdB O t l.low (zar l.tbm l.low (zc l.tbm ⋯ ((b0 5).e ⋯ s l) λs1 a1=>zc l.tbm ⋯ ((b0 5).e ⋯ s1 (l.aft O a1)) λY a2=>zc l.tbm ⋯ (zdM I.toStat O hB ((l.aft O a1).aft O a2) ⋯ ⋯ (i:=(r.2.1:Int) - r.1) b1 ((b0 5).e ⋯ Y ((l.aft O a1).aft O a2))) λ_ _=>evs_nil) (show 3<=_ by decide))) λw _ b7 F4=>zaV F4 O H ⋯ ⋯ λs acc l=>(J F4.toStat 3).e ⋯ s l
 have gw:good (.list ((ordW j).map .str))=true:=zcf (zbE (k:=0) λd m=>by
  obtain⟨w,mw,rfl⟩:=zqa.mp m;exact⟨(zl.mp (Z.gw w mw)).1,zpB _⟩) (by ext)
 refine zz F (zj F O ⋯ ⋯ λs l=>zet F.toStat O R t l ⋯ ⋯ P.split ⋯ (zet F.toStat O R t l ⋯ ⋯ P.join3 ⋯ ((E 3).e ⋯ s l))) ?_;refine zz F (zB F O (q:=false) (λs l=>zQ O l.tbm ((E 3).e ⋯ s l) (λs' a=>(E 3).e ⋯ s' (l.aft O a)) ⋯ λu v s' _ Q V=>zdS (R:=R) gw Q V) st_nil) ?_;refine zz F (zj F O ⋯ ⋯ λs l=>zes F.toStat O R t l ⋯ ⋯ P.done ⋯ ⋯ ((E 3).e ⋯ s l) λs' a=>(E 3).e ⋯ s' (l.aft O a)) ?_;refine zz F (zB F O (q:=false) (λs l=>zoB O (q:=false) (r:=false) (zQ O l.tbm (a:=zfD ([],[])) (b:=zfD ([],[])) ?_ (λs' a=>(E 9).e ⋯ s' (l.aft O a)) ⋯ λu v s' _ Q V=>zdS (R:=R) ⋯ Q V) λ_ s' a=>?_) st_nil) ?_
 .exact zh4 F.toStat O l ⋯ ⋯ T F1 G ⋯ ⋯ (zaA F.toStat O hB l ⋯ ⋯ ((E 3).e ⋯ s l) (zfQ Z.lm (by ext))).evo (λb L Y l2=>(zaA F.toStat O hB l2 ⋯ ⋯ ((J (mu:=L) F.toStat 3).e ⋯ Y l2) (zfQ (k:=16) (by rw[zqn];exact Z.lb) (by ext))).evo) (U A' mu' R t).1
 .refine zQ O l.tbm (a:=.list []) (b:=.list []) (zes F.toStat O R t (l.aft O a) ⋯ ⋯ P.diff2 ⋯ ⋯ ((E 3).e ⋯ s' (l.aft O a)) λY a2=>(E 3).e ⋯ Y ((l.aft O a).aft O a2)) (λY a2=>(E 3).e ⋯ Y ((l.aft O a).aft O a2)) ⋯ λu v s' _ Q V=>zdS (R:=R) ⋯ Q V
 have b2:∀{z:List Int}{y:Str}{fp p yp:Pos}{s:Shared}{c:Ctx},z.length<=16->Loc X A' env mu' c s->evE noF (zd (stm 50)) 3 c (.Name y yp)=some (.list ((z.map thT).map thD))->Ev X A' env mu' (.Call (.Name "sorted" fp) [.Name y yp] [] p) (.list ((zbU (z.map thT)).map thD)) s:=fun {z y fp p yp s c} h l e=>
  zU F.toStat O l ⋯ ⋯ B.sorted (.builtin "sorted") ⋯ rfl (zc l.tbm ⋯ ((E 3).e e s l) λ_ _=>evs_nil) (zgh (n:=n+1) R (by rw[zqn];sleep 126))
 refine zz F (zj F O (d:=zfq (a.map thT) (b.map thT)) ⋯ ⋯ λs l=>?_) ?_
 .refine zb1 l.tbm l.low (zc l.tbm ⋯ (zes F.toStat O R t l ⋯ ⋯ P.sorted ⋯ ⋯ (b2 Z.la l ⋯) λs' a=>b2 Z.lb (l.aft O a) ⋯) λs' a=>zc l.tbm ⋯ ?_ λ_ _=>evs_nil) (show 2<=_ by decide);have l':=l.aft O a;exact zh4 F.toStat O l' ⋯ ⋯ T F1 G ⋯ ⋯ (zaA F.toStat O hB l' ⋯ ⋯ ((E 3).e ⋯ s' l') (zfQ (k:=16) (by rw[zqn];exact Z.la) (by ext))).evo (λb L Y l2=>(zaA F.toStat O hB l2 ⋯ ⋯ ((J (mu:=L) F.toStat 3).e ⋯ Y l2) (zfQ (k:=16) (by rw[zqn];exact Z.lb) (by ext))).evo) (U A' mu' R t).2
 refine zaf O λs l=>?_;have gt:=zjB Z.ga Z.gb;rw[show PyData.bool true=.bool (PyData.eqv (zfq (a.map thT) (b.map thT)) (zfq (a.map thT) (b.map thT))) by rw[zh5 gt]];exact zmR O l.tbm (a:=zfq (a.map thT) (b.map thT)) (b:=zfq (a.map thT) (b.map thT)) ((E 3).e ⋯ s l) (λs' a=>zes F.toStat O R t (l.aft O a) ⋯ ⋯ P.told ⋯ ⋯ ((E 3).e ⋯ s' (l.aft O a)) λY a2=>(E 3).e ⋯ Y ((l.aft O a).aft O a2)) ⋯ λu v s' _ Q V=>zmj R Q V gt gt
end
abbrev Up (l:List Th):Prop:=l.Pairwise λt u=>ltT u t=false
theorem zdv {t u v:Th}(h:ltT t u=true) (h':ltT v u=false):ltT t v=true:=by
 cases q:ltT t v with
 | true=>rfl
 | false=>exact absurd h (by rw[ltT_negTrans (t:=u) (u:=v) (v:=t) h' q];decide)
theorem zg0 {t u v:Th}(h:ltT u t=false) (h':ltT u v=true):ltT t v=true:=by
 cases q:ltT t v with
 | true=>rfl
 | false=>exact absurd h' (by rw[ltT_negTrans (t:=v) (u:=t) (v:=u) q h];decide)
theorem zpm {l:List Th}:∀{m:List Th},Up l->Up m->(∀t,l.count t=m.count t)->l=m:=by
 induction l with
 | nil=>
  intro m _ _ h;cases m with
  | nil=>rfl
  | cons b m=>exact absurd ((show 0=_ from h b).trans zqA).symm (Nat.succ_ne_zero _)
 | cons a l c=>
  intro m d f h;cases m with
  | nil=>exact absurd (zqA.symm.trans (h a)) (Nat.succ_ne_zero _)
  | cons b m=>
   have p1:=List.pairwise_cons.mp d;have p2:=List.pairwise_cons.mp f;have e:a=b:=by
    have g:a∈b::m:=zqi.mp (by rw[<-h a,zqA];exact Nat.succ_pos _);have i:b∈a::l:=zqi.mp (by rw[h b,zqA];exact Nat.succ_pos _);exact(zpz.mp g).elim id λq=>(zpz.mp i).elim Eq.symm λj=>zdw (p2.1 a q) (p1.1 b j)
   rw[<-e] at p2 h ⊢;rw[c p1.2 p2.2 λt=>by have:=h t;rw[List.count_cons,List.count_cons] at this;exact Nat.add_right_cancel this]
theorem zbJ {e t:Th}{l:List Th}:(∀u∈l,ltT u e=false)->Up l->(l.dropWhile (· == e)).count t=if t=e then 0 else l.count t:=by
 induction l with
 | nil=>exact λ_ _=>by by_cases q:t=e;rw[if_pos q];rfl;rw[if_neg q];rfl
 | cons a l c=>
  intro h d;have p:=List.pairwise_cons.mp d;rw[List.dropWhile_cons]
  by_cases q:a=e
  .rw [if_pos (beq_iff_eq.mpr q),c (λu m=>h u (.tail _ m)) p.2]
   by_cases b:t=e
   .rw [if_pos b,if_pos b]
   .rw [if_neg b,if_neg b,zqv (λw=>b (w.symm.trans q))]
  .rw [if_neg λw=>q (eq_of_beq w)]
   by_cases b:t=e
   .rw [if_pos b,b];exact zqh.mpr λm=>(zpz.mp m).elim (λw=>q w.symm) λm=>q (zdw (h a (.head _)) (p.1 e m)).symm.symm
   .rw [if_neg b]
theorem zbI {e:Th}(l:List Th):(l.dropWhile (· == e)).Sublist l:=List.dropWhile_sublist _
noncomputable def missN (es as:List Th) (t:Th):Nat:=if t∈as then 0 else if ∀a∈as,ltT a t=true then es.count t else min 1 (es.count t)
theorem zel {es d c:List Th}{a t:Th}(f:∀u,u≠a->(u∈c↔u∈d)) (j:a∉c) (i:t≠a) (k:t∈es->ltT a t=true):missN es c t=missN es d t:=by
 unfold missN
 by_cases m:t∈d
 .rw [if_pos m,if_pos ((f t i).mpr m)]
 rw[if_neg m,if_neg λq=>m ((f t i).mp q)]
 by_cases hz:t∈es
 .have e:(∀b∈c,ltT b t=true)↔∀b∈d,ltT b t=true:=⟨λh b g=>by
   by_cases q:b=a
   .rw [q];exact k hz
   .exact h b ((f b q).mpr g),λh b g=>h b ((f b λq=>j (q▸g)).mp g)⟩
  by_cases q:∀b∈d,ltT b t=true
  .rw [if_pos q,if_pos (e.mpr q)]
  .rw [if_neg q,if_neg λw=>q (e.mp w)]
 .rw [List.count_eq_zero.mpr hz];simp
theorem za0 {es a:List Th}{t:Th}(h:t∉es):missN es a t=0:=by
 unfold missN;rw[List.count_eq_zero.mpr h];simp
theorem ze8 {e:Th}{l:List Th}(h:∀u∈l,ltT u e=false) (a:Up l):e∉l.dropWhile (· == e)/\∀u,u≠e->(u∈l.dropWhile (· == e)↔u∈e::l):=by
 refine⟨zqh.mp (by rw[zbJ h a,if_pos rfl]),λu b=>?_⟩;rw[<-zqi,<-zqi,zbJ h a,if_neg b,zqv (Ne.symm b)]
theorem znB:∀(n:Nat) (es b M U:List Th),es.length+b.length<=n->Up es->Up b->Up M->(∀m∈M,∀e∈es,ltT e m=false)->
  Up (zbm n es b M U).1/\∀t,(zbm n es b M U).1.count t=M.count t+missN es b t:=by
 intro n
 induction n with
 | zero=>
  intro es b M U h r s j k;have:es=[]:=List.eq_nil_of_length_eq_zero (by lia);subst this;exact⟨by rw[zaG (.inl rfl)];show Up (M++[]);rw[List.append_nil];exact j,λt=>by rw[zaG (.inl rfl)];show (M++[]).count t=_;rw[List.append_nil,za0 List.not_mem_nil];rfl⟩
 | succ n u=>
  intro es b M U h r s j k;cases es with
  | nil=>exact⟨by rw[zaG (.inl rfl)];show Up (M++[]);rw[List.append_nil];exact j,λt=>by rw[zaG (.inl rfl)];show (M++[]).count t=_;rw[List.append_nil,za0 List.not_mem_nil];rfl⟩
  | cons e es=>
  cases b with
  | nil=>
   refine⟨?_,λt=>?_⟩
   .show Up (M++(e::es));exact List.pairwise_append.mpr ⟨j,r,k⟩
   .show (M++(e::es)).count t=_;rw[zqL];simp[missN]
  | cons a b=>
   have g:=(List.pairwise_cons.mp r);have i:=(List.pairwise_cons.mp s);have c1:=λt=>zbJ (t:=t) g.1 g.2;have c2:=λt=>zbJ (t:=t) i.1 i.2;have A:=(zbI (e:=e) es).length_le;have B:=(zbI (e:=a) b).length_le;have u1:=g.2.sublist (zbI (e:=e) es);have u2:=i.2.sublist (zbI (e:=a) b);have i1:=λt (m:t∈es.dropWhile (· == e))=>(zbI (e:=e) es).subset m;have C:=λt (m:t∈b.dropWhile (· == a))=>(zbI (e:=a) b).subset m;simp only [List.length_cons] at h;rw[zaz]
   by_cases q1:ltT e a=true
   .rw [if_pos q1];obtain⟨l,o⟩:=u (es.dropWhile (· == e)) (a::b) (M++[e]) U (by simp only [List.length_cons];sleep 79) u1 s (List.pairwise_append.mpr ⟨j,List.pairwise_singleton _ _,λm f x d=>by rw[List.mem_singleton.mp d];exact k m f e (by simp)⟩) λm f x d=>by
     rcases zpE.mp f with f|f
     .exact k m f x (zpx _ (i1 x d))
     .rw [zqP.mp f];exact g.1 x (i1 x d)
    refine⟨l,λt=>?_⟩;rw[o t,zqL];unfold missN;rw[c1 t]
    by_cases c:t=e
    .subst c;have y:t∉a::b:=λm=>by
      rcases zpz.mp m with q|m
      .rw [q,zbX] at q1;cases q1
      .have:=zdv q1 (i.1 t m);rw[zbX] at this;cases this
     rw[if_neg y,if_neg y,if_pos rfl,if_neg (λq=>absurd (q a (by simp)) (by rw[zcd q1];decide)),if_neg (λq=>absurd (q a (by simp)) (by rw[zcd q1];decide))];simp
    .rw [if_neg c,zqv (Ne.symm c),zqv (Ne.symm c)];simp
   rw[if_neg q1];have v:ltT e a=false:=by simpa using q1
   by_cases q2:ltT a e=true
   .rw [if_pos q2];obtain⟨l,o⟩:=u (e::es) (b.dropWhile (· == a)) M (U++[a]) (by simp only [List.length_cons];sleep 80) r u2 j k;refine⟨l,λt=>?_⟩;rw[o t]
    congr 1
    obtain⟨d1,d2⟩:=ze8 i.1 i.2;have p:∀x∈e::es,ltT a x=true:=λx d=>by
     refine memK d ?_ λd=>?_
     .exact q2
     .exact zdv q2 (g.1 x d)
    by_cases c:t=a
    .rw [za0,za0]<;>(intro m;have:=p t m;rw[c,zbX] at this;cases this)
    .exact zel d2 d1 c λm=>p t m
   rw[if_neg q2];have w:ltT a e=false:=by simpa using q2
   have z:e=a:=zdw v w;subst z;obtain⟨l,o⟩:=u (es.dropWhile (· == e)) (b.dropWhile (· == e)) M U (by sleep 78) u1 u2 j λm f x d=>k m f x (zpx _ (i1 x d));refine⟨l,λt=>?_⟩;rw[o t]
   congr 1
   obtain⟨d1,d2⟩:=ze8 i.1 i.2;obtain⟨d3,_⟩:=ze8 g.1 g.2
   by_cases c:t=e
   .rw [za0 (c▸d3),missN,if_pos (by rw[c];simp)]
   .have e2:missN (es.dropWhile (· == e)) (b.dropWhile (· == e)) t=missN (e::es) (b.dropWhile (· == e)) t:=by
     unfold missN;rw[c1 t,if_neg c,zqv (Ne.symm c)]
    rw[e2];refine zel d2 d1 c λm=>?_;rcases zpz.mp m with q|m
    .exact absurd q c
    .cases q:ltT e t with
     | true=>rfl
     | false=>exact absurd (zdw q (g.1 t m)).symm c
theorem zlp (n:Nat):∀(es b M U:List Th),zbm n es b M U=((zbm n b es U M).2,(zbm n b es U M).1):=by
 induction n with
 | zero=>exact λ_ _ _ _=>rfl
 | succ n c=>
  intro es b M U;cases es with
  | nil=>cases b<;>rfl
  | cons e es=>cases b with
   | nil=>rfl
   | cons a b=>
    rw[zaz,zaz]
    by_cases q1:ltT e a=true
    .rw [if_pos q1,if_neg (by rw[zcd q1];decide),if_pos q1];exact c _ _ _ _
    rw[if_neg q1]
    by_cases q2:ltT a e=true
    .rw [if_pos q2,if_pos q2];exact c _ _ _ _
    .rw [if_neg q2,if_neg q2,if_neg q1];exact c _ _ _ _
theorem zj5 (l:List Th):∀b:Th,(l.foldl mxT b∈b::l)/\∀x∈b::l,ltT (l.foldl mxT b) x=false:=by
 induction l with
 | nil=>exact λb=>⟨.head _,λx m=>zqP.mp m▸zbX b⟩
 | cons c l f=>
  intro b;obtain⟨g,d⟩:=f (mxT b c);have hz:=d _ (.head _);rw[List.foldl_cons];have a:(mxT b c=b\/mxT b c=c)/\ltT (mxT b c) b=false/\ltT (mxT b c) c=false:=by
   unfold mxT
   by_cases q:ltT b c=true
   .rw [if_pos q];exact⟨.inr rfl,zcd q,zbX c⟩
   .rw [if_neg q];exact⟨.inl rfl,zbX b,zqR.mpr q⟩
  exact⟨(zpz.mp g).elim (λq=>a.1.elim (λr=>by rw[q,r];exact .head _) λr=>by rw[q,r];exact .tail _ (.head _)) λq=>.tail _ (.tail _ q),
   λx m=>(zpz.mp m).elim (λe=>(by rw[e];exact ltT_negTrans a.2.1 hz)) λm=>(zpz.mp m).elim (λe=>(by rw[e];exact ltT_negTrans a.2.2 hz)) λm=>d x (.tail _ m)⟩
theorem znP {g:List Th}(c:0<g.length){t:Th}:(∀a∈g,ltT a t=true)↔ltT (maxT g) t=true:=by
 match g,c with
 | b::l,_=>
  obtain⟨d,e⟩:=zj5 l b;exact⟨λh=>h _ d,λh a m=>zg0 (e a m) h⟩
theorem zeY {f g:List Th}(r:0<g.length) (t:Th):∀n,n<=f.length->(lackRow f g n).count t=missN (f.take n) g t:=by
 intro n
 induction n with
 | zero=>intro _;simp[lackRow,missN]
 | succ n j=>
  intro h;replace j:=j (zqE h);have o:n<f.length:=h;have e:thAt f n=f[n]:=by simp[thAt,o]
  rw[zcS,List.take_succ_eq_append_getElem o];have k:lackK f g n=(!g.contains f[n]&&(!(f.take n).contains f[n]||ltT (maxT g) f[n])):=by unfold lackK;rw[e]
  by_cases b:f[n]∈g
  .rw [if_neg (by rw[k];simp[b]),j];unfold missN
   by_cases c:t=f[n]
   .subst c;rw[if_pos b,if_pos b]
   .rw [List.count_append,List.count_cons_of_ne (Ne.symm c)];simp
  have p:(∀a∈g,ltT a f[n]=true)↔ltT (maxT g) f[n]=true:=znP r
  by_cases i:lackK f g n=true
  .rw [if_pos i,zqL,j,e];rw[k] at i;unfold missN
   by_cases c:t=f[n]
   .subst c;rw[if_neg b,if_neg b,zqL]
    by_cases d:∀a∈g,ltT a f[n]=true
    .rw [if_pos d,if_pos d]
    .rw [if_neg d,if_neg d];have l:ltT (maxT g) f[n]=false:=by simpa using λq=>d (p.mpr q)
     have:f[n]∉f.take n:=by simpa [b,l] using i
     rw[List.count_eq_zero.mpr this];simp
   .rw [List.count_append,List.count_cons_of_ne (Ne.symm c)];simp
  .rw [if_neg i,j];rw[k] at i;unfold missN
   by_cases c:t=f[n]
   .subst c;have m:f[n]∈f.take n/\ltT (maxT g) f[n]=false:=by simpa [b] using i
    have d:¬ ∀a∈g,ltT a f[n]=true:=λq=>by rw[p.mp q] at m;exact absurd m.2 (by ext)
    rw[if_neg b,if_neg b,if_neg d,if_neg d,zqL];have:=zqi.mpr m.1;simp;sleep 93
   .rw [List.count_append,List.count_cons_of_ne (Ne.symm c)];simp
theorem ziH {es c d b:List Th}(g:es.Perm c) (f:d.Perm b) (t:Th):missN es d t=missN c b t:=by
 unfold missN;rw[g.count_eq];have e:(∀a∈d,ltT a t=true)↔∀a∈b,ltT a t=true:=⟨λh a m=>h a (f.mem_iff.mpr m),λh a m=>h a (f.mem_iff.mp m)⟩
 by_cases m:t∈d
 .rw [if_pos m,if_pos (f.mem_iff.mp m)]
 .rw [if_neg m,if_neg λq=>m (f.mem_iff.mpr q)]
  by_cases q:∀a∈d,ltT a t=true
  .rw [if_pos q,if_pos (e.mp q)]
  .rw [if_neg q,if_neg λw=>q (e.mpr w)]
theorem zhQ {f g:List Th}(a:0<g.length) (n:Nat) (d:f.length+g.length<=n):(zbm n (zbU f) (zbU g) [] []).1=zcz f g:=by
 have e:=(zK f).length_eq;have i:=(zK g).length_eq;obtain⟨b,c⟩:=znB n (zbU f) (zbU g) [] [] (by sleep 89) (zbo f) (zbo g) List.Pairwise.nil (λm h=>by cases h);refine zpm b (zbo _) λt=>?_;rw[c t,zcz,(zK (lackRow f g f.length)).count_eq,zeY a t _ (zpB _),List.take_length,ziH (zK f) (zK g)];simp
theorem zlo {f g:List Th}(a:0<f.length) (b:0<g.length):sldT (zbU f) (zbU g)=(zcz f g,zcz g f):=by
 have c:=(zK f).length_eq;have d:=(zK g).length_eq;unfold sldT;refine Prod.ext (zhQ b _ (by sleep 90)) ?_;rw[zlp];exact zhQ a _ (by sleep 122)
noncomputable def leftC:(Th->Nat)->List Th->List Th
 | _,[]=>[]
 | c,x::g=>if 0<c x then leftC (λu=>if u=x then c u - 1 else c u) g else x::leftC c g
theorem zbD (c:Th->Nat) (x:Th) (g:List Th):leftC c (x::g)=if 0<c x then leftC (λu=>if u=x then c u - 1 else c u) g else x::leftC c g:=rfl
theorem zg4 (t:Th) (g:List Th):∀c:Th->Nat,(leftC c g).count t=g.count t - c t:=by
 induction g with
 | nil=>exact λc=>(Nat.zero_sub _).symm
 | cons x g a=>
  intro c;rw[zbD]
  by_cases h:0<c x
  .rw [if_pos h,a]
   by_cases e:t=x
   .rw [if_pos e,e,zqA];obtain⟨k,b⟩:=Nat.exists_eq_succ_of_ne_zero (zqH h);rw[b];exact(Nat.succ_sub_succ _ _).symm
   .rw [if_neg e,zqv (Ne.symm e)]
  .rw [if_neg h]
   by_cases e:t=x
   .have hz:c x=0:=Nat.eq_zero_of_not_pos h;subst e;rw[zqA,zqA,a,hz];rfl
   .rw [zqv (Ne.symm e),zqv (Ne.symm e),a]
theorem zos {c:Th->Nat}{x t:Th}(e:x≠t):(λu=>if u=x then (if u=t then c u+1 else c u) - 1 else if u=t then c u+1 else c u)=λu=>if u=t then (if u=x then c u - 1 else c u)+1 else if u=x then c u - 1 else c u:=by
 funext u
 by_cases q:u=t
 .rw [if_neg λw=>e (w.symm.trans q),if_pos q,if_pos q,if_neg λw=>e (w.symm.trans q)]
 .rw [if_neg q,if_neg q]
theorem zot {c:Th->Nat}{x:Th}(h:0<c x):(λu=>if u=x then (if u=x then c u - 1 else c u)+1 else if u=x then c u - 1 else c u)=c:=by
 funext u
 by_cases q:u=x
 .rw [if_pos q,if_pos q,q];exact Nat.sub_add_cancel h
 .rw [if_neg q,if_neg q]
theorem zg3 (t:Th) (g:List Th):∀c:Th->Nat,(leftC c g).erase t=leftC (λu=>if u=t then c u+1 else c u) g:=by
 induction g with
 | nil=>exact λ_=>rfl
 | cons x g a=>
  intro c;rw[zbD,zbD]
  by_cases e:x=t
  .rw [if_pos (show 0<(if x=t then c x+1 else c x) by rw[if_pos e];exact Nat.succ_pos _),<-e];have b:(λu=>if u=x then (if u=x then c u+1 else c u) - 1 else if u=x then c u+1 else c u)=c:=by
    funext u
    by_cases q:u=x
    .rw [if_pos q,if_pos q];rfl
    .rw [if_neg q,if_neg q]
   rw[b]
   by_cases h:0<c x
   .rw [if_pos h,e,a,<-e,zot h]
   .rw [if_neg h,List.erase_cons_head]
  .by_cases h:0<c x
   .rw [if_pos h,if_pos (show 0<(if x=t then c x+1 else c x) by rw[if_neg e];exact h),a,zos e]
   .rw [if_neg h,if_neg (show ¬0<(if x=t then c x+1 else c x) by rw[if_neg e];exact h),List.erase_cons_tail (by rw[zpH.mpr e];decide),a]
theorem zio (t:Th) (r:List Th):∀a b:List Th,zco (r++[t]) a b=if t∈(zco r a b).2 then ((zco r a b).1,(zco r a b).2.erase t) else ((zco r a b).1++[t],(zco r a b).2):=by
 induction r with
 | nil=>exact λ_ _=>rfl
 | cons x r c=>
  intro a b;rw[List.cons_append];rw[zbB,zbB]
  by_cases h:x∈a
  .rw [if_pos h,if_pos h];exact c _ _
  .rw [if_neg h,if_neg h];exact c _ _
noncomputable def zd1:List Th->List Th->List Th
 | [],_=>[]
 | t::f,g=>if g.count t<(t::f).count t then t::zd1 f g else zd1 f g
theorem zk6 (f:List Th):∀g:List Th,unoT f g=((zd1 f g).reverse,leftC (λu=>f.count u) g):=by
 induction f with
 | nil=>
  intro g;have:∀g:List Th,leftC (λu=>([]:List Th).count u) g=g:=λg=>by
   induction g with
   | nil=>rfl
   | cons x g a=>rw[leftC,if_neg (by simp),a]
  rw[this];rfl
 | cons t f a=>
  intro g;have a:=a g;unfold unoT at a ⊢;rw[List.reverse_cons,zio,a];have b:t∈leftC (λu=>f.count u) g↔f.count t<g.count t:=by
   rw[<-zqi,zg4];sleep 70
  have c:(λu=>(t::f).count u)=λu=>if u=t then f.count u+1 else f.count u:=by
   funext u
   by_cases q:u=t
   .rw [if_pos q,q,zqA]
   .rw [if_neg q,zqv (Ne.symm q)]
  rw[show zd1 (t::f) g=if g.count t<(t::f).count t then t::zd1 f g else zd1 f g from rfl,zqA,c,<-zg3]
  by_cases h:f.count t<g.count t
  .rw [if_pos (b.mpr h),if_neg (by lia)]
  .rw [if_neg (λq=>h (b.mp q)),if_pos (by sleep 91),List.reverse_cons,List.erase_of_not_mem λq=>h (b.mp q)]
theorem ziG (f:List Th):∀g:List Th,missT f g=zd1 f g:=by
 induction f with
 | nil=>exact λ_=>rfl
 | cons t f b=>
  intro g;rw[show zd1 (t::f) g=if g.count t<(t::f).count t then t::zd1 f g else zd1 f g from rfl,<-b g];unfold missT;rw[zq4,List.range_succ_eq_map,List.filter_cons,List.filter_map];have e:(((List.range f.length).filter (missK (t::f) g ∘ Nat.succ)).map Nat.succ).map (thAt (t::f))=((List.range f.length).filter (missK f g)).map (thAt f):=by
   rw[List.map_map];rfl
  have a:missK (t::f) g 0=decide (g.count t<(t::f).count t):=rfl
  by_cases h:g.count t<(t::f).count t
  .rw [if_pos (by rw[a];exact zqk h),if_pos h,List.map_cons,e];rfl
  .rw [if_neg (by rw[a,zql h];decide),if_neg h,e]
noncomputable def znS (c:Th->Nat) (g:List Th):List Th:=((List.range g.length).filter λk=>decide (c (thAt g k)<(g.take (k+1)).count (thAt g k))).map (thAt g)
theorem zlJ (g:List Th):∀c:Th->Nat,znS c g=leftC c g:=by
 induction g with
 | nil=>exact λ_=>rfl
 | cons x g f=>
  intro c;rw[zbD];unfold znS;rw[zq4,List.range_succ_eq_map,List.filter_cons,List.filter_map];have key:∀c':Th->Nat,(∀k,k<g.length->(c (thAt g k)<(x::g.take (k+1)).count (thAt g k)↔c' (thAt g k)<(g.take (k+1)).count (thAt g k)))->
    (((List.range g.length).filter ((λk=>decide (c (thAt (x::g) k)<((x::g).take (k+1)).count (thAt (x::g) k))) ∘ Nat.succ)).map Nat.succ).map (thAt (x::g))=leftC c' g:=λc' h=>by
   rw[<-f c',List.map_map];unfold znS;have e:(List.range g.length).filter ((λk=>decide (c (thAt (x::g) k)<((x::g).take (k+1)).count (thAt (x::g) k))) ∘ Nat.succ)=(List.range g.length).filter λk=>decide (c' (thAt g k)<(g.take (k+1)).count (thAt g k)):=
    List.filter_congr λk a=>decide_eq_decide.mpr (h k (zqe.mp a))
   rw[e];rfl
  have d:(decide (c (thAt (x::g) 0)<((x::g).take (0+1)).count (thAt (x::g) 0)))=decide (c x<1):=by
   show decide (c x<[x].count x)=_;rw[List.count_singleton_self]
  by_cases h:0<c x
  .rw [if_pos h,if_neg (by rw[d,zql (by lia)];decide)];refine key _ λk a=>?_
   by_cases q:thAt g k=x
   .rw [if_pos q,q,zqA];sleep 66
   .rw [if_neg q,zqv (Ne.symm q)]
  .rw [if_neg h,if_pos (by rw[d];exact zqk (by sleep 91)),List.map_cons];show x::_=_
   rewrite[key c λk a=>?_]
   .rfl
   by_cases q:thAt g k=x
   .rw [q,zqA];have:x∈g.take (k+1):=by
     have b:thAt g k=g[k]:=by simp[thAt,a]
     rw[<-q,b,List.take_succ_eq_append_getElem a];exact zpw _ (zqP.mpr rfl)
    have:=zqi.mpr this;sleep 77
   .rw [zqv (Ne.symm q)]
theorem zhF (f g:List Th):unoT f g=((missT f g).reverse,leftT f g):=by
 rw[zk6,ziG,<-zlJ];rfl
theorem zk5 {f g:List Th}(h:∀t,f.count t=g.count t):unoT f g=([],[]):=by
 rw[zhF];have a:missT f g=[]:=by
  unfold missT
  rewrite[List.filter_eq_nil_iff.mpr λk _=>?_]
  .rfl
  .unfold missK;have:=(List.drop_sublist k f).count_le (thAt f k);rw[h] at this;simpa using this
 have b:leftT f g=[]:=by
  unfold leftT
  rewrite[List.filter_eq_nil_iff.mpr λk _=>?_]
  .rfl
  .unfold leftK;have:=(List.take_sublist (k+1) g).count_le (thAt g k);rw[h];simpa using this
 rw[a,b];rfl
noncomputable def zbW (l:List Th) (i:Nat):List Th:=((List.range i).filter λk=>!(l.take k).contains (thAt l k)).map (thAt l)
noncomputable def hide (S:List Th) (t:Th):Option Th:=if t∈S then none else some t
noncomputable def rowT (f g:List Th) (t:Th):Dif:=(f.count t,g.count t,t)
noncomputable def unlikeB (f g:List Th) (t:Th):Bool:=decide (f.count t≠g.count t)
noncomputable def zc0 (f g:List Th) (i:Nat):List Dif:=((zbW (f++g) i).filter (unlikeB f g)).map (rowT f g)
theorem zcu (l:List Th) (i:Nat):zbW l (i+1)=if thAt l i∈l.take i then zbW l i else zbW l i++[thAt l i]:=by
 unfold zbW;rw[List.range_succ,List.filter_append,zqC]
 by_cases h:thAt l i∈l.take i
 .rw [if_pos h];simp[h]
 .rw [if_neg h];simp[h]
theorem zee (f g:List Th) (i:Nat):zc0 f g (i+1)=if thAt (f++g) i∈(f++g).take i then zc0 f g i else if f.count (thAt (f++g) i)=g.count (thAt (f++g) i) then zc0 f g i else zc0 f g i++[rowT f g (thAt (f++g) i)]:=by
 unfold zc0;rw[zcu]
 by_cases h:thAt (f++g) i∈(f++g).take i
 .rw [if_pos h,if_pos h]
 .rw [if_neg h,if_neg h,List.filter_append,zqC]
  by_cases q:f.count (thAt (f++g) i)=g.count (thAt (f++g) i)
  .rw [if_pos q,List.filter_cons_of_neg (by simp[unlikeB,q])];simp
  .rw [if_neg q,List.filter_cons_of_pos (by simp[unlikeB,q])];rfl
theorem zfW {S:List Th}{t:Th}(h:t∈S):hide (S++[t])=hide S:=by
 funext u
 unfold hide
 by_cases q:u∈S
 .rw [if_pos q,if_pos (zpC _ q)]
 .rw [if_neg q,if_neg λw=>(zpE.mp w).elim q λw=>q (zqP.mp w▸h)]
theorem zdF {S:List Th}{t u:Th}:hide S u=some t↔u=t/\t∉S:=by
 unfold hide
 by_cases q:u∈S
 .rw [if_pos q];exact⟨(λh=>nomatch h),λh=>absurd (h.1▸q) h.2⟩
 .rw [if_neg q];exact⟨λh=>zqr h▸⟨rfl,q⟩,λh=>by rw[h.1]⟩
theorem zbY {S L:List Th}{t:Th}{a:Nat}(b:t∉S) (d:∀j (h:j<L.length),j<a->L[j]∈S):strike (L.map (hide S)) t a (L.map (hide S)).length=L.map (hide (S++[t])):=by
 refine List.ext_getElem (by simp[strike]) λj g f=>?_;have c:j<L.length:=by simpa using f
 simp only [strike,List.getElem_mapIdx,List.getElem_map]
 by_cases q:hide S L[j]=some t
 .have q':=(zdF.mp q).1;have:a<=j:=zqK λw=>b (q'▸d j c w);rw[if_pos ⟨this,by simpa using c,q⟩,q',hide,if_pos (by simp)]
 .rw [if_neg λw=>q w.2.2];have:L[j]≠t:=λe=>q (zdF.mpr ⟨e,b⟩);unfold hide;simp[this]
theorem ziO {S L:List Th}{t:Th}(b:t∉S):(L.map (hide S)).count (some t)=L.count t:=by
 induction L with
 | nil=>rfl
 | cons u L a=>
  rw[List.map_cons]
  by_cases q:u=t
  .subst q;rw[zdF.mpr ⟨rfl,b⟩,zqA,zqA,a]
  .rw [zqv λe=>q (zdF.mp e).1,zqv q,a]
theorem ze0 {S L:List Th}{t:Th}{a:Nat}(b:t∉S) (d:∀j (h:j<L.length),j<a->L[j]∈S):cnt (L.map (hide S)) t a (L.map (hide S)).length=L.count t:=by
 unfold cnt;rw[List.take_length];have e:(L.map (hide S)).count (some t)=((L.map (hide S)).take a).count (some t)+((L.map (hide S)).drop a).count (some t):=by
  rw[<-zqL,List.take_append_drop]
 have z:((L.map (hide S)).take a).count (some t)=0:=zqh.mpr λm=>by
  rw[<-List.map_take] at m;obtain⟨u,mu,c⟩:=zqa.mp m;obtain⟨j,f,rfl⟩:=List.mem_iff_getElem.mp mu;rw[List.length_take] at f;rw[List.getElem_take] at c;have:=d j (by sleep 102) (by sleep 50);exact b ((zdF.mp c).1▸this)
 rw[ziO b] at e;sleep 120
theorem zfr {f g:List Th}{i:Nat}(h:i<(f++g).length):(f++g).take (i+1)=(f++g).take i++[thAt (f++g) i]:=by
 have e:thAt (f++g) i=(f++g)[i]:=by rw[thAt,List.getD_eq_getElem?_getD,zpN h];rfl
 rw[List.take_succ_eq_append_getElem h,e]
theorem zmo (f g:List Th):∀i,i<=f.length->cdAt1 f g i=⟨f.map (hide ((f++g).take i)),g.map (hide ((f++g).take i)),zc0 f g i⟩:=by
 intro i
 induction i with
 | zero=>
  intro _;have:hide ((f++g).take 0)=some:=by funext u;simp[hide]
  rw[this];rfl
 | succ i d=>
  intro h;have a:i<f.length:=h;have e:i<(f++g).length:=by rw[zqq];lia
  have k:thAt (f++g) i=f[i]:=by simp[thAt,List.getElem?_append_left a,a]
  show cdStep1 i (cdAt1 f g i)=_;rw[d (zqE h),zee,zfr e,k];have l:(f++g).take i=f.take i:=List.take_append_of_le_length (by sleep 5);have b:∀j (h:j<f.length),j<i->f[j]∈(f++g).take i:=λj n w=>by
   rw[l];exact List.mem_take_iff_getElem.mpr ⟨j,by sleep 52,rfl⟩
  unfold cdStep1;have c:(f.map (hide ((f++g).take i)))[i]? = some (hide ((f++g).take i) f[i]):=by simp[a]
  by_cases m:f[i]∈(f++g).take i
  .have e1:hide ((f++g).take i) f[i]=none:=by unfold hide;rw[if_pos m]
   rw[c,e1];dsimp only [Option.elim];rw[if_pos m,zfW m]
  .have e1:hide ((f++g).take i) f[i]=some f[i]:=by unfold hide;rw[if_neg m]
   rw[c,e1];dsimp only [Option.elim];rw[if_neg m,zbY m b,zbY m (λj _ w=>absurd w (Nat.not_lt_zero _)),ze0 m b,ze0 m (λj _ w=>absurd w (Nat.not_lt_zero _))]
   rfl
theorem zmn (f g:List Th):∀i,i<=g.length->(cdAt2 f g i).ts=g.map (hide ((f++g).take (f.length+i)))/\(cdAt2 f g i).res=zc0 f g (f.length+i):=by
 intro i
 induction i with
 | zero=>
  intro _;show (cdAt1 f g f.length).ts=_/\(cdAt1 f g f.length).res=_;rw[zmo f g _ (zpB _)];exact⟨rfl,rfl⟩
 | succ i l=>
  intro h;have a:i<g.length:=h;have n:f.length+i<(f++g).length:=by rw[zqq];lia
  have o:thAt (f++g) (f.length+i)=g[i]:=by simp[thAt,List.getElem?_append_right,a]
  obtain⟨b,c⟩:=l (zqE h);show (cdStep2 i (cdAt2 f g i)).ts=_/\(cdStep2 i (cdAt2 f g i)).res=_;rw[<-Nat.add_assoc,zee,zfr n,o];have d:(f++g).take (f.length+i)=f++g.take i:=by rw[List.take_append,List.take_of_length_le (by sleep 14)];simp
  have e:∀j (h:j<g.length),j<i->g[j]∈(f++g).take (f.length+i):=λj r w=>by
   rw[d];exact zpw _ (List.mem_take_iff_getElem.mpr ⟨j,by sleep 52,rfl⟩)
  unfold cdStep2;have k:(g.map (hide ((f++g).take (f.length+i))))[i]? = some (hide ((f++g).take (f.length+i)) g[i]):=by simp[a]
  rw[b]
  by_cases m:g[i]∈(f++g).take (f.length+i)
  .have e1:hide ((f++g).take (f.length+i)) g[i]=none:=by unfold hide;rw[if_pos m]
   rw[k,e1];dsimp only [Option.elim];rw[if_pos m,zfW m];exact⟨b,c⟩
  .have e1:hide ((f++g).take (f.length+i)) g[i]=some g[i]:=by unfold hide;rw[if_neg m]
   have p:f.count g[i]=0:=zqh.mpr λq=>m (by rw[d];exact zpC _ q);have c1:0<g.count g[i]:=zqi.mpr (List.getElem_mem a);rw[k,e1];dsimp only [Option.elim];rw[if_neg m,if_neg (by lia),zbY m e,ze0 m e,c];exact⟨rfl,by rw[rowT,p]⟩
theorem zgk (f g:List Th):cdT f g=zc0 f g (f++g).length:=by
 rw[zqq];exact(zmn f g g.length (zpB _)).2
theorem zlA (l:List Th):(onceY (l.map thD)).flatten=(zbW l l.length).map thD:=by
 have e:onceY (l.map thD)=(List.range l.length).map λk=>if (!(l.take k).contains (thAt l k))=true then [thD (thAt l k)] else []:=by
  unfold onceY;rw[zqn];refine List.map_congr_left λk a=>?_;have a:=zqe.mp a;rw[thD_get a];dsimp only;rw[<-List.map_take,zij];cases (l.take k).contains (thAt l k)<;>rfl
 rw[e,zdJ,zbW,List.map_map];rfl
theorem zjv (f g:List Th):zgC (f.map thD) (g.map thD)=(cdT f g).map rowD:=by
 unfold zgC;rw[<-zqC,zlA,zgk];have e:unlikeY (f.map thD) (g.map thD) ((zbW (f++g) (f++g).length).map thD)=(zbW (f++g) (f++g).length).map λt=>if unlikeB f g t=true then [rowD (rowT f g t)] else []:=by
  unfold unlikeY;rw[List.map_map];refine List.map_congr_left λt _=>?_;show (if (f.map thD).countP (λy=>PyData.eqv y (thD t))=(g.map thD).countP (λy=>PyData.eqv y (thD t)) then [] else _)=_;rw[za7,za7]
  by_cases q:f.count t=g.count t
  .rw [if_pos q,if_neg (by simp[unlikeB,q])]
  .rw [if_neg q,if_pos (by simp[unlikeB,q])];rfl
 rw[e,zdJ,zc0,List.map_map];rfl
theorem zca (l:List Th):∀i,∀t∈zbW l i,t∈l.take i\/l.length<i
 | 0,t,m=>by simp[zbW] at m
 | i+1,t,m=>by
  by_cases a:i<l.length
  .rw [zcu] at m;have e:l.take (i+1)=l.take i++[thAt l i]:=by rw[List.take_succ_eq_append_getElem a];simp[thAt,a]
   rw[e]
   split at m
   .rcases zca l i t m with q|q
    .exact .inl (zpC _ q)
    .omega
   .rcases zpE.mp m with m|m
    .rcases zca l i t m with q|q
     .exact .inl (zpC _ q)
     .omega
    .exact .inl (zpw _ m)
  .exact .inr (by sleep 91)
theorem zfG (l:List Th):∀i,i<=l.length->(zbW l i).Nodup/\∀t,t∈l.take i->t∈zbW l i:=by
 intro i
 induction i with
 | zero=>exact λ_=>⟨.nil,λt m=>nomatch m⟩
 | succ i j=>
  intro h;have c:i<l.length:=h;obtain⟨g,d⟩:=j (zqt c);have e:l.take (i+1)=l.take i++[thAt l i]:=by rw[List.take_succ_eq_append_getElem c];simp[thAt,c]
  rw[zcu,e]
  by_cases m:thAt l i∈l.take i
  .rw [if_pos m];exact⟨g,λt f=>(zpE.mp f).elim (d t) λq=>by rw[zqP.mp q];exact d _ m⟩
  .rw [if_neg m];refine⟨List.nodup_append.mpr ⟨g,by simp,λa k b n q=>?_⟩,λt f=>(List.mem_append.mp f).elim (λq=>List.mem_append_left _ (d t q)) λq=>List.mem_append_right _ q⟩;rw[zqP.mp n] at q;subst q;rcases zca l i _ k with w|w
   .exact m w
   .omega
theorem zks {t u:Th}(h:u≠t) (n:Nat):∀l:List Th,(zbl t n l).count u=l.count u:=by
 induction n with
 | zero=>exact λ_=>rfl
 | succ n a=>exact λl=>(a _).trans (List.count_erase_of_ne h)
theorem zhM {a:List Th}{r:Dif}{u:Th}(h:u≠r.2.2):(zcY a r).count u=a.count u:=by
 unfold zcY zaJ;rw[zks h,List.count_append,List.count_replicate,if_neg (by simpa using Ne.symm h)];rfl
theorem zll (a:List Th) (r:Dif):(zcY a r).count r.2.2=a.count r.2.2+(r.2.1 - r.1) - (r.1 - r.2.1):=by
 unfold zcY zaJ;rw[zcT,zqL,List.count_replicate_self]
theorem zhd (a:List Dif):∀(b:List Th) (u:Th),u∉a.map (·.2.2)->(a.foldl zcY b).count u=b.count u:=by
 induction a with
 | nil=>exact λ_ _ _=>rfl
 | cons r a c=>exact λb u h=>(c _ u λm=>h (.tail _ m)).trans (zhM λe=>h (e▸.head _))
theorem zn2 (a:List Dif):∀(b:List Th),(a.map (·.2.2)).Nodup->∀r∈a,(a.foldl zcY b).count r.2.2=b.count r.2.2+(r.2.1 - r.1) - (r.1 - r.2.1):=by
 induction a with
 | nil=>exact λ_ _ _ m=>nomatch m
 | cons c a f=>
  intro b g r m;obtain⟨d,h⟩:=List.nodup_cons.mp g;refine memK m ?_ λm=>?_
  .exact (zhd a _ _ d).trans (zll _ _)
  .have mm:r.2.2∈a.map (·.2.2):=List.mem_map_of_mem m;rw[List.foldl_cons,f _ h r m,zhM (r:=c) (u:=r.2.2) λe=>d (show c.2.2∈_ from e▸mm)]
theorem zlZ (a:List Dif):∀b:List Th,(a.foldl zcY b).length<=b.length+(a.map λr=>r.2.1).sum:=by
 induction a with
 | nil=>exact λ_=>zpB _
 | cons r a c=>
  intro b;have d:=(zbH r.2.2 (r.1 - r.2.1) (zaJ b r)).length_le;have e:(zcY b r).length<=b.length+r.2.1:=by
   refine zpF d ?_;unfold zaJ;rw[zqq,List.length_replicate];exact zqo (Nat.sub_le _ _) _
  exact zpF (c _) (zpF (zqs e _) (zqF (Nat.add_assoc _ _ _)))
theorem zhs {t:Th}{ts:List Th}(h:ts.Nodup):ts.count t<=1:=List.nodup_iff_count.mp h t
theorem zd9 (x:Th) (g:List Th):∀ts:List Th,(ts.map λt=>(x::g).count t).sum=(ts.map λt=>g.count t).sum+ts.count x
 | []=>rfl
 | t::ts=>by
  rw[List.map_cons,List.sum_cons,List.map_cons,List.sum_cons,zd9 x g ts]
  by_cases q:x=t
  .subst q;rw[zqA,zqA];lia
  .rw [zqv q,zqv (Ne.symm q)];lia
theorem zmG {ts:List Th}(h:ts.Nodup):∀g:List Th,(ts.map λt=>g.count t).sum<=g.length
 | []=>by
  have:(ts.map λt=>([]:List Th).count t)=ts.map λ_=>0:=rfl;rw[this];have z:∀l:List Th,(l.map λ_=>0).sum=0:=λl=>by induction l<;>simp_all
  rw[z];exact zpB _
 | x::g=>by
  rw[zd9,zq4];have:=zmG h g;have:=zhs (t:=x) h;lia
section
variable {f g:List Th}
theorem zc5 {r:Dif}(h:r∈cdT f g):r=rowT f g r.2.2/\r.2.2∈f++g:=by
 rw[zgk] at h;obtain⟨t,a,rfl⟩:=zqa.mp h;have m:=(zqg.mp a).1;refine⟨rfl,?_⟩;rcases zca _ _ t m with q|q
 .exact List.mem_of_mem_take q
 .exact absurd q (zpZ _)
theorem zdq:(cdT f g).map (·.2.2)=(zbW (f++g) (f++g).length).filter (unlikeB f g):=by
 rw[zgk,zc0,List.map_map];exact List.map_id _
theorem zct:((cdT f g).map (·.2.2)).Nodup:=by
 rw[zdq];exact((zfG (f++g) _ (zpB _)).1).filter _
theorem zlu:(cdT f g).length<=f.length+g.length:=by
 rw[zgk,zc0,zqn];refine zpF (List.length_filter_le _ _) ?_;unfold zbW;rw[zqn];refine zpF (List.length_filter_le _ _) ?_;rw[List.length_range,zqq];exact zpB _
theorem zcI (u:Th):(doneT f (cdT f g)).count u=g.count u:=by
 by_cases h:u∈(cdT f g).map (·.2.2)
 .obtain⟨r,mr,rfl⟩:=zqa.mp h;have e:=(zc5 mr).1;unfold doneT;rw[zn2 _ _ zct r mr];have a:r.1=f.count r.2.2:=congrArg (·.1) e;have b:r.2.1=g.count r.2.2:=congrArg (·.2.1) e;rw[a,b];sleep 65
 .unfold doneT;rw[zhd _ _ _ h];rw[zdq,zqg,not_and] at h
  by_cases m:u∈f++g
  .have:=h ((zfG (f++g) _ (zpB _)).2 u (by rw[List.take_length];exact m));simpa [unlikeB] using this
  .rw [zpE,not_or] at m;rw[zqh.mpr m.1,zqh.mpr m.2]
theorem zfa (i:Nat):(doneAt f (cdT f g) i).length<=f.length+g.length:=by
 unfold doneAt;refine zpF (zlZ _ _) (zqo ?_ _);have e:((cdT f g).take i).map (λr=>r.2.1)=(((cdT f g).take i).map (·.2.2)).map λt=>g.count t:=by
  rw[List.map_map];refine List.map_congr_left λr m=>?_;have:=(zc5 (List.mem_of_mem_take m)).1;exact congrArg (·.2.1) this
 rw[e];refine zmG ?_ g;rw[List.map_take];exact zct.sublist (List.take_sublist _ _)
theorem zoa {i:Nat}{r:Dif}(h:(cdT f g)[i]? = some r):r.1 - r.2.1<=(zaJ (doneAt f (cdT f g) i) r).count r.2.2:=by
 have b:=zqd h;have e:r.1=f.count r.2.2:=congrArg (·.1) (zc5 b).1;have c:i<(cdT f g).length:=(zpJ.mp h).1;have d:r.2.2∉((cdT f g).take i).map (·.2.2):=λm=>by
  have a:=zct (f:=f) (g:=g);rw[<-List.take_append_drop i (cdT f g),zqC,List.nodup_append] at a;refine a.2.2 _ m r.2.2 ?_ rfl;refine List.mem_map_of_mem (f:=λq:Dif=>q.2.2) ?_;rw[zp7 c,(zpJ.mp h).2];exact zpP
 unfold zaJ doneAt;rw[zqL,zhd _ _ _ d];sleep 74
theorem zh7:doneAt f (cdT f g) (cdT f g).length=doneT f (cdT f g):=by
 unfold doneAt doneT;rw[List.take_length]
theorem zom {m:List Th}(h:∀t,m.count t=g.count t):cdT m g=[]:=by
 rw[zgk,zc0,List.filter_eq_nil_iff.mpr λt _=>by simp[unlikeB,h]];rfl
end
theorem zeD {a:List Str}(h:∀w∈a,w∈allW):∃b,zal a b:=by
 induction a with
 | nil=>exact⟨[],.nil⟩
 | cons w a c=>exact(zik w (h w zpP)).elim λq d=>(c λx m=>h x (zpx w m)).elim λb e=>⟨q::b,.cons d e⟩
theorem zjs:∀(a:Fin 4) (b:Fin 5),allW.contains (zaZ (a.val:Int) (b.val:Int))=true/\allW.contains (zcM (a.val:Int) (b.val:Int))=true:=by decide +kernel
theorem zjr:∀(a:Fin 4) (b:Fin 2),allW.contains (zaY (a.val:Int) (b.val:Int))=true/\allW.contains (thingB (a.val:Int) (b.val:Int))=true:=by decide +kernel
theorem zna:∀i:Fin 33,allW.contains (strI ((i.val:Int) - 16))=true:=by decide +kernel
theorem zdL {m:Nat}{k:Int}(h:0<=k/\k<m):∃i:Fin m,(i.val:Int)=k:=by
 obtain⟨n,rfl⟩:=Int.eq_ofNat_of_zero_le h.1;exact⟨⟨n,Int.ofNat_lt.mp h.2⟩,rfl⟩
theorem za1 {w:Str}(h:allW.contains w=true):w∈allW:=List.contains_iff_mem.mp h
theorem zjU (x:Int):∀w∈repS x,w∈allW:=by
 obtain⟨a,d⟩:=zdL (m:=4) (fmod4 (x.fdiv 30));obtain⟨b,e⟩:=zdL (m:=5) (fmod5 x);obtain⟨c,f⟩:=zdL (m:=2) (fmod2 (x.fdiv 5));intro w m;unfold repS at m;rw[<-d,<-e,<-f] at m;refine memK m ?_ λm=>?_
 .exact za1 (zjs a b).1
 .rw [zqP.mp m];exact za1 (zjr a c).1
theorem zgH (x:Int):(thT x).1∈allW/\(thT x).2∈allW:=by
 obtain⟨a,d⟩:=zdL (m:=4) (fmod4 (x.fdiv 30));obtain⟨b,e⟩:=zdL (m:=5) (fmod5 x);obtain⟨c,f⟩:=zdL (m:=2) (fmod2 (x.fdiv 5));unfold thT;rw[<-d,<-e,<-f];exact⟨za1 (zjs a b).2,za1 (zjr a c).2⟩
theorem zkg {i:Int}(b : -16<=i) (c:i<=16):strI i∈allW:=by
 obtain⟨a,d⟩:=zdL (m:=33) (k:=i+16) ⟨Int.add_le_add_right b 16,Int.lt_of_le_of_lt (Int.add_le_add_right c 16) (by ext)⟩;have:=zna a;rw[d,Int.add_sub_cancel] at this;exact za1 this
theorem zda {w:Str}(h:w∈allW):good (.str w)=true:=(zik w h).elim λ_ h=>h.good
theorem zd8 {t:Th}(a:t.1∈allW) (b:t.2∈allW):good (thD t)=true:=
 zcf (zbE (zcx (k:=0) ⟨(zl.mp (zda a)).1,zpB _⟩ ⟨(zl.mp (zda b)).1,zpB _⟩)) (by ext)
section
variable {a b:List Int}
theorem zcs (a:List Int):∀w∈repW a,w∈allW:=λw m=>by
 obtain⟨x,_,b⟩:=zqm.mp m;exact zjU x w b
theorem zbc (a:List Int):∀t∈a.map thT,t.1∈allW/\t.2∈allW:=λt m=>by
 obtain⟨x,_,rfl⟩:=zqa.mp m;exact zgH x
theorem zdo (a:List Int):∀t∈a.map thT,good (thD t)=true:=λt m=>zd8 (zbc a t m).1 (zbc a t m).2
theorem zfy (f:a.length<=16) (g:b.length<=16):∀r∈cdT (a.map thT) (b.map thT),r.1<=16/\r.2.1<=16/\r.2.2.1∈allW/\r.2.2.2∈allW:=λr m=>by
 obtain⟨c,h⟩:=zc5 m;have i:r.1=(a.map thT).count r.2.2:=congrArg (·.1) c;have j:r.2.1=(b.map thT).count r.2.2:=congrArg (·.2.1) c;have d:=List.count_le_length (a:=r.2.2) (l:=a.map thT);have e:=List.count_le_length (a:=r.2.2) (l:=b.map thT);rw[zqn] at d e;rw[i,j];refine⟨zpF d f,zpF e g,?_⟩;exact(zpE.mp h).elim (zbc a _) (zbc b _)
theorem zbV (d:a.length<=16) (e:b.length<=16):∀w∈ordW (cdT (a.map thT) (b.map thT)),w∈allW:=λw m=>by
 obtain⟨r,f,c⟩:=zqm.mp m;obtain⟨i,j,g,h⟩:=zfy d e r f;unfold trip at c;refine memK c ?_ λc=>?_
 .exact g
 refine memK c ?_ λc=>?_
 .exact h
 rw[zqP.mp c];exact zkg (by lia) (by lia)
theorem zj7 (a b:List Int):∀t∈doneT (a.map thT) (cdT (a.map thT) (b.map thT)),good (thD t)=true:=λt m=>by
 have:=zqi.mpr m;rw[zcI] at this;exact zdo b t (zqi.mp this)
theorem zhR (c:a.length<=16) (d:b.length<=16):zpg a b (cdT (a.map thT) (b.map thT)) (doneT (a.map thT) (cdT (a.map thT) (b.map thT))) where
 la:=c
 lb:=d
 lr:=by have:=zlu (f:=a.map thT) (g:=b.map thT);rw[zqn,zqn] at this;exact zpF this (zqM c d)
 lm:=by have:=zfa (f:=a.map thT) (g:=b.map thT) (cdT (a.map thT) (b.map thT)).length;rw[zh7,zqn,zqn] at this;exact zpF this (zpF (zqM c d) (by ext))
 ga:=zdo a
 gb:=zdo b
 gr:=λr m=>have h:=zfy c d r m;⟨zd8 h.2.2.1 h.2.2.2,zpF h.1 (by ext),zpF h.2.1 (by ext)⟩
 gw:=λw m=>zda (zbV c d w m)
 gm:=zj7 a b
end
theorem zc4 (k:Int) (xs:List Int):(zix k (zbx xs)).length<=16:=zpF (List.length_filter_le _ _) (zci xs)
theorem zhS (k:Int) (b:k=0\/k=1) (xs:List Int):0<(zix k (zbx xs)).length:=by
 refine List.length_pos_of_mem (a:=if k=0 then 1 else 10) (zqg.mpr ⟨zpw _ ?_,?_⟩)
 .rcases b with rfl|rfl<;>decide
 .rcases b with rfl|rfl<;>decide
section
variable {x:Str}{C:Addr}{B newId initId:String}{bm:List Value}{mg:Str->Option Value}
theorem zeg (O:OwnClsQ x C bm newId mg X.kk) (e:ExcBaseFacts B newId initId bm):zgw X (.ref C):=λA env y p g pos args s Q E k l h=>by
 obtain⟨m,N,nm,q,bs,hdct,sn,sub,ab,col,dd,k0,k1,k2,k3,k5,mN,n,o,d,T⟩:=O.own.obj;refine wpAny_Raise_call_subT (C:=C) (nm:=nm) (q:=q) (N:=N) (bs:=bs) (bm:=m) (hdct:=hdct) (sn:=sn) (sub:=sub) (ab:=ab) (col:=col) (dd:=dd) (k0:=k0) (k1:=k1) (k2:=k2) (k3:=k3) (k5:=k5)
  e (mN:=mN) (T.hasType e.hasBase) k (zak l) d (zp9 h (λf i c=>⟨c.1,zp9 c.2 (λa j b=>?_) λ_ _ y=>y⟩) λ_ _ y=>y)
 exact⟨b.1,b.2.1,b.2.2.1 _ _ n,o.keeps b.2.2.1,T.keeps b.2.2.1,b.2.2.2⟩
theorem zmK (O:OwnClsQ x C bm newId mg X.kk) (a:ExcBaseFacts B newId initId bm):Mt X (.ref C) (.ref C) true:=λA s e o Q E st b c d=>by
 obtain⟨h,N,nm,q,bs,hdct,sn,sub,ab,col,dd,k0,k1,k2,k3,k5,mN,f,i,g,T⟩:=O.own.obj;exact wpAny_excMatches_sub_self (st _ _ f) b c (T.hasType a.hasBase) d
theorem zD.more {n m:Nat}{f:Str}{ds:List PyData}{d:PyData}(h:zD X n f ds d) (a:n<=m):zD X m f ds d:=λA mu R b=>h A mu (R.less a) b
theorem zad (O:X.Ok){n:Nat}{f:Str}{fa:Addr}{ds:List PyData}{d:PyData}{ps:List Str}{body:List Stmt}(T:Top1 X f (.ref fa)) (F:FnAt X fa ps body sc) (a:ds.length=ps.length)
  (b:∀A:Around,A.handled=none->zP X A n sc ps ds body (.ret d)):zD X (n+1) f ds d:=λA mu R c=>by
 obtain⟨o,fd,e,g,_⟩:=F.ex;exact⟨_,T,.fn e g,zi8 O R F a (b A c)⟩
end
noncomputable def dV:Data->Option FuncData×Option ClassData×Option (Array Value)
 | .func f=>(some f,none,none)
 | .cls c=>(none,some c,none)
 | .fields v=>(none,none,some v)
 | _=>(none,none,none)
theorem zod {d:Data}{f:FuncData}(h:(dV d).1=some f):d=.func f:=by
 cases d with
 | func g=>exact zr h rfl
 | _=>exact zg h
theorem zoZ {d:Data}{f:ClassData}(h:(dV d).2.1=some f):d=.cls f:=by
 cases d with
 | cls g=>exact zr h rfl
 | _=>exact zg h
theorem zkA {d:Data}{f:Array Value}(h:(dV d).2.2=some f):d=.fields f:=by
 cases d with
 | fields g=>exact zr h rfl
 | _=>exact zg h
noncomputable def fdO (K:Frag) (a:Addr):Option FuncData:=(K.lookup a).bind λo=>(dV o.data).1
noncomputable def fdOf (K:Frag) (a:Addr):FuncData:=(fdO K a).getD default
noncomputable def fnOk (K:Frag) (a:Addr):Bool:=(fdO K a).any λfd=>codeIn K fd.code fd.qualname&&Nat.beq fd.globals mainGlobals&&Nat.beq fd.builtins builtinsNs&&fd.closure.isEmpty
theorem zbL {a:Type}{o:Option a}{p:a->Bool}(h:o.any p=true):∃x,o=some x/\p x=true:=by
 cases o with
 | none=>cases h
 | some x=>exact⟨x,rfl,h⟩
noncomputable def zoA:Value->Bool
 | .type t=>t=="type"
 | _=>false
theorem ziq {v:Value}(h:zoA v=true):v=.type "type":=by
 cases v with
 | type t=>exact congrArg _ (eq_of_beq h)
 | _=>exact absurd h Bool.false_ne_true
noncomputable def clsB (K:Frag) (C:Addr) (q:ClassData->Bool):Bool:=(K.lookup C).any λo=>zoA o.cls&&(dV o.data).2.1.any q
theorem zcj {K:Frag}{C:Addr}{q:ClassData->Bool}(h:clsB K C q=true):∃b a sl,K.lookup C=some ⟨.type "type",b,.cls a,sl⟩/\q a=true:=
 (zbL h).elim λo h=>(zbL (zqc.mp h.2).2).elim λa g=>⟨o.dict,a,o.slots,by rw[<-ziq (zqc.mp h.2).1,<-zoZ g.1];exact h.1,g.2⟩
noncomputable def zoT (o:Option (List Value)) (f:Addr):Bool:=match o with
 | some (.ref a::_)=>Nat.beq a f
 | _=>false
theorem zcC {o:Option (List Value)}{f:Addr}(h:zoT o f=true):∃b,o=some (.ref f::b):=by
 cases o with
 | none=>exact absurd h Bool.false_ne_true
 | some l=>cases l with
  | nil=>exact absurd h Bool.false_ne_true
  | cons v l=>cases v with
   | ref a=>exact⟨l,by rw[Nat.eq_of_beq_eq_true h]⟩
   | _=>exact absurd h Bool.false_ne_true
noncomputable def zmO (K:Frag) (a:Addr):Option (Array Value):=(K.lookup a).bind λo=>(dV o.data).2.2
noncomputable def fieldK (K:Frag) (a:Addr) (i:Nat):Value:=((zmO K a).getD #[]).getD i .none
theorem zfo {names:List Str}{f:Str->Option (Option Value)}(h:(names.all λx=>f x==some none)=true):∀x∈names,f x=some none:=λx m=>by simpa using List.all_eq_true.mp h x m
noncomputable def nameTab:List (Str×Addr):=("error_reply",67)::("error_proto",79)::("parse229",88)::("parse257",95)::("_index",114)::("BytesIO",401)::("StringIO",648)::("shlex",783)::("split",795)::("join_shlex",802)::("_find_unsafe",803)::("quote",810) ::
 ("sorted_list_difference",860)::("unorderable_list_difference",867)::("_Mismatch",938)::("_count_diff_all_purpose",948)::("_law_name",955)::("_law_replies",962)::("_law_thing",969)::("_law_read",974)::("_law_unlike",979)::("_law_done",986)::("_law_lacking",993)::("_law_told",998)::("law",1003)::[]
noncomputable def zhc:List Str:="len"::"str"::"list"::"int"::"range"::"max"::"sorted"::"enumerate"::"tuple"::"IndexError"::"ValueError"::"object"::"type"::"StopIteration"::"isinstance"::[]
noncomputable def fnTab:List (Addr×Stmt):=[(88,stm 7),(95,stm 8),(114,stm 12),(795,stm 29),(802,stm 30),(810,stm 33),(860,stm 36),(867,stm 37),(948,stm 40),(955,stm 42),(962,stm 43),(969,stm 44),(974,stm 45),(979,stm 46),(986,stm 47),(993,stm 48),(998,stm 49),(1003,stm 50),
 (885,zo 38 "__new__"),(141,zo 14 "__new__"),(432,zo 18 "__check"),(594,zo 18 "read"),(425,zo 18 "__translated"),(418,zo 18 "__init__"),(707,zo 28 "__init__"),(714,zo 28 "punctuation_chars"),(744,zo 28 "get_token"),(751,zo 28 "read_token"),(773,zo 28 "__iter__"),(780,zo 28 "__next__")]
noncomputable def bind1T:List (Addr×Stmt):=[(95,stm 8),(810,stm 33),(955,stm 42),(962,stm 43),(969,stm 44),(974,stm 45),(1003,stm 50),(802,stm 30),(432,zo 18 "__check"),(714,zo 28 "punctuation_chars"),(744,zo 28 "get_token"),(751,zo 28 "read_token"),(773,zo 28 "__iter__"),(780,zo 28 "__next__")]
noncomputable def bind2T:List (Addr×Stmt):=[(88,stm 7),(114,stm 12),(860,stm 36),(867,stm 37),(948,stm 40),(979,stm 46),(986,stm 47),(993,stm 48),(998,stm 49),(425,zo 18 "__translated")]
noncomputable def methTab:List (Addr×Str×Addr):=[(648,"_StringIO__check",432),(648,"read",594),(648,"_StringIO__translated",425),(648,"__init__",418),(783,"__init__",707),(783,"get_token",744),(783,"read_token",751),(783,"__iter__",773),(783,"__next__",780)]
structure zpi (K:Frag):Prop where
 names:nameTab.map (λp=>nsIn K mainGlobals p.1)=nameTab.map λp=>some (some (.ref p.2))
 deque:nsIn K mainGlobals "deque"=some (some (.type "collections.deque"))
 frees:zhc.map (nsIn K mainGlobals)=zhc.map λ_=>some none
 fns:fnTab.map (λp=>(fnOk K p.1,(fdOf K p.1).body,(fdOf K p.1).scope))=fnTab.map λp=>(true,.stmts (zG p.2),zd p.2)
 bind1:∀v:Value,bind1T.map (λp=>bindArgs (fdOf K p.1) ⟨[v],[]⟩)=bind1T.map λp=>pure ((zA p.2).zip [v])
 bind2:∀u v:Value,bind2T.map (λp=>bindArgs (fdOf K p.1) ⟨[u,v],[]⟩)=bind2T.map λp=>pure ((zA p.2).zip [u,v])
 bind4:∀a b c d:Value,bindArgs (fdOf K 885) ⟨[a,b,c,d],[]⟩=pure ((zA (zo 38 "__new__")).zip [a,b,c,d])
 bindN:∀v:Value,bindArgs (fdOf K 141) ⟨[.ref 648,v],[]⟩=(do let t <-newTuple [v];let d <-alloc {cls:=.type "dict",data:=.dict #[]};pure [("cls",.ref 648),("args",t),("kwargs",.ref d)])
 bindI:∀a b:Value,PK K (bindArgs (fdOf K 418) ⟨[a,b],[]⟩) [("self",a),("initial_value",b),("newline",.str "\n" 836)]
 bindL:∀a b c:Value,PK K (bindArgs (fdOf K 707) ⟨[a,b],[("posix",c)]⟩) [("self",a),("instream",b),("infile",.none),("posix",c),("punctuation_chars",.bool false)]
 bindS:∀v:Value,PK K (bindArgs (fdOf K 795) ⟨[v],[]⟩) [("s",v),("comments",.bool false),("posix",.bool true)]
 meths:methTab.map (λp=>(findIn K (.ref p.1) p.2.1,typeIn K (.ref p.2.2)))=methTab.map λp=>(some (some (.ref p.2.2)),some (.type "function"))
 lex:zF K 783 lexN
 star:zF K 783 lexR
 sio:zF K 648 sioN
 walk:zcV K 938
 rep:zjn K 67
 find:K.lookup 803=some {cls:=.type "builtin_function_or_method",data:=.fields #[.builtin "re.Pattern.search",.ref 100]}/\K.lookup 100=some {cls:=.type "re.Pattern",data:=.fields #[fieldK K 100 0,fieldK K 100 1,.int 0 0,fieldK K 100 3,fieldK K 100 4,.ref 99,.int 0 0]}/\K.lookup 99=some {cls:=.type "tuple",data:=.seq (findCode.map λi=>.int (i:Nat) 0) 0,slots:=#[]}
 kind:zeE K 938
 newM:zgx K 938 885 939
 newS:zgx K 648 141 145
 raw:zkY K 648
 bio:(K.lookup 401).isSome=true
 makes:makesIn K 783=true
 keep:keepIn K (.ref 783)=true
 noLen:findIn K (.ref 783) "__len__"=some none
 noHint:findIn K (.ref 783) "__length_hint__"=some none
 prop:findIn K (.ref 783) "punctuation_chars"=some (some (.ref 715))/\specialIn K (.ref 715) "__get__"=some (some (.builtin "property.__get__"))/\takesIn K (.ref 715)=some true/\zoT (recIn K 715 "property") 714=true
 joinC:(fdOf K 802).code=.ref 801
 joinK:(K.lookup 801).map (·.cls)=some (.type "code")
 joinF:fieldK K 801 11=.ref 797/\fieldK K 801 18=.str "/claim/cut.py" 1330/\fieldK K 801 7=.int 3 0/\fieldK K 801 9=.bool true/\fieldK K 801 10=.int 318 0
 bindR:∀u v:Value,PK K (bindArgs (fdOf K 594) ⟨[u,v],[]⟩) ((zA (zo 18 "read")).zip [u,v])
theorem ziS {K:Frag}{a i:Nat}(h:fieldK K a i≠.none):∃o vs,K.lookup a=some o/\o.data=.fields vs/\∀i,fieldK K a i=vs.getD i .none:=by
 cases e:zmO K a with
 | none=>exact absurd (by unfold fieldK;rw[e];rfl) h
 | some vs=>exact zi e λo b c=>⟨o,vs,b,zkA c,λi=>by unfold fieldK;rw[e];rfl⟩
structure WorldOk (X:Wd) (K:Frag):Prop where
 ok:X.Ok
 gk:zpi K
 in_:K.In X.kk
 tb:X.tb=797
 r67:zgw X (.ref 67)
 r79:zgw X (.ref 79)
 m67:Mt X (.ref 67) (.ref 67) true
 m79:Mt X (.ref 79) (.ref 79) true
 bm:∃bm,X.mg "__builtins__"=some (.ref bm)/\bm≠builtinsNs/\∃ob,X.kk.get? bm=some ob/\ob.cls=.type "module"/\ob.dict=some builtinsNs/\ob.data=.plain
section
variable {K:Frag}
theorem len1 {b:Type}{l:List b}(h:l.length=1):∃a,l=[a]:=by
 cases l with
 | nil=>cases h
 | cons a l=>exact⟨a,by rw[List.eq_nil_of_length_eq_zero (Nat.succ.inj h)]⟩
theorem len2 {c:Type}{l:List c}(h:l.length=2):∃a b,l=[a,b]:=by
 cases l with
 | nil=>cases h
 | cons a l=>exact(len1 (Nat.succ.inj h)).elim λb e=>⟨a,b,e▸rfl⟩
theorem len4 {f:Type}{l:List f}(h:l.length=4):∃a b c d,l=[a,b,c,d]:=by
 cases l with
 | nil=>cases h
 | cons a l=>cases l with
  | nil=>cases Nat.succ.inj h
  | cons b l=>exact(len2 (Nat.succ.inj (Nat.succ.inj h))).elim λc e=>e.elim λd e=>⟨a,b,c,d,e▸rfl⟩
theorem zaD {a b:Type}{l:List a}{f g:a->b}(h:l.map f=l.map g){i:Nat}{x:a}(e:l[i]? = some x):f x=g x:=List.map_inj_left.mp h x (zqd e)
theorem WorldOk.top (W:WorldOk X K) (i:Nat){x:Str}{a:Addr}(h:nameTab[i]? = some (x,a)):Top1 X x (.ref a):=.glob (mg_of W.in_ W.ok.g (zaD W.gk.names h))
theorem WorldOk.blt (W:WorldOk X K) (i:Nat){x:Str}{v:Value}(h:zhc[i]? = some x) (a:(x==("__name__":Str))=false) (b:bootBuiltins x=some v):Top1 X x v:=.blt (mg_none_of W.in_ W.ok.g (zaD W.gk.frees h)) ((W.ok.bi x (by simpa using a)).trans b)
theorem zoV (d:K.In X.kk){a:Addr}{body:List Stmt}(h:fnOk K a=true) (b:(fdOf K a).body=.stmts body) (c:(fdOf K a).scope=sc) (f:sc.kind=.function) (g:sc.isCoroutine=false) (i:sc.isGenerator=false):FnB X K a (fdOf K a) body sc:=by
 obtain⟨fd,e,h⟩:=zbL h;have j:fdOf K a=fd:=by unfold fdOf;rw[e];rfl
 rw[j] at b c ⊢;have p:=zqc.mp h;have p1:=zqc.mp p.1;have p2:=zqc.mp p1.1;exact zi e λo k hd=>⟨⟨o,k,zod hd⟩,codeRec_of d p2.1,b,c,Nat.eq_of_beq_eq_true p2.2,Nat.eq_of_beq_eq_true p1.2,List.isEmpty_iff.mp p.2,f,g,i⟩
theorem WorldOk.fnB (W:WorldOk X K) (i:Nat){a:Addr}{st:Stmt}(h:fnTab[i]? = some (a,st)) (b:(zd st).kind=.function) (c:(zd st).isCoroutine=false) (d:(zd st).isGenerator=false):FnB X K a (fdOf K a) (zG st) (zd st):=by
 have e:=zaD W.gk.fns h;exact zoV W.in_ (congrArg (·.1) e) (congrArg (·.2.1) e) (congrArg (·.2.2) e) b c d
noncomputable def zeh (st:Stmt):Bool:=(zA st).all (λx=>(zd st).names.lookup x==some .local||(zd st).names.lookup x==some .cell)&&decide (zA st).Nodup
theorem zbr {st:Stmt}(h:zeh st=true):∀x∈zA st,(zd st).names.lookup x=some .local\/(zd st).names.lookup x=some .cell:=λx m=>by
 have:=zqb.mp (zqc.mp h).1 x m;simpa using this
theorem zds {st:Stmt}(h:zeh st=true):(zA st).Nodup:=zqj (zqc.mp h).2
theorem zhe (c:K.In X.kk){a:Addr}{fd:FuncData}{st:Stmt}(F:FnB X K a fd (zG st) (zd st)) (b:zeh st=true)
  (d:∀vs:List Value,vs.length=(zA st).length->bindArgs fd ⟨vs,[]⟩=pure ((zA st).zip vs)):FnAt X a (zA st) (zG st) (zd st):=by
 obtain⟨o,e,f⟩:=F.at_;exact⟨⟨o,fd,c _ _ e,f,F.code,F.body,F.scope,F.globals,F.builtins,F.closure,d⟩,F.kind,F.co,F.gen,zbr b,zds b⟩
theorem WorldOk.at1 (W:WorldOk X K) (i j:Nat){a:Addr}{st:Stmt}(h:fnTab[i]? = some (a,st)) (h':bind1T[j]? = some (a,st)) (c:(zA st).length=1) (d:zeh st=true) (e:(zd st).kind=.function) (f:(zd st).isCoroutine=false) (g:(zd st).isGenerator=false):FnAt X a (zA st) (zG st) (zd st):=
 zhe W.in_ (W.fnB i h e f g) d λvs b=>by
  rw[c] at b;obtain⟨v,rfl⟩:=len1 b;exact zaD (W.gk.bind1 v) h'
theorem WorldOk.at2 (W:WorldOk X K) (i j:Nat){a:Addr}{st:Stmt}(h:fnTab[i]? = some (a,st)) (h':bind2T[j]? = some (a,st)) (c:(zA st).length=2) (d:zeh st=true) (e:(zd st).kind=.function) (f:(zd st).isCoroutine=false) (g:(zd st).isGenerator=false):FnAt X a (zA st) (zG st) (zd st):=
 zhe W.in_ (W.fnB i h e f g) d λvs b=>by
  rw[c] at b;obtain⟨u,v,rfl⟩:=len2 b;exact zaD (W.gk.bind2 u v) h'
theorem WorldOk.meth (W:WorldOk X K) (i j:Nat){C a:Addr}{m:Str}{st:Stmt}(h:fnTab[i]? = some (a,st)) (h':methTab[j]? = some (C,m,a)) (b:zeh st=true) (c:(zd st).kind=.function) (d:(zd st).isCoroutine=false) (f:(zd st).isGenerator=false):zcn X K C m a (fdOf K a) (zA st) (zG st) (zd st):=by
 have e:=zaD W.gk.meths h';exact⟨congrArg (·.1) e,congrArg (·.2) e,W.fnB i h c d f,zbr b,zds b⟩
theorem zjY {a:Type}{t:Sem a}{r:a}(h:t=pure r):PK K t r:=λS=>by rw[h];rfl
theorem WorldOk.pk1 (W:WorldOk X K) (j:Nat){a:Addr}{st:Stmt}(h':bind1T[j]? = some (a,st)):∀us:List Value,us.length=1->PK K (bindArgs (fdOf K a) ⟨us,[]⟩) ((zA st).zip us):=λus b=>by
 obtain⟨v,rfl⟩:=len1 b;exact zjY (zaD (W.gk.bind1 v) h')
theorem WorldOk.pk2 (W:WorldOk X K) (j:Nat){a:Addr}{st:Stmt}(h':bind2T[j]? = some (a,st)):∀us:List Value,us.length=2->PK K (bindArgs (fdOf K a) ⟨us,[]⟩) ((zA st).zip us):=λus b=>by
 obtain⟨u,v,rfl⟩:=len2 b;exact zjY (zaD (W.gk.bind2 u v) h')
theorem WorldOk.blts (W:WorldOk X K):Blt2 X where
 len:=W.blt 0 ⋯ ∅ ∅
 str:=W.blt 1 ⋯ ∅ ∅
 list:=W.blt 2 ⋯ ∅ ∅
 int:=W.blt 3 ⋯ ∅ ∅
 range:=W.blt 4 ⋯ ∅ ∅
 max:=W.blt 5 ⋯ ∅ ∅
 sorted:=W.blt 6 ⋯ ∅ ∅
 enumerate:=W.blt 7 ⋯ ∅ ∅
 tuple:=W.blt 8 ⋯ ∅ ∅
theorem WorldOk.sio (W:WorldOk X K):zgv X K 648 141 145 401 425 418 (fdOf K 141) (fdOf K 425) (fdOf K 418) 836 where
 inst:=W.gk.sio
 new:=W.gk.newS
 newF:=W.fnB 19 ⋯ ∅ ∅ ∅
 raw:=W.gk.raw
 obj:=W.blt 11 ⋯ ∅ ∅
 top:=W.top 6 ⋯
 bio:=W.top 5 ⋯
 ne:=by decide
 bioK:=zp6.mp W.gk.bio
 newB:=W.gk.bindN
 type:=W.blt 12 ⋯ ∅ ∅
 tr:=W.meth 22 2 ⋯ ⋯ (by decide +kernel) ∅ ∅ ∅
 trB:=W.pk2 9 ⋯
 ini:=W.meth 23 3 ⋯ ⋯ (by decide +kernel) ∅ ∅ ∅
 iniB:=W.gk.bindI
theorem WorldOk.lexNew (W:WorldOk X K):zim X K 783 648 141 145 401 425 418 707 (fdOf K 141) (fdOf K 425) (fdOf K 418) (fdOf K 707) 836 where
 lex:=W.gk.lex
 makes:=W.gk.makes
 keep:=W.gk.keep
 ini:=W.meth 24 4 ⋯ ⋯ (by decide +kernel) ∅ ∅ ∅
 iniB:=W.gk.bindL
 top:=W.top 7 ⋯
 sio:=W.sio
 deque:=.glob (mg_of W.in_ W.ok.g W.gk.deque)
 isi:=W.blt 14 ⋯ ∅ ∅
theorem WorldOk.lexIt (W:WorldOk X K):zgy X K 783 648 114 432 594 715 714 751 744 780 773 (fdOf K 432) (fdOf K 594) (fdOf K 714) (fdOf K 751) (fdOf K 744) (fdOf K 780) (fdOf K 773) where
 lex:=W.gk.lex
 star:=W.gk.star
 sio:=W.gk.sio
 prop:=⟨W.gk.prop.1,W.gk.prop.2.1,W.gk.prop.2.2.1,zcC W.gk.prop.2.2.2,W.fnB 25 ⋯ ∅ ∅ ∅,λv=>W.pk1 9 ⋯ [v] rfl⟩
 index:=W.at2 2 1 ⋯ ⋯ ∅ (by decide +kernel) ∅ ∅ ∅
 indexT:=W.top 4 ⋯
 type:=W.blt 12 ⋯ ∅ ∅
 check:=W.meth 20 0 ⋯ ⋯ (by decide +kernel) ∅ ∅ ∅
 checkB:=W.pk1 8 ⋯
 read:=W.meth 21 1 ⋯ ⋯ (by decide +kernel) ∅ ∅ ∅
 readB:=λus a=>by
  obtain⟨u,v,rfl⟩:=len2 a;exact W.gk.bindR u v
 rt:=W.meth 27 6 ⋯ ⋯ (by decide +kernel) ∅ ∅ ∅
 rtB:=W.pk1 11 ⋯
 gt:=W.meth 26 5 ⋯ ⋯ (by decide +kernel) ∅ ∅ ∅
 gtB:=W.pk1 10 ⋯
 nx:=W.meth 29 8 ⋯ ⋯ (by decide +kernel) ∅ ∅ ∅
 nxB:=W.pk1 13 ⋯
 it:=W.meth 28 7 ⋯ ⋯ (by decide +kernel) ∅ ∅ ∅
 itB:=W.pk1 12 ⋯
 stop:=W.blt 13 ⋯ ∅ ∅
end
section
variable {K:Frag}
theorem WorldOk.name (W:WorldOk X K) (x:Int):zD X 1 "_law_name" [.int x] (.str (nm (x.fmod 5))):=
 zad W.ok (W.top 16 ⋯) (W.at1 9 2 ⋯ ⋯ ∅ (by decide +kernel) ∅ ∅ ∅) ⋯ λA a=>zkO W.ok W.blts.toBlt a x
theorem WorldOk.tab1 (W:WorldOk X K):Tab X 1 zoK:=⟨λA mu f ds d R a e=>iteX e λb e=>by
 obtain⟨y,c,g⟩:=zdE e;rw[b,c,g];exact W.name y A mu R a⟩
theorem WorldOk.replies (W:WorldOk X K) (x:Int):zD X 2 "_law_replies" [.int x] (.list (zhV x)):=
 zad W.ok (W.top 17 ⋯) (W.at1 10 3 ⋯ ⋯ ∅ (by decide +kernel) ∅ ∅ ∅) ⋯ λA a=>zgo W.ok W.blts.toBlt a W.tab1 x
theorem WorldOk.tab2 (W:WorldOk X K):Tab X 2 zhU:=⟨λA mu f ds d R g e=>zd2 e (λa e=>by
 obtain⟨y,b,c⟩:=zdE e;rw[a,b,c];exact(W.name y).more (by ext) A mu R g) λ_ e=>iteX e λa e=>by
 obtain⟨y,b,c⟩:=zdE e;rw[a,b,c];exact W.replies y A mu R g⟩
theorem WorldOk.thing (W:WorldOk X K) (x:Int):zD X 3 "_law_thing" [.int x] (thD (thT x)):=
 zad W.ok (W.top 18 ⋯) (W.at1 11 4 ⋯ ⋯ ∅ (by decide +kernel) ∅ ∅ ∅) ⋯ λA a=>zjg W.ok W.blts.toBlt a W.tab2 x
theorem WorldOk.find (W:WorldOk X K):zcW X 803:=⟨⟨100,99,_,_,_,_,_,_,W.in_ _ _ W.gk.find.1,W.in_ _ _ W.gk.find.2.1,W.in_ _ _ W.gk.find.2.2⟩⟩
theorem WorldOk.gen (W:WorldOk X K):∃bm,zoz X 801 bm:=by
 obtain⟨bm,k,l,m⟩:=W.bm;obtain⟨b,c,d,e,f⟩:=W.gk.joinF;obtain⟨o,vs,g,n,p⟩:=ziS (K:=K) (a:=801) (i:=11) (by rw[b];exact λq=>nomatch q);rw[p] at b c d e f;have h:=W.gk.joinK;rw[g] at h;have r:vs[11]? = some (.ref X.tb):=by
  rw[W.tb];rw[Array.getD_eq_getD_getElem?] at b;cases j:vs[11]? with
  | none=>rw[j] at b;cases b
  | some v=>rw[j] at b;exact congrArg some b
 exact⟨bm,⟨o,vs,_,_,_,_,_,_,_,W.in_ _ _ g,zqr h,n,r,c,d,e,f⟩,k,l,m.elim λs q=>⟨s,q.1,q.2.1,q.2.2.1,q.2.2.2⟩⟩
theorem FnB.fn {a:Addr}{fd:FuncData}{body:List Stmt}(b:K.In X.kk) (F:FnB X K a fd body sc):Fn X (.ref a):=let ⟨_,h1,h2⟩:=F.at_;.fn (b _ _ h1) h2
theorem WorldOk.join (W:WorldOk X K){a:List Str}(c:∀w∈a,w∈allW) (d:a.length<=200):zD X 11 "join_shlex" [.list (a.map .str)] (.str (za2 a)):=λA mu R e=>by
 obtain⟨g,b⟩:=zeD c;obtain⟨bm,f⟩:=W.gen;have F:=W.fnB 4 ⋯ ∅ ∅ ∅;refine⟨_,W.top 9 ⋯,F.fn W.in_,?_⟩;rw[za2,b.eq];exact zhu (n:=0) W.ok W.in_ R e f W.find (W.top 10 ⋯) (W.at1 5 1 ⋯ ⋯ ∅ (by decide +kernel) ∅ ∅ ∅) (W.top 11 ⋯) F W.gk.joinC (λv=>W.pk1 7 ⋯ [v] rfl) b d
theorem WorldOk.split (W:WorldOk X K){a:List Str}(c:∀w∈a,w∈allW) (d:a.length<=200):zD X 11 "split" [.str (za2 a)] (.list (a.map .str)):=λA mu R e=>by
 obtain⟨f,b⟩:=zeD c;have F:=W.fnB 3 ⋯ ∅ ∅ ∅;refine⟨_,W.top 8 ⋯,F.fn W.in_,?_⟩;rw[za2,b.eq];exact zgg (n:=0) W.ok W.blts.toBlt W.in_ R e ⟨W.lexIt,W.lexNew,W.gk.noLen,W.gk.noHint⟩ F W.gk.bindS (zjO b d)
theorem WorldOk.exs (W:WorldOk X K):Exs X (exT (.ref 67) (.ref 79)):=⟨λx cls e=>by
 unfold exT at e
 split at e
 .next h=>subst h;cases e;exact⟨W.top 0 ⋯,W.r67⟩
 split at e
 .next h=>subst h;cases e;exact⟨W.top 1 ⋯,W.r79⟩
 .cases e⟩
theorem WorldOk.read (W:WorldOk X K){xs:List Int}(b:xs.length<=16):zD X 12 "_law_read" [.str (za2 (repW xs))] (.list (xs.map λy=>thD (thT y))):=
 zad W.ok (W.top 19 ⋯) (W.at1 12 5 ⋯ ⋯ ∅ (by decide +kernel) ∅ ∅ ∅) ⋯ λA a=>zkN (n:=10) W.ok W.blts.toBlt W.in_ a W.gk.rep W.exs (W.at1 1 0 ⋯ ⋯ ∅ (by decide +kernel) ∅ ∅ ∅) (W.top 3 ⋯)
  (W.at2 0 0 ⋯ ⋯ ∅ (by decide +kernel) ∅ ∅ ∅) (W.top 2 ⋯) W.m67 W.m79 (by sleep 126) (W.split (zcs xs) (by rw[zao];lia))
theorem WorldOk.newAt (W:WorldOk X K):FnIn X 885 38 "__new__":=zhe W.in_ (W.fnB 18 ⋯ ∅ ∅ ∅) (by decide +kernel) λvs e=>by
 have f:(zA (zo 38 "__new__")).length=4:=by kernel_rfl
 rw[f] at e;obtain⟨a,b,c,d,rfl⟩:=len4 e;exact W.gk.bind4 a b c d
theorem WorldOk.diff (W:WorldOk X K){f g:List Th}(c:∀t∈f,good (thD t)=true) (d:∀t∈g,good (thD t)=true) (a:f.length<60) (b:g.length<60):zD X 4 "_count_diff_all_purpose" [.list (f.map thD),.list (g.map thD)] (.list ((cdT f g).map (difD 938))):=
 zad W.ok (W.top 15 ⋯) (W.at2 8 4 ⋯ ⋯ ∅ (by decide +kernel) ∅ ∅ ∅) ⋯ λA e=>zd5 (n:=0) W.ok W.blts (W.blt 11 ⋯ ∅ ∅) (W.top 14 ⋯) W.gk.kind W.gk.newM W.in_ W.newAt e c d a b
theorem WorldOk.lacking (W:WorldOk X K){f g:List Th}(c:∀t∈f,good (thD t)=true) (d:∀t∈g,good (thD t)=true) (e:0<g.length) (a:f.length<60) (b:g.length<60):zD X 4 "_law_lacking" [.list (f.map thD),.list (g.map thD)] (.list ((zcz f g).map thD)):=
 zad W.ok (W.top 22 ⋯) (W.at2 15 7 ⋯ ⋯ ∅ (by decide +kernel) ∅ ∅ ∅) ⋯ λA h=>zgr (n:=0) W.ok W.blts h c d e a b
theorem WorldOk.unoB (W:WorldOk X K){f g:List Th}(c:∀t∈f,good (thD t)=true) (d:∀t∈g,good (thD t)=true) (a:f.length<60) (b:g.length<60) (R:Rm 2 A) (e:A.handled=none):Cl2 X A mu (.ref 867) (f.map thD) (g.map thD) (zfD (unoT f g)):=
 zo9 W.ok W.in_ R (W.fnB 7 ⋯ ∅ ∅ ∅) (W.pk2 3 ⋯) (zbr (by decide +kernel)) (zds (by decide +kernel)) (zjf (n:=0) W.ok (W.blt 10 ⋯ ∅ ∅) e c d a b)
theorem WorldOk.parts (W:WorldOk X K){a b:List Int}(c:a.length<=16) (e:b.length<=16) (v:0<a.length) (w:0<b.length):zph X 13 938 a b (cdT (a.map thT) (b.map thT)) (doneT (a.map thT) (cdT (a.map thT) (b.map thT))):=by
 have Z:=zhR c e;have l:(a.map thT).length<60:=by rw[zqn];exact zqf c (by ext)
 have j:(b.map thT).length<60:=by rw[zqn];exact zqf e (by ext)
 have q:(doneT (a.map thT) (cdT (a.map thT) (b.map thT))).length<60:=by
  have:=zfa (f:=a.map thT) (g:=b.map thT) (cdT (a.map thT) (b.map thT)).length;rw[zh7,zqn,zqn] at this;exact zqf (zpF this (zqM c e)) (by ext)
 have o:0<(a.map thT).length:=by rw[zqn];exact v
 have p:0<(b.map thT).length:=by rw[zqn];exact w
 have s:(ordW (cdT (a.map thT) (b.map thT))).length<=200:=by rw[zdt];exact zpF (zqN 3 Z.lr) (by ext)
 have y:=W.fnB 7 ⋯ ∅ ∅ ∅;obtain⟨z,B,C⟩:=y.at_;refine⟨λx=>(W.thing x).more (by ext),λx=>(W.replies x).more (by ext),(W.join (zcs a) (by rw[zao];exact zpF (zqN 2 c) (by ext))).more (by ext),(W.join (zcs b) (by rw[zao];exact zpF (zqN 2 e) (by ext))).more (by ext),(W.read c).more (by ext),(W.read e).more (by ext),(W.diff Z.ga Z.gb l j).more (by ext),?_,(W.join (zbV c e) s).more (by ext),(W.split (zbV c e) s).more (by ext),?_,?_,?_,?_,867,z,_,W.top 13 ⋯,W.in_ _ _ B,C,λA mu R u=>⟨?_,?_⟩⟩
 .rw [<-zjv];refine(zad (n:=0) W.ok (W.top 20 ⋯) (W.at2 13 5 ⋯ ⋯ ∅ (by decide +kernel) ∅ ∅ ∅) ⋯ λA k=>zhz W.ok W.blts.toBlt k (zae Z.ga) (zae Z.gb) ?_ ?_ ?_).more (by ext)
  .rw [<-zqC];exact zae λt m=>(zpE.mp m).elim (Z.ga t) (Z.gb t)
  .intro d m;rw[<-zqC] at m;obtain⟨t,D,rfl⟩:=zqa.mp m;exact(zpE.mp D).elim (Z.ga t) (Z.gb t)
  .rw [zqq,zqn,zqn,zqn,zqn];exact zpF (zqM c e) (by ext)
 .refine (zad (n:=3) W.ok (W.top 21 ⋯) (W.at2 14 6 ⋯ ⋯ ∅ (by decide +kernel) ∅ ∅ ∅) ⋯ λA k=>zkQ (n:=0) W.ok W.blts k Z.ga Z.gr (zqf Z.lr (by ext)) (λi _=>?_) λi r h=>zoa h).more (by ext);have:=zfa (f:=a.map thT) (g:=b.map thT) i;sleep 114
 .have:=W.diff Z.gm Z.gb q j;rw[zom zcI] at this;exact this.more (by ext)
 .rw [<-zlo o p];refine(zad (n:=1) W.ok (W.top 12 ⋯) (W.at2 6 2 ⋯ ⋯ ∅ (by decide +kernel) ∅ ∅ ∅) ⋯ λA k=>zhA (n:=0) W.ok (W.blt 9 ⋯ ∅ ∅) k (λt m=>Z.ga t ((zK _).mem_iff.mp m)) (λt m=>Z.gb t ((zK _).mem_iff.mp m)) (by rw[(zK _).length_eq];exact l) (by rw[(zK _).length_eq];exact j)).more (by ext)
 .exact (zad (n:=4) W.ok (W.top 23 ⋯) (W.at2 16 8 ⋯ ⋯ ∅ (by decide +kernel) ∅ ∅ ∅) ⋯ λA k=>zkM W.ok W.blts k Z.ga Z.gb l j (W.lacking Z.ga Z.gb p l j) (W.lacking Z.gb Z.ga o j l)).more (by ext)
 .have:=W.unoB (mu:=mu) Z.gm Z.gb q j (R.less (by ext)) u;rw[zk5 zcI] at this;exact this
 .have:=W.unoB (mu:=mu) Z.ga Z.gb l j (R.less (by ext)) u;rw[zhF] at this;exact this
end
noncomputable def blank (h:Heap) (a:Addr):Heap:=h.update a λo=>{o with data:=.freed}
theorem zcm {h:Heap}{a b:Addr}(c:b≠a):(blank h a).get? b=h.get? b:=zp1 h _ (Ne.symm c)
theorem zeC (h:Heap) (a:Addr):(blank h a).get? a=none:=by
 obtain⟨b,l⟩:=h;unfold blank Heap.update Heap.get?;dsimp only;rw[Array.getElem?_modify,if_pos rfl];cases b[a]? <;> rfl
theorem zgs {h:Heap}{a b:Addr}{o:Obj}(e:(blank h a).get? b=some o):b≠a/\h.get? b=some o:=by
 have c:b≠a:=λq=>by rw[q,zeC] at e;cases e
 exact⟨c,by rw[<-zcm c];exact e⟩
theorem zcb {h:Heap}{a b:Addr}{m:Str->Option Value}(n:h.Ns b m){vs:Array Value}(c:h.get? a=some {cls:=.none,data:=.fields vs}):(blank h a).Ns b m:=by
 obtain⟨o,es,d,e,hd,r⟩:=n;have f:b≠a:=λq=>by rw[q,c] at e;cases e;cases hd
 exact⟨o,es,d,(zcm f).trans e,hd,r⟩
theorem zfE {h:Heap}{a:Addr}{vs:Array Value}(d:h.get? a=some {cls:=.none,data:=.fields vs}){x:Str}{C:Addr}{bm:List Value}{c:String}{i:Str->Option Value}(O:OwnClsQ x C bm c i h):OwnClsQ x C bm c i (blank h a):=by
 have cls:∀{b:Addr}{o:Obj}{j:ClassData},o.data=.cls j->h.get? b=some o->(blank h a).get? b=some o:=fun {b o j} hd e=>(zcm λq=>by rw[q,d] at e;cases e;cases hd).trans e;obtain⟨l,N,nm,q,bs,hdct,sn,sub,ab,col,dd,k0,k1,k2,k3,k5,mN,k,f,g,T⟩:=O.obj;refine⟨O.bound,l,N,nm,q,bs,hdct,sn,sub,ab,col,dd,k0,k1,k2,k3,k5,mN,cls rfl k,zcb f d,g,?_⟩;clear k
 induction T with
 | base=>exact .base
 | own m f n _ p=>exact .own (cls rfl m) (zcb f d) n p
noncomputable abbrev but (K:Frag) (a:Addr):Frag:=K.filter λp=>!Nat.beq p.1 a
theorem ziI {K:Frag}{a b:Addr}{o:Obj}(e:(but K a).lookup b=some o):b≠a/\K.lookup b=some o:=by
 rw[but,zaS (λb=>!Nat.beq b a)] at e;exact conX e λh e=>⟨λq=>by rw[q,Nat.beq_refl] at h;exact absurd h (by ext),e⟩
def zfp {α:Type}(t:Sem α):Prop:=∀(M:Model) (Γ : PySem.Ctx) (Q:α->Pos->Shared->Prop) (E:Value->Pos->Shared->Prop) (p:Pos) (s:Shared),Sem.wp M Γ t Q E p s->Sem.wp M Γ t (λa p' s'=>s.toks<s'.toks/\Q a p' s') E p s
theorem zbR {d e:Type}{m:Sem d}{k:d->Sem e}(h:∀a,zfp (k a)):zfp (m>>=k):=λM c Q E p s w=>by
 have w:Sem.wp M c (m.bind k) Q E p s:=w;show Sem.wp M c (m.bind k) _ E p s;rw[Sem.wp_bind] at w ⊢;refine Sem.wp_mono M c m (λa p' s' x=>?_) (λ_ _ _ x=>x.2) p s (Sem.wp_toks M c s.toks m _ _ p s (zpB _) w);exact Sem.wp_mono M c (k a) (λb f g y=>⟨zqf x.1 y.1,y.2⟩) (λ_ _ _ y=>y) p' s' (h a M c _ _ p' s' x.2)
theorem zbC {d e:Type}{m:Sem d}{k:d->Sem e}(h:zfp m):zfp (m>>=k):=λM c Q E p s w=>by
 have w:Sem.wp M c (m.bind k) Q E p s:=w;show Sem.wp M c (m.bind k) _ E p s;rw[Sem.wp_bind] at w ⊢;refine Sem.wp_mono M c m (λa p' s' x=>?_) (λ_ _ _ x=>x) p s (h M c _ _ p s w);exact Sem.wp_mono M c (k a) (λb f g y=>⟨zpM x.1 y.1,y.2⟩) (λ_ _ _ y=>y.2) p' s' (Sem.wp_toks M c s'.toks (k a) _ _ p' s' (zpB _) x.2)
theorem zis (x:Str):zfp (mkText x):=λM a Q E p s w=>⟨zpY _,w⟩
theorem zlf (a:Addr) (x:Str) (v:Value):zfp (nsSet a x v):=by
 unfold nsSet;exact zbR λ_=>zbC (zis x)
theorem zgF {x:Str}{v:Value}(a:env.kindOf x=some .local) (b:env.scope.kind=.function):zfp (storeName env x v):=by
 unfold storeName;rw[a,b];exact zlf _ _ _
theorem zgG {scope:Scope}{g:Addr}{x:Str}{v:Value}{qual:Str}{a:Option Addr}{code:Value}{b:Addr}(c:scope.kind=.function) (d:scope.names.lookup x=some .local):zfp (newFunctionEnv scope g [] [(x,v)] qual a code none b):=by
 unfold newFunctionEnv;refine zbR λL=>zbR λcells=>zbC ?_;rw[List.forIn_cons];exact zbC (zbC (zgF d c))
theorem zgB {d:Type}{M:Model}{t:Sem d}(e:zfp t){Q:d->Shared->Prop}(h:wpAny M A t (λa s'=>s.toks<s'.toks->Q a s') E s):wpAny M A t Q E s:=λb p c=>
 Sem.wp_mono M b t (λ_ _ _ x=>x.2 x.1) (λ_ _ _ x=>x) p s (e M b _ _ p s (h b p c))
section
variable {n:Nat}{fa:Addr}{x':Str}{body:List Stmt}{d d1:PyData}{v:Value}
theorem zml (O:X.Ok) (R:Rm (n+1) A) (F:FnAt X fa [x'] body sc) (z:sc.names.lookup x'=some .local) (C:zP X A n sc [x'] [d1] body (.ret d)){Q:VP}(st:X.kk.StaysIn s.heap) (D:∃o:TabO,s.heap.get? X.tb=some o.1) (a:Frs X A s.heap) (G:Mu X A mu) (H:Low mu s) (r:Rd s.heap mu v d1)
  (h:∀v s',Aft X A s s'->Rd s'.heap mu v d->Q v s'):wpAny X.M A (call (.ref fa) [v]) Q E s:=by
 obtain⟨o,fd,I,hd,J,i,j,K,k,l,c⟩:=F.ex;subst j;refine wpt (zqY (codeAny_call_function (by have:=R.depth;sleep 110) (st _ _ I) hd F.co F.gen i (J.keeps st) ?_));rw[l,c [v] rfl];refine zpR (wpt (zgB (zgG F.kind z) (wpAny_newFunctionEnv_cells F.kind (λy L=>?_) λenv N B x p _ _=>?_)))
 .rw [zqP.mp L];exact .inl z
 subst N;refine⟨O.lim.keeps λb o e=>x.toInCall.keep _ _ (st b o e),codeAny_func ?_⟩;obtain⟨new,f,fr,P,cel⟩:=zb0 (fa:=fa) (vs:=[v]) (ps:=[x']) (ds:=[d1]) O rfl K k F.kind F.nd st a G H (.cons r .nil) x ⟨zqf (zqy _) p,let ⟨o,e⟩:=D;⟨o,x.toInCall.keep _ _ e⟩⟩;obtain⟨⟨g,q,rfl⟩,t,u,_⟩:=x.toInCall;have w:s.heap.objs.size<=g.objs.size:=zqt t.lt;refine C _ _ _ _ (R.deeper _) rfl ⟨⟨_,zp2 a.fl.choose_spec⟩,rfl⟩ fr cel _ P _ _ (λY s' S T U _=>?_) λv s' _ _ _ V=>False.elim V;obtain⟨v,rfl,W⟩:=T;exact h v s' (S.back (s:=s) rfl a u rfl rfl w U λx m=>.inr (zpK (f x m))) (W.sub λb m=>zpw _ m)
end
section
variable {K:Frag}{v:Value}
theorem WorldOk.first (W:WorldOk X K) (R:Rm 14 A) (b:A.handled=none){xs:List Int}(c:xs.length<=63){Q:VP}(st:X.kk.StaysIn s.heap) (d:∃o:TabO,s.heap.get? X.tb=some o.1) (a:Frs X A s.heap) (e:Mu X A mu) (f:Low mu s) (r:Rd s.heap mu v (.list (xs.map .int)))
  (h:∀v s',Aft X A s s'->Rd s'.heap mu v (.bool true)->Q v s'):wpAny X.M A (call (.ref 1003) [v]) Q E s:=by
 have F:FnAt X 1003 ["script"] (zG (stm 50)) (zd (stm 50)):=W.at1 (st:=stm 50) 17 6 ⋯ ⋯ ∅ (by decide +kernel) ∅ ∅ ∅;exact zml W.ok R F ∅ (zmv (n:=10) W.ok W.blts b W.in_ W.gk.walk c rfl rfl (W.parts (zc4 0 xs) (zc4 1 xs) (zhS 0 (.inl rfl) xs) (zhS 1 (.inr rfl) xs)) (zhR (zc4 0 xs) (zc4 1 xs))) st d a e f r h
end
theorem zlw {h:Heap}{vs:List Value}{xs:List Int}(i:IntsAre vs xs):Rds h mu vs (xs.map .int):=by
 induction i with
 | nil=>exact .nil
 | cons n t r a=>exact .cons (.int n t) a
noncomputable def bmE:List Value:=[.type "Exception",.type "BaseException",.type "object"]
noncomputable def tabOb:Obj:={cls:=.none,data:=.fields #[]}
noncomputable def hook2 (H:Hook):Hook:=⟨H.α×Option Obj,λs=>(H.obs s,s.heap.get? 797),λw=>(H.val w,some tabOb),λw h=>H.says w h/\h.get? 797=some tabOb,
 λw s e=>⟨H.of w s (congrArg Prod.fst e),congrArg Prod.snd e⟩,λw h h' x k=>⟨H.keeps w h h' x.1 k,k _ _ x.2⟩⟩
@[elab_as_elim] theorem zou {P:Params}{s₀:Shared}{h:Heap}{args:List WData}{b:List Value}{p:LA}{G:List WData->List Value->Prop}(d:PySem.Challenge.rw_aa0062_01.row.claim.pre args=true) (e:WData.layableAll args=true) (i:ReadsAllW PySem.Challenge.rw_aa0062_01.row.records (classAt s₀.heap) h b args p)
  (j:WellAll P h b args) (l:∀a∈p,(a==sysModules)=false) (t:h.get? 797=some {cls:=.none,data:=.fields #[]}) (k:∀(xs:List Int) (c:Addr),xs.length<=63->Rd h [797] (.ref c) (.list (xs.map .int))->G [ofPy (.list (xs.map .int))] [.ref c]):G args b:=by
 wrow_args d e i j l
 rename_i xs _ _ _ _ _ _ _ c vs _ u w n _ v _ x _;refine k xs c (by lia) ?_;obtain⟨y,f,_,m,g⟩:=u;have o:c≠797:=λq=>by rw[q,t] at f;cases f;cases g
 have n:Well P h (.ref c) (.list (ofPys (xs.map .int))):=n;cases n with
 | list r z=>
  rw[r] at f;cases f;injection g with g _;have s:=congrArg Array.toList g;simp only [List.toList_toArray] at s;subst s;exact .list (by simpa using o) r (zlw v)
theorem zlL {V:Program}{l:List Str}{XP:(Str->Option Value)->Heap->Prop}{s:Params->Frag}{A:LA}{e:∀P,A=(s P).map (·.1)}{d:DefRec}{B:List (Str×Expr)}(C:d.name="law") (gk:∀P,zpi (but (s P) 797))
  (D:specOf V "error_reply"=some ("Exception.__new__",bmE)) (E:specOf V "error_proto"=some ("Exception.__new__",bmE)):WalkO V l XP (hook2 (kHook s A e)).says PySem.Challenge.rw_aa0062_01.row.toRowW d B λf vs=>PySem.call f vs:=by
 intro w s₀ j N mb G Y fa o pm cd a0 dV kV ho hd a1 hD H hg args Q A t u I J K;have KX:=kIn_of Y.1;have c:j.heap.get? 797=some {cls:=.none,data:=.fields #[]}:=Y.2;refine zou t u I J K c λxs la hx RD=>?_;let X:Wd:=⟨PySem.Challenge.rw_aa0062_01.row.prog,w,blank j.heap 797,797,N,mb,j.os⟩;have O:X.Ok:=⟨zcb G.T.g c,zcb G.T.b c,G.T.builtins,let ⟨mc,n,h⟩:=G.T.nolimit;⟨mc,zcb n c,h⟩,zeC _ _⟩;have z:(but (s w.params) 797).In X.kk:=λa o e=>let ⟨p,L⟩:=ziI e;(zcm p).trans (KX _ _ L);have g:=gk w.params;have W:WorldOk X (but (s w.params) 797):=by
  obtain⟨C1,x,_⟩:=G.T.ownAt D;obtain⟨C2,y,_⟩:=G.T.ownAt E;have S:C1=67:=by
   have:=x.bound.symm.trans (mg_of z O.g (zaD (i:=0) g.names ⋯));exact Value.ref.inj (zqr this)
  have U:C2=79:=by
   have:=y.bound.symm.trans (mg_of z O.g (zaD (i:=1) g.names ⋯));exact Value.ref.inj (zqr this)
  have x:=zfE c x;have y:=zfE c y;exact ⟨O,g,z,rfl,S▸zeg x PySem.F.excBase_Exception,U▸zeg y PySem.F.excBase_Exception,S▸zmK x PySem.F.excBase_Exception,U▸zmK y PySem.F.excBase_Exception,by
   obtain⟨bm,ob,p,L,M,Z,h5,h6⟩:=G.T.bmain;exact⟨bm,p,L,ob,(zcm λq=>by rw[q,c] at M;cases M;cases Z).trans M,Z,h5,h6⟩⟩
 have ef:fa=1003:=by
  have p:N "law"=some (.ref fa):=C▸H;have:=p.symm.trans (mg_of z O.g (zaD (i:=24) g.names ⋯));exact Value.ref.inj (zqr this)
 rw[ef];have R:Rm 14 callerA:=⟨by decide,by decide⟩;refine W.first (X:=X) (mu:=[797]) R rfl (xs:=xs) hx (λb o e=>(zgs e).2) ⟨⟨_,#[],rfl,trivial⟩,c⟩ ⟨[],rfl,λ_ m=>nomatch m⟩ ⟨by simp[X],λb m=>nomatch m⟩ (λb m=>by rw[List.mem_singleton.mp m];exact Heap.lt_size c) RD λv s' a rv=>?_;cases rv;refine⟨.inl ⟨_,.bool true,[],rfl,λ_=>rfl,.bool _,?_,λ_=>⟨List.nodup_nil,λ_ m=>nomatch m⟩⟩,⟨λb o e=>?_,λb o e=>?_⟩,a.os,a.gens (.of_eq hg)⟩
 .first|wrow_post|kernel_rfl|decide
 .by_cases hb:b=797
  .subst hb;rw[c] at e;cases e;obtain⟨o',k⟩:=a.live ⟨_,#[],rfl,trivial⟩ c;obtain⟨ps,p,_⟩:=o'.2;obtain⟨_,G1⟩:=W.gen;obtain⟨oc,vc,_,_,_,_,_,_,_,c1,c2,c3,c4,_⟩:=G1.code;refine .inr (.inl ⟨⟨801,oc,vc,(zgs c1).2,c2,c3,c4⟩,rfl,#[],ps,rfl,?_⟩);rw[p] at k;rw[k,Array.empty_append]
  .obtain⟨o',k,r⟩:=a.keep b o (by simpa using hb) e;exact .inl (r.elim (λq=>q▸k) λq=>nomatch q.1)
 .by_cases hb:b=797
  .subst hb;obtain⟨o',k⟩:=a.live ⟨_,#[],rfl,trivial⟩ c;exact⟨_,k⟩
  .obtain⟨o',k,_⟩:=a.keep b o (by simpa using hb) e;exact⟨o',k⟩
end
end Mine.Tactic
open PySem PySem.W PyProof.Rows
namespace Mine.Tactic.head
abbrev ZT:=True
theorem zt:ZT:=trivial
def tw2677804334068575192:=zt
def tw17014069595225877857:=zt
def tw17043425802216146234:=zt
def tw2212699220339946694:=zt
def tw17196184705339403439:=zt
def tw4971946791139671713:=zt
def tw4760430946740306230:=zt
def tw8762158310521704129:=zt
def tw12960992595803635246:=zt
def tw2600811788440521845:=zt
def tw14104173133232865772:=zt
def tw1007746976191260152:=zt
def tw6377237415071046413:=zt
def tw5974919348420562034:=zt
def tw13022810235519001648:=zt
def tw15441450321384935308:=zt
def tw14115931535489100704:=zt
def tw6540179506411129463:=zt
def tw9642804564405733568:=zt
def tw6395366727342979974:=zt
def tw2847755436370624730:=zt
def tw12361799353071832348:=zt
def tw5177266941165789732:=zt
def tw9518962312480078327:=zt
def tw17828758716216440102:=zt
def tw7625459821382673003:=zt
def tw11870515126411248220:=zt
def tw5257407315042601490:=zt
def tw4598683684124568360:=zt
def tw599207654545451357:=zt
def tw5393615089455474067:=zt
def tw14727336777319636338:=zt
def tw12100527420774074002:=zt
def tw1642324900530054911:=zt
def tw4161653654988565410:=zt
def tw7704488494252739517:=zt
def tw1933266765612175479:=zt
def tw5901052716391362917:=zt
def tw16810921232257288726:=zt
def tw8442391463245388060:=zt
def tw7044750233319102589:=zt
def tw6307262931108404790:=zt
def tw2163942758733052778:=zt
def tw8029374237826131612:=zt
def tw6794278720994034609:=zt
def tw9702988997828187596:=zt
def tw12804515605913152941:=zt
def tw7011732105765765268:=zt
def tw17478450185492059670:=zt
def tw16760974891996094619:=zt
def tw4586446242604321290:=zt
def tw15281698730720319100:=zt
def tw11283279300653818051:=zt
def tw3761792074630564638:=zt
def tw9788811505393694406:=zt
def tw12904285539086088286:=zt
def tw15483964815399805805:=zt
def tw17727658002683460143:=zt
def tw16425067056950752103:=zt
def tw13302508203762096467:=zt
def tw15891435882508692183:=zt
def tw17887053669520985296:=zt
def tw7477820941552670126:=zt
def tw15286355464064039534:=zt
def tw6286372364579194794:=zt
def tw4069804546538164116:=zt
def tw11156368937290553715:=zt
def tw4737016875366114041:=zt
def tw15771400543751330110:=zt
def tw8390102143913834053:=zt
def tw3303953813889775575:=zt
def tw15970874618335464204:=zt
def tw13358466658234063708:=zt
def tw18053109064400741357:=zt
def tw13843207884594113354:=zt
def tw211873506684963878:=zt
def tw6178283956661044665:=zt
def tw6754522644932071441:=zt
def tw4667348850461081848:=zt
def tw14200427493383300216:=zt
def tw7525384268285115416:=zt
def tw17674554680938430072:=zt
def tw8975435994061532251:=zt
def tw7222475246640833784:=zt
def tw6836053898749722392:=zt
def tw10140265326006808469:=zt
def tw17182059753459049080:=zt
def tw8897393710902874091:=zt
def tw10765706680148099606:=zt
def tw10738925221916057414:=zt
def tw4920758996400621954:=zt
def tw8768796201578291821:=zt
def tw14354956333333529324:=zt
def tw8973064017573282954:=zt
def tw6441143659080583934:=zt
def tw4351672319906393312:=zt
def tw5546283290803417992:=zt
def tw4343507996169539125:=zt
def tw4446617505875373235:=zt
def tw9065157768878992719:=zt
def tw15513055477561522965:=zt
def tw17756128626448652608:=zt
def tw12121261209151526381:=zt
def tw1604159023799061942:=zt
def tw13481622393104808784:=zt
def tw16467828097438036884:=zt
def tw17238792731446008282:=zt
def tw18189608751861034423:=zt
def tw12853853963722957172:=zt
def tw12930617877176175860:=zt
def tw327434869110181795:=zt
def tw14248132946259595274:=zt
def tw14603450239461841510:=zt
def tw9881129043602068447:=zt
def tw6057581936614665063:=zt
def tw9876895691737642104:=zt
def tw14136965671488364886:=zt
def tw2859055244311267099:=zt
def tw12110373420039898954:=zt
def tw15576695361123962311:=zt
def tw905993685949547420:=zt
def tw5407150459537161257:=zt
def tw13180465062194443783:=zt
def tw6411066816535418379:=zt
def tw15621454079623362823:=zt
def tw17474404036876399203:=zt
def tw1557849683280946481:=zt
def tw4096502979207236245:=zt
def tw10406400010198949679:=zt
def tw7170690592598645828:=zt
def tw16273383956797848521:=zt
def tw270749381225893809:=zt
def tw6838351682229632869:=zt
def tw15045561052848893537:=zt
def tw4649425528398497859:=zt
def tw14113676003675313857:=zt
def tw11907996902061127667:=zt
def tw16155725228485592593:=zt
def tw17210221807810809205:=zt
def tw17988639599872038949:=zt
def tw6679717402121646128:=zt
def tw3669574306013867952:=zt
def tw15181362511707147661:=zt
def tw3831700024181380804:=zt
def tw9572551963056671085:=zt
def tw256183102023619309:=zt
def tw3314367816449676451:=zt
def tw24158810998067152:=zt
def tw254575350319685177:=zt
def tw7854763266352889494:=zt
def tw9814208198834302157:=zt
def tw15794018056045060517:=zt
def tw7517704595070879186:=zt
def tw222238410320055491:=zt
def tw1024084491831128002:=zt
def tw4992108785413402146:=zt
def tw18383472269391645506:=zt
def tw16357011667916027313:=zt
def tw4573072232641458115:=zt
def tw4502257366419965485:=zt
def tw12433816410437039033:=zt
def tw16197774262129650703:=zt
def tw8520572377284287491:=zt
def tw13259140303000173775:=zt
def tw947916248837503564:=zt
def tw16416334281030958492:=zt
def tw9775830712026823533:=zt
def tw1582111357824734061:=zt
def tw9348814393736521356:=zt
def tw17099214343175840187:=zt
def tw11744224951570206348:=zt
def tw87400626461717292:=zt
def tw5917263478632753957:=zt
def tw17534192954884399719:=zt
def tw11810104993496465359:=zt
def tw12006676425691957075:=zt
def tw15979600510069141228:=zt
def tw7631297936261620715:=zt
def tw13492637764174999894:=zt
def tw12968774345771548751:=zt
def tw11270856238767873592:=zt
def tw628912327026240193:=zt
def tw1968291283429696374:=zt
def tw11816508912820444285:=zt
def tw1741513119178410894:=zt
def tw15151528345065049482:=zt
def tw8130411386093684252:=zt
def tw2670303297797586859:=zt
def tw16131048430233326960:=zt
def tw9821981811175880747:=zt
def tw10455513496560217333:=zt
def tw16638157657404021354:=zt
def tw6854485883075001150:=zt
def tw16151946889143760990:=zt
def tw3766776099479707059:=zt
def tw15226983232261534230:=zt
def tw5170483817645777950:=zt
def tw6235586339596927849:=zt
def tw9320211804871830710:=zt
def tw7642901460642148764:=zt
def tw7848688602185153835:=zt
def tw11626180558326288264:=zt
def tw14354501937530040338:=zt
def tw14125856904429400164:=zt
def tw11566921697485486300:=zt
def tw10931361469602997288:=zt
def tw9790720228718114011:=zt
def tw17859593693331723575:=zt
def tw14121319397195706872:=zt
def tw10232064909889113928:=zt
def tw5837574274876057078:=zt
def tw498042104792767862:=zt
def tw7923575873306872196:=zt
def tw14478397556190769698:=zt
def tw2583065321989229531:=zt
def tw3846292071208645426:=zt
def tw11532718723700908360:=zt
def tw538446082380835501:=zt
def tw13614506508480463987:=zt
def tw1670205366857413935:=zt
def tw4958090140154078156:=zt
def tw14098327568855147387:=zt
def tw17061916964020032250:=zt
def tw11632127000044334938:=zt
def tw14792109001477630415:=zt
def tw121599027097493727:=zt
def tw11875087063890901859:=zt
def tw11178171848754689407:=zt
def tw13698648809839892290:=zt
def tw3410814343481067490:=zt
def tw11688867055456353103:=zt
def tw9863673388276005706:=zt
def tw11583375285903935661:=zt
def tw7520644112050217658:=zt
def tw9136464587055700983:=zt
def tw614390574341150378:=zt
def tw1184518242336044965:=zt
def tw13215502552044022077:=zt
def tw5352536973515768078:=zt
def tw12554177883235602216:=zt
def tw4257027115618297561:=zt
def tw4610965267642790501:=zt
def tw8525725326308085349:=zt
def tw8901671215053628884:=zt
def tw3273105615908031010:=zt
def tw121829202541158623:=zt
def tw9945376749246433988:=zt
def tw13157183380896141182:=zt
def tw2311143044896089367:=zt
def tw13121038001002648900:=zt
def tw14035280312628535534:=zt
def tw14374016784611050257:=zt
def tw2948127942572432868:=zt
def tw17273307930942984908:=zt
def tw7344750570408645899:=zt
def tw11438460381900536101:=zt
def tw3167202588618718576:=zt
def tw16647624659910177604:=zt
def tw17176224201803362300:=zt
def tw17147644393940587740:=zt
def tw3985947163777103959:=zt
def tw13734932340600766715:=zt
def tw6035265788613632567:=zt
def tw16883583748801772518:=zt
def tw15014880052204111932:=zt
def tw2349635989120156645:=zt
def tw11537275233485083709:=zt
def tw14616002490044059869:=zt
def tw13436894044567737494:=zt
def tw15191560713167404411:=zt
def tw5469827493400150299:=zt
def tw11324555796593319750:=zt
def tw6318138918384964617:=zt
def tw18211923036149111939:=zt
def tw3605726551112162983:=zt
def tw425435708985217863:=zt
def tw2814195780762538212:=zt
def tw9745526452009802115:=zt
def tw13355531292968612190:=zt
def tw2220033580470693121:=zt
def tw4627346210310574800:=zt
def tw18407717742191501251:=zt
def tw5009087383960653242:=zt
def tw8534020333503276360:=zt
def tw6651255606540193990:=zt
def tw5867137132594755822:=zt
def tw9146786423849386258:=zt
def tw11805015612343159066:=zt
def tw3472429134033674010:=zt
def tw4563359073958467696:=zt
def tw6186153385124895343:=zt
def tw15237663535342658116:=zt
def tw10046764714153086176:=zt
def tw10910792450284200762:=zt
def tw880041549037887742:=zt
def tw8063485797431065768:=zt
def tw3331940956107925414:=zt
def tw16489379210334658348:=zt
def tw17404738598534039632:=zt
def tw6714162224099291149:=zt
def tw6364772897258224969:=zt
def tw6812418764342429716:=zt
def tw9239142614042129676:=zt
def tw18399197771684283731:=zt
def tw7656993561419712586:=zt
def tw1909396885036919513:=zt
def tw16134734059666231014:=zt
def tw2601973932341689159:=zt
def tw5201281370045472722:=zt
def tw7885214377442926180:=zt
def tw2067386161709585590:=zt
def tw2050116710437883998:=zt
def tw9624995865831129066:=zt
def tw3911370050754976961:=zt
def tw14116072105269746664:=zt
def tw17643050035213660889:=zt
def tw10159828069905410414:=zt
def tw4373867169597883310:=zt
def tw4236996969531085207:=zt
def tw2313145982389705465:=zt
def tw10404988503405533951:=zt
def tw11660763722040079227:=zt
def tw2832450363540512164:=zt
def tw14471399806319333729:=zt
def tw11708461742246830962:=zt
def tw2578322831211870725:=zt
def tw16819863139274699924:=zt
def tw12603855062264289749:=zt
def tw18313853707237285189:=zt
def tw8447116899921617839:=zt
def tw2786743685323862003:=zt
def tw4568125344891751391:=zt
def tw7381069596288455961:=zt
def tw6690933047081306654:=zt
def tw11687023560973585189:=zt
def tw17897830412929093619:=zt
def tw9343784345643655389:=zt
def tw1667920988932089492:=zt
def tw3594891759171797649:=zt
def tw3660122611441070997:=zt
def tw15164672739603331899:=zt
def tw11425807296034358973:=zt
def tw13137917109235749993:=zt
def tw3233875183118841980:=zt
def tw7455815041402914466:=zt
def tw16964008770008396252:=zt
def tw5344700478939420245:=zt
def tw16100565001143383519:=zt
def tw12700350767370864473:=zt
def tw1557328467803915221:=zt
def tw17826233637590541806:=zt
def tw11069763694910288554:=zt
def tw133729909865552458:=zt
def tw9330199246699313007:=zt
def tw11677288872786089272:=zt
def tw8458877238214635511:=zt
def tw8234864663514711619:=zt
def tw1369456361645253700:=zt
def tw7563867181619644217:=zt
def tw17604583798245892957:=zt
def tw17841972154725954646:=zt
def tw12041014852473717306:=zt
def tw895694864261393573:=zt
def tw13743620919599672604:=zt
def tw10893203871185944016:=zt
def tw4426902509860298517:=zt
def tw9623103912111407070:=zt
def tw4672404036265822419:=zt
def tw11255233527334415507:=zt
def tw5655922962699134707:=zt
def tw8540019769754345326:=zt
def tw17571062363993111313:=zt
def tw164580773139989822:=zt
def tw6372912888244259232:=zt
def tw17975699791574932321:=zt
def tw14616959029909606993:=zt
def tw6642308208693140414:=zt
def tw15030553128528908182:=zt
def tw13719019309270858708:=zt
def tw11189327067189692569:=zt
def tw14674044287017899385:=zt
def tw8922704669822858775:=zt
def tw16470840993723603737:=zt
def tw2880898432605344763:=zt
def tw6351702911410302005:=zt
def tw2274005748331542745:=zt
def tw16193395336840186908:=zt
def tw13914683735514514785:=zt
def tw11438866181627868552:=zt
def tw5209554449717143979:=zt
def tw10708771697635015161:=zt
def tw5168925333731160205:=zt
def tw2879485471289025998:=zt
def tw10174584766804182641:=zt
def tw16361766197420640622:=zt
def tw3700974832883440138:=zt
def tw7747011388364273513:=zt
def tw13825339661682466871:=zt
def tw10120456401275641666:=zt
def tw15593827717779510215:=zt
def tw5985500400164608370:=zt
def tw17119170686239843836:=zt
def tw8904588629475617870:=zt
def tw958928872506414015:=zt
def tw12493120712362110995:=zt
def tw14175214680257131622:=zt
def tw17190863366488253662:=zt
def tw11269229995314462108:=zt
def tw6853630617986864305:=zt
def tw7020420824063954744:=zt
def tw320211696255948241:=zt
def tw10415664724025950055:=zt
def tw2517776532657764984:=zt
def tw7191335195987752679:=zt
def tw6630264856159209573:=zt
def tw13531174355117388966:=zt
def tw13645599290709956898:=zt
def tw9542515272592541452:=zt
def tw7866239982219483959:=zt
def tw3248518911565053659:=zt
def tw17320791709608653651:=zt
def tw12263977307190096113:=zt
def tw15302976447580118276:=zt
def tw7419136780043833006:=zt
def tw9840450443640420791:=zt
def tw12231179392558004518:=zt
def tw14986574110920076165:=zt
def tw14129469891962902252:=zt
def tw12860056302161818824:=zt
def tw17434797376505133630:=zt
def tw4393075592488892583:=zt
def tw13294928320403556877:=zt
def tw6758376841675447355:=zt
def tw17735092032805457699:=zt
def tw13501325115607446147:=zt
def tw9016199360400797226:=zt
def tw9651983939577475893:=zt
def tw7818406948760082822:=zt
def tw1035803115158598312:=zt
def tw8663202593246979897:=zt
def tw6778888449652476887:=zt
def tw12340271888097240347:=zt
def tw3142161053899909009:=zt
def tw10845396394168669663:=zt
def tw397849181030826349:=zt
def tw6785642283817426856:=zt
def tw1844227757512282264:=zt
def tw12786240829407846898:=zt
def tw13495296888169129856:=zt
def tw6624350675647044606:=zt
def tw6094823350063197005:=zt
def tw8646992055848031896:=zt
def tw2144385992465948278:=zt
def tw15229551077915105381:=zt
def tw9218803959726644461:=zt
def tw11923577573987253599:=zt
def tw13776726372311433926:=zt
def tw986427721608602469:=zt
def tw16785295176226988343:=zt
def tw18337920720555497462:=zt
def tw2264323709657250580:=zt
def tw7265970877394037551:=zt
def tw16275176288021318405:=zt
def tw12550340372413062561:=zt
def tw16986982413160321710:=zt
def tw603538060969722709:=zt
def tw10153906574620656596:=zt
def tw12830450120800637156:=zt
def tw13862454054279648155:=zt
def tw6347170205483401102:=zt
def tw3802442249816512103:=zt
def tw10278859624247276650:=zt
def tw6693241235639637252:=zt
def tw15019743129162079989:=zt
def tw4023342435127173813:=zt
def tw14583885252658162110:=zt
def tw13452242080398461450:=zt
def tw14850293979815407967:=zt
def tw6623851062965031400:=zt
def tw2839158504506254244:=zt
def tw3472477009129394980:=zt
def tw527875869973527231:=zt
def tw14008761376071499017:=zt
def tw2041862084881731760:=zt
def tw15439984460042474784:=zt
def tw10223692287793697032:=zt
def tw313301436887382014:=zt
def tw17748937073058813278:=zt
def tw14306798247772319369:=zt
def tw15272590239859469136:=zt
def tw1334928211388459524:=zt
def tw8035514181937498437:=zt
def tw11823434429045620519:=zt
def tw9537010659209445873:=zt
def tw2354095640172979297:=zt
def tw9603672691269337950:=zt
def tw6907934587980498722:=zt
def tw5942719420317166571:=zt
def tw10529393867288370581:=zt
def tw17032527293155815594:=zt
def tw3357986920528618633:=zt
def tw3871453223652943504:=zt
def tw16959707864834054384:=zt
def tw15504588363576407705:=zt
def tw16169013113556864411:=zt
def tw5737856323363192070:=zt
def tw16905256347559199821:=zt
def tw13960909320815282163:=zt
def tw13223381181745144057:=zt
def tw4747914317216886591:=zt
def tw17735249342320105602:=zt
def tw1017357012381099635:=zt
def tw10484355259572037225:=zt
def tw870796816893683860:=zt
def tw13822145151825664602:=zt
def tw14307032601003072187:=zt
def tw15959470996054853966:=zt
def tw12675198371164882541:=zt
def tw14934909009179750875:=zt
def tw7628768389441743194:=zt
def tw1582712072772744621:=zt
def tw8540706851535090227:=zt
def tw8263342499348257698:=zt
def tw2744370382317637105:=zt
def tw13042682687566798568:=zt
def tw197398517381082398:=zt
def tw12052756212032731015:=zt
def tw15856416224032049784:=zt
def tw10970850855534559167:=zt
def tw6984493825289602826:=zt
def tw1968990929169840286:=zt
def tw9291979232072140316:=zt
def tw1071758951481625677:=zt
def tw629923933349803875:=zt
def tw12486275311842473248:=zt
def tw5979552131147746060:=zt
def tw3947027518615909236:=zt
def tw390486074890527986:=zt
def tw12516825666573736243:=zt
def tw10869905440769814855:=zt
def tw11217224673949905976:=zt
def tw13246289469573031759:=zt
def tw4577321736460258296:=zt
def tw11014832858273372202:=zt
def tw17919113772088219580:=zt
def tw17874464088139847934:=zt
def tw7238563998678639121:=zt
def tw6960404774542748249:=zt
def tw2045317716203709140:=zt
def tw17881918933557177112:=zt
def tw8032964582011700898:=zt
def tw14680001125222404323:=zt
def tw16440959837369377906:=zt
def tw1776585634174559177:=zt
def tw11275306803636760756:=zt
def tw14792491403247924006:=zt
def tw18400110637063594308:=zt
def tw607502367611550129:=zt
def tw14561032514740821755:=zt
def tw11265996149606202541:=zt
def tw16412028362711536314:=zt
def tw2577291509437373446:=zt
def tw942806359567302042:=zt
def tw8713602784875433132:=zt
def tw17270039697573729170:=zt
def tw12519311256860832673:=zt
def tw1046507709423199634:=zt
def tw17167624130546122985:=zt
def tw8175485436411384654:=zt
def tw4421528960752466134:=zt
def tw7006113534528487735:=zt
def tw17348718843276404435:=zt
def tw15984876432645794281:=zt
def tw4835242798704560897:=zt
def tw7407235809363603040:=zt
def tw13814691744300165857:=zt
def tw15177931859994201067:=zt
def tw6213645806653709132:=zt
def tw3912981303030305286:=zt
def tw9095168962757520508:=zt
def tw5609107751080199751:=zt
def tw4363665195764183720:=zt
def tw7142547156310170995:=zt
def tw13530671969183742789:=zt
def tw17897161453970925425:=zt
def tw15403068032698625950:=zt
def tw8793033269841343548:=zt
def tw651569306552380613:=zt
def tw15669464680494727819:=zt
def tw18228734888859047771:=zt
def tw13101193012441036287:=zt
def tw4853215706657971779:=zt
def tw1571652631178895695:=zt
def tw14303417983420562277:=zt
def tw14218250117523757455:=zt
def tw15139126869042539878:=zt
def tw3472781373763930194:=zt
def tw12070384529314991442:=zt
def tw16289009394226880572:=zt
def tw8613438111414745084:=zt
def tw9158496489856576225:=zt
def tw17143624596493827367:=zt
def tw8624300055113183201:=zt
def tw5907971233580347166:=zt
def tw18413064968911254480:=zt
def tw10123353947935275656:=zt
def tw10273650365957511650:=zt
def tw10375076275033903067:=zt
def tw8044551127666703393:=zt
def tw9672504196219370118:=zt
def tw3775384760405705966:=zt
def tw1480218987811917245:=zt
def tw12696705307232237942:=zt
def tw774186547387377508:=zt
def tw333615923420094707:=zt
def tw13516217546141200298:=zt
def tw8171537929844810568:=zt
def tw7777354676561881908:=zt
def tw10030044643308151067:=zt
def tw3762216872559064509:=zt
def tw8111635383344231048:=zt
def tw1063960103004037902:=zt
def tw3279794437880345884:=zt
def tw13661421135907255723:=zt
def tw261204235495258138:=zt
def tw18439062704744464900:=zt
def tw314139560877983501:=zt
def tw4577257258923254727:=zt
def tw8868099696879380325:=zt
def tw5772137332382503123:=zt
def tw15861351827128820864:=zt
def tw14299543673764937645:=zt
def tw1084355143993139718:=zt
def tw7980427127025268314:=zt
def tw3792392302042260555:=zt
def tw4158536423147593951:=zt
def tw5413758292782342471:=zt
def tw14405886549697638015:=zt
def tw10052313010637220491:=zt
def tw15018096999217421595:=zt
def tw10534617097330882043:=zt
def tw1060530565848655197:=zt
def tw3086665557174389699:=zt
def tw13032624027294621330:=zt
def tw13347433924931479052:=zt
def tw12895828963070381277:=zt
def tw17894042231084406668:=zt
def tw12290992021487165459:=zt
def tw9024594581067218093:=zt
def tw50471371296976955:=zt
def tw3589490383204395334:=zt
def tw15743678007092463812:=zt
def tw5955396417612904139:=zt
def tw4940776470360368373:=zt
def tw6920607482388910073:=zt
def tw14337007449674825177:=zt
def tw17221114213094772202:=zt
def tw14932837454481838197:=zt
def tw9033255575928376301:=zt
def tw2837174294140996530:=zt
def tw12602742201992315575:=zt
def tw11440184552081450370:=zt
def tw16733331820005311134:=zt
def tw12373794410993906022:=zt
def tw217584800964852519:=zt
def tw8086676381139436045:=zt
def tw2042345631434755558:=zt
def tw6852742733655490294:=zt
def tw15396343213962038326:=zt
def tw1218699649147176364:=zt
def tw6869610091500063707:=zt
def tw459067479245072149:=zt
def tw18440282871301266550:=zt
def tw11220643276142658112:=zt
def tw9298199481627959253:=zt
def tw16107114673206814912:=zt
def tw6752216405254506145:=zt
def tw8974021999282276201:=zt
def tw2668337104544576197:=zt
def tw5555099143771591284:=zt
def tw17595134966526662328:=zt
def tw4228280953396838302:=zt
def tw9821889045221983622:=zt
def tw4072926666700517565:=zt
def tw5234668094490851552:=zt
def tw9130309637966835200:=zt
def tw3020242515772413084:=zt
def tw15279054671952970032:=zt
def tw5130589554137970973:=zt
def tw9546759343073741702:=zt
def tw14984400326188099459:=zt
def tw15356388163924924251:=zt
def tw65517810368651003:=zt
def tw14590198015088120235:=zt
def tw6899097021370640633:=zt
def tw9648351400291753073:=zt
def tw820484163823985599:=zt
def tw8470752166360703237:=zt
def tw3231140848421316104:=zt
def tw5027679911453005018:=zt
def tw9350850180795831088:=zt
def tw6835530220076074239:=zt
def tw18348136480771706458:=zt
def tw4409110196237328752:=zt
def tw1694644223935244149:=zt
def tw8876666622069048621:=zt
def tw15196826853423990669:=zt
def tw668452083072856719:=zt
def tw10502147378315868521:=zt
def tw10806799350856084316:=zt
def tw2204267821673627441:=zt
def tw14879616578256397801:=zt
def tw9504187933065059132:=zt
def tw2772228826314791284:=zt
def tw2353653908871155248:=zt
def tw11360174743456334585:=zt
def tw11045185376260315736:=zt
def tw13398645105328994087:=zt
def tw14679094770868404203:=zt
def tw13114938228100923005:=zt
def tw10507258803164890656:=zt
def tw14803639049191170787:=zt
def tw11028946033709750762:=zt
def tw10080865031732462604:=zt
def tw12827554266352673557:=zt
def tw12446410391627466560:=zt
def tw16222396147729720035:=zt
def tw13722037228552518913:=zt
def tw3399118911646577632:=zt
def tw933666298110211702:=zt
def tw17448958290975472591:=zt
def tw6666751555932809701:=zt
def tw14110194706843748956:=zt
def tw5341340397403469944:=zt
def tw14718146389301991890:=zt
def tw2390170116399510362:=zt
def tw7964899683075092027:=zt
def tw4994640875635029749:=zt
def tw2562862864911143159:=zt
def tw13886276347997662685:=zt
def tw4347738125986214849:=zt
def tw11127528238023767775:=zt
def tw13294060486281960645:=zt
def tw17288012291241750208:=zt
def tw514342250200593503:=zt
def tw174111786741157016:=zt
def tw7672274945444735535:=zt
def tw10217020741757091847:=zt
def tw11352191702540806800:=zt
def tw5938887154958884182:=zt
def tw1850948918173836562:=zt
def tw16901681000583101378:=zt
def tw5378684736630419168:=zt
def tw4193231269920313700:=zt
def tw18301657412610218121:=zt
def tw6754128985960205170:=zt
def tw310375788440028892:=zt
def tw10937701418033576188:=zt
def tw4813980197297223490:=zt
def tw15341549668201332114:=zt
def tw4602027486214920753:=zt
def tw11910197337487647782:=zt
def tw12805106951375828181:=zt
def tw1521052160211593810:=zt
def tw2309957168861990454:=zt
def tw5034279440193000889:=zt
def tw16473870605648051521:=zt
def tw16913370239709124197:=zt
def tw6764287007440495753:=zt
def tw5752831485315678044:=zt
def tw5609164406234003451:=zt
def tw15998715858631814132:=zt
def tw3191312532649724493:=zt
def tw3642800141585142340:=zt
def tw2931638130528897366:=zt
def tw6451059257908970074:=zt
def tw3356342638863655222:=zt
def tw12362390926279971048:=zt
def tw16012894152889623973:=zt
def tw744643210549248888:=zt
def tw17263338657374991271:=zt
def tw13685929900838137559:=zt
def tw7787993091833969891:=zt
def tw9804454615208833819:=zt
def tw11040696762933622257:=zt
def tw2455950238336424855:=zt
def tw1143743879622038152:=zt
def tw3475717068012567755:=zt
def tw2858781218490112439:=zt
def tw1141414747213314587:=zt
def tw647889262601633726:=zt
def tw6255334845267531747:=zt
def tw3803773471081096240:=zt
def tw12751542293807561981:=zt
def tw2303617777532338813:=zt
def tw4569644461657924474:=zt
def tw14974835646448885025:=zt
def tw17700070361378200518:=zt
def tw11151618431260668149:=zt
def tw6998447077992327970:=zt
def tw18399524349131101464:=zt
def tw10751013333164263249:=zt
def tw15341145064240537592:=zt
def tw16559320983552133451:=zt
def tw11956340105261640367:=zt
def tw4209705868830592742:=zt
def tw1372733023581988956:=zt
def tw5328908829525145557:=zt
def tw12960231407115627578:=zt
def tw1669267049297431780:=zt
def tw13617526361754129333:=zt
def tw10283189694226415954:=zt
def tw913268680040738334:=zt
def tw12615786072928360984:=zt
def tw6470967127419847791:=zt
def tw915459557009656535:=zt
def tw11858548458541245710:=zt
def tw1222766045884162476:=zt
def tw11884221925979129867:=zt
def tw8284358331712475399:=zt
def tw3846860265579834995:=zt
def tw8936310797280893885:=zt
def tw10482248923427081003:=zt
def tw9198154184982669680:=zt
def tw17197101790075791456:=zt
def tw6822137011640290331:=zt
def tw11941223270534846590:=zt
def tw2573912244096602106:=zt
def tw1756974261136972872:=zt
def tw3519766163371959984:=zt
def tw10957281119888233628:=zt
def tw13749343165143152877:=zt
def tw324489421426220313:=zt
def tw2555885432979376578:=zt
def tw15848638368276421567:=zt
def tw16347478391647561531:=zt
def tw5376675588104293698:=zt
def tw11234513342018634095:=zt
def tw10941919777655175978:=zt
def tw3951469112754307930:=zt
def tw12040238782845532420:=zt
def tw4617131506746858647:=zt
def tw9470358911917432812:=zt
def tw12317087621452904085:=zt
def tw8776343411798424999:=zt
def tw18193156354560829287:=zt
def tw908434157426741660:=zt
def tw4223793786749604960:=zt
def tw4827706655642351355:=zt
def tw11158527127448314522:=zt
def tw11537735292820164447:=zt
def tw4013917100176217253:=zt
def tw17165366628892559223:=zt
def tw8263483854815225895:=zt
def tw3655942239774176196:=zt
def tw5934596753181175044:=zt
def tw12060696976348218711:=zt
def tw15948671816728534904:=zt
def tw16713232132917433052:=zt
def tw5609310256505416171:=zt
def tw4202902706462948001:=zt
def tw326098097675497869:=zt
def tw7472850626652792060:=zt
def tw12873694903246973264:=zt
def tw13151677647231510575:=zt
def tw13855228770971290349:=zt
def tw4725029247671952944:=zt
def tw11729756860657907048:=zt
def tw17457667872731661381:=zt
def tw12645030998239498985:=zt
def tw5616352524563760267:=zt
def tw7903764296920664696:=zt
def tw2858982175479255425:=zt
def tw12132845381847025116:=zt
def tw488282061527139597:=zt
def tw15190589165950066115:=zt
def tw12577307952516978136:=zt
def tw11125016800385315242:=zt
def tw4920692798431892540:=zt
def tw14169252725378363873:=zt
def tw10042472372790098033:=zt
def tw14740297177702248611:=zt
def tw16601406389174655506:=zt
def tw18227734055190982579:=zt
def tw10214653650308603304:=zt
def tw9323984324381110707:=zt
def tw14044662864958472311:=zt
def tw6083630846671927475:=zt
def tw6766750584895240070:=zt
def tw6062978789869158574:=zt
def tw15401590573869318318:=zt
def tw17665784104381264181:=zt
def tw1165290669024859617:=zt
def tw10097042721731877570:=zt
def tw5894150567210128672:=zt
def tw10564484132428859810:=zt
def tw8540989066431037301:=zt
def tw11841793710964619736:=zt
def tw11212202694204986601:=zt
def tw16342220037528673305:=zt
def tw9415241232240249928:=zt
def tw10193747143598812985:=zt
def tw9875721719733606461:=zt
def tw10736021769558857929:=zt
def tw15038856977137513382:=zt
def tw12739740091039502317:=zt
def tw6294784409083997476:=zt
def tw7137368743315682867:=zt
def tw16565890170928318045:=zt
def tw4246512743536807738:=zt
def tw8802891273695935635:=zt
def tw11567928031477097711:=zt
def tw3531003516723713499:=zt
def tw15624366020791460750:=zt
def tw14317894973839016003:=zt
def tw7502483095594236368:=zt
def tw12996590130907271001:=zt
def tw803479500704407442:=zt
def tw2109840543402340803:=zt
def tw8581299704369186313:=zt
def tw2298867922103950491:=zt
def tw3318277875420175107:=zt
def tw10674127521754029787:=zt
def tw16572039919109814598:=zt
def tw3895404598079094816:=zt
def tw14089135842609159862:=zt
def tw8770863561035285204:=zt
def tw1111268452543388035:=zt
def tw10847984745524199004:=zt
def tw3175967126907620365:=zt
def tw13378908149008344930:=zt
def tw4045301608655012812:=zt
def tw6158577569850056695:=zt
def tw9441727406621671463:=zt
def tw11840035366328723743:=zt
def tw4374674024017730481:=zt
def tw6905867802020742982:=zt
def tw119592537302902727:=zt
def tw16118352541520828440:=zt
def tw8424397925118070864:=zt
def tw14960533876428941818:=zt
def tw793106757099979127:=zt
def tw5671410946111101160:=zt
def tw7725608849143995303:=zt
def tw7238938194640107657:=zt
def tw14899322827726642369:=zt
def tw16463987768067129886:=zt
def tw10161383576015742141:=zt
def tw17693766337589112854:=zt
def tw7009880249230354587:=zt
def tw7732040298534793447:=zt
def tw10454499845274689584:=zt
def tw1800434330453692121:=zt
def tw5626458214525104969:=zt
def tw17953353110182806619:=zt
def tw13608351124779047002:=zt
def tw15268943811317049358:=zt
def tw4362341662954565829:=zt
def tw7585370714116324452:=zt
def tw5366680300365635940:=zt
def tw10438081959701249730:=zt
def tw9630872499876178757:=zt
def tw4792835157524339125:=zt
def tw15570900607174459383:=zt
def tw15269212173534242781:=zt
def tw10550058085900360782:=zt
def tw242284141060362795:=zt
def tw13285192197439184114:=zt
def tw17664013575371959374:=zt
def tw17069687433893091488:=zt
def tw5151673517939017739:=zt
def tw951301955680655675:=zt
def tw15416770440441391061:=zt
def tw536735550422057364:=zt
def tw865569576188577590:=zt
def tw15204450276075511290:=zt
def tw14323760553163910358:=zt
def tw9747826048518083634:=zt
def tw15712478083728383133:=zt
def tw16284665906745099163:=zt
def tw10940072526225951446:=zt
def tw14846500426279493240:=zt
def tw13902181197748453576:=zt
def tw8519627622451636551:=zt
def tw14794804618116088640:=zt
def tw10979623893157945921:=zt
def tw12205773667562353873:=zt
def tw7826148317496344238:=zt
def tw1826589971977253687:=zt
def tw2475780727161614935:=zt
def tw15509925550372568926:=zt
def tw9344672308968828281:=zt
def tw7807903194040765995:=zt
def tw16359885258406485737:=zt
def tw2231129535594363812:=zt
def tw16614970698274931341:=zt
def tw5899585957626378338:=zt
def tw11298458193414674642:=zt
def tw17245882197206119258:=zt
def tw17679284828262752641:=zt
def tw1240554925837047051:=zt
def tw17669398443006674829:=zt
def tw17252475864416942281:=zt
def tw14639632112664908971:=zt
def tw15263070440694900457:=zt
def tw11990810427610584167:=zt
def tw16061927278505360425:=zt
def tw4308184298168929027:=zt
def tw2272206125483411951:=zt
def tw1804193461221710809:=zt
def tw1828479003748720036:=zt
def tw4795125660689407991:=zt
def tw2755646190437261329:=zt
def tw11578838697843792943:=zt
def tw8657244575099642553:=zt
def tw6799532956686463713:=zt
def tw3986505424837083541:=zt
def tw12311976408055830699:=zt
def tw1853312801590915028:=zt
def tw15736422946621759037:=zt
def tw13404798466667193715:=zt
def tw3884567775093491391:=zt
def tw10510435078599646153:=zt
def tw8187784848162586025:=zt
def tw5634246456158367422:=zt
def tw15039410143092620533:=zt
def tw13139702547767663641:=zt
def tw12254592915548668967:=zt
def tw11389054339411051163:=zt
def tw2231315776704446166:=zt
def tw7269112040191120043:=zt
def tw10996726026153564500:=zt
def tw3532245240874556857:=zt
def tw11587441613861109026:=zt
def tw4545142635871204323:=zt
def tw4858605948513608216:=zt
def tw3459973570540802270:=zt
def tw5823207834838235175:=zt
def tw11540335711273211226:=zt
def tw12122658995576575584:=zt
def tw6373339943282435999:=zt
def tw1810700927668652565:=zt
def tw15804129609719652090:=zt
def tw11515313785091685606:=zt
def tw3851174378848443393:=zt
def tw9942736420154544752:=zt
def tw3526898709517814410:=zt
def tw9472123236216000707:=zt
def tw14629993498572985041:=zt
def tw17221981065887476232:=zt
def tw1709620118769436177:=zt
def tw725661773438857184:=zt
def tw17843018412002428673:=zt
def tw4727917359821033061:=zt
def tw6675065610270240653:=zt
def tw6508124425482068628:=zt
end Mine.Tactic.head
local macro_rules (kind:=PySem.W.tacticO_head_)|s=>if s[1][1][1].getNumArgs==3 then pure (s.setArg 1 (Mine.Tactic.yS "~Mine.Tactic.hook2 $0 null1 Mapp2" [s[1]])) else Lean.Macro.throwUnsupported
set_option Elab.async true
set_option maxHeartbeats 0 in
theorem Mine.Tactic.head:PySem.Challenge.rw_aa0062_01.Holds:=by
  (w_on;o_law;k_head;(case hw=>w_witness2))
  refine zlL rfl (λP=>?_) (by kernel_rfl) (by kernel_rfl)
  exact {
    names:=by kernel_rfl,
    deque:=by kernel_rfl,
    frees:=by kernel_rfl,
    fns:=by kernel_rfl,
    bind1:=λv=>by kernel_rfl,
    bind2:=λu v=>by kernel_rfl,
    bind4:=λa b c d=>by kernel_rfl,
    bindN:=λv=>by kernel_rfl,
    bindI:=λa b S=>by kernel_rfl,
    bindL:=λa b c S=>by kernel_rfl,
    bindS:=λv S=>by kernel_rfl,
    meths:=by kernel_rfl,
    lex:=⟨zbL (by kernel_rfl),by kernel_rfl,by kernel_rfl,by kernel_rfl,by kernel_rfl,zfo (by kernel_rfl)⟩,
    star:=⟨zbL (by kernel_rfl),by kernel_rfl,by kernel_rfl,by kernel_rfl,by kernel_rfl,zfo (by kernel_rfl)⟩,
    sio:=⟨zbL (by kernel_rfl),by kernel_rfl,by kernel_rfl,by kernel_rfl,by kernel_rfl,zfo (by kernel_rfl)⟩,
    walk:=⟨by kernel_rfl,by kernel_rfl,λS=>by kernel_rfl⟩,
    rep:=⟨by kernel_rfl,λS=>by kernel_rfl⟩,
    find:=⟨by kernel_rfl,by kernel_rfl,by kernel_rfl⟩,
    kind:=⟨λS=>by kernel_rfl,λS=>by kernel_rfl,λS=>by kernel_rfl,λv S=>by kernel_rfl,λS=>by kernel_rfl,λS=>by kernel_rfl,λS=>by kernel_rfl,let ⟨a,b,c,h1,h2⟩:=zcj (q:=λcd=>!cd.hasDel) (by kernel_rfl);⟨a,b,c,h1,by simpa using h2⟩⟩,
    newM:=⟨let ⟨a,b,c,h1,h2⟩:=zcj (q:=λcd=>!cd.mro.isEmpty) (by kernel_rfl);⟨a,b,c,h1,by simpa using h2⟩,λS=>by kernel_rfl,λS=>by kernel_rfl,λS=>by kernel_rfl,by kernel_rfl,by kernel_rfl,zcC (by kernel_rfl),λS=>by kernel_rfl⟩,
    newS:=⟨let ⟨a,b,c,h1,h2⟩:=zcj (q:=λcd=>!cd.mro.isEmpty) (by kernel_rfl);⟨a,b,c,h1,by simpa using h2⟩,λS=>by kernel_rfl,λS=>by kernel_rfl,λS=>by kernel_rfl,by kernel_rfl,by kernel_rfl,zcC (by kernel_rfl),λS=>by kernel_rfl⟩,
    raw:=⟨λS=>by kernel_rfl,λS=>by kernel_rfl,λS=>by kernel_rfl,let ⟨a,b,c,h1,h2⟩:=zcj (q:=λcd=>!cd.abstract && !cd.hasDel) (by kernel_rfl);⟨a,b,c,h1,by simpa using h2⟩⟩,
    bio:=by kernel_rfl,
    makes:=by kernel_rfl,
    keep:=by kernel_rfl,
    noLen:=by kernel_rfl,
    noHint:=by kernel_rfl,
    prop:=⟨by kernel_rfl,by kernel_rfl,by kernel_rfl,by kernel_rfl⟩,
    joinC:=by kernel_rfl,
    joinK:=by kernel_rfl,
    joinF:=⟨by kernel_rfl,by kernel_rfl,by kernel_rfl,by kernel_rfl,by kernel_rfl⟩,
    bindR:=λu v S=>by kernel_rfl}
theorem PySem.Challenge.cw_aa0062_01_holds : PySem.Challenge.rw_aa0062_01.Holds :=
  Mine.Tactic.head
