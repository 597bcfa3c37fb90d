import PyProof.Rows.All
import Wide.All
import OpenK.AllK
import Wide.FinOn
import PyProof.WalksEnum
import Lean
import PySem.Challenge.RW_ti0051_01
set_option Elab.async false
set_option linter.unusedVariables false
set_option linter.unusedSimpArgs false
section
open PySem PySem.W PyProof.Rows
namespace Mine
/-- the table of the code of _Accumulator.__str__, empty as yet -/
abbrev tabObj : Obj := { cls := .none, data := .fields #[] }
def addTab (K : Params → Frag) : Params → Frag := fun P => (135, tabObj) :: K P
/-- a small text; its twin fills the names that the head would fill with large proofs that it can do without -/
def foo : Str := Str.ofString "a"
theorem foo_eq : foo = foo := rfl
name_quick tw8075568018651887793 for Mine.foo by Mine.foo_eq
name_quick tw14979626087600564940 for Mine.foo by Mine.foo_eq
name_quick tw4920008330666586197 for Mine.foo by Mine.foo_eq
name_quick tw6687977663306933591 for Mine.foo by Mine.foo_eq
name_quick tw947111536369973478 for Mine.foo by Mine.foo_eq
name_quick tw2863104935802047882 for Mine.foo by Mine.foo_eq
name_quick tw2835016802697616593 for Mine.foo by Mine.foo_eq
name_quick tw425412329055275883 for Mine.foo by Mine.foo_eq
name_quick tw11520701649476022134 for Mine.foo by Mine.foo_eq
name_quick tw12299960069397203266 for Mine.foo by Mine.foo_eq
name_quick tw6434138532213402376 for Mine.foo by Mine.foo_eq
name_quick tw1061100674550078846 for Mine.foo by Mine.foo_eq
name_quick tw14884601019740666482 for Mine.foo by Mine.foo_eq
name_quick tw13981391230805400906 for Mine.foo by Mine.foo_eq
name_quick tw10887116778572429059 for Mine.foo by Mine.foo_eq
name_quick tw8119918657739134586 for Mine.foo by Mine.foo_eq
name_quick tw16643379632663270332 for Mine.foo by Mine.foo_eq
name_quick tw16590896929057906003 for Mine.foo by Mine.foo_eq
name_quick tw5706481520468235054 for Mine.foo by Mine.foo_eq
name_quick tw3202819846352761355 for Mine.foo by Mine.foo_eq
name_quick tw6936260988540860943 for Mine.foo by Mine.foo_eq
name_quick tw3657741979558153257 for Mine.foo by Mine.foo_eq
name_quick tw17828083071136270317 for Mine.foo by Mine.foo_eq
name_quick tw14559557019303687921 for Mine.foo by Mine.foo_eq
name_quick tw2611137233208623240 for Mine.foo by Mine.foo_eq
name_quick tw13016732220969518872 for Mine.foo by Mine.foo_eq
name_quick tw10007627690174824804 for Mine.foo by Mine.foo_eq
name_quick tw12659028871203227004 for Mine.foo by Mine.foo_eq
name_quick tw7299303143086499733 for Mine.foo by Mine.foo_eq
name_quick tw16846860572762119324 for Mine.foo by Mine.foo_eq
name_quick tw2039238271031011813 for Mine.foo by Mine.foo_eq
name_quick tw7392212959928792091 for Mine.foo by Mine.foo_eq
name_quick tw16548257151911338427 for Mine.foo by Mine.foo_eq
name_quick tw4090926877573551719 for Mine.foo by Mine.foo_eq
name_quick tw10205541121877940668 for Mine.foo by Mine.foo_eq
name_quick tw13759679279233594173 for Mine.foo by Mine.foo_eq
name_quick tw9759809726879904816 for Mine.foo by Mine.foo_eq
name_quick tw11985326045990495214 for Mine.foo by Mine.foo_eq
name_quick tw15490439104401381959 for Mine.foo by Mine.foo_eq
name_quick tw8753696776887207221 for Mine.foo by Mine.foo_eq
name_quick tw7323676302269181137 for Mine.foo by Mine.foo_eq
name_quick tw1402947280878808549 for Mine.foo by Mine.foo_eq
name_quick tw17100903815162463580 for Mine.foo by Mine.foo_eq
name_quick tw8206430501311747189 for Mine.foo by Mine.foo_eq
name_quick tw12290603225136948437 for Mine.foo by Mine.foo_eq
name_quick tw10942035263794033107 for Mine.foo by Mine.foo_eq
name_quick tw1291980286583624508 for Mine.foo by Mine.foo_eq
name_quick tw117213463901210413 for Mine.foo by Mine.foo_eq
name_quick tw17730428716208468724 for Mine.foo by Mine.foo_eq
name_quick tw17532440430192770315 for Mine.foo by Mine.foo_eq
name_quick tw3152983702415266003 for Mine.foo by Mine.foo_eq
name_quick tw5529568453561195837 for Mine.foo by Mine.foo_eq
name_quick tw11317593695737139937 for Mine.foo by Mine.foo_eq
name_quick tw5770868932273138760 for Mine.foo by Mine.foo_eq
name_quick tw16643706677886111943 for Mine.foo by Mine.foo_eq
name_quick tw4558998842232669794 for Mine.foo by Mine.foo_eq
name_quick tw7275051467321613617 for Mine.foo by Mine.foo_eq
name_quick tw1702518465993881591 for Mine.foo by Mine.foo_eq
name_quick tw15742981410569661332 for Mine.foo by Mine.foo_eq
name_quick tw505943868828395459 for Mine.foo by Mine.foo_eq
name_quick tw10833955939284561965 for Mine.foo by Mine.foo_eq
name_quick tw3560238982266916124 for Mine.foo by Mine.foo_eq
name_quick tw8703263022893421829 for Mine.foo by Mine.foo_eq
name_quick tw10948738476641704880 for Mine.foo by Mine.foo_eq
name_quick tw9862997608875712007 for Mine.foo by Mine.foo_eq
name_quick tw12945451867199242903 for Mine.foo by Mine.foo_eq
name_quick tw17000155066101142889 for Mine.foo by Mine.foo_eq
name_quick tw15894407043143930727 for Mine.foo by Mine.foo_eq
name_quick tw8537084889766193716 for Mine.foo by Mine.foo_eq
name_quick tw1537898542681612871 for Mine.foo by Mine.foo_eq
name_quick tw151948405760981731 for Mine.foo by Mine.foo_eq
name_quick tw14834023430324568649 for Mine.foo by Mine.foo_eq
name_quick tw14530364306720264245 for Mine.foo by Mine.foo_eq
name_quick tw7269565832213808900 for Mine.foo by Mine.foo_eq
name_quick tw1218959903707654005 for Mine.foo by Mine.foo_eq
name_quick tw11588390666370768167 for Mine.foo by Mine.foo_eq
name_quick tw3976722010076183465 for Mine.foo by Mine.foo_eq
name_quick tw7232422423428716515 for Mine.foo by Mine.foo_eq
name_quick tw282004115355043989 for Mine.foo by Mine.foo_eq
name_quick tw1962928258387122110 for Mine.foo by Mine.foo_eq
name_quick tw6122645084068987007 for Mine.foo by Mine.foo_eq
name_quick tw18340240734955500558 for Mine.foo by Mine.foo_eq
name_quick tw4933834842325187142 for Mine.foo by Mine.foo_eq
name_quick tw17000458434675057986 for Mine.foo by Mine.foo_eq
name_quick tw13892231520521813962 for Mine.foo by Mine.foo_eq
name_quick tw8727135674562949291 for Mine.foo by Mine.foo_eq
name_quick tw9407582987413476825 for Mine.foo by Mine.foo_eq
name_quick tw2478078296215019888 for Mine.foo by Mine.foo_eq
name_quick tw13890744642731562755 for Mine.foo by Mine.foo_eq
name_quick tw7892128664451923741 for Mine.foo by Mine.foo_eq
name_quick tw17111948838632640456 for Mine.foo by Mine.foo_eq
name_quick tw4679858250743294509 for Mine.foo by Mine.foo_eq
name_quick tw951843321253372498 for Mine.foo by Mine.foo_eq
name_quick tw3105397867545767578 for Mine.foo by Mine.foo_eq
name_quick tw13335737130258781183 for Mine.foo by Mine.foo_eq
name_quick tw12233582284571471492 for Mine.foo by Mine.foo_eq
name_quick tw6679490504615227074 for Mine.foo by Mine.foo_eq
name_quick tw682011567655089306 for Mine.foo by Mine.foo_eq
name_quick tw4549333791460862111 for Mine.foo by Mine.foo_eq
name_quick tw662354867322794072 for Mine.foo by Mine.foo_eq
name_quick tw4797165386629745026 for Mine.foo by Mine.foo_eq
name_quick tw1355338860687761863 for Mine.foo by Mine.foo_eq
name_quick tw15007238320947547705 for Mine.foo by Mine.foo_eq
name_quick tw14168537005229113720 for Mine.foo by Mine.foo_eq
name_quick tw16414604833108395602 for Mine.foo by Mine.foo_eq
name_quick tw18101931140130867144 for Mine.foo by Mine.foo_eq
name_quick tw17069979004554194336 for Mine.foo by Mine.foo_eq
name_quick tw15066959818950650227 for Mine.foo by Mine.foo_eq
name_quick tw8693227569615203950 for Mine.foo by Mine.foo_eq
name_quick tw10421914624479474965 for Mine.foo by Mine.foo_eq
name_quick tw17672482021469178181 for Mine.foo by Mine.foo_eq
name_quick tw11420187438672877268 for Mine.foo by Mine.foo_eq
name_quick tw932993149863042379 for Mine.foo by Mine.foo_eq
name_quick tw18211773271919218964 for Mine.foo by Mine.foo_eq
name_quick tw10996506086634736982 for Mine.foo by Mine.foo_eq
name_quick tw13789449189825218787 for Mine.foo by Mine.foo_eq
name_quick tw11130039905162102590 for Mine.foo by Mine.foo_eq
name_quick tw387338674003428930 for Mine.foo by Mine.foo_eq
name_quick tw3766158894648301139 for Mine.foo by Mine.foo_eq
name_quick tw14433975572909055671 for Mine.foo by Mine.foo_eq
name_quick tw11853533878840232495 for Mine.foo by Mine.foo_eq
name_quick tw11445135464325071761 for Mine.foo by Mine.foo_eq
name_quick tw15278061642289888581 for Mine.foo by Mine.foo_eq
name_quick tw18260038339965228139 for Mine.foo by Mine.foo_eq
name_quick tw7276740287692124622 for Mine.foo by Mine.foo_eq
name_quick tw15475462885187679331 for Mine.foo by Mine.foo_eq
name_quick tw10010936943081839664 for Mine.foo by Mine.foo_eq
name_quick tw8579058602437062094 for Mine.foo by Mine.foo_eq
name_quick tw7745614565497352828 for Mine.foo by Mine.foo_eq
name_quick tw16145008321745377990 for Mine.foo by Mine.foo_eq
name_quick tw16049961110935095269 for Mine.foo by Mine.foo_eq
name_quick tw704327219915372674 for Mine.foo by Mine.foo_eq
name_quick tw14108194823987119177 for Mine.foo by Mine.foo_eq
name_quick tw13678640442995254988 for Mine.foo by Mine.foo_eq
name_quick tw8595292554425487202 for Mine.foo by Mine.foo_eq
name_quick tw15168306246750427876 for Mine.foo by Mine.foo_eq
name_quick tw17988542015724977305 for Mine.foo by Mine.foo_eq
name_quick tw12604385984515802295 for Mine.foo by Mine.foo_eq
name_quick tw10227693086864044499 for Mine.foo by Mine.foo_eq
name_quick tw16018607276475445134 for Mine.foo by Mine.foo_eq
name_quick tw17975652961387846372 for Mine.foo by Mine.foo_eq
name_quick tw13254397897704925713 for Mine.foo by Mine.foo_eq
name_quick tw6004533443673955352 for Mine.foo by Mine.foo_eq
name_quick tw4527066259768149269 for Mine.foo by Mine.foo_eq
name_quick tw3282434896037501709 for Mine.foo by Mine.foo_eq
name_quick tw3972328310683599613 for Mine.foo by Mine.foo_eq
name_quick tw13900631225919944168 for Mine.foo by Mine.foo_eq
name_quick tw4980102563643897964 for Mine.foo by Mine.foo_eq
name_quick tw4011157648589011858 for Mine.foo by Mine.foo_eq
name_quick tw2719445374943340272 for Mine.foo by Mine.foo_eq
name_quick tw14311459727803291754 for Mine.foo by Mine.foo_eq
name_quick tw17018628822417861297 for Mine.foo by Mine.foo_eq
name_quick tw13215998728584607739 for Mine.foo by Mine.foo_eq
name_quick tw1333364371103165705 for Mine.foo by Mine.foo_eq
name_quick tw10424941004445345732 for Mine.foo by Mine.foo_eq
name_quick tw136631920214876835 for Mine.foo by Mine.foo_eq
name_quick tw2627984346626558326 for Mine.foo by Mine.foo_eq
name_quick tw4071324889030633612 for Mine.foo by Mine.foo_eq
name_quick tw470574548607681690 for Mine.foo by Mine.foo_eq
name_quick tw13512673800721320934 for Mine.foo by Mine.foo_eq
name_quick tw16741492637210864865 for Mine.foo by Mine.foo_eq
name_quick tw3778451253796500701 for Mine.foo by Mine.foo_eq
name_quick tw6448080314894763839 for Mine.foo by Mine.foo_eq
name_quick tw9011979029575296479 for Mine.foo by Mine.foo_eq
name_quick tw6380047634161181297 for Mine.foo by Mine.foo_eq
name_quick tw16531745337717519161 for Mine.foo by Mine.foo_eq
name_quick tw6929956602132211858 for Mine.foo by Mine.foo_eq
name_quick tw13236226663087606529 for Mine.foo by Mine.foo_eq
name_quick tw2862820112641550484 for Mine.foo by Mine.foo_eq
name_quick tw17532718790514356516 for Mine.foo by Mine.foo_eq
name_quick tw14537914154153760125 for Mine.foo by Mine.foo_eq
name_quick tw6589095468515690095 for Mine.foo by Mine.foo_eq
name_quick tw14386061602966655976 for Mine.foo by Mine.foo_eq
name_quick tw14126943448341045398 for Mine.foo by Mine.foo_eq
name_quick tw4292500188555128830 for Mine.foo by Mine.foo_eq
name_quick tw1258299570235058372 for Mine.foo by Mine.foo_eq
name_quick tw18350330562280901221 for Mine.foo by Mine.foo_eq
name_quick tw8603108125212654177 for Mine.foo by Mine.foo_eq
name_quick tw7250012664060256230 for Mine.foo by Mine.foo_eq
name_quick tw43969757491396457 for Mine.foo by Mine.foo_eq
name_quick tw1258717718454355964 for Mine.foo by Mine.foo_eq
name_quick tw3093977132361051618 for Mine.foo by Mine.foo_eq
name_quick tw10528696920762540405 for Mine.foo by Mine.foo_eq
name_quick tw17730448691065144110 for Mine.foo by Mine.foo_eq
name_quick tw3619232141914619222 for Mine.foo by Mine.foo_eq
name_quick tw1829445100760108279 for Mine.foo by Mine.foo_eq
name_quick tw12268644228514654432 for Mine.foo by Mine.foo_eq
name_quick tw5978237884098788730 for Mine.foo by Mine.foo_eq
name_quick tw13607416678640721797 for Mine.foo by Mine.foo_eq
name_quick tw17964007177503468958 for Mine.foo by Mine.foo_eq
name_quick tw17164873540382356111 for Mine.foo by Mine.foo_eq
name_quick tw14333388528381170442 for Mine.foo by Mine.foo_eq
name_quick tw16817318245366136608 for Mine.foo by Mine.foo_eq
name_quick tw1503297043503765363 for Mine.foo by Mine.foo_eq
name_quick tw5721027456603625697 for Mine.foo by Mine.foo_eq
name_quick tw13317431791736044220 for Mine.foo by Mine.foo_eq
name_quick tw16350708796919097252 for Mine.foo by Mine.foo_eq
name_quick tw5189142188285759775 for Mine.foo by Mine.foo_eq
name_quick tw17954471519018878134 for Mine.foo by Mine.foo_eq
name_quick tw4302124980754421698 for Mine.foo by Mine.foo_eq
name_quick tw16593013826814733010 for Mine.foo by Mine.foo_eq
name_quick tw5349121933718820234 for Mine.foo by Mine.foo_eq
name_quick tw9136488742655976645 for Mine.foo by Mine.foo_eq
name_quick tw5396446701170858492 for Mine.foo by Mine.foo_eq
name_quick tw11186114360453789277 for Mine.foo by Mine.foo_eq
name_quick tw11788150170368784547 for Mine.foo by Mine.foo_eq
name_quick tw9315938663221665524 for Mine.foo by Mine.foo_eq
name_quick tw14553827428707814869 for Mine.foo by Mine.foo_eq
name_quick tw9948023125614773506 for Mine.foo by Mine.foo_eq
name_quick tw10938465397075749097 for Mine.foo by Mine.foo_eq
name_quick tw392140993173905013 for Mine.foo by Mine.foo_eq
name_quick tw18056578402003937789 for Mine.foo by Mine.foo_eq
name_quick tw10029231156530900338 for Mine.foo by Mine.foo_eq
name_quick tw17497748084772794779 for Mine.foo by Mine.foo_eq
name_quick tw4552823106982906706 for Mine.foo by Mine.foo_eq
name_quick tw10706342367453228570 for Mine.foo by Mine.foo_eq
name_quick tw9908251947323293946 for Mine.foo by Mine.foo_eq
name_quick tw6792406925840432001 for Mine.foo by Mine.foo_eq
name_quick tw12866136484021002089 for Mine.foo by Mine.foo_eq
name_quick tw6683783046931543321 for Mine.foo by Mine.foo_eq
name_quick tw8424611434330503625 for Mine.foo by Mine.foo_eq
name_quick tw11729385059970357855 for Mine.foo by Mine.foo_eq
name_quick tw14326252917377295143 for Mine.foo by Mine.foo_eq
name_quick tw6654550962395885724 for Mine.foo by Mine.foo_eq
name_quick tw6245536207120538393 for Mine.foo by Mine.foo_eq
name_quick tw16349804527192203551 for Mine.foo by Mine.foo_eq
name_quick tw5200128776193632040 for Mine.foo by Mine.foo_eq
name_quick tw1377046205977697930 for Mine.foo by Mine.foo_eq
name_quick tw9564595351457756722 for Mine.foo by Mine.foo_eq
name_quick tw5902227825499142635 for Mine.foo by Mine.foo_eq
name_quick tw3764465048917985505 for Mine.foo by Mine.foo_eq
name_quick tw17279654841073493023 for Mine.foo by Mine.foo_eq
name_quick tw11566699232636054958 for Mine.foo by Mine.foo_eq
section
local macro_rules | `(tactic| o_head (kHook $K $as $e)) => `(tactic| o_head ((kHook (addTab $K) (135 :: $as) (fun _ => by kernel_rfl))))
set_option maxRecDepth 100000 in
set_option maxHeartbeats 8000000 in
open_top hd for PySem.Challenge.rw_ti0051_01
end
end Mine
end
namespace Mine
section
open PySem PySem.W PyProof.Rows
local macro_rules | `(tactic| k_room) => `(tactic| ktr_room)
section
open PySem PySem.W PyProof.Rows

noncomputable abbrev LS : List Str := looseW hd.view_39 [Str.ofString "Whitespace", Str.ofString "_Accumulator", Str.ofString "EXACT_TOKEN_TYPES"]
noncomputable abbrev Led := List (Addr × Obj)

/-- the first place of the least rank among n places from lo -/
noncomputable def loosest (rs : List Int) (lo : Nat) : Nat → Nat
  | 0 => lo
  | n + 1 => if rs.getD (lo + (n + 1)) 0 < rs.getD (loosest rs lo n) 0 then lo + (n + 1) else loosest rs lo n
end
section
open PySem PySem.W PyProof.Rows
local macro_rules | `(tactic| omega) => `(tactic| lia)
section
open PySem PySem.W PyProof.Rows
set_option maxRecDepth 100000
section
variable {prog : Program} {w : World} {A : Around} {E : Value → Shared → Prop} {s : Shared}

theorem lt_int_in {a b : Int} {t u : Tok} {Q : Value → Shared → Prop} (h : Q (.bool (decide (a < b))) s) : wpAny (model prog w) A (richCompare .Lt (.int a t) (.int b u)) Q E s :=
  richCompare_gives (op := .Lt) (typeIs_int s _ t) (typeIs_int s _ u) PySem.F.slot_int_lt PySem.F.entry_int_lt (PySem.F.args_int_lt_2 _ _) (gives_int_lt _ _ t u) (fun x => nomatch x) h

theorem lt_pair {x y : Addr} {a b c d : Int} {t1 t2 t3 t4 : Tok} {Q : Value → Shared → Prop} (hu : A.units < cLine) (hx : IsTup s.heap x #[.int a t1, .int b t2]) (hy : IsTup s.heap y #[.int c t3, .int d t4])
    (h : Q (.bool (decide (a < c ∨ (a = c ∧ b < d)))) s) : wpAny (model prog w) A (richCompare .Lt (.ref x) (.ref y)) Q E s := by
  refine wpAny_richCompare_same_room hx.typeIs hy.typeIs PySem.F.slot_tuple_lt (wpAny_call_entry PySem.F.slot_tuple_lt hx.typeIs PySem.F.entry_tuple_lt ?_ (PySem.F.args_tuple_lt_2 _ _)) hu
  unfold Builtin.«tuple.__lt__»
  show wpAny _ _ (slotArgs _ _ _ >>= _) _ _ s
  refine wpAny_bind (wpAny_of_eq (show slotArgs "__lt__" 1 ⟨[.ref x, .ref y], []⟩ = pure (.ref x, [.ref y]) from rfl) ?_)
  show wpAny _ _ (isInstance _ _ >>= _) _ _ s
  refine wpAny_bind (wpAny_isInstance hy.typeIs (b := true) (by rw [isSubtype_type]; kernel_rfl) ?_)
  refine wpAny_bind (tupleItemsOf_ hx ?_)
  refine wpAny_bind (tupleItemsOf_ hy ?_)
  show wpAny _ _ (forIn [(Value.int a t1, Value.int c t3), (Value.int b t2, Value.int d t4)] (none, ()) _ >>= _) _ _ s
  rw [List.forIn_cons]
  refine wpAny_bind (wpAny_bind (wpAny_bind (wpAny_eqBool_int ?_)))
  cases e1 : a == c with
  | false =>
    have e1' : a ≠ c := by simpa using e1
    rw [if_pos (by rfl)]
    refine wpAny_bind (wpAny_rule (wpAny_bind (lt_int_in ?_)))
    refine wpAny_bind (wpAny_pure (wpAny_pure (wpAny_pure (wpAny_pure ⟨_, rfl, (fun x => nomatch x), ?_⟩))))
    rw [show decide (a < c) = decide (a < c ∨ (a = c ∧ b < d)) from by simp [e1']]
    exact h
  | true =>
    have e1' : a = c := by simpa using e1
    rw [if_neg (by simp)]
    refine wpAny_pure ?_
    dsimp only
    rw [List.forIn_cons]
    refine wpAny_bind (wpAny_bind (wpAny_eqBool_int ?_))
    cases e2 : b == d with
    | false =>
      rw [if_pos (by rfl)]
      refine wpAny_bind (wpAny_rule (wpAny_bind (lt_int_in ?_)))
      refine wpAny_bind (wpAny_pure (wpAny_pure (wpAny_pure (wpAny_pure ⟨_, rfl, (fun x => nomatch x), ?_⟩))))
      rw [show decide (b < d) = decide (a < c ∨ (a = c ∧ b < d)) from by simp [e1']]
      exact h
    | true =>
      have e2' : b = d := by simpa using e2
      rw [if_neg (by simp)]
      refine wpAny_pure ?_
      dsimp only
      rw [List.forIn_nil]
      refine wpAny_pure (wpAny_pure ⟨_, rfl, (fun x => nomatch x), ?_⟩)
      subst e1' e2'
      have e : Builtin.Tuple.tupleCompareSizes .Lt 2 2 = .bool false := rfl
      simpa [e] using h

/-- min over a list whose items are compared in any heap that keeps what stood -/
theorem min_loop_keep {l I S : Addr} {vs : List Value} {G : Heap → Prop} {R : Result → Shared → Prop} (bt : Nat → Nat → Bool) (hh : A.handled = none) (hlI : l ≠ I) (hSI : S ≠ I) (hSl : S ≠ l)
    (hG : ∀ h h', G h → (∀ b o, b ≠ I → b ≠ S → h.get? b = some o → h'.get? b = some o) → G h')
    (hcmp : ∀ i j vi vj (s' : Shared) (Q' : Value → Shared → Prop) (E' : Value → Shared → Prop), G s'.heap → vs[i]? = some vi → vs[j]? = some vj → Q' (.bool (bt i j)) s' → wpAny (model prog w) A.in1 (richCompare .Lt vi vj) Q' E' s')
    (hR : ∀ v h' tk, vs[argBest bt (vs.length - 1)]? = some v → G h' → R (.ok (.ret v)) { s with heap := h', toks := tk }) :
    ∀ (k j : Nat) (h : Heap) (tk : Nat) (vb : Value) (c : Nat), vs.length - (j + 1) = k → j + 1 ≤ vs.length → h.IsListIter I l (j + 1) → h.IsList l vs.toArray → G h → vs[argBest bt j]? = some vb →
    h.get? S = some { cls := .type "list", dict := none, data := .seq #[vb, vb] c, slots := #[] } →
    codeAny (model prog w) A (.builtin "min.loop" ⟨[.ref I, .none, .ref S], []⟩) R { s with heap := h, toks := tk } := by
  have hname : (toString "min" ++ toString ".loop" : String) = "min.loop" := by decide
  have W := Walks.list (prog := prog) (w := w) (A := A.in1) hh I l hlI vs.toArray
  have hsz : vs.toArray.size = vs.length := List.size_toArray ..
  intro k
  induction k with
  | zero =>
    intro j h tk vb c hk hj hit hl hg hPb hS
    have hin : j + 1 = vs.length := by omega
    refine codeAny_builtin PySem.F.entry_min_loop ?_
    rw [Around.under_plainId PySem.F.plain_min_loop _]
    show wpAny _ A.in1 (seqItems? (.ref S) >>= _) _ _ _
    refine wpAny_bind (wpAny_seqItems hS rfl ?_)
    show wpAny _ A.in1 (tryCatch (pyNext (.ref I)) _ >>= _) _ _ _
    refine wpAny_bind (wpAny_tryCatch (W.done _ _ _ ⟨by rw [hsz, ← hin]; exact hit, hl⟩ fun h' tk' hk' => ?_))
    have hS' := hk' S _ (by simpa using hSI) hS
    show wpAny _ A.in1 (updateSeq S (fun _ => #[]) >>= _) _ _ _
    refine wpAny_bind ?_
    refine wpAny_updateSeq hS' rfl (wpAny_bind (wpAny_letGo (wpAny_pure ?_)))
    refine hR vb _ tk' (by rw [show vs.length - 1 = j from by omega]; exact hPb) (hG _ _ hg fun b o hbI hbS e => ?_)
    exact (Heap.get?_update_other _ _ (Ne.symm hbS)).trans (hk' b o (by simpa using hbI) e)
  | succ k ih =>
    intro j h tk vb c hk hj hit hl hg hPb hS
    have hlt : j + 1 < vs.length := by omega
    refine codeAny_builtin PySem.F.entry_min_loop ?_
    rw [Around.under_plainId PySem.F.plain_min_loop _]
    show wpAny _ A.in1 (seqItems? (.ref S) >>= _) _ _ _
    refine wpAny_bind (wpAny_seqItems hS rfl ?_)
    show wpAny _ A.in1 (tryCatch (pyNext (.ref I)) _ >>= _) _ _ _
    refine wpAny_bind (wpAny_tryCatch (W.item (j + 1) _ _ _ (by rw [hsz]; exact hlt) ⟨hit, hl⟩ fun v h' tk' hP hst' hk' => ?_))
    have hv : vs[j + 1]? = some v := by simpa using hP
    have hS' := hk' S _ (by simpa using hSI) hS
    have hg' : G h' := hG _ _ hg fun b o hbI _ e => hk' b o (by simpa using hbI) e
    show wpAny _ A.in1 (tryCatch (holding [v, v] (richCompare .Lt v vb >>= _)) _ >>= _) _ _ _
    refine wpAny_bind (wpAny_tryCatch (wpAny_holding (wpAny_bind (hcmp (j + 1) (argBest bt j) v vb _ _ _ hg' hv hPb ?_))))
    refine wpAny_bind (wpAny_holding (wpAny_truthy_bool ?_))
    refine wpAny_bind (wpAny_letGo (wpAny_pure ?_))
    cases hb : bt (j + 1) (argBest bt j) with
    | true =>
      simp only [if_true]
      refine wpAny_bind ?_
      refine wpAny_updateSeq hS' rfl (wpAny_bind (wpAny_letGo ?_))
      rw [hname]
      have up : ∀ b o, b ≠ S → h'.get? b = some o → (h'.update S (Obj.mapSeq fun _ => #[v, v])).get? b = some o := fun b o hbS e => (Heap.get?_update_other _ _ (Ne.symm hbS)).trans e
      refine wpAny_pure ⟨plainId_quiet PySem.F.plain_min_loop _, ih (j + 1) _ _ v _ (by omega) hlt ?_ ?_ (hG _ _ hg' fun b o _ hbS e => up b o hbS e) (by simp only [argBest, hb, if_true]; exact hv) (Heap.get?_update_self _ hS' rfl)⟩
      · obtain ⟨o, ho, r⟩ := hst'.1
        exact ⟨o, up _ _ (Ne.symm hSI) ho, r⟩
      · obtain ⟨o, ho, r⟩ := hst'.2
        exact ⟨o, up _ _ (Ne.symm hSl) ho, r⟩
    | false =>
      simp only [Bool.false_eq_true, if_false]
      refine wpAny_bind (wpAny_letGo ?_)
      rw [hname]
      exact wpAny_pure ⟨plainId_quiet PySem.F.plain_min_loop _, ih (j + 1) _ _ vb c (by omega) hlt hst'.1 hst'.2 hg' (by simp only [argBest, hb, Bool.false_eq_true, if_false]; exact hPb) hS'⟩

theorem min_list {l : Addr} {vs : List Value} {Q : Value → Shared → Prop} (bt : Nat → Nat → Bool) (hh : A.handled = none) (hl : s.heap.IsList l vs.toArray) (hne : 0 < vs.length)
    (hcmp : ∀ i j vi vj (s' : Shared) (Q' : Value → Shared → Prop) (E' : Value → Shared → Prop), (∀ b o, s.heap.get? b = some o → s'.heap.get? b = some o) → vs[i]? = some vi → vs[j]? = some vj → Q' (.bool (bt i j)) s' → wpAny (model prog w) A.in1 (richCompare .Lt vi vj) Q' E' s')
    (h : ∀ v h' tk, vs[argBest bt (vs.length - 1)]? = some v → (∀ b o, s.heap.get? b = some o → h'.get? b = some o) → Q v { s with heap := h', toks := tk }) :
    wpAny (model prog w) A (call (.builtin "min") [.ref l]) Q E s := by
  have hname : (toString "min" ++ toString ".loop" : String) = "min.loop" := by decide
  have hll : l < s.heap.objs.size := by obtain ⟨_, e, _⟩ := hl; exact Heap.lt_size e
  refine call_function_tree PySem.F.kind_min PySem.F.plain_min PySem.F.entry_min (PySem.F.args_min1 _) ?_
  show wpAny _ A.in1 (Builtin.Builtins.bindParams "min" ["key", "default"] 0 ⟨[], []⟩ >>= _) _ _ s
  refine wpAny_bind (wpAny_of_eq (show Builtin.Builtins.bindParams "min" ["key", "default"] 0 ⟨[], []⟩ = pure [none, none] from rfl) ?_)
  refine wpAny_bind (wpAny_pure ?_)
  refine wpAny_bind (wpAny_pyIter_list hl ?_)
  refine wpAny_bind (wpAny_newObj_type ?_)
  rw [hname]
  have gI : ((s.heap.push { cls := .type "list_iterator", data := .fields #[.ref l, .int 0 0] }).push { cls := .type "list", data := .seq #[] }).get? s.heap.objs.size = some { cls := .type "list_iterator", data := .fields #[.ref l, .int 0 0] } :=
    Heap.get?_push_of_some _ (Heap.get?_push_size _ rfl)
  have hS1 : (s.heap.push { cls := .type "list_iterator", data := .fields #[.ref l, .int 0 0] }).objs.size = s.heap.objs.size + 1 := Heap.size_push ..
  have gS : ((s.heap.push { cls := .type "list_iterator", data := .fields #[.ref l, .int 0 0] }).push { cls := .type "list", data := .seq #[] }).get? (s.heap.push { cls := .type "list_iterator", data := .fields #[.ref l, .int 0 0] }).objs.size = some { cls := .type "list", data := .seq #[] } := Heap.get?_push_size _ rfl
  have old : ∀ b o, s.heap.get? b = some o → ((s.heap.push { cls := .type "list_iterator", data := .fields #[.ref l, .int 0 0] }).push { cls := .type "list", data := .seq #[] }).get? b = some o := fun b o e => Heap.get?_push_of_some _ (Heap.get?_push_of_some _ e)
  have hlI : l ≠ s.heap.objs.size := Nat.ne_of_lt hll
  have hSI : (s.heap.push { cls := .type "list_iterator", data := .fields #[.ref l, .int 0 0] }).objs.size ≠ s.heap.objs.size := by rw [hS1]; exact Nat.ne_of_gt (Nat.lt_succ_self _)
  have hSl : (s.heap.push { cls := .type "list_iterator", data := .fields #[.ref l, .int 0 0] }).objs.size ≠ l := by rw [hS1]; exact Nat.ne_of_gt (Nat.lt_succ_of_lt hll)
  refine wpAny_pure ⟨plainId_quiet PySem.F.plain_min_loop _, ?_⟩
  generalize hI : s.heap.objs.size = I at *
  generalize hS : (s.heap.push { cls := .type "list_iterator", data := .fields #[.ref l, .int 0 0] }).objs.size = S at *
  generalize hH : (s.heap.push { cls := .type "list_iterator", data := .fields #[.ref l, .int 0 0] }).push { cls := .type "list", data := .seq #[] } = H at *
  have W := Walks.list (prog := prog) (w := w) (A := A.in1) hh I l hlI vs.toArray
  have hsz : vs.toArray.size = vs.length := List.size_toArray ..
  refine codeAny_builtin PySem.F.entry_min_loop ?_
  rw [Around.under_plainId PySem.F.plain_min_loop _]
  show wpAny _ A.in1 (seqItems? (.ref S) >>= _) _ _ _
  refine wpAny_bind (wpAny_seqItems gS rfl ?_)
  show wpAny _ A.in1 (tryCatch (pyNext (.ref I)) _ >>= _) _ _ _
  have hlH : H.IsList l vs.toArray := by obtain ⟨o, ho, r⟩ := hl; exact ⟨o, old _ _ ho, r⟩
  refine wpAny_bind (wpAny_tryCatch (W.item 0 _ _ _ (by rw [hsz]; exact hne) ⟨⟨_, gI, rfl, rfl⟩, hlH⟩ fun v h' tk' hP hst' hk' => ?_))
  have hv : vs[0]? = some v := by simpa using hP
  have hS' := hk' S _ (by simpa using hSI) gS
  show wpAny _ A.in1 (updateSeq S (fun _ => #[v, v]) >>= _) _ _ _
  refine wpAny_bind ?_
  refine wpAny_updateSeq hS' rfl ?_
  rw [hname]
  have up : ∀ b o, b ≠ S → h'.get? b = some o → (h'.update S (Obj.mapSeq fun _ => #[v, v])).get? b = some o := fun b o hbS e => (Heap.get?_update_other _ _ (Ne.symm hbS)).trans e
  have notI : ∀ b o, s.heap.get? b = some o → b ≠ I ∧ b ≠ S := fun b o e => by
    have z := Heap.lt_size e
    rw [hI] at z
    exact ⟨Nat.ne_of_lt z, by rw [hS1]; exact Nat.ne_of_lt (Nat.lt_succ_of_lt z)⟩
  refine wpAny_pure ⟨plainId_quiet PySem.F.plain_min_loop _, ?_⟩
  refine min_loop_keep (s := s) (G := fun g => ∀ b o, s.heap.get? b = some o → g.get? b = some o) bt hh hlI hSI hSl (fun g g' hg k b o e => k b o (notI b o e).1 (notI b o e).2 (hg b o e))
    (fun i j vi vj s' Q' E' hg hi hj hq => hcmp i j vi vj s' Q' E' hg hi hj hq) (fun v' g tk hv' hg => h v' g tk hv' hg) _ 0 _ tk' v _ rfl hne ?_ ?_ (fun b o e => ?_) hv (Heap.get?_update_self _ hS' rfl)
  · obtain ⟨o, ho, r⟩ := hst'.1
    exact ⟨o, up _ _ (Ne.symm hSI) ho, r⟩
  · obtain ⟨o, ho, r⟩ := hst'.2
    exact ⟨o, up _ _ (Ne.symm hSl) ho, r⟩
  · exact up b o (notI b o e).2 (hk' b o (by simpa using (notI b o e).1) (old b o e))
end

section
variable {prog : Program} {w : World} {A : Around} {h₀ : Heap} {L : Addr} {m : Str → Option Value} {env : Env} {elt ct : Expr} {x : Str} {scope : Scope} {cl : List (Str × Addr)} {s : Shared} {S : List (Addr × Obj) → Prop} {P : Nat → Value → Prop} {Fin : List Value → List (Addr × Obj) → Prop} {news : List (Addr × Obj)}

/-- a comprehension without a test, by an invariant over what it has made -/
theorem rest_ind {n : Nat} (Inv : Nat → List Value → List (Addr × Obj) → Prop) (start : Inv 0 [] news)
    (turn : ∀ i ys news' v I oI C oC D m₂ h tk (E' : Value → Shared → Prop), i < n → Inv i ys news' → P i v → LCg.NsObj oC m₂ → m₂ x = some v → Fr h₀ L h m → News h₀ L h ((I, oI) :: (C, oC) :: (D, LCg.lst ys) :: news') → LCg.Off3 I C D news' → ((@Ne Nat I C) ∧ (@Ne Nat I D) ∧ (@Ne Nat C D)) →
      wpAny (model prog w) A (eval elt (compEnvC scope cl C env)) (LCg.CompEnd h₀ L m { s with heap := h, toks := tk } I oI C oC D (LCg.lst ys) S (fun y news'' => Inv (i + 1) (ys ++ [y]) news'')) E' { s with heap := h, toks := tk })
    (fin : ∀ ys news', Inv n ys news' → Fin ys news') : LCg.CompRest prog w A h₀ L m env elt x scope cl s S P Fin n 0 [] news := by
  have key : ∀ (j i : Nat) (ys : List Value) (nw : List (Addr × Obj)), i + j = n → Inv i ys nw → LCg.CompRest prog w A h₀ L m env elt x scope cl s S P Fin j i ys nw := by
    intro j
    induction j with
    | zero =>
      intro i ys nw hi hv
      obtain rfl : i = n := by omega
      exact LCg.CompRest.zero (fin ys nw hv)
    | succ j ih =>
      intro i ys nw hi hinv
      refine LCg.CompRest.succ fun v I oI C oC D m₂ h tk E' hv hC hx F N off ne => ?_
      refine wpAny_mono (turn i ys nw v I oI C oC D m₂ h tk E' (by omega) hinv hv hC hx F N off ne) (fun y s₂ hq => ?_) fun _ _ e => e
      obtain ⟨h', tk', nw', e, F', N', off', hS, hI⟩ := hq
      exact ⟨h', tk', nw', e, F', N', off', hS, ih (i + 1) _ _ (by omega) hI⟩
  exact key n 0 [] news (by omega) start

/-- the same with one test -/
theorem restT_ind {n : Nat} (Inv : Nat → List Value → List (Addr × Obj) → Prop) (start : Inv 0 [] news)
    (turn : ∀ i ys news' v I oI C oC D m₂ h tk (E' : Value → Shared → Prop), i < n → Inv i ys news' → P i v → LCg.NsObj oC m₂ → m₂ x = some v → Fr h₀ L h m → News h₀ L h ((I, oI) :: (C, oC) :: (D, LCg.lst ys) :: news') → LCg.Off3 I C D news' → ((@Ne Nat I C) ∧ (@Ne Nat I D) ∧ (@Ne Nat C D)) →
      wpAny (model prog w) A (isTrue ct (compEnvC scope cl C env) (eval ct (compEnvC scope cl C env))) (fun ok s' => if ok = true then
        wpAny (model prog w) A (eval elt (compEnvC scope cl C env)) (LCg.CompEnd h₀ L m { s with heap := h, toks := tk } I oI C oC D (LCg.lst ys) S (fun y news'' => Inv (i + 1) (ys ++ [y]) news'')) E' s'
        else LCg.CompEnd h₀ L m { s with heap := h, toks := tk } I oI C oC D (LCg.lst ys) S (fun _ news'' => Inv (i + 1) ys news'') Value.none s') E' { s with heap := h, toks := tk })
    (fin : ∀ ys news', Inv n ys news' → Fin ys news') : LCt.CompRestT prog w A h₀ L m env ct elt x scope cl s S P Fin n 0 [] news := by
  have key : ∀ (j i : Nat) (ys : List Value) (nw : List (Addr × Obj)), i + j = n → Inv i ys nw → LCt.CompRestT prog w A h₀ L m env ct elt x scope cl s S P Fin j i ys nw := by
    intro j
    induction j with
    | zero =>
      intro i ys nw hi hv
      obtain rfl : i = n := by omega
      exact LCt.CompRestT.zero (fin ys nw hv)
    | succ j ih =>
      intro i ys nw hi hinv
      refine LCt.CompRestT.succ fun v I oI C oC D m₂ h tk E' hv hC hx F N off ne => ?_
      refine wpAny_mono (turn i ys nw v I oI C oC D m₂ h tk E' (by omega) hinv hv hC hx F N off ne) (fun ok s₂ hq => ?_) fun _ _ e => e
      cases ok with
      | true =>
        simp only [if_true] at hq ⊢
        refine wpAny_mono hq (fun y s₃ hq' => ?_) fun _ _ e => e
        obtain ⟨h', tk', nw', e, F', N', off', hS, hI⟩ := hq'
        exact ⟨h', tk', nw', e, F', N', off', hS, ih (i + 1) _ _ (by omega) hI⟩
      | false =>
        simp only [Bool.false_eq_true, if_false] at hq ⊢
        obtain ⟨h', tk', nw', e, F', N', off', hS, hI⟩ := hq
        exact ⟨h', tk', nw', e, F', N', off', hS, ih (i + 1) _ _ (by omega) hI⟩
  exact key n 0 [] news (by omega) start
end

section
variable {h₀ : Heap} {L I C D T : Addr} {m : Str → Option Value} {s₁ : Shared} {oI oC oD o : Obj} {S : List (Addr × Obj) → Prop} {rest : Value → List (Addr × Obj) → Prop} {y : Value} {h' : Heap} {tk : Nat} {nw : List (Addr × Obj)}
theorem Off3.of' {I C D : Addr} {l : List (Addr × Obj)} (h : ∀ p ∈ l, p.1 ≠ I ∧ p.1 ≠ C ∧ p.1 ≠ D) : LCg.Off3 I C D l := LCg.Off3.of h
/-- a turn's end: nothing new is kept -/
theorem compEnd0 (F : Fr h₀ L h' m) (N : News h₀ L h' ((I, oI) :: (C, oC) :: (D, oD) :: nw)) (off : LCg.Off3 I C D nw) (hS : S nw) (r : rest y nw) : LCg.CompEnd h₀ L m s₁ I oI C oC D oD S rest y { s₁ with heap := h', toks := tk } :=
  LCg.CompEnd.intro F N nw (fun _ h => h) off hS r
/-- a turn's end: one new object is kept -/
theorem compEnd1 (F : Fr h₀ L h' m) (N : News h₀ L h' ((T, o) :: (I, oI) :: (C, oC) :: (D, oD) :: nw)) (hT : ∀ p ∈ (I, oI) :: (C, oC) :: (D, oD) :: nw, p.1 < T) (off : LCg.Off3 I C D nw) (hS : S ((T, o) :: nw)) (r : rest y ((T, o) :: nw)) :
    LCg.CompEnd h₀ L m s₁ I oI C oC D oD S rest y { s₁ with heap := h', toks := tk } :=
  LCg.CompEnd.intro F N ((T, o) :: nw) (fun p hp => by
    rcases List.mem_cons.mp hp with rfl | hp
    · exact .tail _ (.head _)
    rcases List.mem_cons.mp hp with rfl | hp
    · exact .tail _ (.tail _ (.head _))
    rcases List.mem_cons.mp hp with rfl | hp
    · exact .tail _ (.tail _ (.tail _ (.head _)))
    rcases List.mem_cons.mp hp with rfl | hp
    · exact .head _
    · exact .tail _ (.tail _ (.tail _ (.tail _ hp))))
    ⟨⟨Nat.ne_of_gt (hT (I, oI) (.head _)), Nat.ne_of_gt (hT (C, oC) (.tail _ (.head _))), Nat.ne_of_gt (hT (D, oD) (.tail _ (.tail _ (.head _))))⟩, off⟩ hS r
end

theorem small_of {a b : Int} (h0 : 0 ≤ a) (h1 : a ≤ 1000000) (h2 : 0 ≤ b) (h3 : b ≤ 1000000) : Builtin.Range.small a b 1 = true := by
  unfold Builtin.Range.small Builtin.Range.rangeFitsLong
  rw [rangeSize_nat]
  simp only [Bool.and_eq_true, Bool.or_eq_true, decide_eq_true_eq]
  refine ⟨⟨⟨⟨?_, ?_⟩, ?_⟩, ?_⟩, .inr ?_⟩
  all_goals first | omega | (simp only [gt_iff_lt, if_true, show (0 : Int) < 1 from by decide, decide_eq_true_eq, Bool.and_eq_true]; omega)

/-- the walk stands here: what follows is typed by hand -/
noncomputable def Here (P : Prop) : Prop := P
theorem here_of {P : Prop} (h : Here P) : P := h

section
variable {prog : Program} {w : World} {A : Around} {E : Value → Shared → Prop} {s : Shared} {h₀ : Heap} {L D b : Addr} {m : Str → Option Value} {news news' : List (Addr × Obj)}
theorem iadd_list {its its2 : Array Value} {n n2 : Nat} {Q : Value → Shared → Prop} (hl : s.heap.get? D = some (listOf its n)) (hb : s.heap.get? b = some (listOf its2 n2)) (hsz : its.size + its2.size ≤ 1000000)
    (h : Q (.ref D) { s with heap := s.heap.update D (Obj.mapSeq fun x => x ++ its2) }) : wpAny (model prog w) A (inplaceOp .Add (.ref D) (.ref b)) Q E s := by
  have hlk : typeLookup (.type "list") (dunderI "add") = pure (some (.builtin "list.__iadd__")) := PySem.F.slot_list_iadd.lookup
  unfold inplaceOp
  refine wpAny_holding ?_
  have hfi : fillsInplaceSlot (.type "list") "add" (Operator.Add == .Add) = pure false := by
    unfold fillsInplaceSlot
    show (typeLookup (.type "list") (dunderI "add") >>= fun fi => _) = pure false
    rw [hlk]; rfl
  have hT : s.TypeIs (.ref D) "list" := ⟨_, hl, rfl⟩
  have hT2 : s.TypeIs (.ref b) "list" := ⟨_, hb, rfl⟩
  refine wpAny_bind (wpAny_typeOf hT (wpAny_bind (wpAny_of_eq hfi ?_)))
  show wpAny _ A (if false = true then _ else _) Q E s
  rw [if_neg Bool.false_ne_true]
  refine wpAny_bind (wpAny_binaryOp1_none (nm := "add") hT hT2 noFill_list_add ?_)
  refine wpAny_bind (wpAny_of_eq (PySem.seqSlot_of hlk (by decide +kernel)) ?_)
  refine wpAny_bind (wpAny_rule (call_meets PySem.F.slot_list_iadd hT PySem.F.entry_list_iadd (PySem.F.args_list_iadd_2 _ _) (AutoSeq1.list___iadd___list_list_0 D its n b its2 n2 ?_ ?_ ?_) ⟨hl, hb, h⟩))
  · unfold Builtin.List.listTooLong
    rw [sizeLine_eq]
    simp
    omega
  · rw [sizeLine_eq]
    omega
  · rw [sizeLine_eq]
    omega
theorem off1_mem {D : Addr} : ∀ {l : List (Addr × Obj)}, LCg.Off1 D l → ∀ p ∈ l, p.1 ≠ D
  | [], _, _, h => nomatch h
  | _ :: _, x, p, h => by
    rcases List.mem_cons.mp h with rfl | h
    · exact x.1
    · exact off1_mem x.2 p h
/-- the first of the ledger is turned -/
theorem upd_head {h : Heap} {o : Obj} {f : Obj → Obj} (F : Fr h₀ L h m) (N : News h₀ L h ((D, o) :: news)) (off : ∀ p ∈ news, p.1 ≠ D) (hf : (f o).isFreed = false) : Fr h₀ L (h.update D f) m ∧ News h₀ L (h.update D f) ((D, f o) :: news) :=
  news_upd (pre := []) F N (fun _ h => nomatch h) off rfl hf
theorem iadd_head {its its2 : Array Value} {n n2 : Nat} {Q : Value → Shared → Prop} (F : Fr h₀ L s.heap m) (N : News h₀ L s.heap ((D, listOf its n) :: news)) (off : ∀ p ∈ news, p.1 ≠ D) (hb : (b, listOf its2 n2) ∈ news) (hsz : its.size + its2.size ≤ 1000000)
    (h : ∀ h' n', Fr h₀ L h' m → News h₀ L h' ((D, listOf (its ++ its2) n') :: news) → Q (.ref D) { s with heap := h' }) : wpAny (model prog w) A (inplaceOp .Add (.ref D) (.ref b)) Q E s := by
  refine iadd_list (N _ (.head _)).1 (N _ (.tail _ hb)).1 hsz ?_
  obtain ⟨F', N'⟩ := upd_head (f := Obj.mapSeq fun x => x ++ its2) F N off rfl
  exact h _ _ F' N'
end
end
section
open PySem PySem.W PyProof.Rows
set_option maxRecDepth 100000
section
variable {prog : Program} {w : World} {A : Around} {E : Value → Shared → Prop} {s : Shared} {h₀ : Heap} {L D b l : Addr} {m : Str → Option Value} {news : List (Addr × Obj)} {Q : Value → Shared → Prop}
/-- list * int -/
theorem mulK {its : Array Value} {k : Nat} {x : Int} {u : Tok} (F : Fr h₀ L s.heap m) (N : News h₀ L s.heap news) (hm : (l, listOf its k) ∈ news) (hlo : -1000000 ≤ x) (hhi : x ≤ 1000000) (hsz : its.size * x.toNat ≤ 1000000)
    (h : ∀ D h', Fr h₀ L h' m → News h₀ L h' ((D, listOf (List.replicate x.toNat its.toList).flatten.toArray 0) :: news) → (∀ p ∈ news, p.1 < D) → Q (.ref D) { s with heap := h' }) :
    wpAny (model prog w) A (binaryOp .Mult (.ref l) (.int x u)) Q E s :=
  mul_list F N (N _ hm).1 (by omega) (by omega) (by omega) fun h' F' N' => by
    rw [listMul_foldl_if] at N'
    exact h _ h' F' N' fun p hp => Heap.lt_size (N p hp).1
/-- list + list -/
theorem addK {its its2 : Array Value} {n n2 : Nat} (F : Fr h₀ L s.heap m) (N : News h₀ L s.heap news) (hl : (l, listOf its n) ∈ news) (hb : (b, listOf its2 n2) ∈ news) (hsz : its.size + its2.size ≤ 1000000)
    (h : ∀ D h', Fr h₀ L h' m → News h₀ L h' ((D, listOf (its.toList ++ its2.toList).toArray 0) :: news) → (∀ p ∈ news, p.1 < D) → Q (.ref D) { s with heap := h' }) :
    wpAny (model prog w) A (binaryOp .Add (.ref l) (.ref b)) Q E s :=
  add_arrays F N ⟨_, (N _ hl).1, rfl, _, rfl⟩ ⟨_, (N _ hb).1, rfl, _, rfl⟩ (fun h' F' N' => h _ h' F' N' fun p hp => Heap.lt_size (N p hp).1) (by rw [sizeLine_eq]; omega)
theorem pick_from {its : Array Value} {x : Int} (h : 0 ≤ x) : (slicePick its (some x) none none).toList = its.toList.drop x.toNat := by
  obtain ⟨n, rfl⟩ := Int.eq_ofNat_of_zero_le h
  rw [slicePick_from']
  simp
theorem pick_upto {its : Array Value} {y : Int} (h : 0 ≤ y) : (slicePick its none (some y) none).toList = its.toList.take y.toNat := by
  obtain ⟨n, rfl⟩ := Int.eq_ofNat_of_zero_le h
  rw [slicePick_upto']
  simp
end
end
section
open PySem PySem.W PyProof.Rows PySem.Spec PySem.Calls
open PyProof.Rows.LCg PyProof.Rows.LCt
set_option maxRecDepth 100000
section
variable {prog : Program} {w : World} {A : Around} {E : Value → Shared → Prop} {s : Shared} {h₀ : Heap} {L : Addr} {m : Str → Option Value} {env : Env}

noncomputable abbrev tupObj (its : Array Value) (n : Nat) : Obj := { cls := .type "tuple", data := .seq its n }
/-- a comprehension with a test over a tuple, its value bound to a name -/
theorem Assign_ListComp_Tup {ct elt iter : Expr} {x y : Str} {px py : Pos} {scope : Scope} {cl : List (Str × Addr)} {pos spos : Pos} {Q : Flow → Shared → Prop} {hx₀ : Heap} (F₀ : Fr h₀ L hx₀ m) (hLe : env.locals = L)
    (hsw : swapsWith (.ListComp elt [⟨.Name x px, iter, [ct], 0⟩] scope pos) (some (.Name y py)) spos.line env = pure true)
    (hclos : closureFor scope env = pure cl) (hcell : ∀ z ∈ scope.names, z.2 ≠ .cell) (hkind : scope.kind = .function)
    (hnames : ∀ z ∈ scope.names, z.2 = .local → scope.names.lookup z.1 = some .local) (hx : scope.names.lookup x = some .local)
    (hy : env.kindOf y = some .local) (hp : (env.scope.kind == .class || (env.scope.kind == .module && env.locals != env.globals)) = false)
    (h : wpAny (model prog w) A (eval iter env) (fun xv s₁ => ∃ ax its n news, xv = .ref ax ∧ A.handled = none ∧ Fr h₀ L s₁.heap m ∧ News h₀ L s₁.heap news ∧ (ax, tupObj its n) ∈ news ∧ its.size ≤ sizeLine ∧
      ∀ s₂ : Shared, (∃ h, s₂ = { s₁ with heap := h }) → CompRestT prog w A h₀ L m env ct elt x scope cl s₂ (fun nw => (ax, tupObj its n) ∈ nw) (fun i v => its[i]? = some v) (FinA h₀ L m s₂ y Q) its.size 0 [] news) E s)
    (hs : ∀ x, foldedSetIterable iter env x = pure x := by intro _; rfl) :
    wpAny (model prog w) A (exec (.Assign [.Name y py] (.ListComp elt [⟨.Name x px, iter, [ct], 0⟩] scope pos) spos) env) Q E s := by
  subst hLe
  rw [exec_Assign_Name_used _ _ _ _ hsw]
  refine wpAny_bind (wpAny_standAt (wpAny_bind ?_))
  show wpAny _ A (do let _ ← comprehension (.ListComp elt [⟨.Name x px, iter, [ct], 0⟩] scope pos) scope env _ (newList []) false (eval iter env) (some (assign (.Name y py) env))) _ _ s
  refine wpAny_bind (wpAny_mono (wpAny_comprehension_free (use := some (assign (.Name y py) env)) (Q := fun _ s' => Q .next s') rfl hs hclos hkind hnames
    (wpAny_mono h (fun xv s₁ h₁ => ?_) fun _ _ e => e)) (fun _ s' hq => wpAny_pure (wpAny_pure hq)) fun _ _ e => e)
  obtain ⟨ax, its, n, news, rfl, hh, F, N, hm, hsz, R⟩ := h₁
  have hl : s₁.heap.IsTuple ax its := ⟨_, (N _ hm).1, rfl, _, rfl⟩
  have hlt : ax < s₁.heap.objs.size := by obtain ⟨_, e, _⟩ := hl; exact Heap.lt_size e
  refine wpAny_pyIter_tuple hl ?_
  have up : ∀ b o, s₁.heap.get? b = some o → (s₁.heap.push { cls := .type "tuple_iterator", data := .fields #[.ref ax, .int 0 0] }).get? b = some o := fun b o e => Heap.get?_push_of_some _ e
  refine block_T (Walks.tuple hh s₁.heap.objs.size ax (Nat.ne_of_lt hlt) its) hsz (fun i h st => by obtain ⟨o, e, _⟩ := st.1; exact ⟨o, e⟩)
    (fun i h h' o nw st e e' k N S => ⟨by obtain ⟨o', q, r⟩ := st.1; rw [e] at q; cases q; exact ⟨o, e', r⟩, ⟨_, (N _ S).1, rfl, _, rfl⟩⟩) hcell hkind hx
    ⟨⟨_, Heap.get?_push_size _ rfl, rfl, rfl⟩, ⟨_, up _ _ (N _ hm).1, rfl, _, rfl⟩⟩ (fun b hb => ?_)
    (F.keeps up) (N.grown up) (Nat.ne_of_lt F.ns.lt) (next_is_new F) (fun p hp => Nat.ne_of_lt (Heap.lt_size (N p hp).1)) hm (R _ ⟨_, rfl⟩) ?_
  · show b < (s₁.heap.push _).objs.size
    rw [Heap.size_push]
    rcases List.mem_cons.mp hb with rfl | hb
    · exact Nat.lt_succ_self _
    · rw [List.mem_singleton.mp hb]; exact Nat.lt_succ_of_lt hlt
  · intro D C h' tk m' ys news' F' N' o1 hn hC₀ hD₀ hCL hDL hCD offC fin
    show wpAny _ A (assign (.Name y py) env (.ref D)) _ _ _
    refine wpAny_assign_Name (wpAny_storeName_local hy F'.ns (fun h₂ hn₂ hs₂ => ?_) hp)
    have hL₀ : h₀.get? env.locals = none := Heap.get?_none_of_le F'.above
    have F₂ : Fr h₀ env.locals h₂ (fun z => if z = y then some (.ref D) else m z) := ⟨hn₂, fun b o e => hs₂.extBut b o (fun q => by rw [q, hL₀] at e; cases e) (F'.keep b o e), F'.above⟩
    refine ⟨m', hn.sameBut hs₂ hCL, fun h'' hs'' => fin D h'' _ (F₂.change hs'' hCL hC₀) (fun p hp => ?_) o1⟩
    have z : h₂.get? p.1 = some p.2 := hs₂.extBut _ _ (N' p hp).2.1 (N' p hp).1
    refine ⟨hs''.extBut _ _ ?_ z, (N' p hp).2⟩
    rcases List.mem_cons.mp hp with rfl | hp
    · exact Ne.symm hCD
    · exact offC p hp
end

/-- entries of a table of texts to ints -/
inductive TokAl : List DictEntry → List (Str × Int) → Prop
  | nil : TokAl [] []
  | cons (h : Int) (k : Str) (t : Tok) (v : Int) (u : Tok) {es : List DictEntry} {tab : List (Str × Int)} : TokAl es tab → TokAl (⟨h, .str k t, .int v u⟩ :: es) ((k, v) :: tab)
noncomputable def tokNum (tab : List (Str × Int)) (x : Str) : Option Int := (tab.find? fun p => decide (p.1 = x)).map (·.2)
theorem TokAl.find {x : Str} : ∀ {es : List DictEntry} {tab : List (Str × Int)}, TokAl es tab → match tokNum tab x with
    | none => findBy Value.isStrOf es.toArray x = none
    | some v => ∃ u, findBy Value.isStrOf es.toArray x = some (.int v u)
  | _, _, .nil => rfl
  | _, _, .cons h k t v u r => by
    have ih := TokAl.find (x := x) r
    unfold tokNum findBy at ih ⊢
    rw [List.find?_toArray] at ih ⊢
    rw [List.find?_cons, List.find?_cons]
    have e : Value.isStrOf x (.str k t) = decide (k = x) := by
      show (k == x) = decide (k = x)
      by_cases hkx : k = x
      · simp [hkx]
      · simp [hkx]
    rw [e]
    by_cases hk : k = x
    · rw [decide_eq_true hk]
      exact ⟨u, rfl⟩
    · rw [decide_eq_false hk]
      exact ih
theorem ne_of_all {l : List (Addr × Obj)} {D d : Addr} (h : ∀ p ∈ l, p.1 < D) (hd : @LE.le Nat _ D d) : ∀ p ∈ l, p.1 ≠ d := fun p hp => Nat.ne_of_lt (Nat.lt_of_lt_of_le (h p hp) hd)
end
section
open PySem PySem.W PyProof.Rows PySem.Spec PySem.Calls
open PyProof.Rows.LCg PyProof.Rows.LCt
open Builtin Builtin.Str
set_option maxRecDepth 100000
theorem sliceIdx_hi (a : Nat) {b len : Nat} (h : len ≤ b) : strSliceIndices (some (a : Int)) (some (b : Int)) 1 len = strSliceIndices (some (a : Int)) (some (len : Int)) 1 len := by
  have h1 : ¬ ((b : Int) < 0) := by omega
  have h2 : ¬ ((len : Int) < 0) := by omega
  have h3 : min (b : Int) (len : Int) = (len : Int) := by omega
  have h4 : min (len : Int) (len : Int) = (len : Int) := by omega
  simp only [strSliceIndices, h1, h2, if_false, h3, h4, show (1 : Int) > 0 from by decide, if_true]
theorem slice_text (x : Str) {p k : Nat} (hp : p ≤ x.length) : Txt.slice x (some (p : Int)) (some ((p : Int) + (k : Int))) = ⟨((x.cps.toList.drop p).take k).toArray⟩ := by
  have hc : (p : Int) + (k : Int) = ((p + k : Nat) : Int) := by omega
  rw [hc]
  by_cases hb : p + k ≤ x.length
  · have e := StrLaws.sliceText_nat x (a := p) (b := p + k) (Nat.le_add_right _ _) hb
    have z : p + k - p = k := by omega
    rw [z] at e
    exact e
  · have hb' : x.length ≤ p + k := by omega
    have e := StrLaws.sliceText_nat x (a := p) (b := x.length) hp (Nat.le_refl _)
    have q : Txt.slice x (some (p : Int)) (some ((p + k : Nat) : Int)) = Txt.slice x (some (p : Int)) (some (x.length : Int)) := by
      unfold Txt.slice
      rw [sliceIdx_hi p hb']
    rw [q]
    refine Eq.trans e ?_
    have l1 : (x.cps.toList.drop p).length = x.length - p := by simp [Str.length]
    rw [List.take_of_length_le (by rw [l1]; exact Nat.le_refl _), List.take_of_length_le (by rw [l1]; omega)]
end
section
open PySem PySem.W PyProof.Rows PySem.Spec PySem.Calls
open Builtin Builtin.Str
set_option maxRecDepth 100000
section
variable {prog : Program} {w : World} {A : Around} {E : Value → Shared → Prop} {s : Shared} {h₀ : Heap} {env : Env} {m : Str → Option Value} {news : (List (Addr × Obj))} {Q : Flow → Shared → Prop} {v : Str} {body : List Stmt}

/-- how a turn may end -/
noncomputable def TurnEnd (h₀ : Heap) (L : Addr) (I : Addr) (own : (List (Addr × Obj))) (J : (Str → Option Value) → (List (Addr × Obj)) → Prop) (s : Shared) (Q : Flow → Shared → Prop) (f : Flow) (s' : Shared) : Prop := match f with
  | .ret v => Q (.ret v) s'
  | .brk => Q .next s'
  | .cont | .next => ∃ h tk m₂ nw₂, s' = { s with heap := h, toks := tk } ∧ Fr h₀ L h m₂ ∧ News h₀ L h (own ++ nw₂) ∧ (∀ p ∈ nw₂, p.1 ≠ I) ∧ J m₂ nw₂

theorem TurnEnd.next {h₀ : Heap} {L I : Addr} {own : (List (Addr × Obj))} {J : (Str → Option Value) → (List (Addr × Obj)) → Prop} {s : Shared} {Q : Flow → Shared → Prop} {h : Heap} {tk : Nat} {m₂ : Str → Option Value} {nw₂ : (List (Addr × Obj))}
    (F : Fr h₀ L h m₂) (N : News h₀ L h (own ++ nw₂)) (off : ∀ p ∈ nw₂, p.1 ≠ I) (hJ : J m₂ nw₂) : TurnEnd h₀ L I own J s Q .next { s with heap := h, toks := tk } := ⟨h, tk, m₂, nw₂, rfl, F, N, off, hJ⟩

theorem loop_of {I : Addr} {fp : List Addr} {own₀ : (List (Addr × Obj))} {n : Nat} {P : Nat → Value → Prop} {St : Nat → Heap → Prop} (W : Walks prog w A I fp [I] n P St) (hLf : env.locals ∉ fp) (hI : h₀.get? I = none) (hnw : ∀ p ∈ news, p.1 ≠ I) (hst : St 0 s.heap)
    (F : Fr h₀ env.locals s.heap m) (N : News h₀ env.locals s.heap news) (J : Nat → (Str → Option Value) → (List (Addr × Obj)) → Prop) (h0 : J 0 m news)
    (hfp : ∀ b ∈ fp, h₀.get? b = none) (hown : ∀ i h, St i h → ∃ oI, ((I, oI) :: own₀).map (·.1) = fp ∧ h.get? I = some oI ∧ ∀ p ∈ own₀, h.get? p.1 = some p.2)
    (turn : ∀ i u m₁ nw oI h tk, i < n → P i u → J i m₁ nw → (∀ p ∈ nw, p.1 ≠ I) → Fr h₀ env.locals h (fun y => if y = v then some u else m₁ y) → News h₀ env.locals h (((I, oI) :: own₀) ++ nw) →
      wpAny (model prog w) A (execs body env) (TurnEnd h₀ env.locals I ((I, oI) :: own₀) (J (i + 1)) s Q) E { s with heap := h, toks := tk })
    (fin : ∀ h tk m' nw, Fr h₀ env.locals h m' → News h₀ env.locals h nw → J n m' nw → Q .next { s with heap := h, toks := tk }) :
    LoopAtV prog w A h₀ env v body Q E (.ref I) s := by
  refine ⟨I, fp, [I], n, P, St, m, news, J, rfl, W, hLf, ?_, ?_, hst, F, N, h0, ?_, ?_⟩
  · intro b hb
    rw [List.mem_singleton.mp hb]
    exact hI
  · intro p hp hb
    exact hnw p hp (List.mem_singleton.mp hb)
  · rintro i u m₁ nw s₁ own ⟨h, tk, rfl⟩ hi hP hJ hnw₁ hof hog hoc hst₁ F₁ N₁
    obtain ⟨oI, he, hoI, hoo⟩ := hown _ _ hst₁
    have hm : ∀ p, p ∈ ((I, oI) :: own₀) → h.get? p.1 = some p.2 := fun p hp => by
      rcases List.mem_cons.mp hp with rfl | hp
      · exact hoI
      · exact hoo p hp
    have h1 : ∀ p ∈ ((I, oI) :: own₀), p ∈ own := fun p hp => by
      have a : p.1 ∈ fp := he ▸ List.mem_map_of_mem hp
      exact hoc p.1 a (hfp _ a) p.2 (hm p hp)
    have h2 : ∀ p ∈ own, p ∈ ((I, oI) :: own₀) := fun p hp => by
      have a : p.1 ∈ fp := hof p hp
      rw [← he] at a
      obtain ⟨q, hq, e⟩ := List.mem_map.mp a
      have b := hog p hp
      have c := hm q hq
      rw [e] at c
      have d : q.2 = p.2 := Option.some.inj (c.symm.trans b)
      have : q = p := Prod.ext e d
      exact this ▸ hq
    have sub : ∀ {l l' : (List (Addr × Obj))}, (∀ p ∈ l, p ∈ l') → ∀ nw : (List (Addr × Obj)), ∀ p ∈ l ++ nw, p ∈ l' ++ nw := fun hs nw p hp => by
      rcases List.mem_append.mp hp with hp | hp
      · exact List.mem_append_left _ (hs p hp)
      · exact List.mem_append_right _ hp
    have hnw₂ : ∀ p ∈ nw, p.1 ≠ I := fun p hp e => hnw₁ p hp (by rw [e]; exact List.mem_singleton.mpr rfl)
    refine wpAny_mono (turn i u m₁ nw oI h tk hi hP hJ hnw₂ F₁ (cb_drop N₁ (sub h1 nw))) (fun f s' hf => ?_) fun _ _ e => e
    cases f with
    | ret v => exact hf
    | brk => exact hf
    | cont =>
      obtain ⟨h', tk', m₂, nw₂, rfl, F₂, N₂, o₂, J₂⟩ := hf
      exact ⟨rfl, h', tk', m₂, nw₂, rfl, F₂, cb_drop N₂ (sub h2 nw₂), fun p hp hb => o₂ p hp (List.mem_singleton.mp hb), J₂⟩
    | next =>
      obtain ⟨h', tk', m₂, nw₂, rfl, F₂, N₂, o₂, J₂⟩ := hf
      exact ⟨rfl, h', tk', m₂, nw₂, rfl, F₂, cb_drop N₂ (sub h2 nw₂), fun p hp hb => o₂ p hp (List.mem_singleton.mp hb), J₂⟩
  · intro h' tk m' nw F' N' _ J'
    exact fin h' tk m' nw F' N' J'

/-- a loop over the signs of a text -/
theorem text_loop {x : Str} {t : Tok} (hh : A.handled = none) (F : Fr h₀ env.locals s.heap m) (N : News h₀ env.locals s.heap news) (J : Nat → (Str → Option Value) → List (Addr × Obj) → Prop) (h0 : J 0 m news)
    (turn : ∀ i c u m₁ nw I oI h tk, x.cps[i]? = some c → J i m₁ nw → (∀ p ∈ nw, p.1 ≠ I) → Fr h₀ env.locals h (fun y => if y = v then some (.str ⟨#[c]⟩ u) else m₁ y) → News h₀ env.locals h ((I, oI) :: nw) →
      wpAny (model prog w) A (execs body env) (TurnEnd h₀ env.locals I [(I, oI)] (J (i + 1)) s Q) E { s with heap := h, toks := tk })
    (fin : ∀ h tk m' nw, Fr h₀ env.locals h m' → News h₀ env.locals h nw → J x.cps.size m' nw → Q .next { s with heap := h, toks := tk }) :
    wpAny (model prog w) A (pyIter (.str x t)) (fun it s₂ => LoopAtV prog w A h₀ env v body Q E it s₂) E s := by
  have hwid : wpAny (model prog w) A (pyIter (.str x t)) (fun it s₂ => ∃ (o : Obj) (St : Nat → Heap → Prop), it = .ref s.heap.objs.size ∧ s₂ = { s with heap := s.heap.push o } ∧ Walks prog w A s.heap.objs.size [s.heap.objs.size] [s.heap.objs.size] x.cps.size (SignAt x) St ∧ St 0 (s.heap.push o) ∧ ∀ i h, St i h → ∃ oI, h.get? s.heap.objs.size = some oI) E s := by
    cases ha : x.cps.all (· < 128)
    · exact wpAny_pyIter_wide ha ⟨_, _, rfl, rfl, Walks.strWide hh _ x t, ⟨_, Heap.get?_push_size _ rfl, rfl, rfl⟩, fun i h st => let ⟨o, ho, _⟩ := st; ⟨o, ho⟩⟩
    · exact wpAny_pyIter_ascii ha ⟨_, _, rfl, rfl, Walks.strAscii hh _ x t, ⟨_, Heap.get?_push_size _ rfl, rfl, rfl⟩, fun i h st => let ⟨o, ho, _⟩ := st; ⟨o, ho⟩⟩
  refine wpAny_mono hwid (fun it s₂ hw => ?_) fun _ _ e => e
  obtain ⟨o, St, rfl, rfl, W, st0, hst⟩ := hw
  have F' := Fr.pushS F o
  have N' := N.pushKeep o
  refine loop_of (own₀ := []) W (by simpa using Nat.ne_of_lt F.ns.lt) (next_is_new F) (fun p hp => Nat.ne_of_lt (Heap.lt_size (N p hp).1)) st0 F' N' J h0 (by intro b hb; rw [List.mem_singleton.mp hb]; exact next_is_new F)
    (fun i h st => by obtain ⟨oI, e⟩ := hst i h st; exact ⟨oI, rfl, e, fun _ hp => nomatch hp⟩) ?_ ?_
  · intro i u m₁ nw oI h tk hi hP hJ off F₁ N₁
    obtain ⟨c, u, hc, rfl⟩ := hP
    exact turn i c u m₁ nw _ oI h tk hc hJ off F₁ N₁
  · intro h tk m' nw F₁ N₁ hJ
    exact fin h tk m' nw F₁ N₁ hJ

/-- a loop over a list of the ledger that no turn touches -/
theorem list_loop {l : Addr} {ol : Obj} {its : Array Value} {nl : Nat} (hh : A.handled = none) (F : Fr h₀ env.locals s.heap m) (N : News h₀ env.locals s.heap ((l, ol) :: news)) (hol : ol.cls = .type "list") (hod : ol.data = .seq its nl) (J : Nat → (Str → Option Value) → List (Addr × Obj) → Prop) (h0 : J 0 m news)
    (turn : ∀ i u m₁ nw I oI h tk, its[i]? = some u → J i m₁ nw → (∀ p ∈ nw, p.1 ≠ I) → l ≠ I → Fr h₀ env.locals h (fun y => if y = v then some u else m₁ y) → News h₀ env.locals h ((I, oI) :: (l, ol) :: nw) →
      wpAny (model prog w) A (execs body env) (TurnEnd h₀ env.locals I [(I, oI), (l, ol)] (J (i + 1)) s Q) E { s with heap := h, toks := tk })
    (fin : ∀ h tk m' nw, Fr h₀ env.locals h m' → News h₀ env.locals h nw → J its.size m' nw → Q .next { s with heap := h, toks := tk }) :
    wpAny (model prog w) A (pyIter (.ref l)) (fun it s₂ => LoopAtV prog w A h₀ env v body Q E it s₂) E s := by
  have hl : s.heap.IsList l its := ⟨_, (N _ (.head _)).1, hol, nl, hod⟩
  refine wpAny_pyIter_list hl ?_
  have hlt : l < s.heap.objs.size := Heap.lt_size (N _ (.head _)).1
  have F' := Fr.pushS F { cls := .type "list_iterator", data := .fields #[.ref l, .int 0 0] }
  have N' := N.pushKeep { cls := .type "list_iterator", data := .fields #[.ref l, .int 0 0] }
  have hl' : (s.heap.push { cls := .type "list_iterator", data := .fields #[.ref l, .int 0 0] }).IsList l its := ⟨_, (N' _ (.head _)).1, hol, nl, hod⟩
  refine loop_of (n := its.size) (P := fun i v => its[i]? = some v) (own₀ := [(l, ol)]) (fp := [s.heap.objs.size, l]) (St := fun i h => (h.IsListIter s.heap.objs.size l i ∧ h.IsList l its) ∧ h.get? l = some ol) ?W ?_ (next_is_new F) (fun p hp => Nat.ne_of_lt (Heap.lt_size (N p (.tail _ hp)).1)) ⟨⟨⟨_, Heap.get?_push_size _ rfl, rfl, rfl⟩, hl'⟩, (N' _ (.head _)).1⟩ F' (cb_drop N' fun p hp => .tail _ hp) J h0 ?_
    (fun i h st => by obtain ⟨⟨⟨o, e, _⟩, _⟩, e2⟩ := st; exact ⟨o, rfl, e, fun p hp => by rw [List.mem_singleton.mp hp]; exact e2⟩) ?_ ?_
  case W =>
    have W := Walks.list (prog := prog) (w := w) (A := A) hh s.heap.objs.size l (Nat.ne_of_lt hlt) its
    exact {
      sub := W.sub
      frame := fun i h h' st hk => ⟨W.frame i h h' st.1 hk, hk l (by simp) _ st.2⟩
      item := fun i s' Q E hi st hQ => W.item i s' Q E hi st.1 fun v h' tk hP st' hk => hQ v h' tk hP ⟨st', hk l _ (by simpa using Nat.ne_of_lt hlt) st.2⟩ hk
      done := fun s' Q E st hQ => W.done s' Q E st.1 hQ
      self := fun i s' Q E st hQ => W.self i s' Q E st.1 hQ }
  · intro hb
    rcases List.mem_cons.mp hb with e | hb
    · exact Nat.ne_of_lt F.ns.lt e
    · exact (N _ (.head _)).2.1 (List.mem_singleton.mp hb).symm
  · intro b hb
    rcases List.mem_cons.mp hb with e | hb
    · rw [e]; exact next_is_new F
    · rw [List.mem_singleton.mp hb]; exact (N _ (.head _)).2.2
  · intro i u m₁ nw oI h tk hi hP hJ off F₁ N₁
    exact turn i u m₁ nw _ oI h tk hP hJ off (Nat.ne_of_lt hlt) F₁ N₁
  · intro h tk m' nw F₁ N₁ hJ
    exact fin h tk m' nw F₁ N₁ hJ

/-- a loop over a range -/
theorem range_loop {r : Addr} {a b c : Int} {ta tb tc : Tok} {n : Nat} (hh : A.handled = none) (F : Fr h₀ env.locals s.heap m) (N : News h₀ env.locals s.heap news) (R : IsRange s.heap r a b c ta tb tc) (hsm : Builtin.Range.small a b c = true) (hn : Builtin.Range.rangeSize a b c = (n : Int))
    (J : Nat → (Str → Option Value) → List (Addr × Obj) → Prop) (h0 : J 0 m news)
    (turn : ∀ i u m₁ nw I oI h tk, i < n → J i m₁ nw → (∀ p ∈ nw, p.1 ≠ I) → Fr h₀ env.locals h (fun y => if y = v then some (.int (a + (i : Int) * c) u) else m₁ y) → News h₀ env.locals h ((I, oI) :: nw) →
      wpAny (model prog w) A (execs body env) (TurnEnd h₀ env.locals I [(I, oI)] (J (i + 1)) s Q) E { s with heap := h, toks := tk })
    (fin : ∀ h tk m' nw, Fr h₀ env.locals h m' → News h₀ env.locals h nw → J n m' nw → Q .next { s with heap := h, toks := tk }) :
    wpAny (model prog w) A (pyIter (.ref r)) (fun it s₂ => LoopAtV prog w A h₀ env v body Q E it s₂) E s := by
  refine wpAny_pyIter_range R hsm ?_
  rw [hn]
  have F' := Fr.pushS F { cls := .type "range_iterator", data := .fields #[rawInt a, rawInt (n : Int), rawInt c] }
  have N' := N.pushKeep { cls := .type "range_iterator", data := .fields #[rawInt a, rawInt (n : Int), rawInt c] }
  have W := Walks.range (prog := prog) (w := w) (A := A) hh s.heap.objs.size a c n
  refine loop_of (own₀ := []) W (by simpa using Nat.ne_of_lt F.ns.lt) (next_is_new F) (fun p hp => Nat.ne_of_lt (Heap.lt_size (N p hp).1)) ?_ F' N' J h0 (by intro b hb; rw [List.mem_singleton.mp hb]; exact next_is_new F)
    (fun i h st => ⟨_, rfl, st, fun _ hp => nomatch hp⟩) ?_ ?_
  · have := Heap.get?_push_size (h := s.heap) (o := { cls := .type "range_iterator", data := .fields #[rawInt a, rawInt (n : Int), rawInt c] }) rfl
    simpa [IsRangeIter] using this
  · intro i u m₁ nw oI h tk hi hP hJ off F₁ N₁
    obtain ⟨u, rfl⟩ := hP
    exact turn i u m₁ nw _ oI h tk hi hJ off F₁ N₁
  · intro h tk m' nw F₁ N₁ hJ
    exact fin h tk m' nw F₁ N₁ hJ

theorem loop_mono {Q' : Flow → Shared → Prop} {it : Value} {s₂ : Shared} (hq : ∀ f s', Q' f s' → Q f s') (h : LoopAtV prog w A h₀ env v body Q' E it s₂) : LoopAtV prog w A h₀ env v body Q E it s₂ := by
  obtain ⟨I, fp, wr, n, P, St, m, news, J, e, W, a1, a2, a3, a4, F, N, h0, step, fin⟩ := h
  refine ⟨I, fp, wr, n, P, St, m, news, J, e, W, a1, a2, a3, a4, F, N, h0, ?_, fun h' tk m' nw F' N' o' J' => hq _ _ (fin h' tk m' nw F' N' o' J')⟩
  intro i u m₁ nw s₁ own b1 b2 b3 b4 b5 b6 b7 b8 b9 F₁ N₁
  refine wpAny_mono (step i u m₁ nw s₁ own b1 b2 b3 b4 b5 b6 b7 b8 b9 F₁ N₁) (fun f s' hf => ?_) fun _ _ e => e
  cases f with
  | ret v => exact hq _ _ hf
  | brk => exact hq _ _ hf
  | cont => exact hf
  | next => exact hf
noncomputable def midQ (Mid : Shared → Prop) (Q : Flow → Shared → Prop) : Flow → Shared → Prop := fun f s' => match f with | .next => Mid s' | f => Q f s'
theorem loop_mid {it : Value} {s₂ : Shared} (Mid : Shared → Prop) (h : LoopAtV prog w A h₀ env v body (midQ Mid Q) E it s₂) (hq : ∀ s', Mid s' → Q .next s') : LoopAtV prog w A h₀ env v body Q E it s₂ :=
  loop_mono (fun f s' hf => by cases f <;> first | exact hq _ hf | exact hf) h
/-- the loop first, then what follows it -/
theorem iter_mid {it : Value} (Mid : Shared → Prop) (h : wpAny (model prog w) A (pyIter it) (fun it s₂ => LoopAtV prog w A h₀ env v body (midQ Mid Q) E it s₂) E s) (hq : ∀ s', Mid s' → Q .next s') :
    wpAny (model prog w) A (pyIter it) (fun it s₂ => LoopAtV prog w A h₀ env v body Q E it s₂) E s :=
  wpAny_mono h (fun _ _ hl => loop_mid Mid hl hq) fun _ _ e => e
end
end
section
open PySem PySem.W PyProof.Rows PySem.Spec PySem.Calls
noncomputable abbrev upd1 (S : Str) (a : Option Value) (m : Str → Option Value) : Str → Option Value := fun y => if y = S then a else m y
noncomputable abbrev upd2 (S T : Str) (a b : Option Value) (m : Str → Option Value) : Str → Option Value := fun y => if y = S then a else if y = T then b else m y
theorem upd1_self {S : Str} {m : Str → Option Value} : m = upd1 S (m S) m := by
  funext y
  show m y = if y = S then m S else m y
  by_cases h : y = S
  · rw [if_pos h, h]
  · rw [if_neg h]
theorem upd1_set {S : Str} {a b : Option Value} {m : Str → Option Value} : (fun y => if y = S then a else upd1 S b m y) = upd1 S a m := by
  funext y
  show (if y = S then a else if y = S then b else m y) = if y = S then a else m y
  by_cases h : y = S
  · rw [if_pos h, if_pos h]
  · rw [if_neg h, if_neg h, if_neg h]
theorem upd2_self {S T : Str} {m : Str → Option Value} : m = upd2 S T (m S) (m T) m := by
  funext y
  show m y = if y = S then m S else if y = T then m T else m y
  by_cases h : y = S
  · rw [if_pos h, h]
  · rw [if_neg h]
    by_cases h2 : y = T
    · rw [if_pos h2, h2]
    · rw [if_neg h2]
theorem upd2_S {S T : Str} {v a b : Option Value} {m : Str → Option Value} : (fun y => if y = S then v else upd2 S T a b m y) = upd2 S T v b m := by
  funext y
  show (if y = S then v else if y = S then a else if y = T then b else m y) = if y = S then v else if y = T then b else m y
  by_cases h : y = S
  · rw [if_pos h, if_pos h]
  · rw [if_neg h, if_neg h, if_neg h]
theorem upd2_T {S T : Str} {v a b : Option Value} {m : Str → Option Value} (hne : S ≠ T) : (fun y => if y = T then v else upd2 S T a b m y) = upd2 S T a v m := by
  funext y
  show (if y = T then v else if y = S then a else if y = T then b else m y) = if y = S then a else if y = T then v else m y
  by_cases h : y = S
  · rw [if_pos h]
    by_cases h2 : y = T
    · exact absurd (h.symm.trans h2) hne
    · rw [if_neg h2, if_pos h]
  · rw [if_neg h, if_neg h]
    by_cases h2 : y = T
    · rw [if_pos h2, if_pos h2]
    · rw [if_neg h2, if_neg h2, if_neg h2]
theorem rsize {a b : Nat} : Builtin.Range.rangeSize (a : Int) (b : Int) 1 = ((b - a : Nat) : Int) := by
  rw [rangeSize_nat]
  omega
theorem fits_of {i : Int} (h1 : 0 ≤ i) (h2 : i ≤ 1000000) : Builtin.Range.rangeFitsLong i = true := by
  unfold Builtin.Range.rangeFitsLong
  rw [Bool.and_eq_true, decide_eq_true_eq, decide_eq_true_eq]
  constructor <;> omega
theorem rsmall {a b : Nat} (ha : a ≤ 100000) (hb : b ≤ 100000) : Builtin.Range.small (a : Int) (b : Int) 1 = true := by
  unfold Builtin.Range.small
  rw [rsize, fits_of (by omega) (by omega), fits_of (by omega) (by omega), fits_of (i := 1) (by omega) (by omega), fits_of (by omega) (by omega)]
  rw [if_pos (by decide), fits_of (by omega) (by omega)]
  simp
theorem mul_ok {a b : Int} (h0 : 0 ≤ a) (h1 : a ≤ 4000) : IntMulOk a b := by mul_fits
noncomputable abbrev upd3 (S T U : Str) (a b c : Option Value) (m : Str → Option Value) : Str → Option Value := fun y => if y = S then a else if y = T then b else if y = U then c else m y
theorem upd3_self {S T U : Str} {m : Str → Option Value} : m = upd3 S T U (m S) (m T) (m U) m := by
  funext y
  show m y = if y = S then m S else if y = T then m T else if y = U then m U else m y
  by_cases h : y = S
  · rw [if_pos h, h]
  · rw [if_neg h]
    by_cases h2 : y = T
    · rw [if_pos h2, h2]
    · rw [if_neg h2]
      by_cases h3 : y = U
      · rw [if_pos h3, h3]
      · rw [if_neg h3]
theorem upd3_S {S T U : Str} {v a b c : Option Value} {m : Str → Option Value} : (fun y => if y = S then v else upd3 S T U a b c m y) = upd3 S T U v b c m := by
  funext y
  show (if y = S then v else if y = S then a else if y = T then b else if y = U then c else m y) = if y = S then v else if y = T then b else if y = U then c else m y
  by_cases h : y = S
  · rw [if_pos h, if_pos h]
  · rw [if_neg h, if_neg h, if_neg h]
theorem upd3_T {S T U : Str} {v a b c : Option Value} {m : Str → Option Value} (hne : S ≠ T) : (fun y => if y = T then v else upd3 S T U a b c m y) = upd3 S T U a v c m := by
  funext y
  show (if y = T then v else if y = S then a else if y = T then b else if y = U then c else m y) = if y = S then a else if y = T then v else if y = U then c else m y
  by_cases h : y = S
  · rw [if_pos h]
    by_cases h2 : y = T
    · exact absurd (h.symm.trans h2) hne
    · rw [if_neg h2, if_pos h]
  · rw [if_neg h, if_neg h]
    by_cases h2 : y = T
    · rw [if_pos h2, if_pos h2]
    · rw [if_neg h2, if_neg h2, if_neg h2]
theorem upd3_U {S T U : Str} {v a b c : Option Value} {m : Str → Option Value} (h1 : S ≠ U) (h2 : T ≠ U) : (fun y => if y = U then v else upd3 S T U a b c m y) = upd3 S T U a b v m := by
  funext y
  show (if y = U then v else if y = S then a else if y = T then b else if y = U then c else m y) = if y = S then a else if y = T then b else if y = U then v else m y
  by_cases h : y = U
  · have a1 : y ≠ S := fun e => h1 (e.symm.trans h)
    have a2 : y ≠ T := fun e => h2 (e.symm.trans h)
    rw [if_pos h, if_neg a1, if_neg a2, if_pos h]
  · rw [if_neg h]
    by_cases b1 : y = S
    · rw [if_pos b1, if_pos b1]
    · rw [if_neg b1, if_neg b1]
      by_cases b2 : y = T
      · rw [if_pos b2, if_pos b2]
      · rw [if_neg b2, if_neg b2, if_neg h, if_neg h]
end
section
open PySem PySem.W PyProof.Rows
/-- Python's reading: the place of the least of ranks[low:high] -/
noncomputable def looZ (rs : List Int) (low high : Int) : Int := ((loosest rs low.toNat (high - 1 - low).toNat : Nat) : Int)

noncomputable abbrev tup2 (x y : Int) (t u : Tok) : Obj := { cls := .type "tuple", data := .seq #[.int x t, .int y u] }
/-- the ledger holds a pair of ints at v -/
noncomputable def TupIn (led : Led) (v : Value) (x y : Int) : Prop := ∃ a t u, v = .ref a ∧ (a, tup2 x y t u) ∈ led
theorem TupIn.mono {led led' : Led} {v : Value} {x y : Int} (h : TupIn led v x y) (hs : ∀ p ∈ led, p ∈ led') : TupIn led' v x y := by
  obtain ⟨a, t, u, e, hm⟩ := h
  exact ⟨a, t, u, e, hs _ hm⟩
/-- pairs (ranks[lo + k], lo + k) -/
noncomputable def PairsIn (led : Led) (rs : List Int) (lo : Int) (ys : List Value) : Prop := ∀ (k : Nat) (v : Value), ys[k]? = some v → TupIn led v (rs.getD (lo + (k : Int)).toNat 0) (lo + (k : Int))
theorem PairsIn.mono {led led' : Led} {rs : List Int} {lo : Int} {ys : List Value} (h : PairsIn led rs lo ys) (hs : ∀ p ∈ led, p ∈ led') : PairsIn led' rs lo ys := fun k v e => (h k v e).mono hs
theorem PairsIn.snoc {led : Led} {rs : List Int} {lo : Int} {ys : List Value} {y : Value} (h : PairsIn led rs lo ys) (hy : TupIn led y (rs.getD (lo + ys.length).toNat 0) (lo + ys.length)) : PairsIn led rs lo (ys ++ [y]) := fun k v e => by
  by_cases hk : k < ys.length
  · rw [List.getElem?_append_left hk] at e
    exact h k v e
  · have hk' : k = ys.length := by
      have := (List.getElem?_eq_some_iff.mp e).1
      simp at this
      omega
    subst hk'
    rw [List.getElem?_append_right (Nat.le_refl _)] at e
    simp at e
    subst e
    exact hy

theorem argBest_le (bt : Nat → Nat → Bool) : ∀ k, argBest bt k ≤ k
  | 0 => Nat.le_refl _
  | k + 1 => by
    unfold argBest
    split
    · exact Nat.le_refl _
    · exact Nat.le_succ_of_le (argBest_le bt k)
noncomputable def pairBt (rs : List Int) (low : Int) (i j : Nat) : Bool := decide (rs.getD (low + (i : Int)).toNat 0 < rs.getD (low + (j : Int)).toNat 0 ∨ (rs.getD (low + (i : Int)).toNat 0 = rs.getD (low + (j : Int)).toNat 0 ∧ low + (i : Int) < low + (j : Int)))
theorem argBest_loosest (rs : List Int) (lo : Nat) : ∀ k, lo + argBest (pairBt rs (lo : Int)) k = loosest rs lo k
  | 0 => rfl
  | k + 1 => by
    have ih := argBest_loosest rs lo k
    have hle := argBest_le (pairBt rs (lo : Int)) k
    have e1 : ((lo : Int) + ((k + 1 : Nat) : Int)).toNat = lo + (k + 1) := by omega
    have e2 : ((lo : Int) + ((argBest (pairBt rs (lo : Int)) k : Nat) : Int)).toNat = loosest rs lo k := by omega
    have hb : pairBt rs (lo : Int) (k + 1) (argBest (pairBt rs (lo : Int)) k) = decide (rs.getD (lo + (k + 1)) 0 < rs.getD (loosest rs lo k) 0) := by
      have : ¬ ((lo : Int) + ((k + 1 : Nat) : Int) < (lo : Int) + ((argBest (pairBt rs (lo : Int)) k : Nat) : Int)) := by omega
      generalize argBest (pairBt rs (lo : Int)) k = q at *
      unfold pairBt
      rw [e1, e2]
      simp only [this, and_false, or_false]
    show lo + (if pairBt rs (lo : Int) (k + 1) (argBest (pairBt rs (lo : Int)) k) = true then k + 1 else argBest (pairBt rs (lo : Int)) k) = if rs.getD (lo + (k + 1)) 0 < rs.getD (loosest rs lo k) 0 then lo + (k + 1) else loosest rs lo k
    rw [hb]
    by_cases h : rs.getD (lo + (k + 1)) 0 < rs.getD (loosest rs lo k) 0
    · rw [if_pos (decide_eq_true h), if_pos h]
    · rw [if_neg (by simpa using h), if_neg h, ih]
theorem argBest_looZ (rs : List Int) {low high : Int} (h0 : 0 ≤ low) (h1 : low < high) : low + ((argBest (pairBt rs low) ((high - low).toNat - 1) : Nat) : Int) = looZ rs low high := by
  obtain ⟨lo, rfl⟩ := Int.eq_ofNat_of_zero_le h0
  have := argBest_loosest rs lo (((high - (lo : Int)).toNat) - 1)
  unfold looZ
  have e : ((high - 1 - (lo : Int)).toNat) = (high - (lo : Int)).toNat - 1 := by omega
  rw [e, Int.toNat_natCast, ← this]
  omega

/-- does one hold other? -/
noncomputable def holdsZ (rs : List Int) (one other : Int) : Bool := looZ rs (if other < one then other else one) ((if other > one then other else one) + 1) == one

noncomputable def five : List Int := [0, 1, 2, 3, 4]
noncomputable def aheadP (rs : List Int) (place way o : Int) : Bool := decide ((place - o) * way > 0) && !holdsZ rs place o
noncomputable def aheadR (rs : List Int) (place way o : Int) : Bool := decide ((place - o) * way < 0) && holdsZ rs o place
/-- how many come ahead -/
noncomputable def aheadZ (rs : List Int) (place way : Int) : Int := (((five.filter (aheadP rs place way)).length + (five.filter (aheadR rs place way)).length : Nat) : Int)
theorem five_take {i : Nat} (h : i < 5) (p : Int → Bool) : (five.take (i + 1)).filter p = (five.take i).filter p ++ (if p (i : Int) then [(i : Int)] else []) := by
  have : i = 0 ∨ i = 1 ∨ i = 2 ∨ i = 3 ∨ i = 4 := by omega
  have e : five.take (i + 1) = five.take i ++ [(i : Int)] := by rcases this with rfl | rfl | rfl | rfl | rfl <;> rfl
  rw [e, List.filter_append]
  cases hp : p (i : Int) <;> simp [hp]

theorem aheadZ_nonneg (rs : List Int) (p q : Int) : 0 ≤ aheadZ rs p q := Int.natCast_nonneg _
theorem aheadZ_le (rs : List Int) (p q : Int) : aheadZ rs p q ≤ 10 := by
  unfold aheadZ
  have b1 : (five.filter (aheadP rs p q)).length ≤ 5 := List.length_filter_le _ _
  have b2 : (five.filter (aheadR rs p q)).length ≤ 5 := List.length_filter_le _ _
  omega

/-- the lead of an operator, as the law writes it -/
noncomputable def leadS (rs : List Int) (place turn run : Int) : Str :=
  let steps : List Str := List.replicate (4 + aheadZ rs place 1 - aheadZ rs place (-1)).toNat (Txt.mul (Str.ofString " ") run ++ Str.ofString "\t") ++ List.replicate (4 + aheadZ rs place (-1) - aheadZ rs place 1 + run * aheadZ rs place (-1)).toNat (Str.ofString "\t")
  Txt.join (Str.ofString "") (steps.drop turn.toNat ++ steps.take turn.toNat)
theorem StrsAre.rep (x : Str) (t : Tok) : ∀ k : Nat, StrsAre (List.replicate k (Value.str x t)) (List.replicate k x)
  | 0 => .nil
  | k + 1 => .cons x t (StrsAre.rep x t k)
theorem StrsAre.app : ∀ {vs ws : List Value} {xs ys : List Str}, StrsAre vs xs → StrsAre ws ys → StrsAre (vs ++ ws) (xs ++ ys)
  | _, _, _, _, .nil, h => h
  | _, _, _, _, .cons y t h, g => .cons y t (StrsAre.app h g)
theorem StrsAre.drp : ∀ {vs : List Value} {xs : List Str}, StrsAre vs xs → ∀ k : Nat, StrsAre (vs.drop k) (xs.drop k)
  | _, _, h, 0 => h
  | _, _, .nil, _ + 1 => .nil
  | _, _, .cons _ _ h, k + 1 => StrsAre.drp h k
theorem StrsAre.tak : ∀ {vs : List Value} {xs : List Str}, StrsAre vs xs → ∀ k : Nat, StrsAre (vs.take k) (xs.take k)
  | _, _, _, 0 => .nil
  | _, _, .nil, _ + 1 => .nil
  | _, _, .cons y t h, k + 1 => .cons y t (StrsAre.tak h k)
theorem StrsAre.len : ∀ {vs : List Value} {xs : List Str}, StrsAre vs xs → vs.length = xs.length
  | _, _, .nil => rfl
  | _, _, .cons _ _ h => congrArg (· + 1) (StrsAre.len h)
theorem sum_le_of {l : List Nat} {b : Nat} (h : ∀ x ∈ l, x ≤ b) : l.sum ≤ l.length * b := by
  induction l with
  | nil => simp
  | cons a r ih =>
    have := ih fun x hx => h x (.tail _ hx)
    have := h a (.head _)
    simp only [List.sum_cons, List.length_cons, Nat.succ_mul]
    omega

/-- the law's own table -/
noncomputable def opTab : List (Str × Int) := [(Str.ofString "+", 14), (Str.ofString "-", 15), (Str.ofString "*", 16), (Str.ofString "/", 17), (Str.ofString "|", 18), (Str.ofString "&", 19), (Str.ofString "%", 24), (Str.ofString "^", 32),
  (Str.ofString "<<", 33), (Str.ofString ">>", 34), (Str.ofString "**", 35), (Str.ofString "//", 47), (Str.ofString "@", 49)]
noncomputable def opAt (n : Int) : Str × Int := opTab.getD ((n.fdiv 5).fmod 13).toNat (Str.ofString "+", 14)
noncomputable abbrev tupSI (x : Str) (y : Int) (t u : Tok) : Obj := { cls := .type "tuple", data := .seq #[.str x t, .int y u] }

noncomputable def letter (lo : Nat) : Str := ⟨#[97 + lo]⟩
/-- the expression's text (fuel, first letter, how many operators) -/
noncomputable def txtS (rs : List Int) (sg : List Str) : Nat → Nat → Nat → Str
  | 0, lo, _ => letter lo
  | f + 1, lo, k => if k = 0 then letter lo else
      Str.ofString "(" ++ txtS rs sg f lo (loosest rs lo (k - 1) - lo) ++ sg.getD (loosest rs lo (k - 1)) (Str.ofString "") ++ txtS rs sg f (loosest rs lo (k - 1) + 1) (lo + k - (loosest rs lo (k - 1) + 1)) ++ Str.ofString ")"
theorem loosest_ge (rs : List Int) (lo : Nat) : ∀ k, lo ≤ loosest rs lo k
  | 0 => Nat.le_refl _
  | k + 1 => by
    unfold loosest
    have := loosest_ge rs lo k
    split <;> omega
theorem loosest_le (rs : List Int) (lo : Nat) : ∀ k, loosest rs lo k ≤ lo + k
  | 0 => Nat.le_refl _
  | k + 1 => by
    unfold loosest
    have := loosest_le rs lo k
    split <;> omega
theorem len_app (x y : Str) : (x ++ y).length = x.length + y.length := Str.length_append x y
theorem txtS_len (rs : List Int) (sg : List Str) (hs : ∀ x ∈ sg, x.length ≤ 2) : ∀ f lo k, (txtS rs sg f lo k).length ≤ 5 * k + 1
  | 0, lo, k => by
    show (letter lo).length ≤ _
    have : (letter lo).length = 1 := rfl
    omega
  | f + 1, lo, k => by
    unfold txtS
    split
    · have : (letter lo).length = 1 := rfl
      omega
    · have h1 := txtS_len rs sg hs f lo (loosest rs lo (k - 1) - lo)
      have h2 := txtS_len rs sg hs f (loosest rs lo (k - 1) + 1) (lo + k - (loosest rs lo (k - 1) + 1))
      have h3 := loosest_ge rs lo (k - 1)
      have h4 := loosest_le rs lo (k - 1)
      have h5 : (sg.getD (loosest rs lo (k - 1)) (Str.ofString "")).length ≤ 2 := by
        rw [List.getD_eq_getElem?_getD]
        cases e : sg[loosest rs lo (k - 1)]? with
        | none => exact (by decide +kernel : (Str.ofString "").length ≤ 2)
        | some x => exact hs x (List.mem_of_getElem? e)
      have e1 : (Str.ofString "(").length = 1 := by decide +kernel
      have e2 : (Str.ofString ")").length = 1 := by decide +kernel
      simp only [len_app, e1, e2]
      omega
theorem StrsAre.at : ∀ {vs : List Value} {xs : List Str}, StrsAre vs xs → ∀ {i : Nat}, i < xs.length → ∃ t, vs[i]? = some (.str (xs.getD i (Str.ofString "")) t)
  | _, _, .nil, _, h => absurd h (Nat.not_lt_zero _)
  | _, _, .cons y t _, 0, _ => ⟨t, rfl⟩
  | _, _, .cons _ _ r, i + 1, h => by
    obtain ⟨t, e⟩ := StrsAre.at r (Nat.lt_of_succ_lt_succ h)
    exact ⟨t, by simpa using e⟩
theorem looZ_nat (rs : List Int) (lo k : Nat) : looZ rs (lo : Int) ((lo + (k + 1) : Nat) : Int) = ((loosest rs lo k : Nat) : Int) := by
  unfold looZ
  have : ((((lo + (k + 1) : Nat) : Int)) - 1 - (lo : Int)).toNat = k := by omega
  rw [this, Int.toNat_natCast]
end
section
open PySem PySem.W PyProof.Rows
theorem txtS_succ (rs : List Int) (sg : List Str) (f lo k : Nat) : txtS rs sg (f + 1) lo (k + 1) = Str.ofString "(" ++ txtS rs sg f lo (loosest rs lo k - lo) ++ sg.getD (loosest rs lo k) (Str.ofString "") ++ txtS rs sg f (loosest rs lo k + 1) (lo + (k + 1) - (loosest rs lo k + 1)) ++ Str.ofString ")" := by
  have h : txtS rs sg (f + 1) lo (k + 1) = if k + 1 = 0 then letter lo else
      Str.ofString "(" ++ txtS rs sg f lo (loosest rs lo (k + 1 - 1) - lo) ++ sg.getD (loosest rs lo (k + 1 - 1)) (Str.ofString "") ++ txtS rs sg f (loosest rs lo (k + 1 - 1) + 1) (lo + (k + 1) - (loosest rs lo (k + 1 - 1) + 1)) ++ Str.ofString ")" := rfl
  rw [h, if_neg (by omega), Nat.add_sub_cancel]
theorem txtS_zero (rs : List Int) (sg : List Str) (f lo : Nat) : txtS rs sg (f + 1) lo 0 = letter lo := rfl
noncomputable def tokTab : List (Str × Int) := [(Str.ofString "!", 54), (Str.ofString "!=", 28), (Str.ofString "%", 24), (Str.ofString "%=", 40), (Str.ofString "&", 19), (Str.ofString "&=", 41), (Str.ofString "(", 7), (Str.ofString ")", 8), (Str.ofString "*", 16), (Str.ofString "**", 35), (Str.ofString "**=", 46), (Str.ofString "*=", 38), (Str.ofString "+", 14), (Str.ofString "+=", 36), (Str.ofString ",", 12), (Str.ofString "-", 15), (Str.ofString "-=", 37), (Str.ofString "->", 51), (Str.ofString ".", 23), (Str.ofString "...", 52), (Str.ofString "/", 17), (Str.ofString "//", 47), (Str.ofString "//=", 48), (Str.ofString "/=", 39), (Str.ofString ":", 11), (Str.ofString ":=", 53), (Str.ofString ";", 13), (Str.ofString "<", 20), (Str.ofString "<<", 33), (Str.ofString "<<=", 44), (Str.ofString "<=", 29), (Str.ofString "=", 22), (Str.ofString "==", 27), (Str.ofString ">", 21), (Str.ofString ">=", 30), (Str.ofString ">>", 34), (Str.ofString ">>=", 45), (Str.ofString "@", 49), (Str.ofString "@=", 50), (Str.ofString "[", 9), (Str.ofString "]", 10), (Str.ofString "^", 32), (Str.ofString "^=", 43), (Str.ofString "{", 25), (Str.ofString "|", 18), (Str.ofString "|=", 42), (Str.ofString "}", 26), (Str.ofString "~", 31)]
/-- what a text is read as (fuel) -/
noncomputable def lexF : Nat → List Nat → List Int
  | 0, _ => []
  | _ + 1, [] => []
  | f + 1, c :: cs => match tokNum tokTab ⟨((c :: cs).take 2).toArray⟩ with
    | some v => v :: lexF f ((c :: cs).drop 2)
    | none => match tokNum tokTab ⟨#[c]⟩ with
      | some v => v :: lexF f cs
      | none => (256 + (c : Int) - 97) :: lexF f cs
end
section
open PySem PySem.W PyProof.Rows
/-- a row's count grown at b -/
noncomputable def wsBump (ct : List Int) (b : Nat) : List Int :=
  if ct.length ≤ b then (ct ++ List.replicate (b - ct.length + 1) 0).set b ((ct ++ List.replicate (b - ct.length + 1) 0).getD b 0 + 1) else ct.set b (ct.getD b 0 + 1)
/-- what a row is read as: signs, tabs, blanks behind, count -/
noncomputable def wsGo : List Nat → Nat → Nat → Nat → List Int → Nat × Nat × Nat × List Int
  | [], n, nt, b, ct => (n, nt, b, ct)
  | c :: cs, n, nt, b, ct => if c = 32 then wsGo cs (n + 1) nt (b + 1) ct else if c = 9 then wsGo cs (n + 1) (nt + 1) 0 (wsBump ct b) else (n, nt, b, ct)
noncomputable abbrev wsM (chv D b n nt x : Option Value) (g : Str → Option Value) : Str → Option Value := fun y =>
  if y = Str.ofString "ch" then chv else if y = Str.ofString "count" then D else if y = Str.ofString "b" then b else if y = Str.ofString "n" then n else if y = Str.ofString "nt" then nt else
  if y = Str.ofString "S" then some (.str (Str.ofString " ") 209) else if y = Str.ofString "T" then some (.str (Str.ofString "\t") 210) else if y = Str.ofString "self" then x else g y
theorem wsM_start {a b c d x : Option Value} {g : Str → Option Value} (hs : g (Str.ofString "self") = x) :
    (fun y => if y = Str.ofString "nt" then a else if y = Str.ofString "n" then b else if y = Str.ofString "b" then c else if y = Str.ofString "count" then d else if y = Str.ofString "S" then some (.str (Str.ofString " ") 209) else if y = Str.ofString "T" then some (.str (Str.ofString "\t") 210) else g y) =
    wsM (g (Str.ofString "ch")) d c b a x g := by
  funext y
  unfold wsM
  by_cases h1 : y = Str.ofString "ch"
  · subst h1; rfl
  by_cases h2 : y = Str.ofString "count"
  · subst h2; rfl
  by_cases h3 : y = Str.ofString "b"
  · subst h3; rfl
  by_cases h4 : y = Str.ofString "n"
  · subst h4; rfl
  by_cases h5 : y = Str.ofString "nt"
  · subst h5; rfl
  by_cases h6 : y = Str.ofString "S"
  · subst h6; rfl
  by_cases h7 : y = Str.ofString "T"
  · subst h7; rfl
  by_cases h8 : y = Str.ofString "self"
  · subst h8; exact hs
  simp only [h1, h2, h3, h4, h5, h6, h7, h8, if_false]

theorem wsM_ch {chv v D b n nt x : Option Value} {g : Str → Option Value} : (fun y => if y = Str.ofString "ch" then v else wsM chv D b n nt x g y) = wsM v D b n nt x g := by
  funext y
  unfold wsM
  by_cases h1 : y = Str.ofString "ch"
  · simp only [h1, if_true]
  · simp only [h1, if_false]

noncomputable abbrev wsM' (nt n : Option Value) (chv D b n' nt' x : Option Value) (g : Str → Option Value) : Str → Option Value := fun y => if y = Str.ofString "nt" then nt else if y = Str.ofString "n" then n else wsM chv D b n' nt' x g y
theorem wsM_tab {chv D b n nt x b' n' nt' D' : Option Value} {g : Str → Option Value} : (fun y => if y = Str.ofString "b" then b' else if y = Str.ofString "count" then D' else if y = Str.ofString "nt" then nt' else if y = Str.ofString "n" then n' else wsM chv D b n nt x g y) = wsM chv D' b' n' nt' x g := by
  funext y
  unfold wsM
  by_cases h1 : y = Str.ofString "ch"
  · subst h1; rfl
  by_cases h2 : y = Str.ofString "count"
  · subst h2; rfl
  by_cases h3 : y = Str.ofString "b"
  · subst h3; rfl
  by_cases h4 : y = Str.ofString "n"
  · subst h4; rfl
  by_cases h5 : y = Str.ofString "nt"
  · subst h5; rfl
  simp only [h1, h2, h3, h4, h5, if_false]
theorem wsM_tab' {chv D b n nt x b' n' nt' : Option Value} {g : Str → Option Value} : (fun y => if y = Str.ofString "b" then b' else if y = Str.ofString "nt" then nt' else if y = Str.ofString "n" then n' else wsM chv D b n nt x g y) = wsM chv D b' n' nt' x g := by
  funext y
  unfold wsM
  by_cases h1 : y = Str.ofString "ch"
  · subst h1; rfl
  by_cases h2 : y = Str.ofString "count"
  · subst h2; rfl
  by_cases h3 : y = Str.ofString "b"
  · subst h3; rfl
  by_cases h4 : y = Str.ofString "n"
  · subst h4; rfl
  by_cases h5 : y = Str.ofString "nt"
  · subst h5; rfl
  simp only [h1, h2, h3, h4, h5, if_false]
theorem wsM_blank {chv D b n nt x b' n' : Option Value} {g : Str → Option Value} : (fun y => if y = Str.ofString "b" then b' else if y = Str.ofString "n" then n' else wsM chv D b n nt x g y) = wsM chv D b' n' nt x g := by
  funext y
  unfold wsM
  by_cases h1 : y = Str.ofString "ch"
  · subst h1; rfl
  by_cases h2 : y = Str.ofString "count"
  · subst h2; rfl
  by_cases h3 : y = Str.ofString "b"
  · subst h3; rfl
  by_cases h4 : y = Str.ofString "n"
  · subst h4; rfl
  simp only [h1, h2, h3, h4, if_false]
theorem sign_beq {c d : Nat} : ((⟨#[c]⟩ : Str) == ⟨#[d]⟩) = decide (c = d) := by
  by_cases h : c = d
  · subst h; simp
  · have : (⟨#[c]⟩ : Str) ≠ ⟨#[d]⟩ := fun e => h (by injection e with e; injection e with e; injection e)
    simp [h, this]
theorem wsGo_at {x : Str} {i c n nt b : Nat} {ct : List Int} (hc : x.cps[i]? = some c) : wsGo (x.cps.toList.drop i) n nt b ct = if c = 32 then wsGo (x.cps.toList.drop (i + 1)) (n + 1) nt (b + 1) ct else if c = 9 then wsGo (x.cps.toList.drop (i + 1)) (n + 1) (nt + 1) 0 (wsBump ct b) else (n, nt, b, ct) := by
  have hi : i < x.cps.toList.length := by
    rcases Nat.lt_or_ge i x.cps.size with q | q
    · simpa using q
    · rw [Array.getElem?_eq_none q] at hc; cases hc
  have e : x.cps.toList[i] = c := by
    rw [← Array.getElem?_toList, List.getElem?_eq_getElem hi] at hc
    exact Option.some.inj hc
  rw [List.drop_eq_getElem_cons hi, e]
  rfl
theorem ints_rep (t : Tok) : ∀ k : Nat, IntsAre (List.replicate k (Value.int 0 t)) (List.replicate k 0)
  | 0 => .nil
  | k + 1 => .cons _ _ (ints_rep t k)

/-- a Whitespace's fields -/
noncomputable abbrev wsDict (P : Params) (x : Str) (n nt : Nat) (ct : List Int) (Dp : Addr) (t1 k1 k2 k3 k4 k5 tn tnt : Tok) : Obj :=
  dictOf [⟨PyData.keyHash P (Str.ofString "raw"), .str (Str.ofString "raw") k1, .str x t1⟩, ⟨PyData.keyHash P (Str.ofString "n"), .str (Str.ofString "n") k2, .int (n : Int) tn⟩, ⟨PyData.keyHash P (Str.ofString "nt"), .str (Str.ofString "nt") k3, .int (nt : Int) tnt⟩,
    ⟨PyData.keyHash P (Str.ofString "norm"), .str (Str.ofString "norm") k4, .ref Dp⟩, ⟨PyData.keyHash P (Str.ofString "is_simple"), .str (Str.ofString "is_simple") k5, .bool (decide ((ct.length : Int) ≤ 1))⟩] 5
/-- a Whitespace in the ledger -/
inductive IsWs (P : Params) (news : Led) (x0 : Addr) (x : Str) (n nt b : Nat) (ct : List Int) : Prop
  | mk (dx Dp Dt : Addr) (vs : List Value) (t1 k1 k2 k3 k4 k5 tn tnt tb : Tok) (w1 : (Dp, tupObj #[.ref Dt, .int (b : Int) tb] 0) ∈ news) (w2 : (Dt, tupObj (List.toArray vs) 0) ∈ news) (w3 : (x0, instObj 83 dx) ∈ news)
    (w4 : (dx, wsDict P x n nt ct Dp t1 k1 k2 k3 k4 k5 tn tnt) ∈ news) (w5 : IntsAre vs ct) (w6 : n ≤ 1000) (w7 : nt ≤ 1000) (w8 : b + ct.length ≤ 1000) : IsWs P news x0 x n nt b ct
theorem IsWs.mono {P : Params} {l l' : Led} {x0 : Addr} {x : Str} {n nt b : Nat} {ct : List Int} (h : IsWs P l x0 x n nt b ct) (hs : ∀ p ∈ l, p ∈ l') : IsWs P l' x0 x n nt b ct := by
  cases h with
  | mk dx Dp Dt vs t1 k1 k2 k3 k4 k5 tn tnt tb w1 w2 w3 w4 w5 w6 w7 w8 => exact .mk dx Dp Dt vs t1 k1 k2 k3 k4 k5 tn tnt tb (hs _ w1) (hs _ w2) (hs _ w3) (hs _ w4) w5 w6 w7 w8
/-- the first k terms of a level's sum -/
noncomputable def ilZ (ts : Nat) (ct : List Int) : Nat → Int
  | 0 => 0
  | k + 1 => ilZ ts ct k + (((ts : Int) + (k : Int)) / (ts : Int)) * ct.getD (ts + k) 0
noncomputable def levelZ (ts nt b : Nat) (ct : List Int) : Int := (b : Int) + (ts : Int) * (ilZ ts ct (ct.length - ts) + (nt : Int))
noncomputable def longZ (b : Nat) (ct : List Int) : Int := max ((ct.length : Int) - 1) (b : Int)
/-- are all levels of the first k sizes less -/
noncomputable def allLess (f g : Nat → Int) : Nat → Bool
  | 0 => true
  | k + 1 => allLess f g k && decide (f (2 + k) < g (2 + k))
noncomputable def lessB (n nt b : Nat) (ct : List Int) (n' nt' b' : Nat) (ct' : List Int) : Bool :=
  if n' ≤ n then false else if ct.length ≤ 1 ∧ ct'.length ≤ 1 then decide (nt ≤ nt') else
    allLess (fun ts => levelZ ts nt b ct) (fun ts => levelZ ts nt' b' ct') (max (longZ b ct) (longZ b' ct')).toNat
theorem allLess_false {f g : Nat → Int} {i : Nat} (h : ¬ f (2 + i) < g (2 + i)) : ∀ {k : Nat}, i < k → allLess f g k = false
  | k + 1, hk => by
    show (allLess f g k && decide (f (2 + k) < g (2 + k))) = false
    rcases Nat.lt_or_ge i k with q | q
    · rw [allLess_false h q, Bool.false_and]
    · have : i = k := by omega
      subst this
      rw [decide_eq_false h, Bool.and_false]
inductive RowsIn (news : Led) : List Value → List (List Int) → Prop
  | nil : RowsIn news [] []
  | cons (a : Addr) (us : List Value) (n : Nat) (r : List Int) {vs : List Value} {rs : List (List Int)} : (a, listOf us.toArray n) ∈ news → IntsAre us r → RowsIn news vs rs → RowsIn news (.ref a :: vs) (r :: rs)
theorem RowsIn.mono {l l' : Led} (hs : ∀ p ∈ l, p ∈ l') : ∀ {vs : List Value} {rs : List (List Int)}, RowsIn l vs rs → RowsIn l' vs rs
  | _, _, .nil => .nil
  | _, _, .cons a us n r h1 h2 h3 => .cons a us n r (hs _ h1) h2 (h3.mono hs)
theorem RowsIn.length {l : Led} : ∀ {vs : List Value} {rs : List (List Int)}, RowsIn l vs rs → vs.length = rs.length
  | _, _, .nil => rfl
  | _, _, .cons a us n r h1 h2 h3 => congrArg (· + 1) h3.length
noncomputable abbrev rowD (r : List Int) : PyData := .list (r.map PyData.int)
theorem RowsIn.reads {h₀ h : Heap} {L : Addr} {l : Led} (N : News h₀ L h l) : ∀ {vs : List Value} {rs : List (List Int)}, RowsIn l vs rs → ∃ as, ReadsAll h vs (rs.map rowD) as
  | _, _, .nil => ⟨_, .nil⟩
  | _, _, .cons a us n r h1 h2 h3 => by
    obtain ⟨as, ih⟩ := h3.reads N
    exact ⟨_, .cons (reads_newData ⟨_, (N _ h1).1, rfl, _, rfl⟩ (ke_carried h2)) ih⟩
theorem rows_canLay : ∀ rs : List (List Int), PyData.canLayAll0 (rs.map rowD) = true
  | [] => rfl
  | r :: rs => by
    show (PyData.canLay0 (rowD r) && PyData.canLayAll0 (rs.map rowD)) = true
    rw [rows_canLay rs, Bool.and_true]
    exact ke_canLayAll0 r
noncomputable def rngI (low high : Nat) : List Int := (List.range (high - low)).map fun (k : Nat) => ((low : Int) + (k : Int))
noncomputable def spareZ (wv : List Int) (low high : Nat) : Int := ((wv.drop low).take (high - low)).sum - (((high : Int) - (low : Int)) * ((high : Int) - (low : Int) + 1)) / 2
noncomputable def goodLH (st : List (List Int)) (wv : List Int) (low high : Nat) : Bool := !(decide (spareZ wv low high < 0)) && (decide (spareZ wv low high = 0) == decide (rngI low high ∈ st))
noncomputable def allN (f : Nat → Bool) : Nat → Bool
  | 0 => true
  | k + 1 => allN f k && f k
theorem allN_false {f : Nat → Bool} {i : Nat} (h : f i = false) : ∀ {k : Nat}, i < k → allN f k = false
  | k + 1, hk => by
    show (allN f k && f k) = false
    rcases Nat.lt_or_ge i k with q | q
    · rw [allN_false h q, Bool.false_and]
    · have : i = k := by omega
      subst this
      rw [h, Bool.and_false]
noncomputable def leastB (st : List (List Int)) (wv : List Int) : Bool := allN (fun low => allN (fun j => goodLH st wv low (low + 1 + j)) (5 - low)) 5
end
section
open PySem PySem.W PyProof.Rows
local macro_rules | `(tactic| walk_at "eval ListComp") => `(tactic| (k_here; with_reducible refine here_of ?_))
section
open PySem PySem.W PyProof.Rows
local macro_rules | `(tactic| walk_at "CompSrc") => `(tactic| (k_here; with_reducible refine here_of ?_))

section
variable {w : World} {mean : ExcName → Option Value} {mg mb : Str → Option Value} {dp u : Nat} {gd : Option (List Code)} {cn : Str} {cs : Scope} {a : Addr} {ccd : Value} {cl : List (Str × Addr)} {outer : List Env} {A₀ : Around} {base h₀ : Heap} {L : Addr} {m : Str → Option Value} {news : Led} {s : Shared}
    {Q E : Value → Shared → Prop}
set_option maxRecDepth 100000 in
set_option maxHeartbeats 8000000 in
theorem c_loosest {l : Addr} {vs : List Value} {rs : List Int} {n : Nat} {low high : Int} {t1 t2 : Tok}
    (B : Below A₀ base outer h₀) (F : Fr h₀ L s.heap m) (X : (hd.heap_39 w.params).In h₀) (N : News h₀ L s.heap news) (T : Top hd.view_39 LS mean mg mb h₀) (hk : cs.kind = .function) (hl : (l, listOf vs.toArray n) ∈ news) (hi : IntsAre vs rs)
    (e1 : 0 ≤ low) (e2 : low < high) (e3 : high ≤ 5) (e4 : rs.length = 5) (hdp : dp + 4 < recursionLimit) (hun : u + 40 < cLine)
    (hret : ∀ t h' tk', Fr h₀ L h' m → News h₀ L h' news → Q (.int (looZ rs low high) t) { s with heap := h', toks := tk' }) :
    wpAny (model PySem.Challenge.rw_ti0051_01.row.prog w) (ktrTop dp u gd cn cs L a ccd cl outer) (call (.ref 192) [.ref l, .int low t1, .int high t2]) Q E s := by
  have hfill9 : PySem.Challenge.rw_ti0051_01.foot = PySem.Challenge.rw_ti0051_01.foot ∧ hd.heap_39 = hd.heap_39 := by (k_fill; exact ⟨rfl, rfl⟩)
  clear hfill9
  w_top off
  refine wpAny_call ?_
  k_dflt (refine' code_defC ?k1 ?k2 ?k3 ?k4 ?k5 ?kA ?kF ?kK ?k6 ?k7 ?k8 ?k9 ?kB ?kD ?_ ?c2 ?c3 ?c4; (case kA => exact rfl); (case kF => exact rfl); (case kK => first | assumption | exact rfl); (case k1 => k_asm); (case k2 => k_asm); (case k3 => k_asm); (case k4 => k_asm); (case k5 => k_asm); (case k6 => k_is); (case k7 => k_is); (case k8 => ktr_room); (case k9 => first | exact BindsTo.of_eq rfl | exact binds_K (by k_in) rfl (by k_is) rfl rfl rfl | fail "k_enter: no rule for these arguments"); (case kB => exact rfl); (case kD => decide +kernel); (case c2 => exact rfl); (case c3 => exact rfl); (case c4 => exact rfl); k_whole; intro g1 L1 h1 tk1 cells1 FG1 F1 N1 Y1 B1 X1 T1 l1; (try k_lt l1); k_cells Y1; (try simp only [List.cons_append, List.nil_append] at N1); (try dsimp only); (try k_lift B1); (try k_fold))
  k_steps
  unfold Here
  refine LCg.ListComp_U (F₀ := by k_asm) (by rfl) (by decide) (by rfl) (by decide) (by rfl) ?_
  k_steps
  unfold Here
  rename_i o1 d1 N1 h2 tk2 t3 t4 t5 R2 F2 N2 K2
  refine LCg.CompSrc.range (n := (high - low).toNat) (by rfl) F2 N2 R2 ?_ ?_ ?_ ?_
  · exact small_of e1 (by omega) (by omega) (by omega)
  · exact rangeSize_nat low high
  · rw [sizeLine_eq]
    omega
  intro g3
  refine rest_ind (Inv := fun i ys nw => ys.length = i ∧ PairsIn nw rs low ys ∧ ∀ p ∈ (L1 + 1, o1) :: news, p ∈ nw) ?_ ?_ ?_
  · exact ⟨rfl, fun k v e => by simp at e, fun p hp => hp⟩
  · intro i ys nw v I oI C oC D m2 h tk E' hin hinv hP hC hx FF NN off ne
    obtain ⟨hlen, hpairs, hsub⟩ := hinv
    obtain ⟨t6, rfl⟩ := hP
    have hl' : (l, listOf vs.toArray n) ∈ nw := hsub _ (List.mem_cons_of_mem _ hl)
    have hIs : h.IsList l vs.toArray := ⟨_, (NN (l, listOf vs.toArray n) (List.mem_cons_of_mem _ (List.mem_cons_of_mem _ (List.mem_cons_of_mem _ hl')))).1, rfl, _, rfl⟩
    have d1' : o1.data = .cell (some (.ref l)) := d1
    have hm1 : (L1 + 1, o1) ∈ nw := hsub _ (List.mem_cons_self ..)
    have hk0 : 0 ≤ low + (i : Int) := by omega
    have hk5 : low + (i : Int) < rs.length := by omega
    have hCm : (C, oC) ∈ (I, oI) :: (C, oC) :: (D, LCg.lst ys) :: nw := .tail _ (.head _)
    have hm1' : (L1 + 1, o1) ∈ (I, oI) :: (C, oC) :: (D, LCg.lst ys) :: nw := .tail _ (.tail _ (.tail _ hm1))
    refine Tuple_ (spliced_more (Subscript_ (kcf_cell NN rfl hm1' d1' (LCgL.ld_own NN hCm hC hx (item_anyK hIs hi hk0 hk5 (by omega) (fun t7 => spliced_more (LCgL.ld_own NN hCm hC hx (spliced_none (kup_newTuple FF NN (fun T h4 F4 N4 l4 => ?_) (Nat.le_of_ble_eq_true rfl)))))))))) 
    refine compEnd1 F4 N4 l4 off trivial ⟨by simp [hlen], ?_, fun p hp => .tail _ (hsub p hp)⟩
    subst hlen
    exact (hpairs.mono fun p hp => .tail _ hp).snoc ⟨T, t7, t6, rfl, .head _⟩
  · rintro ys nw ⟨hlen, hpairs, hsub⟩
    unfold LCg.FinE
    intro D h5 tk5 F5 N5 off5
    have hne : 0 < ys.length := by omega
    refine spliced_none (min_list (pairBt rs low) rfl ⟨_, (N5 _ (.head _)).1, rfl, _, rfl⟩ hne (fun i j vi vj s' Q' E' hk' hvi hvj hq => ?_) (fun v h6 tk6 hv K6 => ?_))
    · obtain ⟨ai, ti, ui, rfl, hai⟩ := hpairs i vi hvi
      obtain ⟨aj, tj, uj, rfl, haj⟩ := hpairs j vj hvj
      refine lt_pair ?_ ⟨_, hk' _ _ (N5 _ (.tail _ hai)).1, rfl, _, rfl⟩ ⟨_, hk' _ _ (N5 _ (.tail _ haj)).1, rfl, _, rfl⟩ hq
      ktr_units
    · obtain ⟨ab, tb, ub, rfl, hab⟩ := hpairs _ _ hv
      have F6 := F5.keeps K6
      have N6 := N5.grown K6
      refine wpAny_Constant_int ?_
      dsimp only
      refine item_tupleT (j := 1) (l := [_, _]) ⟨_, (N6 _ (.tail _ hab)).1, rfl, _, rfl⟩ (by decide) (by decide) rfl rfl ?_
      refine leaveK_ F6 N6 (fun kF kN => ?_)
      dsimp only
      rw [hlen, argBest_looZ rs e1 e2]
      exact hret ub h6 _ kF fun p hp => kN p (.tail _ (hsub p (.tail _ hp)))
end
end
section
open PySem PySem.W PyProof.Rows
local macro_rules | `(tactic| walk_at "call ref") => `(tactic| (k_here; with_reducible refine here_of ?_))
local macro_rules | `(tactic| walk_at "exec Assign cons ListComp") => `(tactic| (k_here; with_reducible refine here_of ?_))
local macro_rules | `(tactic| walk_at "exec For") => `(tactic| (k_here; with_reducible refine here_of ?_))
local macro_rules | `(tactic| walk_at "exec While") => `(tactic| (k_here; with_reducible refine here_of ?_))
section
open PySem PySem.W PyProof.Rows

section
variable {w : World} {mean : ExcName → Option Value} {mg mb : Str → Option Value} {dp u : Nat} {gd : Option (List Code)} {cn : Str} {cs : Scope} {a : Addr} {ccd : Value} {cl : List (Str × Addr)} {outer : List Env} {A₀ : Around} {base h₀ : Heap} {L : Addr} {m : Str → Option Value} {news : Led} {s : Shared}
    {Q E : Value → Shared → Prop}
set_option maxRecDepth 100000 in
set_option maxHeartbeats 8000000 in
theorem c_holds {l : Addr} {vs : List Value} {rs : List Int} {n : Nat} {one other : Int} {t1 t2 : Tok}
    (B : Below A₀ base outer h₀) (F : Fr h₀ L s.heap m) (X : (hd.heap_39 w.params).In h₀) (N : News h₀ L s.heap news) (T : Top hd.view_39 LS mean mg mb h₀) (hk : cs.kind = .function) (hl : (l, listOf vs.toArray n) ∈ news) (hi : IntsAre vs rs)
    (e1 : 0 ≤ one) (e2 : one < 5) (e3 : 0 ≤ other) (e5 : other < 5) (e4 : rs.length = 5) (hdp : dp + 6 < recursionLimit) (hun : u + 60 < cLine)
    (hret : ∀ h' tk', Fr h₀ L h' m → News h₀ L h' news → Q (.bool (holdsZ rs one other)) { s with heap := h', toks := tk' }) :
    wpAny (model PySem.Challenge.rw_ti0051_01.row.prog w) (ktrTop dp u gd cn cs L a ccd cl outer) (call (.ref 206) [.ref l, .int one t1, .int other t2]) Q E s := by
  have hfill9 : PySem.Challenge.rw_ti0051_01.foot = PySem.Challenge.rw_ti0051_01.foot ∧ hd.heap_39 = hd.heap_39 := by (k_fill; exact ⟨rfl, rfl⟩)
  clear hfill9
  w_top off
  refine wpAny_call ?_
  k_dflt ktr_enter
  k_steps
  unfold Here
  rename_i g1 L1 h1 FG1 F1 B1 X1 T1 h2 tk2 F2 h3 tk3 F3 N3
  refine c_loosest B1 F3 X1 N3 T1 rfl hl hi ?_ ?_ ?_ e4 ?_ ?_ ?_
  · split <;> omega
  · split <;> split <;> omega
  · split <;> omega
  · ktr_room
  · ktr_units
  intro t h4 tk4 F4 N4
  (try dsimp only)
  k_steps
  exact hret _ _ (by assumption) (by assumption)
end
end
section
open PySem PySem.W PyProof.Rows
local macro_rules | `(tactic| walk_at "CompSrc") => `(tactic| (k_here; with_reducible refine here_of ?_))
local macro_rules | `(tactic| walk_at "CompSrcT") => `(tactic| (k_here; with_reducible refine here_of ?_))

section
variable {w : World} {mean : ExcName → Option Value} {mg mb : Str → Option Value} {dp u : Nat} {gd : Option (List Code)} {cn : Str} {cs : Scope} {a : Addr} {ccd : Value} {cl : List (Str × Addr)} {outer : List Env} {A₀ : Around} {base h₀ : Heap} {L : Addr} {m : Str → Option Value} {news : Led} {s : Shared}
    {Q E : Value → Shared → Prop}
set_option maxRecDepth 100000 in
set_option maxHeartbeats 8000000 in
theorem c_ahead {l : Addr} {vs : List Value} {rs : List Int} {n : Nat} {place way : Int} {t1 t2 : Tok}
    (B : Below A₀ base outer h₀) (F : Fr h₀ L s.heap m) (X : (hd.heap_39 w.params).In h₀) (N : News h₀ L s.heap news) (T : Top hd.view_39 LS mean mg mb h₀) (hk : cs.kind = .function) (hl : (l, listOf vs.toArray n) ∈ news) (hi : IntsAre vs rs)
    (e1 : 0 ≤ place) (e2 : place < 5) (e3 : -1 ≤ way) (e5 : way ≤ 1) (e4 : rs.length = 5) (hdp : dp + 8 < recursionLimit) (hun : u + 80 < cLine)
    (hret : ∀ t h' tk', Fr h₀ L h' m → News h₀ L h' news → Q (.int (aheadZ rs place way) t) { s with heap := h', toks := tk' }) :
    wpAny (model PySem.Challenge.rw_ti0051_01.row.prog w) (ktrTop dp u gd cn cs L a ccd cl outer) (call (.ref 211) [.ref l, .int place t1, .int way t2]) Q E s := by
  have hfill9 : PySem.Challenge.rw_ti0051_01.foot = PySem.Challenge.rw_ti0051_01.foot ∧ hd.heap_39 = hd.heap_39 := by (k_fill; exact ⟨rfl, rfl⟩)
  clear hfill9
  w_top off
  refine wpAny_call ?_
  k_dflt (refine' code_defC ?k1 ?k2 ?k3 ?k4 ?k5 ?kA ?kF ?kK ?k6 ?k7 ?k8 ?k9 ?kB ?kD ?_ ?c2 ?c3 ?c4; (case kA => exact rfl); (case kF => exact rfl); (case kK => first | assumption | exact rfl); (case k1 => k_asm); (case k2 => k_asm); (case k3 => k_asm); (case k4 => k_asm); (case k5 => k_asm); (case k6 => k_is); (case k7 => k_is); (case k8 => ktr_room); (case k9 => first | exact BindsTo.of_eq rfl | exact binds_K (by k_in) rfl (by k_is) rfl rfl rfl | fail "k_enter: no rule for these arguments"); (case kB => exact rfl); (case kD => decide +kernel); (case c2 => exact rfl); (case c3 => exact rfl); (case c4 => exact rfl); k_whole; intro g1 L1 h1 tk1 cells1 FG1 F1 N1 Y1 B1 X1 T1 l1; (try k_lt l1); k_cells Y1; (try simp only [List.cons_append, List.nil_append] at N1); (try dsimp only); (try k_lift B1); (try k_fold))
  k_steps
  unfold Here
  refine LCt.Assign_ListComp_T (F₀ := by k_asm) (by rfl) (by with_unfolding_all rfl) (by with_unfolding_all rfl) (by decide) (by rfl) (by decide) (by rfl) (by rfl) (by rfl) ?_
  k_steps
  unfold Here
  rename_i o1 o2 o3 d1 d2 d3 N1 h2 tk2 t3 t4 t5 R2 F2 N2 K2
  have d1' : o1.data = .cell (some (.int way t2)) := d1
  have d2' : o2.data = .cell (some (.int place t1)) := d2
  have d3' : o3.data = .cell (some (.ref l)) := d3
  clear d1 d2 d3
  refine LCt.CompSrcT.range (n := 5) (by rfl) F2 N2 R2 (by decide) (by rfl) (Nat.le_of_ble_eq_true rfl) ?_
  intro g3
  refine restT_ind (Inv := fun i ys nw => nw = (L1 + 1 + 1 + 1, o1) :: (L1 + 1 + 1, o2) :: (L1 + 1, o3) :: news ∧ IntsAre ys ((five.take i).filter (aheadP rs place way))) ?_ ?_ ?_
  · exact ⟨rfl, .nil⟩
  · rintro i ys nw v I oI C oC D m2 h tk E' hin ⟨rfl, hys⟩ hP hC hx FF NN off ne
    obtain ⟨t6, rfl⟩ := hP
    have hCm : (C, oC) ∈ (I, oI) :: (C, oC) :: (D, LCg.lst ys) :: (L1 + 1 + 1 + 1, o1) :: (L1 + 1 + 1, o2) :: (L1 + 1, o3) :: news := .tail _ (.head _)
    have m1 : (L1 + 1 + 1 + 1, o1) ∈ (I, oI) :: (C, oC) :: (D, LCg.lst ys) :: (L1 + 1 + 1 + 1, o1) :: (L1 + 1 + 1, o2) :: (L1 + 1, o3) :: news := .tail _ (.tail _ (.tail _ (.head _)))
    have m2' : (L1 + 1 + 1, o2) ∈ (I, oI) :: (C, oC) :: (D, LCg.lst ys) :: (L1 + 1 + 1 + 1, o1) :: (L1 + 1 + 1, o2) :: (L1 + 1, o3) :: news := .tail _ (.tail _ (.tail _ (.tail _ (.head _))))
    have m3 : (L1 + 1, o3) ∈ (I, oI) :: (C, oC) :: (D, LCg.lst ys) :: (L1 + 1 + 1 + 1, o1) :: (L1 + 1 + 1, o2) :: (L1 + 1, o3) :: news := .tail _ (.tail _ (.tail _ (.tail _ (.tail _ (.head _)))))
    have hlm : (l, listOf vs.toArray n) ∈ (I, oI) :: (C, oC) :: (D, LCg.lst ys) :: (L1 + 1 + 1 + 1, o1) :: (L1 + 1 + 1, o2) :: (L1 + 1, o3) :: news := .tail _ (.tail _ (.tail _ (.tail _ (.tail _ (.tail _ hl)))))
    refine isTrue_and (wpAny_isTrue_Compare1 (wpAny_BinOp (wpAny_BinOp (kcf_cell NN rfl m2' d2' (LCgL.ld_own NN hCm hC hx (sub_int (kcf_cell NN rfl m1 d1' (mul_int (wpAny_Constant_int (gt_int (wpAny_truthy_bool ?_)))))))))))
    dsimp only
    have step : ∀ b, aheadP rs place way (i : Int) = b → (five.take (i + 1)).filter (aheadP rs place way) = (five.take i).filter (aheadP rs place way) ++ (if b then [(i : Int)] else []) := fun b e => e ▸ five_take hin _
    have z : (0 : Int) + (i : Int) = (i : Int) := Int.zero_add _
    rw [z] at hx
    by_cases hc : 0 < (place - (i : Int)) * way
    · rw [z, if_pos (decide_eq_true hc)]
      refine isTrue_and (isTrue_not (isTrue_plain (Call_ (LCgL.ld_global FF X1 T1 (by k_is) (callWith_K X1 (by k_is) (spliced_more (kcf_cell NN rfl m3 d3' (spliced_more (kcf_cell NN rfl m2' d2' (spliced_more (LCgL.ld_own NN hCm hC hx (spliced_none ⟨X1.keeps FF.keep, ?_⟩)))))))))))) 
      refine c_holds B1 FF X1 NN T1 rfl hlm hi e1 e2 (by omega) (by omega) e4 ?_ ?_ ?_
      · ktr_room
      · ktr_units
      intro h5 tk5 F5 N5
      refine wpAny_truthy_bool ?_
      cases hh : holdsZ rs place (i : Int) with
      | true =>
        have e9 := step false (by unfold aheadP; simp [hh])
        simp only [Bool.not_true, Bool.false_eq_true, if_false]
        refine compEnd0 F5 N5 off trivial ⟨rfl, ?_⟩
        rw [e9]
        simpa using hys
      | false =>
        have e9 := step true (by unfold aheadP; simp [hh]; exact hc)
        simp only [Bool.not_false, if_true]
        refine isTrue_and_nil ?_
        simp only [if_true]
        refine LCgL.ld_own N5 hCm hC hx ?_
        refine compEnd0 F5 N5 off trivial ⟨rfl, ?_⟩
        rw [e9]
        exact hys.append (.cons _ _ .nil)
    · have e9 := step false (by unfold aheadP; simp; intro h; exact absurd h hc)
      rw [z, if_neg (by simpa using hc)]
      simp only [Bool.false_eq_true, if_false]
      refine compEnd0 FF NN off trivial ⟨rfl, ?_⟩
      rw [e9]
      simpa using hys
  · rintro ys₁ nw ⟨rfl, hys₁⟩
    unfold LCg.FinA
    intro D₁ h5 tk5 F5 N5 off5
    k_steps
    unfold Here
    refine LCt.ListComp_T (F₀ := F5) (by with_unfolding_all rfl) (by decide) (by rfl) (by decide) (by rfl) ?_
    k_steps
    unfold Here
    rename_i h6 tk6 t7 t8 t9 R6 F6 N6 K6
    refine LCt.CompSrcT.range (n := 5) (by rfl) F6 N6 R6 (by decide) (by rfl) (Nat.le_of_ble_eq_true rfl) ?_
    intro g7
    refine restT_ind (Inv := fun i ys nw => nw = (D₁, LCg.lst ys₁) :: (L1 + 1 + 1 + 1, o1) :: (L1 + 1 + 1, o2) :: (L1 + 1, o3) :: news ∧ IntsAre ys ((five.take i).filter (aheadR rs place way))) ?_ ?_ ?_
    · exact ⟨rfl, .nil⟩
    · rintro i ys nw v I oI C oC D m2 h tk E' hin ⟨rfl, hys⟩ hP hC hx FF NN off ne
      obtain ⟨t6, rfl⟩ := hP
      have hCm : (C, oC) ∈ (I, oI) :: (C, oC) :: (D, LCg.lst ys) :: (D₁, LCg.lst ys₁) :: (L1 + 1 + 1 + 1, o1) :: (L1 + 1 + 1, o2) :: (L1 + 1, o3) :: news := .tail _ (.head _)
      have m1 : (L1 + 1 + 1 + 1, o1) ∈ (I, oI) :: (C, oC) :: (D, LCg.lst ys) :: (D₁, LCg.lst ys₁) :: (L1 + 1 + 1 + 1, o1) :: (L1 + 1 + 1, o2) :: (L1 + 1, o3) :: news := .tail _ (.tail _ (.tail _ (.tail _ (.head _))))
      have m2' : (L1 + 1 + 1, o2) ∈ (I, oI) :: (C, oC) :: (D, LCg.lst ys) :: (D₁, LCg.lst ys₁) :: (L1 + 1 + 1 + 1, o1) :: (L1 + 1 + 1, o2) :: (L1 + 1, o3) :: news := .tail _ (.tail _ (.tail _ (.tail _ (.tail _ (.head _)))))
      have m3 : (L1 + 1, o3) ∈ (I, oI) :: (C, oC) :: (D, LCg.lst ys) :: (D₁, LCg.lst ys₁) :: (L1 + 1 + 1 + 1, o1) :: (L1 + 1 + 1, o2) :: (L1 + 1, o3) :: news := .tail _ (.tail _ (.tail _ (.tail _ (.tail _ (.tail _ (.head _))))))
      have hlm : (l, listOf vs.toArray n) ∈ (I, oI) :: (C, oC) :: (D, LCg.lst ys) :: (D₁, LCg.lst ys₁) :: (L1 + 1 + 1 + 1, o1) :: (L1 + 1 + 1, o2) :: (L1 + 1, o3) :: news := .tail _ (.tail _ (.tail _ (.tail _ (.tail _ (.tail _ (.tail _ hl))))))
      refine isTrue_and (wpAny_isTrue_Compare1 (wpAny_BinOp (wpAny_BinOp (kcf_cell NN rfl m2' d2' (LCgL.ld_own NN hCm hC hx (sub_int (kcf_cell NN rfl m1 d1' (mul_int (wpAny_Constant_int (lt_int (wpAny_truthy_bool ?_)))))))))))
      dsimp only
      have step : ∀ b, aheadR rs place way (i : Int) = b → (five.take (i + 1)).filter (aheadR rs place way) = (five.take i).filter (aheadR rs place way) ++ (if b then [(i : Int)] else []) := fun b e => e ▸ five_take hin _
      have z : (0 : Int) + (i : Int) = (i : Int) := Int.zero_add _
      rw [z] at hx
      by_cases hc : (place - (i : Int)) * way < 0
      · rw [z, if_pos (decide_eq_true hc)]
        refine isTrue_and (isTrue_plain (Call_ (LCgL.ld_global FF X1 T1 (by k_is) (callWith_K X1 (by k_is) (spliced_more (kcf_cell NN rfl m3 d3' (spliced_more (LCgL.ld_own NN hCm hC hx (spliced_more (kcf_cell NN rfl m2' d2' (spliced_none ⟨X1.keeps FF.keep, ?_⟩))))))))))) 
        refine c_holds B1 FF X1 NN T1 rfl hlm hi (by omega) (by omega) e1 e2 e4 ?_ ?_ ?_
        · ktr_room
        · ktr_units
        intro h5 tk5 F5 N5
        refine wpAny_truthy_bool ?_
        cases hh : holdsZ rs (i : Int) place with
        | false =>
          have e9 := step false (by unfold aheadR; simp [hh])
          simp only [Bool.false_eq_true, if_false]
          refine compEnd0 F5 N5 off trivial ⟨rfl, ?_⟩
          rw [e9]
          simpa using hys
        | true =>
          have e9 := step true (by unfold aheadR; simp [hh]; exact hc)
          simp only [if_true]
          refine isTrue_and_nil ?_
          simp only [if_true]
          refine LCgL.ld_own N5 hCm hC hx ?_
          refine compEnd0 F5 N5 off trivial ⟨rfl, ?_⟩
          rw [e9]
          exact hys.append (.cons _ _ .nil)
      · have e9 := step false (by unfold aheadR; simp; intro h; exact absurd h hc)
        rw [z, if_neg (by simpa using hc)]
        simp only [Bool.false_eq_true, if_false]
        refine compEnd0 FF NN off trivial ⟨rfl, ?_⟩
        rw [e9]
        simpa using hys
    · rintro ys nw ⟨rfl, hys⟩
      unfold LCg.FinE
      intro D h8 tk8 F8 N8 off8
      dsimp only
      have len1 := hys₁.length
      have len2 := hys.length
      have b1 : ((List.take 5 five).filter (aheadP rs place way)).length ≤ 5 := List.length_filter_le _ _
      have b2 : ((List.take 5 five).filter (aheadR rs place way)).length ≤ 5 := List.length_filter_le _ _
      have N8' : News g1 L1 h8 ((D₁, LCg.lst ys₁) :: (D, LCg.lst ys) :: (L1 + 1 + 1 + 1, o1) :: (L1 + 1 + 1, o2) :: (L1 + 1, o3) :: news) := cb_drop N8 (fun p hp => by
        rcases List.mem_cons.mp hp with rfl | hp
        · exact .tail _ (.head _)
        rcases List.mem_cons.mp hp with rfl | hp
        · exact .head _
        · exact .tail _ (.tail _ hp))
      refine iadd_head F8 N8' ?_ (.head _) (by simp only [List.size_toArray]; omega) ?_
      · intro p hp
        rcases List.mem_cons.mp hp with rfl | hp
        · exact Ne.symm off8.1
        · exact off1_mem off5 p hp
      intro h9 n9 F9 N9
      k_steps
      rename_i h10 F10 N10
      have hsz : (ys₁.toArray ++ ys.toArray).size = ys₁.length + ys.length := by simp
      refine len_list ⟨_, (N10 _ (.head _)).1, rfl, _, rfl⟩ (by rw [hsz]; omega) ?_
      refine leaveK_ F10 N10 (fun kF kN => ?_)
      have hz : (((ys₁.toArray ++ ys.toArray).size : Nat) : Int) = aheadZ rs place way := by
        rw [hsz, len1, len2]
        rfl
      rw [hz]
      exact hret _ _ _ kF fun p hp => kN p (.tail _ (.tail _ (.tail _ (.tail _ (.tail _ hp)))))
end
end
end
end
end
section
open PySem PySem.W PyProof.Rows
local macro_rules | `(tactic| walk_at "eval ListComp") => `(tactic| (k_here; with_reducible refine here_of ?_))
local macro_rules | `(tactic| walk_at "exec Assign cons ListComp") => `(tactic| (k_here; with_reducible refine here_of ?_))
local macro_rules | `(tactic| walk_at "binaryOp Mult ref int") => `(tactic| (k_here; with_reducible refine here_of ?_))
local macro_rules | `(tactic| walk_at "binaryOp Add ref ref") => `(tactic| (k_here; with_reducible refine here_of ?_))
local macro_rules | `(tactic| walk_at "inplaceOp Add ref") => `(tactic| (k_here; with_reducible refine here_of ?_))
local macro_rules | `(tactic| walk_at "call builtin:str.join") => `(tactic| (k_here; with_reducible refine here_of ?_))
local macro_rules | `(tactic| walk_at "CompSrc") => `(tactic| (k_here; with_reducible refine here_of ?_))
local macro_rules | `(tactic| walk_at "CompSrcT") => `(tactic| (k_here; with_reducible refine here_of ?_))
local macro_rules | `(tactic| walk_at "exec For") => `(tactic| (k_here; with_reducible refine here_of ?_))
local macro_rules | `(tactic| walk_at "exec While") => `(tactic| (k_here; with_reducible refine here_of ?_))
section
open PySem PySem.W PyProof.Rows
local macro_rules | `(tactic| walk_at "call ref") => `(tactic| (k_here; with_reducible refine here_of ?_))
local macro_rules | `(tactic| walk_at "subscriptTail Name Slice ref ref") => `(tactic| (k_here; with_reducible refine here_of ?_))
section
open PySem PySem.W PyProof.Rows

section
variable {w : World} {mean : ExcName → Option Value} {mg mb : Str → Option Value} {dp u : Nat} {gd : Option (List Code)} {cn : Str} {cs : Scope} {a : Addr} {ccd : Value} {cl : List (Str × Addr)} {outer : List Env} {A₀ : Around} {base h₀ : Heap} {L : Addr} {m : Str → Option Value} {news : Led} {s : Shared}
    {Q E : Value → Shared → Prop}
set_option maxRecDepth 100000 in
set_option maxHeartbeats 8000000 in
theorem c_lead {l : Addr} {vs : List Value} {rs : List Int} {n : Nat} {place turn run : Int} {t1 t2 t3 : Tok}
    (B : Below A₀ base outer h₀) (F : Fr h₀ L s.heap m) (X : (hd.heap_39 w.params).In h₀) (N : News h₀ L s.heap news) (T : Top hd.view_39 LS mean mg mb h₀) (hk : cs.kind = .function) (hl : (l, listOf vs.toArray n) ∈ news) (hi : IntsAre vs rs)
    (e1 : 0 ≤ place) (e2 : place < 5) (e3 : 0 ≤ turn) (e5 : turn < 20) (e6 : 1 ≤ run) (e7 : run ≤ 3) (e4 : rs.length = 5) (hdp : dp + 10 < recursionLimit) (hun : u + 100 < cLine)
    (hret : ∀ t h' tk', Fr h₀ L h' m → News h₀ L h' news → Q (.str (leadS rs place turn run) t) { s with heap := h', toks := tk' }) :
    wpAny (model PySem.Challenge.rw_ti0051_01.row.prog w) (ktrTop dp u gd cn cs L a ccd cl outer) (call (.ref 218) [.ref l, .int place t1, .int turn t2, .int run t3]) Q E s := by
  have hfill9 : PySem.Challenge.rw_ti0051_01.foot = PySem.Challenge.rw_ti0051_01.foot ∧ hd.heap_39 = hd.heap_39 := by (k_fill; exact ⟨rfl, rfl⟩)
  clear hfill9
  w_top off
  refine wpAny_call ?_
  k_dflt ktr_enter
  k_steps
  unfold Here
  rename_i g1 L1 h1 FG1 F1 N1 B1 X1 T1
  refine c_ahead B1 F1 X1 N1 T1 rfl hl hi e1 e2 (by omega) (by omega) e4 ?_ ?_ ?_
  · ktr_room
  · ktr_units
  intro t h2 tk2 F2 N2
  k_steps
  unfold Here
  refine c_ahead B1 F2 X1 N2 T1 rfl hl hi e1 e2 (by omega) (by omega) e4 ?_ ?_ ?_
  · ktr_room
  · ktr_units
  intro t h3 tk3 F3 N3
  have al := aheadZ_nonneg rs place 1
  have al' := aheadZ_le rs place 1
  have ar := aheadZ_nonneg rs place (-1)
  have ar' := aheadZ_le rs place (-1)
  have p0 : 0 ≤ run * aheadZ rs place (-1) := Int.mul_nonneg (by omega) ar
  have p1 : run * aheadZ rs place (-1) ≤ 30 := by
    have hrun : run = 1 ∨ run = 2 ∨ run = 3 := by omega
    rcases hrun with rfl | rfl | rfl <;> omega
  k_steps
  unfold Here
  (try dsimp only)
  rename_i D4 h4 l4 h5 h6 h7 t6 k6 z1 z2 t7 k7 z3 D8 h8 F8 N8 l8
  refine mulK F8 N8 (.head _) (by omega) (by omega) (by simp only [List.size_toArray, List.length_cons, List.length_nil]; omega) ?_
  intro D9 h9 F9 N9 l9
  k_steps
  unfold Here
  (try dsimp only)
  rename_i D10 h10 F10 N10 l10
  refine mulK F10 N10 (.head _) (by omega) (by omega) (by simp only [List.size_toArray, List.length_cons, List.length_nil]; omega) ?_
  intro D11 h11 F11 N11 l11
  k_steps
  unfold Here
  (try dsimp only)
  have flat : ∀ (v : Value) (k : Nat), (List.replicate k [v]).flatten = List.replicate k v := fun v k => lm_rep_flat_one v k
  refine addK F11 N11 (.tail _ (.tail _ (.head _))) (.head _) ?_ ?_
  · simp only [flat, List.size_toArray, List.length_replicate]
    omega
  intro D12 h12 F12 N12 l12
  simp only [flat] at N12
  generalize hst : List.replicate (4 + aheadZ rs place 1 - aheadZ rs place (-1)).toNat (Value.str (Txt.mul (Str.ofString " ") run ++ Str.ofString "\t") t7) ++ List.replicate (4 + aheadZ rs place (-1) - aheadZ rs place 1 + run * aheadZ rs place (-1)).toNat (Value.str (Str.ofString "\t") (k7 + 1 + 1 + 1)) = sts at N12
  replace N12 := cb_drop (news := (D12, listOf sts.toArray 0) :: news) N12 (fun p hp => by
    rcases List.mem_cons.mp hp with rfl | hp
    · exact .head _
    · simp only [List.mem_cons, hp, or_true])
  have hlen : sts.length ≤ 60 := by
    rw [← hst]
    simp only [List.length_append, List.length_replicate]
    omega
  have hl12 : ∀ p ∈ news, p.1 < D12 := fun p hp => l12 p (by simp only [List.mem_cons, hp, or_true])
  clear l12 l11 l10 l9 l8 l4
  k_steps
  (try dsimp only)
  rename_i h13 F13 N13
  refine kmk_slice_lit (s := { heap := h13, gens := s.gens, drawn := s.drawn, toks := tk + 1, os := s.os }) (its := sts.toArray) (lo := some turn) (hi := none) F13 N13 ⟨_, (N13 _ (.head _)).1, rfl, _, rfl⟩ (.int _ _) .none (pick_from e3) ?_ (by with_unfolding_all rfl) (by intro _; with_unfolding_all rfl) (by rw [sizeLine_eq, List.size_toArray]; omega)
  intro D14 h14 F14 N14 l14
  k_steps
  unfold Here
  refine kmk_slice_lit (s := { heap := h14, gens := s.gens, drawn := s.drawn, toks := tk + 1, os := s.os }) (its := sts.toArray) (lo := none) (hi := some turn) F14 N14 ⟨_, (N14 _ (.tail _ (.head _))).1, rfl, _, rfl⟩ .none (.int _ _) (pick_upto e3) ?_ (by with_unfolding_all rfl) (by intro _; with_unfolding_all rfl) (by rw [sizeLine_eq, List.size_toArray]; omega)
  intro D15 h15 F15 N15 l15
  k_steps
  unfold Here
  refine addK F15 N15 (.tail _ (.head _)) (.head _) ?_ ?_
  · simp only [List.size_toArray, List.length_drop, List.length_take]
    omega
  intro D16 h16 F16 N16 l16
  k_steps
  unfold Here
  have hsa : StrsAre sts (List.replicate (4 + aheadZ rs place 1 - aheadZ rs place (-1)).toNat (Txt.mul (Str.ofString " ") run ++ Str.ofString "\t") ++ List.replicate (4 + aheadZ rs place (-1) - aheadZ rs place 1 + run * aheadZ rs place (-1)).toNat (Str.ofString "\t")) := by
    rw [← hst]
    exact StrsAre.app (StrsAre.rep _ _ _) (StrsAre.rep _ _ _)
  refine join_list (ys := (List.replicate (4 + aheadZ rs place 1 - aheadZ rs place (-1)).toNat (Txt.mul (Str.ofString " ") run ++ Str.ofString "\t") ++ List.replicate (4 + aheadZ rs place (-1) - aheadZ rs place 1 + run * aheadZ rs place (-1)).toNat (Str.ofString "\t")).drop turn.toNat ++ (List.replicate (4 + aheadZ rs place 1 - aheadZ rs place (-1)).toNat (Txt.mul (Str.ofString " ") run ++ Str.ofString "\t") ++ List.replicate (4 + aheadZ rs place (-1) - aheadZ rs place 1 + run * aheadZ rs place (-1)).toNat (Str.ofString "\t")).take turn.toNat) ⟨_, (N16 _ (.head _)).1, rfl, _, rfl⟩ ?_ ?_ ?_
  · exact StrsAre.app (StrsAre.drp hsa _) (StrsAre.tak hsa _)
  · have hlq := StrsAre.len hsa
    have hT : (Str.ofString "\t").length = 1 := by decide +kernel
    have hm : (Txt.mul (Str.ofString " ") run).length ≤ 3 := by
      have := z2 (by omega)
      omega
    have hb : ∀ x ∈ List.map (fun q : Str => q.length) ((List.replicate (4 + aheadZ rs place 1 - aheadZ rs place (-1)).toNat (Txt.mul (Str.ofString " ") run ++ Str.ofString "\t") ++ List.replicate (4 + aheadZ rs place (-1) - aheadZ rs place 1 + run * aheadZ rs place (-1)).toNat (Str.ofString "\t")).drop turn.toNat ++ (List.replicate (4 + aheadZ rs place 1 - aheadZ rs place (-1)).toNat (Txt.mul (Str.ofString " ") run ++ Str.ofString "\t") ++ List.replicate (4 + aheadZ rs place (-1) - aheadZ rs place 1 + run * aheadZ rs place (-1)).toNat (Str.ofString "\t")).take turn.toNat), x ≤ 10 := by
      intro x hx
      obtain ⟨q, hq, rfl⟩ := List.mem_map.mp hx
      have hq' : q ∈ List.replicate (4 + aheadZ rs place 1 - aheadZ rs place (-1)).toNat (Txt.mul (Str.ofString " ") run ++ Str.ofString "\t") ++ List.replicate (4 + aheadZ rs place (-1) - aheadZ rs place 1 + run * aheadZ rs place (-1)).toNat (Str.ofString "\t") := by
        rcases List.mem_append.mp hq with hq | hq
        · exact List.mem_of_mem_drop hq
        · exact List.mem_of_mem_take hq
      rcases List.mem_append.mp hq' with hq' | hq'
      · rw [List.eq_of_mem_replicate hq']
        omega
      · rw [List.eq_of_mem_replicate hq']
        omega
    have hs := sum_le_of hb
    have h0 : (Str.ofString "").length = 0 := by decide +kernel
    rw [h0]
    simp only [List.length_map, List.length_append, List.length_drop, List.length_take, List.length_replicate] at hs ⊢
    omega
  intro t' k'
  k_steps
  exact hret _ _ _ (by assumption) (cb_drop (by assumption) (fun p hp => by simp only [List.mem_cons, hp, or_true]))
end
end
section
open PySem PySem.W PyProof.Rows
local macro_rules | `(tactic| omega) => `(tactic| lia)
local macro_rules | `(tactic| walk_at "subscriptTail Name BinOp ref int") => `(tactic| (k_here; with_reducible refine here_of ?_))
section
open PySem PySem.W PyProof.Rows

theorem led_f6 {x a b c d e f : Addr × Obj} {r : Led} : ∀ p ∈ x :: a :: b :: c :: d :: e :: f :: r, p ∈ a :: b :: c :: d :: e :: f :: x :: r := fun p hp => by
  simp only [List.mem_cons] at hp ⊢
  rcases hp with h | h | h | h | h | h | h | h <;> simp [h]
theorem led_neA {a : Addr × Obj} {l : Led} {c : Nat} (h1 : a.1 ≠ c) (h : ∀ p ∈ l, p.1 ≠ c) : ∀ p ∈ a :: l, p.1 ≠ c := fun p hp => by
  rcases List.mem_cons.mp hp with rfl | hp
  · exact h1
  · exact h p hp
section
variable {w : World} {mean : ExcName → Option Value} {mg mb : Str → Option Value} {dp u : Nat} {gd : Option (List Code)} {cn : Str} {cs : Scope} {a : Addr} {ccd : Value} {cl : List (Str × Addr)} {outer : List Env} {A₀ : Around} {base h₀ : Heap} {L : Addr} {m : Str → Option Value} {news : Led} {s : Shared}
    {Q E : Value → Shared → Prop}
set_option maxRecDepth 100000 in
set_option maxHeartbeats 8000000 in
theorem c_operator {number : Int} {t1 : Tok}
    (B : Below A₀ base outer h₀) (F : Fr h₀ L s.heap m) (X : (hd.heap_39 w.params).In h₀) (N : News h₀ L s.heap news) (T : Top hd.view_39 LS mean mg mb h₀) (hk : cs.kind = .function)
    (e1 : 0 ≤ number) (hdp : dp + 4 < recursionLimit) (hun : u + 40 < cLine)
    (hret : ∀ r t t' h' tk', Fr h₀ L h' m → News h₀ L h' ((r, tupSI (opAt number).1 (opAt number).2 t t') :: news) → (∀ p ∈ news, p.1 < r) → Q (.ref r) { s with heap := h', toks := tk' }) :
    wpAny (model PySem.Challenge.rw_ti0051_01.row.prog w) (ktrTop dp u gd cn cs L a ccd cl outer) (call (.ref 187) [.int number t1]) Q E s := by
  have hfill9 : PySem.Challenge.rw_ti0051_01.foot = PySem.Challenge.rw_ti0051_01.foot ∧ hd.heap_39 = hd.heap_39 := by (k_fill; exact ⟨rfl, rfl⟩)
  clear hfill9
  w_top off
  refine wpAny_call ?_
  k_dflt ktr_enter
  k_steps
  unfold Here
  rename_i g1 L1 h1' FG1 B1' X1' T1' tk0 D1 h1 q1 D2 h2 q2 D3 h3 q3 D4 h4 q4 D5 h5 q5 D6 h6 q6 D7 h7 q7 D8 h8 q8 L9 h9 q9 h10 D11 h11 q11 D12 h12 q12 D13 h13 q13 D14 h14 q14 D15 h15 q15 L16 h16 F16 N16 q16
  have N17 := cb_drop N16 led_f6
  have q9' : D8 < L9 ∧ D7 < L9 ∧ D6 < L9 ∧ D5 < L9 ∧ D4 < L9 ∧ D3 < L9 ∧ D2 < L9 ∧ D1 < L9 ∧ AllLt L9 news := q9
  refine iadd_head F16 N17 ?_ (.head _) (by simp) ?_
  · refine led_neA (neN ?_) (led_neA (neN ?_) (led_neA (neN ?_) (led_neA (neN ?_) (led_neA (neN ?_) (led_neA (neN ?_) (led_neA (neN ?_) (led_neA (neN ?_) (led_neA (neN ?_) (led_neA (neN ?_) (led_neA (neN ?_) (led_neA (neN ?_) (led_neA (neN ?_) (led_neA (neN ?_) (fun p hp => Nat.ne_of_lt (ktn_ltOf q9.2.2.2.2.2.2.2.2 p hp))))))))))))))) <;> (dsimp only; omega)
  intro h18 n18 F18 N18
  k_steps
  unfold Here
  (try dsimp only)
  rename_i h20 F20 N20
  have hk0 : 0 ≤ (number.fdiv 5).fmod 13 := by
    rw [Int.fmod_eq_emod_of_nonneg _ (by decide)]
    exact Int.emod_nonneg _ (by decide)
  have hk1 : (number.fdiv 5).fmod 13 < 13 := by
    rw [Int.fmod_eq_emod_of_nonneg _ (by decide)]
    exact Int.emod_lt_of_pos _ (by decide)
  obtain ⟨k, hk, hk13⟩ : ∃ k : Nat, (number.fdiv 5).fmod 13 = (k : Int) ∧ k < 13 := ⟨((number.fdiv 5).fmod 13).toNat, by omega, by omega⟩
  have he : opAt number = opTab.getD k (Str.ofString "+", 14) := by
    unfold opAt
    rw [hk, Int.toNat_natCast]
  have key : ∃ r t t', (#[Value.ref D1, Value.ref D2, Value.ref D3, Value.ref D4, Value.ref D5, Value.ref D6, Value.ref D7, Value.ref D8] ++ #[Value.ref D11, Value.ref D12, Value.ref D13, Value.ref D14, Value.ref D15])[k]? = some (.ref r) ∧ News g1 L1 h20 ((r, tupSI (opTab.getD k (Str.ofString "+", 14)).1 (opTab.getD k (Str.ofString "+", 14)).2 t t') :: news) ∧ ∀ p ∈ news, p.1 < r := by
    have sub : ∀ r o, (r, o) ∈ _ → News g1 L1 h20 ((r, o) :: news) := fun r o hm => cb_drop N20 (fun p hp => by
      rcases List.mem_cons.mp hp with rfl | hp
      · exact hm
      · simp only [List.mem_cons, hp, or_true])
    match k, hk13 with
    | 0, _ => exact ⟨D1, _, _, rfl, sub _ _ (.tail _ (.tail _ (.tail _ (.tail _ (.tail _ (.tail _ (.tail _ (.tail _ (.tail _ (.tail _ (.tail _ (.tail _ (.tail _ (.tail _ (.head _))))))))))))))), q1⟩
    | 1, _ => exact ⟨D2, _, _, rfl, sub _ _ (.tail _ (.tail _ (.tail _ (.tail _ (.tail _ (.tail _ (.tail _ (.tail _ (.tail _ (.tail _ (.tail _ (.tail _ (.tail _ (.head _)))))))))))))), fun p hp => ktn_ltOf q2.2 p hp⟩
    | 2, _ => exact ⟨D3, _, _, rfl, sub _ _ (.tail _ (.tail _ (.tail _ (.tail _ (.tail _ (.tail _ (.tail _ (.tail _ (.tail _ (.tail _ (.tail _ (.tail _ (.head _))))))))))))), fun p hp => ktn_ltOf q3.2.2 p hp⟩
    | 3, _ => exact ⟨D4, _, _, rfl, sub _ _ (.tail _ (.tail _ (.tail _ (.tail _ (.tail _ (.tail _ (.tail _ (.tail _ (.tail _ (.tail _ (.tail _ (.head _)))))))))))), fun p hp => ktn_ltOf q4.2.2.2 p hp⟩
    | 4, _ => exact ⟨D5, _, _, rfl, sub _ _ (.tail _ (.tail _ (.tail _ (.tail _ (.tail _ (.tail _ (.tail _ (.tail _ (.tail _ (.tail _ (.head _))))))))))), fun p hp => ktn_ltOf q5.2.2.2.2 p hp⟩
    | 5, _ => exact ⟨D6, _, _, rfl, sub _ _ (.tail _ (.tail _ (.tail _ (.tail _ (.tail _ (.tail _ (.tail _ (.tail _ (.tail _ (.head _)))))))))), fun p hp => ktn_ltOf q6.2.2.2.2.2 p hp⟩
    | 6, _ => exact ⟨D7, _, _, rfl, sub _ _ (.tail _ (.tail _ (.tail _ (.tail _ (.tail _ (.tail _ (.tail _ (.tail _ (.head _))))))))), fun p hp => ktn_ltOf q7.2.2.2.2.2.2 p hp⟩
    | 7, _ => exact ⟨D8, _, _, rfl, sub _ _ (.tail _ (.tail _ (.tail _ (.tail _ (.tail _ (.tail _ (.tail _ (.head _)))))))), fun p hp => ktn_ltOf q8.2.2.2.2.2.2.2 p hp⟩
    | 8, _ => exact ⟨D11, _, _, rfl, sub _ _ (.tail _ (.tail _ (.tail _ (.tail _ (.tail _ (.tail _ (.head _))))))), fun p hp => ktn_ltOf q11.2.2.2.2.2.2.2.2.2 p hp⟩
    | 9, _ => exact ⟨D12, _, _, rfl, sub _ _ (.tail _ (.tail _ (.tail _ (.tail _ (.tail _ (.head _)))))), fun p hp => ktn_ltOf q12.2.2.2.2.2.2.2.2.2.2 p hp⟩
    | 10, _ => exact ⟨D13, _, _, rfl, sub _ _ (.tail _ (.tail _ (.tail _ (.tail _ (.head _))))), fun p hp => ktn_ltOf q13.2.2.2.2.2.2.2.2.2.2.2 p hp⟩
    | 11, _ => exact ⟨D14, _, _, rfl, sub _ _ (.tail _ (.tail _ (.tail _ (.head _)))), fun p hp => ktn_ltOf q14.2.2.2.2.2.2.2.2.2.2.2.2 p hp⟩
    | 12, _ => exact ⟨D15, _, _, rfl, sub _ _ (.tail _ (.tail _ (.head _))), fun p hp => ktn_ltOf q15.2.2.2.2.2.2.2.2.2.2.2.2.2 p hp⟩
    | k + 13, h => exact absurd h (by omega)
  rw [← he] at key
  obtain ⟨r, t, t', hx, hN, hlt⟩ := key
  refine item_list ⟨_, (N20 _ (.head _)).1, rfl, _, rfl⟩ hk0 (by omega) (by rw [hk, Int.toNat_natCast]; exact hx) ?_
  k_unfold
  refine leaveK_ F20 hN (fun kF kN => ?_)
  exact hret r t t' _ _ kF kN hlt
end
end
section
open PySem PySem.W PyProof.Rows
local macro_rules | `(tactic| walk_at "subscriptTail Name Name ref int") => `(tactic| (k_here; with_reducible refine here_of ?_))
section
open PySem PySem.W PyProof.Rows

section
variable {w : World} {mean : ExcName → Option Value} {mg mb : Str → Option Value} {dp u : Nat} {gd : Option (List Code)} {cn : Str} {cs : Scope} {a : Addr} {ccd : Value} {cl : List (Str × Addr)} {outer : List Env} {A₀ : Around} {base h₀ : Heap} {L : Addr} {m : Str → Option Value} {news : Led} {s : Shared}
    {Q E : Value → Shared → Prop}
set_option maxRecDepth 100000 in
set_option maxHeartbeats 8000000 in
theorem c_text0 {l ls : Addr} {lo : Nat} {t1 t2 : Tok}
    (B : Below A₀ base outer h₀) (F : Fr h₀ L s.heap m) (X : (hd.heap_39 w.params).In h₀) (N : News h₀ L s.heap news) (T : Top hd.view_39 LS mean mg mb h₀) (hk : cs.kind = .function)
    (e1 : lo ≤ 5) (hdp : dp + 8 < recursionLimit) (hun : u + 60 < cLine)
    (hret : ∀ t h' tk', Fr h₀ L h' m → News h₀ L h' news → Q (.str (letter lo) t) { s with heap := h', toks := tk' }) :
    wpAny (model PySem.Challenge.rw_ti0051_01.row.prog w) (ktrTop dp u gd cn cs L a ccd cl outer) (call (.ref 199) [.ref l, .ref ls, .int (lo : Int) t1, .int (lo : Int) t2]) Q E s := by
  have hfill9 : PySem.Challenge.rw_ti0051_01.foot = PySem.Challenge.rw_ti0051_01.foot ∧ hd.heap_39 = hd.heap_39 := by (k_fill; exact ⟨rfl, rfl⟩)
  clear hfill9
  w_top off
  refine wpAny_call ?_
  k_dflt ktr_enter
  k_steps
  · have hit : Txt.item (Str.ofString "abcdef") (lo : Int) = letter lo := by
      have : lo = 0 ∨ lo = 1 ∨ lo = 2 ∨ lo = 3 ∨ lo = 4 ∨ lo = 5 := by omega
      rcases this with rfl | rfl | rfl | rfl | rfl | rfl <;> decide +kernel
    rw [hit]
    exact hret _ _ _ (by assumption) (by assumption)
  all_goals exact absurd rfl (by assumption)
end
set_option maxRecDepth 100000 in
set_option maxHeartbeats 8000000 in
theorem c_text {w : World} {mean : ExcName → Option Value} {mg mb : Str → Option Value} {rs : List Int} {sg : List Str} (e4 : rs.length = 5) (e5 : sg.length = 5) (e6 : ∀ x ∈ sg, x.length ≤ 2) {l ls : Addr} {vs ws : List Value} {n n2 : Nat} (hi : IntsAre vs rs) (hs : StrsAre ws sg) :
    ∀ (f k lo : Nat), k ≤ f → lo + k ≤ 5 → ∀ {dp u : Nat} {gd : Option (List Code)} {cn : Str} {cs : Scope} {a : Addr} {ccd : Value} {cl : List (Str × Addr)} {outer : List Env} {A₀ : Around} {base h₀ : Heap} {L : Addr} {m : Str → Option Value} {news : Led} {s : Shared}
    {Q E : Value → Shared → Prop} {low high : Int} {t1 t2 : Tok}
    (B : Below A₀ base outer h₀) (F : Fr h₀ L s.heap m) (X : (hd.heap_39 w.params).In h₀) (N : News h₀ L s.heap news) (T : Top hd.view_39 LS mean mg mb h₀) (hk : cs.kind = .function) (hl : (l, listOf vs.toArray n) ∈ news) (hls : (ls, listOf ws.toArray n2) ∈ news)
    (e1 : low = (lo : Int)) (e2 : high = ((lo + k : Nat) : Int)) (hdp : dp + k + 8 < recursionLimit) (hun : u + 8 * k + 60 < cLine)
    (hret : ∀ t h' tk', Fr h₀ L h' m → News h₀ L h' news → Q (.str (txtS rs sg f lo k) t) { s with heap := h', toks := tk' }),
    wpAny (model PySem.Challenge.rw_ti0051_01.row.prog w) (ktrTop dp u gd cn cs L a ccd cl outer) (call (.ref 199) [.ref l, .ref ls, .int low t1, .int high t2]) Q E s := by
  have hfill9 : PySem.Challenge.rw_ti0051_01.foot = PySem.Challenge.rw_ti0051_01.foot ∧ hd.heap_39 = hd.heap_39 := by (k_fill; exact ⟨rfl, rfl⟩)
  clear hfill9
  w_top off
  intro f
  induction f with
  | zero =>
    intro k lo hkf hlk dp u gd cn cs a ccd cl outer A₀ base h₀ L m news s Q E low high t1 t2 B F X N T hk hl hls e1 e2 hdp hun hret
    obtain rfl : k = 0 := by omega
    subst e1
    subst e2
    exact c_text0 B F X N T hk (by omega) (by omega) (by omega) hret
  | succ f ih =>
    intro k lo hkf hlk dp u gd cn cs a ccd cl outer A₀ base h₀ L m news s Q E low high t1 t2 B F X N T hk hl hls e1 e2 hdp hun hret
    by_cases hk0 : k = 0
    · subst hk0
      subst e1
      subst e2
      refine c_text0 B F X N T hk (by omega) (by omega) (by omega) ?_
      exact hret
    obtain ⟨k, rfl⟩ : ∃ j, k = j + 1 := ⟨k - 1, by omega⟩
    subst e1
    subst e2
    have hge := loosest_ge rs lo k
    have hle := loosest_le rs lo k
    rw [txtS_succ] at hret
    have hlz := looZ_nat rs lo k
    generalize hr : loosest rs lo k = r at *
    have hA := txtS_len rs sg e6 f lo (r - lo)
    have hB := txtS_len rs sg e6 f (r + 1) (lo + (k + 1) - (r + 1))
    have hq1 : (Str.ofString "(").length = 1 := by decide +kernel
    have hq2 : (Str.ofString ")").length = 1 := by decide +kernel
    have hsg : (sg.getD r (Str.ofString "")).length ≤ 2 := by
      rw [List.getD_eq_getElem?_getD]
      cases e : sg[r]? with
      | none => exact (by decide +kernel : (Str.ofString "").length ≤ 2)
      | some x => exact e6 x (List.mem_of_getElem? e)
    refine wpAny_call ?_
    k_dflt ktr_enter
    k_steps
    all_goals (try omega)
    unfold Here
    rename_i g1 L1 h1 FG1 F1 N1 B1 X1 T1
    refine c_loosest B1 F1 X1 N1 T1 rfl hl hi (by omega) (by omega) (by omega) e4 ?_ ?_ ?_
    · ktr_room
    · ktr_units
    intro t h2 tk2 F2 N2
    rw [hlz]
    k_steps
    unfold Here
    (try dsimp only)
    rename_i h3 F3 N3
    refine ih (r - lo) lo (by omega) (by omega) B1 F3 X1 N3 T1 rfl hl hls rfl (by omega) ?_ ?_ ?_
    · show (dp + 1) + (r - lo) + 8 < recursionLimit
      omega
    · show (u + 3) + 8 * (r - lo) + 60 < cLine
      omega
    intro t h4 tk4 F4 N4
    k_steps
    unfold Here
    (try dsimp only)
    obtain ⟨t5, hx5⟩ := StrsAre.at hs (i := r) (by omega)
    refine item_list ⟨_, (N4 (ls, listOf ws.toArray n2) hls).1, rfl, _, rfl⟩ (Int.natCast_nonneg r) (by omega) (x := .str (sg.getD r (Str.ofString "")) t5) (by simpa using hx5) ?_
    k_steps
    unfold Here
    (try dsimp only)
    trace_state
    refine ih (lo + (k + 1) - (r + 1)) (r + 1) (by omega) (by omega) B1 F4 X1 N4 T1 rfl hl hls (by omega) (by omega) ?_ ?_ ?_
    · show (dp + 1) + (lo + (k + 1) - (r + 1)) + 8 < recursionLimit
      omega
    · show (u + 3) + 8 * (lo + (k + 1) - (r + 1)) + 60 < cLine
      omega
    intro t h6 tk6 F6 N6
    k_steps
    exact hret _ _ _ (by assumption) (by assumption)
end
section
open PySem PySem.W PyProof.Rows PySem.Spec
set_option maxRecDepth 100000
section
variable {w : World} {A : Around} {h₀ : Heap} {L : Addr} {m : Str → Option Value} {s : Shared} {E : Value → Shared → Prop}
theorem ett_in {y : Str} {t : Tok} {Q : Value → Shared → Prop} (F : Fr h₀ L s.heap m) (X : (hd.heap_39 w.params).In h₀) (h : Q (.bool (tokNum tokTab y).isSome) { s with toks := s.toks + 1 }) :
    wpAny (model PySem.Challenge.rw_ti0051_01.row.prog w) A (compareOp .In (.str y t) (.ref 171)) Q E s := by
  have hfill9 : PySem.Challenge.rw_ti0051_01.foot = PySem.Challenge.rw_ti0051_01.foot ∧ hd.heap_39 = hd.heap_39 := by (k_fill; exact ⟨rfl, rfl⟩)
  clear hfill9
  w_top off
  have hl : ∃ es n, (hd.heap_39 w.params).lookup 171 = some ⟨.type "dict", none, .dict es n, #[]⟩ ∧ KeysLit w.params es.toList ∧ TokAl es.toList tokTab := by
    exact ⟨_, _, by k_is, by k_keys, by unfold tokTab; (repeat (first | exact TokAl.nil | refine TokAl.cons _ _ _ _ _ ?_))⟩
  obtain ⟨es, n, hl, hk, ht⟩ := hl
  have z := ht.find (x := y)
  refine wpAny_in_of (strKind_is _ _ _ _) (by decide) (mapOf_K (prog := PySem.Challenge.rw_ti0051_01.row.prog) (w := w) (X.keeps F.keep) hl hk) ?_
  cases hy : tokNum tokTab y with
  | none => rw [hy] at h z; dsimp only at z; rw [z]; exact h
  | some v => rw [hy] at h z; obtain ⟨u, z⟩ := z; rw [z]; exact h
theorem ett_item {value slice : Expr} {y : Str} {t : Tok} {v : Int} {Q : Value → Shared → Prop} (F : Fr h₀ L s.heap m) (X : (hd.heap_39 w.params).In h₀) (hy : tokNum tokTab y = some v) (h : ∀ u, Q (.int v u) { s with toks := s.toks + 1 })
    (hs : subscripted slice false (.ref 171) (.str y t) = operate [.ref 171, .str y t] (getItem (.ref 171) (.str y t)) := by with_unfolding_all rfl) :
    wpAny (model PySem.Challenge.rw_ti0051_01.row.prog w) A (subscriptTail value slice (.ref 171) (.str y t)) Q E s := by
  have hfill9 : PySem.Challenge.rw_ti0051_01.foot = PySem.Challenge.rw_ti0051_01.foot ∧ hd.heap_39 = hd.heap_39 := by (k_fill; exact ⟨rfl, rfl⟩)
  clear hfill9
  w_top off
  have hl : ∃ es n, (hd.heap_39 w.params).lookup 171 = some ⟨.type "dict", none, .dict es n, #[]⟩ ∧ KeysLit w.params es.toList ∧ TokAl es.toList tokTab := by
    exact ⟨_, _, by k_is, by k_keys, by unfold tokTab; (repeat (first | exact TokAl.nil | refine TokAl.cons _ _ _ _ _ ?_))⟩
  obtain ⟨es, n, hl, hk, ht⟩ := hl
  have z := ht.find (x := y)
  rw [hy] at z
  obtain ⟨u, z⟩ := z
  have hm := mapOf_K (prog := PySem.Challenge.rw_ti0051_01.row.prog) (w := w) (X.keeps F.keep) hl hk
  exact tail_any hm.typeIs slot_dict_getitem.lookup (wpAny_getItem_of (strKind_is _ _ _ _) hm z (h u)) hs
end
theorem lex_turn {x : Str} {p : Nat} {ys : List Value} (hpn : p < x.length) (h : IntsAre ys (([2, 1] : List Int).filter (fun k => (tokNum tokTab (Txt.slice x (some (p : Int)) (some ((p : Int) + k)))).isSome))) :
    (∃ (k : Nat) (v : Int) (t : Tok) (r : List Value), 1 ≤ k ∧ k ≤ 2 ∧ ys = .int (k : Int) t :: r ∧ r.length ≤ 1 ∧ tokNum tokTab (Txt.slice x (some (p : Int)) (some ((p : Int) + (k : Int)))) = some v ∧ ∀ g, lexF (g + 1) (x.cps.toList.drop p) = v :: lexF g (x.cps.toList.drop (p + k))) ∨
    (ys = [] ∧ ∃ c, x.cps[p]? = some c ∧ ∀ g, lexF (g + 1) (x.cps.toList.drop p) = (256 + (c : Int) - 97) :: lexF g (x.cps.toList.drop (p + 1))) := by
  have hpl : p < x.cps.toList.length := by simpa [Str.length] using hpn
  have hd : x.cps.toList.drop p = x.cps.toList[p] :: x.cps.toList.drop (p + 1) := List.drop_eq_getElem_cons hpl
  have s2 : Txt.slice x (some (p : Int)) (some ((p : Int) + 2)) = ⟨((x.cps.toList.drop p).take 2).toArray⟩ := slice_text x (k := 2) (Nat.le_of_lt hpn)
  have s1 : Txt.slice x (some (p : Int)) (some ((p : Int) + 1)) = ⟨#[x.cps.toList[p]]⟩ := by
    refine (slice_text x (k := 1) (Nat.le_of_lt hpn)).trans ?_
    rw [hd]
    rfl
  have hl : ∀ g, lexF (g + 1) (x.cps.toList.drop p) = match tokNum tokTab ⟨((x.cps.toList.drop p).take 2).toArray⟩ with
      | some v => v :: lexF g (x.cps.toList.drop (p + 2))
      | none => match tokNum tokTab ⟨#[x.cps.toList[p]]⟩ with
        | some v => v :: lexF g (x.cps.toList.drop (p + 1))
        | none => (256 + (x.cps.toList[p] : Int) - 97) :: lexF g (x.cps.toList.drop (p + 1)) := by
    intro g
    have e2 : x.cps.toList.drop (p + 2) = (x.cps.toList[p] :: x.cps.toList.drop (p + 1)).drop 2 := by
      rw [← hd, List.drop_drop]
    rw [hd, e2]
    rfl
  rw [← s2, ← s1] at hl
  cases h2 : tokNum tokTab (Txt.slice x (some (p : Int)) (some ((p : Int) + 2))) with
  | some v =>
    rw [List.filter_cons, if_pos (by rw [h2]; rfl)] at h
    cases h with
    | cons _ t r =>
      rename_i vs
      have hb : vs.length ≤ 1 := by rw [r.length]; exact List.length_filter_le _ _
      refine .inl ⟨2, v, t, _, by omega, by omega, rfl, hb, h2, fun g => ?_⟩
      rw [hl g, h2]
  | none =>
    rw [List.filter_cons, if_neg (by rw [h2]; decide)] at h
    cases h1 : tokNum tokTab (Txt.slice x (some (p : Int)) (some ((p : Int) + 1))) with
    | some v =>
      rw [List.filter_cons, if_pos (by rw [h1]; rfl)] at h
      cases h with
      | cons _ t r =>
        rename_i vs
        have hb : vs.length ≤ 1 := by rw [r.length]; exact Nat.le_trans (List.length_filter_le _ _) (by simp)
        refine .inl ⟨1, v, t, _, by omega, by omega, rfl, hb, h1, fun g => ?_⟩
        rw [hl g, h2]
        simp only [h1]
    | none =>
      rw [List.filter_cons, if_neg (by rw [h1]; decide)] at h
      cases h
      refine .inr ⟨rfl, x.cps.toList[p], by rw [← Array.getElem?_toList]; exact List.getElem?_eq_getElem hpl, fun g => ?_⟩
      rw [hl g, h2]
      simp only [h1]
theorem ite_twice {S : Str} {a b : Option Value} {g : Str → Option Value} : (fun z => if z = S then a else (fun y => if y = S then b else g y) z) = fun y => if y = S then a else g y := by
  funext y
  by_cases hy : y = S
  · rw [if_pos hy, if_pos hy]
  · rw [if_neg hy, if_neg hy]
    show (if y = S then b else g y) = g y
    rw [if_neg hy]
theorem item_getD {x : Str} {p c : Nat} (h : x.cps[p]? = some c) : (Txt.item x (p : Int)).cps.getD 0 0 = c := by
  have hp : p < x.cps.size := by
    rcases Nat.lt_or_ge p x.cps.size with q | q
    · exact q
    · rw [Array.getElem?_eq_none q] at h; cases h
  show (#[(Txt.charAt x (p : Int)).getD 0] : Array Nat).getD 0 0 = c
  have : Txt.charAt x (p : Int) = some c := by
    have e : seqIndex? (p : Int) x.length = some p := by
      have h1 : ¬ ((p : Int) < 0) := by omega
      have h2 : (p : Int) < (x.length : Int) := by simp only [Str.length]; omega
      have h3 : ((p : Int)).toNat = p := by omega
      simp only [seqIndex?, h1, if_false]
      simp [h1, h2]
    unfold Txt.charAt
    rw [e]
    exact h
  rw [this]
  rfl
end
section
open PySem PySem.W PyProof.Rows
local macro_rules | `(tactic| k_all) => `(tactic| exact ne_of_all (by assumption) (by omega))
local macro_rules | `(tactic| walk_at "subscriptTail") => `(tactic| (k_here; with_reducible refine here_of ?_))

inductive NumJ (x : Str) (L1 D : Addr) (oT : Obj) (news : Led) (m0 : Str → Option Value) (f : Nat) (m₁ : Str → Option Value) (nw : Led) : Prop
  | mk (p : Nat) (vs : List Value) (ns : List Int) (n : Nat) (oP : Obj) (tP : Tok) (sz : Option Value) (a1 : nw = (D, listOf vs.toArray n) :: (L1 + 1 + 1, oP) :: (L1 + 1, oT) :: news) (a2 : oP.data = .cell (some (.int (p : Int) tP))) (a3 : IntsAre vs ns)
    (a4 : ns ++ lexF f (x.cps.toList.drop p) = lexF (x.length + 1) x.cps.toList) (a5 : x.length + 1 ≤ f + p) (a6 : p ≤ x.length + 1) (a7 : vs.length ≤ p) (a8 : m₁ = fun y => if y = Str.ofString "sizes" then sz else m0 y) : NumJ x L1 D oT news m0 f m₁ nw
section
variable {w : World} {mean : ExcName → Option Value} {mg mb : Str → Option Value} {dp u : Nat} {gd : Option (List Code)} {cn : Str} {cs : Scope} {a : Addr} {ccd : Value} {cl : List (Str × Addr)} {outer : List Env} {A₀ : Around} {base h₀ : Heap} {L : Addr} {m : Str → Option Value} {news : Led} {s : Shared}
    {Q E : Value → Shared → Prop}
set_option maxRecDepth 100000 in
set_option maxHeartbeats 8000000 in
theorem c_numbers {x : Str} {t1 : Tok}
    (B : Below A₀ base outer h₀) (F : Fr h₀ L s.heap m) (X : (hd.heap_39 w.params).In h₀) (N : News h₀ L s.heap news) (T : Top hd.view_39 LS mean mg mb h₀) (hk : cs.kind = .function)
    (e1 : x.length ≤ 1000) (hdp : dp + 8 < recursionLimit) (hun : u + 60 < cLine)
    (hret : ∀ D vs n h' tk', Fr h₀ L h' m → News h₀ L h' ((D, listOf (List.toArray vs) n) :: news) → IntsAre vs (lexF (x.length + 1) x.cps.toList) → (∀ p ∈ news, p.1 < D) → Q (.ref D) { s with heap := h', toks := tk' }) :
    wpAny (model PySem.Challenge.rw_ti0051_01.row.prog w) (ktrTop dp u gd cn cs L a ccd cl outer) (call (.ref 223) [.str x t1]) Q E s := by
  have hfill9 : PySem.Challenge.rw_ti0051_01.foot = PySem.Challenge.rw_ti0051_01.foot ∧ hd.heap_39 = hd.heap_39 := by (k_fill; exact ⟨rfl, rfl⟩)
  clear hfill9
  w_top off
  refine wpAny_call ?_
  k_dflt (refine' code_defC ?k1 ?k2 ?k3 ?k4 ?k5 ?kA ?kF ?kK ?k6 ?k7 ?k8 ?k9 ?kB ?kD ?_ ?c2 ?c3 ?c4; (case kA => exact rfl); (case kF => exact rfl); (case kK => first | assumption | exact rfl); (case k1 => k_asm); (case k2 => k_asm); (case k3 => k_asm); (case k4 => k_asm); (case k5 => k_asm); (case k6 => k_is); (case k7 => k_is); (case k8 => ktr_room); (case k9 => first | exact BindsTo.of_eq rfl | exact binds_K (by k_in) rfl (by k_is) rfl rfl rfl | fail "k_enter: no rule for these arguments"); (case kB => exact rfl); (case kD => decide +kernel); (case c2 => exact rfl); (case c3 => exact rfl); (case c4 => exact rfl); k_whole; intro g1 L1 h1 tk1 cells1 FG1 F1 N1 Y1 B1 X1 T1 l1; (try k_lt l1); k_cells Y1; (try simp only [List.cons_append, List.nil_append] at N1); (try dsimp only); (try k_lift B1); (try k_fold))
  k_steps
  unfold Here
  rename_i oX oT dX dT D h2 l2 T3 h3 l3 h4 h5 h6 oP F6 N6 dP
  (try k_fold)
  have dT' : oT.data = .cell (some (.str x t1)) := dT
  have lD : @LT.lt Nat _ (L1 + 1 + 1) D := l2.1
  clear l3 l2 dX dT
  have N6' : News g1 L1 h6 ((D, listOf ([] : List Value).toArray 0) :: (L1 + 1 + 1, oP) :: (L1 + 1, oT) :: news) := cb_drop N6 (fun p hp => .tail _ hp)
  clear N6
  generalize hm0 : (fun y => if y = Str.ofString "numbers" then some (Value.ref D) else _) = m0 at F6
  refine While_inv (n₀ := x.length + 1) (NumJ x L1 D oT news m0) F6 N6' ?_ ?_
  · refine ⟨0, [], [], 0, oP, _, m0 (Str.ofString "sizes"), rfl, dP, .nil, rfl, by omega, by omega, by simp, ?_⟩
    funext y
    by_cases hy : y = Str.ofString "sizes"
    · rw [if_pos hy, hy]
    · rw [if_neg hy]
  · rintro f m₁ nw h7 tk7 F7 N7 hJ1
    (try k_fold)
    obtain ⟨p, vs, ns, n, oP', tP, sz, rfl, dP', hi, hlex, hf, hp, hvs, rfl⟩ := hJ1
    subst hm0
    k_steps
    · unfold Here
      rename_i hpx
      (try k_fold)
      refine Assign_ListComp_Tup F7 (by rfl) (by with_unfolding_all rfl) (by with_unfolding_all rfl) (by decide) (by rfl) (by decide) (by rfl) (by rfl) (by rfl) ?_ (by intro _; rfl)
      refine Tuple_ (spliced_more (wpAny_Constant_int (spliced_more (wpAny_Constant_int (spliced_none (kup_newTuple F7 N7 (fun T8 h8 F8 N8 l8 => ⟨_, _, _, _, rfl, rfl, F8, N8, .head _, Nat.le_of_ble_eq_true rfl, ?_⟩) (Nat.le_of_ble_eq_true rfl)))))))
      rintro _ ⟨h90, rfl⟩
      dsimp only
      refine restT_ind (Inv := fun i ys nw => nw = (T8, tupObj #[.int 2 tk, .int 1 (tk + 1)] 0) :: (D, listOf vs.toArray n) :: (L1 + 1 + 1, oP') :: (L1 + 1, oT) :: news ∧ IntsAre ys ((([2, 1] : List Int).take i).filter (fun k => (tokNum tokTab (Txt.slice x (some (p : Int)) (some ((p : Int) + k)))).isSome))) ?_ ?_ ?_
      · exact ⟨rfl, .nil⟩
      · rintro i ys nw v I oI C oC D2 m2 h tk9 E' hin ⟨rfl, hys⟩ hP hC hx FF NN off ne
        have hpn : p < x.length := by omega
        have hv : ∃ (k : Nat) (t : Tok), v = .int (k : Int) t ∧ (([2, 1] : List Int).take (i + 1)) = ([2, 1] : List Int).take i ++ [(k : Int)] := by
          match i, hin, hP with
          | 0, _, hP => exact ⟨2, _, (Option.some.inj hP).symm, rfl⟩
          | 1, _, hP => exact ⟨1, _, (Option.some.inj hP).symm, rfl⟩
          | i + 2, hin, _ => exact absurd hin (by simp)
        obtain ⟨k, t9, rfl, hk9⟩ := hv
        have hCm : (C, oC) ∈ (I, oI) :: (C, oC) :: (D2, LCg.lst ys) :: (T8, tupObj #[.int 2 tk, .int 1 (tk + 1)] 0) :: (D, listOf vs.toArray n) :: (L1 + 1 + 1, oP') :: (L1 + 1, oT) :: news := .tail _ (.head _)
        have mP : (L1 + 1 + 1, oP') ∈ (I, oI) :: (C, oC) :: (D2, LCg.lst ys) :: (T8, tupObj #[.int 2 tk, .int 1 (tk + 1)] 0) :: (D, listOf vs.toArray n) :: (L1 + 1 + 1, oP') :: (L1 + 1, oT) :: news := .tail _ (.tail _ (.tail _ (.tail _ (.tail _ (.head _)))))
        have mT : (L1 + 1, oT) ∈ (I, oI) :: (C, oC) :: (D2, LCg.lst ys) :: (T8, tupObj #[.int 2 tk, .int 1 (tk + 1)] 0) :: (D, listOf vs.toArray n) :: (L1 + 1 + 1, oP') :: (L1 + 1, oT) :: news := .tail _ (.tail _ (.tail _ (.tail _ (.tail _ (.tail _ (.head _))))))
        refine wpAny_isTrue_Compare1 (Subscript_ (kcf_cell NN rfl mT dT' (wpAny_Slice (evalPart_some_step (kcf_cell NN rfl mP dP' (evalPart_some_step (wpAny_BinOp (kcf_cell NN rfl mP dP' (LCgL.ld_own NN hCm hC hx (add_int (evalPart_none_step (slice_strN_ss (s := ⟨_, _, _, _, _⟩) FF NN (fun h9 t9 k9 F9 N9 => ?_) (hsz := by rw [sizeLine_eq]; omega)))))))))))))
        refine LCgL.ld_global F9 X1 T1 (by k_is) (ett_in F9 X1 (wpAny_truthy_bool ?_))
        have step : ∀ b, (tokNum tokTab (Txt.slice x (some (p : Int)) (some ((p : Int) + (k : Int))))).isSome = b → ((([2, 1] : List Int).take (i + 1)).filter (fun k => (tokNum tokTab (Txt.slice x (some (p : Int)) (some ((p : Int) + k)))).isSome)) = ((([2, 1] : List Int).take i).filter (fun k => (tokNum tokTab (Txt.slice x (some (p : Int)) (some ((p : Int) + k)))).isSome)) ++ (if b then [(k : Int)] else []) := by
          intro b e
          rw [hk9, List.filter_append, ← e]
          simp only [List.filter_cons, List.filter_nil]
        cases hb : (tokNum tokTab (Txt.slice x (some (p : Int)) (some ((p : Int) + (k : Int))))).isSome with
        | false =>
          have e9 := step false hb
          simp only [Bool.false_eq_true, if_false]
          refine compEnd0 F9 N9 off (.head _) ⟨rfl, ?_⟩
          rw [e9]
          simpa using hys
        | true =>
          have e9 := step true hb
          simp only [if_true]
          refine LCgL.ld_own N9 hCm hC hx ?_
          refine compEnd0 F9 N9 off (.head _) ⟨rfl, ?_⟩
          rw [e9]
          exact hys.append (.cons _ _ .nil)
      · rintro ys₁ nw ⟨rfl, hys₁⟩
        unfold LCg.FinA
        intro D₁ h5 tk5 F5 N5 off5
        have hys₂ : IntsAre ys₁ (([2, 1] : List Int).filter (fun k => (tokNum tokTab (Txt.slice x (some (p : Int)) (some ((p : Int) + k)))).isSome)) := hys₁
        clear hys₁
        have N5' : News g1 L1 h5 ((D, listOf vs.toArray n) :: (L1 + 1 + 1, oP') :: (L1 + 1, oT) :: (D₁, LCg.lst ys₁) :: news) := cb_drop N5 (fun p hp => by
          rcases List.mem_cons.mp hp with rfl | hp
          · exact .tail _ (.tail _ (.head _))
          rcases List.mem_cons.mp hp with rfl | hp
          · exact .tail _ (.tail _ (.tail _ (.head _)))
          rcases List.mem_cons.mp hp with rfl | hp
          · exact .tail _ (.tail _ (.tail _ (.tail _ (.head _))))
          rcases List.mem_cons.mp hp with rfl | hp
          · exact .head _
          · exact .tail _ (.tail _ (.tail _ (.tail _ (.tail _ hp)))))
        have o5 : ¬ @Eq Nat (L1 + 1 + 1) D₁ := fun e => by have := off1_mem off5 (L1 + 1 + 1, oP') (.tail _ (.tail _ (.head _))); exact this e
        have o6 : ¬ @Eq Nat D D₁ := fun e => by have := off1_mem off5 (D, listOf vs.toArray n) (.tail _ (.head _)); exact this e
        clear N5 off5 N8 l8
        have FX5 := F5
        have hpn : p < x.length := by omega
        rcases lex_turn hpn hys₂ with ⟨k, v, t9, r9, hk1, hk2, rfl, hr9, htk, hst⟩ | ⟨rfl, c9, hc9, hst⟩
        · k_steps
          refine wpAny_truthy_list (items := (Value.int (k : Int) t9 :: r9).toArray) ⟨_, (N5' _ (.tail _ (.tail _ (.tail _ (.head _))))).1, rfl, _, rfl⟩ (by simp only [List.size_toArray, List.length_cons]; omega) ?_
          show _
          rw [show (!(Value.int (k : Int) t9 :: r9).toArray.isEmpty) = true from by simp]
          k_steps
          unfold Here
          have mD : (D₁, LCg.lst (Value.int (k : Int) t9 :: r9)) ∈ (D, listOf vs.toArray n) :: (L1 + 1 + 1, oP') :: (L1 + 1, oT) :: (D₁, LCg.lst (Value.int (k : Int) t9 :: r9)) :: news := .tail _ (.tail _ (.tail _ (.head _)))
          refine PyProof.Rows.item_list (x := .int (k : Int) t9) ⟨_, (N5' _ mD).1, rfl, _, rfl⟩ (by decide) (by decide) rfl ?_
          refine add_int (evalPart_none_step ?_)
          refine slice_strN_ss (s := ⟨_, _, _, _, _⟩) FX5 N5' (fun h9 t91 k9 F9 N9 => ?_) (hsz := by rw [sizeLine_eq]; omega)
          refine ett_item F9 X1 htk (fun u9 => ?_)
          k_steps
          unfold Here
          rename_i h10 F10 N10
          (try k_fold)
          refine PyProof.Rows.item_list (x := .int (k : Int) t9) ⟨_, (N10 _ (.tail _ (.tail _ (.tail _ (.head _))))).1, rfl, _, rfl⟩ (by decide) (by decide) rfl ?_
          k_steps
          rename_i hz2 oz Fz Nz dz
          (try k_fold)
          cases f with
          | zero => omega
          | succ f =>
          rw [List.push_toArray] at Nz
          have Nz' : News g1 L1 hz2 ((D, listOf (vs ++ [Value.int v u9]).toArray (n + 1)) :: (L1 + 1 + 1, oz) :: (L1 + 1, oT) :: news) := cb_drop Nz (fun q hq => by
            rcases List.mem_cons.mp hq with rfl | hq
            · exact .head _
            rcases List.mem_cons.mp hq with rfl | hq
            · exact .tail _ (.head _)
            rcases List.mem_cons.mp hq with rfl | hq
            · exact .tail _ (.tail _ (.head _))
            · exact .tail _ (.tail _ (.tail _ (.tail _ hq))))
          exact WhileStep.intro Fz Nz' (Nat.lt_succ_self f) ⟨p + k, vs ++ [_], ns ++ [v], _, _, _, _, rfl, dz, hi.append (.cons _ _ .nil), by rw [← hlex, hst f, List.append_assoc]; rfl, by omega, by omega, by simp; omega, ite_twice⟩
        · k_steps
          refine wpAny_truthy_list (items := #[]) ⟨_, (N5' _ (.tail _ (.tail _ (.tail _ (.head _))))).1, rfl, _, rfl⟩ (by decide) ?_
          rw [show (!(#[] : Array Value).isEmpty) = false from rfl]
          k_steps
          rename_i hz1 Nz1 hz2 oz Fz Nz dz
          (try k_fold)
          cases f with
          | zero => omega
          | succ f =>
          rw [item_getD hc9, List.push_toArray] at Nz
          have Nz' : News g1 L1 hz2 ((D, listOf (vs ++ [Value.int (256 + (c9 : Int) - 97) _]).toArray (n + 1)) :: (L1 + 1 + 1, oz) :: (L1 + 1, oT) :: news) := cb_drop Nz (fun q hq => by
            rcases List.mem_cons.mp hq with rfl | hq
            · exact .head _
            rcases List.mem_cons.mp hq with rfl | hq
            · exact .tail _ (.head _)
            rcases List.mem_cons.mp hq with rfl | hq
            · exact .tail _ (.tail _ (.head _))
            · exact .tail _ (.tail _ (.tail _ (.tail _ hq))))
          exact WhileStep.intro Fz Nz' (Nat.lt_succ_self f) ⟨p + 1, vs ++ [_], ns ++ [256 + (c9 : Int) - 97], _, _, _, _, rfl, dz, hi.append (.cons _ _ .nil), by rw [← hlex, hst f, List.append_assoc]; rfl, by omega, by omega, by simp; omega, ite_twice⟩
    · rename_i hnx kF kN Tc kX
      (try k_fold)
      have e9 : lexF f (x.cps.toList.drop p) = [] := by
        have : x.cps.toList.drop p = [] := List.drop_eq_nil_of_le (by simp only [Str.length] at hnx; simp; omega)
        rw [this]
        cases f <;> rfl
      rw [e9, List.append_nil] at hlex
      refine hret D vs n _ _ kF (cb_drop kN (fun q hq => ?_)) (hlex ▸ hi) (fun q hq => ?_)
      · rcases List.mem_cons.mp hq with rfl | hq
        · exact .head _
        · exact .tail _ (.tail _ (.tail _ hq))
      · have a1 := l1 q hq
        have a2 : @LT.lt Nat _ q.1 L1 := a1
        have : @LT.lt Nat _ q.1 D := by omega
        exact this
end
end
end
end
end
section
open PySem PySem.W PyProof.Rows
local macro_rules | `(tactic| omega) => `(tactic| lia)
section
open PySem PySem.W PySem.Calls PyProof.Rows
set_option maxRecDepth 100000
noncomputable abbrev accObj (dx : Addr) (its : Array Value) (n : Nat) : Obj := { cls := .ref 166, dict := some dx, data := .seq its n }

section
variable {prog : Program} {w : World} {A : Around} {E : Value → Shared → Prop} {s : Shared} {x C : Addr} {ox : Obj} {od : Option Obj} {K : Frag} {name : Str} {pl : Sem Bool} {h₀ : Heap} {L : Addr} {m : Str → Option Value} {news news' : Led}

theorem method_desc {id : String} {Q : Value × List Value → Shared → Prop} (X : K.In s.heap) (I : InstAt s.heap x ox C od) (hga : findIn K (.ref C) "__getattribute__" = some (some (.builtin "list.__getattribute__"))) (hk : findIn K (.ref C) "__getattr__" = some none)
    (hf : findIn K (.ref C) name = some (some (.builtin id))) (ht : typeOf (.builtin id) = pure (.type "method_descriptor")) (hs : shadowIn od name = some false) (h : Q (.builtin id, [.ref x]) s) :
    wpAny (model prog w) A (getMethod (.ref x) name pl) Q E s := by
  have hcan : (Manifest.canonical "list.__getattribute__" != "object.__getattribute__") = false := by decide +kernel
  unfold getMethod specialOf
  refine wpAny_bind (wpAny_bind (I.type.here ((looks_findIn X hga).here ?_)))
  dsimp only
  rw [hcan, if_neg (by decide)]
  refine wpAny_bind (wpAny_bind (I.type.here ((looks_findIn X hk).here ?_)))
  refine wpAny_bind (wpAny_bind (I.type.here ((looks_findIn X hf).here (wpAny_bind ((Looks.of_pure ht).here ?_)))))
  rw [if_neg (by decide +kernel)]
  refine wpAny_bind (wpAny_loadPart I.at_ ?_)
  have hd := I.dict
  cases e : ox.dict with
  | none => exact wpAny_bind (wpAny_rule (wpAny_pure h))
  | some dx =>
    cases od with
    | none => rw [e] at hd; exact hd.elim
    | some o =>
      rw [e] at hd
      obtain ⟨r, a, b⟩ := Option.map_eq_some_iff.mp hs
      refine wpAny_bind (wpAny_bind (wpAny_loadPart hd ?_))
      rw [nsLook_of a]
      refine wpAny_pure ?_
      rw [b]
      exact wpAny_bind (wpAny_rule (wpAny_pure h))

theorem check_method {M : Model} {i owner n : String} {self : Value} {rest : List Value} {kw : List (Str × Value)} {Q : Unit → Shared → Prop}
    (hk : builtinKind i = some .method) (hs : splitId i = some (owner, n)) (hi : Looks M s.heap (isInstance self (.type owner)) true) (ha : argsOk i ⟨self :: rest, kw⟩) (q : Q () s) :
    wpAny M A (checkBuiltinCall i ⟨self :: rest, kw⟩) Q E s := by
  simp only [checkBuiltinCall, hk, hs]
  refine wpAny_bind (hi.here ?_)
  simp only [Bool.not_true, Bool.false_eq_true, if_false]
  cases hsig : Manifest.signature? i with
  | none => exact wpAny_pure q
  | some sig =>
    simp only [argsOk, hsig] at ha
    have h2 : Bind.checkArgs i sig ⟨self :: rest, kw⟩ = pure () := ha
    show wpAny M A (Bind.checkArgs i sig ⟨self :: rest, kw⟩) Q E s
    rw [h2]; exact wpAny_pure q

theorem inst_of {M : Model} (X : K.In s.heap) (I : InstAt s.heap x ox C od) {T : String} (hm : mroIn K C (.type T) = some true) : Looks M s.heap (isInstance (.ref x) (.type T)) true := by
  unfold isInstance
  exact I.type.andThen (looks_mroIn X hm)

theorem call_method {id owner n : String} {b : Builtin} {rest : List Value} {Q : Value → Shared → Prop} (X : K.In s.heap) (I : InstAt s.heap x ox C od) (hm : mroIn K C (.type owner) = some true)
    (hp : plainId id = true) (he : entryFor table id = some b) (hk : builtinKind id = some .method) (hs : splitId id = some (owner, n)) (ha : argsOk id ⟨.ref x :: rest, []⟩)
    (hc : wpAny (model prog w) A.in1 (b ⟨.ref x :: rest, []⟩) (fun fin s' => ∃ v, fin = .done (.ret v) ∧ Q v s') E s) : wpAny (model prog w) A (call (.builtin id) (.ref x :: rest)) Q E s :=
  wpAny_call (codeAny_call_builtin hp he (check_method hk hs (inst_of X I hm) ha (wpAny_mono hc (fun fin s' h' => by obtain ⟨v, rfl, hv⟩ := h'; exact hv) fun _ _ h' => h')))
theorem call_slot {id owner n : String} {b : Builtin} {rest : List Value} {Q : Value → Shared → Prop} (X : K.In s.heap) (I : InstAt s.heap x ox C od) (hm : mroIn K C (.type owner) = some true)
    (hp : plainId id = true) (he : entryFor table id = some b) (hk : builtinKind id = some .slot) (hs : splitId id = some (owner, n)) (ha : argsOk id ⟨.ref x :: rest, []⟩)
    (hc : wpAny (model prog w) A.in1 (b ⟨.ref x :: rest, []⟩) (fun fin s' => ∃ v, fin = .done (.ret v) ∧ Q v s') E s) : wpAny (model prog w) A (call (.builtin id) (.ref x :: rest)) Q E s :=
  wpAny_call (codeAny_call_builtin hp he (check_slot hk hs (inst_of X I hm) ha (wpAny_mono hc (fun fin s' h' => by obtain ⟨v, rfl, hv⟩ := h'; exact hv) fun _ _ h' => h')))

theorem la_plain : plainId "list.append" = true := by decide +kernel
theorem la_kind : builtinKind "list.append" = some .method := by decide +kernel
theorem la_split : splitId "list.append" = some ("list", "append") := by decide +kernel

theorem acc_inst (N : News h₀ L s.heap news) {dx : Addr} {its : Array Value} {n : Nat} {od : Obj} (h1 : (x, accObj dx its n) ∈ news) (h2 : (dx, od) ∈ news) : InstAt s.heap x (accObj dx its n) 166 (some od) := ⟨(N _ h1).1, rfl, rfl, (N _ h2).1⟩

theorem update_acc {dx : Addr} {its : Array Value} {n : Nat} {f : Array Value → Array Value} {Q : Unit → Shared → Prop} (F : Fr h₀ L s.heap m) (N : News h₀ L s.heap ((x, accObj dx its n) :: news)) (hx : ∀ p ∈ news, p.1 ≠ x)
    (hz : its.size ≤ sizeLine) (hz' : (f its).size ≤ sizeLine + 1) (h : ∀ h' n', Fr h₀ L h' m → News h₀ L h' ((x, accObj dx (f its) n') :: news) → Q () { s with heap := h' }) : wpAny (model prog w) A (updateSeq x f) Q E s := by
  have z := N (x, accObj dx its n) (.head _)
  obtain ⟨n', e⟩ : ∃ n', Obj.mapSeq f (accObj dx its n) = accObj dx (f its) n' := ⟨_, rfl⟩
  refine wpAny_updateSeq z.1 rfl (h _ n' (F.change (Heap.SameBut.update ..) z.2.1 z.2.2) (news_set (pre := []) N (fun _ hp => nomatch hp) hx (Heap.SameBut.update ..) ?_)) hz hz'
  rw [Heap.get?_update_self _ z.1 (by rw [e]; rfl), e]

theorem acc_append {dx : Addr} {its : Array Value} {n : Nat} {v : Value} {od : Obj} {Q : Value → Shared → Prop} (F : Fr h₀ L s.heap m) (X : K.In s.heap) (hm : mroIn K 166 (.type "list") = some true) (N : News h₀ L s.heap ((x, accObj dx its n) :: news)) (hx : ∀ p ∈ news, p.1 ≠ x) (hd : (dx, od) ∈ news)
    (hz : its.size ≤ 10000) (h : ∀ h' n', Fr h₀ L h' m → News h₀ L h' ((x, accObj dx (its.push v) n') :: news) → Q .none { s with heap := h' }) : wpAny (model prog w) A (call (.builtin "list.append") [.ref x, v]) Q E s := by
  refine call_method X (acc_inst N (.head _) (.tail _ hd)) hm la_plain entry_list_append la_kind la_split (args_list_append _ _) ?_
  show wpAny _ _ (updateSeq x (·.push v) >>= fun _ => ret .none) _ _ s
  refine wpAny_bind (update_acc F N hx (by rw [sizeLine_eq]; omega) (by rw [sizeLine_eq, Array.size_push]; omega) fun h' n' F' N' => wpAny_pure ⟨.none, rfl, h h' n' F' N'⟩)
end
noncomputable abbrev accDict (P : Params) (k1 t1 : Tok) : Obj := dictOf [⟨PyData.keyHash P (Str.ofString "_initial_size"), .str (Str.ofString "_initial_size") k1, .int 0 t1⟩] 1
theorem allLt_mem {d : Addr} : ∀ (l : Led), AllLt d l → ∀ p : Addr × Obj, p ∈ l → p.1 < d := by
  intro l
  induction l with
  | nil => intro _ p hp; cases hp
  | cons q l ih =>
    intro h p hp
    have h' : @LT.lt Nat _ q.1 d ∧ AllLt d l := h
    cases hp with
    | head => exact h'.1
    | tail _ e => exact ih h'.2 p e
end
section
open PySem PySem.W PySem.Calls PyProof.Rows
set_option maxRecDepth 100000
section
variable {prog : Program} {w : World} {A : Around} {E : Value → Shared → Prop} {s : Shared} {x C : Addr} {ox : Obj} {od : Option Obj} {K : Frag} {name : Str} {pl : Sem Bool} {h₀ : Heap} {L : Addr} {m : Str → Option Value} {news news' : Led}
theorem special_bi {id : String} {args : List Value} {Q : Option Value → Shared → Prop} (X : K.In s.heap) (I : InstAt s.heap x ox C od) (hs : findIn K (.ref C) name = some (some (.builtin id))) (hb : bindSpecial (.builtin id) (.ref x) = pure (.builtin id, [.ref x]))
    (h : wpAny (model prog w) A (call (.builtin id) (.ref x :: args)) (fun v => Q (some v)) E s) : wpAny (model prog w) A (callSpecial? (.ref x) name args) Q E s :=
  wpAny_bind (wpAny_bind (I.type.here ((looks_findIn X hs).here (wpAny_holding (wpAny_bind ((Looks.of_pure hb).here (wpAny_bind (wpAny_mono h (fun _ _ z => wpAny_pure z) fun _ _ z => z))))))))

theorem gi_plain : plainId "list.__getitem__" = true := by decide +kernel
theorem gi_kind : builtinKind "list.__getitem__" = some .method := by decide +kernel
theorem gi_split : splitId "list.__getitem__" = some ("list", "__getitem__") := by decide +kernel
theorem si_plain : plainId "list.__setitem__" = true := by decide +kernel
theorem si_kind : builtinKind "list.__setitem__" = some .slot := by decide +kernel
theorem si_split : splitId "list.__setitem__" = some ("list", "__setitem__") := by decide +kernel

theorem subscript_raw {sl : Addr} {vl vu vs : Value} {Q : Option Int → Shared → Prop} (hs : s.heap.IsSliceOf sl vl vu vs) (h : Q none s) : wpAny (model prog w) A (Builtin.List.listSubscript? (.ref sl)) Q E s := by
  obtain ⟨os, hos, hcs, hds⟩ := id hs
  have hTs : s.TypeIs (.ref sl) "slice" := ⟨os, hos, hcs⟩
  unfold Builtin.List.listSubscript?
  refine wpAny_bind (wpAny_specialOf hTs slice_no_index ?_)
  simp only [Option.isNone_none, if_true]
  exact wpAny_pure h

theorem acc_getSlice {sl dx : Addr} {its : Array Value} {n : Nat} {vl vu : Value} {lo hi : Option Int} {Q : Value → Shared → Prop} (X : K.In s.heap) (I : InstAt s.heap x (accObj dx its n) 166 od) (hq : noSeq K 166 = true)
    (hg : findIn K (.ref 166) "__getitem__" = some (some (.builtin "list.__getitem__"))) (hm : mroIn K 166 (.type "list") = some true) (hs : s.heap.IsSliceOf sl vl vu .none) (pl : IsPart vl lo) (pu : IsPart vu hi) (hsz : its.size ≤ sizeLine)
    (h : Q (.ref s.heap.objs.size) { s with heap := s.heap.push { cls := .type "list", data := .seq (slicePick its lo hi none) } }) : wpAny (model prog w) A (getItem (.ref x) (.ref sl)) Q E s := by
  obtain ⟨os, hos, hcs, hds⟩ := id hs
  have hTs : s.TypeIs (.ref sl) "slice" := ⟨os, hos, hcs⟩
  unfold getItem sequenceKey
  refine wpAny_holding (wpAny_bind (wpAny_bind (I.type.here ?_)))
  refine wpAny_bind ((anyM_none X hq).here ?_)
  rw [if_pos (show (!false) = true from rfl)]
  refine wpAny_pure (wpAny_bind (special_bi X I hg (slot_list_getitem.bind _) (call_method X I hm gi_plain entry_list_getitem gi_kind gi_split (args_list_getitem _ _) ?_)))
  show wpAny _ _ (Builtin.List.listSubscript? (.ref sl) >>= _) _ _ s
  refine wpAny_bind (subscript_raw hs ?_)
  show wpAny _ _ (typeOf (.ref sl) >>= _) _ _ s
  refine wpAny_bind (wpAny_typeOf hTs ?_)
  rw [if_neg (by decide)]
  rw [listSliceParts_eq]
  refine wpAny_bind (wpAny_bind (wpAny_field hos hds (x := .none) rfl (wpAny_bind (wpAny_listPart .none ?_))))
  rw [if_neg (by decide)]
  refine wpAny_bind (wpAny_field hos hds (x := vl) rfl (wpAny_bind (wpAny_listPart pl ?_)))
  refine wpAny_bind (wpAny_field hos hds (x := vu) rfl (wpAny_bind (wpAny_listPart pu (wpAny_pure ?_))))
  refine wpAny_bind (m := Builtin.List.listItems (.ref x)) ?_
  unfold Builtin.List.listItems
  refine wpAny_bind (wpAny_seqItems I.at_ rfl (wpAny_pure ?_))
  refine wpAny_bind (wpAny_of_eq (sliceIndices_raw lo hi none its.size (by simp)) ?_)
  exact wpAny_bind (wpAny_newObj_type (wpAny_pure ⟨_, rfl, wpAny_pure h⟩) (Nat.le_trans (slicePick_size_le its lo hi none) hsz))

theorem list_exact {M : Model} {D : Addr} {zs : Array Value} {nz : Nat} {Q : Array Value → Shared → Prop} (hD : s.heap.get? D = some (listOf zs nz)) (h : Q zs s) (msg : String) : wpAny M A (Builtin.List.listAllItems (.ref D) msg) Q E s := by
  unfold Builtin.List.listAllItems
  refine wpAny_bind (wpAny_typeOf ⟨_, hD, rfl⟩ ?_)
  rw [if_pos (by decide)]
  unfold Builtin.List.listItems
  exact wpAny_bind (wpAny_seqItems hD rfl (wpAny_pure h))

theorem acc_setSlice {sl dx D : Addr} {its : Array Value} {n nz i : Nat} {ti : Tok} {vl : Value} {od : Obj} {Q : Unit → Shared → Prop} (F : Fr h₀ L s.heap m) (N : News h₀ L s.heap ((x, accObj dx its n) :: news)) (hx : ∀ p ∈ news, p.1 ≠ x) (hd : (dx, od) ∈ news)
    (X : K.In s.heap) (hq : noSeq K 166 = true) (hg : findIn K (.ref 166) "__setitem__" = some (some (.builtin "list.__setitem__"))) (hm : mroIn K 166 (.type "list") = some true) (hs : s.heap.IsSliceOf sl vl .none .none) (hvl : vl = .int (i : Int) ti)
    (hD : s.heap.get? D = some (listOf #[] nz)) (hDx : D ≠ x) (hsz : its.size ≤ 10000) (hi : i ≤ its.size)
    (h : ∀ h' n', Fr h₀ L h' m → News h₀ L h' ((x, accObj dx (its.extract 0 i) n') :: news) → Q () { s with heap := h' }) : wpAny (model prog w) A (setItem (.ref x) (.ref sl) (.ref D)) Q E s := by
  have I : InstAt s.heap x (accObj dx its n) 166 (some od) := acc_inst N (.head _) (.tail _ hd)
  obtain ⟨os, hos, hcs, hds⟩ := id hs
  have hTs : s.TypeIs (.ref sl) "slice" := ⟨os, hos, hcs⟩
  unfold setItem sequenceKey
  refine wpAny_holding (wpAny_bind (wpAny_bind (I.type.here ?_)))
  refine wpAny_bind ((anyM_none X hq).here ?_)
  rw [if_pos (show (!false) = true from rfl)]
  refine wpAny_pure (wpAny_bind (special_bi X I hg (slot_list_setitem.bind _) (call_slot X I hm si_plain entry_list_setitem si_kind si_split (args_list_setitem _ _ _) ?_)))
  unfold Builtin.«list.__setitem__»
  refine wpAny_bind (m := Builtin.List.listBlankSlotArgs "__setitem__" 2 _) (wpAny_pure ?_)
  dsimp only
  refine wpAny_bind (subscript_raw hs ?_)
  dsimp only
  refine wpAny_bind (wpAny_typeOf hTs ?_)
  rw [if_neg (by decide)]
  rw [listSliceParts_eq]
  refine wpAny_bind (wpAny_bind (wpAny_field hos hds (x := .none) rfl (wpAny_bind (wpAny_listPart .none ?_))))
  rw [if_neg (by decide)]
  refine wpAny_bind (wpAny_field hos hds (x := vl) rfl (wpAny_bind (wpAny_listPart (hvl ▸ .int _ _ : IsPart vl (some (i : Int))) ?_)))
  refine wpAny_bind (wpAny_field hos hds (x := .none) rfl (wpAny_bind (wpAny_listPart .none (wpAny_pure ?_))))
  dsimp only
  have e : sliceBounds (some (i : Int)) none none its.size = ((i : Int), ((its.size : Nat) : Int), 1) := by
    simp only [sliceBounds, Option.getD_none, show (1 : Int) > 0 by decide, if_true, if_neg (show ¬ ((i : Int) < 0) by omega)]
    congr 1
    omega
  have e2 : (max (i : Int) (its.size : Int)).toNat = its.size := by omega
  have e3 : its.extract its.size its.size = #[] := by simp
  rw [if_neg (by unfold Builtin.List.listSameRef; simp only [beq_iff_eq]; exact fun q => hDx q.symm)]
  refine wpAny_bind (list_exact hD ?_ _)
  refine wpAny_bind (m := Builtin.List.listItems (.ref x)) ?_
  unfold Builtin.List.listItems
  refine wpAny_bind (wpAny_seqItems I.at_ rfl (wpAny_pure ?_))
  refine wpAny_bind (wpAny_of_eq (sliceIndices_raw (some (i : Int)) none none its.size (by simp)) ?_)
  rw [e]
  dsimp only
  rw [if_pos (by decide)]
  refine wpAny_bind (wpAny_rule ?_)
  rw [if_neg (by unfold Builtin.List.listTooLong; rw [sizeLine_eq]; simp; omega)]
  unfold Builtin.List.listUpdate
  have e4 : (its.extract 0 (i : Int).toNat ++ #[] ++ its.extract (max (i : Int) (its.size : Int)).toNat) = its.extract 0 i := by
    rw [e2, e3, Int.toNat_natCast, Array.append_empty, Array.append_empty]
  refine wpAny_bind (update_acc F N hx (by rw [sizeLine_eq]; omega) ?_ fun h' n' F' N' => wpAny_bind (wpAny_letGo (wpAny_pure ⟨_, rfl, wpAny_pure (h h' n' F' ?_)⟩)))
  · rw [e4, sizeLine_eq]; simp; omega
  · rw [e4] at N'; exact N'

theorem acc_tail {value slice : Expr} {i : Value} {ops : List Value} {Q : Value → Shared → Prop} (X : K.In s.heap) (I : InstAt s.heap x ox C od) {id : String} (hg : findIn K (.ref C) "__getitem__" = some (some (.builtin id)))
    (h : wpAny (model prog w) A (getItem (.ref x) i) Q E s) (hs : subscripted slice false (.ref x) i = operate ops (getItem (.ref x) i)) (ht : ∀ r, letTemporaryGo value (.ref x) r = pure ()) :
    wpAny (model prog w) A (subscriptTail value slice (.ref x) i) Q E s := by
  unfold subscriptTail
  refine wpAny_bind ?_
  rw [getitemInPython_of_ne (by simp)]
  unfold specialOf
  refine wpAny_bind (wpAny_bind (I.type.here ((looks_findIn X hg).here ?_)))
  have fin : wpAny (model prog w) A (subscripted slice false (.ref x) i) (fun r s₃ => wpAny (model prog w) A (letTemporaryGo value (.ref x) r >>= fun _ => pure r) Q E s₃) E s := by
    rw [hs]
    exact wpAny_operating (wpAny_mono h (fun r s₃ h₃ => wpAny_bind (wpAny_of_eq (ht r) (wpAny_pure h₃))) fun _ _ x => x)
  first
    | exact wpAny_pure (wpAny_bind fin)
    | exact wpAny_bind (wpAny_pure (wpAny_bind fin))
    | exact wpAny_bind fin

theorem acc_slice {value slice : Expr} {dx : Addr} {its : Array Value} {n : Nat} {vl vu : Value} {lo hi : Option Int} {od : Obj} {Q : Value → Shared → Prop} (F : Fr h₀ L s.heap m) (N : News h₀ L s.heap news) (hI : InstAt s.heap x (accObj dx its n) 166 (some od)) (hd : s.heap.get? dx = some od) (X : K.In s.heap)
    (hq : noSeq K 166 = true) (hg : findIn K (.ref 166) "__getitem__" = some (some (.builtin "list.__getitem__"))) (hm : mroIn K 166 (.type "list") = some true) (pl : IsPart vl lo) (pu : IsPart vu hi) (hsz : its.size ≤ sizeLine)
    (h : ∀ D h', Fr h₀ L h' m → News h₀ L h' ((D, listOf (slicePick its lo hi none) 0) :: news) → (∀ p ∈ news, p.1 < D) → Q (.ref D) { s with heap := h' })
    (hs : subscripted slice false (.ref x) (.ref s.heap.objs.size) = operate [.ref s.heap.objs.size, .ref x] (getItem (.ref x) (.ref s.heap.objs.size))) (ht : ∀ r, letTemporaryGo value (.ref x) r = pure ()) :
    wpAny (model prog w) A (subscriptTail value slice (.ref x) (.ref s.heap.objs.size)) Q E { s with heap := s.heap.push { cls := .type "slice", data := .fields #[vl, vu, .none] } } := by
  have k : ∀ b o, s.heap.get? b = some o → (s.heap.push { cls := .type "slice", data := .fields #[vl, vu, .none] }).get? b = some o := fun _ _ e => Heap.get?_push_of_some _ e
  have I : InstAt (s.heap.push { cls := .type "slice", data := .fields #[vl, vu, .none] }) x (accObj dx its n) 166 (some od) := ⟨k _ _ hI.at_, rfl, rfl, k _ _ hd⟩
  refine acc_tail (s := { s with heap := s.heap.push { cls := .type "slice", data := .fields #[vl, vu, .none] } }) (X.keeps k) I hg
    (acc_getSlice (X.keeps k) I hq hg hm (Heap.IsSliceOf.new ..) pl pu hsz ?_) hs ht
  have N1 := News.push (F.push { cls := .type "slice", data := .fields #[vl, vu, .none] }) (N.grown fun _ _ e => Heap.get?_push_of_some _ e) { cls := .type "list", data := .seq (slicePick its lo hi none) }
  rw [Heap.size_push] at N1
  show Q (.ref (s.heap.push _).objs.size) _
  rw [Heap.size_push]
  exact h _ _ ((F.push _).push _) N1 fun p hp => Nat.lt_succ_of_lt (Heap.lt_size (N p hp).1)

theorem acc_setSlice' {sl dx D : Addr} {its : Array Value} {n nz i : Nat} {ti : Tok} {od : Obj} {Q : Unit → Shared → Prop} (F : Fr h₀ L s.heap m) (N : News h₀ L s.heap ((x, accObj dx its n) :: news)) (hx : ∀ p ∈ news, p.1 ≠ x) (hd : (dx, od) ∈ news)
    (X : K.In s.heap) (hq : noSeq K 166 = true) (hg : findIn K (.ref 166) "__setitem__" = some (some (.builtin "list.__setitem__"))) (hm : mroIn K 166 (.type "list") = some true) (hD : (D, listOf #[] nz) ∈ news) (hsz : its.size ≤ 10000) (hi : i ≤ its.size) (hsl : sl = s.heap.objs.size)
    (h : ∀ h' n', Fr h₀ L h' m → News h₀ L h' ((x, accObj dx (its.extract 0 i) n') :: news) → Q () { s with heap := h' }) :
    wpAny (model prog w) A (setItem (.ref x) (.ref sl) (.ref D)) Q E { s with heap := s.heap.push { cls := .type "slice", data := .fields #[.int (i : Int) ti, .none, .none] } } := by
  subst hsl
  have k : ∀ b o, s.heap.get? b = some o → (s.heap.push { cls := .type "slice", data := .fields #[.int (i : Int) ti, .none, .none] }).get? b = some o := fun _ _ e => Heap.get?_push_of_some _ e
  exact acc_setSlice (vl := .int (i : Int) ti) (ti := ti) (nz := nz) (s := { s with heap := s.heap.push { cls := .type "slice", data := .fields #[.int (i : Int) ti, .none, .none] } }) (F.push _) (N.grown k) hx hd (X.keeps k) hq hg hm (Heap.IsSliceOf.new ..) rfl (k _ _ (N _ (.tail _ hD)).1) (hx _ hD) hsz hi h

theorem pick_tail {its : Array Value} {i : Nat} (hi : i ≤ its.size) : slicePick its (some (i : Int)) none none = its.extract i its.size := by
  have e : sliceBounds (some (i : Int)) none none its.size = (((i : Nat) : Int), ((its.size : Nat) : Int), 1) := by
    simp only [sliceBounds, Option.getD_none, show (1 : Int) > 0 by decide, if_true, if_neg (show ¬ ((i : Int) < 0) by omega)]
    congr 1
    omega
  rw [kmk_pick_nat _ e]
  apply Array.ext'
  rw [Array.toList_extract, List.toList_toArray]
end
end
section
open PySem PySem.W PySem.Calls PyProof.Rows
set_option maxRecDepth 100000
theorem slot_wd_get : Slot "wrapper_descriptor" "__get__" "wrapper_descriptor.__get__" := .of (owner := "wrapper_descriptor") (n := "__get__") (by rw [typeLookup_type, builtinLookup_eq_fast]; kernel_rfl) (by decide +kernel) (by decide +kernel) (by decide +kernel)
  (by first | exact .inl (by decide +kernel) | exact .inr (by decide +kernel)) (by rw [isSubtype_type]; kernel_rfl)
theorem entry_wd_get : entryFor table "wrapper_descriptor.__get__" = some Builtin.«wrapper_descriptor.__get__» := entryFor_of_tree (by kernel_rfl)
theorem args_wd_get (a b c : Value) : argsOk "wrapper_descriptor.__get__" ⟨[a, b, c], []⟩ := by unfold argsOk; kernel_rfl
theorem type_list_len : typeOf (.builtin "list.__len__") = pure (.type "wrapper_descriptor") := by show builtinType _ = _; rw [builtinType_eq_fast]; kernel_rfl
theorem type_list_init : typeOf (.builtin "list.__init__") = pure (.type "wrapper_descriptor") := by show builtinType _ = _; rw [builtinType_eq_fast]; kernel_rfl
section
variable {prog : Program} {w : World} {M : Model} {A : Around} {E : Value → Shared → Prop} {s : Shared} {x C : Addr} {ox : Obj} {od : Option Obj} {K : Frag} {name : Str} {h₀ : Heap} {L : Addr} {m : Str → Option Value} {news : Led}
theorem wd_len {Q : Fin → Shared → Prop} (hi : Looks M s.heap (isInstance (.ref x) (.type "list")) true)
    (h : Q (.done (.ret (.ref s.heap.objs.size))) { s with heap := s.heap.push { cls := .type "method-wrapper", data := .fields #[.builtin "list.__len__", .ref x] } }) :
    wpAny M A (Builtin.«wrapper_descriptor.__get__» ⟨[.builtin "list.__len__", .ref x, .ref C], []⟩) Q E s := by
  unfold Builtin.«wrapper_descriptor.__get__»
  refine wpAny_bind (wpAny_of_eq (by kernel_rfl : _ = pure (Value.builtin "list.__len__", some (Value.ref x), some (Value.ref C))) ?_)
  show wpAny _ _ (_ >>= fun _ => newFields "method-wrapper" [.builtin "list.__len__", .ref x] >>= fun v => ret v) _ _ _
  refine wpAny_bind ?_
  show wpAny _ _ (_ >>= fun _ => _) _ _ _
  refine wpAny_bind (wpAny_of_eq (by kernel_rfl : _ = pure (Str.ofString "__len__", Value.type "list")) ?_)
  dsimp only
  refine wpAny_bind (hi.here ?_)
  rw [if_neg (by decide)]
  refine wpAny_pure ?_
  unfold newFields
  exact wpAny_bind (wpAny_newObj_type (wpAny_pure h))
theorem wd_init {Q : Fin → Shared → Prop} (hi : Looks M s.heap (isInstance (.ref x) (.type "list")) true)
    (h : Q (.done (.ret (.ref s.heap.objs.size))) { s with heap := s.heap.push { cls := .type "method-wrapper", data := .fields #[.builtin "list.__init__", .ref x] } }) :
    wpAny M A (Builtin.«wrapper_descriptor.__get__» ⟨[.builtin "list.__init__", .ref x, .ref C], []⟩) Q E s := by
  unfold Builtin.«wrapper_descriptor.__get__»
  refine wpAny_bind (wpAny_of_eq (by kernel_rfl : _ = pure (Value.builtin "list.__init__", some (Value.ref x), some (Value.ref C))) ?_)
  show wpAny _ _ (_ >>= fun _ => newFields "method-wrapper" [.builtin "list.__init__", .ref x] >>= fun v => ret v) _ _ _
  refine wpAny_bind ?_
  show wpAny _ _ (_ >>= fun _ => _) _ _ _
  refine wpAny_bind (wpAny_of_eq (by kernel_rfl : _ = pure (Str.ofString "__init__", Value.type "list")) ?_)
  dsimp only
  refine wpAny_bind (hi.here ?_)
  rw [if_neg (by decide)]
  refine wpAny_pure ?_
  unfold newFields
  exact wpAny_bind (wpAny_newObj_type (wpAny_pure h))
theorem super_ga_len {so D : Addr} {l₀ l : List Value} {tk : Tok} {Q : Fin → Shared → Prop}
    (hso : s.heap.get? so = some (ks_superObj D x C)) (hno : Looks (model prog w) s.heap (opaqueClassAbove (.ref C)) none)
    (hC : Looks (model prog w) s.heap (mroOf (.ref C)) l₀) (hl : (l₀.dropWhile (· != .ref D)).drop 1 = l) (X : K.In s.heap)
    (hf : alongIn K "__len__" l = some (some (.builtin "list.__len__"))) (hi : Looks (model prog w) s.heap (isInstance (.ref x) (.type "list")) true) (hxC : x ≠ C)
    (hq : Q (.done (.ret (.ref s.heap.objs.size))) { s with heap := s.heap.push { cls := .type "method-wrapper", data := .fields #[.builtin "list.__len__", .ref x] } }) :
    wpAny (model prog w) A (Builtin.«super.__getattribute__» ⟨[.ref so, .str "__len__" tk], []⟩) Q E s := by
  obtain ⟨h, g, d, t, os⟩ := s
  have hlk := slot_wd_get.lookup
  have hne : (Value.ref x == Value.ref C) = false := by simp [hxC]
  have hn : ((Str.ofString "__len__") == ("__class__" : Str)) = false := by decide
  have hdt : (ks_superObj D x C).data = .fields #[.ref D, .ref x, .ref C] := rfl
  have f0 : (#[.ref D, .ref x, .ref C] : Array Value)[0]? = some (.ref D) := rfl
  have f1 : (#[.ref D, .ref x, .ref C] : Array Value)[1]? = some (.ref x) := rfl
  have f2 : (#[.ref D, .ref x, .ref C] : Array Value)[2]? = some (.ref C) := rfl
  have hbt : ∀ s' : Shared, s'.TypeIs (.builtin "list.__len__") "wrapper_descriptor" := fun _ => type_list_len
  unfold Builtin.«super.__getattribute__»
  repeat (first
    | (with_reducible refine wpAny_field hso hdt f0 ?_) | (with_reducible refine wpAny_field hso hdt f1 ?_) | (with_reducible refine wpAny_field hso hdt f2 ?_)
    | (with_reducible refine ks_wpAny_notOpaque hno ?_)
    | (with_reducible refine Looks.at hC ?_; rw [hl])
    | (refine ks_forIn_along X (fun _ _ => rfl) rfl ?_ hf)
    | (with_reducible refine wpAny_typeOf (hbt _) ?_)
    | (with_reducible refine wpAny_call_entry slot_wd_get (hbt _) entry_wd_get ?_ (args_wd_get _ _ _))
    | (with_reducible refine wd_len hi ?_)
    | (with_reducible refine ⟨_, rfl, ?_⟩)
    | (simp only [hn, hne, Bool.or_false, Bool.false_eq_true, if_false])
    | wp_step
    | dsimp only)
  all_goals exact hq
theorem super_ga_init {so D : Addr} {l₀ l : List Value} {tk : Tok} {Q : Fin → Shared → Prop}
    (hso : s.heap.get? so = some (ks_superObj D x C)) (hno : Looks (model prog w) s.heap (opaqueClassAbove (.ref C)) none)
    (hC : Looks (model prog w) s.heap (mroOf (.ref C)) l₀) (hl : (l₀.dropWhile (· != .ref D)).drop 1 = l) (X : K.In s.heap)
    (hf : alongIn K "__init__" l = some (some (.builtin "list.__init__"))) (hi : Looks (model prog w) s.heap (isInstance (.ref x) (.type "list")) true) (hxC : x ≠ C)
    (hq : Q (.done (.ret (.ref s.heap.objs.size))) { s with heap := s.heap.push { cls := .type "method-wrapper", data := .fields #[.builtin "list.__init__", .ref x] } }) :
    wpAny (model prog w) A (Builtin.«super.__getattribute__» ⟨[.ref so, .str "__init__" tk], []⟩) Q E s := by
  obtain ⟨h, g, d, t, os⟩ := s
  have hlk := slot_wd_get.lookup
  have hne : (Value.ref x == Value.ref C) = false := by simp [hxC]
  have hn : ((Str.ofString "__init__") == ("__class__" : Str)) = false := by decide
  have hdt : (ks_superObj D x C).data = .fields #[.ref D, .ref x, .ref C] := rfl
  have f0 : (#[.ref D, .ref x, .ref C] : Array Value)[0]? = some (.ref D) := rfl
  have f1 : (#[.ref D, .ref x, .ref C] : Array Value)[1]? = some (.ref x) := rfl
  have f2 : (#[.ref D, .ref x, .ref C] : Array Value)[2]? = some (.ref C) := rfl
  have hbt : ∀ s' : Shared, s'.TypeIs (.builtin "list.__init__") "wrapper_descriptor" := fun _ => type_list_init
  unfold Builtin.«super.__getattribute__»
  repeat (first
    | (with_reducible refine wpAny_field hso hdt f0 ?_) | (with_reducible refine wpAny_field hso hdt f1 ?_) | (with_reducible refine wpAny_field hso hdt f2 ?_)
    | (with_reducible refine ks_wpAny_notOpaque hno ?_)
    | (with_reducible refine Looks.at hC ?_; rw [hl])
    | (refine ks_forIn_along X (fun _ _ => rfl) rfl ?_ hf)
    | (with_reducible refine wpAny_typeOf (hbt _) ?_)
    | (with_reducible refine wpAny_call_entry slot_wd_get (hbt _) entry_wd_get ?_ (args_wd_get _ _ _))
    | (with_reducible refine wd_init hi ?_)
    | (with_reducible refine ⟨_, rfl, ?_⟩)
    | (simp only [hn, hne, Bool.or_false, Bool.false_eq_true, if_false])
    | wp_step
    | dsimp only)
  all_goals exact hq
theorem super_method_len {so D : Addr} {l₀ l : List Value} {pl : Sem Bool} {Q : Value × List Value → Shared → Prop}
    (hso : s.heap.get? so = some (ks_superObj D x C)) (hno : Looks (model prog w) s.heap (opaqueClassAbove (.ref C)) none)
    (hC : Looks (model prog w) s.heap (mroOf (.ref C)) l₀) (hl : (l₀.dropWhile (· != .ref D)).drop 1 = l) (X : K.In s.heap)
    (hf : alongIn K "__len__" l = some (some (.builtin "list.__len__"))) (hi : Looks (model prog w) s.heap (isInstance (.ref x) (.type "list")) true) (hxC : x ≠ C)
    (hq : Q (.ref s.heap.objs.size, []) { s with heap := s.heap.push { cls := .type "method-wrapper", data := .fields #[.builtin "list.__len__", .ref x] }, toks := s.toks + 1 }) :
    wpAny (model prog w) A (getMethod (.ref so) "__len__" pl) Q E s := by
  obtain ⟨h, g, d, t, os⟩ := s
  have hlk := F.ks_slot_super_ga.lookup
  have hcan := F.ks_canon_super_ga
  have hT : ∀ t', (⟨h, g, d, t', os⟩ : Shared).TypeIs (.ref so) "super" := fun _ => ⟨_, hso, rfl⟩
  unfold getMethod
  refine wpAny_bind (wpAny_specialOf (hT _) hlk ?_)
  show wpAny _ _ (if (Manifest.canonical "super.__getattribute__" != "object.__getattribute__") = true then _ else _) _ _ _
  rw [if_pos hcan]
  unfold getAttr getAttrBy
  refine wpAny_bind (wpAny_bind (wpAny_mkText (wpAny_holding (wpAny_bind (wpAny_typeOf (hT _) (wpAny_bind (wpAny_of_eq hlk ?_)))))))
  show wpAny _ _ (getAttrByItsOwn (.ref so) (.str "__len__" t) (.type "super") (.builtin "super.__getattribute__") true false) _ _ _
  unfold getAttrByItsOwn hookBefore callGetattribute boundAndCalled
  refine wpAny_bind (wpAny_of_eq (show (if onTheHeap (.type "super") then typeLookup (.type "super") "__getattr__" else pure none) = pure none from rfl) ?_)
  refine wpAny_bind (wpAny_attempt (wpAny_holding ?_))
  show wpAny _ _ (bindSpecial (.builtin "super.__getattribute__") (.ref so) >>= _) _ _ _
  refine wpAny_bind (wpAny_of_eq (F.ks_slot_super_ga.bind _) ?_)
  refine wpAny_mono (Q := fun v s' => v = .ref h.objs.size ∧ s' = ⟨h.push { cls := .type "method-wrapper", data := .fields #[.builtin "list.__len__", .ref x] }, g, d, t + 1, os⟩) (E := fun _ _ => False)
    (wpAny_call_entry F.ks_slot_super_ga (hT _) F.ks_entry_super_ga (super_ga_len (s := ⟨h, g, d, t + 1, os⟩) hso hno hC hl X hf hi hxC ⟨_, rfl, rfl, rfl⟩) (F.ks_gaArgs_super _ _)) (fun v s' hv => ?_) fun _ _ z => z.elim
  obtain ⟨rfl, rfl⟩ := hv
  exact wpAny_pure (wpAny_pure hq)
theorem super_method_init {so D : Addr} {l₀ l : List Value} {pl : Sem Bool} {Q : Value × List Value → Shared → Prop}
    (hso : s.heap.get? so = some (ks_superObj D x C)) (hno : Looks (model prog w) s.heap (opaqueClassAbove (.ref C)) none)
    (hC : Looks (model prog w) s.heap (mroOf (.ref C)) l₀) (hl : (l₀.dropWhile (· != .ref D)).drop 1 = l) (X : K.In s.heap)
    (hf : alongIn K "__init__" l = some (some (.builtin "list.__init__"))) (hi : Looks (model prog w) s.heap (isInstance (.ref x) (.type "list")) true) (hxC : x ≠ C)
    (hq : Q (.ref s.heap.objs.size, []) { s with heap := s.heap.push { cls := .type "method-wrapper", data := .fields #[.builtin "list.__init__", .ref x] }, toks := s.toks + 1 }) :
    wpAny (model prog w) A (getMethod (.ref so) "__init__" pl) Q E s := by
  obtain ⟨h, g, d, t, os⟩ := s
  have hlk := F.ks_slot_super_ga.lookup
  have hcan := F.ks_canon_super_ga
  have hT : ∀ t', (⟨h, g, d, t', os⟩ : Shared).TypeIs (.ref so) "super" := fun _ => ⟨_, hso, rfl⟩
  unfold getMethod
  refine wpAny_bind (wpAny_specialOf (hT _) hlk ?_)
  show wpAny _ _ (if (Manifest.canonical "super.__getattribute__" != "object.__getattribute__") = true then _ else _) _ _ _
  rw [if_pos hcan]
  unfold getAttr getAttrBy
  refine wpAny_bind (wpAny_bind (wpAny_mkText (wpAny_holding (wpAny_bind (wpAny_typeOf (hT _) (wpAny_bind (wpAny_of_eq hlk ?_)))))))
  show wpAny _ _ (getAttrByItsOwn (.ref so) (.str "__init__" t) (.type "super") (.builtin "super.__getattribute__") true false) _ _ _
  unfold getAttrByItsOwn hookBefore callGetattribute boundAndCalled
  refine wpAny_bind (wpAny_of_eq (show (if onTheHeap (.type "super") then typeLookup (.type "super") "__getattr__" else pure none) = pure none from rfl) ?_)
  refine wpAny_bind (wpAny_attempt (wpAny_holding ?_))
  show wpAny _ _ (bindSpecial (.builtin "super.__getattribute__") (.ref so) >>= _) _ _ _
  refine wpAny_bind (wpAny_of_eq (F.ks_slot_super_ga.bind _) ?_)
  refine wpAny_mono (Q := fun v s' => v = .ref h.objs.size ∧ s' = ⟨h.push { cls := .type "method-wrapper", data := .fields #[.builtin "list.__init__", .ref x] }, g, d, t + 1, os⟩) (E := fun _ _ => False)
    (wpAny_call_entry F.ks_slot_super_ga (hT _) F.ks_entry_super_ga (super_ga_init (s := ⟨h, g, d, t + 1, os⟩) hso hno hC hl X hf hi hxC ⟨_, rfl, rfl, rfl⟩) (F.ks_gaArgs_super _ _)) (fun v s' hv => ?_) fun _ _ z => z.elim
  obtain ⟨rfl, rfl⟩ := hv
  exact wpAny_pure (wpAny_pure hq)
theorem call_wrapper_len {q : Addr} {R : Result → Shared → Prop} (hq : s.heap.get? q = some { cls := .type "method-wrapper", data := .fields #[.builtin "list.__len__", .ref x] })
    (hc : wpAny (model prog w) (A.under (.builtin "list.__len__" ⟨[.ref x], []⟩)) (Builtin.«list.__len__» ⟨[.ref x], []⟩) (fun fin s' => match fin with | .done f => R (.ok f) s' | .again c' => c'.quiet = true ∧ codeAny (model prog w) A c' R s') (fun e s' => R (.error e) s') s) :
    codeAny (model prog w) A (.call (.ref q) ⟨[], []⟩) R s := by
  refine codeAny_of_tree ?_
  show wpAny _ A.in1 (callAny (.ref q) ⟨[], []⟩) _ _ _
  unfold callAny
  refine wpAny_bind (wpAny_load hq ?_)
  have hb : checkBoundCall "list.__len__" ⟨[.ref x], []⟩ = pure () := by kernel_rfl
  dsimp only
  rw [if_pos (by decide)]
  show wpAny _ _ (checkBoundCall "list.__len__" ⟨[.ref x], []⟩ >>= fun _ => again (.builtin "list.__len__" ⟨[.ref x], []⟩)) _ _ _
  rw [hb]
  exact wpAny_bind (wpAny_pure (wpAny_pure ⟨plainId_quiet (id := "list.__len__") (by decide +kernel) _, codeAny_builtin entry_list_len hc⟩))
theorem call_wrapper_init {q : Addr} {R : Result → Shared → Prop} (hq : s.heap.get? q = some { cls := .type "method-wrapper", data := .fields #[.builtin "list.__init__", .ref x] })
    (hc : wpAny (model prog w) (A.under (.builtin "list.__init__" ⟨[.ref x], []⟩)) (Builtin.«list.__init__» ⟨[.ref x], []⟩) (fun fin s' => match fin with | .done f => R (.ok f) s' | .again c' => c'.quiet = true ∧ codeAny (model prog w) A c' R s') (fun e s' => R (.error e) s') s) :
    codeAny (model prog w) A (.call (.ref q) ⟨[], []⟩) R s := by
  refine codeAny_of_tree ?_
  show wpAny _ A.in1 (callAny (.ref q) ⟨[], []⟩) _ _ _
  unfold callAny
  refine wpAny_bind (wpAny_load hq ?_)
  have hb : checkBoundCall "list.__init__" ⟨[.ref x], []⟩ = pure () := by kernel_rfl
  dsimp only
  rw [if_pos (by decide)]
  show wpAny _ _ (checkBoundCall "list.__init__" ⟨[.ref x], []⟩ >>= fun _ => again (.builtin "list.__init__" ⟨[.ref x], []⟩)) _ _ _
  rw [hb]
  exact wpAny_bind (wpAny_pure (wpAny_pure ⟨plainId_quiet (id := "list.__init__") (by decide +kernel) _, codeAny_builtin PySem.F.entry_list_init hc⟩))
theorem callWith_wrapper {q : Addr} {id : String} {pos : Pos} {env : Env} {Q : Value → Shared → Prop} (hq : s.heap.get? q = some { cls := .type "method-wrapper", data := .fields #[.builtin id, .ref x] }) (h : wpAny M A (call (.ref q) []) Q E s) :
    wpAny M A (callWith pos (.ref q) [] (backTo pos (starEach [] env)) []) Q E s := by
  unfold callWith
  refine wpAny_bind (wpAny_holding (PySem.evalArgs_none ?_))
  refine wpAny_bind (wpAny_standAt ?_)
  unfold keeperOf
  refine wpAny_bind (wpAny_bind (wpAny_load hq (wpAny_pure ?_)))
  exact wpAny_bind (wpAny_mono h (fun r s₂ hr => wpAny_bind (wpAny_holding (wpAny_point (wpAny_pure hr)))) fun _ _ x => x)
end
section
variable {prog : Program} {w : World} {M : Model} {A : Around} {E : Value → Shared → Prop} {s : Shared} {x C : Addr} {ox : Obj} {od : Option Obj} {K : Frag} {name : Str} {h₀ : Heap} {L : Addr} {m : Str → Option Value} {news : Led}
theorem mro_of {cd : ClassData} {l : List Value} (X : K.In s.heap) (hc : clsIn K C = some cd) (hl : cd.mro = l) : Looks M s.heap (mroOf (.ref C)) l := by
  subst hl
  exact (looks_clsIn X hc).andThen .now
theorem run_len {dx : Addr} {its : Array Value} {n : Nat} {Q : Fin → Shared → Prop} (hx : s.heap.get? x = some (accObj dx its n)) (h : ∀ t tk', Q (.done (.ret (.int (its.size : Int) t))) { s with toks := tk' }) :
    wpAny M A (Builtin.«list.__len__» ⟨[.ref x], []⟩) Q E s := by
  unfold Builtin.«list.__len__»
  refine wpAny_bind (m := slotArgs "__len__" 0 _) (wpAny_pure ?_)
  dsimp only
  unfold seqSize
  refine wpAny_bind (wpAny_bind (wpAny_loadPart hx (wpAny_pure ?_)))
  exact wpAny_bind (wpAny_mkInt (wpAny_pure (h _ _)))
end
end
section
open PySem PySem.W PySem.Calls PyProof.Rows
set_option maxRecDepth 100000
theorem ln_kind : builtinKind "list.__new__" = some .builtinFn := by decide +kernel
theorem ln_split : splitId "list.__new__" = some ("list", "__new__") := by decide +kernel
theorem ln_row : Manifest.signature? "list.__new__" = some ⟨.any, "list", "list", .cls, [{ name := "args", kind := .varPos, required := false }, { name := "kwargs", kind := .varKw, required := false }]⟩ := by kernel_rfl
theorem ln_quiet : "list.__new__".startsWith "lifetime." = false := by decide +kernel
structure LMakes (M : Model) (h : Heap) (C : Addr) : Prop where
  obj : ∃ oc od cd sl, h.get? C = some ⟨oc, od, .cls cd, sl⟩ ∧ cd.abstract = false ∧ cd.hasDel = false ∧ cd.mro.isEmpty = false
  made : Looks M h (Bind.madeBy (.ref C)) (some "list.__new__")
  base : Looks M h (Bind.staticBase (.ref C)) (.ref C)
  self : Looks M h (isSubtype (.ref C) (.ref C)) true
  lst : Looks M h (isSubtype (.ref C) (.type "list")) true
  call : Looks M h (specialOf (.ref C) "__call__") (some (.builtin "type.__call__"))
  typ : Looks M h (isInstance (.ref C) (.type "type")) true
  typ2 : Looks M h (isType (.ref C)) true
theorem lmakes_of {K : Frag} {M : Model} {h : Heap} (X : K.In h) {C : Addr} {oc : Value} {od : Option Addr} {cd : ClassData} {sl : Array (Option Value)} (ho : K.lookup C = some ⟨oc, od, .cls cd, sl⟩) (e1 : cd.abstract = false) (e2 : cd.hasDel = false) (e3 : (sl.toList[4]?).join = some (.builtin "list.__new__"))
    (hmro : cd.mro = [.ref C, .type "list", .type "object"]) (e7 : specialIn K (.ref C) "__call__" = some (some (.builtin "type.__call__"))) (e8 : instIn K (.ref C) (.type "type") = some true) : LMakes M h C := by
  have hc : clsIn K C = some cd := by unfold clsIn; rw [ho]
  have hm : Looks M h (mroOf (.ref C)) cd.mro := (looks_clsIn X hc).andThen .now
  have made : Looks M h (Bind.madeBy (.ref C)) (some "list.__new__") := by
    intro A Q E s k q
    unfold Bind.madeBy
    refine wpAny_bind (hm A _ E s k ?_)
    rw [hmro, List.forIn_cons]
    refine wpAny_bind (wpAny_bind (wpAny_bind (wpAny_bind (wpAny_loadPart (k _ _ (X _ _ ho)) (wpAny_pure ?_)))))
    dsimp only
    rw [← Array.getElem?_toList, e3]
    exact wpAny_pure (wpAny_pure (wpAny_pure q))
  refine ⟨⟨oc, od, cd, sl, X _ _ ho, e1, e2, by rw [hmro]; rfl⟩, made, ?_, looks_mroIn X ?_, looks_mroIn X ?_, looks_specialIn X e7, looks_instIn X e8, ?_⟩
  · intro A Q E s k q
    unfold Bind.staticBase
    refine wpAny_bind (hm A _ E s k ?_)
    rw [hmro, List.forIn_cons]
    exact wpAny_bind (wpAny_bind (wpAny_bind (made A _ E s k (wpAny_pure (wpAny_pure (wpAny_pure q))))))
  · unfold mroIn; rw [hc, Option.bind_some, hmro]; simp
  · unfold mroIn; rw [hc, Option.bind_some, hmro]; simp
  · intro A Q E s k q
    obtain ⟨hh, g, d, t, os⟩ := s
    exact ks_wpAny_isType_cls (k _ _ (X _ _ ho)) rfl q

noncomputable abbrev accNew (C dx : Addr) : Obj := { cls := .ref C, dict := some dx, data := .seq #[] }
section
variable {prog : Program} {w : World} {A : Around} {K : Frag} {C : Addr} {R : Result → Shared → Prop} {h : Heap} {g : Array GenState} {d : Drawn} {t : Nat} {os : OsState}
theorem lnew_K {rest : List Value} (Y : LMakes (model prog w) h C)
    (hq : R (.ok (.ret (.ref (h.objs.size + 1)))) ⟨(h.push emptyDict).push (accNew C h.objs.size), g, d, t, os⟩) :
    codeAny (model prog w) A (.call (.builtin "list.__new__") ⟨.ref C :: rest, []⟩) R ⟨h, g, d, t, os⟩ := by
  obtain ⟨⟨oc, od, cd, sl, hC, e1, e2, e4⟩, made, base, self, lst, call, typ, typ2⟩ := Y
  refine codeAny_call_builtin_code (Code.quiet_builtin _ ln_quiet) ?_
  simp only [checkBuiltinCall, ln_kind, ln_split, ln_row]
  have args : Bind.checkArgs "list.__new__" ⟨.any, "list", "list", .cls, [{ name := "args", kind := .varPos, required := false }, { name := "kwargs", kind := .varKw, required := false }]⟩ ⟨.ref C :: rest, []⟩ = pure () := by kernel_rfl
  rw [args]
  have hcan : (Manifest.canonical "list.__new__" != Manifest.canonical "list.__new__") = false := by simp
  have hnm : ("__new__" == "__new__") = true := by decide
  repeat (first | simp only [hnm, hcan, bne_self_eq_false, Bool.false_eq_true, if_false, if_true, Bool.not_true] | lk)
  refine codeAny_builtin_stack F.entry_list_new rfl fun p st => ?_
  have hown := owner_list_new
  have hC' := Heap.get?_push_of_some (accNew C (h.push emptyDict).objs.size.pred) (Heap.get?_push_of_some emptyDict hC)
  simp only [hown]
  have fin : ∀ A', wpAny (model prog w) A' (do
      let .ref d ← newDict | unsupported "internal:list.__new__"
      ret (← newObj (.ref C) (.seq #[]) (some d))) (fun fin s' => match fin with | .done f => R (.ok f) s' | .again c' => c'.quiet = true ∧ codeAny (model prog w) A c' R s') (fun e s' => R (.error e) s') ⟨h, g, d, t, os⟩ := by
    intro A'
    unfold newDict
    refine wpAny_bind (wpAny_newObj_type ?_)
    dsimp only
    refine wpAny_bind ?_
    unfold newObj
    dsimp only
    rw [if_neg (by rw [sizeLine_eq]; decide)]
    unfold newObjAsIs classHasDel
    refine wpAny_bind (wpAny_alloc (wpAny_bind (wpAny_bind (wpAny_load (Heap.get?_push_of_some _ (Heap.get?_push_of_some _ hC)) (wpAny_pure ?_)))))
    rw [e2]
    refine wpAny_pure (wpAny_pure ?_)
    show R _ _
    rw [Heap.size_push]
    exact hq
  repeat (first | simp only [hcan, e1, bne_self_eq_false, Bool.false_eq_true, if_false, if_true, Bool.not_true] | exact fin _ | lk)

theorem lmake_core {rest : List Value} {init : Value} (Y : LMakes (model prog w) h C) (hi : Looks (model prog w) h (typeLookup (.ref C) "__init__") (some init))
    (hb : ∀ self, Looks (model prog w) h (bindSpecial init self) (init, [self]))
    (hq : codeAny (model prog w) (A.under (.builtin "type.__call__" ⟨.ref C :: rest, []⟩)) (.call init ⟨.ref (h.objs.size + 1) :: rest, []⟩) (InitBack (h.objs.size + 1) R) ⟨(h.push emptyDict).push (accNew C h.objs.size), g, d, t, os⟩) :
    codeAny (model prog w) A (.call (.ref C) ⟨rest, []⟩) R ⟨h, g, d, t, os⟩ := by
  have Y' := Y
  obtain ⟨⟨oc, od, cd, sl, hC, e1, e2, e4⟩, made, base, self, lst, call, typ, typ2⟩ := Y
  refine codeAny_of_tree ?_
  show wpAny _ _ (callAny (.ref C) _) _ _ _
  refine nd_load hC ?_
  show wpAny _ _ (callAny.viaDunder (.ref C) _) _ _ _
  unfold callAny.viaDunder
  refine wpAny_bind (call.at ?_)
  dsimp only
  rw [tc_bind]
  refine wpAny_bind (wpAny_pure (wpAny_bind (wpAny_pure ?_)))
  refine wpAny_pure (a := Fin.again (.call (.builtin "type.__call__") ⟨.ref C :: rest, []⟩)) (And.intro rfl ?_)
  refine codeAny_call_builtin_at (Code.quiet_builtin _ (by decide +kernel)) entry_typeCall (check_slot tc_kind tc_split typ (tc_args _ _ _) ?_)
  unfold Builtin.«type.__call__»
  have hm : Looks (model prog w) h (mroOf (.ref C)) cd.mro := ((Looks.ld (part := none) hC).andThen .now).andThen .now
  repeat (first | simp only [e4, Bool.false_eq_true, if_false] | with_reducible refine wpAny_call ?_ | lk)
  refine lnew_K Y' ?_
  have k : ∀ b o, h.get? b = some o → ((h.push emptyDict).push (accNew C h.objs.size)).get? b = some o := fun b o e => Heap.get?_push_of_some _ (Heap.get?_push_of_some _ e)
  have hx : ((h.push emptyDict).push (accNew C h.objs.size)).get? (h.objs.size + 1) = some (accNew C h.objs.size) := by heap_get
  have t1 : Looks (model prog w) ((h.push emptyDict).push (accNew C h.objs.size)) (typeOf (.ref (h.objs.size + 1))) (.ref C) := (Looks.ld hx).andThen .now
  have s1 := self.keeps k
  have i1 := hi.keeps k
  have b1 := (hb (.ref (h.objs.size + 1))).keeps k
  unfold isInstance callSpecial? specialOf
  repeat (first | with_reducible refine wpAny_call ?_ | lk)
  refine codeAny_mono hq fun r s' z => ?_
  rcases r with e | (v | _ | _ | _) <;> first | exact z | exact z.elim | skip
  obtain ⟨rfl, z⟩ := z
  exact wpAny_pure (wpAny_pure z)

theorem lmake_K {s : Shared} {h₀ : Heap} {L : Addr} {m : Str → Option Value} {news : Led} {rest : List Value} {fI : Addr} (F : Fr h₀ L s.heap m) (N : News h₀ L s.heap news) (X : K.In s.heap) (Y : LMakes (model prog w) s.heap C)
    (hi : findIn K (.ref C) "__init__" = some (some (.ref fI))) (hf : typeIn K (.ref fI) = some (.type "function"))
    (h : ∀ x dx h', Fr h₀ L h' m → News h₀ L h' ((x, accNew C dx) :: (dx, emptyDict) :: news) → (∀ p ∈ news, p.1 < dx) → dx < x →
      codeAny (model prog w) (A.under (.builtin "type.__call__" ⟨.ref C :: rest, []⟩)) (.call (.ref fI) ⟨.ref x :: rest, []⟩) (InitBack x R) { s with heap := h' }) :
    codeAny (model prog w) A (.call (.ref C) ⟨rest, []⟩) R s := by
  obtain ⟨hh, g, d, t, os⟩ := s
  refine lmake_core Y (looks_findIn X hi) (fun self => bind_fn X self hf) (h _ hh.objs.size _ ((F.push _).push _) ?_ (fun p hp => Heap.lt_size (N p hp).1) (Nat.lt_succ_self _))
  have := (N.push F emptyDict).push (F.push _) (accNew C hh.objs.size)
  rwa [Heap.size_push] at this
end
end
section
open PySem PySem.W PySem.Calls PyProof.Rows Builtin Builtin.ObjectAttr Builtin.Getset_descriptor
set_option maxRecDepth 100000
theorem list_passes (self : Value) : refuseLoop self "__setattr__" [.type "list", .type "object"] = pure () := by kernel_rfl
section
variable {prog : Program} {w : World} {A : Around} {E : Value → Shared → Prop} {s : Shared} {x C : Addr} {ox od od' : Obj} {K : Frag} {h₀ : Heap} {L dx : Addr} {m : Str → Option Value} {news pre post : Led} {R : Result → Shared → Prop} {name : Str} {tk : Tok} {v : Value} {es : List DictEntry} {n : Nat}
/-- a store into the dict of an object whose class is a list's child -/
theorem acc_osa {cd : ClassData} (F : Fr h₀ L s.heap m) (N : News h₀ L s.heap (pre ++ (dx, od) :: post)) (X : K.In s.heap)
    (I : InstAt s.heap x ox C (some od)) (hd : ox.dict = some dx) (hc : clsIn K C = some cd) (hcm : cd.mro = [.ref C, .type "list", .type "object"]) (hcd : cd.hasDict = true) (ha : findIn K (.ref C) name = some none)
    (hl : (lookIn name od).isSome = true) (h1 : ∀ p ∈ pre, p.1 ≠ dx) (h2 : ∀ p ∈ post, p.1 ≠ dx)
    (e : Obj.putName name (PyData.keyHash w.params name) (.str name s.toks) v od = od') (e' : od'.data = .dict es.toArray n) (hz : es.length ≤ 1000)
    (h : ∀ h', Fr h₀ L h' m → News h₀ L h' (pre ++ (dx, od') :: post) → R (.ok (.ret .none)) { s with heap := h', toks := s.toks + 1 }) :
    codeAny (model prog w) A (.call (.builtin "object.__setattr__") ⟨[.ref x, .str name tk, v], []⟩) R s := by
  have SF := PySem.F.store_object
  have hm : Looks (model prog w) s.heap (mroOf (.ref C)) cd.mro := (looks_clsIn X hc).andThen .now
  have sub : Looks (model prog w) s.heap (isInstance (.ref x) (.type "object")) true := inst_of X I (by unfold mroIn; rw [hc, Option.bind_some, hcm]; simp)
  refine codeAny_call_builtin SF.slot.plain SF.entry (@check_slot (model prog w) _ _ s "object.__setattr__" "object" "__setattr__" (.ref x) [.str name tk, v] [] _ SF.kind SF.split sub (SF.args (.ref x) (.str name tk) v) ?_)
  rw [osa_eq, refuse_eq]
  refine wpAny_bind (wpAny_bind (I.type.here (wpAny_bind (hm.here ?_))))
  rw [hcm, refuseLoop_ref, list_passes]
  have L3 : Looks (model prog w) s.heap (storeTaker? none) none := .now
  refine wpAny_pure (wpAny_bind (I.type.here (wpAny_bind ((looks_findIn X ha).here (wpAny_bind (L3.here ?_))))))
  obtain ⟨U1, U2⟩ := news_upd (f := Obj.putName name (PyData.keyHash w.params name) (.str name s.toks) v) F N h1 h2 e (by obtain ⟨_, _, dd, _⟩ := od'; cases e'; rfl)
  have D := (N (dx, od) (by simp)).1
  have D' := (U2 (dx, od') (by simp)).1
  obtain ⟨hx, hcl, hn, -⟩ := I
  obtain ⟨oc, odi, oda, osl⟩ := ox
  dsimp only at hcl hd
  subst hcl hd
  refine wpAny_bind (wpAny_pure (wpAny_bind (wpAny_bind (wpAny_loadPart hx (wpAny_bind ((looks_clsIn X hc).here ?_))))))
  rw [hcd]
  refine wpAny_pure (a := some dx) (wpAny_bind (wpAny_pure (wpAny_bind ?_)))
  unfold nsSet
  refine wpAny_bind (wpAny_bind (wpAny_askSetting (wpAny_pure (wpAny_bind (wpAny_mkText (wpAny_bind (wpAny_loadPart D ?_)))))))
  unfold lookIn at hl
  split at hl
  · rename_i es₀ n₀ q
    rw [q]
    dsimp only
    have c : (!es₀.any (·.key.isStr name) && es₀.any (·.refKey)) = false := by
      rw [← Array.any_toList, ← Array.any_toList]
      split at hl
      · rename_i en he
        rw [List.any_eq_true.mpr ⟨en, List.mem_of_find?_eq_some he, List.find?_some he⟩]; rfl
      · split at hl
        · cases hl
        · rename_i z; rw [Bool.not_eq_true] at z; rw [z, Bool.and_false]
    rw [aRefKeyMayBeTheName_at, c]
    refine wpAny_updatePart D ?_
    refine wpAny_bind (wpAny_lookBehind D' (by rw [e']; exact pastItsLine_dict (by rw [List.size_toArray, sizeLine_eq]; omega)) ?_)
    exact wpAny_pure (h _ U1 U2)
  · cases hl
theorem acc_set {cd : ClassData} {Q : Unit → Shared → Prop} (F : Fr h₀ L s.heap m) (N : News h₀ L s.heap (pre ++ (dx, od) :: post)) (X : K.In s.heap)
    (I : InstAt s.heap x ox C (some od)) (hd : ox.dict = some dx) (hc : clsIn K C = some cd) (hcm : cd.mro = [.ref C, .type "list", .type "object"]) (hcd : cd.hasDict = true) (ha : findIn K (.ref C) name = some none)
    (hs : findIn K (.ref C) "__setattr__" = some (some (.builtin "object.__setattr__"))) (hl : (lookIn name od).isSome = true) (h1 : ∀ p ∈ pre, p.1 ≠ dx) (h2 : ∀ p ∈ post, p.1 ≠ dx)
    (e : Obj.putName name (PyData.keyHash w.params name) (.str name (s.toks + 1)) v od = od') (e' : od'.data = .dict es.toArray n) (hz : es.length ≤ 1000)
    (h : ∀ h', Fr h₀ L h' m → News h₀ L h' (pre ++ (dx, od') :: post) → Q () { s with heap := h', toks := s.toks + 2 }) : wpAny (model prog w) A (setAttr (.ref x) name v) Q E s :=
  set_plain X I hs (acc_osa (s := { s with toks := s.toks + 1 }) F N X I hd hc hcm hcd ha hl h1 h2 e e' hz h)

theorem run_init {dx : Addr} {n : Nat} {Q : Fin → Shared → Prop} (F : Fr h₀ L s.heap m) (N : News h₀ L s.heap ((x, accObj dx #[] n) :: news)) (hx : ∀ p ∈ news, p.1 ≠ x)
    (h : ∀ h' n', Fr h₀ L h' m → News h₀ L h' ((x, accObj dx #[] n') :: news) → Q (.done (.ret .none)) { s with heap := h' }) :
    wpAny (model prog w) A (Builtin.«list.__init__» ⟨[.ref x], []⟩) Q E s := by
  unfold Builtin.«list.__init__»
  dsimp only
  rw [if_neg (by decide), if_neg (by decide)]
  unfold Builtin.List.listItems Builtin.List.listUpdate
  refine wpAny_bind (wpAny_bind (wpAny_seqItems (N _ (.head _)).1 rfl (wpAny_pure ?_)))
  refine wpAny_bind (update_acc F N hx (by rw [sizeLine_eq]; decide) (by rw [sizeLine_eq]; decide) fun h' n' F' N' => wpAny_bind (wpAny_letGo (wpAny_pure (h h' n' F' N'))))
end
end
section
open PySem PySem.W PySem.Calls PyProof.Rows Builtin Builtin.ObjectAttr Builtin.Getset_descriptor Builtin.Str
set_option maxRecDepth 100000
section
variable {prog : Program} {w : World} {A : Around} {E : Value → Shared → Prop} {s : Shared} {x C f : Addr} {ox : Obj} {od : Option Obj} {K : Frag} {h₀ : Heap} {L : Addr} {m : Str → Option Value} {news : Led}
/-- str(x) of an object whose class has a def for it -/
theorem str_K {Q : Value → Shared → Prop} (hu : A.in1.in1.units < cLine) (X : K.In s.heap) (I : InstAt s.heap x ox C od) (hs : findIn K (.ref C) "__str__" = some (some (.ref f))) (hf : typeIn K (.ref f) = some (.type "function"))
    (h : wpAny (model prog w) A.in1.in1 (call (.ref f) [.ref x]) (StrBack Q) E s) : wpAny (model prog w) A (call (.type "str") [.ref x]) Q E s := by
  refine callType_codes (Q₁ := fun v s' => (∃ y t, v = .str y t) ∧ Q v s') F.called_str (F.typeCall_str_1 _) F.entry_object_init ?_ ?_
  · refine codeAny_of_tree ?_
    show wpAny _ A.in1.in1 (do checkBuiltinCall "str.__new__" ⟨[.type "str", .ref x], []⟩; again (.builtin "str.__new__" ⟨[.type "str", .ref x], []⟩)) _ _ s
    have hp : plainId "str.__new__" = true := by decide +kernel
    refine wpAny_bind (wpAny_of_eq (F.newCall_str_1 _) (wpAny_pure ⟨plainId_quiet hp _, codeAny_builtin F.entry_str_new ?_⟩))
    rw [Around.under_plainId hp _, str_new_tree]
    refine wpAny_bind (wpAny_pure ?_)
    refine wpAny_bind (wpAny_of_eq isSubtype_str_str ?_)
    refine wpAny_bind ?_
    unfold Builtin.Str.strOf
    dsimp only [isExactStr]
    refine wpAny_bind (wpAny_cRoomFor hu ?_)
    refine wpAny_bind (m := callSpecial? (.ref x) (Str.ofString "__str__")) (special_fn X I hs hf (wpAny_mono h (fun r s' hr => ?_) fun _ _ y => y))
    cases r <;> first | exact hr.elim | skip
    rename_i y t
    exact wpAny_pure (wpAny_pure ⟨⟨y, t, rfl⟩, hr⟩)
  · rintro obj s₁ ⟨⟨y, t, rfl⟩, hq⟩
    refine ⟨typeIs_str _ _ _, F.args_object_init_2 _ _, ?_⟩
    exact object_init_meets (T := "str") F.called_str.init.lookup F.called_str.made (by decide) prog w A.in1 _ s₁ ⟨typeIs_str _ _ _, rfl, hq⟩

noncomputable def HasSeq (h : Heap) (a : Addr) (items : Array Value) : Prop := ∃ o n, h.get? a = some o ∧ o.data = .seq items n
theorem HasSeq.at {h h' : Heap} {a : Addr} {items : Array Value} (x : HasSeq h a items) (hk : ∀ o, h.get? a = some o → h'.get? a = some o) : HasSeq h' a items := let ⟨o, n, e, r⟩ := x; ⟨o, n, hk _ e, r⟩

theorem li_plain : plainId "list.__iter__" = true := by decide +kernel
theorem li_kind : builtinKind "list.__iter__" = some .slot := by decide +kernel
theorem li_split : splitId "list.__iter__" = some ("list", "__iter__") := by decide +kernel
theorem acc_iter {dx : Addr} {its : Array Value} {n : Nat} {Q : Value → Shared → Prop} (X : K.In s.heap) (I : InstAt s.heap x (accObj dx its n) 166 od) (hi : findIn K (.ref 166) "__iter__" = some (some (.builtin "list.__iter__"))) (hm : mroIn K 166 (.type "list") = some true)
    (h : Q (.ref s.heap.objs.size) { s with heap := s.heap.push { cls := .type "list_iterator", data := .fields #[.ref x, .int 0 0] } }) : wpAny (model prog w) A (pyIter (.ref x)) Q E s := by
  unfold pyIter specialOf
  refine wpAny_bind (wpAny_bind (I.type.here ((looks_findIn X hi).here ?_)))
  dsimp only
  have hbnd : Looks (model prog w) s.heap (bindSpecial (.builtin "list.__iter__") (.ref x)) (.builtin "list.__iter__", [.ref x]) := Looks.of_pure (slot_list_iter.bind _)
  have hcall : wpAny (model prog w) A (call (.builtin "list.__iter__") [.ref x]) (fun v s' => v = .ref s.heap.objs.size ∧ s' = { s with heap := s.heap.push { cls := .type "list_iterator", data := .fields #[.ref x, .int 0 0] } }) E s := by
    refine call_slot X I hm li_plain entry_list_iter li_kind li_split (args_list_iter _) ?_
    show wpAny _ _ (do ret (← newFields "list_iterator" [.ref x, rawInt 0])) _ _ s
    exact wpAny_bind (wpAny_newObj_type (wpAny_pure ⟨_, rfl, rfl, rfl⟩))
  have fin : wpAny (model prog w) A (callSpecialIfBoundUnlessNone? (.ref x) "__iter__" (do rule "iter.none"; raiseError "TypeError" s!"'{← PySem.typeNameOf (.ref x)}' object is not iterable")) (fun r s' => r = some (.ref s.heap.objs.size) ∧ s' = { s with heap := s.heap.push { cls := .type "list_iterator", data := .fields #[.ref x, .int 0 0] } }) E s := by
    simp only [callSpecialIfBoundUnlessNone?, bindSpecialIfBound?]
    have fin2 : wpAny (model prog w) A (call (.builtin "list.__iter__") [.ref x] >>= fun v => pure (some v)) (fun r s' => r = some (.ref s.heap.objs.size) ∧ s' = { s with heap := s.heap.push { cls := .type "list_iterator", data := .fields #[.ref x, .int 0 0] } }) E s :=
      wpAny_bind (wpAny_mono hcall (fun v s' h' => wpAny_pure (by obtain ⟨rfl, rfl⟩ := h'; exact ⟨rfl, rfl⟩)) fun _ _ h' => h')
    refine wpAny_holding (wpAny_bind (wpAny_bind (wpAny_bind (I.type.here ((looks_findIn X hi).here ?_)))))
    refine wpAny_bind (wpAny_askSetting (wpAny_ite ?_))
    split
    · exact wpAny_bind (hbnd.here (wpAny_pure (by dsimp only; rw [if_neg (by decide)]; exact fin2)))
    · exact wpAny_tryCatch (wpAny_bind (hbnd.here (wpAny_pure (by dsimp only; rw [if_neg (by decide)]; exact fin2))))
  refine wpAny_bind (wpAny_mono fin (fun r s' hr => ?_) fun _ _ e => e)
  obtain ⟨rfl, rfl⟩ := hr
  dsimp only
  have hT : Shared.TypeIs { s with heap := s.heap.push { cls := .type "list_iterator", data := .fields #[.ref x, .int 0 0] } } (.ref s.heap.objs.size) "list_iterator" := ⟨_, Heap.get?_push_size _ rfl, rfl⟩
  refine wpAny_bind (wpAny_bind (wpAny_typeOf hT (wpAny_of_eq slot_listiter_next.lookup ?_)))
  exact wpAny_pure h

theorem next_item {it l : Addr} {i : Nat} {items : Array Value} {y : Value} {Q : Option Value → Shared → Prop} (hit : s.heap.IsListIter it l i) (hl : HasSeq s.heap l items) (hx : items[i]? = some y)
    (hQ : ∀ h', h'.IsListIter it l (i + 1) → Heap.SameBut it s.heap h' → Q (some y) { s with heap := h' }) : wpAny (model prog w) A (pyNext (.ref it)) Q E s := by
  obtain ⟨o, ho, hc, hd⟩ := id hit
  obtain ⟨ol, nl, hol, hdl⟩ := hl
  unfold pyNext
  refine wpAny_bind (wpAny_attempt (wpAny_callSpecial?_slot (name := Str.ofString "__next__") hit.typeIs slot_listiter_next (wpAny_call_entry slot_listiter_next hit.typeIs entry_listiter_next ?_ (args_listiter_next _))))
  show wpAny _ _ (field (.ref it) 0 >>= _) _ _ s
  refine wpAny_bind (wpAny_field ho hd (x := .ref l) rfl ?_)
  show wpAny _ _ (if (Value.ref l == Value.none) = true then _ else _) _ _ s
  rw [if_neg (show ¬ ((Value.ref l == Value.none) = true) from Bool.false_ne_true)]
  show wpAny _ _ (field (.ref it) 1 >>= _) _ _ s
  refine wpAny_bind (wpAny_field ho hd (x := .int i 0) rfl ?_)
  show wpAny _ _ (seqItems? (.ref l) >>= _) _ _ s
  refine wpAny_bind (wpAny_seqItems hol hdl ?_)
  simp only [Int.toNat_natCast, hx]
  refine wpAny_bind (wpAny_setField ho hd (by simp) (wpAny_pure ⟨y, rfl, wpAny_pure (hQ _ ?_ (Heap.SameBut.update ..))⟩))
  exact ⟨_, Heap.get?_update_self _ ho (Obj.isFreed_of_fields (Obj.data_mapFields hd _)), (Obj.cls_mapFields ..).trans hc, by rw [Obj.data_mapFields hd]; simp [rawInt]⟩

theorem next_end {it l : Addr} {i : Nat} {items : Array Value} {Q : Option Value → Shared → Prop} (hh : A.handled = none) (hit : s.heap.IsListIter it l i) (hl : HasSeq s.heap l items) (hx : items[i]? = none)
    (hQ : ∀ h', Heap.ExtBut it s.heap h' → Q none { s with heap := h' }) : wpAny (model prog w) A (pyNext (.ref it)) Q E s := by
  obtain ⟨o, ho, hc, hd⟩ := id hit
  obtain ⟨ol, nl, hol, hdl⟩ := hl
  unfold pyNext
  refine wpAny_bind (wpAny_attempt (wpAny_callSpecial?_slot (name := Str.ofString "__next__") hit.typeIs slot_listiter_next (wpAny_call_entry slot_listiter_next hit.typeIs entry_listiter_next ?_ (args_listiter_next _))))
  show wpAny _ _ (field (.ref it) 0 >>= _) _ _ s
  refine wpAny_bind (wpAny_field ho hd (x := .ref l) rfl ?_)
  show wpAny _ _ (if (Value.ref l == Value.none) = true then _ else _) _ _ s
  rw [if_neg (show ¬ ((Value.ref l == Value.none) = true) from Bool.false_ne_true)]
  show wpAny _ _ (field (.ref it) 1 >>= _) _ _ s
  refine wpAny_bind (wpAny_field ho hd (x := .int i 0) rfl ?_)
  show wpAny _ _ (seqItems? (.ref l) >>= _) _ _ s
  refine wpAny_bind (wpAny_seqItems hol hdl ?_)
  simp only [Int.toNat_natCast, hx]
  refine wpAny_bind (wpAny_rule (wpAny_bind (wpAny_setField ho hd (by simp) ?_)))
  show wpAny _ _ (newExc (.type "StopIteration") [] >>= _) _ _ _
  refine wpAny_bind ?_
  simp only [newExc, newTuple]
  refine wpAny_bind (wpAny_newObj_type ?_ (by size_fits))
  refine wpAny_bind (m := firstArgMember _ _) (wpAny_of_eq (a := Value.none) (by first | rfl | (simp only [firstArgMember]; rfl)) ?_)
  refine wpAny_newObj_type ?_ (by size_fits)
  simp only [raiseNew]
  refine wpAny_bind (wpAny_handled ?_)
  rw [show A.in1.handled = none from hh]
  refine wpAny_bind (wpAny_pure (wpAny_throw ?_))
  refine wpAny_bind (wpAny_isInstance (T := "StopIteration") (b := true) ⟨_, Heap.get?_push_size _ rfl, rfl⟩ isSubtype_stop ?_)
  exact wpAny_pure (hQ _ (((Heap.SameBut.update ..).extBut.push _).push _))
end
theorem li_walks {prog : Program} {w : World} {A : Around} (hh : A.handled = none) (I ax T0 : Addr) (hne : ax ≠ I) (vals : Array Value) (hTI : T0 ≠ I) :
    WalksU prog w A I [I, ax, T0] [I] 1 (fun _ v => v = vals)
      (fun j h => h.IsListIter I ax j ∧ HasSeq h ax #[.ref T0] ∧ h.IsTuple T0 vals)
      (fun j T h => (j < 1 ∧ T = T0) ∧ h.IsListIter I ax (j + 1) ∧ HasSeq h ax #[.ref T0] ∧ h.IsTuple T0 vals) where
  sub := fun b hb => by simp at hb; simp [hb]
  frame := fun _ _ _ st hk => ⟨st.1.at fun o e => hk I (by simp) o e, st.2.1.at fun o e => hk ax (by simp) o e, st.2.2.at fun o e => hk T0 (by simp) o e⟩
  item := fun i s Q E hi st hQ => by
    have hi0 : i = 0 := by omega
    subst hi0
    refine next_item st.1 st.2.1 (y := .ref T0) rfl fun h' hit' hs' => ?_
    have tup : h'.IsTuple T0 vals := st.2.2.extBut hs'.extBut hTI
    exact hQ T0 vals h' s.toks rfl tup ⟨⟨hi, rfl⟩, hit', st.2.1.at fun o e => hs'.extBut ax o hne e, tup⟩ fun b o hb e => hs'.extBut b o (fun h => hb (by simp [h])) e
  go := fun _ _ _ _ _ s Q _ hm hQ => wpAny_letOwnedTupleGo_listiter hm.2.1 (hQ s.heap ⟨hm.2.1, hm.2.2.1, hm.2.2.2⟩ fun _ _ _ e => e)
  apart := fun j T _ hm hmem => by
    rcases List.mem_cons.mp hmem with e | e
    · exact hTI (hm.1.2 ▸ e)
    · cases e
  done := fun s Q E st hQ => next_end hh st.1 st.2.1 (by simp) fun h' he' => hQ h' s.toks fun b o hb e => he' b o (fun h => hb (by simp [h])) e
  self := fun _ _ _ _ st hQ => wpAny_pyIter_listiter st.1 hQ
end
section
open PySem PySem.W PySem.Calls PyProof.Rows
set_option maxRecDepth 100000
section
variable {prog : Program} {w : World} {A : Around} {E : Value → Shared → Prop} {s : Shared} {x C : Addr} {ox : Obj} {od : Option Obj} {K : Frag} {name : Str} {pl : Sem Bool}
theorem method_accfn {f : Addr} {Q : Value × List Value → Shared → Prop} (X : K.In s.heap) (I : InstAt s.heap x ox C od) (hga : findIn K (.ref C) "__getattribute__" = some (some (.builtin "list.__getattribute__"))) (hk : findIn K (.ref C) "__getattr__" = some none)
    (hf : findIn K (.ref C) name = some (some (.ref f))) (ht : typeIn K (.ref f) = some (.type "function")) (hs : shadowIn od name = some false) (h : Q (.ref f, [.ref x]) s) :
    wpAny (model prog w) A (getMethod (.ref x) name pl) Q E s := by
  have hcan : (Manifest.canonical "list.__getattribute__" != "object.__getattribute__") = false := by decide +kernel
  unfold getMethod specialOf
  refine wpAny_bind (wpAny_bind (I.type.here ((looks_findIn X hga).here ?_)))
  dsimp only
  rw [hcan, if_neg (by decide)]
  refine wpAny_bind (wpAny_bind (I.type.here ((looks_findIn X hk).here ?_)))
  refine wpAny_bind (wpAny_bind (I.type.here ((looks_findIn X hf).here (wpAny_bind ((looks_typeIn X ht).here ?_)))))
  rw [if_neg (by decide +kernel)]
  refine wpAny_bind (wpAny_loadPart I.at_ ?_)
  have hd := I.dict
  cases e : ox.dict with
  | none => exact wpAny_bind (wpAny_rule (wpAny_pure h))
  | some dx =>
    cases od with
    | none => rw [e] at hd; exact hd.elim
    | some o =>
      rw [e] at hd
      obtain ⟨r, a, b⟩ := Option.map_eq_some_iff.mp hs
      refine wpAny_bind (wpAny_bind (wpAny_loadPart hd ?_))
      rw [nsLook_of a]
      refine wpAny_pure ?_
      rw [b]
      exact wpAny_bind (wpAny_rule (wpAny_pure h))
end
section
variable {prog : Program} {w : World} {A : Around} {E : Value → Shared → Prop} {s : Shared} {h₀ : Heap} {L D : Addr} {m : Str → Option Value} {news : Led}
theorem set_any {vs : List Value} {n : Nat} {k : Int} {t : Tok} {v : Value} {Q : Unit → Shared → Prop} (F : Fr h₀ L s.heap m) (N : News h₀ L s.heap ((D, listOf vs.toArray n) :: news)) (hx : ∀ p ∈ news, p.1 ≠ D) (h0 : 0 ≤ k) (h1 : k < vs.length) (hfit : k < 1000000)
    (h : ∀ h', Fr h₀ L h' m → News h₀ L h' ((D, listOf (vs.set k.toNat v).toArray n) :: news) → Q () { s with heap := h' }) : wpAny (model prog w) A (setItem (.ref D) (.int k t) v) Q E s := by
  have z := N (D, listOf vs.toArray n) (.head _)
  exact ki_setAt z.1 h0 (by omega) (by rw [List.size_toArray]; exact h1) (h _ (F.change (Heap.SameBut.update ..) z.2.1 z.2.2) (ki_turn (pre := []) (fun a => a.setIfInBounds k.toNat v) N (fun _ hp => nomatch hp) hx (by simp) (by simp)))
end
end
section
open PySem PySem.W PyProof.Rows PySem.Spec PySem.Calls
open PyProof.Rows.LCg PyProof.Rows.LCp
set_option maxRecDepth 100000
set_option maxHeartbeats 2000000
section
variable {prog : Program} {w : World} {A : Around} {E : Value → Shared → Prop} {s : Shared} {h₀ : Heap} {L : Addr} {m : Str → Option Value} {env : Env}
noncomputable def Off4 (e it C D : Addr) (nw : Led) : Prop := ∀ p ∈ nw, p.1 ≠ e ∧ p.1 ≠ it ∧ p.1 ≠ C ∧ p.1 ≠ D
noncomputable def EndE (h₀ : Heap) (L : Addr) (m : Str → Option Value) (s₂ : Shared) (e it C D : Addr) (oE oJ oC oD : Obj) (Rest : Value → Led → Prop) (y : Value) (s' : Shared) : Prop :=
  ∃ h' tk' nw', s' = { s₂ with heap := h', toks := tk' } ∧ Fr h₀ L h' m ∧ News h₀ L h' ((e, oE) :: (it, oJ) :: (C, oC) :: (D, oD) :: nw') ∧ Off4 e it C D nw' ∧ Rest y nw'
theorem EndE.mk0 {s₂ : Shared} {e it C D : Addr} {oE oJ oC oD : Obj} {Rest : Value → Led → Prop} {y : Value} {h' : Heap} {tk' : Nat} {nw' : Led} (F : Fr h₀ L h' m) (N : News h₀ L h' ((e, oE) :: (it, oJ) :: (C, oC) :: (D, oD) :: nw')) (off : Off4 e it C D nw') (r : Rest y nw') :
    EndE h₀ L m s₂ e it C D oE oJ oC oD Rest y { s₂ with heap := h', toks := tk' } := ⟨h', tk', nw', rfl, F, N, off, r⟩
/-- the turns of a comprehension over enumerate(a list) -/
structure TurnsE (prog : Program) (w : World) (A : Around) (h₀ : Heap) (L : Addr) (m : Str → Option Value) (env : Env) (elt : Expr) (x x₂ : Str) (scope : Scope) (cl : List (Str × Addr)) (s₂ : Shared) (l : Addr) (its : Array Value) (news : Led) (Fin : List Value → Led → Prop) : Prop where
  ex : ∃ (Inv : Nat → List Value → Led → Prop) (nl : Nat), Inv 0 [] news ∧ (∀ i ys nw, Inv i ys nw → (l, listOf its nl) ∈ nw) ∧
    (∀ i ys nw v t e it oE oJ C oC D m₂ h tk (E' : Value → Shared → Prop), its[i]? = some v → Inv i ys nw → NsObj oC m₂ → m₂ x = some (.int (i : Int) t) → m₂ x₂ = some v → Fr h₀ L h m → News h₀ L h ((e, oE) :: (it, oJ) :: (C, oC) :: (D, lst ys) :: nw) → Off4 e it C D nw →
      wpAny (model prog w) A (eval elt (compEnvC scope cl C env)) (EndE h₀ L m { s₂ with heap := h, toks := tk } e it C D oE oJ oC (lst ys) (fun y nw' => Inv (i + 1) (ys ++ [y]) nw')) E' { s₂ with heap := h, toks := tk }) ∧
    (∀ ys nw, Inv its.size ys nw → Fin ys nw)

theorem off1_of {D : Addr} : ∀ {l : Led}, (∀ p ∈ l, p.1 ≠ D) → Off1 D l
  | [], _ => trivial
  | _ :: _, h => ⟨h _ List.mem_cons_self, off1_of fun p hp => h p (List.mem_cons_of_mem _ hp)⟩
theorem but2 {h h' : Heap} {a b : Addr} (F : Fr h₀ L h m) (hk : ∀ c o, c ∉ [a, b] → h.get? c = some o → h'.get? c = some o) (h1 : L ≠ a) (h2 : L ≠ b) (h3 : h₀.get? a = none) (h4 : h₀.get? b = none) : Fr h₀ L h' m :=
  ⟨F.ns.at' fun o e => hk L o (by simp [h1, h2]) e, fun c o e => hk c o (fun hm => by
    rcases List.mem_cons.mp hm with q | q
    · rw [q, h3] at e; cases e
    · rw [List.mem_singleton.mp q, h4] at e; cases e) (F.keep c o e), F.above⟩
theorem newsBut2 {h h' : Heap} {a b : Addr} {news : Led} (N : News h₀ L h news) (hk : ∀ c o, c ∉ [a, b] → h.get? c = some o → h'.get? c = some o) (off : ∀ p ∈ news, p.1 ≠ a ∧ p.1 ≠ b) : News h₀ L h' news :=
  fun p hp => ⟨hk _ _ (by simp [(off p hp).1, (off p hp).2]) (N p hp).1, (N p hp).2⟩

inductive StE (h₀ : Heap) (L : Addr) (m : Str → Option Value) (its : Array Value) (Inv : Nat → List Value → Led → Prop) (s₂ : Shared) (e it l C D : Addr) (k : Nat) (s' : Shared) : Prop
  | mk (h' : Heap) (tk i : Nat) (ys : List Value) (m' : Str → Option Value) (news' : Led) (a1 : s' = { s₂ with heap := h', toks := tk }) (a2 : i ≤ its.size) (a3 : k = its.size + 1 - i) (a4 : ys.length = i) (a5 : ∃ old, IsEnum h' e it (i : Int) old) (a6 : h'.IsListIter it l i) (a7 : Fr h₀ L h' m) (a8 : h'.Ns C m')
    (a9 : News h₀ L h' ((D, lst ys) :: news')) (a10 : Off4 e it C D news') (a11 : Inv i ys news') : StE h₀ L m its Inv s₂ e it l C D k s'
theorem block_E {elt iter : Expr} {x x₂ : Str} {px px₂ tp : Pos} {tk} {scope : Scope} {cl : List (Str × Addr)} {pos : Pos} {s₂ : Shared} {e it l : Addr} {its : Array Value} {news : Led} {Fin : List Value → Led → Prop} {RR : Value → Addr → Result → Shared → Prop}
    (hsz : its.size ≤ sizeLine) (hcell : ∀ y ∈ scope.names, y.2 ≠ .cell) (hkind : scope.kind = .function) (hx : scope.names.lookup x = some .local) (hx₂ : scope.names.lookup x₂ = some .local) (hxx : x ≠ x₂) (hh : A.handled = none)
    (he : ∃ old, IsEnum s₂.heap e it 0 old) (hit : s₂.heap.IsListIter it l 0) (F : Fr h₀ L s₂.heap m) (N : News h₀ L s₂.heap news) (hei : e ≠ it) (hle : l ≠ e) (hli : l ≠ it) (hLe : L ≠ e) (hLi : L ≠ it) (he0 : h₀.get? e = none) (hi0 : h₀.get? it = none)
    (off : ∀ p ∈ news, p.1 ≠ e ∧ p.1 ≠ it) (R : TurnsE prog w A h₀ L m env elt x x₂ scope cl s₂ l its news Fin)
    (hRR : ∀ D C h tk m' ys news', Fr h₀ L h m → News h₀ L h ((D, lst ys) :: news') → Off1 D news' → h.Ns C m' → h₀.get? C = none → h₀.get? D = none → C ≠ L → D ≠ L → C ≠ D → (∀ p ∈ news', p.1 ≠ C) → Fin ys news' → RR (.ref D) C (.ok .next) { s₂ with heap := h, toks := tk }) :
    wpAny (model prog w) A (newList []) (fun acc s₃ => wpAny (model prog w) A (newFunctionEnv scope env.globals cl [] env.qual none .none (some env)) (fun cenv s₄ =>
      codeAny (model prog w) A (.compStart (.ListComp elt [⟨.Tuple [.Name x px, .Name x₂ px₂] tk tp, iter, [], 0⟩] scope pos) 0 (.ref e) acc { cenv with scope := relabel scope env }) (RR acc cenv.locals) s₄) E s₃) E s₂ := by
  obtain ⟨Inv, nl, hI0, hIl, turn, hfin⟩ := R.ex
  have W := WalksT.enumerate (prog := prog) (w := w) (A := A) hh e it l hei hle hli its
  refine wpAny_newObj_type (wpAny_newFunctionEnv hcell (by intro y hy; simp at hy) (fun h₁ hns₁ hsb₁ => ?_) hkind)
  dsimp only at hns₁ hsb₁ ⊢
  generalize hH2 : s₂.heap.push { cls := .type "list", dict := none, data := .seq ([] : List Value).toArray } = H2 at hns₁ hsb₁ ⊢
  have hC : H2.objs.size = s₂.heap.objs.size + 1 := by rw [← hH2, Heap.size_push]
  have hDC : s₂.heap.objs.size ≠ H2.objs.size := by rw [hC]; exact Nat.ne_of_lt (Nat.lt_succ_self _)
  have below : ∀ b, b < s₂.heap.objs.size → b ≠ H2.objs.size ∧ b ≠ s₂.heap.objs.size := fun b hb => ⟨by rw [hC]; exact Nat.ne_of_lt (Nat.lt_succ_of_lt hb), Nat.ne_of_lt hb⟩
  have helt : e < s₂.heap.objs.size := by obtain ⟨_, q⟩ := he; exact Heap.lt_size q
  have hilt : it < s₂.heap.objs.size := by obtain ⟨_, q, _⟩ := hit; exact Heap.lt_size q
  have old : ∀ b o, s₂.heap.get? b = some o → h₁.get? b = some o := fun b o q => hsb₁.extBut b o (below b (Heap.lt_size q)).1 (Heap.get?_push_of_some _ (hH2 ▸ Heap.get?_push_of_some _ q))
  have hacc : h₁.get? s₂.heap.objs.size = some (lst []) := hsb₁.extBut _ _ hDC (Heap.get?_push_of_some _ (hH2 ▸ Heap.get?_push_size _ rfl))
  have fresh : ∀ a, s₂.heap.objs.size ≤ a → s₂.heap.get? a = none := fun a ha => by
    cases q : s₂.heap.get? a with
    | none => rfl
    | some o' => exact absurd (Heap.lt_size q) (Nat.not_lt.mpr ha)
  have fresh₀ : ∀ a, s₂.heap.objs.size ≤ a → h₀.get? a = none := fun a ha => by
    cases q : h₀.get? a with
    | none => rfl
    | some o' => have := F.keep a o' q; rw [fresh a ha] at this; cases this
  have hD₀ : h₀.get? s₂.heap.objs.size = none := fresh₀ _ (Nat.le_refl _)
  have hC₀ : h₀.get? H2.objs.size = none := fresh₀ _ (by rw [hC]; exact Nat.le_succ _)
  have hLlt : L < s₂.heap.objs.size := F.ns.lt
  have hDL : s₂.heap.objs.size ≠ L := Ne.symm (below L hLlt).2
  have hCL : H2.objs.size ≠ L := Ne.symm (below L hLlt).1
  have off₀ : Off4 e it H2.objs.size s₂.heap.objs.size news := fun p hp => ⟨(off p hp).1, (off p hp).2, (below _ (Heap.lt_size (N p hp).1)).1, (below _ (Heap.lt_size (N p hp).1)).2⟩
  have loop : ∀ s₃ : Shared, s₃ = { s₂ with heap := h₁, toks := s₂.toks + ([] : List (Str × Value)).length } →
      codeAny (model prog w) A (.compLoop (.ListComp elt [⟨.Tuple [.Name x px, .Name x₂ px₂] tk tp, iter, [], 0⟩] scope pos) 0 (.ref e) (.ref s₂.heap.objs.size) (compEnvC scope cl H2.objs.size env))
        (RR (.ref s₂.heap.objs.size) H2.objs.size) s₃ := by
    rintro s₃ rfl
    refine codeAny_compLoop_pair
      (StE h₀ L m its Inv s₂ e it l H2.objs.size s₂.heap.objs.size) ?_ (its.size + 1)
      ⟨h₁, _, 0, [], _, news, rfl, Nat.zero_le _, rfl, rfl, (let ⟨o, q⟩ := he; ⟨o, old _ _ q⟩), hit.at fun o q => old it o q, F.keeps old, hns₁, fun p hp => ?_, off₀, hI0⟩
    · rintro k s' ⟨h', tk, i, ys, m', news', rfl, hi, rfl, hyl, he', hit', F', hn', N', off', hInv⟩
      have hl' : h'.IsList l its := ⟨_, (N' _ (.tail _ (hIl _ _ _ hInv))).1, rfl, _, rfl⟩
      have off2 : ∀ p ∈ (s₂.heap.objs.size, lst ys) :: news', p.1 ≠ e ∧ p.1 ≠ it := fun p hp => by
        rcases List.mem_cons.mp hp with rfl | hp
        · exact ⟨Ne.symm (below e helt).2, Ne.symm (below it hilt).2⟩
        · exact ⟨(off' p hp).1, (off' p hp).2.1⟩
      by_cases hlt : i < its.size
      · refine W.item i _ _ _ hlt ⟨he', hit', hl'⟩ fun T vals h₂ tk₂ hPt hTge hT hM hk₂ => ?_
        obtain ⟨t, v, hv, rfl⟩ := hPt
        have N₂ : News h₀ L h₂ ((s₂.heap.objs.size, lst ys) :: news') := newsBut2 N' hk₂ off2
        have F₂ : Fr h₀ L h₂ m := but2 F' hk₂ hLe hLi he0 hi0
        have hn₂ : h₂.Ns H2.objs.size m' := hn'.at' fun o q => hk₂ _ o (by simp [Ne.symm (below e helt).1, Ne.symm (below it hilt).1]) q
        have hTw : T ∉ [e, it] := W.apart _ _ _ hM
        refine W.go _ _ _ i T _ _ _ hM fun h₃ hst₃ hk₃ => ?_
        have hT₃ : h₃.IsTuple T #[.int (i : Int) t, v] := hT.at fun o q => hk₃ T o hTw q
        have N₃ : News h₀ L h₃ ((s₂.heap.objs.size, lst ys) :: news') := newsBut2 N₂ hk₃ off2
        have F₃ : Fr h₀ L h₃ m := but2 F₂ hk₃ hLe hLi he0 hi0
        have hn₃ : h₃.Ns H2.objs.size m' := hn₂.at' fun o q => hk₃ _ o (by simp [Ne.symm (below e helt).1, Ne.symm (below it hilt).1]) q
        have ht : IsTup h₃ T #[.int (i : Int) t, v] := hT₃
        refine assign_Tuple_tuple hh ht rfl rfl fun h₅ he5 => ?_
        have k5 : ∀ b o, h₃.get? b = some o → h₅.get? b = some o := fun b o q => he5 b o (Nat.ne_of_lt (Heap.lt_size q)) q
        refine assignInOrder_cons (wpAny_assign_Name (wpAny_storeName_local (lookup_relabel_local hx) (hn₃.at' fun o q => k5 _ o q) (fun h₆ hn₆ hs₆ => ?_) (by simp [compEnvC, relabel, hkind])))
        refine assignInOrder_cons (wpAny_assign_Name (wpAny_storeName_local (lookup_relabel_local hx₂) hn₆ (fun h₇ hn₇ hs₇ => ?_) (by simp [compEnvC, relabel, hkind])))
        refine assignInOrder_nil ?_
        have k7 : ∀ b o, b ≠ H2.objs.size → h₃.get? b = some o → h₇.get? b = some o := fun b o hb q => hs₇.extBut b o hb (hs₆.extBut b o hb (k5 b o q))
        obtain ⟨⟨oldE, hE3⟩, hJ3, hL3⟩ := hst₃
        have hE7 := k7 _ _ (below e helt).1 hE3
        have hJ7 : h₇.IsListIter it l (i + 1) := hJ3.at fun o q => k7 it o (below it hilt).1 q
        obtain ⟨oJ, hoJ, hcJ, hdJ⟩ := hJ7
        obtain ⟨oC, heC, hoC⟩ := ns_obj hn₇
        have F₇ : Fr h₀ L h₇ m := ((F₃.keeps k5).change hs₆ hCL hC₀).change hs₇ hCL hC₀
        have N₇ : News h₀ L h₇ ((e, _) :: (it, oJ) :: (H2.objs.size, oC) :: (s₂.heap.objs.size, lst ys) :: news') := fun p hp => by
          rcases List.mem_cons.mp hp with rfl | hp
          · exact ⟨hE7, Ne.symm hLe, he0⟩
          rcases List.mem_cons.mp hp with rfl | hp
          · exact ⟨hoJ, Ne.symm hLi, hi0⟩
          rcases List.mem_cons.mp hp with rfl | hp
          · exact ⟨heC, hCL, hC₀⟩
          · have z := N₃ p hp
            refine ⟨k7 _ _ ?_ z.1, z.2⟩
            rcases List.mem_cons.mp hp with rfl | hp
            · exact hDC
            · exact (off' p hp).2.2.1
        refine wpAny_mono (turn i ys news' v t e it _ oJ H2.objs.size oC s₂.heap.objs.size _ h₇ _ _ hv hInv hoC (by simp [hxx]) (by simp) F₇ N₇ off') (fun y s₄ h₄ => ?_) fun _ _ q => q
        obtain ⟨h₄, tk₄, news₄, rfl, F₄, N₄, off₄, hInv₄⟩ := h₄
        have zE := (N₄ _ (.head _)).1
        have zJ := (N₄ (it, oJ) (.tail _ (.head _))).1
        have zC := (N₄ (H2.objs.size, oC) (.tail _ (.tail _ (.head _)))).1
        have zD := (N₄ (s₂.heap.objs.size, lst ys) (.tail _ (.tail _ (.tail _ (.head _))))).1
        refine append_at (hsz := by show ys.toArray.size ≤ sizeLine; rw [List.size_toArray, hyl]; exact Nat.le_trans hi hsz) zD fun h₅ hs₅ hD₅ => ?_
        refine ⟨its.size + 1 - (i + 1), by omega, h₅, tk₄, i + 1, ys ++ [y], _, news₄, rfl, hlt, rfl, by rw [List.length_append, List.length_singleton, hyl],
          ⟨oldE, ?_⟩, ⟨oJ, hs₅.extBut _ _ (below it hilt).2 zJ, hcJ, hdJ⟩, F₄.change hs₅ hDL hD₀, (hoC.ns zC).sameBut hs₅ (Ne.symm hDC), fun p hp => ?_, off₄, hInv₄⟩
        · have q := hs₅.extBut _ _ (below e helt).2 zE
          simpa using q
        · rcases List.mem_cons.mp hp with rfl | hp
          · exact ⟨hD₅.trans (congrArg some (lst_snoc ys y)), hDL, hD₀⟩
          · have z := N₄ p (.tail _ (.tail _ (.tail _ (.tail _ hp))))
            exact ⟨hs₅.extBut _ _ (off₄ p hp).2.2.2 z.1, z.2⟩
      · obtain rfl : i = its.size := Nat.le_antisymm hi (Nat.not_lt.mp hlt)
        refine W.done _ _ _ ⟨he', hit', hl'⟩ fun h₂ tk₂ hk₂ => ?_
        exact hRR _ _ h₂ tk₂ _ ys news' (but2 F' hk₂ hLe hLi he0 hi0) (newsBut2 N' hk₂ off2) (off1_of fun p hp => (off' p hp).2.2.2) (hn'.at' fun o q => hk₂ _ o (by simp [Ne.symm (below e helt).1, Ne.symm (below it hilt).1]) q) hC₀ hD₀ hCL hDL (Ne.symm hDC) (fun p hp => (off' p hp).2.2.1) (hfin _ _ hInv)
    · rcases List.mem_cons.mp hp with rfl | hp
      · exact ⟨hacc, hDL, hD₀⟩
      · exact ⟨old _ _ (N p hp).1, (N p hp).2⟩
  have hl1 : h₁.IsList l its := ⟨_, old _ _ (N _ (hIl _ _ _ hI0)).1, rfl, _, rfl⟩
  exact codeAny_compStart_list (loop _ rfl) (W.self 0 _ _ _ ⟨(let ⟨o, q⟩ := he; ⟨o, old _ _ q⟩), hit.at fun o q => old it o q, hl1⟩ (loop _ rfl))

inductive SrcE (prog : Program) (w : World) (A : Around) (h₀ : Heap) (L : Addr) (m : Str → Option Value) (env : Env) (elt : Expr) (x x₂ : Str) (scope : Scope) (cl : List (Str × Addr)) (Fin : Shared → List Value → Led → Prop) (xv : Value) (s₁ : Shared) : Prop
  | mk (e it l : Addr) (its : Array Value) (news : Led) (a1 : xv = .ref e) (a2 : A.handled = none) (a3 : its.size ≤ sizeLine) (a4 : ∃ old, IsEnum s₁.heap e it 0 old) (a5 : s₁.heap.IsListIter it l 0) (a6 : Fr h₀ L s₁.heap m) (a7 : News h₀ L s₁.heap news) (a8 : e ≠ it) (a9 : l ≠ e) (b1 : l ≠ it) (b2 : L ≠ e) (b3 : L ≠ it)
    (b4 : h₀.get? e = none) (b5 : h₀.get? it = none) (b6 : ∀ p ∈ news, p.1 ≠ e ∧ p.1 ≠ it) (b7 : TurnsE prog w A h₀ L m env elt x x₂ scope cl s₁ l its news (Fin s₁)) : SrcE prog w A h₀ L m env elt x x₂ scope cl Fin xv s₁
theorem SrcE.intro {elt : Expr} {x x₂ : Str} {scope : Scope} {cl : List (Str × Addr)} {Fin : Shared → List Value → Led → Prop} {l : Addr} {its : Array Value} {nl : Nat} {news : Led} (hh : A.handled = none) (F : Fr h₀ L s.heap m) (N : News h₀ L s.heap news) (hm : (l, listOf its nl) ∈ news) (hsz : its.size ≤ sizeLine)
    (h : ∀ g, TurnsE prog w A h₀ L m env elt x x₂ scope cl { s with heap := g } l its news (Fin { s with heap := g })) :
    wpAny (model prog w) A (call (.type "enumerate") [.ref l]) (SrcE prog w A h₀ L m env elt x x₂ scope cl Fin) E s := by
  have hl : s.heap.IsList l its := ⟨_, (N _ hm).1, rfl, _, rfl⟩
  have hlt : l < s.heap.objs.size := Heap.lt_size (N _ hm).1
  have fresh₀ : ∀ a, s.heap.objs.size ≤ a → h₀.get? a = none := fun a ha => by
    cases q : h₀.get? a with
    | none => rfl
    | some o' => have := Heap.lt_size (F.keep a o' q); exact absurd this (Nat.not_lt.mpr ha)
  refine call_enumerate_list hl fun h' hE hI hz hk => ?_
  exact ⟨_, _, l, its, news, rfl, hh, hsz, ⟨_, hE⟩, hI, F.keeps hk, N.grown hk, Nat.succ_ne_self _, Nat.ne_of_lt (Nat.lt_succ_of_lt hlt), Nat.ne_of_lt hlt, Nat.ne_of_lt (Nat.lt_succ_of_lt F.ns.lt), Nat.ne_of_lt F.ns.lt, fresh₀ _ (Nat.le_succ _), fresh₀ _ (Nat.le_refl _),
    fun p hp => ⟨Nat.ne_of_lt (Nat.lt_succ_of_lt (Heap.lt_size (N p hp).1)), Nat.ne_of_lt (Heap.lt_size (N p hp).1)⟩, h h'⟩

theorem Assign_ListComp_E {elt iter : Expr} {x x₂ y : Str} {px px₂ tp py : Pos} {tk} {scope : Scope} {cl : List (Str × Addr)} {pos spos : Pos} {Q : Flow → Shared → Prop} {hx₀ : Heap} (F₀ : Fr h₀ L hx₀ m) (hLe : env.locals = L)
    (hsw : swapsWith (.ListComp elt [⟨.Tuple [.Name x px, .Name x₂ px₂] tk tp, iter, [], 0⟩] scope pos) (some (.Name y py)) spos.line env = pure true)
    (hclos : closureFor scope env = pure cl) (hcell : ∀ z ∈ scope.names, z.2 ≠ .cell) (hkind : scope.kind = .function)
    (hnames : ∀ z ∈ scope.names, z.2 = .local → scope.names.lookup z.1 = some .local) (hx : scope.names.lookup x = some .local) (hx₂ : scope.names.lookup x₂ = some .local) (hxx : x ≠ x₂)
    (hy : env.kindOf y = some .local) (hp : (env.scope.kind == .class || (env.scope.kind == .module && env.locals != env.globals)) = false)
    (h : wpAny (model prog w) A (eval iter env) (SrcE prog w A h₀ L m env elt x x₂ scope cl (fun s₂ => FinA h₀ L m s₂ y Q)) E s)
    (hs : ∀ x, foldedSetIterable iter env x = pure x := by intro _; rfl) :
    wpAny (model prog w) A (exec (.Assign [.Name y py] (.ListComp elt [⟨.Tuple [.Name x px, .Name x₂ px₂] tk tp, iter, [], 0⟩] scope pos) spos) env) Q E s := by
  subst hLe
  rw [exec_Assign_Name_used _ _ _ _ hsw]
  refine wpAny_bind (wpAny_standAt (wpAny_bind ?_))
  show wpAny _ A (do let _ ← comprehension (.ListComp elt [⟨.Tuple [.Name x px, .Name x₂ px₂] tk tp, iter, [], 0⟩] scope pos) scope env _ (newList []) false (eval iter env) (some (assign (.Name y py) env))) _ _ s
  refine wpAny_bind (wpAny_mono (wpAny_comprehension_free (use := some (assign (.Name y py) env)) (Q := fun _ s' => Q .next s') rfl hs hclos hkind hnames
    (wpAny_mono h (fun xv s₁ h₁ => ?_) fun _ _ e => e)) (fun _ s' hq => wpAny_pure (wpAny_pure hq)) fun _ _ e => e)
  obtain ⟨e, it, l, its, news, rfl, hh, hsz, he, hit, F, N, hei, hle, hli, hLe, hLi, he0, hi0, off, R⟩ := h₁
  obtain ⟨old, heo⟩ := he
  refine wpAny_pyIter_enum heo ?_
  refine block_E hsz hcell hkind hx hx₂ hxx hh ⟨old, heo⟩ hit F N hei hle hli hLe hLi he0 hi0 off R ?_
  intro D C h' tk m' ys news' F' N' o1 hn hC₀ hD₀ hCL hDL hCD offC fin
  show wpAny _ A (assign (.Name y py) env (.ref D)) _ _ _
  refine wpAny_assign_Name (wpAny_storeName_local hy F'.ns (fun h₂ hn₂ hs₂ => ?_) hp)
  have hL₀ : h₀.get? env.locals = none := Heap.get?_none_of_le F'.above
  have F₂ : Fr h₀ env.locals h₂ (fun z => if z = y then some (.ref D) else m z) := ⟨hn₂, fun b o e => hs₂.extBut b o (fun q => by rw [q, hL₀] at e; cases e) (F'.keep b o e), F'.above⟩
  refine ⟨m', hn.sameBut hs₂ hCL, fun h'' hs'' => fin D h'' _ (F₂.change hs'' hCL hC₀) (fun p hp => ?_) o1⟩
  have z : h₂.get? p.1 = some p.2 := hs₂.extBut _ _ (N' p hp).2.1 (N' p hp).1
  refine ⟨hs''.extBut _ _ ?_ z, (N' p hp).2⟩
  rcases List.mem_cons.mp hp with rfl | hp
  · exact Ne.symm hCD
  · exact offC p hp
end
end
section
open PySem PySem.W PyProof.Rows PySem.Spec PySem.Calls
open PyProof.Rows.LCg PyProof.Rows.LCp
set_option maxRecDepth 100000
set_option maxHeartbeats 2000000
section
variable {prog : Program} {w : World} {A : Around} {E : Value → Shared → Prop} {s : Shared} {h₀ : Heap} {L : Addr} {m : Str → Option Value} {env : Env} {news : Led}
/-- the sum of a list of ints -/
theorem sumK {l : Addr} {k : Nat} {vs : List Value} {ns : List Int} {Q : Value → Shared → Prop} (hh : A.handled = none) (F : Fr h₀ L s.heap m) (N : News h₀ L s.heap news) (hm : (l, listOf vs.toArray k) ∈ news) (hi : IntsAre vs ns)
    (h : ∀ h' tk t', Fr h₀ L h' m → News h₀ L h' news → Q (.int ns.sum t') { s with heap := h', toks := tk }) :
    wpAny (model prog w) A (call (.builtin "sum") [.ref l]) Q E s := by
  have hl : s.heap.IsList l vs.toArray := ⟨_, (N _ hm).1, rfl, _, rfl⟩
  obtain ⟨xs, hx⟩ := hi.allInts.items
  have hn : numsOf vs.toArray.toList = ns := by rw [show vs.toArray.toList = vs from rfl, hi.numsOf]
  rw [hx] at hl hn
  rw [nums_intItems] at hn
  refine sum_intListG hh hl fun h' tk t' hk => ?_
  have := h h' tk t' (F.keeps hk) (N.grown hk)
  rw [preSum_eq, List.take_of_length_le (by simp), hn]
  exact this
end
theorem picks_ints {vs : List Value} {ns : List Int} (hi : IntsAre vs ns) : ∀ is : List Nat, ∃ ms, IntsAre (is.filterMap (vs[·]?)) ms ∧ ∀ z ∈ ms, z ∈ ns
  | [] => ⟨[], .nil, by simp⟩
  | i :: is => by
    obtain ⟨ms, h1, h2⟩ := picks_ints hi is
    by_cases h : i < vs.length
    · have hn : i < ns.length := hi.length ▸ h
      obtain ⟨t, e⟩ := hi.get i ns[i] (List.getElem?_eq_getElem hn)
      refine ⟨ns[i] :: ms, ?_, ?_⟩
      · rw [List.filterMap_cons, e]
        exact .cons _ _ h1
      · intro z hz
        rcases List.mem_cons.mp hz with rfl | hz
        · exact List.getElem_mem _
        · exact h2 z hz
    · refine ⟨ms, ?_, h2⟩
      rw [List.filterMap_cons, List.getElem?_eq_none (by omega)]
      exact h1
theorem pick_ints {vs : List Value} {ns : List Int} (hi : IntsAre vs ns) (lo up st : Option Int) : ∃ ms, IntsAre (slicePick vs.toArray lo up st).toList ms ∧ (∀ z ∈ ms, z ∈ ns) ∧ ms.length ≤ ns.length := by
  have hs := slicePick_size_le vs.toArray lo up st
  have e : (slicePick vs.toArray lo up st).toList = (sliceRange (sliceBounds lo up st vs.toArray.size).1 (sliceBounds lo up st vs.toArray.size).2.1 (sliceBounds lo up st vs.toArray.size).2.2).filterMap (vs[·]?) := by
    unfold slicePick
    simp
  obtain ⟨ms, h1, h2⟩ := picks_ints hi (sliceRange (sliceBounds lo up st vs.toArray.size).1 (sliceBounds lo up st vs.toArray.size).2.1 (sliceBounds lo up st vs.toArray.size).2.2)
  refine ⟨ms, e ▸ h1, h2, ?_⟩
  rw [← e] at h1
  have := h1.length
  rw [Array.length_toList] at this
  rw [← this, ← hi.length]
  simpa using hs
theorem sum_bds {B : Int} : ∀ {ms : List Int}, (∀ z ∈ ms, 0 ≤ z ∧ z ≤ B) → 0 ≤ ms.sum ∧ ms.sum ≤ ms.length * B
  | [], _ => by simp
  | z :: ms, h => by
    have h1 := sum_bds (ms := ms) fun y hy => h y (List.mem_cons_of_mem _ hy)
    have h2 := h z List.mem_cons_self
    rw [List.sum_cons, List.length_cons]
    have e : (((ms.length + 1 : Nat)) : Int) * B = (ms.length : Int) * B + B := by
      rw [Int.natCast_add, Int.add_mul]
      simp
    rw [e]
    omega
/-- the tuples that the law's operators are -/
inductive OpsIn (l : Led) : List Value → List Int → Prop
  | nil : OpsIn l [] []
  | cons (r : Addr) (z : Int) (t t' : Tok) {vs : List Value} {zs : List Int} : (r, tupSI (opAt z).1 (opAt z).2 t t') ∈ l → OpsIn l vs zs → OpsIn l (.ref r :: vs) (z :: zs)
theorem OpsIn.mono {l l' : Led} (hs : ∀ p ∈ l, p ∈ l') : ∀ {vs : List Value} {zs : List Int}, OpsIn l vs zs → OpsIn l' vs zs
  | _, _, .nil => .nil
  | _, _, .cons r z t t' h1 h2 => .cons r z t t' (hs _ h1) (h2.mono hs)
theorem OpsIn.length {l : Led} : ∀ {vs : List Value} {zs : List Int}, OpsIn l vs zs → vs.length = zs.length
  | _, _, .nil => rfl
  | _, _, .cons _ _ _ _ _ h2 => congrArg (· + 1) h2.length
theorem OpsIn.snoc {l : Led} {r : Addr} {z : Int} {t t' : Tok} (hr : (r, tupSI (opAt z).1 (opAt z).2 t t') ∈ l) : ∀ {vs : List Value} {zs : List Int}, OpsIn l vs zs → OpsIn l (vs ++ [.ref r]) (zs ++ [z])
  | _, _, .nil => .cons r z t t' hr .nil
  | _, _, .cons r' z' u u' h1 h2 => .cons r' z' u u' h1 (h2.snoc hr)
theorem OpsIn.at {l : Led} : ∀ {vs : List Value} {zs : List Int}, OpsIn l vs zs → ∀ {i : Nat} {v : Value}, vs[i]? = some v → ∃ r z t t', v = .ref r ∧ zs[i]? = some z ∧ (r, tupSI (opAt z).1 (opAt z).2 t t') ∈ l
  | _, _, .nil, i, v, h => by simp at h
  | _, _, .cons r z t t' h1 h2, i, v, h => by
    cases i with
    | zero =>
      rw [List.getElem?_cons_zero] at h
      cases h
      exact ⟨r, z, t, t', rfl, rfl, h1⟩
    | succ i =>
      rw [List.getElem?_cons_succ] at h
      obtain ⟨r', z', u, u', e1, e2, e3⟩ := h2.at h
      exact ⟨r', z', u, u', e1, by rw [List.getElem?_cons_succ]; exact e2, e3⟩
theorem ne_of_allGt {l : Led} {D d : Addr} (h : ∀ p ∈ l, @LT.lt Nat _ D p.1) (hd : @LE.le Nat _ d D) : ∀ p ∈ l, p.1 ≠ d := fun p hp => Nat.ne_of_gt (Nat.lt_of_le_of_lt hd (h p hp))
/-- two places that differ, hidden from omega -/
noncomputable def NeA (a b : Nat) : Prop := a ≠ b
theorem NeA.l {a b : Nat} (h : NeA a b) : a ≠ b := h
theorem NeA.r {a b : Nat} (h : NeA b a) : a ≠ b := Ne.symm h
theorem take_snoc {α : Type} {l : List α} {i : Nat} {a : α} (h : l[i]? = some a) : l.take (i + 1) = l.take i ++ [a] := by
  rw [List.take_add_one, h]
  rfl

section
variable {prog : Program} {w : World} {A : Around} {h₀ : Heap} {L : Addr} {m : Str → Option Value} {env : Env} {elt : Expr} {x x₂ : Str} {scope : Scope} {cl : List (Str × Addr)} {s : Shared} {S : List (Addr × Obj) → Prop} {P : Nat → Value → Prop} {Fin : List Value → List (Addr × Obj) → Prop} {news : List (Addr × Obj)}
/-- a comprehension over tuples of two, by an invariant -/
theorem restP_ind {n : Nat} (Inv : Nat → List Value → List (Addr × Obj) → Prop) (start : Inv 0 [] news)
    (turn : ∀ i ys nw v, i < n → Inv i ys nw → P i v → ∃ (t : Addr) (ot : Obj) (v₁ v₂ : Value) (nt : Nat), v = .ref t ∧ (t, ot) ∈ nw ∧ ot.cls = .type "tuple" ∧ ot.data = .seq #[v₁, v₂] nt ∧
      ∀ I oI C oC D m₂ h tk (E' : Value → Shared → Prop), LCg.NsObj oC m₂ → m₂ x = some v₁ → m₂ x₂ = some v₂ → Fr h₀ L h m → News h₀ L h ((I, oI) :: (C, oC) :: (D, LCg.lst ys) :: nw) → LCg.Off3 I C D nw → ((@Ne Nat I C) ∧ (@Ne Nat I D) ∧ (@Ne Nat C D)) →
      wpAny (model prog w) A (eval elt (compEnvC scope cl C env)) (LCg.CompEnd h₀ L m { s with heap := h, toks := tk } I oI C oC D (LCg.lst ys) S (fun y nw' => Inv (i + 1) (ys ++ [y]) nw')) E' { s with heap := h, toks := tk })
    (fin : ∀ ys nw, Inv n ys nw → Fin ys nw) : LCp.CompRestP prog w A h₀ L m env elt x x₂ scope cl s S P Fin n 0 [] news := by
  have key : ∀ (j i : Nat) (ys : List Value) (nw : List (Addr × Obj)), i + j = n → Inv i ys nw → LCp.CompRestP prog w A h₀ L m env elt x x₂ scope cl s S P Fin j i ys nw := by
    intro j
    induction j with
    | zero =>
      intro i ys nw hi hv
      obtain rfl : i = n := by omega
      exact LCp.CompRestP.zero (fin ys nw hv)
    | succ j ih =>
      intro i ys nw hi hinv
      refine LCp.CompRestP.succ fun v hv => ?_
      obtain ⟨t, ot, v₁, v₂, nt, e, hm, hc, hd, turn'⟩ := turn i ys nw v (by omega) hinv hv
      refine ⟨t, ot, v₁, v₂, nt, e, hm, hc, hd, fun I oI C oC D m₂ h tk E' hC hx hx₂ F N off ne => ?_⟩
      refine wpAny_mono (turn' I oI C oC D m₂ h tk E' hC hx hx₂ F N off ne) (fun y s₂ hq => ?_) fun _ _ e => e
      obtain ⟨h', tk', nw', e, F', N', off', hS, hI⟩ := hq
      exact ⟨h', tk', nw', e, F', N', off', hS, ih (i + 1) _ _ (by omega) hI⟩
  exact key n 0 [] news (by omega) start
end
end
section
open PySem PySem.W PyProof.Rows
/-- a piece on the row: a sign's number, or n letters from lo on -/
inductive Pc
  | sign (z : Nat)
  | word (lo n : Nat)
noncomputable def letS (lo n : Nat) : Str := ⟨((List.range n).map fun k => 97 + lo + k).toArray⟩
noncomputable def pcS : Pc → Str × Str
  | .sign z => (⟨#[z]⟩, Str.ofString "")
  | .word lo n => (Str.ofString "", letS lo n)
structure RS where
  k : List Pc
  st : List (List Int)
  wo : List Int
  ki : List Int
noncomputable def readStep (S : RS) (z : Int) : Option RS :=
  if 256 ≤ z then (if z < 262 then some { S with k := S.k ++ [.word (z - 256).toNat 1] } else none)
  else if z ≠ 8 then (if 0 ≤ z then some { S with k := S.k ++ [.sign z.toNat] } else none)
  else match S.k.reverse with
    | .word lo2 n2 :: .sign z' :: .word lo1 n1 :: p0 :: rest =>
      if 1 ≤ n1 ∧ 1 ≤ n2 ∧ lo1 + n1 = lo2 ∧ lo2 + n2 ≤ 6 then
        some { k := rest.reverse ++ [.word lo1 (n1 + n2)], st := S.st.set (lo1 + n1 - 1) (rngI lo1 (lo2 + n2 - 1)), wo := S.wo.set (lo1 + n1 - 1) ((n1 * n2 : Nat) : Int), ki := S.ki.set (lo1 + n1 - 1) (z' : Int) }
      else none
    | _ => none
noncomputable def readAll (S : RS) : List Int → Option RS
  | [] => some S
  | z :: zs => (readStep S z).bind fun S' => readAll S' zs
theorem readAll_append (S : RS) : ∀ (xs ys : List Int), readAll S (xs ++ ys) = (readAll S xs).bind fun S' => readAll S' ys := by
  intro xs
  induction xs generalizing S with
  | nil => intro ys; rfl
  | cons z zs ih =>
    intro ys
    show (readStep S z).bind _ = ((readStep S z).bind _).bind _
    cases readStep S z with
    | none => rfl
    | some S' => exact ih S' ys
theorem readAll_take {S S' : RS} {zs : List Int} {i : Nat} {z : Int} (h : readAll S zs = some S') (hz : zs[i]? = some z) {T : RS} (hT : readAll S (zs.take i) = some T) : ∃ T', readStep T z = some T' ∧ readAll S (zs.take (i + 1)) = some T' := by
  have hi : i < zs.length := by
    rcases Nat.lt_or_ge i zs.length with q | q
    · exact q
    · rw [List.getElem?_eq_none q] at hz; cases hz
  have e1 : zs.take (i + 1) = zs.take i ++ [z] := by
    rw [List.take_succ, hz]; rfl
  have e2 : zs = zs.take (i + 1) ++ zs.drop (i + 1) := (List.take_append_drop _ _).symm
  rw [e2, readAll_append] at h
  cases hc : readAll S (zs.take (i + 1)) with
  | none => rw [hc] at h; cases h
  | some T' =>
    refine ⟨T', ?_, rfl⟩
    rw [e1, readAll_append, hT] at hc
    simpa [readAll] using hc
/-- the pieces lie in the ledger -/
inductive PcsIn (news : Led) : List Value → List Pc → Prop
  | nil : PcsIn news [] []
  | cons (a : Addr) (t1 t2 : Tok) (p : Pc) {vs : List Value} {ps : List Pc} : (a, tupObj #[.str (pcS p).1 t1, .str (pcS p).2 t2] 0) ∈ news → PcsIn news vs ps → PcsIn news (.ref a :: vs) (p :: ps)
theorem PcsIn.mono {l l' : Led} (hs : ∀ p ∈ l, p ∈ l') : ∀ {vs : List Value} {ps : List Pc}, PcsIn l vs ps → PcsIn l' vs ps
  | _, _, .nil => .nil
  | _, _, .cons a t1 t2 p h1 h2 => .cons a t1 t2 p (hs _ h1) (h2.mono hs)
theorem PcsIn.length {l : Led} : ∀ {vs : List Value} {ps : List Pc}, PcsIn l vs ps → vs.length = ps.length
  | _, _, .nil => rfl
  | _, _, .cons a t1 t2 p h1 h2 => congrArg (· + 1) h2.length
theorem PcsIn.append {l : Led} : ∀ {vs us : List Value} {ps qs : List Pc}, PcsIn l vs ps → PcsIn l us qs → PcsIn l (vs ++ us) (ps ++ qs)
  | _, _, _, _, .nil, h => h
  | _, _, _, _, .cons a t1 t2 p h1 h2, h => .cons a t1 t2 p h1 (h2.append h)
theorem PcsIn.split {l : Led} : ∀ {ps qs : List Pc} {vs : List Value}, PcsIn l vs (ps ++ qs) → ∃ us ws, vs = us ++ ws ∧ PcsIn l us ps ∧ PcsIn l ws qs
  | [], _, vs, h => ⟨[], vs, rfl, .nil, h⟩
  | p :: ps, qs, _, .cons a t1 t2 _ h1 h2 => by
    obtain ⟨us, ws, e, hu, hw⟩ := h2.split
    exact ⟨.ref a :: us, ws, by rw [e]; rfl, .cons a t1 t2 p h1 hu, hw⟩
/-- five names of a frame -/
noncomputable abbrev upd5 (S1 S2 S3 S4 S5 : Str) (a b c d e : Option Value) (m : Str → Option Value) : Str → Option Value := fun y => if y = S1 then a else if y = S2 then b else if y = S3 then c else if y = S4 then d else if y = S5 then e else m y
theorem upd5_self {S1 S2 S3 S4 S5 : Str} {m : Str → Option Value} : m = upd5 S1 S2 S3 S4 S5 (m S1) (m S2) (m S3) (m S4) (m S5) m := by
  funext y
  unfold upd5
  by_cases h1 : y = S1
  · subst h1; simp
  by_cases h2 : y = S2
  · subst h2; simp [h1]
  by_cases h3 : y = S3
  · subst h3; simp [h1, h2]
  by_cases h4 : y = S4
  · subst h4; simp [h1, h2, h3]
  by_cases h5 : y = S5
  · subst h5; simp [h1, h2, h3, h4]
  simp only [h1, h2, h3, h4, h5, if_false]
theorem upd5_1 {S1 S2 S3 S4 S5 : Str} {v a b c d e : Option Value} {m : Str → Option Value} : (fun y => if y = S1 then v else upd5 S1 S2 S3 S4 S5 a b c d e m y) = upd5 S1 S2 S3 S4 S5 v b c d e m := by
  funext y
  unfold upd5
  by_cases h1 : y = S1
  · simp [h1]
  · simp only [h1, if_false]
structure RdOk (P : Params) (news : Led) (dx x0 As Aw Ak : Addr) (k1 t1 : Tok) (S : RS) (vs sts ws ks : List Value) (rest : Led) : Prop where
  pcs : PcsIn rest vs S.k
  rows : RowsIn rest sts S.st
  wo : IntsAre ws S.wo
  ki : IntsAre ks S.ki
  dct : (dx, accDict P k1 t1) ∈ rest
  old : ∀ p ∈ news, p ∈ rest
  l1 : S.st.length = 5
  l2 : S.wo.length = 5
  l3 : S.ki.length = 5
  f1 : ∀ p ∈ rest, p.1 ≠ x0
  f2 : ∀ p ∈ rest, p.1 ≠ As
  f3 : ∀ p ∈ rest, p.1 ≠ Aw
  f4 : ∀ p ∈ rest, p.1 ≠ Ak
noncomputable abbrev S0 : RS := ⟨[], List.replicate 5 [], List.replicate 5 0, List.replicate 5 0⟩
theorem lexF_len : ∀ (f : Nat) (l : List Nat), (lexF f l).length ≤ f
  | 0, _ => Nat.le_refl _
  | f + 1, [] => Nat.zero_le _
  | f + 1, c :: cs => by
    unfold lexF
    split
    · have := lexF_len f ((c :: cs).drop 2); simp only [List.length_cons]; omega
    · split
      · have := lexF_len f cs; simp only [List.length_cons]; omega
      · have := lexF_len f cs; simp only [List.length_cons]; omega
theorem readStep_range {S T : RS} {z : Int} (h : readStep S z = some T) : 0 ≤ z ∧ z < 262 := by
  unfold readStep at h
  split at h
  · split at h
    · omega
    · cases h
  · split at h
    · split at h
      · omega
      · cases h
    · omega
theorem RdOk.push {P : Params} {news : Led} {dx x0 As Aw Ak : Addr} {k1 t1 : Tok} {S : RS} {vs sts ws ks : List Value} {rest : Led} (OK : RdOk P news dx x0 As Aw Ak k1 t1 S vs sts ws ks rest) {D : Addr} {f g : Str} {ta tb : Tok} (p : Pc) (hp : pcS p = (f, g))
    (h1 : D ≠ x0) (h2 : D ≠ As) (h3 : D ≠ Aw) (h4 : D ≠ Ak) : RdOk P news dx x0 As Aw Ak k1 t1 { S with k := S.k ++ [p] } (vs ++ [.ref D]) sts ws ks ((D, tupObj #[.str f ta, .str g tb] 0) :: rest) where
  pcs := (OK.pcs.mono fun q hq => .tail _ hq).append (.cons D ta tb p (by rw [hp]; exact .head _) .nil)
  rows := OK.rows.mono fun q hq => .tail _ hq
  wo := OK.wo
  ki := OK.ki
  dct := .tail _ OK.dct
  old := fun q hq => .tail _ (OK.old q hq)
  l1 := OK.l1
  l2 := OK.l2
  l3 := OK.l3
  f1 := fun q hq => by rcases List.mem_cons.mp hq with h | h; (subst h; exact h1); exact OK.f1 q h
  f2 := fun q hq => by rcases List.mem_cons.mp hq with h | h; (subst h; exact h2); exact OK.f2 q h
  f3 := fun q hq => by rcases List.mem_cons.mp hq with h | h; (subst h; exact h3); exact OK.f3 q h
  f4 := fun q hq => by rcases List.mem_cons.mp hq with h | h; (subst h; exact h4); exact OK.f4 q h
theorem led_front {a b c : Addr × Obj} {l : Led} : ∀ p ∈ c :: a :: b :: l, p ∈ a :: b :: c :: l := by
  intro p hp
  simp only [List.mem_cons] at hp ⊢
  rcases hp with h | h | h | h <;> simp [h]
theorem letS_one (z : Int) (h : 256 ≤ z) : letS (z - 256).toNat 1 = ⟨#[(z - 256 + 97).toNat]⟩ := by
  show (⟨#[97 + (z - 256).toNat + 0]⟩ : Str) = _
  have : 97 + (z - 256).toNat + 0 = (z - 256 + 97).toNat := by omega
  rw [this]
theorem led_back {a b x c d e q : Addr × Obj} {l : Led} : ∀ p ∈ [a, b] ++ (x :: c :: d :: e :: q :: l), p ∈ x :: q :: a :: b :: c :: d :: e :: l := by
  intro p hp
  simp only [List.mem_append, List.mem_cons, List.not_mem_nil, or_false] at hp ⊢
  rcases hp with (h | h) | h | h | h | h | h | h <;> simp [h]
theorem off_back {x c d e q : Addr × Obj} {c' x' : Addr × Obj} {l : Led} {I : Addr} (h : ∀ p ∈ x :: c :: d :: e :: l, p.1 ≠ I) (hx : x'.1 = x.1) (hq : q.1 ≠ I) : ∀ p ∈ x' :: c :: d :: e :: q :: l, p.1 ≠ I := by
  intro p hp
  simp only [List.mem_cons] at hp
  rcases hp with h1 | h1 | h1 | h1 | h1 | h1
  · rw [h1, hx]; exact h _ (.head _)
  · rw [h1]; exact h _ (by simp)
  · rw [h1]; exact h _ (by simp)
  · rw [h1]; exact h _ (by simp)
  · rw [h1]; exact hq
  · exact h _ (by simp [h1])
theorem readStep_close {S T : RS} (h : readStep S 8 = some T) : ∃ (rk : List Pc) (p0 : Pc) (lo1 n1 z' n2 : Nat), S.k = rk ++ [p0, .word lo1 n1, .sign z', .word (lo1 + n1) n2] ∧ 1 ≤ n1 ∧ 1 ≤ n2 ∧ lo1 + n1 + n2 ≤ 6 ∧
    T = { k := rk ++ [.word lo1 (n1 + n2)], st := S.st.set (lo1 + n1 - 1) (rngI lo1 (lo1 + n1 + n2 - 1)), wo := S.wo.set (lo1 + n1 - 1) ((n1 * n2 : Nat) : Int), ki := S.ki.set (lo1 + n1 - 1) (z' : Int) } := by
  unfold readStep at h
  rw [if_neg (by decide), if_neg (by decide)] at h
  split at h
  · rename_i lo2 n2 z' lo1 n1 p0 rest hr
    split at h
    · rename_i hc
      obtain ⟨h1, h2, h3, h4⟩ := hc
      subst h3
      have := congrArg List.reverse hr
      rw [List.reverse_reverse] at this
      refine ⟨rest.reverse, p0, lo1, n1, z', n2, by rw [this]; simp, h1, h2, h4, (Option.some.inj h).symm⟩
    · cases h
  · cases h
theorem PcsIn.four {l : Led} {ws : List Value} {p0 : Pc} {lo1 n1 z' lo2 n2 : Nat} (h : PcsIn l ws [p0, .word lo1 n1, .sign z', .word lo2 n2]) : ∃ b0 b1 b2 b3 t1 t2 t3 t4 t5 t6, ws = [.ref b0, .ref b1, .ref b2, .ref b3] ∧
    (b1, tupObj #[.str (Str.ofString "") t1, .str (letS lo1 n1) t2] 0) ∈ l ∧ (b2, tupObj #[.str ⟨#[z']⟩ t3, .str (Str.ofString "") t4] 0) ∈ l ∧ (b3, tupObj #[.str (Str.ofString "") t5, .str (letS lo2 n2) t6] 0) ∈ l := by
  cases h with
  | cons b0 _ _ _ _ h =>
    cases h with
    | cons b1 t1 t2 _ h1 h =>
      cases h with
      | cons b2 t3 t4 _ h2 h =>
        cases h with
        | cons b3 t5 t6 _ h3 h =>
          cases h
          exact ⟨b0, b1, b2, b3, t1, t2, t3, t4, t5, t6, rfl, h1, h2, h3⟩
theorem four_size (us : List Value) (a b c d : Value) : ((us ++ [a, b, c, d]).toArray.size : Int) - 4 = ((us.length : Nat) : Int) := by
  simp only [List.size_toArray, List.length_append, List.length_cons, List.length_nil]
  omega
theorem four_head (us : List Value) (a b c d : Value) : (us ++ [a, b, c, d]).toArray.extract 0 us.length = us.toArray := by
  apply Array.ext'
  simp
theorem four_tail (us : List Value) (a b c d : Value) : (us ++ [a, b, c, d]).toArray.extract us.length (us ++ [a, b, c, d]).toArray.size = #[a, b, c, d] := by
  apply Array.ext'
  simp
theorem letS_len (lo n : Nat) : (letS lo n).length = n := by
  show ((List.range n).map fun k => 97 + lo + k).toArray.size = n
  simp
theorem letS_at {lo n k : Nat} (h : k < n) : (letS lo n).cps[k]? = some (97 + lo + k) := by
  show ((List.range n).map fun k => 97 + lo + k).toArray[k]? = _
  rw [List.getElem?_toArray, List.getElem?_map, List.getElem?_range h]
  rfl
theorem item_at {x : Str} {i : Int} {p c : Nat} (hi : seqIndex? i x.length = some p) (hc : x.cps[p]? = some c) : Txt.item x i = ⟨#[c]⟩ := by
  unfold Txt.item Txt.charAt
  rw [hi]
  show (⟨#[((some p).bind fun j => x.cps[j]?).getD 0]⟩ : Str) = _
  rw [Option.bind_some, hc]
  rfl
theorem item_last {lo n : Nat} (h : 1 ≤ n) : Txt.item (letS lo n) (-1) = ⟨#[97 + (lo + n - 1)]⟩ := by
  have e : seqIndex? (-1) (letS lo n).length = some (n - 1) := by
    rw [letS_len]
    unfold seqIndex?
    simp
    omega
  rw [item_at e (letS_at (by omega)), show 97 + lo + (n - 1) = 97 + (lo + n - 1) by omega]
theorem item_first {lo n : Nat} (h : 1 ≤ n) : Txt.item (letS lo n) 0 = ⟨#[97 + lo]⟩ := by
  have e : seqIndex? 0 (letS lo n).length = some 0 := by
    rw [letS_len]
    unfold seqIndex?
    simp
    omega
  rw [item_at e (letS_at (by omega))]
  rfl
theorem letS_app (lo n k : Nat) : letS lo n ++ letS (lo + n) k = letS lo (n + k) := by
  show (⟨_ ++ _⟩ : Str) = ⟨_⟩
  congr 1
  apply Array.ext'
  simp only [letS, Array.toList_append, List.toList_toArray, List.range_add, List.map_append, List.map_map]
  congr 1
  apply List.map_congr_left
  intro a _
  show 97 + (lo + n) + a = 97 + lo + (n + a)
  omega

theorem RowsIn.set {l : Led} {D : Addr} {us : List Value} {c : Nat} {r : List Int} (hD : (D, listOf us.toArray c) ∈ l) (hr : IntsAre us r) : ∀ {vs : List Value} {rs : List (List Int)}, RowsIn l vs rs → ∀ k : Nat, RowsIn l (vs.set k (.ref D)) (rs.set k r)
  | _, _, .nil, _ => .nil
  | _, _, .cons a us' n r' h1 h2 h3, 0 => .cons D us c r hD hr h3
  | _, _, .cons a us' n r' h1 h2 h3, k + 1 => .cons a us' n r' h1 h2 (h3.set hD hr k)
theorem RdOk.close {P : Params} {news : Led} {dx x0 As Aw Ak : Addr} {k1 t1 : Tok} {S : RS} {rk : List Pc} {us vs sts ws ks : List Value} {rest extra : Led} (OK : RdOk P news dx x0 As Aw Ak k1 t1 S vs sts ws ks rest) (hus : PcsIn rest us rk) {lo n1 n2 z' : Nat} {D G : Addr} {f g : Str} {ta tb u1 u2 : Tok} {zs : List Value} {c : Nat} {r : List Int} {k : Nat}
    (hp : pcS (.word lo (n1 + n2)) = (f, g)) (hz : IntsAre zs r) (h1 : ∀ p ∈ (D, tupObj #[.str f ta, .str g tb] 0) :: (G, listOf zs.toArray c) :: extra, p.1 ≠ x0 ∧ p.1 ≠ As ∧ p.1 ≠ Aw ∧ p.1 ≠ Ak) :
    RdOk P news dx x0 As Aw Ak k1 t1 { k := rk ++ [.word lo (n1 + n2)], st := S.st.set k r, wo := S.wo.set k ((n1 * n2 : Nat) : Int), ki := S.ki.set k (z' : Int) } (us ++ [.ref D]) (sts.set k (.ref G)) (ws.set k (.int ((n1 * n2 : Nat) : Int) u1)) (ks.set k (.int (z' : Int) u2)) ((D, tupObj #[.str f ta, .str g tb] 0) :: (G, listOf zs.toArray c) :: (extra ++ rest)) where
  pcs := (hus.mono fun q hq => .tail _ (.tail _ (List.mem_append.mpr (.inr hq)))).append (.cons D ta tb _ (by rw [hp]; exact .head _) .nil)
  rows := RowsIn.set (.tail _ (.head _)) hz (OK.rows.mono fun q hq => .tail _ (.tail _ (List.mem_append.mpr (.inr hq)))) k
  wo := ints_set OK.wo k
  ki := ints_set OK.ki k
  dct := .tail _ (.tail _ (List.mem_append.mpr (.inr OK.dct)))
  old := fun q hq => .tail _ (.tail _ (List.mem_append.mpr (.inr (OK.old q hq))))
  l1 := by rw [List.length_set]; exact OK.l1
  l2 := by rw [List.length_set]; exact OK.l2
  l3 := by rw [List.length_set]; exact OK.l3
  f1 := fun q hq => by
    rcases List.mem_cons.mp hq with h | hq
    · subst h; exact (h1 _ (.head _)).1
    rcases List.mem_cons.mp hq with h | hq
    · subst h; exact (h1 _ (.tail _ (.head _))).1
    rcases List.mem_append.mp hq with h | h
    · exact (h1 _ (.tail _ (.tail _ h))).1
    · exact OK.f1 q h
  f2 := fun q hq => by
    rcases List.mem_cons.mp hq with h | hq
    · subst h; exact (h1 _ (.head _)).2.1
    rcases List.mem_cons.mp hq with h | hq
    · subst h; exact (h1 _ (.tail _ (.head _))).2.1
    rcases List.mem_append.mp hq with h | h
    · exact (h1 _ (.tail _ (.tail _ h))).2.1
    · exact OK.f2 q h
  f3 := fun q hq => by
    rcases List.mem_cons.mp hq with h | hq
    · subst h; exact (h1 _ (.head _)).2.2.1
    rcases List.mem_cons.mp hq with h | hq
    · subst h; exact (h1 _ (.tail _ (.head _))).2.2.1
    rcases List.mem_append.mp hq with h | h
    · exact (h1 _ (.tail _ (.tail _ h))).2.2.1
    · exact OK.f3 q h
  f4 := fun q hq => by
    rcases List.mem_cons.mp hq with h | hq
    · subst h; exact (h1 _ (.head _)).2.2.2
    rcases List.mem_cons.mp hq with h | hq
    · subst h; exact (h1 _ (.tail _ (.head _))).2.2.2
    rcases List.mem_append.mp hq with h | h
    · exact (h1 _ (.tail _ (.tail _ h))).2.2.2
    · exact OK.f4 q h
theorem led_pick {g dl b1 b2 b3 x p i d a w k : Addr × Obj} {l : Led} : ∀ q ∈ a :: g :: b1 :: b2 :: b3 :: x :: i :: d :: w :: k :: l, q ∈ g :: dl :: b1 :: b2 :: b3 :: x :: p :: i :: d :: a :: w :: k :: l := by
  intro q hq
  simp only [List.mem_cons] at hq ⊢
  rcases hq with h | h | h | h | h | h | h | h | h | h | h <;> simp [h]
theorem led_rotA {g b1 b2 b3 x i d a w k : Addr × Obj} {l : Led} : ∀ q ∈ w :: g :: b1 :: b2 :: b3 :: x :: i :: d :: a :: k :: l, q ∈ a :: g :: b1 :: b2 :: b3 :: x :: i :: d :: w :: k :: l := by
  intro q hq
  simp only [List.mem_cons] at hq ⊢
  rcases hq with h | h | h | h | h | h | h | h | h | h | h <;> simp [h]
theorem led_rotW {g b1 b2 b3 x i d a w k : Addr × Obj} {l : Led} : ∀ q ∈ k :: g :: b1 :: b2 :: b3 :: x :: i :: d :: a :: w :: l, q ∈ w :: g :: b1 :: b2 :: b3 :: x :: i :: d :: a :: k :: l := by
  intro q hq
  simp only [List.mem_cons] at hq ⊢
  rcases hq with h | h | h | h | h | h | h | h | h | h | h <;> simp [h]
theorem led_rotK {g b1 b2 b3 x i d a w k : Addr × Obj} {l : Led} : ∀ q ∈ x :: g :: b1 :: b2 :: b3 :: i :: d :: a :: w :: k :: l, q ∈ k :: g :: b1 :: b2 :: b3 :: x :: i :: d :: a :: w :: l := by
  intro q hq
  simp only [List.mem_cons] at hq ⊢
  rcases hq with h | h | h | h | h | h | h | h | h | h | h <;> simp [h]
theorem led_ne {g b1 b2 b3 x i d a w : Addr × Obj} {l : Led} {D : Addr} (h1 : g.1 ≠ D) (h2 : b1.1 ≠ D) (h3 : b2.1 ≠ D) (h4 : b3.1 ≠ D) (h5 : x.1 ≠ D) (h6 : i.1 ≠ D) (h7 : d.1 ≠ D) (h8 : a.1 ≠ D) (h9 : w.1 ≠ D) (h10 : ∀ q ∈ l, q.1 ≠ D) :
    ∀ q ∈ g :: b1 :: b2 :: b3 :: x :: i :: d :: a :: w :: l, q.1 ≠ D := by
  intro q hq
  simp only [List.mem_cons] at hq
  rcases hq with h | h | h | h | h | h | h | h | h | h
  · rw [h]; exact h1
  · rw [h]; exact h2
  · rw [h]; exact h3
  · rw [h]; exact h4
  · rw [h]; exact h5
  · rw [h]; exact h6
  · rw [h]; exact h7
  · rw [h]; exact h8
  · rw [h]; exact h9
  · exact h10 q h
theorem rng_eq2 (lo n m : Nat) (h : 1 ≤ m) : rangeKs (((97 + lo : Nat) : Int) - 97) (((97 + (lo + n + m - 1) : Nat) : Int) - 97 - (((97 + lo : Nat) : Int) - 97)).toNat = rngI lo (lo + n + m - 1) := by
  unfold rangeKs rngI
  have e1 : (((97 + lo : Nat) : Int) - 97) = (lo : Int) := by omega
  rw [e1]
  congr 2
  omega
theorem upd5_turn {a b c d e v2 v3 v4 v5 : Option Value} {m : Str → Option Value} :
    (fun y => if y = Str.ofString "place" then v5 else if y = Str.ofString "second" then v4 else if y = Str.ofString "sign" then v3 else if y = Str.ofString "first" then v2 else
      upd5 (Str.ofString "number") (Str.ofString "first") (Str.ofString "sign") (Str.ofString "second") (Str.ofString "place") a b c d e m y) =
    upd5 (Str.ofString "number") (Str.ofString "first") (Str.ofString "sign") (Str.ofString "second") (Str.ofString "place") a v2 v3 v4 v5 m := by
  funext y
  unfold upd5
  by_cases h1 : y = Str.ofString "number"
  · subst h1; rfl
  by_cases h2 : y = Str.ofString "first"
  · subst h2; rfl
  by_cases h3 : y = Str.ofString "sign"
  · subst h3; rfl
  by_cases h4 : y = Str.ofString "second"
  · subst h4; rfl
  by_cases h5 : y = Str.ofString "place"
  · subst h5; rfl
  simp only [h1, h2, h3, h4, h5, if_false]
theorem led_end {x q g b1 b2 b3 i d a w k : Addr × Obj} {l : Led} (h1 : b1 ∈ l) (h2 : b2 ∈ l) (h3 : b3 ∈ l) : ∀ p ∈ [i, d] ++ (x :: a :: w :: k :: q :: g :: ([] ++ l)), p ∈ x :: q :: g :: b1 :: b2 :: b3 :: i :: d :: a :: w :: k :: l := by
  intro p hp
  simp only [List.mem_append, List.mem_cons, List.not_mem_nil, or_false, false_or] at hp ⊢
  rcases hp with (h | h) | h | h | h | h | h | h | h <;> simp [h]
theorem off_end {x c d e q g : Addr × Obj} {x' c' d' e' : Addr × Obj} {l : Led} {I : Addr} (h : ∀ p ∈ x :: c :: d :: e :: l, p.1 ≠ I) (hx : x'.1 = x.1) (hc : c'.1 = c.1) (hd : d'.1 = d.1) (he : e'.1 = e.1) (hq : q.1 ≠ I) (hg : g.1 ≠ I) : ∀ p ∈ x' :: c' :: d' :: e' :: q :: g :: ([] ++ l), p.1 ≠ I := by
  intro p hp
  simp only [List.mem_cons, List.nil_append] at hp
  rcases hp with h1 | h1 | h1 | h1 | h1 | h1 | h1
  · rw [h1, hx]; exact h _ (.head _)
  · rw [h1, hc]; exact h _ (by simp)
  · rw [h1, hd]; exact h _ (by simp)
  · rw [h1, he]; exact h _ (by simp)
  · rw [h1]; exact hq
  · rw [h1]; exact hg
  · exact h _ (by simp [h1])

noncomputable abbrev tabF (ps : Array Value) : Obj := { cls := .none, data := .fields ps }
noncomputable def no135 (l : Led) : Led := l.filter fun p => decide (p.1 ≠ 135)
theorem no135_mem {l : Led} {p : Addr × Obj} (h : p ∈ l) (hp : p.1 ≠ 135) : p ∈ no135 l := List.mem_filter.mpr ⟨h, by simpa using hp⟩
theorem no135_ne {l : Led} {p : Addr × Obj} (h : p ∈ no135 l) : p.1 ≠ 135 := by simpa using (List.mem_filter.mp h).2
theorem no135_sub {l : Led} {p : Addr × Obj} (h : p ∈ no135 l) : p ∈ l := (List.mem_filter.mp h).1
theorem ne135 {h₀ h : Heap} {L : Addr} {l : Led} (N : News h₀ L h l) (ht : h.get? 135 = some tabObj) {a : Addr} {o : Obj} (hm : (a, o) ∈ l) (ho : o ≠ tabObj) : a ≠ 135 := by
  rintro rfl
  have := (N _ hm).1
  rw [ht] at this
  exact ho (Option.some.inj this).symm
theorem RowsIn.no135 {h₀ h : Heap} {L : Addr} {l : Led} (N : News h₀ L h l) (ht : h.get? 135 = some tabObj) : ∀ {vs : List Value} {rs : List (List Int)}, RowsIn l vs rs → RowsIn (no135 l) vs rs
  | _, _, .nil => .nil
  | _, _, .cons a us n r h1 h2 h3 => .cons a us n r (no135_mem h1 (ne135 N ht h1 (by intro e; cases e))) h2 (h3.no135 N ht)
theorem empty_app (x : Str) : Str.ofString "" ++ x = x := by
  cases x with
  | mk c =>
    show (⟨#[] ++ c⟩ : Str) = _
    rw [Array.empty_append]
theorem PcsIn.one {l : Led} {vs : List Value} {lo n : Nat} (h : PcsIn l vs [.word lo n]) : ∃ a t1 t2, vs = [.ref a] ∧ (a, tupObj #[.str (Str.ofString "") t1, .str (letS lo n) t2] 0) ∈ l := by
  cases h with
  | cons a t1 t2 _ h1 h =>
    cases h
    exact ⟨a, t1, t2, rfl, h1⟩
theorem led_start {dn z k w2 w w1 a a2 a1 x d t : Addr × Obj} {l : Led} : ∀ p ∈ dn :: x :: a :: w :: k :: a1 :: d :: t :: l, p ∈ dn :: z :: k :: w2 :: w :: w1 :: a :: a2 :: a1 :: x :: d :: t :: l := by
  intro p hp
  simp only [List.mem_cons] at hp ⊢
  rcases hp with h | h | h | h | h | h | h | h | h <;> simp [h]
end
section
open PySem PySem.W PyProof.Rows
local macro_rules | `(tactic| k_all) => `(tactic| exact ne_of_all (by assumption) (by omega))
local macro_rules | `(tactic| walk_at "subscriptTail Name Slice ref ref") => `(tactic| (k_here; with_reducible refine here_of ?_))
local macro_rules | `(tactic| walk_at "subscriptTail Name BinOp ref int") => `(tactic| (k_here; with_reducible refine here_of ?_))
section
open PySem PySem.W PyProof.Rows
local macro_rules | `(tactic| walk_at "call type:tuple") => `(tactic| (k_here; with_reducible refine here_of ?_))

inductive WsJ (P : Params) (x : Str) (t1 tr : Tok) (x0 dx : Addr) (news : Led) (g0 : Str → Option Value) (i : Nat) (m₁ : Str → Option Value) (nw : Led) : Prop
  | mk (n nt b : Nat) (ct : List Int) (vs : List Value) (nn : Nat) (chv : Option Value) (tn tnt tb : Tok) (Dk : Addr) (h1 : wsGo (x.cps.toList.drop i) n nt b ct = wsGo x.cps.toList 0 0 0 []) (h2 : IntsAre vs ct) (h3 : n ≤ i) (h4 : nt ≤ i) (h5 : b + ct.length ≤ i)
    (h6 : @LT.lt Nat _ x0 Dk) (h7 : ∀ p ∈ news, p.1 < Dk) (h8 : m₁ = wsM chv (some (.ref Dk)) (some (.int (b : Int) tb)) (some (.int (n : Int) tn)) (some (.int (nt : Int) tnt)) (some (.ref x0)) g0)
    (h9 : nw = ((Dk, listOf (List.toArray vs) nn) :: (x0, instObj 83 dx) :: (dx, dictOf [⟨PyData.keyHash P (Str.ofString "raw"), .str (Str.ofString "raw") tr, .str x t1⟩] 1) :: news)) : WsJ P x t1 tr x0 dx news g0 i m₁ nw
inductive WsQ (P : Params) (x : Str) (t1 tr : Tok) (x0 dx : Addr) (news : Led) (g0 : Str → Option Value) (s : Shared) (g1 : Heap) (L1 : Addr) (s' : Shared) : Prop
  | mk (h : Heap) (tk : Nat) (n nt b : Nat) (ct : List Int) (vs : List Value) (nn : Nat) (chv : Option Value) (tn tnt tb : Tok) (Dk : Addr) (h1 : s' = { s with heap := h, toks := tk }) (h2 : wsGo x.cps.toList 0 0 0 [] = (n, nt, b, ct)) (h3 : n ≤ 1000) (h4 : nt ≤ 1000) (h5 : b + ct.length ≤ 1000) (h6 : IntsAre vs ct)
    (h7 : @LT.lt Nat _ x0 Dk) (h8 : ∀ p ∈ news, p.1 < Dk) (h9 : Fr g1 L1 h (wsM chv (some (.ref Dk)) (some (.int (b : Int) tb)) (some (.int (n : Int) tn)) (some (.int (nt : Int) tnt)) (some (.ref x0)) g0))
    (h10 : News g1 L1 h ((Dk, listOf (List.toArray vs) nn) :: (x0, instObj 83 dx) :: (dx, dictOf [⟨PyData.keyHash P (Str.ofString "raw"), .str (Str.ofString "raw") tr, .str x t1⟩] 1) :: news)) : WsQ P x t1 tr x0 dx news g0 s g1 L1 s'
section
variable {w : World} {mean : ExcName → Option Value} {mg mb : Str → Option Value} {dp u : Nat} {gd : Option (List Code)} {cn : Str} {cs : Scope} {a : Addr} {ccd : Value} {cl : List (Str × Addr)} {outer : List Env} {A₀ : Around} {base h₀ : Heap} {L : Addr} {m : Str → Option Value} {news : Led} {s : Shared}
    {Q E : Value → Shared → Prop}
set_option maxRecDepth 100000 in
set_option maxHeartbeats 8000000 in
theorem c_ws {x : Str} {t1 : Tok}
    (B : Below A₀ base outer h₀) (F : Fr h₀ L s.heap m) (X : (hd.heap_39 w.params).In h₀) (N : News h₀ L s.heap news) (T : Top hd.view_39 LS mean mg mb h₀) (hk : cs.kind = .function)
    (e1 : x.length ≤ 1000) (hdp : dp + 8 < recursionLimit) (hun : u + 60 < cLine)
    (hret : ∀ x0 dx Dp Dt vs n nt b ct k1 k2 k3 k4 k5 tn tnt tb h' tk', wsGo x.cps.toList 0 0 0 [] = (n, nt, b, ct) → n ≤ 1000 → nt ≤ 1000 → b + ct.length ≤ 1000 → IntsAre vs ct → Fr h₀ L h' m →
      News h₀ L h' ((Dp, tupObj #[.ref Dt, .int (b : Int) tb] 0) :: (Dt, tupObj (List.toArray vs) 0) :: (x0, instObj 83 dx) :: (dx, wsDict w.params x n nt ct Dp t1 k1 k2 k3 k4 k5 tn tnt) :: news) →
      (∀ p ∈ news, p.1 < dx) → @LT.lt Nat _ dx x0 → @LT.lt Nat _ x0 Dt → @LT.lt Nat _ Dt Dp → Q (.ref x0) { s with heap := h', toks := tk' }) :
    wpAny (model PySem.Challenge.rw_ti0051_01.row.prog w) (ktrTop dp u gd cn cs L a ccd cl outer) (call (.ref 83) [.str x t1]) Q E s := by
  have hfill9 : PySem.Challenge.rw_ti0051_01.foot = PySem.Challenge.rw_ti0051_01.foot ∧ hd.heap_39 = hd.heap_39 := by (k_fill; exact ⟨rfl, rfl⟩)
  clear hfill9
  w_top off
  refine' call_cls F X N ?k4 ?k5 ?k6 ?_
  case k4 => k_is
  case k5 => k_is
  case k6 => k_is
  intro x0 dx hx Fx Nx lx1 lx2
  have lx3 : @LT.lt Nat _ dx x0 := lx2
  k_dflt ktr_enter
  k_steps
  rename_i g1 L1 h1 FG1 B1 X1 T1 tk1 h2 D1 h3 q1 h4 h5 h6 tk2 Dc h7 q2 h8 h9 h10 h11 F2 N2
  (try k_fold)
  have q2' : @LT.lt Nat _ D1 Dc ∧ @LT.lt Nat _ x0 Dc ∧ @LT.lt Nat _ dx Dc := ⟨q2.1, q2.2.1, q2.2.2.1⟩
  obtain ⟨tr, N3⟩ : ∃ tr : Tok, News g1 L1 h11 ((Dc, listOf ([] : List Value).toArray 0) :: (x0, instObj 83 dx) :: (dx, dictOf [⟨PyData.keyHash w.params (Str.ofString "raw"), .str (Str.ofString "raw") tr, .str x t1⟩] 1) :: news) := ⟨_, cb_drop N2 (fun p hp => by
    rcases List.mem_cons.mp hp with rfl | hp
    · exact .head _
    · exact .tail _ (.tail _ hp))⟩
  clear N2
  obtain ⟨g0, ch0, ta, tb0, tc, F3⟩ : ∃ (g0 : Str → Option Value) (chv : Option Value) (ta tb tc : Tok), Fr g1 L1 h11 (wsM chv (some (.ref Dc)) (some (.int ((0 : Nat) : Int) ta)) (some (.int ((0 : Nat) : Int) tb)) (some (.int ((0 : Nat) : Int) tc)) (some (.ref x0)) g0) := ⟨_, _, _, _, _, wsM_start rfl ▸ F2⟩
  clear F2
  refine iter_mid (WsQ w.params x t1 tr x0 dx news g0 s g1 L1) (text_loop rfl F3 N3 (WsJ w.params x t1 tr x0 dx news g0) ?_ ?_ ?_) ?_
  · exact ⟨0, 0, 0, [], [], 0, ch0, tb0, tc, ta, Dc, rfl, .nil, Nat.le_refl _, Nat.le_refl _, Nat.le_refl _, q2'.2.1, fun p hp => ktn_ltOf q2.2.2.2 p hp, rfl, rfl⟩
  · rintro i c uc m₁ nw I oI h tk hc hJ1 off F₁ N₁
    (try k_fold)
    obtain ⟨n, nt, b, ct, vs, nn, chv, tn, tnt, tb, Dk, hgo, hvs, hn, hnt, hb, lD, lDn, rfl, rfl⟩ := hJ1
    rw [wsM_ch] at F₁
    have hi : i < x.length := by
      rcases Nat.lt_or_ge i x.cps.size with q | q
      · exact q
      · rw [Array.getElem?_eq_none q] at hc; cases hc
    have nIk : ¬ @Eq Nat Dk I := off (Dk, _) (.head _)
    have nIx : ¬ @Eq Nat x0 I := off (x0, _) (.tail _ (.head _))
    have nId : ¬ @Eq Nat dx I := off (dx, _) (.tail _ (.tail _ (.head _)))
    k_steps
    · rename_i h32 hA hB Fz Nz
      (try k_fold)
      rw [show Str.ofString " " = ⟨#[32]⟩ from rfl, sign_beq] at h32
      have e : c = 32 := of_decide_eq_true h32
      subst e
      exact TurnEnd.next (wsM_blank ▸ Fz) Nz off ⟨n + 1, nt, b + 1, ct, vs, nn, _, _, _, _, Dk, by rw [← hgo, wsGo_at hc, if_pos rfl], hvs, by omega, by omega, by omega, lD, lDn, rfl, rfl⟩
    · rename_i h32 h9 hA hB hlb Dz hC Fz Nz lz
      (try k_fold)
      rw [show Str.ofString " " = ⟨#[32]⟩ from rfl, sign_beq] at h32
      rw [show Str.ofString "\t" = ⟨#[9]⟩ from rfl, sign_beq] at h9
      have e : c = 9 := of_decide_eq_true h9
      subst e
      unfold Here
      refine mulK Fz Nz (.head _) (by omega) (by omega) (by simp; omega) (fun D2 h2' F2' N2' l2' => ?_)
      k_steps
      unfold Here
      refine addK F2' N2' (.tail _ (.tail _ (.tail _ (.head _)))) (.head _) ?_ (fun D3 h3' F3' N3' l3' => ?_)
      · rw [List.flatten_replicate_singleton, List.size_toArray, List.size_toArray, List.length_replicate, hvs.length]
        omega
      have q1 : @LT.lt Nat _ I D3 := l3' (I, oI) (.tail _ (.tail _ (.head _)))
      have q3 : @LT.lt Nat _ x0 D3 := l3' (x0, _) (.tail _ (.tail _ (.tail _ (.tail _ (.head _)))))
      have q4 : @LT.lt Nat _ dx D3 := l3' (dx, _) (.tail _ (.tail _ (.tail _ (.tail _ (.tail _ (.head _))))))
      have q5 : ∀ p ∈ news, p.1 < D3 := fun p hp => l3' p (.tail _ (.tail _ (.tail _ (.tail _ (.tail _ (.tail _ hp))))))
      have hkk : ((b : Int) - (ct.length : Int) + 1).toNat = b - ct.length + 1 := by omega
      rw [hkk] at N3'
      have hW : IntsAre (vs ++ List.replicate (b - ct.length + 1) (Value.int 0 tk)) (ct ++ List.replicate (b - ct.length + 1) 0) := hvs.append (ints_rep _ _)
      have N4' : News g1 L1 h3' ((D3, listOf (vs ++ List.replicate (b - ct.length + 1) (Value.int 0 tk)).toArray 0) :: (I, oI) :: (x0, instObj 83 dx) :: (dx, dictOf [⟨PyData.keyHash w.params (Str.ofString "raw"), .str (Str.ofString "raw") tr, .str x t1⟩] 1) :: news) := by
        rw [← List.flatten_replicate_singleton (n := b - ct.length + 1) (a := Value.int 0 tk)]
        exact cb_drop N3' (fun p hp => by
          rcases List.mem_cons.mp hp with rfl | hp
          · exact .head _
          rcases List.mem_cons.mp hp with rfl | hp
          · exact .tail _ (.tail _ (.tail _ (.head _)))
          · exact .tail _ (.tail _ (.tail _ (.tail _ (.tail _ hp)))))
      generalize hWv : vs ++ List.replicate (b - ct.length + 1) (Value.int 0 tk) = W at hW N4'
      generalize hWc : ct ++ List.replicate (b - ct.length + 1) 0 = cW at hW
      have hlen : cW.length = b + 1 := by rw [← hWc, List.length_append, List.length_replicate]; omega
      clear N3' l3' N2' l2' Nz lz
      k_steps
      rename_i hi9 hl9 hs9 hE Fz Nz
      (try k_fold)
      refine TurnEnd.next (wsM_tab ▸ Fz) (cb_drop (news := [(I, oI)] ++ _) Nz ?_) ?_ ⟨n + 1, nt + 1, 0, _, _, 0, _, _, _, _, D3, ?_, hi9, by omega, by omega, by omega, q3, q5, rfl, rfl⟩
      · intro p hp
        rcases List.mem_cons.mp hp with rfl | hp
        · exact .tail _ (.head _)
        rcases List.mem_cons.mp hp with rfl | hp
        · exact .head _
        · exact .tail _ (.tail _ hp)
      · intro p hp
        rcases List.mem_cons.mp hp with rfl | hp
        · exact Nat.ne_of_gt q1
        · exact off p (.tail _ hp)
      · rw [← hgo, wsGo_at hc, if_neg (by decide), if_pos rfl]
        have : wsBump ct b = cW.set b (cW.getD b 0 + 1) := by
          unfold wsBump
          rw [if_pos (by omega), hWc]
        rw [this]
        rfl
    · rename_i h32 h9 hA hB hlb t9 hC hi9 hl9 hs9 hD Fz Nz
      (try k_fold)
      rw [show Str.ofString " " = ⟨#[32]⟩ from rfl, sign_beq] at h32
      rw [show Str.ofString "\t" = ⟨#[9]⟩ from rfl, sign_beq] at h9
      have e : c = 9 := of_decide_eq_true h9
      subst e
      refine TurnEnd.next (wsM_tab' ▸ Fz) Nz ?_ ⟨n + 1, nt + 1, 0, _, _, nn, _, _, _, _, Dk, ?_, hi9, by omega, by omega, by omega, lD, lDn, rfl, rfl⟩
      · intro p hp
        rcases List.mem_cons.mp hp with rfl | hp
        · exact nIk
        · exact off p (.tail _ hp)
      · rw [← hgo, wsGo_at hc, if_neg (by decide), if_pos rfl]
        have : wsBump ct b = ct.set b (ct.getD b 0 + 1) := by
          unfold wsBump
          rw [if_neg (by omega)]
        rw [this]
        rfl
    · rename_i h32 h9
      (try k_fold)
      rw [show Str.ofString " " = ⟨#[32]⟩ from rfl, sign_beq] at h32
      rw [show Str.ofString "\t" = ⟨#[9]⟩ from rfl, sign_beq] at h9
      dsimp only
      (try k_unfold)
      unfold TurnEnd midQ
      dsimp only
      refine ⟨_, _, n, nt, b, ct, vs, nn, _, _, _, _, Dk, rfl, ?_, by omega, by omega, by omega, hvs, lD, lDn, F₁, cb_drop N₁ fun p hp => .tail _ hp⟩
      rw [← hgo, wsGo_at hc, if_neg (of_decide_eq_false h32), if_neg (of_decide_eq_false h9)]
  · rintro h tk m' nw F' N' hJ2
    (try k_fold)
    obtain ⟨n, nt, b, ct, vs, nn, chv, tn, tnt, tb, Dk, hgo, hvs, hn, hnt, hb, lD, lDn, rfl, rfl⟩ := hJ2
    unfold midQ
    dsimp only
    have hxs : x.cps.size = x.length := rfl
    refine ⟨h, tk, n, nt, b, ct, vs, nn, _, _, _, _, Dk, rfl, ?_, by omega, by omega, by omega, hvs, lD, lDn, F', N'⟩
    rw [← hgo, List.drop_eq_nil_of_le (by simp)]
    rfl
  · rintro s' hJ3
    (try k_fold)
    obtain ⟨h, tk, n, nt, b, ct, vs, nn, chv, tn, tnt, tb, Dk, rfl, hgo, hn, hnt, hb, hvs, lD, lDn, F', N'⟩ := hJ3
    k_steps
    unfold Here
    rename_i hA hB F5 N5
    (try k_fold)
    refine kde_tupleOf (items := vs.toArray) (zs := vs) F5 N5 ⟨_, (N5 _ (.head _)).1, rfl, _, rfl⟩ (by simp only [List.size_toArray, hvs.length]; omega) rfl ?_
    intro Dt hDt Ft Nt lt
    (try k_lt lt)
    k_steps
    rename_i DP hP1 lP hP2 tkP hP3 FP NP kF kN Tc kX
    (try k_fold)
    have kN' := cb_drop (news := [_, _, _, _] ++ news) kN (fun p hp => by
      rcases List.mem_cons.mp hp with rfl | hp
      · exact .head _
      rcases List.mem_cons.mp hp with rfl | hp
      · exact .tail _ (.head _)
      · exact .tail _ (.tail _ (.tail _ hp)))
    exact hret x0 dx DP Dt vs n nt b ct _ _ _ _ _ _ _ _ _ _ hgo hn hnt hb hvs kF kN' lx1 lx3 lt.2.1 lP.1
end
end
section
open PySem PySem.W PyProof.Rows
local macro_rules | `(tactic| walk_at "exec For Name Call cons nil") => `(tactic| (k_here; with_reducible refine here_of ?_))
local macro_rules | `(tactic| walk_at "pyIter ref") => `(tactic| (k_here; with_reducible refine here_of ?_))

section
variable {w : World} {mean : ExcName → Option Value} {mg mb : Str → Option Value} {dp u : Nat} {gd : Option (List Code)} {cn : Str} {cs : Scope} {a : Addr} {ccd : Value} {cl : List (Str × Addr)} {outer : List Env} {A₀ : Around} {base h₀ : Heap} {L : Addr} {m : Str → Option Value} {news : Led} {s : Shared}
    {Q E : Value → Shared → Prop}
set_option maxRecDepth 100000 in
set_option maxHeartbeats 8000000 in
theorem c_long {x0 : Addr} {x : Str} {n nt b : Nat} {ct : List Int}
    (B : Below A₀ base outer h₀) (F : Fr h₀ L s.heap m) (X : (hd.heap_39 w.params).In h₀) (N : News h₀ L s.heap news) (T : Top hd.view_39 LS mean mg mb h₀) (hk : cs.kind = .function)
    (W : IsWs w.params news x0 x n nt b ct) (hdp : dp + 8 < recursionLimit) (hun : u + 60 < cLine)
    (hret : ∀ t' h' tk', Fr h₀ L h' m → News h₀ L h' news → Q (.int (max ((ct.length : Int) - 1) (b : Int)) t') { s with heap := h', toks := tk' }) :
    wpAny (model PySem.Challenge.rw_ti0051_01.row.prog w) (ktrTop dp u gd cn cs L a ccd cl outer) (call (.ref 45) [.ref x0]) Q E s := by
  have hfill9 : PySem.Challenge.rw_ti0051_01.foot = PySem.Challenge.rw_ti0051_01.foot ∧ hd.heap_39 = hd.heap_39 := by (k_fill; exact ⟨rfl, rfl⟩)
  clear hfill9
  w_top off
  obtain ⟨dx, Dp, Dt, vs, t1, k1, k2, k3, k4, k5, tn, tnt, tb, w1, w2, w3, w4, w5, w6, w7, w8⟩ := W
  refine wpAny_call ?_
  k_dflt ktr_enter
  k_steps
  rename_i hE FE NE
  (try k_fold)
  refine PyProof.Rows.len_tuple (items := vs.toArray) ⟨_, (NE _ w2).1, rfl, _, rfl⟩ (by simp only [List.size_toArray, w5.length]; omega) ?_
  k_steps
  rename_i kF kN Tc kX
  (try k_fold)
  have hv : (if (b : Int) > (vs.toArray.size : Int) - 1 then (b : Int) else (vs.toArray.size : Int) - 1) = max ((ct.length : Int) - 1) (b : Int) := by
    rw [List.size_toArray, w5.length]
    split <;> omega
  rw [hv]
  exact hret _ _ _ kF kN

set_option maxRecDepth 100000 in
set_option maxHeartbeats 8000000 in
theorem c_level {x0 : Addr} {x : Str} {n nt b : Nat} {ct : List Int} {ts : Nat} {tt : Tok}
    (B : Below A₀ base outer h₀) (F : Fr h₀ L s.heap m) (X : (hd.heap_39 w.params).In h₀) (N : News h₀ L s.heap news) (T : Top hd.view_39 LS mean mg mb h₀) (hk : cs.kind = .function)
    (W : IsWs w.params news x0 x n nt b ct) (hts : 2 ≤ ts) (hts2 : ts ≤ 2000) (hdp : dp + 8 < recursionLimit) (hun : u + 60 < cLine)
    (hret : ∀ t' h' tk', Fr h₀ L h' m → News h₀ L h' news → Q (.int (levelZ ts nt b ct) t') { s with heap := h', toks := tk' }) :
    wpAny (model PySem.Challenge.rw_ti0051_01.row.prog w) (ktrTop dp u gd cn cs L a ccd cl outer) (call (.ref 52) [.ref x0, .int (ts : Int) tt]) Q E s := by
  have hfill9 : PySem.Challenge.rw_ti0051_01.foot = PySem.Challenge.rw_ti0051_01.foot ∧ hd.heap_39 = hd.heap_39 := by (k_fill; exact ⟨rfl, rfl⟩)
  clear hfill9
  w_top off
  obtain ⟨dx, Dp, Dt, vs, t1, k1, k2, k3, k4, k5, tn, tnt, tb, w1, w2, w3, w4, w5, w6, w7, w8⟩ := W
  have w5k : IntsAre vs ct ∧ True := ⟨w5, trivial⟩
  refine wpAny_call ?_
  k_dflt ktr_enter
  k_steps
  unfold Here
  rename_i g1 L1 hA FG1 B1 X1 T1 hB hC hD hE FE NE
  (try k_fold)
  obtain ⟨m0, hm0, F0⟩ : ∃ m0, m0 = (_ : Str → Option Value) ∧ Fr g1 L1 hE m0 := ⟨_, rfl, FE⟩
  have NEK := NE
  clear FE
  refine For_invV g1 (by rfl) (by rfl) ?_
  k_steps
  subst hm0
  k_steps
  refine PyProof.Rows.len_tuple (items := vs.toArray) ⟨_, (NEK _ w2).1, rfl, _, rfl⟩ (by simp only [List.size_toArray, w5.length]; omega) ?_
  k_steps
  unfold Here
  rename_i hF tkF ta tb2 tc RF FF NF KF
  (try k_fold)
  have hsz : Builtin.Range.rangeSize (ts : Int) (ct.length : Int) 1 = ((ct.length - ts : Nat) : Int) := rsize
  generalize hm0 : (fun y => if y = Str.ofString "il" then _ else _) = m0 at FF
  have hil : ∃ ilt, m0 (Str.ofString "il") = some (.int 0 ilt) := ⟨_, by rw [← hm0]; rfl⟩
  obtain ⟨ilt, hil⟩ := hil
  refine iter_mid (fun s' => ∃ h tk iv t, s' = { s with heap := h, toks := tk } ∧ Fr g1 L1 h (upd2 (Str.ofString "i") (Str.ofString "il") iv (some (.int (ilZ ts ct (ct.length - ts)) t)) m0) ∧ News g1 L1 h news)
    (range_loop rfl FF NF RF (rsmall (by omega) (by omega)) hsz (fun i m₁ nw => ∃ iv t, m₁ = upd2 (Str.ofString "i") (Str.ofString "il") iv (some (.int (ilZ ts ct i) t)) m0 ∧ nw = news) ?_ ?_ ?_) ?_
  · refine ⟨m0 (Str.ofString "i"), ilt, ?_, rfl⟩
    show m0 = upd2 _ _ _ (some (.int 0 ilt)) m0
    rw [← hil]
    exact upd2_self
  · rintro i ui m₁ nw I oI h tk9 hi ⟨iv, t, rfl, rfl⟩ off F₁ N₁
    rw [upd2_S] at F₁
    subst hm0
    k_steps
    refine item_anyT (vs := vs) (ns := ct) ⟨_, (N₁ _ (.tail _ w2)).1, rfl, _, rfl⟩ w5k.1 (by omega) (by omega) (by omega) (fun t10 => ?_)
    have hd0 : 0 ≤ ((ts : Int) + (i : Int) * 1).fdiv (ts : Int) := by
      rw [Int.fdiv_eq_ediv_of_nonneg _ (by omega)]
      exact Int.ediv_nonneg (by omega) (by omega)
    have hd1 : ((ts : Int) + (i : Int) * 1).fdiv (ts : Int) ≤ 4000 := by
      rw [Int.fdiv_eq_ediv_of_nonneg _ (by omega)]
      exact Int.le_trans (Int.ediv_le_self _ (by omega)) (by omega)
    refine mul_int ?_ (mul_ok hd0 hd1)
    k_steps
    rename_i Fz Nz
    (try k_fold)
    have hq : ilZ ts ct i + ((ts : Int) + (i : Int) * 1).fdiv (ts : Int) * ct.getD ((ts : Int) + (i : Int) * 1).toNat 0 = ilZ ts ct (i + 1) := by
      have e1 : ((ts : Int) + (i : Int) * 1).toNat = ts + i := by omega
      rw [e1, Int.fdiv_eq_ediv_of_nonneg _ (by omega), Int.mul_one]
      rfl
    rw [hq] at Fz
    rw [upd2_T (by decide)] at Fz
    exact TurnEnd.next Fz Nz off ⟨_, _, rfl, rfl⟩
  · rintro h tk9 m' nw F' N' ⟨iv, t, rfl, rfl⟩
    exact ⟨h, tk9, iv, t, rfl, F', N'⟩
  · rintro s' hJ1
    (try k_fold)
    obtain ⟨h, tk9, iv, t, rfl, F', N'⟩ := hJ1
    subst hm0
    k_steps
    rename_i kF kN Tc kX
    (try k_fold)
    exact hret _ _ _ kF kN
end
end
end
end
section
open PySem PySem.W PyProof.Rows
local macro_rules | `(tactic| walk_at "subscriptTail Name BinOp ref int") => `(tactic| (k_here; with_reducible refine here_of ?_))
local macro_rules | `(tactic| walk_at "call ref") => `(tactic| (k_here; with_reducible refine here_of ?_))
local macro_rules | `(tactic| walk_at "exec For Name Call cons nil") => `(tactic| (k_here; with_reducible refine here_of ?_))
local macro_rules | `(tactic| walk_at "pyIter ref") => `(tactic| (k_here; with_reducible refine here_of ?_))
section
open PySem PySem.W PyProof.Rows
local macro_rules | `(tactic| k_all) => `(tactic| exact ne_of_all (by assumption) (by omega))
local macro_rules | `(tactic| walk_at "subscriptTail Name Slice ref ref") => `(tactic| (k_here; with_reducible refine here_of ?_))

section
variable {w : World} {mean : ExcName → Option Value} {mg mb : Str → Option Value} {dp u : Nat} {gd : Option (List Code)} {cn : Str} {cs : Scope} {a : Addr} {ccd : Value} {cl : List (Str × Addr)} {outer : List Env} {A₀ : Around} {base h₀ : Heap} {L : Addr} {m : Str → Option Value} {news : Led} {s : Shared}
    {Q E : Value → Shared → Prop}
set_option maxRecDepth 100000 in
set_option maxHeartbeats 8000000 in
theorem c_less {x1 x2 : Addr} {y1 y2 : Str} {n nt b n' nt' b' : Nat} {ct ct' : List Int}
    (B : Below A₀ base outer h₀) (F : Fr h₀ L s.heap m) (X : (hd.heap_39 w.params).In h₀) (N : News h₀ L s.heap news) (T : Top hd.view_39 LS mean mg mb h₀) (hk : cs.kind = .function)
    (W : IsWs w.params news x1 y1 n nt b ct) (W' : IsWs w.params news x2 y2 n' nt' b' ct') (hdp : dp + 10 < recursionLimit) (hun : u + 130 < cLine)
    (hret : ∀ h' tk', Fr h₀ L h' m → News h₀ L h' news → Q (.bool (lessB n nt b ct n' nt' b' ct')) { s with heap := h', toks := tk' }) :
    wpAny (model PySem.Challenge.rw_ti0051_01.row.prog w) (ktrTop dp u gd cn cs L a ccd cl outer) (call (.ref 73) [.ref x1, .ref x2]) Q E s := by
  have hfill9 : PySem.Challenge.rw_ti0051_01.foot = PySem.Challenge.rw_ti0051_01.foot ∧ hd.heap_39 = hd.heap_39 := by (k_fill; exact ⟨rfl, rfl⟩)
  clear hfill9
  w_top off
  have WW := W
  have WW' := W'
  obtain ⟨dx, Dp, Dt, vs, t1, k1, k2, k3, k4, k5, tn, tnt, tb, w1, w2, w3, w4, w5, w6, w7, w8⟩ := W
  obtain ⟨ex, Ep, Et, us, q1, j1, j2, j3, j4, j5, sn, snt, sb, v1, v2, v3, v4, v5, v6, v7, v8⟩ := W'
  refine wpAny_call ?_
  k_dflt ktr_enter
  k_steps
  · rename_i hle kF kN Tc kX
    have e : lessB n nt b ct n' nt' b' ct' = false := by
      unfold lessB
      rw [if_pos (by omega)]
    have := hret _ tk kF kN
    rw [e] at this
    exact this
  · rename_i hle tk2 h1 h2 kF kN Tc kX
    have e : lessB n nt b ct n' nt' b' ct' = decide ((nt : Int) ≤ (nt' : Int)) := by
      unfold lessB
      rw [if_neg (by omega), if_pos (by omega)]
      exact decide_eq_decide.mpr (by omega)
    have := hret _ (tk + 1 + 1) kF kN
    rw [e] at this
    exact this
  · rename_i g1 L1 hA FG1 F1 N1 B1 X1 T1 tkA hnle tkB hc1 hc2
    have hns : ¬ (ct.length ≤ 1 ∧ ct'.length ≤ 1) := by omega
    have hnn : ¬ n' ≤ n := by omega
    unfold Here
    try dsimp only [List.append_nil]
    refine c_long B1 F1 X1 N1 T1 rfl WW ?_ ?_ ?_
    · ktr_room
    · ktr_units
    intro t5 h5 tk5 F5 N5
    k_steps
    unfold Here
    try dsimp only [List.append_nil]
    refine c_long B1 F5 X1 N5 T1 rfl WW' ?_ ?_ ?_
    · ktr_room
    · ktr_units
    intro t6 h6 tk6 F6 N6
    k_steps
    unfold Here
    rename_i hQ1 tkQ hQ2 FQ NQ
    have hM : (if max ((ct'.length : Int) - 1) (b' : Int) > max ((ct.length : Int) - 1) (b : Int) then max ((ct'.length : Int) - 1) (b' : Int) else max ((ct.length : Int) - 1) (b : Int)) = (((max (longZ b ct) (longZ b' ct')).toNat : Nat) : Int) := by
      unfold longZ
      split <;> omega
    have hKb : (max (longZ b ct) (longZ b' ct')).toNat ≤ 1000 := by
      unfold longZ
      omega
    have hLB : lessB n nt b ct n' nt' b' ct' = allLess (fun ts => levelZ ts nt b ct) (fun ts => levelZ ts nt' b' ct') (max (longZ b ct) (longZ b' ct')).toNat := by
      unfold lessB
      rw [if_neg (by omega), if_neg hns]
    rw [hM] at FQ
    generalize (max (longZ b ct) (longZ b' ct')).toNat = K at FQ hKb hLB
    clear hM
    refine For_invV g1 (by rfl) (by rfl) ?_
    k_steps
    unfold Here
    rename_i hR tkR ta1 tb1 tc1 RR FR NR KR
    have hsz : Builtin.Range.rangeSize 2 ((K : Int) + 1 + 1) 1 = (K : Int) := by
      rw [rangeSize_nat]
      omega
    generalize hm0 : (fun y => if y = Str.ofString "n" then _ else _) = m0 at FR
    refine iter_mid (fun s' => ∃ h tk tv, s' = { s with heap := h, toks := tk } ∧ Fr g1 L1 h (upd1 (Str.ofString "ts") tv m0) ∧ News g1 L1 h news ∧ allLess (fun ts => levelZ ts nt b ct) (fun ts => levelZ ts nt' b' ct') K = true)
      (range_loop rfl FR NR RR (small_of (by omega) (by omega) (by omega) (by omega)) hsz (fun i m₁ nw => ∃ tv, m₁ = upd1 (Str.ofString "ts") tv m0 ∧ nw = news ∧ allLess (fun ts => levelZ ts nt b ct) (fun ts => levelZ ts nt' b' ct') i = true) ?_ ?_ ?_) ?_
    · exact ⟨_, upd1_self, rfl, rfl⟩
    · rintro i ui m₁ nw I oI h tk9 hi ⟨tv, rfl, rfl, hal⟩ off FT NT
      have e2 : (2 : Int) + (i : Int) * 1 = ((2 + i : Nat) : Int) := by omega
      rw [upd1_set, e2] at FT
      replace FT : Fr g1 L1 h _ := FT
      replace NT : News g1 L1 h _ := NT
      have w3' : (x1, instObj 83 dx) ∈ (I, oI) :: nw := .tail _ w3
      have w4' : (dx, wsDict w.params y1 n nt ct Dp t1 k1 k2 k3 k4 k5 tn tnt) ∈ (I, oI) :: nw := .tail _ w4
      have v3' : (x2, instObj 83 ex) ∈ (I, oI) :: nw := .tail _ v3
      have v4' : (ex, wsDict w.params y2 n' nt' ct' Ep q1 j1 j2 j3 j4 j5 sn snt) ∈ (I, oI) :: nw := .tail _ v4
      subst hm0
      k_steps
      unfold Here
      try dsimp only [List.append_nil]
      refine c_level B1 FT X1 NT T1 rfl (WW.mono fun p hp => .tail _ hp) (by omega) (by omega) ?_ ?_ ?_
      · ktr_room
      · ktr_units
      intro t7 h7 tk7 F7 N7
      k_steps
      unfold Here
      try dsimp only [List.append_nil]
      refine c_level B1 F7 X1 N7 T1 rfl (WW'.mono fun p hp => .tail _ hp) (by omega) (by omega) ?_ ?_ ?_
      · ktr_room
      · ktr_units
      intro t8 h8 tk8 F8 N8
      k_steps
      · rename_i hge
        dsimp only
        unfold TurnEnd midQ
        dsimp only
        k_unfold
        refine leaveK_ F8 N8 (fun kF kN => ?_)
        have := hret _ tk8 kF (cb_drop kN fun p hp => .tail _ hp)
        have hf := allLess_false (f := fun ts => levelZ ts nt b ct) (g := fun ts => levelZ ts nt' b' ct') (i := i) (by omega) hi
        rw [hLB, hf] at this
        exact this
      · rename_i hge
        refine TurnEnd.next F8 N8 off ⟨_, rfl, rfl, ?_⟩
        show (allLess _ _ i && decide _) = true
        rw [hal, Bool.true_and]
        exact decide_eq_true (by dsimp only; omega)
    · rintro h tk9 m' nw F' N' ⟨tv, rfl, rfl, hal⟩
      exact ⟨h, tk9, tv, rfl, F', N', hal⟩
    · rintro s' ⟨h, tk9, tv, rfl, F', N', hal⟩
      subst hm0
      k_steps
      rename_i kF kN Tc kX
      have := hret _ tk9 kF kN
      rw [hLB, hal] at this
      exact this
  · rename_i g1 L1 hA FG1 F1 N1 B1 X1 T1 tkA hnle tkB hc1
    have hns : ¬ (ct.length ≤ 1 ∧ ct'.length ≤ 1) := by omega
    have hnn : ¬ n' ≤ n := by omega
    unfold Here
    try dsimp only [List.append_nil]
    refine c_long B1 F1 X1 N1 T1 rfl WW ?_ ?_ ?_
    · ktr_room
    · ktr_units
    intro t5 h5 tk5 F5 N5
    k_steps
    unfold Here
    try dsimp only [List.append_nil]
    refine c_long B1 F5 X1 N5 T1 rfl WW' ?_ ?_ ?_
    · ktr_room
    · ktr_units
    intro t6 h6 tk6 F6 N6
    k_steps
    unfold Here
    rename_i hQ1 tkQ hQ2 FQ NQ
    have hM : (if max ((ct'.length : Int) - 1) (b' : Int) > max ((ct.length : Int) - 1) (b : Int) then max ((ct'.length : Int) - 1) (b' : Int) else max ((ct.length : Int) - 1) (b : Int)) = (((max (longZ b ct) (longZ b' ct')).toNat : Nat) : Int) := by
      unfold longZ
      split <;> omega
    have hKb : (max (longZ b ct) (longZ b' ct')).toNat ≤ 1000 := by
      unfold longZ
      omega
    have hLB : lessB n nt b ct n' nt' b' ct' = allLess (fun ts => levelZ ts nt b ct) (fun ts => levelZ ts nt' b' ct') (max (longZ b ct) (longZ b' ct')).toNat := by
      unfold lessB
      rw [if_neg (by omega), if_neg hns]
    rw [hM] at FQ
    generalize (max (longZ b ct) (longZ b' ct')).toNat = K at FQ hKb hLB
    clear hM
    refine For_invV g1 (by rfl) (by rfl) ?_
    k_steps
    unfold Here
    rename_i hR tkR ta1 tb1 tc1 RR FR NR KR
    have hsz : Builtin.Range.rangeSize 2 ((K : Int) + 1 + 1) 1 = (K : Int) := by
      rw [rangeSize_nat]
      omega
    generalize hm0 : (fun y => if y = Str.ofString "n" then _ else _) = m0 at FR
    refine iter_mid (fun s' => ∃ h tk tv, s' = { s with heap := h, toks := tk } ∧ Fr g1 L1 h (upd1 (Str.ofString "ts") tv m0) ∧ News g1 L1 h news ∧ allLess (fun ts => levelZ ts nt b ct) (fun ts => levelZ ts nt' b' ct') K = true)
      (range_loop rfl FR NR RR (small_of (by omega) (by omega) (by omega) (by omega)) hsz (fun i m₁ nw => ∃ tv, m₁ = upd1 (Str.ofString "ts") tv m0 ∧ nw = news ∧ allLess (fun ts => levelZ ts nt b ct) (fun ts => levelZ ts nt' b' ct') i = true) ?_ ?_ ?_) ?_
    · exact ⟨_, upd1_self, rfl, rfl⟩
    · rintro i ui m₁ nw I oI h tk9 hi ⟨tv, rfl, rfl, hal⟩ off FT NT
      have e2 : (2 : Int) + (i : Int) * 1 = ((2 + i : Nat) : Int) := by omega
      rw [upd1_set, e2] at FT
      replace FT : Fr g1 L1 h _ := FT
      replace NT : News g1 L1 h _ := NT
      have w3' : (x1, instObj 83 dx) ∈ (I, oI) :: nw := .tail _ w3
      have w4' : (dx, wsDict w.params y1 n nt ct Dp t1 k1 k2 k3 k4 k5 tn tnt) ∈ (I, oI) :: nw := .tail _ w4
      have v3' : (x2, instObj 83 ex) ∈ (I, oI) :: nw := .tail _ v3
      have v4' : (ex, wsDict w.params y2 n' nt' ct' Ep q1 j1 j2 j3 j4 j5 sn snt) ∈ (I, oI) :: nw := .tail _ v4
      subst hm0
      k_steps
      unfold Here
      try dsimp only [List.append_nil]
      refine c_level B1 FT X1 NT T1 rfl (WW.mono fun p hp => .tail _ hp) (by omega) (by omega) ?_ ?_ ?_
      · ktr_room
      · ktr_units
      intro t7 h7 tk7 F7 N7
      k_steps
      unfold Here
      try dsimp only [List.append_nil]
      refine c_level B1 F7 X1 N7 T1 rfl (WW'.mono fun p hp => .tail _ hp) (by omega) (by omega) ?_ ?_ ?_
      · ktr_room
      · ktr_units
      intro t8 h8 tk8 F8 N8
      k_steps
      · rename_i hge
        dsimp only
        unfold TurnEnd midQ
        dsimp only
        k_unfold
        refine leaveK_ F8 N8 (fun kF kN => ?_)
        have := hret _ tk8 kF (cb_drop kN fun p hp => .tail _ hp)
        have hf := allLess_false (f := fun ts => levelZ ts nt b ct) (g := fun ts => levelZ ts nt' b' ct') (i := i) (by omega) hi
        rw [hLB, hf] at this
        exact this
      · rename_i hge
        refine TurnEnd.next F8 N8 off ⟨_, rfl, rfl, ?_⟩
        show (allLess _ _ i && decide _) = true
        rw [hal, Bool.true_and]
        exact decide_eq_true (by dsimp only; omega)
    · rintro h tk9 m' nw F' N' ⟨tv, rfl, rfl, hal⟩
      exact ⟨h, tk9, tv, rfl, F', N', hal⟩
    · rintro s' ⟨h, tk9, tv, rfl, F', N', hal⟩
      subst hm0
      k_steps
      rename_i kF kN Tc kX
      have := hret _ tk9 kF kN
      rw [hLB, hal] at this
      exact this
end
end
section
open PySem PySem.W PyProof.Rows
local macro_rules | `(tactic| omega) => `(tactic| lia)
section
open PySem PySem.W PyProof.Rows
local macro_rules | `(tactic| k_all) => `(tactic| exact ne_of_all (by assumption) (by omega))

theorem any_rows (r : List Int) : ∀ st : List (List Int), ((st.map rowD).any fun y => PyData.eqv y (rowD r)) = decide (r ∈ st)
  | [] => by simp
  | x :: st => by
    rw [List.map_cons, List.any_cons, any_rows r st]
    have : PyData.eqv (rowD x) (rowD r) = decide (x = r) := by
      simp only [rowD, PyData.eqv, ked_eqvAll]
    rw [this, Bool.eq_iff_iff]
    simp only [List.mem_cons, Bool.or_eq_true, decide_eq_true_eq]; rw [eq_comm (a := x)]

theorem row_depth (r : List Int) : (rowD r).depth = 1 := by
  show PyData.depthAll _ + 1 = 1
  rw [ke_depthAll]
theorem row_units {A : Around} {st : List (List Int)} (r : List Int) (h : A.units + 64 < cLine) : A.units + 1 + min (PyData.depthAll (st.map rowD)) (rowD r).depth < cLine := by
  rw [row_depth]
  have := Nat.min_le_right (PyData.depthAll (st.map rowD)) 1
  omega
theorem spare_eq {wv : List Int} {i j : Nat} (hl : wv.length = 5) (hj : j < 5 - i) : (List.take (min (((i + 1 + j : Nat) : Int)).toNat wv.length - ((i : Int)).toNat) (List.drop ((i : Int)).toNat wv)).sum - (((((i + 1 + j : Nat) : Int)) - (i : Int)) * (((i + 1 + j : Nat) : Int) - (i : Int) + 1)).fdiv 2 = spareZ wv i (i + 1 + j) := by
  unfold spareZ
  rw [Int.fdiv_eq_ediv_of_nonneg _ (by decide), Int.toNat_natCast, Int.toNat_natCast, Nat.min_eq_left (by omega)]
theorem rng_eq {i j : Nat} : rangeKs (i : Int) ((((i + 1 + j : Nat) : Int) - (i : Int)).toNat) = rngI i (i + 1 + j) := by
  unfold rangeKs rngI
  congr 2
  omega
theorem good_neg {st : List (List Int)} {wv : List Int} {i h : Nat} (hs : spareZ wv i h < 0) : goodLH st wv i h = false := by
  unfold goodLH
  rw [decide_eq_true hs]
  rfl
theorem good_ne {st : List (List Int)} {wv : List Int} {i h : Nat} (hs : ((spareZ wv i h == 0) != decide (rngI i h ∈ st)) = true) : goodLH st wv i h = false := by
  unfold goodLH
  have e : (spareZ wv i h == 0) = decide (spareZ wv i h = 0) := rfl
  rw [e] at hs
  cases h1 : decide (spareZ wv i h = 0) <;> cases h2 : decide (rngI i h ∈ st) <;> simp_all
theorem good_yes {st : List (List Int)} {wv : List Int} {i h : Nat} (hn : ¬ spareZ wv i h < 0) (hs : ((spareZ wv i h == 0) != decide (rngI i h ∈ st)) = false) : goodLH st wv i h = true := by
  unfold goodLH
  rw [decide_eq_false hn]
  have e : (spareZ wv i h == 0) = decide (spareZ wv i h = 0) := rfl
  rw [e] at hs
  cases h1 : decide (spareZ wv i h = 0) <;> cases h2 : decide (rngI i h ∈ st) <;> simp_all
theorem least_no {st : List (List Int)} {wv : List Int} {i j : Nat} (hi : i < 5) (hj : j < 5 - i) (hg : goodLH st wv i (i + 1 + j) = false) : leastB st wv = false :=
  allN_false (f := fun low => allN (fun j => goodLH st wv low (low + 1 + j)) (5 - low)) (allN_false (f := fun j => goodLH st wv i (i + 1 + j)) hg hj) hi

section
variable {w : World} {mean : ExcName → Option Value} {mg mb : Str → Option Value} {dp u : Nat} {gd : Option (List Code)} {cn : Str} {cs : Scope} {a : Addr} {ccd : Value} {cl : List (Str × Addr)} {outer : List Env} {A₀ : Around} {base h₀ : Heap} {L : Addr} {m : Str → Option Value} {news : Led} {s : Shared}
    {Q E : Value → Shared → Prop}
set_option maxRecDepth 100000 in
set_option maxHeartbeats 8000000 in
theorem c_least {ls lw : Addr} {vs ws : List Value} {nl nw : Nat} {st : List (List Int)} {wv : List Int}
    (B : Below A₀ base outer h₀) (F : Fr h₀ L s.heap m) (X : (hd.heap_39 w.params).In h₀) (N : News h₀ L s.heap news) (T : Top hd.view_39 LS mean mg mb h₀) (hk : cs.kind = .function)
    (hls : (ls, listOf vs.toArray nl) ∈ news) (hR : RowsIn news vs st) (hlw : (lw, listOf ws.toArray nw) ∈ news) (hI : IntsAre ws wv) (hl5 : wv.length = 5) (hs5 : st.length = 5) (hdp : dp + 10 < recursionLimit) (hun : u + 130 < cLine)
    (hret : ∀ h' tk', Fr h₀ L h' m → News h₀ L h' news → Q (.bool (leastB st wv)) { s with heap := h', toks := tk' }) :
    wpAny (model PySem.Challenge.rw_ti0051_01.row.prog w) (ktrTop dp u gd cn cs L a ccd cl outer) (call (.ref 237) [.ref ls, .ref lw]) Q E s := by
  have hfill9 : PySem.Challenge.rw_ti0051_01.foot = PySem.Challenge.rw_ti0051_01.foot ∧ hd.heap_39 = hd.heap_39 := by (k_fill; exact ⟨rfl, rfl⟩)
  clear hfill9
  w_top off
  have hIk : IntsAre ws wv ∧ True := ⟨hI, trivial⟩
  refine wpAny_call ?_
  k_dflt ktr_enter
  k_steps
  unfold Here
  rename_i g1 L1 hA FG1 FE NE B1 X1 T1
  refine For_invV g1 (by rfl) (by rfl) ?_
  k_steps
  unfold Here
  rename_i hR' tkR ta1 tb1 tc1 RR FR NR KR
  have hsz : Builtin.Range.rangeSize 0 5 1 = ((5 : Nat) : Int) := by rw [rangeSize_nat]; rfl
  obtain ⟨m0, hm0, FR0⟩ : ∃ m0 : Str → Option Value, m0 = (_ : Str → Option Value) ∧ Fr g1 L1 hR' m0 := ⟨_, rfl, FR⟩
  clear FR
  refine iter_mid (fun s' => ∃ h tk a b c, s' = { s with heap := h, toks := tk } ∧ Fr g1 L1 h (upd3 (Str.ofString "low") (Str.ofString "high") (Str.ofString "spare") a b c m0) ∧ News g1 L1 h news ∧ leastB st wv = true)
    (range_loop rfl FR0 NR RR (small_of (by omega) (by omega) (by omega) (by omega)) hsz (fun i m₁ nw => ∃ a b c, m₁ = upd3 (Str.ofString "low") (Str.ofString "high") (Str.ofString "spare") a b c m0 ∧ nw = news ∧ allN (fun low => allN (fun j => goodLH st wv low (low + 1 + j)) (5 - low)) i = true) ?_ ?_ ?_) ?_
  · exact ⟨_, _, _, upd3_self, rfl, rfl⟩
  · rintro i ui m₁ nwx I oI h tk9 hi ⟨av, bv, cv, rfl, hnw, hal⟩ off FT NT
    subst nwx
    rw [upd3_S, show (0 : Int) + (i : Int) * 1 = (i : Int) by omega] at FT
    replace FT : Fr g1 L1 h _ := FT
    replace NT : News g1 L1 h _ := NT
    have FTk : Fr g1 L1 h (upd3 (Str.ofString "low") (Str.ofString "high") (Str.ofString "spare") (some (.int (i : Int) ui)) bv cv m0) := FT
    subst hm0
    (try ((with_reducible show wpAny _ _ _ _ _ _); k_fold))
    k_steps
    unfold Here
    refine For_invV g1 (by rfl) (by rfl) ?_
    k_steps
    unfold Here
    rename_i hI2 tkI ia ib ic RI FI NI KI
    obtain ⟨m0, hm0, FI0⟩ : ∃ m0 : Str → Option Value, m0 = (_ : Str → Option Value) ∧ Fr g1 L1 hI2 (upd3 (Str.ofString "low") (Str.ofString "high") (Str.ofString "spare") (some (.int (i : Int) ui)) bv cv m0) := ⟨_, rfl, FI⟩
    clear FI
    have hsz2 : Builtin.Range.rangeSize ((i : Int) + 1) 6 1 = ((5 - i : Nat) : Int) := by rw [rangeSize_nat]; omega
    refine iter_mid (fun s' => ∃ h tk b c, s' = { s with heap := h, toks := tk } ∧ Fr g1 L1 h (upd3 (Str.ofString "low") (Str.ofString "high") (Str.ofString "spare") (some (.int (i : Int) ui)) b c m0) ∧ News g1 L1 h ((I, oI) :: news) ∧ allN (fun j => goodLH st wv i (i + 1 + j)) (5 - i) = true)
      (range_loop rfl FI0 NI RI (small_of (by omega) (by omega) (by omega) (by omega)) hsz2 (fun j m₁ nw => ∃ b c, m₁ = upd3 (Str.ofString "low") (Str.ofString "high") (Str.ofString "spare") (some (.int (i : Int) ui)) b c m0 ∧ nw = (I, oI) :: news ∧ allN (fun j => goodLH st wv i (i + 1 + j)) j = true) ?_ ?_ ?_) ?_
    · exact ⟨_, _, rfl, rfl, rfl⟩
    · rintro j uj m₁ nwy I2 oI2 h2 tk2 hj ⟨bv2, cv2, rfl, hnw2, hal2⟩ off2 FT2 NT2
      subst nwy
      rw [upd3_T (by decide), show (i : Int) + 1 + (j : Int) * 1 = ((i + 1 + j : Nat) : Int) by omega] at FT2
      replace FT2 : Fr g1 L1 h2 _ := FT2
      replace NT2 : News g1 L1 h2 _ := NT2
      subst hm0
      (try ((with_reducible show wpAny _ _ _ _ _ _); k_fold))
      k_steps
      have hmsI := kmk_run hIk.1 (x := (i : Int)) (y := ((i + 1 + j : Nat) : Int)) (by omega) (by omega)
      refine kmk_slice_ints (s := { s with heap := h2, toks := tk2 }) (lo := some (i : Int)) (hi := some ((i + 1 + j : Nat) : Int)) FT2 NT2 ⟨_, (NT2 _ (.tail _ (.tail _ hlw))).1, rfl, _, rfl⟩ (.int _ _) (.int _ _) hIk.1 hmsI rfl ?_ (by with_unfolding_all rfl) (by intro r; rfl) (by rw [List.size_toArray, hIk.1.length, hl5]; decide)
      intro D3 ws3 h3 F3 N3 l3 i3 _ _
      k_steps
      · rename_i FC NC tkC hspare
        repeat (first | k_unfold | unfold TurnEnd | unfold midQ | dsimp only)
        refine leaveK_ FC NC (fun kF kN => ?_)
        rw [spare_eq hl5 hj] at hspare
        rw [least_no hi hj (good_neg hspare)] at hret
        exact hret _ _ kF (cb_drop kN fun p hp => .tail _ (.tail _ (.tail _ hp)))
      · rename_i hspare hR5 tkR5 tR5 uR5 vR5 rgX5 kR5 D5 vs5 c5 h5 tk5 F5 N5 i5 l5
        have N5' : News g1 L1 h5 _ := N5
        obtain ⟨as5, hr5⟩ := hR.reads (News.perm N5' (fun p hp => .tail _ (.tail _ (.tail _ (.tail _ hp)))))
        refine PySem.SeqAt.in_list_reads (d := rowD (rangeKs (i : Int) ((((i + 1 + j : Nat) : Int) - (i : Int)).toNat))) (.list (N5' _ (.tail _ (.tail _ (.tail _ (.tail _ hls))))).1 rfl rfl hr5) (reads_newData ⟨_, (N5' _ (.head _)).1, rfl, _, rfl⟩ (ke_carried i5)) (rows_canLay st) (ke_canLayAll0 _) (row_units _ (by ktr_units)) ?_
        rw [any_rows, rng_eq]
        k_steps
        · rename_i hne
          repeat (first | k_unfold | unfold TurnEnd | unfold midQ | dsimp only)
          refine leaveK_ F5 N5 (fun kF kN => ?_)
          rw [spare_eq hl5 hj] at hspare hne
          rw [least_no hi hj (good_ne hne)] at hret
          exact hret _ _ kF (cb_drop kN fun p hp => .tail _ (.tail _ (.tail _ (.tail _ hp))))
        · rename_i hne
          rw [spare_eq hl5 hj] at hspare hne
          rw [upd3_U (by decide) (by decide)] at F5
          refine TurnEnd.next F5 (cb_drop N5 fun p hp => .tail _ (.tail _ hp)) off2 ⟨_, _, rfl, rfl, ?_⟩
          show (allN _ j && goodLH st wv i (i + 1 + j)) = true
          rw [hal2, Bool.true_and]
          exact good_yes hspare hne
    · rintro h2 tk2 m' nwy F' N' ⟨bv2, cv2, rfl, hnw2, hal2⟩
      subst nwy
      exact ⟨h2, tk2, bv2, cv2, rfl, F', N', hal2⟩
    · rintro s' ⟨h2, tk2, bv2, cv2, rfl, F', N', hal2⟩
      subst hm0
      (try ((with_reducible show wpAny _ _ _ _ _ _); k_fold))
      k_steps
      refine TurnEnd.next F' (cb_drop N' fun p hp => hp) off ⟨_, _, _, rfl, rfl, ?_⟩
      show (allN _ i && _) = true
      rw [hal, Bool.true_and]
      exact hal2
  · rintro h tk9 m' nwx F' N' ⟨av, bv, cv, rfl, hnw, hal⟩
    subst nwx
    exact ⟨h, tk9, av, bv, cv, rfl, F', N', hal⟩
  · rintro s' ⟨h, tk9, av, bv, cv, rfl, F', N', hal⟩
    subst hm0
    (try ((with_reducible show wpAny _ _ _ _ _ _); k_fold))
    k_steps
    rename_i kF kN Tc kX
    have := hret _ tk9 kF kN
    rw [hal] at this
    exact this
end
end
section
open PySem PySem.W PyProof.Rows
local macro_rules | `(tactic| k_all) => `(tactic| exact ne_of_all (by assumption) (by omega))
local macro_rules | `(tactic| walk_at "getMethod ref") => `(tactic| (k_here; with_reducible refine here_of ?_))
section
open PySem PySem.W PyProof.Rows

section
variable {w : World} {mean : ExcName → Option Value} {mg mb : Str → Option Value} {dp u : Nat} {gd : Option (List Code)} {cn : Str} {cs : Scope} {a : Addr} {ccd : Value} {cl : List (Str × Addr)} {outer : List Env} {A₀ : Around} {base h₀ : Heap} {L : Addr} {m : Str → Option Value} {news : Led} {s : Shared}
    {Q E : Value → Shared → Prop}
local macro_rules | `(tactic| walk_at "call builtin:list.append") => `(tactic| (k_here; with_reducible refine here_of ?_))
set_option maxRecDepth 100000 in
set_option maxHeartbeats 8000000 in
theorem c_push {x0 dx : Addr} {its : Array Value} {n : Nat} {f g : Str} {tf tg k1 t1 : Tok}
    (B : Below A₀ base outer h₀) (F : Fr h₀ L s.heap m) (X : (hd.heap_39 w.params).In h₀) (N : News h₀ L s.heap ((x0, accObj dx its n) :: news)) (T : Top hd.view_39 LS mean mg mb h₀) (hk : cs.kind = .function)
    (hx : ∀ p ∈ news, p.1 ≠ x0) (hd' : (dx, accDict w.params k1 t1) ∈ news) (hz : its.size ≤ 10000) (hdp : dp + 8 < recursionLimit) (hun : u + 60 < cLine)
    (hret : ∀ P n' t1 t2 h' tk', Fr h₀ L h' m → News h₀ L h' ((x0, accObj dx (its.push (.ref P)) n') :: (P, tupObj #[.str f t1, .str g t2] 0) :: news) → P ≠ x0 → (∀ p ∈ news, p.1 < P) → Q .none { s with heap := h', toks := tk' }) :
    wpAny (model PySem.Challenge.rw_ti0051_01.row.prog w) (ktrTop dp u gd cn cs L a ccd cl outer) (call (.ref 111) [.ref x0, .str f tf, .str g tg]) Q E s := by
  have hfill9 : PySem.Challenge.rw_ti0051_01.foot = PySem.Challenge.rw_ti0051_01.foot ∧ hd.heap_39 = hd.heap_39 := by (k_fill; exact ⟨rfl, rfl⟩)
  clear hfill9
  w_top off
  refine wpAny_call ?_
  k_dflt ktr_enter
  k_steps
  unfold Here
  rename_i g1 L1 hA FG1 F1 N1 B1 X1 T1
  refine method_desc (K := hd.heap_39 w.params) (X1.keeps F1.keep) (acc_inst N1 (.head _) (.tail _ hd')) (by k_is) (by k_is) (by k_is) type_list_append (by rfl) ?_
  k_steps
  unfold Here
  rename_i P hB FB NB lB
  have hmro : mroIn (hd.heap_39 w.params) 166 (.type "list") = some true := by k_is
  refine acc_append (dx := dx) (its := its) (n := n) (news := (P, tupObj #[.str f tf, .str g tg] 0) :: news) FB (X1.keeps FB.keep) hmro (cb_drop NB fun p hp => ?_) ?_ (.tail _ hd') hz ?_
  · rcases List.mem_cons.mp hp with h | h
    · exact h ▸ .tail _ (.head _)
    · rcases List.mem_cons.mp h with h | h
      · exact h ▸ .head _
      · exact .tail _ (.tail _ h)
  · intro p hp
    rcases List.mem_cons.mp hp with h | h
    · subst h; exact Nat.ne_of_gt lB.1
    · exact hx p h
  intro hC nC FC NC
  k_steps
  rename_i kF kN Tc kX
  exact hret P nC tf tg _ _ kF kN (Nat.ne_of_gt lB.1) (allLt_mem _ lB.2)
end
end
section
open PySem PySem.W PyProof.Rows

section
variable {w : World} {mean : ExcName → Option Value} {mg mb : Str → Option Value} {dp u : Nat} {gd : Option (List Code)} {cn : Str} {cs : Scope} {a : Addr} {ccd : Value} {cl : List (Str × Addr)} {outer : List Env} {A₀ : Around} {base h₀ : Heap} {L : Addr} {m : Str → Option Value} {news : Led} {s : Shared}
    {Q E : Value → Shared → Prop}
set_option maxRecDepth 100000 in
set_option maxHeartbeats 8000000 in
theorem c_pop {x0 dx : Addr} {its : Array Value} {n i : Nat} {ti k1 t1 : Tok}
    (B : Below A₀ base outer h₀) (F : Fr h₀ L s.heap m) (X : (hd.heap_39 w.params).In h₀) (N : News h₀ L s.heap ((x0, accObj dx its n) :: news)) (T : Top hd.view_39 LS mean mg mb h₀) (hk : cs.kind = .function)
    (hx : ∀ p ∈ news, p.1 ≠ x0) (hd' : (dx, accDict w.params k1 t1) ∈ news) (hz : its.size ≤ 10000) (hi : i ≤ its.size) (hdp : dp + 8 < recursionLimit) (hun : u + 60 < cLine)
    (hret : ∀ P n' np h' tk', Fr h₀ L h' m → News h₀ L h' ((x0, accObj dx (its.extract 0 i) n') :: (P, listOf (its.extract i its.size) np) :: news) → P ≠ x0 → (∀ p ∈ news, p.1 < P) → Q (.ref P) { s with heap := h', toks := tk' }) :
    wpAny (model PySem.Challenge.rw_ti0051_01.row.prog w) (ktrTop dp u gd cn cs L a ccd cl outer) (call (.ref 119) [.ref x0, .int (i : Int) ti]) Q E s := by
  have hfill9 : PySem.Challenge.rw_ti0051_01.foot = PySem.Challenge.rw_ti0051_01.foot ∧ hd.heap_39 = hd.heap_39 := by (k_fill; exact ⟨rfl, rfl⟩)
  clear hfill9
  w_top off
  refine wpAny_call ?_
  k_dflt (refine' code_def ?k1 ?k2 ?k3 ?k4 ?k5 ?kA ?kF ?kK ?k6 ?k7 ?k8 ?k9 ?kB ?_ ?c2 ?c3 ?c4 ?c5; (case kA => exact rfl); (case kF => exact rfl); (case kK => assumption); (case k1 => k_asm); (case k2 => k_asm); (case k3 => k_asm); (case k4 => k_asm); (case k5 => k_asm); (case k6 => k_is); (case k7 => k_is); (case k8 => ktr_room); (case k9 => first | exact BindsTo.of_eq rfl | exact binds_K (by k_in) rfl (by k_is) rfl rfl rfl); (case c5 => decide); (case kB => exact locs rfl); (case c2 => exact rfl); (case c3 => exact rfl); (case c4 => exact rfl); k_whole; intro g1 L1 hA FG1 F1 N1 B1 X1 T1; (try dsimp only); (try k_fold))
  k_steps
  have X1' := X1.keeps F1.keep
  have hmro : mroIn (hd.heap_39 w.params) 166 (.type "list") = some true := by k_is
  have hnos : noSeq (hd.heap_39 w.params) 166 = true := by k_is
  have hgi : findIn (hd.heap_39 w.params) (.ref 166) "__getitem__" = some (some (.builtin "list.__getitem__")) := by k_is
  have hsi : findIn (hd.heap_39 w.params) (.ref 166) "__setitem__" = some (some (.builtin "list.__setitem__")) := by k_is
  refine acc_slice (K := hd.heap_39 w.params) (s := { s with heap := hA, toks := tk }) (lo := some (i : Int)) (hi := none) F1 N1 (acc_inst N1 (.head _) (.tail _ hd')) (N1 _ (.tail _ hd')).1 X1' hnos hgi hmro (.int _ _) .none (by rw [sizeLine_eq]; omega) ?_ (by with_unfolding_all rfl) (by intro r; rfl)
  intro P hB FB NB lB
  k_steps
  rename_i hC1 D hC FC NC lC
  rw [pick_tail hi] at NC
  refine acc_setSlice' (K := hd.heap_39 w.params) (dx := dx) (its := its) (n := n) (nz := 0) (news := (D, listOf #[] 0) :: (P, listOf (its.extract i its.size) 0) :: news) FC (cb_drop NC fun p hp => ?_) ?_ (.tail _ (.tail _ hd')) (X1.keeps FC.keep) hnos hsi hmro (.head _) hz hi rfl ?_
  · rcases List.mem_cons.mp hp with h | h
    · exact h ▸ .tail _ (.tail _ (.head _))
    · rcases List.mem_cons.mp h with h | h
      · exact h ▸ .head _
      · rcases List.mem_cons.mp h with h | h
        · exact h ▸ .tail _ (.head _)
        · exact .tail _ (.tail _ (.tail _ h))
  · intro p hp
    rcases List.mem_cons.mp hp with h | h
    · subst h; exact Nat.ne_of_gt lC.2.1
    · rcases List.mem_cons.mp h with h | h
      · subst h; exact Nat.ne_of_gt (lB _ (.head _))
      · exact hx p h
  intro hE nE FE NE
  k_steps
  rename_i kF kN Tc kX
  exact hret P nE 0 _ _ kF (cb_drop kN fun p hp => by
    rcases List.mem_cons.mp hp with h | h
    · exact h ▸ .head _
    · exact .tail _ (.tail _ h)) (Nat.ne_of_gt (lB _ (.head _))) fun p hp => lB p (.tail _ hp)
set_option maxRecDepth 100000 in
set_option maxHeartbeats 8000000 in
theorem c_count {x0 dx : Addr} {its : Array Value} {n : Nat} {k1 t1 : Tok}
    (B : Below A₀ base outer h₀) (F : Fr h₀ L s.heap m) (X : (hd.heap_39 w.params).In h₀) (N : News h₀ L s.heap ((x0, accObj dx its n) :: news)) (T : Top hd.view_39 LS mean mg mb h₀) (hk : cs.kind = .function)
    (hx : ∀ p ∈ news, p.1 ≠ x0) (hd' : (dx, accDict w.params k1 t1) ∈ news) (hz : its.size ≤ 10000) (hdp : dp + 8 < recursionLimit) (hun : u + 60 < cLine)
    (hret : ∀ t h' tk', Fr h₀ L h' m → News h₀ L h' ((x0, accObj dx its n) :: news) → Q (.int (its.size : Int) t) { s with heap := h', toks := tk' }) :
    wpAny (model PySem.Challenge.rw_ti0051_01.row.prog w) (ktrTop dp u gd cn cs L a ccd cl outer) (call (.ref 163) [.ref x0]) Q E s := by
  have hfill9 : PySem.Challenge.rw_ti0051_01.foot = PySem.Challenge.rw_ti0051_01.foot ∧ hd.heap_39 = hd.heap_39 := by (k_fill; exact ⟨rfl, rfl⟩)
  clear hfill9
  w_top off
  refine wpAny_call ?_
  k_dflt (refine' ks_code_super ?k1 ?k2 ?k3 ?k4 ?k5 ?kA ?kF ?kK ?k6 ?k7 ?k8 ?k9 ?kB ?_ ?c1 ?c2 ?c3 ?c4; (case kA => exact rfl); (case kF => exact rfl); (case kK => first | assumption | exact rfl); (case k1 => k_asm); (case k2 => k_asm); (case k3 => k_asm); (case k4 => k_asm); (case k5 => k_asm); (case k6 => k_is); (case k7 => k_is); (case k8 => k_room); (case k9 => exact BindsTo.of_eq rfl); (case kB => exact locs rfl); (case c1 => decide); (case c2 => exact rfl); (case c3 => exact rfl); (case c4 => exact rfl); intro g1 L1 hA FG1 F1 N1 B1 X1 T1 l1; (try k_lt l1); (try dsimp only); (try k_lift B1))
  k_steps
  refine ks_node (x := x0) (C := 166) (D := 166) F1 X1 N1 T1 (by k_is) (by rfl) (by rfl) (acc_inst N1 (.head _) (.tail _ hd')) (by k_is) (by rfl) (by first | rfl | decide +kernel) (by k_is) (by k_is) (by k_is) (by k_is) (by decide) (by rfl) (by rfl) (by rfl) (by rfl) (by decide +kernel) (by first | boot_by_name | rfl | kernel_rfl) ?_
  intro so hB FB NB lB
  k_steps
  unfold Here
  have XB := X1.keeps FB.keep
  have IB := acc_inst (s := { s with heap := hB }) NB (.tail _ (.head _)) (.tail _ (.tail _ hd'))
  have hmro : mroIn (hd.heap_39 w.params) 166 (.type "list") = some true := by k_is
  have hop : nsIn (hd.heap_39 w.params) cStatics "thirdparty.any" = some none := by k_is
  obtain ⟨cd, hcd, hcm⟩ : ∃ cd, clsIn (hd.heap_39 w.params) 166 = some cd ∧ cd.mro = [.ref 166, .type "list", .type "object"] := ⟨_, rfl, rfl⟩
  have hne : x0 ≠ 166 := ks_ne XB IB hcd
  refine super_method_len (K := hd.heap_39 w.params) (C := 166) (D := 166) (l₀ := [.ref 166, .type "list", .type "object"]) (l := [.type "list", .type "object"]) (NB _ (.head _)).1 (looks_opaque XB hop) (mro_of (s := { s with heap := hB }) XB hcd hcm) (by rfl) XB (by first | k_is | rfl | kernel_rfl) (inst_of (s := { s with heap := hB }) XB IB hmro) hne ?_
  have kW : ∀ b o, hB.get? b = some o → (hB.push { cls := .type "method-wrapper", data := .fields #[.builtin "list.__len__", .ref x0] }).get? b = some o := fun _ _ e => Heap.get?_push_of_some _ e
  have hW : (hB.push { cls := .type "method-wrapper", data := .fields #[.builtin "list.__len__", .ref x0] }).get? hB.objs.size = some { cls := .type "method-wrapper", data := .fields #[.builtin "list.__len__", .ref x0] } := Heap.get?_push_at rfl rfl
  refine callWith_wrapper (x := x0) (id := "list.__len__") hW ?_
  refine wpAny_call (call_wrapper_len hW (run_len (dx := dx) (its := its) (n := n) (kW _ _ (NB _ (.tail _ (.head _))).1) ?_))
  intro t9 tk9
  have FW : Fr g1 L1 (hB.push { cls := .type "method-wrapper", data := .fields #[.builtin "list.__len__", .ref x0] }) _ := FB.push _
  have NW : News g1 L1 (hB.push { cls := .type "method-wrapper", data := .fields #[.builtin "list.__len__", .ref x0] }) _ := NB.grown kW
  k_steps
  rename_i kF kN Tc kX
  exact hret t9 _ tk9 kF (cb_drop kN fun p hp => .tail _ hp)
end
end
end
section
open PySem PySem.W PyProof.Rows
local macro_rules | `(tactic| k_all) => `(tactic| exact ne_of_all (by assumption) (by omega))
section
open PySem PySem.W PyProof.Rows

section
variable {w : World} {mean : ExcName → Option Value} {mg mb : Str → Option Value} {dp u : Nat} {gd : Option (List Code)} {cn : Str} {cs : Scope} {a : Addr} {ccd : Value} {cl : List (Str × Addr)} {outer : List Env} {A₀ : Around} {base h₀ : Heap} {L : Addr} {m : Str → Option Value} {news : Led} {s : Shared}
    {Q E : Value → Shared → Prop}
local macro_rules | `(tactic| walk_at "getMethod ref") => `(tactic| (k_here; with_reducible refine here_of ?_))
set_option maxRecDepth 100000 in
set_option maxHeartbeats 8000000 in
theorem c_acc {ti : Tok}
    (B : Below A₀ base outer h₀) (F : Fr h₀ L s.heap m) (X : (hd.heap_39 w.params).In h₀) (N : News h₀ L s.heap news) (T : Top hd.view_39 LS mean mg mb h₀) (hk : cs.kind = .function) (hdp : dp + 8 < recursionLimit) (hun : u + 60 < cLine)
    (hret : ∀ x0 dx n' k1 t1 h' tk', Fr h₀ L h' m → News h₀ L h' ((x0, accObj dx #[] n') :: (dx, accDict w.params k1 t1) :: news) → (∀ p ∈ news, p.1 < dx) → dx < x0 → Q (.ref x0) { s with heap := h', toks := tk' }) :
    wpAny (model PySem.Challenge.rw_ti0051_01.row.prog w) (ktrTop dp u gd cn cs L a ccd cl outer) (call (.ref 166) [.int 0 ti]) Q E s := by
  have hfill9 : PySem.Challenge.rw_ti0051_01.foot = PySem.Challenge.rw_ti0051_01.foot ∧ hd.heap_39 = hd.heap_39 := by (k_fill; exact ⟨rfl, rfl⟩)
  clear hfill9
  w_top off
  have Xs := X.keeps F.keep
  have YL : LMakes (model PySem.Challenge.rw_ti0051_01.row.prog w) s.heap 166 := lmakes_of Xs (C := 166) (by rfl) rfl rfl rfl rfl (by k_is) (by k_is)
  refine wpAny_call (lmake_K (fI := 104) F N Xs YL (by k_is) (by k_is) ?_)
  intro x0 dx hA FA NA lA lB
  have lB' : @LT.lt Nat _ dx x0 := lB
  clear Xs YL
  k_dflt (refine' ks_code_super ?k1 ?k2 ?k3 ?k4 ?k5 ?kA ?kF ?kK ?k6 ?k7 ?k8 ?k9 ?kB ?_ ?c1 ?c2 ?c3 ?c4; (case kA => exact rfl); (case kF => exact rfl); (case kK => first | assumption | exact rfl); (case k1 => k_asm); (case k2 => k_asm); (case k3 => k_asm); (case k4 => k_asm); (case k5 => k_asm); (case k6 => k_is); (case k7 => k_is); (case k8 => k_room); (case k9 => first | exact BindsTo.of_eq rfl | exact binds_K (by k_in) rfl (by k_is) rfl rfl rfl); (case kB => exact locs rfl); (case c1 => decide); (case c2 => exact rfl); (case c3 => exact rfl); (case c4 => exact rfl); intro g1 L1 hB FG1 F1 N1 B1 X1 T1 l1; (try k_lt l1); (try dsimp only); (try k_lift B1))
  k_steps
  obtain ⟨cd, hcd, hcm, hcdd⟩ : ∃ cd, clsIn (hd.heap_39 w.params) 166 = some cd ∧ cd.mro = [.ref 166, .type "list", .type "object"] ∧ cd.hasDict = true := ⟨_, rfl, rfl, rfl⟩
  have hxd : @Ne Nat x0 dx := Nat.ne_of_gt lB'
  have hnd : ∀ p ∈ news, p.1 ≠ dx := fun p hp => Nat.ne_of_lt (lA p hp)
  have hnx : ∀ p ∈ (dx, emptyDict) :: news, p.1 ≠ x0 := fun p hp => by
    rcases List.mem_cons.mp hp with h | h
    · subst h; exact Ne.symm hxd
    · exact Nat.ne_of_lt (Nat.lt_trans (lA p h) lB')
  refine acc_set (K := hd.heap_39 w.params) (C := 166) (pre := [(x0, accNew 166 dx)]) (post := news) (od := emptyDict) (od' := accDict w.params _ ti) (n := 1) (cd := cd) F1 N1 (X1.keeps F1.keep) (acc_inst (x := x0) (dx := dx) (its := #[]) (n := 0) N1 (.head _) (.tail _ (.head _))) rfl hcd hcm hcdd (by k_is) (by k_is) (by rfl) (fun p hp => ?_) hnd (by rfl) (by rfl) (by show 1 ≤ 1000; omega) ?_
  · rw [List.mem_singleton.mp hp]; exact hxd
  intro hC FC NC
  dsimp only
  refine ks_wpAt_execs_cons (ks_wpAt_Expr_any (ks_wpAt_MethodCall ?_))
  have NC' : News g1 L1 hC ((x0, accObj dx #[] 0) :: (dx, accDict w.params _ ti) :: news) := NC
  refine ks_node (x := x0) (C := 166) (D := 166) FC X1 NC' T1 (by k_is) (by rfl) (by rfl) (acc_inst (dx := dx) (its := #[]) (n := 0) NC' (.head _) (.tail _ (.head _))) (by k_is) (by rfl) (by first | rfl | decide +kernel) (by k_is) (by k_is) (by k_is) (by k_is) (by decide) (by rfl) (by rfl) (by rfl) (by rfl) (by decide +kernel) (by first | boot_by_name | rfl | kernel_rfl) ?_
  intro so hD FD ND lD
  k_steps
  unfold Here
  have XD := X1.keeps FD.keep
  have ID : InstAt hD x0 (accObj dx #[] 0) 166 (some (accDict w.params _ ti)) := acc_inst (s := { s with heap := hD }) ND (.tail _ (.head _)) (.tail _ (.tail _ (.head _)))
  have hmro : mroIn (hd.heap_39 w.params) 166 (.type "list") = some true := by k_is
  have hop : nsIn (hd.heap_39 w.params) cStatics "thirdparty.any" = some none := by k_is
  have hne : x0 ≠ 166 := ks_ne XD ID hcd
  refine super_method_init (K := hd.heap_39 w.params) (C := 166) (D := 166) (l₀ := [.ref 166, .type "list", .type "object"]) (l := [.type "list", .type "object"]) (ND _ (.head _)).1 (looks_opaque XD hop) (mro_of (s := { s with heap := hD }) XD hcd hcm) (by rfl) XD (by first | k_is | rfl | kernel_rfl) (inst_of (s := { s with heap := hD }) XD ID hmro) hne ?_
  have kW : ∀ b o, hD.get? b = some o → (hD.push { cls := .type "method-wrapper", data := .fields #[.builtin "list.__init__", .ref x0] }).get? b = some o := fun _ _ e => Heap.get?_push_of_some _ e
  have hW : (hD.push { cls := .type "method-wrapper", data := .fields #[.builtin "list.__init__", .ref x0] }).get? hD.objs.size = some { cls := .type "method-wrapper", data := .fields #[.builtin "list.__init__", .ref x0] } := Heap.get?_push_at rfl rfl
  have FW : Fr g1 L1 (hD.push { cls := .type "method-wrapper", data := .fields #[.builtin "list.__init__", .ref x0] }) _ := FD.push _
  have NW : News g1 L1 (hD.push { cls := .type "method-wrapper", data := .fields #[.builtin "list.__init__", .ref x0] }) _ := (cb_drop ND fun p hp => List.mem_cons_of_mem _ hp).grown kW
  refine callWith_wrapper (x := x0) (id := "list.__init__") hW ?_
  refine wpAny_call (call_wrapper_init hW (run_init (s := { s with heap := hD.push { cls := .type "method-wrapper", data := .fields #[.builtin "list.__init__", .ref x0] }, toks := _ }) FW NW (fun p hp => ?_) ?_))
  · rcases List.mem_cons.mp hp with h | h
    · subst h; exact Ne.symm hxd
    · exact Nat.ne_of_lt (Nat.lt_trans (lA p h) lB')
  intro hE nE FE NE
  k_steps
  rename_i kF kN Tc kX
  exact hret x0 dx nE _ ti _ tk kF kN lA lB
end
end
section
open PySem PySem.W PyProof.Rows

section
variable {M : Model} {A : Around} {E : Value → Shared → Prop} {s : Shared} {env : Env}
theorem spliced_one {x : Sem Value} {Q : List Value → Shared → Prop} (h : wpAny M A x (fun v s₁ => Q [v] s₁) E s) : wpAny M A (spliced [(false, x)]) Q E s :=
  PySem.Calls.spliced_cons (wpAny_mono h (fun _ _ h₁ => PySem.Calls.spliced_nil h₁) fun _ _ e => e)
theorem spliced_two {x y : Sem Value} {Q : List Value → Shared → Prop} (h : wpAny M A x (fun v s₁ => wpAny M A y (fun u s₂ => Q [v, u] s₂) E s₁) E s) : wpAny M A (spliced [(false, x), (false, y)]) Q E s :=
  PySem.Calls.spliced_cons (wpAny_mono h (fun _ _ h₁ => spliced_one h₁) fun _ _ e => e)
end
section
variable {w : World} {mean : ExcName → Option Value} {mg mb : Str → Option Value} {dp u : Nat} {gd : Option (List Code)} {cn : Str} {cs : Scope} {a : Addr} {ccd : Value} {cl : List (Str × Addr)} {outer : List Env} {A₀ : Around} {base h₀ : Heap} {L : Addr} {m : Str → Option Value} {news : Led} {s : Shared}
    {Q E : Value → Shared → Prop}
set_option maxRecDepth 100000 in
set_option maxHeartbeats 4000000 in
theorem elt_gen {A' : Around} {g1 : Heap} {C L1 bi : Addr} {code : Value} {sc0 : Scope} {f g : Str} {tf tg : Tok} {m₂ : Str → Option Value}
    (X : (hd.heap_39 w.params).In g1) (T : Top hd.view_39 LS mean mg mb g1) (F : Fr g1 C s.heap m₂) (N : News g1 C s.heap []) (hma : m₂ (Str.ofString "fws") = some (.str f tf)) (hmb : m₂ (Str.ofString "part") = some (.str g tg)) (hsz : f.length + g.length ≤ 1000)
    (hQ : ∀ t h' tk', (∀ b o, s.heap.get? b = some o → h'.get? b = some o) → Q (.str (f ++ g) t) { s with heap := h', toks := tk' }) :
    wpAny (model PySem.Challenge.rw_ti0051_01.row.prog w) A' (eval (.Call (.Attribute (.Name (Str.ofString "EMPTYSTRING") ⟨84, 33, 84, 44⟩) (Str.ofString "join") ⟨84, 33, 84, 49⟩) [.Tuple [.Name (Str.ofString "fws") ⟨84, 51, 84, 54⟩, .Name (Str.ofString "part") ⟨84, 56, 84, 60⟩] 0 ⟨84, 50, 84, 61⟩] [] ⟨84, 33, 84, 62⟩)
      (genEnv { kind := .function, names := [(Str.ofString ".0", .local), (Str.ofString "fws", .local), (Str.ofString "part", .local), (Str.ofString "EMPTYSTRING", .globalImplicit)], isGenerator := true, isCoroutine := false } [] C code bi (envOf (Str.ofString "_Accumulator.__str__") sc0 L1 140 (.ref 139)))) Q E s := by
  have hfill9 : PySem.Challenge.rw_ti0051_01.foot = PySem.Challenge.rw_ti0051_01.foot ∧ hd.heap_39 = hd.heap_39 := by (k_fill; exact ⟨rfl, rfl⟩)
  clear hfill9
  w_top off
  refine MethodCall_ ?_
  refine PySem.Calls.Name_function_global rfl rfl (PySem.Calls.loadGlobal_global (env := genEnv _ _ _ _ _ _) (mg := mg) (v := .str (Str.ofString "") 298) (T.g.keeps F.keep) (mg_of X T.g (by k_is)) ?_) (by decide)
  refine PySem.getMethod_builtin (T := "str") (typeIs_str _ _ _) PySem.F.plainAttrs_str PySem.F.slot_str_join PySem.F.type_str_join (fun a e => nomatch e) ?_
  refine callWith_method1 (spliced_one ?_)
  rw [if_neg Bool.false_ne_true]
  refine wpAny_Tuple (k := 0) (spliced_two ?_)
  try rw [if_neg Bool.false_ne_true]
  refine wpAny_Name (wpAny_loadName_local (m := m₂) rfl rfl F.ns hma ?_) (by decide)
  try rw [if_neg Bool.false_ne_true]
  refine wpAny_Name (wpAny_loadName_local (m := m₂) rfl rfl F.ns hmb ?_) (by decide)
  refine ⟨by rw [sizeLine_eq]; show 2 ≤ 16777216; omega, ?_⟩
  show wpAny _ _ (call (.builtin "str.join") [.str (Str.ofString "") 298, .ref s.heap.objs.size]) _ _ _
  refine join_tuple (ys := [f, g]) ⟨_, Heap.get?_push_at rfl rfl, rfl, _, rfl⟩ (.cons _ _ (.cons _ _ .nil)) ?_ ?_
  · have : (Str.ofString "").length = 0 := rfl
    simp only [List.map_cons, List.map_nil, List.sum_cons, List.sum_nil, List.length_cons, List.length_nil, this]
    omega
  · intro t' k
    have e : Txt.join (Str.ofString "") [f, g] = f ++ g := by
      show Str.join (Str.ofString "") [f, g] = f ++ g
      have : ∀ x : Str, x ++ Str.ofString "" = x := fun x => by cases x with | mk c => show (⟨c ++ #[]⟩ : Str) = _; rw [Array.append_empty]
      show f ++ Str.ofString "" ++ g = f ++ g
      rw [this]
    rw [e]
    exact hQ t' _ k fun b o e => Heap.get?_push_of_some _ e
end
end
end
section
open PySem PySem.W PyProof.Rows
local macro_rules | `(tactic| k_all) => `(tactic| exact ne_of_all (by assumption) (by omega))

section
variable {w : World} {mean : ExcName → Option Value} {mg mb : Str → Option Value} {dp u : Nat} {gd : Option (List Code)} {cn : Str} {cs : Scope} {a : Addr} {ccd : Value} {cl : List (Str × Addr)} {outer : List Env} {A₀ : Around} {base h₀ : Heap} {L : Addr} {m : Str → Option Value} {news : Led} {s : Shared}
    {Q E : Value → Shared → Prop}

set_option maxRecDepth 100000 in
set_option maxHeartbeats 8000000 in
theorem c_str {x0 dx P1 : Addr} {n : Nat} {f g : Str} {tf tg k1 t1 : Tok}
    (B : Below A₀ base outer h₀) (F : Fr h₀ L s.heap m) (X : (hd.heap_39 w.params).In h₀) (N : News h₀ L s.heap ((135, tabObj) :: (x0, accObj dx #[.ref P1] n) :: (P1, tupObj #[.str f tf, .str g tg] 0) :: news)) (T : Top hd.view_39 LS mean mg mb h₀) (hk : cs.kind = .function)
    (hd' : (dx, accDict w.params k1 t1) ∈ news) (hdp : dp + 8 < recursionLimit) (hun : u + 60 < cLine) (hsz : f.length + g.length ≤ 1000) (hn135 : ∀ p ∈ news, p.1 ≠ 135) (hG : AllBare s.gens)
    (hret : ∀ t h' gs tk' ps, AllBare gs → Fr h₀ L h' m → News h₀ L h' ((135, tabF ps) :: (x0, accObj dx #[.ref P1] n) :: (P1, tupObj #[.str f tf, .str g tg] 0) :: news) → Q (.str (f ++ g) t) { s with heap := h', gens := gs, toks := tk' }) :
    wpAny (model PySem.Challenge.rw_ti0051_01.row.prog w) (ktrTop dp u gd cn cs L a ccd cl outer) (call (.type "str") [.ref x0]) Q E s := by
  have hfill9 : PySem.Challenge.rw_ti0051_01.foot = PySem.Challenge.rw_ti0051_01.foot ∧ hd.heap_39 = hd.heap_39 := by (k_fill; exact ⟨rfl, rfl⟩)
  clear hfill9
  w_top off
  refine str_K (K := hd.heap_39 w.params) (f := 140) (by ktr_units) (X.keeps F.keep) (acc_inst N (.tail _ (.head _)) (.tail _ (.tail _ (.tail _ hd')))) (by k_is) (by k_is) ?_
  refine wpAny_call ?_
  k_dflt ktr_enter
  k_steps
  rename_i g1 L1 hA FG1 F1 N1 B1 X1 T1
  (try k_fold)
  have X1' := X1.keeps F1.keep
  obtain ⟨bm, ob, M1⟩ := bmod_of_top T1
  obtain ⟨vs, hvs, h11, h11', ⟨file, tfl, h18⟩, ⟨flags, tgl, h7⟩, ⟨inF, h9⟩, ⟨text, tt, h10⟩⟩ : ∃ vs, (hd.heap_39 w.params).lookup 139 = some { cls := .type "code", data := .fields vs } ∧ vs.getD 11 .none = .ref 135 ∧ vs[11]? = some (.ref 135) ∧ (∃ file tf, vs.getD 18 .none = .str file tf) ∧
      (∃ flags tg, vs.getD 7 .none = .int flags tg) ∧ (∃ inF, vs.getD 9 .none = .bool inF) ∧ (∃ text tt, vs.getD 10 .none = .int text tt) := ⟨_, rfl, rfl, rfl, ⟨_, _, rfl⟩, ⟨_, _, rfl⟩, ⟨_, rfl⟩, ⟨_, _, rfl⟩⟩
  refine wpAny_GeneratorExp_walksQT (cl := []) (by rfl) (by rfl) (by with_unfolding_all rfl) (by decide) (by rfl) (by rfl) (by rfl) (by decide) (by rfl) (by ktr_room) ?_ (by intro x; rfl)
  k_steps
  unfold Here
  refine acc_iter (K := hd.heap_39 w.params) X1' (acc_inst N1 (.tail _ (.head _)) (.tail _ (.tail _ (.tail _ hd')))) (by k_is) (by k_is) ?_
  refine ⟨(T1.nolimit.keeps F1.keep).push _, ?_⟩
  have kI : ∀ b o, hA.get? b = some o → (hA.push { cls := .type "list_iterator", data := .fields #[.ref x0, .int 0 0] }).get? b = some o := fun _ _ e => Heap.get?_push_of_some _ e
  have h139 : hA.get? 139 = some { cls := .type "code", data := .fields vs } := X1' _ _ hvs
  have h135 : hA.get? 135 = some tabObj := (N1 _ (.head _)).1
  refine wpAny_genexprCodeX (c := 139) (P := 135) (ps := #[]) rfl ⟨_, vs, file, tfl, flags, tgl, inF, text, tt, tabObj, kI _ _ h139, rfl, h11, h18, h7, h9, h10, kI _ _ h135, rfl, by first | exact trivial | constructor | simp [TriplesOk], by decide⟩ ⟨⟨_, vs, kI _ _ h139, rfl, rfl, h11'⟩, kI _ _ h135⟩ (by rfl) ?_
  intro c' hC tkC hxC hgeC hltC hcodeC hrecC htabC _
  have k135 : g1.get? 135 = none := (N1 _ (.head _)).2.2
  have kC2 : ∀ b o, b ≠ 135 → hA.get? b = some o → hC.get? b = some o := fun b o hb e => hxC b o hb (kI _ _ e)
  have kC : ∀ b o, g1.get? b = some o → hC.get? b = some o := fun b o e => kC2 b o (by rintro rfl; rw [k135] at e; cases e) (F1.keep b o e)
  have hszC : hA.objs.size < hC.objs.size := by
    have h1 : (hA.push { cls := .type "list_iterator", data := .fields #[.ref x0, .int 0 0] }).objs.size ≤ c' := hgeC
    rw [Heap.size_push] at h1
    omega
  refine wpAny_builtinsFor (m := mg) (bm := bm) (o := ob) (M1.ns.keeps kC) M1.name M1.ne (kC _ _ M1.obj) M1.cls M1.dict M1.data ?_
  have hx0 := (N1 _ (.tail _ (.head _))).1
  have hp1 := (N1 _ (.tail _ (.tail _ (.head _)))).1
  have lx0 : x0 < hA.objs.size := Heap.lt_size hx0
  have lp1 : P1 < hA.objs.size := Heap.lt_size hp1
  refine ⟨hA.objs.size, [hA.objs.size, x0, P1], [hA.objs.size], 1, (fun _ v => v = #[.str f tf, .str g tg]), _, _, (fun _ => true), (fun _ y => ∃ t, y = .str (f ++ g) t), rfl, (fun A' hA' => li_walks hA' hA.objs.size x0 P1 (Nat.ne_of_lt lx0) #[.str f tf, .str g tg] (Nat.ne_of_lt lp1)), (fun i vals e => ⟨_, _, e⟩), ?_, ?_, ?_, ?_, ?_, ?_⟩
  · have n1 : x0 ≠ 135 := fun e => by rw [e, h135] at hx0; cases hx0
    have n2 : P1 ≠ 135 := fun e => by rw [e, h135] at hp1; cases hp1
    have n3 : hA.objs.size ≠ 135 := Nat.ne_of_gt (Heap.lt_size h135)
    exact ⟨⟨_, hxC _ _ n3 (Heap.get?_push_at rfl rfl), rfl, rfl⟩, ⟨_, _, kC2 _ _ n1 hx0, rfl⟩, ⟨_, kC2 _ _ n2 hp1, rfl, _, rfl⟩⟩
  · intro b hb
    show b < hC.objs.size
    rcases List.mem_cons.mp hb with rfl | hb
    · exact hszC
    · rcases List.mem_cons.mp hb with rfl | hb
      · exact Nat.lt_trans lx0 hszC
      · rw [List.mem_singleton.mp hb]; exact Nat.lt_trans lp1 hszC
  · exact T1.nolimit.keeps kC
  · intro hm
    have : cStatics < hA.objs.size := let ⟨_, hn, _⟩ := T1.nolimit.keeps F1.keep; hn.lt
    rw [← List.mem_singleton.mp hm] at this
    exact Nat.lt_irrefl _ this
  · intro href hhref
    refine ⟨?_, ?_⟩
    · intro A' E' i va vb s₂ m₂ hA' hP hns hma hmb hkp
      exact wpAny_pure ⟨rfl, s₂.heap, s₂.toks, rfl, fun _ _ e => e⟩
    · intro A' E' i va vb s₂ m₂ hA' hP hpz hns hma hmb hkp
      have e1 : va = .str f tf ∧ vb = .str g tg := by
        injection hP with hP
        injection hP with a b
        injection b with b
        exact ⟨a, b⟩
      obtain ⟨rfl, rfl⟩ := e1
      have kG : ∀ b o, g1.get? b = some o → s₂.heap.get? b = some o := fun b o e => by
        have hb := Heap.lt_size (kC b o e)
        have hI : b ≠ hA.objs.size := Nat.ne_of_lt (Heap.lt_size (F1.keep b o e))
        exact hkp b (List.mem_range.mpr hb) (fun q => hI (List.mem_singleton.mp q)) o (hhref b o (kC b o e))
      have F2 : Fr g1 hC.objs.size s₂.heap m₂ := ⟨hns, kG, Nat.le_trans F1.above (Nat.le_of_lt (Nat.lt_trans F1.ns.lt hszC))⟩
      have N2 : News g1 hC.objs.size s₂.heap [] := fun _ hp => nomatch hp
      refine elt_gen (X1) T1 F2 N2 hma hmb hsz ?_
      intro t2 h2 tk2 hk2
      exact ⟨⟨t2, rfl⟩, h2, tk2, rfl, hk2⟩
  · intro a5 h5 tk5 gs5 hgb hag hsz5 hk5 W5 hat5
    show wpAny _ _ (spliced []) _ _ _
    refine Calls.spliced_nil ?_
    show wpAny _ _ (call (.builtin "str.join") [.str (Str.ofString "") 298, .ref a5]) _ _ _
    have lL1 : L1 < hA.objs.size := F1.ns.lt
    have eP : (passing (fun _ => true) 1 0).length = 1 := by rfl
    refine SC.joinGen W5.in4_2 (fun i s' st => st.1.typeIs) hat5 ?_ (List.mem_cons_self ..) ?_ ?_ (by rw [eP, sizeLine_eq]; decide)
    · intro b hb
      show b < h5.objs.size
      have hag' : hC.objs.size < a5 := hag
      rw [hsz5]
      rcases List.mem_cons.mp hb with rfl | hb
      · exact Nat.lt_succ_self _
      · rcases List.mem_cons.mp hb with rfl | hb
        · exact Nat.lt_succ_of_lt hag
        · exact Nat.lt_succ_of_lt (Nat.lt_trans (List.mem_range.mp hb) hag)
    · rintro i v ⟨i', _, t, rfl⟩
      exact ⟨_, _, rfl⟩
    · intro s' l hm hit
      obtain ⟨hE, gE, dE, tE, oE⟩ := s'
      have hl : ∃ t, l = [(f ++ g, t)] := by
        obtain ⟨h1, h2⟩ := hit
        rw [eP] at h1
        have h3 : l.length = 1 := by simpa [strValues] using h1
        match l, h3 with
        | [(y, t)], _ =>
          obtain ⟨i', _, t2, e⟩ := h2 0 (.str y t) rfl
          injection e with e1 e2
          exact ⟨t, by rw [e1]⟩
      obtain ⟨t, rfl⟩ := hl
      have hdr : dE = s.drawn := hm.drawn
      have hos : oE = s.os := hm.os
      subst hdr hos
      refine ⟨?_, ?_⟩
      · show (!decide (0 + (f ++ g).length + (Str.ofString "").length > sizeLine)) = true
        rw [len_app, sizeLine_eq]
        have : (Str.ofString "").length = 0 := rfl
        rw [this, decide_eq_false (by omega)]
        rfl
      · intro t' k
        have kE : ∀ b o, b ≠ 135 → hA.get? b = some o → hE.get? b = some o := fun b o hb e => by
          have hlt := Heap.lt_size e
          refine hm.heap b o ?_ (hk5 _ _ (kC2 b o hb e))
          intro q
          rcases List.mem_cons.mp q with q | q
          · have : b < hC.objs.size := Nat.lt_trans hlt hszC
            rw [q] at this
            exact Nat.lt_irrefl _ this
          · rw [List.mem_singleton.mp q] at hlt
            exact Nat.lt_irrefl _ hlt
        have n1 : x0 ≠ 135 := fun e => by rw [e, h135] at hx0; cases hx0
        have n2 : P1 ≠ 135 := fun e => by rw [e, h135] at hp1; cases hp1
        have n3 : L1 ≠ 135 := Ne.symm (N1 _ (.head _)).2.1
        have FE : Fr g1 L1 hE _ := ⟨let ⟨oL, es, ep, hL, r⟩ := F1.ns; ⟨oL, es, ep, kE _ _ n3 hL, r⟩, fun b o e => kE b o (by rintro rfl; rw [k135] at e; cases e) (F1.keep b o e), F1.above⟩
        have hGE : AllBare gE := AllBare.movedS (AllBare.push hG hgb) hm
        have hTE := hm.heap 135 _ (by
          intro q
          have hlt := Heap.lt_size h135
          rcases List.mem_cons.mp q with q | q
          · have : 135 < hC.objs.size := Nat.lt_trans hlt hszC
            rw [q] at this
            exact Nat.lt_irrefl _ this
          · rw [List.mem_singleton.mp q] at hlt
            exact Nat.lt_irrefl _ hlt) (hk5 _ _ htabC.2)
        have NE : News g1 L1 hE ((135, tabF _) :: (x0, accObj dx #[.ref P1] n) :: (P1, tupObj #[.str f tf, .str g tg] 0) :: news) := fun p hp => by
          rcases List.mem_cons.mp hp with h | hp
          · rw [h]; exact ⟨hTE, (N1 _ (.head _)).2⟩
          have z := N1 p (.tail _ hp)
          refine ⟨kE _ _ ?_ z.1, z.2⟩
          rcases List.mem_cons.mp hp with h | h
          · rw [h]; exact n1
          · rcases List.mem_cons.mp h with h | h
            · rw [h]; exact n2
            · exact hn135 _ h
        refine leaveK_ FE NE (fun kF kN => ?_)
        exact hret t' _ _ _ _ hGE kF kN
end
end
section
open PySem PySem.W PyProof.Rows
local macro_rules | `(tactic| k_all) => `(tactic| exact ne_of_all (by assumption) (by omega))

inductive RdJ (P : Params) (news : Led) (dx x0 As Aw Ak : Addr) (k1 t1 : Tok) (zl : List Int) (m0 : Str → Option Value) (i : Nat) (m₁ : Str → Option Value) (nw : Led) : Prop
  | mk (S : RS) (a b c d e : Option Value) (vs : List Value) (n1 : Nat) (sts : List Value) (n2 : Nat) (ws : List Value) (n3 : Nat) (ks : List Value) (n4 : Nat) (rest : Led) (h1 : m₁ = upd5 (Str.ofString "number") (Str.ofString "first") (Str.ofString "sign") (Str.ofString "second") (Str.ofString "place") a b c d e m0)
    (h2 : nw = (x0, accObj dx (List.toArray vs) n1) :: (As, listOf (List.toArray sts) n2) :: (Aw, listOf (List.toArray ws) n3) :: (Ak, listOf (List.toArray ks) n4) :: rest) (h3 : RdOk P ((135, tabObj) :: news) dx x0 As Aw Ak k1 t1 S vs sts ws ks rest) (h4 : readAll S0 (zl.take i) = some S) (h5 : S.k.length ≤ i) : RdJ P news dx x0 As Aw Ak k1 t1 zl m0 i m₁ nw
inductive RdQ (P : Params) (news : Led) (dx x0 As Aw Ak : Addr) (k1 t1 : Tok) (zl : List Int) (m0 : Str → Option Value) (s : Shared) (g1 : Heap) (L1 : Addr) (s' : Shared) : Prop
  | mk (h : Heap) (tk : Nat) (S : RS) (a b c d e : Option Value) (vs : List Value) (n1 : Nat) (sts : List Value) (n2 : Nat) (ws : List Value) (n3 : Nat) (ks : List Value) (n4 : Nat) (rest : Led) (h1 : s' = { s with heap := h, toks := tk })
    (h2 : Fr g1 L1 h (upd5 (Str.ofString "number") (Str.ofString "first") (Str.ofString "sign") (Str.ofString "second") (Str.ofString "place") a b c d e m0)) (h3 : News g1 L1 h ((x0, accObj dx (List.toArray vs) n1) :: (As, listOf (List.toArray sts) n2) :: (Aw, listOf (List.toArray ws) n3) :: (Ak, listOf (List.toArray ks) n4) :: rest))
    (h4 : RdOk P ((135, tabObj) :: news) dx x0 As Aw Ak k1 t1 S vs sts ws ks rest) (h5 : readAll S0 zl = some S) : RdQ P news dx x0 As Aw Ak k1 t1 zl m0 s g1 L1 s'
section
variable {w : World} {mean : ExcName → Option Value} {mg mb : Str → Option Value} {dp u : Nat} {gd : Option (List Code)} {cn : Str} {cs : Scope} {a : Addr} {ccd : Value} {cl : List (Str × Addr)} {outer : List Env} {A₀ : Around} {base h₀ : Heap} {L : Addr} {m : Str → Option Value} {news : Led} {s : Shared}
    {Q E : Value → Shared → Prop}
local macro_rules | `(tactic| k_all) => `(tactic| assumption)
local macro_rules | `(tactic| walk_at "subscriptTail Name UnaryOp str int") => `(tactic| (k_here; with_reducible refine here_of ?_))
local macro_rules | `(tactic| walk_at "subscriptTail Name Constant str int") => `(tactic| (k_here; with_reducible refine here_of ?_))
local macro_rules | `(tactic| walk_at "setItem") => `(tactic| (k_here; with_reducible refine here_of ?_))
local macro_rules | `(tactic| walk_at "getMethod ref") => `(tactic| (k_here; with_reducible refine here_of ?_))
local macro_rules | `(tactic| walk_at "call type:str") => `(tactic| (k_here; with_reducible refine here_of ?_))
set_option maxRecDepth 100000 in
set_option maxHeartbeats 8000000 in
theorem c_isnt {z : Int} {tz : Tok}
    (B : Below A₀ base outer h₀) (F : Fr h₀ L s.heap m) (X : (hd.heap_39 w.params).In h₀) (N : News h₀ L s.heap news) (T : Top hd.view_39 LS mean mg mb h₀) (hk : cs.kind = .function) (hdp : dp + 8 < recursionLimit)
    (hret : ∀ h' tk', Fr h₀ L h' m → News h₀ L h' news → Q (.bool (decide (256 ≤ z))) { s with heap := h', toks := tk' }) :
    wpAny (model PySem.Challenge.rw_ti0051_01.row.prog w) (ktrTop dp u gd cn cs L a ccd cl outer) (call (.ref 180) [.int z tz]) Q E s := by
  have hfill9 : PySem.Challenge.rw_ti0051_01.foot = PySem.Challenge.rw_ti0051_01.foot ∧ hd.heap_39 = hd.heap_39 := by (k_fill; exact ⟨rfl, rfl⟩)
  clear hfill9
  w_top off
  refine wpAny_call ?_
  k_dflt ktr_enter
  k_steps
  rename_i kF kN Tc kX
  (try k_fold)
  exact hret _ _ kF kN
set_option maxRecDepth 100000 in
set_option maxHeartbeats 8000000 in
theorem c_read {x : Str} {t1 : Tok} {lo n : Nat} {st' : List (List Int)} {wo' ki' : List Int}
    (B : Below A₀ base outer h₀) (F : Fr h₀ L s.heap m) (X : (hd.heap_39 w.params).In h₀) (N : News h₀ L s.heap ((135, tabObj) :: news)) (T : Top hd.view_39 LS mean mg mb h₀) (hk : cs.kind = .function)
    (e1 : x.length ≤ 1000) (hn135 : ∀ p ∈ news, p.1 ≠ 135) (hn6 : n ≤ 6) (hrun : readAll S0 (lexF (x.length + 1) x.cps.toList) = some ⟨[.word lo n], st', wo', ki'⟩) (hdp : dp + 12 < recursionLimit) (hun : u + 130 < cLine)
    (hGen0 : AllBare s.gens)
    (hret : ∀ D As Aw Ak sts ws ks a1 a2 a3 t rest h' gs tk' ps, AllBare gs → Fr h₀ L h' m → News h₀ L h' ((D, tupObj #[.str (letS lo n) t, .ref As, .ref Aw, .ref Ak] 0) :: (As, listOf (List.toArray sts) a1) :: (Aw, listOf (List.toArray ws) a2) :: (Ak, listOf (List.toArray ks) a3) :: (135, tabF ps) :: rest) → (∀ p ∈ news, p ∈ rest) →
      RowsIn rest sts st' → IntsAre ws wo' → IntsAre ks ki' → Q (.ref D) { s with heap := h', gens := gs, toks := tk' }) :
    wpAny (model PySem.Challenge.rw_ti0051_01.row.prog w) (ktrTop dp u gd cn cs L a ccd cl outer) (call (.ref 230) [.str x t1]) Q E s := by
  have hfill9 : PySem.Challenge.rw_ti0051_01.foot = PySem.Challenge.rw_ti0051_01.foot ∧ hd.heap_39 = hd.heap_39 := by (k_fill; exact ⟨rfl, rfl⟩)
  clear hfill9
  w_top off
  refine wpAny_call ?_
  k_dflt ktr_enter
  k_steps
  unfold Here
  rename_i g1 L1 hA FG1 F1 N1 B1 X1 T1
  (try k_fold)
  refine c_acc B1 F1 X1 N1 T1 rfl (by ktr_room) (by ktr_units) ?_
  intro x0 dx nB k1 tk1 hB tkB FB NB lB1 lB2
  have lB3 : @LT.lt Nat _ dx x0 := lB2
  k_steps
  unfold Here
  rename_i A1 hC1 lC1 A2 hC FC NC lC
  (try k_fold)
  refine mulK FC NC (.head _) (by omega) (by omega) (by simp only [List.size_toArray, List.length_cons, List.length_nil]; omega) ?_
  intro As hD FD ND lD
  k_steps
  unfold Here
  rename_i W1 hE FE NE lE
  (try k_fold)
  refine mulK FE NE (.head _) (by omega) (by omega) (by simp only [List.size_toArray, List.length_cons, List.length_nil]; omega) ?_
  intro Aw hG FG NG lG
  k_steps
  unfold Here
  rename_i W2 hH FH NH lH
  (try k_fold)
  refine mulK FH NH (.head _) (by omega) (by omega) (by simp only [List.size_toArray, List.length_cons, List.length_nil]; omega) ?_
  intro Ak hI FI NI lI
  k_steps
  unfold Here
  rename_i zt1 zt2 zt3 zt4 zt5 zt6 zt7 zt8 zt9 FJ0 NJ0
  (try k_fold)
  refine For_invV g1 (by rfl) (by rfl) ?_
  k_steps
  unfold Here
  refine c_numbers B1 FJ0 X1 NJ0 T1 rfl e1 (by ktr_room) (by ktr_units) ?_
  intro Dn zs nz hJ tkJ FJ NJ hIz lJ
  k_steps
  unfold Here
  generalize hzl : lexF (x.length + 1) x.cps.toList = zl at hrun hIz
  have hIzk : IntsAre zs zl ∧ True := ⟨hIz, trivial⟩
  have hzlen : zl.length ≤ 1001 := by rw [← hzl]; exact Nat.le_trans (lexF_len _ _) (by omega)
  obtain ⟨m0, hm0, FJ1⟩ : ∃ m0 : Str → Option Value, m0 = (_ : Str → Option Value) ∧ Fr g1 L1 hJ m0 := ⟨_, rfl, FJ⟩
  obtain ⟨rest0, hrest0⟩ : ∃ rest0 : Led, rest0 = (A1, listOf #[] 0) :: (dx, accDict w.params k1 tk1) :: (135, tabObj) :: news := ⟨_, rfl⟩
  have lxs : @LT.lt Nat _ x0 As := lD (x0, _) (.tail _ (.tail _ (.head _)))
  have lsw : @LT.lt Nat _ As Aw := lG (As, _) (.tail _ (.head _))
  have lwk : @LT.lt Nat _ Aw Ak := lI (Aw, _) (.tail _ (.head _))
  have lkd : @LT.lt Nat _ Ak Dn := lJ (Ak, _) (.tail _ (.head _))
  have lr0 : ∀ p ∈ rest0, @LT.lt Nat _ p.1 As := fun p hp => by
    subst hrest0
    rcases List.mem_cons.mp hp with h | hp
    · rw [h]; exact lD (A1, _) (.tail _ (.head _))
    · exact lD p (.tail _ (.tail _ (.tail _ hp)))
  have lr1 : ∀ p ∈ rest0, p.1 ≠ x0 := fun p hp => by
    subst hrest0
    rcases List.mem_cons.mp hp with h | hp
    · rw [h]; exact Nat.ne_of_gt lC1.1
    rcases List.mem_cons.mp hp with h | hp
    · rw [h]; exact Nat.ne_of_lt lB3
    · exact Nat.ne_of_lt (Nat.lt_trans (lB1 p hp) lB3)
  have NL : News g1 L1 hJ ((Dn, listOf zs.toArray nz) :: (x0, accObj dx (List.toArray []) nB) :: (As, listOf (List.replicate 5 (.ref A1)).toArray 0) :: (Aw, listOf (List.replicate 5 (.int 0 (tkB + 1))).toArray 0) :: (Ak, listOf (List.replicate 5 (.int 0 (tkB + 1 + 1 + 1))).toArray 0) :: rest0) := by
    subst hrest0
    exact cb_drop NJ led_start
  have OK0 : RdOk w.params ((135, tabObj) :: news) dx x0 As Aw Ak k1 tk1 S0 [] (List.replicate 5 (.ref A1)) (List.replicate 5 (.int 0 (tkB + 1))) (List.replicate 5 (.int 0 (tkB + 1 + 1 + 1))) rest0 := by
    have hA1 : (A1, listOf (List.toArray []) 0) ∈ rest0 := by rw [hrest0]; exact .head _
    refine ⟨.nil, .cons A1 [] 0 [] hA1 .nil (.cons A1 [] 0 [] hA1 .nil (.cons A1 [] 0 [] hA1 .nil (.cons A1 [] 0 [] hA1 .nil (.cons A1 [] 0 [] hA1 .nil .nil)))), ints_rep _ 5, ints_rep _ 5, by rw [hrest0]; exact .tail _ (.head _), fun p hp => by rw [hrest0]; exact .tail _ (.tail _ hp), rfl, rfl, rfl, lr1,
      fun p hp => Nat.ne_of_lt (lr0 p hp), fun p hp => Nat.ne_of_lt (Nat.lt_trans (lr0 p hp) lsw), fun p hp => Nat.ne_of_lt (Nat.lt_trans (lr0 p hp) (Nat.lt_trans lsw lwk))⟩
  try clear NJ
  try clear lJ
  try clear lI
  try clear NI
  try clear lH
  try clear NH
  try clear lG
  try clear NG
  try clear lE
  try clear NE
  try clear lD
  try clear ND
  try clear lC
  try clear NC
  try clear lC1
  try clear lB1
  try clear NB
  try clear NJ0
  try clear FJ0
  try clear FJ
  try clear FI
  try clear FH
  try clear FG
  try clear FE
  try clear FD
  try clear FC
  try clear FB
  try clear F1
  try clear N1
  try clear zt3
  refine iter_mid (RdQ w.params news dx x0 As Aw Ak k1 tk1 zl m0 s g1 L1) (list_loop rfl FJ1 NL rfl rfl (RdJ w.params news dx x0 As Aw Ak k1 tk1 zl m0) ?_ ?_ ?_) ?_
  · exact ⟨S0, _, _, _, _, _, [], nB, _, 0, _, 0, _, 0, rest0, upd5_self, rfl, OK0, rfl, Nat.le_refl _⟩
  · rintro i u m₁ nw I oI h tk9 hu hJ1 offI hDI FT NT
    (try k_fold)
    obtain ⟨S, av, bv, cv, dv, ev, vs, n1, sts, n2, ws, n3, ks, n4, rest, rfl, hnw, OK, hS, hSl⟩ := hJ1
    obtain ⟨z, tz, rfl, hz⟩ := hIzk.1.at i u (by simpa using hu)
    obtain ⟨S', hst, hS'⟩ := readAll_take hrun hz hS
    obtain ⟨hz0, hz1⟩ := readStep_range hst
    subst hnw
    rw [upd5_1] at FT
    replace FT : Fr g1 L1 h _ := FT
    replace NT : News g1 L1 h _ := NT
    subst hm0
    k_steps
    unfold Here
    have hx0n : ∀ p ∈ (I, oI) :: (Dn, listOf zs.toArray nz) :: (As, listOf (List.toArray sts) n2) :: (Aw, listOf (List.toArray ws) n3) :: (Ak, listOf (List.toArray ks) n4) :: rest, p.1 ≠ x0 := fun p hp => by
      rcases List.mem_cons.mp hp with h | hp
      · subst h; exact Ne.symm (offI _ (.head _))
      rcases List.mem_cons.mp hp with h | hp
      · subst h; exact Nat.ne_of_gt (Nat.lt_trans lxs (Nat.lt_trans lsw (Nat.lt_trans lwk lkd)))
      rcases List.mem_cons.mp hp with h | hp
      · subst h; exact Nat.ne_of_gt lxs
      rcases List.mem_cons.mp hp with h | hp
      · subst h; exact Nat.ne_of_gt (Nat.lt_trans lxs lsw)
      rcases List.mem_cons.mp hp with h | hp
      · subst h; exact Nat.ne_of_gt (Nat.lt_trans lxs (Nat.lt_trans lsw lwk))
      exact OK.f1 p hp
    have hil : i < 1001 := by
      have : i < zl.length := by
        rcases Nat.lt_or_ge i zl.length with q | q
        · exact q
        · rw [List.getElem?_eq_none q] at hz; cases hz
      omega
    refine c_isnt B1 FT X1 NT T1 rfl (by ktr_room) ?_
    intro hK tkK FK NK
    k_steps
    · rename_i hge
      (try k_fold)
      unfold Here
      have XK := X1.keeps FK.keep
      have IK : InstAt hK x0 (accObj dx (List.toArray vs) n1) 166 (some (accDict w.params k1 tk1)) := acc_inst (s := { s with heap := hK }) NK (.tail _ (.tail _ (.head _))) (.tail _ (.tail _ (.tail _ (.tail _ (.tail _ (.tail _ OK.dct))))))
      refine method_accfn (K := hd.heap_39 w.params) (f := 111) XK IK (by k_is) (by k_is) (by k_is) (by k_is) (by rfl) ?_
      k_steps
      unfold Here
      refine c_push (dx := dx) (its := List.toArray vs) (n := n1) (k1 := k1) (t1 := tk1) (news := (I, oI) :: (Dn, listOf zs.toArray nz) :: (As, listOf (List.toArray sts) n2) :: (Aw, listOf (List.toArray ws) n3) :: (Ak, listOf (List.toArray ks) n4) :: rest) B1 FK X1 (cb_drop NK fun p hp => ?_) T1 rfl ?_ (.tail _ (.tail _ (.tail _ (.tail _ (.tail _ OK.dct))))) ?_ (by ktr_room) (by ktr_units) ?_
      · exact led_front p hp
      · exact hx0n
      · rw [List.size_toArray, OK.pcs.length]; omega
      intro P n' ta tb hM tkM FM NM hP lP
      k_steps
      have eS : S' = { S with k := S.k ++ [(Pc.word (z - 256).toNat 1)] } := by
        unfold readStep at hst
        rw [if_pos hge, if_pos hz1] at hst
        exact (Option.some.inj hst).symm
      subst eS
      rw [List.push_toArray] at NM
      have hIP : P ≠ I := Nat.ne_of_gt (lP _ (.head _))
      have hP2 : P ≠ As := Nat.ne_of_gt (lP (As, _) (.tail _ (.tail _ (.head _))))
      have hP3 : P ≠ Aw := Nat.ne_of_gt (lP (Aw, _) (.tail _ (.tail _ (.tail _ (.head _)))))
      have hP4 : P ≠ Ak := Nat.ne_of_gt (lP (Ak, _) (.tail _ (.tail _ (.tail _ (.tail _ (.head _))))))
      refine TurnEnd.next FM (cb_drop NM led_back) (off_back (c' := (0, oI)) offI rfl hIP) ⟨_, _, _, _, _, _, vs ++ [.ref P], n', sts, n2, ws, n3, ks, n4, _, rfl, rfl, OK.push (.word (z - 256).toNat 1) (by show (Str.ofString "", letS _ 1) = _; rw [letS_one z hge]) hP hP2 hP3 hP4, hS', ?_⟩
      simp only [List.length_append, List.length_cons, List.length_nil]
      omega
    · rename_i hge hz8
      (try k_fold)
      unfold Here
      have XK := X1.keeps FK.keep
      have IK : InstAt hK x0 (accObj dx (List.toArray vs) n1) 166 (some (accDict w.params k1 tk1)) := acc_inst (s := { s with heap := hK }) NK (.tail _ (.tail _ (.head _))) (.tail _ (.tail _ (.tail _ (.tail _ (.tail _ (.tail _ OK.dct))))))
      refine method_accfn (K := hd.heap_39 w.params) (f := 111) XK IK (by k_is) (by k_is) (by k_is) (by k_is) (by rfl) ?_
      k_steps
      unfold Here
      refine c_push (dx := dx) (its := List.toArray vs) (n := n1) (k1 := k1) (t1 := tk1) (news := (I, oI) :: (Dn, listOf zs.toArray nz) :: (As, listOf (List.toArray sts) n2) :: (Aw, listOf (List.toArray ws) n3) :: (Ak, listOf (List.toArray ks) n4) :: rest) B1 FK X1 (cb_drop NK fun p hp => ?_) T1 rfl ?_ (.tail _ (.tail _ (.tail _ (.tail _ (.tail _ OK.dct))))) ?_ (by ktr_room) (by ktr_units) ?_
      · exact led_front p hp
      · exact hx0n
      · rw [List.size_toArray, OK.pcs.length]; omega
      intro P n' ta tb hM tkM FM NM hP lP
      k_steps
      have eS : S' = { S with k := S.k ++ [(Pc.sign z.toNat)] } := by
        unfold readStep at hst
        rw [if_neg hge, if_pos hz8, if_pos hz0] at hst
        exact (Option.some.inj hst).symm
      subst eS
      rw [List.push_toArray] at NM
      have hIP : P ≠ I := Nat.ne_of_gt (lP _ (.head _))
      have hP2 : P ≠ As := Nat.ne_of_gt (lP (As, _) (.tail _ (.tail _ (.head _))))
      have hP3 : P ≠ Aw := Nat.ne_of_gt (lP (Aw, _) (.tail _ (.tail _ (.tail _ (.head _)))))
      have hP4 : P ≠ Ak := Nat.ne_of_gt (lP (Ak, _) (.tail _ (.tail _ (.tail _ (.tail _ (.head _))))))
      refine TurnEnd.next FM (cb_drop NM led_back) (off_back (c' := (0, oI)) offI rfl hIP) ⟨_, _, _, _, _, _, vs ++ [.ref P], n', sts, n2, ws, n3, ks, n4, _, rfl, rfl, OK.push (.sign z.toNat) rfl hP hP2 hP3 hP4, hS', ?_⟩
      simp only [List.length_append, List.length_cons, List.length_nil]
      omega
    · rename_i hge hz8
      (try k_fold)
      subst hz8
      unfold Here
      have XK := X1.keeps FK.keep
      have IK : InstAt hK x0 (accObj dx (List.toArray vs) n1) 166 (some (accDict w.params k1 tk1)) := acc_inst (s := { s with heap := hK }) NK (.tail _ (.tail _ (.head _))) (.tail _ (.tail _ (.tail _ (.tail _ (.tail _ (.tail _ OK.dct))))))
      refine method_accfn (K := hd.heap_39 w.params) (f := 119) XK IK (by k_is) (by k_is) (by k_is) (by k_is) (by rfl) ?_
      k_steps
      unfold Here
      refine method_accfn (K := hd.heap_39 w.params) (f := 163) XK IK (by k_is) (by k_is) (by k_is) (by k_is) (by rfl) ?_
      k_steps
      unfold Here
      obtain ⟨rk, p0, lo1, q1, z', q2, hk4, hq1, hq2, hq3, rfl⟩ := readStep_close hst
      have hpc := OK.pcs
      rw [hk4] at hpc
      obtain ⟨us, ws4, rfl, hus, hws⟩ := hpc.split
      obtain ⟨b0, b1, b2, b3, s1, s2, s3, s4, s5, s6, rfl, hb1, hb2, hb3⟩ := hws.four
      have husl := hus.length
      refine c_count (dx := dx) (its := List.toArray (us ++ [.ref b0, .ref b1, .ref b2, .ref b3])) (n := n1) (k1 := k1) (t1 := tk1) (news := (I, oI) :: (Dn, listOf zs.toArray nz) :: (As, listOf (List.toArray sts) n2) :: (Aw, listOf (List.toArray ws) n3) :: (Ak, listOf (List.toArray ks) n4) :: rest) B1 FK X1 (cb_drop NK fun p hp => ?_) T1 rfl ?_ (.tail _ (.tail _ (.tail _ (.tail _ (.tail _ OK.dct))))) ?_ (by ktr_room) (by ktr_units) ?_
      · exact led_front p hp
      · exact hx0n
      · rw [List.size_toArray, OK.pcs.length]; omega
      intro tL hL tkL FL NL2
      k_steps
      unfold Here
      rw [four_size]
      refine c_pop (dx := dx) (its := List.toArray (us ++ [.ref b0, .ref b1, .ref b2, .ref b3])) (n := n1) (i := us.length) (k1 := k1) (t1 := tk1) (news := (I, oI) :: (Dn, listOf zs.toArray nz) :: (As, listOf (List.toArray sts) n2) :: (Aw, listOf (List.toArray ws) n3) :: (Ak, listOf (List.toArray ks) n4) :: rest) B1 FL X1 NL2 T1 rfl hx0n (.tail _ (.tail _ (.tail _ (.tail _ (.tail _ OK.dct))))) ?_ ?_ (by ktr_room) (by ktr_units) ?_
      · rw [List.size_toArray, OK.pcs.length]; omega
      · rw [List.size_toArray, List.length_append]; omega
      intro P nP np hM tkM FM NM hP lP
      rw [four_head, four_tail] at NM
      have lP2 : @LT.lt Nat _ I P := lP _ (.head _)
      have lP3 : @LT.lt Nat _ Dn P := lP (Dn, _) (.tail _ (.head _))
      have NM3 : News g1 L1 hM ((b1, tupObj #[.str (Str.ofString "") s1, .str (letS lo1 q1) s2] 0) :: (b2, tupObj #[.str ⟨#[z']⟩ s3, .str (Str.ofString "") s4] 0) :: (b3, tupObj #[.str (Str.ofString "") s5, .str (letS (lo1 + q1) q2) s6] 0) :: (x0, accObj dx (List.toArray us) nP) :: (P, listOf #[.ref b0, .ref b1, .ref b2, .ref b3] np) :: (I, oI) :: (Dn, listOf zs.toArray nz) :: (As, listOf (List.toArray sts) n2) :: (Aw, listOf (List.toArray ws) n3) :: (Ak, listOf (List.toArray ks) n4) :: rest) := cb_drop NM fun p hp => by
        rcases List.mem_cons.mp hp with h | hp
        · rw [h]; exact .tail _ (.tail _ (.tail _ (.tail _ (.tail _ (.tail _ (.tail _ hb1))))))
        rcases List.mem_cons.mp hp with h | hp
        · rw [h]; exact .tail _ (.tail _ (.tail _ (.tail _ (.tail _ (.tail _ (.tail _ hb2))))))
        rcases List.mem_cons.mp hp with h | hp
        · rw [h]; exact .tail _ (.tail _ (.tail _ (.tail _ (.tail _ (.tail _ (.tail _ hb3))))))
        exact hp
      clear NM
      have hf1 := OK.f1
      have hf2 := OK.f2
      have hf3 := OK.f3
      have hf4 := OK.f4
      have ha1 : @Ne Nat b1 As := OK.f2 _ hb1
      have ha2 : @Ne Nat b2 As := OK.f2 _ hb2
      have ha3 : @Ne Nat b3 As := OK.f2 _ hb3
      have hw1 : @Ne Nat b1 Aw := OK.f3 _ hb1
      have hw2 : @Ne Nat b2 Aw := OK.f3 _ hb2
      have hw3 : @Ne Nat b3 Aw := OK.f3 _ hb3
      have hk1 : @Ne Nat b1 Ak := OK.f4 _ hb1
      have hk2 : @Ne Nat b2 Ak := OK.f4 _ hb2
      have hk3 : @Ne Nat b3 Ak := OK.f4 _ hb3
      have hI1 : @Ne Nat As I := offI (As, _) (.tail _ (.head _))
      have hI2 : @Ne Nat Aw I := offI (Aw, _) (.tail _ (.tail _ (.head _)))
      have hI3 : @Ne Nat Ak I := offI (Ak, _) (.tail _ (.tail _ (.tail _ (.head _))))
      k_steps
      unfold Here
      refine KXi.item (n := q1) (letS_len _ _) (by omega) (by omega) (by omega) (fun _ => ?_) (by with_unfolding_all rfl) (by intro _; with_unfolding_all rfl)
      rw [item_last hq1]
      k_steps
      unfold Here
      refine KXi.item (n := q1) (letS_len _ _) (by omega) (by omega) (by omega) (fun _ => ?_) (by with_unfolding_all rfl) (by intro _; with_unfolding_all rfl)
      rw [item_first hq1]
      k_steps
      unfold Here
      refine KXi.item (n := q2) (letS_len _ _) (by omega) (by omega) (by omega) (fun _ => ?_) (by with_unfolding_all rfl) (by intro _; with_unfolding_all rfl)
      rw [item_last hq2]
      k_steps
      rename_i DL hZ1 lDL hZ2 hZ3 hZ4 hZ5 tkZ1 xZ1 hZ6 xZ2 xZ3 hZ7 tkZ2 zt1' zu1' zv1' rgZ kZ G gs cG hG tkG FG' NG' hIG lG
      (try k_fold)
      have lG0 : x0 < G := lG.2.2.2.2.1
      have hGA : As < G ∧ Aw < G ∧ Ak < G ∧ I < G ∧ Dn < G := ⟨lG.2.2.2.2.2.2.2.2.1, lG.2.2.2.2.2.2.2.2.2.1, lG.2.2.2.2.2.2.2.2.2.2.1, lG.2.2.2.2.2.2.1, lG.2.2.2.2.2.2.2.1⟩
      have hpl : (((97 + (lo1 + q1 - 1) : Nat) : Int) - 97) = ((lo1 + q1 - 1 : Nat) : Int) := by omega
      rw [rng_eq2 lo1 q1 q2 hq2] at hIG
      have hIGk : IntsAre gs (rngI lo1 (lo1 + q1 + q2 - 1)) ∧ True := ⟨hIG, trivial⟩
      rw [hpl] at FG' ⊢
      have hstl : sts.length = 5 := OK.rows.length.trans OK.l1
      have hwsl : ws.length = 5 := OK.wo.length.trans OK.l2
      have hksl : ks.length = 5 := OK.ki.length.trans OK.l3
      have hx1 : @Ne Nat b1 x0 := OK.f1 _ hb1
      have hx2 : @Ne Nat b2 x0 := OK.f1 _ hb2
      have hx3 : @Ne Nat b3 x0 := OK.f1 _ hb3
      have gN1 : @Ne Nat G As := Nat.ne_of_gt hGA.1
      have gN2 : @Ne Nat G Aw := Nat.ne_of_gt hGA.2.1
      have gN3 : @Ne Nat G Ak := Nat.ne_of_gt hGA.2.2.1
      have gN4 : @Ne Nat G I := Nat.ne_of_gt hGA.2.2.2.1
      have gN0 : @Ne Nat G x0 := Nat.ne_of_gt lG0
      refine set_any FG' (cb_drop NG' led_pick) (led_ne gN1 ha1 ha2 ha3 (Nat.ne_of_lt lxs) (Ne.symm hI1) (Nat.ne_of_gt (Nat.lt_trans lsw (Nat.lt_trans lwk lkd))) (Nat.ne_of_gt lsw) (Nat.ne_of_gt (Nat.lt_trans lsw lwk)) hf2) (by omega) (by omega) (by omega) ?_
      intro hS FS NS
      rw [Int.toNat_natCast] at NS
      clear NG' lDL
      have hle1 : (letS lo1 q1).length = q1 := letS_len _ _
      have hle2 : (letS (lo1 + q1) q2).length = q2 := letS_len _ _
      have hle3 : (letS lo1 q1).length ≤ 1000 := by omega
      have hle4 : (letS (lo1 + q1) q2).length ≤ 1000 := by omega
      k_steps
      unfold Here
      have nDw : @Ne Nat Dn Aw := Nat.ne_of_gt (Nat.lt_trans lwk lkd)
      have nDk : @Ne Nat Dn Ak := Nat.ne_of_gt lkd
      refine set_any FS (cb_drop NS led_rotA) (led_ne gN2 hw1 hw2 hw3 (Nat.ne_of_lt (Nat.lt_trans lxs lsw)) (Ne.symm hI2) nDw (Nat.ne_of_lt lsw) (Nat.ne_of_gt lwk) hf3) (by omega) (by omega) (by omega) ?_
      intro hU FU NU
      rw [Int.toNat_natCast, hle1, hle2, ← Int.natCast_mul] at NU
      k_steps
      unfold Here
      refine set_any FU (cb_drop NU led_rotW) (led_ne gN3 hk1 hk2 hk3 (Nat.ne_of_lt (Nat.lt_trans lxs (Nat.lt_trans lsw lwk))) (Ne.symm hI3) nDk (Nat.ne_of_lt (Nat.lt_trans lsw lwk)) (Nat.ne_of_lt lwk) hf4) (by omega) (by omega) (by omega) ?_
      intro hV FV NV
      rw [Int.toNat_natCast] at NV
      k_steps
      unfold Here
      have NV2 := cb_drop NV led_rotK
      have XV := X1.keeps FV.keep
      have IV : InstAt hV x0 (accObj dx (List.toArray us) nP) 166 (some (accDict w.params k1 tk1)) := acc_inst (s := { s with heap := hV }) NV2 (.head _) (.tail _ (.tail _ (.tail _ (.tail _ (.tail _ (.tail _ (.tail _ (.tail _ (.tail _ (.tail _ OK.dct))))))))))
      refine method_accfn (K := hd.heap_39 w.params) (f := 111) XV IV (by k_is) (by k_is) (by k_is) (by k_is) (by rfl) ?_
      clear NV
      k_steps
      unfold Here
      refine c_push (dx := dx) (its := List.toArray us) (n := nP) (k1 := k1) (t1 := tk1) (news := (G, listOf (List.toArray gs) cG) :: (b1, tupObj #[.str (Str.ofString "") s1, .str (letS lo1 q1) s2] 0) :: (b2, tupObj #[.str ⟨#[z']⟩ s3, .str (Str.ofString "") s4] 0) :: (b3, tupObj #[.str (Str.ofString "") s5, .str (letS (lo1 + q1) q2) s6] 0) :: (I, oI) :: (Dn, listOf zs.toArray nz) :: _) B1 FV X1 NV2 T1 rfl ?_ (.tail _ (.tail _ (.tail _ (.tail _ (.tail _ (.tail _ (.tail _ (.tail _ (.tail _ OK.dct))))))))) ?_ (by ktr_room) (by ktr_units) ?_
      · exact led_ne gN0 hx1 hx2 hx3 (Ne.symm (offI _ (.head _))) (Nat.ne_of_gt (Nat.lt_trans lxs (Nat.lt_trans lsw (Nat.lt_trans lwk lkd)))) (Nat.ne_of_gt lxs) (Nat.ne_of_gt (Nat.lt_trans lxs lsw)) (Nat.ne_of_gt (Nat.lt_trans lxs (Nat.lt_trans lsw lwk))) hf1
      · rw [List.size_toArray, husl]
        have := hSl
        rw [hk4, List.length_append] at this
        omega
      intro R nR ta tb hR tkR FR NR hRx lR
      k_steps
      rw [List.push_toArray, letS_app] at NR
      rw [upd5_turn] at FR
      have hRA : @Ne Nat R As := Nat.ne_of_gt (lR (As, _) (.tail _ (.tail _ (.tail _ (.tail _ (.tail _ (.tail _ (.head _))))))))
      have hRW : @Ne Nat R Aw := Nat.ne_of_gt (lR (Aw, _) (.tail _ (.tail _ (.tail _ (.tail _ (.tail _ (.tail _ (.tail _ (.head _)))))))))
      have hRK : @Ne Nat R Ak := Nat.ne_of_gt (lR (Ak, _) (.tail _ (.tail _ (.tail _ (.tail _ (.tail _ (.tail _ (.tail _ (.tail _ (.head _))))))))))
      have hRI : @Ne Nat R I := Nat.ne_of_gt (lR (I, _) (.tail _ (.tail _ (.tail _ (.tail _ (.head _))))))
      have OK2 := fun u1 u2 : Tok => OK.close (u1 := u1) (u2 := u2) (extra := []) hus (lo := lo1) (n1 := q1) (n2 := q2) (z' := z') (D := R) (G := G) (ta := ta) (tb := tb) (c := cG) (k := lo1 + q1 - 1) (f := Str.ofString "") (g := letS lo1 (q1 + q2)) rfl hIGk.1 (fun p hp => by
        rcases List.mem_cons.mp hp with h | h
        · subst h; exact ⟨hRx, hRA, hRW, hRK⟩
        · rw [List.mem_singleton.mp h]; exact ⟨gN0, gN1, gN2, gN3⟩)
      refine TurnEnd.next FR (cb_drop NR (led_end hb1 hb2 hb3)) (off_end offI rfl rfl rfl rfl hRI gN4) ⟨_, _, _, _, _, _, us ++ [.ref R], nR, _, n2, _, n3, _, n4, _, rfl, rfl, OK2 _ _, hS', ?_⟩
      have := hSl
      rw [hk4, List.length_append] at this
      simp only [List.length_append, List.length_cons, List.length_nil] at this ⊢
      omega
  · rintro h tk9 m' nw F' N' hJ2
    (try k_fold)
    obtain ⟨S, av, bv, cv, dv, ev, vs, n1, sts, n2, ws, n3, ks, n4, rest, rfl, hnw, OK, hS, hSl⟩ := hJ2
    subst hnw
    refine ⟨h, tk9, S, av, bv, cv, dv, ev, vs, n1, sts, n2, ws, n3, ks, n4, rest, rfl, F', N', OK, ?_⟩
    rw [← hS]
    congr 1
    rw [List.size_toArray, hIzk.1.length, List.take_length]
  · rintro s' hJ3
    (try k_fold)
    obtain ⟨h, tk9, S, av, bv, cv, dv, ev, vs, n1, sts, n2, ws, n3, ks, n4, rest, rfl, F', N', OK, hS⟩ := hJ3
    rw [hrun] at hS
    cases hS
    subst hm0
    k_steps
    unfold Here
    obtain ⟨a1, sa, sb, rfl, hm1⟩ := OK.pcs.one
    have h135 : h.get? 135 = some tabObj := (N' _ (.tail _ (.tail _ (.tail _ (.tail _ (OK.old _ (.head _))))))).1
    have NN : News g1 L1 h ((135, tabObj) :: (x0, accObj dx #[.ref a1] n1) :: (a1, tupObj #[.str (Str.ofString "") sa, .str (letS lo n) sb] 0) :: (As, listOf (List.toArray sts) n2) :: (Aw, listOf (List.toArray ws) n3) :: (Ak, listOf (List.toArray ks) n4) :: no135 rest) := cb_drop N' fun p hp => by
      rcases List.mem_cons.mp hp with h | hp
      · rw [h]; exact .tail _ (.tail _ (.tail _ (.tail _ (OK.old _ (.head _)))))
      rcases List.mem_cons.mp hp with h | hp
      · rw [h]; exact .head _
      rcases List.mem_cons.mp hp with h | hp
      · rw [h]; exact .tail _ (.tail _ (.tail _ (.tail _ hm1)))
      rcases List.mem_cons.mp hp with h | hp
      · rw [h]; exact .tail _ (.head _)
      rcases List.mem_cons.mp hp with h | hp
      · rw [h]; exact .tail _ (.tail _ (.head _))
      rcases List.mem_cons.mp hp with h | hp
      · rw [h]; exact .tail _ (.tail _ (.tail _ (.head _)))
      exact .tail _ (.tail _ (.tail _ (.tail _ (no135_sub hp))))
    have NR : News g1 L1 h rest := cb_drop N' fun p hp => .tail _ (.tail _ (.tail _ (.tail _ hp)))
    have hRR : RowsIn (no135 rest) sts st' ∧ True := ⟨OK.rows.no135 NR h135, trivial⟩
    refine c_str (dx := dx) (k1 := k1) (t1 := tk1) B1 F' X1 NN T1 rfl (.tail _ (.tail _ (.tail _ (no135_mem OK.dct (ne135 NR h135 OK.dct (by intro e; cases e)))))) (by ktr_room) (by ktr_units) ?_ ?_ ?_ ?_
    · rw [letS_len]
      have : (Str.ofString "").length = 0 := rfl
      omega
    · intro p hp
      rcases List.mem_cons.mp hp with h | hp
      · rw [h]; exact ne135 N' h135 (.tail _ (.head _)) (by intro e; cases e)
      rcases List.mem_cons.mp hp with h | hp
      · rw [h]; exact ne135 N' h135 (.tail _ (.tail _ (.head _))) (by intro e; cases e)
      rcases List.mem_cons.mp hp with h | hp
      · rw [h]; exact ne135 N' h135 (.tail _ (.tail _ (.tail _ (.head _)))) (by intro e; cases e)
      exact no135_ne hp
    · exact hGen0
    intro tS hS gsS tkS psS hGS FS NS
    rw [empty_app]
    k_steps
    rename_i DD hDD FDD NDD lDD kF kN Tc kX
    (try k_fold)
    refine hret DD As Aw Ak sts ws ks n2 n3 n4 tS (no135 rest) _ gsS tkS psS hGS kF (cb_drop kN fun p hp => ?_) (fun p hp => no135_mem (OK.old _ (.tail _ hp)) (hn135 p hp)) hRR.1 OK.wo OK.ki
    simp only [List.mem_cons] at hp ⊢
    rcases hp with h | h | h | h | h | h <;> simp [h]
end
end
end
end
end
section
open PySem PySem.W PyProof.Rows
local macro_rules | `(tactic| omega) => `(tactic| lia)
section
open PySem PySem.W PyProof.Rows
theorem app_list (x y : Str) : (x ++ y).cps.toList = x.cps.toList ++ y.cps.toList := by
  show (x.cps ++ y.cps).toList = _
  rw [Array.toList_append]
noncomputable def noTwo (c : Nat) : Bool := tokTab.all fun p => !(p.1.cps.size == 2 && p.1.cps[0]? == some c)
theorem two_none {c d : Nat} (h : noTwo c = true) : tokNum tokTab ⟨#[c, d]⟩ = none := by
  unfold tokNum
  rw [Option.map_eq_none_iff, List.find?_eq_none]
  intro p hp
  have := List.all_eq_true.mp h p hp
  intro hq
  have e : p.1 = ⟨#[c, d]⟩ := by simpa using hq
  rw [e] at this
  simp at this
theorem lex_lone {c : Nat} {v : Int} (h : noTwo c = true) (h1 : tokNum tokTab ⟨#[c]⟩ = some v) (f : Nat) (cs : List Nat) : lexF (f + 1) (c :: cs) = v :: lexF f cs := by
  cases cs with
  | nil =>
    show (match tokNum tokTab ⟨#[c]⟩ with | some v => v :: lexF f [] | none => _) = _
    rw [h1]
  | cons d ds =>
    show (match tokNum tokTab ⟨#[c, d]⟩ with | some v => v :: lexF f ds | none => match tokNum tokTab ⟨#[c]⟩ with | some v => v :: lexF f (d :: ds) | none => _) = _
    rw [two_none h, h1]
theorem lex_letter {c : Nat} (h : noTwo c = true) (h1 : tokNum tokTab ⟨#[c]⟩ = none) (f : Nat) (cs : List Nat) : lexF (f + 1) (c :: cs) = (256 + (c : Int) - 97) :: lexF f cs := by
  cases cs with
  | nil =>
    show (match tokNum tokTab ⟨#[c]⟩ with | some v => v :: lexF f [] | none => match tokNum tokTab ⟨#[c]⟩ with | some v => v :: lexF f [] | none => (256 + (c : Int) - 97) :: lexF f []) = _
    rw [h1]
  | cons d ds =>
    show (match tokNum tokTab ⟨#[c, d]⟩ with | some v => v :: lexF f ds | none => match tokNum tokTab ⟨#[c]⟩ with | some v => v :: lexF f (d :: ds) | none => (256 + (c : Int) - 97) :: lexF f (d :: ds)) = _
    rw [two_none h, h1]
noncomputable def firstD : List Nat := [40, 97, 98, 99, 100, 101, 102]
noncomputable def opGood (p : Str × Int) (d : Nat) : Bool := match p.1.cps.toList with
  | [a] => decide (tokNum tokTab ⟨#[a, d]⟩ = none) && decide (tokNum tokTab ⟨#[a]⟩ = some p.2)
  | [a, b] => decide (tokNum tokTab ⟨#[a, b]⟩ = some p.2)
  | _ => false
theorem op_good : (opTab.all fun p => firstD.all fun d => opGood p d) = true := by decide +kernel
theorem lex_sign {p : Str × Int} (hp : p ∈ opTab) {d : Nat} (hd : d ∈ firstD) (f : Nat) (ds : List Nat) : lexF (f + 1) (p.1.cps.toList ++ d :: ds) = p.2 :: lexF f (d :: ds) := by
  have h := List.all_eq_true.mp (List.all_eq_true.mp op_good p hp) d hd
  unfold opGood at h
  split at h
  · rename_i a e
    rw [e]
    simp only [Bool.and_eq_true, decide_eq_true_eq] at h
    show (match tokNum tokTab ⟨#[a, d]⟩ with | some v => v :: lexF f ds | none => match tokNum tokTab ⟨#[a]⟩ with | some v => v :: lexF f (d :: ds) | none => _) = _
    rw [h.1, h.2]
  · rename_i a b e
    rw [e]
    simp only [decide_eq_true_eq] at h
    show (match tokNum tokTab ⟨#[a, b]⟩ with | some v => v :: lexF f (d :: ds) | none => _) = _
    rw [h]
  · cases h
/-- the tokens of the expression's text -/
noncomputable def toks (rs kd : List Int) : Nat → Nat → Nat → List Int
  | 0, lo, _ => [256 + (lo : Int)]
  | f + 1, lo, k => if k = 0 then [256 + (lo : Int)] else
      [7] ++ toks rs kd f lo (loosest rs lo (k - 1) - lo) ++ [kd.getD (loosest rs lo (k - 1)) 14] ++ toks rs kd f (loosest rs lo (k - 1) + 1) (lo + k - (loosest rs lo (k - 1) + 1)) ++ [8]
theorem toks_succ (rs kd : List Int) (f lo k : Nat) : toks rs kd (f + 1) lo (k + 1) = [7] ++ toks rs kd f lo (loosest rs lo k - lo) ++ [kd.getD (loosest rs lo k) 14] ++ toks rs kd f (loosest rs lo k + 1) (lo + (k + 1) - (loosest rs lo k + 1)) ++ [8] := by
  show (if k + 1 = 0 then _ else _) = _
  rw [if_neg (by omega), Nat.add_sub_cancel]
theorem toks_zero (rs kd : List Int) (f lo : Nat) : toks rs kd f lo 0 = [256 + (lo : Int)] := by cases f <;> rfl
theorem txt_zero (rs : List Int) (sg : List Str) (f lo : Nat) : txtS rs sg f lo 0 = letter lo := by cases f <;> rfl
theorem letter_tok {lo : Nat} (h : lo ≤ 5) (f : Nat) (rest : List Nat) : lexF (f + 1) ((letter lo).cps.toList ++ rest) = (256 + (lo : Int)) :: lexF f rest := by
  have hg : noTwo (97 + lo) = true ∧ tokNum tokTab ⟨#[97 + lo]⟩ = none := by
    have : lo = 0 ∨ lo = 1 ∨ lo = 2 ∨ lo = 3 ∨ lo = 4 ∨ lo = 5 := by omega
    rcases this with rfl | rfl | rfl | rfl | rfl | rfl <;> exact ⟨by decide +kernel, by decide +kernel⟩
  show lexF (f + 1) ((97 + lo) :: rest) = _
  rw [lex_letter hg.1 hg.2]
  congr 1
  omega
theorem txt_first (rs : List Int) (sg : List Str) : ∀ (f lo k : Nat), lo ≤ 5 → ∃ d ds, (txtS rs sg f lo k).cps.toList = d :: ds ∧ d ∈ firstD := by
  have hl : ∀ lo, lo ≤ 5 → ∃ d ds, (letter lo).cps.toList = d :: ds ∧ d ∈ firstD := fun lo h => by
    refine ⟨97 + lo, [], rfl, ?_⟩
    have : lo = 0 ∨ lo = 1 ∨ lo = 2 ∨ lo = 3 ∨ lo = 4 ∨ lo = 5 := by omega
    rcases this with rfl | rfl | rfl | rfl | rfl | rfl <;> decide
  intro f lo k h
  cases k with
  | zero => rw [txt_zero]; exact hl lo h
  | succ k =>
    cases f with
    | zero => exact hl lo h
    | succ f =>
      rw [txtS_succ]
      refine ⟨40, _, by rw [app_list, app_list, app_list, app_list]; rfl, by decide⟩
theorem lex_txt {rs kd : List Int} {sg : List Str} (hop : ∀ r, r < 5 → (sg.getD r (Str.ofString ""), kd.getD r 14) ∈ opTab) :
    ∀ (f k lo : Nat), k ≤ f → lo + k ≤ 5 → ∀ (fuel : Nat) (rest : List Nat), lexF (fuel + (toks rs kd f lo k).length) ((txtS rs sg f lo k).cps.toList ++ rest) = toks rs kd f lo k ++ lexF fuel rest := by
  intro f
  induction f with
  | zero =>
    intro k lo hk hlo fuel rest
    obtain rfl : k = 0 := by omega
    exact letter_tok (by omega) fuel rest
  | succ f ih =>
    intro k lo hk hlo fuel rest
    cases k with
    | zero =>
      rw [toks_zero, txt_zero]
      exact letter_tok (by omega) fuel rest
    | succ k =>
      have hr1 := loosest_ge rs lo k
      have hr2 := loosest_le rs lo k
      rw [toks_succ, txtS_succ]
      generalize loosest rs lo k = r at hr1 hr2 ⊢
      have ihl := ih (r - lo) lo (by omega) (by omega)
      have ihr := ih (lo + (k + 1) - (r + 1)) (r + 1) (by omega) (by omega)
      generalize hA : toks rs kd f lo (r - lo) = A at ihl ⊢
      generalize hB : toks rs kd f (r + 1) (lo + (k + 1) - (r + 1)) = B at ihr ⊢
      obtain ⟨d, ds, hd, hdm⟩ := txt_first rs sg f (r + 1) (lo + (k + 1) - (r + 1)) (by omega)
      rw [app_list, app_list, app_list, app_list]
      have e1 : (Str.ofString "(").cps.toList = [40] := rfl
      have e2 : (Str.ofString ")").cps.toList = [41] := rfl
      have ln : fuel + ([7] ++ A ++ [kd.getD r 14] ++ B ++ [8]).length = (((fuel + 1 + B.length) + 1) + A.length) + 1 := by
        simp only [List.length_append, List.length_cons, List.length_nil]; omega
      rw [ln, e1, e2]
      simp only [List.append_assoc, List.cons_append, List.nil_append]
      rw [lex_lone (v := 7) (by decide +kernel) (by decide +kernel), ihl, hd]
      simp only [List.cons_append]
      rw [lex_sign (hop r (by omega)) hdm]
      congr 2
      congr 1
      have := ihr (fuel + 1) (41 :: rest)
      rw [hd] at this
      simp only [List.cons_append] at this
      rw [this, lex_lone (v := 8) (by decide +kernel) (by decide +kernel)]
theorem toks_len {rs kd : List Int} {sg : List Str} (hop : ∀ r, r < 5 → 1 ≤ (sg.getD r (Str.ofString "")).length) : ∀ (f k lo : Nat), k ≤ f → lo + k ≤ 5 → (toks rs kd f lo k).length ≤ (txtS rs sg f lo k).length := by
  intro f
  induction f with
  | zero =>
    intro k lo hk hlo
    obtain rfl : k = 0 := by omega
    exact Nat.le_refl _
  | succ f ih =>
    intro k lo hk hlo
    cases k with
    | zero => rw [toks_zero, txt_zero]; exact Nat.le_refl _
    | succ k =>
      have hr1 := loosest_ge rs lo k
      have hr2 := loosest_le rs lo k
      rw [toks_succ, txtS_succ]
      generalize loosest rs lo k = r at hr1 hr2 ⊢
      have ihl := ih (r - lo) lo (by omega) (by omega)
      have ihr := ih (lo + (k + 1) - (r + 1)) (r + 1) (by omega) (by omega)
      have h1 := hop r (by omega)
      rw [len_app, len_app, len_app, len_app]
      have e1 : (Str.ofString "(").length = 1 := rfl
      have e2 : (Str.ofString ")").length = 1 := rfl
      simp only [List.length_append, List.length_cons, List.length_nil]
      omega
end
section
open PySem PySem.W PyProof.Rows
/-- what the reading leaves of a list of lists / of ints, along the tree -/
noncomputable def bSt (rs : List Int) : Nat → Nat → Nat → List (List Int) → List (List Int)
  | 0, _, _, st => st
  | f + 1, lo, k, st => if k = 0 then st else (bSt rs f (loosest rs lo (k - 1) + 1) (lo + k - (loosest rs lo (k - 1) + 1)) (bSt rs f lo (loosest rs lo (k - 1) - lo) st)).set (loosest rs lo (k - 1)) (rngI lo (lo + k))
noncomputable def bWo (rs : List Int) : Nat → Nat → Nat → List Int → List Int
  | 0, _, _, st => st
  | f + 1, lo, k, st => if k = 0 then st else (bWo rs f (loosest rs lo (k - 1) + 1) (lo + k - (loosest rs lo (k - 1) + 1)) (bWo rs f lo (loosest rs lo (k - 1) - lo) st)).set (loosest rs lo (k - 1)) (((loosest rs lo (k - 1) - lo + 1) * (lo + k - loosest rs lo (k - 1)) : Nat) : Int)
noncomputable def bKi (rs kd : List Int) : Nat → Nat → Nat → List Int → List Int
  | 0, _, _, st => st
  | f + 1, lo, k, st => if k = 0 then st else (bKi rs kd f (loosest rs lo (k - 1) + 1) (lo + k - (loosest rs lo (k - 1) + 1)) (bKi rs kd f lo (loosest rs lo (k - 1) - lo) st)).set (loosest rs lo (k - 1)) (kd.getD (loosest rs lo (k - 1)) 14)
theorem bSt_succ (rs : List Int) (f lo k : Nat) (st : List (List Int)) : bSt rs (f + 1) lo (k + 1) st = (bSt rs f (loosest rs lo k + 1) (lo + (k + 1) - (loosest rs lo k + 1)) (bSt rs f lo (loosest rs lo k - lo) st)).set (loosest rs lo k) (rngI lo (lo + (k + 1))) := by
  show (if k + 1 = 0 then _ else _) = _
  rw [if_neg (by omega), Nat.add_sub_cancel]
theorem bWo_succ (rs : List Int) (f lo k : Nat) (st : List Int) : bWo rs (f + 1) lo (k + 1) st = (bWo rs f (loosest rs lo k + 1) (lo + (k + 1) - (loosest rs lo k + 1)) (bWo rs f lo (loosest rs lo k - lo) st)).set (loosest rs lo k) (((loosest rs lo k - lo + 1) * (lo + (k + 1) - loosest rs lo k) : Nat) : Int) := by
  show (if k + 1 = 0 then _ else _) = _
  rw [if_neg (by omega), Nat.add_sub_cancel]
theorem bKi_succ (rs kd : List Int) (f lo k : Nat) (st : List Int) : bKi rs kd (f + 1) lo (k + 1) st = (bKi rs kd f (loosest rs lo k + 1) (lo + (k + 1) - (loosest rs lo k + 1)) (bKi rs kd f lo (loosest rs lo k - lo) st)).set (loosest rs lo k) (kd.getD (loosest rs lo k) 14) := by
  show (if k + 1 = 0 then _ else _) = _
  rw [if_neg (by omega), Nat.add_sub_cancel]
theorem bSt_zero (rs : List Int) (f lo : Nat) (st : List (List Int)) : bSt rs f lo 0 st = st := by cases f <;> rfl
theorem bWo_zero (rs : List Int) (f lo : Nat) (st : List Int) : bWo rs f lo 0 st = st := by cases f <;> rfl
theorem bKi_zero (rs kd : List Int) (f lo : Nat) (st : List Int) : bKi rs kd f lo 0 st = st := by cases f <;> rfl
theorem step_letter {S : RS} {lo : Nat} (h : lo ≤ 5) : readStep S (256 + (lo : Int)) = some { S with k := S.k ++ [.word lo 1] } := by
  unfold readStep
  rw [if_pos (by omega), if_pos (by omega)]
  have : (256 + (lo : Int) - 256).toNat = lo := by omega
  rw [this]
theorem step_sign {S : RS} {z : Int} (h0 : 0 ≤ z) (h1 : z < 256) (h8 : z ≠ 8) : readStep S z = some { S with k := S.k ++ [.sign z.toNat] } := by
  unfold readStep
  rw [if_neg (by omega), if_pos h8, if_pos h0]
theorem step_close {rk : List Pc} {p0 : Pc} {st : List (List Int)} {wo ki : List Int} {lo1 n1 z' lo2 n2 : Nat} (h1 : 1 ≤ n1) (h2 : 1 ≤ n2) (h3 : lo1 + n1 = lo2) (h4 : lo2 + n2 ≤ 6) :
    readStep ⟨rk ++ [p0, .word lo1 n1, .sign z', .word lo2 n2], st, wo, ki⟩ 8 = some ⟨rk ++ [.word lo1 (n1 + n2)], st.set (lo1 + n1 - 1) (rngI lo1 (lo2 + n2 - 1)), wo.set (lo1 + n1 - 1) ((n1 * n2 : Nat) : Int), ki.set (lo1 + n1 - 1) (z' : Int)⟩ := by
  unfold readStep
  rw [if_neg (by decide), if_neg (by decide)]
  have e : (rk ++ [p0, .word lo1 n1, .sign z', .word lo2 n2]).reverse = .word lo2 n2 :: .sign z' :: .word lo1 n1 :: p0 :: rk.reverse := by simp
  dsimp only
  rw [e]
  dsimp only
  rw [if_pos ⟨h1, h2, h3, h4⟩, List.reverse_reverse]
theorem readAll_cons (S : RS) (z : Int) (zs : List Int) {S' : RS} (h : readStep S z = some S') : readAll S (z :: zs) = readAll S' zs := by
  show (readStep S z).bind _ = _
  rw [h]
  rfl
theorem read_toks {rs kd : List Int} (hkd : ∀ r, r < 5 → 0 ≤ kd.getD r 14 ∧ kd.getD r 14 < 256 ∧ kd.getD r 14 ≠ 8) :
    ∀ (f k lo : Nat), k ≤ f → lo + k ≤ 5 → ∀ (S : RS), readAll S (toks rs kd f lo k) = some ⟨S.k ++ [.word lo (k + 1)], bSt rs f lo k S.st, bWo rs f lo k S.wo, bKi rs kd f lo k S.ki⟩ := by
  intro f
  induction f with
  | zero =>
    intro k lo hk hlo S
    obtain rfl : k = 0 := by omega
    rw [toks_zero, readAll_cons _ _ _ (step_letter (by omega))]
    rfl
  | succ f ih =>
    intro k lo hk hlo S
    cases k with
    | zero =>
      rw [toks_zero, readAll_cons _ _ _ (step_letter (by omega)), bSt_zero, bWo_zero, bKi_zero]
      rfl
    | succ k =>
      have hr1 := loosest_ge rs lo k
      have hr2 := loosest_le rs lo k
      rw [toks_succ, bSt_succ, bWo_succ, bKi_succ]
      generalize loosest rs lo k = r at hr1 hr2 ⊢
      obtain ⟨k0, k1, k8⟩ := hkd r (by omega)
      simp only [List.append_assoc, List.cons_append, List.nil_append]
      rw [readAll_cons _ _ _ (step_sign (by decide) (by decide) (by decide)), readAll_append, ih (r - lo) lo (by omega) (by omega)]
      rw [Option.bind_some, readAll_cons _ _ _ (step_sign k0 k1 k8), readAll_append, ih (lo + (k + 1) - (r + 1)) (r + 1) (by omega) (by omega), Option.bind_some]
      have e : (((S.k ++ [Pc.sign (7 : Int).toNat]) ++ [.word lo (r - lo + 1)]) ++ [.sign (kd.getD r 14).toNat]) ++ [.word (r + 1) (lo + (k + 1) - (r + 1) + 1)] = S.k ++ [.sign (7 : Int).toNat, .word lo (r - lo + 1), .sign (kd.getD r 14).toNat, .word (r + 1) (lo + (k + 1) - (r + 1) + 1)] := by simp
      dsimp only
      rw [e, readAll_cons _ _ _ (step_close (by omega) (by omega) (by omega) (by omega))]
      have a1 : lo + (r - lo + 1) - 1 = r := by omega
      have a2 : r + 1 + (lo + (k + 1) - (r + 1) + 1) - 1 = lo + (k + 1) := by omega
      have a3 : r - lo + 1 + (lo + (k + 1) - (r + 1) + 1) = k + 1 + 1 := by omega
      have a4 : lo + (k + 1) - (r + 1) + 1 = lo + (k + 1) - r := by omega
      have a5 : (((kd.getD r 14).toNat : Nat) : Int) = kd.getD r 14 := Int.toNat_of_nonneg k0
      rw [a1, a2, a3, a5, a4]
      rfl
theorem bKi_len (rs kd : List Int) : ∀ (f k lo : Nat) (ki : List Int), (bKi rs kd f lo k ki).length = ki.length := by
  intro f
  induction f with
  | zero => intro k lo ki; rfl
  | succ f ih =>
    intro k lo ki
    cases k with
    | zero => rw [bKi_zero]
    | succ k => rw [bKi_succ, List.length_set, ih, ih]
theorem bKi_at (rs kd : List Int) : ∀ (f k lo : Nat), k ≤ f → ∀ (ki : List Int) (i : Nat), i < ki.length → (bKi rs kd f lo k ki)[i]? = if lo ≤ i ∧ i < lo + k then some (kd.getD i 14) else ki[i]? := by
  intro f
  induction f with
  | zero =>
    intro k lo hk ki i hi
    obtain rfl : k = 0 := by omega
    rw [if_neg (by omega)]
    rfl
  | succ f ih =>
    intro k lo hk ki i hi
    cases k with
    | zero => rw [bKi_zero, if_neg (by omega)]
    | succ k =>
      have hr1 := loosest_ge rs lo k
      have hr2 := loosest_le rs lo k
      rw [bKi_succ]
      generalize loosest rs lo k = r at hr1 hr2 ⊢
      by_cases hir : r = i
      · subst hir
        rw [List.getElem?_set_self (by rw [bKi_len, bKi_len]; exact hi), if_pos (by omega)]
      · rw [List.getElem?_set_ne hir, ih _ _ (by omega) _ _ (by rw [bKi_len]; exact hi), ih _ _ (by omega) _ _ hi]
        by_cases h1 : r + 1 ≤ i ∧ i < r + 1 + (lo + (k + 1) - (r + 1))
        · rw [if_pos h1, if_pos (by omega)]
        · rw [if_neg h1]
          by_cases h2 : lo ≤ i ∧ i < lo + (r - lo)
          · rw [if_pos h2, if_pos (by omega)]
          · rw [if_neg h2, if_neg (by omega)]
theorem bKi_all {rs kd : List Int} (h : kd.length = 5) : bKi rs kd 5 0 5 (List.replicate 5 0) = kd := by
  apply List.ext_getElem?
  intro i
  by_cases hi : i < 5
  · rw [bKi_at rs kd 5 5 0 (Nat.le_refl _) _ i (by simpa using hi), if_pos (by omega), List.getElem?_eq_getElem (by omega), List.getD_eq_getElem?_getD, List.getElem?_eq_getElem (by omega)]
    rfl
  · rw [List.getElem?_eq_none (by rw [bKi_len]; simp; omega), List.getElem?_eq_none (by omega)]
/-- the text read: all six letters, and the three lists -/
theorem read_text {rs kd : List Int} {sg : List Str} (hop : ∀ r, r < 5 → (sg.getD r (Str.ofString ""), kd.getD r 14) ∈ opTab) (hkl : kd.length = 5) :
    readAll S0 (lexF ((txtS rs sg 5 0 5).length + 1) (txtS rs sg 5 0 5).cps.toList) = some ⟨[.word 0 6], bSt rs 5 0 5 (List.replicate 5 []), bWo rs 5 0 5 (List.replicate 5 0), kd⟩ := by
  have hg : ∀ p ∈ opTab, 1 ≤ p.1.length ∧ 0 ≤ p.2 ∧ p.2 < 256 ∧ p.2 ≠ 8 := by decide +kernel
  have hl := toks_len (rs := rs) (kd := kd) (sg := sg) (fun r hr => (hg _ (hop r hr)).1) 5 5 0 (Nat.le_refl _) (Nat.le_refl _)
  have ht := lex_txt hop (rs := rs) 5 5 0 (Nat.le_refl _) (Nat.le_refl _) ((txtS rs sg 5 0 5).length + 1 - (toks rs kd 5 0 5).length) []
  rw [Nat.sub_add_cancel (by omega), List.append_nil] at ht
  have hnil : ∀ f, lexF f [] = [] := fun f => by cases f <;> rfl
  rw [ht, hnil, List.append_nil, read_toks (fun r hr => (hg _ (hop r hr)).2) 5 5 0 (Nat.le_refl _) (Nat.le_refl _), bKi_all hkl]
  rfl
end
section
open PySem PySem.W PyProof.Rows
noncomputable def bI (b : Bool) : Int := if b then 1 else 0
/-- a list of ranks with the given comparisons -/
noncomputable def repB (b01 b02 b03 b04 b12 b13 b14 b23 b24 b34 : Bool) : List Int :=
  [bI b01 + bI b02 + bI b03 + bI b04, bI (!b01) + bI b12 + bI b13 + bI b14, bI (!b02) + bI (!b12) + bI b23 + bI b24, bI (!b03) + bI (!b13) + bI (!b23) + bI b34, bI (!b04) + bI (!b14) + bI (!b24) + bI (!b34)]
noncomputable def tri (x y z : Bool) : Bool := (!(x && y) || z) && (!(!x && !y) || !z)
noncomputable def consB (b01 b02 b03 b04 b12 b13 b14 b23 b24 b34 : Bool) : Bool :=
  tri b01 b12 b02 && tri b01 b13 b03 && tri b01 b14 b04 && tri b02 b23 b03 && tri b02 b24 b04 && tri b03 b34 b04 && tri b12 b23 b13 && tri b12 b24 b14 && tri b13 b34 b14 && tri b23 b34 b24
noncomputable def ltB (p : List Int) (i j : Nat) : Bool := decide (p.getD j 0 < p.getD i 0)
/-- the stretches by the leads' order -/
noncomputable def underB (p : List Int) : List (List Int) := five.map fun one => five.filter fun two => decide (two = one) || (decide (aheadZ p one 1 < aheadZ p two 1) && decide (aheadZ p one (-1) < aheadZ p two (-1)))
noncomputable def goodP (p : List Int) : Bool := decide (underB p = bSt p 5 0 5 (List.replicate 5 [])) && leastB (bSt p 5 0 5 (List.replicate 5 [])) (bWo p 5 0 5 (List.replicate 5 0)) && five.all fun i => decide (aheadZ p i 1 ≤ 4) && decide (aheadZ p i (-1) ≤ 4)
noncomputable def claimB (b01 b02 b03 b04 b12 b13 b14 b23 b24 b34 : Bool) : Bool :=
  !consB b01 b02 b03 b04 b12 b13 b14 b23 b24 b34 || (
    let p := repB b01 b02 b03 b04 b12 b13 b14 b23 b24 b34
    ltB p 0 1 == b01 && ltB p 0 2 == b02 && ltB p 0 3 == b03 && ltB p 0 4 == b04 && ltB p 1 2 == b12 && ltB p 1 3 == b13 && ltB p 1 4 == b14 && ltB p 2 3 == b23 && ltB p 2 4 == b24 && ltB p 3 4 == b34 && goodP p)
set_option maxRecDepth 100000 in
set_option maxHeartbeats 4000000 in
theorem claim_all : ∀ b01 b02 b03 b04 b12 b13 b14 b23 b24 b34 : Bool, claimB b01 b02 b03 b04 b12 b13 b14 b23 b24 b34 = true := by decide +kernel

theorem tri_of (a b c : Int) : tri (decide (b < a)) (decide (c < b)) (decide (c < a)) = true := by
  unfold tri
  by_cases h1 : b < a
  · by_cases h2 : c < b
    · have h3 : c < a := by omega
      simp [h1, h2, h3]
    · simp [h1, h2]
  · by_cases h2 : c < b
    · simp [h1, h2]
    · have h3 : ¬ c < a := by omega
      simp [h1, h2, h3]
/-- any ranks compare as one of the 120 lists does -/
theorem rep_of (rs : List Int) : ∃ p : List Int, goodP p = true ∧ ∀ i j : Nat, i < j → j < 5 → (rs.getD j 0 < rs.getD i 0 ↔ p.getD j 0 < p.getD i 0) := by
  have h := claim_all (ltB rs 0 1) (ltB rs 0 2) (ltB rs 0 3) (ltB rs 0 4) (ltB rs 1 2) (ltB rs 1 3) (ltB rs 1 4) (ltB rs 2 3) (ltB rs 2 4) (ltB rs 3 4)
  have hc : consB (ltB rs 0 1) (ltB rs 0 2) (ltB rs 0 3) (ltB rs 0 4) (ltB rs 1 2) (ltB rs 1 3) (ltB rs 1 4) (ltB rs 2 3) (ltB rs 2 4) (ltB rs 3 4) = true := by
    unfold consB ltB
    simp only [tri_of, Bool.and_self]
  unfold claimB at h
  rw [hc] at h
  simp only [Bool.not_true, Bool.false_or, Bool.and_eq_true, beq_iff_eq] at h
  obtain ⟨⟨⟨⟨⟨⟨⟨⟨⟨⟨h1, h2⟩, h3⟩, h4⟩, h5⟩, h6⟩, h7⟩, h8⟩, h9⟩, h10⟩, hg⟩ := h
  refine ⟨_, hg, ?_⟩
  have conv : ∀ {p : List Int} {i j : Nat}, ltB p i j = ltB rs i j → (rs.getD j 0 < rs.getD i 0 ↔ p.getD j 0 < p.getD i 0) := fun {p i j} e => by
    unfold ltB at e
    have := decide_eq_decide.mp e
    exact this.symm
  intro i j hij hj
  have : (i = 0 ∧ j = 1) ∨ (i = 0 ∧ j = 2) ∨ (i = 0 ∧ j = 3) ∨ (i = 0 ∧ j = 4) ∨ (i = 1 ∧ j = 2) ∨ (i = 1 ∧ j = 3) ∨ (i = 1 ∧ j = 4) ∨ (i = 2 ∧ j = 3) ∨ (i = 2 ∧ j = 4) ∨ (i = 3 ∧ j = 4) := by omega
  rcases this with ⟨rfl, rfl⟩ | ⟨rfl, rfl⟩ | ⟨rfl, rfl⟩ | ⟨rfl, rfl⟩ | ⟨rfl, rfl⟩ | ⟨rfl, rfl⟩ | ⟨rfl, rfl⟩ | ⟨rfl, rfl⟩ | ⟨rfl, rfl⟩ | ⟨rfl, rfl⟩
  · exact conv h1
  · exact conv h2
  · exact conv h3
  · exact conv h4
  · exact conv h5
  · exact conv h6
  · exact conv h7
  · exact conv h8
  · exact conv h9
  · exact conv h10
theorem loosest_same {rs p : List Int} (h : ∀ i j : Nat, i < j → j < 5 → (rs.getD j 0 < rs.getD i 0 ↔ p.getD j 0 < p.getD i 0)) (lo : Nat) : ∀ n, lo + n < 5 → loosest rs lo n = loosest p lo n
  | 0, _ => rfl
  | n + 1, hn => by
    have ih := loosest_same h lo n (by omega)
    have hle := loosest_le p lo n
    unfold loosest
    rw [ih]
    have e := h (loosest p lo n) (lo + (n + 1)) (by omega) hn
    by_cases hc : p.getD (lo + (n + 1)) 0 < p.getD (loosest p lo n) 0
    · rw [if_pos hc, if_pos (e.mpr hc)]
    · rw [if_neg hc, if_neg (fun q => hc (e.mp q))]
theorem holds_same {rs p : List Int} (h : ∀ lo n, lo + n < 5 → loosest rs lo n = loosest p lo n) {a b : Int} (a0 : 0 ≤ a) (a4 : a ≤ 4) (b0 : 0 ≤ b) (b4 : b ≤ 4) : holdsZ rs a b = holdsZ p a b := by
  unfold holdsZ looZ
  rw [h _ _ (by split <;> split <;> omega)]
theorem five_mem {o : Int} (h : o ∈ five) : 0 ≤ o ∧ o ≤ 4 := by
  unfold five at h
  simp only [List.mem_cons, List.not_mem_nil, or_false] at h
  omega
theorem ahead_same {rs p : List Int} (h : ∀ lo n, lo + n < 5 → loosest rs lo n = loosest p lo n) {a : Int} (a0 : 0 ≤ a) (a4 : a ≤ 4) (way : Int) : aheadZ rs a way = aheadZ p a way := by
  unfold aheadZ
  have e1 : five.filter (aheadP rs a way) = five.filter (aheadP p a way) := List.filter_congr fun o ho => by
    unfold aheadP
    rw [holds_same h a0 a4 (five_mem ho).1 (five_mem ho).2]
  have e2 : five.filter (aheadR rs a way) = five.filter (aheadR p a way) := List.filter_congr fun o ho => by
    unfold aheadR
    rw [holds_same h (five_mem ho).1 (five_mem ho).2 a0 a4]
  rw [e1, e2]
theorem bSt_same {rs p : List Int} (h : ∀ lo n, lo + n < 5 → loosest rs lo n = loosest p lo n) : ∀ (f k lo : Nat) (st : List (List Int)), lo + k ≤ 5 → bSt rs f lo k st = bSt p f lo k st := by
  intro f
  induction f with
  | zero => intro k lo st _; rfl
  | succ f ih =>
    intro k lo st hk
    cases k with
    | zero => rw [bSt_zero, bSt_zero]
    | succ k =>
      rw [bSt_succ, bSt_succ, h lo k (by omega)]
      have r1 := loosest_ge p lo k
      have r2 := loosest_le p lo k
      rw [ih _ lo _ (by omega), ih _ _ _ (by omega)]
theorem bWo_same {rs p : List Int} (h : ∀ lo n, lo + n < 5 → loosest rs lo n = loosest p lo n) : ∀ (f k lo : Nat) (st : List Int), lo + k ≤ 5 → bWo rs f lo k st = bWo p f lo k st := by
  intro f
  induction f with
  | zero => intro k lo st _; rfl
  | succ f ih =>
    intro k lo st hk
    cases k with
    | zero => rw [bWo_zero, bWo_zero]
    | succ k =>
      rw [bWo_succ, bWo_succ, h lo k (by omega)]
      have r1 := loosest_ge p lo k
      have r2 := loosest_le p lo k
      rw [ih _ lo _ (by omega), ih _ _ _ (by omega)]
theorem under_same {rs p : List Int} (h : ∀ lo n, lo + n < 5 → loosest rs lo n = loosest p lo n) : underB rs = underB p := by
  unfold underB
  refine List.map_congr_left fun one h1 => List.filter_congr fun two h2 => ?_
  rw [ahead_same h (five_mem h1).1 (five_mem h1).2, ahead_same h (five_mem h1).1 (five_mem h1).2, ahead_same h (five_mem h2).1 (five_mem h2).2, ahead_same h (five_mem h2).1 (five_mem h2).2]
/-- the law, of any ranks -/
theorem good_all (rs : List Int) : underB rs = bSt rs 5 0 5 (List.replicate 5 []) ∧ leastB (bSt rs 5 0 5 (List.replicate 5 [])) (bWo rs 5 0 5 (List.replicate 5 0)) = true ∧ ∀ i ∈ five, aheadZ rs i 1 ≤ 4 ∧ aheadZ rs i (-1) ≤ 4 := by
  obtain ⟨p, hg, hp⟩ := rep_of rs
  have h : ∀ lo n, lo + n < 5 → loosest rs lo n = loosest p lo n := fun lo n hn => loosest_same hp lo n hn
  unfold goodP at hg
  simp only [Bool.and_eq_true, decide_eq_true_eq, List.all_eq_true] at hg
  obtain ⟨⟨g1, g2⟩, g3⟩ := hg
  rw [under_same h, bSt_same h 5 5 0 _ (Nat.le_refl _), bWo_same h 5 5 0 _ (Nat.le_refl _)]
  refine ⟨g1, g2, fun i hi => ?_⟩
  rw [ahead_same h (five_mem hi).1 (five_mem hi).2, ahead_same h (five_mem hi).1 (five_mem hi).2]
  exact g3 i hi
end
section
open PySem PySem.W PyProof.Rows
theorem ws_blanks : ∀ (k : Nat) (rest : List Nat) (n nt b : Nat) (ct : List Int), wsGo (List.replicate k 32 ++ rest) n nt b ct = wsGo rest (n + k) nt (b + k) ct
  | 0, _, _, _, _, _ => rfl
  | k + 1, rest, n, nt, b, ct => by
    show wsGo (32 :: (List.replicate k 32 ++ rest)) n nt b ct = _
    show (if 32 = 32 then wsGo (List.replicate k 32 ++ rest) (n + 1) nt (b + 1) ct else _) = _
    rw [if_pos rfl, ws_blanks k rest]
    congr 1 <;> omega
/-- a step of a lead: with the run ahead, or bare -/
noncomputable def stepC (run : Nat) (fl : Bool) : List Nat := if fl then List.replicate run 32 ++ [9] else [9]
noncomputable def ctOf (run a b : Nat) : List Int := if a = 0 then (if b = 0 then [] else [(b : Int)]) else (b : Int) :: (List.replicate (run - 1) 0 ++ [(a : Int)])
theorem bump_run {run a b : Nat} (h1 : 1 ≤ run) (h3 : run ≤ 3) : wsBump (ctOf run a b) run = ctOf run (a + 1) b := by
  have : run = 1 ∨ run = 2 ∨ run = 3 := by omega
  cases a with
  | zero =>
    cases b with
    | zero => rcases this with rfl | rfl | rfl <;> rfl
    | succ b => rcases this with rfl | rfl | rfl <;> rfl
  | succ a => rcases this with rfl | rfl | rfl <;> simp [wsBump, ctOf]
theorem bump_bare {run a b : Nat} (h1 : 1 ≤ run) (h3 : run ≤ 3) : wsBump (ctOf run a b) 0 = ctOf run a (b + 1) := by
  have : run = 1 ∨ run = 2 ∨ run = 3 := by omega
  cases a with
  | zero =>
    cases b with
    | zero => rcases this with rfl | rfl | rfl <;> rfl
    | succ b => rcases this with rfl | rfl | rfl <;> simp [wsBump, ctOf]
  | succ a => rcases this with rfl | rfl | rfl <;> simp [wsBump, ctOf]
theorem ws_steps {run : Nat} (h1 : 1 ≤ run) (h3 : run ≤ 3) : ∀ (l : List Bool) (rest : List Nat) (n nt a b : Nat), wsGo ((l.map (stepC run)).flatten ++ rest) n nt 0 (ctOf run a b) =
    wsGo rest (n + (l.count true) * (run + 1) + l.count false) (nt + l.length) 0 (ctOf run (a + l.count true) (b + l.count false))
  | [], rest, n, nt, a, b => by simp
  | true :: l, rest, n, nt, a, b => by
    have ih := ws_steps h1 h3 l rest (n + run + 1) (nt + 1) (a + 1) b
    have e : ((true :: l).map (stepC run)).flatten ++ rest = List.replicate run 32 ++ (9 :: ((l.map (stepC run)).flatten ++ rest)) := by simp [stepC]
    rw [e, ws_blanks]
    show (if 9 = 32 then _ else if 9 = 9 then wsGo ((l.map (stepC run)).flatten ++ rest) (n + run + 1) (nt + 1) 0 (wsBump (ctOf run a b) (0 + run)) else _) = _
    rw [if_neg (by decide), if_pos rfl, Nat.zero_add, bump_run h1 h3, ih]
    simp only [List.count_cons_self, List.length_cons]
    have c : List.count false (true :: l) = List.count false l := by simp
    rw [c]
    congr 1
    · rw [Nat.add_mul]; omega
    · omega
    · congr 1; omega
  | false :: l, rest, n, nt, a, b => by
    have ih := ws_steps h1 h3 l rest (n + 1) (nt + 1) a (b + 1)
    have e : ((false :: l).map (stepC run)).flatten ++ rest = 9 :: ((l.map (stepC run)).flatten ++ rest) := by simp [stepC]
    rw [e]
    show (if 9 = 32 then _ else if 9 = 9 then wsGo ((l.map (stepC run)).flatten ++ rest) (n + 1) (nt + 1) 0 (wsBump (ctOf run a b) 0) else _) = _
    rw [if_neg (by decide), if_pos rfl, bump_bare h1 h3, ih]
    simp only [List.count_cons_self, List.length_cons]
    have c : List.count true (false :: l) = List.count true l := by simp
    rw [c]
    congr 1
    · omega
    · omega
    · congr 1; omega
theorem ws_stop {c : Nat} (h1 : c ≠ 32) (h2 : c ≠ 9) (cs : List Nat) (n nt b : Nat) (ct : List Int) : wsGo (c :: cs) n nt b ct = (n, nt, b, ct) := by
  show (if c = 32 then _ else if c = 9 then _ else (n, nt, b, ct)) = _
  rw [if_neg h1, if_neg h2]
theorem join_cps' : ∀ l : List Str, (Str.join (Str.ofString "") l).cps.toList = (l.map fun x => x.cps.toList).flatten
  | [] => rfl
  | [x] => by simp [Str.join]
  | x :: y :: l => by
    have ih := join_cps' (y :: l)
    have e : Str.join (Str.ofString "") (x :: y :: l) = x ++ Str.ofString "" ++ Str.join (Str.ofString "") (y :: l) := rfl
    rw [e, app_list, app_list, ih]
    have e0 : (Str.ofString "").cps.toList = [] := rfl
    rw [e0, List.append_nil]
    rfl
theorem join_cps (l : List Str) : (Txt.join (Str.ofString "") l).cps.toList = (l.map fun x => x.cps.toList).flatten := by
  have : Txt.join (Str.ofString "") l = Str.join (Str.ofString "") l := PySem.StrLaws.glued_eq_join _ _
  rw [this, join_cps']
theorem mul_cps (run : Nat) (h1 : 1 ≤ run) (h3 : run ≤ 3) : (Txt.mul (Str.ofString " ") (run : Int) ++ Str.ofString "\t").cps.toList = List.replicate run 32 ++ [9] := by
  have : run = 1 ∨ run = 2 ∨ run = 3 := by omega
  rcases this with rfl | rfl | rfl <;> decide +kernel
/-- what is read of a lead and a sign behind it -/
theorem ws_lead {rs : List Int} {place turn : Int} {run : Nat} {sg : Str} {c : Nat} {cs : List Nat} (h1 : 1 ≤ run) (h3 : run ≤ 3) (hsg : sg.cps.toList = c :: cs) (hc1 : c ≠ 32) (hc2 : c ≠ 9) {A B : Nat}
    (hA : 4 + aheadZ rs place 1 - aheadZ rs place (-1) = (A : Int)) (hB : 4 + aheadZ rs place (-1) - aheadZ rs place 1 + (run : Int) * aheadZ rs place (-1) = (B : Int)) :
    wsGo (leadS rs place turn (run : Int) ++ sg).cps.toList 0 0 0 [] = (A * (run + 1) + B, A + B, 0, ctOf run A B) := by
  have hl : (leadS rs place turn (run : Int)).cps.toList = (((List.replicate A true ++ List.replicate B false).drop turn.toNat ++ (List.replicate A true ++ List.replicate B false).take turn.toNat).map (stepC run)).flatten := by
    unfold leadS
    rw [join_cps, hA, hB]
    simp only [Int.toNat_natCast]
    congr 1
    have hm : (List.replicate A (Txt.mul (Str.ofString " ") (run : Int) ++ Str.ofString "\t") ++ List.replicate B (Str.ofString "\t")).map (fun x => x.cps.toList) = (List.replicate A true ++ List.replicate B false).map (stepC run) := by
      rw [List.map_append, List.map_append, List.map_replicate, List.map_replicate, List.map_replicate, List.map_replicate, mul_cps run h1 h3]
      rfl
    rw [List.map_append, List.map_append, List.map_drop, List.map_take, hm, List.map_drop, List.map_take]
  rw [app_list, hl, hsg]
  have hs := ws_steps h1 h3 ((List.replicate A true ++ List.replicate B false).drop turn.toNat ++ (List.replicate A true ++ List.replicate B false).take turn.toNat) (c :: cs) 0 0 0 0
  have hperm : ∀ x : Bool, ((List.replicate A true ++ List.replicate B false).drop turn.toNat ++ (List.replicate A true ++ List.replicate B false).take turn.toNat).count x = (List.replicate A true ++ List.replicate B false).count x := fun x => by
    rw [List.count_append, Nat.add_comm, ← List.count_append, List.take_append_drop]
  have hlen : ((List.replicate A true ++ List.replicate B false).drop turn.toNat ++ (List.replicate A true ++ List.replicate B false).take turn.toNat).length = A + B := by
    rw [List.length_append, Nat.add_comm, ← List.length_append, List.take_append_drop]
    simp
  rw [hperm, hperm, hlen] at hs
  have e0 : ctOf run 0 0 = [] := rfl
  rw [e0] at hs
  rw [hs, ws_stop hc1 hc2]
  have c1 : (List.replicate A true ++ List.replicate B false).count true = A := by simp [List.count_append, List.count_replicate]
  have c2 : (List.replicate A true ++ List.replicate B false).count false = B := by simp [List.count_append, List.count_replicate]
  rw [c1, c2]
  simp
/-- the leads' less, by the two counts -/
noncomputable def lessC (run l1 r1 l2 r2 : Nat) : Bool :=
  let A := fun l r : Nat => 4 + l - r
  let B := fun l r : Nat => 4 + r - l + run * r
  lessB (A l1 r1 * (run + 1) + B l1 r1) (A l1 r1 + B l1 r1) 0 (ctOf run (A l1 r1) (B l1 r1)) (A l2 r2 * (run + 1) + B l2 r2) (A l2 r2 + B l2 r2) 0 (ctOf run (A l2 r2) (B l2 r2))
set_option maxRecDepth 100000 in
set_option maxHeartbeats 4000000 in
theorem less_all : ([1, 2, 3].all fun run => (List.range 5).all fun l1 => (List.range 5).all fun r1 => (List.range 5).all fun l2 => (List.range 5).all fun r2 => lessC run l1 r1 l2 r2 == (decide (l1 < l2) && decide (r1 < r2))) = true := by decide +kernel
theorem less_is {run l1 r1 l2 r2 : Nat} (h1 : 1 ≤ run) (h3 : run ≤ 3) (a1 : l1 ≤ 4) (a2 : r1 ≤ 4) (a3 : l2 ≤ 4) (a4 : r2 ≤ 4) : lessC run l1 r1 l2 r2 = (decide (l1 < l2) && decide (r1 < r2)) := by
  have h := less_all
  simp only [List.all_eq_true, List.mem_range, beq_iff_eq] at h
  exact h run (by have : run = 1 ∨ run = 2 ∨ run = 3 := by omega
                  rcases this with rfl | rfl | rfl <;> simp) l1 (by omega) r1 (by omega) l2 (by omega) r2 (by omega)
end
section
open PySem PySem.W PyProof.Rows
theorem opAt_mem (z : Int) : opAt z ∈ opTab := by
  unfold opAt
  rw [List.getD_eq_getElem?_getD]
  cases e : opTab[((z.fdiv 5).fmod 13).toNat]? with
  | none => exact .head _
  | some p => exact List.mem_of_getElem? e
noncomputable abbrev rsOf (zs : List Int) : List Int := zs.map (·.fmod 5)
noncomputable abbrev sgOf (zs : List Int) : List Str := zs.map fun z => (opAt z).1
noncomputable abbrev kdOf (zs : List Int) : List Int := zs.map fun z => (opAt z).2
theorem op_len : ∀ p ∈ opTab, p.1.length ≤ 2 ∧ 1 ≤ p.1.length := by decide +kernel
theorem law_sg2 (zs : List Int) : ∀ x ∈ sgOf zs, x.length ≤ 2 := fun x hx => by
  obtain ⟨z, _, rfl⟩ := List.mem_map.mp hx
  exact (op_len _ (opAt_mem z)).1
theorem law_txt (zs : List Int) : (txtS (rsOf zs) (sgOf zs) 5 0 5).length ≤ 1000 := by
  have := txtS_len (rsOf zs) (sgOf zs) (law_sg2 zs) 5 0 5
  omega
theorem law_read {zs : List Int} (h : zs.length = 5) : readAll S0 (lexF ((txtS (rsOf zs) (sgOf zs) 5 0 5).length + 1) (txtS (rsOf zs) (sgOf zs) 5 0 5).cps.toList) =
    some ⟨[.word 0 6], bSt (rsOf zs) 5 0 5 (List.replicate 5 []), bWo (rsOf zs) 5 0 5 (List.replicate 5 0), kdOf zs⟩ := by
  refine read_text (fun r hr => ?_) (by rw [List.length_map, h])
  have hz : zs[r]? = some zs[r] := List.getElem?_eq_getElem (by omega)
  have e1 : (sgOf zs).getD r (Str.ofString "") = (opAt zs[r]).1 := by
    rw [List.getD_eq_getElem?_getD, List.getElem?_map, hz]
    rfl
  have e2 : (kdOf zs).getD r 14 = (opAt zs[r]).2 := by
    rw [List.getD_eq_getElem?_getD, List.getElem?_map, hz]
    rfl
  rw [e1, e2]
  exact opAt_mem _
theorem letS06 : letS 0 6 = Str.ofString "abcdef" := by decide +kernel
/-- the counts of a lead -/
noncomputable def wA (rs : List Int) (i : Int) : Nat := (4 + aheadZ rs i 1 - aheadZ rs i (-1)).toNat
noncomputable def wB (rs : List Int) (run : Nat) (i : Int) : Nat := (4 + aheadZ rs i (-1) - aheadZ rs i 1 + (run : Int) * aheadZ rs i (-1)).toNat
noncomputable def wN (rs : List Int) (run : Nat) (i : Int) : Nat := wA rs i * (run + 1) + wB rs run i
noncomputable def wT (rs : List Int) (run : Nat) (i : Int) : Nat := wA rs i + wB rs run i
noncomputable def wC (rs : List Int) (run : Nat) (i : Int) : List Int := ctOf run (wA rs i) (wB rs run i)
theorem wA_eq {rs : List Int} {i : Int} (hi : i ∈ five) : 4 + aheadZ rs i 1 - aheadZ rs i (-1) = (wA rs i : Int) := by
  have := (good_all rs).2.2 i hi
  have := aheadZ_nonneg rs i 1
  unfold wA
  omega
theorem wB_eq {rs : List Int} {run : Nat} {i : Int} (hi : i ∈ five) : 4 + aheadZ rs i (-1) - aheadZ rs i 1 + (run : Int) * aheadZ rs i (-1) = (wB rs run i : Int) := by
  have := (good_all rs).2.2 i hi
  have h0 := aheadZ_nonneg rs i (-1)
  have : 0 ≤ (run : Int) * aheadZ rs i (-1) := Int.mul_nonneg (Int.natCast_nonneg _) h0
  unfold wB
  omega
theorem op_first : ∀ p ∈ opTab, p.1.cps.toList ≠ [] ∧ p.1.cps.toList.headD 32 ≠ 32 ∧ p.1.cps.toList.headD 32 ≠ 9 := by decide +kernel
theorem ws_law {rs : List Int} {i turn z : Int} {run : Nat} (hi : i ∈ five) (h1 : 1 ≤ run) (h3 : run ≤ 3) :
    wsGo (leadS rs i turn (run : Int) ++ (opAt z).1).cps.toList 0 0 0 [] = (wN rs run i, wT rs run i, 0, wC rs run i) := by
  obtain ⟨g1, g2, g3⟩ := op_first _ (opAt_mem z)
  cases e : (opAt z).1.cps.toList with
  | nil => exact absurd e g1
  | cons c cs =>
    rw [e] at g2 g3
    exact ws_lead h1 h3 e g2 g3 (wA_eq hi) (wB_eq hi)
theorem less_law {rs : List Int} {one two : Int} {run : Nat} (hi : one ∈ five) (hj : two ∈ five) (h1 : 1 ≤ run) (h3 : run ≤ 3) :
    lessB (wN rs run one) (wT rs run one) 0 (wC rs run one) (wN rs run two) (wT rs run two) 0 (wC rs run two) = (decide (aheadZ rs one 1 < aheadZ rs two 1) && decide (aheadZ rs one (-1) < aheadZ rs two (-1))) := by
  have a1 := (good_all rs).2.2 one hi
  have a2 := (good_all rs).2.2 two hj
  obtain ⟨l1, e1⟩ := Int.eq_ofNat_of_zero_le (aheadZ_nonneg rs one 1)
  obtain ⟨r1, e2⟩ := Int.eq_ofNat_of_zero_le (aheadZ_nonneg rs one (-1))
  obtain ⟨l2, e3⟩ := Int.eq_ofNat_of_zero_le (aheadZ_nonneg rs two 1)
  obtain ⟨r2, e4⟩ := Int.eq_ofNat_of_zero_le (aheadZ_nonneg rs two (-1))
  rw [e1, e2] at a1
  rw [e3, e4] at a2
  have h := less_is (run := run) (l1 := l1) (r1 := r1) (l2 := l2) (r2 := r2) h1 h3 (by omega) (by omega) (by omega) (by omega)
  have fa : wA rs one = 4 + l1 - r1 := by have := wA_eq (rs := rs) hi; rw [e1, e2] at this; omega
  have fb : wB rs run one = 4 + r1 - l1 + run * r1 := by
    have := wB_eq (rs := rs) (run := run) hi
    rw [e1, e2, ← Int.natCast_mul] at this
    omega
  have ga : wA rs two = 4 + l2 - r2 := by have := wA_eq (rs := rs) hj; rw [e3, e4] at this; omega
  have gb : wB rs run two = 4 + r2 - l2 + run * r2 := by
    have := wB_eq (rs := rs) (run := run) hj
    rw [e3, e4, ← Int.natCast_mul] at this
    omega
  unfold wN wT wC
  rw [fa, fb, ga, gb, e1, e2, e3, e4]
  unfold lessC at h
  rw [h]
  simp
/-- is two under one, by the leads -/
noncomputable def undP (rs : List Int) (run : Nat) (one two : Int) : Bool := decide (two = one) || lessB (wN rs run one) (wT rs run one) 0 (wC rs run one) (wN rs run two) (wT rs run two) 0 (wC rs run two)
theorem under_law (rs : List Int) {run : Nat} (h1 : 1 ≤ run) (h3 : run ≤ 3) : (five.map fun one => five.filter (undP rs run one)) = bSt rs 5 0 5 (List.replicate 5 []) := by
  rw [← (good_all rs).1]
  unfold underB
  refine List.map_congr_left fun one hi => List.filter_congr fun two hj => ?_
  unfold undP
  rw [less_law hi hj h1 h3]
theorem flat_len {b : Nat} : ∀ {l : List (List Nat)}, (∀ x ∈ l, x.length ≤ b) → l.flatten.length ≤ l.length * b
  | [], _ => by simp
  | x :: r, h => by
    have h1 := h x (.head _)
    have h2 := flat_len (l := r) fun y hy => h y (.tail _ hy)
    rw [List.flatten_cons, List.length_append, List.length_cons, Nat.succ_mul]
    omega
theorem lead_len {rs : List Int} {i turn : Int} {run : Nat} (hi : i ∈ five) (h1 : 1 ≤ run) (h3 : run ≤ 3) : (leadS rs i turn (run : Int)).length ≤ 400 := by
  have ha := wA_eq (rs := rs) hi
  have hb := wB_eq (rs := rs) (run := run) hi
  have hx := (good_all rs).2.2 i hi
  have h0 := aheadZ_nonneg rs i 1
  have h0' := aheadZ_nonneg rs i (-1)
  have hm : (run : Int) * aheadZ rs i (-1) ≤ 12 := by
    have : (run : Int) * aheadZ rs i (-1) ≤ 3 * 4 := Int.mul_le_mul (by omega) hx.2 h0' (by omega)
    omega
  have hA : wA rs i ≤ 8 := by omega
  have hB : wB rs run i ≤ 20 := by omega
  have e : (leadS rs i turn (run : Int)).length = (leadS rs i turn (run : Int)).cps.toList.length := by simp [Str.length]
  rw [e]
  unfold leadS
  rw [ha, hb, join_cps]
  simp only [Int.toNat_natCast]
  refine Nat.le_trans (flat_len (b := 4) ?_) ?_
  · intro x hx
    obtain ⟨y, hy, rfl⟩ := List.mem_map.mp hx
    have hy' : y ∈ List.replicate (wA rs i) (Txt.mul (Str.ofString " ") (run : Int) ++ Str.ofString "\t") ++ List.replicate (wB rs run i) (Str.ofString "\t") := by
      rcases List.mem_append.mp hy with q | q
      · exact List.mem_of_mem_drop q
      · exact List.mem_of_mem_take q
    rcases List.mem_append.mp hy' with q | q
    · rw [List.eq_of_mem_replicate q, mul_cps run h1 h3]
      simp
      omega
    · rw [List.eq_of_mem_replicate q]
      exact (by decide +kernel : (Str.ofString "\t").cps.toList.length ≤ 4)
  · rw [List.length_map, List.length_append, Nat.add_comm, ← List.length_append, List.take_append_drop, List.length_append, List.length_replicate, List.length_replicate]
    omega
theorem row_len {rs : List Int} {i turn z : Int} {run : Nat} (hi : i ∈ five) (h1 : 1 ≤ run) (h3 : run ≤ 3) : (leadS rs i turn (run : Int) ++ (opAt z).1).length ≤ 1000 := by
  have a := lead_len (rs := rs) (turn := turn) hi h1 h3
  have b := (op_len _ (opAt_mem z)).1
  rw [len_app]
  omega
theorem five_of {i : Nat} (h : i < 5) : (i : Int) ∈ five := by
  have : i = 0 ∨ i = 1 ∨ i = 2 ∨ i = 3 ∨ i = 4 := by omega
  rcases this with rfl | rfl | rfl | rfl | rfl <;> decide
/-- a row of the law's -/
noncomputable def rowZ (zs : List Int) (run i : Nat) : Str := leadS (rsOf zs) (i : Int) (((zs.getD i 0).fdiv 65).fmod 20) (run : Int) ++ (opAt (zs.getD i 0)).1
theorem rowZ_ws (zs : List Int) {run i : Nat} (hi : i < 5) (h1 : 1 ≤ run) (h3 : run ≤ 3) : wsGo (rowZ zs run i).cps.toList 0 0 0 [] = (wN (rsOf zs) run i, wT (rsOf zs) run i, 0, wC (rsOf zs) run i) := ws_law (five_of hi) h1 h3
theorem rowZ_len (zs : List Int) {run i : Nat} (hi : i < 5) (h1 : 1 ≤ run) (h3 : run ≤ 3) : (rowZ zs run i).length ≤ 1000 := row_len (five_of hi) h1 h3
theorem strs_at : ∀ {vs : List Value} {xs : List Str}, StrsAre vs xs → ∀ {i : Nat} {x : Str}, xs[i]? = some x → ∃ t, vs[i]? = some (.str x t)
  | _, _, .nil, i, x, h => by simp at h
  | _, _, .cons y t hr, i, x, h => by
    cases i with
    | zero =>
      rw [List.getElem?_cons_zero] at h
      cases h
      exact ⟨t, rfl⟩
    | succ i =>
      rw [List.getElem?_cons_succ] at h
      obtain ⟨t', e⟩ := strs_at hr h
      exact ⟨t', by rw [List.getElem?_cons_succ]; exact e⟩
theorem strs_of : ∀ {vs : List Value} {xs : List Str}, StrsAre vs xs → ∀ {i : Nat} {v : Value}, vs[i]? = some v → ∃ x t, v = .str x t ∧ xs[i]? = some x
  | _, _, .nil, i, x, h => by simp at h
  | _, _, .cons y t hr, i, x, h => by
    cases i with
    | zero =>
      rw [List.getElem?_cons_zero] at h
      cases h
      exact ⟨y, t, rfl, rfl⟩
    | succ i =>
      rw [List.getElem?_cons_succ] at h
      obtain ⟨x', t', e1, e2⟩ := strs_of hr h
      exact ⟨x', t', e1, by rw [List.getElem?_cons_succ]; exact e2⟩
theorem bWo_len (rs : List Int) : ∀ (f k lo : Nat) (wo : List Int), (bWo rs f lo k wo).length = wo.length := by
  intro f
  induction f with
  | zero => intro k lo wo; cases k <;> rfl
  | succ f ih =>
    intro k lo wo
    cases k with
    | zero => rw [bWo_zero]
    | succ k => rw [bWo_succ, List.length_set, ih, ih]
theorem bSt_len (rs : List Int) : (bSt rs 5 0 5 (List.replicate 5 [])).length = 5 := by
  rw [← (good_all rs).1]
  rfl
end
section
open PySem PySem.W PySem.Calls PyProof.Rows
set_option maxRecDepth 100000
theorem hide_ne {h : Heap} {b : Addr} {o : Obj} (e : h.get? b = some o) (hb : b ≠ 135) : (hideAll h [135]).get? b = some o := hideAll_get _ e (by simpa using hb)
theorem ns_hide {h : Heap} {a : Addr} {m : Str → Option Value} (G : h.Ns a m) (h135 : h.get? 135 = some tabObj) : (hideAll h [135]).Ns a m := by
  obtain ⟨o, es, ep, e, hd, r⟩ := G
  refine ⟨o, es, ep, hide_ne e ?_, hd, r⟩
  rintro rfl
  rw [h135] at e
  cases e
  cases hd
theorem In_hide {P : Params} {h : Heap} (X : (hd.heap_39 P).In h) (hk : (hd.heap_39 P).lookup 135 = none) : (hd.heap_39 P).In (hideAll h [135]) := fun a o e => hide_ne (X a o e) (by rintro rfl; rw [hk] at e; cases e)
theorem In_of_tab {P : Params} {h : Heap} (X : (addTab hd.heap_39 P).In h) (hk : (hd.heap_39 P).lookup 135 = none) : (hd.heap_39 P).In h ∧ h.get? 135 = some tabObj := by
  refine ⟨fun a o e => X a o ?_, X 135 tabObj rfl⟩
  have : a ≠ 135 := by rintro rfl; rw [hk] at e; cases e
  show (List.lookup a ((135, tabObj) :: hd.heap_39 P)) = some o
  have hb : (a == 135) = false := by simpa using this
  rw [List.lookup_cons, hb]
  exact e
/-- the table of a def's code, as the written part has it -/
noncomputable def tabGood (K : Frag) (n : Str) : Bool := match nsIn K mainGlobals n with
  | some (some (.ref a)) => (match K.lookup a with
    | some ⟨_, _, .func fd, _⟩ => (match fd.code with
      | .ref c => (match K.lookup c with
        | some ⟨_, _, .fields vs, _⟩ => (match (vs.toList[11]? : Option Value) with
          | some (Value.ref P) => P != 135
          | _ => false)
        | _ => false)
      | _ => false)
    | _ => false)
  | _ => false
theorem tabs_good (P : Params) : ((recsOf hd.view_39).all fun d => tabGood (hd.heap_39 P) d.name) = true := by kernel_rfl
theorem owns_none : ownsOf hd.view_39 = [] := by kernel_rfl

theorem tab_ne {K : Frag} {h : Heap} {n : Str} {mg : Str → Option Value} (X : K.In h) (G : h.Ns mainGlobals mg) (hg : tabGood K n = true) {a c P : Addr} {o : Obj} {fd : FuncData} (h1 : mg n = some (.ref a)) (h2 : h.get? a = some o) (h3 : o.data = .func fd) (h4 : fd.code = .ref c) (h6 : h.TableAt c P #[]) : P ≠ 135 := by
  unfold tabGood at hg
  split at hg
  · rename_i a' hn
    have hm := mg_of X G hn
    rw [h1] at hm
    cases hm
    split at hg
    · rename_i oc od fd' sl hK
      have e := X _ _ hK
      rw [h2] at e
      cases e
      dsimp only at h3
      cases h3
      split at hg
      · rename_i c' hc
        rw [h4] at hc
        cases hc
        split at hg
        · rename_i oc2 od2 vs sl2 hK2
          have e2 := X _ _ hK2
          obtain ⟨⟨o2, vs2, e3, -, hd2, h11⟩, -⟩ := h6
          rw [e3] at e2
          cases e2
          cases hd2
          split at hg
          · rename_i P' hP
            rw [Array.getElem?_toList, h11] at hP
            cases hP
            simpa using hg
          · cases hg
        · cases hg
      · cases hg
    · cases hg
  · cases hg
theorem top_hide {w : World} {mean : ExcName → Option Value} {mg mb : Str → Option Value} {h : Heap} (T : Top hd.view_39 LS mean mg mb h) (X : (hd.heap_39 w.params).In h) (h135 : h.get? 135 = some tabObj) : Top hd.view_39 LS mean mg mb (hideAll h [135]) where
  g := ns_hide T.g h135
  b := ns_hide T.b h135
  nolimit := let ⟨mc, a, b⟩ := T.nolimit; ⟨mc, ns_hide a h135, b⟩
  nodigits := let ⟨mc, a, b⟩ := T.nodigits; ⟨mc, ns_hide a h135, b⟩
  fn := fun d hd => by
    obtain ⟨a, o, pm, code, doc, h1, h2, h3, h4⟩ := T.fn d hd
    refine ⟨a, o, pm, code, doc, h1, hide_ne h2 ?_, h3, ?_⟩
    · rintro rfl
      rw [h135] at h2
      cases h2
      cases h3
    · obtain ⟨c, oc, vs, t, e, g, hdv, r⟩ := h4
      refine ⟨c, oc, vs, t, e, hide_ne g ?_, hdv, r⟩
      rintro rfl
      rw [h135] at g
      cases g
      cases hdv
      cases r
  own := fun o ho => by rw [owns_none] at ho; cases ho
  const := T.const
  free := T.free
  builtins := T.builtins
  tab := fun d hd => by
    obtain ⟨a, o, fd, c, P, h1, h2, h3, h4, h5, h6⟩ := T.tab d hd
    have hP : P ≠ 135 := tab_ne X T.g (List.all_eq_true.mp (tabs_good w.params) d hd) h1 h2 h3 h4 h6
    have hc : c ≠ 135 := by
      rintro rfl
      obtain ⟨⟨o2, vs2, e3, hcl, hd2, h11⟩, -⟩ := h6
      rw [h135] at e3
      cases e3
      cases hcl
    refine ⟨a, o, fd, c, P, h1, hide_ne h2 ?_, h3, h4, ?_, ?_⟩
    · rintro rfl
      rw [h135] at h2
      cases h2
      cases h3
    · obtain ⟨oc, vs, file, tf, flags, tg, inF, text, tt, op, a1, r1, r2, r3, r4, r5, r6, b1, r⟩ := h5
      exact ⟨oc, vs, file, tf, flags, tg, inF, text, tt, op, hide_ne a1 hc, r1, r2, r3, r4, r5, r6, hide_ne b1 hP, r⟩
    · obtain ⟨⟨o2, vs2, e3, r⟩, t⟩ := h6
      exact ⟨⟨o2, vs2, hide_ne e3 hc, r⟩, hide_ne t hP⟩
  bmain := by
    obtain ⟨bm, ob, h1, h2, h3, h4, h5, h6⟩ := T.bmain
    refine ⟨bm, ob, h1, h2, hide_ne h3 ?_, h4, h5, h6⟩
    rintro rfl
    rw [h135] at h3
    cases h3
    cases h6
  seer := fun hi => by
    have S := T.seer hi
    refine ⟨?_, ?_, ?_, ?_⟩
    · obtain ⟨mc, a, b⟩ := S.statics; exact ⟨mc, ns_hide a h135, b⟩
    · obtain ⟨mc, a, b⟩ := S.mods; exact ⟨mc, ns_hide a h135, b⟩
    · obtain ⟨mc, a, b⟩ := S.imp; exact ⟨mc, ns_hide a h135, b⟩
    · obtain ⟨mg', bm, ob, a, b, c, d, e⟩ := S.main
      refine ⟨mg', bm, ob, ns_hide a h135, b, hide_ne c ?_, d, e⟩
      rintro rfl
      rw [h135] at c
      cases c
      cases d
end
section
open PySem PySem.W PyProof.Rows PySem.Spec PySem.Calls
open PyProof.Rows.LCg PyProof.Rows.LCp
set_option maxRecDepth 100000
set_option maxHeartbeats 2000000
theorem lookup_relabel_cell {env : Env} : ∀ {names : List (Str × NameKind)} {x : Str}, names.lookup x = some .cell →
    (names.map fun (n, k) => if (k == NameKind.free && env.scope.kind == .function && env.kindOf n == some .cell) then (n, NameKind.cell) else (n, k)).lookup x = some .cell
  | [], _, h => by simp at h
  | (n, k) :: r, x, h => by
    have ih := @lookup_relabel_cell env r x
    show List.lookup x ((if (k == NameKind.free && env.scope.kind == .function && env.kindOf n == some .cell) = true then (n, NameKind.cell) else (n, k)) :: _) = _
    cases hx : x == n with
    | true =>
      simp only [List.lookup_cons, hx] at h
      cases h
      simp [List.lookup_cons, hx]
    | false =>
      simp only [List.lookup_cons, hx] at h
      by_cases hc : (k == NameKind.free && env.scope.kind == .function && env.kindOf n == some .cell) = true
      · rw [if_pos hc]; simp only [List.lookup_cons, hx]; exact ih h
      · rw [if_neg hc]; simp only [List.lookup_cons, hx]; exact ih h
section
variable {prog : Program} {w : World} {A : Around} {E : Value → Shared → Prop} {s : Shared} {h₀ : Heap} {L : Addr} {m : Str → Option Value} {env : Env}
/-- a comprehension's own room, with one cell of its own -/
theorem newEnv_cell {scope : Scope} {cl : List (Str × Addr)} {x : Str} {Q : Env → Shared → Prop} (hcf : ∀ c, cellsFrom c scope.names cl = (x, c) :: cl)
    (hpc : ∀ h, pushCells h scope.names = h.push { cls := .type "cell", data := .cell none })
    (hQ : Q (newEnv scope s.heap.objs.size env.globals ((x, s.heap.objs.size + 1) :: cl) env.qual none .none (some env) builtinsNs)
      { s with heap := (s.heap.push { cls := .type "dict", data := .dict #[] }).push { cls := .type "cell", data := .cell none } }) :
    wpAny (model prog w) A (newFunctionEnv scope env.globals cl [] env.qual none .none (some env)) Q E s := by
  simp only [newFunctionEnv, Option.isSome_some, if_true]
  refine wpAny_bind (wpAny_alloc ?_)
  refine wpAny_bind (wpAny_layCells _ (fun name kind cells => by cases hkc : kind == NameKind.cell <;> simp) _ _ _ _ ?_)
  rw [hcf, hpc]
  rw [show ({ s with heap := s.heap.push { cls := .type "dict", data := .dict #[] } } : Shared).heap.objs.size = s.heap.objs.size + 1 from Heap.size_push ..]
  rw [List.forIn_nil]
  exact wpAny_bind (wpAny_pure (wpAny_pure hQ))
noncomputable def OffC (I C K D : Addr) (l : Led) : Prop := ∀ p ∈ l, (@Ne Nat p.1 I) ∧ (@Ne Nat p.1 C) ∧ (@Ne Nat p.1 K) ∧ (@Ne Nat p.1 D)
inductive StC (h₀ : Heap) (L : Addr) (m : Str → Option Value) (n : Nat) (St : Nat → Heap → Prop) (Inv : Nat → List Value → Led → Prop) (s₂ : Shared) (I C K D : Addr) (k : Nat) (s' : Shared) : Prop
  | mk (h' : Heap) (tk i : Nat) (ys : List Value) (m' : Str → Option Value) (news' : Led) (vK : Option Value) (a1 : s' = { s₂ with heap := h', toks := tk }) (a2 : i ≤ n) (a3 : k = n + 1 - i) (a4 : ys.length = i) (a5 : St i h') (a6 : Fr h₀ L h' m) (a7 : h'.Ns C m') (a8 : h'.IsCell K vK)
    (a9 : News h₀ L h' ((D, LCg.lst ys) :: news')) (a10 : OffC I C K D news') (a11 : Inv i ys news') : StC h₀ L m n St Inv s₂ I C K D k s'
theorem block_C {elt iter : Expr} {x : Str} {px : Pos} {scope : Scope} {cl : List (Str × Addr)} {pos : Pos} {s₂ : Shared} {I : Addr} {fp : List Addr} {n : Nat} {P : Nat → Value → Prop} {St : Nat → Heap → Prop} {news : Led}
    (Inv : Nat → List Value → Led → Prop) {RR : Value → Addr → Result → Shared → Prop}
    (W : Walks prog w A I fp [I] n P St) (hsz : n ≤ sizeLine) (hIo : ∀ i h, St i h → ∃ o, h.get? I = some o)
    (hSt : ∀ i h h' o nw, St i h → h.get? I = some o → h'.get? I = some o → (∀ b o, h₀.get? b = some o → h'.get? b = some o) → News h₀ L h' nw → True → St i h')
    (hcf : ∀ c, cellsFrom c scope.names cl = (x, c) :: cl) (hpc : ∀ h, pushCells h scope.names = h.push { cls := .type "cell", data := .cell none })
    (hkind : scope.kind = .function) (hx : scope.names.lookup x = some .cell) (hst : St 0 s₂.heap) (hfp : ∀ b ∈ fp, b < s₂.heap.objs.size)
    (F : Fr h₀ L s₂.heap m) (N : News h₀ L s₂.heap news) (hIL : L ≠ I) (hI₀ : h₀.get? I = none) (off : ∀ p ∈ news, p.1 ≠ I)
    (start : Inv 0 [] news)
    (turn : ∀ i ys nw v, i < n → Inv i ys nw → P i v → ∀ I oI C oC K oK D h tk (E' : Value → Shared → Prop), oK.data = .cell (some v) → Fr h₀ L h m → News h₀ L h ((K, oK) :: (I, oI) :: (C, oC) :: (D, LCg.lst ys) :: nw) → OffC I C K D nw →
      wpAny (model prog w) A (eval elt (compEnvC scope ((x, K) :: cl) C env)) (fun y s₄ => ∃ h' tk' nw', s₄ = { s₂ with heap := h', toks := tk' } ∧ Fr h₀ L h' m ∧ News h₀ L h' ((K, oK) :: (I, oI) :: (C, oC) :: (D, LCg.lst ys) :: nw') ∧ OffC I C K D nw' ∧ Inv (i + 1) (ys ++ [y]) nw') E' { s₂ with heap := h, toks := tk })
    (hRR : ∀ D C h tk m' ys news', Fr h₀ L h m → News h₀ L h ((D, LCg.lst ys) :: news') → LCg.Off1 D news' → h.Ns C m' → h₀.get? C = none → h₀.get? D = none → C ≠ L → D ≠ L → C ≠ D → (∀ p ∈ news', p.1 ≠ C) → Inv n ys news' → RR (.ref D) C (.ok .next) { s₂ with heap := h, toks := tk }) :
    wpAny (model prog w) A (newList []) (fun acc s₃ => wpAny (model prog w) A (newFunctionEnv scope env.globals cl [] env.qual none .none (some env)) (fun cenv s₄ =>
      codeAny (model prog w) A (.compStart (.ListComp elt [⟨.Name x px, iter, [], 0⟩] scope pos) 0 (.ref I) acc { cenv with scope := relabel scope env }) (RR acc cenv.locals) s₄) E s₃) E s₂ := by
  refine wpAny_newObj_type (newEnv_cell hcf hpc ?_)
  generalize hH2 : s₂.heap.push { cls := .type "list", dict := none, data := .seq ([] : List Value).toArray } = H2
  dsimp only
  have hC : H2.objs.size = s₂.heap.objs.size + 1 := by rw [← hH2, Heap.size_push]
  generalize hH3 : H2.push { cls := .type "dict", data := .dict #[] } = H3
  have hK : H3.objs.size = s₂.heap.objs.size + 1 + 1 := by rw [← hH3, Heap.size_push, hC]
  generalize hH4 : H3.push { cls := .type "cell", data := .cell none } = H4
  have hK' : H2.objs.size + 1 = H3.objs.size := by rw [hK, hC]
  rw [hK']
  have hDC : s₂.heap.objs.size ≠ H2.objs.size := by rw [hC]; exact Nat.ne_of_lt (Nat.lt_succ_self _)
  have hDK : s₂.heap.objs.size ≠ H3.objs.size := by rw [hK]; exact Nat.ne_of_lt (Nat.lt_succ_of_lt (Nat.lt_succ_self _))
  have hCK : H2.objs.size ≠ H3.objs.size := by rw [← hK']; exact Nat.ne_of_lt (Nat.lt_succ_self _)
  have below : ∀ b, b < s₂.heap.objs.size → b ≠ H2.objs.size ∧ b ≠ H3.objs.size ∧ b ≠ s₂.heap.objs.size := fun b hb => ⟨by rw [hC]; exact Nat.ne_of_lt (Nat.lt_succ_of_lt hb), by rw [hK]; exact Nat.ne_of_lt (Nat.lt_succ_of_lt (Nat.lt_succ_of_lt hb)), Nat.ne_of_lt hb⟩
  have hDf : s₂.heap.objs.size ∉ fp := fun hm => Nat.lt_irrefl _ (hfp _ hm)
  have hCf : H2.objs.size ∉ fp := fun hm => (below _ (hfp _ hm)).1 rfl
  have hKf : H3.objs.size ∉ fp := fun hm => (below _ (hfp _ hm)).2.1 rfl
  have hIf : I ∈ fp := W.sub I (List.mem_singleton.mpr rfl)
  have hIlt : I < s₂.heap.objs.size := hfp I hIf
  have old : ∀ b o, s₂.heap.get? b = some o → H4.get? b = some o := fun b o e => hH4 ▸ Heap.get?_push_of_some _ (hH3 ▸ Heap.get?_push_of_some _ (hH2 ▸ Heap.get?_push_of_some _ e))
  have hacc : H4.get? s₂.heap.objs.size = some (LCg.lst []) := hH4 ▸ Heap.get?_push_of_some _ (hH3 ▸ Heap.get?_push_of_some _ (hH2 ▸ Heap.get?_push_size _ rfl))
  have hns₁ : H4.Ns H2.objs.size (fun _ => none) := by
    rw [← hH4, ← hH3]
    exact (Heap.Ns.new H2 (.type "dict")).keeps fun b o e => Heap.get?_push_of_some _ e
  have hcell₁ : H4.IsCell H3.objs.size none := ⟨_, by rw [← hH4]; exact Heap.get?_push_size _ rfl, rfl⟩
  have hst₁ : St 0 H4 := W.frame _ _ _ hst fun b _ o e => old b o e
  have fresh : ∀ a, s₂.heap.objs.size ≤ a → s₂.heap.get? a = none := fun a ha => by
    cases e : s₂.heap.get? a with
    | none => rfl
    | some o' => exact absurd (Heap.lt_size e) (Nat.not_lt.mpr ha)
  have fresh₀ : ∀ a, s₂.heap.objs.size ≤ a → h₀.get? a = none := fun a ha => by
    cases e : h₀.get? a with
    | none => rfl
    | some o' => have := F.keep a o' e; rw [fresh a ha] at this; cases this
  have hD₀ : h₀.get? s₂.heap.objs.size = none := fresh₀ _ (Nat.le_refl _)
  have hC₀ : h₀.get? H2.objs.size = none := fresh₀ _ (by rw [hC]; exact Nat.le_succ _)
  have hK₀ : h₀.get? H3.objs.size = none := fresh₀ _ (by rw [hK]; exact Nat.le_succ_of_le (Nat.le_succ _))
  have hLlt : L < s₂.heap.objs.size := F.ns.lt
  have hDL : s₂.heap.objs.size ≠ L := Ne.symm (below L hLlt).2.2
  have hCL : H2.objs.size ≠ L := Ne.symm (below L hLlt).1
  have hKL : H3.objs.size ≠ L := Ne.symm (below L hLlt).2.1
  have hCI : I ≠ H2.objs.size := (below I hIlt).1
  have hKI : I ≠ H3.objs.size := (below I hIlt).2.1
  have hDI : I ≠ s₂.heap.objs.size := (below I hIlt).2.2
  have off₀ : OffC I H2.objs.size H3.objs.size s₂.heap.objs.size news := fun p hp => ⟨off p hp, below _ (Heap.lt_size (N p hp).1)⟩
  have loop : ∀ s₃ : Shared, s₃ = { s₂ with heap := H4 } →
      codeAny (model prog w) A (.compLoop (.ListComp elt [⟨.Name x px, iter, [], 0⟩] scope pos) 0 (.ref I) (.ref s₂.heap.objs.size) (compEnvC scope ((x, H3.objs.size) :: cl) H2.objs.size env))
        (RR (.ref s₂.heap.objs.size) H2.objs.size) s₃ := by
    rintro s₃ rfl
    refine codeAny_compLoop_tests
      (StC h₀ L m n St Inv s₂ I H2.objs.size H3.objs.size s₂.heap.objs.size) ?_ (n + 1)
      ⟨H4, _, 0, [], _, news, none, rfl, Nat.zero_le _, rfl, rfl, hst₁, F.keeps old, hns₁, hcell₁, fun p hp => ?_, off₀, start⟩
    · rintro k s' ⟨h', tk, i, ys, m', news', vK, rfl, hi, rfl, hyl, hst', F', hn', hk', N', off', R'⟩
      by_cases hlt : i < n
      · refine W.item i _ _ _ hlt hst' fun v h₂ tk₂ hPv hst₂ hk₂ => ?_
        have hcell₂ : h₂.IsCell H3.objs.size vK := by
          obtain ⟨o, e, d⟩ := hk'
          exact ⟨o, hk₂ _ o (by simpa using Ne.symm hKI) e, d⟩
        refine wpAny_assign_Name (wpAny_storeName_cell (c := H3.objs.size) hkind (lookup_relabel_cell hx) (by simp [compEnvC]) hcell₂ (fun h₃ hc₃ hs₃ => ?_))
        refine wpAny_tests_nil ?_
        simp only [if_true]
        have hst₃ : St (i + 1) h₃ := W.frame _ _ _ hst₂ fun b hb o e => hs₃.extBut b o (fun q => hKf (by have q' : b = H3.objs.size := q; rw [← q']; exact hb)) e
        obtain ⟨oI, heI⟩ := hIo _ _ hst₃
        obtain ⟨oC, heC, hoC⟩ := ns_obj ((hn'.at' fun o e => hk₂ _ o (by simpa using Ne.symm hCI) e).sameBut hs₃ hCK)
        obtain ⟨oK, heK, hoK⟩ := hc₃
        have F₃ : Fr h₀ L h₃ m := (fr_but F' hk₂ hIL hI₀).change hs₃ hKL hK₀
        have N₂ : News h₀ L h₂ ((s₂.heap.objs.size, LCg.lst ys) :: news') := news_but N' hk₂ fun p hp => by
          rcases List.mem_cons.mp hp with rfl | hp
          · exact Ne.symm hDI
          · exact (off' p hp).1
        have N₃ : News h₀ L h₃ ((H3.objs.size, oK) :: (I, oI) :: (H2.objs.size, oC) :: (s₂.heap.objs.size, LCg.lst ys) :: news') := fun p hp => by
          rcases List.mem_cons.mp hp with rfl | hp
          · exact ⟨heK, hKL, hK₀⟩
          rcases List.mem_cons.mp hp with rfl | hp
          · exact ⟨heI, Ne.symm hIL, hI₀⟩
          · rcases List.mem_cons.mp hp with rfl | hp
            · exact ⟨heC, hCL, hC₀⟩
            · have z := N₂ p hp
              refine ⟨hs₃.extBut _ _ ?_ z.1, z.2⟩
              rcases List.mem_cons.mp hp with rfl | hp
              · exact hDK
              · exact (off' p hp).2.2.1
        refine wpAny_mono (turn i ys news' v hlt R' hPv I oI H2.objs.size oC H3.objs.size oK s₂.heap.objs.size h₃ _ _ hoK F₃ N₃ off') (fun y s₄ h₄ => ?_) fun _ _ e => e
        obtain ⟨h₄, tk₄, news₄, rfl, F₄, N₄, off₄, R₄⟩ := h₄
        have zK := (N₄ (H3.objs.size, oK) List.mem_cons_self).1
        have zI := (N₄ (I, oI) (List.mem_cons_of_mem _ List.mem_cons_self)).1
        have zC := (N₄ (H2.objs.size, oC) (List.mem_cons_of_mem _ (List.mem_cons_of_mem _ List.mem_cons_self))).1
        have zD := (N₄ (s₂.heap.objs.size, LCg.lst ys) (List.mem_cons_of_mem _ (List.mem_cons_of_mem _ (List.mem_cons_of_mem _ List.mem_cons_self)))).1
        have N₄' : News h₀ L h₄ news₄ := fun p hp => N₄ p (List.mem_cons_of_mem _ (List.mem_cons_of_mem _ (List.mem_cons_of_mem _ (List.mem_cons_of_mem _ hp))))
        have hst₄ : St (i + 1) h₄ := hSt _ _ _ _ _ hst₃ heI zI F₄.keep N₄' trivial
        refine append_at (hsz := by show ys.toArray.size ≤ sizeLine; rw [List.size_toArray, hyl]; exact Nat.le_trans hi hsz) zD fun h₅ hs₅ hD₅ => ?_
        refine ⟨n + 1 - (i + 1), by omega, h₅, tk₄, i + 1, ys ++ [y], _, news₄, some v, rfl, hlt, rfl, by rw [List.length_append, List.length_singleton, hyl], W.frame _ _ _ hst₄ fun b hb o e => hs₅.extBut b o (fun q => hDf (q ▸ hb)) e, F₄.change hs₅ hDL hD₀,
          (hoC.ns zC).sameBut hs₅ (Ne.symm hDC), ⟨oK, hs₅.extBut _ _ (Ne.symm hDK) zK, hoK⟩, fun p hp => ?_, off₄, R₄⟩
        · rcases List.mem_cons.mp hp with rfl | hp
          · exact ⟨hD₅.trans (congrArg some (lst_snoc ys y)), hDL, hD₀⟩
          · exact ⟨hs₅.extBut _ _ (off₄ p hp).2.2.2 (N₄' p hp).1, (N₄' p hp).2⟩
      · obtain rfl : i = n := Nat.le_antisymm hi (Nat.not_lt.mp hlt)
        refine W.done _ _ _ hst' fun h₂ tk₂ hk₂ => ?_
        exact hRR _ _ h₂ tk₂ _ ys news' (fr_but F' hk₂ hIL hI₀) (news_but N' hk₂ fun p hp => by
          rcases List.mem_cons.mp hp with rfl | hp
          · exact Ne.symm hDI
          · exact (off' p hp).1) (off1_of fun p hp => (off' p hp).2.2.2) (hn'.at' fun o e => hk₂ _ o (by simpa using Ne.symm hCI) e) hC₀ hD₀ hCL hDL (Ne.symm hDC) (fun p hp => (off' p hp).2.1) R'
    · rcases List.mem_cons.mp hp with rfl | hp
      · exact ⟨hacc, hDL, hD₀⟩
      · exact ⟨old _ _ (N p hp).1, (N p hp).2⟩
  exact codeAny_compStart_list (loop _ rfl) (W.self 0 _ _ _ hst₁ (loop _ rfl))
/-- the source of a comprehension over a range, whose name is a cell -/
inductive SrcC (prog : Program) (w : World) (A : Around) (h₀ : Heap) (L : Addr) (m : Str → Option Value) (env : Env) (elt : Expr) (x : Str) (scope : Scope) (cl : List (Str × Addr)) (Fin : Shared → List Value → Led → Prop) (xv : Value) (s₁ : Shared) : Prop
  | mk (r : Addr) (a b : Int) (t u v : Tok) (n : Nat) (news : Led) (a1 : xv = .ref r) (a2 : A.handled = none) (a3 : Fr h₀ L s₁.heap m) (a4 : News h₀ L s₁.heap news) (a5 : IsRange s₁.heap r a b 1 t u v) (a6 : Builtin.Range.small a b 1 = true) (a7 : Builtin.Range.rangeSize a b 1 = ((n : Nat) : Int)) (a8 : n ≤ sizeLine)
    (a9 : ∀ s₂ : Shared, (∃ h, s₂ = { s₁ with heap := h }) → ∃ Inv : Nat → List Value → Led → Prop, Inv 0 [] news ∧
      (∀ i ys nw v, i < n → Inv i ys nw → (∃ t, v = .int (a + (i : Int)) t) → ∀ I oI C oC K oK D h tk (E' : Value → Shared → Prop), oK.data = .cell (some v) → Fr h₀ L h m → News h₀ L h ((K, oK) :: (I, oI) :: (C, oC) :: (D, LCg.lst ys) :: nw) → OffC I C K D nw →
        wpAny (model prog w) A (eval elt (compEnvC scope ((x, K) :: cl) C env)) (fun y s₄ => ∃ h' tk' nw', s₄ = { s₂ with heap := h', toks := tk' } ∧ Fr h₀ L h' m ∧ News h₀ L h' ((K, oK) :: (I, oI) :: (C, oC) :: (D, LCg.lst ys) :: nw') ∧ OffC I C K D nw' ∧ Inv (i + 1) (ys ++ [y]) nw') E' { s₂ with heap := h, toks := tk }) ∧
      ∀ ys nw, Inv n ys nw → Fin s₂ ys nw) : SrcC prog w A h₀ L m env elt x scope cl Fin xv s₁
theorem SrcC.intro {elt : Expr} {x : Str} {scope : Scope} {cl : List (Str × Addr)} {Fin : Shared → List Value → Led → Prop} {r : Addr} {a b : Int} {t u v : Tok} {n : Nat} {news : Led} {s₁ : Shared}
    (hh : A.handled = none) (F : Fr h₀ L s₁.heap m) (N : News h₀ L s₁.heap news) (hr : IsRange s₁.heap r a b 1 t u v) (hsm : Builtin.Range.small a b 1 = true) (hn : Builtin.Range.rangeSize a b 1 = ((n : Nat) : Int)) (hsz : n ≤ sizeLine)
    (h : ∀ g, ∃ Inv : Nat → List Value → Led → Prop, Inv 0 [] news ∧
      (∀ i ys nw v, i < n → Inv i ys nw → (∃ t, v = .int (a + (i : Int)) t) → ∀ I oI C oC K oK D h tk (E' : Value → Shared → Prop), oK.data = .cell (some v) → Fr h₀ L h m → News h₀ L h ((K, oK) :: (I, oI) :: (C, oC) :: (D, LCg.lst ys) :: nw) → OffC I C K D nw →
        wpAny (model prog w) A (eval elt (compEnvC scope ((x, K) :: cl) C env)) (fun y s₄ => ∃ h' tk' nw', s₄ = { s₁ with heap := h', toks := tk' } ∧ Fr h₀ L h' m ∧ News h₀ L h' ((K, oK) :: (I, oI) :: (C, oC) :: (D, LCg.lst ys) :: nw') ∧ OffC I C K D nw' ∧ Inv (i + 1) (ys ++ [y]) nw') E' { s₁ with heap := h, toks := tk }) ∧
      ∀ ys nw, Inv n ys nw → Fin { s₁ with heap := g } ys nw) :
    SrcC prog w A h₀ L m env elt x scope cl Fin (.ref r) s₁ := ⟨r, a, b, t, u, v, n, news, rfl, hh, F, N, hr, hsm, hn, hsz, fun _ ⟨g, e⟩ => e ▸ h g⟩
theorem Assign_ListComp_C {elt iter : Expr} {x y : Str} {px py : Pos} {scope : Scope} {cl : List (Str × Addr)} {pos spos : Pos} {Q : Flow → Shared → Prop} (_F₀ : Fr h₀ L s.heap m) (hLe : env.locals = L)
    (hsw : swapsWith (.ListComp elt [⟨.Name x px, iter, [], 0⟩] scope pos) (some (.Name y py)) spos.line env = pure true)
    (hclos : closureFor scope env = pure cl) (hcf : ∀ c, cellsFrom c scope.names cl = (x, c) :: cl) (hpc : ∀ h, pushCells h scope.names = h.push { cls := .type "cell", data := .cell none }) (hkind : scope.kind = .function)
    (hnames : ∀ z ∈ scope.names, z.2 = .local → scope.names.lookup z.1 = some .local) (hx : scope.names.lookup x = some .cell)
    (hy : env.kindOf y = some .local) (hp : (env.scope.kind == .class || (env.scope.kind == .module && env.locals != env.globals)) = false)
    (h : wpAny (model prog w) A (eval iter env) (SrcC prog w A h₀ L m env elt x scope cl (fun s₂ => LCg.FinA h₀ L m s₂ y Q)) E s)
    (hs : ∀ x, foldedSetIterable iter env x = pure x := by intro _; rfl) :
    wpAny (model prog w) A (exec (.Assign [.Name y py] (.ListComp elt [⟨.Name x px, iter, [], 0⟩] scope pos) spos) env) Q E s := by
  subst hLe
  rw [exec_Assign_Name_used _ _ _ _ hsw]
  refine wpAny_bind (wpAny_standAt (wpAny_bind ?_))
  show wpAny _ A (do let _ ← comprehension (.ListComp elt [⟨.Name x px, iter, [], 0⟩] scope pos) scope env _ (newList []) false (eval iter env) (some (assign (.Name y py) env))) _ _ s
  refine wpAny_bind (wpAny_mono (wpAny_comprehension_free (use := some (assign (.Name y py) env)) (Q := fun _ s' => Q .next s') rfl hs hclos hkind hnames
    (wpAny_mono h (fun xv s₁ h₁ => ?_) fun _ _ e => e)) (fun _ s' hq => wpAny_pure (wpAny_pure hq)) fun _ _ e => e)
  obtain ⟨r, a, b, t, u, v, n, news, rfl, hh, F, N, hr, hsm, hn, hsz, R⟩ := h₁
  refine wpAny_pyIter_range hr hsm ?_
  obtain ⟨Inv, start, turn, fin⟩ := R { s₁ with heap := _ } ⟨_, rfl⟩
  refine block_C Inv (range_walks hh a n) hsz (fun i h st => ⟨_, st⟩) range_st hcf hpc hkind hx (by show IsRangeIter _ _ _ _ _; rw [hn]; simpa using Heap.get?_push_size _ rfl) (fun b hb => ?_)
    (F.keeps fun _ _ e => Heap.get?_push_of_some _ e) (N.grown fun _ _ e => Heap.get?_push_of_some _ e) (Nat.ne_of_lt F.ns.lt) (next_is_new F) (fun p hp => Nat.ne_of_lt (Heap.lt_size (N p hp).1)) start turn ?_
  · rw [List.mem_singleton.mp hb]
    show s₁.heap.objs.size < (s₁.heap.push _).objs.size
    rw [Heap.size_push]; exact Nat.lt_succ_self _
  · intro D C h' tk m' ys news' F' N' o1 hn hC₀ hD₀ hCL hDL hCD offC hfin
    have fin' := fin _ _ hfin
    show wpAny _ A (assign (.Name y py) env (.ref D)) _ _ _
    refine wpAny_assign_Name (wpAny_storeName_local hy F'.ns (fun h₂ hn₂ hs₂ => ?_) hp)
    have hL₀ : h₀.get? env.locals = none := Heap.get?_none_of_le F'.above
    have F₂ : Fr h₀ env.locals h₂ (fun z => if z = y then some (.ref D) else m z) := ⟨hn₂, fun b o e => hs₂.extBut b o (fun q => by rw [q, hL₀] at e; cases e) (F'.keep b o e), F'.above⟩
    refine ⟨m', hn.sameBut hs₂ hCL, fun h'' hs'' => fin' D h'' _ (F₂.change hs'' hCL hC₀) (fun p hp => ?_) o1⟩
    have z : h₂.get? p.1 = some p.2 := hs₂.extBut _ _ (N' p hp).2.1 (N' p hp).1
    refine ⟨hs''.extBut _ _ ?_ z, (N' p hp).2⟩
    rcases List.mem_cons.mp hp with rfl | hp
    · exact Ne.symm hCD
    · exact offC p hp
end
end
section
open PySem PySem.W PyProof.Rows PySem.Spec PySem.Calls
set_option maxRecDepth 100000
set_option maxHeartbeats 2000000
/-- a ledger that has nothing at a place -/
noncomputable def AllNe (l : Led) (c : Nat) : Prop := ∀ p ∈ l, p.1 ≠ c
theorem AllNe.get {l : Led} {c : Nat} (h : AllNe l c) : ∀ p ∈ l, p.1 ≠ c := h
theorem AllNe.app {l l' : Led} {c : Nat} (h : AllNe l c) (h' : AllNe l' c) : AllNe (l ++ l') c := fun p hp => by
  rcases List.mem_append.mp hp with q | q
  · exact h p q
  · exact h' p q
theorem RowsIn.pick {l : Led} : ∀ {vs : List Value} {rs : List (List Int)}, RowsIn l vs rs → ∃ rr, RowsIn rr vs rs ∧ ∀ p ∈ rr, p ∈ l ∧ ∀ v, p.2.data ≠ .cell v
  | _, _, .nil => ⟨[], .nil, by simp⟩
  | _, _, .cons a us n r h1 h2 h3 => by
    obtain ⟨rr, g1, g2⟩ := h3.pick
    refine ⟨(a, listOf us.toArray n) :: rr, .cons a us n r (.head _) h2 (g1.mono fun p hp => .tail _ hp), fun p hp => ?_⟩
    rcases List.mem_cons.mp hp with rfl | hp
    · exact ⟨h1, fun v e => by cases e⟩
    · exact g2 p hp
theorem ne_cell {h₀ h : Heap} {L : Addr} {l : Led} (N : News h₀ L h l) {c : Nat} {oc : Obj} {v : Option Value} (hc : (c, oc) ∈ l) (hd : oc.data = .cell v) {p : Addr × Obj} (hp : p ∈ l) (hq : ∀ v, p.2.data ≠ .cell v) : NeA p.1 c := fun e => by
  have a := (N _ hp).1
  have b := (N _ hc).1
  rw [e] at a
  rw [show h.get? c = some oc from b] at a
  cases a
  exact hq v hd
theorem RowsIn.snoc {l : Led} {a : Addr} {us : List Value} {n : Nat} {r : List Int} (h1 : (a, listOf us.toArray n) ∈ l) (h2 : IntsAre us r) : ∀ {vs : List Value} {rs : List (List Int)}, RowsIn l vs rs → RowsIn l (vs ++ [.ref a]) (rs ++ [r])
  | _, _, .nil => .cons a us n r h1 h2 .nil
  | _, _, .cons a' us' n' r' g1 g2 g3 => .cons a' us' n' r' g1 g2 (g3.snoc h1 h2)
/-- the law's leads in the ledger -/
noncomputable def WsIn (P : Params) (l : Led) (zs : List Int) (run : Nat) (vs : List Value) (n : Nat) : Prop :=
  vs.length = n ∧ ∀ j, j < n → ∃ x0, vs[j]? = some (.ref x0) ∧ IsWs P l x0 (rowZ zs run j) (wN (rsOf zs) run j) (wT (rsOf zs) run j) 0 (wC (rsOf zs) run j)
theorem WsIn.nil {P : Params} {l : Led} {zs : List Int} {run : Nat} : WsIn P l zs run [] 0 := ⟨rfl, fun j h => absurd h (Nat.not_lt_zero _)⟩
theorem WsIn.mono {P : Params} {l l' : Led} {zs : List Int} {run : Nat} {vs : List Value} {n : Nat} (h : WsIn P l zs run vs n) (hs : ∀ p ∈ l, p ∈ l') : WsIn P l' zs run vs n :=
  ⟨h.1, fun j hj => let ⟨x0, e, w⟩ := h.2 j hj; ⟨x0, e, w.mono hs⟩⟩
theorem WsIn.snoc {P : Params} {l : Led} {zs : List Int} {run : Nat} {vs : List Value} {n : Nat} (h : WsIn P l zs run vs n) {x0 : Addr} (w : IsWs P l x0 (rowZ zs run n) (wN (rsOf zs) run n) (wT (rsOf zs) run n) 0 (wC (rsOf zs) run n)) : WsIn P l zs run (vs ++ [.ref x0]) (n + 1) := by
  refine ⟨by rw [List.length_append, h.1]; rfl, fun j hj => ?_⟩
  by_cases q : j < n
  · obtain ⟨x, e, w'⟩ := h.2 j q
    refine ⟨x, ?_, w'⟩
    rw [List.getElem?_append_left (by rw [h.1]; exact q)]
    exact e
  · have : j = n := by omega
    subst this
    refine ⟨x0, ?_, w⟩
    rw [List.getElem?_append_right (by rw [h.1]; exact Nat.le_refl _), h.1, Nat.sub_self]
    rfl
theorem AllNe.mono {l l' : Led} {c : Nat} (h : AllNe l' c) (hs : ∀ p ∈ l, p ∈ l') : AllNe l c := fun p hp => h p (hs p hp)
theorem AllNe.cons {l : Led} {a c : Nat} {o : Obj} (h1 : a ≠ c) (h : AllNe l c) : AllNe ((a, o) :: l) c := fun p hp => by
  rcases List.mem_cons.mp hp with rfl | hp
  · exact h1
  · exact h p hp
theorem AllNe.nil {c : Nat} : AllNe [] c := fun p hp => nomatch hp
section
variable {h₀ : Heap} {L I C D a b c d : Addr} {m : Str → Option Value} {s₁ : Shared} {oI oC oD oa ob oc od : Obj} {S : Led → Prop} {rest : Value → Led → Prop} {y : Value} {h' : Heap} {tk : Nat} {nw : Led}
/-- a turn's end: four new objects are kept -/
theorem compEnd4 (F : Fr h₀ L h' m) (N : News h₀ L h' ((d, od) :: (c, oc) :: (b, ob) :: (a, oa) :: (I, oI) :: (C, oC) :: (D, oD) :: nw)) (ha : ∀ p ∈ (I, oI) :: (C, oC) :: (D, oD) :: nw, p.1 < a) (lb : @LT.lt Nat _ a b) (lc : @LT.lt Nat _ b c) (ld : @LT.lt Nat _ c d)
    (off : LCg.Off3 I C D nw) (hS : S ((d, od) :: (c, oc) :: (b, ob) :: (a, oa) :: nw)) (r : rest y ((d, od) :: (c, oc) :: (b, ob) :: (a, oa) :: nw)) :
    LCg.CompEnd h₀ L m s₁ I oI C oC D oD S rest y { s₁ with heap := h', toks := tk } := by
  have gI : @LT.lt Nat _ I a := ha _ (.head _)
  have gC : @LT.lt Nat _ C a := ha _ (.tail _ (.head _))
  have gD : @LT.lt Nat _ D a := ha _ (.tail _ (.tail _ (.head _)))
  have hof := off.mem
  refine LCg.CompEnd.intro F N _ (fun p hp => ?_) (LCg.Off3.of fun p hp => ?_) hS r
  · rcases List.mem_cons.mp hp with rfl | hp
    · exact (.tail _ (.tail _ (.tail _ (.tail _ (.head _)))))
    rcases List.mem_cons.mp hp with rfl | hp
    · exact (.tail _ (.tail _ (.tail _ (.tail _ (.tail _ (.head _))))))
    rcases List.mem_cons.mp hp with rfl | hp
    · exact (.tail _ (.tail _ (.tail _ (.tail _ (.tail _ (.tail _ (.head _)))))))
    rcases List.mem_cons.mp hp with rfl | hp
    · exact .head _
    rcases List.mem_cons.mp hp with rfl | hp
    · exact .tail _ (.head _)
    rcases List.mem_cons.mp hp with rfl | hp
    · exact .tail _ (.tail _ (.head _))
    rcases List.mem_cons.mp hp with rfl | hp
    · exact .tail _ (.tail _ (.tail _ (.head _)))
    · exact (.tail _ (.tail _ (.tail _ (.tail _ (.tail _ (.tail _ (.tail _ hp)))))))
  · rcases List.mem_cons.mp hp with rfl | hp
    · refine ⟨neN ?_, neN ?_, neN ?_⟩ <;> dsimp only <;> omega
    rcases List.mem_cons.mp hp with rfl | hp
    · refine ⟨neN ?_, neN ?_, neN ?_⟩ <;> dsimp only <;> omega
    rcases List.mem_cons.mp hp with rfl | hp
    · refine ⟨neN ?_, neN ?_, neN ?_⟩ <;> dsimp only <;> omega
    rcases List.mem_cons.mp hp with rfl | hp
    · refine ⟨neN ?_, neN ?_, neN ?_⟩ <;> dsimp only <;> omega
    · exact hof p hp
end
end
section
open PySem PySem.W PyProof.Rows
section
variable {w : World} {A : Around} {h₀ : Heap} {L : Addr} {m : Str → Option Value} {news : Led} {s : Shared} {E : Value → Shared → Prop}
set_option maxRecDepth 100000 in
set_option maxHeartbeats 8000000 in
/-- a lead's method less -/
theorem ws_method {x0 : Addr} {x : Str} {n nt b : Nat} {ct : List Int} {pl : Sem Bool} {Q : Value × List Value → Shared → Prop}
    (F : Fr h₀ L s.heap m) (X : (hd.heap_39 w.params).In h₀) (N : News h₀ L s.heap news) (W : IsWs w.params news x0 x n nt b ct) (h : Q (.ref 73, [.ref x0]) s) :
    wpAny (model PySem.Challenge.rw_ti0051_01.row.prog w) A (getMethod (.ref x0) (Str.ofString "less") pl) Q E s := by
  have hfill9 : PySem.Challenge.rw_ti0051_01.foot = PySem.Challenge.rw_ti0051_01.foot ∧ hd.heap_39 = hd.heap_39 := by (k_fill; exact ⟨rfl, rfl⟩)
  clear hfill9
  w_top off
  obtain ⟨dx, Dp, Dt, vs, t1, k1, k2, k3, k4, k5, tn, tnt, tb, w1, w2, w3, w4, w5, w6, w7, w8⟩ := W
  refine method_inst F X (by k_inst) (by k_is) (by k_is) (by k_is) (by k_get) ?_
  exact h
end
end
section
open PySem PySem.W PyProof.Rows
theorem rows_eqv : ∀ st : List (List Int), PyData.eqvAll (st.map rowD) (st.map rowD) = true
  | [] => rfl
  | r :: st => by
    rw [List.map_cons]
    have e : PyData.eqv (rowD r) (rowD r) = true := by
      simp only [PyData.eqv, ked_eqvAll, decide_true]
    rw [PyData.eqvAll, e, rows_eqv st]
    rfl
theorem rows_depth : ∀ st : List (List Int), PyData.depthAll (st.map rowD) ≤ 1
  | [] => Nat.zero_le _
  | r :: st => by
    rw [List.map_cons, PyData.depthAll, row_depth]
    have := rows_depth st
    omega
section
variable {prog : Program} {w : World} {A : Around} {h₀ : Heap} {L : Addr} {news : Led} {s : Shared} {E : Value → Shared → Prop} {Q : Value → Shared → Prop}
/-- two lists of the same rows are equal -/
theorem eq_rows {a b : Addr} {vs us : List Value} {n k : Nat} {st : List (List Int)} (N : News h₀ L s.heap news) (ha : (a, listOf vs.toArray n) ∈ news) (hb : (b, listOf us.toArray k) ∈ news)
    (ra : RowsIn news vs st) (rb : RowsIn news us st) (hu : A.units + 64 < cLine) (h : Q (.bool true) s) : wpAny (model prog w) A (compareOp .Eq (.ref a) (.ref b)) Q E s := by
  obtain ⟨as, r1⟩ := ra.reads N
  obtain ⟨bs, r2⟩ := rb.reads N
  have hsh : SeqAt.shaped (.list (st.map rowD)) = true := by
    have := rows_depth st
    unfold SeqAt.shaped
    rw [show PyData.canLay0 (.list (st.map rowD)) = true from rows_canLay st, Bool.true_and]
    refine decide_eq_true ?_
    show PyData.depthAll (st.map rowD) + 1 ≤ 64
    omega
  refine eq_dataH (reads_list_at (N _ ha).1 rfl rfl r1) (reads_list_at (N _ hb).1 rfl rfl r2) hsh hsh hu ?_
  have e : PyData.eqv (.list (st.map rowD)) (.list (st.map rowD)) = true := by
    rw [PyData.eqv, rows_eqv]
  rw [e]
  exact h
end
end
section
open PySem PySem.W PyProof.Rows
local macro_rules | `(tactic| k_ne) => `(tactic| (refine neN ?_; (try dsimp only); first | exact NeA.l (by assumption) | exact NeA.r (by assumption) | omega))
local macro_rules | `(tactic| k_all) => `(tactic| first | exact ne_of_all (by assumption) (by omega) | exact ne_of_allGt (by assumption) (by omega) | exact AllNe.get (by assumption))
local macro_rules | `(tactic| walk_at "exec Assign cons ListComp") => `(tactic| (k_here; (with_reducible first | show wpAny _ _ (exec (.Assign [.Name (Str.ofString "numbers") _] _ _) _) _ _ _ | show wpAny _ _ (exec (.Assign [.Name (Str.ofString "rows") _] _ _) _) _ _ _ | show wpAny _ _ (exec (.Assign [.Name (Str.ofString "under") _] _ _) _) _ _ _ | show wpAny _ _ (exec (.Assign [.Name (Str.ofString "signs") _] _ _) _) _ _ _ | show wpAny _ _ (exec (.Assign [.Name (Str.ofString "leads") _] _ _) _) _ _ _); with_reducible refine here_of ?_))
local macro_rules | `(tactic| walk_at "eval ListComp") => `(tactic| (k_here; (with_reducible first | show wpAny _ _ (eval (.ListComp (.Call _ _ _ _) _ _ _) _) _ _ _ | show wpAny _ _ (eval (.ListComp (.Name _ _) _ _ _) _) _ _ _ | show wpAny _ _ (eval (.ListComp (.ListComp _ _ _ _) _ _ _) _) _ _ _); with_reducible refine here_of ?_))
local macro_rules | `(tactic| walk_at "binaryOp Mult ref int") => `(tactic| (k_here; with_reducible refine here_of ?_))
local macro_rules | `(tactic| walk_at "binaryOp Add ref ref") => `(tactic| (k_here; with_reducible refine here_of ?_))
local macro_rules | `(tactic| walk_at "inplaceOp Add ref") => `(tactic| (k_here; with_reducible refine here_of ?_))
local macro_rules | `(tactic| walk_at "subscriptTail Name BinOp ref int") => `(tactic| (k_here; with_reducible refine here_of ?_))
local macro_rules | `(tactic| walk_at "call builtin:str.join") => `(tactic| (k_here; with_reducible refine here_of ?_))
local macro_rules | `(tactic| walk_at "call type:enumerate") => `(tactic| (k_here; with_reducible refine here_of ?_))
local macro_rules | `(tactic| walk_at "call ref") => `(tactic| (k_here; with_reducible refine here_of ?_))
local macro_rules | `(tactic| walk_at "exec For") => `(tactic| (k_here; with_reducible refine here_of ?_))
local macro_rules | `(tactic| walk_at "exec For Name Call cons nil") => `(tactic| (k_here; with_reducible refine here_of ?_))
local macro_rules | `(tactic| walk_at "pyIter ref") => `(tactic| (k_here; with_reducible refine here_of ?_))
local macro_rules | `(tactic| walk_at "compareOp Eq") => `(tactic| (k_here; with_reducible refine here_of ?_))
local macro_rules | `(tactic| walk_at "compareOp Eq ref") => `(tactic| (k_here; with_reducible refine here_of ?_))
local macro_rules | `(tactic| walk_at "compareOp Eq ref ref") => `(tactic| (k_here; with_reducible refine here_of ?_))
local macro_rules | `(tactic| walk_at "exec While") => `(tactic| (k_here; with_reducible refine here_of ?_))

set_option maxHeartbeats 8000000 in
set_option maxRecDepth 100000 in
theorem law_walk : PySem.Challenge.rw_ti0051_01.Holds := by
  refine hd ?_
  w_strict lge_go0
  rename_i w s₀ s₁ mg mb G Y fa o pm doc ho hg KX X V GL T B TE TW bm ob M cc PP B0 hcd ns hs hlay0 hL1 hr1 hl2 as9 as8 l vs as5 hL ra w1 r0 hI hr hc1 hc2 K0 hD h₁ tk₁ F o4 o3 o2 o1 o0 d4 d3 d2 d1 d0 N0 X0 lgeM
  (try ((with_reducible show wpAny _ _ _ _ _ _); k_fold))
  have hk135 : (hd.heap_39 w.params).lookup 135 = none := by rfl
  obtain ⟨KX', h135⟩ := In_of_tab KX hk135
  have XH := In_hide KX' hk135
  have TH := top_hide T KX' h135
  have hcode : isCodeTable s₁.heap 135 := ⟨139, _, _, KX' 139 _ rfl, rfl, rfl, rfl⟩
  have hLH : (hideAll s₁.heap [135]).IsList l vs.toArray := by
    obtain ⟨ol, e, r⟩ := hL
    refine ⟨ol, hide_ne e ?_, r⟩
    rintro rfl
    rw [h135] at e
    cases e
    cases r.1
  have BH : Below callerA (hideAll s₁.heap [135]) [] (hideAll s₁.heap [135]) := below_caller _
  have FH : Fr (hideAll s₁.heap [135]) s₁.heap.objs.size h₁ _ := ⟨F.ns, fun b o e => F.keep b o (of_hideAll _ e), by rw [hideAll_size]; exact F.above⟩
  have NH : News (hideAll s₁.heap [135]) s₁.heap.objs.size h₁ ((135, tabObj) :: [(s₁.heap.objs.size + 1 + 1 + 1 + 1 + 1, o4), (s₁.heap.objs.size + 1 + 1 + 1 + 1, o3), (s₁.heap.objs.size + 1 + 1 + 1, o2), (s₁.heap.objs.size + 1 + 1, o1), (s₁.heap.objs.size + 1, o0)]) := fun p hp => by
    rcases List.mem_cons.mp hp with h | hp
    · rw [h]
      exact ⟨F.keep _ _ h135, Nat.ne_of_lt (Heap.lt_size h135), hideAll_none _ (by simp)⟩
    · have z := N0 p hp
      refine ⟨z.1, z.2.1, ?_⟩
      cases q : (hideAll s₁.heap [135]).get? p.1 with
      | none => rfl
      | some o' => have := of_hideAll _ q; rw [z.2.2] at this; cases this
  have hend : ∀ h' : Heap, (∀ b o, (hideAll s₁.heap [135]).get? b = some o → h'.get? b = some o) → (∃ ps, h'.get? 135 = some (tabF ps)) → OldK s₁.heap h' := fun h' hk ⟨ps, hp⟩ => by
    refine ⟨fun b o e => ?_, fun b o e => ?_⟩
    · by_cases hb : b = 135
      · subst hb
        rw [h135] at e
        cases e
        exact .inr (.inl ⟨hcode, rfl, #[], ps, rfl, by rw [hp]; simp⟩)
      · exact .inl (hk _ _ (hide_ne e hb))
    · by_cases hb : b = 135
      · subst hb
        exact ⟨_, hp⟩
      · exact ⟨_, hk _ _ (hide_ne e hb)⟩
  have hsz135 : @LT.lt Nat _ 135 s₁.heap.objs.size := Heap.lt_size h135
  clear K0 N0 F KX' KX hL
  clear G Y X V GL B TE TW M B0 hcd hs hlay0 hL1 hr1 hl2 ra w1 r0 hr hD lgeM ho T
  all_goals try k_fold
  k_steps
  unfold Here
  rename_i W0 ws0 hW0 hIW hCW hLW lW kl1 kl2 gW hID hLD DR hDR tkDR oDR hQ0 oQ F0 N0 dQ
  (try ((with_reducible show wpAny _ _ _ _ _ _); k_fold))
  have hIDk : IntsAre ys (List.map (fun k' => k'.fmod (10 ^ Int.toNat 6)) (List.take 10 ns)) ∧ True := ⟨hID, trivial⟩
  refine Assign_ListComp_E (F₀ := F0) (by rfl) (by with_unfolding_all rfl) (by with_unfolding_all rfl) (by decide) (by rfl) (by decide) (by rfl) (by rfl) (by decide) (by rfl) (by rfl) ?_
  k_steps
  unfold Here
  rename_i l5 hE5 FE5 NE5 lE5
  (try ((with_reducible show wpAny _ _ _ _ _ _); k_fold))
  refine SrcE.intro (by rfl) FE5 NE5 (.head _) (by show 5 ≤ sizeLine; rw [sizeLine_eq]; omega) ?_
  intro g5
  refine ⟨(fun i ysn nw => nw = _ ∧ ∃ zs, IntsAre ysn zs ∧ zs.length = i ∧ ∀ z ∈ zs, 0 ≤ z ∧ z ≤ 100000000), 0, ⟨rfl, [], .nil, rfl, by simp⟩, ?_, ?_, ?_⟩
  · rintro i ys nw ⟨rfl, _⟩
    exact .head _
  · rintro i ysn nw v t e it oE oJ C oC D m2 h tk2 E' hv hJ1 hC hx hx2 FF NN off
    (try ((with_reducible show wpAny _ _ _ _ _ _); k_fold))
    obtain ⟨rfl, zs, hzs, hzl, hzb⟩ := hJ1
    have hsd : ∃ sd t', v = .int sd t' ∧ 0 ≤ sd ∧ sd ≤ 300 := by
      rcases i with _ | _ | _ | _ | _ | i <;> simp at hv <;> subst hv <;> exact ⟨_, _, rfl, by omega, by omega⟩
    obtain ⟨sd, tsd, rfl, hs0, hs1⟩ := hsd
    have hCm : (C, oC) ∈ (e, oE) :: (it, oJ) :: (C, oC) :: (D, LCg.lst ysn) :: (l5, W.listOf #[Value.int 206 tk, Value.int 133 (tk + 1), Value.int 105 (tk + 1 + 1), Value.int 52 (tk + 1 + 1 + 1), Value.int 266 (tk + 1 + 1 + 1 + 1)] 0) :: (DR, LCg.lst ys) :: (W0, W.listOf ws0.toArray 0) :: (135, tabObj) :: (s₁.heap.objs.size + 1 + 1 + 1 + 1 + 1, o4) :: (s₁.heap.objs.size + 1 + 1 + 1 + 1, o3) :: (s₁.heap.objs.size + 1 + 1 + 1, o2) :: (s₁.heap.objs.size + 1 + 1, o1) :: (s₁.heap.objs.size + 1, oQ) :: [] := .tail _ (.tail _ (.head _))
    refine wpAny_BinOp (LCgL.ld_own NN hCm hC hx2 (Call_ (LCgL.ld_built FF XH TH (by k_is) boot_sum (by decide) (callWith_builtin1 (spliced_more (Subscript_ (kcf_cell NN rfl (by k_mem) dQ (wpAny_Slice (evalPart_some_step (LCgL.ld_own NN hCm hC hx (evalPart_none_step (evalPart_some_step (wpAny_Constant_int ?_))))))))))))) 
    obtain ⟨ms, hms, hmm, hml⟩ := pick_ints hIDk.1 (some ((i : Nat) : Int)) none (some 5)
    refine kmk_slice3_lit (its := ys.toArray) (lo := some ((i : Nat) : Int)) (hi := none) (st := some 5) FF NN ⟨_, (NN (DR, LCg.lst ys) (by k_mem)).1, rfl, _, rfl⟩ (.int _ _) .none (.int _ _) (by decide) rfl ?_ (by with_unfolding_all rfl) (by intro _; with_unfolding_all rfl) (by rw [sizeLine_eq, List.size_toArray, hLD, List.length_map]; omega)
    intro D1 h1 F1 N1 l1
    refine spliced_none (sumK (by rfl) F1 N1 (.head _) hms ?_)
    intro h2 tk2 t2 F2 N2
    refine add_int ?_
    refine EndE.mk0 F2 (cb_drop N2 (fun p hp => .tail _ hp)) off ⟨rfl, zs ++ [sd + ms.sum], hzs.append (.cons _ _ .nil), by rw [List.length_append, hzl]; rfl, ?_⟩
    intro z hz
    rcases List.mem_append.mp hz with hz | hz
    · exact hzb z hz
    · rw [List.mem_singleton.mp hz]
      have hb := sum_bds (B := 1000000) (ms := ms) (fun y hy => by
        obtain ⟨k, hk, rfl⟩ := List.mem_map.mp (hmm y hy)
        exact ⟨Int.fmod_nonneg_of_pos _ (by decide), Int.le_of_lt (Int.fmod_lt_of_pos _ (by decide))⟩)
      rw [List.length_map] at hml
      have hml' : ms.length ≤ 10 := by omega
      have : (ms.length : Int) * 1000000 ≤ 10 * 1000000 := by omega
      omega
  · rintro ysn nw hJ2
    (try ((with_reducible show wpAny _ _ _ _ _ _); k_fold))
    obtain ⟨rfl, zs, hzs, hzl, hzb⟩ := hJ2
    replace hzl : zs.length = 5 := hzl
    unfold LCg.FinA
    intro DN hN tkN FN ND oN
    (try simp only [LCg.Off1, and_true] at oN)
    k_steps
    unfold Here
    rename_i gR hI8 hL8 D8 h8 tk8 F8 N8 o8
    (try ((with_reducible show wpAny _ _ _ _ _ _); k_fold))
    have q82 : NeA D8 (s₁.heap.objs.size + 1 + 1) := Ne.symm o8.2.2.2.2.2.2.2.2.1
    have q83 : NeA D8 (s₁.heap.objs.size + 1 + 1 + 1) := Ne.symm o8.2.2.2.2.2.2.2.1
    have q84 : NeA D8 (s₁.heap.objs.size + 1 + 1 + 1 + 1) := Ne.symm o8.2.2.2.2.2.2.1
    have q85 : NeA D8 (s₁.heap.objs.size + 1 + 1 + 1 + 1 + 1) := Ne.symm o8.2.2.2.2.2.1
    have q8a : NeA D8 135 := Ne.symm o8.2.2.2.2.1
    have qN2 : NeA DN (s₁.heap.objs.size + 1 + 1) := Ne.symm oN.2.2.2.2.2.2.2.1
    have qN3 : NeA DN (s₁.heap.objs.size + 1 + 1 + 1) := Ne.symm oN.2.2.2.2.2.2.1
    have qN4 : NeA DN (s₁.heap.objs.size + 1 + 1 + 1 + 1) := Ne.symm oN.2.2.2.2.2.1
    have qN5 : NeA DN (s₁.heap.objs.size + 1 + 1 + 1 + 1 + 1) := Ne.symm oN.2.2.2.2.1
    have qNa : NeA DN 135 := Ne.symm oN.2.2.2.1
    clear o8 oN oDR
    replace N8 := cb_drop (news := (D8, LCg.lst ys) :: (DN, LCg.lst ysn) :: (135, tabObj) :: (s₁.heap.objs.size + 1 + 1 + 1 + 1 + 1, o4) :: (s₁.heap.objs.size + 1 + 1 + 1 + 1, o3) :: (s₁.heap.objs.size + 1 + 1 + 1, o2) :: (s₁.heap.objs.size + 1 + 1, o1) :: []) N8 (by lcg_sub)
    refine LCg.ListComp_U (F₀ := F8) (by with_unfolding_all rfl) (by decide) (by rfl) (by decide) (by rfl) ?_
    walk1
    (try dsimp only)
    refine LCg.CompSrc.ledger (its := ysn.toArray) (by rfl) F8 N8 (.tail _ (.head _)) (by rw [sizeLine_eq, List.size_toArray, hzs.length, hzl]; decide) ?_
    intro g8
    generalize hB8 : ((D8, LCg.lst ys) :: (DN, LCg.lst ysn) :: (135, tabObj) :: (s₁.heap.objs.size + 1 + 1 + 1 + 1 + 1, o4) :: (s₁.heap.objs.size + 1 + 1 + 1 + 1, o3) :: (s₁.heap.objs.size + 1 + 1 + 1, o2) :: (s₁.heap.objs.size + 1 + 1, o1) :: [] : Led) = B8
    have hDNm : (DN, LCg.lst ysn) ∈ B8 := by rw [← hB8]; exact .tail _ (.head _)
    refine rest_ind (n := ysn.toArray.size) (Inv := fun i ys nw => ∃ ops, nw = ops ++ B8 ∧ OpsIn ops ys (zs.take i) ∧ ∀ p ∈ ops, @LT.lt Nat _ (s₁.heap.objs.size + 1 + 1 + 1 + 1 + 1) p.1) ⟨[], rfl, .nil, by simp⟩ ?_ ?_
    · rintro i ys9 nw v I oI C oC D m2 h tk E' hin hJ3 hP hC hx FF NN off ne
      (try ((with_reducible show wpAny _ _ _ _ _ _); k_fold))
      obtain ⟨ops, rfl, hops, hne⟩ := hJ3
      obtain ⟨z, tz, rfl, hz⟩ := hzs.at i v (by simpa using hP)
      have hz0 := hzb z (List.mem_of_getElem? hz)
      refine Call_ (LCgL.ld_global FF XH TH (by k_is) (callWith_K XH (by k_is) (spliced_more (LCgL.ld_own NN (.tail _ (.head _)) hC hx (spliced_none ⟨XH.keeps FF.keep, ?_⟩)))))
      refine c_operator BH FF XH NN TH rfl hz0.1 (by ktr_room) (by ktr_units) ?_
      intro r t t' h' tk' F' N' hlt
      have h5m : (s₁.heap.objs.size + 1 + 1 + 1 + 1 + 1, o4) ∈ B8 := by rw [← hB8]; exact .tail _ (.tail _ (.tail _ (.head _)))
      have hr : @LT.lt Nat _ (s₁.heap.objs.size + 1 + 1 + 1 + 1 + 1) r := hlt _ (.tail _ (.tail _ (.tail _ (List.mem_append_right _ h5m))))
      refine compEnd1 (T := r) (o := tupSI (opAt z).1 (opAt z).2 t t') F' N' hlt off (.inr ⟨_, .tail _ (List.mem_append_right _ hDNm), rfl, _, rfl⟩) ⟨(r, tupSI (opAt z).1 (opAt z).2 t t') :: ops, rfl, ?_, ?_⟩
      · rw [take_snoc hz]
        exact OpsIn.snoc (.head _) (hops.mono fun p hp => .tail _ hp)
      · intro p hp
        rcases List.mem_cons.mp hp with rfl | hp
        · exact hr
        · exact hne p hp
    · rintro ys9 nw hJ4
      (try ((with_reducible show wpAny _ _ _ _ _ _); k_fold))
      obtain ⟨ops, rfl, hops, hne⟩ := hJ4
      rw [List.take_of_length_le (by rw [List.size_toArray, hzs.length]; exact Nat.le_refl _)] at hops
      unfold LCg.FinE
      intro D9 h9 tk9 F9 N9 o9
      replace N9 := cb_drop (news := (D9, LCg.lst ys9) :: (D8, LCg.lst ys) :: (DN, LCg.lst ysn) :: (135, tabObj) :: (s₁.heap.objs.size + 1 + 1 + 1 + 1 + 1, o4) :: (s₁.heap.objs.size + 1 + 1 + 1 + 1, o3) :: (s₁.heap.objs.size + 1 + 1 + 1, o2) :: (s₁.heap.objs.size + 1 + 1, o1) :: ops) N9 (fun p hp => by
        rw [← hB8]
        simp only [List.mem_cons, List.mem_append, List.not_mem_nil, or_false] at hp ⊢
        rcases hp with h | h | h | h | h | h | h | h | h <;> simp [h])
      have z9 := off1_mem o9
      rw [← hB8] at z9
      have q92 : NeA D9 (s₁.heap.objs.size + 1 + 1) := Ne.symm (z9 (_, o1) (List.mem_append_right _ (by k_mem)))
      have q93 : NeA D9 (s₁.heap.objs.size + 1 + 1 + 1) := Ne.symm (z9 (_, o2) (List.mem_append_right _ (by k_mem)))
      have q94 : NeA D9 (s₁.heap.objs.size + 1 + 1 + 1 + 1) := Ne.symm (z9 (_, o3) (List.mem_append_right _ (by k_mem)))
      have q95 : NeA D9 (s₁.heap.objs.size + 1 + 1 + 1 + 1 + 1) := Ne.symm (z9 (_, o4) (List.mem_append_right _ (by k_mem)))
      have q9a : NeA D9 135 := Ne.symm (z9 (135, tabObj) (List.mem_append_right _ (by k_mem)))
      clear z9
      clear o9 hB8 hDNm B8
      dsimp only
      k_steps
      unfold Here
      rename_i D' hh1 l1 hh2 hh3 oR dR h10 F10 N10
      (try ((with_reducible show wpAny _ _ _ _ _ _); k_fold))
      replace N10 := cb_drop N10 (fun p hp => .tail _ hp)
      refine wpAny_Assign_Name ?_
      refine LCp.ListComp_P F10 (by with_unfolding_all rfl) (by decide) (by rfl) (by decide) (by rfl) (by rfl) (by decide) ?_
      walk1
      (try dsimp only)
      refine LCp.SrcLP.ledger (its := ys9.toArray) (by rfl) F10 N10 (.head _) (by rw [sizeLine_eq, List.size_toArray, hops.length, hzl]; decide) ?_
      intro g10
      refine restP_ind (n := ys9.toArray.size) (Inv := fun i yss nw => nw = _ ∧ StrsAre yss ((zs.take i).map fun z => (opAt z).1)) ⟨rfl, .nil⟩ ?_ ?_
      · rintro i yss nw v hin ⟨rfl, hss⟩ hP
        obtain ⟨r, z, t, t', rfl, hz, hm⟩ := hops.at (by simpa using hP)
        refine ⟨r, _, _, _, _, rfl, .tail _ (.tail _ (.tail _ (.tail _ (.tail _ (.tail _ (.tail _ (.tail _ hm))))))), rfl, rfl, ?_⟩
        intro I oI C oC D m2 h tk E' hC hx hx2 FF NN off ne
        refine LCgL.ld_own NN (.tail _ (.head _)) hC hx ?_
        refine compEnd0 FF NN off (.inr ⟨_, .head _, rfl, _, rfl⟩) ⟨rfl, ?_⟩
        rw [take_snoc hz, List.map_append]
        exact StrsAre.app hss (.cons _ _ .nil)
      · rintro yss nw ⟨rfl, hss⟩
        rw [List.take_of_length_le (by rw [List.size_toArray, hops.length]; exact Nat.le_refl _)] at hss
        unfold LCg.FinE
        intro D11 h11 tk11 F11 N11 o11
        have z11 := off1_mem o11
        have q11_2 : NeA D11 (s₁.heap.objs.size + 1 + 1) := Ne.symm (z11 (_, oR) (by k_mem))
        have q11_3 : NeA D11 (s₁.heap.objs.size + 1 + 1 + 1) := Ne.symm (z11 (_, o2) (by k_mem))
        have q11_4 : NeA D11 (s₁.heap.objs.size + 1 + 1 + 1 + 1) := Ne.symm (z11 (_, o3) (by k_mem))
        have q11_5 : NeA D11 (s₁.heap.objs.size + 1 + 1 + 1 + 1 + 1) := Ne.symm (z11 (_, o4) (by k_mem))
        have q11_a : NeA D11 135 := Ne.symm (z11 (135, tabObj) (by k_mem))
        clear z11
        clear o11
        dsimp only
        k_steps
        unfold Here
        rename_i h12' o12' F12' N12' d12'
        (try ((with_reducible show wpAny _ _ _ _ _ _); k_fold))
        refine c_text (rs := rsOf zs) (sg := sgOf zs) (by rw [List.length_map, hzl]) (by rw [List.length_map, hzl]) (law_sg2 zs) hI8 hss 5 5 0 (Nat.le_refl _) (by decide) BH F12' XH N12' TH rfl (by k_mem) (by k_mem) rfl rfl (by ktr_room) (by ktr_units) ?_
        intro t12 h12 tk12 F12 N12
        k_steps
        unfold Here
        have N13 := cb_drop (news := (135, tabObj) :: (D11, LCg.lst yss) :: (D9, LCg.lst ys9) :: (D8, LCg.lst ys) :: (DN, LCg.lst ysn) :: (s₁.heap.objs.size + 1 + 1 + 1 + 1 + 1, o4) :: (s₁.heap.objs.size + 1 + 1 + 1 + 1, o3) :: (s₁.heap.objs.size + 1 + 1 + 1, o12') :: (s₁.heap.objs.size + 1 + 1, oR) :: ops) N12 (fun p hp => by
          simp only [List.mem_cons] at hp ⊢
          rcases hp with h | h | h | h | h | h | h | h | h | h <;> simp [h])
        refine c_read (lo := 0) (n := 6) BH F12 XH N13 TH rfl (law_txt zs) ?_ (Nat.le_refl _) (law_read hzl) (by ktr_room) (by ktr_units) ?_ ?_
        · intro p hp
          simp only [List.mem_cons] at hp
          rcases hp with h | h | h | h | h | h | h | h | h
          · rw [h]; exact q11_a
          · rw [h]; exact q9a
          · rw [h]; exact q8a
          · rw [h]; exact qNa
          · rw [h]; refine neN ?_; dsimp only; omega
          · rw [h]; refine neN ?_; dsimp only; omega
          · rw [h]; refine neN ?_; dsimp only; omega
          · rw [h]; refine neN ?_; dsimp only; omega
          · have := hne p h
            refine neN ?_
            omega
        · show AllBare s₁.gens
          rw [hg]
          exact fun _ h => by simp at h
        intro D As Aw Ak sts wsv ks a1 a2 a3 t13 rest h13 gs tk13 ps hgs F13 N13' hrest hR hIw hIk
        obtain ⟨rr, hRR, hrr⟩ := hR.pick
        have c4 : (s₁.heap.objs.size + 1 + 1 + 1 + 1, o3) ∈ rest := hrest _ (.tail _ (.tail _ (.tail _ (.tail _ (.tail _ (.head _))))))
        have c5 : (s₁.heap.objs.size + 1 + 1 + 1 + 1 + 1, o4) ∈ rest := hrest _ (.tail _ (.tail _ (.tail _ (.tail _ (.head _)))))
        have c4' := List.mem_cons_of_mem (D, tupObj #[Value.str (letS 0 6) t13, Value.ref As, Value.ref Aw, Value.ref Ak] 0) (List.mem_cons_of_mem (As, W.listOf sts.toArray a1) (List.mem_cons_of_mem (Aw, W.listOf wsv.toArray a2) (List.mem_cons_of_mem (Ak, W.listOf ks.toArray a3) (List.mem_cons_of_mem (135, tabF ps) c4))))
        have c5' := List.mem_cons_of_mem (D, tupObj #[Value.str (letS 0 6) t13, Value.ref As, Value.ref Aw, Value.ref Ak] 0) (List.mem_cons_of_mem (As, W.listOf sts.toArray a1) (List.mem_cons_of_mem (Aw, W.listOf wsv.toArray a2) (List.mem_cons_of_mem (Ak, W.listOf ks.toArray a3) (List.mem_cons_of_mem (135, tabF ps) c5))))
        have qD4 : NeA D (s₁.heap.objs.size + 1 + 1 + 1 + 1) := ne_cell N13' c4' d3 (p := (D, _)) (.head _) (fun v e => by cases e)
        have qD5 : NeA D (s₁.heap.objs.size + 1 + 1 + 1 + 1 + 1) := ne_cell N13' c5' d4 (p := (D, _)) (.head _) (fun v e => by cases e)
        have qs4 : NeA As (s₁.heap.objs.size + 1 + 1 + 1 + 1) := ne_cell N13' c4' d3 (p := (As, _)) (.tail _ (.head _)) (fun v e => by cases e)
        have qs5 : NeA As (s₁.heap.objs.size + 1 + 1 + 1 + 1 + 1) := ne_cell N13' c5' d4 (p := (As, _)) (.tail _ (.head _)) (fun v e => by cases e)
        have qw4 : NeA Aw (s₁.heap.objs.size + 1 + 1 + 1 + 1) := ne_cell N13' c4' d3 (p := (Aw, _)) (.tail _ (.tail _ (.head _))) (fun v e => by cases e)
        have qw5 : NeA Aw (s₁.heap.objs.size + 1 + 1 + 1 + 1 + 1) := ne_cell N13' c5' d4 (p := (Aw, _)) (.tail _ (.tail _ (.head _))) (fun v e => by cases e)
        have qk4 : NeA Ak (s₁.heap.objs.size + 1 + 1 + 1 + 1) := ne_cell N13' c4' d3 (p := (Ak, _)) (.tail _ (.tail _ (.tail _ (.head _)))) (fun v e => by cases e)
        have qk5 : NeA Ak (s₁.heap.objs.size + 1 + 1 + 1 + 1 + 1) := ne_cell N13' c5' d4 (p := (Ak, _)) (.tail _ (.tail _ (.tail _ (.head _)))) (fun v e => by cases e)
        have qT4 : AllNe (rr ++ ops) (s₁.heap.objs.size + 1 + 1 + 1 + 1) := AllNe.app (fun p hp => ne_cell N13' c4' d3 (.tail _ (.tail _ (.tail _ (.tail _ (.tail _ (hrr p hp).1))))) (hrr p hp).2) (fun p hp => by have := hne p hp; refine neN ?_; omega)
        have qT5 : AllNe (rr ++ ops) (s₁.heap.objs.size + 1 + 1 + 1 + 1 + 1) := AllNe.app (fun p hp => ne_cell N13' c5' d4 (.tail _ (.tail _ (.tail _ (.tail _ (.tail _ (hrr p hp).1))))) (hrr p hp).2) (fun p hp => by have := hne p hp; refine neN ?_; omega)
        have hRT : RowsIn (rr ++ ops) sts (bSt (rsOf zs) 5 0 5 (List.replicate 5 [])) := hRR.mono fun p hp => List.mem_append_left _ hp
        have hOT : OpsIn (rr ++ ops) ys9 zs := hops.mono fun p hp => List.mem_append_right _ hp
        rw [letS06] at N13'
        have N14 := cb_drop (news := (D, tupObj #[Value.str (Str.ofString "abcdef") t13, Value.ref As, Value.ref Aw, Value.ref Ak] 0) :: (As, W.listOf sts.toArray a1) :: (Aw, W.listOf wsv.toArray a2) :: (Ak, W.listOf ks.toArray a3) :: (135, tabF ps) :: (D11, LCg.lst yss) :: (D9, LCg.lst ys9) :: (D8, LCg.lst ys) :: (DN, LCg.lst ysn) :: (s₁.heap.objs.size + 1 + 1 + 1 + 1 + 1, o4) :: (s₁.heap.objs.size + 1 + 1 + 1 + 1, o3) :: (s₁.heap.objs.size + 1 + 1 + 1, o12') :: (s₁.heap.objs.size + 1 + 1, oR) :: (rr ++ ops)) N13' (fun p hp => by
          have hup : ∀ q ∈ rest, q ∈ (D, tupObj #[Value.str (Str.ofString "abcdef") t13, Value.ref As, Value.ref Aw, Value.ref Ak] 0) :: (As, W.listOf sts.toArray a1) :: (Aw, W.listOf wsv.toArray a2) :: (Ak, W.listOf ks.toArray a3) :: (135, tabF ps) :: rest := fun q hq => .tail _ (.tail _ (.tail _ (.tail _ (.tail _ hq))))
          simp only [List.mem_cons] at hp
          rcases hp with h | h | h | h | h | h | h | h | h | h | h | h | h | h
          · rw [h]; k_mem
          · rw [h]; k_mem
          · rw [h]; k_mem
          · rw [h]; k_mem
          · rw [h]; k_mem
          · rw [h]; exact hup _ (hrest _ (by k_mem))
          · rw [h]; exact hup _ (hrest _ (by k_mem))
          · rw [h]; exact hup _ (hrest _ (by k_mem))
          · rw [h]; exact hup _ (hrest _ (by k_mem))
          · rw [h]; exact hup _ (hrest _ (by k_mem))
          · rw [h]; exact hup _ (hrest _ (by k_mem))
          · rw [h]; exact hup _ (hrest _ (by k_mem))
          · rw [h]; exact hup _ (hrest _ (by k_mem))
          · rcases List.mem_append.mp h with q | q
            · exact hup _ (hrr _ q).1
            · exact hup _ (hrest _ (.tail _ (.tail _ (.tail _ (.tail _ (.tail _ (.tail _ (.tail _ (.tail _ q))))))))))
        generalize rr ++ ops = T at qT4 qT5 hRT hOT N14
        clear hrr hRR hrest N13' c4 c5 c4' c5' hR hne hops F12 N12 N13
        k_steps
        unfold Here
        rename_i h14 F14 N14
        (try ((with_reducible show wpAny _ _ _ _ _ _); k_fold))
        refine LCp.ListComp_P F14 (by with_unfolding_all rfl) (by decide) (by rfl) (by decide) (by rfl) (by rfl) (by decide) ?_
        walk1
        (try dsimp only)
        refine LCp.SrcLP.ledger (its := ys9.toArray) (by rfl) F14 N14 (.tail _ (.tail _ (.tail _ (.tail _ (.tail _ (.tail _ (.head _))))))) (by rw [sizeLine_eq, List.size_toArray, hOT.length, hzl]; decide) ?_
        intro g15
        refine restP_ind (n := ys9.toArray.size) (Inv := fun i yss nw => nw = _ ∧ IntsAre yss ((zs.take i).map fun z => (opAt z).2)) ⟨rfl, .nil⟩ ?_ ?_
        · rintro i yss nw v hin ⟨rfl, hks⟩ hP
          obtain ⟨r, z, t, t', rfl, hz, hm⟩ := hOT.at (by simpa using hP)
          refine ⟨r, _, _, _, _, rfl, (.tail _ (.tail _ (.tail _ (.tail _ (.tail _ (.tail _ (.tail _ (.tail _ (.tail _ (.tail _ (.tail _ (.tail _ (.tail _ hm))))))))))))), rfl, rfl, ?_⟩
          intro I oI C oC D m2 h tk E' hC hx hx2 FF NN off ne
          refine LCgL.ld_own NN (.tail _ (.head _)) hC hx2 ?_
          refine compEnd0 FF NN off (.inr ⟨_, by k_mem, rfl, _, rfl⟩) ⟨rfl, ?_⟩
          rw [take_snoc hz, List.map_append]
          exact hks.append (.cons _ _ .nil)
        · rintro yks nw ⟨rfl, hks⟩
          rw [List.take_of_length_le (by rw [List.size_toArray, hOT.length]; exact Nat.le_refl _)] at hks
          unfold LCg.FinE
          intro D15 h15 tk15 F15 N15 o15
          have z15 := off1_mem o15
          have q15_4 : NeA D15 (s₁.heap.objs.size + 1 + 1 + 1 + 1) := Ne.symm (z15 (_, o3) (by k_mem))
          have q15_5 : NeA D15 (s₁.heap.objs.size + 1 + 1 + 1 + 1 + 1) := Ne.symm (z15 (_, o4) (by k_mem))
          clear o15 z15
          dsimp only
          refine ke_ne_ints ⟨_, (N15 (Ak, _) (by k_mem)).1, rfl, _, rfl⟩ ⟨_, (N15 (D15, _) (by k_mem)).1, rfl, _, rfl⟩ hIk hks (by ktr_units) ?_
          simp only [decide_true, Bool.not_true]
          k_steps
          unfold Here
          rename_i h15' tk15' h16 o16 F16 N16 d16
          (try ((with_reducible show wpAny _ _ _ _ _ _); k_fold))
          obtain ⟨run, hrun, r1, r3⟩ : ∃ run : Nat, 1 + zs.sum.fmod 3 = (run : Int) ∧ 1 ≤ run ∧ run ≤ 3 := by
            have a := Int.fmod_nonneg_of_pos zs.sum (show (0 : Int) < 3 by decide)
            have b := Int.fmod_lt_of_pos zs.sum (show (0 : Int) < 3 by decide)
            exact ⟨(1 + zs.sum.fmod 3).toNat, by omega, by omega, by omega⟩
          obtain ⟨tR, d16'⟩ : ∃ tR, o16.data = .cell (some (.int (run : Int) tR)) := ⟨_, by rw [d16, hrun]⟩
          clear d16
          replace N16 := cb_drop (news := (As, W.listOf sts.toArray a1) :: (Aw, W.listOf wsv.toArray a2) :: (135, tabF ps) :: (D11, LCg.lst yss) :: (D8, LCg.lst ys) :: (DN, LCg.lst ysn) :: (s₁.heap.objs.size + 1 + 1 + 1 + 1 + 1, o4) :: (s₁.heap.objs.size + 1 + 1 + 1 + 1, o16) :: (s₁.heap.objs.size + 1 + 1 + 1, o12') :: (s₁.heap.objs.size + 1 + 1, oR) :: T) N16 (fun p hp => by
            simp only [List.mem_cons] at hp
            rcases hp with h | h | h | h | h | h | h | h | h | h | h
            · rw [h]; k_mem
            · rw [h]; k_mem
            · rw [h]; k_mem
            · rw [h]; k_mem
            · rw [h]; k_mem
            · rw [h]; k_mem
            · rw [h]; k_mem
            · rw [h]; k_mem
            · rw [h]; k_mem
            · rw [h]; k_mem
            · exact (.tail _ (.tail _ (.tail _ (.tail _ (.tail _ (.tail _ (.tail _ (.tail _ (.tail _ (.tail _ (.tail _ (.tail _ (.tail _ (.tail _ h)))))))))))))))
          refine Assign_ListComp_E (F₀ := F16) (by rfl) (by with_unfolding_all rfl) (by with_unfolding_all rfl) (by decide) (by rfl) (by decide) (by rfl) (by rfl) (by decide) (by rfl) (by rfl) ?_
          k_steps
          unfold Here
          refine SrcE.intro (by rfl) F16 N16 (by k_mem) (by rw [sizeLine_eq, List.size_toArray, hzs.length, hzl]; decide) ?_
          intro g17
          refine ⟨(fun i yrs nw => nw = _ ∧ StrsAre yrs ((List.range i).map (rowZ zs run))), ysn.length, ⟨rfl, .nil⟩, ?_, ?_, ?_⟩
          · rintro i yrs nw ⟨rfl, _⟩
            k_mem
          · rintro i yrs nw v t e it oE oJ C oC D' m2 h tk E' hv ⟨rfl, hrs⟩ hC hx hx2 FF NN off
            obtain ⟨z, tz, rfl, hz⟩ := hzs.at i v (by simpa using hv)
            have hi5 : i < 5 := by
              have := (List.getElem?_eq_some_iff.mp hz).1
              omega
            have hz0 := hzb z (List.mem_of_getElem? hz)
            obtain ⟨ts, hts⟩ := strs_at hss (i := i) (x := (opAt z).1) (by rw [List.getElem?_map, hz]; rfl)
            have hCm : (C, oC) ∈ (e, oE) :: (it, oJ) :: (C, oC) :: (D', LCg.lst yrs) :: (As, W.listOf sts.toArray a1) :: (Aw, W.listOf wsv.toArray a2) :: (135, tabF ps) :: (D11, LCg.lst yss) :: (D8, LCg.lst ys) :: (DN, LCg.lst ysn) :: (s₁.heap.objs.size + 1 + 1 + 1 + 1 + 1, o4) :: (s₁.heap.objs.size + 1 + 1 + 1 + 1, o16) :: (s₁.heap.objs.size + 1 + 1 + 1, o12') :: (s₁.heap.objs.size + 1 + 1, oR) :: T := .tail _ (.tail _ (.head _))
            refine wpAny_BinOp (Call_ (LCgL.ld_global FF XH TH (by k_is) (callWith_K XH (by k_is) ?_)))
            refine spliced_more (kcf_cell NN rfl (by k_mem) dR ?_)
            refine spliced_more (LCgL.ld_own NN hCm hC hx ?_)
            refine spliced_more (wpAny_BinOp (wpAny_BinOp (LCgL.ld_own NN hCm hC hx2 ?_)))
            refine wpAny_Constant_int ?_
            refine floordiv_int (by decide) ?_
            refine wpAny_Constant_int ?_
            refine mod_int (by decide) ?_
            (try dsimp only)
            refine spliced_more (kcf_cell NN rfl (by k_mem) d16' ?_)
            refine spliced_none ⟨XH.keeps FF.keep, ?_⟩
            refine c_lead (rs := rsOf zs) (place := (i : Int)) (turn := (z.fdiv 65).fmod 20) (run := (run : Int)) BH FF XH NN TH rfl (by k_mem) hI8 (by omega) (by omega) (Int.fmod_nonneg_of_pos _ (by decide)) (Int.fmod_lt_of_pos _ (by decide)) (by omega) (by omega) (by rw [List.length_map, hzl]) (by ktr_room) (by ktr_units) ?_
            intro tl hl tkl Fl Nl
            refine Subscript_ (kcf_cell Nl rfl (by k_mem) d12' (LCgL.ld_own Nl hCm hC hx ?_))
            refine item_list (items := yss.toArray) (x := .str (opAt z).1 ts) ⟨_, (Nl (D11, _) (by k_mem)).1, rfl, _, rfl⟩ (by omega) (by omega) (by simpa using hts) ?_
            have hlen := rowZ_len zs hi5 r1 r3
            have hzd : zs.getD i 0 = z := by rw [List.getD_eq_getElem?_getD, hz]; rfl
            unfold rowZ at hlen
            rw [hzd, len_app] at hlen
            refine add_str (fun t' tk' => ?_) (by rw [sizeLine_eq]; omega)
            refine EndE.mk0 Fl Nl off ⟨rfl, ?_⟩
            rw [List.range_succ, List.map_append]
            refine StrsAre.app hrs ?_
            have e9 : rowZ zs run i = leadS (rsOf zs) (i : Int) ((z.fdiv 65).fmod 20) (run : Int) ++ (opAt z).1 := by
              unfold rowZ
              rw [hzd]
            show StrsAre _ [rowZ zs run i]
            rw [e9]
            exact .cons _ _ .nil
          · rintro yrs nw ⟨rfl, hrs⟩
            rw [List.size_toArray, hzs.length, hzl] at hrs
            unfold LCg.FinA
            intro DW hW tkW FW NW oW
            have zW := off1_mem oW
            have qW5 : NeA DW (s₁.heap.objs.size + 1 + 1 + 1 + 1 + 1) := Ne.symm (zW (_, o4) (by k_mem))
            clear oW zW
            dsimp only
            k_steps
            unfold Here
            replace NW := cb_drop (news := (DW, LCg.lst yrs) :: (As, W.listOf sts.toArray a1) :: (Aw, W.listOf wsv.toArray a2) :: (135, tabF ps) :: (s₁.heap.objs.size + 1 + 1 + 1 + 1 + 1, o4) :: T) NW (fun p hp => by
              simp only [List.mem_cons] at hp
              rcases hp with h | h | h | h | h | h
              · rw [h]; k_mem
              · rw [h]; k_mem
              · rw [h]; k_mem
              · rw [h]; k_mem
              · rw [h]; k_mem
              · exact (.tail _ (.tail _ (.tail _ (.tail _ (.tail _ (.tail _ (.tail _ (.tail _ (.tail _ (.tail _ (.tail _ h))))))))))))
            refine wpAny_Assign_Name ?_
            refine LCg.ListComp_U (F₀ := FW) (by with_unfolding_all rfl) (by decide) (by rfl) (by decide) (by rfl) ?_
            walk1
            (try dsimp only)
            refine LCg.CompSrc.ledger (its := yrs.toArray) (by rfl) FW NW (.head _) (by rw [sizeLine_eq, List.size_toArray, StrsAre.len hrs, List.length_map, List.length_range]; decide) ?_
            intro g18
            generalize hBW : ((DW, LCg.lst yrs) :: (As, W.listOf sts.toArray a1) :: (Aw, W.listOf wsv.toArray a2) :: (135, tabF ps) :: (s₁.heap.objs.size + 1 + 1 + 1 + 1 + 1, o4) :: T : Led) = BW
            have hWm : (DW, LCg.lst yrs) ∈ BW := by rw [← hBW]; exact .head _
            have h5m : (s₁.heap.objs.size + 1 + 1 + 1 + 1 + 1, o4) ∈ BW := by rw [← hBW]; exact (.tail _ (.tail _ (.tail _ (.tail _ (.head _)))))
            refine rest_ind (n := yrs.toArray.size) (Inv := fun i yls nw => ∃ wl, nw = wl ++ BW ∧ WsIn w.params wl zs run yls i ∧ AllNe wl (s₁.heap.objs.size + 1 + 1 + 1 + 1 + 1)) ⟨[], rfl, .nil, .nil⟩ ?_ ?_
            · rintro i yls nw v I oI C oC D' m2 h tk E' hin ⟨wl, rfl, hws, hn5⟩ hP hC hx FF NN off ne
              obtain ⟨x, tx, rfl, hxx⟩ := strs_of hrs (i := i) (v := v) (by simpa using hP)
              have hi5 : i < 5 := by
                have := (List.getElem?_eq_some_iff.mp hxx).1
                rw [List.length_map, List.length_range] at this
                exact this
              have hxe : rowZ zs run i = x := by
                rw [List.getElem?_map, List.getElem?_range hi5] at hxx
                exact Option.some.inj hxx
              subst hxe
              refine Call_ (LCgL.ld_global FF XH TH (by k_is) (callWith_K XH (by k_is) (spliced_more (LCgL.ld_own NN (.tail _ (.head _)) hC hx (spliced_none ⟨XH.keeps FF.keep, ?_⟩)))))
              refine c_ws BH FF XH NN TH rfl (rowZ_len zs hi5 r1 r3) (by ktr_room) (by ktr_units) ?_
              intro x0 dx Dp Dt vsl n nt b ct k1 k2 k3 k4 k5 tn tnt tb h' tk' hgo hn1 hn2 hn3 hct F' N' hlt lx lDt lDp
              rw [rowZ_ws zs hi5 r1 r3] at hgo
              cases hgo
              have g5 : @LT.lt Nat _ (s₁.heap.objs.size + 1 + 1 + 1 + 1 + 1) dx := hlt _ (.tail _ (.tail _ (.tail _ (List.mem_append_right _ h5m))))
              refine compEnd4 F' N' hlt lx lDt lDp off (.inr ⟨_, (.tail _ (.tail _ (.tail _ (.tail _ (List.mem_append_right _ hWm))))), rfl, _, rfl⟩) ⟨_ :: _ :: _ :: _ :: wl, rfl, ?_, ?_⟩
              · exact (hws.mono fun p hp => (.tail _ (.tail _ (.tail _ (.tail _ hp))))).snoc ⟨dx, Dp, Dt, vsl, tx, k1, k2, k3, k4, k5, tn, tnt, tb, .head _, .tail _ (.head _), .tail _ (.tail _ (.head _)), .tail _ (.tail _ (.tail _ (.head _))), hct, hn1, hn2, hn3⟩
              · refine .cons (neN ?_) (.cons (neN ?_) (.cons (neN ?_) (.cons (neN ?_) hn5))) <;> (try dsimp only) <;> omega
            · rintro yls nw ⟨wl, rfl, hws, hn5⟩
              rw [List.size_toArray, StrsAre.len hrs, List.length_map, List.length_range] at hws
              unfold LCg.FinE
              intro DL hL tkL FL NL oL
              have zL := off1_mem oL
              have qL5 : NeA DL (s₁.heap.objs.size + 1 + 1 + 1 + 1 + 1) := Ne.symm (zL (_, o4) (List.mem_append_right _ h5m))
              clear oL zL
              replace NL := cb_drop (news := (DL, LCg.lst yls) :: (As, W.listOf sts.toArray a1) :: (Aw, W.listOf wsv.toArray a2) :: (135, tabF ps) :: (s₁.heap.objs.size + 1 + 1 + 1 + 1 + 1, o4) :: (wl ++ T)) NL (fun p hp => by
                rw [← hBW]
                simp only [List.mem_cons] at hp
                rcases hp with h | h | h | h | h | h
                · rw [h]; exact .head _
                · rw [h]; exact .tail _ (List.mem_append_right _ (by k_mem))
                · rw [h]; exact .tail _ (List.mem_append_right _ (by k_mem))
                · rw [h]; exact .tail _ (List.mem_append_right _ (by k_mem))
                · rw [h]; exact .tail _ (List.mem_append_right _ (by k_mem))
                · rcases List.mem_append.mp h with q | q
                  · exact .tail _ (List.mem_append_left _ q)
                  · exact .tail _ (List.mem_append_right _ (.tail _ (.tail _ (.tail _ (.tail _ (.tail _ q)))))))
              have hWU : WsIn w.params (wl ++ T) zs run yls 5 := hws.mono fun p hp => List.mem_append_left _ hp
              have hRU : RowsIn (wl ++ T) sts (bSt (rsOf zs) 5 0 5 (List.replicate 5 [])) := hRT.mono fun p hp => List.mem_append_right _ hp
              have qU5 : AllNe (wl ++ T) (s₁.heap.objs.size + 1 + 1 + 1 + 1 + 1) := hn5.app qT5
              clear hWm h5m hBW hws hn5
              generalize wl ++ T = U at NL hWU hRU qU5
              dsimp only
              k_steps
              unfold Here
              rename_i hL' hU oU FU NU dU
              (try ((with_reducible show wpAny _ _ _ _ _ _); k_fold))
              refine Assign_ListComp_C FU rfl (by with_unfolding_all rfl) (by with_unfolding_all rfl) (by intro _; rfl) (by intro _; rfl) (by rfl) (by decide) (by rfl) (by rfl) (by rfl) ?_
              k_steps
              rename_i h19 tk19 t7 t8 t9 R19 F19 N19 K19
              (try ((with_reducible show wpAny _ _ _ _ _ _); k_fold))
              refine SrcC.intro (n := 5) (by rfl) F19 N19 R19 (by decide) (by rfl) (Nat.le_of_ble_eq_true rfl) ?_
              intro g20
              generalize hBU : ((DL, LCg.lst yls) :: (As, W.listOf sts.toArray a1) :: (Aw, W.listOf wsv.toArray a2) :: (135, tabF ps) :: (s₁.heap.objs.size + 1 + 1 + 1 + 1 + 1, oU) :: U : Led) = BU
              refine ⟨fun i yus nw => ∃ rl, nw = rl ++ BU ∧ RowsIn rl yus ((five.take i).map fun one => five.filter (undP (rsOf zs) run one)), ⟨[], rfl, .nil⟩, ?_, ?_⟩
              · rintro i yus nw v hi5 ⟨rl, rfl, hrl⟩ ⟨t20, rfl⟩ I oI C oC K oK D' h tk E' hoK FF NN off
                have z0 : (0 : Int) + (i : Int) = (i : Int) := Int.zero_add _
                rw [z0] at hoK
                refine LCt.ListComp_T (F₀ := FF) (by with_unfolding_all rfl) (by decide) (by rfl) (by decide) (by rfl) ?_
                k_steps
                rename_i h21 tk21 t21 u21 v21 R21 F21 N21 K21
                (try ((with_reducible show wpAny _ _ _ _ _ _); k_fold))
                refine LCt.CompSrcT.range (n := 5) (by rfl) F21 N21 R21 (by decide) (by rfl) (Nat.le_of_ble_eq_true rfl) ?_
                intro g22
                refine restT_ind (Inv := fun j ys nw => nw = (K, oK) :: (I, oI) :: (C, oC) :: (D', LCg.lst yus) :: (rl ++ BU) ∧ IntsAre ys ((five.take j).filter (undP (rsOf zs) run (i : Int)))) ⟨rfl, .nil⟩ ?_ ?_
                · rintro j ys nw v I2 oI2 C2 oC2 D2 m2 h2 tk2 E2 hj5 ⟨rfl, hys⟩ hP hC hx FF2 NN2 off2 ne2
                  obtain ⟨t22, rfl⟩ := hP
                  have hCm : (C2, oC2) ∈ (I2, oI2) :: (C2, oC2) :: (D2, LCg.lst ys) :: (K, oK) :: (I, oI) :: (C, oC) :: (D', LCg.lst yus) :: (rl ++ BU) := .tail _ (.head _)
                  have hKm : (K, oK) ∈ (I2, oI2) :: (C2, oC2) :: (D2, LCg.lst ys) :: (K, oK) :: (I, oI) :: (C, oC) :: (D', LCg.lst yus) :: (rl ++ BU) := (.tail _ (.tail _ (.tail _ (.head _))))
                  have z1 : (0 : Int) + (j : Int) = (j : Int) := Int.zero_add _
                  rw [z1] at hx
                  have step : ∀ b, undP (rsOf zs) run (i : Int) (j : Int) = b → (five.take (j + 1)).filter (undP (rsOf zs) run (i : Int)) = (five.take j).filter (undP (rsOf zs) run (i : Int)) ++ (if b then [(j : Int)] else []) := fun b e => e ▸ five_take hj5 _
                  refine isTrue_or (wpAny_isTrue_Compare1 (LCgL.ld_own NN2 hCm hC hx ?_))
                  refine kcf_cell NN2 rfl hKm hoK ?_
                  refine eq_int (wpAny_truthy_bool ?_)
                  dsimp only
                  by_cases hc : (j : Int) = (i : Int)
                  · rw [beq_iff_eq.mpr hc]
                    simp only [if_true]
                    refine LCgL.ld_own NN2 hCm hC hx ?_
                    refine compEnd0 FF2 NN2 off2 trivial ⟨rfl, ?_⟩
                    rw [step true (by unfold undP; rw [decide_eq_true hc, Bool.true_or])]
                    exact hys.append (.cons _ _ .nil)
                  · rw [beq_eq_false_iff_ne.mpr hc]
                    simp only [Bool.false_eq_true, if_false]
                    refine isTrue_or (isTrue_plain ?_)
                    have hup : ∀ p ∈ BU, p ∈ (I2, oI2) :: (C2, oC2) :: (D2, LCg.lst ys) :: (K, oK) :: (I, oI) :: (C, oC) :: (D', LCg.lst yus) :: (rl ++ BU) := fun p hp => (.tail _ (.tail _ (.tail _ (.tail _ (.tail _ (.tail _ (.tail _ (List.mem_append_right _ hp))))))))
                    have hUm : (s₁.heap.objs.size + 1 + 1 + 1 + 1 + 1, oU) ∈ (I2, oI2) :: (C2, oC2) :: (D2, LCg.lst ys) :: (K, oK) :: (I, oI) :: (C, oC) :: (D', LCg.lst yus) :: (rl ++ BU) := hup _ (by rw [← hBU]; k_mem)
                    have hLm : (DL, LCg.lst yls) ∈ (I2, oI2) :: (C2, oC2) :: (D2, LCg.lst ys) :: (K, oK) :: (I, oI) :: (C, oC) :: (D', LCg.lst yus) :: (rl ++ BU) := hup _ (by rw [← hBU]; exact .head _)
                    have hWW : WsIn w.params ((I2, oI2) :: (C2, oC2) :: (D2, LCg.lst ys) :: (K, oK) :: (I, oI) :: (C, oC) :: (D', LCg.lst yus) :: (rl ++ BU)) zs run yls 5 := hWU.mono fun p hp => hup _ (by rw [← hBU]; exact (.tail _ (.tail _ (.tail _ (.tail _ (.tail _ hp))))))
                    obtain ⟨x1, ex1, W1⟩ := hWW.2 i hi5
                    obtain ⟨x2, ex2, W2⟩ := hWW.2 j hj5
                    have hLL : h2.IsList DL yls.toArray := ⟨_, (NN2 _ hLm).1, rfl, _, rfl⟩
                    refine MethodCall_ (Subscript_ (kcf_cell NN2 rfl hUm dU (kcf_cell NN2 rfl hKm hoK ?_)))
                    refine item_list (items := yls.toArray) (x := .ref x1) hLL (by omega) (by omega) (by simpa using ex1) ?_
                    refine ws_method FF2 XH NN2 W1 ?_
                    refine callWith_K XH (by k_is) (spliced_more (Subscript_ (kcf_cell NN2 rfl hUm dU (LCgL.ld_own NN2 hCm hC hx ?_))))
                    refine item_list (items := yls.toArray) (x := .ref x2) hLL (by omega) (by omega) (by simpa using ex2) ?_
                    refine spliced_none ⟨XH.keeps FF2.keep, ?_⟩
                    refine c_less BH FF2 XH NN2 TH rfl W1 W2 (by ktr_room) (by ktr_units) ?_
                    intro h23 tk23 F23 N23
                    refine wpAny_truthy_bool ?_
                    cases hb : lessB (wN (rsOf zs) run (i : Int)) (wT (rsOf zs) run (i : Int)) 0 (wC (rsOf zs) run (i : Int)) (wN (rsOf zs) run (j : Int)) (wT (rsOf zs) run (j : Int)) 0 (wC (rsOf zs) run (j : Int)) with
                    | true =>
                      simp only [if_true]
                      refine LCgL.ld_own N23 hCm hC hx ?_
                      refine compEnd0 F23 N23 off2 trivial ⟨rfl, ?_⟩
                      rw [step true (by unfold undP; rw [hb, Bool.or_true])]
                      exact hys.append (.cons _ _ .nil)
                    | false =>
                      simp only [Bool.false_eq_true, if_false]
                      refine isTrue_or_nil ?_
                      simp only [Bool.false_eq_true, if_false]
                      refine compEnd0 F23 N23 off2 trivial ⟨rfl, ?_⟩
                      rw [step false (by unfold undP; rw [hb, Bool.or_false]; exact decide_eq_false hc)]
                      simpa using hys
                · rintro ys nw ⟨rfl, hys⟩
                  unfold LCg.FinE
                  intro D3 h3 tk3 F3 N3 o3
                  have z3 := off1_mem o3
                  have e9 : five.take 5 = five := rfl
                  rw [e9] at hys
                  refine ⟨h3, tk3, (D3, LCg.lst ys) :: (rl ++ BU), rfl, F3, ?_, ?_, (D3, LCg.lst ys) :: rl, rfl, ?_⟩
                  · refine cb_drop N3 (fun p hp => ?_)
                    rcases List.mem_cons.mp hp with rfl | hp
                    · exact (.tail _ (.head _))
                    rcases List.mem_cons.mp hp with rfl | hp
                    · exact (.tail _ (.tail _ (.head _)))
                    rcases List.mem_cons.mp hp with rfl | hp
                    · exact (.tail _ (.tail _ (.tail _ (.head _))))
                    rcases List.mem_cons.mp hp with rfl | hp
                    · exact (.tail _ (.tail _ (.tail _ (.tail _ (.head _)))))
                    rcases List.mem_cons.mp hp with rfl | hp
                    · exact .head _
                    · exact (.tail _ (.tail _ (.tail _ (.tail _ (.tail _ hp)))))
                  · intro p hp
                    rcases List.mem_cons.mp hp with rfl | hp
                    · exact ⟨Ne.symm (z3 (I, oI) (by k_mem)), Ne.symm (z3 (C, oC) (by k_mem)), Ne.symm (z3 (K, oK) (by k_mem)), Ne.symm (z3 (D', _) (by k_mem))⟩
                    · exact off p hp
                  · have e8 : five.take (i + 1) = five.take i ++ [(i : Int)] := by
                      have : i = 0 ∨ i = 1 ∨ i = 2 ∨ i = 3 ∨ i = 4 := by omega
                      rcases this with rfl | rfl | rfl | rfl | rfl <;> rfl
                    rw [e8, List.map_append]
                    exact (hrl.mono fun p hp => .tail _ hp).snoc (.head _) hys
              · rintro yus nw ⟨rl, rfl, hrl⟩
                have e9 : five.take 5 = five := rfl
                rw [e9, under_law (rsOf zs) r1 r3] at hrl
                unfold LCg.FinA
                intro DU h30 tk30 F30 N30 o30
                have hRR' : RowsIn (rl ++ BU) yus (bSt (rsOf zs) 5 0 5 (List.replicate 5 [])) := hrl.mono fun p hp => List.mem_append_left _ hp
                have hRS : RowsIn (rl ++ BU) sts (bSt (rsOf zs) 5 0 5 (List.replicate 5 [])) := hRU.mono fun p hp => List.mem_append_right _ (by rw [← hBU]; exact (.tail _ (.tail _ (.tail _ (.tail _ (.tail _ hp))))))
                replace N30 := cb_drop (news := (DU, LCg.lst yus) :: (As, W.listOf sts.toArray a1) :: (Aw, W.listOf wsv.toArray a2) :: (135, tabF ps) :: (rl ++ BU)) N30 (fun p hp => by
                  simp only [List.mem_cons] at hp
                  rcases hp with h | h | h | h | h
                  · rw [h]; exact .head _
                  · rw [h]; exact .tail _ (List.mem_append_right _ (by rw [← hBU]; k_mem))
                  · rw [h]; exact .tail _ (List.mem_append_right _ (by rw [← hBU]; k_mem))
                  · rw [h]; exact .tail _ (List.mem_append_right _ (by rw [← hBU]; k_mem))
                  · exact .tail _ h)
                clear o30 hBU
                generalize rl ++ BU = V at N30 hRR' hRS
                dsimp only
                k_steps
                unfold Here
                refine eq_rows N30 (.head _) (.tail _ (.head _)) (hRR'.mono fun p hp => .tail _ (.tail _ (.tail _ (.tail _ hp)))) (hRS.mono fun p hp => .tail _ (.tail _ (.tail _ (.tail _ hp)))) (by ktr_units) ?_
                k_steps
                unfold Here
                refine c_least BH F30 XH N30 TH rfl (.tail _ (.head _)) (hRS.mono fun p hp => .tail _ (.tail _ (.tail _ (.tail _ hp)))) (.tail _ (.tail _ (.head _))) hIw (by rw [bWo_len]; rfl) (bSt_len _) (by ktr_room) (by ktr_units) ?_
                intro h31 tk31 F31 N31
                rw [(good_all (rsOf zs)).2.1]
                k_steps
                refine ⟨.inl ⟨.bool true, .bool true, [], rfl, fun _ => by with_unfolding_all rfl, .bool true, by with_unfolding_all rfl, fun _ => ⟨List.nodup_nil, fun a ha => nomatch ha⟩⟩, ?_, rfl, hgs⟩
                exact hend h31 F31.keep ⟨ps, (N31 (135, tabF ps) (by k_mem)).1⟩
end
end
end
end Mine
theorem PySem.Challenge.cw_ti0051_01_holds : PySem.Challenge.rw_ti0051_01.Holds :=
  Mine.law_walk
