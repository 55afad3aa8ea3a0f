import PyProof.Rows.All
import Wide.All
import OpenK.AllK
import Wide.FinOn
import PySem.Challenge.RW_sn0118_02
open PySem PySem.W PyProof.Rows PySem.Spec PySem.Calls
set_option Elab.async false
set_option maxRecDepth 100000
set_option genInjectivity false
namespace Mine
theorem A.tw10021039416362780631 : True := trivial
theorem A.tw10072462647798173283 : True := trivial
theorem A.tw10202860995296317453 : True := trivial
theorem A.tw10360141465679914172 : True := trivial
theorem A.tw10397425127279270359 : True := trivial
theorem A.tw1043431010513513991 : True := trivial
theorem A.tw10525145064990756788 : True := trivial
theorem A.tw10623492163851505980 : True := trivial
theorem A.tw10862360618332259451 : True := trivial
theorem A.tw11120391450859820794 : True := trivial
theorem A.tw11153857568920386817 : True := trivial
theorem A.tw11240591771992168052 : True := trivial
theorem A.tw11270721526486296795 : True := trivial
theorem A.tw11782766393690192119 : True := trivial
theorem A.tw11800946720399145114 : True := trivial
theorem A.tw11832268708022596914 : True := trivial
theorem A.tw11842705885066160862 : True := trivial
theorem A.tw1213924098765367403 : True := trivial
theorem A.tw12200482899170234306 : True := trivial
theorem A.tw12211653732536415464 : True := trivial
theorem A.tw12235902816281339647 : True := trivial
theorem A.tw12249154782579388875 : True := trivial
theorem A.tw12306416302495383327 : True := trivial
theorem A.tw12351562055525246170 : True := trivial
theorem A.tw12497510047100357672 : True := trivial
theorem A.tw12590405579434009150 : True := trivial
theorem A.tw12821605638087770355 : True := trivial
theorem A.tw12943351600140882041 : True := trivial
theorem A.tw13063777383608524679 : True := trivial
theorem A.tw1311372485265928699 : True := trivial
theorem A.tw13409919585580966994 : True := trivial
theorem A.tw13565346996315856338 : True := trivial
theorem A.tw13652015567696784153 : True := trivial
theorem A.tw13698548418501355653 : True := trivial
theorem A.tw13743908311821624229 : True := trivial
theorem A.tw13798812775331232473 : True := trivial
theorem A.tw13800049220798664325 : True := trivial
theorem A.tw13901490562181791689 : True := trivial
theorem A.tw13941243273370604029 : True := trivial
theorem A.tw13944786943020688460 : True := trivial
theorem A.tw13986006028418849661 : True := trivial
theorem A.tw14081273363843944449 : True := trivial
theorem A.tw14132285559219044098 : True := trivial
theorem A.tw14363182629644514033 : True := trivial
theorem A.tw14410150575481013492 : True := trivial
theorem A.tw14611287644896202037 : True := trivial
theorem A.tw14640073786475855054 : True := trivial
theorem A.tw15045594764332057067 : True := trivial
theorem A.tw15106685213089442317 : True := trivial
theorem A.tw15142699100243915316 : True := trivial
theorem A.tw15151754272333723087 : True := trivial
theorem A.tw15232271303890837422 : True := trivial
theorem A.tw15334364220653277015 : True := trivial
theorem A.tw15351375944387730350 : True := trivial
theorem A.tw15666455104928787398 : True := trivial
theorem A.tw15743388230649039080 : True := trivial
theorem A.tw15767455170045860819 : True := trivial
theorem A.tw15803059323492890596 : True := trivial
theorem A.tw15820644819769687525 : True := trivial
theorem A.tw15893384908987445517 : True := trivial
theorem A.tw16009809160280094434 : True := trivial
theorem A.tw16185400222075743487 : True := trivial
theorem A.tw16457305751429185707 : True := trivial
theorem A.tw16805892491256692878 : True := trivial
theorem A.tw16845677339596616797 : True := trivial
theorem A.tw1699350913986234808 : True := trivial
theorem A.tw17081493621715386561 : True := trivial
theorem A.tw17159585409254261676 : True := trivial
theorem A.tw17185615526893398427 : True := trivial
theorem A.tw17231388000189077470 : True := trivial
theorem A.tw17265793024436209032 : True := trivial
theorem A.tw17321946786577117554 : True := trivial
theorem A.tw17424345863993925839 : True := trivial
theorem A.tw17451347312990008164 : True := trivial
theorem A.tw17557972708600191574 : True := trivial
theorem A.tw17576639955601670059 : True := trivial
theorem A.tw18005550745875178585 : True := trivial
theorem A.tw18072665961378106095 : True := trivial
theorem A.tw18102334534514338727 : True := trivial
theorem A.tw18129448782544711847 : True := trivial
theorem A.tw18130948467109956673 : True := trivial
theorem A.tw18171756525254187846 : True := trivial
theorem A.tw18310837486667892382 : True := trivial
theorem A.tw18324720427601929890 : True := trivial
theorem A.tw1944240381458573800 : True := trivial
theorem A.tw2016455015085742388 : True := trivial
theorem A.tw2041301089039493187 : True := trivial
theorem A.tw2145587185378226586 : True := trivial
theorem A.tw2317631421645595598 : True := trivial
theorem A.tw261529181547533586 : True := trivial
theorem A.tw2619348551767789423 : True := trivial
theorem A.tw2655827412422658475 : True := trivial
theorem A.tw270732706397237368 : True := trivial
theorem A.tw2748813518545639301 : True := trivial
theorem A.tw282784265092047587 : True := trivial
theorem A.tw3097375979316279032 : True := trivial
theorem A.tw322255719434633198 : True := trivial
theorem A.tw3225541090127029038 : True := trivial
theorem A.tw3463253621172399337 : True := trivial
theorem A.tw3520101585507065111 : True := trivial
theorem A.tw3541578613078224825 : True := trivial
theorem A.tw3561405718836670831 : True := trivial
theorem A.tw3604287619575320300 : True := trivial
theorem A.tw3668347612366880290 : True := trivial
theorem A.tw3672720639955430909 : True := trivial
theorem A.tw3779954730972827617 : True := trivial
theorem A.tw3887939408106649945 : True := trivial
theorem A.tw3901768462942692084 : True := trivial
theorem A.tw4009059471814248442 : True := trivial
theorem A.tw4080784446263917253 : True := trivial
theorem A.tw4086698677121603571 : True := trivial
theorem A.tw413507915095358216 : True := trivial
theorem A.tw4287973789179061465 : True := trivial
theorem A.tw4560748696422708786 : True := trivial
theorem A.tw4626872240741865223 : True := trivial
theorem A.tw4694398569635553440 : True := trivial
theorem A.tw4698480349694128732 : True := trivial
theorem A.tw4769447964676285013 : True := trivial
theorem A.tw4845881443935673761 : True := trivial
theorem A.tw4851068541086966649 : True := trivial
theorem A.tw4933987541611185837 : True := trivial
theorem A.tw5063577495763476793 : True := trivial
theorem A.tw5084927619942805773 : True := trivial
theorem A.tw5214175935822668056 : True := trivial
theorem A.tw5280557442100251414 : True := trivial
theorem A.tw5592991894225488045 : True := trivial
theorem A.tw5614519740762299647 : True := trivial
theorem A.tw5646922470258286333 : True := trivial
theorem A.tw5648838977469288192 : True := trivial
theorem A.tw5717791897401875922 : True := trivial
theorem A.tw5819109021766014414 : True := trivial
theorem A.tw5909507863118191236 : True := trivial
theorem A.tw6054148583450679396 : True := trivial
theorem A.tw6099614033022913507 : True := trivial
theorem A.tw6116935520198603998 : True := trivial
theorem A.tw6197831156564302322 : True := trivial
theorem A.tw6371013250654783320 : True := trivial
theorem A.tw6375992693066043946 : True := trivial
theorem A.tw6401579719291748816 : True := trivial
theorem A.tw6499468740511960751 : True := trivial
theorem A.tw6652720894099268470 : True := trivial
theorem A.tw6669051648457815636 : True := trivial
theorem A.tw6683270313163635850 : True := trivial
theorem A.tw6699378863078117242 : True := trivial
theorem A.tw672884048919502786 : True := trivial
theorem A.tw6736632225956253418 : True := trivial
theorem A.tw6761852518884551561 : True := trivial
theorem A.tw6762559507777683261 : True := trivial
theorem A.tw6849152466612643847 : True := trivial
theorem A.tw6857708262347860588 : True := trivial
theorem A.tw6859982121285937244 : True := trivial
theorem A.tw6936277368729349408 : True := trivial
theorem A.tw6988297453264352631 : True := trivial
theorem A.tw7218625047367774376 : True := trivial
theorem A.tw7317773473285054138 : True := trivial
theorem A.tw7439115974936942684 : True := trivial
theorem A.tw7466347491083085377 : True := trivial
theorem A.tw7488790210862928811 : True := trivial
theorem A.tw752985789729465110 : True := trivial
theorem A.tw7656298970873689217 : True := trivial
theorem A.tw7872350479427503936 : True := trivial
theorem A.tw7934867627965050574 : True := trivial
theorem A.tw800288260615561738 : True := trivial
theorem A.tw8021711566281527607 : True := trivial
theorem A.tw8321442917555062787 : True := trivial
theorem A.tw8346830044339109405 : True := trivial
theorem A.tw8404596279289937444 : True := trivial
theorem A.tw850267871183069548 : True := trivial
theorem A.tw8519229878729342897 : True := trivial
theorem A.tw8556327521946648191 : True := trivial
theorem A.tw855821209269619670 : True := trivial
theorem A.tw862293685418355476 : True := trivial
theorem A.tw866788653764307316 : True := trivial
theorem A.tw8836066542906618129 : True := trivial
theorem A.tw8944927634293200873 : True := trivial
theorem A.tw8987717726944127092 : True := trivial
theorem A.tw9004470140057946426 : True := trivial
theorem A.tw908413226068163364 : True := trivial
theorem A.tw9108012516609672523 : True := trivial
theorem A.tw916524157983223494 : True := trivial
theorem A.tw9188154737680886506 : True := trivial
theorem A.tw9330461196102357999 : True := trivial
theorem A.tw9341035674189962898 : True := trivial
theorem A.tw935492599192189830 : True := trivial
theorem A.tw9395108093613962055 : True := trivial
theorem A.tw953347905778266761 : True := trivial
theorem A.tw9558167310509322084 : True := trivial
-- a first run of the head whose outcome is given up: behind it the walk keeps no fast copies of the head's own terms (they made the compiled file too large)
set_option maxRecDepth 100000 in
set_option Elab.async true in
set_option maxHeartbeats 8000000 in
theorem A : True := by
  first
  | (let rec hd : PySem.Challenge.rw_sn0118_02.Holds := ((by
       set_option Elab.async false in (w_on; o_law; k_head; (case hw => w_witness2))
       fail "enough" : PySem.Challenge.rw_sn0118_02.Holds) :)
     trivial)
  | trivial
-- waits for A
theorem A.waited : True := A
set_option maxRecDepth 100000 in
set_option maxHeartbeats 8000000 in
open_top A.hd for PySem.Challenge.rw_sn0118_02
end Mine
namespace Mine
theorem topOff : True := by w_top off; trivial
end Mine
namespace Mine
noncomputable def Park (P : Prop) : Prop := P
theorem park {P : Prop} (h : Park P) : P := h
theorem unpark {P : Prop} (h : P) : Park P := h
noncomputable abbrev tupO (vs : List Value) (n : Nat) : Obj := { cls := .type "tuple", data := .seq vs.toArray n }
section
variable {prog : Program} {w : World} {A : Around} {E : Value → Shared → Prop} {s : Shared} {h₀ : Heap} {L : Addr} {news : List (Addr × Obj)}
theorem tup_of (N : News h₀ L s.heap news) {a : Addr} {vs : List Value} {n : Nat} (hm : (a, tupO vs n) ∈ news) : IsTup s.heap a vs.toArray := ⟨_, N.get hm, rfl, n, rfl⟩
theorem lst_of (N : News h₀ L s.heap news) {a : Addr} {vs : List Value} {n : Nat} (hm : (a, listOf vs.toArray n) ∈ news) : s.heap.IsList a vs.toArray := ⟨_, N.get hm, rfl, n, rfl⟩
/-- the length of a tuple of ints on the ledger -/
theorem len_tupI {a : Addr} {vs : List Value} {ns : List Int} {n : Nat} {Q : Value → Shared → Prop} (N : News h₀ L s.heap news) (hm : (a, tupO vs n) ∈ news) (hi : IntsAre vs ns) (hz : ns.length < 2 ^ 62)
    (h : Q (.int ns.length (s.toks + 1)) { s with toks := s.toks + 1 + 1 }) : wpAny (model prog w) A (call (.builtin "len") [.ref a]) Q E s := by
  have e : vs.toArray.size = ns.length := by rw [List.size_toArray, hi.length]
  refine len_tuple (tup_of N hm) (by rw [e]; omega) ?_
  rw [e]; exact h
/-- an item of a tuple of ints on the ledger, at an index that lies in it -/
theorem item_tupI {value slice : Expr} {a : Addr} {vs : List Value} {ns : List Int} {n : Nat} {k : Int} {u : Tok} {Q : Value → Shared → Prop} (N : News h₀ L s.heap news) (hm : (a, tupO vs n) ∈ news) (hi : IntsAre vs ns) (hz : ns.length < 2 ^ 62)
    (h0 : 0 ≤ k) (h1 : k < ns.length) (h : ∀ t, Q (.int (ns.getD k.toNat 0) t) s)
    (hs : subscripted slice false (.ref a) (.int k u) = operate [.ref a, .int k u] (getItem (.ref a) (.int k u)) := by with_unfolding_all rfl) :
    wpAny (model prog w) A (subscriptTail value slice (.ref a) (.int k u)) Q E s := by
  have hk : k.toNat < ns.length := by omega
  obtain ⟨t, ht⟩ := hi.get k.toNat (ns[k.toNat]) (List.getElem?_eq_getElem hk)
  have e : ns.getD k.toNat 0 = ns[k.toNat] := by rw [List.getD_eq_getElem?_getD, List.getElem?_eq_getElem hk]; rfl
  have hl := hi.length
  refine item_tupleT (tup_of N hm) (by omega) (by omega) (j := k.toNat) ?_ ht (by rw [← e]; exact h t) hs
  unfold seqIndex?
  rw [hl]
  (repeat' split) <;> first | rfl | omega | (simp_all; done) | (simp_all; omega)
end
theorem intsDat {news : List (Addr × Obj)} : ∀ {vs : List Value} {ns : List Int}, IntsAre vs ns → DatAll news vs (ns.map Dat.int)
  | _, _, .nil => .nil
  | _, _, .cons n t r => .cons (.int n t) (intsDat r)
theorem strsDat {news : List (Addr × Obj)} : ∀ {vs : List Value} {ns : List Str}, StrsAre vs ns → DatAll news vs (ns.map Dat.str)
  | _, _, .nil => .nil
  | _, _, .cons n t r => .cons (.str n t) (strsDat r)
theorem datInts {news : List (Addr × Obj)} : ∀ {vs : List Value} {ns : List Int}, DatAll news vs (ns.map Dat.int) → IntsAre vs ns
  | [], [], _ => .nil
  | _ :: _, n :: ns, h => by
    cases h with
    | cons hd r =>
      cases hd with
      | int _ t => exact .cons n t (datInts r)
  | _ :: _, [], h => by cases h
  | [], _ :: _, h => by cases h
theorem datStrs {news : List (Addr × Obj)} : ∀ {vs : List Value} {ns : List Str}, DatAll news vs (ns.map Dat.str) → StrsAre vs ns
  | [], [], _ => .nil
  | _ :: _, n :: ns, h => by
    cases h with
    | cons hd r =>
      cases hd with
      | str _ t => exact .cons n t (datStrs r)
  | _ :: _, [], h => by cases h
  | [], _ :: _, h => by cases h
theorem mapInt_inj : ∀ {xs ys : List Int}, xs.map Dat.int = ys.map Dat.int → xs = ys
  | [], [], _ => rfl
  | [], _ :: _, h => by cases h
  | _ :: _, [], h => by cases h
  | x :: xs, y :: ys, h => by
    simp only [List.map_cons, List.cons.injEq, Dat.int.injEq] at h
    rw [h.1, mapInt_inj h.2]
section
variable {prog : Program} {w : World} {A : Around} {E : Value → Shared → Prop} {s : Shared} {h₀ : Heap} {L : Addr} {news : List (Addr × Obj)}
open Classical in
/-- == of two data on the ledger -/
theorem eq_dat {v v' : Value} {d d' : Dat} {Q : Value → Shared → Prop} (N : News h₀ L s.heap news) (Da : DatIn news v d) (Db : DatIn news v' d') (ha : kqdOk 8 d = true) (hb : kqdOk 8 d' = true) (hu : A.units + 64 < cLine)
    (h : Q (.bool (decide (d = d'))) s) : wpAny (model prog w) A (compareOp .Eq v v') Q E s := by
  obtain ⟨as, ra⟩ := kqd_in N 8 Da ha
  obtain ⟨bs, rb⟩ := kqd_in N 8 Db hb
  have la := kqd_lay 8 d ha
  have lb := kqd_lay 8 d' hb
  have e : PyData.eqv (kqdP d) (kqdP d') = decide (d = d') := by
    have q := kqd_eqv 8 d d' 8 ha hb
    by_cases hq : d = d'
    · rw [decide_eq_true hq]; exact q.mpr hq
    · rw [decide_eq_false hq]; exact Bool.eq_false_iff.mpr fun x => hq (q.mp x)
  refine eq_dataH ra rb ?_ ?_ hu (by rw [e]; exact h)
  · unfold SeqAt.shaped; rw [la.1, Bool.true_and]; exact decide_eq_true (Nat.le_trans la.2 (by decide))
  · unfold SeqAt.shaped; rw [lb.1, Bool.true_and]; exact decide_eq_true (Nat.le_trans lb.2 (by decide))
open Classical in
theorem ne_dat {v v' : Value} {d d' : Dat} {Q : Value → Shared → Prop} (N : News h₀ L s.heap news) (Da : DatIn news v d) (Db : DatIn news v' d') (ha : kqdOk 8 d = true) (hb : kqdOk 8 d' = true) (hu : A.units + 64 < cLine)
    (h : Q (.bool (!decide (d = d'))) s) : wpAny (model prog w) A (compareOp .NotEq v v') Q E s := by
  obtain ⟨as, ra⟩ := kqd_in N 8 Da ha
  obtain ⟨bs, rb⟩ := kqd_in N 8 Db hb
  have la := kqd_lay 8 d ha
  have lb := kqd_lay 8 d' hb
  have e : PyData.eqv (kqdP d) (kqdP d') = decide (d = d') := by
    have q := kqd_eqv 8 d d' 8 ha hb
    by_cases hq : d = d'
    · rw [decide_eq_true hq]; exact q.mpr hq
    · rw [decide_eq_false hq]; exact Bool.eq_false_iff.mpr fun x => hq (q.mp x)
  refine ne_dataH ra rb ?_ ?_ hu (by rw [e]; exact h)
  · unfold SeqAt.shaped; rw [la.1, Bool.true_and]; exact decide_eq_true (Nat.le_trans la.2 (by decide))
  · unfold SeqAt.shaped; rw [lb.1, Bool.true_and]; exact decide_eq_true (Nat.le_trans lb.2 (by decide))
theorem norm_ok (cnt : List Int) (b : Int) : kqdOk 8 (.tuple [.tuple (cnt.map .int), .int b]) = true := by simp [kqdOk]
theorem eq_norm {t1 t2 t1' t2' : Addr} {cvs cvs' : List Value} {cnt cnt' : List Int} {b b' : Int} {r r' : Tok} {e1 e2 e1' e2' : Nat} {Q : Value → Shared → Prop} (N : News h₀ L s.heap news)
    (h1 : (t1, tupO [.ref t2, .int b r] e1) ∈ news) (h2 : (t2, tupO cvs e2) ∈ news) (hc : IntsAre cvs cnt) (h1' : (t1', tupO [.ref t2', .int b' r'] e1') ∈ news) (h2' : (t2', tupO cvs' e2') ∈ news) (hc' : IntsAre cvs' cnt')
    (hu : A.units + 64 < cLine) (h : Q (.bool (decide (cnt = cnt' ∧ b = b'))) s) : wpAny (model prog w) A (compareOp .Eq (.ref t1) (.ref t1')) Q E s := by
  refine eq_dat N (.tuple h1 (.cons (.tuple h2 (intsDat hc)) (.cons (.int b r) .nil))) (.tuple h1' (.cons (.tuple h2' (intsDat hc')) (.cons (.int b' r') .nil))) (norm_ok _ _) (norm_ok _ _) hu ?_
  have e : (Dat.tuple [.tuple (cnt.map .int), .int b] = Dat.tuple [.tuple (cnt'.map .int), .int b']) ↔ (cnt = cnt' ∧ b = b') := by
    simp only [Dat.tuple.injEq, List.cons.injEq, Dat.int.injEq, and_true]
    exact ⟨fun q => ⟨mapInt_inj q.1, q.2⟩, fun q => ⟨by rw [q.1], q.2⟩⟩
  have e2 : @decide _ (Classical.propDecidable (Dat.tuple [.tuple (cnt.map .int), .int b] = Dat.tuple [.tuple (cnt'.map .int), .int b'])) = decide (cnt = cnt' ∧ b = b') := by
    by_cases q : cnt = cnt' ∧ b = b'
    · rw [decide_eq_true q]; exact @decide_eq_true _ (Classical.propDecidable _) (e.mpr q)
    · rw [decide_eq_false q]; exact @decide_eq_false _ (Classical.propDecidable _) fun x => q (e.mp x)
  rw [e2]; exact h
end
theorem getD_bd {cnt : List Int} {c : Int} (h : ∀ x ∈ cnt, 0 ≤ x ∧ x ≤ c) (hc : 0 ≤ c) (k : Nat) : 0 ≤ cnt.getD k 0 ∧ cnt.getD k 0 ≤ c := by
  rw [List.getD_eq_getElem?_getD]
  cases e : cnt[k]? with
  | none => exact ⟨Int.le_refl _, hc⟩
  | some x => exact h x (List.mem_of_getElem? e)
theorem mem_rangeKs {a k : Int} {n : Nat} : k ∈ rangeKs a n ↔ a ≤ k ∧ k < a + n := by
  simp only [rangeKs, List.mem_map, List.mem_range]
  constructor
  · rintro ⟨i, h1, h2⟩; omega
  · rintro ⟨h1, h2⟩; exact ⟨(k - a).toNat, by omega, by omega⟩
noncomputable def ilSum (cnt : List Int) (ts : Int) (pre : List Int) : Int := (pre.map fun i => i.fdiv ts * cnt.getD i.toNat 0).sum
noncomputable abbrev level (cnt : List Int) (b nt ts : Int) : Int := b + ts * (ilSum cnt ts (rangeKs ts (cnt.length - ts).toNat) + nt)
noncomputable abbrev longV (cnt : List Int) (b : Int) : Int := max ((cnt.length : Int) - 1) b
noncomputable abbrev topV (cnt : List Int) (b : Int) (cnt' : List Int) (b' : Int) : Int := max (longV cnt b) (longV cnt' b')
noncomputable abbrev simpV (cnt cnt' : List Int) : Prop := (cnt.length : Int) ≤ 1 ∧ (cnt'.length : Int) ≤ 1
noncomputable def lessV (cnt : List Int) (b n nt : Int) (cnt' : List Int) (b' n' nt' : Int) : Bool :=
  if n ≥ n' then false else if simpV cnt cnt' then decide (nt ≤ nt') else (rangeKs 2 (topV cnt b cnt' b').toNat).all fun ts => decide (level cnt b nt ts < level cnt' b' nt' ts)
section
variable {cnt cnt' : List Int} {b n nt b' n' nt' : Int}
theorem lessV_ge (h : n ≥ n') : false = lessV cnt b n nt cnt' b' n' nt' := by unfold lessV; rw [if_pos h]
theorem lessV_simp (h : ¬ n ≥ n') (hs : simpV cnt cnt') : decide (nt ≤ nt') = lessV cnt b n nt cnt' b' n' nt' := by unfold lessV; rw [if_neg h, if_pos hs]
theorem lessV_no {k : Int} (h : ¬ n ≥ n') (hs : ¬ simpV cnt cnt') (h2 : 2 ≤ k) (hk : k ≤ topV cnt b cnt' b' + 1) (hl : level cnt b nt k ≥ level cnt' b' nt' k) : false = lessV cnt b n nt cnt' b' n' nt' := by
  unfold lessV
  rw [if_neg h, if_neg hs]
  symm
  rw [List.all_eq_false]
  exact ⟨k, mem_rangeKs.mpr ⟨h2, by omega⟩, by simpa using hl⟩
theorem lessV_yes (h : ¬ n ≥ n') (hs : ¬ simpV cnt cnt') (hl : ∀ k, 2 ≤ k → k ≤ topV cnt b cnt' b' + 1 → level cnt b nt k < level cnt' b' nt' k) : true = lessV cnt b n nt cnt' b' n' nt' := by
  unfold lessV
  rw [if_neg h, if_neg hs]
  symm
  rw [List.all_eq_true]
  intro k hk
  have q := mem_rangeKs.mp hk
  exact decide_eq_true (hl k q.1 (by omega))
end
noncomputable def triple (cnt : List Int) (b nt : Int) (cnt' : List Int) (b' nt' : Int) (ts : Int) : Dat := .tuple [.int ts, .int (level cnt b nt ts), .int (level cnt' b' nt' ts)]
noncomputable def neW (cnt : List Int) (b nt : Int) (cnt' : List Int) (b' nt' : Int) (pre : List Int) : List Int := pre.filter fun ts => decide (level cnt b nt ts ≠ level cnt' b' nt' ts)
noncomputable def nlW (cnt : List Int) (b nt : Int) (cnt' : List Int) (b' nt' : Int) (pre : List Int) : List Int := pre.filter fun ts => decide (level cnt b nt ts ≥ level cnt' b' nt' ts)
section
variable {cnt cnt' : List Int} {b nt b' nt' : Int} {pre : List Int} {k : Int}
theorem neW_yes (h : level cnt b nt k ≠ level cnt' b' nt' k) : neW cnt b nt cnt' b' nt' (pre ++ [k]) = neW cnt b nt cnt' b' nt' pre ++ [k] := by
  simp only [neW, List.filter_append, List.filter_cons, List.filter_nil, decide_eq_true h, if_true]
theorem neW_no (h : level cnt b nt k = level cnt' b' nt' k) : neW cnt b nt cnt' b' nt' (pre ++ [k]) = neW cnt b nt cnt' b' nt' pre := by
  have h' : ¬ (level cnt b nt k ≠ level cnt' b' nt' k) := fun q => q h
  simp only [neW, List.filter_append, List.filter_cons, List.filter_nil, decide_eq_false h', Bool.false_eq_true, if_false, List.append_nil]
theorem nlW_yes (h : level cnt b nt k ≥ level cnt' b' nt' k) : nlW cnt b nt cnt' b' nt' (pre ++ [k]) = nlW cnt b nt cnt' b' nt' pre ++ [k] := by
  simp only [nlW, List.filter_append, List.filter_cons, List.filter_nil, decide_eq_true h, if_true]
theorem nlW_no (h : level cnt b nt k < level cnt' b' nt' k) : nlW cnt b nt cnt' b' nt' (pre ++ [k]) = nlW cnt b nt cnt' b' nt' pre := by
  have h' : ¬ (level cnt b nt k ≥ level cnt' b' nt' k) := Int.not_le.mpr h
  simp only [nlW, List.filter_append, List.filter_cons, List.filter_nil, decide_eq_false h', Bool.false_eq_true, if_false, List.append_nil]
end
section
variable {cnt cnt' : List Int} {b nt b' nt' : Int} {pre : List Int} {k : Int}
theorem ne_start : ([] : List Dat) = (neW cnt b nt cnt' b' nt' []).map (triple cnt b nt cnt' b' nt') ∧ ([] : List Dat).length ≤ ([] : List Int).length := ⟨rfl, Nat.le_refl _⟩
theorem ne_stepY (hl : ((neW cnt b nt cnt' b' nt' pre).map (triple cnt b nt cnt' b' nt')).length ≤ pre.length) (h : ¬ level cnt b nt k = level cnt' b' nt' k) :
    (neW cnt b nt cnt' b' nt' pre).map (triple cnt b nt cnt' b' nt') ++ [Dat.tuple [.int k, .int (level cnt b nt k), .int (level cnt' b' nt' k)]] = (neW cnt b nt cnt' b' nt' (pre ++ [k])).map (triple cnt b nt cnt' b' nt') ∧
    ((neW cnt b nt cnt' b' nt' pre).map (triple cnt b nt cnt' b' nt') ++ [Dat.tuple [.int k, .int (level cnt b nt k), .int (level cnt' b' nt' k)]]).length ≤ (pre ++ [k]).length := by
  rw [neW_yes h, List.map_append]
  exact ⟨rfl, by simpa using hl⟩
theorem ne_stepN (hl : ((neW cnt b nt cnt' b' nt' pre).map (triple cnt b nt cnt' b' nt')).length ≤ pre.length) (h : level cnt b nt k = level cnt' b' nt' k) :
    (neW cnt b nt cnt' b' nt' pre).map (triple cnt b nt cnt' b' nt') = (neW cnt b nt cnt' b' nt' (pre ++ [k])).map (triple cnt b nt cnt' b' nt') ∧
    ((neW cnt b nt cnt' b' nt' pre).map (triple cnt b nt cnt' b' nt')).length ≤ (pre ++ [k]).length := by
  rw [neW_no h]
  exact ⟨rfl, by simp only [List.length_append, List.length_cons, List.length_nil]; omega⟩
theorem nl_start : ([] : List Dat) = (nlW cnt b nt cnt' b' nt' []).map (triple cnt b nt cnt' b' nt') ∧ ([] : List Dat).length ≤ ([] : List Int).length := ⟨rfl, Nat.le_refl _⟩
theorem nl_stepY (hl : ((nlW cnt b nt cnt' b' nt' pre).map (triple cnt b nt cnt' b' nt')).length ≤ pre.length) (h : level cnt b nt k ≥ level cnt' b' nt' k) :
    (nlW cnt b nt cnt' b' nt' pre).map (triple cnt b nt cnt' b' nt') ++ [Dat.tuple [.int k, .int (level cnt b nt k), .int (level cnt' b' nt' k)]] = (nlW cnt b nt cnt' b' nt' (pre ++ [k])).map (triple cnt b nt cnt' b' nt') ∧
    ((nlW cnt b nt cnt' b' nt' pre).map (triple cnt b nt cnt' b' nt') ++ [Dat.tuple [.int k, .int (level cnt b nt k), .int (level cnt' b' nt' k)]]).length ≤ (pre ++ [k]).length := by
  rw [nlW_yes h, List.map_append]
  exact ⟨rfl, by simpa using hl⟩
theorem nl_stepN (hl : ((nlW cnt b nt cnt' b' nt' pre).map (triple cnt b nt cnt' b' nt')).length ≤ pre.length) (h : ¬ level cnt' b' nt' k ≤ level cnt b nt k) :
    (nlW cnt b nt cnt' b' nt' pre).map (triple cnt b nt cnt' b' nt') = (nlW cnt b nt cnt' b' nt' (pre ++ [k])).map (triple cnt b nt cnt' b' nt') ∧
    ((nlW cnt b nt cnt' b' nt' pre).map (triple cnt b nt cnt' b' nt')).length ≤ (pre ++ [k]).length := by
  rw [nlW_no (Int.not_le.mp h)]
  exact ⟨rfl, by simp only [List.length_append, List.length_cons, List.length_nil]; omega⟩
end
theorem mulOk_getD {x : Int} {cnt : List Int} {k : Nat} (h : ∀ y ∈ cnt, 0 ≤ y ∧ y ≤ 64) : PySem.IntMulOk x (cnt.getD k 0) :=
  have q := getD_bd (c := 64) h (by decide) k
  PySem.IntMulOk.of_right (PySem.intBits_le_64 (by omega) (by omega))
end Mine
namespace Mine
/-- what holds between the turns of a for: the ledger and the names by a state c of a type of one's own -/
noncomputable def KJ {σ : Type} (Led : σ → List (Addr × Obj)) (ps : σ → List (Str × Value)) (stored : List Str) (P : Nat → σ → Prop) (x : Str) (m₀ : Str → Option Value) (i : Nat) (m : Str → Option Value) (nx : List (Addr × Obj)) : Prop :=
  ∃ c : σ, nx = Led c ∧ P i c ∧ (∀ p ∈ ps c, m p.1 = some p.2) ∧ ∀ z, z ≠ x → (∀ p ∈ ps c, z ≠ p.1) → stored.contains z = false → m z = m₀ z
section
variable {prog : Program} {w : World} {A : Around} {E : Value → Shared → Prop} {s : Shared} {env : Env} {h₀ : Heap} {x : Str} {body : List Stmt} {Q : Flow → Shared → Prop}
theorem kj_end {σ : Type} {Led : σ → List (Addr × Obj)} {ps : σ → List (Str × Value)} {stored : List Str} {P : Nat → σ → Prop} {m₀ : Str → Option Value} {i : Nat} (c : σ) {L : Addr} {m' : Str → Option Value} {own news' : List (Addr × Obj)} {s₁ : Shared} {h' : Heap} {tk : Nat}
    (F : Fr h₀ L h' m') (N : News h₀ L h' news') (hn : ∀ p ∈ Led c, p ∈ news') (ho : ∀ p ∈ own, p ∈ news') (hoff : OwnOff own ((Led c).map (·.1))) (hk : ∀ p ∈ ps c, m' p.1 = some p.2)
    (hr : ∀ z, z ≠ x → (∀ p ∈ ps c, z ≠ p.1) → stored.contains z = false → m' z = m₀ z) (hp : P i c) : InvEndG h₀ L (KJ Led ps stored P x m₀ i) own s₁ { s₁ with heap := h', toks := tk } :=
  InvEndG.intro F N ⟨c, rfl, hp, hk, hr⟩ hoff hn ho
theorem kj_end2 {σ : Type} {Led : σ → List (Addr × Obj)} {ps : σ → List (Str × Value)} {stored : List Str} {P : Nat → σ → Prop} {m₀ : Str → Option Value} {i : Nat} (c : σ) {L : Addr} {m' : Str → Option Value} {own news' : List (Addr × Obj)} {s₁ : Shared} {h' : Heap} {tk : Nat}
    (F : Fr h₀ L h' m') (N : News h₀ L h' news') (hk : ∀ p ∈ ps c, m' p.1 = some p.2) (hp : P i c) (hn : ∀ p ∈ Led c, p ∈ news') (ho : ∀ p ∈ own, p ∈ news') (hoff : OwnOff own ((Led c).map (·.1)))
    (hr : ∀ z, z ≠ x → (∀ p ∈ ps c, z ≠ p.1) → stored.contains z = false → m' z = m₀ z) : InvEndG h₀ L (KJ Led ps stored P x m₀ i) own s₁ { s₁ with heap := h', toks := tk } :=
  InvEndG.intro F N ⟨c, rfl, hp, hk, hr⟩ hoff hn ho
theorem kj_str {σ : Type} {tx : Str} {t : Tok} {m₀ : Str → Option Value} {news : List (Addr × Obj)} (Led : σ → List (Addr × Obj)) (ps : σ → List (Str × Value)) (stored : List Str) (P : Nat → σ → Prop) (c₀ : σ)
    (hh : A.handled = none) (F : Fr h₀ env.locals s.heap m₀) (N : News h₀ env.locals s.heap news) (hn : ∀ p ∈ Led c₀, p ∈ news) (hk : ∀ p ∈ ps c₀, m₀ p.1 = some p.2) (hp : P 0 c₀)
    (turn : ∀ (c : σ) (i cp : Nat) u (mu : Str → Option Value) h tk own, tx.cps[i]? = some cp → OwnOff own ((Led c).map (·.1)) → P i c →
      Fr h₀ env.locals h (fun y => if y = x then some (.str ⟨#[cp]⟩ u) else kstB (fun z => if stored.contains z then mu z else m₀ z) (ps c) y) → News h₀ env.locals h (Led c ++ own) →
      wpAny (model prog w) A (execs body env) (InvPostG h₀ env.locals (KJ Led ps stored P x m₀ (i + 1)) own { s with heap := h, toks := tk } Q) E { s with heap := h, toks := tk })
    (done : ∀ (c : σ) (mu : Str → Option Value) h tk, P tx.cps.size c → Fr h₀ env.locals h (fun y => if y = x then mu y else kstB (fun z => if stored.contains z then mu z else m₀ z) (ps c) y) → News h₀ env.locals h (Led c) → Q .next { s with heap := h, toks := tk }) :
    wpAny (model prog w) A (pyIter (.str tx t)) (fun it s₂ => LoopAtV prog w A h₀ env x body Q E it s₂) E s := by
  have go : ∀ (o : Obj) (St : Nat → Heap → Prop), Walks prog w A s.heap.objs.size [s.heap.objs.size] [s.heap.objs.size] tx.cps.size (SignAt tx) St → (∀ i h, St i h → ∃ o', h.get? s.heap.objs.size = some o') → St 0 (s.heap.push o) →
      LoopAtV prog w A h₀ env x body Q E (.ref s.heap.objs.size) { s with heap := s.heap.push o } := by
    intro o St W hob hst
    refine kdr_loop (s := { s with heap := s.heap.push o }) (fun i m nx => KJ Led ps stored P x m₀ i m nx) W (fun _ h => h) (fun _ h => h) ?_ ?_ ?_ ?_ hst (F.push _) (fun p hp => ⟨Heap.get?_push_of_some _ (N p (hn p hp)).1, (N p (hn p hp)).2⟩) ⟨c₀, rfl, hp, hk, fun _ _ _ _ => rfl⟩ ?_ ?_
    · intro i h hi b hb
      rw [List.mem_singleton.mp hb]
      exact hob i h hi
    · intro hm
      exact absurd F.ns.lt ((List.mem_singleton.mp hm) ▸ Nat.lt_irrefl _)
    · intro b hb
      rw [List.mem_singleton.mp hb]
      exact next_is_new F
    · intro p hp hI
      exact absurd (Heap.lt_size (N p (hn p hp)).1) ((List.mem_singleton.mp hI) ▸ Nat.lt_irrefl _)
    · rintro i v m₁ nx h tk own hi ⟨cp, u, hcp, rfl⟩ hoff ⟨c, rfl, hP, h1, h2⟩ F₁ N₁
      exact turn c i cp u m₁ h tk own hcp hoff hP (kst_fr h1 h2 F₁) N₁
    · rintro m₁ nx h tk ⟨c, rfl, hP, h1, h2⟩ F₁ N₁
      exact done c m₁ h tk hP (kst_frOut h1 h2 F₁) N₁
  cases ha : tx.cps.all (· < 128)
  · exact wpAny_pyIter_wide ha (go _ _ (Walks.strWide hh _ tx t) (fun i h hi => let ⟨o, ho, _⟩ := hi; ⟨o, ho⟩) ⟨_, Heap.get?_push_size _ rfl, rfl, rfl⟩)
  · exact wpAny_pyIter_ascii ha (go _ _ (Walks.strAscii hh _ tx t) (fun i h hi => let ⟨o, ho, _⟩ := hi; ⟨o, ho⟩) ⟨_, Heap.get?_push_size _ rfl, rfl, rfl⟩)
theorem kj_list {σ : Type} {l : Addr} {vs : List Value} {nn : Nat} {m₀ : Str → Option Value} {news : List (Addr × Obj)} (Led : σ → List (Addr × Obj)) (ps : σ → List (Str × Value)) (stored : List Str) (P : Nat → σ → Prop) (c₀ : σ)
    (hh : A.handled = none) (hl : ∀ c, (l, listOf vs.toArray nn) ∈ Led c) (F : Fr h₀ env.locals s.heap m₀) (N : News h₀ env.locals s.heap news) (hn : ∀ p ∈ Led c₀, p ∈ news) (hk : ∀ p ∈ ps c₀, m₀ p.1 = some p.2) (hp : P 0 c₀)
    (turn : ∀ (c : σ) (i : Nat) (v : Value) (mu : Str → Option Value) h tk own, vs[i]? = some v → OwnOff own ((Led c).map (·.1)) → P i c →
      Fr h₀ env.locals h (fun y => if y = x then some v else kstB (fun z => if stored.contains z then mu z else m₀ z) (ps c) y) → News h₀ env.locals h (Led c ++ own) →
      wpAny (model prog w) A (execs body env) (InvPostG h₀ env.locals (KJ Led ps stored P x m₀ (i + 1)) own { s with heap := h, toks := tk } Q) E { s with heap := h, toks := tk })
    (done : ∀ (c : σ) (mu : Str → Option Value) h tk, P vs.length c → Fr h₀ env.locals h (fun y => if y = x then mu y else kstB (fun z => if stored.contains z then mu z else m₀ z) (ps c) y) → News h₀ env.locals h (Led c) → Q .next { s with heap := h, toks := tk }) :
    wpAny (model prog w) A (pyIter (.ref l)) (fun it s₂ => LoopAtV prog w A h₀ env x body Q E it s₂) E s := by
  refine kdl_iter (news := Led c₀) (fun i m nx => KJ Led ps stored P x m₀ i m nx) hh (hl c₀) F (fun p hp => N p (hn p hp)) ⟨c₀, rfl, hp, hk, fun _ _ _ _ => rfl⟩ ?_ ?_
  · rintro i v m₁ nx h tk own hv hoff _ ⟨c, rfl, hP, h1, h2⟩ F₁ N₁
    refine wpAny_mono (turn c i v m₁ h tk own hv hoff hP (kst_fr h1 h2 F₁) N₁) (fun f s₂ p => ?_) fun _ _ x => x
    have up : InvEndG h₀ env.locals (KJ Led ps stored P x m₀ (i + 1)) own { s with heap := h, toks := tk } s₂ →
        InvEndG h₀ env.locals (fun m' nx => (l, listOf vs.toArray nn) ∈ nx ∧ KJ Led ps stored P x m₀ (i + 1) m' nx) own { s with heap := h, toks := tk } s₂ := by
      rintro ⟨h', tk', m', news', nx', e', F', N', hn', ho', ha, c', rfl, r⟩
      exact ⟨h', tk', m', news', _, e', F', N', hn', ho', ha, hl c', c', rfl, r⟩
    cases f with
    | ret v => exact p
    | brk => exact p
    | next => exact up p
    | cont => exact up p
  · rintro m₁ nx h tk ⟨c, rfl, hP, h1, h2⟩ F₁ N₁
    exact done c m₁ h tk hP (kst_frOut h1 h2 F₁) N₁
theorem kj_range {σ : Type} {r : Addr} {a₀ b₀ : Int} {t₀ u₀ v₀ : Tok} {n : Nat} {m₀ : Str → Option Value} {news : List (Addr × Obj)} (Led : σ → List (Addr × Obj)) (ps : σ → List (Str × Value)) (stored : List Str) (P : Nat → σ → Prop) (c₀ : σ)
    (hh : A.handled = none) (hr : IsRange s.heap r a₀ b₀ 1 t₀ u₀ v₀) (hsmall : Builtin.Range.small a₀ b₀ 1 = true) (hsz : Builtin.Range.rangeSize a₀ b₀ 1 = (n : Int)) (F : Fr h₀ env.locals s.heap m₀) (N : News h₀ env.locals s.heap news) (hn : ∀ p ∈ Led c₀, p ∈ news) (hk : ∀ p ∈ ps c₀, m₀ p.1 = some p.2) (hp : P 0 c₀)
    (turn : ∀ (c : σ) (i : Nat) (k : Int) t (mu : Str → Option Value) h tk own, i < n → k = a₀ + (i : Int) → OwnOff own ((Led c).map (·.1)) → P i c →
      Fr h₀ env.locals h (fun y => if y = x then some (.int k t) else kstB (fun z => if stored.contains z then mu z else m₀ z) (ps c) y) → News h₀ env.locals h (Led c ++ own) →
      wpAny (model prog w) A (execs body env) (InvPostG h₀ env.locals (KJ Led ps stored P x m₀ (i + 1)) own { s with heap := h, toks := tk } Q) E { s with heap := h, toks := tk })
    (done : ∀ (c : σ) (mu : Str → Option Value) h tk, P n c → Fr h₀ env.locals h (fun y => if y = x then mu y else kstB (fun z => if stored.contains z then mu z else m₀ z) (ps c) y) → News h₀ env.locals h (Led c) → Q .next { s with heap := h, toks := tk }) :
    wpAny (model prog w) A (pyIter (.ref r)) (fun it s₂ => LoopAtV prog w A h₀ env x body Q E it s₂) E s := by
  refine wpAny_pyIter_range hr hsmall ?_
  have W : Walks prog w A s.heap.objs.size [s.heap.objs.size] [s.heap.objs.size] n (fun i v => i < n ∧ ∃ t, v = .int (a₀ + i * 1) t)
      (fun i h => IsRangeIter h s.heap.objs.size (a₀ + (i : Nat) * 1) ((n : Int) - (i : Nat)) 1) := (Walks.range hh _ a₀ 1 n).bound
  refine kdr_loop (fun i m nx => KJ Led ps stored P x m₀ i m nx) W (fun _ h => h) (fun _ h => h) ?_ ?_ ?_ ?_ (by show IsRangeIter _ _ _ _ _; rw [hsz]; simpa using Heap.get?_push_size _ rfl) (F.push _) (fun p hp => ⟨Heap.get?_push_of_some _ (N p (hn p hp)).1, (N p (hn p hp)).2⟩) ⟨c₀, rfl, hp, hk, fun _ _ _ _ => rfl⟩ ?_ ?_
  · intro i h hi b hb
    rw [List.mem_singleton.mp hb]
    exact ⟨_, hi⟩
  · intro hm
    exact absurd F.ns.lt ((List.mem_singleton.mp hm) ▸ Nat.lt_irrefl _)
  · intro b hb
    rw [List.mem_singleton.mp hb]
    exact next_is_new F
  · intro p hp hI
    exact absurd (Heap.lt_size (N p (hn p hp)).1) ((List.mem_singleton.mp hI) ▸ Nat.lt_irrefl _)
  · rintro i v m₁ nx h tk own hi ⟨_, t, rfl⟩ hoff ⟨c, rfl, hP, h1, h2⟩ F₁ N₁
    exact turn c i _ t m₁ h tk own hi (by omega) hoff hP (kst_fr h1 h2 F₁) N₁
  · rintro m₁ nx h tk ⟨c, rfl, hP, h1, h2⟩ F₁ N₁
    exact done c m₁ h tk hP (kst_frOut h1 h2 F₁) N₁
end
noncomputable def wsBump (cnt : List Int) (b : Int) : List Int :=
  let c := if b ≥ cnt.length then cnt ++ List.replicate (b - cnt.length + 1).toNat 0 else cnt
  c.set b.toNat (c.getD b.toNat 0 + 1)
noncomputable def wsFold : List Nat → List Int → Int → Int → Int → List Int × Int × Int × Int
  | [], cnt, b, n, nt => (cnt, b, n, nt)
  | c :: r, cnt, b, n, nt => if c = 32 then wsFold r cnt (b + 1) (n + 1) nt else if c = 9 then wsFold r (wsBump cnt b) 0 (n + 1) (nt + 1) else (cnt, b, n, nt)
noncomputable def wsOf (x : Str) : List Int × Int × Int × Int := wsFold x.cps.toList [] 0 0 0
structure IS where
  cl : Addr
  vs : List Value
  ep : Nat
  cnt : List Int
  b : Int
  n : Int
  nt : Int
  tb : Tok
  tn : Tok
  tt : Tok
structure PInit (raw : Str) (base : List (Addr × Obj)) (i : Nat) (c : IS) : Prop where
  lt : ∀ p ∈ base, p.1 < c.cl
  are : IntsAre c.vs c.cnt
  inv : wsOf raw = wsFold (raw.cps.toList.drop i) c.cnt c.b c.n c.nt
  le : i ≤ raw.cps.size
  hb : 0 ≤ c.b ∧ c.b ≤ i
  hn : 0 ≤ c.n ∧ c.n ≤ i
  ht : 0 ≤ c.nt ∧ c.nt ≤ i
  hl : c.cnt.length ≤ i
  hc : ∀ x ∈ c.cnt, 0 ≤ x ∧ x ≤ i
theorem chS (cp : Nat) : (({ cps := #[cp] } : Str) == Str.ofString " ") = decide (cp = 32) := by
  have e : Str.ofString " " = ⟨#[32]⟩ := by decide
  rw [e]
  by_cases h : cp = 32
  · subst h; decide
  · rw [decide_eq_false h]
    exact beq_eq_false_iff_ne.mpr fun q => h (by simpa using q)
theorem chT (cp : Nat) : (({ cps := #[cp] } : Str) == Str.ofString "\t") = decide (cp = 9) := by
  have e : Str.ofString "\t" = ⟨#[9]⟩ := by decide
  rw [e]
  by_cases h : cp = 9
  · subst h; decide
  · rw [decide_eq_false h]
    exact beq_eq_false_iff_ne.mpr fun q => h (by simpa using q)
theorem drop_at {raw : Str} {i cp : Nat} (h : raw.cps[i]? = some cp) : raw.cps.toList.drop i = cp :: raw.cps.toList.drop (i + 1) := by
  have hi : i < raw.cps.toList.length := by
    obtain ⟨q, _⟩ := Array.getElem?_eq_some_iff.mp h
    simpa using q
  rw [List.drop_eq_getElem_cons hi]
  congr 1
  have := (Array.getElem?_eq_some_iff.mp h).2
  simpa using this
theorem size_at {raw : Str} {i cp : Nat} (h : raw.cps[i]? = some cp) : i < raw.cps.size := (Array.getElem?_eq_some_iff.mp h).1
theorem rep_flat (k : Nat) : (List.replicate k [(0 : Int)]).flatten = List.replicate k 0 := by
  induction k with
  | zero => rfl
  | succ k ih => rw [List.replicate_succ, List.flatten_cons, ih]; rfl
section
variable {raw : Str} {bs : List (Addr × Obj)} {i cp : Nat} {cl d : Addr} {vs ws : List Value} {ep ep' : Nat} {cnt : List Int} {b n nt : Int} {tb tn tt tb' tn' tt' : Tok}
theorem pinit_S (h : PInit raw bs i ⟨cl, vs, ep, cnt, b, n, nt, tb, tn, tt⟩) (hcp : raw.cps[i]? = some cp) (h1 : (({ cps := #[cp] } : Str) == Str.ofString " ") = true) :
    PInit raw bs (i + 1) ⟨cl, vs, ep', cnt, b + 1, n + 1, nt, tb', tn', tt'⟩ := by
  obtain ⟨a1, a2, a3, a4, a5, a6, a7, a8, a9⟩ := h
  try dsimp only at *
  rw [chS] at h1
  have h2 := size_at hcp
  refine ⟨a1, a2, ?_, h2, ?_, ?_, ?_, ?_, fun x hx => ?_⟩
  · rw [a3, drop_at hcp, wsFold, if_pos (by simpa using h1)]
  all_goals try dsimp only
  all_goals try omega
  have := a9 x hx
  omega
theorem set_bd {xs : List Int} {k : Nat} {c : Int} (h : ∀ x ∈ xs, 0 ≤ x ∧ x ≤ c) (hc : 0 ≤ c) : ∀ x ∈ xs.set k (xs.getD k 0 + 1), 0 ≤ x ∧ x ≤ c + 1 := by
  intro x hx
  have q := getD_bd h hc k
  rcases List.mem_or_eq_of_mem_set hx with hx | rfl
  · have := h x hx; omega
  · omega
theorem pinit_T1 (h : PInit raw bs i ⟨cl, vs, ep, cnt, b, n, nt, tb, tn, tt⟩) (hcp : raw.cps[i]? = some cp) (h0 : (({ cps := #[cp] } : Str) == Str.ofString " ") = false) (h1 : (({ cps := #[cp] } : Str) == Str.ofString "\t") = true) (hb : (cnt.length : Int) ≤ b)
    (hI : IntsAre ws ((cnt ++ (List.replicate (b - cnt.length + 1).toNat [0]).flatten).set b.toNat ((cnt ++ (List.replicate (b - cnt.length + 1).toNat [0]).flatten).getD b.toNat 0 + 1))) (hd : ∀ p ∈ bs, p.1 < d) :
    PInit raw bs (i + 1) ⟨d, ws, ep', wsBump cnt b, 0, n + 1, nt + 1, tb', tn', tt'⟩ := by
  obtain ⟨a1, a2, a3, a4, a5, a6, a7, a8, a9⟩ := h
  try dsimp only at *
  rw [chS] at h0
  rw [chT] at h1
  rw [rep_flat] at hI
  have h2 := size_at hcp
  have e : wsBump cnt b = (cnt ++ List.replicate (b - cnt.length + 1).toNat 0).set b.toNat ((cnt ++ List.replicate (b - cnt.length + 1).toNat 0).getD b.toNat 0 + 1) := by unfold wsBump; rw [if_pos hb]
  refine ⟨hd, by rw [e]; exact hI, ?_, h2, ?_, ?_, ?_, ?_, ?_⟩
  · rw [a3, drop_at hcp, wsFold, if_neg (by simpa using h0), if_pos (by simpa using h1)]
  all_goals try dsimp only
  all_goals try omega
  · rw [e]; simp only [List.length_set, List.length_append, List.length_replicate]; omega
  · rw [e]
    have q := set_bd (xs := cnt ++ List.replicate (b - cnt.length + 1).toNat 0) (k := b.toNat) (c := i) (fun x hx => by
      rcases List.mem_append.mp hx with hx | hx
      · exact a9 x hx
      · rw [List.eq_of_mem_replicate hx]; omega) (by omega)
    intro x hx
    have := q x hx
    omega
theorem pinit_T2 (h : PInit raw bs i ⟨cl, vs, ep, cnt, b, n, nt, tb, tn, tt⟩) (hcp : raw.cps[i]? = some cp) (h0 : (({ cps := #[cp] } : Str) == Str.ofString " ") = false) (h1 : (({ cps := #[cp] } : Str) == Str.ofString "\t") = true) (hb : ¬ (cnt.length : Int) ≤ b)
    (hI : IntsAre ws (cnt.set b.toNat (cnt.getD b.toNat 0 + 1))) :
    PInit raw bs (i + 1) ⟨cl, ws, ep', wsBump cnt b, 0, n + 1, nt + 1, tb', tn', tt'⟩ := by
  obtain ⟨a1, a2, a3, a4, a5, a6, a7, a8, a9⟩ := h
  try dsimp only at *
  rw [chS] at h0
  rw [chT] at h1
  have h2 := size_at hcp
  have e : wsBump cnt b = cnt.set b.toNat (cnt.getD b.toNat 0 + 1) := by unfold wsBump; rw [if_neg hb]
  refine ⟨a1, by rw [e]; exact hI, ?_, h2, ?_, ?_, ?_, ?_, ?_⟩
  · rw [a3, drop_at hcp, wsFold, if_neg (by simpa using h0), if_pos (by simpa using h1)]
  all_goals try dsimp only
  all_goals try omega
  · rw [e]; simp only [List.length_set]; omega
  · rw [e]
    intro x hx
    have := set_bd (xs := cnt) (k := b.toNat) (c := i) a9 (by omega) x hx
    omega
theorem pinit_brk (h : PInit raw bs i ⟨cl, vs, ep, cnt, b, n, nt, tb, tn, tt⟩) (hcp : raw.cps[i]? = some cp) (h0 : (({ cps := #[cp] } : Str) == Str.ofString " ") = false) (h1 : (({ cps := #[cp] } : Str) == Str.ofString "\t") = false) :
    wsOf raw = (cnt, b, n, nt) := by
  have a3 := h.inv
  try dsimp only at a3
  rw [chS] at h0
  rw [chT] at h1
  rw [a3, drop_at hcp, wsFold, if_neg (by simpa using h0), if_neg (by simpa using h1)]
theorem pinit_done (h : PInit raw bs raw.cps.size ⟨cl, vs, ep, cnt, b, n, nt, tb, tn, tt⟩) : wsOf raw = (cnt, b, n, nt) := by
  have a3 := h.inv
  try dsimp only at a3
  rw [a3, List.drop_of_length_le (by simp)]
  rfl
end
theorem off_new {own bs : List (Addr × Obj)} {a d : Addr} {l : List Addr} (h : OwnOff own (a :: l)) (hlt : AllLt d (bs ++ own)) : OwnOff own (d :: l) := by
  intro p hp b hb
  rcases List.mem_cons.mp hb with rfl | hb
  · exact Nat.ne_of_lt (kst_ltOf hlt p (List.mem_append.mpr (.inr hp)))
  · exact h p hp b (.tail _ hb)
theorem off_same {own l : List (Addr × Obj)} {a : Addr} {o o' : Obj} (h : OwnOff own (((a, o) :: l).map (·.1))) : OwnOff own (((a, o') :: l).map (·.1)) := h
theorem lt_left {d : Addr} {bs own : List (Addr × Obj)} (h : AllLt d (bs ++ own)) : ∀ p ∈ bs, p.1 < d := fun p hp => kst_ltOf h p (List.mem_append.mpr (.inl hp))
section
variable {prog : Program} {w : World} {A : Around} {E : Value → Shared → Prop} {s : Shared} {h₀ : Heap} {L : Addr} {m : Str → Option Value} {news : List (Addr × Obj)}
theorem tupOf_I {l : Addr} {vs : List Value} {ns : List Int} {n : Nat} {Q : Value → Shared → Prop} (F : Fr h₀ L s.heap m) (N : News h₀ L s.heap news) (hm : (l, listOf vs.toArray n) ∈ news) (hi : IntsAre vs ns) (hz : ns.length ≤ 16384)
    (h : ∀ D h', Fr h₀ L h' m → News h₀ L h' ((D, tupO vs 0) :: news) → (∀ p ∈ news, p.1 < D) → Q (.ref D) { s with heap := h' }) : wpAny (model prog w) A (call (.type "tuple") [.ref l]) Q E s :=
  kde_tupleOf F N (lst_of N hm) (by rw [List.size_toArray, hi.length]; exact hz) (by simp) h
end
theorem led2 {h₀ h : Heap} {L : Addr} {q1 q2 : Addr × Obj} {base : List (Addr × Obj)} (N : News h₀ L h (q1 :: q2 :: base)) : ∃ b, b = base ∧ News h₀ L h (q1 :: b) := ⟨base, rfl, fun p hp => N p (by
  rcases List.mem_cons.mp hp with rfl | hp
  · exact .head _
  · exact .tail _ (.tail _ hp))⟩
end Mine
namespace Mine
section
variable {prog : Program} {w : World} {A : Around} {E : Value → Shared → Prop} {s : Shared} {env : Env} {x : Str} {px pos : Pos} {body : List Stmt} {Q : Flow → Shared → Prop} {L : Addr}
/-- a loop's turn comes to its end: the ground, the frame, the ledger and the generators as they then are -/
noncomputable def TurnG (L I : Addr) (o : Obj) (J : Heap → (Str → Option Value) → List (Addr × Obj) → Array GenState → Prop) (s : Shared) (s₃ : Shared) : Prop :=
  ∃ gr m led gs h tk, s₃ = { s with heap := h, gens := gs, toks := tk } ∧ Fr gr L h m ∧ News gr L h ((I, o) :: led) ∧ (∀ p ∈ led, p.1 ≠ I) ∧ J gr m led gs
noncomputable def PostG (L I : Addr) (o : Obj) (J : Heap → (Str → Option Value) → List (Addr × Obj) → Array GenState → Prop) (s : Shared) (Q : Flow → Shared → Prop) (f : Flow) (s₃ : Shared) : Prop := match f with
  | .next => TurnG L I o J s s₃
  | .cont => TurnG L I o J s s₃
  | .brk => Q .next s₃
  | .ret v => Q (.ret v) s₃
theorem forG {I : Addr} {fp : List Addr} {n : Nat} {P : Nat → Value → Prop} {St : Nat → Heap → Prop} {g : Heap} {m : Str → Option Value} {led fix : List (Addr × Obj)} (J : Nat → Heap → (Str → Option Value) → List (Addr × Obj) → Array GenState → Prop)
    (W : Walks prog w A I fp [I] n P St) (hfp : ∀ b ∈ fp, b = I ∨ ∃ o, (b, o) ∈ fix) (hIo : ∀ i h, St i h → ∃ o, h.get? I = some o) (hfix : ∀ i gr m' led' gs, J i gr m' led' gs → ∀ p ∈ fix, p ∈ led')
    (hL : env.locals = L) (hx : env.kindOf x = some .local) (hp : (env.scope.kind == .class || (env.scope.kind == .module && env.locals != env.globals)) = false) (hE : PassesOwn (model prog w) A env E)
    (hst : St 0 s.heap) (F : Fr g L s.heap m) (N : News g L s.heap led) (hIL : I ≠ L) (hIg : g.get? I = none) (hoff : ∀ p ∈ led, p.1 ≠ I) (hJ : J 0 g m led s.gens)
    (turn : ∀ i v o gr m' led' gs h tk, i < n → P i v → J i gr m' led' gs → (∀ p ∈ led', p.1 ≠ I) → Fr gr L h (fun y => if y = x then some v else m' y) → News gr L h ((I, o) :: led') →
      wpAny (model prog w) A (execs body env) (PostG L I o (J (i + 1)) s Q) E { s with heap := h, gens := gs, toks := tk })
    (done : ∀ gr m' led' gs h tk, J n gr m' led' gs → Fr gr L h m' → News gr L h led' → Q .next { s with heap := h, gens := gs, toks := tk }) :
    codeAny (model prog w) A (.forLoop (.Name x px) (.ref I) body [] env) (fun r s' => match r with | .ok f => Q f s' | .error e => cameBackBy (model prog w) A env E e s') s := by
  refine codeAny_forLoop (fun k s' => ∃ i gr m' led' gs h tk, s' = { s with heap := h, gens := gs, toks := tk } ∧ i ≤ n ∧ k = n + 1 - i ∧ St i h ∧ Fr gr L h m' ∧ News gr L h led' ∧ I ≠ L ∧ gr.get? I = none ∧ (∀ p ∈ led', p.1 ≠ I) ∧ J i gr m' led' gs) ?_ (n + 1)
    ⟨0, g, m, led, s.gens, s.heap, s.toks, rfl, Nat.zero_le _, rfl, hst, F, N, hIL, hIg, hoff, hJ⟩
  rintro k s' ⟨i, gr, m', led', gs, h, tk, rfl, hi, rfl, hst', F', N', _, hIg', hoff', hJ'⟩
  have nI : ∀ b o, gr.get? b = some o → b ∉ [I] := fun b o e q => by rw [List.mem_singleton.mp q, hIg'] at e; cases e
  by_cases hlt : i < n
  · refine W.item i _ _ _ hlt hst' fun v h₂ tk₂ hPv hst₂ hk₂ => ?_
    obtain ⟨o, ho⟩ := hIo _ _ hst₂
    have F₂ : Fr gr L h₂ m' := ⟨F'.ns.at' fun o e => hk₂ _ o (fun q => hIL (List.mem_singleton.mp q).symm) e, fun b o e => hk₂ b o (nI b o e) (F'.keep b o e), F'.above⟩
    have N₂ : News gr L h₂ ((I, o) :: led') := fun p hp => by
      rcases List.mem_cons.mp hp with rfl | hp
      · exact ⟨ho, hIL, hIg'⟩
      · exact ⟨hk₂ _ _ (fun q => hoff' p hp (List.mem_singleton.mp q)) (N' p hp).1, (N' p hp).2⟩
    refine wpAny_assign_Name (wpAny_storeName_local hx (hL ▸ F₂.ns) (fun h₃ hn₃ hs₃ => ?_) hp)
    rw [hL] at hn₃ hs₃
    have F₃ : Fr gr L h₃ (fun y => if y = x then some v else m' y) := F₂.set hn₃ hs₃
    have N₃ := N₂.set hs₃
    refine wpAny_mono (turn i v o gr m' led' gs h₃ _ hlt hPv hJ' hoff' F₃ N₃) (fun f s₃ q => ?_) hE
    have fin : TurnG L I o (J (i + 1)) s s₃ → ∃ k', k' < n + 1 - i ∧ ∃ i gr m' led' gs h tk, s₃ = { s with heap := h, gens := gs, toks := tk } ∧ i ≤ n ∧ k' = n + 1 - i ∧ St i h ∧ Fr gr L h m' ∧ News gr L h led' ∧ I ≠ L ∧ gr.get? I = none ∧ (∀ p ∈ led', p.1 ≠ I) ∧ J i gr m' led' gs := by
      rintro ⟨gr', m'', led'', gs', h', tk', rfl, F4, N4, o4, J4⟩
      refine ⟨n + 1 - (i + 1), by omega, i + 1, gr', m'', led'', gs', h', tk', rfl, hlt, rfl, W.frame _ _ _ hst₂ fun b hb ob e => ?_, F4, fun p hp => N4 p (.tail _ hp), hIL, (N4 _ (.head _)).2.2, o4, J4⟩
      rcases hfp b hb with rfl | ⟨o', hm⟩
      · rw [ho] at e; cases e
        exact (N4 _ (.head _)).1
      · have e1 := (N₂ _ (.tail _ (hfix _ _ _ _ _ hJ' _ hm))).1
        have e2 := (N4 _ (.tail _ (hfix _ _ _ _ _ J4 _ hm))).1
        dsimp only at e1 e2
        rw [e1] at e; cases e
        exact e2
    cases f with
    | ret v => exact q
    | brk => exact q
    | next => exact fin q
    | cont => exact fin q
  · have hin : i = n := Nat.le_antisymm hi (Nat.le_of_not_lt hlt)
    subst hin
    refine W.done _ _ _ hst' fun h₂ tk₂ hk₂ => wpAny_execs_nil ?_
    exact done gr m' led' gs h₂ tk₂ hJ' ⟨F'.ns.at' fun o e => hk₂ _ o (fun q => hIL (List.mem_singleton.mp q).symm) e, fun b o e => hk₂ b o (nI b o e) (F'.keep b o e), F'.above⟩
      fun p hp => ⟨hk₂ _ _ (fun q => hoff' p hp (List.mem_singleton.mp q)) (N' p hp).1, (N' p hp).2⟩
/-- for over a range, its turns free to change the ground and the generators -/
theorem for_rangeG {r : Addr} {a₀ b₀ : Int} {t₀ u₀ v₀ : Tok} {n : Nat} {g : Heap} {m : Str → Option Value} {led : List (Addr × Obj)} (J : Nat → Heap → (Str → Option Value) → List (Addr × Obj) → Array GenState → Prop)
    (hh : A.handled = none) (hr : IsRange s.heap r a₀ b₀ 1 t₀ u₀ v₀) (hsmall : Builtin.Range.small a₀ b₀ 1 = true) (hsz : Builtin.Range.rangeSize a₀ b₀ 1 = (n : Int))
    (hL : env.locals = L) (hx : env.kindOf x = some .local) (hp : (env.scope.kind == .class || (env.scope.kind == .module && env.locals != env.globals)) = false) (hE : PassesOwn (model prog w) A env E)
    (F : Fr g L s.heap m) (N : News g L s.heap led) (hJ : J 0 g m led s.gens)
    (turn : ∀ i k t I o gr m' led' gs h tk, i < n → k = a₀ + (i : Int) → J i gr m' led' gs → (∀ p ∈ led', p.1 ≠ I) → Fr gr L h (fun y => if y = x then some (.int k t) else m' y) → News gr L h ((I, o) :: led') →
      wpAny (model prog w) A (execs body env) (PostG L I o (J (i + 1)) s Q) E { s with heap := h, gens := gs, toks := tk })
    (done : ∀ gr m' led' gs h tk, J n gr m' led' gs → Fr gr L h m' → News gr L h led' → Q .next { s with heap := h, gens := gs, toks := tk }) :
    wpAny (model prog w) A (pyIter (.ref r)) (fun it s₂ => codeAny (model prog w) A (.forLoop (.Name x px) it body [] env) (fun r s' => match r with | .ok f => Q f s' | .error e => cameBackBy (model prog w) A env E e s') s₂) E s := by
  refine wpAny_pyIter_range hr hsmall ?_
  have W : Walks prog w A s.heap.objs.size [s.heap.objs.size] [s.heap.objs.size] n (fun i v => i < n ∧ ∃ t, v = .int (a₀ + i * 1) t)
      (fun i h => IsRangeIter h s.heap.objs.size (a₀ + (i : Nat) * 1) ((n : Int) - (i : Nat)) 1) := (Walks.range hh _ a₀ 1 n).bound
  refine forG (fix := []) J W (fun b hb => .inl (List.mem_singleton.mp hb)) (fun i h hi => ⟨_, hi⟩) (fun _ _ _ _ _ _ p hp => nomatch hp) hL hx hp hE (by show IsRangeIter _ _ _ _ _; rw [hsz]; simpa using Heap.get?_push_size _ rfl) (F.push _)
    (fun p hp => ⟨Heap.get?_push_of_some _ (N p hp).1, (N p hp).2⟩) (Nat.ne_of_gt F.ns.lt) (next_is_new F) (fun p hp => Nat.ne_of_lt (Heap.lt_size (N p hp).1)) hJ ?_ ?_
  · rintro i v o gr m' led' gs h tk hi ⟨_, t, rfl⟩ hJ' ho F' N'
    exact turn i _ t _ o gr m' led' gs h tk hi (by omega) hJ' ho F' N'
  · intro gr m' led' gs h tk hJ' F' N'
    exact done gr m' led' gs h tk hJ' F' N'
end
end Mine
namespace Mine
noncomputable abbrev bmE : List Value := [.type "Exception", .type "BaseException", .type "object"]
/-- an exception class of the program's own: bases Exception, its namespace -/
structure NagCls (h : Heap) (C N : Addr) (mN : Str → Option Value) : Prop where
  obj : ∃ nm q bs sn sub ab col dd k0 k1 k2 k3 k5, h.get? C = some (excClassObj nm q C N bs bmE true sn sub ab col dd k0 k1 k2 k3 k5 "Exception.__new__")
  ns : h.Ns N mN
  q1 : mN "__getattribute__" = none
  q2 : mN "__getattr__" = none
  q3 : mN "__setattr__" = none
theorem NagCls.keeps {h h' : Heap} {C N : Addr} {mN : Str → Option Value} (x : NagCls h C N mN) (k : ∀ b o, h.get? b = some o → h'.get? b = some o) : NagCls h' C N mN := by
  obtain ⟨⟨nm, q, bs, sn, sub, ab, col, dd, k0, k1, k2, k3, k5, e⟩, n, a, b, c⟩ := x
  exact ⟨⟨nm, q, bs, sn, sub, ab, col, dd, k0, k1, k2, k3, k5, k _ _ e⟩, n.keeps k, a, b, c⟩
section
variable {prog : Program} {w : World} {A : Around} {E : Value → Shared → Prop} {h : Heap} {g : Array GenState} {d : Drawn} {t : Nat} {os : OsState}
  {nm q : Str} {C N x : Addr} {bs : List Value} {sn : List Str} {sub : List Value} {ab : Bool} {col : Option Bool} {dd : Option Addr} {k0 k1 k2 k3 k5 : Option Value} {newId : String}
  {mN mA : Str → Option Value} {name : Str} {v : Value}
theorem lk_ga : typeLookup (.type "Exception") "__getattribute__" = pure (some (.builtin "BaseException.__getattribute__")) := F.attrBase_Exception.ga.lookup
theorem canon_ga : (Manifest.canonical "BaseException.__getattribute__" != "object.__getattribute__") = false := by decide +kernel
theorem lk_gattr : typeLookup (.type "Exception") "__getattr__" = pure none := F.attrBase_Exception.noGetattr
theorem mro_E : mroOf (.type "Exception") = pure bmE := F.attrBase_Exception.mro
theorem exc_method_of {pl : Sem Bool} {f : Addr} {of : Obj} {Q : Value × List Value → Shared → Prop}
    (hC : h.get? C = some (excClassObj nm q C N bs bmE true sn sub ab col dd k0 k1 k2 k3 k5 newId)) (hn : h.Ns N mN) (hng : mN "__getattribute__" = none) (hnh : mN "__getattr__" = none)
    (hf : mN name = some (.ref f)) (hfo : h.get? f = some of) (hfc : of.cls = .type "function") {y : Option Value} (hB : typeLookup (.type "Exception") name = pure y)
    (I : h.Inst x C mA) (hsh : mA name = none) (hq : Q (.ref f, [.ref x]) ⟨h, g, d, t, os⟩) :
    wpAny (model prog w) A (getMethod (.ref x) name pl) Q E ⟨h, g, d, t, os⟩ := by
  obtain ⟨o, hx, hc, hnc, hd⟩ := I
  have hcan := canon_ga
  unfold getMethod specialOf
  repeat (first | (with_reducible refine wpAny_loadPart_at hx ?_; rw [hc]) | (with_reducible refine wpAny_typeLookup_exc hC hn mro_E lk_ga ?_; rw [hng]) | (with_reducible refine wpAny_typeLookup_exc hC hn mro_E lk_gattr ?_; rw [hnh]) | (with_reducible refine wpAny_typeLookup_exc hC hn mro_E hB ?_; rw [hf]) | (with_reducible refine wpAny_typeOf (T := "function") ⟨_, hfo, hfc⟩ ?_) | simp only [hcan, Bool.false_eq_true, if_false] | wp_step)
  rcases hd with ⟨hdn, _⟩ | ⟨dx, hdx, _, hns⟩
  · rw [hdn]
    repeat wp_step
    exact hq
  · rw [hdx]
    repeat (first | (with_reducible refine wpAny_nsGet hns.ns ?_; rw [hsh]) | wp_step)
    exact hq
theorem check_ga {M : Model} {nameV : Value} {o : Obj} {Q : Unit → Shared → Prop} (hC : h.get? C = some (excClassObj nm q C N bs bmE true sn sub ab col dd k0 k1 k2 k3 k5 newId))
    (hx : h.get? x = some o) (hc : o.cls = .ref C) (hq : Q () ⟨h, g, d, t, os⟩) : wpAny M A (checkBuiltinCall "BaseException.__getattribute__" ⟨[.ref x, nameV], []⟩) Q E ⟨h, g, d, t, os⟩ := by
  have hk : builtinKind "BaseException.__getattribute__" = some .slot := by decide +kernel
  have hsplit : splitId "BaseException.__getattribute__" = some ("BaseException", "__getattribute__") := by decide +kernel
  have hcB : (Value.ref C :: bmE).contains (.type "BaseException") = true := by rw [List.contains_cons]; exact Bool.or_true _
  have ha := F.args_bexc_ga (.ref x) nameV
  simp only [checkBuiltinCall, hk, hsplit]
  refine wpAny_bind ?_
  · unfold isInstance
    repeat (first | (with_reducible refine wpAny_loadPart_at hx ?_; rw [hc]) | (with_reducible refine wpAny_isSubtype_exc hC ?_; rw [hcB]) | wp_step)
    exact hq
theorem exc_get_entry {tk : Tok} {Q : Fin → Shared → Prop}
    (hC : h.get? C = some (excClassObj nm q C N bs bmE true sn sub ab col dd k0 k1 k2 k3 k5 newId)) (hn : h.Ns N mN) (hna : mN name = none)
    (hB : typeLookup (.type "Exception") name = pure none) (I : h.Inst x C mA) (hv : mA name = some v) (hq : Q (.done (.ret v)) ⟨h, g, d, t, os⟩) :
    wpAny (model prog w) A (Builtin.«object.__getattribute__» ⟨[.ref x, .str name tk], []⟩) Q E ⟨h, g, d, t, os⟩ := by
  obtain ⟨o, hx, hc, hnc, hd⟩ := I
  rcases hd with ⟨_, hmA⟩ | ⟨dx, hdx, hne, hns⟩
  · rw [hmA name] at hv; cases hv
  unfold Builtin.«object.__getattribute__»
  repeat (first | (with_reducible refine wpAny_loadPart_at hx ?_; rw [hc]) | (with_reducible refine wpAny_typeLookup_exc hC hn mro_E hB ?_; rw [hna]) | wp_step)
  split
  · rename_i c hcd
    exact absurd hcd (hnc c)
  unfold instanceDict
  repeat (first | (with_reducible refine wpAny_loadPart_at hx ?_; rw [hc]) | with_reducible refine wpAny_loadPart_at hC ?_ | wp_step)
  rw [hdx]
  repeat (first | (with_reducible refine wpAny_nsGet hns.ns ?_; rw [hv]) | wp_step)
  exact hq
theorem exc_get {expr : Bool} {Q : Value → Shared → Prop}
    (hC : h.get? C = some (excClassObj nm q C N bs bmE true sn sub ab col dd k0 k1 k2 k3 k5 newId)) (hn : h.Ns N mN) (hng : mN "__getattribute__" = none) (hnh : mN "__getattr__" = none) (hna : mN name = none)
    (hB : typeLookup (.type "Exception") name = pure none) (I : h.Inst x C mA) (hv : mA name = some v) (hh : handedOut v = pure v) (hq : Q v ⟨h, g, d, t + 1, os⟩) :
    wpAny (model prog w) A (getAttr (.ref x) name expr) Q E ⟨h, g, d, t, os⟩ := by
  obtain ⟨o, hx, hc, _⟩ := id I
  have f3 := F.attrBase_Exception.ga.bind (.ref x)
  have hx0 : (expr && onTheHeap (Value.builtin "BaseException.__getattribute__")) = false := by cases expr <;> rfl
  have hx2 : (Value.builtin "BaseException.__getattribute__" == Value.builtin "object.__getattribute__") = false := by decide +kernel
  have hx1 : (onTheHeap (Value.ref C) && Value.builtin "BaseException.__getattribute__" == Value.builtin "object.__getattribute__") = false := by rw [hx2]; rfl
  unfold getAttr getAttrBy
  repeat (any_goals (first | assumption | (with_reducible refine wpAny_loadPart_at hx ?_; rw [hc]) | (with_reducible refine wpAny_typeLookup_exc hC hn mro_E lk_ga ?_; rw [hng]) | (with_reducible refine wpAny_typeLookup_exc hC hn mro_E lk_gattr ?_; rw [hnh]) | wp_step))
  refine codeAny_call_builtin F.attrBase_Exception.ga.plain F.entry_bexc_ga (check_ga hC hx hc (exc_get_entry hC hn hna hB I hv ?_))
  repeat (any_goals (first | assumption | wp_step))
end
/-- an exception object with three facts of its own class: arguments, attributes' dict -/
noncomputable abbrev excO (C : Addr) (od : Option Addr) (vs : Array Value) : Obj := { cls := .ref C, dict := od, data := .fields vs }
noncomputable def NsO (oD : Obj) (mA : Str → Option Value) : Prop := ∀ (h : Heap) a, h.get? a = some oD → h.Ns1 a mA
section
variable {prog : Program} {w : World} {A : Around} {E : Value → Shared → Prop} {h : Heap} {g : Array GenState} {d : Drawn} {t : Nat} {os : OsState}
  {nm q : Str} {C N x : Addr} {bs : List Value} {sn : List Str} {sub : List Value} {ab : Bool} {col : Option Bool} {dd : Option Addr} {k0 k1 k2 k3 k5 : Option Value} {newId : String}
  {mN mA : Str → Option Value} {name : Str} {v : Value}
theorem nsO_of {a : Addr} (n : h.Ns1 a mA) : ∃ oD, h.get? a = some oD ∧ NsO oD mA := by
  obtain ⟨o, es, ep, e1, e2, e3, eu, e4⟩ := n
  exact ⟨o, e1, fun h' a' e => ⟨o, es, ep, e, e2, e3, eu, e4⟩⟩
theorem exc_store0 {tk : Tok} {vs : Array Value} {Q : Fin → Shared → Prop}
    (hC : h.get? C = some (excClassObj nm q C N bs bmE true sn sub ab col dd k0 k1 k2 k3 k5 newId)) (hn : h.Ns N mN) (hna : mN name = none)
    (hB : typeLookup (.type "Exception") name = pure none) (hx : h.get? x = some (excO C none vs))
    (hq : ∀ h' tk' oD, NsO oD (fun y => if y = name then some v else none) → h'.get? x = some (excO C (some h.objs.size) vs) → h'.get? h.objs.size = some oD →
      (∀ b o, b ≠ x → h.get? b = some o → h'.get? b = some o) → Q (.done (.ret .none)) ⟨h', g, d, tk', os⟩) :
    wpAny (model prog w) A (Builtin.«object.__setattr__» ⟨[.ref x, .str name tk, v], []⟩) Q E ⟨h, g, d, t, os⟩ := by
  have hpass := F.store_Exception.passes (.ref x)
  obtain ⟨o, ho⟩ : ∃ o, o = excO C none vs := ⟨_, rfl⟩
  have hc : o.cls = .ref C := by rw [ho]
  have hdn : o.dict = none := by rw [ho]
  have hnc : ∀ c, o.data ≠ .cls c := by rw [ho]; intro c q; cases q
  have ho2 : ({ cls := o.cls, dict := some h.objs.size, data := o.data, slots := o.slots } : Obj) = excO C (some h.objs.size) vs := by rw [ho]
  have hof : o.isFreed = false := by rw [ho]; rfl
  rw [← ho] at hx
  clear ho
  unfold Builtin.«object.__setattr__»
  repeat (first | rw [refuse_eq] | (rw [refuseLoop_ref, hpass]) | (with_reducible refine wpAny_loadPart_at hx ?_; rw [hc]) | with_reducible refine wpAny_mroOf_exc hC ?_ | (with_reducible refine wpAny_typeLookup_exc hC hn F.store_Exception.mro hB ?_; rw [hna]) | wp_step)
  rw [hdn, if_neg (by simp [typeHasDict])]
  split
  · rename_i hcd
    cases hcd
  split
  · rename_i c hcd
    exact absurd hcd (hnc c)
  have hx₁ : (h.push { cls := .type "dict", data := .dict #[] }).get? x = some o := Heap.get?_push_of_some _ hx
  have hxs : x ≠ h.objs.size := Nat.ne_of_lt (Heap.lt_size hx)
  refine wpAny_bind (wpAny_alloc' ?_)
  refine wpAny_bind (wpAny_update' hx₁ ?_)
  refine wpAny_pure ?_
  generalize hh1 : ((h.push { cls := .type "dict", data := .dict #[] }).update x fun o => { cls := o.cls, dict := some h.objs.size, data := o.data, slots := o.slots }) = h1
  have hgd : h1.get? h.objs.size = some { cls := .type "dict", data := .dict #[] } := by
    rw [← hh1]
    exact (Heap.get?_update_ne _ _ _ _ hxs.symm).trans (Heap.get?_push_at rfl rfl)
  have hgx : h1.get? x = some { cls := o.cls, dict := some h.objs.size, data := o.data, slots := o.slots } := by
    rw [← hh1]
    refine Heap.get?_update_self _ hx₁ ?_
    rw [ho2]; rfl
  have hgo : ∀ b ob, b ≠ x → h.get? b = some ob → h1.get? b = some ob := fun b ob hb e => by
    rw [← hh1]
    exact (Heap.get?_update_ne _ _ _ _ hb).trans (Heap.get?_push_of_some _ e)
  have hnd : h1.Ns h.objs.size (fun _ => none) := ⟨_, #[], _, hgd, rfl, fun e he => absurd he (by simp), fun _ => rfl⟩
  show wpAny _ _ (Builtin.ObjectAttr.storeInDict h.objs.size (.str name tk) name v) _ _ _
  unfold Builtin.ObjectAttr.storeInDict Builtin.ObjectAttr.newKeyGuard
  refine wpAny_bind (wpAny_pure (wpAny_bind (wpAny_nsSet1 (Heap.Ns1.of_empty hnd) fun h' hn' hs => ?_)))
  obtain ⟨oD, esD, epD, hoD, hdD, hcD⟩ := hn'.count (Within.cons name v Within.nil)
  refine wpAny_bind (wpAny_lookBehind hoD (by rw [hdD]; exact pastItsLine_dict (Nat.le_trans hcD (by rw [List.length_cons, List.length_nil, sizeLine_eq]; omega))) ?_)
  wp_walk
  obtain ⟨oD', e1, e2⟩ := nsO_of hn'
  refine hq h' _ oD' e2 ?_ e1 fun b ob hb e => ?_
  · rw [← ho2]; exact (hs.2 x hxs).trans hgx
  · exact (hs.2 b (Nat.ne_of_lt (Heap.lt_size e))).trans (hgo b ob hb e)
theorem exc_call0 {tk : Tok} {vs : Array Value} {sa owner : String} {R : Result → Shared → Prop} (SF : StoreFacts "Exception" bmE sa owner)
    (hC : h.get? C = some (excClassObj nm q C N bs bmE true sn sub ab col dd k0 k1 k2 k3 k5 newId)) (hn : h.Ns N mN) (hna : mN name = none)
    (hB : typeLookup (.type "Exception") name = pure none) (hx : h.get? x = some (excO C none vs))
    (hq : ∀ h' tk' oD, NsO oD (fun y => if y = name then some v else none) → h'.get? x = some (excO C (some h.objs.size) vs) → h'.get? h.objs.size = some oD →
      (∀ b o, b ≠ x → h.get? b = some o → h'.get? b = some o) → R (.ok (.ret .none)) ⟨h', g, d, tk', os⟩) :
    codeAny (model prog w) A (.call (.builtin sa) ⟨[.ref x, .str name tk, v], []⟩) R ⟨h, g, d, t, os⟩ :=
  codeAny_call_builtin SF.slot.plain SF.entry (wpAny_check_sa SF hC hx rfl (exc_store0 hC hn hna hB hx hq))
theorem exc_set0' {vs : Array Value} {sa owner : String} {Q : Unit → Shared → Prop} (SF : StoreFacts "Exception" bmE sa owner)
    (hC : h.get? C = some (excClassObj nm q C N bs bmE true sn sub ab col dd k0 k1 k2 k3 k5 newId)) (hn : h.Ns N mN) (hns : mN "__setattr__" = none) (hna : mN name = none)
    (hB : typeLookup (.type "Exception") name = pure none) (hx : h.get? x = some (excO C none vs))
    (hq : ∀ h' tk' oD, NsO oD (fun y => if y = name then some v else none) → h'.get? x = some (excO C (some h.objs.size) vs) → h'.get? h.objs.size = some oD →
      (∀ b o, b ≠ x → h.get? b = some o → h'.get? b = some o) → Q () ⟨h', g, d, tk', os⟩) :
    wpAny (model prog w) A (setAttr (.ref x) name v) Q E ⟨h, g, d, t, os⟩ := by
  have f3 := SF.slot.bind (.ref x)
  obtain ⟨o1, hx1, hc1⟩ : ∃ o, h.get? x = some o ∧ o.cls = .ref C := ⟨_, hx, rfl⟩
  unfold setAttr callSpecial? specialOf
  repeat (any_goals (first | assumption | (with_reducible refine wpAny_loadPart_at hx1 ?_; rw [hc1]) | (with_reducible refine wpAny_typeLookup_exc hC hn SF.mro SF.slot.lookup ?_; rw [hns]) | wp_step))
  refine exc_call0 SF hC hn hna hB hx fun h' tk' oD a1 a2 a3 a4 => ?_
  repeat (any_goals (first | assumption | wp_step))
  exact hq h' tk' oD a1 a2 a3 a4
theorem exc_set0 {vs : Array Value} {Q : Unit → Shared → Prop}
    (hC : h.get? C = some (excClassObj nm q C N bs bmE true sn sub ab col dd k0 k1 k2 k3 k5 newId)) (hn : h.Ns N mN) (hns : mN "__setattr__" = none) (hna : mN name = none)
    (hB : typeLookup (.type "Exception") name = pure none) (hx : h.get? x = some (excO C none vs))
    (hq : ∀ h' tk' oD, NsO oD (fun y => if y = name then some v else none) → h'.get? x = some (excO C (some h.objs.size) vs) → h'.get? h.objs.size = some oD →
      (∀ b o, b ≠ x → h.get? b = some o → h'.get? b = some o) → Q () ⟨h', g, d, tk', os⟩) :
    wpAny (model prog w) A (setAttr (.ref x) name v) Q E ⟨h, g, d, t, os⟩ :=
  exc_set0' F.store_Exception hC hn hns hna hB hx hq
end
section
variable {prog : Program} {w : World} {A : Around} {E : Value → Shared → Prop} {s : Shared} {h₀ : Heap} {L : Addr} {m : Str → Option Value} {led rest : List (Addr × Obj)}
  {C Nn x dx : Addr} {mN mA : Str → Option Value} {name : Str} {v : Value} {vs : Array Value} {oD : Obj} {K : Frag}
theorem nsq_of {h : Heap} {N : Addr} {mg : Str → Option Value} {n : Str} {v : Value} (X : K.In h) (G : h.Ns N mg) (e : nsIn K N n = some (some v)) : mg n = some v := by
  obtain ⟨o, es, ep, ho, hd, _, hf⟩ := G
  unfold nsIn at e
  split at e
  · rename_i q
    have z := X _ _ q
    rw [ho] at z
    cases z
    cases hd
    split at e
    · rename_i he
      cases e
      rw [← hf]
      unfold nsFind findBy
      rw [← Array.find?_toList, he]
      rfl
    · split at e <;> cases e
  · cases e
theorem nsIn_ns {h : Heap} {N : Addr} {es : Array DictEntry} {ep : Nat} {cl : Value} {dd : Option Addr} {sl : Array (Option Value)} (X : K.In h) (e : K.lookup N = some ⟨cl, dd, .dict es ep, sl⟩) (hs : (es.all fun e => match e.key with | .str _ _ => true | _ => false) = true) : h.Ns N (h.nsMap N) := by
  refine .of_isNs ?_
  unfold Heap.isNs
  rw [X _ _ e]
  exact hs
/-- the first attribute of an exception: its dict is made -/
theorem nag_set0 {Q : Unit → Shared → Prop} (F : Fr h₀ L s.heap m) (N : News h₀ L s.heap led) (NC : NagCls h₀ C Nn mN) (hna : mN name = none) (hB : typeLookup (.type "Exception") name = pure none) (hx : (x, excO C none vs) ∈ led)
    (hsub : ∀ p ∈ rest, p ∈ led ∧ p.1 ≠ x)
    (h : ∀ h' tk' oD dx, NsO oD (fun y => if y = name then some v else none) → dx ≠ x → (∀ p ∈ rest, p.1 ≠ dx) → Fr h₀ L h' m → News h₀ L h' ((x, excO C (some dx) vs) :: (dx, oD) :: rest) → Q () { s with heap := h', toks := tk' }) :
    wpAny (model prog w) A (setAttr (.ref x) name v) Q E s := by
  obtain ⟨⟨nm, q, bs, sn, sub, ab, col, dd, k0, k1, k2, k3, k5, hC⟩, hn, q1, q2, q3⟩ := NC.keeps F.keep
  obtain ⟨hx1, hx2, hx3⟩ := N _ hx
  have hlt : ∀ b o, s.heap.get? b = some o → b ≠ s.heap.objs.size := fun b o e => Nat.ne_of_lt (Heap.lt_size e)
  refine exc_set0 hC hn q3 hna hB hx1 fun h' tk' oD a1 a2 a3 a4 => ?_
  have k : ∀ b o, h₀.get? b = some o → h'.get? b = some o := fun b o e => a4 b o (fun z => by subst z; rw [hx3] at e; cases e) (F.keep b o e)
  have fr : h₀.get? s.heap.objs.size = none := Heap.get?_none_of_le (Nat.le_trans F.above (Nat.le_of_lt F.ns.lt))
  refine h h' tk' oD s.heap.objs.size a1 (hlt _ _ hx1).symm (fun p hp => hlt _ _ (N _ (hsub p hp).1).1) ⟨F.ns.at' fun o e => a4 _ o (fun z => hx2 z.symm) e, k, F.above⟩ fun p hp => ?_
  rcases List.mem_cons.mp hp with rfl | hp
  · exact ⟨a2, hx2, hx3⟩
  · rcases List.mem_cons.mp hp with rfl | hp
    · exact ⟨a3, (Nat.ne_of_lt F.ns.lt).symm, fr⟩
    · have z := N _ (hsub p hp).1
      exact ⟨a4 _ _ (hsub p hp).2 z.1, z.2⟩
theorem nag_set1 {Q : Unit → Shared → Prop} {ns : List Str} (F : Fr h₀ L s.heap m) (N : News h₀ L s.heap led) (NC : NagCls h₀ C Nn mN) (hna : mN name = none) (hB : typeLookup (.type "Exception") name = pure none) (hx : (x, excO C (some dx) vs) ∈ led) (hd : (dx, oD) ∈ led) (hdx : dx ≠ x) (hD : NsO oD mA) (hxC : x ≠ C)
    (hsub : ∀ p ∈ rest, p ∈ led ∧ p.1 ≠ x ∧ p.1 ≠ dx) (hw : Within mA ns) (hsz : ns.length ≤ sizeLine)
    (h : ∀ h' tk' oD', NsO oD' (fun y => if y = name then some v else mA y) → Fr h₀ L h' m → News h₀ L h' ((x, excO C (some dx) vs) :: (dx, oD') :: rest) → Q () { s with heap := h', toks := tk' }) :
    wpAny (model prog w) A (setAttr (.ref x) name v) Q E s := by
  obtain ⟨⟨nm, q, bs, sn, sub, ab, col, dd, k0, k1, k2, k3, k5, hC⟩, hn, q1, q2, q3⟩ := NC.keeps F.keep
  obtain ⟨hx1, hx2, hx3⟩ := N _ hx
  obtain ⟨hd1, hd2, hd3⟩ := N _ hd
  have I : s.heap.Inst x C mA := ⟨_, hx1, rfl, fun c q => (by cases q), .inr ⟨dx, rfl, hdx, hD _ _ hd1⟩⟩
  refine store_attr PySem.F.store_Exception hC hn q3 hna hB hxC I (fun h' tk' I' a4 a5 => ?_) hw hsz
  obtain ⟨o₁, e1, e2, e3, e4, e5⟩ := a5 _ hx1
  have ex : o₁ = excO C (some dx) vs := by
    obtain ⟨b1, b2, b3, b4⟩ := o₁
    simp only at e2 e3 e4
    have := e5 dx rfl
    simp only at this
    subst e2 e3 e4 this
    rfl
  subst ex
  obtain ⟨o', f1, _, _, f2⟩ := I'
  rw [e1] at f1
  cases f1
  rcases f2 with ⟨f2, _⟩ | ⟨d', f2, _, f3⟩
  · cases f2
  cases f2
  obtain ⟨oD', g1, g2⟩ := nsO_of f3
  have a6 : ∀ b o, b ≠ x → b ≠ dx → s.heap.get? b = some o → h'.get? b = some o := fun b o n1 n2 e => a4 b o n1 (fun o₀ dx' z1 z2 => by rw [hx1] at z1; cases z1; cases z2; exact n2) e
  refine h h' tk' oD' g2 ⟨F.ns.at' fun o e => a6 _ o (fun z => hx2 z.symm) (fun z => hd2 z.symm) e, fun b o e => a6 b o (fun z => by subst z; rw [hx3] at e; cases e) (fun z => by subst z; rw [hd3] at e; cases e) (F.keep b o e), F.above⟩ fun p hp => ?_
  rcases List.mem_cons.mp hp with rfl | hp
  · exact ⟨e1, hx2, hx3⟩
  · rcases List.mem_cons.mp hp with rfl | hp
    · exact ⟨g1, hd2, hd3⟩
    · have z := N _ (hsub p hp).1
      exact ⟨a6 _ _ (hsub p hp).2.1 (hsub p hp).2.2 z.1, z.2⟩
theorem nag_get {expr : Bool} {Q : Value → Shared → Prop} (F : Fr h₀ L s.heap m) (N : News h₀ L s.heap led) (NC : NagCls h₀ C Nn mN) (hna : mN name = none) (hB : typeLookup (.type "Exception") name = pure none) (hx : (x, excO C (some dx) vs) ∈ led) (hd : (dx, oD) ∈ led) (hdx : dx ≠ x) (hD : NsO oD mA)
    (hv : mA name = some v) (hh : handedIn v = true) (h : Q v { s with toks := s.toks + 1 }) : wpAny (model prog w) A (getAttr (.ref x) name expr) Q E s := by
  obtain ⟨⟨nm, q, bs, sn, sub, ab, col, dd, k0, k1, k2, k3, k5, hC⟩, hn, q1, q2, q3⟩ := NC.keeps F.keep
  exact exc_get hC hn q1 q2 hna hB ⟨_, (N _ hx).1, rfl, fun c q => (by cases q), .inr ⟨dx, rfl, hdx, hD _ _ (N _ hd).1⟩⟩ hv (handedOut_of hh) h
theorem nag_method {pl : Sem Bool} {f : Addr} {of : Obj} {y : Option Value} {Q : Value × List Value → Shared → Prop} (F : Fr h₀ L s.heap m) (N : News h₀ L s.heap led) (NC : NagCls h₀ C Nn mN) (hf : mN name = some (.ref f)) (hfo : h₀.get? f = some of) (hfc : of.cls = .type "function") (hB : typeLookup (.type "Exception") name = pure y) (hx : (x, excO C (some dx) vs) ∈ led) (hd : (dx, oD) ∈ led) (hdx : dx ≠ x) (hD : NsO oD mA)
    (hv : mA name = none) (h : Q (.ref f, [.ref x]) s) : wpAny (model prog w) A (getMethod (.ref x) name pl) Q E s := by
  obtain ⟨⟨nm, q, bs, sn, sub, ab, col, dd, k0, k1, k2, k3, k5, hC⟩, hn, q1, q2, q3⟩ := NC.keeps F.keep
  exact exc_method_of hC hn q1 q2 hf (F.keep _ _ hfo) hfc hB ⟨_, (N _ hx).1, rfl, fun c q => (by cases q), .inr ⟨dx, rfl, hdx, hD _ _ (N _ hd).1⟩⟩ hv h
end
end Mine
namespace Mine
section
variable {prog : Program} {w : World} {A : Around} {E : Value → Shared → Prop} {s : Shared} {h₀ : Heap} {L l : Addr} {m : Str → Option Value} {led news rest : List (Addr × Obj)} {vs : List Value} {n : Nat} {x : Value} {value slice : Expr} {k : Int} {u : Tok} {Q : Value → Shared → Prop}
/-- an item of a list on the ledger -/
theorem item_at (N : News h₀ L s.heap led) (hm : (l, listOf vs.toArray n) ∈ led) (h0 : 0 ≤ k) (hf : k < 2 ^ 62) (hx : vs[k.toNat]? = some x) (h : Q x s)
    (hs : subscripted slice false (.ref l) (.int k u) = operate [.ref l, .int k u] (getItem (.ref l) (.int k u)) := by with_unfolding_all rfl) (hg : ∀ r, letTemporaryGo value (.ref l) r = pure () := by intro _; with_unfolding_all rfl) :
    wpAny (model prog w) A (subscriptTail value slice (.ref l) (.int k u)) Q E s :=
  item_list (lst_of N hm) h0 (by omega) (by simpa using hx) h hs hg
/-- the last item of a list on the ledger -/
theorem item_end (N : News h₀ L s.heap led) (hm : (l, listOf (vs ++ [x]).toArray n) ∈ led) (hsz : vs.length < 2 ^ 60) (h : Q x s)
    (hs : subscripted slice false (.ref l) (.int (-1) u) = operate [.ref l, .int (-1) u] (getItem (.ref l) (.int (-1) u)) := by with_unfolding_all rfl) (hg : ∀ r, letTemporaryGo value (.ref l) r = pure () := by intro _; with_unfolding_all rfl) :
    wpAny (model prog w) A (subscriptTail value slice (.ref l) (.int (-1) u)) Q E s := by
  have hl := lst_of N hm
  refine subscriptTail_builtin hl.typeIs slot_list_getitem.lookup (wpAny_getItem_list_neg hl (by decide) (by simp; omega) (by decide) ?_ h) hs hg
  have e : ((-1 : Int) + ((vs ++ [x]).toArray.size : Int)).toNat = vs.length := by simp; omega
  rw [e]
  simp
/-- pop of the last item -/
theorem pop_end {news' : List (Addr × Obj)} (F : Fr h₀ L s.heap m) (N : News h₀ L s.heap news) (U : Upd l (listOf (vs ++ [x]).toArray n) (listOf vs.toArray (n + 1)) news news') (hsz : vs.length < 1000)
    (h : ∀ h', Fr h₀ L h' m → News h₀ L h' news' → Q x { s with heap := h' }) : wpAny (model prog w) A (call (.builtin "list.pop") [.ref l]) Q E s :=
  kl_pop F N (p := vs) (y := x) (kpa_last x vs) U (by simp [sizeLine_eq]; omega) h
theorem append_end {news' : List (Addr × Obj)} (F : Fr h₀ L s.heap m) (N : News h₀ L s.heap news) (U : Upd l (listOf vs.toArray n) (listOf (vs ++ [x]).toArray (n + 1)) news news') (hsz : vs.length < 1000)
    (h : ∀ h', Fr h₀ L h' m → News h₀ L h' news' → Q .none { s with heap := h' }) : wpAny (model prog w) A (call (.builtin "list.append") [.ref l, x]) Q E s :=
  append_K (its := vs.toArray) F N (by rw [List.push_toArray]; exact U) h (by simp [sizeLine_eq]; omega)
end
end Mine
namespace Mine
/-- the table of inner codes of the def that holds the one generator expression: before its first run, and behind it -/
noncomputable def FmtTab (pos : Pos) (ps : Array Value) : Prop := ps = #[] ∨ ∃ c', ps = #[rawInt pos.line, rawInt pos.col, .ref c']
section
variable {M : Model} {A : Around} {E : Value → Shared → Prop} {s : Shared}
theorem genCode_any {env : Env} {c P : Addr} {ps : Array Value} {pos : Pos} {qualname : Str} {scope : Scope} {Q : Value → Shared → Prop} (hc : env.code = .ref c) (hok : s.heap.IsCode c P ps) (htab : s.heap.TableAt c P ps) (hps : FmtTab pos ps)
    (hQ : ∀ code h' tk ps', FmtTab pos ps' → Heap.ExtBut P s.heap h' → s.heap.objs.size ≤ h'.objs.size → h'.TableAt c P ps' → Q code { s with heap := h', toks := tk }) :
    wpAny M A (genexprCode env pos qualname scope) Q E s := by
  rcases hps with rfl | ⟨c', rfl⟩
  · exact wpAny_genexprCodeX hc hok htab rfl fun c' h' tk hx h1 h2 _ _ ht _ => hQ _ _ _ _ (.inr ⟨c', rfl⟩) hx (Nat.le_trans h1 (Nat.le_of_lt h2)) ht
  · obtain ⟨o, vs, file, tf, flags, tg, inF, text, tt, op, ho, hd, h11, h2, h7, h9, h10, hop, hpd, htr, hne⟩ := id hok
    unfold genexprCode codeAt
    rw [hc, if_neg (show ¬ ((Value.ref c == Value.none) = true) from Bool.false_ne_true)]
    refine wpAny_bind (wpAny_fieldsOf ho hd ?_)
    rw [h11]
    refine wpAny_bind (wpAny_fieldsOf hop hpd ?_)
    have e : codeAmong pos (#[rawInt pos.line, rawInt pos.col, Value.ref c'] : Array Value).toList = some (.ref c') := by simp [codeAmong, rawInt]
    rw [e]
    exact wpAny_pure (hQ _ _ _ _ (.inr ⟨c', rfl⟩) (fun _ _ _ e => e) (Nat.le_refl _) htab)
end
section
variable {prog : Program} {w : World} {A : Around} {E : Value → Shared → Prop} {s : Shared}
noncomputable abbrev strOf (i : Int) : Str := Str.ofString (toString i)
/-- str(tup[0]) in a generator's frame -/
theorem elt_str {scope : Scope} {cl : List (Str × Addr)} {C ta : Addr} {code : Value} {env : Env} {p1 p2 p3 p4 p5 : Pos} {m₂ mg mb : Str → Option Value} {k : Int} {tk : Tok} {rest : List Value} {kk : Nat}
    (hn : s.heap.Ns C m₂) (hm : m₂ "tup" = some (.ref ta)) (ht : IsTup s.heap ta (.int k tk :: rest).toArray) (hk : -1000 ≤ k ∧ k ≤ 1000)
    (hG : s.heap.Ns env.globals mg) (hg0 : mg "str" = none) (hB : s.heap.Ns builtinsNs mb) (hb : mb "str" = some (.type "str"))
    (hkind : scope.kind = .function) (hx1 : scope.names.lookup (Str.ofString "str") = some NameKind.globalImplicit) (hx2 : scope.names.lookup (Str.ofString "tup") = some NameKind.local) :
    wpAny (model prog w) A (eval (.Call (.Name "str" p1) [.Subscript (.Name "tup" p2) (.Constant (.int 0) kk p3) p4] [] p5) (genEnv scope cl C code builtinsNs env)) (fun y s₃ => (∃ t, y = .str (strOf k) t) ∧ Keeps s s₃) E s := by
  have hv1 : (genEnv scope cl C code builtinsNs env).kindOf "str" = some .globalImplicit := hx1
  have hv2 : (genEnv scope cl C code builtinsNs env).kindOf "tup" = some .local := hx2
  walk1
  refine Name_function_global hkind hv1 (loadGlobal_builtin (env := genEnv scope cl C code builtinsNs env) hG hg0 hB hb ?_)
  walk1
  walk1
  walk1
  refine wpAny_Name (wpAny_loadName_local hkind hv2 hn hm ?_)
  walk1
  refine item_tupleT ht (by decide) (by decide) (j := 0) (by simp [seqIndex?]) rfl ?_
  walk1
  refine P.str_of_int (shown (N := 2 ^ 1920) (by omega) (by omega) (Int.le_refl _)) ?_
  exact ⟨⟨_, rfl⟩, _, _, rfl, fun _ _ e => e⟩
inductive TupKs (news : List (Addr × Obj)) : List Value → List Int → Prop
  | nil : TupKs news [] []
  | cons {ta : Addr} {k : Int} {tk : Tok} {rest vs : List Value} {ks : List Int} {e : Nat} : (ta, tupO (.int k tk :: rest) e) ∈ news → TupKs news vs ks → TupKs news (.ref ta :: vs) (k :: ks)
theorem TupKs.length {news : List (Addr × Obj)} : ∀ {vs : List Value} {ks : List Int}, TupKs news vs ks → vs.length = ks.length
  | _, _, .nil => rfl
  | _, _, .cons _ r => by rw [List.length_cons, List.length_cons, r.length]
theorem TupKs.get {news : List (Addr × Obj)} : ∀ {vs : List Value} {ks : List Int}, TupKs news vs ks → ∀ i v, vs[i]? = some v → ∃ ta k tk rest e, v = .ref ta ∧ (ta, tupO (.int k tk :: rest) e) ∈ news ∧ ks.getD i 0 = k ∧ k ∈ ks
  | _, _, .nil, i, v, h => by simp at h
  | _, _, .cons (ta := ta) (k := k) (tk := tk) (rest := rest) (e := e) hm r, 0, v, h => by
    simp at h
    exact ⟨ta, k, tk, rest, e, h.symm, hm, by simp, .head _⟩
  | _, _, .cons hm r, i + 1, v, h => by
    obtain ⟨ta, k, tk, rest, e, h1, h2, h3, h4⟩ := r.get i v (by simpa using h)
    exact ⟨ta, k, tk, rest, e, h1, h2, by simpa using h3, .tail _ h4⟩
noncomputable def refsOf (vs : List Value) : List Addr := vs.filterMap fun v => match v with | .ref a => some a | _ => none
theorem mem_refs {a : Addr} {vs : List Value} (h : Value.ref a ∈ vs) : a ∈ refsOf vs := List.mem_filterMap.mpr ⟨_, h, rfl⟩
theorem refs_mem {a : Addr} {vs : List Value} (h : a ∈ refsOf vs) : Value.ref a ∈ vs := by
  obtain ⟨v, hv, e⟩ := List.mem_filterMap.mp h
  cases v <;> first | (cases e; exact hv) | cases e
/-- a generator of texts that stands unrun: it runs whatever has been laid beside it since -/
noncomputable def GenIn (prog : Program) (w : World) (A : Around) (h₀ : Heap) (L a : Addr) (ks : List Int) (ledX led : List (Addr × Obj)) (s : Shared) : Prop :=
  ∃ fp wr g St n P, WalksS prog w A.in4 a fp wr (GenOnlyQ g) n P St ∧ n = ks.length ∧ (∀ j v, P j v → ∃ t, v = .str (strOf (ks.getD j 0)) t) ∧ (∀ i s', St i s' → s'.TypeIs (.ref a) "generator") ∧ a ∈ fp ∧ (∀ b ∈ wr, L < b) ∧ (∀ b ∈ wr, ∀ p ∈ led, p.1 ≠ b) ∧
    ∀ h'' m'' tk'', Fr h₀ L h'' m'' → News h₀ L h'' ledX → St 0 { s with heap := h'', toks := tk'' } ∧ ∀ b ∈ fp, b < h''.objs.size
theorem lt_of_news {h₀ h : Heap} {L : Addr} {led : List (Addr × Obj)} (N : News h₀ L h led) {p : Addr × Obj} (hp : p ∈ led) : p.1 < h.objs.size := Heap.lt_size (N p hp).1
set_option maxHeartbeats 1000000 in
theorem genexp_fmt {env : Env} {scope : Scope} {p1 p2 p3 p4 p5 px pw pos : Pos} {kk : Nat} {h₀ : Heap} {L c P l bm : Addr} {ob : Obj} {m mg mb : Str → Option Value} {ps : Array Value} {news : List (Addr × Obj)} {vs : List Value} {ks : List Int} {nn : Nat} {wn : Str} {Q : Value → Shared → Prop}
    (F : Fr h₀ L s.heap m) (N : News h₀ L s.heap ((P, tabObj ps) :: news)) (hoff : ∀ p ∈ news, p.1 ≠ P) (C : CodeHd h₀ c P) (BM : BMod h₀ env.globals mg bm ob) (hB : h₀.Ns builtinsNs mb) (hlim : h₀.NoLimit)
    (hg0 : mg (Str.ofString "str") = none) (hb : mb (Str.ofString "str") = some (.type "str")) (hloc : env.locals = L) (hcode : env.code = .ref c)
    (hw : m wn = some (.ref l)) (hl : (l, listOf vs.toArray nn) ∈ news) (hD : TupKs news vs ks) (hks : ∀ k ∈ ks, -1000 ≤ k ∧ k ≤ 1000) (hps : FmtTab pos ps) (hG : AllBare s.gens) (hroom : A.depth < recursionLimit) (hh : A.handled = none)
    (hek : env.scope.kind = .function) (hew : env.kindOf wn = some .local) (hdn : (wn == ("__debug__" : Str)) = false)
    (hco : scope.isCoroutine = false) (hclos : closureFor scope env = pure []) (hcell : ∀ y ∈ scope.names, y.2 ≠ .cell) (h0 : scope.names.lookup (".0" : Str) = some NameKind.local) (hkind : scope.kind = .function)
    (hx1 : scope.names.lookup (Str.ofString "str") = some NameKind.globalImplicit) (hx2 : scope.names.lookup (Str.ofString "tup") = some NameKind.local)
    (h : ∀ a h' g' tk' ps' ledX, FmtTab pos ps' → AllBare g' → Fr h₀ L h' m → News h₀ L h' ((P, tabObj ps') :: ledX) → (∀ p ∈ news, p ∈ ledX) → (∀ p ∈ ledX, p.1 ≠ P) →
      GenIn prog w A h₀ L a ks ((P, tabObj ps') :: ledX) ((P, tabObj ps') :: news) { s with heap := h', gens := g', toks := tk' } → Q (.ref a) { s with heap := h', gens := g', toks := tk' })
    (hs : ∀ x, genFold (.Name wn pw) env x = pure x) :
    wpAny (model prog w) A (eval (.GeneratorExp (.Call (.Name (Str.ofString "str") p1) [.Subscript (.Name (Str.ofString "tup") p2) (.Constant (.int 0) kk p3) p4] [] p5) [⟨.Name (Str.ofString "tup") px, .Name wn pw, [], 0⟩] scope pos) env) Q E s := by
  have hP := N _ (.head _)
  have hPL : P ≠ L := hP.2.1
  have hTri : TriplesOk ps.toList := by
    rcases hps with rfl | ⟨c', rfl⟩
    · trivial
    · simp [TriplesOk, rawInt]
  have hTab : s.heap.TableAt c P ps := (C.keeps F.keep).tab hP.1
  have hCode : s.heap.IsCode c P ps := (C.keeps F.keep).code hP.1 hTri
  have hls : s.heap.IsList l vs.toArray := lst_of N (.tail _ hl)
  have hlt : l < s.heap.objs.size := lt_of_news N (.tail _ hl)
  have BMs := BM.keeps F.keep
  have hLlt : L < s.heap.objs.size := F.ns.lt
  have hPlt : P < s.heap.objs.size := lt_of_news N (.head _)
  refine wpAny_GeneratorExp_make hco hclos hcell h0 hkind hroom ?_ hs
  refine wpAny_Name (wpAny_loadName_local hek hew (hloc ▸ F.ns) hw ?_) hdn
  refine wpAny_pyIter_list hls ⟨(hlim.keeps F.keep).push _, genCode_any hcode (hCode.push _) (hTab.push _) hps fun code h₃ tk₃ ps' hps' hx hsz htab' => ?_⟩
  dsimp only at hx hsz
  rw [Heap.size_push] at hsz
  have k3 : ∀ b o, b ≠ P → s.heap.get? b = some o → h₃.get? b = some o := fun b o hb e => hx b o hb (Heap.get?_push_of_some _ e)
  have kI : h₃.get? s.heap.objs.size = some { cls := .type "list_iterator", data := .fields #[.ref l, .int 0 0] } := hx _ _ (Nat.ne_of_gt hPlt) (Heap.get?_push_size _ rfl)
  have nP : ∀ b o, h₀.get? b = some o → b ≠ P := fun b o e q => by rw [q, hP.2.2] at e; cases e
  have BM3 : BMod h₃ env.globals mg bm ob := BM.keeps fun b o e => k3 b o (nP b o e) (F.keep b o e)
  have hB3 : h₃.Ns builtinsNs mb := hB.keeps fun b o e => k3 b o (nP b o e) (F.keep b o e)
  refine wpAny_builtinsFor BM3.ns BM3.name BM3.ne BM3.obj BM3.cls BM3.dict BM3.data ?_
  intro h' hn' hs'
  dsimp only at hn' hs' ⊢
  have hsz' : h'.objs.size = h₃.objs.size + 1 := by rw [hs'.1, Heap.size_push]
  have k4 : ∀ b o, h₃.get? b = some o → h'.get? b = some o := fun b o e => hs'.extBut b o (Nat.ne_of_lt (Heap.lt_size e)) (Heap.get?_push_of_some _ e)
  generalize hgo : ({ cls := .type "generator", data := .fields #[.int s.gens.size 0, .str "<genexpr>" (tk₃ + 1), .str (env.qual ++ "<genexpr>") (tk₃ + 1 + 1)] } : Obj) = go
  have k5 : ∀ b o, h₃.get? b = some o → (h'.push go).get? b = some o := fun b o e => Heap.get?_push_of_some _ (k4 b o e)
  have kall : ∀ b o, b ≠ P → s.heap.get? b = some o → (h'.push go).get? b = some o := fun b o hb e => k5 b o (k3 b o hb e)
  have Ff : Fr h₀ L (h'.push go) m := ⟨F.ns.at' fun o e => kall L o (Ne.symm hPL) e, fun b o e => kall b o (nP b o e) (F.keep b o e), F.above⟩
  have fresh : ∀ b, L < b → h₀.get? b = none := fun b hb => Heap.get?_none_of_le (Nat.le_trans F.above (Nat.le_of_lt hb))
  obtain ⟨oC, esC, epC, hoC, hdC, hCr⟩ := id hn'
  have gget : (h'.push go).get? h'.objs.size = some go := Heap.get?_push_size _ (by rw [← hgo]; rfl)
  have sI : s.heap.objs.size < h₃.objs.size := Heap.lt_size kI
  have n1 : L < h₃.objs.size := Nat.lt_trans hLlt sI
  have n2 : L < h'.objs.size := by rw [hsz']; exact Nat.lt_succ_of_lt n1
  let X : List (Addr × Obj) := [(h'.objs.size, go), (h₃.objs.size, oC), (s.heap.objs.size, { cls := .type "list_iterator", data := .fields #[.ref l, .int 0 0] })]
  have NX : News h₀ L (h'.push go) ((P, tabObj ps') :: (X ++ news)) := by
    intro p hp
    rcases List.mem_cons.mp hp with rfl | hp
    · exact ⟨k5 _ _ htab'.2, hP.2⟩
    · rcases List.mem_append.mp hp with hp | hp
      · rcases List.mem_cons.mp hp with rfl | hp
        · exact ⟨gget, Nat.ne_of_gt n2, fresh _ n2⟩
        · rcases List.mem_cons.mp hp with rfl | hp
          · exact ⟨Heap.get?_push_of_some _ hoC, Nat.ne_of_gt n1, fresh _ n1⟩
          · rw [List.mem_singleton.mp hp]
            exact ⟨k5 _ _ kI, Nat.ne_of_gt hLlt, fresh _ hLlt⟩
      · have q := N p (.tail _ hp)
        exact ⟨kall _ _ (hoff p hp) q.1, q.2⟩
  let fq : List Addr := [s.heap.objs.size, l, cStatics, env.globals, builtinsNs] ++ refsOf vs
  have hfq : ∀ b ∈ fq, b = s.heap.objs.size ∨ (∃ o, (b, o) ∈ news) ∨ ∃ o, h₀.get? b = some o := by
    intro b hb
    rcases List.mem_append.mp hb with hb | hb
    · rcases List.mem_cons.mp hb with rfl | hb
      · exact .inl rfl
      · rcases List.mem_cons.mp hb with rfl | hb
        · exact .inr (.inl ⟨_, hl⟩)
        · rcases List.mem_cons.mp hb with rfl | hb
          · obtain ⟨_, ⟨o, _, _, ho, _⟩, _⟩ := hlim; exact .inr (.inr ⟨o, ho⟩)
          · rcases List.mem_cons.mp hb with rfl | hb
            · obtain ⟨o, _, _, ho, _⟩ := BM.ns; exact .inr (.inr ⟨o, ho⟩)
            · rw [List.mem_singleton.mp hb]
              obtain ⟨o, _, _, ho, _⟩ := hB; exact .inr (.inr ⟨o, ho⟩)
    · obtain ⟨i, hi, he⟩ := List.getElem_of_mem (refs_mem hb)
      obtain ⟨ta, k, tk, rest, e, h1, h2, _⟩ := hD.get i _ (List.getElem?_eq_getElem hi)
      rw [he] at h1
      cases h1
      exact .inr (.inl ⟨_, h2⟩)
  have hfs : ∀ b ∈ fq, b = s.heap.objs.size ∨ b < s.heap.objs.size := by
    intro b hb
    rcases hfq b hb with q | ⟨o, ho⟩ | ⟨o, ho⟩
    · exact .inl q
    · exact .inr (lt_of_news N (.tail _ ho))
    · exact .inr (Heap.lt_size (F.keep b o ho))
  have hfl : ∀ b ∈ fq, b < h₃.objs.size := by
    intro b hb
    rcases hfs b hb with rfl | q
    · exact sI
    · exact Nat.lt_trans q sI
  have hW : ∀ A' : Around, A'.handled = none → Walks prog w A' s.heap.objs.size fq [s.heap.objs.size] vs.length (fun i v => vs[i]? = some v) (fun i h => h.IsListIter s.heap.objs.size l i ∧ h.IsList l vs.toArray) := fun A' hA => by
    have W := (Walks.list (prog := prog) (w := w) hA s.heap.objs.size l (Nat.ne_of_lt hlt) vs.toArray).mono_fp (fp' := fq) fun b hb => by
      rcases List.mem_cons.mp hb with rfl | hb
      · exact .head _
      · rw [List.mem_singleton.mp hb]; exact .tail _ (.head _)
    simpa using W
  have nI : ∀ b ∈ fq, b ≠ s.heap.objs.size → b ∉ [s.heap.objs.size] := fun b _ hb q => hb (List.mem_singleton.mp q)
  have hq : QuietGen prog w (genEnv scope [] h₃.objs.size code builtinsNs env) (Str.ofString "tup") [] (.Call (.Name (Str.ofString "str") p1) [.Subscript (.Name (Str.ofString "tup") p2) (.Constant (.int 0) kk p3) p4] [] p5) fq [s.heap.objs.size]
      (fun i v => vs[i]? = some v) (fun _ => true) (fun i y => ∃ t, y = .str (strOf (ks.getD i 0)) t) (h'.push go) := by
    refine ⟨fun A' E' i v s₂ m₂ _ _ _ _ _ => wpAny_pure ⟨rfl, _, _, rfl, fun _ _ e => e⟩, fun A' E' i v s₂ m₂ hA hv _ hn₂ hm₂ hkp => ?_⟩
    obtain ⟨ta, k, tk, rest, e, rfl, hmt, hk1, hk2⟩ := hD.get i v hv
    have atH₀ : ∀ b ∈ fq, b < s.heap.objs.size → ∀ o, (h'.push go).get? b = some o → s₂.heap.get? b = some o := fun b hb hlt' o e => hkp b hb (nI b hb (Nat.ne_of_lt hlt')) o e
    have hta : (h'.push go).get? ta = some (tupO (.int k tk :: rest) e) := (NX _ (.tail _ (List.mem_append.mpr (.inr hmt)))).1
    have mta : ta ∈ fq := List.mem_append.mpr (.inr (mem_refs (List.mem_of_getElem? hv)))
    have h2 := atH₀ ta mta (lt_of_news N (.tail _ hmt)) _ hta
    have hGf : (h'.push go).Ns env.globals mg := BM.ns.keeps Ff.keep
    have hBf : (h'.push go).Ns builtinsNs mb := hB.keeps Ff.keep
    have mG : env.globals ∈ fq := .tail _ (.tail _ (.tail _ (.head _)))
    have mB : builtinsNs ∈ fq := .tail _ (.tail _ (.tail _ (.tail _ (.head _))))
    have lG : env.globals < s.heap.objs.size := (BM.ns.keeps F.keep).lt
    have lB : builtinsNs < s.heap.objs.size := (hB.keeps F.keep).lt
    have R := elt_str (A := A') (E := E') (prog := prog) (w := w) (scope := scope) (cl := []) (code := code) (env := env) (p1 := p1) (p2 := p2) (p3 := p3) (p4 := p4) (p5 := p5) (kk := kk) hn₂ hm₂ ⟨_, h2, rfl, e, rfl⟩ (hks k hk2) (hGf.at' fun o e => atH₀ _ mG lG o e) hg0 (hBf.at' fun o e => atH₀ _ mB lB o e) hb hkind hx1 hx2
    rw [hk1]
    exact R
  have hgen : (h'.push go).IsGen h'.objs.size s.gens.size := ⟨go, _, _, gget, by rw [← hgo], by rw [← hgo], by rw [← hgo]⟩
  have hlimf : (h'.push go).NoLimit := hlim.keeps Ff.keep
  have hnf : (h'.push go).Ns h₃.objs.size (fun y => if y = ".0" then some (.ref s.heap.objs.size) else none) := hn'.push go
  have hCfq : h₃.objs.size ∉ fq := fun hm => Nat.lt_irrefl _ (hfl _ hm)
  have hst : (h'.push go).IsListIter s.heap.objs.size l 0 ∧ (h'.push go).IsList l vs.toArray := ⟨⟨_, k5 _ _ kI, rfl, rfl⟩, _, (NX _ (.tail _ (List.mem_append.mpr (.inr hl)))).1, rfl, nn, rfl⟩
  have GA := GenAt.fresh (prog := prog) (w := w) (A := A.in4) (cenv := genEnv scope [] h₃.objs.size code builtinsNs env) (a := h'.objs.size) (g := s.gens.size) (iter := .Name wn pw) (px := px) (pos := pos) (s := { s with gens := s.gens.push (.fresh (.compStart (.GeneratorExp (.Call (.Name (Str.ofString "str") p1) [.Subscript (.Name (Str.ofString "tup") p2) (.Constant (.int 0) kk p3) p4] [] p5) [⟨.Name (Str.ofString "tup") px, .Name wn pw, [], 0⟩] scope pos) 0 (.ref s.heap.objs.size) .none (genEnv scope [] h₃.objs.size code builtinsNs env))), toks := tk₃ + 1 + 1 + 1, heap := h'.push go })
    hh (fun A' hA => hW A' hA) (fun _ => true) (fun i y => ∃ t, y = .str (strOf (ks.getD i 0)) t) hx2 (by simp [genEnv, hkind]) hco hCfq hq hgen (Array.getElem?_push_size ..) hst hnf hlimf
  have haC : h'.objs.size ≠ h₃.objs.size := by rw [hsz']; exact Nat.succ_ne_self _
  have haf : h'.objs.size ∉ fq := fun hm => Nat.lt_irrefl _ (Nat.lt_trans (hfl _ hm) (by rw [hsz']; exact Nat.lt_succ_self _))
  have hcs : cStatics ∈ fq := .tail _ (.tail _ (.head _))
  have hclt : cStatics < s.heap.objs.size := by obtain ⟨_, hn, _⟩ := hlim; exact (hn.keeps F.keep).lt
  have WS := WalksS.genexpQ (prog := prog) (w := w) (A := A.in4) hh h'.objs.size s.gens.size h₃.objs.size fq [s.heap.objs.size] (fun _ => true) vs.length (fun i y => ∃ t, y = .str (strOf (ks.getD i 0)) t) haC haf
    (fun b hb => by rw [List.mem_singleton.mp hb]; exact .head _) hroom hcs (Nat.ne_of_lt (Nat.lt_trans hclt sI)) (fun q => Nat.ne_of_lt hclt (List.mem_singleton.mp q))
  refine h h'.objs.size _ _ _ ps' (X ++ news) hps' (hG.push rfl) Ff NX (fun p hp => List.mem_append.mpr (.inr hp)) ?_ ?_
  · intro p hp
    rcases List.mem_append.mp hp with hp | hp
    · rcases List.mem_cons.mp hp with rfl | hp
      · exact Nat.ne_of_gt (Nat.lt_trans hPlt (Nat.lt_trans sI (by rw [hsz']; exact Nat.lt_succ_self _)))
      · rcases List.mem_cons.mp hp with rfl | hp
        · exact Nat.ne_of_gt (Nat.lt_trans hPlt sI)
        · rw [List.mem_singleton.mp hp]; exact Nat.ne_of_gt hPlt
    · exact hoff p hp
  · have hpass : passing (fun _ => true) vs.length 0 = List.range vs.length := by simp [passing]
    refine ⟨_, _, _, _, _, _, WS, ?_, ?_, fun i s' st => st.1.typeIs, .head _, ?_, ?_, ?_⟩
    · rw [hpass, List.length_range, hD.length]
    · rintro j v ⟨i, hi, hF⟩
      rw [hpass] at hi
      have : i = j := by
        obtain ⟨q1, q2⟩ := List.getElem?_eq_some_iff.mp hi
        simpa using q2.symm
      rw [← this]; exact hF
    · intro b hb
      rcases List.mem_cons.mp hb with rfl | hb
      · exact n1
      · rw [List.mem_singleton.mp hb]; exact hLlt
    · intro b hb p hp
      have hps2 : p.1 < s.heap.objs.size := by
        rcases List.mem_cons.mp hp with rfl | hp
        · exact hPlt
        · exact lt_of_news N (.tail _ hp)
      rcases List.mem_cons.mp hb with rfl | hb
      · exact Nat.ne_of_lt (Nat.lt_trans hps2 sI)
      · rw [List.mem_singleton.mp hb]; exact Nat.ne_of_lt hps2
    · intro h'' m'' tk'' F'' N''
      have kk : ∀ b ∈ h'.objs.size :: h₃.objs.size :: fq, ∃ o, (h'.push go).get? b = some o ∧ h''.get? b = some o := by
        intro b hb
        have inX : ∀ o, (b, o) ∈ X ++ news → ∃ o, (h'.push go).get? b = some o ∧ h''.get? b = some o := fun o ho => ⟨o, (NX _ (.tail _ ho)).1, (N'' _ (.tail _ ho)).1⟩
        rcases List.mem_cons.mp hb with rfl | hb
        · exact inX _ (.head _)
        · rcases List.mem_cons.mp hb with rfl | hb
          · exact inX _ (.tail _ (.head _))
          · rcases hfq b hb with rfl | ⟨o, ho⟩ | ⟨o, ho⟩
            · exact inX _ (List.mem_append.mpr (.inl (.tail _ (.tail _ (.head _)))))
            · exact inX o (List.mem_append.mpr (.inr ho))
            · exact ⟨o, Ff.keep b o ho, F''.keep b o ho⟩
      have hk : ∀ b ∈ h'.objs.size :: h₃.objs.size :: fq, ∀ o, (h'.push go).get? b = some o → h''.get? b = some o := by
        intro b hb o e
        obtain ⟨o', e1, e2⟩ := kk b hb
        rw [e] at e1; cases e1; exact e2
      obtain ⟨g1, g2, gs, g3, g4⟩ := GA
      refine ⟨⟨?_, hlim.keeps F''.keep, gs, g3, fun s'' hal => g4 s'' fun b hb o e => hal b hb o (hk b (List.mem_cons_of_mem _ hb) o e)⟩, fun b hb => ?_⟩
      · obtain ⟨o, nm, qn, ho, r⟩ := g1
        exact ⟨o, nm, qn, hk _ (.head _) o ho, r⟩
      · obtain ⟨o, _, e⟩ := kk b hb
        exact Heap.lt_size e
/-- sep.join of the generator: it is run to its end -/
theorem join_fmt {h₀ : Heap} {L a P : Addr} {m : Str → Option Value} {tab : Obj} {news ledX : List (Addr × Obj)} {ks : List Int} {sep : Str} {t : Tok} {s₀ : Shared} {Q : Value → Shared → Prop} (F : Fr h₀ L s.heap m) (N : News h₀ L s.heap ledX) (hsub : ∀ p ∈ (P, tab) :: news, p ∈ ledX)
    (G : GenIn prog w A h₀ L a ks ledX ((P, tab) :: news) s₀) (hG : AllBare s.gens) (e1 : s₀.gens = s.gens) (e2 : s₀.drawn = s.drawn) (e3 : s₀.os = s.os) (hlen : ks.length ≤ 1000) (hok : JoinOk sep (ks.map strOf) = true)
    (h : ∀ t' h' g' tk', AllBare g' → Fr h₀ L h' m → News h₀ L h' ((P, tab) :: news) → Q (.str (Txt.join sep (ks.map strOf)) t') { s with heap := h', gens := g', toks := tk' }) :
    wpAny (model prog w) A (call (.builtin "str.join") [.str sep t, .ref a]) Q E s := by
  obtain ⟨fp, wr, g, St, n, Pv, W, hn, hPv, hT, ha, hwL, hwP, hfr⟩ := G
  obtain ⟨hst, hfp⟩ := hfr s.heap m s.toks F N
  have es : ({ s₀ with heap := s.heap, toks := s.toks } : Shared) = s := by
    obtain ⟨a1, a2, a3, a4, a5⟩ := s₀
    obtain ⟨b1, b2, b3, b4, b5⟩ := s
    simp only at e1 e2 e3
    subst e1 e2 e3
    rfl
  rw [es] at hst
  refine SC.joinGen W.in4_2 hT hst hfp ha (fun j v hv => let ⟨u, q⟩ := hPv j v hv; ⟨_, u, q⟩) (fun s' lt hm hacc => ?_) (by rw [hn, PySem.sizeLine_eq]; omega)
  have hl : lt.map (·.1) = ks.map strOf := by
    apply List.ext_getElem?
    intro j
    have hsz : lt.length = ks.length := by simpa [strValues, hn] using hacc.1
    by_cases hj : j < ks.length
    · have hj' : j < lt.length := hsz ▸ hj
      obtain ⟨u, hv⟩ := hPv j _ (hacc.2 j (.str lt[j].1 lt[j].2) (by simp [strValues, List.getElem?_eq_getElem hj']))
      injection hv with h1 _
      rw [List.getElem?_map, List.getElem?_map, List.getElem?_eq_getElem hj', List.getElem?_eq_getElem hj]
      simp only [Option.map_some, h1]
      rw [List.getD_eq_getElem?_getD, List.getElem?_eq_getElem hj]; rfl
    · rw [List.getElem?_eq_none (by simpa [hsz] using Nat.le_of_not_lt hj), List.getElem?_eq_none (by simpa using Nat.le_of_not_lt hj)]
  rw [hl]
  refine ⟨hok, fun t' k => ?_⟩
  have es' : s' = { s with heap := s'.heap, gens := s'.gens, toks := s'.toks } := by
    obtain ⟨b1, b2, b3, b4, b5⟩ := s'
    have q1 := hm.drawn
    have q2 := hm.os
    simp only at q1 q2
    subst q1 q2
    rfl
  rw [es']
  exact h t' s'.heap s'.gens k (hG.movedS hm) (F.moved hm hwL) fun p hp => ⟨hm.heap p.1 p.2 (fun hb => hwP _ hb p hp rfl) (N p (hsub p hp)).1, (N p (hsub p hp)).2⟩
end
end Mine
namespace Mine
/-- the ground g, its objects as they now stand in h' -/
noncomputable def ReG (g h' g₂ : Heap) : Prop := g₂.objs.size = g.objs.size ∧ ∀ b, g₂.get? b = (if (g.get? b).isSome then h'.get? b else none)
theorem get_isFreed {o : Obj} (h : o.isFreed = false) : ∀ c d s, o ≠ ⟨c, d, .freed, s⟩ := fun c d s q => by subst q; cases h
theorem reG_exists {g h' : Heap} (k : ∀ b o, g.get? b = some o → ∃ o', h'.get? b = some o') : ∃ g₂, ReG g h' g₂ := by
  refine ⟨⟨Array.ofFn (n := g.objs.size) fun i => if (g.get? i.val).isSome then (h'.objs[i.val]?).getD { cls := .none, data := .freed } else { cls := .none, data := .freed }, g.life⟩, by simp, fun b => ?_⟩
  show (match (Array.ofFn (n := g.objs.size) fun i => if (g.get? i.val).isSome then (h'.objs[i.val]?).getD { cls := .none, data := .freed } else { cls := .none, data := .freed })[b]? with
    | some ⟨_, _, .freed, _⟩ => none
    | o => o) = _
  by_cases hb : b < g.objs.size
  · rw [Array.getElem?_ofFn, dif_pos hb]
    dsimp only
    cases e : g.get? b with
    | none => rfl
    | some o =>
      obtain ⟨o', ho'⟩ := k b o e
      simp only [Option.isSome_some, if_true]
      rw [ho']
      have q := ho'
      unfold Heap.get? at q
      revert q
      cases h'.objs[b]? with
      | none => intro q; cases q
      | some ob =>
        intro q
        exact q
  · rw [Array.getElem?_ofFn, dif_neg hb]
    have e : g.get? b = none := Heap.get?_none_of_le (Nat.le_of_not_lt hb)
    rw [e]; rfl
section
variable {M : Model} {A A₀ : Around} {E : Value → Shared → Prop} {s : Shared}
theorem note_entry {base : Heap} {env : Env} {outer : List Env} {L x C : Addr} {od : Option Addr} {vs : Array Value} {head : Value} {hadNext : Bool} {Q : Unit → Shared → Prop}
    (hfr : A.frames = some (env :: outer)) (hl : s.heap.FunFrames base (env :: outer)) (hf : env.frame = some L) (he : s.heap.get? x = some (excO C od vs)) (hsz : 1 < vs.size)
    (h : ∀ h' T tb ts, s.heap.get? T = none → T ≠ x → s.heap.objs.size ≤ T → h'.get? x = some (excO C od (vs.setIfInBounds 1 (.ref T))) → h'.get? T = some tb → tb.data = .fields ts → tb.isFreed = false → ts[3]? = some (rawInt L) →
      (∀ b o, b ≠ x → b ∉ (env :: outer).filterMap (·.frame) → s.heap.get? b = some o → h'.get? b = some o) → (∀ b o, b ≠ x → s.heap.get? b = some o → ∃ sl, h'.get? b = some { o with slots := sl }) → Q () { s with heap := h' }) :
    wpAny M A (do let a ← frameOf env; let pl ← entryPlaceOf L hadNext; let b ← EntryCells.newEntry head a .none (rawInt L) .none pl; setField (.ref x) 1 b) Q E s := by
  have hene : x ∉ (env :: outer).filterMap (·.frame) := fun hm => by
    obtain ⟨_, o, ho, hnf⟩ := hl.mem hm
    rw [he] at ho; cases ho; exact hnf vs rfl
  refine wpAny_bind (wpAny_frameOf_fun hfr hl hf fun h₁ hs₁ => ?_)
  refine wpAny_bind (wpAny_entryPlaceOf fun pl hpl => ?_)
  unfold EntryCells.newEntry newFields
  refine wpAny_bind (wpAny_newObj_type ?_ (hpl.sizeOk5 _ _ _ _ _))
  have he₁ : h₁.get? x = some (excO C od vs) := (hs₁.2.1 x hene).trans he
  generalize hoT : ({ cls := .type "traceback", dict := none, data := .fields ([head, .ref L, .none, rawInt L, .none] ++ (if pl.isEmpty then List.replicate 6 Value.none else pl)).toArray } : Obj) = oT
  have he₂ := Heap.get?_push_of_some (h := h₁) oT he₁
  have hTe : h₁.objs.size ≠ x := Nat.ne_of_gt (Heap.lt_size he₁)
  refine wpAny_setField he₂ rfl hsz ?_
  have hT : (h₁.push oT).get? h₁.objs.size = some oT := Heap.get?_push_size h₁ (by rw [← hoT]; rfl)
  have keep : ∀ b o, b ≠ x → h₁.get? b = some o → ((h₁.push oT).update x (Obj.mapFields (·.setIfInBounds 1 (Value.ref h₁.objs.size)))).get? b = some o := fun b o hb e => by
    rw [Heap.get?_update_other _ _ (Ne.symm hb)]
    exact Heap.get?_push_of_some _ e
  refine h _ h₁.objs.size oT _ ?_ hTe (Nat.le_of_eq hs₁.1.symm) ?_ ?_ (by rw [← hoT]) (by rw [← hoT]; rfl) ?_ ?_ ?_
  · exact Heap.get?_none_of_le (Nat.le_of_eq hs₁.1.symm)
  · exact Heap.get?_update_self (Obj.mapFields (·.setIfInBounds 1 (Value.ref h₁.objs.size))) he₂ rfl
  · rw [Heap.get?_update_other _ _ (Ne.symm hTe)]; exact hT
  · simp
  · intro b o hb hn e
    exact keep b o hb ((hs₁.2.1 b hn).trans e)
  · intro b o hb e
    obtain ⟨sl, hs⟩ := hs₁.2.2 b o e
    exact ⟨sl, keep b _ hb hs⟩
/-- a note of the exception in the running frame: the ground's frames may change their slots -/
theorem note_ground {base g : Heap} {env : Env} {outer : List Env} {L x C : Addr} {od : Option Addr} {vs : Array Value} {head : Value} {hadNext : Bool} {m : Str → Option Value} {rest : List (Addr × Obj)} {Q : Unit → Shared → Prop}
    (B : Below A₀ base outer g) (hfr : A.frames = some (env :: outer)) (hf : env.frame = some L) (hke : env.scope.kind = .function) (F : Fr g L s.heap m) (N : News g L s.heap ((x, excO C od vs) :: rest)) (hoff : ∀ p ∈ rest, p.1 ≠ x) (hsz : 1 < vs.size)
    (h : ∀ g₂ h' T tb ts, g₂.objs.size = g.objs.size → (∀ b o, g.get? b = some o → ∃ sl, g₂.get? b = some { o with slots := sl }) → (∀ b, g.get? b = none → g₂.get? b = none) → Below A₀ base outer g₂ → Fr g₂ L h' m →
      News g₂ L h' ((x, excO C od (vs.setIfInBounds 1 (.ref T))) :: (T, tb) :: rest) → T ≠ x → (∀ p ∈ rest, p.1 ≠ T) → tb.data = .fields ts → ts[3]? = some (rawInt L) → Q () { s with heap := h' }) :
    wpAny M A (do let a ← frameOf env; let pl ← entryPlaceOf L hadNext; let b ← EntryCells.newEntry head a .none (rawInt L) .none pl; setField (.ref x) 1 b) Q E s := by
  have B₁ := pushX B F hf hke
  obtain ⟨hx1, hx2, hx3⟩ := N _ (.head _)
  refine note_entry hfr B₁.frames hf hx1 hsz fun h' T tb ts t1 t2 t3 e1 e2 e3 e3' e4 k1 k2 => ?_
  have gx : ∀ b o, g.get? b = some o → b ≠ x := fun b o e q => by rw [q] at e; rw [hx3] at e; cases e
  obtain ⟨g₂, z1, z2⟩ := reG_exists (g := g) (h' := h') fun b o e => let ⟨sl, q⟩ := k2 b o (gx b o e) (F.keep b o e); ⟨_, q⟩
  have sl : ∀ b o, g.get? b = some o → ∃ sl, g₂.get? b = some { o with slots := sl } := fun b o e => by
    rw [z2 b, e]
    exact k2 b o (gx b o e) (F.keep b o e)
  have no : ∀ b, g.get? b = none → g₂.get? b = none := fun b e => by rw [z2 b, e]; rfl
  have nofr : ∀ b o, base.get? b = some o → b ∉ (env :: outer).filterMap (·.frame) := fun b o e hm => by
    rw [(B₁.frames.mem hm).1] at e; cases e
  have st : base.StaysIn g₂ := fun b o e => by
    rw [z2 b, B.stays b o e]
    exact k1 b o (gx b o (B.stays b o e)) (nofr b o e) (B₁.stays b o e)
  have hLx : L ≠ x := fun q => hx2 q.symm
  refine h g₂ h' T tb ts z1 sl no ⟨B.stack, st, B.frames.of_keeps fun b o e _ => let ⟨s', q⟩ := sl b o e; ⟨_, q, rfl⟩⟩ ⟨?_, fun b o e => ?_, by rw [z1]; exact F.above⟩ (fun p hp => ?_) t2 ?_ e3 e4
  · obtain ⟨o, es, ep, ho, hd, r⟩ := F.ns
    obtain ⟨s', q⟩ := k2 L o hLx ho
    exact ⟨_, es, ep, q, hd, r⟩
  · rw [z2 b] at e
    cases q : g.get? b with
    | none => rw [q] at e; cases e
    | some o' => rw [q] at e; exact e
  · rcases List.mem_cons.mp hp with rfl | hp
    · exact ⟨e1, hx2, no _ hx3⟩
    · rcases List.mem_cons.mp hp with rfl | hp
      · have tL : T ≠ L := fun q => by obtain ⟨o, _, _, ho, _⟩ := F.ns; subst q; rw [t1] at ho; cases ho
        have tg : g.get? T = none := by
          cases q : g.get? T with
          | none => rfl
          | some o => rw [F.keep T o q] at t1; cases t1
        exact ⟨e2, tL, no _ tg⟩
      · obtain ⟨p1, p2, p3⟩ := N p (.tail _ hp)
        refine ⟨k1 _ _ (hoff p hp) (fun hm => ?_) p1, p2, no _ p3⟩
        rw [List.filterMap_cons, hf] at hm
        rcases List.mem_cons.mp hm with q | hm
        · exact p2 q
        · obtain ⟨_, o, ho, _⟩ := B.frames.mem hm
          rw [p3] at ho; cases ho
  · intro p hp q
    have := (N p (.tail _ hp)).1
    rw [q, t1] at this
    cases this
theorem note_first {base g : Heap} {env : Env} {outer : List Env} {L x C : Addr} {od : Option Addr} {vs : Array Value} {m : Str → Option Value} {rest : List (Addr × Obj)} {Q : Unit → Shared → Prop}
    (B : Below A₀ base outer g) (hfr : A.frames = some (env :: outer)) (hf : env.frame = some L) (hke : env.scope.kind = .function) (F : Fr g L s.heap m) (N : News g L s.heap ((x, excO C od vs) :: rest)) (hoff : ∀ p ∈ rest, p.1 ≠ x) (h1 : vs[1]? = some .none)
    (h : ∀ g₂ h' T tb ts, g₂.objs.size = g.objs.size → (∀ b o, g.get? b = some o → ∃ sl, g₂.get? b = some { o with slots := sl }) → (∀ b, g.get? b = none → g₂.get? b = none) → Below A₀ base outer g₂ → Fr g₂ L h' m →
      News g₂ L h' ((x, excO C od (vs.setIfInBounds 1 (.ref T))) :: (T, tb) :: rest) → T ≠ x → (∀ p ∈ rest, p.1 ≠ T) → tb.data = .fields ts → ts[3]? = some (rawInt L) → Q () { s with heap := h' }) :
    wpAny M A (noteFrame (.ref x) env) Q E s := by
  unfold noteFrame
  simp only [hf]
  refine wpAny_bind (wpAny_field (N _ (.head _)).1 rfl h1 ?_)
  rw [if_neg (by decide)]
  exact note_ground B hfr hf hke F N hoff (Array.getElem?_eq_some_iff.mp h1).1 h
/-- a second note in the frame in which it stands: nothing -/
theorem note_again {g : Heap} {env : Env} {L x C T : Addr} {od : Option Addr} {vs ts : Array Value} {tb : Obj} {rest : List (Addr × Obj)} {Q : Unit → Shared → Prop}
    (hf : env.frame = some L) (N : News g L s.heap ((x, excO C od vs) :: (T, tb) :: rest)) (h1 : vs[1]? = some (.ref T)) (hd : tb.data = .fields ts) (h3 : ts[3]? = some (rawInt L)) (h : Q () s) :
    wpAny M A (noteFrame (.ref x) env) Q E s := by
  unfold noteFrame
  simp only [hf]
  refine wpAny_bind (wpAny_field (N _ (.head _)).1 rfl h1 ?_)
  rw [if_pos (show (Value.ref T != Value.none) = true from by simp)]
  refine wpAny_bind (wpAny_field (N _ (.tail _ (.head _))).1 hd h3 ?_)
  rw [if_pos (show (rawInt L == rawInt L) = true from by simp [rawInt])]
  exact wpAny_pure h
/-- where an exception is in flight: written into its newest entry -/
theorem flight_to {g : Heap} {L x C T : Addr} {od : Option Addr} {vs ts : Array Value} {tb : Obj} {m : Str → Option Value} {rest : List (Addr × Obj)} {fl : Option Addr} {Q : Unit → Shared → Prop}
    (F : Fr g L s.heap m) (N : News g L s.heap ((x, excO C od vs) :: (T, tb) :: rest)) (hTx : T ≠ x) (hoff : ∀ p ∈ rest, p.1 ≠ T) (h1 : vs[1]? = some (.ref T)) (hd : tb.data = .fields ts) {v3 : Value} (h3 : ts[3]? = some v3)
    (h : ∀ h' tb' ts', Fr g L h' m → News g L h' ((x, excO C od vs) :: (T, tb') :: rest) → tb'.data = .fields ts' → ts'[3]? = some (fl.elim .none fun f => rawInt f) → Q () { s with heap := h' }) :
    wpAny M A (setFlight (.ref x) fl) Q E s := by
  obtain ⟨hx1, hx2, hx3⟩ := N _ (.head _)
  obtain ⟨hT1, hT2, hT3⟩ := N _ (.tail _ (.head _))
  dsimp only at hx1 hT1 hT2 hT3
  unfold setFlight
  refine wpAny_bind (wpAny_field hx1 rfl h1 ?_)
  rw [if_pos (show (Value.ref T != Value.none) = true from by simp)]
  have hlt : 3 < ts.size := (Array.getElem?_eq_some_iff.mp h3).1
  refine wpAny_setField hT1 hd hlt ?_
  have other : ∀ b, b ≠ T → (s.heap.update T (Obj.mapFields (·.setIfInBounds 3 (fl.elim Value.none fun f => rawInt f)))).get? b = s.heap.get? b := fun b hb => Heap.get?_update_other _ _ (Ne.symm hb)
  have hself := Heap.get?_update_self (Obj.mapFields (·.setIfInBounds 3 (fl.elim Value.none fun f => rawInt f))) hT1 (Obj.isFreed_of_fields (Obj.data_mapFields hd _))
  refine h _ (Obj.mapFields (·.setIfInBounds 3 (fl.elim Value.none fun f => rawInt f)) tb) (ts.setIfInBounds 3 (fl.elim Value.none fun f => rawInt f)) ⟨F.ns.at' fun o e => (other L (Ne.symm hT2)).trans e, fun b o e => (other b fun q => by rw [q, hT3] at e; cases e).trans (F.keep b o e), F.above⟩ (fun p hp => ?_) (Obj.data_mapFields hd _) (by simp [hlt])
  rcases List.mem_cons.mp hp with rfl | hp
  · exact ⟨(other x (Ne.symm hTx)).trans hx1, hx2, hx3⟩
  · rcases List.mem_cons.mp hp with rfl | hp
    · exact ⟨hself, hT2, hT3⟩
    · have z := N p (.tail _ (.tail _ hp))
      exact ⟨(other _ (hoff p hp)).trans z.1, z.2⟩
end
section
variable {M : Model} {A : Around} {E : Value → Shared → Prop} {s : Shared} {env : Env} {nm q : Str} {C N : Addr} {bs : List Value} {sn : List Str} {sub : List Value} {ab : Bool} {col : Option Bool} {dd : Option Addr} {k0 k1 k2 k3 k5 : Option Value} {newId : String}
theorem raise_stmt {x : Sem Value} {Q : Flow → Shared → Prop} (hh : A.handled = none)
    (h : wpAny M A x (fun v s₁ => ∃ e od t c2 c3 c4 c5, v = .ref e ∧ s₁.heap.get? C = some (excClassObj nm q C N bs bmE true sn sub ab col dd k0 k1 k2 k3 k5 newId) ∧
      s₁.heap.get? e = some (excO C od #[t, .none, c2, c3, c4, c5]) ∧ E (.ref e) s₁) E s) :
    wpAny M A (raiseStmt env (some x) none) Q E s := by
  have hcB : (Value.ref C :: bmE).contains (.type "BaseException") = true := by rw [List.contains_cons]; exact Bool.or_true _
  unfold raiseStmt
  refine wpAny_bind (wpAny_mono h (fun v s₁ h₁ => ?_) fun _ _ x => x)
  obtain ⟨e, od, t, c2, c3, c4, c5, rfl, hC, he, hE⟩ := h₁
  obtain ⟨hp, g, d, tk, os⟩ := s₁
  dsimp only at hC he
  repeat (first | with_reducible refine wpAny_loadPart_at he ?_ | with_reducible refine wpAny_loadPart_at hC ?_ | (with_reducible refine wpAny_isSubtype_exc hC ?_; rw [hcB]) | wp_step)
  exact wpAny_raiseNew_none hh hE
end
section
variable {prog : Program} {w : World} {A : Around} {E : Value → Shared → Prop} {s : Shared} {env : Env} {C : Addr} {P : Heap → Prop}
theorem exec_raise {x : Expr} {pos : Pos} {Q : Flow → Shared → Prop} (hh : A.handled = none)
    (h : wpAny (model prog w) A (eval x env) (fun v s₁ => ∃ e od t c2 c3 c4 c5, v = .ref e ∧ P s₁.heap ∧ s₁.heap.get? e = some (excO C od #[t, .none, c2, c3, c4, c5]) ∧ E (.ref e) s₁) E s)
    (obj : ∃ N nm q bs sn sub ab col dd k0 k1 k2 k3 k5, ∀ h : Heap, P h → h.get? C = some (excClassObj nm q C N bs bmE true sn sub ab col dd k0 k1 k2 k3 k5 "Exception.__new__")) :
    wpAny (model prog w) A (exec (.Raise (some x) none pos) env) Q E s := by
  obtain ⟨N, nm, q, bs, sn, sub, ab, col, dd, k0, k1, k2, k3, k5, ob⟩ := obj
  have h' := wpAny_mono h (fun v s₁ p => (show ∃ e od t c2 c3 c4 c5, v = .ref e ∧ s₁.heap.get? C = some (excClassObj nm q C N bs bmE true sn sub ab col dd k0 k1 k2 k3 k5 "Exception.__new__") ∧
      s₁.heap.get? e = some (excO C od #[t, .none, c2, c3, c4, c5]) ∧ E (.ref e) s₁ from by obtain ⟨e, od, t, c2, c3, c4, c5, p1, p2, p3, p4⟩ := p; exact ⟨e, od, t, c2, c3, c4, c5, p1, ob _ p2, p3, p4⟩)) fun _ _ x => x
  rw [arm_exec_Raise]
  first
    | exact wpAny_bind (wpAny_standAt (raise_stmt hh (wpAny_bind (wpAny_mono h' (fun v s₁ h₁ => wpAny_bind (wpAny_standAt (wpAny_pure h₁))) fun _ _ x => x))))
    | (simp only [evalOpt, Option.map]; exact wpAny_bind (wpAny_standAt (raise_stmt hh (wpAny_bind (wpAny_mono h' (fun v s₁ h₁ => wpAny_bind (wpAny_standAt (wpAny_pure h₁))) fun _ _ x => x)))))
theorem handle_nag {A₀ : Around} {g : Heap} {L a x T Nn : Addr} {m mg mb : Str → Option Value} {mN : Str → Option Value} {name : Str} {scope : Scope} {cd : Value} {od : Option Addr} {vs ts : Array Value} {tb : Obj} {rest : List (Addr × Obj)} {K : Frag} {p : Program} {loose : List Str}
    {cn n : Str} {np pos : Pos} {b₀ : Stmt} {suite : List Stmt} {hs : List ExceptHandler} {v3 : Value} {Q : Flow → Shared → Prop}
    (F : Fr g L s.heap m) (N : News g L s.heap ((x, excO C od vs) :: (T, tb) :: rest)) (hTx : T ≠ x) (hoff : ∀ p ∈ rest, p.1 ≠ T) (h1 : vs[1]? = some (.ref T)) (hd : tb.data = .fields ts) (h3 : ts[3]? = some v3)
    (X : K.In g) (Tp : TopRead p loose mg mb g) (ex : nsIn K mainGlobals cn = some (some (.ref C))) (NC : NagCls g C Nn mN)
    (k : ∀ h' tk tb', Fr g L h' (fun y => if y = n then some (.ref x) else m y) → News g L h' ((x, excO C od vs) :: (T, tb') :: rest) →
      wpAny (model prog w) ((A₀.deeper (envOf name scope L a cd)).mark (some (.ref x))) (execs (b₀ :: suite) (envOf name scope L a cd))
        (fun f s₄ => wpAny (model prog w) (A₀.deeper (envOf name scope L a cd)) (do bindName (envOf name scope L a cd) n .none; unbindBehindTheSuite (envOf name scope L a cd) n pos) (fun _ s₅ => Q f s₅) E s₄) (fun _ _ => False) { s with heap := h', toks := tk })
    (hk : scope.kind = .function) (hx : (envOf name scope L a cd).kindOf cn = some .globalImplicit) (hl : (envOf name scope L a cd).kindOf n = some .local) (hdb : (cn == ("__debug__" : Str)) = false) :
    wpAny (model prog w) (A₀.deeper (envOf name scope L a cd)) (handleBy (.ref x) (envOf name scope L a cd) (.ExceptHandler (some (.Name cn np)) (some n) (b₀ :: suite) pos :: hs)) Q E s := by
  obtain ⟨⟨nm, q, bs, sn, sub, ab, col, dd, k0, k1, k2, k3, k5, hC⟩, hn, q1, q2, q3⟩ := NC.keeps F.keep
  obtain ⟨hh, gg, dw, tk, os⟩ := s
  dsimp only at F N hC
  refine wpAny_handleBy_cons (codeAny_handlers_test (name_K F X Tp ex ?_ hk hx hdb)) (by intro q; cases q)
  refine wpAny_excMatches_sub_self hC (N _ (.head _)).1 rfl (by decide) (codeAny_handlers_suite_as ?_)
  refine flight_to F N hTx hoff h1 hd h3 fun h' tb' ts' F' N' _ _ => ?_
  refine stN F' N' (fun h₇ F₇ N₇ => ?_) hk hl
  exact wpAny_mono (k h₇ _ tb' F₇ N₇) (fun _ _ z => z) fun _ _ z => z.elim
end
section
variable {A A₀ : Around}
/-- back out of a callee whose ground has changed its frames' slots -/
theorem leave_ground {base h₀ g g₂ h' : Heap} {env : Env} {outer : List Env} {L L' : Addr} {m m' : Str → Option Value} {led : List (Addr × Obj)}
    (B : Below A₀ base outer h₀) (FG : Fr h₀ L g m) (B₂ : Below A base (env :: outer) g₂) (sl : ∀ b o, g.get? b = some o → ∃ sl, g₂.get? b = some { o with slots := sl }) (F' : Fr g₂ L' h' m') (N' : News g₂ L' h' led) :
    ∃ h₂ : Heap, h₂.objs.size = h₀.objs.size ∧ (∀ b o, h₀.get? b = some o → ∃ sl, h₂.get? b = some { o with slots := sl }) ∧ (∀ b, h₀.get? b = none → h₂.get? b = none) ∧ Below A₀ base outer h₂ ∧ Fr h₂ L h' m ∧ News h₂ L h' led := by
  obtain ⟨h₂, z1, z2⟩ := reG_exists (g := h₀) (h' := g₂) fun b o e => let ⟨_, q⟩ := sl b o (FG.keep b o e); ⟨_, q⟩
  have sl2 : ∀ b o, h₀.get? b = some o → ∃ sl, h₂.get? b = some { o with slots := sl } := fun b o e => by
    rw [z2 b, e]
    exact sl b o (FG.keep b o e)
  have no : ∀ b, h₀.get? b = none → h₂.get? b = none := fun b e => by rw [z2 b, e]; rfl
  refine ⟨h₂, z1, sl2, no, ⟨B.stack, fun b o e => ?_, B.frames.of_keeps fun b o e _ => let ⟨s', q⟩ := sl2 b o e; ⟨_, q, rfl⟩⟩, ⟨?_, fun b o e => ?_, by rw [z1]; exact FG.above⟩, fun p hp => ⟨(N' p hp).1, fun q => ?_, ?_⟩⟩
  · rw [z2 b, B.stays b o e]
    exact B₂.stays b o e
  · obtain ⟨o, es, ep, ho, hd, r⟩ := FG.ns
    obtain ⟨s', q⟩ := sl L o ho
    exact ⟨_, es, ep, F'.keep _ _ q, hd, r⟩
  · rw [z2 b] at e
    cases q : h₀.get? b with
    | none => rw [q] at e; cases e
    | some o' => rw [q] at e; exact F'.keep b o e
  · obtain ⟨o, es, ep, ho, hd, r⟩ := FG.ns
    obtain ⟨s', z⟩ := sl L o ho
    have := (N' p hp).2.2
    rw [q, z] at this
    cases this
  · cases q : h₀.get? p.1 with
    | none => exact no _ q
    | some o =>
      obtain ⟨s', z⟩ := sl _ _ (FG.keep _ o q)
      have := (N' p hp).2.2
      rw [z] at this
      cases this
end
section
variable {prog : Program} {w : World} {A A₀ : Around} {s : Shared} {K : Frag} {L : Addr} {h₀ base : Heap} {m mg mb : Str → Option Value} {news : List (Addr × Obj)} {p : Program} {loose : List Str} {mean : ExcName → Option Value}
/-- a def is entered; its end is left as it is -/
theorem code_defR {env : Env} {outer : List Env} {R : Result → Shared → Prop} {name qual : Str} {params : Arguments} {body : List Stmt} {scope : Scope} {dV kV doc pm cdv ct oc : Value} {an od : Option Addr} {osl : Array (Option Value)} {f : Addr} {args : Args} {binds : List (Str × Value)}
    (B : Below A₀ base outer h₀) (F : Fr h₀ L s.heap m) (X₀ : K.In h₀) (N : News h₀ L s.heap news) (T : Top p loose mean mg mb h₀) (hA : A.frames = some (env :: outer)) (hf : env.frame = some L) (hke : env.scope.kind = .function)
    (ho : K.lookup f = some ⟨oc, od, .func (fnOf name qual params body scope dV kV doc pm an cdv ct), osl⟩) (hcd : codeIn K cdv qual = true) (hroom : A.depth < recursionLimit)
    (hbind : BindsTo s (fnOf name qual params body scope dV kV doc pm an cdv ct) args binds) (hloc : ∀ y ∈ binds, scope.names.lookup y.1 = some .local)
    (h : ∀ g L' h₁, Fr h₀ L g m → Fr g L' h₁ (fun y => binds.reverse.lookup y) → News g L' h₁ news → Below A base (env :: outer) g → K.In g → Top p loose mean mg mb g →
      wpAny (model prog w) (A.deeper (envOf qual scope L' f cdv)) (execs body (envOf qual scope L' f cdv))
        (fun fl s' => Park (R (.ok (.ret (match fl with | .ret v => v | _ => .none))) s'))
        (fun e s' => wpAny (model prog w) (A.deeper (envOf qual scope L' f cdv)) (leaving (envOf qual scope L' f cdv) e) (fun _ s'' => R (.error e) s'') (fun e' s'' => R (.error e') s'') s')
        { s with heap := h₁, toks := s.toks + binds.length })
    (hco : scope.isCoroutine = false) (hgen : scope.isGenerator = false) (hk : scope.kind = .function)
    (hcell : ∀ x ∈ scope.names, x.2 ≠ .cell) : codeAny (model prog w) A (.call (.ref f) args) R s := by
  have hK := X₀.keeps F.keep
  obtain ⟨FG, BG, st, _⟩ := groundX (R := R) B F N hA hf hke
  refine codeAny_call_def (fd := fnOf name qual params body scope dV kV doc pm an cdv ct) (body := body) (binds := binds) hroom (hK _ _ ho) rfl (T.nolimit.keeps F.keep) (codeRec_of hK hcd) rfl hbind hcell hloc (fun h₁ hns hk₁ => ?_) hco hgen hk
  exact h _ s.heap.objs.size h₁ FG ⟨hns, fun b o e => hk₁ b o (of_hideAll _ e), Nat.le_of_eq (hideAll_size _ _)⟩
    (fun p hp => ⟨hk₁ _ _ (N p hp).1, Nat.ne_of_lt (Heap.lt_size (N p hp).1), hideAll_none _ (List.mem_map_of_mem hp)⟩) BG (X₀.keeps st) (T.keeps st)
/-- back in the caller, whose own frame and outer frames alone may have changed their slots -/
theorem back_base {g g₂ h' : Heap} {env : Env} {outer : List Env} {L' : Addr} {m' : Str → Option Value} {led : List (Addr × Obj)}
    (F : Fr h₀ L s.heap m) (FG : Fr h₀ L g m) (B₂ : Below A h₀ (env :: outer) g₂) (sl : ∀ b o, g.get? b = some o → ∃ sl, g₂.get? b = some { o with slots := sl }) (F' : Fr g₂ L' h' m') (N' : News g₂ L' h' led) :
    Fr h₀ L h' m ∧ News h₀ L h' led := by
  refine ⟨⟨?_, fun b o e => F'.keep b o (B₂.stays b o e), F.above⟩, fun p hp => ⟨(N' p hp).1, fun q => ?_, ?_⟩⟩
  · obtain ⟨o, es, ep, ho, hd, r⟩ := FG.ns
    obtain ⟨s', q⟩ := sl L o ho
    exact ⟨_, es, ep, F'.keep _ _ q, hd, r⟩
  · obtain ⟨o, es, ep, ho, hd, r⟩ := FG.ns
    obtain ⟨s', z⟩ := sl L o ho
    have := (N' p hp).2.2
    rw [q, z] at this
    cases this
  · cases q : h₀.get? p.1 with
    | none => rfl
    | some o =>
      have := (N' p hp).2.2
      rw [B₂.stays _ _ q] at this
      cases this
end
end Mine
namespace Mine
section
variable {M : Model} {A A₀ : Around} {E : Value → Shared → Prop} {s : Shared}
/-- a note in the next frame out: one more entry -/
theorem note_next {base g : Heap} {env : Env} {outer : List Env} {L x C T : Addr} {od : Option Addr} {vs ts : Array Value} {tb : Obj} {m : Str → Option Value} {rest : List (Addr × Obj)} {Q : Unit → Shared → Prop}
    (B : Below A₀ base outer g) (hfr : A.frames = some (env :: outer)) (hf : env.frame = some L) (hke : env.scope.kind = .function) (F : Fr g L s.heap m) (N : News g L s.heap ((x, excO C od vs) :: (T, tb) :: rest)) (hTx : T ≠ x) (hoff : ∀ p ∈ rest, p.1 ≠ x ∧ p.1 ≠ T)
    (h1 : vs[1]? = some (.ref T)) (hd : tb.data = .fields ts) (h3 : ts[3]? = some .none)
    (h : ∀ g₂ h' T2 tb2 ts2 tb', g₂.objs.size = g.objs.size → (∀ b o, g.get? b = some o → ∃ sl, g₂.get? b = some { o with slots := sl }) → (∀ b, g.get? b = none → g₂.get? b = none) → Below A₀ base outer g₂ → Fr g₂ L h' m →
      News g₂ L h' ((x, excO C od (vs.setIfInBounds 1 (.ref T2))) :: (T2, tb2) :: (T, tb') :: rest) → T2 ≠ x → (∀ p ∈ (T, tb') :: rest, p.1 ≠ T2) → tb2.data = .fields ts2 → ts2[3]? = some (rawInt L) → Q () { s with heap := h' }) :
    wpAny M A (noteFrame (.ref x) env) Q E s := by
  obtain ⟨hx1, hx2, hx3⟩ := N _ (.head _)
  obtain ⟨hT1, hT2, hT3⟩ := N _ (.tail _ (.head _))
  dsimp only at hx1 hT1 hT2 hT3
  unfold noteFrame
  simp only [hf]
  refine wpAny_bind (wpAny_field hx1 rfl h1 ?_)
  rw [if_pos (show (Value.ref T != Value.none) = true from by simp)]
  refine wpAny_bind (wpAny_field hT1 hd h3 ?_)
  rw [if_neg (show ¬ ((Value.none == rawInt L) = true) from by simp [rawInt])]
  have hlt : 3 < ts.size := (Array.getElem?_eq_some_iff.mp h3).1
  refine wpAny_bind (wpAny_setField hT1 hd hlt ?_)
  have other : ∀ b, b ≠ T → (s.heap.update T (Obj.mapFields (·.setIfInBounds 3 Value.none))).get? b = s.heap.get? b := fun b hb => Heap.get?_update_other _ _ (Ne.symm hb)
  have hself := Heap.get?_update_self (Obj.mapFields (·.setIfInBounds 3 Value.none)) hT1 (Obj.isFreed_of_fields (Obj.data_mapFields hd _))
  have F2 : Fr g L (s.heap.update T (Obj.mapFields (·.setIfInBounds 3 Value.none))) m := ⟨F.ns.at' fun o e => (other L (Ne.symm hT2)).trans e, fun b o e => (other b fun q => by rw [q, hT3] at e; cases e).trans (F.keep b o e), F.above⟩
  have N2 : News g L (s.heap.update T (Obj.mapFields (·.setIfInBounds 3 Value.none))) ((x, excO C od vs) :: (T, Obj.mapFields (·.setIfInBounds 3 Value.none) tb) :: rest) := fun p hp => by
    rcases List.mem_cons.mp hp with rfl | hp
    · exact ⟨(other x (Ne.symm hTx)).trans hx1, hx2, hx3⟩
    · rcases List.mem_cons.mp hp with rfl | hp
      · exact ⟨hself, hT2, hT3⟩
      · have z := N p (.tail _ (.tail _ hp))
        exact ⟨(other _ (hoff p hp).2).trans z.1, z.2⟩
  refine note_ground (s := { s with heap := s.heap.update T (Obj.mapFields (·.setIfInBounds 3 Value.none)) }) B hfr hf hke F2 N2 (fun p hp => ?_) (Array.getElem?_eq_some_iff.mp h1).1 fun g₂ h' T2 tb2 ts2 z1 z2 z3 z4 z5 z6 z7 z8 z9 z10 => ?_
  · rcases List.mem_cons.mp hp with rfl | hp
    · exact hTx
    · exact (hoff p hp).1
  · exact h g₂ h' T2 tb2 ts2 _ z1 z2 z3 z4 z5 z6 z7 z8 z9 z10
end
end Mine
namespace Mine
noncomputable def offP (P : Addr) (led : List (Addr × Obj)) : List (Addr × Obj) := led.filter fun p => p.1 != P
theorem offP_ne {P : Addr} {led : List (Addr × Obj)} : ∀ p ∈ offP P led, p.1 ≠ P := fun p hp => by simpa using (List.mem_filter.mp hp).2
theorem offP_sub {P : Addr} {led : List (Addr × Obj)} : ∀ p ∈ offP P led, p ∈ led := fun p hp => (List.mem_filter.mp hp).1
theorem offP_in {P : Addr} {led : List (Addr × Obj)} {p : Addr × Obj} (hp : p ∈ led) (h : p.1 ≠ P) : p ∈ offP P led := List.mem_filter.mpr ⟨hp, by simpa using h⟩
section
variable {h₀ h : Heap} {L P : Addr} {led : List (Addr × Obj)} {o : Obj}
theorem news_one (N : News h₀ L h led) (hP : (P, o) ∈ led) {a : Addr} {o' : Obj} (ha : (a, o') ∈ led) (hne : o'.cls ≠ o.cls) : a ≠ P := fun q => by
  subst q
  have e1 := (N _ hP).1
  have e2 := (N _ ha).1
  rw [e1] at e2
  cases e2
  exact hne rfl
theorem offP_news (N : News h₀ L h led) (hP : (P, o) ∈ led) : News h₀ L h ((P, o) :: offP P led) := fun p hp => by
  rcases List.mem_cons.mp hp with rfl | hp
  · exact N _ hP
  · exact N _ (offP_sub p hp)
mutual
theorem DatIn.off (N : News h₀ L h led) (hP : (P, o) ∈ led) (ho : o.cls = .none) : ∀ {v : Value} {d : Dat}, DatIn led v d → DatIn (offP P led) v d
  | _, _, .none => .none
  | _, _, .bool b => .bool b
  | _, _, .int i t => .int i t
  | _, _, .str x t => .str x t
  | _, _, .bytes b t => .bytes b t
  | _, _, .tuple m r => .tuple (offP_in m (news_one N hP m (by rw [ho]; exact fun q => by cases q))) (DatAll.off N hP ho r)
  | _, _, .list m r => .list (offP_in m (news_one N hP m (by rw [ho]; exact fun q => by cases q))) (DatAll.off N hP ho r)
theorem DatAll.off (N : News h₀ L h led) (hP : (P, o) ∈ led) (ho : o.cls = .none) : ∀ {vs : List Value} {ds : List Dat}, DatAll led vs ds → DatAll (offP P led) vs ds
  | _, _, .nil => .nil
  | _, _, .cons m r => .cons (DatIn.off N hP ho m) (DatAll.off N hP ho r)
end
end
theorem tupKs_of {led : List (Addr × Obj)} {cnt cnt' : List Int} {b nt b' nt' : Int} : ∀ {vs : List Value} {ts : List Int}, DatAll led vs (ts.map (triple cnt b nt cnt' b' nt')) → TupKs led vs ts
  | [], [], _ => .nil
  | _ :: _, t :: ts, h => by
    cases h with
    | cons hd r =>
      cases hd with
      | tuple hm ha =>
        cases ha with
        | cons h1 h2 =>
          cases h1 with
          | int _ tk => exact .cons hm (tupKs_of r)
  | _ :: _, [], h => by cases h
  | [], _ :: _, h => by cases h
section
variable {prog : Program} {w : World} {A : Around} {E : Value → Shared → Prop} {s : Shared} {h₀ : Heap} {L : Addr} {news : List (Addr × Obj)}
theorem len_led {a : Addr} {vs : List Value} {n z : Nat} {Q : Value → Shared → Prop} (N : News h₀ L s.heap news) (hm : (a, listOf vs.toArray n) ∈ news) (he : vs.length = z) (hz : z < 2 ^ 62)
    (h : Q (.int z (s.toks + 1)) { s with toks := s.toks + 1 + 1 }) : wpAny (model prog w) A (call (.builtin "len") [.ref a]) Q E s := by
  subst he
  refine len_list (lst_of N hm) (by simp; omega) ?_
  simpa using h
end
theorem strOf_small (k : Int) (h : 0 ≤ k ∧ k ≤ 200) : (strOf k).length ≤ 3 := by
  have q : ∀ n : Fin 201, (strOf ((n.val : Nat) : Int)).length ≤ 3 := by decide +kernel
  have := q ⟨k.toNat, by omega⟩
  have e : ((k.toNat : Nat) : Int) = k := by omega
  rw [e] at this
  exact this
theorem joinOk_ks {ts : List Int} {sep : Str} (hts : ∀ t ∈ ts, 0 ≤ t ∧ t ≤ 200) (hlen : ts.length ≤ 200) (hs : sep.length ≤ 500) : JoinOk sep (ts.map strOf) = true := by
  have q := joinOk_few (sep := sep) (as := ts) (pz := fun _ => true) (f := fun k => if 0 ≤ k ∧ k ≤ 200 then strOf k else Str.ofString "") (by omega) (fun a => by
    split
    · exact Nat.le_trans (strOf_small a (by assumption)) (by decide)
    · exact Nat.zero_le _) hs
  rw [List.filter_eq_self.mpr (fun _ _ => rfl)] at q
  have e : ts.map (fun k => if 0 ≤ k ∧ k ≤ 200 then strOf k else Str.ofString "") = ts.map strOf := List.map_congr_left fun k hk => if_pos (hts k hk)
  rw [e] at q
  exact q
/-- the words of format_witnesses -/
noncomputable def wordsV (ts : List Int) : Str := (if ts.length > 1 then Str.ofString "at tab sizes" else Str.ofString "at tab size") ++ Str.ofString " " ++ Txt.join (Str.ofString ", ") (ts.map strOf)
theorem joinKs_len {ts : List Int} (hts : ∀ t ∈ ts, 0 ≤ t ∧ t ≤ 200) (hlen : ts.length ≤ 200) : (Txt.join (Str.ofString ", ") (ts.map strOf)).length ≤ 1000 := by
  show (Builtin.Str.glued (Str.ofString ", ") (ts.map strOf)).length ≤ 1000
  rw [StrLaws.glued_eq_join]
  refine Nat.le_trans (StrLaws.join_length_le _ _) ?_
  have h2 : (Str.ofString ", ").length = 2 := by decide
  rw [h2, List.length_map]
  have h3 : ∀ l : List Int, (∀ t ∈ l, 0 ≤ t ∧ t ≤ 200) → ((l.map strOf).map (·.length)).sum ≤ l.length * 3 := by
    intro l
    induction l with
    | nil => intro _; exact Nat.le_refl _
    | cons x r ih =>
      intro h
      have a := ih fun t ht => h t (.tail _ ht)
      have b := strOf_small x (h x (.head _))
      simp only [List.map_cons, List.sum_cons, List.length_cons, Nat.succ_mul]
      simp only [List.map_map] at a ⊢
      omega
  have := h3 ts hts
  omega
theorem wordsV_len {ts : List Int} (hts : ∀ t ∈ ts, 0 ≤ t ∧ t ≤ 200) (hlen : ts.length ≤ 200) : (wordsV ts).length ≤ 1100 := by
  have h1 : (Str.ofString "at tab sizes").length = 12 := by decide
  have h2 : (Str.ofString "at tab size").length = 11 := by decide
  have h3 : (Str.ofString " ").length = 1 := by decide
  have h4 := joinKs_len hts hlen
  unfold wordsV
  split <;> simp only [Str.length_append, h1, h2, h3] <;> omega
theorem wordsV_many {ts : List Int} (h : ts.length > 1) : (Str.ofString "at tab sizes" ++ Str.ofString " ") ++ Txt.join (Str.ofString ", ") (ts.map strOf) = wordsV ts := by unfold wordsV; rw [if_pos h]
theorem wordsV_few {ts : List Int} (h : ¬ ts.length > 1) : (Str.ofString "at tab size" ++ Str.ofString " ") ++ Txt.join (Str.ofString ", ") (ts.map strOf) = wordsV ts := by unfold wordsV; rw [if_neg h]
theorem join_fits {ts : List Int} {x : Str} (hts : ∀ t ∈ ts, 0 ≤ t ∧ t ≤ 200) (hlen : ts.length ≤ 200) (hx : x.length ≤ 100) : x.length + (Txt.join (Str.ofString ", ") (ts.map strOf)).length ≤ sizeLine := by
  have h4 := joinKs_len hts hlen
  rw [sizeLine_eq]
  omega
theorem neW_bd {cnt cnt' : List Int} {b nt b' nt' : Int} {nn : Nat} (h : nn ≤ 190) : (∀ t ∈ neW cnt b nt cnt' b' nt' (rangeKs 1 nn), 0 ≤ t ∧ t ≤ 200) ∧ (neW cnt b nt cnt' b' nt' (rangeKs 1 nn)).length ≤ 200 :=
  ⟨fun t ht => by have := mem_rangeKs.mp (List.mem_filter.mp ht).1; omega, by have := List.length_filter_le (fun ts => decide (level cnt b nt ts ≠ level cnt' b' nt' ts)) (rangeKs 1 nn); rw [rangeKs_length] at this; unfold neW; omega⟩
theorem nlW_bd {cnt cnt' : List Int} {b nt b' nt' : Int} {nn : Nat} (h : nn ≤ 190) : (∀ t ∈ nlW cnt b nt cnt' b' nt' (rangeKs 1 nn), 0 ≤ t ∧ t ≤ 200) ∧ (nlW cnt b nt cnt' b' nt' (rangeKs 1 nn)).length ≤ 200 :=
  ⟨fun t ht => by have := mem_rangeKs.mp (List.mem_filter.mp ht).1; omega, by have := List.length_filter_le (fun ts => decide (level cnt b nt ts ≥ level cnt' b' nt' ts)) (rangeKs 1 nn); rw [rangeKs_length] at this; unfold nlW; omega⟩
noncomputable def topN (cnt : List Int) (b : Int) (cnt' : List Int) (b' : Int) : Nat := (topV cnt b cnt' b' + 1).toNat
noncomputable def ngWords (cnt : List Int) (b nt : Int) (cnt' : List Int) (b' nt' : Int) : Str := Str.ofString "indent not greater e.g. " ++ wordsV (nlW cnt b nt cnt' b' nt' (rangeKs 1 (topN cnt b cnt' b')))
noncomputable def neWords (cnt : List Int) (b nt : Int) (cnt' : List Int) (b' nt' : Int) : Str := Str.ofString "indent not equal e.g. " ++ wordsV (neW cnt b nt cnt' b' nt' (rangeKs 1 (topN cnt b cnt' b')))
/-- what the nanny says of a row: nothing, or her words -/
noncomputable def askV (deeper : Bool) (cnt : List Int) (b n nt : Int) (cnt' : List Int) (b' n' nt' : Int) : Option Str :=
  if deeper then (if lessV cnt b n nt cnt' b' n' nt' then none else some (ngWords cnt b nt cnt' b' nt')) else if cnt = cnt' ∧ b = b' then none else some (neWords cnt b nt cnt' b' nt')
section
variable {cnt cnt' : List Int} {b n nt b' n' nt' : Int}
theorem askV_eq (h : decide (cnt = cnt' ∧ b = b') = true) : askV false cnt b n nt cnt' b' n' nt' = none := by
  unfold askV; rw [if_neg Bool.false_ne_true, if_pos (of_decide_eq_true h)]
theorem askV_ne (h : decide (cnt = cnt' ∧ b = b') = false) : askV false cnt b n nt cnt' b' n' nt' = some (neWords cnt b nt cnt' b' nt') := by
  unfold askV; rw [if_neg Bool.false_ne_true, if_neg (of_decide_eq_false h)]
theorem askV_less {r : Bool} (e : r = lessV cnt b n nt cnt' b' n' nt') (h : r = true) : askV true cnt b n nt cnt' b' n' nt' = none := by
  unfold askV; rw [if_pos rfl, if_pos (by rw [← e]; exact h)]
theorem askV_ng {r : Bool} (e : r = lessV cnt b n nt cnt' b' n' nt') (h : r = false) : askV true cnt b n nt cnt' b' n' nt' = some (ngWords cnt b nt cnt' b' nt') := by
  unfold askV; rw [if_pos rfl, if_neg (by rw [← e, h]; exact Bool.false_ne_true)]
end
end Mine
namespace Mine
noncomputable abbrev MK := List Int × Int × Int × Int
noncomputable abbrev lvM (tab : Int) (q : MK) : Int := level q.1 q.2.1 q.2.2.2 tab
noncomputable abbrev askM (d : Bool) (a b : MK) : Option Str := askV d a.1 a.2.1 a.2.2.1 a.2.2.2 b.1 b.2.1 b.2.2.1 b.2.2.2
noncomputable def popM (tab here : Int) : List MK → List MK
  | [] => []
  | q :: r => if lvM tab q > here then popM tab here r else q :: r
noncomputable def nagD (i : Int) (o : Option Str) (row : Str) : List Dat := match o with
  | none => []
  | some w => [.tuple [.int i, .str w, .str row]]
noncomputable def lostD (i : Int) (row : Str) : Dat := .tuple [.int i, .str (Str.ofString "lost"), .str row]
/-- the nanny's reading of a page: rows' numbers, marks and texts, the stack (top first), what she has said -/
noncomputable def nagsGo (tab : Int) : List (Int × MK × Str) → List MK → List Dat → List Dat
  | [], _, out => out
  | (i, q, row) :: rest, st, out => match st with
    | [] => out
    | t :: r =>
      if lvM tab t < lvM tab q then nagsGo tab rest (q :: t :: r) (out ++ nagD i (askM true t q) row)
      else match popM tab (lvM tab q) (t :: r) with
        | [] => out
        | t' :: r' => if lvM tab t' < lvM tab q then out ++ [lostD i row] else nagsGo tab rest (t' :: r') (out ++ nagD i (askM false t' q) row)
noncomputable def bot : MK := ([], 0, 0, 0)
theorem lv_bot {tab : Int} (h : 1 ≤ tab) : lvM tab bot = 0 := by
  have e : (-tab).toNat = 0 := by omega
  simp [lvM, bot, level, ilSum, rangeKs, e]
theorem nagsGo_in {tab i : Int} {q t : MK} {row : Str} {rest : List (Int × MK × Str)} {r : List MK} {out : List Dat} (h : lvM tab t < lvM tab q) :
    nagsGo tab ((i, q, row) :: rest) (t :: r) out = nagsGo tab rest (q :: t :: r) (out ++ nagD i (askM true t q) row) := by
  rw [nagsGo]; simp only [if_pos h]
theorem nagsGo_lost {tab i : Int} {q t t' : MK} {row : Str} {rest : List (Int × MK × Str)} {r r' : List MK} {out : List Dat} (h : ¬ lvM tab t < lvM tab q) (hp : popM tab (lvM tab q) (t :: r) = t' :: r') (hl : lvM tab t' < lvM tab q) :
    nagsGo tab ((i, q, row) :: rest) (t :: r) out = out ++ [lostD i row] := by
  rw [nagsGo]; simp only [if_neg h, hp, if_pos hl]
theorem nagsGo_same {tab i : Int} {q t t' : MK} {row : Str} {rest : List (Int × MK × Str)} {r r' : List MK} {out : List Dat} (h : ¬ lvM tab t < lvM tab q) (hp : popM tab (lvM tab q) (t :: r) = t' :: r') (hl : ¬ lvM tab t' < lvM tab q) :
    nagsGo tab ((i, q, row) :: rest) (t :: r) out = nagsGo tab rest (t' :: r') (out ++ nagD i (askM false t' q) row) := by
  rw [nagsGo]; simp only [if_neg h, hp, if_neg hl]
theorem popM_stay {tab here : Int} {q : MK} {r : List MK} (h : ¬ lvM tab q > here) : popM tab here (q :: r) = q :: r := by rw [popM, if_neg h]
theorem popM_pop {tab here : Int} {q : MK} {r : List MK} (h : lvM tab q > here) : popM tab here (q :: r) = popM tab here r := by rw [popM, if_pos h]
theorem level_nonneg {cnt : List Int} {b nt ts : Int} (hb : 0 ≤ b) (hnt : 0 ≤ nt) (hts : 1 ≤ ts) (hc : ∀ c ∈ cnt, 0 ≤ c ∧ c ≤ 64) : 0 ≤ level cnt b nt ts := by
  have h1 : ∀ l : List Int, (∀ i ∈ l, 0 ≤ i) → 0 ≤ ilSum cnt ts l := by
    intro l
    induction l with
    | nil => intro _; exact Int.le_refl _
    | cons i r ih =>
      intro h
      have h2 : 0 ≤ i.fdiv ts := Int.fdiv_nonneg (h i (.head _)) (by omega)
      have h3 := (getD_bd hc (by decide) i.toNat).1
      have h4 := Int.mul_nonneg h2 h3
      have h5 := ih fun j hj => h j (.tail _ hj)
      simp only [ilSum, List.map_cons, List.sum_cons] at h5 ⊢
      omega
  have h6 := h1 (rangeKs ts (cnt.length - ts).toNat) fun i hi => by have := mem_rangeKs.mp hi; omega
  have h7 : 0 ≤ ts * (ilSum cnt ts (rangeKs ts (cnt.length - ts).toNat) + nt) := Int.mul_nonneg (by omega) (by omega)
  show 0 ≤ b + ts * (ilSum cnt ts (rangeKs ts (cnt.length - ts).toNat) + nt)
  omega
noncomputable def nagItems (rows : List Str) : List (Int × MK × Str) := (rangeKs 1 rows.length).zip ((rows.map wsOf).zip rows)
noncomputable def nagsV (tab : Int) (rows : List Str) : List Dat := nagsGo tab (nagItems rows.tail) [bot] []
theorem kstB_self {f : Str → Option Value} : ∀ {ps : List (Str × Value)}, (∀ q ∈ ps, f q.1 = some q.2) → kstB f ps = f := fun {ps} h => by
  funext y
  induction ps with
  | nil => rfl
  | cons q r ih =>
    have h2 := ih fun q hq => h q (.tail _ hq)
    simp only [kstB] at h2 ⊢
    split
    · rename_i e
      rw [e]; exact (h q (.head _)).symm
    · exact h2
end Mine
namespace Mine
/-- a row of the page: its column, its tabs and blanks, its text -/
noncomputable abbrev PR := Int × (Int × Int) × Str
noncomputable abbrev pr0 : PR := (0, (0, 0), Str.ofString "")
noncomputable def mkTB (p : Int × Int) : MK := (if p.1 = 0 then [] else [p.1], p.2, p.1 + p.2, p.1)
structure RowOK (tab : Int) (r : PR) : Prop where
  hc : 0 ≤ r.1 ∧ r.1 ≤ 24
  hp : r.2.1 = (0, r.1) ∨ r.2.1 = (r.1.fdiv tab, r.1.fmod tab)
  hw : wsOf r.2.2 = mkTB r.2.1
noncomputable abbrev pcol (pg : List PR) (i : Nat) : Int := (pg.getD i pr0).1
noncomputable abbrev ppr (pg : List PR) (i : Nat) : Int × Int := (pg.getD i pr0).2.1
noncomputable abbrev prow (pg : List PR) (i : Nat) : Str := (pg.getD i pr0).2.2
noncomputable def sizesV (a h : Int × Int) (tab col : Int) (deeper : Bool) : List Int :=
  if a.1 = h.1 then [] else if deeper = false then (rangeKs 1 (col + 1).toNat).filter fun k => decide (k ≠ tab) else
  if a.1 < h.1 then rangeKs 1 ((a.2 - h.2).fdiv (h.1 - a.1)).toNat else rangeKs (-((a.2 - h.2).fdiv (a.1 - h.1))) (h.2 + 2 - -((a.2 - h.2).fdiv (a.1 - h.1))).toNat
noncomputable def wordsP (deeper : Bool) : Str := if deeper then Str.ofString "indent not greater e.g. at tab size" else Str.ofString "indent not equal e.g. at tab size"
noncomputable def toldW (deeper : Bool) (sizes : List Int) : Str := ((if sizes.length > 1 then wordsP deeper ++ Str.ofString "s" else wordsP deeper) ++ Str.ofString " ") ++ Txt.join (Str.ofString ", ") (sizes.map strOf)
noncomputable def toldD (i : Int) (deeper : Bool) (sizes : List Int) (row : Str) : List Dat := if sizes = [] then [] else [.tuple [.int i, .str (toldW deeper sizes), .str row]]
noncomputable def backJ (pg : List PR) (c : Int) : Nat → Nat
  | 0 => 0
  | j + 1 => if pcol pg (j + 1) > c then backJ pg c j else j + 1
noncomputable def toldGo (tab : Int) (pg : List PR) : Nat → Nat → List Int → List Dat → List Dat
  | 0, _, _, out => out
  | k + 1, i, heads, out =>
    let j := backJ pg (pcol pg i) (i - 1)
    let deeper := decide (pcol pg j < pcol pg i)
    if deeper = true ∧ j < i - 1 then out ++ [lostD i (prow pg i)]
    else toldGo tab pg k (i + 1) (heads ++ [if deeper then (i : Int) else heads.getD j 0]) (out ++ toldD i deeper (sizesV (ppr pg (heads.getD j 0).toNat) (ppr pg i) tab (pcol pg i) deeper) (prow pg i))
noncomputable def toldV (tab : Int) (pg : List PR) : List Dat := toldGo tab pg (pg.length - 1) 1 [0] []
theorem rangeKs_zero (a : Int) : rangeKs a 0 = [] := rfl
theorem filt_hi (hi : Int) : ∀ (n : Nat) (a : Int), hi - a + 1 ≤ n → (rangeKs a n).filter (fun k => decide (k ≤ hi)) = rangeKs a (hi - a + 1).toNat
  | 0, a, h => by
    have e : (hi - a + 1).toNat = 0 := by omega
    rw [e]; rfl
  | n + 1, a, h => by
    rw [kll_cons, List.filter_cons]
    by_cases ha : a ≤ hi
    · have e : (hi - a + 1).toNat = (hi - (a + 1) + 1).toNat + 1 := by omega
      rw [if_pos (by simpa using ha), filt_hi hi n (a + 1) (by omega), e, kll_cons]
    · have e : (hi - a + 1).toNat = 0 := by omega
      rw [if_neg (by simpa using ha), e, List.filter_eq_nil_iff.mpr]
      · rfl
      · intro k hk
        have := mem_rangeKs.mp hk
        simp; omega
theorem filt_lo (lo : Int) : ∀ (n : Nat) (a : Int), a ≤ lo → (rangeKs a n).filter (fun k => decide (lo ≤ k)) = rangeKs lo (a + n - lo).toNat
  | 0, a, h => by
    have e : (a + (0 : Nat) - lo).toNat = 0 := by omega
    rw [e]; rfl
  | n + 1, a, h => by
    by_cases ha : lo = a
    · have e : (a + (n + 1 : Nat) - lo).toNat = n + 1 := by omega
      rw [e, ha, List.filter_eq_self.mpr]
      intro k hk
      have := mem_rangeKs.mp hk
      simp; omega
    · rw [kll_cons, List.filter_cons, if_neg (by simp; omega), filt_lo lo n (a + 1) (by omega)]
      congr 1
      omega
theorem mkTB_cnt (p : Int × Int) : ((mkTB p).1.length : Int) ≤ 1 := by unfold mkTB; split <;> simp
theorem lv_mkTB {p : Int × Int} {ts : Int} (h : 1 ≤ ts) : level (mkTB p).1 (mkTB p).2.1 (mkTB p).2.2.2 ts = p.2 + ts * p.1 := by
  have e : (((mkTB p).1.length : Int) - ts).toNat = 0 := by have := mkTB_cnt p; omega
  show p.2 + ts * (ilSum _ ts (rangeKs ts (((mkTB p).1.length : Int) - ts).toNat) + p.1) = _
  rw [e, rangeKs_zero]
  simp [ilSum]
theorem long_mkTB {p : Int × Int} (h : 0 ≤ p.2) : longV (mkTB p).1 (mkTB p).2.1 = p.2 := by
  have := mkTB_cnt p
  show max (((mkTB p).1.length : Int) - 1) p.2 = p.2
  omega
theorem mkTB_inj {p q : Int × Int} (hp : 0 ≤ p.1) (hq : 0 ≤ q.1) : ((mkTB p).1 = (mkTB q).1 ∧ (mkTB p).2.1 = (mkTB q).2.1) ↔ p = q := by
  obtain ⟨a, b⟩ := p
  obtain ⟨c, d⟩ := q
  unfold mkTB
  dsimp only at *
  constructor
  · rintro ⟨h1, h2⟩
    subst h2
    by_cases ha : a = 0 <;> by_cases hc : c = 0
    · rw [ha, hc]
    · rw [if_pos ha, if_neg hc] at h1; cases h1
    · rw [if_neg ha, if_pos hc] at h1; cases h1
    · rw [if_neg ha, if_neg hc] at h1
      cases h1; rfl
  · intro e; cases e; exact ⟨rfl, rfl⟩
structure PairOK (tab c : Int) (p : Int × Int) : Prop where
  t0 : 0 ≤ p.1
  b0 : 0 ≤ p.2
  sum : c = p.2 + tab * p.1
  one : p.1 = 0 ∨ p.2 < tab
  le : c ≤ 24
theorem RowOK.pair {tab : Int} {r : PR} (ht : 1 ≤ tab) (h : RowOK tab r) : PairOK tab r.1 r.2.1 := by
  obtain ⟨hc, hp, hw⟩ := h
  obtain ⟨c, p, s⟩ := r
  dsimp only at *
  rcases hp with rfl | rfl
  · exact ⟨Int.le_refl _, hc.1, by simp, .inl rfl, hc.2⟩
  · have h1 := Int.fdiv_nonneg hc.1 (by omega : 0 ≤ tab)
    have h2 := Int.fmod_nonneg_of_pos c (by omega : 0 < tab)
    have h3 := Int.fmod_lt_of_pos c (by omega : 0 < tab)
    have h4 := Int.fmod_add_mul_fdiv c tab
    exact ⟨h1, h2, h4.symm, .inr h3, hc.2⟩
theorem le_fdiv {a b k : Int} (hb : 0 < b) : k ≤ a.fdiv b ↔ k * b ≤ a := by
  rw [Int.fdiv_eq_ediv_of_nonneg _ (Int.le_of_lt hb)]
  exact Int.le_ediv_iff_mul_le hb
section
variable {tab ca cb : Int} {a b : Int × Int}
theorem nlW_eq (ha : PairOK tab ca a) (hb : PairOK tab cb b) (hc : ca < cb) (ht : 1 ≤ tab) (hne : a.1 ≠ b.1) :
    nlW (mkTB a).1 (mkTB a).2.1 (mkTB a).2.2.2 (mkTB b).1 (mkTB b).2.1 (mkTB b).2.2.2 (rangeKs 1 (topN (mkTB a).1 (mkTB a).2.1 (mkTB b).1 (mkTB b).2.1)) = sizesV a b tab cb true := by
  have etop : topN (mkTB a).1 (mkTB a).2.1 (mkTB b).1 (mkTB b).2.1 = (max a.2 b.2 + 1).toNat := by
    show (max (longV (mkTB a).1 (mkTB a).2.1) (longV (mkTB b).1 (mkTB b).2.1) + 1).toNat = _
    rw [long_mkTB ha.b0, long_mkTB hb.b0]
  rw [etop]
  unfold nlW sizesV
  rw [if_neg hne, if_neg (by decide : ¬ (true = false))]
  have hlv : ∀ k ∈ rangeKs 1 (max a.2 b.2 + 1).toNat, (decide (level (mkTB a).1 (mkTB a).2.1 (mkTB a).2.2.2 k ≥ level (mkTB b).1 (mkTB b).2.1 (mkTB b).2.2.2 k)) = decide (k * (b.1 - a.1) ≤ a.2 - b.2) := by
    intro k hk
    have := mem_rangeKs.mp hk
    rw [lv_mkTB (by omega), lv_mkTB (by omega)]
    congr 1
    rw [Int.mul_sub]
    apply propext
    constructor <;> intro <;> omega
  rw [List.filter_congr hlv]
  have a0 := ha.b0
  have b0 := hb.b0
  by_cases hlt : a.1 < b.1
  · rw [if_pos hlt]
    have e : ∀ k ∈ rangeKs 1 (max a.2 b.2 + 1).toNat, decide (k * (b.1 - a.1) ≤ a.2 - b.2) = decide (k ≤ (a.2 - b.2).fdiv (b.1 - a.1)) := fun k _ => by
      congr 1; exact propext (le_fdiv (by omega)).symm
    rw [List.filter_congr e, filt_hi]
    · congr 1; omega
    · by_cases h0 : (a.2 - b.2).fdiv (b.1 - a.1) ≤ 0
      · omega
      · have h1 := (le_fdiv (a := a.2 - b.2) (b := b.1 - a.1) (by omega)).mp (Int.le_refl _)
        have h2 : (a.2 - b.2).fdiv (b.1 - a.1) * 1 ≤ (a.2 - b.2).fdiv (b.1 - a.1) * (b.1 - a.1) := Int.mul_le_mul_of_nonneg_left (by omega) (by omega)
        omega
  · rw [if_neg hlt]
    have e : ∀ k ∈ rangeKs 1 (max a.2 b.2 + 1).toNat, decide (k * (b.1 - a.1) ≤ a.2 - b.2) = decide (-((a.2 - b.2).fdiv (a.1 - b.1)) ≤ k) := fun k _ => by
      congr 1
      have h1 := le_fdiv (a := a.2 - b.2) (b := a.1 - b.1) (k := -k) (by omega)
      have h2 : -k * (a.1 - b.1) = k * (b.1 - a.1) := by rw [Int.neg_mul, ← Int.mul_neg]; congr 1; omega
      rw [h2] at h1
      rw [← h1]
      apply propext
      constructor <;> intro <;> omega
    have hd : a.2 < b.2 := by
      have h1 := ha.sum
      have h2 := hb.sum
      have h3 : tab * b.1 < tab * a.1 := Int.mul_lt_mul_of_pos_left (by omega) (by omega)
      omega
    have hneg : 1 ≤ -((a.2 - b.2).fdiv (a.1 - b.1)) := by
      have h1 := le_fdiv (a := a.2 - b.2) (b := a.1 - b.1) (k := 0) (by omega)
      rw [Int.zero_mul] at h1
      omega
    rw [List.filter_congr e, filt_lo _ _ _ hneg]
    congr 1
    omega
theorem neW_eq (ha : PairOK tab ca a) (hb : PairOK tab cb b) (hc : ca = cb) (ht : 1 ≤ tab) (hne : a.1 ≠ b.1) :
    neW (mkTB a).1 (mkTB a).2.1 (mkTB a).2.2.2 (mkTB b).1 (mkTB b).2.1 (mkTB b).2.2.2 (rangeKs 1 (topN (mkTB a).1 (mkTB a).2.1 (mkTB b).1 (mkTB b).2.1)) = sizesV a b tab cb false := by
  have etop : topN (mkTB a).1 (mkTB a).2.1 (mkTB b).1 (mkTB b).2.1 = (max a.2 b.2 + 1).toNat := by
    show (max (longV (mkTB a).1 (mkTB a).2.1) (longV (mkTB b).1 (mkTB b).2.1) + 1).toNat = _
    rw [long_mkTB ha.b0, long_mkTB hb.b0]
  rw [etop]
  unfold neW sizesV
  rw [if_neg hne, if_pos rfl]
  have hmax : max a.2 b.2 = cb := by
    have a0 := ha.b0
    have b0 := hb.b0
    have h1 := ha.sum
    have h2 := hb.sum
    have at0 := ha.t0
    have bt0 := hb.t0
    have key : a.1 = 0 ∨ b.1 = 0 := by
      rcases ha.one with h | h
      · exact .inl h
      rcases hb.one with h' | h'
      · exact .inr h'
      exfalso
      rcases Int.lt_or_gt_of_ne hne with hlt | hlt
      · have h3 : tab * (a.1 + 1) ≤ tab * b.1 := Int.mul_le_mul_of_nonneg_left (by omega) (by omega)
        rw [Int.mul_add] at h3
        omega
      · have h3 : tab * (b.1 + 1) ≤ tab * a.1 := Int.mul_le_mul_of_nonneg_left (by omega) (by omega)
        rw [Int.mul_add] at h3
        omega
    rcases key with h | h
    · rw [h] at h1
      have : 0 ≤ tab * b.1 := Int.mul_nonneg (by omega) bt0
      omega
    · rw [h] at h2
      have : 0 ≤ tab * a.1 := Int.mul_nonneg (by omega) at0
      omega
  rw [hmax]
  apply List.filter_congr
  intro k hk
  have hk1 := mem_rangeKs.mp hk
  rw [lv_mkTB (by omega), lv_mkTB (by omega)]
  congr 1
  have h1 := ha.sum
  have h2 := hb.sum
  apply propext
  refine not_congr ⟨fun h => ?_, fun h => ?_⟩
  · have h3 : (k - tab) * (a.1 - b.1) = 0 := by
      rw [Int.sub_mul, Int.mul_sub, Int.mul_sub]; omega
    rcases Int.mul_eq_zero.mp h3 with h4 | h4
    · omega
    · exact absurd (by omega) hne
  · subst h; omega
theorem wordsE (d : Bool) (ts : List Int) : (if d then Str.ofString "indent not greater e.g. " else Str.ofString "indent not equal e.g. ") ++ wordsV ts = toldW d ts := by
  unfold wordsV toldW wordsP
  have e1 : Str.ofString "indent not greater e.g. " ++ Str.ofString "at tab sizes" = Str.ofString "indent not greater e.g. at tab size" ++ Str.ofString "s" := by decide
  have e2 : Str.ofString "indent not greater e.g. " ++ Str.ofString "at tab size" = Str.ofString "indent not greater e.g. at tab size" := by decide
  have e3 : Str.ofString "indent not equal e.g. " ++ Str.ofString "at tab sizes" = Str.ofString "indent not equal e.g. at tab size" ++ Str.ofString "s" := by decide
  have e4 : Str.ofString "indent not equal e.g. " ++ Str.ofString "at tab size" = Str.ofString "indent not equal e.g. at tab size" := by decide
  have as : ∀ x y z : Str, x ++ y ++ z = x ++ (y ++ z) := fun x y z => by
    show Str.mk _ = Str.mk _
    congr 1
    exact Array.append_assoc ..
  cases d <;> by_cases h : ts.length > 1 <;> simp only [h, if_true, if_false, Bool.false_eq_true] <;> simp only [← as, e1, e2, e3, e4]
theorem ask_plain (ha : PairOK tab ca a) (hb : PairOK tab cb b) (ht : 1 ≤ tab) (d : Bool) (hd : if d then ca < cb else ca = cb) (i : Int) (row : Str) :
    nagD i (askM d (mkTB a) (mkTB b)) row = toldD i d (sizesV a b tab cb d) row := by
  have a0 := ha.b0
  have b0 := hb.b0
  have h1 := ha.sum
  have h2 := hb.sum
  by_cases ht1 : a.1 = b.1
  · have es : sizesV a b tab cb d = [] := by unfold sizesV; rw [if_pos ht1]
    have ea : askM d (mkTB a) (mkTB b) = none := by
      cases d with
      | true =>
        simp only [if_true] at hd
        refine askV_less rfl ?_
        rw [ht1] at h1
        unfold lessV
        rw [if_neg (show ¬ ((mkTB a).2.2.1 ≥ (mkTB b).2.2.1) from (by omega : ¬ (a.1 + a.2 ≥ b.1 + b.2))), if_pos ⟨mkTB_cnt a, mkTB_cnt b⟩]
        exact decide_eq_true (show a.1 ≤ b.1 by omega)
      | false =>
        simp only [Bool.false_eq_true, if_false] at hd
        refine askV_eq (decide_eq_true ?_)
        rw [mkTB_inj ha.t0 hb.t0]
        rw [ht1] at h1
        exact Prod.ext ht1 (by omega)
    rw [es, ea]; rfl
  · cases d with
    | true =>
      simp only [if_true] at hd
      have hs := nlW_eq ha hb hd ht ht1
      have hne : sizesV a b tab cb true = [] ↔ lessV (mkTB a).1 (mkTB a).2.1 (mkTB a).2.2.1 (mkTB a).2.2.2 (mkTB b).1 (mkTB b).2.1 (mkTB b).2.2.1 (mkTB b).2.2.2 = true := by
        have el : lessV (mkTB a).1 (mkTB a).2.1 (mkTB a).2.2.1 (mkTB a).2.2.2 (mkTB b).1 (mkTB b).2.1 (mkTB b).2.2.1 (mkTB b).2.2.2 = decide (a.1 + a.2 < b.1 + b.2 ∧ a.1 ≤ b.1) := by
          unfold lessV
          by_cases q : a.1 + a.2 ≥ b.1 + b.2
          · rw [if_pos (show (mkTB a).2.2.1 ≥ (mkTB b).2.2.1 from q)]; symm; exact decide_eq_false (by omega)
          · rw [if_neg (show ¬ (mkTB a).2.2.1 ≥ (mkTB b).2.2.1 from q), if_pos ⟨mkTB_cnt a, mkTB_cnt b⟩]
            by_cases r : a.1 ≤ b.1
            · rw [decide_eq_true (show (mkTB a).2.2.2 ≤ (mkTB b).2.2.2 from r), decide_eq_true (by omega)]
            · rw [decide_eq_false (show ¬ (mkTB a).2.2.2 ≤ (mkTB b).2.2.2 from r), decide_eq_false (by omega)]
        rw [el, decide_eq_true_iff]
        unfold sizesV
        rw [if_neg ht1, if_neg (by decide : ¬ (true = false))]
        have hz : ∀ (x : Int) (n : Nat), rangeKs x n = [] ↔ n = 0 := fun x n => by cases n with
          | zero => exact ⟨fun _ => rfl, fun _ => rfl⟩
          | succ n => rw [kll_cons]; exact ⟨fun h => (List.cons_ne_nil _ _ h).elim, fun h => by omega⟩
        by_cases hlt : a.1 < b.1
        · rw [if_pos hlt, hz]
          have q := le_fdiv (a := a.2 - b.2) (b := b.1 - a.1) (k := 1) (by omega)
          rw [Int.one_mul] at q
          constructor
          · intro e
            have : ¬ (1 ≤ (a.2 - b.2).fdiv (b.1 - a.1)) := by omega
            rw [q] at this
            omega
          · intro e
            have : ¬ (1 ≤ (a.2 - b.2).fdiv (b.1 - a.1)) := by rw [q]; omega
            omega
        · rw [if_neg hlt, hz]
          have q := le_fdiv (a := a.2 - b.2) (b := a.1 - b.1) (k := -b.2 - 1) (by omega)
          have r : (-b.2 - 1) * (a.1 - b.1) ≤ (-b.2 - 1) * 1 := Int.mul_le_mul_of_nonpos_left (by omega) (by omega)
          have : -b.2 - 1 ≤ (a.2 - b.2).fdiv (a.1 - b.1) := q.mpr (by omega)
          constructor
          · intro e; omega
          · intro e; omega
      unfold toldD
      by_cases hz : sizesV a b tab cb true = []
      · rw [if_pos hz, show askM true (mkTB a) (mkTB b) = none from askV_less rfl (hne.mp hz)]; rfl
      · have hf : lessV (mkTB a).1 (mkTB a).2.1 (mkTB a).2.2.1 (mkTB a).2.2.2 (mkTB b).1 (mkTB b).2.1 (mkTB b).2.2.1 (mkTB b).2.2.2 = false := by
          rw [Bool.eq_false_iff]; exact fun q => hz (hne.mpr q)
        rw [if_neg hz, show askM true (mkTB a) (mkTB b) = _ from askV_ng rfl hf]
        unfold ngWords
        rw [hs, ← wordsE true]
        rfl
    | false =>
      simp only [Bool.false_eq_true, if_false] at hd
      have hs := neW_eq ha hb hd ht ht1
      have hne : a ≠ b := fun q => ht1 (by rw [q])
      have hz : sizesV a b tab cb false ≠ [] := by
        have at0 := ha.t0
        have bt0 := hb.t0
        have hcb : 0 < cb := by
          rcases Int.lt_or_gt_of_ne ht1 with q | q
          · have : 0 < tab * b.1 := Int.mul_pos (by omega) (by omega)
            omega
          · have : 0 < tab * a.1 := Int.mul_pos (by omega) (by omega)
            omega
        unfold sizesV
        rw [if_neg ht1, if_pos rfl]
        intro q
        rw [List.filter_eq_nil_iff] at q
        by_cases h5 : tab = 1
        · exact q 2 (mem_rangeKs.mpr ⟨by omega, by omega⟩) (by simp; omega)
        · exact q 1 (mem_rangeKs.mpr ⟨by omega, by omega⟩) (by simp; omega)
      unfold toldD
      rw [if_neg hz, show askM false (mkTB a) (mkTB b) = _ from askV_ne (decide_eq_false (by rw [mkTB_inj ha.t0 hb.t0]; exact hne))]
      unfold neWords
      rw [hs, ← wordsE false]
      rfl
end
/-- the rows read so far (latest first: column, the mark of its block's first row) and the stack -/
inductive Inv (tab : Int) : List (Int × MK) → List MK → Prop
  | base : Inv tab [(0, bot)] [bot]
  | opens {c c0 : Int} {m m0 : MK} {h : List (Int × MK)} {st : List MK} : Inv tab ((c0, m0) :: h) st → 0 ≤ c → lvM tab m = c → c0 < c → Inv tab ((c, m) :: (c0, m0) :: h) (m :: st)
  | same {c : Int} {m : MK} {h h' : List (Int × MK)} {st st' : List MK} : Inv tab h st → h.dropWhile (fun p => decide (p.1 > c)) = (c, m) :: h' → popM tab c st = m :: st' → 0 ≤ c → lvM tab m = c → Inv tab ((c, m) :: h) (m :: st')
theorem Inv.top {tab : Int} (ht : 1 ≤ tab) : ∀ {h : List (Int × MK)} {st : List MK}, Inv tab h st → ∃ c m h' st', h = (c, m) :: h' ∧ st = m :: st' ∧ lvM tab m = c ∧ 0 ≤ c
  | _, _, .base => ⟨0, bot, [], [], rfl, rfl, lv_bot ht, Int.le_refl _⟩
  | _, _, .opens _ h0 h1 _ => ⟨_, _, _, _, rfl, rfl, h1, h0⟩
  | _, _, .same _ _ _ h0 h1 => ⟨_, _, _, _, rfl, rfl, h1, h0⟩
theorem popM_pop2 {tab c c' : Int} (h : c < c') : ∀ st : List MK, popM tab c (popM tab c' st) = popM tab c st
  | [] => rfl
  | q :: r => by
    by_cases h1 : lvM tab q > c'
    · rw [popM_pop h1, popM_pop (by omega), popM_pop2 h r]
    · rw [popM_stay h1]
theorem Inv.drop {tab : Int} (ht : 1 ≤ tab) {c : Int} (hc : 0 ≤ c) : ∀ {h : List (Int × MK)} {st : List MK}, Inv tab h st → Inv tab (h.dropWhile fun p => decide (p.1 > c)) (popM tab c st)
  | _, _, .base => by
    have e : ([((0 : Int), bot)].dropWhile fun p => decide (p.1 > c)) = [(0, bot)] := by rw [List.dropWhile_cons_of_neg]; simp; omega
    rw [e, popM_stay (by rw [lv_bot ht]; omega)]
    exact .base
  | _, _, .opens (c := c') hI h0 h1 h2 => by
    by_cases hq : c' > c
    · rw [List.dropWhile_cons_of_pos (by simpa using hq), popM_pop (by rw [h1]; exact hq)]
      exact hI.drop ht hc
    · rw [List.dropWhile_cons_of_neg (by simpa using hq), popM_stay (by rw [h1]; exact hq)]
      exact .opens hI h0 h1 h2
  | _, _, .same (c := c') hI h2 h3 h0 h1 => by
    by_cases hq : c' > c
    · rw [List.dropWhile_cons_of_pos (by simpa using hq), ← h3, popM_pop2 hq]
      exact hI.drop ht hc
    · rw [List.dropWhile_cons_of_neg (by simpa using hq), popM_stay (by rw [h1]; exact hq)]
      exact .same hI h2 h3 h0 h1
/-- the rows read so far, out of the page and the blocks' heads -/
noncomputable def histOf (pg : List PR) (heads : List Int) : Nat → List (Int × MK)
  | 0 => []
  | k + 1 => (pcol pg k, mkTB (ppr pg (heads.getD k 0).toNat)) :: histOf pg heads k
theorem histOf_app (pg : List PR) (heads : List Int) (x : Int) : ∀ k, k ≤ heads.length → histOf pg (heads ++ [x]) k = histOf pg heads k
  | 0, _ => rfl
  | k + 1, h => by
    have e : (heads ++ [x]).getD k 0 = heads.getD k 0 := by
      simp only [List.getD_eq_getElem?_getD, List.getElem?_append_left (show k < heads.length by omega)]
    rw [histOf, histOf, e, histOf_app pg heads x k (by omega)]
theorem back_hist {pg : List PR} {heads : List Int} {c : Int} (h0 : pcol pg 0 ≤ c) : ∀ k, (histOf pg heads (k + 1)).dropWhile (fun p => decide (p.1 > c)) = histOf pg heads (backJ pg c k + 1)
  | 0 => by rw [histOf, List.dropWhile_cons_of_neg (by simpa using h0)]; rfl
  | k + 1 => by
    rw [histOf, backJ]
    by_cases h : pcol pg (k + 1) > c
    · rw [List.dropWhile_cons_of_pos (by simpa using h), if_pos h, back_hist h0 k]
    · rw [List.dropWhile_cons_of_neg (by simpa using h), if_neg h]; rfl
theorem backJ_le (pg : List PR) (c : Int) : ∀ k, backJ pg c k ≤ k
  | 0 => Nat.le_refl _
  | k + 1 => by
    rw [backJ]; split
    · have := backJ_le pg c k; omega
    · exact Nat.le_refl _
theorem backJ_stay {pg : List PR} {c : Int} {k : Nat} (h : ¬ pcol pg k > c) : backJ pg c k = k := by
  cases k with
  | zero => rfl
  | succ k => rw [backJ, if_neg h]
theorem backJ_le_col {pg : List PR} {c : Int} (h0 : pcol pg 0 ≤ c) : ∀ k, pcol pg (backJ pg c k) ≤ c
  | 0 => h0
  | k + 1 => by
    rw [backJ]; split
    · exact backJ_le_col h0 k
    · omega
theorem backJ_lt {pg : List PR} {c : Int} {k : Nat} (h : pcol pg k > c) (h0 : pcol pg 0 ≤ c) : backJ pg c k < k := by
  cases k with
  | zero => omega
  | succ k => rw [backJ, if_pos h]; have := backJ_le pg c k; omega
noncomputable def itemsFrom (i : Int) (pg : List PR) : List (Int × MK × Str) := (rangeKs i pg.length).zip ((pg.map fun r => wsOf r.2.2).zip (pg.map fun r => r.2.2))
theorem itemsFrom_cons (i : Int) (r : PR) (pg : List PR) : itemsFrom i (r :: pg) = (i, wsOf r.2.2, r.2.2) :: itemsFrom (i + 1) pg := by
  unfold itemsFrom
  rw [List.length_cons, kll_cons]
  rfl
theorem plain_go {tab : Int} {pg : List PR} (ht : 1 ≤ tab) (hok : ∀ r ∈ pg, RowOK tab r) (hhd : pg.head? = some pr0) : ∀ (k i : Nat) (heads : List Int) (st : List MK) (out : List Dat), 1 ≤ i → i + k = pg.length → heads.length = i → (∀ z ∈ heads, 0 ≤ z ∧ z < i) →
    (∀ j, j < i → pcol pg (heads.getD j 0).toNat = pcol pg j) → Inv tab (histOf pg heads i) st → nagsGo tab (itemsFrom i (pg.drop i)) st out = toldGo tab pg k i heads out
  | 0, i, heads, st, out, h1, h2, h3, h4, h5, h6 => by
    rw [List.drop_of_length_le (by omega)]
    cases st <;> rfl
  | k + 1, i, heads, st, out, h1, h2, h3, h4, h5, h6 => by
    have hi : i < pg.length := by omega
    have e0 : pg.getD i pr0 = pg[i] := by rw [List.getD_eq_getElem?_getD, List.getElem?_eq_getElem hi]; rfl
    have hgo : ∀ j, j < pg.length → RowOK tab (pg.getD j pr0) := fun j hj => by
      rw [List.getD_eq_getElem?_getD, List.getElem?_eq_getElem hj]
      exact hok _ (List.getElem_mem hj)
    have ok := hgo i hi
    have okp := ok.pair ht
    have hw := ok.hw
    rw [List.drop_eq_getElem_cons hi, itemsFrom_cons, ← e0, hw, toldGo]
    have hc0 : 0 ≤ pcol pg i := ok.hc.1
    have h00 : pcol pg 0 ≤ pcol pg i := by
      have e : pcol pg 0 = 0 := by
        cases pg with
        | nil => cases hhd
        | cons r pg => simp at hhd; subst hhd; rfl
      rw [e]; exact hc0
    obtain ⟨i', rfl⟩ : ∃ i', i = i' + 1 := ⟨i - 1, by omega⟩
    have hj := backJ_le pg (pcol pg (i' + 1)) i'
    have hjc := backJ_le_col h00 i'
    have hbk := back_hist (heads := heads) h00 i'
    have hdr := h6.drop ht hc0
    rw [hbk] at hdr
    have elvi : lvM tab (mkTB (ppr pg (i' + 1))) = pcol pg (i' + 1) := by
      rw [show lvM tab (mkTB (ppr pg (i' + 1))) = _ from lv_mkTB ht]; exact okp.sum.symm
    obtain ⟨c1, m1, hh1, st1, e1, rfl, e3, e4⟩ := h6.top ht
    rw [histOf, List.cons.injEq, Prod.mk.injEq] at e1
    obtain ⟨⟨e5, e6⟩, e7⟩ := e1
    have hz : ∀ j, j < i' + 1 → 0 ≤ heads.getD j 0 ∧ heads.getD j 0 < (i' + 1 : Nat) := fun j hj => by
      have : heads.getD j 0 ∈ heads := by rw [List.getD_eq_getElem?_getD, List.getElem?_eq_getElem (by omega)]; exact List.getElem_mem _
      exact h4 _ this
    have hask : ∀ (j : Nat) (d : Bool), j < i' + 1 → (if d then pcol pg j < pcol pg (i' + 1) else pcol pg j = pcol pg (i' + 1)) →
        nagD ((i' + 1 : Nat) : Int) (askM d (mkTB (ppr pg (heads.getD j 0).toNat)) (mkTB (ppr pg (i' + 1)))) (prow pg (i' + 1)) = toldD ((i' + 1 : Nat) : Int) d (sizesV (ppr pg (heads.getD j 0).toNat) (ppr pg (i' + 1)) tab (pcol pg (i' + 1)) d) (prow pg (i' + 1)) := fun j d hjl hd => by
      have hzj := hz j hjl
      have okh := (hgo (heads.getD j 0).toNat (by omega)).pair ht
      exact ask_plain okh okp ht d (by rw [show (pg.getD (heads.getD j 0).toNat pr0).1 = pcol pg j from h5 j hjl]; exact hd) _ _
    have hnew : ∀ x : Int, 0 ≤ x ∧ x ≤ (i' + 1 : Nat) → ∀ z ∈ heads ++ [x], 0 ≤ z ∧ z < (i' + 1 + 1 : Nat) := fun x hx z hz => by
      rcases List.mem_append.mp hz with hz | hz
      · have := h4 z hz; omega
      · rw [List.mem_singleton.mp hz]; omega
    have hget : ∀ (x : Int), (heads ++ [x]).getD (i' + 1) 0 = x := fun x => by
      rw [List.getD_eq_getElem?_getD, List.getElem?_append_right (by omega), h3]; simp
    have hgetL : ∀ (x : Int) (j : Nat), j < i' + 1 → (heads ++ [x]).getD j 0 = heads.getD j 0 := fun x j hj => by
      simp only [List.getD_eq_getElem?_getD, List.getElem?_append_left (show j < heads.length by omega)]
    have hhead : ∀ (x : Int), pcol pg x.toNat = pcol pg (i' + 1) → ∀ j, j < i' + 1 + 1 → pcol pg ((heads ++ [x]).getD j 0).toNat = pcol pg j := fun x hx j hj => by
      by_cases hq : j = i' + 1
      · rw [hq, hget]; exact hx
      · rw [hgetL x j (by omega)]; exact h5 j (by omega)
    have hist : ∀ x : Int, histOf pg (heads ++ [x]) (i' + 1 + 1) = (pcol pg (i' + 1), mkTB (ppr pg x.toNat)) :: histOf pg heads (i' + 1) := fun x => by
      rw [histOf, hget, histOf_app _ _ _ _ (by omega)]
    simp only [Nat.add_sub_cancel]
    by_cases hdeep : pcol pg i' < pcol pg (i' + 1)
    · -- opens
      have hb : backJ pg (pcol pg (i' + 1)) i' = i' := backJ_stay (by omega)
      rw [hb]
      rw [nagsGo_in (by rw [e3, elvi, ← e5]; exact hdeep)]
      rw [decide_eq_true hdeep, if_neg (show ¬ (true = true ∧ i' < i') by omega), if_pos rfl, ← e6, hask i' true (by omega) (by simpa using hdeep)]
      refine plain_go ht hok hhd k (i' + 1 + 1) _ _ _ (by omega) (by omega) (by simp [h3]) (hnew _ ⟨by omega, Int.le_refl _⟩) (hhead _ (by simp)) ?_
      rw [hist]
      have := h6
      rw [histOf] at this ⊢
      rw [e6] at *
      exact .opens this hc0 elvi hdeep
    · -- pops
      obtain ⟨c2, m2, hh2, st2, f1, f2, f3, f4⟩ := hdr.top ht
      rw [histOf, List.cons.injEq, Prod.mk.injEq] at f1
      obtain ⟨⟨f5, f6⟩, f7⟩ := f1
      have hnd : ¬ lvM tab m1 < lvM tab (mkTB (ppr pg (i' + 1))) := by rw [e3, elvi, ← e5]; exact hdeep
      have hpop : popM tab (lvM tab (mkTB (ppr pg (i' + 1)))) (m1 :: st1) = m2 :: st2 := by rw [elvi]; exact f2
      by_cases hl : pcol pg (backJ pg (pcol pg (i' + 1)) i') < pcol pg (i' + 1)
      · have hjl : backJ pg (pcol pg (i' + 1)) i' < i' := by
          by_cases hq : pcol pg i' > pcol pg (i' + 1)
          · exact backJ_lt hq h00
          · have : backJ pg (pcol pg (i' + 1)) i' = i' := backJ_stay hq
            rw [this] at hl; exact absurd hl hdeep
        rw [nagsGo_lost hnd hpop (by rw [f3, elvi, ← f5]; exact hl), decide_eq_true hl, if_pos ⟨rfl, hjl⟩]
      · rw [nagsGo_same hnd hpop (by rw [f3, elvi, ← f5]; exact hl), decide_eq_false hl, if_neg (fun q => Bool.false_ne_true q.1), if_neg Bool.false_ne_true, ← f6, hask _ false (by omega) (by simp; omega)]
        have hzj := hz (backJ pg (pcol pg (i' + 1)) i') (by omega)
        refine plain_go ht hok hhd k (i' + 1 + 1) _ _ _ (by omega) (by omega) (by simp [h3]) (hnew _ ⟨hzj.1, by omega⟩) (hhead _ (by rw [h5 _ (by omega)]; omega)) ?_
        rw [hist]
        have ec : pcol pg (backJ pg (pcol pg (i' + 1)) i') = pcol pg (i' + 1) := by omega
        refine .same (h' := histOf pg heads (backJ pg (pcol pg (i' + 1)) i')) h6 ?_ (by rw [f2, f6]) hc0 (by rw [f6, f3, ← f5, ec])
        rw [hbk, histOf, ec]
theorem plain02 {tab : Int} {pg : List PR} (ht : 1 ≤ tab) (hok : ∀ r ∈ pg, RowOK tab r) (hhd : pg.head? = some pr0) : nagsV tab (pg.map fun r => r.2.2) = toldV tab pg := by
  obtain ⟨r, pg, rfl⟩ : ∃ r p, pg = r :: p := by
    cases pg with
    | nil => cases hhd
    | cons r p => exact ⟨r, p, rfl⟩
  simp at hhd
  subst hhd
  have := plain_go ht hok rfl pg.length 1 [0] [bot] [] (Nat.le_refl _) (by simp; omega) rfl (by simp) (fun j hj => by
    have : j = 0 := by omega
    subst this; rfl) (by show Inv tab [(pcol (pr0 :: pg) 0, mkTB (ppr (pr0 :: pg) 0))] [bot]; exact .base)
  rw [List.drop_one, List.tail_cons] at this
  unfold nagsV toldV
  rw [show (pr0 :: pg).length - 1 = pg.length by simp, ← this]
  unfold nagItems itemsFrom
  simp only [List.map_cons, List.tail_cons, List.length_map, List.map_map]
  rfl
end Mine
namespace Mine
theorem fold_blanks (cnt : List Int) (r : List Nat) (nt : Int) : ∀ (q : Nat) (b n : Int), wsFold (List.replicate q 32 ++ r) cnt b n nt = wsFold r cnt (b + q) (n + q) nt
  | 0, b, n => by simp
  | q + 1, b, n => by
    rw [List.replicate_succ, List.cons_append, wsFold, if_pos rfl, fold_blanks cnt r nt q]
    congr 1 <;> omega
theorem fold_tabs1 (r : List Nat) : ∀ (p : Nat) (c n nt : Int), wsFold (List.replicate p 9 ++ r) [c] 0 n nt = wsFold r [c + p] 0 (n + p) (nt + p)
  | 0, c, n, nt => by simp
  | p + 1, c, n, nt => by
    rw [List.replicate_succ, List.cons_append, wsFold, if_neg (by decide), if_pos rfl, show wsBump [c] 0 = [c + 1] from rfl, fold_tabs1 r p]
    congr 1
    · congr 1; omega
    · omega
    · omega
theorem fold_tabs (r : List Nat) (p : Nat) : wsFold (List.replicate p 9 ++ r) [] 0 0 0 = wsFold r (if p = 0 then [] else [(p : Int)]) 0 p p := by
  cases p with
  | zero => rfl
  | succ p =>
    rw [List.replicate_succ, List.cons_append, wsFold, if_neg (by decide), if_pos rfl, show wsBump [] 0 = [1] from rfl, fold_tabs1 r p, if_neg (by omega)]
    congr 1
    · congr 1; omega
    · omega
    · omega
theorem fold_stop {r : List Nat} (h : ∀ c, r.head? = some c → c ≠ 32 ∧ c ≠ 9) (cnt : List Int) (b n nt : Int) : wsFold r cnt b n nt = (cnt, b, n, nt) := by
  cases r with
  | nil => rfl
  | cons c r =>
    have := h c rfl
    rw [wsFold, if_neg this.1, if_neg this.2]
theorem ws_lead {p q : Int} {tl : Str} (hp : 0 ≤ p) (hq : 0 ≤ q) (h : ∀ c, tl.cps[0]? = some c → c ≠ 32 ∧ c ≠ 9) : wsOf (Txt.mul (Str.ofString "\t") p ++ Txt.mul (Str.ofString " ") q ++ tl) = mkTB (p, q) := by
  unfold wsOf
  have e9 : Str.ofString "\t" = ⟨#[9]⟩ := by decide
  have e32 : Str.ofString " " = ⟨#[32]⟩ := by decide
  have e : (Txt.mul (Str.ofString "\t") p ++ Txt.mul (Str.ofString " ") q ++ tl).cps.toList = List.replicate p.toNat 9 ++ (List.replicate q.toNat 32 ++ tl.cps.toList) := by
    rw [e9, e32, ← mul_one_list 9 p, ← mul_one_list 32 q]
    show ((_ ++ _ : Array Nat) ++ _).toList = _
    simp
  rw [e, fold_tabs, fold_blanks, fold_stop (fun c hc => h c (by rw [← hc]; cases tl with | mk a => cases a with | mk l => cases l <;> rfl))]
  unfold mkTB
  have e1 : (p.toNat : Int) = p := by omega
  have e2 : (q.toNat : Int) = q := by omega
  rw [e1, e2]
  by_cases h0 : p = 0
  · subst h0; simp
  · rw [if_neg (by omega), if_neg (show ¬ p = 0 from h0)]
    simp
theorem len_lead {p q : Int} {tl : Str} (hp : p ≤ 24) (hq : q ≤ 24) (h : tl.cps.size ≤ 2) : (Txt.mul (Str.ofString "\t") p ++ Txt.mul (Str.ofString " ") q ++ tl).cps.size ≤ 64 := by
  have h1 := len_mul_one (y := Str.ofString "\t") (c := 9) (n := p) (N := 24) (by decide) (by omega)
  have h2 := len_mul_one (y := Str.ofString " ") (c := 32) (n := q) (N := 24) (by decide) (by omega)
  have e : (Txt.mul (Str.ofString "\t") p ++ Txt.mul (Str.ofString " ") q ++ tl).cps.size = (Txt.mul (Str.ofString "\t") p).length + (Txt.mul (Str.ofString " ") q).length + tl.cps.size := by
    show ((_ ++ _ : Array Nat) ++ _).size = _
    rw [Array.size_append, Array.size_append]; rfl
  omega
theorem fits_lead {p q : Int} {tl : Str} (hp : p ≤ 24) (hq : q ≤ 24) (h : tl.cps.size ≤ 2) : (Txt.mul (Str.ofString "\t") p ++ Txt.mul (Str.ofString " ") q).length + tl.length ≤ sizeLine := by
  have h1 := len_lead (p := p) (q := q) (tl := tl) hp hq h
  have e : (Txt.mul (Str.ofString "\t") p ++ Txt.mul (Str.ofString " ") q ++ tl).cps.size = (Txt.mul (Str.ofString "\t") p ++ Txt.mul (Str.ofString " ") q).length + tl.length := by
    show ((_ ++ _ : Array Nat) ++ _).size = _
    rw [Array.size_append]; rfl
  rw [sizeLine_eq]
  omega
theorem ok_app (x y : Str) : PyData.strOk (x ++ y) = (PyData.strOk x && PyData.strOk y) := by
  unfold PyData.strOk
  show (x.cps ++ y.cps).all _ = _
  rw [Array.all_append]
theorem ok_mul {c : Nat} (hc : c < 0x110000) (n : Int) : PyData.strOk (Txt.mul ⟨#[c]⟩ n) = true := by
  unfold PyData.strOk
  rw [← Array.all_toList, mul_one_list, List.all_eq_true]
  intro y hy
  rw [List.eq_of_mem_replicate hy]
  exact decide_eq_true hc
theorem ok_lead {p q : Int} {tl : Str} (h : PyData.strOk tl = true) : PyData.strOk (Txt.mul (Str.ofString "\t") p ++ Txt.mul (Str.ofString " ") q ++ tl) = true := by
  rw [ok_app, ok_app, h]
  have e9 : Str.ofString "\t" = ⟨#[9]⟩ := by decide
  have e32 : Str.ofString " " = ⟨#[32]⟩ := by decide
  rw [e9, e32, ok_mul (by decide), ok_mul (by decide)]
  rfl
end Mine
namespace Mine
theorem setL_eq : ∀ (vs : List Value) (k : Nat) (v : Value), k < vs.length → ki_setL vs k v = some (vs.set k v)
  | [], k, v, h => absurd h (Nat.not_lt_zero _)
  | x :: r, 0, v, h => rfl
  | x :: r, k + 1, v, h => by
    rw [ki_setL, setL_eq r k v (by simpa using h)]
    rfl
section
variable {prog : Program} {w : World} {A : Around} {E : Value → Shared → Prop} {s : Shared} {h₀ : Heap} {L l : Addr} {m : Str → Option Value} {news news' : List (Addr × Obj)} {vs : List Value} {n : Nat} {v : Value} {k : Int} {u : Tok}
theorem rangeInts_ks (a : Int) (n : Nat) : rangeInts a 1 n = rangeKs a n := by simp [rangeInts, rangeKs]
/-- list(range(a, b)) -/
theorem list_of_range {r : Addr} {a b : Int} {t u v : Tok} {n : Nat} {Q : Value → Shared → Prop} (hh : A.handled = none) (F : Fr h₀ L s.heap m) (N : News h₀ L s.heap news) (hr : IsRange s.heap r a b 1 t u v) (hsmall : Builtin.Range.small a b 1 = true) (hn : Builtin.Range.rangeSize a b 1 = (n : Int)) (hlen : n ≤ 2 ^ 24)
    (h : ∀ l h' tk ys e, Fr h₀ L h' m → News h₀ L h' ((l, listOf (ys : List Value).toArray e) :: news) → (∀ p ∈ news, p.1 < l) → IntsAre ys (rangeKs a n) → Q (.ref l) { s with heap := h', toks := tk }) : wpAny (model prog w) A (call (.type "list") [.ref r]) Q E s := by
  refine list_rangeD hh F N hr hsmall hn hlen fun h' tk ys F' N' hk hnone hl hp hc => ?_
  obtain ⟨⟨e, he⟩, _⟩ := hp
  refine h _ h' tk ys e F' (fun p hp => ?_) (fun p hp => Heap.lt_size (N p hp).1) (by rw [← rangeInts_ks]; exact IntsAre.ofCarried hc)
  rcases List.mem_cons.mp hp with rfl | hp
  · refine ⟨he, fun q => ?_, hnone⟩
    exact absurd F.ns.lt (by show ¬ L < s.heap.objs.size; rw [← q]; exact Nat.lt_irrefl _)
  · exact N' p hp
/-- an item of a tuple on the ledger -/
theorem item_tup {value slice : Expr} {a : Addr} {x : Value} {Q : Value → Shared → Prop} (N : News h₀ L s.heap news) (hm : (a, tupO vs n) ∈ news) (h0 : 0 ≤ k) (hz : vs.length < 2 ^ 60) (hx : vs[k.toNat]? = some x) (h : Q x s)
    (hs : subscripted slice false (.ref a) (.int k u) = operate [.ref a, .int k u] (getItem (.ref a) (.int k u)) := by with_unfolding_all rfl) :
    wpAny (model prog w) A (subscriptTail value slice (.ref a) (.int k u)) Q E s := by
  have hk : k.toNat < vs.length := (List.getElem?_eq_some_iff.mp hx).1
  refine item_tupleT (tup_of N hm) (by omega) (by omega) (j := k.toNat) ?_ hx h hs
  unfold seqIndex?
  (repeat' split) <;> first | rfl | omega | (simp_all; done) | (simp_all; omega)
/-- xs[k] = v of a list on the ledger -/
theorem set_at {Q : Unit → Shared → Prop} (F : Fr h₀ L s.heap m) (N : News h₀ L s.heap news) (h0 : 0 ≤ k) (hk : k.toNat < vs.length) (hs : vs.length < 2 ^ 60) (U : Upd l (listOf vs.toArray n) (listOf (vs.set k.toNat v).toArray n) news news')
    (h : ∀ h', Fr h₀ L h' m → News h₀ L h' news' → Q () { s with heap := h' }) : wpAny (model prog w) A (setItem (.ref l) (.int k u) v) Q E s :=
  ki_set F N h0 (by omega) (by rw [List.toList_toArray]; exact setL_eq vs k.toNat v hk) U h
end
theorem for_V {prog : Program} {w : World} {A : Around} {s : Shared} {env : Env} {h₀ h : Heap} {L : Addr} {m : Str → Option Value} (_F : Fr h₀ L h m) {E : Value → Shared → Prop} {Q : Flow → Shared → Prop} {x : Str} {px pos : Pos} {iter : Expr} {body : List Stmt} (hx : env.kindOf x = some .local)
    (hp : (env.scope.kind == .class || (env.scope.kind == .module && env.locals != env.globals)) = false)
    (h : wpAny (model prog w) A (eval iter env) (fun xv s₁ => wpAny (model prog w) A (pyIter xv) (fun it s₂ => LoopAtV prog w A h₀ env x body Q E it s₂) E s₁) E s)
    (hs : ∀ x, foldedSetIterable iter env x = pure x := by intro _; rfl)
    (hE : PassesOwn (model prog w) A env E := by passes_own) :
    wpAny (model prog w) A (exec (.For (.Name x px) iter body [] pos) env) Q E s := For_invV h₀ hx hp h hs hE
end Mine
namespace Mine
theorem ok_strOf (k : Int) (h : -200 ≤ k ∧ k ≤ 200) : PyData.strOk (strOf k) = true := by
  have q : ∀ n : Fin 401, PyData.strOk (strOf ((n.val : Int) - 200)) = true := by decide +kernel
  have := q ⟨(k + 200).toNat, by omega⟩
  have e : (((k + 200).toNat : Nat) : Int) - 200 = k := by omega
  rw [e] at this
  exact this
theorem ok_join {sep : Str} (hs : PyData.strOk sep = true) : ∀ l : List Str, (∀ x ∈ l, PyData.strOk x = true) → PyData.strOk (Str.join sep l) = true
  | [], _ => (by decide +kernel : PyData.strOk Str.empty = true)
  | [x], h => h x (.head _)
  | x :: y :: r, h => by
    rw [Str.join, ok_app, ok_app, h x (.head _), hs, ok_join hs (y :: r) fun z hz => h z (.tail _ hz)]
    · rfl
    · intro q; cases q
theorem ok_toldW (d : Bool) {ts : List Int} (h : ∀ t ∈ ts, -200 ≤ t ∧ t ≤ 200) : PyData.strOk (toldW d ts) = true := by
  unfold toldW
  rw [ok_app, ok_app]
  have h1 : PyData.strOk (wordsP d) = true := by cases d <;> decide +kernel
  have h2 : PyData.strOk (if ts.length > 1 then wordsP d ++ Str.ofString "s" else wordsP d) = true := by
    split
    · rw [ok_app, h1]; decide +kernel
    · exact h1
  have h3 : PyData.strOk (Txt.join (Str.ofString ", ") (ts.map strOf)) = true := by
    show PyData.strOk (Builtin.Str.glued (Str.ofString ", ") (ts.map strOf)) = true
    rw [StrLaws.glued_eq_join]
    refine ok_join (by decide +kernel) _ fun x hx => ?_
    obtain ⟨t, ht, rfl⟩ := List.mem_map.mp hx
    exact ok_strOf t (h t ht)
  rw [h2, h3]
  decide +kernel
theorem fdiv_bdd {a b : Int} (h1 : -24 ≤ a) (h2 : a ≤ 24) (hb : 1 ≤ b) : -24 ≤ a.fdiv b ∧ a.fdiv b ≤ 24 := by
  have q1 := le_fdiv (a := a) (b := b) (k := -24) (by omega)
  have q2 := le_fdiv (a := a) (b := b) (k := 25) (by omega)
  constructor
  · exact q1.mpr (by omega)
  · false_or_by_contra
    have := q2.mp (by omega)
    omega
theorem sizesV_bdd {a b : Int × Int} {tab col : Int} {d : Bool} (h : 0 ≤ a.1 ∧ a.1 ≤ 24 ∧ 0 ≤ a.2 ∧ a.2 ≤ 24 ∧ 0 ≤ b.1 ∧ b.1 ≤ 24 ∧ 0 ≤ b.2 ∧ b.2 ≤ 24) (hc : 0 ≤ col ∧ col ≤ 24) : ∀ z ∈ sizesV a b tab col d, -200 ≤ z ∧ z ≤ 200 := by
  intro z hz
  unfold sizesV at hz
  by_cases h1 : a.1 = b.1
  · rw [if_pos h1] at hz; cases hz
  rw [if_neg h1] at hz
  by_cases h2 : d = false
  · rw [if_pos h2] at hz
    have := mem_rangeKs.mp (List.mem_filter.mp hz).1
    omega
  rw [if_neg h2] at hz
  by_cases h3 : a.1 < b.1
  · have hf := fdiv_bdd (a := a.2 - b.2) (b := b.1 - a.1) (by omega) (by omega) (by omega)
    rw [if_pos h3] at hz
    have := mem_rangeKs.mp hz
    omega
  · have hf := fdiv_bdd (a := a.2 - b.2) (b := a.1 - b.1) (by omega) (by omega) (by omega)
    rw [if_neg h3] at hz
    have := mem_rangeKs.mp hz
    omega
section
variable {tab : Int} {pg : List PR} (ht : 1 ≤ tab) (hok : ∀ r ∈ pg, RowOK tab r) (hst : ∀ r ∈ pg, PyData.strOk r.2.2 = true)
include ht hok in
theorem pg_bd (i : Nat) : (0 ≤ pcol pg i ∧ pcol pg i ≤ 24) ∧ 0 ≤ (ppr pg i).1 ∧ (ppr pg i).1 ≤ 24 ∧ 0 ≤ (ppr pg i).2 ∧ (ppr pg i).2 ≤ 24 := by
  by_cases h : i < pg.length
  · have e : pg.getD i pr0 = pg[i] := by rw [List.getD_eq_getElem?_getD, List.getElem?_eq_getElem h]; rfl
    have ok := hok pg[i] (List.getElem_mem h)
    have okp := ok.pair ht
    have h1 := okp.t0
    have h2 := okp.b0
    have h3 := okp.sum
    have h4 := okp.le
    have h5 : 1 * pg[i].2.1.1 ≤ tab * pg[i].2.1.1 := Int.mul_le_mul_of_nonneg_right ht h1
    have h6 := ok.hc
    show (0 ≤ (pg.getD i pr0).1 ∧ (pg.getD i pr0).1 ≤ 24) ∧ 0 ≤ (pg.getD i pr0).2.1.1 ∧ (pg.getD i pr0).2.1.1 ≤ 24 ∧ 0 ≤ (pg.getD i pr0).2.1.2 ∧ (pg.getD i pr0).2.1.2 ≤ 24
    rw [e]
    omega
  · have e : pg.getD i pr0 = pr0 := by rw [List.getD_eq_getElem?_getD, List.getElem?_eq_none (by omega)]; rfl
    show (0 ≤ (pg.getD i pr0).1 ∧ (pg.getD i pr0).1 ≤ 24) ∧ 0 ≤ (pg.getD i pr0).2.1.1 ∧ (pg.getD i pr0).2.1.1 ≤ 24 ∧ 0 ≤ (pg.getD i pr0).2.1.2 ∧ (pg.getD i pr0).2.1.2 ≤ 24
    rw [e]
    decide
include hst in
theorem prow_ok (i : Nat) : PyData.strOk (prow pg i) = true := by
  show PyData.strOk (pg.getD i pr0).2.2 = true
  by_cases h : i < pg.length
  · rw [List.getD_eq_getElem?_getD, List.getElem?_eq_getElem h]; exact hst _ (List.getElem_mem h)
  · rw [List.getD_eq_getElem?_getD, List.getElem?_eq_none (by omega)]; decide +kernel
include ht hok hst in
theorem told_ok : ∀ (k i : Nat) (heads : List Int) (out : List Dat), (∀ d ∈ out, kqdOk 7 d = true) → ∀ d ∈ toldGo tab pg k i heads out, kqdOk 7 d = true
  | 0, i, heads, out, h => h
  | k + 1, i, heads, out, h => by
    rw [toldGo]
    have hr := prow_ok hst i
    (try dsimp only)
    split
    · intro d hd
      rcases List.mem_append.mp hd with hd | hd
      · exact h d hd
      · rw [List.mem_singleton.mp hd]
        simp only [lostD, kqdOk, List.all_cons, List.all_nil, Bool.and_true, hr]
        decide +kernel
    · refine told_ok k (i + 1) _ _ fun d hd => ?_
      rcases List.mem_append.mp hd with hd | hd
      · exact h d hd
      · unfold toldD at hd
        split at hd
        · cases hd
        · rw [List.mem_singleton.mp hd]
          have b1 := pg_bd ht hok (heads.getD (backJ pg (pcol pg i) (i - 1)) 0).toNat
          have b2 := pg_bd ht hok i
          have hw := ok_toldW (decide (pcol pg (backJ pg (pcol pg i) (i - 1)) < pcol pg i)) (sizesV_bdd (a := ppr pg (heads.getD (backJ pg (pcol pg i) (i - 1)) 0).toNat) (b := ppr pg i) (tab := tab) (col := pcol pg i) (d := decide (pcol pg (backJ pg (pcol pg i) (i - 1)) < pcol pg i)) (by omega) b2.1)
          simp only [kqdOk, List.all_cons, List.all_nil, Bool.and_true, hr, hw]
include ht hok hst in
theorem toldV_ok : kqdOk 8 (.list (toldV tab pg)) = true := by
  rw [kqdOk, List.all_eq_true]
  exact told_ok ht hok hst _ _ _ _ (fun d hd => by cases hd)
end
end Mine
namespace Mine
theorem fill : PySem.Challenge.rw_sn0118_02 = PySem.Challenge.rw_sn0118_02 ∧ A.hd.heap_39 = A.hd.heap_39 := by k_fill; exact ⟨rfl, rfl⟩
local macro_rules | `(tactic| walk_at "call builtin:len") => `(tactic| (k_here; (with_reducible show wpAny _ _ (call (Value.builtin "len") [Value.ref _]) _ _ _); k_dflt (refine' len_tupI ?k1 ?k2 ?k3 ?k4 ?_; (case k1 => k_asm); (case k2 => k_mem); (case k3 => assumption); (case k4 => omega); k_whole)))
local macro_rules | `(tactic| walk_at "subscriptTail") => `(tactic| (k_here; (with_reducible show wpAny _ _ (subscriptTail _ _ (Value.ref _) (Value.int _ _)) _ _ _); k_dflt (refine' item_tupI ?k1 ?k2 ?k3 ?k4 ?k5 ?k6 ?_; (case k1 => k_asm); (case k2 => k_mem); (case k3 => assumption); (case k4 => omega); (case k5 => omega); (case k6 => omega); k_whole); intro tI))
local macro_rules | `(tactic| walk_at "pyIter ref") => `(tactic| refine park ?_)
local macro_rules | `(tactic| walk_at "pyIter str") => `(tactic| refine park ?_)
local macro_rules | `(tactic| walk_at "binaryOp Mult int int") => `(tactic| first
  | (refine' PyProof.Rows.mul_int ?_ (PySem.IntMulOk.of_left (PySem.intBits_le_64 (by omega) (by omega))))
  | (refine' PyProof.Rows.mul_int ?_ (PySem.IntMulOk.of_right (PySem.intBits_le_64 (by omega) (by omega))))
  | (refine' PyProof.Rows.mul_int ?_ (mulOk_getD (by assumption))))
/-- a Whitespace on the ledger: its five attributes, the norm's two tuples -/
inductive MarkIn (news : List (Addr × Obj)) : Value → List Int → Int → Int → Int → Prop
  | mk {x d t1 t2 : Addr} {k1 k2 k3 k4 k5 : Int} {q1 q2 q3 q4 q5 r1 r2 r3 r4 : Tok} {raw : Str} {n nt b : Int} {cnt : List Int} {cvs : List Value} {e1 e2 : Nat}
    (hx : (x, instObj 117 d) ∈ news)
    (hd : (d, dictOf [⟨k1, .str (Str.ofString "raw") q1, .str raw r1⟩, ⟨k2, .str (Str.ofString "n") q2, .int n r2⟩, ⟨k3, .str (Str.ofString "nt") q3, .int nt r3⟩, ⟨k4, .str (Str.ofString "norm") q4, .ref t1⟩, ⟨k5, .str (Str.ofString "is_simple") q5, .bool (decide ((cnt.length : Int) ≤ 1))⟩] 5) ∈ news)
    (h1 : (t1, tupO [.ref t2, .int b r4] e1) ∈ news) (h2 : (t2, tupO cvs e2) ∈ news) (hc : IntsAre cvs cnt)
    (hlen : cnt.length ≤ 65) (hb : 0 ≤ b ∧ b ≤ 64) (hn : 0 ≤ n ∧ n ≤ 64) (hnt : 0 ≤ nt ∧ nt ≤ 64) (hcb : ∀ c ∈ cnt, 0 ≤ c ∧ c ≤ 64) : MarkIn news (.ref x) cnt b n nt
set_option maxHeartbeats 4000000 in
theorem longest_spec {w : World} {p : Program} {loose : List Str} {mean : ExcName → Option Value} {mg mb : Str → Option Value} {dp un : Nat} {gd : Option (List Code)} {cn : Str} {cs : Scope} {a : Addr} {ccd : Value} {cl : List (Str × Addr)} {outer : List Env} {A₀ : Around} {base h₀ : Heap} {L : Addr} {m : Str → Option Value} {news : List (Addr × Obj)} {s : Shared} {Q E : Value → Shared → Prop} (B : Below A₀ base outer h₀) (F : Fr h₀ L s.heap m) (X : (A.hd.heap_39 w.params).In h₀) (N : News h₀ L s.heap news) (T : Top p loose mean mg mb h₀) (hk : cs.kind = .function) (hdp : dp + 1 < recursionLimit) (hun : un + 100 < cLine) {v : Value} {cnt : List Int} {b n nt : Int} (M : MarkIn news v cnt b n nt)
    (hret : ∀ t h' tk', Fr h₀ L h' m → News h₀ L h' news → Q (.int (max ((cnt.length : Int) - 1) b) t) { s with heap := h', toks := tk' }) :
    wpAny (model PySem.Challenge.rw_sn0118_02.row.prog w) (ktrTop dp un gd cn cs L a ccd cl outer) (call (.ref 79) [v]) Q E s := by
  cases M
  refine wpAny_call ?_
  k_dflt cell_enter
  k_steps
  all_goals exact cb_retI hret (by split <;> omega) (by assumption) (by assumption)
set_option maxHeartbeats 4000000 in
theorem indent_spec {w : World} {p : Program} {loose : List Str} {mean : ExcName → Option Value} {mg mb : Str → Option Value} {dp un : Nat} {gd : Option (List Code)} {cn : Str} {cs : Scope} {a : Addr} {ccd : Value} {cl : List (Str × Addr)} {outer : List Env} {A₀ : Around} {base h₀ : Heap} {L : Addr} {m : Str → Option Value} {news : List (Addr × Obj)} {s : Shared} {Q E : Value → Shared → Prop} (B : Below A₀ base outer h₀) (F : Fr h₀ L s.heap m) (X : (A.hd.heap_39 w.params).In h₀) (N : News h₀ L s.heap news) (T : Top p loose mean mg mb h₀) (hk : cs.kind = .function) (hdp : dp + 1 < recursionLimit) (hun : un + 100 < cLine) {v : Value} {cnt : List Int} {b n nt ts : Int} {tk : Tok} (M : MarkIn news v cnt b n nt) (hts : 1 ≤ ts ∧ ts ≤ 100)
    (hret : ∀ t h' tk', Fr h₀ L h' m → News h₀ L h' news → Q (.int (b + ts * (ilSum cnt ts (rangeKs ts (cnt.length - ts).toNat) + nt)) t) { s with heap := h', toks := tk' }) :
    wpAny (model PySem.Challenge.rw_sn0118_02.row.prog w) (ktrTop dp un gd cn cs L a ccd cl outer) (call (.ref 86) [v, .int ts tk]) Q E s := by
  cases M
  refine wpAny_call ?_
  k_dflt cell_enter
  k_steps
  refine unpark ?_
  k_with "state" => (simp only [ilSum, List.map_append, List.sum_append, List.map_cons, List.map_nil, List.sum_cons, List.sum_nil, Int.add_zero] at *; omega)
  k_state (fun pre il => il = ilSum cnt ts pre) "il"
  all_goals k_steps
  all_goals exact cb_retI hret (by subst_vars; rfl) (by assumption) (by assumption)
theorem MarkIn.mono {news news' : List (Addr × Obj)} (hs : ∀ p ∈ news, p ∈ news') {v : Value} {cnt : List Int} {b n nt : Int} (M : MarkIn news v cnt b n nt) : MarkIn news' v cnt b n nt := by
  cases M with
  | mk hx hd h1 h2 hc hlen hb hn hnt hcb => exact .mk (hs _ hx) (hs _ hd) (hs _ h1) (hs _ h2) hc hlen hb hn hnt hcb
theorem MarkIn.up {news news' : List (Addr × Obj)} {v : Value} {cnt : List Int} {b n nt : Int} (M : MarkIn news v cnt b n nt) (hs : ∀ p ∈ news, p ∈ news') : MarkIn news' v cnt b n nt := M.mono hs
local macro_rules | `(tactic| walk_at "compareOp Eq ref ref") => `(tactic| (k_here; (refine' eq_norm ?k1 ?k2 ?k3 ?k4 ?k5 ?k6 ?k7 ?k8 ?_; (case k1 => k_asm); (case k2 => k_mem); (case k3 => k_mem); (case k4 => assumption); (case k5 => k_mem); (case k6 => k_mem); (case k7 => assumption); (case k8 => ktr_units); k_whole)))
set_option maxHeartbeats 4000000 in
theorem equal_spec {w : World} {p : Program} {loose : List Str} {mean : ExcName → Option Value} {mg mb : Str → Option Value} {dp un : Nat} {gd : Option (List Code)} {cn : Str} {cs : Scope} {a : Addr} {ccd : Value} {cl : List (Str × Addr)} {outer : List Env} {A₀ : Around} {base h₀ : Heap} {L : Addr} {m : Str → Option Value} {news : List (Addr × Obj)} {s : Shared} {Q E : Value → Shared → Prop} (B : Below A₀ base outer h₀) (F : Fr h₀ L s.heap m) (X : (A.hd.heap_39 w.params).In h₀) (N : News h₀ L s.heap news) (T : Top p loose mean mg mb h₀) (hk : cs.kind = .function) (hdp : dp + 1 < recursionLimit) (hun : un + 100 < cLine) {v v' : Value} {cnt cnt' : List Int} {b n nt b' n' nt' : Int} (M : MarkIn news v cnt b n nt) (M' : MarkIn news v' cnt' b' n' nt')
    (hret : ∀ (t : Tok) h' tk', Fr h₀ L h' m → News h₀ L h' news → Q (.bool (decide (cnt = cnt' ∧ b = b'))) { s with heap := h', toks := tk' }) :
    wpAny (model PySem.Challenge.rw_sn0118_02.row.prog w) (ktrTop dp un gd cn cs L a ccd cl outer) (call (.ref 93) [v, v']) Q E s := by
  cases M
  cases M'
  refine wpAny_call ?_
  k_dflt cell_enter
  k_steps
  all_goals exact cb_retB hret rfl (by assumption) (by assumption)
local macro_rules | `(tactic| walk_at "call ref") => `(tactic| (k_here; k_dflt (show wpAny _ _ (call (Value.ref 79) [_]) _ _ _); k_dflt (refine' longest_spec ?k1 ?k2 ?k3 ?k4 ?k5 ?k6 ?k7 ?k8 ?k9 ?_; (case k1 => k_asm); (case k2 => k_asm); (case k3 => k_asm); (case k4 => k_asm); (case k5 => k_asm); (case k6 => first | exact rfl | assumption); (case k7 => ktr_room); (case k8 => ktr_units); (case k9 => first | assumption | exact MarkIn.up (by assumption) (by kcf_all)); (intro t9 h9 tk9 F9 N9; (try dsimp only); (try k_sweep); (try k_fold)))))
local macro_rules | `(tactic| walk_at "call ref") => `(tactic| (k_here; k_dflt (show wpAny _ _ (call (Value.ref 86) [_, Value.int _ _]) _ _ _); k_dflt (refine' indent_spec ?k1 ?k2 ?k3 ?k4 ?k5 ?k6 ?k7 ?k8 ?k9 ?ka ?_; (case k1 => k_asm); (case k2 => k_asm); (case k3 => k_asm); (case k4 => k_asm); (case k5 => k_asm); (case k6 => first | exact rfl | assumption); (case k7 => ktr_room); (case k8 => ktr_units); (case k9 => first | assumption | exact MarkIn.up (by assumption) (by kcf_all)); (case ka => omega); (intro t9 h9 tk9 F9 N9; (try dsimp only); (try k_sweep); (try k_fold)))))
set_option maxHeartbeats 4000000 in
theorem less_spec {w : World} {p : Program} {loose : List Str} {mean : ExcName → Option Value} {mg mb : Str → Option Value} {dp un : Nat} {gd : Option (List Code)} {cn : Str} {cs : Scope} {a : Addr} {ccd : Value} {cl : List (Str × Addr)} {outer : List Env} {A₀ : Around} {base h₀ : Heap} {L : Addr} {m : Str → Option Value} {news : List (Addr × Obj)} {s : Shared} {Q E : Value → Shared → Prop} (B : Below A₀ base outer h₀) (F : Fr h₀ L s.heap m) (X : (A.hd.heap_39 w.params).In h₀) (N : News h₀ L s.heap news) (T : Top p loose mean mg mb h₀) (hk : cs.kind = .function) (hdp : dp + 3 < recursionLimit) (hun : un + 300 < cLine) {v v' : Value} {cnt cnt' : List Int} {b n nt b' n' nt' : Int} (M : MarkIn news v cnt b n nt) (M' : MarkIn news v' cnt' b' n' nt')
    (hret : ∀ h' tk' r, r = lessV cnt b n nt cnt' b' n' nt' → Fr h₀ L h' m → News h₀ L h' news → Q (.bool r) { s with heap := h', toks := tk' }) :
    wpAny (model PySem.Challenge.rw_sn0118_02.row.prog w) (ktrTop dp un gd cn cs L a ccd cl outer) (call (.ref 107) [v, v']) Q E s := by
  have M0 := M
  have M0' := M'
  cases M
  cases M'
  refine wpAny_call ?_
  k_dflt cell_enter
  k_steps
  · exact hret _ _ _ (lessV_ge (by omega)) (by assumption) (by assumption)
  · exact hret _ _ _ (lessV_simp (by omega) ⟨by omega, by omega⟩) (by assumption) (by assumption)
  all_goals (
    refine unpark ?_
    (rename Fr _ _ _ _ => lF'); (rename News _ _ _ _ => lN'); (rename IsRange _ _ _ _ _ _ _ _ => rgX)
    with_unfolding_all refine' kst_range (σ := Unit) (fun _ => news) (fun _ => []) (fun _ => True) [] (fun pre _ => ∀ ts ∈ pre, level cnt b nt ts < level cnt' b' nt' ts) () (by rfl) rgX (by exact small_one (by omega) (by omega) (by omega) (by omega)) (by exact rangeSize_nat _ _) lF' lN' trivial (by simp) (by simp) ?_ ?_
    · intro c pre k t u hh tk own hk1 hk2 hoff hT hInv kFr kNews
      have hk3 : 2 ≤ k ∧ k ≤ topV cnt b cnt' b' + 1 ∧ k ≤ 100 := by simp only [topV, longV]; omega
      try dsimp only at kNews
      try dsimp only at kFr
      try k_fold
      k_steps
      · exact hret _ _ _ (lessV_no (k := k) (by omega) (by simp only [simpV]; omega) (by omega) (by omega) (by assumption)) (by assumption) (cb_drop (by assumption) (by kcf_all))
      · refine kst_end () (by assumption) (by assumption) (by kcf_all) (by kcf_all) rfl trivial (by simp) ?_ ?_
        · intro z h1 _ _
          simp [kstB, h1]
        · intro ts hts
          rcases List.mem_append.mp hts with hts | hts
          · exact hInv ts hts
          · rw [List.mem_singleton.mp hts]; first | assumption | exact Int.not_le.mp (by assumption) | exact Int.lt_of_not_ge (by assumption)
    · intro c u hh tk hT hInv kFr kNews
      try dsimp only at kNews
      dsimp only
      k_steps
      refine hret _ _ _ (lessV_yes (by omega) (by simp only [simpV]; omega) (fun k h2 hk => hInv k (mem_rangeKs.mpr ⟨h2, by simp only [topV, longV] at hk; omega⟩))) (by assumption) (by assumption))
theorem fill2 : PySem.Challenge.rw_sn0118_02 = PySem.Challenge.rw_sn0118_02 ∧ A.hd.heap_39 = A.hd.heap_39 := by k_fill; exact ⟨rfl, rfl⟩
set_option maxHeartbeats 4000000 in
theorem newit_spec {w : World} {p : Program} {loose : List Str} {mean : ExcName → Option Value} {mg mb : Str → Option Value} {dp un : Nat} {gd : Option (List Code)} {cn : Str} {cs : Scope} {a : Addr} {ccd : Value} {cl : List (Str × Addr)} {outer : List Env} {A₀ : Around} {base h₀ : Heap} {L : Addr} {m : Str → Option Value} {news : List (Addr × Obj)} {s : Shared} {Q E : Value → Shared → Prop} (B : Below A₀ base outer h₀) (F : Fr h₀ L s.heap m) (X : (A.hd.heap_39 w.params).In h₀) (N : News h₀ L s.heap news) (T : Top p loose mean mg mb h₀) (hk : cs.kind = .function) (hdp : dp + 3 < recursionLimit) (hun : un + 300 < cLine) {v v' : Value} {cnt cnt' : List Int} {b n nt b' n' nt' : Int} (M : MarkIn news v cnt b n nt) (M' : MarkIn news v' cnt' b' n' nt')
    (hret : ∀ r led h' tk' nn, nn = (topV cnt b cnt' b' + 1).toNat → Fr h₀ L h' m → News h₀ L h' led → (∀ p ∈ news, p ∈ led) → DatIn led r (.list ((neW cnt b nt cnt' b' nt' (rangeKs 1 nn)).map (triple cnt b nt cnt' b' nt'))) → Q r { s with heap := h', toks := tk' }) :
    wpAny (model PySem.Challenge.rw_sn0118_02.row.prog w) (ktrTop dp un gd cn cs L a ccd cl outer) (call (.ref 100) [v, v']) Q E s := by
  have M0 := M
  have M0' := M'
  cases M
  cases M'
  refine wpAny_call ?_
  k_dflt cell_enter
  k_steps
  k_with "state" => first | exact ne_start | exact ne_stepY (by assumption) (by assumption) | exact ne_stepN (by assumption) (by assumption)
  all_goals (
    refine unpark ?_
    k_dat (fun (pre : List Int) (out : List Dat) => out = (neW cnt b nt cnt' b' nt' pre).map (triple cnt b nt cnt' b' nt') ∧ out.length ≤ pre.length) "a*")
  · have hk3 : 1 ≤ kN ∧ kN ≤ 100 := by omega
    k_steps
  · k_steps
    exact hret _ _ _ _ _ (by simp only [topV, longV]; omega) (by assumption) (by assumption) (by kcf_all) (.list (.head _) (DatAll.mono (by kcf_all) kFacts))
set_option maxHeartbeats 4000000 in
theorem nlwit_spec {w : World} {p : Program} {loose : List Str} {mean : ExcName → Option Value} {mg mb : Str → Option Value} {dp un : Nat} {gd : Option (List Code)} {cn : Str} {cs : Scope} {a : Addr} {ccd : Value} {cl : List (Str × Addr)} {outer : List Env} {A₀ : Around} {base h₀ : Heap} {L : Addr} {m : Str → Option Value} {news : List (Addr × Obj)} {s : Shared} {Q E : Value → Shared → Prop} (B : Below A₀ base outer h₀) (F : Fr h₀ L s.heap m) (X : (A.hd.heap_39 w.params).In h₀) (N : News h₀ L s.heap news) (T : Top p loose mean mg mb h₀) (hk : cs.kind = .function) (hdp : dp + 3 < recursionLimit) (hun : un + 300 < cLine) {v v' : Value} {cnt cnt' : List Int} {b n nt b' n' nt' : Int} (M : MarkIn news v cnt b n nt) (M' : MarkIn news v' cnt' b' n' nt')
    (hret : ∀ r led h' tk' nn, nn = (topV cnt b cnt' b' + 1).toNat → Fr h₀ L h' m → News h₀ L h' led → (∀ p ∈ news, p ∈ led) → DatIn led r (.list ((nlW cnt b nt cnt' b' nt' (rangeKs 1 nn)).map (triple cnt b nt cnt' b' nt'))) → Q r { s with heap := h', toks := tk' }) :
    wpAny (model PySem.Challenge.rw_sn0118_02.row.prog w) (ktrTop dp un gd cn cs L a ccd cl outer) (call (.ref 114) [v, v']) Q E s := by
  have M0 := M
  have M0' := M'
  cases M
  cases M'
  refine wpAny_call ?_
  k_dflt cell_enter
  k_steps
  k_with "state" => first | exact nl_start | exact nl_stepY (by assumption) (by assumption) | exact nl_stepN (by assumption) (by assumption)
  all_goals (
    refine unpark ?_
    k_dat (fun (pre : List Int) (out : List Dat) => out = (nlW cnt b nt cnt' b' nt' pre).map (triple cnt b nt cnt' b' nt') ∧ out.length ≤ pre.length) "a*")
  · have hk3 : 1 ≤ kN ∧ kN ≤ 100 := by omega
    k_steps
  · k_steps
    exact hret _ _ _ _ _ (by simp only [topV, longV]; omega) (by assumption) (by assumption) (by kcf_all) (.list (.head _) (DatAll.mono (by kcf_all) kFacts))
theorem fill3 : PySem.Challenge.rw_sn0118_02 = PySem.Challenge.rw_sn0118_02 ∧ A.hd.heap_39 = A.hd.heap_39 := by k_fill; exact ⟨rfl, rfl⟩
local macro_rules | `(tactic| walk_at "call type:tuple") => `(tactic| (k_here; (with_reducible show wpAny _ _ (call (Value.type _) [Value.ref _]) _ _ _); k_dflt (refine' tupOf_I ?k1 ?k2 ?k3 ?k4 ?k5 ?_; (case k1 => k_asm); (case k2 => k_asm); (case k3 => k_mem); (case k4 => assumption); (case k5 => omega); k_whole); intro D' h' F' N' l1; (try k_lt l1); (try k_sweep)))
theorem fin5 {h₀ h' : Heap} {L : Addr} {m : Str → Option Value} {news rest : List (Addr × Obj)} {s : Shared} {Q : Value → Shared → Prop} {a b c d e : Addr × Obj} {raw : Str} {r : Value} {tk' : Nat} {cnt : List Int} {bl n nt : Int}
    (hret : ∀ r led mk h' tk' cnt b n nt, wsOf raw = (cnt, b, n, nt) → Fr h₀ L h' m → News h₀ L h' led → (∀ p ∈ news, p ∈ led) → (∀ p ∈ mk, p ∈ led ∧ ∀ q ∈ news, q.1 ≠ p.1) → MarkIn mk r cnt b n nt → Q r { s with heap := h', toks := tk' })
    (hw : wsOf raw = (cnt, bl, n, nt)) (F : Fr h₀ L h' m) (N : News h₀ L h' (a :: b :: c :: d :: e :: rest)) (hs : ∀ p ∈ news, p ∈ rest) (fr : ∀ q ∈ news, q.1 < a.1 ∧ q.1 < b.1 ∧ q.1 < c.1 ∧ q.1 < d.1 ∧ q.1 < e.1) (M : MarkIn [a, b, c, d, e] r cnt bl n nt) :
    Q r { s with heap := h', toks := tk' } := by
  refine hret r _ [a, b, c, d, e] h' tk' cnt bl n nt hw F N (fun p hp => .tail _ (.tail _ (.tail _ (.tail _ (.tail _ (hs p hp)))))) (fun p hp => ⟨?_, fun q hq => ?_⟩) M
  · rcases List.mem_cons.mp hp with rfl | hp
    · exact .head _
    rcases List.mem_cons.mp hp with rfl | hp
    · exact .tail _ (.head _)
    rcases List.mem_cons.mp hp with rfl | hp
    · exact .tail _ (.tail _ (.head _))
    rcases List.mem_cons.mp hp with rfl | hp
    · exact .tail _ (.tail _ (.tail _ (.head _)))
    · rw [List.mem_singleton.mp hp]; exact .tail _ (.tail _ (.tail _ (.tail _ (.head _))))
  · obtain ⟨f1, f2, f3, f4, f5⟩ := fr q hq
    rcases List.mem_cons.mp hp with rfl | hp
    · exact Nat.ne_of_lt f1
    rcases List.mem_cons.mp hp with rfl | hp
    · exact Nat.ne_of_lt f2
    rcases List.mem_cons.mp hp with rfl | hp
    · exact Nat.ne_of_lt f3
    rcases List.mem_cons.mp hp with rfl | hp
    · exact Nat.ne_of_lt f4
    · rw [List.mem_singleton.mp hp]; exact Nat.ne_of_lt f5
set_option maxHeartbeats 4000000 in
theorem init_spec {w : World} {p : Program} {loose : List Str} {mean : ExcName → Option Value} {mg mb : Str → Option Value} {dp un : Nat} {gd : Option (List Code)} {cn : Str} {cs : Scope} {a : Addr} {ccd : Value} {cl : List (Str × Addr)} {outer : List Env} {A₀ : Around} {base h₀ : Heap} {L : Addr} {m : Str → Option Value} {news : List (Addr × Obj)} {s : Shared} {Q E : Value → Shared → Prop} (B : Below A₀ base outer h₀) (F : Fr h₀ L s.heap m) (X : (A.hd.heap_39 w.params).In h₀) (N : News h₀ L s.heap news) (T : Top p loose mean mg mb h₀) (hk : cs.kind = .function) (hdp : dp + 3 < recursionLimit) (hun : un + 300 < cLine) {raw : Str} {tk : Tok} (hraw : raw.cps.size ≤ 64) 
    (hret : ∀ r led mk h' tk' cnt b n nt, wsOf raw = (cnt, b, n, nt) → Fr h₀ L h' m → News h₀ L h' led → (∀ p ∈ news, p ∈ led) → (∀ p ∈ mk, p ∈ led ∧ ∀ q ∈ news, q.1 ≠ p.1) → MarkIn mk r cnt b n nt → Q r { s with heap := h', toks := tk' }) :
    wpAny (model PySem.Challenge.rw_sn0118_02.row.prog w) (ktrTop dp un gd cn cs L a ccd cl outer) (call (.ref 117) [.str raw tk]) Q E s := by
  k_dflt (refine' call_cls ?k1 ?k2 ?k3 ?k4 ?k5 ?k6 ?_; (case k1 => k_asm); (case k2 => k_asm); (case k3 => k_asm); (case k4 => k_is); (case k5 => k_is); (case k6 => k_is); k_whole; intro x' d' h' F' N' l1 l2; (have fd : ∀ p ∈ news, p.1 < d' := l1); (have fx : d' < x' := l2); (try k_lt l1); (try k_lt2 l2); (try k_sweep))
  k_dflt cell_enter
  k_steps
  refine unpark ?_
  (rename Fr _ _ _ _ => lF'); (rename News _ _ _ _ => lN')
  obtain ⟨bs, hbs, N2⟩ := led2 lN'
  with_unfolding_all refine' kj_str (σ := IS) (fun c => (c.cl, listOf c.vs.toArray c.ep) :: bs) (fun c => [(Str.ofString "count", .ref c.cl), (Str.ofString "b", .int c.b c.tb), (Str.ofString "n", .int c.n c.tn), (Str.ofString "nt", .int c.nt c.tt)]) [] (PInit raw bs) ⟨_, [], 0, [], 0, 0, 0, _, _, _⟩ (by rfl) lF' N2 (fun _ h => h) (by kst_all) ?_ ?_ ?_
  · subst hbs
    obtain ⟨ha, hb, hc, hd⟩ := (by assumption : _ < _ ∧ _ < _ ∧ _ < _ ∧ AllLt _ news)
    exact ⟨kst_ltOf ⟨hb, hc, hd⟩, .nil, rfl, Nat.zero_le _, ⟨Int.le_refl _, Int.le_refl _⟩, ⟨Int.le_refl _, Int.le_refl _⟩, ⟨Int.le_refl _, Int.le_refl _⟩, Nat.le_refl _, fun _ h => nomatch h⟩
  · rintro ⟨cl', vs, ep, cnt, b, n, nt, tb, tn, tt⟩ i cp u mu hh tk own hcp hoff hP kFr kNews
    have hP0 := hP
    obtain ⟨plt, pare, pinv, ple, phb, phn, pht, phl, phc⟩ := hP
    dsimp only at plt pare pinv ple phb phn pht phl phc hoff kFr kNews
    dsimp only [kstB] at kFr
    have kMark := kstMark
    rw [List.cons_append] at kNews
    have pi : i < 64 := Nat.lt_of_lt_of_le (size_at hcp) hraw
    k_steps
    · exact kj_end2 (IS.mk _ _ _ _ _ _ _ _ _ _) (by assumption) (by assumption) (by kst_all) (pinit_S hP0 hcp (by assumption)) (by kcf_all) (by kcf_all) hoff (by kst_same)
    · exact kj_end2 (IS.mk _ _ _ _ _ _ _ _ _ _) (by assumption) (by assumption) (by kst_all) (pinit_T1 hP0 hcp (by assumption) (by assumption) (by assumption) (by assumption) (lt_left (by (have q := ‹_ < _ ∧ _ < _ ∧ _ < _ ∧ AllLt _ (bs ++ own)›); exact q.2.2.2))) (by kcf_all) (by kcf_all) (off_new hoff (by (have q := ‹_ < _ ∧ _ < _ ∧ _ < _ ∧ AllLt _ (bs ++ own)›); exact q.2.2.2)) (by kst_same)
    · exact kj_end2 (IS.mk _ _ _ _ _ _ _ _ _ _) (by assumption) (by assumption) (by kst_all) (pinit_T2 hP0 hcp (by assumption) (by assumption) (by assumption) (by assumption)) (by kcf_all) (by kcf_all) (off_same hoff) (by kst_same)
    · have hw := pinit_brk hP0 hcp (by assumption) (by assumption)
      subst hbs
      have g1 := ltN (plt _ (.head _))
      have g2 := ltN (plt _ (.tail _ (.head _)))
      dsimp only at g1 g2
      (rename News _ _ _ _ => nE)
      simp only [List.cons_append, List.map_cons] at nE hoff
      k_steps
      exact fin5 hret hw (by assumption) (by assumption) (by kcf_all) (fun q hq => ⟨kst_ltOf (‹_ < _ ∧ _ < _ ∧ _ < _ ∧ _ < _ ∧ AllLt _ _›).2.2.2.2 q (List.mem_append.mpr (.inl hq)), kst_ltOf (‹_ < _ ∧ _ < _ ∧ _ < _ ∧ AllLt _ _›).2.2.2 q (List.mem_append.mpr (.inl hq)), plt q (.tail _ (.tail _ hq)), Nat.lt_trans (fd q hq) fx, fd q hq⟩) (.mk (by k_mem) (by k_mem) (by k_mem) (by k_mem) pare (by omega) (by omega) (by omega) (by omega) (fun x hx => by have := phc x hx; omega))
  · rintro ⟨cl', vs, ep, cnt, b, n, nt, tb, tn, tt⟩ mu hh tk hP kFr kNews
    have hP0 := hP
    obtain ⟨plt, pare, pinv, ple, phb, phn, pht, phl, phc⟩ := hP
    dsimp only at plt pare pinv ple phb phn pht phl phc kFr kNews
    dsimp only [kstB] at kFr
    have hw := pinit_done hP0
    subst hbs
    have g1 := ltN (plt _ (.head _))
    have g2 := ltN (plt _ (.tail _ (.head _)))
    dsimp only at g1 g2
    dsimp only
    k_steps
    exact fin5 hret hw (by assumption) (by assumption) (by kcf_all) (fun q hq => ⟨kst_ltOf (‹_ < _ ∧ _ < _ ∧ _ < _ ∧ _ < _ ∧ AllLt _ _›).2.2.2.2 q (hq), kst_ltOf (‹_ < _ ∧ _ < _ ∧ _ < _ ∧ AllLt _ _›).2.2.2 q (hq), plt q (.tail _ (.tail _ hq)), Nat.lt_trans (fd q hq) fx, fd q hq⟩) (.mk (by k_mem) (by k_mem) (by k_mem) (by k_mem) pare (by omega) (by omega) (by omega) (by omega) (fun x hx => by have := phc x hx; omega))
end Mine
namespace Mine
theorem fill4 : PySem.Challenge.rw_sn0118_02 = PySem.Challenge.rw_sn0118_02 ∧ A.hd.heap_39 = A.hd.heap_39 := by k_fill; exact ⟨rfl, rfl⟩
local macro_rules | `(tactic| walk_at "call builtin:len") => `(tactic| (k_here; (with_reducible show wpAny _ _ (call (Value.builtin "len") [Value.ref _]) _ _ _); k_dflt (refine' len_led ?k1 ?k2 ?k3 ?k4 ?_; (case k1 => k_asm); (case k2 => k_mem); (case k3 => assumption); (case k4 => omega); k_whole)))
local macro_rules | `(tactic| walk_at "call builtin:str.join") => `(tactic| refine park ?_)
local macro_rules | `(tactic| walk_at "eval GeneratorExp") => `(tactic| refine park ?_)
noncomputable abbrev gpos : Pos := ⟨82, 13, 82, 39⟩
set_option maxHeartbeats 4000000 in
theorem format_spec {w : World} {p : Program} {loose : List Str} {mean : ExcName → Option Value} {mg mb : Str → Option Value} {dp un : Nat} {gd : Option (List Code)} {cn : Str} {cs : Scope} {a : Addr} {ccd : Value} {cl : List (Str × Addr)} {outer : List Env} {A₀ : Around} {base h₀ : Heap} {L : Addr} {m : Str → Option Value} {news : List (Addr × Obj)} {s : Shared} {Q E : Value → Shared → Prop} {led : List (Addr × Obj)} {ps : Array Value} (B : Below A₀ base outer h₀) (F : Fr h₀ L s.heap m) (X : (A.hd.heap_39 w.params).In h₀) (N : News h₀ L s.heap led) (T : Top p loose mean mg mb h₀) (hk : cs.kind = .function) (hdp : dp + 3 < recursionLimit) (hun : un + 300 < cLine)
    (hsub : ∀ p ∈ news, p ∈ led) (hoff : ∀ p ∈ news, p.1 ≠ 123) (hP : (123, tabObj ps) ∈ led) (hps : FmtTab gpos ps) (C : CodeHd h₀ 127 123) (hG : AllBare s.gens)
    {v : Value} {ts : List Int} {cnt cnt' : List Int} {b nt b' nt' : Int} (D : DatIn led v (.list (ts.map (triple cnt b nt cnt' b' nt')))) (hts : ∀ t ∈ ts, 0 ≤ t ∧ t ≤ 200) (hlen : ts.length ≤ 200)
    (hret : ∀ t h' g' tk' ps', FmtTab gpos ps' → AllBare g' → Fr h₀ L h' m → News h₀ L h' ((123, tabObj ps') :: news) → Q (.str (wordsV ts) t) { s with heap := h', gens := g', toks := tk' }) :
    wpAny (model PySem.Challenge.rw_sn0118_02.row.prog w) (ktrTop dp un gd cn cs L a ccd cl outer) (call (.ref 128) [v]) Q E s := by
  have D' := DatIn.off N hP rfl D
  have N' := offP_news N hP
  have hsub' : ∀ p ∈ news, p ∈ offP 123 led := fun p hp => offP_in (hsub p hp) (hoff p hp)
  have hoff' : ∀ p ∈ offP 123 led, p.1 ≠ 123 := offP_ne
  generalize offP 123 led = led' at D' N' hsub' hoff'
  cases D'
  rename_i l vs nn hl hD
  have hD := tupKs_of hD
  clear D N hsub hP
  refine wpAny_call ?_
  k_dflt cell_enter
  k_steps
  refine unpark ?_
  rename Fr h₀ _ _ _ => lG
  rename Fr _ _ _ (fun y => _) => lF
  rename News _ _ _ _ => lN
  rename Top _ _ _ _ _ _ => lT
  obtain ⟨bm, ob, q1, q2, q3, q4, q5, q6⟩ := lT.bmain
  rename (A.hd.heap_39 w.params).In _ => lX
  refine genexp_fmt (ps := ps) (vs := vs) (ks := ts) lF lN ?k1 (C.keeps lG.keep) ⟨lT.g, q1, q2, q3, q4, q5, q6⟩ lT.b lT.nolimit ?k2 ?k3 rfl rfl ?k4 hl hD ?k5 hps hG ?k6 rfl rfl rfl rfl rfl ?k7 (by decide) rfl rfl rfl rfl ?k8 (fun _ => rfl)
  case k1 => exact hoff'
  case k2 => exact mg_none_of lX lT.g (by k_is)
  case k3 => exact (lT.builtins _ (by decide)).trans rfl
  case k4 => rfl
  case k5 => exact fun k hk => by have := hts k hk; omega
  case k6 => ktr_room
  case k7 => rfl
  case k8 =>
    intro ga h5 g5 tk5 ps5 ledX hps5 hG5 F5 N5 hsX hoX GI
    have hlX : (l, listOf vs.toArray nn) ∈ (123, tabObj ps5) :: ledX := .tail _ (hsX _ hl)
    have hlD := hD.length
    try dsimp only
    try k_fold
    k_steps
    all_goals (
      refine unpark ?_
      (rename Fr _ _ _ (fun y => _) => lF2)
      (rename News _ _ _ _ => lN2)
      refine join_fmt (news := led') (ledX := (123, tabObj ps5) :: ledX) lF2 lN2 (fun p hp => by
        rcases List.mem_cons.mp hp with rfl | hp
        · exact .head _
        · exact .tail _ (hsX _ hp)) GI hG5 rfl rfl rfl (by omega) (joinOk_ks hts hlen (by decide)) ?_
      intro t6 h6 g6 tk6 hG6 F6 N6
      (try dsimp only)
      (try k_fold)
      (with_reducible refine PySem.SB.add ?_ ?hsz)
      (case hsz => exact join_fits hts hlen (by decide))
      intro t7 tk7
      (try dsimp only)
      (try k_fold)
      k_steps)
    · rw [wordsV_many (by omega)]
      (rename Fr h₀ _ _ m => lF3)
      (rename News h₀ _ _ _ => lN3)
      refine hret t7 _ _ _ ps5 hps5 hG6 lF3 (cb_drop lN3 fun p hp => ?_)
      rcases List.mem_cons.mp hp with rfl | hp
      · exact .head _
      · exact .tail _ (hsub' _ hp)
    · rw [wordsV_few (by omega)]
      (rename Fr h₀ _ _ m => lF3)
      (rename News h₀ _ _ _ => lN3)
      refine hret t7 _ _ _ ps5 hps5 hG6 lF3 (cb_drop lN3 fun p hp => ?_)
      rcases List.mem_cons.mp hp with rfl | hp
      · exact .head _
      · exact .tail _ (hsub' _ hp)
end Mine
namespace Mine
theorem fill5 : PySem.Challenge.rw_sn0118_02 = PySem.Challenge.rw_sn0118_02 ∧ A.hd.heap_39 = A.hd.heap_39 := by k_fill; exact ⟨rfl, rfl⟩
noncomputable abbrev NagIs (h : Heap) (mN : Str → Option Value) : Prop := NagCls h 52 51 mN ∧ mN "__init__" = some (.ref 28) ∧ mN "get_lineno" = some (.ref 35) ∧ mN "get_msg" = some (.ref 42) ∧ mN "get_line" = some (.ref 49) ∧ mN "lineno" = none ∧ mN "msg" = none ∧ mN "line" = none
theorem nag_is {w : World} {h : Heap} (X : (A.hd.heap_39 w.params).In h) : ∃ mN, NagIs h mN := by
  have n : h.Ns 51 (h.nsMap 51) := nsIn_ns X (by k_is) (by rw [← Array.all_toList]; rfl)
  refine ⟨_, ⟨⟨_, _, _, _, _, _, _, _, _, _, _, _, _, X 52 _ (by k_is)⟩, n, ns_none_of X n (by k_is), ns_none_of X n (by k_is), ns_none_of X n (by k_is)⟩, nsq_of X n (by k_is), nsq_of X n (by k_is), nsq_of X n (by k_is), nsq_of X n (by k_is), ns_none_of X n (by k_is), ns_none_of X n (by k_is), ns_none_of X n (by k_is)⟩
theorem lk_lineno : typeLookup (.type "Exception") "lineno" = pure none := by rw [typeLookup_type, builtinLookup_eq_fast]; kernel_rfl
theorem lk_msg : typeLookup (.type "Exception") "msg" = pure none := by rw [typeLookup_type, builtinLookup_eq_fast]; kernel_rfl
theorem lk_line : typeLookup (.type "Exception") "line" = pure none := by rw [typeLookup_type, builtinLookup_eq_fast]; kernel_rfl
theorem lk_glineno : typeLookup (.type "Exception") "get_lineno" = pure none := by rw [typeLookup_type, builtinLookup_eq_fast]; kernel_rfl
theorem lk_gmsg : typeLookup (.type "Exception") "get_msg" = pure none := by rw [typeLookup_type, builtinLookup_eq_fast]; kernel_rfl
theorem lk_gline : typeLookup (.type "Exception") "get_line" = pure none := by rw [typeLookup_type, builtinLookup_eq_fast]; kernel_rfl
local macro_rules | `(tactic| walk_at "setAttr ref") => `(tactic| refine park ?_)
/-- the attributes of a nag -/
noncomputable def nagA (v1 v2 v3 : Value) : Str → Option Value := fun y => if y = "line" then some v3 else if y = "msg" then some v2 else if y = "lineno" then some v1 else none
set_option maxHeartbeats 4000000 in
theorem nag_make {w : World} {p : Program} {loose : List Str} {mean : ExcName → Option Value} {mg mb : Str → Option Value} {dp un : Nat} {gd : Option (List Code)} {cn : Str} {cs : Scope} {a : Addr} {ccd : Value} {cl : List (Str × Addr)} {outer : List Env} {A₀ : Around} {base h₀ : Heap} {L : Addr} {m : Str → Option Value} {news : List (Addr × Obj)} {s : Shared} {Q E : Value → Shared → Prop} (B : Below A₀ base outer h₀) (F : Fr h₀ L s.heap m) (X : (A.hd.heap_39 w.params).In h₀) (N : News h₀ L s.heap news) (T : Top p loose mean mg mb h₀) (hk : cs.kind = .function) (hdp : dp + 3 < recursionLimit) (hun : un + 100 < cLine) {v1 v2 v3 : Value} {i1 : Int} {x2 x3 : Str} {t1 t2 t3 : Tok} (e1 : v1 = .int i1 t1) (e2 : v2 = .str x2 t2) (e3 : v3 = .str x3 t3)
    (hret : ∀ h' tk' e t dx oD, NsO oD (nagA v1 v2 v3) → dx ≠ e → (∀ p ∈ news, p.1 ≠ e ∧ p.1 ≠ dx) → Fr h₀ L h' m → News h₀ L h' ((e, excO 52 (some dx) #[.ref t, .none, .none, .none, .bool false, .none]) :: (dx, oD) :: news) → Q (.ref e) { s with heap := h', toks := tk' }) :
    wpAny (model PySem.Challenge.rw_sn0118_02.row.prog w) (ktrTop dp un gd cn cs L a ccd cl outer) (call (.ref 52) [v1, v2, v3]) Q E s := by
  obtain ⟨mN, NC, n1, n2, n3, n4, n5, n6, n7⟩ := nag_is X
  obtain ⟨⟨nm, q, bs, sn, sub, ab, col, dd, k0, k1, k2, k3, k5, hC⟩, hn, q1, q2, q3⟩ := NC.keeps F.keep
  refine wpAny_call_exc_init PySem.F.excBase_Exception hC hn n1 (F.keep _ _ (X 28 _ (by k_is))) rfl (fun h1 e hm => ?_) (by rw [sizeLine_eq]; exact Nat.le_of_ble_eq_true rfl)
  obtain ⟨kk, ne, t, te, tn, tt⟩ := hm
  change Addr at t
  have hL := F.ns.lt
  have F1 : Fr h₀ L h1 m := ⟨F.ns.at' fun o e => kk _ _ e, fun b o e => kk _ _ (F.keep b o e), F.above⟩
  have nL : ∀ b, s.heap.get? b = none → b ≠ L := fun b hb q => by subst q; obtain ⟨o, _, _, ho, _⟩ := F.ns; rw [ho] at hb; cases hb
  have n0 : ∀ b, s.heap.get? b = none → h₀.get? b = none := fun b hb => by
    cases q : h₀.get? b with
    | none => rfl
    | some o => rw [F.keep b o q] at hb; cases hb
  have et : e ≠ t := fun q => by rw [q, tt] at te; cases te
  have e52 : e ≠ 52 := fun q => by rw [q, hC] at ne; cases ne
  have nn : ∀ p ∈ news, p.1 ≠ e ∧ p.1 ≠ t := fun p hp => ⟨fun q => (by have z := (N p hp).1; rw [q, ne] at z; cases z), fun q => (by have z := (N p hp).1; rw [q, tn] at z; cases z)⟩
  have N1 : News h₀ L h1 ((e, excO 52 none #[.ref t, .none, .none, .none, .bool false, .none]) :: (t, tupO [v1, v2, v3] 0) :: news) := by
    intro p hp
    rcases List.mem_cons.mp hp with rfl | hp
    · exact ⟨te, nL _ ne, n0 _ ne⟩
    · rcases List.mem_cons.mp hp with rfl | hp
      · exact ⟨tt, nL _ tn, n0 _ tn⟩
      · exact ⟨kk _ _ (N p hp).1, (N p hp).2⟩
  clear F N hn hC
  subst e1 e2 e3
  refine wpAny_call ?_
  k_dflt cell_enter
  k_steps
  refine unpark ?_
  (rename Fr _ _ _ (fun y => _) => lF)
  (rename News _ _ _ _ => lN)
  (rename Fr h₀ _ _ _ => lG)
  have NG := NC.keeps lG.keep
  refine nag_set0 (rest := news) lF lN NG n5 lk_lineno (by first | exact .tail _ (.head _) | exact .head _) (fun p hp => ⟨by first | exact .tail _ (.tail _ (.tail _ hp)) | exact .tail _ (.tail _ hp), (nn p hp).1⟩) ?_
  intro h2 tk2 oD2 dx a1 a2 a3 F2 N2
  (try dsimp only)
  k_steps
  refine unpark ?_
  have w1 := PySem.Within.cons (Str.ofString "lineno") (Value.int i1 t1) PySem.Within.nil
  refine nag_set1 (rest := news) F2 (by assumption) NG n6 lk_msg (.head _) (.tail _ (.head _)) a2 a1 e52 (fun p hp => ⟨.tail _ (.tail _ hp), (nn p hp).1, a3 p hp⟩) w1 (by rw [sizeLine_eq]; exact Nat.le_of_ble_eq_true rfl) ?_
  intro h3 tk3 oD3 b1 F3 N3
  (try dsimp only)
  k_steps
  refine unpark ?_
  have w2 := PySem.Within.cons (Str.ofString "msg") (Value.str x2 t2) w1
  refine nag_set1 (rest := news) F3 (by assumption) NG n7 lk_line (.head _) (.tail _ (.head _)) a2 b1 e52 (fun p hp => ⟨.tail _ (.tail _ hp), (nn p hp).1, a3 p hp⟩) w2 (by rw [sizeLine_eq]; exact Nat.le_of_ble_eq_true rfl) ?_
  intro h4 tk4 oD4 c1 F4 N4
  (try dsimp only)
  k_steps
  exact hret _ _ e t dx oD4 c1 a2 (fun p hp => ⟨(nn p hp).1, a3 p hp⟩) (by assumption) (by assumption)
end Mine
namespace Mine
theorem fill6 : PySem.Challenge.rw_sn0118_02 = PySem.Challenge.rw_sn0118_02 ∧ A.hd.heap_39 = A.hd.heap_39 := by k_fill; exact ⟨rfl, rfl⟩
local macro_rules | `(tactic| ktr_room) => `(tactic| ((simp only [depth_mark, depth_under_make, depth_under_kw, depth_in1, depth_deeper, depth_caller]); (try dsimp only [ktrTop]); omega))
local macro_rules | `(tactic| walk_at "no such key W6") => `(tactic| skip)
local macro_rules | `(tactic| walk_at "getAttr ref") => `(tactic| refine park ?_)
set_option maxHeartbeats 4000000 in
theorem getlineno_spec {w : World} {p : Program} {loose : List Str} {mean : ExcName → Option Value} {mg mb : Str → Option Value} {dp un : Nat} {gd : Option (List Code)} {cn : Str} {cs : Scope} {a : Addr} {ccd : Value} {cl : List (Str × Addr)} {outer : List Env} {A₀ : Around} {base h₀ : Heap} {L : Addr} {m : Str → Option Value} {news : List (Addr × Obj)} {s : Shared} {Q E : Value → Shared → Prop} (B : Below A₀ base outer h₀) (F : Fr h₀ L s.heap m) (X : (A.hd.heap_39 w.params).In h₀) (N : News h₀ L s.heap news) (T : Top p loose mean mg mb h₀) (hk : cs.kind = .function) (hdp : dp + 1 < recursionLimit) (hun : un + 100 < cLine) {vm : Value} {e dx : Addr} {vs : Array Value} {oD : Obj} {v1 v2 v3 : Value} {i1 : Int} {t1 : Tok} (hx : (e, excO 52 (some dx) vs) ∈ news) (hd : (dx, oD) ∈ news) (hdx : dx ≠ e) (hD : NsO oD (nagA v1 v2 v3)) (e1 : v1 = .int i1 t1)
    (hret : ∀ h' tk', Fr h₀ L h' m → News h₀ L h' news → Q v1 { s with heap := h', toks := tk' }) :
    wpAny (model PySem.Challenge.rw_sn0118_02.row.prog w) ((ktrTop dp un gd cn cs L a ccd cl outer).mark (some vm)) (call (.ref 35) [.ref e]) Q E s := by
  obtain ⟨mN, NC, n1, n2, n3, n4, n5, n6, n7⟩ := nag_is X
  refine wpAny_call ?_
  k_dflt cell_enter
  k_steps
  refine unpark ?_
  (rename Fr _ _ _ (fun y => _) => lF)
  (rename News _ _ _ _ => lN)
  (rename Fr h₀ _ _ _ => lG)
  refine nag_get lF lN (NC.keeps lG.keep) n5 lk_lineno hx hd hdx hD (v := v1) rfl (by rw [e1]; rfl) ?_
  (try dsimp only)
  (try k_fold)
  k_steps
  exact hret _ _ (by assumption) (by assumption)
set_option maxHeartbeats 4000000 in
theorem getmsg_spec {w : World} {p : Program} {loose : List Str} {mean : ExcName → Option Value} {mg mb : Str → Option Value} {dp un : Nat} {gd : Option (List Code)} {cn : Str} {cs : Scope} {a : Addr} {ccd : Value} {cl : List (Str × Addr)} {outer : List Env} {A₀ : Around} {base h₀ : Heap} {L : Addr} {m : Str → Option Value} {news : List (Addr × Obj)} {s : Shared} {Q E : Value → Shared → Prop} (B : Below A₀ base outer h₀) (F : Fr h₀ L s.heap m) (X : (A.hd.heap_39 w.params).In h₀) (N : News h₀ L s.heap news) (T : Top p loose mean mg mb h₀) (hk : cs.kind = .function) (hdp : dp + 1 < recursionLimit) (hun : un + 100 < cLine) {vm : Value} {e dx : Addr} {vs : Array Value} {oD : Obj} {v1 v2 v3 : Value} {x2 : Str} {t2 : Tok} (hx : (e, excO 52 (some dx) vs) ∈ news) (hd : (dx, oD) ∈ news) (hdx : dx ≠ e) (hD : NsO oD (nagA v1 v2 v3)) (e2 : v2 = .str x2 t2)
    (hret : ∀ h' tk', Fr h₀ L h' m → News h₀ L h' news → Q v2 { s with heap := h', toks := tk' }) :
    wpAny (model PySem.Challenge.rw_sn0118_02.row.prog w) ((ktrTop dp un gd cn cs L a ccd cl outer).mark (some vm)) (call (.ref 42) [.ref e]) Q E s := by
  obtain ⟨mN, NC, n1, n2, n3, n4, n5, n6, n7⟩ := nag_is X
  refine wpAny_call ?_
  k_dflt cell_enter
  k_steps
  refine unpark ?_
  (rename Fr _ _ _ (fun y => _) => lF)
  (rename News _ _ _ _ => lN)
  (rename Fr h₀ _ _ _ => lG)
  refine nag_get lF lN (NC.keeps lG.keep) n6 lk_msg hx hd hdx hD (v := v2) rfl (by rw [e2]; rfl) ?_
  (try dsimp only)
  (try k_fold)
  k_steps
  exact hret _ _ (by assumption) (by assumption)
set_option maxHeartbeats 4000000 in
theorem getline_spec {w : World} {p : Program} {loose : List Str} {mean : ExcName → Option Value} {mg mb : Str → Option Value} {dp un : Nat} {gd : Option (List Code)} {cn : Str} {cs : Scope} {a : Addr} {ccd : Value} {cl : List (Str × Addr)} {outer : List Env} {A₀ : Around} {base h₀ : Heap} {L : Addr} {m : Str → Option Value} {news : List (Addr × Obj)} {s : Shared} {Q E : Value → Shared → Prop} (B : Below A₀ base outer h₀) (F : Fr h₀ L s.heap m) (X : (A.hd.heap_39 w.params).In h₀) (N : News h₀ L s.heap news) (T : Top p loose mean mg mb h₀) (hk : cs.kind = .function) (hdp : dp + 1 < recursionLimit) (hun : un + 100 < cLine) {vm : Value} {e dx : Addr} {vs : Array Value} {oD : Obj} {v1 v2 v3 : Value} {x3 : Str} {t3 : Tok} (hx : (e, excO 52 (some dx) vs) ∈ news) (hd : (dx, oD) ∈ news) (hdx : dx ≠ e) (hD : NsO oD (nagA v1 v2 v3)) (e3 : v3 = .str x3 t3)
    (hret : ∀ h' tk', Fr h₀ L h' m → News h₀ L h' news → Q v3 { s with heap := h', toks := tk' }) :
    wpAny (model PySem.Challenge.rw_sn0118_02.row.prog w) ((ktrTop dp un gd cn cs L a ccd cl outer).mark (some vm)) (call (.ref 49) [.ref e]) Q E s := by
  obtain ⟨mN, NC, n1, n2, n3, n4, n5, n6, n7⟩ := nag_is X
  refine wpAny_call ?_
  k_dflt cell_enter
  k_steps
  refine unpark ?_
  (rename Fr _ _ _ (fun y => _) => lF)
  (rename News _ _ _ _ => lN)
  (rename Fr h₀ _ _ _ => lG)
  refine nag_get lF lN (NC.keeps lG.keep) n7 lk_line hx hd hdx hD (v := v3) rfl (by rw [e3]; rfl) ?_
  (try dsimp only)
  (try k_fold)
  k_steps
  exact hret _ _ (by assumption) (by assumption)
end Mine
namespace Mine
theorem fill7 : PySem.Challenge.rw_sn0118_02 = PySem.Challenge.rw_sn0118_02 ∧ A.hd.heap_39 = A.hd.heap_39 := by k_fill; exact ⟨rfl, rfl⟩
local macro_rules | `(tactic| walk_at "exec Raise some none") => `(tactic| refine park ?_)
local macro_rules | `(tactic| walk_at "call ref") => `(tactic| (k_dflt (show wpAny _ _ (call (Value.ref 114) _) _ _ _); refine park ?_))
local macro_rules | `(tactic| walk_at "call ref") => `(tactic| (k_dflt (show wpAny _ _ (call (Value.ref 100) _) _ _ _); refine park ?_))
local macro_rules | `(tactic| walk_at "call ref") => `(tactic| (k_dflt (show wpAny _ _ (call (Value.ref 128) _) _ _ _); refine park ?_))
local macro_rules | `(tactic| walk_at "call ref") => `(tactic| (k_dflt (show wpAny _ _ (call (Value.ref 52) _) _ _ _); refine park ?_))
local macro_rules | `(tactic| walk_at "call ref") => `(tactic| (k_here; k_dflt (show wpAny _ _ (call (Value.ref 107) [_, _]) _ _ _); k_dflt (refine' less_spec ?k1 ?k2 ?k3 ?k4 ?k5 ?k6 ?k7 ?k8 ?k9 ?ka ?_; (case k1 => k_asm); (case k2 => k_asm); (case k3 => k_asm); (case k4 => k_asm); (case k5 => k_asm); (case k6 => first | exact rfl | assumption); (case k7 => ktr_room); (case k8 => ktr_units); (case k9 => first | assumption | exact MarkIn.up (by assumption) (by kcf_all)); (case ka => first | assumption | exact MarkIn.up (by assumption) (by kcf_all)); (intro h9 tk9 r9 e9 F9 N9; (try dsimp only); (try k_sweep); (try k_fold)))))
local macro_rules | `(tactic| walk_at "call ref") => `(tactic| (k_here; k_dflt (show wpAny _ _ (call (Value.ref 93) [_, _]) _ _ _); k_dflt (refine' equal_spec ?k1 ?k2 ?k3 ?k4 ?k5 ?k6 ?k7 ?k8 ?k9 ?ka ?_; (case k1 => k_asm); (case k2 => k_asm); (case k3 => k_asm); (case k4 => k_asm); (case k5 => k_asm); (case k6 => first | exact rfl | assumption); (case k7 => ktr_room); (case k8 => ktr_units); (case k9 => first | assumption | exact MarkIn.up (by assumption) (by kcf_all)); (case ka => first | assumption | exact MarkIn.up (by assumption) (by kcf_all)); (intro t9 h9 tk9 F9 N9; (try dsimp only); (try k_sweep); (try k_fold)))))
set_option maxHeartbeats 4000000 in
theorem ask_spec {w : World} {p : Program} {loose : List Str} {mean : ExcName → Option Value} {mg mb : Str → Option Value} {dp un : Nat} {gd : Option (List Code)} {cn : Str} {cs : Scope} {a : Addr} {ccd : Value} {cl : List (Str × Addr)} {outer : List Env} {A₀ : Around} {base h₀ : Heap} {L : Addr} {m : Str → Option Value} {news : List (Addr × Obj)} {s : Shared} {Q E : Value → Shared → Prop} {ps : Array Value} (B : Below A₀ base outer h₀) (F : Fr h₀ L s.heap m) (X : (A.hd.heap_39 w.params).In h₀) (N : News h₀ L s.heap news) (T : Top p loose mean mg mb h₀) (hk : cs.kind = .function) (hdp : dp + 6 < recursionLimit) (hun : un + 600 < cLine) (hP : (123, tabObj ps) ∈ news) (hps : FmtTab gpos ps) (C : CodeHd h₀ 127 123) (hG : AllBare s.gens) (XB : (A.hd.heap_39 w.params).In base)
    {v v' : Value} {cnt cnt' : List Int} {b n nt b' n' nt' : Int} {dpr : Bool} {i : Int} {ti tr : Tok} {row : Str} (M : MarkIn news v cnt b n nt) (M' : MarkIn news v' cnt' b' n' nt')
    (hret : askV dpr cnt b n nt cnt' b' n' nt' = none → ∀ h' tk', Fr h₀ L h' m → News h₀ L h' news → Q .none { s with heap := h', toks := tk' })
    (hraise : ∀ msg, askV dpr cnt b n nt cnt' b' n' nt' = some msg → ∀ h₂ h' g' tk' ps' e T tb ts t dx oD v1 v2 v3 t1 t2 t3, FmtTab gpos ps' → AllBare g' → h₂.objs.size = h₀.objs.size → (∀ b o, h₀.get? b = some o → ∃ sl, h₂.get? b = some { o with slots := sl }) → (∀ b, h₀.get? b = none → h₂.get? b = none) →
      Below A₀ base outer h₂ → Fr h₂ L h' m → News h₂ L h' ((e, excO 52 (some dx) #[t, .ref T, .none, .none, .bool false, .none]) :: (T, tb) :: (dx, oD) :: (123, tabObj ps') :: offP 123 news) → T ≠ e → dx ≠ e → (∀ p ∈ (dx, oD) :: (123, tabObj ps') :: offP 123 news, p.1 ≠ e ∧ p.1 ≠ T) → tb.data = .fields ts → ts[3]? = some .none →
      NsO oD (nagA v1 v2 v3) → v1 = .int i t1 → v2 = .str msg t2 → v3 = .str row t3 → E (.ref e) { s with heap := h', gens := g', toks := tk' }) :
    wpAny (model PySem.Challenge.rw_sn0118_02.row.prog w) (ktrTop dp un gd cn cs L a ccd cl outer) (call (.ref 152) [v, v', .bool dpr, .int i ti, .str row tr]) Q E s := by
  have M0 := M
  have M0' := M'
  cases M
  cases M'
  cases dpr
  · refine wpAny_call ?_
    k_dflt cell_enter
    (rename Fr h₀ _ _ _ => lG)
    have CG := C.keeps lG.keep
    k_steps
    · exact hret (askV_eq (decide_eq_true (by assumption))) _ _ (by assumption) (by assumption)
    refine unpark ?_
    refine exec_raise (P := fun h => (A.hd.heap_39 w.params).In h) rfl ?_ ⟨_, _, _, _, _, _, _, _, _, _, _, _, _, _, fun h X => X 52 _ (by k_is)⟩
    k_steps
    refine unpark ?_
    k_dflt (refine' newit_spec ?k1 ?k2 ?k3 ?k4 ?k5 ?k6 ?k7 ?k8 M0 M0' ?_; (case k1 => k_asm); (case k2 => k_asm); (case k3 => k_asm); (case k4 => k_asm); (case k5 => k_asm); (case k6 => first | exact rfl | assumption); (case k7 => ktr_room); (case k8 => ktr_units))
    intro r9 led9 h9 tk9 nn9 e9 F9 N9 s9 D9
    (try dsimp only)
    (try k_fold)
    k_steps
    refine unpark ?_
    have hnn : nn9 ≤ 190 := by rw [e9]; simp only [topV, longV]; omega
    have hbd := neW_bd (cnt := cnt) (b := b) (nt := nt) (cnt' := cnt') (b' := b') (nt' := nt') hnn
    k_dflt (refine' format_spec (ps := ps) (led := led9) (news := offP 123 news) ?k1 ?k2 ?k3 ?k4 ?k5 ?k6 ?k7 ?k8 (fun p hp => s9 p (offP_sub p hp)) offP_ne (s9 _ hP) hps CG ?kg D9 hbd.1 hbd.2 ?_; (case kg => exact hG); (case k1 => k_asm); (case k2 => k_asm); (case k3 => k_asm); (case k4 => k_asm); (case k5 => k_asm); (case k6 => first | exact rfl | assumption); (case k7 => ktr_room); (case k8 => ktr_units))
    intro t5 h5 g5 tk5 ps5 hps5 hG5 F5 N5
    (try dsimp only)
    (try k_fold)
    k_steps
    (with_reducible refine PySem.SB.add ?_ ?hsz)
    (case hsz => (have := wordsV_len hbd.1 hbd.2); (rw [sizeLine_eq]); (have e8 : (Str.ofString "indent not equal e.g. ").length ≤ 100 := by decide); omega)
    intro t6 tk6
    (try dsimp only)
    (try k_fold)
    k_steps
    refine unpark ?_
    k_dflt (refine' nag_make ?k1 ?k2 ?k3 ?k4 ?k5 ?k6 ?k7 ?k8 rfl rfl rfl ?_; (case k1 => k_asm); (case k2 => k_asm); (case k3 => k_asm); (case k4 => k_asm); (case k5 => k_asm); (case k6 => first | exact rfl | assumption); (case k7 => ktr_room); (case k8 => ktr_units))
    intro h7 tk7 e7 t7 dx7 oD7 hD7 n1 n2 F7 N7
    (try dsimp only)
    (try k_fold)
    refine ⟨e7, _, _, _, _, _, _, rfl, (X.keeps lG.keep).keeps F7.keep, (N7 _ (.head _)).1, ?_⟩
    refine (show wpAny (model PySem.Challenge.rw_sn0118_02.row.prog w) ((ktrTop dp un gd cn cs L a ccd cl outer).deeper _) (leaving _ (.ref e7)) _ _ _ from ?_)
    unfold leaving
    (rename Below _ _ (_ :: _) _ => lB)
    refine wpAny_bind (note_first lB rfl rfl rfl F7 N7 (fun p hp => by
      rcases List.mem_cons.mp hp with rfl | hp
      · exact n1
      · exact (n2 p hp).1) rfl ?_)
    intro g8 h8 T8 tb8 ts8 z1 sl no B8 F8 N8 u1 u2 u3 u4
    refine flight_to F8 N8 u1 u2 rfl u3 u4 ?_
    intro h9 tb9 ts9 F9' N9' v1 v2
    obtain ⟨h2, y1, y2, y3, y4, y5, y6⟩ := leave_ground B lG B8 sl F9' N9'
    exact hraise _ (askV_ne (decide_eq_false (by assumption))) h2 _ _ _ _ e7 T8 tb9 ts9 _ dx7 oD7 _ _ _ _ _ _ hps5 hG5 y1 y2 y3 y4 y5 y6 u1 n1 (fun p hp => ⟨by
      rcases List.mem_cons.mp hp with rfl | hp
      · exact n1
      · exact (n2 p hp).1, u2 p hp⟩) v1 v2 hD7 rfl (by rw [e9]; rfl) rfl
  · refine wpAny_call ?_
    k_dflt cell_enter
    (rename Fr h₀ _ _ _ => lG)
    have CG := C.keeps lG.keep
    k_steps
    · exact hret (askV_less (by assumption) (by assumption)) _ _ (by assumption) (by assumption)
    refine unpark ?_
    refine exec_raise (P := fun h => (A.hd.heap_39 w.params).In h) rfl ?_ ⟨_, _, _, _, _, _, _, _, _, _, _, _, _, _, fun h X => X 52 _ (by k_is)⟩
    k_steps
    refine unpark ?_
    k_dflt (refine' nlwit_spec ?k1 ?k2 ?k3 ?k4 ?k5 ?k6 ?k7 ?k8 M0 M0' ?_; (case k1 => k_asm); (case k2 => k_asm); (case k3 => k_asm); (case k4 => k_asm); (case k5 => k_asm); (case k6 => first | exact rfl | assumption); (case k7 => ktr_room); (case k8 => ktr_units))
    intro r9 led9 h9 tk9 nn9 e9 F9 N9 s9 D9
    (try dsimp only)
    (try k_fold)
    k_steps
    refine unpark ?_
    have hnn : nn9 ≤ 190 := by rw [e9]; simp only [topV, longV]; omega
    have hbd := nlW_bd (cnt := cnt) (b := b) (nt := nt) (cnt' := cnt') (b' := b') (nt' := nt') hnn
    k_dflt (refine' format_spec (ps := ps) (led := led9) (news := offP 123 news) ?k1 ?k2 ?k3 ?k4 ?k5 ?k6 ?k7 ?k8 (fun p hp => s9 p (offP_sub p hp)) offP_ne (s9 _ hP) hps CG ?kg D9 hbd.1 hbd.2 ?_; (case kg => exact hG); (case k1 => k_asm); (case k2 => k_asm); (case k3 => k_asm); (case k4 => k_asm); (case k5 => k_asm); (case k6 => first | exact rfl | assumption); (case k7 => ktr_room); (case k8 => ktr_units))
    intro t5 h5 g5 tk5 ps5 hps5 hG5 F5 N5
    (try dsimp only)
    (try k_fold)
    k_steps
    (with_reducible refine PySem.SB.add ?_ ?hsz)
    (case hsz => (have := wordsV_len hbd.1 hbd.2); (rw [sizeLine_eq]); (have e8 : (Str.ofString "indent not greater e.g. ").length ≤ 100 := by decide); omega)
    intro t6 tk6
    (try dsimp only)
    (try k_fold)
    k_steps
    refine unpark ?_
    k_dflt (refine' nag_make ?k1 ?k2 ?k3 ?k4 ?k5 ?k6 ?k7 ?k8 rfl rfl rfl ?_; (case k1 => k_asm); (case k2 => k_asm); (case k3 => k_asm); (case k4 => k_asm); (case k5 => k_asm); (case k6 => first | exact rfl | assumption); (case k7 => ktr_room); (case k8 => ktr_units))
    intro h7 tk7 e7 t7 dx7 oD7 hD7 n1 n2 F7 N7
    (try dsimp only)
    (try k_fold)
    refine ⟨e7, _, _, _, _, _, _, rfl, (X.keeps lG.keep).keeps F7.keep, (N7 _ (.head _)).1, ?_⟩
    refine (show wpAny (model PySem.Challenge.rw_sn0118_02.row.prog w) ((ktrTop dp un gd cn cs L a ccd cl outer).deeper _) (leaving _ (.ref e7)) _ _ _ from ?_)
    unfold leaving
    (rename Below _ _ (_ :: _) _ => lB)
    refine wpAny_bind (note_first lB rfl rfl rfl F7 N7 (fun p hp => by
      rcases List.mem_cons.mp hp with rfl | hp
      · exact n1
      · exact (n2 p hp).1) rfl ?_)
    intro g8 h8 T8 tb8 ts8 z1 sl no B8 F8 N8 u1 u2 u3 u4
    refine flight_to F8 N8 u1 u2 rfl u3 u4 ?_
    intro h9 tb9 ts9 F9' N9' v1 v2
    obtain ⟨h2, y1, y2, y3, y4, y5, y6⟩ := leave_ground B lG B8 sl F9' N9'
    exact hraise _ (askV_ng (by assumption) (by assumption)) h2 _ _ _ _ e7 T8 tb9 ts9 _ dx7 oD7 _ _ _ _ _ _ hps5 hG5 y1 y2 y3 y4 y5 y6 u1 n1 (fun p hp => ⟨by
      rcases List.mem_cons.mp hp with rfl | hp
      · exact n1
      · exact (n2 p hp).1, u2 p hp⟩) v1 v2 hD7 rfl (by rw [e9]; rfl) rfl
end Mine
namespace Mine
theorem fill8 : PySem.Challenge.rw_sn0118_02 = PySem.Challenge.rw_sn0118_02 ∧ A.hd.heap_39 = A.hd.heap_39 := by k_fill; exact ⟨rfl, rfl⟩
inductive MarksIn (led : List (Addr × Obj)) : List Value → List (List Int × Int × Int × Int) → Prop
  | nil : MarksIn led [] []
  | cons {v : Value} {vs : List Value} {cnt : List Int} {b n nt : Int} {ms : List (List Int × Int × Int × Int)} : MarkIn led v cnt b n nt → MarksIn led vs ms → MarksIn led (v :: vs) ((cnt, b, n, nt) :: ms)
theorem MarksIn.up {led led' : List (Addr × Obj)} (hs : ∀ p ∈ led, p ∈ led') : ∀ {vs : List Value} {ms : List (List Int × Int × Int × Int)}, MarksIn led vs ms → MarksIn led' vs ms
  | _, _, .nil => .nil
  | _, _, .cons h r => .cons (h.up hs) (r.up hs)
theorem MarksIn.snoc {led : List (Addr × Obj)} {v : Value} {cnt : List Int} {b n nt : Int} (h : MarkIn led v cnt b n nt) : ∀ {vs : List Value} {ms : List (List Int × Int × Int × Int)}, MarksIn led vs ms → MarksIn led (vs ++ [v]) (ms ++ [(cnt, b, n, nt)])
  | _, _, .nil => .cons h .nil
  | _, _, .cons h' r => .cons h' (r.snoc h)
open LCg in
set_option maxHeartbeats 400000 in
theorem comp_marks {w : World} {p : Program} {loose : List Str} {mean : ExcName → Option Value} {mg mb : Str → Option Value} {dp un : Nat} {gd : Option (List Code)} {cn : Str} {cs : Scope} {a : Addr} {ccd : Value} {cl cl' : List (Str × Addr)} {outer : List Env} {A₀ : Around} {base h₀ : Heap} {L : Addr} {m : Str → Option Value} {news : List (Addr × Obj)} {s : Shared} {env : Env} {scope : Scope} {p1 p2 p3 : Pos} {Fin : List Value → List (Addr × Obj) → Prop}
    (B : Below A₀ base outer h₀) (X : (A.hd.heap_39 w.params).In h₀) (T : Top p loose mean mg mb h₀) (hk : cs.kind = .function) (hdp : dp + 5 < recursionLimit) (hun : un + 500 < cLine)
    {lr : Addr} {rvs : List Value} {er : Nat} {rows : List Str} (hr : StrsAre rvs rows) (hsz : ∀ x ∈ rows, x.cps.size ≤ 64) (hg : env.globals = mainGlobals)
    (hks : ∀ C, (compEnvC scope cl' C env).scope.kind = .function) (hn1 : ∀ C, (compEnvC scope cl' C env).kindOf (Str.ofString "Whitespace") = some .globalImplicit) (hn2 : ∀ C, (compEnvC scope cl' C env).kindOf (Str.ofString "row") = some .local)
    (hFin : ∀ ys led', MarksIn led' ys (rows.map wsOf) → (∀ p ∈ news, p ∈ led') → Fin ys led') :
    ∀ k i ys led, i + k = rows.length → (lr, listOf rvs.toArray er) ∈ led → MarksIn led ys ((rows.take i).map wsOf) → (∀ p ∈ news, p ∈ led) →
      CompRest PySem.Challenge.rw_sn0118_02.row.prog w (ktrTop dp un gd cn cs L a ccd cl outer) h₀ L m env (.Call (.Name (Str.ofString "Whitespace") p1) [.Name (Str.ofString "row") p2] [] p3) (Str.ofString "row") scope cl' s (SrcAt h₀ lr rvs.toArray) (fun i v => rvs.toArray[i]? = some v) Fin k i ys led
  | 0, i, ys, led, hi, _, hm, hs => .zero (hFin ys led (by rw [List.take_of_length_le (by omega)] at hm; exact hm) hs)
  | k + 1, i, ys, led, hi, hl, hm, hs => .succ fun v I oI C oC D m₂ h tk E' hv hoC hx F N off ne => by
    have hir : i < rows.length := by omega
    obtain ⟨t, ht⟩ := hr.get i rows[i] (List.getElem?_eq_getElem hir)
    have hv' : rvs[i]? = some v := by simpa using hv
    rw [ht] at hv'
    cases hv'
    refine wpAny_Call_ofName ?_
    refine' LCgL.ld_global ?kF X T (by k_is) ?_ hg (hks C) (hn1 C)
    case kF => exact F
    walk1
    walk1
    refine' LCgL.ld_own ?kN (.tail _ (.head _)) hoC hx ?_ (hks C) (hn2 C)
    case kN => exact N
    refine wpAny_pure ⟨X.keeps F.keep, ?_⟩
    show wpAny _ _ (call (.ref 117) [.str rows[i] t]) _ _ _
    refine init_spec B F X N T hk (by omega) (by omega) (hsz _ (List.getElem_mem hir)) ?_
    intro r led9 mk h9 tk9 cnt b n nt hw F9 N9 s9 f9 M9
    refine CompEnd.intro F9 N9 (mk ++ led) (fun q hq => ?_) (Off3.of fun q hq => ?_) (.inr ⟨_, List.mem_append.mpr (.inr hl), rfl, _, rfl⟩) ?_
    · rcases List.mem_cons.mp hq with rfl | hq
      · exact s9 _ (.head _)
      · rcases List.mem_cons.mp hq with rfl | hq
        · exact s9 _ (.tail _ (.head _))
        · rcases List.mem_cons.mp hq with rfl | hq
          · exact s9 _ (.tail _ (.tail _ (.head _)))
          · rcases List.mem_append.mp hq with hq | hq
            · exact (f9 q hq).1
            · exact s9 _ (.tail _ (.tail _ (.tail _ hq)))
    · rcases List.mem_append.mp hq with hq | hq
      · have z := (f9 q hq).2
        exact ⟨fun e => z _ (.head _) e.symm, fun e => z _ (.tail _ (.head _)) e.symm, fun e => z _ (.tail _ (.tail _ (.head _))) e.symm⟩
      · exact off.mem q hq
    · refine comp_marks B X T hk hdp hun hr hsz hg hks hn1 hn2 hFin k (i + 1) (ys ++ [r]) (mk ++ led) (by omega) (List.mem_append.mpr (.inr hl)) ?_ fun q hq => List.mem_append.mpr (.inr (hs q hq))
      rw [List.take_succ_eq_append_getElem hir, List.map_append, List.map_cons, List.map_nil, hw]
      exact MarksIn.snoc (M9.up fun q hq => List.mem_append.mpr (.inl hq)) (hm.up fun q hq => List.mem_append.mpr (.inr hq))
end Mine
namespace Mine
theorem fill10 : PySem.Challenge.rw_sn0118_02 = PySem.Challenge.rw_sn0118_02 ∧ A.hd.heap_39 = A.hd.heap_39 := by k_fill; exact ⟨rfl, rfl⟩
theorem fn_get {w : World} {h : Heap} (X : (A.hd.heap_39 w.params).In h) : (∃ o, h.get? 35 = some o ∧ o.cls = .type "function") ∧ (∃ o, h.get? 42 = some o ∧ o.cls = .type "function") ∧ (∃ o, h.get? 49 = some o ∧ o.cls = .type "function") :=
  ⟨⟨_, X 35 _ (by k_is), rfl⟩, ⟨_, X 42 _ (by k_is), rfl⟩, ⟨_, X 49 _ (by k_is), rfl⟩⟩
theorem nagA_none {v1 v2 v3 : Value} : nagA v1 v2 v3 (Str.ofString "get_lineno") = none ∧ nagA v1 v2 v3 (Str.ofString "get_msg") = none ∧ nagA v1 v2 v3 (Str.ofString "get_line") = none := ⟨rfl, rfl, rfl⟩
theorem kp_get {w : World} : keepIn (A.hd.heap_39 w.params) (.ref 35) = true ∧ keepIn (A.hd.heap_39 w.params) (.ref 42) = true ∧ keepIn (A.hd.heap_39 w.params) (.ref 49) = true := ⟨by k_is, by k_is, by k_is⟩
end Mine
namespace Mine
theorem fill9 : PySem.Challenge.rw_sn0118_02 = PySem.Challenge.rw_sn0118_02 ∧ A.hd.heap_39 = A.hd.heap_39 := by k_fill; exact ⟨rfl, rfl⟩
local macro_rules | `(tactic| walk_at "exec Assign cons ListComp") => `(tactic| refine park ?_)
local macro_rules | `(tactic| walk_at "exec For Name Call cons nil") => `(tactic| refine park ?_)
local macro_rules | `(tactic| walk_at "exec While") => `(tactic| refine park ?_)
local macro_rules | `(tactic| walk_at "exec Try") => `(tactic| refine park ?_)
local macro_rules | `(tactic| walk_at "call builtin:list.append") => `(tactic| refine park ?_)
local macro_rules | `(tactic| ktr_room) => `(tactic| ((simp only [depth_mark, depth_under_make, depth_under_kw, depth_in1, depth_deeper, depth_caller]); (try dsimp only [ktrTop]); omega))
local macro_rules | `(tactic| walk_at "call builtin:list.pop") => `(tactic| refine park ?_)
local macro_rules | `(tactic| walk_at "KswEnd") => `(tactic| refine park ?_)
local macro_rules | `(tactic| walk_at "getMethod ref") => `(tactic| (with_reducible show wpAny _ _ (getMethod _ (Str.ofString "get_lineno") _) _ _ _; refine park ?_))
local macro_rules | `(tactic| walk_at "getMethod ref") => `(tactic| (with_reducible show wpAny _ _ (getMethod _ (Str.ofString "get_msg") _) _ _ _; refine park ?_))
local macro_rules | `(tactic| walk_at "getMethod ref") => `(tactic| (with_reducible show wpAny _ _ (getMethod _ (Str.ofString "get_line") _) _ _ _; refine park ?_))
local macro_rules | `(tactic| walk_at "callWith ref") => `(tactic| (k_dflt (show wpAny _ _ (callWith _ (Value.ref 35) _ _ _) _ _ _); refine park ?_))
local macro_rules | `(tactic| walk_at "callWith ref") => `(tactic| (k_dflt (show wpAny _ _ (callWith _ (Value.ref 42) _ _ _) _ _ _); refine park ?_))
local macro_rules | `(tactic| walk_at "callWith ref") => `(tactic| (k_dflt (show wpAny _ _ (callWith _ (Value.ref 49) _ _ _) _ _ _); refine park ?_))
local macro_rules | `(tactic| walk_at "call ref") => `(tactic| (k_dflt (show wpAny _ _ (call (Value.ref 35) _) _ _ _); refine park ?_))
local macro_rules | `(tactic| walk_at "call ref") => `(tactic| (k_dflt (show wpAny _ _ (call (Value.ref 42) _) _ _ _); refine park ?_))
local macro_rules | `(tactic| walk_at "call ref") => `(tactic| (k_dflt (show wpAny _ _ (call (Value.ref 49) _) _ _ _); refine park ?_))
local macro_rules | `(tactic| walk_at "pyIter ref") => `(tactic| refine park ?_)
local macro_rules | `(tactic| walk_at "subscriptTail") => `(tactic| (k_here; (with_reducible show wpAny _ _ (subscriptTail _ _ (Value.ref _) (Value.int _ _)) _ _ _); first
  | k_dflt (refine' item_at ?k1 ?k2 ?k3 ?k4 ?k5 ?_; (case k1 => k_asm); (case k2 => first | with_reducible assumption | k_mem); (case k5 => first | with_reducible assumption | assumption); (case k3 => omega); (case k4 => omega); k_whole)
  | k_dflt (refine' item_end ?k1 ?k2 ?k3 ?_; (case k1 => k_asm); (case k2 => first | with_reducible assumption | k_mem); (case k3 => omega); k_whole)))
local macro_rules | `(tactic| walk_at "call builtin:len") => `(tactic| (k_here; (with_reducible show wpAny _ _ (call (Value.builtin "len") [Value.ref _]) _ _ _); k_dflt (refine' len_led ?k1 ?k2 ?k3 ?k4 ?_; (case k1 => k_asm); (case k2 => first | with_reducible assumption | k_mem); (case k3 => assumption); (case k4 => omega); k_whole)))
local macro_rules | `(tactic| walk_at "call ref") => `(tactic| (k_here; k_dflt (show wpAny _ _ (call (Value.ref 86) [_, Value.int _ _]) _ _ _); k_dflt (refine' indent_spec ?k1 ?k2 ?k3 ?k4 ?k5 ?k6 ?k7 ?k8 ?k9 ?ka ?_; (case k1 => k_asm); (case k2 => k_asm); (case k3 => k_asm); (case k4 => k_asm); (case k5 => k_asm); (case k6 => first | exact rfl | assumption); (case k7 => ktr_room); (case k8 => ktr_units); (case k9 => first | assumption | exact MarkIn.up (by assumption) (by kcf_all)); (case ka => omega); (intro t9 h9 tk9 F9 N9; (try dsimp only); (try k_sweep); (try k_fold)))))
local macro_rules | `(tactic| walk_at "call ref") => `(tactic| (k_dflt (show wpAny _ _ (call (Value.ref 117) _) _ _ _); refine park ?_))
local macro_rules | `(tactic| walk_at "call ref") => `(tactic| (k_dflt (show wpAny _ _ (call (Value.ref 152) _) _ _ _); refine park ?_))
inductive StackIn (led : List (Addr × Obj)) : List Value → List MK → Prop
  | one {v : Value} : MarkIn led v [] 0 0 0 → StackIn led [v] [bot]
  | push {v : Value} {vs : List Value} {cnt : List Int} {b n nt : Int} {st : List MK} : StackIn led vs st → MarkIn led v cnt b n nt → StackIn led (vs ++ [v]) ((cnt, b, n, nt) :: st)
theorem StackIn.up {led led' : List (Addr × Obj)} (hs : ∀ p ∈ led, p ∈ led') : ∀ {vs : List Value} {st : List MK}, StackIn led vs st → StackIn led' vs st
  | _, _, .one h => .one (h.up hs)
  | _, _, .push h r => .push (h.up hs) (r.up hs)
theorem MarksIn.get {led : List (Addr × Obj)} {vs : List Value} {ms : List MK} (H : MarksIn led vs ms) : ∀ (i : Nat) (q : MK), ms[i]? = some q → ∃ v, vs[i]? = some v ∧ MarkIn led v q.1 q.2.1 q.2.2.1 q.2.2.2 := by
  induction H with
  | nil => intro i q e; simp at e
  | cons h r ih =>
    intro i q e
    cases i with
    | zero => exact ⟨_, rfl, by simp at e; subst e; exact h⟩
    | succ i => obtain ⟨v, h1, h2⟩ := ih i q (by simpa using e); exact ⟨v, by simpa using h1, h2⟩
theorem MarkIn.off {h₀ h : Heap} {L P : Addr} {led : List (Addr × Obj)} {o : Obj} (N : News h₀ L h led) (hP : (P, o) ∈ led) (ho : o.cls = .none) {v : Value} {cnt : List Int} {b n nt : Int} (M : MarkIn led v cnt b n nt) : MarkIn (offP P led) v cnt b n nt := by
  cases M with
  | mk hx hd h1 h2 hc hlen hb hn hnt hcb =>
    exact .mk (offP_in hx (news_one N hP hx (by rw [ho]; exact fun q => by cases q))) (offP_in hd (news_one N hP hd (by rw [ho]; exact fun q => by cases q))) (offP_in h1 (news_one N hP h1 (by rw [ho]; exact fun q => by cases q)))
      (offP_in h2 (news_one N hP h2 (by rw [ho]; exact fun q => by cases q))) hc hlen hb hn hnt hcb
theorem MarksIn.off {h₀ h : Heap} {L P : Addr} {led : List (Addr × Obj)} {o : Obj} (N : News h₀ L h led) (hP : (P, o) ∈ led) (ho : o.cls = .none) : ∀ {vs : List Value} {ms : List MK}, MarksIn led vs ms → MarksIn (offP P led) vs ms
  | _, _, .nil => .nil
  | _, _, .cons h r => .cons (h.off N hP ho) (r.off N hP ho)
noncomputable def nagNames (lm ln ls lr : Addr) (tab : Int) (tt : Tok) : List (Str × Value) := [(Str.ofString "marks", .ref lm), (Str.ofString "nags", .ref ln), (Str.ofString "stack", .ref ls), (Str.ofString "rows", .ref lr), (Str.ofString "tab", .int tab tt)]
/-- the reading's state at the head of a turn -/
noncomputable def NagJ (g h₀ : Heap) (A1 : Around) (env1 : Env) (news : List (Addr × Obj)) (lm lr : Addr) (mvs : List Value) (tab : Int) (tt : Tok) (ms : List MK) (items : List (Int × MK × Str)) (final : List Dat) (i : Nat) (gr : Heap) (m' : Str → Option Value) (led' : List (Addr × Obj)) (gs : Array GenState) : Prop :=
  ∃ ls svs es ln nvs en ps' st out rest, led' = (ls, listOf svs.toArray es) :: (ln, listOf nvs.toArray en) :: (123, tabObj ps') :: rest ∧ (ls ≠ ln ∧ ls ≠ 123 ∧ ln ≠ 123 ∧ ∀ p ∈ rest, p.1 ≠ ls ∧ p.1 ≠ ln ∧ p.1 ≠ 123) ∧
    (lm, listOf mvs.toArray mvs.length) ∈ rest ∧ (∀ p ∈ news, p.1 ≠ 123 → p ∈ rest) ∧ MarksIn rest mvs ms ∧ StackIn rest svs st ∧ DatAll rest nvs out ∧ AllBare gs ∧ FmtTab gpos ps' ∧ (∀ q ∈ nagNames lm ln ls lr tab tt, m' q.1 = some q.2) ∧
    svs.length ≤ i + 1 ∧ nvs.length ≤ i ∧ nagsGo tab (items.drop i) st out = final ∧ Below A1 h₀ [env1] gr ∧ (∀ b o, g.get? b = some o → ∃ sl, gr.get? b = some { o with slots := sl })
theorem nag_start {g h : Heap} {L P : Addr} {a b c : Addr × Obj} {o : Obj} {led : List (Addr × Obj)} (N : News g L h (a :: b :: c :: led)) (hP : (P, o) ∈ led) : News g L h (a :: b :: (P, o) :: c :: offP P led) := fun p hp => by
  rcases List.mem_cons.mp hp with rfl | hp
  · exact N _ (.head _)
  rcases List.mem_cons.mp hp with rfl | hp
  · exact N _ (.tail _ (.head _))
  rcases List.mem_cons.mp hp with rfl | hp
  · exact N _ (.tail _ (.tail _ (.tail _ hP)))
  rcases List.mem_cons.mp hp with rfl | hp
  · exact N _ (.tail _ (.tail _ (.head _)))
  · exact N _ (.tail _ (.tail _ (.tail _ (offP_sub p hp))))
theorem nag_end {g h : Heap} {L : Addr} {pD p1 p2 p3 p4 p5 pI pS pN : Addr × Obj} {rest : List (Addr × Obj)} (N : News g L h (pD :: p1 :: p2 :: p3 :: p4 :: p5 :: pI :: pS :: pN :: rest)) : News g L h (pI :: pS :: pN :: p5 :: pD :: rest) := fun p hp => N p (by
  simp only [List.mem_cons] at hp ⊢
  rcases hp with h | h | h | h | h | h <;> simp [h])
theorem off4 {I ls ln : Addr} {o1 o2 o3 o4 : Obj} {rest : List (Addr × Obj)} (h1 : I ≠ 123) (h2 : ls ≠ 123) (h3 : ln ≠ 123) (h : ∀ p ∈ rest, p.1 ≠ 123) :
    offP 123 ((I, o1) :: (ls, o2) :: (ln, o3) :: (123, o4) :: rest) = (I, o1) :: (ls, o2) :: (ln, o3) :: rest := by
  unfold offP
  rw [List.filter_cons_of_pos (by simpa using h1), List.filter_cons_of_pos (by simpa using h2), List.filter_cons_of_pos (by simpa using h3), List.filter_cons_of_neg (by simp), List.filter_eq_self.mpr fun p hp => by simpa using h p hp]
theorem dx_ne_list {g h : Heap} {L dx l : Addr} {oD : Obj} {led : List (Addr × Obj)} {vs : Array Value} {n : Nat} {mA : Str → Option Value} (N : News g L h led) (hd : (dx, oD) ∈ led) (hl : (l, listOf vs n) ∈ led) (hD : NsO oD mA) : dx ≠ l := fun e => by
  subst e
  have e1 := (N _ hd).1
  have e2 := (N _ hl).1
  rw [e1] at e2
  cases e2
  obtain ⟨o, es, ep, ho, hd', _⟩ := hD _ _ e1
  rw [e1] at ho
  cases ho
  cases hd'
theorem StackIn.top {led : List (Addr × Obj)} : ∀ {vs : List Value} {st : List MK}, StackIn led vs st → ∃ vs' v q r, vs = vs' ++ [v] ∧ st = q :: r ∧ MarkIn led v q.1 q.2.1 q.2.2.1 q.2.2.2 ∧ (q = bot ∨ StackIn led vs' r)
  | _, _, .one h => ⟨[], _, bot, [], rfl, rfl, h, .inl rfl⟩
  | _, _, .push s h => ⟨_, _, _, _, rfl, rfl, h, .inr s⟩
theorem MarkIn.lv0 {led : List (Addr × Obj)} {v : Value} {cnt : List Int} {b n nt ts : Int} (M : MarkIn led v cnt b n nt) (h : 1 ≤ ts) : 0 ≤ lvM ts (cnt, b, n, nt) := by
  cases M with
  | mk hx hd h1 h2 hc hlen hb hn hnt hcb => exact level_nonneg hb.1 hnt.1 h hcb
set_option maxHeartbeats 4000000 in
theorem nags_spec {w : World} {p : Program} {loose : List Str} {mean : ExcName → Option Value} {mg mb : Str → Option Value} {dp un : Nat} {gd : Option (List Code)} {cn : Str} {cs : Scope} {a : Addr} {ccd : Value} {cl : List (Str × Addr)} {A₀ : Around} {h₀ : Heap} {L : Addr} {m : Str → Option Value} {news : List (Addr × Obj)} {s : Shared} {Q E : Value → Shared → Prop} {ps : Array Value}
    (B : Below A₀ h₀ [] h₀) (F : Fr h₀ L s.heap m) (X : (A.hd.heap_39 w.params).In h₀) (N : News h₀ L s.heap news) (T : Top p loose mean mg mb h₀) (hk : cs.kind = .function) (hdp : dp + 9 < recursionLimit) (hun : un + 900 < cLine)
    (hP : (123, tabObj ps) ∈ news) (hps : FmtTab gpos ps) (C : CodeHd h₀ 127 123) (hG : AllBare s.gens)
    {lr : Addr} {rvs : List Value} {er : Nat} {rows : List Str} {tab : Int} {tt : Tok} (hlr : (lr, listOf rvs.toArray er) ∈ news) (hr : StrsAre rvs rows) (hlen : 1 ≤ rows.length ∧ rows.length ≤ 7) (hrow0 : ∀ r, rows.head? = some r → wsOf r = bot) (hsz : ∀ x ∈ rows, x.cps.size ≤ 64) (htab : 1 ≤ tab ∧ tab ≤ 8)
    (hret : ∀ r led h' g' tk', Fr h₀ L h' m → News h₀ L h' led → (∀ p ∈ news, p.1 ≠ 123 → p ∈ led) → (∃ ps', (123, tabObj ps') ∈ led) → AllBare g' → DatIn led r (.list (nagsV tab rows)) → Q r { s with heap := h', gens := g', toks := tk' }) :
    wpAny (model PySem.Challenge.rw_sn0118_02.row.prog w) (ktrTop dp un gd cn cs L a ccd cl []) (call (.ref 157) [.ref lr, .int tab tt]) Q E s := by
  refine wpAny_call ?_
  k_dflt (refine' code_defR ?k1 ?k2 ?k3 ?k4 ?k5 ?kA ?kF ?kK ?k6 ?k7 ?k8 ?k9 ?kB ?_ ?c2 ?c3 ?c4 ?c5; (case kA => exact rfl); (case kF => exact rfl); (case kK => assumption); (case k1 => k_asm); (case k2 => k_asm); (case k3 => k_asm); (case k4 => k_asm); (case k5 => k_asm); (case k6 => k_is); (case k7 => k_is); (case k8 => ktr_room); (case k9 => exact BindsTo.of_eq rfl); (case c5 => decide); (case kB => exact locs rfl); (case c2 => exact rfl); (case c3 => exact rfl); (case c4 => exact rfl))
  intro g L' h1 FG F' N' B' X' T'
  try dsimp only
  k_steps
  refine unpark ?_
  (rename Fr _ _ _ (fun y => _) => lF)
  refine LCg.Assign_ListComp_U lF rfl rfl rfl (by decide) rfl (by decide) rfl rfl rfl ?_ (fun _ => rfl)
  k_steps
  have hrl := hr.length
  refine LCg.CompSrc.ledger (its := rvs.toArray) (k := er) rfl lF N' hlr (by rw [sizeLine_eq, List.size_toArray]; omega) ?_
  intro gh
  k_dflt (refine' comp_marks (rows := rows) B' X' T' ?k6 ?k7 ?k8 hr hsz rfl (fun _ => rfl) (fun _ => rfl) (fun _ => rfl) ?_ _ 0 [] news ?ke hlr .nil (fun _ h => h); (case k6 => rfl); (case k7 => first | omega | ktr_room); (case k8 => first | omega | ktr_units); (case ke => rw [List.size_toArray]; omega))
  intro mvs led1 hM hs1 lm h2 tk2 F2 N2 o2
  (try dsimp only)
  (try k_fold)
  have hM0 := hM
  obtain ⟨row0, rows', rfl⟩ : ∃ a r, rows = a :: r := by
    cases rows with
    | nil => simp at hlen
    | cons a r => exact ⟨a, r, rfl⟩
  obtain ⟨v0, hv0, M0⟩ := hM.get 0 _ rfl
  rw [hrow0 row0 rfl] at M0
  have kM := kdMark
  have hlr1 := hs1 _ hlr
  have N2 : News g L' h2 ((lm, listOf mvs.toArray mvs.length) :: led1) := N2
  k_steps
  refine unpark ?_
  refine wpAny_For ?_ (fun _ => rfl)
  k_steps
  refine unpark ?_
  (rename News _ _ _ _ => lN)
  (rename Fr _ _ _ (fun y => _) => lF2)
  (rename IsRange _ _ _ _ _ _ _ _ => rgX)
  have B1 : Below (ktrTop dp un gd cn cs L a ccd cl []) h₀ [envX cn cs L a ccd cl] g := B'
  have hP1 := hs1 _ hP
  have lN2 := nag_start lN hP1
  refine for_rangeG (NagJ g h₀ (ktrTop dp un gd cn cs L a ccd cl []) (envX cn cs L a ccd cl) news lm lr mvs tab tt ((row0 :: rows').map wsOf) (nagItems rows') (nagsV tab (row0 :: rows'))) rfl rgX (by exact small_one (by omega) (by omega) (by simp only [List.length_cons] at *; omega) (by simp only [List.length_cons] at *; omega)) (n := rows'.length) ?hsz rfl rfl rfl (by passes_own) lF2 lN2 ?hJ ?hturn ?hdone
  case hsz => exact (rangeSize_nat _ _).trans (by simp only [List.length_cons] at *; omega)
  case hJ =>
    have l2 := ‹_ < _ ∧ _ < _ ∧ AllLt _ led1›
    have l1 := ‹_ < _ ∧ AllLt _ led1›
    have N1 : News g L' _ led1 := fun p hp => lN p (.tail _ (.tail _ (.tail _ hp)))
    have q126 := kst_ltOf l2.2.2 _ hP1
    have r126 := kst_ltOf l1.2 _ hP1
    have lm126 : lm ≠ 123 := fun e => by have := (lN _ (.tail _ (.tail _ (.head _)))).1; rw [e, (N1 _ hP1).1] at this; cases this
    have up1 : ∀ p ∈ offP 123 led1, p ∈ (lm, listOf mvs.toArray mvs.length) :: offP 123 led1 := fun p hp => .tail _ hp
    refine ⟨_, [v0], 0, _, [], 0, ps, [bot], [], _, rfl, ⟨(Nat.ne_of_lt l2.1).symm, (Nat.ne_of_lt q126).symm, (Nat.ne_of_lt r126).symm, fun p hp => ?_⟩, .head _, fun p hp hne => .tail _ (offP_in (hs1 p hp) hne), (hM0.off N1 hP1 rfl).up up1, .one ((M0.off N1 hP1 rfl).up up1), .nil, hG, hps, ?_, Nat.le_refl _, Nat.le_refl _, rfl, B1, fun b o e => ⟨o.slots, e⟩⟩
    · rcases List.mem_cons.mp hp with rfl | hp
      · exact ⟨Nat.ne_of_lt l2.2.1, Nat.ne_of_lt l1.1, lm126⟩
      · exact ⟨Nat.ne_of_lt (kst_ltOf l2.2.2 _ (offP_sub p hp)), Nat.ne_of_lt (kst_ltOf l1.2 _ (offP_sub p hp)), offP_ne p hp⟩
    · unfold nagNames
      kst_all
  case hdone =>
    rintro gr m' led' gs h5 tk5 ⟨ls, svs, es, ln, nvs, en, ps', st, out, rest, rfl, d1, d2, d3, d4, d5, d6, d7, d8, d9, d10, d11, d12, d13, d14⟩ F5 N5
    rw [← kstB_self d9] at F5
    have X5 := X.keeps d13.stays
    have T5 := T.keeps d13.stays
    unfold nagNames at F5
    dsimp only [kstB] at F5
    dsimp only
    k_steps
    refine unpark ?_
    (rename Fr gr _ _ _ => lF5)
    (rename News gr _ _ _ => lN5)
    have bb := back_base F FG d13 d14 lF5 lN5
    have e5 : nagsV tab (row0 :: rows') = out := by
      rw [List.drop_of_length_le (by simp [nagItems, rangeKs_length])] at d12
      exact d12.symm
    exact hret _ _ _ _ _ bb.1 bb.2 (fun p hp hne => .tail _ (.tail _ (.tail _ (d3 p hp hne)))) ⟨_, .tail _ (.tail _ (.head _))⟩ d7 (e5 ▸ .list (.tail _ (.head _)) (DatAll.mono (fun p hp => .tail _ (.tail _ (.tail _ hp))) d6))
  case hturn =>
    rintro i k t I o gr m' led' gs h5 tk5 hi hk5 ⟨ls, svs, es, ln, nvs, en, ps', st, out, rest, rfl, d1, d2, d3, d4, d5, d6, d7, d8, d9, d10, d11, d12, d13, d14⟩ hoff F5 N5
    rw [← kstB_self d9] at F5
    have X5 := X.keeps d13.stays
    have T5 := T.keeps d13.stays
    have C5 := C.keeps d13.stays
    unfold nagNames at F5
    dsimp only [kstB] at F5
    dsimp only
    have hi1 : i + 1 < (row0 :: rows').length := by simp only [List.length_cons]; omega
    have ek : k.toNat = i + 1 := by omega
    obtain ⟨row, hrw⟩ : ∃ row, (row0 :: rows')[i + 1]? = some row := ⟨_, List.getElem?_eq_getElem hi1⟩
    obtain ⟨vi, hvi, Mi⟩ := d4.get (i + 1) (wsOf row) (by rw [List.getElem?_map, hrw]; rfl)
    obtain ⟨tr, htr⟩ := hr.get (i + 1) _ hrw
    rw [← ek] at hvi htr
    have hrow : row.cps.size ≤ 64 := hsz _ (List.mem_of_getElem? hrw)
    have hitem : (nagItems rows')[i]? = some (k, wsOf row, row) := by
      have h1 : rows'[i]? = some row := by simpa using hrw
      have h2 : (rangeKs 1 rows'.length)[i]? = some k := by simp [rangeKs, hi]; omega
      unfold nagItems
      rw [List.getElem?_zip_eq_some]
      refine ⟨h2, ?_⟩
      rw [List.getElem?_zip_eq_some]
      exact ⟨by rw [List.getElem?_map, h1]; rfl, h1⟩
    obtain ⟨svs', v, q, r, rfl, rfl, Mq, _⟩ := d5.top
    generalize wsOf row = qi at Mi hitem
    obtain ⟨cnti, bi, ni, nti⟩ := qi
    obtain ⟨cntq, bq, nq, ntq⟩ := q
    dsimp only at Mi Mq
    have hk6 : 1 ≤ k ∧ k ≤ 7 := by simp only [List.length_cons] at hlen; omega
    have hl1 : svs'.length ≤ 7 := by simp only [List.length_append, List.length_cons, List.length_nil] at d10; simp only [List.length_cons] at hlen; omega
    have hl2 : nvs.length ≤ 7 := by simp only [List.length_cons] at hlen; omega
    have hlr5 := d3 _ hlr (fun e => by have := (N _ hlr).1; rw [e, (N _ hP).1] at this; cases this)
    have Mi0 := Mi
    have Mq0 := Mq
    have hoffS : ∀ p ∈ (ln, listOf nvs.toArray en) :: (123, tabObj ps') :: rest, p.1 ≠ ls := fun p hp => by
      rcases List.mem_cons.mp hp with rfl | hp
      · exact fun e => d1.1 e.symm
      rcases List.mem_cons.mp hp with rfl | hp
      · exact fun e => d1.2.1 e.symm
      · exact (d1.2.2.2 p hp).1
    cases Mi
    cases Mq
    have hoffI : ls ≠ I := hoff _ (.head _)
    k_steps
    · refine unpark ?_
      (rename Fr gr _ _ _ => lF5)
      (rename News gr _ _ _ => lN5)
      refine append_end lF5 lN5 (.tail (fun e => hoffI e.symm) (.head hoffS)) (by simp only [List.length_append, List.length_cons, List.length_nil]; omega) ?_
      intro h6 F6 N6
      (try dsimp only)
      (try k_fold)
      k_steps
      refine unpark ?_
      refine wpAny_Try_except ?_
      k_steps
      refine unpark ?_
      (rename Fr gr _ _ _ => lF7)
      (rename News gr _ _ _ => lN7)
      have hb : lvM tab (cntq, bq, nq, ntq) < lvM tab (cnti, bi, ni, nti) := by assumption
      have hdd := decide_eq_true hb
      have e8 := List.getElem?_eq_some_iff.mp hitem
      obtain ⟨e8, e9⟩ := e8
      have dT := d12
      rw [List.drop_eq_getElem_cons e8, e9, nagsGo_in hb] at dT
      have hST := StackIn.push d5 Mi0
      have MqT := Mq0
      k_dflt (refine' ask_spec (ps := ps') d13 ?kF X5 ?kN T5 rfl ?kd ?ku (.tail _ (.tail _ (.tail _ (.head _)))) d8 C5 ?kg X (MqT.up ?u1) (Mi0.up ?u2) ?kret ?kraise; (case kF => exact lF7); (case kN => exact lN7); (case kd => ktr_room); (case ku => ktr_units); (case kg => exact d7); (case u1 => exact fun p hp => .tail _ (.tail _ (.tail _ (.tail _ hp)))); (case u2 => exact fun p hp => .tail _ (.tail _ (.tail _ (.tail _ hp)))))
      case kret =>
        intro hask h8 tk8 F8 N8
        (try dsimp only)
        (try k_fold)
        k_steps
        (rename Fr gr _ _ _ => lF8)
        (rename News gr _ _ _ => lN8)
        rw [hdd] at hask
        refine (show TurnG _ _ _ _ _ _ from ⟨gr, _, _, gs, h8, _, rfl, lF8, lN8, ?_, ls, _, _, ln, nvs, en, ps', _, out, rest, rfl, d1, d2, d3, d4, hST, d6, d7, d8, ?_, ?_, ?_, ?_, d13, d14⟩)
        · intro p hp
          rcases List.mem_cons.mp hp with rfl | hp
          · exact hoffI
          · exact hoff p (.tail _ hp)
        · unfold nagNames
          kst_all
        · first | assumption | exact Nat.le_succ_of_le hcl | (simp only [List.length_append, List.length_cons, List.length_nil] at d10 ⊢; omega)
        · omega
        · rw [show askM _ _ _ = none from hask] at dT
          simpa [nagD] using dT
      case kraise =>
        intro msg hask h2 h8 g8 tk8 ps8 e8 T8 tb8 ts8 t8 dx8 oD8 v1 v2 v3 t1 t2 t3 hps8 hG8 z1 z2 z3 B8 F8 N8 n1 n2 n3 n4 n5 n6 e1 e2 e3
        (try dsimp only)
        refine note_next B8 rfl rfl rfl F8 N8 n1 n3 rfl n4 n5 ?_
        intro g9 h9 T9 tb9 ts9 tb8' y1 y2 y3 B9 F9 N9 u1 u2 u3 u4
        refine flight_to F9 N9 u1 u2 rfl u3 u4 ?_
        intro h10 tb10 ts10 F10 N10 u5 u6
        have X10 := X.keeps B9.stays
        have T10 := T.keeps B9.stays
        obtain ⟨mN, NC, m1, m2, m3, m4, _, _, _⟩ := nag_is X10
        obtain ⟨⟨of1, hf1, hc1⟩, ⟨of2, hf2, hc2⟩, ⟨of3, hf3, hc3⟩⟩ := fn_get X10
        refine handle_nag F10 N10 u1 u2 rfl u5 u6 X10 (topRead_of T10) (by k_is) NC ?_ rfl rfl rfl (by decide)
        intro h11 tk11 tb11 F11 N11
        have hI126 : I ≠ 123 := fun e => hoff _ (.tail _ (.tail _ (.head _))) e.symm
        rw [off4 hI126 d1.2.1 d1.2.2.1 fun p hp => (d1.2.2.2 p hp).2.2] at N11 n3 u2
        rw [hdd] at hask
        subst e1 e2 e3
        have hln8 := n3 _ (.tail _ (.tail _ (.tail _ (.tail _ (.head _)))))
        have hln9 := u2 _ (.tail _ (.tail _ (.tail _ (.tail _ (.tail _ (.head _))))))
        have hlnd : dx8 ≠ ln := dx_ne_list N11 (.tail _ (.tail _ (.tail _ (.head _)))) (.tail _ (.tail _ (.tail _ (.tail _ (.tail _ (.tail _ (.tail _ (.head _)))))))) n6
        have hlnI : I ≠ ln := fun e => hoff _ (.tail _ (.head _)) e.symm
        k_steps
        refine unpark ?_
        (rename Fr g9 _ _ _ => lF11)
        (rename News g9 _ _ _ => lN11)
        refine' nag_method ?kF ?kN NC m2 hf1 hc1 lk_glineno (.head _) (.tail _ (.tail _ (.tail _ (.head _)))) n2 n6 nagA_none.1 ?_
        case kF => exact lF11
        case kN => exact lN11
        (try dsimp only)
        (try k_fold)
        k_steps
        refine unpark ?_
        k_dflt (refine' callWith_K0 ?kX kp_get.1 ?_)
        case kX => exact X10.keeps lF11.keep
        (try dsimp only)
        k_dflt (refine' getlineno_spec ?k1 ?k2 ?k3 ?k4 ?k5 ?k6 ?k7 ?k8 (.head _) (.tail _ (.tail _ (.tail _ (.head _)))) n2 n6 rfl ?_; (case k1 => k_asm); (case k2 => k_asm); (case k3 => k_asm); (case k4 => k_asm); (case k5 => k_asm); (case k6 => first | exact rfl | assumption); (case k7 => ktr_room); (case k8 => ktr_units))
        intro h12 tk12 F12 N12
        (try dsimp only)
        (try k_fold)
        k_steps
        refine unpark ?_
        refine' nag_method ?kF ?kN NC m3 hf2 hc2 lk_gmsg (.head _) (.tail _ (.tail _ (.tail _ (.head _)))) n2 n6 nagA_none.2.1 ?_
        case kF => exact F12
        case kN => exact N12
        (try dsimp only)
        (try k_fold)
        k_steps
        refine unpark ?_
        k_dflt (refine' callWith_K0 ?kX kp_get.2.1 ?_)
        case kX => exact X10.keeps F12.keep
        (try dsimp only)
        k_dflt (refine' getmsg_spec ?k1 ?k2 ?k3 ?k4 ?k5 ?k6 ?k7 ?k8 (.head _) (.tail _ (.tail _ (.tail _ (.head _)))) n2 n6 rfl ?_; (case k1 => k_asm); (case k2 => k_asm); (case k3 => k_asm); (case k4 => k_asm); (case k5 => k_asm); (case k6 => first | exact rfl | assumption); (case k7 => ktr_room); (case k8 => ktr_units))
        intro h13 tk13 F13 N13
        (try dsimp only)
        (try k_fold)
        k_steps
        refine unpark ?_
        refine' nag_method ?kF ?kN NC m4 hf3 hc3 lk_gline (.head _) (.tail _ (.tail _ (.tail _ (.head _)))) n2 n6 nagA_none.2.2 ?_
        case kF => exact F13
        case kN => exact N13
        (try dsimp only)
        (try k_fold)
        k_steps
        refine unpark ?_
        k_dflt (refine' callWith_K0 ?kX kp_get.2.2 ?_)
        case kX => exact X10.keeps F13.keep
        (try dsimp only)
        k_dflt (refine' getline_spec ?k1 ?k2 ?k3 ?k4 ?k5 ?k6 ?k7 ?k8 (.head _) (.tail _ (.tail _ (.tail _ (.head _)))) n2 n6 rfl ?_; (case k1 => k_asm); (case k2 => k_asm); (case k3 => k_asm); (case k4 => k_asm); (case k5 => k_asm); (case k6 => first | exact rfl | assumption); (case k7 => ktr_room); (case k8 => ktr_units))
        intro h14 tk14 F14 N14
        (try dsimp only)
        (try k_fold)
        k_steps
        refine unpark ?_
        (rename Fr g9 _ _ _ => lF15)
        (rename News g9 _ _ _ => lN15)
        have l1 := ‹e8 < _ ∧ T9 < _ ∧ T8 < _ ∧ dx8 < _ ∧ 123 < _ ∧ I < _ ∧ ls < _ ∧ ln < _ ∧ AllLt _ rest›
        refine append_end lF15 lN15 (.tail (Nat.ne_of_gt l1.2.2.2.2.2.2.2.1) (.tail (Ne.symm hln8.1) (.tail (Ne.symm hln9) (.tail (Ne.symm hln8.2) (.tail hlnd (.tail (Ne.symm d1.2.2.1) (.tail hlnI (.tail d1.1 (.head fun p hp => (d1.2.2.2 p hp).2.1))))))))) (by omega) ?_
        intro h16 F16 N16
        (try dsimp only)
        (try k_fold)
        k_steps
        (rename Fr g9 _ _ _ => lF17)
        (rename News g9 _ _ _ => lN17)
        have lN18 := nag_end lN17
        refine (show TurnG _ _ _ _ _ _ from ⟨g9, _, _, g8, _, _, rfl, lF17, lN18, ?_, ls, _, _, ln, _, _, ps8, _, _, _, rfl, ⟨d1.1, d1.2.1, d1.2.2.1, fun p hp => ?_⟩, .tail _ d2, fun p hp hne => .tail _ (d3 p hp hne), d4.up fun p hp => .tail _ hp, hST.up fun p hp => .tail _ hp, DatAll.append (d6.mono fun p hp => .tail _ hp) (.one (.tuple (.head _) (.cons (.int _ _) (.cons (.str _ _) (.cons (.str _ _) .nil))))), hG8, hps8, ?_, ?_, ?_, ?_, B9, fun b o e => ?_⟩)
        · intro p hp
          rcases List.mem_cons.mp hp with rfl | hp
          · exact hoffI
          rcases List.mem_cons.mp hp with rfl | hp
          · exact Ne.symm hlnI
          rcases List.mem_cons.mp hp with rfl | hp
          · exact Ne.symm hI126
          rcases List.mem_cons.mp hp with rfl | hp
          · exact Nat.ne_of_gt l1.2.2.2.2.2.1
          · exact hoff p (.tail _ (.tail _ (.tail _ hp)))
        · rcases List.mem_cons.mp hp with rfl | hp
          · exact ⟨Nat.ne_of_gt l1.2.2.2.2.2.2.1, Nat.ne_of_gt l1.2.2.2.2.2.2.2.1, Nat.ne_of_gt l1.2.2.2.2.1⟩
          · exact d1.2.2.2 p hp
        · unfold nagNames
          kst_all
        · first | assumption | exact Nat.le_succ_of_le hcl | (simp only [List.length_append, List.length_cons, List.length_nil] at d10 ⊢; omega)
        · simp only [List.length_append, List.length_cons, List.length_nil]; omega
        · rw [show askM _ _ _ = some msg from hask] at dT
          exact dT
        · obtain ⟨s1, q1⟩ := d14 b o e
          obtain ⟨s2, q2⟩ := z2 b _ q1
          obtain ⟨s3, q3⟩ := y2 b _ q2
          exact ⟨s3, q3⟩
    · refine unpark ?_
      (rename Fr gr _ _ _ => lF5)
      (rename News gr _ _ _ => lN5)
      have hq0 : ¬ lvM tab (cntq, bq, nq, ntq) < lvM tab (cnti, bi, ni, nti) := by assumption
      have hnn : 0 ≤ lvM tab (cnti, bi, ni, nti) := Mi0.lv0 htab.1
      refine ksw_while (fun c : List Value × List MK × Nat => (I, o) :: (ls, listOf c.1.toArray c.2.2) :: (ln, listOf nvs.toArray en) :: (123, tabObj ps') :: rest) (fun _ => []) (fun _ => True) []
        (fun c => StackIn rest c.1 c.2.1 ∧ popM tab (lvM tab (cnti, bi, ni, nti)) c.2.1 = popM tab (lvM tab (cnti, bi, ni, nti)) ((cntq, bq, nq, ntq) :: r) ∧ c.1.length ≤ i + 1) (fun c => c.1.length) (svs' ++ [_], (cntq, bq, nq, ntq) :: r, es) lF5 lN5 trivial (fun p hp => nomatch hp) ⟨d5, rfl, d10⟩ ?_
      rintro ⟨cv, cst, ce⟩ u h7 tk7 _ ⟨hS, hpop, hcl⟩ F7 N7
      dsimp only [List.contains, List.elem, kstB] at hS hpop hcl F7 N7
      simp only [Bool.false_eq_true, if_false] at F7
      obtain ⟨cv', v2, q2, r2, rfl, rfl, M2, hbot⟩ := hS.top
      obtain ⟨cnt2, b2, n2, nt2⟩ := q2
      dsimp only at M2
      have M20 := M2
      cases M2
      have hl3 : cv'.length ≤ 7 := by simp only [List.length_append, List.length_cons, List.length_nil] at hcl; simp only [List.length_cons] at hlen; omega
      k_steps
      · refine unpark ?_
        (rename Fr gr _ _ _ => lF8)
        (rename News gr _ _ _ => lN8)
        refine pop_end lF8 lN8 (.tail (fun e => hoffI e.symm) (.head hoffS)) (by omega) ?_
        intro h9 F9 N9
        (try dsimp only)
        (try k_fold)
        k_steps
        refine unpark ?_
        have hgt : lvM tab (cnt2, b2, n2, nt2) > lvM tab (cnti, bi, ni, nti) := by assumption
        (rename Fr gr _ _ _ => lF10)
        (rename News gr _ _ _ => lN10)
        refine ksw_end (cv', r2, ce + 1) lF10 lN10 (fun p hp => hp) trivial (fun p hp => nomatch hp) (fun z _ _ => rfl) ⟨hbot.resolve_left (fun e => ?_), (popM_pop hgt).symm.trans hpop, ?_⟩ ?_
        · have h0 : lvM tab (cnt2, b2, n2, nt2) = 0 := by rw [e]; exact lv_bot htab.1
          omega
        · simp only [List.length_append, List.length_cons, List.length_nil] at hcl; show cv'.length ≤ i + 1; omega
        · simp only [List.length_append, List.length_cons, List.length_nil]; omega
      · refine unpark ?_
        (rename Fr gr _ _ _ => lF8)
        (rename News gr _ _ _ => lN8)
        have l1 := ‹I < _ ∧ ls < _ ∧ ln < _ ∧ 123 < _ ∧ AllLt _ rest›
        have hlnI : I ≠ ln := fun e => hoff _ (.tail _ (.head _)) e.symm
        refine append_end lF8 lN8 (.tail (Nat.ne_of_gt l1.2.2.1) (.tail hlnI (.tail d1.1 (.head fun p hp => ?_)))) (by omega) ?_
        · rcases List.mem_cons.mp hp with rfl | hp
          · exact fun e => d1.2.2.1 e.symm
          · exact (d1.2.2.2 p hp).2.1
        intro h9 F9 N9
        (try dsimp only)
        (try k_fold)
        k_steps
        dsimp only
        (try dsimp only [PostG])
        (try k_steps)
        refine unpark ?_
        (rename Fr gr _ _ _ => lF9)
        (rename News gr _ _ _ => lN9)
        have hng : ¬ lvM tab (cnt2, b2, n2, nt2) > lvM tab (cnti, bi, ni, nti) := by assumption
        have hlt2 : lvM tab (cnt2, b2, n2, nt2) < lvM tab (cnti, bi, ni, nti) := by assumption
        have bb := back_base F FG d13 d14 lF9 lN9
        obtain ⟨e8, e9⟩ := List.getElem?_eq_some_iff.mp hitem
        have dT := d12
        rw [List.drop_eq_getElem_cons e8, e9, nagsGo_lost hq0 (hpop.symm.trans (popM_stay hng)) hlt2] at dT
        refine hret _ _ _ _ _ bb.1 bb.2 (fun p hp hne => .tail _ (.tail _ (.tail _ (.tail _ (.tail _ (d3 p hp hne)))))) ⟨_, .tail _ (.tail _ (.tail _ (.tail _ (.head _))))⟩ d7 (dT ▸ .list (.tail _ (.tail _ (.tail _ (.head _)))) (DatAll.append (DatAll.mono (fun p hp => .tail _ (.tail _ (.tail _ (.tail _ (.tail _ hp))))) d6) (.one (.tuple (.head _) (.cons (.int _ _) (.cons (.str _ _) (.cons (.str _ _) .nil)))))))
      · refine unpark ?_
        refine wpAny_Try_except ?_
        k_steps
        refine unpark ?_
        (rename Fr gr _ _ _ => lF7)
        (rename News gr _ _ _ => lN7)
        have hdd := decide_eq_false hq0
        have hng : ¬ lvM tab (cnt2, b2, n2, nt2) > lvM tab (cnti, bi, ni, nti) := by assumption
        have hnl : ¬ lvM tab (cnt2, b2, n2, nt2) < lvM tab (cnti, bi, ni, nti) := by assumption
        obtain ⟨e8, e9⟩ := List.getElem?_eq_some_iff.mp hitem
        have dT := d12
        rw [List.drop_eq_getElem_cons e8, e9, nagsGo_same hq0 (hpop.symm.trans (popM_stay hng)) hnl] at dT
        have hST := hS
        have MqT := M20
        k_dflt (refine' ask_spec (ps := ps') d13 ?kF X5 ?kN T5 rfl ?kd ?ku (.tail _ (.tail _ (.tail _ (.head _)))) d8 C5 ?kg X (MqT.up ?u1) (Mi0.up ?u2) ?kret ?kraise; (case kF => exact lF7); (case kN => exact lN7); (case kd => ktr_room); (case ku => ktr_units); (case kg => exact d7); (case u1 => exact fun p hp => .tail _ (.tail _ (.tail _ (.tail _ hp)))); (case u2 => exact fun p hp => .tail _ (.tail _ (.tail _ (.tail _ hp)))))
        case kret =>
          intro hask h8 tk8 F8 N8
          (try dsimp only)
          (try k_fold)
          k_steps
          (rename Fr gr _ _ _ => lF8)
          (rename News gr _ _ _ => lN8)
          rw [hdd] at hask
          refine (show TurnG _ _ _ _ _ _ from ⟨gr, _, _, gs, h8, _, rfl, lF8, lN8, ?_, ls, _, _, ln, nvs, en, ps', _, out, rest, rfl, d1, d2, d3, d4, hST, d6, d7, d8, ?_, ?_, ?_, ?_, d13, d14⟩)
          · intro p hp
            rcases List.mem_cons.mp hp with rfl | hp
            · exact hoffI
            · exact hoff p (.tail _ hp)
          · unfold nagNames
            kst_all
          · first | assumption | exact Nat.le_succ_of_le hcl | (simp only [List.length_append, List.length_cons, List.length_nil] at d10 ⊢; omega)
          · omega
          · rw [show askM _ _ _ = none from hask] at dT
            simpa [nagD] using dT
        case kraise =>
          intro msg hask h2 h8 g8 tk8 ps8 e8 T8 tb8 ts8 t8 dx8 oD8 v1 v2 v3 t1 t2 t3 hps8 hG8 z1 z2 z3 B8 F8 N8 n1 n2 n3 n4 n5 n6 e1 e2 e3
          (try dsimp only)
          refine note_next B8 rfl rfl rfl F8 N8 n1 n3 rfl n4 n5 ?_
          intro g9 h9 T9 tb9 ts9 tb8' y1 y2 y3 B9 F9 N9 u1 u2 u3 u4
          refine flight_to F9 N9 u1 u2 rfl u3 u4 ?_
          intro h10 tb10 ts10 F10 N10 u5 u6
          have X10 := X.keeps B9.stays
          have T10 := T.keeps B9.stays
          obtain ⟨mN, NC, m1, m2, m3, m4, _, _, _⟩ := nag_is X10
          obtain ⟨⟨of1, hf1, hc1⟩, ⟨of2, hf2, hc2⟩, ⟨of3, hf3, hc3⟩⟩ := fn_get X10
          refine handle_nag F10 N10 u1 u2 rfl u5 u6 X10 (topRead_of T10) (by k_is) NC ?_ rfl rfl rfl (by decide)
          intro h11 tk11 tb11 F11 N11
          have hI126 : I ≠ 123 := fun e => hoff _ (.tail _ (.tail _ (.head _))) e.symm
          rw [off4 hI126 d1.2.1 d1.2.2.1 fun p hp => (d1.2.2.2 p hp).2.2] at N11 n3 u2
          rw [hdd] at hask
          subst e1 e2 e3
          have hln8 := n3 _ (.tail _ (.tail _ (.tail _ (.tail _ (.head _)))))
          have hln9 := u2 _ (.tail _ (.tail _ (.tail _ (.tail _ (.tail _ (.head _))))))
          have hlnd : dx8 ≠ ln := dx_ne_list N11 (.tail _ (.tail _ (.tail _ (.head _)))) (.tail _ (.tail _ (.tail _ (.tail _ (.tail _ (.tail _ (.tail _ (.head _)))))))) n6
          have hlnI : I ≠ ln := fun e => hoff _ (.tail _ (.head _)) e.symm
          k_steps
          refine unpark ?_
          (rename Fr g9 _ _ _ => lF11)
          (rename News g9 _ _ _ => lN11)
          refine' nag_method ?kF ?kN NC m2 hf1 hc1 lk_glineno (.head _) (.tail _ (.tail _ (.tail _ (.head _)))) n2 n6 nagA_none.1 ?_
          case kF => exact lF11
          case kN => exact lN11
          (try dsimp only)
          (try k_fold)
          k_steps
          refine unpark ?_
          k_dflt (refine' callWith_K0 ?kX kp_get.1 ?_)
          case kX => exact X10.keeps lF11.keep
          (try dsimp only)
          k_dflt (refine' getlineno_spec ?k1 ?k2 ?k3 ?k4 ?k5 ?k6 ?k7 ?k8 (.head _) (.tail _ (.tail _ (.tail _ (.head _)))) n2 n6 rfl ?_; (case k1 => k_asm); (case k2 => k_asm); (case k3 => k_asm); (case k4 => k_asm); (case k5 => k_asm); (case k6 => first | exact rfl | assumption); (case k7 => ktr_room); (case k8 => ktr_units))
          intro h12 tk12 F12 N12
          (try dsimp only)
          (try k_fold)
          k_steps
          refine unpark ?_
          refine' nag_method ?kF ?kN NC m3 hf2 hc2 lk_gmsg (.head _) (.tail _ (.tail _ (.tail _ (.head _)))) n2 n6 nagA_none.2.1 ?_
          case kF => exact F12
          case kN => exact N12
          (try dsimp only)
          (try k_fold)
          k_steps
          refine unpark ?_
          k_dflt (refine' callWith_K0 ?kX kp_get.2.1 ?_)
          case kX => exact X10.keeps F12.keep
          (try dsimp only)
          k_dflt (refine' getmsg_spec ?k1 ?k2 ?k3 ?k4 ?k5 ?k6 ?k7 ?k8 (.head _) (.tail _ (.tail _ (.tail _ (.head _)))) n2 n6 rfl ?_; (case k1 => k_asm); (case k2 => k_asm); (case k3 => k_asm); (case k4 => k_asm); (case k5 => k_asm); (case k6 => first | exact rfl | assumption); (case k7 => ktr_room); (case k8 => ktr_units))
          intro h13 tk13 F13 N13
          (try dsimp only)
          (try k_fold)
          k_steps
          refine unpark ?_
          refine' nag_method ?kF ?kN NC m4 hf3 hc3 lk_gline (.head _) (.tail _ (.tail _ (.tail _ (.head _)))) n2 n6 nagA_none.2.2 ?_
          case kF => exact F13
          case kN => exact N13
          (try dsimp only)
          (try k_fold)
          k_steps
          refine unpark ?_
          k_dflt (refine' callWith_K0 ?kX kp_get.2.2 ?_)
          case kX => exact X10.keeps F13.keep
          (try dsimp only)
          k_dflt (refine' getline_spec ?k1 ?k2 ?k3 ?k4 ?k5 ?k6 ?k7 ?k8 (.head _) (.tail _ (.tail _ (.tail _ (.head _)))) n2 n6 rfl ?_; (case k1 => k_asm); (case k2 => k_asm); (case k3 => k_asm); (case k4 => k_asm); (case k5 => k_asm); (case k6 => first | exact rfl | assumption); (case k7 => ktr_room); (case k8 => ktr_units))
          intro h14 tk14 F14 N14
          (try dsimp only)
          (try k_fold)
          k_steps
          refine unpark ?_
          (rename Fr g9 _ _ _ => lF15)
          (rename News g9 _ _ _ => lN15)
          have l1 := ‹e8 < _ ∧ T9 < _ ∧ T8 < _ ∧ dx8 < _ ∧ 123 < _ ∧ I < _ ∧ ls < _ ∧ ln < _ ∧ AllLt _ rest›
          refine append_end lF15 lN15 (.tail (Nat.ne_of_gt l1.2.2.2.2.2.2.2.1) (.tail (Ne.symm hln8.1) (.tail (Ne.symm hln9) (.tail (Ne.symm hln8.2) (.tail hlnd (.tail (Ne.symm d1.2.2.1) (.tail hlnI (.tail d1.1 (.head fun p hp => (d1.2.2.2 p hp).2.1))))))))) (by omega) ?_
          intro h16 F16 N16
          (try dsimp only)
          (try k_fold)
          k_steps
          (rename Fr g9 _ _ _ => lF17)
          (rename News g9 _ _ _ => lN17)
          have lN18 := nag_end lN17
          refine (show TurnG _ _ _ _ _ _ from ⟨g9, _, _, g8, _, _, rfl, lF17, lN18, ?_, ls, _, _, ln, _, _, ps8, _, _, _, rfl, ⟨d1.1, d1.2.1, d1.2.2.1, fun p hp => ?_⟩, .tail _ d2, fun p hp hne => .tail _ (d3 p hp hne), d4.up fun p hp => .tail _ hp, hST.up fun p hp => .tail _ hp, DatAll.append (d6.mono fun p hp => .tail _ hp) (.one (.tuple (.head _) (.cons (.int _ _) (.cons (.str _ _) (.cons (.str _ _) .nil))))), hG8, hps8, ?_, ?_, ?_, ?_, B9, fun b o e => ?_⟩)
          · intro p hp
            rcases List.mem_cons.mp hp with rfl | hp
            · exact hoffI
            rcases List.mem_cons.mp hp with rfl | hp
            · exact Ne.symm hlnI
            rcases List.mem_cons.mp hp with rfl | hp
            · exact Ne.symm hI126
            rcases List.mem_cons.mp hp with rfl | hp
            · exact Nat.ne_of_gt l1.2.2.2.2.2.1
            · exact hoff p (.tail _ (.tail _ (.tail _ hp)))
          · rcases List.mem_cons.mp hp with rfl | hp
            · exact ⟨Nat.ne_of_gt l1.2.2.2.2.2.2.1, Nat.ne_of_gt l1.2.2.2.2.2.2.2.1, Nat.ne_of_gt l1.2.2.2.2.1⟩
            · exact d1.2.2.2 p hp
          · unfold nagNames
            kst_all
          · first | assumption | exact Nat.le_succ_of_le hcl | (simp only [List.length_append, List.length_cons, List.length_nil] at d10 ⊢; omega)
          · simp only [List.length_append, List.length_cons, List.length_nil]; omega
          · rw [show askM _ _ _ = some msg from hask] at dT
            exact dT
          · obtain ⟨s1, q1⟩ := d14 b o e
            obtain ⟨s2, q2⟩ := z2 b _ q1
            obtain ⟨s3, q3⟩ := y2 b _ q2
            exact ⟨s3, q3⟩
end Mine
namespace Mine
theorem fill11 : PySem.Challenge.rw_sn0118_02 = PySem.Challenge.rw_sn0118_02 ∧ A.hd.heap_39 = A.hd.heap_39 := by k_fill; exact ⟨rfl, rfl⟩
local macro_rules | `(tactic| walk_at "exec For Tuple Call") => `(tactic| refine park ?_)
local macro_rules | `(tactic| walk_at "exec For Name") => `(tactic| refine park ?_)
local macro_rules | `(tactic| walk_at "call builtin:list.append") => `(tactic| refine park ?_)
local macro_rules | `(tactic| walk_at "subscriptTail") => `(tactic| (k_here; (with_reducible show wpAny _ _ (subscriptTail _ _ (Value.ref _) (Value.int (-1) _)) _ _ _); k_dflt (refine' item_end ?k1 ?k2 ?k3 ?_; (case k1 => k_asm); (case k2 => first | with_reducible assumption | k_mem); (case k3 => omega); k_whole)))
local macro_rules | `(tactic| walk_at "subscriptTail") => `(tactic| (k_here; (with_reducible show wpAny _ _ (subscriptTail (Expr.Subscript _ _ _) _ (Value.ref _) (Value.int _ _)) _ _ _); k_dflt (refine' item_tup ?k1 ?k2 ?k3 ?k4 ?k5 ?_; (case k1 => k_asm); (case k2 => k_mem); (case k3 => decide); (case k4 => decide); (case k5 => exact rfl); k_whole)))
local macro_rules | `(tactic| walk_at "subscriptTail") => `(tactic| (with_reducible show wpAny _ _ (subscriptTail (Expr.Tuple _ _ _) _ (Value.ref _) (Value.int _ _)) _ _ _; refine park ?_))
local macro_rules | `(tactic| walk_at "exec If") => `(tactic| (with_reducible show wpAny _ _ (exec (Stmt.If (Expr.Compare (Expr.BinOp _ _ _ _) _ _ _) _ _ _) _) _ _ _; refine park ?_))
local macro_rules | `(tactic| walk_at "exec If") => `(tactic| (with_reducible show wpAny _ _ (exec (Stmt.If (Expr.Compare (Expr.Name (Str.ofString "column") _) _ _ _) _ _ _) _) _ _ _; refine park ?_))
local macro_rules | `(tactic| walk_at "jcol end") => `(tactic| ((try dsimp only); exact ⟨rfl, _, _, _, _, rfl, by assumption, by assumption, by omega, by omega⟩))
local macro_rules | `(tactic| walk_at "setItem ref int") => `(tactic| refine park ?_)
local macro_rules | `(tactic| walk_at "pyIter ref") => `(tactic| refine park ?_)
noncomputable def EnumJ (ld : Addr) (m0 : Str → Option Value) (news : List (Addr × Obj)) (i : Nat) (m' : Str → Option Value) (nx : List (Addr × Obj)) : Prop :=
  ∃ vs ns e, nx = (ld, listOf vs.toArray e) :: news ∧ IntsAre vs ns ∧ ns.length = min i 6 ∧ ∀ z, z ≠ Str.ofString "place" → z ≠ Str.ofString "x" → m' z = m0 z
theorem kst1 {f : Str → Option Value} {k : Str} {v : Value} (h : f k = some v) : kstB f [(k, v)] = f := kstB_self fun q hq => by rw [List.mem_singleton.mp hq]; exact h
theorem news_to {g h : Heap} {L : Addr} {p : Addr × Obj} {own news : List (Addr × Obj)} (N : News g L h (own ++ p :: news)) : News g L h (p :: (own ++ news)) := fun q hq => N q (by
  simp only [List.mem_cons, List.mem_append] at hq ⊢
  rcases hq with h | h | h <;> simp [h])
theorem news_fro {g h : Heap} {L : Addr} {p : Addr × Obj} {own news : List (Addr × Obj)} (N : News g L h (p :: (own ++ news))) : News g L h (own ++ p :: news) := fun q hq => N q (by
  simp only [List.mem_cons, List.mem_append] at hq ⊢
  rcases hq with h | h | h <;> simp [h])
theorem snoc_of {α : Type} : ∀ {l : List α}, l ≠ [] → ∃ l' x, l = l' ++ [x] := fun {l} h => ⟨l.dropLast, l.getLast h, (List.dropLast_concat_getLast h).symm⟩
theorem ints_snoc {x : Int} {vs : List Value} {ns : List Int} (h : IntsAre vs (ns ++ [x])) : ∃ vs' t, vs = vs' ++ [.int x t] ∧ IntsAre vs' ns := by
  induction ns generalizing vs with
  | nil => cases h with | cons _ t r => cases r; exact ⟨[], t, rfl, .nil⟩
  | cons a ns ih => cases h with | cons _ t r => obtain ⟨vs', t', e, h⟩ := ih r; exact ⟨.int a t :: vs', t', by rw [e]; rfl, .cons a t h⟩
noncomputable def JCol (g : Heap) (L : Addr) (m : Str → Option Value) (led : List (Addr × Obj)) (s : Shared) (hi : Int) (f : Flow) (s' : Shared) : Prop :=
  f = .next ∧ ∃ h tk col tc, s' = { s with heap := h, toks := tk } ∧ Fr g L h (fun y => if y = Str.ofString "column" then some (.int col tc) else m y) ∧ News g L h led ∧ 0 ≤ col ∧ col ≤ hi
theorem join_col {M : Model} {A : Around} {E : Value → Shared → Prop} {s : Shared} {stmt : Stmt} {env : Env} {Q : Flow → Shared → Prop} {g : Heap} {L : Addr} {m : Str → Option Value} {led : List (Addr × Obj)} {hi : Int} (_F : Fr g L s.heap m) (_N : News g L s.heap led)
    (h1 : wpAny M A (exec stmt env) (JCol g L m led s hi) E s) (h2 : ∀ h tk col tc, Fr g L h (fun y => if y = Str.ofString "column" then some (.int col tc) else m y) → News g L h led → 0 ≤ col → col ≤ hi → Q .next { s with heap := h, toks := tk }) :
    wpAny M A (exec stmt env) Q E s := wpAny_mono h1 (fun f s' zz => by obtain ⟨e, h, tk, col, tc, e', F, N, c0, c1⟩ := zz; subst e; subst e'; exact h2 h tk col tc F N c0 c1) fun _ _ x => x
theorem join_col2 {M : Model} {A : Around} {E : Value → Shared → Prop} {s : Shared} {stmt : Stmt} {env : Env} {Q : Flow → Shared → Prop} {g : Heap} {L : Addr} {m : Str → Option Value} {led : List (Addr × Obj)} {hi : Int} {v : Option Value} (_F : Fr g L s.heap (fun y => if y = Str.ofString "column" then v else m y)) (_N : News g L s.heap led)
    (h1 : wpAny M A (exec stmt env) (JCol g L m led s hi) E s) (h2 : ∀ h tk col tc, Fr g L h (fun y => if y = Str.ofString "column" then some (.int col tc) else m y) → News g L h led → 0 ≤ col → col ≤ hi → Q .next { s with heap := h, toks := tk }) :
    wpAny M A (exec stmt env) Q E s := wpAny_mono h1 (fun f s' zz => by obtain ⟨e, h, tk, col, tc, e', F, N, c0, c1⟩ := zz; subst e; subst e'; exact h2 h tk col tc F N c0 c1) fun _ _ x => x
noncomputable def JPair (g : Heap) (L : Addr) (m : Str → Option Value) (a : Addr × Obj) (lp : Addr) (pvs : List Value) (ep : Nat) (led : List (Addr × Obj)) (s : Shared) (col tab : Int) (f : Flow) (s' : Shared) : Prop :=
  f = .next ∧ ∃ h tk D p q tp tq, s' = { s with heap := h, toks := tk } ∧ Fr g L h m ∧ News g L h ((D, tupO [.int p tp, .int q tq] 0) :: a :: (lp, listOf (pvs ++ [Value.ref D]).toArray (ep + 1)) :: led) ∧ (∀ x ∈ a :: (lp, listOf pvs.toArray ep) :: led, x.1 < D) ∧ ((p, q) = (0, col) ∨ (p, q) = (col.fdiv tab, col.fmod tab))
theorem join_pair {M : Model} {A : Around} {E : Value → Shared → Prop} {s : Shared} {stmt : Stmt} {env : Env} {Q : Flow → Shared → Prop} {g : Heap} {L : Addr} {m : Str → Option Value} {a : Addr × Obj} {lp : Addr} {pvs : List Value} {ep : Nat} {led : List (Addr × Obj)} {col tab : Int}
    (_F : Fr g L s.heap m) (_N : News g L s.heap (a :: (lp, listOf pvs.toArray ep) :: led))
    (h1 : wpAny M A (exec stmt env) (JPair g L m a lp pvs ep led s col tab) E s)
    (h2 : ∀ h tk D p q tp tq, Fr g L h m → News g L h ((D, tupO [.int p tp, .int q tq] 0) :: a :: (lp, listOf (pvs ++ [Value.ref D]).toArray (ep + 1)) :: led) → (∀ x ∈ a :: (lp, listOf pvs.toArray ep) :: led, x.1 < D) → ((p, q) = (0, col) ∨ (p, q) = (col.fdiv tab, col.fmod tab)) → Q .next { s with heap := h, toks := tk }) :
    wpAny M A (exec stmt env) Q E s := wpAny_mono h1 (fun f s' zz => by obtain ⟨e, h, tk, D, p, q, tp, tq, e', F, N, l, c⟩ := zz; subst e; subst e'; exact h2 h tk D p q tp tq F N l c) fun _ _ x => x
theorem pair_bd {tab col p q : Int} (ht : 1 ≤ tab) (hc : 0 ≤ col ∧ col ≤ 24) (h : (p, q) = (0, col) ∨ (p, q) = (col.fdiv tab, col.fmod tab)) : 0 ≤ p ∧ p ≤ 24 ∧ 0 ≤ q ∧ q ≤ 24 ∧ p + q ≤ 24 := by
  rcases h with h | h
  · cases h; omega
  · cases h
    have h1 := Int.fdiv_nonneg hc.1 (by omega : 0 ≤ tab)
    have h2 := Int.fmod_nonneg_of_pos col (by omega : 0 < tab)
    have h4 := Int.fmod_add_mul_fdiv col tab
    have h5 : 1 * col.fdiv tab ≤ tab * col.fdiv tab := Int.mul_le_mul_of_nonneg_right ht h1
    omega
theorem tail_pick {k : Int} {t1 t2 t3 : Tok} (h : 0 ≤ k) (h' : k < 3) : ∃ x t, [Value.str (Str.ofString "") t1, .str (Str.ofString "x") t2, .str (Str.ofString "\x0c\t") t3][k.toNat]? = some (.str x t) ∧ x.cps.size ≤ 2 ∧ (∀ c, x.cps[0]? = some c → c ≠ 32 ∧ c ≠ 9) ∧ PyData.strOk x = true := by
  have e : k = 0 ∨ k = 1 ∨ k = 2 := by omega
  rcases e with rfl | rfl | rfl
  · exact ⟨_, _, rfl, by decide, (fun c q => by cases q), by decide +kernel⟩
  · exact ⟨_, _, rfl, by decide, (fun c q => by cases q; decide), by decide +kernel⟩
  · exact ⟨_, _, rfl, by decide, (fun c q => by cases q; decide), by decide +kernel⟩
theorem fr_dup {g h : Heap} {L : Addr} {k : Str} {a b : Option Value} {m : Str → Option Value} (F : Fr g L h (fun y => if y = k then a else if y = k then b else m y)) : Fr g L h (fun y => if y = k then a else m y) := by
  have e : (fun y => if y = k then a else if y = k then b else m y) = (fun y => if y = k then a else m y) := by
    funext y
    by_cases q : y = k <;> simp [q]
  rw [← e]; exact F
structure PS where
  pg : List PR
  lr : Addr
  lp : Addr
  lc : Addr
  cvs : List Value
  ec : Nat
  pvs : List Value
  ep : Nat
  rvs : List Value
  er : Nat
  tps : List (Addr × Obj)
noncomputable def prD (r : PR) : Dat := .tuple [.int r.2.1.1, .int r.2.1.2]
structure PPage (tab : Int) (base : List (Addr × Obj)) (i : Nat) (c : PS) : Prop where
  off : c.lr ≠ c.lp ∧ c.lr ≠ c.lc ∧ c.lp ≠ c.lc ∧ ∀ p ∈ c.tps ++ base, p.1 ≠ c.lr ∧ p.1 ≠ c.lp ∧ p.1 ≠ c.lc
  cols : IntsAre c.cvs (c.pg.map (·.1))
  prs : DatAll c.tps c.pvs (c.pg.map prD)
  rws : StrsAre c.rvs (c.pg.map (·.2.2))
  ok : ∀ r ∈ c.pg, RowOK tab r
  len : ∀ r ∈ c.pg, r.2.2.cps.size ≤ 64 ∧ PyData.strOk r.2.2 = true
  n : c.pg.length = i + 1
  hd : c.pg.head? = some pr0
set_option maxHeartbeats 1500000 in
theorem page_spec {w : World} {p : Program} {loose : List Str} {mean : ExcName → Option Value} {mg mb : Str → Option Value} {dp un : Nat} {gd : Option (List Code)} {cn : Str} {cs : Scope} {a : Addr} {ccd : Value} {cl : List (Str × Addr)} {outer : List Env} {A₀ : Around} {base h₀ : Heap} {L : Addr} {m : Str → Option Value} {news : List (Addr × Obj)} {s : Shared} {Q E : Value → Shared → Prop} (B : Below A₀ base outer h₀) (F : Fr h₀ L s.heap m) (X : (A.hd.heap_39 w.params).In h₀) (N : News h₀ L s.heap news) (T : Top p loose mean mg mb h₀) (hk : cs.kind = .function) (hdp : dp + 1 < recursionLimit) (hun : un + 200 < cLine) {ls : Addr} {svs : List Value} {script : List Int} (hl : h₀.IsList ls svs.toArray) (hi : IntsAre svs script) (hlen : script.length ≤ 63)
    (hret : ∀ r tab tt (pg : List PR) lc lp lr cvs ec pvs ep rvs er led' h' tk', (1 ≤ tab ∧ tab ≤ 8) → pg.head? = some pr0 → (∀ r ∈ pg, RowOK tab r) → (∀ r ∈ pg, r.2.2.cps.size ≤ 64 ∧ PyData.strOk r.2.2 = true) → pg.length ≤ 7 → Fr h₀ L h' m → News h₀ L h' led' → (∀ p ∈ news, p ∈ led') →
      (r, tupO [.int tab tt, .ref lc, .ref lp, .ref lr] 0) ∈ led' → (lc, listOf cvs.toArray ec) ∈ led' → IntsAre cvs (pg.map (·.1)) → (lp, listOf pvs.toArray ep) ∈ led' → DatAll led' pvs (pg.map prD) → (lr, listOf rvs.toArray er) ∈ led' → StrsAre rvs (pg.map (·.2.2)) → Q (.ref r) { s with heap := h', toks := tk' }) :
    wpAny (model PySem.Challenge.rw_sn0118_02.row.prog w) (ktrTop dp un gd cn cs L a ccd cl outer) (call (.ref 135) [.ref ls]) Q E s := by
  refine wpAny_call ?_
  k_dflt cell_enter
  k_steps
  refine unpark ?_
  rename_i ld _ lld _ _ _
  (rename Fr _ _ _ (fun y => _) => lF)
  (rename Fr h₀ _ _ _ => lG)
  (rename News _ _ _ _ => lN)
  have hlg := hl.at fun o e => lG.keep ls o e
  refine For_pair3F lF rfl rfl rfl rfl ?_ (fun _ => rfl)
  k_steps
  refine unpark ?_
  (rename PairSrcL _ _ _ _ _ _ _ _ _ _ _ _ => S)
  (rename News _ _ _ _ => lN2)
  refine S _ rfl _ _ _ _ (EnumJ _ _ news) ⟨[], [], 0, rfl, .nil, rfl, fun _ _ _ => rfl⟩ ?turn ?done
  case turn =>
    rintro i x t v m1 news1 s1 own ⟨h1, tk1, rfl⟩ hx hk ⟨vs, ns, e, rfl, hI, hns, hm1⟩ hmap hoff F1 N1
    obtain ⟨tv, rfl⟩ := ItemKind.int_is hk
    have hi1 := (List.getElem?_eq_some_iff.mp hx).1
    have hd := hm1 (Str.ofString "drawn") (by decide) (by decide)
    dsimp only at hd
    simp (config := { decide := true }) only [if_true, if_false] at hd
    rw [← kst1 hd] at F1
    dsimp only [kstB] at F1
    have hvl := hI.length
    have hlt := ‹∀ p ∈ news, p.1 < _›
    have hoffD : ∀ p ∈ own ++ news, p.1 ≠ _ := fun p hp => (List.mem_append.mp hp).elim (fun hq => hoff p hq _ (.head _)) (fun hq e => absurd e (Nat.ne_of_lt (hlt p hq)))
    have N1' := news_to N1
    clear N1
    k_steps
    · refine unpark ?_
      (rename Fr _ _ _ (fun y => _) => lF3)
      (rename News _ _ _ (_ :: (own ++ _)) => lN3)
      refine append_end lF3 lN3 (.head hoffD) (by omega) ?_
      intro h6 F6 N6
      (try dsimp only)
      (try k_fold)
      k_steps
      refine LoopStep2.intro F6 (news_fro N6) rfl ⟨_, ns ++ [x], _, rfl, IntsAre.append hI (.cons x tv .nil), ?_, fun z h1 h2 => ?_⟩
      · simp only [List.length_append, List.length_cons, List.length_nil]; omega
      · refine Eq.trans ?_ (hm1 z h1 h2)
        dsimp only
        rw [if_neg h2, if_neg h1]
        split
        · rename_i hz
          rw [hz]; exact hd.symm
        · rfl
    · refine unpark ?_
      (rename Fr _ _ _ (fun y => _) => lF3)
      (rename News _ _ _ (_ :: (own ++ _)) => lN3)
      have hb6 := Int.fmod_nonneg_of_pos (i : Int) (by omega : (0 : Int) < 6)
      have hc6 := Int.fmod_lt_of_pos (i : Int) (by omega : (0 : Int) < 6)
      refine set_at lF3 lN3 hb6 (by omega) (by omega) (.head hoffD) ?_
      intro h6 F6 N6
      (try dsimp only)
      (try k_fold)
      k_steps
      refine LoopStep2.intro F6 (news_fro N6) rfl ⟨_, _, _, rfl, ints_set hI _, ?_, fun z h1 h2 => ?_⟩
      · rw [List.length_set]; omega
      · refine Eq.trans ?_ (hm1 z h1 h2)
        dsimp only
        rw [if_neg h2, if_neg h1]
        split
        · rename_i hz
          rw [hz]; exact hd.symm
        · rfl
  case done =>
    rintro h2 tk2 m2 news2 F2 N2 - ⟨vs, ns, e, rfl, hI, hns, hm2⟩
    have hd := hm2 (Str.ofString "drawn") (by decide) (by decide)
    dsimp only at hd
    simp (config := { decide := true }) only [if_true, if_false] at hd
    rw [← kst1 hd] at F2
    dsimp only [kstB] at F2
    have hvl := hI.length
    have hI0 : IntsAre vs ns ∧ True := ⟨hI, trivial⟩
    k_steps
    refine unpark ?_
    (rename Fr _ _ _ (fun y => _) => lF5)
    (rename News _ _ _ _ => lN5)
    have hb8 := Int.fmod_nonneg_of_pos ns.sum (by omega : (0 : Int) < 8)
    have hc8 := Int.fmod_lt_of_pos ns.sum (by omega : (0 : Int) < 8)
    obtain ⟨lr, lp, lc, T, tkr, tkt, tkt2, tkc, m5, tt, F5, r1, r2, r3, r5, lN5', ll, l4, l3, l2⟩ := (⟨_, _, _, _, _, _, _, _, _, _, lF5, rfl, rfl, rfl, rfl, lN5, by assumption, by assumption, by assumption, by assumption⟩ : ∃ (lr lp lc T : Addr) (tkr tkt tkt2 tkc : Tok) (m5 : Str → Option Value) (tt : Tok), Fr _ _ _ m5 ∧ m5 (Str.ofString "rows") = some (.ref lr) ∧ m5 (Str.ofString "pairs") = some (.ref lp) ∧ m5 (Str.ofString "columns") = some (.ref lc) ∧ m5 (Str.ofString "tab") = some (.int (1 + ns.sum.fmod 8) tt) ∧
      News _ _ _ ((lr, listOf [Value.str (Str.ofString "") tkr].toArray 0) :: (lp, listOf [Value.ref T].toArray 0) :: (T, tupO [Value.int 0 tkt, Value.int 0 tkt2] 0) :: (lc, listOf [Value.int 0 tkc].toArray 0) :: (ld, listOf vs.toArray e) :: news) ∧
      (lp < lr ∧ T < lr ∧ lc < lr ∧ ld < lr ∧ AllLt lr news) ∧ (T < lp ∧ lc < lp ∧ ld < lp ∧ AllLt lp news) ∧ (lc < T ∧ ld < T ∧ AllLt T news) ∧ (ld < lc ∧ AllLt lc news))
    clear lF5 lN5
    have lN5 := lN5'
    clear lN5'
    have htab : 1 ≤ 1 + ns.sum.fmod 8 ∧ 1 + ns.sum.fmod 8 ≤ 8 := by omega
    generalize 1 + ns.sum.fmod 8 = tab at htab r5
    clear hb8 hc8
    refine kj_list (σ := PS) (vs := vs) (nn := e) (fun c => (c.lr, listOf c.rvs.toArray c.er) :: (c.lp, listOf c.pvs.toArray c.ep) :: (c.lc, listOf c.cvs.toArray c.ec) :: (c.tps ++ (ld, listOf vs.toArray e) :: news)) (fun c => [(Str.ofString "rows", .ref c.lr), (Str.ofString "pairs", .ref c.lp), (Str.ofString "columns", .ref c.lc), (Str.ofString "tab", .int tab tt)]) [Str.ofString "rest", Str.ofString "column"]
      (fun i c => PPage tab ((ld, listOf vs.toArray e) :: news) i c) ⟨[pr0], lr, lp, lc, [.int 0 tkc], 0, [.ref T], 0, [.str (Str.ofString "") tkr], 0, [(T, tupO [.int 0 tkt, .int 0 tkt2] 0)]⟩ rfl (fun c => ?hl) F5 lN5 ?hn ?hk ?hp ?turn2 ?done2
    case hl => exact .tail _ (.tail _ (.tail _ (List.mem_append.mpr (.inr (.head _)))))
    case hn =>
      intro p hp
      rcases List.mem_cons.mp hp with rfl | hp
      · exact .head _
      rcases List.mem_cons.mp hp with rfl | hp
      · exact .tail _ (.head _)
      rcases List.mem_cons.mp hp with rfl | hp
      · exact .tail _ (.tail _ (.tail _ (.head _)))
      rcases List.mem_cons.mp hp with rfl | hp
      · exact .tail _ (.tail _ (.head _))
      · exact .tail _ (.tail _ (.tail _ (.tail _ hp)))
    case hk => 
      intro q hq
      simp only [List.mem_cons, List.not_mem_nil, or_false] at hq
      rcases hq with rfl | rfl | rfl | rfl
      · exact r1
      · exact r2
      · exact r3
      · exact r5
    case hp =>
      refine ⟨⟨Nat.ne_of_gt ll.1, Nat.ne_of_gt ll.2.2.1, Nat.ne_of_gt l4.2.1, fun p hp => ?_⟩, .cons _ _ .nil, .cons (.tuple (.head _) (.cons (.int _ _) (.cons (.int _ _) .nil))) .nil, .cons _ _ .nil, fun r hr => ?_, fun r hr => ?_, rfl, rfl⟩
      · rcases List.mem_cons.mp hp with rfl | hp
        · exact ⟨Nat.ne_of_lt ll.2.1, Nat.ne_of_lt l4.1, Nat.ne_of_gt l3.1⟩
        rcases List.mem_cons.mp hp with rfl | hp
        · exact ⟨Nat.ne_of_lt ll.2.2.2.1, Nat.ne_of_lt l4.2.2.1, Nat.ne_of_lt l2.1⟩
        · exact ⟨Nat.ne_of_lt (kst_ltOf ll.2.2.2.2 p hp), Nat.ne_of_lt (kst_ltOf l4.2.2.2 p hp), Nat.ne_of_lt (kst_ltOf l2.2 p hp)⟩
      · rw [List.mem_singleton.mp hr]
        exact ⟨by decide, .inl rfl, rfl⟩
      · rw [List.mem_singleton.mp hr]
        decide +kernel
    case turn2 =>
      rintro ⟨pg, lr, lp, lc, cvs, ec, pvs, ep, rvs, er, tps⟩ i v mu h tk own hv hoff P2 F2 N2
      dsimp only [kstB, List.cons_append] at hoff F2 N2
      obtain ⟨x, tx, rfl, hx⟩ := IntsAre.at hI0.1 i v hv
      have hi2 := (List.getElem?_eq_some_iff.mp hv).1
      obtain ⟨pg', r0, rfl⟩ := snoc_of (l := pg) (fun q => by have := P2.n; rw [q] at this; cases this)
      have hcs := P2.cols
      have hn := P2.n
      have hok := P2.ok r0 (by simp)
      dsimp only at hcs hn
      rw [List.map_append, List.map_cons, List.map_nil] at hcs
      obtain ⟨cvs', tc, rfl, hcs'⟩ := ints_snoc hcs
      have hcl := hcs.length
      have hc0 := hok.hc
      rw [List.length_append, List.length_cons, List.length_nil] at hn
      simp only [List.length_append, List.length_cons, List.length_nil, List.length_map] at hcl
      have hpl := P2.prs.length
      have hrl := P2.rws.length
      simp only [List.length_append, List.length_cons, List.length_nil, List.length_map] at hpl hrl
      have h6 := Int.fmod_nonneg_of_pos ((x.fmod 10080).fdiv 8) (by omega : (0 : Int) < 6)
      have h6' := Int.fmod_lt_of_pos ((x.fmod 10080).fdiv 8) (by omega : (0 : Int) < 6)
      have h18 := Int.fmod_nonneg_of_pos ((x.fmod 10080).fdiv 8) (by omega : (0 : Int) < 18)
      have h18' := Int.fmod_lt_of_pos ((x.fmod 10080).fdiv 8) (by omega : (0 : Int) < 18)
      have hgd : ∀ k, 0 ≤ (List.map (fun x => x.1) pg' ++ [r0.1]).getD k 0 ∧ (List.map (fun x => x.1) pg' ++ [r0.1]).getD k 0 ≤ 24 := getD_bd (fun y hy => by
        rcases List.mem_append.mp hy with hy | hy
        · obtain ⟨r, hr, rfl⟩ := List.mem_map.mp hy
          exact (P2.ok r (List.mem_append.mpr (.inl hr))).hc
        · rw [List.mem_singleton.mp hy]; exact hc0) (by decide)
      have hoff2 := P2.off
      have hall : ∀ p ∈ tps ++ (ld, listOf vs.toArray e) :: news ++ own, p.1 ≠ lr ∧ p.1 ≠ lp ∧ p.1 ≠ lc := fun p hp => by
        rcases List.mem_append.mp hp with hp | hp
        · exact hoff2.2.2.2 p hp
        · exact ⟨hoff p hp _ (.head _), hoff p hp _ (.tail _ (.head _)), hoff p hp _ (.tail _ (.tail _ (.head _)))⟩
      dsimp only at hoff2 hpl hrl
      k_steps
      refine unpark ?_
      (rename Fr _ _ _ (fun y => _) => lF6)
      (rename News _ _ _ _ => lN6)
      refine' join_col (hi := 40) ?kF ?kN ?h1 ?h2
      case kF => exact lF6
      case kN => exact lN6
      case h1 =>
        refine wpAny_If ?_
        k_steps
        · walk_at "jcol end"
        refine unpark ?_
        refine wpAny_If ?_
        k_steps
        · (try dsimp only)
          exact ⟨rfl, _, _, _, _, rfl, by assumption, by assumption, (hgd _).1, Int.le_trans (hgd _).2 (by decide)⟩
        refine unpark ?_
        refine wpAny_If ?_
        k_steps
        · walk_at "jcol end"
        · walk_at "jcol end"
      intro h7 tk7 col tcol F7 N7 c0 c1
      (try dsimp only)
      (try k_fold)
      k_steps
      refine unpark ?_
      refine' join_col2 (hi := 24) ?kF2 ?kN2 ?j1 ?j2
      case kF2 => exact F7
      case kN2 => exact N7
      case j1 =>
        refine wpAny_If ?_
        k_steps
        · (try dsimp only)
          exact ⟨rfl, _, _, _, _, rfl, fr_dup (by assumption), by assumption, by omega, by omega⟩
        · walk_at "jcol end"
      clear F7 N7
      intro h8 tk8 col2 tcol2 F8 N8 c2 c3
      (try dsimp only)
      (try k_fold)
      k_steps
      refine unpark ?_
      (rename Fr _ _ _ (fun y => _) => lF9)
      (rename News _ _ _ _ => lN9)
      refine append_end lF9 lN9 (.tail hoff2.2.1 (.tail hoff2.2.2.1 (.head fun p hp => (hall p hp).2.2))) (by simp only [List.length_append, List.length_cons, List.length_nil]; omega) ?_
      intro h9 F9 N9
      (try dsimp only)
      (try k_fold)
      k_steps
      refine unpark ?_
      (rename Fr _ _ _ (fun y => _) => lF10)
      (rename News _ _ _ _ => lN10)
      refine' join_pair (col := col2) (tab := tab) (lp := lp) (pvs := pvs) (ep := ep) ?kF3 ?kN3 ?l1 ?l2
      case kF3 => exact lF10
      case kN3 => exact lN10
      case l1 =>
        refine wpAny_If ?_
        k_steps
        all_goals (
          refine unpark ?_
          (rename Fr _ _ _ (fun y => _) => lF11)
          (rename News _ _ _ _ => lN11)
          have lD := ‹lr < _ ∧ lp < _ ∧ lc < _ ∧ _›
          refine append_end lF11 lN11 (.tail (Nat.ne_of_gt lD.2.1) (.tail hoff2.1 (.head fun p hp => ?_))) (by omega) ?_
          · rcases List.mem_cons.mp hp with rfl | hp
            · exact Ne.symm hoff2.2.2.1
            · exact (hall p hp).2.1
          intro h11 F11 N11
          (try dsimp only)
          (try k_fold)
          k_steps
          (try dsimp only)
          refine ⟨rfl, _, _, _, _, _, _, _, rfl, by assumption, by assumption, fun y hy => ?_, by first | exact .inl rfl | exact .inr rfl⟩
          rcases List.mem_cons.mp hy with rfl | hy
          · exact lD.1
          rcases List.mem_cons.mp hy with rfl | hy
          · exact lD.2.1
          rcases List.mem_cons.mp hy with rfl | hy
          · exact lD.2.2.1
          · exact kst_ltOf lD.2.2.2 y hy)
      clear lF10 lN10
      intro h12 tk12 D pt pb tpt tpb F12 N12 lD hpq
      have hpb := pair_bd htab.1 ⟨c2, c3⟩ hpq
      (try dsimp only)
      (try k_fold)
      k_steps
      refine unpark ?_
      (rename Fr _ _ _ (fun y => _) => lF13)
      (rename News _ _ _ _ => lN13)
      have h3 := Int.fmod_nonneg_of_pos ((x.fmod 10080).fdiv 8) (by omega : (0 : Int) < 3)
      have h3' := Int.fmod_lt_of_pos ((x.fmod 10080).fdiv 8) (by omega : (0 : Int) < 3)
      have hpk := fun t1 t2 t3 => tail_pick (t1 := t1) (t2 := t2) (t3 := t3) h3 h3'
      obtain ⟨tl, ttl, htl, htl2⟩ := hpk _ _ _
      have lD3 := ‹D < _ ∧ lr < _ ∧ _›
      refine item_tup lN13 (.head _) h3 (by simp) htl ?_
      (try dsimp only)
      (try k_fold)
      k_steps
      (with_reducible refine PySem.SB.add ?_ (fits_lead hpb.2.1 hpb.2.2.2.1 htl2.1))
      intro t14 tk14
      (try dsimp only)
      (try k_fold)
      k_steps
      refine unpark ?_
      (rename Fr _ _ _ (fun y => _) => lF14)
      (rename News _ _ _ _ => lN14)
      refine append_end lF14 lN14 (.tail (Nat.ne_of_gt lD3.2.1) (.tail (Nat.ne_of_gt (lD _ (.head _))) (.head fun p hp => ?_))) (by omega) ?_
      · rcases List.mem_cons.mp hp with rfl | hp
        · exact Ne.symm hoff2.1
        rcases List.mem_cons.mp hp with rfl | hp
        · exact Ne.symm hoff2.2.1
        · exact (hall p hp).1
      intro h15 F15 N15
      (try dsimp only)
      (try k_fold)
      k_steps
      refine kj_end2 (PS.mk (pg' ++ [r0] ++ [(col2, (pt, pb), Txt.mul (Str.ofString "\t") pt ++ Txt.mul (Str.ofString " ") pb ++ tl)]) lr lp lc (cvs' ++ [.int r0.1 tc] ++ [.int col2 tcol2]) (ec + 1) (pvs ++ [.ref D]) (ep + 1) (rvs ++ [.str (Txt.mul (Str.ofString "\t") pt ++ Txt.mul (Str.ofString " ") pb ++ tl) t14]) (er + 1) ((D, tupO [.int pt tpt, .int pb tpb] 0) :: tps)) F15 N15 (by kst_all) ?pp ?hn2 ?ho2 ?hoff3 (by kst_same)
      case pp =>
        have hlD : ∀ p ∈ tps ++ (ld, listOf vs.toArray e) :: news ++ own, p.1 < D := fun p hp => lD p (.tail _ (.tail _ (.tail _ hp)))
        refine ⟨⟨hoff2.1, hoff2.2.1, hoff2.2.2.1, fun p hp => ?_⟩, ?_, ?_, ?_, fun r hr => ?_, fun r hr => ?_, ?_, ?_⟩
        · rcases List.mem_cons.mp hp with rfl | hp
          · exact ⟨Nat.ne_of_gt (lD _ (.head _)), Nat.ne_of_gt (lD _ (.tail _ (.head _))), Nat.ne_of_gt (lD _ (.tail _ (.tail _ (.head _))))⟩
          · exact hall p (List.mem_append.mpr (.inl hp))
        · dsimp only
          rw [List.map_append, List.map_append]
          exact IntsAre.append hcs (.cons col2 tcol2 .nil)
        · dsimp only
          rw [List.map_append]
          exact DatAll.append (DatAll.mono (fun p hp => .tail _ hp) P2.prs) (.one (.tuple (.head _) (.cons (.int _ _) (.cons (.int _ _) .nil))))
        · dsimp only
          rw [List.map_append]
          exact StrsAre.append' P2.rws (.cons _ _ .nil)
        · rcases List.mem_append.mp hr with hr | hr
          · exact P2.ok r hr
          · rw [List.mem_singleton.mp hr]
            exact ⟨⟨c2, c3⟩, hpq, ws_lead hpb.1 hpb.2.2.1 htl2.2.1⟩
        · rcases List.mem_append.mp hr with hr | hr
          · exact P2.len r hr
          · rw [List.mem_singleton.mp hr]
            exact ⟨len_lead hpb.2.1 hpb.2.2.2.1 htl2.1, ok_lead htl2.2.2⟩
        · simp only [List.length_append, List.length_cons, List.length_nil]; omega
        · have := P2.hd
          dsimp only at this ⊢
          rw [List.head?_append, this]; rfl
      case hn2 =>
        intro p hp
        rcases List.mem_cons.mp hp with rfl | hp
        · exact .tail _ (.tail _ (.head _))
        rcases List.mem_cons.mp hp with rfl | hp
        · exact .tail _ (.tail _ (.tail _ (.head _)))
        rcases List.mem_cons.mp hp with rfl | hp
        · exact .tail _ (.tail _ (.tail _ (.tail _ (.head _))))
        rcases List.mem_cons.mp hp with rfl | hp
        · exact .tail _ (.head _)
        · exact .tail _ (.tail _ (.tail _ (.tail _ (.tail _ (List.mem_append.mpr (.inl hp))))))
      case ho2 => exact fun p hp => .tail _ (.tail _ (.tail _ (.tail _ (.tail _ (List.mem_append.mpr (.inr hp))))))
      case hoff3 =>
        intro p hp b hb
        have hlD : p.1 < D := lD p (.tail _ (.tail _ (.tail _ (List.mem_append.mpr (.inr hp)))))
        rcases List.mem_cons.mp hb with rfl | hb
        · exact hoff p hp _ (.head _)
        rcases List.mem_cons.mp hb with rfl | hb
        · exact hoff p hp _ (.tail _ (.head _))
        rcases List.mem_cons.mp hb with rfl | hb
        · exact hoff p hp _ (.tail _ (.tail _ (.head _)))
        rcases List.mem_cons.mp hb with rfl | hb
        · exact Nat.ne_of_lt hlD
        · exact hoff p hp _ (.tail _ (.tail _ (.tail _ hb)))
    case done2 =>
      rintro ⟨pg, lr, lp, lc, cvs, ec, pvs, ep, rvs, er, tps⟩ mu h tk P2 F2 N2
      dsimp only [kstB, List.cons_append] at F2 N2
      (try dsimp only)
      k_steps
      have hn := P2.n
      dsimp only at hn
      exact hret _ _ _ _ _ _ _ _ _ _ _ _ _ _ _ _ htab P2.hd P2.ok P2.len (by rw [hn]; omega) (by assumption) (by assumption)
        (fun p hp => .tail _ (.tail _ (.tail _ (.tail _ (List.mem_append.mpr (.inr (.tail _ hp))))))) (.head _) (.tail _ (.tail _ (.tail _ (.head _)))) P2.cols (.tail _ (.tail _ (.head _))) (DatAll.mono (fun p hp => .tail _ (.tail _ (.tail _ (.tail _ (List.mem_append.mpr (.inl hp)))))) P2.prs) (.tail _ (.head _)) P2.rws
end Mine
namespace Mine
theorem fill12 : PySem.Challenge.rw_sn0118_02 = PySem.Challenge.rw_sn0118_02 ∧ A.hd.heap_39 = A.hd.heap_39 := by k_fill; exact ⟨rfl, rfl⟩
local macro_rules | `(tactic| walk_at "CompSrcT") => `(tactic| refine park ?_)
local macro_rules | `(tactic| walk_at "call type:list") => `(tactic| refine park ?_)
local macro_rules | `(tactic| walk_at "eval ListComp") => `(tactic| refine park ?_)
local macro_rules | `(tactic| walk_at "assign Tuple") => `(tactic| refine park ?_)
local macro_rules | `(tactic| walk_at "enter cells") => `(tactic| (refine' code_defC ?k1 ?k2 ?k3 ?k4 ?k5 ?kA ?kF ?kK ?k6 ?k7 ?k8 ?k9 ?kB ?kD ?_ ?c2 ?c3 ?c4; (case kA => exact rfl); (case kF => exact rfl); (case kK => assumption); (case k1 => k_asm); (case k2 => k_asm); (case k3 => k_asm); (case k4 => k_asm); (case k5 => k_asm); (case k6 => k_is); (case k7 => k_is); (case k8 => ktr_room); (case k9 => exact BindsTo.of_eq rfl); (case kB => exact rfl); (case kD => decide +kernel); (case c2 => exact rfl); (case c3 => exact rfl); (case c4 => exact rfl); k_whole; intro g' L' h' tk' cells' FG' F' N' Y' B' X' T' l1; (try k_lt l1); k_cells Y'; (try simp only [List.cons_append, List.nil_append] at N'); (try dsimp only); (try k_lift B'); (try k_fold)))
theorem fdiv_bd {a b : Int} (h1 : -24 ≤ a) (h2 : a ≤ 24) (hb : 1 ≤ b) : -24 ≤ a.fdiv b ∧ a.fdiv b ≤ 24 := by
  have q1 := le_fdiv (a := a) (b := b) (k := -24) (by omega)
  have q2 := le_fdiv (a := a) (b := b) (k := 25) (by omega)
  constructor
  · exact q1.mpr (by omega)
  · false_or_by_contra
    have := q2.mp (by omega)
    omega
theorem filt_snoc (tab : Int) (i : Nat) : (rangeKs 1 (i + 1)).filter (fun k => decide (k ≠ tab)) = (rangeKs 1 i).filter (fun k => decide (k ≠ tab)) ++ (if (1 : Int) + i ≠ tab then [1 + (i : Int)] else []) := by
  have e : rangeKs 1 (i + 1) = rangeKs 1 i ++ [1 + (i : Int)] := by simp [rangeKs, List.range_succ]
  rw [e, List.filter_append]
  congr 1
  by_cases h : (1 : Int) + i = tab <;> simp [h]
theorem off1_mem {D : Addr} : ∀ {l : List (Addr × Obj)}, LCg.Off1 D l → ∀ p ∈ l, p.1 ≠ D
  | [], _, _, h => nomatch h
  | _ :: _, x, p, h => by
    rcases List.mem_cons.mp h with rfl | h
    · exact x.1
    · exact off1_mem x.2 p h
set_option maxHeartbeats 1500000 in
theorem sizes_spec {w : World} {p : Program} {loose : List Str} {mean : ExcName → Option Value} {mg mb : Str → Option Value} {dp un : Nat} {gd : Option (List Code)} {cn : Str} {cs : Scope} {a : Addr} {ccd : Value} {cl : List (Str × Addr)} {outer : List Env} {A₀ : Around} {base h₀ : Heap} {L : Addr} {m : Str → Option Value} {news : List (Addr × Obj)} {s : Shared} {Q E : Value → Shared → Prop} (B : Below A₀ base outer h₀) (F : Fr h₀ L s.heap m) (X : (A.hd.heap_39 w.params).In h₀) (N : News h₀ L s.heap news) (T : Top p loose mean mg mb h₀) (hk : cs.kind = .function) (hdp : dp + 1 < recursionLimit) (hun : un + 200 < cLine) {ta th : Addr} {a1 a2 b1 b2 tab col : Int} {t1 t2 t3 t4 t5 t6 : Tok} {d : Bool} {e1 e2 : Nat} (ha : (ta, tupO [.int a1 t1, .int a2 t2] e1) ∈ news) (hh : (th, tupO [.int b1 t3, .int b2 t4] e2) ∈ news)
    (hb : 0 ≤ a1 ∧ a1 ≤ 24 ∧ 0 ≤ a2 ∧ a2 ≤ 24 ∧ 0 ≤ b1 ∧ b1 ≤ 24 ∧ 0 ≤ b2 ∧ b2 ≤ 24) (hc : 0 ≤ col ∧ col ≤ 24) (htab : 1 ≤ tab ∧ tab ≤ 8)
    (hret : ∀ r vs e h' tk', Fr h₀ L h' m → News h₀ L h' ((r, listOf vs.toArray e) :: news) → (∀ p ∈ news, p.1 ≠ r) → IntsAre vs (sizesV (a1, a2) (b1, b2) tab col d) → Q (.ref r) { s with heap := h', toks := tk' }) :
    wpAny (model PySem.Challenge.rw_sn0118_02.row.prog w) (ktrTop dp un gd cn cs L a ccd cl outer) (call (.ref 140) [.ref ta, .ref th, .int tab t5, .int col t6, .bool d]) Q E s := by
  cases d
  all_goals (
    refine wpAny_call ?_
    k_dflt (walk_at "enter cells")
    k_steps
    refine unpark ?_
    (rename Fr _ _ _ (bindL _ _ _) => lF)
    (rename News _ _ _ (_ :: news) => lN)
    refine unpackN_ lF lN (tup_of lN (.tail _ ha)) rfl rfl rfl ?_
    clear lF lN
    intro h1 F1 N1
    (try dsimp only)
    (try k_fold)
    k_steps
    refine unpark ?_
    (rename Fr _ _ _ (fun y => _) => lF)
    (rename News _ _ _ (_ :: news) => lN)
    refine unpackN_ lF lN (tup_of lN (.tail _ hh)) rfl rfl rfl ?_
    clear lF lN
    intro h2 F2 N2
    (try dsimp only)
    (try k_fold)
    k_steps)
  · rename_i heq
    exact hret _ _ 0 _ _ (by assumption) (fun p hp => ‹News h₀ L _ _› p (by
      rcases List.mem_cons.mp hp with rfl | hp
      · exact .head _
      · exact .tail _ (.tail _ hp))) (fun p hp => Nat.ne_of_lt (kst_ltOf (‹_ + 1 < _ ∧ AllLt _ news›).2 p hp)) (by unfold sizesV; rw [if_pos (by first | assumption | omega)]; exact .nil)
  · refine unpark ?_
    (rename Fr _ _ _ (fun y => _) => lF)
    refine' LCt.ListComp_T ?kF rfl (by decide) rfl (by decide) rfl ?_
    case kF => exact lF
    k_steps
    refine unpark ?_
    (rename News _ _ _ (_ :: news) => lN)
    (rename IsRange _ _ _ _ _ _ _ _ => rgX)
    (rename Fr _ _ _ (fun y => _) => lF2)
    refine' LCt.CompSrcT.range (n := (col + 1).toNat) rfl ?kF2 ?kN2 rgX (small_one (by omega) (by omega) (by omega) (by omega)) ((rangeSize_nat _ _).trans (by omega)) (by rw [sizeLine_eq]; omega) ?_
    case kF2 => exact lF2
    case kN2 => exact lN
    clear lF2 lN
    intro gh
    refine (show ∀ (k i : Nat) (ys : List Value), i + k = (col + 1).toNat → IntsAre ys ((rangeKs 1 i).filter fun z => decide (z ≠ tab)) → LCt.CompRestT _ _ _ _ _ _ _ _ _ _ _ _ _ _ _ _ k i ys _ from ?key) _ 0 [] (by omega) .nil
    intro k
    induction k with
    | zero =>
      intro i ys hi hI
      refine LCt.CompRestT.zero ?_
      intro D h3 tk3 F3 N3 o3
      (try dsimp only)
      k_steps
      have hii : i = (col + 1).toNat := by omega
      subst hii
      exact hret _ _ _ _ _ (by assumption) (fun p hp => ‹News h₀ L _ _› p (by
        rcases List.mem_cons.mp hp with rfl | hp
        · exact .head _
        · exact .tail _ (.tail _ hp))) (fun p hp => off1_mem o3 p (.tail _ hp)) (by unfold sizesV; rw [if_neg (by assumption), if_pos rfl]; exact hI)
    | succ k ih =>
      intro i ys hi hI
      refine LCt.CompRestT.succ ?_
      rintro v I oI C oC D m2 h3 tk3 E' ⟨t, rfl⟩ hoC hx F3 N3 off ne
      k_steps
      · refine LCg.CompEnd.intro (by assumption) (by assumption) (_ :: news) (fun p hp => hp) off trivial (ih (i + 1) _ (by omega) ?_)
        rw [filt_snoc, if_pos (by assumption)]
        exact IntsAre.append hI (.cons _ _ .nil)
      · refine LCg.CompEnd.intro (by assumption) (by assumption) (_ :: news) (fun p hp => hp) off trivial (ih (i + 1) _ (by omega) ?_)
        rw [filt_snoc, if_neg (fun q => q (by assumption)), List.append_nil]
        exact hI
  · exact hret _ _ 0 _ _ (by assumption) (fun p hp => ‹News h₀ L _ _› p (by
      rcases List.mem_cons.mp hp with rfl | hp
      · exact .head _
      · exact .tail _ (.tail _ hp))) (fun p hp => Nat.ne_of_lt (kst_ltOf (‹_ + 1 < _ ∧ AllLt _ news›).2 p hp)) (by unfold sizesV; rw [if_pos (by first | assumption | omega)]; exact .nil)
  · refine unpark ?_
    (rename Fr _ _ _ (fun y => _) => lF)
    (rename News _ _ _ (_ :: news) => lN)
    (rename IsRange _ _ _ _ _ _ _ _ => rgX)
    have hfb := fdiv_bd (a := a2 - b2) (b := b1 - a1) (by omega) (by omega) (by omega)
    refine' list_of_range (n := ((a2 - b2).fdiv (b1 - a1)).toNat) rfl ?kF ?kN rgX (small_one (by omega) (by omega) (by omega) (by omega)) ((rangeSize_nat _ _).trans (by omega)) (by omega) ?_
    case kF => exact lF
    case kN => exact lN
    clear lF lN
    intro l3 h3 tk3 ys3 e3 F3 N3 l3lt hI3
    (try dsimp only)
    (try k_fold)
    k_steps
    exact hret _ _ e3 _ _ (by assumption) (fun p hp => ‹News h₀ L _ _› p (by
      rcases List.mem_cons.mp hp with rfl | hp
      · exact .head _
      · exact .tail _ (.tail _ hp))) (fun p hp => Nat.ne_of_lt (l3lt p (.tail _ hp))) (by unfold sizesV; rw [if_neg (by omega), if_neg (by decide), if_pos (by omega)]; exact hI3)
  · refine unpark ?_
    (rename Fr _ _ _ (fun y => _) => lF)
    (rename News _ _ _ (_ :: news) => lN)
    (rename IsRange _ _ _ _ _ _ _ _ => rgX)
    have hfb := fdiv_bd (a := a2 - b2) (b := a1 - b1) (by omega) (by omega) (by omega)
    refine' list_of_range (n := (b2 + 2 - -((a2 - b2).fdiv (a1 - b1))).toNat) rfl ?kF ?kN rgX (small_one (by omega) (by omega) (by omega) (by omega)) ((rangeSize_nat _ _).trans (by omega)) (by omega) ?_
    case kF => exact lF
    case kN => exact lN
    clear lF lN
    intro l3 h3 tk3 ys3 e3 F3 N3 l3lt hI3
    (try dsimp only)
    (try k_fold)
    k_steps
    exact hret _ _ e3 _ _ (by assumption) (fun p hp => ‹News h₀ L _ _› p (by
      rcases List.mem_cons.mp hp with rfl | hp
      · exact .head _
      · exact .tail _ (.tail _ hp))) (fun p hp => Nat.ne_of_lt (l3lt p (.tail _ hp))) (by unfold sizesV; rw [if_neg (by omega), if_neg (by decide), if_neg (by omega)]; exact hI3)
end Mine
namespace Mine
theorem fill13 : PySem.Challenge.rw_sn0118_02 = PySem.Challenge.rw_sn0118_02 ∧ A.hd.heap_39 = A.hd.heap_39 := by k_fill; exact ⟨rfl, rfl⟩
local macro_rules | `(tactic| walk_at "exec For Name Call cons nil") => `(tactic| refine park ?_)
local macro_rules | `(tactic| walk_at "exec If") => `(tactic| refine park ?_)
local macro_rules | `(tactic| walk_at "truthy ref") => `(tactic| refine park ?_)
local macro_rules | `(tactic| walk_at "eval ListComp") => `(tactic| refine park ?_)
local macro_rules | `(tactic| walk_at "call builtin:str.join") => `(tactic| refine park ?_)
local macro_rules | `(tactic| walk_at "call type:str") => `(tactic| refine park ?_)
local macro_rules | `(tactic| walk_at "CompSrc") => `(tactic| refine park ?_)
local macro_rules | `(tactic| walk_at "exec While") => `(tactic| refine park ?_)
local macro_rules | `(tactic| walk_at "call builtin:list.append") => `(tactic| refine park ?_)
local macro_rules | `(tactic| walk_at "pyIter ref") => `(tactic| refine park ?_)
local macro_rules | `(tactic| walk_at "KswEnd") => `(tactic| refine park ?_)
local macro_rules | `(tactic| walk_at "subscriptTail") => `(tactic| (k_here; (with_reducible show wpAny _ _ (subscriptTail _ _ (Value.ref _) (Value.int _ _)) _ _ _); k_dflt (refine' item_at ?k1 ?k2 ?k3 ?k4 ?k5 ?_; (case k1 => k_asm); (case k2 => first | with_reducible assumption | k_mem); (case k5 => first | with_reducible assumption | assumption); (case k3 => omega); (case k4 => omega); k_whole)))
local macro_rules | `(tactic| walk_at "call builtin:len") => `(tactic| (k_here; (with_reducible show wpAny _ _ (call (Value.builtin "len") [Value.ref _]) _ _ _); k_dflt (refine' len_led ?k1 ?k2 ?k3 ?k4 ?_; (case k1 => k_asm); (case k2 => first | with_reducible assumption | k_mem); (case k3 => assumption); (case k4 => omega); k_whole)))
local macro_rules | `(tactic| walk_at "call ref") => `(tactic| (k_dflt (show wpAny _ _ (call (Value.ref 140) _) _ _ _); refine park ?_))
noncomputable def JSame (g : Heap) (L : Addr) (m : Str → Option Value) (led : List (Addr × Obj)) (s : Shared) (P : Prop) (Q : Flow → Shared → Prop) (f : Flow) (s' : Shared) : Prop :=
  (f = .next ∧ P ∧ ∃ h tk, s' = { s with heap := h, toks := tk } ∧ Fr g L h m ∧ News g L h led) ∨ (f ≠ .next ∧ Q f s')
theorem join_same {M : Model} {A : Around} {E : Value → Shared → Prop} {s : Shared} {stmt : Stmt} {env : Env} {Q : Flow → Shared → Prop} {g : Heap} {L : Addr} {m : Str → Option Value} {led : List (Addr × Obj)} (P : Prop) (_F : Fr g L s.heap m) (_N : News g L s.heap led)
    (h1 : wpAny M A (exec stmt env) (JSame g L m led s P Q) E s) (h2 : P → ∀ h tk, Fr g L h m → News g L h led → Q .next { s with heap := h, toks := tk }) :
    wpAny M A (exec stmt env) Q E s := wpAny_mono h1 (fun f s' hj => by
      rcases hj with ⟨e, hp, h, tk, e', F, N⟩ | ⟨_, hq⟩
      · subst e; subst e'; exact h2 hp h tk F N
      · exact hq) fun _ _ x => x
noncomputable def JWord (g : Heap) (L : Addr) (m : Str → Option Value) (led : List (Addr × Obj)) (s : Shared) (W : Str) (f : Flow) (s' : Shared) : Prop :=
  f = .next ∧ ∃ h tk t, s' = { s with heap := h, toks := tk } ∧ Fr g L h (fun y => if y = Str.ofString "words" then some (.str W t) else m y) ∧ News g L h led
theorem join_word {M : Model} {A : Around} {E : Value → Shared → Prop} {s : Shared} {stmt : Stmt} {env : Env} {Q : Flow → Shared → Prop} {g : Heap} {L : Addr} {m : Str → Option Value} {led : List (Addr × Obj)} {v : Option Value} (W : Str) (_F : Fr g L s.heap (fun y => if y = Str.ofString "words" then v else m y)) (_N : News g L s.heap led)
    (h1 : wpAny M A (exec stmt env) (JWord g L m led s W) E s) (h2 : ∀ h tk t, Fr g L h (fun y => if y = Str.ofString "words" then some (.str W t) else m y) → News g L h led → Q .next { s with heap := h, toks := tk }) :
    wpAny M A (exec stmt env) Q E s := wpAny_mono h1 (fun f s' zz => by obtain ⟨e, h, tk, t, e', F, N⟩ := zz; subst e; subst e'; exact h2 h tk t F N) fun _ _ x => x
/-- the told list behind the if of the sizes -/
noncomputable def JTold (g : Heap) (L : Addr) (m : Str → Option Value) (pre : List (Addr × Obj)) (lt : Addr) (tps rest : List (Addr × Obj)) (out : List Dat) (tl : Nat) (s : Shared) (f : Flow) (s' : Shared) : Prop :=
  f = .next ∧ ∃ h tk w tvs et nw, s' = { s with heap := h, toks := tk } ∧ Fr g L h (fun y => if y = Str.ofString "words" then w else m y) ∧ News g L h (pre ++ (lt, listOf tvs.toArray et) :: (nw ++ tps ++ rest)) ∧ DatAll (nw ++ tps) tvs out ∧ tvs.length ≤ tl + 1 ∧ (∀ p ∈ nw, (∀ q ∈ pre ++ tps ++ rest, q.1 < p.1) ∧ lt < p.1)
theorem join_told {M : Model} {A : Around} {E : Value → Shared → Prop} {s : Shared} {stmt : Stmt} {env : Env} {Q : Flow → Shared → Prop} {g : Heap} {L lt : Addr} {m : Str → Option Value} {pre tps rest : List (Addr × Obj)} {tvs : List Value} {et : Nat} (out : List Dat) (tl : Nat) (_F : Fr g L s.heap m) (_N : News g L s.heap (pre ++ (lt, listOf tvs.toArray et) :: (tps ++ rest)))
    (h1 : wpAny M A (exec stmt env) (JTold g L m pre lt tps rest out tl s) E s) (h2 : ∀ h tk w tvs et nw, Fr g L h (fun y => if y = Str.ofString "words" then w else m y) → News g L h (pre ++ (lt, listOf tvs.toArray et) :: (nw ++ tps ++ rest)) → DatAll (nw ++ tps) tvs out → tvs.length ≤ tl + 1 → (∀ p ∈ nw, (∀ q ∈ pre ++ tps ++ rest, q.1 < p.1) ∧ lt < p.1) → Q .next { s with heap := h, toks := tk }) :
    wpAny M A (exec stmt env) Q E s := wpAny_mono h1 (fun f s' zz => by obtain ⟨e, h, tk, w, tvs, et, nw, e', F, N, D, l, o⟩ := zz; subst e; subst e'; exact h2 h tk w tvs et nw F N D l o) fun _ _ x => x
theorem fr_here {g h : Heap} {L : Addr} {k : Str} {m : Str → Option Value} (F : Fr g L h m) : Fr g L h (fun y => if y = k then m k else m y) := by
  have e : (fun y => if y = k then m k else m y) = m := by
    funext y
    by_cases q : y = k <;> simp [q]
  rw [e]; exact F
theorem strOf_smallZ (k : Int) (h : -200 ≤ k ∧ k ≤ 200) : (strOf k).length ≤ 4 := by
  have q : ∀ n : Fin 401, (strOf ((n.val : Int) - 200)).length ≤ 4 := by decide +kernel
  have := q ⟨(k + 200).toNat, by omega⟩
  have e : (((k + 200).toNat : Nat) : Int) - 200 = k := by omega
  rw [e] at this
  exact this
theorem join_okZ : ∀ (l : List Int), (∀ z ∈ l, -200 ≤ z ∧ z ≤ 200) → ((l.map strOf).map (·.length)).sum ≤ l.length * 4
  | [], _ => Nat.le_refl _
  | x :: r, h => by
    have a := join_okZ r fun t ht => h t (.tail _ ht)
    have b := strOf_smallZ x (h x (.head _))
    simp only [List.map_cons, List.sum_cons, List.length_cons]
    omega
theorem joinZ_len {ts : List Int} (hts : ∀ t ∈ ts, -200 ≤ t ∧ t ≤ 200) (hlen : ts.length ≤ 60) : (Txt.join (Str.ofString ", ") (ts.map strOf)).length ≤ 1000 := by
  show (Builtin.Str.glued (Str.ofString ", ") (ts.map strOf)).length ≤ 1000
  rw [StrLaws.glued_eq_join]
  refine Nat.le_trans (StrLaws.join_length_le _ _) ?_
  have h2 : (Str.ofString ", ").length = 2 := by decide
  rw [h2, List.length_map]
  have := join_okZ ts hts
  omega
theorem told_perm {g h : Heap} {L : Addr} {pT pD pa pb pc : Addr × Obj} {r1 r2 : List (Addr × Obj)} (N : News g L h (pT :: pD :: pa :: pb :: pc :: (r1 ++ r2))) : News g L h ([pa, pb] ++ pc :: ([pT] ++ r1 ++ r2)) := fun p hp => N p (by
  simp only [List.mem_cons, List.mem_append, List.cons_append, List.nil_append] at hp ⊢
  rcases hp with h | h | h | h | h | h <;> simp [h])
structure TS where
  lh : Addr
  lt : Addr
  hvs : List Value
  eh : Nat
  tvs : List Value
  et : Nat
  heads : List Int
  out : List Dat
  tps : List (Addr × Obj)
structure PTold (tab : Int) (pg : List PR) (news : List (Addr × Obj)) (i : Nat) (c : TS) : Prop where
  off : c.lh ≠ c.lt ∧ ∀ p ∈ c.tps ++ news, p.1 ≠ c.lh ∧ p.1 ≠ c.lt
  hds : IntsAre c.hvs c.heads
  tld : DatAll c.tps c.tvs c.out
  hn : c.heads.length = i + 1
  hb : ∀ z ∈ c.heads, 0 ≤ z ∧ z ≤ i
  tn : c.tvs.length ≤ i
  go : toldGo tab pg (pg.length - 1 - i) (i + 1) c.heads c.out = toldV tab pg
theorem told_step {tab j : Int} {pg : List PR} {i : Nat} {heads : List Int} {out : List Dat} (h : toldGo tab pg (pg.length - 1 - i) (i + 1) heads out = toldV tab pg) (hi : i < pg.length - 1) (hb : backJ pg (pcol pg (i + 1)) j.toNat = backJ pg (pcol pg (i + 1)) i) (hs : ¬ pcol pg j.toNat > pcol pg (i + 1)) :
    (if decide (pcol pg j.toNat < pcol pg (i + 1)) = true ∧ j.toNat < i then out ++ [lostD ((i + 1 : Nat) : Int) (prow pg (i + 1))]
    else toldGo tab pg (pg.length - 1 - (i + 1)) (i + 1 + 1) (heads ++ [if decide (pcol pg j.toNat < pcol pg (i + 1)) = true then ((i + 1 : Nat) : Int) else heads.getD j.toNat 0]) (out ++ toldD ((i + 1 : Nat) : Int) (decide (pcol pg j.toNat < pcol pg (i + 1))) (sizesV (ppr pg (heads.getD j.toNat 0).toNat) (ppr pg (i + 1)) tab (pcol pg (i + 1)) (decide (pcol pg j.toNat < pcol pg (i + 1)))) (prow pg (i + 1)))) = toldV tab pg := by
  rw [show pg.length - 1 - i = (pg.length - 1 - (i + 1)) + 1 by omega, toldGo] at h
  simp only [Nat.add_sub_cancel] at h
  rw [← hb, backJ_stay hs] at h
  exact h
theorem PairOK.bd {tab ca cb : Int} {a b : Int × Int} (ha : PairOK tab ca a) (ht : 1 ≤ tab) (hb : PairOK tab cb b) : 0 ≤ a.1 ∧ a.1 ≤ 24 ∧ 0 ≤ a.2 ∧ a.2 ≤ 24 ∧ 0 ≤ b.1 ∧ b.1 ≤ 24 ∧ 0 ≤ b.2 ∧ b.2 ≤ 24 := by
  have h1 := ha.t0
  have h2 := ha.b0
  have h3 := ha.sum
  have h4 := ha.le
  have h5 := hb.t0
  have h6 := hb.b0
  have h7 := hb.sum
  have h8 := hb.le
  have h9 : 1 * a.1 ≤ tab * a.1 := Int.mul_le_mul_of_nonneg_right ht h1
  have h10 : 1 * b.1 ≤ tab * b.1 := Int.mul_le_mul_of_nonneg_right ht h5
  omega
theorem sizesV_len {a b : Int × Int} {tab col : Int} {d : Bool} (h : 0 ≤ a.1 ∧ a.1 ≤ 24 ∧ 0 ≤ a.2 ∧ a.2 ≤ 24 ∧ 0 ≤ b.1 ∧ b.1 ≤ 24 ∧ 0 ≤ b.2 ∧ b.2 ≤ 24) (hc : 0 ≤ col ∧ col ≤ 24) : (sizesV a b tab col d).length ≤ 60 ∧ ∀ z ∈ sizesV a b tab col d, 0 ≤ z ∧ z ≤ 100 ∨ z < 0 ∧ -100 ≤ z := by
  unfold sizesV
  by_cases h1 : a.1 = b.1
  · rw [if_pos h1]; exact ⟨by simp, fun z hz => by cases hz⟩
  rw [if_neg h1]
  by_cases h2 : d = false
  · rw [if_pos h2]
    constructor
    · have := List.length_filter_le (fun k => decide (k ≠ tab)) (rangeKs 1 (col + 1).toNat)
      rw [rangeKs_length] at this; omega
    · intro z hz
      have := mem_rangeKs.mp (List.mem_filter.mp hz).1
      omega
  rw [if_neg h2]
  by_cases h3 : a.1 < b.1
  · have hf := fdiv_bd (a := a.2 - b.2) (b := b.1 - a.1) (by omega) (by omega) (by omega)
    rw [if_pos h3]
    refine ⟨by rw [rangeKs_length]; omega, fun z hz => ?_⟩
    have := mem_rangeKs.mp hz
    omega
  · have hf := fdiv_bd (a := a.2 - b.2) (b := a.1 - b.1) (by omega) (by omega) (by omega)
    rw [if_neg h3]
    refine ⟨by rw [rangeKs_length]; omega, fun z hz => ?_⟩
    have := mem_rangeKs.mp hz
    omega
set_option maxHeartbeats 2000000 in
theorem told_spec {w : World} {p : Program} {loose : List Str} {mean : ExcName → Option Value} {mg mb : Str → Option Value} {dp un : Nat} {gd : Option (List Code)} {cn : Str} {cs : Scope} {a : Addr} {ccd : Value} {cl : List (Str × Addr)} {outer : List Env} {A₀ : Around} {base h₀ : Heap} {L : Addr} {m : Str → Option Value} {news : List (Addr × Obj)} {s : Shared} {Q E : Value → Shared → Prop} (B : Below A₀ base outer h₀) (F : Fr h₀ L s.heap m) (X : (A.hd.heap_39 w.params).In h₀) (N : News h₀ L s.heap news) (T : Top p loose mean mg mb h₀) (hk : cs.kind = .function) (hdp : dp + 3 < recursionLimit) (hun : un + 600 < cLine) {lc lp lr : Addr} {cvs pvs rvs : List Value} {ec ep er : Nat} {tab : Int} {tt : Tok} {pg : List PR} (hlc : (lc, listOf cvs.toArray ec) ∈ news) (hc : IntsAre cvs (pg.map (·.1))) (hlp : (lp, listOf pvs.toArray ep) ∈ news) (hp : DatAll news pvs (pg.map prD)) (hlr : (lr, listOf rvs.toArray er) ∈ news) (hr : StrsAre rvs (pg.map (·.2.2)))
    (htab : 1 ≤ tab ∧ tab ≤ 8) (hhd : pg.head? = some pr0) (hok : ∀ r ∈ pg, RowOK tab r) (hlen : pg.length ≤ 7)
    (hret : ∀ r led h' tk', Fr h₀ L h' m → News h₀ L h' led → (∀ p ∈ news, p ∈ led) → DatIn led r (.list (toldV tab pg)) → Q r { s with heap := h', toks := tk' }) :
    wpAny (model PySem.Challenge.rw_sn0118_02.row.prog w) (ktrTop dp un gd cn cs L a ccd cl outer) (call (.ref 145) [.int tab tt, .ref lc, .ref lp, .ref lr]) Q E s := by
  have hcl := hc.length
  have hpl := hp.length
  have hrl := hr.length
  simp only [List.length_map] at hcl hpl hrl
  have hlen2 : Park (pg.length ≤ 7) := hlen
  clear hlen
  refine wpAny_call ?_
  k_dflt cell_enter
  k_steps
  refine unpark ?_
  (rename Fr _ _ _ (fun y => _) => lF0)
  refine for_V lF0 rfl rfl ?_
  k_steps
  (rename News _ _ _ _ => lN)
  refine len_led lN (.tail _ (.tail _ hlc)) hcl (by have := park hlen2; omega) ?_
  (try dsimp only)
  (try k_fold)
  k_steps
  refine unpark ?_
  (rename Fr _ _ _ (fun y => _) => lF)
  (rename News _ _ _ _ => lN)
  (rename IsRange _ _ _ _ _ _ _ _ => rgX)
  obtain ⟨lh, lt, tkh, m6, F6, q1, q2, q3, q4, q5, q6, lN6, ll, llt⟩ := (⟨_, _, _, _, lF, rfl, rfl, rfl, rfl, rfl, rfl, lN, by assumption, by assumption⟩ : ∃ (lh lt : Addr) (tkh : Tok) (m6 : Str → Option Value), Fr _ _ _ m6 ∧ m6 (Str.ofString "heads") = some (.ref lh) ∧ m6 (Str.ofString "told") = some (.ref lt) ∧ m6 (Str.ofString "tab") = some (.int tab tt) ∧ m6 (Str.ofString "columns") = some (.ref lc) ∧ m6 (Str.ofString "pairs") = some (.ref lp) ∧ m6 (Str.ofString "rows") = some (.ref lr) ∧
    News _ _ _ ((lh, listOf [Value.int 0 tkh].toArray 0) :: (lt, listOf ([] : List Value).toArray 0) :: news) ∧ (lt < lh ∧ AllLt lh news) ∧ (∀ p ∈ news, p.1 < lt))
  clear lF lN
  have lN := lN6
  clear lN6
  have hlen : pg.length ≤ 7 := park hlen2
  have hp1 : 1 ≤ pg.length := by cases pg with
    | nil => cases hhd
    | cons r q => simp
  have hgo : ∀ j, j < pg.length → RowOK tab (pg.getD j pr0) := fun j hj => by
    rw [List.getD_eq_getElem?_getD, List.getElem?_eq_getElem hj]
    exact hok _ (List.getElem_mem hj)
  have hcol : ∀ j, j < pg.length → ∃ t, cvs[j]? = some (.int (pcol pg j) t) := fun j hj => by
    refine hc.get j _ ?_
    rw [List.getElem?_map, List.getElem?_eq_getElem hj]
    show some _ = some (pg.getD j pr0).1
    rw [List.getD_eq_getElem?_getD, List.getElem?_eq_getElem hj]; rfl
  have hrow : ∀ j, j < pg.length → ∃ t, rvs[j]? = some (.str (prow pg j) t) := fun j hj => by
    refine hr.get j _ ?_
    rw [List.getElem?_map, List.getElem?_eq_getElem hj]
    show some _ = some (pg.getD j pr0).2.2
    rw [List.getD_eq_getElem?_getD, List.getElem?_eq_getElem hj]; rfl
  have hpr : ∀ j, j < pg.length → ∃ t e t1 t2, pvs[j]? = some (.ref t) ∧ (t, tupO [.int (ppr pg j).1 t1, .int (ppr pg j).2 t2] e) ∈ news := fun j hj => by
    obtain ⟨v, hv, hd⟩ := hp.get (k := j) (by simpa using hj)
    have e1 : (pg.map prD)[j]'(by simpa using hj) = prD (pg.getD j pr0) := by
      rw [List.getElem_map, List.getD_eq_getElem?_getD, List.getElem?_eq_getElem hj]; rfl
    rw [e1] at hd
    unfold prD at hd
    cases hd with
    | tuple hm ha =>
      cases ha with
      | cons h1 h2 =>
        cases h2 with
        | cons h3 h4 =>
          cases h4
          cases h1
          cases h3
          exact ⟨_, _, _, _, hv, hm⟩
  refine' kj_range (σ := TS) (a₀ := 1) (b₀ := (pg.length : Nat)) (n := pg.length - 1) (fun c => (c.lh, listOf c.hvs.toArray c.eh) :: (c.lt, listOf c.tvs.toArray c.et) :: (c.tps ++ news)) (fun c => [(Str.ofString "heads", .ref c.lh), (Str.ofString "told", .ref c.lt), (Str.ofString "tab", .int tab tt), (Str.ofString "columns", .ref lc), (Str.ofString "pairs", .ref lp), (Str.ofString "rows", .ref lr)]) [Str.ofString "j", Str.ofString "deeper", Str.ofString "sizes", Str.ofString "words"]
    (fun i c => PTold tab pg news i c) ⟨lh, lt, [.int 0 tkh], 0, [], 0, [0], [], []⟩ rfl rgX (by exact small_one (by omega) (by omega) (by omega) (by omega)) (by exact (rangeSize_nat _ _).trans (by omega)) ?kF ?kN (fun p hp => hp) ?hk ?hp ?turn ?done
  case kF => exact F6
  case kN => exact lN
  case hk =>
    intro q hq
    simp only [List.mem_cons, List.not_mem_nil, or_false] at hq
    rcases hq with rfl | rfl | rfl | rfl | rfl | rfl
    · exact q1
    · exact q2
    · exact q3
    · exact q4
    · exact q5
    · exact q6
  case hp =>
    refine ⟨⟨Nat.ne_of_gt ll.1, fun p hp => ⟨Nat.ne_of_lt (kst_ltOf ll.2 p hp), Nat.ne_of_lt (llt p hp)⟩⟩, .cons _ _ .nil, .nil, rfl, fun z hz => by rw [List.mem_singleton.mp hz]; omega, Nat.le_refl _, rfl⟩
  case turn =>
    rintro ⟨lh, lt, hvs, eh, tvs, et, heads, out, tps⟩ i k t mu h tk own hi hk hoff P2 F2 N2
    dsimp only [kstB, List.cons_append] at hoff F2 N2
    rw [List.append_assoc] at N2
    have ekk : k.toNat = i + 1 := by omega
    have hi1 : i + 1 < pg.length := by omega
    obtain ⟨tci, hci⟩ := hcol (i + 1) hi1
    obtain ⟨tri, hri⟩ := hrow (i + 1) hi1
    obtain ⟨t2, e2, q3, q4, hpi, hmi⟩ := hpr (i + 1) hi1
    rw [← ekk] at hci hri hpi
    have hok1 := hgo (i + 1) hi1
    have okp1 := hok1.pair htab.1
    have hc0 : 0 ≤ pcol pg (i + 1) ∧ pcol pg (i + 1) ≤ 24 := hok1.hc
    have h00 : pcol pg 0 = 0 := by
      cases pg with
      | nil => cases hhd
      | cons r q => simp at hhd; subst hhd; rfl
    have hmc : ∀ x, (x ∈ news → x ∈ (lh, listOf hvs.toArray eh) :: (lt, listOf tvs.toArray et) :: (tps ++ (news ++ own))) := fun x hx => .tail _ (.tail _ (List.mem_append.mpr (.inr (List.mem_append.mpr (.inl hx)))))
    have m1 := hmc _ hlc
    have m2 := hmc _ hlp
    have m3 := hmc _ hlr
    have m4 := hmc _ hmi
    k_steps
    refine unpark ?_
    (rename Fr _ _ _ (fun y => _) => lF5)
    (rename News _ _ _ _ => lN5)
    refine' ksw_while (fun _ : Int × Tok => (lh, listOf hvs.toArray eh) :: (lt, listOf tvs.toArray et) :: (tps ++ (news ++ own))) (fun c => [(Str.ofString "j", .int c.1 c.2)]) (fun _ => True) []
      (fun c => 0 ≤ c.1 ∧ c.1 ≤ i ∧ backJ pg (pcol pg (i + 1)) c.1.toNat = backJ pg (pcol pg (i + 1)) i) (fun c => c.1.toNat) (k - 1, _) ?kF5 ?kN5 trivial ?kk5 ⟨?p1, ?p2, ?p3⟩ ?turn5
    case kF5 => exact lF5
    case kN5 => exact lN5
    case kk5 =>
      intro p hp
      rw [List.mem_singleton.mp hp]
      rfl
    case p1 => show 0 ≤ k - 1; omega
    case p2 => show k - 1 ≤ i; omega
    case p3 => show backJ _ _ (k - 1).toNat = _; congr 1; omega
    clear lF5 lN5
    rintro ⟨j, tj⟩ u h7 tk7 _ ⟨hj0, hj1, hjb⟩ F7 N7
    dsimp only [kstB] at hj0 hj1 hjb F7 N7
    simp only [List.contains_nil, Bool.false_eq_true, if_false] at F7
    have hjl : j.toNat < pg.length := by omega
    obtain ⟨tcj, hcj⟩ := hcol j.toNat hjl
    have hk2 : k = ((i + 1 : Nat) : Int) := by omega
    have hall : ∀ p ∈ tps ++ (news ++ own), p.1 ≠ lh ∧ p.1 ≠ lt := fun p hp => by
      rw [← List.append_assoc] at hp
      rcases List.mem_append.mp hp with hp | hp
      · exact P2.off.2 p hp
      · exact ⟨hoff p hp _ (.head _), hoff p hp _ (.tail _ (.head _))⟩
    have hhn := P2.hn
    have hhl := P2.hds.length
    have htn := P2.tn
    dsimp only at hhn hhl htn
    obtain ⟨thj, hhj⟩ := P2.hds.get j.toNat (heads.getD j.toNat 0) (by rw [List.getD_eq_getElem?_getD, List.getElem?_eq_getElem (by show _ < heads.length; omega)]; rfl)
    have hzb := P2.hb (heads.getD j.toNat 0) (by rw [List.getD_eq_getElem?_getD, List.getElem?_eq_getElem (by show _ < heads.length; omega)]; exact List.getElem_mem _)
    generalize hz : heads.getD j.toNat 0 = z at hhj hzb
    obtain ⟨t1, e1, q1, q2, hpz, hmz⟩ := hpr z.toNat (by omega)
    have okz := (hgo z.toNat (by omega)).pair htab.1
    have m5 := hmc _ hmz
    k_steps
    · refine unpark ?_
      (rename Fr _ _ _ (fun y => _) => lF8)
      (rename News _ _ _ _ => lN8)
      have hgt : pcol pg j.toNat > pcol pg (i + 1) := by rw [← ekk]; assumption
      have hj1' : 1 ≤ j := by
        false_or_by_contra
        have e0 : j.toNat = 0 := by omega
        rw [e0] at hgt
        omega
      refine' ksw_end (j - 1, ?tok) lF8 lN8 (fun p hp => hp) trivial ?ka ?kb ⟨?kc, ?kd, ?ke⟩ ?kf
      case ka =>
        intro p hp
        rw [List.mem_singleton.mp hp]
        rfl
      case kb =>
        intro z h1 _
        have hz1 := h1 _ (.head _)
        dsimp only at hz1 ⊢
        simp only [if_neg hz1]
        (try rfl)
      case kc => show 0 ≤ j - 1; omega
      case kd => show j - 1 ≤ i; omega
      case ke =>
        show backJ pg (pcol pg (i + 1)) (j - 1).toNat = _
        rw [← hjb]
        obtain ⟨jn, hjn⟩ : ∃ jn, j.toNat = jn + 1 := ⟨j.toNat - 1, by omega⟩
        rw [show (j - 1).toNat = jn by omega, hjn, backJ, if_pos (by rw [← hjn]; exact hgt)]
      case kf => show (j - 1).toNat < j.toNat; omega
    refine unpark ?_
    (rename Fr _ _ _ (fun y => _) => lF6)
    (rename News _ _ _ _ => lN6)
    have hng : ¬ pcol pg j.toNat > pcol pg (i + 1) := by rw [← ekk]; assumption
    have hgo1 := told_step P2.go hi hjb hng
    rw [← ekk] at hng
    refine' join_same (¬ (pcol pg j.toNat < pcol pg (i + 1) ∧ j.toNat < i)) ?kF6 ?kN6 ?s1 ?s2
    case kF6 => exact lF6
    case kN6 => exact lN6
    case s1 =>
      refine wpAny_If ?_
      k_steps
      · refine unpark ?_
        (rename Fr _ _ _ (fun y => _) => lF8)
        (rename News _ _ _ _ => lN8)
        have hdl : pcol pg j.toNat < pcol pg (i + 1) := by rw [← ekk]; assumption
        have l1 := ‹lh < _ ∧ lt < _ ∧ _›
        refine append_end lF8 lN8 (.tail (Nat.ne_of_gt l1.2.1) (.tail P2.off.1 (.head fun p hp => (hall p hp).2))) (by omega) ?_
        intro h9 F9 N9
        (try dsimp only)
        (try k_fold)
        k_steps
        refine Or.inr ⟨(fun q => by cases q), ?_⟩
        (try dsimp only)
        k_steps
        rw [if_pos ⟨decide_eq_true hdl, by omega⟩] at hgo1
        refine hret _ _ _ _ (by assumption) (by assumption) (fun p hp => .tail _ (.tail _ (.tail _ (List.mem_append.mpr (.inr (List.mem_append.mpr (.inl hp))))))) (by
          rw [← hgo1]
          exact .list (.tail _ (.tail _ (.head _))) (DatAll.append (DatAll.mono (fun p hp => .tail _ (.tail _ (.tail _ (List.mem_append.mpr (.inl hp))))) P2.tld) (.one (.tuple (.head _) (.cons (hk2 ▸ .int _ _) (.cons (.str _ _) (.cons (by rw [← ekk]; exact .str _ _) .nil)))))))
      all_goals
        refine Or.inl ⟨rfl, fun q => ?_, _, _, rfl, by assumption, by assumption⟩
        have q1 := q.1
        rw [← ekk] at q1
        first | contradiction | omega
    clear lF6 lN6
    intro hnd h10 tk10 F10 N10
    (try dsimp only)
    (try k_fold)
    k_steps
    refine unpark ?_
    k_dflt (refine' sizes_spec ?k1 ?k2 ?k3 ?k4 ?k5 ?k6 ?k7 ?k8 m5 m4 ?hb ?hc htab ?_; (case k1 => k_asm); (case k2 => k_asm); (case k3 => k_asm); (case k4 => k_asm); (case k5 => k_asm); (case k6 => first | exact rfl | assumption); (case k7 => ktr_room); (case k8 => ktr_units))
    case hb => exact okz.bd htab.1 okp1
    case hc => rw [ekk]; exact hc0
    intro r9 szs e9 h9 tk9 F9 N9 o9 hI9
    (try dsimp only)
    (try k_fold)
    rw [ekk] at hI9
    have hszl := sizesV_len (a := ppr pg z.toNat) (b := ppr pg (i + 1)) (tab := tab) (col := pcol pg (i + 1)) (d := decide (pcol pg j.toNat < pcol pg (i + 1))) (okz.bd htab.1 okp1) hc0
    change IntsAre szs (sizesV (ppr pg z.toNat) (ppr pg (i + 1)) tab (pcol pg (i + 1)) (decide (pcol pg j.toNat < pcol pg (i + 1)))) at hI9
    generalize hSZ : sizesV (ppr pg z.toNat) (ppr pg (i + 1)) tab (pcol pg (i + 1)) (decide (pcol pg j.toNat < pcol pg (i + 1))) = szl at hI9 hszl
    have hsl := hI9.length
    have hs60 := hszl.1
    k_steps
    refine unpark ?_
    (rename Fr _ _ _ (fun y => _) => lF11)
    (rename News _ _ _ (_ :: _ :: _) => lN11)
    obtain ⟨dd, hdd⟩ : ∃ dd, decide (pcol pg j.toNat < pcol pg (i + 1)) = dd := ⟨_, rfl⟩
    refine' join_told (pre := [(r9, listOf szs.toArray e9), (lh, listOf hvs.toArray eh)]) (lt := lt) (tps := tps) (rest := news ++ own) (tvs := tvs) (et := et) (out ++ toldD ((i + 1 : Nat) : Int) dd szl (prow pg (i + 1))) i ?kF11 ?kN11 ?u1 ?u2
    case kF11 => exact lF11
    case kN11 => exact lN11
    case u1 =>
      refine wpAny_If ?_
      k_steps
      refine unpark ?_
      (rename News _ _ _ (_ :: _ :: _) => lN12)
      refine' wpAny_truthy_list (items := szs.toArray) ?kl ?kz ?_
      case kl => exact lst_of lN12 (.head _)
      case kz => rw [List.size_toArray, hsl]; omega
      by_cases hsz : szl = []
      · subst hsz
        have hs0 : szs = [] := by cases hI9; rfl
        subst hs0
        k_steps
        refine ⟨rfl, _, _, _, tvs, et, [], rfl, fr_here (by assumption), by assumption, ?_, by omega, fun p hp => nomatch hp⟩
        rw [show toldD ((i + 1 : Nat) : Int) dd [] (prow pg (i + 1)) = [] from if_pos rfl, List.append_nil]
        exact P2.tld
      have hb0 : (!szs.toArray.isEmpty) = true := by
        cases hI9 with
        | nil => exact absurd rfl hsz
        | cons _ _ _ => rfl
      rw [hb0]
      k_steps
      refine unpark ?_
      (rename Fr _ _ _ (fun y => _) => lF13)
      (rename News _ _ _ (_ :: _ :: _) => lN13)
      have hwl : (wordsP dd).length ≤ 100 := by cases dd <;> decide
      refine' join_word (wordsP dd) ?kF13 ?kN13 ?w1 ?w2
      case kF13 => exact lF13
      case kN13 => exact lN13
      case w1 =>
        refine wpAny_If ?_
        k_steps
        · have hd1 : dd = true := by rw [← hdd, ← ekk]; exact decide_eq_true (by assumption)
          subst hd1
          exact ⟨rfl, _, _, _, rfl, fr_dup (by assumption), by assumption⟩
        · have hd1 : dd = false := by rw [← hdd, ← ekk]; exact decide_eq_false (by assumption)
          subst hd1
          exact ⟨rfl, _, _, _, rfl, by assumption, by assumption⟩
      clear lF13 lN13
      intro h14 tk14 t14 F14 N14
      (try dsimp only)
      (try k_fold)
      k_steps
      refine unpark ?_
      refine' join_word (if szl.length > 1 then wordsP dd ++ Str.ofString "s" else wordsP dd) ?kF14 ?kN14 ?x1 ?x2
      case kF14 => exact F14
      case kN14 => exact N14
      case x1 =>
        refine wpAny_If ?_
        k_steps
        · rw [if_pos (by omega)]
          exact ⟨rfl, _, _, _, rfl, fr_dup (by assumption), by assumption⟩
        · rw [if_neg (by omega)]
          exact ⟨rfl, _, _, _, rfl, by assumption, by assumption⟩
      clear F14 N14
      intro h15 tk15 t15 F15 N15
      (try dsimp only)
      (try k_fold)
      have hwl2 : (if szl.length > 1 then wordsP dd ++ Str.ofString "s" else wordsP dd).length ≤ 200 := by
        have e8 : (Str.ofString "s").length ≤ 100 := by decide
        split
        · rw [Str.length_append]; omega
        · omega
      generalize hW : (if szl.length > 1 then wordsP dd ++ Str.ofString "s" else wordsP dd) = W at F15 hwl2
      k_steps
      refine unpark ?_
      (rename Fr _ _ _ (fun y => _) => lF16)
      refine' LCg.ListComp_U ?kF16 rfl (by decide) rfl (by decide) rfl ?_
      case kF16 => exact lF16
      k_steps
      refine unpark ?_
      (rename Fr _ _ _ (fun y => _) => lF17)
      (rename News _ _ _ (_ :: _ :: _) => lN17)
      refine' LCg.CompSrc.ledger (its := szs.toArray) (k := e9) rfl ?kF17 ?kN17 (.head _) (by rw [sizeLine_eq, List.size_toArray]; omega) ?_
      case kF17 => exact lF17
      case kN17 => exact lN17
      intro gh
      refine (show ∀ (k i : Nat) (ys : List Value), i + k = szs.toArray.size → StrsAre ys ((szl.take i).map strOf) → LCg.CompRest _ _ _ _ _ _ _ _ _ _ _ _ _ _ _ k i ys _ from ?key) _ 0 [] (by omega) .nil
      intro k9
      induction k9 with
      | zero =>
        intro i9 ys hi9 hI19
        refine LCg.CompRest.zero ?_
        intro D h18 tk18 F18 N18 o18
        (try dsimp only)
        (try k_fold)
        have hys : (szl.take i9) = szl := List.take_of_length_le (by rw [List.size_toArray] at hi9; omega)
        rw [hys] at hI19
        have hz2 : ∀ y ∈ szl, -200 ≤ y ∧ y ≤ 200 := fun y hy => by have := hszl.2 y hy; omega
        have hok2 := join_okZ szl hz2
        have hjl := joinZ_len hz2 hs60
        k_steps
        refine unpark ?_
        (rename News _ _ _ (_ :: _ :: _) => lN19)
        refine' join_list (ys := szl.map strOf) ?jl ?ji ?jok ?_
        case jl => exact lst_of lN19 (.head _)
        case ji => rw [List.toList_toArray]; exact hI19
        case jok =>
          rw [List.length_map, show (Str.ofString ", ").length = 2 by decide]
          omega
        intro tj kj
        (try dsimp only)
        (try k_fold)
        k_steps
        refine' item_at ?qN ?qM (by omega) (by omega) hri ?_
        case qN => exact lN19
        case qM => exact .tail _ (.tail _ m3)
        (try dsimp only)
        (try k_fold)
        k_steps
        refine unpark ?_
        (rename Fr _ _ _ (fun y => _) => lF20)
        (rename News _ _ _ (_ :: _ :: _) => lN20)
        have l1 := ‹D < _ ∧ r9 < _ ∧ lh < _ ∧ lt < _ ∧ _›
        have hDl := off1_mem o18 _ (.tail _ (.tail _ (.head _)))
        have hrl9 := o9 _ (.tail _ (.head _))
        refine append_end lF20 lN20 (.tail (Nat.ne_of_gt l1.2.2.2.1) (.tail (Ne.symm hDl) (.tail (Ne.symm hrl9) (.tail P2.off.1 (.head fun p hp => (hall p hp).2))))) (by omega) ?_
        intro h21 F21 N21
        (try dsimp only)
        (try k_fold)
        k_steps
        refine ⟨rfl, _, _, _, _, _, [_], rfl, by assumption, told_perm N21, ?_, ?_, fun p hp => ?_⟩
        · rw [show toldD ((i + 1 : Nat) : Int) dd szl (prow pg (i + 1)) = [.tuple [.int ((i + 1 : Nat) : Int), .str (toldW dd szl), .str (prow pg (i + 1))]] from if_neg hsz]
          refine DatAll.append (DatAll.mono (fun p hp => .tail _ hp) P2.tld) (.one (.tuple (.head _) (.cons (hk2 ▸ .int _ _) (.cons ?_ (.cons (by rw [← ekk]; exact .str _ _) .nil)))))
          unfold toldW
          rw [hW]
          exact .str _ _
        · simp only [List.length_append, List.length_cons, List.length_nil]; omega
        · rw [List.mem_singleton.mp hp]
          refine ⟨fun q hq => ?_, l1.2.2.2.1⟩
          rcases List.mem_cons.mp hq with rfl | hq
          · exact l1.2.1
          rcases List.mem_cons.mp hq with rfl | hq
          · exact l1.2.2.1
          · exact kst_ltOf l1.2.2.2.2 q hq
      | succ k9 ih =>
        intro i9 ys hi9 hI19
        refine LCg.CompRest.succ ?_
        intro v I oI C oC D m2 h18 tk18 E' hv hoC hx F18 N18 off ne
        obtain ⟨n9, tn9, rfl, hn9⟩ := IntsAre.at hI9 i9 v (by simpa using hv)
        have hnb := hszl.2 n9 (List.mem_of_getElem? hn9)
        have hn200 : -200 ≤ n9 ∧ n9 ≤ 200 := by omega
        clear hnb
        k_steps
        refine unpark ?_
        refine P.str_of_int (shown (N := 2 ^ 1920) (by omega) (by omega) (Int.le_refl _)) ?_
        refine LCg.CompEnd.intro F18 N18 _ (fun p hp => hp) off (.inr ⟨_, .head _, rfl, _, rfl⟩) (ih (i9 + 1) _ (by omega) ?_)
        have e9 : i9 < szl.length := (List.getElem?_eq_some_iff.mp hn9).1
        rw [List.take_succ_eq_append_getElem e9, List.map_append, (List.getElem?_eq_some_iff.mp hn9).2]
        exact StrsAre.append' hI19 (.cons _ _ .nil)
    clear lF11 lN11
    intro h20 tk20 wv tvs2 et2 nw F20 N20 D20 l20 o20
    dsimp only [List.cons_append, List.nil_append] at N20
    (try dsimp only)
    (try k_fold)
    have hgo2 := hgo1
    rw [if_neg (by rintro ⟨a1, b1⟩; exact hnd ⟨of_decide_eq_true a1, b1⟩), hz, hSZ, hdd] at hgo2
    have hrh9 := o9 _ (.head _)
    have hall2 : ∀ p ∈ (lt, listOf tvs2.toArray et2) :: (nw ++ tps ++ (news ++ own)), p.1 ≠ lh := fun p hp => by
      rcases List.mem_cons.mp hp with rfl | hp
      · exact Ne.symm P2.off.1
      rw [List.append_assoc] at hp
      rcases List.mem_append.mp hp with hp | hp
      · exact Nat.ne_of_gt ((o20 p hp).1 _ (.tail _ (.head _)))
      · exact (hall p hp).1
    have hoffN : ∀ p ∈ nw ++ tps ++ news, p.1 ≠ lh ∧ p.1 ≠ lt := fun p hp => by
      rw [List.append_assoc] at hp
      rcases List.mem_append.mp hp with hp | hp
      · exact ⟨Nat.ne_of_gt ((o20 p hp).1 _ (.tail _ (.head _))), Nat.ne_of_gt (o20 p hp).2⟩
      · exact P2.off.2 p hp
    have hownN : OwnOff own (lh :: lt :: (nw ++ tps ++ news).map (·.1)) := fun p hp b hb => by
      rcases List.mem_cons.mp hb with rfl | hb
      · exact hoff p hp _ (.head _)
      rcases List.mem_cons.mp hb with rfl | hb
      · exact hoff p hp _ (.tail _ (.head _))
      obtain ⟨q, hq, rfl⟩ := List.mem_map.mp hb
      rw [List.append_assoc] at hq
      rcases List.mem_append.mp hq with hq | hq
      · exact Nat.ne_of_lt ((o20 q hq).1 p (List.mem_append.mpr (.inr (List.mem_append.mpr (.inr hp)))))
      · exact hoff p hp _ (.tail _ (.tail _ (List.mem_map_of_mem hq)))
    k_steps
    refine unpark ?_
    refine wpAny_If ?_
    k_steps
    · refine unpark ?_
      (rename Fr _ _ _ (fun y => _) => lF21)
      (rename News _ _ _ (_ :: _ :: _) => lN21)
      have hd1 : dd = true := by rw [← hdd, ← ekk]; exact decide_eq_true (by assumption)
      subst hd1
      refine append_end lF21 lN21 (.tail (Ne.symm hrh9) (.head hall2)) (by omega) ?_
      intro h22 F22 N22
      (try dsimp only)
      (try k_fold)
      k_steps
      refine kj_end2 (TS.mk lh lt (hvs ++ [.int k t]) (eh + 1) tvs2 et2 (heads ++ [k]) (out ++ toldD ((i + 1 : Nat) : Int) true szl (prow pg (i + 1))) (nw ++ tps)) F22 N22 (by kst_all) ⟨⟨P2.off.1, hoffN⟩, IntsAre.append P2.hds (.cons k t .nil), D20, ?_, ?_, l20, ?_⟩ ?_ ?_ hownN (by kst_same)
      · simp only [List.length_append, List.length_cons, List.length_nil]; omega
      · intro y hy
        rcases List.mem_append.mp hy with hy | hy
        · have := P2.hb y hy; omega
        · rw [List.mem_singleton.mp hy]; omega
      · rw [if_pos rfl] at hgo2; rw [hk2]; exact hgo2
      · intro p hp
        rcases List.mem_cons.mp hp with rfl | hp
        · exact .tail _ (.head _)
        rcases List.mem_cons.mp hp with rfl | hp
        · exact .tail _ (.tail _ (.head _))
        · refine .tail _ (.tail _ (.tail _ ?_))
          rcases List.mem_append.mp hp with hp | hp
          · exact List.mem_append.mpr (.inl hp)
          · exact List.mem_append.mpr (.inr (List.mem_append.mpr (.inl hp)))
      · exact fun p hp => .tail _ (.tail _ (.tail _ (List.mem_append.mpr (.inr (List.mem_append.mpr (.inr hp))))))
    · refine unpark ?_
      (rename Fr _ _ _ (fun y => _) => lF21)
      (rename News _ _ _ (_ :: _ :: _) => lN21)
      have hd1 : dd = false := by rw [← hdd, ← ekk]; exact decide_eq_false (by assumption)
      subst hd1
      refine append_end lF21 lN21 (.tail (Ne.symm hrh9) (.head hall2)) (by omega) ?_
      intro h22 F22 N22
      (try dsimp only)
      (try k_fold)
      k_steps
      refine kj_end2 (TS.mk lh lt (hvs ++ [.int z thj]) (eh + 1) tvs2 et2 (heads ++ [z]) (out ++ toldD ((i + 1 : Nat) : Int) false szl (prow pg (i + 1))) (nw ++ tps)) F22 N22 (by kst_all) ⟨⟨P2.off.1, hoffN⟩, IntsAre.append P2.hds (.cons z thj .nil), D20, ?_, ?_, l20, ?_⟩ ?_ ?_ hownN (by kst_same)
      · simp only [List.length_append, List.length_cons, List.length_nil]; omega
      · intro y hy
        rcases List.mem_append.mp hy with hy | hy
        · have := P2.hb y hy; omega
        · rw [List.mem_singleton.mp hy]; omega
      · rw [if_neg Bool.false_ne_true] at hgo2; exact hgo2
      · intro p hp
        rcases List.mem_cons.mp hp with rfl | hp
        · exact .tail _ (.head _)
        rcases List.mem_cons.mp hp with rfl | hp
        · exact .tail _ (.tail _ (.head _))
        · refine .tail _ (.tail _ (.tail _ ?_))
          rcases List.mem_append.mp hp with hp | hp
          · exact List.mem_append.mpr (.inl hp)
          · exact List.mem_append.mpr (.inr (List.mem_append.mpr (.inl hp)))
      · exact fun p hp => .tail _ (.tail _ (.tail _ (List.mem_append.mpr (.inr (List.mem_append.mpr (.inr hp))))))
  case done =>
    rintro ⟨lh, lt, hvs, eh, tvs, et, heads, out, tps⟩ mu h tk P2 F2 N2
    dsimp only [kstB, List.cons_append] at F2 N2
    (try dsimp only)
    k_steps
    have hgo9 := P2.go
    rw [show pg.length - 1 - (pg.length - 1) = 0 by omega] at hgo9
    have eo : out = toldV tab pg := hgo9
    exact hret _ _ _ _ (by assumption) (by assumption) (fun p hp => .tail _ (.tail _ (List.mem_append.mpr (.inr hp)))) (by rw [← eo]; exact .list (.tail _ (.head _)) (DatAll.mono (fun p hp => .tail _ (.tail _ (List.mem_append.mpr (.inl hp)))) P2.tld))
end Mine
namespace Mine
theorem fill14 : PySem.Challenge.rw_sn0118_02 = PySem.Challenge.rw_sn0118_02 ∧ A.hd.heap_39 = A.hd.heap_39 := by k_fill; exact ⟨rfl, rfl⟩
local macro_rules | `(tactic| walk_at "assign Tuple") => `(tactic| refine park ?_)
local macro_rules | `(tactic| walk_at "compareOp Eq ref") => `(tactic| refine park ?_)
local macro_rules | `(tactic| walk_at "call ref") => `(tactic| (k_dflt (show wpAny _ _ (call (Value.ref 135) _) _ _ _); refine park ?_))
local macro_rules | `(tactic| walk_at "call ref") => `(tactic| (k_dflt (show wpAny _ _ (call (Value.ref 145) _) _ _ _); refine park ?_))
local macro_rules | `(tactic| walk_at "call ref") => `(tactic| (k_dflt (show wpAny _ _ (call (Value.ref 157) _) _ _ _); refine park ?_))
structure EndB (h₀ : Heap) (os : Shared) (r : Result) (s' : Shared) : Prop where
  res : r = .ok (.ret (.bool true))
  keep : ∀ b o, h₀.get? b = some o → s'.heap.get? b = some o
  same : s'.os = os.os
  bare : AllBare s'.gens
  tab : GrownAt 123 s'.heap
theorem post_b {M : Model} {A : Around} {cd : Code} {s s₁ : Shared} {cw : ClaimW} {cl : Str → Option Addr} {mean : ExcName → Option Value} {args : List WData} {c : Addr} (hT : TabsAt [(c, 123)] s₁.heap) (hr : ∀ x, cw.raises args x = false) (hp : cw.post args (.bool true) args = true)
    (h : codeAny M A cd (EndB (ghostOf s₁.heap [(c, 123)]) s₁) s) : codeAny M A cd (GoodWG cw cl mean args s₁) s := by
  refine codeAny_mono h fun r s' q => ?_
  have hTab := hT _ (.head _)
  obtain ⟨ps, hps⟩ := q.tab
  have other : ∀ b o, b ≠ 123 → s₁.heap.get? b = some o → s'.heap.get? b = some o := fun b o hb e => q.keep b o (ghost_ne e (by simpa using hb))
  refine ⟨.inl ⟨.bool true, .bool true, [], q.res, hr, (.bool true), hp, fun _ => ⟨List.nodup_nil, fun a ha => nomatch ha⟩⟩, ⟨fun b o e => ?_, fun b o e => ?_⟩, q.same, q.bare⟩
  · by_cases hb : b = 123
    · subst hb
      have e2 := hTab.2
      rw [e] at e2
      cases e2
      exact .inr (.inl ⟨(hTab.1.tab hTab.2).isCodeTable, rfl, #[], ps, rfl, by rw [Array.empty_append]; exact hps⟩)
    · exact .inl (other b o hb e)
  · by_cases hb : b = 123
    · subst hb; exact ⟨_, hps⟩
    · exact ⟨o, other b o hb e⟩
theorem tab_ne {g h : Heap} {L : Addr} {led : List (Addr × Obj)} {ps : Array Value} (N : News g L h led) (hP : (123, tabObj ps) ∈ led) : ∀ (a : Addr) (o : Obj), (a, o) ∈ led → o.cls ≠ .none → a ≠ 123 := fun a o ha hc e => by
  subst e
  exact hc (congrArg Obj.cls (Option.some.inj ((N _ ha).1.symm.trans (N _ hP).1)))
local macro_rules | `(tactic| walk_at "law room") => `(tactic| first | ktr_room | decide | exact Nat.le_of_ble_eq_true rfl | decide +kernel)
set_option maxHeartbeats 4000000 in
theorem top : PySem.Challenge.rw_sn0118_02.Holds := A.hd (by
  k_fill
  intro w s₀ s₁ mg mb G Y fa o pm cd doc dV kV ho hd hcd hD hmg hg args vals as hpre hlay hrd hwl hlo
  have KX := kIn_of Y
  have V := (Ground.X G).2
  refine Ground.open G ?_
  intro T B D TE TW
  try (refine guard_noD D (by decide +kernel) ?_; clear D)
  have hT9 : TabsAt [(127, 123)] s₁.heap := List.forall_mem_cons.mpr ⟨tab_of (x := PySem.Str.ofString "format_witnesses") (c := 127) (P := 123) T KX rfl (by kernel_rfl), fun _ h => nomatch h⟩
  clear hmg
  wrow_args hpre hlay hrd hwl hlo
  all_goals (
    first | refine callC_kw (enter_call ?_) | refine enter_call ?_
    w_top on
    refine post_b hT9 (fun _ => rfl) ?hpost ?_
    (case hpost => first | kernel_rfl | (w_fin; done) | (law_fin; done) | (simp [PySem.Challenge.rw_sn0118_02]; done) | trace_state)
    w_call any ho hd hcd hD T F
    clear hd
    kn_ghosts F T
    k_drop
    skip)
  (all_goals try k_fold)
  k_steps
  refine unpark ?_
  k_dflt (refine' page_spec ?k1 ?k2 ?k3 ?k4 ?k5 ?k6 ?k7 ?k8 ?hl ?hi ?hn ?_; (case k1 => k_asm); (case k2 => k_asm); (case k3 => k_asm); (case k4 => k_asm); (case k5 => k_asm); (case k6 => first | exact rfl | assumption); (case k7 => walk_at "law room"); (case k8 => walk_at "law room"); (case hl => assumption); (case hi => assumption); (case hn => omega))
  intro r1 tab tt pg lc lp lr cvs ec pvs ep rvs er led h1 tk1 htab hhd hok hst hlen F1 N1 s1 m1 m2 hc m3 hpd m4 hr
  (try dsimp only)
  (try k_fold)
  have hP1 := s1 _ (.head _)
  have hpdO := DatAll.off N1 hP1 rfl hpd
  have hne := tab_ne N1 hP1
  k_steps
  refine unpark ?_
  refine' unpackN_ ?kF ?kN (tup_of N1 m1) rfl rfl rfl ?_
  case kF => exact F1
  case kN => exact N1
  clear F1
  intro h2 F2 N2
  (try dsimp only)
  (try k_fold)
  k_steps
  refine unpark ?_
  (rename Fr _ _ _ (fun y => _) => lF)
  have hlenR : 1 ≤ (pg.map fun r => r.2.2).length ∧ (pg.map fun r => r.2.2).length ≤ 7 := by
    rw [List.length_map]
    refine ⟨?_, hlen⟩
    cases pg with
    | nil => cases hhd
    | cons a b => simp
  k_dflt (refine' nags_spec (ps := #[]) (rows := pg.map fun r => r.2.2) ?k1 ?k2 ?k3 ?k4 ?k5 ?k6 ?k7 ?k8 hP1 (.inl rfl) ?kC ?kG m4 hr hlenR ?kr0 ?ksz htab ?_; (case k1 => k_asm); (case k2 => k_asm); (case k3 => k_asm); (case k4 => k_asm); (case k5 => k_asm); (case k6 => first | exact rfl | assumption); (case k7 => walk_at "law room"); (case k8 => walk_at "law room"); (case kC => assumption))
  case kG =>
    exact AllBare.of_eq hg
  case kr0 =>
    intro r e
    rw [List.head?_map, hhd] at e
    cases e
    rfl
  case ksz =>
    intro x hx
    obtain ⟨r, hr2, rfl⟩ := List.mem_map.mp hx
    exact (hst r hr2).1
  intro r3 led3 h3 g3 tk3 F3 N3 s3 gt3 hG3 D3
  (try dsimp only)
  (try k_fold)
  k_steps
  refine unpark ?_
  have hpd3 : DatAll led3 pvs (pg.map prD) := DatAll.mono (fun p hp => s3 p (offP_sub p hp) (offP_ne p hp)) hpdO
  k_dflt (refine' told_spec (pg := pg) ?k1 ?k2 ?k3 ?k4 ?k5 ?k6 ?k7 ?k8 (s3 _ m2 (hne _ _ m2 (fun q => by cases q))) hc (s3 _ m3 (hne _ _ m3 (fun q => by cases q))) hpd3 (s3 _ m4 (hne _ _ m4 (fun q => by cases q))) hr htab hhd hok hlen ?_; (case k1 => k_asm); (case k2 => k_asm); (case k3 => k_asm); (case k4 => k_asm); (case k5 => k_asm); (case k6 => first | exact rfl | assumption); (case k7 => walk_at "law room"); (case k8 => walk_at "law room"))
  intro r5 led5 h5 tk5 F5 N5 s5 D5
  (try dsimp only)
  (try k_fold)
  have hg5 : GrownAt 123 h5 := by
    obtain ⟨ps5, hp5⟩ := gt3
    exact GrownAt.of N5 (s5 _ hp5)
  have D35 := DatIn.mono s5 D3
  rw [plain02 htab.1 hok hhd] at D35
  have hkq := toldV_ok htab.1 hok (fun r hr => (hst r hr).2)
  generalize toldV tab pg = dv at D35 D5 hkq
  k_steps
  refine' eq_dat (d := .list dv) (d' := .list dv) ?eN ?eA ?eB hkq hkq ?eu ?_
  case eN => exact N5
  case eA => exact D35
  case eB => exact D5
  case eu => walk_at "law room"
  rw [@decide_eq_true _ (Classical.propDecidable _) rfl]
  exact ⟨rfl, F5.keep, rfl, hG3, hg5⟩)
end Mine
set_option maxRecDepth 100000 in
set_option maxHeartbeats 8000000 in
theorem PySem.Challenge.cw_sn0118_02_holds : PySem.Challenge.rw_sn0118_02.Holds := by
  exact Mine.top
