import PyProof.Rows.All
import Wide.All
import OpenK.AllK
import Wide.FinOn
import PySem.Challenge.RW_sn0118_01
open PySem PySem.W PyProof.Rows PySem.Spec PySem.Calls
set_option Elab.async false
set_option maxRecDepth 100000
set_option genInjectivity false
set_option genSizeOf false
set_option compiler.extract_closed false
namespace Mine
theorem A.tw10021039416362780631 : True := trivial
theorem A.tw10202860995296317453 : True := trivial
theorem A.tw10360141465679914172 : True := trivial
theorem A.tw10397425127279270359 : True := trivial
theorem A.tw1043431010513513991 : True := trivial
theorem A.tw10525145064990756788 : True := trivial
theorem A.tw10623492163851505980 : True := trivial
theorem A.tw10862360618332259451 : True := trivial
theorem A.tw11120391450859820794 : True := trivial
theorem A.tw11153857568920386817 : True := trivial
theorem A.tw11240591771992168052 : True := trivial
theorem A.tw11270721526486296795 : True := trivial
theorem A.tw11782766393690192119 : True := trivial
theorem A.tw11832268708022596914 : True := trivial
theorem A.tw11842705885066160862 : True := trivial
theorem A.tw12200482899170234306 : True := trivial
theorem A.tw12211653732536415464 : True := trivial
theorem A.tw12235902816281339647 : True := trivial
theorem A.tw12249154782579388875 : True := trivial
theorem A.tw12306416302495383327 : True := trivial
theorem A.tw12351562055525246170 : True := trivial
theorem A.tw12497510047100357672 : True := trivial
theorem A.tw12590405579434009150 : True := trivial
theorem A.tw12821605638087770355 : True := trivial
theorem A.tw12943351600140882041 : True := trivial
theorem A.tw13063777383608524679 : True := trivial
theorem A.tw1311372485265928699 : True := trivial
theorem A.tw13565346996315856338 : True := trivial
theorem A.tw13652015567696784153 : True := trivial
theorem A.tw13743908311821624229 : True := trivial
theorem A.tw13798812775331232473 : True := trivial
theorem A.tw13800049220798664325 : True := trivial
theorem A.tw13846311595897146476 : True := trivial
theorem A.tw13901490562181791689 : True := trivial
theorem A.tw13941243273370604029 : True := trivial
theorem A.tw13944786943020688460 : True := trivial
theorem A.tw13986006028418849661 : True := trivial
theorem A.tw14081273363843944449 : True := trivial
theorem A.tw14410150575481013492 : True := trivial
theorem A.tw14611287644896202037 : True := trivial
theorem A.tw14640073786475855054 : True := trivial
theorem A.tw15045594764332057067 : True := trivial
theorem A.tw15106685213089442317 : True := trivial
theorem A.tw15142699100243915316 : True := trivial
theorem A.tw15151754272333723087 : True := trivial
theorem A.tw15232271303890837422 : True := trivial
theorem A.tw15334364220653277015 : True := trivial
theorem A.tw15666455104928787398 : True := trivial
theorem A.tw15718948262226020145 : True := trivial
theorem A.tw15767455170045860819 : True := trivial
theorem A.tw15803059323492890596 : True := trivial
theorem A.tw15820644819769687525 : True := trivial
theorem A.tw15893384908987445517 : True := trivial
theorem A.tw16009809160280094434 : True := trivial
theorem A.tw16185400222075743487 : True := trivial
theorem A.tw16391232393626460807 : True := trivial
theorem A.tw16457305751429185707 : True := trivial
theorem A.tw16805892491256692878 : True := trivial
theorem A.tw16845677339596616797 : True := trivial
theorem A.tw17081493621715386561 : True := trivial
theorem A.tw17185615526893398427 : True := trivial
theorem A.tw17231388000189077470 : True := trivial
theorem A.tw17265793024436209032 : True := trivial
theorem A.tw17321946786577117554 : True := trivial
theorem A.tw17424345863993925839 : True := trivial
theorem A.tw17557972708600191574 : True := trivial
theorem A.tw18005550745875178585 : True := trivial
theorem A.tw18072665961378106095 : True := trivial
theorem A.tw18102334534514338727 : True := trivial
theorem A.tw18129448782544711847 : True := trivial
theorem A.tw18130948467109956673 : True := trivial
theorem A.tw18310837486667892382 : True := trivial
theorem A.tw18324720427601929890 : True := trivial
theorem A.tw2016455015085742388 : True := trivial
theorem A.tw2041301089039493187 : True := trivial
theorem A.tw2145587185378226586 : True := trivial
theorem A.tw2317631421645595598 : True := trivial
theorem A.tw261529181547533586 : True := trivial
theorem A.tw2619348551767789423 : True := trivial
theorem A.tw270732706397237368 : True := trivial
theorem A.tw2748813518545639301 : True := trivial
theorem A.tw282784265092047587 : True := trivial
theorem A.tw3097375979316279032 : True := trivial
theorem A.tw320719233094236848 : True := trivial
theorem A.tw3225541090127029038 : True := trivial
theorem A.tw3463253621172399337 : True := trivial
theorem A.tw3520101585507065111 : True := trivial
theorem A.tw3541578613078224825 : True := trivial
theorem A.tw3561405718836670831 : True := trivial
theorem A.tw3604287619575320300 : True := trivial
theorem A.tw3668347612366880290 : True := trivial
theorem A.tw3672720639955430909 : True := trivial
theorem A.tw3779954730972827617 : True := trivial
theorem A.tw3887939408106649945 : True := trivial
theorem A.tw3901768462942692084 : True := trivial
theorem A.tw4009059471814248442 : True := trivial
theorem A.tw4086698677121603571 : True := trivial
theorem A.tw413507915095358216 : True := trivial
theorem A.tw4560748696422708786 : True := trivial
theorem A.tw4694398569635553440 : True := trivial
theorem A.tw4698480349694128732 : True := trivial
theorem A.tw4769447964676285013 : True := trivial
theorem A.tw4845881443935673761 : True := trivial
theorem A.tw4851068541086966649 : True := trivial
theorem A.tw4933987541611185837 : True := trivial
theorem A.tw5063577495763476793 : True := trivial
theorem A.tw5084927619942805773 : True := trivial
theorem A.tw5592991894225488045 : True := trivial
theorem A.tw5614519740762299647 : True := trivial
theorem A.tw5646922470258286333 : True := trivial
theorem A.tw5648838977469288192 : True := trivial
theorem A.tw5717791897401875922 : True := trivial
theorem A.tw5909507863118191236 : True := trivial
theorem A.tw6054148583450679396 : True := trivial
theorem A.tw6099614033022913507 : True := trivial
theorem A.tw6116935520198603998 : True := trivial
theorem A.tw6197831156564302322 : True := trivial
theorem A.tw6371013250654783320 : True := trivial
theorem A.tw6401579719291748816 : True := trivial
theorem A.tw6499468740511960751 : True := trivial
theorem A.tw6669051648457815636 : True := trivial
theorem A.tw6683270313163635850 : True := trivial
theorem A.tw6699378863078117242 : True := trivial
theorem A.tw672884048919502786 : True := trivial
theorem A.tw6736632225956253418 : True := trivial
theorem A.tw6761852518884551561 : True := trivial
theorem A.tw6849152466612643847 : True := trivial
theorem A.tw6857708262347860588 : True := trivial
theorem A.tw6859982121285937244 : True := trivial
theorem A.tw6988297453264352631 : True := trivial
theorem A.tw7218625047367774376 : True := trivial
theorem A.tw7317773473285054138 : True := trivial
theorem A.tw7466347491083085377 : True := trivial
theorem A.tw7488790210862928811 : True := trivial
theorem A.tw7610494705046210059 : True := trivial
theorem A.tw7872350479427503936 : True := trivial
theorem A.tw7934867627965050574 : True := trivial
theorem A.tw800288260615561738 : True := trivial
theorem A.tw8321442917555062787 : True := trivial
theorem A.tw8346830044339109405 : True := trivial
theorem A.tw8404596279289937444 : True := trivial
theorem A.tw850267871183069548 : True := trivial
theorem A.tw8519229878729342897 : True := trivial
theorem A.tw8556327521946648191 : True := trivial
theorem A.tw855821209269619670 : True := trivial
theorem A.tw866788653764307316 : True := trivial
theorem A.tw8944927634293200873 : True := trivial
theorem A.tw8987717726944127092 : True := trivial
theorem A.tw9004470140057946426 : True := trivial
theorem A.tw908413226068163364 : True := trivial
theorem A.tw9108012516609672523 : True := trivial
theorem A.tw9188154737680886506 : True := trivial
theorem A.tw9330461196102357999 : True := trivial
theorem A.tw9341035674189962898 : True := trivial
theorem A.tw935492599192189830 : True := trivial
theorem A.tw9395108093613962055 : True := trivial
theorem A.tw948029687055606022 : True := trivial
theorem A.tw953347905778266761 : True := trivial
theorem A.tw9558167310509322084 : True := trivial
-- a first run of the head whose outcome is given up: behind it the walk keeps no fast copies of the head's own terms (they made the compiled file too large)
set_option maxRecDepth 100000 in
set_option Elab.async true in
set_option maxHeartbeats 8000000 in
theorem A : True := by
  first
  | (let rec hd : PySem.Challenge.rw_sn0118_01.Holds := ((by
       set_option Elab.async false in (w_on; o_law; k_head; (case hw => w_witness2))
       fail "enough" : PySem.Challenge.rw_sn0118_01.Holds) :)
     trivial)
  | trivial
-- waits for A
theorem A.waited : True := A
set_option maxRecDepth 100000 in
set_option maxHeartbeats 8000000 in
open_top A.hd for PySem.Challenge.rw_sn0118_01
end Mine
namespace Mine
theorem topOff : True := by w_top off; trivial
end Mine
namespace Mine
noncomputable def Park (P : Prop) : Prop := P
theorem park {P : Prop} (h : Park P) : P := h
theorem unpark {P : Prop} (h : P) : Park P := h
noncomputable abbrev tupO (vs : List Value) (n : Nat) : Obj := { cls := .type "tuple", data := .seq vs.toArray n }
section
variable {prog : Program} {w : World} {A : Around} {E : Value → Shared → Prop} {s : Shared} {h₀ : Heap} {L : Addr} {news : List (Addr × Obj)}
theorem tup_of (N : News h₀ L s.heap news) {a : Addr} {vs : List Value} {n : Nat} (hm : (a, tupO vs n) ∈ news) : IsTup s.heap a vs.toArray := ⟨_, N.get hm, rfl, n, rfl⟩
theorem lst_of (N : News h₀ L s.heap news) {a : Addr} {vs : List Value} {n : Nat} (hm : (a, listOf vs.toArray n) ∈ news) : s.heap.IsList a vs.toArray := ⟨_, N.get hm, rfl, n, rfl⟩
/-- the length of a tuple of ints on the ledger -/
theorem len_tupI {a : Addr} {vs : List Value} {ns : List Int} {n : Nat} {Q : Value → Shared → Prop} (N : News h₀ L s.heap news) (hm : (a, tupO vs n) ∈ news) (hi : IntsAre vs ns) (hz : ns.length < 2 ^ 62)
    (h : Q (.int ns.length (s.toks + 1)) { s with toks := s.toks + 1 + 1 }) : wpAny (model prog w) A (call (.builtin "len") [.ref a]) Q E s := by
  have e : vs.toArray.size = ns.length := by rw [List.size_toArray, hi.length]
  refine len_tuple (tup_of N hm) (by rw [e]; omega) ?_
  rw [e]; exact h
/-- an item of a tuple of ints on the ledger, at an index that lies in it -/
theorem item_tupI {value slice : Expr} {a : Addr} {vs : List Value} {ns : List Int} {n : Nat} {k : Int} {u : Tok} {Q : Value → Shared → Prop} (N : News h₀ L s.heap news) (hm : (a, tupO vs n) ∈ news) (hi : IntsAre vs ns) (hz : ns.length < 2 ^ 62)
    (h0 : 0 ≤ k) (h1 : k < ns.length) (h : ∀ t, Q (.int (ns.getD k.toNat 0) t) s)
    (hs : subscripted slice false (.ref a) (.int k u) = operate [.ref a, .int k u] (getItem (.ref a) (.int k u)) := by with_unfolding_all rfl) :
    wpAny (model prog w) A (subscriptTail value slice (.ref a) (.int k u)) Q E s := by
  have hk : k.toNat < ns.length := by omega
  obtain ⟨t, ht⟩ := hi.get k.toNat (ns[k.toNat]) (List.getElem?_eq_getElem hk)
  have e : ns.getD k.toNat 0 = ns[k.toNat] := by rw [List.getD_eq_getElem?_getD, List.getElem?_eq_getElem hk]; rfl
  have hl := hi.length
  refine item_tupleT (tup_of N hm) (by omega) (by omega) (j := k.toNat) ?_ ht (by rw [← e]; exact h t) hs
  unfold seqIndex?
  rw [hl]
  (repeat' split) <;> first | rfl | omega | (simp_all; done) | (simp_all; omega)
end
theorem intsDat {news : List (Addr × Obj)} : ∀ {vs : List Value} {ns : List Int}, IntsAre vs ns → DatAll news vs (ns.map Dat.int)
  | _, _, .nil => .nil
  | _, _, .cons n t r => .cons (.int n t) (intsDat r)
theorem mapInt_inj : ∀ {xs ys : List Int}, xs.map Dat.int = ys.map Dat.int → xs = ys
  | [], [], _ => rfl
  | [], _ :: _, h => by cases h
  | _ :: _, [], h => by cases h
  | x :: xs, y :: ys, h => by
    simp only [List.map_cons, List.cons.injEq, Dat.int.injEq] at h
    rw [h.1, mapInt_inj h.2]
section
variable {prog : Program} {w : World} {A : Around} {E : Value → Shared → Prop} {s : Shared} {h₀ : Heap} {L : Addr} {news : List (Addr × Obj)}
open Classical in
/-- == of two data on the ledger -/
theorem eq_dat {v v' : Value} {d d' : Dat} {Q : Value → Shared → Prop} (N : News h₀ L s.heap news) (Da : DatIn news v d) (Db : DatIn news v' d') (ha : kqdOk 8 d = true) (hb : kqdOk 8 d' = true) (hu : A.units + 64 < cLine)
    (h : Q (.bool (decide (d = d'))) s) : wpAny (model prog w) A (compareOp .Eq v v') Q E s := by
  obtain ⟨as, ra⟩ := kqd_in N 8 Da ha
  obtain ⟨bs, rb⟩ := kqd_in N 8 Db hb
  have la := kqd_lay 8 d ha
  have lb := kqd_lay 8 d' hb
  have e : PyData.eqv (kqdP d) (kqdP d') = decide (d = d') := by
    have q := kqd_eqv 8 d d' 8 ha hb
    by_cases hq : d = d'
    · rw [decide_eq_true hq]; exact q.mpr hq
    · rw [decide_eq_false hq]; exact Bool.eq_false_iff.mpr fun x => hq (q.mp x)
  refine eq_dataH ra rb ?_ ?_ hu (by rw [e]; exact h)
  · unfold SeqAt.shaped; rw [la.1, Bool.true_and]; exact decide_eq_true (Nat.le_trans la.2 (by decide))
  · unfold SeqAt.shaped; rw [lb.1, Bool.true_and]; exact decide_eq_true (Nat.le_trans lb.2 (by decide))
open Classical in
theorem ne_dat {v v' : Value} {d d' : Dat} {Q : Value → Shared → Prop} (N : News h₀ L s.heap news) (Da : DatIn news v d) (Db : DatIn news v' d') (ha : kqdOk 8 d = true) (hb : kqdOk 8 d' = true) (hu : A.units + 64 < cLine)
    (h : Q (.bool (!decide (d = d'))) s) : wpAny (model prog w) A (compareOp .NotEq v v') Q E s := by
  obtain ⟨as, ra⟩ := kqd_in N 8 Da ha
  obtain ⟨bs, rb⟩ := kqd_in N 8 Db hb
  have la := kqd_lay 8 d ha
  have lb := kqd_lay 8 d' hb
  have e : PyData.eqv (kqdP d) (kqdP d') = decide (d = d') := by
    have q := kqd_eqv 8 d d' 8 ha hb
    by_cases hq : d = d'
    · rw [decide_eq_true hq]; exact q.mpr hq
    · rw [decide_eq_false hq]; exact Bool.eq_false_iff.mpr fun x => hq (q.mp x)
  refine ne_dataH ra rb ?_ ?_ hu (by rw [e]; exact h)
  · unfold SeqAt.shaped; rw [la.1, Bool.true_and]; exact decide_eq_true (Nat.le_trans la.2 (by decide))
  · unfold SeqAt.shaped; rw [lb.1, Bool.true_and]; exact decide_eq_true (Nat.le_trans lb.2 (by decide))
theorem norm_ok (cnt : List Int) (b : Int) : kqdOk 8 (.tuple [.tuple (cnt.map .int), .int b]) = true := by simp [kqdOk]
theorem eq_norm {t1 t2 t1' t2' : Addr} {cvs cvs' : List Value} {cnt cnt' : List Int} {b b' : Int} {r r' : Tok} {e1 e2 e1' e2' : Nat} {Q : Value → Shared → Prop} (N : News h₀ L s.heap news)
    (h1 : (t1, tupO [.ref t2, .int b r] e1) ∈ news) (h2 : (t2, tupO cvs e2) ∈ news) (hc : IntsAre cvs cnt) (h1' : (t1', tupO [.ref t2', .int b' r'] e1') ∈ news) (h2' : (t2', tupO cvs' e2') ∈ news) (hc' : IntsAre cvs' cnt')
    (hu : A.units + 64 < cLine) (h : Q (.bool (decide (cnt = cnt' ∧ b = b'))) s) : wpAny (model prog w) A (compareOp .Eq (.ref t1) (.ref t1')) Q E s := by
  refine eq_dat N (.tuple h1 (.cons (.tuple h2 (intsDat hc)) (.cons (.int b r) .nil))) (.tuple h1' (.cons (.tuple h2' (intsDat hc')) (.cons (.int b' r') .nil))) (norm_ok _ _) (norm_ok _ _) hu ?_
  have e : (Dat.tuple [.tuple (cnt.map .int), .int b] = Dat.tuple [.tuple (cnt'.map .int), .int b']) ↔ (cnt = cnt' ∧ b = b') := by
    simp only [Dat.tuple.injEq, List.cons.injEq, Dat.int.injEq, and_true]
    exact ⟨fun q => ⟨mapInt_inj q.1, q.2⟩, fun q => ⟨by rw [q.1], q.2⟩⟩
  have e2 : @decide _ (Classical.propDecidable (Dat.tuple [.tuple (cnt.map .int), .int b] = Dat.tuple [.tuple (cnt'.map .int), .int b'])) = decide (cnt = cnt' ∧ b = b') := by
    by_cases q : cnt = cnt' ∧ b = b'
    · rw [decide_eq_true q]; exact @decide_eq_true _ (Classical.propDecidable _) (e.mpr q)
    · rw [decide_eq_false q]; exact @decide_eq_false _ (Classical.propDecidable _) fun x => q (e.mp x)
  rw [e2]; exact h
end
theorem getD_bd {cnt : List Int} {c : Int} (h : ∀ x ∈ cnt, 0 ≤ x ∧ x ≤ c) (hc : 0 ≤ c) (k : Nat) : 0 ≤ cnt.getD k 0 ∧ cnt.getD k 0 ≤ c := by
  rw [List.getD_eq_getElem?_getD]
  cases e : cnt[k]? with
  | none => exact ⟨Int.le_refl _, hc⟩
  | some x => exact h x (List.mem_of_getElem? e)
theorem mem_rangeKs {a k : Int} {n : Nat} : k ∈ rangeKs a n ↔ a ≤ k ∧ k < a + n := by
  simp only [rangeKs, List.mem_map, List.mem_range]
  constructor
  · rintro ⟨i, h1, h2⟩; omega
  · rintro ⟨h1, h2⟩; exact ⟨(k - a).toNat, by omega, by omega⟩
noncomputable def ilSum (cnt : List Int) (ts : Int) (pre : List Int) : Int := (pre.map fun i => i.fdiv ts * cnt.getD i.toNat 0).sum
noncomputable abbrev level (cnt : List Int) (b nt ts : Int) : Int := b + ts * (ilSum cnt ts (rangeKs ts (cnt.length - ts).toNat) + nt)
noncomputable abbrev longV (cnt : List Int) (b : Int) : Int := max ((cnt.length : Int) - 1) b
noncomputable abbrev topV (cnt : List Int) (b : Int) (cnt' : List Int) (b' : Int) : Int := max (longV cnt b) (longV cnt' b')
noncomputable abbrev simpV (cnt cnt' : List Int) : Prop := (cnt.length : Int) ≤ 1 ∧ (cnt'.length : Int) ≤ 1
noncomputable def lessV (cnt : List Int) (b n nt : Int) (cnt' : List Int) (b' n' nt' : Int) : Bool :=
  if n ≥ n' then false else if simpV cnt cnt' then decide (nt ≤ nt') else (rangeKs 2 (topV cnt b cnt' b').toNat).all fun ts => decide (level cnt b nt ts < level cnt' b' nt' ts)
section
variable {cnt cnt' : List Int} {b n nt b' n' nt' : Int}
theorem lessV_ge (h : n ≥ n') : false = lessV cnt b n nt cnt' b' n' nt' := by unfold lessV; rw [if_pos h]
theorem lessV_simp (h : ¬ n ≥ n') (hs : simpV cnt cnt') : decide (nt ≤ nt') = lessV cnt b n nt cnt' b' n' nt' := by unfold lessV; rw [if_neg h, if_pos hs]
theorem lessV_no {k : Int} (h : ¬ n ≥ n') (hs : ¬ simpV cnt cnt') (h2 : 2 ≤ k) (hk : k ≤ topV cnt b cnt' b' + 1) (hl : level cnt b nt k ≥ level cnt' b' nt' k) : false = lessV cnt b n nt cnt' b' n' nt' := by
  unfold lessV
  rw [if_neg h, if_neg hs]
  symm
  rw [List.all_eq_false]
  exact ⟨k, mem_rangeKs.mpr ⟨h2, by omega⟩, by simpa using hl⟩
theorem lessV_yes (h : ¬ n ≥ n') (hs : ¬ simpV cnt cnt') (hl : ∀ k, 2 ≤ k → k ≤ topV cnt b cnt' b' + 1 → level cnt b nt k < level cnt' b' nt' k) : true = lessV cnt b n nt cnt' b' n' nt' := by
  unfold lessV
  rw [if_neg h, if_neg hs]
  symm
  rw [List.all_eq_true]
  intro k hk
  have q := mem_rangeKs.mp hk
  exact decide_eq_true (hl k q.1 (by omega))
end
noncomputable def triple (cnt : List Int) (b nt : Int) (cnt' : List Int) (b' nt' : Int) (ts : Int) : Dat := .tuple [.int ts, .int (level cnt b nt ts), .int (level cnt' b' nt' ts)]
noncomputable def neW (cnt : List Int) (b nt : Int) (cnt' : List Int) (b' nt' : Int) (pre : List Int) : List Int := pre.filter fun ts => decide (level cnt b nt ts ≠ level cnt' b' nt' ts)
noncomputable def nlW (cnt : List Int) (b nt : Int) (cnt' : List Int) (b' nt' : Int) (pre : List Int) : List Int := pre.filter fun ts => decide (level cnt b nt ts ≥ level cnt' b' nt' ts)
section
variable {cnt cnt' : List Int} {b nt b' nt' : Int} {pre : List Int} {k : Int}
theorem neW_yes (h : level cnt b nt k ≠ level cnt' b' nt' k) : neW cnt b nt cnt' b' nt' (pre ++ [k]) = neW cnt b nt cnt' b' nt' pre ++ [k] := by
  simp only [neW, List.filter_append, List.filter_cons, List.filter_nil, decide_eq_true h, if_true]
theorem neW_no (h : level cnt b nt k = level cnt' b' nt' k) : neW cnt b nt cnt' b' nt' (pre ++ [k]) = neW cnt b nt cnt' b' nt' pre := by
  have h' : ¬ (level cnt b nt k ≠ level cnt' b' nt' k) := fun q => q h
  simp only [neW, List.filter_append, List.filter_cons, List.filter_nil, decide_eq_false h', Bool.false_eq_true, if_false, List.append_nil]
theorem nlW_yes (h : level cnt b nt k ≥ level cnt' b' nt' k) : nlW cnt b nt cnt' b' nt' (pre ++ [k]) = nlW cnt b nt cnt' b' nt' pre ++ [k] := by
  simp only [nlW, List.filter_append, List.filter_cons, List.filter_nil, decide_eq_true h, if_true]
theorem nlW_no (h : level cnt b nt k < level cnt' b' nt' k) : nlW cnt b nt cnt' b' nt' (pre ++ [k]) = nlW cnt b nt cnt' b' nt' pre := by
  have h' : ¬ (level cnt b nt k ≥ level cnt' b' nt' k) := Int.not_le.mpr h
  simp only [nlW, List.filter_append, List.filter_cons, List.filter_nil, decide_eq_false h', Bool.false_eq_true, if_false, List.append_nil]
end
section
variable {cnt cnt' : List Int} {b nt b' nt' : Int} {pre : List Int} {k : Int}
theorem ne_start : ([] : List Dat) = (neW cnt b nt cnt' b' nt' []).map (triple cnt b nt cnt' b' nt') ∧ ([] : List Dat).length ≤ ([] : List Int).length := ⟨rfl, Nat.le_refl _⟩
theorem ne_stepY (hl : ((neW cnt b nt cnt' b' nt' pre).map (triple cnt b nt cnt' b' nt')).length ≤ pre.length) (h : ¬ level cnt b nt k = level cnt' b' nt' k) :
    (neW cnt b nt cnt' b' nt' pre).map (triple cnt b nt cnt' b' nt') ++ [Dat.tuple [.int k, .int (level cnt b nt k), .int (level cnt' b' nt' k)]] = (neW cnt b nt cnt' b' nt' (pre ++ [k])).map (triple cnt b nt cnt' b' nt') ∧
    ((neW cnt b nt cnt' b' nt' pre).map (triple cnt b nt cnt' b' nt') ++ [Dat.tuple [.int k, .int (level cnt b nt k), .int (level cnt' b' nt' k)]]).length ≤ (pre ++ [k]).length := by
  rw [neW_yes h, List.map_append]
  exact ⟨rfl, by simpa using hl⟩
theorem ne_stepN (hl : ((neW cnt b nt cnt' b' nt' pre).map (triple cnt b nt cnt' b' nt')).length ≤ pre.length) (h : level cnt b nt k = level cnt' b' nt' k) :
    (neW cnt b nt cnt' b' nt' pre).map (triple cnt b nt cnt' b' nt') = (neW cnt b nt cnt' b' nt' (pre ++ [k])).map (triple cnt b nt cnt' b' nt') ∧
    ((neW cnt b nt cnt' b' nt' pre).map (triple cnt b nt cnt' b' nt')).length ≤ (pre ++ [k]).length := by
  rw [neW_no h]
  exact ⟨rfl, by simp only [List.length_append, List.length_cons, List.length_nil]; omega⟩
theorem nl_start : ([] : List Dat) = (nlW cnt b nt cnt' b' nt' []).map (triple cnt b nt cnt' b' nt') ∧ ([] : List Dat).length ≤ ([] : List Int).length := ⟨rfl, Nat.le_refl _⟩
theorem nl_stepY (hl : ((nlW cnt b nt cnt' b' nt' pre).map (triple cnt b nt cnt' b' nt')).length ≤ pre.length) (h : level cnt b nt k ≥ level cnt' b' nt' k) :
    (nlW cnt b nt cnt' b' nt' pre).map (triple cnt b nt cnt' b' nt') ++ [Dat.tuple [.int k, .int (level cnt b nt k), .int (level cnt' b' nt' k)]] = (nlW cnt b nt cnt' b' nt' (pre ++ [k])).map (triple cnt b nt cnt' b' nt') ∧
    ((nlW cnt b nt cnt' b' nt' pre).map (triple cnt b nt cnt' b' nt') ++ [Dat.tuple [.int k, .int (level cnt b nt k), .int (level cnt' b' nt' k)]]).length ≤ (pre ++ [k]).length := by
  rw [nlW_yes h, List.map_append]
  exact ⟨rfl, by simpa using hl⟩
theorem nl_stepN (hl : ((nlW cnt b nt cnt' b' nt' pre).map (triple cnt b nt cnt' b' nt')).length ≤ pre.length) (h : ¬ level cnt' b' nt' k ≤ level cnt b nt k) :
    (nlW cnt b nt cnt' b' nt' pre).map (triple cnt b nt cnt' b' nt') = (nlW cnt b nt cnt' b' nt' (pre ++ [k])).map (triple cnt b nt cnt' b' nt') ∧
    ((nlW cnt b nt cnt' b' nt' pre).map (triple cnt b nt cnt' b' nt')).length ≤ (pre ++ [k]).length := by
  rw [nlW_no (Int.not_le.mp h)]
  exact ⟨rfl, by simp only [List.length_append, List.length_cons, List.length_nil]; omega⟩
end
theorem mulOk_getD {x : Int} {cnt : List Int} {k : Nat} (h : ∀ y ∈ cnt, 0 ≤ y ∧ y ≤ 64) : PySem.IntMulOk x (cnt.getD k 0) :=
  have q := getD_bd (c := 64) h (by decide) k
  PySem.IntMulOk.of_right (PySem.intBits_le_64 (by omega) (by omega))
section
variable {M : Model} {A : Around} {E : Value → Shared → Prop} {s : Shared} {env : Env} {Q : Flow → Shared → Prop}
/-- an if whose test ends in one known truth value -/
theorem join_if {test : Expr} {body orelse : List Stmt} {pos : Pos} (b0 : Bool) (h1 : wpAny M A (isTrue test env (eval test env)) (fun b s' => Park (b = b0 ∧ ∃ tk, s' = { s with toks := tk })) E s)
    (h2 : ∀ tk, wpAny M A (execs (if b0 = true then body else orelse) env) Q E { s with toks := tk }) : wpAny M A (exec (.If test body orelse pos) env) Q E s := by
  refine wpAny_If (wpAny_mono h1 (fun b s' q => ?_) fun _ _ x => x)
  obtain ⟨rfl, tk, rfl⟩ := q
  have := h2 tk
  cases b <;> simpa using this
end
theorem room1 {a b c n : Nat} (h : a + b < n) (hc : c ≤ b) : a + c < n := Nat.lt_of_le_of_lt (Nat.add_le_add_left hc a) h
theorem room2 {a b c d n : Nat} (h : a + b < n) (hc : c + d ≤ b) : a + c + d < n := by rw [Nat.add_assoc]; exact room1 h hc
theorem room0 {a b n : Nat} (h : a + b < n) : a < n := Nat.lt_of_le_of_lt (Nat.le_add_right a b) h
theorem sub_step {n i : Nat} (h : i + 1 < n) : n - 1 - i = (n - 1 - (i + 1)) + 1 := by omega
theorem toNat_sub1 {n : Nat} (h : 1 ≤ n) : (((n : Int) - 1).toNat : Int) = ((n - 1 : Nat) : Int) := by omega
theorem ite_max {a b : Int} : (if b > a then b else a) = max a b := by split <;> omega
section
variable {M : Model} {A : Around} {E : Value → Shared → Prop} {s : Shared} {env : Env} {Q : Flow → Shared → Prop}
theorem join_next {stmt : Stmt} {g : Heap} {L : Addr} {m : Str → Option Value} (_F : Fr g L s.heap m) (P : Heap → Addr → Shared → Shared → Prop) (h1 : wpAny M A (exec stmt env) (fun f s' => Park (f = .next ∧ P g L s s')) E s) (h2 : ∀ s', P g L s s' → Q .next s') : wpAny M A (exec stmt env) Q E s :=
  wpAny_mono h1 (fun f s' q => by obtain ⟨rfl, q⟩ := q; exact h2 s' q) fun _ _ x => x
end
section
variable {M : Model} {A : Around} {E : Value → Shared → Prop} {s : Shared} {Q : Value → Shared → Prop} {env : Env} {P : Flow → Shared → Prop}
theorem parkC (n : Nat) {as : List Value} (h : Park (wpAny M A (call (Value.ref n) as) Q E s)) : wpAny M A (call (Value.ref n) as) Q E s := h
theorem parkIfB {op : BoolOp} {es : List Expr} {p q : Pos} {x y : List Stmt} (h : Park (wpAny M A (exec (Stmt.If (Expr.BoolOp op es p) x y q) env) P E s)) : wpAny M A (exec (Stmt.If (Expr.BoolOp op es p) x y q) env) P E s := h
theorem parkIfN {n : Str} {p q : Pos} {x y : List Stmt} (h : Park (wpAny M A (exec (Stmt.If (Expr.Name n p) x y q) env) P E s)) : wpAny M A (exec (Stmt.If (Expr.Name n p) x y q) env) P E s := h
end
section
variable {M : Model} {A : Around} {E : Value → Shared → Prop} {s : Shared} {Q : Value → Shared → Prop} {R : Value × List Value → Shared → Prop}
theorem parkM (n : Str) {v : Value} {b : Sem Bool} (h : Park (wpAny M A (getMethod v n b) R E s)) : wpAny M A (getMethod v n b) R E s := h
theorem parkW (n : Nat) {p : Pos} {as : List Value} {bs : List (Bool × Sem Value)} {ks : List (Option Str × Sem Value)} (h : Park (wpAny M A (callWith p (Value.ref n) as bs ks) Q E s)) : wpAny M A (callWith p (Value.ref n) as bs ks) Q E s := h
end
section
variable {M : Model} {A : Around} {E : Value → Shared → Prop} {s : Shared} {Q : Value → Shared → Prop} {env : Env} {P : Flow → Shared → Prop}
theorem parkIfO {l r : Expr} {o : Operator} {os : List CmpOp} {es : List Expr} {p q u : Pos} {x y : List Stmt} (h : Park (wpAny M A (exec (Stmt.If (Expr.Compare (Expr.BinOp l o r p) os es q) x y u) env) P E s)) : wpAny M A (exec (Stmt.If (Expr.Compare (Expr.BinOp l o r p) os es q) x y u) env) P E s := h
theorem parkT {es : List Expr} {k : Nat} {p : Pos} {sl : Expr} {a : Addr} {i : Int} {t : Tok} (h : Park (wpAny M A (subscriptTail (Expr.Tuple es k p) sl (Value.ref a) (Value.int i t)) Q E s)) : wpAny M A (subscriptTail (Expr.Tuple es k p) sl (Value.ref a) (Value.int i t)) Q E s := h
end
end Mine
namespace Mine
/-- what holds between the turns of a for: the ledger and the names by a state c of a type of one's own -/
noncomputable def KJ {σ : Type} (Led : σ → List (Addr × Obj)) (ps : σ → List (Str × Value)) (stored : List Str) (P : Nat → σ → Prop) (x : Str) (m₀ : Str → Option Value) (i : Nat) (m : Str → Option Value) (nx : List (Addr × Obj)) : Prop :=
  ∃ c : σ, nx = Led c ∧ P i c ∧ (∀ p ∈ ps c, m p.1 = some p.2) ∧ ∀ z, z ≠ x → (∀ p ∈ ps c, z ≠ p.1) → stored.contains z = false → m z = m₀ z
section
variable {prog : Program} {w : World} {A : Around} {E : Value → Shared → Prop} {s : Shared} {env : Env} {h₀ : Heap} {x : Str} {body : List Stmt} {Q : Flow → Shared → Prop}
theorem kj_end2 {σ : Type} {Led : σ → List (Addr × Obj)} {ps : σ → List (Str × Value)} {stored : List Str} {P : Nat → σ → Prop} {m₀ : Str → Option Value} {i : Nat} (c : σ) {L : Addr} {m' : Str → Option Value} {own news' : List (Addr × Obj)} {s₁ : Shared} {h' : Heap} {tk : Nat}
    (F : Fr h₀ L h' m') (N : News h₀ L h' news') (hk : ∀ p ∈ ps c, m' p.1 = some p.2) (hp : P i c) (hn : ∀ p ∈ Led c, p ∈ news') (ho : ∀ p ∈ own, p ∈ news') (hoff : OwnOff own ((Led c).map (·.1)))
    (hr : ∀ z, z ≠ x → (∀ p ∈ ps c, z ≠ p.1) → stored.contains z = false → m' z = m₀ z) : InvEndG h₀ L (KJ Led ps stored P x m₀ i) own s₁ { s₁ with heap := h', toks := tk } :=
  InvEndG.intro F N ⟨c, rfl, hp, hk, hr⟩ hoff hn ho
theorem kj_str {σ : Type} {tx : Str} {t : Tok} {m₀ : Str → Option Value} {news : List (Addr × Obj)} (Led : σ → List (Addr × Obj)) (ps : σ → List (Str × Value)) (stored : List Str) (P : Nat → σ → Prop) (c₀ : σ)
    (hh : A.handled = none) (F : Fr h₀ env.locals s.heap m₀) (N : News h₀ env.locals s.heap news) (hn : ∀ p ∈ Led c₀, p ∈ news) (hk : ∀ p ∈ ps c₀, m₀ p.1 = some p.2) (hp : P 0 c₀)
    (turn : ∀ (c : σ) (i cp : Nat) u (mu : Str → Option Value) h tk own, tx.cps[i]? = some cp → OwnOff own ((Led c).map (·.1)) → P i c →
      Fr h₀ env.locals h (fun y => if y = x then some (.str ⟨#[cp]⟩ u) else kstB (fun z => if stored.contains z then mu z else m₀ z) (ps c) y) → News h₀ env.locals h (Led c ++ own) →
      wpAny (model prog w) A (execs body env) (InvPostG h₀ env.locals (KJ Led ps stored P x m₀ (i + 1)) own { s with heap := h, toks := tk } Q) E { s with heap := h, toks := tk })
    (done : ∀ (c : σ) (mu : Str → Option Value) h tk, P tx.cps.size c → Fr h₀ env.locals h (fun y => if y = x then mu y else kstB (fun z => if stored.contains z then mu z else m₀ z) (ps c) y) → News h₀ env.locals h (Led c) → Q .next { s with heap := h, toks := tk }) :
    wpAny (model prog w) A (pyIter (.str tx t)) (fun it s₂ => LoopAtV prog w A h₀ env x body Q E it s₂) E s := by
  have go : ∀ (o : Obj) (St : Nat → Heap → Prop), Walks prog w A s.heap.objs.size [s.heap.objs.size] [s.heap.objs.size] tx.cps.size (SignAt tx) St → (∀ i h, St i h → ∃ o', h.get? s.heap.objs.size = some o') → St 0 (s.heap.push o) →
      LoopAtV prog w A h₀ env x body Q E (.ref s.heap.objs.size) { s with heap := s.heap.push o } := by
    intro o St W hob hst
    refine kdr_loop (s := { s with heap := s.heap.push o }) (fun i m nx => KJ Led ps stored P x m₀ i m nx) W (fun _ h => h) (fun _ h => h) ?_ ?_ ?_ ?_ hst (F.push _) (fun p hp => ⟨Heap.get?_push_of_some _ (N p (hn p hp)).1, (N p (hn p hp)).2⟩) ⟨c₀, rfl, hp, hk, fun _ _ _ _ => rfl⟩ ?_ ?_
    · intro i h hi b hb
      rw [List.mem_singleton.mp hb]
      exact hob i h hi
    · intro hm
      exact absurd F.ns.lt ((List.mem_singleton.mp hm) ▸ Nat.lt_irrefl _)
    · intro b hb
      rw [List.mem_singleton.mp hb]
      exact next_is_new F
    · intro p hp hI
      exact absurd (Heap.lt_size (N p (hn p hp)).1) ((List.mem_singleton.mp hI) ▸ Nat.lt_irrefl _)
    · rintro i v m₁ nx h tk own hi ⟨cp, u, hcp, rfl⟩ hoff ⟨c, rfl, hP, h1, h2⟩ F₁ N₁
      exact turn c i cp u m₁ h tk own hcp hoff hP (kst_fr h1 h2 F₁) N₁
    · rintro m₁ nx h tk ⟨c, rfl, hP, h1, h2⟩ F₁ N₁
      exact done c m₁ h tk hP (kst_frOut h1 h2 F₁) N₁
  cases ha : tx.cps.all (· < 128)
  · exact wpAny_pyIter_wide ha (go _ _ (Walks.strWide hh _ tx t) (fun i h hi => let ⟨o, ho, _⟩ := hi; ⟨o, ho⟩) ⟨_, Heap.get?_push_size _ rfl, rfl, rfl⟩)
  · exact wpAny_pyIter_ascii ha (go _ _ (Walks.strAscii hh _ tx t) (fun i h hi => let ⟨o, ho, _⟩ := hi; ⟨o, ho⟩) ⟨_, Heap.get?_push_size _ rfl, rfl, rfl⟩)
theorem kj_list {σ : Type} {l : Addr} {vs : List Value} {nn : Nat} {m₀ : Str → Option Value} {news : List (Addr × Obj)} (Led : σ → List (Addr × Obj)) (ps : σ → List (Str × Value)) (stored : List Str) (P : Nat → σ → Prop) (c₀ : σ)
    (hh : A.handled = none) (hl : ∀ c, (l, listOf vs.toArray nn) ∈ Led c) (F : Fr h₀ env.locals s.heap m₀) (N : News h₀ env.locals s.heap news) (hn : ∀ p ∈ Led c₀, p ∈ news) (hk : ∀ p ∈ ps c₀, m₀ p.1 = some p.2) (hp : P 0 c₀)
    (turn : ∀ (c : σ) (i : Nat) (v : Value) (mu : Str → Option Value) h tk own, vs[i]? = some v → OwnOff own ((Led c).map (·.1)) → P i c →
      Fr h₀ env.locals h (fun y => if y = x then some v else kstB (fun z => if stored.contains z then mu z else m₀ z) (ps c) y) → News h₀ env.locals h (Led c ++ own) →
      wpAny (model prog w) A (execs body env) (InvPostG h₀ env.locals (KJ Led ps stored P x m₀ (i + 1)) own { s with heap := h, toks := tk } Q) E { s with heap := h, toks := tk })
    (done : ∀ (c : σ) (mu : Str → Option Value) h tk, P vs.length c → Fr h₀ env.locals h (fun y => if y = x then mu y else kstB (fun z => if stored.contains z then mu z else m₀ z) (ps c) y) → News h₀ env.locals h (Led c) → Q .next { s with heap := h, toks := tk }) :
    wpAny (model prog w) A (pyIter (.ref l)) (fun it s₂ => LoopAtV prog w A h₀ env x body Q E it s₂) E s := by
  refine kdl_iter (news := Led c₀) (fun i m nx => KJ Led ps stored P x m₀ i m nx) hh (hl c₀) F (fun p hp => N p (hn p hp)) ⟨c₀, rfl, hp, hk, fun _ _ _ _ => rfl⟩ ?_ ?_
  · rintro i v m₁ nx h tk own hv hoff _ ⟨c, rfl, hP, h1, h2⟩ F₁ N₁
    refine wpAny_mono (turn c i v m₁ h tk own hv hoff hP (kst_fr h1 h2 F₁) N₁) (fun f s₂ p => ?_) fun _ _ x => x
    have up : InvEndG h₀ env.locals (KJ Led ps stored P x m₀ (i + 1)) own { s with heap := h, toks := tk } s₂ →
        InvEndG h₀ env.locals (fun m' nx => (l, listOf vs.toArray nn) ∈ nx ∧ KJ Led ps stored P x m₀ (i + 1) m' nx) own { s with heap := h, toks := tk } s₂ := by
      rintro ⟨h', tk', m', news', nx', e', F', N', hn', ho', ha, c', rfl, r⟩
      exact ⟨h', tk', m', news', _, e', F', N', hn', ho', ha, hl c', c', rfl, r⟩
    cases f with
    | ret v => exact p
    | brk => exact p
    | next => exact up p
    | cont => exact up p
  · rintro m₁ nx h tk ⟨c, rfl, hP, h1, h2⟩ F₁ N₁
    exact done c m₁ h tk hP (kst_frOut h1 h2 F₁) N₁
theorem kj_range {σ : Type} {r : Addr} {a₀ b₀ : Int} {t₀ u₀ v₀ : Tok} {n : Nat} {m₀ : Str → Option Value} {news : List (Addr × Obj)} (Led : σ → List (Addr × Obj)) (ps : σ → List (Str × Value)) (stored : List Str) (P : Nat → σ → Prop) (c₀ : σ)
    (hh : A.handled = none) (hr : IsRange s.heap r a₀ b₀ 1 t₀ u₀ v₀) (hsmall : Builtin.Range.small a₀ b₀ 1 = true) (hsz : Builtin.Range.rangeSize a₀ b₀ 1 = (n : Int)) (F : Fr h₀ env.locals s.heap m₀) (N : News h₀ env.locals s.heap news) (hn : ∀ p ∈ Led c₀, p ∈ news) (hk : ∀ p ∈ ps c₀, m₀ p.1 = some p.2) (hp : P 0 c₀)
    (turn : ∀ (c : σ) (i : Nat) (k : Int) t (mu : Str → Option Value) h tk own, i < n → k = a₀ + (i : Int) → OwnOff own ((Led c).map (·.1)) → P i c →
      Fr h₀ env.locals h (fun y => if y = x then some (.int k t) else kstB (fun z => if stored.contains z then mu z else m₀ z) (ps c) y) → News h₀ env.locals h (Led c ++ own) →
      wpAny (model prog w) A (execs body env) (InvPostG h₀ env.locals (KJ Led ps stored P x m₀ (i + 1)) own { s with heap := h, toks := tk } Q) E { s with heap := h, toks := tk })
    (done : ∀ (c : σ) (mu : Str → Option Value) h tk, P n c → Fr h₀ env.locals h (fun y => if y = x then mu y else kstB (fun z => if stored.contains z then mu z else m₀ z) (ps c) y) → News h₀ env.locals h (Led c) → Q .next { s with heap := h, toks := tk }) :
    wpAny (model prog w) A (pyIter (.ref r)) (fun it s₂ => LoopAtV prog w A h₀ env x body Q E it s₂) E s := by
  refine wpAny_pyIter_range hr hsmall ?_
  have W : Walks prog w A s.heap.objs.size [s.heap.objs.size] [s.heap.objs.size] n (fun i v => i < n ∧ ∃ t, v = .int (a₀ + i * 1) t)
      (fun i h => IsRangeIter h s.heap.objs.size (a₀ + (i : Nat) * 1) ((n : Int) - (i : Nat)) 1) := (Walks.range hh _ a₀ 1 n).bound
  refine kdr_loop (fun i m nx => KJ Led ps stored P x m₀ i m nx) W (fun _ h => h) (fun _ h => h) ?_ ?_ ?_ ?_ (by show IsRangeIter _ _ _ _ _; rw [hsz]; simpa using Heap.get?_push_size _ rfl) (F.push _) (fun p hp => ⟨Heap.get?_push_of_some _ (N p (hn p hp)).1, (N p (hn p hp)).2⟩) ⟨c₀, rfl, hp, hk, fun _ _ _ _ => rfl⟩ ?_ ?_
  · intro i h hi b hb
    rw [List.mem_singleton.mp hb]
    exact ⟨_, hi⟩
  · intro hm
    exact absurd F.ns.lt ((List.mem_singleton.mp hm) ▸ Nat.lt_irrefl _)
  · intro b hb
    rw [List.mem_singleton.mp hb]
    exact next_is_new F
  · intro p hp hI
    exact absurd (Heap.lt_size (N p (hn p hp)).1) ((List.mem_singleton.mp hI) ▸ Nat.lt_irrefl _)
  · rintro i v m₁ nx h tk own hi ⟨_, t, rfl⟩ hoff ⟨c, rfl, hP, h1, h2⟩ F₁ N₁
    exact turn c i _ t m₁ h tk own hi (by omega) hoff hP (kst_fr h1 h2 F₁) N₁
  · rintro m₁ nx h tk ⟨c, rfl, hP, h1, h2⟩ F₁ N₁
    exact done c m₁ h tk hP (kst_frOut h1 h2 F₁) N₁
end
noncomputable def wsBump (cnt : List Int) (b : Int) : List Int :=
  let c := if b ≥ cnt.length then cnt ++ List.replicate (b - cnt.length + 1).toNat 0 else cnt
  c.set b.toNat (c.getD b.toNat 0 + 1)
noncomputable def wsFold : List Nat → List Int → Int → Int → Int → List Int × Int × Int × Int
  | [], cnt, b, n, nt => (cnt, b, n, nt)
  | c :: r, cnt, b, n, nt => if c = 32 then wsFold r cnt (b + 1) (n + 1) nt else if c = 9 then wsFold r (wsBump cnt b) 0 (n + 1) (nt + 1) else (cnt, b, n, nt)
noncomputable def wsOf (x : Str) : List Int × Int × Int × Int := wsFold x.cps.toList [] 0 0 0
structure IS where
  cl : Addr
  vs : List Value
  ep : Nat
  cnt : List Int
  b : Int
  n : Int
  nt : Int
  tb : Tok
  tn : Tok
  tt : Tok
structure PInit (raw : Str) (base : List (Addr × Obj)) (i : Nat) (c : IS) : Prop where
  lt : ∀ p ∈ base, p.1 < c.cl
  are : IntsAre c.vs c.cnt
  inv : wsOf raw = wsFold (raw.cps.toList.drop i) c.cnt c.b c.n c.nt
  le : i ≤ raw.cps.size
  hb : 0 ≤ c.b ∧ c.b ≤ i
  hn : 0 ≤ c.n ∧ c.n ≤ i
  ht : 0 ≤ c.nt ∧ c.nt ≤ i
  hl : c.cnt.length ≤ i
  hc : ∀ x ∈ c.cnt, 0 ≤ x ∧ x ≤ i
theorem chS (cp : Nat) : (({ cps := #[cp] } : Str) == Str.ofString " ") = decide (cp = 32) := by
  have e : Str.ofString " " = ⟨#[32]⟩ := by decide
  rw [e]
  by_cases h : cp = 32
  · subst h; decide
  · rw [decide_eq_false h]
    exact beq_eq_false_iff_ne.mpr fun q => h (by simpa using q)
theorem chT (cp : Nat) : (({ cps := #[cp] } : Str) == Str.ofString "\t") = decide (cp = 9) := by
  have e : Str.ofString "\t" = ⟨#[9]⟩ := by decide
  rw [e]
  by_cases h : cp = 9
  · subst h; decide
  · rw [decide_eq_false h]
    exact beq_eq_false_iff_ne.mpr fun q => h (by simpa using q)
theorem drop_at {raw : Str} {i cp : Nat} (h : raw.cps[i]? = some cp) : raw.cps.toList.drop i = cp :: raw.cps.toList.drop (i + 1) := by
  have hi : i < raw.cps.toList.length := by
    obtain ⟨q, _⟩ := Array.getElem?_eq_some_iff.mp h
    simpa using q
  rw [List.drop_eq_getElem_cons hi]
  congr 1
  have := (Array.getElem?_eq_some_iff.mp h).2
  simpa using this
theorem size_at {raw : Str} {i cp : Nat} (h : raw.cps[i]? = some cp) : i < raw.cps.size := (Array.getElem?_eq_some_iff.mp h).1
theorem rep_flat (k : Nat) : (List.replicate k [(0 : Int)]).flatten = List.replicate k 0 := by
  induction k with
  | zero => rfl
  | succ k ih => rw [List.replicate_succ, List.flatten_cons, ih]; rfl
section
variable {raw : Str} {bs : List (Addr × Obj)} {i cp : Nat} {cl d : Addr} {vs ws : List Value} {ep ep' : Nat} {cnt : List Int} {b n nt : Int} {tb tn tt tb' tn' tt' : Tok}
theorem pinit_S (h : PInit raw bs i ⟨cl, vs, ep, cnt, b, n, nt, tb, tn, tt⟩) (hcp : raw.cps[i]? = some cp) (h1 : (({ cps := #[cp] } : Str) == Str.ofString " ") = true) :
    PInit raw bs (i + 1) ⟨cl, vs, ep', cnt, b + 1, n + 1, nt, tb', tn', tt'⟩ := by
  obtain ⟨a1, a2, a3, a4, a5, a6, a7, a8, a9⟩ := h
  try dsimp only at *
  rw [chS] at h1
  have h2 := size_at hcp
  refine ⟨a1, a2, ?_, h2, ?_, ?_, ?_, ?_, fun x hx => ?_⟩
  · rw [a3, drop_at hcp, wsFold, if_pos (by simpa using h1)]
  all_goals try dsimp only
  all_goals try omega
  have := a9 x hx
  omega
theorem set_bd {xs : List Int} {k : Nat} {c : Int} (h : ∀ x ∈ xs, 0 ≤ x ∧ x ≤ c) (hc : 0 ≤ c) : ∀ x ∈ xs.set k (xs.getD k 0 + 1), 0 ≤ x ∧ x ≤ c + 1 := by
  intro x hx
  have q := getD_bd h hc k
  rcases List.mem_or_eq_of_mem_set hx with hx | rfl
  · have := h x hx; omega
  · omega
theorem pinit_T1 (h : PInit raw bs i ⟨cl, vs, ep, cnt, b, n, nt, tb, tn, tt⟩) (hcp : raw.cps[i]? = some cp) (h0 : (({ cps := #[cp] } : Str) == Str.ofString " ") = false) (h1 : (({ cps := #[cp] } : Str) == Str.ofString "\t") = true) (hb : (cnt.length : Int) ≤ b)
    (hI : IntsAre ws ((cnt ++ (List.replicate (b - cnt.length + 1).toNat [0]).flatten).set b.toNat ((cnt ++ (List.replicate (b - cnt.length + 1).toNat [0]).flatten).getD b.toNat 0 + 1))) (hd : ∀ p ∈ bs, p.1 < d) :
    PInit raw bs (i + 1) ⟨d, ws, ep', wsBump cnt b, 0, n + 1, nt + 1, tb', tn', tt'⟩ := by
  obtain ⟨a1, a2, a3, a4, a5, a6, a7, a8, a9⟩ := h
  try dsimp only at *
  rw [chS] at h0
  rw [chT] at h1
  rw [rep_flat] at hI
  have h2 := size_at hcp
  have e : wsBump cnt b = (cnt ++ List.replicate (b - cnt.length + 1).toNat 0).set b.toNat ((cnt ++ List.replicate (b - cnt.length + 1).toNat 0).getD b.toNat 0 + 1) := by unfold wsBump; rw [if_pos hb]
  refine ⟨hd, by rw [e]; exact hI, ?_, h2, ?_, ?_, ?_, ?_, ?_⟩
  · rw [a3, drop_at hcp, wsFold, if_neg (by simpa using h0), if_pos (by simpa using h1)]
  all_goals try dsimp only
  all_goals try omega
  · rw [e]; simp only [List.length_set, List.length_append, List.length_replicate]; omega
  · rw [e]
    have q := set_bd (xs := cnt ++ List.replicate (b - cnt.length + 1).toNat 0) (k := b.toNat) (c := i) (fun x hx => by
      rcases List.mem_append.mp hx with hx | hx
      · exact a9 x hx
      · rw [List.eq_of_mem_replicate hx]; omega) (by omega)
    intro x hx
    have := q x hx
    omega
theorem pinit_T2 (h : PInit raw bs i ⟨cl, vs, ep, cnt, b, n, nt, tb, tn, tt⟩) (hcp : raw.cps[i]? = some cp) (h0 : (({ cps := #[cp] } : Str) == Str.ofString " ") = false) (h1 : (({ cps := #[cp] } : Str) == Str.ofString "\t") = true) (hb : ¬ (cnt.length : Int) ≤ b)
    (hI : IntsAre ws (cnt.set b.toNat (cnt.getD b.toNat 0 + 1))) :
    PInit raw bs (i + 1) ⟨cl, ws, ep', wsBump cnt b, 0, n + 1, nt + 1, tb', tn', tt'⟩ := by
  obtain ⟨a1, a2, a3, a4, a5, a6, a7, a8, a9⟩ := h
  try dsimp only at *
  rw [chS] at h0
  rw [chT] at h1
  have h2 := size_at hcp
  have e : wsBump cnt b = cnt.set b.toNat (cnt.getD b.toNat 0 + 1) := by unfold wsBump; rw [if_neg hb]
  refine ⟨a1, by rw [e]; exact hI, ?_, h2, ?_, ?_, ?_, ?_, ?_⟩
  · rw [a3, drop_at hcp, wsFold, if_neg (by simpa using h0), if_pos (by simpa using h1)]
  all_goals try dsimp only
  all_goals try omega
  · rw [e]; simp only [List.length_set]; omega
  · rw [e]
    intro x hx
    have := set_bd (xs := cnt) (k := b.toNat) (c := i) a9 (by omega) x hx
    omega
theorem pinit_brk (h : PInit raw bs i ⟨cl, vs, ep, cnt, b, n, nt, tb, tn, tt⟩) (hcp : raw.cps[i]? = some cp) (h0 : (({ cps := #[cp] } : Str) == Str.ofString " ") = false) (h1 : (({ cps := #[cp] } : Str) == Str.ofString "\t") = false) :
    wsOf raw = (cnt, b, n, nt) := by
  have a3 := h.inv
  try dsimp only at a3
  rw [chS] at h0
  rw [chT] at h1
  rw [a3, drop_at hcp, wsFold, if_neg (by simpa using h0), if_neg (by simpa using h1)]
theorem pinit_done (h : PInit raw bs raw.cps.size ⟨cl, vs, ep, cnt, b, n, nt, tb, tn, tt⟩) : wsOf raw = (cnt, b, n, nt) := by
  have a3 := h.inv
  try dsimp only at a3
  rw [a3, List.drop_of_length_le (by simp)]
  rfl
end
theorem off_new {own bs : List (Addr × Obj)} {a d : Addr} {l : List Addr} (h : OwnOff own (a :: l)) (hlt : AllLt d (bs ++ own)) : OwnOff own (d :: l) := by
  intro p hp b hb
  rcases List.mem_cons.mp hb with rfl | hb
  · exact Nat.ne_of_lt (kst_ltOf hlt p (List.mem_append.mpr (.inr hp)))
  · exact h p hp b (.tail _ hb)
theorem off_same {own l : List (Addr × Obj)} {a : Addr} {o o' : Obj} (h : OwnOff own (((a, o) :: l).map (·.1))) : OwnOff own (((a, o') :: l).map (·.1)) := h
theorem lt_left {d : Addr} {bs own : List (Addr × Obj)} (h : AllLt d (bs ++ own)) : ∀ p ∈ bs, p.1 < d := fun p hp => kst_ltOf h p (List.mem_append.mpr (.inl hp))
section
variable {prog : Program} {w : World} {A : Around} {E : Value → Shared → Prop} {s : Shared} {h₀ : Heap} {L : Addr} {m : Str → Option Value} {news : List (Addr × Obj)}
theorem tupOf_I {l : Addr} {vs : List Value} {ns : List Int} {n : Nat} {Q : Value → Shared → Prop} (F : Fr h₀ L s.heap m) (N : News h₀ L s.heap news) (hm : (l, listOf vs.toArray n) ∈ news) (hi : IntsAre vs ns) (hz : ns.length ≤ 16384)
    (h : ∀ D h', Fr h₀ L h' m → News h₀ L h' ((D, tupO vs 0) :: news) → (∀ p ∈ news, p.1 < D) → Q (.ref D) { s with heap := h' }) : wpAny (model prog w) A (call (.type "tuple") [.ref l]) Q E s :=
  kde_tupleOf F N (lst_of N hm) (by rw [List.size_toArray, hi.length]; exact hz) (by simp) h
end
theorem led2 {h₀ h : Heap} {L : Addr} {q1 q2 : Addr × Obj} {base : List (Addr × Obj)} (N : News h₀ L h (q1 :: q2 :: base)) : ∃ b, b = base ∧ News h₀ L h (q1 :: b) := ⟨base, rfl, fun p hp => N p (by
  rcases List.mem_cons.mp hp with rfl | hp
  · exact .head _
  · exact .tail _ (.tail _ hp))⟩
end Mine
namespace Mine
/-- the table of inner codes of the def that holds the one generator expression: before its first run, and behind it -/
noncomputable def FmtTab (pos : Pos) (ps : Array Value) : Prop := ps = #[] ∨ ∃ c', ps = #[rawInt pos.line, rawInt pos.col, .ref c']
section
variable {M : Model} {A : Around} {E : Value → Shared → Prop} {s : Shared}
theorem genCode_any {env : Env} {c P : Addr} {ps : Array Value} {pos : Pos} {qualname : Str} {scope : Scope} {Q : Value → Shared → Prop} (hc : env.code = .ref c) (hok : s.heap.IsCode c P ps) (htab : s.heap.TableAt c P ps) (hps : FmtTab pos ps)
    (hQ : ∀ code h' tk ps', FmtTab pos ps' → Heap.ExtBut P s.heap h' → s.heap.objs.size ≤ h'.objs.size → h'.TableAt c P ps' → Q code { s with heap := h', toks := tk }) :
    wpAny M A (genexprCode env pos qualname scope) Q E s := by
  rcases hps with rfl | ⟨c', rfl⟩
  · exact wpAny_genexprCodeX hc hok htab rfl fun c' h' tk hx h1 h2 _ _ ht _ => hQ _ _ _ _ (.inr ⟨c', rfl⟩) hx (Nat.le_trans h1 (Nat.le_of_lt h2)) ht
  · obtain ⟨o, vs, file, tf, flags, tg, inF, text, tt, op, ho, hd, h11, h2, h7, h9, h10, hop, hpd, htr, hne⟩ := id hok
    unfold genexprCode codeAt
    rw [hc, if_neg (show ¬ ((Value.ref c == Value.none) = true) from Bool.false_ne_true)]
    refine wpAny_bind (wpAny_fieldsOf ho hd ?_)
    rw [h11]
    refine wpAny_bind (wpAny_fieldsOf hop hpd ?_)
    have e : codeAmong pos (#[rawInt pos.line, rawInt pos.col, Value.ref c'] : Array Value).toList = some (.ref c') := by simp [codeAmong, rawInt]
    rw [e]
    exact wpAny_pure (hQ _ _ _ _ (.inr ⟨c', rfl⟩) (fun _ _ _ e => e) (Nat.le_refl _) htab)
end
section
variable {prog : Program} {w : World} {A : Around} {E : Value → Shared → Prop} {s : Shared}
noncomputable abbrev strOf (i : Int) : Str := Str.ofString (toString i)
/-- str(tup[0]) in a generator's frame -/
theorem elt_str {scope : Scope} {cl : List (Str × Addr)} {C ta : Addr} {code : Value} {env : Env} {p1 p2 p3 p4 p5 : Pos} {m₂ mg mb : Str → Option Value} {k : Int} {tk : Tok} {rest : List Value} {kk : Nat}
    (hn : s.heap.Ns C m₂) (hm : m₂ "tup" = some (.ref ta)) (ht : IsTup s.heap ta (.int k tk :: rest).toArray) (hk : -1000 ≤ k ∧ k ≤ 1000)
    (hG : s.heap.Ns env.globals mg) (hg0 : mg "str" = none) (hB : s.heap.Ns builtinsNs mb) (hb : mb "str" = some (.type "str"))
    (hkind : scope.kind = .function) (hx1 : scope.names.lookup (Str.ofString "str") = some NameKind.globalImplicit) (hx2 : scope.names.lookup (Str.ofString "tup") = some NameKind.local) :
    wpAny (model prog w) A (eval (.Call (.Name "str" p1) [.Subscript (.Name "tup" p2) (.Constant (.int 0) kk p3) p4] [] p5) (genEnv scope cl C code builtinsNs env)) (fun y s₃ => (∃ t, y = .str (strOf k) t) ∧ Keeps s s₃) E s := by
  have hv1 : (genEnv scope cl C code builtinsNs env).kindOf "str" = some .globalImplicit := hx1
  have hv2 : (genEnv scope cl C code builtinsNs env).kindOf "tup" = some .local := hx2
  walk1
  refine Name_function_global hkind hv1 (loadGlobal_builtin (env := genEnv scope cl C code builtinsNs env) hG hg0 hB hb ?_)
  walk1
  walk1
  walk1
  refine wpAny_Name (wpAny_loadName_local hkind hv2 hn hm ?_)
  walk1
  refine item_tupleT ht (by decide) (by decide) (j := 0) (by simp [seqIndex?]) rfl ?_
  walk1
  refine P.str_of_int (shown (N := 2 ^ 1920) (by omega) (by omega) (Int.le_refl _)) ?_
  exact ⟨⟨_, rfl⟩, _, _, rfl, fun _ _ e => e⟩
inductive TupKs (news : List (Addr × Obj)) : List Value → List Int → Prop
  | nil : TupKs news [] []
  | cons {ta : Addr} {k : Int} {tk : Tok} {rest vs : List Value} {ks : List Int} {e : Nat} : (ta, tupO (.int k tk :: rest) e) ∈ news → TupKs news vs ks → TupKs news (.ref ta :: vs) (k :: ks)
theorem TupKs.length {news : List (Addr × Obj)} : ∀ {vs : List Value} {ks : List Int}, TupKs news vs ks → vs.length = ks.length
  | _, _, .nil => rfl
  | _, _, .cons _ r => by rw [List.length_cons, List.length_cons, r.length]
theorem TupKs.get {news : List (Addr × Obj)} : ∀ {vs : List Value} {ks : List Int}, TupKs news vs ks → ∀ i v, vs[i]? = some v → ∃ ta k tk rest e, v = .ref ta ∧ (ta, tupO (.int k tk :: rest) e) ∈ news ∧ ks.getD i 0 = k ∧ k ∈ ks
  | _, _, .nil, i, v, h => by simp at h
  | _, _, .cons (ta := ta) (k := k) (tk := tk) (rest := rest) (e := e) hm r, 0, v, h => by
    simp at h
    exact ⟨ta, k, tk, rest, e, h.symm, hm, by simp, .head _⟩
  | _, _, .cons hm r, i + 1, v, h => by
    obtain ⟨ta, k, tk, rest, e, h1, h2, h3, h4⟩ := r.get i v (by simpa using h)
    exact ⟨ta, k, tk, rest, e, h1, h2, by simpa using h3, .tail _ h4⟩
noncomputable def refsOf (vs : List Value) : List Addr := vs.filterMap fun v => match v with | .ref a => some a | _ => none
theorem mem_refs {a : Addr} {vs : List Value} (h : Value.ref a ∈ vs) : a ∈ refsOf vs := List.mem_filterMap.mpr ⟨_, h, rfl⟩
theorem refs_mem {a : Addr} {vs : List Value} (h : a ∈ refsOf vs) : Value.ref a ∈ vs := by
  obtain ⟨v, hv, e⟩ := List.mem_filterMap.mp h
  cases v <;> first | (cases e; exact hv) | cases e
/-- a generator of texts that stands unrun: it runs whatever has been laid beside it since -/
noncomputable def GenIn (prog : Program) (w : World) (A : Around) (h₀ : Heap) (L a : Addr) (ks : List Int) (ledX led : List (Addr × Obj)) (s : Shared) : Prop :=
  ∃ fp wr g St n P, WalksS prog w A.in4 a fp wr (GenOnlyQ g) n P St ∧ n = ks.length ∧ (∀ j v, P j v → ∃ t, v = .str (strOf (ks.getD j 0)) t) ∧ (∀ i s', St i s' → s'.TypeIs (.ref a) "generator") ∧ a ∈ fp ∧ (∀ b ∈ wr, L < b) ∧ (∀ b ∈ wr, ∀ p ∈ led, p.1 ≠ b) ∧
    ∀ h'' m'' tk'', Fr h₀ L h'' m'' → News h₀ L h'' ledX → St 0 { s with heap := h'', toks := tk'' } ∧ ∀ b ∈ fp, b < h''.objs.size
theorem lt_of_news {h₀ h : Heap} {L : Addr} {led : List (Addr × Obj)} (N : News h₀ L h led) {p : Addr × Obj} (hp : p ∈ led) : p.1 < h.objs.size := Heap.lt_size (N p hp).1
set_option maxHeartbeats 1000000 in
theorem genexp_fmt {env : Env} {scope : Scope} {p1 p2 p3 p4 p5 px pw pos : Pos} {kk : Nat} {h₀ : Heap} {L c P l bm : Addr} {ob : Obj} {m mg mb : Str → Option Value} {ps : Array Value} {news : List (Addr × Obj)} {vs : List Value} {ks : List Int} {nn : Nat} {wn : Str} {Q : Value → Shared → Prop}
    (F : Fr h₀ L s.heap m) (N : News h₀ L s.heap ((P, tabObj ps) :: news)) (hoff : ∀ p ∈ news, p.1 ≠ P) (C : CodeHd h₀ c P) (BM : BMod h₀ env.globals mg bm ob) (hB : h₀.Ns builtinsNs mb) (hlim : h₀.NoLimit)
    (hg0 : mg (Str.ofString "str") = none) (hb : mb (Str.ofString "str") = some (.type "str")) (hloc : env.locals = L) (hcode : env.code = .ref c)
    (hw : m wn = some (.ref l)) (hl : (l, listOf vs.toArray nn) ∈ news) (hD : TupKs news vs ks) (hks : ∀ k ∈ ks, -1000 ≤ k ∧ k ≤ 1000) (hps : FmtTab pos ps) (hG : AllBare s.gens) (hroom : A.depth < recursionLimit) (hh : A.handled = none)
    (hek : env.scope.kind = .function) (hew : env.kindOf wn = some .local) (hdn : (wn == ("__debug__" : Str)) = false)
    (hco : scope.isCoroutine = false) (hclos : closureFor scope env = pure []) (hcell : ∀ y ∈ scope.names, y.2 ≠ .cell) (h0 : scope.names.lookup (".0" : Str) = some NameKind.local) (hkind : scope.kind = .function)
    (hx1 : scope.names.lookup (Str.ofString "str") = some NameKind.globalImplicit) (hx2 : scope.names.lookup (Str.ofString "tup") = some NameKind.local)
    (h : ∀ a h' g' tk' ps' ledX, FmtTab pos ps' → AllBare g' → Fr h₀ L h' m → News h₀ L h' ((P, tabObj ps') :: ledX) → (∀ p ∈ news, p ∈ ledX) → (∀ p ∈ ledX, p.1 ≠ P) →
      GenIn prog w A h₀ L a ks ((P, tabObj ps') :: ledX) ((P, tabObj ps') :: news) { s with heap := h', gens := g', toks := tk' } → Q (.ref a) { s with heap := h', gens := g', toks := tk' })
    (hs : ∀ x, genFold (.Name wn pw) env x = pure x) :
    wpAny (model prog w) A (eval (.GeneratorExp (.Call (.Name (Str.ofString "str") p1) [.Subscript (.Name (Str.ofString "tup") p2) (.Constant (.int 0) kk p3) p4] [] p5) [⟨.Name (Str.ofString "tup") px, .Name wn pw, [], 0⟩] scope pos) env) Q E s := by
  have hP := N _ (.head _)
  have hPL : P ≠ L := hP.2.1
  have hTri : TriplesOk ps.toList := by
    rcases hps with rfl | ⟨c', rfl⟩
    · trivial
    · simp [TriplesOk, rawInt]
  have hTab : s.heap.TableAt c P ps := (C.keeps F.keep).tab hP.1
  have hCode : s.heap.IsCode c P ps := (C.keeps F.keep).code hP.1 hTri
  have hls : s.heap.IsList l vs.toArray := lst_of N (.tail _ hl)
  have hlt : l < s.heap.objs.size := lt_of_news N (.tail _ hl)
  have BMs := BM.keeps F.keep
  have hLlt : L < s.heap.objs.size := F.ns.lt
  have hPlt : P < s.heap.objs.size := lt_of_news N (.head _)
  refine wpAny_GeneratorExp_make hco hclos hcell h0 hkind hroom ?_ hs
  refine wpAny_Name (wpAny_loadName_local hek hew (hloc ▸ F.ns) hw ?_) hdn
  refine wpAny_pyIter_list hls ⟨(hlim.keeps F.keep).push _, genCode_any hcode (hCode.push _) (hTab.push _) hps fun code h₃ tk₃ ps' hps' hx hsz htab' => ?_⟩
  dsimp only at hx hsz
  rw [Heap.size_push] at hsz
  have k3 : ∀ b o, b ≠ P → s.heap.get? b = some o → h₃.get? b = some o := fun b o hb e => hx b o hb (Heap.get?_push_of_some _ e)
  have kI : h₃.get? s.heap.objs.size = some { cls := .type "list_iterator", data := .fields #[.ref l, .int 0 0] } := hx _ _ (Nat.ne_of_gt hPlt) (Heap.get?_push_size _ rfl)
  have nP : ∀ b o, h₀.get? b = some o → b ≠ P := fun b o e q => by rw [q, hP.2.2] at e; cases e
  have BM3 : BMod h₃ env.globals mg bm ob := BM.keeps fun b o e => k3 b o (nP b o e) (F.keep b o e)
  have hB3 : h₃.Ns builtinsNs mb := hB.keeps fun b o e => k3 b o (nP b o e) (F.keep b o e)
  refine wpAny_builtinsFor BM3.ns BM3.name BM3.ne BM3.obj BM3.cls BM3.dict BM3.data ?_
  intro h' hn' hs'
  dsimp only at hn' hs' ⊢
  have hsz' : h'.objs.size = h₃.objs.size + 1 := by rw [hs'.1, Heap.size_push]
  have k4 : ∀ b o, h₃.get? b = some o → h'.get? b = some o := fun b o e => hs'.extBut b o (Nat.ne_of_lt (Heap.lt_size e)) (Heap.get?_push_of_some _ e)
  generalize hgo : ({ cls := .type "generator", data := .fields #[.int s.gens.size 0, .str "<genexpr>" (tk₃ + 1), .str (env.qual ++ "<genexpr>") (tk₃ + 1 + 1)] } : Obj) = go
  have k5 : ∀ b o, h₃.get? b = some o → (h'.push go).get? b = some o := fun b o e => Heap.get?_push_of_some _ (k4 b o e)
  have kall : ∀ b o, b ≠ P → s.heap.get? b = some o → (h'.push go).get? b = some o := fun b o hb e => k5 b o (k3 b o hb e)
  have Ff : Fr h₀ L (h'.push go) m := ⟨F.ns.at' fun o e => kall L o (Ne.symm hPL) e, fun b o e => kall b o (nP b o e) (F.keep b o e), F.above⟩
  have fresh : ∀ b, L < b → h₀.get? b = none := fun b hb => Heap.get?_none_of_le (Nat.le_trans F.above (Nat.le_of_lt hb))
  obtain ⟨oC, esC, epC, hoC, hdC, hCr⟩ := id hn'
  have gget : (h'.push go).get? h'.objs.size = some go := Heap.get?_push_size _ (by rw [← hgo]; rfl)
  have sI : s.heap.objs.size < h₃.objs.size := Heap.lt_size kI
  have n1 : L < h₃.objs.size := Nat.lt_trans hLlt sI
  have n2 : L < h'.objs.size := by rw [hsz']; exact Nat.lt_succ_of_lt n1
  let X : List (Addr × Obj) := [(h'.objs.size, go), (h₃.objs.size, oC), (s.heap.objs.size, { cls := .type "list_iterator", data := .fields #[.ref l, .int 0 0] })]
  have NX : News h₀ L (h'.push go) ((P, tabObj ps') :: (X ++ news)) := by
    intro p hp
    rcases List.mem_cons.mp hp with rfl | hp
    · exact ⟨k5 _ _ htab'.2, hP.2⟩
    · rcases List.mem_append.mp hp with hp | hp
      · rcases List.mem_cons.mp hp with rfl | hp
        · exact ⟨gget, Nat.ne_of_gt n2, fresh _ n2⟩
        · rcases List.mem_cons.mp hp with rfl | hp
          · exact ⟨Heap.get?_push_of_some _ hoC, Nat.ne_of_gt n1, fresh _ n1⟩
          · rw [List.mem_singleton.mp hp]
            exact ⟨k5 _ _ kI, Nat.ne_of_gt hLlt, fresh _ hLlt⟩
      · have q := N p (.tail _ hp)
        exact ⟨kall _ _ (hoff p hp) q.1, q.2⟩
  let fq : List Addr := [s.heap.objs.size, l, cStatics, env.globals, builtinsNs] ++ refsOf vs
  have hfq : ∀ b ∈ fq, b = s.heap.objs.size ∨ (∃ o, (b, o) ∈ news) ∨ ∃ o, h₀.get? b = some o := by
    intro b hb
    rcases List.mem_append.mp hb with hb | hb
    · rcases List.mem_cons.mp hb with rfl | hb
      · exact .inl rfl
      · rcases List.mem_cons.mp hb with rfl | hb
        · exact .inr (.inl ⟨_, hl⟩)
        · rcases List.mem_cons.mp hb with rfl | hb
          · obtain ⟨_, ⟨o, _, _, ho, _⟩, _⟩ := hlim; exact .inr (.inr ⟨o, ho⟩)
          · rcases List.mem_cons.mp hb with rfl | hb
            · obtain ⟨o, _, _, ho, _⟩ := BM.ns; exact .inr (.inr ⟨o, ho⟩)
            · rw [List.mem_singleton.mp hb]
              obtain ⟨o, _, _, ho, _⟩ := hB; exact .inr (.inr ⟨o, ho⟩)
    · obtain ⟨i, hi, he⟩ := List.getElem_of_mem (refs_mem hb)
      obtain ⟨ta, k, tk, rest, e, h1, h2, _⟩ := hD.get i _ (List.getElem?_eq_getElem hi)
      rw [he] at h1
      cases h1
      exact .inr (.inl ⟨_, h2⟩)
  have hfs : ∀ b ∈ fq, b = s.heap.objs.size ∨ b < s.heap.objs.size := by
    intro b hb
    rcases hfq b hb with q | ⟨o, ho⟩ | ⟨o, ho⟩
    · exact .inl q
    · exact .inr (lt_of_news N (.tail _ ho))
    · exact .inr (Heap.lt_size (F.keep b o ho))
  have hfl : ∀ b ∈ fq, b < h₃.objs.size := by
    intro b hb
    rcases hfs b hb with rfl | q
    · exact sI
    · exact Nat.lt_trans q sI
  have hW : ∀ A' : Around, A'.handled = none → Walks prog w A' s.heap.objs.size fq [s.heap.objs.size] vs.length (fun i v => vs[i]? = some v) (fun i h => h.IsListIter s.heap.objs.size l i ∧ h.IsList l vs.toArray) := fun A' hA => by
    have W := (Walks.list (prog := prog) (w := w) hA s.heap.objs.size l (Nat.ne_of_lt hlt) vs.toArray).mono_fp (fp' := fq) fun b hb => by
      rcases List.mem_cons.mp hb with rfl | hb
      · exact .head _
      · rw [List.mem_singleton.mp hb]; exact .tail _ (.head _)
    simpa using W
  have nI : ∀ b ∈ fq, b ≠ s.heap.objs.size → b ∉ [s.heap.objs.size] := fun b _ hb q => hb (List.mem_singleton.mp q)
  have hq : QuietGen prog w (genEnv scope [] h₃.objs.size code builtinsNs env) (Str.ofString "tup") [] (.Call (.Name (Str.ofString "str") p1) [.Subscript (.Name (Str.ofString "tup") p2) (.Constant (.int 0) kk p3) p4] [] p5) fq [s.heap.objs.size]
      (fun i v => vs[i]? = some v) (fun _ => true) (fun i y => ∃ t, y = .str (strOf (ks.getD i 0)) t) (h'.push go) := by
    refine ⟨fun A' E' i v s₂ m₂ _ _ _ _ _ => wpAny_pure ⟨rfl, _, _, rfl, fun _ _ e => e⟩, fun A' E' i v s₂ m₂ hA hv _ hn₂ hm₂ hkp => ?_⟩
    obtain ⟨ta, k, tk, rest, e, rfl, hmt, hk1, hk2⟩ := hD.get i v hv
    have atH₀ : ∀ b ∈ fq, b < s.heap.objs.size → ∀ o, (h'.push go).get? b = some o → s₂.heap.get? b = some o := fun b hb hlt' o e => hkp b hb (nI b hb (Nat.ne_of_lt hlt')) o e
    have hta : (h'.push go).get? ta = some (tupO (.int k tk :: rest) e) := (NX _ (.tail _ (List.mem_append.mpr (.inr hmt)))).1
    have mta : ta ∈ fq := List.mem_append.mpr (.inr (mem_refs (List.mem_of_getElem? hv)))
    have h2 := atH₀ ta mta (lt_of_news N (.tail _ hmt)) _ hta
    have hGf : (h'.push go).Ns env.globals mg := BM.ns.keeps Ff.keep
    have hBf : (h'.push go).Ns builtinsNs mb := hB.keeps Ff.keep
    have mG : env.globals ∈ fq := .tail _ (.tail _ (.tail _ (.head _)))
    have mB : builtinsNs ∈ fq := .tail _ (.tail _ (.tail _ (.tail _ (.head _))))
    have lG : env.globals < s.heap.objs.size := (BM.ns.keeps F.keep).lt
    have lB : builtinsNs < s.heap.objs.size := (hB.keeps F.keep).lt
    have R := elt_str (A := A') (E := E') (prog := prog) (w := w) (scope := scope) (cl := []) (code := code) (env := env) (p1 := p1) (p2 := p2) (p3 := p3) (p4 := p4) (p5 := p5) (kk := kk) hn₂ hm₂ ⟨_, h2, rfl, e, rfl⟩ (hks k hk2) (hGf.at' fun o e => atH₀ _ mG lG o e) hg0 (hBf.at' fun o e => atH₀ _ mB lB o e) hb hkind hx1 hx2
    rw [hk1]
    exact R
  have hgen : (h'.push go).IsGen h'.objs.size s.gens.size := ⟨go, _, _, gget, by rw [← hgo], by rw [← hgo], by rw [← hgo]⟩
  have hlimf : (h'.push go).NoLimit := hlim.keeps Ff.keep
  have hnf : (h'.push go).Ns h₃.objs.size (fun y => if y = ".0" then some (.ref s.heap.objs.size) else none) := hn'.push go
  have hCfq : h₃.objs.size ∉ fq := fun hm => Nat.lt_irrefl _ (hfl _ hm)
  have hst : (h'.push go).IsListIter s.heap.objs.size l 0 ∧ (h'.push go).IsList l vs.toArray := ⟨⟨_, k5 _ _ kI, rfl, rfl⟩, _, (NX _ (.tail _ (List.mem_append.mpr (.inr hl)))).1, rfl, nn, rfl⟩
  have GA := GenAt.fresh (prog := prog) (w := w) (A := A.in4) (cenv := genEnv scope [] h₃.objs.size code builtinsNs env) (a := h'.objs.size) (g := s.gens.size) (iter := .Name wn pw) (px := px) (pos := pos) (s := { s with gens := s.gens.push (.fresh (.compStart (.GeneratorExp (.Call (.Name (Str.ofString "str") p1) [.Subscript (.Name (Str.ofString "tup") p2) (.Constant (.int 0) kk p3) p4] [] p5) [⟨.Name (Str.ofString "tup") px, .Name wn pw, [], 0⟩] scope pos) 0 (.ref s.heap.objs.size) .none (genEnv scope [] h₃.objs.size code builtinsNs env))), toks := tk₃ + 1 + 1 + 1, heap := h'.push go })
    hh (fun A' hA => hW A' hA) (fun _ => true) (fun i y => ∃ t, y = .str (strOf (ks.getD i 0)) t) hx2 (by simp [genEnv, hkind]) hco hCfq hq hgen (Array.getElem?_push_size ..) hst hnf hlimf
  have haC : h'.objs.size ≠ h₃.objs.size := by rw [hsz']; exact Nat.succ_ne_self _
  have haf : h'.objs.size ∉ fq := fun hm => Nat.lt_irrefl _ (Nat.lt_trans (hfl _ hm) (by rw [hsz']; exact Nat.lt_succ_self _))
  have hcs : cStatics ∈ fq := .tail _ (.tail _ (.head _))
  have hclt : cStatics < s.heap.objs.size := by obtain ⟨_, hn, _⟩ := hlim; exact (hn.keeps F.keep).lt
  have WS := WalksS.genexpQ (prog := prog) (w := w) (A := A.in4) hh h'.objs.size s.gens.size h₃.objs.size fq [s.heap.objs.size] (fun _ => true) vs.length (fun i y => ∃ t, y = .str (strOf (ks.getD i 0)) t) haC haf
    (fun b hb => by rw [List.mem_singleton.mp hb]; exact .head _) hroom hcs (Nat.ne_of_lt (Nat.lt_trans hclt sI)) (fun q => Nat.ne_of_lt hclt (List.mem_singleton.mp q))
  refine h h'.objs.size _ _ _ ps' (X ++ news) hps' (hG.push rfl) Ff NX (fun p hp => List.mem_append.mpr (.inr hp)) ?_ ?_
  · intro p hp
    rcases List.mem_append.mp hp with hp | hp
    · rcases List.mem_cons.mp hp with rfl | hp
      · exact Nat.ne_of_gt (Nat.lt_trans hPlt (Nat.lt_trans sI (by rw [hsz']; exact Nat.lt_succ_self _)))
      · rcases List.mem_cons.mp hp with rfl | hp
        · exact Nat.ne_of_gt (Nat.lt_trans hPlt sI)
        · rw [List.mem_singleton.mp hp]; exact Nat.ne_of_gt hPlt
    · exact hoff p hp
  · have hpass : passing (fun _ => true) vs.length 0 = List.range vs.length := by simp [passing]
    refine ⟨_, _, _, _, _, _, WS, ?_, ?_, fun i s' st => st.1.typeIs, .head _, ?_, ?_, ?_⟩
    · rw [hpass, List.length_range, hD.length]
    · rintro j v ⟨i, hi, hF⟩
      rw [hpass] at hi
      have : i = j := by
        obtain ⟨q1, q2⟩ := List.getElem?_eq_some_iff.mp hi
        simpa using q2.symm
      rw [← this]; exact hF
    · intro b hb
      rcases List.mem_cons.mp hb with rfl | hb
      · exact n1
      · rw [List.mem_singleton.mp hb]; exact hLlt
    · intro b hb p hp
      have hps2 : p.1 < s.heap.objs.size := by
        rcases List.mem_cons.mp hp with rfl | hp
        · exact hPlt
        · exact lt_of_news N (.tail _ hp)
      rcases List.mem_cons.mp hb with rfl | hb
      · exact Nat.ne_of_lt (Nat.lt_trans hps2 sI)
      · rw [List.mem_singleton.mp hb]; exact Nat.ne_of_lt hps2
    · intro h'' m'' tk'' F'' N''
      have kk : ∀ b ∈ h'.objs.size :: h₃.objs.size :: fq, ∃ o, (h'.push go).get? b = some o ∧ h''.get? b = some o := by
        intro b hb
        have inX : ∀ o, (b, o) ∈ X ++ news → ∃ o, (h'.push go).get? b = some o ∧ h''.get? b = some o := fun o ho => ⟨o, (NX _ (.tail _ ho)).1, (N'' _ (.tail _ ho)).1⟩
        rcases List.mem_cons.mp hb with rfl | hb
        · exact inX _ (.head _)
        · rcases List.mem_cons.mp hb with rfl | hb
          · exact inX _ (.tail _ (.head _))
          · rcases hfq b hb with rfl | ⟨o, ho⟩ | ⟨o, ho⟩
            · exact inX _ (List.mem_append.mpr (.inl (.tail _ (.tail _ (.head _)))))
            · exact inX o (List.mem_append.mpr (.inr ho))
            · exact ⟨o, Ff.keep b o ho, F''.keep b o ho⟩
      have hk : ∀ b ∈ h'.objs.size :: h₃.objs.size :: fq, ∀ o, (h'.push go).get? b = some o → h''.get? b = some o := by
        intro b hb o e
        obtain ⟨o', e1, e2⟩ := kk b hb
        rw [e] at e1; cases e1; exact e2
      obtain ⟨g1, g2, gs, g3, g4⟩ := GA
      refine ⟨⟨?_, hlim.keeps F''.keep, gs, g3, fun s'' hal => g4 s'' fun b hb o e => hal b hb o (hk b (List.mem_cons_of_mem _ hb) o e)⟩, fun b hb => ?_⟩
      · obtain ⟨o, nm, qn, ho, r⟩ := g1
        exact ⟨o, nm, qn, hk _ (.head _) o ho, r⟩
      · obtain ⟨o, _, e⟩ := kk b hb
        exact Heap.lt_size e
/-- sep.join of the generator: it is run to its end -/
theorem join_fmt {h₀ : Heap} {L a P : Addr} {m : Str → Option Value} {tab : Obj} {news ledX : List (Addr × Obj)} {ks : List Int} {sep : Str} {t : Tok} {s₀ : Shared} {Q : Value → Shared → Prop} (F : Fr h₀ L s.heap m) (N : News h₀ L s.heap ledX) (hsub : ∀ p ∈ (P, tab) :: news, p ∈ ledX)
    (G : GenIn prog w A h₀ L a ks ledX ((P, tab) :: news) s₀) (hG : AllBare s.gens) (e1 : s₀.gens = s.gens) (e2 : s₀.drawn = s.drawn) (e3 : s₀.os = s.os) (hlen : ks.length ≤ 1000) (hok : JoinOk sep (ks.map strOf) = true)
    (h : ∀ t' h' g' tk', AllBare g' → Fr h₀ L h' m → News h₀ L h' ((P, tab) :: news) → Q (.str (Txt.join sep (ks.map strOf)) t') { s with heap := h', gens := g', toks := tk' }) :
    wpAny (model prog w) A (call (.builtin "str.join") [.str sep t, .ref a]) Q E s := by
  obtain ⟨fp, wr, g, St, n, Pv, W, hn, hPv, hT, ha, hwL, hwP, hfr⟩ := G
  obtain ⟨hst, hfp⟩ := hfr s.heap m s.toks F N
  have es : ({ s₀ with heap := s.heap, toks := s.toks } : Shared) = s := by
    obtain ⟨a1, a2, a3, a4, a5⟩ := s₀
    obtain ⟨b1, b2, b3, b4, b5⟩ := s
    simp only at e1 e2 e3
    subst e1 e2 e3
    rfl
  rw [es] at hst
  refine SC.joinGen W.in4_2 hT hst hfp ha (fun j v hv => let ⟨u, q⟩ := hPv j v hv; ⟨_, u, q⟩) (fun s' lt hm hacc => ?_) (by rw [hn, PySem.sizeLine_eq]; omega)
  have hl : lt.map (·.1) = ks.map strOf := by
    apply List.ext_getElem?
    intro j
    have hsz : lt.length = ks.length := by simpa [strValues, hn] using hacc.1
    by_cases hj : j < ks.length
    · have hj' : j < lt.length := hsz ▸ hj
      obtain ⟨u, hv⟩ := hPv j _ (hacc.2 j (.str lt[j].1 lt[j].2) (by simp [strValues, List.getElem?_eq_getElem hj']))
      injection hv with h1 _
      rw [List.getElem?_map, List.getElem?_map, List.getElem?_eq_getElem hj', List.getElem?_eq_getElem hj]
      simp only [Option.map_some, h1]
      rw [List.getD_eq_getElem?_getD, List.getElem?_eq_getElem hj]; rfl
    · rw [List.getElem?_eq_none (by simpa [hsz] using Nat.le_of_not_lt hj), List.getElem?_eq_none (by simpa using Nat.le_of_not_lt hj)]
  rw [hl]
  refine ⟨hok, fun t' k => ?_⟩
  have es' : s' = { s with heap := s'.heap, gens := s'.gens, toks := s'.toks } := by
    obtain ⟨b1, b2, b3, b4, b5⟩ := s'
    have q1 := hm.drawn
    have q2 := hm.os
    simp only at q1 q2
    subst q1 q2
    rfl
  rw [es']
  exact h t' s'.heap s'.gens k (hG.movedS hm) (F.moved hm hwL) fun p hp => ⟨hm.heap p.1 p.2 (fun hb => hwP _ hb p hp rfl) (N p (hsub p hp)).1, (N p (hsub p hp)).2⟩
end
end Mine
namespace Mine
noncomputable def offP (P : Addr) (led : List (Addr × Obj)) : List (Addr × Obj) := led.filter fun p => p.1 != P
theorem offP_ne {P : Addr} {led : List (Addr × Obj)} : ∀ p ∈ offP P led, p.1 ≠ P := fun p hp => by simpa using (List.mem_filter.mp hp).2
theorem offP_sub {P : Addr} {led : List (Addr × Obj)} : ∀ p ∈ offP P led, p ∈ led := fun p hp => (List.mem_filter.mp hp).1
theorem offP_in {P : Addr} {led : List (Addr × Obj)} {p : Addr × Obj} (hp : p ∈ led) (h : p.1 ≠ P) : p ∈ offP P led := List.mem_filter.mpr ⟨hp, by simpa using h⟩
section
variable {h₀ h : Heap} {L P : Addr} {led : List (Addr × Obj)} {o : Obj}
theorem news_one (N : News h₀ L h led) (hP : (P, o) ∈ led) {a : Addr} {o' : Obj} (ha : (a, o') ∈ led) (hne : o'.cls ≠ o.cls) : a ≠ P := fun q => by
  subst q
  have e1 := (N _ hP).1
  have e2 := (N _ ha).1
  rw [e1] at e2
  cases e2
  exact hne rfl
theorem offP_news (N : News h₀ L h led) (hP : (P, o) ∈ led) : News h₀ L h ((P, o) :: offP P led) := fun p hp => by
  rcases List.mem_cons.mp hp with rfl | hp
  · exact N _ hP
  · exact N _ (offP_sub p hp)
mutual
theorem DatIn.off (N : News h₀ L h led) (hP : (P, o) ∈ led) (ho : o.cls = .none) : ∀ {v : Value} {d : Dat}, DatIn led v d → DatIn (offP P led) v d
  | _, _, .none => .none
  | _, _, .bool b => .bool b
  | _, _, .int i t => .int i t
  | _, _, .str x t => .str x t
  | _, _, .bytes b t => .bytes b t
  | _, _, .tuple m r => .tuple (offP_in m (news_one N hP m (by rw [ho]; exact fun q => by cases q))) (DatAll.off N hP ho r)
  | _, _, .list m r => .list (offP_in m (news_one N hP m (by rw [ho]; exact fun q => by cases q))) (DatAll.off N hP ho r)
theorem DatAll.off (N : News h₀ L h led) (hP : (P, o) ∈ led) (ho : o.cls = .none) : ∀ {vs : List Value} {ds : List Dat}, DatAll led vs ds → DatAll (offP P led) vs ds
  | _, _, .nil => .nil
  | _, _, .cons m r => .cons (DatIn.off N hP ho m) (DatAll.off N hP ho r)
end
end
theorem tupKs_of {led : List (Addr × Obj)} {cnt cnt' : List Int} {b nt b' nt' : Int} : ∀ {vs : List Value} {ts : List Int}, DatAll led vs (ts.map (triple cnt b nt cnt' b' nt')) → TupKs led vs ts
  | [], [], _ => .nil
  | _ :: _, t :: ts, h => by
    cases h with
    | cons hd r =>
      cases hd with
      | tuple hm ha =>
        cases ha with
        | cons h1 h2 =>
          cases h1 with
          | int _ tk => exact .cons hm (tupKs_of r)
  | _ :: _, [], h => by cases h
  | [], _ :: _, h => by cases h
section
variable {prog : Program} {w : World} {A : Around} {E : Value → Shared → Prop} {s : Shared} {h₀ : Heap} {L : Addr} {news : List (Addr × Obj)}
theorem len_led {a : Addr} {vs : List Value} {n z : Nat} {Q : Value → Shared → Prop} (N : News h₀ L s.heap news) (hm : (a, listOf vs.toArray n) ∈ news) (he : vs.length = z) (hz : z < 2 ^ 62)
    (h : Q (.int z (s.toks + 1)) { s with toks := s.toks + 1 + 1 }) : wpAny (model prog w) A (call (.builtin "len") [.ref a]) Q E s := by
  subst he
  refine len_list (lst_of N hm) (by simp; omega) ?_
  simpa using h
end
theorem strOf_small (k : Int) (h : 0 ≤ k ∧ k ≤ 200) : (strOf k).length ≤ 3 := by
  have q : ∀ n : Fin 201, (strOf ((n.val : Nat) : Int)).length ≤ 3 := by decide +kernel
  have := q ⟨k.toNat, by omega⟩
  have e : ((k.toNat : Nat) : Int) = k := by omega
  rw [e] at this
  exact this
theorem joinOk_ks {ts : List Int} {sep : Str} (hts : ∀ t ∈ ts, 0 ≤ t ∧ t ≤ 200) (hlen : ts.length ≤ 200) (hs : sep.length ≤ 500) : JoinOk sep (ts.map strOf) = true := by
  have q := joinOk_few (sep := sep) (as := ts) (pz := fun _ => true) (f := fun k => if 0 ≤ k ∧ k ≤ 200 then strOf k else Str.ofString "") (by omega) (fun a => by
    split
    · exact Nat.le_trans (strOf_small a (by assumption)) (by decide)
    · exact Nat.zero_le _) hs
  rw [List.filter_eq_self.mpr (fun _ _ => rfl)] at q
  have e : ts.map (fun k => if 0 ≤ k ∧ k ≤ 200 then strOf k else Str.ofString "") = ts.map strOf := List.map_congr_left fun k hk => if_pos (hts k hk)
  rw [e] at q
  exact q
/-- the words of format_witnesses -/
noncomputable def wordsV (ts : List Int) : Str := (if ts.length > 1 then Str.ofString "at tab sizes" else Str.ofString "at tab size") ++ Str.ofString " " ++ Txt.join (Str.ofString ", ") (ts.map strOf)
theorem joinKs_len {ts : List Int} (hts : ∀ t ∈ ts, 0 ≤ t ∧ t ≤ 200) (hlen : ts.length ≤ 200) : (Txt.join (Str.ofString ", ") (ts.map strOf)).length ≤ 1000 := by
  show (Builtin.Str.glued (Str.ofString ", ") (ts.map strOf)).length ≤ 1000
  rw [StrLaws.glued_eq_join]
  refine Nat.le_trans (StrLaws.join_length_le _ _) ?_
  have h2 : (Str.ofString ", ").length = 2 := by decide
  rw [h2, List.length_map]
  have h3 : ∀ l : List Int, (∀ t ∈ l, 0 ≤ t ∧ t ≤ 200) → ((l.map strOf).map (·.length)).sum ≤ l.length * 3 := by
    intro l
    induction l with
    | nil => intro _; exact Nat.le_refl _
    | cons x r ih =>
      intro h
      have a := ih fun t ht => h t (.tail _ ht)
      have b := strOf_small x (h x (.head _))
      simp only [List.map_cons, List.sum_cons, List.length_cons, Nat.succ_mul]
      simp only [List.map_map] at a ⊢
      omega
  have := h3 ts hts
  omega
theorem wordsV_len {ts : List Int} (hts : ∀ t ∈ ts, 0 ≤ t ∧ t ≤ 200) (hlen : ts.length ≤ 200) : (wordsV ts).length ≤ 1100 := by
  have h1 : (Str.ofString "at tab sizes").length = 12 := by decide
  have h2 : (Str.ofString "at tab size").length = 11 := by decide
  have h3 : (Str.ofString " ").length = 1 := by decide
  have h4 := joinKs_len hts hlen
  unfold wordsV
  split <;> simp only [Str.length_append, h1, h2, h3] <;> omega
theorem wordsV_many {ts : List Int} (h : ts.length > 1) : (Str.ofString "at tab sizes" ++ Str.ofString " ") ++ Txt.join (Str.ofString ", ") (ts.map strOf) = wordsV ts := by unfold wordsV; rw [if_pos h]
theorem wordsV_few {ts : List Int} (h : ¬ ts.length > 1) : (Str.ofString "at tab size" ++ Str.ofString " ") ++ Txt.join (Str.ofString ", ") (ts.map strOf) = wordsV ts := by unfold wordsV; rw [if_neg h]
theorem join_fits {ts : List Int} {x : Str} (hts : ∀ t ∈ ts, 0 ≤ t ∧ t ≤ 200) (hlen : ts.length ≤ 200) (hx : x.length ≤ 100) : x.length + (Txt.join (Str.ofString ", ") (ts.map strOf)).length ≤ sizeLine := by
  have h4 := joinKs_len hts hlen
  rw [sizeLine_eq]
  omega
theorem neW_bd {cnt cnt' : List Int} {b nt b' nt' : Int} {nn : Nat} (h : nn ≤ 190) : (∀ t ∈ neW cnt b nt cnt' b' nt' (rangeKs 1 nn), 0 ≤ t ∧ t ≤ 200) ∧ (neW cnt b nt cnt' b' nt' (rangeKs 1 nn)).length ≤ 200 :=
  ⟨fun t ht => by have := mem_rangeKs.mp (List.mem_filter.mp ht).1; omega, by have := List.length_filter_le (fun ts => decide (level cnt b nt ts ≠ level cnt' b' nt' ts)) (rangeKs 1 nn); rw [rangeKs_length] at this; unfold neW; omega⟩
theorem nlW_bd {cnt cnt' : List Int} {b nt b' nt' : Int} {nn : Nat} (h : nn ≤ 190) : (∀ t ∈ nlW cnt b nt cnt' b' nt' (rangeKs 1 nn), 0 ≤ t ∧ t ≤ 200) ∧ (nlW cnt b nt cnt' b' nt' (rangeKs 1 nn)).length ≤ 200 :=
  ⟨fun t ht => by have := mem_rangeKs.mp (List.mem_filter.mp ht).1; omega, by have := List.length_filter_le (fun ts => decide (level cnt b nt ts ≥ level cnt' b' nt' ts)) (rangeKs 1 nn); rw [rangeKs_length] at this; unfold nlW; omega⟩
noncomputable def topN (cnt : List Int) (b : Int) (cnt' : List Int) (b' : Int) : Nat := (topV cnt b cnt' b' + 1).toNat
noncomputable def ngWords (cnt : List Int) (b nt : Int) (cnt' : List Int) (b' nt' : Int) : Str := Str.ofString "indent not greater e.g. " ++ wordsV (nlW cnt b nt cnt' b' nt' (rangeKs 1 (topN cnt b cnt' b')))
noncomputable def neWords (cnt : List Int) (b nt : Int) (cnt' : List Int) (b' nt' : Int) : Str := Str.ofString "indent not equal e.g. " ++ wordsV (neW cnt b nt cnt' b' nt' (rangeKs 1 (topN cnt b cnt' b')))
/-- what the nanny says of a row: nothing, or her words -/
noncomputable def askV (deeper : Bool) (cnt : List Int) (b n nt : Int) (cnt' : List Int) (b' n' nt' : Int) : Option Str :=
  if deeper then (if lessV cnt b n nt cnt' b' n' nt' then none else some (ngWords cnt b nt cnt' b' nt')) else if cnt = cnt' ∧ b = b' then none else some (neWords cnt b nt cnt' b' nt')
section
variable {cnt cnt' : List Int} {b n nt b' n' nt' : Int}
theorem askV_eq (h : decide (cnt = cnt' ∧ b = b') = true) : askV false cnt b n nt cnt' b' n' nt' = none := by
  unfold askV; rw [if_neg Bool.false_ne_true, if_pos (of_decide_eq_true h)]
theorem askV_ne (h : decide (cnt = cnt' ∧ b = b') = false) : askV false cnt b n nt cnt' b' n' nt' = some (neWords cnt b nt cnt' b' nt') := by
  unfold askV; rw [if_neg Bool.false_ne_true, if_neg (of_decide_eq_false h)]
theorem askV_less {r : Bool} (e : r = lessV cnt b n nt cnt' b' n' nt') (h : r = true) : askV true cnt b n nt cnt' b' n' nt' = none := by
  unfold askV; rw [if_pos rfl, if_pos (by rw [← e]; exact h)]
theorem askV_ng {r : Bool} (e : r = lessV cnt b n nt cnt' b' n' nt') (h : r = false) : askV true cnt b n nt cnt' b' n' nt' = some (ngWords cnt b nt cnt' b' nt') := by
  unfold askV; rw [if_pos rfl, if_neg (by rw [← e, h]; exact Bool.false_ne_true)]
end
end Mine
namespace Mine
noncomputable abbrev bmE : List Value := [.type "Exception", .type "BaseException", .type "object"]
/-- an exception class of the program's own: bases Exception, its namespace -/
structure NagCls (h : Heap) (C N : Addr) (mN : Str → Option Value) : Prop where
  obj : ∃ nm q bs sn sub ab col dd k0 k1 k2 k3 k5, h.get? C = some (excClassObj nm q C N bs bmE true sn sub ab col dd k0 k1 k2 k3 k5 "Exception.__new__")
  ns : h.Ns N mN
  q1 : mN "__getattribute__" = none
  q2 : mN "__getattr__" = none
  q3 : mN "__setattr__" = none
theorem NagCls.keeps {h h' : Heap} {C N : Addr} {mN : Str → Option Value} (x : NagCls h C N mN) (k : ∀ b o, h.get? b = some o → h'.get? b = some o) : NagCls h' C N mN := by
  obtain ⟨⟨nm, q, bs, sn, sub, ab, col, dd, k0, k1, k2, k3, k5, e⟩, n, a, b, c⟩ := x
  exact ⟨⟨nm, q, bs, sn, sub, ab, col, dd, k0, k1, k2, k3, k5, k _ _ e⟩, n.keeps k, a, b, c⟩
section
variable {prog : Program} {w : World} {A : Around} {E : Value → Shared → Prop} {h : Heap} {g : Array GenState} {d : Drawn} {t : Nat} {os : OsState}
  {nm q : Str} {C N x : Addr} {bs : List Value} {sn : List Str} {sub : List Value} {ab : Bool} {col : Option Bool} {dd : Option Addr} {k0 k1 k2 k3 k5 : Option Value} {newId : String}
  {mN mA : Str → Option Value} {name : Str} {v : Value}
theorem lk_ga : typeLookup (.type "Exception") "__getattribute__" = pure (some (.builtin "BaseException.__getattribute__")) := F.attrBase_Exception.ga.lookup
theorem canon_ga : (Manifest.canonical "BaseException.__getattribute__" != "object.__getattribute__") = false := by decide +kernel
theorem lk_gattr : typeLookup (.type "Exception") "__getattr__" = pure none := F.attrBase_Exception.noGetattr
theorem mro_E : mroOf (.type "Exception") = pure bmE := F.attrBase_Exception.mro
theorem exc_method_of {pl : Sem Bool} {f : Addr} {of : Obj} {Q : Value × List Value → Shared → Prop}
    (hC : h.get? C = some (excClassObj nm q C N bs bmE true sn sub ab col dd k0 k1 k2 k3 k5 newId)) (hn : h.Ns N mN) (hng : mN "__getattribute__" = none) (hnh : mN "__getattr__" = none)
    (hf : mN name = some (.ref f)) (hfo : h.get? f = some of) (hfc : of.cls = .type "function") {y : Option Value} (hB : typeLookup (.type "Exception") name = pure y)
    (I : h.Inst x C mA) (hsh : mA name = none) (hq : Q (.ref f, [.ref x]) ⟨h, g, d, t, os⟩) :
    wpAny (model prog w) A (getMethod (.ref x) name pl) Q E ⟨h, g, d, t, os⟩ := by
  obtain ⟨o, hx, hc, hnc, hd⟩ := I
  have hcan := canon_ga
  unfold getMethod specialOf
  repeat (first | (with_reducible refine wpAny_loadPart_at hx ?_; rw [hc]) | (with_reducible refine wpAny_typeLookup_exc hC hn mro_E lk_ga ?_; rw [hng]) | (with_reducible refine wpAny_typeLookup_exc hC hn mro_E lk_gattr ?_; rw [hnh]) | (with_reducible refine wpAny_typeLookup_exc hC hn mro_E hB ?_; rw [hf]) | (with_reducible refine wpAny_typeOf (T := "function") ⟨_, hfo, hfc⟩ ?_) | simp only [hcan, Bool.false_eq_true, if_false] | wp_step)
  rcases hd with ⟨hdn, _⟩ | ⟨dx, hdx, _, hns⟩
  · rw [hdn]
    repeat wp_step
    exact hq
  · rw [hdx]
    repeat (first | (with_reducible refine wpAny_nsGet hns.ns ?_; rw [hsh]) | wp_step)
    exact hq
theorem check_ga {M : Model} {nameV : Value} {o : Obj} {Q : Unit → Shared → Prop} (hC : h.get? C = some (excClassObj nm q C N bs bmE true sn sub ab col dd k0 k1 k2 k3 k5 newId))
    (hx : h.get? x = some o) (hc : o.cls = .ref C) (hq : Q () ⟨h, g, d, t, os⟩) : wpAny M A (checkBuiltinCall "BaseException.__getattribute__" ⟨[.ref x, nameV], []⟩) Q E ⟨h, g, d, t, os⟩ := by
  have hk : builtinKind "BaseException.__getattribute__" = some .slot := by decide +kernel
  have hsplit : splitId "BaseException.__getattribute__" = some ("BaseException", "__getattribute__") := by decide +kernel
  have hcB : (Value.ref C :: bmE).contains (.type "BaseException") = true := by rw [List.contains_cons]; exact Bool.or_true _
  have ha := F.args_bexc_ga (.ref x) nameV
  simp only [checkBuiltinCall, hk, hsplit]
  refine wpAny_bind ?_
  · unfold isInstance
    repeat (first | (with_reducible refine wpAny_loadPart_at hx ?_; rw [hc]) | (with_reducible refine wpAny_isSubtype_exc hC ?_; rw [hcB]) | wp_step)
    exact hq
theorem exc_get_entry {tk : Tok} {Q : Fin → Shared → Prop}
    (hC : h.get? C = some (excClassObj nm q C N bs bmE true sn sub ab col dd k0 k1 k2 k3 k5 newId)) (hn : h.Ns N mN) (hna : mN name = none)
    (hB : typeLookup (.type "Exception") name = pure none) (I : h.Inst x C mA) (hv : mA name = some v) (hq : Q (.done (.ret v)) ⟨h, g, d, t, os⟩) :
    wpAny (model prog w) A (Builtin.«object.__getattribute__» ⟨[.ref x, .str name tk], []⟩) Q E ⟨h, g, d, t, os⟩ := by
  obtain ⟨o, hx, hc, hnc, hd⟩ := I
  rcases hd with ⟨_, hmA⟩ | ⟨dx, hdx, hne, hns⟩
  · rw [hmA name] at hv; cases hv
  unfold Builtin.«object.__getattribute__»
  repeat (first | (with_reducible refine wpAny_loadPart_at hx ?_; rw [hc]) | (with_reducible refine wpAny_typeLookup_exc hC hn mro_E hB ?_; rw [hna]) | wp_step)
  split
  · rename_i c hcd
    exact absurd hcd (hnc c)
  unfold instanceDict
  repeat (first | (with_reducible refine wpAny_loadPart_at hx ?_; rw [hc]) | with_reducible refine wpAny_loadPart_at hC ?_ | wp_step)
  rw [hdx]
  repeat (first | (with_reducible refine wpAny_nsGet hns.ns ?_; rw [hv]) | wp_step)
  exact hq
theorem exc_get {expr : Bool} {Q : Value → Shared → Prop}
    (hC : h.get? C = some (excClassObj nm q C N bs bmE true sn sub ab col dd k0 k1 k2 k3 k5 newId)) (hn : h.Ns N mN) (hng : mN "__getattribute__" = none) (hnh : mN "__getattr__" = none) (hna : mN name = none)
    (hB : typeLookup (.type "Exception") name = pure none) (I : h.Inst x C mA) (hv : mA name = some v) (hh : handedOut v = pure v) (hq : Q v ⟨h, g, d, t + 1, os⟩) :
    wpAny (model prog w) A (getAttr (.ref x) name expr) Q E ⟨h, g, d, t, os⟩ := by
  obtain ⟨o, hx, hc, _⟩ := id I
  have f3 := F.attrBase_Exception.ga.bind (.ref x)
  have hx0 : (expr && onTheHeap (Value.builtin "BaseException.__getattribute__")) = false := by cases expr <;> rfl
  have hx2 : (Value.builtin "BaseException.__getattribute__" == Value.builtin "object.__getattribute__") = false := by decide +kernel
  have hx1 : (onTheHeap (Value.ref C) && Value.builtin "BaseException.__getattribute__" == Value.builtin "object.__getattribute__") = false := by rw [hx2]; rfl
  unfold getAttr getAttrBy
  repeat (any_goals (first | assumption | (with_reducible refine wpAny_loadPart_at hx ?_; rw [hc]) | (with_reducible refine wpAny_typeLookup_exc hC hn mro_E lk_ga ?_; rw [hng]) | (with_reducible refine wpAny_typeLookup_exc hC hn mro_E lk_gattr ?_; rw [hnh]) | wp_step))
  refine codeAny_call_builtin F.attrBase_Exception.ga.plain F.entry_bexc_ga (check_ga hC hx hc (exc_get_entry hC hn hna hB I hv ?_))
  repeat (any_goals (first | assumption | wp_step))
end
/-- an exception object with three facts of its own class: arguments, attributes' dict -/
noncomputable abbrev excO (C : Addr) (od : Option Addr) (vs : Array Value) : Obj := { cls := .ref C, dict := od, data := .fields vs }
noncomputable def NsO (oD : Obj) (mA : Str → Option Value) : Prop := ∀ (h : Heap) a, h.get? a = some oD → h.Ns1 a mA
section
variable {prog : Program} {w : World} {A : Around} {E : Value → Shared → Prop} {h : Heap} {g : Array GenState} {d : Drawn} {t : Nat} {os : OsState}
  {nm q : Str} {C N x : Addr} {bs : List Value} {sn : List Str} {sub : List Value} {ab : Bool} {col : Option Bool} {dd : Option Addr} {k0 k1 k2 k3 k5 : Option Value} {newId : String}
  {mN mA : Str → Option Value} {name : Str} {v : Value}
theorem nsO_of {a : Addr} (n : h.Ns1 a mA) : ∃ oD, h.get? a = some oD ∧ NsO oD mA := by
  obtain ⟨o, es, ep, e1, e2, e3, eu, e4⟩ := n
  exact ⟨o, e1, fun h' a' e => ⟨o, es, ep, e, e2, e3, eu, e4⟩⟩
theorem exc_store0 {tk : Tok} {vs : Array Value} {Q : Fin → Shared → Prop}
    (hC : h.get? C = some (excClassObj nm q C N bs bmE true sn sub ab col dd k0 k1 k2 k3 k5 newId)) (hn : h.Ns N mN) (hna : mN name = none)
    (hB : typeLookup (.type "Exception") name = pure none) (hx : h.get? x = some (excO C none vs))
    (hq : ∀ h' tk' oD, NsO oD (fun y => if y = name then some v else none) → h'.get? x = some (excO C (some h.objs.size) vs) → h'.get? h.objs.size = some oD →
      (∀ b o, b ≠ x → h.get? b = some o → h'.get? b = some o) → Q (.done (.ret .none)) ⟨h', g, d, tk', os⟩) :
    wpAny (model prog w) A (Builtin.«object.__setattr__» ⟨[.ref x, .str name tk, v], []⟩) Q E ⟨h, g, d, t, os⟩ := by
  have hpass := F.store_Exception.passes (.ref x)
  obtain ⟨o, ho⟩ : ∃ o, o = excO C none vs := ⟨_, rfl⟩
  have hc : o.cls = .ref C := by rw [ho]
  have hdn : o.dict = none := by rw [ho]
  have hnc : ∀ c, o.data ≠ .cls c := by rw [ho]; intro c q; cases q
  have ho2 : ({ cls := o.cls, dict := some h.objs.size, data := o.data, slots := o.slots } : Obj) = excO C (some h.objs.size) vs := by rw [ho]
  have hof : o.isFreed = false := by rw [ho]; rfl
  rw [← ho] at hx
  clear ho
  unfold Builtin.«object.__setattr__»
  repeat (first | rw [refuse_eq] | (rw [refuseLoop_ref, hpass]) | (with_reducible refine wpAny_loadPart_at hx ?_; rw [hc]) | with_reducible refine wpAny_mroOf_exc hC ?_ | (with_reducible refine wpAny_typeLookup_exc hC hn F.store_Exception.mro hB ?_; rw [hna]) | wp_step)
  rw [hdn, if_neg (by simp [typeHasDict])]
  split
  · rename_i hcd
    cases hcd
  split
  · rename_i c hcd
    exact absurd hcd (hnc c)
  have hx₁ : (h.push { cls := .type "dict", data := .dict #[] }).get? x = some o := Heap.get?_push_of_some _ hx
  have hxs : x ≠ h.objs.size := Nat.ne_of_lt (Heap.lt_size hx)
  refine wpAny_bind (wpAny_alloc' ?_)
  refine wpAny_bind (wpAny_update' hx₁ ?_)
  refine wpAny_pure ?_
  generalize hh1 : ((h.push { cls := .type "dict", data := .dict #[] }).update x fun o => { cls := o.cls, dict := some h.objs.size, data := o.data, slots := o.slots }) = h1
  have hgd : h1.get? h.objs.size = some { cls := .type "dict", data := .dict #[] } := by
    rw [← hh1]
    exact (Heap.get?_update_ne _ _ _ _ hxs.symm).trans (Heap.get?_push_at rfl rfl)
  have hgx : h1.get? x = some { cls := o.cls, dict := some h.objs.size, data := o.data, slots := o.slots } := by
    rw [← hh1]
    refine Heap.get?_update_self _ hx₁ ?_
    rw [ho2]; rfl
  have hgo : ∀ b ob, b ≠ x → h.get? b = some ob → h1.get? b = some ob := fun b ob hb e => by
    rw [← hh1]
    exact (Heap.get?_update_ne _ _ _ _ hb).trans (Heap.get?_push_of_some _ e)
  have hnd : h1.Ns h.objs.size (fun _ => none) := ⟨_, #[], _, hgd, rfl, fun e he => absurd he (by simp), fun _ => rfl⟩
  show wpAny _ _ (Builtin.ObjectAttr.storeInDict h.objs.size (.str name tk) name v) _ _ _
  unfold Builtin.ObjectAttr.storeInDict Builtin.ObjectAttr.newKeyGuard
  refine wpAny_bind (wpAny_pure (wpAny_bind (wpAny_nsSet1 (Heap.Ns1.of_empty hnd) fun h' hn' hs => ?_)))
  obtain ⟨oD, esD, epD, hoD, hdD, hcD⟩ := hn'.count (Within.cons name v Within.nil)
  refine wpAny_bind (wpAny_lookBehind hoD (by rw [hdD]; exact pastItsLine_dict (Nat.le_trans hcD (by rw [List.length_cons, List.length_nil, sizeLine_eq]; omega))) ?_)
  wp_walk
  obtain ⟨oD', e1, e2⟩ := nsO_of hn'
  refine hq h' _ oD' e2 ?_ e1 fun b ob hb e => ?_
  · rw [← ho2]; exact (hs.2 x hxs).trans hgx
  · exact (hs.2 b (Nat.ne_of_lt (Heap.lt_size e))).trans (hgo b ob hb e)
theorem exc_call0 {tk : Tok} {vs : Array Value} {sa owner : String} {R : Result → Shared → Prop} (SF : StoreFacts "Exception" bmE sa owner)
    (hC : h.get? C = some (excClassObj nm q C N bs bmE true sn sub ab col dd k0 k1 k2 k3 k5 newId)) (hn : h.Ns N mN) (hna : mN name = none)
    (hB : typeLookup (.type "Exception") name = pure none) (hx : h.get? x = some (excO C none vs))
    (hq : ∀ h' tk' oD, NsO oD (fun y => if y = name then some v else none) → h'.get? x = some (excO C (some h.objs.size) vs) → h'.get? h.objs.size = some oD →
      (∀ b o, b ≠ x → h.get? b = some o → h'.get? b = some o) → R (.ok (.ret .none)) ⟨h', g, d, tk', os⟩) :
    codeAny (model prog w) A (.call (.builtin sa) ⟨[.ref x, .str name tk, v], []⟩) R ⟨h, g, d, t, os⟩ :=
  codeAny_call_builtin SF.slot.plain SF.entry (wpAny_check_sa SF hC hx rfl (exc_store0 hC hn hna hB hx hq))
theorem exc_set0' {vs : Array Value} {sa owner : String} {Q : Unit → Shared → Prop} (SF : StoreFacts "Exception" bmE sa owner)
    (hC : h.get? C = some (excClassObj nm q C N bs bmE true sn sub ab col dd k0 k1 k2 k3 k5 newId)) (hn : h.Ns N mN) (hns : mN "__setattr__" = none) (hna : mN name = none)
    (hB : typeLookup (.type "Exception") name = pure none) (hx : h.get? x = some (excO C none vs))
    (hq : ∀ h' tk' oD, NsO oD (fun y => if y = name then some v else none) → h'.get? x = some (excO C (some h.objs.size) vs) → h'.get? h.objs.size = some oD →
      (∀ b o, b ≠ x → h.get? b = some o → h'.get? b = some o) → Q () ⟨h', g, d, tk', os⟩) :
    wpAny (model prog w) A (setAttr (.ref x) name v) Q E ⟨h, g, d, t, os⟩ := by
  have f3 := SF.slot.bind (.ref x)
  obtain ⟨o1, hx1, hc1⟩ : ∃ o, h.get? x = some o ∧ o.cls = .ref C := ⟨_, hx, rfl⟩
  unfold setAttr callSpecial? specialOf
  repeat (any_goals (first | assumption | (with_reducible refine wpAny_loadPart_at hx1 ?_; rw [hc1]) | (with_reducible refine wpAny_typeLookup_exc hC hn SF.mro SF.slot.lookup ?_; rw [hns]) | wp_step))
  refine exc_call0 SF hC hn hna hB hx fun h' tk' oD a1 a2 a3 a4 => ?_
  repeat (any_goals (first | assumption | wp_step))
  exact hq h' tk' oD a1 a2 a3 a4
theorem exc_set0 {vs : Array Value} {Q : Unit → Shared → Prop}
    (hC : h.get? C = some (excClassObj nm q C N bs bmE true sn sub ab col dd k0 k1 k2 k3 k5 newId)) (hn : h.Ns N mN) (hns : mN "__setattr__" = none) (hna : mN name = none)
    (hB : typeLookup (.type "Exception") name = pure none) (hx : h.get? x = some (excO C none vs))
    (hq : ∀ h' tk' oD, NsO oD (fun y => if y = name then some v else none) → h'.get? x = some (excO C (some h.objs.size) vs) → h'.get? h.objs.size = some oD →
      (∀ b o, b ≠ x → h.get? b = some o → h'.get? b = some o) → Q () ⟨h', g, d, tk', os⟩) :
    wpAny (model prog w) A (setAttr (.ref x) name v) Q E ⟨h, g, d, t, os⟩ :=
  exc_set0' F.store_Exception hC hn hns hna hB hx hq
end
section
variable {prog : Program} {w : World} {A : Around} {E : Value → Shared → Prop} {s : Shared} {h₀ : Heap} {L : Addr} {m : Str → Option Value} {led rest : List (Addr × Obj)}
  {C Nn x dx : Addr} {mN mA : Str → Option Value} {name : Str} {v : Value} {vs : Array Value} {oD : Obj} {K : Frag}
theorem nsq_of {h : Heap} {N : Addr} {mg : Str → Option Value} {n : Str} {v : Value} (X : K.In h) (G : h.Ns N mg) (e : nsIn K N n = some (some v)) : mg n = some v := by
  obtain ⟨o, es, ep, ho, hd, _, hf⟩ := G
  unfold nsIn at e
  split at e
  · rename_i q
    have z := X _ _ q
    rw [ho] at z
    cases z
    cases hd
    split at e
    · rename_i he
      cases e
      rw [← hf]
      unfold nsFind findBy
      rw [← Array.find?_toList, he]
      rfl
    · split at e <;> cases e
  · cases e
theorem nsIn_ns {h : Heap} {N : Addr} {es : Array DictEntry} {ep : Nat} {cl : Value} {dd : Option Addr} {sl : Array (Option Value)} (X : K.In h) (e : K.lookup N = some ⟨cl, dd, .dict es ep, sl⟩) (hs : (es.all fun e => match e.key with | .str _ _ => true | _ => false) = true) : h.Ns N (h.nsMap N) := by
  refine .of_isNs ?_
  unfold Heap.isNs
  rw [X _ _ e]
  exact hs
/-- the first attribute of an exception: its dict is made -/
theorem nag_set0 {Q : Unit → Shared → Prop} (F : Fr h₀ L s.heap m) (N : News h₀ L s.heap led) (NC : NagCls h₀ C Nn mN) (hna : mN name = none) (hB : typeLookup (.type "Exception") name = pure none) (hx : (x, excO C none vs) ∈ led)
    (hsub : ∀ p ∈ rest, p ∈ led ∧ p.1 ≠ x)
    (h : ∀ h' tk' oD dx, NsO oD (fun y => if y = name then some v else none) → dx ≠ x → (∀ p ∈ rest, p.1 ≠ dx) → Fr h₀ L h' m → News h₀ L h' ((x, excO C (some dx) vs) :: (dx, oD) :: rest) → Q () { s with heap := h', toks := tk' }) :
    wpAny (model prog w) A (setAttr (.ref x) name v) Q E s := by
  obtain ⟨⟨nm, q, bs, sn, sub, ab, col, dd, k0, k1, k2, k3, k5, hC⟩, hn, q1, q2, q3⟩ := NC.keeps F.keep
  obtain ⟨hx1, hx2, hx3⟩ := N _ hx
  have hlt : ∀ b o, s.heap.get? b = some o → b ≠ s.heap.objs.size := fun b o e => Nat.ne_of_lt (Heap.lt_size e)
  refine exc_set0 hC hn q3 hna hB hx1 fun h' tk' oD a1 a2 a3 a4 => ?_
  have k : ∀ b o, h₀.get? b = some o → h'.get? b = some o := fun b o e => a4 b o (fun z => by subst z; rw [hx3] at e; cases e) (F.keep b o e)
  have fr : h₀.get? s.heap.objs.size = none := Heap.get?_none_of_le (Nat.le_trans F.above (Nat.le_of_lt F.ns.lt))
  refine h h' tk' oD s.heap.objs.size a1 (hlt _ _ hx1).symm (fun p hp => hlt _ _ (N _ (hsub p hp).1).1) ⟨F.ns.at' fun o e => a4 _ o (fun z => hx2 z.symm) e, k, F.above⟩ fun p hp => ?_
  rcases List.mem_cons.mp hp with rfl | hp
  · exact ⟨a2, hx2, hx3⟩
  · rcases List.mem_cons.mp hp with rfl | hp
    · exact ⟨a3, (Nat.ne_of_lt F.ns.lt).symm, fr⟩
    · have z := N _ (hsub p hp).1
      exact ⟨a4 _ _ (hsub p hp).2 z.1, z.2⟩
theorem nag_set1 {Q : Unit → Shared → Prop} {ns : List Str} (F : Fr h₀ L s.heap m) (N : News h₀ L s.heap led) (NC : NagCls h₀ C Nn mN) (hna : mN name = none) (hB : typeLookup (.type "Exception") name = pure none) (hx : (x, excO C (some dx) vs) ∈ led) (hd : (dx, oD) ∈ led) (hdx : dx ≠ x) (hD : NsO oD mA) (hxC : x ≠ C)
    (hsub : ∀ p ∈ rest, p ∈ led ∧ p.1 ≠ x ∧ p.1 ≠ dx) (hw : Within mA ns) (hsz : ns.length ≤ sizeLine)
    (h : ∀ h' tk' oD', NsO oD' (fun y => if y = name then some v else mA y) → Fr h₀ L h' m → News h₀ L h' ((x, excO C (some dx) vs) :: (dx, oD') :: rest) → Q () { s with heap := h', toks := tk' }) :
    wpAny (model prog w) A (setAttr (.ref x) name v) Q E s := by
  obtain ⟨⟨nm, q, bs, sn, sub, ab, col, dd, k0, k1, k2, k3, k5, hC⟩, hn, q1, q2, q3⟩ := NC.keeps F.keep
  obtain ⟨hx1, hx2, hx3⟩ := N _ hx
  obtain ⟨hd1, hd2, hd3⟩ := N _ hd
  have I : s.heap.Inst x C mA := ⟨_, hx1, rfl, fun c q => (by cases q), .inr ⟨dx, rfl, hdx, hD _ _ hd1⟩⟩
  refine store_attr PySem.F.store_Exception hC hn q3 hna hB hxC I (fun h' tk' I' a4 a5 => ?_) hw hsz
  obtain ⟨o₁, e1, e2, e3, e4, e5⟩ := a5 _ hx1
  have ex : o₁ = excO C (some dx) vs := by
    obtain ⟨b1, b2, b3, b4⟩ := o₁
    simp only at e2 e3 e4
    have := e5 dx rfl
    simp only at this
    subst e2 e3 e4 this
    rfl
  subst ex
  obtain ⟨o', f1, _, _, f2⟩ := I'
  rw [e1] at f1
  cases f1
  rcases f2 with ⟨f2, _⟩ | ⟨d', f2, _, f3⟩
  · cases f2
  cases f2
  obtain ⟨oD', g1, g2⟩ := nsO_of f3
  have a6 : ∀ b o, b ≠ x → b ≠ dx → s.heap.get? b = some o → h'.get? b = some o := fun b o n1 n2 e => a4 b o n1 (fun o₀ dx' z1 z2 => by rw [hx1] at z1; cases z1; cases z2; exact n2) e
  refine h h' tk' oD' g2 ⟨F.ns.at' fun o e => a6 _ o (fun z => hx2 z.symm) (fun z => hd2 z.symm) e, fun b o e => a6 b o (fun z => by subst z; rw [hx3] at e; cases e) (fun z => by subst z; rw [hd3] at e; cases e) (F.keep b o e), F.above⟩ fun p hp => ?_
  rcases List.mem_cons.mp hp with rfl | hp
  · exact ⟨e1, hx2, hx3⟩
  · rcases List.mem_cons.mp hp with rfl | hp
    · exact ⟨g1, hd2, hd3⟩
    · have z := N _ (hsub p hp).1
      exact ⟨a6 _ _ (hsub p hp).2.1 (hsub p hp).2.2 z.1, z.2⟩
theorem nag_get {expr : Bool} {Q : Value → Shared → Prop} (F : Fr h₀ L s.heap m) (N : News h₀ L s.heap led) (NC : NagCls h₀ C Nn mN) (hna : mN name = none) (hB : typeLookup (.type "Exception") name = pure none) (hx : (x, excO C (some dx) vs) ∈ led) (hd : (dx, oD) ∈ led) (hdx : dx ≠ x) (hD : NsO oD mA)
    (hv : mA name = some v) (hh : handedIn v = true) (h : Q v { s with toks := s.toks + 1 }) : wpAny (model prog w) A (getAttr (.ref x) name expr) Q E s := by
  obtain ⟨⟨nm, q, bs, sn, sub, ab, col, dd, k0, k1, k2, k3, k5, hC⟩, hn, q1, q2, q3⟩ := NC.keeps F.keep
  exact exc_get hC hn q1 q2 hna hB ⟨_, (N _ hx).1, rfl, fun c q => (by cases q), .inr ⟨dx, rfl, hdx, hD _ _ (N _ hd).1⟩⟩ hv (handedOut_of hh) h
theorem nag_method {pl : Sem Bool} {f : Addr} {of : Obj} {y : Option Value} {Q : Value × List Value → Shared → Prop} (F : Fr h₀ L s.heap m) (N : News h₀ L s.heap led) (NC : NagCls h₀ C Nn mN) (hf : mN name = some (.ref f)) (hfo : h₀.get? f = some of) (hfc : of.cls = .type "function") (hB : typeLookup (.type "Exception") name = pure y) (hx : (x, excO C (some dx) vs) ∈ led) (hd : (dx, oD) ∈ led) (hdx : dx ≠ x) (hD : NsO oD mA)
    (hv : mA name = none) (h : Q (.ref f, [.ref x]) s) : wpAny (model prog w) A (getMethod (.ref x) name pl) Q E s := by
  obtain ⟨⟨nm, q, bs, sn, sub, ab, col, dd, k0, k1, k2, k3, k5, hC⟩, hn, q1, q2, q3⟩ := NC.keeps F.keep
  exact exc_method_of hC hn q1 q2 hf (F.keep _ _ hfo) hfc hB ⟨_, (N _ hx).1, rfl, fun c q => (by cases q), .inr ⟨dx, rfl, hdx, hD _ _ (N _ hd).1⟩⟩ hv h
end
end Mine
namespace Mine
/-- the ground g, its objects as they now stand in h' -/
noncomputable def ReG (g h' g₂ : Heap) : Prop := g₂.objs.size = g.objs.size ∧ ∀ b, g₂.get? b = (if (g.get? b).isSome then h'.get? b else none)
theorem reG_exists {g h' : Heap} (k : ∀ b o, g.get? b = some o → ∃ o', h'.get? b = some o') : ∃ g₂, ReG g h' g₂ := by
  refine ⟨⟨Array.ofFn (n := g.objs.size) fun i => if (g.get? i.val).isSome then (h'.objs[i.val]?).getD { cls := .none, data := .freed } else { cls := .none, data := .freed }, g.life⟩, by simp, fun b => ?_⟩
  show (match (Array.ofFn (n := g.objs.size) fun i => if (g.get? i.val).isSome then (h'.objs[i.val]?).getD { cls := .none, data := .freed } else { cls := .none, data := .freed })[b]? with
    | some ⟨_, _, .freed, _⟩ => none
    | o => o) = _
  by_cases hb : b < g.objs.size
  · rw [Array.getElem?_ofFn, dif_pos hb]
    dsimp only
    cases e : g.get? b with
    | none => rfl
    | some o =>
      obtain ⟨o', ho'⟩ := k b o e
      simp only [Option.isSome_some, if_true]
      rw [ho']
      have q := ho'
      unfold Heap.get? at q
      revert q
      cases h'.objs[b]? with
      | none => intro q; cases q
      | some ob =>
        intro q
        exact q
  · rw [Array.getElem?_ofFn, dif_neg hb]
    have e : g.get? b = none := Heap.get?_none_of_le (Nat.le_of_not_lt hb)
    rw [e]; rfl
section
variable {M : Model} {A A₀ : Around} {E : Value → Shared → Prop} {s : Shared}
theorem note_entry {base : Heap} {env : Env} {outer : List Env} {L x C : Addr} {od : Option Addr} {vs : Array Value} {head : Value} {hadNext : Bool} {Q : Unit → Shared → Prop}
    (hfr : A.frames = some (env :: outer)) (hl : s.heap.FunFrames base (env :: outer)) (hf : env.frame = some L) (he : s.heap.get? x = some (excO C od vs)) (hsz : 1 < vs.size)
    (h : ∀ h' T tb ts, s.heap.get? T = none → T ≠ x → s.heap.objs.size ≤ T → h'.get? x = some (excO C od (vs.setIfInBounds 1 (.ref T))) → h'.get? T = some tb → tb.data = .fields ts → tb.isFreed = false → ts[3]? = some (rawInt L) →
      (∀ b o, b ≠ x → b ∉ (env :: outer).filterMap (·.frame) → s.heap.get? b = some o → h'.get? b = some o) → (∀ b o, b ≠ x → s.heap.get? b = some o → ∃ sl, h'.get? b = some { o with slots := sl }) → Q () { s with heap := h' }) :
    wpAny M A (do let a ← frameOf env; let pl ← entryPlaceOf L hadNext; let b ← EntryCells.newEntry head a .none (rawInt L) .none pl; setField (.ref x) 1 b) Q E s := by
  have hene : x ∉ (env :: outer).filterMap (·.frame) := fun hm => by
    obtain ⟨_, o, ho, hnf⟩ := hl.mem hm
    rw [he] at ho; cases ho; exact hnf vs rfl
  refine wpAny_bind (wpAny_frameOf_fun hfr hl hf fun h₁ hs₁ => ?_)
  refine wpAny_bind (wpAny_entryPlaceOf fun pl hpl => ?_)
  unfold EntryCells.newEntry newFields
  refine wpAny_bind (wpAny_newObj_type ?_ (hpl.sizeOk5 _ _ _ _ _))
  have he₁ : h₁.get? x = some (excO C od vs) := (hs₁.2.1 x hene).trans he
  generalize hoT : ({ cls := .type "traceback", dict := none, data := .fields ([head, .ref L, .none, rawInt L, .none] ++ (if pl.isEmpty then List.replicate 6 Value.none else pl)).toArray } : Obj) = oT
  have he₂ := Heap.get?_push_of_some (h := h₁) oT he₁
  have hTe : h₁.objs.size ≠ x := Nat.ne_of_gt (Heap.lt_size he₁)
  refine wpAny_setField he₂ rfl hsz ?_
  have hT : (h₁.push oT).get? h₁.objs.size = some oT := Heap.get?_push_size h₁ (by rw [← hoT]; rfl)
  have keep : ∀ b o, b ≠ x → h₁.get? b = some o → ((h₁.push oT).update x (Obj.mapFields (·.setIfInBounds 1 (Value.ref h₁.objs.size)))).get? b = some o := fun b o hb e => by
    rw [Heap.get?_update_other _ _ (Ne.symm hb)]
    exact Heap.get?_push_of_some _ e
  refine h _ h₁.objs.size oT _ ?_ hTe (Nat.le_of_eq hs₁.1.symm) ?_ ?_ (by rw [← hoT]) (by rw [← hoT]; rfl) ?_ ?_ ?_
  · exact Heap.get?_none_of_le (Nat.le_of_eq hs₁.1.symm)
  · exact Heap.get?_update_self (Obj.mapFields (·.setIfInBounds 1 (Value.ref h₁.objs.size))) he₂ rfl
  · rw [Heap.get?_update_other _ _ (Ne.symm hTe)]; exact hT
  · simp
  · intro b o hb hn e
    exact keep b o hb ((hs₁.2.1 b hn).trans e)
  · intro b o hb e
    obtain ⟨sl, hs⟩ := hs₁.2.2 b o e
    exact ⟨sl, keep b _ hb hs⟩
/-- a note of the exception in the running frame: the ground's frames may change their slots -/
theorem note_ground {base g : Heap} {env : Env} {outer : List Env} {L x C : Addr} {od : Option Addr} {vs : Array Value} {head : Value} {hadNext : Bool} {m : Str → Option Value} {rest : List (Addr × Obj)} {Q : Unit → Shared → Prop}
    (B : Below A₀ base outer g) (hfr : A.frames = some (env :: outer)) (hf : env.frame = some L) (hke : env.scope.kind = .function) (F : Fr g L s.heap m) (N : News g L s.heap ((x, excO C od vs) :: rest)) (hoff : ∀ p ∈ rest, p.1 ≠ x) (hsz : 1 < vs.size)
    (h : ∀ g₂ h' T tb ts, g₂.objs.size = g.objs.size → (∀ b o, g.get? b = some o → ∃ sl, g₂.get? b = some { o with slots := sl }) → (∀ b, g.get? b = none → g₂.get? b = none) → Below A₀ base outer g₂ → Fr g₂ L h' m →
      News g₂ L h' ((x, excO C od (vs.setIfInBounds 1 (.ref T))) :: (T, tb) :: rest) → T ≠ x → (∀ p ∈ rest, p.1 ≠ T) → tb.data = .fields ts → ts[3]? = some (rawInt L) → Q () { s with heap := h' }) :
    wpAny M A (do let a ← frameOf env; let pl ← entryPlaceOf L hadNext; let b ← EntryCells.newEntry head a .none (rawInt L) .none pl; setField (.ref x) 1 b) Q E s := by
  have B₁ := pushX B F hf hke
  obtain ⟨hx1, hx2, hx3⟩ := N _ (.head _)
  refine note_entry hfr B₁.frames hf hx1 hsz fun h' T tb ts t1 t2 t3 e1 e2 e3 e3' e4 k1 k2 => ?_
  have gx : ∀ b o, g.get? b = some o → b ≠ x := fun b o e q => by rw [q] at e; rw [hx3] at e; cases e
  obtain ⟨g₂, z1, z2⟩ := reG_exists (g := g) (h' := h') fun b o e => let ⟨sl, q⟩ := k2 b o (gx b o e) (F.keep b o e); ⟨_, q⟩
  have sl : ∀ b o, g.get? b = some o → ∃ sl, g₂.get? b = some { o with slots := sl } := fun b o e => by
    rw [z2 b, e]
    exact k2 b o (gx b o e) (F.keep b o e)
  have no : ∀ b, g.get? b = none → g₂.get? b = none := fun b e => by rw [z2 b, e]; rfl
  have nofr : ∀ b o, base.get? b = some o → b ∉ (env :: outer).filterMap (·.frame) := fun b o e hm => by
    rw [(B₁.frames.mem hm).1] at e; cases e
  have st : base.StaysIn g₂ := fun b o e => by
    rw [z2 b, B.stays b o e]
    exact k1 b o (gx b o (B.stays b o e)) (nofr b o e) (B₁.stays b o e)
  have hLx : L ≠ x := fun q => hx2 q.symm
  refine h g₂ h' T tb ts z1 sl no ⟨B.stack, st, B.frames.of_keeps fun b o e _ => let ⟨s', q⟩ := sl b o e; ⟨_, q, rfl⟩⟩ ⟨?_, fun b o e => ?_, by rw [z1]; exact F.above⟩ (fun p hp => ?_) t2 ?_ e3 e4
  · obtain ⟨o, es, ep, ho, hd, r⟩ := F.ns
    obtain ⟨s', q⟩ := k2 L o hLx ho
    exact ⟨_, es, ep, q, hd, r⟩
  · rw [z2 b] at e
    cases q : g.get? b with
    | none => rw [q] at e; cases e
    | some o' => rw [q] at e; exact e
  · rcases List.mem_cons.mp hp with rfl | hp
    · exact ⟨e1, hx2, no _ hx3⟩
    · rcases List.mem_cons.mp hp with rfl | hp
      · have tL : T ≠ L := fun q => by obtain ⟨o, _, _, ho, _⟩ := F.ns; subst q; rw [t1] at ho; cases ho
        have tg : g.get? T = none := by
          cases q : g.get? T with
          | none => rfl
          | some o => rw [F.keep T o q] at t1; cases t1
        exact ⟨e2, tL, no _ tg⟩
      · obtain ⟨p1, p2, p3⟩ := N p (.tail _ hp)
        refine ⟨k1 _ _ (hoff p hp) (fun hm => ?_) p1, p2, no _ p3⟩
        rw [List.filterMap_cons, hf] at hm
        rcases List.mem_cons.mp hm with q | hm
        · exact p2 q
        · obtain ⟨_, o, ho, _⟩ := B.frames.mem hm
          rw [p3] at ho; cases ho
  · intro p hp q
    have := (N p (.tail _ hp)).1
    rw [q, t1] at this
    cases this
theorem note_first {base g : Heap} {env : Env} {outer : List Env} {L x C : Addr} {od : Option Addr} {vs : Array Value} {m : Str → Option Value} {rest : List (Addr × Obj)} {Q : Unit → Shared → Prop}
    (B : Below A₀ base outer g) (hfr : A.frames = some (env :: outer)) (hf : env.frame = some L) (hke : env.scope.kind = .function) (F : Fr g L s.heap m) (N : News g L s.heap ((x, excO C od vs) :: rest)) (hoff : ∀ p ∈ rest, p.1 ≠ x) (h1 : vs[1]? = some .none)
    (h : ∀ g₂ h' T tb ts, g₂.objs.size = g.objs.size → (∀ b o, g.get? b = some o → ∃ sl, g₂.get? b = some { o with slots := sl }) → (∀ b, g.get? b = none → g₂.get? b = none) → Below A₀ base outer g₂ → Fr g₂ L h' m →
      News g₂ L h' ((x, excO C od (vs.setIfInBounds 1 (.ref T))) :: (T, tb) :: rest) → T ≠ x → (∀ p ∈ rest, p.1 ≠ T) → tb.data = .fields ts → ts[3]? = some (rawInt L) → Q () { s with heap := h' }) :
    wpAny M A (noteFrame (.ref x) env) Q E s := by
  unfold noteFrame
  simp only [hf]
  refine wpAny_bind (wpAny_field (N _ (.head _)).1 rfl h1 ?_)
  rw [if_neg (by decide)]
  exact note_ground B hfr hf hke F N hoff (Array.getElem?_eq_some_iff.mp h1).1 h
/-- where an exception is in flight: written into its newest entry -/
theorem flight_to {g : Heap} {L x C T : Addr} {od : Option Addr} {vs ts : Array Value} {tb : Obj} {m : Str → Option Value} {rest : List (Addr × Obj)} {fl : Option Addr} {Q : Unit → Shared → Prop}
    (F : Fr g L s.heap m) (N : News g L s.heap ((x, excO C od vs) :: (T, tb) :: rest)) (hTx : T ≠ x) (hoff : ∀ p ∈ rest, p.1 ≠ T) (h1 : vs[1]? = some (.ref T)) (hd : tb.data = .fields ts) {v3 : Value} (h3 : ts[3]? = some v3)
    (h : ∀ h' tb' ts', Fr g L h' m → News g L h' ((x, excO C od vs) :: (T, tb') :: rest) → tb'.data = .fields ts' → ts'[3]? = some (fl.elim .none fun f => rawInt f) → Q () { s with heap := h' }) :
    wpAny M A (setFlight (.ref x) fl) Q E s := by
  obtain ⟨hx1, hx2, hx3⟩ := N _ (.head _)
  obtain ⟨hT1, hT2, hT3⟩ := N _ (.tail _ (.head _))
  dsimp only at hx1 hT1 hT2 hT3
  unfold setFlight
  refine wpAny_bind (wpAny_field hx1 rfl h1 ?_)
  rw [if_pos (show (Value.ref T != Value.none) = true from by simp)]
  have hlt : 3 < ts.size := (Array.getElem?_eq_some_iff.mp h3).1
  refine wpAny_setField hT1 hd hlt ?_
  have other : ∀ b, b ≠ T → (s.heap.update T (Obj.mapFields (·.setIfInBounds 3 (fl.elim Value.none fun f => rawInt f)))).get? b = s.heap.get? b := fun b hb => Heap.get?_update_other _ _ (Ne.symm hb)
  have hself := Heap.get?_update_self (Obj.mapFields (·.setIfInBounds 3 (fl.elim Value.none fun f => rawInt f))) hT1 (Obj.isFreed_of_fields (Obj.data_mapFields hd _))
  refine h _ (Obj.mapFields (·.setIfInBounds 3 (fl.elim Value.none fun f => rawInt f)) tb) (ts.setIfInBounds 3 (fl.elim Value.none fun f => rawInt f)) ⟨F.ns.at' fun o e => (other L (Ne.symm hT2)).trans e, fun b o e => (other b fun q => by rw [q, hT3] at e; cases e).trans (F.keep b o e), F.above⟩ (fun p hp => ?_) (Obj.data_mapFields hd _) (by simp [hlt])
  rcases List.mem_cons.mp hp with rfl | hp
  · exact ⟨(other x (Ne.symm hTx)).trans hx1, hx2, hx3⟩
  · rcases List.mem_cons.mp hp with rfl | hp
    · exact ⟨hself, hT2, hT3⟩
    · have z := N p (.tail _ (.tail _ hp))
      exact ⟨(other _ (hoff p hp)).trans z.1, z.2⟩
end
section
variable {M : Model} {A : Around} {E : Value → Shared → Prop} {s : Shared} {env : Env} {nm q : Str} {C N : Addr} {bs : List Value} {sn : List Str} {sub : List Value} {ab : Bool} {col : Option Bool} {dd : Option Addr} {k0 k1 k2 k3 k5 : Option Value} {newId : String}
theorem raise_stmt {x : Sem Value} {Q : Flow → Shared → Prop} (hh : A.handled = none)
    (h : wpAny M A x (fun v s₁ => ∃ e od t c2 c3 c4 c5, v = .ref e ∧ s₁.heap.get? C = some (excClassObj nm q C N bs bmE true sn sub ab col dd k0 k1 k2 k3 k5 newId) ∧
      s₁.heap.get? e = some (excO C od #[t, .none, c2, c3, c4, c5]) ∧ E (.ref e) s₁) E s) :
    wpAny M A (raiseStmt env (some x) none) Q E s := by
  have hcB : (Value.ref C :: bmE).contains (.type "BaseException") = true := by rw [List.contains_cons]; exact Bool.or_true _
  unfold raiseStmt
  refine wpAny_bind (wpAny_mono h (fun v s₁ h₁ => ?_) fun _ _ x => x)
  obtain ⟨e, od, t, c2, c3, c4, c5, rfl, hC, he, hE⟩ := h₁
  obtain ⟨hp, g, d, tk, os⟩ := s₁
  dsimp only at hC he
  repeat (first | with_reducible refine wpAny_loadPart_at he ?_ | with_reducible refine wpAny_loadPart_at hC ?_ | (with_reducible refine wpAny_isSubtype_exc hC ?_; rw [hcB]) | wp_step)
  exact wpAny_raiseNew_none hh hE
end
section
variable {prog : Program} {w : World} {A : Around} {E : Value → Shared → Prop} {s : Shared} {env : Env} {C : Addr} {P : Heap → Prop}
theorem exec_raise {x : Expr} {pos : Pos} {Q : Flow → Shared → Prop} (hh : A.handled = none)
    (h : wpAny (model prog w) A (eval x env) (fun v s₁ => ∃ e od t c2 c3 c4 c5, v = .ref e ∧ P s₁.heap ∧ s₁.heap.get? e = some (excO C od #[t, .none, c2, c3, c4, c5]) ∧ E (.ref e) s₁) E s)
    (obj : ∃ N nm q bs sn sub ab col dd k0 k1 k2 k3 k5, ∀ h : Heap, P h → h.get? C = some (excClassObj nm q C N bs bmE true sn sub ab col dd k0 k1 k2 k3 k5 "Exception.__new__")) :
    wpAny (model prog w) A (exec (.Raise (some x) none pos) env) Q E s := by
  obtain ⟨N, nm, q, bs, sn, sub, ab, col, dd, k0, k1, k2, k3, k5, ob⟩ := obj
  have h' := wpAny_mono h (fun v s₁ p => (show ∃ e od t c2 c3 c4 c5, v = .ref e ∧ s₁.heap.get? C = some (excClassObj nm q C N bs bmE true sn sub ab col dd k0 k1 k2 k3 k5 "Exception.__new__") ∧
      s₁.heap.get? e = some (excO C od #[t, .none, c2, c3, c4, c5]) ∧ E (.ref e) s₁ from by obtain ⟨e, od, t, c2, c3, c4, c5, p1, p2, p3, p4⟩ := p; exact ⟨e, od, t, c2, c3, c4, c5, p1, ob _ p2, p3, p4⟩)) fun _ _ x => x
  rw [arm_exec_Raise]
  first
    | exact wpAny_bind (wpAny_standAt (raise_stmt hh (wpAny_bind (wpAny_mono h' (fun v s₁ h₁ => wpAny_bind (wpAny_standAt (wpAny_pure h₁))) fun _ _ x => x))))
    | (simp only [evalOpt, Option.map]; exact wpAny_bind (wpAny_standAt (raise_stmt hh (wpAny_bind (wpAny_mono h' (fun v s₁ h₁ => wpAny_bind (wpAny_standAt (wpAny_pure h₁))) fun _ _ x => x)))))
theorem handle_nag {A₀ : Around} {g : Heap} {L a x T Nn : Addr} {m mg mb : Str → Option Value} {mN : Str → Option Value} {name : Str} {scope : Scope} {cd : Value} {od : Option Addr} {vs ts : Array Value} {tb : Obj} {rest : List (Addr × Obj)} {K : Frag} {p : Program} {loose : List Str}
    {cn n : Str} {np pos : Pos} {b₀ : Stmt} {suite : List Stmt} {hs : List ExceptHandler} {v3 : Value} {Q : Flow → Shared → Prop}
    (F : Fr g L s.heap m) (N : News g L s.heap ((x, excO C od vs) :: (T, tb) :: rest)) (hTx : T ≠ x) (hoff : ∀ p ∈ rest, p.1 ≠ T) (h1 : vs[1]? = some (.ref T)) (hd : tb.data = .fields ts) (h3 : ts[3]? = some v3)
    (X : K.In g) (Tp : TopRead p loose mg mb g) (ex : nsIn K mainGlobals cn = some (some (.ref C))) (NC : NagCls g C Nn mN)
    (k : ∀ h' tk tb', Fr g L h' (fun y => if y = n then some (.ref x) else m y) → News g L h' ((x, excO C od vs) :: (T, tb') :: rest) →
      wpAny (model prog w) ((A₀.deeper (envOf name scope L a cd)).mark (some (.ref x))) (execs (b₀ :: suite) (envOf name scope L a cd))
        (fun f s₄ => wpAny (model prog w) (A₀.deeper (envOf name scope L a cd)) (do bindName (envOf name scope L a cd) n .none; unbindBehindTheSuite (envOf name scope L a cd) n pos) (fun _ s₅ => Q f s₅) E s₄) (fun _ _ => False) { s with heap := h', toks := tk })
    (hk : scope.kind = .function) (hx : (envOf name scope L a cd).kindOf cn = some .globalImplicit) (hl : (envOf name scope L a cd).kindOf n = some .local) (hdb : (cn == ("__debug__" : Str)) = false) :
    wpAny (model prog w) (A₀.deeper (envOf name scope L a cd)) (handleBy (.ref x) (envOf name scope L a cd) (.ExceptHandler (some (.Name cn np)) (some n) (b₀ :: suite) pos :: hs)) Q E s := by
  obtain ⟨⟨nm, q, bs, sn, sub, ab, col, dd, k0, k1, k2, k3, k5, hC⟩, hn, q1, q2, q3⟩ := NC.keeps F.keep
  obtain ⟨hh, gg, dw, tk, os⟩ := s
  dsimp only at F N hC
  refine wpAny_handleBy_cons (codeAny_handlers_test (name_K F X Tp ex ?_ hk hx hdb)) (by intro q; cases q)
  refine wpAny_excMatches_sub_self hC (N _ (.head _)).1 rfl (by decide) (codeAny_handlers_suite_as ?_)
  refine flight_to F N hTx hoff h1 hd h3 fun h' tb' ts' F' N' _ _ => ?_
  refine stN F' N' (fun h₇ F₇ N₇ => ?_) hk hl
  exact wpAny_mono (k h₇ _ tb' F₇ N₇) (fun _ _ z => z) fun _ _ z => z.elim
end
section
variable {A A₀ : Around}
end
section
variable {prog : Program} {w : World} {A A₀ : Around} {s : Shared} {K : Frag} {L : Addr} {h₀ base : Heap} {m mg mb : Str → Option Value} {news : List (Addr × Obj)} {p : Program} {loose : List Str} {mean : ExcName → Option Value}
/-- a def is entered; its end is left as it is -/
theorem code_defR {env : Env} {outer : List Env} {R : Result → Shared → Prop} {name qual : Str} {params : Arguments} {body : List Stmt} {scope : Scope} {dV kV doc pm cdv ct oc : Value} {an od : Option Addr} {osl : Array (Option Value)} {f : Addr} {args : Args} {binds : List (Str × Value)}
    (B : Below A₀ base outer h₀) (F : Fr h₀ L s.heap m) (X₀ : K.In h₀) (N : News h₀ L s.heap news) (T : Top p loose mean mg mb h₀) (hA : A.frames = some (env :: outer)) (hf : env.frame = some L) (hke : env.scope.kind = .function)
    (ho : K.lookup f = some ⟨oc, od, .func (fnOf name qual params body scope dV kV doc pm an cdv ct), osl⟩) (hcd : codeIn K cdv qual = true) (hroom : A.depth < recursionLimit)
    (hbind : BindsTo s (fnOf name qual params body scope dV kV doc pm an cdv ct) args binds) (hloc : ∀ y ∈ binds, scope.names.lookup y.1 = some .local)
    (h : ∀ g L' h₁, Fr h₀ L g m → Fr g L' h₁ (fun y => binds.reverse.lookup y) → News g L' h₁ news → Below A base (env :: outer) g → K.In g → Top p loose mean mg mb g →
      wpAny (model prog w) (A.deeper (envOf qual scope L' f cdv)) (execs body (envOf qual scope L' f cdv))
        (fun fl s' => Park (R (.ok (.ret (match fl with | .ret v => v | _ => .none))) s'))
        (fun e s' => wpAny (model prog w) (A.deeper (envOf qual scope L' f cdv)) (leaving (envOf qual scope L' f cdv) e) (fun _ s'' => R (.error e) s'') (fun e' s'' => R (.error e') s'') s')
        { s with heap := h₁, toks := s.toks + binds.length })
    (hco : scope.isCoroutine = false) (hgen : scope.isGenerator = false) (hk : scope.kind = .function)
    (hcell : ∀ x ∈ scope.names, x.2 ≠ .cell) : codeAny (model prog w) A (.call (.ref f) args) R s := by
  have hK := X₀.keeps F.keep
  obtain ⟨FG, BG, st, _⟩ := groundX (R := R) B F N hA hf hke
  refine codeAny_call_def (fd := fnOf name qual params body scope dV kV doc pm an cdv ct) (body := body) (binds := binds) hroom (hK _ _ ho) rfl (T.nolimit.keeps F.keep) (codeRec_of hK hcd) rfl hbind hcell hloc (fun h₁ hns hk₁ => ?_) hco hgen hk
  exact h _ s.heap.objs.size h₁ FG ⟨hns, fun b o e => hk₁ b o (of_hideAll _ e), Nat.le_of_eq (hideAll_size _ _)⟩
    (fun p hp => ⟨hk₁ _ _ (N p hp).1, Nat.ne_of_lt (Heap.lt_size (N p hp).1), hideAll_none _ (List.mem_map_of_mem hp)⟩) BG (X₀.keeps st) (T.keeps st)
/-- back in the caller, whose own frame and outer frames alone may have changed their slots -/
theorem back_base {g g₂ h' : Heap} {env : Env} {outer : List Env} {L' : Addr} {m' : Str → Option Value} {led : List (Addr × Obj)}
    (F : Fr h₀ L s.heap m) (FG : Fr h₀ L g m) (B₂ : Below A h₀ (env :: outer) g₂) (sl : ∀ b o, g.get? b = some o → ∃ sl, g₂.get? b = some { o with slots := sl }) (F' : Fr g₂ L' h' m') (N' : News g₂ L' h' led) :
    Fr h₀ L h' m ∧ News h₀ L h' led := by
  refine ⟨⟨?_, fun b o e => F'.keep b o (B₂.stays b o e), F.above⟩, fun p hp => ⟨(N' p hp).1, fun q => ?_, ?_⟩⟩
  · obtain ⟨o, es, ep, ho, hd, r⟩ := FG.ns
    obtain ⟨s', q⟩ := sl L o ho
    exact ⟨_, es, ep, F'.keep _ _ q, hd, r⟩
  · obtain ⟨o, es, ep, ho, hd, r⟩ := FG.ns
    obtain ⟨s', z⟩ := sl L o ho
    have := (N' p hp).2.2
    rw [q, z] at this
    cases this
  · cases q : h₀.get? p.1 with
    | none => rfl
    | some o =>
      have := (N' p hp).2.2
      rw [B₂.stays _ _ q] at this
      cases this
end
end Mine
namespace Mine
section
variable {prog : Program} {w : World} {A : Around} {E : Value → Shared → Prop} {s : Shared} {env : Env} {x : Str} {px pos : Pos} {body : List Stmt} {Q : Flow → Shared → Prop} {L : Addr}
/-- a loop's turn comes to its end: the ground, the frame, the ledger and the generators as they then are -/
noncomputable def TurnG (L I : Addr) (o : Obj) (J : Heap → (Str → Option Value) → List (Addr × Obj) → Array GenState → Prop) (s : Shared) (s₃ : Shared) : Prop :=
  ∃ gr m led gs h tk, s₃ = { s with heap := h, gens := gs, toks := tk } ∧ Fr gr L h m ∧ News gr L h ((I, o) :: led) ∧ (∀ p ∈ led, p.1 ≠ I) ∧ J gr m led gs
noncomputable def PostG (L I : Addr) (o : Obj) (J : Heap → (Str → Option Value) → List (Addr × Obj) → Array GenState → Prop) (s : Shared) (Q : Flow → Shared → Prop) (f : Flow) (s₃ : Shared) : Prop := match f with
  | .next => TurnG L I o J s s₃
  | .cont => TurnG L I o J s s₃
  | .brk => Q .next s₃
  | .ret v => Q (.ret v) s₃
end
end Mine
namespace Mine
section
variable {prog : Program} {w : World} {A : Around} {E : Value → Shared → Prop} {s : Shared} {h₀ : Heap} {L l : Addr} {m : Str → Option Value} {led news rest : List (Addr × Obj)} {vs : List Value} {n : Nat} {x : Value} {value slice : Expr} {k : Int} {u : Tok} {Q : Value → Shared → Prop}
/-- an item of a list on the ledger -/
theorem item_at (N : News h₀ L s.heap led) (hm : (l, listOf vs.toArray n) ∈ led) (h0 : 0 ≤ k) (hf : k < 2 ^ 62) (hx : vs[k.toNat]? = some x) (h : Q x s)
    (hs : subscripted slice false (.ref l) (.int k u) = operate [.ref l, .int k u] (getItem (.ref l) (.int k u)) := by with_unfolding_all rfl) (hg : ∀ r, letTemporaryGo value (.ref l) r = pure () := by intro _; with_unfolding_all rfl) :
    wpAny (model prog w) A (subscriptTail value slice (.ref l) (.int k u)) Q E s :=
  item_list (lst_of N hm) h0 (by omega) (by simpa using hx) h hs hg
/-- the last item of a list on the ledger -/
theorem item_end (N : News h₀ L s.heap led) (hm : (l, listOf (vs ++ [x]).toArray n) ∈ led) (hsz : vs.length < 2 ^ 60) (h : Q x s)
    (hs : subscripted slice false (.ref l) (.int (-1) u) = operate [.ref l, .int (-1) u] (getItem (.ref l) (.int (-1) u)) := by with_unfolding_all rfl) (hg : ∀ r, letTemporaryGo value (.ref l) r = pure () := by intro _; with_unfolding_all rfl) :
    wpAny (model prog w) A (subscriptTail value slice (.ref l) (.int (-1) u)) Q E s := by
  have hl := lst_of N hm
  refine subscriptTail_builtin hl.typeIs slot_list_getitem.lookup (wpAny_getItem_list_neg hl (by decide) (by simp; omega) (by decide) ?_ h) hs hg
  have e : ((-1 : Int) + ((vs ++ [x]).toArray.size : Int)).toNat = vs.length := by simp; omega
  rw [e]
  simp
/-- pop of the last item -/
theorem pop_end {news' : List (Addr × Obj)} (F : Fr h₀ L s.heap m) (N : News h₀ L s.heap news) (U : Upd l (listOf (vs ++ [x]).toArray n) (listOf vs.toArray (n + 1)) news news') (hsz : vs.length < 1000)
    (h : ∀ h', Fr h₀ L h' m → News h₀ L h' news' → Q x { s with heap := h' }) : wpAny (model prog w) A (call (.builtin "list.pop") [.ref l]) Q E s :=
  kl_pop F N (p := vs) (y := x) (kpa_last x vs) U (by simp [sizeLine_eq]; omega) h
theorem append_end {news' : List (Addr × Obj)} (F : Fr h₀ L s.heap m) (N : News h₀ L s.heap news) (U : Upd l (listOf vs.toArray n) (listOf (vs ++ [x]).toArray (n + 1)) news news') (hsz : vs.length < 1000)
    (h : ∀ h', Fr h₀ L h' m → News h₀ L h' news' → Q .none { s with heap := h' }) : wpAny (model prog w) A (call (.builtin "list.append") [.ref l, x]) Q E s :=
  append_K (its := vs.toArray) F N (by rw [List.push_toArray]; exact U) h (by simp [sizeLine_eq]; omega)
end
end Mine
namespace Mine
section
variable {M : Model} {A A₀ : Around} {E : Value → Shared → Prop} {s : Shared}
end
end Mine
namespace Mine
noncomputable abbrev MK := List Int × Int × Int × Int
noncomputable abbrev lvM (tab : Int) (q : MK) : Int := level q.1 q.2.1 q.2.2.2 tab
noncomputable abbrev askM (d : Bool) (a b : MK) : Option Str := askV d a.1 a.2.1 a.2.2.1 a.2.2.2 b.1 b.2.1 b.2.2.1 b.2.2.2
noncomputable def bot : MK := ([], 0, 0, 0)
theorem lv_bot {tab : Int} (h : 1 ≤ tab) : lvM tab bot = 0 := by
  have e : (-tab).toNat = 0 := by omega
  simp [lvM, bot, level, ilSum, rangeKs, e]
theorem level_nonneg {cnt : List Int} {b nt ts : Int} (hb : 0 ≤ b) (hnt : 0 ≤ nt) (hts : 1 ≤ ts) (hc : ∀ c ∈ cnt, 0 ≤ c ∧ c ≤ 64) : 0 ≤ level cnt b nt ts := by
  have h1 : ∀ l : List Int, (∀ i ∈ l, 0 ≤ i) → 0 ≤ ilSum cnt ts l := by
    intro l
    induction l with
    | nil => intro _; exact Int.le_refl _
    | cons i r ih =>
      intro h
      have h2 : 0 ≤ i.fdiv ts := Int.fdiv_nonneg (h i (.head _)) (by omega)
      have h3 := (getD_bd hc (by decide) i.toNat).1
      have h4 := Int.mul_nonneg h2 h3
      have h5 := ih fun j hj => h j (.tail _ hj)
      simp only [ilSum, List.map_cons, List.sum_cons] at h5 ⊢
      omega
  have h6 := h1 (rangeKs ts (cnt.length - ts).toNat) fun i hi => by have := mem_rangeKs.mp hi; omega
  have h7 : 0 ≤ ts * (ilSum cnt ts (rangeKs ts (cnt.length - ts).toNat) + nt) := Int.mul_nonneg (by omega) (by omega)
  show 0 ≤ b + ts * (ilSum cnt ts (rangeKs ts (cnt.length - ts).toNat) + nt)
  omega
theorem kstB_self {f : Str → Option Value} : ∀ {ps : List (Str × Value)}, (∀ q ∈ ps, f q.1 = some q.2) → kstB f ps = f := fun {ps} h => by
  funext y
  induction ps with
  | nil => rfl
  | cons q r ih =>
    have h2 := ih fun q hq => h q (.tail _ hq)
    simp only [kstB] at h2 ⊢
    split
    · rename_i e
      rw [e]; exact (h q (.head _)).symm
    · exact h2
theorem fr_abs {g h : Heap} {L : Addr} {m : Str → Option Value} (F : Fr g L h m) (ps : List (Str × Value)) (hq : ∀ q ∈ ps, m q.1 = some q.2) : ∃ m', Fr g L h (kstB m' ps) := ⟨m, by rw [kstB_self hq]; exact F⟩
/-- the goal behind a name: what is taken apart meanwhile does not repeat it -/
theorem hideG {G : Prop} (h : ∀ P : Prop, (G → P) → P) : G := h G id
end Mine
namespace Mine
noncomputable def wordsP (deeper : Bool) : Str := if deeper then Str.ofString "indent not greater e.g. at tab size" else Str.ofString "indent not equal e.g. at tab size"
noncomputable def toldW (deeper : Bool) (sizes : List Int) : Str := ((if sizes.length > 1 then wordsP deeper ++ Str.ofString "s" else wordsP deeper) ++ Str.ofString " ") ++ Txt.join (Str.ofString ", ") (sizes.map strOf)
section
variable {tab ca cb : Int} {a b : Int × Int}
theorem wordsE (d : Bool) (ts : List Int) : (if d then Str.ofString "indent not greater e.g. " else Str.ofString "indent not equal e.g. ") ++ wordsV ts = toldW d ts := by
  unfold wordsV toldW wordsP
  have e1 : Str.ofString "indent not greater e.g. " ++ Str.ofString "at tab sizes" = Str.ofString "indent not greater e.g. at tab size" ++ Str.ofString "s" := by decide
  have e2 : Str.ofString "indent not greater e.g. " ++ Str.ofString "at tab size" = Str.ofString "indent not greater e.g. at tab size" := by decide
  have e3 : Str.ofString "indent not equal e.g. " ++ Str.ofString "at tab sizes" = Str.ofString "indent not equal e.g. at tab size" ++ Str.ofString "s" := by decide
  have e4 : Str.ofString "indent not equal e.g. " ++ Str.ofString "at tab size" = Str.ofString "indent not equal e.g. at tab size" := by decide
  have as : ∀ x y z : Str, x ++ y ++ z = x ++ (y ++ z) := fun x y z => by
    show Str.mk _ = Str.mk _
    congr 1
    exact Array.append_assoc ..
  cases d <;> by_cases h : ts.length > 1 <;> simp only [h, if_true, if_false, Bool.false_eq_true] <;> simp only [← as, e1, e2, e3, e4]
end
end Mine
namespace Mine
theorem fold_stop {r : List Nat} (h : ∀ c, r.head? = some c → c ≠ 32 ∧ c ≠ 9) (cnt : List Int) (b n nt : Int) : wsFold r cnt b n nt = (cnt, b, n, nt) := by
  cases r with
  | nil => rfl
  | cons c r =>
    have := h c rfl
    rw [wsFold, if_neg this.1, if_neg this.2]
theorem ok_app (x y : Str) : PyData.strOk (x ++ y) = (PyData.strOk x && PyData.strOk y) := by
  unfold PyData.strOk
  show (x.cps ++ y.cps).all _ = _
  rw [Array.all_append]
end Mine
namespace Mine
theorem setL_eq : ∀ (vs : List Value) (k : Nat) (v : Value), k < vs.length → ki_setL vs k v = some (vs.set k v)
  | [], k, v, h => absurd h (Nat.not_lt_zero _)
  | x :: r, 0, v, h => rfl
  | x :: r, k + 1, v, h => by
    rw [ki_setL, setL_eq r k v (by simpa using h)]
    rfl
section
variable {prog : Program} {w : World} {A : Around} {E : Value → Shared → Prop} {s : Shared} {h₀ : Heap} {L l : Addr} {m : Str → Option Value} {news news' : List (Addr × Obj)} {vs : List Value} {n : Nat} {v : Value} {k : Int} {u : Tok}
theorem rangeInts_ks (a : Int) (n : Nat) : rangeInts a 1 n = rangeKs a n := by simp [rangeInts, rangeKs]
/-- list(range(a, b)) -/
theorem list_of_range {r : Addr} {a b : Int} {t u v : Tok} {n : Nat} {Q : Value → Shared → Prop} (hh : A.handled = none) (F : Fr h₀ L s.heap m) (N : News h₀ L s.heap news) (hr : IsRange s.heap r a b 1 t u v) (hsmall : Builtin.Range.small a b 1 = true) (hn : Builtin.Range.rangeSize a b 1 = (n : Int)) (hlen : n ≤ 2 ^ 24)
    (h : ∀ l h' tk ys e, Fr h₀ L h' m → News h₀ L h' ((l, listOf (ys : List Value).toArray e) :: news) → (∀ p ∈ news, p.1 < l) → IntsAre ys (rangeKs a n) → Q (.ref l) { s with heap := h', toks := tk }) : wpAny (model prog w) A (call (.type "list") [.ref r]) Q E s := by
  refine list_rangeD hh F N hr hsmall hn hlen fun h' tk ys F' N' hk hnone hl hp hc => ?_
  obtain ⟨⟨e, he⟩, _⟩ := hp
  refine h _ h' tk ys e F' (fun p hp => ?_) (fun p hp => Heap.lt_size (N p hp).1) (by rw [← rangeInts_ks]; exact IntsAre.ofCarried hc)
  rcases List.mem_cons.mp hp with rfl | hp
  · refine ⟨he, fun q => ?_, hnone⟩
    exact absurd F.ns.lt (by show ¬ L < s.heap.objs.size; rw [← q]; exact Nat.lt_irrefl _)
  · exact N' p hp
/-- an item of a tuple on the ledger -/
theorem item_tup {value slice : Expr} {a : Addr} {x : Value} {Q : Value → Shared → Prop} (N : News h₀ L s.heap news) (hm : (a, tupO vs n) ∈ news) (h0 : 0 ≤ k) (hz : vs.length < 2 ^ 60) (hx : vs[k.toNat]? = some x) (h : Q x s)
    (hs : subscripted slice false (.ref a) (.int k u) = operate [.ref a, .int k u] (getItem (.ref a) (.int k u)) := by with_unfolding_all rfl) :
    wpAny (model prog w) A (subscriptTail value slice (.ref a) (.int k u)) Q E s := by
  have hk : k.toNat < vs.length := (List.getElem?_eq_some_iff.mp hx).1
  refine item_tupleT (tup_of N hm) (by omega) (by omega) (j := k.toNat) ?_ hx h hs
  unfold seqIndex?
  (repeat' split) <;> first | rfl | omega | (simp_all; done) | (simp_all; omega)
/-- xs[k] = v of a list on the ledger -/
theorem set_at {Q : Unit → Shared → Prop} (F : Fr h₀ L s.heap m) (N : News h₀ L s.heap news) (h0 : 0 ≤ k) (hk : k.toNat < vs.length) (hs : vs.length < 2 ^ 60) (U : Upd l (listOf vs.toArray n) (listOf (vs.set k.toNat v).toArray n) news news')
    (h : ∀ h', Fr h₀ L h' m → News h₀ L h' news' → Q () { s with heap := h' }) : wpAny (model prog w) A (setItem (.ref l) (.int k u) v) Q E s :=
  ki_set F N h0 (by omega) (by rw [List.toList_toArray]; exact setL_eq vs k.toNat v hk) U h
end
theorem for_V {prog : Program} {w : World} {A : Around} {s : Shared} {env : Env} {h₀ h : Heap} {L : Addr} {m : Str → Option Value} (_F : Fr h₀ L h m) {E : Value → Shared → Prop} {Q : Flow → Shared → Prop} {x : Str} {px pos : Pos} {iter : Expr} {body : List Stmt} (hx : env.kindOf x = some .local)
    (hp : (env.scope.kind == .class || (env.scope.kind == .module && env.locals != env.globals)) = false)
    (h : wpAny (model prog w) A (eval iter env) (fun xv s₁ => wpAny (model prog w) A (pyIter xv) (fun it s₂ => LoopAtV prog w A h₀ env x body Q E it s₂) E s₁) E s)
    (hs : ∀ x, foldedSetIterable iter env x = pure x := by intro _; rfl)
    (hE : PassesOwn (model prog w) A env E := by passes_own) :
    wpAny (model prog w) A (exec (.For (.Name x px) iter body [] pos) env) Q E s := For_invV h₀ hx hp h hs hE
end Mine
namespace Mine
theorem ok_strOf (k : Int) (h : -200 ≤ k ∧ k ≤ 200) : PyData.strOk (strOf k) = true := by
  have q : ∀ n : Fin 401, PyData.strOk (strOf ((n.val : Int) - 200)) = true := by decide +kernel
  have := q ⟨(k + 200).toNat, by omega⟩
  have e : (((k + 200).toNat : Nat) : Int) - 200 = k := by omega
  rw [e] at this
  exact this
theorem ok_join {sep : Str} (hs : PyData.strOk sep = true) : ∀ l : List Str, (∀ x ∈ l, PyData.strOk x = true) → PyData.strOk (Str.join sep l) = true
  | [], _ => (by decide +kernel : PyData.strOk Str.empty = true)
  | [x], h => h x (.head _)
  | x :: y :: r, h => by
    rw [Str.join, ok_app, ok_app, h x (.head _), hs, ok_join hs (y :: r) fun z hz => h z (.tail _ hz)]
    · rfl
    · intro q; cases q
theorem ok_toldW (d : Bool) {ts : List Int} (h : ∀ t ∈ ts, -200 ≤ t ∧ t ≤ 200) : PyData.strOk (toldW d ts) = true := by
  unfold toldW
  rw [ok_app, ok_app]
  have h1 : PyData.strOk (wordsP d) = true := by cases d <;> decide +kernel
  have h2 : PyData.strOk (if ts.length > 1 then wordsP d ++ Str.ofString "s" else wordsP d) = true := by
    split
    · rw [ok_app, h1]; decide +kernel
    · exact h1
  have h3 : PyData.strOk (Txt.join (Str.ofString ", ") (ts.map strOf)) = true := by
    show PyData.strOk (Builtin.Str.glued (Str.ofString ", ") (ts.map strOf)) = true
    rw [StrLaws.glued_eq_join]
    refine ok_join (by decide +kernel) _ fun x hx => ?_
    obtain ⟨t, ht, rfl⟩ := List.mem_map.mp hx
    exact ok_strOf t (h t ht)
  rw [h2, h3]
  decide +kernel
section
end
end Mine
namespace Mine
/-- every lead: four signs at most, each a blank or a tab -/
noncomputable def leadN : Nat → List (List Nat)
  | 0 => [[]]
  | n + 1 => [] :: (leadN n).flatMap fun l => [32 :: l, 9 :: l]
noncomputable def leadS : List Str := (leadN 4).map fun l => ⟨l.toArray⟩
noncomputable def colGo (t : Int) : List Nat → Int → Int
  | [], c => c
  | x :: r, c => colGo t r (if x = 9 then c + t - c.fmod t else c + 1)
noncomputable def colV (x : Str) (t : Int) : Int := colGo t x.cps.toList 0
noncomputable abbrev lgV (x : Str) : Int := longV (wsOf x).1 (wsOf x).2.1
noncomputable def runL (x : Str) : List Int := (Txt.split x (Str.ofString "\t")).map fun p => (p.length : Int)
noncomputable def sizesF : List Int := [1, 2, 3, 4, 5, 8]
noncomputable def lessM (a b : MK) : Bool := lessV a.1 a.2.1 a.2.2.1 a.2.2.2 b.1 b.2.1 b.2.2.1 b.2.2.2
noncomputable def sameM (a b : MK) : Bool := decide (a.1 = b.1) && decide (a.2.1 = b.2.1)
noncomputable def chk1 (x : Str) : Bool := (sizesF.all fun t => lvM t (wsOf x) == colV x t && decide (0 ≤ colV x t)) && decide (0 ≤ lgV x) && decide (lgV x ≤ 4) && ((runL x).all fun z => decide (z ≤ lgV x)) && ((runL x).any fun z => z == lgV x) && decide (x.cps.size ≤ 4) && PyData.strOk x
theorem chk1_ok : (leadS.all chk1) = true := by decide +kernel
noncomputable def chk2 (x y : Str) : Bool :=
  let a := wsOf x
  let b := wsOf y
  let k := max (lgV x) (lgV y) + 1
  ([1, 2, 3, 4, 5].all fun t => !(decide (k ≤ t)) || ((decide (colV x t < colV y t) == decide (colV x 8 < colV y 8)))) &&
  (if lessM a b then (sizesF.all fun t => decide (colV x t < colV y t)) else ([1, 2, 3, 4, 5].any fun t => decide (t ≤ k) && decide (colV y t ≤ colV x t))) &&
  (if sameM a b then (sizesF.all fun t => colV x t == colV y t) else ([1, 2, 3, 4, 5].any fun t => decide (t ≤ k) && !(colV x t == colV y t)))
theorem chk2_ok : (leadS.all fun x => leadS.all fun y => chk2 x y) = true := by decide +kernel
end Mine
namespace Mine
theorem mem_leadN : ∀ (n : Nat) (l : List Nat), l.length ≤ n → (∀ c ∈ l, c = 32 ∨ c = 9) → l ∈ leadN n
  | 0, l, h, _ => by
    have : l = [] := List.eq_nil_of_length_eq_zero (by omega)
    subst this; exact .head _
  | n + 1, [], _, _ => .head _
  | n + 1, c :: l, h, hc => by
    refine .tail _ (List.mem_flatMap.mpr ⟨l, mem_leadN n l (by simpa using h) fun x hx => hc x (.tail _ hx), ?_⟩)
    rcases hc c (.head _) with rfl | rfl
    · exact .head _
    · exact .tail _ (.head _)
theorem mem_leadS {x : Str} (h : x.cps.size ≤ 4) (hc : ∀ c ∈ x.cps.toList, c = 32 ∨ c = 9) : x ∈ leadS :=
  List.mem_map.mpr ⟨x.cps.toList, mem_leadN 4 _ (by simpa using h) hc, rfl⟩
theorem sz_F {t : Int} (h : 1 ≤ t ∧ t ≤ 5 ∨ t = 8) : t ∈ sizesF := by
  have : t = 1 ∨ t = 2 ∨ t = 3 ∨ t = 4 ∨ t = 5 ∨ t = 8 := by omega
  rcases this with rfl | rfl | rfl | rfl | rfl | rfl <;> decide
theorem sz_5 {t : Int} (h : 1 ≤ t ∧ t ≤ 5) : t ∈ ([1, 2, 3, 4, 5] : List Int) := by
  have : t = 1 ∨ t = 2 ∨ t = 3 ∨ t = 4 ∨ t = 5 := by omega
  rcases this with rfl | rfl | rfl | rfl | rfl <;> decide
theorem of_5 {t : Int} (h : t ∈ ([1, 2, 3, 4, 5] : List Int)) : 1 ≤ t ∧ t ≤ 5 := by
  simp only [List.mem_cons, List.not_mem_nil, or_false] at h
  omega
section
variable {x y : Str} (hx : x ∈ leadS) (hy : y ∈ leadS)
include hx in
theorem lead_facts : (∀ t : Int, (1 ≤ t ∧ t ≤ 5 ∨ t = 8) → lvM t (wsOf x) = colV x t ∧ 0 ≤ colV x t) ∧ 0 ≤ lgV x ∧ lgV x ≤ 4 ∧ (∀ z ∈ runL x, z ≤ lgV x) ∧ (∃ z ∈ runL x, z = lgV x) ∧ x.cps.size ≤ 4 ∧ PyData.strOk x = true := by
  have h := List.all_eq_true.mp chk1_ok x hx
  unfold chk1 at h
  simp only [Bool.and_eq_true, decide_eq_true_eq, List.all_eq_true, List.any_eq_true, beq_iff_eq] at h
  obtain ⟨⟨⟨⟨⟨⟨h1, h2⟩, h3⟩, h4⟩, h5⟩, h6⟩, h7⟩ := h
  exact ⟨fun t ht => h1 t (sz_F ht), h2, h3, h4, h5, h6, h7⟩
include hx hy in
theorem pair_raw : chk2 x y = true := List.all_eq_true.mp (List.all_eq_true.mp chk2_ok x hx) y hy
include hx hy in
theorem pair_lt8 {k : Int} (h1 : lgV x < k) (h2 : lgV y < k) (h3 : k ≤ 5) : colV x k < colV y k ↔ colV x 8 < colV y 8 := by
  have h := pair_raw hx hy
  unfold chk2 at h
  simp only [Bool.and_eq_true, List.all_eq_true] at h
  have q := h.1.1 k (sz_5 ⟨by have := (lead_facts hx).2.1; omega, h3⟩)
  simp only [Bool.or_eq_true, Bool.not_eq_true', decide_eq_false_iff_not, beq_iff_eq, decide_eq_decide] at q
  rcases q with q | q
  · omega
  · exact q
include hx hy in
theorem less_all (h : lessM (wsOf x) (wsOf y) = true) {t : Int} (ht : 1 ≤ t ∧ t ≤ 5 ∨ t = 8) : colV x t < colV y t := by
  have q := pair_raw hx hy
  unfold chk2 at q
  simp only [Bool.and_eq_true, h, if_true, List.all_eq_true, decide_eq_true_eq] at q
  exact q.1.2 t (sz_F ht)
include hx hy in
theorem less_of {k : Int} (h1 : lgV x < k) (h2 : lgV y < k) (h : ∀ t, 1 ≤ t → t ≤ k → colV x t < colV y t) : lessM (wsOf x) (wsOf y) = true := by
  have q := pair_raw hx hy
  unfold chk2 at q
  cases e : lessM (wsOf x) (wsOf y) with
  | true => rfl
  | false =>
    simp only [Bool.and_eq_true, e, Bool.false_eq_true, if_false, List.any_eq_true, decide_eq_true_eq] at q
    obtain ⟨t, ht, h3, h4⟩ := q.1.2
    have := h t (of_5 ht).1 (by omega)
    omega
include hx hy in
theorem same_of {k : Int} (h1 : lgV x < k) (h2 : lgV y < k) (h : ∀ t, 1 ≤ t → t ≤ k → colV x t = colV y t) : sameM (wsOf x) (wsOf y) = true := by
  have q := pair_raw hx hy
  unfold chk2 at q
  cases e : sameM (wsOf x) (wsOf y) with
  | true => rfl
  | false =>
    simp only [Bool.and_eq_true, e, Bool.false_eq_true, if_false, List.any_eq_true, decide_eq_true_eq, Bool.not_eq_true', beq_eq_false_iff_ne] at q
    obtain ⟨t, ht, h3, h4⟩ := q.2
    exact absurd (h t (of_5 ht).1 (by omega)) h4
include hx hy in
theorem same_all (h : sameM (wsOf x) (wsOf y) = true) {t : Int} (ht : 1 ≤ t ∧ t ≤ 5 ∨ t = 8) : colV x t = colV y t := by
  have q := pair_raw hx hy
  unfold chk2 at q
  simp only [Bool.and_eq_true, h, if_true, List.all_eq_true, beq_iff_eq] at q
  exact q.2 t (sz_F ht)
end
/-- scanning back for the row that is not deeper -/
noncomputable def backC (f : Nat → Int) (c : Int) : Nat → Nat
  | 0 => 0
  | j + 1 => if f (j + 1) > c then backC f c j else j + 1
noncomputable def readGo (f : Nat → Int) : Nat → Nat → List Int → List Int
  | 0, _, hs => hs
  | k + 1, i, hs =>
    let j := backC f (f i) (i - 1)
    if f j = f i then readGo f k (i + 1) (hs ++ [hs.getD j 0]) else if j = i - 1 then readGo f k (i + 1) (hs ++ [(i : Int)]) else hs ++ [-1]
noncomputable def readV (cols : List Int) : List Int := readGo (fun i => cols.getD i 0) (cols.length - 1) 1 [0]
noncomputable def popF (f : Nat → Int) (c : Int) : List Nat → List Nat
  | [] => []
  | q :: r => if f q > c then popF f c r else q :: r
noncomputable def resD (hs : List Int) (i : Nat) (row w : Str) : Dat := .tuple [.list (hs.map .int), .int i, .str row, .str w]
noncomputable def nanGo (tab : Int) (ms : Nat → MK) (row : Nat → Str) : Nat → Nat → List Int → List Nat → Dat
  | 0, i, hs, _ => resD hs i (Str.ofString "") (Str.ofString "")
  | k + 1, i, hs, st => match st with
    | [] => .none
    | t :: r =>
      if lvM tab (ms t) < lvM tab (ms i) then
        match askM true (ms t) (ms i) with
        | none => nanGo tab ms row k (i + 1) (hs ++ [(i : Int)]) (i :: t :: r)
        | some w => resD hs i (row i) w
      else match popF (fun z => lvM tab (ms z)) (lvM tab (ms i)) (t :: r) with
        | [] => .none
        | t' :: r' =>
          if lvM tab (ms t') ≠ lvM tab (ms i) then resD hs i (Str.ofString "") (Str.ofString "lost")
          else match askM false (ms t') (ms i) with
            | none => nanGo tab ms row k (i + 1) (hs ++ [(t' : Int)]) (t' :: r')
            | some w => resD hs i (row i) w
noncomputable def namedV (a b : Str) (deeper : Bool) : List Int := (rangeKs 1 (max (lgV a) (lgV b) + 1).toNat).filter fun t => if deeper then decide (colV a t ≥ colV b t) else decide (colV a t ≠ colV b t)
noncomputable def toldR (lead row : Nat → Str) (n : Nat) (R : List Int) (stop : Nat) : Dat :=
  if stop = n then resD (R.take stop) stop (Str.ofString "") (Str.ofString "")
  else if R.getD stop 0 < 0 then resD (R.take stop) stop (Str.ofString "") (Str.ofString "lost")
  else
    let deeper := decide (R.getD stop 0 = (stop : Int))
    let over := if deeper then ((R.take stop).getD (stop - 1) 0).toNat else (R.getD stop 0).toNat
    resD (R.take stop) stop (row stop) (toldW deeper (namedV (lead over) (lead stop) deeper))
end Mine
namespace Mine
section
variable {f : Nat → Int} {H : List Int} {i m : Nat} {st r : List Nat}
/-- the stack of the blocks' heads, against the rows read so far -/
structure SI (f : Nat → Int) (H : List Int) (i : Nat) (st : List Nat) : Prop where
  pw : st.Pairwise (fun a b => f b < f a)
  sc : ∀ c, 0 ≤ c → ∃ m r, popF f c st = m :: r ∧ H.getD (backC f c (i - 1)) 0 = (m : Int) ∧ f (backC f c (i - 1)) = f m ∧ f m ≤ c
  top : ∃ m r, st = m :: r ∧ H.getD (i - 1) 0 = (m : Int) ∧ f m = f (i - 1)
  lt : ∀ m ∈ st, m < i
  hl : H.length = i
  i1 : 1 ≤ i
theorem popF_stay {c : Int} {q : Nat} {r : List Nat} (h : ¬ f q > c) : popF f c (q :: r) = q :: r := by rw [popF, if_neg h]
theorem popF_pop {c : Int} {q : Nat} {r : List Nat} (h : f q > c) : popF f c (q :: r) = popF f c r := by rw [popF, if_pos h]
theorem popF_suf (f : Nat → Int) (c : Int) : ∀ st : List Nat, ∃ pre, st = pre ++ popF f c st ∧ ∀ a ∈ pre, f a > c
  | [] => ⟨[], rfl, fun _ h => nomatch h⟩
  | q :: r => by
    by_cases h : f q > c
    · obtain ⟨pre, e, hp⟩ := popF_suf f c r
      refine ⟨q :: pre, ?_, fun a ha => ?_⟩
      · rw [popF_pop h, List.cons_append, ← e]
      · rcases List.mem_cons.mp ha with rfl | ha
        · exact h
        · exact hp a ha
    · exact ⟨[], by rw [popF_stay h]; rfl, fun _ h => nomatch h⟩
theorem popF_two {c c' : Int} (h : c < c') : ∀ st : List Nat, popF f c (popF f c' st) = popF f c st
  | [] => rfl
  | q :: r => by
    by_cases h1 : f q > c'
    · rw [popF_pop h1, popF_pop (by omega), popF_two h r]
    · rw [popF_stay h1]
theorem backC_le (f : Nat → Int) (c : Int) : ∀ k, backC f c k ≤ k
  | 0 => Nat.le_refl _
  | k + 1 => by
    rw [backC]; split
    · have := backC_le f c k; omega
    · exact Nat.le_refl _
theorem backC_stay {c : Int} {k : Nat} (h : ¬ f k > c) : backC f c k = k := by
  cases k with
  | zero => rfl
  | succ k => rw [backC, if_neg h]
theorem backC_next {c : Int} (h1 : 1 ≤ i) (h : f i > c) : backC f c i = backC f c (i - 1) := by
  obtain ⟨j, rfl⟩ : ∃ j, i = j + 1 := ⟨i - 1, by omega⟩
  rw [backC, if_pos h]; rfl
theorem getD_last (H : List Int) (x : Int) (h : H.length = i) : (H ++ [x]).getD i 0 = x := by
  rw [List.getD_eq_getElem?_getD, List.getElem?_append_right (by omega), h]; simp
theorem getD_left (H tl : List Int) {j : Nat} (h : j < H.length) : (H ++ tl).getD j 0 = H.getD j 0 := by
  simp only [List.getD_eq_getElem?_getD, List.getElem?_append_left h]
theorem SI.base (h0 : f 0 = 0) : SI f [0] 1 [0] := by
  refine ⟨List.pairwise_singleton _ _, fun c hc => ⟨0, [], popF_stay (by omega), rfl, rfl, by omega⟩, ⟨0, [], rfl, rfl, rfl⟩, fun m hm => ?_, rfl, Nat.le_refl _⟩
  rw [List.mem_singleton.mp hm]; exact Nat.zero_lt_one
theorem SI.opens (S : SI f H i (m :: r)) (h : f m < f i) : SI f (H ++ [(i : Int)]) (i + 1) (i :: m :: r) := by
  have hi := S.i1
  refine ⟨List.pairwise_cons.mpr ⟨fun b hb => ?_, S.pw⟩, fun c hc => ?_, ⟨i, _, rfl, getD_last _ _ S.hl, rfl⟩, fun z hz => ?_, by simp [S.hl], by omega⟩
  · rcases List.mem_cons.mp hb with rfl | hb
    · exact h
    · have := (List.pairwise_cons.mp S.pw).1 b hb
      omega
  · by_cases hq : f i > c
    · obtain ⟨z, t, e1, e2, e3, e4⟩ := S.sc c hc
      refine ⟨z, t, by rw [popF_pop hq]; exact e1, ?_, ?_, e4⟩
      · rw [Nat.add_sub_cancel, backC_next hi hq, getD_left _ _ (by have := backC_le f c (i - 1); rw [S.hl]; omega)]; exact e2
      · rw [Nat.add_sub_cancel, backC_next hi hq]; exact e3
    · refine ⟨i, _, popF_stay hq, ?_, ?_, by omega⟩
      · rw [Nat.add_sub_cancel, backC_stay hq]; exact getD_last _ _ S.hl
      · rw [Nat.add_sub_cancel, backC_stay hq]
  · rcases List.mem_cons.mp hz with rfl | hz
    · omega
    · have := S.lt z hz; omega
theorem SI.same (S : SI f H i st) (hp : popF f (f i) st = m :: r) (h : f m = f i) : SI f (H ++ [(m : Int)]) (i + 1) (m :: r) := by
  have hi := S.i1
  obtain ⟨pre, e, hpre⟩ := popF_suf f (f i) st
  rw [hp] at e
  have pw := S.pw
  rw [e] at pw
  refine ⟨(List.pairwise_append.mp pw).2.1, fun c hc => ?_, ⟨m, r, rfl, getD_last _ _ S.hl, h⟩, fun z hz => ?_, by simp [S.hl], by omega⟩
  · by_cases hq : f i > c
    · obtain ⟨z, t, e1, e2, e3, e4⟩ := S.sc c hc
      refine ⟨z, t, by rw [← hp, popF_two hq]; exact e1, ?_, ?_, e4⟩
      · rw [Nat.add_sub_cancel, backC_next hi hq, getD_left _ _ (by have := backC_le f c (i - 1); rw [S.hl]; omega)]; exact e2
      · rw [Nat.add_sub_cancel, backC_next hi hq]; exact e3
    · refine ⟨m, _, popF_stay (by omega), ?_, ?_, by omega⟩
      · rw [Nat.add_sub_cancel, backC_stay hq]; exact getD_last _ _ S.hl
      · rw [Nat.add_sub_cancel, backC_stay hq]; exact h.symm
  · have := S.lt z (by rw [e]; exact List.mem_append.mpr (.inr hz)); omega
/-- the three ways a row may stand to the rows over it -/
inductive StepI (f : Nat → Int) (H : List Int) (i : Nat) (st : List Nat) : Prop
  | opens (m : Nat) (r : List Nat) (e : st = m :: r) (h : f m < f i) (t : H.getD (i - 1) 0 = (m : Int)) (g : ∀ k, readGo f (k + 1) i H = readGo f k (i + 1) (H ++ [(i : Int)])) : StepI f H i st
  | same (m0 : Nat) (r0 : List Nat) (m : Nat) (r : List Nat) (e : st = m0 :: r0) (h : ¬ f m0 < f i) (p : popF f (f i) st = m :: r) (q : f m = f i) (l : m < i) (g : ∀ k, readGo f (k + 1) i H = readGo f k (i + 1) (H ++ [(m : Int)])) : StepI f H i st
  | lost (m0 : Nat) (r0 : List Nat) (m : Nat) (r : List Nat) (e : st = m0 :: r0) (h : ¬ f m0 < f i) (p : popF f (f i) st = m :: r) (q : f m < f i) (g : ∀ k, readGo f (k + 1) i H = H ++ [-1]) : StepI f H i st
theorem SI.step (S : SI f H i st) (h0 : 0 ≤ f i) : StepI f H i st := by
  obtain ⟨m0, r0, t1, t2, t3⟩ := S.top
  obtain ⟨m, r, e1, e2, e3, e4⟩ := S.sc (f i) h0
  by_cases h : f m0 < f i
  · refine .opens m0 r0 t1 h t2 fun k => ?_
    have hb : backC f (f i) (i - 1) = i - 1 := backC_stay (by omega)
    rw [readGo]
    simp only [hb]
    rw [if_neg (by omega)]
    first | rw [if_pos rfl] | simp
  · by_cases hq : f m = f i
    · refine .same m0 r0 m r t1 h e1 hq ?_ fun k => ?_
      · obtain ⟨pre, e, _⟩ := popF_suf f (f i) st
        exact S.lt m (by rw [e, e1]; exact List.mem_append.mpr (.inr (.head _)))
      · rw [readGo]
        (try simp only [])
        rw [if_pos (by omega), e2]
    · refine .lost m0 r0 m r t1 h e1 (by omega) fun k => ?_
      rw [readGo]
      (try simp only [])
      rw [if_neg (by omega), if_neg (fun q => by rw [q] at e3; omega)]
theorem readGo_pre (f : Nat → Int) : ∀ (k i : Nat) (H : List Int), ∃ tl, readGo f k i H = H ++ tl
  | 0, _, H => ⟨[], by rw [readGo, List.append_nil]⟩
  | k + 1, i, H => by
    rw [readGo]
    (try simp only [])
    split
    · obtain ⟨tl, e⟩ := readGo_pre f k (i + 1) (H ++ [H.getD (backC f (f i) (i - 1)) 0])
      exact ⟨_ :: tl, by rw [e, List.append_assoc]; rfl⟩
    · split
      · obtain ⟨tl, e⟩ := readGo_pre f k (i + 1) (H ++ [(i : Int)])
        exact ⟨_ :: tl, by rw [e, List.append_assoc]; rfl⟩
      · exact ⟨[-1], rfl⟩
theorem read_at {k : Nat} {x : Int} (h : H.length = i) : (readGo f k (i + 1) (H ++ [x])).getD i 0 = x ∧ (readGo f k (i + 1) (H ++ [x])).take i = H := by
  obtain ⟨tl, e⟩ := readGo_pre f k (i + 1) (H ++ [x])
  rw [e, List.append_assoc]
  constructor
  · rw [List.getD_eq_getElem?_getD, List.getElem?_append_right (by omega), h]; simp
  · rw [← h, List.take_left]
theorem readGo_same {g : Nat → Int} {n : Nat} (hfg : ∀ a b, a < n → b < n → (f a < f b ↔ g a < g b)) : ∀ (k i : Nat) (H : List Int), 1 ≤ i → i + k = n → readGo f k i H = readGo g k i H
  | 0, _, _, _, _ => rfl
  | k + 1, i, H, h1, h2 => by
    have hb : ∀ j, j < n → backC f (f i) j = backC g (g i) j := by
      intro j
      induction j with
      | zero => intro _; rfl
      | succ j ih =>
        intro hj
        rw [backC, backC]
        by_cases q : f i < f (j + 1)
        · rw [if_pos q, if_pos ((hfg _ _ (by omega) hj).mp q), ih (by omega)]
        · rw [if_neg q, if_neg (fun z => q ((hfg _ _ (by omega) hj).mpr z))]
    have e := hb (i - 1) (by omega)
    rw [readGo, readGo]
    (try simp only [])
    rw [e]
    have hj := backC_le g (g i) (i - 1)
    have he : f (backC g (g i) (i - 1)) = f i ↔ g (backC g (g i) (i - 1)) = g i := by
      have q1 := hfg (backC g (g i) (i - 1)) i (by omega) (by omega)
      have q2 := hfg i (backC g (g i) (i - 1)) (by omega) (by omega)
      omega
    rw [readGo_same hfg k (i + 1) _ (by omega) (by omega), readGo_same hfg k (i + 1) _ (by omega) (by omega)]
    by_cases q : g (backC g (g i) (i - 1)) = g i
    · rw [if_pos q, if_pos (he.mpr q)]
    · rw [if_neg q, if_neg (fun z => q (he.mp z))]
theorem suf_one : ∀ {p1 p2 r1 r2 : List Nat}, (p1 ++ m :: r1).Pairwise (fun a b => f b < f a) → p1 ++ m :: r1 = p2 ++ m :: r2 → r1 = r2
  | [], [], _, _, _, e => (List.cons.inj e).2
  | [], x :: p2, r1, r2, h, e => by
    obtain ⟨e1, e2⟩ := List.cons.inj e
    have : m ∈ r1 := by rw [e2]; exact List.mem_append.mpr (.inr (.head _))
    have := (List.pairwise_cons.mp h).1 m this
    omega
  | x :: p1, [], r1, r2, h, e => by
    obtain ⟨e1, e2⟩ := List.cons.inj e
    have := (List.pairwise_cons.mp h).1 m (List.mem_append.mpr (.inr (.head _)))
    rw [e1] at this
    omega
  | x :: p1, y :: p2, r1, r2, h, e => suf_one (List.pairwise_cons.mp h).2 (List.cons.inj e).2
theorem pop_to {c : Int} : ∀ {pre : List Nat}, (∀ a ∈ pre, f a > c) → f m ≤ c → popF f c (pre ++ m :: r) = m :: r
  | [], _, h => popF_stay (by omega)
  | x :: pre, hp, h => by rw [List.cons_append, popF_pop (hp x (.head _)), pop_to (fun a ha => hp a (.tail _ ha)) h]
end
theorem words_less {x y : Str} (hx : x ∈ leadS) (hy : y ∈ leadS) (h : lessM (wsOf x) (wsOf y) = false) : askM true (wsOf x) (wsOf y) = some (toldW true (namedV x y true)) := by
  have e : askM true (wsOf x) (wsOf y) = _ := askV_ng rfl h
  rw [e]
  unfold ngWords
  have q := wordsE true (nlW (wsOf x).1 (wsOf x).2.1 (wsOf x).2.2.2 (wsOf y).1 (wsOf y).2.1 (wsOf y).2.2.2 (rangeKs 1 (topN (wsOf x).1 (wsOf x).2.1 (wsOf y).1 (wsOf y).2.1)))
  rw [if_pos rfl] at q
  rw [q]
  congr 2
  unfold nlW namedV topN
  refine List.filter_congr fun t ht => ?_
  have ht := mem_rangeKs.mp ht
  have fx := lead_facts hx
  have fy := lead_facts hy
  have bx : longV (wsOf x).1 (wsOf x).2.1 ≤ 4 := fx.2.2.1
  have b_y : longV (wsOf y).1 (wsOf y).2.1 ≤ 4 := fy.2.2.1
  have bt : 1 ≤ t ∧ t ≤ 5 := by simp only [topV] at ht; omega
  have e1 := (fx.1 t (.inl bt)).1
  have e2 := (fy.1 t (.inl bt)).1
  rw [if_pos rfl, ← e1, ← e2]
theorem words_same {x y : Str} (hx : x ∈ leadS) (hy : y ∈ leadS) (h : sameM (wsOf x) (wsOf y) = false) : askM false (wsOf x) (wsOf y) = some (toldW false (namedV x y false)) := by
  have e : askM false (wsOf x) (wsOf y) = _ := askV_ne (by
    unfold sameM at h
    rw [Bool.and_eq_false_iff, decide_eq_false_iff_not, decide_eq_false_iff_not] at h
    rw [decide_eq_false_iff_not]
    rintro ⟨a, b⟩
    rcases h with h | h
    · exact h a
    · exact h b)
  rw [e]
  unfold neWords
  have q := wordsE false (neW (wsOf x).1 (wsOf x).2.1 (wsOf x).2.2.2 (wsOf y).1 (wsOf y).2.1 (wsOf y).2.2.2 (rangeKs 1 (topN (wsOf x).1 (wsOf x).2.1 (wsOf y).1 (wsOf y).2.1)))
  rw [if_neg Bool.false_ne_true] at q
  rw [q]
  congr 2
  unfold neW namedV topN
  refine List.filter_congr fun t ht => ?_
  have ht := mem_rangeKs.mp ht
  have fx := lead_facts hx
  have fy := lead_facts hy
  have bx : longV (wsOf x).1 (wsOf x).2.1 ≤ 4 := fx.2.2.1
  have b_y : longV (wsOf y).1 (wsOf y).2.1 ≤ 4 := fy.2.2.1
  have bt : 1 ≤ t ∧ t ≤ 5 := by simp only [topV] at ht; omega
  have e1 := (fx.1 t (.inl bt)).1
  have e2 := (fy.1 t (.inl bt)).1
  rw [if_neg Bool.false_ne_true, ← e1, ← e2]
theorem ask_less {x y : Str} (h : lessM (wsOf x) (wsOf y) = true) : askM true (wsOf x) (wsOf y) = none := askV_less rfl h
theorem ask_same {x y : Str} (h : sameM (wsOf x) (wsOf y) = true) : askM false (wsOf x) (wsOf y) = none := askV_eq (by
  unfold sameM at h
  rw [Bool.and_eq_true, decide_eq_true_eq, decide_eq_true_eq] at h
  exact decide_eq_true h)
section
variable {lead row : Nat → Str} {n stop : Nat} {K : Int} (hl : ∀ i, lead i ∈ leadS) (hw : ∀ i, wsOf (row i) = wsOf (lead i)) (hK : 1 ≤ K ∧ K ≤ 5) (hg : ∀ i, lgV (lead i) < K)
/-- what a reading at size t says -/
noncomputable abbrev RV (lead : Nat → Str) (n : Nat) (t : Int) : List Int := readGo (fun i => colV (lead i) t) (n - 1) 1 [0]
noncomputable def Agree (lead : Nat → Str) (n : Nat) (K : Int) (i : Nat) : Prop := 0 ≤ (RV lead n 1).getD i 0 ∧ ∀ t : Int, 1 ≤ t → t ≤ K → (RV lead n t).getD i 0 = (RV lead n 1).getD i 0
include hl hK hg in
theorem read8 (hn : 1 ≤ n) : RV lead n 8 = RV lead n K :=
  (readGo_same (n := n) (fun a b _ _ => pair_lt8 (hl a) (hl b) (hg a) (hg b) hK.2) (n - 1) 1 [0] (Nat.le_refl _) (by omega)).symm
include hl hw hK hg in
theorem plain_step (hn : 1 ≤ n) (hs1 : stop ≤ n) (hag : ∀ i, 1 ≤ i → i < stop → Agree lead n K i) (hst : stop = n ∨ ¬ Agree lead n K stop) :
    ∀ (k i : Nat) (H : List Int) (st : List Nat), i + k = n → i ≤ stop → (∀ t : Int, (1 ≤ t ∧ t ≤ K ∨ t = 8) → SI (fun j => colV (lead j) t) H i st) → (∀ t : Int, (1 ≤ t ∧ t ≤ K ∨ t = 8) → RV lead n t = readGo (fun j => colV (lead j) t) k i H) →
      ∀ s : Int, (1 ≤ s ∧ s ≤ K ∨ s = 8) → nanGo s (fun j => wsOf (row j)) row k i H st = toldR lead row n (RV lead n s) stop := by
  intro k
  induction k with
  | zero =>
    intro i H st h1 h2 hS hR s hs
    have e : stop = n := by omega
    subst e
    have ei : i = stop := by omega
    subst ei
    rw [nanGo, toldR, if_pos rfl, hR s hs, readGo, ← (hS s hs).hl, List.take_length]
  | succ k ih =>
    intro i H st h1 h2 hS hR s hs
    have hcol : ∀ (t : Int) j, (1 ≤ t ∧ t ≤ K ∨ t = 8) → 0 ≤ colV (lead j) t := fun t j ht => ((lead_facts (hl j)).1 t (by omega)).2
    have hlv : (fun z => lvM s (wsOf (row z))) = fun j => colV (lead j) s := by
      funext z
      rw [hw z]
      exact ((lead_facts (hl z)).1 s (by omega)).1
    have hlv1 : ∀ z, lvM s (wsOf (row z)) = colV (lead z) s := fun z => congrFun hlv z
    have hi1 := (hS s hs).i1
    have hval : ∀ t : Int, (1 ≤ t ∧ t ≤ K ∨ t = 8) → ∀ x : Int, (∀ k, readGo (fun j => colV (lead j) t) (k + 1) i H = readGo (fun j => colV (lead j) t) k (i + 1) (H ++ [x])) → (RV lead n t).getD i 0 = x ∧ (RV lead n t).take i = H ∧ RV lead n t = readGo (fun j => colV (lead j) t) k (i + 1) (H ++ [x]) := fun t ht x hx => by
      have e := hR t ht
      rw [hx k] at e
      rw [e]
      have q := read_at (f := fun j => colV (lead j) t) (k := k) (x := x) (hS t ht).hl
      exact ⟨q.1, q.2, rfl⟩
    have hneg : ∀ t : Int, (1 ≤ t ∧ t ≤ K ∨ t = 8) → (∀ k, readGo (fun j => colV (lead j) t) (k + 1) i H = H ++ [-1]) → (RV lead n t).getD i 0 = -1 ∧ (RV lead n t).take i = H := fun t ht hx => by
      have e := hR t ht
      rw [hx k] at e
      rw [e]
      refine ⟨getD_last _ _ (hS t ht).hl, ?_⟩
      rw [← (hS t ht).hl, List.take_left]
    by_cases hlt : i < stop
    · -- the readings agree at this row
      obtain ⟨a0, a1⟩ := hag i hi1 hlt
      have hall : ∀ t : Int, (1 ≤ t ∧ t ≤ K ∨ t = 8) → (RV lead n t).getD i 0 = (RV lead n 1).getD i 0 := fun t ht => by
        rcases ht with ht | rfl
        · exact a1 t ht.1 ht.2
        · rw [read8 hl hK hg hn]; exact a1 K hK.1 (Int.le_refl _)
      rcases (hS s hs).step (hcol s i hs) with ⟨m0, r0, e1, e2, e3, e4⟩ | ⟨m0, r0, m, r, e1, e2, e3, e4, e5, e6⟩ | ⟨m0, r0, m, r, e1, e2, e3, e4, e5⟩
      · subst e1
        have v0 := hall s hs
        rw [(hval s hs _ e4).1] at v0
        have hB : ∀ t : Int, (1 ≤ t ∧ t ≤ K ∨ t = 8) → colV (lead m0) t < colV (lead i) t ∧ ∀ k, readGo (fun j => colV (lead j) t) (k + 1) i H = readGo (fun j => colV (lead j) t) k (i + 1) (H ++ [(i : Int)]) := fun t ht => by
          have v1 := hall t ht
          rw [← v0] at v1
          rcases (hS t ht).step (hcol t i ht) with ⟨m1, r1, f1, f2, f3, f4⟩ | ⟨m1, r1, m, r, f1, f2, f3, f4, f5, f6⟩ | ⟨m1, r1, m, r, f1, f2, f3, f4, f5⟩
          · cases f1; exact ⟨f2, f4⟩
          · rw [(hval t ht _ f6).1] at v1; omega
          · rw [(hneg t ht f5).1] at v1; omega
        rw [nanGo]
        simp only [hlv1]
        rw [if_pos (hB s hs).1, hw m0, hw i, ask_less (less_of (hl m0) (hl i) (hg m0) (hg i) fun t t1 t2 => (hB t (.inl ⟨t1, t2⟩)).1)]
        exact ih (i + 1) _ _ (by omega) (by omega) (fun t ht => (hS t ht).opens (hB t ht).1) (fun t ht => (hval t ht _ (hB t ht).2).2.2) s hs
      · subst e1
        have v0 := hall s hs
        rw [(hval s hs _ e6).1] at v0
        have hA : ∀ t : Int, (1 ≤ t ∧ t ≤ K ∨ t = 8) → popF (fun j => colV (lead j) t) (colV (lead i) t) (m0 :: r0) = m :: r ∧ colV (lead m) t = colV (lead i) t ∧ ∀ k, readGo (fun j => colV (lead j) t) (k + 1) i H = readGo (fun j => colV (lead j) t) k (i + 1) (H ++ [(m : Int)]) := fun t ht => by
          have v1 := hall t ht
          rw [← v0] at v1
          rcases (hS t ht).step (hcol t i ht) with ⟨m1, r1, f1, f2, f3, f4⟩ | ⟨m1, r1, m', r', f1, f2, f3, f4, f5, f6⟩ | ⟨m1, r1, m', r', f1, f2, f3, f4, f5⟩
          · rw [(hval t ht _ f4).1] at v1; omega
          · rw [(hval t ht _ f6).1] at v1
            have em : m' = m := by omega
            subst em
            obtain ⟨p1, q1, _⟩ := popF_suf (fun j => colV (lead j) s) (colV (lead i) s) (m0 :: r0)
            obtain ⟨p2, q2, _⟩ := popF_suf (fun j => colV (lead j) t) (colV (lead i) t) (m0 :: r0)
            rw [e3] at q1
            rw [f3] at q2
            have pw := (hS s hs).pw
            rw [q1] at pw
            have er := suf_one pw (q1.symm.trans q2)
            subst er
            exact ⟨f3, f4, f6⟩
          · rw [(hneg t ht f5).1] at v1; omega
        rw [nanGo]
        simp only [hlv1, hlv]
        rw [if_neg e2, (hA s hs).1]
        (try simp only [])
        rw [if_neg (fun q => q (hA s hs).2.1), hw m, hw i, ask_same (same_of (hl m) (hl i) (hg m) (hg i) fun t t1 t2 => (hA t (.inl ⟨t1, t2⟩)).2.1)]
        exact ih (i + 1) _ _ (by omega) (by omega) (fun t ht => (hS t ht).same (hA t ht).1 (hA t ht).2.1) (fun t ht => (hval t ht _ (hA t ht).2.2).2.2) s hs
      · have v0 := hall s hs
        rw [(hneg s hs e5).1] at v0
        omega
    · -- the first row that is not read alike
      have ei : i = stop := by omega
      subst ei
      have hna : ¬ Agree lead n K i := hst.resolve_left (by omega)
      rw [toldR, if_neg (by omega)]
      rcases (hS s hs).step (hcol s i hs) with ⟨m0, r0, e1, e2, e3, e4⟩ | ⟨m0, r0, m, r, e1, e2, e3, e4, e5, e6⟩ | ⟨m0, r0, m, r, e1, e2, e3, e4, e5⟩
      · subst e1
        have hv := hval s hs _ e4
        have hno : lessM (wsOf (lead m0)) (wsOf (lead i)) = false := by
          cases q : lessM (wsOf (lead m0)) (wsOf (lead i)) with
          | false => rfl
          | true =>
            exfalso
            have hB : ∀ t : Int, (1 ≤ t ∧ t ≤ K ∨ t = 8) → (RV lead n t).getD i 0 = (i : Int) := fun t ht => by
              have hc := less_all (hl m0) (hl i) q (t := t) (by omega)
              rcases (hS t ht).step (hcol t i ht) with ⟨m1, r1, f1, f2, f3, f4⟩ | ⟨m1, r1, m, r, f1, f2, f3, f4, f5, f6⟩ | ⟨m1, r1, m, r, f1, f2, f3, f4, f5⟩
              · exact (hval t ht _ f4).1
              · cases f1; exact absurd hc f2
              · cases f1; exact absurd hc f2
            refine hna ⟨?_, fun t t1 t2 => ?_⟩
            · rw [hB 1 (.inl ⟨by omega, hK.1⟩)]; omega
            · rw [hB 1 (.inl ⟨by omega, hK.1⟩), hB t (.inl ⟨t1, t2⟩)]
        rw [nanGo]
        simp only [hlv1]
        rw [if_pos e2, hw m0, hw i, words_less (hl m0) (hl i) hno]
        rw [hv.1, hv.2.1, if_neg (by omega), decide_eq_true rfl]
        simp only [if_true, e3, Int.toNat_natCast]
      · subst e1
        have hv := hval s hs _ e6
        have hno : sameM (wsOf (lead m)) (wsOf (lead i)) = false := by
          cases q : sameM (wsOf (lead m)) (wsOf (lead i)) with
          | false => rfl
          | true =>
            exfalso
            have hB : ∀ t : Int, (1 ≤ t ∧ t ≤ K ∨ t = 8) → (RV lead n t).getD i 0 = (m : Int) := fun t ht => by
              have hc := same_all (hl m) (hl i) q (t := t) (by omega)
              obtain ⟨p1, q1, _⟩ := popF_suf (fun j => colV (lead j) s) (colV (lead i) s) (m0 :: r0)
              rw [e3] at q1
              have pw := (hS t ht).pw
              rw [q1] at pw
              have hp := List.pairwise_append.mp pw
              have hpop : popF (fun j => colV (lead j) t) (colV (lead i) t) (m0 :: r0) = m :: r := by
                rw [q1]
                exact pop_to (fun a ha => by have := hp.2.2 a ha m (.head _); (try dsimp only at this ⊢); omega) (by (try dsimp only); omega)
              rcases (hS t ht).step (hcol t i ht) with ⟨m1, r1, f1, f2, f3, f4⟩ | ⟨m1, r1, m', r', f1, f2, f3, f4, f5, f6⟩ | ⟨m1, r1, m', r', f1, f2, f3, f4, f5⟩
              · cases f1
                (try dsimp only at f2)
                rw [popF_stay (by (try dsimp only); omega)] at hpop
                cases hpop
                omega
              · cases f1
                rw [hpop] at f3
                cases f3
                exact (hval t ht _ f6).1
              · cases f1
                rw [hpop] at f3
                cases f3
                (try dsimp only at f4)
                omega
            refine hna ⟨?_, fun t t1 t2 => ?_⟩
            · rw [hB 1 (.inl ⟨by omega, hK.1⟩)]; omega
            · rw [hB 1 (.inl ⟨by omega, hK.1⟩), hB t (.inl ⟨t1, t2⟩)]
        rw [nanGo]
        simp only [hlv1, hlv]
        rw [if_neg e2, e3]
        (try simp only [])
        rw [if_neg (fun q => q e4), hw m, hw i, words_same (hl m) (hl i) hno]
        rw [hv.1, hv.2.1, if_neg (by omega), decide_eq_false (by omega)]
        simp only [Bool.false_eq_true, if_false, Int.toNat_natCast]
      · subst e1
        have hv := hneg s hs e5
        rw [nanGo]
        simp only [hlv1, hlv]
        rw [if_neg e2, e3]
        (try simp only [])
        rw [if_pos (by (try dsimp only at e4); omega), hv.1, hv.2, if_pos (by omega)]
include hl hw hK hg in
theorem plain01 (h0 : lead 0 = Str.ofString "") (hn : 1 ≤ n) (h1 : 1 ≤ stop) (hs1 : stop ≤ n) (hag : ∀ i, 1 ≤ i → i < stop → Agree lead n K i) (hst : stop = n ∨ ¬ Agree lead n K stop) (s : Int) (hs : 1 ≤ s ∧ s ≤ K ∨ s = 8) :
    nanGo s (fun j => wsOf (row j)) row (n - 1) 1 [0] [0] = toldR lead row n (RV lead n s) stop :=
  plain_step hl hw hK hg hn hs1 hag hst (n - 1) 1 [0] [0] (by omega) h1 (fun t _ => SI.base (by (try dsimp only); rw [h0]; rfl)) (fun _ _ => rfl) s hs
end
end Mine
open PySem.Builtin.Str (strSub glued strSliceIndices)
namespace Mine
/-- a text of blanks and tabs alone -/
noncomputable def BT (x : Str) : Prop := ∀ c ∈ x.cps.toList, c = 32 ∨ c = 9
theorem bt_nil : BT (Str.ofString "") := fun c h => by
  have e : (Str.ofString "").cps.toList = [] := by decide
  rw [e] at h; cases h
theorem app_size (x y : Str) : (x ++ y).cps.size = x.cps.size + y.cps.size := by
  show (x.cps ++ y.cps).size = _
  rw [Array.size_append]
theorem bt_app {x y : Str} (hx : BT x) (hy : BT y) : BT (x ++ y) := fun c h => by
  rw [cps_toList_append] at h
  rcases List.mem_append.mp h with h | h
  · exact hx c h
  · exact hy c h
theorem bt_mul {c : Nat} {y : Str} (hy : y = ⟨#[c]⟩) (hc : c = 32 ∨ c = 9) (n : Int) : BT (Txt.mul y n) := fun z h => by
  subst hy
  rw [mul_one_list] at h
  rw [List.eq_of_mem_replicate h]; exact hc
theorem bt_sub {x : Str} (hx : BT x) (i j : Nat) : BT (strSub x i j) := fun c h => by
  refine hx c ?_
  have h2 : c ∈ (x.cps.extract i j).toList := h
  rw [Array.toList_extract] at h2
  exact List.mem_of_mem_drop (List.mem_of_mem_take h2)
theorem bt_from {x : Str} (hx : BT x) (w : Nat) : ∀ (cuts : List Nat) (a : Nat), ∀ p ∈ StrLaws.partsFrom x w a cuts, BT p
  | [], a, p, hp => by rw [List.mem_singleton.mp hp]; exact bt_sub hx _ _
  | c :: r, a, p, hp => by
    rcases List.mem_cons.mp hp with rfl | hp'
    · exact bt_sub hx _ _
    · exact bt_from hx w r _ p hp'
theorem bt_part {x y a : Str} (hx : BT x) (h : a ∈ Txt.split x y) : BT a := by
  unfold Txt.split at h
  split at h
  · rw [List.mem_singleton.mp h]; exact hx
  · split at h
    · rw [List.mem_singleton.mp h]; exact hx
    · rw [StrLaws.partsBetween_eq] at h
      exact bt_from hx _ _ _ a h
theorem bt_glue {g : Str} (hg : BT g) : ∀ (ys : List Str) (acc : Array Nat), (∀ c ∈ acc.toList, c = 32 ∨ c = 9) → (∀ y ∈ ys, BT y) → ∀ c ∈ (ys.foldl (fun acc p => acc ++ g.cps ++ p.cps) acc).toList, c = 32 ∨ c = 9
  | [], acc, ha, _, c, h => ha c h
  | y :: r, acc, ha, hy, c, h => by
    refine bt_glue hg r (acc ++ g.cps ++ y.cps) (fun c h => ?_) (fun z hz => hy z (.tail _ hz)) c h
    rw [Array.toList_append, Array.toList_append] at h
    rcases List.mem_append.mp h with h | h
    · rcases List.mem_append.mp h with h | h
      · exact ha c h
      · exact hg c h
    · exact hy y (.head _) c h
theorem bt_join {g : Str} (hg : BT g) {ys : List Str} (hy : ∀ y ∈ ys, BT y) : BT (Txt.join g ys) := fun c h => by
  unfold Txt.join glued at h
  cases ys with
  | nil => exact bt_glue hg [] _ (fun c h => by cases h) (fun _ h => nomatch h) c h
  | cons y r => exact bt_glue hg r y.cps (hy y (.head _)) (fun z hz => hy z (.tail _ hz)) c h
theorem glue_size {g : Str} {k n : Nat} (hg : g.cps.size ≤ k) : ∀ (ys : List Str) (acc : Array Nat), (∀ y ∈ ys, y.cps.size ≤ n) → (ys.foldl (fun acc p => acc ++ g.cps ++ p.cps) acc).size ≤ acc.size + ys.length * (k + n)
  | [], acc, _ => by simp
  | y :: r, acc, hy => by
    have h1 := glue_size hg r (acc ++ g.cps ++ y.cps) (fun z hz => hy z (.tail _ hz))
    have h2 := hy y (.head _)
    rw [Array.size_append, Array.size_append] at h1
    simp only [List.length_cons, List.foldl_cons]
    rw [Nat.succ_mul]
    omega
theorem join_size {g : Str} {k n N : Nat} (hg : g.cps.size ≤ k) {ys : List Str} (hy : ∀ y ∈ ys, y.cps.size ≤ n) (hN : ys.length ≤ N) : (Txt.join g ys).cps.size ≤ n + N * (k + n) := by
  unfold Txt.join glued
  cases ys with
  | nil => exact Nat.zero_le _
  | cons y r =>
    have h1 := glue_size (n := n) hg r y.cps (fun z hz => hy z (.tail _ hz))
    have h2 := hy y (.head _)
    have h3 : r.length * (k + n) ≤ N * (k + n) := Nat.mul_le_mul_right _ (by simp only [List.length_cons] at hN; omega)
    show (r.foldl (fun acc p => acc ++ g.cps ++ p.cps) y.cps).size ≤ _
    omega
theorem wsFold_app {l : List Nat} (hl : ∀ c ∈ l, c = 32 ∨ c = 9) {r : List Nat} (hr : ∀ c, r.head? = some c → c ≠ 32 ∧ c ≠ 9) : ∀ (cnt : List Int) (b n nt : Int), wsFold (l ++ r) cnt b n nt = wsFold l cnt b n nt := by
  induction l with
  | nil => intro cnt b n nt; exact fold_stop hr cnt b n nt
  | cons c l ih =>
    intro cnt b n nt
    have h2 := ih (fun z hz => hl z (.tail _ hz))
    rw [List.cons_append, wsFold, wsFold]
    rw [h2, h2]
theorem ws_bt {x tl : Str} (hx : BT x) (h : ∀ c, tl.cps[0]? = some c → c ≠ 32 ∧ c ≠ 9) : wsOf (x ++ tl) = wsOf x := by
  unfold wsOf
  rw [cps_toList_append]
  exact wsFold_app hx (fun c hc => h c (by rw [← hc]; cases tl with | mk a => cases a with | mk l => cases l <;> rfl)) [] 0 0 0
theorem bt_ok {x : Str} (hx : BT x) : PyData.strOk x = true := by
  unfold PyData.strOk
  rw [← Array.all_toList, List.all_eq_true]
  intro c hc
  rcases hx c hc with rfl | rfl <;> decide
theorem slice_le {x : Str} (lo hi : Option Int) : (Txt.slice x lo hi).cps.size ≤ x.cps.size := Txt.slice_le x lo hi
theorem bt_slice {x : Str} (hx : BT x) (lo hi : Option Int) : BT (Txt.slice x lo hi) := by
  unfold Txt.slice
  split
  · exact hx
  · intro c hc
    have h2 : c ∈ ((strSliceIndices lo hi 1 x.length).filterMap (x.cps[·]?)).toArray.toList := hc
    rw [List.toList_toArray] at h2
    obtain ⟨i, _, hi2⟩ := List.mem_filterMap.mp h2
    have h3 := Array.mem_of_getElem? hi2
    exact hx c (Array.mem_toList_iff.mpr h3)
theorem idx4 (n : Nat) : (strSliceIndices none (some 4) 1 n).length ≤ 4 := by
  unfold strSliceIndices sliceRange
  simp only [show (1 : Int) > 0 by decide, if_true, List.length_map, List.length_range]
  (repeat' split) <;> (try simp only [Int.ediv_one]) <;> omega
theorem slice4 (x : Str) : (Txt.slice x none (some 4)).cps.size ≤ 4 := by
  unfold Txt.slice
  split
  · rename_i h
    rw [Bool.and_eq_true] at h
    have h3 : x.length ≤ 4 := by
      have := beq_iff_eq.mp h.2
      have := idx4 x.length
      omega
    exact h3
  · show (List.filterMap _ (strSliceIndices none (some 4) 1 x.length)).toArray.size ≤ 4
    rw [List.size_toArray]
    exact Nat.le_trans (List.length_filterMap_le _ _) (idx4 x.length)
end Mine
namespace Mine
section
variable {prog : Program} {w : World} {A : Around} {E : Value → Shared → Prop} {s : Shared} {env : Env} {x : Str} {px pos : Pos} {body : List Stmt} {Q : Flow → Shared → Prop} {L : Addr}
/-- a for over a list on the ledger; its name is stored as the text says (a cell too) -/
theorem for_listC {l : Addr} {vs : List Value} {nn : Nat} {g : Heap} {m : Str → Option Value} {led : List (Addr × Obj)} (J : Nat → Heap → (Str → Option Value) → List (Addr × Obj) → Array GenState → Prop)
    (hh : A.handled = none) (hE : PassesOwn (model prog w) A env E) (F : Fr g L s.heap m) (N : News g L s.heap led) (hfix : ∀ i gr m' led' gs, J i gr m' led' gs → (l, listOf vs.toArray nn) ∈ led') (hJ : J 0 g m led s.gens)
    (turn : ∀ i v I o gr m' led' gs h tk, vs[i]? = some v → J i gr m' led' gs → (∀ p ∈ led', p.1 ≠ I) → Fr gr L h m' → News gr L h ((I, o) :: led') →
      wpAny (model prog w) A (assign (.Name x px) env v) (fun _ s₂ => wpAny (model prog w) A (execs body env) (PostG L I o (J (i + 1)) s Q) E s₂) E { s with heap := h, gens := gs, toks := tk })
    (done : ∀ gr m' led' gs h tk, J vs.length gr m' led' gs → Fr gr L h m' → News gr L h led' → Q .next { s with heap := h, gens := gs, toks := tk }) :
    wpAny (model prog w) A (pyIter (.ref l)) (fun it s₂ => codeAny (model prog w) A (.forLoop (.Name x px) it body [] env) (fun r s' => match r with | .ok f => Q f s' | .error e => cameBackBy (model prog w) A env E e s') s₂) E s := by
  have hm0 := hfix _ _ _ _ _ hJ
  have hl := lst_of N hm0
  have hlt : l < s.heap.objs.size := Heap.lt_size (N _ hm0).1
  refine wpAny_pyIter_list hl ?_
  have up : ∀ b o, s.heap.get? b = some o → (s.heap.push { cls := .type "list_iterator", data := .fields #[.ref l, .int 0 0] }).get? b = some o := fun b o e => Heap.get?_push_of_some _ e
  have W := Walks.list (prog := prog) (w := w) hh s.heap.objs.size l (Nat.ne_of_lt hlt) vs.toArray
  generalize hI : s.heap.objs.size = I at W ⊢
  refine codeAny_forLoop (fun k s' => ∃ i gr m' led' gs h tk, s' = { s with heap := h, gens := gs, toks := tk } ∧ i ≤ vs.length ∧ k = vs.length + 1 - i ∧ (h.IsListIter I l i ∧ h.IsList l vs.toArray) ∧ Fr gr L h m' ∧ News gr L h led' ∧ I ≠ L ∧ gr.get? I = none ∧ (∀ p ∈ led', p.1 ≠ I) ∧ J i gr m' led' gs) ?_ (vs.length + 1)
    ⟨0, g, m, led, s.gens, _, s.toks, rfl, Nat.zero_le _, rfl, ⟨⟨_, by rw [← hI]; exact Heap.get?_push_size _ rfl, rfl, rfl⟩, hl.push _⟩, F.push _, fun p hp => ⟨up _ _ (N p hp).1, (N p hp).2⟩, by rw [← hI]; exact Nat.ne_of_gt F.ns.lt, by rw [← hI]; exact next_is_new F, fun p hp => by rw [← hI]; exact Nat.ne_of_lt (Heap.lt_size (N p hp).1), hJ⟩
  rintro k s' ⟨i, gr, m', led', gs, h, tk, rfl, hi, rfl, hst', F', N', hIL, hIg', hoff', hJ'⟩
  have nI : ∀ b o, gr.get? b = some o → b ∉ [I] := fun b o e q => by rw [List.mem_singleton.mp q, hIg'] at e; cases e
  have hsz : vs.toArray.size = vs.length := by simp
  by_cases hlt' : i < vs.length
  · refine W.item i _ _ _ (by rw [hsz]; exact hlt') hst' fun v h₂ tk₂ hPv hst₂ hk₂ => ?_
    obtain ⟨⟨o, ho, hoc⟩, hl₂⟩ := hst₂
    have F₂ : Fr gr L h₂ m' := ⟨F'.ns.at' fun o e => hk₂ _ o (fun q => hIL (List.mem_singleton.mp q).symm) e, fun b o e => hk₂ b o (nI b o e) (F'.keep b o e), F'.above⟩
    have N₂ : News gr L h₂ ((I, o) :: led') := fun p hp => by
      rcases List.mem_cons.mp hp with rfl | hp
      · exact ⟨ho, hIL, hIg'⟩
      · exact ⟨hk₂ _ _ (fun q => hoff' p hp (List.mem_singleton.mp q)) (N' p hp).1, (N' p hp).2⟩
    refine wpAny_mono (turn i v I o gr m' led' gs h₂ tk₂ (by simpa using hPv) hJ' hoff' F₂ N₂) (fun _ s₂ q => wpAny_mono q (fun f s₃ q => ?_) hE) hE
    have fin : TurnG L I o (J (i + 1)) s s₃ → ∃ k', k' < vs.length + 1 - i ∧ ∃ i gr m' led' gs h tk, s₃ = { s with heap := h, gens := gs, toks := tk } ∧ i ≤ vs.length ∧ k' = vs.length + 1 - i ∧ (h.IsListIter I l i ∧ h.IsList l vs.toArray) ∧ Fr gr L h m' ∧ News gr L h led' ∧ I ≠ L ∧ gr.get? I = none ∧ (∀ p ∈ led', p.1 ≠ I) ∧ J i gr m' led' gs := by
      rintro ⟨gr', m'', led'', gs', h', tk', rfl, F4, N4, o4, J4⟩
      exact ⟨vs.length + 1 - (i + 1), by omega, i + 1, gr', m'', led'', gs', h', tk', rfl, hlt', rfl, ⟨⟨o, (N4 _ (.head _)).1, hoc⟩, lst_of (s := { s with heap := h' }) (N := N4) (.tail _ (hfix _ _ _ _ _ J4))⟩, F4, fun p hp => N4 p (.tail _ hp), hIL, (N4 _ (.head _)).2.2, o4, J4⟩
    cases f with
    | ret v => exact q
    | brk => exact q
    | next => exact fin q
    | cont => exact fin q
  · have hin : i = vs.length := by omega
    subst hin
    refine W.done _ _ _ (by rw [hsz]; exact hst') fun h₂ tk₂ hk₂ => wpAny_execs_nil ?_
    exact done gr m' led' gs h₂ tk₂ hJ' ⟨F'.ns.at' fun o e => hk₂ _ o (fun q => hIL (List.mem_singleton.mp q).symm) e, fun b o e => hk₂ b o (nI b o e) (F'.keep b o e), F'.above⟩
      fun p hp => ⟨hk₂ _ _ (fun q => hoff' p hp (List.mem_singleton.mp q)) (N' p hp).1, (N' p hp).2⟩
end
section
variable {prog : Program} {w : World} {A : Around} {s : Shared} {h₀ : Heap} {L : Addr} {m : Str → Option Value} {cenv : Env} {x : Str} {px pos : Pos} {elt : Expr} {gens : List Comprehension} {scope : Scope}
/-- a turn of a comprehension's loop comes to its end -/
noncomputable def TurnL (h₀ : Heap) (L : Addr) (m : Str → Option Value) (I : Addr) (o : Obj) (J : List (Addr × Obj) → Prop) (s s₃ : Shared) : Prop :=
  ∃ led h tk, s₃ = { s with heap := h, toks := tk } ∧ Fr h₀ L h m ∧ News h₀ L h ((I, o) :: led) ∧ (∀ p ∈ led, p.1 ≠ I) ∧ J led
theorem compLoopK {d : Nat} {acc : Value} {ip : Pos} {I : Addr} {fp : List Addr} {n : Nat} {P : Nat → Value → Prop} {St : Nat → Heap → Prop} {R : Result → Shared → Prop} {led fix : List (Addr × Obj)} (KT : Sem Fin) (J : Nat → List (Addr × Obj) → Prop)
    (heq : compTurn (.ListComp elt gens scope pos) d (.ref I) acc cenv = (standAt ip >>= fun _ => pyNext (.ref I) >>= fun r => match r with
      | none => pure (.done .next)
      | some v => letOwnedTupleGo (.Name x px) (.ref I) v >>= fun _ => assign (.Name x px) cenv v >>= fun _ => KT))
    (W : Walks prog w A I fp [I] n P St) (hfp : ∀ b ∈ fp, b = I ∨ ∃ o, (b, o) ∈ fix) (hIo : ∀ i h, St i h → ∃ o, h.get? I = some o) (hfix : ∀ i led', J i led' → ∀ p ∈ fix, p ∈ led')
    (hst : St 0 s.heap) (F : Fr h₀ L s.heap m) (N : News h₀ L s.heap led) (hIL : I ≠ L) (hIg : h₀.get? I = none) (hoff : ∀ p ∈ led, p.1 ≠ I) (hJ : J 0 led)
    (turn : ∀ i v o led' h tk (E' : Value → Shared → Prop), i < n → P i v → J i led' → (∀ p ∈ led', p.1 ≠ I) → Fr h₀ L h m → News h₀ L h ((I, o) :: led') →
      wpAny (model prog w) A (assign (.Name x px) cenv v) (fun _ s₂ => wpAny (model prog w) A KT (fun f s₃ => f = .again (.compLoop (.ListComp elt gens scope pos) d (.ref I) acc cenv) ∧ TurnL h₀ L m I o (J (i + 1)) s s₃) E' s₂) E' { s with heap := h, toks := tk })
    (done : ∀ led' h tk, J n led' → Fr h₀ L h m → News h₀ L h led' → R (.ok .next) { s with heap := h, toks := tk }) :
    codeAny (model prog w) A (.compLoop (.ListComp elt gens scope pos) d (.ref I) acc cenv) R s := by
  refine codeAny_loop rfl (fun k s' => ∃ i led' h tk, s' = { s with heap := h, toks := tk } ∧ i ≤ n ∧ k = n + 1 - i ∧ St i h ∧ Fr h₀ L h m ∧ News h₀ L h led' ∧ (∀ p ∈ led', p.1 ≠ I) ∧ J i led') (fun k s' hs => ?_) (n + 1)
    ⟨0, led, s.heap, s.toks, rfl, Nat.zero_le _, rfl, hst, F, N, hoff, hJ⟩
  obtain ⟨i, led', h, tk, rfl, hi, rfl, hst', F', N', hoff', hJ'⟩ := hs
  show wpAny _ A ((compTurn (.ListComp elt gens scope pos) d (.ref I) acc cenv).onRaise (fun x => do noteFrame x cenv; theTreesLotGoes x)) _ _ _
  refine wpAny_noted ?_
  rw [heq]
  have nI : ∀ b o, h₀.get? b = some o → b ∉ [I] := fun b o e q => by rw [List.mem_singleton.mp q, hIg] at e; cases e
  by_cases hlt : i < n
  · refine wpAny_bind (wpAny_standAt (wpAny_bind (W.item i _ _ _ hlt hst' fun v h₂ tk₂ hPv hst₂ hk₂ => ?_)))
    obtain ⟨o, ho⟩ := hIo _ _ hst₂
    have F₂ : Fr h₀ L h₂ m := ⟨F'.ns.at' fun o e => hk₂ _ o (fun q => hIL (List.mem_singleton.mp q).symm) e, fun b o e => hk₂ b o (nI b o e) (F'.keep b o e), F'.above⟩
    have N₂ : News h₀ L h₂ ((I, o) :: led') := fun p hp => by
      rcases List.mem_cons.mp hp with rfl | hp
      · exact ⟨ho, hIL, hIg⟩
      · exact ⟨hk₂ _ _ (fun q => hoff' p hp (List.mem_singleton.mp q)) (N' p hp).1, (N' p hp).2⟩
    refine wpAny_bind (wpAny_of_eq (by rfl) ?_)
    refine wpAny_bind (wpAny_mono (turn i v o led' h₂ tk₂ _ hlt hPv hJ' hoff' F₂ N₂) (fun _ s₂ q => wpAny_mono q (fun f s₃ q => ?_) fun _ _ x => x) fun _ _ x => x)
    obtain ⟨rfl, led'', h', tk', rfl, F4, N4, o4, J4⟩ := q
    refine ⟨rfl, n + 1 - (i + 1), by omega, i + 1, led'', h', tk', rfl, hlt, rfl, W.frame _ _ _ hst₂ fun b hb ob e => ?_, F4, fun p hp => N4 p (.tail _ hp), o4, J4⟩
    rcases hfp b hb with rfl | ⟨o', hm⟩
    · rw [ho] at e; cases e
      exact (N4 _ (.head _)).1
    · have e1 := (N₂ _ (.tail _ (hfix _ _ hJ' _ hm))).1
      have e2 := (N4 _ (.tail _ (hfix _ _ J4 _ hm))).1
      dsimp only at e1 e2
      rw [e1] at e; cases e
      exact e2
  · have hin : i = n := Nat.le_antisymm hi (Nat.le_of_not_lt hlt)
    subst hin
    refine wpAny_bind (wpAny_standAt (wpAny_bind (W.done _ _ _ hst' fun h₂ tk₂ hk₂ => ?_)))
    refine wpAny_pure ?_
    exact done led' h₂ tk₂ hJ' ⟨F'.ns.at' fun o e => hk₂ _ o (fun q => hIL (List.mem_singleton.mp q).symm) e, fun b o e => hk₂ b o (nI b o e) (F'.keep b o e), F'.above⟩
      fun p hp => ⟨hk₂ _ _ (fun q => hoff' p hp (List.mem_singleton.mp q)) (N' p hp).1, (N' p hp).2⟩
/-- what a comprehension of two clauses does in the turns of its first -/
noncomputable def clause2 (elt iter : Expr) (target₂ iter₂ : Expr) (target : Expr) (scope : Scope) (pos : Pos) (it acc : Value) (env : Env) : Sem Fin := do
  let x ← eval iter₂ env
  standAt iter₂.pos
  let x ← foldedSetIterable iter₂ env x
  let _ ← runOwn (.compStart (.ListComp elt [⟨target, iter, [], 0⟩, ⟨target₂, iter₂, [], 0⟩] scope pos) 1 (← holding [x] (pyIter x)) acc env) env
  again (.compLoop (.ListComp elt [⟨target, iter, [], 0⟩, ⟨target₂, iter₂, [], 0⟩] scope pos) 0 it acc env)
noncomputable def emit1 (elt : Expr) (acc : Value) (env : Env) : Sem Unit := do let _ ← call (.builtin "list.append") [acc, ← eval elt env]
theorem turn_0 (elt target iter target₂ iter₂ : Expr) (scope : Scope) (pos : Pos) (it acc : Value) (env : Env) :
    compTurn (.ListComp elt [⟨target, iter, [], 0⟩, ⟨target₂, iter₂, [], 0⟩] scope pos) 0 it acc env = (standAt iter.pos >>= fun _ => pyNext it >>= fun r => match r with
      | none => pure (.done .next)
      | some v => letOwnedTupleGo target it v >>= fun _ => assign target env v >>= fun _ => clause2 elt iter target₂ iter₂ target scope pos it acc env) := by rfl
theorem turn_1 (elt target iter target₂ iter₂ : Expr) (scope : Scope) (pos : Pos) (it acc : Value) (env : Env) :
    compTurn (.ListComp elt [⟨target, iter, [], 0⟩, ⟨target₂, iter₂, [], 0⟩] scope pos) 1 it acc env = (standAt iter₂.pos >>= fun _ => pyNext it >>= fun r => match r with
      | none => pure (.done .next)
      | some v => letOwnedTupleGo target₂ it v >>= fun _ => assign target₂ env v >>= fun _ => emit1 elt acc env >>= fun _ => again (.compLoop (.ListComp elt [⟨target, iter, [], 0⟩, ⟨target₂, iter₂, [], 0⟩] scope pos) 1 it acc env)) := by rfl
theorem turn_one (elt target iter : Expr) (scope : Scope) (pos : Pos) (it acc : Value) (env : Env) :
    compTurn (.ListComp elt [⟨target, iter, [], 0⟩] scope pos) 0 it acc env = (standAt iter.pos >>= fun _ => pyNext it >>= fun r => match r with
      | none => pure (.done .next)
      | some v => letOwnedTupleGo target it v >>= fun _ => assign target env v >>= fun _ => emit1 elt acc env >>= fun _ => again (.compLoop (.ListComp elt [⟨target, iter, [], 0⟩] scope pos) 0 it acc env)) := by rfl
end
end Mine
namespace Mine
section
variable {prog : Program} {w : World} {A : Around} {E : Value → Shared → Prop} {s : Shared} {h₀ h : Heap} {L : Addr} {m : Str → Option Value} {led : List (Addr × Obj)}
theorem led_push (F : Fr h₀ L h m) (N : News h₀ L h led) {o : Obj} (ho : o.isFreed = false) : Fr h₀ L (h.push o) m ∧ News h₀ L (h.push o) ((h.objs.size, o) :: led) ∧ ∀ p ∈ led, p.1 < h.objs.size := by
  refine ⟨F.push _, fun p hp => ?_, fun p hp => Heap.lt_size (N p hp).1⟩
  rcases List.mem_cons.mp hp with rfl | hp
  · exact ⟨Heap.get?_push_size _ ho, Nat.ne_of_gt F.ns.lt, next_is_new F⟩
  · exact ⟨Heap.get?_push_of_some _ (N p hp).1, (N p hp).2⟩
theorem dictE_ns : LCg.NsObj emptyDict (fun _ => none) := ⟨#[], 0, rfl, fun e he => by simp at he, fun _ => rfl⟩
theorem led_cell {c : Addr} {oc : Obj} {vv : Option Value} {v : Value} {env : Env} {x : Str} {p1 : Pos} {pre rest : List (Addr × Obj)} {Q : Unit → Shared → Prop} (F : Fr h₀ L s.heap m) (N : News h₀ L s.heap (pre ++ (c, oc) :: rest)) (hoff : ∀ p ∈ pre ++ rest, p.1 ≠ c)
    (hk : env.scope.kind = .function) (hl : env.kindOf x = some .cell) (hc : env.cells.lookup x = some c) (hd : oc.data = .cell vv)
    (h : ∀ h' oc', oc'.data = .cell (some v) → Fr h₀ L h' m → News h₀ L h' (pre ++ (c, oc') :: rest) → Q () { s with heap := h' }) : wpAny (model prog w) A (assign (.Name x p1) env v) Q E s := by
  have hm := N (c, oc) (List.mem_append.mpr (.inr (.head _)))
  refine wpAny_assign_Name (wpAny_storeName_cell hk hl hc ⟨oc, hm.1, hd⟩ fun h' hv hs => ?_)
  obtain ⟨oc', ho', hd'⟩ := hv
  refine h h' oc' hd' (F.change hs hm.2.1 hm.2.2) fun p hp => ?_
  rcases List.mem_append.mp hp with hp | hp
  · have z := N p (List.mem_append.mpr (.inl hp))
    exact ⟨hs.extBut _ _ (hoff p (List.mem_append.mpr (.inl hp))) z.1, z.2⟩
  · rcases List.mem_cons.mp hp with rfl | hp
    · exact ⟨ho', hm.2⟩
    · have z := N p (List.mem_append.mpr (.inr (.tail _ hp)))
      exact ⟨hs.extBut _ _ (hoff p (List.mem_append.mpr (.inr hp))) z.1, z.2⟩
theorem led_local {C : Addr} {oC : Obj} {mC : Str → Option Value} {v : Value} {env : Env} {x : Str} {p1 : Pos} {pre rest : List (Addr × Obj)} {Q : Unit → Shared → Prop} (F : Fr h₀ L s.heap m) (N : News h₀ L s.heap (pre ++ (C, oC) :: rest)) (hoff : ∀ p ∈ pre ++ rest, p.1 ≠ C)
    (hC : env.locals = C) (hl : env.kindOf x = some .local) (hp : (env.scope.kind == .class || (env.scope.kind == .module && env.locals != env.globals)) = false) (hd : LCg.NsObj oC mC)
    (h : ∀ h' oC' tk', LCg.NsObj oC' (fun y => if y = x then some v else mC y) → Fr h₀ L h' m → News h₀ L h' (pre ++ (C, oC') :: rest) → Q () { s with heap := h', toks := tk' }) : wpAny (model prog w) A (assign (.Name x p1) env v) Q E s := by
  subst hC
  have hm := N (env.locals, oC) (List.mem_append.mpr (.inr (.head _)))
  refine wpAny_assign_Name (wpAny_storeName_local hl (hd.ns hm.1) (fun h' hn hs => ?_) hp)
  obtain ⟨oC', ho', hd'⟩ := LCg.ns_obj hn
  refine h h' oC' _ hd' (F.change hs hm.2.1 hm.2.2) fun p hp => ?_
  rcases List.mem_append.mp hp with hp | hp
  · have z := N p (List.mem_append.mpr (.inl hp))
    exact ⟨hs.extBut _ _ (hoff p (List.mem_append.mpr (.inl hp))) z.1, z.2⟩
  · rcases List.mem_cons.mp hp with rfl | hp
    · exact ⟨ho', hm.2⟩
    · have z := N p (List.mem_append.mpr (.inr (.tail _ hp)))
      exact ⟨hs.extBut _ _ (hoff p (List.mem_append.mpr (.inr hp))) z.1, z.2⟩
theorem newEnv_cell {scope : Scope} {env : Env} {cl : List (Str × Addr)} {n0 x n1 : Str} {Q : Env → Shared → Prop} (hn : scope.names = [(n0, .local), (x, .cell), (n1, .free)])
    (h : Q { scope := scope, locals := s.heap.objs.size, globals := env.globals, cells := (x, (s.heap.push emptyDict).objs.size) :: cl, qual := env.qual, func := none, code := env.code, frame := env.frame, builtins := env.builtins } { s with heap := (s.heap.push emptyDict).push { cls := .type "cell", data := .cell none } }) :
    wpAny (model prog w) A (newFunctionEnv scope env.globals cl [] env.qual none .none (some env)) Q E s := by
  unfold newFunctionEnv
  simp only [hn, Option.isSome_some, if_true, List.forIn_cons, List.forIn_nil]
  refine wpAny_bind (wpAny_alloc ?_)
  simp only [beq_self_eq_true, if_true, Bool.false_eq_true, if_false, show (NameKind.local == NameKind.cell) = false from rfl, show (NameKind.free == NameKind.cell) = false from rfl, pure_bind, bind_assoc]
  refine wpAny_bind (wpAny_alloc ?_)
  exact wpAny_pure h
end
end Mine
namespace Mine
noncomputable def Off4 (I C c D : Addr) (led : List (Addr × Obj)) : Prop := ∀ p ∈ led, p.1 ≠ I ∧ p.1 ≠ C ∧ p.1 ≠ c ∧ p.1 ≠ D
noncomputable abbrev lstO (ys : List Value) : Obj := listOf ys.toArray ys.length
/-- what a turn of the comprehension leaves -/
inductive TurnV (h₀ : Heap) (L : Addr) (m : Str → Option Value) (s₁ : Shared) (I : Addr) (oI : Obj) (C : Addr) (oC : Obj) (c : Addr) (oc : Obj) (D : Addr) (ys : List Value) (J : List Value → List (Addr × Obj) → Prop) (y : Value) : Shared → Prop
  | mk {h' : Heap} {tk' : Nat} (led' : List (Addr × Obj)) (F : Fr h₀ L h' m) (N : News h₀ L h' ((I, oI) :: (C, oC) :: (c, oc) :: (D, lstO ys) :: led')) (off : Off4 I C c D led') (hJ : J (ys ++ [y]) led') : TurnV h₀ L m s₁ I oI C oC c oc D ys J y { s₁ with heap := h', toks := tk' }
/-- what the comprehension's source gives -/
inductive CompV (prog : Program) (w : World) (A : Around) (h₀ : Heap) (L : Addr) (m : Str → Option Value) (env : Env) (elt : Expr) (x y : Str) (scope : Scope) (cl : List (Str × Addr)) (Q : Flow → Shared → Prop) : Value → Shared → Prop
  | mk {s₁ : Shared} {r : Addr} {a b : Int} {t u v : Tok} (n : Nat) {news : List (Addr × Obj)} (J : Nat → List Value → List (Addr × Obj) → Prop) (hh : A.handled = none) (F : Fr h₀ L s₁.heap m) (N : News h₀ L s₁.heap news) (hr : IsRange s₁.heap r a b 1 t u v)
    (hsm : Builtin.Range.small a b 1 = true) (hsz : Builtin.Range.rangeSize a b 1 = ((n : Nat) : Int)) (hn1 : n ≤ 1000) (hJ : J 0 [] news)
    (turn : ∀ i ys led I oI C oC c oc D h tk t (E' : Value → Shared → Prop), i < n → J i ys led → oc.data = .cell (some (.int (a + (i : Int)) t)) → Off4 I C c D led → (I ≠ C ∧ I ≠ c ∧ I ≠ D ∧ C ≠ c ∧ C ≠ D ∧ c ≠ D) → Fr h₀ L h m → News h₀ L h ((I, oI) :: (C, oC) :: (c, oc) :: (D, lstO ys) :: led) →
        wpAny (model prog w) A (eval elt (compEnvC scope ((x, c) :: cl) C env)) (TurnV h₀ L m s₁ I oI C oC c oc D ys (J (i + 1))) E' { s₁ with heap := h, toks := tk })
    (done : ∀ D h tk ys led, J n ys led → Fr h₀ L h (fun z => if z = y then some (.ref D) else m z) → News h₀ L h ((D, lstO ys) :: led) → (∀ p ∈ led, p.1 ≠ D) → Q .next { s₁ with heap := h, toks := tk }) : CompV prog w A h₀ L m env elt x y scope cl Q (.ref r) s₁
section
variable {prog : Program} {w : World} {A : Around} {E : Value → Shared → Prop} {s : Shared} {h₀ h : Heap} {L : Addr} {m : Str → Option Value} {led : List (Addr × Obj)} {env : Env}
/-- a comprehension over a range whose own name is a cell (a block inside closes over it) -/
theorem Assign_ListComp_V {elt iter : Expr} {x n0 n1 y : Str} {px py : Pos} {scope : Scope} {cl : List (Str × Addr)} {pos spos : Pos} {Q : Flow → Shared → Prop}
    (_F : Fr h₀ L s.heap m) (hLe : env.locals = L) (hsw : swapsWith (.ListComp elt [⟨.Name x px, iter, [], 0⟩] scope pos) (some (.Name y py)) spos.line env = pure true)
    (hy : env.kindOf y = some .local) (hp : (env.scope.kind == .class || (env.scope.kind == .module && env.locals != env.globals)) = false) (hn : scope.names = [(n0, .local), (x, .cell), (n1, .free)]) (hk : scope.kind = .function) (hclos : closureFor scope env = pure cl) (hnames : ∀ y ∈ scope.names, y.2 = .local → scope.names.lookup y.1 = some .local)
    (hxk : ∀ C c, (compEnvC scope ((x, c) :: cl) C env).kindOf x = some .cell)
    (h : wpAny (model prog w) A (eval iter env) (CompV prog w A h₀ L m env elt x y scope cl Q) E s)
    (hs : ∀ x, foldedSetIterable iter env x = pure x := by intro _; rfl) :
    wpAny (model prog w) A (exec (.Assign [.Name y py] (.ListComp elt [⟨.Name x px, iter, [], 0⟩] scope pos) spos) env) Q E s := by
  subst hLe
  rw [exec_Assign_Name_used _ _ _ _ hsw]
  refine wpAny_bind (wpAny_standAt (wpAny_bind ?_))
  show wpAny _ A (do let _ ← comprehension (.ListComp elt [⟨.Name x px, iter, [], 0⟩] scope pos) scope env _ (newList []) false (eval iter env) (some (assign (.Name y py) env))) _ _ s
  refine wpAny_bind (wpAny_mono (wpAny_comprehension_free (use := some (assign (.Name y py) env)) (Q := fun _ s' => Q .next s') rfl hs hclos hk hnames (wpAny_mono h (fun xv s₁ h₁ => ?_) fun _ _ e => e)) (fun _ s' hq => wpAny_pure (wpAny_pure hq)) fun _ _ e => e)
  obtain ⟨n, J, hh, F, N, hr, hsm, hsz, hn1, hJ, turn, done⟩ := h₁
  rename_i r a b t u v news
  refine wpAny_pyIter_range hr hsm ?_
  obtain ⟨F1, N1, l1⟩ := led_push F N (o := { cls := .type "range_iterator", data := .fields #[rawInt a, rawInt (Builtin.Range.rangeSize a b 1), rawInt 1] }) rfl
  obtain ⟨F2, N2, l2⟩ := led_push F1 N1 (o := { cls := .type "list", dict := none, data := .seq ([] : List Value).toArray }) rfl
  obtain ⟨F3, N3, l3⟩ := led_push F2 N2 (o := emptyDict) rfl
  obtain ⟨F4, N4, l4⟩ := led_push F3 N3 (o := { cls := .type "cell", data := .cell none }) rfl
  refine wpAny_newObj_type (newEnv_cell hn ?_)
  dsimp only at F4 N4 ⊢
  have hst0 : IsRangeIter ((((s₁.heap.push { cls := .type "range_iterator", data := .fields #[rawInt a, rawInt (Builtin.Range.rangeSize a b 1), rawInt 1] }).push { cls := .type "list", dict := none, data := .seq ([] : List Value).toArray }).push emptyDict).push { cls := .type "cell", data := .cell none }) s₁.heap.objs.size a n 1 := by
    have := (N4 _ (.tail _ (.tail _ (.tail _ (.head _))))).1
    rw [hsz] at this ⊢
    exact this
  generalize hI : s₁.heap.objs.size = I at *
  generalize hH1 : s₁.heap.push { cls := .type "range_iterator", data := .fields #[rawInt a, rawInt (Builtin.Range.rangeSize a b 1), rawInt 1] } = H1 at *
  generalize hD : H1.objs.size = D at *
  generalize hH2 : H1.push { cls := .type "list", dict := none, data := .seq ([] : List Value).toArray } = H2 at *
  generalize hC : H2.objs.size = C at *
  generalize hH3 : H2.push emptyDict = H3 at *
  generalize hc : H3.objs.size = c at *
  generalize hH4 : H3.push { cls := .type "cell", data := .cell none } = H4 at *
  have dID : I < D := l2 _ (.head _)
  have dDC : D < C := l3 _ (.head _)
  have dIC : I < C := l3 _ (.tail _ (.head _))
  have dCc : C < c := l4 _ (.head _)
  have dDc : D < c := l4 _ (.tail _ (.head _))
  have dIc : I < c := l4 _ (.tail _ (.tail _ (.head _)))
  have hoff0 : Off4 I C c D news := fun p hp => ⟨Nat.ne_of_lt (l1 p hp), Nat.ne_of_lt (l3 p (.tail _ (.tail _ hp))), Nat.ne_of_lt (l4 p (.tail _ (.tail _ (.tail _ hp)))), Nat.ne_of_lt (l2 p (.tail _ hp))⟩
  have hIg := (N4 _ (.tail _ (.tail _ (.tail _ (.head _))))).2.2
  have hIL := (N4 _ (.tail _ (.tail _ (.tail _ (.head _))))).2.1
  have W := LCg.range_walks (prog := prog) (w := w) (I := I) hh a n
  have N5 : News h₀ env.locals H4 ((C, emptyDict) :: (c, { cls := .type "cell", data := .cell none }) :: (D, lstO []) :: news) := fun p hp => by
    rcases List.mem_cons.mp hp with rfl | hp
    · exact N4 _ (.tail _ (.head _))
    rcases List.mem_cons.mp hp with rfl | hp
    · exact N4 _ (.head _)
    rcases List.mem_cons.mp hp with rfl | hp
    · exact N4 _ (.tail _ (.tail _ (.head _)))
    · exact N4 _ (.tail _ (.tail _ (.tail _ (.tail _ hp))))
  have loop : ∀ tk, codeAny (model prog w) A (.compLoop (.ListComp elt [⟨.Name x px, iter, [], 0⟩] scope pos) 0 (.ref I) (.ref D) (compEnvC scope ((x, c) :: cl) C env)) (compPost (model prog w) A E (some (assign (.Name y py) env)) (fun _ s' => Q .next s') (.ref D) C) { s₁ with heap := H4, toks := tk } := fun tk => by
    refine compLoopK (s := { s₁ with heap := H4, toks := tk }) (fix := []) (led := (C, emptyDict) :: (c, { cls := .type "cell", data := .cell none }) :: (D, lstO []) :: news) _
      (fun i led => ∃ ys oc rest vv, led = (C, emptyDict) :: (c, oc) :: (D, lstO ys) :: rest ∧ ys.length = i ∧ oc.data = .cell vv ∧ Off4 I C c D rest ∧ J i ys rest)
      (turn_one elt (.Name x px) iter scope pos (.ref I) (.ref D) _) W (fun b hb => .inl (List.mem_singleton.mp hb)) (fun i h hi => ⟨_, hi⟩) (fun _ _ _ p hp => nomatch hp) (by simpa using hst0) F4 N5 hIL hIg ?_ ⟨[], _, news, _, rfl, rfl, rfl, hoff0, hJ⟩ ?_ ?_
    · intro p hp
      rcases List.mem_cons.mp hp with rfl | hp
      · exact Nat.ne_of_gt dIC
      rcases List.mem_cons.mp hp with rfl | hp
      · exact Nat.ne_of_gt dIc
      rcases List.mem_cons.mp hp with rfl | hp
      · exact Nat.ne_of_gt dID
      · exact (hoff0 p hp).1
    · rintro i v o led' h tk2 E' hi ⟨t, rfl⟩ ⟨ys, oc, rest, vv, rfl, hyl, hoc, hoff, hJi⟩ ho F5 N5
      refine led_cell (s := { s₁ with heap := h, toks := tk2 }) (pre := [(I, o), (C, emptyDict)]) (rest := (D, lstO ys) :: rest) F5 N5 ?_ (by simp [compEnvC, relabel, hk]) (hxk C c) (by simp [compEnvC]) hoc ?_
      · intro p hp
        rcases List.mem_cons.mp hp with rfl | hp
        · exact Nat.ne_of_lt dIc
        rcases List.mem_cons.mp hp with rfl | hp
        · exact Nat.ne_of_lt dCc
        rcases List.mem_cons.mp hp with rfl | hp
        · exact Nat.ne_of_lt dDc
        · exact (hoff p hp).2.2.1
      intro h6 oc' hoc' F6 N6
      refine wpAny_bind (wpAny_bind (wpAny_mono (turn i ys rest I o C emptyDict c oc' D h6 tk2 t _ hi hJi hoc' hoff ⟨Nat.ne_of_lt dIC, Nat.ne_of_lt dIc, Nat.ne_of_lt dID, Nat.ne_of_lt dCc, Nat.ne_of_gt dDC, Nat.ne_of_gt dDc⟩ F6 N6) (fun y s₄ h₄ => ?_) fun _ _ x => x))
      obtain ⟨led7, F7, N7, o7, J7⟩ := h₄
      rename_i h7 tk7
      refine wpAny_bind (append_end (s := { s₁ with heap := h7, toks := tk7 }) F7 N7 (.tail (Nat.ne_of_lt dID) (.tail (Nat.ne_of_gt dDC) (.tail (Nat.ne_of_gt dDc) (.head fun p hp => (o7 p hp).2.2.2)))) (by omega) fun h8 F8 N8 => ?_)
      refine wpAny_pure (wpAny_pure ⟨rfl, _, h8, tk7, rfl, F8, N8, ?_, ys ++ [y], oc', led7, _, by simp, by simp [hyl], hoc', o7, J7⟩)
      intro p hp
      rcases List.mem_cons.mp hp with rfl | hp
      · exact Nat.ne_of_gt dIC
      rcases List.mem_cons.mp hp with rfl | hp
      · exact Nat.ne_of_gt dIc
      rcases List.mem_cons.mp hp with rfl | hp
      · exact Nat.ne_of_gt dID
      · exact (o7 p hp).1
    · rintro led' h tk2 ⟨ys, oc, rest, vv, rfl, hyl, hoc, hoff, hJn⟩ F5 N5
      show wpAny _ A (assign (.Name y py) env (.ref D)) _ _ _
      refine wpAny_assign_Name (wpAny_storeName_local hy F5.ns (fun h₂ hn₂ hs₂ => ?_) hp)
      have hL₀ : h₀.get? env.locals = none := Heap.get?_none_of_le F5.above
      have F₂ : Fr h₀ env.locals h₂ (fun z => if z = y then some (.ref D) else m z) := ⟨hn₂, fun b o e => hs₂.extBut b o (fun q => by rw [q, hL₀] at e; cases e) (F5.keep b o e), F5.above⟩
      have hC0 := N5 _ (.head _)
      refine ⟨fun _ => none, (dictE_ns.ns hC0.1).sameBut hs₂ hC0.2.1, fun h' hs' => ?_⟩
      refine done D h' _ ys rest hJn (F₂.change hs' hC0.2.1 hC0.2.2) (fun p hp => ?_) (fun p hp => (hoff p hp).2.2.2)
      rcases List.mem_cons.mp hp with rfl | hp
      · have z := N5 _ (.tail _ (.tail _ (.head _)))
        exact ⟨hs'.extBut _ _ (Nat.ne_of_lt dDC) (hs₂.extBut _ _ z.2.1 z.1), z.2⟩
      · have z := N5 _ (.tail _ (.tail _ (.tail _ hp)))
        exact ⟨hs'.extBut _ _ (hoff p hp).2.1 (hs₂.extBut _ _ z.2.1 z.1), z.2⟩
  exact codeAny_compStart_list (loop _) (W.self 0 _ _ _ (by simpa using hst0) (loop _))
end
end Mine
namespace Mine
noncomputable def Off3' (I C D : Addr) (led : List (Addr × Obj)) : Prop := ∀ p ∈ led, p.1 ≠ I ∧ p.1 ≠ C ∧ p.1 ≠ D
/-- what the inner turn of a comprehension of two clauses leaves -/
inductive TurnW (h₀ : Heap) (L : Addr) (m : Str → Option Value) (s₁ : Shared) (led : List (Addr × Obj)) (P : Prop) : Shared → Prop
  | mk {h3 : Heap} {tk3 : Nat} (F : Fr h₀ L h3 m) (N : News h₀ L h3 led) (hp : P) : TurnW h₀ L m s₁ led P { s₁ with heap := h3, toks := tk3 }
/-- what the inner source gives -/
inductive CompW2 (prog : Program) (w : World) (A : Around) (h₀ : Heap) (L : Addr) (m : Str → Option Value) (elt : Expr) (y : Str) (cenv : Env) (s₁ : Shared) (I : Addr) (oI : Obj) (C : Addr) (oC : Obj) (D : Addr) (ys : List Value) (J : List Value → List (Addr × Obj) → Prop) : Value → Shared → Prop
  | mk {h' : Heap} {tk' : Nat} {ax2 : Addr} {its2 : List Value} {k2 : Nat} (led2 : List (Addr × Obj)) (J2 : Nat → List Value → Prop) (F : Fr h₀ L h' m) (N : News h₀ L h' ((I, oI) :: (C, oC) :: (D, lstO ys) :: led2)) (off : Off3' I C D led2) (hm : (ax2, listOf (its2 : List Value).toArray k2) ∈ led2) (hJ2 : J2 0 ys)
    (hl : ∀ j ys2, J2 j ys2 → ys2.length ≤ 100)
    (turn : ∀ j v2 ys2 I2 oI2 oC2 mC2 h2 tk2 (E2 : Value → Shared → Prop), its2[j]? = some v2 → J2 j ys2 → LCg.NsObj oC2 mC2 → mC2 y = some v2 → Fr h₀ L h2 m → News h₀ L h2 ((I2, oI2) :: (I, oI) :: (C, oC2) :: (D, lstO ys2) :: led2) →
      wpAny (model prog w) A (eval elt cenv) (fun z => TurnW h₀ L m s₁ ((I2, oI2) :: (I, oI) :: (C, oC2) :: (D, lstO ys2) :: led2) (J2 (j + 1) (ys2 ++ [z]))) E2 { s₁ with heap := h2, toks := tk2 })
    (done : ∀ ys2, J2 its2.length ys2 → J ys2 led2) : CompW2 prog w A h₀ L m elt y cenv s₁ I oI C oC D ys J (.ref ax2) { s₁ with heap := h', toks := tk' }
/-- what the outer source gives -/
inductive CompW (prog : Program) (w : World) (A : Around) (h₀ : Heap) (L : Addr) (m : Str → Option Value) (env : Env) (elt iter₂ : Expr) (x y : Str) (scope : Scope) (cl : List (Str × Addr)) (Q : Value → Shared → Prop) : Value → Shared → Prop
  | mk {s₁ : Shared} {ax : Addr} {its : List Value} {k : Nat} {news : List (Addr × Obj)} (J : Nat → List Value → List (Addr × Obj) → Prop) (hh : A.handled = none) (F : Fr h₀ L s₁.heap m) (N : News h₀ L s₁.heap news) (hJ : J 0 [] news)
    (hl : ∀ i ys led, J i ys led → (ax, listOf its.toArray k) ∈ led ∧ ys.length ≤ 100)
    (turn : ∀ i v ys led I oI C oC D mC h tk (E' : Value → Shared → Prop), its[i]? = some v → J i ys led → LCg.NsObj oC mC → mC x = some v → Off3' I C D led → (I ≠ C ∧ I ≠ D ∧ C ≠ D) → Fr h₀ L h m → News h₀ L h ((I, oI) :: (C, oC) :: (D, lstO ys) :: led) →
      wpAny (model prog w) A (eval iter₂ (compEnvC scope cl C env)) (CompW2 prog w A h₀ L m elt y (compEnvC scope cl C env) s₁ I oI C oC D ys (J (i + 1))) E' { s₁ with heap := h, toks := tk })
    (done : ∀ D h tk ys led, J its.length ys led → Fr h₀ L h m → News h₀ L h ((D, lstO ys) :: led) → (∀ p ∈ led, p.1 ≠ D) → Q (.ref D) { s₁ with heap := h, toks := tk }) : CompW prog w A h₀ L m env elt iter₂ x y scope cl Q (.ref ax) s₁
section
variable {prog : Program} {w : World} {A : Around} {E : Value → Shared → Prop} {s : Shared} {h₀ h : Heap} {L : Addr} {m : Str → Option Value} {led : List (Addr × Obj)} {env : Env}
theorem compStart1 {R : Result → Shared → Prop} {elt target iter target₂ iter₂ : Expr} {scope : Scope} {pos : Pos} {it acc : Value} {cenv : Env}
    (h0 : codeAny (model prog w) A (.compLoop (.ListComp elt [⟨target, iter, [], 0⟩, ⟨target₂, iter₂, [], 0⟩] scope pos) 1 it acc cenv) R s)
    (h : wpAny (model prog w) A (pyIter it) (fun it' s' => codeAny (model prog w) A (.compLoop (.ListComp elt [⟨target, iter, [], 0⟩, ⟨target₂, iter₂, [], 0⟩] scope pos) 1 it' acc cenv) R s')
      (notedBy (model prog w) A cenv fun x s' => R (.error x) s') s) :
    codeAny (model prog w) A (.compStart (.ListComp elt [⟨target, iter, [], 0⟩, ⟨target₂, iter₂, [], 0⟩] scope pos) 1 it acc cenv) R s := by
  refine codeAny_of_tree ?_
  show wpAny _ _ ((compStart (.ListComp elt [⟨target, iter, [], 0⟩, ⟨target₂, iter₂, [], 0⟩] scope pos) 1 it acc cenv).onRaise (fun x => do noteFrame x cenv; standAt theWindowsPlace)) _ _ s
  refine wpAny_notedAt ?_
  unfold compStart
  show wpAny _ _ (ask >>= _) _ _ s
  refine wpAny_bind (wpAny_askSetting (wpAny_ite ?_))
  split
  · first
      | exact wpAny_bind (wpAny_pure (wpAny_pure (And.intro rfl h0)))
      | exact wpAny_pure (And.intro rfl h0)
  · first
      | exact wpAny_bind (wpAny_rule (wpAny_bind (wpAny_standAt (wpAny_bind (wpAny_mono h (fun it' s' h' => wpAny_pure (And.intro rfl h')) fun _ _ x => x)))))
      | (refine wpAny_bind (wpAny_rule ?_); show wpAny _ _ (standAt iter₂.pos >>= _) _ _ s; exact wpAny_bind (wpAny_standAt (wpAny_bind (wpAny_mono h (fun it' s' h' => wpAny_pure (And.intro rfl h')) fun _ _ x => x))))
theorem list_walk {I ax : Addr} {its : List Value} {k : Nat} (hh : A.handled = none) (hne : ax ≠ I) : Walks prog w A I (I :: ax :: []) [I] its.length (fun i v => its[i]? = some v) (fun i h => h.IsListIter I ax i ∧ h.IsList ax its.toArray) := by
  have W := Walks.list (prog := prog) (w := w) hh I ax hne its.toArray
  have e : its.toArray.size = its.length := by simp
  exact { sub := fun b hb => by rw [List.mem_singleton.mp hb]; exact .head _,
          frame := fun i h h' st k => W.frame i h h' st fun b hb => k b (by have := hb; simpa using hb),
          item := fun i s Q E hi st hQ => W.item i s Q E (by omega) st fun v h' tk hP st' hk => hQ v h' tk (by simpa using hP) st' hk,
          done := fun s Q E st hQ => W.done s Q E (by rw [e]; exact st) hQ, self := W.self }
/-- a comprehension of two clauses over lists on the ledger -/
theorem ListComp_W2 {elt iter iter₂ : Expr} {x y : Str} {px py : Pos} {scope : Scope} {cl : List (Str × Addr)} {pos : Pos} {Q : Value → Shared → Prop}
    (_F : Fr h₀ L s.heap m) (hk : scope.kind = .function) (hclos : closureFor scope env = pure cl) (hcell : ∀ y ∈ scope.names, y.2 ≠ .cell) (hnames : ∀ y ∈ scope.names, y.2 = .local → scope.names.lookup y.1 = some .local)
    (hx : scope.names.lookup x = some .local) (hy : scope.names.lookup y = some .local)
    (h : wpAny (model prog w) A (eval iter env) (CompW prog w A h₀ L m env elt iter₂ x y scope cl Q) E s)
    (hs : ∀ x, foldedSetIterable iter env x = pure x := by intro _; rfl) (hs2 : ∀ x env, foldedSetIterable iter₂ env x = pure x := by intro _ _; rfl) :
    wpAny (model prog w) A (eval (.ListComp elt [⟨.Name x px, iter, [], 0⟩, ⟨.Name y py, iter₂, [], 0⟩] scope pos) env) Q E s := by
  rw [eval_ListComp]
  refine wpAny_comprehension_free (use := none) rfl hs hclos hk hnames (wpAny_mono h (fun xv s₁ h₁ => ?_) fun _ _ e => e)
  obtain ⟨J, hh, F, N, hJ, hJl, turn, done⟩ := h₁
  rename_i ax its k news
  have hm0 := (hJl _ _ _ hJ).1
  have hl := lst_of N hm0
  refine wpAny_pyIter_list hl ?_
  obtain ⟨F1, N1, l1⟩ := led_push F N (o := { cls := .type "list_iterator", data := .fields #[.ref ax, .int 0 0] }) rfl
  obtain ⟨F2, N2, l2⟩ := led_push F1 N1 (o := { cls := .type "list", dict := none, data := .seq ([] : List Value).toArray }) rfl
  refine wpAny_newObj_type (wpAny_newFunctionEnv hcell (by intro y hy; simp at hy) (fun h₁ hns₁ hsb₁ => ?_) hk)
  dsimp only at F2 N2 hns₁ hsb₁ ⊢
  have hax := l1 _ hm0
  dsimp only at hax
  generalize hI : s₁.heap.objs.size = I at *
  generalize hH1 : s₁.heap.push { cls := .type "list_iterator", data := .fields #[.ref ax, .int 0 0] } = H1 at *
  generalize hD : H1.objs.size = D at *
  generalize hH2 : H1.push { cls := .type "list", dict := none, data := .seq ([] : List Value).toArray } = H2 at *
  generalize hC : H2.objs.size = C at *
  have dID : I < D := l2 _ (.head _)
  have dDC : D < C := by rw [← hC]; exact Heap.lt_size (N2 _ (.head _)).1
  have dIC : I < C := by rw [← hC]; exact Heap.lt_size (N2 _ (.tail _ (.head _))).1
  have hnC : ∀ p ∈ news, p.1 < C := fun p hp => by rw [← hC]; exact Heap.lt_size (N2 _ (.tail _ (.tail _ hp))).1
  have hoff0 : Off3' I C D news := fun p hp => ⟨Nat.ne_of_lt (l1 p hp), Nat.ne_of_lt (hnC p hp), Nat.ne_of_lt (l2 p (.tail _ hp))⟩
  have hC0 : h₀.get? C = none := by rw [← hC]; exact next_is_new F2
  have hCL : C ≠ L := by rw [← hC]; exact Nat.ne_of_gt F2.ns.lt
  obtain ⟨F2', N2', _⟩ := led_push F2 N2 (o := emptyDict) rfl
  have hsb₂ : Heap.SameBut C (H2.push emptyDict) h₁ := hsb₁
  have F3 : Fr h₀ L h₁ m := F2'.change hsb₂ hCL hC0
  obtain ⟨oC, heC, hoC⟩ := LCg.ns_obj hns₁
  have N3 : News h₀ L h₁ ((C, oC) :: (D, lstO []) :: (I, { cls := .type "list_iterator", data := .fields #[.ref ax, .int 0 0] }) :: news) := fun p hp => by
    rcases List.mem_cons.mp hp with rfl | hp
    · exact ⟨heC, hCL, hC0⟩
    · have z := N2' p (.tail _ hp)
      refine ⟨hsb₂.extBut _ _ ?_ z.1, z.2⟩
      rcases List.mem_cons.mp hp with rfl | hp
      · exact Nat.ne_of_lt dDC
      rcases List.mem_cons.mp hp with rfl | hp
      · exact Nat.ne_of_lt dIC
      · exact Nat.ne_of_lt (hnC p hp)
  have hst0 : h₁.IsListIter I ax 0 ∧ h₁.IsList ax its.toArray := ⟨⟨_, (N3 _ (.tail _ (.tail _ (.head _)))).1, rfl, rfl⟩, lst_of (s := { s₁ with heap := h₁ }) N3 (.tail _ (.tail _ (.tail _ hm0)))⟩
  have hIg := (N3 _ (.tail _ (.tail _ (.head _)))).2.2
  have hIL := (N3 _ (.tail _ (.tail _ (.head _)))).2.1
  have N5 : News h₀ L h₁ ((C, oC) :: (D, lstO []) :: news) := fun p hp => by
    rcases List.mem_cons.mp hp with rfl | hp
    · exact N3 _ (.head _)
    rcases List.mem_cons.mp hp with rfl | hp
    · exact N3 _ (.tail _ (.head _))
    · exact N3 _ (.tail _ (.tail _ (.tail _ hp)))
  have W := list_walk (prog := prog) (w := w) (k := 0) (its := its) hh (Nat.ne_of_lt hax)
  have hnc : ((compEnvC scope cl C env).scope.kind == .class || ((compEnvC scope cl C env).scope.kind == .module && (compEnvC scope cl C env).locals != (compEnvC scope cl C env).globals)) = false := by simp [compEnvC, relabel, hk]
  have loop : ∀ tk, codeAny (model prog w) A (.compLoop (.ListComp elt [⟨.Name x px, iter, [], 0⟩, ⟨.Name y py, iter₂, [], 0⟩] scope pos) 0 (.ref I) (.ref D) (compEnvC scope cl C env)) (compPost (model prog w) A E none Q (.ref D) C) { s₁ with heap := h₁, toks := tk } := fun tk => by
    refine compLoopK (s := { s₁ with heap := h₁, toks := tk }) (fix := [(ax, listOf its.toArray k)]) (led := (C, oC) :: (D, lstO []) :: news) _
      (fun i led => ∃ ys oC mC rest, led = (C, oC) :: (D, lstO ys) :: rest ∧ LCg.NsObj oC mC ∧ Off3' I C D rest ∧ J i ys rest)
      (turn_0 elt (.Name x px) iter (.Name y py) iter₂ scope pos (.ref I) (.ref D) _) W ?_ (fun i h hi => let ⟨o, e, _⟩ := hi.1; ⟨o, e⟩) ?_ hst0 F3 N5 hIL hIg ?_ ⟨[], _, _, news, rfl, hoC, hoff0, hJ⟩ ?_ ?_
    · intro b hb
      rcases List.mem_cons.mp hb with rfl | hb
      · exact .inl rfl
      · rw [List.mem_singleton.mp hb]; exact .inr ⟨_, .head _⟩
    · rintro i led' ⟨ys, oC, mC, rest, rfl, _, _, hJi⟩ p hp
      rw [List.mem_singleton.mp hp]
      exact .tail _ (.tail _ (hJl _ _ _ hJi).1)
    · intro p hp
      rcases List.mem_cons.mp hp with rfl | hp
      · exact Nat.ne_of_gt dIC
      rcases List.mem_cons.mp hp with rfl | hp
      · exact Nat.ne_of_gt dID
      · exact (hoff0 p hp).1
    · rintro i v o led' h tk2 E' hi hv ⟨ys, oC, mC, rest, rfl, hoC, hoff, hJi⟩ ho F5 N5
      refine led_local (s := { s₁ with heap := h, toks := tk2 }) (pre := [(I, o)]) (rest := (D, lstO ys) :: rest) F5 N5 ?_ rfl (lookup_relabel_local hx) hnc hoC ?_
      · intro p hp
        rcases List.mem_cons.mp hp with rfl | hp
        · exact Nat.ne_of_lt dIC
        rcases List.mem_cons.mp hp with rfl | hp
        · exact Nat.ne_of_lt dDC
        · exact (hoff p hp).2.1
      intro h6 oC6 tk6 hoC6 F6 N6
      unfold clause2
      refine wpAny_bind (wpAny_mono (turn i v ys rest I o C oC6 D _ h6 tk6 _ hv hJi hoC6 (by simp) hoff ⟨Nat.ne_of_lt dIC, Nat.ne_of_lt dID, Nat.ne_of_gt dDC⟩ F6 N6) (fun xv2 s₄ h₄ => ?_) fun _ _ x => x)
      obtain ⟨led2, J2, F7, N7, o7, hm2, hJ2, hJ2l, turn2, done2⟩ := h₄
      rename_i h7 tk7 ax2 its2 k2
      refine wpAny_bind (wpAny_standAt (wpAny_bind (wpAny_of_eq (hs2 _ _) ?_)))
      have hl2 := lst_of (s := { s₁ with heap := h7, toks := tk7 }) N7 (.tail _ (.tail _ (.tail _ hm2)))
      refine wpAny_bind (wpAny_holding (wpAny_pyIter_list hl2 ?_))
      obtain ⟨F8, N8, l8⟩ := led_push F7 N7 (o := { cls := .type "list_iterator", data := .fields #[.ref ax2, .int 0 0] }) rfl
      dsimp only at F8 N8 ⊢
      generalize hI2 : h7.objs.size = I2 at *
      generalize hH8 : h7.push { cls := .type "list_iterator", data := .fields #[.ref ax2, .int 0 0] } = H8 at *
      have dII := l8 _ (.head _)
      have dCI := l8 _ (.tail _ (.head _))
      have dDI := l8 _ (.tail _ (.tail _ (.head _)))
      have hax2 := l8 _ (.tail _ (.tail _ (.tail _ hm2)))
      dsimp only at dII dCI dDI hax2
      have W2 := list_walk (prog := prog) (w := w) (k := 0) (its := its2) hh (Nat.ne_of_lt hax2)
      have hst2 : H8.IsListIter I2 ax2 0 ∧ H8.IsList ax2 its2.toArray := ⟨⟨_, (N8 _ (.head _)).1, rfl, rfl⟩, lst_of (s := { s₁ with heap := H8 }) N8 (.tail _ (.tail _ (.tail _ (.tail _ hm2))))⟩
      have inner : codeAny (model prog w) A (.compLoop (.ListComp elt [⟨.Name x px, iter, [], 0⟩, ⟨.Name y py, iter₂, [], 0⟩] scope pos) 1 (.ref I2) (.ref D) (compEnvC scope cl C env))
          (fun r s' => match r with
            | .ok f => wpAny (model prog w) A (again (.compLoop (.ListComp elt [⟨.Name x px, iter, [], 0⟩, ⟨.Name y py, iter₂, [], 0⟩] scope pos) 0 (.ref I) (.ref D) (compEnvC scope cl C env)))
                (fun f s₃ => f = .again (.compLoop (.ListComp elt [⟨.Name x px, iter, [], 0⟩, ⟨.Name y py, iter₂, [], 0⟩] scope pos) 0 (.ref I) (.ref D) (compEnvC scope cl C env)) ∧ TurnL h₀ L m I o (fun led => ∃ ys oC mC rest, led = (C, oC) :: (D, lstO ys) :: rest ∧ LCg.NsObj oC mC ∧ Off3' I C D rest ∧ J (i + 1) ys rest) { s₁ with heap := h₁, toks := tk } s₃) E' s'
            | .error e => cameBackBy (model prog w) A (compEnvC scope cl C env) E' e s') { s₁ with heap := H8, toks := tk7 } := by
        refine compLoopK (s := { s₁ with heap := H8, toks := tk7 }) (fix := [(ax2, listOf its2.toArray k2)]) (led := (I, o) :: (C, oC6) :: (D, lstO ys) :: led2) _
          (fun j led => ∃ ys2 oC2 mC2, led = (I, o) :: (C, oC2) :: (D, lstO ys2) :: led2 ∧ LCg.NsObj oC2 mC2 ∧ J2 j ys2)
          (turn_1 elt (.Name x px) iter (.Name y py) iter₂ scope pos (.ref I2) (.ref D) _) W2 ?_ (fun i h hi => let ⟨o, e, _⟩ := hi.1; ⟨o, e⟩) ?_ hst2 F8 (fun p hp => N8 p (.tail _ hp)) (N8 _ (.head _)).2.1 (N8 _ (.head _)).2.2 ?_ ⟨ys, _, _, rfl, hoC6, hJ2⟩ ?_ ?_
        · intro b hb
          rcases List.mem_cons.mp hb with rfl | hb
          · exact .inl rfl
          · rw [List.mem_singleton.mp hb]; exact .inr ⟨_, .head _⟩
        · rintro j led' ⟨ys2, oC2, mC2, rfl, _, _⟩ p hp
          rw [List.mem_singleton.mp hp]
          exact .tail _ (.tail _ (.tail _ hm2))
        · exact fun p hp => Nat.ne_of_lt (l8 p hp)
        · rintro j v2 o2 led' h9 tk9 E2 hj hv2 ⟨ys2, oC2, mC2, rfl, hoC2, hJj⟩ ho2 F9 N9
          refine led_local (s := { s₁ with heap := h9, toks := tk9 }) (pre := [(I2, o2), (I, o)]) (rest := (D, lstO ys2) :: led2) F9 N9 ?_ rfl (lookup_relabel_local hy) hnc hoC2 ?_
          · intro p hp
            rcases List.mem_cons.mp hp with rfl | hp
            · exact Nat.ne_of_gt dCI
            rcases List.mem_cons.mp hp with rfl | hp
            · exact Nat.ne_of_lt dIC
            rcases List.mem_cons.mp hp with rfl | hp
            · exact Nat.ne_of_lt dDC
            · exact (o7 p hp).2.1
          intro h10 oC10 tk10 hoC10 F10 N10
          refine wpAny_bind (wpAny_bind (wpAny_mono (turn2 j v2 ys2 I2 o2 oC10 _ h10 tk10 _ hv2 hJj hoC10 (by simp) F10 N10) (fun z s₅ h₅ => ?_) fun _ _ x => x))
          obtain ⟨F11, N11, hJ11⟩ := h₅
          rename_i h11 tk11
          have hyl := hJ2l _ _ hJj
          refine wpAny_bind (append_end (s := { s₁ with heap := h11, toks := tk11 }) F11 N11 (.tail (Nat.ne_of_gt dDI) (.tail (Nat.ne_of_lt dID) (.tail (Nat.ne_of_gt dDC) (.head fun p hp => (o7 p hp).2.2)))) (by omega) fun h12 F12 N12 => ?_)
          refine wpAny_pure (wpAny_pure ⟨rfl, _, h12, tk11, rfl, F12, N12, ?_, ys2 ++ [z], oC10, _, by simp, hoC10, hJ11⟩)
          intro p hp
          rcases List.mem_cons.mp hp with rfl | hp
          · exact Nat.ne_of_lt dII
          rcases List.mem_cons.mp hp with rfl | hp
          · exact Nat.ne_of_lt dCI
          rcases List.mem_cons.mp hp with rfl | hp
          · exact Nat.ne_of_lt dDI
          · exact Nat.ne_of_lt (l8 p (.tail _ (.tail _ (.tail _ hp))))
        · rintro led' h9 tk9 ⟨ys2, oC2, mC2, rfl, hoC2, hJj⟩ F9 N9
          refine wpAny_pure ⟨rfl, _, h9, tk9, rfl, F9, N9, ?_, ys2, oC2, mC2, led2, rfl, hoC2, o7, done2 ys2 hJj⟩
          intro p hp
          rcases List.mem_cons.mp hp with rfl | hp
          · exact Nat.ne_of_gt dIC
          rcases List.mem_cons.mp hp with rfl | hp
          · exact Nat.ne_of_gt dID
          · exact (o7 p hp).1
      refine wpAny_bind (wpAny_runOwn ?_)
      refine compStart1 ?_ (W2.self 0 _ _ _ hst2 ?_)
      · exact inner
      · exact inner
    · rintro led' h tk2 ⟨ys, oC, mC, rest, rfl, hoC, hoff, hJn⟩ F5 N5
      have hCm := N5 _ (.head _)
      refine ⟨mC, hoC.ns hCm.1, fun h' hs' => ?_⟩
      refine done D h' tk2 ys rest hJn (F5.change hs' hCm.2.1 hCm.2.2) (fun p hp => ?_) (fun p hp => (hoff p hp).2.2)
      rcases List.mem_cons.mp hp with rfl | hp
      · have z := N5 _ (.tail _ (.head _))
        exact ⟨hs'.extBut _ _ (Nat.ne_of_lt dDC) z.1, z.2⟩
      · have z := N5 _ (.tail _ (.tail _ hp))
        exact ⟨hs'.extBut _ _ (hoff p hp).2.1 z.1, z.2⟩
  exact codeAny_compStart_list (loop _) (W.self 0 _ _ _ hst0 (loop _))
end
end Mine
namespace Mine
noncomputable def JWord (g : Heap) (L : Addr) (m : Str → Option Value) (led : List (Addr × Obj)) (s : Shared) (W : Str) (f : Flow) (s' : Shared) : Prop :=
  f = .next ∧ ∃ h tk t, s' = { s with heap := h, toks := tk } ∧ Fr g L h (fun y => if y = Str.ofString "words" then some (.str W t) else m y) ∧ News g L h led
theorem join_word {M : Model} {A : Around} {E : Value → Shared → Prop} {s : Shared} {stmt : Stmt} {env : Env} {Q : Flow → Shared → Prop} {g : Heap} {L : Addr} {m : Str → Option Value} {led : List (Addr × Obj)} {v : Option Value} (W : Str) (_F : Fr g L s.heap (fun y => if y = Str.ofString "words" then v else m y)) (_N : News g L s.heap led)
    (h1 : wpAny M A (exec stmt env) (JWord g L m led s W) E s) (h2 : ∀ h tk t, Fr g L h (fun y => if y = Str.ofString "words" then some (.str W t) else m y) → News g L h led → Q .next { s with heap := h, toks := tk }) :
    wpAny M A (exec stmt env) Q E s := wpAny_mono h1 (fun f s' zz => by obtain ⟨e, h, tk, t, e', F, N⟩ := zz; subst e; subst e'; exact h2 h tk t F N) fun _ _ x => x
theorem fr_dup {g h : Heap} {L : Addr} {k : Str} {a b : Option Value} {m : Str → Option Value} (F : Fr g L h (fun y => if y = k then a else if y = k then b else m y)) : Fr g L h (fun y => if y = k then a else m y) := by
  have e : (fun y => if y = k then a else if y = k then b else m y) = (fun y => if y = k then a else m y) := by
    funext y
    by_cases q : y = k <;> simp [q]
  rw [← e]; exact F
theorem strOf_smallZ (k : Int) (h : -200 ≤ k ∧ k ≤ 200) : (strOf k).length ≤ 4 := by
  have q : ∀ n : Fin 401, (strOf ((n.val : Int) - 200)).length ≤ 4 := by decide +kernel
  have := q ⟨(k + 200).toNat, by omega⟩
  have e : (((k + 200).toNat : Nat) : Int) - 200 = k := by omega
  rw [e] at this
  exact this
theorem join_okZ : ∀ (l : List Int), (∀ z ∈ l, -200 ≤ z ∧ z ≤ 200) → ((l.map strOf).map (·.length)).sum ≤ l.length * 4
  | [], _ => Nat.le_refl _
  | x :: r, h => by
    have a := join_okZ r fun t ht => h t (.tail _ ht)
    have b := strOf_smallZ x (h x (.head _))
    simp only [List.map_cons, List.sum_cons, List.length_cons]
    omega
theorem joinZ_len {ts : List Int} (hts : ∀ t ∈ ts, -200 ≤ t ∧ t ≤ 200) (hlen : ts.length ≤ 60) : (Txt.join (Str.ofString ", ") (ts.map strOf)).length ≤ 1000 := by
  show (Builtin.Str.glued (Str.ofString ", ") (ts.map strOf)).length ≤ 1000
  rw [StrLaws.glued_eq_join]
  refine Nat.le_trans (StrLaws.join_length_le _ _) ?_
  have h2 : (Str.ofString ", ").length = 2 := by decide
  rw [h2, List.length_map]
  have := join_okZ ts hts
  omega
theorem kst1 {f : Str → Option Value} {k : Str} {v : Value} (h : f k = some v) : kstB f [(k, v)] = f := kstB_self fun q hq => by rw [List.mem_singleton.mp hq]; exact h
theorem news_to {g h : Heap} {L : Addr} {p : Addr × Obj} {own news : List (Addr × Obj)} (N : News g L h (own ++ p :: news)) : News g L h (p :: (own ++ news)) := fun q hq => N q (by
  simp only [List.mem_cons, List.mem_append] at hq ⊢
  rcases hq with h | h | h <;> simp [h])
theorem news_fro {g h : Heap} {L : Addr} {p : Addr × Obj} {own news : List (Addr × Obj)} (N : News g L h (p :: (own ++ news))) : News g L h (own ++ p :: news) := fun q hq => N q (by
  simp only [List.mem_cons, List.mem_append] at hq ⊢
  rcases hq with h | h | h <;> simp [h])
theorem snoc_of {α : Type} : ∀ {l : List α}, l ≠ [] → ∃ l' x, l = l' ++ [x] := fun {l} h => ⟨l.dropLast, l.getLast h, (List.dropLast_concat_getLast h).symm⟩
noncomputable def JTwo (g : Heap) (L : Addr) (m : Str → Option Value) (led : List (Addr × Obj)) (s : Shared) (ov : Int) (W : Str) (f : Flow) (s' : Shared) : Prop :=
  f = .next ∧ ∃ h tk m' t1 t2, s' = { s with heap := h, toks := tk } ∧ Fr g L h m' ∧ m' (Str.ofString "words") = some (.str W t2) ∧ m' (Str.ofString "over") = some (.int ov t1) ∧ (∀ z, z ≠ Str.ofString "words" → z ≠ Str.ofString "over" → m' z = m z) ∧ News g L h led
theorem join_two {M : Model} {A : Around} {E : Value → Shared → Prop} {s : Shared} {stmt : Stmt} {env : Env} {Q : Flow → Shared → Prop} {g : Heap} {L : Addr} {m : Str → Option Value} {led : List (Addr × Obj)} (ov : Int) (W : Str) (_F : Fr g L s.heap m) (_N : News g L s.heap led)
    (h1 : wpAny M A (exec stmt env) (JTwo g L m led s ov W) E s) (h2 : ∀ h tk m' t1 t2, Fr g L h m' → m' (Str.ofString "words") = some (.str W t2) → m' (Str.ofString "over") = some (.int ov t1) → (∀ z, z ≠ Str.ofString "words" → z ≠ Str.ofString "over" → m' z = m z) → News g L h led → Q .next { s with heap := h, toks := tk }) :
    wpAny M A (exec stmt env) Q E s := wpAny_mono h1 (fun f s' zz => by obtain ⟨e, h, tk, m', t1, t2, e', F, q1, q2, q3, N⟩ := zz; subst e; subst e'; exact h2 h tk m' t1 t2 F q1 q2 q3 N) fun _ _ x => x
end Mine
namespace Mine
/-- a list of at most n short texts of blanks and tabs -/
noncomputable def BTL (n : Nat) (vs : List Value) : Prop := vs.length ≤ n ∧ ∀ v ∈ vs, ∃ y t, v = .str y t ∧ BT y ∧ y.cps.size ≤ 4
theorem BTL.strs {n : Nat} {vs : List Value} (H : BTL n vs) : ∃ ys, StrsAre vs ys ∧ ys.length ≤ n ∧ ∀ y ∈ ys, BT y ∧ y.cps.size ≤ 4 := by
  obtain ⟨hn, H⟩ := H
  induction vs generalizing n with
  | nil => exact ⟨[], .nil, Nat.zero_le _, fun _ h => nomatch h⟩
  | cons v vs ih =>
    obtain ⟨ys, h1, h2, h3⟩ := ih (n := n - 1) (by simp only [List.length_cons] at hn; omega) (fun v hv => H v (.tail _ hv))
    obtain ⟨y, t, rfl, hy⟩ := H v (.head _)
    refine ⟨y :: ys, .cons y t h1, by simp only [List.length_cons] at hn ⊢; omega, fun z hz => ?_⟩
    rcases List.mem_cons.mp hz with rfl | hz
    · exact hy
    · exact h3 z hz
theorem BTL.of {n : Nat} {vs : List Value} {ys : List Str} (h : StrsAre vs ys) (hn : ys.length ≤ n) (hy : ∀ y ∈ ys, BT y ∧ y.cps.size ≤ 4) : BTL n vs := by
  induction h generalizing n with
  | nil => exact ⟨Nat.zero_le _, fun _ h => nomatch h⟩
  | cons y t r ih =>
    obtain ⟨h1, h2⟩ := ih (n := n - 1) (by simp only [List.length_cons] at hn; omega) (fun v hv => hy v (.tail _ hv))
    refine ⟨by simp only [List.length_cons] at hn ⊢; omega, fun v hv => ?_⟩
    rcases List.mem_cons.mp hv with rfl | hv
    · exact ⟨_, _, rfl, hy _ (.head _)⟩
    · exact h2 v hv
theorem BTL.pick {n : Nat} {vs : List Value} (H : BTL n vs) (lo hi : Option Int) : BTL n (kms_pick vs lo hi) := by
  unfold kms_pick
  refine ⟨?_, fun v hv => H.2 v (List.mem_of_mem_drop (List.mem_of_mem_take hv))⟩
  have := H.1
  rw [List.length_take, List.length_drop]
  omega
theorem BTL.append {n k : Nat} {vs ws : List Value} (H : BTL n vs) (K : BTL k ws) : BTL (n + k) (vs ++ ws) := by
  refine ⟨by have := H.1; have := K.1; rw [List.length_append]; omega, fun v hv => ?_⟩
  rcases List.mem_append.mp hv with hv | hv
  · exact H.2 v hv
  · exact K.2 v hv
section
variable {prog : Program} {w : World} {A : Around} {E : Value → Shared → Prop} {s : Shared} {h₀ : Heap} {L l a b : Addr} {m : Str → Option Value} {news : List (Addr × Obj)} {value slice : PySem.Expr} {vs ws : List Value} {vl vu : Value} {lo hi : Option Int} {n k : Nat} {x y : Str} {t u : Tok} {Q : Value → Shared → Prop}
theorem slice_bt (F : Fr h₀ L s.heap m) (N : News h₀ L s.heap news) (hl : s.heap.IsList l vs.toArray) (pl : IsPart vl lo) (pu : IsPart vu hi) (H : BTL n vs) (hn : n ≤ 100)
    (h : ∀ D h' zs, Fr h₀ L h' m → News h₀ L h' ((D, listOf (List.toArray zs) 0) :: news) → (∀ p ∈ news, p.1 < D) → BTL n zs → Q (.ref D) { s with heap := h' })
    (hs : subscripted slice false (.ref l) (.ref s.heap.objs.size) = operate [.ref s.heap.objs.size, .ref l] (getItem (.ref l) (.ref s.heap.objs.size))) (ht : ∀ r, letTemporaryGo value (.ref l) r = pure ()) :
    wpAny (model prog w) A (subscriptTail value slice (.ref l) (.ref s.heap.objs.size)) Q E { s with heap := s.heap.push { cls := .type "slice", data := .fields #[vl, vu, .none] } } := by
  refine kmk_slice F N hl pl pu (fun D h' F' N' l1 => ?_) hs ht (by have := H.1; rw [List.size_toArray, sizeLine_eq]; omega)
  rw [kms_pick_eq] at N'
  exact h D h' _ F' N' l1 (H.pick lo hi)
theorem add_bt (F : Fr h₀ L s.heap m) (N : News h₀ L s.heap news) (ha : s.heap.IsList a vs.toArray) (hb : s.heap.IsList b ws.toArray) (H : BTL n vs) (K : BTL k ws) (hnk : n + k ≤ 100)
    (h : ∀ D h' zs, Fr h₀ L h' m → News h₀ L h' ((D, listOf (List.toArray zs) 0) :: news) → (∀ p ∈ news, p.1 < D) → BTL (n + k) zs → Q (.ref D) { s with heap := h' }) :
    wpAny (model prog w) A (binaryOp .Add (.ref a) (.ref b)) Q E s :=
  add_lists F N ha hb (fun h' F' N' => h _ h' _ F' N' (fun p hp => Heap.lt_size (N p hp).1) (H.append K)) (by have := H.1; have := K.1; rw [sizeLine_eq]; omega)
theorem split_bt (F : Fr h₀ L s.heap m) (N : News h₀ L s.heap news) (hy : (y.length == 0) = false) (hx : BT x) (hx4 : x.cps.size ≤ 4)
    (h : ∀ D h' k zs, Fr h₀ L h' m → News h₀ L h' ((D, listOf (List.toArray zs) 0) :: news) → (∀ p ∈ news, p.1 < D) → BTL 6 zs → Q (.ref D) { s with heap := h', toks := k }) :
    wpAny (model prog w) A (call (.builtin "str.split") [.str x t, .str y u]) Q E s := by
  refine KSpl.split1 F N hy (fun D l h' k e a F' N' l1 => h D h' k _ F' N' l1 (BTL.of a ?_ fun z hz => ?_)) (by rw [sizeLine_eq]; unfold Str.length; omega)
  · have := len_le_of_split e
    rw [List.length_map]
    have h4 : x.length ≤ 4 := hx4
    omega
  · rw [e] at hz
    refine ⟨bt_part hx hz, ?_⟩
    have := part_short hz
    exact Nat.le_trans this hx4
theorem join_bt {D : Addr} (hl : s.heap.IsList D vs.toArray) (H : BTL 18 vs) (hx : BT x) (hx1 : x.cps.size ≤ 1)
    (h : ∀ z t' k, BT z → z.cps.size ≤ 100 → Q (.str z t') { s with toks := k }) :
    wpAny (model prog w) A (call (.builtin "str.join") [.str x t, .ref D]) Q E s := by
  obtain ⟨ys, h1, h2, h3⟩ := H.strs
  refine join_listW hl h1 (by unfold Str.length; omega) ?_ (fun t' k => h _ t' k (bt_join hx fun y hy => (h3 y hy).1) ?_)
  · have : ∀ zs : List Str, (∀ y ∈ zs, y.cps.size ≤ 4) → (zs.map (·.length)).sum ≤ 4 * zs.length := by
      intro zs
      induction zs with
      | nil => intro _; simp
      | cons z r ih =>
        intro hz
        have a1 := ih fun y hy => hz y (.tail _ hy)
        have a2 : z.length ≤ 4 := hz z (.head _)
        simp only [List.map_cons, List.sum_cons, List.length_cons]
        omega
    have := this ys fun y hy => (h3 y hy).2
    omega
  · have := join_size (g := x) (k := 1) (n := 4) (N := 18) hx1 (fun y hy => (h3 y hy).2) h2
    omega
end
end Mine
namespace Mine
/-- an object that is neither a cell nor a table of inner code -/
noncomputable def Solid (o : Obj) : Prop := o.cls ≠ .none ∧ ∀ z, o.data ≠ .cell z
theorem solid_list (vs : Array Value) (n : Nat) : Solid (listOf vs n) := ⟨(fun e => by cases e), (fun z e => by cases e)⟩
theorem solid_tup (vs : List Value) (n : Nat) : Solid (tupO vs n) := ⟨(fun e => by cases e), (fun z e => by cases e)⟩
theorem off1_mem {D : Addr} {l : List (Addr × Obj)} (h : LCg.Off1 D l) : ∀ p ∈ l, p.1 ≠ D := by
  induction l with
  | nil => exact fun _ h => nomatch h
  | cons q r ih =>
    intro p hp
    rcases List.mem_cons.mp hp with rfl | hp
    · exact h.1
    · exact ih h.2 p hp
section
variable {g h : Heap} {L c : Addr} {led led' : List (Addr × Obj)} {oc : Obj} {vv : Option Value}
theorem cell_ne (N : News g L h led) (hm : (c, oc) ∈ led) (hd : oc.data = .cell vv) {a : Addr} {o : Obj} (ha : (a, o) ∈ led) (ho : Solid o) : a ≠ c := fun e => by
  subst e
  have e1 := (N _ hm).1
  have e2 := (N _ ha).1
  rw [e1] at e2
  cases e2
  exact ho.2 _ hd
/-- what a step that changes one cell or the table keeps -/
noncomputable def KeepS (led led' : List (Addr × Obj)) : Prop := ∀ p ∈ led, Solid p.2 → p ∈ led'
theorem KeepS.trans {a b c : List (Addr × Obj)} (h : KeepS a b) (k : KeepS b c) : KeepS a c := fun p hp hs => k p (h p hp hs) hs
theorem KeepS.of (h : ∀ p ∈ led, p ∈ led') : KeepS led led' := fun p hp _ => h p hp
theorem KeepS.lst (k : KeepS led led') {a : Addr} {vs : Array Value} {n : Nat} (h : (a, listOf vs n) ∈ led) : (a, listOf vs n) ∈ led' := k _ h (solid_list vs n)
theorem KeepS.cell (N : News g L h led) (hm : (c, oc) ∈ led) (hd : oc.data = .cell vv) (hs : ∀ p ∈ led, p.1 ≠ c → p ∈ led') : KeepS led led' := fun p hp hq => hs p hp (cell_ne N hm hd hp hq)
theorem KeepS.tab (N : News g L h led) (hm : (c, oc) ∈ led) (hd : oc.cls = .none) (hs : ∀ p ∈ led, p.1 ≠ c → p ∈ led') : KeepS led led' := fun p hp hq => hs p hp fun e => by
  obtain ⟨a, o⟩ := p
  dsimp only at e
  subst e
  have e1 := (N _ hm).1
  have e2 := (N _ hp).1
  rw [e1] at e2
  cases e2
  exact hq.1 hd
end
section
variable {prog : Program} {w : World} {A : Around} {E : Value → Shared → Prop} {s : Shared} {h₀ : Heap} {L c : Addr} {m : Str → Option Value} {led : List (Addr × Obj)} {oc : Obj} {vv : Option Value} {v : Value} {env : Env} {x : Str} {p1 : Pos} {Q : Unit → Shared → Prop}
/-- a cell of the ledger is set -/
theorem store_cell (F : Fr h₀ L s.heap m) (N : News h₀ L s.heap led) (hm : (c, oc) ∈ led) (hd : oc.data = .cell vv)
    (hk : env.scope.kind = .function) (hl : env.kindOf x = some .cell) (hc : env.cells.lookup x = some c)
    (h : ∀ h' oc' led', oc'.data = .cell (some v) → Fr h₀ L h' m → News h₀ L h' led' → (c, oc') ∈ led' → (∀ p ∈ led, p.1 ≠ c → p ∈ led') → Q () { s with heap := h' }) : wpAny (model prog w) A (storeName env x v) Q E s := by
  have hm2 := N (c, oc) hm
  refine wpAny_storeName_cell hk hl hc ⟨oc, hm2.1, hd⟩ fun h' hv hs => ?_
  obtain ⟨oc', ho', hd'⟩ := hv
  refine h h' oc' ((c, oc') :: led.filter fun p => p.1 != c) hd' (F.change hs hm2.2.1 hm2.2.2) (fun p hp => ?_) (.head _) (fun p hp hne => .tail _ (List.mem_filter.mpr ⟨hp, by simpa using hne⟩))
  rcases List.mem_cons.mp hp with rfl | hp
  · exact ⟨ho', hm2.2⟩
  · have hq := List.mem_filter.mp hp
    have z := N p hq.1
    exact ⟨hs.extBut _ _ (by simpa using hq.2) z.1, z.2⟩
end
section
variable {prog : Program} {w : World} {A : Around} {E : Value → Shared → Prop} {s : Shared} {stmt : Stmt} {env : Env} {Q : Flow → Shared → Prop} {g : Heap} {L c : Addr} {m : Str → Option Value} {P : Nat → List (Addr × Obj) → Prop}
/-- a loop that counts in a cell has ended -/
noncomputable def StopEnd (g : Heap) (L : Addr) (m : Str → Option Value) (c : Addr) (P : Nat → List (Addr × Obj) → Prop) (s : Shared) (f : Flow) (s' : Shared) : Prop :=
  f = .next ∧ ∃ (h : Heap) (tk : Nat) (led : List (Addr × Obj)) (n : Nat) (o : Obj) (t : Tok), s' = { s with heap := h, toks := tk } ∧ Fr g L h m ∧ News g L h led ∧ o.data = .cell (some (.int n t)) ∧ (c, o) ∈ led ∧ P n led
theorem join_stop {M : Model} (_F : Fr g L s.heap m) (h1 : wpAny M A (exec stmt env) (StopEnd g L m c P s) E s) (h2 : ∀ h tk led (n : Nat) o t, Fr g L h m → News g L h led → o.data = .cell (some (.int n t)) → (c, o) ∈ led → P n led → Q .next { s with heap := h, toks := tk }) : wpAny M A (exec stmt env) Q E s :=
  wpAny_mono h1 (fun f s' zz => by obtain ⟨e, h, tk, led, n, o, t, e', F, N, d, mm, p⟩ := zz; subst e; subst e'; exact h2 h tk led n o t F N d mm p) fun _ _ x => x
end
section
variable {prog : Program} {w : World} {A : Around} {E : Value → Shared → Prop} {s : Shared} {h₀ : Heap} {L : Addr} {m : Str → Option Value} {news : List (Addr × Obj)}
theorem add_ints {l b : Addr} {vs ws : List Value} {ns ms : List Int} {Q : Value → Shared → Prop} (F : Fr h₀ L s.heap m) (N : News h₀ L s.heap news) (hl : s.heap.IsList l vs.toArray) (hb : s.heap.IsList b ws.toArray) (hi : IntsAre vs ns) (hj : IntsAre ws ms) (hsz : ns.length + ms.length ≤ sizeLine)
    (h : ∀ D h' zs, Fr h₀ L h' m → News h₀ L h' ((D, listOf (zs : List Value).toArray 0) :: news) → IntsAre zs (ns ++ ms) → Q (.ref D) { s with heap := h' }) : wpAny (model prog w) A (binaryOp .Add (.ref l) (.ref b)) Q E s :=
  add_lists_ints F N hl hb hi hj (fun h' F' N' I => h _ h' _ F' N' I) hsz
end
section
variable {prog : Program} {w : World} {A : Around} {E : Value → Shared → Prop} {s : Shared} {h₀ : Heap} {L l : Addr} {led : List (Addr × Obj)} {vs : List Value} {n : Nat} {x : Value} {value slice : Expr} {k : Int} {u : Tok} {Q : Value → Shared → Prop}
/-- an item of a list on the ledger, whatever the list came from -/
theorem item_any (N : News h₀ L s.heap led) (hm : (l, listOf vs.toArray n) ∈ led) (h0 : 0 ≤ k) (hf : k < 2 ^ 62) (hx : vs[k.toNat]? = some x) (h : Q x s)
    (hs : subscripted slice false (.ref l) (.int k u) = operate [.ref l, .int k u] (getItem (.ref l) (.int k u)) := by with_unfolding_all rfl) :
    wpAny (model prog w) A (subscriptTail value slice (.ref l) (.int k u)) Q E s :=
  tail_any (lst_of N hm).typeIs slot_list_getitem.lookup (wpAny_getItem_list (lst_of N hm) h0 (by omega) (by simpa using hx) h) hs
end
end Mine
namespace Mine
theorem readGo_shape (f : Nat → Int) : ∀ (k i : Nat) (H : List Int), H.length = i → (readGo f k i H).length = i + k ∨ ∃ pre, readGo f k i H = pre ++ [-1] ∧ pre.length < i + k
  | 0, i, H, h => .inl (by rw [readGo]; exact h)
  | k + 1, i, H, h => by
    rw [readGo]
    (try dsimp only)
    split
    · rcases readGo_shape f k (i + 1) (H ++ [H.getD (backC f (f i) (i - 1)) 0]) (by simp [h]) with e | ⟨pre, e1, e2⟩
      · exact .inl (by omega)
      · exact .inr ⟨pre, e1, by omega⟩
    · split
      · rcases readGo_shape f k (i + 1) (H ++ [(i : Int)]) (by simp [h]) with e | ⟨pre, e1, e2⟩
        · exact .inl (by omega)
        · exact .inr ⟨pre, e1, by omega⟩
      · exact .inr ⟨H, rfl, by omega⟩
theorem readGo_bd {n : Nat} (f : Nat → Int) : ∀ (k i : Nat) (H : List Int), i + k ≤ n → 1 ≤ n → (∀ z ∈ H, -1 ≤ z ∧ z < n) → ∀ z ∈ readGo f k i H, -1 ≤ z ∧ z < n
  | 0, i, H, _, _, h => by rw [readGo]; exact h
  | k + 1, i, H, hi, hn, h => by
    have add : ∀ x : Int, (-1 ≤ x ∧ x < n) → ∀ z ∈ H ++ [x], -1 ≤ z ∧ z < n := fun x hx z hz => by
      rcases List.mem_append.mp hz with hz | hz
      · exact h z hz
      · rw [List.mem_singleton.mp hz]; exact hx
    rw [readGo]
    (try dsimp only)
    split
    · refine readGo_bd f k (i + 1) _ (by omega) hn (add _ ?_)
      rw [List.getD_eq_getElem?_getD]
      cases e : H[backC f (f i) (i - 1)]? with
      | none => show -1 ≤ (0 : Int) ∧ (0 : Int) < n; omega
      | some x => exact h x (List.mem_of_getElem? e)
    · split
      · exact readGo_bd f k (i + 1) _ (by omega) hn (add _ (by omega))
      · exact add _ (by omega)
section
variable {lead : Nat → Str} {n stop : Nat} {t K : Int}
theorem RV_le (hn : 1 ≤ n) : (RV lead n t).length ≤ n ∧ 1 ≤ (RV lead n t).length := by
  unfold RV
  have q := readGo_pre (fun i => colV (lead i) t) (n - 1) 1 [0]
  obtain ⟨tl, e⟩ := q
  refine ⟨?_, by rw [e]; simp⟩
  rcases readGo_shape (fun i => colV (lead i) t) (n - 1) 1 [0] rfl with h | ⟨pre, h1, h2⟩
  · omega
  · rw [h1, List.length_append, List.length_singleton]; omega
theorem RV_bd (hn : 1 ≤ n) : ∀ z ∈ RV lead n t, -1 ≤ z ∧ z < n := readGo_bd _ (n - 1) 1 [0] (by omega) hn fun z hz => by rw [List.mem_singleton.mp hz]; omega
theorem RV_0 : (RV lead n t).getD 0 0 = 0 := by
  unfold RV
  obtain ⟨tl, e⟩ := readGo_pre (fun i => colV (lead i) t) (n - 1) 1 [0]
  rw [e]; rfl
theorem RV_lt (hn : 1 ≤ n) (hs : stop < n) (h : ∀ j, j < stop → 0 ≤ (RV lead n t).getD j 0) : stop < (RV lead n t).length := by
  have q := readGo_shape (fun i => colV (lead i) t) (n - 1) 1 [0] rfl
  rcases q with q | ⟨pre, q1, q2⟩
  · have e : (RV lead n t).length = 1 + (n - 1) := q
    omega
  · have e : RV lead n t = pre ++ [-1] := q1
    by_cases z : pre.length < stop
    · have := h pre.length z
      rw [e, List.getD_eq_getElem?_getD, List.getElem?_append_right (Nat.le_refl _)] at this
      simp at this
    · rw [e, List.length_append, List.length_singleton]; omega
theorem agree_nn (hl : ∀ i, lead i ∈ leadS) (hK : 1 ≤ K ∧ K ≤ 5) (hg : ∀ i, lgV (lead i) < K) (hn : 1 ≤ n) (hag : ∀ i, 1 ≤ i → i < stop → Agree lead n K i) (ht : 1 ≤ t ∧ t ≤ K ∨ t = 8) : ∀ j, j < stop → 0 ≤ (RV lead n t).getD j 0 := fun j hj => by
  cases j with
  | zero => rw [RV_0]; exact Int.le_refl _
  | succ j =>
    obtain ⟨a, b⟩ := hag (j + 1) (by omega) hj
    rcases ht with ht | rfl
    · rw [b t ht.1 ht.2]; exact a
    · rw [read8 hl hK hg hn, b K hK.1 (Int.le_refl _)]; exact a
end
theorem resD_ok {hs : List Int} {i : Nat} {row w : Str} (h1 : PyData.strOk row = true) (h2 : PyData.strOk w = true) : kqdOk 8 (resD hs i row w) = true := by
  simp [resD, kqdOk, h1, h2]
theorem toldR_ok {lead row : Nat → Str} {n stop : Nat} {R : List Int} (hl : ∀ i, lead i ∈ leadS) (hrow : PyData.strOk (row stop) = true) : kqdOk 8 (toldR lead row n R stop) = true := by
  have named : ∀ (a b : Str) (d : Bool), a ∈ leadS → b ∈ leadS → ∀ t ∈ namedV a b d, -200 ≤ t ∧ t ≤ 200 := fun a b d ha hb t ht => by
    have h1 := mem_rangeKs.mp (List.mem_filter.mp ht).1
    have h2 := (lead_facts ha).2.2.1
    have h3 := (lead_facts hb).2.2.1
    omega
  unfold toldR
  split
  · exact resD_ok (by decide +kernel) (by decide +kernel)
  · split
    · exact resD_ok (by decide +kernel) (by decide +kernel)
    · exact resD_ok hrow (ok_toldW _ (named _ _ _ (hl _) (hl _)))
theorem ws_at {rows leads : List Str} (h : rows.map wsOf = leads.map wsOf) (i : Nat) : wsOf (rows.getD i (Str.ofString "")) = wsOf (leads.getD i (Str.ofString "")) := by
  have h2 := congrArg (fun l => l[i]?) h
  simp only [List.getElem?_map] at h2
  show wsOf (rows.getD i (Str.ofString "")) = wsOf (leads.getD i (Str.ofString ""))
  rw [List.getD_eq_getElem?_getD, List.getD_eq_getElem?_getD]
  cases e1 : rows[i]? <;> cases e2 : leads[i]? <;> rw [e1, e2] at h2
  · cases h2
  · cases h2
  · exact Option.some.inj h2
theorem at_0 {rows : List Str} (h : rows.head? = some (Str.ofString "")) : rows.getD 0 (Str.ofString "") = Str.ofString "" := by
  cases rows with
  | nil => cases h
  | cons a r => cases h; rfl
theorem at_ok {rows : List Str} (h : ∀ x ∈ rows, x.cps.size ≤ 64 ∧ PyData.strOk x = true) (i : Nat) : PyData.strOk (rows.getD i (Str.ofString "")) = true := by
  rw [List.getD_eq_getElem?_getD]
  cases e : rows[i]? with
  | none => show PyData.strOk (Str.ofString "") = true; decide +kernel
  | some x => exact (h x (List.mem_of_getElem? e)).2
end Mine
namespace Mine
local macro_rules | `(tactic| walk_at "my park") => `(tactic| refine park ?_)
local macro_rules | `(tactic| walk_at "my item") => `(tactic| (k_here; k_dflt (refine' item_at ?k1 ?k2 ?k3 ?k4 ?k5 ?_; (case k1 => k_asm); (case k2 => first | with_reducible assumption | k_mem); (case k5 => first | with_reducible assumption | assumption); (case k3 => omega); (case k4 => omega); k_whole)))
local macro_rules | `(tactic| omega) => `(tactic| first | with_reducible first | exact Int.natCast_nonneg _ | (apply room2; assumption; decide +kernel) | (apply room1; assumption; decide +kernel) | (apply room0; assumption) | exact Int.toNat_natCast _ | exact Nat.zero_add _ | assumption | decide +kernel | omega +splitDisjunctions)
local macro_rules | `(tactic| walk_at "my room") => `(tactic| ((simp only [depth_mark, depth_under_make, depth_under_kw, depth_in1, depth_deeper, depth_caller]); (try dsimp only [ktrTop]); omega))
section
theorem fill : PySem.Challenge.rw_sn0118_01 = PySem.Challenge.rw_sn0118_01 ∧ A.hd.heap_39 = A.hd.heap_39 := by k_fill; exact ⟨rfl, rfl⟩
local macro_rules | `(tactic| walk_at "pyIter ref") => `(tactic| walk_at "my park")
/-- a Whitespace on the ledger: its five attributes, the norm's two tuples -/
inductive MarkIn (news : List (Addr × Obj)) : Value → List Int → Int → Int → Int → Prop
  | mk {x d t1 t2 : Addr} {k1 k2 k3 k4 k5 : Int} {q1 q2 q3 q4 q5 r1 r2 r3 r4 : Tok} {raw : Str} {n nt b : Int} {cnt : List Int} {cvs : List Value} {e1 e2 : Nat}
    (hx : (x, instObj 117 d) ∈ news)
    (hd : (d, dictOf [⟨k1, .str (Str.ofString "raw") q1, .str raw r1⟩, ⟨k2, .str (Str.ofString "n") q2, .int n r2⟩, ⟨k3, .str (Str.ofString "nt") q3, .int nt r3⟩, ⟨k4, .str (Str.ofString "norm") q4, .ref t1⟩, ⟨k5, .str (Str.ofString "is_simple") q5, .bool (decide ((cnt.length : Int) ≤ 1))⟩] 5) ∈ news)
    (h1 : (t1, tupO [.ref t2, .int b r4] e1) ∈ news) (h2 : (t2, tupO cvs e2) ∈ news) (hc : IntsAre cvs cnt)
    (hlen : cnt.length ≤ 65) (hb : 0 ≤ b ∧ b ≤ 64) (hn : 0 ≤ n ∧ n ≤ 64) (hnt : 0 ≤ nt ∧ nt ≤ 64) (hcb : ∀ c ∈ cnt, 0 ≤ c ∧ c ≤ 64) : MarkIn news (.ref x) cnt b n nt
section
local macro_rules | `(tactic| walk_at "call builtin:len") => `(tactic| walk_at "my park")
local macro_rules | `(tactic| walk_at "subscriptTail") => `(tactic| walk_at "my park")
local macro_rules | `(tactic| walk_at "binaryOp Mult int int") => `(tactic| walk_at "my park")
set_option maxHeartbeats 4000000 in
theorem longest_spec {w : World} {p : Program} {loose : List Str} {mean : ExcName → Option Value} {mg mb : Str → Option Value} {dp un : Nat} {gd : Option (List Code)} {cn : Str} {cs : Scope} {a : Addr} {ccd : Value} {cl : List (Str × Addr)} {outer : List Env} {A₀ : Around} {base h₀ : Heap} {L : Addr} {m : Str → Option Value} {news : List (Addr × Obj)} {s : Shared} {Q E : Value → Shared → Prop} (B : Below A₀ base outer h₀) (F : Fr h₀ L s.heap m) (X : (A.hd.heap_39 w.params).In h₀) (N : News h₀ L s.heap news) (T : Top p loose mean mg mb h₀) (hk : cs.kind = .function) (hdp : dp + 1 < recursionLimit) (hun : un + 100 < cLine) {v : Value} {cnt : List Int} {b n nt : Int} (M : MarkIn news v cnt b n nt)
    (hret : ∀ t h' tk', Fr h₀ L h' m → News h₀ L h' news → Q (.int (max ((cnt.length : Int) - 1) b) t) { s with heap := h', toks := tk' }) :
    wpAny (model PySem.Challenge.rw_sn0118_01.row.prog w) (ktrTop dp un gd cn cs L a ccd cl outer) (call (.ref 79) [v]) Q E s := by
  cases M
  refine wpAny_call ?_
  k_dflt cell_enter
  k_steps
  (refine unpark ?_; (k_here; k_dflt (refine' len_tupI ?k1q1 ?k2q1 ?k3q1 ?k4q1 ?_; (case k1q1 => k_asm); (case k2q1 => k_mem); (case k3q1 => assumption); (case k4q1 => omega); k_whole)))
  k_steps
  all_goals exact cb_retI hret (by split <;> omega) (by assumption) (by assumption)
set_option maxHeartbeats 4000000 in
theorem indent_spec {w : World} {p : Program} {loose : List Str} {mean : ExcName → Option Value} {mg mb : Str → Option Value} {dp un : Nat} {gd : Option (List Code)} {cn : Str} {cs : Scope} {a : Addr} {ccd : Value} {cl : List (Str × Addr)} {outer : List Env} {A₀ : Around} {base h₀ : Heap} {L : Addr} {m : Str → Option Value} {news : List (Addr × Obj)} {s : Shared} {Q E : Value → Shared → Prop} (B : Below A₀ base outer h₀) (F : Fr h₀ L s.heap m) (X : (A.hd.heap_39 w.params).In h₀) (N : News h₀ L s.heap news) (T : Top p loose mean mg mb h₀) (hk : cs.kind = .function) (hdp : dp + 1 < recursionLimit) (hun : un + 100 < cLine) {v : Value} {cnt : List Int} {b n nt ts : Int} {tk : Tok} (M : MarkIn news v cnt b n nt) (hts : 1 ≤ ts ∧ ts ≤ 100)
    (hret : ∀ t h' tk', Fr h₀ L h' m → News h₀ L h' news → Q (.int (b + ts * (ilSum cnt ts (rangeKs ts (cnt.length - ts).toNat) + nt)) t) { s with heap := h', toks := tk' }) :
    wpAny (model PySem.Challenge.rw_sn0118_01.row.prog w) (ktrTop dp un gd cn cs L a ccd cl outer) (call (.ref 86) [v, .int ts tk]) Q E s := by
  cases M
  refine wpAny_call ?_
  k_dflt cell_enter
  k_steps
  (refine unpark ?_; (k_here; k_dflt (refine' len_tupI ?k1q2 ?k2q2 ?k3q2 ?k4q2 ?_; (case k1q2 => k_asm); (case k2q2 => k_mem); (case k3q2 => assumption); (case k4q2 => omega); k_whole)))
  k_steps
  refine unpark ?_
  k_with "state" => (simp only [ilSum, List.map_append, List.sum_append, List.map_cons, List.map_nil, List.sum_cons, List.sum_nil, Int.add_zero] at *; omega)
  k_state (fun pre il => il = ilSum cnt ts pre) "il"
  · k_steps
    (refine unpark ?_; (k_here; k_dflt (refine' item_tupI ?k1q3 ?k2q3 ?k3q3 ?k4q3 ?k5q3 ?k6q3 ?_; (case k1q3 => k_asm); (case k2q3 => k_mem); (case k3q3 => assumption); (case k4q3 => omega); (case k5q3 => omega); (case k6q3 => omega); k_whole); intro tI))
    k_steps
    (refine unpark ?_; (first | (refine' PyProof.Rows.mul_int ?_ (PySem.IntMulOk.of_left (PySem.intBits_le_64 (by omega) (by omega)))) | (refine' PyProof.Rows.mul_int ?_ (PySem.IntMulOk.of_right (PySem.intBits_le_64 (by omega) (by omega)))) | (refine' PyProof.Rows.mul_int ?_ (mulOk_getD (by assumption)))))
    k_steps
  k_steps
  (refine unpark ?_; (first | (refine' PyProof.Rows.mul_int ?_ (PySem.IntMulOk.of_left (PySem.intBits_le_64 (by omega) (by omega)))) | (refine' PyProof.Rows.mul_int ?_ (PySem.IntMulOk.of_right (PySem.intBits_le_64 (by omega) (by omega)))) | (refine' PyProof.Rows.mul_int ?_ (mulOk_getD (by assumption)))))
  k_steps
  all_goals exact cb_retI hret (by subst_vars; rfl) (by assumption) (by assumption)
end
theorem MarkIn.mono {news news' : List (Addr × Obj)} (hs : ∀ p ∈ news, p ∈ news') {v : Value} {cnt : List Int} {b n nt : Int} (M : MarkIn news v cnt b n nt) : MarkIn news' v cnt b n nt := by
  cases M with
  | mk hx hd h1 h2 hc hlen hb hn hnt hcb => exact .mk (hs _ hx) (hs _ hd) (hs _ h1) (hs _ h2) hc hlen hb hn hnt hcb
theorem MarkIn.up {news news' : List (Addr × Obj)} {v : Value} {cnt : List Int} {b n nt : Int} (M : MarkIn news v cnt b n nt) (hs : ∀ p ∈ news, p ∈ news') : MarkIn news' v cnt b n nt := M.mono hs
local macro_rules | `(tactic| walk_at "compareOp Eq ref ref") => `(tactic| walk_at "my park")
set_option maxHeartbeats 4000000 in
theorem equal_spec {w : World} {p : Program} {loose : List Str} {mean : ExcName → Option Value} {mg mb : Str → Option Value} {dp un : Nat} {gd : Option (List Code)} {cn : Str} {cs : Scope} {a : Addr} {ccd : Value} {cl : List (Str × Addr)} {outer : List Env} {A₀ : Around} {base h₀ : Heap} {L : Addr} {m : Str → Option Value} {news : List (Addr × Obj)} {s : Shared} {Q E : Value → Shared → Prop} (B : Below A₀ base outer h₀) (F : Fr h₀ L s.heap m) (X : (A.hd.heap_39 w.params).In h₀) (N : News h₀ L s.heap news) (T : Top p loose mean mg mb h₀) (hk : cs.kind = .function) (hdp : dp + 1 < recursionLimit) (hun : un + 100 < cLine) {v v' : Value} {cnt cnt' : List Int} {b n nt b' n' nt' : Int} (M : MarkIn news v cnt b n nt) (M' : MarkIn news v' cnt' b' n' nt')
    (hret : ∀ (t : Tok) h' tk', Fr h₀ L h' m → News h₀ L h' news → Q (.bool (decide (cnt = cnt' ∧ b = b'))) { s with heap := h', toks := tk' }) :
    wpAny (model PySem.Challenge.rw_sn0118_01.row.prog w) (ktrTop dp un gd cn cs L a ccd cl outer) (call (.ref 93) [v, v']) Q E s := by
  cases M
  cases M'
  refine wpAny_call ?_
  k_dflt cell_enter
  k_steps
  (refine unpark ?_; (k_here; (refine' eq_norm ?k1q6 ?k2q6 ?k3q6 ?k4q6 ?k5q6 ?k6q6 ?k7q6 ?k8q6 ?_; (case k1q6 => k_asm); (case k2q6 => k_mem); (case k3q6 => k_mem); (case k4q6 => assumption); (case k5q6 => k_mem); (case k6q6 => k_mem); (case k7q6 => assumption); (case k8q6 => ktr_units); k_whole)))
  k_steps
  all_goals exact cb_retB hret rfl (by assumption) (by assumption)
local macro_rules | `(tactic| walk_at "call ref") => `(tactic| walk_at "my park")
local macro_rules | `(tactic| walk_at "exec If") => `(tactic| refine parkIfB ?_)
set_option maxHeartbeats 4000000 in
theorem less_spec {w : World} {p : Program} {loose : List Str} {mean : ExcName → Option Value} {mg mb : Str → Option Value} {dp un : Nat} {gd : Option (List Code)} {cn : Str} {cs : Scope} {a : Addr} {ccd : Value} {cl : List (Str × Addr)} {outer : List Env} {A₀ : Around} {base h₀ : Heap} {L : Addr} {m : Str → Option Value} {news : List (Addr × Obj)} {s : Shared} {Q E : Value → Shared → Prop} (B : Below A₀ base outer h₀) (F : Fr h₀ L s.heap m) (X : (A.hd.heap_39 w.params).In h₀) (N : News h₀ L s.heap news) (T : Top p loose mean mg mb h₀) (hk : cs.kind = .function) (hdp : dp + 3 < recursionLimit) (hun : un + 300 < cLine) {v v' : Value} {cnt cnt' : List Int} {b n nt b' n' nt' : Int} (M : MarkIn news v cnt b n nt) (M' : MarkIn news v' cnt' b' n' nt')
    (hret : ∀ h' tk' r, r = lessV cnt b n nt cnt' b' n' nt' → Fr h₀ L h' m → News h₀ L h' news → Q (.bool r) { s with heap := h', toks := tk' }) :
    wpAny (model PySem.Challenge.rw_sn0118_01.row.prog w) (ktrTop dp un gd cn cs L a ccd cl outer) (call (.ref 107) [v, v']) Q E s := by
  have M0 := M
  have M0' := M'
  cases M
  cases M'
  refine wpAny_call ?_
  k_dflt cell_enter
  k_steps
  · exact hret _ _ _ (lessV_ge (by omega)) (by assumption) (by assumption)
  refine unpark ?_
  refine join_if (decide (simpV cnt cnt')) ?_ ?_
  · k_steps
    all_goals exact unpark ⟨(by symm; first | exact decide_eq_false (by simp only [simpV]; omega) | exact decide_eq_true (by simp only [simpV]; omega)), _, rfl⟩
  intro tkI
  by_cases hsv : simpV cnt cnt'
  · rw [if_pos (decide_eq_true hsv)]
    k_steps
    exact hret _ _ _ (lessV_simp (by omega) hsv) (by assumption) (by assumption)
  · rw [if_neg (by rw [decide_eq_false hsv]; exact Bool.false_ne_true)]
    k_steps
    (refine unpark ?_; (k_here; k_dflt (refine' longest_spec ?k1q7 ?k2q7 ?k3q7 ?k4q7 ?k5q7 ?k6q7 ?k7q7 ?k8q7 ?k9q7 ?_; (case k1q7 => k_asm); (case k2q7 => k_asm); (case k3q7 => k_asm); (case k4q7 => k_asm); (case k5q7 => k_asm); (case k6q7 => first | exact rfl | assumption); (case k7q7 => ktr_room); (case k8q7 => ktr_units); (case k9q7 => first | assumption | exact MarkIn.up (by assumption) (by kcf_all)); (intro t9 h9 tk9 F9 N9; (try dsimp only); (try k_sweep); (try k_fold)))))
    k_steps
    (refine unpark ?_; (k_here; k_dflt (refine' longest_spec ?k1q8 ?k2q8 ?k3q8 ?k4q8 ?k5q8 ?k6q8 ?k7q8 ?k8q8 ?k9q8 ?_; (case k1q8 => k_asm); (case k2q8 => k_asm); (case k3q8 => k_asm); (case k4q8 => k_asm); (case k5q8 => k_asm); (case k6q8 => first | exact rfl | assumption); (case k7q8 => ktr_room); (case k8q8 => ktr_units); (case k9q8 => first | assumption | exact MarkIn.up (by assumption) (by kcf_all)); (intro t9 h9 tk9 F9 N9; (try dsimp only); (try k_sweep); (try k_fold)))))
    k_steps
    refine unpark ?_
    (rename Fr _ _ _ _ => lF'); (rename News _ _ _ _ => lN'); (rename IsRange _ _ _ _ _ _ _ _ => rgX)
    rw [ite_max] at rgX
    obtain ⟨tv, htv, tv1, tv2⟩ : ∃ tv, topV cnt b cnt' b' = tv ∧ -1 ≤ tv ∧ tv ≤ 64 := ⟨_, rfl, by simp only [topV, longV]; omega, by simp only [topV, longV]; omega⟩
    rw [show max (max ((cnt.length : Int) - 1) b) (max ((cnt'.length : Int) - 1) b') = tv from htv] at rgX
    trace_state
    with_unfolding_all refine' kst_range (σ := Unit) (fun _ => news) (fun _ => []) (fun _ => True) [] (fun pre _ => ∀ ts ∈ pre, level cnt b nt ts < level cnt' b' nt' ts) () (by rfl) rgX (by exact small_one (by omega) (by omega) (by omega) (by omega)) (by exact rangeSize_nat _ _) lF' lN' trivial (by simp) (by simp) ?_ ?_
    · intro c pre k t u hh tk own hk1 hk2 hoff hT hInv kFr kNews
      have hk3 : 2 ≤ k ∧ k ≤ tv + 1 ∧ k ≤ 100 := by omega
      try dsimp only at kNews
      try dsimp only at kFr
      try k_fold
      k_steps
      (refine unpark ?_; (k_here; k_dflt (refine' indent_spec ?k1q9 ?k2q9 ?k3q9 ?k4q9 ?k5q9 ?k6q9 ?k7q9 ?k8q9 ?k9q9 ?kaq9 ?_; (case k1q9 => k_asm); (case k2q9 => k_asm); (case k3q9 => k_asm); (case k4q9 => k_asm); (case k5q9 => k_asm); (case k6q9 => first | exact rfl | assumption); (case k7q9 => ktr_room); (case k8q9 => ktr_units); (case k9q9 => first | assumption | exact MarkIn.up (by assumption) (by kcf_all)); (case kaq9 => omega); (intro t9 h9 tk9 F9 N9; (try dsimp only); (try k_sweep); (try k_fold)))))
      k_steps
      (refine unpark ?_; (k_here; k_dflt (refine' indent_spec ?k1q10 ?k2q10 ?k3q10 ?k4q10 ?k5q10 ?k6q10 ?k7q10 ?k8q10 ?k9q10 ?kaq10 ?_; (case k1q10 => k_asm); (case k2q10 => k_asm); (case k3q10 => k_asm); (case k4q10 => k_asm); (case k5q10 => k_asm); (case k6q10 => first | exact rfl | assumption); (case k7q10 => ktr_room); (case k8q10 => ktr_units); (case k9q10 => first | assumption | exact MarkIn.up (by assumption) (by kcf_all)); (case kaq10 => omega); (intro t9 h9 tk9 F9 N9; (try dsimp only); (try k_sweep); (try k_fold)))))
      k_steps
      · exact hret _ _ _ (lessV_no (k := k) (by omega) hsv (by omega) (by rw [htv]; omega) (by assumption)) (by assumption) (cb_drop (by assumption) (by kcf_all))
      · refine kst_end () (by assumption) (by assumption) (by kcf_all) (by kcf_all) rfl trivial (by simp) ?_ ?_
        · intro z h1 _ _
          simp [kstB, h1]
        · intro ts hts
          rcases List.mem_append.mp hts with hts | hts
          · exact hInv ts hts
          · rw [List.mem_singleton.mp hts]; first | assumption | exact Int.not_le.mp (by assumption) | exact Int.lt_of_not_ge (by assumption)
    · intro c u hh tk hT hInv kFr kNews
      try dsimp only at kNews
      dsimp only
      k_steps
      refine hret _ _ _ (lessV_yes (by omega) hsv (fun k h2 hk => hInv k (mem_rangeKs.mpr ⟨h2, by rw [htv] at hk; omega⟩))) (by assumption) (by assumption)
theorem fill2 : PySem.Challenge.rw_sn0118_01 = PySem.Challenge.rw_sn0118_01 ∧ A.hd.heap_39 = A.hd.heap_39 := by k_fill; exact ⟨rfl, rfl⟩
set_option maxHeartbeats 4000000 in
theorem newit_spec {w : World} {p : Program} {loose : List Str} {mean : ExcName → Option Value} {mg mb : Str → Option Value} {dp un : Nat} {gd : Option (List Code)} {cn : Str} {cs : Scope} {a : Addr} {ccd : Value} {cl : List (Str × Addr)} {outer : List Env} {A₀ : Around} {base h₀ : Heap} {L : Addr} {m : Str → Option Value} {news : List (Addr × Obj)} {s : Shared} {Q E : Value → Shared → Prop} (B : Below A₀ base outer h₀) (F : Fr h₀ L s.heap m) (X : (A.hd.heap_39 w.params).In h₀) (N : News h₀ L s.heap news) (T : Top p loose mean mg mb h₀) (hk : cs.kind = .function) (hdp : dp + 3 < recursionLimit) (hun : un + 300 < cLine) {v v' : Value} {cnt cnt' : List Int} {b n nt b' n' nt' : Int} (M : MarkIn news v cnt b n nt) (M' : MarkIn news v' cnt' b' n' nt')
    (hret : ∀ r led h' tk' nn, nn = (topV cnt b cnt' b' + 1).toNat → Fr h₀ L h' m → News h₀ L h' led → (∀ p ∈ news, p ∈ led) → DatIn led r (.list ((neW cnt b nt cnt' b' nt' (rangeKs 1 nn)).map (triple cnt b nt cnt' b' nt'))) → Q r { s with heap := h', toks := tk' }) :
    wpAny (model PySem.Challenge.rw_sn0118_01.row.prog w) (ktrTop dp un gd cn cs L a ccd cl outer) (call (.ref 100) [v, v']) Q E s := by
  have M0 := M
  have M0' := M'
  cases M
  cases M'
  refine wpAny_call ?_
  k_dflt cell_enter
  k_steps
  (refine unpark ?_; (k_here; k_dflt (refine' longest_spec ?k1q1 ?k2q1 ?k3q1 ?k4q1 ?k5q1 ?k6q1 ?k7q1 ?k8q1 ?k9q1 ?_; (case k1q1 => k_asm); (case k2q1 => k_asm); (case k3q1 => k_asm); (case k4q1 => k_asm); (case k5q1 => k_asm); (case k6q1 => first | exact rfl | assumption); (case k7q1 => ktr_room); (case k8q1 => ktr_units); (case k9q1 => first | assumption | exact MarkIn.up (by assumption) (by kcf_all)); (intro t9 h9 tk9 F9 N9; (try dsimp only); (try k_sweep); (try k_fold)))))
  k_steps
  (refine unpark ?_; (k_here; k_dflt (refine' longest_spec ?k1q2 ?k2q2 ?k3q2 ?k4q2 ?k5q2 ?k6q2 ?k7q2 ?k8q2 ?k9q2 ?_; (case k1q2 => k_asm); (case k2q2 => k_asm); (case k3q2 => k_asm); (case k4q2 => k_asm); (case k5q2 => k_asm); (case k6q2 => first | exact rfl | assumption); (case k7q2 => ktr_room); (case k8q2 => ktr_units); (case k9q2 => first | assumption | exact MarkIn.up (by assumption) (by kcf_all)); (intro t9 h9 tk9 F9 N9; (try dsimp only); (try k_sweep); (try k_fold)))))
  k_steps
  k_with "state" => first | exact ne_start | exact ne_stepY (by assumption) (by assumption) | exact ne_stepN (by assumption) (by assumption)
  all_goals (
    refine unpark ?_
    k_dat (fun (pre : List Int) (out : List Dat) => out = (neW cnt b nt cnt' b' nt' pre).map (triple cnt b nt cnt' b' nt') ∧ out.length ≤ pre.length) "a*")
  · have hk3 : 1 ≤ kN ∧ kN ≤ 100 := by omega
    k_steps
    (refine unpark ?_; (k_here; k_dflt (refine' indent_spec ?k1q3 ?k2q3 ?k3q3 ?k4q3 ?k5q3 ?k6q3 ?k7q3 ?k8q3 ?k9q3 ?kaq3 ?_; (case k1q3 => k_asm); (case k2q3 => k_asm); (case k3q3 => k_asm); (case k4q3 => k_asm); (case k5q3 => k_asm); (case k6q3 => first | exact rfl | assumption); (case k7q3 => ktr_room); (case k8q3 => ktr_units); (case k9q3 => first | assumption | exact MarkIn.up (by assumption) (by kcf_all)); (case kaq3 => omega); (intro t9 h9 tk9 F9 N9; (try dsimp only); (try k_sweep); (try k_fold)))))
    k_steps
    (refine unpark ?_; (k_here; k_dflt (refine' indent_spec ?k1q4 ?k2q4 ?k3q4 ?k4q4 ?k5q4 ?k6q4 ?k7q4 ?k8q4 ?k9q4 ?kaq4 ?_; (case k1q4 => k_asm); (case k2q4 => k_asm); (case k3q4 => k_asm); (case k4q4 => k_asm); (case k5q4 => k_asm); (case k6q4 => first | exact rfl | assumption); (case k7q4 => ktr_room); (case k8q4 => ktr_units); (case k9q4 => first | assumption | exact MarkIn.up (by assumption) (by kcf_all)); (case kaq4 => omega); (intro t9 h9 tk9 F9 N9; (try dsimp only); (try k_sweep); (try k_fold)))))
    k_steps
    (refine unpark ?_; (k_here; k_dflt (refine' indent_spec ?k1q5 ?k2q5 ?k3q5 ?k4q5 ?k5q5 ?k6q5 ?k7q5 ?k8q5 ?k9q5 ?kaq5 ?_; (case k1q5 => k_asm); (case k2q5 => k_asm); (case k3q5 => k_asm); (case k4q5 => k_asm); (case k5q5 => k_asm); (case k6q5 => first | exact rfl | assumption); (case k7q5 => ktr_room); (case k8q5 => ktr_units); (case k9q5 => first | assumption | exact MarkIn.up (by assumption) (by kcf_all)); (case kaq5 => omega); (intro t9 h9 tk9 F9 N9; (try dsimp only); (try k_sweep); (try k_fold)))))
    k_steps
    (refine unpark ?_; (k_here; k_dflt (refine' indent_spec ?k1q6 ?k2q6 ?k3q6 ?k4q6 ?k5q6 ?k6q6 ?k7q6 ?k8q6 ?k9q6 ?kaq6 ?_; (case k1q6 => k_asm); (case k2q6 => k_asm); (case k3q6 => k_asm); (case k4q6 => k_asm); (case k5q6 => k_asm); (case k6q6 => first | exact rfl | assumption); (case k7q6 => ktr_room); (case k8q6 => ktr_units); (case k9q6 => first | assumption | exact MarkIn.up (by assumption) (by kcf_all)); (case kaq6 => omega); (intro t9 h9 tk9 F9 N9; (try dsimp only); (try k_sweep); (try k_fold)))))
    k_steps
  · k_steps
    exact hret _ _ _ _ _ (by first | rw [ite_max, Int.add_sub_cancel] | (rw [ite_max]; simp only [topV, longV]; omega)) (by assumption) (by assumption) (by kcf_all) (.list (.head _) (DatAll.mono (by kcf_all) kFacts))
set_option maxHeartbeats 4000000 in
theorem nlwit_spec {w : World} {p : Program} {loose : List Str} {mean : ExcName → Option Value} {mg mb : Str → Option Value} {dp un : Nat} {gd : Option (List Code)} {cn : Str} {cs : Scope} {a : Addr} {ccd : Value} {cl : List (Str × Addr)} {outer : List Env} {A₀ : Around} {base h₀ : Heap} {L : Addr} {m : Str → Option Value} {news : List (Addr × Obj)} {s : Shared} {Q E : Value → Shared → Prop} (B : Below A₀ base outer h₀) (F : Fr h₀ L s.heap m) (X : (A.hd.heap_39 w.params).In h₀) (N : News h₀ L s.heap news) (T : Top p loose mean mg mb h₀) (hk : cs.kind = .function) (hdp : dp + 3 < recursionLimit) (hun : un + 300 < cLine) {v v' : Value} {cnt cnt' : List Int} {b n nt b' n' nt' : Int} (M : MarkIn news v cnt b n nt) (M' : MarkIn news v' cnt' b' n' nt')
    (hret : ∀ r led h' tk' nn, nn = (topV cnt b cnt' b' + 1).toNat → Fr h₀ L h' m → News h₀ L h' led → (∀ p ∈ news, p ∈ led) → DatIn led r (.list ((nlW cnt b nt cnt' b' nt' (rangeKs 1 nn)).map (triple cnt b nt cnt' b' nt'))) → Q r { s with heap := h', toks := tk' }) :
    wpAny (model PySem.Challenge.rw_sn0118_01.row.prog w) (ktrTop dp un gd cn cs L a ccd cl outer) (call (.ref 114) [v, v']) Q E s := by
  have M0 := M
  have M0' := M'
  cases M
  cases M'
  refine wpAny_call ?_
  k_dflt cell_enter
  k_steps
  (refine unpark ?_; (k_here; k_dflt (refine' longest_spec ?k1q7 ?k2q7 ?k3q7 ?k4q7 ?k5q7 ?k6q7 ?k7q7 ?k8q7 ?k9q7 ?_; (case k1q7 => k_asm); (case k2q7 => k_asm); (case k3q7 => k_asm); (case k4q7 => k_asm); (case k5q7 => k_asm); (case k6q7 => first | exact rfl | assumption); (case k7q7 => ktr_room); (case k8q7 => ktr_units); (case k9q7 => first | assumption | exact MarkIn.up (by assumption) (by kcf_all)); (intro t9 h9 tk9 F9 N9; (try dsimp only); (try k_sweep); (try k_fold)))))
  k_steps
  (refine unpark ?_; (k_here; k_dflt (refine' longest_spec ?k1q8 ?k2q8 ?k3q8 ?k4q8 ?k5q8 ?k6q8 ?k7q8 ?k8q8 ?k9q8 ?_; (case k1q8 => k_asm); (case k2q8 => k_asm); (case k3q8 => k_asm); (case k4q8 => k_asm); (case k5q8 => k_asm); (case k6q8 => first | exact rfl | assumption); (case k7q8 => ktr_room); (case k8q8 => ktr_units); (case k9q8 => first | assumption | exact MarkIn.up (by assumption) (by kcf_all)); (intro t9 h9 tk9 F9 N9; (try dsimp only); (try k_sweep); (try k_fold)))))
  k_steps
  k_with "state" => first | exact nl_start | exact nl_stepY (by assumption) (by assumption) | exact nl_stepN (by assumption) (by assumption)
  all_goals (
    refine unpark ?_
    k_dat (fun (pre : List Int) (out : List Dat) => out = (nlW cnt b nt cnt' b' nt' pre).map (triple cnt b nt cnt' b' nt') ∧ out.length ≤ pre.length) "a*")
  · have hk3 : 1 ≤ kN ∧ kN ≤ 100 := by omega
    k_steps
    (refine unpark ?_; (k_here; k_dflt (refine' indent_spec ?k1q9 ?k2q9 ?k3q9 ?k4q9 ?k5q9 ?k6q9 ?k7q9 ?k8q9 ?k9q9 ?kaq9 ?_; (case k1q9 => k_asm); (case k2q9 => k_asm); (case k3q9 => k_asm); (case k4q9 => k_asm); (case k5q9 => k_asm); (case k6q9 => first | exact rfl | assumption); (case k7q9 => ktr_room); (case k8q9 => ktr_units); (case k9q9 => first | assumption | exact MarkIn.up (by assumption) (by kcf_all)); (case kaq9 => omega); (intro t9 h9 tk9 F9 N9; (try dsimp only); (try k_sweep); (try k_fold)))))
    k_steps
    (refine unpark ?_; (k_here; k_dflt (refine' indent_spec ?k1q10 ?k2q10 ?k3q10 ?k4q10 ?k5q10 ?k6q10 ?k7q10 ?k8q10 ?k9q10 ?kaq10 ?_; (case k1q10 => k_asm); (case k2q10 => k_asm); (case k3q10 => k_asm); (case k4q10 => k_asm); (case k5q10 => k_asm); (case k6q10 => first | exact rfl | assumption); (case k7q10 => ktr_room); (case k8q10 => ktr_units); (case k9q10 => first | assumption | exact MarkIn.up (by assumption) (by kcf_all)); (case kaq10 => omega); (intro t9 h9 tk9 F9 N9; (try dsimp only); (try k_sweep); (try k_fold)))))
    k_steps
    (refine unpark ?_; (k_here; k_dflt (refine' indent_spec ?k1q11 ?k2q11 ?k3q11 ?k4q11 ?k5q11 ?k6q11 ?k7q11 ?k8q11 ?k9q11 ?kaq11 ?_; (case k1q11 => k_asm); (case k2q11 => k_asm); (case k3q11 => k_asm); (case k4q11 => k_asm); (case k5q11 => k_asm); (case k6q11 => first | exact rfl | assumption); (case k7q11 => ktr_room); (case k8q11 => ktr_units); (case k9q11 => first | assumption | exact MarkIn.up (by assumption) (by kcf_all)); (case kaq11 => omega); (intro t9 h9 tk9 F9 N9; (try dsimp only); (try k_sweep); (try k_fold)))))
    k_steps
    (refine unpark ?_; (k_here; k_dflt (refine' indent_spec ?k1q12 ?k2q12 ?k3q12 ?k4q12 ?k5q12 ?k6q12 ?k7q12 ?k8q12 ?k9q12 ?kaq12 ?_; (case k1q12 => k_asm); (case k2q12 => k_asm); (case k3q12 => k_asm); (case k4q12 => k_asm); (case k5q12 => k_asm); (case k6q12 => first | exact rfl | assumption); (case k7q12 => ktr_room); (case k8q12 => ktr_units); (case k9q12 => first | assumption | exact MarkIn.up (by assumption) (by kcf_all)); (case kaq12 => omega); (intro t9 h9 tk9 F9 N9; (try dsimp only); (try k_sweep); (try k_fold)))))
    k_steps
  · k_steps
    exact hret _ _ _ _ _ (by first | rw [ite_max, Int.add_sub_cancel] | (rw [ite_max]; simp only [topV, longV]; omega)) (by assumption) (by assumption) (by kcf_all) (.list (.head _) (DatAll.mono (by kcf_all) kFacts))
theorem fill3 : PySem.Challenge.rw_sn0118_01 = PySem.Challenge.rw_sn0118_01 ∧ A.hd.heap_39 = A.hd.heap_39 := by k_fill; exact ⟨rfl, rfl⟩
local macro_rules | `(tactic| walk_at "pyIter str") => `(tactic| walk_at "my park")
local macro_rules | `(tactic| walk_at "exec For Name Attribute cons nil") => `(tactic| walk_at "my park")
local macro_rules | `(tactic| walk_at "call type:tuple") => `(tactic| walk_at "my park")
theorem fin5 {h₀ h' : Heap} {L : Addr} {m : Str → Option Value} {news rest : List (Addr × Obj)} {s : Shared} {Q : Value → Shared → Prop} {a b c d e : Addr × Obj} {raw : Str} {r : Value} {tk' : Nat} {cnt : List Int} {bl n nt : Int}
    (hret : ∀ r led mk h' tk' cnt b n nt, wsOf raw = (cnt, b, n, nt) → Fr h₀ L h' m → News h₀ L h' led → (∀ p ∈ news, p ∈ led) → (∀ p ∈ mk, p ∈ led ∧ ∀ q ∈ news, q.1 ≠ p.1) → MarkIn mk r cnt b n nt → Q r { s with heap := h', toks := tk' })
    (hw : wsOf raw = (cnt, bl, n, nt)) (F : Fr h₀ L h' m) (N : News h₀ L h' (a :: b :: c :: d :: e :: rest)) (hs : ∀ p ∈ news, p ∈ rest) (fr : ∀ q ∈ news, q.1 < a.1 ∧ q.1 < b.1 ∧ q.1 < c.1 ∧ q.1 < d.1 ∧ q.1 < e.1) (M : MarkIn [a, b, c, d, e] r cnt bl n nt) :
    Q r { s with heap := h', toks := tk' } := by
  refine hret r _ [a, b, c, d, e] h' tk' cnt bl n nt hw F N (fun p hp => .tail _ (.tail _ (.tail _ (.tail _ (.tail _ (hs p hp)))))) (fun p hp => ⟨?_, fun q hq => ?_⟩) M
  · rcases List.mem_cons.mp hp with rfl | hp
    · exact .head _
    rcases List.mem_cons.mp hp with rfl | hp
    · exact .tail _ (.head _)
    rcases List.mem_cons.mp hp with rfl | hp
    · exact .tail _ (.tail _ (.head _))
    rcases List.mem_cons.mp hp with rfl | hp
    · exact .tail _ (.tail _ (.tail _ (.head _)))
    · rw [List.mem_singleton.mp hp]; exact .tail _ (.tail _ (.tail _ (.tail _ (.head _))))
  · obtain ⟨f1, f2, f3, f4, f5⟩ := fr q hq
    rcases List.mem_cons.mp hp with rfl | hp
    · exact Nat.ne_of_lt f1
    rcases List.mem_cons.mp hp with rfl | hp
    · exact Nat.ne_of_lt f2
    rcases List.mem_cons.mp hp with rfl | hp
    · exact Nat.ne_of_lt f3
    rcases List.mem_cons.mp hp with rfl | hp
    · exact Nat.ne_of_lt f4
    · rw [List.mem_singleton.mp hp]; exact Nat.ne_of_lt f5
/-- the loop over the text has ended -/
inductive IEnd (g : Heap) (L x : Addr) (raw : Str) (bs : List (Addr × Obj)) (s : Shared) : Shared → Prop
  | mk {h : Heap} {tk : Nat} {m' : Str → Option Value} {cl : Addr} {vs : List Value} {ep : Nat} {cnt : List Int} {b n nt : Int} {tb tn tt : Tok} {own : List (Addr × Obj)} {i : Nat}
    (hw : wsOf raw = (cnt, b, n, nt)) (hi : i ≤ 64) (hP : PInit raw bs i ⟨cl, vs, ep, cnt, b, n, nt, tb, tn, tt⟩) (F : Fr g L h m')
    (e0 : m' (Str.ofString "self") = some (.ref x)) (e1 : m' (Str.ofString "count") = some (.ref cl)) (e2 : m' (Str.ofString "b") = some (.int b tb)) (e3 : m' (Str.ofString "n") = some (.int n tn)) (e4 : m' (Str.ofString "nt") = some (.int nt tt))
    (N : News g L h ((cl, listOf vs.toArray ep) :: (bs ++ own))) (ho : OwnOff own (((cl, listOf vs.toArray ep) :: bs).map (·.1))) : IEnd g L x raw bs s { s with heap := h, toks := tk }
set_option maxHeartbeats 4000000 in
theorem init_spec {w : World} {p : Program} {loose : List Str} {mean : ExcName → Option Value} {mg mb : Str → Option Value} {dp un : Nat} {gd : Option (List Code)} {cn : Str} {cs : Scope} {a : Addr} {ccd : Value} {cl : List (Str × Addr)} {outer : List Env} {A₀ : Around} {base h₀ : Heap} {L : Addr} {m : Str → Option Value} {news : List (Addr × Obj)} {s : Shared} {Q E : Value → Shared → Prop} (B : Below A₀ base outer h₀) (F : Fr h₀ L s.heap m) (X : (A.hd.heap_39 w.params).In h₀) (N : News h₀ L s.heap news) (T : Top p loose mean mg mb h₀) (hk : cs.kind = .function) (hdp : dp + 3 < recursionLimit) (hun : un + 300 < cLine) {raw : Str} {tk : Tok} (hraw : raw.cps.size ≤ 64) 
    (hret : ∀ r led mk h' tk' cnt b n nt, wsOf raw = (cnt, b, n, nt) → Fr h₀ L h' m → News h₀ L h' led → (∀ p ∈ news, p ∈ led) → (∀ p ∈ mk, p ∈ led ∧ ∀ q ∈ news, q.1 ≠ p.1) → MarkIn mk r cnt b n nt → Q r { s with heap := h', toks := tk' }) :
    wpAny (model PySem.Challenge.rw_sn0118_01.row.prog w) (ktrTop dp un gd cn cs L a ccd cl outer) (call (.ref 117) [.str raw tk]) Q E s := by
  k_dflt (refine' call_cls ?k1 ?k2 ?k3 ?k4 ?k5 ?k6 ?_; (case k1 => k_asm); (case k2 => k_asm); (case k3 => k_asm); (case k4 => k_is); (case k5 => k_is); (case k6 => k_is); k_whole; intro x' d' h' F' N' l1 l2; (have fd : ∀ p ∈ news, p.1 < d' := l1); (have fx : d' < x' := l2); (try k_lt l1); (try k_lt2 l2); (try k_sweep))
  k_dflt cell_enter
  k_steps
  refine unpark ?_
  (rename Fr _ _ _ _ => lF0); (rename News _ _ _ _ => lN0)
  obtain ⟨bs, hbs, N20⟩ := led2 lN0
  clear N20
  refine join_next lF0 (fun g L s s' => IEnd g L x' raw bs s s') ?jw ?jr
  case jw =>
    refine for_V lF0 rfl rfl ?_
    k_steps
    refine unpark ?_
    (rename Fr _ _ _ _ => lF'); (rename News _ _ _ _ => lN')
    obtain ⟨bs2, hbs2, N2⟩ := led2 lN'
    rw [← hbs] at hbs2
    rw [hbs2] at N2
    clear hbs2
    with_unfolding_all refine' kj_str (σ := IS) (fun c => (c.cl, listOf c.vs.toArray c.ep) :: bs) (fun c => [(Str.ofString "count", .ref c.cl), (Str.ofString "b", .int c.b c.tb), (Str.ofString "n", .int c.n c.tn), (Str.ofString "nt", .int c.nt c.tt)]) [] (PInit raw bs) ⟨_, [], 0, [], 0, 0, 0, _, _, _⟩ (by rfl) lF' N2 (fun _ h => h) (by kst_all) ?_ ?_ ?_
    · subst hbs
      obtain ⟨ha, hb, hc, hd⟩ := (by assumption : _ < _ ∧ _ < _ ∧ _ < _ ∧ AllLt _ news)
      exact ⟨kst_ltOf ⟨hb, hc, hd⟩, .nil, rfl, Nat.zero_le _, ⟨Int.le_refl _, Int.le_refl _⟩, ⟨Int.le_refl _, Int.le_refl _⟩, ⟨Int.le_refl _, Int.le_refl _⟩, Nat.le_refl _, fun _ h => nomatch h⟩
    · rintro ⟨cl', vs, ep, cnt, b, n, nt, tb, tn, tt⟩ i cp u mu hh tk own hcp hoff hP kFr kNews
      have hP0 := hP
      obtain ⟨plt, pare, pinv, ple, phb, phn, pht, phl, phc⟩ := hP
      dsimp only at plt pare pinv ple phb phn pht phl phc hoff kFr kNews
      dsimp only [kstB] at kFr
      have kMark := kstMark
      rw [List.cons_append] at kNews
      have pi : i < 64 := Nat.lt_of_lt_of_le (size_at hcp) hraw
      k_steps
      · exact kj_end2 (IS.mk _ _ _ _ _ _ _ _ _ _) (by assumption) (by assumption) (by kst_all) (pinit_S hP0 hcp (by assumption)) (by kcf_all) (by kcf_all) hoff (by kst_same)
      · exact kj_end2 (IS.mk _ _ _ _ _ _ _ _ _ _) (by assumption) (by assumption) (by kst_all) (pinit_T1 hP0 hcp (by assumption) (by assumption) (by assumption) (by assumption) (lt_left (by (have q := ‹_ < _ ∧ _ < _ ∧ _ < _ ∧ AllLt _ (bs ++ own)›); exact q.2.2.2))) (by kcf_all) (by kcf_all) (off_new hoff (by (have q := ‹_ < _ ∧ _ < _ ∧ _ < _ ∧ AllLt _ (bs ++ own)›); exact q.2.2.2)) (by kst_same)
      · exact kj_end2 (IS.mk _ _ _ _ _ _ _ _ _ _) (by assumption) (by assumption) (by kst_all) (pinit_T2 hP0 hcp (by assumption) (by assumption) (by assumption) (by assumption)) (by kcf_all) (by kcf_all) (off_same hoff) (by kst_same)
      · exact unpark ⟨rfl, .mk (pinit_brk hP0 hcp (by assumption) (by assumption)) (Nat.le_of_lt pi) hP0 (by assumption) rfl rfl rfl rfl rfl (by assumption) hoff⟩
    · rintro ⟨cl', vs, ep, cnt, b, n, nt, tb, tn, tt⟩ mu hh tk hP kFr kNews
      exact unpark ⟨rfl, .mk (own := []) (pinit_done hP) hraw hP kFr rfl rfl rfl rfl rfl (by rw [List.append_nil]; exact kNews) (fun p hp => nomatch hp)⟩
  case jr =>
    intro s' hI
    cases hI
    rename_i h5 tk5 m5 cl5 vs ep cnt b n nt tb tn tt own i5 hw hi64 hP F5 e0 e1 e2 e3 e4 nE hoff
    obtain ⟨plt, pare, pinv, ple, phb, phn, pht, phl, phc⟩ := hP
    dsimp only at plt pare pinv ple phb phn pht phl phc
    rw [← kstB_self (f := m5) (ps := [(Str.ofString "self", .ref _), (Str.ofString "count", .ref _), (Str.ofString "b", .int _ _), (Str.ofString "n", .int _ _), (Str.ofString "nt", .int _ _)]) (by
      intro q hq
      simp only [List.mem_cons, List.not_mem_nil, or_false] at hq
      rcases hq with rfl | rfl | rfl | rfl | rfl
      · exact e0
      · exact e1
      · exact e2
      · exact e3
      · exact e4)] at F5
    dsimp only [kstB] at F5
    clear e0 e1 e2 e3 e4 lF0 lN0
    subst hbs
    have g1 := ltN (plt _ (.head _))
    have g2 := ltN (plt _ (.tail _ (.head _)))
    dsimp only at g1 g2
    simp only [List.cons_append, List.map_cons] at nE hoff
    have kMark := kstMark
    (try dsimp only)
    (try k_fold)
    k_steps
    (refine unpark ?_; ((k_here; k_dflt (refine' tupOf_I ?k1q1 ?k2q1 ?k3q1 ?k4q1 ?k5q1 ?_; (case k1q1 => k_asm); (case k2q1 => k_asm); (case k3q1 => k_mem); (case k4q1 => assumption); (case k5q1 => omega); k_whole); intro D' h' F' N' l1; (try k_lt l1); (try k_sweep))))
    k_steps
    exact fin5 hret hw (by assumption) (by assumption) (by kcf_all) (fun q hq => ⟨kst_ltOf (‹_ < _ ∧ _ < _ ∧ _ < _ ∧ _ < _ ∧ AllLt _ _›).2.2.2.2 q (List.mem_append.mpr (.inl hq)), kst_ltOf (‹_ < _ ∧ _ < _ ∧ _ < _ ∧ AllLt _ _›).2.2.2 q (List.mem_append.mpr (.inl hq)), plt q (.tail _ (.tail _ hq)), Nat.lt_trans (fd q hq) fx, fd q hq⟩) (.mk (by k_mem) (by k_mem) (by k_mem) (by k_mem) pare (by omega) (by omega) (by omega) (by omega) (fun x hx => by have := phc x hx; omega))
end
section
theorem fill4 : PySem.Challenge.rw_sn0118_01 = PySem.Challenge.rw_sn0118_01 ∧ A.hd.heap_39 = A.hd.heap_39 := by k_fill; exact ⟨rfl, rfl⟩
local macro_rules | `(tactic| walk_at "no such key W4") => `(tactic| skip)
local macro_rules | `(tactic| walk_at "call builtin:len") => `(tactic| walk_at "my park")
local macro_rules | `(tactic| walk_at "call builtin:str.join") => `(tactic| walk_at "my park")
local macro_rules | `(tactic| walk_at "eval GeneratorExp") => `(tactic| walk_at "my park")
noncomputable abbrev gpos : Pos := ⟨82, 13, 82, 39⟩
set_option maxHeartbeats 4000000 in
theorem format_spec {w : World} {p : Program} {loose : List Str} {mean : ExcName → Option Value} {mg mb : Str → Option Value} {dp un : Nat} {gd : Option (List Code)} {cn : Str} {cs : Scope} {a : Addr} {ccd : Value} {cl : List (Str × Addr)} {outer : List Env} {A₀ : Around} {base h₀ : Heap} {L : Addr} {m : Str → Option Value} {news : List (Addr × Obj)} {s : Shared} {Q E : Value → Shared → Prop} {led : List (Addr × Obj)} {ps : Array Value} (B : Below A₀ base outer h₀) (F : Fr h₀ L s.heap m) (X : (A.hd.heap_39 w.params).In h₀) (N : News h₀ L s.heap led) (T : Top p loose mean mg mb h₀) (hk : cs.kind = .function) (hdp : dp + 3 < recursionLimit) (hun : un + 300 < cLine)
    (hsub : ∀ p ∈ news, p ∈ led) (hoff : ∀ p ∈ news, p.1 ≠ 123) (hP : (123, tabObj ps) ∈ led) (hps : FmtTab gpos ps) (C : CodeHd h₀ 127 123) (hG : AllBare s.gens)
    {v : Value} {ts : List Int} {cnt cnt' : List Int} {b nt b' nt' : Int} (D : DatIn led v (.list (ts.map (triple cnt b nt cnt' b' nt')))) (hts : ∀ t ∈ ts, 0 ≤ t ∧ t ≤ 200) (hlen : ts.length ≤ 200)
    (hret : ∀ t h' g' tk' ps', FmtTab gpos ps' → AllBare g' → Fr h₀ L h' m → News h₀ L h' ((123, tabObj ps') :: news) → Q (.str (wordsV ts) t) { s with heap := h', gens := g', toks := tk' }) :
    wpAny (model PySem.Challenge.rw_sn0118_01.row.prog w) (ktrTop dp un gd cn cs L a ccd cl outer) (call (.ref 128) [v]) Q E s := by
  have D' := DatIn.off N hP rfl D
  have N' := offP_news N hP
  have hsub' : ∀ p ∈ news, p ∈ offP 123 led := fun p hp => offP_in (hsub p hp) (hoff p hp)
  have hoff' : ∀ p ∈ offP 123 led, p.1 ≠ 123 := offP_ne
  generalize offP 123 led = led' at D' N' hsub' hoff'
  cases D'
  rename_i l vs nn hl hD
  have hD := tupKs_of hD
  clear D N hsub hP
  refine wpAny_call ?_
  k_dflt cell_enter
  k_steps
  refine unpark ?_
  rename Fr h₀ _ _ _ => lG
  rename Fr _ _ _ (fun y => _) => lF
  rename News _ _ _ _ => lN
  rename Top _ _ _ _ _ _ => lT
  obtain ⟨bm, ob, q1, q2, q3, q4, q5, q6⟩ := lT.bmain
  rename (A.hd.heap_39 w.params).In _ => lX
  refine genexp_fmt (ps := ps) (vs := vs) (ks := ts) lF lN ?k1 (C.keeps lG.keep) ⟨lT.g, q1, q2, q3, q4, q5, q6⟩ lT.b lT.nolimit ?k2 ?k3 rfl rfl ?k4 hl hD ?k5 hps hG ?k6 rfl rfl rfl rfl rfl ?k7 (by decide) rfl rfl rfl rfl ?k8 (fun _ => rfl)
  case k1 => exact hoff'
  case k2 => exact mg_none_of lX lT.g (by k_is)
  case k3 => exact (lT.builtins _ (by decide)).trans rfl
  case k4 => rfl
  case k5 => exact fun k hk => by have := hts k hk; omega
  case k6 => ktr_room
  case k7 => rfl
  case k8 =>
    intro ga h5 g5 tk5 ps5 ledX hps5 hG5 F5 N5 hsX hoX GI
    have hlX : (l, listOf vs.toArray nn) ∈ (123, tabObj ps5) :: ledX := .tail _ (hsX _ hl)
    have hlD := hD.length
    try dsimp only
    try k_fold
    k_steps
    (refine unpark ?_; (k_here; (with_reducible show wpAny _ _ (call (Value.builtin "len") [Value.ref _]) _ _ _); k_dflt (refine' len_led ?k1q1 ?k2q1 ?k3q1 ?k4q1 ?_; (case k1q1 => k_asm); (case k2q1 => k_mem); (case k3q1 => assumption); (case k4q1 => omega); k_whole)))
    k_steps
    all_goals (
      refine unpark ?_
      (rename Fr _ _ _ (fun y => _) => lF2)
      (rename News _ _ _ _ => lN2)
      refine join_fmt (news := led') (ledX := (123, tabObj ps5) :: ledX) lF2 lN2 (fun p hp => by
        rcases List.mem_cons.mp hp with rfl | hp
        · exact .head _
        · exact .tail _ (hsX _ hp)) GI hG5 rfl rfl rfl (by omega) (joinOk_ks hts hlen (by decide)) ?_
      intro t6 h6 g6 tk6 hG6 F6 N6
      (try dsimp only)
      (try k_fold)
      (with_reducible refine PySem.SB.add ?_ ?hsz)
      (case hsz => exact join_fits hts hlen (by decide))
      intro t7 tk7
      (try dsimp only)
      (try k_fold)
      k_steps)
    · rw [wordsV_many (by omega)]
      (rename Fr h₀ _ _ m => lF3)
      (rename News h₀ _ _ _ => lN3)
      refine hret t7 _ _ _ ps5 hps5 hG6 lF3 (cb_drop lN3 fun p hp => ?_)
      rcases List.mem_cons.mp hp with rfl | hp
      · exact .head _
      · exact .tail _ (hsub' _ hp)
    · rw [wordsV_few (by omega)]
      (rename Fr h₀ _ _ m => lF3)
      (rename News h₀ _ _ _ => lN3)
      refine hret t7 _ _ _ ps5 hps5 hG6 lF3 (cb_drop lN3 fun p hp => ?_)
      rcases List.mem_cons.mp hp with rfl | hp
      · exact .head _
      · exact .tail _ (hsub' _ hp)
end
section
theorem fill5 : PySem.Challenge.rw_sn0118_01 = PySem.Challenge.rw_sn0118_01 ∧ A.hd.heap_39 = A.hd.heap_39 := by k_fill; exact ⟨rfl, rfl⟩
noncomputable abbrev NagIs (h : Heap) (mN : Str → Option Value) : Prop := NagCls h 52 51 mN ∧ mN "__init__" = some (.ref 28) ∧ mN "get_lineno" = some (.ref 35) ∧ mN "get_msg" = some (.ref 42) ∧ mN "get_line" = some (.ref 49) ∧ mN "lineno" = none ∧ mN "msg" = none ∧ mN "line" = none
theorem nag_is {w : World} {h : Heap} (X : (A.hd.heap_39 w.params).In h) : ∃ mN, NagIs h mN := by
  have n : h.Ns 51 (h.nsMap 51) := nsIn_ns X (by k_is) (by rw [← Array.all_toList]; rfl)
  refine ⟨_, ⟨⟨_, _, _, _, _, _, _, _, _, _, _, _, _, X 52 _ (by k_is)⟩, n, ns_none_of X n (by k_is), ns_none_of X n (by k_is), ns_none_of X n (by k_is)⟩, nsq_of X n (by k_is), nsq_of X n (by k_is), nsq_of X n (by k_is), nsq_of X n (by k_is), ns_none_of X n (by k_is), ns_none_of X n (by k_is), ns_none_of X n (by k_is)⟩
theorem lk_lineno : typeLookup (.type "Exception") "lineno" = pure none := by rw [typeLookup_type, builtinLookup_eq_fast]; kernel_rfl
theorem lk_msg : typeLookup (.type "Exception") "msg" = pure none := by rw [typeLookup_type, builtinLookup_eq_fast]; kernel_rfl
theorem lk_line : typeLookup (.type "Exception") "line" = pure none := by rw [typeLookup_type, builtinLookup_eq_fast]; kernel_rfl
theorem lk_glineno : typeLookup (.type "Exception") "get_lineno" = pure none := by rw [typeLookup_type, builtinLookup_eq_fast]; kernel_rfl
theorem lk_gmsg : typeLookup (.type "Exception") "get_msg" = pure none := by rw [typeLookup_type, builtinLookup_eq_fast]; kernel_rfl
theorem lk_gline : typeLookup (.type "Exception") "get_line" = pure none := by rw [typeLookup_type, builtinLookup_eq_fast]; kernel_rfl
local macro_rules | `(tactic| walk_at "setAttr ref") => `(tactic| walk_at "my park")
/-- the attributes of a nag -/
noncomputable def nagA (v1 v2 v3 : Value) : Str → Option Value := fun y => if y = "line" then some v3 else if y = "msg" then some v2 else if y = "lineno" then some v1 else none
set_option maxHeartbeats 4000000 in
theorem nag_make {w : World} {p : Program} {loose : List Str} {mean : ExcName → Option Value} {mg mb : Str → Option Value} {dp un : Nat} {gd : Option (List Code)} {cn : Str} {cs : Scope} {a : Addr} {ccd : Value} {cl : List (Str × Addr)} {outer : List Env} {A₀ : Around} {base h₀ : Heap} {L : Addr} {m : Str → Option Value} {news : List (Addr × Obj)} {s : Shared} {Q E : Value → Shared → Prop} (B : Below A₀ base outer h₀) (F : Fr h₀ L s.heap m) (X : (A.hd.heap_39 w.params).In h₀) (N : News h₀ L s.heap news) (T : Top p loose mean mg mb h₀) (hk : cs.kind = .function) (hdp : dp + 3 < recursionLimit) (hun : un + 100 < cLine) {v1 v2 v3 : Value} {i1 : Int} {x2 x3 : Str} {t1 t2 t3 : Tok} (e1 : v1 = .int i1 t1) (e2 : v2 = .str x2 t2) (e3 : v3 = .str x3 t3)
    (hret : ∀ h' tk' e t dx oD, NsO oD (nagA v1 v2 v3) → dx ≠ e → (∀ p ∈ news, p.1 ≠ e ∧ p.1 ≠ dx) → Fr h₀ L h' m → News h₀ L h' ((e, excO 52 (some dx) #[.ref t, .none, .none, .none, .bool false, .none]) :: (dx, oD) :: news) → Q (.ref e) { s with heap := h', toks := tk' }) :
    wpAny (model PySem.Challenge.rw_sn0118_01.row.prog w) (ktrTop dp un gd cn cs L a ccd cl outer) (call (.ref 52) [v1, v2, v3]) Q E s := by
  obtain ⟨mN, NC, n1, n2, n3, n4, n5, n6, n7⟩ := nag_is X
  obtain ⟨⟨nm, q, bs, sn, sub, ab, col, dd, k0, k1, k2, k3, k5, hC⟩, hn, q1, q2, q3⟩ := NC.keeps F.keep
  refine wpAny_call_exc_init PySem.F.excBase_Exception hC hn n1 (F.keep _ _ (X 28 _ (by k_is))) rfl (fun h1 e hm => ?_) (by rw [sizeLine_eq]; exact Nat.le_of_ble_eq_true rfl)
  obtain ⟨kk, ne, t, te, tn, tt⟩ := hm
  change Addr at t
  have hL := F.ns.lt
  have F1 : Fr h₀ L h1 m := ⟨F.ns.at' fun o e => kk _ _ e, fun b o e => kk _ _ (F.keep b o e), F.above⟩
  have nL : ∀ b, s.heap.get? b = none → b ≠ L := fun b hb q => by subst q; obtain ⟨o, _, _, ho, _⟩ := F.ns; rw [ho] at hb; cases hb
  have n0 : ∀ b, s.heap.get? b = none → h₀.get? b = none := fun b hb => by
    cases q : h₀.get? b with
    | none => rfl
    | some o => rw [F.keep b o q] at hb; cases hb
  have et : e ≠ t := fun q => by rw [q, tt] at te; cases te
  have e52 : e ≠ 52 := fun q => by rw [q, hC] at ne; cases ne
  have nn : ∀ p ∈ news, p.1 ≠ e ∧ p.1 ≠ t := fun p hp => ⟨fun q => (by have z := (N p hp).1; rw [q, ne] at z; cases z), fun q => (by have z := (N p hp).1; rw [q, tn] at z; cases z)⟩
  have N1 : News h₀ L h1 ((e, excO 52 none #[.ref t, .none, .none, .none, .bool false, .none]) :: (t, tupO [v1, v2, v3] 0) :: news) := by
    intro p hp
    rcases List.mem_cons.mp hp with rfl | hp
    · exact ⟨te, nL _ ne, n0 _ ne⟩
    · rcases List.mem_cons.mp hp with rfl | hp
      · exact ⟨tt, nL _ tn, n0 _ tn⟩
      · exact ⟨kk _ _ (N p hp).1, (N p hp).2⟩
  clear F N hn hC
  subst e1 e2 e3
  refine wpAny_call ?_
  k_dflt cell_enter
  k_steps
  refine unpark ?_
  (rename Fr _ _ _ (fun y => _) => lF)
  (rename News _ _ _ _ => lN)
  (rename Fr h₀ _ _ _ => lG)
  have NG := NC.keeps lG.keep
  refine nag_set0 (rest := news) lF lN NG n5 lk_lineno (by first | exact .tail _ (.head _) | exact .head _) (fun p hp => ⟨by first | exact .tail _ (.tail _ (.tail _ hp)) | exact .tail _ (.tail _ hp), (nn p hp).1⟩) ?_
  intro h2 tk2 oD2 dx a1 a2 a3 F2 N2
  (try dsimp only)
  k_steps
  refine unpark ?_
  have w1 := PySem.Within.cons (Str.ofString "lineno") (Value.int i1 t1) PySem.Within.nil
  refine nag_set1 (rest := news) F2 (by assumption) NG n6 lk_msg (.head _) (.tail _ (.head _)) a2 a1 e52 (fun p hp => ⟨.tail _ (.tail _ hp), (nn p hp).1, a3 p hp⟩) w1 (by rw [sizeLine_eq]; exact Nat.le_of_ble_eq_true rfl) ?_
  intro h3 tk3 oD3 b1 F3 N3
  (try dsimp only)
  k_steps
  refine unpark ?_
  have w2 := PySem.Within.cons (Str.ofString "msg") (Value.str x2 t2) w1
  refine nag_set1 (rest := news) F3 (by assumption) NG n7 lk_line (.head _) (.tail _ (.head _)) a2 b1 e52 (fun p hp => ⟨.tail _ (.tail _ hp), (nn p hp).1, a3 p hp⟩) w2 (by rw [sizeLine_eq]; exact Nat.le_of_ble_eq_true rfl) ?_
  intro h4 tk4 oD4 c1 F4 N4
  (try dsimp only)
  k_steps
  exact hret _ _ e t dx oD4 c1 a2 (fun p hp => ⟨(nn p hp).1, a3 p hp⟩) (by assumption) (by assumption)
end
section
theorem fill6 : PySem.Challenge.rw_sn0118_01 = PySem.Challenge.rw_sn0118_01 ∧ A.hd.heap_39 = A.hd.heap_39 := by k_fill; exact ⟨rfl, rfl⟩
local macro_rules | `(tactic| ktr_room) => `(tactic| walk_at "my room")
local macro_rules | `(tactic| walk_at "no such key W6") => `(tactic| skip)
local macro_rules | `(tactic| walk_at "getAttr ref") => `(tactic| walk_at "my park")
set_option maxHeartbeats 4000000 in
theorem getlineno_spec {w : World} {p : Program} {loose : List Str} {mean : ExcName → Option Value} {mg mb : Str → Option Value} {dp un : Nat} {gd : Option (List Code)} {cn : Str} {cs : Scope} {a : Addr} {ccd : Value} {cl : List (Str × Addr)} {outer : List Env} {A₀ : Around} {base h₀ : Heap} {L : Addr} {m : Str → Option Value} {news : List (Addr × Obj)} {s : Shared} {Q E : Value → Shared → Prop} (B : Below A₀ base outer h₀) (F : Fr h₀ L s.heap m) (X : (A.hd.heap_39 w.params).In h₀) (N : News h₀ L s.heap news) (T : Top p loose mean mg mb h₀) (hk : cs.kind = .function) (hdp : dp + 1 < recursionLimit) (hun : un + 100 < cLine) {vm : Value} {e dx : Addr} {vs : Array Value} {oD : Obj} {v1 v2 v3 : Value} {i1 : Int} {t1 : Tok} (hx : (e, excO 52 (some dx) vs) ∈ news) (hd : (dx, oD) ∈ news) (hdx : dx ≠ e) (hD : NsO oD (nagA v1 v2 v3)) (e1 : v1 = .int i1 t1)
    (hret : ∀ h' tk', Fr h₀ L h' m → News h₀ L h' news → Q v1 { s with heap := h', toks := tk' }) :
    wpAny (model PySem.Challenge.rw_sn0118_01.row.prog w) ((ktrTop dp un gd cn cs L a ccd cl outer).mark (some vm)) (call (.ref 35) [.ref e]) Q E s := by
  obtain ⟨mN, NC, n1, n2, n3, n4, n5, n6, n7⟩ := nag_is X
  refine wpAny_call ?_
  k_dflt cell_enter
  k_steps
  refine unpark ?_
  (rename Fr _ _ _ (fun y => _) => lF)
  (rename News _ _ _ _ => lN)
  (rename Fr h₀ _ _ _ => lG)
  refine nag_get lF lN (NC.keeps lG.keep) n5 lk_lineno hx hd hdx hD (v := v1) rfl (by rw [e1]; rfl) ?_
  (try dsimp only)
  (try k_fold)
  k_steps
  exact hret _ _ (by assumption) (by assumption)
set_option maxHeartbeats 4000000 in
theorem getmsg_spec {w : World} {p : Program} {loose : List Str} {mean : ExcName → Option Value} {mg mb : Str → Option Value} {dp un : Nat} {gd : Option (List Code)} {cn : Str} {cs : Scope} {a : Addr} {ccd : Value} {cl : List (Str × Addr)} {outer : List Env} {A₀ : Around} {base h₀ : Heap} {L : Addr} {m : Str → Option Value} {news : List (Addr × Obj)} {s : Shared} {Q E : Value → Shared → Prop} (B : Below A₀ base outer h₀) (F : Fr h₀ L s.heap m) (X : (A.hd.heap_39 w.params).In h₀) (N : News h₀ L s.heap news) (T : Top p loose mean mg mb h₀) (hk : cs.kind = .function) (hdp : dp + 1 < recursionLimit) (hun : un + 100 < cLine) {vm : Value} {e dx : Addr} {vs : Array Value} {oD : Obj} {v1 v2 v3 : Value} {x2 : Str} {t2 : Tok} (hx : (e, excO 52 (some dx) vs) ∈ news) (hd : (dx, oD) ∈ news) (hdx : dx ≠ e) (hD : NsO oD (nagA v1 v2 v3)) (e2 : v2 = .str x2 t2)
    (hret : ∀ h' tk', Fr h₀ L h' m → News h₀ L h' news → Q v2 { s with heap := h', toks := tk' }) :
    wpAny (model PySem.Challenge.rw_sn0118_01.row.prog w) ((ktrTop dp un gd cn cs L a ccd cl outer).mark (some vm)) (call (.ref 42) [.ref e]) Q E s := by
  obtain ⟨mN, NC, n1, n2, n3, n4, n5, n6, n7⟩ := nag_is X
  refine wpAny_call ?_
  k_dflt cell_enter
  k_steps
  refine unpark ?_
  (rename Fr _ _ _ (fun y => _) => lF)
  (rename News _ _ _ _ => lN)
  (rename Fr h₀ _ _ _ => lG)
  refine nag_get lF lN (NC.keeps lG.keep) n6 lk_msg hx hd hdx hD (v := v2) rfl (by rw [e2]; rfl) ?_
  (try dsimp only)
  (try k_fold)
  k_steps
  exact hret _ _ (by assumption) (by assumption)
set_option maxHeartbeats 4000000 in
theorem getline_spec {w : World} {p : Program} {loose : List Str} {mean : ExcName → Option Value} {mg mb : Str → Option Value} {dp un : Nat} {gd : Option (List Code)} {cn : Str} {cs : Scope} {a : Addr} {ccd : Value} {cl : List (Str × Addr)} {outer : List Env} {A₀ : Around} {base h₀ : Heap} {L : Addr} {m : Str → Option Value} {news : List (Addr × Obj)} {s : Shared} {Q E : Value → Shared → Prop} (B : Below A₀ base outer h₀) (F : Fr h₀ L s.heap m) (X : (A.hd.heap_39 w.params).In h₀) (N : News h₀ L s.heap news) (T : Top p loose mean mg mb h₀) (hk : cs.kind = .function) (hdp : dp + 1 < recursionLimit) (hun : un + 100 < cLine) {vm : Value} {e dx : Addr} {vs : Array Value} {oD : Obj} {v1 v2 v3 : Value} {x3 : Str} {t3 : Tok} (hx : (e, excO 52 (some dx) vs) ∈ news) (hd : (dx, oD) ∈ news) (hdx : dx ≠ e) (hD : NsO oD (nagA v1 v2 v3)) (e3 : v3 = .str x3 t3)
    (hret : ∀ h' tk', Fr h₀ L h' m → News h₀ L h' news → Q v3 { s with heap := h', toks := tk' }) :
    wpAny (model PySem.Challenge.rw_sn0118_01.row.prog w) ((ktrTop dp un gd cn cs L a ccd cl outer).mark (some vm)) (call (.ref 49) [.ref e]) Q E s := by
  obtain ⟨mN, NC, n1, n2, n3, n4, n5, n6, n7⟩ := nag_is X
  refine wpAny_call ?_
  k_dflt cell_enter
  k_steps
  refine unpark ?_
  (rename Fr _ _ _ (fun y => _) => lF)
  (rename News _ _ _ _ => lN)
  (rename Fr h₀ _ _ _ => lG)
  refine nag_get lF lN (NC.keeps lG.keep) n7 lk_line hx hd hdx hD (v := v3) rfl (by rw [e3]; rfl) ?_
  (try dsimp only)
  (try k_fold)
  k_steps
  exact hret _ _ (by assumption) (by assumption)
end
section
theorem fill8 : PySem.Challenge.rw_sn0118_01 = PySem.Challenge.rw_sn0118_01 ∧ A.hd.heap_39 = A.hd.heap_39 := by k_fill; exact ⟨rfl, rfl⟩
inductive MarksIn (led : List (Addr × Obj)) : List Value → List (List Int × Int × Int × Int) → Prop
  | nil : MarksIn led [] []
  | cons {v : Value} {vs : List Value} {cnt : List Int} {b n nt : Int} {ms : List (List Int × Int × Int × Int)} : MarkIn led v cnt b n nt → MarksIn led vs ms → MarksIn led (v :: vs) ((cnt, b, n, nt) :: ms)
theorem MarksIn.up {led led' : List (Addr × Obj)} (hs : ∀ p ∈ led, p ∈ led') : ∀ {vs : List Value} {ms : List (List Int × Int × Int × Int)}, MarksIn led vs ms → MarksIn led' vs ms
  | _, _, .nil => .nil
  | _, _, .cons h r => .cons (h.up hs) (r.up hs)
theorem MarksIn.snoc {led : List (Addr × Obj)} {v : Value} {cnt : List Int} {b n nt : Int} (h : MarkIn led v cnt b n nt) : ∀ {vs : List Value} {ms : List (List Int × Int × Int × Int)}, MarksIn led vs ms → MarksIn led (vs ++ [v]) (ms ++ [(cnt, b, n, nt)])
  | _, _, .nil => .cons h .nil
  | _, _, .cons h' r => .cons h' (r.snoc h)
open LCg in
set_option maxHeartbeats 400000 in
theorem comp_marks {w : World} {p : Program} {loose : List Str} {mean : ExcName → Option Value} {mg mb : Str → Option Value} {dp un : Nat} {gd : Option (List Code)} {cn : Str} {cs : Scope} {a : Addr} {ccd : Value} {cl cl' : List (Str × Addr)} {outer : List Env} {A₀ : Around} {base h₀ : Heap} {L : Addr} {m : Str → Option Value} {news : List (Addr × Obj)} {s : Shared} {env : Env} {scope : Scope} {p1 p2 p3 : Pos} {Fin : List Value → List (Addr × Obj) → Prop}
    (B : Below A₀ base outer h₀) (X : (A.hd.heap_39 w.params).In h₀) (T : Top p loose mean mg mb h₀) (hk : cs.kind = .function) (hdp : dp + 5 < recursionLimit) (hun : un + 500 < cLine)
    {lr : Addr} {rvs : List Value} {er : Nat} {rows : List Str} (hr : StrsAre rvs rows) (hsz : ∀ x ∈ rows, x.cps.size ≤ 64) (hg : env.globals = mainGlobals)
    (hks : ∀ C, (compEnvC scope cl' C env).scope.kind = .function) (hn1 : ∀ C, (compEnvC scope cl' C env).kindOf (Str.ofString "Whitespace") = some .globalImplicit) (hn2 : ∀ C, (compEnvC scope cl' C env).kindOf (Str.ofString "row") = some .local)
    (hFin : ∀ ys led', MarksIn led' ys (rows.map wsOf) → (∀ p ∈ news, p ∈ led') → Fin ys led') :
    ∀ k i ys led, i + k = rows.length → (lr, listOf rvs.toArray er) ∈ led → MarksIn led ys ((rows.take i).map wsOf) → (∀ p ∈ news, p ∈ led) →
      CompRest PySem.Challenge.rw_sn0118_01.row.prog w (ktrTop dp un gd cn cs L a ccd cl outer) h₀ L m env (.Call (.Name (Str.ofString "Whitespace") p1) [.Name (Str.ofString "row") p2] [] p3) (Str.ofString "row") scope cl' s (SrcAt h₀ lr rvs.toArray) (fun i v => rvs.toArray[i]? = some v) Fin k i ys led
  | 0, i, ys, led, hi, _, hm, hs => .zero (hFin ys led (by rw [List.take_of_length_le (by omega)] at hm; exact hm) hs)
  | k + 1, i, ys, led, hi, hl, hm, hs => .succ fun v I oI C oC D m₂ h tk E' hv hoC hx F N off ne => by
    have hir : i < rows.length := by omega
    obtain ⟨t, ht⟩ := hr.get i rows[i] (List.getElem?_eq_getElem hir)
    have hv' : rvs[i]? = some v := by simpa using hv
    rw [ht] at hv'
    cases hv'
    refine wpAny_Call_ofName ?_
    refine' LCgL.ld_global ?kF X T (by k_is) ?_ hg (hks C) (hn1 C)
    case kF => exact F
    walk1
    walk1
    refine' LCgL.ld_own ?kN (.tail _ (.head _)) hoC hx ?_ (hks C) (hn2 C)
    case kN => exact N
    refine wpAny_pure ⟨X.keeps F.keep, ?_⟩
    show wpAny _ _ (call (.ref 117) [.str rows[i] t]) _ _ _
    refine init_spec B F X N T hk (by omega) (by omega) (hsz _ (List.getElem_mem hir)) ?_
    intro r led9 mk h9 tk9 cnt b n nt hw F9 N9 s9 f9 M9
    refine CompEnd.intro F9 N9 (mk ++ led) (fun q hq => ?_) (Off3.of fun q hq => ?_) (.inr ⟨_, List.mem_append.mpr (.inr hl), rfl, _, rfl⟩) ?_
    · rcases List.mem_cons.mp hq with rfl | hq
      · exact s9 _ (.head _)
      · rcases List.mem_cons.mp hq with rfl | hq
        · exact s9 _ (.tail _ (.head _))
        · rcases List.mem_cons.mp hq with rfl | hq
          · exact s9 _ (.tail _ (.tail _ (.head _)))
          · rcases List.mem_append.mp hq with hq | hq
            · exact (f9 q hq).1
            · exact s9 _ (.tail _ (.tail _ (.tail _ hq)))
    · rcases List.mem_append.mp hq with hq | hq
      · have z := (f9 q hq).2
        exact ⟨fun e => z _ (.head _) e.symm, fun e => z _ (.tail _ (.head _)) e.symm, fun e => z _ (.tail _ (.tail _ (.head _))) e.symm⟩
      · exact off.mem q hq
    · refine comp_marks B X T hk hdp hun hr hsz hg hks hn1 hn2 hFin k (i + 1) (ys ++ [r]) (mk ++ led) (by omega) (List.mem_append.mpr (.inr hl)) ?_ fun q hq => List.mem_append.mpr (.inr (hs q hq))
      rw [List.take_succ_eq_append_getElem hir, List.map_append, List.map_cons, List.map_nil, hw]
      exact MarksIn.snoc (M9.up fun q hq => List.mem_append.mpr (.inl hq)) (hm.up fun q hq => List.mem_append.mpr (.inr hq))
end
section
theorem fill10 : PySem.Challenge.rw_sn0118_01 = PySem.Challenge.rw_sn0118_01 ∧ A.hd.heap_39 = A.hd.heap_39 := by k_fill; exact ⟨rfl, rfl⟩
theorem fn_get {w : World} {h : Heap} (X : (A.hd.heap_39 w.params).In h) : (∃ o, h.get? 35 = some o ∧ o.cls = .type "function") ∧ (∃ o, h.get? 42 = some o ∧ o.cls = .type "function") ∧ (∃ o, h.get? 49 = some o ∧ o.cls = .type "function") :=
  ⟨⟨_, X 35 _ (by k_is), rfl⟩, ⟨_, X 42 _ (by k_is), rfl⟩, ⟨_, X 49 _ (by k_is), rfl⟩⟩
theorem nagA_none {v1 v2 v3 : Value} : nagA v1 v2 v3 (Str.ofString "get_lineno") = none ∧ nagA v1 v2 v3 (Str.ofString "get_msg") = none ∧ nagA v1 v2 v3 (Str.ofString "get_line") = none := ⟨rfl, rfl, rfl⟩
theorem kp_get {w : World} : keepIn (A.hd.heap_39 w.params) (.ref 35) = true ∧ keepIn (A.hd.heap_39 w.params) (.ref 42) = true ∧ keepIn (A.hd.heap_39 w.params) (.ref 49) = true := ⟨by k_is, by k_is, by k_is⟩
end
section
theorem fillV1 : PySem.Challenge.rw_sn0118_01 = PySem.Challenge.rw_sn0118_01 ∧ A.hd.heap_39 = A.hd.heap_39 := by k_fill; exact ⟨rfl, rfl⟩
local macro_rules | `(tactic| walk_at "no such key V1") => `(tactic| skip)
local macro_rules | `(tactic| walk_at "pyIter ref") => `(tactic| walk_at "my park")
local macro_rules | `(tactic| walk_at "pyIter str") => `(tactic| walk_at "my park")
theorem fold_cols (t : Int) : ∀ (l : List Nat) (c : Int), (List.foldl (fun (σ : Int × Unit) (k : Str) => if (k == Str.ofString "\t") = true then (σ.fst + t - σ.fst.fmod t, ()) else (σ.fst + 1, ())) (c, ()) (l.map fun c => (⟨#[c]⟩ : Str))).fst = colGo t l c
  | [], c => rfl
  | z :: r, c => by
    rw [List.map_cons, List.foldl_cons, colGo, chT]
    by_cases h : z = 9
    · rw [if_pos (by simpa using h), if_pos h]; exact fold_cols t r _
    · rw [if_neg (by simpa using h), if_neg h]; exact fold_cols t r _
theorem fold_col (t : Int) (x : Str) : (List.foldl (fun (σ : Int × Unit) (k : Str) => if (k == Str.ofString "\t") = true then (σ.fst + t - σ.fst.fmod t, ()) else (σ.fst + 1, ())) (0, ()) (signs x)).fst = colV x t := fold_cols t x.cps.toList 0
set_option maxHeartbeats 1000000 in
theorem col_spec {w : World} {p : Program} {loose : List Str} {mean : ExcName → Option Value} {mg mb : Str → Option Value} {dp un : Nat} {gd : Option (List Code)} {cn : Str} {cs : Scope} {a : Addr} {ccd : Value} {cl : List (Str × Addr)} {outer : List Env} {A₀ : Around} {base h₀ : Heap} {L : Addr} {m : Str → Option Value} {news : List (Addr × Obj)} {s : Shared} {Q E : Value → Shared → Prop} (B : Below A₀ base outer h₀) (F : Fr h₀ L s.heap m) (X : (A.hd.heap_39 w.params).In h₀) (N : News h₀ L s.heap news) (T : Top p loose mean mg mb h₀) (hk : cs.kind = .function) (hdp : dp + 1 < recursionLimit) (hun : un + 100 < cLine) {x : Str} {t : Int} {tx tt : Tok} (hx : x.cps.size ≤ 64) (ht : 1 ≤ t ∧ t ≤ 100)
    (hret : ∀ tk2 h' tk', Fr h₀ L h' m → News h₀ L h' news → Q (.int (colV x t) tk2) { s with heap := h', toks := tk' }) :
    wpAny (model PySem.Challenge.rw_sn0118_01.row.prog w) (ktrTop dp un gd cn cs L a ccd cl outer) (call (.ref 142) [.str x tx, .int t tt]) Q E s := by
  refine wpAny_call ?_
  k_dflt cell_enter
  k_steps
  refine' (show ∀ z : Int, z = colV x t → Q (.int z _) _ from ?g) _ (fold_col t x)
  intro z hz
  subst hz
  exact hret _ _ _ (by assumption) (by assumption)
end
section
theorem fillV2 : PySem.Challenge.rw_sn0118_01 = PySem.Challenge.rw_sn0118_01 ∧ A.hd.heap_39 = A.hd.heap_39 := by k_fill; exact ⟨rfl, rfl⟩
local macro_rules | `(tactic| walk_at "no such key V2") => `(tactic| skip)
local macro_rules | `(tactic| walk_at "eval ListComp") => `(tactic| walk_at "my park")
local macro_rules | `(tactic| walk_at "call builtin:str.split") => `(tactic| walk_at "my park")
local macro_rules | `(tactic| walk_at "call builtin:max") => `(tactic| walk_at "my park")
theorem lens_max {leads : List Str} {M : Int} (hS : ∀ x ∈ leads, x ∈ leadS) (h1 : M ∈ leads.flatMap runL) (h2 : ∀ a, a ∈ leads.flatMap runL → a ≤ M) : (∃ x ∈ leads, M = lgV x) ∧ ∀ x ∈ leads, lgV x ≤ M := by
  obtain ⟨x, hx, hM⟩ := List.mem_flatMap.mp h1
  have hle : ∀ y ∈ leads, lgV y ≤ M := fun y hy => by
    obtain ⟨z, hz, e⟩ := (lead_facts (hS y hy)).2.2.2.2.1
    rw [← e]
    exact h2 z (List.mem_flatMap.mpr ⟨y, hy, hz⟩)
  refine ⟨⟨x, hx, ?_⟩, hle⟩
  have a := (lead_facts (hS x hx)).2.2.2.1 M hM
  have b := hle x hx
  omega
theorem flat_take {f : Str → List Int} {l : List Str} {i : Nat} {x : Str} (h : l[i]? = some x) : (l.take (i + 1)).flatMap f = (l.take i).flatMap f ++ f x := by
  rw [List.take_add_one, h, List.flatMap_append]
  simp
theorem runL_len : ∀ x ∈ leadS, (runL x).length ≤ 5 := by
  have h : (leadS.all fun x => decide ((runL x).length ≤ 5)) = true := by decide +kernel
  intro x hx
  exact of_decide_eq_true (List.all_eq_true.mp h x hx)
theorem flat_len {l : List Str} (hS : ∀ x ∈ l, x ∈ leadS) : (l.flatMap runL).length ≤ 5 * l.length := by
  induction l with
  | nil => simp
  | cons x r ih =>
    have a := ih fun y hy => hS y (.tail _ hy)
    have b := runL_len x (hS x (.head _))
    rw [List.flatMap_cons, List.length_append, List.length_cons]
    omega
theorem strs_at {vs : List Value} {ns : List Str} (h : StrsAre vs ns) {i : Nat} {v : Value} (hv : vs[i]? = some v) : ∃ x t, v = .str x t ∧ ns[i]? = some x := by
  have hi : i < ns.length := by rw [← h.length]; exact (List.getElem?_eq_some_iff.mp hv).1
  obtain ⟨t, ht⟩ := h.get i ns[i] (List.getElem?_eq_getElem hi)
  rw [hv] at ht
  exact ⟨ns[i], t, Option.some.inj ht, List.getElem?_eq_getElem hi⟩
set_option maxHeartbeats 2000000 in
theorem longest1_spec {w : World} {p : Program} {loose : List Str} {mean : ExcName → Option Value} {mg mb : Str → Option Value} {dp un : Nat} {gd : Option (List Code)} {cn : Str} {cs : Scope} {a : Addr} {ccd : Value} {cl : List (Str × Addr)} {outer : List Env} {A₀ : Around} {base h₀ : Heap} {L : Addr} {m : Str → Option Value} {news : List (Addr × Obj)} {s : Shared} {Q E : Value → Shared → Prop} (B : Below A₀ base outer h₀) (F : Fr h₀ L s.heap m) (X : (A.hd.heap_39 w.params).In h₀) (N : News h₀ L s.heap news) (T : Top p loose mean mg mb h₀) (hk : cs.kind = .function) (hdp : dp + 1 < recursionLimit) (hun : un + 200 < cLine) {ll : Addr} {lvs : List Value} {el : Nat} {leads : List Str} (hll : (ll, listOf lvs.toArray el) ∈ news) (hl : StrsAre lvs leads) (hS : ∀ x ∈ leads, x ∈ leadS) (hlen : 1 ≤ leads.length ∧ leads.length ≤ 7)
    (hret : ∀ M t h' tk', (∃ x ∈ leads, M = lgV x) → (∀ x ∈ leads, lgV x ≤ M) → Fr h₀ L h' m → News h₀ L h' news → Q (.int M t) { s with heap := h', toks := tk' }) :
    wpAny (model PySem.Challenge.rw_sn0118_01.row.prog w) (ktrTop dp un gd cn cs L a ccd cl outer) (call (.ref 147) [.ref ll]) Q E s := by
  have hvl := hl.length
  refine wpAny_call ?_
  k_dflt cell_enter
  k_steps
  refine unpark ?_
  (rename Fr _ _ _ (fun y => _) => lF)
  (rename News _ _ _ _ => lN)
  refine' ListComp_W2 lF rfl rfl (by decide) (by decide) rfl rfl ?_
  k_steps
  refine CompW.mk (its := lvs) (k := el) (news := news) (fun i ys led => (∀ p ∈ news, p ∈ led) ∧ IntsAre ys ((leads.take i).flatMap runL)) rfl (by assumption) (by assumption) ⟨fun _ h => h, .nil⟩ ?_ ?_ ?_
  · rintro i ys led ⟨hs, hI⟩
    refine ⟨hs _ hll, ?_⟩
    rw [hI.length]
    have := flat_len (l := leads.take i) fun x hx => hS x (List.mem_of_mem_take hx)
    have : (leads.take i).length ≤ 7 := by rw [List.length_take]; omega
    omega
  · rintro i v ys led I oI C oC D mC h tk E' hv ⟨hs, hI⟩ hoC hx off ne F5 N5
    obtain ⟨x, t, rfl, hx1⟩ := strs_at hl hv
    have hxS := hS x (List.mem_of_getElem? hx1)
    have hsz : x.cps.size ≤ 4 := (lead_facts hxS).2.2.2.2.2.1
    k_steps
    refine unpark ?_
    refine KSpl.split1 F5 N5 (by decide) ?_ (by rw [sizeLine_eq]; show x.cps.size + 2 ≤ _; omega)
    intro D2 l h9 k9 e9 a9 F9 N9 l9
    (try dsimp only)
    (try k_fold)
    k_steps
    have hlS : (leads.take i).length ≤ 7 := by rw [List.length_take]; omega
    have hfl := flat_len (l := leads.take i) fun x hx => hS x (List.mem_of_mem_take hx)
    have hrl := runL_len x hxS
    have hrx : runL x = (l.map (·.1)).map fun p => (p.length : Int) := by rw [e9]; rfl
    have hal := a9.length
    refine CompW2.mk (its2 := strValues l) (k2 := 0) ((D2, listOf (strValues l).toArray 0) :: led) (fun j ys2 => IntsAre ys2 ((leads.take i).flatMap runL ++ (runL x).take j)) F9 (fun p hp => N9 p ?_) ?_ (.head _) (by show IntsAre ys (_ ++ []); rw [List.append_nil]; exact hI) ?_ ?_ ?_
    · simp only [List.mem_cons] at hp ⊢
      rcases hp with h | h | h | h | h <;> simp [h]
    · intro p hp
      rcases List.mem_cons.mp hp with rfl | hp
      · exact ⟨Nat.ne_of_gt (l9 _ (.head _)), Nat.ne_of_gt (l9 _ (.tail _ (.head _))), Nat.ne_of_gt (l9 _ (.tail _ (.tail _ (.head _))))⟩
      · exact off p hp
    · intro j ys2 hI2
      rw [hI2.length, List.length_append, List.length_take]
      omega
    · intro j v2 ys2 I2 oI2 oC2 mC2 h2 tk2 E2 hv2 hI2 hoC2 hx2 F10 N10
      obtain ⟨z, tz, rfl, hz1⟩ := strs_at a9 hv2
      clear hx hoC
      have hzm : (z.length : Int) ∈ runL x := by rw [hrx]; exact List.mem_map.mpr ⟨z, List.mem_of_getElem? hz1, rfl⟩
      have hz5 := (lead_facts hxS).2.2.2.1 _ hzm
      have hz6 := (lead_facts hxS).2.2.1
      have hz4 : (z.length : Int) ≤ 4 := Int.le_trans hz5 hz6
      k_steps
      refine TurnW.mk F10 N10 ?_
      have ez : (runL x)[j]? = some (z.length : Int) := by rw [hrx, List.getElem?_map, hz1]; rfl
      rw [List.take_add_one, ez, ← List.append_assoc]
      exact IntsAre.append hI2 (.cons _ _ .nil)
    · intro ys2 hI2
      refine ⟨fun p hp => .tail _ (hs p hp), ?_⟩
      rw [flat_take hx1]
      have eT : (runL x).take (strValues l).length = runL x := List.take_of_length_le (by rw [hrx, List.length_map, ← hal]; exact Nat.le_refl _)
      rw [eT] at hI2
      exact hI2
  · rintro D h tk ys led ⟨hs, hI⟩ F5 N5 o5
    rw [List.take_of_length_le (by rw [hvl]; exact Nat.le_refl _)] at hI
    (try dsimp only)
    (try k_fold)
    k_steps
    refine unpark ?_
    have hne : 0 < (leads.flatMap runL).length := by
      cases leads with
      | nil => simp at hlen
      | cons x r =>
        obtain ⟨z, hz, _⟩ := (lead_facts (hS x (.head _))).2.2.2.2.1
        have : z ∈ (x :: r).flatMap runL := List.mem_flatMap.mpr ⟨x, .head _, hz⟩
        exact List.length_pos_of_mem this
    refine kso_max F5 (fun p hp => N5 p (.tail _ (hs p hp))) (lst_of N5 (.head _)) hI hne rfl ?_
    intro h8 M t8 tk8 F8 N8 b1 b2
    (try dsimp only)
    (try k_fold)
    k_steps
    obtain ⟨q1, q2⟩ := lens_max hS b1 b2
    exact hret _ _ _ _ q1 q2 (by assumption) (by assumption)
end
section
theorem fillV3 : PySem.Challenge.rw_sn0118_01 = PySem.Challenge.rw_sn0118_01 ∧ A.hd.heap_39 = A.hd.heap_39 := by k_fill; exact ⟨rfl, rfl⟩
local macro_rules | `(tactic| walk_at "exec For Name Call cons nil") => `(tactic| walk_at "my park")
local macro_rules | `(tactic| walk_at "exec While") => `(tactic| walk_at "my park")
local macro_rules | `(tactic| walk_at "call builtin:list.append") => `(tactic| walk_at "my park")
local macro_rules | `(tactic| walk_at "pyIter ref") => `(tactic| walk_at "my park")
local macro_rules | `(tactic| walk_at "KswEnd") => `(tactic| walk_at "my park")
local macro_rules | `(tactic| walk_at "subscriptTail") => `(tactic| walk_at "my item")
structure RS where
  lh : Addr
  hvs : List Value
  eh : Nat
  heads : List Int
structure PRead (f : Nat → Int) (n : Nat) (news : List (Addr × Obj)) (i : Nat) (c : RS) : Prop where
  off : ∀ p ∈ news, p.1 ≠ c.lh
  hds : IntsAre c.hvs c.heads
  hn : c.heads.length = i + 1
  go : readGo f (n - 1 - i) (i + 1) c.heads = readGo f (n - 1) 1 [0]
theorem read_turn {f : Nat → Int} {n i j : Nat} {hs : List Int} (hi : i + 1 < n) (hb : backC f (f (i + 1)) j = backC f (f (i + 1)) i) (hs2 : ¬ f j > f (i + 1)) :
    readGo f (n - 1 - i) (i + 1) hs = if f j = f (i + 1) then readGo f (n - 1 - (i + 1)) (i + 1 + 1) (hs ++ [hs.getD j 0]) else if j = i then readGo f (n - 1 - (i + 1)) (i + 1 + 1) (hs ++ [((i + 1 : Nat) : Int)]) else hs ++ [-1] := by
  have e : backC f (f (i + 1)) i = j := by
    rw [← hb]
    cases j with
    | zero => rfl
    | succ j => rw [backC, if_neg hs2]
  rw [sub_step hi, readGo]
  simp only [Nat.add_sub_cancel, e]
set_option maxHeartbeats 2000000 in
theorem read_spec {w : World} {p : Program} {loose : List Str} {mean : ExcName → Option Value} {mg mb : Str → Option Value} {dp un : Nat} {gd : Option (List Code)} {cn : Str} {cs : Scope} {a : Addr} {ccd : Value} {cl : List (Str × Addr)} {outer : List Env} {A₀ : Around} {base h₀ : Heap} {L : Addr} {m : Str → Option Value} {news : List (Addr × Obj)} {s : Shared} {Q E : Value → Shared → Prop} (B : Below A₀ base outer h₀) (F : Fr h₀ L s.heap m) (X : (A.hd.heap_39 w.params).In h₀) (N : News h₀ L s.heap news) (T : Top p loose mean mg mb h₀) (hk : cs.kind = .function) (hdp : dp + 1 < recursionLimit) (hun : un + 200 < cLine) {lc : Addr} {cvs : List Value} {ec : Nat} {cols : List Int} (hlc : (lc, listOf cvs.toArray ec) ∈ news) (hc : IntsAre cvs cols) (hlen0 : 1 ≤ cols.length ∧ cols.length ≤ 7) (h00 : cols.getD 0 0 = 0) (hcb : ∀ z ∈ cols, 0 ≤ z ∧ z ≤ 1000)
    (hret : ∀ r hvs eh h' tk', Fr h₀ L h' m → News h₀ L h' ((r, listOf hvs.toArray eh) :: news) → (∀ p ∈ news, p.1 ≠ r) → IntsAre hvs (readV cols) → Q (.ref r) { s with heap := h', toks := tk' }) :
    wpAny (model PySem.Challenge.rw_sn0118_01.row.prog w) (ktrTop dp un gd cn cs L a ccd cl outer) (call (.ref 154) [.ref lc]) Q E s := by
  have hcl := hc.length
  have hlen2 : Park (1 ≤ cols.length ∧ cols.length ≤ 7) := hlen0
  clear hlen0
  refine wpAny_call ?_
  k_dflt cell_enter
  k_steps
  refine unpark ?_
  (rename Fr _ _ _ (fun y => _) => lF0)
  refine for_V lF0 rfl rfl ?_
  k_steps
  (rename News _ _ _ _ => lN)
  refine len_led lN (.tail _ hlc) hcl (by have := park hlen2; omega) ?_
  (try dsimp only)
  (try k_fold)
  k_steps
  refine unpark ?_
  (rename Fr _ _ _ (fun y => _) => lF)
  (rename News _ _ _ _ => lN)
  (rename IsRange _ _ _ _ _ _ _ _ => rgX)
  obtain ⟨lh, tkh, m6, F6, q1, q4, lN6, ll⟩ := (⟨_, _, _, lF, rfl, rfl, lN, by assumption⟩ : ∃ (lh : Addr) (tkh : Tok) (m6 : Str → Option Value), Fr _ _ _ m6 ∧ m6 (Str.ofString "heads") = some (.ref lh) ∧ m6 (Str.ofString "columns") = some (.ref lc) ∧
    News _ _ _ ((lh, listOf [Value.int 0 tkh].toArray 0) :: news) ∧ (∀ p ∈ news, p.1 < lh))
  clear lF lN
  have hlen : 1 ≤ cols.length ∧ cols.length ≤ 7 := park hlen2
  have hcb2 : ∀ j, 0 ≤ cols.getD j 0 ∧ cols.getD j 0 ≤ 1000 := fun j => by
    rw [List.getD_eq_getElem?_getD]
    cases e : cols[j]? with
    | none => simp
    | some z => exact hcb z (List.mem_of_getElem? e)
  have hcol : ∀ j, j < cols.length → ∃ t, cvs[j]? = some (.int (cols.getD j 0) t) := fun j hj => by
    refine hc.get j _ ?_
    rw [List.getD_eq_getElem?_getD, List.getElem?_eq_getElem hj]; rfl
  refine' kj_range (σ := RS) (a₀ := 1) (b₀ := (cols.length : Nat)) (n := cols.length - 1) (fun c => (c.lh, listOf c.hvs.toArray c.eh) :: news) (fun c => [(Str.ofString "heads", .ref c.lh), (Str.ofString "columns", .ref lc)]) [Str.ofString "j"]
    (fun i c => PRead (fun z => cols.getD z 0) cols.length news i c) ⟨lh, [.int 0 tkh], 0, [0]⟩ rfl rgX (by exact small_one (by omega) (by omega) (by omega) (by omega)) (by exact (rangeSize_nat _ _).trans (toNat_sub1 hlen.1)) ?kF ?kN (fun p hp => hp) ?hk ?hp ?turn ?done
  case kF => exact F6
  case kN => exact lN6
  case hk =>
    intro q hq
    simp only [List.mem_cons, List.not_mem_nil, or_false] at hq
    rcases hq with rfl | rfl
    · exact q1
    · exact q4
  case hp => exact ⟨fun p hp => Nat.ne_of_lt (ll p hp), .cons _ _ .nil, rfl, rfl⟩
  case turn =>
    rintro ⟨lh, hvs, eh, heads⟩ i k t mu h tk own hi hk hoff P2 F2 N2
    dsimp only [kstB, List.cons_append] at hoff F2 N2
    have ekk : k.toNat = i + 1 := by omega
    have hi1 : i + 1 < cols.length := by omega
    obtain ⟨tci, hci⟩ := hcol (i + 1) hi1
    rw [← ekk] at hci
    have hc0 := hcb2 k.toNat
    have m1 : (lc, listOf cvs.toArray ec) ∈ (lh, listOf hvs.toArray eh) :: (news ++ own) := .tail _ (List.mem_append.mpr (.inl hlc))
    k_steps
    refine unpark ?_
    (rename Fr _ _ _ (fun y => _) => lF5)
    (rename News _ _ _ _ => lN5)
    refine' ksw_while (fun _ : Int × Tok => (lh, listOf hvs.toArray eh) :: (news ++ own)) (fun c => [(Str.ofString "j", .int c.1 c.2)]) (fun _ => True) []
      (fun c => 0 ≤ c.1 ∧ c.1 ≤ i ∧ backC (fun z => cols.getD z 0) (cols.getD (i + 1) 0) c.1.toNat = backC (fun z => cols.getD z 0) (cols.getD (i + 1) 0) i) (fun c => c.1.toNat) (k - 1, _) ?kF5 ?kN5 trivial ?kk5 ⟨?p1, ?p2, ?p3⟩ ?turn5
    case kF5 => exact lF5
    case kN5 => exact lN5
    case kk5 =>
      intro p hp
      rw [List.mem_singleton.mp hp]
      rfl
    case p1 => show 0 ≤ k - 1; omega
    case p2 => show k - 1 ≤ i; omega
    case p3 => show backC _ _ (k - 1).toNat = _; congr 1; omega
    clear lF5 lN5
    rintro ⟨j, tj⟩ u h7 tk7 _ ⟨hj0, hj1, hjb⟩ F7 N7
    dsimp only [kstB] at hj0 hj1 hjb F7 N7
    simp only [List.contains_nil, Bool.false_eq_true, if_false] at F7
    have hjl : j.toNat < cols.length := by omega
    obtain ⟨tcj, hcj⟩ := hcol j.toNat hjl
    have hcj0 := hcb2 j.toNat
    have hk2 : k = ((i + 1 : Nat) : Int) := by omega
    have hall : ∀ p ∈ news ++ own, p.1 ≠ lh := fun p hp => by
      rcases List.mem_append.mp hp with hp | hp
      · exact P2.off p hp
      · exact hoff p hp _ (.head _)
    have hhn := P2.hn
    have hhl := P2.hds.length
    dsimp only at hhn hhl
    obtain ⟨thj, hhj⟩ := P2.hds.get j.toNat (heads.getD j.toNat 0) (by rw [List.getD_eq_getElem?_getD, List.getElem?_eq_getElem (by show _ < heads.length; omega)]; rfl)
    k_steps
    · refine unpark ?_
      (rename Fr _ _ _ (fun y => _) => lF8)
      (rename News _ _ _ _ => lN8)
      have hgt : cols.getD j.toNat 0 > cols.getD (i + 1) 0 := by rw [← ekk]; assumption
      have hj1' : 1 ≤ j := by
        false_or_by_contra
        have e0 : j.toNat = 0 := by omega
        rw [e0, h00] at hgt
        have := hcb2 (i + 1)
        omega
      refine' ksw_end (j - 1, ?tok) lF8 lN8 (fun p hp => hp) trivial ?ka ?kb ⟨?kc, ?kd, ?ke⟩ ?kf
      case ka =>
        intro p hp
        rw [List.mem_singleton.mp hp]
        rfl
      case kb =>
        intro z h1 _
        have hz1 := h1 _ (.head _)
        dsimp only at hz1 ⊢
        simp only [if_neg hz1]
        (try rfl)
      case kc => show 0 ≤ j - 1; omega
      case kd => show j - 1 ≤ i; omega
      case ke =>
        show backC _ _ (j - 1).toNat = _
        rw [← hjb]
        obtain ⟨jn, hjn⟩ : ∃ jn, j.toNat = jn + 1 := ⟨j.toNat - 1, by omega⟩
        rw [show (j - 1).toNat = jn by omega, hjn, backC, if_pos (by rw [← hjn]; exact hgt)]
      case kf => show (j - 1).toNat < j.toNat; omega
    · -- the row's own column: the head of the row found
      refine unpark ?_
      (rename Fr _ _ _ (fun y => _) => lF6)
      (rename News _ _ _ _ => lN6)
      have hgo := P2.go
      dsimp only at hgo
      have heq : cols.getD j.toNat 0 = cols.getD (i + 1) 0 := by rw [← ekk]; assumption
      rw [read_turn (j := j.toNat) hi1 hjb (by (try dsimp only); omega), if_pos heq] at hgo
      refine append_end lF6 lN6 (.head hall) (by omega) ?_
      intro h9 F9 N9
      (try dsimp only)
      (try k_fold)
      k_steps
      refine kj_end2 (RS.mk lh (hvs ++ [.int (heads.getD j.toNat 0) thj]) (eh + 1) (heads ++ [heads.getD j.toNat 0])) F9 N9 (by kst_all) ⟨P2.off, IntsAre.append P2.hds (.cons _ thj .nil), ?_, hgo⟩ ?_ ?_ hoff (by kst_same)
      · simp only [List.length_append, List.length_cons, List.length_nil]; omega
      · intro p hp
        rcases List.mem_cons.mp hp with rfl | hp
        · exact .head _
        · exact .tail _ (List.mem_append.mpr (.inl hp))
      · exact fun p hp => .tail _ (List.mem_append.mpr (.inr hp))
    · -- a block opens
      refine unpark ?_
      (rename Fr _ _ _ (fun y => _) => lF6)
      (rename News _ _ _ _ => lN6)
      have hgo := P2.go
      dsimp only at hgo
      have hng : ¬ cols.getD j.toNat 0 > cols.getD k.toNat 0 := by assumption
      have hne : ¬ cols.getD j.toNat 0 = cols.getD k.toNat 0 := by assumption
      rw [ekk] at hng hne
      rw [read_turn (j := j.toNat) hi1 hjb hng, if_neg hne, if_pos (by omega), ← hk2] at hgo
      refine append_end lF6 lN6 (.head hall) (by omega) ?_
      intro h9 F9 N9
      (try dsimp only)
      (try k_fold)
      k_steps
      refine kj_end2 (RS.mk lh (hvs ++ [.int k t]) (eh + 1) (heads ++ [k])) F9 N9 (by kst_all) ⟨P2.off, IntsAre.append P2.hds (.cons _ t .nil), ?_, hgo⟩ ?_ ?_ hoff (by kst_same)
      · simp only [List.length_append, List.length_cons, List.length_nil]; omega
      · intro p hp
        rcases List.mem_cons.mp hp with rfl | hp
        · exact .head _
        · exact .tail _ (List.mem_append.mpr (.inl hp))
      · exact fun p hp => .tail _ (List.mem_append.mpr (.inr hp))
    · -- the row is lost
      refine unpark ?_
      (rename Fr _ _ _ (fun y => _) => lF6)
      (rename News _ _ _ _ => lN6)
      have hgo := P2.go
      dsimp only at hgo
      have hng : ¬ cols.getD j.toNat 0 > cols.getD k.toNat 0 := by assumption
      have hne : ¬ cols.getD j.toNat 0 = cols.getD k.toNat 0 := by assumption
      rw [ekk] at hng hne
      rw [read_turn (j := j.toNat) hi1 hjb hng, if_neg hne, if_neg (by omega)] at hgo
      refine append_end lF6 lN6 (.head hall) (by omega) ?_
      intro h9 F9 N9
      (try dsimp only)
      (try k_fold)
      k_steps
      (try dsimp only)
      (try k_steps)
      refine hret _ _ _ _ _ (by assumption) (fun p hp => ‹News h₀ L _ _› p (by
        rcases List.mem_cons.mp hp with rfl | hp
        · exact .head _
        · exact .tail _ (List.mem_append.mpr (.inl hp)))) P2.off ?_
      rw [readV, ← hgo]
      exact IntsAre.append P2.hds (.cons _ _ .nil)
  case done =>
    rintro ⟨lh, hvs, eh, heads⟩ mu h tk P2 F2 N2
    dsimp only [kstB] at F2 N2
    (try dsimp only)
    k_steps
    have hgo9 := P2.go
    rw [show cols.length - 1 - (cols.length - 1) = 0 by omega] at hgo9
    have eo : heads = readV cols := hgo9
    exact hret _ _ _ _ _ (by assumption) (by assumption) P2.off (by rw [← eo]; exact P2.hds)
end
section
theorem fillV4 : PySem.Challenge.rw_sn0118_01 = PySem.Challenge.rw_sn0118_01 ∧ A.hd.heap_39 = A.hd.heap_39 := by k_fill; exact ⟨rfl, rfl⟩
theorem parkIfC {M : Model} {A : Around} {E : Value → Shared → Prop} {s : Shared} {env : Env} {P : Flow → Shared → Prop} {f : Expr} {as : List Expr} {ks : List Keyword} {os : List CmpOp} {es : List Expr} {p q u : Pos} {x y : List Stmt} (h : Park (wpAny M A (exec (Stmt.If (Expr.Compare (Expr.Call f as ks p) os es q) x y u) env) P E s)) : wpAny M A (exec (Stmt.If (Expr.Compare (Expr.Call f as ks p) os es q) x y u) env) P E s := h
local macro_rules | `(tactic| walk_at "exec For Name Call cons nil") => `(tactic| walk_at "my park")
local macro_rules | `(tactic| walk_at "exec If") => `(tactic| refine parkIfN ?_)
local macro_rules | `(tactic| walk_at "exec If") => `(tactic| refine parkIfC ?_)
local macro_rules | `(tactic| walk_at "exec If") => `(tactic| refine parkIfB ?_)
local macro_rules | `(tactic| walk_at "call builtin:str.join") => `(tactic| walk_at "my park")
local macro_rules | `(tactic| walk_at "call type:str") => `(tactic| walk_at "my park")
local macro_rules | `(tactic| walk_at "call builtin:list.append") => `(tactic| walk_at "my park")
local macro_rules | `(tactic| walk_at "pyIter ref") => `(tactic| walk_at "my park")
local macro_rules | `(tactic| walk_at "subscriptTail") => `(tactic| walk_at "my item")
local macro_rules | `(tactic| walk_at "call builtin:len") => `(tactic| walk_at "my park")
local macro_rules | `(tactic| walk_at "subscriptTail Name Slice ref ref") => `(tactic| walk_at "my park")
local macro_rules | `(tactic| walk_at "call ref") => `(tactic| refine parkC 147 ?_)
/-- the walks: for each size its columns -/
noncomputable def WalksAre (led : List (Addr × Obj)) (wvs : List Value) (leads : List Str) (K : Int) : Prop :=
  ∀ i : Nat, (i : Int) < K → ∃ a cvs e, wvs[i]? = some (.ref a) ∧ (a, listOf (cvs : List Value).toArray e) ∈ led ∧ IntsAre cvs (leads.map fun x => colV x ((i : Int) + 1))
noncomputable abbrev atS (l : List Str) (i : Nat) : Str := l.getD i (Str.ofString "")
structure NS where
  ln : Addr
  nvs : List Value
  en : Nat
structure PNam (f : Int → Bool) (base : List (Addr × Obj)) (i : Nat) (c : NS) : Prop where
  off : ∀ p ∈ base, p.1 ≠ c.ln
  nms : StrsAre c.nvs (((rangeKs 1 i).filter f).map strOf)
theorem filt_one (f : Int → Bool) (i : Nat) : (rangeKs 1 (i + 1)).filter f = (rangeKs 1 i).filter f ++ (if f (1 + (i : Int)) = true then [1 + (i : Int)] else []) := by
  have e : rangeKs 1 (i + 1) = rangeKs 1 i ++ [1 + (i : Int)] := by simp [rangeKs, List.range_succ]
  rw [e, List.filter_append]
  congr 1
  by_cases h : f (1 + (i : Int)) = true <;> simp [h]
theorem filt_len (f : Int → Bool) (i : Nat) : ((rangeKs 1 i).filter f).length ≤ i := by
  have := List.length_filter_le f (rangeKs 1 i)
  rw [rangeKs_length] at this
  exact this
noncomputable def words1 (d : Bool) : Str := if d then Str.ofString "indent not greater" else Str.ofString "indent not equal"
theorem words1P (d : Bool) : words1 d ++ Str.ofString " e.g. at tab size" = wordsP d := by cases d <;> decide
noncomputable def namF (a b : Str) (d : Bool) (t : Int) : Bool := if d then decide (colV a t ≥ colV b t) else decide (colV a t ≠ colV b t)
set_option maxHeartbeats 2000000 in
theorem told1_spec {w : World} {p : Program} {loose : List Str} {mean : ExcName → Option Value} {mg mb : Str → Option Value} {dp un : Nat} {gd : Option (List Code)} {cn : Str} {cs : Scope} {a : Addr} {ccd : Value} {cl : List (Str × Addr)} {outer : List Env} {A₀ : Around} {base h₀ : Heap} {L : Addr} {m : Str → Option Value} {news : List (Addr × Obj)} {s : Shared} {Q E : Value → Shared → Prop} (B : Below A₀ base outer h₀) (F : Fr h₀ L s.heap m) (X : (A.hd.heap_39 w.params).In h₀) (N : News h₀ L s.heap news) (T : Top p loose mean mg mb h₀) (hk : cs.kind = .function) (hdp : dp + 3 < recursionLimit) (hun : un + 400 < cLine) {ll lr lw lR : Addr} {lvs rvs wvs Rvs : List Value} {el er ew eR : Nat} {leads rows : List Str} {R : List Int} {K : Int} {stop : Nat} {ts : Tok}
    (hll : (ll, listOf lvs.toArray el) ∈ news) (hl : StrsAre lvs leads) (hlr : (lr, listOf rvs.toArray er) ∈ news) (hr : StrsAre rvs rows) (hlw : (lw, listOf wvs.toArray ew) ∈ news) (hw : WalksAre news wvs leads K) (hlR : (lR, listOf Rvs.toArray eR) ∈ news) (hR : IntsAre Rvs R)
    (hS : ∀ x ∈ leads, x ∈ leadS) (hK : 1 ≤ K ∧ K ≤ 5) (hg : ∀ x ∈ leads, lgV x < K) (hn : leads.length = rows.length) (hlen : 1 ≤ rows.length ∧ rows.length ≤ 7) (hstop : 1 ≤ stop ∧ stop ≤ rows.length)
    (hR0 : ∀ z ∈ R, -1 ≤ z ∧ z < rows.length) (hR1 : ∀ j, j < stop → 0 ≤ R.getD j 0) (hR2 : stop ≤ R.length) (hR3 : stop < rows.length → stop < R.length) (hR4 : R.length ≤ 7)
    (hret : ∀ r led h' tk', Fr h₀ L h' m → News h₀ L h' led → (∀ p ∈ news, p ∈ led) → DatIn led r (toldR (atS leads) (atS rows) rows.length R stop) → Q r { s with heap := h', toks := tk' }) :
    wpAny (model PySem.Challenge.rw_sn0118_01.row.prog w) (ktrTop dp un gd cn cs L a ccd cl outer) (call (.ref 161) [.ref ll, .ref lr, .ref lw, .ref lR, .int stop ts]) Q E s := by
  have hlvl := hl.length
  have hrvl := hr.length
  have hRl := hR.length
  have hlen2 : Park (1 ≤ rows.length ∧ rows.length ≤ 7) := hlen
  refine wpAny_call ?_
  k_dflt cell_enter
  k_steps
  refine unpark ?_
  (rename Fr _ _ _ (fun y => _) => lF)
  (rename News _ _ _ news => lN)
  have est : ((stop : Nat) : Int).toNat = stop := by omega
  refine kmk_slice_ints lF lN (lst_of lN hlR) .none (.int _ _) hR (kmk_upto hR (by omega)) rfl ?_ (by with_unfolding_all rfl) (by intro _; with_unfolding_all rfl) (by rw [List.size_toArray, sizeLine_eq]; omega)
  clear lF lN
  intro lS ws h3 F3 N3 l3 hI3 _ _
  (try dsimp only)
  (try k_fold)
  have mS : (lS, listOf ws.toArray 0) ∈ (lS, listOf ws.toArray 0) :: news := .head _
  have mL : (ll, listOf lvs.toArray el) ∈ (lS, listOf ws.toArray 0) :: news := .tail _ hll
  have mr : (lr, listOf rvs.toArray er) ∈ (lS, listOf ws.toArray 0) :: news := .tail _ hlr
  have mw : (lw, listOf wvs.toArray ew) ∈ (lS, listOf ws.toArray 0) :: news := .tail _ hlw
  have mR : (lR, listOf Rvs.toArray eR) ∈ (lS, listOf ws.toArray 0) :: news := .tail _ hlR
  rw [est] at hI3
  have hlen := park hlen2
  by_cases hq : stop = rows.length
  · k_steps
    (refine unpark ?_; (k_here; k_dflt (refine' len_led ?k1q1 ?k2q1 ?k3q1 ?k4q1 ?_; (case k1q1 => k_asm); (case k2q1 => first | with_reducible assumption | k_mem); (case k3q1 => assumption); (case k4q1 => omega); k_whole)))
    k_steps
    rotate_left
    · exfalso; omega
    refine hret _ _ _ _ (by assumption) (by assumption) (by kcf_all) ?_
    rw [toldR, if_pos hq]
    exact .tuple (.head _) (.cons (.list (.tail _ (.head _)) (intsDat hI3)) (.cons (.int _ _) (.cons (.str _ _) (.cons (.str _ _) .nil))))
  have hst1 : stop < rows.length := by omega
  have hst2 := hR3 hst1
  have hsl1 : stop < leads.length := by omega
  have hs62 : ((stop : Nat) : Int) < 2 ^ 62 := by omega
  have hs63 : ((stop : Nat) : Int) < 2 ^ 63 := by omega
  obtain ⟨tS, hS1⟩ := hR.get stop (R.getD stop 0) (by rw [List.getD_eq_getElem?_getD, List.getElem?_eq_getElem hst2]; rfl)
  obtain ⟨trw, hrw1⟩ := hr.get stop (atS rows stop) (by show rows[stop]? = some (rows.getD stop (Str.ofString "")); rw [List.getD_eq_getElem?_getD, List.getElem?_eq_getElem hst1]; rfl)
  obtain ⟨tle, hle1⟩ := hl.get stop (atS leads stop) (by show leads[stop]? = some (leads.getD stop (Str.ofString "")); rw [List.getD_eq_getElem?_getD, List.getElem?_eq_getElem (by omega)]; rfl)
  have hRS := hR0 (R.getD stop 0) (by rw [List.getD_eq_getElem?_getD, List.getElem?_eq_getElem hst2]; exact List.getElem_mem _)
  generalize hRv : R.getD stop 0 = v at hS1 hRS
  have hS2 : Rvs[((stop : Nat) : Int).toNat]? = some (.int v tS) := by rw [est]; exact hS1
  have hrw2 : rvs[((stop : Nat) : Int).toNat]? = some (.str (atS rows stop) trw) := by rw [est]; exact hrw1
  have hle2 : lvs[((stop : Nat) : Int).toNat]? = some (.str (atS leads stop) tle) := by rw [est]; exact hle1
  k_steps
  (refine unpark ?_; (k_here; k_dflt (refine' len_led ?k1q2 ?k2q2 ?k3q2 ?k4q2 ?_; (case k1q2 => k_asm); (case k2q2 => first | with_reducible assumption | k_mem); (case k3q2 => assumption); (case k4q2 => omega); k_whole)))
  k_steps
  · exfalso; omega
  · -- the row is lost at this size
    refine hret _ _ _ _ (by assumption) (by assumption) (by kcf_all) ?_
    rw [toldR, if_neg hq, hRv, if_pos (by assumption)]
    exact .tuple (.head _) (.cons (.list (.tail _ (.head _)) (intsDat hI3)) (.cons (.int _ _) (.cons (.str _ _) (.cons (.str _ _) .nil))))
  refine unpark ?_
  (rename Fr _ _ _ (fun y => _) => lF)
  (rename News _ _ _ (_ :: news) => lN)
  have hvp : 0 ≤ v := by omega
  obtain ⟨dd, hdd⟩ : ∃ dd, (v == ((stop : Nat) : Int)) = dd := ⟨_, rfl⟩
  -- the row over it
  have hov0 := hR1 (stop - 1) (by omega)
  have hov1 := hR0 (R.getD (stop - 1) 0) (by rw [List.getD_eq_getElem?_getD, List.getElem?_eq_getElem (by omega)]; exact List.getElem_mem _)
  have hsv : (R.take stop).getD (stop - 1) 0 = R.getD (stop - 1) 0 := by
    simp only [List.getD_eq_getElem?_getD, List.getElem?_take, if_pos (show stop - 1 < stop by omega)]
  obtain ⟨tov, hov2⟩ := hI3.get (stop - 1) (R.getD (stop - 1) 0) (by
    rw [List.getElem?_take, if_pos (by omega), List.getD_eq_getElem?_getD, List.getElem?_eq_getElem (by omega)]; rfl)
  generalize hOv : R.getD (stop - 1) 0 = ov0 at hov0 hov1 hsv hov2
  have hov3 : ws[((stop : Nat) - 1 : Int).toNat]? = some (.int ov0 tov) := by rw [show ((stop : Nat) - 1 : Int).toNat = stop - 1 by omega]; exact hov2
  have eov : (R.take stop).getD (((stop : Nat) : Int) - 1).toNat 0 = ov0 := by rw [show (((stop : Nat) : Int) - 1).toNat = stop - 1 by omega]; exact hsv
  have hwsl := hI3.length
  rw [List.length_take] at hwsl
  refine' join_two (if dd then ov0 else v) (words1 dd) lF lN ?j1 ?j2
  case j1 =>
    refine wpAny_If ?_
    k_steps
    · have hd1 : dd = true := by rw [← hdd]; exact beq_iff_eq.mpr (by assumption)
      subst hd1
      exact ⟨rfl, _, _, _, _, _, rfl, by assumption, rfl, (by rw [if_pos rfl, ← eov]; rfl), (fun z h1 h2 => by simp only [if_neg h1, if_neg h2]), by assumption⟩
    · have hd1 : dd = false := by rw [← hdd]; exact beq_eq_false_iff_ne.mpr (by assumption)
      subst hd1
      exact ⟨rfl, _, _, _, _, _, rfl, by assumption, rfl, rfl, (fun _ _ _ => rfl), by assumption⟩
  case j2 =>
    intro h4 tk4 m4 t4a t4b F4 q1 q2 q3 N4
    have y1 := (q3 (Str.ofString "leads") (by decide) (by decide)).trans (by rfl : _ = some (Value.ref ll))
    have y2 := (q3 (Str.ofString "rows") (by decide) (by decide)).trans (by rfl : _ = some (Value.ref lr))
    have y3 := (q3 (Str.ofString "walks") (by decide) (by decide)).trans (by rfl : _ = some (Value.ref lw))
    have y4 := (q3 (Str.ofString "stop") (by decide) (by decide)).trans (by rfl : _ = some (Value.int stop ts))
    have y5 := (q3 (Str.ofString "seen") (by decide) (by decide)).trans (by rfl : _ = some (Value.ref lS))
    have y6 := (q3 (Str.ofString "deeper") (by decide) (by decide)).trans (by rfl : _ = some (Value.bool (v == ((stop : Nat) : Int))))
    rw [hdd] at y6
    clear q3 lF lN
    obtain ⟨m4, F4⟩ := fr_abs F4 [(Str.ofString "leads", .ref ll), (Str.ofString "rows", .ref lr), (Str.ofString "walks", .ref lw), (Str.ofString "stop", .int stop ts), (Str.ofString "seen", .ref lS), (Str.ofString "deeper", .bool dd), (Str.ofString "words", .str (words1 dd) t4b), (Str.ofString "over", .int (if dd then ov0 else v) t4a)] (List.forall_mem_cons.mpr ⟨y1, List.forall_mem_cons.mpr ⟨y2, List.forall_mem_cons.mpr ⟨y3, List.forall_mem_cons.mpr ⟨y4, List.forall_mem_cons.mpr ⟨y5, List.forall_mem_cons.mpr ⟨y6, List.forall_mem_cons.mpr ⟨q1, List.forall_mem_cons.mpr ⟨q2, fun _ h => nomatch h⟩⟩⟩⟩⟩⟩⟩⟩)
    dsimp only [kstB] at F4
    clear y1 y2 y3 y4 y5 y6 q1 q2
    have hovb : 0 ≤ (if dd then ov0 else v) ∧ (if dd then ov0 else v) < rows.length := by split <;> omega
    generalize hov : (if dd then ov0 else v) = ov at F4 hovb
    obtain ⟨tlo, hlo⟩ := hl.get ov.toNat (atS leads ov.toNat) (by show leads[ov.toNat]? = some (leads.getD ov.toNat (Str.ofString "")); rw [List.getD_eq_getElem?_getD, List.getElem?_eq_getElem (by omega)]; rfl)
    (try dsimp only)
    (try k_fold)
    k_steps
    refine unpark ?_
    (rename Fr _ _ _ (fun y => _) => lF5)
    (rename News _ _ _ (_ :: _ :: news) => lN5)
    obtain ⟨ln, N5, l5, m7, F5⟩ : ∃ (ln : Addr), News _ _ _ ((ln, listOf ([] : List Value).toArray 0) :: (lS, listOf ws.toArray 0) :: news) ∧ (lS < ln ∧ AllLt ln news) ∧ ∃ m7, Fr _ _ _ (kstB m7 [(Str.ofString "named", Value.ref ln), (Str.ofString "leads", .ref ll), (Str.ofString "rows", .ref lr), (Str.ofString "walks", .ref lw), (Str.ofString "stop", .int stop ts), (Str.ofString "seen", .ref lS), (Str.ofString "deeper", .bool dd), (Str.ofString "words", .str (words1 dd) t4b), (Str.ofString "over", .int ov t4a)]) := ⟨_, lN5, by assumption, fr_abs lF5 _ (by kst_all)⟩
    clear lF5 lN5
    dsimp only [kstB] at F5
    refine for_V F5 rfl rfl ?_
    have mL2 : (ll, listOf lvs.toArray el) ∈ (ln, listOf ([] : List Value).toArray 0) :: (lS, listOf ws.toArray 0) :: news := .tail _ (.tail _ hll)
    clear mS mL mr mw mR
    k_steps
    refine unpark ?_
    have hovn : ov.toNat < leads.length := by omega
    have haS : atS leads ov.toNat ∈ leads := by
      show leads.getD ov.toNat (Str.ofString "") ∈ leads
      rw [List.getD_eq_getElem?_getD, List.getElem?_eq_getElem hovn]; exact List.getElem_mem _
    have hbS : atS leads stop ∈ leads := by
      show leads.getD stop (Str.ofString "") ∈ leads
      rw [List.getD_eq_getElem?_getD, List.getElem?_eq_getElem (by omega)]; exact List.getElem_mem _
    have hab : ∀ x ∈ [atS leads ov.toNat, atS leads stop], x ∈ leadS := fun x hx => by
      simp only [List.mem_cons, List.not_mem_nil, or_false] at hx
      rcases hx with rfl | rfl
      · exact hS _ haS
      · exact hS _ hbS
    k_dflt (refine' longest1_spec (leads := [atS leads ov.toNat, atS leads stop]) ?k1 ?k2 ?k3 ?k4 ?k5 ?k6 ?k7 ?k8 (.head _) (.cons _ _ (.cons _ _ .nil)) hab (by simp) ?_; (case k1 => k_asm); (case k2 => k_asm); (case k3 => k_asm); (case k4 => k_asm); (case k5 => k_asm); (case k6 => first | exact rfl | assumption); (case k7 => ktr_room); (case k8 => ktr_units))
    intro M tM h8 tk8 hM1 hM2 F8 N8
    (try dsimp only)
    (try k_fold)
    have hMv : M = max (lgV (atS leads ov.toNat)) (lgV (atS leads stop)) := by
      have b1 := hM2 _ (.head _)
      have b2 := hM2 _ (.tail _ (.head _))
      obtain ⟨x, hx, e⟩ := hM1
      simp only [List.mem_cons, List.not_mem_nil, or_false] at hx
      rcases hx with rfl | rfl <;> omega
    have hM3 : M < K := by
      have b1 := hg _ haS
      have b2 := hg _ hbS
      omega
    have hM0 : 0 ≤ M := by
      have b1 := (lead_facts (hS _ haS)).2.1
      have b2 := (lead_facts (hS _ hbS)).2.1
      omega
    clear hM1 hM2
    have pM := unpark (⟨hMv, hM3, hM0⟩ : M = max (lgV (atS leads ov.toNat)) (lgV (atS leads stop)) ∧ M < K ∧ 0 ≤ M)
    clear hMv hM3 hM0
    k_steps
    refine unpark ?_
    obtain ⟨hMv, hM3, hM0⟩ := park pM
    (rename Fr _ _ _ (fun y => _) => lF9)
    (rename News _ _ _ (_ :: _) => lN9)
    (rename IsRange _ _ _ _ _ _ _ _ => rgX)
    refine' kj_range (σ := NS) (a₀ := 1) (b₀ := M + 2) (n := (M + 1).toNat) (fun c => (c.ln, listOf c.nvs.toArray c.en) :: (lS, listOf ws.toArray 0) :: news) (fun c => [(Str.ofString "named", .ref c.ln), (Str.ofString "rows", .ref lr), (Str.ofString "walks", .ref lw), (Str.ofString "stop", .int stop ts), (Str.ofString "seen", .ref lS), (Str.ofString "deeper", .bool dd), (Str.ofString "words", .str (words1 dd) t4b), (Str.ofString "over", .int ov t4a)]) [Str.ofString "near", Str.ofString "far"]
      (fun i c => PNam (namF (atS leads ov.toNat) (atS leads stop) dd) ((lS, listOf ws.toArray 0) :: news) i c) ⟨ln, [], 0⟩ rfl rgX (by exact small_one (by omega) (by omega) (by omega) (by omega)) (by exact (rangeSize_nat _ _).trans (by rw [show M + 2 - 1 = M + 1 from by rw [Int.add_sub_assoc]; rfl])) ?kF ?kN (fun p hp => ?hnn) ?hk ?hp ?turn ?done
    case kF => exact lF9
    case kN => exact lN9
    case hnn =>
      rcases List.mem_cons.mp hp with rfl | hp
      · exact .tail _ (.head _)
      · exact .tail _ (.tail _ hp)
    case hk => kst_all
    case hp =>
      refine ⟨fun p hp => ?_, .nil⟩
      rcases List.mem_cons.mp hp with rfl | hp
      · exact Nat.ne_of_lt l5.1
      · exact Nat.ne_of_lt (kst_ltOf l5.2 p hp)
    case turn =>
      rintro ⟨ln, nvs, en⟩ i k t mu h tk own hi hk hoff P2 F2 N2
      dsimp only [kstB, List.cons_append] at hoff F2 N2
      obtain ⟨aw, cvs, ecv, hwv, hma, hcv⟩ := hw i (by omega)
      have ek : (k - 1).toNat = i := by omega
      have ek2 : (i : Int) + 1 = k := by omega
      rw [ek2] at hcv
      rw [← ek] at hwv
      obtain ⟨tn, hnear⟩ := hcv.get ov.toNat (colV (atS leads ov.toNat) k) (by
        rw [List.getElem?_map, List.getElem?_eq_getElem hovn]
        show some (colV leads[ov.toNat] k) = some (colV (leads.getD ov.toNat (Str.ofString "")) k)
        rw [List.getD_eq_getElem?_getD, List.getElem?_eq_getElem hovn]; rfl)
      obtain ⟨tf, hfar⟩ := hcv.get stop (colV (atS leads stop) k) (by
        rw [List.getElem?_map, List.getElem?_eq_getElem (by omega)]
        show some (colV leads[stop] k) = some (colV (leads.getD stop (Str.ofString "")) k)
        rw [List.getD_eq_getElem?_getD, List.getElem?_eq_getElem (by omega)]; rfl)
      rw [← est] at hfar
      have mw2 : (lw, listOf wvs.toArray ew) ∈ (ln, listOf nvs.toArray en) :: (lS, listOf ws.toArray 0) :: (news ++ own) := .tail _ (.tail _ (List.mem_append.mpr (.inl hlw)))
      have ma2 : (aw, listOf cvs.toArray ecv) ∈ (ln, listOf nvs.toArray en) :: (lS, listOf ws.toArray 0) :: (news ++ own) := .tail _ (.tail _ (List.mem_append.mpr (.inl hma)))
      have hnl := P2.nms.length
      rw [List.length_map] at hnl
      have hfl := filt_len (namF (atS leads ov.toNat) (atS leads stop) dd) i
      have hall : ∀ p ∈ (lS, listOf ws.toArray 0) :: (news ++ own), p.1 ≠ ln := fun p hp => by
        rcases List.mem_cons.mp hp with rfl | hp
        · exact P2.off _ (.head _)
        rcases List.mem_append.mp hp with hp | hp
        · exact P2.off p (.tail _ hp)
        · exact hoff p hp _ (.head _)
      rw [est] at hfar
      have hfar2 : cvs[((stop : Nat) : Int).toNat]? = some (.int (colV (atS leads stop) k) tf) := by rw [est]; exact hfar
      have hkb : -200 ≤ k ∧ k ≤ 200 := by omega
      have hP2 := P2.nms
      dsimp only at hP2 hnl
      have eN : (leads.map fun x => colV x k).getD ov.toNat 0 = colV (atS leads ov.toNat) k := by
        show _ = colV (leads.getD ov.toNat (Str.ofString "")) k
        simp only [List.getD_eq_getElem?_getD, List.getElem?_map, List.getElem?_eq_getElem hovn]; rfl
      have eF : (leads.map fun x => colV x k).getD ((stop : Nat) : Int).toNat 0 = colV (atS leads stop) k := by
        rw [est]
        show _ = colV (leads.getD stop (Str.ofString "")) k
        simp only [List.getD_eq_getElem?_getD, List.getElem?_map, List.getElem?_eq_getElem (show stop < leads.length by omega)]; rfl
      have yes : namF (atS leads ov.toNat) (atS leads stop) dd k = true → ∀ tq, StrsAre (nvs ++ [.str (strOf k) tq]) (((rangeKs 1 (i + 1)).filter (namF (atS leads ov.toNat) (atS leads stop) dd)).map strOf) := fun h tq => by
        rw [filt_one, ← hk, if_pos h, List.map_append]
        exact StrsAre.append' hP2 (.cons _ _ .nil)
      have no : namF (atS leads ov.toNat) (atS leads stop) dd k = false → StrsAre nvs (((rangeKs 1 (i + 1)).filter (namF (atS leads ov.toNat) (atS leads stop) dd)).map strOf) := fun h => by
        rw [filt_one, ← hk, if_neg (by rw [h]; exact Bool.false_ne_true), List.append_nil]
        exact hP2
      have hsub1 : ∀ q : Addr × Obj, ∀ p ∈ (ln, q.2) :: (lS, listOf ws.toArray 0) :: news, p ∈ (ln, q.2) :: (lS, listOf ws.toArray 0) :: (news ++ own) := fun q p hp => by
        rcases List.mem_cons.mp hp with rfl | hp
        · exact .head _
        rcases List.mem_cons.mp hp with rfl | hp
        · exact .tail _ (.head _)
        · exact .tail _ (.tail _ (List.mem_append.mpr (.inl hp)))
      have hsub2 : ∀ q : Addr × Obj, ∀ p ∈ own, p ∈ (ln, q.2) :: (lS, listOf ws.toArray 0) :: (news ++ own) := fun q p hp => .tail _ (.tail _ (List.mem_append.mpr (.inr hp)))
      k_steps
      refine unpark ?_
      refine join_if (namF (atS leads ov.toNat) (atS leads stop) dd k) ?_ ?_
      · cases dd
        · k_steps
          all_goals refine unpark ⟨?_, _, rfl⟩
          all_goals (unfold namF; rw [if_neg Bool.false_ne_true, ← eN, ← eF]; symm; first | exact decide_eq_true (by assumption) | exact decide_eq_false (fun q => q (by assumption)))
        · k_steps
          all_goals refine unpark ⟨?_, _, rfl⟩
          all_goals (unfold namF; rw [if_pos rfl, ← eN, ← eF]; symm; first | exact decide_eq_true (by assumption) | exact decide_eq_false (by assumption))
      intro tkI
      cases hnf : namF (atS leads ov.toNat) (atS leads stop) dd k
      · rw [if_neg Bool.false_ne_true]
        k_steps
        (rename Fr _ _ _ (fun y => _) => lF6)
        (rename News _ _ _ _ => lN6)
        exact kj_end2 (NS.mk ln nvs en) lF6 lN6 (by kst_all) ⟨P2.off, no hnf⟩ (hsub1 (ln, _)) (hsub2 (ln, _)) hoff (by kst_same)
      · rw [if_pos rfl]
        k_steps
        refine unpark ?_
        refine P.str_of_int (shown (N := 2 ^ 1920) (by omega) (by omega) (Int.le_refl _)) ?_
        (try dsimp only)
        (try k_fold)
        k_steps
        refine unpark ?_
        (rename Fr _ _ _ (fun y => _) => lF6)
        (rename News _ _ _ _ => lN6)
        refine append_end lF6 lN6 (.head hall) (by omega) ?_
        intro h9 F9 N9
        (try dsimp only)
        (try k_fold)
        k_steps
        exact kj_end2 (NS.mk ln (nvs ++ [.str (strOf k) _]) (en + 1)) F9 N9 (by kst_all) ⟨P2.off, yes hnf _⟩ (hsub1 (ln, _)) (hsub2 (ln, _)) hoff (by kst_same)
    case done =>
      rintro ⟨ln, nvs, en⟩ mu h tk P2 F2 N2
      dsimp only [kstB] at F2 N2
      (try dsimp only)
      have hw1 : (words1 dd).length ≤ 100 := by cases dd <;> decide
      have hnl := P2.nms.length
      rw [List.length_map] at hnl
      have hfl := filt_len (namF (atS leads ov.toNat) (atS leads stop) dd) (M + 1).toNat
      have enm : (rangeKs 1 (M + 1).toNat).filter (namF (atS leads ov.toNat) (atS leads stop) dd) = namedV (atS leads ov.toNat) (atS leads stop) dd := by
        rw [hMv]; rfl
      have hP2 := P2.nms
      dsimp only at hP2 hnl
      rw [enm] at hfl hP2 hnl
      have hnb : ∀ z ∈ namedV (atS leads ov.toNat) (atS leads stop) dd, 0 ≤ z ∧ z ≤ 200 := fun z hz => by
        rw [← enm] at hz
        have := mem_rangeKs.mp (List.mem_filter.mp hz).1
        omega
      generalize enmV : namedV (atS leads ov.toNat) (atS leads stop) dd = nm at hfl hP2 hnl hnb
      k_steps
      refine unpark ?_
      (rename Fr _ _ _ (fun y => _) => lF14)
      (rename News _ _ _ (_ :: _) => lN14)
      rw [words1P] at lF14
      have hwP : (wordsP dd).length ≤ 100 := by cases dd <;> decide
      refine' join_word (if nm.length > 1 then wordsP dd ++ Str.ofString "s" else wordsP dd) ?kF14 ?kN14 ?x1 ?x2
      case kF14 => exact lF14
      case kN14 => exact lN14
      case x1 =>
        refine wpAny_If ?_
        k_steps
        (refine unpark ?_; (k_here; k_dflt (refine' len_led ?k1q3 ?k2q3 ?k3q3 ?k4q3 ?_; (case k1q3 => k_asm); (case k2q3 => first | with_reducible assumption | k_mem); (case k3q3 => assumption); (case k4q3 => omega); k_whole)))
        k_steps
        · rw [if_pos (by omega)]
          exact ⟨rfl, _, _, _, rfl, fr_dup (by assumption), by assumption⟩
        · rw [if_neg (by omega)]
          exact ⟨rfl, _, _, _, rfl, by assumption, by assumption⟩
      case x2 =>
        clear lF14 lN14
        intro h15 tk15 t15 F15 N15
        (try dsimp only)
        (try k_fold)
        have hwl2 : (if nm.length > 1 then wordsP dd ++ Str.ofString "s" else wordsP dd).length ≤ 200 := by
          have e8 : (Str.ofString "s").length ≤ 100 := by decide
          split
          · rw [Str.length_append]; omega
          · omega
        have eW : (if nm.length > 1 then wordsP dd ++ Str.ofString "s" else wordsP dd) ++ Str.ofString " " ++ Txt.join (Str.ofString ", ") (nm.map strOf) = toldW dd nm := rfl
        generalize (if nm.length > 1 then wordsP dd ++ Str.ofString "s" else wordsP dd) = W at F15 hwl2 eW
        have mr3 : (lr, listOf rvs.toArray er) ∈ (ln, listOf nvs.toArray en) :: (lS, listOf ws.toArray 0) :: news := .tail _ (.tail _ hlr)
        have hz2 : ∀ y ∈ nm, -200 ≤ y ∧ y ≤ 200 := fun y hy => by have := hnb y hy; omega
        have hok2 := join_okZ nm hz2
        have hjl := joinZ_len hz2 (by omega)
        k_steps
        refine unpark ?_
        (rename News _ _ _ (_ :: _) => lN19)
        refine' join_list (ys := nm.map strOf) ?jl ?ji ?jok ?_
        case jl => exact lst_of lN19 (.head _)
        case ji => rw [List.toList_toArray]; exact hP2
        case jok =>
          rw [List.length_map, show (Str.ofString ", ").length = 2 by decide]
          omega
        intro tj kj
        (try dsimp only)
        (try k_fold)
        k_steps
        rw [eW] at *
        refine hret _ _ _ _ (by assumption) (by assumption) (by kcf_all) ?_
        have eR2 : R.getD stop 0 = v := hRv
        have hover : (if decide (v = ((stop : Nat) : Int)) = true then ((R.take stop).getD (stop - 1) 0).toNat else v.toNat) = ov.toNat := by
          rw [← hov, ← hdd, hsv]
          by_cases q : v = ((stop : Nat) : Int)
          · simp [q]
          · simp [q]
        have hddE : decide (v = ((stop : Nat) : Int)) = dd := by
          rw [← hdd]
          by_cases q : v = ((stop : Nat) : Int)
          · simp [q]
          · simp [q]
        rw [toldR, if_neg hq, eR2, if_neg (by omega)]
        rw [hddE] at hover
        simp only [hddE, hover]
        rw [enmV]
        exact .tuple (.head _) (.cons (.list (.tail _ (.tail _ (.head _))) (intsDat hI3)) (.cons (.int _ _) (.cons (.str _ _) (.cons (.str _ _) .nil))))
end
section
theorem fillV5 : PySem.Challenge.rw_sn0118_01 = PySem.Challenge.rw_sn0118_01 ∧ A.hd.heap_39 = A.hd.heap_39 := by k_fill; exact ⟨rfl, rfl⟩
section
variable {M : Model} {A : Around} {E : Value → Shared → Prop} {s : Shared} {Q : Value → Shared → Prop} {R : Value × List Value → Shared → Prop}
theorem parkM_get_lineno {v : Value} {b : Sem Bool} (h : Park (wpAny M A (getMethod v (Str.ofString "get_lineno") b) R E s)) : wpAny M A (getMethod v (Str.ofString "get_lineno") b) R E s := h
theorem parkM_get_msg {v : Value} {b : Sem Bool} (h : Park (wpAny M A (getMethod v (Str.ofString "get_msg") b) R E s)) : wpAny M A (getMethod v (Str.ofString "get_msg") b) R E s := h
theorem parkM_get_line {v : Value} {b : Sem Bool} (h : Park (wpAny M A (getMethod v (Str.ofString "get_line") b) R E s)) : wpAny M A (getMethod v (Str.ofString "get_line") b) R E s := h
theorem parkW35 {p : Pos} {as : List Value} {bs : List (Bool × Sem Value)} {ks : List (Option Str × Sem Value)} (h : Park (wpAny M A (callWith p (Value.ref 35) as bs ks) Q E s)) : wpAny M A (callWith p (Value.ref 35) as bs ks) Q E s := h
theorem parkW42 {p : Pos} {as : List Value} {bs : List (Bool × Sem Value)} {ks : List (Option Str × Sem Value)} (h : Park (wpAny M A (callWith p (Value.ref 42) as bs ks) Q E s)) : wpAny M A (callWith p (Value.ref 42) as bs ks) Q E s := h
theorem parkW49 {p : Pos} {as : List Value} {bs : List (Bool × Sem Value)} {ks : List (Option Str × Sem Value)} (h : Park (wpAny M A (callWith p (Value.ref 49) as bs ks) Q E s)) : wpAny M A (callWith p (Value.ref 49) as bs ks) Q E s := h
end
local macro_rules | `(tactic| walk_at "exec For Name Call cons nil") => `(tactic| walk_at "my park")
local macro_rules | `(tactic| walk_at "exec While") => `(tactic| walk_at "my park")
local macro_rules | `(tactic| walk_at "exec Try") => `(tactic| walk_at "my park")
local macro_rules | `(tactic| walk_at "exec Raise some none") => `(tactic| walk_at "my park")
local macro_rules | `(tactic| walk_at "call builtin:list.append") => `(tactic| walk_at "my park")
local macro_rules | `(tactic| ktr_room) => `(tactic| walk_at "my room")
local macro_rules | `(tactic| walk_at "call builtin:list.pop") => `(tactic| walk_at "my park")
local macro_rules | `(tactic| walk_at "KswEnd") => `(tactic| walk_at "my park")
local macro_rules | `(tactic| walk_at "getMethod ref") => `(tactic| refine parkM_get_lineno ?_)
local macro_rules | `(tactic| walk_at "getMethod ref") => `(tactic| refine parkM_get_msg ?_)
local macro_rules | `(tactic| walk_at "getMethod ref") => `(tactic| refine parkM_get_line ?_)
local macro_rules | `(tactic| walk_at "callWith ref") => `(tactic| refine parkW35 ?_)
local macro_rules | `(tactic| walk_at "callWith ref") => `(tactic| refine parkW42 ?_)
local macro_rules | `(tactic| walk_at "callWith ref") => `(tactic| refine parkW49 ?_)
local macro_rules | `(tactic| walk_at "call ref") => `(tactic| walk_at "my park")
local macro_rules | `(tactic| walk_at "pyIter ref") => `(tactic| walk_at "my park")
local macro_rules | `(tactic| walk_at "subscriptTail") => `(tactic| walk_at "my item")
local macro_rules | `(tactic| walk_at "call builtin:len") => `(tactic| walk_at "my park")
theorem MarksIn.get {led : List (Addr × Obj)} {vs : List Value} {ms : List MK} (H : MarksIn led vs ms) : ∀ (i : Nat) (q : MK), ms[i]? = some q → ∃ v, vs[i]? = some v ∧ MarkIn led v q.1 q.2.1 q.2.2.1 q.2.2.2 := by
  induction H with
  | nil => intro i q e; simp at e
  | cons h r ih =>
    intro i q e
    cases i with
    | zero => exact ⟨_, rfl, by simp at e; subst e; exact h⟩
    | succ i => obtain ⟨v, h1, h2⟩ := ih i q (by simpa using e); exact ⟨v, by simpa using h1, h2⟩
theorem MarksIn.length {led : List (Addr × Obj)} : ∀ {vs : List Value} {ms : List MK}, MarksIn led vs ms → vs.length = ms.length
  | _, _, .nil => rfl
  | _, _, .cons _ r => by simp [r.length]
inductive MarkBare (news : List (Addr × Obj)) : Value → Prop
  | mk {x d t1 : Addr} {k1 k2 k3 k4 k5 n' nt' : Int} {q1 q2 q3 q4 q5 r1 r2 r3 : Tok} {raw : Str} {bb : Bool} (hx : (x, instObj 117 d) ∈ news)
    (hd : (d, dictOf [⟨k1, .str (Str.ofString "raw") q1, .str raw r1⟩, ⟨k2, .str (Str.ofString "n") q2, .int n' r2⟩, ⟨k3, .str (Str.ofString "nt") q3, .int nt' r3⟩, ⟨k4, .str (Str.ofString "norm") q4, .ref t1⟩, ⟨k5, .str (Str.ofString "is_simple") q5, .bool bb⟩] 5) ∈ news) : MarkBare news (.ref x)
theorem MarkIn.bare {news : List (Addr × Obj)} {v : Value} {cnt : List Int} {b n nt : Int} (M : MarkIn news v cnt b n nt) : MarkBare news v := by
  cases M with
  | mk hx hd h1 h2 hc hlen hb hn hnt hcb => exact .mk hx hd
theorem marks_top {led led' : List (Addr × Obj)} {v v' : Value} {cnt cnt' : List Int} {b n nt b' n' nt' : Int} (M : MarkIn led v cnt b n nt) (M' : MarkIn led' v' cnt' b' n' nt') : (topV cnt b cnt' b' + 1).toNat ≤ 190 := by
  cases M
  cases M'
  simp only [topV, longV]
  omega
theorem ints_snoc {x : Int} {vs : List Value} {ns : List Int} (h : IntsAre vs (ns ++ [x])) : ∃ vs' t, vs = vs' ++ [.int x t] ∧ IntsAre vs' ns := by
  induction ns generalizing vs with
  | nil => cases h with | cons _ t r => cases r; exact ⟨[], t, rfl, .nil⟩
  | cons a ns ih => cases h with | cons _ t r => obtain ⟨vs', t', e, h⟩ := ih r; exact ⟨.int a t :: vs', t', by rw [e]; rfl, .cons a t h⟩
theorem MarkIn.lv0 {led : List (Addr × Obj)} {v : Value} {cnt : List Int} {b n nt ts : Int} (M : MarkIn led v cnt b n nt) (h : 1 ≤ ts) : 0 ≤ lvM ts (cnt, b, n, nt) := by
  cases M with
  | mk hx hd h1 h2 hc hlen hb hn hnt hcb => exact level_nonneg hb.1 hnt.1 h hcb
/-- the stack as the text holds it: its top at the end -/
noncomputable abbrev stI (st : List Nat) : List Int := (List.map (fun (z : Nat) => (z : Int)) st).reverse
theorem stI_cons (z : Nat) (r : List Nat) : stI (z :: r) = stI r ++ [(z : Int)] := by simp [stI]
structure NY where
  lh : Addr
  ls : Addr
  hvs : List Value
  eh : Nat
  svs : List Value
  es : Nat
  heads : List Int
  st : List Nat
structure PNan (tab : Int) (rows : List Str) (base : List (Addr × Obj)) (i : Nat) (c : NY) : Prop where
  off : c.lh ≠ c.ls ∧ ∀ p ∈ base, p.1 ≠ c.lh ∧ p.1 ≠ c.ls
  hds : IntsAre c.hvs c.heads
  sts : IntsAre c.svs (stI c.st)
  hn : c.heads.length = i + 1
  bot : ∃ pre, c.st = pre ++ [0]
  lt : ∀ z ∈ c.st, z ≤ i
  sl : c.st.length ≤ i + 1
  go : nanGo tab (fun j => wsOf (atS rows j)) (atS rows) (rows.length - 1 - i) (i + 1) c.heads c.st = nanGo tab (fun j => wsOf (atS rows j)) (atS rows) (rows.length - 1) 1 [0] [0]
theorem nan_in {tab : Int} {ms : Nat → MK} {row : Nat → Str} {k i t : Nat} {hs : List Int} {r : List Nat} (h : lvM tab (ms t) < lvM tab (ms i)) (ha : askM true (ms t) (ms i) = none) : nanGo tab ms row (k + 1) i hs (t :: r) = nanGo tab ms row k (i + 1) (hs ++ [(i : Int)]) (i :: t :: r) := by
  rw [nanGo]; simp only [if_pos h, ha]
theorem nan_ng {tab : Int} {ms : Nat → MK} {row : Nat → Str} {k i t : Nat} {hs : List Int} {r : List Nat} {wd : Str} (h : lvM tab (ms t) < lvM tab (ms i)) (ha : askM true (ms t) (ms i) = some wd) : nanGo tab ms row (k + 1) i hs (t :: r) = resD hs i (row i) wd := by
  rw [nanGo]; simp only [if_pos h, ha]
theorem nan_lost {tab : Int} {ms : Nat → MK} {row : Nat → Str} {k i t t' : Nat} {hs : List Int} {r r' : List Nat} (h : ¬ lvM tab (ms t) < lvM tab (ms i)) (hp : popF (fun z => lvM tab (ms z)) (lvM tab (ms i)) (t :: r) = t' :: r') (hl : lvM tab (ms t') ≠ lvM tab (ms i)) :
    nanGo tab ms row (k + 1) i hs (t :: r) = resD hs i (Str.ofString "") (Str.ofString "lost") := by
  rw [nanGo]; simp only [if_neg h, hp, if_pos hl]
theorem nan_same {tab : Int} {ms : Nat → MK} {row : Nat → Str} {k i t t' : Nat} {hs : List Int} {r r' : List Nat} (h : ¬ lvM tab (ms t) < lvM tab (ms i)) (hp : popF (fun z => lvM tab (ms z)) (lvM tab (ms i)) (t :: r) = t' :: r') (hl : lvM tab (ms t') = lvM tab (ms i)) (ha : askM false (ms t') (ms i) = none) :
    nanGo tab ms row (k + 1) i hs (t :: r) = nanGo tab ms row k (i + 1) (hs ++ [(t' : Int)]) (t' :: r') := by
  rw [nanGo]; simp only [if_neg h, hp, if_neg (fun q => q hl : ¬ lvM tab (ms t') ≠ lvM tab (ms i)), ha]
theorem nan_ne {tab : Int} {ms : Nat → MK} {row : Nat → Str} {k i t t' : Nat} {hs : List Int} {r r' : List Nat} {wd : Str} (h : ¬ lvM tab (ms t) < lvM tab (ms i)) (hp : popF (fun z => lvM tab (ms z)) (lvM tab (ms i)) (t :: r) = t' :: r') (hl : lvM tab (ms t') = lvM tab (ms i)) (ha : askM false (ms t') (ms i) = some wd) :
    nanGo tab ms row (k + 1) i hs (t :: r) = resD hs i (row i) wd := by
  rw [nanGo]; simp only [if_neg h, hp, if_neg (fun q => q hl : ¬ lvM tab (ms t') ≠ lvM tab (ms i)), ha]
set_option maxHeartbeats 20000000 in
theorem nanny_spec {w : World} {p : Program} {loose : List Str} {mean : ExcName → Option Value} {mg mb : Str → Option Value} {dp un : Nat} {gd : Option (List Code)} {cn : Str} {cs : Scope} {a : Addr} {ccd : Value} {cl : List (Str × Addr)} {A₀ : Around} {h₀ : Heap} {L : Addr} {m : Str → Option Value} {news : List (Addr × Obj)} {s : Shared} {Q E : Value → Shared → Prop} {ps : Array Value}
    (B : Below A₀ h₀ [] h₀) (F : Fr h₀ L s.heap m) (X : (A.hd.heap_39 w.params).In h₀) (N : News h₀ L s.heap news) (T : Top p loose mean mg mb h₀) (hk : cs.kind = .function) (hdp : dp + 9 < recursionLimit) (hun : un + 900 < cLine)
    (hP : (123, tabObj ps) ∈ news) (hps : FmtTab gpos ps) (C : CodeHd h₀ 127 123) (hG : AllBare s.gens)
    {lr lm : Addr} {rvs mvs : List Value} {er em : Nat} {rows : List Str} {tab : Int} {tt : Tok} (hlr : (lr, listOf rvs.toArray er) ∈ news) (hr : StrsAre rvs rows) (hlm : (lm, listOf mvs.toArray em) ∈ news) (hM : MarksIn news mvs (rows.map wsOf)) (hlen : 1 ≤ rows.length ∧ rows.length ≤ 7) (hrow0 : wsOf (atS rows 0) = bot) (hsz : ∀ x ∈ rows, x.cps.size ≤ 64) (htab : 1 ≤ tab ∧ tab ≤ 8)
    (hret : ∀ r led h' g' tk', Fr h₀ L h' m → News h₀ L h' led → (∀ p ∈ news, p.1 ≠ 123 → p ∈ led) → (∃ ps', FmtTab gpos ps' ∧ (123, tabObj ps') ∈ led) → AllBare g' → DatIn led r (nanGo tab (fun j => wsOf (atS rows j)) (atS rows) (rows.length - 1) 1 [0] [0]) → Q r { s with heap := h', gens := g', toks := tk' }) :
    wpAny (model PySem.Challenge.rw_sn0118_01.row.prog w) (ktrTop dp un gd cn cs L a ccd cl []) (call (.ref 168) [.ref lr, .ref lm, .int tab tt]) Q E s := by
  have hrl := hr.length
  have hml := hM.length
  rw [List.length_map] at hml
  refine wpAny_call ?_
  k_dflt (refine' code_defR ?k1 ?k2 ?k3 ?k4 ?k5 ?kA ?kF ?kK ?k6 ?k7 ?k8 ?k9 ?kB ?_ ?c2 ?c3 ?c4 ?c5; (case kA => exact rfl); (case kF => exact rfl); (case kK => assumption); (case k1 => k_asm); (case k2 => k_asm); (case k3 => k_asm); (case k4 => k_asm); (case k5 => k_asm); (case k6 => k_is); (case k7 => k_is); (case k8 => ktr_room); (case k9 => exact BindsTo.of_eq rfl); (case c5 => decide); (case kB => exact locs rfl); (case c2 => exact rfl); (case c3 => exact rfl); (case c4 => exact rfl))
  intro g L' h1 FG F' N' B' X' T'
  try dsimp only
  have hlen2 : Park (1 ≤ rows.length ∧ rows.length ≤ 7) := hlen
  clear hlen
  k_steps
  refine unpark ?_
  refine wpAny_Try_except ?_
  k_steps
  refine unpark ?_
  (rename Fr _ _ _ (fun y => _) => lF0)
  (rename News _ _ _ (_ :: _) => lN0)
  obtain ⟨ls, lh, tk1, tk2, N6, l6, l7, m6, F6⟩ : ∃ (ls lh : Addr) (tk1 tk2 : Tok), News _ _ _ ((ls, listOf [Value.int 0 tk1].toArray 0) :: (lh, listOf [Value.int 0 tk2].toArray 0) :: news) ∧ (lh < ls ∧ AllLt ls news) ∧ (∀ p ∈ news, p.1 < lh) ∧ ∃ m6, Fr _ _ _ (kstB m6 [(Str.ofString "heads", .ref lh), (Str.ofString "stack", .ref ls), (Str.ofString "rows", .ref lr), (Str.ofString "marks", .ref lm), (Str.ofString "size", .int tab tt)]) := ⟨_, _, _, _, lN0, by assumption, by assumption, fr_abs lF0 _ (by kst_all)⟩
  clear lF0 lN0
  dsimp only [kstB] at F6
  refine for_V F6 rfl rfl ?_
  k_steps
  (rename News _ _ _ (_ :: _) => lN)
  refine len_led lN (.tail _ (.tail _ hlr)) hrl (by have := park hlen2; omega) ?_
  (try dsimp only)
  (try k_fold)
  k_steps
  refine unpark ?_
  (rename Fr g _ _ _ => lF)
  (rename News g _ _ _ => lN)
  (rename IsRange _ _ _ _ _ _ _ _ => rgX)
  have hlen := park hlen2
  refine' kj_range (σ := NY) (a₀ := 1) (b₀ := (rows.length : Nat)) (n := rows.length - 1) (fun c => (c.lh, listOf c.hvs.toArray c.eh) :: (c.ls, listOf c.svs.toArray c.es) :: news) (fun c => [(Str.ofString "heads", .ref c.lh), (Str.ofString "stack", .ref c.ls), (Str.ofString "rows", .ref lr), (Str.ofString "marks", .ref lm), (Str.ofString "size", .int tab tt)]) [Str.ofString "here", Str.ofString "above"]
    (fun i c => PNan tab rows news i c) ⟨lh, ls, [.int 0 tk2], 0, [.int 0 tk1], 0, [0], [0]⟩ rfl rgX (by exact small_one (by omega) (by omega) (by omega) (by omega)) (by exact (rangeSize_nat _ _).trans (toNat_sub1 hlen.1)) ?kF ?kN (fun p hp => ?hnn) ?hk ?hp ?turn ?done
  case kF => exact lF
  case kN => exact lN
  case hnn =>
    rcases List.mem_cons.mp hp with rfl | hp
    · exact .tail _ (.head _)
    rcases List.mem_cons.mp hp with rfl | hp
    · exact .head _
    · exact .tail _ (.tail _ hp)
  case hk => kst_all
  case hp => exact ⟨⟨Nat.ne_of_lt l6.1, fun p hp => ⟨Nat.ne_of_lt (l7 p hp), Nat.ne_of_lt (kst_ltOf l6.2 p hp)⟩⟩, .cons _ _ .nil, .cons _ _ .nil, rfl, ⟨[], rfl⟩, fun z hz => by rw [List.mem_singleton.mp hz]; omega, Nat.le_refl _, rfl⟩
  case turn =>
    clear l6 l7
    rintro ⟨lh, ls, hvs, eh, svs, es, heads, st⟩ i k t mu h tk own hi hk hoff P2 F2 N2
    dsimp only [kstB, List.cons_append] at hoff F2 N2
    have ekk : k.toNat = i + 1 := by omega
    have hi1 : i + 1 < rows.length := by omega
    have hk6 : 1 ≤ k ∧ k ≤ 7 := by omega
    have hgo := P2.go
    dsimp only at hgo
    refine hideG fun gP gK => ?_
    obtain ⟨trw, hrw⟩ := hr.get (i + 1) (atS rows (i + 1)) (by show rows[i + 1]? = some (rows.getD (i + 1) (Str.ofString "")); rw [List.getD_eq_getElem?_getD, List.getElem?_eq_getElem hi1]; rfl)
    have hmget : ∀ j, j < rows.length → ∃ v, mvs[j]? = some v ∧ MarkIn news v (wsOf (atS rows j)).1 (wsOf (atS rows j)).2.1 (wsOf (atS rows j)).2.2.1 (wsOf (atS rows j)).2.2.2 := fun j hj => by
      refine hM.get j (wsOf (atS rows j)) ?_
      rw [List.getElem?_map, List.getElem?_eq_getElem hj]
      show some (wsOf rows[j]) = some (wsOf (rows.getD j (Str.ofString "")))
      rw [List.getD_eq_getElem?_getD, List.getElem?_eq_getElem hj]; rfl
    obtain ⟨vi, hvi, Mi⟩ := hmget (i + 1) hi1
    rw [← ekk] at hvi hrw
    obtain ⟨z0, r0, est⟩ : ∃ z0 r0, st = z0 :: r0 := by
      obtain ⟨pre, e⟩ := P2.bot
      dsimp only at e
      cases pre with
      | nil => exact ⟨_, _, e⟩
      | cons a b => exact ⟨_, _, e⟩
    subst est
    have hsts := P2.sts
    dsimp only at hsts
    rw [stI_cons] at hsts
    obtain ⟨svs', tz, esv, hsts'⟩ := ints_snoc hsts
    subst esv
    have hz0 : z0 ≤ i := P2.lt z0 (.head _)
    obtain ⟨vq, hvq, Mq⟩ := hmget z0 (by omega)
    have hvq2 : mvs[((z0 : Nat) : Int).toNat]? = some vq := by rw [Int.toNat_natCast]; exact hvq
    obtain ⟨rest, hrest⟩ : ∃ rest, rest = news ++ own := ⟨_, rfl⟩
    rw [← hrest] at N2
    have inR : ∀ p ∈ news, p ∈ rest := fun p hp => by rw [hrest]; exact List.mem_append.mpr (.inl hp)
    have inO : ∀ p ∈ own, p ∈ rest := fun p hp => by rw [hrest]; exact List.mem_append.mpr (.inr hp)
    have hoffR : ∀ p ∈ rest, p.1 ≠ lh ∧ p.1 ≠ ls := fun p hp => by
      rw [hrest] at hp
      rcases List.mem_append.mp hp with hp | hp
      · exact P2.off.2 p hp
      · exact ⟨hoff p hp _ (.head _), hoff p hp _ (.tail _ (.head _))⟩
    clear hrest
    have up2 : ∀ p ∈ news, p ∈ (lh, listOf hvs.toArray eh) :: (ls, listOf (svs' ++ [Value.int z0 tz]).toArray es) :: rest := fun p hp => .tail _ (.tail _ (inR p hp))
    have mlr := up2 _ hlr
    have mlm := up2 _ hlm
    generalize hqi : wsOf (atS rows (i + 1)) = qi at Mi
    generalize hqq : wsOf (atS rows z0) = qq at Mq
    obtain ⟨cnti, bi, ni, nti⟩ := qi
    obtain ⟨cntq, bq, nq, ntq⟩ := qq
    dsimp only at Mi Mq
    refine gK ?_
    clear gK gP
    have Mi0 := Mi
    have Mq0 := Mq
    have Mi1 := Mi.up up2
    have Mq1 := Mq.up up2
    have pgo := unpark hgo
    clear hgo
    have Mi2 := Mi1
    have Mq2 := Mq1
    cases Mi1.bare
    cases Mq1.bare
    have hk0 : 0 ≤ k := by omega
    have hk62 : k < 2 ^ 62 := by omega
    have htab2 : 1 ≤ tab ∧ tab ≤ 100 := by omega
    have ekN : k = ((i + 1 : Nat) : Int) := by omega
    have hsl := P2.sl
    have hsvl := hsts'.length
    have hhl := P2.hds.length
    have hhn := P2.hn
    simp only [List.length_reverse, List.length_map, List.length_cons] at hsl hsvl
    dsimp only at hhl hhn
    have hn1 : rows.length - 1 - i = (rows.length - 1 - (i + 1)) + 1 := sub_step hi1
    have hlr123 : lr ≠ 123 := news_one N hP hlr (fun q => by cases q)
    k_steps
    (refine unpark ?_; (k_here; k_dflt (refine' indent_spec ?k1q1 ?k2q1 ?k3q1 ?k4q1 ?k5q1 ?k6q1 ?k7q1 ?k8q1 ?k9q1 ?kaq1 ?_; (case k1q1 => k_asm); (case k2q1 => k_asm); (case k3q1 => k_asm); (case k4q1 => k_asm); (case k5q1 => k_asm); (case k6q1 => first | exact rfl | assumption); (case k7q1 => ktr_room); (case k8q1 => ktr_units); (case k9q1 => first | assumption | exact MarkIn.up (by assumption) (by kcf_all)); (case kaq1 => omega); (intro t9 h9 tk9 F9 N9; (try dsimp only); (try k_sweep); (try k_fold)))))
    k_steps
    (refine unpark ?_; (k_here; k_dflt (refine' indent_spec ?k1q2 ?k2q2 ?k3q2 ?k4q2 ?k5q2 ?k6q2 ?k7q2 ?k8q2 ?k9q2 ?kaq2 ?_; (case k1q2 => k_asm); (case k2q2 => k_asm); (case k3q2 => k_asm); (case k4q2 => k_asm); (case k5q2 => k_asm); (case k6q2 => first | exact rfl | assumption); (case k7q2 => ktr_room); (case k8q2 => ktr_units); (case k9q2 => first | assumption | exact MarkIn.up (by assumption) (by kcf_all)); (case kaq2 => omega); (intro t9 h9 tk9 F9 N9; (try dsimp only); (try k_sweep); (try k_fold)))))
    k_steps
    · -- the row opens a block
      refine unpark ?_
      have hdeep : lvM tab (cntq, bq, nq, ntq) < lvM tab (cnti, bi, ni, nti) := by assumption
      have hgo := park pgo
      clear pgo
      have hdeep2 : lvM tab ((fun j => wsOf (atS rows j)) z0) < lvM tab ((fun j => wsOf (atS rows j)) (i + 1)) := by
        show lvM tab (wsOf (atS rows z0)) < lvM tab (wsOf (atS rows (i + 1)))
        rw [hqq, hqi]; exact hdeep
      rw [hn1] at hgo
      k_dflt (refine' less_spec ?k1 ?k2 ?k3 ?k4 ?k5 ?k6 ?k7 ?k8 Mq2 Mi2 ?_; (case k1 => k_asm); (case k2 => k_asm); (case k3 => k_asm); (case k4 => k_asm); (case k5 => k_asm); (case k6 => first | exact rfl | assumption); (case k7 => ktr_room); (case k8 => ktr_units))
      intro h9 tk9 r9 e9 F9 N9
      (try dsimp only)
      (try k_fold)
      cases r9
      · have hask : askM true ((fun j => wsOf (atS rows j)) z0) ((fun j => wsOf (atS rows j)) (i + 1)) = some (ngWords cntq bq ntq cnti bi nti) := by
          show askM true (wsOf (atS rows z0)) (wsOf (atS rows (i + 1))) = _
          rw [hqq, hqi]; exact askV_ng e9 rfl
        rw [nan_ng hdeep2 hask] at hgo
        replace hgo := hgo.symm
        have hPC := up2 _ hP
        have mlrC := mlr
        have mlhC : (lh, listOf hvs.toArray eh) ∈ ((lh, listOf hvs.toArray eh) :: (ls, listOf (svs' ++ [Value.int z0 tz]).toArray es) :: rest) := .head _
        have upC := up2
        have hlh123 : lh ≠ 123 := news_one N9 hPC (.head _) (fun q => by cases q)
        have MI := Mi2
        have CG := C.keeps B'.stays
        k_steps
        refine unpark ?_
        refine exec_raise (P := fun h => (A.hd.heap_39 w.params).In h) rfl ?_ ⟨_, _, _, _, _, _, _, _, _, _, _, _, _, _, fun h X => X 52 _ (by k_is)⟩
        k_steps
        refine unpark ?_
        k_dflt (refine' nlwit_spec ?k1 ?k2 ?k3 ?k4 ?k5 ?k6 ?k7 ?k8 Mq2 MI ?_; (case k1 => k_asm); (case k2 => k_asm); (case k3 => k_asm); (case k4 => k_asm); (case k5 => k_asm); (case k6 => first | exact rfl | assumption); (case k7 => ktr_room); (case k8 => ktr_units))
        intro r9 led9 h9 tk9 nn9 e9 F9 N9 s9 D9
        (try dsimp only)
        (try k_fold)
        k_steps
        refine unpark ?_
        have hnn : nn9 ≤ 190 := by rw [e9]; exact marks_top Mq0 Mi0
        have hbd := nlW_bd (cnt := cntq) (b := bq) (nt := ntq) (cnt' := cnti) (b' := bi) (nt' := nti) hnn
        k_dflt (refine' format_spec (ps := ps) (led := led9) (news := offP 123 ((lh, listOf hvs.toArray eh) :: (ls, listOf (svs' ++ [Value.int z0 tz]).toArray es) :: rest)) ?k1 ?k2 ?k3 ?k4 ?k5 ?k6 ?k7 ?k8 (fun p hp => s9 p (offP_sub p hp)) offP_ne (s9 _ hPC) hps CG ?kg D9 hbd.1 hbd.2 ?_; (case kg => exact hG); (case k1 => k_asm); (case k2 => k_asm); (case k3 => k_asm); (case k4 => k_asm); (case k5 => k_asm); (case k6 => first | exact rfl | assumption); (case k7 => ktr_room); (case k8 => ktr_units))
        intro t5 h5 g5 tk5 ps5 hps5 hG5 F5 N5
        (try dsimp only)
        (try k_fold)
        k_steps
        (with_reducible refine PySem.SB.add ?_ ?hsz)
        (case hsz => (have := wordsV_len hbd.1 hbd.2); (rw [sizeLine_eq]); (have e8 : (Str.ofString "indent not greater e.g. ").length ≤ 100 := by decide); omega)
        intro t6 tk6
        (try dsimp only)
        (try k_fold)
        have mlrO : (lr, listOf rvs.toArray er) ∈ (123, tabObj ps5) :: offP 123 ((lh, listOf hvs.toArray eh) :: (ls, listOf (svs' ++ [Value.int z0 tz]).toArray es) :: rest) := .tail _ (offP_in mlrC hlr123)
        k_steps
        refine unpark ?_
        k_dflt (refine' nag_make ?k1 ?k2 ?k3 ?k4 ?k5 ?k6 ?k7 ?k8 rfl rfl rfl ?_; (case k1 => k_asm); (case k2 => k_asm); (case k3 => k_asm); (case k4 => k_asm); (case k5 => k_asm); (case k6 => first | exact rfl | assumption); (case k7 => ktr_room); (case k8 => ktr_units))
        intro h7 tk7 e7 t7 dx7 oD7 hD7 n1 n2 F7 N7
        (try dsimp only)
        (try k_fold)
        refine ⟨e7, _, _, _, _, _, _, rfl, X'.keeps F7.keep, (N7 _ (.head _)).1, ?_⟩
        refine (show wpAny (model PySem.Challenge.rw_sn0118_01.row.prog w) _ (noteFrame (.ref e7) _) _ _ _ from ?_)
        refine note_first B' rfl rfl rfl F7 N7 (fun p hp => by
          rcases List.mem_cons.mp hp with rfl | hp
          · exact n1
          · exact (n2 p hp).1) rfl ?_
        intro g8 h8 T8 tb8 ts8 z1 sl no B8 F8 N8 u1 u2 u3 u4
        refine flight_to F8 N8 u1 u2 rfl u3 u4 ?_
        intro h9' tb9 ts9 F9' N9' v1 v2
        have X10 := X.keeps B8.stays
        have T10 := T.keeps B8.stays
        refine hideG fun gP gK => ?_
        obtain ⟨mN, NC, m1, m2, m3, m4, _, _, _⟩ := nag_is X10
        obtain ⟨⟨of1, hf1, hc1⟩, ⟨of2, hf2, hc2⟩, ⟨of3, hf3, hc3⟩⟩ := fn_get X10
        refine gK ?_
        clear gK gP
        refine handle_nag F9' N9' u1 u2 rfl v1 v2 X10 (topRead_of T10) (by k_is) NC ?_ rfl rfl rfl (by decide)
        intro h11 tk11 tb11 F11 N11
        k_steps
        refine unpark ?_
        (rename Fr g8 _ _ _ => lF11)
        (rename News g8 _ _ _ => lN11)
        refine' nag_method ?kF ?kN NC m2 hf1 hc1 lk_glineno (.head _) (.tail _ (.tail _ (.head _))) n1 hD7 nagA_none.1 ?_
        case kF => exact lF11
        case kN => exact lN11
        (try dsimp only)
        (try k_fold)
        k_steps
        refine unpark ?_
        k_dflt (refine' callWith_K0 ?kX kp_get.1 ?_)
        case kX => exact X10.keeps lF11.keep
        (try dsimp only)
        k_dflt (refine' getlineno_spec ?k1 ?k2 ?k3 ?k4 ?k5 ?k6 ?k7 ?k8 (.head _) (.tail _ (.tail _ (.head _))) n1 hD7 rfl ?_; (case k1 => k_asm); (case k2 => k_asm); (case k3 => k_asm); (case k4 => k_asm); (case k5 => k_asm); (case k6 => first | exact rfl | assumption); (case k7 => ktr_room); (case k8 => ktr_units))
        intro h12 tk12 F12 N12
        (try dsimp only)
        (try k_fold)
        k_steps
        refine unpark ?_
        refine' nag_method ?kF ?kN NC m4 hf3 hc3 lk_gline (.head _) (.tail _ (.tail _ (.head _))) n1 hD7 nagA_none.2.2 ?_
        case kF => exact F12
        case kN => exact N12
        (try dsimp only)
        (try k_fold)
        k_steps
        refine unpark ?_
        k_dflt (refine' callWith_K0 ?kX kp_get.2.2 ?_)
        case kX => exact X10.keeps F12.keep
        (try dsimp only)
        k_dflt (refine' getline_spec ?k1 ?k2 ?k3 ?k4 ?k5 ?k6 ?k7 ?k8 (.head _) (.tail _ (.tail _ (.head _))) n1 hD7 rfl ?_; (case k1 => k_asm); (case k2 => k_asm); (case k3 => k_asm); (case k4 => k_asm); (case k5 => k_asm); (case k6 => first | exact rfl | assumption); (case k7 => ktr_room); (case k8 => ktr_units))
        intro h13 tk13 F13 N13
        (try dsimp only)
        (try k_fold)
        k_steps
        refine unpark ?_
        refine' nag_method ?kF ?kN NC m3 hf2 hc2 lk_gmsg (.head _) (.tail _ (.tail _ (.head _))) n1 hD7 nagA_none.2.1 ?_
        case kF => exact F13
        case kN => exact N13
        (try dsimp only)
        (try k_fold)
        k_steps
        refine unpark ?_
        k_dflt (refine' callWith_K0 ?kX kp_get.2.1 ?_)
        case kX => exact X10.keeps F13.keep
        (try dsimp only)
        k_dflt (refine' getmsg_spec ?k1 ?k2 ?k3 ?k4 ?k5 ?k6 ?k7 ?k8 (.head _) (.tail _ (.tail _ (.head _))) n1 hD7 rfl ?_; (case k1 => k_asm); (case k2 => k_asm); (case k3 => k_asm); (case k4 => k_asm); (case k5 => k_asm); (case k6 => first | exact rfl | assumption); (case k7 => ktr_room); (case k8 => ktr_units))
        intro h14 tk14 F14 N14
        (try dsimp only)
        (try k_fold)
        k_steps
        refine unpark ?_
        (rename Fr g8 _ _ _ => lF15)
        (rename News g8 _ _ _ => lN15)
        have bb := back_base F FG B8 sl lF15 lN15
        refine hret _ _ _ _ _ bb.1 bb.2 (fun p hp hne => .tail _ (.tail _ (.tail _ (.tail _ (.tail _ (offP_in (upC p hp) hne)))))) ⟨_, hps5, .tail _ (.tail _ (.tail _ (.tail _ (.head _))))⟩ hG5 ?_
        rw [hgo]
        exact .tuple (.head _) (.cons (.list (.tail _ (.tail _ (.tail _ (.tail _ (.tail _ (offP_in mlhC hlh123)))))) (intsDat P2.hds)) (.cons (ekN ▸ .int _ _) (.cons (by rw [← ekk]; exact .str _ _) (.cons (by subst e9; exact DatIn.str (ngWords cntq bq ntq cnti bi nti) t6) .nil))))
      · have hask : askM true ((fun j => wsOf (atS rows j)) z0) ((fun j => wsOf (atS rows j)) (i + 1)) = none := by
          show askM true (wsOf (atS rows z0)) (wsOf (atS rows (i + 1))) = _
          rw [hqq, hqi]; exact askV_less e9 rfl
        rw [nan_in hdeep2 hask] at hgo
        k_steps
        refine unpark ?_
        (rename Fr g _ _ _ => lF6)
        (rename News g _ _ _ => lN6)
        refine append_end lF6 lN6 (.tail P2.off.1 (.head fun p hp => (hoffR p hp).2)) (by simp only [List.length_append, List.length_cons, List.length_nil]; omega) ?_
        intro h10 F10 N10
        (try dsimp only)
        (try k_fold)
        have mls2 : (ls, listOf (svs' ++ [Value.int z0 tz] ++ [Value.int k t]).toArray (es + 1)) ∈ (lh, listOf hvs.toArray eh) :: (ls, listOf (svs' ++ [Value.int z0 tz] ++ [Value.int k t]).toArray (es + 1)) :: rest := .tail _ (.head _)
        k_steps
        refine unpark ?_
        (rename Fr g _ _ _ => lF7)
        (rename News g _ _ _ => lN7)
        refine append_end lF7 lN7 (.head fun p hp => ?_) (by omega) ?_
        · rcases List.mem_cons.mp hp with rfl | hp
          · exact Ne.symm P2.off.1
          · exact (hoffR p hp).1
        intro h11 F11 N11
        (try dsimp only)
        (try k_fold)
        k_steps
        rw [← ekN] at hgo
        obtain ⟨tx, N13⟩ : ∃ tx, News g L' h11 ((lh, listOf (hvs ++ [Value.int k tx]).toArray (eh + 1)) :: (ls, listOf (svs' ++ [Value.int z0 tz] ++ [Value.int k t]).toArray (es + 1)) :: rest) := ⟨_, N11⟩
        refine kj_end2 (NY.mk lh ls (hvs ++ [.int k tx]) (eh + 1) (svs' ++ [Value.int z0 tz] ++ [.int k t]) (es + 1) (heads ++ [k]) ((i + 1) :: z0 :: r0)) F11 N13 (by kst_all) ⟨P2.off, IntsAre.append P2.hds (.cons k tx .nil), ?_, ?_, ?_, ?_, ?_, hgo⟩ ?_ ?_ hoff (by kst_same)
        · dsimp only
          rw [stI_cons, stI_cons]
          exact IntsAre.append (IntsAre.append hsts' (.cons _ _ .nil)) (by rw [ekN]; exact .cons _ _ .nil)
        · simp only [List.length_append, List.length_cons, List.length_nil]; omega
        · obtain ⟨pre, e⟩ := P2.bot
          exact ⟨(i + 1) :: pre, by dsimp only at e ⊢; rw [e]; rfl⟩
        · intro z hz
          rcases List.mem_cons.mp hz with rfl | hz
          · exact Nat.le_refl _
          · have := P2.lt z hz; omega
        · simp only [List.length_cons]; omega
        · intro p hp
          rcases List.mem_cons.mp hp with rfl | hp
          · exact .head _
          rcases List.mem_cons.mp hp with rfl | hp
          · exact .tail _ (.head _)
          · exact .tail _ (.tail _ (inR p hp))
        · exact fun p hp => .tail _ (.tail _ (inO p hp))
    · -- blocks close
      refine unpark ?_
      have hq0 : ¬ lvM tab (cntq, bq, nq, ntq) < lvM tab (cnti, bi, ni, nti) := by assumption
      have hq02 : ¬ lvM tab ((fun j => wsOf (atS rows j)) z0) < lvM tab ((fun j => wsOf (atS rows j)) (i + 1)) := by
        show ¬ lvM tab (wsOf (atS rows z0)) < lvM tab (wsOf (atS rows (i + 1)))
        rw [hqq, hqi]; exact hq0
      have hnn : 0 ≤ lvM tab (cnti, bi, ni, nti) := Mi0.lv0 htab.1
      have hlvi : lvM tab ((fun j => wsOf (atS rows j)) (i + 1)) = lvM tab (cnti, bi, ni, nti) := by
        show lvM tab (wsOf (atS rows (i + 1))) = _
        rw [hqi]
      (rename Fr g _ _ _ => lF5)
      (rename News g _ _ _ => lN5)
      clear mlr mlm up2
      refine ksw_while (fun c : List Value × List Nat × Nat => (lh, listOf hvs.toArray eh) :: (ls, listOf c.1.toArray c.2.2) :: rest) (fun _ => []) (fun _ => True) []
        (fun c => IntsAre c.1 (stI c.2.1) ∧ popF (fun z => lvM tab (wsOf (atS rows z))) (lvM tab (cnti, bi, ni, nti)) c.2.1 = popF (fun z => lvM tab (wsOf (atS rows z))) (lvM tab (cnti, bi, ni, nti)) (z0 :: r0) ∧ c.2.1.length ≤ i + 1 ∧ (∃ pre, c.2.1 = pre ++ [0]) ∧ ∀ z ∈ c.2.1, z ≤ i) (fun c => c.1.length) (svs' ++ [Value.int z0 tz], z0 :: r0, es) lF5 lN5 trivial (fun p hp => nomatch hp) ⟨P2.sts, rfl, by simp only [List.length_cons]; omega, P2.bot, P2.lt⟩ ?_
      rintro ⟨cv, cst, ce⟩ u h7 tk7 _ hX F7 N7
      refine hideG fun gP gK => ?_
      obtain ⟨hS, hpop, hcl, hbt, hzt⟩ := hX
      dsimp only [kstB] at hS hpop hcl hbt hzt F7 N7
      simp only [List.contains_nil, Bool.false_eq_true, if_false] at F7
      obtain ⟨z2, r2, est⟩ : ∃ z2 r2, cst = z2 :: r2 := by
        obtain ⟨pre, e⟩ := hbt
        cases pre with
        | nil => exact ⟨_, _, e⟩
        | cons a b => exact ⟨_, _, e⟩
      subst est
      rw [stI_cons] at hS
      obtain ⟨cv', tz2, ecv, hS'⟩ := ints_snoc hS
      subst ecv
      have hz2 : z2 ≤ i := hzt z2 (.head _)
      obtain ⟨v2, hv2, M2⟩ := hmget z2 (by omega)
      have hv22 : mvs[((z2 : Nat) : Int).toNat]? = some v2 := by rw [Int.toNat_natCast]; exact hv2
      have up2 : ∀ p ∈ news, p ∈ (lh, listOf hvs.toArray eh) :: (ls, listOf (cv' ++ [Value.int z2 tz2]).toArray ce) :: rest := fun p hp => .tail _ (.tail _ (inR p hp))
      have mlr := up2 _ hlr
      have mlm := up2 _ hlm
      have mls : (ls, listOf (cv' ++ [Value.int z2 tz2]).toArray ce) ∈ (lh, listOf hvs.toArray eh) :: (ls, listOf (cv' ++ [Value.int z2 tz2]).toArray ce) :: rest := .tail _ (.head _)
      generalize hq2 : wsOf (atS rows z2) = q2 at M2
      obtain ⟨cnt2, b2, n2, nt2⟩ := q2
      dsimp only at M2
      refine gK ?_
      clear gK gP
      have M2a := M2.up up2
      have M2b := M2a
      have MI := Mi0.up up2
      have MIc := MI
      cases M2a.bare
      cases MIc.bare
      have hcvl := hS'.length
      simp only [List.length_reverse, List.length_map, List.length_cons] at hcvl hcl
      have hlv2 : lvM tab ((fun j => wsOf (atS rows j)) z2) = lvM tab (cnt2, b2, n2, nt2) := by
        show lvM tab (wsOf (atS rows z2)) = _
        rw [hq2]
      k_steps
      (refine unpark ?_; (k_here; k_dflt (refine' indent_spec ?k1q3 ?k2q3 ?k3q3 ?k4q3 ?k5q3 ?k6q3 ?k7q3 ?k8q3 ?k9q3 ?kaq3 ?_; (case k1q3 => k_asm); (case k2q3 => k_asm); (case k3q3 => k_asm); (case k4q3 => k_asm); (case k5q3 => k_asm); (case k6q3 => first | exact rfl | assumption); (case k7q3 => ktr_room); (case k8q3 => ktr_units); (case k9q3 => first | assumption | exact MarkIn.up (by assumption) (by kcf_all)); (case kaq3 => omega); (intro t9 h9 tk9 F9 N9; (try dsimp only); (try k_sweep); (try k_fold)))))
      k_steps
      rotate_left
      (refine unpark ?_; (k_here; k_dflt (refine' indent_spec ?k1q4 ?k2q4 ?k3q4 ?k4q4 ?k5q4 ?k6q4 ?k7q4 ?k8q4 ?k9q4 ?kaq4 ?_; (case k1q4 => k_asm); (case k2q4 => k_asm); (case k3q4 => k_asm); (case k4q4 => k_asm); (case k5q4 => k_asm); (case k6q4 => first | exact rfl | assumption); (case k7q4 => ktr_room); (case k8q4 => ktr_units); (case k9q4 => first | assumption | exact MarkIn.up (by assumption) (by kcf_all)); (case kaq4 => omega); (intro t9 h9 tk9 F9 N9; (try dsimp only); (try k_sweep); (try k_fold)))))
      k_steps
      rotate_right
      · refine unpark ?_
        (rename Fr g _ _ _ => lF8)
        (rename News g _ _ _ => lN8)
        refine pop_end lF8 lN8 (.tail P2.off.1 (.head fun p hp => (hoffR p hp).2)) (by omega) ?_
        intro h9 F9 N9
        (try dsimp only)
        (try k_fold)
        k_steps
        refine unpark ?_
        have hgt : lvM tab (cnt2, b2, n2, nt2) > lvM tab (cnti, bi, ni, nti) := by assumption
        have hgt2 : lvM tab (wsOf (atS rows z2)) > lvM tab (cnti, bi, ni, nti) := by rw [hq2]; exact hgt
        (rename Fr g _ _ _ => lF10)
        (rename News g _ _ _ => lN10)
        refine ksw_end (cv', r2, ce + 1) lF10 lN10 (fun p hp => hp) trivial (fun p hp => nomatch hp) (fun z _ _ => rfl) ⟨hS', (popF_pop (f := fun z => lvM tab (wsOf (atS rows z))) hgt2).symm.trans hpop, ?_, ?_, fun z hz => hzt z (.tail _ hz)⟩ ?_
        · show r2.length ≤ i + 1; omega
        · obtain ⟨pre, e⟩ := hbt
          cases pre with
          | nil =>
            exfalso
            have e2 : z2 = 0 := (List.cons.inj e).1
            rw [e2] at hq2
            rw [hrow0] at hq2
            have h0 : lvM tab (cnt2, b2, n2, nt2) = 0 := by rw [← hq2]; exact lv_bot htab.1
            omega
          | cons a b => exact ⟨b, (List.cons.inj e).2⟩
        · simp only [List.length_append, List.length_cons, List.length_nil]; omega
      · -- the row is lost
        refine unpark ?_
        (rename Fr g _ _ _ => lF8)
        (rename News g _ _ _ => lN8)
        have hgo := park pgo
        clear pgo
        have hnl : ¬ lvM tab (cnt2, b2, n2, nt2) > lvM tab (cnti, bi, ni, nti) := by assumption
        have hel : lvM tab (cnt2, b2, n2, nt2) ≠ lvM tab (cnti, bi, ni, nti) := by assumption
        have hpf : popF (fun z => lvM tab ((fun j => wsOf (atS rows j)) z)) (lvM tab ((fun j => wsOf (atS rows j)) (i + 1))) (z0 :: r0) = z2 :: r2 := by
          rw [hlvi]
          exact hpop.symm.trans (popF_stay (f := fun z => lvM tab (wsOf (atS rows z))) (by show ¬ lvM tab (wsOf (atS rows z2)) > _; rw [hq2]; exact hnl))
        rw [hn1, nan_lost hq02 hpf (by rw [hlv2, hlvi]; exact hel)] at hgo
        have bb := back_base F FG B' (fun b o e => ⟨o.slots, e⟩) lF8 lN8
        refine hret _ _ _ _ _ bb.1 bb.2 (fun p hp hne => .tail _ (.tail _ (.tail _ (inR p hp)))) ⟨_, hps, .tail _ (.tail _ (.tail _ (inR _ hP)))⟩ hG ?_
        rw [← hgo]
        exact .tuple (.head _) (.cons (.list (.tail _ (.head _)) (intsDat P2.hds)) (.cons (ekN ▸ .int _ _) (.cons (.str _ _) (.cons (.str _ _) .nil))))
      · -- a row of the same column
        refine unpark ?_
        have hgo := park pgo
        clear pgo
        have hnl : ¬ lvM tab (cnt2, b2, n2, nt2) > lvM tab (cnti, bi, ni, nti) := by assumption
        have hel : lvM tab (cnt2, b2, n2, nt2) = lvM tab (cnti, bi, ni, nti) := by assumption
        have hpf : popF (fun z => lvM tab ((fun j => wsOf (atS rows j)) z)) (lvM tab ((fun j => wsOf (atS rows j)) (i + 1))) (z0 :: r0) = z2 :: r2 := by
          rw [hlvi]
          exact hpop.symm.trans (popF_stay (f := fun z => lvM tab (wsOf (atS rows z))) (by show ¬ lvM tab (wsOf (atS rows z2)) > _; rw [hq2]; exact hnl))
        have hel2 : lvM tab ((fun j => wsOf (atS rows j)) z2) = lvM tab ((fun j => wsOf (atS rows j)) (i + 1)) := by rw [hlv2, hlvi]; exact hel
        rw [hn1] at hgo
        k_dflt (refine' equal_spec ?k1 ?k2 ?k3 ?k4 ?k5 ?k6 ?k7 ?k8 M2b MI ?_; (case k1 => k_asm); (case k2 => k_asm); (case k3 => k_asm); (case k4 => k_asm); (case k5 => k_asm); (case k6 => first | exact rfl | assumption); (case k7 => ktr_room); (case k8 => ktr_units))
        intro t9 h9 tk9 F9 N9
        (try dsimp only)
        (try k_fold)
        generalize hr9 : decide (cnt2 = cnti ∧ b2 = bi) = r9
        cases r9
        · have hask : askM false ((fun j => wsOf (atS rows j)) z2) ((fun j => wsOf (atS rows j)) (i + 1)) = some (neWords cnt2 b2 nt2 cnti bi nti) := by
            show askM false (wsOf (atS rows z2)) (wsOf (atS rows (i + 1))) = _
            rw [hq2, hqi]; exact askV_ne hr9
          rw [nan_ne hq02 hpf hel2 hask] at hgo
          replace hgo := hgo.symm
          have hPC := up2 _ hP
          have mlrC := mlr
          have mlhC : (lh, listOf hvs.toArray eh) ∈ ((lh, listOf hvs.toArray eh) :: (ls, listOf (cv' ++ [Value.int z2 tz2]).toArray ce) :: rest) := .head _
          have upC := up2
          have hlh123 : lh ≠ 123 := news_one N9 hPC (.head _) (fun q => by cases q)
          have CG := C.keeps B'.stays
          k_steps
          refine unpark ?_
          refine exec_raise (P := fun h => (A.hd.heap_39 w.params).In h) rfl ?_ ⟨_, _, _, _, _, _, _, _, _, _, _, _, _, _, fun h X => X 52 _ (by k_is)⟩
          k_steps
          refine unpark ?_
          k_dflt (refine' newit_spec ?k1 ?k2 ?k3 ?k4 ?k5 ?k6 ?k7 ?k8 M2b MI ?_; (case k1 => k_asm); (case k2 => k_asm); (case k3 => k_asm); (case k4 => k_asm); (case k5 => k_asm); (case k6 => first | exact rfl | assumption); (case k7 => ktr_room); (case k8 => ktr_units))
          intro r9 led9 h9 tk9 nn9 e9 F9 N9 s9 D9
          (try dsimp only)
          (try k_fold)
          k_steps
          refine unpark ?_
          have hnn : nn9 ≤ 190 := by rw [e9]; exact marks_top M2b MI
          have hbd := neW_bd (cnt := cnt2) (b := b2) (nt := nt2) (cnt' := cnti) (b' := bi) (nt' := nti) hnn
          k_dflt (refine' format_spec (ps := ps) (led := led9) (news := offP 123 ((lh, listOf hvs.toArray eh) :: (ls, listOf (cv' ++ [Value.int z2 tz2]).toArray ce) :: rest)) ?k1 ?k2 ?k3 ?k4 ?k5 ?k6 ?k7 ?k8 (fun p hp => s9 p (offP_sub p hp)) offP_ne (s9 _ hPC) hps CG ?kg D9 hbd.1 hbd.2 ?_; (case kg => exact hG); (case k1 => k_asm); (case k2 => k_asm); (case k3 => k_asm); (case k4 => k_asm); (case k5 => k_asm); (case k6 => first | exact rfl | assumption); (case k7 => ktr_room); (case k8 => ktr_units))
          intro t5 h5 g5 tk5 ps5 hps5 hG5 F5 N5
          (try dsimp only)
          (try k_fold)
          k_steps
          (with_reducible refine PySem.SB.add ?_ ?hsz)
          (case hsz => (have := wordsV_len hbd.1 hbd.2); (rw [sizeLine_eq]); (have e8 : (Str.ofString "indent not equal e.g. ").length ≤ 100 := by decide); omega)
          intro t6 tk6
          (try dsimp only)
          (try k_fold)
          have mlrO : (lr, listOf rvs.toArray er) ∈ (123, tabObj ps5) :: offP 123 ((lh, listOf hvs.toArray eh) :: (ls, listOf (cv' ++ [Value.int z2 tz2]).toArray ce) :: rest) := .tail _ (offP_in mlrC hlr123)
          k_steps
          refine unpark ?_
          k_dflt (refine' nag_make ?k1 ?k2 ?k3 ?k4 ?k5 ?k6 ?k7 ?k8 rfl rfl rfl ?_; (case k1 => k_asm); (case k2 => k_asm); (case k3 => k_asm); (case k4 => k_asm); (case k5 => k_asm); (case k6 => first | exact rfl | assumption); (case k7 => ktr_room); (case k8 => ktr_units))
          intro h7 tk7 e7 t7 dx7 oD7 hD7 n1 n2 F7 N7
          (try dsimp only)
          (try k_fold)
          refine ⟨e7, _, _, _, _, _, _, rfl, X'.keeps F7.keep, (N7 _ (.head _)).1, ?_⟩
          refine (show wpAny (model PySem.Challenge.rw_sn0118_01.row.prog w) _ (noteFrame (.ref e7) _) _ _ _ from ?_)
          refine note_first B' rfl rfl rfl F7 N7 (fun p hp => by
            rcases List.mem_cons.mp hp with rfl | hp
            · exact n1
            · exact (n2 p hp).1) rfl ?_
          intro g8 h8 T8 tb8 ts8 z1 sl no B8 F8 N8 u1 u2 u3 u4
          refine flight_to F8 N8 u1 u2 rfl u3 u4 ?_
          intro h9' tb9 ts9 F9' N9' v1 v2
          have X10 := X.keeps B8.stays
          have T10 := T.keeps B8.stays
          refine hideG fun gP gK => ?_
          obtain ⟨mN, NC, m1, m2, m3, m4, _, _, _⟩ := nag_is X10
          obtain ⟨⟨of1, hf1, hc1⟩, ⟨of2, hf2, hc2⟩, ⟨of3, hf3, hc3⟩⟩ := fn_get X10
          refine gK ?_
          clear gK gP
          refine handle_nag F9' N9' u1 u2 rfl v1 v2 X10 (topRead_of T10) (by k_is) NC ?_ rfl rfl rfl (by decide)
          intro h11 tk11 tb11 F11 N11
          k_steps
          refine unpark ?_
          (rename Fr g8 _ _ _ => lF11)
          (rename News g8 _ _ _ => lN11)
          refine' nag_method ?kF ?kN NC m2 hf1 hc1 lk_glineno (.head _) (.tail _ (.tail _ (.head _))) n1 hD7 nagA_none.1 ?_
          case kF => exact lF11
          case kN => exact lN11
          (try dsimp only)
          (try k_fold)
          k_steps
          refine unpark ?_
          k_dflt (refine' callWith_K0 ?kX kp_get.1 ?_)
          case kX => exact X10.keeps lF11.keep
          (try dsimp only)
          k_dflt (refine' getlineno_spec ?k1 ?k2 ?k3 ?k4 ?k5 ?k6 ?k7 ?k8 (.head _) (.tail _ (.tail _ (.head _))) n1 hD7 rfl ?_; (case k1 => k_asm); (case k2 => k_asm); (case k3 => k_asm); (case k4 => k_asm); (case k5 => k_asm); (case k6 => first | exact rfl | assumption); (case k7 => ktr_room); (case k8 => ktr_units))
          intro h12 tk12 F12 N12
          (try dsimp only)
          (try k_fold)
          k_steps
          refine unpark ?_
          refine' nag_method ?kF ?kN NC m4 hf3 hc3 lk_gline (.head _) (.tail _ (.tail _ (.head _))) n1 hD7 nagA_none.2.2 ?_
          case kF => exact F12
          case kN => exact N12
          (try dsimp only)
          (try k_fold)
          k_steps
          refine unpark ?_
          k_dflt (refine' callWith_K0 ?kX kp_get.2.2 ?_)
          case kX => exact X10.keeps F12.keep
          (try dsimp only)
          k_dflt (refine' getline_spec ?k1 ?k2 ?k3 ?k4 ?k5 ?k6 ?k7 ?k8 (.head _) (.tail _ (.tail _ (.head _))) n1 hD7 rfl ?_; (case k1 => k_asm); (case k2 => k_asm); (case k3 => k_asm); (case k4 => k_asm); (case k5 => k_asm); (case k6 => first | exact rfl | assumption); (case k7 => ktr_room); (case k8 => ktr_units))
          intro h13 tk13 F13 N13
          (try dsimp only)
          (try k_fold)
          k_steps
          refine unpark ?_
          refine' nag_method ?kF ?kN NC m3 hf2 hc2 lk_gmsg (.head _) (.tail _ (.tail _ (.head _))) n1 hD7 nagA_none.2.1 ?_
          case kF => exact F13
          case kN => exact N13
          (try dsimp only)
          (try k_fold)
          k_steps
          refine unpark ?_
          k_dflt (refine' callWith_K0 ?kX kp_get.2.1 ?_)
          case kX => exact X10.keeps F13.keep
          (try dsimp only)
          k_dflt (refine' getmsg_spec ?k1 ?k2 ?k3 ?k4 ?k5 ?k6 ?k7 ?k8 (.head _) (.tail _ (.tail _ (.head _))) n1 hD7 rfl ?_; (case k1 => k_asm); (case k2 => k_asm); (case k3 => k_asm); (case k4 => k_asm); (case k5 => k_asm); (case k6 => first | exact rfl | assumption); (case k7 => ktr_room); (case k8 => ktr_units))
          intro h14 tk14 F14 N14
          (try dsimp only)
          (try k_fold)
          k_steps
          refine unpark ?_
          (rename Fr g8 _ _ _ => lF15)
          (rename News g8 _ _ _ => lN15)
          have bb := back_base F FG B8 sl lF15 lN15
          refine hret _ _ _ _ _ bb.1 bb.2 (fun p hp hne => .tail _ (.tail _ (.tail _ (.tail _ (.tail _ (offP_in (upC p hp) hne)))))) ⟨_, hps5, .tail _ (.tail _ (.tail _ (.tail _ (.head _))))⟩ hG5 ?_
          rw [hgo]
          exact .tuple (.head _) (.cons (.list (.tail _ (.tail _ (.tail _ (.tail _ (.tail _ (offP_in mlhC hlh123)))))) (intsDat P2.hds)) (.cons (ekN ▸ .int _ _) (.cons (by rw [← ekk]; exact .str _ _) (.cons (by subst e9; exact DatIn.str (neWords cnt2 b2 nt2 cnti bi nti) t6) .nil))))
        · have hask : askM false ((fun j => wsOf (atS rows j)) z2) ((fun j => wsOf (atS rows j)) (i + 1)) = none := by
            show askM false (wsOf (atS rows z2)) (wsOf (atS rows (i + 1))) = _
            rw [hq2, hqi]; exact askV_eq hr9
          rw [nan_same hq02 hpf hel2 hask] at hgo
          k_steps
          refine unpark ?_
          (rename Fr g _ _ _ => lF11)
          (rename News g _ _ _ => lN11)
          refine append_end lF11 lN11 (.head fun p hp => ?_) (by omega) ?_
          · rcases List.mem_cons.mp hp with rfl | hp
            · exact Ne.symm P2.off.1
            · exact (hoffR p hp).1
          intro h12 F12 N12
          (try dsimp only)
          (try k_fold)
          k_steps
          obtain ⟨tx, N13⟩ : ∃ tx, News g L' h12 ((lh, listOf (hvs ++ [Value.int ((z2 : Nat) : Int) tx]).toArray (eh + 1)) :: (ls, listOf (cv' ++ [Value.int z2 tz2]).toArray ce) :: rest) := ⟨_, N12⟩
          refine kj_end2 (NY.mk lh ls (hvs ++ [.int ((z2 : Nat) : Int) tx]) (eh + 1) (cv' ++ [Value.int z2 tz2]) ce (heads ++ [((z2 : Nat) : Int)]) (z2 :: r2)) F12 N13 (by kst_all) ⟨P2.off, IntsAre.append P2.hds (.cons _ tx .nil), ?_, ?_, hbt, ?_, ?_, hgo⟩ ?_ ?_ hoff (by kst_same)
          · dsimp only
            rw [stI_cons]
            exact hS
          · simp only [List.length_append, List.length_cons, List.length_nil]; omega
          · intro z hz
            have := hzt z hz; omega
          · simp only [List.length_cons]; omega
          · intro p hp
            rcases List.mem_cons.mp hp with rfl | hp
            · exact .head _
            rcases List.mem_cons.mp hp with rfl | hp
            · exact .tail _ (.head _)
            · exact .tail _ (.tail _ (inR p hp))
          · exact fun p hp => .tail _ (.tail _ (inO p hp))
  case done =>
    clear l6 l7
    rintro ⟨lh, ls, hvs, eh, svs, es, heads, st⟩ mu h tk P2 F2 N2
    dsimp only [kstB, List.cons_append] at F2 N2
    have hgo := P2.go
    dsimp only at hgo
    rw [show rows.length - 1 - (rows.length - 1) = 0 by omega, show rows.length - 1 + 1 = rows.length by omega] at hgo
    have pgo := unpark hgo
    clear hgo
    have mlr : (lr, listOf rvs.toArray er) ∈ (lh, listOf hvs.toArray eh) :: (ls, listOf svs.toArray es) :: news := .tail _ (.tail _ hlr)
    (try dsimp only)
    k_steps
    (refine unpark ?_; (k_here; k_dflt (refine' len_led ?k1q5 ?k2q5 ?k3q5 ?k4q5 ?_; (case k1q5 => k_asm); (case k2q5 => first | with_reducible assumption | k_mem); (case k3q5 => assumption); (case k4q5 => omega); k_whole)))
    k_steps
    refine unpark ?_
    (rename Fr g _ _ _ => lF8)
    (rename News g _ _ _ => lN8)
    have bb := back_base F FG B' (fun b o e => ⟨o.slots, e⟩) lF8 lN8
    refine hret _ _ _ _ _ bb.1 bb.2 (fun p hp hne => .tail _ (.tail _ (.tail _ hp))) ⟨_, hps, .tail _ (.tail _ (.tail _ hP))⟩ hG ?_
    have hgo := park pgo
    rw [← hgo]
    exact .tuple (.head _) (.cons (.list (.tail _ (.head _)) (intsDat P2.hds)) (.cons (.int _ _) (.cons (.str _ _) (.cons (.str _ _) .nil))))
end
section
theorem fill11 : PySem.Challenge.rw_sn0118_01 = PySem.Challenge.rw_sn0118_01 ∧ A.hd.heap_39 = A.hd.heap_39 := by k_fill; exact ⟨rfl, rfl⟩
local macro_rules | `(tactic| walk_at "exec For Tuple Call") => `(tactic| walk_at "my park")
local macro_rules | `(tactic| walk_at "exec For Name") => `(tactic| walk_at "my park")
local macro_rules | `(tactic| walk_at "call builtin:list.append") => `(tactic| walk_at "my park")
local macro_rules | `(tactic| walk_at "subscriptTail") => `(tactic| walk_at "my park")
local macro_rules | `(tactic| walk_at "exec If") => `(tactic| refine parkIfO ?_)
local macro_rules | `(tactic| walk_at "setItem ref int") => `(tactic| walk_at "my park")
local macro_rules | `(tactic| walk_at "call builtin:len") => `(tactic| walk_at "my park")
local macro_rules | `(tactic| walk_at "call builtin:str.split") => `(tactic| walk_at "my park")
local macro_rules | `(tactic| walk_at "call builtin:str.join") => `(tactic| walk_at "my park")
local macro_rules | `(tactic| walk_at "binaryOp Add ref ref") => `(tactic| walk_at "my park")
local macro_rules | `(tactic| walk_at "pyIter ref") => `(tactic| walk_at "my park")
noncomputable def EnumJ (ld : Addr) (m0 : Str → Option Value) (news : List (Addr × Obj)) (i : Nat) (m' : Str → Option Value) (nx : List (Addr × Obj)) : Prop :=
  ∃ vs ns e, nx = (ld, listOf vs.toArray e) :: news ∧ IntsAre vs ns ∧ ns.length = min i 5 ∧ ∀ z, z ≠ Str.ofString "place" → z ≠ Str.ofString "x" → m' z = m0 z
theorem pick5 {k : Int} {t1 t2 t3 t4 t5 : Tok} (h : 0 ≤ k) (h' : k < 5) : ∃ x t, [Value.str (Str.ofString " ") t1, .str (Str.ofString "\t") t2, .str (Str.ofString "  ") t3, .str (Str.ofString " \t") t4, .str (Str.ofString "\t ") t5][k.toNat]? = some (.str x t) ∧ x.cps.size ≤ 2 ∧ BT x := by
  have e : k = 0 ∨ k = 1 ∨ k = 2 ∨ k = 3 ∨ k = 4 := by omega
  rcases e with rfl | rfl | rfl | rfl | rfl
  all_goals exact ⟨_, _, rfl, by decide, by unfold BT; decide⟩
theorem pick4 {k : Int} {t1 t2 t3 t4 : Tok} (h : 0 ≤ k) (h' : k < 4) : ∃ x t, [Value.str (Str.ofString "") t1, .str (Str.ofString "x\t") t2, .str (Str.ofString "\x0c ") t3, .str (Str.ofString "\u00a0\t") t4][k.toNat]? = some (.str x t) ∧ x.cps.size ≤ 2 ∧ (∀ c, x.cps[0]? = some c → c ≠ 32 ∧ c ≠ 9) ∧ PyData.strOk x = true := by
  have e : k = 0 ∨ k = 1 ∨ k = 2 ∨ k = 3 := by omega
  rcases e with rfl | rfl | rfl | rfl
  · exact ⟨_, _, rfl, by decide, (fun c q => by cases q), by decide +kernel⟩
  · exact ⟨_, _, rfl, by decide, (fun c q => by cases q; decide), by decide +kernel⟩
  · exact ⟨_, _, rfl, by decide, (fun c q => by cases q; decide), by decide +kernel⟩
  · exact ⟨_, _, rfl, by decide, (fun c q => by cases q; decide), by decide +kernel⟩
inductive JLead (g : Heap) (L : Addr) (m : Str → Option Value) (led : List (Addr × Obj)) (s : Shared) : Flow → Shared → Prop
  | mk {h : Heap} {tk : Nat} {m' : Str → Option Value} {x : Str} {t : Tok} (F : Fr g L h m') (e1 : m' (Str.ofString "lead") = some (.str x t)) (k : ∀ z, z ≠ Str.ofString "lead" → z ≠ Str.ofString "runs" → z ≠ Str.ofString "ahead" → m' z = m z) (N : News g L h led) (b : BT x) (z : x.cps.size ≤ 100) : JLead g L m led s .next { s with heap := h, toks := tk }
theorem join_lead {M : Model} {A : Around} {E : Value → Shared → Prop} {s : Shared} {stmt : Stmt} {env : Env} {Q : Flow → Shared → Prop} {g : Heap} {L : Addr} {m : Str → Option Value} {led : List (Addr × Obj)} (_F : Fr g L s.heap m) (_N : News g L s.heap led)
    (h1 : wpAny M A (exec stmt env) (JLead g L m led s) E s) (h2 : ∀ h tk m' x t, Fr g L h m' → m' (Str.ofString "lead") = some (.str x t) → (∀ z, z ≠ Str.ofString "lead" → z ≠ Str.ofString "runs" → z ≠ Str.ofString "ahead" → m' z = m z) → News g L h led → BT x → x.cps.size ≤ 100 → Q .next { s with heap := h, toks := tk }) :
    wpAny M A (exec stmt env) Q E s := wpAny_mono h1 (fun f s' zz => by obtain ⟨F, e1, e2, N, b, z⟩ := zz; exact h2 _ _ _ _ _ F e1 e2 N b z) fun _ _ x => x
theorem strs_snoc {x : Str} {vs : List Value} {ns : List Str} (h : StrsAre vs (ns ++ [x])) : ∃ vs' t, vs = vs' ++ [.str x t] ∧ StrsAre vs' ns := by
  induction ns generalizing vs with
  | nil => cases h with | cons _ t r => cases r; exact ⟨[], t, rfl, .nil⟩
  | cons a ns ih => cases h with | cons _ t r => obtain ⟨vs', t', e, h⟩ := ih r; exact ⟨.str a t :: vs', t', by rw [e]; rfl, .cons a t h⟩
structure PS where
  ll : Addr
  lr : Addr
  lvs : List Value
  el : Nat
  rvs : List Value
  er : Nat
  leads : List Str
  rows : List Str
structure PPage (base : List (Addr × Obj)) (i : Nat) (c : PS) : Prop where
  off : c.ll ≠ c.lr ∧ ∀ p ∈ base, p.1 ≠ c.ll ∧ p.1 ≠ c.lr
  lds : StrsAre c.lvs c.leads
  rws : StrsAre c.rvs c.rows
  n : c.leads.length = i + 1
  bt : ∀ x ∈ c.leads, BT x ∧ x.cps.size ≤ 4
  sz : ∀ x ∈ c.rows, x.cps.size ≤ 64 ∧ PyData.strOk x = true
  ws : c.rows.map wsOf = c.leads.map wsOf
  hd : c.leads.head? = some (Str.ofString "") ∧ c.rows.head? = some (Str.ofString "")
set_option maxHeartbeats 1500000 in
theorem page_spec {w : World} {p : Program} {loose : List Str} {mean : ExcName → Option Value} {mg mb : Str → Option Value} {dp un : Nat} {gd : Option (List Code)} {cn : Str} {cs : Scope} {a : Addr} {ccd : Value} {cl : List (Str × Addr)} {outer : List Env} {A₀ : Around} {base h₀ : Heap} {L : Addr} {m : Str → Option Value} {news : List (Addr × Obj)} {s : Shared} {Q E : Value → Shared → Prop} (B : Below A₀ base outer h₀) (F : Fr h₀ L s.heap m) (X : (A.hd.heap_39 w.params).In h₀) (N : News h₀ L s.heap news) (T : Top p loose mean mg mb h₀) (hk : cs.kind = .function) (hdp : dp + 1 < recursionLimit) (hun : un + 200 < cLine) {ls : Addr} {svs : List Value} {script : List Int} (hl : h₀.IsList ls svs.toArray) (hi : IntsAre svs script) (hlen : script.length ≤ 63)
    (hret : ∀ r (leads rows : List Str) ll lr lvs el rvs er led' h' tk', 1 ≤ leads.length ∧ leads.length ≤ 6 → rows.map wsOf = leads.map wsOf → leads.head? = some (Str.ofString "") ∧ rows.head? = some (Str.ofString "") → (∀ x ∈ leads, x ∈ leadS) → (∀ x ∈ rows, x.cps.size ≤ 64 ∧ PyData.strOk x = true) → Fr h₀ L h' m → News h₀ L h' led' → (∀ p ∈ news, p ∈ led') →
      (r, tupO [.ref ll, .ref lr] 0) ∈ led' → (ll, listOf lvs.toArray el) ∈ led' → StrsAre lvs leads → (lr, listOf rvs.toArray er) ∈ led' → StrsAre rvs rows → Q (.ref r) { s with heap := h', toks := tk' }) :
    wpAny (model PySem.Challenge.rw_sn0118_01.row.prog w) (ktrTop dp un gd cn cs L a ccd cl outer) (call (.ref 135) [.ref ls]) Q E s := by
  refine wpAny_call ?_
  k_dflt cell_enter
  k_steps
  refine unpark ?_
  rename_i ld _ lld _ _ _
  (rename Fr _ _ _ (fun y => _) => lF)
  (rename Fr h₀ _ _ _ => lG)
  (rename News _ _ _ _ => lN)
  have hlg := hl.at fun o e => lG.keep ls o e
  refine For_pair3F lF rfl rfl rfl rfl ?_ (fun _ => rfl)
  k_steps
  refine unpark ?_
  (rename PairSrcL _ _ _ _ _ _ _ _ _ _ _ _ => S)
  (rename News _ _ _ _ => lN2)
  refine S _ rfl _ _ _ _ (EnumJ _ _ news) ⟨[], [], 0, rfl, .nil, rfl, fun _ _ _ => rfl⟩ ?turn ?done
  case turn =>
    rintro i x t v m1 news1 s1 own ⟨h1, tk1, rfl⟩ hx hk ⟨vs, ns, e, rfl, hI, hns, hm1⟩ hmap hoff F1 N1
    obtain ⟨tv, rfl⟩ := ItemKind.int_is hk
    have hi1 := (List.getElem?_eq_some_iff.mp hx).1
    have hd := hm1 (Str.ofString "drawn") (by decide) (by decide)
    dsimp only at hd
    simp (config := { decide := true }) only [if_true, if_false] at hd
    rw [← kst1 hd] at F1
    dsimp only [kstB] at F1
    have hvl := hI.length
    have hlt := ‹∀ p ∈ news, p.1 < _›
    have hoffD : ∀ p ∈ own ++ news, p.1 ≠ _ := fun p hp => (List.mem_append.mp hp).elim (fun hq => hoff p hq _ (.head _)) (fun hq e => absurd e (Nat.ne_of_lt (hlt p hq)))
    have N1' := news_to N1
    clear N1
    k_steps
    · refine unpark ?_
      (rename Fr _ _ _ (fun y => _) => lF3)
      (rename News _ _ _ (_ :: (own ++ _)) => lN3)
      refine append_end lF3 lN3 (.head hoffD) (by omega) ?_
      intro h6 F6 N6
      (try dsimp only)
      (try k_fold)
      k_steps
      refine LoopStep2.intro F6 (news_fro N6) rfl ⟨_, ns ++ [x], _, rfl, IntsAre.append hI (.cons x tv .nil), ?_, fun z h1 h2 => ?_⟩
      · simp only [List.length_append, List.length_cons, List.length_nil]; omega
      · refine Eq.trans ?_ (hm1 z h1 h2)
        dsimp only
        rw [if_neg h2, if_neg h1]
        split
        · rename_i hz
          rw [hz]; exact hd.symm
        · rfl
    · refine unpark ?_
      (rename Fr _ _ _ (fun y => _) => lF3)
      (rename News _ _ _ (_ :: (own ++ _)) => lN3)
      have hb6 := Int.fmod_nonneg_of_pos (i : Int) (by omega : (0 : Int) < 5)
      have hc6 := Int.fmod_lt_of_pos (i : Int) (by omega : (0 : Int) < 5)
      refine set_at lF3 lN3 hb6 (by omega) (by omega) (.head hoffD) ?_
      intro h6 F6 N6
      (try dsimp only)
      (try k_fold)
      k_steps
      refine LoopStep2.intro F6 (news_fro N6) rfl ⟨_, _, _, rfl, ints_set hI _, ?_, fun z h1 h2 => ?_⟩
      · rw [List.length_set]; omega
      · refine Eq.trans ?_ (hm1 z h1 h2)
        dsimp only
        rw [if_neg h2, if_neg h1]
        split
        · rename_i hz
          rw [hz]; exact hd.symm
        · rfl
  case done =>
    rintro h2 tk2 m2 news2 F2 N2 - ⟨vs, ns, e, rfl, hI, hns, hm2⟩
    have hd := hm2 (Str.ofString "drawn") (by decide) (by decide)
    dsimp only at hd
    simp (config := { decide := true }) only [if_true, if_false] at hd
    rw [← kst1 hd] at F2
    dsimp only [kstB] at F2
    have hvl := hI.length
    have hI0 : IntsAre vs ns ∧ True := ⟨hI, trivial⟩
    k_steps
    refine unpark ?_
    (rename Fr _ _ _ (fun y => _) => lF5)
    (rename News _ _ _ _ => lN5)
    refine for_V lF5 rfl rfl ?_
    k_steps
    refine unpark ?_
    obtain ⟨lr, ll, tkr, tkl, m5, F5, r1, r2, lN5', l4, l3⟩ := (⟨_, _, _, _, _, lF5, rfl, rfl, lN5, by assumption, by assumption⟩ : ∃ (lr ll : Addr) (tkr tkl : Tok) (m5 : Str → Option Value), Fr _ _ _ m5 ∧ m5 (Str.ofString "rows") = some (.ref lr) ∧ m5 (Str.ofString "leads") = some (.ref ll) ∧
      News _ _ _ ((lr, listOf [Value.str (Str.ofString "") tkr].toArray 0) :: (ll, listOf [Value.str (Str.ofString "") tkl].toArray 0) :: (ld, listOf vs.toArray e) :: news) ∧
      (ll < lr ∧ ld < lr ∧ AllLt lr news) ∧ (ld < ll ∧ AllLt ll news))
    clear lF5 lN5
    have lN5 := lN5'
    clear lN5'
    refine kj_list (σ := PS) (vs := vs) (nn := e) (fun c => (c.lr, listOf c.rvs.toArray c.er) :: (c.ll, listOf c.lvs.toArray c.el) :: (ld, listOf vs.toArray e) :: news) (fun c => [(Str.ofString "rows", .ref c.lr), (Str.ofString "leads", .ref c.ll)]) [Str.ofString "rest", Str.ofString "lead", Str.ofString "runs", Str.ofString "ahead"]
      (fun i c => PPage ((ld, listOf vs.toArray e) :: news) i c) ⟨ll, lr, [.str (Str.ofString "") tkl], 0, [.str (Str.ofString "") tkr], 0, [Str.ofString ""], [Str.ofString ""]⟩ rfl (fun c => ?hl) F5 lN5 ?hn ?hk ?hp ?turn2 ?done2
    case hl => exact .tail _ (.tail _ (.head _))
    case hn => exact fun p hp => hp
    case hk =>
      intro q hq
      simp only [List.mem_cons, List.not_mem_nil, or_false] at hq
      rcases hq with rfl | rfl
      · exact r1
      · exact r2
    case hp =>
      refine ⟨⟨Nat.ne_of_lt l4.1, fun p hp => ?_⟩, .cons _ _ .nil, .cons _ _ .nil, rfl, fun x hx => ?_, fun x hx => ?_, rfl, rfl, rfl⟩
      · rcases List.mem_cons.mp hp with rfl | hp
        · exact ⟨Nat.ne_of_lt l3.1, Nat.ne_of_lt l4.2.1⟩
        · exact ⟨Nat.ne_of_lt (kst_ltOf l3.2 p hp), Nat.ne_of_lt (kst_ltOf l4.2.2 p hp)⟩
      · rw [List.mem_singleton.mp hx]
        exact ⟨bt_nil, by decide⟩
      · rw [List.mem_singleton.mp hx]
        decide +kernel
    case turn2 =>
      rintro ⟨ll, lr, lvs, el, rvs, er, leads, rows⟩ i v mu h tk own hv hoff P2 F2 N2
      dsimp only [kstB, List.cons_append] at hoff F2 N2
      obtain ⟨x, tx, rfl, hx⟩ := IntsAre.at hI0.1 i v hv
      have hi2 := (List.getElem?_eq_some_iff.mp hv).1
      have hn := P2.n
      dsimp only at hn
      obtain ⟨leads', x0, rfl⟩ := snoc_of (l := leads) (fun q => by rw [q] at hn; cases hn)
      have hls := P2.lds
      dsimp only at hls
      obtain ⟨lvs', t0, rfl, hls'⟩ := strs_snoc hls
      have hll := hls'.length
      have hlvl := hls.length
      rw [List.length_append, List.length_cons, List.length_nil] at hn
      have hbt := P2.bt
      dsimp only at hbt
      have hx0 := hbt x0 (by simp)
      have hoff2 := P2.off
      dsimp only at hoff2
      have hall : ∀ p ∈ (ld, listOf vs.toArray e) :: news ++ own, p.1 ≠ ll ∧ p.1 ≠ lr := fun p hp => by
        rcases List.mem_append.mp hp with hp | hp
        · exact hoff2.2 p hp
        · exact ⟨hoff p hp _ (.tail _ (.head _)), hoff p hp _ (.head _)⟩
      have hr5 := Int.fmod_nonneg_of_pos ((x.fmod 1440).fdiv 4) (by omega : (0 : Int) < 5)
      have hr5' := Int.fmod_lt_of_pos ((x.fmod 1440).fdiv 4) (by omega : (0 : Int) < 5)
      have hr3 := Int.fmod_nonneg_of_pos ((x.fmod 1440).fdiv 4) (by omega : (0 : Int) < 3)
      have hr3' := Int.fmod_lt_of_pos ((x.fmod 1440).fdiv 4) (by omega : (0 : Int) < 3)
      have hlen9 : (lvs' ++ [Value.str x0 t0]).length = i + 1 := by rw [List.length_append, hll]; exact hn
      have hget : ∀ k : Int, 0 ≤ k → k < ((i + 1 : Nat) : Int) → ∃ y t, (lvs' ++ [Value.str x0 t0])[k.toNat]? = some (.str y t) ∧ BT y ∧ y.cps.size ≤ 4 := fun k h1 h2 => by
        have h3 : k.toNat < (leads' ++ [x0]).length := by simp only [List.length_append, List.length_cons, List.length_nil]; omega
        obtain ⟨t, e⟩ := hls.get k.toNat ((leads' ++ [x0])[k.toNat]) (List.getElem?_eq_getElem h3)
        exact ⟨_, t, e, hbt _ (List.getElem_mem h3)⟩
      clear hlvl
      have hrn := Int.fmod_nonneg_of_pos ((x.fmod 1440).fdiv 4) (by omega : (0 : Int) < ((i + 1 : Nat) : Int))
      have hrn' := Int.fmod_lt_of_pos ((x.fmod 1440).fdiv 4) (by omega : (0 : Int) < ((i + 1 : Nat) : Int))
      obtain ⟨yk, tyk, hyk, hykb, hykz⟩ := hget _ hrn hrn'
      have hykl : yk.length ≤ 4 := hykz
      have hx0l : x0.length ≤ 4 := hx0.2
      have hr2 := Int.fmod_nonneg_of_pos (((x.fmod 1440).fdiv 4).fdiv 3) (by omega : (0 : Int) < 2)
      have hr2' := Int.fmod_lt_of_pos (((x.fmod 1440).fdiv 4).fdiv 3) (by omega : (0 : Int) < 2)
      have hr6 := Int.fmod_nonneg_of_pos (((x.fmod 1440).fdiv 4).fdiv 6) (by omega : (0 : Int) < 3)
      have hr6' := Int.fmod_lt_of_pos (((x.fmod 1440).fdiv 4).fdiv 6) (by omega : (0 : Int) < 3)
      have hr18 := Int.fmod_nonneg_of_pos (((x.fmod 1440).fdiv 4).fdiv 18) (by omega : (0 : Int) < 4)
      have hr18' := Int.fmod_lt_of_pos (((x.fmod 1440).fdiv 4).fdiv 18) (by omega : (0 : Int) < 4)
      have hb9 : BT (Str.ofString "\t") := by unfold BT; decide
      k_steps
      refine unpark ?_
      (rename Fr _ _ _ (fun y => _) => lF6)
      (rename News _ _ _ _ => lN6)
      refine' join_lead ?kF ?kN ?h1 ?h2
      case kF => exact lF6
      case kN => exact lN6
      case h1 =>
        refine wpAny_If ?_
        k_steps
        · (refine unpark ?_; (k_here; k_dflt (refine' item_end ?k1q1 ?k2q1 ?k3q1 ?_; (case k1q1 => k_asm); (case k2q1 => first | with_reducible assumption | k_mem); (case k3q1 => omega); k_whole)))
          k_steps
          refine unpark ?_
          (rename Fr _ _ _ (fun y => _) => lF7)
          (rename News _ _ _ (_ :: _) => lN7)
          obtain ⟨tl, ttl, htl, htl2, htl3⟩ := (fun t1 t2 t3 t4 t5 => pick5 (t1 := t1) (t2 := t2) (t3 := t3) (t4 := t4) (t5 := t5) hr5 hr5') _ _ _ _ _
          have htll : tl.length ≤ 2 := htl2
          refine item_tup lN7 (.head _) hr5 (by simp) htl ?_
          (try dsimp only)
          (try k_fold)
          k_steps
          (rename Fr _ _ _ (fun y => _) => lF9)
          (rename News _ _ _ _ => lN9)
          (try dsimp only)
          refine JLead.mk lF9 (if_pos rfl) ?_ ?_ ?_ ?_
          · intro z n1 n2 n3
            simp only [n1, n2, n3, if_false]
          · exact fun p hp => lN9 p (by repeat (first | exact hp | refine List.Mem.tail _ ?_))
          · exact bt_app hx0.1 htl3
          · rw [app_size]; have := hx0.2; omega
        refine unpark ?_
        refine wpAny_If ?_
        k_steps
        · (refine unpark ?_; (k_here; k_dflt (refine' len_led ?k1q2 ?k2q2 ?k3q2 ?k4q2 ?_; (case k1q2 => k_asm); (case k2q2 => first | with_reducible assumption | k_mem); (case k3q2 => assumption); (case k4q2 => omega); k_whole)))
          k_steps
          (refine unpark ?_; (k_here; k_dflt (refine' item_at ?k1q3 ?k2q3 ?k3q3 ?k4q3 ?k5q3 ?_; (case k1q3 => k_asm); (case k2q3 => first | with_reducible assumption | k_mem); (case k5q3 => first | with_reducible assumption | assumption); (case k3q3 => omega); (case k4q3 => omega); k_whole)))
          k_steps
          (refine unpark ?_; (k_here; k_dflt (refine' split_bt ?Fq4 ?Nq4 ?yq4 ?xq4 ?zq4 ?_; (case Fq4 => k_asm); (case Nq4 => k_asm); (case yq4 => decide); (case xq4 => assumption); (case zq4 => assumption)); intro D' h' k' zs' F' N' l1 H'; (try k_lt l1); (try k_sweep)))
          k_steps
          (refine unpark ?_; (k_here; (with_reducible show wpAny _ _ (subscriptTail _ (PySem.Expr.Slice _ _ none _) (Value.ref _) (Value.ref _)) _ _ _); k_dflt (refine' slice_bt ?Fq5 ?Nq5 ?lq5 ?pq5 ?qq5 ?Hq5 ?hnq5 ?_ ?sq5 ?tq5; (case Fq5 => k_asm); (case Nq5 => k_asm); (case lq5 => kmk_list); (case pq5 => kmk_part); (case qq5 => kmk_part); (case Hq5 => assumption); (case hnq5 => decide); (case sq5 => with_unfolding_all rfl); (case tq5 => kmk_pure)); intro D' h' zs' F' N' l1 H'; (try k_lt l1); (try k_sweep)))
          k_steps
          (refine unpark ?_; (k_here; (with_reducible show wpAny _ _ (subscriptTail _ (PySem.Expr.Slice _ _ none _) (Value.ref _) (Value.ref _)) _ _ _); k_dflt (refine' slice_bt ?Fq6 ?Nq6 ?lq6 ?pq6 ?qq6 ?Hq6 ?hnq6 ?_ ?sq6 ?tq6; (case Fq6 => k_asm); (case Nq6 => k_asm); (case lq6 => kmk_list); (case pq6 => kmk_part); (case qq6 => kmk_part); (case Hq6 => assumption); (case hnq6 => decide); (case sq6 => with_unfolding_all rfl); (case tq6 => kmk_pure)); intro D' h' zs' F' N' l1 H'; (try k_lt l1); (try k_sweep)))
          k_steps
          (refine unpark ?_; (k_here; (with_reducible show wpAny _ _ (subscriptTail _ (PySem.Expr.Slice _ _ none _) (Value.ref _) (Value.ref _)) _ _ _); k_dflt (refine' slice_bt ?Fq7 ?Nq7 ?lq7 ?pq7 ?qq7 ?Hq7 ?hnq7 ?_ ?sq7 ?tq7; (case Fq7 => k_asm); (case Nq7 => k_asm); (case lq7 => kmk_list); (case pq7 => kmk_part); (case qq7 => kmk_part); (case Hq7 => assumption); (case hnq7 => decide); (case sq7 => with_unfolding_all rfl); (case tq7 => kmk_pure)); intro D' h' zs' F' N' l1 H'; (try k_lt l1); (try k_sweep)))
          k_steps
          (refine unpark ?_; (k_here; k_dflt (refine' add_bt ?Fq8 ?Nq8 ?aq8 ?bq8 ?Hq8 ?Kq8 ?zq8 ?_; (case Fq8 => k_asm); (case Nq8 => k_asm); (case aq8 => kmk_list); (case bq8 => kmk_list); (case Hq8 => assumption); (case Kq8 => assumption); (case zq8 => decide)); intro D' h' zs' F' N' l1 H'; (try k_lt l1); (try k_sweep)))
          k_steps
          (refine unpark ?_; (k_here; (with_reducible show wpAny _ _ (subscriptTail _ (PySem.Expr.Slice _ _ none _) (Value.ref _) (Value.ref _)) _ _ _); k_dflt (refine' slice_bt ?Fq9 ?Nq9 ?lq9 ?pq9 ?qq9 ?Hq9 ?hnq9 ?_ ?sq9 ?tq9; (case Fq9 => k_asm); (case Nq9 => k_asm); (case lq9 => kmk_list); (case pq9 => kmk_part); (case qq9 => kmk_part); (case Hq9 => assumption); (case hnq9 => decide); (case sq9 => with_unfolding_all rfl); (case tq9 => kmk_pure)); intro D' h' zs' F' N' l1 H'; (try k_lt l1); (try k_sweep)))
          k_steps
          (refine unpark ?_; (k_here; k_dflt (refine' add_bt ?Fq10 ?Nq10 ?aq10 ?bq10 ?Hq10 ?Kq10 ?zq10 ?_; (case Fq10 => k_asm); (case Nq10 => k_asm); (case aq10 => kmk_list); (case bq10 => kmk_list); (case Hq10 => assumption); (case Kq10 => assumption); (case zq10 => decide)); intro D' h' zs' F' N' l1 H'; (try k_lt l1); (try k_sweep)))
          k_steps
          (refine unpark ?_; (k_here; k_dflt (refine' join_bt ?lq11 ?Hq11 ?xq11 ?zq11 ?_; (case lq11 => kmk_list); (case Hq11 => assumption); (case xq11 => assumption); (case zq11 => decide)); intro z' t' k' H' Z'; (try k_sweep)))
          k_steps
          (rename Fr _ _ _ (fun y => _) => lF9)
          (rename News _ _ _ _ => lN9)
          (try dsimp only)
          refine JLead.mk lF9 (if_pos rfl) ?_ ?_ ?_ ?_
          · intro z n1 n2 n3
            simp only [n1, n2, n3, if_false]
          · exact fun p hp => lN9 p (by repeat (first | exact hp | refine List.Mem.tail _ ?_))
          · assumption
          · assumption
        refine unpark ?_
        refine wpAny_If ?_
        k_steps
        · (rename Fr _ _ _ (fun y => _) => lF9)
          (rename News _ _ _ _ => lN9)
          (try dsimp only)
          refine JLead.mk lF9 (if_pos rfl) ?_ ?_ ?_ ?_
          · intro z n1 n2 n3
            simp only [n1, n2, n3, if_false]
          · exact fun p hp => lN9 p (by repeat (first | exact hp | refine List.Mem.tail _ ?_))
          · exact bt_app (bt_app (bt_mul (by decide) (.inl rfl) _) (bt_mul (by decide) (.inr rfl) _)) (bt_mul (by decide) (.inl rfl) _)
          · have m1 := len_mul_one (y := Str.ofString " ") (c := 32) (n := ((x.fmod 1440).fdiv 4).fmod 3) (N := 3) (by decide) (by omega)
            have m2 := len_mul_one (y := Str.ofString "\t") (c := 9) (n := (((x.fmod 1440).fdiv 4).fdiv 3).fmod 2) (N := 3) (by decide) (by omega)
            have m3 := len_mul_one (y := Str.ofString " ") (c := 32) (n := (((x.fmod 1440).fdiv 4).fdiv 6).fmod 3) (N := 3) (by decide) (by omega)
            rw [app_size, app_size]
            unfold Str.length at m1 m2 m3
            omega
        · (refine unpark ?_; (k_here; k_dflt (refine' len_led ?k1q12 ?k2q12 ?k3q12 ?k4q12 ?_; (case k1q12 => k_asm); (case k2q12 => first | with_reducible assumption | k_mem); (case k3q12 => assumption); (case k4q12 => omega); k_whole)))
          k_steps
          (refine unpark ?_; (k_here; k_dflt (refine' item_at ?k1q13 ?k2q13 ?k3q13 ?k4q13 ?k5q13 ?_; (case k1q13 => k_asm); (case k2q13 => first | with_reducible assumption | k_mem); (case k5q13 => first | with_reducible assumption | assumption); (case k3q13 => omega); (case k4q13 => omega); k_whole)))
          k_steps
          (refine unpark ?_; ((with_reducible show wpAny _ _ (subscriptTail _ (Expr.Slice none (some _) none _) (Value.str _ _) (Value.ref _)) _ _ _); (refine slice_strN_ns (hsz := ?hszq14) (s := ⟨_, _, _, _, _⟩) (by assumption) (by assumption) ?_); (case hszq14 => (rw [sizeLine_eq]; omega)); intro _ _ _ _ _))
          k_steps
          (rename Fr _ _ _ (fun y => _) => lF9)
          (rename News _ _ _ _ => lN9)
          (try dsimp only)
          refine JLead.mk lF9 (if_pos rfl) ?_ ?_ ?_ ?_
          · intro z n1 n2 n3
            simp only [n1, n2, n3, if_false]
          · exact fun p hp => lN9 p (by repeat (first | exact hp | refine List.Mem.tail _ ?_))
          · exact bt_slice hykb _ _
          · exact Nat.le_trans (slice_le _ _) (by omega)
      intro h7 tk7 m7 xl tl F7 e7 k7 N7 hbl hzl
      obtain ⟨trs, erest⟩ : ∃ trs, m7 (Str.ofString "rest") = some (.int ((x.fmod 1440).fdiv 4) trs) := ⟨_, (k7 _ (by decide) (by decide) (by decide)).trans (if_pos rfl)⟩
      have hfrm : ∀ q ∈ [(Str.ofString "lead", Value.str xl tl), (Str.ofString "leads", .ref ll), (Str.ofString "rows", .ref lr), (Str.ofString "rest", Value.int ((x.fmod 1440).fdiv 4) trs)], m7 q.1 = some q.2 := by
        intro q hq
        simp only [List.mem_cons, List.not_mem_nil, or_false] at hq
        rcases hq with rfl | rfl | rfl | rfl
        · exact e7
        · exact (k7 (Str.ofString "leads") (by decide) (by decide) (by decide)).trans (by simp (config := { decide := true }) only [if_true, if_false])
        · exact (k7 (Str.ofString "rows") (by decide) (by decide) (by decide)).trans (by simp (config := { decide := true }) only [if_true, if_false])
        · exact erest
      clear erest
      rw [← kstB_self (f := m7) hfrm] at F7
      dsimp only [kstB] at F7
      clear hfrm
      have hxll : xl.length ≤ 100 := hzl
      have hs4 := slice4 xl
      have hs4l : (Txt.slice xl none (some 4)).length ≤ 4 := hs4
      (try dsimp only)
      (try k_fold)
      k_steps
      refine unpark ?_
      (rename Fr _ _ _ (fun y => _) => lF9)
      (rename News _ _ _ _ => lN9)
      refine append_end lF9 lN9 (.tail (Ne.symm hoff2.1) (.head fun p hp => (hall p hp).1)) (by simp only [List.length_append, List.length_cons, List.length_nil] at hlen9 ⊢; omega) ?_
      intro h9 F9 N9
      (try dsimp only)
      (try k_fold)
      k_steps
      refine unpark ?_
      (rename Fr _ _ _ (fun y => _) => lF10)
      (rename News _ _ _ (_ :: _) => lN10)
      obtain ⟨tq, ttq, htq, htq2, htq3, htq4⟩ := (fun t1 t2 t3 t4 => pick4 (t1 := t1) (t2 := t2) (t3 := t3) (t4 := t4) hr18 hr18') _ _ _ _
      have htql : tq.length ≤ 2 := htq2
      refine item_tup lN10 (.head _) hr18 (by simp) htq ?_
      (try dsimp only)
      (try k_fold)
      k_steps
      refine unpark ?_
      (rename Fr _ _ _ (fun y => _) => lF11)
      (rename News _ _ _ (_ :: _) => lN11)
      have lD := ‹lr < _ ∧ ll < _ ∧ ld < _ ∧ _›
      have hwl := congrArg List.length P2.ws
      have hrl := P2.rws.length
      simp only [List.length_map, List.length_append, List.length_cons, List.length_nil] at hwl hrl
      refine append_end lF11 lN11 (.tail (Nat.ne_of_gt lD.1) (.head fun p hp => ?_)) (by omega) ?_
      · rcases List.mem_cons.mp hp with rfl | hp
        · exact hoff2.1
        · exact (hall p hp).2
      intro h12 F12 N12
      (try dsimp only)
      (try k_fold)
      k_steps
      obtain ⟨D12, o12, t12, t13, N13⟩ : ∃ D12 o12 t12 t13, News _ _ h12 ((D12, o12) :: (lr, listOf (rvs ++ [Value.str (Txt.slice xl none (some 4) ++ tq) t12]).toArray (er + 1)) :: (ll, listOf (lvs' ++ [Value.str x0 t0] ++ [Value.str (Txt.slice xl none (some 4)) t13]).toArray (el + 1)) :: (ld, listOf vs.toArray e) :: (news ++ own)) := ⟨_, _, _, _, N12⟩
      refine kj_end2 (PS.mk ll lr (lvs' ++ [.str x0 t0] ++ [.str (Txt.slice xl none (some 4)) t13]) (el + 1) (rvs ++ [.str (Txt.slice xl none (some 4) ++ tq) t12]) (er + 1) (leads' ++ [x0] ++ [Txt.slice xl none (some 4)]) (rows ++ [Txt.slice xl none (some 4) ++ tq])) F12 N13 (by kst_all) ?pp ?hn2 ?ho2 hoff ?hr2
      case pp =>
        refine ⟨hoff2, StrsAre.append' hls (.cons _ _ .nil), StrsAre.append' P2.rws (.cons _ _ .nil), ?_, fun x hx => ?_, fun x hx => ?_, ?_, ?_⟩
        · simp only [List.length_append, List.length_cons, List.length_nil]; omega
        · rcases List.mem_append.mp hx with hx | hx
          · exact hbt x hx
          · rw [List.mem_singleton.mp hx]; exact ⟨bt_slice hbl _ _, hs4⟩
        · rcases List.mem_append.mp hx with hx | hx
          · exact P2.sz x hx
          · rw [List.mem_singleton.mp hx]
            refine ⟨by rw [app_size]; omega, ?_⟩
            rw [ok_app, bt_ok (bt_slice hbl _ _), htq4]; rfl
        · have hw2 := P2.ws
          dsimp only at hw2 ⊢
          rw [List.map_append, List.map_append, hw2, List.map_cons, List.map_cons, ws_bt (bt_slice hbl _ _) htq3]
        · have h1 := P2.hd.1
          have h2 := P2.hd.2
          dsimp only at h1 h2 ⊢
          exact ⟨by rw [List.head?_append, h1]; rfl, by rw [List.head?_append, h2]; rfl⟩
      case hn2 =>
        intro p hp
        rcases List.mem_cons.mp hp with rfl | hp
        · exact .tail _ (.head _)
        rcases List.mem_cons.mp hp with rfl | hp
        · exact .tail _ (.tail _ (.head _))
        rcases List.mem_cons.mp hp with rfl | hp
        · exact .tail _ (.tail _ (.tail _ (.head _)))
        · exact .tail _ (.tail _ (.tail _ (.tail _ (List.mem_append.mpr (.inl hp)))))
      case ho2 => exact fun p hp => .tail _ (.tail _ (.tail _ (.tail _ (List.mem_append.mpr (.inr hp)))))
      case hr2 =>
        intro z z1 z2 z3
        have z4 := z3
        simp only [List.contains_cons, List.contains_nil, Bool.or_false, Bool.or_eq_false_iff, beq_eq_false_iff_ne] at z4
        have y1 := z2 _ (.head _)
        have y2 := z2 _ (.tail _ (.head _))
        dsimp only at y1 y2
        refine Eq.trans ?_ ((k7 z z4.2.1 z4.2.2.1 z4.2.2.2).trans ?_)
        · simp only [z4.1, z4.2.1, y1, y2, z1, if_false]
        · simp only [z4.1, y1, y2, z1, z3, if_false]
          exact if_neg Bool.false_ne_true
    case done2 =>
      rintro ⟨ll, lr, lvs, el, rvs, er, leads, rows⟩ mu h tk P2 F2 N2
      dsimp only [kstB, List.cons_append] at F2 N2
      (try dsimp only)
      k_steps
      have hn := P2.n
      dsimp only at hn
      exact hret _ _ _ _ _ _ _ _ _ _ _ _ ⟨by rw [hn]; omega, by rw [hn]; omega⟩ P2.ws P2.hd (fun x hx => mem_leadS (P2.bt x hx).2 (P2.bt x hx).1) P2.sz (by assumption) (by assumption)
        (fun p hp => .tail _ (.tail _ (.tail _ (.tail _ hp)))) (.head _) (.tail _ (.tail _ (.head _))) P2.lds (.tail _ (.head _)) P2.rws
end
section
theorem fillV9 : PySem.Challenge.rw_sn0118_01 = PySem.Challenge.rw_sn0118_01 ∧ A.hd.heap_39 = A.hd.heap_39 := by k_fill; exact ⟨rfl, rfl⟩
theorem MarkIn.keep {led led' : List (Addr × Obj)} {v : Value} {cnt : List Int} {b n nt : Int} (k : KeepS led led') (M : MarkIn led v cnt b n nt) : MarkIn led' v cnt b n nt := by
  cases M with
  | mk hx hd h1 h2 hc hlen hb hn hnt hcb => exact .mk (k _ hx ⟨(fun e => by cases e), (fun z e => by cases e)⟩) (k _ hd ⟨(fun e => by cases e), (fun z e => by cases e)⟩) (k _ h1 (solid_tup _ _)) (k _ h2 (solid_tup _ _)) hc hlen hb hn hnt hcb
theorem MarksIn.keep {led led' : List (Addr × Obj)} {vs : List Value} {ms : List (List Int × Int × Int × Int)} (k : KeepS led led') (M : MarksIn led vs ms) : MarksIn led' vs ms := by
  induction M with
  | nil => exact .nil
  | cons h r ih => exact .cons (h.keep k) ih
/-- a list of lists of whole numbers, as far as K -/
noncomputable def RowsAre (f : Nat → List Int) (led : List (Addr × Obj)) (vs : List Value) (K : Nat) : Prop := ∀ i : Nat, i < K → ∃ a cvs e, vs[i]? = some (.ref a) ∧ (a, listOf (cvs : List Value).toArray e) ∈ led ∧ IntsAre cvs (f i)
theorem RowsAre.keep {f : Nat → List Int} {led led' : List (Addr × Obj)} {vs : List Value} {K : Nat} (k : KeepS led led') (h : RowsAre f led vs K) : RowsAre f led' vs K := fun i hi => by
  obtain ⟨a, cvs, e, h1, h2, h3⟩ := h i hi
  exact ⟨a, cvs, e, h1, k.lst h2, h3⟩
theorem RowsAre.snoc {f : Nat → List Int} {led : List (Addr × Obj)} {vs : List Value} {K : Nat} (h : RowsAre f led vs K) (hl : vs.length = K) {a : Addr} {cvs : List Value} {e : Nat} (hm : (a, listOf cvs.toArray e) ∈ led) (hc : IntsAre cvs (f K)) : RowsAre f led (vs ++ [.ref a]) (K + 1) := fun i hi => by
  by_cases q : i < K
  · obtain ⟨a', cvs', e', h1, h2, h3⟩ := h i q
    exact ⟨a', cvs', e', by rw [List.getElem?_append_left (by omega)]; exact h1, h2, h3⟩
  · have e1 : i = K := by omega
    subst e1
    exact ⟨a, cvs, e, by rw [List.getElem?_append_right (by omega), hl]; simp, hm, hc⟩
theorem RowsAre.walks {leads : List Str} {led : List (Addr × Obj)} {vs : List Value} {K : Nat} (h : RowsAre (fun i => leads.map fun x => colV x ((i : Int) + 1)) led vs K) : WalksAre led vs leads K := fun i hi => h i (by omega)
theorem colGo_le {t : Int} (ht : 1 ≤ t ∧ t ≤ 8) : ∀ (l : List Nat) (c : Int), colGo t l c ≤ c + 8 * l.length
  | [], c => by rw [colGo]; simp
  | x :: r, c => by
    have h1 := colGo_le ht r (if x = 9 then c + t - c.fmod t else c + 1)
    have h2 := Int.fmod_nonneg_of_pos c (by omega : 0 < t)
    rw [colGo, List.length_cons]
    split at h1 <;> rename_i q <;> simp only [q, if_true, if_false] at h1 ⊢ <;> omega
theorem cols_ok {leads : List Str} (hlen : 1 ≤ leads.length ∧ leads.length ≤ 6) (hhd : leads.head? = some (Str.ofString "")) (hS : ∀ x ∈ leads, x ∈ leadS) {t : Int} (ht : 1 ≤ t ∧ t ≤ 5 ∨ t = 8) :
    (1 ≤ (leads.map fun x => colV x t).length ∧ (leads.map fun x => colV x t).length ≤ 7) ∧ (leads.map fun x => colV x t).getD 0 0 = 0 ∧ ∀ z ∈ leads.map fun x => colV x t, 0 ≤ z ∧ z ≤ 1000 := by
  refine ⟨by rw [List.length_map]; omega, ?_, fun z hz => ?_⟩
  · cases leads with
    | nil => cases hhd
    | cons a r => cases hhd; rfl
  · obtain ⟨x, hx, rfl⟩ := List.mem_map.mp hz
    have h := lead_facts (hS x hx)
    have h2 := colGo_le (t := t) (by omega) x.cps.toList 0
    have h3 : x.cps.toList.length ≤ 4 := h.2.2.2.2.2.1
    refine ⟨(h.1 t ht).2, ?_⟩
    show colGo t x.cps.toList 0 ≤ 1000
    omega
theorem rv_read (leads : List Str) (t : Int) : readV (leads.map fun x => colV x t) = RV (atS leads) leads.length t := by
  unfold readV RV
  rw [List.length_map]
  congr 1
  funext i
  show (leads.map fun x => colV x t).getD i 0 = colV (leads.getD i (Str.ofString "")) t
  rw [List.getD_eq_getElem?_getD, List.getD_eq_getElem?_getD, List.getElem?_map]
  cases leads[i]? with
  | none => rfl
  | some x => rfl
/-- what stays as it is on the law's ledger from the readings on; sz is the frame's address -/
structure LW (sz ll lr lm lw lR : Addr) (el er em ew eR : Nat) (lvs rvs mvs wvs dvs : List Value) (leads rows : List Str) (K : Nat) (led : List (Addr × Obj)) : Prop where
  cL : ∃ o : Obj, o.data = .cell (some (.ref ll)) ∧ (sz + 1, o) ∈ led
  cR : ∃ o : Obj, o.data = .cell (some (.ref lR)) ∧ (sz + 1 + 1, o) ∈ led
  ml : (ll, listOf lvs.toArray el) ∈ led
  mr : (lr, listOf rvs.toArray er) ∈ led
  mm : (lm, listOf mvs.toArray em) ∈ led
  mw : (lw, listOf wvs.toArray ew) ∈ led
  mR : (lR, listOf dvs.toArray eR) ∈ led
  M : MarksIn led mvs (rows.map wsOf)
  W : RowsAre (fun i => leads.map fun x => colV x ((i : Int) + 1)) led wvs K
  R : RowsAre (fun i => RV (atS leads) leads.length ((i : Int) + 1)) led dvs K
theorem LW.step2 {sz ll lr lm lw lR : Addr} {el er em ew eR : Nat} {lvs rvs mvs wvs dvs : List Value} {leads rows : List Str} {K : Nat} {led led' : List (Addr × Obj)} (H : LW sz ll lr lm lw lR el er em ew eR lvs rvs mvs wvs dvs leads rows K led)
    (k : KeepS led led') (h1 : ∀ o, (sz + 1, o) ∈ led → (sz + 1, o) ∈ led') (h2 : ∀ o, (sz + 1 + 1, o) ∈ led → (sz + 1 + 1, o) ∈ led') : LW sz ll lr lm lw lR el er em ew eR lvs rvs mvs wvs dvs leads rows K led' := by
  obtain ⟨⟨o1, d1, m1⟩, ⟨o2, d2, m2⟩, b, c, d, e, f, g, h, i⟩ := H
  exact ⟨⟨o1, d1, h1 _ m1⟩, ⟨o2, d2, h2 _ m2⟩, k.lst b, k.lst c, k.lst d, k.lst e, k.lst f, g.keep k, h.keep k, i.keep k⟩
theorem LW.step {sz ll lr lm lw lR : Addr} {el er em ew eR : Nat} {lvs rvs mvs wvs dvs : List Value} {leads rows : List Str} {K : Nat} {led led' : List (Addr × Obj)} (H : LW sz ll lr lm lw lR el er em ew eR lvs rvs mvs wvs dvs leads rows K led)
    (k : KeepS led led') {a : Addr} (hs : ∀ p ∈ led, p.1 ≠ a → p ∈ led') (h1 : sz + 1 ≠ a) (h2 : sz + 1 + 1 ≠ a) : LW sz ll lr lm lw lR el er em ew eR lvs rvs mvs wvs dvs leads rows K led' :=
  H.step2 k (fun _ m => hs _ m h1) (fun _ m => hs _ m h2)
theorem LW.up {sz ll lr lm lw lR : Addr} {el er em ew eR : Nat} {lvs rvs mvs wvs dvs : List Value} {leads rows : List Str} {K : Nat} {led led' : List (Addr × Obj)} (H : LW sz ll lr lm lw lR el er em ew eR lvs rvs mvs wvs dvs leads rows K led)
    (k : ∀ p ∈ led, p ∈ led') : LW sz ll lr lm lw lR el er em ew eR lvs rvs mvs wvs dvs leads rows K led' :=
  H.step (.of k) (a := sz) (fun p hp _ => k p hp) (Nat.succ_ne_self _) (by show @Ne Nat (sz + 1 + 1) sz; omega)
/-- what holds while the law seeks its stop -/
structure StopI (sz : Addr) (M : Int) (leads : List Str) (PW : List (Addr × Obj) → Prop) (stop : Nat) (led : List (Addr × Obj)) : Prop where
  s1 : 1 ≤ stop
  s2 : stop ≤ leads.length
  ag : ∀ i, 1 ≤ i → i < stop → Agree (atS leads) leads.length (M + 1) i
  cS : ∃ (oS : Obj) (t : Tok), oS.data = .cell (some (.int (stop : Nat) t)) ∧ (sz + 1 + 1 + 1, oS) ∈ led
  lw : PW led
  cT : ∃ (oT : Obj) (vT : Option Value), oT.data = .cell vT ∧ (sz + 1 + 1 + 1 + 1, oT) ∈ led
  tb : (123, tabObj #[]) ∈ led
/-- what holds when it is found -/
structure StopF (sz : Addr) (M : Int) (leads : List Str) (PW : List (Addr × Obj) → Prop) (stop : Nat) (led : List (Addr × Obj)) : Prop where
  s1 : 1 ≤ stop
  s2 : stop ≤ leads.length
  ag : ∀ i, 1 ≤ i → i < stop → Agree (atS leads) leads.length (M + 1) i
  fin : stop = leads.length ∨ ¬ Agree (atS leads) leads.length (M + 1) stop
  lw : PW led
  cT : ∃ (oT : Obj) (vT : Option Value), oT.data = .cell vT ∧ (sz + 1 + 1 + 1 + 1, oT) ∈ led
  tb : (123, tabObj #[]) ∈ led
/-- what holds between two tab sizes -/
structure TabI (g0 : Heap) (sz lr lm lw lT : Addr) (stop : Nat) (tvs : List Value) (PW : List (Addr × Obj) → Prop) (gr : Heap) (m' : Str → Option Value) (led : List (Addr × Obj)) (gs : Array GenState) : Prop where
  gr0 : gr = g0
  e1 : m' (Str.ofString "rows") = some (.ref lr)
  e2 : m' (Str.ofString "marks") = some (.ref lm)
  e3 : m' (Str.ofString "walks") = some (.ref lw)
  bare : AllBare gs
  pw : PW led
  cS : ∃ (oS : Obj) (t : Tok), oS.data = .cell (some (.int (stop : Nat) t)) ∧ (sz + 1 + 1 + 1, oS) ∈ led
  cT : ∃ (oT : Obj) (vT : Option Value), oT.data = .cell vT ∧ (sz + 1 + 1 + 1 + 1, oT) ∈ led
  tb : ∃ ps, FmtTab gpos ps ∧ (123, tabObj ps) ∈ led
  lst : (lT, listOf tvs.toArray 0) ∈ led
open LCg in
set_option maxHeartbeats 400000 in
theorem comp_cols {w : World} {p : Program} {loose : List Str} {mean : ExcName → Option Value} {mg mb : Str → Option Value} {dp un : Nat} {gd : Option (List Code)} {cn : Str} {cs : Scope} {a : Addr} {ccd : Value} {cl cl' : List (Str × Addr)} {outer : List Env} {A₀ : Around} {base h₀ : Heap} {L : Addr} {m : Str → Option Value} {news : List (Addr × Obj)} {s : Shared} {env : Env} {scope : Scope} {p1 p2 p3 p4 : Pos} {Fin : List Value → List (Addr × Obj) → Prop}
    (B : Below A₀ base outer h₀) (X : (A.hd.heap_39 w.params).In h₀) (T : Top p loose mean mg mb h₀) (hk : cs.kind = .function) (hdp : dp + 5 < recursionLimit) (hun : un + 500 < cLine)
    {ll : Addr} {lvs : List Value} {el : Nat} {leads : List Str} (hr : StrsAre lvs leads) (hsz : ∀ x ∈ leads, x.cps.size ≤ 64) {z : Str} {c : Addr} {oc : Obj} {t : Int} {tt : Tok} (ht : 1 ≤ t ∧ t ≤ 100) (hoc : oc.data = .cell (some (.int t tt))) (hg : env.globals = mainGlobals)
    (hks : ∀ C, (compEnvC scope cl' C env).scope.kind = .function) (hn1 : ∀ C, (compEnvC scope cl' C env).kindOf (Str.ofString "_law_column") = some .globalImplicit) (hn2 : ∀ C, (compEnvC scope cl' C env).kindOf (Str.ofString "lead") = some .local)
    (hn3 : ∀ C, (compEnvC scope cl' C env).kindOf z = some .cell) (hn4 : ∀ C, (compEnvC scope cl' C env).cells.lookup z = some c) (hz1 : (z == ("__debug__" : Str)) = false)
    (hFin : ∀ ys led', IntsAre ys (leads.map fun x => colV x t) → (∀ p ∈ news, p ∈ led') → Fin ys led') :
    ∀ k i ys led, i + k = leads.length → (ll, listOf lvs.toArray el) ∈ led → (c, oc) ∈ led → IntsAre ys ((leads.take i).map fun x => colV x t) → (∀ p ∈ news, p ∈ led) →
      CompRest PySem.Challenge.rw_sn0118_01.row.prog w (ktrTop dp un gd cn cs L a ccd cl outer) h₀ L m env (.Call (.Name (Str.ofString "_law_column") p1) [.Name (Str.ofString "lead") p2, .Name z p4] [] p3) (Str.ofString "lead") scope cl' s (SrcAt h₀ ll lvs.toArray) (fun i v => lvs.toArray[i]? = some v) Fin k i ys led
  | 0, i, ys, led, hi, _, _, hm, hs => .zero (hFin ys led (by rw [List.take_of_length_le (by omega)] at hm; exact hm) hs)
  | k + 1, i, ys, led, hi, hl, hcm, hm, hs => .succ fun v I oI C oC D m₂ h tk E' hv hoC hx F N off ne => by
    have hir : i < leads.length := by omega
    obtain ⟨tx, ht1⟩ := hr.get i leads[i] (List.getElem?_eq_getElem hir)
    have hv' : lvs[i]? = some v := by simpa using hv
    rw [ht1] at hv'
    cases hv'
    refine wpAny_Call_ofName ?_
    refine' LCgL.ld_global ?kF X T (by k_is) ?_ hg (hks C) (hn1 C)
    case kF => exact F
    walk1
    walk1
    refine' LCgL.ld_own ?kN (.tail _ (.head _)) hoC hx ?_ (hks C) (hn2 C)
    case kN => exact N
    walk1
    refine wpAny_Name (wpAny_loadName_cell (hks C) (hn3 C) (hn4 C) ⟨oc, (N _ (.tail _ (.tail _ (.tail _ hcm)))).1, hoc⟩ ?_) hz1
    refine wpAny_pure ⟨X.keeps F.keep, ?_⟩
    show wpAny _ _ (call (.ref 142) [.str leads[i] tx, .int t tt]) _ _ _
    refine col_spec B F X N T hk (by omega) (by omega) (hsz _ (List.getElem_mem hir)) ht ?_
    intro tk2 h9 tk9 F9 N9
    refine CompEnd.intro F9 N9 led (fun q hq => hq) off (.inr ⟨_, hl, rfl, _, rfl⟩) ?_
    refine comp_cols B X T hk hdp hun hr hsz ht hoc hg hks hn1 hn2 hn3 hn4 hz1 hFin k (i + 1) (ys ++ [.int (colV leads[i] t) tk2]) led (by omega) hl hcm ?_ hs
    rw [List.take_succ_eq_append_getElem hir, List.map_append, List.map_cons, List.map_nil]
    exact IntsAre.append hm (.cons _ _ .nil)
open LCg in
set_option maxHeartbeats 400000 in
theorem comp_rds {w : World} {p : Program} {loose : List Str} {mean : ExcName → Option Value} {mg mb : Str → Option Value} {dp un : Nat} {gd : Option (List Code)} {cn : Str} {cs : Scope} {a : Addr} {ccd : Value} {cl cl' : List (Str × Addr)} {outer : List Env} {A₀ : Around} {base h₀ : Heap} {L : Addr} {m : Str → Option Value} {news : List (Addr × Obj)} {s : Shared} {env : Env} {scope : Scope} {p1 p2 p3 : Pos} {Fin : List Value → List (Addr × Obj) → Prop}
    (B : Below A₀ base outer h₀) (X : (A.hd.heap_39 w.params).In h₀) (T : Top p loose mean mg mb h₀) (hk : cs.kind = .function) (hdp : dp + 5 < recursionLimit) (hun : un + 500 < cLine)
    {lw : Addr} {wvs : List Value} {ew K : Nat} {f : Nat → List Int} (hw : RowsAre f news wvs K) (hK : wvs.length = K) (hf : ∀ i, i < K → (1 ≤ (f i).length ∧ (f i).length ≤ 7) ∧ (f i).getD 0 0 = 0 ∧ ∀ z ∈ f i, 0 ≤ z ∧ z ≤ 1000) (hg : env.globals = mainGlobals)
    (hks : ∀ C, (compEnvC scope cl' C env).scope.kind = .function) (hn1 : ∀ C, (compEnvC scope cl' C env).kindOf (Str.ofString "_law_reading") = some .globalImplicit) (hn2 : ∀ C, (compEnvC scope cl' C env).kindOf (Str.ofString "walk") = some .local)
    (hFin : ∀ ys led', RowsAre (fun i => readV (f i)) led' ys K → ys.length = K → (∀ p ∈ news, p ∈ led') → Fin ys led') :
    ∀ k i ys led, i + k = K → (lw, listOf wvs.toArray ew) ∈ led → RowsAre (fun i => readV (f i)) led ys i → ys.length = i → (∀ p ∈ news, p ∈ led) →
      CompRest PySem.Challenge.rw_sn0118_01.row.prog w (ktrTop dp un gd cn cs L a ccd cl outer) h₀ L m env (.Call (.Name (Str.ofString "_law_reading") p1) [.Name (Str.ofString "walk") p2] [] p3) (Str.ofString "walk") scope cl' s (SrcAt h₀ lw wvs.toArray) (fun i v => wvs.toArray[i]? = some v) Fin k i ys led
  | 0, i, ys, led, hi, _, hm, hyl, hs => by
    have e : i = K := by omega
    subst e
    exact .zero (hFin ys led hm hyl hs)
  | k + 1, i, ys, led, hi, hl, hm, hyl, hs => .succ fun v I oI C oC D m₂ h tk E' hv hoC hx F N off ne => by
    obtain ⟨aw, cvs, ec, hw1, hw2, hw3⟩ := hw i (by omega)
    have hv' : wvs[i]? = some v := by simpa using hv
    rw [hw1] at hv'
    cases hv'
    refine wpAny_Call_ofName ?_
    refine' LCgL.ld_global ?kF X T (by k_is) ?_ hg (hks C) (hn1 C)
    case kF => exact F
    walk1
    walk1
    refine' LCgL.ld_own ?kN (.tail _ (.head _)) hoC hx ?_ (hks C) (hn2 C)
    case kN => exact N
    refine wpAny_pure ⟨X.keeps F.keep, ?_⟩
    show wpAny _ _ (call (.ref 154) [.ref aw]) _ _ _
    refine read_spec B F X N T hk (by omega) (by omega) (.tail _ (.tail _ (.tail _ (hs _ hw2)))) hw3 (hf i (by omega)).1 (hf i (by omega)).2.1 (hf i (by omega)).2.2 ?_
    intro r hvs eh h9 tk9 F9 N9 n9 H9
    refine CompEnd.intro F9 N9 ((r, listOf hvs.toArray eh) :: led) (fun q hq => ?_) (Off3.of fun q hq => ?_) (.inr ⟨_, .tail _ hl, rfl, _, rfl⟩) ?_
    · simp only [List.mem_cons] at hq ⊢
      rcases hq with h | h | h | h | h <;> simp [h]
    · rcases List.mem_cons.mp hq with rfl | hq
      · exact ⟨(n9 _ (.head _)).symm, (n9 _ (.tail _ (.head _))).symm, (n9 _ (.tail _ (.tail _ (.head _)))).symm⟩
      · exact off.mem q hq
    · exact comp_rds B X T hk hdp hun hw hK hf hg hks hn1 hn2 hFin k (i + 1) (ys ++ [.ref r]) ((r, listOf hvs.toArray eh) :: led) (by omega) (.tail _ hl) (RowsAre.snoc (hm.keep (.of fun q hq => .tail _ hq)) hyl (.head _) H9) (by simp [hyl]) fun q hq => .tail _ (hs q hq)
theorem bools_snoc {vs : List Value} {bs : List Bool} {b : Bool} (h : LSm.BoolsAre vs bs) : LSm.BoolsAre (vs ++ [.bool b]) (bs ++ [b]) := by
  induction h with
  | nil => exact .cons b .nil
  | cons c r ih => exact .cons c ih
/-- all those readings say the same of a row -/
noncomputable abbrev sameL (f : Nat → List Int) (stop : Nat) (K : Nat) : List Bool := (List.range K).map fun j => (f j).getD stop 0 == (f 0).getD stop 0
theorem sameL_all {f : Nat → List Int} {stop K : Nat} : (sameL f stop K).all id = true ↔ ∀ j, j < K → (f j).getD stop 0 = (f 0).getD stop 0 := by
  rw [List.all_eq_true]
  constructor
  · intro h j hj
    have := h _ (List.mem_map.mpr ⟨j, List.mem_range.mpr hj, rfl⟩)
    exact beq_iff_eq.mp this
  · intro h b hb
    obtain ⟨j, hj, rfl⟩ := List.mem_map.mp hb
    exact beq_iff_eq.mpr (h j (List.mem_range.mp hj))
theorem row_at {f : Nat → List Int} {led : List (Addr × Obj)} {vs : List Value} {K : Nat} (h : RowsAre f led vs K) {i stop : Nat} (hi : i < K) (hs : stop < (f i).length) : ∃ (a : Addr) (cvs : List Value) (e : Nat) (t : Tok), vs[i]? = some (.ref a) ∧ (a, listOf cvs.toArray e) ∈ led ∧ cvs[stop]? = some (.int ((f i).getD stop 0) t) := by
  obtain ⟨a, cvs, e, h1, h2, h3⟩ := h i hi
  obtain ⟨t, ht⟩ := h3.get stop ((f i).getD stop 0) (by rw [List.getD_eq_getElem?_getD, List.getElem?_eq_getElem hs]; rfl)
  exact ⟨a, cvs, e, t, h1, h2, ht⟩
open LCg in
set_option maxHeartbeats 400000 in
theorem comp_same {w : World} {dp un : Nat} {gd : Option (List Code)} {cn : Str} {cs : Scope} {a : Addr} {ccd : Value} {cl cl' : List (Str × Addr)} {outer : List Env} {h₀ : Heap} {L : Addr} {m : Str → Option Value} {news : List (Addr × Obj)} {s : Shared} {env : Env} {scope : Scope} {p1 p2 p3 p4 p5 p6 p7 p8 p9 : Pos} {Fin : List Value → List (Addr × Obj) → Prop}
    {lR : Addr} {dvs : List Value} {eR K : Nat} {f : Nat → List Int} (hR : RowsAre f news dvs K) (hK : dvs.length = K) (h1 : 1 ≤ K) {stop : Nat} {ts : Tok} (hst : ∀ i, i < K → stop < (f i).length) (hs60 : stop < 2 ^ 60) {cS cR : Addr} {oS oR : Obj} (dS : oS.data = .cell (some (.int (stop : Nat) ts))) (dR : oR.data = .cell (some (.ref lR))) (mS : (cS, oS) ∈ news) (mR : (cR, oR) ∈ news) (hl : (lR, listOf dvs.toArray eR) ∈ news)
    (hks : ∀ C, (compEnvC scope cl' C env).scope.kind = .function) (hn2 : ∀ C, (compEnvC scope cl' C env).kindOf (Str.ofString "one") = some .local)
    (hn3 : ∀ C, (compEnvC scope cl' C env).kindOf (Str.ofString "stop") = some .cell) (hc3 : ∀ C, (compEnvC scope cl' C env).cells.lookup (Str.ofString "stop") = some cS)
    (hn4 : ∀ C, (compEnvC scope cl' C env).kindOf (Str.ofString "readings") = some .cell) (hc4 : ∀ C, (compEnvC scope cl' C env).cells.lookup (Str.ofString "readings") = some cR)
    (hFin : ∀ ys led', LSm.BoolsAre ys (sameL f stop K) → (∀ p ∈ news, p ∈ led') → Fin ys led') :
    ∀ k i ys led, i + k = K → LSm.BoolsAre ys (sameL f stop i) → (∀ p ∈ news, p ∈ led) →
      CompRest PySem.Challenge.rw_sn0118_01.row.prog w (ktrTop dp un gd cn cs L a ccd cl outer) h₀ L m env (.Compare (.Subscript (.Name (Str.ofString "one") p1) (.Name (Str.ofString "stop") p2) p3) [.Eq] [.Subscript (.Subscript (.Name (Str.ofString "readings") p4) (.Constant (.int 0) 0 p5) p6) (.Name (Str.ofString "stop") p7) p8] p9) (Str.ofString "one") scope cl' s (SrcAt h₀ lR dvs.toArray) (fun i v => dvs.toArray[i]? = some v) Fin k i ys led
  | 0, i, ys, led, hi, hm, hs => by
    have e : i = K := by omega
    subst e
    exact .zero (hFin ys led hm hs)
  | k + 1, i, ys, led, hi, hm, hs => .succ fun v I oI C oC D m₂ h tk E' hv hoC hx F N off ne => by
    obtain ⟨a0, c0, e0, t0, x0, y0, z0⟩ := row_at hR h1 (hst 0 h1)
    obtain ⟨ai, ci, ei, ti, xi, yi, zi⟩ := row_at hR (show i < K by omega) (hst i (by omega))
    have hv' : dvs[i]? = some v := by simpa using hv
    rw [xi] at hv'
    cases hv'
    have up : ∀ q ∈ news, q ∈ (I, oI) :: (C, oC) :: (D, lst ys) :: led := fun q hq => .tail _ (.tail _ (.tail _ (hs q hq)))
    refine wpAny_Compare1 ?_
    refine Subscript_ ?_
    refine' LCgL.ld_own ?kN (.tail _ (.head _)) hoC hx ?_ (hks C) (hn2 C)
    case kN => exact N
    refine wpAny_Name (wpAny_loadName_cell (hks C) (hn3 C) (hc3 C) ⟨oS, (N _ (up _ mS)).1, dS⟩ ?_) (by decide)
    refine item_any N (up _ yi) (by omega) (by omega) (by rw [Int.toNat_natCast]; exact zi) ?_
    refine Subscript_ ?_
    refine Subscript_ ?_
    refine wpAny_Name (wpAny_loadName_cell (hks C) (hn4 C) (hc4 C) ⟨oR, (N _ (up _ mR)).1, dR⟩ ?_) (by decide)
    walk1
    refine item_any N (up _ hl) (by decide) (by decide) (by exact x0) ?_
    refine wpAny_Name (wpAny_loadName_cell (hks C) (hn3 C) (hc3 C) ⟨oS, (N _ (up _ mS)).1, dS⟩ ?_) (by decide)
    refine item_any N (up _ y0) (by omega) (by omega) (by rw [Int.toNat_natCast]; exact z0) ?_
    refine eq_int ?_
    refine CompEnd.intro F N led (fun q hq => hq) off (.inr ⟨_, hs _ hl, rfl, _, rfl⟩) ?_
    refine comp_same hR hK h1 hst hs60 dS dR mS mR hl hks hn2 hn3 hc3 hn4 hc4 hFin k (i + 1) _ led (by omega) ?_ hs
    rw [sameL, List.range_succ, List.map_append]
    exact bools_snoc hm
end
section
theorem fillV7 : PySem.Challenge.rw_sn0118_01 = PySem.Challenge.rw_sn0118_01 ∧ A.hd.heap_39 = A.hd.heap_39 := by k_fill; exact ⟨rfl, rfl⟩
local macro_rules | `(tactic| walk_at "assign Tuple") => `(tactic| walk_at "my park")
local macro_rules | `(tactic| walk_at "exec Assign cons ListComp") => `(tactic| walk_at "my park")
local macro_rules | `(tactic| walk_at "eval ListComp") => `(tactic| walk_at "my park")
local macro_rules | `(tactic| walk_at "exec While") => `(tactic| walk_at "my park")
local macro_rules | `(tactic| walk_at "exec For") => `(tactic| walk_at "my park")
local macro_rules | `(tactic| walk_at "exec For Name") => `(tactic| walk_at "my park")
local macro_rules | `(tactic| walk_at "compareOp NotEq ref ref") => `(tactic| walk_at "my park")
local macro_rules | `(tactic| walk_at "call type:list") => `(tactic| walk_at "my park")
local macro_rules | `(tactic| walk_at "binaryOp Add ref ref") => `(tactic| walk_at "my park")
local macro_rules | `(tactic| walk_at "pyIter ref") => `(tactic| walk_at "my park")
local macro_rules | `(tactic| walk_at "KswEnd") => `(tactic| walk_at "my park")
local macro_rules | `(tactic| walk_at "call builtin:all") => `(tactic| walk_at "my park")
theorem parkSt {M : Model} {A : Around} {E : Value → Shared → Prop} {s : Shared} {env : Env} {P : Unit → Shared → Prop} {v : Value} (h : Park (wpAny M A (storeName env (Str.ofString "stop") v) P E s)) : wpAny M A (storeName env (Str.ofString "stop") v) P E s := h
local macro_rules | `(tactic| walk_at "storeName") => `(tactic| refine parkSt ?_)
local macro_rules | `(tactic| walk_at "subscriptTail") => `(tactic| walk_at "my park")
local macro_rules | `(tactic| walk_at "call builtin:len") => `(tactic| walk_at "my park")
local macro_rules | `(tactic| walk_at "CompSrc") => `(tactic| walk_at "my park")
local macro_rules | `(tactic| walk_at "call ref") => `(tactic| walk_at "my park")
structure EndB (h₀ : Heap) (os : Shared) (r : Result) (s' : Shared) : Prop where
  res : r = .ok (.ret (.bool true))
  keep : ∀ b o, h₀.get? b = some o → s'.heap.get? b = some o
  same : s'.os = os.os
  bare : AllBare s'.gens
  tab : GrownAt 123 s'.heap
theorem post_b {M : Model} {A : Around} {cd : Code} {s s₁ : Shared} {cw : ClaimW} {cl : Str → Option Addr} {mean : ExcName → Option Value} {args : List WData} {c : Addr} (hT : TabsAt [(c, 123)] s₁.heap) (hr : ∀ x, cw.raises args x = false) (hp : cw.post args (.bool true) args = true)
    (h : codeAny M A cd (EndB (ghostOf s₁.heap [(c, 123)]) s₁) s) : codeAny M A cd (GoodWG cw cl mean args s₁) s := by
  refine codeAny_mono h fun r s' q => ?_
  have hTab := hT _ (.head _)
  obtain ⟨ps, hps⟩ := q.tab
  have other : ∀ b o, b ≠ 123 → s₁.heap.get? b = some o → s'.heap.get? b = some o := fun b o hb e => q.keep b o (ghost_ne e (by simpa using hb))
  refine ⟨.inl ⟨.bool true, .bool true, [], q.res, hr, (.bool true), hp, fun _ => ⟨List.nodup_nil, fun a ha => nomatch ha⟩⟩, ⟨fun b o e => ?_, fun b o e => ?_⟩, q.same, q.bare⟩
  · by_cases hb : b = 123
    · subst hb
      have e2 := hTab.2
      rw [e] at e2
      cases e2
      exact .inr (.inl ⟨(hTab.1.tab hTab.2).isCodeTable, rfl, #[], ps, rfl, by rw [Array.empty_append]; exact hps⟩)
    · exact .inl (other b o hb e)
  · by_cases hb : b = 123
    · subst hb; exact ⟨_, hps⟩
    · exact ⟨o, other b o hb e⟩
theorem tab_ne {g h : Heap} {L : Addr} {led : List (Addr × Obj)} {ps : Array Value} (N : News g L h led) (hP : (123, tabObj ps) ∈ led) : ∀ (a : Addr) (o : Obj), (a, o) ∈ led → o.cls ≠ .none → a ≠ 123 := fun a o ha hc e => by
  subst e
  exact hc (congrArg Obj.cls (Option.some.inj ((N _ ha).1.symm.trans (N _ hP).1)))
local macro_rules | `(tactic| walk_at "law room") => `(tactic| first | ktr_room | decide | exact Nat.le_of_ble_eq_true rfl | decide +kernel)
set_option maxHeartbeats 4000000 in
theorem top : PySem.Challenge.rw_sn0118_01.Holds := A.hd (by
  k_fill
  intro w s₀ s₁ mg mb G Y fa o pm cd doc dV kV ho hd hcd hD hmg hg args vals as hpre hlay hrd hwl hlo
  have KX := kIn_of Y
  have V := (Ground.X G).2
  refine Ground.open G ?_
  intro T B D TE TW
  try (refine guard_noD D (by decide +kernel) ?_; clear D)
  have hT9 : TabsAt [(127, 123)] s₁.heap := List.forall_mem_cons.mpr ⟨tab_of (x := PySem.Str.ofString "format_witnesses") (c := 127) (P := 123) T KX rfl (by kernel_rfl), fun _ h => nomatch h⟩
  clear hmg
  wrow_args hpre hlay hrd hwl hlo
  all_goals (
    first | refine callC_kw (enter_call ?_) | refine enter_call ?_
    w_top on
    refine post_b hT9 (fun _ => rfl) ?hpost ?_
    (case hpost => first | kernel_rfl | (w_fin; done) | (law_fin; done) | (simp [PySem.Challenge.rw_sn0118_01]; done) | trace_state)
    w_call any ho hd hcd hD T F
    clear hd
    kn_ghosts F T
    k_drop
    skip)
  (all_goals try k_fold)
  k_steps
  refine unpark ?_
  k_dflt (refine' page_spec ?k1 ?k2 ?k3 ?k4 ?k5 ?k6 ?k7 ?k8 ?hl ?hi ?hn ?_; (case k1 => k_asm); (case k2 => k_asm); (case k3 => k_asm); (case k4 => k_asm); (case k5 => k_asm); (case k6 => first | exact rfl | assumption); (case k7 => walk_at "law room"); (case k8 => walk_at "law room"); (case hl => assumption); (case hi => assumption); (case hn => omega))
  intro R leads rows ll lr lvs el rvs er led h1 tk1 hlen hws hhd hS hsz F1 N1 s1 mR ml hl mr hr
  (try dsimp only)
  (try k_fold)
  obtain ⟨m0, F1⟩ : ∃ m0, Fr _ _ _ m0 := ⟨_, F1⟩
  have mcT := s1 _ (.head _)
  have mcS := s1 _ (.tail _ (.head _))
  have mcR := s1 _ (.tail _ (.tail _ (.head _)))
  have mcL := s1 _ (.tail _ (.tail _ (.tail _ (.head _))))
  have mtb := s1 _ (.tail _ (.tail _ (.tail _ (.tail _ (.head _)))))
  clear s1
  have c12 : s₁.heap.objs.size + 1 < s₁.heap.objs.size + 1 + 1 := by omega
  have c13 : s₁.heap.objs.size + 1 < s₁.heap.objs.size + 1 + 1 + 1 := by omega
  have c14 : s₁.heap.objs.size + 1 < s₁.heap.objs.size + 1 + 1 + 1 + 1 := by omega
  have c23 : s₁.heap.objs.size + 1 + 1 < s₁.heap.objs.size + 1 + 1 + 1 := by omega
  have c24 : s₁.heap.objs.size + 1 + 1 < s₁.heap.objs.size + 1 + 1 + 1 + 1 := by omega
  have c34 : s₁.heap.objs.size + 1 + 1 + 1 < s₁.heap.objs.size + 1 + 1 + 1 + 1 := by omega
  have t1 : 123 < s₁.heap.objs.size + 1 := by omega
  have t2 : 123 < s₁.heap.objs.size + 1 + 1 := by omega
  have t3 : 123 < s₁.heap.objs.size + 1 + 1 + 1 := by omega
  have t4 : 123 < s₁.heap.objs.size + 1 + 1 + 1 + 1 := by omega
  have hrl := hr.length
  have hll := hl.length
  have hlr : rows.length = leads.length := by have := congrArg List.length hws; simpa using this
  refine' unpackN_ ?kF ?kN (tup_of N1 mR) rfl rfl rfl ?_
  case kF => exact F1
  case kN => exact N1
  clear F1 mR N1
  intro h2 F2 N2
  (try dsimp only)
  (try k_fold)
  k_steps
  refine store_cell F2 N2 mcL (by assumption) (rfl) (rfl) (rfl) ?_
  intro h3 oL led3 dL F3 N3 mL3 k3
  have S3 := KeepS.cell N2 mcL (by assumption) k3
  have mcT3 := k3 _ mcT (Nat.ne_of_gt (by omega))
  have mcS3 := k3 _ mcS (Nat.ne_of_gt (by omega))
  have mcR3 := k3 _ mcR (Nat.ne_of_gt (by omega))
  have mtb3 := k3 _ mtb (Nat.ne_of_lt (by omega))
  have ml3 := S3.lst ml
  have mr3 := S3.lst mr
  clear mcT mcS mcR mcL mtb ml mr k3 S3 F2 N2
  (try dsimp only)
  (try k_fold)
  k_steps
  refine unpark ?_
  (rename Fr _ _ _ _ => lF)
  refine LCg.Assign_ListComp_U lF rfl rfl rfl (by decide) rfl (by decide) rfl rfl rfl ?_ (fun _ => rfl)
  k_steps
  refine unpark ?_
  (rename News _ _ _ led3 => lN)
  refine LCg.CompSrc.ledger (its := rvs.toArray) (k := er) rfl lF lN mr3 (by rw [List.size_toArray, sizeLine_eq]; omega) ?_
  intro g
  rw [show rvs.toArray.size = rows.length by rw [List.size_toArray]; exact hrl]
  refine' comp_marks (rows := rows) ?kB ?kX ?kT ?kK ?kD ?kU hr (fun x hx => (hsz x hx).1) ?hg ?hks ?hn1 ?hn2 ?kFin rows.length 0 [] led3 (by omega) mr3 .nil (fun _ h => h)
  case kB => k_asm
  case kX => k_asm
  case kT => k_asm
  case kK => exact rfl
  case kD => walk_at "law room"
  case kU => walk_at "law room"
  case hg => exact rfl
  case hks => exact fun _ => rfl
  case hn1 => exact fun _ => rfl
  case hn2 => exact fun _ => rfl
  case kFin =>
  intro mvs led4 M4 k4 lm h4 tk4 F4 N4 o4
  clear lF lN
  obtain ⟨led5, N5, k5, mm5⟩ : ∃ led5, News _ _ _ led5 ∧ (∀ p ∈ led4, p ∈ led5) ∧ (lm, listOf mvs.toArray mvs.length) ∈ led5 := ⟨_, N4, fun _ h => .tail _ h, .head _⟩
  obtain ⟨m5, F5⟩ := fr_abs F4 [(Str.ofString "rows", .ref lr), (Str.ofString "marks", .ref lm)] (by kst_all)
  have S5 : KeepS led3 led5 := .of fun p hp => k5 p (k4 p hp)
  have M5 := MarksIn.up k5 M4
  have mL5 := k5 _ (k4 _ mL3)
  have mcT5 := k5 _ (k4 _ mcT3)
  have mcS5 := k5 _ (k4 _ mcS3)
  have mcR5 := k5 _ (k4 _ mcR3)
  have mtb5 := k5 _ (k4 _ mtb3)
  have ml5 := S5.lst ml3
  have mr5 := S5.lst mr3
  clear mL3 mcT3 mcS3 mcR3 mtb3 ml3 mr3 F4 N4 M4 k4 k5 S5 o4
  dsimp only [kstB] at F5
  (try dsimp only)
  (try k_fold)
  k_steps
  refine unpark ?_
  k_dflt (refine' longest1_spec (leads := leads) ?k1 ?k2 ?k3 ?k4 ?k5 ?k6 ?k7 ?k8 ml5 hl hS ?kl ?_; (case k1 => k_asm); (case k2 => k_asm); (case k3 => k_asm); (case k4 => k_asm); (case k5 => k_asm); (case k6 => first | exact rfl | assumption); (case k7 => walk_at "law room"); (case k8 => walk_at "law room"); (case kl => omega))
  intro M tM h6 tk6 hM1 hM2 F6 N6
  (try dsimp only)
  (try k_fold)
  k_steps
  refine unpark ?_
  (rename Fr _ _ _ _ => lF)
  obtain ⟨tW, m6, F6⟩ : ∃ (tW : Tok) (m6 : Str → Option Value), Fr _ _ _ (kstB m6 [(Str.ofString "rows", .ref lr), (Str.ofString "marks", .ref lm), (Str.ofString "widest", .int (M + 1) tW)]) := ⟨_, fr_abs lF _ (by kst_all)⟩
  clear lF
  dsimp only [kstB] at F6
  have hM0 : 0 ≤ M ∧ M ≤ 4 := by
    obtain ⟨x, hx, e⟩ := hM1
    have := lead_facts (hS x hx)
    rw [e]; exact ⟨this.2.1, this.2.2.1⟩
  refine Assign_ListComp_V F6 rfl rfl rfl rfl rfl rfl rfl (by decide) (fun _ _ => rfl) ?_ (fun _ => rfl)
  k_steps
  (rename Fr _ _ _ _ => lF)
  (rename News _ _ _ led5 => lN)
  (rename IsRange _ _ _ _ _ _ _ _ => rgX)
  refine CompV.mk (M + 1).toNat (fun i ys led => (∀ p ∈ led5, p ∈ led) ∧ RowsAre (fun i => leads.map fun x => colV x ((i : Int) + 1)) led ys i ∧ ys.length = i) rfl lF lN rgX (small_one (by omega) (by omega) (by omega) (by omega)) ((rangeSize_nat _ _).trans (by rw [Int.add_sub_cancel])) (by omega) ⟨fun _ h => h, (fun _ h => by omega), rfl⟩ ?turn ?done
  case turn =>
    rintro i ys led I oI C oC c oc D h tk t E' hi ⟨kk, R1, hyl⟩ hoc off ne F7 N7
    refine LCg.ListComp_U F7 rfl (by decide) rfl (by decide) rfl ?_ (fun _ => rfl)
    refine wpAny_Name (wpAny_loadName_cell rfl rfl rfl ⟨oL, (N7 _ (.tail _ (.tail _ (.tail _ (.tail _ (kk _ mL5)))))).1, dL⟩ ?_) rfl
    refine LCg.CompSrc.ledger (its := lvs.toArray) (k := el) rfl F7 N7 (.tail _ (.tail _ (.tail _ (.tail _ (kk _ ml5))))) (by rw [List.size_toArray, sizeLine_eq]; omega) ?_
    intro g
    rw [show lvs.toArray.size = leads.length by rw [List.size_toArray]; exact hll]
    refine' comp_cols (leads := leads) (z := Str.ofString "size") (c := c) (oc := oc) ?kB ?kX ?kT ?kK ?kD ?kU hl (fun x hx => Nat.le_trans (lead_facts (hS x hx)).2.2.2.2.2.1 (by decide)) (by omega) hoc ?hg ?hks ?hn1 ?hn2 ?hn3 ?hn4 (by decide) ?kFin leads.length 0 [] _ (by omega) (.tail _ (.tail _ (.tail _ (.tail _ (kk _ ml5))))) (.tail _ (.tail _ (.head _))) .nil (fun _ h => h)
    case kB => k_asm
    case kX => k_asm
    case kT => k_asm
    case kK => exact rfl
    case kD => walk_at "law room"
    case kU => walk_at "law room"
    case hg => exact rfl
    case hks => exact fun _ => rfl
    case hn1 => exact fun _ => rfl
    case hn2 => exact fun _ => rfl
    case hn3 => exact fun _ => rfl
    case hn4 => exact fun _ => rfl
    case kFin =>
    intro ys2 led8 hI8 k8 D8 h8 tk8 F8 N8 o8
    refine TurnV.mk ((D8, listOf ys2.toArray ys2.length) :: led) F8 (fun p hp => N8 p ?_) (fun p hp => ?_) ⟨fun p hp => .tail _ (kk p hp), ?_, by simp [hyl]⟩
    · simp only [List.mem_cons] at hp
      rcases hp with h | h | h | h | h | h
      · exact .tail _ (k8 _ (by rw [h]; exact .head _))
      · exact .tail _ (k8 _ (by rw [h]; exact .tail _ (.head _)))
      · exact .tail _ (k8 _ (by rw [h]; exact .tail _ (.tail _ (.head _))))
      · exact .tail _ (k8 _ (by rw [h]; exact .tail _ (.tail _ (.tail _ (.head _)))))
      · rw [h]; exact .head _
      · exact .tail _ (k8 _ (.tail _ (.tail _ (.tail _ (.tail _ h)))))
    · rcases List.mem_cons.mp hp with rfl | hp
      · exact ⟨(off1_mem o8 _ (k8 _ (.head _))).symm, (off1_mem o8 _ (k8 _ (.tail _ (.head _)))).symm, (off1_mem o8 _ (k8 _ (.tail _ (.tail _ (.head _))))).symm, (off1_mem o8 _ (k8 _ (.tail _ (.tail _ (.tail _ (.head _)))))).symm⟩
      · exact off p hp
    · refine RowsAre.snoc (R1.keep (.of fun p hp => .tail _ hp)) hyl (.head _) ?_
      have e : (1 : Int) + (i : Int) = (i : Int) + 1 := by omega
      rw [← e]; exact hI8
  case done =>
  intro lw h7 tk7 wvs led7 ⟨kk, W7, hwl⟩ F7 N7 o7
  clear lF lN rgX
  obtain ⟨led8, N8, k8, k7, mw8⟩ : ∃ led8, News _ _ _ led8 ∧ (∀ p ∈ led5, p ∈ led8) ∧ (∀ p ∈ led7, p ∈ led8) ∧ (lw, listOf wvs.toArray wvs.length) ∈ led8 := ⟨_, N7, fun _ h => .tail _ (kk _ h), fun _ h => .tail _ h, .head _⟩
  have W8 := W7.keep (.of k7)
  obtain ⟨m8, F8⟩ := fr_abs F7 [(Str.ofString "rows", .ref lr), (Str.ofString "marks", .ref lm), (Str.ofString "widest", .int (M + 1) tW), (Str.ofString "walks", .ref lw)] (by kst_all)
  have S8 : KeepS led5 led8 := .of k8
  have M8 := MarksIn.up k8 M5
  have mL8 := k8 _ mL5
  have mcT8 := k8 _ mcT5
  have mcS8 := k8 _ mcS5
  have mcR8 := k8 _ mcR5
  have mtb8 := k8 _ mtb5
  have ml8 := S8.lst ml5
  have mr8 := S8.lst mr5
  have mm8 := S8.lst mm5
  clear mL5 mcT5 mcS5 mcR5 mtb5 ml5 mr5 mm5 M5 F7 N7 kk k8 k7 S8 o7 W7
  dsimp only [kstB] at F8
  (try dsimp only)
  (try k_fold)
  k_steps
  refine unpark ?_
  refine wpAny_Assign_Name ?_
  refine LCg.ListComp_U F8 rfl (by decide) rfl (by decide) rfl ?_ (fun _ => rfl)
  k_steps
  refine unpark ?_
  (rename Fr _ _ _ _ => lF)
  (rename News _ _ _ led8 => lN)
  refine LCg.CompSrc.ledger (its := wvs.toArray) (k := wvs.length) rfl lF lN mw8 (by rw [List.size_toArray, sizeLine_eq]; omega) ?_
  intro g
  rw [show wvs.toArray.size = (M + 1).toNat by rw [List.size_toArray]; exact hwl]
  refine' comp_rds (f := fun i => leads.map fun x => colV x ((i : Int) + 1)) (K := (M + 1).toNat) ?kB ?kX ?kT ?kK ?kD ?kU W8 hwl (fun i hi => cols_ok hlen hhd.1 hS (by omega)) ?hg ?hks ?hn1 ?hn2 ?kFin (M + 1).toNat 0 [] led8 (by omega) mw8 (fun _ h => by omega) rfl (fun _ h => h)
  case kB => k_asm
  case kX => k_asm
  case kT => k_asm
  case kK => exact rfl
  case kD => walk_at "law room"
  case kU => walk_at "law room"
  case hg => exact rfl
  case hks => exact fun _ => rfl
  case hn1 => exact fun _ => rfl
  case hn2 => exact fun _ => rfl
  case kFin =>
  intro dvs led9 R9 hdl k9 lR h9 tk9 F9 N9 o9
  clear lF lN
  refine store_cell F9 N9 (.tail _ (k9 _ mcR8)) (by assumption) rfl rfl rfl ?_
  intro h10 oR led10 dR F10 N10 mR10 k10
  have S10 := KeepS.cell N9 (.tail _ (k9 _ mcR8)) (by assumption) k10
  have S9 : KeepS led8 led10 := (KeepS.of fun p hp => .tail _ (k9 p hp)).trans S10
  have mcL10 := k10 _ (.tail _ (k9 _ mL8)) (Nat.ne_of_lt (by omega))
  have mcT10 := k10 _ (.tail _ (k9 _ mcT8)) (Nat.ne_of_gt (by omega))
  have mcS10 := k10 _ (.tail _ (k9 _ mcS8)) (Nat.ne_of_gt (by omega))
  have mtb10 := k10 _ (.tail _ (k9 _ mtb8)) (Nat.ne_of_lt (by omega))
  have R10 := R9.keep ((KeepS.of fun p hp => .tail _ hp).trans S10)
  simp only [rv_read] at R10
  have LW10 : LW s₁.heap.objs.size ll lr lm lw lR el er mvs.length wvs.length dvs.length lvs rvs mvs wvs dvs leads rows (M + 1).toNat led10 :=
    ⟨⟨oL, dL, mcL10⟩, ⟨oR, dR, mR10⟩, S9.lst ml8, S9.lst mr8, S9.lst mm8, S9.lst mw8, S10.lst (.head _), M8.keep S9, W8.keep S9, R10⟩
  clear S9 S10 mcL10 mR10 R10 k10 k9 F9 N9 o9 R9 W8 M8 ml8 mr8 mm8 mw8 mL8 mcT8 mcS8 mcR8 mtb8 dL dR
  (try dsimp only)
  (try k_fold)
  k_steps
  refine unpark ?_
  refine store_cell F10 N10 mcS10 (by assumption) rfl rfl rfl ?_
  intro h11 oS led11 dS F11 N11 mS11 k11
  have S11 := KeepS.cell N10 mcS10 (by assumption) k11
  have mcT11 := k11 _ mcT10 (Nat.ne_of_gt (by omega))
  have mtb11 := k11 _ mtb10 (Nat.ne_of_lt (by omega))
  have LW11 := LW10.step S11 k11 (Nat.ne_of_lt (by omega)) (Nat.ne_of_lt (by omega))
  obtain ⟨oT, vT, dT, mcT⟩ : ∃ (oT : Obj) (vT : Option Value), oT.data = .cell vT ∧ (s₁.heap.objs.size + 1 + 1 + 1 + 1, oT) ∈ led11 := ⟨_, _, by assumption, mcT11⟩
  have hrl2 : rvs.length = leads.length := hrl.trans hlr
  clear S11 k11 mcS10 mcT10 mtb10 LW10 N10 F10 mcT11 hrl
  obtain ⟨tS, dS⟩ : ∃ tS, oS.data = .cell (some (.int ((1 : Nat) : Int) tS)) := ⟨_, dS⟩
  (try dsimp only)
  (try k_fold)
  k_steps
  refine unpark ?_
  (rename Fr _ _ _ _ => lF)
  (rename News _ _ _ _ => lN)
  have hSl : ∀ i, atS leads i ∈ leadS := fun i => by
    show leads.getD i (Str.ofString "") ∈ leadS
    rw [List.getD_eq_getElem?_getD]
    cases e : leads[i]? with
    | none => exact mem_leadS (by decide) (by decide)
    | some x => exact hS x (List.mem_of_getElem? e)
  have hgl : ∀ i, lgV (atS leads i) < M + 1 := fun i => by
    show lgV (leads.getD i (Str.ofString "")) < M + 1
    rw [List.getD_eq_getElem?_getD]
    cases e : leads[i]? with
    | none => have e0 : lgV (Str.ofString "") = 0 := by decide
              show lgV (Str.ofString "") < M + 1
              omega
    | some x => have := hM2 x (List.mem_of_getElem? e)
                show lgV x < M + 1
                omega
  obtain ⟨PW, toL, ofL⟩ : ∃ PW : List (Addr × Obj) → Prop, (∀ led, PW led → LW s₁.heap.objs.size ll lr lm lw lR el er mvs.length wvs.length dvs.length lvs rvs mvs wvs dvs leads rows (M + 1).toNat led) ∧ (∀ led, LW s₁.heap.objs.size ll lr lm lw lR el er mvs.length wvs.length dvs.length lvs rvs mvs wvs dvs leads rows (M + 1).toNat led → PW led) := ⟨_, fun _ h => h, fun _ h => h⟩
  have upP : ∀ (led led' : List (Addr × Obj)), PW led → (∀ p ∈ led, p ∈ led') → PW led' := fun _ _ h k => ofL _ ((toL _ h).up k)
  have stepP : ∀ (led led' : List (Addr × Obj)) (a : Addr), PW led → KeepS led led' → (∀ p ∈ led, p.1 ≠ a → p ∈ led') → s₁.heap.objs.size + 1 ≠ a → s₁.heap.objs.size + 1 + 1 ≠ a → PW led' := fun _ _ _ h k hs h1 h2 => ofL _ ((toL _ h).step k hs h1 h2)
  have PW11 := ofL _ LW11
  clear LW11
  refine join_stop (c := s₁.heap.objs.size + 1 + 1 + 1) (P := StopF s₁.heap.objs.size M leads PW) (g := ghostOf s₁.heap [(127, 123)]) (L := s₁.heap.objs.size) lF ?jw ?jr
  case jw =>
    refine' ksw_while (fun c : Nat × List (Addr × Obj) => c.2) (fun _ => []) (fun _ => True) [] (fun c => StopI s₁.heap.objs.size M leads PW c.1 c.2) (fun c => leads.length - c.1) (1, led11) ?kF ?kN trivial (fun _ h => nomatch h) ⟨Nat.le_refl _, hlen.1, fun i a b => absurd b (Nat.not_lt.mpr a), ⟨oS, tS, dS, mS11⟩, PW11, ⟨oT, vT, dT, mcT⟩, mtb11⟩ ?turn
    case kF => exact lF
    case kN => exact lN
    case turn =>
    clear lF lN dS mS11 PW11 dT mcT mtb11
    rintro ⟨stop, led⟩ u h tk _ ⟨hs1, hs2, hag, ⟨oS, tS, dS, mS⟩, hPW, hT, hTb⟩ F7 N7
    dsimp only [kstB] at hs1 hs2 hag dS mS hPW hT hTb F7 N7
    have hLW := toL _ hPW
    simp only [List.contains_nil, Bool.false_eq_true, if_false] at F7
    have mr7 := hLW.mr
    have hs62 : ((stop : Nat) : Int) < 2 ^ 62 := by omega
    have mR7 := hLW.mR
    obtain ⟨oR, dR, mcR⟩ := hLW.cR
    have hRr := hLW.R
    clear hLW
    by_cases hlt : stop < leads.length
    rotate_left
    · k_steps
      (refine unpark ?_; (k_here; k_dflt (refine' len_led ?k1q1 ?k2q1 ?k3q1 ?k4q1 ?_; (case k1q1 => k_asm); (case k2q1 => first | with_reducible assumption | k_mem); (case k3q1 => assumption); (case k4q1 => omega); k_whole)))
      k_steps
      (rename Fr _ _ _ _ => lF)
      (rename News _ _ _ _ => lN)
      exact ⟨rfl, _, _, led, stop, oS, tS, rfl, lF, lN, dS, mS, hs1, hs2, hag, .inl (by omega), hPW, hT, hTb⟩
    · have hnn := fun t ht => agree_nn (t := t) hSl (K := M + 1) (by omega) hgl hlen.1 hag ht
      have hln : ∀ i : Nat, i < (M + 1).toNat → stop < (RV (atS leads) leads.length ((i : Int) + 1)).length := fun i hi => RV_lt hlen.1 hlt (hnn _ (.inl (by omega)))
      obtain ⟨a0, c0, e0, t0, x0, y0, z0⟩ := row_at hRr (i := 0) (by omega) (hln 0 (by omega))
      rw [show (((0 : Nat) : Int) + 1) = 1 from rfl] at z0
      generalize hv0 : (RV (atS leads) leads.length 1).getD stop 0 = v0 at z0
      have x0' : dvs[(0 : Int).toNat]? = some (.ref a0) := x0
      have z0' : c0[((stop : Nat) : Int).toNat]? = some (.int v0 t0) := by rw [Int.toNat_natCast]; exact z0
      k_steps
      (refine unpark ?_; (k_here; k_dflt (refine' len_led ?k1q2 ?k2q2 ?k3q2 ?k4q2 ?_; (case k1q2 => k_asm); (case k2q2 => first | with_reducible assumption | k_mem); (case k3q2 => assumption); (case k4q2 => omega); k_whole)))
      k_steps
      (refine unpark ?_; (k_here; k_dflt (refine' item_any ?k1q3 ?k2q3 ?k3q3 ?k4q3 ?k5q3 ?_; (case k1q3 => k_asm); (case k2q3 => first | with_reducible assumption | k_mem); (case k5q3 => first | with_reducible assumption | assumption); (case k3q3 => omega); (case k4q3 => omega); k_whole)))
      k_steps
      (refine unpark ?_; (k_here; k_dflt (refine' item_any ?k1q4 ?k2q4 ?k3q4 ?k4q4 ?k5q4 ?_; (case k1q4 => k_asm); (case k2q4 => first | with_reducible assumption | k_mem); (case k5q4 => first | with_reducible assumption | assumption); (case k3q4 => omega); (case k4q4 => omega); k_whole)))
      k_steps
      · refine unpark ?_
        (rename Fr _ _ _ _ => lF)
        (rename News _ _ _ _ => lN)
        refine LCg.ListComp_U lF rfl (by decide) rfl (by decide) rfl ?_ (fun _ => rfl)
        k_steps
        refine unpark ?_
        refine LCg.CompSrc.ledger (its := dvs.toArray) (k := dvs.length) rfl lF lN mR7 (by rw [List.size_toArray, sizeLine_eq]; omega) ?_
        intro g
        rw [show dvs.toArray.size = (M + 1).toNat by rw [List.size_toArray]; exact hdl]
        refine' comp_same hRr hdl (by omega) hln (by omega) dS dR mS mcR mR7 ?hks ?hn2 ?hn3 ?hc3 ?hn4 ?hc4 ?kFin (M + 1).toNat 0 [] led (by omega) .nil (fun _ h => h)
        case hks => exact fun _ => rfl
        case hn2 => exact fun _ => rfl
        case hn3 => exact fun _ => rfl
        case hc3 => exact fun _ => rfl
        case hn4 => exact fun _ => rfl
        case hc4 => exact fun _ => rfl
        case kFin =>
        intro ys led8 hB k8 D h8 tk8 F8 N8 o8
        clear lF lN
        (try dsimp only)
        (try k_fold)
        k_steps
        refine unpark ?_
        refine LSm.all_bools F8 N8 rfl (lst_of N8 (.head _)) hB ?_
        intro h9 tk9 F9 N9
        obtain ⟨bb, hbb⟩ : ∃ bb, (sameL (fun i => RV (atS leads) leads.length ((i : Int) + 1)) stop (M + 1).toNat).all id = bb := ⟨_, rfl⟩
        rw [hbb]
        clear F8 N8
        have k9 : ∀ p ∈ led, p ∈ (D, listOf ys.toArray ys.length) :: led8 := fun p hp => .tail _ (k8 p hp)
        have mS9 := k9 _ mS
        cases bb
        · k_steps
          (rename Fr _ _ _ _ => lF)
          (rename News _ _ _ _ => lN)
          refine ⟨rfl, _, _, _, stop, oS, tS, rfl, lF, lN, dS, mS9, hs1, hs2, hag, .inr fun q => ?_, upP _ _ hPW k9, ?_, k9 _ hTb⟩
          · have := (sameL_all (f := fun i => RV (atS leads) leads.length ((i : Int) + 1)) (stop := stop) (K := (M + 1).toNat)).mpr (fun j hj => (q.2 ((j : Int) + 1) (by omega) (by omega)).trans (q.2 (((0 : Nat) : Int) + 1) (by omega) (by omega)).symm)
            rw [hbb] at this
            cases this
          · obtain ⟨oT, vT, h1, h2⟩ := hT
            exact ⟨oT, vT, h1, k9 _ h2⟩
        · k_steps
          refine unpark ?_
          (rename Fr _ _ _ _ => lF)
          (rename News _ _ _ _ => lN)
          refine store_cell lF lN mS9 dS rfl rfl rfl ?_
          intro h12 oS2 led12 dS2 F12 N12 mS12 k12
          have S12 := KeepS.cell lN mS9 dS k12
          clear lF lN
          k_steps
          refine unpark ?_
          (rename Fr _ _ _ _ => lF)
          (rename News _ _ _ _ => lN)
          refine ksw_end (stop + 1, led12) lF lN (fun p hp => hp) trivial (fun _ h => nomatch h) (fun _ _ _ => rfl) ⟨by dsimp only; omega, by dsimp only; omega, fun i i1 i2 => ?_, ⟨oS2, _, dS2, mS12⟩, stepP _ _ _ (upP _ _ hPW k9) S12 k12 (Nat.ne_of_lt (by omega)) (Nat.ne_of_lt (by omega)), ?_, k12 _ (k9 _ hTb) (Nat.ne_of_lt (by omega))⟩ (by dsimp only; omega)
          · dsimp only at i2
            by_cases q : i < stop
            · exact hag i i1 q
            · have e : i = stop := by omega
              subst e
              have ha := sameL_all.mp hbb
              refine ⟨by rw [hv0]; with_reducible assumption, fun t t1 t2 => ?_⟩
              have := ha (t - 1).toNat (by omega)
              have e1 : (((t - 1).toNat : Nat) : Int) + 1 = t := by omega
              rw [e1] at this
              exact this
          · obtain ⟨oT, vT, h1, h2⟩ := hT
            exact ⟨oT, vT, h1, k12 _ (k9 _ h2) (Nat.ne_of_gt (by omega))⟩
      · (rename Fr _ _ _ _ => lF)
        (rename News _ _ _ _ => lN)
        exact ⟨rfl, _, _, led, stop, oS, tS, rfl, lF, lN, dS, mS, hs1, hs2, hag, .inr fun q => by have := q.1; rw [hv0] at this; omega, hPW, hT, hTb⟩
  case jr =>
  clear lF lN dS mS11 PW11 dT mcT mtb11
  intro h12 tk12 led12 stop oS tS F12 N12 dS mS ⟨hs1, hs2, hag, hst, hPW, ⟨oT, vT, dT, mT⟩, hTb⟩
  (try dsimp only)
  (try k_fold)
  k_steps
  refine unpark ?_
  refine wpAny_For ?_ (fun _ => rfl)
  have hM5 : Park (0 ≤ M ∧ M ≤ 4) := hM0
  k_steps
  refine unpark ?_
  (rename Fr _ _ _ _ => lF)
  (rename News _ _ _ _ => lN)
  (rename IsRange _ _ _ _ _ _ _ _ => rgX)
  refine list_of_range (n := (M + 1).toNat) rfl lF lN rgX (small_one (by omega) (by omega) (by omega) (by omega)) ((rangeSize_nat _ _).trans (by rw [Int.add_sub_cancel])) (by omega) ?_
  clear lF lN rgX
  intro l13 h13 tk13 tvs et F13 N13 lt13 hI13
  (try dsimp only)
  (try k_fold)
  k_steps
  refine unpark ?_
  (rename Fr _ _ _ _ => lF)
  (rename News _ _ _ (_ :: _ :: led12) => lN)
  refine add_ints lF lN (lst_of lN (.tail _ (.head _))) (lst_of lN (.head _)) hI13 (.cons 8 _ .nil) (by rw [rangeKs_length, sizeLine_eq]; show (M + 1).toNat + 1 ≤ _; omega) ?_
  clear lF lN
  intro lT h14 tvs2 F14 N14 hI14
  obtain ⟨led14, N14, u14, mlT⟩ : ∃ led14, News _ _ _ led14 ∧ (∀ p ∈ led12, p ∈ led14) ∧ (lT, listOf tvs2.toArray 0) ∈ led14 := ⟨_, N14, fun p hp => .tail _ (.tail _ (.tail _ hp)), .head _⟩
  (try dsimp only [qk])
  refine for_listC (fun _ => TabI (ghostOf s₁.heap [(127, 123)]) s₁.heap.objs.size lr lm lw lT stop tvs2 PW)
    rfl (by passes_own) F14 N14 (fun i gr m' led' gs hJ => hJ.lst) ⟨rfl, rfl, rfl, rfl, AllBare.of_eq hg, upP _ _ hPW u14, ⟨oS, tS, dS, u14 _ mS⟩, ⟨oT, vT, dT, u14 _ mT⟩, ⟨#[], .inl rfl, u14 _ hTb⟩, mlT⟩ ?turn ?done
  case turn =>
    clear F14 N14 hPW dS mS dT mT hTb lt13 u14 mlT
    rintro i v I oI gr m' led' gs h tk hv ⟨rfl, e1, e2, e3, hG, hPW, ⟨oS, tS, dS, mS⟩, ⟨oT, vT, dT, mT⟩, ⟨ps, hps, hTb⟩, mlT⟩ hoff F7 N7
    obtain ⟨tb, tt, rfl, htb⟩ : ∃ tb tt, v = .int tb tt ∧ (1 ≤ tb ∧ tb ≤ M + 1 ∨ tb = 8) := by
      have hi := (List.getElem?_eq_some_iff.mp hv).1
      rw [hI14.length] at hi
      obtain ⟨t, ht⟩ := hI14.get i _ (List.getElem?_eq_getElem hi)
      rw [hv] at ht
      refine ⟨_, t, Option.some.inj ht, ?_⟩
      have hm := List.getElem_mem hi
      rcases List.mem_append.mp hm with hm | hm
      · have := mem_rangeKs.mp hm
        exact .inl (by omega)
      · exact .inr (List.mem_singleton.mp hm)
    refine wpAny_assign_Name (store_cell F7 N7 (.tail _ mT) dT rfl rfl rfl ?_)
    intro h16 oT2 led16 dT2 F16 N16 mT16 k16
    have S16 := KeepS.cell N7 (.tail _ mT) dT k16
    have PW16 := stepP _ _ _ (upP led' ((I, oI) :: led') hPW fun p hp => .tail _ hp) S16 k16 (Nat.ne_of_lt (by omega)) (Nat.ne_of_lt (by omega))
    have LW16 := toL _ PW16
    have mS16 := k16 _ (.tail _ mS) (Nat.ne_of_lt (by omega))
    have mTb16 := k16 _ (.tail _ hTb) (Nat.ne_of_lt (by omega))
    have mI16 := k16 _ (.head _) (hoff _ mT).symm
    have ml16 := LW16.ml
    obtain ⟨oL, dL, mL16⟩ := LW16.cL
    clear LW16
    have SO : ∀ p ∈ led', Solid p.2 → (p.1 : Nat) ≠ s₁.heap.objs.size + 1 + 1 + 1 + 1 ∧ (p.1 : Nat) ≠ 123 := by
      have N7' : News _ _ h led' := fun p hp => N7 p (.tail _ hp)
      exact fun p hp hs => ⟨cell_ne N7' mT dT hp hs, tab_ne N7' hTb p.1 p.2 hp hs.1⟩
    obtain ⟨m16, F16⟩ := fr_abs F16 [(Str.ofString "rows", .ref lr), (Str.ofString "marks", .ref lm), (Str.ofString "walks", .ref lw)] (List.forall_mem_cons.mpr ⟨e1, List.forall_mem_cons.mpr ⟨e2, List.forall_mem_cons.mpr ⟨e3, fun _ h => nomatch h⟩⟩⟩)
    dsimp only [kstB] at F16
    (try dsimp only)
    (try k_fold)
    k_steps
    refine unpark ?_
    (rename Fr _ _ _ _ => lF)
    (rename News _ _ _ led16 => lN)
    refine LCg.ListComp_U lF rfl (by decide) rfl (by decide) rfl ?_ (fun _ => rfl)
    k_steps
    refine unpark ?_
    refine LCg.CompSrc.ledger (its := lvs.toArray) (k := el) rfl lF lN ml16 (by rw [List.size_toArray, sizeLine_eq]; omega) ?_
    intro g
    rw [show lvs.toArray.size = leads.length by rw [List.size_toArray]; exact hll]
    refine' comp_cols (leads := leads) (z := Str.ofString "tab") (c := s₁.heap.objs.size + 1 + 1 + 1 + 1) (oc := oT2) ?kB ?kX ?kT ?kK ?kD ?kU hl (fun x hx => Nat.le_trans (lead_facts (hS x hx)).2.2.2.2.2.1 (by decide)) (by omega) dT2 ?hg ?hks ?hn1 ?hn2 ?hn3 ?hn4 (by decide) ?kFin leads.length 0 [] led16 (by omega) ml16 mT16 .nil (fun _ h => h)
    case kB => k_asm
    case kX => k_asm
    case kT => k_asm
    case kK => exact rfl
    case kD => walk_at "law room"
    case kU => walk_at "law room"
    case hg => exact rfl
    case hks => exact fun _ => rfl
    case hn1 => exact fun _ => rfl
    case hn2 => exact fun _ => rfl
    case hn3 => exact fun _ => rfl
    case hn4 => exact fun _ => rfl
    case kFin =>
    intro cvs led17 hI17 k17 D17 h17 tk17 F17 N17 o17
    clear lF lN
    (try dsimp only)
    (try k_fold)
    k_steps
    refine unpark ?_
    have hck := cols_ok hlen hhd.1 hS (t := tb) (by omega)
    k_dflt (refine' read_spec ?k1 ?k2 ?k3 ?k4 ?k5 ?k6 ?k7 ?k8 (.head _) hI17 hck.1 hck.2.1 hck.2.2 ?_; (case k1 => k_asm); (case k2 => k_asm); (case k3 => k_asm); (case k4 => k_asm); (case k5 => k_asm); (case k6 => first | exact rfl | assumption); (case k7 => walk_at "law room"); (case k8 => walk_at "law room"))
    intro rR hvs eh h18 tk18 F18 N18 n18 H18
    rw [rv_read] at H18
    obtain ⟨led18, N18, k18, mR18⟩ : ∃ led18, News _ _ _ led18 ∧ (∀ p ∈ led16, p ∈ led18) ∧ (rR, listOf hvs.toArray eh) ∈ led18 := ⟨_, N18, fun p hp => .tail _ (.tail _ (k17 p hp)), .head _⟩
    have PW18 := upP _ _ PW16 k18
    have LW18 := toL _ PW18
    have mS18 := k18 _ mS16
    have mT18 := k18 _ mT16
    have mTb18 := k18 _ mTb16
    have mI18 := k18 _ mI16
    clear PW16 mS16 mT16 mTb16 mI16 ml16 mL16 dL n18 k17 o17 hck
    (try dsimp only)
    (try k_fold)
    k_steps
    refine unpark ?_
    (rename News _ _ _ led18 => lN)
    k_dflt (refine' nanny_spec (rows := rows) (tab := tb) ?k1 ?k2 ?k3 ?k4 ?k5 ?k6 ?k7 ?k8 mTb18 hps ?kC ?kG LW18.mr hr LW18.mm LW18.M (by omega) (by rw [show atS rows 0 = Str.ofString "" from at_0 hhd.2]; rfl) (fun x hx => (hsz x hx).1) (by omega) ?_; (case k1 => k_asm); (case k2 => k_asm); (case k3 => k_asm); (case k4 => k_asm); (case k5 => k_asm); (case k6 => first | exact rfl | assumption); (case k7 => walk_at "law room"); (case k8 => walk_at "law room"); (case kC => assumption); (case kG => exact hG))
    intro r20 led20 h20 g20 tk20 F20 N20 k20 hTb20 hG20 D20
    have S20 := KeepS.tab lN mTb18 rfl k20
    have LW20 := toL _ (stepP _ _ _ PW18 S20 k20 (Nat.ne_of_gt (by omega)) (Nat.ne_of_gt (by omega)))
    have mS20 := k20 _ mS18 (Nat.ne_of_gt (by omega))
    have mT20 := k20 _ mT18 (Nat.ne_of_gt (by omega))
    have mR20 := S20.lst mR18
    have mI20 : (I, oI) ∈ led20 := k20 _ mI18 fun e => hoff _ hTb e.symm
    obtain ⟨oL2, dL2, mL20⟩ := LW20.cL
    clear LW18 PW18 mS18 mT18 mTb18 mR18 mI18 S20
    (try dsimp only)
    (try k_fold)
    k_steps
    refine unpark ?_
    have hnn := agree_nn hSl (K := M + 1) (by omega) hgl hlen.1 hag htb
    have hWk : WalksAre led20 wvs leads (M + 1) := by
      have := LW20.W.walks
      rw [show (((M + 1).toNat : Nat) : Int) = M + 1 by omega] at this
      exact this
    k_dflt (refine' told1_spec (K := M + 1) (stop := stop) ?k1 ?k2 ?k3 ?k4 ?k5 ?k6 ?k7 ?k8 LW20.ml hl LW20.mr hr LW20.mw hWk mR20 H18 hS (by omega) (fun x hx => by have := hM2 x hx; omega) hlr.symm (by omega) (by omega) ?hR0 hnn ?hR2 ?hR3 ?hR4 ?_; (case k1 => k_asm); (case k2 => k_asm); (case k3 => k_asm); (case k4 => k_asm); (case k5 => k_asm); (case k6 => first | exact rfl | assumption); (case k7 => walk_at "law room"); (case k8 => walk_at "law room"))
    case hR0 => rw [hlr]; exact RV_bd hlen.1
    case hR2 =>
      have := RV_lt (lead := atS leads) (t := tb) (stop := stop - 1) hlen.1 (by omega) (fun j hj => hnn j (by omega))
      omega
    case hR3 => exact fun q => RV_lt hlen.1 (by omega) hnn
    case hR4 => have := (RV_le (lead := atS leads) (t := tb) hlen.1).1; omega
    intro r22 led22 h22 tk22 F22 N22 k22 D22
    have D20' := DatIn.mono k22 D20
    rw [hlr] at D20' D22
    rw [plain01 (lead := atS leads) (row := atS rows) (K := M + 1) hSl (fun i => ws_at hws i) (by omega) hgl (at_0 hhd.1) hlen.1 hs1 hs2 hag hst tb htb] at D20'
    have hkq := toldR_ok (lead := atS leads) (row := atS rows) (n := leads.length) (stop := stop) (R := RV (atS leads) leads.length tb) hSl (at_ok hsz stop)
    generalize toldR (atS leads) (atS rows) leads.length (RV (atS leads) leads.length tb) stop = dv at D20' D22 hkq
    (try dsimp only)
    (try k_fold)
    k_steps
    have hIcT : ∀ p ∈ led', (p.1 : Nat) ≠ s₁.heap.objs.size + 1 + 1 + 1 + 1 → (p.1 : Nat) ≠ 123 → p ∈ led22 := fun p hp q1 q2 => k22 _ (k20 _ (k18 _ (k16 _ (.tail _ hp) q1)) q2)
    have KZ : KeepS led' (offP I led22) := fun p hp hs => offP_in (hIcT p hp (SO p hp hs).1 (SO p hp hs).2) (hoff p hp)
    refine' ne_dat (d := dv) (d' := dv) ?eN ?eA ?eB hkq hkq ?eu ?_
    case eN => exact N22
    case eA => exact D20'
    case eB => exact D22
    case eu => walk_at "law room"
    rw [@decide_eq_true _ (Classical.propDecidable _) rfl]
    generalize hbb : (!true) = bb
    have hbf : bb = false := hbb.symm
    subst hbf
    clear hbb
    k_steps
    (rename Fr _ _ _ _ => lF)
    (rename News _ _ _ led22 => lN)
    obtain ⟨ps2, hps2, hTb2⟩ := hTb20
    refine ⟨_, _, offP I led22, _, _, _, rfl, lF, offP_news lN (k22 _ mI20), offP_ne, rfl, rfl, rfl, rfl, hG20,
      ofL _ ((toL _ hPW).step2 KZ (fun o mo => offP_in (hIcT _ mo (Nat.ne_of_lt (by omega)) (Nat.ne_of_gt (by omega))) (hoff _ mo)) (fun o mo => offP_in (hIcT _ mo (Nat.ne_of_lt (by omega)) (Nat.ne_of_gt (by omega))) (hoff _ mo))),
      ⟨oS, tS, dS, offP_in (k22 _ mS20) (hoff _ mS)⟩, ⟨oT2, _, dT2, offP_in (k22 _ mT20) (show @Ne Nat _ _ from hoff (_, oT) mT)⟩, ⟨ps2, hps2, offP_in (k22 _ hTb2) (show @Ne Nat _ _ from hoff (_, tabObj ps) hTb)⟩, KZ.lst mlT⟩
  case done =>
  rintro gr m' led' gs h tk ⟨rfl, _, _, _, hG, hPW, _, _, ⟨ps, hps, hTb⟩, _⟩ F15 N15
  clear F14 N14
  k_steps
  exact (show EndB _ _ _ _ from ⟨rfl, F15.keep, rfl, hG, GrownAt.of N15 hTb⟩))
end
end Mine
set_option maxRecDepth 100000 in
set_option maxHeartbeats 8000000 in
theorem PySem.Challenge.cw_sn0118_01_holds : PySem.Challenge.rw_sn0118_01.Holds := by
  exact Mine.top
