import PyProof.Rows.All
import Wide.All
import OpenK.AllK
import Wide.FinOn
import PySem.Challenge.RW_mr0087_01
set_option Elab.async false
set_option compiler.extract_closed false
namespace Mine
section
open PySem PySem.W PyProof.Rows
set_option maxRecDepth 100000 in
set_option maxHeartbeats 8000000 in
open_top hd for PySem.Challenge.rw_mr0087_01
end
theorem start_1 : True := by
  w_top off
  have : True ∧ True := by
    first
    | (walk1; done)
    | exact ⟨trivial, trivial⟩
  trivial
section
open PySem PySem.W PySem.Calls PyProof.Rows
set_option maxRecDepth 100000

theorem fill9 : (Challenge.rw_mr0087_01 = Challenge.rw_mr0087_01 ∧ hd.heap_39 = hd.heap_39) → True := by
  k_fill
  intro _; trivial

noncomputable abbrev Kp (h h' : Heap) : Prop := ∀ b o, h.get? b = some o → h'.get? b = some o

/-- the surroundings of a call: nothing is being handled -/
noncomputable abbrev AA (dp un : Nat) (gd : Option (List Code)) (fr : Option (List Env)) : Around := { handled := none, depth := dp, frames := fr, guards := gd, units := un }

/-- what a call leaves: the old heap kept, the promised new objects -/
noncomputable abbrev Fresh (h h' : Heap) (tl : List (Addr × Obj)) : Prop := ∀ p ∈ tl, h'.get? p.1 = some p.2 ∧ h.get? p.1 = none

noncomputable def Ctr (w : World) (dN uN : Nat) (f : Addr) (vs : List Value) (pre : Heap → Prop) (Post : Value → List (Addr × Obj) → Prop) : Prop :=
  ∀ (p : Program) (loose : List Str) (mean : ExcName → Option Value) (mg mb : Str → Option Value) (dp un : Nat) (gd : Option (List Code)) (fr : Option (List Env)) (s : Shared) (Q E : Value → Shared → Prop),
    (hd.heap_39 w.params).In s.heap → Top p loose mean mg mb s.heap → dp + dN < recursionLimit → un + uN < cLine → pre s.heap →
    (∀ (r : Value) (tl : List (Addr × Obj)) (h' : Heap) (tk' : Nat), Kp s.heap h' → Fresh s.heap h' tl → Post r tl → Q r { s with heap := h', toks := tk' }) →
    wpAny (model Challenge.pw_mr0087_01 w) (AA dp un gd fr) (call (.ref f) vs) Q E s

theorem fr_kp {h₀ h h' : Heap} {L : Addr} {m : Str → Option Value} (F : Fr h₀ L h m) (k : Kp h h') : Fr h₀ L h' m :=
  ⟨F.ns.keeps k, fun b o e => k b o (F.keep b o e), F.above⟩
theorem news_kp {h₀ h h' : Heap} {L : Addr} {news : List (Addr × Obj)} (N : News h₀ L h news) (k : Kp h h') : News h₀ L h' news :=
  fun p hp => ⟨k _ _ (N p hp).1, (N p hp).2⟩
theorem news_fresh {h₀ h h' : Heap} {L : Addr} {m : Str → Option Value} {news tl : List (Addr × Obj)} (F : Fr h₀ L h m) (N : News h₀ L h news) (k : Kp h h') (fr : Fresh h h' tl) : News h₀ L h' (tl ++ news) := by
  intro p hp
  rcases List.mem_append.mp hp with q | q
  · obtain ⟨a, b⟩ := fr p q
    refine ⟨a, fun e => ?_, ?_⟩
    · obtain ⟨oL, _, _, hL, _⟩ := F.ns
      rw [e, hL] at b; cases b
    · cases e : h₀.get? p.1 with
      | none => rfl
      | some o => rw [F.keep _ _ e] at b; cases b
  · exact news_kp N k p q
theorem fresh_ne {h₀ h h' : Heap} {L : Addr} {news tl : List (Addr × Obj)} (N : News h₀ L h news) (fr : Fresh h h' tl) : ∀ q ∈ news, ∀ p ∈ tl, q.1 ≠ p.1 := fun q hq p hp e => by
  have := (fr p hp).2
  rw [← e, (N q hq).1] at this; cases this

theorem useC {w : World} {dN uN : Nat} {f : Addr} {vs : List Value} {pre : Heap → Prop} {Post : Value → List (Addr × Obj) → Prop} {p : Program} {loose : List Str} {mean : ExcName → Option Value} {mg mb : Str → Option Value}
    {dp un : Nat} {gd : Option (List Code)} {fr : Option (List Env)} {s : Shared} {Q E : Value → Shared → Prop} {h₀ : Heap} {L : Addr} {m : Str → Option Value} {news : List (Addr × Obj)}
    (C : Ctr w dN uN f vs pre Post) (F : Fr h₀ L s.heap m) (X : (hd.heap_39 w.params).In h₀) (N : News h₀ L s.heap news) (T : Top p loose mean mg mb h₀) (hdp : dp + dN < recursionLimit) (hun : un + uN < cLine) (hp : pre s.heap)
    (h : ∀ (r : Value) (tl : List (Addr × Obj)) (h' : Heap) (tk' : Nat), Post r tl → Fr h₀ L h' m → News h₀ L h' (tl ++ news) → (∀ q ∈ news, ∀ p ∈ tl, q.1 ≠ p.1) → Q r { s with heap := h', toks := tk' }) :
    wpAny (model Challenge.pw_mr0087_01 w) (AA dp un gd fr) (call (.ref f) vs) Q E s :=
  C p loose mean mg mb dp un gd fr s Q E (X.keeps F.keep) (T.keeps F.keep) hdp hun hp fun r tl h' tk' k fr po => h r tl h' tk' po (fr_kp F k) (news_fresh F N k fr) (fresh_ne N fr)

section
variable {w : World} {p : Program} {loose : List Str} {mean : ExcName → Option Value} {mg mb : Str → Option Value} {A : Around} {s : Shared} {Q E : Value → Shared → Prop}
  {name qual : Str} {params : Arguments} {body : List Stmt} {scope : Scope} {dV kV doc pm cdv ct oc : Value} {an od : Option Addr} {osl : Array (Option Value)} {f : Addr} {vs : List Value} {binds : List (Str × Value)} {K : Frag}

theorem enter (X : K.In s.heap) (T : Top p loose mean mg mb s.heap)
    (ho : K.lookup f = some ⟨oc, od, .func (fnOf name qual params body scope dV kV doc pm an cdv ct), osl⟩) (hcd : codeIn K cdv qual = true) (hroom : A.depth < recursionLimit)
    (hbind : BindsTo s (fnOf name qual params body scope dV kV doc pm an cdv ct) ⟨vs, []⟩ binds) (hloc : ∀ y ∈ binds, scope.names.lookup y.1 = some .local)
    (h : ∀ L' h₁, Fr s.heap L' h₁ (fun y => binds.reverse.lookup y) → News s.heap L' h₁ [] →
      wpAny (model Challenge.pw_mr0087_01 w) (A.deeper (envOf qual scope L' f cdv)) (execs body (envOf qual scope L' f cdv))
        (fun fl s' => Q (match fl with | .ret v => v | _ => .none) s') (fun _ _ => False) { s with heap := h₁, toks := s.toks + binds.length })
    (hco : scope.isCoroutine = false) (hgen : scope.isGenerator = false) (hk : scope.kind = .function)
    (hcell : ∀ x ∈ scope.names, x.2 ≠ .cell) : wpAny (model Challenge.pw_mr0087_01 w) A (call (.ref f) vs) Q E s := by
  refine wpAny_call ?_
  refine codeAny_call_def (fd := fnOf name qual params body scope dV kV doc pm an cdv ct) (body := body) (binds := binds) hroom (X _ _ ho) rfl T.nolimit (codeRec_of X hcd) rfl hbind hcell hloc (fun h₁ hns hk₁ => ?_) hco hgen hk
  exact wpAny_mono (h s.heap.objs.size h₁ ⟨hns, hk₁, Nat.le_refl _⟩ News.nil) (fun fl s' hl => hl) fun _ _ x => x.elim

theorem enterC (X : K.In s.heap) (T : Top p loose mean mg mb s.heap)
    (ho : K.lookup f = some ⟨oc, od, .func (fnOf name qual params body scope dV kV doc pm an cdv ct), osl⟩) (hcd : codeIn K cdv qual = true) (hroom : A.depth < recursionLimit)
    (hbind : BindsTo s (fnOf name qual params body scope dV kV doc pm an cdv ct) ⟨vs, []⟩ binds) (hkind : (binds.all fun y => scope.names.lookup y.1 == some .local || scope.names.lookup y.1 == some .cell) = true)
    (hnd : ((cellsFrom 0 scope.names []).map (·.1)).Nodup)
    (h : ∀ L' h₁ tk cells, Fr s.heap L' h₁ (bindL (envOfC qual scope L' f cdv).kindOf binds fun _ => none) → News s.heap L' h₁ cells →
      CellsAre (bindC (envOfC qual scope L' f cdv).kindOf binds fun _ => none) (cellsFrom (L' + 1) scope.names []) cells →
      wpAny (model Challenge.pw_mr0087_01 w) (A.deeper (envOfC qual scope L' f cdv)) (execs body (envOfC qual scope L' f cdv))
        (fun fl s' => Q (match fl with | .ret v => v | _ => .none) s') (fun _ _ => False) { s with heap := h₁, toks := tk })
    (hco : scope.isCoroutine = false) (hgen : scope.isGenerator = false) (hk : scope.kind = .function) : wpAny (model Challenge.pw_mr0087_01 w) A (call (.ref f) vs) Q E s := by
  refine wpAny_call ?_
  refine codeAny_call_function hroom (X _ _ ho) rfl hco hgen rfl (codeRec_of X hcd) (hbind _ _ _ _ ?_)
  refine wpAny_newFunctionEnv_cells hk (kindsX hkind _) fun env' he s' x => ?_
  subst he
  refine ⟨T.nolimit.keeps x.toInCall.keep, codeAny_func ?_⟩
  obtain ⟨h₁, tk, rfl, _⟩ := x.done
  have hk₁ := x.toInCall.keep
  obtain ⟨cells, NC, Y⟩ := Cl.news (h₀ := s.heap) (Nat.le_refl _) fun n c hm => ⟨x.cell n c (lookup_of_mem_nodup (cellsFrom_names scope.names 0 (s.heap.objs.size + 1) [] [] rfl ▸ hnd) hm), x.above n c hm⟩
  exact wpAny_mono (h s.heap.objs.size h₁ tk cells ⟨x.toInCall.ns, hk₁, Nat.le_refl _⟩ NC Y) (fun fl s' hl => hl) fun _ _ y => y.elim
end
theorem room {u b c L : Nat} (h : u + b < L) (e : Nat.ble c b = true) : u + c < L := Nat.lt_of_le_of_lt (Nat.add_le_add_left (Nat.le_of_ble_eq_true e) u) h
theorem andL {zqA zqB : Prop} (zqh : zqA ∧ zqB) : zqA := zqh.1
theorem andR {zqA zqB : Prop} (zqh : zqA ∧ zqB) : zqB := zqh.2
theorem orL {zqA zqB : Prop} (zqh : zqA) : zqA ∨ zqB := .inl zqh
theorem orR {zqA zqB : Prop} (zqh : zqB) : zqA ∨ zqB := .inr zqh
theorem room0 {u b L : Nat} (h : u + b < L) : u < L := Nat.lt_of_le_of_lt (Nat.le_add_right u b) h
theorem ne1 {a : Nat} : a + 1 ≠ a := Nat.succ_ne_self a
theorem ne2 {a : Nat} : a + 1 + 1 ≠ a := by omega
theorem room2 {u b c d L : Nat} (h : u + b < L) (e : Nat.ble (c + d) b = true) : u + c + d < L := by rw [Nat.add_assoc]; exact room h e
theorem room3 {u b c d f L : Nat} (h : u + b < L) (e : Nat.ble (c + d + f) b = true) : u + c + d + f < L := by rw [Nat.add_assoc u]; exact room2 h e
theorem neS {a b : Nat} (h : a ≠ b) : b ≠ a := h.symm
theorem neL {a b : Nat} (h : a < b) : a ≠ b := Nat.ne_of_lt h
theorem neG {a b : Nat} (h : b < a) : a ≠ b := Nat.ne_of_gt h
end
section
open PySem PySem.W PySem.Calls PyProof.Rows
set_option maxRecDepth 100000
theorem fillsI_list : fillsInplaceSlot (.type "list") "add" (Operator.Add == .Add) = pure false := by
  unfold fillsInplaceSlot
  show (typeLookup (.type "list") (dunderI "add") >>= fun fi => pure (fi.isSome && !isSeqSlot fi)) = pure false
  rw [F.slot_list_iadd.lookup]
  show pure (true && !isSeqSlotId "list.__iadd__") = (pure false : Sem Bool)
  rw [show isSeqSlotId "list.__iadd__" = true by decide +kernel]; rfl
theorem seqI_list : seqSlot? (.type "list") (dunderI "add") = pure (some (.builtin "list.__iadd__")) := PySem.seqSlot_of F.slot_list_iadd.lookup (by decide +kernel)
section
variable {prog : Program} {w : World} {A : Around} {E : Value → Shared → Prop} {s : Shared} {l b : Addr} {items items2 : Array Value} {n n2 : Nat}
theorem iaddList {Q : Value → Shared → Prop} (hl : IsL s.heap l items n) (hb : IsL s.heap b items2 n2) (hdoor : ¬(!items.isEmpty && Builtin.List.listTooLong (items.size + items2.size)) = true)
    (h1 : items.size ≤ sizeLine) (h2 : items.size + items2.size ≤ sizeLine + 1) (h : Q (.ref l) { s with heap := s.heap.update l (Obj.mapSeq fun x => x ++ items2) }) : wpAny (model prog w) A (inplaceOp .Add (.ref l) (.ref b)) Q E s := by
  unfold inplaceOp
  refine wpAny_holding ?_
  have ha' : s.TypeIs (.ref l) "list" := ⟨_, hl, rfl⟩
  have hb' : s.TypeIs (.ref b) "list" := ⟨_, hb, rfl⟩
  refine wpAny_bind (wpAny_typeOf ha' (wpAny_bind (wpAny_of_eq fillsI_list ?_)))
  show wpAny _ A (if false = true then _ else _) Q E s
  rw [if_neg Bool.false_ne_true]
  refine wpAny_bind (binaryOp1_none (nm := "add") ha' hb' noFill_list_add ?_)
  refine wpAny_bind (wpAny_of_eq seqI_list ?_)
  exact wpAny_bind (wpAny_rule (call_meets F.slot_list_iadd ha' F.entry_list_iadd (F.args_list_iadd_2 _ _) (AutoSeq1.list___iadd___list_list_0 l items n b items2 n2 hdoor h1 h2) ⟨hl, hb, h⟩))
variable {h₀ : Heap} {L : Addr} {m : Str → Option Value} {news news' : List (Addr × Obj)} 
theorem iadd_K {Q : Value → Shared → Prop} (F : Fr h₀ L s.heap m) (N : News h₀ L s.heap news) (hm : (b, listOf items2 n2) ∈ news)
    (U : Upd l (listOf items n) (listOf (items ++ items2) (if (items ++ items2).size == items.size then n else n + 1)) news news')
    (hdoor : Builtin.List.listTooLong (items.size + items2.size) = false) (h1 : items.size ≤ sizeLine) (h2 : items.size + items2.size ≤ sizeLine + 1)
    (h : ∀ h', Fr h₀ L h' m → News h₀ L h' news' → Q (.ref l) { s with heap := h' }) : wpAny (model prog w) A (inplaceOp .Add (.ref l) (.ref b)) Q E s := by
  obtain ⟨pre, post, rfl, rfl, a, c⟩ := U.split
  have z := N (l, listOf items n) (List.mem_append.mpr (.inr (.head _)))
  refine iaddList (z.1) (N _ hm).1 (by rw [hdoor, Bool.and_false]; exact Bool.false_ne_true) h1 h2 ?_
  obtain ⟨F', N'⟩ := news_upd (f := Obj.mapSeq fun x => x ++ items2) F N a c rfl rfl
  exact h _ F' N'
end
end
section
open PySem PySem.W PySem.Calls PyProof.Rows
set_option maxRecDepth 100000
section
variable {prog : Program} {w : World} {A : Around} {E : Value → Shared → Prop} {s : Shared} {l : Addr} {items : Array Value} {h₀ : Heap} {L : Addr} {m : Str → Option Value} {news : List (Addr × Obj)}
  {value slice : PySem.Expr} {k : Int} {u : Tok} {v : Value} {j : Nat} {Q : Value → Shared → Prop}
theorem item_at (hl : s.heap.IsList l items) (hk : k = (j : Int)) (hx : items[j]? = some v) (hj : j < 2 ^ 63) (h : Q v s)
    (hs : subscripted slice false (.ref l) (.int k u) = operate [.ref l, .int k u] (getItem (.ref l) (.int k u))) :
    wpAny (model prog w) A (subscriptTail value slice (.ref l) (.int k u)) Q E s := by
  subst hk
  refine tail_any hl.typeIs slot_list_getitem.lookup (wpAny_getItem_list hl (Int.natCast_nonneg _) (by omega) (by simpa using hx) h) hs
theorem item_N (N : News h₀ L s.heap news) {dd : Option Addr} {sl : Array (Option Value)} {n : Nat} (hm : (l, (⟨.type "list", dd, .seq items n, sl⟩ : Obj)) ∈ news) (hk : k = (j : Int)) (hx : items[j]? = some v) (hj : j < 2 ^ 63) (h : Q v s)
    (hs : subscripted slice false (.ref l) (.int k u) = operate [.ref l, .int k u] (getItem (.ref l) (.int k u))) :
    wpAny (model prog w) A (subscriptTail value slice (.ref l) (.int k u)) Q E s := item_at ⟨_, (N _ hm).1, rfl, n, rfl⟩ hk hx hj h hs
theorem item_B (F : Fr h₀ L s.heap m) (hl : h₀.IsList l items) (hk : k = (j : Int)) (hx : items[j]? = some v) (hj : j < 2 ^ 63) (h : Q v s)
    (hs : subscripted slice false (.ref l) (.int k u) = operate [.ref l, .int k u] (getItem (.ref l) (.int k u))) :
    wpAny (model prog w) A (subscriptTail value slice (.ref l) (.int k u)) Q E s := item_at (stays_list F.keep hl) hk hx hj h hs
theorem item_Nt (N : News h₀ L s.heap news) {dd : Option Addr} {sl : Array (Option Value)} {n : Nat} (hm : (l, (⟨.type "list", dd, .seq items n, sl⟩ : Obj)) ∈ news) (hk : 0 ≤ k) (hx : items[k.toNat]? = some v) (hj : k.toNat < 2 ^ 63) (h : Q v s)
    (hs : subscripted slice false (.ref l) (.int k u) = operate [.ref l, .int k u] (getItem (.ref l) (.int k u))) :
    wpAny (model prog w) A (subscriptTail value slice (.ref l) (.int k u)) Q E s := item_N N hm (Int.toNat_of_nonneg hk).symm hx hj h hs
theorem item_Bt (F : Fr h₀ L s.heap m) (hl : h₀.IsList l items) (hk : 0 ≤ k) (hx : items[k.toNat]? = some v) (hj : k.toNat < 2 ^ 63) (h : Q v s)
    (hs : subscripted slice false (.ref l) (.int k u) = operate [.ref l, .int k u] (getItem (.ref l) (.int k u))) :
    wpAny (model prog w) A (subscriptTail value slice (.ref l) (.int k u)) Q E s := item_B F hl (Int.toNat_of_nonneg hk).symm hx hj h hs
theorem item_6 (N : News h₀ L s.heap news) {n : Nat} {v0 v1 v2 v3 v4 v5 : Value} (hm : (l, listOf #[v0, v1, v2, v3, v4, v5] n) ∈ news) (hk : 0 ≤ k ∧ k < 6)
    (q0 : k = 0 → Q v0 s) (q1 : k = 1 → Q v1 s) (q2 : k = 2 → Q v2 s) (q3 : k = 3 → Q v3 s) (q4 : k = 4 → Q v4 s) (q5 : k = 5 → Q v5 s)
    (hs : subscripted slice false (.ref l) (.int k u) = operate [.ref l, .int k u] (getItem (.ref l) (.int k u))) :
    wpAny (model prog w) A (subscriptTail value slice (.ref l) (.int k u)) Q E s := by
  have hc : k = 0 ∨ k = 1 ∨ k = 2 ∨ k = 3 ∨ k = 4 ∨ k = 5 := by omega
  rcases hc with e | e | e | e | e | e
  · exact item_N (j := 0) N hm e rfl (by decide) (q0 e) hs
  · exact item_N (j := 1) N hm e rfl (by decide) (q1 e) hs
  · exact item_N (j := 2) N hm e rfl (by decide) (q2 e) hs
  · exact item_N (j := 3) N hm e rfl (by decide) (q3 e) hs
  · exact item_N (j := 4) N hm e rfl (by decide) (q4 e) hs
  · exact item_N (j := 5) N hm e rfl (by decide) (q5 e) hs
theorem item_B2 (F : Fr h₀ L s.heap m) {v0 v1 : Value} (hl : h₀.IsList l #[v0, v1]) (hk : 0 ≤ k ∧ k < 2) (q0 : k = 0 → Q v0 s) (q1 : k = 1 → Q v1 s)
    (hs : subscripted slice false (.ref l) (.int k u) = operate [.ref l, .int k u] (getItem (.ref l) (.int k u))) :
    wpAny (model prog w) A (subscriptTail value slice (.ref l) (.int k u)) Q E s := by
  have hc : k = 0 ∨ k = 1 := by omega
  rcases hc with e | e
  · exact item_B (j := 0) F hl e rfl (by decide) (q0 e) hs
  · exact item_B (j := 1) F hl e rfl (by decide) (q1 e) hs
end
end
theorem start_2 : True := by
  w_top off
  have : True ∧ True := by
    first
    | (walk1; done)
    | exact ⟨trivial, trivial⟩
  trivial
section
open PySem PySem.W PySem.Calls PyProof.Rows
set_option maxRecDepth 100000
set_option maxHeartbeats 4000000
theorem fill_C1 : (Challenge.rw_mr0087_01 = Challenge.rw_mr0087_01 ∧ hd.heap_39 = hd.heap_39) → True := by
  k_fill
  intro _; trivial
theorem figure_ok0 (w : World) (n : Int) (t u : Tok) : Ctr w 1 8 42 [.int n t, .int 0 u] (fun _ => True) (fun r tl => tl = [] ∧ ∃ t', r = .int (Int.fmod n 10) t') := by
  intro p loose mean mg mb dp un gd fr s Q E X T hdp hun _ hret
  (k_dflt (refine' enter (binds := [(Str.ofString "number", .int n t), (Str.ofString "place", .int 0 u)]) ?zzk3 ?zzk5 ?zzk6 ?zzk7 ?zzk8 ?zzk9 ?zzkB ?_ ?zzc2 ?zzc3 ?zzc4 ?zzc5; (case zzk3 => k_asm); (case zzk5 => k_asm); (case zzk6 => k_is); (case zzk7 => k_is); (case zzk8 => ((try dsimp only); omega)); (case zzk9 => first | exact BindsTo.of_eq rfl | exact binds_K (by k_in) rfl (by k_is) rfl rfl rfl); (case zzc5 => decide); (case zzkB => exact locs rfl); (case zzc2 => exact rfl); (case zzc3 => exact rfl); (case zzc4 => exact rfl); k_whole; intro L' h' F' N'; (try dsimp only); (try k_fold)))
  k_steps
  exact hret _ [] _ _ (Fr.keep (by k_asm)) (fun _ h => nomatch h) ⟨rfl, _, by simp [Int.fdiv_one]; rfl⟩
theorem figure_ok1 (w : World) (n : Int) (t u : Tok) : Ctr w 1 8 42 [.int n t, .int 1 u] (fun _ => True) (fun r tl => tl = [] ∧ ∃ t', r = .int (Int.fmod (Int.fdiv n 10) 10) t') := by
  intro p loose mean mg mb dp un gd fr s Q E X T hdp hun _ hret
  (k_dflt (refine' enter (binds := [(Str.ofString "number", .int n t), (Str.ofString "place", .int 1 u)]) ?zzk3 ?zzk5 ?zzk6 ?zzk7 ?zzk8 ?zzk9 ?zzkB ?_ ?zzc2 ?zzc3 ?zzc4 ?zzc5; (case zzk3 => k_asm); (case zzk5 => k_asm); (case zzk6 => k_is); (case zzk7 => k_is); (case zzk8 => ((try dsimp only); omega)); (case zzk9 => first | exact BindsTo.of_eq rfl | exact binds_K (by k_in) rfl (by k_is) rfl rfl rfl); (case zzc5 => decide); (case zzkB => exact locs rfl); (case zzc2 => exact rfl); (case zzc3 => exact rfl); (case zzc4 => exact rfl); k_whole; intro L' h' F' N'; (try dsimp only); (try k_fold)))
  k_steps
  exact hret _ [] _ _ (Fr.keep (by k_asm)) (fun _ h => nomatch h) ⟨rfl, _, rfl⟩
theorem figure_ok2 (w : World) (n : Int) (t u : Tok) : Ctr w 1 8 42 [.int n t, .int 2 u] (fun _ => True) (fun r tl => tl = [] ∧ ∃ t', r = .int (Int.fmod (Int.fdiv n 100) 10) t') := by
  intro p loose mean mg mb dp un gd fr s Q E X T hdp hun _ hret
  (k_dflt (refine' enter (binds := [(Str.ofString "number", .int n t), (Str.ofString "place", .int 2 u)]) ?zzk3 ?zzk5 ?zzk6 ?zzk7 ?zzk8 ?zzk9 ?zzkB ?_ ?zzc2 ?zzc3 ?zzc4 ?zzc5; (case zzk3 => k_asm); (case zzk5 => k_asm); (case zzk6 => k_is); (case zzk7 => k_is); (case zzk8 => ((try dsimp only); omega)); (case zzk9 => first | exact BindsTo.of_eq rfl | exact binds_K (by k_in) rfl (by k_is) rfl rfl rfl); (case zzc5 => decide); (case zzkB => exact locs rfl); (case zzc2 => exact rfl); (case zzc3 => exact rfl); (case zzc4 => exact rfl); k_whole; intro L' h' F' N'; (try dsimp only); (try k_fold)))
  k_steps
  exact hret _ [] _ _ (Fr.keep (by k_asm)) (fun _ h => nomatch h) ⟨rfl, _, rfl⟩
/-- a call that gives an int and makes nothing -/
theorem useV {w : World} {dN uN : Nat} {f : Addr} {vs : List Value} {pre : Heap → Prop} {p : Program} {loose : List Str} {mean : ExcName → Option Value} {mg mb : Str → Option Value} {dp un : Nat} {gd : Option (List Code)} {fr : Option (List Env)} {s : Shared} {Q E : Value → Shared → Prop} {h₀ : Heap} {L : Addr} {m : Str → Option Value} {news : List (Addr × Obj)} {v : Int} (C : Ctr w dN uN f vs pre (fun r tl => tl = [] ∧ ∃ t', r = .int v t')) (F : Fr h₀ L s.heap m) (X : (hd.heap_39 w.params).In h₀) (N : News h₀ L s.heap news) (T : Top p loose mean mg mb h₀) (hdp : dp + dN < recursionLimit) (hun : un + uN < cLine) (hp : pre s.heap)
    (h : ∀ (t' : Tok) (h' : Heap) (tk' : Nat), Fr h₀ L h' m → News h₀ L h' news → Q (.int v t') { s with heap := h', toks := tk' }) :
    wpAny (model Challenge.pw_mr0087_01 w) (AA dp un gd fr) (call (.ref f) vs) Q E s :=
  useC C F X N T hdp hun hp fun r tl h' tk' po F' N' _ => by
    obtain ⟨rfl, t', rfl⟩ := po
    exact h t' h' tk' F' N'
end
section
open PySem PySem.W PySem.Calls PyProof.Rows
set_option maxRecDepth 100000
set_option maxHeartbeats 4000000
local macro_rules | `(tactic| walk_at "m in") => `(tactic| first | assumption | (apply orL; walk_at "m in") | (apply orR; walk_at "m in"))
section
local macro_rules | `(tactic| walk_at "m room") => `(tactic| ((try dsimp only [Around.deeper, Around.in1]); (first | assumption | (refine' room ?zrh ?zre; (case zrh => assumption); (case zre => rfl)) | (refine' room0 ?zrh; (case zrh => assumption)) | (refine' room2 ?zrh ?zre; (case zrh => assumption); (case zre => rfl)) | (refine' room3 ?zrh ?zre; (case zrh => assumption); (case zre => rfl)) | omega)))
section
local macro_rules | `(tactic| walk_at "m up") => `(tactic| (first | assumption | (apply andR; first | assumption | (apply andR; first | assumption | (apply andR; first | assumption | (apply andR; first | assumption | (apply andR; first | assumption | (apply andR; first | assumption | (apply andR; first | assumption | (apply andR; first | assumption | (apply andR; first | assumption | (apply andR; first | assumption | (apply andR; first | assumption | (apply andR; assumption))))))))))))))
section
local macro_rules | `(tactic| walk_at "m lt") => `(tactic| (apply andL; walk_at "m up"))
section
local macro_rules | `(tactic| walk_at "m slot") => `(tactic| first | (apply andL; walk_at "m up") | (apply andL; apply andL; walk_at "m up") | (apply andL; apply andR; apply andL; walk_at "m up") | (apply andR; apply andR; apply andL; walk_at "m up"))
section
local macro_rules | `(tactic| k_ne) => `(tactic| (refine neN ?_; first | assumption | exact neS (by assumption) | exact neL (by assumption) | exact neG (by assumption) | exact ne1 | exact ne1.symm | exact ne2 | exact ne2.symm | exact neL (by walk_at "m lt") | exact neG (by walk_at "m lt") | walk_at "m slot" | exact neS (by walk_at "m slot") | ((try dsimp only); omega)))
section
local macro_rules | `(tactic| k_lt $h:ident) => `(tactic| (replace $h := allLt_of $h; dsimp only [AllLt] at $h:ident))
section
local macro_rules | `(tactic| walk_at "subscriptTail") => `(tactic| (k_here; (with_reducible show wpAny _ _ (subscriptTail _ _ (Value.ref _) (Value.int _ _)) _ _ _); k_dflt (first
  | (refine' item_Nt ?zzN ?zzm ?zzk ?zzx ?zzj ?_ ?zzhs; (case zzk => decide); (case zzN => k_asm); (case zzm => k_mem))
  | (refine' item_Bt ?zzF ?zzl ?zzk ?zzx ?zzj ?_ ?zzhs; (case zzk => decide); (case zzF => k_asm); (case zzl => assumption))); (case zzx => rfl); (case zzj => decide); (case zzhs => with_unfolding_all rfl); k_whole))
section
local macro_rules | `(tactic| walk_at "CompRest") => `(tactic| (with_unfolding_all first
  | (refine LCg.CompRest.succ ?_; intro v' I' oI' C' oC' D' m' h' tk' E' hv' hC' hx' F' N' off' ne'; (first | lcg_open hv' | (obtain ⟨t9', hv9'⟩ := hv'; subst hv9')); (try dsimp only [LCg.Off3] at off'))
  | refine LCg.CompRest.zero ?_))
section
local macro_rules | `(tactic| walk_at "FinE") => `(tactic| ((unfold LCg.FinE); intro D' h' tk' F' N' o1'; (try dsimp only [LCg.Off1] at o1'); (try simp only [List.nil_append, List.cons_append] at N'); (try dsimp only)))
section
local macro_rules | `(tactic| walk_at "FinA") => `(tactic| ((unfold LCg.FinA); intro D' h' tk' F' N' o1'; (try dsimp only [LCg.Off1] at o1'); (try simp only [List.nil_append, List.cons_append] at N'); (try dsimp only)))
section
local macro_rules | `(tactic| units_room) => `(tactic| walk_at "m room")
section
local macro_rules | `(tactic| walk_at "m after0") => `(tactic| (intro t' h' tk' F' N'; (try dsimp only); (try k_sweep)))
section
local macro_rules | `(tactic| walk_at "m prem") => `(tactic| ((case zzk2 => k_asm); (case zzk3 => k_asm); (case zzk4 => k_asm); (case zzk5 => k_asm); (case zzkd => walk_at "m room"); (case zzku => walk_at "m room"); (case zzkp => first | trivial | assumption)))
section
local macro_rules | `(tactic| walk_at "call ref") => `(tactic| (k_here; k_dflt (refine' useV (figure_ok0 _ _ _ _) ?zzk2 ?zzk3 ?zzk4 ?zzk5 ?zzkd ?zzku ?zzkp ?_; walk_at "m prem"; k_whole; walk_at "m after0")))
section
local macro_rules | `(tactic| walk_at "call ref") => `(tactic| (k_here; k_dflt (refine' useV (figure_ok1 _ _ _ _) ?zzk2 ?zzk3 ?zzk4 ?zzk5 ?zzkd ?zzku ?zzkp ?_; walk_at "m prem"; k_whole; walk_at "m after0")))
section
local macro_rules | `(tactic| walk_at "call ref") => `(tactic| (k_here; k_dflt (refine' useV (figure_ok2 _ _ _ _) ?zzk2 ?zzk3 ?zzk4 ?zzk5 ?zzkd ?zzku ?zzkp ?_; walk_at "m prem"; k_whole; walk_at "m after0")))
section
local macro_rules | `(tactic| walk_at "m sz") => `(tactic| (simp only [List.size_toArray, List.length_cons, List.length_nil]; decide))
section
local macro_rules | `(tactic| walk_at "inplaceOp Add ref") => `(tactic| (k_here; k_dflt (refine' iadd_K ?zzF ?zzN ?zzm ?zzU ?zzd ?zzs1 ?zzs2 ?_; (case zzF => k_asm); (case zzN => k_asm); (case zzm => k_mem); (case zzU => k_upd); (case zzd => walk_at "m sz"); (case zzs1 => walk_at "m sz"); (case zzs2 => walk_at "m sz"); k_whole); intro h' F' N'; (try simp only [List.append_toArray, List.cons_append, List.nil_append, List.size_toArray, List.length_cons, List.length_nil] at N'); (try k_sweep)))
section
local macro_rules | `(tactic| walk_at "exec Assign cons ListComp") => `(tactic| (k_here; k_dflt (refine LCg.Assign_ListComp_U (F₀ := by k_asm) (by rfl) (by with_unfolding_all rfl) (by with_unfolding_all rfl) (by decide) (by rfl) (by decide) (by rfl) (by rfl) (by rfl) ?_); k_dflt lcg_toSrc))
section
local macro_rules | `(tactic| walk_at "eval ListComp") => `(tactic| (k_here; k_dflt (refine LCg.ListComp_U (F₀ := by k_asm) (by with_unfolding_all rfl) (by decide) (by rfl) (by decide) (by rfl) ?_); k_dflt lcg_toSrc))
section
local macro_rules | `(tactic| walk_at "CompSrc") => `(tactic| (k_here; k_dflt (first
  | (refine LCg.CompSrc.ledger (by rfl) (by k_asm) (by k_asm) (by k_mem) (by first | size_fits | exact Nat.le_of_ble_eq_true rfl) ?_; intro g'; lcg_lit)
  | (refine LCg.CompSrc.base (by rfl) (by k_asm) (by k_asm) (by assumption) (by first | size_fits | exact Nat.le_of_ble_eq_true rfl) ?_; intro g'; lcg_lit)
  | (refine LCg.CompSrc.range (by rfl) (by k_asm) (by k_asm) (by assumption) (by first | decide | rfl) (by first | rfl | decide) (by first | size_fits | exact Nat.le_of_ble_eq_true rfl) ?_; intro g'; lcg_lit))))
section
local macro_rules | `(tactic| walk_at "CompEnd") => `(tactic| lcg_end)
section
local macro_rules | `(tactic| walk_at "subscriptTail") => `(tactic| (k_here; (with_reducible show wpAny _ _ (subscriptTail _ _ (Value.ref _) (Value.int _ _)) _ _ _); k_dflt (refine' item_6 ?zzN ?zzm ?zzk ?_ ?_ ?_ ?_ ?_ ?_ ?zzhs; (case zzk => omega); (case zzN => k_asm); (case zzm => k_mem); (case zzhs => with_unfolding_all rfl); k_whole); all_goals intro hk'))
theorem start_3 : True := by
  w_top off
  have : True ∧ True := by
    first
    | (walk1; done)
    | exact ⟨trivial, trivial⟩
  trivial
section
open PySem PySem.W PySem.Calls PyProof.Rows
set_option maxRecDepth 100000
set_option maxHeartbeats 4000000
theorem fill_C2 : (Challenge.rw_mr0087_01 = Challenge.rw_mr0087_01 ∧ hd.heap_39 = hd.heap_39) → True := by
  k_fill
  intro _; trivial
noncomputable def IsWay (a b c : Int) : Prop := 0 ≤ a ∧ a ≤ 3 ∧ 0 ≤ b ∧ b ≤ 3 ∧ 0 ≤ c ∧ c ≤ 3 ∧ (a = 0 ∨ b = 0 ∨ c = 0) ∧ (1 ≤ a ∨ 1 ≤ b ∨ 1 ≤ c)
noncomputable abbrev List3 (a b c : Int) (o : Obj) : Prop := ∃ ta tb tc k, o = { cls := .type "list", data := .seq #[.int a ta, .int b tb, .int c tc] k }
theorem fm_bnd (a : Int) {b : Int} (hb : 0 < b) : 0 ≤ a.fmod b ∧ a.fmod b < b := ⟨Int.fmod_nonneg_of_pos a hb, Int.fmod_lt_of_pos a hb⟩
theorem fresh1 {h₀ h : Heap} {L l : Addr} {o : Obj} {news : List (Addr × Obj)} (N : News h₀ L h news) (hm : (l, o) ∈ news) : Fresh h₀ h [(l, o)] := fun p hp => by
  rcases List.mem_cons.mp hp with rfl | hp
  · exact ⟨(N _ hm).1, (N _ hm).2.2⟩
  · cases hp
noncomputable abbrev PostWay (r : Value) (tl : List (Addr × Obj)) : Prop := ∃ l a b c o, r = .ref l ∧ tl = [(l, o)] ∧ List3 a b c o ∧ IsWay a b c
theorem wayE {M m : Int} (hM : 1 ≤ M ∧ M ≤ 3) (hm : 0 ≤ m ∧ m ≤ 3) : 0 ≤ M ∧ M ≤ 3 ∧ 0 ≤ m ∧ m ≤ 3 ∧ (0 : Int) ≤ 0 ∧ (0 : Int) ≤ 3 := ⟨Int.le_trans (by decide) hM.1, hM.2, hm.1, hm.2, by decide, by decide⟩
theorem wayS {M m : Int} (hM : 1 ≤ M ∧ M ≤ 3) (hm : 0 ≤ m ∧ m ≤ 3) : IsWay M m 0 ∧ IsWay M 0 m ∧ IsWay m M 0 ∧ IsWay 0 M m ∧ IsWay m 0 M ∧ IsWay 0 m M := by
  obtain ⟨a, b, c, d, e, f⟩ := wayE hM hm
  exact ⟨⟨a, b, c, d, e, f, .inr (.inr rfl), .inl hM.1⟩, ⟨a, b, e, f, c, d, .inr (.inl rfl), .inl hM.1⟩, ⟨c, d, a, b, e, f, .inr (.inr rfl), .inr (.inl hM.1)⟩, ⟨e, f, a, b, c, d, .inl rfl, .inr (.inl hM.1)⟩, ⟨c, d, e, f, a, b, .inr (.inl rfl), .inr (.inr hM.1)⟩, ⟨e, f, c, d, a, b, .inl rfl, .inr (.inr hM.1)⟩⟩
theorem way_end {s : Shared} {Q : Value → Shared → Prop} {L l : Addr} {h' : Heap} {m : Str → Option Value} {tk' : Nat} {news : List (Addr × Obj)} {a b c : Int} {ta tb tc : Tok} {k : Nat}
    (hret : ∀ (r : Value) (tl : List (Addr × Obj)) (h' : Heap) (tk' : Nat), Kp s.heap h' → Fresh s.heap h' tl → PostWay r tl → Q r { s with heap := h', toks := tk' })
    (F : Fr s.heap L h' m) (N : News s.heap L h' news) (hm : (l, ({ cls := .type "list", data := .seq #[.int a ta, .int b tb, .int c tc] k } : Obj)) ∈ news) (hw : IsWay a b c) : Q (.ref l) { s with heap := h', toks := tk' } :=
  hret _ _ _ _ F.keep (fresh1 N hm) ⟨l, a, b, c, _, rfl, rfl, ⟨ta, tb, tc, k, rfl⟩, hw⟩
theorem way_ok (w : World) (n : Int) (t : Tok) : Ctr w 2 16 49 [.int n t] (fun _ => True) PostWay := by
  intro p loose mean mg mb dp un gd fr s Q E X T hdp hun _ hret
  have b1 := fm_bnd (n.fmod 10) (b := 3) (by decide)
  have b2 := fm_bnd ((n.fdiv 10).fmod 10) (b := 1 + (n.fmod 10).fmod 3 + 1) (by omega)
  have b3 := fm_bnd ((n.fdiv 100).fmod 10) (b := 6) (by decide)
  have hW := wayS (M := 1 + (n.fmod 10).fmod 3) (m := ((n.fdiv 10).fmod 10).fmod (1 + (n.fmod 10).fmod 3 + 1)) ⟨by omega, by omega⟩ ⟨b2.1, by omega⟩
  (k_dflt (refine' enter (binds := [(Str.ofString "number", .int n t)]) ?zzk3 ?zzk5 ?zzk6 ?zzk7 ?zzk8 ?zzk9 ?zzkB ?_ ?zzc2 ?zzc3 ?zzc4 ?zzc5; (case zzk3 => k_asm); (case zzk5 => k_asm); (case zzk6 => k_is); (case zzk7 => k_is); (case zzk8 => walk_at "m room"); (case zzk9 => first | exact BindsTo.of_eq rfl | exact binds_K (by k_in) rfl (by k_is) rfl rfl rfl); (case zzc5 => decide); (case zzkB => exact locs rfl); (case zzc2 => exact rfl); (case zzc3 => exact rfl); (case zzc4 => exact rfl); k_whole; intro L' h' F' N'; (try dsimp only); (try k_fold)))
  k_steps
  all_goals (refine' way_end hret ?zzF ?zzN ?zzm ?zzw; (case zzF => k_asm); (case zzN => k_asm); (case zzm => k_mem); (case zzw => first | exact hW.1 | exact hW.2.1 | exact hW.2.2.1 | exact hW.2.2.2.1 | exact hW.2.2.2.2.1 | exact hW.2.2.2.2.2))
end
end
theorem start_4 : True := by
  w_top off
  have : True ∧ True := by
    first
    | (walk1; done)
    | exact ⟨trivial, trivial⟩
  trivial
section
local macro_rules | `(tactic| walk_at "subscriptTail") => `(tactic| (k_here; (with_reducible show wpAny _ _ (subscriptTail _ _ (Value.ref _) (Value.int _ _)) _ _ _); k_dflt (refine' item_B2 ?zzF ?zzl ?zzk ?_ ?_ ?zzhs; (case zzk => omega); (case zzF => k_asm); (case zzl => assumption); (case zzhs => with_unfolding_all rfl); k_whole); all_goals intro hk'))
theorem start_5 : True := by
  w_top off
  have : True ∧ True := by
    first
    | (walk1; done)
    | exact ⟨trivial, trivial⟩
  trivial
section
open PySem PySem.W PySem.Calls PyProof.Rows
set_option maxRecDepth 100000
set_option maxHeartbeats 4000000
theorem fill_C3 : (Challenge.rw_mr0087_01 = Challenge.rw_mr0087_01 ∧ hd.heap_39 = hd.heap_39) → True := by
  k_fill
  intro _; trivial
noncomputable def IsCol (a b c : Int) : Prop := 0 ≤ a ∧ a ≤ 16 ∧ 0 ≤ b ∧ b ≤ 16 ∧ 0 ≤ c ∧ c ≤ 16
noncomputable abbrev PostCol (r : Value) (tl : List (Addr × Obj)) : Prop := ∃ l a b c o, r = .ref l ∧ tl = [(l, o)] ∧ List3 a b c o ∧ IsCol a b c
theorem col_end {s : Shared} {Q : Value → Shared → Prop} {L l : Addr} {h' : Heap} {m : Str → Option Value} {tk' : Nat} {news : List (Addr × Obj)} {a b c : Int} {ta tb tc : Tok} {k : Nat}
    (hret : ∀ (r : Value) (tl : List (Addr × Obj)) (h' : Heap) (tk' : Nat), Kp s.heap h' → Fresh s.heap h' tl → PostCol r tl → Q r { s with heap := h', toks := tk' })
    (F : Fr s.heap L h' m) (N : News s.heap L h' news) (hm : (l, ({ cls := .type "list", data := .seq #[.int a ta, .int b tb, .int c tc] k } : Obj)) ∈ news) (hw : IsCol a b c) : Q (.ref l) { s with heap := h', toks := tk' } :=
  hret _ _ _ _ F.keep (fresh1 N hm) ⟨l, a, b, c, _, rfl, rfl, ⟨ta, tb, tc, k, rfl⟩, hw⟩
structure PreWays (h : Heap) (wl w0 w1 : Addr) : Prop where
  l : h.IsList wl #[.ref w0, .ref w1]
  l0 : ∃ a b c ta tb tc, h.IsList w0 #[.int a ta, .int b tb, .int c tc] ∧ IsWay a b c
  l1 : ∃ a b c ta tb tc, h.IsList w1 #[.int a ta, .int b tb, .int c tc] ∧ IsWay a b c
theorem col3 (x y z : Int) : IsCol (x.fmod 17) (y.fmod 17) (z.fmod 17) := by
  have h1 := fm_bnd x (b := 17) (by decide)
  have h2 := fm_bnd y (b := 17) (by decide)
  have h3 := fm_bnd z (b := 17) (by decide)
  unfold IsCol; omega
theorem cow {wh x a : Int} (h1 : 0 ≤ wh ∧ wh < 10) (h2 : 0 ≤ x ∧ x < 2) (l : 0 ≤ a) (u : a ≤ 3) : 0 ≤ wh + (1 + x) * a ∧ wh + (1 + x) * a ≤ 16 := by
  have hx : x = 0 ∨ x = 1 := by omega
  rcases hx with rfl | rfl <;> omega
theorem col_of_way {wh x a b c : Int} (h1 : 0 ≤ wh ∧ wh < 10) (h2 : 0 ≤ x ∧ x < 2) (hw : IsWay a b c) : IsCol (wh + (1 + x) * a) (wh + (1 + x) * b) (wh + (1 + x) * c) := by
  obtain ⟨a1, a2, b1, b2, c1, c2, _⟩ := hw
  have p := cow h1 h2 a1 a2
  have q := cow h1 h2 b1 b2
  have r := cow h1 h2 c1 c2
  exact ⟨p.1, p.2, q.1, q.2, r.1, r.2⟩
theorem colour_ok (w : World) (n : Int) (t : Tok) (wl w0 w1 : Addr) : Ctr w 2 24 54 [.int n t, .ref wl] (fun h => PreWays h wl w0 w1) PostCol := by
  intro p loose mean mg mb dp un gd fr s Q E X T hdp hun hpre hret
  obtain ⟨hl, ⟨a0, b0, c0, ta0, tb0, tc0, hl0, hw0⟩, ⟨a1, b1, c1, ta1, tb1, tc1, hl1, hw1⟩⟩ := hpre
  have b1 := fm_bnd (n.fmod 10) (b := 4) (by decide)
  have b2 := fm_bnd (n.fdiv 10) (b := 10) (by decide)
  have b3 := fm_bnd ((n.fdiv 100).fmod 10) (b := 2) (by decide)
  (k_dflt (refine' enterC (binds := [(Str.ofString "number", .int n t), (Str.ofString "ways", .ref wl)]) ?zzk3 ?zzk5 ?zzk6 ?zzk7 ?zzk8 ?zzk9 ?zzkB ?zzkD ?_ ?zzc2 ?zzc3 ?zzc4; (case zzk3 => k_asm); (case zzk5 => k_asm); (case zzk6 => k_is); (case zzk7 => k_is); (case zzk8 => walk_at "m room"); (case zzk9 => first | exact BindsTo.of_eq rfl | exact binds_K (by k_in) rfl (by k_is) rfl rfl rfl); (case zzkB => exact rfl); (case zzkD => decide +kernel); (case zzc2 => exact rfl); (case zzc3 => exact rfl); (case zzc4 => exact rfl); k_whole; intro L' h' tk' cells' F' N' Y'; skip))
  obtain ⟨oc1, oc2, oc3, hE9, dc1, dc2, dc3⟩ := CellsAre.three Y'
  subst hE9; clear Y'
  replace dc1 : oc1.data = .cell (none) := dc1
  replace dc2 : oc2.data = .cell (none) := dc2
  replace dc3 : oc3.data = .cell (some (.int n t)) := dc3
  (try simp only [List.cons_append, List.nil_append] at N'); (try dsimp only); (try k_fold)
  k_steps
  all_goals (try dsimp only)
  all_goals (refine' col_end hret ?zzF ?zzN ?zzm ?zzw; (case zzF => k_asm); (case zzN => k_asm); (case zzm => k_mem); (case zzw => first | exact col3 _ _ _ | exact col_of_way b2 b3 hw0 | exact col_of_way b2 b3 hw1))
end
end
end
end
end
end
end
end
end
end
end
end
end
end
end
end
end
end
end
end
end
end
end
end
end
theorem start_6 : True := by
  w_top off
  have : True ∧ True := by
    first
    | (walk1; done)
    | exact ⟨trivial, trivial⟩
  trivial
section
open PySem PySem.W PySem.Calls PyProof.Rows
set_option maxRecDepth 100000
/-- a sixteenth parts -/
noncomputable def qf (a : Int) : UInt64 := Float64.ofFrac false a.natAbs 16
noncomputable def rt (a b : Int) : UInt64 := Float64.div (qf a) (qf b)
noncomputable def all2 (n : Nat) (f : Int → Int → Bool) : Bool := (List.range n).all fun a => (List.range n).all fun b => f a b
theorem of_all2 {n : Nat} {f : Int → Int → Bool} (h : all2 n f = true) {a b : Int} (ha : 0 ≤ a ∧ a < n) (hb : 0 ≤ b ∧ b < n) : f a b = true := by
  have h1 := List.all_eq_true.mp (List.all_eq_true.mp h a.toNat (List.mem_range.mpr (by omega))) b.toNat (List.mem_range.mpr (by omega))
  rwa [show ((a.toNat : Nat) : Int) = a by omega, show ((b.toNat : Nat) : Int) = b by omega] at h1
theorem tab_cmp : all2 17 (fun a b => Float64.cmp (qf a) (qf b) == some (compare a b)) = true := by decide +kernel
theorem tab_sub : all2 33 (fun a b => decide (a < b) || Float64.sub (qf a) (qf b) == qf (a - b)) = true := by decide +kernel
theorem tab_add : all2 17 (fun a b => Float64.add (qf a) (qf b) == qf (a + b)) = true := by decide +kernel
theorem tab_zero : all2 33 (fun a b => decide (b ≠ 0) || Float64.isZero (qf a) == decide (a = 0)) = true := by decide +kernel
theorem tab_share : all2 32 (fun a b => decide (16 < a + 1) || !(Float64.cmpInt (rt (a + 1) (b + 1)) 0 == some .eq)) = true := by decide +kernel
theorem two_is : (0x4000000000000000 : UInt64) = qf 32 := by decide +kernel
theorem zero_is : (0x0000000000000000 : UInt64) = qf 0 := by decide +kernel
theorem cmp_q {a b : Int} (ha : 0 ≤ a ∧ a ≤ 16) (hb : 0 ≤ b ∧ b ≤ 16) : Float64.cmp (qf a) (qf b) = some (compare a b) := by
  simpa using of_all2 tab_cmp (a := a) (b := b) ⟨ha.1, by omega⟩ ⟨hb.1, by omega⟩
theorem sub_q {a b : Int} (ha : 0 ≤ b ∧ b ≤ a) (hb : a ≤ 32) : Float64.sub (qf a) (qf b) = qf (a - b) := by
  have h := of_all2 tab_sub (a := a) (b := b) ⟨by omega, by omega⟩ ⟨ha.1, by omega⟩
  rw [Bool.or_eq_true] at h
  rcases h with h | h
  · exact absurd (of_decide_eq_true h) (by omega)
  · exact eq_of_beq h
theorem add_q {a b : Int} (ha : 0 ≤ a ∧ a ≤ 16) (hb : 0 ≤ b ∧ b ≤ 16) : Float64.add (qf a) (qf b) = qf (a + b) :=
  eq_of_beq (of_all2 tab_add (a := a) (b := b) ⟨ha.1, by omega⟩ ⟨hb.1, by omega⟩)
theorem zero_q {a : Int} (ha : 0 ≤ a ∧ a ≤ 32) : Float64.isZero (qf a) = decide (a = 0) := by
  have h := of_all2 tab_zero (a := a) (b := 0) ⟨ha.1, by omega⟩ ⟨by omega, by omega⟩
  rw [Bool.or_eq_true] at h
  rcases h with h | h
  · exact absurd (of_decide_eq_true h) (by simp)
  · exact eq_of_beq h
theorem share_q {a b : Int} (ha : 1 ≤ a ∧ a ≤ 16) (hb : 1 ≤ b ∧ b ≤ 32) : (Float64.cmpInt (rt a b) 0 == some .eq) = false := by
  have h := of_all2 tab_share (a := a - 1) (b := b - 1) ⟨by omega, by omega⟩ ⟨by omega, by omega⟩
  rw [Bool.or_eq_true] at h
  rcases h with h | h
  · exact absurd (of_decide_eq_true h) (by omega)
  · rw [show a - 1 + 1 = a by omega, show b - 1 + 1 = b by omega] at h
    simpa using h
end
section
open PySem PySem.W PySem.Calls PyProof.Rows PySem.Flt
set_option maxRecDepth 100000
noncomputable def min3 (a b c : Int) : Int := min (min a b) c
noncomputable def max3 (a b c : Int) : Int := max (max a b) c
section
variable {prog : Program} {w : World} {A : Around} {E : Value → Shared → Prop} {s : Shared} {Q : Value → Shared → Prop}
theorem keep2 {a b c : Value} {h' : Heap} {o1 : Obj} (hk : ∀ d o, d ∉ [(s.heap.push { cls := .type "tuple", data := .seq #[a, b, c] }).objs.size] → ((s.heap.push { cls := .type "tuple", data := .seq #[a, b, c] }).push o1).get? d = some o → h'.get? d = some o) :
    ∀ d o, s.heap.get? d = some o → h'.get? d = some o := fun d o e => by
  refine hk d o (fun hm => ?_) (Heap.get?_push_of_some _ (Heap.get?_push_of_some _ e))
  have := Heap.lt_size e
  rw [List.mem_singleton.mp hm, Heap.size_push] at this
  exact Nat.lt_irrefl _ (Nat.lt_of_succ_lt this)
theorem max3_num {a b c : Value} (hh : A.handled = none) (ha : NumV a) (hb : NumV b) (hc : NumV c)
    (h : ∀ h' tk, (∀ d o, s.heap.get? d = some o → h'.get? d = some o) → Q (if ltV a b then (if ltV b c then c else b) else (if ltV a c then c else a)) { s with heap := h', toks := tk }) :
    wpAny (model prog w) A (call (.builtin "max") [a, b, c]) Q E s := by
  have hT : (s.heap.push { cls := .type "tuple", data := .seq #[a, b, c] }).IsTuple s.heap.objs.size #[a, b, c] := ⟨_, Heap.get?_push_size _ rfl, rfl, 0, rfl⟩
  refine call_max_three (wpAny_pyIter_tuple hT ?_)
  have hsz : (s.heap.push { cls := .type "tuple", data := .seq #[a, b, c] }).objs.size = s.heap.objs.size + 1 := Heap.size_push ..
  refine ⟨_, [_, s.heap.objs.size], [_], _, _, _, _, rfl, Walks.tuple (A := A.in1) hh _ s.heap.objs.size (by rw [hsz]; exact Nat.ne_of_lt (Nat.lt_succ_self _)) #[a, b, c],
    ⟨⟨_, Heap.get?_push_size _ rfl, rfl, rfl⟩, hT.push _⟩, fun d hd => ?_, by simp, cmpOf_gt #[a, b, c] (by simp [ha, hb, hc]), fun v h' tk hP hk => ?_⟩
  · show d < ((s.heap.push _).push _).objs.size
    rw [Heap.size_push, hsz]
    rcases List.mem_cons.mp hd with rfl | hd
    · exact hsz ▸ Nat.lt_succ_self _
    · rw [List.mem_singleton.mp hd]; exact Nat.lt_succ_of_lt (Nat.lt_succ_self _)
  · have := h h' tk (keep2 hk)
    have hv : v = if ltV a b then (if ltV b c then c else b) else (if ltV a c then c else a) := by
      cases h1 : ltV a b <;> cases h2 : ltV b c <;> cases h3 : ltV a c <;> simp [argBest, h1, h2, h3] at hP <;> simp [hP]
    rw [hv]; exact this
theorem min3_num {a b c : Value} (hh : A.handled = none) (ha : NumV a) (hb : NumV b) (hc : NumV c)
    (h : ∀ h' tk, (∀ d o, s.heap.get? d = some o → h'.get? d = some o) → Q (if ltV b a then (if ltV c b then c else b) else (if ltV c a then c else a)) { s with heap := h', toks := tk }) :
    wpAny (model prog w) A (call (.builtin "min") [a, b, c]) Q E s := by
  have hT : (s.heap.push { cls := .type "tuple", data := .seq #[a, b, c] }).IsTuple s.heap.objs.size #[a, b, c] := ⟨_, Heap.get?_push_size _ rfl, rfl, 0, rfl⟩
  refine call_min_three (wpAny_pyIter_tuple hT ?_)
  have hsz : (s.heap.push { cls := .type "tuple", data := .seq #[a, b, c] }).objs.size = s.heap.objs.size + 1 := Heap.size_push ..
  refine ⟨_, [_, s.heap.objs.size], [_], _, _, _, _, rfl, Walks.tuple (A := A.in1) hh _ s.heap.objs.size (by rw [hsz]; exact Nat.ne_of_lt (Nat.lt_succ_self _)) #[a, b, c],
    ⟨⟨_, Heap.get?_push_size _ rfl, rfl, rfl⟩, hT.push _⟩, fun d hd => ?_, by simp, cmpOf_lt #[a, b, c] (by simp [ha, hb, hc]), fun v h' tk hP hk => ?_⟩
  · show d < ((s.heap.push _).push _).objs.size
    rw [Heap.size_push, hsz]
    rcases List.mem_cons.mp hd with rfl | hd
    · exact hsz ▸ Nat.lt_succ_self _
    · rw [List.mem_singleton.mp hd]; exact Nat.lt_succ_of_lt (Nat.lt_succ_self _)
  · have := h h' tk (keep2 hk)
    have hv : v = if ltV b a then (if ltV c b then c else b) else (if ltV c a then c else a) := by
      cases h1 : ltV b a <;> cases h2 : ltV c b <;> cases h3 : ltV c a <;> simp [argBest, h1, h2, h3] at hP <;> simp [hP]
    rw [hv]; exact this
variable {h₀ : Heap} {L : Addr} {m : Str → Option Value} {news : List (Addr × Obj)} {a b c : Int} {ta tb tc t u : Tok}
theorem ltV_q (ha : 0 ≤ a ∧ a ≤ 16) (hb : 0 ≤ b ∧ b ≤ 16) : ltV (.float (qf a) t) (.float (qf b) u) = decide (a < b) := by
  show (Float64.cmp (qf a) (qf b) == some .lt) = _
  rw [cmp_q ha hb]
  by_cases h : a < b
  · rw [show compare a b = .lt from Int.compare_eq_lt.mpr h]; simp [h]
  · rw [decide_eq_false h]
    rcases Int.lt_trichotomy a b with h' | h' | h'
    · exact absurd h' h
    · subst h'; simp
    · rw [show compare a b = .gt from Int.compare_eq_gt.mpr h']; rfl
theorem mxR {a b : Int} (h : a < b) : max a b = b := Int.max_eq_right (Int.le_of_lt h)
theorem mxL {a b : Int} (h : ¬ a < b) : max a b = a := Int.max_eq_left (Int.not_lt.mp h)
theorem mnR {a b : Int} (h : b < a) : min a b = b := Int.min_eq_right (Int.le_of_lt h)
theorem mnL {a b : Int} (h : ¬ b < a) : min a b = a := Int.min_eq_left (Int.not_lt.mp h)
theorem max3_if (a b c : Int) : max3 a b c = if a < b then (if b < c then c else b) else (if a < c then c else a) := by
  unfold max3
  by_cases h1 : a < b
  · rw [mxR h1, if_pos h1]
    by_cases h2 : b < c
    · rw [mxR h2, if_pos h2]
    · rw [mxL h2, if_neg h2]
  · rw [mxL h1, if_neg h1]
    by_cases h2 : a < c
    · rw [mxR h2, if_pos h2]
    · rw [mxL h2, if_neg h2]
theorem min3_if (a b c : Int) : min3 a b c = if b < a then (if c < b then c else b) else (if c < a then c else a) := by
  unfold min3
  by_cases h1 : b < a
  · rw [mnR h1, if_pos h1]
    by_cases h2 : c < b
    · rw [mnR h2, if_pos h2]
    · rw [mnL h2, if_neg h2]
  · rw [mnL h1, if_neg h1]
    by_cases h2 : c < a
    · rw [mnR h2, if_pos h2]
    · rw [mnL h2, if_neg h2]
theorem max3_q (F : Fr h₀ L s.heap m) (N : News h₀ L s.heap news) (hh : A.handled = none) (hc : 0 ≤ a ∧ a ≤ 16 ∧ 0 ≤ b ∧ b ≤ 16 ∧ 0 ≤ c ∧ c ≤ 16)
    (h : ∀ tok h' tk, Fr h₀ L h' m → News h₀ L h' news → Q (.float (qf (max3 a b c)) tok) { s with heap := h', toks := tk }) :
    wpAny (model prog w) A (call (.builtin "max") [.float (qf a) ta, .float (qf b) tb, .float (qf c) tc]) Q E s := by
  refine max3_num hh (.float _ _) (.float _ _) (.float _ _) fun h' tk kp => ?_
  have key := fun tok => h tok h' tk (fr_kp F kp) (news_kp N kp)
  rw [ltV_q (by omega) (by omega), ltV_q (by omega) (by omega), ltV_q (by omega) (by omega)]
  rw [max3_if] at key
  by_cases h1 : a < b
  · by_cases h2 : b < c
    · simp only [h1, h2, decide_true, if_true] at key ⊢; exact key _
    · simp only [h1, h2, decide_true, decide_false, if_true, Bool.false_eq_true, if_false] at key ⊢; exact key _
  · by_cases h2 : a < c
    · simp only [h1, h2, decide_true, decide_false, if_true, Bool.false_eq_true, if_false] at key ⊢; exact key _
    · simp only [h1, h2, decide_true, decide_false, if_true, Bool.false_eq_true, if_false] at key ⊢; exact key _
theorem min3_q (F : Fr h₀ L s.heap m) (N : News h₀ L s.heap news) (hh : A.handled = none) (hc : 0 ≤ a ∧ a ≤ 16 ∧ 0 ≤ b ∧ b ≤ 16 ∧ 0 ≤ c ∧ c ≤ 16)
    (h : ∀ tok h' tk, Fr h₀ L h' m → News h₀ L h' news → Q (.float (qf (min3 a b c)) tok) { s with heap := h', toks := tk }) :
    wpAny (model prog w) A (call (.builtin "min") [.float (qf a) ta, .float (qf b) tb, .float (qf c) tc]) Q E s := by
  refine min3_num hh (.float _ _) (.float _ _) (.float _ _) fun h' tk kp => ?_
  have key := fun tok => h tok h' tk (fr_kp F kp) (news_kp N kp)
  rw [ltV_q (by omega) (by omega), ltV_q (by omega) (by omega), ltV_q (by omega) (by omega)]
  rw [min3_if] at key
  by_cases h1 : b < a
  · by_cases h2 : c < b
    · simp only [h1, h2, decide_true, if_true] at key ⊢; exact key _
    · simp only [h1, h2, decide_true, decide_false, if_true, Bool.false_eq_true, if_false] at key ⊢; exact key _
  · by_cases h2 : c < a
    · simp only [h1, h2, decide_true, decide_false, if_true, Bool.false_eq_true, if_false] at key ⊢; exact key _
    · simp only [h1, h2, decide_true, decide_false, if_true, Bool.false_eq_true, if_false] at key ⊢; exact key _
theorem subK_q (hb : 0 ≤ b ∧ b ≤ a ∧ a ≤ 32) (h : Q (.float (qf (a - b)) s.toks) { s with toks := s.toks + 1 }) : wpAny (model prog w) A (binaryOp .Sub (.float (qf a) t) (.float (qf b) u)) Q E s :=
  sub_float (by rw [sub_q ⟨hb.1, hb.2.1⟩ hb.2.2]; exact h)
theorem subK_2 (hb : 0 ≤ b ∧ b ≤ 32) (h : Q (.float (qf (32 - b)) s.toks) { s with toks := s.toks + 1 }) : wpAny (model prog w) A (binaryOp .Sub (.float 0x4000000000000000 t) (.float (qf b) u)) Q E s := by
  rw [two_is]; exact subK_q ⟨hb.1, hb.2, by decide⟩ h
theorem addK_q (hb : 0 ≤ a ∧ a ≤ 16 ∧ 0 ≤ b ∧ b ≤ 16) (h : Q (.float (qf (a + b)) s.toks) { s with toks := s.toks + 1 }) : wpAny (model prog w) A (binaryOp .Add (.float (qf a) t) (.float (qf b) u)) Q E s :=
  add_float (by rw [add_q ⟨hb.1, hb.2.1⟩ hb.2.2]; exact h)
theorem eqK_q (hb : 0 ≤ a ∧ a ≤ 16 ∧ 0 ≤ b ∧ b ≤ 16) (h : Q (.bool (decide (a = b))) s) : wpAny (model prog w) A (compareOp .Eq (.float (qf a) t) (.float (qf b) u)) Q E s := by
  refine AutoFloatOps.eq_0 ?_
  rw [cmp_q ⟨hb.1, hb.2.1⟩ hb.2.2]
  by_cases e : a = b
  · subst e; simpa using h
  · rw [decide_eq_false e] at h
    rw [show (some (compare a b) == some Ordering.eq) = false by simpa using e]; exact h
theorem divK_q (hb : 1 ≤ b ∧ b ≤ 32) (h : Q (.float (rt a b) s.toks) { s with toks := s.toks + 1 }) : wpAny (model prog w) A (binaryOp .Div (.float (qf a) t) (.float (qf b) u)) Q E s :=
  AutoFloatOps.truediv_1 (by rw [zero_q ⟨by omega, hb.2⟩]; simp; omega) h
theorem divK_c {x y : UInt64} (hz : Float64.isZero y = false) (h : Q (.float (Float64.div x y) s.toks) { s with toks := s.toks + 1 }) : wpAny (model prog w) A (binaryOp .Div (.float x t) (.float y u)) Q E s :=
  AutoFloatOps.truediv_1 (by rw [hz]; exact Bool.false_ne_true) h
theorem modK_c {x y : UInt64} (hz : Float64.isZero y = false) (h : Q (.float (Float64.divmod x y).2 s.toks) { s with toks := s.toks + 1 }) : wpAny (model prog w) A (binaryOp .Mod (.float x t) (.float y u)) Q E s :=
  AutoFloatOps.mod_1 (by rw [hz]; exact Bool.false_ne_true) h
theorem part16 (ha : 0 ≤ a ∧ a ≤ 16) (h : Q (.float (qf a) s.toks) { s with toks := s.toks + 1 }) : wpAny (model prog w) A (binaryOp .Div (.int a t) (.int 16 u)) Q E s := by
  have e : Float64.ofFrac (decide (a < 0) != decide ((16 : Int) < 0)) a.natAbs (16 : Int).natAbs = qf a := by
    rw [decide_eq_false (show ¬ a < 0 by omega)]; rfl
  refine AutoIntOps.truediv_2 (by decide) ?_ ?_
  · rw [e]
    have hf : all2 17 (fun a _ => !Float64.isInf (qf a)) = true := by decide +kernel
    have := of_all2 hf (a := a) (b := 0) ⟨ha.1, by omega⟩ ⟨by omega, by omega⟩
    simpa using this
  · rw [e]; exact h
end
end
section
open PySem PySem.W PySem.Calls PyProof.Rows PyProof.V PySem.Spec
set_option maxRecDepth 100000
/-- the walk stops here -/
noncomputable def Halt (p : Prop) : Prop := p
theorem halt {p : Prop} (h : Halt p) : p := h
theorem Halt.out {p : Prop} (h : p) : Halt p := h
noncomputable def AllNe (d : Addr) : List (Addr × Obj) → Prop
  | [] => True
  | p :: r => (@Ne Nat p.1 d) ∧ AllNe d r
theorem allNe_of {d : Addr} : ∀ {l : List (Addr × Obj)}, (∀ p ∈ l, p.1 ≠ d) → AllNe d l
  | [], _ => trivial
  | p :: _, h => ⟨h p (.head _), allNe_of fun q hq => h q (.tail _ hq)⟩
theorem ne_one {news : List (Addr × Obj)} {l : Addr} {o : Obj} (h : ∀ q ∈ news, ∀ p ∈ [(l, o)], q.1 ≠ p.1) : AllNe l news := allNe_of fun q hq => h q hq (l, o) (.head _)
section
variable {prog : Program} {w : World} {A : Around} {E : Value → Shared → Prop} {s : Shared} {env : Env} {h₀ : Heap} {x : Str} {body : List Stmt} {Q : Flow → Shared → Prop}
/-- a turn's end: the iterator stands, the word holds -/
noncomputable def TEnd (h₀ : Heap) (L I : Addr) (oI : Obj) (J : (Str → Option Value) → List (Addr × Obj) → Prop) (s₁ : Shared) (Q : Flow → Shared → Prop) (f : Flow) (s₂ : Shared) : Prop :=
  match f with
  | .ret v => Q (.ret v) s₂
  | .brk => Q .next s₂
  | _ => ∃ h' tk m' news', s₂ = { s₁ with heap := h', toks := tk } ∧ Fr h₀ L h' m' ∧ News h₀ L h' ((I, oI) :: news') ∧ (∀ p ∈ news', p.1 ≠ I) ∧ J m' news'
theorem loopAt {I : Addr} {fp : List Addr} {n : Nat} {P : Nat → Value → Prop} {St : Nat → Heap → Prop} {m₀ : Str → Option Value} {news : List (Addr × Obj)} (J : Nat → (Str → Option Value) → List (Addr × Obj) → Prop)
    (W : Walks prog w A I fp [I] n P St) (hL : env.locals ∉ fp) (hI : h₀.get? I = none) (hfp : ∀ b ∈ fp, b = I ∨ ∃ q, h₀.get? b = some q) (hIo : ∀ i h, St i h → ∃ o, h.get? I = some o)
    (hst : St 0 s.heap) (F : Fr h₀ env.locals s.heap m₀) (N : News h₀ env.locals s.heap news) (off : ∀ p ∈ news, p.1 ≠ I) (hj : J 0 m₀ news)
    (turn : ∀ i v m₁ news₁ oI h tk, i < n → P i v → J i m₁ news₁ → Fr h₀ env.locals h (fun y => if y = x then some v else m₁ y) → News h₀ env.locals h ((I, oI) :: news₁) → (∀ p ∈ news₁, p.1 ≠ I) →
      wpAny (model prog w) A (execs body env) (TEnd h₀ env.locals I oI (J (i + 1)) { s with heap := h, toks := tk } Q) E { s with heap := h, toks := tk })
    (done : ∀ m₁ news₁ h tk, J n m₁ news₁ → Fr h₀ env.locals h m₁ → News h₀ env.locals h news₁ → Q .next { s with heap := h, toks := tk }) :
    LoopAtV prog w A h₀ env x body Q E (.ref I) s := by
  refine ⟨I, fp, [I], n, P, St, m₀, news, J, rfl, W, hL, ?_, ?_, hst, F, N, hj, ?_, ?_⟩
  · intro b hb; rw [List.mem_singleton.mp hb]; exact hI
  · intro p hp hq; exact off p hp (List.mem_singleton.mp hq)
  · rintro i v m₁ news₁ s₁ own ⟨hh', tk', rfl⟩ hin hP hJ hoff hown hat hmem hst' F₁ N₁
    obtain ⟨oI, ho⟩ := hIo _ _ hst'
    have hIfp : I ∈ fp := W.sub I (List.mem_singleton.mpr rfl)
    have all1 := own_one hown hfp ho N₁
    have hio : (I, oI) ∈ own := hmem I hIfp hI oI ho
    refine wpAny_mono (turn i v m₁ news₁ oI hh' tk' hin hP hJ F₁ (news_one hio N₁) fun p hp q => hoff p hp (List.mem_singleton.mpr q)) (fun f s₂ p => ?_) fun _ _ e => e
    have fin : (∃ h' tk m' news', s₂ = { s with heap := h', toks := tk } ∧ Fr h₀ env.locals h' m' ∧ News h₀ env.locals h' ((I, oI) :: news') ∧ (∀ p ∈ news', p.1 ≠ I) ∧ J (i + 1) m' news') →
        LoopStepU h₀ env.locals [I] own (J (i + 1)) { s with heap := hh', toks := tk' } .next s₂ := by
      rintro ⟨h', tk, m', news', e, F', N', of', hm⟩
      refine ⟨rfl, h', tk, m', news', e, F', fun p hp => ?_, fun p hp hq => of' p hp (List.mem_singleton.mp hq), hm⟩
      rcases List.mem_append.mp hp with hp | hp
      · rw [all1 p hp]; exact N' _ (.head _)
      · exact N' _ (.tail _ hp)
    cases f with
    | ret v => exact .ret p
    | brk => exact .brk p
    | next => exact .next (fin p)
    | cont => exact .cont (fin p)
  · rintro h' tk m' news' F' N' _ hJ
    exact done m' news' h' tk hJ F' N'
theorem iter_vals {l : Addr} {vs : List Value} {m₀ : Str → Option Value} {news : List (Addr × Obj)} (J : Nat → (Str → Option Value) → List (Addr × Obj) → Prop)
    (hh : A.handled = none) (hl : h₀.IsList l vs.toArray) (F : Fr h₀ env.locals s.heap m₀) (N : News h₀ env.locals s.heap news) (hj : J 0 m₀ news)
    (turn : ∀ i v m₁ news₁ I oI h tk, vs[i]? = some v → J i m₁ news₁ → Fr h₀ env.locals h (fun y => if y = x then some v else m₁ y) → News h₀ env.locals h ((I, oI) :: news₁) → (∀ p ∈ news₁, p.1 ≠ I) →
      wpAny (model prog w) A (execs body env) (TEnd h₀ env.locals I oI (J (i + 1)) { s with heap := h, toks := tk } Q) E { s with heap := h, toks := tk })
    (done : ∀ m₁ news₁ h tk, J vs.length m₁ news₁ → Fr h₀ env.locals h m₁ → News h₀ env.locals h news₁ → Q .next { s with heap := h, toks := tk }) :
    wpAny (model prog w) A (pyIter (.ref l)) (fun it s₂ => LoopAtV prog w A h₀ env x body Q E it s₂) E s := by
  have hls : s.heap.IsList l vs.toArray := hl.at fun o e => F.keep l o e
  obtain ⟨ol, hol, _⟩ := id hl
  have hlt : l < h₀.objs.size := Heap.lt_size hol
  have hne : l ≠ s.heap.objs.size := Nat.ne_of_lt (Nat.lt_trans (Nat.lt_of_lt_of_le hlt F.above) F.ns.lt)
  refine wpAny_pyIter_list hls ?_
  have W := Walks.list (prog := prog) (w := w) hh s.heap.objs.size l hne vs.toArray
  have hlen : vs.toArray.size = vs.length := by simp
  rw [hlen] at W
  refine loopAt J W ?_ (next_is_new F) ?_ (fun i h st => by obtain ⟨o, e, _⟩ := st.1; exact ⟨o, e⟩) ⟨⟨_, Heap.get?_push_size _ rfl, rfl, rfl⟩, hls.at fun o e => Heap.get?_push_of_some _ e⟩ (F.push _)
    (fun p hp => ⟨Heap.get?_push_of_some _ (N p hp).1, (N p hp).2⟩) (fun p hp => Nat.ne_of_lt (Heap.lt_size (N p hp).1)) hj ?_ done
  · intro hm
    rcases List.mem_cons.mp hm with e | hm
    · exact absurd F.ns.lt (e ▸ Nat.lt_irrefl _)
    · exact absurd (Nat.lt_of_lt_of_le hlt F.above) ((List.mem_singleton.mp hm) ▸ Nat.lt_irrefl _)
  · intro b hb
    rcases List.mem_cons.mp hb with rfl | hb
    · exact .inl rfl
    · exact .inr ⟨ol, (List.mem_singleton.mp hb) ▸ hol⟩
  · intro i v m₁ news₁ oI h tk hi hP hJ F₁ N₁ of₁
    exact turn i v m₁ news₁ _ oI h tk (by simpa using hP) hJ F₁ N₁ of₁
end
theorem map1b {m : Str → Option Value} {a : Str} {va : Value} (ha : m a = some va) : m = fun y => if y = a then some va else m y := by
  funext y
  by_cases h : y = a
  · subst h; simp [ha]
  · simp [h]
theorem map3b {m : Str → Option Value} {a b c : Str} {va vb vc : Value} (ha : m a = some va) (hb : m b = some vb) (hc : m c = some vc) :
    m = fun y => if y = a then some va else if y = b then some vb else if y = c then some vc else m y := by
  funext y
  by_cases h : y = a
  · subst h; simp [ha]
  · by_cases h2 : y = b
    · subst h2; simp [h, hb]
    · by_cases h3 : y = c
      · subst h3; simp [h, h2, hc]
      · simp [h, h2, h3]
theorem map4b {m : Str → Option Value} {a b c d : Str} {va vb vc vd : Value} (ha : m a = some va) (hb : m b = some vb) (hc : m c = some vc) (hd : m d = some vd) :
    m = fun y => if y = a then some va else if y = b then some vb else if y = c then some vc else if y = d then some vd else m y := by
  rw [show (fun y => if y = a then some va else if y = b then some vb else if y = c then some vc else if y = d then some vd else m y) = fun y => if y = a then some va else if y = b then some vb else if y = c then some vc else (fun y => if y = d then some vd else m y) y from rfl, ← map1b hd]
  exact map3b ha hb hc
theorem map7b {m : Str → Option Value} {a1 a2 a3 a4 a5 a6 a7 : Str} {v1 v2 v3 v4 v5 v6 v7 : Value} (h1 : m a1 = some v1) (h2 : m a2 = some v2) (h3 : m a3 = some v3) (h4 : m a4 = some v4) (h5 : m a5 = some v5) (h6 : m a6 = some v6) (h7 : m a7 = some v7) :
    m = fun y => if y = a1 then some v1 else if y = a2 then some v2 else if y = a3 then some v3 else if y = a4 then some v4 else if y = a5 then some v5 else if y = a6 then some v6 else if y = a7 then some v7 else m y := by
  rw [show (fun y => if y = a1 then some v1 else if y = a2 then some v2 else if y = a3 then some v3 else if y = a4 then some v4 else if y = a5 then some v5 else if y = a6 then some v6 else if y = a7 then some v7 else m y)
    = fun y => if y = a1 then some v1 else if y = a2 then some v2 else if y = a3 then some v3 else (fun y => if y = a4 then some v4 else if y = a5 then some v5 else if y = a6 then some v6 else if y = a7 then some v7 else m y) y from rfl, ← map4b h4 h5 h6 h7]
  exact map3b h1 h2 h3
end
section
open PySem PySem.W PySem.Calls PyProof.Rows
set_option maxRecDepth 100000
set_option maxHeartbeats 4000000
local macro_rules | `(tactic| walk_at "m in") => `(tactic| first | assumption | (apply orL; walk_at "m in") | (apply orR; walk_at "m in"))
section
local macro_rules | `(tactic| walk_at "m room") => `(tactic| ((try dsimp only [Around.deeper, Around.in1]); (first | assumption | (refine' room ?zrh ?zre; (case zrh => assumption); (case zre => rfl)) | (refine' room0 ?zrh; (case zrh => assumption)) | (refine' room2 ?zrh ?zre; (case zrh => assumption); (case zre => rfl)) | (refine' room3 ?zrh ?zre; (case zrh => assumption); (case zre => rfl)) | omega)))
section
local macro_rules | `(tactic| walk_at "m up") => `(tactic| (first | assumption | (apply andR; first | assumption | (apply andR; first | assumption | (apply andR; first | assumption | (apply andR; first | assumption | (apply andR; first | assumption | (apply andR; first | assumption | (apply andR; first | assumption | (apply andR; first | assumption | (apply andR; first | assumption | (apply andR; first | assumption | (apply andR; first | assumption | (apply andR; assumption))))))))))))))
section
local macro_rules | `(tactic| walk_at "m lt") => `(tactic| (apply andL; walk_at "m up"))
section
local macro_rules | `(tactic| walk_at "m slot") => `(tactic| first | (apply andL; walk_at "m up") | (apply andL; apply andL; walk_at "m up") | (apply andL; apply andR; apply andL; walk_at "m up") | (apply andR; apply andR; apply andL; walk_at "m up"))
section
local macro_rules | `(tactic| k_ne) => `(tactic| (refine neN ?_; first | assumption | exact neS (by assumption) | exact neL (by assumption) | exact neG (by assumption) | exact ne1 | exact ne1.symm | exact ne2 | exact ne2.symm | exact neL (by walk_at "m lt") | exact neG (by walk_at "m lt") | walk_at "m slot" | exact neS (by walk_at "m slot") | ((try dsimp only); omega)))
section
local macro_rules | `(tactic| k_lt $h:ident) => `(tactic| (replace $h := allLt_of $h; dsimp only [AllLt] at $h:ident))
section
local macro_rules | `(tactic| walk_at "subscriptTail") => `(tactic| (k_here; (with_reducible show wpAny _ _ (subscriptTail _ _ (Value.ref _) (Value.int _ _)) _ _ _); k_dflt (first
  | (refine' item_Nt ?zzN ?zzm ?zzk ?zzx ?zzj ?_ ?zzhs; (case zzk => decide); (case zzN => k_asm); (case zzm => k_mem))
  | (refine' item_Bt ?zzF ?zzl ?zzk ?zzx ?zzj ?_ ?zzhs; (case zzk => decide); (case zzF => k_asm); (case zzl => assumption))); (case zzx => rfl); (case zzj => decide); (case zzhs => with_unfolding_all rfl); k_whole))
section
local macro_rules | `(tactic| walk_at "CompRest") => `(tactic| (with_unfolding_all first
  | (refine LCg.CompRest.succ ?_; intro v' I' oI' C' oC' D' m' h' tk' E' hv' hC' hx' F' N' off' ne'; (first | lcg_open hv' | (obtain ⟨t9', hv9'⟩ := hv'; subst hv9')); (try dsimp only [LCg.Off3] at off'))
  | refine LCg.CompRest.zero ?_))
section
local macro_rules | `(tactic| walk_at "FinE") => `(tactic| ((unfold LCg.FinE); intro D' h' tk' F' N' o1'; (try dsimp only [LCg.Off1] at o1'); (try simp only [List.nil_append, List.cons_append] at N'); (try dsimp only)))
section
local macro_rules | `(tactic| walk_at "FinA") => `(tactic| ((unfold LCg.FinA); intro D' h' tk' F' N' o1'; (try dsimp only [LCg.Off1] at o1'); (try simp only [List.nil_append, List.cons_append] at N'); (try dsimp only)))
section
local macro_rules | `(tactic| units_room) => `(tactic| walk_at "m room")
section
local macro_rules | `(tactic| walk_at "m after0") => `(tactic| (intro t' h' tk' F' N'; (try dsimp only); (try k_sweep)))
section
local macro_rules | `(tactic| walk_at "m prem") => `(tactic| ((case zzk2 => k_asm); (case zzk3 => k_asm); (case zzk4 => k_asm); (case zzk5 => k_asm); (case zzkd => walk_at "m room"); (case zzku => walk_at "m room"); (case zzkp => first | trivial | assumption)))
section
local macro_rules | `(tactic| walk_at "call ref") => `(tactic| (k_here; k_dflt (refine' useV (figure_ok0 _ _ _ _) ?zzk2 ?zzk3 ?zzk4 ?zzk5 ?zzkd ?zzku ?zzkp ?_; walk_at "m prem"; k_whole; walk_at "m after0")))
section
local macro_rules | `(tactic| walk_at "call ref") => `(tactic| (k_here; k_dflt (refine' useV (figure_ok1 _ _ _ _) ?zzk2 ?zzk3 ?zzk4 ?zzk5 ?zzkd ?zzku ?zzkp ?_; walk_at "m prem"; k_whole; walk_at "m after0")))
section
local macro_rules | `(tactic| walk_at "call ref") => `(tactic| (k_here; k_dflt (refine' useV (figure_ok2 _ _ _ _) ?zzk2 ?zzk3 ?zzk4 ?zzk5 ?zzkd ?zzku ?zzkp ?_; walk_at "m prem"; k_whole; walk_at "m after0")))
section
local macro_rules | `(tactic| walk_at "m sz") => `(tactic| (simp only [List.size_toArray, List.length_cons, List.length_nil]; decide))
section
local macro_rules | `(tactic| walk_at "inplaceOp Add ref") => `(tactic| (k_here; k_dflt (refine' iadd_K ?zzF ?zzN ?zzm ?zzU ?zzd ?zzs1 ?zzs2 ?_; (case zzF => k_asm); (case zzN => k_asm); (case zzm => k_mem); (case zzU => k_upd); (case zzd => walk_at "m sz"); (case zzs1 => walk_at "m sz"); (case zzs2 => walk_at "m sz"); k_whole); intro h' F' N'; (try simp only [List.append_toArray, List.cons_append, List.nil_append, List.size_toArray, List.length_cons, List.length_nil] at N'); (try k_sweep)))
section
local macro_rules | `(tactic| walk_at "exec Assign cons ListComp") => `(tactic| (k_here; k_dflt (refine LCg.Assign_ListComp_U (F₀ := by k_asm) (by rfl) (by with_unfolding_all rfl) (by with_unfolding_all rfl) (by decide) (by rfl) (by decide) (by rfl) (by rfl) (by rfl) ?_); k_dflt lcg_toSrc))
section
local macro_rules | `(tactic| walk_at "eval ListComp") => `(tactic| (k_here; k_dflt (refine LCg.ListComp_U (F₀ := by k_asm) (by with_unfolding_all rfl) (by decide) (by rfl) (by decide) (by rfl) ?_); k_dflt lcg_toSrc))
section
local macro_rules | `(tactic| walk_at "CompSrc") => `(tactic| (k_here; k_dflt (first
  | (refine LCg.CompSrc.ledger (by rfl) (by k_asm) (by k_asm) (by k_mem) (by first | size_fits | exact Nat.le_of_ble_eq_true rfl) ?_; intro g'; lcg_lit)
  | (refine LCg.CompSrc.base (by rfl) (by k_asm) (by k_asm) (by assumption) (by first | size_fits | exact Nat.le_of_ble_eq_true rfl) ?_; intro g'; lcg_lit)
  | (refine LCg.CompSrc.range (by rfl) (by k_asm) (by k_asm) (by assumption) (by first | decide | rfl) (by first | rfl | decide) (by first | size_fits | exact Nat.le_of_ble_eq_true rfl) ?_; intro g'; lcg_lit))))
section
local macro_rules | `(tactic| walk_at "CompEnd") => `(tactic| lcg_end)
theorem start_7 : True := by
  w_top off
  have : True ∧ True := by
    first
    | (walk1; done)
    | exact ⟨trivial, trivial⟩
  trivial
section
open PySem PySem.W PySem.Calls PyProof.Rows
set_option maxRecDepth 100000
set_option maxHeartbeats 4000000
theorem fill_C4 : (Challenge.rw_mr0087_01 = Challenge.rw_mr0087_01 ∧ hd.heap_39 = hd.heap_39) → True := by
  k_fill
  intro _; trivial
noncomputable abbrev Pre3 (l : Addr) (a b c : Int) (h : Heap) : Prop := ∃ ta tb tc, h.IsList l #[.int a ta, .int b tb, .int c tc]
theorem min3_of {a b c M : Int} (h1 : M = a ∨ M = b ∨ M = c) (h2 : M ≤ a ∧ M ≤ b ∧ M ≤ c) : M = min3 a b c := by
  refine Int.le_antisymm (Int.le_min.mpr ⟨Int.le_min.mpr ⟨h2.1, h2.2.1⟩, h2.2.2⟩) ?_
  have q : min (min a b) c ≤ min a b := Int.min_le_left _ _
  rcases h1 with e | e | e
  · rw [e]; exact Int.le_trans q (Int.min_le_left _ _)
  · rw [e]; exact Int.le_trans q (Int.min_le_right _ _)
  · rw [e]; exact Int.min_le_right _ _
theorem above_end {s : Shared} {Q : Value → Shared → Prop} {L l : Addr} {h' : Heap} {m : Str → Option Value} {tk' : Nat} {news : List (Addr × Obj)} {a b c : Int} {ta tb tc : Tok} {k : Nat}
    (hret : ∀ (r : Value) (tl : List (Addr × Obj)) (h' : Heap) (tk' : Nat), Kp s.heap h' → Fresh s.heap h' tl → (∃ l' o, r = .ref l' ∧ tl = [(l', o)] ∧ List3 a b c o) → Q r { s with heap := h', toks := tk' })
    (F : Fr s.heap L h' m) (N : News s.heap L h' news) (hm : (l, ({ cls := .type "list", data := .seq #[.int a ta, .int b tb, .int c tc] k } : Obj)) ∈ news) : Q (.ref l) { s with heap := h', toks := tk' } :=
  hret _ _ _ _ F.keep (fresh1 N hm) ⟨l, _, rfl, rfl, ⟨ta, tb, tc, k, rfl⟩⟩
theorem above_ok (w : World) (l : Addr) (a b c : Int) (hc : IsCol a b c) : Ctr w 2 24 93 [.ref l] (fun h => Pre3 l a b c h)
    (fun r tl => ∃ l' o, r = .ref l' ∧ tl = [(l', o)] ∧ List3 (a - min3 a b c) (b - min3 a b c) (c - min3 a b c) o) := by
  intro p loose mean mg mb dp un gd fr s Q E X T hdp hun hpre hret
  obtain ⟨ta, tb, tc, hl⟩ := hpre
  (k_dflt (refine' enterC (binds := [(Str.ofString "colour", .ref l)]) ?zzk3 ?zzk5 ?zzk6 ?zzk7 ?zzk8 ?zzk9 ?zzkB ?zzkD ?_ ?zzc2 ?zzc3 ?zzc4; (case zzk3 => k_asm); (case zzk5 => k_asm); (case zzk6 => k_is); (case zzk7 => k_is); (case zzk8 => walk_at "m room"); (case zzk9 => first | exact BindsTo.of_eq rfl | exact binds_K (by k_in) rfl (by k_is) rfl rfl rfl); (case zzkB => exact rfl); (case zzkD => decide +kernel); (case zzc2 => exact rfl); (case zzc3 => exact rfl); (case zzc4 => exact rfl); k_whole; intro L' h' tk' cells' F' N' Y'; skip))
  obtain ⟨oc1, hE9, dc1⟩ := CellsAre.one Y'
  subst hE9; clear Y'
  replace dc1 : oc1.data = .cell (none) := dc1
  (try simp only [List.cons_append, List.nil_append] at N'); (try dsimp only); (try k_fold)
  k_steps
  (try dsimp only)
  (rename (_ = _ ∨ _ = _ ∨ _ = _) => hM1)
  (rename (_ ≤ _ ∧ _ ≤ _ ∧ _ ≤ _) => hM2)
  have hM := min3_of hM1 hM2
  subst hM
  (refine' above_end hret ?zzF ?zzN ?zzm; (case zzF => k_asm); (case zzN => k_asm); (case zzm => k_mem))
noncomputable def alikeB (a b c d e f : Int) : Bool := decide (¬ (a + b + c = 0) ∧ ¬ (d + e + f = 0) ∧ a * (d + e + f) = d * (a + b + c) ∧ b * (d + e + f) = e * (a + b + c) ∧ c * (d + e + f) = f * (a + b + c))
theorem alike_end {s : Shared} {Q : Value → Shared → Prop} {L : Addr} {h' : Heap} {m : Str → Option Value} {tk' : Nat} {v v' : Bool}
    (hret : ∀ (r : Value) (tl : List (Addr × Obj)) (h' : Heap) (tk' : Nat), Kp s.heap h' → Fresh s.heap h' tl → (tl = [] ∧ r = .bool v) → Q r { s with heap := h', toks := tk' })
    (F : Fr s.heap L h' m) (hv : v' = v) : Q (.bool v') { s with heap := h', toks := tk' } :=
  hret _ [] _ _ F.keep (fun _ h => nomatch h) ⟨rfl, by rw [hv]⟩
theorem alike3 {a b c d e f : Int} (h1' : a + (b + (c + 0)) ≠ 0) (h2' : d + (e + (f + 0)) ≠ 0) :
    decide ([a * (d + (e + (f + 0))), b * (d + (e + (f + 0))), c * (d + (e + (f + 0)))] = [d * (a + (b + (c + 0))), e * (a + (b + (c + 0))), f * (a + (b + (c + 0)))]) =
    decide (¬ (a + b + c = 0) ∧ ¬ (d + e + f = 0) ∧ a * (d + e + f) = d * (a + b + c) ∧ b * (d + e + f) = e * (a + b + c) ∧ c * (d + e + f) = f * (a + b + c)) := by
  have h1 : ¬ a + b + c = 0 := by omega
  have h2 : ¬ d + e + f = 0 := by omega
  simp only [Int.add_zero, List.cons.injEq, and_true, ← Int.add_assoc]
  exact decide_eq_decide.mpr ⟨fun h => ⟨h1, h2, h⟩, fun h => h.2.2⟩
theorem alike_ok (w : World) (l l2 : Addr) (a b c d e f : Int) (h1 : IsCol a b c) (h2 : IsCol d e f) : Ctr w 2 100 98 [.ref l, .ref l2] (fun h => Pre3 l a b c h ∧ Pre3 l2 d e f h)
    (fun r tl => tl = [] ∧ r = .bool (alikeB a b c d e f)) := by
  intro p loose mean mg mb dp un gd fr s Q E X T hdp hun hpre hret
  obtain ⟨⟨ta, tb, tc, hl⟩, ⟨td, te, tf, hl2⟩⟩ := hpre
  unfold IsCol at h1 h2
  (k_dflt (refine' enterC (binds := [(Str.ofString "one", .ref l), (Str.ofString "other", .ref l2)]) ?zzk3 ?zzk5 ?zzk6 ?zzk7 ?zzk8 ?zzk9 ?zzkB ?zzkD ?_ ?zzc2 ?zzc3 ?zzc4; (case zzk3 => k_asm); (case zzk5 => k_asm); (case zzk6 => k_is); (case zzk7 => k_is); (case zzk8 => walk_at "m room"); (case zzk9 => first | exact BindsTo.of_eq rfl | exact binds_K (by k_in) rfl (by k_is) rfl rfl rfl); (case zzkB => exact rfl); (case zzkD => decide +kernel); (case zzc2 => exact rfl); (case zzc3 => exact rfl); (case zzc4 => exact rfl); k_whole; intro L' h' tk' cells' F' N' Y'; skip))
  obtain ⟨oc1, oc2, hE9, dc1, dc2⟩ := CellsAre.two Y'
  subst hE9; clear Y'
  replace dc1 : oc1.data = .cell (none) := dc1
  replace dc2 : oc2.data = .cell (none) := dc2
  (try simp only [List.cons_append, List.nil_append] at N'); (try dsimp only); (try k_fold)
  k_steps
  all_goals (try dsimp only)
  all_goals (refine' alike_end hret ?zzF ?_; (case zzF => k_asm))
  all_goals unfold alikeB
  · exact (decide_eq_false fun h9 => h9.1 (by omega)).symm
  · exact (decide_eq_false fun h9 => h9.2.1 (by omega)).symm
  · exact alike3 (by assumption) (by assumption)
end
section
local macro_rules | `(tactic| walk_at "call builtin:max") => `(tactic| (k_here; (with_reducible show wpAny _ _ (call (Value.builtin "max") [Value.float (qf _) _, Value.float (qf _) _, Value.float (qf _) _]) _ _ _); k_dflt (refine' max3_q ?zzF ?zzN ?zzh ?zzc ?_; (case zzF => k_asm); (case zzN => k_asm); (case zzh => rfl); (case zzc => assumption); k_whole); intro tok' h' tk' F' N'; (try dsimp only); (try k_sweep)))
section
local macro_rules | `(tactic| walk_at "call builtin:min") => `(tactic| (k_here; (with_reducible show wpAny _ _ (call (Value.builtin "min") [Value.float (qf _) _, Value.float (qf _) _, Value.float (qf _) _]) _ _ _); k_dflt (refine' min3_q ?zzF ?zzN ?zzh ?zzc ?_; (case zzF => k_asm); (case zzN => k_asm); (case zzh => rfl); (case zzc => assumption); k_whole); intro tok' h' tk' F' N'; (try dsimp only); (try k_sweep)))
section
local macro_rules | `(tactic| walk_at "binaryOp Sub float float") => `(tactic| (k_here; (with_reducible show wpAny _ _ (binaryOp Operator.Sub (Value.float (qf _) _) (Value.float (qf _) _)) _ _ _); refine subK_q (by omega) ?_; try dsimp only))
section
local macro_rules | `(tactic| walk_at "binaryOp Sub float float") => `(tactic| (k_here; (with_reducible show wpAny _ _ (binaryOp Operator.Sub (Value.float 0x4000000000000000 _) (Value.float (qf _) _)) _ _ _); refine subK_2 (by omega) ?_; try dsimp only))
section
local macro_rules | `(tactic| walk_at "binaryOp Add float float") => `(tactic| (k_here; (with_reducible show wpAny _ _ (binaryOp Operator.Add (Value.float (qf _) _) (Value.float (qf _) _)) _ _ _); refine addK_q (by omega) ?_; try dsimp only))
section
local macro_rules | `(tactic| walk_at "compareOp Eq float float") => `(tactic| (k_here; (with_reducible show wpAny _ _ (compareOp CmpOp.Eq (Value.float (qf _) _) (Value.float (qf _) _)) _ _ _); refine eqK_q (by omega) ?_; try dsimp only))
section
local macro_rules | `(tactic| walk_at "binaryOp Div float float") => `(tactic| (k_here; refine divK_c (by decide +kernel) ?_; try dsimp only))
section
local macro_rules | `(tactic| walk_at "binaryOp Div float float") => `(tactic| (k_here; (with_reducible show wpAny _ _ (binaryOp Operator.Div (Value.float (qf _) _) (Value.float (qf _) _)) _ _ _); refine divK_q (by omega) ?_; try dsimp only))
section
local macro_rules | `(tactic| walk_at "binaryOp Mod float float") => `(tactic| (k_here; refine modK_c (by decide +kernel) ?_; try dsimp only))
theorem start_8 : True := by
  w_top off
  have : True ∧ True := by
    first
    | (walk1; done)
    | exact ⟨trivial, trivial⟩
  trivial
section
open PySem PySem.W PySem.Calls PyProof.Rows
set_option maxRecDepth 100000
set_option maxHeartbeats 4000000
theorem fill_F1 : (Challenge.rw_mr0087_01 = Challenge.rw_mr0087_01 ∧ hd.heap_39 = hd.heap_39) → True := by
  k_fill
  intro _; trivial
theorem mx2 (a b : Int) : a ≤ max a b ∧ b ≤ max a b ∧ (max a b = a ∨ max a b = b) := ⟨Int.le_max_left a b, Int.le_max_right a b, by rw [Int.max_def]; split; exact .inr rfl; exact .inl rfl⟩
theorem mn2 (a b : Int) : min a b ≤ a ∧ min a b ≤ b ∧ (min a b = a ∨ min a b = b) := ⟨Int.min_le_left a b, Int.min_le_right a b, by rw [Int.min_def]; split; exact .inl rfl; exact .inr rfl⟩
theorem or3 {x y a b c : Int} (h1 : x = a ∨ x = b) (h2 : y = x ∨ y = c) : y = a ∨ y = b ∨ y = c := h2.elim (fun e => h1.elim (fun f => .inl (e.trans f)) fun f => .inr (.inl (e.trans f))) fun e => .inr (.inr e)
theorem max3_facts (a b c : Int) : a ≤ max3 a b c ∧ b ≤ max3 a b c ∧ c ≤ max3 a b c ∧ (max3 a b c = a ∨ max3 a b c = b ∨ max3 a b c = c) :=
  ⟨Int.le_trans (mx2 a b).1 (mx2 _ c).1, Int.le_trans (mx2 a b).2.1 (mx2 _ c).1, (mx2 _ c).2.1, or3 (mx2 a b).2.2 (mx2 _ c).2.2⟩
theorem min3_facts (a b c : Int) : min3 a b c ≤ a ∧ min3 a b c ≤ b ∧ min3 a b c ≤ c ∧ (min3 a b c = a ∨ min3 a b c = b ∨ min3 a b c = c) :=
  ⟨Int.le_trans (mn2 _ c).1 (mn2 a b).1, Int.le_trans (mn2 _ c).1 (mn2 a b).2.1, (mn2 _ c).2.1, or3 (mn2 a b).2.2 (mn2 _ c).2.2⟩
/-- the least and the most, with no case -/
theorem bnds {a b c : Int} (h : 0 ≤ a ∧ a ≤ 16 ∧ 0 ≤ b ∧ b ≤ 16 ∧ 0 ≤ c ∧ c ≤ 16) : 0 ≤ min3 a b c ∧ max3 a b c ≤ 16 ∧ min3 a b c ≤ max3 a b c := by
  have q := min3_facts a b c
  have r := max3_facts a b c
  refine ⟨?_, ?_, Int.le_trans q.1 r.1⟩
  · rcases q.2.2.2 with e | e | e
    · rw [e]; exact h.1
    · rw [e]; exact h.2.2.1
    · rw [e]; exact h.2.2.2.2.1
  · rcases r.2.2.2 with e | e | e
    · rw [e]; exact h.2.1
    · rw [e]; exact h.2.2.2.1
    · rw [e]; exact h.2.2.2.2.2
noncomputable def lastF (h : UInt64) : UInt64 := (Float64.divmod (Float64.div h 0x4018000000000000) 0x3ff0000000000000).2
noncomputable def hueI (a b c : Int) : UInt64 :=
  lastF (if a = max3 a b c then Float64.sub (rt (max3 a b c - c) (max3 a b c - min3 a b c)) (rt (max3 a b c - b) (max3 a b c - min3 a b c))
    else if b = max3 a b c then Float64.sub (Float64.add 0x4000000000000000 (rt (max3 a b c - a) (max3 a b c - min3 a b c))) (rt (max3 a b c - c) (max3 a b c - min3 a b c))
    else Float64.sub (Float64.add 0x4010000000000000 (rt (max3 a b c - b) (max3 a b c - min3 a b c))) (rt (max3 a b c - a) (max3 a b c - min3 a b c)))
noncomputable abbrev HueShare (a b c : Int) (H S : UInt64) : Prop := (Float64.cmpInt S 0 == some .eq) = decide (min3 a b c = max3 a b c) ∧ (min3 a b c ≠ max3 a b c → H = hueI a b c)
noncomputable abbrev PostHsv (a b c : Int) (r : Value) (tl : List (Addr × Obj)) : Prop := ∃ t o H S V th ts tv k, r = .ref t ∧ tl = [(t, o)] ∧ o = { cls := .type "tuple", data := .seq #[.float H th, .float S ts, .float V tv] k } ∧ HueShare a b c H S ∧ (0 < th ∨ min3 a b c = max3 a b c)
theorem hs_grey {a b c : Int} (h : min3 a b c = max3 a b c) (H : UInt64) : HueShare a b c H 0 := by
  refine ⟨?_, fun hn => absurd h hn⟩
  rw [decide_eq_true h]; decide +kernel
theorem hsv_end {s : Shared} {Q : Value → Shared → Prop} {L l : Addr} {h' : Heap} {m : Str → Option Value} {tk' : Nat} {news : List (Addr × Obj)} {a b c : Int} {H S V : UInt64} {ta tb tc : Tok} {k : Nat}
    (hret : ∀ (r : Value) (tl : List (Addr × Obj)) (h' : Heap) (tk' : Nat), Kp s.heap h' → Fresh s.heap h' tl → PostHsv a b c r tl → Q r { s with heap := h', toks := tk' })
    (F : Fr s.heap L h' m) (N : News s.heap L h' news) (hm : (l, ({ cls := .type "tuple", data := .seq #[.float H ta, .float S tb, .float V tc] k } : Obj)) ∈ news) (hs : HueShare a b c H S) (ht : 0 < ta ∨ min3 a b c = max3 a b c) : Q (.ref l) { s with heap := h', toks := tk' } :=
  hret _ _ _ _ F.keep (fresh1 N hm) ⟨l, _, H, S, V, ta, tb, tc, k, rfl, rfl, rfl, hs, ht⟩
noncomputable abbrev PostHls (a b c : Int) (r : Value) (tl : List (Addr × Obj)) : Prop := ∃ t o H S V th ts tv k, r = .ref t ∧ tl = [(t, o)] ∧ o = { cls := .type "tuple", data := .seq #[.float H th, .float V tv, .float S ts] k } ∧ HueShare a b c H S ∧ (0 < th ∨ min3 a b c = max3 a b c)
theorem hls_end {s : Shared} {Q : Value → Shared → Prop} {L l : Addr} {h' : Heap} {m : Str → Option Value} {tk' : Nat} {news : List (Addr × Obj)} {a b c : Int} {H S V : UInt64} {ta tb tc : Tok} {k : Nat}
    (hret : ∀ (r : Value) (tl : List (Addr × Obj)) (h' : Heap) (tk' : Nat), Kp s.heap h' → Fresh s.heap h' tl → PostHls a b c r tl → Q r { s with heap := h', toks := tk' })
    (F : Fr s.heap L h' m) (N : News s.heap L h' news) (hm : (l, ({ cls := .type "tuple", data := .seq #[.float H ta, .float V tc, .float S tb] k } : Obj)) ∈ news) (hs : HueShare a b c H S) (ht : 0 < ta ∨ min3 a b c = max3 a b c) : Q (.ref l) { s with heap := h', toks := tk' } :=
  hret _ _ _ _ F.keep (fresh1 N hm) ⟨l, _, H, S, V, ta, tb, tc, k, rfl, rfl, rfl, hs, ht⟩
theorem st_join {prog : Program} {w : World} {A : Around} {env : Env} {s : Shared} {Q : Flow → Shared → Prop} {E : Value → Shared → Prop} {st : Stmt} {rest : List Stmt} (P : Shared → Prop)
    (h1 : wpAny (model prog w) A (exec st env) (fun fl s' => fl = .next ∧ P s') E s) (h2 : ∀ s', P s' → wpAny (model prog w) A (execs rest env) Q E s') : wpAny (model prog w) A (execs (st :: rest) env) Q E s :=
  wpAny_execs_cons (wpAny_mono h1 (fun fl s' h => by obtain ⟨rfl, h⟩ := h; exact h2 s' h) fun _ _ h => h)
section
variable {a b c : Int}
theorem hu1 (h1 : a = max3 a b c) : lastF (Float64.sub (rt (max3 a b c - c) (max3 a b c - min3 a b c)) (rt (max3 a b c - b) (max3 a b c - min3 a b c))) = hueI a b c := by unfold hueI; rw [if_pos h1]
theorem hu2 (h1 : ¬ a = max3 a b c) (h2 : b = max3 a b c) : lastF (Float64.sub (Float64.add 0x4000000000000000 (rt (max3 a b c - a) (max3 a b c - min3 a b c))) (rt (max3 a b c - c) (max3 a b c - min3 a b c))) = hueI a b c := by unfold hueI; rw [if_neg h1, if_pos h2]
theorem hu3 (h1 : ¬ a = max3 a b c) (h2 : ¬ b = max3 a b c) : lastF (Float64.sub (Float64.add 0x4010000000000000 (rt (max3 a b c - b) (max3 a b c - min3 a b c))) (rt (max3 a b c - a) (max3 a b c - min3 a b c))) = hueI a b c := by unfold hueI; rw [if_neg h1, if_neg h2]
theorem hs_any {H : UInt64} {R M : Int} (hn : ¬ min3 a b c = max3 a b c) (hR : 1 ≤ R ∧ R ≤ 16) (hM : 1 ≤ M ∧ M ≤ 32) (e : lastF H = hueI a b c) : HueShare a b c (Float64.divmod (Float64.div H 0x4018000000000000) 0x3ff0000000000000).2 (rt R M) :=
  ⟨by rw [share_q hR hM, decide_eq_false hn], fun _ => e⟩
end
/-- after the hue's first form: the rest of both defs asks these three alone -/
noncomputable def JHue (s : Shared) (L : Addr) (a b c : Int) (x1 x2 : Str) (v1 v2 : UInt64) (s' : Shared) : Prop :=
  ∃ h tk m H th t1 t2, s' = { s with heap := h, toks := tk } ∧ Fr s.heap L h m ∧ m (Str.ofString "h") = some (.float H th) ∧ m x1 = some (.float v1 t1) ∧ m x2 = some (.float v2 t2) ∧ lastF H = hueI a b c
theorem jhue {s : Shared} {L : Addr} {a b c : Int} {x1 x2 : Str} {v1 v2 : UInt64} {h : Heap} {tk : Nat} {m : Str → Option Value} {H : UInt64} {th t1 t2 : Tok} (F : Fr s.heap L h m) (e1 : m (Str.ofString "h") = some (.float H th)) (e2 : m x1 = some (.float v1 t1)) (e3 : m x2 = some (.float v2 t2)) (e : lastF H = hueI a b c) :
    JHue s L a b c x1 x2 v1 v2 { s with heap := h, toks := tk } := ⟨h, tk, m, H, th, t1, t2, rfl, F, e1, e2, e3, e⟩
local macro_rules | `(tactic| walk_at "execs cons") => `(tactic| (k_here; (with_reducible show wpAny _ _ (execs (Stmt.If (Expr.Compare (Expr.Name _ _) _ [Expr.Name _ _] _) _ _ _ :: _) _) _ _ _); refine halt ?_))
local macro_rules | `(tactic| walk_at "Halt") => `(tactic| fail "here")
theorem hsv_ok (w : World) (a b c : Int) (hc : 0 ≤ a ∧ a ≤ 16 ∧ 0 ≤ b ∧ b ≤ 16 ∧ 0 ≤ c ∧ c ≤ 16) (tx ty tz : Tok) : Ctr w 1 50 35 [.float (qf a) tx, .float (qf b) ty, .float (qf c) tz] (fun _ => True) (PostHsv a b c) := by
  intro p loose mean mg mb dp un gd fr s Q E X T hdp hun hpre hret
  obtain ⟨hM1, hM2, hM3, -⟩ := max3_facts a b c
  obtain ⟨hm1, hm2, hm3, -⟩ := min3_facts a b c
  obtain ⟨hb1, hb2, hb3⟩ := bnds hc
  (k_dflt (refine' enter (binds := [(Str.ofString "r", .float (qf a) tx), (Str.ofString "g", .float (qf b) ty), (Str.ofString "b", .float (qf c) tz)]) ?zzk3 ?zzk5 ?zzk6 ?zzk7 ?zzk8 ?zzk9 ?zzkB ?_ ?zzc2 ?zzc3 ?zzc4 ?zzc5; (case zzk3 => k_asm); (case zzk5 => k_asm); (case zzk6 => k_is); (case zzk7 => k_is); (case zzk8 => walk_at "m room"); (case zzk9 => first | exact BindsTo.of_eq rfl | exact binds_K (by k_in) rfl (by k_is) rfl rfl rfl); (case zzc5 => decide); (case zzkB => exact locs rfl); (case zzc2 => exact rfl); (case zzc3 => exact rfl); (case zzc4 => exact rfl); k_whole; intro L' h' F' N'; (try dsimp only); (try k_fold)))
  k_steps
  refine Halt.out ?_
  refine wpAny_execs_cons ?_
  k_steps
  all_goals first
  | ((try k_unfold); (try dsimp only); (refine' hsv_end hret ?zzF ?zzN ?zzm ?zzh ?zzht; (case zzF => k_asm); (case zzN => k_asm); (case zzm => k_mem); (case zzht => exact .inr (by assumption)); (case zzh => exact hs_grey (by assumption) _)))
  | (refine Halt.out ?_
     (rename Fr _ _ _ _ => F9)
     (rename News _ _ _ _ => N9)
     refine st_join (JHue s L' a b c (Str.ofString "s") (Str.ofString "v") (rt (max3 a b c - min3 a b c) (max3 a b c)) (qf (max3 a b c))) ?_ ?_
     · k_steps
       all_goals (try (refine Halt.out ?_; refine wpAny_execs_cons ?_; k_steps))
       all_goals (try dsimp only)
       all_goals (refine' jhue ?zF ?z1 ?z2 ?z3 ?ze; (case zF => assumption); (case z1 => rfl); (case z2 => rfl); (case z3 => rfl); (case ze => first | exact hu1 (by assumption) | exact hu2 (by assumption) (by assumption) | exact hu3 (by assumption) (by assumption)))
     · rintro s' ⟨h, tk, m, H, th, t1, t2, rfl, F, e1, e2, e3, e⟩
       clear F9 N9
       have N0 : News s.heap L' h [] := News.nil
       rw [map3b e1 e2 e3] at F
       k_steps
       all_goals (try k_unfold)
       all_goals (try dsimp only)
       (refine' hsv_end hret ?zzF ?zzN ?zzm ?zzh ?zzht; (case zzF => k_asm); (case zzN => k_asm); (case zzm => k_mem); (case zzht => exact .inl (Nat.succ_pos _)); (case zzh => exact hs_any (by assumption) (by omega) (by omega) e)))
noncomputable def JShare (s : Shared) (L : Addr) (a b c : Int) (s' : Shared) : Prop :=
  ∃ V h tk m S ts t1 t2 t3 t4 t5 t6, s' = { s with heap := h, toks := tk } ∧ Fr s.heap L h m ∧ m (Str.ofString "s") = some (.float S ts) ∧ m (Str.ofString "r") = some (.float (qf a) t1) ∧ m (Str.ofString "g") = some (.float (qf b) t2) ∧ m (Str.ofString "b") = some (.float (qf c) t3) ∧
    m (Str.ofString "maxc") = some (.float (qf (max3 a b c)) t4) ∧ m (Str.ofString "rangec") = some (.float (qf (max3 a b c - min3 a b c)) t5) ∧ m (Str.ofString "l") = some (.float V t6) ∧ (Float64.cmpInt S 0 == some .eq) = false
theorem jshare {s : Shared} {L : Addr} {a b c : Int} {V : UInt64} {h : Heap} {tk : Nat} {m : Str → Option Value} {S : UInt64} {ts t1 t2 t3 t4 t5 t6 : Tok} (F : Fr s.heap L h m) (e1 : m (Str.ofString "s") = some (.float S ts)) (e2 : m (Str.ofString "r") = some (.float (qf a) t1)) (e3 : m (Str.ofString "g") = some (.float (qf b) t2)) (e4 : m (Str.ofString "b") = some (.float (qf c) t3))
    (e5 : m (Str.ofString "maxc") = some (.float (qf (max3 a b c)) t4)) (e6 : m (Str.ofString "rangec") = some (.float (qf (max3 a b c - min3 a b c)) t5)) (e7 : m (Str.ofString "l") = some (.float V t6)) (e : (Float64.cmpInt S 0 == some .eq) = false) : JShare s L a b c { s with heap := h, toks := tk } :=
  ⟨V, h, tk, m, S, ts, t1, t2, t3, t4, t5, t6, rfl, F, e1, e2, e3, e4, e5, e6, e7, e⟩
theorem hs_any2 {a b c : Int} {H S : UInt64} (hn : ¬ min3 a b c = max3 a b c) (hS : (Float64.cmpInt S 0 == some .eq) = false) (e : lastF H = hueI a b c) : HueShare a b c (Float64.divmod (Float64.div H 0x4018000000000000) 0x3ff0000000000000).2 S :=
  ⟨by rw [hS, decide_eq_false hn], fun _ => e⟩
local macro_rules | `(tactic| walk_at "execs cons") => `(tactic| (k_here; (with_reducible show wpAny _ _ (execs (Stmt.If (Expr.Compare (Expr.Name _ _) _ [Expr.Constant _ _ _] _) _ _ _ :: _) _) _ _ _); refine halt ?_))
theorem hls_ok (w : World) (a b c : Int) (hc : 0 ≤ a ∧ a ≤ 16 ∧ 0 ≤ b ∧ b ≤ 16 ∧ 0 ≤ c ∧ c ≤ 16) (tx ty tz : Tok) : Ctr w 1 50 28 [.float (qf a) tx, .float (qf b) ty, .float (qf c) tz] (fun _ => True) (PostHls a b c) := by
  intro p loose mean mg mb dp un gd fr s Q E X T hdp hun hpre hret
  obtain ⟨hM1, hM2, hM3, -⟩ := max3_facts a b c
  obtain ⟨hm1, hm2, hm3, -⟩ := min3_facts a b c
  obtain ⟨hb1, hb2, hb3⟩ := bnds hc
  (k_dflt (refine' enter (binds := [(Str.ofString "r", .float (qf a) tx), (Str.ofString "g", .float (qf b) ty), (Str.ofString "b", .float (qf c) tz)]) ?zzk3 ?zzk5 ?zzk6 ?zzk7 ?zzk8 ?zzk9 ?zzkB ?_ ?zzc2 ?zzc3 ?zzc4 ?zzc5; (case zzk3 => k_asm); (case zzk5 => k_asm); (case zzk6 => k_is); (case zzk7 => k_is); (case zzk8 => walk_at "m room"); (case zzk9 => first | exact BindsTo.of_eq rfl | exact binds_K (by k_in) rfl (by k_is) rfl rfl rfl); (case zzc5 => decide); (case zzkB => exact locs rfl); (case zzc2 => exact rfl); (case zzc3 => exact rfl); (case zzc4 => exact rfl); k_whole; intro L' h' F' N'; (try dsimp only); (try k_fold)))
  k_steps
  refine Halt.out ?_
  refine wpAny_execs_cons ?_
  k_steps
  all_goals first
  | ((try k_unfold); (try dsimp only); (refine' hls_end hret ?zzF ?zzN ?zzm ?zzh ?zzht; (case zzF => k_asm); (case zzN => k_asm); (case zzm => k_mem); (case zzht => exact .inr (by assumption)); (case zzh => exact hs_grey (by assumption) _)))
  | (refine Halt.out ?_
     (rename Fr _ _ _ _ => F9)
     (rename News _ _ _ _ => N9)
     refine st_join (JShare s L' a b c) ?_ ?_
     · k_steps
       all_goals (try dsimp only)
       all_goals (refine' jshare ?zF ?z1 ?z2 ?z3 ?z4 ?z5 ?z6 ?z7 ?ze; (case zF => assumption); (case z1 => rfl); (case z2 => rfl); (case z3 => rfl); (case z4 => rfl); (case z5 => rfl); (case z6 => rfl); (case z7 => rfl); (case ze => exact share_q (by omega) (by omega)))
     · rintro s' ⟨V, h, tk, m, S, ts, t1, t2, t3, t4, t5, t6, rfl, F, e1, e2, e3, e4, e5, e6, e7, hS⟩
       clear F9 N9
       have N0 : News s.heap L' h [] := News.nil
       rw [map7b e1 e2 e3 e4 e5 e6 e7] at F
       k_steps
       refine Halt.out ?_
       (rename Fr _ _ _ _ => F9)
       (rename News _ _ _ _ => N9)
       refine st_join (JHue s L' a b c (Str.ofString "s") (Str.ofString "l") S V) ?_ ?_
       · k_steps
         all_goals (try (refine Halt.out ?_; refine wpAny_execs_cons ?_; k_steps))
         all_goals (try dsimp only)
         all_goals (refine' jhue ?zF ?z1 ?z2 ?z3 ?ze; (case zF => assumption); (case z1 => rfl); (case z2 => rfl); (case z3 => rfl); (case ze => first | exact hu1 (by assumption) | exact hu2 (by assumption) (by assumption) | exact hu3 (by assumption) (by assumption)))
       · rintro s' ⟨h, tk, m, H, th, t1, t2, rfl, F, e1, e2, e3, e⟩
         clear F9 N9
         have N0 : News s.heap L' h [] := News.nil
         rw [map3b e1 e2 e3] at F
         k_steps
         all_goals (try k_unfold)
         all_goals (try dsimp only)
         (refine' hls_end hret ?zzF ?zzN ?zzm ?zzh ?zzht; (case zzF => k_asm); (case zzN => k_asm); (case zzm => k_mem); (case zzht => exact .inl (Nat.succ_pos _)); (case zzh => exact hs_any2 (by assumption) hS e)))
theorem eqS_q {prog : Program} {w : World} {A : Around} {E : Value → Shared → Prop} {s : Shared} {Q : Value → Shared → Prop} {a b c : Int} {H S : UInt64} {t u : Tok} (hs : HueShare a b c H S)
    (h : Q (.bool (decide (min3 a b c = max3 a b c))) s) : wpAny (model prog w) A (compareOp .Eq (.float S t) (.int 0 u)) Q E s := eq_fi (by rw [hs.1]; exact h)
theorem useHsv {w : World} {p : Program} {loose : List Str} {mean : ExcName → Option Value} {mg mb : Str → Option Value} {dp un : Nat} {gd : Option (List Code)} {fr : Option (List Env)} {s : Shared} {Q E : Value → Shared → Prop} {h₀ : Heap} {L : Addr} {m : Str → Option Value} {news : List (Addr × Obj)} {a b c : Int} {tx ty tz : Tok} (hc : 0 ≤ a ∧ a ≤ 16 ∧ 0 ≤ b ∧ b ≤ 16 ∧ 0 ≤ c ∧ c ≤ 16) (F : Fr h₀ L s.heap m) (X : (hd.heap_39 w.params).In h₀) (N : News h₀ L s.heap news) (T : Top p loose mean mg mb h₀) (hdp : dp + 1 < recursionLimit) (hun : un + 50 < cLine)
    (h : ∀ (t : Addr) (H S V : UInt64) (th ts tv : Tok) (k : Nat) (h' : Heap) (tk' : Nat), Fr h₀ L h' m → News h₀ L h' ((t, { cls := .type "tuple", data := .seq #[.float H th, .float S ts, .float V tv] k }) :: news) → AllNe t news → HueShare a b c H S → (0 < th ∨ min3 a b c = max3 a b c) → Q (.ref t) { s with heap := h', toks := tk' }) :
    wpAny (model Challenge.pw_mr0087_01 w) (AA dp un gd fr) (call (.ref 35) [.float (qf a) tx, .float (qf b) ty, .float (qf c) tz]) Q E s :=
  useC (hsv_ok w a b c hc tx ty tz) F X N T hdp hun trivial fun r tl h' tk' po F' N' ne' => by
    obtain ⟨t, o, H, S, V, th, ts, tv, k, rfl, rfl, rfl, hs, ht⟩ := po
    exact h t H S V th ts tv k h' tk' F' N' (ne_one ne') hs ht
theorem useHls {w : World} {p : Program} {loose : List Str} {mean : ExcName → Option Value} {mg mb : Str → Option Value} {dp un : Nat} {gd : Option (List Code)} {fr : Option (List Env)} {s : Shared} {Q E : Value → Shared → Prop} {h₀ : Heap} {L : Addr} {m : Str → Option Value} {news : List (Addr × Obj)} {a b c : Int} {tx ty tz : Tok} (hc : 0 ≤ a ∧ a ≤ 16 ∧ 0 ≤ b ∧ b ≤ 16 ∧ 0 ≤ c ∧ c ≤ 16) (F : Fr h₀ L s.heap m) (X : (hd.heap_39 w.params).In h₀) (N : News h₀ L s.heap news) (T : Top p loose mean mg mb h₀) (hdp : dp + 1 < recursionLimit) (hun : un + 50 < cLine)
    (h : ∀ (t : Addr) (H S V : UInt64) (th ts tv : Tok) (k : Nat) (h' : Heap) (tk' : Nat), Fr h₀ L h' m → News h₀ L h' ((t, { cls := .type "tuple", data := .seq #[.float H th, .float V tv, .float S ts] k }) :: news) → AllNe t news → HueShare a b c H S → (0 < th ∨ min3 a b c = max3 a b c) → Q (.ref t) { s with heap := h', toks := tk' }) :
    wpAny (model Challenge.pw_mr0087_01 w) (AA dp un gd fr) (call (.ref 28) [.float (qf a) tx, .float (qf b) ty, .float (qf c) tz]) Q E s :=
  useC (hls_ok w a b c hc tx ty tz) F X N T hdp hun trivial fun r tl h' tk' po F' N' ne' => by
    obtain ⟨t, o, H, S, V, th, ts, tv, k, rfl, rfl, rfl, hs, ht⟩ := po
    exact h t H S V th ts tv k h' tk' F' N' (ne_one ne') hs ht
end
end
end
end
end
end
end
end
end
end
theorem start_9 : True := by
  w_top off
  have : True ∧ True := by
    first
    | (walk1; done)
    | exact ⟨trivial, trivial⟩
  trivial
section
local macro_rules | `(tactic| walk_at "Halt") => `(tactic| fail "here")
section
local macro_rules | `(tactic| walk_at "pyIter ref") => `(tactic| (k_here; refine halt ?_))
section
local macro_rules | `(tactic| walk_at "exec For Name Name cons nil") => `(tactic| (k_here; refine halt ?_))
section
local macro_rules | `(tactic| walk_at "call builtin:list.append") => `(tactic| (k_here; (with_reducible show wpAny _ _ (call (Value.builtin _) [Value.ref _, _]) _ _ _); k_dflt (refine' append_K ?zzk1 ?zzk2 ?zzk3 ?_ ?z; (case zzk1 => k_asm); (case zzk2 => k_asm); (case zzk3 => k_upd); (case z => assumption); k_whole); intro h' F' N'; (try k_sweep)))
section
local macro_rules | `(tactic| walk_at "call ref") => `(tactic| (k_here; k_dflt (refine' useHsv ?zzhc ?zzk2 ?zzk3 ?zzk4 ?zzk5 ?zzkd ?zzku ?_; (case zzhc => assumption); (case zzk2 => k_asm); (case zzk3 => k_asm); (case zzk4 => k_asm); (case zzk5 => k_asm); (case zzkd => walk_at "m room"); (case zzku => walk_at "m room"); k_whole; intro tt' H' S' V' th' ts' tv' k' h' tk' F' N' ne' hs' ht'; (try dsimp only [AllNe] at ne'); (try dsimp only); (try k_sweep))))
section
local macro_rules | `(tactic| walk_at "call ref") => `(tactic| (k_here; k_dflt (refine' useHls ?zzhc ?zzk2 ?zzk3 ?zzk4 ?zzk5 ?zzkd ?zzku ?_; (case zzhc => assumption); (case zzk2 => k_asm); (case zzk3 => k_asm); (case zzk4 => k_asm); (case zzk5 => k_asm); (case zzkd => walk_at "m room"); (case zzku => walk_at "m room"); k_whole; intro tt' H' S' V' th' ts' tv' k' h' tk' F' N' ne' hs' ht'; (try dsimp only [AllNe] at ne'); (try dsimp only); (try k_sweep))))
section
local macro_rules | `(tactic| walk_at "compareOp Eq float int") => `(tactic| (k_here; refine eqS_q (by assumption) ?_))
section
local macro_rules | `(tactic| walk_at "binaryOp Div int int") => `(tactic| (k_here; refine part16 (by omega) ?_; try dsimp only))
theorem start_10 : True := by
  w_top off
  have : True ∧ True := by
    first
    | (walk1; done)
    | exact ⟨trivial, trivial⟩
  trivial
section
open PySem PySem.W PySem.Calls PyProof.Rows
set_option maxRecDepth 100000
set_option maxHeartbeats 4000000
theorem fill_F2 : (Challenge.rw_mr0087_01 = Challenge.rw_mr0087_01 ∧ hd.heap_39 = hd.heap_39) → True := by
  k_fill
  intro _; trivial
noncomputable def HV (c : Int × Int × Int) (v : Value) : Prop := (min3 c.1 c.2.1 c.2.2 = max3 c.1 c.2.1 c.2.2 ∧ v = .none) ∨ (min3 c.1 c.2.1 c.2.2 ≠ max3 c.1 c.2.1 c.2.2 ∧ ∃ t, 0 < t ∧ v = .float (hueI c.1 c.2.1 c.2.2) t)
inductive HVs : List (Int × Int × Int) → List Value → Prop
  | nil : HVs [] []
  | cons {c : Int × Int × Int} {v : Value} {cs : List (Int × Int × Int)} {vs : List Value} : HV c v → HVs cs vs → HVs (c :: cs) (v :: vs)
theorem HVs.length {cs : List (Int × Int × Int)} {vs : List Value} (h : HVs cs vs) : vs.length = cs.length := by
  induction h with
  | nil => rfl
  | cons _ _ ih => simp [ih]
theorem HVs.snoc {cs : List (Int × Int × Int)} {vs : List Value} (h : HVs cs vs) {c : Int × Int × Int} {v : Value} (hv : HV c v) : HVs (cs ++ [c]) (vs ++ [v]) := by
  induction h with
  | nil => exact .cons hv .nil
  | cons a _ ih => exact .cons a ih
structure PreCols (cl : Addr) (rs : List Addr) (cs : List (Int × Int × Int)) (h : Heap) : Prop where
  l : h.IsList cl (rs.map Value.ref).toArray
  len : rs.length = cs.length
  each : ∀ (i : Nat) (r : Addr), rs[i]? = some r → ∃ a b c, cs[i]? = some (a, b, c) ∧ Pre3 r a b c h ∧ IsCol a b c
  few : cs.length ≤ 1000
noncomputable abbrev PostHues (cs : List (Int × Int × Int)) (r : Value) (tl : List (Addr × Obj)) : Prop := ∃ t hu ot k1 k2 k hs os, r = .ref t ∧
  tl = [(t, ({ cls := .type "tuple", data := .seq #[.ref hu, .ref ot] k } : Obj)), (ot, listOf os k2), (hu, listOf hs k1)] ∧ HVs cs hs.toList ∧ HVs cs os.toList
noncomputable def JHues (cs : List (Int × Int × Int)) (i : Nat) (m : Str → Option Value) (news : List (Addr × Obj)) : Prop :=
  ∃ hu ot hs os k1 k2, news = [(ot, listOf os k2), (hu, listOf hs k1)] ∧ m (Str.ofString "hues") = some (.ref hu) ∧ m (Str.ofString "others") = some (.ref ot) ∧ hu ≠ ot ∧ HVs (cs.take i) hs.toList ∧ HVs (cs.take i) os.toList
theorem map2 {m : Str → Option Value} {a b : Str} {va vb : Value} (ha : m a = some va) (hb : m b = some vb) (x : Str) (v : Option Value) :
    (fun y => if y = x then v else m y) = fun y => if y = x then v else if y = a then some va else if y = b then some vb else m y := by
  funext y
  by_cases h1 : y = x
  · simp [h1]
  · by_cases h2 : y = a
    · subst h2; simp [h1, ha]
    · by_cases h3 : y = b
      · subst h3; simp [h1, h2, hb]
      · simp [h1, h2, h3]
theorem size_le {cs : List (Int × Int × Int)} {i : Nat} {hs : Array Value} (h : HVs (cs.take i) hs.toList) (hf : cs.length ≤ 1000) : hs.size ≤ sizeLine := by
  have h1 := h.length
  rw [Array.length_toList, List.length_take] at h1
  rw [sizeLine_eq]; omega
theorem fresh_all {h₀ h : Heap} {L : Addr} {news : List (Addr × Obj)} (N : News h₀ L h news) : Fresh h₀ h news := fun p hp => ⟨(N p hp).1, (N p hp).2.2⟩
theorem map2b {m : Str → Option Value} {a b : Str} {va vb : Value} (ha : m a = some va) (hb : m b = some vb) : m = fun y => if y = a then some va else if y = b then some vb else m y := by
  funext y
  by_cases h2 : y = a
  · subst h2; simp [ha]
  · by_cases h3 : y = b
    · subst h3; simp [h2, hb]
    · simp [h2, h3]
section
variable {cs : List (Int × Int × Int)} {i : Nat} {hs os : Array Value} {a b c : Int}
theorem snocG (h : HVs (cs.take i) hs.toList) (htk : cs.take (i + 1) = cs.take i ++ [(a, b, c)]) (hg : min3 a b c = max3 a b c) : HVs (cs.take (i + 1)) (hs.push .none).toList := by
  rw [htk, Array.toList_push]; exact h.snoc (.inl ⟨hg, rfl⟩)
theorem snocF {H S : UInt64} {t : Tok} (h : HVs (cs.take i) hs.toList) (htk : cs.take (i + 1) = cs.take i ++ [(a, b, c)]) (hh : HueShare a b c H S) (ht : 0 < t ∨ min3 a b c = max3 a b c) (hn : ¬ min3 a b c = max3 a b c) : HVs (cs.take (i + 1)) (hs.push (.float H t)).toList := by
  rw [htk, Array.toList_push]; exact h.snoc (.inr ⟨hn, t, ht.resolve_right hn, by rw [hh.2 hn]⟩)
theorem tend_hues {h₀ h' : Heap} {L I hu ot : Addr} {oI : Obj} {m' : Str → Option Value} {news : List (Addr × Obj)} {k1 k2 : Nat} {s₁ : Shared} {Q : Flow → Shared → Prop} {tk' : Nat}
    (F : Fr h₀ L h' m') (N : News h₀ L h' news) (mI : (I, oI) ∈ news) (mO : (ot, listOf os k2) ∈ news) (mH : (hu, listOf hs k1) ∈ news) (h1 : @Ne Nat ot I) (h2 : @Ne Nat hu I) (h3 : hu ≠ ot)
    (h4 : m' (Str.ofString "hues") = some (.ref hu)) (h5 : m' (Str.ofString "others") = some (.ref ot)) (h6 : HVs (cs.take i) hs.toList) (h7 : HVs (cs.take i) os.toList) : TEnd h₀ L I oI (JHues cs i) s₁ Q .next { s₁ with heap := h', toks := tk' } := by
  refine ⟨h', tk', m', [(ot, listOf os k2), (hu, listOf hs k1)], rfl, F, fun p hp => ?_, fun p hp => ?_, hu, ot, hs, os, k1, k2, rfl, h4, h5, h3, h6, h7⟩
  · rcases List.mem_cons.mp hp with rfl | hp
    · exact N _ mI
    · rcases List.mem_cons.mp hp with rfl | hp
      · exact N _ mO
      · rw [List.mem_singleton.mp hp]; exact N _ mH
  · rcases List.mem_cons.mp hp with rfl | hp
    · exact h1
    · rw [List.mem_singleton.mp hp]; exact h2
end
theorem hues_ok (w : World) (cl : Addr) (rs : List Addr) (cs : List (Int × Int × Int)) : Ctr w 3 120 59 [.ref cl] (PreCols cl rs cs) (PostHues cs) := by
  intro p loose mean mg mb dp un gd fr s Q E X T hdp hun hpre hret
  (k_dflt (refine' enter (binds := [(Str.ofString "colours", .ref cl)]) ?zzk3 ?zzk5 ?zzk6 ?zzk7 ?zzk8 ?zzk9 ?zzkB ?_ ?zzc2 ?zzc3 ?zzc4 ?zzc5; (case zzk3 => k_asm); (case zzk5 => k_asm); (case zzk6 => k_is); (case zzk7 => k_is); (case zzk8 => walk_at "m room"); (case zzk9 => first | exact BindsTo.of_eq rfl | exact binds_K (by k_in) rfl (by k_is) rfl rfl rfl); (case zzc5 => decide); (case zzkB => exact locs rfl); (case zzc2 => exact rfl); (case zzc3 => exact rfl); (case zzc4 => exact rfl); k_whole; intro L' h' F' N'; (try dsimp only); (try k_fold)))
  k_steps
  refine Halt.out ?_
  refine For_invV s.heap rfl rfl ?_
  k_steps
  refine Halt.out ?_
  refine iter_vals (JHues cs) rfl hpre.l (by k_asm) (by k_asm) ?_ ?_ ?_
  · exact ⟨_, _, #[], #[], 0, 0, rfl, rfl, rfl, (by k_ne), .nil, .nil⟩
  · rintro i v m₁ news₁ I oI h tk hv ⟨hu, ot, hs, os, k1, k2, rfl, hm1, hm2, hne, hv1, hv2⟩ F1 N1 of1
    obtain ⟨r, hr, rfl⟩ : ∃ r, rs[i]? = some r ∧ v = .ref r := by
      rw [List.getElem?_map] at hv
      cases e : rs[i]? with
      | none => rw [e] at hv; cases hv
      | some r => rw [e] at hv; exact ⟨r, rfl, (Option.some.inj hv).symm⟩
    obtain ⟨a, b, c, hcs, ⟨ta, tb, tc, hl⟩, hc⟩ := hpre.each i r hr
    have hc0 : 0 ≤ a ∧ a ≤ 16 ∧ 0 ≤ b ∧ b ≤ 16 ∧ 0 ≤ c ∧ c ≤ 16 := hc
    have hil : i < cs.length := (List.getElem?_eq_some_iff.mp hcs).1
    have hz1 : hs.size ≤ sizeLine := size_le hv1 hpre.few
    have hz2 : os.size ≤ sizeLine := size_le hv2 hpre.few
    rw [map2 hm1 hm2] at F1
    have of2 : @Ne Nat ot I := of1 _ (.head _)
    have of3 : @Ne Nat hu I := of1 _ (.tail _ (.head _))
    replace F1 : Fr s.heap L' h _ := F1
    replace N1 : News s.heap L' h _ := N1
    clear of1
    have htk : cs.take (i + 1) = cs.take i ++ [(a, b, c)] := by rw [List.take_add_one, hcs]; rfl
    (try k_fold)
    k_steps
    all_goals (refine' tend_hues ?zzF ?zzN ?zzmI ?zzmO ?zzmH of2 of3 hne ?zza ?zzb ?zzc ?zzd; (case zzF => k_asm); (case zzN => k_asm); (case zzmI => k_mem); (case zzmO => k_mem); (case zzmH => k_mem); (case zza => rfl); (case zzb => rfl); (case zzc => first | exact snocG hv1 htk (by assumption) | exact snocF hv1 htk (by assumption) (by assumption) (by assumption)); (case zzd => first | exact snocG hv2 htk (by assumption) | exact snocF hv2 htk (by assumption) (by assumption) (by assumption)))
  · rintro m₁ news₁ h tk ⟨hu, ot, hs, os, k1, k2, rfl, hm1, hm2, hne, hv1, hv2⟩ F1 N1
    rw [List.length_map, hpre.len, List.take_length] at hv1 hv2
    rw [map2b hm1 hm2] at F1
    replace F1 : Fr s.heap L' h _ := F1
    replace N1 : News s.heap L' h _ := N1
    k_steps
    show Q (Value.ref _) _
    exact hret _ _ _ _ (Fr.keep (by k_asm)) (fresh_all (by k_asm)) ⟨_, hu, ot, k1, k2, _, hs, os, rfl, rfl, hv1, hv2⟩
end
section
open PySem PySem.W PySem.Calls PyProof.Rows PyProof.V PySem.Spec
set_option maxRecDepth 100000
section
variable {prog : Program} {w : World} {A : Around} {E : Value → Shared → Prop} {s : Shared} {env : Env} {test : PySem.Expr} {body orelse : List Stmt} {Q : Flow → Shared → Prop}
/-- the end of a turn of a while -/
noncomputable def WEnd (I : Nat → Shared → Prop) (Q : Flow → Shared → Prop) (n : Nat) (f : Flow) (s' : Shared) : Prop := match f with
  | .brk => Q .next s'
  | .ret v => Q (.ret v) s'
  | _ => ∃ n', n' < n ∧ I n' s'
theorem whl_inv (hE : PassesOwn (model prog w) A env E) (I : Nat → Shared → Prop)
    (turn : ∀ n s, I n s → wpAny (model prog w) A (isTrue test env (eval test env)) (fun b s₂ => WhlIf b (wpAny (model prog w) A (execs body env) (WEnd I Q n) E s₂) (wpAny (model prog w) A (execs orelse env) Q E s₂)) E s) :
    ∀ n s, I n s → WhlRest prog w A E env test body orelse Q 0 s := by
  have all : ∀ N n s, n < N → I n s → WhlRest prog w A E env test body orelse Q 0 s := by
    intro N
    induction N with
    | zero => intro n s h; exact absurd h (Nat.not_lt_zero _)
    | succ N ih =>
      intro n s hn hI
      refine whl_turn (k := 0) hE (wpAny_mono (turn n s hI) (fun b s₂ h => ?_) fun _ _ e => e)
      cases b with
      | false => exact h
      | true =>
        refine wpAny_mono (show wpAny (model prog w) A (execs body env) (WEnd I Q n) E s₂ from h) (fun f s' h' => ?_) fun _ _ e => e
        cases f with
        | next => obtain ⟨n', hn', hI'⟩ := h'; exact ih n' s' (by omega) hI'
        | cont => obtain ⟨n', hn', hI'⟩ := h'; exact ih n' s' (by omega) hI'
        | brk => exact h'
        | ret v => exact h'
  exact fun n s h => all (n + 1) n s (Nat.lt_succ_self _) h
end
section
variable {prog : Program} {w : World} {A : Around} {E : Value → Shared → Prop} {s : Shared} {l : Addr} {h₀ : Heap} {L : Addr} {m : Str → Option Value}
  {value slice : PySem.Expr} {k : Int} {u : Tok} {Q : Value → Shared → Prop}
theorem item_bools (F : Fr h₀ L s.heap m) {bs : List Bool} (hl : h₀.IsList l (bs.map Value.bool).toArray) (hk : 0 ≤ k ∧ k.toNat < bs.length ∧ k < 1000) (h : Q (.bool (bs.getD k.toNat false)) s)
    (hs : subscripted slice false (.ref l) (.int k u) = operate [.ref l, .int k u] (getItem (.ref l) (.int k u))) : wpAny (model prog w) A (subscriptTail value slice (.ref l) (.int k u)) Q E s := by
  refine item_at (j := k.toNat) (stays_list F.keep hl) (by omega) ?_ (by omega) h hs
  rw [List.getElem?_toArray, List.getElem?_map, List.getD_eq_getElem?_getD, List.getElem?_eq_getElem hk.2.1]; rfl
theorem item_cols (F : Fr h₀ L s.heap m) {rs : List Addr} {cs : List (Int × Int × Int)} (P : PreCols l rs cs h₀) (hk : 0 ≤ k ∧ k.toNat < cs.length ∧ k < 1000)
    (h : ∀ r a b c ta tb tc, cs[k.toNat]? = some (a, b, c) → h₀.IsList r #[.int a ta, .int b tb, .int c tc] → 0 ≤ a ∧ a ≤ 16 ∧ 0 ≤ b ∧ b ≤ 16 ∧ 0 ≤ c ∧ c ≤ 16 → Q (.ref r) s)
    (hs : subscripted slice false (.ref l) (.int k u) = operate [.ref l, .int k u] (getItem (.ref l) (.int k u))) : wpAny (model prog w) A (subscriptTail value slice (.ref l) (.int k u)) Q E s := by
  have hlt : k.toNat < rs.length := by rw [P.len]; exact hk.2.1
  obtain ⟨a, b, c, hcs, ⟨ta, tb, tc, hr⟩, hc⟩ := P.each k.toNat rs[k.toNat] (List.getElem?_eq_getElem hlt)
  refine item_at (j := k.toNat) (stays_list F.keep P.l) (by omega) ?_ (by omega) (h _ a b c ta tb tc hcs hr hc) hs
  rw [List.getElem?_toArray, List.getElem?_map, List.getElem?_eq_getElem hlt]; rfl
end
noncomputable def goFirst (lk : Nat → Bool) : Nat → Nat
  | 0 => 0
  | f + 1 => if lk f then goFirst lk f else f + 1
noncomputable def lastStr (nz lk : Nat → Bool) : Nat → Option (Nat × Nat)
  | 0 => none
  | b + 1 => if nz b && !lk b then some (goFirst lk b, b + 1) else lastStr nz lk b
noncomputable def nzOf (cs : List (Int × Int × Int)) (j : Nat) : Bool := match cs[j]? with
  | some (a, b, c) => decide (a + b + c > 0)
  | none => false
noncomputable def PostSpan (o : Option (Nat × Nat)) (r : Value) (tl : List (Addr × Obj)) : Prop := match o with
  | none => r = .none ∧ tl = []
  | some (f, b) => ∃ t t1 t2 k, r = .ref t ∧ tl = [(t, ({ cls := .type "tuple", data := .seq #[.int (f : Int) t1, .int (b : Int) t2] k } : Obj))]
theorem down200 {e : Nat} (h : e ≤ 100) : 200 - (e + 1) < 200 - e := by omega
theorem up100 {e n : Nat} (h : (e : Int) < (n : Int)) (k : n ≤ 100) : e + 1 ≤ 100 := Nat.le_trans (Int.ofNat_lt.mp h) k
theorem in1000 {e n : Nat} (h : e ≤ 100) (k : (e : Int) < (n : Int)) : 0 ≤ (e : Int) ∧ (e : Int).toNat < n ∧ (e : Int) < 1000 := by omega
theorem inP {n l : Nat} (h : n + 1 ≤ l) (k : l ≤ 1000) : 0 ≤ ((n + 1 : Nat) : Int) - 1 ∧ (((n + 1 : Nat) : Int) - 1).toNat < l ∧ ((n + 1 : Nat) : Int) - 1 < 1000 := by omega
end
section
open PySem PySem.W PySem.Calls PyProof.Rows PyProof.V PySem.Spec
open Builtin Builtin.ObjectAttr
set_option maxRecDepth 100000
theorem store_fn : StoreFacts "function" [.type "function", .type "object"] "object.__setattr__" "object" where
  mro := by kernel_rfl
  slot := .of (owner := "object") (n := "__setattr__") (by rw [typeLookup_type, builtinLookup_eq_fast]; kernel_rfl) (by decide +kernel) (by decide +kernel) (by decide +kernel)
    (by first | exact .inl (by decide +kernel) | exact .inr (by decide +kernel)) (by rw [isSubtype_type]; kernel_rfl)
  entry := PySem.F.entry_object_sa
  kind := by decide +kernel
  split := by decide +kernel
  hasOwner := by decide +kernel
  args := fun a b c => by unfold argsOk; kernel_rfl
  passes := fun self => by kernel_rfl
theorem no_span : typeLookup (.type "function") "span" = pure none := by rw [typeLookup_type, builtinLookup_eq_fast]; kernel_rfl
theorem no_search : typeLookup (.type "function") "search" = pure none := by rw [typeLookup_type, builtinLookup_eq_fast]; kernel_rfl
theorem hasDict_fn : typeHasDict (.type "function") = true := by decide +kernel
theorem fin_fn : finalisedInACycleAlone "function" = false := by decide +kernel
section
variable {prog : Program} {w : World} {A : Around} {E : Value → Shared → Prop} {s : Shared}
theorem fn_set {f : Addr} {fd : FuncData} {sl : Array (Option Value)} {name : Str} {v : Value} {Q : Unit → Shared → Prop} (hf : s.heap.get? f = some ⟨.type "function", none, .func fd, sl⟩) (hn : typeLookup (.type "function") name = pure none)
    (h : ∀ h' d t hsh tk', h'.get? f = some ⟨.type "function", some d, .func fd, sl⟩ → h'.get? d = some (dictOf [⟨hsh, .str name t, v⟩] 1) → (∀ b o, b ≠ f → s.heap.get? b = some o → h'.get? b = some o) → s.heap.get? d = none → (∀ b o, s.heap.get? b = some o → b < d) →
      Q () { s with heap := h', toks := tk' }) :
    wpAny (model prog w) A (setAttr (.ref f) name v) Q E s := by
  have hT : s.TypeIs (.ref f) "function" := ⟨_, hf, rfl⟩
  unfold setAttr
  refine wpAny_bind (wpAny_mkText (wpAny_bind (wpAny_callSpecial?_slot (T := "function") hT store_fn.slot ?_)))
  refine wpAny_call (codeAny_call_builtin store_fn.slot.plain store_fn.entry (store_fn.slot.check _ _ _ _ _ _ _ _ hT (store_fn.args _ _ _) ?_))
  rw [osa_eq, refuse_eq]
  refine wpAny_bind (wpAny_bind (wpAny_typeOf hT (wpAny_bind (wpAny_of_eq store_fn.mro ?_))))
  rw [store_fn.passes]
  refine wpAny_pure (wpAny_bind (wpAny_typeOf hT (wpAny_bind (wpAny_of_eq hn (wpAny_bind (wpAny_pure ?_))))))
  have hos : ownStreamTells (.ref f) (.type "function") = pure () := by kernel_rfl
  unfold storeInOwnDict
  refine wpAny_bind (wpAny_of_eq hos ?_)
  unfold ownDictForStores instanceDict
  refine wpAny_bind (wpAny_bind (wpAny_loadPart (s := { s with toks := s.toks + 1 }) hf ?_))
  dsimp only
  rw [hasDict_fn]
  simp only [Bool.not_true, Bool.or_self, Bool.false_eq_true, if_false]
  refine wpAny_bind (wpAny_alloc ?_)
  have hd : s.heap.objs.size ≠ f := Nat.ne_of_gt (Heap.lt_size hf)
  have e1 : (s.heap.push { cls := .type "dict", data := .dict #[] }).get? f = some ⟨.type "function", none, .func fd, sl⟩ := Heap.get?_push_of_some _ hf
  have d1 : (s.heap.push { cls := .type "dict", data := .dict #[] }).get? s.heap.objs.size = some (dictOf [] 0) := Heap.get?_push_size _ rfl
  refine wpAny_bind (wpAny_update e1 ?_)
  have hdm : dictMade (.type "function") f s.heap.objs.size = pure (some s.heap.objs.size) := by
    unfold dictMade; simp only [fin_fn]; rfl
  refine wpAny_of_eq hdm ?_
  dsimp only
  generalize hH : (s.heap.push { cls := .type "dict", data := .dict #[] }).update f (fun o => { o with dict := some s.heap.objs.size }) = H2
  have e2 : H2.get? f = some ⟨.type "function", some s.heap.objs.size, .func fd, sl⟩ := by rw [← hH]; exact Heap.get?_update_self _ e1 rfl
  have d2 : H2.get? s.heap.objs.size = some (dictOf [] 0) := by rw [← hH]; exact (Heap.get?_update_ne _ _ _ _ hd).trans d1
  have k2 : ∀ b o, b ≠ f → s.heap.get? b = some o → H2.get? b = some o := fun b o hb e => by
    rw [← hH]; exact (Heap.get?_update_ne _ _ _ _ hb).trans (Heap.get?_push_of_some _ e)
  unfold storeInDict
  refine wpAny_bind (wpAny_pure (wpAny_bind ?_))
  unfold nsSet
  refine wpAny_bind (wpAny_bind (wpAny_askSetting (wpAny_pure (wpAny_bind (wpAny_mkText (wpAny_bind (wpAny_loadPart d2 ?_)))))))
  dsimp only
  rw [aRefKeyMayBeTheName_at]
  simp only [List.any_toArray, List.any_nil, Bool.and_false, Bool.false_eq_true, if_false]
  generalize (if name.cps.isEmpty = true then 0 else reduceHash ((model prog w).w.params.strHash name.cps)) = hsh
  have d3 : (H2.update s.heap.objs.size (Obj.putName name hsh (.str name (s.toks + 1)) v)).get? s.heap.objs.size = some (dictOf [⟨hsh, .str name (s.toks + 1), v⟩] 1) :=
    (Heap.get?_update_self _ d2 (by rw [putName_dict]; rfl)).trans (by rw [putName_dict]; rfl)
  refine wpAny_updatePart d2 (wpAny_bind (wpAny_lookBehind d3 (pastItsLine_dict (by rw [sizeLine_eq]; simp)) (wpAny_pure ?_)))
  dsimp only
  refine wpAny_pure (h _ s.heap.objs.size (s.toks + 1) hsh _ ?_ d3 ?_ ?_ fun b o e => Heap.lt_size e)
  · exact (Heap.get?_update_ne _ _ _ _ (Ne.symm hd)).trans e2
  · intro b o hb e
    exact (Heap.get?_update_ne _ _ _ _ (Nat.ne_of_lt (Heap.lt_size e))).trans (k2 b o hb e)
  · exact Heap.get?_none_of_le (Nat.le_refl _)
end
end
section
open PySem PySem.W PySem.Calls PyProof.Rows PyProof.V PySem.Spec
open Builtin Builtin.ObjectAttr
set_option maxRecDepth 100000
theorem slot_fn_ga : Slot "function" "__getattribute__" "object.__getattribute__" :=
  .of (owner := "object") (n := "__getattribute__") (by rw [typeLookup_type, builtinLookup_eq_fast]; kernel_rfl) (by decide +kernel) (by decide +kernel) (by decide +kernel)
    (by first | exact .inl (by decide +kernel) | exact .inr (by decide +kernel)) (by rw [isSubtype_type]; kernel_rfl)
theorem no_fn_hook : typeLookup (.type "function") "__getattr__" = pure none := by rw [typeLookup_type, builtinLookup_eq_fast]; kernel_rfl
theorem no_fn_bool : typeLookup (.type "function") "__bool__" = pure none := by rw [typeLookup_type, builtinLookup_eq_fast]; kernel_rfl
theorem no_fn_len : typeLookup (.type "function") "__len__" = pure none := by rw [typeLookup_type, builtinLookup_eq_fast]; kernel_rfl
theorem entry_ga : entryFor table "object.__getattribute__" = some Builtin.«object.__getattribute__» := entryFor_of_tree (by kernel_rfl)
theorem args_ga (a b : Value) : argsOk "object.__getattribute__" ⟨[a, b], []⟩ := by unfold argsOk; kernel_rfl
theorem canon_ga : (Manifest.canonical "object.__getattribute__" != "object.__getattribute__") = false := by decide +kernel
theorem ga_eq (self : Value) (name : Str) (tk : Tok) : Builtin.«object.__getattribute__» ⟨[self, .str name tk], []⟩ = (typeOf self >>= fun tp => find self tp name >>= fun r => match r with
    | .value v => ret v
    | .bind g a => bindTo g a self tp
    | .missing => do
      if tp == .type "module" then
        if ← isOpaqueModuleObj self then
          let byTheModulesOwnEntry := match (← stack).drop 1 with
            | (.builtin "module.__getattribute__" ⟨m :: _, _⟩, _) :: _ => m == self
            | _ => false
          if !byTheModulesOwnEntry then unsupported "thirdparty:object.__getattribute__:a-miss-on-an-opaque-module"
      if tp == .type "type" then
        if let some key ← opaqueClassAbove self then unsupported s!"thirdparty:{key.toString}.{name.toString}:object.__getattribute__-misses-on-an-opaque-class"
      noSuchAttribute self name) := by kernel_rfl
section
variable {prog : Program} {w : World} {A : Around} {E : Value → Shared → Prop} {s : Shared}
theorem fn_truthy {f : Addr} {o : Obj} {Q : Bool → Shared → Prop} (hf : s.heap.get? f = some o) (hc : o.cls = .type "function") (h : Q true s) : wpAny (model prog w) A (truthy (.ref f)) Q E s := by
  have hT : s.TypeIs (.ref f) "function" := ⟨_, hf, hc⟩
  unfold truthy
  refine wpAny_bind (wpAny_callSpecial?_none hT no_fn_bool ?_)
  refine wpAny_bind (wpAny_specialOf hT no_fn_len ?_)
  exact wpAny_pure h
theorem fn_get {f d : Addr} {fd : FuncData} {sl : Array (Option Value)} {name : Str} {es : List DictEntry} {n : Nat} {v : Value} {expr : Bool} {Q : Value → Shared → Prop} (hf : s.heap.get? f = some ⟨.type "function", some d, .func fd, sl⟩)
    (hd : s.heap.get? d = some (dictOf es n)) (hn : typeLookup (.type "function") name = pure none) (hl : getL name es = some (some v)) (hv : handedIn v = true) (h : ∀ tk', Q v { s with toks := tk' }) :
    wpAny (model prog w) A (getAttr (.ref f) name expr) Q E s := by
  have hT : ∀ t', ({ s with toks := t' } : Shared).TypeIs (.ref f) "function" := fun _ => ⟨_, hf, rfl⟩
  unfold getAttr getAttrBy
  refine wpAny_bind (wpAny_mkText (wpAny_holding (wpAny_bind (wpAny_typeOf (hT _) (wpAny_bind (wpAny_of_eq slot_fn_ga.lookup ?_))))))
  show wpAny _ _ (getAttrByItsOwn (.ref f) (.str name s.toks) (.type "function") (.builtin "object.__getattribute__") true expr) _ _ _
  unfold getAttrByItsOwn hookBefore callGetattribute boundAndCalled
  refine wpAny_bind (wpAny_of_eq (show (if onTheHeap (.type "function") then typeLookup (.type "function") "__getattr__" else pure none) = pure none from rfl) ?_)
  refine wpAny_bind (wpAny_attempt (wpAny_holding ?_))
  rw [show (expr && onTheHeap (.builtin "object.__getattribute__")) = false by cases expr <;> rfl]
  simp only [Bool.false_eq_true, if_false]
  refine wpAny_bind (wpAny_of_eq (slot_fn_ga.bind _) ?_)
  refine wpAny_call (codeAny_call_builtin slot_fn_ga.plain entry_ga (slot_fn_ga.check _ _ _ _ _ _ _ _ (hT _) (args_ga _ _) ?_))
  rw [show ([Value.ref f] ++ [Value.str name s.toks]) = [Value.ref f, Value.str name s.toks] from rfl, ga_eq]
  refine wpAny_bind (wpAny_typeOf (hT _) (wpAny_bind ?_))
  unfold find
  refine wpAny_bind (wpAny_of_eq hn (wpAny_bind (wpAny_pure (wpAny_bind (wpAny_pure ?_)))))
  unfold ObjectAttr.ownThenClass ObjectAttr.inOwnDict ObjectAttr.ownDict loadHead instanceDict ObjectAttr.inDict
  have hf1 : ({ s with toks := s.toks + 1 } : Shared).heap.get? f = some ⟨.type "function", some d, .func fd, sl⟩ := hf
  dsimp only
  refine wpAny_bind (wpAny_bind (wpAny_bind (wpAny_loadPart hf1 ?_)))
  dsimp only
  refine wpAny_bind (wpAny_loadPart hf1 ?_)
  dsimp only
  refine wpAny_pure ?_
  dsimp only
  have hX : Frag.In [(d, dictOf es n)] s.heap := fun a o e => by
    rw [List.lookup_cons] at e
    by_cases hq : (a == d) = true
    · rw [hq] at e; cases e; rw [beq_iff_eq.mp hq]; exact hd
    · simp only [hq] at e; cases e
  have hN : nsIn [(d, dictOf es n)] d name = some (some v) := by
    unfold nsIn
    simp only [List.lookup_cons, beq_self_eq_true]
    unfold getL at hl
    exact hl
  refine looks_nsIn hX hN _ _ _ _ (fun _ _ e => e) ?_
  dsimp only
  refine wpAny_bind (wpAny_rule (wpAny_pure ?_))
  dsimp only
  refine wpAny_pure ?_
  dsimp only
  rw [handedOut_of hv]; exact wpAny_pure (h _)
theorem fn_method {f d : Addr} {fd : FuncData} {sl : Array (Option Value)} {name : Str} {es : List DictEntry} {n : Nat} {v : Value} {pl : Sem Bool} {Q : Value × List Value → Shared → Prop} (hf : s.heap.get? f = some ⟨.type "function", some d, .func fd, sl⟩)
    (hd : s.heap.get? d = some (dictOf es n)) (hn : typeLookup (.type "function") name = pure none) (hl : getL name es = some (some v)) (hv : handedIn v = true) (h : ∀ tk', Q (v, []) { s with toks := tk' }) :
    wpAny (model prog w) A (getMethod (.ref f) name pl) Q E s := by
  have hT : s.TypeIs (.ref f) "function" := ⟨_, hf, rfl⟩
  unfold getMethod
  refine wpAny_bind (wpAny_specialOf hT slot_fn_ga.lookup ?_)
  show wpAny _ _ (if (Manifest.canonical "object.__getattribute__" != "object.__getattribute__") = true then _ else _) _ _ _
  rw [if_neg (by rw [canon_ga]; exact Bool.false_ne_true)]
  refine wpAny_bind (wpAny_specialOf hT no_fn_hook ?_)
  refine wpAny_bind (wpAny_specialOf hT hn ?_)
  exact wpAny_bind (fn_get hf hd hn hl hv fun tk' => wpAny_pure (h tk'))
end
end
section
open PySem PySem.W PySem.Calls PyProof.Rows PyProof.V PySem.Spec
set_option maxRecDepth 100000
/-- all but these places are kept -/
noncomputable abbrev KpB (as : List Addr) (h h' : Heap) : Prop := ∀ b o, b ∉ as → h.get? b = some o → h'.get? b = some o
section
variable {w : World} {p : Program} {loose : List Str} {mean : ExcName → Option Value} {mg mb : Str → Option Value} {A : Around} {s : Shared} {Q E : Value → Shared → Prop}
  {name qual : Str} {params : Arguments} {body : List Stmt} {scope : Scope} {dV kV doc pm cdv ct oc : Value} {an od : Option Addr} {osl : Array (Option Value)} {f : Addr} {vs : List Value} {binds : List (Str × Value)} {K : Frag} {g1 : Heap}
/-- the ground of a frame, some objects laid aside -/
theorem ground (ent : List (Addr × Obj)) (hent : ∀ p ∈ ent, s.heap.get? p.1 = some p.2) (hg : ∀ p ∈ ent, g1.get? p.1 = none) (k1 : Kp g1 s.heap) (X : K.In g1) (T : Top p loose mean mg mb g1) :
    ∃ g, (∀ p ∈ ent, g.get? p.1 = none) ∧ K.In g ∧ Top p loose mean mg mb g ∧ Kp g s.heap ∧ g.objs.size = s.heap.objs.size ∧ KpB (ent.map (·.1)) s.heap g ∧ Kp g1 g := by
  have k : Kp g1 (hideAll s.heap (ent.map (·.1))) := fun b o e => hideAll_get _ (k1 b o e) fun hm => by
    obtain ⟨q, hq, rfl⟩ := List.mem_map.mp hm
    rw [hg q hq] at e; cases e
  exact ⟨hideAll s.heap (ent.map (·.1)), fun p hp => hideAll_none _ (List.mem_map_of_mem hp), X.keeps k, T.keeps k, fun b o e => of_hideAll _ e, hideAll_size _ _, fun b o hb e => hideAll_get _ e hb, k⟩
theorem enterT (ent : List (Addr × Obj)) (hent : ∀ p ∈ ent, s.heap.get? p.1 = some p.2) (hg : ∀ p ∈ ent, g1.get? p.1 = none) (k1 : Kp g1 s.heap) (X : K.In g1) (T : Top p loose mean mg mb g1)
    (ho : K.lookup f = some ⟨oc, od, .func (fnOf name qual params body scope dV kV doc pm an cdv ct), osl⟩) (hcd : codeIn K cdv qual = true) (hroom : A.depth < recursionLimit)
    (hbind : BindsTo s (fnOf name qual params body scope dV kV doc pm an cdv ct) ⟨vs, []⟩ binds) (hloc : ∀ y ∈ binds, scope.names.lookup y.1 = some .local)
    (h : ∀ g L' h₁, Fr g L' h₁ (fun y => binds.reverse.lookup y) → News g L' h₁ ent → K.In g → Top p loose mean mg mb g → KpB (ent.map (·.1)) s.heap g → (∀ p ∈ ent, p.1 < L') → s.heap.objs.size = L' →
      wpAny (model Challenge.pw_mr0087_01 w) (A.deeper (envOf qual scope L' f cdv)) (execs body (envOf qual scope L' f cdv))
        (fun fl s' => Q (match fl with | .ret v => v | _ => .none) s') (fun _ _ => False) { s with heap := h₁, toks := s.toks + binds.length })
    (hco : scope.isCoroutine = false) (hgen : scope.isGenerator = false) (hk : scope.kind = .function)
    (hcell : ∀ x ∈ scope.names, x.2 ≠ .cell) : wpAny (model Challenge.pw_mr0087_01 w) A (call (.ref f) vs) Q E s := by
  obtain ⟨g, hg0, X', T', kg, hsz, kb, _⟩ := ground ent hent hg k1 X T
  refine wpAny_call ?_
  refine codeAny_call_def (fd := fnOf name qual params body scope dV kV doc pm an cdv ct) (body := body) (binds := binds) hroom (k1 _ _ (X _ _ ho)) rfl ((T.keeps k1).nolimit) (codeRec_of (X.keeps k1) hcd) rfl hbind hcell hloc (fun h₁ hns hk₁ => ?_) hco hgen hk
  exact wpAny_mono (h g s.heap.objs.size h₁ ⟨hns, fun b o e => hk₁ b o (kg b o e), Nat.le_of_eq hsz⟩ (fun q hq => ⟨hk₁ _ _ (hent q hq), Nat.ne_of_lt (Heap.lt_size (hent q hq)), hg0 q hq⟩) X' T' kb (fun q hq => Heap.lt_size (hent q hq)) rfl) (fun fl s' hl => hl) fun _ _ x => x.elim
theorem enterCT (ent : List (Addr × Obj)) (hent : ∀ p ∈ ent, s.heap.get? p.1 = some p.2) (hg : ∀ p ∈ ent, g1.get? p.1 = none) (k1 : Kp g1 s.heap) (X : K.In g1) (T : Top p loose mean mg mb g1)
    (ho : K.lookup f = some ⟨oc, od, .func (fnOf name qual params body scope dV kV doc pm an cdv ct), osl⟩) (hcd : codeIn K cdv qual = true) (hroom : A.depth < recursionLimit)
    (hbind : BindsTo s (fnOf name qual params body scope dV kV doc pm an cdv ct) ⟨vs, []⟩ binds) (hkind : (binds.all fun y => scope.names.lookup y.1 == some .local || scope.names.lookup y.1 == some .cell) = true)
    (hnd : ((cellsFrom 0 scope.names []).map (·.1)).Nodup)
    (h : ∀ g L' h₁ tk cells, Fr g L' h₁ (bindL (envOfC qual scope L' f cdv).kindOf binds fun _ => none) → News g L' h₁ (cells ++ ent) →
      CellsAre (bindC (envOfC qual scope L' f cdv).kindOf binds fun _ => none) (cellsFrom (L' + 1) scope.names []) cells → K.In g → Top p loose mean mg mb g → KpB (ent.map (·.1)) s.heap g → (∀ p ∈ ent, p.1 < L') → s.heap.objs.size = L' →
      wpAny (model Challenge.pw_mr0087_01 w) (A.deeper (envOfC qual scope L' f cdv)) (execs body (envOfC qual scope L' f cdv))
        (fun fl s' => Q (match fl with | .ret v => v | _ => .none) s') (fun _ _ => False) { s with heap := h₁, toks := tk })
    (hco : scope.isCoroutine = false) (hgen : scope.isGenerator = false) (hk : scope.kind = .function) : wpAny (model Challenge.pw_mr0087_01 w) A (call (.ref f) vs) Q E s := by
  obtain ⟨g, hg0, X', T', kg, hsz, kb, _⟩ := ground ent hent hg k1 X T
  refine wpAny_call ?_
  refine codeAny_call_function hroom (k1 _ _ (X _ _ ho)) rfl hco hgen rfl (codeRec_of (X.keeps k1) hcd) (hbind _ _ _ _ ?_)
  refine wpAny_newFunctionEnv_cells hk (kindsX hkind _) fun env' he s' x => ?_
  subst he
  refine ⟨(T.keeps k1).nolimit.keeps x.toInCall.keep, codeAny_func ?_⟩
  obtain ⟨h₁, tk, rfl, _⟩ := x.done
  have hk₁ := x.toInCall.keep
  obtain ⟨cells, NC, Y⟩ := Cl.news (h₀ := s.heap) (Nat.le_refl _) fun n c hm => ⟨x.cell n c (lookup_of_mem_nodup (cellsFrom_names scope.names 0 (s.heap.objs.size + 1) [] [] rfl ▸ hnd) hm), x.above n c hm⟩
  refine wpAny_mono (h g s.heap.objs.size h₁ tk cells ⟨x.toInCall.ns, fun b o e => hk₁ b o (kg b o e), Nat.le_of_eq hsz⟩ (fun q hq => ?_) Y X' T' kb (fun q hq => Heap.lt_size (hent q hq)) rfl) (fun fl s' hl => hl) fun _ _ y => y.elim
  rcases List.mem_append.mp hq with hq | hq
  · refine ⟨(NC q hq).1, (NC q hq).2.1, ?_⟩
    cases e : g.get? q.1 with
    | none => rfl
    | some o => have := kg _ _ e; rw [(NC q hq).2.2] at this; cases this
  · exact ⟨hk₁ _ _ (hent q hq), Nat.ne_of_lt (Heap.lt_size (hent q hq)), hg0 q hq⟩
end
end
section
open PySem PySem.W PySem.Calls PyProof.Rows PyProof.V PySem.Spec
set_option maxRecDepth 100000
section
variable {prog : Program} {w : World} {A : Around} {E : Value → Shared → Prop} {s : Shared} {h₀ : Heap} {L : Addr} {m : Str → Option Value} {news : List (Addr × Obj)} {up : Obj → List (Addr × Obj)}
theorem fn_setK {f : Addr} {fd : FuncData} {sl : Array (Option Value)} {name : Str} {v : Value} {Q : Unit → Shared → Prop} (F : Fr h₀ L s.heap m) (N : News h₀ L s.heap news) (U : UpdF f ⟨.type "function", none, .func fd, sl⟩ news up)
    (hn : typeLookup (.type "function") name = pure none)
    (h : ∀ d t hsh h' tk', Fr h₀ L h' m → News h₀ L h' ((d, dictOf [⟨hsh, .str name t, v⟩] 1) :: up ⟨.type "function", some d, .func fd, sl⟩) → (∀ p ∈ news, p.1 < d) → Q () { s with heap := h', toks := tk' }) :
    wpAny (model prog w) A (setAttr (.ref f) name v) Q E s := by
  obtain ⟨own, rest, rfl, hg, h1, h2⟩ := U.split
  have hm := N (f, _) (List.mem_append_right _ (.head _))
  refine fn_set hm.1 hn fun h' d t hsh tk' e1 e2 kp hd lt => ?_
  obtain ⟨oL, es, ep, hL, r⟩ := F.ns
  have hdL : d ≠ L := fun q => by rw [q, hL] at hd; cases hd
  have hd0 : h₀.get? d = none := by
    cases e : h₀.get? d with
    | none => rfl
    | some o => rw [F.keep _ _ e] at hd; cases hd
  have hf0 : ∀ b o, h₀.get? b = some o → b ≠ f := fun b o e q => by rw [q, hm.2.2] at e; cases e
  refine h d t hsh h' tk' ⟨⟨oL, es, ep, kp L oL (Ne.symm hm.2.1) hL, r⟩, fun b o e => kp b o (hf0 b o e) (F.keep b o e), F.above⟩ (fun q hq => ?_) fun q hq => lt _ _ (N q hq).1
  rcases List.mem_cons.mp hq with rfl | hq
  · exact ⟨e2, hdL, hd0⟩
  · rw [hg] at hq
    rcases List.mem_append.mp hq with hq | hq
    · have n := N q (List.mem_append_left _ hq); exact ⟨kp _ _ (h1 q hq) n.1, n.2⟩
    · rcases List.mem_cons.mp hq with rfl | hq
      · exact ⟨e1, hm.2⟩
      · have n := N q (List.mem_append_right _ (.tail _ hq)); exact ⟨kp _ _ (h2 q hq) n.1, n.2⟩
end
noncomputable def tabH (k1 k2 : Addr) : Array Value := #[rawInt 88, rawInt 10, .ref k1, rawInt 89, rawInt 15, .ref k2]
noncomputable def qHit : Str := (Str.ofString "_law_hit" ++ (".<locals>." : Str)) ++ Str.ofString "<lambda>"
/-- the table of _law_hit's own codes: empty, or both laid -/
noncomputable def HTab (h : Heap) : Prop := h.get? 61 = some (tabObj #[]) ∨ ∃ k1 k2, h.get? 61 = some (tabObj (tabH k1 k2)) ∧ h.CodeRec (.ref k1) qHit ∧ h.CodeRec (.ref k2) qHit ∧ k1 ≠ 61 ∧ k2 ≠ 61
noncomputable def spanParams : Arguments := { posonlyargs := [], args := [], vararg := none, kwonlyargs := [], kw_defaults := [], kwarg := none, defaults := [] }
noncomputable def spanBody : PySem.Expr := .Tuple [.Name (Str.ofString "first") ⟨89, 24, 89, 29⟩, .Name (Str.ofString "behind") ⟨89, 31, 89, 37⟩] 0 ⟨89, 23, 89, 38⟩
noncomputable def spanScope : Scope := { kind := .function, names := [(Str.ofString "behind", .free), (Str.ofString "first", .free)], isGenerator := false, isCoroutine := false, more := [] }
structure IsHit (h : Heap) (f : Addr) (i j : Int) (d gg k c1 c2 : Addr) : Prop where
  fn : ∃ fd sl, h.get? f = some ⟨.type "function", some d, .func fd, sl⟩
  dict : ∃ hsh t, h.get? d = some (dictOf [⟨hsh, .str (Str.ofString "span") t, .ref gg⟩] 1)
  span : ∃ pm ctv, h.get? gg = some (kla_obj (Str.ofString "<lambda>") qHit spanParams spanBody spanScope [(Str.ofString "first", c1), (Str.ofString "behind", c2)] pm k ctv)
  code : h.CodeRec (.ref k) qHit
  cell1 : ∃ o t, h.get? c1 = some o ∧ o.data = .cell (some (.int i t))
  cell2 : ∃ o t, h.get? c2 = some o ∧ o.data = .cell (some (.int j t))
  ne : f ≠ 61 ∧ d ≠ 61 ∧ gg ≠ 61 ∧ k ≠ 61 ∧ c1 ≠ 61 ∧ c2 ≠ 61
/-- a hit whose own dict stands at d -/
noncomputable def HitD (h : Heap) (f : Addr) (i j : Int) (d : Addr) : Prop := ∃ gg k c1 c2, IsHit h f i j d gg k c1 c2
theorem codeRec_kpB {as : List Addr} {h h' : Heap} {k : Addr} {q : Str} (x : h.CodeRec (.ref k) q) (hk : k ∉ as) (kp : KpB as h h') : h'.CodeRec (.ref k) q := by
  obtain ⟨c, oc, vs, t, e, ho, r⟩ := x
  cases e
  exact ⟨k, oc, vs, t, rfl, kp _ _ hk ho, r⟩
theorem hit_end {g h' : Heap} {L f d gg k k1 c1 c2 : Addr} {m : Str → Option Value} {news : List (Addr × Obj)} {fd : FuncData} {sl : Array (Option Value)} {hsh : Int} {t ti tj : Tok} {pm ctv : Value} {o1 o2 : Obj} {i j : Int} {s : Shared} {Q : Value → Shared → Prop} {tk' : Nat}
    (hret : ∀ f d h' tk', KpB [61] s.heap h' → HTab h' → HitD h' f i j d → s.heap.get? d = none → Q (.ref f) { s with heap := h', toks := tk' })
    (F : Fr g L h' m) (N : News g L h' news) (kb : KpB [61] s.heap g) (mf : (f, (⟨.type "function", some d, .func fd, sl⟩ : Obj)) ∈ news) (md : (d, dictOf [⟨hsh, .str (Str.ofString "span") t, .ref gg⟩] 1) ∈ news)
    (mgg : (gg, kla_obj (Str.ofString "<lambda>") qHit spanParams spanBody spanScope [(Str.ofString "first", c1), (Str.ofString "behind", c2)] pm k ctv) ∈ news) (m1 : (c1, o1) ∈ news) (m2 : (c2, o2) ∈ news) (d1 : o1.data = .cell (some (.int i ti))) (d2 : o2.data = .cell (some (.int j tj)))
    (mt : (61, tabObj (tabH k1 k)) ∈ news) (hk1 : h'.CodeRec (.ref k1) qHit) (hk : h'.CodeRec (.ref k) qHit) (n1 : k1 ≠ 61) (n2 : k ≠ 61) : Q (.ref f) { s with heap := h', toks := tk' } := by
  have ht := (N _ mt).1
  have ne : ∀ {a : Addr} {o : Obj}, (a, o) ∈ news → o ≠ tabObj (tabH k1 k) → a ≠ 61 := fun hm hne q => by
    have := (N _ hm).1
    rw [q, ht] at this
    exact hne (Option.some.inj this).symm
  have hd61 : d ≠ 61 := ne md (fun q => by cases q)
  have hdn : s.heap.get? d = none := by
    cases e : s.heap.get? d with
    | none => rfl
    | some o => have := kb d o (fun hm => hd61 (List.mem_singleton.mp hm)) e; rw [(N _ md).2.2] at this; cases this
  refine hret f d h' tk' (fun b o hb e => F.keep b o (kb b o hb e)) (.inr ⟨k1, k, ht, hk1, hk, n1, n2⟩) ⟨gg, k, c1, c2, ⟨fd, sl, (N _ mf).1⟩, ⟨hsh, t, (N _ md).1⟩, ⟨pm, ctv, (N _ mgg).1⟩, hk, ⟨o1, ti, (N _ m1).1, d1⟩, ⟨o2, tj, (N _ m2).1, d2⟩,
    ne mf (fun q => by cases q), ne md (fun q => by cases q), ne mgg (fun q => by cases q), n2, ne m1 (fun q => by rw [q] at d1; cases d1), ne m2 (fun q => by rw [q] at d2; cases d2)⟩ hdn
end
end
end
end
end
end
end
end
end
end
end
end
end
end
end
end
end
end
end
end
theorem start_11 : True := by
  w_top off
  have : True ∧ True := by
    first
    | (walk1; done)
    | exact ⟨trivial, trivial⟩
  trivial
section
local macro_rules | `(tactic| walk_at "setAttr ref") => `(tactic| (k_here; k_dflt (refine' fn_setK ?zzF ?zzN ?zzU ?zzn ?_; (case zzF => k_asm); (case zzN => k_asm); (case zzU => k_updF); (case zzn => first | exact no_span | exact no_search); k_whole); intro d' t' hsh' h' tk' F' N' l1; (try dsimp only at N'); (try k_lt l1); (try k_sweep)))
theorem start_12 : True := by
  w_top off
  have : True ∧ True := by
    first
    | (walk1; done)
    | exact ⟨trivial, trivial⟩
  trivial
section
open PySem PySem.W PySem.Calls PyProof.Rows
set_option maxRecDepth 100000
set_option maxHeartbeats 4000000
theorem fill_H1 : (Challenge.rw_mr0087_01 = Challenge.rw_mr0087_01 ∧ hd.heap_39 = hd.heap_39) → True := by
  k_fill
  intro _; trivial
theorem codeRec_fr {h g h' : Heap} {L k : Addr} {q : Str} {m : Str → Option Value} (hk : h.CodeRec (.ref k) q) (n : k ≠ 61) (kb : KpB [61] h g) (F : Fr g L h' m) : h'.CodeRec (.ref k) q :=
  codeRec_kpB hk (fun hm => n (List.mem_singleton.mp hm)) fun b o hb e => F.keep b o (kb b o hb e)
theorem hit_ok (w : World) (i j : Int) (ti tj : Tok) (p : Program) (loose : List Str) (mean : ExcName → Option Value) (mg mb : Str → Option Value) (dp un : Nat) (gd : Option (List Code)) (fr : Option (List Env)) (s : Shared) (Q E : Value → Shared → Prop)
    (g1 : Heap) (hg1 : g1.get? 61 = none) (k1 : Kp g1 s.heap) (X : (hd.heap_39 w.params).In g1) (T : Top p loose mean mg mb g1) (hdp : dp + 1 < recursionLimit) (hun : un + 20 < cLine) (hT : HTab s.heap)
    (hret : ∀ f d h' tk', KpB [61] s.heap h' → HTab h' → HitD h' f i j d → s.heap.get? d = none → Q (.ref f) { s with heap := h', toks := tk' }) :
    wpAny (model Challenge.pw_mr0087_01 w) (AA dp un gd fr) (call (.ref 66) [.int i ti, .int j tj]) Q E s := by
  rcases hT with hT | ⟨ka, kb, hT, hka, hkb, na, nb⟩
  · skip
    (k_dflt (refine' enterCT (binds := [(Str.ofString "first", .int i ti), (Str.ofString "behind", .int j tj)]) [(61, tabObj #[])] ?zzke ?zzkg ?zzk1 ?zzk3 ?zzk5 ?zzk6 ?zzk7 ?zzk8 ?zzk9 ?zzkB ?zzkD ?_ ?zzc2 ?zzc3 ?zzc4; (case zzke => (first | assumption | (intro q9 hq9; simp only [List.mem_cons, List.mem_singleton, List.not_mem_nil, or_false] at hq9; subst hq9; assumption))); (case zzkg => (intro q9 hq9; simp only [List.mem_cons, List.mem_singleton, List.not_mem_nil, or_false] at hq9; subst hq9; assumption)); (case zzk1 => assumption); (case zzk3 => k_asm); (case zzk5 => k_asm); (case zzk6 => k_is); (case zzk7 => k_is); (case zzk8 => walk_at "m room"); (case zzk9 => first | exact BindsTo.of_eq rfl | exact binds_K (by k_in) rfl (by k_is) rfl rfl rfl | exact binds_K (Frag.In.keeps (by k_asm) (by assumption)) rfl (by k_is) rfl rfl rfl); (case zzkB => exact rfl); (case zzkD => decide +kernel); (case zzc2 => exact rfl); (case zzc3 => exact rfl); (case zzc4 => exact rfl); k_whole; intro g L' h' tk' cells' F' N' Y' Xg Tg kb' lt' sz'; skip))
    obtain ⟨oc1, oc2, hE9, dc1, dc2⟩ := CellsAre.two Y'
    subst hE9; clear Y'
    replace dc1 : oc1.data = .cell (some (.int j tj)) := dc1
    replace dc2 : oc2.data = .cell (some (.int i ti)) := dc2
    (try simp only [List.cons_append, List.nil_append] at N'); (try dsimp only); (try k_fold)
    have hcode : CodeHd g 65 61 := codeHd_of_K Xg (by kernel_rfl)
    have lt9 : @LT.lt Nat _ 61 L' := lt' _ (.head _)
    k_steps
    show Q (Value.ref _) _
    (try dsimp only)
    (refine' hit_end hret ?zzF ?zzN kb' ?zzm1 ?zzm2 ?zzm3 ?zzm4 ?zzm5 ?zzd1 ?zzd2 ?zzm6 ?zzk1 ?zzk2 ?zzn1 ?zzn2; (case zzF => k_asm); (case zzN => k_asm); (case zzm1 => k_mem); (case zzm2 => k_mem); (case zzm3 => k_mem); (case zzm4 => k_mem); (case zzm5 => k_mem); (case zzd1 => k_asm); (case zzd2 => k_asm); (case zzm6 => k_mem); (case zzk1 => exact codeRec_news (by k_asm) (by k_mem) (by assumption) (by assumption)); (case zzk2 => exact codeRec_news (by k_asm) (by k_mem) (by assumption) (by assumption)); (case zzn1 => k_ne); (case zzn2 => k_ne))
  · skip
    (k_dflt (refine' enterCT (binds := [(Str.ofString "first", .int i ti), (Str.ofString "behind", .int j tj)]) [(61, tabObj (tabH ka kb))] ?zzke ?zzkg ?zzk1 ?zzk3 ?zzk5 ?zzk6 ?zzk7 ?zzk8 ?zzk9 ?zzkB ?zzkD ?_ ?zzc2 ?zzc3 ?zzc4; (case zzke => (first | assumption | (intro q9 hq9; simp only [List.mem_cons, List.mem_singleton, List.not_mem_nil, or_false] at hq9; subst hq9; assumption))); (case zzkg => (intro q9 hq9; simp only [List.mem_cons, List.mem_singleton, List.not_mem_nil, or_false] at hq9; subst hq9; assumption)); (case zzk1 => assumption); (case zzk3 => k_asm); (case zzk5 => k_asm); (case zzk6 => k_is); (case zzk7 => k_is); (case zzk8 => walk_at "m room"); (case zzk9 => first | exact BindsTo.of_eq rfl | exact binds_K (by k_in) rfl (by k_is) rfl rfl rfl | exact binds_K (Frag.In.keeps (by k_asm) (by assumption)) rfl (by k_is) rfl rfl rfl); (case zzkB => exact rfl); (case zzkD => decide +kernel); (case zzc2 => exact rfl); (case zzc3 => exact rfl); (case zzc4 => exact rfl); k_whole; intro g L' h' tk' cells' F' N' Y' Xg Tg kb' lt' sz'; skip))
    obtain ⟨oc1, oc2, hE9, dc1, dc2⟩ := CellsAre.two Y'
    subst hE9; clear Y'
    replace dc1 : oc1.data = .cell (some (.int j tj)) := dc1
    replace dc2 : oc2.data = .cell (some (.int i ti)) := dc2
    (try simp only [List.cons_append, List.nil_append] at N'); (try dsimp only); (try k_fold)
    have hcode : CodeHd g 65 61 := codeHd_of_K Xg (by kernel_rfl)
    have lt9 : @LT.lt Nat _ 61 L' := lt' _ (.head _)
    unfold tabH at N'
    k_steps
    show Q (Value.ref _) _
    (try dsimp only)
    (refine' hit_end hret ?zzF ?zzN kb' ?zzm1 ?zzm2 ?zzm3 ?zzm4 ?zzm5 ?zzd1 ?zzd2 ?zzm6 ?zzk1 ?zzk2 ?zzn1 ?zzn2; (case zzF => k_asm); (case zzN => k_asm); (case zzm1 => k_mem); (case zzm2 => k_mem); (case zzm3 => k_mem); (case zzm4 => k_mem); (case zzm5 => k_mem); (case zzd1 => k_asm); (case zzd2 => k_asm); (case zzm6 => k_mem); (case zzk1 => exact codeRec_fr hka na kb' (by k_asm)); (case zzk2 => exact codeRec_fr hkb nb kb' (by k_asm)); (case zzn1 => exact na); (case zzn2 => exact nb))
end
end
theorem start_13 : True := by
  w_top off
  have : True ∧ True := by
    first
    | (walk1; done)
    | exact ⟨trivial, trivial⟩
  trivial
section
local macro_rules | `(tactic| walk_at "Halt") => `(tactic| fail "here")
section
local macro_rules | `(tactic| walk_at "exec While") => `(tactic| (k_here; refine halt ?_))
section
local macro_rules | `(tactic| walk_at "exec While Compare cons nil") => `(tactic| (k_here; refine halt ?_))
section
local macro_rules | `(tactic| walk_at "exec While BoolOp cons nil") => `(tactic| (k_here; refine halt ?_))
section
local macro_rules | `(tactic| walk_at "subscriptTail") => `(tactic| (k_here; (with_reducible show wpAny _ _ (subscriptTail _ _ (Value.ref _) (Value.int _ _)) _ _ _); k_dflt (refine' item_bools ?zzF ?zzl ?zzk ?_ ?zzhs; (case zzF => k_asm); (case zzl => assumption); (case zzk => first | assumption | omega); (case zzhs => with_unfolding_all rfl); k_whole)))
section
local macro_rules | `(tactic| walk_at "subscriptTail") => `(tactic| (k_here; (with_reducible show wpAny _ _ (subscriptTail _ _ (Value.ref _) (Value.int _ _)) _ _ _); k_dflt (refine' item_cols ?zzF ?zzP ?zzk ?_ ?zzhs; (case zzF => k_asm); (case zzP => assumption); (case zzk => first | assumption | omega); (case zzhs => with_unfolding_all rfl); k_whole); intro r' a' b' c' ta' tb' tc' hcs' hl' hc'))
theorem start_14 : True := by
  w_top off
  have : True ∧ True := by
    first
    | (walk1; done)
    | exact ⟨trivial, trivial⟩
  trivial
section
open PySem PySem.W PySem.Calls PyProof.Rows
set_option maxRecDepth 100000
set_option maxHeartbeats 4000000
theorem fill_L1 : (Challenge.rw_mr0087_01 = Challenge.rw_mr0087_01 ∧ hd.heap_39 = hd.heap_39) → True := by
  k_fill
  intro _; trivial
theorem nz_at {cs : List (Int × Int × Int)} {j : Nat} {a b c : Int} (h : cs[j]? = some (a, b, c)) : nzOf cs j = decide (a + b + c > 0) := by unfold nzOf; rw [h]
theorem str_no {nz lk : Nat → Bool} {n : Nat} {x : Option (Nat × Nat)} (h : lastStr nz lk (n + 1) = x) (hc : nz n = false ∨ lk n = true) : lastStr nz lk n = x := by
  rw [← h, lastStr]
  rcases hc with hc | hc <;> simp [hc]
theorem str_yes {nz lk : Nat → Bool} {n : Nat} {x : Option (Nat × Nat)} (h : lastStr nz lk (n + 1) = x) (h1 : nz n = true) (h2 : lk n = false) : x = some (goFirst lk n, n + 1) := by
  rw [← h, lastStr]; simp [h1, h2]
theorem first_yes {lk : Nat → Bool} {n x : Nat} (h : goFirst lk (n + 1) = x) (h1 : lk n = true) : goFirst lk n = x := by
  rw [← h, goFirst]; simp [h1]
theorem first_no {lk : Nat → Bool} {n x : Nat} (h : goFirst lk (n + 1) = x) (h1 : lk n = false) : x = n + 1 := by
  rw [← h, goFirst]; simp [h1]
theorem somei {a b : Int} {t : Tok} (h : a = b) : some (Value.int a t) = some (Value.int b t) := by rw [h]
theorem pred_toNat (n : Nat) : (((n + 1 : Nat) : Int) - 1).toNat = n := by omega
theorem span_end {s : Shared} {Q : Value → Shared → Prop} {L l : Addr} {h' : Heap} {m : Str → Option Value} {tk' : Nat} {news : List (Addr × Obj)} {f b : Int} {ta tb : Tok} {k : Nat} {o : Option (Nat × Nat)} {f' b' : Nat}
    (hret : ∀ (r : Value) (tl : List (Addr × Obj)) (h' : Heap) (tk' : Nat), Kp s.heap h' → Fresh s.heap h' tl → PostSpan o r tl → Q r { s with heap := h', toks := tk' })
    (F : Fr s.heap L h' m) (N : News s.heap L h' news) (hm : (l, ({ cls := .type "tuple", data := .seq #[.int f ta, .int b tb] k } : Obj)) ∈ news) (ho : o = some (f', b')) (hf : f = (f' : Int)) (hb : b = (b' : Int)) : Q (.ref l) { s with heap := h', toks := tk' } := by
  subst ho hf hb
  exact hret _ _ _ _ F.keep (fresh1 N hm) ⟨l, ta, tb, k, rfl, rfl⟩
theorem span_none {s : Shared} {Q : Value → Shared → Prop} {L : Addr} {h' : Heap} {m : Str → Option Value} {tk' : Nat} {o : Option (Nat × Nat)}
    (hret : ∀ (r : Value) (tl : List (Addr × Obj)) (h' : Heap) (tk' : Nat), Kp s.heap h' → Fresh s.heap h' tl → PostSpan o r tl → Q r { s with heap := h', toks := tk' })
    (F : Fr s.heap L h' m) (ho : o = none) : Q .none { s with heap := h', toks := tk' } := by
  subst ho
  exact hret _ [] _ _ F.keep (fun _ h => nomatch h) ⟨rfl, rfl⟩
noncomputable abbrev IStr (s : Shared) (L' al ll : Addr) (cs : List (Int × Int × Int)) (bs : List Bool) (col : Nat) (n : Nat) (s' : Shared) : Prop :=
  ∃ h tk m t, s' = { s with heap := h, toks := tk } ∧ n ≤ cs.length ∧ lastStr (nzOf cs) (fun j => bs.getD j false) n = lastStr (nzOf cs) (fun j => bs.getD j false) col ∧ Fr s.heap L' h m ∧ News s.heap L' h [] ∧ m (Str.ofString "behind") = some (.int (n : Int) t) ∧ m (Str.ofString "above") = some (.ref al) ∧ m (Str.ofString "linked") = some (.ref ll)
noncomputable abbrev IFst (s : Shared) (L' ll : Addr) (bs : List Bool) (N : Nat) (f : Nat) (s' : Shared) : Prop :=
  ∃ h tk m t tb, s' = { s with heap := h, toks := tk } ∧ f ≤ N ∧ goFirst (fun j => bs.getD j false) f = goFirst (fun j => bs.getD j false) N ∧ Fr s.heap L' h m ∧ News s.heap L' h [] ∧ m (Str.ofString "first") = some (.int (f : Int) t) ∧ m (Str.ofString "behind") = some (.int ((N + 1 : Nat) : Int) tb) ∧ m (Str.ofString "linked") = some (.ref ll)
theorem wend {I : Nat → Shared → Prop} {Q : Flow → Shared → Prop} {n : Nat} {s' : Shared} (h : I n s') : WEnd I Q (n + 1) .next s' := ⟨n, Nat.lt_succ_self n, h⟩
theorem istr {s : Shared} {L' al ll : Addr} {cs : List (Int × Int × Int)} {bs : List Bool} {col n : Nat} {h : Heap} {tk : Nat} {m : Str → Option Value} {v : Int} {t : Tok} (F : Fr s.heap L' h m) (N : News s.heap L' h []) (hn : n + 1 ≤ cs.length)
    (hq : lastStr (nzOf cs) (fun j => bs.getD j false) n = lastStr (nzOf cs) (fun j => bs.getD j false) col) (m1 : m (Str.ofString "behind") = some (.int v t)) (m2 : m (Str.ofString "above") = some (.ref al)) (m3 : m (Str.ofString "linked") = some (.ref ll)) (hv : v = (n : Int)) :
    IStr s L' al ll cs bs col n { s with heap := h, toks := tk } := ⟨h, tk, m, t, rfl, by omega, hq, F, N, by rw [m1, hv], m2, m3⟩
theorem ifst {s : Shared} {L' ll : Addr} {bs : List Bool} {M n : Nat} {h : Heap} {tk : Nat} {m : Str → Option Value} {v : Int} {t tb : Tok} (F : Fr s.heap L' h m) (N : News s.heap L' h []) (hn : n ≤ M)
    (hq : goFirst (fun j => bs.getD j false) n = goFirst (fun j => bs.getD j false) M) (m1 : m (Str.ofString "first") = some (.int v t)) (m2 : m (Str.ofString "behind") = some (.int ((M + 1 : Nat) : Int) tb)) (m3 : m (Str.ofString "linked") = some (.ref ll)) (hv : v = (n : Int)) :
    IFst s L' ll bs M n { s with heap := h, toks := tk } := ⟨h, tk, m, t, tb, rfl, hn, hq, F, N, by rw [m1, hv], m2, m3⟩
theorem lastStretch_ok (w : World) (al ll : Addr) (rs : List Addr) (cs : List (Int × Int × Int)) (bs : List Bool) (hb : bs.length = cs.length) (col : Nat) (hcol : col ≤ cs.length) (tc : Tok) :
    Ctr w 1 60 105 [.ref al, .ref ll, .int (col : Int) tc] (fun h => PreCols al rs cs h ∧ h.IsList ll (bs.map Value.bool).toArray) (PostSpan (lastStr (nzOf cs) (fun j => bs.getD j false) col)) := by
  intro p loose mean mg mb dp un gd fr s Q E X T hdp hun hpre hret
  obtain ⟨hP, hB⟩ := hpre
  have hfew := hP.few
  (k_dflt (refine' enter (binds := [(Str.ofString "above", .ref al), (Str.ofString "linked", .ref ll), (Str.ofString "col", .int (col : Int) tc)]) ?zzk3 ?zzk5 ?zzk6 ?zzk7 ?zzk8 ?zzk9 ?zzkB ?_ ?zzc2 ?zzc3 ?zzc4 ?zzc5; (case zzk3 => k_asm); (case zzk5 => k_asm); (case zzk6 => k_is); (case zzk7 => k_is); (case zzk8 => walk_at "m room"); (case zzk9 => first | exact BindsTo.of_eq rfl | exact binds_K (by k_in) rfl (by k_is) rfl rfl rfl); (case zzc5 => decide); (case zzkB => exact locs rfl); (case zzc2 => exact rfl); (case zzc3 => exact rfl); (case zzc4 => exact rfl); k_whole; intro L' h' F' N'; (try dsimp only); (try k_fold)))
  k_steps
  refine Halt.out ?_
  refine whl_start 0 ?_
  refine whl_inv (by passes_own) (IStr s L' al ll cs bs col) ?_ col _ ⟨_, _, _, _, rfl, hcol, rfl, (by k_asm), (by k_asm), rfl, rfl, rfl⟩
  rintro n _ ⟨h, tk, m, t, rfl, hn, hq, F, N, m1, m2, m3⟩
  rw [map3b m1 m2 m3] at F
  k_steps
  cases n with
  | zero =>
    refine WhlIf.no (by simp) ?_
    k_steps
    exact span_none hret (by k_asm) hq.symm
  | succ n =>
    refine WhlIf.yes (by simp) ?_
    have i1 := inP hn hfew
    have i2 := inP (show n + 1 ≤ bs.length by rw [hb]; exact hn) (by rw [hb]; exact hfew)
    k_steps
    · (rename bs.getD _ _ = true => hlk9)
      rw [pred_toNat] at hlk9
      (refine' wend (istr ?zzF ?zzN hn (str_no hq (.inr hlk9)) ?zza ?zzb ?zzc ?zzd); (case zzF => k_asm); (case zzN => k_asm); (case zza => rfl); (case zzb => rfl); (case zzc => rfl); (case zzd => omega))
    · (rename cs[_]? = some _ => hcs9)
      (rename bs.getD _ _ = false => hlk9)
      rw [pred_toNat] at hcs9 hlk9
      have ho := str_yes hq (by rw [nz_at hcs9]; exact decide_eq_true (by omega)) hlk9
      clear hq
      refine Halt.out ?_
      refine whl_start 0 ?_
      refine whl_inv (by passes_own) (IFst s L' ll bs n) ?_ n _ ?_
      rotate_left
      · (refine' ifst ?zzF ?zzN (Nat.le_refl n) rfl ?zza ?zzb ?zzc ?zzd; (case zzF => k_asm); (case zzN => k_asm); (case zza => rfl); (case zzb => rfl); (case zzc => rfl); (case zzd => omega))
      rintro f _ ⟨h2, tk2, m2, t2, tb2, rfl, hn2, hq2, F2, N2, x1, x2, x3⟩
      rw [map3b x1 x2 x3] at F2
      cases f with
      | zero =>
        k_steps
        show Q (Value.ref _) _
        (try dsimp only)
        (refine' span_end hret ?zzF ?zzN ?zzm ho ?zza ?zzb; (case zzF => k_asm); (case zzN => k_asm); (case zzm => k_mem); (case zza => rw [← hq2]; rfl); (case zzb => rfl))
      | succ f =>
        have i3 := inP (show f + 1 ≤ bs.length by rw [hb]; exact Nat.le_trans hn2 (Nat.le_of_succ_le hn)) (by rw [hb]; exact hfew)
        clear i1 i2
        k_steps
        · (rename bs.getD _ _ = true => hlk8)
          rw [pred_toNat] at hlk8
          (refine' wend (ifst ?zzF ?zzN (by omega) (first_yes hq2 hlk8) ?zza ?zzb ?zzc ?zzd); (case zzF => k_asm); (case zzN => k_asm); (case zza => rfl); (case zzb => rfl); (case zzc => rfl); (case zzd => omega))
        · (rename bs.getD (((f + 1 : Nat) : Int) - 1).toNat _ = false => hlk8)
          rw [pred_toNat] at hlk8
          show Q (Value.ref _) _
          (try dsimp only)
          (refine' span_end hret ?zzF ?zzN ?zzm ho ?zza ?zzb; (case zzF => k_asm); (case zzN => k_asm); (case zzm => k_mem); (case zza => rw [first_no hq2 hlk8]); (case zzb => rfl))
    · (rename cs[_]? = some _ => hcs9)
      rw [pred_toNat] at hcs9
      (refine' wend (istr ?zzF ?zzN hn (str_no hq (.inl (by rw [nz_at hcs9]; exact decide_eq_false (by omega)))) ?zza ?zzb ?zzc ?zzd); (case zzF => k_asm); (case zzN => k_asm); (case zza => rfl); (case zzb => rfl); (case zzc => rfl); (case zzd => omega))
end
theorem start_15 : True := by
  w_top off
  have : True ∧ True := by
    first
    | (walk1; done)
    | exact ⟨trivial, trivial⟩
  trivial
section
open PySem PySem.W PySem.Calls PyProof.Rows
set_option maxRecDepth 100000
set_option maxHeartbeats 4000000
theorem fill_L2 : (Challenge.rw_mr0087_01 = Challenge.rw_mr0087_01 ∧ hd.heap_39 = hd.heap_39) → True := by
  k_fill
  intro _; trivial
noncomputable def lastTell (ft : Nat → Bool) : Nat → Option (Nat × Nat)
  | 0 => none
  | c + 1 => if ft c then (if c = 6 ∨ ft (c + 1) = false then some (goFirst ft c, c + 1) else if 0 < goFirst ft c then some (goFirst ft c - 1, goFirst ft c - 1) else none) else some (c, c)
noncomputable abbrev IFt (s : Shared) (L' fl : Addr) (bs : List Bool) (N : Nat) (f : Nat) (s' : Shared) : Prop :=
  ∃ h tk m t tb, s' = { s with heap := h, toks := tk } ∧ f ≤ N ∧ goFirst (fun j => bs.getD j false) f = goFirst (fun j => bs.getD j false) N ∧ Fr s.heap L' h m ∧ News s.heap L' h [] ∧ m (Str.ofString "first") = some (.int (f : Int) t) ∧ m (Str.ofString "col") = some (.int ((N + 1 : Nat) : Int) tb) ∧ m (Str.ofString "fits") = some (.ref fl)
theorem ift {s : Shared} {L' ll : Addr} {bs : List Bool} {M n : Nat} {h : Heap} {tk : Nat} {m : Str → Option Value} {v : Int} {t tb : Tok} (F : Fr s.heap L' h m) (N : News s.heap L' h []) (hn : n ≤ M)
    (hq : goFirst (fun j => bs.getD j false) n = goFirst (fun j => bs.getD j false) M) (m1 : m (Str.ofString "first") = some (.int v t)) (m2 : m (Str.ofString "col") = some (.int ((M + 1 : Nat) : Int) tb)) (m3 : m (Str.ofString "fits") = some (.ref ll)) (hv : v = (n : Int)) :
    IFt s L' ll bs M n { s with heap := h, toks := tk } := ⟨h, tk, m, t, tb, rfl, hn, hq, F, N, by rw [m1, hv], m2, m3⟩
theorem tell_no {ft : Nat → Bool} {c : Nat} (h : ft c = false) : lastTell ft (c + 1) = some (c, c) := by rw [lastTell]; simp [h]
theorem tell_end {ft : Nat → Bool} {c f : Nat} (h : ft c = true) (hq : f = goFirst ft c) (h2 : c = 6 ∨ ft (c + 1) = false) : lastTell ft (c + 1) = some (f, c + 1) := by rw [lastTell]; simp only [h, if_true]; rw [if_pos h2, hq]
theorem tell_ahead {ft : Nat → Bool} {c f : Nat} (h : ft c = true) (hq : f + 1 = goFirst ft c) (h2 : c ≠ 6) (h3 : ft (c + 1) = true) : lastTell ft (c + 1) = some (f, f) := by
  rw [lastTell]; simp only [h, if_true]; rw [if_neg (by simp [h2, h3]), if_pos (by omega), ← hq]; rfl
theorem tell_none {ft : Nat → Bool} {c : Nat} (h : ft c = true) (hq : 0 = goFirst ft c) (h2 : c ≠ 6) (h3 : ft (c + 1) = true) : lastTell ft (c + 1) = none := by
  rw [lastTell]; simp only [h, if_true]; rw [if_neg (by simp [h2, h3]), if_neg (by omega)]
theorem lastTelling_ok (w : World) (fl : Addr) (bs : List Bool) (hb : bs.length = 7) (col : Nat) (hcol : col ≤ 7) (tc : Tok) :
    Ctr w 1 60 112 [.ref fl, .int (col : Int) tc] (fun h => h.IsList fl (bs.map Value.bool).toArray) (PostSpan (lastTell (fun j => bs.getD j false) col)) := by
  intro p loose mean mg mb dp un gd fr s Q E X T hdp hun hB hret
  (k_dflt (refine' enter (binds := [(Str.ofString "fits", .ref fl), (Str.ofString "col", .int (col : Int) tc)]) ?zzk3 ?zzk5 ?zzk6 ?zzk7 ?zzk8 ?zzk9 ?zzkB ?_ ?zzc2 ?zzc3 ?zzc4 ?zzc5; (case zzk3 => k_asm); (case zzk5 => k_asm); (case zzk6 => k_is); (case zzk7 => k_is); (case zzk8 => walk_at "m room"); (case zzk9 => first | exact BindsTo.of_eq rfl | exact binds_K (by k_in) rfl (by k_is) rfl rfl rfl); (case zzc5 => decide); (case zzkB => exact locs rfl); (case zzc2 => exact rfl); (case zzc3 => exact rfl); (case zzc4 => exact rfl); k_whole; intro L' h' F' N'; (try dsimp only); (try k_fold)))
  cases col with
  | zero =>
    k_steps
    show Q Value.none _
    (try dsimp only)
    exact span_none hret (by k_asm) rfl
  | succ n =>
    have i1 := inP (show n + 1 ≤ bs.length by rw [hb]; exact hcol) (by rw [hb]; decide)
    k_steps
    · exfalso; omega
    · (rename bs.getD _ _ = true => hlk9)
      rw [pred_toNat] at hlk9
      refine Halt.out ?_
      refine whl_start 0 ?_
      refine whl_inv (by passes_own) (IFt s L' fl bs n) ?_ n _ ?_
      rotate_left
      · (refine' ift ?zzF ?zzN (Nat.le_refl n) rfl ?zza ?zzb ?zzc ?zzd; (case zzF => k_asm); (case zzN => k_asm); (case zza => rfl); (case zzb => rfl); (case zzc => rfl); (case zzd => omega))
      rintro f _ ⟨h2, tk2, m2, t2, tb2, rfl, hn2, hq2, F2, N2, x1, x2, x3⟩
      rw [map3b x1 x2 x3] at F2
      cases f with
      | zero =>
        k_steps
        · show Q (Value.ref _) _
          (try dsimp only)
          (refine' span_end hret ?zzF ?zzN ?zzm (tell_end hlk9 hq2 (.inl (by omega))) ?zza ?zzb; (case zzF => k_asm); (case zzN => k_asm); (case zzm => k_mem); (case zza => rfl); (case zzb => rfl))
        · (rename bs.getD (((n + 1 : Nat) : Int)).toNat _ = true => h7)
          rw [Int.toNat_natCast] at h7
          show Q Value.none _
          (try dsimp only)
          exact span_none hret (by k_asm) (tell_none hlk9 hq2 (by omega) h7)
        · (rename bs.getD (((n + 1 : Nat) : Int)).toNat _ = false => h7)
          rw [Int.toNat_natCast] at h7
          show Q (Value.ref _) _
          (try dsimp only)
          (refine' span_end hret ?zzF ?zzN ?zzm (tell_end hlk9 hq2 (.inr h7)) ?zza ?zzb; (case zzF => k_asm); (case zzN => k_asm); (case zzm => k_mem); (case zza => rfl); (case zzb => rfl))
      | succ f =>
        have i3 := inP (show f + 1 ≤ bs.length by rw [hb]; exact Nat.le_trans hn2 (Nat.le_of_succ_le hcol)) (by rw [hb]; decide)
        clear i1
        k_steps
        · (rename bs.getD (((f + 1 : Nat) : Int) - 1).toNat _ = true => hlk8)
          rw [pred_toNat] at hlk8
          (refine' wend (ift ?zzF ?zzN (by omega) (first_yes hq2 hlk8) ?zza ?zzb ?zzc ?zzd); (case zzF => k_asm); (case zzN => k_asm); (case zza => rfl); (case zzb => rfl); (case zzc => rfl); (case zzd => omega))
        all_goals (rename bs.getD (((f + 1 : Nat) : Int) - 1).toNat _ = false => hlk8)
        all_goals (rw [pred_toNat] at hlk8)
        all_goals (have hq3 := first_no hq2 hlk8)
        · show Q (Value.ref _) _
          (try dsimp only)
          (refine' span_end hret ?zzF ?zzN ?zzm (tell_end hlk9 hq3.symm (.inl (by omega))) ?zza ?zzb; (case zzF => k_asm); (case zzN => k_asm); (case zzm => k_mem); (case zza => rfl); (case zzb => rfl))
        · (rename bs.getD (((n + 1 : Nat) : Int)).toNat _ = true => h7)
          rw [Int.toNat_natCast] at h7
          show Q (Value.ref _) _
          (try dsimp only)
          (refine' span_end hret ?zzF ?zzN ?zzm (tell_ahead hlk9 hq3.symm (by omega) h7) ?zza ?zzb; (case zzF => k_asm); (case zzN => k_asm); (case zzm => k_mem); (case zza => omega); (case zzb => omega))
        · (rename bs.getD (((n + 1 : Nat) : Int)).toNat _ = false => h7)
          rw [Int.toNat_natCast] at h7
          show Q (Value.ref _) _
          (try dsimp only)
          (refine' span_end hret ?zzF ?zzN ?zzm (tell_end hlk9 hq3.symm (.inr h7)) ?zza ?zzb; (case zzF => k_asm); (case zzN => k_asm); (case zzm => k_mem); (case zza => rfl); (case zzb => rfl))
    · (rename bs.getD _ _ = false => hlk9)
      rw [pred_toNat] at hlk9
      show Q (Value.ref _) _
      (try dsimp only)
      (refine' span_end hret ?zzF ?zzN ?zzm (tell_no hlk9) ?zza ?zzb; (case zzF => k_asm); (case zzN => k_asm); (case zzm => k_mem); (case zza => omega); (case zzb => omega))
end
section
open PySem PySem.W PySem.Calls PyProof.Rows PyProof.V PySem.Spec
set_option maxRecDepth 100000
/-- everything that is alive beside the frame's own names is of the base or of the ledger -/
noncomputable def Alive (g : Heap) (L : Addr) (h : Heap) (led : List (Addr × Obj)) : Prop := ∀ b o, b ≠ L → h.get? b = some o → g.get? b = some o ∨ (b, o) ∈ led
noncomputable def ledAll (g : Heap) (L : Addr) (h : Heap) : List (Addr × Obj) := (List.range h.objs.size).filterMap fun b => if b ≠ L ∧ g.get? b = none then (h.get? b).map fun o => (b, o) else none
theorem mem_ledAll {g h : Heap} {L b : Addr} {o : Obj} : (b, o) ∈ ledAll g L h ↔ b ≠ L ∧ g.get? b = none ∧ h.get? b = some o := by
  unfold ledAll
  rw [List.mem_filterMap]
  constructor
  · rintro ⟨a, _, e⟩
    split at e
    · rename_i hc
      cases q : h.get? a with
      | none => rw [q] at e; cases e
      | some o' => rw [q] at e; cases e; exact ⟨hc.1, hc.2, q⟩
    · cases e
  · rintro ⟨h1, h2, h3⟩
    exact ⟨b, List.mem_range.mpr (Heap.lt_size h3), by rw [if_pos ⟨h1, h2⟩, h3]; rfl⟩
theorem alive_all {g h : Heap} {L : Addr} (_ : Kp g h) : ∃ led, News g L h led ∧ Alive g L h led := by
  refine ⟨ledAll g L h, fun p hp => ?_, fun b o hb e => ?_⟩
  · obtain ⟨b, o⟩ := p
    obtain ⟨h1, h2, h3⟩ := mem_ledAll.mp hp
    exact ⟨h3, h1, h2⟩
  · cases q : g.get? b with
    | none => exact .inr (mem_ledAll.mpr ⟨hb, q, e⟩)
    | some o' =>
      rename_i k
      have := k b o' q
      rw [e] at this
      exact .inl this.symm
theorem alive_kp {g h h2 : Heap} {L : Addr} {led led2 : List (Addr × Obj)} {m2 : Str → Option Value} (AL : Alive g L h led) (F2 : Fr g L h2 m2) (N2 : News g L h2 led2) (hs : ∀ p ∈ led, p ∈ led2) : KpB [L] h h2 := fun b o hb e => by
  rcases AL b o (fun q => hb (by rw [q]; exact .head _)) e with e' | e'
  · exact F2.keep b o e'
  · exact (N2 _ (hs _ e')).1
theorem ns_ne {h : Heap} {L b : Addr} {m : Str → Option Value} {o : Obj} (n : h.Ns L m) (e : h.get? b = some o) (hd : ∀ es ep, o.data ≠ .dict es ep) : b ≠ L := fun q => by
  obtain ⟨oL, es, ep, hL, hLd, _⟩ := n
  rw [q, hL] at e; cases e; exact hd _ _ hLd
theorem HitD.kpL {h h' : Heap} {L f d : Addr} {i j : Int} {m : Str → Option Value} (x : HitD h f i j d) (n : h.Ns L m) (hd : d ≠ L) (kp : KpB [L] h h') : HitD h' f i j d := by
  obtain ⟨gg, k, c1, c2, ⟨⟨fd, sl, e1⟩, ⟨hsh, t, e2⟩, ⟨pm, ctv, e3⟩, e4, ⟨o1, t1, e5, e6⟩, ⟨o2, t2, e7, e8⟩, ne⟩⟩ := x
  have ni : ∀ {b : Addr}, b ≠ L → b ∉ [L] := fun q hm => q (List.mem_singleton.mp hm)
  have n4 : k ≠ L := by
    obtain ⟨c, oc, vs, t', e, ho, hdt, _⟩ := e4
    cases e
    exact ns_ne n ho (by rw [hdt]; nofun)
  exact ⟨gg, k, c1, c2, ⟨⟨fd, sl, kp _ _ (ni (ns_ne n e1 (by nofun))) e1⟩, ⟨hsh, t, kp _ _ (ni hd) e2⟩, ⟨pm, ctv, kp _ _ (ni (ns_ne n e3 (by nofun))) e3⟩, codeRec_kpB e4 (ni n4) kp,
    ⟨o1, t1, kp _ _ (ni (ns_ne n e5 (by rw [e6]; nofun))) e5, e6⟩, ⟨o2, t2, kp _ _ (ni (ns_ne n e7 (by rw [e8]; nofun))) e7, e8⟩, ne⟩⟩
theorem HitD.kp61 {h h' : Heap} {f d : Addr} {i j : Int} (x : HitD h f i j d) (kp : KpB [61] h h') : HitD h' f i j d := by
  obtain ⟨gg, k, c1, c2, ⟨⟨fd, sl, e1⟩, ⟨hsh, t, e2⟩, ⟨pm, ctv, e3⟩, e4, ⟨o1, t1, e5, e6⟩, ⟨o2, t2, e7, e8⟩, n1, n2, n3, n4, n5, n6⟩⟩ := x
  have ni : ∀ {b : Addr}, b ≠ 61 → b ∉ [61] := fun n hm => n (List.mem_singleton.mp hm)
  exact ⟨gg, k, c1, c2, ⟨⟨fd, sl, kp _ _ (ni n1) e1⟩, ⟨hsh, t, kp _ _ (ni n2) e2⟩, ⟨pm, ctv, kp _ _ (ni n3) e3⟩, codeRec_kpB e4 (ni n4) kp, ⟨o1, t1, kp _ _ (ni n5) e5, e6⟩, ⟨o2, t2, kp _ _ (ni n6) e7, e8⟩, n1, n2, n3, n4, n5, n6⟩⟩
theorem HTab.kpL {h h' : Heap} {L : Addr} {m : Str → Option Value} (x : HTab h) (n : h.Ns L m) (kp : KpB [L] h h') : HTab h' := by
  have ni : ∀ {b : Addr}, b ≠ L → b ∉ [L] := fun q hm => q (List.mem_singleton.mp hm)
  have nk : ∀ {k : Addr}, h.CodeRec (.ref k) qHit → k ≠ L := fun e => by
    obtain ⟨c, oc, vs, t', e, ho, hdt, _⟩ := e
    cases e
    exact ns_ne n ho (by rw [hdt]; nofun)
  rcases x with x | ⟨k1, k2, x, a, b, c, d⟩
  · exact .inl (kp _ _ (ni (ns_ne n x (by nofun))) x)
  · exact .inr ⟨k1, k2, kp _ _ (ni (ns_ne n x (by nofun))) x, codeRec_kpB a (ni (nk a)) kp, codeRec_kpB b (ni (nk b)) kp, c, d⟩
/-- what HTab says as an entry of a ledger -/
theorem HTab.ent {h : Heap} (x : HTab h) : ∃ ps, h.get? 61 = some (tabObj ps) ∧ (ps = #[] ∨ ∃ k1 k2, ps = tabH k1 k2 ∧ h.CodeRec (.ref k1) qHit ∧ h.CodeRec (.ref k2) qHit ∧ k1 ≠ 61 ∧ k2 ≠ 61) := by
  rcases x with x | ⟨k1, k2, x, r⟩
  · exact ⟨_, x, .inl rfl⟩
  · exact ⟨_, x, .inr ⟨k1, k2, rfl, r⟩⟩
theorem HTab.of_ent {h g h' : Heap} {L : Addr} {m : Str → Option Value} {news : List (Addr × Obj)} {ps : Array Value} (hp : ps = #[] ∨ ∃ k1 k2, ps = tabH k1 k2 ∧ h.CodeRec (.ref k1) qHit ∧ h.CodeRec (.ref k2) qHit ∧ k1 ≠ 61 ∧ k2 ≠ 61)
    (kb : KpB [61] h g) (F : Fr g L h' m) (N : News g L h' news) (mt : (61, tabObj ps) ∈ news) : HTab h' := by
  rcases hp with rfl | ⟨k1, k2, rfl, a, b, c, d⟩
  · exact .inl (N _ mt).1
  · exact .inr ⟨k1, k2, (N _ mt).1, codeRec_fr a c kb F, codeRec_fr b d kb F, c, d⟩
theorem nameX_FB {M : Model} {A : Around} {E : Value → Shared → Prop} {s : Shared} {h₀ : Heap} {L a c : Addr} {m : Str → Option Value} {cn : Str} {cs : Scope} {ccd : Value} {cl : List (Str × Addr)} {x : Str} {pos : Pos} {v : Value} {o : Obj} {Q : Value → Shared → Prop}
    (F : Fr h₀ L s.heap m) (hc : cl.lookup x = some c) (ho : h₀.get? c = some o) (hd : o.data = .cell (some v)) (h : Q v s)
    (hk : cs.kind = .function) (hx : (envX cn cs L a ccd cl).kindOf x = some .free) (hb : (x == ("__debug__" : Str)) = false := by decide) (hn : (x == ("__classdict__" : Str)) = false := by decide) :
    wpAny M A (eval (.Name x pos) (envX cn cs L a ccd cl)) Q E s := wpAny_Name (wpAny_loadName_free hk hx hc ⟨o, F.keep _ _ ho, hd⟩ h hn) hb
theorem span_call {prog : Program} {w : World} {A : Around} {s : Shared} {Q E : Value → Shared → Prop} {f d gg k c1 c2 : Addr} {i j : Int} (x : IsHit s.heap f i j d gg k c1 c2) (hlim : s.heap.NoLimit) (hroom : A.depth < recursionLimit)
    (h : ∀ t h' t1 t2 kk tk', Kp s.heap h' → h'.get? t = some { cls := .type "tuple", data := .seq #[.int i t1, .int j t2] kk } → s.heap.get? t = none → Q (.ref t) { s with heap := h', toks := tk' }) :
    wpAny (model prog w) A (call (.ref gg) []) Q E s := by
  obtain ⟨pm, ctv, e3⟩ := x.span
  obtain ⟨o1, t1, e5, e6⟩ := x.cell1
  obtain ⟨o2, t2, e7, e8⟩ := x.cell2
  refine wpAny_call (kla_callFunE hroom e3 rfl rfl rfl rfl x.code ?_)
  rw [show bindArgs (kla_fn (Str.ofString "<lambda>") qHit spanParams spanBody spanScope [(Str.ofString "first", c1), (Str.ofString "behind", c2)] pm (.ref k) ctv) ⟨[], []⟩ = pure [] from rfl]
  refine wpAny_pure (wpAny_newFunctionEnv (show ∀ x ∈ spanScope.names, x.2 ≠ .cell by decide) (by intro y hy; cases hy) (fun h₁ hns hsb => ⟨hlim.fresh _ hsb, ?_⟩) rfl)
  have hk₁ : ∀ b o, s.heap.get? b = some o → h₁.get? b = some o := fun b o e => hsb.extBut b o (Nat.ne_of_lt (Heap.lt_size e)) (Heap.get?_push_of_some _ e)
  have F : Fr s.heap s.heap.objs.size h₁ _ := ⟨hns, hk₁, Nat.le_refl _⟩
  show codeAny _ _ (.expr spanBody (envX qHit spanScope s.heap.objs.size gg (.ref k) [(Str.ofString "first", c1), (Str.ofString "behind", c2)])) _ _
  refine kla_codeExpr ?_
  unfold spanBody
  refine Tuple_ (PySem.Calls.spliced_cons (nameX_FB F rfl e5 e6 (PySem.Calls.spliced_cons (nameX_FB F rfl e7 e8 (PySem.Calls.spliced_nil ?_) rfl rfl)) rfl rfl))
  refine newTuple_N F News.nil fun h' F' N' => ?_
  exact h _ h' t1 t2 _ _ F'.keep (N' _ (.head _)).1 (N' _ (.head _)).2.2
theorem fnAt_hit {h : Heap} {f d gg k c1 c2 : Addr} {i j : Int} (x : IsHit h f i j d gg k c1 c2) : FnAt gg h := by
  obtain ⟨pm, ctv, e⟩ := x.span
  exact ⟨_, _, _, _, e⟩
theorem span_method {prog : Program} {w : World} {A : Around} {s : Shared} {E : Value → Shared → Prop} {f d gg k c1 c2 : Addr} {i j : Int} {pl : Sem Bool} {Q : Value × List Value → Shared → Prop} (x : IsHit s.heap f i j d gg k c1 c2)
    (h : ∀ tk', Q (.ref gg, []) { s with toks := tk' }) : wpAny (model prog w) A (getMethod (.ref f) (Str.ofString "span") pl) Q E s := by
  obtain ⟨fd, sl, e1⟩ := x.fn
  obtain ⟨hsh, t, e2⟩ := x.dict
  exact fn_method e1 e2 no_span (by rfl) rfl h
end
section
open PySem PySem.W PySem.Calls PyProof.Rows PyProof.V PySem.Spec
set_option maxRecDepth 100000
theorem sub_fN : isSubtype (.type "float") (.type "NoneType") = pure false := by rw [isSubtype_type]; kernel_rfl
theorem sub_Nf : isSubtype (.type "NoneType") (.type "float") = pure false := by rw [isSubtype_type]; kernel_rfl
theorem none_eq_float (a : UInt64) (t : Tok) : Gives (Builtin.«NoneType.__eq__» ⟨[.none, .float a t], []⟩) (.val (Value.notImplemented)) :=
  .of_wp fun M A E s Q h => by obtain ⟨hp, g, d, tk, os⟩ := s; wp_walk; exact ⟨_, rfl, h⟩
section
variable {prog : Program} {w : World} {A : Around} {E : Value → Shared → Prop} {s : Shared} {Q : Value → Shared → Prop}
theorem eq_none_float {a : UInt64} {t : Tok} (h : Q (.bool false) s) : wpAny (model prog w) A (compareOp .Eq .none (.float a t)) Q E s := by
  show wpAny _ A (richCompare .Eq _ _) Q E s
  exact PySem.EqNone.wpAny_richCompare_eq_decline (k := false) (fun _ => rfl) (fun s' => AutoFloatOps.typeIs_float s' a t) (by decide) sub_fN F.slot_NoneType_eq F.slot_float_eq_refl rfl
    (call_gives F.slot_NoneType_eq rfl F.entry_NoneType_eq (F.args_NoneType_eq_2 _ _) (none_eq_float a t)
      ⟨rfl, call_gives F.slot_float_eq_refl (AutoFloatOps.typeIs_float s a t) F.entry_float_eq (F.args_float_eq_2 _ _) (AutoFloatG1.float___eq___float_none_0 a t) ⟨rfl, h⟩⟩)
variable {l : Addr} {h₀ : Heap} {L : Addr} {m : Str → Option Value} {value slice : PySem.Expr} {k : Int} {u : Tok}
theorem len_B (F : Fr h₀ L s.heap m) {vs : List Value} (hl : h₀.IsList l vs.toArray) (hf : vs.length ≤ 1000) (h : Q (.int (vs.length : Int) (s.toks + 1)) { s with toks := s.toks + 1 + 1 }) : wpAny (model prog w) A (call (.builtin "len") [.ref l]) Q E s :=
  PySem.Calls.call_len_list (stays_list F.keep hl) (by rw [List.size_toArray]; omega) (by rw [List.size_toArray]; exact h)
noncomputable def FV (v : Value) : Prop := v = .none ∨ ∃ x t, v = .float x t
theorem item_is (F : Fr h₀ L s.heap m) {vs : List Value} (hl : h₀.IsList l vs.toArray) {v : Value} (hv : vs[k.toNat]? = some v) (hk : 0 ≤ k ∧ k < 1000) (h : Q v s)
    (hs : subscripted slice false (.ref l) (.int k u) = operate [.ref l, .int k u] (getItem (.ref l) (.int k u))) : wpAny (model prog w) A (subscriptTail value slice (.ref l) (.int k u)) Q E s :=
  item_at (j := k.toNat) (stays_list F.keep hl) (by omega) (by rw [List.getElem?_toArray]; exact hv) (by omega) h hs
theorem item_fv (F : Fr h₀ L s.heap m) {vs : List Value} (hl : h₀.IsList l vs.toArray) (hv : ∀ v ∈ vs, FV v) (hk : 0 ≤ k ∧ k.toNat < vs.length ∧ k < 1000) (q1 : vs[k.toNat]? = some .none → Q .none s) (q2 : ∀ x t, vs[k.toNat]? = some (.float x t) → Q (.float x t) s)
    (hs : subscripted slice false (.ref l) (.int k u) = operate [.ref l, .int k u] (getItem (.ref l) (.int k u))) : wpAny (model prog w) A (subscriptTail value slice (.ref l) (.int k u)) Q E s := by
  have e : vs[k.toNat]? = some vs[k.toNat] := List.getElem?_eq_getElem hk.2.1
  rcases hv _ (List.mem_of_getElem? e) with h | ⟨x, t, h⟩
  · rw [h] at e; exact item_is F hl e ⟨hk.1, hk.2.2⟩ (q1 e) hs
  · rw [h] at e; exact item_is F hl e ⟨hk.1, hk.2.2⟩ (q2 x t e) hs
end
/-- the first place from b on that is not p, at most b + fuel -/
noncomputable def upGo (p : Nat → Bool) : Nat → Nat → Nat
  | 0, b => b
  | k + 1, b => if p b then upGo p k (b + 1) else b
noncomputable def upTo (p : Nat → Bool) (len b : Nat) : Nat := upGo p (len - b) b
theorem upTo_no {p : Nat → Bool} {len b : Nat} (h : len ≤ b ∨ p b = false) : upTo p len b = b := by
  unfold upTo
  rcases h with h | h
  · rw [show len - b = 0 by omega]; rfl
  · cases e : len - b with
    | zero => rfl
    | succ k => simp [upGo, h]
theorem upTo_yes {p : Nat → Bool} {len b : Nat} (h : b < len) (hp : p b = true) : upTo p len b = upTo p len (b + 1) := by
  unfold upTo
  rw [show len - b = (len - (b + 1)) + 1 by omega]
  simp [upGo, hp]
noncomputable def noneAt (vs : List Value) (j : Nat) : Bool := match vs[j]? with
  | some .none => true
  | _ => false
noncomputable def eqV : Option Value → Option Value → Bool
  | some (.float x _), some (.float y _) => Float64.cmp x y == some .eq
  | some .none, some .none => true
  | _, _ => false
noncomputable def strF (vs : List Value) (b : Nat) : Option (Nat × Nat) :=
  let f := upTo (noneAt vs) vs.length b
  let e := upTo (fun j => eqV vs[j]? vs[f]?) vs.length f
  if f < e then some (f, e) else none
end
section
local macro_rules | `(tactic| walk_at "subscriptTail") => `(tactic| (k_here; (with_reducible show wpAny _ _ (subscriptTail _ _ (Value.ref _) (Value.int _ _)) _ _ _); k_dflt (refine' item_fv ?zzF ?zzl ?zzv ?zzk ?_ ?_ ?zzhs; (case zzF => k_asm); (case zzl => assumption); (case zzv => assumption); (case zzk => first | exact in1000 (by assumption) (by assumption) | omega); (case zzhs => with_unfolding_all rfl); k_whole); (first | (intro x' t' hv') | intro hv')))
section
local macro_rules | `(tactic| walk_at "subscriptTail") => `(tactic| (k_here; (with_reducible show wpAny _ _ (subscriptTail _ _ (Value.ref _) (Value.int _ _)) _ _ _); k_dflt (refine' item_is ?zzF ?zzl ?zzv ?zzk ?_ ?zzhs; (case zzF => k_asm); (case zzl => assumption); (case zzv => assumption); (case zzk => first | exact in1000 (by assumption) (by assumption) | omega); (case zzhs => with_unfolding_all rfl); k_whole)))
section
local macro_rules | `(tactic| walk_at "compareOp Eq none float") => `(tactic| (k_here; refine eq_none_float ?_))
section
local macro_rules | `(tactic| walk_at "call ref") => `(tactic| (k_here; (with_reducible show wpAny _ _ (call (Value.ref 66) _) _ _ _); refine halt ?_))
section
local macro_rules | `(tactic| walk_at "call builtin:len") => `(tactic| (k_here; k_dflt (refine' len_B ?zzF ?zzl ?zzf ?_; (case zzF => k_asm); (case zzl => assumption); (case zzf => omega); k_whole); try dsimp only))
theorem start_16 : True := by
  w_top off
  have : True ∧ True := by
    first
    | (walk1; done)
    | exact ⟨trivial, trivial⟩
  trivial
section
open PySem PySem.W PySem.Calls PyProof.Rows
set_option maxRecDepth 100000
set_option maxHeartbeats 4000000
theorem fill_S1 : (Challenge.rw_mr0087_01 = Challenge.rw_mr0087_01 ∧ hd.heap_39 = hd.heap_39) → True := by
  k_fill
  intro _; trivial
noncomputable def NextHit (o : Option (Nat × Nat)) (h h' : Heap) (r : Value) : Prop := match o with
  | none => r = .none
  | some (i, j) => ∃ f d, r = .ref f ∧ HitD h' f (i : Int) (j : Int) d ∧ h.get? d = none
noncomputable abbrev IUp (s : Shared) (g : Heap) (L' row : Addr) (ps : Array Value) (P : Nat → Bool) (len b : Nat) (x : Str) (n : Nat) (s' : Shared) : Prop :=
  ∃ f h tk m t, s' = { s with heap := h, toks := tk } ∧ n = 200 - f ∧ b ≤ f ∧ f ≤ 100 ∧ upTo P len f = upTo P len b ∧ Fr g L' h m ∧ News g L' h [(61, tabObj ps)] ∧ m x = some (.int (f : Int) t) ∧ m (Str.ofString "chars") = some (.ref row)
noncomputable abbrev IUp2 (s : Shared) (g : Heap) (L' row : Addr) (ps : Array Value) (P : Nat → Bool) (len b : Nat) (n : Nat) (s' : Shared) : Prop :=
  ∃ f h tk m t tf, s' = { s with heap := h, toks := tk } ∧ n = 200 - f ∧ b ≤ f ∧ f ≤ 100 ∧ upTo P len f = upTo P len b ∧ Fr g L' h m ∧ News g L' h [(61, tabObj ps)] ∧ m (Str.ofString "behind") = some (.int (f : Int) t) ∧ m (Str.ofString "chars") = some (.ref row) ∧ m (Str.ofString "first") = some (.int (b : Int) tf)
theorem wendl {I : Nat → Shared → Prop} {Q : Flow → Shared → Prop} {n n' : Nat} {s' : Shared} (hn : n' < n) (h : I n' s') : WEnd I Q n .next s' := ⟨n', hn, h⟩
section
variable {s : Shared} {g h : Heap} {L' row : Addr} {ps : Array Value} {P : Nat → Bool} {len b f : Nat} {x : Str} {tk : Nat} {m : Str → Option Value} {v : Int} {t tf : Tok}
theorem iup (F : Fr g L' h m) (N : News g L' h [(61, tabObj ps)]) (hb : b ≤ f) (hf : f ≤ 100) (hq : upTo P len f = upTo P len b) (m1 : m x = some (.int v t)) (m2 : m (Str.ofString "chars") = some (.ref row)) (hv : v = (f : Int)) : IUp s g L' row ps P len b x (200 - f) { s with heap := h, toks := tk } :=
  ⟨f, h, tk, m, t, rfl, rfl, hb, hf, hq, F, N, by rw [m1, hv], m2⟩
theorem iup2 (F : Fr g L' h m) (N : News g L' h [(61, tabObj ps)]) (hb : b ≤ f) (hf : f ≤ 100) (hq : upTo P len f = upTo P len b) (m1 : m (Str.ofString "behind") = some (.int v t)) (m2 : m (Str.ofString "chars") = some (.ref row)) (m3 : m (Str.ofString "first") = some (.int (b : Int) tf)) (hv : v = (f : Int)) : IUp2 s g L' row ps P len b (200 - f) { s with heap := h, toks := tk } :=
  ⟨f, h, tk, m, t, tf, rfl, rfl, hb, hf, hq, F, N, by rw [m1, hv], m2, m3⟩
end
theorem row_g {h g : Heap} {row : Addr} {vs : List Value} {ps : Array Value} (hrow : h.IsList row vs.toArray) (hps : h.get? 61 = some (tabObj ps)) (kb : KpB [61] h g) : g.IsList row vs.toArray := by
  obtain ⟨o, e, c, r⟩ := hrow
  refine ⟨o, kb _ _ (fun hm => ?_) e, c, r⟩
  rw [List.mem_singleton.mp hm, hps] at e; cases e; cases c
theorem d_old {h h2 : Heap} {d : Addr} {ps : Array Value} (kp : KpB [61] h h2) (h61 : h2.get? 61 = some (tabObj ps)) (hd : h2.get? d = none) : h.get? d = none := by
  cases e : h.get? d with
  | none => rfl
  | some o =>
    by_cases q : d = 61
    · rw [q, h61] at hd; cases hd
    · rw [kp d o (fun hm => q (List.mem_singleton.mp hm)) e] at hd; cases hd
theorem none_yes {vs : List Value} {j : Nat} (h : vs[j]? = some .none) : noneAt vs j = true := by unfold noneAt; rw [h]
theorem none_no {vs : List Value} {j : Nat} {x : UInt64} {t : Tok} (h : vs[j]? = some (.float x t)) : noneAt vs j = false := by unfold noneAt; rw [h]
theorem strF_is {vs : List Value} {b f e : Nat} (hF : upTo (noneAt vs) vs.length b = f) (hE : upTo (fun j => eqV vs[j]? vs[f]?) vs.length f = e) : strF vs b = if f < e then some (f, e) else none := by
  subst hF; subst hE; rfl
theorem kp_3 {h g h2 h3 : Heap} (a : KpB [61] h g) (b : Kp g h2) (c : KpB [61] h2 h3) : KpB [61] h h3 := fun x o hx e => c x o hx (b x o (a x o hx e))
theorem kp_2 {h g h2 : Heap} (a : KpB [61] h g) (b : Kp g h2) : KpB [61] h h2 := fun x o hx e => (b x o (a x o hx e))
theorem eq_nf {vs : List Value} {j f : Nat} {x : UInt64} {t : Tok} (h : vs[j]? = some .none) (h2 : vs[f]? = some (.float x t)) : eqV vs[j]? vs[f]? = false := by rw [h, h2]; rfl
theorem eq_ff {vs : List Value} {j f : Nat} {x y : UInt64} {t u : Tok} {r : Bool} (h : vs[j]? = some (.float y u)) (h2 : vs[f]? = some (.float x t)) (hr : (Float64.cmp y x == some .eq) = r) : eqV vs[j]? vs[f]? = r := by rw [h, h2]; exact hr
theorem stretch_ok (w : World) (row : Addr) (vs : List Value) (hvs : ∀ v ∈ vs, FV v) (hlen : vs.length ≤ 100) (b : Nat) (hb : b ≤ 100) (args : List Value) (hargs : (args = [.ref row] ∧ b = 0) ∨ ∃ t, args = [.ref row, .int (b : Int) t])
    (p : Program) (loose : List Str) (mean : ExcName → Option Value) (mg mb : Str → Option Value) (dp un : Nat) (gd : Option (List Code)) (fr : Option (List Env)) (s : Shared) (Q E : Value → Shared → Prop)
    (g1 : Heap) (hg1 : g1.get? 61 = none) (k1 : Kp g1 s.heap) (X : (hd.heap_39 w.params).In g1) (T : Top p loose mean mg mb g1) (hdp : dp + 2 < recursionLimit) (hun : un + 40 < cLine) (hT : HTab s.heap) (hrow : s.heap.IsList row vs.toArray)
    (hret : ∀ r h' tk', KpB [61] s.heap h' → HTab h' → NextHit (strF vs b) s.heap h' r → Q r { s with heap := h', toks := tk' }) :
    wpAny (model Challenge.pw_mr0087_01 w) (AA dp un gd fr) (call (.ref 74) args) Q E s := by
  obtain ⟨ps, hps, hpp⟩ := hT.ent
  obtain ⟨t0, ha⟩ : ∃ t0 : Tok, (args = [.ref row] ∧ b = 0 ∧ t0 = 284) ∨ args = [.ref row, .int (b : Int) t0] := hargs.elim (fun h => ⟨284, .inl ⟨h.1, h.2, rfl⟩⟩) fun ⟨t, h⟩ => ⟨t, .inr h⟩
  · skip
    (k_dflt (refine' enterT (binds := [(Str.ofString "chars", .ref row), (Str.ofString "begin", .int (b : Int) t0)]) [(61, tabObj ps)] ?zzke ?zzkg ?zzk1 ?zzk3 ?zzk5 ?zzk6 ?zzk7 ?zzk8 ?zzk9 ?zzkB ?_ ?zzc2 ?zzc3 ?zzc4 ?zzc5; (case zzke => (first | assumption | (intro q9 hq9; simp only [List.mem_cons, List.mem_singleton, List.not_mem_nil, or_false] at hq9; subst hq9; assumption))); (case zzkg => (intro q9 hq9; simp only [List.mem_cons, List.mem_singleton, List.not_mem_nil, or_false] at hq9; subst hq9; assumption)); (case zzk1 => assumption); (case zzk3 => k_asm); (case zzk5 => k_asm); (case zzk6 => k_is); (case zzk7 => k_is); (case zzk8 => walk_at "m room"); (case zzk9 => (rcases ha with ⟨e1, e2, e3⟩ | e1; (subst e3; subst e2; subst e1; first | exact binds_K (by k_in) rfl (by k_is) rfl rfl rfl | exact binds_K (Frag.In.keeps (by k_asm) (by assumption)) rfl (by k_is) rfl rfl rfl); (subst e1; first | exact binds_K (by k_in) rfl (by k_is) rfl rfl rfl | exact binds_K (Frag.In.keeps (by k_asm) (by assumption)) rfl (by k_is) rfl rfl rfl))); (case zzc5 => decide); (case zzkB => exact locs rfl); (case zzc2 => exact rfl); (case zzc3 => exact rfl); (case zzc4 => exact rfl); k_whole; intro g L' h' F' N' Xg Tg kb' lt' sz'; (try dsimp only); (try k_fold)))
    have hrg : g.IsList row vs.toArray := row_g hrow hps kb'
    have hg61 : g.get? 61 = none := (N' _ (.head _)).2.2
    k_steps
    refine Halt.out ?_
    refine whl_start 0 ?_
    refine whl_inv (by passes_own) (IUp s g L' row ps (noneAt vs) vs.length b (Str.ofString "first")) ?_ (200 - b) _ ?_
    rotate_left
    · (refine' iup ?zzF ?zzN (Nat.le_refl _) (by omega) rfl ?zza ?zzb ?zzd; (case zzF => k_asm); (case zzN => k_asm); (case zza => rfl); (case zzb => rfl); (case zzd => rfl))
    rintro n _ ⟨f, h, tk, m, t, rfl, rfl, hbf, hf, hq, F, N, m1, m2⟩
    rw [map2b m1 m2] at F
    k_steps
    · (rename vs[_]? = some Value.none => h9)
      rw [Int.toNat_natCast] at h9
      (refine' wendl (n' := 200 - (f + 1)) (down200 hf) (iup ?zzF ?zzN (Nat.le_succ_of_le hbf) (up100 (by assumption) hlen) ((upTo_yes (Int.ofNat_lt.mp (by assumption)) (none_yes h9)).symm.trans hq) ?zza ?zzb ?zzd); (case zzF => k_asm); (case zzN => k_asm); (case zza => rfl); (case zzb => rfl); (case zzd => rfl))
    · (rename vs[_]? = some (Value.float _ _) => h9)
      have h8 := h9
      rw [Int.toNat_natCast] at h8
      have hF : upTo (noneAt vs) vs.length b = f := hq.symm.trans (upTo_no (.inr (none_no h8)))
      refine Halt.out ?_
      refine whl_start 0 ?_
      refine whl_inv (by passes_own) (IUp2 s g L' row ps (fun j => eqV vs[j]? vs[f]?) vs.length f) ?_ (200 - f) _ ?_
      rotate_left
      · (refine' iup2 ?zzF ?zzN (Nat.le_refl _) (by omega) rfl ?zza ?zzb ?zzc ?zzd; (case zzF => k_asm); (case zzN => k_asm); (case zza => rfl); (case zzb => rfl); (case zzc => rfl); (case zzd => rfl))
      rintro n2 _ ⟨e, h2, tk2, m3, t2, tf2, rfl, rfl, hbe, he, hq2, F2, N2, x1, x2, x3⟩
      rw [map3b x1 x2 x3] at F2
      k_steps
      · (rename vs[_]? = some Value.none => h7)
        rw [Int.toNat_natCast] at h7
        have hE : upTo (fun j => eqV vs[j]? vs[f]?) vs.length f = e := hq2.symm.trans (upTo_no (.inr (eq_nf h7 h8)))
        have hS := strF_is hF hE
        rw [if_pos (by omega)] at hS
        refine Halt.out ?_
        (refine' hit_ok w _ _ _ _ p loose mean mg mb _ _ _ _ _ _ _ g hg61 ?zzF Xg Tg ?zzd ?zzu ?zzT ?_; (case zzF => exact F2.keep); (case zzd => omega); (case zzu => (dsimp only [Around.deeper]; omega)); (case zzT => exact HTab.of_ent hpp kb' F2 N2 (.head _)))
        intro f' d' h' tk' kp1 ht1 hd1 hn1
        show Q (Value.ref _) _
        (try dsimp only)
        refine hret _ h' _ (kp_3 kb' F2.keep kp1) ht1 ?_
        rw [hS]
        exact ⟨f', d', rfl, hd1, d_old (kp_2 kb' F2.keep) (N2 _ (.head _)).1 hn1⟩
      · (rename vs[_]? = some Value.none => h7)
        rw [Int.toNat_natCast] at h7
        have hE : upTo (fun j => eqV vs[j]? vs[f]?) vs.length f = e := hq2.symm.trans (upTo_no (.inr (eq_nf h7 h8)))
        have hS := strF_is hF hE
        rw [if_neg (by omega)] at hS
        show Q Value.none _
        (try dsimp only)
        refine hret _ _ _ (kp_2 kb' F2.keep) (HTab.of_ent hpp kb' F2 N2 (.head _)) ?_
        rw [hS]; rfl
      · (rename vs[_]? = some (Value.float _ _) => h7)
        (rename _ = true => h6)
        rw [Int.toNat_natCast] at h7
        (refine' wendl (n' := 200 - (e + 1)) (down200 (by assumption)) (iup2 ?zzF ?zzN (Nat.le_succ_of_le (by assumption)) (up100 (by assumption) hlen) ((upTo_yes (Int.ofNat_lt.mp (by assumption)) (eq_ff h7 h8 h6)).symm.trans hq2) ?zza ?zzb ?zzc ?zzd); (case zzF => k_asm); (case zzN => k_asm); (case zza => rfl); (case zzb => rfl); (case zzc => rfl); (case zzd => rfl))
      · (rename vs[_]? = some (Value.float _ _) => h7)
        (rename _ = false => h6)
        rw [Int.toNat_natCast] at h7
        have hE : upTo (fun j => eqV vs[j]? vs[f]?) vs.length f = e := hq2.symm.trans (upTo_no (.inr (eq_ff h7 h8 h6)))
        have hS := strF_is hF hE
        rw [if_pos (by omega)] at hS
        refine Halt.out ?_
        (refine' hit_ok w _ _ _ _ p loose mean mg mb _ _ _ _ _ _ _ g hg61 ?zzF Xg Tg ?zzd ?zzu ?zzT ?_; (case zzF => exact F2.keep); (case zzd => omega); (case zzu => (dsimp only [Around.deeper]; omega)); (case zzT => exact HTab.of_ent hpp kb' F2 N2 (.head _)))
        intro f' d' h' tk' kp1 ht1 hd1 hn1
        show Q (Value.ref _) _
        (try dsimp only)
        refine hret _ h' _ (kp_3 kb' F2.keep kp1) ht1 ?_
        rw [hS]
        exact ⟨f', d', rfl, hd1, d_old (kp_2 kb' F2.keep) (N2 _ (.head _)).1 hn1⟩
      · (rename vs[_]? = some (Value.float _ _) => h7)
        (rename _ = false => h6)
        rw [Int.toNat_natCast] at h7
        have hE : upTo (fun j => eqV vs[j]? vs[f]?) vs.length f = e := hq2.symm.trans (upTo_no (.inr (eq_ff h7 h8 h6)))
        have hS := strF_is hF hE
        rw [if_neg (by omega)] at hS
        show Q Value.none _
        (try dsimp only)
        refine hret _ _ _ (kp_2 kb' F2.keep) (HTab.of_ent hpp kb' F2 N2 (.head _)) ?_
        rw [hS]; rfl
      · have hE : upTo (fun j => eqV vs[j]? vs[f]?) vs.length f = e := hq2.symm.trans (upTo_no (.inl (by omega)))
        have hS := strF_is hF hE
        rw [if_pos (by omega)] at hS
        refine Halt.out ?_
        (refine' hit_ok w _ _ _ _ p loose mean mg mb _ _ _ _ _ _ _ g hg61 ?zzF Xg Tg ?zzd ?zzu ?zzT ?_; (case zzF => exact F2.keep); (case zzd => omega); (case zzu => (dsimp only [Around.deeper]; omega)); (case zzT => exact HTab.of_ent hpp kb' F2 N2 (.head _)))
        intro f' d' h' tk' kp1 ht1 hd1 hn1
        show Q (Value.ref _) _
        (try dsimp only)
        refine hret _ h' _ (kp_3 kb' F2.keep kp1) ht1 ?_
        rw [hS]
        exact ⟨f', d', rfl, hd1, d_old (kp_2 kb' F2.keep) (N2 _ (.head _)).1 hn1⟩
    · have hF : upTo (noneAt vs) vs.length b = f := hq.symm.trans (upTo_no (.inl (by omega)))
      refine Halt.out ?_
      refine whl_start 0 ?_
      refine whl_inv (by passes_own) (IUp2 s g L' row ps (fun j => eqV vs[j]? vs[f]?) vs.length f) ?_ (200 - f) _ ?_
      rotate_left
      · (refine' iup2 ?zzF ?zzN (Nat.le_refl _) (by omega) rfl ?zza ?zzb ?zzc ?zzd; (case zzF => k_asm); (case zzN => k_asm); (case zza => rfl); (case zzb => rfl); (case zzc => rfl); (case zzd => rfl))
      rintro n2 _ ⟨e, h2, tk2, m3, t2, tf2, rfl, rfl, hbe, he, hq2, F2, N2, x1, x2, x3⟩
      rw [map3b x1 x2 x3] at F2
      k_steps
      · have hE : upTo (fun j => eqV vs[j]? vs[f]?) vs.length f = e := hq2.symm.trans (upTo_no (.inl (by omega)))
        have hS := strF_is hF hE
        rw [if_pos (by omega)] at hS
        refine Halt.out ?_
        (refine' hit_ok w _ _ _ _ p loose mean mg mb _ _ _ _ _ _ _ g hg61 ?zzF Xg Tg ?zzd ?zzu ?zzT ?_; (case zzF => exact F2.keep); (case zzd => omega); (case zzu => (dsimp only [Around.deeper]; omega)); (case zzT => exact HTab.of_ent hpp kb' F2 N2 (.head _)))
        intro f' d' h' tk' kp1 ht1 hd1 hn1
        show Q (Value.ref _) _
        (try dsimp only)
        refine hret _ h' _ (kp_3 kb' F2.keep kp1) ht1 ?_
        rw [hS]
        exact ⟨f', d', rfl, hd1, d_old (kp_2 kb' F2.keep) (N2 _ (.head _)).1 hn1⟩
      · have hE : upTo (fun j => eqV vs[j]? vs[f]?) vs.length f = e := hq2.symm.trans (upTo_no (.inl (by omega)))
        have hS := strF_is hF hE
        rw [if_neg (by omega)] at hS
        show Q Value.none _
        (try dsimp only)
        refine hret _ _ _ (kp_2 kb' F2.keep) (HTab.of_ent hpp kb' F2 N2 (.head _)) ?_
        rw [hS]; rfl
end
section
open PySem PySem.W PySem.Calls PyProof.Rows PyProof.V PySem.Spec
set_option maxRecDepth 100000
/-- a search: from b on it gives the next hit that spec says -/
noncomputable def SearchC (w : World) (gS : Heap) (f row : Addr) (spec : Nat → Option (Nat × Nat)) : Prop :=
  ∀ (b : Nat) (args : List Value), b ≤ 100 → ((args = [.ref row] ∧ b = 0) ∨ ∃ t, args = [.ref row, .int (b : Int) t]) → ∀ (dp un : Nat) (gd : Option (List Code)) (fr : Option (List Env)) (s : Shared) (Q E : Value → Shared → Prop),
    Kp gS s.heap → dp + 3 < recursionLimit → un + 60 < cLine → HTab s.heap → (∀ r h' tk', KpB [61] s.heap h' → HTab h' → NextHit (spec b) s.heap h' r → Q r { s with heap := h', toks := tk' }) →
    wpAny (model Challenge.pw_mr0087_01 w) (AA dp un gd fr) (call (.ref f) args) Q E s
theorem SearchC.of_stretch {w : World} {g : Heap} {row : Addr} {vs : List Value} {p : Program} {loose : List Str} {mean : ExcName → Option Value} {mg mb : Str → Option Value} (hvs : ∀ v ∈ vs, FV v) (hlen : vs.length ≤ 100) (hg : g.get? 61 = none)
    (X : (hd.heap_39 w.params).In g) (T : Top p loose mean mg mb g) (hrow : g.IsList row vs.toArray) : SearchC w g 74 row (strF vs) :=
  fun b args hb ha dp un gd fr s Q E k hdp hun hT hret => stretch_ok w row vs hvs hlen b hb args ha p loose mean mg mb dp un gd fr s Q E g hg k X T (by omega) (by omega) hT (stays_list k hrow) hret
noncomputable def farF (vs : List Value) (hue : Value) (b : Nat) : Option (Nat × Nat) := some (b, upTo (fun j => eqV vs[j]? (some hue)) vs.length b)
/-- what the closure of _law_how_far is good for, as long as these places are kept -/
noncomputable def FarC (w : World) (h : Heap) (p : Program) (loose : List Str) (mean : ExcName → Option Value) (mg mb : Str → Option Value) (f : Addr) (keep : List Addr) (hue : Value) : Prop :=
  ∀ gS : Heap, (∀ a ∈ keep, gS.get? a = h.get? a) → (hd.heap_39 w.params).In gS → Top p loose mean mg mb gS → gS.get? 61 = none → ∀ row vs, gS.IsList row vs.toArray → (∀ v ∈ vs, FV v) → vs.length ≤ 100 → SearchC w gS f row (farF vs hue)
section
variable {w : World} {p : Program} {loose : List Str} {mean : ExcName → Option Value} {mg mb : Str → Option Value} {A : Around} {s : Shared} {Q E : Value → Shared → Prop}
  {name qual : Str} {params : Arguments} {body : List Stmt} {scope : Scope} {cl : List (Str × Addr)} {dV doc pm ctv : Value} {c' f : Addr} {vs : List Value} {binds : List (Str × Value)} {K : Frag} {g1 : Heap}
theorem enterXT (ent : List (Addr × Obj)) (hent : ∀ p ∈ ent, s.heap.get? p.1 = some p.2) (hg : ∀ p ∈ ent, g1.get? p.1 = none) (k1 : Kp g1 s.heap) (X : K.In g1) (T : Top p loose mean mg mb g1)
    (ho : g1.get? f = some (kdv_obj name qual params (.stmts body) scope cl dV doc pm c' ctv)) (hcd : g1.CodeRec (.ref c') qual) (hroom : A.depth < recursionLimit)
    (hbind : BindsTo s (kdv_fn name qual params (.stmts body) scope cl dV doc pm (.ref c') ctv) ⟨vs, []⟩ binds) (hloc : ∀ y ∈ binds, scope.names.lookup y.1 = some .local)
    (h : ∀ g L' h₁, Fr g L' h₁ (fun y => binds.reverse.lookup y) → News g L' h₁ ent → K.In g → Top p loose mean mg mb g → KpB (ent.map (·.1)) s.heap g → (∀ p ∈ ent, p.1 < L') → Kp g1 g →
      wpAny (model Challenge.pw_mr0087_01 w) (A.deeper (envX qual scope L' f (.ref c') cl)) (execs body (envX qual scope L' f (.ref c') cl))
        (fun fl s' => Q (match fl with | .ret v => v | _ => .none) s') (fun _ _ => False) { s with heap := h₁, toks := s.toks + binds.length })
    (hco : scope.isCoroutine = false) (hgen : scope.isGenerator = false) (hk : scope.kind = .function)
    (hcell : ∀ x ∈ scope.names, x.2 ≠ .cell) : wpAny (model Challenge.pw_mr0087_01 w) A (call (.ref f) vs) Q E s := by
  obtain ⟨g, hg0, X', T', kg, hsz, kb, kg1⟩ := ground ent hent hg k1 X T
  refine wpAny_call ?_
  refine codeAny_call_def (fd := kdv_fn name qual params (.stmts body) scope cl dV doc pm (.ref c') ctv) (body := body) (binds := binds) hroom (k1 _ _ ho) rfl ((T.keeps k1).nolimit) ?_ rfl hbind hcell hloc (fun h₁ hns hk₁ => ?_) hco hgen hk
  · exact codeRec_kpB (as := []) hcd (by nofun) fun b o _ e => k1 b o e
  exact wpAny_mono (h g s.heap.objs.size h₁ ⟨hns, fun b o e => hk₁ b o (kg b o e), Nat.le_of_eq hsz⟩ (fun q hq => ⟨hk₁ _ _ (hent q hq), Nat.ne_of_lt (Heap.lt_size (hent q hq)), hg0 q hq⟩) X' T' kb (fun q hq => Heap.lt_size (hent q hq)) kg1) (fun fl s' hl => hl) fun _ _ x => x.elim
end
theorem codeRec_keep {h h' : Heap} {k : Addr} {q : Str} (x : h.CodeRec (.ref k) q) (e : h'.get? k = h.get? k) : h'.CodeRec (.ref k) q := by
  obtain ⟨c, oc, vs, t, e1, ho, r⟩ := x
  cases e1
  exact ⟨k, oc, vs, t, rfl, e.trans ho, r⟩
theorem fresh_of {h g h' : Heap} {L a P : Addr} {o : Obj} {news : List (Addr × Obj)} (N : News g L h' news) (hm : (a, o) ∈ news) (kb : KpB [P] h g) (ne : a ≠ P) : h.get? a = none := by
  cases e : h.get? a with
  | none => rfl
  | some o' => have := kb a o' (fun q => ne (List.mem_singleton.mp q)) e; rw [(N _ hm).2.2] at this; cases this
theorem loadX_L {M : Model} {A : Around} {E : Value → Shared → Prop} {s : Shared} {h₀ : Heap} {L a : Addr} {m : Str → Option Value} {cn : Str} {cs : Scope} {ccd : Value} {cl : List (Str × Addr)} {x : Str} {v : Value} {Q : Value → Shared → Prop}
    (F : Fr h₀ L s.heap m) (hv : m x = some v) (h : Q v s) (hk : cs.kind = .function) (hx : (envX cn cs L a ccd cl).kindOf x = some .local) : wpAny M A (loadName (envX cn cs L a ccd cl) x) Q E s :=
  wpAny_loadName_local hk hx F.ns hv h
end
section
local macro_rules | `(tactic| walk_at "setAttr ref") => `(tactic| (k_here; k_dflt (refine' fn_setK ?zzF ?zzN ?zzU ?zzn ?_; (case zzF => k_asm); (case zzN => k_asm); (case zzU => k_updF); (case zzn => first | exact no_span | exact no_search); k_whole); intro d' t' hsh' h' tk' F' N' l1; (try dsimp only at N'); (try k_lt l1); (try k_sweep)))
section
local macro_rules | `(tactic| walk_at "eval Name") => `(tactic| (k_here; (with_reducible show wpAny _ _ (eval (Expr.Name (Str.ofString "hue") _) _) _ _ _); k_dflt (refine' nameX_FB ?zzF ?zzc ?zzo ?zzd ?_ ?zzk ?zzx; (case zzc => rfl); (case zzk => rfl); (case zzx => rfl); (case zzF => k_asm); (case zzo => assumption); (case zzd => assumption); k_whole)))
section
local macro_rules | `(tactic| walk_at "loadName") => `(tactic| (k_here; k_dflt (refine' loadX_L ?zzF ?zzv ?_ ?zzk ?zzx; (case zzk => rfl); (case zzx => rfl); (case zzF => k_asm); (case zzv => rfl); k_whole)))
theorem start_17 : True := by
  w_top off
  have : True ∧ True := by
    first
    | (walk1; done)
    | exact ⟨trivial, trivial⟩
  trivial
section
open PySem PySem.W PySem.Calls PyProof.Rows
set_option maxRecDepth 100000
set_option maxHeartbeats 4000000
theorem fill_FA : (Challenge.rw_mr0087_01 = Challenge.rw_mr0087_01 ∧ hd.heap_39 = hd.heap_39) → True := by
  k_fill
  intro _; trivial
noncomputable abbrev IUp3 (s : Shared) (g : Heap) (L' row : Addr) (ps : Array Value) (P : Nat → Bool) (len b : Nat) (n : Nat) (s' : Shared) : Prop :=
  ∃ f h tk m t tf, s' = { s with heap := h, toks := tk } ∧ n = 200 - f ∧ b ≤ f ∧ f ≤ 100 ∧ upTo P len f = upTo P len b ∧ Fr g L' h m ∧ News g L' h [(61, tabObj ps)] ∧ m (Str.ofString "behind") = some (.int (f : Int) t) ∧ m (Str.ofString "chars") = some (.ref row) ∧ m (Str.ofString "begin") = some (.int (b : Int) tf)
theorem iup3 {s : Shared} {g h : Heap} {L' row : Addr} {ps : Array Value} {P : Nat → Bool} {len b f : Nat} {tk : Nat} {m : Str → Option Value} {v w : Int} {t tf : Tok} (F : Fr g L' h m) (N : News g L' h [(61, tabObj ps)]) (hb : b ≤ f) (hf : f ≤ 100) (hq : upTo P len f = upTo P len b)
    (m1 : m (Str.ofString "behind") = some (.int v t)) (m2 : m (Str.ofString "chars") = some (.ref row)) (m3 : m (Str.ofString "begin") = some (.int w tf)) (hv : v = (f : Int)) (hw : w = (b : Int)) : IUp3 s g L' row ps P len b (200 - f) { s with heap := h, toks := tk } :=
  ⟨f, h, tk, m, t, tf, rfl, rfl, hb, hf, hq, F, N, by rw [m1, hv], m2, by rw [m3, hw]⟩
theorem how_end {w : World} {p : Program} {loose : List Str} {mean : ExcName → Option Value} {mg mb : Str → Option Value} {s : Shared} {Q : Value → Shared → Prop} {g h' : Heap} {L f c t k : Addr} {m : Str → Option Value} {o1 o2 o3 o4 : Obj} {rest : List (Addr × Obj)} {hue : Value} {tk' : Nat}
    (hret : ∀ f h' tk' (keep : List Addr), KpB [76] s.heap h' → (∀ a ∈ keep, s.heap.get? a = none) → (∀ a ∈ keep, ∃ o, h'.get? a = some o) → f ∈ keep → FnAt f h' → (∃ ps, h'.get? 76 = some (tabObj ps)) → FarC w h' p loose mean mg mb f keep hue → Q (.ref f) { s with heap := h', toks := tk' })
    (F : Fr g L h' m) (N : News g L h' ((f, o1) :: (c, o2) :: (t, o3) :: (k, o4) :: rest)) (kb : KpB [76] s.heap g) (n1 : f ≠ 76) (n2 : c ≠ 76) (n3 : t ≠ 76) (n4 : k ≠ 76) (fn : FnAt f h') (tb : ∃ ps, h'.get? 76 = some (tabObj ps)) (fc : FarC w h' p loose mean mg mb f [f, c, t, k] hue) : Q (.ref f) { s with heap := h', toks := tk' } := by
  refine hret f h' tk' [f, c, t, k] (fun b o hb e => F.keep b o (kb b o hb e)) (fun a ha => ?_) (fun a ha => ?_) (.head _) fn tb fc
  · simp only [List.mem_cons, List.not_mem_nil, or_false] at ha
    rcases ha with rfl | rfl | rfl | rfl
    · exact fresh_of N (.head _) kb n1
    · exact fresh_of N (.tail _ (.head _)) kb n2
    · exact fresh_of N (.tail _ (.tail _ (.head _))) kb n3
    · exact fresh_of N (.tail _ (.tail _ (.tail _ (.head _)))) kb n4
  · simp only [List.mem_cons, List.not_mem_nil, or_false] at ha
    rcases ha with rfl | rfl | rfl | rfl
    · exact ⟨_, (N _ (.head _)).1⟩
    · exact ⟨_, (N _ (.tail _ (.head _))).1⟩
    · exact ⟨_, (N _ (.tail _ (.tail _ (.head _)))).1⟩
    · exact ⟨_, (N _ (.tail _ (.tail _ (.tail _ (.head _))))).1⟩
theorem farF_is {vs : List Value} {hue : Value} {b e : Nat} (hE : upTo (fun j => eqV vs[j]? (some hue)) vs.length b = e) : farF vs hue b = some (b, e) := by subst hE; rfl
theorem eq_nfB {vs : List Value} {j : Nat} {x : UInt64} {t : Tok} (h : vs[j]? = some .none) : eqV vs[j]? (some (.float x t)) = false := by rw [h]; rfl
theorem eq_ffB {vs : List Value} {j : Nat} {x y : UInt64} {t u : Tok} {r : Bool} (h : vs[j]? = some (.float y u)) (hr : (Float64.cmp y x == some .eq) = r) : eqV vs[j]? (some (.float x t)) = r := by rw [h]; exact hr
theorem how_ok (w : World) (x : UInt64) (tx : Tok) (p : Program) (loose : List Str) (mean : ExcName → Option Value) (mg mb : Str → Option Value) (dp un : Nat) (gd : Option (List Code)) (fr : Option (List Env)) (s : Shared) (Q E : Value → Shared → Prop)
    (g1 : Heap) (hg1 : g1.get? 76 = none) (k1 : Kp g1 s.heap) (X : (hd.heap_39 w.params).In g1) (T : Top p loose mean mg mb g1) (hdp : dp + 1 < recursionLimit) (hun : un + 20 < cLine) (hT : s.heap.get? 76 = some (tabObj #[]))
    (hret : ∀ f h' tk' (keep : List Addr), KpB [76] s.heap h' → (∀ a ∈ keep, s.heap.get? a = none) → (∀ a ∈ keep, ∃ o, h'.get? a = some o) → f ∈ keep → FnAt f h' → (∃ ps, h'.get? 76 = some (tabObj ps)) → FarC w h' p loose mean mg mb f keep (.float x tx) → Q (.ref f) { s with heap := h', toks := tk' }) :
    wpAny (model Challenge.pw_mr0087_01 w) (AA dp un gd fr) (call (.ref 81) [.float x tx]) Q E s := by
  (k_dflt (refine' enterCT (binds := [(Str.ofString "hue", .float x tx)]) [(76, tabObj #[])] ?zzke ?zzkg ?zzk1 ?zzk3 ?zzk5 ?zzk6 ?zzk7 ?zzk8 ?zzk9 ?zzkB ?zzkD ?_ ?zzc2 ?zzc3 ?zzc4; (case zzke => (first | assumption | (intro q9 hq9; simp only [List.mem_cons, List.mem_singleton, List.not_mem_nil, or_false] at hq9; first | (subst hq9; assumption) | (rcases hq9 with hq9 | hq9 <;> (subst hq9; assumption))))); (case zzkg => (intro q9 hq9; simp only [List.mem_cons, List.mem_singleton, List.not_mem_nil, or_false] at hq9; first | (subst hq9; assumption) | (rcases hq9 with hq9 | hq9 <;> (subst hq9; assumption)))); (case zzk1 => assumption); (case zzk3 => k_asm); (case zzk5 => k_asm); (case zzk6 => k_is); (case zzk7 => k_is); (case zzk8 => walk_at "m room"); (case zzk9 => first | exact BindsTo.of_eq rfl | exact binds_K (by k_in) rfl (by k_is) rfl rfl rfl | exact binds_K (Frag.In.keeps (by k_asm) (by assumption)) rfl (by k_is) rfl rfl rfl); (case zzkB => exact rfl); (case zzkD => decide +kernel); (case zzc2 => exact rfl); (case zzc3 => exact rfl); (case zzc4 => exact rfl); k_whole; intro g L' h' tk' cells' F' N' Y' Xg Tg kb' lt' sz'; skip))
  obtain ⟨oc1, hE9, dc1⟩ := CellsAre.one Y'
  subst hE9; clear Y'
  replace dc1 : oc1.data = .cell (some (.float x tx)) := dc1
  (try simp only [List.cons_append, List.nil_append] at N'); (try dsimp only); (try k_fold)
  have hcode : CodeHd g 80 76 := codeHd_of_K Xg (by kernel_rfl)
  have lt9 : @LT.lt Nat _ 76 L' := lt' _ (.head _)
  k_steps
  show Q (Value.ref _) _
  (try dsimp only)
  (rename News _ _ _ _ => N)
  (rename Fr _ _ _ _ => F)
  (rename oc1.data = _ => dcell)
  (rename _ = Data.fields _ => dcode)
  (rename _ = some (Value.str _ _) => dqual)
  have e1 := N _ (.head _)
  have e2 := N _ (.tail _ (.head _))
  have e3 := N _ (.tail _ (.tail _ (.head _)))
  have e4 := N _ (.tail _ (.tail _ (.tail _ (.head _))))
  have e9 : ∃ ps, _ = some (tabObj ps) := GrownAt.of N (P := 76) (by k_mem)
  refine how_end hret F N kb' (by k_ne) (by k_ne) (by k_ne) (by k_ne) ⟨_, _, _, _, e1.1⟩ e9 ?_
  intro gS hk X2 T2 h61 row vs hrow hvs hlen b args hb hargs dp2 un2 gd2 fr2 s2 Q2 E2 k2 hdp2 hun2 hT2 hret2
  have f1 := (hk _ (.head _)).trans e1.1
  have f2 := codeRec_keep (codeRec_news N (.tail _ (.head _)) dcode dqual) (hk _ (.tail _ (.head _)))
  have f3 := (hk _ (.tail _ (.tail _ (.head _)))).trans e3.1
  have f4 := (hk _ (.tail _ (.tail _ (.tail _ (.head _))))).trans e4.1
  clear e1 e2 e3 e4 e9 dcode dqual F N hret k1 X T hT Xg Tg kb' lt' hcode hg1 hdp hun hk
  obtain ⟨ps, hps, hpp⟩ := hT2.ent
  obtain ⟨t0, ha⟩ : ∃ t0 : Tok, (args = [.ref row] ∧ b = 0 ∧ t0 = tk') ∨ args = [.ref row, .int (b : Int) t0] := hargs.elim (fun h => ⟨tk', .inl ⟨h.1, h.2, rfl⟩⟩) fun ⟨t, h⟩ => ⟨t, .inr h⟩
  · (k_dflt (refine' enterXT (binds := [(Str.ofString "chars", .ref row), (Str.ofString "begin", .int (b : Int) t0)]) [(61, tabObj ps)] ?zzke ?zzkg k2 X2 T2 f1 f2 ?zzk8 ?zzk9 ?zzkB ?_ ?zzc2 ?zzc3 ?zzc4 ?zzc5; (case zzke => (intro q9 hq9; simp only [List.mem_cons, List.not_mem_nil, or_false] at hq9; subst hq9; assumption)); (case zzkg => (intro q9 hq9; simp only [List.mem_cons, List.not_mem_nil, or_false] at hq9; subst hq9; assumption)); (case zzk8 => walk_at "m room"); (case zzk9 => (rcases ha with ⟨e1, e2, e3⟩ | e1; (subst e3; subst e2; subst e1; exact BindsTo.of_defaults rfl (k2 _ _ f3) rfl rfl rfl); (subst e1; first | exact BindsTo.of_eq rfl | exact BindsTo.of_defaults rfl (k2 _ _ f3) rfl rfl rfl))); (case zzc5 => decide); (case zzkB => exact locs rfl); (case zzc2 => exact rfl); (case zzc3 => exact rfl); (case zzc4 => exact rfl); k_whole; intro g L' h' F' N' Xg Tg kb' lt' kg'; (try dsimp only); (try k_fold)))
    have hrg : g.IsList row vs.toArray := stays_list kg' hrow
    have hg61 : g.get? 61 = none := (N' _ (.head _)).2.2
    have hcl := kg' _ _ f4
    k_steps
    refine Halt.out ?_
    refine whl_start 0 ?_
    refine whl_inv (by passes_own) (IUp3 s2 g L' row ps (fun j => eqV vs[j]? (some (.float x tx))) vs.length b) ?_ (200 - b) _ ?_
    rotate_left
    · (refine' iup3 ?zzF ?zzN (Nat.le_refl _) (by omega) rfl ?zza ?zzb ?zzc ?zzd ?zze; (case zzF => k_asm); (case zzN => k_asm); (case zza => rfl); (case zzb => rfl); (case zzc => rfl); (case zzd => rfl); (case zze => rfl))
    rintro n2 _ ⟨e, h2, tk2, m3, t2, tf2, rfl, rfl, hbe, he, hq2, F2, N2, x1, x2, x3⟩
    rw [map3b x1 x2 x3] at F2
    k_steps
    · (rename vs[_]? = some Value.none => h7)
      rw [Int.toNat_natCast] at h7
      have hE : upTo (fun j => eqV vs[j]? (some (.float x tx))) vs.length b = e := hq2.symm.trans (upTo_no (.inr (eq_nfB h7)))
      refine Halt.out ?_
      (refine' hit_ok w _ _ _ _ p loose mean mg mb _ _ _ _ _ _ _ g hg61 ?zzF Xg Tg ?zzd ?zzu ?zzT ?_; (case zzF => exact F2.keep); (case zzd => (dsimp only [Around.deeper]; omega)); (case zzu => (dsimp only [Around.deeper]; omega)); (case zzT => exact HTab.of_ent hpp kb' F2 N2 (.head _)))
      intro f' d' h' tk' kp1 ht1 hd1 hn1
      show Q2 (Value.ref _) _
      (try dsimp only)
      refine hret2 _ h' _ (kp_3 kb' F2.keep kp1) ht1 ?_
      rw [farF_is hE]
      exact ⟨f', d', rfl, hd1, d_old (kp_2 kb' F2.keep) (N2 _ (.head _)).1 hn1⟩
    · (rename vs[_]? = some (Value.float _ _) => h7)
      (rename _ = true => h6)
      rw [Int.toNat_natCast] at h7
      (refine' wendl (n' := 200 - (e + 1)) (down200 (by assumption)) (iup3 ?zzF ?zzN (Nat.le_succ_of_le (by assumption)) (up100 (by assumption) hlen) ((upTo_yes (Int.ofNat_lt.mp (by assumption)) (eq_ffB h7 h6)).symm.trans hq2) ?zza ?zzb ?zzc ?zzd ?zze); (case zzF => k_asm); (case zzN => k_asm); (case zza => rfl); (case zzb => rfl); (case zzc => rfl); (case zzd => rfl); (case zze => rfl))
    · (rename vs[_]? = some (Value.float _ _) => h7)
      (rename _ = false => h6)
      rw [Int.toNat_natCast] at h7
      have hE : upTo (fun j => eqV vs[j]? (some (.float x tx))) vs.length b = e := hq2.symm.trans (upTo_no (.inr (eq_ffB h7 h6)))
      refine Halt.out ?_
      (refine' hit_ok w _ _ _ _ p loose mean mg mb _ _ _ _ _ _ _ g hg61 ?zzF Xg Tg ?zzd ?zzu ?zzT ?_; (case zzF => exact F2.keep); (case zzd => (dsimp only [Around.deeper]; omega)); (case zzu => (dsimp only [Around.deeper]; omega)); (case zzT => exact HTab.of_ent hpp kb' F2 N2 (.head _)))
      intro f' d' h' tk' kp1 ht1 hd1 hn1
      show Q2 (Value.ref _) _
      (try dsimp only)
      refine hret2 _ h' _ (kp_3 kb' F2.keep kp1) ht1 ?_
      rw [farF_is hE]
      exact ⟨f', d', rfl, hd1, d_old (kp_2 kb' F2.keep) (N2 _ (.head _)).1 hn1⟩
    · have hE : upTo (fun j => eqV vs[j]? (some (.float x tx))) vs.length b = e := hq2.symm.trans (upTo_no (.inl (by omega)))
      refine Halt.out ?_
      (refine' hit_ok w _ _ _ _ p loose mean mg mb _ _ _ _ _ _ _ g hg61 ?zzF Xg Tg ?zzd ?zzu ?zzT ?_; (case zzF => exact F2.keep); (case zzd => (dsimp only [Around.deeper]; omega)); (case zzu => (dsimp only [Around.deeper]; omega)); (case zzT => exact HTab.of_ent hpp kb' F2 N2 (.head _)))
      intro f' d' h' tk' kp1 ht1 hd1 hn1
      show Q2 (Value.ref _) _
      (try dsimp only)
      refine hret2 _ h' _ (kp_3 kb' F2.keep kp1) ht1 ?_
      rw [farF_is hE]
      exact ⟨f', d', rfl, hd1, d_old (kp_2 kb' F2.keep) (N2 _ (.head _)).1 hn1⟩
end
section
open PySem PySem.W PySem.Calls PyProof.Rows PyProof.V PySem.Spec
set_option maxRecDepth 100000
theorem fr_kpB {as : List Addr} {g h h2 : Heap} {L : Addr} {m : Str → Option Value} (F : Fr g L h m) (hg : ∀ a ∈ as, g.get? a = none) (hL : L ∉ as) (kp : KpB as h h2) : Fr g L h2 m := by
  obtain ⟨oL, es, ep, hl, r⟩ := F.ns
  exact ⟨⟨oL, es, ep, kp L oL hL hl, r⟩, fun b o e => kp b o (fun hm => by rw [hg b hm] at e; cases e) (F.keep b o e), F.above⟩
/-- reading back: the walk of search_reverse, with fuel -/
noncomputable def revGo (spec : Nat → Option (Nat × Nat)) (col : Nat) : Nat → Option (Nat × Nat) → Nat × Nat → Option (Nat × Nat)
  | 0, fnd, _ => fnd
  | k + 1, fnd, (i, j) => if i < col ∧ j ≤ col then (match spec (if i = j then j + 1 else j) with
      | none => some (i, j)
      | some ij => revGo spec col k (some (i, j)) ij) else fnd
noncomputable def rev (spec : Nat → Option (Nat × Nat)) (col : Nat) : Option (Nat × Nat) := match spec 0 with
  | none => none
  | some ij => revGo spec col 20 none ij
/-- a program: a function that has a search -/
noncomputable def IsProg (h : Heap) (pf dpr sf : Addr) : Prop := (∃ fd sl, h.get? pf = some ⟨.type "function", some dpr, .func fd, sl⟩) ∧ (∃ hsh t, h.get? dpr = some (dictOf [⟨hsh, .str (Str.ofString "search") t, .ref sf⟩] 1)) ∧ FnAt sf h
theorem IsProg.keeps {h h' : Heap} {pf dpr sf : Addr} (x : IsProg h pf dpr sf) (k : Kp h h') : IsProg h' pf dpr sf := by
  obtain ⟨⟨fd, sl, a⟩, ⟨hsh, t, b⟩, ⟨oc, od, f2, s2, c⟩⟩ := x
  exact ⟨⟨fd, sl, k _ _ a⟩, ⟨hsh, t, k _ _ b⟩, ⟨oc, od, f2, s2, k _ _ c⟩⟩
theorem IsProg.base {h g : Heap} {pf dpr sf : Addr} {ps : Array Value} (x : IsProg h pf dpr sf) (hps : h.get? 61 = some (tabObj ps)) (kb : KpB [61] h g) : IsProg g pf dpr sf := by
  obtain ⟨⟨fd, sl, a⟩, ⟨hsh, t, b⟩, ⟨oc, od, f2, s2, c⟩⟩ := x
  have ne : ∀ {q : Addr} {o : Obj}, h.get? q = some o → o ≠ tabObj ps → q ∉ [61] := fun e hne hm => by
    rw [List.mem_singleton.mp hm, hps] at e
    exact hne (Option.some.inj e).symm
  exact ⟨⟨fd, sl, kb _ _ (ne a (fun q => by cases q)) a⟩, ⟨hsh, t, kb _ _ (ne b (fun q => by cases q)) b⟩, ⟨oc, od, f2, s2, kb _ _ (ne c (fun q => by cases q)) c⟩⟩
theorem search_method {prog : Program} {w : World} {A : Around} {s : Shared} {E : Value → Shared → Prop} {pf dpr sf : Addr} {pl : Sem Bool} {Q : Value × List Value → Shared → Prop} (x : IsProg s.heap pf dpr sf)
    (h : ∀ tk', Q (.ref sf, []) { s with toks := tk' }) : wpAny (model prog w) A (getMethod (.ref pf) (Str.ofString "search") pl) Q E s := by
  obtain ⟨⟨fd, sl, e1⟩, ⟨hsh, t, e2⟩, _⟩ := x
  exact fn_method e1 e2 no_search (by rfl) rfl h
theorem IsProg.fn {h : Heap} {pf dpr sf : Addr} (x : IsProg h pf dpr sf) : FnAt sf h := x.2.2
theorem kp_kpL {h h' : Heap} {L : Addr} (k : Kp h h') : KpB [L] h h' := fun b o _ e => k b o e
theorem hit_truthy {prog : Program} {w : World} {A : Around} {s : Shared} {E : Value → Shared → Prop} {g h : Heap} {L f d : Addr} {i j : Int} {led led2 : List (Addr × Obj)} {m m0 : Str → Option Value} {Q : Bool → Shared → Prop}
    (AL : Alive g L h led) (n : h.Ns L m0) (x : HitD h f i j d) (hd : d ≠ L) (F : Fr g L s.heap m) (N : News g L s.heap led2) (hs : ∀ p ∈ led, p ∈ led2) (hq : Q true s) : wpAny (model prog w) A (truthy (.ref f)) Q E s := by
  obtain ⟨gg, k, c1, c2, y⟩ := x.kpL n hd (alive_kp AL F N hs)
  obtain ⟨fd, sl, e⟩ := y.fn
  exact fn_truthy e rfl hq
/-- calling a hit's span -/
theorem hit_span {prog : Program} {w : World} {A : Around} {s : Shared} {E : Value → Shared → Prop} {g h : Heap} {L f d : Addr} {i j : Int} {led led2 : List (Addr × Obj)} {m m0 : Str → Option Value} {pos : Pos} {env : Env} {pl : Sem Bool} {Q : Value → Shared → Prop}
    (AL : Alive g L h led) (n : h.Ns L m0) (x : HitD h f i j d) (hd : d ≠ L) (ht : HTab h) (F : Fr g L s.heap m) (N : News g L s.heap led2) (hs : ∀ p ∈ led, p ∈ led2) (hlim : s.heap.NoLimit) (hroom : A.depth < recursionLimit)
    (hq : ∀ t h' t1 t2 kk tk' led3, KpB [L] h h' → HTab h' → HitD h' f i j d → Fr g L h' m → News g L h' led3 → Alive g L h' led3 → h'.Ns L m → (t, ({ cls := .type "tuple", data := .seq #[.int i t1, .int j t2] kk } : Obj)) ∈ led3 → Q (.ref t) { s with heap := h', toks := tk' }) :
    wpAny (model prog w) A (getMethod (.ref f) (Str.ofString "span") pl) (fun fx s₂ => wpAny (model prog w) A (callWith pos fx.1 fx.2 (backTo pos (starEach [] env)) []) Q E s₂) E s := by
  have kp := alive_kp AL F N hs
  have x1 := x.kpL n hd kp
  have h1 := ht.kpL n kp
  obtain ⟨gg, k, c1, c2, y⟩ := x1
  refine span_method y fun tk1 => ?_
  refine callWith_F0 (fnAt_hit y) ?_
  refine span_call (s := { s with toks := tk1 }) y hlim hroom fun t h' t1 t2 kk tk' k' e hn => ?_
  have F4 := fr_kp F k'
  obtain ⟨led3, N3, AL3⟩ := alive_all (L := L) F4.keep
  have tL : t ≠ L := fun q => by
    obtain ⟨oL, es, ep, hl, _⟩ := F.ns
    rw [q] at hn
    rw [show s.heap.get? L = none from hn] at hl; cases hl
  have tg : g.get? t = none := by
    cases q : g.get? t with
    | none => rfl
    | some o => have := F.keep _ _ q; rw [show s.heap.get? t = none from hn] at this; cases this
  refine hq t h' t1 t2 kk tk' led3 (fun b o hb q => k' b o (kp b o hb q)) (h1.kpL F.ns (kp_kpL k')) (HitD.kpL ⟨gg, k, c1, c2, y⟩ F.ns hd (kp_kpL k')) F4 N3 AL3 F4.ns ?_
  rcases AL3 t _ tL e with q | q
  · rw [tg] at q; cases q
  · exact q
/-- a hit or none, of after h0, off the frame L -/
noncomputable def NH (L : Addr) (o : Option (Nat × Nat)) (h0 h : Heap) (v : Value) : Prop := match o with
  | none => v = .none
  | some (i, j) => ∃ f d, v = .ref f ∧ HitD h f (i : Int) (j : Int) d ∧ h0.get? d = none ∧ d ≠ L
theorem NH.kpL {L : Addr} {o : Option (Nat × Nat)} {h0 h h' : Heap} {v : Value} {m : Str → Option Value} (x : NH L o h0 h v) (n : h.Ns L m) (kp : KpB [L] h h') : NH L o h0 h' v := by
  cases o with
  | none => exact x
  | some ij =>
    obtain ⟨f, d, e, hd, hn, hL⟩ := x
    exact ⟨f, d, e, hd.kpL n hL kp, hn, hL⟩
theorem NH.kp61 {L : Addr} {o : Option (Nat × Nat)} {h0 h h' : Heap} {v : Value} (x : NH L o h0 h v) (kp : KpB [61] h h') : NH L o h0 h' v := by
  cases o with
  | none => exact x
  | some ij =>
    obtain ⟨f, d, e, hd, hn, hL⟩ := x
    exact ⟨f, d, e, hd.kp61 kp, hn, hL⟩
theorem NH.next {L : Addr} {o : Option (Nat × Nat)} {h0 h : Heap} {v : Value} (x : NH L o h0 h v) : NextHit o h0 h v := by
  cases o with
  | none => exact x
  | some ij =>
    obtain ⟨f, d, e, hd, hn, hL⟩ := x
    exact ⟨f, d, e, hd, hn⟩
theorem HTab.at {h : Heap} (x : HTab h) : ∃ ps, h.get? 61 = some (tabObj ps) := by
  obtain ⟨ps, e, _⟩ := x.ent
  exact ⟨ps, e⟩
theorem ns_off {h : Heap} {L d : Addr} {m : Str → Option Value} (n : h.Ns L m) (e : h.get? d = none) : d ≠ L := fun q => by
  obtain ⟨oL, es, ep, hl, _⟩ := n
  rw [q, hl] at e; cases e
theorem NH.of {L : Addr} {o : Option (Nat × Nat)} {h0 h1 h : Heap} {v : Value} {m : Str → Option Value} (x : NextHit o h1 h v) (kp : KpB [61] h0 h1) (ht : HTab h1) (n : h1.Ns L m) : NH L o h0 h v := by
  cases o with
  | none => exact x
  | some ij =>
    obtain ⟨f, d, e, hd, hn⟩ := x
    obtain ⟨ps, e61⟩ := ht.at
    exact ⟨f, d, e, hd, d_old kp e61 hn, ns_off n hn⟩
section
variable {spec : Nat → Option (Nat × Nat)} {col n i j i2 j2 : Nat} {fnd : Option (Nat × Nat)}
theorem revGo_out (h : ¬(i < col ∧ j ≤ col)) : revGo spec col n fnd (i, j) = fnd := by
  cases n with
  | zero => rfl
  | succ n => unfold revGo; rw [if_neg h]
theorem revGo_stop (hn : 0 < n) (hi : i < col) (hj : j ≤ col) (hs : spec (if i = j then j + 1 else j) = none) : revGo spec col n fnd (i, j) = some (i, j) := by
  cases n with
  | zero => omega
  | succ n => unfold revGo; rw [if_pos ⟨hi, hj⟩, hs]
theorem revGo_next (hn : 0 < n) (hi : i < col) (hj : j ≤ col) (hs : spec (if i = j then j + 1 else j) = some (i2, j2)) : revGo spec col n fnd (i, j) = revGo spec col (n - 1) (some (i, j)) (i2, j2) := by
  cases n with
  | zero => omega
  | succ n => rw [revGo, if_pos ⟨hi, hj⟩, hs]; rfl
end
end
end
end
end
end
end
end
end
end
theorem start_18 : True := by
  w_top off
  have : True ∧ True := by
    first
    | (walk1; done)
    | exact ⟨trivial, trivial⟩
  trivial
section
local macro_rules | `(tactic| walk_at "call ref") => `(tactic| (k_here; refine halt ?_))
section
local macro_rules | `(tactic| walk_at "getMethod ref") => `(tactic| (k_here; refine halt ?_))
section
local macro_rules | `(tactic| walk_at "getMethod ref") => `(tactic| (k_here; k_dflt (refine' search_method ?zzp ?_; (case zzp => exact IsProg.keeps (by assumption) (Fr.keep (by k_asm))); k_whole); intro tk'))
section
local macro_rules | `(tactic| walk_at "callWith ref") => `(tactic| (k_here; k_dflt (refine' callWith_F ?zzX ?_ ?zze ?zzp; (case zze => rfl); (case zzp => rfl); (case zzX => exact IsProg.fn (IsProg.keeps (by assumption) (Fr.keep (by k_asm)))); k_whole)))
section
local macro_rules | `(tactic| walk_at "And") => `(tactic| (with_reducible refine And.intro ?_ ?_; · exact IsProg.fn (IsProg.keeps (by assumption) (Fr.keep (by k_asm)))))
section
local macro_rules | `(tactic| walk_at "truthy ref") => `(tactic| (k_here; k_dflt (refine' hit_truthy ?zzA ?zzn ?zzx ?zzd ?zzF ?zzN ?zzs ?_; (case zzx => assumption); (case zzA => assumption); (case zzn => assumption); (case zzd => assumption); (case zzF => k_asm); (case zzN => k_asm); (case zzs => exact fun _ h => h); k_whole)))
section
local macro_rules | `(tactic| walk_at "execs cons") => `(tactic| (k_here; (with_reducible show wpAny _ _ (execs (Stmt.If (Expr.Compare (Expr.Name _ _) _ [Expr.Name _ _] _) _ _ _ :: _) _) _ _ _); refine halt ?_))
theorem start_19 : True := by
  w_top off
  have : True ∧ True := by
    first
    | (walk1; done)
    | exact ⟨trivial, trivial⟩
  trivial
section
open PySem PySem.W PySem.Calls PyProof.Rows
set_option maxRecDepth 100000
set_option maxHeartbeats 4000000
theorem fill_R1 : (Challenge.rw_mr0087_01 = Challenge.rw_mr0087_01 ∧ hd.heap_39 = hd.heap_39) → True := by
  k_fill
  intro _; trivial
/-- behind `if i == j`: j is b now -/
noncomputable def JRev (s : Shared) (g : Heap) (L' pf row f : Addr) (col : Nat) (tc : Tok) (b : Nat) (led : List (Addr × Obj)) (s' : Shared) : Prop :=
  ∃ h tk m tj vi, s' = { s with heap := h, toks := tk } ∧ Fr g L' h m ∧ News g L' h led ∧ m (Str.ofString "m") = some (.ref f) ∧ m (Str.ofString "found") = some (.ref f) ∧ m (Str.ofString "i") = some vi ∧ m (Str.ofString "j") = some (.int (b : Int) tj) ∧
    m (Str.ofString "prog") = some (.ref pf) ∧ m (Str.ofString "chars") = some (.ref row) ∧ m (Str.ofString "col") = some (.int (col : Int) tc)
theorem jrev {s : Shared} {g : Heap} {L' pf row f : Addr} {col : Nat} {tc : Tok} {b : Nat} {led : List (Addr × Obj)} {h : Heap} {tk : Nat} {m : Str → Option Value} {tj : Tok} {vi : Value} {k : Int} (F : Fr g L' h m) (N : News g L' h led) (m1 : m (Str.ofString "m") = some (.ref f)) (m2 : m (Str.ofString "found") = some (.ref f)) (m3 : m (Str.ofString "i") = some vi) (m4 : m (Str.ofString "j") = some (.int k tj))
    (m5 : m (Str.ofString "prog") = some (.ref pf)) (m6 : m (Str.ofString "chars") = some (.ref row)) (m7 : m (Str.ofString "col") = some (.int (col : Int) tc)) (hk : k = (b : Int)) : JRev s g L' pf row f col tc b led { s with heap := h, toks := tk } :=
  ⟨h, tk, m, tj, vi, rfl, F, N, m1, m2, m3, by rw [m4, hk], m5, m6, m7⟩
theorem past {i j b : Nat} (hb : b = if i = j then j + 1 else j) (hij : i ≤ j) : i + 1 ≤ b ∧ b ≤ j + 1 := by
  by_cases h : i = j
  · rw [if_pos h] at hb; omega
  · rw [if_neg h] at hb; omega
theorem past1 {i j b : Nat} {k l : Int} (hb : b = if i = j then j + 1 else j) (h : (i : Int) = (j : Int)) (e : k = (j : Int) + 1) : k = (b : Int) := by
  rw [if_pos (Int.ofNat.inj h)] at hb; rw [hb, e]; rfl
theorem past2 {i j b : Nat} (hb : b = if i = j then j + 1 else j) (h : ¬ (i : Int) = (j : Int)) : (j : Int) = (b : Int) := by
  rw [if_neg (fun q => h (congrArg Int.ofNat q))] at hb; rw [hb]
noncomputable abbrev IRev (s : Shared) (g : Heap) (L' pf row : Addr) (spec : Nat → Option (Nat × Nat)) (col : Nat) (tc : Tok) (n : Nat) (s' : Shared) : Prop :=
  ∃ fnd i j h tk m vf vm t1 t2, s' = { s with heap := h, toks := tk } ∧ rev spec col = revGo spec col n fnd (i, j) ∧ 20 ≤ n + i ∧ i ≤ j ∧ Fr g L' h m ∧ HTab h ∧ NH L' fnd s.heap h vf ∧ NH L' (some (i, j)) s.heap h vm ∧
    m (Str.ofString "m") = some vm ∧ m (Str.ofString "found") = some vf ∧ m (Str.ofString "i") = some (.int (i : Int) t1) ∧ m (Str.ofString "j") = some (.int (j : Int) t2) ∧ m (Str.ofString "prog") = some (.ref pf) ∧ m (Str.ofString "chars") = some (.ref row) ∧ m (Str.ofString "col") = some (.int (col : Int) tc)
theorem irev {s : Shared} {g h : Heap} {L' pf row : Addr} {spec : Nat → Option (Nat × Nat)} {col : Nat} {tc : Tok} {n : Nat} {fnd : Option (Nat × Nat)} {i j tk : Nat} {m : Str → Option Value} {vf vm : Value} {t1 t2 : Tok}
    (hr : rev spec col = revGo spec col n fnd (i, j)) (hn : 20 ≤ n + i) (hij : i ≤ j) (F : Fr g L' h m) (ht : HTab h) (x1 : NH L' fnd s.heap h vf) (x2 : NH L' (some (i, j)) s.heap h vm)
    (m1 : m (Str.ofString "m") = some vm) (m2 : m (Str.ofString "found") = some vf) (m3 : m (Str.ofString "i") = some (.int (i : Int) t1)) (m4 : m (Str.ofString "j") = some (.int (j : Int) t2)) (m5 : m (Str.ofString "prog") = some (.ref pf)) (m6 : m (Str.ofString "chars") = some (.ref row)) (m7 : m (Str.ofString "col") = some (.int (col : Int) tc)) :
    IRev s g L' pf row spec col tc n { s with heap := h, toks := tk } := ⟨fnd, i, j, h, tk, m, vf, vm, t1, t2, rfl, hr, hn, hij, F, ht, x1, x2, m1, m2, m3, m4, m5, m6, m7⟩
theorem rev_ok (w : World) (pf dpr sf row : Addr) (spec : Nat → Option (Nat × Nat)) (hspec : ∀ b i j, spec b = some (i, j) → b ≤ i ∧ i ≤ j) (col : Nat) (hcol : col ≤ 7) (tc : Tok)
    (p : Program) (loose : List Str) (mean : ExcName → Option Value) (mg mb : Str → Option Value) (dp un : Nat) (gd : Option (List Code)) (fr : Option (List Env)) (s : Shared) (Q E : Value → Shared → Prop)
    (g1 : Heap) (hg1 : g1.get? 61 = none) (k1 : Kp g1 s.heap) (X : (hd.heap_39 w.params).In g1) (T : Top p loose mean mg mb g1) (hdp : dp + 6 < recursionLimit) (hun : un + 100 < cLine) (hT : HTab s.heap) (hpr : IsProg s.heap pf dpr sf) (hS : SearchC w g1 sf row spec)
    (hret : ∀ r h' tk', KpB [61] s.heap h' → HTab h' → NextHit (rev spec col) s.heap h' r → Q r { s with heap := h', toks := tk' }) :
    wpAny (model Challenge.pw_mr0087_01 w) (AA dp un gd fr) (call (.ref 21) [.ref pf, .ref row, .int (col : Int) tc]) Q E s := by
  obtain ⟨ps, hps, hpp⟩ := hT.ent
  (k_dflt (refine' enterT (binds := [(Str.ofString "prog", .ref pf), (Str.ofString "chars", .ref row), (Str.ofString "col", .int (col : Int) tc)]) [(61, tabObj ps)] ?zzke ?zzkg ?zzk1 ?zzk3 ?zzk5 ?zzk6 ?zzk7 ?zzk8 ?zzk9 ?zzkB ?_ ?zzc2 ?zzc3 ?zzc4 ?zzc5; (case zzke => (first | assumption | (intro q9 hq9; simp only [List.mem_cons, List.mem_singleton, List.not_mem_nil, or_false] at hq9; subst hq9; assumption))); (case zzkg => (intro q9 hq9; simp only [List.mem_cons, List.mem_singleton, List.not_mem_nil, or_false] at hq9; subst hq9; assumption)); (case zzk1 => assumption); (case zzk3 => k_asm); (case zzk5 => k_asm); (case zzk6 => k_is); (case zzk7 => k_is); (case zzk8 => walk_at "m room"); (case zzk9 => first | exact BindsTo.of_eq rfl | exact binds_K (by k_in) rfl (by k_is) rfl rfl rfl | exact binds_K (Frag.In.keeps (by k_asm) (by assumption)) rfl (by k_is) rfl rfl rfl); (case zzc5 => decide); (case zzkB => exact locs rfl); (case zzc2 => exact rfl); (case zzc3 => exact rfl); (case zzc4 => exact rfl); k_whole; intro g L' h' F' N' Xg Tg kb' lt' sz'; (try dsimp only); (try k_fold)))
  have hpg : IsProg g pf dpr sf := hpr.base hps kb'
  have hg61 : g.get? 61 = none := (N' _ (.head _)).2.2
  have hgs : ∀ a ∈ [(61 : Addr)], g.get? a = none := fun a ha => by rw [List.mem_singleton.mp ha]; exact hg61
  have hL61 : L' ∉ [(61 : Addr)] := fun hm => (N' _ (.head _)).2.1 (List.mem_singleton.mp hm).symm
  have kg1 : Kp g1 g := fun b o e => kb' b o (fun hm => by rw [show b = 61 from List.mem_singleton.mp hm, hg1] at e; cases e) (k1 b o e)
  have hTE : HTab h' := HTab.of_ent hpp kb' F' N' (.head _)
  k_steps
  (rename Fr _ _ _ _ => F1)
  refine Halt.out ?_
  refine hS 0 [.ref row] (by omega) (.inl ⟨rfl, rfl⟩) _ _ _ _ _ _ _ (fun b o e => Fr.keep F1 b o (kg1 b o e)) (by walk_at "m room") (by walk_at "m room") hTE ?_
  intro r h2 tk2 kp2 ht2 nx2
  have F2 := fr_kpB F1 hgs hL61 kp2
  have xr2 := NH.of (L := L') nx2 (kp_2 kb' F1.keep) hTE F1.ns
  obtain ⟨led2, N2, AL2⟩ := alive_all (L := L') F2.keep
  have n2 := F2.ns
  clear F1 nx2 hTE kp2
  (try clear N')
  cases hs0 : spec 0 with
  | none =>
    rw [hs0] at xr2
    cases xr2
    k_steps
    (rename Fr _ _ _ _ => F3)
    (rename News _ _ _ _ => N3)
    show Q Value.none _
    (try dsimp only)
    have kp3 := alive_kp AL2 F3 N3 (fun _ h => h)
    refine hret _ _ _ (kp_2 kb' F3.keep) (ht2.kpL n2 kp3) ?_
    unfold rev
    rw [hs0]; rfl
  | some ij =>
    obtain ⟨i, j⟩ := ij
    rw [hs0] at xr2
    obtain ⟨f, d, rfl, hd2, hdn, hdL⟩ := xr2
    k_steps
    (rename Fr _ _ _ _ => F3)
    (rename News _ _ _ _ => N3)
    refine Halt.out ?_
    refine hit_span AL2 n2 hd2 hdL ht2 F3 N3 (fun _ h => h) (Tg.keeps F3.keep).nolimit (by walk_at "m room") ?_
    intro t h4 t1 t2 kk tk4 led4 kp4 ht4 hd4 F4 N4 AL4 n4 mem4
    clear F3 N3 AL2 ht2 hd2 n2
    (try dsimp only)
    k_steps
    (rename Fr _ _ _ _ => F5)
    (rename News _ _ _ _ => N5)
    have kp5 := alive_kp AL4 F5 N5 (fun _ h => h)
    have hb0 := hspec _ _ _ hs0
    have hr0 : rev spec col = revGo spec col 20 none (i, j) := by unfold rev; rw [hs0]
    refine Halt.out ?_
    refine whl_start 0 ?_
    refine whl_inv (by passes_own) (IRev s g L' pf row spec col tc) ?_ 20 _ ?_
    rotate_left
    · refine irev hr0 (by omega) hb0.2 F5 (ht4.kpL n4 kp5) rfl ⟨f, d, rfl, hd4.kpL n4 hdL kp5, hdn, hdL⟩ rfl rfl rfl rfl rfl rfl rfl
    clear F5 N5 AL4 ht4 hd4 n4 kp5 kp4 mem4 hr0 hb0 hs0 hdn hdL
    rintro n _ ⟨fnd, i, j, h, tk, m, vf, vm, t1, t2, rfl, hr, hn, hij, F, ht, xf, xm, m1, m2, m3, m4, m5, m6, m7⟩
    obtain ⟨f, d, rfl, hd2, hdn, hdL⟩ := xm
    have xm : NH L' (some (i, j)) s.heap h (.ref f) := ⟨f, d, rfl, hd2, hdn, hdL⟩
    obtain ⟨led, N, AL⟩ := alive_all (L := L') F.keep
    have n1 := F.ns
    clear hd2 hdn
    rw [map7b m1 m2 m3 m4 m5 m6 m7] at F
    k_steps
    · refine Halt.out ?_
      (rename Fr _ _ _ _ => F1)
      (rename News _ _ _ _ => N1)
      obtain ⟨b, hb⟩ : ∃ b, b = if i = j then j + 1 else j := ⟨_, rfl⟩
      obtain ⟨hb1, hb3⟩ := past hb hij
      refine st_join (JRev s g L' pf row f col tc b led) ?_ ?_
      · k_steps
        all_goals (try dsimp only)
        all_goals (refine' jrev ?zF ?zN ?z1 ?z2 ?z3 ?z4 ?z5 ?z6 ?z7 ?ze; (case zF => k_asm); (case zN => k_asm); (case z1 => rfl); (case z2 => rfl); (case z3 => rfl); (case z4 => rfl); (case z5 => rfl); (case z6 => rfl); (case z7 => rfl); (case ze => first | exact past1 (l := 0) hb (by assumption) rfl | exact past2 hb (by assumption)))
      rintro s' ⟨h1, tk1, m1', tj, vi, rfl, F1', N1', n1', n2', n3', n4', n5', n6', n7'⟩
      clear F1 N1
      (rename Fr _ _ h1 _ => F1)
      (rename News _ _ h1 _ => N1)
      rw [map7b n1' n2' n3' n4' n5' n6' n7'] at F1
      have hs3 : spec (if i = j then j + 1 else j) = spec b := by rw [hb]
      clear hb
      have kp1 := alive_kp AL F1 N1 (fun _ h => h)
      have ht1 := ht.kpL n1 kp1
      have xm1 := xm.kpL n1 kp1
      k_steps
      (rename Fr _ _ _ _ => F0)
      clear kp1 ht1 xm1
      (rename News _ _ _ _ => N0)
      have kp1 := alive_kp AL F0 N0 (fun _ h => h)
      have ht1 := ht.kpL n1 kp1
      have xm1 := xm.kpL n1 kp1
      refine Halt.out ?_
      refine hS b _ (by omega) (.inr ⟨_, rfl⟩) _ _ _ _ _ _ _ (fun b o e => Fr.keep F0 b o (kg1 b o e)) (by walk_at "m room") (by walk_at "m room") ht1 ?_
      intro r h2 tk2 kp2 ht2 nx2
      have F2 := fr_kpB F0 hgs hL61 kp2
      have xf2 := xm1.kp61 kp2
      have xr2 := NH.of (L := L') nx2 (kp_2 kb' F0.keep) ht1 F0.ns
      obtain ⟨led2, N2, AL2⟩ := alive_all (L := L') F2.keep
      have n2 := F2.ns
      clear F0 N0 AL kp1 ht1 xm1 ht n1 xm nx2 kp2
      cases hs2 : spec b with
      | none =>
        rw [hs2] at xr2
        cases xr2
        k_steps
        (show wpAny (model Challenge.pw_mr0087_01 w) _ _ _ _ _)
        k_steps
        (rename Fr _ _ _ _ => F3)
        (rename News _ _ _ _ => N3)
        show Q (Value.ref _) _
        (try dsimp only)
        have kp3 := alive_kp AL2 F3 N3 (fun _ h => h)
        refine hret _ _ _ (kp_2 kb' F3.keep) (ht2.kpL n2 kp3) ?_
        rw [hr, revGo_stop (by omega) (by omega) (by omega) (hs3.trans hs2)]
        exact (xf2.kpL n2 kp3).next
      | some ij2 =>
        obtain ⟨i2, j2⟩ := ij2
        rw [hs2] at xr2
        obtain ⟨f2, d2, rfl, hd2, hdn2, hdL2⟩ := xr2
        k_steps
        (rename Fr _ _ _ _ => F3)
        (rename News _ _ _ _ => N3)
        refine Halt.out ?_
        refine hit_span AL2 n2 hd2 hdL2 ht2 F3 N3 (fun _ h => h) (Tg.keeps F3.keep).nolimit (by walk_at "m room") ?_
        intro t h4 t1' t2' kk tk4 led4 kp4 ht4 hd4 F4 N4 AL4 n4 mem4
        have xf4 := xf2.kpL n2 kp4
        clear F3 N3 AL2 ht2 hd2 n2 xf2
        (try dsimp only)
        k_steps
        (rename Fr _ _ _ _ => F5)
        (rename News _ _ _ _ => N5)
        have kp5 := alive_kp AL4 F5 N5 (fun _ h => h)
        have hb2 := hspec _ _ _ hs2
        refine wendl (n' := n - 1) (by omega) (irev (hr.trans (revGo_next (by omega) (by omega) (by omega) (hs3.trans hs2))) (by omega) hb2.2 F5 (ht4.kpL n4 kp5) (xf4.kpL n4 kp5) ⟨f2, d2, rfl, hd4.kpL n4 hdL2 kp5, hdn2, hdL2⟩ rfl rfl rfl rfl rfl rfl rfl)
    · (rename Fr _ _ _ _ => F3)
      (rename News _ _ _ _ => N3)
      show Q vf _
      (try dsimp only)
      have kp3 := alive_kp AL F3 N3 (fun _ h => h)
      refine hret _ _ _ (kp_2 kb' F3.keep) (ht.kpL n1 kp3) ?_
      rw [hr, revGo_out (by omega)]
      exact (xf.kpL n1 kp3).next
    · (rename Fr _ _ _ _ => F3)
      (rename News _ _ _ _ => N3)
      show Q vf _
      (try dsimp only)
      have kp3 := alive_kp AL F3 N3 (fun _ h => h)
      refine hret _ _ _ (kp_2 kb' F3.keep) (ht.kpL n1 kp3) ?_
      rw [hr, revGo_out (by omega)]
      exact (xf.kpL n1 kp3).next
end
section
open PySem PySem.W PySem.Calls PyProof.Rows PyProof.V PySem.Spec
set_option maxRecDepth 100000
noncomputable def qTold : Str := (Str.ofString "_law_told" ++ (".<locals>." : Str)) ++ Str.ofString "<lambda>"
noncomputable def tabT (k : Addr) : Array Value := #[rawInt 108, rawInt 11, .ref k]
/-- the table of _law_told's own code: empty, or laid -/
noncomputable def TTab (h : Heap) : Prop := ∃ qs, h.get? 83 = some (tabObj qs) ∧ (qs = #[] ∨ ∃ k, qs = tabT k ∧ h.CodeRec (.ref k) qTold ∧ k ≠ 61 ∧ k ≠ 83)
theorem code_off {h : Heap} {k a : Addr} {q : Str} {ps : Array Value} (x : h.CodeRec (.ref k) q) (e : h.get? a = some (tabObj ps)) (hn : ∀ q t, ps[1]? ≠ some (.str q t)) : k ≠ a := fun hq => by
  obtain ⟨c, oc, vs, t, e1, ho, hd, hv⟩ := x
  cases e1
  rw [hq, e] at ho; cases ho; cases hd
  exact hn _ _ hv
theorem tabT_off {qs : Array Value} (h : qs = #[] ∨ ∃ k, qs = tabT k) (q : Str) (t : Tok) : qs[1]? ≠ some (.str q t) := by
  rcases h with rfl | ⟨k, rfl⟩
  · nofun
  · intro e
    rw [show (tabT k)[1]? = some (rawInt 11) from rfl] at e
    cases e
theorem TTab.kp {h h' : Heap} {as : List Addr} (x : TTab h) (h1 : ∀ a ∈ as, a = 61 ∨ ∃ m, h.Ns a m) (kp : KpB as h h') : TTab h' := by
  obtain ⟨qs, e, r⟩ := x
  have ne : ∀ {b : Addr} {o : Obj}, b ≠ 61 → h.get? b = some o → (∀ es ep, o.data ≠ .dict es ep) → b ∉ as := fun n e hd hm => by
    rcases h1 _ hm with q | ⟨m, q⟩
    · exact n q
    · exact ns_ne q e hd rfl
  refine ⟨qs, kp _ _ (ne (by decide) e (by nofun)) e, ?_⟩
  rcases r with r | ⟨k, rfl, c, n1, n2⟩
  · exact .inl r
  · refine .inr ⟨k, rfl, codeRec_kpB c ?_ kp, n1, n2⟩
    obtain ⟨c', oc, vs, t', e, ho, hdt, _⟩ := c
    cases e
    exact ne n1 ho (by rw [hdt]; nofun)
theorem HTab.of_ent2 {h g h' : Heap} {L : Addr} {m : Str → Option Value} {ps qs : Array Value} (hp : ps = #[] ∨ ∃ k1 k2, ps = tabH k1 k2 ∧ h.CodeRec (.ref k1) qHit ∧ h.CodeRec (.ref k2) qHit ∧ k1 ≠ 61 ∧ k2 ≠ 61)
    (e83 : h.get? 83 = some (tabObj qs)) (hqs : qs = #[] ∨ ∃ k, qs = tabT k) (kb : KpB [61, 83] h g) (F : Fr g L h' m) (e61 : h'.get? 61 = some (tabObj ps)) : HTab h' := by
  rcases hp with rfl | ⟨k1, k2, rfl, a, b, c, d⟩
  · exact .inl e61
  · have k : ∀ {x : Addr}, h.CodeRec (.ref x) qHit → x ≠ 61 → h'.CodeRec (.ref x) qHit := fun y n => codeRec_kpB y (fun hm => by
      simp only [List.mem_cons, List.not_mem_nil, or_false] at hm
      rcases hm with q | q
      · exact n q
      · exact code_off y e83 (tabT_off hqs) q) fun b o hb e => F.keep b o (kb b o hb e)
    exact .inr ⟨k1, k2, e61, k a c, k b d, c, d⟩
theorem SearchC.mono {w : World} {g g' : Heap} {f row : Addr} {spec : Nat → Option (Nat × Nat)} (x : SearchC w g f row spec) (k : Kp g g') : SearchC w g' f row spec :=
  fun b args hb ha dp un gd fr s Q E k' => x b args hb ha dp un gd fr s Q E fun a o e => k' a o (k a o e)
/-- what _law_told gives: None, or a new pair -/
noncomputable def ToldR (o : Option (Nat × Nat)) (h h' : Heap) (r : Value) : Prop := match o with
  | none => r = .none
  | some (i, j) => ∃ t t1 t2 kk, r = .ref t ∧ h'.get? t = some { cls := .type "tuple", data := .seq #[.int (i : Int) t1, .int (j : Int) t2] kk } ∧ h.get? t = none
theorem fnAt_base {h g : Heap} {f : Addr} {as : List Addr} (x : FnAt f h) (e : ∀ a ∈ as, ∃ ps, h.get? a = some (tabObj ps)) (kb : KpB as h g) : FnAt f g := by
  obtain ⟨oc, od, fd, sl, e1⟩ := x
  refine ⟨oc, od, fd, sl, kb _ _ (fun hm => ?_) e1⟩
  obtain ⟨ps, e2⟩ := e _ hm
  rw [e2] at e1; cases e1
theorem told_mid {g h1 : Heap} {L d f k sf : Addr} {m : Str → Option Value} {news : List (Addr × Obj)} {hsh : Int} {t : Tok} {fd : FuncData} {sl : Array (Option Value)} {ps : Array Value} (F : Fr g L h1 m) (N : News g L h1 news)
    (md : (d, dictOf [⟨hsh, .str (Str.ofString "search") t, .ref sf⟩] 1) ∈ news) (mf : (f, (⟨.type "function", some d, .func fd, sl⟩ : Obj)) ∈ news) (mt : (83, tabObj (tabT k)) ∈ news) (m61 : (61, tabObj ps) ∈ news)
    (hk : h1.CodeRec (.ref k) qTold) (n1 : k ≠ 61) (n2 : k ≠ 83) (fn : FnAt sf g) : IsProg h1 f d sf ∧ TTab h1 ∧ h1.get? 61 = some (tabObj ps) := by
  obtain ⟨oc, od, f2, s2, c⟩ := fn
  exact ⟨⟨⟨fd, sl, (N _ mf).1⟩, ⟨hsh, t, (N _ md).1⟩, ⟨oc, od, f2, s2, F.keep _ _ c⟩⟩, ⟨tabT k, (N _ mt).1, .inr ⟨k, rfl, hk, n1, n2⟩⟩, (N _ m61).1⟩
theorem told_fresh {h0 g h : Heap} {L t : Addr} {items : Array Value} {kk : Nat} {led : List (Addr × Obj)} (N : News g L h led) (mem : (t, ({ cls := .type "tuple", data := .seq items kk } : Obj)) ∈ led) (kb : KpB [61, 83] h0 g) (ht : HTab h) (tt : TTab h) : h0.get? t = none := by
  have e := (N _ mem).1
  cases q : h0.get? t with
  | none => rfl
  | some o =>
    have := kb t o (fun hm => by
      simp only [List.mem_cons, List.not_mem_nil, or_false] at hm
      rcases hm with r | r
      · obtain ⟨ps, e2⟩ := ht.at
        rw [show t = 61 from r] at e
        rw [show h.get? 61 = _ from e] at e2; cases e2
      · obtain ⟨qs, e2, _⟩ := tt
        rw [show t = 83 from r] at e
        rw [show h.get? 83 = _ from e] at e2; cases e2) q
    rw [(N _ mem).2.2] at this; cases this
end
end
end
end
end
end
theorem start_20 : True := by
  w_top off
  have : True ∧ True := by
    first
    | (walk1; done)
    | exact ⟨trivial, trivial⟩
  trivial
section
local macro_rules | `(tactic| walk_at "setAttr ref") => `(tactic| (k_here; k_dflt (refine' fn_setK ?zzF ?zzN ?zzU ?zzn ?_; (case zzF => k_asm); (case zzN => k_asm); (case zzU => k_updF); (case zzn => first | exact no_span | exact no_search); k_whole); intro d' t' hsh' h' tk' F' N' l1; (try dsimp only at N'); (try k_lt l1); (try k_sweep)))
theorem start_21 : True := by
  w_top off
  have : True ∧ True := by
    first
    | (walk1; done)
    | exact ⟨trivial, trivial⟩
  trivial
section
open PySem PySem.W PySem.Calls PyProof.Rows
set_option maxRecDepth 100000
set_option maxHeartbeats 4000000
theorem fill_R2 : (Challenge.rw_mr0087_01 = Challenge.rw_mr0087_01 ∧ hd.heap_39 = hd.heap_39) → True := by
  k_fill
  intro _; trivial
theorem told_ok (w : World) (sf row : Addr) (spec : Nat → Option (Nat × Nat)) (hspec : ∀ b i j, spec b = some (i, j) → b ≤ i ∧ i ≤ j) (col : Nat) (hcol : col ≤ 7) (tc : Tok)
    (p : Program) (loose : List Str) (mean : ExcName → Option Value) (mg mb : Str → Option Value) (dp un : Nat) (gd : Option (List Code)) (fr : Option (List Env)) (s : Shared) (Q E : Value → Shared → Prop)
    (g1 : Heap) (hg1 : g1.get? 61 = none) (hg2 : g1.get? 83 = none) (k1 : Kp g1 s.heap) (X : (hd.heap_39 w.params).In g1) (T : Top p loose mean mg mb g1) (hdp : dp + 8 < recursionLimit) (hun : un + 140 < cLine) (hT : HTab s.heap) (hTT : TTab s.heap) (hfn : FnAt sf s.heap) (hS : SearchC w g1 sf row spec)
    (hret : ∀ r h' tk', KpB [61, 83] s.heap h' → HTab h' → TTab h' → ToldR (rev spec col) s.heap h' r → Q r { s with heap := h', toks := tk' }) :
    wpAny (model Challenge.pw_mr0087_01 w) (AA dp un gd fr) (call (.ref 88) [.ref sf, .ref row, .int (col : Int) tc]) Q E s := by
  obtain ⟨ps, hps, hpp⟩ := hT.ent
  obtain ⟨qs, hqs, hqq⟩ := hTT
  have hq2 : qs = #[] ∨ ∃ k, qs = tabT k := hqq.imp id fun ⟨k, e, _⟩ => ⟨k, e⟩
  rcases hqq with rfl | ⟨k, rfl, hck, hk1, hk2⟩
  · skip
    (k_dflt (refine' enterT (binds := [(Str.ofString "search", .ref sf), (Str.ofString "row", .ref row), (Str.ofString "col", .int (col : Int) tc)]) [(61, tabObj ps), (83, tabObj #[])] ?zzke ?zzkg ?zzk1 ?zzk3 ?zzk5 ?zzk6 ?zzk7 ?zzk8 ?zzk9 ?zzkB ?_ ?zzc2 ?zzc3 ?zzc4 ?zzc5; (case zzke => (first | assumption | (intro q9 hq9; simp only [List.mem_cons, List.mem_singleton, List.not_mem_nil, or_false] at hq9; first | (subst hq9; assumption) | (rcases hq9 with hq9 | hq9 <;> (subst hq9; assumption))))); (case zzkg => (intro q9 hq9; simp only [List.mem_cons, List.mem_singleton, List.not_mem_nil, or_false] at hq9; first | (subst hq9; assumption) | (rcases hq9 with hq9 | hq9 <;> (subst hq9; assumption)))); (case zzk1 => assumption); (case zzk3 => k_asm); (case zzk5 => k_asm); (case zzk6 => k_is); (case zzk7 => k_is); (case zzk8 => walk_at "m room"); (case zzk9 => first | exact BindsTo.of_eq rfl | exact binds_K (by k_in) rfl (by k_is) rfl rfl rfl | exact binds_K (Frag.In.keeps (by k_asm) (by assumption)) rfl (by k_is) rfl rfl rfl); (case zzc5 => decide); (case zzkB => exact locs rfl); (case zzc2 => exact rfl); (case zzc3 => exact rfl); (case zzc4 => exact rfl); k_whole; intro g L' h' F' N' Xg Tg kb' lt' sz'; (try dsimp only); (try k_fold)))
    have hcode : CodeHd g 87 83 := codeHd_of_K Xg (by kernel_rfl)
    have hg61 : g.get? 61 = none := (N' _ (.head _)).2.2
    have lt9 : @LT.lt Nat _ 61 L' := lt' _ (.head _)
    have lt8 : @LT.lt Nat _ 83 L' := lt' _ (.tail _ (.head _))
    k_steps
    (rename Fr _ _ _ _ => F1)
    (rename News _ _ _ _ => N1)
    have fng : FnAt sf g := fnAt_base hfn (fun a ha => by
      simp only [List.map_cons, List.map_nil, List.mem_cons, List.not_mem_nil, or_false] at ha
      rcases ha with r | r
      · rw [r]; exact ⟨_, hps⟩
      · rw [r]; exact ⟨_, hqs⟩) kb'
    have kg1 : Kp g1 g := fun b o e => kb' b o (fun hm => by
      simp only [List.map_cons, List.map_nil, List.mem_cons, List.not_mem_nil, or_false] at hm
      rcases hm with r | r
      · rw [r, hg1] at e; cases e
      · rw [r, hg2] at e; cases e) (k1 b o e)
    obtain ⟨pr1, tt1, e61⟩ : IsProg _ _ _ sf ∧ TTab _ ∧ _ := by
      (refine' told_mid F1 N1 ?zzmd ?zzmf ?zzmt ?zzm61 ?zzhk ?zzn1 ?zzn2 fng; (case zzmd => k_mem); (case zzmf => k_mem); (case zzmt => k_mem); (case zzm61 => k_mem); (case zzhk => exact codeRec_news (by k_asm) (by k_mem) (by assumption) (by assumption)); (case zzn1 => k_ne); (case zzn2 => k_ne))
    have ht1 := HTab.of_ent2 hpp hqs hq2 kb' F1 e61
    have hgs : ∀ a ∈ [(61 : Addr)], g.get? a = none := fun a ha => by rw [List.mem_singleton.mp ha]; exact hg61
    have hL61 : L' ∉ [(61 : Addr)] := fun hm => by
      have := List.mem_singleton.mp hm
      (have q9 : @Eq Nat L' 61 := this); omega
    refine Halt.out ?_
    refine rev_ok w _ _ sf row spec hspec col hcol _ p loose mean mg mb _ _ _ _ _ _ _ g hg61 F1.keep Xg Tg (by walk_at "m room") (by walk_at "m room") ht1 pr1 (hS.mono kg1) ?_
    intro r h2 tk2 kp2 ht2 nx2
    have F2 := fr_kpB F1 hgs hL61 kp2
    have tt2 := tt1.kp (fun a ha => .inl (List.mem_singleton.mp ha)) kp2
    have nf1 := F1.ns
    obtain ⟨led2, N2, AL2⟩ := alive_all (L := L') F2.keep
    have n2 := F2.ns
    clear F1 N1 pr1 tt1 ht1 kp2
    (try clear N')
    cases hs0 : rev spec col with
    | none =>
      rw [hs0] at nx2
      cases nx2
      k_steps
      (rename Fr _ _ _ _ => F3)
      (rename News _ _ _ _ => N3)
      show Q Value.none _
      (try dsimp only)
      have kp3 := alive_kp AL2 F3 N3 (fun _ h => h)
      refine hret _ _ _ (fun b o hb e => F3.keep b o (kb' b o hb e)) (ht2.kpL n2 kp3) (tt2.kp (fun a ha => .inr ⟨_, (List.mem_singleton.mp ha) ▸ n2⟩) kp3) ?_
      rw [hs0]; rfl
    | some ij =>
      obtain ⟨i, j⟩ := ij
      rw [hs0] at nx2
      obtain ⟨f, d, rfl, hd2, hdn⟩ := nx2
      have hdL := ns_off nf1 hdn
      k_steps
      (rename Fr _ _ _ _ => F3)
      (rename News _ _ _ _ => N3)
      refine Halt.out ?_
      refine hit_span AL2 n2 hd2 hdL ht2 F3 N3 (fun _ h => h) (Tg.keeps F3.keep).nolimit (by walk_at "m room") ?_
      intro t h4 t1 t2 kk tk4 led4 kp4 ht4 hd4 F4 N4 AL4 n4 mem4
      have tt4 := tt2.kp (fun a ha => .inr ⟨_, (List.mem_singleton.mp ha) ▸ n2⟩) kp4
      show Q (Value.ref _) _
      (try dsimp only)
      refine hret _ _ _ (fun b o hb e => F4.keep b o (kb' b o hb e)) ht4 tt4 ?_
      rw [hs0]
      exact ⟨t, t1, t2, kk, rfl, (N4 _ mem4).1, told_fresh N4 mem4 kb' ht4 tt4⟩
  · skip
    (k_dflt (refine' enterT (binds := [(Str.ofString "search", .ref sf), (Str.ofString "row", .ref row), (Str.ofString "col", .int (col : Int) tc)]) [(61, tabObj ps), (83, tabObj (tabT k))] ?zzke ?zzkg ?zzk1 ?zzk3 ?zzk5 ?zzk6 ?zzk7 ?zzk8 ?zzk9 ?zzkB ?_ ?zzc2 ?zzc3 ?zzc4 ?zzc5; (case zzke => (first | assumption | (intro q9 hq9; simp only [List.mem_cons, List.mem_singleton, List.not_mem_nil, or_false] at hq9; first | (subst hq9; assumption) | (rcases hq9 with hq9 | hq9 <;> (subst hq9; assumption))))); (case zzkg => (intro q9 hq9; simp only [List.mem_cons, List.mem_singleton, List.not_mem_nil, or_false] at hq9; first | (subst hq9; assumption) | (rcases hq9 with hq9 | hq9 <;> (subst hq9; assumption)))); (case zzk1 => assumption); (case zzk3 => k_asm); (case zzk5 => k_asm); (case zzk6 => k_is); (case zzk7 => k_is); (case zzk8 => walk_at "m room"); (case zzk9 => first | exact BindsTo.of_eq rfl | exact binds_K (by k_in) rfl (by k_is) rfl rfl rfl | exact binds_K (Frag.In.keeps (by k_asm) (by assumption)) rfl (by k_is) rfl rfl rfl); (case zzc5 => decide); (case zzkB => exact locs rfl); (case zzc2 => exact rfl); (case zzc3 => exact rfl); (case zzc4 => exact rfl); k_whole; intro g L' h' F' N' Xg Tg kb' lt' sz'; (try dsimp only); (try k_fold)))
    have hcode : CodeHd g 87 83 := codeHd_of_K Xg (by kernel_rfl)
    have hg61 : g.get? 61 = none := (N' _ (.head _)).2.2
    have lt9 : @LT.lt Nat _ 61 L' := lt' _ (.head _)
    have lt8 : @LT.lt Nat _ 83 L' := lt' _ (.tail _ (.head _))
    unfold tabT at N'
    k_steps
    (rename Fr _ _ _ _ => F1)
    (rename News _ _ _ _ => N1)
    have fng : FnAt sf g := fnAt_base hfn (fun a ha => by
      simp only [List.map_cons, List.map_nil, List.mem_cons, List.not_mem_nil, or_false] at ha
      rcases ha with r | r
      · rw [r]; exact ⟨_, hps⟩
      · rw [r]; exact ⟨_, hqs⟩) kb'
    have kg1 : Kp g1 g := fun b o e => kb' b o (fun hm => by
      simp only [List.map_cons, List.map_nil, List.mem_cons, List.not_mem_nil, or_false] at hm
      rcases hm with r | r
      · rw [r, hg1] at e; cases e
      · rw [r, hg2] at e; cases e) (k1 b o e)
    obtain ⟨pr1, tt1, e61⟩ : IsProg _ _ _ sf ∧ TTab _ ∧ _ := by
      (refine' told_mid F1 N1 ?zzmd ?zzmf ?zzmt ?zzm61 ?zzhk ?zzn1 ?zzn2 fng; (case zzmd => k_mem); (case zzmf => k_mem); (case zzmt => k_mem); (case zzm61 => k_mem); (case zzhk => exact codeRec_kpB hck (fun hm => by simp only [List.map_cons, List.map_nil, List.mem_cons, List.not_mem_nil, or_false] at hm; rcases hm with r | r; exact hk1 r; exact hk2 r) (fun b o hb e => F1.keep b o (kb' b o hb e))); (case zzn1 => exact hk1); (case zzn2 => exact hk2))
    have ht1 := HTab.of_ent2 hpp hqs hq2 kb' F1 e61
    have hgs : ∀ a ∈ [(61 : Addr)], g.get? a = none := fun a ha => by rw [List.mem_singleton.mp ha]; exact hg61
    have hL61 : L' ∉ [(61 : Addr)] := fun hm => by
      have := List.mem_singleton.mp hm
      (have q9 : @Eq Nat L' 61 := this); omega
    refine Halt.out ?_
    refine rev_ok w _ _ sf row spec hspec col hcol _ p loose mean mg mb _ _ _ _ _ _ _ g hg61 F1.keep Xg Tg (by walk_at "m room") (by walk_at "m room") ht1 pr1 (hS.mono kg1) ?_
    intro r h2 tk2 kp2 ht2 nx2
    have F2 := fr_kpB F1 hgs hL61 kp2
    have tt2 := tt1.kp (fun a ha => .inl (List.mem_singleton.mp ha)) kp2
    have nf1 := F1.ns
    obtain ⟨led2, N2, AL2⟩ := alive_all (L := L') F2.keep
    have n2 := F2.ns
    clear F1 N1 pr1 tt1 ht1 kp2
    (try clear N')
    cases hs0 : rev spec col with
    | none =>
      rw [hs0] at nx2
      cases nx2
      k_steps
      (rename Fr _ _ _ _ => F3)
      (rename News _ _ _ _ => N3)
      show Q Value.none _
      (try dsimp only)
      have kp3 := alive_kp AL2 F3 N3 (fun _ h => h)
      refine hret _ _ _ (fun b o hb e => F3.keep b o (kb' b o hb e)) (ht2.kpL n2 kp3) (tt2.kp (fun a ha => .inr ⟨_, (List.mem_singleton.mp ha) ▸ n2⟩) kp3) ?_
      rw [hs0]; rfl
    | some ij =>
      obtain ⟨i, j⟩ := ij
      rw [hs0] at nx2
      obtain ⟨f, d, rfl, hd2, hdn⟩ := nx2
      have hdL := ns_off nf1 hdn
      k_steps
      (rename Fr _ _ _ _ => F3)
      (rename News _ _ _ _ => N3)
      refine Halt.out ?_
      refine hit_span AL2 n2 hd2 hdL ht2 F3 N3 (fun _ h => h) (Tg.keeps F3.keep).nolimit (by walk_at "m room") ?_
      intro t h4 t1 t2 kk tk4 led4 kp4 ht4 hd4 F4 N4 AL4 n4 mem4
      have tt4 := tt2.kp (fun a ha => .inr ⟨_, (List.mem_singleton.mp ha) ▸ n2⟩) kp4
      show Q (Value.ref _) _
      (try dsimp only)
      refine hret _ _ _ (fun b o hb e => F4.keep b o (kb' b o hb e)) ht4 tt4 ?_
      rw [hs0]
      exact ⟨t, t1, t2, kk, rfl, (N4 _ mem4).1, told_fresh N4 mem4 kb' ht4 tt4⟩
end
section
open PySem PySem.W PySem.Calls PyProof.Rows PyProof.V PySem.Spec
set_option maxRecDepth 100000
theorem compEnd_mono {h₀ : Heap} {L I C D : Addr} {m : Str → Option Value} {s₁ s₂ : Shared} {oI oC oD : Obj} {S : List (Addr × Obj) → Prop} {r r' : Value → List (Addr × Obj) → Prop} {y : Value} (h : ∀ news', S news' → r y news' → r' y news')
    (x : LCg.CompEnd h₀ L m s₁ I oI C oC D oD S r y s₂) : LCg.CompEnd h₀ L m s₁ I oI C oC D oD S r' y s₂ := by
  obtain ⟨h', tk, news', e, F, N, off, hS, q⟩ := x
  exact ⟨h', tk, news', e, F, N, off, hS, h _ hS q⟩
/-- a list comprehension: one turn for all turns -/
theorem comp_each {prog : Program} {w : World} {A : Around} {h₀ : Heap} {L : Addr} {m : Str → Option Value} {env : Env} {elt : PySem.Expr} {x : Str} {scope : Scope} {cl : List (Str × Addr)} {s : Shared} {S : List (Addr × Obj) → Prop} {P : Nat → Value → Prop}
    {Fin : List Value → List (Addr × Obj) → Prop} {n : Nat} {news0 : List (Addr × Obj)} (G : Nat → Value → List (Addr × Obj) → Prop) (mono : ∀ j y a b, (∀ p ∈ a, p ∈ b) → G j y a → G j y b) (S0 : S news0)
    (turn : ∀ i, i < n → ∀ news, (∀ p ∈ news0, p ∈ news) → S news → ∀ v I oI C oC D m₂ h tk (E' : Value → Shared → Prop) ys, P i v → LCg.NsObj oC m₂ → m₂ x = some v → Fr h₀ L h m → News h₀ L h ((I, oI) :: (C, oC) :: (D, LCg.lst ys) :: news) → LCg.Off3 I C D news →
      ((@Ne Nat I C) ∧ (@Ne Nat I D) ∧ (@Ne Nat C D)) → wpAny (model prog w) A (eval elt (compEnvC scope cl C env)) (LCg.CompEnd h₀ L m { s with heap := h, toks := tk } I oI C oC D (LCg.lst ys) S (fun y news' => (∀ p ∈ news, p ∈ news') ∧ G i y news')) E' { s with heap := h, toks := tk })
    (fin : ∀ ys news, ys.length = n → (∀ j y, ys[j]? = some y → G j y news) → (∀ p ∈ news0, p ∈ news) → S news → Fin ys news) :
    LCg.CompRest prog w A h₀ L m env elt x scope cl s S P Fin n 0 [] news0 := by
  have key : ∀ k i ys news, i + k = n → ys.length = i → (∀ j y, ys[j]? = some y → G j y news) → (∀ p ∈ news0, p ∈ news) → S news → LCg.CompRest prog w A h₀ L m env elt x scope cl s S P Fin k i ys news := by
    intro k
    induction k with
    | zero => intro i ys news hi hl hg hs hS; exact LCg.CompRest.zero (fin ys news (by omega) hg hs hS)
    | succ k ih =>
      intro i ys news hi hl hg hs hS
      refine LCg.CompRest.succ ?_
      intro v I oI C oC D m₂ h tk E' hp hC hx F N off ne
      refine wpAny_mono (turn i (by omega) news hs hS v I oI C oC D m₂ h tk E' ys hp hC hx F N off ne) (fun y s₂ hy => compEnd_mono (fun news' hS' hq => ?_) hy) fun _ _ e => e
      refine ih (i + 1) (ys ++ [y]) news' (by omega) (by rw [List.length_append, hl]; rfl) (fun j z hz => ?_) (fun p hp => hq.1 p (hs p hp)) hS'
      by_cases hj : j < ys.length
      · rw [List.getElem?_append_left hj] at hz
        exact mono _ _ _ _ hq.1 (hg j z hz)
      · rw [List.getElem?_append_right (by omega)] at hz
        have hj2 : j = i := by
          rcases Nat.lt_or_ge (j - ys.length) 1 with q | q
          · omega
          · rw [List.getElem?_eq_none (by simpa using q)] at hz; cases hz
        subst hj2
        rw [hl, Nat.sub_self] at hz
        cases hz
        exact hq.2
  exact key n 0 [] news0 (by omega) rfl (fun j y h => by simp at h) (fun _ h => h) S0
theorem srcAt_mono {h₀ : Heap} {ax : Addr} {its : Array Value} {a b : List (Addr × Obj)} (h : ∀ p ∈ a, p ∈ b) (x : LCg.SrcAt h₀ ax its a) : LCg.SrcAt h₀ ax its b := by
  rcases x with x | ⟨o, hm, r⟩
  · exact .inl x
  · exact .inr ⟨o, h _ hm, r⟩
theorem news_more {h₀ h : Heap} {L : Addr} {a b c : Addr × Obj} {news0 news : List (Addr × Obj)} (hs : ∀ p ∈ news0, p ∈ news) (N : News h₀ L h (a :: b :: c :: news)) : News h₀ L h (a :: b :: c :: (news0 ++ news)) := fun p hp => N p (by
  simp only [List.mem_cons, List.mem_append] at hp ⊢
  rcases hp with h | h | h | h | h
  · exact .inl h
  · exact .inr (.inl h)
  · exact .inr (.inr (.inl h))
  · exact .inr (.inr (.inr (hs p h)))
  · exact .inr (.inr (.inr h)))
section
variable {prog : Program} {w : World} {A : Around} {E : Value → Shared → Prop} {s : Shared} {l : Addr} {h₀ : Heap} {L : Addr} {news : List (Addr × Obj)}
  {value slice : PySem.Expr} {k : Int} {u : Tok} {Q : Value → Shared → Prop}
end
theorem sum_pick {prog : Program} {w : World} {A : Around} {E : Value → Shared → Prop} {s : Shared} {h₀ : Heap} {L l : Addr} {m : Str → Option Value} {news : List (Addr × Obj)} {vs : List Value} {ns : List Int} {lo hi st : Option Int} {k : Nat} {Q : Value → Shared → Prop}
    (hh : A.handled = none) (F : Fr h₀ L s.heap m) (N : News h₀ L s.heap news) (hm : (l, ({ cls := .type "list", data := .seq (slicePick vs.toArray lo hi st) k } : Obj)) ∈ news) (hi' : IntsAre vs ns)
    (h : ∀ h' tk t' n, Fr h₀ L h' m → News h₀ L h' news → Q (.int n t') { s with heap := h', toks := tk }) : wpAny (model prog w) A (call (.builtin "sum") [.ref l]) Q E s :=
  sumK (vs := (slicePick vs.toArray lo hi st).toList) hh F N ⟨_, (N _ hm).1, rfl, _, by rw [Array.toArray_toList]⟩ (hi'.pick lo hi st) fun h' tk t' F' N' => h h' tk t' _ F' N'
/-- a turn that gave a plain value -/
theorem turn_plain {h₀ : Heap} {L I C D : Addr} {m : Str → Option Value} {s₁ : Shared} {oI oC oD : Obj} {S : List (Addr × Obj) → Prop} {r : Value → List (Addr × Obj) → Prop} {y : Value} {h' : Heap} {tk : Nat} {all news : List (Addr × Obj)}
    (F : Fr h₀ L h' m) (N : News h₀ L h' all) (sub : ∀ p ∈ (I, oI) :: (C, oC) :: (D, oD) :: news, p ∈ all) (off : LCg.Off3 I C D news) (hS : S news) (hr : r y news) :
    LCg.CompEnd h₀ L m s₁ I oI C oC D oD S r y { s₁ with heap := h', toks := tk } := LCg.CompEnd.intro F N news sub off hS hr
theorem news_cut {h₀ h : Heap} {L : Addr} {a : Addr × Obj} {news0 news : List (Addr × Obj)} (hs : ∀ p ∈ news0, p ∈ news) (N : News h₀ L h (a :: news)) : News h₀ L h (a :: news0) := fun p hp => N p (by
  rcases List.mem_cons.mp hp with h | h
  · rw [h]; exact .head _
  · exact .tail _ (hs p h))
theorem peel {α : Type} {l : List α} {n : Nat} (h : l.length = n + 1) : ∃ a t, l = a :: t ∧ t.length = n := by
  cases l with
  | nil => cases h
  | cons a t => exact ⟨a, t, rfl, Nat.succ.inj h⟩
theorem list2 {α : Type} {l : List α} (h : l.length = 2) : ∃ a b, l = [a, b] := by
  obtain ⟨a, l1, e1, h1⟩ := peel h
  obtain ⟨b, l2, e2, h2⟩ := peel h1
  exact ⟨a, b, by rw [e1, e2, List.length_eq_zero_iff.mp h2]⟩
theorem list6 {α : Type} {l : List α} (h : l.length = 6) : ∃ a b c d e f, l = [a, b, c, d, e, f] := by
  obtain ⟨a, l1, e1, h1⟩ := peel h
  obtain ⟨b, l2, e2, h2⟩ := peel h1
  obtain ⟨c, l3, e3, h3⟩ := peel h2
  obtain ⟨d, l4, e4, h4⟩ := peel h3
  obtain ⟨e, f, e5⟩ := list2 h4
  exact ⟨a, b, c, d, e, f, by rw [e1, e2, e3, e4, e5]⟩
theorem list7 {α : Type} {l : List α} (h : l.length = 7) : ∃ a b c d e f g, l = [a, b, c, d, e, f, g] := by
  obtain ⟨a, l1, e1, h1⟩ := peel h
  obtain ⟨b, c, d, e, f, g, e2⟩ := list6 h1
  exact ⟨a, b, c, d, e, f, g, by rw [e1, e2]⟩
theorem ints9 {ys : List Value} (hl : ys.length = 9) (hg : ∀ (j : Nat) (y : Value), ys[j]? = some y → ∃ n t, y = .int n t) :
    ∃ n0 n1 n2 n3 n4 n5 n6 n7 n8 t0 t1 t2 t3 t4 t5 t6 t7 t8, ys = [.int n0 t0, .int n1 t1, .int n2 t2, .int n3 t3, .int n4 t4, .int n5 t5, .int n6 t6, .int n7 t7, .int n8 t8] := by
  obtain ⟨y0, l1, e1, h1⟩ := peel hl
  obtain ⟨y1, l2, e2, h2⟩ := peel h1
  obtain ⟨y2, y3, y4, y5, y6, y7, y8, e3⟩ := list7 h2
  subst e3; subst e2; subst e1
  · clear hl h1 h2
    obtain ⟨n0, t0, rfl⟩ := hg 0 y0 rfl
    obtain ⟨n1, t1, rfl⟩ := hg 1 y1 rfl
    obtain ⟨n2, t2, rfl⟩ := hg 2 y2 rfl
    obtain ⟨n3, t3, rfl⟩ := hg 3 y3 rfl
    obtain ⟨n4, t4, rfl⟩ := hg 4 y4 rfl
    obtain ⟨n5, t5, rfl⟩ := hg 5 y5 rfl
    obtain ⟨n6, t6, rfl⟩ := hg 6 y6 rfl
    obtain ⟨n7, t7, rfl⟩ := hg 7 y7 rfl
    obtain ⟨n8, t8, rfl⟩ := hg 8 y8 rfl
    exact ⟨_, _, _, _, _, _, _, _, _, _, _, _, _, _, _, _, _, _, rfl⟩
/-- a turn that gave a new object -/
theorem turn_new {h₀ : Heap} {L I C D l : Addr} {m : Str → Option Value} {s₁ : Shared} {oI oC oD o : Obj} {S : List (Addr × Obj) → Prop} {r : Value → List (Addr × Obj) → Prop} {y : Value} {h' : Heap} {tk : Nat} {rest news : List (Addr × Obj)}
    (F : Fr h₀ L h' m) (N : News h₀ L h' ([(l, o)] ++ ((I, oI) :: (C, oC) :: (D, oD) :: rest))) (sub : ∀ p ∈ news, p ∈ rest) (ne : ∀ q ∈ ((I, oI) :: (C, oC) :: (D, oD) :: rest), ∀ p ∈ [(l, o)], q.1 ≠ p.1) (off : LCg.Off3 I C D news) (hS : S ((l, o) :: news)) (hr : r y ((l, o) :: news)) :
    LCg.CompEnd h₀ L m s₁ I oI C oC D oD S r y { s₁ with heap := h', toks := tk } := by
  refine LCg.CompEnd.intro F N ((l, o) :: news) (fun p hp => ?_) (LCg.Off3.of fun p hp => ?_) hS hr
  · simp only [List.mem_cons, List.mem_append, List.not_mem_nil, or_false] at hp ⊢
    rcases hp with h | h | h | h | h
    · exact .inr (.inl h)
    · exact .inr (.inr (.inl h))
    · exact .inr (.inr (.inr (.inl h)))
    · exact .inl h
    · exact .inr (.inr (.inr (.inr (sub p h))))
  · rcases List.mem_cons.mp hp with h | h
    · rw [h]; exact ⟨(ne _ (.head _) _ (.head _)).symm, (ne _ (.tail _ (.head _)) _ (.head _)).symm, (ne _ (.tail _ (.tail _ (.head _))) _ (.head _)).symm⟩
    · exact off.mem p h
theorem int_item {vs : Array Value} {i : Nat} {v : Value} (h : ∀ v ∈ vs.toList, ∃ n t, v = .int n t) (e : vs[i]? = some v) : ∃ n t, v = .int n t := h v (by
  rw [Array.getElem?_eq_some_iff] at e
  obtain ⟨hi, e⟩ := e
  rw [← e]; exact Array.getElem_mem_toList hi)
/-- off all these places -/
noncomputable def OffN (l : Addr) : List (Addr × Obj) → Prop
  | [] => True
  | p :: r => (@Ne Nat p.1 l) ∧ OffN l r
theorem OffN.of {l : Addr} : ∀ {ps : List (Addr × Obj)}, (∀ p ∈ ps, p.1 ≠ l) → OffN l ps
  | [], _ => trivial
  | _ :: _, h => ⟨h _ List.mem_cons_self, OffN.of fun p hp => h p (List.mem_cons_of_mem _ hp)⟩
theorem off1_mem {D : Addr} : ∀ {l : List (Addr × Obj)}, LCg.Off1 D l → ∀ p ∈ l, p.1 ≠ D
  | [], _, _, h => nomatch h
  | _ :: _, x, p, h => by
    rcases List.mem_cons.mp h with rfl | h
    · exact x.1
    · exact off1_mem x.2 p h
theorem off1_cut {D : Addr} {news0 news : List (Addr × Obj)} (hs : ∀ p ∈ news0, p ∈ news) (x : LCg.Off1 D news) : OffN D news0 := .of fun p hp => off1_mem x p (hs p hp)
/-- a new list of three ints with a property, off the places of base -/
noncomputable def Has3 (R : Int → Int → Int → Prop) (base : List (Addr × Obj)) (y : Value) (news : List (Addr × Obj)) : Prop := ∃ l a b c o, y = .ref l ∧ (l, o) ∈ news ∧ List3 a b c o ∧ R a b c ∧ OffN l base
theorem Has3.mono {R : Int → Int → Int → Prop} {base : List (Addr × Obj)} {y : Value} {a b : List (Addr × Obj)} (h : ∀ p ∈ a, p ∈ b) (x : Has3 R base y a) : Has3 R base y b := by
  obtain ⟨l, x1, x2, x3, o, e, hm, r⟩ := x
  exact ⟨l, x1, x2, x3, o, e, h _ hm, r⟩
theorem comp_three {prog : Program} {w : World} {A : Around} {h₀ : Heap} {L : Addr} {m : Str → Option Value} {env : Env} {elt : PySem.Expr} {x : Str} {scope : Scope} {cl : List (Str × Addr)} {s : Shared} {S : List (Addr × Obj) → Prop} {P : Nat → Value → Prop}
    {Fin : List Value → List (Addr × Obj) → Prop} {n : Nat} {news0 : List (Addr × Obj)} (R : Int → Int → Int → Prop) (S0 : S news0)
    (turn : ∀ i, i < n → ∀ news, (∀ p ∈ news0, p ∈ news) → S news → ∀ v I oI C oC D m₂ h tk (E' : Value → Shared → Prop) ys, P i v → LCg.NsObj oC m₂ → m₂ x = some v → Fr h₀ L h m → News h₀ L h ((I, oI) :: (C, oC) :: (D, LCg.lst ys) :: news) → LCg.Off3 I C D news →
      ((@Ne Nat I C) ∧ (@Ne Nat I D) ∧ (@Ne Nat C D)) → wpAny (model prog w) A (eval elt (compEnvC scope cl C env)) (LCg.CompEnd h₀ L m { s with heap := h, toks := tk } I oI C oC D (LCg.lst ys) S (fun y news' => (∀ p ∈ news, p ∈ news') ∧ Has3 R news0 y news')) E' { s with heap := h, toks := tk })
    (fin : ∀ ys news, ys.length = n → (∀ (j : Nat) y, ys[j]? = some y → Has3 R news0 y news) → (∀ p ∈ news0, p ∈ news) → S news → Fin ys news) :
    LCg.CompRest prog w A h₀ L m env elt x scope cl s S P Fin n 0 [] news0 := comp_each (fun _ y news => Has3 R news0 y news) (fun _ _ _ _ h x => x.mono h) S0 turn fin
theorem pre_ways {h₀ h : Heap} {L wl w0 w1 : Addr} {news : List (Addr × Obj)} {a0 b0 c0 a1 b1 c1 : Int} {o0 o1 : Obj} (N : News h₀ L h news) (m : (wl, LCg.lst [.ref w0, .ref w1]) ∈ news) (m0 : (w0, o0) ∈ news) (m1 : (w1, o1) ∈ news)
    (h0 : List3 a0 b0 c0 o0) (i0 : IsWay a0 b0 c0) (h1 : List3 a1 b1 c1 o1) (i1 : IsWay a1 b1 c1) : PreWays h wl w0 w1 := by
  obtain ⟨ta, tb, tc, k, rfl⟩ := h0
  obtain ⟨sa, sb, sc, k2, rfl⟩ := h1
  exact ⟨⟨_, (N _ m).1, rfl, _, rfl⟩, ⟨a0, b0, c0, ta, tb, tc, ⟨_, (N _ m0).1, rfl, _, rfl⟩, i0⟩, ⟨a1, b1, c1, sa, sb, sc, ⟨_, (N _ m1).1, rfl, _, rfl⟩, i1⟩⟩
inductive Cols (h : Heap) : List Addr → List (Int × Int × Int) → Prop
  | nil : Cols h [] []
  | cons {r : Addr} {a b c : Int} {rs : List Addr} {cs : List (Int × Int × Int)} : Pre3 r a b c h → IsCol a b c → Cols h rs cs → Cols h (r :: rs) ((a, b, c) :: cs)
theorem Cols.len {h : Heap} {rs : List Addr} {cs : List (Int × Int × Int)} (x : Cols h rs cs) : rs.length = cs.length := by
  induction x with
  | nil => rfl
  | cons _ _ _ ih => simp [ih]
theorem IsWay.col {a b c : Int} (x : IsWay a b c) : IsCol a b c := by
  obtain ⟨h1, h2, h3, h4, h5, h6, _⟩ := x
  exact ⟨h1, by omega, h3, by omega, h5, by omega⟩
theorem pre3_of {h₀ h : Heap} {L r : Addr} {news : List (Addr × Obj)} {a b c : Int} {o : Obj} (N : News h₀ L h news) (m : (r, o) ∈ news) (h3 : List3 a b c o) : Pre3 r a b c h := by
  obtain ⟨ta, tb, tc, k, rfl⟩ := h3
  exact ⟨ta, tb, tc, ⟨_, (N _ m).1, rfl, _, rfl⟩⟩
theorem list_mem {h₀ h : Heap} {L l : Addr} {news : List (Addr × Obj)} {its : Array Value} {k : Nat} (N : News h₀ L h news) (m : (l, ({ cls := .type "list", data := .seq its k } : Obj)) ∈ news) : h.IsList l its := ⟨_, (N _ m).1, rfl, _, rfl⟩
end
section
open PySem PySem.W PySem.Calls PyProof.Rows PyProof.V PySem.Spec
set_option maxRecDepth 100000
/-- the law's own statements, and its scope -/
noncomputable def lawBody : List Stmt := match Challenge.pw_mr0087_01.main.body.getLast? with
  | some (.FunctionDef _ _ b _ _ _ _ _ _ _) => b
  | _ => []
noncomputable def lawScope : Scope := match Challenge.pw_mr0087_01.main.body.getLast? with
  | some (.FunctionDef _ _ _ _ _ _ sc _ _ _) => sc
  | _ => default
noncomputable abbrev lawEnv (L fa : Addr) (cd : Value) : Env := envOfC (Str.ofString "law") lawScope L fa cd
theorem law_len : lawBody.length = 12 := by decide +kernel
end
section
open PySem PySem.W PySem.Calls PyProof.Rows PyProof.V PySem.Spec
set_option maxRecDepth 100000
/-- the law's walk from its statement k on -/
noncomputable abbrev Rest (k : Nat) (w : World) (dp un : Nat) (gd : Option (List Code)) (fr : Option (List Env)) (L fa : Addr) (cd : Value) (Q : Flow → Shared → Prop) (E : Value → Shared → Prop) (s : Shared) : Prop :=
  wpAny (model Challenge.pw_mr0087_01 w) ((AA dp un gd fr).deeper (lawEnv L fa cd)) (execs (lawBody.drop k) (lawEnv L fa cd)) Q E s
/-- lists of three ints at these places, in the ledger -/
structure LCols (news : List (Addr × Obj)) (rs : List Addr) (cs : List (Int × Int × Int)) : Prop where
  len : rs.length = cs.length
  each : ∀ (i : Nat) (r : Addr), rs[i]? = some r → ∃ a b c o, cs[i]? = some (a, b, c) ∧ (r, o) ∈ news ∧ List3 a b c o ∧ IsCol a b c
theorem LCols.pre {g h : Heap} {L cl : Addr} {news : List (Addr × Obj)} {rs : List Addr} {cs : List (Int × Int × Int)} (x : LCols news rs cs) (N : News g L h news) (l : h.IsList cl (rs.map Value.ref).toArray) (few : cs.length ≤ 1000) : PreCols cl rs cs h :=
  ⟨l, x.len, fun i r e => by
    obtain ⟨a, b, c, o, h1, h2, h3, h4⟩ := x.each i r e
    exact ⟨a, b, c, h1, pre3_of N h2 h3, h4⟩, few⟩
theorem lcols_of {news : List (Addr × Obj)} (cs : List (Int × Int × Int)) : ∀ (ys : List Value), ys.length = cs.length →
    (∀ (j : Nat) y, ys[j]? = some y → ∃ l o a b c, y = .ref l ∧ (l, o) ∈ news ∧ List3 a b c o ∧ IsCol a b c ∧ cs[j]? = some (a, b, c)) → ∃ rs, ys = rs.map Value.ref ∧ LCols news rs cs := by
  induction cs with
  | nil =>
    intro ys hl _
    cases List.length_eq_zero_iff.mp hl
    exact ⟨[], rfl, rfl, fun i r e => by cases e⟩
  | cons c cs ih =>
    intro ys hl h
    obtain ⟨y, ys, rfl, hl'⟩ := peel hl
    obtain ⟨rs, e, x⟩ := ih ys hl' fun j y hy => h (j + 1) y hy
    obtain ⟨l, o, p, q, t, e1, m1, h1, h2, h3⟩ := h 0 y rfl
    refine ⟨l :: rs, by rw [e, e1]; rfl, by simp [x.len], fun i r hr => ?_⟩
    cases i with
    | zero => cases hr; exact ⟨p, q, t, o, h3, m1, h1, h2⟩
    | succ i => exact x.each i r hr
theorem lcols_ex {news base : List (Addr × Obj)} : ∀ (ys : List Value), (∀ (j : Nat) y, ys[j]? = some y → Has3 IsCol base y news) → ∃ rs cs, ys = rs.map Value.ref ∧ LCols news rs cs
  | [], _ => ⟨[], [], rfl, rfl, fun i r e => by simp at e⟩
  | y :: ys, h => by
    obtain ⟨rs, cs, e, x⟩ := lcols_ex ys fun j y hy => h (j + 1) y hy
    obtain ⟨l, p, q, t, o, e1, m1, h1, h2, _⟩ := h 0 y rfl
    refine ⟨l :: rs, (p, q, t) :: cs, by rw [e, e1]; rfl, by simp [x.len], fun i r hr => ?_⟩
    cases i with
    | zero => cases hr; exact ⟨p, q, t, o, rfl, m1, h1, h2⟩
    | succ i => exact x.each i r hr
theorem LCols.snoc {news : List (Addr × Obj)} {rs : List Addr} {cs : List (Int × Int × Int)} {r : Addr} {a b c : Int} {o : Obj} (x : LCols news rs cs) (m : (r, o) ∈ news) (h3 : List3 a b c o) (hc : IsCol a b c) : LCols news (rs ++ [r]) (cs ++ [(a, b, c)]) := by
  refine ⟨by simp [x.len], fun i r' e => ?_⟩
  rcases Nat.lt_or_ge i rs.length with h | h
  · rw [List.getElem?_append_left h] at e
    obtain ⟨p, q, t, o', h1, h2, h4⟩ := x.each i r' e
    exact ⟨p, q, t, o', by rw [List.getElem?_append_left (by rw [← x.len]; exact h)]; exact h1, h2, h4⟩
  · rw [List.getElem?_append_right h] at e
    have hi : i - rs.length = 0 := by
      rcases Nat.lt_or_ge (i - rs.length) 1 with q | q
      · omega
      · rw [List.getElem?_eq_none (by simpa using q)] at e; cases e
    rw [hi] at e
    cases e
    exact ⟨a, b, c, o, by rw [List.getElem?_append_right (by rw [← x.len]; exact h), ← x.len, hi]; rfl, m, h3, hc⟩
theorem news_sub {g h : Heap} {L : Addr} {a b : List (Addr × Obj)} (N : News g L h b) (hs : ∀ p ∈ a, p ∈ b) : News g L h a := fun p hp => N p (hs p hp)
theorem news_in {g h : Heap} {L : Addr} {a : Addr × Obj} {xs news0 news : List (Addr × Obj)} (hx : ∀ p ∈ xs, p ∈ news0) (hs : ∀ p ∈ news0, p ∈ news) (N : News g L h (a :: news)) : News g L h (a :: (xs ++ news)) := fun p hp => N p (by
  rcases List.mem_cons.mp hp with h | h
  · rw [h]; exact .head _
  · rcases List.mem_append.mp h with h | h
    · exact .tail _ (hs _ (hx _ h))
    · exact .tail _ h)
end
section
open PySem PySem.W PySem.Calls PyProof.Rows PyProof.V PySem.Spec PySem.SeqAt
set_option maxRecDepth 100000
theorem not_booked (P : Params) : nsIn (hd.heap_39 P) cStatics sharingNotToldKey = some none := by kernel_rfl
theorem ns_none {K : Frag} {h : Heap} {a : Addr} {mc : Str → Option Value} {n : Str} (X : K.In h) (G : h.Ns a mc) (e : nsIn K a n = some none) : mc n = none := by
  obtain ⟨o, es, ep, ho, hd, _, hf⟩ := G
  unfold nsIn at e
  split at e
  · rename_i c d es' n' sl q
    have := X _ _ q
    rw [ho] at this
    cases this
    cases hd
    split at e
    · cases e
    · rename_i he
      rw [← hf]
      unfold nsFind findBy
      rw [← Array.find?_toList, he]
      rfl
  · cases e
theorem none_booked_of {w : World} {h : Heap} {p : Program} {loose : List Str} {mean : ExcName → Option Value} {mg mb : Str → Option Value} (X : (hd.heap_39 w.params).In h) (T : Top p loose mean mg mb h) : NoneBooked h := by
  obtain ⟨mc, ns, _⟩ := T.nolimit
  exact ⟨mc, ns, ns_none X ns (not_booked _)⟩
theorem same_float {M : Model} {A : Around} {E : Value → Shared → Prop} {s : Shared} {y z : UInt64} {u v : Tok} {Q : Bool → Shared → Prop} (hu : 0 < u) (hv : 0 < v) (hb : NoneBooked s.heap) (hq : ∀ b, Q b s) : wpAny M A (isSame (.float y u) (.float z v)) Q E s := by
  show wpAny M A (isSame.created (y == z && !Float64.isNaN y) u v) Q E s
  unfold isSame.created
  refine wpAny_ite ?_
  split
  · rename_i h
    have h1 : u ≠ 0 := Nat.ne_of_gt hu
    have h2 : v ≠ 0 := Nat.ne_of_gt hv
    simp [h1, h2] at h
  refine wpAny_ite ?_
  split
  · exact wpAny_pure (hq _)
  refine wpAny_ite ?_
  split
  · exact wpAny_pure (hq _)
  refine wpAny_bind (wpAny_sharingNotTold_none hb ?_)
  first | rw [if_neg Bool.false_ne_true] | simp only [Bool.false_eq_true, if_false]
  refine wpAny_bind (wpAny_sharingNotTold_none hb ?_)
  first | rw [if_neg Bool.false_ne_true] | simp only [Bool.false_eq_true, if_false]
  exact wpAny_bind (wpAny_rule (wpAny_bind (wpAny_askSetting (wpAny_pure (hq _)))))
theorem eqAt_float {A : Around} {s : Shared} {x : UInt64} {u v : Tok} (hu : 0 < u) (hv : 0 < v) (hb : NoneBooked s.heap) (hx : (Float64.cmp x x == some .eq) = true) : EqAt A s (.float x u) (.float x v) true := fun prog w E Q h => by
  unfold eqBool
  refine wpAny_holding ?_
  refine wpAny_ite_split (fun _ => wpAny_bind (wpAny_rule (wpAny_pure h))) (fun _ => ?_)
  dsimp only
  refine wpAny_bind (same_float hu hv hb fun b => ?_)
  cases b with
  | true => exact wpAny_pure h
  | false =>
    first | rw [if_neg Bool.false_ne_true] | simp only [Bool.false_eq_true, if_false]
    refine wpAny_bind (richCompare_gives (op := .Eq) (AutoFloatOps.typeIs_float s x u) (AutoFloatOps.typeIs_float s x v) F.slot_float_eq F.entry_float_eq (F.args_float_eq_2 _ _) (AutoFloatG5.float___eq___float_float_0 x u x v) (fun x => nomatch x) (wpAny_truthy_bool ?_))
    show Q (Float64.cmp x x == some .eq) s
    rw [hx]; exact h
theorem hv_at {cs : List (Int × Int × Int)} {hs : List Value} (h : HVs cs hs) : ∀ (j : Nat) (v : Value), hs[j]? = some v → ∃ c, cs[j]? = some c ∧ HV c v := by
  induction h with
  | nil => intro j v e; cases e
  | cons h1 h2 ih =>
    intro j v e
    cases j with
    | zero => cases e; exact ⟨_, rfl, h1⟩
    | succ j => exact ih j v e
/-- two rows of the same hues are equal -/
theorem ne_hues {prog : Program} {w : World} {A : Around} {E : Value → Shared → Prop} {s : Shared} {hu ot : Addr} {hs os : Array Value} {cs : List (Int × Int × Int)} {Q : Value → Shared → Prop} (hb : NoneBooked s.heap) (l1 : s.heap.IsList hu hs) (l2 : s.heap.IsList ot os)
    (v1 : HVs cs hs.toList) (v2 : HVs cs os.toList) (hr : ∀ c ∈ cs, min3 c.1 c.2.1 c.2.2 ≠ max3 c.1 c.2.1 c.2.2 → (Float64.cmp (hueI c.1 c.2.1 c.2.2) (hueI c.1 c.2.1 c.2.2) == some .eq) = true) (hun : A.units < cLine) (h : Q (.bool false) s) :
    wpAny (model prog w) A (compareOp .NotEq (.ref hu) (.ref ot)) Q E s := by
  have n1 : hs.size = os.size := by
    have e1 := v1.length
    have e2 := v2.length
    simp only [Array.length_toList] at e1 e2
    omega
  have key : RcNeAt A s (.ref hu) (.ref ot) (!(List.range hs.size).all fun _ => true) := RcNeAt.lists l1 l2 n1 hun fun j j1 j2 => by
    obtain ⟨c, hc, h1⟩ := hv_at v1 j hs[j] (by simp [j1])
    obtain ⟨c', hc', h2⟩ := hv_at v2 j os[j] (by simp [j2])
    rw [hc] at hc'; cases hc'
    rcases h1 with ⟨g1, e1⟩ | ⟨g1, t, p1, e1⟩
    · rcases h2 with ⟨g2, e2⟩ | ⟨g2, _⟩
      · rw [e1, e2]; exact EqAt.same _
      · exact absurd g1 g2
    · rcases h2 with ⟨g2, e2⟩ | ⟨g2, t', p2, e2⟩
      · exact absurd g2 g1
      · rw [e1, e2]; exact eqAt_float p1 p2 hb (hr c (List.mem_of_getElem? hc) g1)
  rw [show ((List.range hs.size).all fun _ => true) = true from List.all_eq_true.mpr fun _ _ => rfl] at key
  exact key prog w E Q h
end
section
open PySem PySem.W PySem.Calls PyProof.Rows PyProof.V PySem.Spec
set_option maxRecDepth 100000
theorem fr_wr {h₀ h h' : Heap} {L : Addr} {wr : List Addr} {m : Str → Option Value} (F : Fr h₀ L h m) (hk : ∀ b o, b ∉ wr → h.get? b = some o → h'.get? b = some o) (hL : L ∉ wr) (hI : ∀ b ∈ wr, h₀.get? b = none) : Fr h₀ L h' m :=
  ⟨F.ns.at' fun o e => hk L o hL e, fun b o e => hk b o (fun hm => by rw [hI b hm] at e; cases e) (F.keep b o e), F.above⟩
theorem news_wr {h₀ h h' : Heap} {L : Addr} {wr : List Addr} {news : List (Addr × Obj)} (N : News h₀ L h news) (hk : ∀ b o, b ∉ wr → h.get? b = some o → h'.get? b = some o) (off : ∀ p ∈ news, p.1 ∉ wr) : News h₀ L h' news :=
  fun p hp => ⟨hk _ _ (off p hp) (N p hp).1, (N p hp).2⟩
/-- what a comprehension over pairs wants of its source -/
noncomputable def ZSrc (prog : Program) (w : World) (A : Around) (h₀ : Heap) (L : Addr) (m : Str → Option Value) (env : Env) (elt : PySem.Expr) (x x₂ : Str) (scope : Scope) (cl : List (Str × Addr)) (G : Nat → Value → Prop) (Q : Value → Shared → Prop) (xv : Value) (s₁ : Shared) : Prop :=
  ∃ (news : List (Addr × Obj)) (I : Addr) (fp wr : List Addr) (n : Nat) (Pt : Nat → Array Value → Prop) (St : Nat → Heap → Prop) (Mid : Nat → Addr → Heap → Prop), xv = .ref I ∧ WalksT prog w A I fp wr n Pt St Mid ∧ n ≤ sizeLine ∧ St 0 s₁.heap ∧ (∀ b ∈ fp, b < s₁.heap.objs.size) ∧
    Fr h₀ L s₁.heap m ∧ News h₀ L s₁.heap news ∧ L ∉ wr ∧ (∀ b ∈ wr, h₀.get? b = none) ∧ (∀ p ∈ news, p.1 ∉ wr) ∧ (∀ i v, Pt i v → ∃ v1 v2, v = #[v1, v2]) ∧
    (∀ i v1 v2 C oC m₂ h tk (E' : Value → Shared → Prop), i < n → Pt i #[v1, v2] → LCg.NsObj oC m₂ → m₂ x = some v1 → m₂ x₂ = some v2 → Fr h₀ L h m → News h₀ L h ((C, oC) :: news) →
      wpAny (model prog w) A (eval elt (compEnvC scope cl C env)) (fun y s₃ => ∃ h' tk', s₃ = { s₁ with heap := h', toks := tk' } ∧ Kp h h' ∧ G i y) E' { s₁ with heap := h, toks := tk }) ∧
    (∀ D ys h tk, ys.length = n → (∀ (j : Nat) y, ys[j]? = some y → G j y) → Fr h₀ L h m → News h₀ L h ((D, LCg.lst ys) :: news) → (∀ p ∈ news, p.1 ≠ D) → Q (.ref D) { s₁ with heap := h, toks := tk })
section
variable {prog : Program} {w : World} {A : Around} {E : Value → Shared → Prop} {s : Shared} {h₀ : Heap} {L : Addr} {m : Str → Option Value} {env : Env}
theorem comp_zip {elt iter : PySem.Expr} {x x₂ : Str} {px px₂ tp : Pos} {tk0} {scope : Scope} {cl : List (Str × Addr)} {pos : Pos} {Q : Value → Shared → Prop} {G : Nat → Value → Prop} (hh : A.handled = none)
    (hclos : closureFor scope env = pure cl) (hcell : ∀ y ∈ scope.names, y.2 ≠ .cell) (hkind : scope.kind = .function)
    (hnames : ∀ y ∈ scope.names, y.2 = .local → scope.names.lookup y.1 = some .local) (hx : scope.names.lookup x = some .local) (hx₂ : scope.names.lookup x₂ = some .local) (hxx : x ≠ x₂)
    (h : wpAny (model prog w) A (eval iter env) (ZSrc prog w A h₀ L m env elt x x₂ scope cl G Q) E s)
    (hs : ∀ x, foldedSetIterable iter env x = pure x := by intro _; rfl) :
    wpAny (model prog w) A (eval (.ListComp elt [⟨.Tuple [.Name x px, .Name x₂ px₂] tk0 tp, iter, [], 0⟩] scope pos) env) Q E s := by
  rw [eval_ListComp]
  refine wpAny_comprehension_free (use := none) rfl hs hclos hkind hnames (wpAny_mono h (fun xv s₂ h₁ => ?_) fun _ _ e => e)
  obtain ⟨news, I, fp, wr, n, Pt, St, Mid, rfl, W, hsz, hst, hfp, F, N, hLw, hw0, off, hPt, turn, fin⟩ := h₁
  refine W.self 0 _ _ _ hst ?_
  refine wpAny_newObj_type (wpAny_newFunctionEnv hcell (by intro y hy; simp at hy) (fun h₁ hns₁ hsb₁ => ?_) hkind)
  dsimp only at hns₁ hsb₁ ⊢
  generalize hH2 : s₂.heap.push { cls := .type "list", dict := none, data := .seq ([] : List Value).toArray } = H2 at hns₁ hsb₁ ⊢
  have hC : H2.objs.size = s₂.heap.objs.size + 1 := by rw [← hH2, Heap.size_push]
  have hDC : s₂.heap.objs.size ≠ H2.objs.size := by rw [hC]; exact Nat.ne_of_lt (Nat.lt_succ_self _)
  have below : ∀ b, b < s₂.heap.objs.size → b ≠ H2.objs.size ∧ b ≠ s₂.heap.objs.size := fun b hb => ⟨by rw [hC]; exact Nat.ne_of_lt (Nat.lt_succ_of_lt hb), Nat.ne_of_lt hb⟩
  have hDf : s₂.heap.objs.size ∉ fp := fun hm => Nat.lt_irrefl _ (hfp _ hm)
  have hCf : H2.objs.size ∉ fp := fun hm => by have := hfp _ hm; rw [hC] at this; exact Nat.lt_irrefl _ (Nat.lt_of_succ_lt this)
  have hDw : s₂.heap.objs.size ∉ wr := fun hm => hDf (W.sub _ hm)
  have hCw : H2.objs.size ∉ wr := fun hm => hCf (W.sub _ hm)
  have old : ∀ b o, s₂.heap.get? b = some o → h₁.get? b = some o := fun b o e => hsb₁.extBut b o (below b (Heap.lt_size e)).1 (Heap.get?_push_of_some _ (hH2 ▸ Heap.get?_push_of_some _ e))
  have hacc : h₁.get? s₂.heap.objs.size = some (LCg.lst []) := hsb₁.extBut _ _ hDC (Heap.get?_push_of_some _ (hH2 ▸ Heap.get?_push_size _ rfl))
  have hst₁ : St 0 h₁ := W.frame _ _ _ hst fun b _ o e => old b o e
  have fresh₀ : ∀ a, s₂.heap.objs.size ≤ a → h₀.get? a = none := fun a ha => by
    cases e : h₀.get? a with
    | none => rfl
    | some o' => exact absurd (Heap.lt_size (F.keep a o' e)) (Nat.not_lt.mpr ha)
  have hD₀ : h₀.get? s₂.heap.objs.size = none := fresh₀ _ (Nat.le_refl _)
  have hC₀ : h₀.get? H2.objs.size = none := fresh₀ _ (by rw [hC]; exact Nat.le_succ _)
  have hLlt : L < s₂.heap.objs.size := F.ns.lt
  have hDL : s₂.heap.objs.size ≠ L := Ne.symm (below L hLlt).2
  have hCL : H2.objs.size ≠ L := Ne.symm (below L hLlt).1
  have offD : ∀ p ∈ news, p.1 ≠ s₂.heap.objs.size := fun p hp => (below _ (Heap.lt_size (N p hp).1)).2
  have offC : ∀ p ∈ news, p.1 ≠ H2.objs.size := fun p hp => (below _ (Heap.lt_size (N p hp).1)).1
  have loop : ∀ s₃ : Shared, s₃ = { s₂ with heap := h₁, toks := s₂.toks + ([] : List (Str × Value)).length } →
      codeAny (model prog w) A (.compLoop (.ListComp elt [⟨.Tuple [.Name x px, .Name x₂ px₂] tk0 tp, iter, [], 0⟩] scope pos) 0 (.ref I) (.ref s₂.heap.objs.size) (compEnvC scope cl H2.objs.size env))
        (compPost (model prog w) A E none Q (.ref s₂.heap.objs.size) H2.objs.size) s₃ := by
    rintro s₃ rfl
    refine LCp.codeAny_compLoop_pair
      (fun k s' => ∃ h' tk i ys m', s' = { s₂ with heap := h', toks := tk } ∧ i ≤ n ∧ k = n + 1 - i ∧ ys.length = i ∧ St i h' ∧ Fr h₀ L h' m ∧ h'.Ns H2.objs.size m' ∧ News h₀ L h' ((s₂.heap.objs.size, LCg.lst ys) :: news) ∧ (∀ (j : Nat) y, ys[j]? = some y → G j y)) ?_ (n + 1)
      ⟨h₁, _, 0, [], _, rfl, Nat.zero_le _, rfl, rfl, hst₁, F.keeps old, hns₁, fun p hp => ?_, fun j y e => by simp at e⟩
    · rintro k s' ⟨h', tk, i, ys, m', rfl, hi, rfl, hyl, hst', F', hn', N', hG⟩
      have offN : ∀ p ∈ (s₂.heap.objs.size, LCg.lst ys) :: news, p.1 ∉ wr := fun p hp => by
        rcases List.mem_cons.mp hp with rfl | hp
        · exact hDw
        · exact off p hp
      by_cases hlt : i < n
      · refine W.item i _ _ _ hlt hst' fun T vals h₂ tk₂ hPv hTs hT hM hk₂ => ?_
        obtain ⟨v1, v2, rfl⟩ := hPt i vals hPv
        dsimp only at hTs hk₂
        have F₂ := fr_wr F' hk₂ hLw hw0
        have N₂ := news_wr N' hk₂ offN
        have n₂ : h₂.Ns H2.objs.size m' := hn'.at' fun o e => hk₂ _ o hCw e
        have hTl : h'.get? T = none := Heap.get?_none_of_le hTs
        refine W.go _ _ _ i T _ _ _ hM fun h₃ hst₃ hk₃ => ?_
        dsimp only at hk₃
        have F₃ := fr_wr F₂ hk₃ hLw hw0
        have N₃ := news_wr N₂ hk₃ offN
        have n₃ : h₃.Ns H2.objs.size m' := n₂.at' fun o e => hk₃ _ o hCw e
        have hT₃ : IsTup h₃ T #[v1, v2] := by
          obtain ⟨o, e, r⟩ := hT
          exact ⟨o, hk₃ _ _ (W.apart _ _ _ hM) e, r⟩
        refine assign_Tuple_tuple hh hT₃ rfl rfl fun h₅ he => ?_
        have he' : ∀ b o, h₃.get? b = some o → h₅.get? b = some o := fun b o e => he b o (Nat.ne_of_lt (Heap.lt_size e)) e
        refine assignInOrder_cons (wpAny_assign_Name (wpAny_storeName_local (lookup_relabel_local hx) (n₃.at' fun o e => he' _ o e) (fun h₆ hn₆ hs₆ => ?_) (by simp [compEnvC, relabel, hkind])))
        refine assignInOrder_cons (wpAny_assign_Name (wpAny_storeName_local (lookup_relabel_local hx₂) hn₆ (fun h₇ hn₇ hs₇ => ?_) (by simp [compEnvC, relabel, hkind])))
        refine assignInOrder_nil ?_
        have old7 : ∀ b o, b ≠ H2.objs.size → h₃.get? b = some o → h₇.get? b = some o := fun b o hb e => hs₇.extBut b o hb (hs₆.extBut b o hb (he' b o e))
        have hst₇ : St (i + 1) h₇ := W.frame _ _ _ hst₃ fun b hb o e => old7 b o (fun q => hCf (by rw [← q]; exact hb)) e
        obtain ⟨oC, heC, hoC⟩ := LCg.ns_obj hn₇
        have F₇ : Fr h₀ L h₇ m := (((F₃).keeps he').change hs₆ hCL hC₀).change hs₇ hCL hC₀
        have N₇ : News h₀ L h₇ ((s₂.heap.objs.size, LCg.lst ys) :: news) := fun p hp => by
          have z := N₃ p hp
          refine ⟨old7 _ _ ?_ z.1, z.2⟩
          rcases List.mem_cons.mp hp with rfl | hp
          · exact hDC
          · exact offC p hp
        refine wpAny_mono (turn i v1 v2 H2.objs.size oC _ h₇ _ _ hlt hPv hoC (by simp [hxx]) (by simp) F₇ (fun p hp => ?_)) (fun y s₄ h₄ => ?_) fun _ _ e => e
        · rcases List.mem_cons.mp hp with rfl | hp
          · exact ⟨heC, hCL, hC₀⟩
          · exact N₇ p (.tail _ hp)
        obtain ⟨h₄, tk₄, rfl, k₄, hy⟩ := h₄
        have zD := k₄ _ _ (N₇ _ (.head _)).1
        refine append_at (hsz := by show ys.toArray.size ≤ sizeLine; rw [List.size_toArray, hyl]; exact Nat.le_trans hi hsz) zD fun h₅ hs₅ hD₅ => ?_
        refine ⟨n + 1 - (i + 1), by omega, h₅, tk₄, i + 1, ys ++ [y], _, rfl, hlt, rfl, by rw [List.length_append, List.length_singleton, hyl],
          W.frame _ _ _ (W.frame _ _ _ hst₇ fun b _ o e => k₄ b o e) fun b hb o e => hs₅.extBut b o (fun q => hDf (q ▸ hb)) e, (fr_kp F₇ k₄).change hs₅ hDL hD₀,
          ((hn₇.at' fun o e => k₄ _ o e)).sameBut hs₅ (Ne.symm hDC), fun p hp => ?_, fun j z hz => ?_⟩
        · rcases List.mem_cons.mp hp with rfl | hp
          · exact ⟨hD₅.trans (congrArg some (LCg.lst_snoc ys y)), hDL, hD₀⟩
          · exact ⟨hs₅.extBut _ _ (offD p hp) (k₄ _ _ (N₇ p (.tail _ hp)).1), (N₇ p (.tail _ hp)).2⟩
        · rcases Nat.lt_or_ge j ys.length with hj | hj
          · rw [List.getElem?_append_left hj] at hz; exact hG j z hz
          · rw [List.getElem?_append_right hj] at hz
            have hj2 : j - ys.length = 0 := by
              rcases Nat.lt_or_ge (j - ys.length) 1 with q | q
              · omega
              · rw [List.getElem?_eq_none (by simpa using q)] at hz; cases hz
            rw [hj2] at hz
            cases hz
            rw [show j = i by omega]; exact hy
      · obtain rfl : i = n := Nat.le_antisymm hi (Nat.not_lt.mp hlt)
        refine W.done _ _ _ hst' fun h₂ tk₂ hk₂ => ?_
        dsimp only at hk₂
        have F₂ := fr_wr F' hk₂ hLw hw0
        have N₂ := news_wr N' hk₂ offN
        have n₂ : h₂.Ns H2.objs.size m' := hn'.at' fun o e => hk₂ _ o hCw e
        refine ⟨m', n₂, fun h'' hs'' => fin _ ys h'' tk₂ hyl hG (F₂.change hs'' hCL hC₀) (fun p hp => ⟨hs''.extBut _ _ ?_ (N₂ p hp).1, (N₂ p hp).2⟩) offD⟩
        rcases List.mem_cons.mp hp with rfl | hp
        · exact hDC
        · exact offC p hp
    · rcases List.mem_cons.mp hp with rfl | hp
      · exact ⟨hacc, hDL, hD₀⟩
      · exact ⟨old _ _ (N p hp).1, (N p hp).2⟩
  exact codeAny_compStart_list (loop _ rfl) (W.self 0 _ _ _ hst₁ (loop _ rfl))
end
end
section
open PySem PySem.W PySem.Calls PyProof.Rows PyProof.V PySem.Spec
set_option maxRecDepth 100000
/-- what a colour has above grey -/
noncomputable def abv (c : Int × Int × Int) : Int × Int × Int := (c.1 - min3 c.1 c.2.1 c.2.2, c.2.1 - min3 c.1 c.2.1 c.2.2, c.2.2 - min3 c.1 c.2.1 c.2.2)
theorem abv_col {a b c : Int} (h : IsCol a b c) : IsCol (a - min3 a b c) (b - min3 a b c) (c - min3 a b c) := by
  obtain ⟨h1, h2, h3, h4, h5, h6⟩ := h
  refine ⟨?_, ?_, ?_, ?_, ?_, ?_⟩ <;> unfold min3 <;> omega
theorem ref_item {rs : List Addr} {i : Nat} {v : Value} (e : (rs.map Value.ref).toArray[i]? = some v) : ∃ r, rs[i]? = some r ∧ v = .ref r := by
  rw [List.getElem?_toArray, List.getElem?_map] at e
  cases q : rs[i]? with
  | none => rw [q] at e; cases e
  | some r => rw [q] at e; exact ⟨r, rfl, (Option.some.inj e).symm⟩
noncomputable def alikeC (x y : Int × Int × Int) : Bool := alikeB x.1 x.2.1 x.2.2 y.1 y.2.1 y.2.2
theorem bools_of {f : Nat → Bool} : ∀ (ys : List Value) (k : Nat), (∀ (j : Nat) y, ys[j]? = some y → y = .bool (f (k + j))) → ys = ((List.range' k ys.length).map f).map Value.bool
  | [], _, _ => rfl
  | y :: ys, k, h => by
    have h0 := h 0 y rfl
    have ih := bools_of (f := f) ys (k + 1) fun j z hz => by
      have := h (j + 1) z hz
      rwa [show k + (j + 1) = k + 1 + j by omega] at this
    rw [List.length_cons, List.range'_succ, List.map_cons, List.map_cons, ← ih, h0]; rfl
end
section
open PySem PySem.W PySem.Calls PyProof.Rows PyProof.V PySem.Spec
set_option maxRecDepth 100000
section
variable {prog : Program} {w : World} {A : Around} {E : Value → Shared → Prop} {s : Shared} {h₀ : Heap} {L : Addr} {m : Str → Option Value} {env : Env}
theorem zip_call {elt : PySem.Expr} {x x₂ : Str} {scope : Scope} {cl : List (Str × Addr)} {Q : Value → Shared → Prop} {G : Nat → Value → Prop} {news : List (Addr × Obj)} {l1 l2 : Addr} {xs ys : Array Value} (hh : A.handled = none)
    (F : Fr h₀ L s.heap m) (N : News h₀ L s.heap news) (hl1 : s.heap.IsList l1 xs) (hl2 : s.heap.IsList l2 ys) (hn : min xs.size ys.size ≤ sizeLine)
    (turn : ∀ i v1 v2 C oC m₂ h tk (E' : Value → Shared → Prop), i < min xs.size ys.size → xs[i]? = some v1 → ys[i]? = some v2 → LCg.NsObj oC m₂ → m₂ x = some v1 → m₂ x₂ = some v2 → Fr h₀ L h m → News h₀ L h ((C, oC) :: news) →
      wpAny (model prog w) A (eval elt (compEnvC scope cl C env)) (fun y s₃ => ∃ h' tk', s₃ = { s with heap := h', toks := tk' } ∧ Kp h h' ∧ G i y) E' { s with heap := h, toks := tk })
    (fin : ∀ D zs h tk, zs.length = min xs.size ys.size → (∀ (j : Nat) y, zs[j]? = some y → G j y) → Fr h₀ L h m → News h₀ L h ((D, LCg.lst zs) :: news) → (∀ p ∈ news, p.1 ≠ D) → Q (.ref D) { s with heap := h, toks := tk }) :
    wpAny (model prog w) A (call (.type "zip") [.ref l1, .ref l2]) (ZSrc prog w A h₀ L m env elt x x₂ scope cl G Q) E s := by
  refine call_zip_2 hl1 hl2 fun h' hz hTI hTO hi1 hi2 hsz kp => ?_
  have lt1 : l1 < s.heap.objs.size := by obtain ⟨o, e, _⟩ := hl1; exact Heap.lt_size e
  have lt2 : l2 < s.heap.objs.size := by obtain ⟨o, e, _⟩ := hl2; exact Heap.lt_size e
  have big : ∀ b ∈ ([s.heap.objs.size + 4, s.heap.objs.size + 3, s.heap.objs.size, s.heap.objs.size + 1] : List Addr), s.heap.objs.size ≤ b := fun b hb => by
    simp only [List.mem_cons, List.not_mem_nil, or_false] at hb
    rcases hb with rfl | rfl | rfl | rfl <;> first | exact Nat.le_refl _ | exact Nat.le_add_right _ _
  have offb : ∀ b o, s.heap.get? b = some o → b ∉ ([s.heap.objs.size + 4, s.heap.objs.size + 3, s.heap.objs.size, s.heap.objs.size + 1] : List Addr) := fun b o e hm => Nat.lt_irrefl _ (Nat.lt_of_lt_of_le (Heap.lt_size e) (big b hm))
  refine ⟨news, _, _, _, _, _, _, _, rfl, WalksT.zip2 hh _ _ _ _ _ _ _ (zipApart_new lt1 lt2) xs ys, hn, ⟨hz, hTI, ⟨_, _, hTO⟩, hi1, hi2, stays_list kp hl1, stays_list kp hl2⟩, fun b hb => ?_, fr_kp F kp, news_kp N kp, ?_, fun b hb => ?_, fun p hp => offb _ _ (N p hp).1, ?_, ?_, fin⟩
  · show b < h'.objs.size
    rw [hsz]
    simp only [List.mem_cons, List.not_mem_nil, or_false] at hb
    rcases hb with rfl | rfl | rfl | rfl | rfl | rfl | rfl
    · exact Nat.add_lt_add_left (by decide) _
    · exact Nat.add_lt_add_left (by decide) _
    · exact Nat.add_lt_add_left (by decide) _
    · exact Nat.lt_add_of_pos_right (by decide)
    · exact Nat.add_lt_add_left (by decide) _
    · exact Nat.lt_of_lt_of_le lt1 (Nat.le_add_right _ _)
    · exact Nat.lt_of_lt_of_le lt2 (Nat.le_add_right _ _)
  · obtain ⟨oL, _, _, hL, _⟩ := F.ns
    exact offb _ _ hL
  · cases e : h₀.get? b with
    | none => rfl
    | some o => exact absurd hb (offb _ _ (F.keep _ _ e))
  · rintro i v ⟨a, b, _, _, rfl⟩; exact ⟨a, b, rfl⟩
  · rintro i v1 v2 C oC m₂ h tk E' hi ⟨a, b, h1, h2, e⟩ hC hx hx2 F' N'
    cases e
    exact turn i v1 v2 C oC m₂ h tk E' hi h1 h2 hC hx hx2 F' N'
end
end
end
end
end
end
end
end
end
end
theorem start_22 : True := by
  w_top off
  have : True ∧ True := by
    first
    | (walk1; done)
    | exact ⟨trivial, trivial⟩
  trivial
section
local macro_rules | `(tactic| walk_at "call ref") => `(tactic| (k_here; refine halt ?_))
section
local macro_rules | `(tactic| walk_at "exec Assign cons ListComp") => `(tactic| (k_here; k_dflt (refine LCg.Assign_ListComp_U (F₀ := by k_asm) (by rfl) (by with_unfolding_all rfl) (by with_unfolding_all rfl) (by decide) (by rfl) (by decide) (by rfl) (by rfl) (by rfl) ?_)))
section
local macro_rules | `(tactic| walk_at "eval ListComp") => `(tactic| (k_here; k_dflt (refine LCg.ListComp_U (F₀ := by k_asm) (by with_unfolding_all rfl) (by decide) (by rfl) (by decide) (by rfl) ?_)))
section
local macro_rules | `(tactic| walk_at "CompSrc") => `(tactic| (refine halt ?_))
section
local macro_rules | `(tactic| walk_at "call builtin:sum") => `(tactic| (k_here; k_dflt (refine' sum_pick ?zza ?zzF ?zzN ?zzm ?zzi ?_; (case zza => rfl); (case zzF => k_asm); (case zzN => k_asm); (case zzm => k_mem); (case zzi => assumption); k_whole); intro h' tk' t' n' F' N'; (try dsimp only)))
section
local macro_rules | `(tactic| walk_at "CompEnd") => `(tactic| (refine halt ?_))
theorem start_23 : True := by
  w_top off
  have : True ∧ True := by
    first
    | (walk1; done)
    | exact ⟨trivial, trivial⟩
  trivial
section
open PySem PySem.W PySem.Calls PyProof.Rows
set_option maxRecDepth 100000
set_option maxHeartbeats 4000000
theorem fill_GA : (Challenge.rw_mr0087_01 = Challenge.rw_mr0087_01 ∧ hd.heap_39 = hd.heap_39) → True := by
  k_fill
  intro _; trivial
section
variable {w : World} {p : Program} {loose : List Str} {mean : ExcName → Option Value} {mg mb : Str → Option Value} {dp un : Nat} {gd : Option (List Code)} {fr : Option (List Env)} {s : Shared} {Q : Flow → Shared → Prop} {E : Value → Shared → Prop} {g : Heap} {L fa : Addr} {cd : Value} {m : Str → Option Value}
theorem st_numbers {sc : Addr} {o1 o2 o3 : Obj} {vs : List Value} {ns : List Int} (X : (hd.heap_39 w.params).In g) (T : Top p loose mean mg mb g) (F : Fr g L s.heap m)
    (N : News g L s.heap [(L + 1 + 1 + 1, o1), (L + 1 + 1, o2), (L + 1, o3), (83, tabObj #[]), (76, tabObj #[]), (61, tabObj #[])])
    (d3 : o3.data = .cell (some (.ref sc))) (d2 : o2.data = .cell none) (d1 : o1.data = .cell none) (hl : g.IsList sc vs.toArray) (hi : IntsAre vs ns) (hcd : ¬ ((63 : Nat) : Int) < (ns.length : Int)) (hdp : dp + 20 < recursionLimit) (hun : un + 300 < cLine)
    (l1 : @LT.lt Nat _ 83 L) (l2 : @LT.lt Nat _ 76 L) (l3 : @LT.lt Nat _ 61 L)
    (next : ∀ h' tk' m' nl n0 n1 n2 n3 n4 n5 n6 n7 n8 t0 t1 t2 t3 t4 t5 t6 t7 t8, Fr g L h' m' → m' (Str.ofString "numbers") = some (.ref nl) →
      News g L h' [(nl, LCg.lst [.int n0 t0, .int n1 t1, .int n2 t2, .int n3 t3, .int n4 t4, .int n5 t5, .int n6 t6, .int n7 t7, .int n8 t8]), (L + 1 + 1 + 1, o1), (83, tabObj #[]), (76, tabObj #[]), (61, tabObj #[])] →
      (@Ne Nat (L + 1 + 1 + 1) nl) → Rest 2 w dp un gd fr L fa cd Q E { s with heap := h', toks := tk' }) :
    Rest 0 w dp un gd fr L fa cd Q E s := by
  (show wpAny _ (Around.deeper _ (envOfC _ ⟨_, _, _, _, _⟩ _ _ _)) (execs (_ :: _) (envOfC _ ⟨_, _, _, _, _⟩ _ _ _)) _ _ _)
  k_steps
  refine Halt.out ?_
  k_dflt (refine LCg.CompSrc.range (n := 9) (by rfl) (by k_asm) (by k_asm) (by assumption) (by first | decide | rfl) (by first | rfl | decide) (by first | size_fits | exact Nat.le_of_ble_eq_true rfl) ?_)
  intro g'
  (try dsimp only)
  refine comp_each (fun _ y _ => ∃ n t, y = .int n t) (fun _ _ _ _ _ h => h) trivial ?_ ?_
  · intro i hi news hsub hS v I oI C oC D m₂ h tk E' ys hp hC hx F N off ne
    obtain ⟨t, rfl⟩ := hp
    replace N := news_more hsub N
    simp only [List.cons_append, List.nil_append] at N
    (try dsimp only)
    iterate 21 (first | walk1 | (dsimp only; walk1))
    (rename Fr _ _ _ _ => F9)
    (rename News _ _ _ _ => N9)
    refine turn_plain F9 N9 (fun p hp => ?_) off trivial ⟨fun _ h => h, _, _, rfl⟩
    simp only [List.mem_cons] at hp ⊢
    rcases hp with h | h | h | h <;> first | walk_at "m in" | simp [h]
  · intro ys news hl hg hsub hS
    obtain ⟨n0, n1, n2, n3, n4, n5, n6, n7, n8, t0, t1, t2, t3, t4, t5, t6, t7, t8, rfl⟩ := ints9 hl hg
    unfold LCg.FinA
    intro D h tk F N off
    replace N := news_cut hsub N
    replace off := off1_cut hsub off
    simp only [OffN, and_true] at off
    (repeat (have nx' := And.left off; replace off := And.right off))
    clear hg hl hsub
    (try dsimp only)
    (show wpAny (model Challenge.pw_mr0087_01 _) ((AA _ _ _ _).deeper (lawEnv _ _ _)) (execs (lawBody.drop 2) (lawEnv _ _ _)) _ _ _)
    with_reducible refine' next _ _ _ D n0 n1 n2 n3 n4 n5 n6 n7 n8 t0 t1 t2 t3 t4 t5 t6 t7 t8 F ?za ?zb ?zc
    (case za => rfl)
    (case zb => exact news_sub N (by k_allIn))
    (case zc => assumption)
end
end
theorem start_24 : True := by
  w_top off
  have : True ∧ True := by
    first
    | (walk1; done)
    | exact ⟨trivial, trivial⟩
  trivial
section
open PySem PySem.W PySem.Calls PyProof.Rows
set_option maxRecDepth 100000
set_option maxHeartbeats 4000000
theorem fill_GB : (Challenge.rw_mr0087_01 = Challenge.rw_mr0087_01 ∧ hd.heap_39 = hd.heap_39) → True := by
  k_fill
  intro _; trivial
section
variable {w : World} {p : Program} {loose : List Str} {mean : ExcName → Option Value} {mg mb : Str → Option Value} {dp un : Nat} {gd : Option (List Code)} {fr : Option (List Env)} {s : Shared} {Q : Flow → Shared → Prop} {E : Value → Shared → Prop} {g : Heap} {L fa : Addr} {cd : Value} {m : Str → Option Value}
theorem st_ways {nl : Addr} {o1 : Obj} {n0 n1 n2 n3 n4 n5 n6 n7 n8 : Int} {t0 t1 t2 t3 t4 t5 t6 t7 t8 : Tok} (X : (hd.heap_39 w.params).In g) (T : Top p loose mean mg mb g) (F : Fr g L s.heap m) (hm : m (Str.ofString "numbers") = some (.ref nl))
    (N : News g L s.heap [(nl, LCg.lst [.int n0 t0, .int n1 t1, .int n2 t2, .int n3 t3, .int n4 t4, .int n5 t5, .int n6 t6, .int n7 t7, .int n8 t8]), (L + 1 + 1 + 1, o1), (83, tabObj #[]), (76, tabObj #[]), (61, tabObj #[])])
    (d1 : o1.data = .cell none) (hdp : dp + 20 < recursionLimit) (hun : un + 300 < cLine) (l1 : @LT.lt Nat _ 83 L) (l2 : @LT.lt Nat _ 76 L) (l3 : @LT.lt Nat _ 61 L) (l4 : @Ne Nat (L + 1 + 1 + 1) nl)
    (next : ∀ h' tk' m' wl w0 w1 ow o0 ow1 a0 b0 c0 a1 b1 c1, Fr g L h' m' → m' (Str.ofString "numbers") = some (.ref nl) →
      News g L h' [(wl, LCg.lst [.ref w0, .ref w1]), (w0, o0), (w1, ow1), (nl, LCg.lst [.int n0 t0, .int n1 t1, .int n2 t2, .int n3 t3, .int n4 t4, .int n5 t5, .int n6 t6, .int n7 t7, .int n8 t8]), (L + 1 + 1 + 1, ow), (83, tabObj #[]), (76, tabObj #[]), (61, tabObj #[])] →
      ow.data = .cell (some (.ref wl)) → List3 a0 b0 c0 o0 → IsWay a0 b0 c0 → List3 a1 b1 c1 ow1 → IsWay a1 b1 c1 → Rest 3 w dp un gd fr L fa cd Q E { s with heap := h', toks := tk' }) :
    Rest 2 w dp un gd fr L fa cd Q E s := by
  (show wpAny _ (Around.deeper _ (envOfC _ ⟨_, _, _, _, _⟩ _ _ _)) (execs (_ :: _) (envOfC _ ⟨_, _, _, _, _⟩ _ _ _)) _ _ _)
  rw [map1b hm] at F
  k_steps
  refine Halt.out ?_
  k_dflt (refine LCg.CompSrc.ledger (by rfl) (by k_asm) (by k_asm) (by k_mem) (by first | size_fits | exact Nat.le_of_ble_eq_true rfl) ?_)
  intro g2
  (try dsimp only)
  refine comp_three IsWay (.inr ⟨_, by k_mem, rfl, _, rfl⟩) ?_ ?_
  · intro i hi news hsub hS v I oI C oC D m₂ h tk E' ys hp hC hx F N off ne
    obtain ⟨n, t, rfl⟩ := int_item (by intro v9 hv9; simp only [List.mem_cons, List.not_mem_nil, or_false] at hv9; (rcases hv9 with rfl | rfl) <;> exact ⟨_, _, rfl⟩) hp
    replace N := news_more hsub N
    simp only [List.cons_append, List.nil_append] at N
    (try dsimp only)
    k_steps
    (rename Fr _ _ _ _ => F9)
    (rename News _ _ _ _ => N9)
    refine Halt.out ?_
    refine useC (way_ok _ _ _) F9 (by k_asm) N9 (by k_asm) (by walk_at "m room") (by walk_at "m room") trivial ?_
    intro r tl h' tk' po F8 N8 ne8
    obtain ⟨l, a, b, c, o, rfl, rfl, h3, hw⟩ := po
    refine turn_new F8 N8 (fun p hp => by simp [hp]) ne8 off (srcAt_mono (fun p hp => .tail _ hp) hS) ⟨fun p hp => .tail _ hp, l, a, b, c, o, rfl, .head _, h3, hw, OffN.of fun p hp => ne8 p (by simp [hsub p hp]) _ (.head _)⟩
  · intro ys news hl hg hsub hS
    obtain ⟨y0, y1, rfl⟩ := list2 hl
    · clear hl
      obtain ⟨w0, a0, b0, c0, o0, rfl, mw0, hw0, iw0, f0⟩ := hg 0 y0 rfl
      obtain ⟨w1, a1, b1, c1, o1, rfl, mw1, hw1, iw1, f1⟩ := hg 1 y1 rfl
      unfold LCg.FinE
      intro D h tk F N off
      have N2 : News _ _ _ (_ :: (w0, o0) :: (w1, o1) :: _) := news_cut (List.forall_mem_cons.mpr ⟨mw0, List.forall_mem_cons.mpr ⟨mw1, hsub⟩⟩) N
      replace off := off1_cut hsub off
      simp only [OffN, and_true] at off f0 f1
      (repeat (have nx' := And.left off; replace off := And.right off))
      (repeat (have nx' := And.left f0; replace f0 := And.right f0))
      (repeat (have nx' := And.left f1; replace f1 := And.right f1))
      clear N hg hsub mw0 mw1
      (try dsimp only)
      iterate 1 walk1
      (rename Fr _ _ _ _ => F9)
      (rename News _ _ _ _ => N9)
      (show wpAny (model Challenge.pw_mr0087_01 _) ((AA _ _ _ _).deeper (lawEnv _ _ _)) (execs (lawBody.drop 3) (lawEnv _ _ _)) _ _ _)
      with_reducible refine' next _ _ _ D w0 w1 _ o0 o1 a0 b0 c0 a1 b1 c1 F9 ?za ?zb ?zc hw0 iw0 hw1 iw1
      (case za => rfl)
      (case zb => exact news_sub N9 (by k_allIn))
      (case zc => assumption)
end
end
theorem start_25 : True := by
  w_top off
  have : True ∧ True := by
    first
    | (walk1; done)
    | exact ⟨trivial, trivial⟩
  trivial
section
open PySem PySem.W PySem.Calls PyProof.Rows
set_option maxRecDepth 100000
set_option maxHeartbeats 4000000
theorem fill_GC : (Challenge.rw_mr0087_01 = Challenge.rw_mr0087_01 ∧ hd.heap_39 = hd.heap_39) → True := by
  k_fill
  intro _; trivial
section
variable {w : World} {p : Program} {loose : List Str} {mean : ExcName → Option Value} {mg mb : Str → Option Value} {dp un : Nat} {gd : Option (List Code)} {fr : Option (List Env)} {s : Shared} {Q : Flow → Shared → Prop} {E : Value → Shared → Prop} {g : Heap} {L fa : Addr} {cd : Value} {m : Str → Option Value}
theorem st_colours {nl wl w0 w1 : Addr} {ow o0 o1 : Obj} {n0 n1 n2 n3 n4 n5 n6 n7 n8 a0 b0 c0 a1 b1 c1 : Int} {t0 t1 t2 t3 t4 t5 t6 t7 t8 : Tok} (X : (hd.heap_39 w.params).In g) (T : Top p loose mean mg mb g) (F : Fr g L s.heap m) (hm : m (Str.ofString "numbers") = some (.ref nl))
    (N : News g L s.heap [(wl, LCg.lst [.ref w0, .ref w1]), (w0, o0), (w1, o1), (nl, LCg.lst [.int n0 t0, .int n1 t1, .int n2 t2, .int n3 t3, .int n4 t4, .int n5 t5, .int n6 t6, .int n7 t7, .int n8 t8]), (L + 1 + 1 + 1, ow), (83, tabObj #[]), (76, tabObj #[]), (61, tabObj #[])])
    (d1 : ow.data = .cell (some (.ref wl))) (hw0 : List3 a0 b0 c0 o0) (iw0 : IsWay a0 b0 c0) (hw1 : List3 a1 b1 c1 o1) (iw1 : IsWay a1 b1 c1) (hdp : dp + 20 < recursionLimit) (hun : un + 300 < cLine)
    (next : ∀ h' tk' m' cl r0 r1 r2 r3 r4 r5 r6 cs R, Fr g L h' m' → m' (Str.ofString "colours") = some (.ref cl) → LCols R [r0, r1, r2, r3, r4, r5, r6] cs → (w0, o0) ∈ R →
      News g L h' ((cl, LCg.lst [.ref r0, .ref r1, .ref r2, .ref r3, .ref r4, .ref r5, .ref r6]) :: (wl, LCg.lst [.ref w0, .ref w1]) :: (L + 1 + 1 + 1, ow) :: (83, tabObj #[]) :: (76, tabObj #[]) :: (61, tabObj #[]) :: R) →
      Rest 4 w dp un gd fr L fa cd Q E { s with heap := h', toks := tk' }) :
    Rest 3 w dp un gd fr L fa cd Q E s := by
  (show wpAny _ (Around.deeper _ (envOfC _ ⟨_, _, _, _, _⟩ _ _ _)) (execs (_ :: _) (envOfC _ ⟨_, _, _, _, _⟩ _ _ _)) _ _ _)
  rw [map1b hm] at F
  k_steps
  refine Halt.out ?_
  k_dflt (refine LCg.CompSrc.ledger (by rfl) (by k_asm) (by k_asm) (by k_mem) (by first | size_fits | exact Nat.le_of_ble_eq_true rfl) ?_)
  intro g3
  (try dsimp only)
  refine comp_three IsCol (.inr ⟨_, by k_mem, rfl, _, rfl⟩) ?_ ?_
  · intro i hi news hsub hS v I oI C oC D' m₂ h tk E' ys hp hC hx F N off ne
    obtain ⟨n, t, rfl⟩ := int_item (by intro v9 hv9; simp only [List.mem_cons, List.not_mem_nil, or_false] at hv9; (rcases hv9 with rfl | rfl | rfl | rfl | rfl | rfl | rfl) <;> exact ⟨_, _, rfl⟩) hp
    replace N := news_more hsub N
    simp only [List.cons_append, List.nil_append] at N
    (try dsimp only)
    k_steps
    (rename Fr _ _ _ _ => F9)
    (rename News _ _ _ _ => N9)
    refine Halt.out ?_
    refine useC (colour_ok _ _ _ _ w0 w1) F9 (by k_asm) N9 (by k_asm) (by walk_at "m room") (by walk_at "m room") (pre_ways N9 (by k_mem) (by k_mem) (by k_mem) hw0 iw0 hw1 iw1) ?_
    intro r tl h' tk' po F8 N8 ne8
    obtain ⟨l, a, b, c, o, rfl, rfl, h3, hw⟩ := po
    refine turn_new F8 N8 (fun p hp => by simp [hp]) ne8 off (srcAt_mono (fun p hp => .tail _ hp) hS) ⟨fun p hp => .tail _ hp, l, a, b, c, o, rfl, .head _, h3, hw, OffN.of fun p hp => ne8 p (by simp [hsub p hp]) _ (.head _)⟩
  · intro ys news hl hg hsub hS
    obtain ⟨rs, cs, rfl, LC⟩ := lcols_ex ys hg
    rw [List.length_map] at hl
    obtain ⟨r0, r1, r2, r3, r4, r5, r6, rfl⟩ := list7 hl
    · clear hl
      unfold LCg.FinA
      intro D h tk F N off
      (try dsimp only)
      (show wpAny (model Challenge.pw_mr0087_01 _) ((AA _ _ _ _).deeper (lawEnv _ _ _)) (execs (lawBody.drop 4) (lawEnv _ _ _)) _ _ _)
      with_reducible refine' next _ _ _ D r0 r1 r2 r3 r4 r5 r6 cs news F ?za LC (hsub _ ?zm) ?zb
      (case za => rfl)
      (case zm => k_mem)
      (case zb => exact news_in (xs := [_, _, _, _, _]) (by k_allIn) hsub N)
end
end
theorem start_26 : True := by
  w_top off
  have : True ∧ True := by
    first
    | (walk1; done)
    | exact ⟨trivial, trivial⟩
  trivial
section
open PySem PySem.W PySem.Calls PyProof.Rows
set_option maxRecDepth 100000
set_option maxHeartbeats 4000000
theorem fill_GD : (Challenge.rw_mr0087_01 = Challenge.rw_mr0087_01 ∧ hd.heap_39 = hd.heap_39) → True := by
  k_fill
  intro _; trivial
section
variable {w : World} {p : Program} {loose : List Str} {mean : ExcName → Option Value} {mg mb : Str → Option Value} {dp un : Nat} {gd : Option (List Code)} {fr : Option (List Env)} {s : Shared} {Q : Flow → Shared → Prop} {E : Value → Shared → Prop} {g : Heap} {L fa : Addr} {cd : Value} {m : Str → Option Value}
theorem st_hues {cl wl w0 w1 r0 r1 r2 r3 r4 r5 r6 : Addr} {ow o0 : Obj} {a0 b0 c0 : Int} {cs : List (Int × Int × Int)} {R : List (Addr × Obj)} (X : (hd.heap_39 w.params).In g) (T : Top p loose mean mg mb g) (F : Fr g L s.heap m) (hm : m (Str.ofString "colours") = some (.ref cl))
    (LC : LCols R [r0, r1, r2, r3, r4, r5, r6] cs) (mw : (w0, o0) ∈ R)
    (N : News g L s.heap ((cl, LCg.lst [.ref r0, .ref r1, .ref r2, .ref r3, .ref r4, .ref r5, .ref r6]) :: (wl, LCg.lst [.ref w0, .ref w1]) :: (L + 1 + 1 + 1, ow) :: (83, tabObj #[]) :: (76, tabObj #[]) :: (61, tabObj #[]) :: R))
    (d1 : ow.data = .cell (some (.ref wl))) (hw0 : List3 a0 b0 c0 o0) (iw0 : IsWay a0 b0 c0) (hdp : dp + 20 < recursionLimit) (hun : un + 300 < cLine)
    (next : ∀ h' tk' m' hu ot hs os k1 k2, Fr g L h' m' → m' (Str.ofString "hues") = some (.ref hu) → m' (Str.ofString "others") = some (.ref ot) → m' (Str.ofString "colours") = some (.ref cl) → HVs (cs ++ [(a0, b0, c0)]) hs.toList → HVs (cs ++ [(a0, b0, c0)]) os.toList →
      News g L h' ((ot, listOf os k2) :: (hu, listOf hs k1) :: (cl, LCg.lst [.ref r0, .ref r1, .ref r2, .ref r3, .ref r4, .ref r5, .ref r6]) :: (wl, LCg.lst [.ref w0, .ref w1]) :: (L + 1 + 1 + 1, ow) :: (83, tabObj #[]) :: (76, tabObj #[]) :: (61, tabObj #[]) :: R) →
      Rest 5 w dp un gd fr L fa cd Q E { s with heap := h', toks := tk' }) :
    Rest 4 w dp un gd fr L fa cd Q E s := by
  (show wpAny _ (Around.deeper _ (envOfC _ ⟨_, _, _, _, _⟩ _ _ _)) (execs (_ :: _) (envOfC _ ⟨_, _, _, _, _⟩ _ _ _)) _ _ _)
  rw [map1b hm] at F
  k_steps
  (rename Fr _ _ _ _ => F9)
  (rename News _ _ _ _ => N9)
  refine Halt.out ?_
  have LC9 := LC.snoc mw hw0 iw0.col
  have hcl : Heap.IsList _ _ #[.ref r0, .ref r1, .ref r2, .ref r3, .ref r4, .ref r5, .ref r6, .ref w0] := list_mem N9 (.head _)
  have few : (cs ++ [(a0, b0, c0)]).length ≤ 1000 := by rw [← LC9.len]; exact Nat.le_of_ble_eq_true rfl
  refine useC (hues_ok _ _ _ _) F9 (by k_asm) N9 (by k_asm) (by walk_at "m room") (by walk_at "m room") (LC9.pre (news_sub N9 ?_) hcl few) ?_
  · intro p hp
    iterate 8 apply List.mem_cons_of_mem
    exact hp
  intro r tl h' tk' po F8 N8 ne8
  obtain ⟨tt, hu, ot, k1, k2, kk, hs, os, rfl, rfl, hv1, hv2⟩ := po
  simp only [List.cons_append, List.nil_append] at N8
  clear ne8 F9 N9 LC9 hcl few
  (try dsimp only)
  iterate 8 walk1
  (rename Fr _ _ _ _ => F9)
  (rename News _ _ _ _ => N9)
  (show wpAny (model Challenge.pw_mr0087_01 _) ((AA _ _ _ _).deeper (lawEnv _ _ _)) (execs (lawBody.drop 5) (lawEnv _ _ _)) _ _ _)
  with_reducible refine' next _ _ _ hu ot hs os k1 k2 F9 ?za ?zb ?zc hv1 hv2 ?zd
  (case za => rfl)
  (case zb => rfl)
  (case zc => rfl)
  (case zd => exact news_sub N9 (List.forall_mem_cons.mpr ⟨by k_mem, List.forall_mem_cons.mpr ⟨by k_mem, List.forall_mem_cons.mpr ⟨by k_mem, List.forall_mem_cons.mpr ⟨by k_mem, List.forall_mem_cons.mpr ⟨by k_mem, List.forall_mem_cons.mpr ⟨by k_mem, List.forall_mem_cons.mpr ⟨by k_mem, List.forall_mem_cons.mpr ⟨by k_mem, fun p hp => by
    iterate 3 apply List.mem_cons_of_mem
    iterate 8 apply List.mem_cons_of_mem
    exact hp⟩⟩⟩⟩⟩⟩⟩⟩))
end
end
theorem start_27 : True := by
  w_top off
  have : True ∧ True := by
    first
    | (walk1; done)
    | exact ⟨trivial, trivial⟩
  trivial
section
open PySem PySem.W PySem.Calls PyProof.Rows
set_option maxRecDepth 100000
set_option maxHeartbeats 4000000
theorem fill_GE : (Challenge.rw_mr0087_01 = Challenge.rw_mr0087_01 ∧ hd.heap_39 = hd.heap_39) → True := by
  k_fill
  intro _; trivial
section
variable {w : World} {p : Program} {loose : List Str} {mean : ExcName → Option Value} {mg mb : Str → Option Value} {dp un : Nat} {gd : Option (List Code)} {fr : Option (List Env)} {s : Shared} {Q : Flow → Shared → Prop} {E : Value → Shared → Prop} {g : Heap} {L fa : Addr} {cd : Value} {m : Str → Option Value}
theorem st_same {cl wl w0 w1 r0 r1 r2 r3 r4 r5 r6 hu ot : Addr} {ow : Obj} {hs os : Array Value} {k1 k2 : Nat} {cs : List (Int × Int × Int)} {R : List (Addr × Obj)} (X : (hd.heap_39 w.params).In g) (T : Top p loose mean mg mb g) (F : Fr g L s.heap m)
    (hm1 : m (Str.ofString "hues") = some (.ref hu)) (hm2 : m (Str.ofString "others") = some (.ref ot)) (hm3 : m (Str.ofString "colours") = some (.ref cl)) (hv1 : HVs cs hs.toList) (hv2 : HVs cs os.toList)
    (hr : ∀ c ∈ cs, min3 c.1 c.2.1 c.2.2 ≠ max3 c.1 c.2.1 c.2.2 → (Float64.cmp (hueI c.1 c.2.1 c.2.2) (hueI c.1 c.2.1 c.2.2) == some .eq) = true)
    (N : News g L s.heap ((ot, listOf os k2) :: (hu, listOf hs k1) :: (cl, LCg.lst [.ref r0, .ref r1, .ref r2, .ref r3, .ref r4, .ref r5, .ref r6]) :: (wl, LCg.lst [.ref w0, .ref w1]) :: (L + 1 + 1 + 1, ow) :: (83, tabObj #[]) :: (76, tabObj #[]) :: (61, tabObj #[]) :: R))
    (hdp : dp + 20 < recursionLimit) (hun : un + 300 < cLine)
    (next : ∀ h' tk' m', Fr g L h' m' → m' (Str.ofString "hues") = some (.ref hu) → m' (Str.ofString "colours") = some (.ref cl) →
      News g L h' ((hu, listOf hs k1) :: (cl, LCg.lst [.ref r0, .ref r1, .ref r2, .ref r3, .ref r4, .ref r5, .ref r6]) :: (wl, LCg.lst [.ref w0, .ref w1]) :: (L + 1 + 1 + 1, ow) :: (83, tabObj #[]) :: (76, tabObj #[]) :: (61, tabObj #[]) :: R) →
      Rest 6 w dp un gd fr L fa cd Q E { s with heap := h', toks := tk' }) :
    Rest 5 w dp un gd fr L fa cd Q E s := by
  (show wpAny _ (Around.deeper _ (envOfC _ ⟨_, _, _, _, _⟩ _ _ _)) (execs (_ :: _) (envOfC _ ⟨_, _, _, _, _⟩ _ _ _)) _ _ _)
  rw [map3b hm1 hm2 hm3] at F
  have hB : NoneBooked s.heap := none_booked_of (X.keeps F.keep) (T.keeps F.keep)
  iterate 5 walk1
  refine' ne_hues ?zb ?zl1 ?zl2 hv1 hv2 hr ?zu ?_
  (case zb => assumption)
  (case zl1 => exact list_mem N (by k_mem))
  (case zl2 => exact list_mem N (by k_mem))
  (case zu => ((try dsimp only [Around.deeper, Around.in1]); omega))
  iterate 3 walk1
  (show wpAny (model Challenge.pw_mr0087_01 _) ((AA _ _ _ _).deeper (lawEnv _ _ _)) (execs (lawBody.drop 6) (lawEnv _ _ _)) _ _ _)
  with_reducible refine' next _ _ _ F ?za ?zc ?zd
  (case za => rfl)
  (case zc => rfl)
  (case zd => exact fun p hp => N p (.tail _ hp))
end
end
theorem start_28 : True := by
  w_top off
  have : True ∧ True := by
    first
    | (walk1; done)
    | exact ⟨trivial, trivial⟩
  trivial
section
open PySem PySem.W PySem.Calls PyProof.Rows
set_option maxRecDepth 100000
set_option maxHeartbeats 4000000
theorem fill_GF : (Challenge.rw_mr0087_01 = Challenge.rw_mr0087_01 ∧ hd.heap_39 = hd.heap_39) → True := by
  k_fill
  intro _; trivial
section
variable {w : World} {p : Program} {loose : List Str} {mean : ExcName → Option Value} {mg mb : Str → Option Value} {dp un : Nat} {gd : Option (List Code)} {fr : Option (List Env)} {s : Shared} {Q : Flow → Shared → Prop} {E : Value → Shared → Prop} {g : Heap} {L fa : Addr} {cd : Value} {m : Str → Option Value}
theorem st_above {cl wl w0 w1 r0 r1 r2 r3 r4 r5 r6 hu : Addr} {ow : Obj} {hs : Array Value} {k1 : Nat} {cs : List (Int × Int × Int)} {R : List (Addr × Obj)} (X : (hd.heap_39 w.params).In g) (T : Top p loose mean mg mb g) (F : Fr g L s.heap m)
    (hm1 : m (Str.ofString "hues") = some (.ref hu)) (hm3 : m (Str.ofString "colours") = some (.ref cl)) (LC : LCols R [r0, r1, r2, r3, r4, r5, r6] cs)
    (N : News g L s.heap ((hu, listOf hs k1) :: (cl, LCg.lst [.ref r0, .ref r1, .ref r2, .ref r3, .ref r4, .ref r5, .ref r6]) :: (wl, LCg.lst [.ref w0, .ref w1]) :: (L + 1 + 1 + 1, ow) :: (83, tabObj #[]) :: (76, tabObj #[]) :: (61, tabObj #[]) :: R))
    (hdp : dp + 20 < recursionLimit) (hun : un + 300 < cLine)
    (next : ∀ h' tk' m' al a0 a1 a2 a3 a4 a5 a6 R', Fr g L h' m' → m' (Str.ofString "hues") = some (.ref hu) → m' (Str.ofString "above") = some (.ref al) → LCols R' [a0, a1, a2, a3, a4, a5, a6] (cs.map abv) → (∀ p ∈ R, p ∈ R') →
      News g L h' ((al, LCg.lst [.ref a0, .ref a1, .ref a2, .ref a3, .ref a4, .ref a5, .ref a6]) :: (hu, listOf hs k1) :: (wl, LCg.lst [.ref w0, .ref w1]) :: (L + 1 + 1 + 1, ow) :: (83, tabObj #[]) :: (76, tabObj #[]) :: (61, tabObj #[]) :: R') →
      Rest 7 w dp un gd fr L fa cd Q E { s with heap := h', toks := tk' }) :
    Rest 6 w dp un gd fr L fa cd Q E s := by
  (show wpAny _ (Around.deeper _ (envOfC _ ⟨_, _, _, _, _⟩ _ _ _)) (execs (_ :: _) (envOfC _ ⟨_, _, _, _, _⟩ _ _ _)) _ _ _)
  rw [map2b hm1 hm3] at F
  k_steps
  refine Halt.out ?_
  k_dflt (refine LCg.CompSrc.ledger (by rfl) (by k_asm) (by k_asm) (by k_mem) (by first | size_fits | exact Nat.le_of_ble_eq_true rfl) ?_)
  intro g3
  (try dsimp only)
  refine comp_each (fun i y news => ∃ l o a b c, y = .ref l ∧ (l, o) ∈ news ∧ List3 a b c o ∧ IsCol a b c ∧ (cs.map abv)[i]? = some (a, b, c)) (fun i y a b h x => by obtain ⟨l, o, p, q, t, e, hm, r⟩ := x; exact ⟨l, o, p, q, t, e, h _ hm, r⟩) (.inr ⟨_, by k_mem, rfl, _, rfl⟩) ?_ ?_
  · intro i hi news hsub hS v I oI C oC D' m₂ h tk E' ys hp hC hx F N off ne
    obtain ⟨r, hr, rfl⟩ := ref_item (rs := [r0, r1, r2, r3, r4, r5, r6]) hp
    obtain ⟨a, b, c, o, hcs, hmR, h3, hc⟩ := LC.each i r hr
    replace N := news_more hsub N
    simp only [List.cons_append, List.nil_append] at N
    (try dsimp only)
    k_steps
    (rename Fr _ _ _ _ => F9)
    (rename News _ _ _ _ => N9)
    refine Halt.out ?_
    refine useC (above_ok _ r a b c hc) F9 (by k_asm) N9 (by k_asm) (by walk_at "m room") (by walk_at "m room") (pre3_of N9 (by (repeat (first | exact List.mem_append_left _ hmR | apply List.mem_cons_of_mem))) h3) ?_
    intro rv tl h' tk' po F8 N8 ne8
    obtain ⟨l, o', rfl, rfl, h3'⟩ := po
    refine turn_new F8 N8 (fun p hp => by simp [hp]) ne8 off (srcAt_mono (fun p hp => .tail _ hp) hS) ⟨fun p hp => .tail _ hp, l, o', _, _, _, rfl, .head _, h3', abv_col hc, by rw [List.getElem?_map, hcs]; rfl⟩
  · intro ys news hl hg hsub hS
    have hlc := LC.len
    obtain ⟨rs, rfl, LC'⟩ := lcols_of (cs.map abv) ys (by rw [List.length_map, ← hlc]; exact hl) hg
    rw [List.length_map] at hl
    obtain ⟨a0, a1, a2, a3, a4, a5, a6, rfl⟩ := list7 hl
    · clear hl
      unfold LCg.FinA
      intro D h tk F N off
      (try dsimp only)
      (show wpAny (model Challenge.pw_mr0087_01 _) ((AA _ _ _ _).deeper (lawEnv _ _ _)) (execs (lawBody.drop 7) (lawEnv _ _ _)) _ _ _)
      with_reducible refine' next _ _ _ D a0 a1 a2 a3 a4 a5 a6 news F ?za ?zc LC' ?zm ?zb
      (case za => rfl)
      (case zc => rfl)
      (case zm => (intro p hp; apply hsub; iterate 7 apply List.mem_cons_of_mem
                   exact hp))
      (case zb => exact news_in (xs := [_, _, _, _, _, _]) (by k_allIn) hsub N)
end
end
section
local macro_rules | `(tactic| walk_at "eval ListComp") => `(tactic| (k_here; refine halt ?_))
section
local macro_rules | `(tactic| walk_at "call type:zip") => `(tactic| (k_here; refine halt ?_))
theorem start_29 : True := by
  w_top off
  have : True ∧ True := by
    first
    | (walk1; done)
    | exact ⟨trivial, trivial⟩
  trivial
section
open PySem PySem.W PySem.Calls PyProof.Rows
set_option maxRecDepth 100000
set_option maxHeartbeats 4000000
theorem fill_GG : (Challenge.rw_mr0087_01 = Challenge.rw_mr0087_01 ∧ hd.heap_39 = hd.heap_39) → True := by
  k_fill
  intro _; trivial
section
variable {w : World} {p : Program} {loose : List Str} {mean : ExcName → Option Value} {mg mb : Str → Option Value} {dp un : Nat} {gd : Option (List Code)} {fr : Option (List Env)} {s : Shared} {Q : Flow → Shared → Prop} {E : Value → Shared → Prop} {g : Heap} {L fa : Addr} {cd : Value} {m : Str → Option Value}
theorem st_linked {al wl w0 w1 a0 a1 a2 a3 a4 a5 a6 hu : Addr} {ow : Obj} {hs : Array Value} {k1 : Nat} {ab : List (Int × Int × Int)} {R : List (Addr × Obj)} (X : (hd.heap_39 w.params).In g) (T : Top p loose mean mg mb g) (F : Fr g L s.heap m)
    (hm1 : m (Str.ofString "hues") = some (.ref hu)) (hm3 : m (Str.ofString "above") = some (.ref al)) (LC : LCols R [a0, a1, a2, a3, a4, a5, a6] ab)
    (N : News g L s.heap ((al, LCg.lst [.ref a0, .ref a1, .ref a2, .ref a3, .ref a4, .ref a5, .ref a6]) :: (hu, listOf hs k1) :: (wl, LCg.lst [.ref w0, .ref w1]) :: (L + 1 + 1 + 1, ow) :: (83, tabObj #[]) :: (76, tabObj #[]) :: (61, tabObj #[]) :: R))
    (hdp : dp + 20 < recursionLimit) (hun : un + 300 < cLine)
    (next : ∀ h' tk' m' ll k2, Fr g L h' m' → m' (Str.ofString "hues") = some (.ref hu) → m' (Str.ofString "above") = some (.ref al) → m' (Str.ofString "linked") = some (.ref ll) →
      News g L h' ((ll, ({ cls := .type "list", data := .seq ((((List.range' 0 6).map fun j => alikeC (ab.getD j (0, 0, 0)) (ab.getD (j + 1) (0, 0, 0))) ++ [false]).map Value.bool).toArray k2 } : Obj)) :: (al, LCg.lst [.ref a0, .ref a1, .ref a2, .ref a3, .ref a4, .ref a5, .ref a6]) :: (hu, listOf hs k1) :: (wl, LCg.lst [.ref w0, .ref w1]) :: (L + 1 + 1 + 1, ow) :: (83, tabObj #[]) :: (76, tabObj #[]) :: (61, tabObj #[]) :: R) →
      Rest 8 w dp un gd fr L fa cd Q E { s with heap := h', toks := tk' }) :
    Rest 7 w dp un gd fr L fa cd Q E s := by
  (show wpAny _ (Around.deeper _ (envOfC _ ⟨_, _, _, _, _⟩ _ _ _)) (execs (_ :: _) (envOfC _ ⟨_, _, _, _, _⟩ _ _ _)) _ _ _)
  rw [map2b hm1 hm3] at F
  k_steps
  refine Halt.out ?_
  refine comp_zip (h₀ := g) (L := L) (m := fun y => if y = Str.ofString "hues" then some (.ref hu) else if y = Str.ofString "above" then some (.ref al) else m y) (G := fun j y => y = .bool (alikeC (ab.getD j (0, 0, 0)) (ab.getD (j + 1) (0, 0, 0)))) (by rfl) (by with_unfolding_all rfl) (by decide) (by rfl) (by decide) (by rfl) (by rfl) (by decide) ?_
  k_steps
  refine Halt.out ?_
  (rename Fr _ _ _ _ => F9)
  (rename News _ _ _ _ => N9)
  refine zip_call (by rfl) F9 N9 (list_mem N9 (by k_mem)) (list_mem N9 (by k_mem)) (by first | size_fits | exact Nat.le_of_ble_eq_true rfl) ?_ ?_
  · intro i v1 v2 C oC m₂ h tk E' hi hp1 hp2 hC hx hx2 F N
    obtain ⟨r, hr, rfl⟩ := ref_item (rs := [a0, a1, a2, a3, a4, a5, a6]) hp1
    obtain ⟨r2, hr2, rfl⟩ := ref_item (rs := [a1, a2, a3, a4, a5, a6]) hp2
    obtain ⟨a, b, c, o, hcs, hmR, h3, hc⟩ := LC.each i r hr
    obtain ⟨d, e, f, o', hcs', hmR', h3', hc'⟩ := LC.each (i + 1) r2 hr2
    (try dsimp only)
    k_steps
    (rename Fr _ _ _ _ => F8)
    (rename News _ _ _ _ => N8)
    refine Halt.out ?_
    refine (alike_ok w r r2 a b c d e f hc hc') p loose mean mg mb _ _ _ _ _ _ _ (X.keeps F8.keep) (T.keeps F8.keep) (by walk_at "m room") (by walk_at "m room")
      ⟨pre3_of N8 (by (repeat (first | exact hmR | apply List.mem_cons_of_mem))) h3, pre3_of N8 (by (repeat (first | exact hmR' | apply List.mem_cons_of_mem))) h3'⟩ ?_
    intro rv tl h' tk' k' fr' po
    obtain ⟨rfl, rfl⟩ := po
    refine ⟨h', tk', rfl, k', ?_⟩
    show Value.bool _ = Value.bool _
    rw [List.getD_eq_getElem?_getD, List.getD_eq_getElem?_getD, hcs, hcs']; rfl
  · intro D zs h tk hl hg F N off
    obtain ⟨y0, y1, y2, y3, y4, y5, rfl⟩ := list6 hl
    · clear hl
      have e0 := hg 0 y0 rfl
      have e1 := hg 1 y1 rfl
      have e2 := hg 2 y2 rfl
      have e3 := hg 3 y3 rfl
      have e4 := hg 4 y4 rfl
      have e5 := hg 5 y5 rfl
      (try dsimp only at e0 e1 e2 e3 e4 e5)
      subst e0; subst e1; subst e2; subst e3; subst e4; subst e5
      clear hg F9 N9
      (try dsimp only)
      iterate 8 walk1
      (show wpAny (model Challenge.pw_mr0087_01 _) ((AA _ _ _ _).deeper (lawEnv _ _ _)) (execs (lawBody.drop 8) (lawEnv _ _ _)) _ _ _)
      (rename Fr _ _ _ _ => F8)
      (rename News _ _ _ _ => N8)
      with_reducible refine' next _ _ _ _ _ F8 ?za ?zb ?zc ?zd
      (case za => rfl)
      (case zb => rfl)
      (case zc => rfl)
      (case zd => exact news_sub N8 (List.forall_mem_cons.mpr ⟨by k_mem, List.forall_mem_cons.mpr ⟨by k_mem, List.forall_mem_cons.mpr ⟨by k_mem, List.forall_mem_cons.mpr ⟨by k_mem, List.forall_mem_cons.mpr ⟨by k_mem, List.forall_mem_cons.mpr ⟨by k_mem, List.forall_mem_cons.mpr ⟨by k_mem, List.forall_mem_cons.mpr ⟨by k_mem, fun p hp => by
        (repeat (first | exact hp | apply List.mem_cons_of_mem))⟩⟩⟩⟩⟩⟩⟩⟩))
end
end
end
end
theorem start_30 : True := by
  w_top off
  have : True ∧ True := by
    first
    | (walk1; done)
    | exact ⟨trivial, trivial⟩
  trivial
theorem start_31 : True := by
  w_top off
  have : True ∧ True := by
    first
    | (walk1; done)
    | exact ⟨trivial, trivial⟩
  trivial
section
open PySem PySem.W PySem.Calls PyProof.Rows
set_option maxRecDepth 100000
set_option maxHeartbeats 4000000
theorem fill_GH : (Challenge.rw_mr0087_01 = Challenge.rw_mr0087_01 ∧ hd.heap_39 = hd.heap_39) → True := by
  k_fill
  intro _; trivial
section
variable {w : World} {p : Program} {loose : List Str} {mean : ExcName → Option Value} {mg mb : Str → Option Value} {dp un : Nat} {gd : Option (List Code)} {fr : Option (List Env)} {s : Shared} {Q : Flow → Shared → Prop} {E : Value → Shared → Prop} {g : Heap} {L fa : Addr} {cd : Value} {m : Str → Option Value}
theorem st_fits {al ll wl w0 w1 a0 a1 a2 a3 a4 a5 a6 hu : Addr} {ow ow0 : Obj} {x0 y0 z0 : Int} {hs lk : Array Value} {k1 k2 : Nat} {ab : List (Int × Int × Int)} {R : List (Addr × Obj)} (X : (hd.heap_39 w.params).In g) (T : Top p loose mean mg mb g) (F : Fr g L s.heap m)
    (hm1 : m (Str.ofString "hues") = some (.ref hu)) (hm2 : m (Str.ofString "above") = some (.ref al)) (hm3 : m (Str.ofString "linked") = some (.ref ll)) (LC : LCols R [a0, a1, a2, a3, a4, a5, a6] ab) (mw : (w0, ow0) ∈ R) (hw0 : List3 x0 y0 z0 ow0) (iw0 : IsWay x0 y0 z0) (d1 : ow.data = .cell (some (.ref wl)))
    (N : News g L s.heap ((ll, ({ cls := .type "list", data := .seq lk k2 } : Obj)) :: (al, LCg.lst [.ref a0, .ref a1, .ref a2, .ref a3, .ref a4, .ref a5, .ref a6]) :: (hu, listOf hs k1) :: (wl, LCg.lst [.ref w0, .ref w1]) :: (L + 1 + 1 + 1, ow) :: (83, tabObj #[]) :: (76, tabObj #[]) :: (61, tabObj #[]) :: R))
    (hdp : dp + 20 < recursionLimit) (hun : un + 300 < cLine)
    (next : ∀ h' tk' m' fl, Fr g L h' m' → m' (Str.ofString "hues") = some (.ref hu) → m' (Str.ofString "above") = some (.ref al) → m' (Str.ofString "linked") = some (.ref ll) → m' (Str.ofString "fits") = some (.ref fl) →
      News g L h' ((fl, LCg.lst (((List.range' 0 7).map fun j => alikeC (ab.getD j (0, 0, 0)) (x0, y0, z0)).map Value.bool)) :: (ll, ({ cls := .type "list", data := .seq lk k2 } : Obj)) :: (al, LCg.lst [.ref a0, .ref a1, .ref a2, .ref a3, .ref a4, .ref a5, .ref a6]) :: (hu, listOf hs k1) :: (83, tabObj #[]) :: (76, tabObj #[]) :: (61, tabObj #[]) :: R) →
      Rest 9 w dp un gd fr L fa cd Q E { s with heap := h', toks := tk' }) :
    Rest 8 w dp un gd fr L fa cd Q E s := by
  (show wpAny _ (Around.deeper _ (envOfC _ ⟨_, _, _, _, _⟩ _ _ _)) (execs (_ :: _) (envOfC _ ⟨_, _, _, _, _⟩ _ _ _)) _ _ _)
  rw [map3b hm1 hm2 hm3] at F
  k_steps
  refine Halt.out ?_
  k_dflt (refine LCg.CompSrc.ledger (by rfl) (by k_asm) (by k_asm) (by k_mem) (by first | size_fits | exact Nat.le_of_ble_eq_true rfl) ?_)
  intro g3
  (try dsimp only)
  refine comp_each (fun i y _ => y = .bool (alikeC (ab.getD i (0, 0, 0)) (x0, y0, z0))) (fun _ _ _ _ _ h => h) (.inr ⟨_, by k_mem, rfl, _, rfl⟩) ?_ ?_
  · intro i hi news hsub hS v I oI C oC D' m₂ h tk E' ys hp hC hx F N off ne
    obtain ⟨r, hr, rfl⟩ := ref_item (rs := [a0, a1, a2, a3, a4, a5, a6]) hp
    obtain ⟨a, b, c, o, hcs, hmR, h3, hc⟩ := LC.each i r hr
    replace N := news_more hsub N
    simp only [List.cons_append, List.nil_append] at N
    (try dsimp only)
    k_steps
    (rename Fr _ _ _ _ => F9)
    (rename News _ _ _ _ => N9)
    refine Halt.out ?_
    refine useC (alike_ok _ r w0 a b c x0 y0 z0 hc iw0.col) F9 (by k_asm) N9 (by k_asm) (by walk_at "m room") (by walk_at "m room")
      ⟨pre3_of N9 (by (repeat (first | exact List.mem_append_left _ hmR | apply List.mem_cons_of_mem))) h3, pre3_of N9 (by (repeat (first | exact List.mem_append_left _ mw | apply List.mem_cons_of_mem))) hw0⟩ ?_
    intro rv tl h' tk' po F8 N8 ne8
    obtain ⟨rfl, rfl⟩ := po
    simp only [List.nil_append] at N8
    refine turn_plain F8 N8 (fun p hp => ?_) off hS ⟨fun _ h => h, ?_⟩
    · simp only [List.mem_cons] at hp ⊢
      rcases hp with h | h | h | h <;> first | walk_at "m in" | simp [h]
    · show Value.bool _ = Value.bool _
      rw [List.getD_eq_getElem?_getD, hcs]; rfl
  · intro ys news hl hg hsub hS
    have hb := bools_of ys 0 fun j y hy => by rw [Nat.zero_add]; exact hg j y hy
    rw [hl] at hb
    subst hb
    unfold LCg.FinA
    intro D h tk F N off
    (try dsimp only)
    (show wpAny (model Challenge.pw_mr0087_01 _) ((AA _ _ _ _).deeper (lawEnv _ _ _)) (execs (lawBody.drop 9) (lawEnv _ _ _)) _ _ _)
    with_reducible refine' next _ _ _ D F ?za ?zb ?zc ?zd ?ze
    (case za => rfl)
    (case zb => rfl)
    (case zc => rfl)
    (case zd => rfl)
    (case ze => exact news_cut (fun p hp => hsub p ((List.forall_mem_cons.mpr ⟨by k_mem, List.forall_mem_cons.mpr ⟨by k_mem, List.forall_mem_cons.mpr ⟨by k_mem, List.forall_mem_cons.mpr ⟨by k_mem, List.forall_mem_cons.mpr ⟨by k_mem, List.forall_mem_cons.mpr ⟨by k_mem, fun q hq => by
        (repeat (first | exact hq | apply List.mem_cons_of_mem))⟩⟩⟩⟩⟩⟩) p hp)) N)
end
end
section
open PySem PySem.W PySem.Calls PyProof.Rows PyProof.V PySem.Spec
set_option maxRecDepth 100000
/-- only these lists' own entries -/
theorem lcols_cut {R : List (Addr × Obj)} : ∀ (rs : List Addr) (cs : List (Int × Int × Int)), LCols R rs cs → ∃ R₂, LCols R₂ rs cs ∧ (∀ p ∈ R₂, p ∈ R) ∧ ∀ p ∈ R₂, ∃ a b c, List3 a b c p.2
  | [], cs, x => ⟨[], ⟨x.len, fun i r e => by simp at e⟩, fun _ h => absurd h List.not_mem_nil, fun _ h => absurd h List.not_mem_nil⟩
  | r :: rs, [], x => by have := x.len; simp at this
  | r :: rs, c :: cs, x => by
    obtain ⟨R₂, y, h1, h2⟩ := lcols_cut rs cs ⟨by simpa using x.len, fun i q e => x.each (i + 1) q e⟩
    obtain ⟨a, b, d, o, e1, m1, l1, c1⟩ := x.each 0 r rfl
    refine ⟨(r, o) :: R₂, ⟨x.len, fun i q e => ?_⟩, fun p hp => ?_, fun p hp => ?_⟩
    · cases i with
      | zero => cases e; exact ⟨a, b, d, o, e1, .head _, l1, c1⟩
      | succ i =>
        obtain ⟨a', b', d', o', f1, f2, f3⟩ := y.each i q e
        exact ⟨a', b', d', o', f1, .tail _ f2, f3⟩
    · rcases List.mem_cons.mp hp with rfl | hp
      · exact m1
      · exact h1 p hp
    · rcases List.mem_cons.mp hp with rfl | hp
      · exact ⟨a, b, d, l1⟩
      · exact h2 p hp
/-- the closure of _law_how_far, by its objects -/
noncomputable def FarL (w : World) (p : Program) (loose : List Str) (mean : ExcName → Option Value) (mg mb : Str → Option Value) (f : Addr) (KO : List (Addr × Obj)) (hue : Value) : Prop :=
  ∀ gS : Heap, (∀ q ∈ KO, gS.get? q.1 = some q.2) → (hd.heap_39 w.params).In gS → Top p loose mean mg mb gS → gS.get? 61 = none → ∀ row vs, gS.IsList row vs.toArray → (∀ v ∈ vs, FV v) → vs.length ≤ 100 → SearchC w gS f row (farF vs hue)
theorem far_objs {h : Heap} : ∀ keep : List Addr, (∀ a ∈ keep, ∃ o, h.get? a = some o) → ∃ KO : List (Addr × Obj), (∀ q ∈ KO, q.1 ∈ keep ∧ h.get? q.1 = some q.2) ∧ ∀ a ∈ keep, ∃ o, (a, o) ∈ KO ∧ h.get? a = some o
  | [], _ => ⟨[], fun _ h => absurd h List.not_mem_nil, fun _ h => absurd h List.not_mem_nil⟩
  | a :: r, hk => by
    obtain ⟨KO, h1, h2⟩ := far_objs r fun b hb => hk b (.tail _ hb)
    obtain ⟨o, ho⟩ := hk a (.head _)
    refine ⟨(a, o) :: KO, fun q hq => ?_, fun b hb => ?_⟩
    · rcases List.mem_cons.mp hq with rfl | hq
      · exact ⟨.head _, ho⟩
      · exact ⟨.tail _ (h1 q hq).1, (h1 q hq).2⟩
    · rcases List.mem_cons.mp hb with rfl | hb
      · exact ⟨o, .head _, ho⟩
      · obtain ⟨o', m', e'⟩ := h2 b hb
        exact ⟨o', .tail _ m', e'⟩
theorem FarC.toL {w : World} {h : Heap} {p : Program} {loose : List Str} {mean : ExcName → Option Value} {mg mb : Str → Option Value} {f : Addr} {keep : List Addr} {hue : Value} (x : FarC w h p loose mean mg mb f keep hue) {KO : List (Addr × Obj)}
    (hK : ∀ a ∈ keep, ∃ o, (a, o) ∈ KO ∧ h.get? a = some o) : FarL w p loose mean mg mb f KO hue := fun gS hq => x gS fun a ha => by
  obtain ⟨o, m, e⟩ := hK a ha
  exact (hq _ m).trans e.symm
theorem off_tab {g h : Heap} {L a : Addr} {ps : Array Value} {news : List (Addr × Obj)} {p : Addr × Obj} (N : News g L h news) (hp : p ∈ news) (e : h.get? a = some (tabObj ps)) (hn : p.2 ≠ tabObj ps) : p.1 ≠ a := fun q => by
  have := (N p hp).1
  rw [q, e] at this
  exact hn (Option.some.inj this).symm
theorem news_kpB {as : List Addr} {g h h2 : Heap} {L : Addr} {news : List (Addr × Obj)} (N : News g L h news) (off : ∀ p ∈ news, p.1 ∉ as) (kp : KpB as h h2) : News g L h2 news := fun p hp => ⟨kp _ _ (off p hp) (N p hp).1, (N p hp).2⟩
theorem news_app {g h : Heap} {L : Addr} {a b : List (Addr × Obj)} (N : News g L h a) (M : News g L h b) : News g L h (a ++ b) := fun p hp => by
  rcases List.mem_append.mp hp with q | q
  · exact N p q
  · exact M p q
theorem news_cons {g h : Heap} {L : Addr} {a : Addr × Obj} {b : List (Addr × Obj)} (e : h.get? a.1 = some a.2) (n : a.1 ≠ L) (z : g.get? a.1 = none) (M : News g L h b) : News g L h (a :: b) := fun p hp => by
  rcases List.mem_cons.mp hp with rfl | q
  · exact ⟨e, n, z⟩
  · exact M p q
/-- new objects of a call, as a ledger -/
theorem news_new {g h h2 : Heap} {L : Addr} {m : Str → Option Value} {KO : List (Addr × Obj)} (F : Fr g L h m) (h1 : ∀ q ∈ KO, h.get? q.1 = none) (h3 : ∀ q ∈ KO, h2.get? q.1 = some q.2) : News g L h2 KO := fun q hq => by
  refine ⟨h3 q hq, fun e => ?_, ?_⟩
  · obtain ⟨oL, _, _, hL, _⟩ := F.ns
    have := h1 q hq
    rw [e, hL] at this; cases this
  · cases e : g.get? q.1 with
    | none => rfl
    | some o => have := F.keep _ _ e; rw [h1 q hq] at this; cases this
end
section
local macro_rules | `(tactic| walk_at "subscriptTail") => `(tactic| (k_here; (with_reducible show wpAny _ _ (subscriptTail _ _ (Value.ref _) (Value.int _ _)) _ _ _); k_dflt (refine' item_N (j := 7) ?zzN ?zzm ?zzk ?zzx ?zzj ?_ ?zzhs; (case zzk => rfl); (case zzN => k_asm); (case zzm => k_mem); (case zzx => assumption); (case zzj => decide); (case zzhs => with_unfolding_all rfl); k_whole)))
theorem start_32 : True := by
  w_top off
  have : True ∧ True := by
    first
    | (walk1; done)
    | exact ⟨trivial, trivial⟩
  trivial
section
open PySem PySem.W PySem.Calls PyProof.Rows
set_option maxRecDepth 100000
set_option maxHeartbeats 4000000
theorem fill_GI : (Challenge.rw_mr0087_01 = Challenge.rw_mr0087_01 ∧ hd.heap_39 = hd.heap_39) → True := by
  k_fill
  intro _; trivial
section
variable {w : World} {p : Program} {loose : List Str} {mean : ExcName → Option Value} {mg mb : Str → Option Value} {dp un : Nat} {gd : Option (List Code)} {fr : Option (List Env)} {s : Shared} {Q : Flow → Shared → Prop} {E : Value → Shared → Prop} {g : Heap} {L fa : Addr} {cd : Value} {m : Str → Option Value}
theorem st_far {al ll fl a0 a1 a2 a3 a4 a5 a6 hu : Addr} {hs lk : Array Value} {fs : List Value} {k1 k2 : Nat} {x7 : UInt64} {t7 : Tok} {ab : List (Int × Int × Int)} {R : List (Addr × Obj)} (X : (hd.heap_39 w.params).In g) (T : Top p loose mean mg mb g) (F : Fr g L s.heap m)
    (hm1 : m (Str.ofString "hues") = some (.ref hu)) (hm2 : m (Str.ofString "above") = some (.ref al)) (hm3 : m (Str.ofString "linked") = some (.ref ll)) (hm4 : m (Str.ofString "fits") = some (.ref fl)) (LC : LCols R [a0, a1, a2, a3, a4, a5, a6] ab) (h7 : hs[7]? = some (.float x7 t7))
    (N : News g L s.heap ((fl, LCg.lst fs) :: (ll, ({ cls := .type "list", data := .seq lk k2 } : Obj)) :: (al, LCg.lst [.ref a0, .ref a1, .ref a2, .ref a3, .ref a4, .ref a5, .ref a6]) :: (hu, listOf hs k1) :: (83, tabObj #[]) :: (76, tabObj #[]) :: (61, tabObj #[]) :: R))
    (hdp : dp + 20 < recursionLimit) (hun : un + 300 < cLine)
    (next : ∀ h' tk' m' f oc od fd sl ps KO R₂, Fr g L h' m' → m' (Str.ofString "hues") = some (.ref hu) → m' (Str.ofString "above") = some (.ref al) → m' (Str.ofString "linked") = some (.ref ll) → m' (Str.ofString "fits") = some (.ref fl) → m' (Str.ofString "how_far") = some (.ref f) → LCols R₂ [a0, a1, a2, a3, a4, a5, a6] ab →
      (f, (⟨oc, od, .func fd, sl⟩ : Obj)) ∈ KO → FarL w p loose mean mg mb f KO (.float x7 t7) → (∀ q ∈ KO, q.1 ≠ 61 ∧ q.1 ≠ 83) → (∀ q ∈ R₂, ∃ a b c, List3 a b c q.2) →
      News g L h' ((fl, LCg.lst fs) :: (ll, ({ cls := .type "list", data := .seq lk k2 } : Obj)) :: (al, LCg.lst [.ref a0, .ref a1, .ref a2, .ref a3, .ref a4, .ref a5, .ref a6]) :: (hu, listOf hs k1) :: (83, tabObj #[]) :: (61, tabObj #[]) :: (76, tabObj ps) :: (KO ++ R₂)) →
      Rest 10 w dp un gd fr L fa cd Q E { s with heap := h', toks := tk' }) :
    Rest 9 w dp un gd fr L fa cd Q E s := by
  (show wpAny _ (Around.deeper _ (envOfC _ ⟨_, _, _, _, _⟩ _ _ _)) (execs (_ :: _) (envOfC _ ⟨_, _, _, _, _⟩ _ _ _)) _ _ _)
  rw [map4b hm1 hm2 hm3 hm4] at F
  k_steps
  refine Halt.out ?_
  (rename Fr _ _ _ _ => F9)
  (rename News _ _ _ _ => N9)
  have e76 := (N9 _ (by k_mem : (76, tabObj #[]) ∈ _)).1
  have z76 := (N9 _ (by k_mem : (76, tabObj #[]) ∈ _)).2.2
  refine how_ok w x7 t7 p loose mean mg mb _ _ _ _ _ _ _ g z76 F9.keep X T (by walk_at "m room") (by walk_at "m room") e76 ?_
  intro f h' tk' keep kp hk1 hk2 hf fn tb fc
  obtain ⟨ps, e76'⟩ := tb
  obtain ⟨R₂, LC2, hR1, hR2⟩ := lcols_cut _ _ LC
  obtain ⟨KO, hK1, hK2⟩ := far_objs keep hk2
  obtain ⟨ofn, mf, ef⟩ := hK2 f hf
  obtain ⟨oc, od, fd, sl, efn⟩ := fn
  rw [efn] at ef
  cases ef
  have n76 : (76 : Addr) ≠ L := ns_ne F9.ns e76 (by nofun)
  have F8 := fr_kpB F9 (as := [76]) (fun a ha => by rw [List.mem_singleton.mp ha]; exact z76) (fun hm => n76 (List.mem_singleton.mp hm).symm) kp
  have sub9 : ∀ q ∈ (fl, LCg.lst fs) :: (ll, ({ cls := .type "list", data := .seq lk k2 } : Obj)) :: (al, LCg.lst [.ref a0, .ref a1, .ref a2, .ref a3, .ref a4, .ref a5, .ref a6]) :: (hu, listOf hs k1) :: (83, tabObj #[]) :: (61, tabObj #[]) :: R₂, q ∈ (fl, LCg.lst fs) :: (ll, ({ cls := .type "list", data := .seq lk k2 } : Obj)) :: (al, LCg.lst [.ref a0, .ref a1, .ref a2, .ref a3, .ref a4, .ref a5, .ref a6]) :: (hu, listOf hs k1) :: (83, tabObj #[]) :: (76, tabObj #[]) :: (61, tabObj #[]) :: R :=
    List.forall_mem_cons.mpr ⟨by k_mem, List.forall_mem_cons.mpr ⟨by k_mem, List.forall_mem_cons.mpr ⟨by k_mem, List.forall_mem_cons.mpr ⟨by k_mem, List.forall_mem_cons.mpr ⟨by k_mem, List.forall_mem_cons.mpr ⟨by k_mem, fun q hq => by
      (repeat (first | exact hR1 q hq | apply List.mem_cons_of_mem))⟩⟩⟩⟩⟩⟩
  have N8 := news_kpB (as := [76]) (news_sub N9 sub9) (fun q hq hm => by
    have hm' : q.1 = 76 := List.mem_singleton.mp hm
    refine off_tab N9 (sub9 q hq) e76 ?_ hm'
    simp only [List.mem_cons] at hq
    rcases hq with rfl | rfl | rfl | rfl | rfl | rfl | hq
    · nofun
    · nofun
    · nofun
    · nofun
    · exact absurd hm' (by decide)
    · exact absurd hm' (by decide)
    · obtain ⟨a, b, c, ta, tb, tc, k, e⟩ := hR2 q hq
      rw [e]; nofun) kp
  have e61 := (N9 (61, tabObj #[]) (by k_mem)).1
  have e83 := (N9 (83, tabObj #[]) (by k_mem)).1
  have hKn : ∀ q ∈ KO, q.1 ≠ 61 ∧ q.1 ≠ 83 := fun q hq => by
    have z := hk1 _ (hK1 q hq).1
    refine ⟨fun e => ?_, fun e => ?_⟩
    · rw [e] at z; rw [show s.heap.get? 61 = none from z] at e61; cases e61
    · rw [e] at z; rw [show s.heap.get? 83 = none from z] at e83; cases e83
  have NK : News g L h' KO := news_new F9 (fun q hq => hk1 _ (hK1 q hq).1) fun q hq => (hK1 q hq).2
  have NA := news_app N8 (news_cons (a := (76, tabObj ps)) e76' n76 z76 NK)
  clear N8 NK F9 N9
  (try dsimp only)
  iterate 2 walk1
  (show wpAny (model Challenge.pw_mr0087_01 _) ((AA _ _ _ _).deeper (lawEnv _ _ _)) (execs (lawBody.drop 10) (lawEnv _ _ _)) _ _ _)
  (rename Fr _ _ _ _ => F7)
  (rename News _ _ _ _ => N7)
  with_reducible refine' next _ _ _ f oc od fd sl ps KO R₂ F7 ?za ?zb ?zc ?zd ?ze LC2 mf (fc.toL hK2) hKn hR2 ?zn
  (case za => rfl)
  (case zb => rfl)
  (case zc => rfl)
  (case zd => rfl)
  (case ze => rfl)
  (case zn => (
    refine news_sub N7 ?_
    intro q hq
    simp only [List.mem_cons, List.mem_append] at hq ⊢
    rcases hq with h | h | h | h | h | h | h | h | h <;> first | walk_at "m in" | simp [h]))
end
end
section
open PySem PySem.W PySem.Calls PyProof.Rows PyProof.V PySem.Spec
set_option maxRecDepth 100000
/-- a range's iterator: no table, no code -/
noncomputable def RI (o : Obj) : Prop := o.cls = .type "range_iterator" ∧ ∀ vs, o.data = .fields vs → ∀ q t, vs[1]? ≠ some (.str q t)
section
variable {prog : Program} {w : World} {A : Around} {E : Value → Shared → Prop} {s : Shared} {env : Env} {h₀ : Heap} {x : Str} {body : List Stmt} {Q : Flow → Shared → Prop}
theorem loopAtP {I : Addr} {fp : List Addr} {n : Nat} {P : Nat → Value → Prop} {St : Nat → Heap → Prop} {m₀ : Str → Option Value} {news : List (Addr × Obj)} (J : Nat → (Str → Option Value) → List (Addr × Obj) → Prop)
    (W : Walks prog w A I fp [I] n P St) (hL : env.locals ∉ fp) (hI : h₀.get? I = none) (hfp : ∀ b ∈ fp, b = I ∨ ∃ q, h₀.get? b = some q) (PO : Obj → Prop) (hIo : ∀ i h, St i h → ∃ o, h.get? I = some o ∧ PO o)
    (hst : St 0 s.heap) (F : Fr h₀ env.locals s.heap m₀) (N : News h₀ env.locals s.heap news) (off : ∀ p ∈ news, p.1 ≠ I) (hj : J 0 m₀ news)
    (turn : ∀ i v m₁ news₁ oI h tk, PO oI → i < n → P i v → J i m₁ news₁ → Fr h₀ env.locals h (fun y => if y = x then some v else m₁ y) → News h₀ env.locals h ((I, oI) :: news₁) → (∀ p ∈ news₁, p.1 ≠ I) →
      wpAny (model prog w) A (execs body env) (TEnd h₀ env.locals I oI (J (i + 1)) { s with heap := h, toks := tk } Q) E { s with heap := h, toks := tk })
    (done : ∀ m₁ news₁ h tk, J n m₁ news₁ → Fr h₀ env.locals h m₁ → News h₀ env.locals h news₁ → Q .next { s with heap := h, toks := tk }) :
    LoopAtV prog w A h₀ env x body Q E (.ref I) s := by
  refine ⟨I, fp, [I], n, P, St, m₀, news, J, rfl, W, hL, ?_, ?_, hst, F, N, hj, ?_, ?_⟩
  · intro b hb; rw [List.mem_singleton.mp hb]; exact hI
  · intro p hp hq; exact off p hp (List.mem_singleton.mp hq)
  · rintro i v m₁ news₁ s₁ own ⟨hh', tk', rfl⟩ hin hP hJ hoff hown hat hmem hst' F₁ N₁
    obtain ⟨oI, ho, hPO⟩ := hIo _ _ hst'
    have hIfp : I ∈ fp := W.sub I (List.mem_singleton.mpr rfl)
    have all1 := own_one hown hfp ho N₁
    have hio : (I, oI) ∈ own := hmem I hIfp hI oI ho
    refine wpAny_mono (turn i v m₁ news₁ oI hh' tk' hPO hin hP hJ F₁ (news_one hio N₁) fun p hp q => hoff p hp (List.mem_singleton.mpr q)) (fun f s₂ p => ?_) fun _ _ e => e
    have fin : (∃ h' tk m' news', s₂ = { s with heap := h', toks := tk } ∧ Fr h₀ env.locals h' m' ∧ News h₀ env.locals h' ((I, oI) :: news') ∧ (∀ p ∈ news', p.1 ≠ I) ∧ J (i + 1) m' news') →
        LoopStepU h₀ env.locals [I] own (J (i + 1)) { s with heap := hh', toks := tk' } .next s₂ := by
      rintro ⟨h', tk, m', news', e, F', N', of', hm⟩
      refine ⟨rfl, h', tk, m', news', e, F', fun p hp => ?_, fun p hp hq => of' p hp (List.mem_singleton.mp hq), hm⟩
      rcases List.mem_append.mp hp with hp | hp
      · rw [all1 p hp]; exact N' _ (.head _)
      · exact N' _ (.tail _ hp)
    cases f with
    | ret v => exact .ret p
    | brk => exact .brk p
    | next => exact .next (fin p)
    | cont => exact .cont (fin p)
  · rintro h' tk m' news' F' N' _ hJ
    exact done m' news' h' tk hJ F' N'
theorem iter_rngP {r : Addr} {a₀ b₀ : Int} {t₀ u₀ v₀ : Tok} {n : Nat} {m₀ : Str → Option Value} {news : List (Addr × Obj)} (J : Nat → (Str → Option Value) → List (Addr × Obj) → Prop)
    (hh : A.handled = none) (hr : IsRange s.heap r a₀ b₀ 1 t₀ u₀ v₀) (hsmall : Builtin.Range.small a₀ b₀ 1 = true) (hn : Builtin.Range.rangeSize a₀ b₀ 1 = (n : Int)) (F : Fr h₀ env.locals s.heap m₀) (N : News h₀ env.locals s.heap news) (hj : J 0 m₀ news)
    (turn : ∀ i t m₁ news₁ I oI h tk, RI oI → i < n → J i m₁ news₁ → Fr h₀ env.locals h (fun y => if y = x then some (.int (a₀ + (i : Int)) t) else m₁ y) → News h₀ env.locals h ((I, oI) :: news₁) → (∀ p ∈ news₁, p.1 ≠ I) →
      wpAny (model prog w) A (execs body env) (TEnd h₀ env.locals I oI (J (i + 1)) { s with heap := h, toks := tk } Q) E { s with heap := h, toks := tk })
    (done : ∀ m₁ news₁ h tk, J n m₁ news₁ → Fr h₀ env.locals h m₁ → News h₀ env.locals h news₁ → Q .next { s with heap := h, toks := tk }) :
    wpAny (model prog w) A (pyIter (.ref r)) (fun it s₂ => LoopAtV prog w A h₀ env x body Q E it s₂) E s := by
  refine wpAny_pyIter_range hr hsmall ?_
  have W : Walks prog w A s.heap.objs.size [s.heap.objs.size] [s.heap.objs.size] n (fun i v => i < n ∧ ∃ t, v = .int (a₀ + i * 1) t)
      (fun i h => IsRangeIter h s.heap.objs.size (a₀ + (i : Nat) * 1) ((n : Int) - (i : Nat)) 1) := (Walks.range hh _ a₀ 1 n).bound
  refine loopAtP J W ?_ (next_is_new F) (fun b hb => .inl (List.mem_singleton.mp hb)) RI (fun i h st => ⟨_, st, rfl, fun vs e q t z => by cases e; cases z⟩) (by show IsRangeIter _ _ _ _ _; rw [hn]; simpa using Heap.get?_push_size _ rfl) (F.push _)
    (fun p hp => ⟨Heap.get?_push_of_some _ (N p hp).1, (N p hp).2⟩) (fun p hp => Nat.ne_of_lt (Heap.lt_size (N p hp).1)) hj ?_ done
  · intro hm
    exact absurd F.ns.lt ((List.mem_singleton.mp hm) ▸ Nat.lt_irrefl _)
  · rintro i v m₁ news₁ oI h tk hO hi ⟨_, t, rfl⟩ hJ F₁ N₁ of₁
    rw [Int.mul_one] at F₁
    exact turn i t m₁ news₁ _ oI h tk hO hi hJ F₁ N₁ of₁
end
/-- these entries give the two tables -/
noncomputable def Tabs (tb : List (Addr × Obj)) : Prop := ∀ h : Heap, (∀ p ∈ tb, h.get? p.1 = some p.2) → HTab h ∧ TTab h
/-- an entry of a table or of a code -/
noncomputable def TC (o : Obj) : Prop := (∃ ps, o = tabObj ps) ∨ ∃ vs q t, o.data = .fields vs ∧ vs[1]? = some (.str q t)
theorem TC.off {o oI : Obj} (x : TC o) (y : RI oI) : o ≠ oI := fun e => by
  subst e
  rcases x with ⟨ps, rfl⟩ | ⟨vs, q, t, h1, h2⟩
  · cases y.1
  · exact y.2 vs h1 q t h2
theorem tabs_of {h : Heap} (ht : HTab h) (tt : TTab h) : ∃ tb, Tabs tb ∧ (∀ p ∈ tb, h.get? p.1 = some p.2) ∧ (∀ p ∈ tb, TC p.2) ∧ (∃ ps, (61, tabObj ps) ∈ tb) ∧ ∃ qs, (83, tabObj qs) ∈ tb := by
  have one : ∃ tb : List (Addr × Obj), (∀ h' : Heap, (∀ p ∈ tb, h'.get? p.1 = some p.2) → HTab h') ∧ (∀ p ∈ tb, h.get? p.1 = some p.2) ∧ (∀ p ∈ tb, TC p.2) ∧ ∃ ps, (61, tabObj ps) ∈ tb := by
    rcases ht with e | ⟨k1, k2, e, ⟨c1, o1, v1, t1, q1, e1, d1, f1⟩, ⟨c2, o2, v2, t2, q2, e2, d2, f2⟩, n1, n2⟩
    · exact ⟨[(61, tabObj #[])], fun h' hh => .inl (hh _ (.head _)), fun p hp => by rw [List.mem_singleton.mp hp]; exact e, fun p hp => by rw [List.mem_singleton.mp hp]; exact .inl ⟨_, rfl⟩, _, .head _⟩
    · cases q1; cases q2
      refine ⟨[(61, tabObj (tabH k1 k2)), (k1, o1), (k2, o2)], fun h' hh => .inr ⟨k1, k2, hh _ (.head _), ⟨k1, o1, v1, t1, rfl, hh _ (.tail _ (.head _)), d1, f1⟩, ⟨k2, o2, v2, t2, rfl, hh _ (.tail _ (.tail _ (.head _))), d2, f2⟩, n1, n2⟩, fun p hp => ?_, fun p hp => ?_, _, .head _⟩
      · simp only [List.mem_cons, List.not_mem_nil, or_false] at hp
        rcases hp with rfl | rfl | rfl
        · exact e
        · exact e1
        · exact e2
      · simp only [List.mem_cons, List.not_mem_nil, or_false] at hp
        rcases hp with rfl | rfl | rfl
        · exact .inl ⟨_, rfl⟩
        · exact .inr ⟨_, _, _, d1, f1⟩
        · exact .inr ⟨_, _, _, d2, f2⟩
  have two : ∃ tb : List (Addr × Obj), (∀ h' : Heap, (∀ p ∈ tb, h'.get? p.1 = some p.2) → TTab h') ∧ (∀ p ∈ tb, h.get? p.1 = some p.2) ∧ (∀ p ∈ tb, TC p.2) ∧ ∃ qs, (83, tabObj qs) ∈ tb := by
    obtain ⟨qs, e, r⟩ := tt
    rcases r with rfl | ⟨k, rfl, ⟨c, o, v, t, q, e1, d1, f1⟩, n1, n2⟩
    · exact ⟨[(83, tabObj #[])], fun h' hh => ⟨_, hh _ (.head _), .inl rfl⟩, fun p hp => by rw [List.mem_singleton.mp hp]; exact e, fun p hp => by rw [List.mem_singleton.mp hp]; exact .inl ⟨_, rfl⟩, _, .head _⟩
    · cases q
      refine ⟨[(83, tabObj (tabT k)), (k, o)], fun h' hh => ⟨_, hh _ (.head _), .inr ⟨k, rfl, ⟨k, o, v, t, rfl, hh _ (.tail _ (.head _)), d1, f1⟩, n1, n2⟩⟩, fun p hp => ?_, fun p hp => ?_, _, .head _⟩
      · simp only [List.mem_cons, List.not_mem_nil, or_false] at hp
        rcases hp with rfl | rfl
        · exact e
        · exact e1
      · simp only [List.mem_cons, List.not_mem_nil, or_false] at hp
        rcases hp with rfl | rfl
        · exact .inl ⟨_, rfl⟩
        · exact .inr ⟨_, _, _, d1, f1⟩
  obtain ⟨a, a1, a2, a3, ps, a4⟩ := one
  obtain ⟨b, b1, b2, b3, qs, b4⟩ := two
  refine ⟨a ++ b, fun h' hh => ⟨a1 h' fun p hp => hh p (List.mem_append_left _ hp), b1 h' fun p hp => hh p (List.mem_append_right _ hp)⟩, fun p hp => ?_, fun p hp => ?_, ⟨ps, List.mem_append_left _ a4⟩, ⟨qs, List.mem_append_right _ b4⟩⟩
  · rcases List.mem_append.mp hp with q | q
    · exact a2 p q
    · exact b2 p q
  · rcases List.mem_append.mp hp with q | q
    · exact a3 p q
    · exact b3 p q
end
section
open PySem PySem.W PySem.Calls PyProof.Rows PyProof.V PySem.Spec
set_option maxRecDepth 100000
theorem TC.nd {o : Obj} (x : TC o) : ∀ es ep, o.data ≠ .dict es ep := fun es ep h => by
  rcases x with ⟨ps, rfl⟩ | ⟨vs, q, t, h1, _⟩
  · cases h
  · rw [h1] at h; cases h
/-- the tables stand in the ledger, or in the base -/
structure TL (g : Heap) (news : List (Addr × Obj)) : Prop where
  tabs : ∃ tb, Tabs tb ∧ ∀ p ∈ tb, p ∈ news ∨ g.get? p.1 = some p.2
  t61 : ∃ ps, (61, tabObj ps) ∈ news
  t83 : ∃ qs, (83, tabObj qs) ∈ news
theorem TL.mono {g : Heap} {a b : List (Addr × Obj)} (x : TL g a) (h : ∀ p ∈ a, p ∈ b) : TL g b := by
  obtain ⟨⟨tb, h1, h2⟩, ⟨ps, h3⟩, qs, h4⟩ := x
  exact ⟨⟨tb, h1, fun p hp => (h2 p hp).imp (h p) id⟩, ⟨ps, h _ h3⟩, qs, h _ h4⟩
theorem TL.at {g h : Heap} {L : Addr} {m : Str → Option Value} {news : List (Addr × Obj)} (x : TL g news) (F : Fr g L h m) (N : News g L h news) : HTab h ∧ TTab h := by
  obtain ⟨tb, h1, h2⟩ := x.tabs
  refine h1 h fun p hp => ?_
  rcases h2 p hp with q | q
  · exact (N p q).1
  · exact F.keep _ _ q
theorem TL.of {g h : Heap} {L : Addr} {m : Str → Option Value} (F : Fr g L h m) (ht : HTab h) (tt : TTab h) (g61 : g.get? 61 = none) (g83 : g.get? 83 = none) : ∃ tn, TL g tn ∧ News g L h tn ∧ ∀ p ∈ tn, TC p.2 := by
  obtain ⟨tb, h1, h2, h3, ⟨ps, m1⟩, qs, m2⟩ := tabs_of ht tt
  refine ⟨tb.filter fun p => (g.get? p.1).isNone, ⟨⟨tb, h1, fun p hp => ?_⟩, ⟨ps, List.mem_filter.mpr ⟨m1, by show (g.get? 61).isNone = true; rw [g61]; rfl⟩⟩, qs, List.mem_filter.mpr ⟨m2, by show (g.get? 83).isNone = true; rw [g83]; rfl⟩⟩, fun p hp => ?_, fun p hp => h3 p (List.mem_filter.mp hp).1⟩
  · cases e : g.get? p.1 with
    | none => exact .inl (List.mem_filter.mpr ⟨hp, by rw [e]; rfl⟩)
    | some o =>
      have := F.keep _ _ e
      rw [h2 p hp] at this
      exact .inr this.symm
  · obtain ⟨hp1, hp2⟩ := List.mem_filter.mp hp
    exact ⟨h2 p hp1, ns_ne F.ns (h2 p hp1) (h3 p hp1).nd, Option.isNone_iff_eq_none.mp hp2⟩
/-- the objects that a told span brings -/
noncomputable def spanL (o : Option (Nat × Nat)) (r : Value) (tl : List (Addr × Obj)) : Prop := PostSpan o r tl
theorem told_call {w : World} {p : Program} {loose : List Str} {mean : ExcName → Option Value} {mg mb : Str → Option Value} {dp un : Nat} {gd : Option (List Code)} {fr : Option (List Env)} {s : Shared} {Q E : Value → Shared → Prop} {g : Heap} {L sf row : Addr} {m : Str → Option Value} {news : List (Addr × Obj)}
    {spec : Nat → Option (Nat × Nat)} {col : Nat} {tc : Tok} (X : (hd.heap_39 w.params).In g) (T : Top p loose mean mg mb g) (F : Fr g L s.heap m) (N : News g L s.heap news) (tl : TL g news) (hspec : ∀ b i j, spec b = some (i, j) → b ≤ i ∧ i ≤ j) (hcol : col ≤ 7) (hdp : dp + 8 < recursionLimit) (hun : un + 140 < cLine) (hfn : FnAt sf s.heap)
    (hS : ∀ g1 : Heap, (hd.heap_39 w.params).In g1 → Top p loose mean mg mb g1 → g1.get? 61 = none → KpB [61, 83] s.heap g1 → SearchC w g1 sf row spec)
    (keepL : List (Addr × Obj)) (hkL : ∀ q ∈ keepL, q ∈ news ∧ (q.2.cls ≠ .none ∨ (q.1 ≠ 61 ∧ q.1 ≠ 83)))
    (h : ∀ r h' tk' tn sp, Fr g L h' m → News g L h' (sp ++ keepL ++ tn) → TL g tn → (∀ q ∈ tn, TC q.2) → PostSpan (rev spec col) r sp → Q r { s with heap := h', toks := tk' }) :
    wpAny (model Challenge.pw_mr0087_01 w) (AA dp un gd fr) (call (.ref 88) [.ref sf, .ref row, .int (col : Int) tc]) Q E s := by
  obtain ⟨ps, m61⟩ := tl.t61
  obtain ⟨qs, m83⟩ := tl.t83
  obtain ⟨ht, tt⟩ := tl.at F N
  have g61 := (N _ m61).2.2
  have g83 := (N _ m83).2.2
  obtain ⟨g1, hg0, X1, T1, kg, _, kb, _⟩ := ground (s := s) (K := hd.heap_39 w.params) [(61, tabObj ps), (83, tabObj qs)] (fun q hq => by
      simp only [List.mem_cons, List.not_mem_nil, or_false] at hq
      rcases hq with rfl | rfl
      · exact (N _ m61).1
      · exact (N _ m83).1) (fun q hq => by
      simp only [List.mem_cons, List.not_mem_nil, or_false] at hq
      rcases hq with rfl | rfl
      · exact g61
      · exact g83) F.keep X T
  refine told_ok w sf row spec hspec col hcol tc p loose mean mg mb dp un gd fr s Q E g1 (hg0 _ (.head _)) (hg0 _ (.tail _ (.head _))) kg X1 T1 hdp hun ht tt hfn (hS g1 X1 T1 (hg0 _ (.head _)) kb) ?_
  intro r h' tk' kp ht' tt' po
  have nL : L ∉ ([61, 83] : List Addr) := fun hm => by
    simp only [List.mem_cons, List.not_mem_nil, or_false] at hm
    rcases hm with q | q
    · exact (N _ m61).2.1 q.symm
    · exact (N _ m83).2.1 q.symm
  have F' := fr_kpB F (as := [61, 83]) (fun a ha => by
    simp only [List.mem_cons, List.not_mem_nil, or_false] at ha
    rcases ha with rfl | rfl
    · exact g61
    · exact g83) nL kp
  obtain ⟨tn, TN, NT, hTC⟩ := TL.of F' ht' tt' g61 g83
  have NK : News g L h' keepL := fun q hq => by
    obtain ⟨a, bc⟩ := hkL q hq
    have b : q.1 ≠ 61 := bc.elim (fun z => off_tab N a (N _ m61).1 fun y => z (by rw [y])) And.left
    have c : q.1 ≠ 83 := bc.elim (fun z => off_tab N a (N _ m83).1 fun y => z (by rw [y])) And.right
    refine ⟨kp _ _ (fun hm => ?_) (N q a).1, (N q a).2⟩
    simp only [List.mem_cons, List.not_mem_nil, or_false] at hm
    rcases hm with z | z
    · exact b z
    · exact c z
  cases e : rev spec col with
  | none =>
    rw [e] at po
    refine h r h' tk' tn [] F' (news_app NK NT) TN hTC ?_
    rw [e]; exact ⟨po, rfl⟩
  | some ij =>
    obtain ⟨i, j⟩ := ij
    rw [e] at po
    obtain ⟨t, t1, t2, kk, rfl, et, nt⟩ := po
    refine h _ h' tk' tn [(t, ({ cls := .type "tuple", data := .seq #[.int (i : Int) t1, .int (j : Int) t2] kk } : Obj))] F' (news_app (news_app (news_new F (fun q hq => ?_) fun q hq => ?_) NK) NT) TN hTC ?_
    · rw [List.mem_singleton.mp hq]; exact nt
    · rw [List.mem_singleton.mp hq]; exact et
    · rw [e]; exact ⟨t, t1, t2, kk, rfl, rfl⟩
end
section
open PySem PySem.W PySem.Calls PyProof.Rows PyProof.V PySem.Spec PySem.SeqAt
set_option maxRecDepth 100000
theorem fn74 {w : World} {h : Heap} (X : (hd.heap_39 w.params).In h) : FnAt 74 h := ⟨_, _, _, _, X 74 _ rfl⟩
theorem ne_spans {prog : Program} {w : World} {A : Around} {E : Value → Shared → Prop} {s : Shared} {g : Heap} {L : Addr} {news : List (Addr × Obj)} {o : Option (Nat × Nat)} {r r2 : Value} {sp sp2 : List (Addr × Obj)} {Q : Value → Shared → Prop} (N : News g L s.heap news) (po : PostSpan o r sp) (po2 : PostSpan o r2 sp2)
    (h1 : ∀ p ∈ sp, p ∈ news) (h2 : ∀ p ∈ sp2, p ∈ news) (hun : A.units < cLine) (h : Q (.bool false) s) : wpAny (model prog w) A (compareOp .NotEq r r2) Q E s := by
  cases o with
  | none =>
    obtain ⟨rfl, _⟩ := po
    obtain ⟨rfl, _⟩ := po2
    exact RcNeAt.none_none prog w E Q h
  | some ij =>
    obtain ⟨i, j⟩ := ij
    obtain ⟨t, t1, t2, k, rfl, rfl⟩ := po
    obtain ⟨u, u1, u2, k', rfl, rfl⟩ := po2
    have l1 : s.heap.IsTuple t #[.int (i : Int) t1, .int (j : Int) t2] := ⟨_, (N _ (h1 _ (.head _))).1, rfl, _, rfl⟩
    have l2 : s.heap.IsTuple u #[.int (i : Int) u1, .int (j : Int) u2] := ⟨_, (N _ (h2 _ (.head _))).1, rfl, _, rfl⟩
    have key := RcNeAt.tuples (A := A) (e := fun _ => true) l1 l2 hun fun n n1 n2 => by
      match n, n1, n2 with
      | 0, _, _ => have := EqAt.int_int (A := A.in1) (s := s) (i : Int) t1 (i : Int) u1; rw [beq_self_eq_true] at this; exact this
      | 1, _, _ => have := EqAt.int_int (A := A.in1) (s := s) (j : Int) t2 (j : Int) u2; rw [beq_self_eq_true] at this; exact this
    exact key prog w E Q h
end
end
theorem start_33 : True := by
  w_top off
  have : True ∧ True := by
    first
    | (walk1; done)
    | exact ⟨trivial, trivial⟩
  trivial
theorem start_34 : True := by
  w_top off
  have : True ∧ True := by
    first
    | (walk1; done)
    | exact ⟨trivial, trivial⟩
  trivial
section
open PySem PySem.W PySem.Calls PyProof.Rows
set_option maxRecDepth 100000
set_option maxHeartbeats 4000000
theorem fill_GJ : (Challenge.rw_mr0087_01 = Challenge.rw_mr0087_01 ∧ hd.heap_39 = hd.heap_39) → True := by
  k_fill
  intro _; trivial
noncomputable def loopBody : List Stmt := match lawBody.drop 10 with
  | .For _ _ b _ _ :: _ => b
  | _ => []
section
variable {w : World} {p : Program} {loose : List Str} {mean : ExcName → Option Value} {mg mb : Str → Option Value} {dp un : Nat} {gd : Option (List Code)} {fr : Option (List Env)} {s : Shared} {Q : Flow → Shared → Prop} {E : Value → Shared → Prop} {g : Heap} {L fa : Addr} {cd : Value} {m : Str → Option Value}
theorem loop_turn {al ll fl a0 a1 a2 a3 a4 a5 a6 hu f I : Addr} {oI : Obj} {v0 v1 v2 v3 v4 v5 v6 v7 : Value} {bs fb : List Bool} {k1 k2 : Nat} {ab : List (Int × Int × Int)} {x7 : UInt64} {t7 ti : Tok} {KO R₂ tn : List (Addr × Obj)} {ps : Array Value} {i : Nat} {oc : Value} {od : Option Addr} {fd : FuncData} {sl : Array (Option Value)}
    (X : (hd.heap_39 w.params).In g) (T : Top p loose mean mg mb g) (F : Fr g L s.heap m)
    (hm1 : m (Str.ofString "hues") = some (.ref hu)) (hm2 : m (Str.ofString "above") = some (.ref al)) (hm3 : m (Str.ofString "linked") = some (.ref ll)) (hm4 : m (Str.ofString "fits") = some (.ref fl)) (hm5 : m (Str.ofString "how_far") = some (.ref f)) (hm6 : m (Str.ofString "col") = some (.int (i : Int) ti)) (hi : i < 8)
    (LC : LCols R₂ [a0, a1, a2, a3, a4, a5, a6] ab) (mf : (f, (⟨oc, od, .func fd, sl⟩ : Obj)) ∈ KO) (FL : FarL w p loose mean mg mb f KO (.float x7 t7)) (TN : TL g tn) (hKO : ∀ q ∈ KO, q.1 ≠ 61 ∧ q.1 ≠ 83) (hR2 : ∀ q ∈ R₂, ∃ a b c, List3 a b c q.2) (hRI : RI oI) (hvs : ∀ v ∈ [v0, v1, v2, v3, v4, v5, v6], FV v) (hbs : bs.length = ab.length)
    (PL1 : rev (strF [v0, v1, v2, v3, v4, v5, v6]) i = lastStr (nzOf ab) (fun j => bs.getD j false) i) (hsp1 : ∀ b i j, strF [v0, v1, v2, v3, v4, v5, v6] b = some (i, j) → b ≤ i ∧ i ≤ j)
    (N : News g L s.heap ((I, oI) :: (fl, LCg.lst (fb.map Value.bool)) :: (ll, ({ cls := .type "list", data := .seq (bs.map Value.bool).toArray k2 } : Obj)) :: (al, LCg.lst [.ref a0, .ref a1, .ref a2, .ref a3, .ref a4, .ref a5, .ref a6]) :: (hu, listOf #[v0, v1, v2, v3, v4, v5, v6, v7] k1) :: (76, tabObj ps) :: (KO ++ (R₂ ++ tn))))
    (hdp : dp + 20 < recursionLimit) (hun : un + 300 < cLine) (QT : Flow → Shared → Prop) (hfb : fb.length = 7)
    (PL2 : rev (farF [v0, v1, v2, v3, v4, v5, v6] (.float x7 t7)) i = lastTell (fun j => fb.getD j false) i) (hsp2 : ∀ b i j, farF [v0, v1, v2, v3, v4, v5, v6] (.float x7 t7) b = some (i, j) → b ≤ i ∧ i ≤ j)
    (hend : ∀ h' tk' m' tn', Fr g L h' m' → m' (Str.ofString "hues") = some (.ref hu) → m' (Str.ofString "above") = some (.ref al) → m' (Str.ofString "linked") = some (.ref ll) → m' (Str.ofString "fits") = some (.ref fl) → m' (Str.ofString "how_far") = some (.ref f) →
      News g L h' ((I, oI) :: (fl, LCg.lst (fb.map Value.bool)) :: (ll, ({ cls := .type "list", data := .seq (bs.map Value.bool).toArray k2 } : Obj)) :: (al, LCg.lst [.ref a0, .ref a1, .ref a2, .ref a3, .ref a4, .ref a5, .ref a6]) :: (hu, listOf #[v0, v1, v2, v3, v4, v5, v6, v7] k1) :: (76, tabObj ps) :: (KO ++ (R₂ ++ tn'))) → TL g tn' → (∀ q ∈ tn', TC q.2) → QT .next { s with heap := h', toks := tk' }) :
    wpAny (model Challenge.pw_mr0087_01 w) ((AA dp un gd fr).deeper (lawEnv L fa cd)) (execs loopBody (lawEnv L fa cd)) QT E s := by
  (show wpAny _ (Around.deeper _ (envOfC _ ⟨_, _, _, _, _⟩ _ _ _)) (execs (_ :: _) (envOfC _ ⟨_, _, _, _, _⟩ _ _ _)) _ _ _)
  rw [map7b hm1 hm2 hm3 hm4 hm5 hm6 hm6] at F
  k_steps
  refine Halt.out ?_
  (rename Fr _ _ _ _ => F9)
  (rename News _ _ _ _ => N9)
  have mrow := N9 _ (.head _)
  refine told_call X T F9 N9 (TN.mono (fun q hq => by
    iterate 7 apply List.mem_cons_of_mem
    exact List.mem_append_right _ (List.mem_append_right _ hq))) hsp1 (by omega) (by walk_at "m room") (by walk_at "m room") (fn74 (X.keeps F9.keep))
    (fun g1 X1 T1 h61 kb => SearchC.of_stretch hvs (Nat.le_of_ble_eq_true rfl) h61 X1 T1 ⟨_, kb _ _ ?zrow mrow.1, rfl, _, rfl⟩)
    ((I, oI) :: (fl, LCg.lst (fb.map Value.bool)) :: (ll, ({ cls := .type "list", data := .seq (bs.map Value.bool).toArray k2 } : Obj)) :: (al, LCg.lst [.ref a0, .ref a1, .ref a2, .ref a3, .ref a4, .ref a5, .ref a6]) :: (hu, listOf #[v0, v1, v2, v3, v4, v5, v6, v7] k1) :: (76, tabObj ps) :: (KO ++ R₂)) ?zk ?_
  (case zrow => (
    intro hm
    obtain ⟨qs, m83⟩ := TN.t83
    obtain ⟨qr, m61⟩ := TN.t61
    have e83 := (N9 _ (by iterate 7 apply List.mem_cons_of_mem
                          exact List.mem_append_right _ (List.mem_append_right _ m83))).1
    have e61 := (N9 _ (by iterate 7 apply List.mem_cons_of_mem
                          exact List.mem_append_right _ (List.mem_append_right _ m61))).1
    simp only [List.mem_cons, List.not_mem_nil, or_false] at hm
    rcases hm with q | q
    · exact off_tab N9 (.head _) e61 (by nofun) q
    · exact off_tab N9 (.head _) e83 (by nofun) q))
  (case zk => (
    intro q hq
    simp only [List.mem_cons, List.mem_append] at hq
    rcases hq with rfl | rfl | rfl | rfl | rfl | rfl | hq | hq
    · exact ⟨by k_mem, .inl (by rw [hRI.1]; nofun)⟩
    · exact ⟨by k_mem, .inl (by nofun)⟩
    · exact ⟨by k_mem, .inl (by nofun)⟩
    · exact ⟨by k_mem, .inl (by nofun)⟩
    · exact ⟨by k_mem, .inl (by nofun)⟩
    · exact ⟨by k_mem, .inr ⟨by show (76 : Nat) ≠ 61; decide, by show (76 : Nat) ≠ 83; decide⟩⟩
    · exact ⟨by iterate 7 apply List.mem_cons_of_mem
                exact List.mem_append_left _ hq, .inr (hKO q hq)⟩
    · refine ⟨by iterate 7 apply List.mem_cons_of_mem
                 exact List.mem_append_right _ (List.mem_append_left _ hq), .inl ?_⟩
      obtain ⟨a, b, c, ta, tb, tc, k, e⟩ := hR2 q hq
      rw [e]; nofun))
  intro r h' tk' tn' sp F8 N8 TN' hTC po
  rw [PL1] at po
  have N7 : News g L h' ((I, oI) :: (fl, LCg.lst (fb.map Value.bool)) :: (ll, ({ cls := .type "list", data := .seq (bs.map Value.bool).toArray k2 } : Obj)) :: (al, LCg.lst [.ref a0, .ref a1, .ref a2, .ref a3, .ref a4, .ref a5, .ref a6]) :: (hu, listOf #[v0, v1, v2, v3, v4, v5, v6, v7] k1) :: (76, tabObj ps) :: (KO ++ (R₂ ++ (tn' ++ sp)))) := news_sub N8 fun q hq => by
    simp only [List.mem_cons, List.mem_append] at hq ⊢
    rcases hq with h | h | h | h | h | h | h | h | h | h <;> first | walk_at "m in" | simp [h]
  have hab : ab.length = 7 := by rw [← LC.len]; rfl
  clear F9 N9 mrow N8
  (try dsimp only)
  k_steps
  refine Halt.out ?_
  (rename Fr _ _ _ _ => F6)
  (rename News _ _ _ _ => N6)
  refine useC (lastStretch_ok w al ll [a0, a1, a2, a3, a4, a5, a6] ab bs hbs i (by omega) ti) F6 X N6 T (by walk_at "m room") (by walk_at "m room")
    ⟨LC.pre (news_sub N6 (fun q hq => by
      iterate 6 apply List.mem_cons_of_mem
      exact List.mem_append_right _ (List.mem_append_left _ hq))) (list_mem N6 (by k_mem)) (by omega), list_mem N6 (by k_mem)⟩ ?_
  intro r2 sp2 h2 tk2 po2 F5 N5 ne5
  refine ne_spans N5 po po2 (fun q hq => List.mem_append_right _ (by
    iterate 6 apply List.mem_cons_of_mem
    exact List.mem_append_right _ (List.mem_append_right _ (List.mem_append_right _ hq)))) (fun q hq => List.mem_append_left _ hq) (by walk_at "m room") ?_
  have N4 := news_sub N5 (fun q hq => List.mem_append_right sp2 hq)
  clear N5 ne5 F6 N6 po2
  (try dsimp only)
  iterate 3 walk1
  (try dsimp only)
  k_steps
  refine Halt.out ?_
  (rename Fr _ _ _ _ => F9)
  (rename News _ _ _ _ => N9)
  have mrow := N9 _ (.head _)
  refine told_call X T F9 N9 (TN'.mono (fun q hq => by
    iterate 7 apply List.mem_cons_of_mem
    exact List.mem_append_right _ (List.mem_append_right _ (List.mem_append_left _ hq)))) hsp2 (by omega) (by walk_at "m room") (by walk_at "m room") ⟨oc, od, fd, sl, (N9 (f, ⟨oc, od, .func fd, sl⟩) ?zfn).1⟩
    (fun g1 X1 T1 h61 kb => FL g1 (fun q hq => kb _ _ (fun hm => ?zko) (N9 q ?zkm).1) X1 T1 h61 _ _ ⟨_, kb _ _ ?zrow mrow.1, rfl, _, rfl⟩ hvs (Nat.le_of_ble_eq_true rfl))
    ((I, oI) :: (fl, LCg.lst (fb.map Value.bool)) :: (ll, ({ cls := .type "list", data := .seq (bs.map Value.bool).toArray k2 } : Obj)) :: (al, LCg.lst [.ref a0, .ref a1, .ref a2, .ref a3, .ref a4, .ref a5, .ref a6]) :: (hu, listOf #[v0, v1, v2, v3, v4, v5, v6, v7] k1) :: (76, tabObj ps) :: (KO ++ R₂)) ?zk ?_
  (case zfn => (
    iterate 7 apply List.mem_cons_of_mem
    exact List.mem_append_left _ mf))
  (case zkm => (
    iterate 7 apply List.mem_cons_of_mem
    exact List.mem_append_left _ hq))
  (case zko => (
    simp only [List.mem_cons, List.not_mem_nil, or_false] at hm
    rcases hm with z | z
    · exact (hKO q hq).1 z
    · exact (hKO q hq).2 z))
  (case zrow => (
    intro hm
    obtain ⟨qs, m83⟩ := TN'.t83
    obtain ⟨qr, m61⟩ := TN'.t61
    have e83 := (N9 _ (by iterate 7 apply List.mem_cons_of_mem
                          exact List.mem_append_right _ (List.mem_append_right _ (List.mem_append_left _ m83)))).1
    have e61 := (N9 _ (by iterate 7 apply List.mem_cons_of_mem
                          exact List.mem_append_right _ (List.mem_append_right _ (List.mem_append_left _ m61)))).1
    simp only [List.mem_cons, List.not_mem_nil, or_false] at hm
    rcases hm with q | q
    · exact off_tab N9 (.head _) e61 (by nofun) q
    · exact off_tab N9 (.head _) e83 (by nofun) q))
  (case zk => (
    intro q hq
    simp only [List.mem_cons, List.mem_append] at hq
    rcases hq with rfl | rfl | rfl | rfl | rfl | rfl | hq | hq
    · exact ⟨by k_mem, .inl (by rw [hRI.1]; nofun)⟩
    · exact ⟨by k_mem, .inl (by nofun)⟩
    · exact ⟨by k_mem, .inl (by nofun)⟩
    · exact ⟨by k_mem, .inl (by nofun)⟩
    · exact ⟨by k_mem, .inl (by nofun)⟩
    · exact ⟨by k_mem, .inr ⟨by show (76 : Nat) ≠ 61; decide, by show (76 : Nat) ≠ 83; decide⟩⟩
    · exact ⟨by iterate 7 apply List.mem_cons_of_mem
                exact List.mem_append_left _ hq, .inr (hKO q hq)⟩
    · refine ⟨by iterate 7 apply List.mem_cons_of_mem
                 exact List.mem_append_right _ (List.mem_append_left _ hq), .inl ?_⟩
      obtain ⟨a, b, c, ta, tb, tc, k, e⟩ := hR2 q hq
      rw [e]; nofun))
  clear po hTC TN'
  intro r h' tk' tn' sp F8 N8 TN' hTC po
  rw [PL2] at po
  have N7 : News g L h' ((I, oI) :: (fl, LCg.lst (fb.map Value.bool)) :: (ll, ({ cls := .type "list", data := .seq (bs.map Value.bool).toArray k2 } : Obj)) :: (al, LCg.lst [.ref a0, .ref a1, .ref a2, .ref a3, .ref a4, .ref a5, .ref a6]) :: (hu, listOf #[v0, v1, v2, v3, v4, v5, v6, v7] k1) :: (76, tabObj ps) :: (KO ++ (R₂ ++ (tn' ++ sp)))) := news_sub N8 fun q hq => by
    simp only [List.mem_cons, List.mem_append] at hq ⊢
    rcases hq with h | h | h | h | h | h | h | h | h | h <;> first | walk_at "m in" | simp [h]
  clear F9 N9 mrow N8
  (try dsimp only)
  k_steps
  refine Halt.out ?_
  (rename Fr _ _ _ _ => F6)
  (rename News _ _ _ _ => N6)
  refine useC (lastTelling_ok w fl fb hfb i (by omega) ti) F6 X N6 T (by walk_at "m room") (by walk_at "m room") (list_mem N6 (by k_mem)) ?_
  intro r2 sp2 h2 tk2 po2 F5 N5 ne5
  refine ne_spans N5 po po2 (fun q hq => List.mem_append_right _ (by
    iterate 6 apply List.mem_cons_of_mem
    exact List.mem_append_right _ (List.mem_append_right _ (List.mem_append_right _ hq)))) (fun q hq => List.mem_append_left _ hq) (by walk_at "m room") ?_
  have N4 := news_sub N5 (fun q hq => List.mem_append_right sp2 hq)
  clear N5 ne5 F6 N6 po2
  (try dsimp only)
  k_steps
  (show QT .next _)
  refine hend _ _ _ tn' F5 rfl rfl rfl rfl rfl (news_sub N4 fun q hq => ?_) TN' hTC
  simp only [List.mem_cons, List.mem_append] at hq ⊢
  rcases hq with h | h | h | h | h | h | h | h | h <;> first | walk_at "m in" | simp [h]
end
end
section
local macro_rules | `(tactic| walk_at "pyIter ref") => `(tactic| (k_here; refine halt ?_))
section
local macro_rules | `(tactic| walk_at "exec For Name Call cons nil") => `(tactic| (k_here; refine halt ?_))
theorem start_35 : True := by
  w_top off
  have : True ∧ True := by
    first
    | (walk1; done)
    | exact ⟨trivial, trivial⟩
  trivial
section
open PySem PySem.W PySem.Calls PyProof.Rows
set_option maxRecDepth 100000
set_option maxHeartbeats 4000000
theorem fill_GK : (Challenge.rw_mr0087_01 = Challenge.rw_mr0087_01 ∧ hd.heap_39 = hd.heap_39) → True := by
  k_fill
  intro _; trivial
section
variable {w : World} {p : Program} {loose : List Str} {mean : ExcName → Option Value} {mg mb : Str → Option Value} {dp un : Nat} {gd : Option (List Code)} {fr : Option (List Env)} {s : Shared} {Q : Flow → Shared → Prop} {E : Value → Shared → Prop} {g : Heap} {L fa : Addr} {cd : Value} {m : Str → Option Value}
/-- between the turns -/
noncomputable def JLaw (g : Heap) (al ll fl hu f : Addr) (st : List (Addr × Obj)) (m : Str → Option Value) (news : List (Addr × Obj)) : Prop :=
  ∃ tn, m (Str.ofString "hues") = some (.ref hu) ∧ m (Str.ofString "above") = some (.ref al) ∧ m (Str.ofString "linked") = some (.ref ll) ∧ m (Str.ofString "fits") = some (.ref fl) ∧ m (Str.ofString "how_far") = some (.ref f) ∧ news = st ++ tn ∧ TL g tn ∧ ∀ q ∈ tn, TC q.2
theorem st_loop {al ll fl a0 a1 a2 a3 a4 a5 a6 hu f : Addr} {v0 v1 v2 v3 v4 v5 v6 v7 : Value} {bs fb : List Bool} {k1 k2 : Nat} {ab : List (Int × Int × Int)} {x7 : UInt64} {t7 : Tok} {KO R₂ : List (Addr × Obj)} {ps : Array Value} {oc : Value} {od : Option Addr} {fd : FuncData} {sl : Array (Option Value)}
    (X : (hd.heap_39 w.params).In g) (T : Top p loose mean mg mb g) (F : Fr g L s.heap m)
    (hm1 : m (Str.ofString "hues") = some (.ref hu)) (hm2 : m (Str.ofString "above") = some (.ref al)) (hm3 : m (Str.ofString "linked") = some (.ref ll)) (hm4 : m (Str.ofString "fits") = some (.ref fl)) (hm5 : m (Str.ofString "how_far") = some (.ref f))
    (LC : LCols R₂ [a0, a1, a2, a3, a4, a5, a6] ab) (mf : (f, (⟨oc, od, .func fd, sl⟩ : Obj)) ∈ KO) (FL : FarL w p loose mean mg mb f KO (.float x7 t7)) (hKO : ∀ q ∈ KO, q.1 ≠ 61 ∧ q.1 ≠ 83) (hR2 : ∀ q ∈ R₂, ∃ a b c, List3 a b c q.2)
    (hvs : ∀ v ∈ [v0, v1, v2, v3, v4, v5, v6], FV v) (hbs : bs.length = ab.length) (hfb : fb.length = 7)
    (PL1 : ∀ i, i ≤ 7 → rev (strF [v0, v1, v2, v3, v4, v5, v6]) i = lastStr (nzOf ab) (fun j => bs.getD j false) i) (hsp1 : ∀ b i j, strF [v0, v1, v2, v3, v4, v5, v6] b = some (i, j) → b ≤ i ∧ i ≤ j)
    (PL2 : ∀ i, i ≤ 7 → rev (farF [v0, v1, v2, v3, v4, v5, v6] (.float x7 t7)) i = lastTell (fun j => fb.getD j false) i) (hsp2 : ∀ b i j, farF [v0, v1, v2, v3, v4, v5, v6] (.float x7 t7) b = some (i, j) → b ≤ i ∧ i ≤ j)
    (N : News g L s.heap ((fl, LCg.lst (fb.map Value.bool)) :: (ll, ({ cls := .type "list", data := .seq (bs.map Value.bool).toArray k2 } : Obj)) :: (al, LCg.lst [.ref a0, .ref a1, .ref a2, .ref a3, .ref a4, .ref a5, .ref a6]) :: (hu, listOf #[v0, v1, v2, v3, v4, v5, v6, v7] k1) :: (83, tabObj #[]) :: (61, tabObj #[]) :: (76, tabObj ps) :: (KO ++ R₂)))
    (hdp : dp + 20 < recursionLimit) (hun : un + 300 < cLine)
    (hret : ∀ h' m' tk' ps qs rs, Fr g L h' m' → News g L h' [(83, tabObj qs), (76, tabObj rs), (61, tabObj ps)] → Q (.ret (.bool true)) { s with heap := h', toks := tk' }) :
    Rest 10 w dp un gd fr L fa cd Q (fun _ _ => False) s := by
  (show wpAny _ (Around.deeper _ (envOfC _ ⟨_, _, _, _, _⟩ _ _ _)) (execs (_ :: _) (envOfC _ ⟨_, _, _, _, _⟩ _ _ _)) _ _ _)
  rw [map4b hm1 hm2 hm3 hm4] at F
  k_steps
  refine Halt.out ?_
  refine For_invV g rfl rfl ?_
  k_steps
  refine Halt.out ?_
  (rename Fr _ _ _ _ => F9)
  (rename News _ _ _ _ => N9)
  (rename IsRange _ _ _ _ _ _ _ _ => hR)
  refine iter_rngP (n := 8) (fun _ m news => JLaw g al ll fl hu f ((fl, LCg.lst (fb.map Value.bool)) :: (ll, ({ cls := .type "list", data := .seq (bs.map Value.bool).toArray k2 } : Obj)) :: (al, LCg.lst [.ref a0, .ref a1, .ref a2, .ref a3, .ref a4, .ref a5, .ref a6]) :: (hu, listOf #[v0, v1, v2, v3, v4, v5, v6, v7] k1) :: (76, tabObj ps) :: (KO ++ R₂)) m news) rfl hR (by first | decide | rfl) (by first | rfl | decide) F9 (news := ((fl, LCg.lst (fb.map Value.bool)) :: (ll, ({ cls := .type "list", data := .seq (bs.map Value.bool).toArray k2 } : Obj)) :: (al, LCg.lst [.ref a0, .ref a1, .ref a2, .ref a3, .ref a4, .ref a5, .ref a6]) :: (hu, listOf #[v0, v1, v2, v3, v4, v5, v6, v7] k1) :: (76, tabObj ps) :: (KO ++ R₂)) ++ [(83, tabObj #[]), (61, tabObj #[])]) ?_ ?_ ?_ ?_
  · exact news_sub N9 fun q hq => by
      simp only [List.mem_cons, List.mem_append, List.not_mem_nil, or_false] at hq ⊢
      rcases hq with (h | h | h | h | h | h | h) | h | h <;> first | walk_at "m in" | simp [h]
  · exact ⟨_, rfl, rfl, rfl, rfl, hm5, rfl, ⟨⟨[(61, tabObj #[]), (83, tabObj #[])], fun h hh => ⟨.inl (hh _ (.head _)), ⟨#[], hh _ (.tail _ (.head _)), .inl rfl⟩⟩, fun q hq => .inl (by
      simp only [List.mem_cons, List.not_mem_nil, or_false] at hq ⊢
      exact hq.symm)⟩, ⟨#[], .tail _ (.head _)⟩, #[], .head _⟩, fun q hq => by
      simp only [List.mem_cons, List.not_mem_nil, or_false] at hq
      rcases hq with rfl | rfl <;> exact .inl ⟨_, rfl⟩⟩
  · intro i t m₁ news₁ I oI h tk hO hi hJ F1 N1 of1
    obtain ⟨tn, j1, j2, j3, j4, j5, rfl, TN, hTC⟩ := hJ
    (show wpAny (model Challenge.pw_mr0087_01 _) ((AA _ _ _ _).deeper (lawEnv _ _ _)) (execs loopBody (lawEnv _ _ _)) _ _ _)
    with_reducible refine' loop_turn (I := I) (oI := oI) (v7 := v7) (k1 := k1) (k2 := k2) (i := i) (ti := t) (KO := KO) (R₂ := R₂) (tn := tn) (ps := ps) X T F1 ?z1 ?z2 ?z3 ?z4 ?z5 ?z6 hi LC mf FL TN hKO hR2 hO hvs hbs (PL1 i (Nat.le_of_lt_succ hi)) hsp1 ?zN hdp hun _ hfb (PL2 i (Nat.le_of_lt_succ hi)) hsp2 ?zE
    (case z1 => exact j1)
    (case z2 => exact j2)
    (case z3 => exact j3)
    (case z4 => exact j4)
    (case z5 => exact j5)
    (case z6 => ((show some (Value.int (0 + (i : Int)) t) = _); rw [Int.zero_add]))
    (case zN => (refine news_sub N1 (fun q hq => ?_); simp only [List.mem_cons, List.mem_append] at hq ⊢; rcases hq with h | h | h | h | h | h | h | h | h <;> first | walk_at "m in" | simp [h]))
    case zE =>
      intro h' tk' m' tn' F' e1 e2 e3 e4 e5 N' TN' hTC'
      refine ⟨h', tk', m', _ ++ tn', rfl, F', news_sub N' fun q hq => ?_, fun q hq => ?_, tn', e1, e2, e3, e4, e5, rfl, TN', hTC'⟩
      · simp only [List.mem_cons, List.mem_append] at hq ⊢
        rcases hq with h | (h | h | h | h | h | h | h) | h <;> first | walk_at "m in" | simp [h]
      · rcases List.mem_append.mp hq with z | z
        · exact of1 q (List.mem_append_left _ z)
        · intro e
          have a := (N' q (by simp [z])).1
          have b := (N' (I, oI) (.head _)).1
          rw [e, show h'.get? I = some oI from b] at a
          exact (hTC' q z).off hO (Option.some.inj a).symm
  · intro m₁ news₁ h tk hJ F1 N1
    obtain ⟨tn, j1, j2, j3, j4, j5, rfl, TN, hTC⟩ := hJ
    obtain ⟨ps1, m1⟩ := TN.t61
    obtain ⟨qs1, m2⟩ := TN.t83
    (try dsimp only)
    k_steps
    (rename Fr _ _ _ _ => F8)
    refine hret _ _ _ ps1 qs1 ps F8 (news_sub N1 fun q hq => ?_)
    simp only [List.mem_cons, List.not_mem_nil, or_false] at hq
    rcases hq with rfl | rfl | rfl
    · exact List.mem_append_right _ m2
    · exact List.mem_append_left _ (by k_mem)
    · exact List.mem_append_right _ m1
end
end
end
end
end
end
end
end
end
end
end
end
end
end
end
end
end
end
end
end
end
end
end
theorem start_36 : True := by
  w_top off
  have : True ∧ True := by
    first
    | (walk1; done)
    | exact ⟨trivial, trivial⟩
  trivial
section
theorem upGo_spec {p : Nat → Bool} : ∀ (k b : Nat), b ≤ upGo p k b ∧ upGo p k b ≤ b + k ∧ (∀ j, b ≤ j → j < upGo p k b → p j = true) ∧ (upGo p k b < b + k → p (upGo p k b) = false)
  | 0, b => ⟨Nat.le_refl _, Nat.le_refl _, fun j h1 h2 => absurd h2 (by simp only [upGo]; omega), fun h => absurd h (by simp only [upGo]; omega)⟩
  | k + 1, b => by
    unfold upGo
    by_cases h : p b = true
    · rw [if_pos h]
      obtain ⟨h1, h2, h3, h4⟩ := upGo_spec (p := p) k (b + 1)
      refine ⟨by omega, by omega, fun j j1 j2 => ?_, fun q => h4 (by omega)⟩
      rcases Nat.eq_or_lt_of_le j1 with e | e
      · rw [← e]; exact h
      · exact h3 j e j2
    · rw [if_neg h]
      exact ⟨Nat.le_refl _, by omega, fun j j1 j2 => by omega, fun _ => by simpa using h⟩
theorem upTo_spec {p : Nat → Bool} {n b : Nat} (hb : b ≤ n) : b ≤ upTo p n b ∧ upTo p n b ≤ n ∧ (∀ j, b ≤ j → j < upTo p n b → p j = true) ∧ (upTo p n b < n → p (upTo p n b) = false) := by
  obtain ⟨h1, h2, h3, h4⟩ := upGo_spec (p := p) (n - b) b
  unfold upTo
  exact ⟨h1, by omega, h3, fun q => h4 (by omega)⟩
theorem upTo_ge {p : Nat → Bool} {n b : Nat} : b ≤ upTo p n b := (upGo_spec (n - b) b).1
theorem lastStr_skip {nz lk : Nat → Bool} {a : Nat} : ∀ {c : Nat}, a ≤ c → (∀ j, a ≤ j → j < c → (nz j && !lk j) = false) → lastStr nz lk c = lastStr nz lk a
  | 0, h, _ => by rw [show a = 0 by omega]
  | c + 1, h, hj => by
    rcases Nat.eq_or_lt_of_le h with e | e
    · rw [e]
    · rw [lastStr, if_neg (by rw [hj c (by omega) (by omega)]; exact Bool.false_ne_true)]
      exact lastStr_skip (by omega) fun j h1 h2 => hj j h1 (by omega)
theorem goFirst_is {lk : Nat → Bool} {f : Nat} : ∀ {e : Nat}, f ≤ e → (∀ j, f ≤ j → j < e → lk j = true) → (f = 0 ∨ lk (f - 1) = false) → goFirst lk e = f
  | 0, h, _, _ => by rw [show f = 0 by omega]; rfl
  | e + 1, h, hj, hf => by
    rcases Nat.eq_or_lt_of_le h with q | q
    · subst q
      rw [goFirst]
      rcases hf with hf | hf
      · omega
      · rw [if_neg (by rw [show e + 1 - 1 = e by omega] at hf; rw [hf]; exact Bool.false_ne_true)]
    · rw [goFirst, if_pos (hj e (by omega) (by omega))]
      exact goFirst_is (by omega) (fun j h1 h2 => hj j h1 (by omega)) hf
end
section
section
variable {cl : Nat → Nat} {n : Nat}
/-- the next stretch, by classes (0: grey) -/
noncomputable def strN (cl : Nat → Nat) (n b : Nat) : Option (Nat × Nat) :=
  let f := upTo (fun j => cl j == 0) n b
  let e := upTo (fun j => cl j == cl f) n f
  if f < e then some (f, e) else none
noncomputable def lkN (cl : Nat → Nat) (n j : Nat) : Bool := decide (j + 1 < n ∧ cl j ≠ 0 ∧ cl j = cl (j + 1))
noncomputable def nzN (cl : Nat → Nat) (n j : Nat) : Bool := decide (j < n ∧ cl j ≠ 0)
structure IsStr (cl : Nat → Nat) (n i j : Nat) : Prop where
  lt : i < j
  le : j ≤ n
  nz : cl i ≠ 0
  all : ∀ k, i ≤ k → k < j → cl k = cl i
  stop : j = n ∨ cl j ≠ cl i
theorem strN_some {b f e : Nat} (hb : b ≤ n) (h : strN cl n b = some (f, e)) : b ≤ f ∧ IsStr cl n f e ∧ ∀ k, b ≤ k → k < f → cl k = 0 := by
  unfold strN at h
  obtain ⟨a1, a2, a3, a4⟩ := upTo_spec (p := fun j => cl j == 0) hb
  generalize upTo (fun j => cl j == 0) n b = f' at h a1 a2 a3 a4
  obtain ⟨b1, b2, b3, b4⟩ := upTo_spec (p := fun j => cl j == cl f') a2
  dsimp only at h
  generalize upTo (fun j => cl j == cl f') n f' = e' at h b1 b2 b3 b4
  split at h
  · rename_i hlt
    cases h
    refine ⟨a1, ⟨hlt, b2, ?_, fun k h1 h2 => by simpa using b3 k h1 h2, ?_⟩, fun k h1 h2 => by simpa using a3 k h1 h2⟩
    · have := a4 (by omega); simpa using this
    · rcases Nat.eq_or_lt_of_le b2 with q | q
      · exact .inl q
      · have := b4 q; exact .inr (by simpa using this)
  · cases h
theorem strN_none {b : Nat} (hb : b ≤ n) (h : strN cl n b = none) : ∀ k, b ≤ k → k < n → cl k = 0 := by
  unfold strN at h
  obtain ⟨a1, a2, a3, a4⟩ := upTo_spec (p := fun j => cl j == 0) hb
  generalize upTo (fun j => cl j == 0) n b = f' at h a1 a2 a3 a4
  obtain ⟨b1, b2, b3, b4⟩ := upTo_spec (p := fun j => cl j == cl f') a2
  dsimp only at h
  generalize upTo (fun j => cl j == cl f') n f' = e' at h b1 b2 b3 b4
  split at h
  · cases h
  · rename_i hlt
    have hf : f' = n := by
      rcases Nat.eq_or_lt_of_le a2 with q | q
      · exact q
      · have := b4 (by omega)
        rw [show e' = f' by omega] at this
        simp at this
    intro k h1 h2
    simpa using a3 k h1 (by omega)
theorem str_main {col : Nat} (hc : col ≤ n) : ∀ (fuel i j j0 : Nat) (fnd : Option (Nat × Nat)), n < fuel + i → fnd = lastStr (nzN cl n) (lkN cl n) j0 → j0 ≤ col → j0 ≤ i → (∀ k, j0 ≤ k → k < i → cl k = 0) → IsStr cl n i j → (i = 0 ∨ lkN cl n (i - 1) = false) →
    revGo (strN cl n) col fuel fnd (i, j) = lastStr (nzN cl n) (lkN cl n) col
  | 0, i, j, j0, fnd, hf, _, _, _, _, hS, _ => by have := hS.lt; have := hS.le; omega
  | fuel + 1, i, j, j0, fnd, hf, hfnd, h0, hi, hg, hS, hb => by
    have lt := hS.lt
    have le := hS.le
    by_cases hin : i < col ∧ j ≤ col
    · have key : lastStr (nzN cl n) (lkN cl n) j = some (i, j) := by
        obtain ⟨j', rfl⟩ : ∃ j', j = j' + 1 := ⟨j - 1, by omega⟩
        have c1 : cl j' = cl i := hS.all j' (Nat.le_of_lt_succ lt) (Nat.lt_succ_self j')
        have hn : nzN cl n j' = true := decide_eq_true ⟨le, by rw [c1]; exact hS.nz⟩
        have hl : lkN cl n j' = false := decide_eq_false fun q => by
          rcases hS.stop with z | z
          · exact Nat.ne_of_lt q.1 z
          · exact z (by rw [← q.2.2, c1])
        rw [lastStr, if_pos (by rw [hn, hl]; rfl), goFirst_is (lk := lkN cl n) (f := i) (e := j') (Nat.le_of_lt_succ lt) (fun k h1 h2 => decide_eq_true ⟨Nat.lt_of_le_of_lt h2 le, by rw [hS.all k h1 (Nat.lt_succ_of_lt h2)]; exact hS.nz, by rw [hS.all k h1 (Nat.lt_succ_of_lt h2), hS.all (k + 1) (Nat.le_succ_of_le h1) (Nat.succ_lt_succ h2)]⟩) hb]
      rw [revGo, if_pos hin, if_neg (Nat.ne_of_lt lt)]
      cases e : strN cl n j with
      | none =>
        have z := strN_none le e
        dsimp only
        rw [← key]
        exact (lastStr_skip hin.2 fun k h1 h2 => by
          rw [show nzN cl n k = false from decide_eq_false fun q => q.2 (z k h1 (Nat.lt_of_lt_of_le h2 hc))]; rfl).symm
      | some ij =>
        obtain ⟨i2, j2⟩ := ij
        obtain ⟨z1, z2, z3⟩ := strN_some le e
        dsimp only
        refine str_main hc fuel i2 j2 j _ (by omega) key.symm hin.2 z1 z3 z2 (.inr (decide_eq_false fun q => ?_))
        have l2 := z2.lt
        have e2 := z2.le
        rcases Nat.eq_or_lt_of_le z1 with y | y
        · subst y
          rcases hS.stop with x | x
          · exact Nat.ne_of_lt (Nat.lt_of_lt_of_le l2 e2) x
          · rw [hS.all (j - 1) (Nat.le_sub_one_of_lt lt) (Nat.sub_one_lt_of_lt lt), Nat.sub_add_cancel (Nat.one_le_of_lt lt)] at q
            exact x q.2.2.symm
        · exact q.2.1 (z3 (i2 - 1) (Nat.le_sub_one_of_lt y) (Nat.sub_one_lt_of_lt y))
    · rw [revGo, if_neg hin, hfnd]
      refine (lastStr_skip h0 fun k h1 h2 => ?_).symm
      by_cases hk : k < i
      · rw [show nzN cl n k = false from decide_eq_false fun q => q.2 (hg k h1 hk)]; rfl
      · have ik := Nat.le_of_not_lt hk
        have hj : col < j := Nat.lt_of_not_le fun q => hin ⟨Nat.lt_of_le_of_lt ik h2, q⟩
        have kj := Nat.lt_of_le_of_lt h2 hj
        rw [show lkN cl n k = true from decide_eq_true ⟨Nat.lt_of_lt_of_le kj le, by rw [hS.all k ik (Nat.lt_trans h2 hj)]; exact hS.nz, by rw [hS.all k ik (Nat.lt_trans h2 hj), hS.all (k + 1) (Nat.le_succ_of_le ik) kj]⟩]
        cases nzN cl n k <;> rfl
theorem str_law {col : Nat} (hc : col ≤ n) (hn : n < 20) : rev (strN cl n) col = lastStr (nzN cl n) (lkN cl n) col := by
  unfold rev
  cases e : strN cl n 0 with
  | none =>
    have z := strN_none (Nat.zero_le _) e
    exact (lastStr_skip (Nat.zero_le _) fun k h1 h2 => by
      rw [show nzN cl n k = false from decide_eq_false fun q => q.2 (z k h1 (by omega))]; rfl).symm
  | some ij =>
    obtain ⟨i, j⟩ := ij
    obtain ⟨z1, z2, z3⟩ := strN_some (Nat.zero_le _) e
    refine str_main hc 20 i j 0 none (by omega) rfl (Nat.zero_le _) z1 z3 z2 ?_
    rcases Nat.eq_zero_or_pos i with q | q
    · exact .inl q
    · exact .inr (decide_eq_false fun x => x.2.1 (z3 (i - 1) (Nat.zero_le _) (by omega)))
end
end
section
section
variable {ft : Nat → Bool}
noncomputable def farN (ft : Nat → Bool) (b : Nat) : Option (Nat × Nat) := some (b, upTo ft 7 b)
theorem tell_main {col : Nat} (hc : col ≤ 7) : ∀ (fuel i : Nat) (fnd : Option (Nat × Nat)), 7 < fuel + i → i ≤ col → fnd = lastTell ft i → ((i = 0 ∨ ft (i - 1) = false) ∨ (i = 7 ∨ ft i = false)) → revGo (farN ft) col fuel fnd (i, upTo ft 7 i) = lastTell ft col
  | 0, i, fnd, hf, hi, _, _ => by omega
  | fuel + 1, i, fnd, hf, hi, hfnd, hst => by
    obtain ⟨u1, u2, u3, u4⟩ := upTo_spec (p := ft) (n := 7) (b := i) (by omega)
    generalize hj : upTo ft 7 i = j at u1 u2 u3 u4
    have stA : i < j → (i = 0 ∨ ft (i - 1) = false) := fun h => by
      rcases hst with q | q | q
      · exact q
      · exact absurd (q ▸ h : 7 < j) (Nat.not_lt.mpr u2)
      · rw [u3 i (Nat.le_refl _) h] at q; cases q
    by_cases hin : i < col ∧ j ≤ col
    · rw [revGo, if_pos hin]
      rcases Nat.eq_or_lt_of_le u1 with e | e
      · subst e
        rw [if_pos rfl]
        have hno : ft i = false := u4 (Nat.lt_of_lt_of_le hin.1 hc)
        show revGo (farN ft) col fuel (some (i, i)) (i + 1, upTo ft 7 (i + 1)) = _
        exact tell_main hc fuel (i + 1) _ (by omega) (by omega) (tell_no hno).symm (.inl (.inr hno))
      · rw [if_neg (Nat.ne_of_lt e)]
        show revGo (farN ft) col fuel (some (i, j)) (j, upTo ft 7 j) = _
        have hB : j = 7 ∨ ft j = false := by
          rcases Nat.eq_or_lt_of_le u2 with q | q
          · exact .inl q
          · exact .inr (u4 q)
        refine tell_main hc fuel j _ (by omega) hin.2 ?_ (.inr hB)
        obtain ⟨c, rfl⟩ : ∃ c, j = c + 1 := ⟨j - 1, by omega⟩
        rw [lastTell, if_pos (u3 c (Nat.le_of_lt_succ e) (Nat.lt_succ_self c)), if_pos (by rcases hB with q | q; exact .inl (Nat.succ.inj q); exact .inr q), goFirst_is (lk := ft) (f := i) (e := c) (Nat.le_of_lt_succ e) (fun k h1 h2 => u3 k h1 (Nat.lt_succ_of_lt h2)) (stA e)]
    · rw [revGo, if_neg hin, hfnd]
      rcases Nat.eq_or_lt_of_le hi with e | e
      · rw [e]
      · have hjc : col < j := Nat.lt_of_not_le fun q => hin ⟨e, q⟩
        have hA := stA (Nat.lt_trans e hjc)
        obtain ⟨c, rfl⟩ : ∃ c, col = c + 1 := ⟨col - 1, by omega⟩
        rw [lastTell.eq_2 ft c, if_pos (u3 c (Nat.le_of_lt_succ e) (Nat.lt_of_succ_lt hjc)), if_neg (by
          intro q
          rcases q with q | q
          · subst q; exact absurd u2 (Nat.not_le.mpr hjc)
          · rw [u3 (c + 1) (Nat.le_of_lt e) hjc] at q; cases q), goFirst_is (lk := ft) (f := i) (e := c) (Nat.le_of_lt_succ e) (fun k h1 h2 => u3 k h1 (Nat.lt_trans h2 (Nat.lt_of_succ_lt hjc))) hA]
        cases i with
        | zero => rw [if_neg (Nat.lt_irrefl 0)]; rfl
        | succ k =>
          rw [if_pos (Nat.succ_pos k)]
          rcases hA with q | q
          · cases q
          · rw [tell_no (show ft k = false from q)]; rfl
theorem tell_law {col : Nat} (hc : col ≤ 7) : rev (farN ft) col = lastTell ft col := by
  show revGo (farN ft) col 20 none (0, upTo ft 7 0) = _
  exact tell_main hc 20 0 none (by omega) (Nat.zero_le _) rfl (.inl (.inl rfl))
end
end
section
open PySem
theorem cmp_scale {p q : Int} {c : Nat} (hc : 0 < c) : compare (p * (c : Int)) (q * (c : Int)) = compare p q := by
  have hc' : (0 : Int) < c := by omega
  rcases Int.lt_trichotomy p q with h | h | h
  · rw [Int.compare_eq_lt.mpr h, Int.compare_eq_lt.mpr (Int.mul_lt_mul_of_pos_right h hc')]
  · rw [h, Int.compare_eq_eq.mpr rfl, Int.compare_eq_eq.mpr rfl]
  · rw [Int.compare_eq_gt.mpr h, Int.compare_eq_gt.mpr (Int.mul_lt_mul_of_pos_right h hc')]
theorem sgn_scale (a : Bool) (n c : Nat) : Float64.sgn a (n * c) = Float64.sgn a n * (c : Int) := by
  cases a <;> simp [Float64.sgn, Int.neg_mul]
theorem split_at {e m : Int} (h1 : -1074 ≤ m) (h2 : m ≤ e) : (e + 1074).toNat = (e - m).toNat + (m + 1074).toNat := by
  have h3 : 0 ≤ m + 1074 := by omega
  have h4 : e + 1074 = (e - m) + (m + 1074) := by omega
  rw [← Int.toNat_add (Int.sub_nonneg.mpr h2) h3, h4]
/-- a finite double's exact value, times 2^1074 -/
noncomputable def valF (x : UInt64) : Int := match Float64.decode x with
  | .fin a m e => Float64.sgn a (m * 2 ^ (e + 1074).toNat)
  | _ => 0
noncomputable def isFinF (x : UInt64) : Bool := match Float64.decode x with
  | .fin _ _ e => decide (-1074 ≤ e)
  | _ => false
theorem cmp_val {x y : UInt64} (hx : isFinF x = true) (hy : isFinF y = true) : Float64.cmp x y = some (compare (valF x) (valF y)) := by
  unfold isFinF at hx hy
  unfold valF Float64.cmp
  generalize Float64.decode x = dx at hx
  generalize Float64.decode y = dy at hy
  cases dx with
  | fin a m e =>
    cases dy with
    | fin b k f =>
      have he : -1074 ≤ e := of_decide_eq_true hx
      have hf : -1074 ≤ f := of_decide_eq_true hy
      show some (compare (Float64.sgn a (m * 2 ^ (e - min e f).toNat)) (Float64.sgn b (k * 2 ^ (f - min e f).toNat))) = some (compare (Float64.sgn a (m * 2 ^ (e + 1074).toNat)) (Float64.sgn b (k * 2 ^ (f + 1074).toNat)))
      have hm : -1074 ≤ min e f := Int.le_min.mpr ⟨he, hf⟩
      have e1 := split_at hm (Int.min_le_left e f)
      have e2 := split_at hm (Int.min_le_right e f)
      rw [e1, e2, Nat.pow_add, Nat.pow_add, ← Nat.mul_assoc, ← Nat.mul_assoc, sgn_scale a (m * 2 ^ (e - min e f).toNat) (2 ^ (min e f + 1074).toNat), sgn_scale b (k * 2 ^ (f - min e f).toNat) (2 ^ (min e f + 1074).toNat), cmp_scale (c := 2 ^ (min e f + 1074).toNat) (Nat.pow_pos (by decide))]
    | _ => cases hy
  | _ => cases hx
theorem cmp_eq_val {x y : UInt64} (hx : isFinF x = true) (hy : isFinF y = true) : (Float64.cmp x y == some .eq) = decide (valF x = valF y) := by
  rw [cmp_val hx hy]
  by_cases h : valF x = valF y
  · rw [h, Int.compare_eq_eq.mpr rfl, decide_eq_true rfl]; rfl
  · rw [decide_eq_false h]
    rcases Int.lt_trichotomy (valF x) (valF y) with q | q | q
    · rw [Int.compare_eq_lt.mpr q]; rfl
    · exact absurd q h
    · rw [Int.compare_eq_gt.mpr q]; rfl
end
section
open PySem
set_option maxRecDepth 100000
noncomputable def hT0 : List (Nat × Nat × Nat) := [(144403552893600, 0, 0), (135909226252800, 8494326640800, 4577158421284214101), (135378330837750, 9025222055850, 4577558741251091477), (134776649367360, 9626903526240, 4578016249784665621), (134089013401200, 10314539492400, 4578544144246481941), (133295587286400, 11107965607200, 4579160021118600992), (132369923485800, 12033629407800, 4579887875603832587), (131275957176000, 13127595717600, 4580461061010952464), (129963197604240, 14440355289360, 4580994820966788971), (128358713683200, 16044839210400, 4581662020911584597), (127414899612000, 16988653281600, 4582062340878461973), (126353108781900, 18050444111700, 4582519849412036123), (125149745841120, 19253807052480, 4583047743873852443), (123774473908800, 20629078984800, 4583663620745971483), (122187621679200, 22215931214400, 4584391475231203077), (121602991910400, 22800560983200, 4584664420663164928), (120336294078000, 24067258815600, 4584964660638322960), (118920572971200, 25482979922400, 4585307792038503571), (118148361458400, 26255191435200, 4585498420594159464), (117327886726050, 27075666167550, 4585703712884865811), (115522842314880, 28880710578720, 4586165620538955093), (114002804916000, 30400747977600, 4586565940505832472), (113459934416400, 30943618477200, 4586711511402878789), (112313874472800, 32089678420800, 4587023449039406616), (111079656072000, 33323896821600, 4587366580439587227), (110426246330400, 33977306563200, 4587551343501222939), (110021754585600, 34381798308000, 4587666820414745259), (108302664670200, 36100888223400, 4588167220373341981), (106402617921600, 38000934972000, 4588739106040309661), (105895938788640, 38507614104960, 4588895074858573576), (105020765740800, 39382787152800, 4589168020290535424), (104291454867600, 40112098026000, 4589283497204057744), (103145394924000, 41258157969600, 4589468260265693457), (101931919689600, 42471633204000, 4589668420249132145), (101082487025520, 43321065868080, 4589811391665874067), (100454645491200, 43948907402400, 4589918620228430507), (99971690464800, 44431862428800, 4590002020221529960), (99277442614350, 45126110279250, 4590123329302401893), (98802430927200, 45601121966400, 4590207312512236308), (98456967882000, 45946585011600, 4590268900199448212), (96269035262400, 48134517631200, 4590669220166325589), (94176230148000, 50227322745600, 4591069540133202967), (93862309380840, 50541243512760, 4591131127820414871), (93437593048800, 50965959844800, 4591215111030249285), (92830855431600, 51572697462000, 4591336420111121219), (92418273851904, 51985279041696, 4591419820104220672), (91893170023200, 52510382870400, 4591527048666777112), (91202243932800, 53201308960800, 4591670020083519032), (90252220558500, 54151332335100, 4591870180066957721), (89392675600800, 55010877292800, 4592054943128593435), (88863724857600, 55539828036000, 4592170420042115755), (88246615657200, 56156937236400, 4592306892758096679), (87897814804800, 56505738088800, 4592384877167228635), (86642131736160, 57761421157440, 4592670820000712477), (85572475788800, 58831077104800, 4592921019980010837), (85329372164400, 59074180729200, 4592978758436771997), (84943266408000, 59460286485600, 4593071139967589853), (84235405854600, 60168147039000, 4593242705667680159), (83602056938400, 60801495955200, 4593398674485944072), (83309742054000, 61093810839600, 4593471459934467232), (82516315939200, 61887236954400, 4593671619917905920), (81619399461600, 62784153432000, 4593787096831428240), (81226998502650, 63176554390950, 4593838419904104827), (80865989620416, 63537563273184, 4593886077043018801), (80224196052000, 64179356841600, 4593971859893063953), (79670925734400, 64732627159200, 4594046919886853461), (79421954091480, 64981598802120, 4594081038065848692), (78765574305600, 65637978588000, 4594172019876502642), (78218591150700, 66184961742900, 4594249004485517522), (77755759250400, 66647793643200, 4594314991293244563), (77359046193000, 67044506700600, 4594372179859941331), (77015228209920, 67388324683680, 4594422219855801003), (76448939767200, 67954613126400, 4594505619848900456), (76001869944000, 68401682949600, 4594572339843380019), (75639956277600, 68763596616000, 4594626928929772389), (75340984118400, 69062568775200, 4594672419835099363), (75089847504672, 69313705388928, 4594710912139606804), (74875916315200, 69527636578400, 4594743905543470324), (74691492876000, 69712060017600, 4594772499826818708), (74530866009600, 69872686884000, 4594797519824748544)]
noncomputable def hT1 : List (Nat × Nat × Nat) := [(72201776446800, 72201776446800, 4595172819793696085), (69872686884000, 74530866009600, 4595548119762643627), (69712060017600, 74691492876000, 4595573139760573464), (69527636578400, 74875916315200, 4595601734043921848), (69313705388928, 75089847504672, 4595634727447785368), (69062568775200, 75340984118400, 4595673219752292808), (68763596616000, 75639956277600, 4595718710657619781), (68401682949600, 76001869944000, 4595773299744012152), (67954613126400, 76448939767200, 4595840019738491715), (67388324683680, 77015228209920, 4595923419731591168), (67044506700600, 77359046193000, 4595973459727450840), (66647793643200, 77755759250400, 4596030648294147608), (66184961742900, 78218591150700, 4596096635101874648), (65637978588000, 78765574305600, 4596173619710889528), (64981598802120, 79421954091480, 4596264601521543477), (64732627159200, 79670925734400, 4596298719700538709), (64179356841600, 80224196052000, 4596373779694328219), (63537563273184, 80865989620416, 4596459562544373371), (63176554390950, 81226998502650, 4596507219683287344), (62784153432000, 81619399461600, 4596558542755963931), (61887236954400, 82516315939200, 4596674019669486251), (61093810839600, 83309742054000, 4596774099661205595), (60801495955200, 83602056938400, 4596810492385467173), (60168147039000, 84235405854600, 4596888476794599131), (59460286485600, 84943266408000, 4596974259644644283), (59074180729200, 85329372164400, 4597020450410053211), (58831077104800, 85572475788800, 4597049319638433792), (57761421157440, 86642131736160, 4597174419628082973), (56505738088800, 87897814804800, 4597317391044824893), (56156937236400, 88246615657200, 4597356383249390872), (55539828036000, 88863724857600, 4597424619607381333), (55010877292800, 89392675600800, 4597482358064142493), (54151332335100, 90252220558500, 4597574739594960349), (53201308960800, 91202243932800, 4597674819586679693), (52510382870400, 91893170023200, 4597746305295050653), (51985279041696, 92418273851904, 4597799919576328875), (51572697462000, 92830855431600, 4597841619572878603), (50965959844800, 93437593048800, 4597902274113314568), (50541243512760, 93862309380840, 4597944265718231776), (50227322745600, 94176230148000, 4597975059561837728), (48134517631200, 96269035262400, 4598175219545276416), (45946585011600, 98456967882000, 4598275299536995760), (45601121966400, 98802430927200, 4598290696458798736), (45126110279250, 99277442614350, 4598311692261257340), (44431862428800, 99971690464800, 4598342019531475323), (43948907402400, 100454645491200, 4598362869529750187), (43321065868080, 101082487025520, 4598389676670389296), (42471633204000, 101931919689600, 4598425419524574777), (41258157969600, 103145394924000, 4598475459520434449), (40112098026000, 104291454867600, 4598521650285843377), (39382787152800, 105020765740800, 4598550519514223957), (38507614104960, 105895938788640, 4598584637693219188), (38000934972000, 106402617921600, 4598604133795502177), (36100888223400, 108302664670200, 4598675619503873137), (34381798308000, 110021754585600, 4598738169498697728), (33977306563200, 110426246330400, 4598752604112888019), (33323896821600, 111079656072000, 4598775699495592483), (32089678420800, 112313874472800, 4598818590920615059), (30943618477200, 113459934416400, 4598857583125181037), (30400747977600, 114002804916000, 4598875779487311827), (28880710578720, 115522842314880, 4598925819483171499), (27075666167550, 117327886726050, 4598983557939932659), (26255191435200, 118148361458400, 4599009219476270952), (25482979922400, 118920572971200, 4599033048045727939), (24067258815600, 120336294078000, 4599075939470750515), (22800560983200, 121602991910400, 4599113469467645269), (22215931214400, 122187621679200, 4599130528557142885), (20629078984800, 123774473908800, 4599176019462469860), (19253807052480, 125149745841120, 4599214511766977300), (18050444111700, 126353108781900, 4599247505170840820), (16988653281600, 127414899612000, 4599276099454189204), (16044839210400, 128358713683200, 4599301119452119040), (14440355289360, 129963197604240, 4599342819448668767), (13127595717600, 131275957176000, 4599376179445908548), (12033629407800, 132369923485800, 4599403473989104733), (11107965607200, 133295587286400, 4599426219441768220), (10314539492400, 134089013401200, 4599445465594021941), (9626903526240, 134776649367360, 4599461962295953701), (9025222055850, 135378330837750, 4599476259437627893), (8494326640800, 135909226252800, 4599488769436592811)]
noncomputable def hT2 : List (Nat × Nat × Nat) := [(0, 144403552893600, 4599676419421066581), (0, 135909226252800, 4599864069405540352), (0, 135378330837750, 4599876579404505269), (0, 134776649367360, 4599890876546179461), (0, 134089013401200, 4599907373248111221), (0, 133295587286400, 4599926619400364943), (0, 132369923485800, 4599949364853028429), (0, 131275957176000, 4599976659396224615), (0, 129963197604240, 4600010019393464396), (0, 128358713683200, 4600051719390014123), (0, 127414899612000, 4600076739387943959), (0, 126353108781900, 4600105333671292343), (0, 125149745841120, 4600138327075155863), (0, 123774473908800, 4600176819379663303), (0, 122187621679200, 4600222310284990277), (0, 121602991910400, 4600239369374487893), (0, 120336294078000, 4600276899371382648), (0, 118920572971200, 4600319790796405224), (0, 118148361458400, 4600343619365862211), (0, 117327886726050, 4600369280902200504), (0, 115522842314880, 4600427019358961664), (0, 114002804916000, 4600477059354821336), (0, 113459934416400, 4600495255716952125), (0, 112313874472800, 4600534247921518104), (0, 111079656072000, 4600577139346540680), (0, 110426246330400, 4600600234729245144), (0, 110021754585600, 4600614669343435435), (0, 108302664670200, 4600677219338260025), (0, 106402617921600, 4600748705046630985), (0, 105895938788640, 4600768201148913975), (0, 105020765740800, 4600802319327909205), (0, 104291454867600, 4600831188556289785), (0, 103145394924000, 4600877379321698713), (0, 101931919689600, 4600927419317558385), (0, 101082487025520, 4600963162171743867), (0, 100454645491200, 4600989969312382976), (0, 99971690464800, 4601010819310657840), (0, 99277442614350, 4601041146580875823), (0, 98802430927200, 4601062142383334427), (0, 98456967882000, 4601077539305137403), (0, 96269035262400, 4601177619296856747), (0, 94176230148000, 4601277699288576091), (0, 93862309380840, 4601293096210379067), (0, 93437593048800, 4601314092012837671), (0, 92830855431600, 4601344419283055653), (0, 92418273851904, 4601365269281330517), (0, 91893170023200, 4601392076421969628), (0, 91202243932800, 4601427819276155108), (0, 90252220558500, 4601477859272014780), (0, 89392675600800, 4601524050037423708), (0, 88863724857600, 4601552919265804288), (0, 88246615657200, 4601587037444799519), (0, 87897814804800, 4601606533547082508), (0, 86642131736160, 4601678019255453468), (0, 85572475788800, 4601740569250278059), (0, 85329372164400, 4601755003864468349), (0, 84943266408000, 4601778099247172813), (0, 84235405854600, 4601820990672195389), (0, 83602056938400, 4601859982876761368), (0, 83309742054000, 4601878179238892157), (0, 82516315939200, 4601928219234751829), (0, 81619399461600, 4601985957691512989), (0, 81226998502650, 4602011619227851283), (0, 80865989620416, 4602035447797308269), (0, 80224196052000, 4602078339222330845), (0, 79670925734400, 4602115869219225600), (0, 79421954091480, 4602132928308723216), (0, 78765574305600, 4602178419214050191), (0, 78218591150700, 4602216911518557631), (0, 77755759250400, 4602249904922421151), (0, 77359046193000, 4602278499205769535), (0, 77015228209920, 4602303519203699371), (0, 76448939767200, 4602345219200249097), (0, 76001869944000, 4602378579197488879), (0, 75639956277600, 4602405873740685064), (0, 75340984118400, 4602428619193348551), (0, 75089847504672, 4602447865345602271), (0, 74875916315200, 4602464362047534031), (0, 74691492876000, 4602478659189208223), (0, 74530866009600, 4602491169188173141)]
noncomputable def hT3 : List (Nat × Nat × Nat) := [(0, 72201776446800, 4602678819172646912), (0, 69872686884000, 4602772644164883797), (0, 69712060017600, 4602778899164366256), (0, 69527636578400, 4602786047735203352), (0, 69313705388928, 4602794296086169232), (0, 69062568775200, 4602803919162296092), (0, 68763596616000, 4602815291888627836), (0, 68401682949600, 4602828939160225928), (0, 67954613126400, 4602845619158845819), (0, 67388324683680, 4602866469157120683), (0, 67044506700600, 4602878979156085601), (0, 66647793643200, 4602893276297759793), (0, 66184961742900, 4602909772999691553), (0, 65637978588000, 4602929019151945273), (0, 64981598802120, 4602951764604608760), (0, 64732627159200, 4602960294149357568), (0, 64179356841600, 4602979059147804945), (0, 63537563273184, 4603000504860316233), (0, 63176554390950, 4603012419145044727), (0, 62784153432000, 4603025249913213873), (0, 61887236954400, 4603054119141594453), (0, 61093810839600, 4603079139139524289), (0, 60801495955200, 4603088237320589684), (0, 60168147039000, 4603107733422872673), (0, 59460286485600, 4603129179135383961), (0, 59074180729200, 4603140726826736193), (0, 58831077104800, 4603147944133831339), (0, 57761421157440, 4603179219131243633), (0, 56505738088800, 4603214961985429113), (0, 56156937236400, 4603224710036570608), (0, 55539828036000, 4603241769126068224), (0, 55010877292800, 4603256203740258515), (0, 54151332335100, 4603279299122962979), (0, 53201308960800, 4603304319120892815), (0, 52510382870400, 4603322190547985555), (0, 51985279041696, 4603335594118305109), (0, 51572697462000, 4603346019117442541), (0, 50965959844800, 4603361182752551532), (0, 50541243512760, 4603371680653780835), (0, 50227322745600, 4603379379114682323), (0, 48134517631200, 4603429419110541995), (0, 45946585011600, 4603479459106401667), (0, 45601121966400, 4603487157567303155), (0, 45126110279250, 4603497655468532456), (0, 44431862428800, 4603512819103641448), (0, 43948907402400, 4603523244102778880), (0, 43321065868080, 4603536647673098435), (0, 42471633204000, 4603554519100191175), (0, 41258157969600, 4603579539098121011), (0, 40112098026000, 4603602634480825475), (0, 39382787152800, 4603617069095015765), (0, 38507614104960, 4603634128184513381), (0, 38000934972000, 4603643876235654876), (0, 36100888223400, 4603679619089840356), (0, 34381798308000, 4603710894087252651), (0, 33977306563200, 4603718111394347796), (0, 33323896821600, 4603729659085700028), (0, 32089678420800, 4603751104798211316), (0, 30943618477200, 4603770600900494305), (0, 30400747977600, 4603779699081559700), (0, 28880710578720, 4603804719079489536), (0, 27075666167550, 4603833588307870116), (0, 26255191435200, 4603846419076039263), (0, 25482979922400, 4603858333360767756), (0, 24067258815600, 4603879779073279044), (0, 22800560983200, 4603898544071726421), (0, 22215931214400, 4603907073616475229), (0, 20629078984800, 4603929819069138716), (0, 19253807052480, 4603949065221392436), (0, 18050444111700, 4603965561923324196), (0, 16988653281600, 4603979859064998389), (0, 16044839210400, 4603992369063963307), (0, 14440355289360, 4604013219062238171), (0, 13127595717600, 4604029899060858061), (0, 12033629407800, 4604043546332456153), (0, 11107965607200, 4604054919058787897), (0, 10314539492400, 4604064542134914757), (0, 9626903526240, 4604072790485880637), (0, 9025222055850, 4604079939056717733), (0, 8494326640800, 4604086194056200192)]
noncomputable def hT4 : List (Nat × Nat × Nat) := [(0, 0, 4604180019048437077), (8494326640800, 0, 4604273844040673963), (9025222055850, 0, 4604280099040156421), (9626903526240, 0, 4604287247610993517), (10314539492400, 0, 4604295495961959397), (11107965607200, 0, 4604305119038086257), (12033629407800, 0, 4604316491764418001), (13127595717600, 0, 4604330139036016093), (14440355289360, 0, 4604346819034635984), (16044839210400, 0, 4604367669032910848), (16988653281600, 0, 4604380179031875765), (18050444111700, 0, 4604394476173549959), (19253807052480, 0, 4604410972875481719), (20629078984800, 0, 4604430219027735439), (22215931214400, 0, 4604452964480398925), (22800560983200, 0, 4604461494025147733), (24067258815600, 0, 4604480259023595111), (25482979922400, 0, 4604501704736106399), (26255191435200, 0, 4604513619020834892), (27075666167550, 0, 4604526449789004039), (28880710578720, 0, 4604555319017384619), (30400747977600, 0, 4604580339015314455), (30943618477200, 0, 4604589437196379849), (32089678420800, 0, 4604608933298662839), (33323896821600, 0, 4604630379011174127), (33977306563200, 0, 4604641926702526359), (34381798308000, 0, 4604649144009621504), (36100888223400, 0, 4604680419007033799), (38000934972000, 0, 4604716161861219279), (38507614104960, 0, 4604725909912360773), (39382787152800, 0, 4604742969001858389), (40112098026000, 0, 4604757403616048680), (41258157969600, 0, 4604780498998753144), (42471633204000, 0, 4604805518996682980), (43321065868080, 0, 4604823390423775720), (43948907402400, 0, 4604836793994095275), (44431862428800, 0, 4604847218993232707), (45126110279250, 0, 4604862382628341699), (45601121966400, 0, 4604872880529571000), (45946585011600, 0, 4604880578990472488), (48134517631200, 0, 4604930618986332160), (50227322745600, 0, 4604980658982191832), (50541243512760, 0, 4604988357443093320), (50965959844800, 0, 4604998855344322623), (51572697462000, 0, 4605014018979431613), (51985279041696, 0, 4605024443978569045), (52510382870400, 0, 4605037847548888600), (53201308960800, 0, 4605055718975981340), (54151332335100, 0, 4605080738973911176), (55010877292800, 0, 4605103834356615640), (55539828036000, 0, 4605118268970805931), (56156937236400, 0, 4605135328060303547), (56505738088800, 0, 4605145076111445041), (57761421157440, 0, 4605180818965630521), (58831077104800, 0, 4605212093963042816), (59074180729200, 0, 4605219311270137961), (59460286485600, 0, 4605230858961490193), (60168147039000, 0, 4605252304674001481), (60801495955200, 0, 4605271800776284471), (61093810839600, 0, 4605280898957349865), (61887236954400, 0, 4605305918955279701), (62784153432000, 0, 4605334788183660281), (63176554390950, 0, 4605347618951829428), (63537563273184, 0, 4605359533236557921), (64179356841600, 0, 4605380978949069209), (64732627159200, 0, 4605399743947516587), (64981598802120, 0, 4605408273492265395), (65637978588000, 0, 4605431018944928881), (66184961742900, 0, 4605450265097182601), (66647793643200, 0, 4605466761799114361), (67044506700600, 0, 4605481058940788553), (67388324683680, 0, 4605493568939753472), (67954613126400, 0, 4605514418938028336), (68401682949600, 0, 4605531098936648227), (68763596616000, 0, 4605544746208246319), (69062568775200, 0, 4605556118934578063), (69313705388928, 0, 4605565742010704923), (69527636578400, 0, 4605573990361670803), (69712060017600, 0, 4605581138932507899), (69872686884000, 0, 4605587393931990357)]
noncomputable def hT5 : List (Nat × Nat × Nat) := [(72201776446800, 0, 4605681218924227243), (74530866009600, 0, 4605775043916464128), (74691492876000, 0, 4605781298915946587), (74875916315200, 0, 4605788447486783683), (75089847504672, 0, 4605796695837749563), (75340984118400, 0, 4605806318913876423), (75639956277600, 0, 4605817691640208167), (76001869944000, 0, 4605831338911806259), (76448939767200, 0, 4605848018910426150), (77015228209920, 0, 4605868868908701013), (77359046193000, 0, 4605881378907665931), (77755759250400, 0, 4605895676049340123), (78218591150700, 0, 4605912172751271884), (78765574305600, 0, 4605931418903525604), (79421954091480, 0, 4605954164356189091), (79670925734400, 0, 4605962693900937899), (80224196052000, 0, 4605981458899385276), (80865989620416, 0, 4606002904611896564), (81226998502650, 0, 4606014818896625057), (81619399461600, 0, 4606027649664794204), (82516315939200, 0, 4606056518893174784), (83309742054000, 0, 4606081538891104620), (83602056938400, 0, 4606090637072170015), (84235405854600, 0, 4606110133174453004), (84943266408000, 0, 4606131578886964292), (85329372164400, 0, 4606143126578316524), (85572475788800, 0, 4606150343885411669), (86642131736160, 0, 4606181618882823964), (87897814804800, 0, 4606217361737009445), (88246615657200, 0, 4606227109788150939), (88863724857600, 0, 4606244168877648555), (89392675600800, 0, 4606258603491838845), (90252220558500, 0, 4606281698874543309), (91202243932800, 0, 4606306718872473145), (91893170023200, 0, 4606324590299565885), (92418273851904, 0, 4606337993869885440), (92830855431600, 0, 4606348418869022872), (93437593048800, 0, 4606363582504131863), (93862309380840, 0, 4606374080405361165), (94176230148000, 0, 4606381778866262653), (96269035262400, 0, 4606431818862122325), (98456967882000, 0, 4606481858857981998), (98802430927200, 0, 4606489557318883486), (99277442614350, 0, 4606500055220112787), (99971690464800, 0, 4606515218855221779), (100454645491200, 0, 4606525643854359211), (101082487025520, 0, 4606539047424678766), (101931919689600, 0, 4606556918851771506), (103145394924000, 0, 4606581938849701342), (104291454867600, 0, 4606605034232405806), (105020765740800, 0, 4606619468846596096), (105895938788640, 0, 4606636527936093712), (106402617921600, 0, 4606646275987235206), (108302664670200, 0, 4606682018841420686), (110021754585600, 0, 4606713293838832981), (110426246330400, 0, 4606720511145928126), (111079656072000, 0, 4606732058837280358), (112313874472800, 0, 4606753504549791646), (113459934416400, 0, 4606773000652074636), (114002804916000, 0, 4606782098833140030), (115522842314880, 0, 4606807118831069867), (117327886726050, 0, 4606835988059450447), (118148361458400, 0, 4606848818827619594), (118920572971200, 0, 4606860733112348087), (120336294078000, 0, 4606882178824859375), (121602991910400, 0, 4606900943823306752), (122187621679200, 0, 4606909473368055560), (123774473908800, 0, 4606932218820719047), (125149745841120, 0, 4606951464972972767), (126353108781900, 0, 4606967961674904527), (127414899612000, 0, 4606982258816578719), (128358713683200, 0, 4606994768815543637), (129963197604240, 0, 4607015618813818501), (131275957176000, 0, 4607032298812438392), (132369923485800, 0, 4607045946084036484), (133295587286400, 0, 4607057318810368228), (134089013401200, 0, 4607066941886495088), (134776649367360, 0, 4607075190237460968), (135378330837750, 0, 4607082338808298064), (135909226252800, 0, 4607088593807780523)]
noncomputable def hT : List (Nat × Nat × Nat) := hT0 ++ (hT1 ++ (hT2 ++ (hT3 ++ (hT4 ++ hT5))))
noncomputable def lookT : List (Nat × Nat × Nat) → Nat → Nat → Option Nat
  | [], _, _ => none
  | (x, y, b) :: r, x', y' => if Nat.beq x x' && Nat.beq y y' then some b else lookT r x' y'
noncomputable def incT : List (Nat × Nat × Nat) → Bool
  | (_, _, b) :: (x, y, b') :: r => isFinF b.toUInt64 && decide (valF b.toUInt64 < valF b'.toUInt64) && incT ((x, y, b') :: r)
  | [(_, _, b)] => isFinF b.toUInt64
  | [] => true
theorem hT_inc : incT hT = true := by decide +kernel
end
section
open PySem
set_option maxRecDepth 100000
noncomputable def L2 : Nat := 144403552893600
/-- the sixth of the table in which a vector above grey stands; x + y + z = L2 -/
noncomputable def secT (x y : Nat) : List (Nat × Nat × Nat) :=
  if Nat.beq (x + y) L2 && Nat.ble 1 x then (if Nat.ble x y then hT1 else hT0)
  else if Nat.beq x 0 && Nat.ble 1 y then (if Nat.ble y (L2 - y) then hT3 else hT2)
  else if Nat.ble (L2 - x) x then hT5 else hT4
noncomputable def okV (a b c : Nat) : Bool := match lookT (secT (a * (L2 / (a + b + c))) (b * (L2 / (a + b + c)))) (a * (L2 / (a + b + c))) (b * (L2 / (a + b + c))) with
  | some v => Nat.beq (hueI a b c).toNat v
  | none => false
noncomputable def okM (M : Nat) : Bool := (List.range (M + 1)).all fun x => okV M x 0 && okV x M 0 && okV 0 M x && okV 0 x M && okV x 0 M && okV M 0 x
theorem ok1 : (List.range 6).all (fun k => okM (k + 1)) = true := by decide +kernel
theorem ok2 : (List.range 3).all (fun k => okM (k + 7)) = true := by decide +kernel
theorem ok3 : (List.range 3).all (fun k => okM (k + 10)) = true := by decide +kernel
theorem ok4 : (List.range 2).all (fun k => okM (k + 13)) = true := by decide +kernel
theorem ok5 : (List.range 2).all (fun k => okM (k + 15)) = true := by decide +kernel
theorem secT_sub {x y : Nat} {q : Nat × Nat × Nat} (h : q ∈ secT x y) : q ∈ hT := by
  unfold secT at h
  unfold hT
  simp only [List.mem_append]
  split at h
  · split at h
    · exact .inr (.inl h)
    · exact .inl h
  · split at h
    · split at h
      · exact .inr (.inr (.inr (.inl h)))
      · exact .inr (.inr (.inl h))
    · split at h
      · exact .inr (.inr (.inr (.inr (.inr h))))
      · exact .inr (.inr (.inr (.inr (.inl h))))
end
section
open PySem
set_option maxRecDepth 100000
theorem lookT_mem : ∀ {l : List (Nat × Nat × Nat)} {x y b : Nat}, lookT l x y = some b → (x, y, b) ∈ l
  | [], _, _, _, h => by cases h
  | (x, y, b) :: r, x', y', b', h => by
    unfold lookT at h
    split at h
    · rename_i hc
      cases h
      rw [Bool.and_eq_true] at hc
      rw [Nat.eq_of_beq_eq_true hc.1, Nat.eq_of_beq_eq_true hc.2]
      exact .head _
    · exact .tail _ (lookT_mem h)
theorem incT_lt : ∀ {l : List (Nat × Nat × Nat)} {h : Nat × Nat × Nat}, incT (h :: l) = true → isFinF h.2.2.toUInt64 = true ∧ ∀ q ∈ l, valF h.2.2.toUInt64 < valF q.2.2.toUInt64
  | [], (_, _, b), h => ⟨by simpa [incT] using h, fun q hq => absurd hq List.not_mem_nil⟩
  | (x, y, b') :: r, (_, _, b), h => by
    simp only [incT, Bool.and_eq_true, decide_eq_true_eq] at h
    refine ⟨h.1.1, fun q hq => ?_⟩
    rcases List.mem_cons.mp hq with rfl | hq
    · exact h.1.2
    · exact Int.lt_trans h.1.2 ((incT_lt h.2).2 q hq)
theorem incT_tail {l : List (Nat × Nat × Nat)} {h : Nat × Nat × Nat} (x : incT (h :: l) = true) : incT l = true := by
  match l, h, x with
  | [], _, _ => rfl
  | (a, b, c) :: r, (_, _, d), x =>
    simp only [incT, Bool.and_eq_true] at x
    exact x.2
theorem incT_fin : ∀ {l : List (Nat × Nat × Nat)}, incT l = true → ∀ q ∈ l, isFinF q.2.2.toUInt64 = true
  | _ :: _, h, q, hq => by
    rcases List.mem_cons.mp hq with rfl | hq
    · exact (incT_lt h).1
    · exact incT_fin (incT_tail h) q hq
theorem incT_inj : ∀ {l : List (Nat × Nat × Nat)}, incT l = true → ∀ q ∈ l, ∀ r ∈ l, valF q.2.2.toUInt64 = valF r.2.2.toUInt64 → q = r
  | _ :: _, h, q, hq, r, hr, e => by
    rcases List.mem_cons.mp hq with q1 | q1
    · rcases List.mem_cons.mp hr with r1 | r1
      · rw [q1, r1]
      · rw [q1] at e; have := (incT_lt h).2 r r1; omega
    · rcases List.mem_cons.mp hr with r1 | r1
      · rw [r1] at e; have := (incT_lt h).2 q q1; omega
      · exact incT_inj (incT_tail h) q q1 r r1 e
theorem okV_at {a b c : Nat} (h : okV a b c = true) : (a * (L2 / (a + b + c)), b * (L2 / (a + b + c)), (hueI a b c).toNat) ∈ hT := by
  unfold okV at h
  split at h
  · rename_i v hv
    rw [Nat.eq_of_beq_eq_true h]; exact secT_sub (lookT_mem hv)
  · cases h
theorem okV_eq {a b c d e f : Nat} (h1 : okV a b c = true) (h2 : okV d e f = true) :
    (Float64.cmp (hueI a b c) (hueI d e f) == some .eq) = decide (a * (L2 / (a + b + c)) = d * (L2 / (d + e + f)) ∧ b * (L2 / (a + b + c)) = e * (L2 / (d + e + f))) := by
  have m1 := okV_at h1
  have m2 := okV_at h2
  have f1 := incT_fin hT_inc _ m1
  have f2 := incT_fin hT_inc _ m2
  simp only [Nat.toUInt64, UInt64.ofNat_toNat] at f1 f2
  rw [cmp_eq_val f1 f2]
  refine decide_eq_decide.mpr ⟨fun q => ?_, fun q => ?_⟩
  · have := incT_inj hT_inc _ m1 _ m2 (by simp only [Nat.toUInt64, UInt64.ofNat_toNat]; exact q)
    simp only [Prod.mk.injEq] at this
    exact ⟨this.1, this.2.1⟩
  · unfold okV at h1 h2
    rw [q.1, q.2] at h1
    split at h1
    · rename_i v hv
      rw [hv] at h2
      have e1 := Nat.eq_of_beq_eq_true h1
      have e2 := Nat.eq_of_beq_eq_true h2
      rw [UInt64.toNat_inj.mp (e1.trans e2.symm)]
    · cases h1
end
section
open PySem
set_option maxRecDepth 100000
theorem okM_at {M x : Nat} (h : okM M = true) (hx : x ≤ M) : okV M x 0 = true ∧ okV x M 0 = true ∧ okV 0 M x = true ∧ okV 0 x M = true ∧ okV x 0 M = true ∧ okV M 0 x = true := by
  have := List.all_eq_true.mp h x (List.mem_range.mpr (by omega))
  simp only [Bool.and_eq_true] at this
  obtain ⟨⟨⟨⟨⟨a, b⟩, c⟩, d⟩, e⟩, f⟩ := this
  exact ⟨a, b, c, d, e, f⟩
theorem okM_all {M : Nat} (h1 : 1 ≤ M) (h2 : M ≤ 16) : okM M = true := by
  have g : ∀ {n k : Nat}, (List.range n).all (fun j => okM (j + k)) = true → k ≤ M → M < n + k → okM M = true := fun {n k} h a b => by
    have := List.all_eq_true.mp h (M - k) (List.mem_range.mpr (by omega))
    rwa [show M - k + k = M by omega] at this
  by_cases a : M < 7
  · exact g ok1 (by omega) (by omega)
  · by_cases a : M < 10
    · exact g ok2 (by omega) (by omega)
    · by_cases a : M < 13
      · exact g ok3 (by omega) (by omega)
      · by_cases a : M < 15
        · exact g ok4 (by omega) (by omega)
        · exact g ok5 (by omega) (by omega)
/-- a vector above grey -/
theorem okV_all {a b c : Nat} (h0 : a = 0 ∨ b = 0 ∨ c = 0) (ha : a ≤ 16) (hb : b ≤ 16) (hc : c ≤ 16) (hs : 0 < a + b + c) : okV a b c = true := by
  rcases h0 with rfl | rfl | rfl
  · rcases Nat.le_total b c with h | h
    · exact (okM_at (okM_all (by omega) hc) h).2.2.2.1
    · exact (okM_at (okM_all (by omega) hb) h).2.2.1
  · rcases Nat.le_total a c with h | h
    · exact (okM_at (okM_all (by omega) hc) h).2.2.2.2.1
    · exact (okM_at (okM_all (by omega) ha) h).2.2.2.2.2
  · rcases Nat.le_total a b with h | h
    · exact (okM_at (okM_all (by omega) hb) h).2.1
    · exact (okM_at (okM_all (by omega) ha) h).1
theorem L2_div {S : Nat} (h1 : 1 ≤ S) (h2 : S ≤ 32) : S * (L2 / S) = L2 := by
  have h : (List.range 32).all (fun k => (k + 1) * (L2 / (k + 1)) == L2) = true := by decide +kernel
  have := List.all_eq_true.mp h (S - 1) (List.mem_range.mpr (by omega))
  rw [show S - 1 + 1 = S by omega] at this
  exact eq_of_beq this
theorem cross {a d S R : Nat} (h1 : 1 ≤ S) (h2 : S ≤ 32) (h3 : 1 ≤ R) (h4 : R ≤ 32) : a * (L2 / S) = d * (L2 / R) ↔ a * R = d * S := by
  have e1 := L2_div h1 h2
  have e2 := L2_div h3 h4
  generalize L2 / S = k at e1
  generalize L2 / R = l at e2
  have p1 : a * k * (S * R) = a * R * L2 := by
    rw [← e1]; simp only [Nat.mul_comm, Nat.mul_left_comm, Nat.mul_assoc]
  have p2 : d * l * (S * R) = d * S * L2 := by
    rw [← e2]; simp only [Nat.mul_comm, Nat.mul_left_comm, Nat.mul_assoc]
  have hL : 0 < L2 := by decide +kernel
  have hSR : 0 < S * R := Nat.mul_pos (by omega) (by omega)
  constructor
  · intro h
    rw [h, p2] at p1
    exact (Nat.eq_of_mul_eq_mul_right hL p1).symm
  · intro h
    rw [h, ← p2] at p1
    exact Nat.eq_of_mul_eq_mul_right hSR p1
end
section
open PySem
set_option maxRecDepth 100000
theorem max_sub (a b m : Int) : max (a - m) (b - m) = max a b - m := by
  rw [Int.max_def, Int.max_def]
  by_cases h : a ≤ b
  · rw [if_pos h, if_pos (Int.sub_le_sub_right h m)]
  · rw [if_neg h, if_neg fun q => h (Int.le_of_sub_le_sub_right q)]
theorem min_sub (a b m : Int) : min (a - m) (b - m) = min a b - m := by
  rw [Int.min_def, Int.min_def]
  by_cases h : a ≤ b
  · rw [if_pos h, if_pos (Int.sub_le_sub_right h m)]
  · rw [if_neg h, if_neg fun q => h (Int.le_of_sub_le_sub_right q)]
theorem sub_cut (x y m : Int) : x - m - (y - m) = x - y := by omega
theorem sub_inj {x y m : Int} : x - m = y - m ↔ x = y := by omega
theorem hue_shift (a b c m : Int) : hueI (a - m) (b - m) (c - m) = hueI a b c := by
  have e1 : max3 (a - m) (b - m) (c - m) = max3 a b c - m := by unfold max3; rw [max_sub, max_sub]
  have e2 : min3 (a - m) (b - m) (c - m) = min3 a b c - m := by unfold min3; rw [min_sub, min_sub]
  unfold hueI
  rw [e1, e2]
  generalize max3 a b c = M
  generalize min3 a b c = k
  rw [sub_cut, sub_cut, sub_cut, sub_cut]
  by_cases h1 : a = M
  · rw [if_pos (sub_inj.mpr h1), if_pos h1]
  · rw [if_neg (fun q => h1 (sub_inj.mp q)), if_neg h1]
    by_cases h2 : b = M
    · rw [if_pos (sub_inj.mpr h2), if_pos h2]
    · rw [if_neg (fun q => h2 (sub_inj.mp q)), if_neg h2]
theorem nat_of {a m : Int} (h1 : 0 ≤ m) (h2 : m ≤ a) (h3 : a ≤ 16) : ∃ x : Nat, a - m = x ∧ x ≤ 16 := ⟨(a - m).toNat, by omega, by omega⟩
theorem nat_zero {a m : Int} {x : Nat} (h1 : a - m = x) (h2 : m = a) : x = 0 := by omega
theorem nat_pos {a m : Int} {x : Nat} (h1 : a - m = x) (h2 : m < a) : 0 < x := by omega
theorem way_min {x y z : Int} (h : IsWay x y z) : min3 x y z = 0 := by
  obtain ⟨h1, _, h3, _, h5, _, h7, _⟩ := h
  obtain ⟨q1, q2, q3, q4⟩ := min3_facts x y z
  refine Int.le_antisymm ?_ ?_
  · rcases h7 with e | e | e
    · exact Int.le_trans q1 (Int.le_of_eq e)
    · exact Int.le_trans q2 (Int.le_of_eq e)
    · exact Int.le_trans q3 (Int.le_of_eq e)
  · rcases q4 with e | e | e <;> rw [e] <;> assumption
theorem way_ne {x y z : Int} (h : IsWay x y z) : min3 x y z ≠ max3 x y z := by
  rw [way_min h]
  obtain ⟨_, _, _, _, _, _, _, h8⟩ := h
  obtain ⟨r1, r2, r3, _⟩ := max3_facts x y z
  intro e
  rw [← e] at r1 r2 r3
  rcases h8 with k | k | k <;> exact absurd (Int.le_trans k (by assumption)) (by decide)
/-- what a colour that is not grey has above grey, as naturals -/
theorem above_nat {a b c : Int} (hc : IsCol a b c) (hn : min3 a b c ≠ max3 a b c) : ∃ x y z : Nat, a - min3 a b c = x ∧ b - min3 a b c = y ∧ c - min3 a b c = z ∧ (x = 0 ∨ y = 0 ∨ z = 0) ∧ x ≤ 16 ∧ y ≤ 16 ∧ z ≤ 16 ∧ 0 < x + y + z := by
  obtain ⟨q1, q2, q3, q4⟩ := min3_facts a b c
  have r := max3_facts a b c
  have p := (bnds hc).1
  obtain ⟨x, ex, kx⟩ := nat_of p q1 hc.2.1
  obtain ⟨y, ey, ky⟩ := nat_of p q2 hc.2.2.2.1
  obtain ⟨z, ez, kz⟩ := nat_of p q3 hc.2.2.2.2.2
  refine ⟨x, y, z, ex, ey, ez, ?_, kx, ky, kz, ?_⟩
  · rcases q4 with e | e | e
    · exact .inl (nat_zero ex e)
    · exact .inr (.inl (nat_zero ey e))
    · exact .inr (.inr (nat_zero ez e))
  · have l : min3 a b c < max3 a b c := Int.lt_iff_le_and_ne.mpr ⟨(bnds hc).2.2, hn⟩
    rcases r.2.2.2 with e | e | e
    · rw [e] at l; have := nat_pos ex l; omega
    · rw [e] at l; have := nat_pos ey l; omega
    · rw [e] at l; have := nat_pos ez l; omega
theorem sum_le {x y z : Nat} (h0 : x = 0 ∨ y = 0 ∨ z = 0) (hx : x ≤ 16) (hy : y ≤ 16) (hz : z ≤ 16) : x + y + z ≤ 32 := by omega
theorem alike_nat {a b c d e f : Nat} (h1 : 0 < a + b + c) (h2 : 0 < d + e + f) : alikeB a b c d e f = decide (a * (d + e + f) = d * (a + b + c) ∧ b * (d + e + f) = e * (a + b + c)) := by
  unfold alikeB
  refine decide_eq_decide.mpr ⟨fun h => ?_, fun h => ?_⟩
  · obtain ⟨_, _, p, q, _⟩ := h
    exact ⟨by exact_mod_cast p, by exact_mod_cast q⟩
  · obtain ⟨p, q⟩ := h
    have s : c * (d + e + f) = f * (a + b + c) := by
      have t : (a + b + c) * (d + e + f) = (d + e + f) * (a + b + c) := Nat.mul_comm _ _
      rw [Nat.add_mul, Nat.add_mul, p, q, Nat.add_mul (d + e), Nat.add_mul d] at t
      omega
    refine ⟨by omega, by omega, by exact_mod_cast p, by exact_mod_cast q, by exact_mod_cast s⟩
/-- one hue, as the law says it -/
theorem hue_alike {a b c d e f : Int} (h1 : IsCol a b c) (n1 : min3 a b c ≠ max3 a b c) (h2 : IsCol d e f) (n2 : min3 d e f ≠ max3 d e f) : (Float64.cmp (hueI a b c) (hueI d e f) == some .eq) = alikeC (abv (a, b, c)) (abv (d, e, f)) := by
  obtain ⟨x, y, z, ex, ey, ez, k0, kx, ky, kz, ks⟩ := above_nat h1 n1
  obtain ⟨x', y', z', ex', ey', ez', k0', kx', ky', kz', ks'⟩ := above_nat h2 n2
  have s1 := sum_le k0 kx ky kz
  have s2 := sum_le k0' kx' ky' kz'
  rw [← hue_shift a b c (min3 a b c), ← hue_shift d e f (min3 d e f), ex, ey, ez, ex', ey', ez', okV_eq (okV_all k0 kx ky kz ks) (okV_all k0' kx' ky' kz' ks')]
  unfold alikeC abv
  dsimp only
  rw [ex, ey, ez, ex', ey', ez', alike_nat ks ks']
  exact decide_eq_decide.mpr ⟨fun h => ⟨(cross (by omega) (by omega) (by omega) (by omega)).mp h.1, (cross (by omega) (by omega) (by omega) (by omega)).mp h.2⟩, fun h => ⟨(cross (by omega) (by omega) (by omega) (by omega)).mpr h.1, (cross (by omega) (by omega) (by omega) (by omega)).mpr h.2⟩⟩
end
section
open PySem
set_option maxRecDepth 100000
theorem upGo_congr {p q : Nat → Bool} : ∀ (k b : Nat), (∀ j, b ≤ j → j < b + k → p j = q j) → upGo p k b = upGo q k b
  | 0, _, _ => rfl
  | k + 1, b, h => by
    unfold upGo
    rw [h b (Nat.le_refl _) (by omega), upGo_congr k (b + 1) fun j h1 h2 => h j (by omega) (by omega)]
theorem upTo_congr {p q : Nat → Bool} {n b : Nat} (h : ∀ j, b ≤ j → j < n → p j = q j) : upTo p n b = upTo q n b :=
  upGo_congr _ _ fun j h1 h2 => h j h1 (by omega)
theorem hue_fin {a b c : Int} (h1 : IsCol a b c) (n1 : min3 a b c ≠ max3 a b c) : isFinF (hueI a b c) = true := by
  obtain ⟨x, y, z, ex, ey, ez, k0, kx, ky, kz, ks⟩ := above_nat h1 n1
  rw [← hue_shift a b c (min3 a b c), ex, ey, ez]
  have f1 := incT_fin hT_inc _ (okV_at (okV_all k0 kx ky kz ks))
  simp only [Nat.toUInt64, UInt64.ofNat_toNat] at f1
  exact f1
theorem hue_self {a b c : Int} (h1 : IsCol a b c) (n1 : min3 a b c ≠ max3 a b c) : (Float64.cmp (hueI a b c) (hueI a b c) == some .eq) = true := by
  rw [cmp_eq_val (hue_fin h1 n1) (hue_fin h1 n1), decide_eq_true rfl]
/-- a number above 0 for each int -/
noncomputable def encI : Int → Nat
  | .ofNat n => 2 * n + 1
  | .negSucc n => 2 * n + 2
theorem encI_pos (i : Int) : encI i ≠ 0 := by cases i <;> simp [encI]
theorem encI_inj {i j : Int} (h : encI i = encI j) : i = j := by
  cases i with
  | ofNat a => cases j with
    | ofNat b => simp only [encI] at h; rw [show a = b by omega]
    | negSucc b => simp only [encI] at h; omega
  | negSucc a => cases j with
    | ofNat b => simp only [encI] at h; omega
    | negSucc b => simp only [encI] at h; rw [show a = b by omega]
/-- the class of a row's place: 0 for no hue -/
noncomputable def clV (vs : List Value) (j : Nat) : Nat := match vs[j]? with
  | some (.float x _) => encI (valF x)
  | _ => 0
/-- a row of hues: none or a finite double -/
noncomputable def FinRow (vs : List Value) : Prop := ∀ v ∈ vs, v = .none ∨ ∃ x t, v = .float x t ∧ isFinF x = true
theorem FinRow.at {vs : List Value} (h : FinRow vs) {j : Nat} (hj : j < vs.length) : (vs[j]? = some .none) ∨ ∃ x t, vs[j]? = some (.float x t) ∧ isFinF x = true := by
  have e : vs[j]? = some vs[j] := List.getElem?_eq_getElem hj
  rcases h _ (List.mem_of_getElem? e) with q | ⟨x, t, q, f⟩
  · exact .inl (by rw [e, q])
  · exact .inr ⟨x, t, by rw [e, q], f⟩
theorem strF_N {vs : List Value} (h : FinRow vs) (b : Nat) : strF vs b = strN (clV vs) vs.length b := by
  unfold strF strN
  have e1 : upTo (noneAt vs) vs.length b = upTo (fun j => clV vs j == 0) vs.length b := upTo_congr fun j _ hj => by
    rcases h.at hj with q | ⟨x, t, q, f⟩
    · simp [noneAt, clV, q]
    · have := encI_pos (valF x)
      simp [noneAt, clV, q, this]
  rw [e1]
  dsimp only
  by_cases hb : b ≤ vs.length
  · obtain ⟨a1, a2, a3, a4⟩ := upTo_spec (p := fun j => clV vs j == 0) hb
    generalize upTo (fun j => clV vs j == 0) vs.length b = f at a1 a2 a3 a4
    have e2 : upTo (fun j => eqV vs[j]? vs[f]?) vs.length f = upTo (fun j => clV vs j == clV vs f) vs.length f := upTo_congr fun j hj1 hj => by
      have hf : f < vs.length := by omega
      have hz := a4 hf
      rcases h.at hf with q | ⟨x, t, q, k⟩
      · simp [clV, q] at hz
      · rcases h.at hj with r | ⟨y, u, r, l⟩
        · have := encI_pos (valF x)
          rw [eq_nf r q, show clV vs j = 0 by simp only [clV, r], show clV vs f = encI (valF x) by simp only [clV, q]]
          exact (beq_eq_false_iff_ne.mpr (Ne.symm this)).symm
        · rw [eq_ff r q rfl, show clV vs j = encI (valF y) by simp only [clV, r], show clV vs f = encI (valF x) by simp only [clV, q], cmp_eq_val l k]
          by_cases e : valF y = valF x
          · rw [e]; simp
          · rw [decide_eq_false e]
            exact (beq_eq_false_iff_ne.mpr fun z => e (encI_inj z)).symm
    rw [e2]
  · have z : ∀ p : Nat → Bool, ∀ k, vs.length ≤ k → upTo p vs.length k = k := fun p k hk => upTo_no (.inl hk)
    rw [z _ b (by omega), z _ b (by omega), z _ b (by omega)]
theorem str_mono {vs : List Value} (b i j : Nat) (h : strF vs b = some (i, j)) : b ≤ i ∧ i ≤ j := by
  unfold strF at h
  dsimp only at h
  split at h
  · cases h; exact ⟨upTo_ge, upTo_ge⟩
  · cases h
theorem far_mono {vs : List Value} {hue : Value} (b i j : Nat) (h : farF vs hue b = some (i, j)) : b ≤ i ∧ i ≤ j := by
  unfold farF at h
  cases h; exact ⟨Nat.le_refl _, upTo_ge⟩
theorem hvs_fin {cs : List (Int × Int × Int)} {vs : List Value} (h : HVs cs vs) : (∀ c ∈ cs, IsCol c.1 c.2.1 c.2.2) → FinRow vs := by
  induction h with
  | nil => exact fun _ v hv => absurd hv List.not_mem_nil
  | cons h1 h2 ih =>
    intro hc v hv
    rcases List.mem_cons.mp hv with rfl | hv
    · rcases h1 with ⟨_, e⟩ | ⟨n, t, _, e⟩
      · exact .inl e
      · exact .inr ⟨_, t, e, hue_fin (hc _ (.head _)) n⟩
    · exact ih (fun c hm => hc c (.tail _ hm)) v hv
theorem FinRow.fv {vs : List Value} (h : FinRow vs) : ∀ v ∈ vs, FV v := fun v hv => by
  rcases h v hv with q | ⟨x, t, q, _⟩
  · exact .inl q
  · exact .inr ⟨x, t, q⟩
theorem hvs_at {cs : List (Int × Int × Int)} {vs : List Value} (h : HVs cs vs) : ∀ {j : Nat} {c : Int × Int × Int}, cs[j]? = some c → ∃ v, vs[j]? = some v ∧ HV c v := by
  induction h with
  | nil => intro j c e; cases e
  | cons h1 h2 ih =>
    intro j c e
    cases j with
    | zero => cases e; exact ⟨_, rfl, h1⟩
    | succ j => exact ih e
theorem abv_grey {a b c : Int} (h : min3 a b c = max3 a b c) : a - min3 a b c = 0 ∧ b - min3 a b c = 0 ∧ c - min3 a b c = 0 := by
  obtain ⟨q1, q2, q3, _⟩ := min3_facts a b c
  obtain ⟨r1, r2, r3, _⟩ := max3_facts a b c
  have e {x : Int} (q : min3 a b c ≤ x) (r : x ≤ max3 a b c) : x - min3 a b c = 0 := Int.sub_eq_zero_of_eq (Int.le_antisymm (by rw [h]; exact r) q)
  exact ⟨e q1 r1, e q2 r2, e q3 r3⟩
theorem abv_sum {a b c : Int} (h : min3 a b c ≠ max3 a b c) : 0 < (a - min3 a b c) + (b - min3 a b c) + (c - min3 a b c) := by
  obtain ⟨q1, q2, q3, _⟩ := min3_facts a b c
  obtain ⟨r1, _, _, r⟩ := max3_facts a b c
  have l := Int.lt_iff_le_and_ne.mpr ⟨Int.le_trans q1 r1, h⟩
  generalize min3 a b c = k at *
  rcases r with e | e | e
  · rw [e] at l; omega
  · rw [e] at l; omega
  · rw [e] at l; omega
/-- a colour's class and its share above grey -/
theorem cl_at {c : Int × Int × Int} {v : Value} {vs : List Value} {j : Nat} (h : vs[j]? = some v) (hv : HV c v) : (min3 c.1 c.2.1 c.2.2 = max3 c.1 c.2.1 c.2.2 ∧ clV vs j = 0) ∨ (min3 c.1 c.2.1 c.2.2 ≠ max3 c.1 c.2.1 c.2.2 ∧ clV vs j = encI (valF (hueI c.1 c.2.1 c.2.2))) := by
  unfold clV
  rcases hv with ⟨n, e⟩ | ⟨n, t, _, e⟩
  · exact .inl ⟨n, by rw [h, e]⟩
  · exact .inr ⟨n, by rw [h, e]⟩
theorem alikeC_grey1 {c d : Int × Int × Int} (h : min3 c.1 c.2.1 c.2.2 = max3 c.1 c.2.1 c.2.2) : alikeC (abv c) d = false := by
  obtain ⟨h1, h2, h3⟩ := abv_grey h
  unfold alikeC abv alikeB
  dsimp only
  rw [h1, h2, h3]
  exact decide_eq_false fun q => q.1 rfl
theorem alikeC_grey2 {c d : Int × Int × Int} (h : min3 c.1 c.2.1 c.2.2 = max3 c.1 c.2.1 c.2.2) : alikeC d (abv c) = false := by
  obtain ⟨h1, h2, h3⟩ := abv_grey h
  unfold alikeC abv alikeB
  dsimp only
  rw [h1, h2, h3]
  exact decide_eq_false fun q => q.2.1 rfl
section
variable {cs : List (Int × Int × Int)} {vs : List Value} (hv : HVs cs vs) (hc : ∀ c ∈ cs, IsCol c.1 c.2.1 c.2.2)
include hv hc
theorem cl_alike {i j : Nat} {c d : Int × Int × Int} (hi : cs[i]? = some c) (hj : cs[j]? = some d) : decide (clV vs i ≠ 0 ∧ clV vs i = clV vs j) = alikeC (abv c) (abv d) := by
  obtain ⟨v, e1, h1⟩ := hvs_at hv hi
  obtain ⟨u, e2, h2⟩ := hvs_at hv hj
  have k1 := hc _ (List.mem_of_getElem? hi)
  have k2 := hc _ (List.mem_of_getElem? hj)
  rcases cl_at e1 h1 with ⟨n1, q1⟩ | ⟨n1, q1⟩
  · rw [alikeC_grey1 n1]
    exact decide_eq_false fun z => z.1 q1
  · rcases cl_at e2 h2 with ⟨n2, q2⟩ | ⟨n2, q2⟩
    · rw [alikeC_grey2 n2]
      exact decide_eq_false fun z => z.1 (z.2.trans q2)
    · rw [← hue_alike k1 n1 k2 n2, cmp_eq_val (hue_fin k1 n1) (hue_fin k2 n2), q1, q2]
      exact decide_eq_decide.mpr ⟨fun z => encI_inj z.2, fun z => ⟨encI_pos _, by rw [z]⟩⟩
theorem nz_is (hl : cs.length = 7) : nzN (clV vs) 7 = nzOf (cs.map abv) := by
  funext j
  unfold nzN nzOf
  rcases Nat.lt_or_ge j 7 with h | h
  · have e : cs[j]? = some cs[j] := List.getElem?_eq_getElem (by omega)
    generalize cs[j] = c at e
    obtain ⟨v, e1, h1⟩ := hvs_at hv e
    rw [List.getElem?_map, e]
    show _ = decide (c.1 - min3 c.1 c.2.1 c.2.2 + (c.2.1 - min3 c.1 c.2.1 c.2.2) + (c.2.2 - min3 c.1 c.2.1 c.2.2) > 0)
    refine decide_eq_decide.mpr ?_
    rcases cl_at e1 h1 with ⟨n1, q1⟩ | ⟨n1, q1⟩
    · have := abv_grey n1
      exact ⟨fun z => absurd q1 z.2, fun z => by omega⟩
    · exact ⟨fun _ => abv_sum n1, fun _ => ⟨h, by rw [q1]; exact encI_pos _⟩⟩
  · rw [List.getElem?_eq_none (by simp; omega)]
    exact decide_eq_false fun z => by omega
theorem lk_is (hl : cs.length = 7) : lkN (clV vs) 7 = fun j => (((List.range' 0 6).map fun j => alikeC ((cs.map abv).getD j (0, 0, 0)) ((cs.map abv).getD (j + 1) (0, 0, 0))) ++ [false]).getD j false := by
  funext j
  rcases Nat.lt_or_ge j 6 with h | h
  · have e : cs[j]? = some cs[j] := List.getElem?_eq_getElem (by omega)
    have e' : cs[j + 1]? = some cs[j + 1] := List.getElem?_eq_getElem (by omega)
    have r : (((List.range' 0 6).map fun j => alikeC ((cs.map abv).getD j (0, 0, 0)) ((cs.map abv).getD (j + 1) (0, 0, 0))) ++ [false]).getD j false = alikeC ((cs.map abv).getD j (0, 0, 0)) ((cs.map abv).getD (j + 1) (0, 0, 0)) := by
      rw [List.getD_eq_getElem?_getD, List.getElem?_append_left (by simpa using h), List.getElem?_map, List.getElem?_range' h]
      simp
    rw [r, List.getD_eq_getElem?_getD, List.getD_eq_getElem?_getD, List.getElem?_map, List.getElem?_map, e, e']
    show _ = alikeC (abv cs[j]) (abv cs[j + 1])
    rw [← cl_alike hv hc e e']
    unfold lkN
    exact decide_eq_decide.mpr ⟨fun z => z.2, fun z => ⟨by omega, z⟩⟩
  · have r : (((List.range' 0 6).map fun j => alikeC ((cs.map abv).getD j (0, 0, 0)) ((cs.map abv).getD (j + 1) (0, 0, 0))) ++ [false]).getD j false = false := by
      rw [List.getD_eq_getElem?_getD, List.getElem?_append_right (by simpa using h)]
      generalize j - _ = k
      cases k <;> rfl
    rw [r]
    exact decide_eq_false fun z => by omega
theorem plain_str (hl : cs.length = 7) {i : Nat} (hi : i ≤ 7) : rev (strF vs) i = lastStr (nzOf (cs.map abv)) (fun j => (((List.range' 0 6).map fun j => alikeC ((cs.map abv).getD j (0, 0, 0)) ((cs.map abv).getD (j + 1) (0, 0, 0))) ++ [false]).getD j false) i := by
  have hl' : vs.length = 7 := by rw [hv.length, hl]
  have e : strF vs = strN (clV vs) 7 := by funext b; rw [strF_N (hvs_fin hv hc), hl']
  rw [e, str_law hi (by decide), nz_is hv hc hl, lk_is hv hc hl]
theorem plain_far (hl : cs.length = 7) {x y z : Int} {t : Tok} (hw : IsWay x y z) {i : Nat} (hi : i ≤ 7) : rev (farF vs (.float (hueI x y z) t)) i = lastTell (fun j => ((List.range' 0 7).map fun j => alikeC ((cs.map abv).getD j (0, 0, 0)) (x, y, z)).getD j false) i := by
  have hl' : vs.length = 7 := by rw [hv.length, hl]
  have hw0 := way_min hw
  have hwn := way_ne hw
  have ea : abv (x, y, z) = (x, y, z) := by
    unfold abv; dsimp only; rw [hw0]; simp
  have e : farF vs (.float (hueI x y z) t) = farN fun j => ((List.range' 0 7).map fun j => alikeC ((cs.map abv).getD j (0, 0, 0)) (x, y, z)).getD j false := by
    funext b
    unfold farF farN
    rw [hl']
    refine congrArg (fun k => some (b, k)) (upTo_congr fun j _ hj => ?_)
    have e : cs[j]? = some cs[j] := List.getElem?_eq_getElem (by omega)
    have r : ((List.range' 0 7).map fun j => alikeC ((cs.map abv).getD j (0, 0, 0)) (x, y, z)).getD j false = alikeC ((cs.map abv).getD j (0, 0, 0)) (x, y, z) := by
      rw [List.getD_eq_getElem?_getD, List.getElem?_map, List.getElem?_range' hj]
      simp
    rw [r, List.getD_eq_getElem?_getD, List.getElem?_map, e]
    show _ = alikeC (abv cs[j]) (x, y, z)
    have k1 := hc _ (List.mem_of_getElem? e)
    generalize cs[j] = c at e k1
    obtain ⟨v, e1, h1⟩ := hvs_at hv e
    rw [e1]
    rcases h1 with ⟨n, q⟩ | ⟨n, u, _, q⟩
    · rw [alikeC_grey1 n, q]; rfl
    · rw [q, ← ea]
      exact hue_alike k1 n hw.col hwn
  rw [e, tell_law hi]
end
end
section
open PySem PySem.W PySem.Calls PyProof.Rows
set_option maxRecDepth 100000
set_option maxHeartbeats 4000000
theorem lcols_col {R : List (Addr × Obj)} {rs : List Addr} {cs : List (Int × Int × Int)} (LC : LCols R rs cs) : ∀ c ∈ cs, IsCol c.1 c.2.1 c.2.2 := fun c hc => by
  obtain ⟨i, hi⟩ := List.getElem?_of_mem hc
  have hl : i < cs.length := (List.getElem?_eq_some_iff.mp hi).1
  obtain ⟨a, b, d, o, h1, _, _, h4⟩ := LC.each i _ (List.getElem?_eq_getElem (by rw [LC.len]; exact hl))
  rw [hi] at h1
  cases h1
  exact h4
theorem hvs_cut {c : Int × Int × Int} (cs : List (Int × Int × Int)) : ∀ {vs : List Value}, HVs (cs ++ [c]) vs → ∃ us v, vs = us ++ [v] ∧ HVs cs us ∧ HV c v := by
  induction cs with
  | nil =>
    intro vs h
    cases h with
    | cons h r => cases r; exact ⟨[], _, rfl, .nil, h⟩
  | cons d cs ih =>
    intro vs h
    cases h with
    | cons h r =>
      obtain ⟨us, v, e, h1, h2⟩ := ih r
      exact ⟨_ :: us, v, by rw [e]; rfl, .cons h h1, h2⟩
theorem way_hue {x y z : Int} (hw : IsWay x y z) {v : Value} (h : HV (x, y, z) v) : ∃ t, v = .float (hueI x y z) t := by
  rcases h with ⟨n, _⟩ | ⟨_, t, _, e⟩
  · exact absurd n (way_ne hw)
  · exact ⟨t, e⟩
theorem row_eight {hs : Array Value} {us : List Value} {v : Value} (e : hs.toList = us ++ [v]) (hl : us.length = 7) : ∃ v0 v1 v2 v3 v4 v5 v6, us = [v0, v1, v2, v3, v4, v5, v6] ∧ hs = #[v0, v1, v2, v3, v4, v5, v6, v] := by
  obtain ⟨v0, v1, v2, v3, v4, v5, v6, rfl⟩ := list7 hl
  exact ⟨v0, v1, v2, v3, v4, v5, v6, rfl, Array.toList_inj.mp e⟩
section
variable {w : World} {p : Program} {loose : List Str} {mean : ExcName → Option Value} {mg mb : Str → Option Value} {dp un : Nat} {gd : Option (List Code)} {fr : Option (List Env)} {s : Shared} {Q : Flow → Shared → Prop} {E : Value → Shared → Prop} {g : Heap} {L fa : Addr} {cd : Value} {m : Str → Option Value}
theorem law_all {sc : Addr} {o1 o2 o3 : Obj} {vs : List Value} {ns : List Int} (X : (hd.heap_39 w.params).In g) (T : Top p loose mean mg mb g) (F : Fr g L s.heap m)
    (N : News g L s.heap [(L + 1 + 1 + 1, o1), (L + 1 + 1, o2), (L + 1, o3), (83, tabObj #[]), (76, tabObj #[]), (61, tabObj #[])])
    (d3 : o3.data = .cell (some (.ref sc))) (d2 : o2.data = .cell none) (d1 : o1.data = .cell none) (hl : g.IsList sc vs.toArray) (hi : IntsAre vs ns) (hcd : ¬ ((63 : Nat) : Int) < (ns.length : Int)) (hdp : dp + 20 < recursionLimit) (hun : un + 300 < cLine)
    (l1 : @LT.lt Nat _ 83 L) (l2 : @LT.lt Nat _ 76 L) (l3 : @LT.lt Nat _ 61 L)
    (hret : ∀ h' m' tk' ps qs rs, Fr g L h' m' → News g L h' [(83, tabObj qs), (76, tabObj rs), (61, tabObj ps)] → Q (.ret (.bool true)) { s with heap := h', toks := tk' }) :
    Rest 0 w dp un gd fr L fa cd Q (fun _ _ => False) s := by
  with_reducible refine' st_numbers X T F N d3 d2 d1 hl hi hcd hdp hun l1 l2 l3 ?_
  intro h tk m' nl n0 n1 n2 n3 n4 n5 n6 n7 n8 t0 t1 t2 t3 t4 t5 t6 t7 t8 F hm N ne
  refine st_ways X T F hm N d1 hdp hun l1 l2 l3 ne ?_
  clear F N hm
  intro h tk m' wl w0 w1 ow o0 ow1 a0 b0 c0 a1 b1 c1 F hm N dw hw0 iw0 hw1 iw1
  refine st_colours X T F hm N dw hw0 iw0 hw1 iw1 hdp hun ?_
  clear F N hm
  intro h tk m' cl r0 r1 r2 r3 r4 r5 r6 cs R F hm LC mw N
  have hcs := lcols_col LC
  have hlen : cs.length = 7 := by rw [← LC.len]; rfl
  refine st_hues X T F hm LC mw N dw hw0 iw0 hdp hun ?_
  clear F N hm
  intro h tk m' hu ot hs os k1 k2 F hm1 hm2 hm3 hv1 hv2 N
  refine st_same X T F hm1 hm2 hm3 hv1 hv2 ?_ N hdp hun ?_
  · intro c hc hn
    refine hue_self ?_ hn
    rcases List.mem_append.mp hc with q | q
    · exact hcs c q
    · rw [List.mem_singleton.mp q]; exact iw0.col
  clear F N hm1 hm2 hm3 hv2
  intro h tk m' F hm1 hm3 N
  refine st_above X T F hm1 hm3 LC N hdp hun ?_
  clear F N hm1 hm3
  intro h tk m' al a0' a1' a2 a3 a4 a5 a6 R' F hm1 hm2 LC' hR N
  refine st_linked X T F hm1 hm2 LC' N hdp hun ?_
  clear F N hm1 hm2
  intro h tk m' ll k3 F hm1 hm2 hm3 N
  refine st_fits X T F hm1 hm2 hm3 LC' (hR _ mw) hw0 iw0 dw N hdp hun ?_
  clear F N hm1 hm2 hm3
  intro h tk m' fl F hm1 hm2 hm3 hm4 N
  obtain ⟨us, v, ev, hvu, hvw⟩ := hvs_cut _ hv1
  obtain ⟨t, rfl⟩ := way_hue iw0 hvw
  obtain ⟨v0, v1, v2, v3, v4, v5, v6, rfl, rfl⟩ := row_eight ev (by rw [hvu.length]; exact hlen)
  refine st_far X T F hm1 hm2 hm3 hm4 LC' rfl N hdp hun ?_
  clear F N hm1 hm2 hm3 hm4
  intro h tk m' f oc od fd sl ps KO R₂ F hm1 hm2 hm3 hm4 hm5 LC2 mf FL hKO hR2 N
  refine st_loop X T F hm1 hm2 hm3 hm4 hm5 LC2 mf FL hKO hR2 (hvs_fin hvu hcs).fv ?_ ?_ (fun i hi => plain_str hvu hcs hlen hi) str_mono (fun i hi => plain_far hvu hcs hlen iw0 hi) far_mono N hdp hun ?_
  · rw [List.length_map, hlen]; rfl
  · rfl
  · intro h' m' tk' ps qs rs F N
    exact hret h' m' tk' ps qs rs F N
end
end
theorem start_37 : True := by
  w_top off
  have : True ∧ True := by
    first
    | (walk1; done)
    | exact ⟨trivial, trivial⟩
  trivial
section
open PySem PySem.W PySem.Calls PyProof.Rows
set_option maxRecDepth 100000
set_option maxHeartbeats 8000000
theorem st0 {w : World} {p : Program} {loose : List Str} {mean : ExcName → Option Value} {mg mb : Str → Option Value} {dp un : Nat} {gd : Option (List Code)} {fr : Option (List Env)} {s : Shared} {Q : Flow → Shared → Prop} {E : Value → Shared → Prop}
    {g : Heap} {L fa sc : Addr} {cd : Value} {m : Str → Option Value} {o1 o2 o3 : Obj} {vs : List Value} {ns : List Int}
    (X : (hd.heap_39 w.params).In g) (T : Top p loose mean mg mb g) (F : Fr g L s.heap m)
    (N : News g L s.heap [(L + 1 + 1 + 1, o1), (L + 1 + 1, o2), (L + 1, o3), (83, tabObj #[]), (76, tabObj #[]), (61, tabObj #[])])
    (d3 : o3.data = .cell (some (.ref sc))) (d2 : o2.data = .cell none) (d1 : o1.data = .cell none) (hl : g.IsList sc vs.toArray) (hi : IntsAre vs ns) (hcd : ¬ ((63 : Nat) : Int) < (ns.length : Int))
    (hdp : dp + 20 < recursionLimit) (hun : un + 300 < cLine) (l1 : @LT.lt Nat _ 83 L) (l2 : @LT.lt Nat _ 76 L) (l3 : @LT.lt Nat _ 61 L)
    (hret : ∀ h' m' tk' ps qs rs, Fr g L h' m' → News g L h' [(83, tabObj qs), (76, tabObj rs), (61, tabObj ps)] → Q (.ret (.bool true)) { s with heap := h', toks := tk' }) :
    wpAny (model Challenge.pw_mr0087_01 w) ((AA dp un gd fr).deeper (lawEnv L fa cd)) (execs lawBody (lawEnv L fa cd)) Q E s :=
  by
  rw [show lawBody = lawBody.drop 0 from (List.drop_zero).symm]
  with_reducible refine' wpAny_mono (law_all X T F N d3 d2 d1 hl hi hcd hdp hun l1 l2 l3 hret) (fun _ _ h => h) (fun _ _ h => h.elim)
theorem holds1 : PySem.Challenge.rw_mr0087_01.Holds := hd (by
  k_go0
  (show wpAny (model Challenge.pw_mr0087_01 _) ((AA _ _ _ _).deeper (lawEnv _ _ _)) (execs lawBody (lawEnv _ _ _)) _ _ _)
  with_reducible refine' st0 ?zX ?zT ?zF ?zN ?zd ?zd2 ?zd1 ?zl ?zi ?zc ?za ?zb ?zl1 ?zl2 ?zl3 ?_
  (case zN => k_asm)
  (case zX => k_asm)
  (case zT => k_asm)
  (case zF => k_asm)
  (case zd => assumption)
  (case zl => assumption)
  (case zi => assumption)
  (case za => decide +kernel)
  (case zb => decide +kernel)
  (case zd2 => (first | assumption | rfl))
  (case zd1 => (first | assumption | rfl))
  (case zc => assumption)
  (case zl1 => (first | assumption | omega))
  (case zl2 => (first | assumption | omega))
  (case zl3 => (first | assumption | omega))
  intro h9 m9 tk9 ps9 qs9 rs9 F9 N9
  (show _ ∧ _)
  refine ⟨?_, ?_⟩
  · (show GoodW _ _ _ _ _ (.ok (.ret _)) _)
    (refine' goodW_bool F9 ?zg (raisesW_false ?zn) ?zp)
    (case zg => assumption)
    (case zn => wrow_none_raised)
    (case zp => (refine' postW_of ?zs ?zv ?ze; (case zs => o_shape); (case zv => wtm_val); (case ze => w_fin)))
  · exact ⟨.of N9 (by k_mem), .of N9 (by k_mem), .of N9 (by k_mem), trivial⟩)
end
end Mine
theorem PySem.Challenge.cw_mr0087_01_holds : PySem.Challenge.rw_mr0087_01.Holds :=
  Mine.holds1
