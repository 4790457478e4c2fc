import PyProof.Rows.All
import Wide.All
import OpenK.AllK
import Wide.FinOn
import KE.KSortAsk
import KE.KSortTup
import KE.KRevIter
import PyProof.ZipIter
import KE.KDictIter
import PyProof.Rows.CatchTuple
import PyProof.AutoListH
import KE.KSortKey
import KE.KMinKey
import KE.KSliceW
import KE.KTypeOf
import KE.KStateDown
import PyProof.WalksPairs
import PyProof.ListIndexOut
import PyProof.NeKinds
import PyProof.Rows.StrTemp
import PyProof.ListCopy
import PyProof.Rows.ListMul
import PyProof.Rows.SeqMore
import PyProof.WalkInts
import KE.KLam
import PyProof.DictTable
import Lean
import PySem.Challenge.RW_ki0045_01
set_option Elab.async false
set_option maxRecDepth 100000
set_option linter.all false

noncomputable section
set_option maxHeartbeats 8000000
open PySem PySem.W PyProof.Rows
namespace Mine
section
local macro_rules | `(tactic| o_head $_) => `(tactic| assumption)
theorem dm (h : PySem.Challenge.rw_ki0045_01.row.Holds) : PySem.Challenge.rw_ki0045_01.row.Holds := by
  x_head
end
abbrev lawRow : OpenRow := PySem.Challenge.rw_ki0045_01.row
noncomputable def view : Program := { PySem.Challenge.pw_ki0045_01 with main := { PySem.Challenge.pw_ki0045_01.main with body := [1, 3, 4, 5, 6, 7, 8, 9, 10, 11, 12, 13, 17, 18, 19, 20, 21, 22, 23, 24, 25, 26, 27, 28].filterMap fun i => PySem.Challenge.pw_ki0045_01.main.body[i]? } }
noncomputable abbrev looseN : List Str := [Str.ofString "nsmallest", Str.ofString "nlargest"]
noncomputable abbrev hook : Hook := kHook dm.heap_1 (List.range 189) (fun _ => by kernel_rfl)
theorem left : LeftO lawRow.prog view looseN (fun s => xlAt view [] s && recOk (RowW.records lawRow.toRowW) s) hook.obs hook.val 1796 := by
  intro w
  kernel_rfl
theorem said : PySem.Challenge.rw_ki0045_01.wellSaid = true := by
  unfold OpenLaw.wellSaid OpenRow.wellSaid OpenRow.partSaid looksOpen
  repeat' with_reducible refine look_both ?_ ?_
  all_goals decide +kernel
theorem law_def : (defOf view lawRow.name).isSome = true := by kernel_rfl
noncomputable abbrev dk : DefRec × List (Str × Expr) := (defOf view lawRow.name).get law_def
theorem hw : lawRow.toRowW.promised := by w_witness2
theorem tp (walk : WalkO view looseN (XL view []) hook.says lawRow.toRowW dk.1 dk.2 fun f vs => PySem.call f vs) : PySem.Challenge.rw_ki0045_01.Holds := by
  refine holds_law said fun sd => ?_
  refine holds_open (q := view) (loose := looseN) (Xt := fun s => xlAt view [] s && recOk (RowW.records lawRow.toRowW) s) (XP := XL view []) (Yf := hook.obs) (Ya := hook.val) (YP := hook.says) (N := 1796) (d := dk.1) (kwd := dk.2) left hook.of hook.keeps
    (fun s e => xl_of s (Bool.and_eq_true_iff.mp e).1) XL.keeps ?_ ?_ ?_ (fun s e => recFacts_of (Bool.and_eq_true_iff.mp e).2) ?_ sd ?_ ?_ hw walk
  · kernel_rfl
  · kernel_rfl
  · kernel_rfl
  · kernel_rfl
  · kernel_rfl
  · exact ⟨rfl, rfl, rfl, rfl, rfl, by decide +kernel⟩
end Mine
end
noncomputable section
set_option maxHeartbeats 4000000
open PySem PySem.W PySem.W.X PyProof.Rows PySem.Calls
namespace Mine
def tcS (n : Lean.Name) (a : Array Lean.Syntax) : Lean.Syntax := .node .none n a
def tcQ (x : Lean.Syntax) : Lean.Syntax := tcS `Lean.Parser.Tactic.tacticSeq #[tcS `Lean.Parser.Tactic.tacticSeq1Indented #[tcS `null #[x]]]
def tcF : Lean.Syntax := tcS `Lean.Parser.Tactic.tacticRfl #[Lean.mkAtom "rfl"]
def tcR : Lean.Syntax := tcQ tcF
def tcU : Lean.Syntax := tcQ (tcS `Lean.Parser.Tactic.withUnfoldingAll #[Lean.mkAtom "with_unfolding_all", tcQ tcF])
def tcD : Lean.Syntax := tcQ (tcS `Lean.Parser.Tactic.decide #[Lean.mkAtom "decide", tcS `Lean.Parser.Tactic.optConfig #[tcS `null #[]]])
theorem neW : Nonempty World := ⟨{ draws := fun _ _ => 0, params := { strHash := fun _ => 0, shareClass := fun _ => 0, mergeTok := id, idOf := fun _ => 0, idOfShared := fun _ _ => 0, followText := fun _ => false, idOfImm := fun _ => 0 } }⟩
theorem neA : Nonempty Around := ⟨{}⟩
theorem neS : Nonempty Shared := ⟨{}⟩
theorem neI {α : Type u} [h : Nonempty α] : Nonempty α := h
theorem ne2 {α β : Type} (a : Nonempty α) (b : Nonempty β) : Nonempty (α × β) := a.elim fun x => b.elim fun y => ⟨(x, y)⟩
theorem eps {α : Type u} {x : α} {P : α → Prop} (h : P (@Classical.epsilon α ⟨x⟩ fun y => ¬ P y)) : P x :=
  Classical.byContradiction fun n => @Classical.epsilon_spec_aux α ⟨x⟩ (fun y => ¬ P y) ⟨x, n⟩ h
theorem nin1 {a b : Addr} (h : a ≠ b) : a ∉ [b] := fun q => h (List.mem_singleton.mp q)
theorem nin2 {a b c : Addr} (h : a ≠ b) (k : a ≠ c) : a ∉ [b, c] := fun q => (List.mem_cons.mp q).elim h fun q => k (List.mem_singleton.mp q)
theorem szL {n : Nat} (h : autoParam (Nat.ble n 100 = true) tcR) : n ≤ sizeLine := Nat.le_trans (Nat.le_of_ble_eq_true h) (by rw [sizeLine_eq]; decide)
end Mine
namespace Mine

theorem fill_frag (w : World) (h : Heap) : (Mine.dm.heap_1 w.params).In h → PySem.Challenge.rw_ki0045_01.prog = PySem.Challenge.rw_ki0045_01.prog → True := by
  k_fill; intros; trivial

noncomputable abbrev MM (w : World) : Model := model PySem.Challenge.rw_ki0045_01.row.prog w

noncomputable def Kp (h h' : Heap) : Prop := ∀ b o, h.get? b = some o → h'.get? b = some o
theorem Kp.refl (h : Heap) : Kp h h := fun _ _ e => e
theorem Kp.trans {a b c : Heap} (x : Kp a b) (y : Kp b c) : Kp a c := fun d o e => y d o (x d o e)
theorem Kp.push (h : Heap) (o : Obj) : Kp h (h.push o) := fun _ _ e => Heap.get?_push_of_some _ e
noncomputable def KpB (S : List Addr) (h h' : Heap) : Prop := ∀ b o, b ∉ S → h.get? b = some o → h'.get? b = some o
theorem KpB.refl (S : List Addr) (h : Heap) : KpB S h h := fun _ _ _ e => e
theorem KpB.trans {S : List Addr} {a b c : Heap} (x : KpB S a b) (y : KpB S b c) : KpB S a c := fun d o hd e => y d o hd (x d o hd e)
theorem Kp.but {h h' : Heap} (x : Kp h h') (S : List Addr) : KpB S h h' := fun b o _ e => x b o e
theorem KpB.mono {S S' : List Addr} {h h' : Heap} (x : KpB S h h') (k : ∀ a ∈ S, a ∈ S') : KpB S' h h' := fun b o hb e => x b o (fun q => hb (k _ q)) e
theorem KpB.kp {h h' : Heap} (x : KpB [] h h') : Kp h h' := fun b o e => x b o (fun q => nomatch q) e
theorem SameBut.kpB {a : Addr} {h h' : Heap} (x : Heap.SameBut a h h') : KpB [a] h h' := fun b o hb e => (x.2 b (fun q => hb (by rw [q]; exact .head _))).trans e
theorem kpB_hide {S : List Addr} {h h' : Heap} (x : Kp (hideAll h S) h') : KpB S h h' := fun b o hb e => x b o (hideAll_get _ e hb)
theorem hide_kp (S : List Addr) (h : Heap) : Kp (hideAll h S) h := fun _ _ e => of_hideAll _ e
theorem In.kp {K : Frag} {h h' : Heap} (X : K.In h) (k : Kp h h') : K.In h' := X.keeps k

theorem Fr.kp {h₀ h h' : Heap} {L : Addr} {m : Str → Option Value} (F : Fr h₀ L h m) (k : Kp h h') : Fr h₀ L h' m :=
  ⟨F.ns.keeps k, fun b o e => k _ _ (F.keep b o e), F.above⟩
theorem Fr.kpB {S : List Addr} {h₀ h h' : Heap} {L : Addr} {m : Str → Option Value} (F : Fr h₀ L h m) (k : KpB S h h') (hL : L ∉ S) (h0 : ∀ a ∈ S, h₀.get? a = none) : Fr h₀ L h' m := by
  refine ⟨?_, fun b o e => k _ _ (fun q => ?_) (F.keep b o e), F.above⟩
  · obtain ⟨o, es, ep, ho, r⟩ := F.ns
    exact ⟨o, es, ep, k _ _ hL ho, r⟩
  · have := h0 b q
    rw [e] at this; cases this


theorem strKeys_of {es : Array DictEntry} (e : (es.toList.all fun d => match d.key with | .str .. => true | _ => false) = true) : StrKeys es := by
  intro d hm
  have q := List.all_eq_true.mp e d (Array.mem_toList_iff.mpr hm)
  revert q
  cases d.key <;> intro q <;> first | exact ⟨_, _, rfl⟩ | cases q
noncomputable def KIn (w : World) (h : Heap) : Prop := ∀ a o, (a == 16 || a == 180) = false → (dm.heap_1 w.params).lookup a = some o → h.get? a = some o
theorem KIn.keeps {w : World} {h h' : Heap} (X : KIn w h) (k : Kp h h') : KIn w h' := fun a o e q => k _ _ (X a o e q)
theorem KIn.kp {w : World} {h h' : Heap} (X : KIn w h) (k : Kp h h') : KIn w h' := fun a o e q => k _ _ (X a o e q)
theorem ns_K {K : Frag} {h : Heap} {a : Addr} {c : Value} {d : Option Addr} {es : Array DictEntry} {n : Nat} {sl : Array (Option Value)} (X : K.In h) (e : K.lookup a = some ⟨c, d, .dict es n, sl⟩)
    (k : (es.toList.all fun d => match d.key with | .str .. => true | _ => false) = true) : h.Ns a (nsFind es) :=
  ⟨_, _, _, X _ _ e, rfl, strKeys_of k, fun _ => rfl⟩
theorem ns_val {K : Frag} {h : Heap} {m : Str → Option Value} {a : Addr} {n : Str} {r : Option Value} (X : K.In h) (G : h.Ns a m) (e : nsIn K a n = some r) : m n = r := by
  obtain ⟨o, es, ep, ho, hdt, _, hf⟩ := G
  unfold nsIn at e
  split at e
  · rename_i c d es' n' sl q
    have := X _ _ q
    rw [ho] at this
    cases this
    cases hdt
    rw [← hf]
    unfold nsFind findBy
    rw [← Array.find?_toList]
    split at e
    · rename_i en he
      rw [he]; exact Option.some.inj e
    · rename_i he
      rw [he]
      split at e
      · cases e
      · exact Option.some.inj e
  · cases e
theorem KIn.ns {w : World} {h : Heap} {a : Addr} {c : Value} {d : Option Addr} {es : Array DictEntry} {n : Nat} {sl : Array (Option Value)} (X : KIn w h) (e : (dm.heap_1 w.params).lookup a = some ⟨c, d, .dict es n, sl⟩)
    (k : (es.toList.all fun d => match d.key with | .str .. => true | _ => false) = true) (ha : (a == 16 || a == 180) = false) : h.Ns a (nsFind es) :=
  ⟨_, _, _, X _ _ ha e, rfl, strKeys_of k, fun _ => rfl⟩
theorem KIn.val {w : World} {h : Heap} {m : Str → Option Value} {a : Addr} {n : Str} {r : Option Value} (X : KIn w h) (G : h.Ns a m) (e : nsIn (dm.heap_1 w.params) a n = some r) (ha : (a == 16 || a == 180) = false) : m n = r := by
  obtain ⟨o, es, ep, ho, hdt, _, hf⟩ := G
  unfold nsIn at e
  split at e
  · rename_i c d es' n' sl q
    have := X _ _ ha q
    rw [ho] at this
    cases this
    cases hdt
    rw [← hf]
    unfold nsFind findBy
    rw [← Array.find?_toList]
    split at e
    · rename_i en he
      rw [he]; exact Option.some.inj e
    · rename_i he
      rw [he]
      split at e
      · cases e
      · exact Option.some.inj e
  · cases e
theorem KIn.code {w : World} {h : Heap} (X : KIn w h) {c : Addr} {q : Str} (e : codeIn (dm.heap_1 w.params) (.ref c) q = true) (hc : (c == 16 || c == 180) = false) : h.CodeRec (.ref c) q := by
  unfold codeIn at e
  dsimp only at e
  split at e
  · rename_i vs _ ho
    split at e
    · rename_i a n t r hv
      exact ⟨_, _, vs, t, rfl, X _ _ hc ho, rfl, by rw [← Array.getElem?_toList, hv, ← beq_iff_eq.mp e]; rfl⟩
    · cases e
  · cases e
theorem nolimit_K {w : World} {h : Heap} (X : KIn w h) : h.NoLimit :=
  ⟨_, KIn.ns (a := 2) X (by k_is) (by kernel_rfl) rfl, rfl⟩
theorem gns_K {w : World} {h : Heap} (X : KIn w h) : ∃ mg, h.Ns mainGlobals mg := ⟨_, KIn.ns (a := 3) X (by k_is) (by kernel_rfl) rfl⟩
theorem bns_K {w : World} {h : Heap} (X : KIn w h) : ∃ mb, h.Ns builtinsNs mb := ⟨_, KIn.ns (a := 0) X (by k_is) (by kernel_rfl) rfl⟩
theorem cst_K {w : World} {h : Heap} (X : KIn w h) : ∃ m, h.Ns cStatics m := ⟨_, KIn.ns (a := 2) X (by k_is) (by kernel_rfl) rfl⟩

section
variable {M : Model} {w : World} {A : Around} {E : Value → Shared → Prop} {s : Shared} {env : Env} {Q : Value → Shared → Prop} {h₀ : Heap} {L : Addr} {m : Str → Option Value}
theorem nmL {x : Str} {pos : Pos} {v : Value} (F : Fr h₀ L s.heap m) (hv : m x = some v) (h : Q v s) (eL : autoParam (env.locals = L) tcR) (hk : autoParam (env.scope.kind = .function) tcR)
    (hl : autoParam (env.kindOf x = some .local) tcR) (hb : autoParam ((x == ("__debug__" : Str)) = false) tcD) : wpAny M A (eval (.Name x pos) env) Q E s :=
  wpAny_Name (wpAny_loadName_local hk hl (eL ▸ F.ns) hv h) hb
theorem nmG {x : Str} {pos : Pos} {v : Value} (X : KIn w s.heap) (e : nsIn (dm.heap_1 w.params) mainGlobals x = some (some v)) (h : Q v s)
    (eg : autoParam (env.globals = mainGlobals) tcR) (hk : autoParam (env.scope.kind = .function) tcR) (hx : autoParam (env.kindOf x = some .globalImplicit) tcR) (hb : autoParam ((x == ("__debug__" : Str)) = false) tcD) :
    wpAny M A (eval (.Name x pos) env) Q E s := by
  obtain ⟨mg, G⟩ := gns_K X
  exact Name_function_global hk hx (loadGlobal_global (eg ▸ G) (X.val G e rfl) h) hb
theorem nmB {x : Str} {pos : Pos} {v : Value} (X : KIn w s.heap) (e : nsIn (dm.heap_1 w.params) mainGlobals x = some none) (e' : nsIn (dm.heap_1 w.params) builtinsNs x = some (some v)) (h : Q v s)
    (eg : autoParam (env.globals = mainGlobals) tcR) (eb : autoParam (env.builtins = builtinsNs) tcR) (hk : autoParam (env.scope.kind = .function) tcR) (hx : autoParam (env.kindOf x = some .globalImplicit) tcR) (hb : autoParam ((x == ("__debug__" : Str)) = false) tcD) :
    wpAny M A (eval (.Name x pos) env) Q E s := by
  obtain ⟨mg, G⟩ := gns_K X
  obtain ⟨mb, G'⟩ := bns_K X
  exact Name_function_global hk hx (loadGlobal_builtin (eg ▸ G) (X.val G e rfl) (eb ▸ G') (X.val G' e' rfl) h) hb
end

noncomputable def Rm (A : Around) (n : Nat) : Prop := A.depth + n ≤ 600 ∧ A.units + 10 * n ≤ 6000 ∧ A.handled = none
theorem Rm.deep {A : Around} {n : Nat} (x : Rm A (n + 1)) (env : Env) : Rm (A.deeper env) n := by
  refine ⟨?_, ?_, x.2.2⟩
  · have := x.1; show A.depth + 1 + n ≤ 600; lia
  · have := x.2.1; show A.units + 3 + 10 * n ≤ 6000; lia
theorem Rm.in1 {A : Around} {n : Nat} (x : Rm A (n + 1)) : Rm A.in1 n := by
  refine ⟨?_, ?_, x.2.2⟩
  · have := x.1; show A.depth + n ≤ 600; lia
  · have := x.2.1; show A.units + 1 + 10 * n ≤ 6000; lia
theorem Rm.le {A : Around} {n k : Nat} (x : Rm A n) (h : k ≤ n) : Rm A k := ⟨Nat.le_trans (Nat.add_le_add_left h _) x.1, by have := x.2.1; lia, x.2.2⟩
theorem Rm.room {A : Around} {n : Nat} (x : Rm A n) : A.depth < recursionLimit := by
  have := x.1; show A.depth < 1000; lia
theorem Rm.han {A : Around} {n : Nat} (x : Rm A n) : A.handled = none := x.2.2
theorem Rm.units {A : Around} {n : Nat} (x : Rm A n) : A.units < cLine := by
  have := x.2.1; show A.units < 9900; lia

section
variable {w : World} {A : Around} {E : Value → Shared → Prop} {s : Shared} {Q : Value → Shared → Prop}
variable {f : Addr} {name qual : Str} {params : Arguments} {body : List Stmt} {scope : Scope} {cl : List (Str × Addr)} {dV kV doc pm cdv ct oc : Value} {an od : Option Addr} {osl : Array (Option Value)} {args : List Value} {kw : List (Str × Value)} {binds : List (Str × Value)}
theorem callX (ho : s.heap.get? f = some ⟨oc, od, .func (fnX name qual params body scope cl dV kV doc pm an cdv ct), osl⟩) (hcd : s.heap.CodeRec cdv qual) (X : KIn w s.heap) {n : Nat} (hr : Rm A n)
    (hbind : BindsTo s (fnX name qual params body scope cl dV kV doc pm an cdv ct) ⟨args, kw⟩ binds) (hloc : ∀ x ∈ binds, scope.names.lookup x.1 = some .local)
    (h : ∀ h₁, Fr s.heap s.heap.objs.size h₁ (fun x => binds.reverse.lookup x) → 
      wpAny (MM w) (A.deeper (envX qual scope s.heap.objs.size f cdv cl)) (execs body (envX qual scope s.heap.objs.size f cdv cl)) (fun fl s' => Q (match fl with | .ret v => v | _ => .none) s') (fun _ _ => False)
        { s with heap := h₁, toks := s.toks + binds.length })
    (hcell : autoParam (∀ x ∈ scope.names, x.2 ≠ .cell) tcD) (hco : autoParam (scope.isCoroutine = false) tcR) (hgen : autoParam (scope.isGenerator = false) tcR) (hk : autoParam (scope.kind = .function) tcR) :
    wpAny (MM w) A (call (.ref f) args kw) Q E s := by
  refine wpAny_call ?_
  refine codeAny_call_def (fd := fnX name qual params body scope cl dV kV doc pm an cdv ct) (body := body) (binds := binds) hr.room ho rfl (nolimit_K X) hcd rfl hbind hcell hloc (fun h₁ hns hk₁ => ?_) hco hgen hk
  exact wpAny_mono (h h₁ ⟨hns, hk₁, Nat.le_refl _⟩) (fun fl s' x => x) (fun _ _ x => x.elim)
theorem callT {cda : Addr} (X : KIn w s.heap) (ho : (dm.heap_1 w.params).lookup f = some ⟨oc, od, .func (fnX name qual params body scope [] dV kV doc pm an (.ref cda) ct), osl⟩) (hcd : codeIn (dm.heap_1 w.params) (.ref cda) qual = true) {n : Nat} (hr : Rm A n)
    (hbind : BindsTo s (fnX name qual params body scope [] dV kV doc pm an (.ref cda) ct) ⟨args, kw⟩ binds) (hloc : ∀ x ∈ binds, scope.names.lookup x.1 = some .local)
    (h : ∀ h₁, Fr s.heap s.heap.objs.size h₁ (fun x => binds.reverse.lookup x) → 
      wpAny (MM w) (A.deeper (envX qual scope s.heap.objs.size f (.ref cda) [])) (execs body (envX qual scope s.heap.objs.size f (.ref cda) [])) (fun fl s' => Q (match fl with | .ret v => v | _ => .none) s') (fun _ _ => False)
        { s with heap := h₁, toks := s.toks + binds.length })
    (hcell : autoParam (∀ x ∈ scope.names, x.2 ≠ .cell) tcD) (hco : autoParam (scope.isCoroutine = false) tcR) (hgen : autoParam (scope.isGenerator = false) tcR) (hk : autoParam (scope.kind = .function) tcR)
    (hfn : autoParam ((f == 16 || f == 180) = false) tcR) (hcn : autoParam ((cda == 16 || cda == 180) = false) tcR) :
    wpAny (MM w) A (call (.ref f) args kw) Q E s :=
  callX (X _ _ hfn ho) (X.code hcd hcn) X hr hbind hloc h hcell hco hgen hk
end

noncomputable def FnAt (h : Heap) (a : Addr) : Prop := ∃ c d fd sl, h.get? a = some ⟨c, d, .func fd, sl⟩
theorem FnAt.of {w : World} {h : Heap} {f : Addr} {c : Value} {d : Option Addr} {fd : FuncData} {sl : Array (Option Value)} (X : KIn w h) (ho : (dm.heap_1 w.params).lookup f = some ⟨c, d, .func fd, sl⟩) (hf : autoParam ((f == 16 || f == 180) = false) tcR) : FnAt h f := ⟨_, _, _, _, X _ _ hf ho⟩
theorem FnAt.kp {h h' : Heap} {a : Addr} (x : FnAt h a) (k : Kp h h') : FnAt h' a := by obtain ⟨c, d, fd, sl, e⟩ := x; exact ⟨c, d, fd, sl, k _ _ e⟩
theorem FnAt.keep {M : Model} {h : Heap} {a : Addr} (x : FnAt h a) : ∃ k, (k = Keeper.frame ∨ k = Keeper.machine ∨ k = Keeper.boundFrame) ∧ Looks M h (keeperOf (.ref a)) k :=
  by obtain ⟨_, _, _, _, e⟩ := x; exact ⟨.frame, .inl rfl, (Looks.ld (part := none) e).andThen .now⟩
section
variable {M : Model} {A : Around} {E : Value → Shared → Prop} {s : Shared} {env : Env} {pos : Pos} {f : Addr} {Q : Value → Shared → Prop}
theorem callWith_F {e : Expr} {rest : List Expr} (h : wpAny M A (spliced (backTo pos (starEach (e :: rest) env))) (fun vs s₁ => FnAt s₁.heap f ∧ wpAny M A (call (.ref f) vs) Q E s₁) E s)
    (he : autoParam (starEach (e :: rest) env = (false, eval e env) :: starEach rest env) tcR) (hplain : autoParam ((backTo pos (starEach rest env)).any (·.1) = false) tcR) :
    wpAny M A (callWith pos (.ref f) [] (backTo pos (starEach (e :: rest) env)) []) Q E s := by
  rw [he] at h ⊢
  exact callWith_of (P := fun h => FnAt h f) (by show ((false || (backTo pos (starEach rest env)).any (·.1)) || false) = false; rw [hplain]; rfl) (fun _ x => x.keep) (evalArgs_plain h)
end
end Mine
namespace Mine
theorem sub_tt : isSubtype (.type "type") (.type "type") = pure true := by rw [isSubtype_type]; kernel_rfl
theorem sub_tup : isSubtype (.type "tuple") (.type "tuple") = pure true := by rw [isSubtype_type]; kernel_rfl
theorem sub_dict : isSubtype (.type "dict") (.type "dict") = pure true := by rw [isSubtype_type]; kernel_rfl
theorem sub_oo : isSubtype (.type "object") (.type "object") = pure true := by rw [isSubtype_type]; kernel_rfl
theorem ty_o : typeOf (.type "object") = pure (.type "type") := rfl
theorem isT_o : isType (.type "object") = pure true := rfl
theorem mro_object : mroOf (.type "object") = pure [.type "object"] := by rw [mroOf_type]; kernel_rfl
theorem mro_type : mroOf (.type "type") = pure [.type "type", .type "object"] := by rw [mroOf_type]; kernel_rfl
theorem best_o : Builtin.Slots.bestBase [.type "object"] = pure (.type "object") := by kernel_rfl
theorem solid_o : Builtin.Slots.solid (.type "object") = pure (.type "object") := by kernel_rfl
theorem ext_o : Builtin.extendedBase [.type "object"] = pure (.type "object") := by
  unfold Builtin.extendedBase
  simp only [List.forIn_cons, List.forIn_nil, solid_o, sub_oo, best_o, pure_bind, if_true]
  kernel_rfl
theorem turned_o : Builtin.notOverATurnedClass [.type "object"] = pure () := by
  unfold Builtin.notOverATurnedClass
  simp only [List.forIn_cons, List.forIn_nil, isType, mro_object, pure_bind, if_true]
  try rfl
theorem sn_o : Builtin.Slots.slotNamesOf (.type "object") = pure [] := by kernel_rfl
theorem gd_o : Builtin.Slots.givesDict (.type "object") = pure false := by kernel_rfl
theorem lk_weak : typeLookup (.type "object") "__weakref__" = pure none := by rw [typeLookup_type, builtinLookup_eq_fast]; kernel_rfl
theorem gw_o : Builtin.Slots.givesWeak (.type "object") = pure false := by
  unfold Builtin.Slots.givesWeak
  simp only [mro_object, lk_weak, pure_bind]
  kernel_rfl
theorem vs_o : Builtin.Slots.varSize (.type "object") = pure false := by
  unfold Builtin.Slots.varSize
  simp only [mro_object, pure_bind]
  kernel_rfl
theorem lk_mro : typeLookup (.type "type") "mro" = pure (some (.builtin "type.mro")) := by rw [typeLookup_type, builtinLookup_eq_fast]; kernel_rfl
theorem hook_t : Builtin.mroHook? (.type "type") = pure none := by
  unfold Builtin.mroHook?
  simp only [lk_mro, pure_bind]
theorem lin_o : Builtin.linearize [.type "object"] mroOf = pure [.type "object"] := by
  unfold Builtin.linearize
  simp only [List.mapM_cons, List.mapM_nil, mro_object, pure_bind]
  kernel_rfl
theorem lookup_object_new : typeLookup (.type "object") "__new__" = pure (some (.builtin "object.__new__")) := by rw [typeLookup_type, builtinLookup_eq_fast]; kernel_rfl
theorem made_o : Bind.madeBy (.type "object") = pure (some "object.__new__") := madeBy_type mro_object lookup_object_new (by decide +kernel)
theorem lookup_type_new : typeLookup (.type "type") "__new__" = pure (some (.builtin "type.__new__")) := by rw [typeLookup_type, builtinLookup_eq_fast]; kernel_rfl
theorem made_t : Bind.madeBy (.type "type") = pure (some "type.__new__") := madeBy_type mro_type lookup_type_new (by decide +kernel)
theorem lk_dict_iter : typeLookup (.type "dict") "__iter__" = pure (some (.builtin "dict.__iter__")) := by rw [typeLookup_type, builtinLookup_eq_fast]; kernel_rfl

section
variable {w : World} {A : Around} {E : Value → Shared → Prop} {s : Shared}
theorem strs_ref {es : List DictEntry} (hk : (es.all fun e => match e.key with | .str .. => true | _ => false) = true) : es.any (·.refKey) = false := by
  cases q : es.any (·.refKey) with
  | false => rfl
  | true =>
    obtain ⟨e, he, z⟩ := List.any_eq_true.mp q
    have := List.all_eq_true.mp hk e he
    unfold DictEntry.refKey at z
    revert this z
    cases e.key <;> intro z this <;> first | cases z; done | cases this; done | skip
    all_goals (first | (revert this; decide) | (revert z; decide) | simp_all)
theorem nsSetD {d : Addr} {es : List DictEntry} {n : Nat} {k : Str} {v : Value} {Q : Unit → Shared → Prop} (D : s.heap.get? d = some (dictOf es n))
    (hk : (es.all fun e => match e.key with | .str .. => true | _ => false) = true)
    (h : ∀ h', h'.get? d = some (dictOf (putL k (PyData.keyHash w.params k) (.str k s.toks) v es) (putN k es n)) → Heap.SameBut d s.heap h' → Q () { s with heap := h', toks := s.toks + 1 }) :
    wpAny (MM w) A (nsSet d k v) Q E s := by
  have c : aRefKeyMayBeTheName k es.toArray = false := by
    rw [aRefKeyMayBeTheName_at, ← Array.any_toList, ← Array.any_toList]
    show (!es.any (·.key.isStr k) && es.any (·.refKey)) = false
    rw [strs_ref hk, Bool.and_false]
  unfold nsSet
  refine wpAny_bind (wpAny_bind (wpAny_askSetting (wpAny_pure (wpAny_bind (wpAny_mkText (wpAny_bind (wpAny_loadPart D ?_)))))))
  dsimp only
  rw [c]
  refine wpAny_updatePart D (h _ ?_ (Heap.SameBut.update ..))
  have hh : PyData.keyHash w.params k = (if k.cps.isEmpty = true then 0 else reduceHash ((MM w).w.params.strHash k.cps)) := by rfl
  rw [← putName_dict, hh]
  exact Heap.get?_update_self _ D (by rw [putName_dict]; rfl)
theorem nsDelD {d : Addr} {es : List DictEntry} {n i : Nat} {k : Str} {Q : Bool → Shared → Prop} (D : s.heap.get? d = some (dictOf es n)) (hi : es.findIdx? (·.key.isStr k) = some i)
    (h : ∀ h', h'.get? d = some (dictOf (es.eraseIdx i) (n + 1)) → Heap.SameBut d s.heap h' → Q true { s with heap := h' }) :
    wpAny (MM w) A (nsDel d k) Q E s := by
  have hany : es.toArray.any (·.key.isStr k) = true := by
    obtain ⟨hl, hp, _⟩ := List.findIdx?_eq_some_iff_getElem.mp hi
    simp only [List.any_toArray]
    exact List.any_eq_true.mpr ⟨_, List.getElem_mem hl, hp⟩
  have hhas : nsHas k (dictOf es n) = pure true := by
    rw [nsHas_eq]
    unfold nsHasByArray
    show (if (es.toArray.any fun x => x.key.isStr k) = true then _ else _) = _
    rw [if_pos hany]
  have hil : i < es.length := (List.findIdx?_eq_some_iff_getElem.mp hi).1
  unfold nsDel
  refine wpAny_bind (wpAny_loadPart D ?_)
  rw [hhas]
  refine wpAny_bind (wpAny_pure ?_)
  refine wpAny_bind (wpAny_updatePart D (wpAny_pure ?_))
  have e : Obj.dropName k (dictOf es n) = dictOf (es.eraseIdx i) (n + 1) := by
    rw [Obj.dropName_eq]
    unfold Obj.dropNameByArray dictOf
    simp only [List.findIdx?_toArray, hi]
    simp [Array.eraseIdxIfInBounds, hil]
  exact h _ (by rw [← e]; exact Heap.get?_update_self _ D (by rw [e]; rfl)) (Heap.SameBut.update ..)
theorem nsD {h : Heap} {d : Addr} {es : List DictEntry} {n : Nat} (D : h.get? d = some (dictOf es n)) (hk : (es.all fun e => match e.key with | .str .. => true | _ => false) = true) : h.Ns d (nsFind es.toArray) :=
  ⟨_, _, _, D, rfl, strKeys_of hk, fun _ => rfl⟩
theorem nsGetD {d : Addr} {es : List DictEntry} {n : Nat} {k : Str} {Q : Option Value → Shared → Prop} (D : s.heap.get? d = some (dictOf es n))
    (hk : (es.all fun e => match e.key with | .str .. => true | _ => false) = true) (h : Q (nsFind es.toArray k) s) : wpAny (MM w) A (nsGet d k) Q E s := wpAny_nsGet (nsD D hk) h
end
end Mine
namespace Mine
noncomputable abbrev en (w : World) (k : Str) (t : Tok) (v : Value) : DictEntry := ⟨PyData.keyHash w.params k, .str k t, v⟩
noncomputable abbrev esB (w : World) (t : Nat → Tok) (fl : Int) (sl f0 f1 f2 f3 f4 f5 st : Addr) : List DictEntry :=
  [en w "__module__" (t 0) (.str "cpy313.functools" (t 1)), en w "__qualname__" (t 2) (.str "cmp_to_key.<locals>.K" (t 3)), en w "__firstlineno__" (t 4) (.int fl (t 5)),
   en w "__slots__" (t 6) (.ref sl), en w "__init__" (t 7) (.ref f0), en w "__lt__" (t 8) (.ref f1), en w "__gt__" (t 9) (.ref f2), en w "__eq__" (t 10) (.ref f3), en w "__le__" (t 11) (.ref f4), en w "__ge__" (t 12) (.ref f5),
   en w "__hash__" (t 13) .none, en w "__static_attributes__" (t 14) (.ref st)]
namespace N_slots_read
noncomputable def stX0 (w : World) (A : Around) (E : Value → Shared → Prop) (s : Shared) (t : Nat → Tok) (fl : Int) (sl f0 f1 f2 f3 f4 f5 st : Addr) (n : Nat) (t1 : Tok) : Prop := ∀ (Q : Builtin.Slots.Plan → Shared → Prop) (hs : s.heap.get? sl = some (listOf #[.str "obj" t1] n)) (h : ∀ h', Kp s.heap h' → Q { names := ["obj"], dict := false, weak := false, inherited := [] } { s with heap := h' }), wpAny (MM w) A (Builtin.Slots.read "K" [.type "object"] (esB w t fl sl f0 f1 f2 f3 f4 f5 st).toArray) Q E s
noncomputable abbrev T := World × Around × (Value → Shared → Prop) × Shared × (Nat → Tok) × Int × Addr × Addr × Addr × Addr × Addr × Addr × Addr × Addr × Nat × Tok
noncomputable def pX (x : T) : Prop := stX0 x.1 x.2.1 x.2.2.1 x.2.2.2.1 x.2.2.2.2.1 x.2.2.2.2.2.1 x.2.2.2.2.2.2.1 x.2.2.2.2.2.2.2.1 x.2.2.2.2.2.2.2.2.1 x.2.2.2.2.2.2.2.2.2.1 x.2.2.2.2.2.2.2.2.2.2.1 x.2.2.2.2.2.2.2.2.2.2.2.1 x.2.2.2.2.2.2.2.2.2.2.2.2.1 x.2.2.2.2.2.2.2.2.2.2.2.2.2.1 x.2.2.2.2.2.2.2.2.2.2.2.2.2.2.1 x.2.2.2.2.2.2.2.2.2.2.2.2.2.2.2
noncomputable def cX : T := @Classical.epsilon _ (ne2 neW (ne2 neA (ne2 neI (ne2 neS (ne2 neI (ne2 neI (ne2 neI (ne2 neI (ne2 neI (ne2 neI (ne2 neI (ne2 neI (ne2 neI (ne2 neI (ne2 neI neI))))))))))))))) fun x => ¬ pX x
def w : World := cX.1
def A : Around := cX.2.1
def E : Value → Shared → Prop := cX.2.2.1
def s : Shared := cX.2.2.2.1
def t : Nat → Tok := cX.2.2.2.2.1
def fl : Int := cX.2.2.2.2.2.1
def sl : Addr := cX.2.2.2.2.2.2.1
def f0 : Addr := cX.2.2.2.2.2.2.2.1
def f1 : Addr := cX.2.2.2.2.2.2.2.2.1
def f2 : Addr := cX.2.2.2.2.2.2.2.2.2.1
def f3 : Addr := cX.2.2.2.2.2.2.2.2.2.2.1
def f4 : Addr := cX.2.2.2.2.2.2.2.2.2.2.2.1
def f5 : Addr := cX.2.2.2.2.2.2.2.2.2.2.2.2.1
def st : Addr := cX.2.2.2.2.2.2.2.2.2.2.2.2.2.1
def n : Nat := cX.2.2.2.2.2.2.2.2.2.2.2.2.2.2.1
def t1 : Tok := cX.2.2.2.2.2.2.2.2.2.2.2.2.2.2.2
theorem pfX0 : stX0 w A E s t fl sl f0 f1 f2 f3 f4 f5 st n t1 := by
  intro Q hs h
  unfold Builtin.Slots.read
  refine wpAny_bind (wpAny_of_eq best_o ?_)
  refine wpAny_bind (wpAny_of_eq sn_o ?_)
  refine wpAny_bind (wpAny_of_eq gd_o ?_)
  refine wpAny_bind (wpAny_of_eq gw_o ?_)
  refine wpAny_bind (wpAny_of_eq vs_o ?_)
  have hf : (esB w t fl sl f0 f1 f2 f3 f4 f5 st).toArray.find? (·.key.isStr "__slots__") = some (en w "__slots__" (t 6) (.ref sl)) := rfl
  rw [hf]
  dsimp only
  refine wpAny_bind (wpAny_rule ?_)
  repeat (first | with_reducible refine wpAny_collect_seq sl (.inl rfl) hs rfl rfl (fun h' hk => ?_) (by simp [sizeLine_eq]) | wp_step)
  have hv := vs_o
  repeat wp_step
  rw [show Builtin.Slots.isIdentifier (Str.ofString "obj") = some true from by kernel_rfl]
  repeat (first | wp_step | refine wpAny_ite_false (by kernel_rfl) ?_)
  all_goals (exact h _ hk)
theorem allX (x : T) : pX x := eps (P := pX) pfX0
end N_slots_read
theorem slots_read (w : World) (A : Around) (E : Value → Shared → Prop) (Q : Builtin.Slots.Plan → Shared → Prop) (s : Shared) (t : Nat → Tok) (fl : Int) (sl f0 f1 f2 f3 f4 f5 st : Addr) (n : Nat) (t1 : Tok) (hs : s.heap.get? sl = some (listOf #[.str "obj" t1] n)) (h : ∀ h', Kp s.heap h' → Q { names := ["obj"], dict := false, weak := false, inherited := [] } { s with heap := h' }) : wpAny (MM w) A (Builtin.Slots.read "K" [.type "object"] (esB w t fl sl f0 f1 f2 f3 f4 f5 st).toArray) Q E s := (N_slots_read.allX (w, A, E, s, t, fl, sl, f0, f1, f2, f3, f4, f5, st, n, t1)) Q hs h
end Mine
namespace Mine
theorem ne_none {h : Heap} {x c : Addr} {q : Obj} (hx : h.get? x = some q) (hc : h.get? c = none) : x ≠ c := fun e => by rw [e, hc] at hx; cases hx
theorem Kp.none_size {h₀ h : Heap} (k : Kp h₀ h) : h₀.get? h.objs.size = none := by
  cases q : h₀.get? h.objs.size with
  | none => rfl
  | some o => exact absurd (Heap.lt_size (k _ _ q)) (Nat.lt_irrefl _)
structure Cl (h₀ : Heap) (C N : Addr) (h : Heap) (o : Obj) (es : List DictEntry) (n : Nat) : Prop where
  kp : Kp h₀ h
  c : h.get? C = some o
  d : h.get? N = some (dictOf es n)
  ne : C ≠ N
  c0 : h₀.get? C = none
  n0 : h₀.get? N = none
theorem Cl.keepC {h₀ h h' : Heap} {C N : Addr} {o o' : Obj} {es : List DictEntry} {n : Nat} (K : Cl h₀ C N h o es n) (e : h'.get? C = some o') (b : Heap.SameBut C h h') : Cl h₀ C N h' o' es n :=
  ⟨fun x q hx => (b.2 x (ne_none hx K.c0)).trans (K.kp x q hx), e, (b.2 _ (Ne.symm K.ne)).trans K.d, K.ne, K.c0, K.n0⟩
theorem Cl.keepN {h₀ h h' : Heap} {C N : Addr} {o : Obj} {es es' : List DictEntry} {n n' : Nat} (K : Cl h₀ C N h o es n) (e : h'.get? N = some (dictOf es' n')) (b : Heap.SameBut N h h') : Cl h₀ C N h' o es' n' :=
  ⟨fun x q hx => (b.2 x (ne_none hx K.n0)).trans (K.kp x q hx), (b.2 _ K.ne).trans K.c, e, K.ne, K.c0, K.n0⟩
theorem Cl.kps {h₀ h h' : Heap} {C N : Addr} {o : Obj} {es : List DictEntry} {n : Nat} (K : Cl h₀ C N h o es n) (b : Kp h h') : Cl h₀ C N h' o es n :=
  ⟨K.kp.trans b, b _ _ K.c, b _ _ K.d, K.ne, K.c0, K.n0⟩
section
variable {w : World} {A : Around} {E : Value → Shared → Prop} {s : Shared} {h₀ : Heap} {C N : Addr} {o : Obj} {es : List DictEntry} {n : Nat}
theorem Cl.slot {i : Nat} {v : Option Value} {Q : Unit → Shared → Prop} {c : Value} {d : Option Addr} {cd : ClassData} {sl sl' : Array (Option Value)} (K : Cl h₀ C N s.heap ⟨c, d, .cls cd, sl⟩ es n) (hi : i < 100)
    (hs : (sl ++ Array.replicate (i + 1 - sl.size) none).setIfInBounds i v = sl')
    (h : ∀ h', Cl h₀ C N h' ⟨c, d, .cls cd, sl'⟩ es n → Q () { s with heap := h' }) : wpAny (MM w) A (setSlotAt C i v) Q E s := by
  unfold setSlotAt
  rw [if_neg (by rw [sizeLine_eq]; omega)]
  subst hs
  exact wpAny_updatePart K.c (h _ (K.keepC (Heap.get?_update_self _ K.c (by rfl)) (Heap.SameBut.update ..)))
theorem Cl.upd {f : ClassData → ClassData} {c : ClassData} {v : Value} {d : Option Addr} {sl : Array (Option Value)} {Q : Unit → Shared → Prop} (K : Cl h₀ C N s.heap ⟨v, d, .cls c, sl⟩ es n)
    {c' : ClassData} (hc : f c = c') (hl : (Data.cls c').pastItsLine = none)
    (h : ∀ h', Cl h₀ C N h' ⟨v, d, .cls c', sl⟩ es n → Q () { s with heap := h' }) : wpAny (MM w) A (updateCls C f) Q E s := by
  subst hc
  unfold updateCls
  refine wpAny_bind (wpAny_load K.c ?_)
  dsimp only
  have K' := K.keepC (h' := s.heap.update C (Obj.mapCls f)) (o' := ⟨v, d, .cls (f c), sl⟩) (Heap.get?_update_self _ K.c rfl) (Heap.SameBut.update ..)
  refine wpAny_bind (wpAny_update K.c ?_)
  unfold lookBehind
  refine wpAny_bind (wpAny_loadPart K'.c ?_)
  dsimp only
  rw [hl]
  exact wpAny_pure (h _ K')
theorem Cl.put {k : Str} {v : Value} {Q : Unit → Shared → Prop} (K : Cl h₀ C N s.heap o es n)
    (hk : (es.all fun e => match e.key with | .str .. => true | _ => false) = true)
    (h : ∀ h', Cl h₀ C N h' o (putL k (PyData.keyHash w.params k) (.str k s.toks) v es) (putN k es n) → Q () { s with heap := h', toks := s.toks + 1 }) : wpAny (MM w) A (nsSet N k v) Q E s :=
  nsSetD K.d hk (fun h' e b => h h' (K.keepN e b))
theorem Cl.del {k : Str} {i : Nat} {Q : Bool → Shared → Prop} (K : Cl h₀ C N s.heap o es n) (hi : es.findIdx? (·.key.isStr k) = some i) {es' : List DictEntry} (he : es.eraseIdx i = es')
    (h : ∀ h', Cl h₀ C N h' o es' (n + 1) → Q true { s with heap := h' }) : wpAny (MM w) A (nsDel N k) Q E s := by
  subst he; exact nsDelD K.d hi (fun h' e b => h h' (K.keepN e b))
theorem Cl.get {k : Str} {Q : Option Value → Shared → Prop} (K : Cl h₀ C N s.heap o es n)
    (hk : (es.all fun e => match e.key with | .str .. => true | _ => false) = true) {r : Option Value} (hr : nsFind es.toArray k = r) (h : Q r s) : wpAny (MM w) A (nsGet N k) Q E s := by subst hr; exact nsGetD K.d hk h
end
noncomputable abbrev esD (w : World) (t : Nat → Tok) (fl : Int) (sl f0 f1 f2 f3 f4 f5 st : Addr) : List DictEntry :=
  [en w "__module__" (t 0) (.str "cpy313.functools" (t 1)), en w "__firstlineno__" (t 4) (.int fl (t 5)),
   en w "__slots__" (t 6) (.ref sl), en w "__init__" (t 7) (.ref f0), en w "__lt__" (t 8) (.ref f1), en w "__gt__" (t 9) (.ref f2), en w "__eq__" (t 10) (.ref f3), en w "__le__" (t 11) (.ref f4), en w "__ge__" (t 12) (.ref f5),
   en w "__hash__" (t 13) .none, en w "__static_attributes__" (t 14) (.ref st)]
noncomputable abbrev clK (C N : Addr) (mro : List Value) (hd : Bool) (sn : List Str) (sl : Array (Option Value)) : Obj :=
  ⟨.type "type", none, .cls { name := "K", bases := [.type "object"], mro := mro, ns := N, qualname := "cmp_to_key.<locals>.K", hasDict := hd, slotNames := sn }, sl⟩
theorem forC {M : Model} {A : Around} {E : Value → Shared → Prop} {s : Shared} {α β : Type} {f : α → β → Sem (ForInStep β)} {a : α} {l : List α} {b : β} {Q : β → Shared → Prop}
    (h : wpAny M A (f a b) (fun r s' => match r with | .yield b' => wpAny M A (forIn l b' f) Q E s' | .done b' => Q b' s') E s) : wpAny M A (forIn (a :: l) b f) Q E s := by
  rw [List.forIn_cons]
  refine wpAny_bind (wpAny_mono h (fun r s' q => ?_) (fun _ _ x => x))
  cases r with
  | done b => exact wpAny_pure q
  | yield b => exact q
theorem forN {M : Model} {A : Around} {E : Value → Shared → Prop} {s : Shared} {α β : Type} {f : α → β → Sem (ForInStep β)} {b : β} {Q : β → Shared → Prop} (h : Q b s) : wpAny M A (forIn ([] : List α) b f) Q E s := by
  rw [List.forIn_nil]; exact wpAny_pure h
theorem tlC {M : Model} {A : Around} {E : Value → Shared → Prop} {s : Shared} {C : Addr} {c : ClassData} {v : Value} {d : Option Addr} {sl : Array (Option Value)} {bm : List Value} {B : String} {name : Str} {mN : Str → Option Value} {y : Option Value} {Q : Option Value → Shared → Prop}
    (hC : s.heap.get? C = some ⟨v, d, .cls c, sl⟩) (hm : c.mro = .ref C :: bm) (hn : s.heap.Ns c.ns mN) (hbm : mroOf (.type B) = pure bm) (hB : typeLookup (.type B) name = pure y)
    (hq : Q (match mN name with | some v => some v | none => y) s) : wpAny M A (typeLookup (.ref C) name) Q E s := by
  have hrest : lookupAlong bm name = pure y := by rw [typeLookup_eq, hbm] at hB; exact hB
  rw [typeLookup_eq]
  refine wpAny_bind ?_
  unfold mroOf classData
  refine wpAny_bind (wpAny_bind (wpAny_load hC (wpAny_pure (wpAny_pure ?_))))
  rw [hm, lookupAlong_cons]
  refine wpAny_bind ?_
  unfold classOwn classData
  refine wpAny_bind (wpAny_bind (wpAny_load hC (wpAny_pure (wpAny_nsGet hn ?_))))
  cases hv : mN name with
  | some v => rw [hv] at hq; exact wpAny_pure hq
  | none => rw [hv] at hq; rw [hrest]; exact wpAny_pure hq
theorem Cl.putV {w : World} {A : Around} {E : Value → Shared → Prop} {s : Shared} {h₀ : Heap} {C N : Addr} {o : Obj} {es : List DictEntry} {n : Nat} {k : Str} {v : Value} {Q : Unit → Shared → Prop} (K : Cl h₀ C N s.heap o es n)
    (hk : (es.all fun e => match e.key with | .str .. => true | _ => false) = true) (hz : es.length < 1000)
    {es' : List DictEntry} {n' : Nat} (he : putL k (PyData.keyHash w.params k) (.str k s.toks) v es = es') (hn : putN k es n = n')
    (h : ∀ h', Cl h₀ C N h' o es' n' → Q () { s with heap := h', toks := s.toks + 1 }) : wpAny (MM w) A (nsSetByValue N k v) Q E s := by
  subst he; subst hn
  unfold nsSetByValue
  refine wpAny_bind (wpAny_loadPart K.d ?_)
  have : decide (es.toArray.size > sizeLine) = false := by rw [sizeLine_eq]; simp; omega
  show wpAny (MM w) A (if (decide (es.toArray.size > sizeLine) && noSuchName k es.toArray) = true then _ else _) _ _ _
  rw [this]
  exact Cl.put K hk h
theorem newObjN {w : World} {A : Around} {E : Value → Shared → Prop} {s : Shared} {Q : Value → Shared → Prop} {T : String} {data : Data} (ho : (Obj.mk (.type T) none data #[]).isFreed = false)
    (h : ∀ C h', h'.get? C = some ⟨.type T, none, data, #[]⟩ → Kp s.heap h' → s.heap.get? C = none → Q (.ref C) { s with heap := h' }) (hd : sizeOk data := by size_fits) : wpAny (MM w) A (newObj (.type T) data) Q E s :=
  wpAny_newObj_type (h _ _ (Heap.get?_push_size _ ho) (fun _ _ e => Heap.get?_push_of_some _ e) (Kp.none_size (fun _ _ e => e))) hd
theorem allocN {w : World} {A : Around} {E : Value → Shared → Prop} {s : Shared} {Q : Addr → Shared → Prop} (o : Obj) (ho : o.isFreed = false)
    (h : ∀ C h', h'.get? C = some o → Kp s.heap h' → s.heap.get? C = none → Q C { s with heap := h' }) : wpAny (MM w) A (alloc o) Q E s :=
  wpAny_alloc' (h _ _ (Heap.get?_push_size _ ho) (fun _ _ e => Heap.get?_push_of_some _ e) (Kp.none_size (fun _ _ e => e)))
theorem nsGetD' {w : World} {A : Around} {E : Value → Shared → Prop} {s : Shared} {d : Addr} {es : List DictEntry} {n : Nat} {k : Str} {Q : Option Value → Shared → Prop} (D : s.heap.get? d = some (dictOf es n))
    (hk : (es.all fun e => match e.key with | .str .. => true | _ => false) = true) {r : Option Value} (hr : nsFind es.toArray k = r) (h : Q r s) : wpAny (MM w) A (nsGet d k) Q E s := by subst hr; exact nsGetD D hk h
end Mine
namespace Mine

theorem create_super : ((Manifest.find? "super").bind (·.mro.findSome? fun t => (Manifest.find? t).bind fun b => if b.noNew then some true else if b.attrs.any (·.1 == "__new__") then some false else none)).getD false = false := by decide +kernel
theorem mro_super : mroOf (.type "super") = pure [.type "super", .type "object"] := by rw [mroOf_type]; kernel_rfl
theorem lookup_super_new : typeLookup (.type "super") "__new__" = pure (some (.builtin "super.__new__")) := by rw [typeLookup_type, builtinLookup_eq_fast]; kernel_rfl
theorem lookup_super_init : typeLookup (.type "super") "__init__" = pure (some (.builtin "super.__init__")) := by rw [typeLookup_type, builtinLookup_eq_fast]; kernel_rfl
theorem made_super : Bind.madeBy (.type "super") = pure (some "super.__new__") := madeBy_type mro_super lookup_super_new (by decide +kernel)
theorem typeCall_super2 (a b : Value) : (do
  let some sig := Manifest.signature? s!"type.{"super"}" | return
  Bind.checkArgs s!"type.{"super"}" sig ⟨[a, b], []⟩ : Sem Unit) = pure () := by kernel_rfl
theorem isTypeC {M : Model} {A : Around} {E : Value → Shared → Prop} {s : Shared} {C : Addr} {c : ClassData} {d : Option Addr} {v : Value} {sl : Array (Option Value)} {Q : Bool → Shared → Prop} (hC : s.heap.get? C = some ⟨v, d, .cls c, sl⟩) (h : Q true s) : wpAny M A (isType (.ref C)) Q E s := by
  unfold isType loadHead
  repeat wp_step
  exact h
theorem isSubC {M : Model} {A : Around} {E : Value → Shared → Prop} {s : Shared} {C : Addr} {c : ClassData} {d : Option Addr} {v base : Value} {bm : List Value} {sl : Array (Option Value)} {Q : Bool → Shared → Prop} (hC : s.heap.get? C = some ⟨v, d, .cls c, sl⟩)
    (hm : c.mro = .ref C :: bm) {r : Bool} (hr : (Value.ref C :: bm).contains base = r) (h : Q r s) : wpAny M A (isSubtype (.ref C) base) Q E s := by
  unfold isSubtype mroOf classData
  refine wpAny_bind (wpAny_bind (wpAny_bind (wpAny_load hC (wpAny_pure (wpAny_pure ?_)))))
  rw [hm]
  repeat wp_step
  rw [hr]; exact h
theorem typeCall_super {w : World} {A : Around} {E : Value → Shared → Prop} {s : Shared} {C : Addr} {b : Value} {c : ClassData} {d : Option Addr} {v : Value} {sl : Array (Option Value)} {Q : Unit → Shared → Prop} (hC : s.heap.get? C = some ⟨v, d, .cls c, sl⟩) (h : Q () s) :
    wpAny (MM w) A (checkTypeCall "super" ⟨[.ref C, b], []⟩) Q E s := by
  unfold checkTypeCall
  refine wpAny_ite_true (by rfl) ?_
  refine wpAny_ite_false (by rfl) ?_
  wp_delta
  refine wpAny_bind (isTypeC hC ?_)
  refine wpAny_ite_false (by rfl) ?_
  exact wpAny_of_eq (typeCall_super2 _ _) h
theorem newCall_super (a b : Value) : checkBuiltinCall "super.__new__" ⟨[.type "super", a, b], []⟩ = pure () := by kernel_rfl
theorem entry_super_new : entryFor table "super.__new__" = some Builtin.«super.__new__» := entryFor_of_tree (by kernel_rfl)
theorem entry_super_init : entryFor table "super.__init__" = some Builtin.«super.__init__» := entryFor_of_tree (by kernel_rfl)
theorem plain_super_new : plainId "super.__new__" = true := by decide +kernel
theorem sub_super : isSubtype (.type "super") (.type "super") = pure true := by rw [isSubtype_type]; kernel_rfl
theorem slot_super_init : Slot "super" "__init__" "super.__init__" :=
  .of (owner := "super") (n := "__init__") (by rw [typeLookup_type, builtinLookup_eq_fast]; kernel_rfl) (by decide +kernel) (by decide +kernel) (by decide +kernel)
    (by first | exact .inl (by decide +kernel) | exact .inr (by decide +kernel)) (by rw [isSubtype_type]; kernel_rfl)
theorem args_super_init (a b c : Value) : argsOk "super.__init__" ⟨[a, b, c], []⟩ := by unfold argsOk; kernel_rfl
theorem called_super : TypeCalled "super" "super.__new__" "super.__init__" := ⟨by decide +kernel, create_super, ⟨_, _, mro_super⟩, made_super, plain_super_new, sub_super, slot_super_init⟩
namespace N_call_super
noncomputable def stX0 (w : World) (A : Around) (E : Value → Shared → Prop) (s : Shared) (C : Addr) (c : ClassData) (d : Option Addr) (v : Value) (sl : Array (Option Value)) (Q : Value → Shared → Prop) : Prop := ∀ (hC : s.heap.get? C = some ⟨v, d, .cls c, sl⟩) (hm : c.mro = [.ref C, .type "object"]) (h : ∀ S h', h'.get? S = some ⟨.type "super", none, .fields #[.ref C, .ref C, .ref C], #[]⟩ → Kp s.heap h' → Q (.ref S) { s with heap := h' }), wpAny (MM w) A (call (.type "super") [.ref C, .ref C]) Q E s
noncomputable abbrev T := World × Around × (Value → Shared → Prop) × Shared × Addr × ClassData × (Option Addr) × Value × (Array (Option Value)) × (Value → Shared → Prop)
noncomputable def pX (x : T) : Prop := stX0 x.1 x.2.1 x.2.2.1 x.2.2.2.1 x.2.2.2.2.1 x.2.2.2.2.2.1 x.2.2.2.2.2.2.1 x.2.2.2.2.2.2.2.1 x.2.2.2.2.2.2.2.2.1 x.2.2.2.2.2.2.2.2.2
noncomputable def cX : T := @Classical.epsilon _ (ne2 neW (ne2 neA (ne2 neI (ne2 neS (ne2 neI (ne2 neI (ne2 neI (ne2 neI (ne2 neI neI))))))))) fun x => ¬ pX x
def w : World := cX.1
def A : Around := cX.2.1
def E : Value → Shared → Prop := cX.2.2.1
def s : Shared := cX.2.2.2.1
def C : Addr := cX.2.2.2.2.1
def c : ClassData := cX.2.2.2.2.2.1
def d : Option Addr := cX.2.2.2.2.2.2.1
def v : Value := cX.2.2.2.2.2.2.2.1
def sl : Array (Option Value) := cX.2.2.2.2.2.2.2.2.1
def Q : Value → Shared → Prop := cX.2.2.2.2.2.2.2.2.2
theorem pfX0 : stX0 w A E s C c d v sl Q := by
  intro hC hm h
  have hmro := mro_super
  have hmade := made_super
  have hsub := sub_super
  have h1 := called_super.notType
  have h2 := called_super.canCreate
  refine wpAny_call (codeAny_of_tree ?_)
  show wpAny _ _ (callAny (.type "super") _) _ _ _
  refine wpAny_pure ⟨Code.quiet_builtin _ (by decide +kernel), codeAny_builtin F.entry_type_call ?_⟩
  rw [Around.under_plain (weight_type_call_type "super" [.ref C, .ref C] []) (units_type_call_type "super" [.ref C, .ref C] [])]
  unfold Builtin.«type.__call__»
  wp_delta
  refine wpAny_ite_false (by decide +kernel) ?_
  wp_delta
  refine wpAny_ite_false (by rw [h2]; rfl) ?_
  refine wpAny_bind (typeCall_super hC ?_)
  refine wpAny_bind (wpAny_of_eq hmro ?_)
  refine wpAny_ite_false (by rfl) ?_
  refine wpAny_bind (wpAny_of_eq hmade ?_)
  refine wpAny_bind (wpAny_pure ?_)
  refine wpAny_bind (wpAny_holding (wpAny_call ?_))
  refine codeAny_call_builtin plain_super_new entry_super_new (wpAny_of_eq (newCall_super _ _) ?_)
  unfold Builtin.«super.__new__»
  wp_delta
  refine wpAny_ite_false (by decide +kernel) ?_
  refine wpAny_bind ?_
  unfold newFields
  refine newObjN (by rfl) (fun S h1 s1 k1 s2 => wpAny_pure ?_)
  have hT : Shared.TypeIs { s with heap := h1 } (.ref S) "super" := ⟨_, s1, rfl⟩
  have hli := slot_super_init.lookup
  have hbi := slot_super_init.bind (.ref S)
  show wpAny _ _ _ _ _ { s with heap := h1 }
  repeat wp_step
  refine codeAny_call_builtin slot_super_init.plain entry_super_init (slot_super_init.check _ _ _ _ _ _ _ _ hT (args_super_init _ _ _) ?_)
  have hC1 : h1.get? C = some ⟨v, d, .cls c, sl⟩ := k1 _ _ hC
  unfold Builtin.«super.__init__»
  have hrt : (Value.ref C :: [Value.type "object"]).contains (.ref C) = true := by simp
  repeat (first | with_reducible refine isTypeC hC1 ?_ | with_reducible refine isSubC hC1 hm hrt ?_ | wp_step)
  refine h S _ (Heap.get?_update_self _ (Heap.get?_update_self _ (Heap.get?_update_self _ s1 rfl) rfl) rfl) ?_
  intro b o e
  have hb : S ≠ b := Ne.symm (ne_none e s2)
  rw [Heap.get?_update_other _ _ hb, Heap.get?_update_other _ _ hb, Heap.get?_update_other _ _ hb]
  exact k1 _ _ e
theorem allX (x : T) : pX x := eps (P := pX) pfX0
end N_call_super
theorem call_super {w : World} {A : Around} {E : Value → Shared → Prop} {s : Shared} {C : Addr} {c : ClassData} {d : Option Addr} {v : Value} {sl : Array (Option Value)} {Q : Value → Shared → Prop} : N_call_super.stX0 w A E s C c d v sl Q := (N_call_super.allX (w, A, E, s, C, c, d, v, sl, Q))
end Mine
namespace Mine


theorem anyOp {w : World} {A : Around} {E : Value → Shared → Prop} {s : Shared} {Q : Bool → Shared → Prop} (X : KIn w s.heap) (h : Q false s) : wpAny (MM w) A anyOpaqueLoaded Q E s := by
  obtain ⟨m, G⟩ := cst_K X
  unfold anyOpaqueLoaded
  refine wpAny_bind (wpAny_nsGet G (wpAny_pure ?_))
  rw [KIn.val (n := "thirdparty.any") (r := none) X G (by k_is) rfl]
  exact h
theorem notOp {w : World} {A : Around} {E : Value → Shared → Prop} {s : Shared} {C : Addr} {a b : String} {Q : Unit → Shared → Prop} (X : KIn w s.heap) (h : Q () s) : wpAny (MM w) A (notOfAnOpaqueClass a b (.ref C)) Q E s := by
  unfold notOfAnOpaqueClass opaqueClassAbove
  refine wpAny_bind ?_
  wp_delta
  refine wpAny_bind (anyOp X ?_)
  repeat wp_step
  exact h
theorem slot_super_ga : Slot "super" "__getattribute__" "super.__getattribute__" :=
  .of (owner := "super") (n := "__getattribute__") (by rw [typeLookup_type, builtinLookup_eq_fast]; kernel_rfl) (by decide +kernel) (by decide +kernel) (by decide +kernel)
    (by first | exact .inl (by decide +kernel) | exact .inr (by decide +kernel)) (by rw [isSubtype_type]; kernel_rfl)
theorem entry_super_ga : entryFor table "super.__getattribute__" = some Builtin.«super.__getattribute__» := entryFor_of_tree (by kernel_rfl)
theorem args_super_ga (a b : Value) : argsOk "super.__getattribute__" ⟨[a, b], []⟩ := by unfold argsOk; kernel_rfl
theorem ty_ois : typeOf (.builtin "object.__init_subclass__") = pure (.type "classmethod_descriptor") := by kernel_rfl
theorem own_ois : classOwn (.type "object") "__init_subclass__" = pure (some (.builtin "object.__init_subclass__")) := by
  unfold classOwn; kernel_rfl
theorem slot_cmd_get : Slot "classmethod_descriptor" "__get__" "classmethod_descriptor.__get__" :=
  .of (owner := "classmethod_descriptor") (n := "__get__") (by rw [typeLookup_type, builtinLookup_eq_fast]; kernel_rfl) (by decide +kernel) (by decide +kernel) (by decide +kernel)
    (by first | exact .inl (by decide +kernel) | exact .inr (by decide +kernel)) (by rw [isSubtype_type]; kernel_rfl)
theorem entry_cmd_get : entryFor table "classmethod_descriptor.__get__" = some Builtin.«classmethod_descriptor.__get__» := entryFor_of_tree (by kernel_rfl)
theorem args_cmd_get (a b c : Value) : argsOk "classmethod_descriptor.__get__" ⟨[a, b, c], []⟩ := by unfold argsOk; kernel_rfl
theorem mroC {M : Model} {A : Around} {E : Value → Shared → Prop} {s : Shared} {C : Addr} {c : ClassData} {d : Option Addr} {v : Value} {l : List Value} {sl : Array (Option Value)} {Q : List Value → Shared → Prop} (hC : s.heap.get? C = some ⟨v, d, .cls c, sl⟩)
    (hm : c.mro = l) (h : Q l s) : wpAny M A (mroOf (.ref C)) Q E s := by
  unfold mroOf classData
  subst hm
  exact wpAny_bind (wpAny_bind (wpAny_load hC (wpAny_pure (wpAny_pure h))))
namespace N_super_attr
noncomputable def stX0 (w : World) (A : Around) (E : Value → Shared → Prop) (C S : Addr) (c : ClassData) (d : Option Addr) (v : Value) (sl : Array (Option Value)) (Q : Value → Shared → Prop) : Prop := ∀ {s : Shared} (X : KIn w s.heap) (hC : s.heap.get? C = some ⟨v, d, .cls c, sl⟩) (hm : c.mro = [.ref C, .type "object"]) (hS : s.heap.get? S = some ⟨.type "super", none, .fields #[.ref C, .ref C, .ref C], #[]⟩) (h : ∀ F h', h'.get? F = some ⟨.type "builtin_function_or_method", none, .fields #[.builtin "object.__init_subclass__", .ref C], #[]⟩ → Kp s.heap h' → Q (.ref F) { s with heap := h', toks := s.toks + 1 }), wpAny (MM w) A (getAttr (.ref S) "__init_subclass__") Q E s
noncomputable abbrev T := World × Around × (Value → Shared → Prop) × Addr × Addr × ClassData × (Option Addr) × Value × (Array (Option Value)) × (Value → Shared → Prop)
noncomputable def pX (x : T) : Prop := stX0 x.1 x.2.1 x.2.2.1 x.2.2.2.1 x.2.2.2.2.1 x.2.2.2.2.2.1 x.2.2.2.2.2.2.1 x.2.2.2.2.2.2.2.1 x.2.2.2.2.2.2.2.2.1 x.2.2.2.2.2.2.2.2.2
noncomputable def cX : T := @Classical.epsilon _ (ne2 neW (ne2 neA (ne2 neI (ne2 neI (ne2 neI (ne2 neI (ne2 neI (ne2 neI (ne2 neI neI))))))))) fun x => ¬ pX x
def w : World := cX.1
def A : Around := cX.2.1
def E : Value → Shared → Prop := cX.2.2.1
def C : Addr := cX.2.2.2.1
def S : Addr := cX.2.2.2.2.1
def c : ClassData := cX.2.2.2.2.2.1
def d : Option Addr := cX.2.2.2.2.2.2.1
def v : Value := cX.2.2.2.2.2.2.2.1
def sl : Array (Option Value) := cX.2.2.2.2.2.2.2.2.1
def Q : Value → Shared → Prop := cX.2.2.2.2.2.2.2.2.2
theorem pfX0 : stX0 w A E C S c d v sl Q := by
  intro s X hC hm hS h
  obtain ⟨hp, g, dr, tk, os⟩ := s
  have hT : (⟨hp, g, dr, tk, os⟩ : Shared).TypeIs (.ref S) "super" := ⟨_, hS, rfl⟩
  have hT1 : (⟨hp, g, dr, tk + 1, os⟩ : Shared).TypeIs (.ref S) "super" := ⟨_, hS, rfl⟩
  have hT2 : (⟨hp, g, dr, tk + 1, os⟩ : Shared).TypeIs (.builtin "object.__init_subclass__") "classmethod_descriptor" := ty_ois
  have f2 := slot_super_ga.lookup
  have f3 := slot_super_ga.bind (.ref S)
  unfold getAttr getAttrBy
  repeat wp_step
  refine codeAny_call_builtin slot_super_ga.plain entry_super_ga (slot_super_ga.check _ _ _ _ _ _ _ _ hT1 (args_super_ga _ _) ?_)
  have f4 := ty_ois
  have f5 := slot_cmd_get.lookup
  have f6 := own_ois
  unfold Builtin.«super.__getattribute__»
  generalize g1 : notOfAnOpaqueClass = X1
  repeat wp_step
  subst g1
  refine notOp (C := C) X ?_
  generalize g2 : mroOf = X2
  repeat wp_step
  subst g2
  refine mroC (C := C) hC hm ?_
  have hL : ((List.dropWhile (fun x => x != Value.ref C) [Value.ref C, Value.type "object"]).drop 1) = [Value.type "object"] := by simp
  show wpAny _ _ (forIn ((List.dropWhile (fun x => x != Value.ref C) [Value.ref C, Value.type "object"]).drop 1) _ _ >>= _) _ _ _
  rw [hL]
  refine wpAny_bind (forC ?_)
  refine wpAny_bind (wpAny_of_eq own_ois ?_)
  refine wpAny_bind (wpAny_of_eq ty_ois ?_)
  refine wpAny_bind (wpAny_of_eq slot_cmd_get.lookup ?_)
  have hel : (if (Value.ref C == Value.ref C) = true then Value.none else Value.ref C) = .none := by simp
  refine wpAny_bind (wpAny_holding ?_)
  show wpAny _ _ (call _ [_, (if (Value.ref C == Value.ref C) = true then Value.none else Value.ref C), .ref C]) _ _ _
  rw [hel]
  refine wpAny_call (codeAny_call_builtin slot_cmd_get.plain entry_cmd_get (slot_cmd_get.check _ _ _ _ _ _ _ _ hT2 (args_cmd_get _ _ _) ?_))
  unfold Builtin.«classmethod_descriptor.__get__»
  have hrt : (Value.ref C :: [Value.type "object"]).contains (.type "object") = true := by simp
  repeat (first | with_reducible refine isTypeC hC ?_ | with_reducible refine isSubC hC hm hrt ?_ | wp_step)
  refine isSubC hC hm (r := true) (by
    rw [show (".".intercalate ("object.__init_subclass__".cutAt '.').dropLast) = "object" from by decide +kernel]; exact hrt) ?_
  wp_delta
  refine wpAny_ite_false (by rfl) ?_
  refine wpAny_bind ?_
  unfold newFields
  refine newObjN (by rfl) (fun F h1 f1 k1 f2 => wpAny_pure ?_)
  have hend := h F h1 f1 k1
  repeat wp_step
  all_goals (exact hend)
theorem allX (x : T) : pX x := eps (P := pX) pfX0
end N_super_attr
theorem super_attr {w : World} {A : Around} {E : Value → Shared → Prop} {C S : Addr} {c : ClassData} {d : Option Addr} {v : Value} {sl : Array (Option Value)} {Q : Value → Shared → Prop} : N_super_attr.stX0 w A E C S c d v sl Q := (N_super_attr.allX (w, A, E, C, S, c, d, v, sl, Q))
end Mine
namespace Mine



theorem entry_ois : entryFor table "object.__init_subclass__" = some Builtin.«object.__init_subclass__» := entryFor_of_tree (by kernel_rfl)
theorem sub_tm : isSubtype (.type "type") (.type "module") = pure false := by rw [isSubtype_type]; kernel_rfl
namespace N_call_ois
noncomputable def stX0 (w : World) (A : Around) (E : Value → Shared → Prop) (s : Shared) (C F : Addr) (c : ClassData) (d : Option Addr) (sl : Array (Option Value)) (Q : Value → Shared → Prop) : Prop := ∀ (X : KIn w s.heap) (hC : s.heap.get? C = some ⟨.type "type", d, .cls c, sl⟩) (hm : c.mro = [.ref C, .type "object"]) (hq : c.qualname = "cmp_to_key.<locals>.K") (hF : s.heap.get? F = some ⟨.type "builtin_function_or_method", none, .fields #[.builtin "object.__init_subclass__", .ref C], #[]⟩) (h : Q .none s), wpAny (MM w) A (call (.ref F) []) Q E s
noncomputable abbrev T := World × Around × (Value → Shared → Prop) × Shared × Addr × Addr × ClassData × (Option Addr) × (Array (Option Value)) × (Value → Shared → Prop)
noncomputable def pX (x : T) : Prop := stX0 x.1 x.2.1 x.2.2.1 x.2.2.2.1 x.2.2.2.2.1 x.2.2.2.2.2.1 x.2.2.2.2.2.2.1 x.2.2.2.2.2.2.2.1 x.2.2.2.2.2.2.2.2.1 x.2.2.2.2.2.2.2.2.2
noncomputable def cX : T := @Classical.epsilon _ (ne2 neW (ne2 neA (ne2 neI (ne2 neS (ne2 neI (ne2 neI (ne2 neI (ne2 neI (ne2 neI neI))))))))) fun x => ¬ pX x
def w : World := cX.1
def A : Around := cX.2.1
def E : Value → Shared → Prop := cX.2.2.1
def s : Shared := cX.2.2.2.1
def C : Addr := cX.2.2.2.2.1
def F : Addr := cX.2.2.2.2.2.1
def c : ClassData := cX.2.2.2.2.2.2.1
def d : Option Addr := cX.2.2.2.2.2.2.2.1
def sl : Array (Option Value) := cX.2.2.2.2.2.2.2.2.1
def Q : Value → Shared → Prop := cX.2.2.2.2.2.2.2.2.2
theorem pfX0 : stX0 w A E s C F c d sl Q := by
  intro X hC hm hq hF h
  have hT : s.TypeIs (.ref F) "builtin_function_or_method" := ⟨_, hF, rfl⟩
  refine wpAny_call (codeAny_of_tree ?_)
  show wpAny _ _ (callAny (.ref F) _) _ _ _
  have f1 := sub_tm
  repeat (first | with_reducible refine isTypeC hC ?_ | wp_step)
  refine wpAny_ite_true (by rw [hq]; kernel_rfl) ?_
  repeat wp_step
  refine ⟨Code.quiet_builtin _ (by decide +kernel), codeAny_builtin entry_ois ?_⟩
  unfold Builtin.«object.__init_subclass__»
  repeat wp_step
  exact h
theorem allX (x : T) : pX x := eps (P := pX) pfX0
end N_call_ois
theorem call_ois {w : World} {A : Around} {E : Value → Shared → Prop} {s : Shared} {C F : Addr} {c : ClassData} {d : Option Addr} {sl : Array (Option Value)} {Q : Value → Shared → Prop} : N_call_ois.stX0 w A E s C F c d sl Q := (N_call_ois.allX (w, A, E, s, C, F, c, d, sl, Q))
theorem forAll {M : Model} {A : Around} {E : Value → Shared → Prop} {s : Shared} {α β : Type} {f : α → β → Sem (ForInStep β)} {b : β} {Q : β → Shared → Prop} : ∀ {l : List α}, (∀ e ∈ l, ∀ Q : ForInStep β → Shared → Prop, Q (.yield b) s → wpAny M A (f e b) Q E s) → Q b s → wpAny M A (forIn l b f) Q E s
  | [], _, h => forN h
  | a :: l, hf, h => forC (hf a (.head _) _ (forAll (l := l) (fun e he => hf e (.tail _ he)) h))
theorem lk_setname (T : String) (h : T ∈ ["str", "int", "list", "function", "NoneType", "tuple", "member_descriptor"]) : typeLookup (.type T) "__set_name__" = pure none := by
  simp only [List.mem_cons, List.not_mem_nil, or_false] at h
  rcases h with rfl | rfl | rfl | rfl | rfl | rfl | rfl <;> (rw [typeLookup_type, builtinLookup_eq_fast]; kernel_rfl)
end Mine
namespace Mine
noncomputable abbrev esF (w : World) (t : Nat → Tok) (fl : Int) (sl f0 f1 f2 f3 f4 f5 st MD : Addr) (tk : Nat) : List DictEntry :=
  [en w "__module__" (t 0) (.str "cpy313.functools" (t 1)), en w "__firstlineno__" (t 4) (.int fl (t 5)),
   en w "__slots__" (t 6) (.ref sl), en w "__init__" (t 7) (.ref f0), en w "__lt__" (t 8) (.ref f1), en w "__gt__" (t 9) (.ref f2), en w "__eq__" (t 10) (.ref f3), en w "__le__" (t 11) (.ref f4), en w "__ge__" (t 12) (.ref f5),
   en w "__hash__" (t 13) .none, en w "__static_attributes__" (t 14) (.ref st), en w "obj" (tk + 1) (.ref MD), en w "__doc__" (tk + 2) .none]
theorem forAllA {M : Model} {A : Around} {E : Value → Shared → Prop} {s : Shared} {α β : Type} {f : α → β → Sem (ForInStep β)} {b : β} {Q : β → Shared → Prop} {l : List α} (h1 : ∀ e ∈ l, ∀ Q : ForInStep β → Shared → Prop, Q (.yield b) s → wpAny M A (f e b) Q E s) (h2 : Q b s) :
    wpAny M A (forIn l.toArray b f) Q E s := by rw [List.forIn_toArray]; exact forAll h1 h2
theorem asStrK {M : Model} {A : Around} {E : Value → Shared → Prop} {s : Shared} {v : Value} {Q : Option Str → Shared → Prop} (hk : ∃ x y, v = .str x y) (h : ∀ x, Q (some x) s) : wpAny M A (asStr? v) Q E s := by
  obtain ⟨x, y, rfl⟩ := hk
  exact wpAny_of_eq (a := some x) rfl (h x)
namespace N_type_new
noncomputable def stX0 (w : World) (A : Around) (E : Value → Shared → Prop) (Q : PySem.Fin → Shared → Prop) (s : Shared) (bT nsA : Addr) (tn tq : Tok) (n n2 : Nat) (t : Nat → Tok) (fl : Int) (sl f0 f1 f2 f3 f4 f5 st : Addr) : Prop := ∀ (hb : s.heap.get? bT = some { cls := .type "tuple", data := .seq #[.type "object"] }) (hs : s.heap.get? sl = some (listOf #[.str "obj" tq] n2)) (hn : s.heap.get? nsA = some (dictOf (esB w t fl sl f0 f1 f2 f3 f4 f5 st) n)) (hsm : nsA ≠ sysModules) (X : KIn w s.heap) (hfs : ∀ f ∈ [f0, f1, f2, f3, f4, f5], ∃ o, s.heap.get? f = some o ∧ o.cls = .type "function") (hst : ∃ o, s.heap.get? st = some o ∧ o.cls = .type "tuple") (hend : ∀ C N MD h' tk, Kp s.heap h' → h'.get? C = some (clK C N [.ref C, .type "object"] false ["obj"] #[some (.ref bT), none, some (.str "K" tn), some (.str "cmp_to_key.<locals>.K" (t 3)), some (.builtin "object.__new__"), some (.bool false)]) →
    h'.get? N = some (dictOf (esF w t fl sl f0 f1 f2 f3 f4 f5 st MD s.toks) 3) →
    h'.get? MD = some ⟨.type "member_descriptor", none, .fields #[.str "obj" s.toks, .ref C, .builtin "proto.slot", .builtin "proto.slot#set", rawInt 0], #[]⟩ →
    Q (.done (.ret (.ref C))) { s with heap := h', toks := tk }), wpAny (MM w) A (Builtin.«type.__new__» ⟨[.type "type", .str "K" tn, .ref bT, .ref nsA], []⟩) Q E s
noncomputable abbrev T := World × Around × (Value → Shared → Prop) × (PySem.Fin → Shared → Prop) × Shared × Addr × Addr × Tok × Tok × Nat × Nat × (Nat → Tok) × Int × Addr × Addr × Addr × Addr × Addr × Addr × Addr × Addr
noncomputable def pX (x : T) : Prop := stX0 x.1 x.2.1 x.2.2.1 x.2.2.2.1 x.2.2.2.2.1 x.2.2.2.2.2.1 x.2.2.2.2.2.2.1 x.2.2.2.2.2.2.2.1 x.2.2.2.2.2.2.2.2.1 x.2.2.2.2.2.2.2.2.2.1 x.2.2.2.2.2.2.2.2.2.2.1 x.2.2.2.2.2.2.2.2.2.2.2.1 x.2.2.2.2.2.2.2.2.2.2.2.2.1 x.2.2.2.2.2.2.2.2.2.2.2.2.2.1 x.2.2.2.2.2.2.2.2.2.2.2.2.2.2.1 x.2.2.2.2.2.2.2.2.2.2.2.2.2.2.2.1 x.2.2.2.2.2.2.2.2.2.2.2.2.2.2.2.2.1 x.2.2.2.2.2.2.2.2.2.2.2.2.2.2.2.2.2.1 x.2.2.2.2.2.2.2.2.2.2.2.2.2.2.2.2.2.2.1 x.2.2.2.2.2.2.2.2.2.2.2.2.2.2.2.2.2.2.2.1 x.2.2.2.2.2.2.2.2.2.2.2.2.2.2.2.2.2.2.2.2
noncomputable def cX : T := @Classical.epsilon _ (ne2 neW (ne2 neA (ne2 neI (ne2 neI (ne2 neS (ne2 neI (ne2 neI (ne2 neI (ne2 neI (ne2 neI (ne2 neI (ne2 neI (ne2 neI (ne2 neI (ne2 neI (ne2 neI (ne2 neI (ne2 neI (ne2 neI (ne2 neI neI)))))))))))))))))))) fun x => ¬ pX x
def w : World := cX.1
def A : Around := cX.2.1
def E : Value → Shared → Prop := cX.2.2.1
def Q : PySem.Fin → Shared → Prop := cX.2.2.2.1
def s : Shared := cX.2.2.2.2.1
def bT : Addr := cX.2.2.2.2.2.1
def nsA : Addr := cX.2.2.2.2.2.2.1
def tn : Tok := cX.2.2.2.2.2.2.2.1
def tq : Tok := cX.2.2.2.2.2.2.2.2.1
def n : Nat := cX.2.2.2.2.2.2.2.2.2.1
def n2 : Nat := cX.2.2.2.2.2.2.2.2.2.2.1
def t : Nat → Tok := cX.2.2.2.2.2.2.2.2.2.2.2.1
def fl : Int := cX.2.2.2.2.2.2.2.2.2.2.2.2.1
def sl : Addr := cX.2.2.2.2.2.2.2.2.2.2.2.2.2.1
def f0 : Addr := cX.2.2.2.2.2.2.2.2.2.2.2.2.2.2.1
def f1 : Addr := cX.2.2.2.2.2.2.2.2.2.2.2.2.2.2.2.1
def f2 : Addr := cX.2.2.2.2.2.2.2.2.2.2.2.2.2.2.2.2.1
def f3 : Addr := cX.2.2.2.2.2.2.2.2.2.2.2.2.2.2.2.2.2.1
def f4 : Addr := cX.2.2.2.2.2.2.2.2.2.2.2.2.2.2.2.2.2.2.1
def f5 : Addr := cX.2.2.2.2.2.2.2.2.2.2.2.2.2.2.2.2.2.2.2.1
def st : Addr := cX.2.2.2.2.2.2.2.2.2.2.2.2.2.2.2.2.2.2.2.2
theorem pfX0 : stX0 w A E Q s bT nsA tn tq n n2 t fl sl f0 f1 f2 f3 f4 f5 st := by
  intro hb hs hn hsm X hfs hst hend
  have t1 : s.TypeIs (.ref bT) "tuple" := ⟨_, hb, rfl⟩
  have t2 : s.TypeIs (.ref nsA) "dict" := ⟨_, hn, rfl⟩
  unfold Builtin.«type.__new__»
  have e0 := sub_tup
  have e1 := sub_dict
  have e2 := sub_tt
  have e3 := isT_o
  have e4 := ty_o
  have e7 := lk_dict_iter
  generalize g1 : Builtin.notOverATurnedClass = X1
  generalize g2 : Builtin.extendedBase = X2
  generalize g3 : Builtin.Slots.read = X3
  generalize g4 : Builtin.linearize = X4
  generalize g5 : Builtin.Slots.install = X5
  generalize g6 : Builtin.Slots.givesWeak = X6
  generalize g7 : Builtin.noteSubclassOfBuiltin = X7
  generalize g8 : Bind.refreshMaker = X8
  generalize g9 : Bind.madeBy = X9
  generalize g10 : Builtin.mroHook? = X10
  repeat wp_step
  refine wpAny_of_eq (by rw [← g1]; exact turned_o) ?_
  repeat wp_step
  refine wpAny_of_eq (by rw [← g2]; exact ext_o) ?_
  repeat wp_step
  subst g3
  refine slots_read w A E _ s t fl sl f0 f1 f2 f3 f4 f5 st n2 tq hs (fun h1 k1 => ?_)
  refine wpAny_bind (wpAny_newObj_type ?_)
  have d1 : (h1.push { cls := .type "dict", data := .dict (esB w t fl sl f0 f1 f2 f3 f4 f5 st).toArray }).get? h1.objs.size = some (dictOf (esB w t fl sl f0 f1 f2 f3 f4 f5 st) 0) := Heap.get?_push_size _ rfl
  have k2 : Kp s.heap (h1.push { cls := .type "dict", data := .dict (esB w t fl sl f0 f1 f2 f3 f4 f5 st).toArray }) := Kp.trans k1 (fun _ _ e => Heap.get?_push_of_some _ e)
  have hN := Kp.none_size k1
  revert d1 k2 hN
  generalize (h1.push { cls := .type "dict", data := .dict (esB w t fl sl f0 f1 f2 f3 f4 f5 st).toArray }) = h2
  generalize h1.objs.size = N
  intro d1 k2 hN
  refine wpAny_ite_false (by kernel_rfl) ?_
  wp_delta
  refine wpAny_bind ?_
  refine wpAny_ite_false (by kernel_rfl) (wpAny_pure ?_)
  wp_delta
  refine wpAny_ite_false (by kernel_rfl) ?_
  wp_delta
  refine wpAny_bind (nsGetD' (r := some (.str "cmp_to_key.<locals>.K" (t 3))) d1 (by rfl) (by rfl) ?_)
  wp_delta
  refine wpAny_bind (nsGetD' (r := some (.str "cmp_to_key.<locals>.K" (t 3))) d1 (by rfl) (by rfl) ?_)
  wp_delta
  refine wpAny_bind (wpAny_of_eq (a := some (Str.ofString "cmp_to_key.<locals>.K")) rfl ?_)
  wp_delta
  refine wpAny_bind (wpAny_pure ?_)
  wp_delta
  refine wpAny_bind (nsGetD' (r := none) d1 (by rfl) (by rfl) ?_)
  wp_delta
  refine wpAny_bind (allocN { cls := .type "type", data := .cls { name := "K", bases := [.type "object"], mro := [], ns := N, qualname := "cmp_to_key.<locals>.K" } } (by rfl) (fun C h3 c1 k3 c2 => ?_))
  have K0 := Cl.mk (h₀ := s.heap) (k2.trans k3) c1 (k3 _ _ d1) (fun e => ne_none d1 c2 e.symm) (by
    cases q : s.heap.get? C with
    | none => rfl
    | some o => exact ((ne_none (k2 _ _ q) c2) rfl).elim) hN
  wp_delta
  refine wpAny_ite_true (by rfl) ?_
  show wpAny _ _ _ _ _ { s with heap := h3 }
  refine wpAny_bind (Cl.slot (sl' := #[some (.ref bT)]) K0 (by decide) (by rfl) (fun h4 K1 => ?_))
  wp_delta
  refine wpAny_bind (Cl.slot (sl' := #[some (.ref bT), none, some (.str "K" tn)]) K1 (by decide) (by rfl) (fun h5 K2 => ?_))
  wp_delta
  refine wpAny_bind (Cl.slot (sl' := #[some (.ref bT), none, some (.str "K" tn), some (.str "cmp_to_key.<locals>.K" (t 3))]) K2 (by decide) (by rfl) (fun h6 K3 => ?_))
  wp_delta
  refine wpAny_bind (Cl.del (es' := esD w t fl sl f0 f1 f2 f3 f4 f5 st) K3 (i := 1) (by rfl) (by rfl) (fun h7 K5 => ?_))
  show wpAny _ _ _ _ _ { s with heap := h7 }
  have hs5 : ((esD w t fl sl f0 f1 f2 f3 f4 f5 st).all fun e => match e.key with | .str .. => true | _ => false) = true := rfl
  refine wpAny_bind (Cl.get K5 (r := none) hs5 (by rfl) ?_)
  wp_delta
  clear K3 K2 K1 K0
  refine wpAny_bind (forC (wpAny_bind (Cl.get K5 (r := none) hs5 (by rfl) (wpAny_pure (forC (wpAny_bind (Cl.get K5 (r := none) hs5 (by rfl) (wpAny_pure (forN ?_)))))))))
  refine wpAny_bind (Cl.get K5 (r := none) hs5 (by rfl) ?_)
  wp_delta
  refine wpAny_bind (Cl.get K5 (r := none) hs5 (by rfl) ?_)
  wp_delta
  refine wpAny_bind (wpAny_of_eq (by rw [← g10]; exact hook_t) ?_)
  wp_delta
  refine wpAny_bind (wpAny_of_eq (by rw [← g4]; exact lin_o) ?_)
  refine wpAny_bind (wpAny_pure ?_)
  wp_delta
  refine wpAny_bind (wpAny_of_eq (a := false) (by
    show List.anyM _ (List.filter (fun x => x != Value.ref C) [Value.ref C, .type "object"]) = _
    rw [show List.filter (fun x => x != Value.ref C) [Value.ref C, .type "object"] = [.type "object"] from by simp]
    kernel_rfl) ?_)
  refine wpAny_bind (Cl.upd (c' := { name := "K", bases := [.type "object"], mro := [.ref C, .type "object"], ns := N, qualname := "cmp_to_key.<locals>.K" }) K5 (by kernel_rfl) (by rfl) (fun h8 K6 => ?_))
  clear K5
  refine wpAny_bind (wpAny_of_eq (by rw [← g9]; exact made_o) ?_)
  refine wpAny_bind (Cl.slot (sl' := #[some (.ref bT), none, some (.str "K" tn), some (.str "cmp_to_key.<locals>.K" (t 3)), some (.builtin "object.__new__")]) K6 (by decide) (by rfl) (fun h9 K7 => ?_))
  show wpAny _ _ _ _ _ { s with heap := h9 }
  clear K6
  refine wpAny_bind ?_
  subst g8
  unfold Bind.refreshMaker slotAt
  refine wpAny_bind (wpAny_bind (wpAny_loadPart K7.c (wpAny_pure ?_)))
  refine wpAny_ite_false (by rfl) ?_
  refine wpAny_bind (tlC K7.c rfl (nsD K7.d hs5) mro_object lookup_object_new ?_)
  rw [show nsFind (esD w t fl sl f0 f1 f2 f3 f4 f5 st).toArray "__new__" = none from rfl]
  wp_delta
  refine wpAny_ite_false (by decide +kernel) (wpAny_pure ?_)
  refine wpAny_bind ?_
  subst g5
  unfold Builtin.Slots.install
  wp_delta
  refine wpAny_bind (forC ?_)
  refine wpAny_bind (Cl.get K7 (r := none) hs5 (by rfl) ?_)
  refine wpAny_ite_true (by rfl) ?_
  refine wpAny_bind (wpAny_mkStr' ?_)
  refine wpAny_bind ?_
  unfold newFields
  refine newObjN (data := .fields #[.str "obj" s.toks, .ref C, .builtin "proto.slot", .builtin "proto.slot#set", rawInt 0]) (by rfl) (fun MD h10 m1 k10 m2 => ?_)
  have k10 : Kp h9 h10 := k10
  have hMC : MD ≠ C := Ne.symm (ne_none K7.c m2)
  have hMN : MD ≠ N := Ne.symm (ne_none K7.d m2)
  clear m2
  have K7b : Cl (hideAll h10 [C, N]) C N h10 _ _ _ := ⟨hide_kp _ _, k10 _ _ K7.c, k10 _ _ K7.d, K7.ne, hideAll_none _ (.head _), hideAll_none _ (.tail _ (.head _))⟩
  show wpAny _ _ _ _ _ { s with heap := h10, toks := s.toks + 1 }
  refine wpAny_bind (Cl.putV K7b hs5 (by simp) (es' := esD w t fl sl f0 f1 f2 f3 f4 f5 st ++ [en w "obj" (s.toks + 1) (.ref MD)]) (n' := 2) (by rfl) (by rfl) (fun h11 K8 => ?_))
  clear K7b
  show wpAny _ _ _ _ _ { s with heap := h11, toks := s.toks + 1 + 1 }
  refine wpAny_pure ?_
  refine forN ?_
  wp_delta
  refine wpAny_bind (forC (wpAny_bind (wpAny_of_eq gd_o ?_)))
  refine wpAny_ite_false (by rfl) ?_
  refine wpAny_pure (forN ?_)
  wp_delta
  refine wpAny_ite_false (by simp [sizeLine_eq]) ?_
  wp_delta
  refine Cl.upd (c' := { name := "K", bases := [.type "object"], mro := [.ref C, .type "object"], ns := N, qualname := "cmp_to_key.<locals>.K", hasDict := false, slotNames := ["obj"] }) K8 (by rfl) (by rfl) (fun h12 K9 => ?_)
  refine wpAny_bind (wpAny_of_eq (by rw [← g6]; exact gw_o) ?_)
  refine wpAny_bind (Cl.slot (sl' := #[some (.ref bT), none, some (.str "K" tn), some (.str "cmp_to_key.<locals>.K" (t 3)), some (.builtin "object.__new__"), some (.bool false)]) K9 (by decide) (by rfl) (fun h13 K10 => ?_))
  wp_delta
  refine wpAny_ite_false (by rfl) ?_
  wp_delta
  refine wpAny_ite_false (by rfl) ?_
  have hs6 : ((esD w t fl sl f0 f1 f2 f3 f4 f5 st ++ [en w "obj" (s.toks + 1) (.ref MD)]).all fun e => match e.key with | .str .. => true | _ => false) = true := rfl
  wp_delta
  refine wpAny_bind (Cl.get K10 (r := none) hs6 (by rfl) ?_)
  wp_delta
  refine wpAny_ite_true (by rfl) ?_
  refine wpAny_bind (Cl.put K10 hs6 (fun h14 K11 => ?_))
  show wpAny _ _ _ _ _ { s with heap := h14, toks := s.toks + 1 + 1 + 1 }
  have hs7 : ((esF w t fl sl f0 f1 f2 f3 f4 f5 st MD s.toks).all fun e => match e.key with | .str .. => true | _ => false) = true := rfl
  have K12 : Cl (hideAll h10 [C, N]) C N h14 (clK C N [.ref C, .type "object"] false ["obj"] #[some (.ref bT), none, some (.str "K" tn), some (.str "cmp_to_key.<locals>.K" (t 3)), some (.builtin "object.__new__"), some (.bool false)]) (esF w t fl sl f0 f1 f2 f3 f4 f5 st MD s.toks) 3 := K11
  clear K11
  wp_delta
  refine wpAny_bind (Cl.get K12 (r := some (.ref f3)) hs7 (by rfl) ?_)
  wp_delta
  refine wpAny_ite_true (by rfl) ?_
  refine wpAny_bind (Cl.get K12 (r := some .none) hs7 (by rfl) ?_)
  refine wpAny_ite_false (by rfl) ?_
  wp_delta
  refine wpAny_bind (forC ?_)
  wp_delta
  refine wpAny_bind (wpAny_of_eq (a := ()) (by rw [← g7]; kernel_rfl) (wpAny_pure (forN ?_)))
  wp_delta
  refine wpAny_bind (wpAny_tryCatch (wpAny_holding ?_))
  refine wpAny_bind (wpAny_dictEntries K12.d rfl ?_)
  refine wpAny_bind (forAllA (fun e he Q' hq' => ?_) ?_)
  · have hk : ∃ x y, e.key = .str x y := by
      have := List.all_eq_true.mp hs7 e he
      revert this
      cases e.key <;> intro q <;> first | exact ⟨_, _, rfl⟩ | cases q
    exact wpAny_bind (asStrK hk (fun x => wpAny_ite_false (by rfl) (wpAny_pure hq')))
  wp_delta
  refine wpAny_ite_false (by rfl) ?_
  refine wpAny_bind (wpAny_dictEntries K12.d rfl ?_)
  have k14 : Kp s.heap h14 := fun x o e => K12.kp _ _ (hideAll_get _ (k10 _ _ (K7.kp x o e)) (nin2 (ne_none e K7.c0) (ne_none e K7.n0)))
  have m14 : h14.get? MD = some ⟨.type "member_descriptor", none, .fields #[.str "obj" s.toks, .ref C, .builtin "proto.slot", .builtin "proto.slot#set", rawInt 0], #[]⟩ := K12.kp _ _ (hideAll_get _ m1 (nin2 hMC hMN))
  have X14 : KIn w h14 := KIn.kp X k14
  refine wpAny_bind (forAllA (fun e he Q' hq' => ?_) ?_)
  · have hty : ∃ T, Shared.TypeIs { s with heap := h14, toks := s.toks + 1 + 1 + 1 } e.val T ∧ T ∈ ["str", "int", "list", "function", "NoneType", "tuple", "member_descriptor"] := by
      have hff : ∀ f ∈ [f0, f1, f2, f3, f4, f5], Shared.TypeIs { s with heap := h14, toks := s.toks + 1 + 1 + 1 } (.ref f) "function" := fun f hf => by obtain ⟨o, ho, hc⟩ := hfs f hf; exact ⟨o, k14 _ _ ho, hc⟩
      simp only [esF, List.mem_cons, List.not_mem_nil, or_false] at he
      rcases he with rfl | rfl | rfl | rfl | rfl | rfl | rfl | rfl | rfl | rfl | rfl | rfl | rfl
      · exact ⟨"str", rfl, by decide⟩
      · exact ⟨"int", rfl, by decide⟩
      · exact ⟨"list", ⟨_, k14 _ _ hs, rfl⟩, by decide⟩
      · exact ⟨"function", hff _ (.head _), by decide⟩
      · exact ⟨"function", hff _ (.tail _ (.head _)), by decide⟩
      · exact ⟨"function", hff _ (.tail _ (.tail _ (.head _))), by decide⟩
      · exact ⟨"function", hff _ (.tail _ (.tail _ (.tail _ (.head _)))), by decide⟩
      · exact ⟨"function", hff _ (.tail _ (.tail _ (.tail _ (.tail _ (.head _))))), by decide⟩
      · exact ⟨"function", hff _ (.tail _ (.tail _ (.tail _ (.tail _ (.tail _ (.head _)))))), by decide⟩
      · exact ⟨"NoneType", rfl, by decide⟩
      · obtain ⟨o, ho, hc⟩ := hst
        exact ⟨"tuple", ⟨o, k14 _ _ ho, hc⟩, by decide⟩
      · exact ⟨"member_descriptor", ⟨_, m14, rfl⟩, by decide⟩
      · exact ⟨"NoneType", rfl, by decide⟩
    have hla : Builtin.laidUnderItsOwnName e.key e.val = false := by
      have : ((esF w t fl sl f0 f1 f2 f3 f4 f5 st MD s.toks).all fun e => !Builtin.laidUnderItsOwnName e.key e.val) = true := by kernel_rfl
      simpa using List.all_eq_true.mp this e he
    obtain ⟨T, hT, hTm⟩ := hty
    refine wpAny_ite_false (by rw [hla]; rfl) ?_
    refine wpAny_bind (wpAny_specialOf hT (lk_setname T hTm) (wpAny_pure hq'))
  refine wpAny_bind (call_super K12.c rfl (fun S h15 s15 k15 => ?_))
  have X15 : KIn w h15 := KIn.kp X14 k15
  refine wpAny_bind (wpAny_holding (super_attr X15 (k15 _ _ K12.c) rfl s15 (fun F h16 f16 k16 => ?_)))
  refine wpAny_bind (call_ois (KIn.kp X15 k16) (k16 _ _ (k15 _ _ K12.c)) rfl rfl f16 ?_)
  refine wpAny_pure ?_
  exact wpAny_pure (hend C N MD h16 _ (k14.trans (k15.trans k16)) (k16 _ _ (k15 _ _ K12.c)) (k16 _ _ (k15 _ _ K12.d)) (k16 _ _ (k15 _ _ m14)))
theorem allX (x : T) : pX x := eps (P := pX) pfX0
end N_type_new
theorem type_new (w : World) (A : Around) (E : Value → Shared → Prop) (Q : PySem.Fin → Shared → Prop) (s : Shared) (bT nsA : Addr) (tn tq : Tok) (n n2 : Nat) (t : Nat → Tok) (fl : Int) (sl f0 f1 f2 f3 f4 f5 st : Addr) : N_type_new.stX0 w A E Q s bT nsA tn tq n n2 t fl sl f0 f1 f2 f3 f4 f5 st := (N_type_new.allX (w, A, E, Q, s, bT, nsA, tn, tq, n, n2, t, fl, sl, f0, f1, f2, f3, f4, f5, st))
end Mine
namespace Mine

theorem create_type : ((Manifest.find? "type").bind (·.mro.findSome? fun t => (Manifest.find? t).bind fun b => if b.noNew then some true else if b.attrs.any (·.1 == "__new__") then some false else none)).getD false = false := by decide +kernel
theorem typeCall_type (a b c : Value) : checkTypeCall "type" ⟨[a, b, c], []⟩ = pure () := by kernel_rfl
theorem newCall_type (a b c : Value) : checkBuiltinCall "type.__new__" ⟨[.type "type", a, b, c], []⟩ = pure () := by kernel_rfl
theorem entry_type_new : entryFor table "type.__new__" = some Builtin.«type.__new__» := entryFor_of_tree (by kernel_rfl)
theorem entry_type_init : entryFor table "type.__init__" = some Builtin.«type.__init__» := entryFor_of_tree (by kernel_rfl)
theorem plain_type_new : plainId "type.__new__" = true := by decide +kernel
theorem slot_type_init : Slot "type" "__init__" "type.__init__" :=
  .of (owner := "type") (n := "__init__") (by rw [typeLookup_type, builtinLookup_eq_fast]; kernel_rfl) (by decide +kernel) (by decide +kernel) (by decide +kernel)
    (by first | exact .inl (by decide +kernel) | exact .inr (by decide +kernel)) (by rw [isSubtype_type]; kernel_rfl)
theorem args_type_init (a b c d : Value) : argsOk "type.__init__" ⟨[a, b, c, d], []⟩ := by unfold argsOk; kernel_rfl
namespace N_call_type
noncomputable def stX0 (w : World) (A : Around) (E Q : Value → Shared → Prop) (s : Shared) (bT nsA : Addr) (tn tq : Tok) (n n2 : Nat) (t : Nat → Tok) (fl : Int) (sl f0 f1 f2 f3 f4 f5 st : Addr) : Prop := ∀ (hb : s.heap.get? bT = some { cls := .type "tuple", data := .seq #[.type "object"] }) (hs : s.heap.get? sl = some (listOf #[.str "obj" tq] n2)) (hn : s.heap.get? nsA = some (dictOf (esB w t fl sl f0 f1 f2 f3 f4 f5 st) n)) (hsm : nsA ≠ sysModules) (X : KIn w s.heap) (hfs : ∀ f ∈ [f0, f1, f2, f3, f4, f5], ∃ o, s.heap.get? f = some o ∧ o.cls = .type "function") (hst : ∃ o, s.heap.get? st = some o ∧ o.cls = .type "tuple") (hend : ∀ C N MD h' tk, Kp s.heap h' → h'.get? C = some (clK C N [.ref C, .type "object"] false ["obj"] #[some (.ref bT), none, some (.str "K" tn), some (.str "cmp_to_key.<locals>.K" (t 3)), some (.builtin "object.__new__"), some (.bool false)]) →
    h'.get? N = some (dictOf (esF w t fl sl f0 f1 f2 f3 f4 f5 st MD s.toks) 3) →
    h'.get? MD = some ⟨.type "member_descriptor", none, .fields #[.str "obj" s.toks, .ref C, .builtin "proto.slot", .builtin "proto.slot#set", rawInt 0], #[]⟩ →
    Q (.ref C) { s with heap := h', toks := tk }), wpAny (MM w) A (call (.type "type") [.str "K" tn, .ref bT, .ref nsA]) Q E s
noncomputable abbrev T := World × Around × (Value → Shared → Prop) × (Value → Shared → Prop) × Shared × Addr × Addr × Tok × Tok × Nat × Nat × (Nat → Tok) × Int × Addr × Addr × Addr × Addr × Addr × Addr × Addr × Addr
noncomputable def pX (x : T) : Prop := stX0 x.1 x.2.1 x.2.2.1 x.2.2.2.1 x.2.2.2.2.1 x.2.2.2.2.2.1 x.2.2.2.2.2.2.1 x.2.2.2.2.2.2.2.1 x.2.2.2.2.2.2.2.2.1 x.2.2.2.2.2.2.2.2.2.1 x.2.2.2.2.2.2.2.2.2.2.1 x.2.2.2.2.2.2.2.2.2.2.2.1 x.2.2.2.2.2.2.2.2.2.2.2.2.1 x.2.2.2.2.2.2.2.2.2.2.2.2.2.1 x.2.2.2.2.2.2.2.2.2.2.2.2.2.2.1 x.2.2.2.2.2.2.2.2.2.2.2.2.2.2.2.1 x.2.2.2.2.2.2.2.2.2.2.2.2.2.2.2.2.1 x.2.2.2.2.2.2.2.2.2.2.2.2.2.2.2.2.2.1 x.2.2.2.2.2.2.2.2.2.2.2.2.2.2.2.2.2.2.1 x.2.2.2.2.2.2.2.2.2.2.2.2.2.2.2.2.2.2.2.1 x.2.2.2.2.2.2.2.2.2.2.2.2.2.2.2.2.2.2.2.2
noncomputable def cX : T := @Classical.epsilon _ (ne2 neW (ne2 neA (ne2 neI (ne2 neI (ne2 neS (ne2 neI (ne2 neI (ne2 neI (ne2 neI (ne2 neI (ne2 neI (ne2 neI (ne2 neI (ne2 neI (ne2 neI (ne2 neI (ne2 neI (ne2 neI (ne2 neI (ne2 neI neI)))))))))))))))))))) fun x => ¬ pX x
def w : World := cX.1
def A : Around := cX.2.1
def E : Value → Shared → Prop := cX.2.2.1
def Q : Value → Shared → Prop := cX.2.2.2.1
def s : Shared := cX.2.2.2.2.1
def bT : Addr := cX.2.2.2.2.2.1
def nsA : Addr := cX.2.2.2.2.2.2.1
def tn : Tok := cX.2.2.2.2.2.2.2.1
def tq : Tok := cX.2.2.2.2.2.2.2.2.1
def n : Nat := cX.2.2.2.2.2.2.2.2.2.1
def n2 : Nat := cX.2.2.2.2.2.2.2.2.2.2.1
def t : Nat → Tok := cX.2.2.2.2.2.2.2.2.2.2.2.1
def fl : Int := cX.2.2.2.2.2.2.2.2.2.2.2.2.1
def sl : Addr := cX.2.2.2.2.2.2.2.2.2.2.2.2.2.1
def f0 : Addr := cX.2.2.2.2.2.2.2.2.2.2.2.2.2.2.1
def f1 : Addr := cX.2.2.2.2.2.2.2.2.2.2.2.2.2.2.2.1
def f2 : Addr := cX.2.2.2.2.2.2.2.2.2.2.2.2.2.2.2.2.1
def f3 : Addr := cX.2.2.2.2.2.2.2.2.2.2.2.2.2.2.2.2.2.1
def f4 : Addr := cX.2.2.2.2.2.2.2.2.2.2.2.2.2.2.2.2.2.2.1
def f5 : Addr := cX.2.2.2.2.2.2.2.2.2.2.2.2.2.2.2.2.2.2.2.1
def st : Addr := cX.2.2.2.2.2.2.2.2.2.2.2.2.2.2.2.2.2.2.2.2
theorem pfX0 : stX0 w A E Q s bT nsA tn tq n n2 t fl sl f0 f1 f2 f3 f4 f5 st := by
  intro hb hs hn hsm X hfs hst hend
  have h2 := create_type
  refine wpAny_call (codeAny_of_tree ?_)
  show wpAny _ _ (callAny (.type "type") _) _ _ _
  refine wpAny_pure ⟨Code.quiet_builtin _ (by decide +kernel), codeAny_builtin F.entry_type_call ?_⟩
  rw [Around.under_plain (weight_type_call_type "type" [.str "K" tn, .ref bT, .ref nsA] []) (units_type_call_type "type" [.str "K" tn, .ref bT, .ref nsA] [])]
  unfold Builtin.«type.__call__»
  wp_delta
  refine wpAny_ite_true (by decide +kernel) ?_
  refine wpAny_ite_false (by rfl) ?_
  refine wpAny_ite_false (by rfl) ?_
  wp_delta
  refine wpAny_ite_false (by rw [h2]; rfl) ?_
  refine wpAny_bind (wpAny_of_eq (typeCall_type _ _ _) ?_)
  refine wpAny_bind (wpAny_of_eq mro_type ?_)
  refine wpAny_ite_false (by rfl) ?_
  refine wpAny_bind (wpAny_of_eq made_t ?_)
  refine wpAny_bind (wpAny_pure ?_)
  refine wpAny_bind (wpAny_holding (wpAny_call ?_))
  refine codeAny_call_builtin plain_type_new entry_type_new (wpAny_of_eq (newCall_type _ _ _) ?_)
  refine type_new w _ _ _ s bT nsA tn tq n n2 t fl sl f0 f1 f2 f3 f4 f5 st hb hs hn hsm X hfs hst (fun C N MD h1 tk k1 c1 d1 m1 => ?_)
  have hT : Shared.TypeIs { s with heap := h1, toks := tk } (.ref C) "type" := ⟨_, c1, rfl⟩
  have hli := slot_type_init.lookup
  have hbi := slot_type_init.bind (.ref C)
  have hsub := sub_tt
  show wpAny _ _ _ _ _ { s with heap := h1, toks := tk }
  repeat wp_step
  refine codeAny_call_builtin slot_type_init.plain entry_type_init (slot_type_init.check _ _ _ _ _ _ _ _ hT (args_type_init _ _ _ _) ?_)
  unfold Builtin.«type.__init__»
  repeat wp_step
  exact hend C N MD h1 tk k1 c1 d1 m1
theorem allX (x : T) : pX x := eps (P := pX) pfX0
end N_call_type
theorem call_type (w : World) (A : Around) (E Q : Value → Shared → Prop) (s : Shared) (bT nsA : Addr) (tn tq : Tok) (n n2 : Nat) (t : Nat → Tok) (fl : Int) (sl f0 f1 f2 f3 f4 f5 st : Addr) : N_call_type.stX0 w A E Q s bT nsA tn tq n n2 t fl sl f0 f1 f2 f3 f4 f5 st := (N_call_type.allX (w, A, E, Q, s, bT, nsA, tn, tq, n, n2, t, fl, sl, f0, f1, f2, f3, f4, f5, st))
end Mine
namespace Mine
structure Bd (h₀ : Heap) (D P : Addr) (h : Heap) (es : List DictEntry) (n : Nat) (ps : Array Value) : Prop where
  kp : Kp h₀ h
  d : h.get? D = some (dictOf es n)
  p : h.get? P = some (tabObj ps)
  ne : D ≠ P
  d0 : h₀.get? D = none
  p0 : h₀.get? P = none
theorem Bd.keepD {h₀ h h' : Heap} {D P : Addr} {es es' : List DictEntry} {n n' : Nat} {ps : Array Value} (B : Bd h₀ D P h es n ps) (e : h'.get? D = some (dictOf es' n')) (b : Heap.SameBut D h h') : Bd h₀ D P h' es' n' ps :=
  ⟨fun x q hx => (b.2 x (ne_none hx B.d0)).trans (B.kp x q hx), e, (b.2 _ (Ne.symm B.ne)).trans B.p, B.ne, B.d0, B.p0⟩
theorem Bd.kps {h₀ h h' : Heap} {D P : Addr} {es : List DictEntry} {n : Nat} {ps : Array Value} (B : Bd h₀ D P h es n ps) (k : Kp h h') : Bd h₀ D P h' es n ps :=
  ⟨B.kp.trans k, k _ _ B.d, k _ _ B.p, B.ne, B.d0, B.p0⟩
theorem Bd.base {h₀ h : Heap} {D P : Addr} {es : List DictEntry} {n : Nat} {ps : Array Value} (B : Bd h₀ D P h es n ps) : Bd (hideAll h [D, P]) D P h es n ps ∧ Kp h₀ (hideAll h [D, P]) :=
  ⟨⟨hide_kp _ _, B.d, B.p, B.ne, hideAll_none _ (.head _), hideAll_none _ (.tail _ (.head _))⟩, fun x o e => hideAll_get _ (B.kp x o e) (nin2 (ne_none e B.d0) (ne_none e B.p0))⟩
section
variable {w : World} {A : Around} {E : Value → Shared → Prop} {s : Shared} {h₀ : Heap} {D P : Addr} {es : List DictEntry} {n : Nat} {ps : Array Value} {env : Env}
theorem Bd.store {x : Str} {v : Value} {Q : Unit → Shared → Prop} (B : Bd h₀ D P s.heap es n ps) (hk : (es.all fun e => match e.key with | .str .. => true | _ => false) = true)
    (hst : storeName env x v = localSet env x v) (eL : env.locals = D)
    (h : ∀ h', Bd h₀ D P h' (putL x (PyData.keyHash w.params x) (.str x s.toks) v es) (putN x es n) ps → Q () { s with heap := h', toks := s.toks + 1 }) : wpAny (MM w) A (storeName env x v) Q E s := by
  rw [hst]
  unfold localSet
  rw [eL]
  refine wpAny_bind (wpAny_load B.d ?_)
  refine wpAny_ite_true (by rfl) ?_
  exact nsSetD B.d hk (fun h' e b => h h' (B.keepD e b))
theorem builtinsAt {h : Heap} (X : KIn w h) {mg : Str → Option Value} (G : h.Ns mainGlobals mg) (hP : ∀ o, h.get? P = some o → o.cls = .none) : h.BuiltinsAt mg P := by
  refine ⟨4, _, X.val G (by k_is) rfl, by decide, by decide, ?_, X 4 _ rfl (by k_is), ?_, ?_, ?_⟩
  · intro e
    have := hP _ (e ▸ X 4 _ rfl (by k_is))
    cases this
  · rfl
  · rfl
  · rfl
structure TrOk (ps : Array Value) : Prop where
  ok : TriplesOk ps.toList
theorem Bd.defn {name : Str} {params : Arguments} {body : List Stmt} {scope : Scope} {pos : Pos} {clos : List (Str × Addr)} {c : Addr} {Q : Flow → Shared → Prop}
    (B : Bd h₀ D P s.heap es n ps) (X : KIn w h₀) (hC : CodeHd h₀ c P) (ht : TrOk ps) (hnf : codeAmong pos ps.toList = none) (hcl : closureFor scope env = pure clos) (eg : env.globals = mainGlobals) (ec : env.code = .ref c) (eL : env.locals = D)
    (hst : ∀ v, storeName env name v = localSet env name v) (hk : (es.all fun e => match e.key with | .str .. => true | _ => false) = true)
    (hd0 : params.defaults = []) (hk0 : params.kw_defaults = []) (ha : annTrees params none env = [])
    (h : ∀ h₁ h' f c' doc pm ctv tk tk', Kp h₀ h₁ → Bd h₁ D P h' (putL name (PyData.keyHash w.params name) (.str name tk) (.ref f) es) (putN name es n) (ps ++ #[rawInt pos.line, rawInt pos.col, .ref c']) →
      h₁.get? f = some (fnMade name (qualnameIn env name name) params body scope clos doc pm c' ctv) → h₁.CodeRec (.ref c') (qualnameIn env name name) → TrOk (ps ++ #[rawInt pos.line, rawInt pos.col, .ref c']) → Q .next { s with heap := h', toks := tk' }) :
    wpAny (MM w) A (exec (.FunctionDef name params body [] none [] scope none name pos) env) Q E s := by
  have X1 := X.kp B.kp
  obtain ⟨mg, G⟩ := gns_K X1
  have hgP : mainGlobals ≠ P := fun e => by
    obtain ⟨o, es', ep, ho, hd, _⟩ := G
    rw [e, B.p] at ho; cases ho; cases hd
  refine nestDef_K hd0 hk0 ha (makeFunction_K (mg := mg) hcl eg G ec (hC.keeps B.kp) B.p ht.ok hnf hgP (builtinsAt X1 G (fun o e => by rw [B.p] at e; cases e; rfl)) fun c' ctv doc h' tk hx hge hlt hrec htb => ?_)
  have hDP := B.ne
  have hf : s.heap.objs.size ≤ h'.objs.size := Nat.le_trans hge (Nat.le_of_lt hlt)
  have hdd : h'.get? D = some (dictOf es n) := hx _ _ hDP B.d
  have B1 : Bd h₀ D P (h'.push (fnMade name (qualnameIn env name name) params body scope clos doc ((mg "__name__").getD .none) c' ctv)) es n (ps ++ #[rawInt pos.line, rawInt pos.col, .ref c']) :=
    ⟨fun x o e => Heap.get?_push_of_some _ (hx _ _ (ne_none e B.p0) (B.kp _ _ e)), Heap.get?_push_of_some _ hdd, Heap.get?_push_of_some _ htb, hDP, B.d0, B.p0⟩
  obtain ⟨B2, k2⟩ := B1.base
  have hn : ∀ a, a < h'.objs.size → s.heap.objs.size ≤ a → a ∉ [D, P] := fun a h1 h2 => nin2 (Nat.ne_of_gt (Nat.lt_of_lt_of_le (Heap.lt_size B.d) h2)) (Nat.ne_of_gt (Nat.lt_of_lt_of_le (Heap.lt_size B.p) h2))
  refine Bd.store B2 hk (hst _) eL (fun h3 B3 => h _ h3 h'.objs.size c' doc _ ctv _ _ k2 B3 (hideAll_get _ (Heap.get?_push_size _ rfl) ?_) ?_ ?_)
  · exact nin2 (Nat.ne_of_gt (Nat.lt_of_lt_of_le (Heap.lt_size B.d) hf)) (Nat.ne_of_gt (Nat.lt_of_lt_of_le (Heap.lt_size B.p) hf))
  · obtain ⟨c₂, o₂, vs₂, t₂, e₂, g₂, r₂⟩ := hrec
    cases e₂
    exact ⟨_, o₂, vs₂, t₂, rfl, hideAll_get _ (Heap.get?_push_of_some _ g₂) (hn _ hlt hge), r₂⟩
  · refine ⟨?_⟩
    rw [Array.toList_append]
    exact TriplesOk_snoc _ _ _ _ ht.ok
end
namespace N_classCodeK
noncomputable def stX0 (w : World) (A : Around) (E : Value → Shared → Prop) (s : Shared) (env : Env) (c P : Addr) (pos : Pos) (firstLine : Nat) (name qual : Str) (scope : Scope) (ps : Array Value) (Q : Value → Shared → Prop) : Prop := ∀ (hc : env.code = .ref c) (C : CodeHd s.heap c P) (hP : s.heap.get? P = some (tabObj ps)) (ht : TriplesOk ps.toList) (hnf : codeAmong pos ps.toList = none) (h : ∀ c' P' h' tk, KpB [P] s.heap h' → s.heap.get? P' = none → h'.get? P = some (tabObj (ps ++ #[rawInt pos.line, rawInt pos.col, .ref c'])) → CodeHd h' c' P' → h'.get? P' = some (tabObj #[]) → Q (.ref c') { s with heap := h', toks := tk }), wpAny (MM w) A (classCode env pos firstLine name qual scope) Q E s
noncomputable abbrev T := World × Around × (Value → Shared → Prop) × Shared × Env × Addr × Addr × Pos × Nat × Str × Str × Scope × (Array Value) × (Value → Shared → Prop)
noncomputable def pX (x : T) : Prop := stX0 x.1 x.2.1 x.2.2.1 x.2.2.2.1 x.2.2.2.2.1 x.2.2.2.2.2.1 x.2.2.2.2.2.2.1 x.2.2.2.2.2.2.2.1 x.2.2.2.2.2.2.2.2.1 x.2.2.2.2.2.2.2.2.2.1 x.2.2.2.2.2.2.2.2.2.2.1 x.2.2.2.2.2.2.2.2.2.2.2.1 x.2.2.2.2.2.2.2.2.2.2.2.2.1 x.2.2.2.2.2.2.2.2.2.2.2.2.2
noncomputable def cX : T := @Classical.epsilon _ (ne2 neW (ne2 neA (ne2 neI (ne2 neS (ne2 neI (ne2 neI (ne2 neI (ne2 neI (ne2 neI (ne2 neI (ne2 neI (ne2 neI (ne2 neI neI))))))))))))) fun x => ¬ pX x
def w : World := cX.1
def A : Around := cX.2.1
def E : Value → Shared → Prop := cX.2.2.1
def s : Shared := cX.2.2.2.1
def env : Env := cX.2.2.2.2.1
def c : Addr := cX.2.2.2.2.2.1
def P : Addr := cX.2.2.2.2.2.2.1
def pos : Pos := cX.2.2.2.2.2.2.2.1
def firstLine : Nat := cX.2.2.2.2.2.2.2.2.1
def name : Str := cX.2.2.2.2.2.2.2.2.2.1
def qual : Str := cX.2.2.2.2.2.2.2.2.2.2.1
def scope : Scope := cX.2.2.2.2.2.2.2.2.2.2.2.1
def ps : Array Value := cX.2.2.2.2.2.2.2.2.2.2.2.2.1
def Q : Value → Shared → Prop := cX.2.2.2.2.2.2.2.2.2.2.2.2.2
theorem pfX0 : stX0 w A E s env c P pos firstLine name qual scope ps Q := by
  intro hc C hP ht hnf h
  obtain ⟨o, vs, file, tf, flags, tg, inF, text, tt, ho, _, hd, _, h11, h18, h7, h9, h10, hne⟩ := id C
  unfold classCode codeAt
  rw [hc, if_neg (show ¬ ((Value.ref c == Value.none) = true) from Bool.false_ne_true)]
  refine wpAny_bind (wpAny_fieldsOf ho hd ?_)
  rw [h11]
  refine wpAny_bind (wpAny_fieldsOf hP rfl ?_)
  rw [hnf, h18, h7, h9, h10]
  refine wpAny_bind (wpAny_newCodeX fun c' P' h' tk hk hc' hP' hcode' htab' hrec' => ?_)
  have hop' := hk _ _ hP
  refine wpAny_bind (wpAny_updateFieldsOfTheText hop' rfl ?_)
  have hlt := Heap.lt_size hP
  have hget : (h'.update P (Obj.mapFields fun vs => if (codeAmong pos vs.toList).isSome = true then vs else vs ++ #[rawInt pos.line, rawInt pos.col, .ref c'])).get? P = some (tabObj (ps ++ #[rawInt pos.line, rawInt pos.col, .ref c'])) := by
    have := Heap.get?_update_self (h := h') (Obj.mapFields fun vs => if (codeAmong pos vs.toList).isSome = true then vs else vs ++ #[rawInt pos.line, rawInt pos.col, .ref c']) hop' (by simp only [Obj.mapFields]; rfl)
    rw [this]
    simp only [Obj.mapFields, hnf]
    rfl
  refine wpAny_bind (wpAny_fieldsOf hget rfl ?_)
  have hl : (ps ++ #[rawInt pos.line, rawInt pos.col, Value.ref c']).toList = ps.toList ++ [rawInt pos.line, rawInt pos.col, .ref c'] := by simp
  rw [hl, codeAmong_snoc _ ht hnf]
  have hup : ∀ b o, b ≠ P → h'.get? b = some o → (h'.update P (Obj.mapFields fun vs => if (codeAmong pos vs.toList).isSome = true then vs else vs ++ #[rawInt pos.line, rawInt pos.col, .ref c'])).get? b = some o := fun b o hb e => by
    rw [Heap.get?_update_other _ _ (Ne.symm hb)]; exact e
  have hcP : c' ≠ P := Nat.ne_of_gt (Nat.lt_of_lt_of_le hlt hc')
  have hPP : P' ≠ P := Nat.ne_of_gt (Nat.lt_of_lt_of_le hlt hP')
  obtain ⟨⟨oc, vc, hoc, hcc, hdc, h11c⟩, htP⟩ := id htab'
  have C' : CodeHd h' c' P' := CodeHd.of hcode' htab'
  obtain ⟨o1, vs1, file1, tf1, flags1, tg1, inF1, text1, tt1, ho1, r1⟩ := C'
  exact wpAny_pure (h c' P' _ tk (fun b o hb e => hup b o (fun q => hb (by rw [q]; exact .head _)) (hk b o e)) (Heap.get?_none_of_le hP') hget ⟨o1, vs1, file1, tf1, flags1, tg1, inF1, text1, tt1, hup _ _ hcP ho1, r1⟩ (hup _ _ hPP htP))
theorem allX (x : T) : pX x := eps (P := pX) pfX0
end N_classCodeK
theorem classCodeK {w : World} {A : Around} {E : Value → Shared → Prop} {s : Shared} {env : Env} {c P : Addr} {pos : Pos} {firstLine : Nat} {name qual : Str} {scope : Scope} {ps : Array Value} {Q : Value → Shared → Prop} : N_classCodeK.stX0 w A E s env c P pos firstLine name qual scope ps Q := (N_classCodeK.allX (w, A, E, s, env, c, P, pos, firstLine, name, qual, scope, ps, Q))
end Mine
namespace Mine
theorem ty_t : typeOf (.type "type") = pure (.type "type") := rfl
theorem isT_t : isType (.type "type") = pure true := rfl
theorem slot_type_ga : Slot "type" "__getattribute__" "type.__getattribute__" :=
  .of (owner := "type") (n := "__getattribute__") (by rw [typeLookup_type, builtinLookup_eq_fast]; kernel_rfl) (by decide +kernel) (by decide +kernel) (by decide +kernel)
    (by first | exact .inl (by decide +kernel) | exact .inr (by decide +kernel)) (by rw [isSubtype_type]; kernel_rfl)
theorem entry_type_ga : entryFor table "type.__getattribute__" = some Builtin.«type.__getattribute__» := entryFor_of_tree (by kernel_rfl)
theorem args_type_ga (a b : Value) : argsOk "type.__getattribute__" ⟨[a, b], []⟩ := by unfold argsOk; kernel_rfl
theorem lk_prep : typeLookup (.type "type") "__prepare__" = pure (some (.builtin "type.__prepare__")) := by rw [typeLookup_type, builtinLookup_eq_fast]; kernel_rfl
theorem ty_prep : typeOf (.builtin "type.__prepare__") = pure (.type "classmethod_descriptor") := by kernel_rfl
theorem lk_cmd_set : typeLookup (.type "classmethod_descriptor") "__set__" = pure none := by rw [typeLookup_type, builtinLookup_eq_fast]; kernel_rfl
theorem lk_cmd_del : typeLookup (.type "classmethod_descriptor") "__delete__" = pure none := by rw [typeLookup_type, builtinLookup_eq_fast]; kernel_rfl
theorem entry_prep : entryFor table "type.__prepare__" = some Builtin.«type.__prepare__» := entryFor_of_tree (by kernel_rfl)
namespace N_prep_attr
noncomputable def stX0 (w : World) (A : Around) (E : Value → Shared → Prop) (Q : Option Value → Shared → Prop) : Prop := ∀ {s : Shared} (X : KIn w s.heap) (h : ∀ F h', h'.get? F = some ⟨.type "builtin_function_or_method", none, .fields #[.builtin "type.__prepare__", .type "type"], #[]⟩ → Kp s.heap h' → Q (some (.ref F)) { s with heap := h', toks := s.toks + 1 }), wpAny (MM w) A (getAttr? (.type "type") "__prepare__") Q E s
noncomputable abbrev T := World × Around × (Value → Shared → Prop) × (Option Value → Shared → Prop)
noncomputable def pX (x : T) : Prop := stX0 x.1 x.2.1 x.2.2.1 x.2.2.2
noncomputable def cX : T := @Classical.epsilon _ (ne2 neW (ne2 neA (ne2 neI neI))) fun x => ¬ pX x
def w : World := cX.1
def A : Around := cX.2.1
def E : Value → Shared → Prop := cX.2.2.1
def Q : Option Value → Shared → Prop := cX.2.2.2
theorem pfX0 : stX0 w A E Q := by
  intro s X h
  obtain ⟨hp, g, dr, tk, os⟩ := s
  have hT1 : (⟨hp, g, dr, tk + 1, os⟩ : Shared).TypeIs (.type "type") "type" := ty_t
  have f1 := ty_t
  have f2 := slot_type_ga.lookup
  have f3 := slot_type_ga.bind (.type "type")
  unfold getAttr? getAttrBy? getAttrBy
  repeat wp_step
  refine codeAny_call_builtin slot_type_ga.plain entry_type_ga (slot_type_ga.check _ _ _ _ _ _ _ _ hT1 (args_type_ga _ _) ?_)
  unfold Builtin.«type.__getattribute__»
  have f4 := lk_prep
  have f5 := ty_prep
  have f6 := slot_cmd_get.lookup
  have f7 := lk_cmd_set
  have f8 := lk_cmd_del
  have hT2 : (⟨hp, g, dr, tk + 1, os⟩ : Shared).TypeIs (.builtin "type.__prepare__") "classmethod_descriptor" := ty_prep
  repeat wp_step
  refine codeAny_call_builtin slot_cmd_get.plain entry_cmd_get (slot_cmd_get.check _ _ _ _ _ _ _ _ hT2 (args_cmd_get _ _ _) ?_)
  unfold Builtin.«classmethod_descriptor.__get__»
  generalize g1 : isSubtype = X1
  repeat wp_step
  subst g1
  refine wpAny_of_eq (a := true) (by
    rw [show (".".intercalate ("type.__prepare__".cutAt '.').dropLast) = "type" from by decide +kernel]; exact sub_tt) ?_
  wp_delta
  refine wpAny_ite_false (by rfl) ?_
  refine wpAny_bind ?_
  unfold newFields
  refine newObjN (by rfl) (fun F h1 f1 k1 f2 => wpAny_pure ?_)
  have hend := h F h1 f1 k1
  repeat wp_step
  all_goals (exact hend)
theorem allX (x : T) : pX x := eps (P := pX) pfX0
end N_prep_attr
theorem prep_attr {w : World} {A : Around} {E : Value → Shared → Prop} {Q : Option Value → Shared → Prop} : N_prep_attr.stX0 w A E Q := (N_prep_attr.allX (w, A, E, Q))
end Mine
namespace Mine
theorem bound_prep (a b : Value) : checkBoundCall "type.__prepare__" ⟨[.type "type", a, b], []⟩ = pure () := by kernel_rfl
theorem call_prep {w : World} {A : Around} {E : Value → Shared → Prop} {s : Shared} {F : Addr} {a b : Value} {Q : Value → Shared → Prop} (X : KIn w s.heap)
    (hF : s.heap.get? F = some ⟨.type "builtin_function_or_method", none, .fields #[.builtin "type.__prepare__", .type "type"], #[]⟩)
    (h : ∀ D h', h'.get? D = some (dictOf [] 0) → Kp s.heap h' → s.heap.get? D = none → Q (.ref D) { s with heap := h' }) : wpAny (MM w) A (call (.ref F) [a, b]) Q E s := by
  have hT : s.TypeIs (.ref F) "builtin_function_or_method" := ⟨_, hF, rfl⟩
  refine wpAny_call (codeAny_of_tree ?_)
  show wpAny _ _ (callAny (.ref F) _) _ _ _
  unfold callAny
  generalize g1 : checkBoundCall = X1
  repeat wp_step
  subst g1
  refine wpAny_of_eq (bound_prep a b) ?_
  repeat wp_step
  refine ⟨Code.quiet_builtin _ (by decide +kernel), codeAny_builtin entry_prep ?_⟩
  unfold Builtin.«type.__prepare__» newDict
  refine wpAny_bind ?_
  refine newObjN (by rfl) (fun D h1 d1 k1 d2 => wpAny_pure ?_)
  exact h D h1 d1 k1 d2
end Mine
namespace Mine
noncomputable abbrev esA (w : World) (t : Nat → Tok) (fl : Int) (sl f0 f1 f2 f3 f4 f5 : Addr) : List DictEntry :=
  [en w "__module__" (t 0) (.str "cpy313.functools" (t 1)), en w "__qualname__" (t 2) (.str "cmp_to_key.<locals>.K" (t 3)), en w "__firstlineno__" (t 4) (.int fl (t 5)),
   en w "__slots__" (t 6) (.ref sl), en w "__init__" (t 7) (.ref f0), en w "__lt__" (t 8) (.ref f1), en w "__gt__" (t 9) (.ref f2), en w "__eq__" (t 10) (.ref f3), en w "__le__" (t 11) (.ref f4), en w "__ge__" (t 12) (.ref f5),
   en w "__hash__" (t 13) .none]
noncomputable def fd21 (w : World) : FuncData := match (dm.heap_1 w.params).lookup 21 with | some ⟨_, _, .func fd, _⟩ => fd | _ => default
noncomputable def methOf (fd : FuncData) (i : Nat) : Option (Str × Arguments × List Stmt × Scope) := match fd.body with
  | .stmts (.ClassDef _ _ _ body _ _ _ _ _ _ _ :: _) => (match body[i]? with
    | some (.FunctionDef name params b _ _ _ scope _ _ _) => some (name, params, b, scope)
    | _ => none)
  | _ => none
inductive Meth (w : World) (h : Heap) (i : Nat) (clos : List (Str × Addr)) (f : Addr) : Prop
  | mk (name : Str) (params : Arguments) (body : List Stmt) (scope : Scope) (doc pm : Value) (c : Addr) (ctv : Value) (qual : Str) (e : methOf (fd21 w) i = some (name, params, body, scope)) (g : h.get? f = some (fnMade name qual params body scope clos doc pm c ctv)) (r : h.CodeRec (.ref c) qual) : Meth w h i clos f
theorem Meth.kp {w : World} {h h' : Heap} {i : Nat} {cl : List (Str × Addr)} {f : Addr} (x : Meth w h i cl f) (k : Kp h h') : Meth w h' i cl f :=
  let ⟨name, params, body, scope, doc, pm, c, ctv, qual, e, g, r⟩ := x
  ⟨name, params, body, scope, doc, pm, c, ctv, qual, e, k _ _ g, by obtain ⟨a, o, vs, t, e1, e2, r⟩ := r; exact ⟨a, o, vs, t, e1, k _ _ e2, r⟩⟩
noncomputable def Meths (w : World) (h : Heap) (mc : Addr) (f0 f1 f2 f3 f4 f5 : Addr) : Prop :=
  Meth w h 2 [] f0 ∧ Meth w h 3 [("mycmp", mc)] f1 ∧ Meth w h 4 [("mycmp", mc)] f2 ∧ Meth w h 5 [("mycmp", mc)] f3 ∧ Meth w h 6 [("mycmp", mc)] f4 ∧ Meth w h 7 [("mycmp", mc)] f5
theorem Meths.kp {w : World} {h h' : Heap} {mc f0 f1 f2 f3 f4 f5 : Addr} (x : Meths w h mc f0 f1 f2 f3 f4 f5) (k : Kp h h') : Meths w h' mc f0 f1 f2 f3 f4 f5 :=
  ⟨x.1.kp k, x.2.1.kp k, x.2.2.1.kp k, x.2.2.2.1.kp k, x.2.2.2.2.1.kp k, x.2.2.2.2.2.kp k⟩
noncomputable abbrev envK (scope : Scope) (D fr c mc : Addr) : Env :=
  { scope, locals := D, globals := mainGlobals, qual := "cmp_to_key.<locals>.K" ++ ".", code := .ref c, frame := some fr, builtins := builtinsNs, cells := [("mycmp", mc)] }
inductive KCl (w : World) (h : Heap) (C : Addr) (mycmp : Value) : Prop
  | is (N MD mc bT : Addr) (tn : Tok) (t : Nat → Tok) (fl : Int) (sl f0 f1 f2 f3 f4 f5 st : Addr) (tk : Tok) (n : Nat) (a1 : h.get? C = some (clK C N [.ref C, .type "object"] false ["obj"] #[some (.ref bT), none, some (.str "K" tn), some (.str "cmp_to_key.<locals>.K" (t 3)), some (.builtin "object.__new__"), some (.bool false)]))
    (a2 : h.get? N = some (dictOf (esF w t fl sl f0 f1 f2 f3 f4 f5 st MD tk) n))
    (a3 : h.get? MD = some ⟨.type "member_descriptor", none, .fields #[.str "obj" tk, .ref C, .builtin "proto.slot", .builtin "proto.slot#set", rawInt 0], #[]⟩)
    (a4 : ∃ o, h.get? mc = some o ∧ o.data = .cell (some mycmp)) (m : Meths w h mc f0 f1 f2 f3 f4 f5) : KCl w h C mycmp
theorem KIn.hide {w : World} {h : Heap} (X : KIn w h) : KIn w (hideAll h [16]) := fun a o e q => hideAll_get _ (X a o e q) (nin1 fun m => by rw [m] at e; cases e)
theorem KIn.kpB {w : World} {h h' : Heap} (X : KIn w h) (k : KpB [16] h h') : KIn w h' := fun a o e q => k a o (nin1 fun m => by rw [m] at e; cases e) (X a o e q)
theorem lk_dict_gi : typeLookup (.type "dict") "__getitem__" = pure (some (.builtin "dict.__getitem__")) := by rw [typeLookup_type, builtinLookup_eq_fast]; kernel_rfl
namespace N_buildClass_K
noncomputable def stX0 (w : World) (A : Around) (E : Value → Shared → Prop) (s : Shared) (Q : Value → Shared → Prop) (body : List Stmt) (scope : Scope) (fl : Nat) (pos : Pos) (n : Nat) (mycmp : Value) : Prop := ∀ {env : Env} {c : Addr} {mc : Addr} (X : KIn w s.heap) (hr : Rm A (n + 1)) (C : CodeHd s.heap c 16) (hP : s.heap.get? 16 = some (tabObj #[])) (hc : env.code = .ref c) (eg : env.globals = mainGlobals) (hk1 : (scope.names.lookup ("__class__" : Str) == some NameKind.cell) = false) (hk2 : (scope.names.lookup ("__classdict__" : Str) == some NameKind.cell) = false) (hcl : closureFor scope env = pure [(("mycmp" : Str), mc)]) (hmc : ∃ o, s.heap.get? mc = some o ∧ o.data = .cell (some mycmp)) (hst : ∀ x ∈ (["__module__", "__qualname__", "__firstlineno__", "__static_attributes__"] : List Str), ∀ D fr c v, storeName (envK scope D fr c mc) x v = localSet (envK scope D fr c mc) x v) (hln : ∀ D fr c, loadName (envK scope D fr c mc) "__name__" = (do
      if let some v ← localGet (envK scope D fr c mc) "__name__" then return v
      loadGlobal (envK scope D fr c mc) "__name__")) (hbody : ∀ D P c fr h₁ h' tk t0 v0 t2 t3 t4 t5, KIn w h₁ → CodeHd h₁ c P → Bd h₁ D P h' [en w "__module__" t0 v0, en w "__qualname__" t2 (.str "cmp_to_key.<locals>.K" t3), en w "__firstlineno__" t4 (.int fl t5)] 3 #[] →
      ∀ R : Result → Shared → Prop, (∀ h₂ h'' tk' t sl f0 f1 f2 f3 f4 f5 tq n2 nn ps, Kp h₁ h₂ → Bd h₂ D P h'' (esA w t fl sl f0 f1 f2 f3 f4 f5) nn ps → h₂.get? sl = some (listOf #[.str "obj" tq] n2) → Meths w h₂ mc f0 f1 f2 f3 f4 f5 → R (.ok .next) { s with heap := h'', toks := tk' }) →
        codeAny (MM w) A (.body body (envK scope D fr c mc)) R { s with heap := h', toks := tk }) (h : ∀ C h' tk, KpB [16] s.heap h' → KCl w h' C mycmp → (∃ ps, h'.get? 16 = some (tabObj ps)) → Q (.ref C) { s with heap := h', toks := tk }), wpAny (MM w) A (buildClass "K" "cmp_to_key.<locals>.K" [.type "object"] [] body scope ["obj"] fl env pos none) Q E s
noncomputable abbrev T := World × Around × (Value → Shared → Prop) × Shared × (Value → Shared → Prop) × (List Stmt) × Scope × Nat × Pos × Nat × Value
noncomputable def pX (x : T) : Prop := stX0 x.1 x.2.1 x.2.2.1 x.2.2.2.1 x.2.2.2.2.1 x.2.2.2.2.2.1 x.2.2.2.2.2.2.1 x.2.2.2.2.2.2.2.1 x.2.2.2.2.2.2.2.2.1 x.2.2.2.2.2.2.2.2.2.1 x.2.2.2.2.2.2.2.2.2.2
noncomputable def cX : T := @Classical.epsilon _ (ne2 neW (ne2 neA (ne2 neI (ne2 neS (ne2 neI (ne2 neI (ne2 neI (ne2 neI (ne2 neI (ne2 neI neI)))))))))) fun x => ¬ pX x
def w : World := cX.1
def A : Around := cX.2.1
def E : Value → Shared → Prop := cX.2.2.1
def s : Shared := cX.2.2.2.1
def Q : Value → Shared → Prop := cX.2.2.2.2.1
def body : List Stmt := cX.2.2.2.2.2.1
def scope : Scope := cX.2.2.2.2.2.2.1
def fl : Nat := cX.2.2.2.2.2.2.2.1
def pos : Pos := cX.2.2.2.2.2.2.2.2.1
def n : Nat := cX.2.2.2.2.2.2.2.2.2.1
def mycmp : Value := cX.2.2.2.2.2.2.2.2.2.2
theorem pfX0 : stX0 w A E s Q body scope fl pos n mycmp := by
  intro env c mc X hr C hP hc eg hk1 hk2 hcl hmc hst hln hbody h
  cases env
  dsimp only at hc eg
  subst eg
  subst hc
  unfold buildClass
  refine wpAny_bind (newObjN (by rfl) (fun bT h1 b1 k1 b2 => ?_))
  have e1 := isT_o
  have e2 := ty_o
  have e3 := isT_t
  have e4 := sub_tt
  generalize g1 : getAttr? = X1
  generalize g2 : classCode = X2
  generalize g3 : closureFor = X3
  repeat wp_step
  subst g1
  show wpAny _ _ _ _ _ { s with heap := h1, toks := s.toks + 1 }
  refine prep_attr (X.kp k1) (fun F h2 f2 k2 => ?_)
  have X2' := (X.kp k1).kp k2
  wp_delta
  refine wpAny_bind (call_prep X2' f2 (fun D h3 d3 k3 d0 => ?_))
  wp_delta
  show wpAny _ _ _ _ _ { s with heap := h3, toks := s.toks + 1 + 1 }
  have X3' : KIn w h3 := X2'.kp k3
  have hDs : D ≠ sysModules := fun e => by
    have : h2.get? sysModules = some _ := X2' 1 _ rfl (by k_is)
    rw [e, this] at d0; cases d0
  unfold notTheModulesDict
  refine wpAny_bind (wpAny_ite_false (by simpa using hDs) (wpAny_pure ?_))
  refine wpAny_bind (wpAny_specialOf (T := "dict") ⟨_, d3, rfl⟩ lk_dict_gi ?_)
  wp_delta
  refine wpAny_ite_false (by rfl) ?_
  wp_delta
  refine wpAny_holding ?_
  refine wpAny_ite_false (by rw [hk1]; rfl) ?_
  refine wpAny_bind (wpAny_pure ?_)
  wp_delta
  refine wpAny_ite_false (by rw [hk2]; rfl) ?_
  refine wpAny_bind (wpAny_pure ?_)
  wp_delta
  subst g2
  refine wpAny_bind (classCodeK rfl (C.keeps (Kp.trans k1 (Kp.trans k2 k3))) (k3 _ _ (k2 _ _ (k1 _ _ hP))) trivial rfl (fun c' P' h4 tk4 k4 p0 hp16 C4 hp4 => ?_))
  have X4 : KIn w h4 := X3'.kpB k4
  obtain ⟨mg, G4⟩ := gns_K X4
  obtain ⟨bm, ob, q1, q2, _, _, q5, q6, q7, q8⟩ := builtinsAt (P := 16) X4 G4 (fun o e => by rw [hp16] at e; cases e; rfl)
  refine wpAny_bind (wpAny_builtinsFor G4 q1 q2 q5 q6 q7 q8 ?_)
  refine wpAny_bind ?_
  unfold newBodyFrame
  refine wpAny_bind (wpAny_nsGet G4 ?_)
  refine allocN _ (by rfl) (fun fr h5 fr1 k5 fr0 => ?_)
  subst g3
  refine wpAny_bind (wpAny_of_eq hcl ?_)
  wp_delta
  refine wpAny_holding ?_
  have X5 : KIn w h5 := X4.kp k5
  refine wpAny_bind (wpAny_enterFrame (nolimit_K X5) hr.room ?_)
  show wpAny _ _ _ _ _ { s with heap := h5, toks := tk4 }
  have hD16 : D ∉ [16] := nin1 (ne_none (k2 _ _ (k1 _ _ hP)) d0).symm
  have B0 : Bd (hideAll h5 [D, P']) D P' h5 [] 0 #[] := ⟨hide_kp _ _, k5 _ _ (k4 _ _ hD16 d3), k5 _ _ hp4, ne_none d3 p0, hideAll_none _ (.head _), hideAll_none _ (.tail _ (.head _))⟩
  have hnot : ∀ a o, h5.get? a = some o → (∃ o', s.heap.get? a = some o') → a ∉ [D, P'] := fun a o _ z => z.elim fun o' e' => nin2 (ne_none (k2 _ _ (k1 _ _ e')) d0) (ne_none (k3 _ _ (k2 _ _ (k1 _ _ e'))) p0)
  have kb : Kp (hideAll s.heap [16]) (hideAll h5 [D, P']) := fun a o e => by
    have e1 := of_hideAll _ e
    have ha : a ∉ [16] := fun m => by rw [hideAll_none _ m] at e; cases e
    have e5 := k5 _ _ (k4 _ _ ha (k3 _ _ (k2 _ _ (k1 _ _ e1))))
    exact hideAll_get _ e5 (hnot a o e5 ⟨o, e1⟩)
  have X6 : KIn w (hideAll h5 [D, P']) := X.hide.kp kb
  have C6 : CodeHd (hideAll h5 [D, P']) c' P' := by
    obtain ⟨o1, vs1, file1, tf1, flags1, tg1, inF1, text1, tt1, ho1, r1, r2, r3, r4, r5, r6, r7, r8, r9⟩ := C4
    refine ⟨o1, vs1, file1, tf1, flags1, tg1, inF1, text1, tt1, hideAll_get _ (k5 _ _ ho1) (nin2 (fun q => ?_) r9), r1, r2, r3, r4, r5, r6, r7, r8, r9⟩
    have z := k4 _ _ hD16 d3
    rw [← q, ho1] at z
    cases z
    injection r1 with q
    exact absurd q (by decide)
  have hbT : (hideAll h5 [D, P']).get? bT = some { cls := .type "tuple", data := .seq #[.type "object"] } := by
    have e2 : h2.get? bT = some _ := k2 _ _ b1
    have e3 := k3 _ _ e2
    have hb16 : bT ∉ [16] := nin1 (ne_none hP b2).symm
    exact hideAll_get _ (k5 _ _ (k4 _ _ hb16 e3)) (nin2 (ne_none e2 d0) (ne_none e3 p0))
  refine wpAny_bind (wpAny_onRaise ?_)
  refine wpAny_bind (show wpAny _ _ (loadName (envK scope D fr c' mc) "__name__") _ _ _ from ?_)
  rw [hln]
  unfold localGet
  refine wpAny_bind (wpAny_bind (wpAny_load B0.d (wpAny_ite_true (by rfl) (nsGetD' (r := none) B0.d (by rfl) (by rfl) ?_))))
  obtain ⟨mg5, G5⟩ := gns_K X5
  refine loadGlobal_global (env := envK scope D fr c' mc) G5 (X5.val G5 (by k_is) rfl) ?_
  refine wpAny_bind (show wpAny _ _ (storeName (envK scope D fr c' mc) "__module__" _) _ _ _ from Bd.store B0 rfl (hst _ (.head _) _ _ _ _) rfl (fun h6 B1 => ?_))
  refine wpAny_bind (wpAny_mkText ?_)
  refine wpAny_bind (show wpAny _ _ (storeName (envK scope D fr c' mc) "__qualname__" _) _ _ _ from Bd.store B1 rfl (hst _ (.tail _ (.head _)) _ _ _ _) rfl (fun h7 B2 => ?_))
  refine wpAny_bind (wpAny_mkInt' ?_)
  refine wpAny_bind (show wpAny _ _ (storeName (envK scope D fr c' mc) "__firstlineno__" _) _ _ _ from Bd.store B2 rfl (hst _ (.tail _ (.tail _ (.head _))) _ _ _ _) rfl (fun h8 B3 => ?_))
  refine wpAny_pure ?_
  wp_delta
  refine wpAny_bind (wpAny_run (hbody D P' c' fr _ _ _ _ _ _ _ _ _ X6 C6 B3 _ (fun h₂ h9 tk9 t sl f0 f1 f2 f3 f4 f5 tq n2 nn ps k9 B4 hsl hme => ?_)))
  show wpAny _ _ _ _ _ { s with heap := h9, toks := tk9 }
  refine wpAny_bind (wpAny_onRaise ?_)
  refine wpAny_bind (wpAny_mkStrs fun vs => ?_)
  refine wpAny_bind (wpAny_newTextTuple ?_)
  have kp9 : Kp h9 (h9.push { cls := .type "tuple", data := .seq vs.toArray }) := fun _ _ e => Heap.get?_push_of_some _ e
  obtain ⟨B6, k6⟩ := (B4.kps kp9).base
  have hst9 : (hideAll (h9.push { cls := .type "tuple", data := .seq vs.toArray }) [D, P']).get? h9.objs.size = some { cls := .type "tuple", data := .seq vs.toArray } := hideAll_get _ (Heap.get?_push_size _ rfl) (by
    intro m
    have hd := Heap.lt_size B4.d
    have hp := Heap.lt_size B4.p
    simp only [List.mem_cons, List.not_mem_nil, or_false] at m
    rcases m with m | m
    · rw [← m] at hd; exact Nat.lt_irrefl _ hd
    · rw [← m] at hp; exact Nat.lt_irrefl _ hp)
  refine wpAny_bind (show wpAny _ _ (storeName (envK scope D fr c' mc) "__static_attributes__" _) _ _ _ from Bd.store B6 rfl (hst _ (.tail _ (.tail _ (.tail _ (.head _)))) _ _ _ _) rfl (fun h10 B7 => ?_))
  refine wpAny_pure ?_
  wp_delta
  refine wpAny_ite_false (by rfl) ?_
  wp_delta
  have k67 : Kp h₂ h10 := Kp.trans k6 B7.kp
  have kall : Kp (hideAll s.heap [16]) h10 := Kp.trans kb (Kp.trans k9 k67)
  have X10 : KIn w h10 := X.hide.kp kall
  show wpAny _ _ _ _ _ { s with heap := h10, toks := tk9 + 1 + 1 }
  obtain ⟨m0, m1, m2, m3, m4, m5⟩ := hme.kp k67
  have mf : ∀ {i cl f}, Meth w h10 i cl f → ∃ o, h10.get? f = some o ∧ o.cls = .type "function" := fun x => by obtain ⟨_, _, _, _, _, _, _, _, _, _, g, _⟩ := x; exact ⟨_, g, rfl⟩
  refine wpAny_bind (call_type w A _ _ _ bT D _ tq _ n2 (fun i => if i = 14 then tk9 + 1 else t i) fl sl f0 f1 f2 f3 f4 f5 h9.objs.size (k67 _ _ (k9 _ _ hbT)) (k67 _ _ hsl) B7.d hDs X10 (by
    intro f hf
    simp only [List.mem_cons, List.not_mem_nil, or_false] at hf
    rcases hf with rfl | rfl | rfl | rfl | rfl | rfl
    · exact mf m0
    · exact mf m1
    · exact mf m2
    · exact mf m3
    · exact mf m4
    · exact mf m5) ⟨_, B7.kp _ _ hst9, rfl⟩ (fun C N MD h11 tk11 k11 c11 n11 m11 => ?_))
  wp_delta
  have kfin : Kp (hideAll s.heap [16]) h11 := Kp.trans kall k11
  obtain ⟨omc, hmc1, hmc2⟩ := hmc
  have hmc3 : h11.get? mc = some omc := kfin _ _ (hideAll_get _ hmc1 (nin1 fun q => by rw [q, hP] at hmc1; cases hmc1; cases hmc2))
  exact wpAny_pure (h C h11 tk11 (kpB_hide kfin) ⟨N, MD, mc, bT, _, (fun i => if i = 14 then tk9 + 1 else t i), fl, sl, f0, f1, f2, f3, f4, f5, _, _, 3, c11, n11, m11, ⟨omc, hmc3, hmc2⟩, (hme.kp k67).kp k11⟩ ⟨_, k11 _ _ (k67 _ _ (k9 _ _ (hideAll_get _ (k5 _ _ hp16) (nin2 (fun q => hD16 (q ▸ .head _)) (ne_none (k3 _ _ (k2 _ _ (k1 _ _ hP))) p0)))))⟩)
theorem allX (x : T) : pX x := eps (P := pX) pfX0
end N_buildClass_K
theorem buildClass_K {w : World} {A : Around} {E : Value → Shared → Prop} {s : Shared} {Q : Value → Shared → Prop} {body : List Stmt} {scope : Scope} {fl : Nat} {pos : Pos} {n : Nat} {mycmp : Value} : N_buildClass_K.stX0 w A E s Q body scope fl pos n mycmp := (N_buildClass_K.allX (w, A, E, s, Q, body, scope, fl, pos, n, mycmp))
end Mine
namespace Mine
noncomputable def hfr (h : Heap) : Frag := (List.range h.objs.size).filterMap fun a => (h.get? a).map fun o => (a, o)
theorem hfr_aux (h : Heap) (a : Addr) : ∀ l : List Nat, (a ∈ l → (l.filterMap fun a => (h.get? a).map fun o => (a, o)).lookup a = h.get? a) ∧ (a ∉ l → (l.filterMap fun a => (h.get? a).map fun o => (a, o)).lookup a = none)
  | [] => ⟨fun q => (nomatch q), fun _ => rfl⟩
  | b :: r => by
    obtain ⟨i1, i2⟩ := hfr_aux h a r
    cases hb : h.get? b with
    | none =>
      simp only [List.filterMap_cons, hb, Option.map_none]
      refine ⟨fun q => ?_, fun q => i2 fun q' => q (.tail _ q')⟩
      by_cases m : a ∈ r
      · exact i1 m
      · rw [i2 m]
        cases q with
        | head => exact hb.symm
        | tail _ q => exact absurd q m
    | some o =>
      simp only [List.filterMap_cons, hb, Option.map_some, List.lookup_cons]
      by_cases e : a = b
      · subst e
        simp [hb]
      · have e' : (a == b) = false := by simpa using e
        simp only [e']
        refine ⟨fun q => ?_, fun q => i2 fun q' => q (.tail _ q')⟩
        cases q with
        | head => exact absurd rfl e
        | tail _ q => exact i1 q
theorem hfr_lk (h : Heap) (a : Addr) : (hfr h).lookup a = h.get? a := by
  by_cases m : a < h.objs.size
  · exact (hfr_aux h a _).1 (List.mem_range.mpr m)
  · rw [hfr, (hfr_aux h a _).2 (fun q => m (List.mem_range.mp q)), Heap.get?_none_of_le (Nat.le_of_not_lt m)]
theorem hfr_in {h h' : Heap} (k : Kp h h') : (hfr h).In h' := fun a o e => k a o ((hfr_lk h a).symm.trans e)
section
variable {h : Heap} {C N : Addr} {sl : Array (Option Value)} {es : List DictEntry} {n : Nat} {name : Str} {v : Value}
theorem fnd_own (hC : h.get? C = some (clK C N [.ref C, .type "object"] false ["obj"] sl)) (hN : h.get? N = some (dictOf es n)) (e : getL name es = some (some v)) : findIn (hfr h) (.ref C) name = some (some v) := by
  have L1 := (hfr_lk h C).trans hC
  have L2 : nsIn (hfr h) N name = some (some v) := by
    unfold nsIn; rw [(hfr_lk h N).trans hN]; exact e
  unfold findIn
  dsimp only
  rw [L1]
  show alongIn (hfr h) name [.ref C, .type "object"] = _
  unfold alongIn ownIn
  dsimp only
  rw [L1]
  dsimp only
  rw [L2]
theorem fnd_obj (hC : h.get? C = some (clK C N [.ref C, .type "object"] false ["obj"] sl)) (hN : h.get? N = some (dictOf es n)) (e : getL name es = some none) {r : Option Value} (hr : fastBuiltinOwn "object" name = r) : findIn (hfr h) (.ref C) name = some r := by
  have L1 := (hfr_lk h C).trans hC
  have L2 : nsIn (hfr h) N name = some none := by
    unfold nsIn; rw [(hfr_lk h N).trans hN]; exact e
  unfold findIn
  dsimp only
  rw [L1]
  show alongIn (hfr h) name [.ref C, .type "object"] = _
  unfold alongIn ownIn
  dsimp only
  rw [L1]
  dsimp only
  rw [L2]
  dsimp only
  unfold alongIn ownIn
  dsimp only
  rw [hr]
  cases r <;> rfl
end
structure KFx (w : World) (h : Heap) (C : Addr) (mycmp : Value) (MD mc f0 f1 f2 f3 f4 f5 : Addr) : Prop where
  makes : makesIn (hfr h) C = true
  init : findIn (hfr h) (.ref C) "__init__" = some (some (.ref f0))
  lt : findIn (hfr h) (.ref C) "__lt__" = some (some (.ref f1))
  gt : findIn (hfr h) (.ref C) "__gt__" = some (some (.ref f2))
  eq : findIn (hfr h) (.ref C) "__eq__" = some (some (.ref f3))
  le : findIn (hfr h) (.ref C) "__le__" = some (some (.ref f4))
  ge : findIn (hfr h) (.ref C) "__ge__" = some (some (.ref f5))
  ne : findIn (hfr h) (.ref C) "__ne__" = some (some (.builtin "object.__ne__"))
  seta : findIn (hfr h) (.ref C) "__setattr__" = some (some (.builtin "object.__setattr__"))
  geta : findIn (hfr h) (.ref C) "__getattribute__" = some (some (.builtin "object.__getattribute__"))
  getb : findIn (hfr h) (.ref C) "__getattr__" = some none
  obj : findIn (hfr h) (.ref C) "obj" = some (some (.ref MD))
  cls : isClsIn (hfr h) C = true
  over : plainOver (hfr h) C = true
  slot : slotIn (hfr h) MD C = some 0
  cell : ∃ o, h.get? mc = some o ∧ o.data = .cell (some mycmp)
  me : Meths w h mc f0 f1 f2 f3 f4 f5
  md : typeIn (hfr h) (.ref MD) = some (.type "member_descriptor")
  taker : takerIn (hfr h) C "obj" = some (some (.ref MD))
  c : ∃ N sl, h.get? C = some (clK C N [.ref C, .type "object"] false ["obj"] sl)
  mdo : ∃ tk, h.get? MD = some ⟨.type "member_descriptor", none, .fields #[.str "obj" tk, .ref C, .builtin "proto.slot", .builtin "proto.slot#set", rawInt 0], #[]⟩
theorem KCl.fx {w : World} {h : Heap} {C : Addr} {mycmp : Value} (x : KCl w h C mycmp) : ∃ MD mc f0 f1 f2 f3 f4 f5, KFx w h C mycmp MD mc f0 f1 f2 f3 f4 f5 := by
  obtain ⟨N, MD, mc, bT, tn, t, fl, sl, f0, f1, f2, f3, f4, f5, st, tk, n, hC, hN, hM, hc, hm⟩ := x
  have L1 := (hfr_lk h C).trans hC
  have L3 := (hfr_lk h MD).trans hM
  have T3 : typeIn (hfr h) (.ref MD) = some (.type "member_descriptor") := by unfold typeIn; dsimp only; rw [L3]; rfl
  refine ⟨MD, mc, f0, f1, f2, f3, f4, f5, ?_, fnd_own hC hN rfl, fnd_own hC hN rfl, fnd_own hC hN rfl, fnd_own hC hN rfl, fnd_own hC hN rfl, fnd_own hC hN rfl, fnd_obj hC hN rfl (by kernel_rfl), fnd_obj hC hN rfl (by kernel_rfl), fnd_obj hC hN rfl (by kernel_rfl), fnd_obj hC hN rfl (by kernel_rfl), fnd_own hC hN rfl, ?_, ?_, ?_, hc, hm, T3, ?_, ⟨_, _, hC⟩, ⟨_, hM⟩⟩
  · unfold makesIn
    rw [L1]
    have e1 : specialIn (hfr h) (.ref C) "__call__" = some (some (.builtin "type.__call__")) := by
      unfold specialIn typeIn; dsimp only; rw [L1]; kernel_rfl
    have e2 : instIn (hfr h) (.ref C) (.type "type") = some true := by
      unfold instIn typeIn; dsimp only; rw [L1]; kernel_rfl
    rw [e1, e2]
    simp
  · unfold isClsIn clsIn; rw [L1]; rfl
  · unfold plainOver clsIn; rw [L1]
    show onlyObject [.ref C, .type "object"] = true
    rfl
  · unfold slotIn recIn clsIn; rw [L1, L3]
    simp [rawInt]
  · unfold takerIn
    rw [fnd_own hC hN (v := .ref MD) rfl]
    have e1 : takesIn (hfr h) (.ref MD) = some true := by
      have e2 : specialIn (hfr h) (.ref MD) "__set__" = some (some (.builtin "member_descriptor.__set__")) := by
        unfold specialIn; rw [T3]; kernel_rfl
      unfold takesIn; rw [e2]
    show (takesIn (hfr h) (.ref MD)).map _ = _
    rw [e1]; rfl
noncomputable def KeyAt (h : Heap) (C o : Addr) (v : Value) : Prop := ∃ d od, h.get? o = some ⟨.ref C, some d, .plain, #[some v]⟩ ∧ h.get? d = some od
theorem KeyAt.kp {h h' : Heap} {C o : Addr} {v : Value} (x : KeyAt h C o v) (k : Kp h h') : KeyAt h' C o v := by obtain ⟨d, od, a, b⟩ := x; exact ⟨d, od, k _ _ a, k _ _ b⟩
section
variable {w : World} {A : Around} {E : Value → Shared → Prop} {s : Shared} {C : Addr} {mycmp : Value} {MD mc f0 f1 f2 f3 f4 f5 : Addr}
theorem callM {f c : Addr} {name qual : Str} {params : Arguments} {body : List Stmt} {scope : Scope} {cl : List (Str × Addr)} {doc pm ctv : Value} {args : List Value} {binds : List (Str × Value)} {R : Result → Shared → Prop} {n : Nat}
    (ho : s.heap.get? f = some (fnMade name qual params body scope cl doc pm c ctv)) (hcd : s.heap.CodeRec (.ref c) qual) (X : KIn w s.heap) (hr : Rm A n)
    (hbind : BindsTo s (fnX name qual params body scope cl .none .none doc pm none (.ref c) ctv) ⟨args, []⟩ binds) (hloc : ∀ x ∈ binds, scope.names.lookup x.1 = some .local)
    (h : ∀ h₁, Fr s.heap s.heap.objs.size h₁ (fun x => binds.reverse.lookup x) →
      wpAny (MM w) (A.deeper (envX qual scope s.heap.objs.size f (.ref c) cl)) (execs body (envX qual scope s.heap.objs.size f (.ref c) cl)) (fun fl s' => R (.ok (.ret (match fl with | .ret v => v | _ => .none))) s') (fun _ _ => False)
        { s with heap := h₁, toks := s.toks + binds.length })
    (hcell : autoParam (∀ x ∈ scope.names, x.2 ≠ .cell) tcD) (hco : autoParam (scope.isCoroutine = false) tcR) (hgen : autoParam (scope.isGenerator = false) tcR) (hk : autoParam (scope.kind = .function) tcR) :
    codeAny (MM w) A (.call (.ref f) ⟨args, []⟩) R s := by
  refine codeAny_call_def (fd := fnX name qual params body scope cl .none .none doc pm none (.ref c) ctv) (body := body) (binds := binds) hr.room ho rfl (nolimit_K X) hcd rfl hbind hcell hloc (fun h₁ hns hk₁ => ?_) hco hgen hk
  exact wpAny_mono (h h₁ ⟨hns, hk₁, Nat.le_refl _⟩) (fun fl s' x => x) (fun _ _ x => x.elim)
theorem Rm.under {A : Around} {n : Nat} {C : Addr} {vals : List Value} {kw : List (Str × Value)} (x : Rm A (n + 1)) : Rm (A.under (.builtin "type.__call__" ⟨.ref C :: vals, kw⟩)) n := by
  refine ⟨?_, ?_, x.2.2⟩
  · have := x.1; show A.depth + 1 + n ≤ 600; lia
  · have := x.2.1; show A.units + 1 + 10 * n ≤ 6000; lia
theorem lk21 (w : World) : ∃ c d fd sl, (dm.heap_1 w.params).lookup 21 = some ⟨c, d, .func fd, sl⟩ ∧ fd21 w = fd := ⟨_, _, _, _, by k_is, by unfold fd21; kernel_rfl⟩
theorem meth_is {i : Nat} {x y : Str × Arguments × List Stmt × Scope} {c : Value} {d : Option Addr} {fd : FuncData} {sl : Array (Option Value)} (L : (dm.heap_1 w.params).lookup 21 = some ⟨c, d, .func fd, sl⟩) (e : methOf (fd21 w) i = some x) (e' : methOf fd i = some y) : x = y := by
  unfold fd21 at e; rw [L] at e; exact Option.some.inj (e.symm.trans e')
theorem entry_ps_set : entryFor table "proto.slot#set" = some Builtin.«proto.slot#set» := entryFor_of_tree (by kernel_rfl)
end
namespace N_md_set
noncomputable def stX0 (w : World) (A : Around) (s : Shared) (C MD o d : Addr) (v : Value) (N : Addr) (sl : Array (Option Value)) (tk : Tok) (R : Result → Shared → Prop) : Prop := ∀ (hC : s.heap.get? C = some (clK C N [.ref C, .type "object"] false ["obj"] sl)) (hmd : s.heap.get? MD = some ⟨.type "member_descriptor", none, .fields #[.str "obj" tk, .ref C, .builtin "proto.slot", .builtin "proto.slot#set", rawInt 0], #[]⟩) (ho : s.heap.get? o = some (instObj C d)) (h : ∀ h', h'.get? o = some ⟨.ref C, some d, .plain, #[some v]⟩ → Heap.SameBut o s.heap h' → R (.ok (.ret .none)) { s with heap := h' }), codeAny (MM w) A (.call (.builtin "member_descriptor.__set__") ⟨[.ref MD, .ref o, v], []⟩) R s
noncomputable abbrev T := World × Around × Shared × Addr × Addr × Addr × Addr × Value × Addr × (Array (Option Value)) × Tok × (Result → Shared → Prop)
noncomputable def pX (x : T) : Prop := stX0 x.1 x.2.1 x.2.2.1 x.2.2.2.1 x.2.2.2.2.1 x.2.2.2.2.2.1 x.2.2.2.2.2.2.1 x.2.2.2.2.2.2.2.1 x.2.2.2.2.2.2.2.2.1 x.2.2.2.2.2.2.2.2.2.1 x.2.2.2.2.2.2.2.2.2.2.1 x.2.2.2.2.2.2.2.2.2.2.2
noncomputable def cX : T := @Classical.epsilon _ (ne2 neW (ne2 neA (ne2 neS (ne2 neI (ne2 neI (ne2 neI (ne2 neI (ne2 neI (ne2 neI (ne2 neI (ne2 neI neI))))))))))) fun x => ¬ pX x
def w : World := cX.1
def A : Around := cX.2.1
def s : Shared := cX.2.2.1
def C : Addr := cX.2.2.2.1
def MD : Addr := cX.2.2.2.2.1
def o : Addr := cX.2.2.2.2.2.1
def d : Addr := cX.2.2.2.2.2.2.1
def v : Value := cX.2.2.2.2.2.2.2.1
def N : Addr := cX.2.2.2.2.2.2.2.2.1
def sl : Array (Option Value) := cX.2.2.2.2.2.2.2.2.2.1
def tk : Tok := cX.2.2.2.2.2.2.2.2.2.2.1
def R : Result → Shared → Prop := cX.2.2.2.2.2.2.2.2.2.2.2
theorem pfX0 : stX0 w A s C MD o d v N sl tk R := by
  intro hC hmd ho h
  have hT : s.TypeIs (.ref MD) "member_descriptor" := ⟨_, hmd, rfl⟩
  refine codeAny_call_builtin KF.slot_mset.plain KF.entry_mset (KF.slot_mset.check _ _ _ _ _ _ _ _ hT (KF.args_mset _ _ _) ?_)
  unfold Builtin.«member_descriptor.__set__»
  repeat wp_step
  refine isSubC (C := C) hC rfl (r := true) (by simp) ?_
  repeat wp_step
  refine ⟨Code.quiet_builtin _ (by decide +kernel), codeAny_builtin entry_ps_set ?_⟩
  show wpAny _ _ (Builtin.«proto.slot#set» ⟨[.ref o, v, .ref MD], []⟩) _ _ s
  unfold Builtin.«proto.slot#set» Builtin.Slots.target Builtin.Slots.slotNamesOf
  repeat wp_step
  exact h _ (Heap.get?_update_self _ ho rfl) (Heap.SameBut.update ..)
theorem allX (x : T) : pX x := eps (P := pX) pfX0
end N_md_set
theorem md_set {w : World} {A : Around} {s : Shared} {C MD o d : Addr} {v : Value} {N : Addr} {sl : Array (Option Value)} {tk : Tok} {R : Result → Shared → Prop} : N_md_set.stX0 w A s C MD o d v N sl tk R := (N_md_set.allX (w, A, s, C, MD, o, d, v, N, sl, tk, R))
section
variable {w : World} {A : Around} {E : Value → Shared → Prop} {s : Shared} {C : Addr} {mycmp : Value} {MD mc f0 f1 f2 f3 f4 f5 : Addr}
theorem CodeRec.kp {h h' : Heap} {c : Value} {q : Str} (r : h.CodeRec c q) (k : Kp h h') : h'.CodeRec c q := by obtain ⟨a, o, vs, t, e1, e2, r⟩ := r; exact ⟨a, o, vs, t, e1, k _ _ e2, r⟩
theorem meth_fn {h : Heap} {i : Nat} {cl : List (Str × Addr)} {f : Addr} (x : Meth w h i cl f) : typeIn (hfr h) (.ref f) = some (.type "function") := by
  obtain ⟨_, _, _, _, _, _, _, _, _, _, g, _⟩ := x
  unfold typeIn; dsimp only; rw [(hfr_lk h f).trans g]; rfl
end
namespace N_key_newS
noncomputable def stX0 (w : World) (A : Around) (E : Value → Shared → Prop) (C : Addr) (mycmp : Value) (Q : Value → Shared → Prop) (v : Value) (n : Nat) : Prop := ∀ {s : Shared} (K : KCl w s.heap C mycmp) (X : KIn w s.heap) (hr : Rm A (n + 1)) (h : ∀ o h' tk, Kp s.heap h' → (∀ S : List Addr, (∀ a ∈ S, a < s.heap.objs.size) → KeyAt (hideAll h' S) C o v) → s.heap.get? o = none → Q (.ref o) { s with heap := h', toks := tk }), wpAny (MM w) A (call (.ref C) [v]) Q E s
noncomputable abbrev T := World × Around × (Value → Shared → Prop) × Addr × Value × (Value → Shared → Prop) × Value × Nat
noncomputable def pX (x : T) : Prop := stX0 x.1 x.2.1 x.2.2.1 x.2.2.2.1 x.2.2.2.2.1 x.2.2.2.2.2.1 x.2.2.2.2.2.2.1 x.2.2.2.2.2.2.2
noncomputable def cX : T := @Classical.epsilon _ (ne2 neW (ne2 neA (ne2 neI (ne2 neI (ne2 neI (ne2 neI (ne2 neI neI))))))) fun x => ¬ pX x
def w : World := cX.1
def A : Around := cX.2.1
def E : Value → Shared → Prop := cX.2.2.1
def C : Addr := cX.2.2.2.1
def mycmp : Value := cX.2.2.2.2.1
def Q : Value → Shared → Prop := cX.2.2.2.2.2.1
def v : Value := cX.2.2.2.2.2.2.1
def n : Nat := cX.2.2.2.2.2.2.2
theorem pfX0 : stX0 w A E C mycmp Q v n := by
  intro s K X hr h
  obtain ⟨MD, mc, f0, f1, f2, f3, f4, f5, F⟩ := K.fx
  obtain ⟨N, sl, hC⟩ := F.c
  obtain ⟨tk, hmd⟩ := F.mdo
  obtain ⟨hh, g, d, t, os⟩ := s
  dsimp only at *
  have T0 := meth_fn F.me.1
  refine wpAny_call (make_core (makes_of (hfr_in (Kp.refl hh)) F.makes) (looks_findIn (hfr_in (Kp.refl hh)) F.init) (fun self => bind_fn (hfr_in (Kp.refl hh)) self T0) (.inl rfl) ?_)
  obtain ⟨name, params, body, scope, doc, pm, c, ctv, qual, e, hfo, hcode⟩ := F.me.1
  have e' := meth_is (by k_is) e rfl
  cases e'
  have k1 : Kp hh ((hh.push emptyDict).push (instObj C hh.objs.size)) := fun _ _ e => Heap.get?_push_of_some _ (Heap.get?_push_of_some _ e)
  have hx : ((hh.push emptyDict).push (instObj C hh.objs.size)).get? (hh.objs.size + 1) = some (instObj C hh.objs.size) := by heap_get
  have hd : ((hh.push emptyDict).push (instObj C hh.objs.size)).get? hh.objs.size = some emptyDict := Heap.get?_push_of_some _ (Heap.get?_push_size _ rfl)
  generalize (hh.push emptyDict).push (instObj C hh.objs.size) = H1 at k1 hx hd
  refine callM (s := ⟨H1, g, d, t, os⟩) (k1 _ _ hfo) (CodeRec.kp hcode k1) (X.kp k1) hr.under (BindsTo.of_eq rfl) (locs rfl) (fun h₁ F₁ => ?_)
  refine wpAny_execs_cons (plainObj_wpAny_Assign_Attribute (nmL F₁ rfl (nmL F₁ rfl ?_)))
  have k2 : Kp hh h₁ := k1.trans F₁.keep
  have I : InstAt h₁ (hh.objs.size + 1) (instObj C hh.objs.size) C (some emptyDict) := ⟨F₁.keep _ _ hx, rfl, rfl, F₁.keep _ _ hd⟩
  refine set_plain (hfr_in k2) I F.seta (osa_descr (s := ⟨h₁, g, d, _, os⟩) KF.slot_mset (hfr_in k2) I F.over F.taker F.md (md_set (k2 _ _ hC) (k2 _ _ hmd) I.at_ (fun h' ho' hs => ?_)))
  dsimp only
  refine wpAny_execs_nil ?_
  refine ⟨rfl, ?_⟩
  have n0 : hh.get? (hh.objs.size + 1) = none := Heap.get?_none_of_le (Nat.le_succ _)
  refine h _ _ _ (fun b o e => (hs.2 b (fun q => by rw [q, n0] at e; cases e)).trans (k2 _ _ e)) (fun S hS => ⟨_, _, hideAll_get _ ho' (fun q => Nat.not_lt_of_le (Nat.le_succ _) (hS _ q)), hideAll_get _ ((hs.2 _ (Nat.ne_of_lt (Nat.lt_succ_self _))).trans (F₁.keep _ _ hd)) (fun q => Nat.lt_irrefl _ (hS _ q))⟩) n0
theorem allX (x : T) : pX x := eps (P := pX) pfX0
end N_key_newS
theorem key_newS {w : World} {A : Around} {E : Value → Shared → Prop} {C : Addr} {mycmp : Value} {Q : Value → Shared → Prop} {v : Value} {n : Nat} : N_key_newS.stX0 w A E C mycmp Q v n := (N_key_newS.allX (w, A, E, C, mycmp, Q, v, n))
section
variable {w : World} {A : Around} {E : Value → Shared → Prop} {s : Shared} {C : Addr} {mycmp : Value} {MD mc f0 f1 f2 f3 f4 f5 : Addr}
theorem key_new {Q : Value → Shared → Prop} {v : Value} {n : Nat} (K : KCl w s.heap C mycmp) (X : KIn w s.heap) (hr : Rm A (n + 1))
    (h : ∀ o h' tk, Kp s.heap h' → KeyAt h' C o v → s.heap.get? o = none → Q (.ref o) { s with heap := h', toks := tk }) : wpAny (MM w) A (call (.ref C) [v]) Q E s :=
  key_newS K X hr (fun o h' tk k K n => h o h' tk k (K [] (fun _ q => nomatch q)) n)
end
end Mine
namespace Mine
section
variable {w : World} {A : Around} {E : Value → Shared → Prop} {s : Shared} {C : Addr} {mycmp : Value} {MD mc f0 f1 f2 f3 f4 f5 : Addr} {hb : Heap}
theorem KeyAt.inst {h : Heap} {C o : Addr} {v : Value} (x : KeyAt h C o v) : ∃ d od, InstAt h o ⟨.ref C, some d, .plain, #[some v]⟩ C (some od) := by obtain ⟨d, od, a, b⟩ := x; exact ⟨d, od, a, rfl, rfl, b⟩
theorem getObj {Q : Value → Shared → Prop} {o : Addr} {v : Value} {ex : Bool} (F : KFx w hb C mycmp MD mc f0 f1 f2 f3 f4 f5) (k : Kp hb s.heap) (ho : KeyAt s.heap C o v) (hv : handedIn v = true) (h : Q v { s with toks := s.toks + 1 }) :
    wpAny (MM w) A (getAttr (.ref o) "obj" ex) Q E s := by
  obtain ⟨d, od, I⟩ := ho.inst
  have e1 : specialIn (hfr hb) (.ref MD) "__get__" = some (some (.builtin "member_descriptor.__get__")) := by
    unfold specialIn; rw [F.md]; kernel_rfl
  have e2 : takesIn (hfr hb) (.ref MD) = some true := by
    have e2 : specialIn (hfr hb) (.ref MD) "__set__" = some (some (.builtin "member_descriptor.__set__")) := by
      unfold specialIn; rw [F.md]; kernel_rfl
    unfold takesIn; rw [e2]
  exact get_bind (hfr_in k) I F.geta (findObj_data F.cls F.obj e1 e2) F.getb (wpAny_call (slot_get (s := { s with toks := s.toks + 1 }) (hfr_in k) I F.slot rfl (handed_on hv h)))
structure MyC (w : World) (hb : Heap) (f : Addr) (D : Value → Prop) (c : Value → Value → Int) : Prop where
  fn : FnAt hb f
  hd : ∀ v, D v → handedIn v = true
  run : ∀ u v, D u → D v → ∀ (A : Around) (s : Shared) (Q : Value → Shared → Prop) (E : Value → Shared → Prop), Rm A 4 → Kp hb s.heap →
    (∀ h' tk t, Kp s.heap h' → Q (.int (c u v) t) { s with heap := h', toks := tk }) → wpAny (MM w) A (call (.ref f) [u, v]) Q E s
theorem meth_lt {Q : Value → Shared → Prop} {f a b : Addr} {u v : Value} {D : Value → Prop} {c : Value → Value → Int} (F : KFx w hb C (.ref f) MD mc f0 f1 f2 f3 f4 f5) (X : KIn w hb) (M : MyC w hb f D c) (hr : Rm A 5) (k : Kp hb s.heap)
    (ha : KeyAt s.heap C a u) (hb' : KeyAt s.heap C b v) (du : D u) (dv : D v) (h : ∀ h' tk, Kp s.heap h' → Q (.bool (decide (c u v < 0))) { s with heap := h', toks := tk }) :
    wpAny (MM w) A (call (.ref f1) [.ref a, .ref b]) Q E s := by
  obtain ⟨name, params, body, scope, doc, pm, cd, ctv, qual, e, hfo, hcode⟩ := F.me.2.1
  have e' := meth_is (by k_is) e rfl
  cases e'
  refine wpAny_call (callM (k _ _ hfo) (CodeRec.kp hcode k) (X.kp k) hr (BindsTo.of_eq rfl) (locs rfl) (fun h₁ F₁ => ?_))
  have kf : Kp s.heap h₁ := F₁.keep
  have k1 : Kp hb h₁ := k.trans kf
  have ha1 := ha.kp kf
  have hb1 := hb'.kp kf
  obtain ⟨oc, hmc1, hmc2⟩ := F.cell
  refine wpAny_execs_cons (wpAny_Return_some (wpAny_Compare1 (Call_ (wpAny_Name (wpAny_loadName_free (c := mc) rfl rfl rfl ⟨oc, k1 _ _ hmc1, hmc2⟩ (callWith_F (args_cons (Attribute_name (nmL F₁ rfl (getObj F k1 ha1 (M.hd _ du)
    (args_cons (Attribute_name (nmL F₁ rfl (getObj F k1 hb1 (M.hd _ dv) (args_nil ⟨M.fn.kp k1, ?_⟩)))))))))))))))
  refine M.run u v du dv _ _ _ _ (hr.deep _) k1 (fun h2 tk2 t2 k2 => ?_)
  refine wpAny_Constant_int (PyProof.Rows.lt_int ?_)
  exact h _ _ (kf.trans k2)
theorem meth_gt {Q : Value → Shared → Prop} {f a b : Addr} {u v : Value} {D : Value → Prop} {c : Value → Value → Int} (F : KFx w hb C (.ref f) MD mc f0 f1 f2 f3 f4 f5) (X : KIn w hb) (M : MyC w hb f D c) (hr : Rm A 5) (k : Kp hb s.heap)
    (ha : KeyAt s.heap C a u) (hb' : KeyAt s.heap C b v) (du : D u) (dv : D v) (h : ∀ h' tk, Kp s.heap h' → Q (.bool (decide (0 < c u v))) { s with heap := h', toks := tk }) :
    wpAny (MM w) A (call (.ref f2) [.ref a, .ref b]) Q E s := by
  obtain ⟨name, params, body, scope, doc, pm, cd, ctv, qual, e, hfo, hcode⟩ := F.me.2.2.1
  have e' := meth_is (by k_is) e rfl
  cases e'
  refine wpAny_call (callM (k _ _ hfo) (CodeRec.kp hcode k) (X.kp k) hr (BindsTo.of_eq rfl) (locs rfl) (fun h₁ F₁ => ?_))
  have kf : Kp s.heap h₁ := F₁.keep
  have k1 : Kp hb h₁ := k.trans kf
  have ha1 := ha.kp kf
  have hb1 := hb'.kp kf
  obtain ⟨oc, hmc1, hmc2⟩ := F.cell
  refine wpAny_execs_cons (wpAny_Return_some (wpAny_Compare1 (Call_ (wpAny_Name (wpAny_loadName_free (c := mc) rfl rfl rfl ⟨oc, k1 _ _ hmc1, hmc2⟩ (callWith_F (args_cons (Attribute_name (nmL F₁ rfl (getObj F k1 ha1 (M.hd _ du)
    (args_cons (Attribute_name (nmL F₁ rfl (getObj F k1 hb1 (M.hd _ dv) (args_nil ⟨M.fn.kp k1, ?_⟩)))))))))))))))
  refine M.run u v du dv _ _ _ _ (hr.deep _) k1 (fun h2 tk2 t2 k2 => ?_)
  refine wpAny_Constant_int (PyProof.Rows.gt_int ?_)
  exact h _ _ (kf.trans k2)
theorem meth_eq {Q : Value → Shared → Prop} {f a b : Addr} {u v : Value} {D : Value → Prop} {c : Value → Value → Int} (F : KFx w hb C (.ref f) MD mc f0 f1 f2 f3 f4 f5) (X : KIn w hb) (M : MyC w hb f D c) (hr : Rm A 5) (k : Kp hb s.heap)
    (ha : KeyAt s.heap C a u) (hb' : KeyAt s.heap C b v) (du : D u) (dv : D v) (h : ∀ h' tk, Kp s.heap h' → Q (.bool (c u v == 0)) { s with heap := h', toks := tk }) :
    wpAny (MM w) A (call (.ref f3) [.ref a, .ref b]) Q E s := by
  obtain ⟨name, params, body, scope, doc, pm, cd, ctv, qual, e, hfo, hcode⟩ := F.me.2.2.2.1
  have e' := meth_is (by k_is) e rfl
  cases e'
  refine wpAny_call (callM (k _ _ hfo) (CodeRec.kp hcode k) (X.kp k) hr (BindsTo.of_eq rfl) (locs rfl) (fun h₁ F₁ => ?_))
  have kf : Kp s.heap h₁ := F₁.keep
  have k1 : Kp hb h₁ := k.trans kf
  have ha1 := ha.kp kf
  have hb1 := hb'.kp kf
  obtain ⟨oc, hmc1, hmc2⟩ := F.cell
  refine wpAny_execs_cons (wpAny_Return_some (wpAny_Compare1 (Call_ (wpAny_Name (wpAny_loadName_free (c := mc) rfl rfl rfl ⟨oc, k1 _ _ hmc1, hmc2⟩ (callWith_F (args_cons (Attribute_name (nmL F₁ rfl (getObj F k1 ha1 (M.hd _ du)
    (args_cons (Attribute_name (nmL F₁ rfl (getObj F k1 hb1 (M.hd _ dv) (args_nil ⟨M.fn.kp k1, ?_⟩)))))))))))))))
  refine M.run u v du dv _ _ _ _ (hr.deep _) k1 (fun h2 tk2 t2 k2 => ?_)
  refine wpAny_Constant_int (PyProof.Rows.eq_int ?_)
  exact h _ _ (kf.trans k2)
theorem meth_le {Q : Value → Shared → Prop} {f a b : Addr} {u v : Value} {D : Value → Prop} {c : Value → Value → Int} (F : KFx w hb C (.ref f) MD mc f0 f1 f2 f3 f4 f5) (X : KIn w hb) (M : MyC w hb f D c) (hr : Rm A 5) (k : Kp hb s.heap)
    (ha : KeyAt s.heap C a u) (hb' : KeyAt s.heap C b v) (du : D u) (dv : D v) (h : ∀ h' tk, Kp s.heap h' → Q (.bool (decide (c u v ≤ 0))) { s with heap := h', toks := tk }) :
    wpAny (MM w) A (call (.ref f4) [.ref a, .ref b]) Q E s := by
  obtain ⟨name, params, body, scope, doc, pm, cd, ctv, qual, e, hfo, hcode⟩ := F.me.2.2.2.2.1
  have e' := meth_is (by k_is) e rfl
  cases e'
  refine wpAny_call (callM (k _ _ hfo) (CodeRec.kp hcode k) (X.kp k) hr (BindsTo.of_eq rfl) (locs rfl) (fun h₁ F₁ => ?_))
  have kf : Kp s.heap h₁ := F₁.keep
  have k1 : Kp hb h₁ := k.trans kf
  have ha1 := ha.kp kf
  have hb1 := hb'.kp kf
  obtain ⟨oc, hmc1, hmc2⟩ := F.cell
  refine wpAny_execs_cons (wpAny_Return_some (wpAny_Compare1 (Call_ (wpAny_Name (wpAny_loadName_free (c := mc) rfl rfl rfl ⟨oc, k1 _ _ hmc1, hmc2⟩ (callWith_F (args_cons (Attribute_name (nmL F₁ rfl (getObj F k1 ha1 (M.hd _ du)
    (args_cons (Attribute_name (nmL F₁ rfl (getObj F k1 hb1 (M.hd _ dv) (args_nil ⟨M.fn.kp k1, ?_⟩)))))))))))))))
  refine M.run u v du dv _ _ _ _ (hr.deep _) k1 (fun h2 tk2 t2 k2 => ?_)
  refine wpAny_Constant_int (PyProof.Rows.le_int ?_)
  exact h _ _ (kf.trans k2)
theorem meth_ge {Q : Value → Shared → Prop} {f a b : Addr} {u v : Value} {D : Value → Prop} {c : Value → Value → Int} (F : KFx w hb C (.ref f) MD mc f0 f1 f2 f3 f4 f5) (X : KIn w hb) (M : MyC w hb f D c) (hr : Rm A 5) (k : Kp hb s.heap)
    (ha : KeyAt s.heap C a u) (hb' : KeyAt s.heap C b v) (du : D u) (dv : D v) (h : ∀ h' tk, Kp s.heap h' → Q (.bool (decide (0 ≤ c u v))) { s with heap := h', toks := tk }) :
    wpAny (MM w) A (call (.ref f5) [.ref a, .ref b]) Q E s := by
  obtain ⟨name, params, body, scope, doc, pm, cd, ctv, qual, e, hfo, hcode⟩ := F.me.2.2.2.2.2
  have e' := meth_is (by k_is) e rfl
  cases e'
  refine wpAny_call (callM (k _ _ hfo) (CodeRec.kp hcode k) (X.kp k) hr (BindsTo.of_eq rfl) (locs rfl) (fun h₁ F₁ => ?_))
  have kf : Kp s.heap h₁ := F₁.keep
  have k1 : Kp hb h₁ := k.trans kf
  have ha1 := ha.kp kf
  have hb1 := hb'.kp kf
  obtain ⟨oc, hmc1, hmc2⟩ := F.cell
  refine wpAny_execs_cons (wpAny_Return_some (wpAny_Compare1 (Call_ (wpAny_Name (wpAny_loadName_free (c := mc) rfl rfl rfl ⟨oc, k1 _ _ hmc1, hmc2⟩ (callWith_F (args_cons (Attribute_name (nmL F₁ rfl (getObj F k1 ha1 (M.hd _ du)
    (args_cons (Attribute_name (nmL F₁ rfl (getObj F k1 hb1 (M.hd _ dv) (args_nil ⟨M.fn.kp k1, ?_⟩)))))))))))))))
  refine M.run u v du dv _ _ _ _ (hr.deep _) k1 (fun h2 tk2 t2 k2 => ?_)
  refine wpAny_Constant_int (PyProof.Rows.ge_int ?_)
  exact h _ _ (kf.trans k2)
end
end Mine
end
noncomputable section
set_option maxHeartbeats 4000000

namespace Mine
noncomputable def sdF {α : Type} (c : α → α → Bool) (d : α) (start : Nat) (x : α) : Nat → List α → Nat → List α
  | 0, xs, pos => xs.set pos x
  | f + 1, xs, pos => if start < pos then
      if c x (xs.getD ((pos - 1) / 2) d) then sdF c d start x f (xs.set pos (xs.getD ((pos - 1) / 2) d)) ((pos - 1) / 2) else xs.set pos x
    else xs.set pos x
noncomputable def sd {α : Type} (c : α → α → Bool) (d : α) (start : Nat) (x : α) (xs : List α) (pos : Nat) : List α := sdF c d start x pos xs pos
noncomputable def suF {α : Type} (g : α → α → Bool) (d : α) (e : Nat) : Nat → List α → Nat → List α × Nat
  | 0, xs, pos => (xs, pos)
  | f + 1, xs, pos => if 2 * pos + 1 < e then
      if decide (2 * pos + 2 < e) && !g (xs.getD (2 * pos + 1) d) (xs.getD (2 * pos + 2) d) then suF g d e f (xs.set pos (xs.getD (2 * pos + 2) d)) (2 * pos + 2)
      else suF g d e f (xs.set pos (xs.getD (2 * pos + 1) d)) (2 * pos + 1)
    else (xs, pos)
noncomputable def su {α : Type} (g : α → α → Bool) (d : α) (e : Nat) (xs : List α) (pos : Nat) : List α × Nat := suF g d e (e - pos) xs pos
section
variable {α : Type} {c : α → α → Bool} {d x : α} {s e : Nat}
theorem sdF_eq : ∀ (f g : Nat) (xs : List α) (pos : Nat), pos ≤ f → pos ≤ g → sdF c d s x f xs pos = sdF c d s x g xs pos
  | 0, 0, _, _, _, _ => rfl
  | 0, g + 1, xs, pos, h, _ => (if_neg (by rw [Nat.le_zero.mp h]; exact Nat.not_lt_zero s)).symm
  | f + 1, 0, xs, pos, _, h => if_neg (by rw [Nat.le_zero.mp h]; exact Nat.not_lt_zero s)
  | f + 1, g + 1, xs, pos, h, k => by
    have z : (pos - 1) / 2 ≤ pos - 1 := Nat.div_le_self _ _
    show (if s < pos then if c x _ then sdF c d s x f _ _ else _ else _) = (if s < pos then if c x _ then sdF c d s x g _ _ else _ else _)
    rw [sdF_eq f g _ _ (Nat.le_trans z (Nat.sub_le_of_le_add h)) (Nat.le_trans z (Nat.sub_le_of_le_add k))]
theorem sd_eq (xs : List α) (pos : Nat) : sd c d s x xs pos = if s < pos then
    if c x (xs.getD ((pos - 1) / 2) d) then sd c d s x (xs.set pos (xs.getD ((pos - 1) / 2) d)) ((pos - 1) / 2) else xs.set pos x
    else xs.set pos x := by
  cases pos with
  | zero => exact (if_neg (Nat.not_lt_zero s)).symm
  | succ p =>
    show (if s < p + 1 then if c x _ then sdF c d s x p _ _ else _ else _) = _
    rw [sdF_eq p ((p + 1 - 1) / 2) _ ((p + 1 - 1) / 2) (Nat.div_le_self p 2) (Nat.le_refl _)]
    rfl
theorem suF_eq : ∀ (f g : Nat) (xs : List α) (pos : Nat), e - pos ≤ f → e - pos ≤ g → suF c d e f xs pos = suF c d e g xs pos
  | 0, 0, _, _, _, _ => rfl
  | 0, g + 1, xs, pos, h, _ => (if_neg (by lia)).symm
  | f + 1, 0, xs, pos, _, h => if_neg (by lia)
  | f + 1, g + 1, xs, pos, h, k => by
    show (if 2 * pos + 1 < e then if _ then suF c d e f _ _ else suF c d e f _ _ else _) = (if 2 * pos + 1 < e then if _ then suF c d e g _ _ else suF c d e g _ _ else _)
    by_cases q : 2 * pos + 1 < e
    · have z : e - (2 * pos + 1) < e - pos := Nat.sub_lt_sub_left (by lia) (by lia)
      have z1 := Nat.le_of_lt_succ (Nat.lt_of_lt_of_le z h)
      have z2 := Nat.le_of_lt_succ (Nat.lt_of_lt_of_le z k)
      have y : e - (2 * pos + 2) ≤ e - (2 * pos + 1) := Nat.sub_le_sub_left (Nat.le_succ _) _
      rw [suF_eq f g _ _ z1 z2, suF_eq f g _ _ (Nat.le_trans y z1) (Nat.le_trans y z2)]
    · rw [if_neg q, if_neg q]
theorem su_eq (xs : List α) (pos : Nat) : su c d e xs pos = if 2 * pos + 1 < e then
    if decide (2 * pos + 2 < e) && !c (xs.getD (2 * pos + 1) d) (xs.getD (2 * pos + 2) d) then su c d e (xs.set pos (xs.getD (2 * pos + 2) d)) (2 * pos + 2)
    else su c d e (xs.set pos (xs.getD (2 * pos + 1) d)) (2 * pos + 1)
    else (xs, pos) := by
  show suF c d e (e - pos) xs pos = _
  rw [suF_eq (e - pos) (e - pos + 1) xs pos (Nat.le_refl _) (Nat.le_succ _)]
  show (if 2 * pos + 1 < e then if _ then suF c d e (e - pos) _ _ else suF c d e (e - pos) _ _ else _) = (if 2 * pos + 1 < e then if _ then suF c d e (e - (2 * pos + 2)) _ _ else suF c d e (e - (2 * pos + 1)) _ _ else _)
  have z : e - (2 * pos + 1) ≤ e - pos := Nat.sub_le_sub_left (by lia) _
  rw [suF_eq (e - pos) (e - (2 * pos + 2)) _ _ (Nat.le_trans (Nat.sub_le_sub_left (Nat.le_succ _) _) z) (Nat.le_refl _), suF_eq (e - pos) (e - (2 * pos + 1)) _ _ z (Nat.le_refl _)]
end
noncomputable def sup {α : Type} (g c : α → α → Bool) (d : α) (x : α) (xs : List α) (pos : Nat) : List α :=
  sd c d pos x ((su g d xs.length xs pos).1.set (su g d xs.length xs pos).2 x) (su g d xs.length xs pos).2

structure SWO {α : Type} (lt : α → α → Bool) : Prop where
  irr : ∀ a, lt a a = false
  tr : ∀ {a b c}, lt a b = true → lt b c = true → lt a c = true
  neg : ∀ {a b c}, lt b a = false → lt c b = false → lt c a = false
section
variable {α : Type} {lt : α → α → Bool} {d : α}
theorem SWO.asym (S : SWO lt) {a b : α} (h : lt a b = true) : lt b a = false := by
  cases q : lt b a with
  | false => rfl
  | true => exact absurd (S.tr h q) (by rw [S.irr]; decide)
theorem SWO.flip (S : SWO lt) : SWO (fun a b => lt b a) := ⟨S.irr, fun h k => S.tr k h, fun h k => S.neg k h⟩
theorem getD_set (xs : List α) (i j : Nat) (v : α) : (xs.set i v).getD j d = if i = j ∧ j < xs.length then v else xs.getD j d := by
  simp only [List.getD_eq_getElem?_getD, List.getElem?_set]
  by_cases h : i = j
  · subst h
    by_cases hl : i < xs.length
    · simp [hl]
    · simp [hl]
  · simp [h]
noncomputable def Hp (lt : α → α → Bool) (d : α) (s : Nat) (xs : List α) : Prop := ∀ i, 0 < i → i < xs.length → s ≤ (i - 1) / 2 → lt (xs.getD i d) (xs.getD ((i - 1) / 2) d) = false
inductive Up (s : Nat) : Nat → Prop
  | refl : Up s s
  | up {q : Nat} : s < q → Up s ((q - 1) / 2) → Up s q
theorem Up.le {s q : Nat} (h : Up s q) : s ≤ q := by cases h with | refl => exact Nat.le_refl _ | up h _ => lia
theorem Up.child {s q i : Nat} (h : Up s q) (h0 : 0 < i) (e : (i - 1) / 2 = q) : Up s i := .up (by have := h.le; lia) (e ▸ h)
theorem swap_perm {ys : List α} {p pos : Nat} {x : α} (hp : p < ys.length) (hq : pos < ys.length) (ne : p ≠ pos) : ((ys.set pos (ys.getD p d)).set p x).Perm (ys.set pos x) := by
  have h := List.set_set_perm (as := ys.set pos x) (i := pos) (j := p) (by simpa using hq) (by simpa using hp)
  have e1 : (ys.set pos x)[p]'(by simpa using hp) = ys.getD p d := by
    rw [List.getElem_set_ne (Ne.symm ne)]; simp [List.getD_eq_getElem?_getD, hp]
  have e2 : (ys.set pos x)[pos]'(by simpa using hq) = x := by simp
  rw [e1, e2, List.set_set] at h
  exact h
theorem sd_len (c : α → α → Bool) (d : α) (s : Nat) (x : α) : ∀ (pos : Nat) (ys : List α), (sd c d s x ys pos).length = ys.length := by
  intro pos
  induction pos using Nat.strongRecOn with
  | _ pos ih =>
    intro ys
    rw [sd_eq]
    split
    · split
      · rw [ih _ (by lia)]; simp
      · simp
    · simp
theorem sd_perm (c : α → α → Bool) (d : α) (s : Nat) (x : α) : ∀ (pos : Nat) (ys : List α), pos < ys.length → (sd c d s x ys pos).Perm (ys.set pos x) := by
  intro pos
  induction pos using Nat.strongRecOn with
  | _ pos ih =>
    intro ys hl
    rw [sd_eq]
    split
    · split
      · exact (ih _ (by lia) _ (by simp; lia)).trans (swap_perm (by lia) hl (by lia))
      · exact .refl _
    · exact .refl _
theorem sd_heap (S : SWO lt) (s : Nat) (x : α) : ∀ (pos : Nat) (ys : List α), pos < ys.length → Up s pos →
    (∀ i, 0 < i → i < ys.length → s ≤ (i - 1) / 2 → i ≠ pos → lt ((ys.set pos x).getD i d) ((ys.set pos x).getD ((i - 1) / 2) d) = false) →
    (∀ i, 0 < i → i < ys.length → (i - 1) / 2 = pos → 0 < pos → s ≤ (pos - 1) / 2 → lt (ys.getD i d) (ys.getD ((pos - 1) / 2) d) = false) →
    Hp lt d s (sd lt d s x ys pos) := by
  intro pos
  induction pos using Nat.strongRecOn with
  | _ pos ih =>
    intro ys hl hu hA hB
    have fin : (∀ i, i = pos → 0 < i → s ≤ (i - 1) / 2 → lt x (ys.getD ((pos - 1) / 2) d) = false) → Hp lt d s (ys.set pos x) := by
      intro hx i h0 hi hs
      by_cases e : i = pos
      · have := hx i e h0 hs
        subst e
        rw [getD_set, getD_set, if_pos ⟨rfl, hl⟩, if_neg (by lia)]
        exact this
      · exact hA i h0 (by simpa using hi) hs e
    rw [sd_eq]
    split
    · rename_i hsp
      have hp : (pos - 1) / 2 < pos := by lia
      have hus : s ≤ (pos - 1) / 2 := by
        cases hu with
        | refl => lia
        | up _ h => exact h.le
      have hup : Up s ((pos - 1) / 2) := by
        cases hu with
        | refl => lia
        | up _ h => exact h
      split
      · rename_i hc
        refine ih _ hp _ (by simp; lia) hup ?_ ?_
        · intro i h0 hi hs hne
          have hi' : i < ys.length := by simpa using hi
          by_cases e1 : i = pos
          · subst e1
            simp only [getD_set, List.length_set]
            rw [if_neg (by lia), if_pos ⟨by trivial, by lia⟩, if_pos ⟨by trivial, by lia⟩]
            exact S.asym hc
          · by_cases e2 : (i - 1) / 2 = pos
            · have hb := hB i h0 hi' e2 (by lia) hus
              simp only [getD_set, List.length_set]
              rw [if_neg (by lia), if_neg (by lia), if_neg (by lia), if_pos ⟨e2.symm, by lia⟩]
              exact hb
            · have ha := hA i h0 hi' hs e1
              simp only [getD_set, List.length_set] at ha ⊢
              rw [if_neg (by lia), if_neg (by lia)] at ha
              by_cases e3 : (i - 1) / 2 = (pos - 1) / 2
              · rw [if_neg (by lia), if_neg (by lia), if_pos ⟨e3.symm, by lia⟩]
                rw [e3] at ha
                exact S.neg (S.asym hc) ha
              · rw [if_neg (by lia), if_neg (by lia), if_neg (by lia), if_neg (by lia)]
                exact ha
        · intro i h0 hi hpi hp0 hs
          have hi' : i < ys.length := by simpa using hi
          have hg := hA ((pos - 1) / 2) hp0 (by lia) hs (by lia)
          simp only [getD_set] at hg
          rw [if_neg (by lia), if_neg (by lia)] at hg
          simp only [getD_set]
          rw [if_neg (c := pos = ((pos - 1) / 2 - 1) / 2 ∧ _) (by lia)]
          by_cases e1 : i = pos
          · rw [if_pos ⟨e1.symm, by lia⟩]
            exact hg
          · have ha := hA i h0 hi' (by lia) e1
            simp only [getD_set] at ha
            rw [if_neg (by lia), if_neg (by lia), hpi] at ha
            rw [if_neg (by lia)]
            exact S.neg hg ha
      · rename_i hc
        exact fin (fun _ _ _ _ => by simpa using hc)
    · rename_i hsp
      refine fin (fun i e h0 hs => ?_)
      cases hu with
      | refl => lia
      | up h _ => lia
theorem su_spec (S : SWO lt) (s : Nat) (x : α) (n : Nat) (T : List α) : ∀ (k q : Nat) (ys : List α), n - q = k → ys.length = n → q < n → Up s q → (ys.set q x).Perm T →
    (∀ i, 0 < i → i < n → s ≤ (i - 1) / 2 → i ≠ q → (i - 1) / 2 ≠ q → lt (ys.getD i d) (ys.getD ((i - 1) / 2) d) = false) →
    (∀ i, 0 < i → i < n → (i - 1) / 2 = q → s < q → lt (ys.getD i d) (ys.getD ((q - 1) / 2) d) = false) →
    (su lt d n ys q).1.length = n ∧ (su lt d n ys q).2 < n ∧ Up s (su lt d n ys q).2 ∧ ((su lt d n ys q).1.set (su lt d n ys q).2 x).Perm T ∧ n ≤ 2 * (su lt d n ys q).2 + 1 ∧
    (∀ i, 0 < i → i < n → s ≤ (i - 1) / 2 → i ≠ (su lt d n ys q).2 → (i - 1) / 2 ≠ (su lt d n ys q).2 → lt ((su lt d n ys q).1.getD i d) ((su lt d n ys q).1.getD ((i - 1) / 2) d) = false) := by
  intro k
  induction k using Nat.strongRecOn with
  | _ k ih =>
    intro q ys hk hn hq hu hT hA hB
    have step : ∀ ch, ch < n → 0 < ch → (ch - 1) / 2 = q → (∀ i, 0 < i → i < n → (i - 1) / 2 = q → i ≠ ch → lt (ys.getD i d) (ys.getD ch d) = false) →
        (su lt d n (ys.set q (ys.getD ch d)) ch).1.length = n ∧ (su lt d n (ys.set q (ys.getD ch d)) ch).2 < n ∧ Up s (su lt d n (ys.set q (ys.getD ch d)) ch).2 ∧ ((su lt d n (ys.set q (ys.getD ch d)) ch).1.set (su lt d n (ys.set q (ys.getD ch d)) ch).2 x).Perm T ∧ n ≤ 2 * (su lt d n (ys.set q (ys.getD ch d)) ch).2 + 1 ∧
        (∀ i, 0 < i → i < n → s ≤ (i - 1) / 2 → i ≠ (su lt d n (ys.set q (ys.getD ch d)) ch).2 → (i - 1) / 2 ≠ (su lt d n (ys.set q (ys.getD ch d)) ch).2 → lt ((su lt d n (ys.set q (ys.getD ch d)) ch).1.getD i d) ((su lt d n (ys.set q (ys.getD ch d)) ch).1.getD ((i - 1) / 2) d) = false) := by
      intro ch hc h0 hpc hsm
      refine ih (n - ch) (by lia) ch _ rfl (by simp [hn]) hc (hu.child h0 hpc) ((swap_perm (by lia) (by lia) (by lia)).trans hT) ?_ ?_
      · intro i i0 hi hs hne hpe
        simp only [getD_set]
        by_cases e1 : i = q
        · rw [if_pos ⟨e1.symm, by lia⟩, if_neg (by lia), e1]
          exact hB ch h0 hc hpc (by have := hu.le; lia)
        · rw [if_neg (by lia)]
          by_cases e2 : (i - 1) / 2 = q
          · rw [if_pos ⟨e2.symm, by lia⟩]
            exact hsm i i0 hi e2 hne
          · rw [if_neg (by lia)]
            exact hA i i0 hi hs e1 e2
      · intro i i0 hi hpi hsq
        simp only [getD_set]
        rw [if_neg (by lia), if_pos ⟨hpc.symm, by lia⟩]
        have := hA i i0 hi (by have := hu.le; lia) (by lia) (by lia)
        rw [hpi] at this
        exact this
    rw [su_eq]
    split
    · rename_i h1
      split
      · rename_i h2
        simp only [Bool.and_eq_true, decide_eq_true_eq, Bool.not_eq_true'] at h2
        refine step (2 * q + 2) h2.1 (by lia) (by lia) (fun i i0 hi hpi hne => ?_)
        have : i = 2 * q + 1 := by lia
        subst this
        exact h2.2
      · rename_i h2
        simp only [Bool.and_eq_true, decide_eq_true_eq, Bool.not_eq_true', not_and, Bool.not_eq_false] at h2
        refine step (2 * q + 1) h1 (by lia) (by lia) (fun i i0 hi hpi hne => ?_)
        have : i = 2 * q + 2 := by lia
        subst this
        exact S.asym (h2 hi)
    · rename_i h1
      exact ⟨hn, hq, hu, hT, by lia, fun i i0 hi hs hne hpe => hA i i0 hi hs hne hpe⟩
theorem sup_spec (S : SWO lt) {xs : List α} {pos : Nat} {x : α} (hp : pos < xs.length) (hx : xs.set pos x = xs) (H : Hp lt d (pos + 1) xs) : Hp lt d pos (sup lt lt d x xs pos) ∧ (sup lt lt d x xs pos).Perm xs := by
  obtain ⟨a1, a2, a3, a4, a5, a6⟩ := su_spec (d := d) S pos x xs.length xs (xs.length - pos) pos xs rfl rfl hp .refl (by rw [hx]) (fun i i0 hi hs hne hpe => H i i0 hi (by lia)) (fun i i0 hi hpi hsq => absurd hsq (Nat.lt_irrefl _))
  unfold sup
  generalize su lt d xs.length xs pos = T at a1 a2 a3 a4 a5 a6
  refine ⟨sd_heap S pos x _ _ (by simp; lia) a3 ?_ ?_, (sd_perm lt d pos x _ _ (by simp; lia)).trans (by rw [List.set_set]; exact a4)⟩
  · intro i i0 hi hs hne
    have hi' : i < xs.length := by simp at hi; lia
    simp only [List.set_set, getD_set]
    rw [if_neg (by lia), if_neg (by lia)]
    exact a6 i i0 hi' hs hne (by lia)
  · intro i i0 hi hpi h0 hs
    simp at hi
    lia
theorem Hp.root (S : SWO lt) {xs : List α} (H : Hp lt d 0 xs) : ∀ i, i < xs.length → lt (xs.getD i d) (xs.getD 0 d) = false := by
  intro i
  induction i using Nat.strongRecOn with
  | _ i ih =>
    intro hi
    by_cases h0 : i = 0
    · subst h0; exact S.irr _
    · have h1 := H i (by lia) hi (by lia)
      have h2 := ih ((i - 1) / 2) (by lia) (by lia)
      exact S.neg h2 h1
theorem Hp.big (xs : List α) : Hp lt d (xs.length / 2) xs := fun i i0 hi hs => by lia
theorem push_spec (S : SWO lt) {xs : List α} {x : α} (H : Hp lt d 0 xs) : Hp lt d 0 (sd lt d 0 x (xs ++ [x]) xs.length) ∧ (sd lt d 0 x (xs ++ [x]) xs.length).Perm (xs ++ [x]) := by
  have e : (xs ++ [x]).set xs.length x = xs ++ [x] := by simp
  have up : ∀ q, Up 0 q := fun q => by
    induction q using Nat.strongRecOn with
    | _ q ih => by_cases h : q = 0
                · subst h; exact .refl
                · exact .up (by lia) (ih _ (by lia))
  have g : ∀ i, i < xs.length → (xs ++ [x]).getD i d = xs.getD i d := fun i hi => by simp [List.getD_eq_getElem?_getD, List.getElem?_append, hi]
  refine ⟨sd_heap S 0 x _ _ (by simp) (up _) ?_ ?_, by have := sd_perm lt d 0 x xs.length (xs ++ [x]) (by simp); rwa [e] at this⟩
  · intro i i0 hi hs hne
    rw [e]
    have hi' : i < xs.length := by simp at hi; lia
    rw [g i hi', g _ (by lia)]
    exact H i i0 hi' hs
  · intro i i0 hi hpi h0 hs
    simp at hi
    lia
end
end Mine
namespace Mine
open PySem PySem.W PyProof.Rows
noncomputable def KOk {α : Type} (c : Nat → Nat → Bool) (n : Nat) : KasT α → (α → Prop) → Prop
  | .ret a, G => G a
  | .ask i j k, G => i < n ∧ j < n ∧ KOk c n (k (c i j)) G
theorem KOk.bind {α β : Type} {c : Nat → Nat → Bool} {n : Nat} {f : α → KasT β} {G : β → Prop} : ∀ {t : KasT α}, KOk c n t (fun a => KOk c n (f a) G) → KOk c n (t.bind f) G
  | .ret _, h => h
  | .ask i j k, h => ⟨h.1, h.2.1, KOk.bind (t := k (c i j)) h.2.2⟩
theorem KOk.wp {α : Type} {c : Nat → Nat → Bool} {n : Nat} {G : α → Prop} {cmp : Nat → Nat → (Bool → Shared → Prop) → Shared → Prop} {R : Shared → Prop} {Q : α → Shared → Prop}
    (hc : ∀ i j s C, i < n → j < n → R s → (∀ s', R s' → C (c i j) s') → cmp i j C s) (hQ : ∀ a s, G a → R s → Q a s) : ∀ (t : KasT α) (s : Shared), KOk c n t G → R s → t.kasWp cmp Q s
  | .ret a, s, h, r => hQ a s h r
  | .ask i j k, s, h, r => hc i j s _ h.1 h.2.1 r (fun s' r' => KOk.wp hc hQ (k (c i j)) s' h.2.2 r')
section
variable {c : Nat → Nat → Bool}
noncomputable def tl (c : Nat → Nat → Bool) (a b : Nat) : Prop := c a b = true ∨ (c b a = false ∧ a < b)
theorem tl.le (S : SWO c) {a b : Nat} (h : tl c a b) : c b a = false := by
  rcases h with h | h
  · exact S.asym h
  · exact h.1
noncomputable abbrev gt (p : Array Nat) (k : Nat) : Nat := p.getD k 0
theorem rev_at {p : Array Nat} {i j : Nat} (hj : j ≤ p.size) (k : Nat) : gt (kas_rev p i j) k = if i ≤ k ∧ k < j then gt p (i + j - 1 - k) else gt p k := by
  unfold gt kas_rev
  simp only [Array.getD_eq_getD_getElem?, getElem?_mirror_all hj]
  split <;> rfl
theorem bub_at {p : Array Nat} {k l : Nat} (hk : k < p.size) (hl : l ≤ k) (i : Nat) : gt (bubble p k (k - l)) i = if i = l then gt p k else if l < i ∧ i ≤ k then gt p (i - 1) else gt p i := by
  unfold gt
  simp only [Array.getD_eq_getD_getElem?, getElem?_bubble hk (k - l) (by lia)]
  rw [show k - (k - l) = l by lia]
  split
  · rfl
  · split <;> rfl
structure Iv (n : Nat) (p : Array Nat) (m : Nat) : Prop where
  sz : p.size = n
  pm : p.toList.Perm (List.range n)
  tail : ∀ k, m ≤ k → k < n → gt p k = k
  low : ∀ k, k < m → gt p k < m
  le : m ≤ n
noncomputable def St (c : Nat → Nat → Bool) (p : Array Nat) (m : Nat) : Prop := ∀ i j, i < j → j < m → tl c (gt p i) (gt p j)
theorem Iv.one {n m : Nat} {p : Array Nat} (I : Iv n p m) (h : m < n) : Iv n p (m + 1) :=
  ⟨I.sz, I.pm, fun k hk hn => I.tail k (by lia) hn, fun k hk => by
    by_cases e : k = m
    · subst e; rw [I.tail k (Nat.le_refl _) h]; lia
    · have := I.low k (by lia); lia, h⟩
theorem Iv.lt {n m : Nat} {p : Array Nat} (I : Iv n p m) {k : Nat} (hk : k < n) : gt p k < n := by
  by_cases h : k < m
  · have := I.low k h; have := I.le; lia
  · rw [I.tail k (by lia) hk]; exact hk
theorem Iv.rev {n m i j : Nat} {p : Array Nat} (I : Iv n p m) (h : j ≤ m) : Iv n (kas_rev p i j) m := by
  have hj : j ≤ p.size := by have := I.le; have := I.sz; lia
  refine ⟨(kas_rev_size _ _).trans I.sz, (Array.perm_iff_toList_perm.mp (mirror_perm _ _ _ _)).trans I.pm, fun k hk hn => ?_, fun k hk => ?_, I.le⟩
  · rw [rev_at hj, if_neg (by lia)]; exact I.tail k hk hn
  · rw [rev_at hj]
    split
    · exact I.low _ (by lia)
    · exact I.low k hk
theorem St.one (S : SWO c) {n m : Nat} {p : Array Nat} (I : Iv n p m) (h : m < n) (h1 : 1 ≤ m) (T : St c p m) (hc : c (gt p m) (gt p (m - 1)) = false) : St c p (m + 1) := by
  intro i j hij hj
  by_cases e : j = m
  · subst e
    right
    have em := I.tail j (Nat.le_refl _) h
    refine ⟨?_, by rw [em]; exact I.low i hij⟩
    by_cases e2 : i = j - 1
    · rw [e2]; exact hc
    · exact S.neg ((T i (j - 1) (by lia) (by lia)).le S) hc
  · exact T i j hij (by lia)
theorem asc_ok (S : SWO c) {n : Nat} {p : Array Nat} {G : Nat → Prop} : ∀ (f m : Nat), m + f ≤ n → 1 ≤ m → Iv n p m → St c p m →
    (∀ m', m ≤ m' → m' ≤ m + f → Iv n p m' → St c p m' → (m' = m + f ∨ c (gt p m') (gt p (m' - 1)) = true) → G m') → KOk c n (kas_asc p f m) G
  | 0, m, hf, h1, I, T, hG => hG m (Nat.le_refl _) (Nat.le_refl _) I T (.inl rfl)
  | f + 1, m, hf, h1, I, T, hG => by
    refine ⟨I.lt (by lia), I.lt (by lia), ?_⟩
    cases hc : c (gt p m) (gt p (m - 1)) with
    | true =>
      dsimp only
      rw [if_pos rfl]
      exact hG m (Nat.le_refl _) (by lia) I T (.inr hc)
    | false =>
      dsimp only
      rw [if_neg (by decide)]
      exact asc_ok S f (m + 1) (by lia) (by lia) (I.one (by lia)) (T.one S I (by lia) h1 hc) (fun m' a b I' T' e => hG m' (by lia) (by lia) I' T' (e.imp (fun e => by lia) id))
structure Dn (c : Nat → Nat → Bool) (p : Array Nat) (a m : Nat) : Prop where
  rs : ∀ i j, i < j → j < a → tl c (gt p j) (gt p i)
  st : ∀ i j, i < a → a ≤ j → j < m → c (gt p j) (gt p i) = true
  id : ∀ k, a ≤ k → k < m → gt p k = k
  eq : ∀ j k, a ≤ j → j < m → a ≤ k → k < m → c (gt p j) (gt p k) = false
noncomputable def Rs (c : Nat → Nat → Bool) (p : Array Nat) (m : Nat) : Prop := ∀ i j, i < j → j < m → tl c (gt p j) (gt p i)
theorem Dn.fin {n m a : Nat} {p : Array Nat} (I : Iv n p m) (D : Dn c p a m) (ha : a ≤ m) : Rs c (kas_rev p a m) m := by
  have hj : m ≤ p.size := by have := I.le; have := I.sz; lia
  intro i j hij hj'
  rw [rev_at hj, rev_at hj]
  by_cases h1 : a ≤ j
  · rw [if_pos ⟨h1, hj'⟩]
    by_cases h2 : a ≤ i
    · rw [if_pos ⟨h2, by lia⟩]
      right
      refine ⟨D.eq _ _ (by lia) (by lia) (by lia) (by lia), ?_⟩
      rw [D.id _ (by lia) (by lia), D.id _ (by lia) (by lia)]
      lia
    · rw [if_neg (by lia)]
      exact .inl (D.st _ _ (by lia) (by lia) (by lia))
  · rw [if_neg (by lia), if_neg (by lia)]
    exact D.rs i j hij (by lia)
theorem Dn.fin0 {m : Nat} {p : Array Nat} (D : Dn c p (m - 1) m) (h1 : 1 ≤ m) : Rs c p m := by
  intro i j hij hj
  by_cases h : j = m - 1
  · exact .inl (D.st i j (by lia) (by lia) hj)
  · exact D.rs i j hij (by lia)
theorem Rs.st {n m : Nat} {p : Array Nat} (I : Iv n p m) (R : Rs c p m) : St c (kas_rev p 0 m) m := by
  have hj : m ≤ p.size := by have := I.le; have := I.sz; lia
  intro i j hij hj'
  rw [rev_at hj, rev_at hj, if_pos ⟨by lia, by lia⟩, if_pos ⟨by lia, by lia⟩]
  exact R _ _ (by lia) (by lia)
theorem SWO.of_eq (S : SWO c) {x y z : Nat} (h : c x y = true) (e1 : c z y = false) : c x z = true := by
  cases q : c x z with
  | true => rfl
  | false => exact absurd (S.neg e1 q) (by rw [h]; decide)
theorem SWO.of_eq' (S : SWO c) {x y z : Nat} (h : c x y = true) (e1 : c x z = false) : c z y = true := by
  cases q : c z y with
  | true => rfl
  | false => exact absurd (S.neg q e1) (by rw [h]; decide)
theorem desc_ok (S : SWO c) {n : Nat} {G : Array Nat × Nat × Nat → Prop} : ∀ (f : Nat) (p : Array Nat) (m q : Nat), m + f ≤ n → q + 1 ≤ m → Iv n p m → Dn c p (m - (q + 1)) m →
    (∀ p' m' q', m' ≤ m + f → q' + 1 ≤ m' → Iv n p' m' → Dn c p' (m' - (q' + 1)) m' → G (p', m', q')) → KOk c n (kas_desc f p m q) G
  | 0, p, m, q, hf, hq, I, D, hG => hG p m q (Nat.le_refl _) hq I D
  | f + 1, p, m, q, hf, hq, I, D, hG => by
    have hm : gt p m = m := I.tail m (Nat.le_refl _) (by lia)
    refine ⟨I.lt (by lia), I.lt (by lia), ?_⟩
    show KOk c n (if c (gt p m) (gt p (m - 1)) = true then (if q > 0 then kas_desc f (kas_rev p (m - (q + 1)) m) (m + 1) 0 else kas_desc f p (m + 1) 0)
      else KasT.ask (gt p (m - 1)) (gt p m) fun d => if d = true then KasT.ret (p, m, q) else kas_desc f p (m + 1) (q + 1)) G
    cases hc : c (gt p m) (gt p (m - 1)) with
    | true =>
      rw [if_pos rfl]
      have all : ∀ i, i < m → c (gt p m) (gt p i) = true := by
        intro i hi
        by_cases h : i < m - (q + 1)
        · exact S.tr hc (D.st i (m - 1) h (by lia) (by lia))
        · exact S.of_eq hc (D.eq i (m - 1) (by lia) hi (by lia) (by lia))
      have mk : ∀ p', Iv n p' m → Rs c p' m → (∀ i, i < m → c (gt p m) (gt p' i) = true) → Dn c p' (m + 1 - (0 + 1)) (m + 1) := by
        intro p' I' R hs
        have e : gt p' m = m := I'.tail m (Nat.le_refl _) (by lia)
        refine ⟨fun i j hij hj => R i j hij (by lia), fun i j hi hj hjm => ?_, fun k hk hkm => ?_, fun j k a1 a2 a3 a4 => ?_⟩
        · have : j = m := by lia
          subst this
          have := hs i (by lia)
          rw [hm] at this
          rw [e]; exact this
        · have : k = m := by lia
          subst this; exact e
        · have : j = k := by lia
          subst this; exact S.irr _
      split
      · have hj : m ≤ p.size := by have := I.le; have := I.sz; lia
        refine desc_ok S f _ (m + 1) 0 (by lia) (by lia) ((I.rev (Nat.le_refl _)).one (by lia)) (mk _ (I.rev (Nat.le_refl _)) (D.fin I (by lia)) (fun i hi => ?_)) (fun p' m' q' a1 => hG p' m' q' (by lia))
        rw [rev_at hj]
        split
        · exact all _ (by lia)
        · exact all _ hi
      · have : q = 0 := by lia
        subst this
        exact desc_ok S f _ (m + 1) 0 (by lia) (by lia) (I.one (by lia)) (mk _ I (D.fin0 (by lia)) all) (fun p' m' q' a1 => hG p' m' q' (by lia))
    | false =>
      rw [if_neg (by decide)]
      refine ⟨I.lt (by lia), I.lt (by lia), ?_⟩
      cases hd : c (gt p (m - 1)) (gt p m) with
      | true => dsimp only; rw [if_pos rfl]; exact hG p m q (by lia) hq I D
      | false =>
        dsimp only
        rw [if_neg (by decide)]
        refine desc_ok S f p (m + 1) (q + 1) (by lia) (by lia) (I.one (by lia)) ?_ (fun p' m' q' a1 => hG p' m' q' (by lia))
        have ea : m + 1 - (q + 1 + 1) = m - (q + 1) := by lia
        rw [ea]
        refine ⟨D.rs, fun i j hi hj hjm => ?_, fun k hk hkm => ?_, fun j k a1 a2 a3 a4 => ?_⟩
        · by_cases e : j = m
          · subst e; exact S.of_eq' (D.st i (j - 1) hi (by lia) (by lia)) hd
          · exact D.st i j hi hj (by lia)
        · by_cases e : k = m
          · subst e; exact hm
          · exact D.id k hk (by lia)
        · by_cases e : j = m
          · subst e
            by_cases e' : k = j
            · subst e'; exact S.irr _
            · exact S.neg (D.eq (j - 1) k (by lia) (by lia) a3 (by lia)) hc
          · by_cases e' : k = m
            · subst e'; exact S.neg hd (D.eq j (k - 1) a1 (by lia) (by lia) (by lia))
            · exact D.eq j k a1 (by lia) a3 (by lia)
theorem tail3_ok (S : SWO c) {n m : Nat} {p : Array Nat} {G : Nat × Array Nat → Prop} (hm : m ≤ n) (h1 : 1 ≤ m) (I : Iv n p m) (R : Rs c p m) (hG : ∀ m' p', 1 ≤ m' → m' ≤ n → Iv n p' m' → St c p' m' → G (m', p')) : KOk c n (kas_tail3 m n p) G :=
  KOk.bind (asc_ok S (n - m) m (by lia) h1 (I.rev (Nat.le_refl _)) (R.st I) (fun m' a b I' T' _ => hG m' _ (by lia) (by lia) I' T'))
theorem descPart_ok (S : SWO c) {n m : Nat} {p : Array Nat} {G : Nat × Array Nat → Prop} (hm : m + 1 ≤ n) (h1 : 1 ≤ m) (I : Iv n p m) (R : Rs c p m) (hs : ∀ i, i < m → c (gt p m) (gt p i) = true) (hG : ∀ m' p', 1 ≤ m' → m' ≤ n → Iv n p' m' → St c p' m' → G (m', p')) : KOk c n (kas_descPart m n p) G := by
  have e : gt p m = m := I.tail m (Nat.le_refl _) (by lia)
  refine KOk.bind (desc_ok S (n - (m + 1)) p (m + 1) 0 (by lia) (by lia) (I.one (by lia)) ⟨fun i j hij hj => R i j hij (by lia), fun i j hi hj hjm => ?_, fun k hk hkm => ?_, fun j k a1 a2 a3 a4 => ?_⟩ (fun p' m' q' a1 a2 I' D' => ?_))
  · have : j = m := by lia
    subst this; exact hs i (by lia)
  · have : k = m := by lia
    subst this; exact e
  · have : j = k := by lia
    subst this; exact S.irr _
  · dsimp only
    split
    · exact tail3_ok S I'.le (by lia) (I'.rev (Nat.le_refl _)) (D'.fin I' (by lia)) hG
    · have : q' = 0 := by lia
      subst this
      exact tail3_ok S I'.le (by lia) I' (D'.fin0 (by lia)) hG
theorem count_ok (S : SWO c) {n : Nat} {p : Array Nat} {G : Nat × Array Nat → Prop} (h1 : 1 ≤ n) (I : Iv n p 1) (hid : ∀ k, k < n → gt p k = k) (hG : ∀ m' p', 1 ≤ m' → m' ≤ n → Iv n p' m' → St c p' m' → G (m', p')) : KOk c n (kas_count n p) G := by
  refine KOk.bind (asc_ok S (n - 1) 1 (by lia) (Nat.le_refl _) I (fun i j hij hj => by lia) (fun m hm1 hm2 I' T' e => ?_))
  by_cases q : m = n
  · rw [if_pos (by simpa using q)]
    exact hG m p hm1 (by lia) I' T'
  · rw [if_neg (by simpa using q)]
    have hlt : c (gt p m) (gt p (m - 1)) = true := by
      rcases e with e | e
      · lia
      · exact e
    by_cases h : m > 1
    · rw [if_pos h]
      refine ⟨I'.lt (by lia), I'.lt (by lia), ?_⟩
      cases hc : c (gt p 0) (gt p (m - 1)) with
      | true => dsimp only; rw [if_pos rfl]; exact hG m p hm1 (by lia) I' T'
      | false =>
        dsimp only
        rw [if_neg (by decide)]
        have hj : m ≤ p.size := by have := I'.sz; lia
        -- all alike
        have le : ∀ i j, i ≤ j → j < m → c (gt p j) (gt p i) = false := fun i j hij hj' => by
          by_cases e : i = j
          · subst e; exact S.irr _
          · exact (T' i j (by lia) hj').le S
        have eq : ∀ i j, i < m → j < m → c (gt p i) (gt p j) = false := fun i j hi hj' =>
          S.neg (le j (m - 1) (by lia) (by lia)) (S.neg hc (le 0 i (by lia) hi))
        refine descPart_ok S (by lia) hm1 (I'.rev (Nat.le_refl _)) (fun i j hij hj' => ?_) (fun i hi => ?_) hG
        · rw [rev_at hj, rev_at hj, if_pos ⟨by lia, by lia⟩, if_pos ⟨by lia, by lia⟩]
          refine .inr ⟨eq _ _ (by lia) (by lia), ?_⟩
          rw [hid _ (by lia), hid _ (by lia)]
          lia
        · rw [rev_at hj, rev_at hj, if_neg (by lia), if_pos ⟨by lia, by lia⟩]
          exact S.of_eq hlt (eq _ _ (by lia) (by lia))
    · rw [if_neg h]
      have : m = 1 := by lia
      subst this
      refine descPart_ok S (by lia) hm1 I' (fun i j hij hj' => by lia) (fun i hi => ?_) hG
      have : i = 0 := by lia
      subst this; exact hlt
theorem place_ok (S : SWO c) {n k : Nat} {p : Array Nat} {G : Nat → Prop} (I : Iv n p k) (hk : k < n) (T : St c p k) : ∀ (f l r : Nat), l ≤ r → r ≤ k → r ≤ l + f → (∀ i, i < l → c (gt p k) (gt p i) = false) → (∀ i, r ≤ i → i < k → c (gt p k) (gt p i) = true) →
    (∀ l', l' ≤ k → (∀ i, i < l' → c (gt p k) (gt p i) = false) → (∀ i, l' ≤ i → i < k → c (gt p k) (gt p i) = true) → G l') → KOk c n (kas_place p k f l r) G
  | 0, l, r, hl, hr, hf, h1, h2, hG => hG l (by lia) h1 (fun i hi hk => h2 i (by lia) hk)
  | f + 1, l, r, hl, hr, hf, h1, h2, hG => by
    unfold kas_place
    split
    · exact hG l (by lia) h1 (fun i hi hk => h2 i (by lia) hk)
    · refine ⟨I.lt hk, I.lt (by lia), ?_⟩
      show KOk c n (if c (gt p k) (gt p ((l + r) / 2)) = true then _ else _) G
      cases hc : c (gt p k) (gt p ((l + r) / 2)) with
      | true =>
        rw [if_pos rfl]
        refine place_ok S I hk T f l ((l + r) / 2) (by lia) (by lia) (by lia) h1 (fun i hi hik => ?_) hG
        by_cases e : i = (l + r) / 2
        · rw [e]; exact hc
        · exact S.of_eq hc ((T ((l + r) / 2) i (by lia) hik).le S)
      | false =>
        rw [if_neg (by decide)]
        refine place_ok S I hk T f ((l + r) / 2 + 1) r (by lia) hr (by lia) (fun i hi => ?_) h2 hG
        by_cases e : i = (l + r) / 2
        · rw [e]; exact hc
        · exact S.neg ((T i ((l + r) / 2) (by lia) (by lia)).le S) hc
theorem bin_ok (S : SWO c) {n : Nat} {G : Array Nat → Prop} (hG : ∀ p', Iv n p' n → St c p' n → G p') : ∀ (f k : Nat) (p : Array Nat), k + f = n → Iv n p k → St c p k → KOk c n (kas_bin f p k) G
  | 0, k, p, hf, I, T => by
    have : k = n := by lia
    subst this
    exact hG p I T
  | f + 1, k, p, hf, I, T => by
    refine KOk.bind (place_ok S I (by lia) T k 0 k (by lia) (Nat.le_refl _) (by lia) (fun i hi => by lia) (fun i hi hk => by lia) (fun l hl h1 h2 => ?_))
    have hk : k < p.size := by have := I.sz; lia
    have ek : gt p k = k := I.tail k (Nat.le_refl _) (by lia)
    refine bin_ok S hG f (k + 1) _ (by lia) ⟨(bubble_size _ _ _).trans I.sz, (Array.perm_iff_toList_perm.mp (bubble_perm _ _ _)).trans I.pm, fun i hi hn => ?_, fun i hi => ?_, by lia⟩ ?_
    · rw [bub_at hk hl, if_neg (by lia), if_neg (by lia)]; exact I.tail i (by lia) hn
    · rw [bub_at hk hl]
      by_cases e1 : i = l
      · rw [if_pos e1, ek]; lia
      · rw [if_neg e1]
        by_cases e2 : l < i ∧ i ≤ k
        · rw [if_pos e2]; have := I.low (i - 1) (by lia); lia
        · rw [if_neg e2]; have := I.low i (by lia); lia
    · intro i j hij hj
      rw [bub_at hk hl, bub_at hk hl]
      by_cases e1 : j = l
      · rw [if_neg (by lia), if_neg (by lia), if_pos e1]
        exact .inr ⟨h1 i (by lia), by rw [ek]; exact I.low i (by lia)⟩
      · rw [if_neg (c := j = l) e1]
        by_cases e2 : i = l
        · rw [if_pos e2, if_pos (c := l < j ∧ j ≤ k) ⟨by lia, by lia⟩]
          exact .inl (h2 (j - 1) (by lia) (by lia))
        · rw [if_neg (c := i = l) e2]
          by_cases e3 : l < j
          · rw [if_pos (c := l < j ∧ j ≤ k) ⟨e3, by lia⟩]
            by_cases e4 : l < i
            · rw [if_pos (c := l < i ∧ i ≤ k) ⟨e4, by lia⟩]; exact T _ _ (by lia) (by lia)
            · rw [if_neg (c := l < i ∧ i ≤ k) (by lia)]; exact T _ _ (by lia) (by lia)
          · rw [if_neg (c := l < j ∧ j ≤ k) (by lia), if_neg (c := l < i ∧ i ≤ k) (by lia)]
            exact T _ _ (by lia) (by lia)
theorem sort_ok (S : SWO c) {n : Nat} (h1 : 1 ≤ n) {G : Array Nat → Prop} (hG : ∀ p, p.size = n → p.toList.Perm (List.range n) → (∀ i j, i < j → j < n → tl c (gt p i) (gt p j)) → G p) : KOk c n (kas_sort n) G := by
  have hid : ∀ k, k < n → gt (List.toArray (List.range n)) k = k := fun k hk => by simp [gt, Array.getD_eq_getD_getElem?, hk]
  refine KOk.bind (count_ok S h1 ⟨by simp, by simp, fun k _ hk => hid k hk, fun k hk => by rw [hid k (by lia)]; exact hk, h1⟩ hid (fun m p hm1 hm2 I T => ?_))
  dsimp only
  have fin : ∀ p', Iv n p' n → St c p' n → G p' := fun p' I T => hG p' I.sz I.pm T
  by_cases h : m < n
  · rw [if_pos h, show max m 1 = m by lia]
    exact bin_ok S fin (n - m) m p (by lia) I T
  · rw [if_neg h]
    have : m = n := by lia
    subst this
    exact fin p I T
end
end Mine
end
noncomputable section
set_option maxHeartbeats 4000000
open PySem PySem.W PySem.W.X PyProof.Rows PySem.Calls
namespace Mine
section
variable {w : World} {A : Around} {E : Value → Shared → Prop} {s : Shared} {C : Addr} {mycmp : Value} {MD mc f0 f1 f2 f3 f4 f5 : Addr} {hb : Heap}
theorem cmpC {op : CmpOp} {Q : Value → Shared → Prop} {a b fo : Addr} {u v : Value} (hs : findIn (hfr hb) (.ref C) (cmpInfo op).2.1 = some (some (.ref fo))) (hf : typeIn (hfr hb) (.ref fo) = some (.type "function")) (ha : KeyAt s.heap C a u) (hb' : KeyAt s.heap C b v) (k : Kp hb s.heap) (hu : A.units < cLine)
    (h : wpAny (MM w) A (call (.ref fo) [.ref a, .ref b]) (PySem.W.CmpBack Q) E s) : wpAny (MM w) A (richCompare op (.ref a) (.ref b)) Q E s := by
  obtain ⟨d, od, I⟩ := ha.inst
  obtain ⟨d', od', J⟩ := hb'.inst
  have one : wpAny (MM w) A (tryCompare (.ref a) (cmpInfo op).2.1 (.ref b)) (fun r s' => ∃ v, r = some v ∧ Q v s') E s := by
    unfold tryCompare
    refine wpAny_bind (ifBound_K (hfr_in k) I hs (by unfold isFn; rw [hf]; rfl) (wpAny_mono h (fun v s' hv => ?_) fun _ _ e => e))
    cases v <;> first | exact hv.elim | exact wpAny_pure ⟨_, rfl, hv⟩
  unfold richCompare
  simp only [oneThing_ref]
  refine wpAny_holding (wpAny_bind (wpAny_cRoomFor hu ?_))
  refine wpAny_bind (I.type.here (wpAny_bind (J.type.here ?_)))
  rw [show (Value.ref C != Value.ref C) = false from by simp]
  simp only [Bool.false_eq_true, if_false]
  refine wpAny_bind (wpAny_pure ?_)
  simp only [Bool.false_eq_true, if_false]
  refine wpAny_bind (wpAny_mono one (fun r s' z => ?_) fun _ _ e => e)
  obtain ⟨v, rfl, hq⟩ := z
  exact wpAny_pure hq
structure KW (w : World) (hb : Heap) (C f : Addr) (D : Value → Prop) (c : Value → Value → Int) : Prop where
  x : KIn w hb
  k : KCl w hb C (.ref f)
  m : MyC w hb f D c
  r : ∀ u, D u → c u u = 0
variable {f a b : Addr} {u v : Value} {D : Value → Prop} {c : Value → Value → Int}
theorem KW.lt {Q : Value → Shared → Prop} (W : KW w hb C f D c) (hr : Rm A 5) (k : Kp hb s.heap) (ha : KeyAt s.heap C a u) (hb' : KeyAt s.heap C b v) (du : D u) (dv : D v)
    (h : ∀ h' tk, Kp s.heap h' → Q (.bool (decide (c u v < 0))) { s with heap := h', toks := tk }) : wpAny (MM w) A (compareOp .Lt (.ref a) (.ref b)) Q E s := by
  obtain ⟨MD, mc, f0, f1, f2, f3, f4, f5, F⟩ := W.k.fx
  exact cmp_ofLt (cmpC (op := .Lt) F.lt (meth_fn F.me.2.1) ha hb' k hr.units (meth_lt F W.x W.m hr k ha hb' du dv h))
theorem KW.le {Q : Value → Shared → Prop} (W : KW w hb C f D c) (hr : Rm A 5) (k : Kp hb s.heap) (ha : KeyAt s.heap C a u) (hb' : KeyAt s.heap C b v) (du : D u) (dv : D v)
    (h : ∀ h' tk, Kp s.heap h' → Q (.bool (decide (c u v ≤ 0))) { s with heap := h', toks := tk }) : wpAny (MM w) A (compareOp .LtE (.ref a) (.ref b)) Q E s := by
  obtain ⟨MD, mc, f0, f1, f2, f3, f4, f5, F⟩ := W.k.fx
  exact cmp_ofLtE (cmpC (op := .LtE) F.le (meth_fn F.me.2.2.2.2.1) ha hb' k hr.units (meth_le F W.x W.m hr k ha hb' du dv h))
theorem KW.gt {Q : Value → Shared → Prop} (W : KW w hb C f D c) (hr : Rm A 5) (k : Kp hb s.heap) (ha : KeyAt s.heap C a u) (hb' : KeyAt s.heap C b v) (du : D u) (dv : D v)
    (h : ∀ h' tk, Kp s.heap h' → Q (.bool (decide (0 < c u v))) { s with heap := h', toks := tk }) : wpAny (MM w) A (compareOp .Gt (.ref a) (.ref b)) Q E s := by
  obtain ⟨MD, mc, f0, f1, f2, f3, f4, f5, F⟩ := W.k.fx
  exact cmp_ofGt (cmpC (op := .Gt) F.gt (meth_fn F.me.2.2.1) ha hb' k hr.units (meth_gt F W.x W.m hr k ha hb' du dv h))
theorem KW.ge {Q : Value → Shared → Prop} (W : KW w hb C f D c) (hr : Rm A 5) (k : Kp hb s.heap) (ha : KeyAt s.heap C a u) (hb' : KeyAt s.heap C b v) (du : D u) (dv : D v)
    (h : ∀ h' tk, Kp s.heap h' → Q (.bool (decide (0 ≤ c u v))) { s with heap := h', toks := tk }) : wpAny (MM w) A (compareOp .GtE (.ref a) (.ref b)) Q E s := by
  obtain ⟨MD, mc, f0, f1, f2, f3, f4, f5, F⟩ := W.k.fx
  exact cmp_ofGtE (cmpC (op := .GtE) F.ge (meth_fn F.me.2.2.2.2.2) ha hb' k hr.units (meth_ge F W.x W.m hr k ha hb' du dv h))
theorem KW.eq {Q : Value → Shared → Prop} (W : KW w hb C f D c) (hr : Rm A 5) (k : Kp hb s.heap) (ha : KeyAt s.heap C a u) (hb' : KeyAt s.heap C b v) (du : D u) (dv : D v)
    (h : ∀ h' tk, Kp s.heap h' → Q (.bool (c u v == 0)) { s with heap := h', toks := tk }) : wpAny (MM w) A (compareOp .Eq (.ref a) (.ref b)) Q E s := by
  obtain ⟨MD, mc, f0, f1, f2, f3, f4, f5, F⟩ := W.k.fx
  exact cmp_ofEq (cmpC (op := .Eq) F.eq (meth_fn F.me.2.2.2.1) ha hb' k hr.units (meth_eq F W.x W.m hr k ha hb' du dv h))
theorem KeyAt.inj {h : Heap} {C o : Addr} {u v : Value} (x : KeyAt h C o u) (y : KeyAt h C o v) : u = v := by
  obtain ⟨d, od, a, _⟩ := x
  obtain ⟨d', od', b, _⟩ := y
  rw [a] at b
  cases b; rfl
theorem KW.eqBool {Q : Bool → Shared → Prop} (W : KW w hb C f D c) (hr : Rm A 5) (k : Kp hb s.heap) (ha : KeyAt s.heap C a u) (hb' : KeyAt s.heap C b v) (du : D u) (dv : D v)
    (h : ∀ h' tk, Kp s.heap h' → Q (c u v == 0) { s with heap := h', toks := tk }) : wpAny (MM w) A (eqBool (.ref a) (.ref b)) Q E s := by
  unfold PySem.eqBool
  refine wpAny_holding ?_
  by_cases e : a = b
  · subst e
    cases ha.inj hb'
    rw [if_pos (by simp)]
    refine wpAny_bind (wpAny_rule (wpAny_pure ?_))
    have := h s.heap s.toks (Kp.refl _)
    rw [W.r u du] at this
    exact this
  · rw [if_neg (by simpa using e)]
    refine wpAny_bind (W.eq hr k ha hb' du dv (fun h' tk k' => ?_))
    exact wpAny_truthy_bool (h h' tk k')
theorem KW.sortLt {Q : Bool → Shared → Prop} (W : KW w hb C f D c) (hr : Rm A 5) (k : Kp hb s.heap) (ha : KeyAt s.heap C a u) (hb' : KeyAt s.heap C b v) (du : D u) (dv : D v)
    (h : ∀ h' tk, Kp s.heap h' → Q (decide (c u v < 0)) { s with heap := h', toks := tk }) : wpAny (MM w) A (keyLt' oneType' (.ref a) (.ref b)) Q E s := by
  obtain ⟨MD, mc, f0, f1, f2, f3, f4, f5, F⟩ := W.k.fx
  obtain ⟨d, od, I⟩ := ha.inst
  rw [keyLt'_oneType, oneLt'_eq]
  simp only [if_true]
  refine wpAny_bind (wpAny_cRoomFor hr.units ?_)
  refine wpAny_bind (ifBound_K (hfr_in k) I F.lt (by unfold isFn; rw [meth_fn F.me.2.1]; rfl) (meth_lt F W.x W.m hr k ha hb' du dv (fun h' tk k' => ?_)))
  exact wpAny_truthy_bool (h h' tk k')
theorem KW.ne {Q : Value → Shared → Prop} (W : KW w hb C f D c) (hr : Rm A 6) (k : Kp hb s.heap) (ha : KeyAt s.heap C a u) (hb' : KeyAt s.heap C b v) (du : D u) (dv : D v)
    (h : ∀ h' tk, Kp s.heap h' → Q (.bool (!(c u v == 0))) { s with heap := h', toks := tk }) : wpAny (MM w) A (compareOp .NotEq (.ref a) (.ref b)) Q E s := by
  obtain ⟨MD, mc, f0, f1, f2, f3, f4, f5, F⟩ := W.k.fx
  obtain ⟨N, MD', mc', bT, tn, t, fl, sl, g0, g1, g2, g3, g4, g5, st, tk, n, hC, hN, hM, hc, hm⟩ := W.k
  have e3 : g3 = f3 := by
    have := (fnd_own (name := "__eq__") hC hN (v := .ref g3) rfl).symm.trans F.eq
    cases this; rfl
  subst e3
  obtain ⟨d, od, oa, _⟩ := id ha
  obtain ⟨d', od', ob, _⟩ := id hb'
  obtain ⟨_, _, _, _, _, _, _, _, _, _, hfo, _⟩ := id F.me.2.2.2.1
  obtain ⟨hh, g, dr, tt, os⟩ := s
  dsimp only at *
  refine compareOp_ne_ownEq (f := g3) (B := "object") (bm := [.type "object"]) PySem.F.cmp_object ⟨_, _, _, _, N, _, _, _, _, _, _, _, _, _, _, _, _, _, _, _, oa, rfl, k _ _ hC, (nsD hN rfl).keeps k, rfl, k _ _ hfo, rfl, PySem.F.cmp_object.mro, rfl, rfl⟩ ob rfl ?_ ?_
  · have := hr.2.1; show A.units + 1 < 9900; lia
  · exact meth_eq (s := ⟨hh, g, dr, tt, os⟩) F W.x W.m hr.in1 k ha hb' du dv (fun h' tk k' => ⟨_, rfl, h h' tk k'⟩)
noncomputable abbrev tup3 (k : Addr) (n : Int) (tn : Tok) (r : Value) : Obj := seqObj "tuple" #[.ref k, .int n tn, r] 0
theorem tup_lt {Q : Value → Shared → Prop} {t t' : Addr} {n m : Int} {tn tm : Tok} {r r' : Value} (W : KW w hb C f D c) (hr : Rm A 6) (k : Kp hb s.heap) (hx : s.heap.get? t = some (tup3 a n tn r)) (hy : s.heap.get? t' = some (tup3 b m tm r'))
    (ha : KeyAt s.heap C a u) (hb' : KeyAt s.heap C b v) (du : D u) (dv : D v) (hi : n = m → ∃ q, r = .ref q ∧ r' = .ref q)
    (h : ∀ h' tk, Kp s.heap h' → Q (.bool (decide (c u v < 0) || (c u v == 0 && decide (n < m)))) { s with heap := h', toks := tk }) : wpAny (MM w) A (compareOp .Lt (.ref t) (.ref t')) Q E s := by
  refine cmp_ofLt (wpAny_richCompare_same_room (op := .Lt) ⟨_, hx, rfl⟩ ⟨_, hy, rfl⟩ PySem.F.slot_tuple_lt (wpAny_call_entry PySem.F.slot_tuple_lt ⟨_, hx, rfl⟩ PySem.F.entry_tuple_lt ?_ (PySem.F.args_tuple_lt_2 _ _)) hr.units)
  show wpAny _ _ (isInstance (.ref t') (.type "tuple") >>= _) _ _ s
  refine wpAny_bind (wpAny_isInstance ⟨_, hy, rfl⟩ isSubtype_tuple_tuple ?_)
  simp only [Bool.not_true, Bool.false_eq_true, if_false]
  refine wpAny_bind (wpAny_tupleItemsOf hx rfl ?_)
  refine wpAny_bind (wpAny_tupleItemsOf hy rfl ?_)
  refine wpAny_bind ?_
  show wpAny _ _ (forIn [((Value.ref a, Value.ref b)), (Value.int n tn, Value.int m tm), (r, r')] _ _) _ _ _
  refine forC ?_
  dsimp only
  refine wpAny_bind (W.eqBool hr.in1 k ha hb' du dv (fun h1 tk1 k1 => ?_))
  cases h0 : (c u v == 0) with
  | false =>
    rw [h0] at h
    simp only [Bool.not_false, if_true]
    refine wpAny_bind (wpAny_rule (wpAny_bind (W.lt hr.in1 (k.trans k1) (ha.kp k1) (hb'.kp k1) du dv (fun h2 tk2 k2 => ?_))))
    repeat (first | refine wpAny_pure ?_ | refine wpAny_bind ?_)
    refine ⟨_, rfl, (fun e => nomatch e), ?_⟩
    have := h h2 tk2 (k1.trans k2)
    simpa using this
  | true =>
    rw [h0] at h
    have hc0 : c u v = 0 := by simpa using h0
    simp only [Bool.not_true, Bool.false_eq_true, if_false]
    refine wpAny_pure ?_
    dsimp only
    refine forC ?_
    dsimp only
    refine wpAny_bind (wpAny_eqBool_int ?_)
    cases h1' : (n == m) with
    | false =>
      simp only [Bool.not_false, if_true]
      refine wpAny_bind (wpAny_rule (wpAny_bind (show wpAny _ _ (compareOp .Lt (.int n tn) (.int m tm)) _ _ _ from PyProof.Rows.lt_int ?_)))
      repeat (first | refine wpAny_pure ?_ | refine wpAny_bind ?_)
      refine ⟨_, rfl, (fun e => nomatch e), ?_⟩
      have := h h1 tk1 k1
      simpa [hc0] using this
    | true =>
      have e : n = m := by simpa using h1'
      obtain ⟨q, rfl, rfl⟩ := hi e
      simp only [Bool.not_true, Bool.false_eq_true, if_false]
      refine wpAny_pure ?_
      dsimp only
      refine forC ?_
      dsimp only
      unfold PySem.eqBool
      refine wpAny_bind (wpAny_holding ?_)
      rw [if_pos (by simp)]
      refine wpAny_bind (wpAny_rule (wpAny_pure ?_))
      simp only [Bool.not_true, Bool.false_eq_true, if_false]
      refine wpAny_pure ?_
      dsimp only
      refine forN ?_
      repeat (first | refine wpAny_pure ?_ | refine wpAny_bind ?_)
      refine ⟨_, rfl, (fun e => nomatch e), ?_⟩
      have := h h1 tk1 k1
      rw [e, hc0] at this
      have e2 : Builtin.Tuple.tupleCompareSizes CmpOp.Lt 3 3 = .bool false := by rfl
      rw [show (#[Value.ref a, Value.int n tn, Value.ref q] : Array Value).size = 3 from rfl, show (#[Value.ref b, Value.int m tm, Value.ref q] : Array Value).size = 3 from rfl, e2]
      simpa using this
theorem tup_sortLt {Q : Bool → Shared → Prop} {t t' : Addr} {n m : Int} {tn tm : Tok} {r r' : Value} (W : KW w hb C f D c) (hr : Rm A 5) (k : Kp hb s.heap) (hx : s.heap.get? t = some (tup3 a n tn r)) (hy : s.heap.get? t' = some (tup3 b m tm r'))
    (ha : KeyAt s.heap C a u) (hb' : KeyAt s.heap C b v) (du : D u) (dv : D v) (hi : n = m → ∃ q, r = .ref q ∧ r' = .ref q)
    (h : ∀ h' tk, Kp s.heap h' → Q (decide (c u v < 0) || (c u v == 0 && decide (n < m))) { s with heap := h', toks := tk }) : wpAny (MM w) A (keyLt' (tuples' true) (.ref t) (.ref t')) Q E s := by
  refine kat_lt hx rfl hy rfl ?_
  show KatLex _ w A true _ Q [((Value.ref a, Value.ref b)), (Value.int n tn, Value.int m tm), (r, r')] 0 s
  refine kat_cons (W.eqBool hr k ha hb' du dv (fun h1 tk1 k1 => kat_go (fun h0 => ?_) (fun h0 => ?_)))
  · have hc0 : c u v = 0 := by simpa using h0
    refine kat_yes (kat_cons (wpAny_eqBool_int (kat_go (fun h1' => ?_) (fun h1' => ?_))))
    · have e : n = m := by simpa using h1'
      obtain ⟨q, rfl, rfl⟩ := hi e
      refine kat_yes (kat_cons ?_)
      unfold PySem.eqBool
      refine wpAny_holding ?_
      rw [if_pos (by simp)]
      refine wpAny_bind (wpAny_rule (wpAny_pure (kat_yes (kat_nil ?_))))
      have := h h1 tk1 k1
      rw [e, hc0] at this
      simpa using this
    · refine kat_no (show wpAny _ _ (oneLt' false _ _) _ _ _ from kat_one _ _ (PyProof.Rows.lt_int ?_))
      have := h h1 tk1 k1
      simpa [hc0, PySem.W.BoolBack] using this
  · refine kat_no (show wpAny _ _ (keyLt' oneType' _ _) _ _ _ from W.sortLt hr (k.trans k1) (ha.kp k1) (hb'.kp k1) du dv (fun h2 tk2 k2 => ?_))
    have := h h2 tk2 (k1.trans k2)
    simpa [h0] using this
end
end Mine
namespace Mine

noncomputable def PL (h : Heap) (l : Addr) (xs : List Value) : Prop := ∃ n, h.get? l = some (listOf xs.toArray n)
theorem PL.il {h : Heap} {l : Addr} {xs : List Value} (x : PL h l xs) : h.IsList l xs.toArray := by obtain ⟨_, e⟩ := x; exact IsL.isList e
theorem PL.kp {h h' : Heap} {l : Addr} {a : List Value} (x : PL h l a) (k : Kp h h') : PL h' l a := by obtain ⟨n, e⟩ := x; exact ⟨n, k _ _ e⟩
theorem PL.kpB {S : List Addr} {h h' : Heap} {l : Addr} {a : List Value} (x : PL h l a) (k : KpB S h h') (hl : l ∉ S) : PL h' l a := by obtain ⟨n, e⟩ := x; exact ⟨n, k _ _ hl e⟩
theorem PL.lt {h : Heap} {l : Addr} {a : List Value} (x : PL h l a) : l < h.objs.size := by obtain ⟨_, e⟩ := x; exact Heap.lt_size e
theorem PL.upd {h : Heap} {l : Addr} {a b : List Value} (x : PL h l a) (f : Array Value → Array Value) (e : f a.toArray = b.toArray) : PL (h.update l (Obj.mapSeq f)) l b := by
  obtain ⟨n, q⟩ := x
  have := IsL.update q f
  rw [e] at this
  exact ⟨_, this⟩
theorem PL.inj {h : Heap} {l : Addr} {a b : List Value} (x : PL h l a) (y : PL h l b) : a = b := by
  obtain ⟨n, e⟩ := x; obtain ⟨k, f⟩ := y
  rw [e] at f
  have := congrArg Obj.data (Option.some.inj f)
  injection this with q _
  simpa using q

section
variable {w : World} {A : Around} {E : Value → Shared → Prop} {s : Shared} {Q : Value → Shared → Prop} {l : Addr} {xs : List Value} {value slice : Expr}
theorem lsMeth {name : Str} {id : String} {pl : Sem Bool} {Q : Value × List Value → Shared → Prop} (hl : PL s.heap l xs) (slot : Slot "list" name id) (hty : typeOf (.builtin id) = pure (.type "method_descriptor"))
    (h : Q (.builtin id, [.ref l]) s) : wpAny (MM w) A (getMethod (.ref l) name pl) Q E s :=
  let ⟨_, e⟩ := hl
  getMethod_builtin ⟨_, e, rfl⟩ PySem.F.plainAttrs_list slot hty (fun a q => by cases q; exact ⟨_, e, rfl⟩) h
theorem itemL {k : Int} {t : Tok} {i : Nat} {v : Value} (hl : PL s.heap l xs) (hk : k = (i : Int)) (hz : i < 2 ^ 63) (hx : xs[i]? = some v) (h : Q v s)
    (hs : autoParam (subscripted slice false (.ref l) (.int k t) = operate [.ref l, .int k t] (getItem (.ref l) (.int k t))) tcU) :
    wpAny (MM w) A (subscriptTail value slice (.ref l) (.int k t)) Q E s :=
  tail_any hl.il.typeIs slot_list_getitem.lookup (wpAny_getItem_list hl.il (by lia) (by lia) (by subst hk; simpa using hx) h) hs
theorem setL {k : Int} {t : Tok} {i : Nat} {v : Value} {Q : Unit → Shared → Prop} (hl : PL s.heap l xs) (hk : k = (i : Int)) (hz : i < 2 ^ 63) (hx : i < xs.length)
    (h : ∀ h', PL h' l (xs.set i v) → Heap.SameBut l s.heap h' → Q () { s with heap := h' }) : wpAny (MM w) A (setItem (.ref l) (.int k t) v) Q E s := by
  obtain ⟨n, e⟩ := id hl
  exact ki_setAt e (by lia) (by lia) (by simp; lia) (h _ (hl.upd _ (by subst hk; simp)) (Heap.SameBut.update ..))
theorem lenL (hl : PL s.heap l xs) (hz : xs.length < 2 ^ 60) (h : ∀ tk, Q (.int (xs.length : Nat) tk) { s with toks := s.toks + 1 + 1 }) : wpAny (MM w) A (call (.builtin "len") [.ref l]) Q E s :=
  call_len_list hl.il (by simp; lia) (by have := h (s.toks + 1); simpa using this)
theorem appendL {v : Value} (hl : PL s.heap l xs) (hz : xs.length ≤ 2 ^ 20) (h : ∀ h', PL h' l (xs ++ [v]) → Heap.SameBut l s.heap h' → Q .none { s with heap := h' }) :
    wpAny (MM w) A (call (.builtin "list.append") [.ref l, v]) Q E s := by
  obtain ⟨n, e⟩ := id hl
  exact append_at e (fun h' hs ho => h h' ⟨_, by simpa using ho⟩ hs) (by rw [sizeLine_eq]; simp; lia)
theorem popL {v : Value} (hl : PL s.heap l (xs ++ [v])) (hz : xs.length ≤ 2 ^ 20) (h : ∀ h', PL h' l xs → Heap.SameBut l s.heap h' → Q v { s with heap := h' }) :
    wpAny (MM w) A (call (.builtin "list.pop") [.ref l]) Q E s := by
  obtain ⟨n, e⟩ := id hl
  have hk : (xs ++ [v]).toArray.size - 1 = xs.length := by simp
  refine call_meets PySem.F.slot_list_pop ⟨_, e, rfl⟩ PySem.F.entry_list_pop (PySem.F.args_list_pop_1 _) (PySem.MeetsSeq.list_pop_last l _ n v (by rw [hk]; simp) (by rw [sizeLine_eq]; simp; lia)) ⟨e, h _ (hl.upd _ ?_) (Heap.SameBut.update ..)⟩
  show (xs ++ [v]).toArray.eraseIdxIfInBounds ((xs ++ [v]).toArray.size - 1) = xs.toArray
  rw [hk, kl_erase, List.append_nil]
end

structure FL (h₀ : Heap) (L H : Addr) (h : Heap) (m : Str → Option Value) (xs : List Value) : Prop where
  fr : Fr h₀ L h m
  ls : PL h H xs
  ne : H ≠ L
  no : h₀.get? H = none

section
variable {M : Model} {A : Around} {E : Value → Shared → Prop} {s : Shared} {env : Env} {h₀ h h' : Heap} {L H : Addr} {m m' : Str → Option Value} {xs ys : List Value}
theorem FL.kp (F : FL h₀ L H h m xs) (k : Kp h h') : FL h₀ L H h' m xs := ⟨Fr.kp F.fr k, F.ls.kp k, F.ne, F.no⟩
theorem FL.set (F : FL h₀ L H h m xs) (hn : h'.Ns L m') (hs : Heap.SameBut L h h') : FL h₀ L H h' m' xs :=
  ⟨F.fr.set hn hs, by obtain ⟨n, e⟩ := F.ls; exact ⟨n, (hs.2 _ F.ne).trans e⟩, F.ne, F.no⟩
theorem FL.write (F : FL h₀ L H h m xs) (hl : PL h' H ys) (hs : Heap.SameBut H h h') : FL h₀ L H h' m ys :=
  ⟨⟨F.fr.ns.sameBut hs (Ne.symm F.ne), fun b o e => (hs.2 b (fun q => by rw [q, F.no] at e; cases e)).trans (F.fr.keep b o e), F.fr.above⟩, hl, F.ne, F.no⟩
theorem FL.but (F : FL h₀ L H h m xs) (k : KpB [H] h h') (hl : PL h' H ys) : FL h₀ L H h' m ys :=
  ⟨Fr.kpB F.fr k (fun q => F.ne (List.mem_singleton.mp q).symm) (fun a ha => by rw [List.mem_singleton.mp ha]; exact F.no), hl, F.ne, F.no⟩
theorem FL.start {h h₁ : Heap} (hl : PL h H xs) (F : Fr h L h₁ m) : FL (hideAll h [H]) L H h₁ m xs :=
  ⟨⟨F.ns, fun b o e => F.keep b o (of_hideAll _ e), Nat.le_trans (Nat.le_of_eq (hideAll_size _ _)) F.above⟩, hl.kp F.keep,
    Nat.ne_of_lt (Nat.lt_of_lt_of_le hl.lt F.above), hideAll_none _ (.head _)⟩
theorem FL.st {x : Str} {v : Value} {Q : Unit → Shared → Prop} (F : FL h₀ L H s.heap m xs)
    (h : ∀ h', FL h₀ L H h' (fun y => if y = x then some v else m y) xs → Q () { s with heap := h', toks := s.toks + 1 })
    (eL : autoParam (env.locals = L) tcR) (hk : autoParam (env.scope.kind = .function) tcR) (hl : autoParam (env.kindOf x = some .local) tcR) :
    wpAny M A (storeName env x v) Q E s := by
  subst eL
  exact wpAny_storeName_local hl F.fr.ns (fun h' hn hs => h h' (F.set hn hs)) (by rw [hk]; rfl)
theorem stF {x : Str} {v : Value} {Q : Unit → Shared → Prop} (F : Fr h₀ L s.heap m)
    (h : ∀ h', Fr h₀ L h' (fun y => if y = x then some v else m y) → Q () { s with heap := h', toks := s.toks + 1 })
    (eL : autoParam (env.locals = L) tcR) (hk : autoParam (env.scope.kind = .function) tcR) (hl : autoParam (env.kindOf x = some .local) tcR) :
    wpAny M A (storeName env x v) Q E s := by
  subst eL
  exact wpAny_storeName_local hl F.ns (fun h' hn hs => h h' (F.set hn hs)) (by rw [hk]; rfl)
end

noncomputable def CmpLt (w : World) (hb : Heap) (D : Value → Prop) (lt : Value → Value → Bool) : Prop :=
  ∀ (x y : Value), D x → D y → ∀ (A : Around) (s : Shared) (Q : Value → Shared → Prop) (E : Value → Shared → Prop), Rm A 8 → Kp hb s.heap →
    (∀ h' tk, Kp s.heap h' → Q (.bool (lt x y)) { s with heap := h', toks := tk }) → wpAny (MM w) A (compareOp .Lt x y) Q E s

theorem fdiv2 (q : Nat) (h : 0 < q) : ((q : Int) - 1).fdiv (2 ^ Int.toNat 1) = (((q - 1) / 2 : Nat) : Int) := by
  have e : ((q : Int) - 1) = ((q - 1 : Nat) : Int) := by lia
  rw [e]
  show ((q - 1 : Nat) : Int).fdiv ((2 : Nat) : Int) = _
  rw [Int.fdiv_eq_ediv_of_nonneg _ (by lia)]
  rfl


theorem getD_some {xs : List Value} {i : Nat} (h : i < xs.length) : xs[i]? = some (xs.getD i .none) := by
  rw [List.getD_eq_getElem?_getD]; simp [h]
theorem hide_base {hb h : Heap} {H : Addr} (kb : Kp hb h) (hbn : hb.get? H = none) : Kp hb (hideAll h [H]) :=
  fun b o e => hideAll_get _ (kb b o e) (nin1 fun q => by rw [q, hbn] at e; cases e)

inductive SdI (s : Shared) (h0 : Heap) (H : Addr) (D : Value → Prop) (c : Value → Value → Bool) (start N : Nat) (a : Int) (t1 : Tok) (x : Value) (T : List Value) (n : Nat) : Shared → Prop
  | mk {h : Heap} {tk : Nat} {m : Str → Option Value} {ys : List Value} {qi : Int} {tq : Tok} (F : FL h0 s.heap.objs.size H h m ys) (m1 : m (Str.ofString "heap") = some (.ref H)) (m2 : m (Str.ofString "startpos") = some (.int a t1)) (m3 : m (Str.ofString "pos") = some (.int qi tq)) (hqi : qi = ((n : Nat) : Int))
      (m4 : m (Str.ofString "newitem") = some x) (hyl : ys.length = N) (hyD : ∀ v ∈ ys, D v) (hq : n < N) (hsd : sd c .none start x ys n = T) : SdI s h0 H D c start N a t1 x T n { s with heap := h, toks := tk }
inductive SdR (s : Shared) (h0 : Heap) (H : Addr) (N : Nat) (x : Value) (T : List Value) : Result → Shared → Prop
  | mk {h : Heap} {tk : Nat} {m : Str → Option Value} {ys : List Value} {q : Nat} {qi : Int} {tq : Tok} (F : FL h0 s.heap.objs.size H h m ys) (m1 : m (Str.ofString "heap") = some (.ref H)) (m3 : m (Str.ofString "pos") = some (.int qi tq)) (hqi : qi = ((q : Nat) : Int))
      (m4 : m (Str.ofString "newitem") = some x) (hyl : ys.length = N) (hq : q < N) (hT : ys.set q x = T) : SdR s h0 H N x T (.ok .next) { s with heap := h, toks := tk }
inductive SuI (s : Shared) (h0 : Heap) (H : Addr) (D : Value → Prop) (g : Value → Value → Bool) (N : Nat) (b : Int) (t2 : Tok) (x : Value) (T : List Value × Nat) (n : Nat) : Shared → Prop
  | mk {h : Heap} {tk : Nat} {m : Str → Option Value} {ys : List Value} {q : Nat} {qi : Int} {tq : Tok} {ci : Int} {tc te : Tok} (F : FL h0 s.heap.objs.size H h m ys) (m1 : m (Str.ofString "heap") = some (.ref H)) (m2 : m (Str.ofString "startpos") = some (.int b t2)) (m5 : m (Str.ofString "endpos") = some (.int (N : Nat) te)) (m3 : m (Str.ofString "pos") = some (.int qi tq)) (hqi : qi = ((q : Nat) : Int))
      (m6 : m (Str.ofString "childpos") = some (.int ci tc)) (hci : ci = 2 * (q : Int) + 1) (m4 : m (Str.ofString "newitem") = some x) (hyl : ys.length = N) (hyD : ∀ v ∈ ys, D v) (hq : q < N) (hsu : su g .none N ys q = T) (hn : n = N - q) : SuI s h0 H D g N b t2 x T n { s with heap := h, toks := tk }
inductive SuR (s : Shared) (h0 : Heap) (H : Addr) (D : Value → Prop) (N : Nat) (b : Int) (t2 : Tok) (x : Value) (T : List Value × Nat) : Result → Shared → Prop
  | mk {h : Heap} {tk : Nat} {m : Str → Option Value} {qi : Int} {tq : Tok} (F : FL h0 s.heap.objs.size H h m T.1) (m1 : m (Str.ofString "heap") = some (.ref H)) (m3 : m (Str.ofString "pos") = some (.int qi tq)) (hqi : qi = (T.2 : Int)) (m4 : m (Str.ofString "newitem") = some x) (m2 : m (Str.ofString "startpos") = some (.int b t2))
      (hyl : T.1.length = N) (hq : T.2 < N) (hyD : ∀ v ∈ T.1, D v) : SuR s h0 H D N b t2 x T (.ok .next) { s with heap := h, toks := tk }
inductive SuM (s : Shared) (h0 : Heap) (H : Addr) (g : Value → Value → Bool) (N : Nat) (b : Int) (t2 te : Tok) (qi : Int) (tq : Tok) (x : Value) (ys : List Value) (q : Nat) (T : List Value × Nat) : Flow → Shared → Prop
  | mk {h : Heap} {tk : Nat} {m : Str → Option Value} {ch : Nat} {ci : Int} {tc : Tok} (F : FL h0 s.heap.objs.size H h m ys) (m1 : m (Str.ofString "heap") = some (.ref H)) (m2 : m (Str.ofString "startpos") = some (.int b t2)) (m5 : m (Str.ofString "endpos") = some (.int (N : Nat) te)) (m3 : m (Str.ofString "pos") = some (.int qi tq))
      (m6 : m (Str.ofString "childpos") = some (.int ci tc)) (hci : ci = ((ch : Nat) : Int)) (m4 : m (Str.ofString "newitem") = some x) (hqc : q < ch) (hch : ch < N) (hsu : su g .none N (ys.set q (ys.getD ch .none)) ch = T) : SuM s h0 H g N b t2 te qi tq x ys q T .next { s with heap := h, toks := tk }

namespace N_siftdown_spec
noncomputable def stX0 (w : World) (A : Around) (E : Value → Shared → Prop) (s : Shared) (Q : Value → Shared → Prop) (hb : Heap) (D : Value → Prop) (lt : Value → Value → Bool) (H : Addr) (xs : List Value) (start pos : Nat) (a b : Int) (t1 t2 : Tok) (x : Value) : Prop := ∀ (X : KIn w hb) (C : CmpLt w hb D lt) (hr : Rm A 9) (kb : Kp hb s.heap) (hbn : hb.get? H = none) (hl : PL s.heap H xs) (hD : ∀ v ∈ xs, D v) (hx : xs[pos]? = some x) (hlen : xs.length < 2 ^ 20) (ha : a = (start : Int)) (hb' : b = (pos : Int)) (k : ∀ h' tk, KpB [H] s.heap h' → PL h' H (sd lt .none start x xs pos) → Q .none { s with heap := h', toks := tk }), wpAny (MM w) A (call (.ref 77) [.ref H, .int a t1, .int b t2]) Q E s
noncomputable def stX1 (w : World) (A : Around) (E : Value → Shared → Prop) (s : Shared) (Q : Value → Shared → Prop) (hb : Heap) (D : Value → Prop) (lt : Value → Value → Bool) (H : Addr) (xs : List Value) (start pos : Nat) (a b : Int) (t1 t2 : Tok) (x : Value) : Prop := ∀ (X : KIn w hb) (C : CmpLt w hb D lt) (hr : Rm A 9) (kb : Kp hb s.heap) (hbn : hb.get? H = none) (hl : PL s.heap H xs) (hD : ∀ v ∈ xs, D v) (hx : xs[pos]? = some x) (hlen : xs.length < 2 ^ 20) (ha : a = (start : Int)) (hb' : b = (pos : Int)) (k : ∀ h' tk, KpB [H] s.heap h' → PL h' H (sd (fun x p => lt p x) .none start x xs pos) → Q .none { s with heap := h', toks := tk }), wpAny (MM w) A (call (.ref 91) [.ref H, .int a t1, .int b t2]) Q E s
noncomputable abbrev T := World × Around × (Value → Shared → Prop) × Shared × (Value → Shared → Prop) × Heap × (Value → Prop) × (Value → Value → Bool) × Addr × (List Value) × Nat × Nat × Int × Int × Tok × Tok × Value
noncomputable def pX (x : T) : Prop := stX0 x.1 x.2.1 x.2.2.1 x.2.2.2.1 x.2.2.2.2.1 x.2.2.2.2.2.1 x.2.2.2.2.2.2.1 x.2.2.2.2.2.2.2.1 x.2.2.2.2.2.2.2.2.1 x.2.2.2.2.2.2.2.2.2.1 x.2.2.2.2.2.2.2.2.2.2.1 x.2.2.2.2.2.2.2.2.2.2.2.1 x.2.2.2.2.2.2.2.2.2.2.2.2.1 x.2.2.2.2.2.2.2.2.2.2.2.2.2.1 x.2.2.2.2.2.2.2.2.2.2.2.2.2.2.1 x.2.2.2.2.2.2.2.2.2.2.2.2.2.2.2.1 x.2.2.2.2.2.2.2.2.2.2.2.2.2.2.2.2 ∧ stX1 x.1 x.2.1 x.2.2.1 x.2.2.2.1 x.2.2.2.2.1 x.2.2.2.2.2.1 x.2.2.2.2.2.2.1 x.2.2.2.2.2.2.2.1 x.2.2.2.2.2.2.2.2.1 x.2.2.2.2.2.2.2.2.2.1 x.2.2.2.2.2.2.2.2.2.2.1 x.2.2.2.2.2.2.2.2.2.2.2.1 x.2.2.2.2.2.2.2.2.2.2.2.2.1 x.2.2.2.2.2.2.2.2.2.2.2.2.2.1 x.2.2.2.2.2.2.2.2.2.2.2.2.2.2.1 x.2.2.2.2.2.2.2.2.2.2.2.2.2.2.2.1 x.2.2.2.2.2.2.2.2.2.2.2.2.2.2.2.2
noncomputable def cX : T := @Classical.epsilon _ (ne2 neW (ne2 neA (ne2 neI (ne2 neS (ne2 neI (ne2 neI (ne2 neI (ne2 neI (ne2 neI (ne2 neI (ne2 neI (ne2 neI (ne2 neI (ne2 neI (ne2 neI (ne2 neI neI)))))))))))))))) fun x => ¬ pX x
def w : World := cX.1
def A : Around := cX.2.1
def E : Value → Shared → Prop := cX.2.2.1
def s : Shared := cX.2.2.2.1
def Q : Value → Shared → Prop := cX.2.2.2.2.1
def hb : Heap := cX.2.2.2.2.2.1
def D : Value → Prop := cX.2.2.2.2.2.2.1
def lt : Value → Value → Bool := cX.2.2.2.2.2.2.2.1
def H : Addr := cX.2.2.2.2.2.2.2.2.1
def xs : List Value := cX.2.2.2.2.2.2.2.2.2.1
def start : Nat := cX.2.2.2.2.2.2.2.2.2.2.1
def pos : Nat := cX.2.2.2.2.2.2.2.2.2.2.2.1
def a : Int := cX.2.2.2.2.2.2.2.2.2.2.2.2.1
def b : Int := cX.2.2.2.2.2.2.2.2.2.2.2.2.2.1
def t1 : Tok := cX.2.2.2.2.2.2.2.2.2.2.2.2.2.2.1
def t2 : Tok := cX.2.2.2.2.2.2.2.2.2.2.2.2.2.2.2.1
def x : Value := cX.2.2.2.2.2.2.2.2.2.2.2.2.2.2.2.2
theorem pfX0 : stX0 w A E s Q hb D lt H xs start pos a b t1 t2 x := by
  intro X C hr kb hbn hl hD hx hlen ha hb' k
  refine callT (X.keeps kb) (by k_is) (by k_is) hr (BindsTo.of_eq rfl) (locs rfl) (fun h₁ F₁ => ?_)
  have F := FL.start hl F₁
  have k0 : Kp hb (hideAll s.heap [H]) := hide_base kb hbn
  generalize hh : hideAll s.heap [H] = h0 at F k0
  have hp : pos < xs.length := (List.getElem?_eq_some_iff.mp hx).1
  refine wpAny_execs_cons (wpAny_Assign_Name (Subscript_ (nmL F.fr rfl (nmL F.fr rfl (itemL F.ls hb' (by lia) hx (F.st fun h₂ F₂ => ?_))))))
  dsimp only
  clear F F₁ h₁
  have hDx : D x := hD x (List.mem_of_getElem? hx)
  generalize hT : sd lt .none start x xs pos = T at k
  refine wpAny_execs_cons (wpAny_While (codeAny_mono (R := SdR s h0 H xs.length x T) (codeAny_whileLoop (SdI s h0 H D lt start xs.length a t1 x T) ?_ pos (SdI.mk F₂ rfl rfl rfl hb' rfl rfl hD hp hT)) ?_))
  · rintro n s' ⟨F, m1, m2, m3, hqi, m4, hyl, hyD, hq, hsd⟩
    rename_i h' tk m ys qi tq
    refine wpAny_isTrue_Compare1 (nmL F.fr m3 (nmL F.fr m2 (PyProof.Rows.gt_int (wpAny_truthy_bool ?_))))
    rw [sd_eq] at hsd
    by_cases hlt : start < n
    · have hlt' : a < qi := by lia
      rw [if_pos hlt] at hsd
      simp only [hlt', decide_true, if_true]
      have e1 : (qi - 1).fdiv (2 ^ Int.toNat 1) = (((n - 1) / 2 : Nat) : Int) := by rw [hqi]; exact fdiv2 n (by lia)
      have hpp : (n - 1) / 2 < ys.length := by lia
      have hpe : ys[(n - 1) / 2]? = some (ys.getD ((n - 1) / 2) .none) := getD_some hpp
      generalize hpv : ys.getD ((n - 1) / 2) .none = pv at hsd hpe
      have hDp : D pv := hyD _ (List.mem_of_getElem? hpe)
      refine wpAny_execs_cons (wpAny_Assign_Name (wpAny_BinOp (wpAny_BinOp (nmL F.fr m3 (wpAny_Constant_int (PyProof.Rows.sub_int (wpAny_Constant_int (rshift_int (by decide) (F.st fun h₂ F₂ => ?_)))))))))
      dsimp only
      refine wpAny_execs_cons (wpAny_Assign_Name (Subscript_ (nmL F₂.fr m1 (nmL F₂.fr rfl (itemL F₂.ls e1 (by lia) hpe (F₂.st fun h₃ F₃ => ?_))))))
      dsimp only
      refine wpAny_execs_cons (wpAny_If (wpAny_isTrue_Compare1 (nmL F₃.fr m4 (nmL F₃.fr rfl (C x pv hDx hDp _ _ _ _ (hr.deep _) (k0.trans F₃.fr.keep) fun h₄ tk₄ k₄ => wpAny_truthy_bool ?_)))))
      have F₄ := F₃.kp k₄
      cases hc : lt x pv with
      | true =>
        rw [hc, if_pos rfl] at hsd
        simp only [if_true]
        refine wpAny_execs_cons (wpAny_Assign_Subscript (nmL F₄.fr rfl (nmL F₄.fr m1 (nmL F₄.fr m3 (setL F₄.ls hqi (by lia) (by lia) fun h₅ hl₅ hs₅ => ?_)))))
        dsimp only
        have F₅ := F₄.write hl₅ hs₅
        refine wpAny_execs_cons (wpAny_Assign_Name (nmL F₅.fr rfl (F₅.st fun h₆ F₆ => ?_)))
        dsimp only
        refine wpAny_execs_cons (wpAny_Continue ?_)
        exact ⟨(n - 1) / 2, by lia, SdI.mk F₆ m1 m2 rfl e1 m4 (by simp [hyl]) (fun v hv => (List.mem_or_eq_of_mem_set hv).elim (hyD v) (fun e => e ▸ hDp)) (by lia) hsd⟩
      | false =>
        rw [hc, if_neg (by decide)] at hsd
        simp only [Bool.false_eq_true, if_false]
        refine wpAny_execs_nil (wpAny_execs_cons (wpAny_Break ?_))
        exact SdR.mk F₄ m1 m3 hqi m4 hyl hq hsd
    · have hlt' : ¬ (a < qi) := by lia
      rw [if_neg hlt] at hsd
      simp only [hlt', decide_false, Bool.false_eq_true, if_false]
      exact wpAny_execs_nil (SdR.mk F m1 m3 hqi m4 hyl hq hsd)
  · rintro r s' ⟨F, m1, m3, hqi, m4, hyl, hq, hT⟩
    rename_i h' tk m ys q qi tq
    dsimp only
    refine wpAny_execs_cons (wpAny_Assign_Subscript (nmL F.fr m4 (nmL F.fr m1 (nmL F.fr m3 (setL F.ls hqi (by lia) (by lia) fun h₃ hl₃ hs₃ => ?_)))))
    dsimp only
    refine wpAny_execs_nil ?_
    dsimp only
    have F := F.write hl₃ hs₃
    exact k _ _ (kpB_hide (hh ▸ F.fr.keep)) (hT ▸ F.ls)
theorem pfX1 : stX1 w A E s Q hb D lt H xs start pos a b t1 t2 x := by
  intro X C hr kb hbn hl hD hx hlen ha hb' k
  refine callT (X.keeps kb) (by k_is) (by k_is) hr (BindsTo.of_eq rfl) (locs rfl) (fun h₁ F₁ => ?_)
  have F := FL.start hl F₁
  have k0 : Kp hb (hideAll s.heap [H]) := hide_base kb hbn
  generalize hh : hideAll s.heap [H] = h0 at F k0
  have hp : pos < xs.length := (List.getElem?_eq_some_iff.mp hx).1
  refine wpAny_execs_cons (wpAny_Assign_Name (Subscript_ (nmL F.fr rfl (nmL F.fr rfl (itemL F.ls hb' (by lia) hx (F.st fun h₂ F₂ => ?_))))))
  dsimp only
  clear F F₁ h₁
  have hDx : D x := hD x (List.mem_of_getElem? hx)
  generalize hT : sd (fun x p => lt p x) .none start x xs pos = T at k
  refine wpAny_execs_cons (wpAny_While (codeAny_mono (R := SdR s h0 H xs.length x T) (codeAny_whileLoop (SdI s h0 H D (fun x p => lt p x) start xs.length a t1 x T) ?_ pos (SdI.mk F₂ rfl rfl rfl hb' rfl rfl hD hp hT)) ?_))
  · rintro n s' ⟨F, m1, m2, m3, hqi, m4, hyl, hyD, hq, hsd⟩
    rename_i h' tk m ys qi tq
    refine wpAny_isTrue_Compare1 (nmL F.fr m3 (nmL F.fr m2 (PyProof.Rows.gt_int (wpAny_truthy_bool ?_))))
    rw [sd_eq] at hsd
    by_cases hlt : start < n
    · have hlt' : a < qi := by lia
      rw [if_pos hlt] at hsd
      simp only [hlt', decide_true, if_true]
      have e1 : (qi - 1).fdiv (2 ^ Int.toNat 1) = (((n - 1) / 2 : Nat) : Int) := by rw [hqi]; exact fdiv2 n (by lia)
      have hpp : (n - 1) / 2 < ys.length := by lia
      have hpe : ys[(n - 1) / 2]? = some (ys.getD ((n - 1) / 2) .none) := getD_some hpp
      generalize hpv : ys.getD ((n - 1) / 2) .none = pv at hsd hpe
      have hDp : D pv := hyD _ (List.mem_of_getElem? hpe)
      refine wpAny_execs_cons (wpAny_Assign_Name (wpAny_BinOp (wpAny_BinOp (nmL F.fr m3 (wpAny_Constant_int (PyProof.Rows.sub_int (wpAny_Constant_int (rshift_int (by decide) (F.st fun h₂ F₂ => ?_)))))))))
      dsimp only
      refine wpAny_execs_cons (wpAny_Assign_Name (Subscript_ (nmL F₂.fr m1 (nmL F₂.fr rfl (itemL F₂.ls e1 (by lia) hpe (F₂.st fun h₃ F₃ => ?_))))))
      dsimp only
      refine wpAny_execs_cons (wpAny_If (wpAny_isTrue_Compare1 (nmL F₃.fr rfl (nmL F₃.fr m4 (C pv x hDp hDx _ _ _ _ (hr.deep _) (k0.trans F₃.fr.keep) fun h₄ tk₄ k₄ => wpAny_truthy_bool ?_)))))
      have F₄ := F₃.kp k₄
      cases hc : lt pv x with
      | true =>
        rw [hc, if_pos rfl] at hsd
        simp only [if_true]
        refine wpAny_execs_cons (wpAny_Assign_Subscript (nmL F₄.fr rfl (nmL F₄.fr m1 (nmL F₄.fr m3 (setL F₄.ls hqi (by lia) (by lia) fun h₅ hl₅ hs₅ => ?_)))))
        dsimp only
        have F₅ := F₄.write hl₅ hs₅
        refine wpAny_execs_cons (wpAny_Assign_Name (nmL F₅.fr rfl (F₅.st fun h₆ F₆ => ?_)))
        dsimp only
        refine wpAny_execs_cons (wpAny_Continue ?_)
        exact ⟨(n - 1) / 2, by lia, SdI.mk F₆ m1 m2 rfl e1 m4 (by simp [hyl]) (fun v hv => (List.mem_or_eq_of_mem_set hv).elim (hyD v) (fun e => e ▸ hDp)) (by lia) hsd⟩
      | false =>
        rw [hc, if_neg (by decide)] at hsd
        simp only [Bool.false_eq_true, if_false]
        refine wpAny_execs_nil (wpAny_execs_cons (wpAny_Break ?_))
        exact SdR.mk F₄ m1 m3 hqi m4 hyl hq hsd
    · have hlt' : ¬ (a < qi) := by lia
      rw [if_neg hlt] at hsd
      simp only [hlt', decide_false, Bool.false_eq_true, if_false]
      exact wpAny_execs_nil (SdR.mk F m1 m3 hqi m4 hyl hq hsd)
  · rintro r s' ⟨F, m1, m3, hqi, m4, hyl, hq, hT⟩
    rename_i h' tk m ys q qi tq
    dsimp only
    refine wpAny_execs_cons (wpAny_Assign_Subscript (nmL F.fr m4 (nmL F.fr m1 (nmL F.fr m3 (setL F.ls hqi (by lia) (by lia) fun h₃ hl₃ hs₃ => ?_)))))
    dsimp only
    refine wpAny_execs_nil ?_
    dsimp only
    have F := F.write hl₃ hs₃
    exact k _ _ (kpB_hide (hh ▸ F.fr.keep)) (hT ▸ F.ls)
theorem allX (x : T) : pX x := eps (P := pX) ⟨pfX0, pfX1⟩
end N_siftdown_spec
theorem siftdown_spec {w : World} {A : Around} {E : Value → Shared → Prop} {s : Shared} {Q : Value → Shared → Prop} {hb : Heap} {D : Value → Prop} {lt : Value → Value → Bool} {H : Addr} {xs : List Value} {start pos : Nat} {a b : Int} {t1 t2 : Tok} {x : Value} : N_siftdown_spec.stX0 w A E s Q hb D lt H xs start pos a b t1 t2 x := (N_siftdown_spec.allX (w, A, E, s, Q, hb, D, lt, H, xs, start, pos, a, b, t1, t2, x)).1
theorem siftdown_max_spec {w : World} {A : Around} {E : Value → Shared → Prop} {s : Shared} {Q : Value → Shared → Prop} {hb : Heap} {D : Value → Prop} {lt : Value → Value → Bool} {H : Addr} {xs : List Value} {start pos : Nat} {a b : Int} {t1 t2 : Tok} {x : Value} : N_siftdown_spec.stX1 w A E s Q hb D lt H xs start pos a b t1 t2 x := (N_siftdown_spec.allX (w, A, E, s, Q, hb, D, lt, H, xs, start, pos, a, b, t1, t2, x)).2
namespace N_siftup_spec
noncomputable def stX0 (w : World) (A : Around) (E : Value → Shared → Prop) (s : Shared) (Q : Value → Shared → Prop) (hb : Heap) (D : Value → Prop) (lt : Value → Value → Bool) (H : Addr) (xs : List Value) (pos : Nat) (b : Int) (t2 : Tok) (x : Value) : Prop := ∀ (X : KIn w hb) (C : CmpLt w hb D lt) (hr : Rm A 10) (kb : Kp hb s.heap) (hbn : hb.get? H = none) (hl : PL s.heap H xs) (hD : ∀ v ∈ xs, D v) (hx : xs[pos]? = some x) (hlen : xs.length < 2 ^ 20) (hb' : b = (pos : Int)) (k : ∀ h' tk, KpB [H] s.heap h' → PL h' H (sup lt lt .none x xs pos) → Q .none { s with heap := h', toks := tk }), wpAny (MM w) A (call (.ref 84) [.ref H, .int b t2]) Q E s
noncomputable def stX1 (w : World) (A : Around) (E : Value → Shared → Prop) (s : Shared) (Q : Value → Shared → Prop) (hb : Heap) (D : Value → Prop) (lt : Value → Value → Bool) (H : Addr) (xs : List Value) (pos : Nat) (b : Int) (t2 : Tok) (x : Value) : Prop := ∀ (X : KIn w hb) (C : CmpLt w hb D lt) (hr : Rm A 10) (kb : Kp hb s.heap) (hbn : hb.get? H = none) (hl : PL s.heap H xs) (hD : ∀ v ∈ xs, D v) (hx : xs[pos]? = some x) (hlen : xs.length < 2 ^ 20) (hb' : b = (pos : Int)) (k : ∀ h' tk, KpB [H] s.heap h' → PL h' H (sup (fun l r => lt r l) (fun x p => lt p x) .none x xs pos) → Q .none { s with heap := h', toks := tk }), wpAny (MM w) A (call (.ref 98) [.ref H, .int b t2]) Q E s
noncomputable abbrev T := World × Around × (Value → Shared → Prop) × Shared × (Value → Shared → Prop) × Heap × (Value → Prop) × (Value → Value → Bool) × Addr × (List Value) × Nat × Int × Tok × Value
noncomputable def pX (x : T) : Prop := stX0 x.1 x.2.1 x.2.2.1 x.2.2.2.1 x.2.2.2.2.1 x.2.2.2.2.2.1 x.2.2.2.2.2.2.1 x.2.2.2.2.2.2.2.1 x.2.2.2.2.2.2.2.2.1 x.2.2.2.2.2.2.2.2.2.1 x.2.2.2.2.2.2.2.2.2.2.1 x.2.2.2.2.2.2.2.2.2.2.2.1 x.2.2.2.2.2.2.2.2.2.2.2.2.1 x.2.2.2.2.2.2.2.2.2.2.2.2.2 ∧ stX1 x.1 x.2.1 x.2.2.1 x.2.2.2.1 x.2.2.2.2.1 x.2.2.2.2.2.1 x.2.2.2.2.2.2.1 x.2.2.2.2.2.2.2.1 x.2.2.2.2.2.2.2.2.1 x.2.2.2.2.2.2.2.2.2.1 x.2.2.2.2.2.2.2.2.2.2.1 x.2.2.2.2.2.2.2.2.2.2.2.1 x.2.2.2.2.2.2.2.2.2.2.2.2.1 x.2.2.2.2.2.2.2.2.2.2.2.2.2
noncomputable def cX : T := @Classical.epsilon _ (ne2 neW (ne2 neA (ne2 neI (ne2 neS (ne2 neI (ne2 neI (ne2 neI (ne2 neI (ne2 neI (ne2 neI (ne2 neI (ne2 neI (ne2 neI neI))))))))))))) fun x => ¬ pX x
def w : World := cX.1
def A : Around := cX.2.1
def E : Value → Shared → Prop := cX.2.2.1
def s : Shared := cX.2.2.2.1
def Q : Value → Shared → Prop := cX.2.2.2.2.1
def hb : Heap := cX.2.2.2.2.2.1
def D : Value → Prop := cX.2.2.2.2.2.2.1
def lt : Value → Value → Bool := cX.2.2.2.2.2.2.2.1
def H : Addr := cX.2.2.2.2.2.2.2.2.1
def xs : List Value := cX.2.2.2.2.2.2.2.2.2.1
def pos : Nat := cX.2.2.2.2.2.2.2.2.2.2.1
def b : Int := cX.2.2.2.2.2.2.2.2.2.2.2.1
def t2 : Tok := cX.2.2.2.2.2.2.2.2.2.2.2.2.1
def x : Value := cX.2.2.2.2.2.2.2.2.2.2.2.2.2
theorem pfX0 : stX0 w A E s Q hb D lt H xs pos b t2 x := by
  intro X C hr kb hbn hl hD hx hlen hb' k
  refine callT (X.keeps kb) (by k_is) (by k_is) hr (BindsTo.of_eq rfl) (locs rfl) (fun h₁ F₁ => ?_)
  have F := FL.start hl F₁
  have k0 : Kp hb (hideAll s.heap [H]) := hide_base kb hbn
  generalize hh : hideAll s.heap [H] = h0 at F k0
  have X0 := X.keeps k0
  have hp : pos < xs.length := (List.getElem?_eq_some_iff.mp hx).1
  have hn0 : h0.get? H = none := F.no
  refine wpAny_execs_cons (wpAny_Assign_Name (Call_ (nmB (X0.keeps F.fr.keep) (by k_is) (by k_is) (PyProof.Rows.callWith_builtin1 (args_cons (nmL F.fr rfl (args_nil (lenL F.ls (by lia) fun _ => F.st fun h₂ F₂ => ?_))))))))
  dsimp only
  refine wpAny_execs_cons (wpAny_Assign_Name (nmL F₂.fr rfl (F₂.st fun h₃ F₃ => ?_)))
  dsimp only
  refine wpAny_execs_cons (wpAny_Assign_Name (Subscript_ (nmL F₃.fr rfl (nmL F₃.fr rfl (itemL F₃.ls hb' (by lia) hx (F₃.st fun h₄ F₄ => ?_))))))
  dsimp only
  refine wpAny_execs_cons (wpAny_Assign_Name (wpAny_BinOp (wpAny_BinOp (wpAny_Constant_int (nmL F₄.fr rfl (PyProof.Rows.mul_int (wpAny_Constant_int (PyProof.Rows.add_int (F₄.st fun h₅ F₅ => ?_)))))))))
  dsimp only
  have hDx : D x := hD x (List.mem_of_getElem? hx)
  generalize hT : su lt .none xs.length xs pos = T
  have hk : sup lt lt .none x xs pos = sd lt .none pos x (T.1.set T.2 x) T.2 := by unfold sup; rw [hT]
  rw [hk] at k
  clear hk
  refine wpAny_execs_cons (wpAny_While (codeAny_mono (R := SuR s h0 H D xs.length b t2 x T) (codeAny_whileLoop (SuI s h0 H D lt xs.length b t2 x T) ?_ (xs.length - pos) (SuI.mk (q := pos) F₅ rfl rfl rfl rfl hb' rfl (by rw [hb']) rfl rfl hD hp hT rfl)) ?_))
  · rintro n s' ⟨F, m1, m2, m5, m3, hqi, m6, hci, m4, hyl, hyD, hq, hsu, rfl⟩
    rename_i h' tk m ys q qi tq ci tc te
    refine wpAny_isTrue_Compare1 (nmL F.fr m6 (nmL F.fr m5 (PyProof.Rows.lt_int (wpAny_truthy_bool ?_))))
    rw [su_eq] at hsu
    by_cases hlt : 2 * q + 1 < xs.length
    · have hlt' : ci < ((xs.length : Nat) : Int) := by lia
      rw [if_pos hlt] at hsu
      simp only [hlt', decide_true, if_true]
      refine wpAny_execs_cons (wpAny_Assign_Name (wpAny_BinOp (nmL F.fr m6 (wpAny_Constant_int (PyProof.Rows.add_int (F.st fun h₂ F₂ => ?_))))))
      dsimp only
      have hl1 : ys[2 * q + 1]? = some (ys.getD (2 * q + 1) .none) := getD_some (by lia)
      refine wpAny_execs_cons (wpAny_mono (Q := SuM s h0 H lt xs.length b t2 te qi tq x ys q T)
        (wpAny_If (isTrue_and (wpAny_isTrue_Compare1 (nmL F₂.fr rfl (nmL F₂.fr m5 (PyProof.Rows.lt_int (wpAny_truthy_bool ?_))))))) ?_ (fun _ _ z => z))
      · by_cases hr2 : 2 * q + 2 < xs.length
        · have hr2' : ci + 1 < ((xs.length : Nat) : Int) := by lia
          have hl2 : ys[2 * q + 2]? = some (ys.getD (2 * q + 2) .none) := getD_some (by lia)
          simp only [hr2', decide_true, if_true]
          refine isTrue_and (isTrue_not (wpAny_isTrue_Compare1 (Subscript_ (nmL F₂.fr m1 (nmL F₂.fr m6 (itemL F₂.ls (i := 2 * q + 1) (by lia) (by lia) hl1 (Subscript_ (nmL F₂.fr m1 (nmL F₂.fr rfl (itemL F₂.ls (i := 2 * q + 2) (by lia) (by lia) hl2 (C _ _ (hyD _ (List.mem_of_getElem? hl1)) (hyD _ (List.mem_of_getElem? hl2)) _ _ _ _ ((hr.deep _).le (by lia)) (k0.trans F₂.fr.keep) fun h₄ tk₄ k₄ => wpAny_truthy_bool ?_)))))))))))
          have F₄ := F₂.kp k₄
          cases hc : lt (ys.getD (2 * q + 1) .none) (ys.getD (2 * q + 2) .none) with
          | true =>
            rw [hc] at hsu
            simp only [hr2, decide_true, Bool.not_true, Bool.and_false, Bool.false_eq_true, if_false] at hsu
            simp only [Bool.not_true, Bool.false_eq_true, if_false]
            exact wpAny_execs_nil (SuM.mk (ch := 2 * q + 1) F₄ m1 m2 m5 m3 m6 (by lia) m4 (by lia) hlt hsu)
          | false =>
            rw [hc] at hsu
            simp only [hr2, decide_true, Bool.not_false, Bool.and_true, if_true] at hsu
            simp only [Bool.not_false, if_true]
            refine isTrue_and_nil ?_
            simp only [if_true]
            refine wpAny_execs_cons (wpAny_Assign_Name (nmL F₄.fr rfl (F₄.st fun h₅ F₅ => ?_)))
            dsimp only
            exact wpAny_execs_nil (SuM.mk (ch := 2 * q + 2) F₅ m1 m2 m5 m3 rfl (by lia) m4 (by lia) hr2 hsu)
        · have hr2' : ¬ (ci + 1 < ((xs.length : Nat) : Int)) := by lia
          simp only [hr2, decide_false, Bool.false_and, Bool.false_eq_true, if_false] at hsu
          simp only [hr2', decide_false, Bool.false_eq_true, if_false]
          exact wpAny_execs_nil (SuM.mk (ch := 2 * q + 1) F₂ m1 m2 m5 m3 m6 (by lia) m4 (by lia) hlt hsu)
      · rintro f s' ⟨F, m1, m2, m5, m3, m6, hci', m4, hqc, hch, hsu⟩
        rename_i h' tk m' ch ci' tc'
        dsimp only
        have hle : ys[ch]? = some (ys.getD ch .none) := getD_some (by lia)
        refine wpAny_execs_cons (wpAny_Assign_Subscript (Subscript_ (nmL F.fr m1 (nmL F.fr m6 (itemL F.ls hci' (by lia) hle (nmL F.fr m1 (nmL F.fr m3 (setL F.ls hqi (by lia) (by lia) fun h₅ hl₅ hs₅ => ?_))))))))
        dsimp only
        have F₅ := F.write hl₅ hs₅
        refine wpAny_execs_cons (wpAny_Assign_Name (nmL F₅.fr m6 (F₅.st fun h₆ F₆ => ?_)))
        dsimp only
        refine wpAny_execs_cons (wpAny_Assign_Name (wpAny_BinOp (wpAny_BinOp (wpAny_Constant_int (nmL F₆.fr rfl (PyProof.Rows.mul_int (wpAny_Constant_int (PyProof.Rows.add_int (F₆.st fun h₇ F₇ => ?_)))))))))
        dsimp only
        refine wpAny_execs_nil ?_
        exact ⟨xs.length - ch, by lia, SuI.mk (q := ch) F₇ m1 m2 m5 rfl hci' rfl (by rw [hci']) m4 (by simp [hyl]) (fun v hv => (List.mem_or_eq_of_mem_set hv).elim (hyD v) (fun e => e ▸ hyD _ (List.mem_of_getElem? hle))) hch hsu rfl⟩
    · have hlt' : ¬ (ci < ((xs.length : Nat) : Int)) := by lia
      rw [if_neg hlt] at hsu
      simp only [hlt', decide_false, Bool.false_eq_true, if_false]
      subst hsu
      exact wpAny_execs_nil (SuR.mk F m1 m3 hqi m4 m2 hyl hq hyD)
  · rintro r s' ⟨F, m1, m3, hqi, m4, m2, hyl, hq, hyD⟩
    rename_i h' tk m qi tq
    dsimp only
    refine wpAny_execs_cons (wpAny_Assign_Subscript (nmL F.fr m4 (nmL F.fr m1 (nmL F.fr m3 (setL F.ls hqi (by lia) (by lia) fun h₃ hl₃ hs₃ => ?_)))))
    dsimp only
    have F := F.write hl₃ hs₃
    refine wpAny_execs_cons (wpAny_Expr (Call_ (nmG (X0.keeps F.fr.keep) (by k_is) (callWith_F (args_cons (nmL F.fr m1 (args_cons (nmL F.fr m2 (args_cons (nmL F.fr m3 (args_nil ⟨FnAt.of (X0.keeps F.fr.keep) (by k_is), ?_⟩)))))))))))
    refine siftdown_spec X C (hr.deep _) (k0.trans F.fr.keep) hbn F.ls (fun v hv => (List.mem_or_eq_of_mem_set hv).elim (hyD v) (fun e => e ▸ hDx)) (by rw [List.getElem?_set_self (by lia)]) (by simp; lia) hb' hqi (fun h₄ tk₄ k₄ hl₄ => ?_)
    dsimp only
    refine wpAny_execs_nil ?_
    dsimp only
    have F := F.but k₄ hl₄
    exact k _ _ (kpB_hide (hh ▸ F.fr.keep)) F.ls
theorem pfX1 : stX1 w A E s Q hb D lt H xs pos b t2 x := by
  intro X C hr kb hbn hl hD hx hlen hb' k
  refine callT (X.keeps kb) (by k_is) (by k_is) hr (BindsTo.of_eq rfl) (locs rfl) (fun h₁ F₁ => ?_)
  have F := FL.start hl F₁
  have k0 : Kp hb (hideAll s.heap [H]) := hide_base kb hbn
  generalize hh : hideAll s.heap [H] = h0 at F k0
  have X0 := X.keeps k0
  have hp : pos < xs.length := (List.getElem?_eq_some_iff.mp hx).1
  have hn0 : h0.get? H = none := F.no
  refine wpAny_execs_cons (wpAny_Assign_Name (Call_ (nmB (X0.keeps F.fr.keep) (by k_is) (by k_is) (PyProof.Rows.callWith_builtin1 (args_cons (nmL F.fr rfl (args_nil (lenL F.ls (by lia) fun _ => F.st fun h₂ F₂ => ?_))))))))
  dsimp only
  refine wpAny_execs_cons (wpAny_Assign_Name (nmL F₂.fr rfl (F₂.st fun h₃ F₃ => ?_)))
  dsimp only
  refine wpAny_execs_cons (wpAny_Assign_Name (Subscript_ (nmL F₃.fr rfl (nmL F₃.fr rfl (itemL F₃.ls hb' (by lia) hx (F₃.st fun h₄ F₄ => ?_))))))
  dsimp only
  refine wpAny_execs_cons (wpAny_Assign_Name (wpAny_BinOp (wpAny_BinOp (wpAny_Constant_int (nmL F₄.fr rfl (PyProof.Rows.mul_int (wpAny_Constant_int (PyProof.Rows.add_int (F₄.st fun h₅ F₅ => ?_)))))))))
  dsimp only
  have hDx : D x := hD x (List.mem_of_getElem? hx)
  generalize hT : su (fun l r => lt r l) .none xs.length xs pos = T
  have hk : sup (fun l r => lt r l) (fun x p => lt p x) .none x xs pos = sd (fun x p => lt p x) .none pos x (T.1.set T.2 x) T.2 := by unfold sup; rw [hT]
  rw [hk] at k
  clear hk
  refine wpAny_execs_cons (wpAny_While (codeAny_mono (R := SuR s h0 H D xs.length b t2 x T) (codeAny_whileLoop (SuI s h0 H D (fun l r => lt r l) xs.length b t2 x T) ?_ (xs.length - pos) (SuI.mk (q := pos) F₅ rfl rfl rfl rfl hb' rfl (by rw [hb']) rfl rfl hD hp hT rfl)) ?_))
  · rintro n s' ⟨F, m1, m2, m5, m3, hqi, m6, hci, m4, hyl, hyD, hq, hsu, rfl⟩
    rename_i h' tk m ys q qi tq ci tc te
    refine wpAny_isTrue_Compare1 (nmL F.fr m6 (nmL F.fr m5 (PyProof.Rows.lt_int (wpAny_truthy_bool ?_))))
    rw [su_eq] at hsu
    by_cases hlt : 2 * q + 1 < xs.length
    · have hlt' : ci < ((xs.length : Nat) : Int) := by lia
      rw [if_pos hlt] at hsu
      simp only [hlt', decide_true, if_true]
      refine wpAny_execs_cons (wpAny_Assign_Name (wpAny_BinOp (nmL F.fr m6 (wpAny_Constant_int (PyProof.Rows.add_int (F.st fun h₂ F₂ => ?_))))))
      dsimp only
      have hl1 : ys[2 * q + 1]? = some (ys.getD (2 * q + 1) .none) := getD_some (by lia)
      refine wpAny_execs_cons (wpAny_mono (Q := SuM s h0 H (fun l r => lt r l) xs.length b t2 te qi tq x ys q T)
        (wpAny_If (isTrue_and (wpAny_isTrue_Compare1 (nmL F₂.fr rfl (nmL F₂.fr m5 (PyProof.Rows.lt_int (wpAny_truthy_bool ?_))))))) ?_ (fun _ _ z => z))
      · by_cases hr2 : 2 * q + 2 < xs.length
        · have hr2' : ci + 1 < ((xs.length : Nat) : Int) := by lia
          have hl2 : ys[2 * q + 2]? = some (ys.getD (2 * q + 2) .none) := getD_some (by lia)
          simp only [hr2', decide_true, if_true]
          refine isTrue_and (isTrue_not (wpAny_isTrue_Compare1 (Subscript_ (nmL F₂.fr m1 (nmL F₂.fr rfl (itemL F₂.ls (i := 2 * q + 2) (by lia) (by lia) hl2 (Subscript_ (nmL F₂.fr m1 (nmL F₂.fr m6 (itemL F₂.ls (i := 2 * q + 1) (by lia) (by lia) hl1 (C _ _ (hyD _ (List.mem_of_getElem? hl2)) (hyD _ (List.mem_of_getElem? hl1)) _ _ _ _ ((hr.deep _).le (by lia)) (k0.trans F₂.fr.keep) fun h₄ tk₄ k₄ => wpAny_truthy_bool ?_)))))))))))
          have F₄ := F₂.kp k₄
          cases hc : lt (ys.getD (2 * q + 2) .none) (ys.getD (2 * q + 1) .none) with
          | true =>
            rw [hc] at hsu
            simp only [hr2, decide_true, Bool.not_true, Bool.and_false, Bool.false_eq_true, if_false] at hsu
            simp only [Bool.not_true, Bool.false_eq_true, if_false]
            exact wpAny_execs_nil (SuM.mk (ch := 2 * q + 1) F₄ m1 m2 m5 m3 m6 (by lia) m4 (by lia) hlt hsu)
          | false =>
            rw [hc] at hsu
            simp only [hr2, decide_true, Bool.not_false, Bool.and_true, if_true] at hsu
            simp only [Bool.not_false, if_true]
            refine isTrue_and_nil ?_
            simp only [if_true]
            refine wpAny_execs_cons (wpAny_Assign_Name (nmL F₄.fr rfl (F₄.st fun h₅ F₅ => ?_)))
            dsimp only
            exact wpAny_execs_nil (SuM.mk (ch := 2 * q + 2) F₅ m1 m2 m5 m3 rfl (by lia) m4 (by lia) hr2 hsu)
        · have hr2' : ¬ (ci + 1 < ((xs.length : Nat) : Int)) := by lia
          simp only [hr2, decide_false, Bool.false_and, Bool.false_eq_true, if_false] at hsu
          simp only [hr2', decide_false, Bool.false_eq_true, if_false]
          exact wpAny_execs_nil (SuM.mk (ch := 2 * q + 1) F₂ m1 m2 m5 m3 m6 (by lia) m4 (by lia) hlt hsu)
      · rintro f s' ⟨F, m1, m2, m5, m3, m6, hci', m4, hqc, hch, hsu⟩
        rename_i h' tk m' ch ci' tc'
        dsimp only
        have hle : ys[ch]? = some (ys.getD ch .none) := getD_some (by lia)
        refine wpAny_execs_cons (wpAny_Assign_Subscript (Subscript_ (nmL F.fr m1 (nmL F.fr m6 (itemL F.ls hci' (by lia) hle (nmL F.fr m1 (nmL F.fr m3 (setL F.ls hqi (by lia) (by lia) fun h₅ hl₅ hs₅ => ?_))))))))
        dsimp only
        have F₅ := F.write hl₅ hs₅
        refine wpAny_execs_cons (wpAny_Assign_Name (nmL F₅.fr m6 (F₅.st fun h₆ F₆ => ?_)))
        dsimp only
        refine wpAny_execs_cons (wpAny_Assign_Name (wpAny_BinOp (wpAny_BinOp (wpAny_Constant_int (nmL F₆.fr rfl (PyProof.Rows.mul_int (wpAny_Constant_int (PyProof.Rows.add_int (F₆.st fun h₇ F₇ => ?_)))))))))
        dsimp only
        refine wpAny_execs_nil ?_
        exact ⟨xs.length - ch, by lia, SuI.mk (q := ch) F₇ m1 m2 m5 rfl hci' rfl (by rw [hci']) m4 (by simp [hyl]) (fun v hv => (List.mem_or_eq_of_mem_set hv).elim (hyD v) (fun e => e ▸ hyD _ (List.mem_of_getElem? hle))) hch hsu rfl⟩
    · have hlt' : ¬ (ci < ((xs.length : Nat) : Int)) := by lia
      rw [if_neg hlt] at hsu
      simp only [hlt', decide_false, Bool.false_eq_true, if_false]
      subst hsu
      exact wpAny_execs_nil (SuR.mk F m1 m3 hqi m4 m2 hyl hq hyD)
  · rintro r s' ⟨F, m1, m3, hqi, m4, m2, hyl, hq, hyD⟩
    rename_i h' tk m qi tq
    dsimp only
    refine wpAny_execs_cons (wpAny_Assign_Subscript (nmL F.fr m4 (nmL F.fr m1 (nmL F.fr m3 (setL F.ls hqi (by lia) (by lia) fun h₃ hl₃ hs₃ => ?_)))))
    dsimp only
    have F := F.write hl₃ hs₃
    refine wpAny_execs_cons (wpAny_Expr (Call_ (nmG (X0.keeps F.fr.keep) (by k_is) (callWith_F (args_cons (nmL F.fr m1 (args_cons (nmL F.fr m2 (args_cons (nmL F.fr m3 (args_nil ⟨FnAt.of (X0.keeps F.fr.keep) (by k_is), ?_⟩)))))))))))
    refine siftdown_max_spec X C (hr.deep _) (k0.trans F.fr.keep) hbn F.ls (fun v hv => (List.mem_or_eq_of_mem_set hv).elim (hyD v) (fun e => e ▸ hDx)) (by rw [List.getElem?_set_self (by lia)]) (by simp; lia) hb' hqi (fun h₄ tk₄ k₄ hl₄ => ?_)
    dsimp only
    refine wpAny_execs_nil ?_
    dsimp only
    have F := F.but k₄ hl₄
    exact k _ _ (kpB_hide (hh ▸ F.fr.keep)) F.ls
theorem allX (x : T) : pX x := eps (P := pX) ⟨pfX0, pfX1⟩
end N_siftup_spec
theorem siftup_spec {w : World} {A : Around} {E : Value → Shared → Prop} {s : Shared} {Q : Value → Shared → Prop} {hb : Heap} {D : Value → Prop} {lt : Value → Value → Bool} {H : Addr} {xs : List Value} {pos : Nat} {b : Int} {t2 : Tok} {x : Value} : N_siftup_spec.stX0 w A E s Q hb D lt H xs pos b t2 x := (N_siftup_spec.allX (w, A, E, s, Q, hb, D, lt, H, xs, pos, b, t2, x)).1
theorem siftup_max_spec {w : World} {A : Around} {E : Value → Shared → Prop} {s : Shared} {Q : Value → Shared → Prop} {hb : Heap} {D : Value → Prop} {lt : Value → Value → Bool} {H : Addr} {xs : List Value} {pos : Nat} {b : Int} {t2 : Tok} {x : Value} : N_siftup_spec.stX1 w A E s Q hb D lt H xs pos b t2 x := (N_siftup_spec.allX (w, A, E, s, Q, hb, D, lt, H, xs, pos, b, t2, x)).2
end Mine
namespace Mine
noncomputable abbrev Led := List (Addr × (Obj → Prop))
noncomputable abbrev isL (xs : List Value) : Obj → Prop := fun o => ∃ n, o = listOf xs.toArray n
structure Lg (h₀ : Heap) (L : Addr) (h : Heap) (m : Str → Option Value) (ls : Led) : Prop where
  ns : h.Ns L m
  keep : Kp h₀ h
  nL : h₀.get? L = none
  at_ : ∀ p ∈ ls, ∃ o, h.get? p.1 = some o ∧ p.2 o
  off : ∀ p ∈ ls, p.1 ≠ L ∧ h₀.get? p.1 = none
  nd : (ls.map (·.1)).Nodup
section
variable {h₀ h h' : Heap} {L a b : Addr} {m m' : Str → Option Value} {ls ls' : Led} {P P' : Obj → Prop} {xs : List Value}
theorem Lg.kp (F : Lg h₀ L h m ls) (k : Kp h h') : Lg h₀ L h' m ls :=
  ⟨F.ns.keeps k, F.keep.trans k, F.nL, fun p hp => by obtain ⟨o, e, q⟩ := F.at_ p hp; exact ⟨o, k _ _ e, q⟩, F.off, F.nd⟩
theorem Lg.get (F : Lg h₀ L h m ls) (hi : (a, P) ∈ ls) : ∃ o, h.get? a = some o ∧ P o := F.at_ _ hi
theorem Lg.pl (F : Lg h₀ L h m ls) (hi : (a, isL xs) ∈ ls) : PL h a xs := by obtain ⟨o, e, n, q⟩ := F.at_ _ hi; exact ⟨n, by rw [e, q]⟩
theorem Lg.set (F : Lg h₀ L h m ls) (hn : h'.Ns L m') (hs : Heap.SameBut L h h') : Lg h₀ L h' m' ls :=
  ⟨hn, fun b o e => (hs.2 b (fun q => by rw [q, F.nL] at e; cases e)).trans (F.keep b o e), F.nL, fun p hp => by obtain ⟨o, e, q⟩ := F.at_ p hp; exact ⟨o, (hs.2 _ (F.off p hp).1).trans e, q⟩, F.off, F.nd⟩
theorem nd_set : ∀ {ls : Led} (i : Nat), ls[i]? = some (a, P) → (ls.set i (a, P')).map (·.1) = ls.map (·.1)
  | [], _, h => by simp at h
  | (c, q) :: r, 0, h => by simp at h; simp [h.1]
  | x :: r, i + 1, h => by simp only [List.set_cons_succ, List.map_cons]; rw [nd_set (ls := r) i (by simpa using h)]
theorem nd_ne : ∀ {ls : Led} (i : Nat), ls[i]? = some (a, P) → (ls.map (·.1)).Nodup → ∀ p ∈ ls.set i (a, P'), p = (a, P') ∨ (p ∈ ls ∧ p.1 ≠ a)
  | [], _, h, _ => by simp at h
  | (c, q) :: r, 0, h, nd => by
    simp at h
    obtain ⟨rfl, rfl⟩ := h
    intro p hp
    simp only [List.set_cons_zero, List.mem_cons] at hp
    rcases hp with rfl | hp
    · exact .inl rfl
    · refine .inr ⟨.tail _ hp, fun e => ?_⟩
      simp only [List.map_cons, List.nodup_cons] at nd
      exact nd.1 (e ▸ List.mem_map_of_mem hp)
  | x :: r, i + 1, h, nd => by
    intro p hp
    simp only [List.map_cons, List.nodup_cons] at nd
    have h' : r[i]? = some (a, P) := by simpa using h
    simp only [List.set_cons_succ, List.mem_cons] at hp
    rcases hp with rfl | hp
    · refine .inr ⟨.head _, fun e => nd.1 ?_⟩
      rw [e]; exact List.mem_map_of_mem (f := (·.1)) (List.mem_of_getElem? h')
    · rcases nd_ne i h' nd.2 p hp with e | ⟨e1, e2⟩
      · exact .inl e
      · exact .inr ⟨.tail _ e1, e2⟩
theorem Lg.put (F : Lg h₀ L h m ls) (i : Nat) (hi : ls[i]? = some (a, P)) (hs : Heap.SameBut a h h') {o : Obj} (ho : h'.get? a = some o) (hP : P' o) : Lg h₀ L h' m (ls.set i (a, P')) := by
  have hm := List.mem_of_getElem? hi
  refine ⟨F.ns.sameBut hs (Ne.symm (F.off _ hm).1), fun b o e => (hs.2 b (fun q => by rw [q, (F.off _ hm).2] at e; cases e)).trans (F.keep b o e), F.nL, fun p hp => ?_, fun p hp => ?_, by rw [nd_set i hi]; exact F.nd⟩
  · rcases nd_ne i hi F.nd p hp with rfl | ⟨e1, e2⟩
    · exact ⟨o, ho, hP⟩
    · obtain ⟨o', e, q⟩ := F.at_ p e1
      exact ⟨o', (hs.2 _ e2).trans e, q⟩
  · rcases nd_ne i hi F.nd p hp with rfl | ⟨e1, e2⟩
    · exact F.off (a, P) hm
    · exact F.off p e1
theorem Lg.putL (F : Lg h₀ L h m ls) (i : Nat) (hi : ls[i]? = some (a, P)) (hs : Heap.SameBut a h h') {ys : List Value} (ho : PL h' a ys) : Lg h₀ L h' m (ls.set i (a, isL ys)) :=
  by obtain ⟨n, e⟩ := ho; exact F.put i hi hs e ⟨n, rfl⟩
theorem Lg.rebase (F : Lg h₀ L h m ls) : Lg (hideAll h (L :: ls.map (·.1))) L h m ls ∧ Kp h₀ (hideAll h (L :: ls.map (·.1))) := by
  refine ⟨⟨F.ns, hide_kp _ _, hideAll_none _ (.head _), F.at_, fun p hp => ⟨(F.off p hp).1, hideAll_none _ (.tail _ (List.mem_map_of_mem hp))⟩, F.nd⟩, fun b o e => hideAll_get _ (F.keep b o e) (fun q => ?_)⟩
  cases q with
  | head => rw [F.nL] at e; cases e
  | tail _ q =>
    obtain ⟨p, hp, rfl⟩ := List.mem_map.mp q
    rw [(F.off p hp).2] at e; cases e
theorem Lg.weak (F : Lg h₀ L h m ls) {h₁ : Heap} (k : Kp h₁ h₀) : Lg h₁ L h m ls := by
  have none_of : ∀ a, h₀.get? a = none → h₁.get? a = none := fun a e => by
    cases q : h₁.get? a with
    | none => rfl
    | some o => rw [k _ _ q] at e; cases e
  exact ⟨F.ns, k.trans F.keep, none_of _ F.nL, F.at_, fun p hp => ⟨(F.off p hp).1, none_of _ (F.off p hp).2⟩, F.nd⟩
theorem Lg.but (F : Lg h₀ L h m ls) {S : List Addr} (k : KpB S h h') (hS : ∀ a ∈ S, a ≠ L ∧ h₀.get? a = none) (hat : ∀ p ∈ ls', ∃ o, h'.get? p.1 = some o ∧ p.2 o) (he : ls'.map (·.1) = ls.map (·.1)) : Lg h₀ L h' m ls' := by
  refine ⟨?_, fun b o e => k b o (fun q => by rw [(hS b q).2] at e; cases e) (F.keep b o e), F.nL, hat, fun p hp => ?_, he ▸ F.nd⟩
  · obtain ⟨o, es, ep, e, r⟩ := F.ns
    exact ⟨o, es, ep, k _ _ (fun q => (hS L q).1 rfl) e, r⟩
  · have : p.1 ∈ ls.map (·.1) := he ▸ List.mem_map_of_mem hp
    obtain ⟨q, hq, e⟩ := List.mem_map.mp this
    rw [← e]; exact F.off q hq
theorem Lg.butL (F : Lg h₀ L h m ls) (i : Nat) (hi : ls[i]? = some (a, P)) (k : KpB [a] h h') {ys : List Value} (ho : PL h' a ys) : Lg h₀ L h' m (ls.set i (a, isL ys)) := by
  have hm := List.mem_of_getElem? hi
  refine F.but (S := [a]) k (fun c hc => by rw [List.mem_singleton.mp hc]; exact F.off _ hm) (fun p hp => ?_) (nd_set i hi)
  rcases nd_ne i hi F.nd p hp with rfl | ⟨e1, e2⟩
  · obtain ⟨n, e⟩ := ho; exact ⟨_, e, n, rfl⟩
  · obtain ⟨o', e, q⟩ := F.at_ p e1
    exact ⟨o', k _ _ (nin1 e2) e, q⟩
theorem Lg.new (F : Lg h₀ L h m ls) {o : Obj} (hn : h₀.get? a = none) (ho : h.get? a = some o) (hP : P o) (hL : a ≠ L) (ha : ∀ p ∈ ls, p.1 ≠ a) : Lg h₀ L h m ((a, P) :: ls) := by
  refine ⟨F.ns, F.keep, F.nL, fun p hp => ?_, fun p hp => ?_, ?_⟩
  · cases hp with
    | head => exact ⟨o, ho, hP⟩
    | tail _ q => exact F.at_ p q
  · cases hp with
    | head => exact ⟨hL, hn⟩
    | tail _ q => exact F.off p q
  · simp only [List.map_cons, List.nodup_cons]
    exact ⟨fun q => by obtain ⟨p, hp, e⟩ := List.mem_map.mp q; exact ha p hp e, F.nd⟩
theorem Lg.push (F : Lg h₀ L h m ls) (o : Obj) (hf : o.isFreed = false) (hP : P o) : Lg h₀ L (h.push o) m ((h.objs.size, P) :: ls) := by
  have F' := F.kp (Kp.push h o)
  refine F'.new ?_ (Heap.get?_push_size _ hf) hP ?_ ?_
  · cases q : h₀.get? h.objs.size with
    | none => rfl
    | some o => exact absurd (Heap.lt_size (F.keep _ _ q)) (Nat.lt_irrefl _)
  · obtain ⟨o, es, ep, e, r⟩ := F.ns
    exact Ne.symm (Nat.ne_of_lt (Heap.lt_size e))
  · intro p hp
    obtain ⟨o, e, _⟩ := F.at_ p hp
    exact Nat.ne_of_lt (Heap.lt_size e)
theorem Lg.fresh (F : Lg h₀ L h m ls) {o : Obj} (k : Kp h h') (hn : h.get? a = none) (ho : h'.get? a = some o) (hP : P o) : Lg h₀ L h' m ((a, P) :: ls) := by
  refine (F.kp k).new ?_ ho hP ?_ ?_
  · cases q : h₀.get? a with
    | none => rfl
    | some o => rw [F.keep _ _ q] at hn; cases hn
  · obtain ⟨o, es, ep, e, r⟩ := F.ns
    intro q; rw [q, e] at hn; cases hn
  · intro p hp q
    obtain ⟨o, e, _⟩ := F.at_ p hp
    rw [q, hn] at e; cases e
theorem Lg.drop (F : Lg h₀ L h m ((a, P) :: ls)) : Lg h₀ L h m ls :=
  ⟨F.ns, F.keep, F.nL, fun p hp => F.at_ p (.tail _ hp), fun p hp => F.off p (.tail _ hp), by have := F.nd; simp only [List.map_cons, List.nodup_cons] at this; exact this.2⟩
theorem Lg.start {h h₁ : Heap} (hat : ∀ p ∈ ls, ∃ o, h.get? p.1 = some o ∧ p.2 o) (nd : (ls.map (·.1)).Nodup) (F : Fr h L h₁ m) (hL : h.get? L = none) : Lg (hideAll h (ls.map (·.1))) L h₁ m ls := by
  refine ⟨F.ns, fun b o e => F.keep b o (of_hideAll _ e), ?_, fun p hp => by obtain ⟨o, e, q⟩ := hat p hp; exact ⟨o, F.keep _ _ e, q⟩, fun p hp => ⟨fun q => ?_, hideAll_none _ (List.mem_map_of_mem hp)⟩, nd⟩
  · cases q : (hideAll h (ls.map (·.1))).get? L with
    | none => rfl
    | some o => rw [of_hideAll _ q] at hL; cases hL
  · obtain ⟨o, e, _⟩ := hat p hp
    rw [q, hL] at e; cases e
theorem Lg.fin (F : Lg (hideAll h (ls.map (·.1))) L h' m ls') : KpB (ls.map (·.1)) h h' := kpB_hide F.keep
end
section
variable {w : World} {A : Around} {E : Value → Shared → Prop} {s : Shared} {env : Env} {h₀ : Heap} {L a : Addr} {m : Str → Option Value} {ls : Led} {Q : Value → Shared → Prop}
theorem Lg.nm {M : Model} {x : Str} {pos : Pos} {v : Value} (F : Lg h₀ L s.heap m ls) (hv : m x = some v) (h : Q v s) (eL : autoParam (env.locals = L) tcR) (hk : autoParam (env.scope.kind = .function) tcR)
    (hl : autoParam (env.kindOf x = some .local) tcR) (hb : autoParam ((x == ("__debug__" : Str)) = false) tcD) : wpAny M A (eval (.Name x pos) env) Q E s :=
  wpAny_Name (wpAny_loadName_local hk hl (eL ▸ F.ns) hv h) hb
theorem Lg.st {M : Model} {x : Str} {v : Value} {Q : Unit → Shared → Prop} (F : Lg h₀ L s.heap m ls)
    (h : ∀ h', Lg h₀ L h' (fun y => if y = x then some v else m y) ls → Q () { s with heap := h', toks := s.toks + 1 })
    (eL : autoParam (env.locals = L) tcR) (hk : autoParam (env.scope.kind = .function) tcR) (hl : autoParam (env.kindOf x = some .local) tcR) : wpAny M A (storeName env x v) Q E s := by
  subst eL
  exact wpAny_storeName_local hl F.ns (fun h' hn hs => h h' (F.set hn hs)) (by rw [hk]; rfl)
theorem hide_nil (h : Heap) : hideAll h [] = h := rfl
theorem hideKp {hb h : Heap} {S : List Addr} (kb : Kp hb h) (hn : ∀ a ∈ S, hb.get? a = none) : Kp hb (hideAll h S) :=
  fun b o e => hideAll_get _ (kb b o e) (fun q => by rw [hn b q] at e; cases e)
noncomputable abbrev isRI (x left step : Int) : Obj → Prop := fun o => o = { cls := .type "range_iterator", dict := none, data := .fields #[rawInt x, rawInt left, rawInt step], slots := #[] }
theorem Lg.rnext {x left step : Int} {Q : Option Value → Shared → Prop} (F : Lg h₀ L s.heap m ls) (i : Nat) (hi : ls[i]? = some (a, isRI x left step)) (hl : 0 < left)
    (h : ∀ h' t, Lg h₀ L h' m (ls.set i (a, isRI (x + step) (left - 1) step)) → Q (some (.int x t)) { s with heap := h', toks := s.toks + 1 }) : wpAny (MM w) A (pyNext (.ref a)) Q E s := by
  obtain ⟨o, e, rfl⟩ := F.get (List.mem_of_getElem? hi)
  exact wpAny_pyNext_range_item e hl (fun h' e' hs => h h' _ (F.put i hi hs e' rfl))
theorem Lg.ext {h h' : Heap} {P : Obj → Prop} (F : Lg h₀ L h m ((a, P) :: ls)) (k : Heap.ExtBut a h h') : Lg h₀ L h' m ls := by
  have off := F.off (a, P) (.head _)
  have nd := F.nd
  simp only [List.map_cons, List.nodup_cons] at nd
  refine ⟨?_, fun b o e => k b o (fun q => by rw [q, off.2] at e; cases e) (F.keep b o e), F.nL, fun p hp => ?_, fun p hp => F.off p (.tail _ hp), nd.2⟩
  · obtain ⟨o, es, ep, e, r⟩ := F.ns
    exact ⟨o, es, ep, k _ _ (Ne.symm off.1) e, r⟩
  · obtain ⟨o, e, q⟩ := F.at_ p (.tail _ hp)
    exact ⟨o, k _ _ (fun q => nd.1 (q ▸ List.mem_map_of_mem hp)) e, q⟩
theorem Lg.rend {x left step : Int} {Q : Option Value → Shared → Prop} (F : Lg h₀ L s.heap m ((a, isRI x left step) :: ls)) (hh : A.handled = none) (hl : left ≤ 0)
    (h : ∀ h', Lg h₀ L h' m ls → Q none { s with heap := h' }) : wpAny (MM w) A (pyNext (.ref a)) Q E s := by
  obtain ⟨o, e, rfl⟩ := F.get (.head _)
  exact wpAny_pyNext_range_end hh e hl (fun h' k => h h' (F.ext k))
end
end Mine
namespace Mine
noncomputable def hpfyA {α : Type} (g c : α → α → Bool) (d : α) : Nat → List α → List α
  | 0, xs => xs
  | i + 1, xs => hpfyA g c d i (sup g c d (xs.getD i d) xs i)
section
variable {w : World} {A : Around} {E : Value → Shared → Prop} {s : Shared}
theorem sub_ri_reversed : isSubtype (.type "range_iterator") (.type "reversed") = pure false := by rw [isSubtype_type]; kernel_rfl
theorem call_range_rev {r : Addr} {n : Int} {t u v : Tok} {Q : Value → Shared → Prop} (hr : IsRange s.heap r 0 n 1 t u v) (h0 : 0 ≤ n) (h1 : n < 2 ^ 40)
    (h : Q (.ref s.heap.objs.size) { s with heap := s.heap.push { cls := .type "range_iterator", data := .fields #[rawInt (n - 1), rawInt n, rawInt (-1)] } }) : wpAny (MM w) A (call (.builtin "range.__reversed__") [.ref r]) Q E s := by
  have hT : s.TypeIs (.ref r) "range" := ⟨_, hr, rfl⟩
  refine wpAny_call_entry PySem.F.slot_range_reversed hT PySem.F.entry_range_reversed ?_ (PySem.F.args_range_reversed_1 _)
  obtain ⟨hp, g, d, tk, os⟩ := s
  unfold Builtin.«range.__reversed__»
  have e0 : Builtin.Range.rangeSize 0 n 1 = n := by rw [rangeSize_one]; split <;> lia
  have fits : ∀ x : Int, -(2 ^ 62) ≤ x → x < 2 ^ 62 → Builtin.Range.rangeFitsLong x = true := fun x a b => by unfold Builtin.Range.rangeFitsLong; simp; lia
  refine wpAny_bind (wpAny_of_eq (a := Value.ref r) rfl ?_)
  wp_walk using wpAny_loadPart' hr
  simp only [e0, fits 0 (by lia) (by lia), fits n (by lia) (by lia), fits 1 (by lia) (by lia), fits (-1) (by lia) (by lia), fits (0 - 1) (by lia) (by lia), Bool.and_self, Bool.not_true, Bool.false_eq_true, if_false, if_true]
  wp_walk
  refine ⟨_, rfl, ?_⟩
  have e1 : (0 : Int) + (n - 1) * 1 = n - 1 := by lia
  rw [e1]
  exact h
theorem call_reversed_range {r : Addr} {n : Int} {t u v : Tok} {Q : Value → Shared → Prop} (hr : IsRange s.heap r 0 n 1 t u v) (h0 : 0 ≤ n) (h1 : n < 2 ^ 40)
    (h : Q (.ref s.heap.objs.size) { s with heap := s.heap.push { cls := .type "range_iterator", data := .fields #[rawInt (n - 1), rawInt n, rawInt (-1)] } }) : wpAny (MM w) A (call (.type "reversed") [.ref r]) Q E s := by
  refine callType_other (U := "range_iterator") (Q₁ := fun obj s₁ => obj = .ref s.heap.objs.size ∧ s₁ = { s with heap := s.heap.push { cls := .type "range_iterator", data := .fields #[rawInt (n - 1), rawInt n, rawInt (-1)] } }) (by decide +kernel) PySem.F.create_reversed ⟨_, _, PySem.F.mro_reversed⟩ PySem.F.made_reversed sub_ri_reversed (PySem.F.typeCall_reversed_1 _) ?_ ?_
  · refine codeAny_of_tree ?_
    show wpAny _ A.in1.in1 (do checkBuiltinCall "reversed.__new__" ⟨[.type "reversed", .ref r], []⟩; again (.builtin "reversed.__new__" ⟨[.type "reversed", .ref r], []⟩)) _ _ s
    refine wpAny_bind (wpAny_of_eq (PySem.F.newCall_reversed_1 _) (wpAny_pure ⟨plainId_quiet PySem.F.plain_reversed_new _, codeAny_builtin PySem.F.entry_reversed_new ?_⟩))
    rw [Around.under_plainId PySem.F.plain_reversed_new _]
    unfold Builtin.«reversed.__new__»
    refine wpAny_bind (wpAny_of_eq (newClass_reversed _) ?_)
    try dsimp only
    refine wpAny_bind (wpAny_of_eq (a := ()) (by first | rfl | kernel_rfl) ?_)
    refine wpAny_bind (wpAny_of_eq (a := ()) (by first | rfl | kernel_rfl) ?_)
    try dsimp only
    have hT : s.TypeIs (.ref r) "range" := ⟨_, hr, rfl⟩
    refine wpAny_bind (wpAny_specialOf hT PySem.F.slot_range_reversed.lookup ?_)
    try dsimp only
    refine wpAny_bind (wpAny_of_eq (PySem.F.slot_range_reversed.bind _) ?_)
    try dsimp only
    first
    | rw [if_neg (show ¬ ((Value.builtin "range.__reversed__" == Value.none) = true) from Bool.false_ne_true)]
    | (show wpAny _ _ (if (Value.builtin "range.__reversed__" == Value.none) = true then _ else _) _ _ _; rw [if_neg (show ¬ ((Value.builtin "range.__reversed__" == Value.none) = true) from Bool.false_ne_true)])
    refine wpAny_bind (wpAny_rule ?_)
    refine wpAny_bind (m := runValue (.call (.builtin "range.__reversed__") ⟨[.ref r], []⟩)) (show wpAny _ _ (call (.builtin "range.__reversed__") [.ref r]) _ _ _ from call_range_rev hr h0 h1 ?_)
    first
    | exact wpAny_pure ⟨rfl, rfl⟩
    | exact wpAny_bind (wpAny_pure (wpAny_pure ⟨rfl, rfl⟩))
  · rintro obj s₁ ⟨rfl, rfl⟩
    exact ⟨⟨_, Heap.get?_push_size _ rfl, rfl⟩, h⟩
theorem iter_ri {I : Addr} {x left step : Int} {Q : Value → Shared → Prop} (hit : IsRangeIter s.heap I x left step) (h : Q (.ref I) s) : wpAny (MM w) A (pyIter (.ref I)) Q E s := by
  have hT : s.TypeIs (.ref I) "range_iterator" := ⟨_, hit, rfl⟩
  refine wpAny_pyIter_slot hT PySem.F.slot_range_iterator_iter (wpAny_call_entry PySem.F.slot_range_iterator_iter hT PySem.F.entry_range_iterator_iter ?_ (PySem.F.args_range_iterator_iter_1 _))
  show wpAny _ _ (ret (.ref I)) _ _ s
  exact wpAny_pure ⟨_, rfl, "range_iterator", _, hT, PySem.F.slot_range_iterator_next.lookup, h⟩
end
section
variable {w : World} {A : Around} {E : Value → Shared → Prop} {s : Shared} {Q : Value → Shared → Prop}
theorem rangeN {n : Int} {t : Tok} (h : ∀ r h' tk t1 t2, Kp s.heap h' → IsRange h' r 0 n 1 t1 t t2 → Q (.ref r) { s with heap := h', toks := tk }) : wpAny (MM w) A (call (.type "range") [.int n t]) Q E s :=
  call_range_1 (h _ _ _ _ _ (Kp.push _ _) (Heap.get?_push_size _ rfl))
theorem revRange {r : Addr} {n : Int} {t u v : Tok} (hr : IsRange s.heap r 0 n 1 t u v) (h0 : 0 ≤ n) (h1 : n < 2 ^ 40)
    (h : ∀ I h', Kp s.heap h' → s.heap.get? I = none → IsRangeIter h' I (n - 1) n (-1) → Q (.ref I) { s with heap := h' }) : wpAny (MM w) A (call (.type "reversed") [.ref r]) Q E s :=
  call_reversed_range hr h0 h1 (h _ _ (Kp.push _ _) (Heap.get?_none_of_le (Nat.le_refl _)) (Heap.get?_push_size _ rfl))
end
theorem sd_mem {c : Value → Value → Bool} {s : Nat} {x : Value} {D : Value → Prop} (hx : D x) : ∀ (pos : Nat) (ys : List Value), pos < ys.length → (∀ v ∈ ys, D v) → (sd c .none s x ys pos).length = ys.length ∧ ∀ v ∈ sd c .none s x ys pos, D v := by
  intro pos
  induction pos using Nat.strongRecOn with
  | _ pos ih =>
    intro ys hp hD
    rw [sd_eq]
    have fin : (ys.set pos x).length = ys.length ∧ ∀ v ∈ ys.set pos x, D v := ⟨by simp, fun v hv => (List.mem_or_eq_of_mem_set hv).elim (hD v) (fun e => e ▸ hx)⟩
    split
    · split
      · have hq : (pos - 1) / 2 < ys.length := by lia
        have := ih ((pos - 1) / 2) (by lia) (ys.set pos (ys.getD ((pos - 1) / 2) .none)) (by simpa using hq) (fun v hv => (List.mem_or_eq_of_mem_set hv).elim (hD v) (fun e => e ▸ hD _ (List.mem_of_getElem? (getD_some hq))))
        exact ⟨by rw [this.1]; simp, this.2⟩
      · exact fin
    · exact fin
theorem su_mem {g : Value → Value → Bool} {D : Value → Prop} : ∀ (k : Nat) (pos : Nat) (ys : List Value), ys.length - pos = k → pos < ys.length → (∀ v ∈ ys, D v) → (su g .none ys.length ys pos).1.length = ys.length ∧ (su g .none ys.length ys pos).2 < ys.length ∧ ∀ v ∈ (su g .none ys.length ys pos).1, D v := by
  intro k
  induction k using Nat.strongRecOn with
  | _ k ih =>
    intro pos ys hk hp hD
    have step : ∀ ch, pos < ch → ch < ys.length → (su g .none ys.length (ys.set pos (ys.getD ch .none)) ch).1.length = ys.length ∧ (su g .none ys.length (ys.set pos (ys.getD ch .none)) ch).2 < ys.length ∧ ∀ v ∈ (su g .none ys.length (ys.set pos (ys.getD ch .none)) ch).1, D v := by
      intro ch h1 h2
      have := ih (ys.length - ch) (by lia) ch (ys.set pos (ys.getD ch .none)) (by simp) (by simpa using h2) (fun v hv => (List.mem_or_eq_of_mem_set hv).elim (hD v) (fun e => e ▸ hD _ (List.mem_of_getElem? (getD_some h2))))
      simpa using this
    rw [su_eq]
    split
    · split
      · rename_i h1 h2
        simp only [Bool.and_eq_true, decide_eq_true_eq] at h2
        exact step _ (by lia) h2.1
      · exact step _ (by lia) (by lia)
    · exact ⟨rfl, hp, hD⟩
theorem sup_mem {g c : Value → Value → Bool} {D : Value → Prop} {ys : List Value} {pos : Nat} (hp : pos < ys.length) (hD : ∀ v ∈ ys, D v) : (sup g c .none (ys.getD pos .none) ys pos).length = ys.length ∧ ∀ v ∈ sup g c .none (ys.getD pos .none) ys pos, D v := by
  have h := su_mem (g := g) (ys.length - pos) pos ys rfl hp hD
  have hx : D (ys.getD pos .none) := hD _ (List.mem_of_getElem? (getD_some hp))
  unfold sup
  have := sd_mem (c := c) (s := pos) hx (su g .none ys.length ys pos).2 ((su g .none ys.length ys pos).1.set (su g .none ys.length ys pos).2 (ys.getD pos .none)) (by simp; lia) (fun v hv => (List.mem_or_eq_of_mem_set hv).elim (h.2.2 v) (fun e => e ▸ hx))
  exact ⟨by rw [this.1]; simp [h.1], this.2⟩
section
variable {w : World} {A : Around} {E : Value → Shared → Prop} {s : Shared} {Q : Value → Shared → Prop} {hb : Heap} {D : Value → Prop} {lt : Value → Value → Bool} {H : Addr} {xs : List Value} {x : Value}
theorem callT1 {H : Addr} {xs : List Value} {h h₁ : Heap} {L : Addr} {m : Str → Option Value} (hl : PL h H xs) (F : Fr h L h₁ m) (eL : L = h.objs.size) : Lg (hideAll h [H]) L h₁ m [(H, isL xs)] := by
  refine Lg.start (ls := [(H, isL xs)]) (fun p hp => ?_) (by simp) F (by rw [eL]; exact Heap.get?_none_of_le (Nat.le_refl _))
  cases hp with
  | head => obtain ⟨n, e⟩ := hl; exact ⟨_, e, n, rfl⟩
  | tail _ q => cases q

end
namespace N_heappush_spec
noncomputable def stX0 (w : World) (A : Around) (E : Value → Shared → Prop) (s : Shared) (Q : Value → Shared → Prop) (hb : Heap) (D : Value → Prop) (lt : Value → Value → Bool) (H : Addr) (xs : List Value) (x : Value) : Prop := ∀ (X : KIn w hb) (C : CmpLt w hb D lt) (hr : Rm A 11) (kb : Kp hb s.heap) (hbn : hb.get? H = none) (hl : PL s.heap H xs) (hD : ∀ v ∈ xs, D v) (hx : D x) (hlen : xs.length < 2 ^ 19) (k : ∀ h' tk, KpB [H] s.heap h' → PL h' H (sd lt .none 0 x (xs ++ [x]) xs.length) → Q .none { s with heap := h', toks := tk }), wpAny (MM w) A (call (.ref 28) [.ref H, x]) Q E s
noncomputable abbrev T := World × Around × (Value → Shared → Prop) × Shared × (Value → Shared → Prop) × Heap × (Value → Prop) × (Value → Value → Bool) × Addr × (List Value) × Value
noncomputable def pX (x : T) : Prop := stX0 x.1 x.2.1 x.2.2.1 x.2.2.2.1 x.2.2.2.2.1 x.2.2.2.2.2.1 x.2.2.2.2.2.2.1 x.2.2.2.2.2.2.2.1 x.2.2.2.2.2.2.2.2.1 x.2.2.2.2.2.2.2.2.2.1 x.2.2.2.2.2.2.2.2.2.2
noncomputable def cX : T := @Classical.epsilon _ (ne2 neW (ne2 neA (ne2 neI (ne2 neS (ne2 neI (ne2 neI (ne2 neI (ne2 neI (ne2 neI (ne2 neI neI)))))))))) fun x => ¬ pX x
def w : World := cX.1
def A : Around := cX.2.1
def E : Value → Shared → Prop := cX.2.2.1
def s : Shared := cX.2.2.2.1
def Q : Value → Shared → Prop := cX.2.2.2.2.1
def hb : Heap := cX.2.2.2.2.2.1
def D : Value → Prop := cX.2.2.2.2.2.2.1
def lt : Value → Value → Bool := cX.2.2.2.2.2.2.2.1
def H : Addr := cX.2.2.2.2.2.2.2.2.1
def xs : List Value := cX.2.2.2.2.2.2.2.2.2.1
def x : Value := cX.2.2.2.2.2.2.2.2.2.2
theorem pfX0 : stX0 w A E s Q hb D lt H xs x := by
  intro X C hr kb hbn hl hD hx hlen k
  refine callT (X.keeps kb) (by k_is) (by k_is) hr (BindsTo.of_eq rfl) (locs rfl) (fun h₁ F₁ => ?_)
  have F := callT1 hl F₁ rfl
  have k0 : Kp hb (hideAll s.heap [H]) := hide_base kb hbn
  generalize hh : hideAll s.heap [H] = h0 at F k0
  have X0 := X.keeps k0
  refine wpAny_execs_cons (wpAny_Expr (MethodCall_ (F.nm rfl (lsMeth (F.pl (.head _)) PySem.F.slot_list_append PySem.F.type_list_append (callWith_method1 (args_cons (F.nm rfl (args_nil (appendL (F.pl (.head _)) (by lia) (fun h₂ hl₂ hs₂ => ?_))))))))))
  dsimp only
  have F₂ := F.putL 0 rfl hs₂ hl₂
  refine wpAny_execs_cons (wpAny_Expr (Call_ (nmG (X0.keeps F₂.keep) (by k_is) (callWith_F (args_cons (F₂.nm rfl (args_cons (wpAny_Constant_int (args_cons (wpAny_BinOp (Call_ (nmB (X0.keeps F₂.keep) (by k_is) (by k_is) (PyProof.Rows.callWith_builtin1 (args_cons (F₂.nm rfl (args_nil (lenL (F₂.pl (.head _)) (by simp; lia) (fun _ => wpAny_Constant_int (PyProof.Rows.sub_int (args_nil ⟨FnAt.of (X0.keeps F₂.keep) (by k_is), ?_⟩))))))))))))))))))))
  refine siftdown_spec X C (hr.deep _ |>.le (by lia)) (k0.trans F₂.keep) hbn (F₂.pl (.head _)) (fun v hv => (List.mem_append.mp hv).elim (hD v) (fun e => by cases e with | head => exact hx | tail _ q => cases q)) (pos := xs.length) (x := x) (by simp) (by simp; lia) (start := 0) rfl (by simp) (fun h₃ tk₃ k₃ hl₃ => ?_)
  dsimp only
  refine wpAny_execs_nil ?_
  dsimp only
  have F₃ := F₂.butL 0 rfl k₃ hl₃
  exact k _ _ (kpB_hide (hh ▸ F₃.keep)) hl₃
theorem allX (x : T) : pX x := eps (P := pX) pfX0
end N_heappush_spec
theorem heappush_spec {w : World} {A : Around} {E : Value → Shared → Prop} {s : Shared} {Q : Value → Shared → Prop} {hb : Heap} {D : Value → Prop} {lt : Value → Value → Bool} {H : Addr} {xs : List Value} {x : Value} : N_heappush_spec.stX0 w A E s Q hb D lt H xs x := (N_heappush_spec.allX (w, A, E, s, Q, hb, D, lt, H, xs, x))
section
variable {w : World} {A : Around} {E : Value → Shared → Prop} {s : Shared} {Q : Value → Shared → Prop} {hb : Heap} {D : Value → Prop} {lt : Value → Value → Bool} {H : Addr} {xs : List Value} {x : Value}
end
namespace N_heappop_spec
noncomputable def stX0 (w : World) (A : Around) (E : Value → Shared → Prop) (s : Shared) (Q : Value → Shared → Prop) (hb : Heap) (D : Value → Prop) (lt : Value → Value → Bool) (H : Addr) (l : Value) : Prop := ∀ {xs : List Value} (X : KIn w hb) (C : CmpLt w hb D lt) (hr : Rm A 12) (kb : Kp hb s.heap) (hbn : hb.get? H = none) (hl : PL s.heap H (xs ++ [l])) (hD : ∀ v ∈ xs, D v) (hx : D l) (hlen : xs.length < 2 ^ 19) (k : ∀ h' tk, KpB [H] s.heap h' → PL h' H (if xs = [] then [] else sup lt lt .none l (xs.set 0 l) 0) → Q (if xs = [] then l else xs.getD 0 .none) { s with heap := h', toks := tk }), wpAny (MM w) A (call (.ref 35) [.ref H]) Q E s
noncomputable abbrev T := World × Around × (Value → Shared → Prop) × Shared × (Value → Shared → Prop) × Heap × (Value → Prop) × (Value → Value → Bool) × Addr × Value
noncomputable def pX (x : T) : Prop := stX0 x.1 x.2.1 x.2.2.1 x.2.2.2.1 x.2.2.2.2.1 x.2.2.2.2.2.1 x.2.2.2.2.2.2.1 x.2.2.2.2.2.2.2.1 x.2.2.2.2.2.2.2.2.1 x.2.2.2.2.2.2.2.2.2
noncomputable def cX : T := @Classical.epsilon _ (ne2 neW (ne2 neA (ne2 neI (ne2 neS (ne2 neI (ne2 neI (ne2 neI (ne2 neI (ne2 neI neI))))))))) fun x => ¬ pX x
def w : World := cX.1
def A : Around := cX.2.1
def E : Value → Shared → Prop := cX.2.2.1
def s : Shared := cX.2.2.2.1
def Q : Value → Shared → Prop := cX.2.2.2.2.1
def hb : Heap := cX.2.2.2.2.2.1
def D : Value → Prop := cX.2.2.2.2.2.2.1
def lt : Value → Value → Bool := cX.2.2.2.2.2.2.2.1
def H : Addr := cX.2.2.2.2.2.2.2.2.1
def l : Value := cX.2.2.2.2.2.2.2.2.2
theorem pfX0 : stX0 w A E s Q hb D lt H l := by
  intro xs X C hr kb hbn hl hD hx hlen k
  refine callT (X.keeps kb) (by k_is) (by k_is) hr (BindsTo.of_eq rfl) (locs rfl) (fun h₁ F₁ => ?_)
  have F := callT1 hl F₁ rfl
  have k0 : Kp hb (hideAll s.heap [H]) := hide_base kb hbn
  generalize hh : hideAll s.heap [H] = h0 at F k0
  have X0 := X.keeps k0
  refine wpAny_execs_cons (wpAny_Assign_Name (MethodCall_ (F.nm rfl (lsMeth (F.pl (.head _)) PySem.F.slot_list_pop PySem.F.type_list_pop (callWith_method0 (popL (F.pl (.head _)) (by lia) (fun h₂ hl₂ hs₂ => ?_)))))))
  have F₂ := F.putL 0 rfl hs₂ hl₂
  refine F₂.st (fun h₃ F₃ => ?_)
  dsimp only
  refine wpAny_execs_cons (wpAny_If (isTrue_plain (F₃.nm rfl (wpAny_truthy_list (F₃.pl (.head _)).il (by simp; lia) ?_))))
  by_cases e : xs = []
  · rw [if_pos e, if_pos e] at k
    subst e
    simp only [List.isEmpty_toArray, List.isEmpty_nil, Bool.not_true, Bool.false_eq_true, if_false]
    refine wpAny_execs_nil (wpAny_execs_cons (wpAny_Return_some (F₃.nm rfl ?_)))
    exact k _ _ (kpB_hide (hh ▸ F₃.keep)) (F₃.pl (.head _))
  · rw [if_neg e, if_neg e] at k
    have hp : 0 < xs.length := List.length_pos_iff.mpr e
    have e1 : (!xs.toArray.isEmpty) = true := by simpa using e
    rw [e1]
    simp only [if_true]
    refine wpAny_execs_cons (wpAny_Assign_Name (Subscript_ (F₃.nm rfl (wpAny_Constant_int (itemL (F₃.pl (.head _)) (i := 0) rfl (by lia) (getD_some hp) (F₃.st fun h₄ F₄ => ?_))))))
    dsimp only
    refine wpAny_execs_cons (wpAny_Assign_Subscript (F₄.nm rfl (F₄.nm rfl (wpAny_Constant_int (setL (F₄.pl (.head _)) (i := 0) rfl (by lia) hp (fun h₅ hl₅ hs₅ => ?_))))))
    dsimp only
    have F₅ := F₄.putL 0 rfl hs₅ hl₅
    refine wpAny_execs_cons (wpAny_Expr (Call_ (nmG (X0.keeps F₅.keep) (by k_is) (callWith_F (args_cons (F₅.nm rfl (args_cons (wpAny_Constant_int (args_nil ⟨FnAt.of (X0.keeps F₅.keep) (by k_is), ?_⟩)))))))))
    refine siftup_spec X C (hr.deep _ |>.le (by lia)) (k0.trans F₅.keep) hbn (F₅.pl (.head _)) (fun v hv => (List.mem_or_eq_of_mem_set hv).elim (hD v) (fun e => e ▸ hx)) (pos := 0) (x := l) (by rw [List.getElem?_set_self hp]) (by simp; lia) rfl (fun h₆ tk₆ k₆ hl₆ => ?_)
    dsimp only
    have F₆ := F₅.butL 0 rfl k₆ hl₆
    refine wpAny_execs_cons (wpAny_Return_some (F₆.nm rfl ?_))
    exact k _ _ (kpB_hide (hh ▸ F₆.keep)) hl₆
theorem allX (x : T) : pX x := eps (P := pX) pfX0
end N_heappop_spec
theorem heappop_spec {w : World} {A : Around} {E : Value → Shared → Prop} {s : Shared} {Q : Value → Shared → Prop} {hb : Heap} {D : Value → Prop} {lt : Value → Value → Bool} {H : Addr} {l : Value} : N_heappop_spec.stX0 w A E s Q hb D lt H l := (N_heappop_spec.allX (w, A, E, s, Q, hb, D, lt, H, l))
section
variable {w : World} {A : Around} {E : Value → Shared → Prop} {s : Shared} {Q : Value → Shared → Prop} {hb : Heap} {D : Value → Prop} {lt : Value → Value → Bool} {H : Addr} {xs : List Value} {x : Value}
end
namespace N_heapreplace_spec
noncomputable def stX0 (w : World) (A : Around) (E : Value → Shared → Prop) (s : Shared) (Q : Value → Shared → Prop) (hb : Heap) (D : Value → Prop) (lt : Value → Value → Bool) (H : Addr) (xs : List Value) (x : Value) : Prop := ∀ (X : KIn w hb) (C : CmpLt w hb D lt) (hr : Rm A 12) (kb : Kp hb s.heap) (hbn : hb.get? H = none) (hl : PL s.heap H xs) (hD : ∀ v ∈ xs, D v) (hx : D x) (hp : 0 < xs.length) (hlen : xs.length < 2 ^ 19) (k : ∀ h' tk, KpB [H] s.heap h' → PL h' H (sup lt lt .none x (xs.set 0 x) 0) → Q (xs.getD 0 .none) { s with heap := h', toks := tk }), wpAny (MM w) A (call (.ref 42) [.ref H, x]) Q E s
noncomputable def stX1 (w : World) (A : Around) (E : Value → Shared → Prop) (s : Shared) (Q : Value → Shared → Prop) (hb : Heap) (D : Value → Prop) (lt : Value → Value → Bool) (H : Addr) (xs : List Value) (x : Value) : Prop := ∀ (X : KIn w hb) (C : CmpLt w hb D lt) (hr : Rm A 12) (kb : Kp hb s.heap) (hbn : hb.get? H = none) (hl : PL s.heap H xs) (hD : ∀ v ∈ xs, D v) (hx : D x) (hp : 0 < xs.length) (hlen : xs.length < 2 ^ 19) (k : ∀ h' tk, KpB [H] s.heap h' → PL h' H (sup (fun l r => lt r l) (fun x p => lt p x) .none x (xs.set 0 x) 0) → Q (xs.getD 0 .none) { s with heap := h', toks := tk }), wpAny (MM w) A (call (.ref 63) [.ref H, x]) Q E s
noncomputable abbrev T := World × Around × (Value → Shared → Prop) × Shared × (Value → Shared → Prop) × Heap × (Value → Prop) × (Value → Value → Bool) × Addr × (List Value) × Value
noncomputable def pX (x : T) : Prop := stX0 x.1 x.2.1 x.2.2.1 x.2.2.2.1 x.2.2.2.2.1 x.2.2.2.2.2.1 x.2.2.2.2.2.2.1 x.2.2.2.2.2.2.2.1 x.2.2.2.2.2.2.2.2.1 x.2.2.2.2.2.2.2.2.2.1 x.2.2.2.2.2.2.2.2.2.2 ∧ stX1 x.1 x.2.1 x.2.2.1 x.2.2.2.1 x.2.2.2.2.1 x.2.2.2.2.2.1 x.2.2.2.2.2.2.1 x.2.2.2.2.2.2.2.1 x.2.2.2.2.2.2.2.2.1 x.2.2.2.2.2.2.2.2.2.1 x.2.2.2.2.2.2.2.2.2.2
noncomputable def cX : T := @Classical.epsilon _ (ne2 neW (ne2 neA (ne2 neI (ne2 neS (ne2 neI (ne2 neI (ne2 neI (ne2 neI (ne2 neI (ne2 neI neI)))))))))) fun x => ¬ pX x
def w : World := cX.1
def A : Around := cX.2.1
def E : Value → Shared → Prop := cX.2.2.1
def s : Shared := cX.2.2.2.1
def Q : Value → Shared → Prop := cX.2.2.2.2.1
def hb : Heap := cX.2.2.2.2.2.1
def D : Value → Prop := cX.2.2.2.2.2.2.1
def lt : Value → Value → Bool := cX.2.2.2.2.2.2.2.1
def H : Addr := cX.2.2.2.2.2.2.2.2.1
def xs : List Value := cX.2.2.2.2.2.2.2.2.2.1
def x : Value := cX.2.2.2.2.2.2.2.2.2.2
theorem pfX0 : stX0 w A E s Q hb D lt H xs x := by
  intro X C hr kb hbn hl hD hx hp hlen k
  refine callT (X.keeps kb) (by k_is) (by k_is) hr (BindsTo.of_eq rfl) (locs rfl) (fun h₁ F₁ => ?_)
  have F := callT1 hl F₁ rfl
  have k0 : Kp hb (hideAll s.heap [H]) := hide_base kb hbn
  generalize hh : hideAll s.heap [H] = h0 at F k0
  have X0 := X.keeps k0
  refine wpAny_execs_cons (wpAny_Assign_Name (Subscript_ (F.nm rfl (wpAny_Constant_int (itemL (F.pl (.head _)) (i := 0) rfl (by lia) (getD_some hp) (F.st fun h₄ F₄ => ?_))))))
  dsimp only
  refine wpAny_execs_cons (wpAny_Assign_Subscript (F₄.nm rfl (F₄.nm rfl (wpAny_Constant_int (setL (F₄.pl (.head _)) (i := 0) rfl (by lia) hp (fun h₅ hl₅ hs₅ => ?_))))))
  dsimp only
  have F₅ := F₄.putL 0 rfl hs₅ hl₅
  refine wpAny_execs_cons (wpAny_Expr (Call_ (nmG (X0.keeps F₅.keep) (by k_is) (callWith_F (args_cons (F₅.nm rfl (args_cons (wpAny_Constant_int (args_nil ⟨FnAt.of (X0.keeps F₅.keep) (by k_is), ?_⟩)))))))))
  refine siftup_spec X C (hr.deep _ |>.le (by lia)) (k0.trans F₅.keep) hbn (F₅.pl (.head _)) (fun v hv => (List.mem_or_eq_of_mem_set hv).elim (hD v) (fun e => e ▸ hx)) (pos := 0) (x := x) (by rw [List.getElem?_set_self hp]) (by simp; lia) rfl (fun h₆ tk₆ k₆ hl₆ => ?_)
  dsimp only
  have F₆ := F₅.butL 0 rfl k₆ hl₆
  refine wpAny_execs_cons (wpAny_Return_some (F₆.nm rfl ?_))
  exact k _ _ (kpB_hide (hh ▸ F₆.keep)) hl₆
theorem pfX1 : stX1 w A E s Q hb D lt H xs x := by
  intro X C hr kb hbn hl hD hx hp hlen k
  refine callT (X.keeps kb) (by k_is) (by k_is) hr (BindsTo.of_eq rfl) (locs rfl) (fun h₁ F₁ => ?_)
  have F := callT1 hl F₁ rfl
  have k0 : Kp hb (hideAll s.heap [H]) := hide_base kb hbn
  generalize hh : hideAll s.heap [H] = h0 at F k0
  have X0 := X.keeps k0
  refine wpAny_execs_cons (wpAny_Assign_Name (Subscript_ (F.nm rfl (wpAny_Constant_int (itemL (F.pl (.head _)) (i := 0) rfl (by lia) (getD_some hp) (F.st fun h₄ F₄ => ?_))))))
  dsimp only
  refine wpAny_execs_cons (wpAny_Assign_Subscript (F₄.nm rfl (F₄.nm rfl (wpAny_Constant_int (setL (F₄.pl (.head _)) (i := 0) rfl (by lia) hp (fun h₅ hl₅ hs₅ => ?_))))))
  dsimp only
  have F₅ := F₄.putL 0 rfl hs₅ hl₅
  refine wpAny_execs_cons (wpAny_Expr (Call_ (nmG (X0.keeps F₅.keep) (by k_is) (callWith_F (args_cons (F₅.nm rfl (args_cons (wpAny_Constant_int (args_nil ⟨FnAt.of (X0.keeps F₅.keep) (by k_is), ?_⟩)))))))))
  refine siftup_max_spec X C (hr.deep _ |>.le (by lia)) (k0.trans F₅.keep) hbn (F₅.pl (.head _)) (fun v hv => (List.mem_or_eq_of_mem_set hv).elim (hD v) (fun e => e ▸ hx)) (pos := 0) (x := x) (by rw [List.getElem?_set_self hp]) (by simp; lia) rfl (fun h₆ tk₆ k₆ hl₆ => ?_)
  dsimp only
  have F₆ := F₅.butL 0 rfl k₆ hl₆
  refine wpAny_execs_cons (wpAny_Return_some (F₆.nm rfl ?_))
  exact k _ _ (kpB_hide (hh ▸ F₆.keep)) hl₆
theorem allX (x : T) : pX x := eps (P := pX) ⟨pfX0, pfX1⟩
end N_heapreplace_spec
theorem heapreplace_spec {w : World} {A : Around} {E : Value → Shared → Prop} {s : Shared} {Q : Value → Shared → Prop} {hb : Heap} {D : Value → Prop} {lt : Value → Value → Bool} {H : Addr} {xs : List Value} {x : Value} : N_heapreplace_spec.stX0 w A E s Q hb D lt H xs x := (N_heapreplace_spec.allX (w, A, E, s, Q, hb, D, lt, H, xs, x)).1
theorem heapreplace_max_spec {w : World} {A : Around} {E : Value → Shared → Prop} {s : Shared} {Q : Value → Shared → Prop} {hb : Heap} {D : Value → Prop} {lt : Value → Value → Bool} {H : Addr} {xs : List Value} {x : Value} : N_heapreplace_spec.stX1 w A E s Q hb D lt H xs x := (N_heapreplace_spec.allX (w, A, E, s, Q, hb, D, lt, H, xs, x)).2
section
variable {w : World} {A : Around} {E : Value → Shared → Prop} {s : Shared} {Q : Value → Shared → Prop} {hb : Heap} {D : Value → Prop} {lt : Value → Value → Bool} {H : Addr} {xs : List Value} {x : Value}
inductive heapify_I (h0 : Heap) (L H I : Addr) (D : Value → Prop) (lt : Value → Value → Bool) (N : Nat) (T : List Value) (s : Shared) : Nat → Shared → Prop
  | mk (n : Nat) (h' : Heap) (tk : Nat) (m : Str → Option Value) (ys : List Value) (F : Lg h0 L h' m [(I, isRI ((n : Int) - 1) n (-1)), (H, isL ys)]) (m1 : m (Str.ofString "x") = some (.ref H)) (hl : ys.length = N) (hn : n ≤ N) (hD : ∀ v ∈ ys, D v) (hT : hpfyA lt lt .none n ys = T) :
    heapify_I h0 L H I D lt N T s n { s with heap := h', toks := tk }
end
namespace N_heapify_spec
noncomputable def stX0 (w : World) (A : Around) (E : Value → Shared → Prop) (s : Shared) (Q : Value → Shared → Prop) (hb : Heap) (D : Value → Prop) (lt : Value → Value → Bool) (H : Addr) (xs : List Value) : Prop := ∀ (X : KIn w hb) (C : CmpLt w hb D lt) (hr : Rm A 12) (kb : Kp hb s.heap) (hbn : hb.get? H = none) (hl : PL s.heap H xs) (hD : ∀ v ∈ xs, D v) (hlen : xs.length < 2 ^ 19) (k : ∀ h' tk, KpB [H] s.heap h' → PL h' H (hpfyA lt lt .none (xs.length / 2) xs) → Q .none { s with heap := h', toks := tk }), wpAny (MM w) A (call (.ref 56) [.ref H]) Q E s
noncomputable abbrev T := World × Around × (Value → Shared → Prop) × Shared × (Value → Shared → Prop) × Heap × (Value → Prop) × (Value → Value → Bool) × Addr × (List Value)
noncomputable def pX (x : T) : Prop := stX0 x.1 x.2.1 x.2.2.1 x.2.2.2.1 x.2.2.2.2.1 x.2.2.2.2.2.1 x.2.2.2.2.2.2.1 x.2.2.2.2.2.2.2.1 x.2.2.2.2.2.2.2.2.1 x.2.2.2.2.2.2.2.2.2
noncomputable def cX : T := @Classical.epsilon _ (ne2 neW (ne2 neA (ne2 neI (ne2 neS (ne2 neI (ne2 neI (ne2 neI (ne2 neI (ne2 neI neI))))))))) fun x => ¬ pX x
def w : World := cX.1
def A : Around := cX.2.1
def E : Value → Shared → Prop := cX.2.2.1
def s : Shared := cX.2.2.2.1
def Q : Value → Shared → Prop := cX.2.2.2.2.1
def hb : Heap := cX.2.2.2.2.2.1
def D : Value → Prop := cX.2.2.2.2.2.2.1
def lt : Value → Value → Bool := cX.2.2.2.2.2.2.2.1
def H : Addr := cX.2.2.2.2.2.2.2.2.1
def xs : List Value := cX.2.2.2.2.2.2.2.2.2
theorem pfX0 : stX0 w A E s Q hb D lt H xs := by
  intro X C hr kb hbn hl hD hlen k
  refine callT (X.keeps kb) (by k_is) (by k_is) hr (BindsTo.of_eq rfl) (locs rfl) (fun h₁ F₁ => ?_)
  have F := callT1 hl F₁ rfl
  have k0 : Kp hb (hideAll s.heap [H]) := hide_base kb hbn
  generalize hh : hideAll s.heap [H] = h0 at F k0
  have X0 := X.keeps k0
  generalize hT : hpfyA lt lt .none (xs.length / 2) xs = T at k
  refine wpAny_execs_cons (wpAny_Assign_Name (Call_ (nmB (X0.keeps F.keep) (by k_is) (by k_is) (PyProof.Rows.callWith_builtin1 (args_cons (F.nm rfl (args_nil (lenL (F.pl (.head _)) (by lia) fun _ => F.st fun h₂ F₂ => ?_))))))))
  dsimp only
  have e2 : ((xs.length : Nat) : Int).fdiv 2 = ((xs.length / 2 : Nat) : Int) := by
    show ((xs.length : Nat) : Int).fdiv ((2 : Nat) : Int) = _
    rw [Int.fdiv_eq_ediv_of_nonneg _ (by lia)]; rfl
  refine wpAny_execs_cons (wpAny_For (Call_ (nmB (X0.keeps F₂.keep) (by k_is) (by k_is) (PyProof.Rows.callWith_type1 (args_cons (Call_ (nmB (X0.keeps F₂.keep) (by k_is) (by k_is) (PyProof.Rows.callWith_type1 (args_cons (wpAny_BinOp (F₂.nm rfl (wpAny_Constant_int (PyProof.Rows.floordiv_int (by decide) (args_nil (rangeN (fun r h₃ tk₃ t1 t2 k₃ hr₃ => args_nil ?_))))))))))))))))
  rw [e2] at hr₃
  refine revRange hr₃ (by lia) (by lia) (fun I h₄ k₄ n₄ i₄ => iter_ri i₄ ?_)
  have F₄ := (F₂.kp k₃).fresh k₄ n₄ i₄ (P := isRI _ _ _) rfl
  refine codeAny_forLoop (heapify_I h0 s.heap.objs.size H _ D lt xs.length T s) ?_ (xs.length / 2) (heapify_I.mk _ _ _ _ xs F₄ rfl rfl (by lia) hD hT)
  rintro n s' ⟨h', tk, m, ys, F, m1, hyl, hn, hyD, hT⟩
  cases n with
  | zero =>
    refine F.rend (hr.deep _).han (by lia) (fun h₅ F₅ => ?_)
    refine wpAny_execs_nil (wpAny_execs_nil ?_)
    dsimp only
    have hT : ys = T := hT
    subst hT
    exact k _ _ (kpB_hide (hh ▸ F₅.keep)) (F₅.pl (.head _))
  | succ i =>
    refine F.rnext 0 rfl (by lia) (fun h₅ t₅ F₅ => ?_)
    dsimp only
    refine wpAny_assign_Name (F₅.st fun h₆ F₆ => ?_)
    have hpi : i < ys.length := by lia
    have e3 : (((i + 1 : Nat) : Int) - 1) = ((i : Nat) : Int) := by lia
    refine wpAny_execs_cons (wpAny_Expr (Call_ (nmG (X0.keeps F₆.keep) (by k_is) (callWith_F (args_cons (F₆.nm (by exact m1) (args_cons (F₆.nm rfl (args_nil ⟨FnAt.of (X0.keeps F₆.keep) (by k_is), ?_⟩)))))))))
    refine siftup_spec X C (hr.deep _ |>.le (by lia)) (k0.trans F₆.keep) hbn (F₆.pl (.tail _ (.head _))) hyD (pos := i) (x := ys.getD i .none) (getD_some hpi) (by lia) e3 (fun h₇ tk₇ k₇ hl₇ => ?_)
    dsimp only
    have F₇ := F₆.butL 1 rfl k₇ hl₇
    have hsup : (sup lt lt .none (ys.getD i .none) ys i).length = ys.length ∧ ∀ v ∈ sup lt lt .none (ys.getD i .none) ys i, D v := sup_mem hpi hyD
    have e4 : (((i + 1 : Nat) : Int) - 1 + -1) = ((i : Nat) : Int) - 1 := by lia
    rw [e4, e3] at F₇
    exact wpAny_execs_nil ⟨i, by lia, heapify_I.mk _ _ _ _ _ F₇ (by exact m1) (by lia) (by lia) hsup.2 hT⟩
theorem allX (x : T) : pX x := eps (P := pX) pfX0
end N_heapify_spec
theorem heapify_spec {w : World} {A : Around} {E : Value → Shared → Prop} {s : Shared} {Q : Value → Shared → Prop} {hb : Heap} {D : Value → Prop} {lt : Value → Value → Bool} {H : Addr} {xs : List Value} : N_heapify_spec.stX0 w A E s Q hb D lt H xs := (N_heapify_spec.allX (w, A, E, s, Q, hb, D, lt, H, xs))
section
variable {w : World} {A : Around} {E : Value → Shared → Prop} {s : Shared} {Q : Value → Shared → Prop} {hb : Heap} {D : Value → Prop} {lt : Value → Value → Bool} {H : Addr} {xs : List Value} {x : Value}
inductive heapify_max_I (h0 : Heap) (L H I : Addr) (D : Value → Prop) (lt : Value → Value → Bool) (N : Nat) (T : List Value) (s : Shared) : Nat → Shared → Prop
  | mk (n : Nat) (h' : Heap) (tk : Nat) (m : Str → Option Value) (ys : List Value) (F : Lg h0 L h' m [(I, isRI ((n : Int) - 1) n (-1)), (H, isL ys)]) (m1 : m (Str.ofString "x") = some (.ref H)) (hl : ys.length = N) (hn : n ≤ N) (hD : ∀ v ∈ ys, D v) (hT : hpfyA (fun l r => lt r l) (fun x p => lt p x) .none n ys = T) :
    heapify_max_I h0 L H I D lt N T s n { s with heap := h', toks := tk }
end
namespace N_heapify_max_spec
noncomputable def stX0 (w : World) (A : Around) (E : Value → Shared → Prop) (s : Shared) (Q : Value → Shared → Prop) (hb : Heap) (D : Value → Prop) (lt : Value → Value → Bool) (H : Addr) (xs : List Value) : Prop := ∀ (X : KIn w hb) (C : CmpLt w hb D lt) (hr : Rm A 12) (kb : Kp hb s.heap) (hbn : hb.get? H = none) (hl : PL s.heap H xs) (hD : ∀ v ∈ xs, D v) (hlen : xs.length < 2 ^ 19) (k : ∀ h' tk, KpB [H] s.heap h' → PL h' H (hpfyA (fun l r => lt r l) (fun x p => lt p x) .none (xs.length / 2) xs) → Q .none { s with heap := h', toks := tk }), wpAny (MM w) A (call (.ref 70) [.ref H]) Q E s
noncomputable abbrev T := World × Around × (Value → Shared → Prop) × Shared × (Value → Shared → Prop) × Heap × (Value → Prop) × (Value → Value → Bool) × Addr × (List Value)
noncomputable def pX (x : T) : Prop := stX0 x.1 x.2.1 x.2.2.1 x.2.2.2.1 x.2.2.2.2.1 x.2.2.2.2.2.1 x.2.2.2.2.2.2.1 x.2.2.2.2.2.2.2.1 x.2.2.2.2.2.2.2.2.1 x.2.2.2.2.2.2.2.2.2
noncomputable def cX : T := @Classical.epsilon _ (ne2 neW (ne2 neA (ne2 neI (ne2 neS (ne2 neI (ne2 neI (ne2 neI (ne2 neI (ne2 neI neI))))))))) fun x => ¬ pX x
def w : World := cX.1
def A : Around := cX.2.1
def E : Value → Shared → Prop := cX.2.2.1
def s : Shared := cX.2.2.2.1
def Q : Value → Shared → Prop := cX.2.2.2.2.1
def hb : Heap := cX.2.2.2.2.2.1
def D : Value → Prop := cX.2.2.2.2.2.2.1
def lt : Value → Value → Bool := cX.2.2.2.2.2.2.2.1
def H : Addr := cX.2.2.2.2.2.2.2.2.1
def xs : List Value := cX.2.2.2.2.2.2.2.2.2
theorem pfX0 : stX0 w A E s Q hb D lt H xs := by
  intro X C hr kb hbn hl hD hlen k
  refine callT (X.keeps kb) (by k_is) (by k_is) hr (BindsTo.of_eq rfl) (locs rfl) (fun h₁ F₁ => ?_)
  have F := callT1 hl F₁ rfl
  have k0 : Kp hb (hideAll s.heap [H]) := hide_base kb hbn
  generalize hh : hideAll s.heap [H] = h0 at F k0
  have X0 := X.keeps k0
  generalize hT : hpfyA (fun l r => lt r l) (fun x p => lt p x) .none (xs.length / 2) xs = T at k
  refine wpAny_execs_cons (wpAny_Assign_Name (Call_ (nmB (X0.keeps F.keep) (by k_is) (by k_is) (PyProof.Rows.callWith_builtin1 (args_cons (F.nm rfl (args_nil (lenL (F.pl (.head _)) (by lia) fun _ => F.st fun h₂ F₂ => ?_))))))))
  dsimp only
  have e2 : ((xs.length : Nat) : Int).fdiv 2 = ((xs.length / 2 : Nat) : Int) := by
    show ((xs.length : Nat) : Int).fdiv ((2 : Nat) : Int) = _
    rw [Int.fdiv_eq_ediv_of_nonneg _ (by lia)]; rfl
  refine wpAny_execs_cons (wpAny_For (Call_ (nmB (X0.keeps F₂.keep) (by k_is) (by k_is) (PyProof.Rows.callWith_type1 (args_cons (Call_ (nmB (X0.keeps F₂.keep) (by k_is) (by k_is) (PyProof.Rows.callWith_type1 (args_cons (wpAny_BinOp (F₂.nm rfl (wpAny_Constant_int (PyProof.Rows.floordiv_int (by decide) (args_nil (rangeN (fun r h₃ tk₃ t1 t2 k₃ hr₃ => args_nil ?_))))))))))))))))
  rw [e2] at hr₃
  refine revRange hr₃ (by lia) (by lia) (fun I h₄ k₄ n₄ i₄ => iter_ri i₄ ?_)
  have F₄ := (F₂.kp k₃).fresh k₄ n₄ i₄ (P := isRI _ _ _) rfl
  refine codeAny_forLoop (heapify_max_I h0 s.heap.objs.size H _ D lt xs.length T s) ?_ (xs.length / 2) (heapify_max_I.mk _ _ _ _ xs F₄ rfl rfl (by lia) hD hT)
  rintro n s' ⟨h', tk, m, ys, F, m1, hyl, hn, hyD, hT⟩
  cases n with
  | zero =>
    refine F.rend (hr.deep _).han (by lia) (fun h₅ F₅ => ?_)
    refine wpAny_execs_nil (wpAny_execs_nil ?_)
    dsimp only
    have hT : ys = T := hT
    subst hT
    exact k _ _ (kpB_hide (hh ▸ F₅.keep)) (F₅.pl (.head _))
  | succ i =>
    refine F.rnext 0 rfl (by lia) (fun h₅ t₅ F₅ => ?_)
    dsimp only
    refine wpAny_assign_Name (F₅.st fun h₆ F₆ => ?_)
    have hpi : i < ys.length := by lia
    have e3 : (((i + 1 : Nat) : Int) - 1) = ((i : Nat) : Int) := by lia
    refine wpAny_execs_cons (wpAny_Expr (Call_ (nmG (X0.keeps F₆.keep) (by k_is) (callWith_F (args_cons (F₆.nm (by exact m1) (args_cons (F₆.nm rfl (args_nil ⟨FnAt.of (X0.keeps F₆.keep) (by k_is), ?_⟩)))))))))
    refine siftup_max_spec X C (hr.deep _ |>.le (by lia)) (k0.trans F₆.keep) hbn (F₆.pl (.tail _ (.head _))) hyD (pos := i) (x := ys.getD i .none) (getD_some hpi) (by lia) e3 (fun h₇ tk₇ k₇ hl₇ => ?_)
    dsimp only
    have F₇ := F₆.butL 1 rfl k₇ hl₇
    have hsup : (sup (fun l r => lt r l) (fun x p => lt p x) .none (ys.getD i .none) ys i).length = ys.length ∧ ∀ v ∈ sup (fun l r => lt r l) (fun x p => lt p x) .none (ys.getD i .none) ys i, D v := sup_mem hpi hyD
    have e4 : (((i + 1 : Nat) : Int) - 1 + -1) = ((i : Nat) : Int) - 1 := by lia
    rw [e4, e3] at F₇
    exact wpAny_execs_nil ⟨i, by lia, heapify_max_I.mk _ _ _ _ _ F₇ (by exact m1) (by lia) (by lia) hsup.2 hT⟩
theorem allX (x : T) : pX x := eps (P := pX) pfX0
end N_heapify_max_spec
theorem heapify_max_spec {w : World} {A : Around} {E : Value → Shared → Prop} {s : Shared} {Q : Value → Shared → Prop} {hb : Heap} {D : Value → Prop} {lt : Value → Value → Bool} {H : Addr} {xs : List Value} : N_heapify_max_spec.stX0 w A E s Q hb D lt H xs := (N_heapify_max_spec.allX (w, A, E, s, Q, hb, D, lt, H, xs))
section
variable {w : World} {A : Around} {E : Value → Shared → Prop} {s : Shared} {Q : Value → Shared → Prop} {hb : Heap} {D : Value → Prop} {lt : Value → Value → Bool} {H : Addr} {xs : List Value} {x : Value}
end
end Mine
namespace Mine
theorem kp_ext {h h' : Heap} (k : Heap.ExtBut h.objs.size h h') : Kp h h' := fun b o e => k b o (Nat.ne_of_lt (Heap.lt_size e)) e
section
variable {w : World} {A : Around} {E : Value → Shared → Prop} {s : Shared} {Q : Value → Shared → Prop}
theorem wpRel {M : Model} {vs keep : List Value} {Q : Unit → Shared → Prop} (h : Q () s) : wpAny M A (release vs keep) Q E s := fun Γ p hΓ => by
  simp only [Sem.wp_release]; exact h
theorem tupD {M : Model} {env : Env} {elts : List Expr} {k : Nat} {pos : Pos} (h : wpAny M A (spliced (backTo pos (starEach elts env))) (fun vs s₁ => vs.length ≤ sizeLine ∧ ∀ t h', Kp s₁.heap h' → s₁.heap.get? t = none → h'.get? t = some (seqObj "tuple" vs.toArray 0) → Q (.ref t) { s₁ with heap := h' }) E s) :
    wpAny M A (eval (.Tuple elts k pos) env) Q E s :=
  wpAny_Tuple (wpAny_mono h (fun vs s₁ x => ⟨x.1, x.2 _ _ (Kp.push _ _) (Heap.get?_none_of_le (Nat.le_refl _)) (Heap.get?_push_size _ rfl)⟩) fun _ _ e => e)
theorem listD {M : Model} {env : Env} {elts : List Expr} {pos : Pos} (h : wpAny M A (spliced (backTo pos (starEach elts env))) (fun vs s₁ => vs.length ≤ sizeLine ∧ ∀ t h', Kp s₁.heap h' → s₁.heap.get? t = none → h'.get? t = some (seqObj "list" vs.toArray 0) → Q (.ref t) { s₁ with heap := h' }) E s) :
    wpAny M A (eval (.List elts pos) env) Q E s :=
  wpAny_List (wpAny_mono h (fun vs s₁ x => ⟨x.1, x.2 _ _ (Kp.push _ _) (Heap.get?_none_of_le (Nat.le_refl _)) (Heap.get?_push_size _ rfl)⟩) fun _ _ e => e)
end
section
variable {w : World} {A : Around} {E : Value → Shared → Prop} {s : Shared} {Q : Value → Shared → Prop} {hb : Heap} {D : Value → Prop} {lt : Value → Value → Bool} {H : Addr} {xs : List Value} {x : Value}
end
namespace N_heappushpop_spec
noncomputable def stX0 (w : World) (A : Around) (E : Value → Shared → Prop) (s : Shared) (Q : Value → Shared → Prop) (hb : Heap) (D : Value → Prop) (lt : Value → Value → Bool) (H : Addr) (x : Value) : Prop := ∀ {xs : List Value} (X : KIn w hb) (C : CmpLt w hb D lt) (hr : Rm A 12) (kb : Kp hb s.heap) (hbn : hb.get? H = none) (hl : PL s.heap H xs) (hD : ∀ v ∈ xs, D v) (hx : D x) (hlen : xs.length < 2 ^ 19) (k : ∀ h' tk, KpB [H] s.heap h' → PL h' H (if xs ≠ [] ∧ lt (xs.getD 0 .none) x = true then sup lt lt .none x (xs.set 0 x) 0 else xs) → Q (if xs ≠ [] ∧ lt (xs.getD 0 .none) x = true then xs.getD 0 .none else x) { s with heap := h', toks := tk }), wpAny (MM w) A (call (.ref 49) [.ref H, x]) Q E s
noncomputable abbrev T := World × Around × (Value → Shared → Prop) × Shared × (Value → Shared → Prop) × Heap × (Value → Prop) × (Value → Value → Bool) × Addr × Value
noncomputable def pX (x : T) : Prop := stX0 x.1 x.2.1 x.2.2.1 x.2.2.2.1 x.2.2.2.2.1 x.2.2.2.2.2.1 x.2.2.2.2.2.2.1 x.2.2.2.2.2.2.2.1 x.2.2.2.2.2.2.2.2.1 x.2.2.2.2.2.2.2.2.2
noncomputable def cX : T := @Classical.epsilon _ (ne2 neW (ne2 neA (ne2 neI (ne2 neS (ne2 neI (ne2 neI (ne2 neI (ne2 neI (ne2 neI neI))))))))) fun x => ¬ pX x
def w : World := cX.1
def A : Around := cX.2.1
def E : Value → Shared → Prop := cX.2.2.1
def s : Shared := cX.2.2.2.1
def Q : Value → Shared → Prop := cX.2.2.2.2.1
def hb : Heap := cX.2.2.2.2.2.1
def D : Value → Prop := cX.2.2.2.2.2.2.1
def lt : Value → Value → Bool := cX.2.2.2.2.2.2.2.1
def H : Addr := cX.2.2.2.2.2.2.2.2.1
def x : Value := cX.2.2.2.2.2.2.2.2.2
theorem pfX0 : stX0 w A E s Q hb D lt H x := by
  intro xs X C hr kb hbn hl hD hx hlen k
  refine callT (X.keeps kb) (by k_is) (by k_is) hr (BindsTo.of_eq rfl) (locs rfl) (fun h₁ F₁ => ?_)
  have F := callT1 hl F₁ rfl
  have k0 : Kp hb (hideAll s.heap [H]) := hide_base kb hbn
  generalize hh : hideAll s.heap [H] = h0 at F k0
  have X0 := X.keeps k0
  refine wpAny_execs_cons (wpAny_If (isTrue_and (isTrue_plain (F.nm rfl (wpAny_truthy_list (F.pl (.head _)).il (by simp; lia) ?_)))))
  by_cases e : xs = []
  · rw [if_neg (by simp [e]), if_neg (by simp [e])] at k
    subst e
    simp only [List.isEmpty_toArray, List.isEmpty_nil, Bool.not_true, Bool.false_eq_true, if_false]
    refine wpAny_execs_nil (wpAny_execs_cons (wpAny_Return_some (F.nm rfl ?_)))
    exact k _ _ (kpB_hide (hh ▸ F.keep)) (F.pl (.head _))
  · have hp : 0 < xs.length := List.length_pos_iff.mpr e
    have e1 : (!xs.toArray.isEmpty) = true := by simpa using e
    rw [e1]
    simp only [if_true]
    refine isTrue_and (wpAny_isTrue_Compare1 (Subscript_ (F.nm rfl (wpAny_Constant_int (itemL (F.pl (.head _)) (i := 0) rfl (by lia) (getD_some hp) (F.nm rfl (C _ _ (hD _ (List.mem_of_getElem? (getD_some hp))) hx _ _ _ _ ((hr.deep _).le (by lia)) (k0.trans F.keep) fun h₂ tk₂ k₂ => wpAny_truthy_bool ?_)))))))
    have F₂ := F.kp k₂
    cases hc : lt (xs.getD 0 .none) x with
    | false =>
      rw [if_neg (fun q => by rw [hc] at q; exact absurd q.2 (by decide)), if_neg (fun q => by rw [hc] at q; exact absurd q.2 (by decide))] at k
      simp only [Bool.false_eq_true, if_false]
      refine wpAny_execs_nil (wpAny_execs_cons (wpAny_Return_some (F₂.nm rfl ?_)))
      exact k _ _ (kpB_hide (hh ▸ F₂.keep)) (F₂.pl (.head _))
    | true =>
      rw [if_pos ⟨e, hc⟩, if_pos ⟨e, hc⟩] at k
      simp only [if_true]
      refine isTrue_and_nil ?_
      simp only [if_true]
      refine wpAny_execs_cons (Assign_Tuple (tupD (args_cons (Subscript_ (F₂.nm rfl (wpAny_Constant_int (itemL (F₂.pl (.head _)) (i := 0) rfl (by lia) (getD_some hp) (args_cons (F₂.nm rfl (args_nil ⟨szL, fun t h₃ k₃ n₃ t₃ => ?_⟩))))))))))
      refine assign_Tuple_tuple (hr.deep _).han ⟨_, t₃, rfl, 0, rfl⟩ rfl rfl (fun h₄ k₄ => ?_)
      have F₄ := (F₂.kp k₃).kp (kp_ext k₄)
      refine wpAny_assignInOrder_more (wpAny_assign_Name (F₄.st fun h₅ F₅ => ?_))
      refine wpAny_assignInOrder_more (show wpAny _ _ (assign (.Subscript _ _ _) _ _) _ _ _ from ?_)
      rw [PySem.assign_Subscript]
      refine wpAny_bind (wpAny_holding (F₅.nm rfl (wpAny_bind (wpAny_holding (wpAny_Constant_int (wpAny_bind (wpAny_standAt (wpAny_bind (wpAny_holding (setL (F₅.pl (.head _)) (i := 0) rfl (by lia) hp (fun h₆ hl₆ hs₆ => ?_)))))))))))
      have F₆ := F₅.putL 0 rfl hs₆ hl₆
      refine wpRel (wpAny_assignInOrder_none ?_)
      dsimp only
      refine wpAny_execs_cons (wpAny_Expr (Call_ (nmG (X0.keeps F₆.keep) (by k_is) (callWith_F (args_cons (F₆.nm rfl (args_cons (wpAny_Constant_int (args_nil ⟨FnAt.of (X0.keeps F₆.keep) (by k_is), ?_⟩)))))))))
      refine siftup_spec X C (hr.deep _ |>.le (by lia)) (k0.trans F₆.keep) hbn (F₆.pl (.head _)) (fun v hv => (List.mem_or_eq_of_mem_set hv).elim (hD v) (fun e => e ▸ hx)) (pos := 0) (x := x) (by rw [List.getElem?_set_self hp]) (by simp; lia) rfl (fun h₇ tk₇ k₇ hl₇ => ?_)
      dsimp only
      have F₇ := F₆.butL 0 rfl k₇ hl₇
      refine wpAny_execs_nil (wpAny_execs_cons (wpAny_Return_some (F₇.nm rfl ?_)))
      exact k _ _ (kpB_hide (hh ▸ F₇.keep)) hl₇
theorem allX (x : T) : pX x := eps (P := pX) pfX0
end N_heappushpop_spec
theorem heappushpop_spec {w : World} {A : Around} {E : Value → Shared → Prop} {s : Shared} {Q : Value → Shared → Prop} {hb : Heap} {D : Value → Prop} {lt : Value → Value → Bool} {H : Addr} {x : Value} : N_heappushpop_spec.stX0 w A E s Q hb D lt H x := (N_heappushpop_spec.allX (w, A, E, s, Q, hb, D, lt, H, x))
section
variable {w : World} {A : Around} {E : Value → Shared → Prop} {s : Shared} {Q : Value → Shared → Prop} {hb : Heap} {D : Value → Prop} {lt : Value → Value → Bool} {H : Addr} {xs : List Value} {x : Value}
end
end Mine
namespace Mine
section
variable {w : World} {A : Around} {E : Value → Shared → Prop} {s : Shared} {R : Result → Shared → Prop}
theorem compLoopG {elt target iter : Expr} {scope : Scope} {pos : Pos} {it acc : Value} {env : Env} (I : Nat → Shared → Prop)
    (turn : ∀ n s, I n s → wpAny (MM w) A (pyNext it) (fun r s₁ => match r with
      | none => R (.ok .next) s₁
      | some v => wpAny (MM w) A (letOwnedTupleGo target it v) (fun _ s₁' => wpAny (MM w) A (assign target env v) (fun _ s₂ => wpAny (MM w) A (eval elt env) (fun x s₃ =>
          wpAny (MM w) A (call (.builtin "list.append") [acc, x]) (fun _ s₄ => ∃ m, m < n ∧ I m s₄) (fun _ _ => False) s₃) (fun _ _ => False) s₂) (fun _ _ => False) s₁') (fun _ _ => False) s₁) (fun _ _ => False) s)
    (n : Nat) (h : I n s) :
    codeAny (MM w) A (.compLoop (.ListComp elt [⟨target, iter, [], 0⟩] scope pos) 0 it acc env) R s := by
  refine codeAny_loop rfl I (fun n s hI => ?_) n h
  show wpAny _ _ ((compTurn (.ListComp elt [⟨target, iter, [], 0⟩] scope pos) 0 it acc env).onRaise (fun x => do noteFrame x env; theTreesLotGoes x)) _ _ s
  refine wpAny_noted ?_
  rw [compTurn_list1]
  refine wpAny_bind (wpAny_standAt (wpAny_bind (wpAny_mono (turn n s hI) (fun r s₁ h₁ => ?_) fun _ _ h' => h'.elim)))
  cases r with
  | none => exact wpAny_pure h₁
  | some v =>
    exact wpAny_bind (wpAny_mono h₁ (fun _ s₁' h₁' => wpAny_bind (wpAny_mono h₁' (fun _ s₂ h₂ => wpAny_bind (wpAny_bind (wpAny_mono h₂ (fun x s₃ h₃ => wpAny_bind (wpAny_mono h₃
      (fun _ s₄ h₄ => wpAny_pure (wpAny_pure ⟨rfl, h₄⟩)) fun _ _ h' => h'.elim)) fun _ _ h' => h'.elim))) fun _ _ h' => h'.elim)) fun _ _ h' => h'.elim)
theorem compU {elt target iter : Expr} {scope : Scope} {pos p1 : Pos} {cl : List (Str × Addr)} {env : Env} {use : Option (Value → Sem Unit)} {Q : Value → Shared → Prop}
    (hclos : closureFor scope env = pure cl) (hcell : ∀ y ∈ scope.names, y.2 ≠ .cell) (hkind : scope.kind = .function) (hnames : ∀ y ∈ scope.names, y.2 = .local → scope.names.lookup y.1 = some .local)
    (h : wpAny (MM w) A (eval iter env) (fun xv s₁ => wpAny (MM w) A (pyIter xv) (fun it s₂ => ∀ D C h₁, Kp s₂.heap h₁ → s₂.heap.get? D = none → s₂.heap.get? C = none → D ≠ C → PL h₁ D [] → h₁.Ns C (fun _ => none) →
      (∀ (Q' : Value → Shared → Prop) E', Q' it { s₂ with heap := h₁ } → wpAny (MM w) A (pyIter it) Q' E' { s₂ with heap := h₁ }) ∧
      codeAny (MM w) A (.compLoop (.ListComp elt [⟨target, iter, [], 0⟩] scope pos) 0 it (.ref D) (compEnvC scope cl C env)) (compPost (MM w) A E use Q (.ref D) C) { s₂ with heap := h₁ }) E s₁) E s)
    (hs : ∀ x, foldedSetIterable iter env x = pure x := by intro _; rfl) :
    wpAny (MM w) A (comprehension (.ListComp elt [⟨target, iter, [], 0⟩] scope pos) scope env p1 (newList []) false (eval iter env) use) Q E s := by
  refine wpAny_comprehension_free (use := use) rfl hs hclos hkind hnames (wpAny_mono h (fun xv s₁ h₁ => wpAny_mono h₁ (fun it s₂ h₂ => ?_) fun _ _ e => e) fun _ _ e => e)
  refine wpAny_newObj_type (wpAny_newFunctionEnv hcell (by intro y hy; simp at hy) (fun h₁ hns₁ hsb₁ => ?_) hkind)
  dsimp only at hns₁ hsb₁ ⊢
  generalize hH2 : s₂.heap.push { cls := .type "list", dict := none, data := .seq ([] : List Value).toArray } = H2 at hns₁ hsb₁ ⊢
  have hC : H2.objs.size = s₂.heap.objs.size + 1 := by rw [← hH2, Heap.size_push]
  have k1 : Kp H2 h₁ := fun b o e => hsb₁.extBut b o (Nat.ne_of_lt (Heap.lt_size e)) (Heap.get?_push_of_some _ e)
  have k0 : Kp s₂.heap H2 := hH2 ▸ Kp.push _ _
  have hD : H2.get? s₂.heap.objs.size = some (listOf ([] : List Value).toArray 0) := hH2 ▸ Heap.get?_push_size _ rfl
  obtain ⟨g1, g2⟩ := h₂ s₂.heap.objs.size H2.objs.size h₁ (k0.trans k1) (Heap.get?_none_of_le (Nat.le_refl _)) (Heap.get?_none_of_le (by rw [hC]; exact Nat.le_succ _)) (by rw [hC]; exact Nat.ne_of_lt (Nat.lt_succ_self _)) ⟨0, k1 _ _ hD⟩ hns₁
  exact codeAny_compStart_list g2 (g1 _ _ g2)
theorem listComp {elt target iter : Expr} {scope : Scope} {pos : Pos} {cl : List (Str × Addr)} {env : Env} {Q : Value → Shared → Prop}
    (hclos : closureFor scope env = pure cl) (hcell : ∀ y ∈ scope.names, y.2 ≠ .cell) (hkind : scope.kind = .function) (hnames : ∀ y ∈ scope.names, y.2 = .local → scope.names.lookup y.1 = some .local)
    (h : wpAny (MM w) A (eval iter env) (fun xv s₁ => wpAny (MM w) A (pyIter xv) (fun it s₂ => ∀ D C h₁, Kp s₂.heap h₁ → s₂.heap.get? D = none → s₂.heap.get? C = none → D ≠ C → PL h₁ D [] → h₁.Ns C (fun _ => none) →
      (∀ (Q' : Value → Shared → Prop) E', Q' it { s₂ with heap := h₁ } → wpAny (MM w) A (pyIter it) Q' E' { s₂ with heap := h₁ }) ∧
      codeAny (MM w) A (.compLoop (.ListComp elt [⟨target, iter, [], 0⟩] scope pos) 0 it (.ref D) (compEnvC scope cl C env)) (compPost (MM w) A E none Q (.ref D) C) { s₂ with heap := h₁ }) E s₁) E s)
    (hs : ∀ x, foldedSetIterable iter env x = pure x := by intro _; rfl) :
    wpAny (MM w) A (eval (.ListComp elt [⟨target, iter, [], 0⟩] scope pos) env) Q E s := by
  rw [eval_ListComp]
  exact compU hclos hcell hkind hnames h hs
theorem assignComp {elt target iter : Expr} {y : Str} {py spos : Pos} {scope : Scope} {pos : Pos} {cl : List (Str × Addr)} {env : Env} {Q : Flow → Shared → Prop}
    (hclos : closureFor scope env = pure cl) (hcell : ∀ y ∈ scope.names, y.2 ≠ .cell) (hkind : scope.kind = .function) (hnames : ∀ y ∈ scope.names, y.2 = .local → scope.names.lookup y.1 = some .local)
    (hsw : swapsWith (.ListComp elt [⟨target, iter, [], 0⟩] scope pos) (some (.Name y py)) spos.line env = pure true)
    (h : wpAny (MM w) A (eval iter env) (fun xv s₁ => wpAny (MM w) A (pyIter xv) (fun it s₂ => ∀ D C h₁, Kp s₂.heap h₁ → s₂.heap.get? D = none → s₂.heap.get? C = none → D ≠ C → PL h₁ D [] → h₁.Ns C (fun _ => none) →
      (∀ (Q' : Value → Shared → Prop) E', Q' it { s₂ with heap := h₁ } → wpAny (MM w) A (pyIter it) Q' E' { s₂ with heap := h₁ }) ∧
      codeAny (MM w) A (.compLoop (.ListComp elt [⟨target, iter, [], 0⟩] scope pos) 0 it (.ref D) (compEnvC scope cl C env)) (compPost (MM w) A E (some (assign (.Name y py) env)) (fun _ s' => Q .next s') (.ref D) C) { s₂ with heap := h₁ }) E s₁) E s)
    (hs : ∀ x, foldedSetIterable iter env x = pure x := by intro _; rfl) :
    wpAny (MM w) A (exec (.Assign [.Name y py] (.ListComp elt [⟨target, iter, [], 0⟩] scope pos) spos) env) Q E s := by
  rw [exec_Assign_Name_used _ _ _ _ hsw]
  refine wpAny_bind (wpAny_standAt (wpAny_bind ?_))
  show wpAny _ A (do let _ ← comprehension (.ListComp elt [⟨target, iter, [], 0⟩] scope pos) scope env _ (newList []) false (eval iter env) (some (assign (.Name y py) env))) _ _ s
  exact wpAny_bind (wpAny_mono (compU (use := some (assign (.Name y py) env)) (Q := fun _ s' => Q .next s') hclos hcell hkind hnames h hs) (fun _ s' hq => wpAny_pure (wpAny_pure hq)) fun _ _ e => e)
end
section
variable {w : World} {A : Around} {E : Value → Shared → Prop} {s : Shared} {h₀ : Heap} {L a : Addr} {m : Str → Option Value} {ls : Led}
theorem Lg.inner {h h₁ : Heap} {C D : Addr} (F : Lg h₀ L h m ls) (k : Kp h h₁) (hD : h.get? D = none) (hC : h.get? C = none) (hDC : D ≠ C) (hl : PL h₁ D []) (hn : h₁.Ns C (fun _ => none)) :
    Lg (hideAll h₁ (C :: D :: ls.map (·.1))) C h₁ (fun _ => none) ((D, isL []) :: ls) ∧ Kp h₀ (hideAll h₁ (C :: D :: ls.map (·.1))) ∧ (hideAll h₁ (C :: D :: ls.map (·.1))).Ns L m := by
  have F1 := F.kp k
  have oC : ∀ p ∈ ls, p.1 ≠ C := fun p hp q => by obtain ⟨o, e, _⟩ := F.at_ p hp; rw [q, hC] at e; cases e
  have oD : ∀ p ∈ ls, p.1 ≠ D := fun p hp q => by obtain ⟨o, e, _⟩ := F.at_ p hp; rw [q, hD] at e; cases e
  have LC : L ≠ C := fun q => by obtain ⟨o, es, ep, e, r⟩ := F.ns; rw [q, hC] at e; cases e
  have LD : L ≠ D := fun q => by obtain ⟨o, es, ep, e, r⟩ := F.ns; rw [q, hD] at e; cases e
  refine ⟨⟨hn, hide_kp _ _, hideAll_none _ (.head _), fun p hp => ?_, fun p hp => ?_, ?_⟩, fun b o e => hideAll_get _ (F1.keep b o e) (fun q => ?_), ?_⟩
  · cases hp with
    | head => obtain ⟨n, e⟩ := hl; exact ⟨_, e, n, rfl⟩
    | tail _ q => exact F1.at_ p q
  · cases hp with
    | head => exact ⟨hDC, hideAll_none _ (.tail _ (.head _))⟩
    | tail _ q => exact ⟨oC p q, hideAll_none _ (.tail _ (.tail _ (List.mem_map_of_mem q)))⟩
  · simp only [List.map_cons, List.nodup_cons]
    exact ⟨fun q => by obtain ⟨p, hp, e⟩ := List.mem_map.mp q; exact oD p hp e, F.nd⟩
  · have hh : h.get? b = some o := F.keep b o e
    cases q with
    | head => rw [hC] at hh; cases hh
    | tail _ q => cases q with
      | head => rw [hD] at hh; cases hh
      | tail _ q =>
        obtain ⟨p, hp, rfl⟩ := List.mem_map.mp q
        rw [(F.off p hp).2] at e; cases e
  · obtain ⟨o, es, ep, e, r⟩ := F1.ns
    refine ⟨o, es, ep, hideAll_get _ e (fun q => ?_), r⟩
    cases q with
    | head => exact LC rfl
    | tail _ q => cases q with
      | head => exact LD rfl
      | tail _ q =>
        obtain ⟨p, hp, e⟩ := List.mem_map.mp q
        exact (F.off p hp).1 e
theorem Lg.outer {h h' hb : Heap} {C : Addr} {mC m' : Str → Option Value} {ls' : Led} (F : Lg hb C h mC ls') (hn : hb.Ns L m) (k : Kp h₀ hb) (hL : h₀.get? L = none) (hs : Heap.SameBut C h h') : Lg h₀ L h' m ls' := by
  have kb : Kp hb h' := fun b o e => (hs.2 b (fun q => by rw [q, F.nL] at e; cases e)).trans (F.keep b o e)
  refine ⟨hn.keeps kb, k.trans kb, hL, fun p hp => by obtain ⟨o, e, q⟩ := F.at_ p hp; exact ⟨o, (hs.2 _ (F.off p hp).1).trans e, q⟩, fun p hp => ⟨fun q => ?_, ?_⟩, F.nd⟩
  · obtain ⟨o, es, ep, e, r⟩ := hn
    rw [← q, (F.off p hp).2] at e; cases e
  · cases q : h₀.get? p.1 with
    | none => rfl
    | some o => have := k _ _ q; rw [(F.off p hp).2] at this; cases this
noncomputable abbrev isLI (l : Addr) (i : Nat) : Obj → Prop := fun o => o.cls = .type "list_iterator" ∧ o.data = .fields #[.ref l, .int i 0]
end
end Mine
namespace Mine
noncomputable abbrev zH1 (h : Heap) (x0 b0 c0 : Int) : Heap := h.push { cls := .type "range_iterator", data := .fields #[rawInt x0, rawInt (Builtin.Range.rangeSize x0 b0 c0), rawInt c0] }
noncomputable abbrev zH2 (h : Heap) (x0 b0 c0 : Int) (I : Addr) : Heap := (zH1 h x0 b0 c0).push { cls := .type "tuple", data := .seq #[.ref h.objs.size, .ref I] }
noncomputable abbrev zH3 (h : Heap) (x0 b0 c0 : Int) (I : Addr) : Heap := (zH2 h x0 b0 c0 I).push { cls := .type "tuple", data := .seq #[.none, .none] }
noncomputable abbrev zH4 (h : Heap) (x0 b0 c0 : Int) (I : Addr) : Heap := (zH3 h x0 b0 c0 I).push { cls := .type "zip", data := .fields #[.none, .bool false, .bool false, .ref (zH1 h x0 b0 c0).objs.size, .ref (zH2 h x0 b0 c0 I).objs.size] }
theorem meets_zip_rl (r I l : Addr) (x0 b0 c0 : Int) (t u v : Tok) (k : Nat) (hsm : Builtin.Range.small x0 b0 c0 = true) :
    Meets (Builtin.«zip.__new__» ⟨[.type "zip", .ref r, .ref I], []⟩) (fun _ R s => IsRange s.heap r x0 b0 c0 t u v ∧ s.heap.IsListIter I l k ∧
      R (.ok (.ret (.ref (zH3 s.heap x0 b0 c0 I).objs.size))) { s with heap := zH4 s.heap x0 b0 c0 I }) :=
  .of_wp fun prog w A R s h => by
    obtain ⟨hp, g, d, tk, os⟩ := s; obtain ⟨hr, hi, h⟩ := h
    have hsub := sub_zip
    have hI : Heap.IsListIter (Shared.heap ⟨hp.push { cls := .type "range_iterator", data := .fields #[rawInt x0, rawInt (Builtin.Range.rangeSize x0 b0 c0), rawInt c0] }, g, d, tk, os⟩) I l k := hi.at fun o e => Heap.get?_push_of_some _ e
    wp_walk using wpAny_pyIter_range hr hsm, wpAny_pyIter_listiter hI
    exact ⟨_, rfl, h⟩
section
variable {w : World} {A : Around} {E : Value → Shared → Prop} {s : Shared} {h₀ : Heap} {L a : Addr} {m : Str → Option Value} {ls : Led} {l : Addr} {xs : List Value}
theorem li_iff {h : Heap} {i : Nat} : h.IsListIter a l i ↔ ∃ o, h.get? a = some o ∧ isLI l i o := ⟨fun zz => by obtain ⟨o, e, p, q⟩ := zz; exact ⟨o, e, p, q⟩, fun zz => by obtain ⟨o, e, p, q⟩ := zz; exact ⟨o, e, p, q⟩⟩
theorem Lg.li {h : Heap} {i : Nat} (F : Lg h₀ L h m ls) (hi : (a, isLI l i) ∈ ls) : h.IsListIter a l i := li_iff.mpr (F.get hi)
theorem Lg.putLI {h h' : Heap} {P : Obj → Prop} {k : Nat} (F : Lg h₀ L h m ls) (i : Nat) (hi : ls[i]? = some (a, P)) (hs : Heap.SameBut a h h') (ho : h'.IsListIter a l k) : Lg h₀ L h' m (ls.set i (a, isLI l k)) :=
  by obtain ⟨_, e, q⟩ := li_iff.mp ho; exact F.put i hi hs e q
theorem Lg.lnext {k : Nat} {v : Value} {Q : Option Value → Shared → Prop} (F : Lg h₀ L s.heap m ls) (i : Nat) (hi : ls[i]? = some (a, isLI l k)) (hl : PL h₀ l xs) (hx : xs[k]? = some v)
    (h : ∀ h', Lg h₀ L h' m (ls.set i (a, isLI l (k + 1))) → Q (some v) { s with heap := h' }) : wpAny (MM w) A (pyNext (.ref a)) Q E s :=
  wpAny_pyNext_list_item (F.li (List.mem_of_getElem? hi)) (hl.kp F.keep).il (by simpa using hx) (fun h' e hs => h h' (F.putLI i hi hs e))
theorem Lg.lend {k : Nat} {Q : Option Value → Shared → Prop} (F : Lg h₀ L s.heap m ((a, isLI l k) :: ls)) (hh : A.handled = none) (hl : PL h₀ l xs) (hx : xs.length ≤ k)
    (h : ∀ h', Lg h₀ L h' m ls → Q none { s with heap := h' }) : wpAny (MM w) A (pyNext (.ref a)) Q E s :=
  wpAny_pyNext_list_end hh (F.li (.head _)) (hl.kp F.keep).il (by simpa using hx) (fun h' k => h h' (F.ext k))
theorem iterL {Q : Value → Shared → Prop} (hl : PL s.heap l xs) (h : ∀ I h', Kp s.heap h' → s.heap.get? I = none → h'.IsListIter I l 0 → Q (.ref I) { s with heap := h' }) : wpAny (MM w) A (pyIter (.ref l)) Q E s :=
  wpAny_pyIter_list hl.il (h _ _ (Kp.push _ _) (Heap.get?_none_of_le (Nat.le_refl _)) ⟨_, Heap.get?_push_size _ rfl, rfl, rfl⟩)
theorem Lg.freshLI {h h' : Heap} {I : Addr} (F : Lg h₀ L h m ls) (k : Kp h h') (hn : h.get? I = none) (ho : h'.IsListIter I l 0) : Lg h₀ L h' m ((I, isLI l 0) :: ls) := by obtain ⟨_, e, q⟩ := li_iff.mp ho; exact F.fresh k hn e q
theorem call_iterV {v : Value} {Q : Value → Shared → Prop} (h : wpAny (MM w) A.in1 (pyIter v) Q E s) : wpAny (MM w) A (call (.builtin "iter") [v]) Q E s := by
  refine call_function_entry (by decide +kernel) (by decide +kernel) kdk_entry_iter (kdk_args_iter _) ?_
  unfold Builtin.«iter»
  refine wpAny_bind (m := someArgs "iter" 1 2 _) (wpAny_of_eq (a := [v]) (by first | rfl | kernel_rfl!) ?_)
  show wpAny _ _ (pyIter v >>= _) _ _ _
  exact wpAny_bind (wpAny_mono h (fun v s' q => wpAny_pure ⟨_, rfl, q⟩) fun _ _ e => e)
theorem Lg.rnextOf {x left step : Int} {Q : Value → Shared → Prop} (F : Lg h₀ L s.heap m ls) (i : Nat) (hi : ls[i]? = some (a, isRI x left step)) (hl : 0 < left)
    (h : ∀ h' t, Lg h₀ L h' m (ls.set i (a, isRI (x + step) (left - 1) step)) → h'.objs.size = s.heap.objs.size → Q (.int x t) { s with heap := h', toks := s.toks + 1 }) : wpAny (MM w) A (Builtin.SmallTypes.nextOf (.ref a)) Q E s := by
  obtain ⟨o, e, rfl⟩ := F.get (List.mem_of_getElem? hi)
  have hT : s.TypeIs (.ref a) "range_iterator" := ⟨_, e, rfl⟩
  unfold Builtin.SmallTypes.nextOf
  refine wpAny_bind (wpAny_callSpecial?_slot (name := Str.ofString "__next__") hT PySem.F.slot_range_iterator_next
    (call_meets PySem.F.slot_range_iterator_next hT PySem.F.entry_range_iterator_next (PySem.F.args_range_iterator_next_1 _) (AutoRange.range_iterator___next___range_iterator_1 a x left step (by lia)) ⟨e, ?_⟩))
  have hs := (Heap.SameBut.update s.heap a (Obj.mapFields fun x_1 => x_1.setIfInBounds 0 (rawInt (x + step)))).trans (Heap.SameBut.update _ a (Obj.mapFields fun x => x.setIfInBounds 1 (rawInt (left - 1))))
  exact wpAny_pure (h _ _ (F.put i hi hs (Heap.get?_update_self _ (Heap.get?_update_self _ e rfl) rfl) rfl) hs.1)
theorem riStop {x left step : Int} {Q : Option Value → Shared → Prop} (hit : IsRangeIter s.heap a x left step) (hh : A.handled = none) (hl : left ≤ 0)
    (h : ∀ h' e, Kp s.heap h' → (∃ o, h'.get? e = some o ∧ o.cls = .type "StopIteration") → E (.ref e) { s with heap := h' }) : wpAny (MM w) A (callSpecial? (.ref a) (Str.ofString "__next__")) Q E s := by
  have hT : s.TypeIs (.ref a) "range_iterator" := ⟨_, hit, rfl⟩
  refine wpAny_callSpecial?_slot (name := Str.ofString "__next__") hT PySem.F.slot_range_iterator_next
    (wpAny_call_entry PySem.F.slot_range_iterator_next hT PySem.F.entry_range_iterator_next ?_ (PySem.F.args_range_iterator_next_1 _))
  show wpAny _ _ (field (.ref a) 0 >>= _) _ _ s
  refine wpAny_bind (wpAny_field hit rfl (x := rawInt x) rfl ?_)
  show wpAny _ _ (field (.ref a) 1 >>= _) _ _ s
  refine wpAny_bind (wpAny_field hit rfl (x := rawInt left) rfl ?_)
  show wpAny _ _ (field (.ref a) 2 >>= _) _ _ s
  refine wpAny_bind (wpAny_field hit rfl (x := rawInt step) rfl ?_)
  show wpAny _ _ (if left ≤ 0 then _ else _) _ _ s
  rw [if_pos hl]
  refine wpAny_bind (wpAny_rule ?_)
  refine wpAny_bind ?_
  show wpAny _ _ (newExc (.type "StopIteration") [] >>= _) _ _ _
  refine wpAny_bind ?_
  simp only [newExc, newTuple]
  refine wpAny_bind (wpAny_newObj_type ?_ (by size_fits))
  refine wpAny_bind (m := firstArgMember _ _) (wpAny_of_eq (a := Value.none) (by first | rfl | (simp only [firstArgMember]; rfl)) ?_)
  refine wpAny_newObj_type ?_ (by size_fits)
  simp only [raiseNew]
  refine wpAny_bind (wpAny_handled ?_)
  first | rw [show A.in1.handled = none from hh] | rw [hh]
  refine wpAny_bind (wpAny_pure (wpAny_throw ?_))
  exact h _ _ (fun _ _ e => Heap.get?_push_of_some _ (Heap.get?_push_of_some _ e)) ⟨_, Heap.get?_push_size _ rfl, rfl⟩
theorem Lg.rendOf {x left step : Int} {Q : Value → Shared → Prop} (F : Lg h₀ L s.heap m ls) (i : Nat) (hi : ls[i]? = some (a, isRI x left step)) (hh : A.handled = none) (hl : left ≤ 0)
    (h : ∀ h' e, Kp s.heap h' → (∃ o, h'.get? e = some o ∧ o.cls = .type "StopIteration") → E (.ref e) { s with heap := h' }) : wpAny (MM w) A (Builtin.SmallTypes.nextOf (.ref a)) Q E s := by
  obtain ⟨o, hit, rfl⟩ := F.get (List.mem_of_getElem? hi)
  unfold Builtin.SmallTypes.nextOf
  exact wpAny_bind (riStop hit hh hl h)
noncomputable abbrev isZ (TI TO : Addr) (f0 : Value) : Obj → Prop := fun o => o = { cls := .type "zip", dict := none, data := .fields #[f0, .bool false, .bool false, .ref TI, .ref TO], slots := #[] }
noncomputable abbrev isPr : Obj → Prop := fun o => ∃ a b, o = { cls := .type "tuple", data := .seq #[a, b] }
end
namespace N_Lg_znext
noncomputable def stX0 (w : World) (A : Around) (E : Value → Shared → Prop) (s : Shared) (h₀ : Heap) (L : Addr) (m : Str → Option Value) (ls : Led) (l : Addr) (xs : List Value) (z TI TO i1 i2 : Addr) (x left step : Int) (k : Nat) (y : Value) (Q : Option Value → Shared → Prop) : Prop := ∀ (F : Lg h₀ L s.heap m ((z, isZ TI TO .none) :: (TO, isPr) :: (i1, isRI x left step) :: (i2, isLI l k) :: ls)) (hTI : IsPair h₀ TI (.ref i1) (.ref i2)) (hl : 0 < left) (hv : PL h₀ l xs) (hy : xs[k]? = some y) (h : ∀ h' tk t (T : Addr), Lg h₀ L h' m ((z, isZ TI TO (rawInt T)) :: (TO, isPr) :: (i1, isRI (x + step) (left - 1) step) :: (i2, isLI l (k + 1)) :: ls) → h'.get? T = some (seqObj "tuple" #[.int x t, y] 0) → s.heap.get? T = none → Q (some (.ref T)) { s with heap := h', toks := tk }), wpAny (MM w) A (pyNext (.ref z)) Q E s
noncomputable abbrev T := World × Around × (Value → Shared → Prop) × Shared × Heap × Addr × (Str → Option Value) × Led × Addr × (List Value) × Addr × Addr × Addr × Addr × Addr × Int × Int × Int × Nat × Value × (Option Value → Shared → Prop)
noncomputable def pX (x : T) : Prop := stX0 x.1 x.2.1 x.2.2.1 x.2.2.2.1 x.2.2.2.2.1 x.2.2.2.2.2.1 x.2.2.2.2.2.2.1 x.2.2.2.2.2.2.2.1 x.2.2.2.2.2.2.2.2.1 x.2.2.2.2.2.2.2.2.2.1 x.2.2.2.2.2.2.2.2.2.2.1 x.2.2.2.2.2.2.2.2.2.2.2.1 x.2.2.2.2.2.2.2.2.2.2.2.2.1 x.2.2.2.2.2.2.2.2.2.2.2.2.2.1 x.2.2.2.2.2.2.2.2.2.2.2.2.2.2.1 x.2.2.2.2.2.2.2.2.2.2.2.2.2.2.2.1 x.2.2.2.2.2.2.2.2.2.2.2.2.2.2.2.2.1 x.2.2.2.2.2.2.2.2.2.2.2.2.2.2.2.2.2.1 x.2.2.2.2.2.2.2.2.2.2.2.2.2.2.2.2.2.2.1 x.2.2.2.2.2.2.2.2.2.2.2.2.2.2.2.2.2.2.2.1 x.2.2.2.2.2.2.2.2.2.2.2.2.2.2.2.2.2.2.2.2
noncomputable def cX : T := @Classical.epsilon _ (ne2 neW (ne2 neA (ne2 neI (ne2 neS (ne2 neI (ne2 neI (ne2 neI (ne2 neI (ne2 neI (ne2 neI (ne2 neI (ne2 neI (ne2 neI (ne2 neI (ne2 neI (ne2 neI (ne2 neI (ne2 neI (ne2 neI (ne2 neI neI)))))))))))))))))))) fun x => ¬ pX x
def w : World := cX.1
def A : Around := cX.2.1
def E : Value → Shared → Prop := cX.2.2.1
def s : Shared := cX.2.2.2.1
def h₀ : Heap := cX.2.2.2.2.1
def L : Addr := cX.2.2.2.2.2.1
def m : Str → Option Value := cX.2.2.2.2.2.2.1
def ls : Led := cX.2.2.2.2.2.2.2.1
def l : Addr := cX.2.2.2.2.2.2.2.2.1
def xs : List Value := cX.2.2.2.2.2.2.2.2.2.1
def z : Addr := cX.2.2.2.2.2.2.2.2.2.2.1
def TI : Addr := cX.2.2.2.2.2.2.2.2.2.2.2.1
def TO : Addr := cX.2.2.2.2.2.2.2.2.2.2.2.2.1
def i1 : Addr := cX.2.2.2.2.2.2.2.2.2.2.2.2.2.1
def i2 : Addr := cX.2.2.2.2.2.2.2.2.2.2.2.2.2.2.1
def x : Int := cX.2.2.2.2.2.2.2.2.2.2.2.2.2.2.2.1
def left : Int := cX.2.2.2.2.2.2.2.2.2.2.2.2.2.2.2.2.1
def step : Int := cX.2.2.2.2.2.2.2.2.2.2.2.2.2.2.2.2.2.1
def k : Nat := cX.2.2.2.2.2.2.2.2.2.2.2.2.2.2.2.2.2.2.1
def y : Value := cX.2.2.2.2.2.2.2.2.2.2.2.2.2.2.2.2.2.2.2.1
def Q : Option Value → Shared → Prop := cX.2.2.2.2.2.2.2.2.2.2.2.2.2.2.2.2.2.2.2.2
theorem pfX0 : stX0 w A E s h₀ L m ls l xs z TI TO i1 i2 x left step k y Q := by
  intro F hTI hl hv hy h
  obtain ⟨oz, hz, rfl⟩ := F.get (.head _)
  have hT : s.TypeIs (.ref z) "zip" := ⟨_, hz, rfl⟩
  unfold pyNext
  refine wpAny_bind (wpAny_attempt (wpAny_callSpecial?_slot (name := Str.ofString "__next__") hT PySem.F.slot_zip_next (wpAny_call_entry PySem.F.slot_zip_next hT PySem.F.entry_zip_next ?_ (PySem.F.args_zip_next_1 _))))
  show wpAny _ _ (field (.ref z) 2 >>= _) _ _ _
  refine wpAny_bind (wpAny_field hz rfl (x := .bool false) rfl ?_)
  show wpAny _ _ (field (.ref z) 3 >>= _) _ _ _
  refine wpAny_bind (wpAny_field hz rfl (x := .ref TI) rfl ?_)
  refine wpAny_bind (wpAny_seqItems (F.keep _ _ hTI) rfl ?_)
  show wpAny _ _ (Builtin.SmallTypes.ownedTupleIsFree (.ref z) >>= _) _ _ _
  refine wpAny_bind ?_
  unfold Builtin.SmallTypes.ownedTupleIsFree
  refine wpAny_bind (wpAny_field hz rfl (x := .none) rfl (wpAny_pure ?_))
  simp only [if_true]
  refine wpAny_bind (wpAny_rule ?_)
  refine wpAny_bind (wpAny_field hz rfl (x := .ref TO) rfl ?_)
  refine wpAny_bind (wpAny_setField_rec hz (by simp) fun h₁ hz₁ hs₁ => ?_)
  have F₁ := F.put 0 rfl hs₁ (P' := isZ TI TO .ellipsis) hz₁ rfl
  refine wpAny_bind ?_
  simp only [List.zipIdx_cons, List.zipIdx_nil, List.forIn_cons, List.forIn_nil]
  refine wpAny_bind (wpAny_bind (wpAny_onRaise ?_))
  show wpAny _ _ (Builtin.SmallTypes.nextOf (.ref i1) >>= _) _ _ _
  refine wpAny_bind (F₁.rnextOf 2 rfl hl fun h₂ t F₂ sz₂ => wpAny_pure ?_)
  obtain ⟨oT, hTO₂, a, b, rfl⟩ := F₂.get (a := TO) (P := isPr) (.tail _ (.head _))
  refine wpAny_bind (wpAny_seqItems hTO₂ rfl ?_)
  refine wpAny_bind (wpAny_updateSeq_pair hTO₂ fun h₃ hTO₃ hs₃ => ?_)
  have F₃ := F₂.put 1 rfl hs₃ (P' := fun o => o = { cls := .type "tuple", data := .seq #[Value.int x t, b] }) hTO₃ rfl
  refine wpAny_bind (wpAny_letGo (wpAny_pure ?_))
  refine wpAny_bind (wpAny_bind (wpAny_onRaise ?_))
  show wpAny _ _ (Builtin.SmallTypes.nextOf (.ref i2) >>= _) _ _ _
  refine wpAny_bind (wpAny_nextOf_list_item (F₃.li (.tail _ (.tail _ (.tail _ (.head _))))) (hv.kp F₃.keep).il (by simpa using hy) fun h₄ e₄ hs₄ => wpAny_pure ?_)
  have F₄ := F₃.putLI 3 rfl hs₄ e₄
  obtain ⟨oT, hTO₄, rfl⟩ := F₄.get (a := TO) (P := fun o => o = { cls := .type "tuple", data := .seq #[Value.int x t, b] }) (.tail _ (.head _))
  refine wpAny_bind (wpAny_seqItems hTO₄ rfl ?_)
  refine wpAny_bind (wpAny_updateSeq_pair hTO₄ fun h₅ hTO₅ hs₅ => ?_)
  have F₅ := F₄.put 1 rfl hs₅ (P' := isPr) hTO₅ ⟨_, _, rfl⟩
  refine wpAny_bind (wpAny_letGo (wpAny_pure (wpAny_pure ?_)))
  refine wpAny_bind (wpAny_seqItems hTO₅ rfl ?_)
  refine wpAny_bind (wpAny_newTuple ?_ szL)
  show wpAny _ _ (Builtin.SmallTypes.ownedTupleHandOut (.ref z) (.ref h₅.objs.size) >>= _) _ _ _
  refine wpAny_bind ?_
  unfold Builtin.SmallTypes.ownedTupleHandOut
  have F₆ := F₅.kp (Kp.push _ (seqObj "tuple" #[Value.int x t, y] 0))
  have hT6 : (h₅.push (seqObj "tuple" #[Value.int x t, y] 0)).get? h₅.objs.size = some (seqObj "tuple" #[Value.int x t, y] 0) := Heap.get?_push_size _ rfl
  obtain ⟨oz, hz₆, rfl⟩ := F₆.get (.head _)
  have zlt : h₅.objs.size ≠ z := by
    obtain ⟨oz, e, _⟩ := F₅.get (.head _)
    exact Ne.symm (Nat.ne_of_lt (Heap.lt_size e))
  refine wpAny_bind (wpAny_setField_rec hz₆ (by simp) fun h₇ hz₇ hs₇ => ?_)
  have F₇ := F₆.put 0 rfl hs₇ (P' := isZ TI TO (rawInt h₅.objs.size)) hz₇ rfl
  refine wpAny_setField_rec hz₇ (by simp) fun h₈ hz₈ hs₈ => ?_
  have F₈ := F₇.put 0 rfl hs₈ (P' := isZ TI TO (rawInt h₅.objs.size)) hz₈ rfl
  refine wpAny_pure ⟨_, rfl, ?_⟩
  refine wpAny_pure (h _ _ t h₅.objs.size F₈ ((hs₈.2 _ zlt).trans ((hs₇.2 _ zlt).trans hT6)) ?_)
  have hsz : h₅.objs.size = s.heap.objs.size := by rw [hs₅.1, hs₄.1, hs₃.1, sz₂, hs₁.1]
  rw [hsz]; exact Heap.get?_none_of_le (Nat.le_refl _)
theorem allX (x : T) : pX x := eps (P := pX) pfX0
end N_Lg_znext
theorem Lg.znext {w : World} {A : Around} {E : Value → Shared → Prop} {s : Shared} {h₀ : Heap} {L : Addr} {m : Str → Option Value} {ls : Led} {l : Addr} {xs : List Value} {z TI TO i1 i2 : Addr} {x left step : Int} {k : Nat} {y : Value} {Q : Option Value → Shared → Prop} : N_Lg_znext.stX0 w A E s h₀ L m ls l xs z TI TO i1 i2 x left step k y Q := (N_Lg_znext.allX (w, A, E, s, h₀, L, m, ls, l, xs, z, TI, TO, i1, i2, x, left, step, k, y, Q))
section
variable {w : World} {A : Around} {E : Value → Shared → Prop} {s : Shared} {h₀ : Heap} {L a : Addr} {m : Str → Option Value} {ls : Led} {l : Addr} {xs : List Value}
noncomputable abbrev isLX : Obj → Prop := fun o => o.cls = .type "list_iterator" ∧ ∃ v, o.data = .fields #[.none, v]
theorem lendOf {k : Nat} {Q : Value → Shared → Prop} (hit : s.heap.IsListIter a l k) (hv : PL s.heap l xs) (hx : xs.length ≤ k) (hh : A.handled = none)
    (h : ∀ h₁ h' e o, Heap.SameBut a s.heap h₁ → h₁.get? a = some o → isLX o → Kp h₁ h' → (∃ o, h'.get? e = some o ∧ o.cls = .type "StopIteration") → E (.ref e) { s with heap := h' }) : wpAny (MM w) A (Builtin.SmallTypes.nextOf (.ref a)) Q E s := by
  obtain ⟨o, ho, hc, hd⟩ := id hit
  obtain ⟨n, hol⟩ := hv
  unfold Builtin.SmallTypes.nextOf
  refine wpAny_bind (wpAny_callSpecial?_slot (name := Str.ofString "__next__") hit.typeIs slot_listiter_next (wpAny_call_entry slot_listiter_next hit.typeIs entry_listiter_next ?_ (args_listiter_next _)))
  show wpAny _ _ (field (.ref a) 0 >>= _) _ _ s
  refine wpAny_bind (wpAny_field ho hd (x := .ref l) rfl ?_)
  show wpAny _ _ (if (Value.ref l == Value.none) = true then _ else _) _ _ s
  rw [if_neg (show ¬ ((Value.ref l == Value.none) = true) from Bool.false_ne_true)]
  show wpAny _ _ (field (.ref a) 1 >>= _) _ _ s
  refine wpAny_bind (wpAny_field ho hd (x := .int k 0) rfl ?_)
  show wpAny _ _ (seqItems? (.ref l) >>= _) _ _ s
  refine wpAny_bind (wpAny_seqItems hol rfl ?_)
  have hx' : xs.toArray[k]? = none := by simpa using hx
  simp only [Int.toNat_natCast, hx']
  refine wpAny_bind (wpAny_rule (wpAny_bind (wpAny_setField ho hd (by simp) ?_)))
  show wpAny _ _ (newExc (.type "StopIteration") [] >>= _) _ _ _
  refine wpAny_bind ?_
  simp only [newExc, newTuple]
  refine wpAny_bind (wpAny_newObj_type ?_ (by size_fits))
  refine wpAny_bind (m := firstArgMember _ _) (wpAny_of_eq (a := Value.none) (by first | rfl | (simp only [firstArgMember]; rfl)) ?_)
  refine wpAny_newObj_type ?_ (by size_fits)
  simp only [raiseNew]
  refine wpAny_bind (wpAny_handled ?_)
  first | rw [show A.in1.handled = none from hh] | rw [hh]
  refine wpAny_bind (wpAny_pure (wpAny_throw ?_))
  exact h _ _ _ _ (Heap.SameBut.update ..) (Heap.get?_update_self _ ho (Obj.isFreed_of_fields (Obj.data_mapFields hd _))) ⟨(Obj.cls_mapFields ..).trans hc, _, by rw [Obj.data_mapFields hd]; simp; rfl⟩ (fun _ _ e => Heap.get?_push_of_some _ (Heap.get?_push_of_some _ e)) ⟨_, Heap.get?_push_size _ rfl, rfl⟩
theorem Lg.lxnext {Q : Option Value → Shared → Prop} (F : Lg h₀ L s.heap m ((a, isLX) :: ls)) (hh : A.handled = none)
    (h : ∀ h', Lg h₀ L h' m ls → Q none { s with heap := h' }) : wpAny (MM w) A (pyNext (.ref a)) Q E s := by
  obtain ⟨o, ho, hc, v, hd⟩ := F.get (.head _)
  have hT : s.TypeIs (.ref a) "list_iterator" := ⟨_, ho, hc⟩
  unfold pyNext
  refine wpAny_bind (wpAny_attempt (wpAny_callSpecial?_slot (name := Str.ofString "__next__") hT slot_listiter_next (wpAny_call_entry slot_listiter_next hT entry_listiter_next ?_ (args_listiter_next _))))
  show wpAny _ _ (field (.ref a) 0 >>= _) _ _ s
  refine wpAny_bind (wpAny_field ho hd (x := .none) rfl ?_)
  show wpAny _ _ (if (Value.none == Value.none) = true then _ else _) _ _ s
  rw [if_pos (by rfl)]
  refine wpAny_bind (wpAny_rule ?_)
  refine wpAny_bind ?_
  show wpAny _ _ (newExc (.type "StopIteration") [] >>= _) _ _ _
  refine wpAny_bind ?_
  simp only [newExc, newTuple]
  refine wpAny_bind (wpAny_newObj_type ?_ (by size_fits))
  refine wpAny_bind (m := firstArgMember _ _) (wpAny_of_eq (a := Value.none) (by first | rfl | (simp only [firstArgMember]; rfl)) ?_)
  refine wpAny_newObj_type ?_ (by size_fits)
  simp only [raiseNew]
  refine wpAny_bind (wpAny_handled ?_)
  first | rw [show A.in1.handled = none from hh] | rw [hh]
  refine wpAny_bind (wpAny_pure (wpAny_throw ?_))
  refine wpAny_bind (wpAny_isInstance (T := "StopIteration") (b := true) ⟨_, Heap.get?_push_size _ rfl, rfl⟩ isSubtype_stop ?_)
  exact wpAny_pure (h _ (F.drop.kp (fun _ _ e => Heap.get?_push_of_some _ (Heap.get?_push_of_some _ e))))
end
namespace N_Lg_zend
noncomputable def stX0 (w : World) (A : Around) (E : Value → Shared → Prop) (s : Shared) (h₀ : Heap) (L : Addr) (m : Str → Option Value) (ls : Led) (l : Addr) (xs : List Value) (z TI TO i1 i2 : Addr) (x left step : Int) (k : Nat) (Q : Option Value → Shared → Prop) : Prop := ∀ (F : Lg h₀ L s.heap m ((z, isZ TI TO .none) :: (TO, isPr) :: (i1, isRI x left step) :: (i2, isLI l k) :: ls)) (hTI : IsPair h₀ TI (.ref i1) (.ref i2)) (hv : PL h₀ l xs) (hh : A.handled = none) (hend : left ≤ 0 ∨ xs.length ≤ k) (h : ∀ h' tk P, Lg h₀ L h' m ((i2, P) :: ls) → (P = isLI l k ∧ left ≤ 0 ∨ P = isLX ∧ xs.length ≤ k) → Q none { s with heap := h', toks := tk }), wpAny (MM w) A (pyNext (.ref z)) Q E s
noncomputable abbrev T := World × Around × (Value → Shared → Prop) × Shared × Heap × Addr × (Str → Option Value) × Led × Addr × (List Value) × Addr × Addr × Addr × Addr × Addr × Int × Int × Int × Nat × (Option Value → Shared → Prop)
noncomputable def pX (x : T) : Prop := stX0 x.1 x.2.1 x.2.2.1 x.2.2.2.1 x.2.2.2.2.1 x.2.2.2.2.2.1 x.2.2.2.2.2.2.1 x.2.2.2.2.2.2.2.1 x.2.2.2.2.2.2.2.2.1 x.2.2.2.2.2.2.2.2.2.1 x.2.2.2.2.2.2.2.2.2.2.1 x.2.2.2.2.2.2.2.2.2.2.2.1 x.2.2.2.2.2.2.2.2.2.2.2.2.1 x.2.2.2.2.2.2.2.2.2.2.2.2.2.1 x.2.2.2.2.2.2.2.2.2.2.2.2.2.2.1 x.2.2.2.2.2.2.2.2.2.2.2.2.2.2.2.1 x.2.2.2.2.2.2.2.2.2.2.2.2.2.2.2.2.1 x.2.2.2.2.2.2.2.2.2.2.2.2.2.2.2.2.2.1 x.2.2.2.2.2.2.2.2.2.2.2.2.2.2.2.2.2.2.1 x.2.2.2.2.2.2.2.2.2.2.2.2.2.2.2.2.2.2.2
noncomputable def cX : T := @Classical.epsilon _ (ne2 neW (ne2 neA (ne2 neI (ne2 neS (ne2 neI (ne2 neI (ne2 neI (ne2 neI (ne2 neI (ne2 neI (ne2 neI (ne2 neI (ne2 neI (ne2 neI (ne2 neI (ne2 neI (ne2 neI (ne2 neI (ne2 neI neI))))))))))))))))))) fun x => ¬ pX x
def w : World := cX.1
def A : Around := cX.2.1
def E : Value → Shared → Prop := cX.2.2.1
def s : Shared := cX.2.2.2.1
def h₀ : Heap := cX.2.2.2.2.1
def L : Addr := cX.2.2.2.2.2.1
def m : Str → Option Value := cX.2.2.2.2.2.2.1
def ls : Led := cX.2.2.2.2.2.2.2.1
def l : Addr := cX.2.2.2.2.2.2.2.2.1
def xs : List Value := cX.2.2.2.2.2.2.2.2.2.1
def z : Addr := cX.2.2.2.2.2.2.2.2.2.2.1
def TI : Addr := cX.2.2.2.2.2.2.2.2.2.2.2.1
def TO : Addr := cX.2.2.2.2.2.2.2.2.2.2.2.2.1
def i1 : Addr := cX.2.2.2.2.2.2.2.2.2.2.2.2.2.1
def i2 : Addr := cX.2.2.2.2.2.2.2.2.2.2.2.2.2.2.1
def x : Int := cX.2.2.2.2.2.2.2.2.2.2.2.2.2.2.2.1
def left : Int := cX.2.2.2.2.2.2.2.2.2.2.2.2.2.2.2.2.1
def step : Int := cX.2.2.2.2.2.2.2.2.2.2.2.2.2.2.2.2.2.1
def k : Nat := cX.2.2.2.2.2.2.2.2.2.2.2.2.2.2.2.2.2.2.1
def Q : Option Value → Shared → Prop := cX.2.2.2.2.2.2.2.2.2.2.2.2.2.2.2.2.2.2.2
theorem pfX0 : stX0 w A E s h₀ L m ls l xs z TI TO i1 i2 x left step k Q := by
  intro F hTI hv hh hend h
  obtain ⟨oz, hz, rfl⟩ := F.get (.head _)
  have hT : s.TypeIs (.ref z) "zip" := ⟨_, hz, rfl⟩
  unfold pyNext
  refine wpAny_bind (wpAny_attempt (wpAny_callSpecial?_slot (name := Str.ofString "__next__") hT PySem.F.slot_zip_next (wpAny_call_entry PySem.F.slot_zip_next hT PySem.F.entry_zip_next ?_ (PySem.F.args_zip_next_1 _))))
  show wpAny _ _ (field (.ref z) 2 >>= _) _ _ _
  refine wpAny_bind (wpAny_field hz rfl (x := .bool false) rfl ?_)
  show wpAny _ _ (field (.ref z) 3 >>= _) _ _ _
  refine wpAny_bind (wpAny_field hz rfl (x := .ref TI) rfl ?_)
  refine wpAny_bind (wpAny_seqItems (F.keep _ _ hTI) rfl ?_)
  show wpAny _ _ (Builtin.SmallTypes.ownedTupleIsFree (.ref z) >>= _) _ _ _
  refine wpAny_bind ?_
  unfold Builtin.SmallTypes.ownedTupleIsFree
  refine wpAny_bind (wpAny_field hz rfl (x := .none) rfl (wpAny_pure ?_))
  simp only [if_true]
  refine wpAny_bind (wpAny_rule ?_)
  refine wpAny_bind (wpAny_field hz rfl (x := .ref TO) rfl ?_)
  refine wpAny_bind (wpAny_setField_rec hz (by simp) fun h₁ hz₁ hs₁ => ?_)
  have F₁ := F.put 0 rfl hs₁ (P' := isZ TI TO .ellipsis) hz₁ rfl
  refine wpAny_bind ?_
  simp only [List.zipIdx_cons, List.zipIdx_nil, List.forIn_cons, List.forIn_nil]
  refine wpAny_bind (wpAny_bind (wpAny_onRaise ?_))
  show wpAny _ _ (Builtin.SmallTypes.nextOf (.ref i1) >>= _) _ _ _
  by_cases hl : left ≤ 0
  · refine wpAny_bind (F₁.rendOf 2 rfl hh hl (fun h₂ e k₂ he => ?_))
    obtain ⟨oe, hoe, hce⟩ := he
    have G := F₁.kp k₂
    obtain ⟨oz, hz2, rfl⟩ := G.get (.head _)
    have hez : e ≠ z := fun x => by subst x; rw [hz2] at hoe; cases hoe; simp at hce
    refine wpAny_setField_rec hz2 (by simp) fun h3 hz3 hs3 => ?_
    have G3 := G.put 0 rfl hs3 (P' := isZ TI TO .none) hz3 rfl
    refine wpAny_bind (wpAny_isInstance (T := "StopIteration") (b := true) ⟨oe, (hs3.2 _ hez).trans hoe, hce⟩ isSubtype_stop ?_)
    exact wpAny_pure (h _ _ _ G3.drop.drop.drop (.inl ⟨rfl, hl⟩))
  · have hk : xs.length ≤ k := hend.resolve_left hl
    refine wpAny_bind (F₁.rnextOf 2 rfl (by lia) fun h₂ t F₂ sz₂ => wpAny_pure ?_)
    obtain ⟨oT, hTO₂, a, b, rfl⟩ := F₂.get (a := TO) (P := isPr) (.tail _ (.head _))
    refine wpAny_bind (wpAny_seqItems hTO₂ rfl ?_)
    refine wpAny_bind (wpAny_updateSeq_pair hTO₂ fun h₃ hTO₃ hs₃ => ?_)
    have F₃ := F₂.put 1 rfl hs₃ (P' := isPr) hTO₃ ⟨_, _, rfl⟩
    refine wpAny_bind (wpAny_letGo (wpAny_pure ?_))
    refine wpAny_bind (wpAny_bind (wpAny_onRaise ?_))
    show wpAny _ _ (Builtin.SmallTypes.nextOf (.ref i2) >>= _) _ _ _
    refine wpAny_bind (lendOf (F₃.li (.tail _ (.tail _ (.tail _ (.head _))))) (hv.kp F₃.keep) hk hh fun h₄ h₅ e o hs₄ o₄ x₄ k₅ he => ?_)
    obtain ⟨oe, hoe, hce⟩ := he
    have G := (F₃.put 3 rfl hs₄ o₄ x₄).kp k₅
    obtain ⟨oz, hz2, rfl⟩ := G.get (.head _)
    have hez : e ≠ z := fun x => by subst x; rw [hz2] at hoe; cases hoe; simp at hce
    refine wpAny_setField_rec hz2 (by simp) fun h3 hz3 hs3 => ?_
    have G3 := G.put 0 rfl hs3 (P' := isZ TI TO .none) hz3 rfl
    refine wpAny_bind (wpAny_isInstance (T := "StopIteration") (b := true) ⟨oe, (hs3.2 _ hez).trans hoe, hce⟩ isSubtype_stop ?_)
    exact wpAny_pure (h _ _ _ G3.drop.drop.drop (.inr ⟨rfl, hk⟩))
theorem allX (x : T) : pX x := eps (P := pX) pfX0
end N_Lg_zend
theorem Lg.zend {w : World} {A : Around} {E : Value → Shared → Prop} {s : Shared} {h₀ : Heap} {L : Addr} {m : Str → Option Value} {ls : Led} {l : Addr} {xs : List Value} {z TI TO i1 i2 : Addr} {x left step : Int} {k : Nat} {Q : Option Value → Shared → Prop} : N_Lg_zend.stX0 w A E s h₀ L m ls l xs z TI TO i1 i2 x left step k Q := (N_Lg_zend.allX (w, A, E, s, h₀, L, m, ls, l, xs, z, TI, TO, i1, i2, x, left, step, k, Q))
section
variable {w : World} {A : Around} {E : Value → Shared → Prop} {s : Shared} {h₀ : Heap} {L a : Addr} {m : Str → Option Value} {ls : Led} {l : Addr} {xs : List Value}
theorem Lg.zgo {z TI TO T : Addr} {elts : List Expr} {x1 : Nat} {pos : Pos} {Q : Unit → Shared → Prop} (F : Lg h₀ L s.heap m ((z, isZ TI TO (rawInt T)) :: ls))
    (h : ∀ h', Heap.SameBut z s.heap h' → Lg h₀ L h' m ((z, isZ TI TO .none) :: ls) → Q () { s with heap := h' }) : wpAny (MM w) A (letOwnedTupleGo (.Tuple elts x1 pos) (.ref z) (.ref T)) Q E s := by
  obtain ⟨oz, hz, rfl⟩ := F.get (.head _)
  exact wpAny_letOwnedTupleGo_zip hz (fun h' hz' hs' => h h' hs' (F.put 0 rfl hs' hz' rfl))
theorem Lg.fr {h : Heap} (F : Lg h₀ L h m ls) (hn : h.get? a = none) : h₀.get? a = none ∧ a ≠ L ∧ ∀ p ∈ ls, p.1 ≠ a := by
  refine ⟨?_, ?_, ?_⟩
  · cases q : h₀.get? a with
    | none => rfl
    | some o => rw [F.keep _ _ q] at hn; cases hn
  · obtain ⟨o, es, ep, e, r⟩ := F.ns
    intro q; rw [q, e] at hn; cases hn
  · intro p hp q
    obtain ⟨o, e, _⟩ := F.at_ p hp
    rw [q, hn] at e; cases e
end
namespace N_callZip
noncomputable def stX0 (w : World) (A : Around) (E : Value → Shared → Prop) (s : Shared) (h₀ : Heap) (L : Addr) (m : Str → Option Value) (ls : Led) (l r I : Addr) (x0 b0 c0 : Int) (t u v : Tok) (k : Nat) (Q : Value → Shared → Prop) : Prop := ∀ (F : Lg h₀ L s.heap m ((I, isLI l k) :: ls)) (hr : IsRange s.heap r x0 b0 c0 t u v) (hsm : Builtin.Range.small x0 b0 c0 = true) (h : ∀ z TI TO i1 h', Kp s.heap h' → IsPair h' TI (.ref i1) (.ref I) → s.heap.get? TI = none → TI ≠ z → TI ≠ TO → TI ≠ i1 → Lg h₀ L h' m ((z, isZ TI TO .none) :: (TO, isPr) :: (i1, isRI x0 (Builtin.Range.rangeSize x0 b0 c0) c0) :: (I, isLI l k) :: ls) → Q (.ref z) { s with heap := h' }), wpAny (MM w) A (call (.type "zip") [.ref r, .ref I]) Q E s
noncomputable abbrev T := World × Around × (Value → Shared → Prop) × Shared × Heap × Addr × (Str → Option Value) × Led × Addr × Addr × Addr × Int × Int × Int × Tok × Tok × Tok × Nat × (Value → Shared → Prop)
noncomputable def pX (x : T) : Prop := stX0 x.1 x.2.1 x.2.2.1 x.2.2.2.1 x.2.2.2.2.1 x.2.2.2.2.2.1 x.2.2.2.2.2.2.1 x.2.2.2.2.2.2.2.1 x.2.2.2.2.2.2.2.2.1 x.2.2.2.2.2.2.2.2.2.1 x.2.2.2.2.2.2.2.2.2.2.1 x.2.2.2.2.2.2.2.2.2.2.2.1 x.2.2.2.2.2.2.2.2.2.2.2.2.1 x.2.2.2.2.2.2.2.2.2.2.2.2.2.1 x.2.2.2.2.2.2.2.2.2.2.2.2.2.2.1 x.2.2.2.2.2.2.2.2.2.2.2.2.2.2.2.1 x.2.2.2.2.2.2.2.2.2.2.2.2.2.2.2.2.1 x.2.2.2.2.2.2.2.2.2.2.2.2.2.2.2.2.2.1 x.2.2.2.2.2.2.2.2.2.2.2.2.2.2.2.2.2.2
noncomputable def cX : T := @Classical.epsilon _ (ne2 neW (ne2 neA (ne2 neI (ne2 neS (ne2 neI (ne2 neI (ne2 neI (ne2 neI (ne2 neI (ne2 neI (ne2 neI (ne2 neI (ne2 neI (ne2 neI (ne2 neI (ne2 neI (ne2 neI (ne2 neI neI)))))))))))))))))) fun x => ¬ pX x
def w : World := cX.1
def A : Around := cX.2.1
def E : Value → Shared → Prop := cX.2.2.1
def s : Shared := cX.2.2.2.1
def h₀ : Heap := cX.2.2.2.2.1
def L : Addr := cX.2.2.2.2.2.1
def m : Str → Option Value := cX.2.2.2.2.2.2.1
def ls : Led := cX.2.2.2.2.2.2.2.1
def l : Addr := cX.2.2.2.2.2.2.2.2.1
def r : Addr := cX.2.2.2.2.2.2.2.2.2.1
def I : Addr := cX.2.2.2.2.2.2.2.2.2.2.1
def x0 : Int := cX.2.2.2.2.2.2.2.2.2.2.2.1
def b0 : Int := cX.2.2.2.2.2.2.2.2.2.2.2.2.1
def c0 : Int := cX.2.2.2.2.2.2.2.2.2.2.2.2.2.1
def t : Tok := cX.2.2.2.2.2.2.2.2.2.2.2.2.2.2.1
def u : Tok := cX.2.2.2.2.2.2.2.2.2.2.2.2.2.2.2.1
def v : Tok := cX.2.2.2.2.2.2.2.2.2.2.2.2.2.2.2.2.1
def k : Nat := cX.2.2.2.2.2.2.2.2.2.2.2.2.2.2.2.2.2.1
def Q : Value → Shared → Prop := cX.2.2.2.2.2.2.2.2.2.2.2.2.2.2.2.2.2.2
theorem pfX0 : stX0 w A E s h₀ L m ls l r I x0 b0 c0 t u v k Q := by
  intro F hr hsm h
  refine callType_new PySem.F.called_zip (by decide) (PySem.F.typeCall_zip_2 _ _) (PySem.F.newCall_zip_2 _ _) (fun obj => PySem.F.args_object_init_3 obj _ _) PySem.F.entry_zip_new (meets_zip_rl r I l x0 b0 c0 t u v k hsm) ⟨hr, F.li (.head _), ?_⟩
  have z1 : (zH1 s.heap x0 b0 c0).objs.size = s.heap.objs.size + 1 := Heap.size_push ..
  have z2 : (zH2 s.heap x0 b0 c0 I).objs.size = s.heap.objs.size + 2 := by rw [Heap.size_push, z1]
  have z3 : (zH3 s.heap x0 b0 c0 I).objs.size = s.heap.objs.size + 3 := by rw [Heap.size_push, z2]
  have g4 : (zH4 s.heap x0 b0 c0 I).get? (zH3 s.heap x0 b0 c0 I).objs.size = some _ := Heap.get?_push_size _ rfl
  have g3 : (zH4 s.heap x0 b0 c0 I).get? (zH2 s.heap x0 b0 c0 I).objs.size = some _ := Heap.get?_push_of_some _ (Heap.get?_push_size _ rfl)
  have g2 : (zH4 s.heap x0 b0 c0 I).get? (zH1 s.heap x0 b0 c0).objs.size = some _ := Heap.get?_push_of_some _ (Heap.get?_push_of_some _ (Heap.get?_push_size _ rfl))
  have g1 : (zH4 s.heap x0 b0 c0 I).get? s.heap.objs.size = some _ := Heap.get?_push_of_some _ (Heap.get?_push_of_some _ (Heap.get?_push_of_some _ (Heap.get?_push_size _ rfl)))
  have kk : Kp s.heap (zH4 s.heap x0 b0 c0 I) := fun _ _ e => Heap.get?_push_of_some _ (Heap.get?_push_of_some _ (Heap.get?_push_of_some _ (Heap.get?_push_of_some _ e)))
  have nn : ∀ i, s.heap.get? (s.heap.objs.size + i) = none := fun i => Heap.get?_none_of_le (Nat.le_add_right _ _)
  refine ⟨⟨_, g4, rfl⟩, ?_⟩
  have F1 := (F.kp kk).new (P := isRI x0 (Builtin.Range.rangeSize x0 b0 c0) c0) (F.fr (nn 0)).1 g1 rfl (F.fr (nn 0)).2.1 (F.fr (nn 0)).2.2
  have ne : ∀ i j : Nat, i ≠ j → s.heap.objs.size + i ≠ s.heap.objs.size + j := fun i j h e => h (Nat.add_left_cancel e)
  rw [z2] at g3
  rw [z3] at g4
  rw [z1] at g2
  have F2 := F1.new (P := isPr) (F.fr (nn 2)).1 g3 ⟨_, _, rfl⟩ (F.fr (nn 2)).2.1 (fun p hp => (List.mem_cons.mp hp).elim (fun q => by rw [q]; exact ne 0 2 (by decide)) ((F.fr (nn 2)).2.2 p))
  have F3 := F2.new (P := isZ (s.heap.objs.size + 1) (s.heap.objs.size + 2) .none) (F.fr (nn 3)).1 g4 (by show _ = _; rw [z1, z2]) (F.fr (nn 3)).2.1 (fun p hp => (List.mem_cons.mp hp).elim (fun q => by rw [q]; exact ne 2 3 (by decide)) fun hp => (List.mem_cons.mp hp).elim (fun q => by rw [q]; exact ne 0 3 (by decide)) ((F.fr (nn 3)).2.2 p))
  rw [z3]
  exact h _ _ _ _ _ kk g2 (nn 1) (ne 1 3 (by decide)) (ne 1 2 (by decide)) (ne 1 0 (by decide)) F3
theorem allX (x : T) : pX x := eps (P := pX) pfX0
end N_callZip
theorem callZip {w : World} {A : Around} {E : Value → Shared → Prop} {s : Shared} {h₀ : Heap} {L : Addr} {m : Str → Option Value} {ls : Led} {l r I : Addr} {x0 b0 c0 : Int} {t u v : Tok} {k : Nat} {Q : Value → Shared → Prop} : N_callZip.stX0 w A E s h₀ L m ls l r I x0 b0 c0 t u v k Q := (N_callZip.allX (w, A, E, s, h₀, L, m, ls, l, r, I, x0, b0, c0, t, u, v, k, Q))
section
variable {w : World} {A : Around} {E : Value → Shared → Prop} {s : Shared} {h₀ : Heap} {L a : Addr} {m : Str → Option Value} {ls : Led} {l : Addr} {xs : List Value}
end
end Mine
namespace Mine
noncomputable def upS (o : Obj) : Obj → Prop := fun o' => ∃ sl, o' = { o with slots := sl }
theorem upS.refl (o : Obj) : upS o o := ⟨o.slots, rfl⟩
noncomputable abbrev frL (fr : List (Addr × Obj)) : Led := fr.map fun p => (p.1, upS p.2)
inductive Frs : List Env → List (Addr × Obj) → Prop
  | nil : Frs [] []
  | cons {env : Env} {l : List Env} {p : Addr × Obj} {fr : List (Addr × Obj)} (k : env.scope.kind ≠ .module) (f : env.frame = some p.1) (d : ∃ es ep, p.2.data = .dict es ep) (r : Frs l fr) : Frs (env :: l) (p :: fr)
theorem frL_map (fr : List (Addr × Obj)) : (frL fr).map (·.1) = fr.map (·.1) := by simp [frL]
theorem Frs.of {h base : Heap} {outer : List Env} {fr : List (Addr × Obj)} (F : Frs outer fr) (H : ∀ p ∈ fr, base.get? p.1 = none ∧ ∃ o, h.get? p.1 = some o ∧ upS p.2 o) : h.FunFrames base outer := by
  induction F with
  | nil => exact trivial
  | @cons env l p fr a b c d ih =>
    obtain ⟨hn, o, ho, sl, ho'⟩ := H p (.head _)
    obtain ⟨es, ep, c⟩ := c
    refine ⟨a, ⟨p.1, o, b, hn, ho, fun vs q => ?_⟩, ih (fun q hq => H q (.tail _ hq))⟩
    rw [ho'] at q
    have q' : p.2.data = .fields vs := q
    rw [c] at q'; cases q'
theorem Frs.data {outer : List Env} {fr : List (Addr × Obj)} (F : Frs outer fr) : ∀ p ∈ fr, ∃ es ep, p.2.data = .dict es ep := by
  induction F with
  | nil => intro p hp; cases hp
  | cons a b c d ih =>
    intro p hp
    cases hp with
    | head => exact c
    | tail _ hp => exact ih p hp
section
variable {w : World} {A : Around} {E : Value → Shared → Prop} {s' : Shared} {h₀ h h' : Heap} {L e : Addr} {m : Str → Option Value} {ls : Led} {fr : List (Addr × Obj)} {env : Env} {outer : List Env} {X : String}
theorem Lg.frs (F : Lg h₀ L h m (ls ++ frL fr)) (Fs : Frs outer fr) (hf : env.frame = some L) (hk : env.scope.kind = .function) : h.FunFrames (hideAll h (L :: fr.map (·.1))) (env :: outer) := by
  obtain ⟨o, es, ep, e, hd, r⟩ := F.ns
  refine ⟨by rw [hk]; decide, ⟨L, o, hf, hideAll_none _ (.head _), e, fun vs q => by rw [hd] at q; cases q⟩, Fs.of (fun p hp => ⟨hideAll_none _ (.tail _ (List.mem_map_of_mem hp)), ?_⟩)⟩
  exact F.at_ (p.1, upS p.2) (List.mem_append_right _ (List.mem_map_of_mem hp))
theorem Lg.slots (F : Lg h₀ L h m (ls ++ frL fr)) (Fs : Frs outer fr) (st : (hideAll h (L :: fr.map (·.1))).StaysIn h') (up : h.UpToSlots h') : Lg h₀ L h' m (ls ++ frL fr) := by
  have off : ∀ p ∈ fr, ∀ q ∈ ls, q.1 ≠ p.1 := fun p hp q hq e => by
    have nd := F.nd
    rw [List.map_append, List.nodup_append] at nd
    exact nd.2.2 _ (List.mem_map_of_mem hq) _ (by rw [frL_map]; exact List.mem_map_of_mem hp) e
  refine ⟨up.ns F.ns, fun b o e => st b o (hideAll_get _ (F.keep b o e) (fun q => ?_)), F.nL, fun p hp => ?_, F.off, F.nd⟩
  · cases q with
    | head => rw [F.nL] at e; cases e
    | tail _ q =>
      obtain ⟨p, hp, rfl⟩ := List.mem_map.mp q
      have := (F.off (p.1, upS p.2) (List.mem_append_right _ (List.mem_map_of_mem hp))).2
      rw [show (p.1, upS p.2).1 = p.1 from rfl] at this
      rw [this] at e; cases e
  · rcases List.mem_append.mp hp with hp' | hp'
    · obtain ⟨o, e, q⟩ := F.at_ p hp
      refine ⟨o, st _ _ (hideAll_get _ e (fun q => ?_)), q⟩
      cases q with
      | head => exact (F.off p hp).1 rfl
      | tail _ q =>
        obtain ⟨x, hx, e⟩ := List.mem_map.mp q
        exact off x hx p hp' e.symm
    · obtain ⟨x, hx, rfl⟩ := List.mem_map.mp hp'
      obtain ⟨o, e, sl, rfl⟩ := F.at_ _ hp
      obtain ⟨es, ep, hd⟩ := Fs.data x hx
      obtain ⟨sl', e'⟩ := up _ _ e (fun vs q => by have q' : x.2.data = .fields vs := q; rw [hd] at q'; cases q')
      exact ⟨_, e', sl', rfl⟩
theorem none_base {B h : Heap} (k : Kp B h) {b : Addr} (e : h.get? b = none) : B.get? b = none := by
  cases q : B.get? b with
  | none => rfl
  | some o => rw [k _ _ q] at e; cases e
theorem Lg.landed (F : Lg h₀ L h m (ls ++ frL fr)) (Fs : Frs outer fr) (hfr : A.frames = some (env :: outer)) (hf : env.frame = some L) (hk : env.scope.kind = .function) (hx : Heap.NewExc h s'.heap e X) {Q : Unit → Shared → Prop} {E' : Value → Shared → Prop}
    (k : ∀ h' a0, Heap.FlyingW (hideAll h (L :: fr.map (·.1))) (env :: outer) e (.type X) a0 h' → h.UpToSlots h' → Q () { s' with heap := h' }) :
    wpAny (MM w) A (noteFrame (.ref e) env) (fun _ s₂ => wpAny (MM w) A (setFlight (.ref e) none) Q E' s₂) E s' := by
  have kx : Kp h s'.heap := hx.keeps
  have kB : Kp (hideAll h (L :: fr.map (·.1))) h := hide_kp _ _
  obtain ⟨ob, tp, he, hcls, hd⟩ := hx.there
  have hl : s'.heap.FunFrames (hideAll h (L :: fr.map (·.1))) (env :: outer) := (F.frs Fs hf hk).of_keeps fun b o hb _ => ⟨o, kx b o hb, rfl⟩
  unfold noteFrame
  simp only [hf]
  refine wpAny_bind (wpAny_field he hd (x := .none) rfl ?_)
  rw [if_neg (by decide)]
  refine wpAny_entryW (a0 := tp) hfr hl hf he (fun b o eb => kx b o (kB b o eb)) (none_base kB hx.new) hd (by show 1 < 6; decide) rfl fun h1 hN => ?_
  obtain ⟨k1, k2, k3, k4⟩ := hN
  rw [hcls] at k3
  refine wpAny_landsW (s := { s' with heap := h1 }) (base := hideAll h (L :: fr.map (·.1))) ⟨k1, none_base kB hx.new, k2, k3⟩ fun h2 hfl up2 => ?_
  exact k h2 _ hfl (((Heap.UpToSlots.of_keeps kx).trans k4).trans up2)
theorem ex_type : ∀ T ∈ ["TypeError", "AttributeError", "IndexError"], isSubtype (.type T) (.type "BaseException") = pure true ∧ isSubtype (.type ((Manifest.find? T).elim "type" fun x => x.metatype)) (.type "tuple") = pure false := by
  intro T hT
  simp only [List.mem_cons, List.not_mem_nil, or_false] at hT
  rcases hT with rfl | rfl | rfl <;> exact ⟨by rw [isSubtype_type]; kernel_rfl, by rw [isSubtype_type]; kernel_rfl⟩
theorem len_li {I : Addr} {o : Obj} {s : Shared} {Q : Value → Shared → Prop} (ho : s.heap.get? I = some o) (hc : o.cls = .type "list_iterator") (hh : A.handled = none)
    (h : ∀ h' tk e, Heap.NewExc s.heap h' e "TypeError" → E (.ref e) { s with heap := h', toks := tk }) : wpAny (MM w) A (call (.builtin "len") [.ref I]) Q E s := by
  refine call_function_entry kind_len plain_len entry_len (args_len1 _) ?_
  have e1 : typeLookup (.type "list_iterator") "__len__" = pure none := by rw [typeLookup_type, builtinLookup_eq_fast]; kernel_rfl
  have hT : s.TypeIs (.ref I) "list_iterator" := ⟨o, ho, hc⟩
  unfold Builtin.«len»
  refine wpAny_bind (wpAny_of_eq (a := Value.ref I) rfl ?_)
  refine wpAny_bind ?_
  unfold callSpecial?
  refine wpAny_bind (wpAny_specialOf hT e1 (wpAny_pure ?_))
  dsimp only
  refine wpAny_bind (wpAny_rule ?_)
  refine wpAny_bind (wpAny_typeNameOf' (T := "list_iterator") hT (h := ?_))
  exact wpAny_raiseErrorMade plainExc_TypeError hh h (by rw [show shownName "list_iterator" = "list_iterator" from by decide +kernel]; decide +kernel)
end
end Mine
namespace Mine
noncomputable def ltV (c : Value → Value → Int) (num : Value → Int) (u v : Value) : Bool := decide (c u v < 0) || (!decide (c v u < 0) && decide (num u < num v))
noncomputable def gtV (c : Value → Value → Int) (num : Value → Int) (u v : Value) : Bool := decide (c v u < 0) || (!decide (c u v < 0) && decide (num u < num v))
theorem pw_map {α β : Type} {R : β → β → Prop} {f : α → β} {l : List α} (h : l.Pairwise fun a b => R (f a) (f b)) : (l.map f).Pairwise R := List.pairwise_map.mpr h
theorem perm_out {vs : List Value} {p : Array Nat} (hp : p.toList.Perm (List.range vs.length)) : (p.toList.map fun i => vs.getD i Value.none).Perm vs := by
  have := hp.map (fun i => vs.getD i Value.none)
  refine this.trans (List.Perm.of_eq ?_)
  apply List.ext_getElem
  · simp
  · intro i h1 h2
    simp [List.getD_eq_getElem?_getD, h2]
theorem sorted_pw {c : Nat → Nat → Bool} {n : Nat} {p : Array Nat} (hsz : p.size = n) (hs : ∀ i j, i < j → j < n → tl c (gt p i) (gt p j)) : p.toList.Pairwise (tl c) := by
  rw [List.pairwise_iff_getElem]
  intro i j hi hj hij
  have := hs i j hij (by simpa [hsz] using hj)
  have e : ∀ k, (h : k < p.toList.length) → gt p k = p.toList[k] := fun k h => by
    have h' : k < p.size := by simpa using h
    simp [gt, Array.getD_eq_getD_getElem?, h']
  rw [e i hi, e j hj] at this
  exact this

structure Srt (cmp : Value → Value → Bool) (vs : List Value) (p : List Nat) : Prop where
  pm : p.Perm (List.range vs.length)
  pw : p.Pairwise (tl fun i j => cmp (vs.getD i .none) (vs.getD j .none))
noncomputable def outOf (vs : List Value) (p : List Nat) : List Value := p.map fun i => vs.getD i Value.none
section
variable {cmp : Value → Value → Bool} {vs : List Value} {p : List Nat}
theorem getDE {k : Nat} (h : k < vs.length) : vs.getD k .none = vs[k] := by rw [List.getD_eq_getElem?_getD, List.getElem?_eq_getElem h]; rfl
theorem Srt.perm (x : Srt cmp vs p) : (outOf vs p).Perm vs := perm_out (p := p.toArray) x.pm
theorem Srt.pair (x : Srt cmp vs p) {B : Value → Value → Prop} (hB : vs.Pairwise B) : (outOf vs p).Pairwise fun u v => cmp u v = true ∨ (cmp v u = false ∧ B u v) := by
  refine pw_map (x.pw.imp_of_mem ?_)
  intro a b ha hb h
  have la : a < vs.length := List.mem_range.mp (x.pm.mem_iff.mp ha)
  have lb : b < vs.length := List.mem_range.mp (x.pm.mem_iff.mp hb)
  rcases h with h | ⟨h1, h2⟩
  · exact .inl h
  · have := List.pairwise_iff_getElem.mp hB a b la lb h2
    rw [← getDE la, ← getDE lb] at this
    exact .inr ⟨h1, this⟩
theorem Srt.few (h : vs.length < 2) : Srt cmp vs (List.range vs.length) := by
  refine ⟨List.Perm.refl _, ?_⟩
  cases vs with
  | nil => exact List.Pairwise.nil
  | cons a r => cases r with
    | nil => exact List.pairwise_singleton _ _
    | cons b q => exact absurd h (by simp)
theorem outOf_range : outOf vs (List.range vs.length) = vs := by
  apply List.ext_getElem
  · simp [outOf]
  · intro i h1 h2
    simp [outOf, List.getD_eq_getElem?_getD, h2]
theorem swo_at (S : SWO cmp) (vs : List Value) : SWO fun i j => cmp (vs.getD i .none) (vs.getD j .none) := ⟨fun i => S.irr _, fun h k => S.tr h k, fun h k => S.neg h k⟩
end
noncomputable def Keyd (R : Value → Value → Prop) (ks vs : List Value) : Prop := ks.length = vs.length ∧ ∀ (i : Nat) (u : Value), vs[i]? = some u → ∃ k, ks[i]? = some k ∧ R k u
theorem Keyd.rev {R : Value → Value → Prop} {ks vs : List Value} (x : Keyd R ks vs) : Keyd R ks.reverse vs.reverse := by
  refine ⟨by simp [x.1], fun i u hu => ?_⟩
  have hi : i < vs.length := by have := (List.getElem?_eq_some_iff.mp hu).1; simpa using this
  rw [List.getElem?_reverse hi] at hu
  obtain ⟨o, p, q⟩ := x.2 _ u hu
  refine ⟨o, ?_, q⟩
  rw [List.getElem?_reverse (by rw [x.1]; exact hi), x.1]
  exact p
theorem Keyd.katRev {R : Value → Value → Prop} {ks vs : List Value} (x : Keyd R ks vs) (b : Bool) : Keyd R (katRev b ks) (katRev b vs) := by
  cases b with
  | false => exact x
  | true => exact x.rev
theorem mem_katRev {b : Bool} {vs : List Value} {v : Value} (h : v ∈ katRev b vs) : v ∈ vs := by
  cases b with
  | false => exact h
  | true => exact List.mem_reverse.mp h
section
variable {w : World} {A : Around} {E : Value → Shared → Prop} {s : Shared} {C f a kS : Addr} {hb : Heap} {D : Value → Prop} {c : Value → Value → Int} {vs ks : List Value} {b : Bool} {e e1 : Nat} {cmp : Value → Value → Bool} {R : Value → Value → Prop} {κ : SortKind} {P : PySem.Fin → Shared → Prop}
noncomputable def AskOk (w : World) (A : Around) (s : Shared) (κ : SortKind) (R : Value → Value → Prop) (vs : List Value) (cmp : Value → Value → Bool) : Prop :=
  ∀ u v k l, u ∈ vs → v ∈ vs → R k u → R l v → ∀ (h : Heap) (tk : Nat) (Cc : Bool → Shared → Prop), Kp s.heap h → (∀ h' tk', Kp h h' → Cc (cmp u v) { s with heap := h', toks := tk' }) → wpAny (MM w) A (keyLt' κ k l) Cc (fun _ _ => False) { s with heap := h, toks := tk }
theorem coreRun {P : SortSt → Shared → Prop} (S : SWO cmp) (hk : Keyd R ks vs) (h2 : 2 ≤ vs.length) (h64 : vs.length < 64) (ask : AskOk w A s κ R vs cmp)
    (h : ∀ p st h' tk, Kp s.heap h' → Srt cmp vs p → (arrOf st).map (·.2) = List.toArray (outOf vs p) → failedOf st = none → P st { s with heap := h', toks := tk }) :
    wpAny (MM w) A ((sortRuns').run (SortSt.mk' κ (ks.toArray.zip vs.toArray) #[] 7 none)) (fun r s' => P r.2 s') E s := by
  refine kat_run (G := fun p s' => Srt cmp vs p.toList ∧ ∃ h' tk, s' = { s with heap := h', toks := tk } ∧ Kp s.heap h') hk.1 h2 h64 ?_ ?_
  · rintro p st s' hsz har hfl ⟨hp, h', tk, rfl, k'⟩
    exact h p.toList st h' tk k' hp (kat_snds hk.1 har) hfl
  · refine KOk.wp (c := fun i j => cmp (vs.getD i .none) (vs.getD j .none)) (n := vs.length) (R := fun s' => ∃ h' tk, s' = { s with heap := h', toks := tk } ∧ Kp s.heap h') (G := fun p => Srt cmp vs p.toList) ?_ (fun p s' g r => ⟨g, r⟩) _ s (sort_ok (swo_at S vs) (by lia) fun p hz hp hs => ⟨hp, sorted_pw hz hs⟩) ⟨s.heap, s.toks, rfl, Kp.refl _⟩
    rintro i j s' Cc hi hj ⟨h', tk, rfl, k'⟩ hC
    have gi : vs[i]? = some (vs.getD i .none) := getD_some hi
    have gj : vs[j]? = some (vs.getD j .none) := getD_some hj
    obtain ⟨oi, ki, KI⟩ := hk.2 i _ gi
    obtain ⟨oj, kj, KJ⟩ := hk.2 j _ gj
    have ei : ks.getD i Value.none = oi := by rw [List.getD_eq_getElem?_getD, ki]; rfl
    have ej : ks.getD j Value.none = oj := by rw [List.getD_eq_getElem?_getD, kj]; rfl
    unfold kas_ask
    rw [ei, ej]
    exact ask _ _ _ _ (List.mem_of_getElem? gi) (List.mem_of_getElem? gj) KI KJ h' tk Cc k' (fun h2 tk2 k2 => hC _ ⟨h2, tk2, rfl, k'.trans k2⟩)
theorem ifRule {t : Sem PySem.Fin} (ht : wpAny (MM w) A t P E s) : wpAny (MM w) A (if b = true then (do let _ ← rule "list.sort.reverse"; t) else t) P E s := by
  split
  · exact wpAny_bind (wpAny_rule ht)
  · exact ht
theorem kindRuns {T : SortSt → Sem PySem.Fin} (S : SWO cmp) (hk : Keyd R ks vs) (h64 : vs.length < 64) (kind : 2 ≤ vs.length → ∀ Q : SortKind → Shared → Prop, Q κ s → wpAny (MM w) A (keyKind' ks.toArray) Q E s) (ask : AskOk w A s κ R vs cmp)
    (h : ∀ p st h' tk, Kp s.heap h' → Srt cmp (katRev b vs) p → (arrOf st).map (·.2) = List.toArray (outOf (katRev b vs) p) → failedOf st = none → wpAny (MM w) A (T st) P E { s with heap := h', toks := tk }) :
    wpAny (MM w) A (do
      let kind ← if vs.toArray.size < 2 then pure general' else keyKind' ks.toArray
      let ((), st) ← (if vs.toArray.size < 2 then pure () else sortRuns').run (SortSt.mk' kind (if b = true then (ks.toArray.zip vs.toArray).reverse else ks.toArray.zip vs.toArray) #[] 7 none)
      T st) P E s := by
  have hlr := (hk.katRev b).1
  dsimp only
  by_cases h2 : vs.toArray.size < 2
  · rw [if_pos h2, if_pos h2]
    refine wpAny_bind (wpAny_pure ?_)
    rw [StateT.run_pure]
    refine wpAny_bind (wpAny_pure ?_)
    have h3 : (katRev b vs).length < 2 := by rw [kat_len]; simpa using h2
    refine h _ (SortSt.mk' general' (if b = true then (ks.toArray.zip vs.toArray).reverse else ks.toArray.zip vs.toArray) #[] 7 none) s.heap s.toks (Kp.refl _) (Srt.few h3) ?_ rfl
    rw [outOf_range]
    show (if b = true then (ks.toArray.zip vs.toArray).reverse else ks.toArray.zip vs.toArray).map (·.2) = _
    rw [kat_pairs b hk.1]
    apply Array.toList_inj.mp
    rw [Array.toList_map, ksk_zip]
    exact List.map_snd_zip (by rw [hlr]; exact Nat.le_refl _)
  · rw [if_neg h2, if_neg h2]
    rw [List.size_toArray] at h2
    refine wpAny_bind (kind (by lia) _ ?_)
    rw [kat_pairs b hk.1]
    refine wpAny_bind (wpAny_mono (coreRun (E := E) (P := fun st s' => ∃ p h' tk, s' = { s with heap := h', toks := tk } ∧ Kp s.heap h' ∧ Srt cmp (katRev b vs) p ∧ (arrOf st).map (·.2) = List.toArray (outOf (katRev b vs) p) ∧ failedOf st = none) S (hk.katRev b) (by rw [kat_len]; lia) (by rw [kat_len]; exact h64)
      (fun u v k l hu hv => ask u v k l (mem_katRev hu) (mem_katRev hv)) (fun p st h' tk a1 a2 a3 a4 => ⟨p, h', tk, rfl, a1, a2, a3, a4⟩)) ?_ (fun _ _ x => x))
    rintro ⟨⟨⟩, st⟩ s' ⟨p, h', tk, rfl, a1, a2, a3, a4⟩
    exact h p st h' tk a1 a2 a3 a4
theorem out_len {p : List Nat} (x : Srt cmp (katRev b vs) p) : (katRev b (outOf (katRev b vs) p)).length = vs.length := by
  rw [kat_len, x.perm.length_eq, kat_len]
theorem endK (S : SWO cmp) (hk : Keyd R ks vs) (h64 : vs.length < 64) (kind : 2 ≤ vs.length → ∀ Q : SortKind → Shared → Prop, Q κ s → wpAny (MM w) A (keyKind' ks.toArray) Q E s) (ask : AskOk w A s κ R vs cmp)
    (hkS : s.heap.get? kS = some (seqObj "list" ks.toArray e)) (ha : s.heap.get? a = some (seqObj "list" #[] e1)) (ne : kS ≠ a)
    (h : ∀ p h' tk, Srt cmp (katRev b vs) p → PL h' a (katRev b (outOf (katRev b vs) p)) → KpB [kS, a] s.heap h' → P (.done (.ret .none)) { s with heap := h', toks := tk }) :
    wpAny (MM w) A (ksk_end a b vs.toArray e1 (.ref kS) ks.toArray) P E s := by
  unfold ksk_end
  refine ifRule (kindRuns S hk h64 kind ask (fun p st h' tk k' hp ho hf => ?_))
  have s1 := Heap.SameBut.update h' kS (Obj.mapSeq fun _ => (#[] : Array Value))
  have na := (s1.2 a ne.symm).trans (k' _ _ ha)
  unfold ksk_tail
  dsimp only
  rw [ho, kat_outs]
  have hsz := out_len hp
  refine wpAny_bind (listUpdate_at (k' _ _ hkS) rfl ?_ (by rw [List.size_toArray, sizeLine_eq, hk.1]; lia) (Nat.zero_le _))
  refine wpAny_bind (wpAny_letGo ?_)
  refine wpAny_bind (seqEpoch_at na rfl ?_)
  refine wpAny_bind (listUpdate_at na rfl ?_ (Nat.zero_le _) (by rw [List.size_toArray, hsz, sizeLine_eq]; lia))
  rw [hf]
  simp only [bne_self_eq_false, Bool.false_eq_true, if_false]
  refine wpAny_pure (h p _ tk hp ⟨_, get?_update_seq na fun _ => List.toArray (katRev b (outOf (katRev b vs) p))⟩ ?_)
  intro x o hx ex
  have n1 : x ≠ kS := fun q => hx (q ▸ .head _)
  have n2 : x ≠ a := fun q => hx (q ▸ .tail _ (.head _))
  exact ((Heap.SameBut.update _ a (Obj.mapSeq fun _ => List.toArray (katRev b (outOf (katRev b vs) p)))).2 x n2).trans ((s1.2 x n1).trans (k' _ _ ex))
noncomputable def plainTail (a : Addr) (b : Bool) (before : Nat) (s : SortSt) : Sem PySem.Fin := do
  let sorted := (arrOf s).map (·.2)
  let touched := (← seqEpoch a) != before
  Builtin.List.listUpdate (.ref a) fun _ => if b then sorted.reverse else sorted
  if let some e := failedOf s then rule "list.sort.comparison-raised"; throw e
  if touched then rule "list.sort.modified"; raiseError "ValueError" "list modified during sort"
  ret .none
noncomputable def plainRest (a : Addr) (b : Bool) (items : Array Value) (before : Nat) : Sem PySem.Fin := do
  if b then rule "list.sort.reverse"
  let kind ← if items.size < 2 then pure general' else keyKind' items
  let ((), s) ← (if items.size < 2 then pure () else sortRuns').run (SortSt.mk' kind (if b then (items.zip items).reverse else items.zip items) #[] 7 none)
  plainTail a b before s
noncomputable def plainTree (a : Addr) (b : Bool) : Sem PySem.Fin := do
  let items ← Builtin.List.listItems (.ref a)
  Builtin.List.listUpdate (.ref a) fun _ => #[]
  let before ← seqEpoch a
  let held ← newTuple items.toList
  let keyStore ← newList []
  holding [held, keyStore] (plainRest a b items before)
theorem plain_no (a : Addr) : Builtin.«list.sort» ⟨[.ref a], []⟩ = plainTree a false := rfl
theorem plain_rev (a : Addr) : Builtin.«list.sort» ⟨[.ref a], [(Str.ofString "reverse", .bool true)]⟩ = plainTree a true := rfl
theorem sort_pre {n : Nat} {T : Array Value → Nat → Value → Value → Sem PySem.Fin} (ho : s.heap.get? a = some (seqObj "list" vs.toArray n)) (h64 : vs.length < 64)
    (h : ∀ h' e1 hd kS, KpB [a] s.heap h' → h'.get? a = some (seqObj "list" #[] e1) → h'.get? kS = some (seqObj "list" #[] 0) → s.heap.get? kS = none → kS ≠ a → wpAny (MM w) A (T vs.toArray e1 hd (.ref kS)) P E { s with heap := h' }) :
    wpAny (MM w) A (do
      let items ← Builtin.List.listItems (.ref a)
      Builtin.List.listUpdate (.ref a) fun _ => #[]
      let before ← seqEpoch a
      let held ← newTuple items.toList
      let keyStore ← newList []
      holding [held, keyStore] (T items before held keyStore)) P E s := by
  have la : a < s.heap.objs.size := Heap.lt_size ho
  have s1 := Heap.SameBut.update s.heap a (Obj.mapSeq fun _ => (#[] : Array Value))
  have ho1 := get?_update_seq ho fun _ => #[]
  refine wpAny_bind (listItems_at ho rfl ?_)
  refine wpAny_bind (listUpdate_at ho rfl ?_ (by rw [List.size_toArray, sizeLine_eq]; lia) (Nat.zero_le _))
  refine wpAny_bind (seqEpoch_at ho1 rfl ?_)
  refine wpAny_bind (wpAny_newTuple ?_ (by show vs.length ≤ _; rw [sizeLine_eq]; lia))
  refine wpAny_bind (wpAny_newList ?_ (Nat.zero_le _))
  refine wpAny_holding ?_
  have hkS : ((s.heap.update a (Obj.mapSeq fun _ => (#[] : Array Value))).push (seqObj "tuple" vs.toArray 0)).objs.size = s.heap.objs.size + 1 := by rw [size_push', Heap.size_update]
  refine h (((s.heap.update a (Obj.mapSeq fun _ => (#[] : Array Value))).push (seqObj "tuple" vs.toArray 0)).push (seqObj "list" #[] 0)) _ _ _ ?_ (Heap.get?_push_of_some _ (Heap.get?_push_of_some _ ho1)) (Heap.get?_push_size _ rfl) (Heap.get?_none_of_le (by rw [hkS]; exact Nat.le_succ _)) (by rw [hkS]; exact Nat.ne_of_gt (Nat.lt_succ_of_lt la))
  intro x o hx ex
  exact Heap.get?_push_of_some _ (Heap.get?_push_of_some _ ((s1.2 x (fun q => hx (q ▸ .head _))).trans ex))
theorem sortPlain (S : SWO cmp) (h64 : vs.length < 64) (hl : PL s.heap a vs)
    (kind : 2 ≤ vs.length → ∀ (h : Heap) (Q : SortKind → Shared → Prop), KpB [a] s.heap h → Q κ { s with heap := h } → wpAny (MM w) A (keyKind' vs.toArray) Q E { s with heap := h })
    (ask : ∀ u v, u ∈ vs → v ∈ vs → ∀ (h : Heap) (tk : Nat) (Cc : Bool → Shared → Prop), KpB [a] s.heap h → (∀ h' tk', Kp h h' → Cc (cmp u v) { s with heap := h', toks := tk' }) → wpAny (MM w) A (keyLt' κ u v) Cc (fun _ _ => False) { s with heap := h, toks := tk })
    (h : ∀ p h' tk, Srt cmp (katRev b vs) p → PL h' a (katRev b (outOf (katRev b vs) p)) → KpB [a] s.heap h' → P (.done (.ret .none)) { s with heap := h', toks := tk }) :
    wpAny (MM w) A (plainTree a b) P E s := by
  obtain ⟨n, ho⟩ := hl
  refine sort_pre ho h64 (fun h1 e1 hd kS k1 ha hkS _ ne => ?_)
  unfold plainRest
  refine ifRule ?_
  refine kindRuns (s := { s with heap := h1 }) (R := fun k u => k = u) (ks := vs) S ⟨rfl, fun i u hu => ⟨u, hu, rfl⟩⟩ h64 (fun h2 Q hQ => kind h2 h1 Q k1 hQ) (fun u v k l hu hv e1 e2 h' tk Cc k' hC => by subst e1 e2; exact ask _ _ hu hv h' tk Cc (k1.trans (k'.but _)) hC) (fun p st h' tk k' hp ho hf => ?_)
  have na := k' _ _ ha
  have hsz := out_len hp
  unfold plainTail
  dsimp only
  rw [ho, kat_outs]
  refine wpAny_bind (seqEpoch_at na rfl ?_)
  refine wpAny_bind (listUpdate_at na rfl ?_ (Nat.zero_le _) (by rw [List.size_toArray, hsz, sizeLine_eq]; lia))
  rw [hf]
  simp only [bne_self_eq_false, Bool.false_eq_true, if_false]
  refine wpAny_pure (h p _ tk hp ⟨_, get?_update_seq na fun _ => List.toArray (katRev b (outOf (katRev b vs) p))⟩ ?_)
  intro x o hx ex
  exact ((Heap.SameBut.update _ a (Obj.mapSeq fun _ => List.toArray (katRev b (outOf (katRev b vs) p)))).2 x (fun q => hx (q ▸ .head _))).trans (k' _ _ (k1 _ _ hx ex))

theorem KCl.kp {h h' : Heap} {mycmp : Value} (x : KCl w h C mycmp) (k : Kp h h') : KCl w h' C mycmp := by
  obtain ⟨N, MD, mc, bT, tn, t, fl, sl, f0, f1, f2, f3, f4, f5, st, tk, n, a1, a2, a3, ⟨o, a4, a5⟩, m⟩ := x
  exact ⟨N, MD, mc, bT, tn, t, fl, sl, f0, f1, f2, f3, f4, f5, st, tk, n, k _ _ a1, k _ _ a2, k _ _ a3, ⟨o, k _ _ a4, a5⟩, m.kp k⟩
theorem KeyAt.put {h h' : Heap} {o : Addr} {v : Value} {oo oo' : Obj} (x : KeyAt h C o v) (hs : Heap.SameBut kS h h') (e : h.get? kS = some oo) (hc : oo.data ≠ .plain) (e' : h'.get? kS = some oo') : KeyAt h' C o v := by
  obtain ⟨d, od, p, q⟩ := x
  have n : o ≠ kS := fun z => by subst z; rw [p] at e; cases e; exact hc rfl
  by_cases hd : d = kS
  · subst hd; exact ⟨d, oo', (hs.2 _ n).trans p, e'⟩
  · exact ⟨d, od, (hs.2 _ n).trans p, (hs.2 _ hd).trans q⟩
theorem KW.new {Q : Value → Shared → Prop} {v : Value} (W : KW w hb C f D c) (hr : Rm A 5) (k : Kp hb s.heap)
    (h : ∀ o h' tk, Kp s.heap h' → KeyAt h' C o v → s.heap.get? o = none → Q (.ref o) { s with heap := h', toks := tk }) : wpAny (MM w) A (call (.ref C) [v]) Q E s :=
  key_new (W.k.kp k) (W.x.kp k) hr h
theorem KW.newS {Q : Value → Shared → Prop} {v : Value} (W : KW w hb C f D c) (hr : Rm A 5) (k : Kp hb s.heap)
    (h : ∀ o h' tk, Kp s.heap h' → (∀ S : List Addr, (∀ a ∈ S, a < s.heap.objs.size) → KeyAt (hideAll h' S) C o v) → s.heap.get? o = none → Q (.ref o) { s with heap := h', toks := tk }) : wpAny (MM w) A (call (.ref C) [v]) Q E s :=
  key_newS (W.k.kp k) (W.x.kp k) hr h
noncomputable def RK (h : Heap) (C : Addr) (k u : Value) : Prop := ∃ o, k = .ref o ∧ KeyAt h C o u
theorem type_key {h : Heap} {o : Addr} {u : Value} {M : Model} (x : KeyAt h C o u) : Looks M h (typeOf (.ref o)) (.ref C) := by obtain ⟨_, _, p, _⟩ := x; exact (Looks.ld p).andThen .now
inductive KeyI (s : Shared) (C kS : Addr) (vs : List Value) (i : Nat) : Shared → Prop
  | mk {h' : Heap} {tk e : Nat} {kA : List Value} : KpB [kS] s.heap h' → h'.get? kS = some (seqObj "list" kA.toArray e) → Keyd (RK h' C) kA (vs.take i) → KeyI s C kS vs i { s with heap := h', toks := tk }
theorem KpB.kpOf {S : List Addr} {h h' : Heap} (kb : Kp hb h) (k : KpB S h h') (hn : ∀ x ∈ S, hb.get? x = none) : Kp hb h' := fun x o e => k x o (fun q => by rw [hn x q] at e; cases e) (kb x o e)
theorem restK (W : KW w hb C f D c) (S : SWO fun u v => decide (c u v < 0)) (hr : Rm A 5) (kb : Kp hb s.heap) (hD : ∀ v ∈ vs, D v) (h64 : vs.length < 64) (hbk : hb.get? kS = none)
    (hkS : s.heap.get? kS = some (seqObj "list" #[] e)) (ha : s.heap.get? a = some (seqObj "list" #[] e1)) (ne : kS ≠ a)
    (h : ∀ p h' tk, Srt (fun u v => decide (c u v < 0)) (katRev b vs) p → PL h' a (katRev b (outOf (katRev b vs) p)) → KpB [kS, a] s.heap h' → P (.done (.ret .none)) { s with heap := h', toks := tk }) :
    wpAny (MM w) A (ksk_rest a (.ref C) b vs.toArray e1 (.ref kS)) P E s := by
  unfold ksk_rest
  refine wpAny_bind (wpAny_rule ?_)
  rw [List.forIn_toArray]
  refine wpAny_bind (ksk_fold (KeyI s C kS vs) vs 0 s (.mk (h' := s.heap) (tk := s.toks) (kA := []) (KpB.refl _ _) hkS ⟨by simp, fun i u hu => by simp at hu⟩) ?step ?done)
  case step =>
    rintro j x s' hx ⟨k', hk', hK⟩
    rename_i h' tk e' kA
    simp only [Nat.zero_add] at hK ⊢
    have hj : j < vs.length := (List.getElem?_eq_some_iff.mp hx).1
    have hz : kA.length = j := by rw [hK.1, List.length_take]; lia
    refine wpAny_bind (wpAny_attempt (W.new (s := { s with heap := h', toks := tk }) hr (KpB.kpOf kb k' (by simpa using hbk)) (fun o h2 tk2 k2 K2 _ => ?_)))
    have nk := k2 _ _ hk'
    have s1 := Heap.SameBut.update h2 kS (Obj.mapSeq (·.push (.ref o)))
    have e2 := get?_update_seq nk (·.push (Value.ref o))
    refine wpAny_bind (listUpdate_at nk rfl ?_ (by rw [sizeLine_eq, List.size_toArray]; lia) (Nat.le_trans (Nat.le_of_eq (Array.size_push ..)) (by rw [sizeLine_eq, List.size_toArray]; lia)))
    refine wpAny_pure ⟨rfl, .mk (kA := kA ++ [.ref o]) ?_ (by simpa using e2) ?_⟩
    · intro y oo hy ey
      exact (s1.2 y (fun q => hy (q ▸ .head _))).trans (k2 _ _ (k' _ _ hy ey))
    · have et : vs.take (j + 1) = vs.take j ++ [x] := by rw [List.take_add_one, hx]; rfl
      rw [et]
      refine ⟨by simp [hK.1], fun i u hu => ?_⟩
      by_cases hi : i < (vs.take j).length
      · rw [List.getElem?_append_left hi] at hu
        obtain ⟨k, p, oo, rfl, K⟩ := hK.2 i u hu
        exact ⟨_, by rw [List.getElem?_append_left (by rw [hK.1]; exact hi)]; exact p, oo, rfl, (K.kp k2).put s1 nk nofun e2⟩
      · have hi' : i = (vs.take j).length := by
          have := (List.getElem?_eq_some_iff.mp hu).1
          rw [List.length_append] at this
          simp only [List.length_cons, List.length_nil] at this
          lia
        subst hi'
        rw [List.getElem?_append_right (Nat.le_refl _), Nat.sub_self] at hu
        cases hu
        exact ⟨.ref o, by rw [← hK.1, List.getElem?_append_right (Nat.le_refl _), Nat.sub_self]; rfl, o, rfl, K2.put s1 nk nofun e2⟩
  case done =>
    rintro s' ⟨k', hk', hK⟩
    rename_i h' tk e' kA
    rw [Nat.zero_add, List.take_length] at hK
    have kb' := KpB.kpOf kb k' (by simpa using hbk)
    refine wpAny_bind (listItems_at hk' rfl ?_)
    refine endK (s := { s with heap := h', toks := tk }) (κ := oneType') S hK h64 (fun h2 Q hQ => ?_) ?_ hk' (k' _ _ (nin1 (Ne.symm ne)) ha) ne (fun p h3 tk3 hp hl k3 => h p h3 tk3 hp hl ((k'.mono (by simp)).trans k3))
    · refine kas_kind (T := .ref C) (by rw [hK.1]; exact h2) (fun v hv => ?_) rfl (by simp) hQ
      obtain ⟨i, hi, rfl⟩ := List.mem_iff_getElem.mp hv
      obtain ⟨k, p, oo, rfl, K⟩ := hK.2 i _ (List.getElem?_eq_getElem (by rw [← hK.1]; exact hi))
      rw [List.getElem?_eq_getElem hi] at p
      rw [Option.some.inj p]
      exact type_key K
    · rintro u v k l hu hv ⟨o1, rfl, K1⟩ ⟨o2, rfl, K2⟩ h1 tk1 Cc k1 hC
      exact W.sortLt (s := { s with heap := h1, toks := tk1 }) hr (kb'.trans k1) (K1.kp k1) (K2.kp k1) (hD _ hu) (hD _ hv) (fun h2 tk2 k2 => hC _ _ k2)
theorem treeK (W : KW w hb C f D c) (S : SWO fun u v => decide (c u v < 0)) (hr : Rm A 5) (kb : Kp hb s.heap) (hD : ∀ v ∈ vs, D v) (h64 : vs.length < 64) (hba : hb.get? a = none) (hl : PL s.heap a vs)
    (h : ∀ p h' tk, Srt (fun u v => decide (c u v < 0)) (katRev b vs) p → PL h' a (katRev b (outOf (katRev b vs) p)) → KpB [a] s.heap h' → P (.done (.ret .none)) { s with heap := h', toks := tk }) :
    wpAny (MM w) A (ksk_tree a (.ref C) b) P E s := by
  obtain ⟨n, ho⟩ := hl
  refine sort_pre ho h64 (fun h1 e1 hd kS k1 ha hkS hn ne => ?_)
  have kb1 := KpB.kpOf kb k1 (by simpa using hba)
  refine restK (s := { s with heap := h1 }) W S hr kb1 hD h64 (none_base kb hn) hkS ha ne (fun p h' tk hp hl k' => h p h' tk hp hl ?_)
  intro x o hx ex
  refine k' x o (fun q => (List.mem_cons.mp q).elim (fun q => by rw [q, hn] at ex; cases ex) hx) (k1 x o hx ex)
theorem sortedK {l : Addr} {kw : List (Str × Value)} {Q : Value → Shared → Prop} (W : KW w hb C f D c) (S : SWO fun u v => decide (c u v < 0)) (hr : Rm A 7) (kb : Kp hb s.heap) (hD : ∀ v ∈ vs, D v) (h64 : vs.length < 64) (hl : PL s.heap l vs)
    (ha1 : argsOk "sorted" ⟨[.ref l], kw⟩) (ha2 : ∀ x, argsOk "list.sort" ⟨[.ref x], kw⟩) (ht : ∀ x, Builtin.«list.sort» ⟨[.ref x], kw⟩ = ksk_tree x (.ref C) b)
    (h : ∀ r p h' tk, Srt (fun u v => decide (c u v < 0)) (katRev b vs) p → PL h' r (katRev b (outOf (katRev b vs) p)) → s.heap.get? r = none → Kp s.heap h' → Q (.ref r) { s with heap := h', toks := tk }) :
    wpAny (MM w) A (call (.builtin "sorted") [.ref l] kw) Q E s := by
  refine call_function_entry_kw kind_sorted plain_sorted entry_sorted ha1 ?_
  unfold Builtin.«sorted»
  refine wpAny_bind (m := checkCount "sorted" 1 1 _) (wpAny_pure ?_)
  refine wpAny_bind (collect_list hl.il ?_ (by rw [sizeLine_eq]; lia))
  refine wpAny_bind (wpAny_newList ?_ (by rw [sizeLine_eq]; lia))
  have hsz : ((s.heap.push (seqObj "list" #[] 0)).update s.heap.objs.size (Obj.mapSeq (· ++ vs.toArray))).objs.size = s.heap.objs.size + 1 := by
    rw [Heap.size_update, size_push']
  have hoL : (((s.heap.push (seqObj "list" #[] 0)).update s.heap.objs.size (Obj.mapSeq (· ++ vs.toArray))).push (seqObj "list" vs.toArray 0)).get? (s.heap.objs.size + 1) = some (seqObj "list" vs.toArray 0) := by
    rw [← hsz]; exact Heap.get?_push_size _ rfl
  have keep : Kp s.heap (((s.heap.push (seqObj "list" #[] 0)).update s.heap.objs.size (Obj.mapSeq (· ++ vs.toArray))).push (seqObj "list" vs.toArray 0)) := fun b o q => by
    have hlt : b < s.heap.objs.size := Heap.lt_size q
    rw [Heap.get?_push_ne _ _ _ (by rw [hsz]; exact Nat.ne_of_lt (Nat.lt_succ_of_lt hlt)), Heap.get?_update_ne _ _ _ _ (Nat.ne_of_lt hlt), Heap.get?_push_ne _ _ _ (Nat.ne_of_lt hlt)]
    exact q
  have hn : s.heap.get? (s.heap.objs.size + 1) = none := Heap.get?_none_of_le (Nat.le_succ _)
  show wpAny _ _ _ _ _ { s with heap := ((s.heap.push (seqObj "list" #[] 0)).update s.heap.objs.size (Obj.mapSeq (· ++ vs.toArray))).push (seqObj "list" vs.toArray 0) }
  rw [hsz]
  refine wpAny_bind (wpAny_holding (wpAny_call_entry_kw slot_list_sort ⟨_, hoL, rfl⟩ entry_list_sort ?body (ha2 _)))
  case body =>
    have ht' := ht (s.heap.objs.size + 1)
    show wpAny (MM w) A.in1.in1 (Builtin.«list.sort» ⟨[.ref (s.heap.objs.size + 1)], kw⟩) _ _ _
    rw [ht']
    refine treeK (s := { s with heap := ((s.heap.push (seqObj "list" #[] 0)).update s.heap.objs.size (Obj.mapSeq (· ++ vs.toArray))).push (seqObj "list" vs.toArray 0) }) W S hr.in1.in1 (kb.trans keep) hD h64 (none_base kb hn) ⟨_, hoL⟩ (fun p h' tk hp hl k' => ⟨_, rfl, ?_⟩)
    refine wpAny_pure ⟨_, rfl, h _ p h' tk hp hl hn (fun x o ex => k' x o (nin1 fun q => by rw [q, hn] at ex; cases ex) (keep x o ex))⟩
end
end Mine
namespace Mine
structure COk (c : Value → Value → Int) : Prop where
  sw : SWO fun u v => decide (c u v < 0)
  an : ∀ u v, 0 < c u v ↔ c v u < 0
noncomputable def lt2 (c : Value → Value → Int) (a b : Value × Int) : Bool := decide (c a.1 b.1 < 0) || (!decide (c b.1 a.1 < 0) && decide (a.2 < b.2))
section
variable {c : Value → Value → Int}
theorem lt2_true {a b : Value × Int} : lt2 c a b = true ↔ c a.1 b.1 < 0 ∨ (¬ c b.1 a.1 < 0 ∧ a.2 < b.2) := by
  unfold lt2; rw [Bool.or_eq_true, Bool.and_eq_true, Bool.not_eq_true', decide_eq_true_iff, decide_eq_false_iff_not, decide_eq_true_iff]
theorem lt2_false {a b : Value × Int} : lt2 c a b = false ↔ ¬ c a.1 b.1 < 0 ∧ (c b.1 a.1 < 0 ∨ b.2 ≤ a.2) := by
  rw [← Bool.not_eq_true, lt2_true]; constructor
  · intro h
    refine ⟨fun q => h (.inl q), ?_⟩
    by_cases q : c b.1 a.1 < 0
    · exact .inl q
    · exact .inr (Int.not_lt.mp fun z => h (.inr ⟨q, z⟩))
  · rintro ⟨h1, h2⟩ (q | ⟨q1, q2⟩)
    · exact h1 q
    · rcases h2 with h2 | h2
      · exact q1 h2
      · exact absurd q2 (Int.not_lt.mpr h2)
theorem COk.tr (K : COk c) {u v x : Value} (h : c u v < 0) (k : c v x < 0) : c u x < 0 := by simpa using K.sw.tr (a := u) (b := v) (c := x) (by simpa using h) (by simpa using k)
theorem COk.neg (K : COk c) {u v x : Value} (h : ¬ c v u < 0) (k : ¬ c x v < 0) : ¬ c x u < 0 := by simpa using K.sw.neg (a := u) (b := v) (c := x) (by simpa using h) (by simpa using k)
theorem COk.refl (K : COk c) (u : Value) : ¬ c u u < 0 := by simpa using K.sw.irr u
theorem COk.lr (K : COk c) {u v x : Value} (h : c u v < 0) (k : ¬ c x v < 0) : c u x < 0 := by
  by_cases q : c u x < 0
  · exact q
  · exact absurd h (K.neg k q)
theorem COk.rl (K : COk c) {u v x : Value} (h : ¬ c v u < 0) (k : c v x < 0) : c u x < 0 := by
  by_cases q : c u x < 0
  · exact q
  · exact absurd k (K.neg q h)
theorem COk.lt2 (K : COk c) : SWO (lt2 c) := by
  refine ⟨fun a => lt2_false.mpr ⟨K.refl _, .inr (Int.le_refl _)⟩, fun {a b d} h k => ?_, fun {a b d} h k => ?_⟩
  · rw [lt2_true] at h k ⊢
    rcases h with h | ⟨h1, h2⟩
    · rcases k with k | ⟨k1, k2⟩
      · exact .inl (K.tr h k)
      · exact .inl (K.lr h k1)
    · rcases k with k | ⟨k1, k2⟩
      · exact .inl (K.rl h1 k)
      · exact .inr ⟨K.neg h1 k1, Int.lt_trans h2 k2⟩
  · rw [lt2_false] at h k ⊢
    refine ⟨K.neg h.1 k.1, ?_⟩
    rcases h.2 with p | p
    · exact .inl (K.lr p k.1)
    · rcases k.2 with q | q
      · exact .inl (K.rl h.1 q)
      · exact .inr (Int.le_trans p q)
theorem COk.zero (K : COk c) (u v : Value) (n m : Int) : (decide (c u v < 0) || (c u v == 0 && decide (n < m))) = Mine.lt2 c (u, n) (v, m) := by
  unfold Mine.lt2
  dsimp only
  by_cases h : c u v < 0
  · simp [h]
  · have : (c u v == 0) = !decide (c v u < 0) := by
      rw [Bool.eq_iff_iff, beq_iff_eq, Bool.not_eq_true', decide_eq_false_iff_not, ← K.an]
      lia
    rw [this]
theorem lt2_tot {a b : Value × Int} (h : a.2 ≠ b.2) : Mine.lt2 c a b = true ∨ Mine.lt2 c b a = true := by
  rw [lt2_true, lt2_true]
  by_cases p : c a.1 b.1 < 0
  · exact .inl (.inl p)
  · by_cases q : c b.1 a.1 < 0
    · exact .inr (.inl q)
    · rcases Int.lt_or_gt_of_ne h with h | h
      · exact .inl (.inr ⟨q, h⟩)
      · exact .inr (.inr ⟨p, h⟩)
end
noncomputable def tRec (h : Heap) : Value → Value
  | .ref t => match h.get? t with | some o => (match o.data with | .seq xs _ => xs.getD 2 .none | _ => .none) | none => .none
  | _ => .none
noncomputable def tNum (h : Heap) : Value → Int
  | .ref t => match h.get? t with | some o => (match o.data with | .seq xs _ => (match xs.getD 1 .none with | .int n _ => n | _ => 0) | _ => 0) | none => 0
  | _ => 0
noncomputable def TupAt (h : Heap) (C : Addr) (v r : Value) (n : Int) : Prop := ∃ t k tn, v = .ref t ∧ h.get? t = some (tup3 k n tn r) ∧ KeyAt h C k r
section
variable {h h' hb : Heap} {C f : Addr} {v r : Value} {n : Int} {c : Value → Value → Int} {D : Value → Prop} {w : World}
theorem TupAt.kp (x : TupAt h C v r n) (k : Kp h h') : TupAt h' C v r n := by obtain ⟨t, a, tn, e, p, q⟩ := x; exact ⟨t, a, tn, e, k _ _ p, q.kp k⟩
theorem TupAt.rec (x : TupAt h C v r n) : tRec h v = r := by obtain ⟨t, k, tn, rfl, e, _⟩ := x; unfold tRec; dsimp only; rw [e]; rfl
theorem TupAt.num (x : TupAt h C v r n) : tNum h v = n := by obtain ⟨t, k, tn, rfl, e, _⟩ := x; unfold tNum; dsimp only; rw [e]; rfl
noncomputable def IsT (h : Heap) (C : Addr) (D : Value → Prop) (v : Value) : Prop := ∃ r n, TupAt h C v r n ∧ D r
theorem IsT.kp (x : IsT h C D v) (k : Kp h h') : IsT h' C D v := by obtain ⟨r, n, t, d⟩ := x; exact ⟨r, n, t.kp k, d⟩
theorem IsT.same (x : IsT h C D v) (k : Kp h h') : tRec h' v = tRec h v ∧ tNum h' v = tNum h v := by obtain ⟨r, n, t, d⟩ := x; exact ⟨by rw [(t.kp k).rec, t.rec], by rw [(t.kp k).num, t.num]⟩
noncomputable def ltT (c : Value → Value → Int) (h : Heap) (u v : Value) : Bool := lt2 c (tRec h u, tNum h u) (tRec h v, tNum h v)
theorem COk.ltT (K : COk c) (h : Heap) : SWO (ltT c h) := ⟨fun a => K.lt2.irr _, fun p q => K.lt2.tr p q, fun p q => K.lt2.neg p q⟩
noncomputable def OneNo (h : Heap) (L : List Value) : Prop := ∀ u ∈ L, ∀ v ∈ L, tNum h u = tNum h v → ∃ q, tRec h u = .ref q ∧ tRec h v = .ref q
theorem cmpT {L : List Value} (W : KW w hb C f D c) (K : COk c) (hL : ∀ v ∈ L, IsT hb C D v) (h1 : OneNo hb L) : CmpLt w hb (· ∈ L) (ltT c hb) := by
  intro x y hx hy A s Q E hr k h
  have h1' := h1 x hx y hy
  obtain ⟨r, n, tx, dx⟩ := hL x hx
  obtain ⟨r', n', ty, dy⟩ := hL y hy
  rw [tx.num, tx.rec, ty.num, ty.rec] at h1'
  have h2 : ∀ h' tk, Kp s.heap h' → Q (.bool (lt2 c (r, n) (r', n'))) { s with heap := h', toks := tk } := by
    have := h
    unfold Mine.ltT at this
    rwa [tx.num, tx.rec, ty.num, ty.rec] at this
  obtain ⟨t, a, tn, rfl, e, q⟩ := tx.kp k
  obtain ⟨t', b, tn', rfl, e', q'⟩ := ty.kp k
  refine tup_lt W (hr.le (by decide)) k e e' q q' dx dy h1' (fun h' tk k' => ?_)
  rw [K.zero]
  exact h2 h' tk k'
theorem sortT {L : List Value} (W : KW w hb C f D c) (K : COk c) (hL : ∀ v ∈ L, IsT hb C D v) (h1 : OneNo hb L) {A : Around} {E : Value → Shared → Prop} {s : Shared} {Q : Bool → Shared → Prop} {x y : Value} (hr : Rm A 5) (k : Kp hb s.heap) (hx : x ∈ L) (hy : y ∈ L)
    (h : ∀ h' tk, Kp s.heap h' → Q (ltT c hb x y) { s with heap := h', toks := tk }) : wpAny (MM w) A (keyLt' (tuples' true) x y) Q E s := by
  have h1' := h1 x hx y hy
  obtain ⟨r, n, tx, dx⟩ := hL x hx
  obtain ⟨r', n', ty, dy⟩ := hL y hy
  rw [tx.num, tx.rec, ty.num, ty.rec] at h1'
  have h2 : ∀ h' tk, Kp s.heap h' → Q (lt2 c (r, n) (r', n')) { s with heap := h', toks := tk } := by
    have := h
    unfold Mine.ltT at this
    rwa [tx.num, tx.rec, ty.num, ty.rec] at this
  obtain ⟨t, a, tn, rfl, e, q⟩ := tx.kp k
  obtain ⟨t', b, tn', rfl, e', q'⟩ := ty.kp k
  refine tup_sortLt W hr k e e' q q' dx dy h1' (fun h' tk k' => ?_)
  rw [K.zero]
  exact h2 h' tk k'
theorem tups {vs : List Value} (hL : ∀ v ∈ vs, IsT h C D v) : ∃ fs, KatTups h vs fs ∧ fs.length = vs.length ∧ ∀ k ∈ fs, ∃ o u, k = .ref o ∧ KeyAt h C o u := by
  induction vs with
  | nil => exact ⟨[], .nil, rfl, fun k hk => nomatch hk⟩
  | cons v vs ih =>
    obtain ⟨fs, a, b, d⟩ := ih (fun v hv => hL v (.tail _ hv))
    obtain ⟨r, n, ⟨t, k, tn, rfl, e, q⟩, _⟩ := hL _ (.head _)
    refine ⟨.ref k :: fs, .cons e rfl rfl rfl a, by simp [b], fun x hx => ?_⟩
    cases hx with
    | head => exact ⟨k, r, rfl, q⟩
    | tail _ hx => exact d x hx
theorem sortTup {A : Around} {E : Value → Shared → Prop} {s : Shared} {Q : Value → Shared → Prop} {a : Addr} {vs : List Value} {b : Bool} {kw : List (Str × Value)} (W : KW w hb C f D c) (K : COk c) (hr : Rm A 6) (kb : Kp hb s.heap) (hba : hb.get? a = none) (hL : ∀ v ∈ vs, IsT hb C D v) (h1 : OneNo hb vs) (h64 : vs.length < 64) (hl : PL s.heap a vs)
    (ha2 : argsOk "list.sort" ⟨[.ref a], kw⟩) (ht : Builtin.«list.sort» ⟨[.ref a], kw⟩ = plainTree a b)
    (h : ∀ p h' tk, Srt (ltT c hb) (katRev b vs) p → PL h' a (katRev b (outOf (katRev b vs) p)) → KpB [a] s.heap h' → Q .none { s with heap := h', toks := tk }) :
    wpAny (MM w) A (call (.builtin "list.sort") [.ref a] kw) Q E s := by
  refine wpAny_call_entry_kw slot_list_sort (by obtain ⟨_, e⟩ := hl; exact ⟨_, e, rfl⟩) entry_list_sort ?_ ha2
  rw [ht]
  have kbh : ∀ {h : Heap}, KpB [a] s.heap h → Kp hb h := fun k => KpB.kpOf kb k (by simpa using hba)
  refine sortPlain (κ := tuples' true) (K.ltT hb) h64 hl (fun h2 hh Q k hQ => ?_) (fun u v hu hv hh tk Cc k hC => ?_) (fun p h' tk a1 a2 a3 => ⟨_, rfl, h p h' tk a1 a2 a3⟩)
  · obtain ⟨fs, t, e, g⟩ := tups (fun v hv => (hL v hv).kp (kbh k))
    refine kat_kind (T := .ref C) t (by lia) (fun v hv => ?_) (by simp) hQ
    obtain ⟨o, u, rfl, K⟩ := g v hv
    exact type_key K
  · exact sortT (s := { s with heap := hh, toks := tk }) W K hL h1 hr.in1 (kbh k) hu hv hC
end
end Mine
namespace Mine
section
variable {c : Value → Value → Int} {num : Value → Int} {vs : List Value} {v vb : Value} {j : Nat}
noncomputable def Bst (c : Value → Value → Int) (num : Value → Int) (vs : List Value) (j : Nat) (vb : Value) : Prop := vb ∈ vs.take (j + 1) ∧ ∀ u ∈ vs.take (j + 1), u = vb ∨ lt2 c (vb, num vb) (u, num u) = true
theorem take_at (h : vs[j]? = some v) : vs.take (j + 1) = vs.take j ++ [v] := by rw [List.take_add_one, h]; rfl
theorem Bst.first (h : vs[0]? = some v) : Bst c num vs 0 v := by
  unfold Bst
  rw [take_at h]
  exact ⟨by simp, fun u hu => .inl (by simpa using hu)⟩
theorem Bst.kept (K : COk c) (hn : vs.Pairwise fun u v => num u < num v) (h : vs[j + 1]? = some v) (B : Bst c num vs j vb) (hc : ¬ c v vb < 0) : Bst c num vs (j + 1) vb := by
  unfold Bst
  rw [take_at h]
  refine ⟨List.mem_append_left _ B.1, fun u hu => ?_⟩
  rcases List.mem_append.mp hu with hu | hu
  · exact B.2 u hu
  · rw [List.mem_singleton.mp hu]
    refine .inr (lt2_true.mpr (.inr ⟨hc, ?_⟩))
    obtain ⟨i, hi, rfl⟩ := List.mem_iff_getElem.mp B.1
    rw [List.getElem_take]
    obtain ⟨h1, h2⟩ := List.getElem?_eq_some_iff.mp h
    rw [← h2]
    exact List.pairwise_iff_getElem.mp hn _ _ _ _ (by rw [List.length_take] at hi; lia)
theorem Bst.new (K : COk c) (h : vs[j + 1]? = some v) (B : Bst c num vs j vb) (hc : c v vb < 0) : Bst c num vs (j + 1) v := by
  unfold Bst
  rw [take_at h]
  refine ⟨List.mem_append_right _ (.head _), fun u hu => ?_⟩
  rcases List.mem_append.mp hu with hu | hu
  · refine .inr (lt2_true.mpr (.inl ?_))
    rcases B.2 u hu with rfl | q
    · exact hc
    · rcases lt2_true.mp q with q | ⟨q, _⟩
      · exact K.tr hc q
      · exact K.lr hc q
  · exact .inl (List.mem_singleton.mp hu)
theorem COk.flip (K : COk c) : COk (fun u v => c v u) := ⟨K.sw.flip, fun u v => K.an v u⟩
end
theorem min_args (a u v : Value) : argsOk "min" ⟨[a], [(Str.ofString "default", u), (Str.ofString "key", v)]⟩ := by unfold argsOk; kernel_rfl
theorem max_args (a u v : Value) : argsOk "max" ⟨[a], [(Str.ofString "default", u), (Str.ofString "key", v)]⟩ := by unfold argsOk; kernel_rfl
theorem sbKpB {a : Addr} {h h' : Heap} {S : List Addr} (x : Heap.SameBut a h h') (ha : a ∈ S) : KpB S h h' := fun b o hb e => (x.2 b (fun q => hb (q ▸ ha))).trans e
theorem ExtBut.kpB {a : Addr} {h h' : Heap} {S : List Addr} (x : Heap.ExtBut a h h') (ha : a ∈ S) : KpB S h h' := fun b o hb e => x b o (fun q => hb (q ▸ ha)) e
section
variable {w : World} {A : Around} {E : Value → Shared → Prop} {s : Shared} {hb : Heap} {C f I S l : Addr} {D : Value → Prop} {c : Value → Value → Int} {num : Value → Int} {vs : List Value} {R : Result → Shared → Prop} {dv : Value}

end
namespace N_min_loop
noncomputable def stX0 (w : World) (A : Around) (s : Shared) (hb : Heap) (C f I S l : Addr) (D : Value → Prop) (c : Value → Value → Int) (num : Value → Int) (vs : List Value) (R : Result → Shared → Prop) (dv : Value) : Prop := ∀ (W : KW w hb C f D c) (K : COk c) (hr : Rm A 6) (hn : vs.Pairwise fun u v => num u < num v) (hD : ∀ v ∈ vs, D v) (hbI : hb.get? I = none) (hbS : hb.get? S = none) (hIS : I ≠ S) (hlI : l ≠ I) (hlS : l ≠ S) (kb : Kp hb s.heap) (hl : PL s.heap l vs) (hR : ∀ vb h' tk, Bst c num vs (vs.length - 1) vb → KpB [I, S] s.heap h' → R (.ok (.ret vb)) { s with heap := h', toks := tk }), ∀ (r j : Nat) (h : Heap) (tk : Nat) (vb : Value) (ob : Addr) (cc : Nat), vs.length - (j + 1) = r → j + 1 ≤ vs.length → KpB [I, S] s.heap h → h.get? S = some (seqObj "list" #[vb, .ref ob] cc) → KeyAt h C ob vb → h.IsListIter I l (j + 1) → Bst c num vs j vb →
      codeAny (MM w) A (.builtin "min.loop" ⟨[.ref I, .ref C, .ref S], [(Str.ofString "default", dv)]⟩) R { s with heap := h, toks := tk }
noncomputable def stX1 (w : World) (A : Around) (s : Shared) (hb : Heap) (C f I S l : Addr) (D : Value → Prop) (c : Value → Value → Int) (num : Value → Int) (vs : List Value) (R : Result → Shared → Prop) (dv : Value) : Prop := ∀ (W : KW w hb C f D c) (K : COk c) (hr : Rm A 6) (hn : vs.Pairwise fun u v => num u < num v) (hD : ∀ v ∈ vs, D v) (hbI : hb.get? I = none) (hbS : hb.get? S = none) (hIS : I ≠ S) (hlI : l ≠ I) (hlS : l ≠ S) (kb : Kp hb s.heap) (hl : PL s.heap l vs) (hR : ∀ vb h' tk, Bst (fun u v => c v u) num vs (vs.length - 1) vb → KpB [I, S] s.heap h' → R (.ok (.ret vb)) { s with heap := h', toks := tk }), ∀ (r j : Nat) (h : Heap) (tk : Nat) (vb : Value) (ob : Addr) (cc : Nat), vs.length - (j + 1) = r → j + 1 ≤ vs.length → KpB [I, S] s.heap h → h.get? S = some (seqObj "list" #[vb, .ref ob] cc) → KeyAt h C ob vb → h.IsListIter I l (j + 1) → Bst (fun u v => c v u) num vs j vb →
      codeAny (MM w) A (.builtin "max.loop" ⟨[.ref I, .ref C, .ref S], [(Str.ofString "default", dv)]⟩) R { s with heap := h, toks := tk }
noncomputable abbrev T := World × Around × Shared × Heap × Addr × Addr × Addr × Addr × Addr × (Value → Prop) × (Value → Value → Int) × (Value → Int) × (List Value) × (Result → Shared → Prop) × Value
noncomputable def pX (x : T) : Prop := stX0 x.1 x.2.1 x.2.2.1 x.2.2.2.1 x.2.2.2.2.1 x.2.2.2.2.2.1 x.2.2.2.2.2.2.1 x.2.2.2.2.2.2.2.1 x.2.2.2.2.2.2.2.2.1 x.2.2.2.2.2.2.2.2.2.1 x.2.2.2.2.2.2.2.2.2.2.1 x.2.2.2.2.2.2.2.2.2.2.2.1 x.2.2.2.2.2.2.2.2.2.2.2.2.1 x.2.2.2.2.2.2.2.2.2.2.2.2.2.1 x.2.2.2.2.2.2.2.2.2.2.2.2.2.2 ∧ stX1 x.1 x.2.1 x.2.2.1 x.2.2.2.1 x.2.2.2.2.1 x.2.2.2.2.2.1 x.2.2.2.2.2.2.1 x.2.2.2.2.2.2.2.1 x.2.2.2.2.2.2.2.2.1 x.2.2.2.2.2.2.2.2.2.1 x.2.2.2.2.2.2.2.2.2.2.1 x.2.2.2.2.2.2.2.2.2.2.2.1 x.2.2.2.2.2.2.2.2.2.2.2.2.1 x.2.2.2.2.2.2.2.2.2.2.2.2.2.1 x.2.2.2.2.2.2.2.2.2.2.2.2.2.2
noncomputable def cX : T := @Classical.epsilon _ (ne2 neW (ne2 neA (ne2 neS (ne2 neI (ne2 neI (ne2 neI (ne2 neI (ne2 neI (ne2 neI (ne2 neI (ne2 neI (ne2 neI (ne2 neI (ne2 neI neI)))))))))))))) fun x => ¬ pX x
def w : World := cX.1
def A : Around := cX.2.1
def s : Shared := cX.2.2.1
def hb : Heap := cX.2.2.2.1
def C : Addr := cX.2.2.2.2.1
def f : Addr := cX.2.2.2.2.2.1
def I : Addr := cX.2.2.2.2.2.2.1
def S : Addr := cX.2.2.2.2.2.2.2.1
def l : Addr := cX.2.2.2.2.2.2.2.2.1
def D : Value → Prop := cX.2.2.2.2.2.2.2.2.2.1
def c : Value → Value → Int := cX.2.2.2.2.2.2.2.2.2.2.1
def num : Value → Int := cX.2.2.2.2.2.2.2.2.2.2.2.1
def vs : List Value := cX.2.2.2.2.2.2.2.2.2.2.2.2.1
def R : Result → Shared → Prop := cX.2.2.2.2.2.2.2.2.2.2.2.2.2.1
def dv : Value := cX.2.2.2.2.2.2.2.2.2.2.2.2.2.2
theorem pfX0 : stX0 w A s hb C f I S l D c num vs R dv := by
  intro W K hr hn hD hbI hbS hIS hlI hlS kb hl hR
  have hname : (toString "min" ++ toString ".loop" : String) = "min.loop" := by decide
  have hlk : l ∉ [I, S] := by simp [hlI, hlS]
  intro r
  induction r with
  | zero =>
    intro j h tk vb ob cc hr' hj k hS hK hit hB
    have hin : j = vs.length - 1 := by lia
    have hl' := hl.kpB k hlk
    refine codeAny_builtin PySem.F.entry_min_loop ?_
    rw [Around.under_plainId PySem.F.plain_min_loop _]
    show wpAny _ A.in1 (seqItems? (.ref S) >>= _) _ _ _
    refine wpAny_bind (wpAny_seqItems hS rfl ?_)
    show wpAny _ A.in1 (tryCatch (pyNext (.ref I)) _ >>= _) _ _ _
    refine wpAny_bind (wpAny_tryCatch (wpAny_pyNext_list_end hr.han hit hl'.il (by simp; lia) fun h' k' => ?_))
    have kI : KpB [I] h h' := ExtBut.kpB k' (.head _)
    have hS' := kI _ _ (by simpa using hIS.symm) hS
    show wpAny _ A.in1 (updateSeq S (fun _ => #[]) >>= _) _ _ _
    refine wpAny_bind (wpAny_updateSeq hS' rfl (wpAny_bind (wpAny_letGo (wpAny_pure ?_))))
    refine hR vb _ _ (hin ▸ hB) ((k.trans (kI.mono (by simp))).trans (sbKpB (Heap.SameBut.update ..) (.tail _ (.head _))))
  | succ r ih =>
    intro j h tk vb ob cc hr' hj k hS hK hit hB
    have hlt : j + 1 < vs.length := by lia
    have hl' := hl.kpB k hlk
    have hv : vs[j + 1]? = some vs[j + 1] := List.getElem?_eq_getElem hlt
    generalize vs[j + 1] = v at hv
    refine codeAny_builtin PySem.F.entry_min_loop ?_
    rw [Around.under_plainId PySem.F.plain_min_loop _]
    show wpAny _ A.in1 (seqItems? (.ref S) >>= _) _ _ _
    refine wpAny_bind (wpAny_seqItems hS rfl ?_)
    show wpAny _ A.in1 (tryCatch (pyNext (.ref I)) _ >>= _) _ _ _
    refine wpAny_bind (wpAny_tryCatch (wpAny_pyNext_list_item hit hl'.il (by simpa using hv) fun h' e' s' => ?_))
    obtain ⟨oI, hoI, hcI, hdI⟩ := id hit
    obtain ⟨oI', hoI', hcI', hdI'⟩ := id e'
    have hS1 := (s'.2 S hIS.symm).trans hS
    have hK1 := hK.put s' hoI (by rw [hdI]; nofun) hoI'
    have k1 : KpB [I, S] s.heap h' := k.trans (sbKpB s' (.head _))
    have kb1 : Kp hb h' := KpB.kpOf kb k1 (by simp [hbI, hbS])
    show wpAny _ A.in1 (tryCatch (holding [v] (call (.ref C) [v])) _ >>= _) _ _ _
    refine wpAny_bind (wpAny_tryCatch (wpAny_holding (W.new (s := { s with heap := h', toks := tk }) hr.in1 kb1 (fun o h2 tk2 k2 K2 _ => ?_))))
    have dv' := hD _ (List.mem_of_getElem? hv)
    have dvb := hD _ (List.mem_of_mem_take hB.1)
    show wpAny _ A.in1 (tryCatch (holding [v, .ref o] (richCompare .Lt (.ref o) (.ref ob) >>= _)) _ >>= _) _ _ _
    refine wpAny_bind (wpAny_tryCatch (wpAny_holding (wpAny_bind (W.lt (s := { s with heap := h2, toks := tk2 }) hr.in1 (kb1.trans k2) K2 (hK1.kp k2) dv' dvb (fun h3 tk3 k3 => ?_)))))
    refine wpAny_bind (wpAny_holding (wpAny_truthy_bool ?_))
    refine wpAny_bind (wpAny_letGo (wpAny_pure ?_))
    have hS3 := k3 _ _ (k2 _ _ hS1)
    have hit3 : h3.IsListIter I l (j + 1 + 1) := ⟨oI', k3 _ _ (k2 _ _ hoI'), hcI', hdI'⟩
    have kk3 : KpB [I, S] s.heap h3 := (k1.trans (k2.but _)).trans (k3.but _)
    by_cases hb' : c v vb < 0
    · have s1 := Heap.SameBut.update h3 S (Obj.mapSeq fun _ => #[v, .ref o])
      have hc2 := get?_update_seq hS3 fun _ => #[v, Value.ref o]
      simp only [hb', decide_true, if_true]
      refine wpAny_bind (wpAny_updateSeq hS3 rfl (wpAny_bind (wpAny_letGo ?_)))
      rw [hname]
      refine wpAny_pure ⟨plainId_quiet PySem.F.plain_min_loop _, ih (j + 1) _ _ v o _ (by lia) hlt (kk3.trans (sbKpB s1 (.tail _ (.head _)))) hc2 ((K2.kp k3).put s1 hS3 nofun hc2) ⟨oI', (s1.2 _ hIS).trans (k3 _ _ (k2 _ _ hoI')), hcI', hdI'⟩ (hB.new K hv hb')⟩
    · simp only [hb', decide_false, Bool.false_eq_true, if_false]
      refine wpAny_bind (wpAny_letGo ?_)
      rw [hname]
      exact wpAny_pure ⟨plainId_quiet PySem.F.plain_min_loop _, ih (j + 1) _ _ vb ob cc (by lia) hlt kk3 hS3 ((hK1.kp k2).kp k3) hit3 (hB.kept K hn hv hb')⟩
theorem pfX1 : stX1 w A s hb C f I S l D c num vs R dv := by
  intro W K hr hn hD hbI hbS hIS hlI hlS kb hl hR
  have hname : (toString "max" ++ toString ".loop" : String) = "max.loop" := by decide
  have hlk : l ∉ [I, S] := by simp [hlI, hlS]
  intro r
  induction r with
  | zero =>
    intro j h tk vb ob cc hr' hj k hS hK hit hB
    have hin : j = vs.length - 1 := by lia
    have hl' := hl.kpB k hlk
    refine codeAny_builtin PySem.F.entry_max_loop ?_
    rw [Around.under_plainId PySem.F.plain_max_loop _]
    show wpAny _ A.in1 (seqItems? (.ref S) >>= _) _ _ _
    refine wpAny_bind (wpAny_seqItems hS rfl ?_)
    show wpAny _ A.in1 (tryCatch (pyNext (.ref I)) _ >>= _) _ _ _
    refine wpAny_bind (wpAny_tryCatch (wpAny_pyNext_list_end hr.han hit hl'.il (by simp; lia) fun h' k' => ?_))
    have kI : KpB [I] h h' := ExtBut.kpB k' (.head _)
    have hS' := kI _ _ (by simpa using hIS.symm) hS
    show wpAny _ A.in1 (updateSeq S (fun _ => #[]) >>= _) _ _ _
    refine wpAny_bind (wpAny_updateSeq hS' rfl (wpAny_bind (wpAny_letGo (wpAny_pure ?_))))
    refine hR vb _ _ (hin ▸ hB) ((k.trans (kI.mono (by simp))).trans (sbKpB (Heap.SameBut.update ..) (.tail _ (.head _))))
  | succ r ih =>
    intro j h tk vb ob cc hr' hj k hS hK hit hB
    have hlt : j + 1 < vs.length := by lia
    have hl' := hl.kpB k hlk
    have hv : vs[j + 1]? = some vs[j + 1] := List.getElem?_eq_getElem hlt
    generalize vs[j + 1] = v at hv
    refine codeAny_builtin PySem.F.entry_max_loop ?_
    rw [Around.under_plainId PySem.F.plain_max_loop _]
    show wpAny _ A.in1 (seqItems? (.ref S) >>= _) _ _ _
    refine wpAny_bind (wpAny_seqItems hS rfl ?_)
    show wpAny _ A.in1 (tryCatch (pyNext (.ref I)) _ >>= _) _ _ _
    refine wpAny_bind (wpAny_tryCatch (wpAny_pyNext_list_item hit hl'.il (by simpa using hv) fun h' e' s' => ?_))
    obtain ⟨oI, hoI, hcI, hdI⟩ := id hit
    obtain ⟨oI', hoI', hcI', hdI'⟩ := id e'
    have hS1 := (s'.2 S hIS.symm).trans hS
    have hK1 := hK.put s' hoI (by rw [hdI]; nofun) hoI'
    have k1 : KpB [I, S] s.heap h' := k.trans (sbKpB s' (.head _))
    have kb1 : Kp hb h' := KpB.kpOf kb k1 (by simp [hbI, hbS])
    show wpAny _ A.in1 (tryCatch (holding [v] (call (.ref C) [v])) _ >>= _) _ _ _
    refine wpAny_bind (wpAny_tryCatch (wpAny_holding (W.new (s := { s with heap := h', toks := tk }) hr.in1 kb1 (fun o h2 tk2 k2 K2 _ => ?_))))
    have dv' := hD _ (List.mem_of_getElem? hv)
    have dvb := hD _ (List.mem_of_mem_take hB.1)
    show wpAny _ A.in1 (tryCatch (holding [v, .ref o] (richCompare .Gt (.ref o) (.ref ob) >>= _)) _ >>= _) _ _ _
    refine wpAny_bind (wpAny_tryCatch (wpAny_holding (wpAny_bind (W.gt (s := { s with heap := h2, toks := tk2 }) hr.in1 (kb1.trans k2) K2 (hK1.kp k2) dv' dvb (fun h3 tk3 k3 => ?_)))))
    refine wpAny_bind (wpAny_holding (wpAny_truthy_bool ?_))
    refine wpAny_bind (wpAny_letGo (wpAny_pure ?_))
    have hS3 := k3 _ _ (k2 _ _ hS1)
    have hit3 : h3.IsListIter I l (j + 1 + 1) := ⟨oI', k3 _ _ (k2 _ _ hoI'), hcI', hdI'⟩
    have kk3 : KpB [I, S] s.heap h3 := (k1.trans (k2.but _)).trans (k3.but _)
    by_cases hb' : 0 < c v vb
    · have s1 := Heap.SameBut.update h3 S (Obj.mapSeq fun _ => #[v, .ref o])
      have hc2 := get?_update_seq hS3 fun _ => #[v, Value.ref o]
      simp only [hb', decide_true, if_true]
      refine wpAny_bind (wpAny_updateSeq hS3 rfl (wpAny_bind (wpAny_letGo ?_)))
      rw [hname]
      refine wpAny_pure ⟨plainId_quiet PySem.F.plain_max_loop _, ih (j + 1) _ _ v o _ (by lia) hlt (kk3.trans (sbKpB s1 (.tail _ (.head _)))) hc2 ((K2.kp k3).put s1 hS3 nofun hc2) ⟨oI', (s1.2 _ hIS).trans (k3 _ _ (k2 _ _ hoI')), hcI', hdI'⟩ (hB.new K.flip hv ((K.an _ _).mp hb'))⟩
    · simp only [hb', decide_false, Bool.false_eq_true, if_false]
      refine wpAny_bind (wpAny_letGo ?_)
      rw [hname]
      exact wpAny_pure ⟨plainId_quiet PySem.F.plain_max_loop _, ih (j + 1) _ _ vb ob cc (by lia) hlt kk3 hS3 ((hK1.kp k2).kp k3) hit3 (hB.kept K.flip hn hv (fun q => hb' ((K.an _ _).mpr q)))⟩
theorem allX (x : T) : pX x := eps (P := pX) ⟨pfX0, pfX1⟩
end N_min_loop
theorem min_loop {w : World} {A : Around} {s : Shared} {hb : Heap} {C f I S l : Addr} {D : Value → Prop} {c : Value → Value → Int} {num : Value → Int} {vs : List Value} {R : Result → Shared → Prop} {dv : Value} : N_min_loop.stX0 w A s hb C f I S l D c num vs R dv := (N_min_loop.allX (w, A, s, hb, C, f, I, S, l, D, c, num, vs, R, dv)).1
theorem max_loop {w : World} {A : Around} {s : Shared} {hb : Heap} {C f I S l : Addr} {D : Value → Prop} {c : Value → Value → Int} {num : Value → Int} {vs : List Value} {R : Result → Shared → Prop} {dv : Value} : N_min_loop.stX1 w A s hb C f I S l D c num vs R dv := (N_min_loop.allX (w, A, s, hb, C, f, I, S, l, D, c, num, vs, R, dv)).2
section
variable {w : World} {A : Around} {E : Value → Shared → Prop} {s : Shared} {hb : Heap} {C f I S l : Addr} {D : Value → Prop} {c : Value → Value → Int} {num : Value → Int} {vs : List Value} {R : Result → Shared → Prop} {dv : Value}
end
namespace N_call_min
noncomputable def stX0 (w : World) (A : Around) (E : Value → Shared → Prop) (s : Shared) (hb : Heap) (C f I l : Addr) (D : Value → Prop) (c : Value → Value → Int) (num : Value → Int) (vs : List Value) (dv : Value) (Q : Value → Shared → Prop) : Prop := ∀ (W : KW w hb C f D c) (K : COk c) (hr : Rm A 6) (hn : vs.Pairwise fun u v => num u < num v) (hD : ∀ v ∈ vs, D v) (hbI : hb.get? I = none) (kb : Kp hb s.heap) (hl : PL s.heap l vs) (hlI : l ≠ I) (hit : s.heap.IsListIter I l 0) (h0 : vs = [] → ∀ h' tk, KpB [I] s.heap h' → Q dv { s with heap := h', toks := tk }) (h1 : ∀ vb h' tk, vs ≠ [] → Bst c num vs (vs.length - 1) vb → KpB [I] s.heap h' → Q vb { s with heap := h', toks := tk }), wpAny (MM w) A (call (.builtin "min") [.ref I] [(Str.ofString "default", dv), (Str.ofString "key", .ref C)]) Q E s
noncomputable def stX1 (w : World) (A : Around) (E : Value → Shared → Prop) (s : Shared) (hb : Heap) (C f I l : Addr) (D : Value → Prop) (c : Value → Value → Int) (num : Value → Int) (vs : List Value) (dv : Value) (Q : Value → Shared → Prop) : Prop := ∀ (W : KW w hb C f D c) (K : COk c) (hr : Rm A 6) (hn : vs.Pairwise fun u v => num u < num v) (hD : ∀ v ∈ vs, D v) (hbI : hb.get? I = none) (kb : Kp hb s.heap) (hl : PL s.heap l vs) (hlI : l ≠ I) (hit : s.heap.IsListIter I l 0) (h0 : vs = [] → ∀ h' tk, KpB [I] s.heap h' → Q dv { s with heap := h', toks := tk }) (h1 : ∀ vb h' tk, vs ≠ [] → Bst (fun u v => c v u) num vs (vs.length - 1) vb → KpB [I] s.heap h' → Q vb { s with heap := h', toks := tk }), wpAny (MM w) A (call (.builtin "max") [.ref I] [(Str.ofString "default", dv), (Str.ofString "key", .ref C)]) Q E s
noncomputable abbrev T := World × Around × (Value → Shared → Prop) × Shared × Heap × Addr × Addr × Addr × Addr × (Value → Prop) × (Value → Value → Int) × (Value → Int) × (List Value) × Value × (Value → Shared → Prop)
noncomputable def pX (x : T) : Prop := stX0 x.1 x.2.1 x.2.2.1 x.2.2.2.1 x.2.2.2.2.1 x.2.2.2.2.2.1 x.2.2.2.2.2.2.1 x.2.2.2.2.2.2.2.1 x.2.2.2.2.2.2.2.2.1 x.2.2.2.2.2.2.2.2.2.1 x.2.2.2.2.2.2.2.2.2.2.1 x.2.2.2.2.2.2.2.2.2.2.2.1 x.2.2.2.2.2.2.2.2.2.2.2.2.1 x.2.2.2.2.2.2.2.2.2.2.2.2.2.1 x.2.2.2.2.2.2.2.2.2.2.2.2.2.2 ∧ stX1 x.1 x.2.1 x.2.2.1 x.2.2.2.1 x.2.2.2.2.1 x.2.2.2.2.2.1 x.2.2.2.2.2.2.1 x.2.2.2.2.2.2.2.1 x.2.2.2.2.2.2.2.2.1 x.2.2.2.2.2.2.2.2.2.1 x.2.2.2.2.2.2.2.2.2.2.1 x.2.2.2.2.2.2.2.2.2.2.2.1 x.2.2.2.2.2.2.2.2.2.2.2.2.1 x.2.2.2.2.2.2.2.2.2.2.2.2.2.1 x.2.2.2.2.2.2.2.2.2.2.2.2.2.2
noncomputable def cX : T := @Classical.epsilon _ (ne2 neW (ne2 neA (ne2 neI (ne2 neS (ne2 neI (ne2 neI (ne2 neI (ne2 neI (ne2 neI (ne2 neI (ne2 neI (ne2 neI (ne2 neI (ne2 neI neI)))))))))))))) fun x => ¬ pX x
def w : World := cX.1
def A : Around := cX.2.1
def E : Value → Shared → Prop := cX.2.2.1
def s : Shared := cX.2.2.2.1
def hb : Heap := cX.2.2.2.2.1
def C : Addr := cX.2.2.2.2.2.1
def f : Addr := cX.2.2.2.2.2.2.1
def I : Addr := cX.2.2.2.2.2.2.2.1
def l : Addr := cX.2.2.2.2.2.2.2.2.1
def D : Value → Prop := cX.2.2.2.2.2.2.2.2.2.1
def c : Value → Value → Int := cX.2.2.2.2.2.2.2.2.2.2.1
def num : Value → Int := cX.2.2.2.2.2.2.2.2.2.2.2.1
def vs : List Value := cX.2.2.2.2.2.2.2.2.2.2.2.2.1
def dv : Value := cX.2.2.2.2.2.2.2.2.2.2.2.2.2.1
def Q : Value → Shared → Prop := cX.2.2.2.2.2.2.2.2.2.2.2.2.2.2
theorem pfX0 : stX0 w A E s hb C f I l D c num vs dv Q := by
  intro W K hr hn hD hbI kb hl hlI hit h0 h1
  have hname : (toString "min" ++ toString ".loop" : String) = "min.loop" := by decide
  obtain ⟨oI, hoI, hcI, hdI⟩ := id hit
  refine kmk_tree PySem.F.kind_min PySem.F.plain_min PySem.F.entry_min (min_args _ _ _) ?_
  show wpAny _ A.in1 (Builtin.Builtins.bindParams "min" ["key", "default"] 0 ⟨[], [(Str.ofString "default", dv), (Str.ofString "key", .ref C)]⟩ >>= _) _ _ s
  refine wpAny_bind (wpAny_of_eq (show Builtin.Builtins.bindParams "min" ["key", "default"] 0 ⟨[], [(Str.ofString "default", dv), (Str.ofString "key", .ref C)]⟩ = pure [some (.ref C), some dv] from rfl) ?_)
  refine wpAny_bind (wpAny_pure ?_)
  refine wpAny_bind (wpAny_pyIter_listiter hit ?_)
  refine wpAny_bind (wpAny_newList ?_ (Nat.zero_le _))
  rw [hname]
  have hnS : s.heap.get? s.heap.objs.size = none := Heap.get?_none_of_le (Nat.le_refl _)
  have kS : Kp s.heap (s.heap.push (seqObj "list" #[] 0)) := Kp.push _ _
  have hIS : I ≠ s.heap.objs.size := Nat.ne_of_lt (Heap.lt_size hoI)
  have hlS : l ≠ s.heap.objs.size := Nat.ne_of_lt hl.lt
  have gS : (s.heap.push (seqObj "list" #[] 0)).get? s.heap.objs.size = some (seqObj "list" #[] 0) := Heap.get?_push_size _ rfl
  have off : ∀ {h' : Heap}, KpB [I, s.heap.objs.size] (s.heap.push (seqObj "list" #[] 0)) h' → KpB [I] s.heap h' := fun k x o hx e => k x o (fun q => (List.mem_cons.mp q).elim (fun q => hx (List.mem_singleton.mpr q)) (fun q => by rw [List.mem_singleton.mp q, hnS] at e; cases e)) (kS _ _ e)
  refine wpAny_pure ⟨plainId_quiet PySem.F.plain_min_loop _, ?_⟩
  refine codeAny_builtin PySem.F.entry_min_loop ?_
  rw [Around.under_plainId PySem.F.plain_min_loop _]
  show wpAny _ A.in1 (seqItems? (.ref _) >>= _) _ _ { s with heap := s.heap.push (seqObj "list" #[] 0) }
  refine wpAny_bind (wpAny_seqItems gS rfl ?_)
  show wpAny _ A.in1 (tryCatch (pyNext (.ref I)) _ >>= _) _ _ _
  by_cases hne : vs = []
  · refine wpAny_bind (wpAny_tryCatch (wpAny_pyNext_list_end hr.han ⟨oI, kS _ _ hoI, hcI, hdI⟩ (hl.kp kS).il (by simp [hne]) fun h' k' => ?_))
    refine wpAny_bind (wpAny_rule (wpAny_pure ?_))
    exact h0 hne _ _ (off (ExtBut.kpB k' (.head _)))
  · have hz : 0 < vs.length := List.length_pos_iff.mpr hne
    have hv : vs[0]? = some vs[0] := List.getElem?_eq_getElem hz
    generalize vs[0] = v at hv
    refine wpAny_bind (wpAny_tryCatch (wpAny_pyNext_list_item ⟨oI, kS _ _ hoI, hcI, hdI⟩ (hl.kp kS).il (by simpa using hv) fun h' e' s' => ?_))
    obtain ⟨oI', hoI', hcI', hdI'⟩ := id e'
    have k1 : KpB [I] s.heap h' := off (sbKpB s' (.head _))
    have kb1 : Kp hb h' := KpB.kpOf kb k1 (by simpa using hbI)
    show wpAny _ A.in1 (tryCatch (holding [v] (call (.ref C) [v])) _ >>= _) _ _ _
    refine wpAny_bind (wpAny_tryCatch (wpAny_holding (W.new (s := { s with heap := h' }) hr.in1 kb1 (fun o h2 tk2 k2 K2 _ => ?_))))
    have hS2 := k2 _ _ ((s'.2 _ hIS.symm).trans gS)
    have s1 := Heap.SameBut.update h2 s.heap.objs.size (Obj.mapSeq fun _ => #[v, .ref o])
    have hc2 := get?_update_seq hS2 fun _ => #[v, Value.ref o]
    show wpAny _ A.in1 (updateSeq s.heap.objs.size (fun _ => #[v, .ref o]) >>= _) _ _ _
    refine wpAny_bind (wpAny_updateSeq hS2 rfl ?_)
    rw [hname]
    have kk : KpB [I, s.heap.objs.size] (s.heap.push (seqObj "list" #[] 0)) h2 := (sbKpB s' (.head _)).trans (k2.but _)
    exact wpAny_pure ⟨plainId_quiet PySem.F.plain_min_loop _, min_loop (s := { s with heap := s.heap.push (seqObj "list" #[] 0) }) (num := num) W K hr hn hD hbI (none_base kb hnS) hIS hlI hlS (kb.trans kS) (hl.kp kS) (fun vb h3 tk3 hB k3 => h1 vb h3 tk3 hne hB (off k3)) _ 0 _ _ v o _ rfl hz (kk.trans (sbKpB s1 (.tail _ (.head _)))) hc2 (K2.put s1 hS2 nofun hc2) ⟨oI', (s1.2 _ hIS).trans (k2 _ _ hoI'), hcI', hdI'⟩ (Bst.first hv)⟩
theorem pfX1 : stX1 w A E s hb C f I l D c num vs dv Q := by
  intro W K hr hn hD hbI kb hl hlI hit h0 h1
  have hname : (toString "max" ++ toString ".loop" : String) = "max.loop" := by decide
  obtain ⟨oI, hoI, hcI, hdI⟩ := id hit
  refine kmk_tree PySem.F.kind_max PySem.F.plain_max PySem.F.entry_max (max_args _ _ _) ?_
  show wpAny _ A.in1 (Builtin.Builtins.bindParams "max" ["key", "default"] 0 ⟨[], [(Str.ofString "default", dv), (Str.ofString "key", .ref C)]⟩ >>= _) _ _ s
  refine wpAny_bind (wpAny_of_eq (show Builtin.Builtins.bindParams "max" ["key", "default"] 0 ⟨[], [(Str.ofString "default", dv), (Str.ofString "key", .ref C)]⟩ = pure [some (.ref C), some dv] from rfl) ?_)
  refine wpAny_bind (wpAny_pure ?_)
  refine wpAny_bind (wpAny_pyIter_listiter hit ?_)
  refine wpAny_bind (wpAny_newList ?_ (Nat.zero_le _))
  rw [hname]
  have hnS : s.heap.get? s.heap.objs.size = none := Heap.get?_none_of_le (Nat.le_refl _)
  have kS : Kp s.heap (s.heap.push (seqObj "list" #[] 0)) := Kp.push _ _
  have hIS : I ≠ s.heap.objs.size := Nat.ne_of_lt (Heap.lt_size hoI)
  have hlS : l ≠ s.heap.objs.size := Nat.ne_of_lt hl.lt
  have gS : (s.heap.push (seqObj "list" #[] 0)).get? s.heap.objs.size = some (seqObj "list" #[] 0) := Heap.get?_push_size _ rfl
  have off : ∀ {h' : Heap}, KpB [I, s.heap.objs.size] (s.heap.push (seqObj "list" #[] 0)) h' → KpB [I] s.heap h' := fun k x o hx e => k x o (fun q => (List.mem_cons.mp q).elim (fun q => hx (List.mem_singleton.mpr q)) (fun q => by rw [List.mem_singleton.mp q, hnS] at e; cases e)) (kS _ _ e)
  refine wpAny_pure ⟨plainId_quiet PySem.F.plain_max_loop _, ?_⟩
  refine codeAny_builtin PySem.F.entry_max_loop ?_
  rw [Around.under_plainId PySem.F.plain_max_loop _]
  show wpAny _ A.in1 (seqItems? (.ref _) >>= _) _ _ { s with heap := s.heap.push (seqObj "list" #[] 0) }
  refine wpAny_bind (wpAny_seqItems gS rfl ?_)
  show wpAny _ A.in1 (tryCatch (pyNext (.ref I)) _ >>= _) _ _ _
  by_cases hne : vs = []
  · refine wpAny_bind (wpAny_tryCatch (wpAny_pyNext_list_end hr.han ⟨oI, kS _ _ hoI, hcI, hdI⟩ (hl.kp kS).il (by simp [hne]) fun h' k' => ?_))
    refine wpAny_bind (wpAny_rule (wpAny_pure ?_))
    exact h0 hne _ _ (off (ExtBut.kpB k' (.head _)))
  · have hz : 0 < vs.length := List.length_pos_iff.mpr hne
    have hv : vs[0]? = some vs[0] := List.getElem?_eq_getElem hz
    generalize vs[0] = v at hv
    refine wpAny_bind (wpAny_tryCatch (wpAny_pyNext_list_item ⟨oI, kS _ _ hoI, hcI, hdI⟩ (hl.kp kS).il (by simpa using hv) fun h' e' s' => ?_))
    obtain ⟨oI', hoI', hcI', hdI'⟩ := id e'
    have k1 : KpB [I] s.heap h' := off (sbKpB s' (.head _))
    have kb1 : Kp hb h' := KpB.kpOf kb k1 (by simpa using hbI)
    show wpAny _ A.in1 (tryCatch (holding [v] (call (.ref C) [v])) _ >>= _) _ _ _
    refine wpAny_bind (wpAny_tryCatch (wpAny_holding (W.new (s := { s with heap := h' }) hr.in1 kb1 (fun o h2 tk2 k2 K2 _ => ?_))))
    have hS2 := k2 _ _ ((s'.2 _ hIS.symm).trans gS)
    have s1 := Heap.SameBut.update h2 s.heap.objs.size (Obj.mapSeq fun _ => #[v, .ref o])
    have hc2 := get?_update_seq hS2 fun _ => #[v, Value.ref o]
    show wpAny _ A.in1 (updateSeq s.heap.objs.size (fun _ => #[v, .ref o]) >>= _) _ _ _
    refine wpAny_bind (wpAny_updateSeq hS2 rfl ?_)
    rw [hname]
    have kk : KpB [I, s.heap.objs.size] (s.heap.push (seqObj "list" #[] 0)) h2 := (sbKpB s' (.head _)).trans (k2.but _)
    exact wpAny_pure ⟨plainId_quiet PySem.F.plain_max_loop _, max_loop (s := { s with heap := s.heap.push (seqObj "list" #[] 0) }) (num := num) W K hr hn hD hbI (none_base kb hnS) hIS hlI hlS (kb.trans kS) (hl.kp kS) (fun vb h3 tk3 hB k3 => h1 vb h3 tk3 hne hB (off k3)) _ 0 _ _ v o _ rfl hz (kk.trans (sbKpB s1 (.tail _ (.head _)))) hc2 (K2.put s1 hS2 nofun hc2) ⟨oI', (s1.2 _ hIS).trans (k2 _ _ hoI'), hcI', hdI'⟩ (Bst.first hv)⟩
theorem allX (x : T) : pX x := eps (P := pX) ⟨pfX0, pfX1⟩
end N_call_min
theorem call_min {w : World} {A : Around} {E : Value → Shared → Prop} {s : Shared} {hb : Heap} {C f I l : Addr} {D : Value → Prop} {c : Value → Value → Int} {num : Value → Int} {vs : List Value} {dv : Value} {Q : Value → Shared → Prop} : N_call_min.stX0 w A E s hb C f I l D c num vs dv Q := (N_call_min.allX (w, A, E, s, hb, C, f, I, l, D, c, num, vs, dv, Q)).1
theorem call_max {w : World} {A : Around} {E : Value → Shared → Prop} {s : Shared} {hb : Heap} {C f I l : Addr} {D : Value → Prop} {c : Value → Value → Int} {num : Value → Int} {vs : List Value} {dv : Value} {Q : Value → Shared → Prop} : N_call_min.stX1 w A E s hb C f I l D c num vs dv Q := (N_call_min.allX (w, A, E, s, hb, C, f, I, l, D, c, num, vs, dv, Q)).2
section
variable {w : World} {A : Around} {E : Value → Shared → Prop} {s : Shared} {hb : Heap} {C f I S l : Addr} {D : Value → Prop} {c : Value → Value → Int} {num : Value → Int} {vs : List Value} {R : Result → Shared → Prop} {dv : Value}
end
end Mine
namespace Mine
section
variable {w : World} {A : Around} {E : Value → Shared → Prop} {s : Shared} {Q : Value → Shared → Prop}
variable {f cda : Addr} {name qual : Str} {params : Arguments} {body : List Stmt} {scope : Scope} {dV kV doc pm ct oc : Value} {an od : Option Addr} {osl : Array (Option Value)} {args : List Value} {binds : List (Str × Value)}
theorem callCell (X : KIn w s.heap) (ho : (dm.heap_1 w.params).lookup f = some ⟨oc, od, .func (fnX name qual params body scope [] dV kV doc pm an (.ref cda) ct), osl⟩) (hcd : codeIn (dm.heap_1 w.params) (.ref cda) qual = true) {n : Nat} (hr : Rm A n)
    (hbind : bindArgs (fnX name qual params body scope [] dV kV doc pm an (.ref cda) ct) ⟨args, []⟩ = pure binds)
    (hkind : ∀ x ∈ binds, scope.names.lookup x.1 = some .local ∨ (scope.names.lookup x.1 = some .cell ∧ ((cellsFrom (s.heap.objs.size + 1) scope.names []).lookup x.1).isSome = true))
    (h : ∀ L s₁, L = s.heap.objs.size → InCallC s L (bindL (envX qual scope L f (.ref cda) (cellsFrom (L + 1) scope.names [])).kindOf binds fun _ => none) (cellsFrom (L + 1) scope.names [])
        (bindC (envX qual scope L f (.ref cda) (cellsFrom (L + 1) scope.names [])).kindOf binds fun _ => none) s₁ →
      wpAny (MM w) (A.deeper (envX qual scope L f (.ref cda) (cellsFrom (L + 1) scope.names []))) (execs body (envX qual scope L f (.ref cda) (cellsFrom (L + 1) scope.names []))) (fun fl s' => Q (match fl with | .ret v => v | _ => .none) s') (fun _ _ => False) s₁)
    (hco : autoParam (scope.isCoroutine = false) tcR) (hgen : autoParam (scope.isGenerator = false) tcR) (hk : autoParam (scope.kind = .function) tcR)
    (hfn : autoParam ((f == 16 || f == 180) = false) tcR) (hcn : autoParam ((cda == 16 || cda == 180) = false) tcR) :
    wpAny (MM w) A (call (.ref f) args) Q E s := by
  refine wpAny_call (codeAny_call_cells hr.room (X _ _ hfn ho) rfl (nolimit_K X) (X.code hcd hcn) rfl hbind rfl hkind (fun s₁ I => ?_) hco hgen hk)
  exact wpAny_mono (h _ s₁ rfl I) (fun fl s' x => x) (fun _ _ x => x.elim)
end
theorem KCl.but {w : World} {h h' : Heap} {C L : Addr} {mycmp : Value} {m : Str → Option Value} (x : KCl w h C mycmp) (hL : h.Ns L m) (hm : m "__lt__" = none) (k : KpB [L] h h') : KCl w h' C mycmp := by
  obtain ⟨N, MD, mc, bT, tn, t, fl, sl, f0, f1, f2, f3, f4, f5, st, tk, n, a1, a2, a3, ⟨o, a4, a5⟩, m0, m1, m2, m3, m4, m5⟩ := x
  obtain ⟨oL, es, ep, e1, e2, _, e4⟩ := hL
  have g : ∀ a o, h.get? a = some o → (∀ es n, o.data ≠ .dict es n) → h'.get? a = some o := fun a o e hd => k a o (nin1 fun q => by rw [q, e1] at e; cases e; exact hd _ _ e2) e
  have mt : ∀ {i cl f}, Meth w h i cl f → Meth w h' i cl f := fun ⟨name, params, body, scope, doc, pm, c, ctv, qual, e, q, r⟩ =>
    ⟨name, params, body, scope, doc, pm, c, ctv, qual, e, g _ _ q (fun _ _ => nofun), by obtain ⟨a, o, vs, t, e1, e2, e3, r⟩ := r; exact ⟨a, o, vs, t, e1, g _ _ e2 (by rw [e3]; exact fun _ _ => nofun), e3, r⟩⟩
  refine ⟨N, MD, mc, bT, tn, t, fl, sl, f0, f1, f2, f3, f4, f5, st, tk, n, g _ _ a1 (fun _ _ => nofun), k _ _ (fun q => ?_) a2, g _ _ a3 (fun _ _ => nofun), ⟨o, g _ _ a4 (by rw [a5]; exact fun _ _ => nofun), a5⟩, mt m0, mt m1, mt m2, mt m3, mt m4, mt m5⟩
  cases q with
  | head =>
    rw [e1] at a2
    cases a2
    cases e2
    have := e4 "__lt__"
    rw [hm] at this
    cases this
  | tail _ q => cases q
theorem methK {w : World} {i : Nat} {x : Str × Arguments × List Stmt × Scope} {c : Value} {d : Option Addr} {fd : FuncData} {sl : Array (Option Value)} (L : (dm.heap_1 w.params).lookup 21 = some ⟨c, d, .func fd, sl⟩) (e : methOf fd i = some x) : methOf (fd21 w) i = some x := by
  unfold fd21; rw [L]; exact e
namespace N_ctk_spec
noncomputable def stX0 (w : World) (A : Around) (E : Value → Shared → Prop) (s : Shared) (Q : Value → Shared → Prop) (mycmp : Value) (n : Nat) : Prop := ∀ (X : KIn w s.heap) (h16 : s.heap.get? 16 = some (tabObj #[])) (hr : Rm A (n + 3)) (h : ∀ C h' tk, KpB [16] s.heap h' → KCl w h' C mycmp → (∃ ps, h'.get? 16 = some (tabObj ps)) → Q (.ref C) { s with heap := h', toks := tk }), wpAny (MM w) A (call (.ref 21) [mycmp]) Q E s
noncomputable abbrev T := World × Around × (Value → Shared → Prop) × Shared × (Value → Shared → Prop) × Value × Nat
noncomputable def pX (x : T) : Prop := stX0 x.1 x.2.1 x.2.2.1 x.2.2.2.1 x.2.2.2.2.1 x.2.2.2.2.2.1 x.2.2.2.2.2.2
noncomputable def cX : T := @Classical.epsilon _ (ne2 neW (ne2 neA (ne2 neI (ne2 neS (ne2 neI (ne2 neI neI)))))) fun x => ¬ pX x
def w : World := cX.1
def A : Around := cX.2.1
def E : Value → Shared → Prop := cX.2.2.1
def s : Shared := cX.2.2.2.1
def Q : Value → Shared → Prop := cX.2.2.2.2.1
def mycmp : Value := cX.2.2.2.2.2.1
def n : Nat := cX.2.2.2.2.2.2
theorem pfX0 : stX0 w A E s Q mycmp n := by
  intro X h16 hr h
  refine callCell X (by k_is) (by k_is) hr rfl (fun x hx => by rw [List.mem_singleton.mp hx]; exact .inr ⟨rfl, rfl⟩) (fun L s₁ eL I => ?_)
  obtain ⟨h₁, tk₁, rfl⟩ := I.toInCall.same
  have k1 : Kp s.heap h₁ := I.toInCall.keep
  have X1 := X.kp k1
  have hc := I.cell "mycmp" (L + 1) rfl
  have hL := I.toInCall.ns
  clear I
  refine wpAny_execs_cons ?_
  rw [arm_exec_ClassDef]
  refine wpAny_bind (wpAny_of_eq (a := []) rfl ?_)
  refine wpAny_bind (wpAny_standAt ?_)
  refine wpAny_bind ?_
  unfold buildClassGuard
  obtain ⟨mb, GB⟩ := bns_K X1
  refine wpAny_bind (wpAny_nsGet GB ?_)
  rw [X1.val GB (n := "__build_class__") (by k_is) rfl]
  refine wpAny_pure ?_
  refine wpAny_bind (wpAny_holding (wpAny_bind ?_))
  refine evalArgs_plain (spliced_cons (nmB X1 (by k_is) (by k_is) (spliced_nil ?_)))
  refine wpAny_bind (wpAny_standAt (wpAny_holding ?_))
  refine buildClass_K (c := 20) (mc := L + 1) (mycmp := mycmp) (n := n + 1) X1 (hr.deep _) ?_ (k1 _ _ h16) rfl rfl rfl rfl ?_ ?_ ?_ ?_ ?_ ?_
  · exact ⟨_, _, _, _, _, _, _, _, _, X1 20 _ rfl (by k_is), rfl, rfl, rfl, rfl, rfl, rfl, rfl, rfl, by decide⟩
  · kernel_rfl
  · exact hc
  · intro x hx D fr c v
    simp only [List.mem_cons, List.not_mem_nil, or_false] at hx
    rcases hx with rfl | rfl | rfl | rfl <;> kernel_rfl
  · intro D fr c
    kernel_rfl
  · clear hL hc GB X1
    intro D P c fr hb h' tk t0 v0 t2 t3 t4 t5 Xb Cb B0 R hR
    refine codeAny_body rfl rfl ?_
    refine wpAny_execs_cons (wpAny_Assign_Name (wpAny_Constant_str (Bd.store B0 rfl (by kernel_rfl) rfl (fun h2 B1 => ?_))))
    dsimp only
    refine wpAny_execs_cons (wpAny_Assign_Name (wpAny_List (args_cons (wpAny_Constant_str (args_nil ⟨szL, ?_⟩)))))
    have kp2 : Kp h2 (h2.push { cls := .type "list", data := .seq #[.str "obj" (tk + 1 + 1)] }) := fun _ _ e => Heap.get?_push_of_some _ e
    obtain ⟨B2, k2⟩ := (B1.kps kp2).base
    have hsl : (hideAll (h2.push { cls := .type "list", data := .seq #[.str "obj" (tk + 1 + 1)] }) [D, P]).get? h2.objs.size = some (listOf #[.str "obj" (tk + 1 + 1)] 0) := hideAll_get _ (Heap.get?_push_size _ rfl) (by
      intro m
      have hd := Heap.lt_size B1.d
      have hp := Heap.lt_size B1.p
      simp only [List.mem_cons, List.not_mem_nil, or_false] at m
      rcases m with m | m
      · rw [← m] at hd; exact Nat.lt_irrefl _ hd
      · rw [← m] at hp; exact Nat.lt_irrefl _ hp)
    refine Bd.store B2 rfl (by kernel_rfl) rfl (fun h3 B3 => ?_)
    dsimp only
    have X3 := Xb.kp k2
    have C3 := Cb.keeps k2
    revert hsl k2 B3 X3 C3
    generalize (hideAll (h2.push { cls := .type "list", data := .seq #[.str "obj" (tk + 1 + 1)] }) [D, P]) = hq
    generalize h2.objs.size = sl
    intro k2 hsl B3 X3 C3
    clear B2 B1 B0 kp2
    have B3 : Bd hq D P h3 [en w "__module__" t0 (.str "cpy313.functools" tk), en w "__qualname__" t2 (.str "cmp_to_key.<locals>.K" t3), en w "__firstlineno__" t4 (.int _ t5), en w "__slots__" (tk + 1 + 1 + 1) (.ref sl)] 4 #[] := B3
    have T3 : TrOk (#[] : Array Value) := ⟨trivial⟩
    refine wpAny_execs_cons (Bd.defn (clos := []) B3 X3 C3 T3 (by kernel_rfl) (by kernel_rfl) rfl rfl rfl (by intro v; kernel_rfl) (by kernel_rfl) rfl rfl rfl (fun hb0 hh0 f0 c0 doc0 pm0 ctv0 tA0 tB0 kk0 B4 g0 r0 T4 => ?_))
    dsimp only
    have B4 : Bd hb0 D P hh0 [en w "__module__" t0 (.str "cpy313.functools" tk), en w "__qualname__" t2 (.str "cmp_to_key.<locals>.K" t3), en w "__firstlineno__" t4 (.int _ t5), en w "__slots__" (tk + 1 + 1 + 1) (.ref sl), en w "__init__" tA0 (.ref f0)] 5 _ := B4
    have m0 : Meth w hb0 2 [] f0 := ⟨_, _, _, _, doc0, pm0, c0, ctv0, _, methK (by k_is) rfl, g0, r0⟩
    have X4 := X3.kp kk0
    have C4 := C3.keeps kk0
    clear g0 r0 B3
    refine wpAny_execs_cons (Bd.defn (clos := [(("mycmp" : Str), L + 1)]) B4 X4 C4 T4 (by kernel_rfl) (by kernel_rfl) rfl rfl rfl (by intro v; kernel_rfl) (by kernel_rfl) rfl rfl rfl (fun hb1 hh1 f1 c1 doc1 pm1 ctv1 tA1 tB1 kk1 B5 g1 r1 T5 => ?_))
    dsimp only
    have B5 : Bd hb1 D P hh1 [en w "__module__" t0 (.str "cpy313.functools" tk), en w "__qualname__" t2 (.str "cmp_to_key.<locals>.K" t3), en w "__firstlineno__" t4 (.int _ t5), en w "__slots__" (tk + 1 + 1 + 1) (.ref sl), en w "__init__" tA0 (.ref f0), en w "__lt__" tA1 (.ref f1)] 6 _ := B5
    have m1 : Meth w hb1 3 [(("mycmp" : Str), L + 1)] f1 := ⟨_, _, _, _, doc1, pm1, c1, ctv1, _, methK (by k_is) rfl, g1, r1⟩
    have X5 := X4.kp kk1
    have C5 := C4.keeps kk1
    clear g1 r1 B4
    refine wpAny_execs_cons (Bd.defn (clos := [(("mycmp" : Str), L + 1)]) B5 X5 C5 T5 (by kernel_rfl) (by kernel_rfl) rfl rfl rfl (by intro v; kernel_rfl) (by kernel_rfl) rfl rfl rfl (fun hb2 hh2 f2 c2 doc2 pm2 ctv2 tA2 tB2 kk2 B6 g2 r2 T6 => ?_))
    dsimp only
    have B6 : Bd hb2 D P hh2 [en w "__module__" t0 (.str "cpy313.functools" tk), en w "__qualname__" t2 (.str "cmp_to_key.<locals>.K" t3), en w "__firstlineno__" t4 (.int _ t5), en w "__slots__" (tk + 1 + 1 + 1) (.ref sl), en w "__init__" tA0 (.ref f0), en w "__lt__" tA1 (.ref f1), en w "__gt__" tA2 (.ref f2)] 7 _ := B6
    have m2 : Meth w hb2 4 [(("mycmp" : Str), L + 1)] f2 := ⟨_, _, _, _, doc2, pm2, c2, ctv2, _, methK (by k_is) rfl, g2, r2⟩
    have X6 := X5.kp kk2
    have C6 := C5.keeps kk2
    clear g2 r2 B5
    refine wpAny_execs_cons (Bd.defn (clos := [(("mycmp" : Str), L + 1)]) B6 X6 C6 T6 (by kernel_rfl) (by kernel_rfl) rfl rfl rfl (by intro v; kernel_rfl) (by kernel_rfl) rfl rfl rfl (fun hb3 hh3 f3 c3 doc3 pm3 ctv3 tA3 tB3 kk3 B7 g3 r3 T7 => ?_))
    dsimp only
    have B7 : Bd hb3 D P hh3 [en w "__module__" t0 (.str "cpy313.functools" tk), en w "__qualname__" t2 (.str "cmp_to_key.<locals>.K" t3), en w "__firstlineno__" t4 (.int _ t5), en w "__slots__" (tk + 1 + 1 + 1) (.ref sl), en w "__init__" tA0 (.ref f0), en w "__lt__" tA1 (.ref f1), en w "__gt__" tA2 (.ref f2), en w "__eq__" tA3 (.ref f3)] 8 _ := B7
    have m3 : Meth w hb3 5 [(("mycmp" : Str), L + 1)] f3 := ⟨_, _, _, _, doc3, pm3, c3, ctv3, _, methK (by k_is) rfl, g3, r3⟩
    have X7 := X6.kp kk3
    have C7 := C6.keeps kk3
    clear g3 r3 B6
    refine wpAny_execs_cons (Bd.defn (clos := [(("mycmp" : Str), L + 1)]) B7 X7 C7 T7 (by kernel_rfl) (by kernel_rfl) rfl rfl rfl (by intro v; kernel_rfl) (by kernel_rfl) rfl rfl rfl (fun hb4 hh4 f4 c4 doc4 pm4 ctv4 tA4 tB4 kk4 B8 g4 r4 T8 => ?_))
    dsimp only
    have B8 : Bd hb4 D P hh4 [en w "__module__" t0 (.str "cpy313.functools" tk), en w "__qualname__" t2 (.str "cmp_to_key.<locals>.K" t3), en w "__firstlineno__" t4 (.int _ t5), en w "__slots__" (tk + 1 + 1 + 1) (.ref sl), en w "__init__" tA0 (.ref f0), en w "__lt__" tA1 (.ref f1), en w "__gt__" tA2 (.ref f2), en w "__eq__" tA3 (.ref f3), en w "__le__" tA4 (.ref f4)] 9 _ := B8
    have m4 : Meth w hb4 6 [(("mycmp" : Str), L + 1)] f4 := ⟨_, _, _, _, doc4, pm4, c4, ctv4, _, methK (by k_is) rfl, g4, r4⟩
    have X8 := X7.kp kk4
    have C8 := C7.keeps kk4
    clear g4 r4 B7
    refine wpAny_execs_cons (Bd.defn (clos := [(("mycmp" : Str), L + 1)]) B8 X8 C8 T8 (by kernel_rfl) (by kernel_rfl) rfl rfl rfl (by intro v; kernel_rfl) (by kernel_rfl) rfl rfl rfl (fun hb5 hh5 f5 c5 doc5 pm5 ctv5 tA5 tB5 kk5 B9 g5 r5 T9 => ?_))
    dsimp only
    have B9 : Bd hb5 D P hh5 [en w "__module__" t0 (.str "cpy313.functools" tk), en w "__qualname__" t2 (.str "cmp_to_key.<locals>.K" t3), en w "__firstlineno__" t4 (.int _ t5), en w "__slots__" (tk + 1 + 1 + 1) (.ref sl), en w "__init__" tA0 (.ref f0), en w "__lt__" tA1 (.ref f1), en w "__gt__" tA2 (.ref f2), en w "__eq__" tA3 (.ref f3), en w "__le__" tA4 (.ref f4), en w "__ge__" tA5 (.ref f5)] 10 _ := B9
    have m5 : Meth w hb5 7 [(("mycmp" : Str), L + 1)] f5 := ⟨_, _, _, _, doc5, pm5, c5, ctv5, _, methK (by k_is) rfl, g5, r5⟩
    have X9 := X8.kp kk5
    have C9 := C8.keeps kk5
    clear g5 r5 B8
    refine wpAny_execs_cons (wpAny_Assign_Name (wpAny_Constant_none (Bd.store B9 (by kernel_rfl) (by kernel_rfl) rfl (fun h9 BA => ?_))))
    dsimp only
    refine wpAny_execs_nil ?_
    have Ball : Kp hb hb5 := Kp.trans k2 (Kp.trans kk0 (Kp.trans kk1 (Kp.trans kk2 (Kp.trans kk3 (Kp.trans kk4 kk5)))))
    exact hR hb5 h9 _ (fun i => [t0, tk, t2, t3, t4, t5, tk + 1 + 1 + 1, tA0, tA1, tA2, tA3, tA4, tA5, tB5].getD i 0) sl f0 f1 f2 f3 f4 f5 _ 0 _ _ Ball BA (kk5 _ _ (kk4 _ _ (kk3 _ _ (kk2 _ _ (kk1 _ _ (kk0 _ _ hsl))))))
      ⟨m0.kp (Kp.trans kk1 (Kp.trans kk2 (Kp.trans kk3 (Kp.trans kk4 kk5)))), m1.kp (Kp.trans kk2 (Kp.trans kk3 (Kp.trans kk4 kk5))), m2.kp (Kp.trans kk3 (Kp.trans kk4 kk5)), m3.kp (Kp.trans kk4 kk5), m4.kp kk5, m5⟩
  · intro C h2 tk2 kk KC p16
    refine wpAny_bind (wpAny_of_eq (a := Value.ref C) rfl ?_)
    refine wpAny_bind (wpAny_standAt ?_)
    have hL16 : L ∉ [16] := nin1 fun q => absurd (Heap.lt_size h16) (by rw [← eL, q]; exact Nat.lt_irrefl _)
    have hL2 : h2.Ns L _ := let ⟨o, es, ep, e, r⟩ := hL; ⟨o, es, ep, kk _ _ hL16 e, r⟩
    refine wpAny_bind (wpAny_bindName (wpAny_storeName_local rfl hL2 (fun h3 hn hs => wpAny_pure ?_) rfl))
    dsimp only
    refine wpAny_execs_cons (wpAny_Return_some (wpAny_Name (wpAny_loadName_local rfl rfl hn rfl ?_)))
    dsimp only
    refine h C h3 _ (fun b o hb e => (hs.2 b (fun q => ?_)).trans (kk _ _ hb (k1 _ _ e))) (KC.but hL2 rfl (SameBut.kpB hs)) (by obtain ⟨ps, e⟩ := p16; exact ⟨ps, (hs.2 16 (fun q => hL16 (q ▸ .head _))).trans e⟩)
    exact absurd (Heap.lt_size e) (by rw [q, ← eL]; exact Nat.lt_irrefl _)
theorem allX (x : T) : pX x := eps (P := pX) pfX0
end N_ctk_spec
theorem ctk_spec {w : World} {A : Around} {E : Value → Shared → Prop} {s : Shared} {Q : Value → Shared → Prop} {mycmp : Value} {n : Nat} : N_ctk_spec.stX0 w A E s Q mycmp n := (N_ctk_spec.allX (w, A, E, s, Q, mycmp, n))
end Mine
namespace Mine
section
variable {w : World} {A : Around} {E : Value → Shared → Prop} {s : Shared} {Q : Value → Shared → Prop}
variable {f cda : Addr} {name qual : Str} {params : Arguments} {body : List Stmt} {scope : Scope} {dV kV doc pm ct oc : Value} {an od : Option Addr} {osl : Array (Option Value)} {args : List Value} {kw : List (Str × Value)} {binds : List (Str × Value)}
theorem callCellB (X : KIn w s.heap) (ho : (dm.heap_1 w.params).lookup f = some ⟨oc, od, .func (fnX name qual params body scope [] dV kV doc pm an (.ref cda) ct), osl⟩) (hcd : codeIn (dm.heap_1 w.params) (.ref cda) qual = true) {n : Nat} (hr : Rm A n)
    (hbind : BindsTo s (fnX name qual params body scope [] dV kV doc pm an (.ref cda) ct) ⟨args, kw⟩ binds)
    (hkind : ∀ x ∈ binds, scope.names.lookup x.1 = some .local ∨ (scope.names.lookup x.1 = some .cell ∧ ((cellsFrom (s.heap.objs.size + 1) scope.names []).lookup x.1).isSome = true))
    (h : ∀ L s₁, L = s.heap.objs.size → InCallC s L (bindL (envX qual scope L f (.ref cda) (cellsFrom (L + 1) scope.names [])).kindOf binds fun _ => none) (cellsFrom (L + 1) scope.names [])
        (bindC (envX qual scope L f (.ref cda) (cellsFrom (L + 1) scope.names [])).kindOf binds fun _ => none) s₁ →
      wpAny (MM w) (A.deeper (envX qual scope L f (.ref cda) (cellsFrom (L + 1) scope.names []))) (execs body (envX qual scope L f (.ref cda) (cellsFrom (L + 1) scope.names []))) (fun fl s' => Q (match fl with | .ret v => v | _ => .none) s') (fun _ _ => False) s₁)
    (hco : autoParam (scope.isCoroutine = false) tcR) (hgen : autoParam (scope.isGenerator = false) tcR) (hk : autoParam (scope.kind = .function) tcR)
    (hfn : autoParam ((f == 16 || f == 180) = false) tcR) (hcn : autoParam ((cda == 16 || cda == 180) = false) tcR) :
    wpAny (MM w) A (call (.ref f) args kw) Q E s := by
  refine wpAny_call (codeAny_call_function hr.room (X _ _ hfn ho) rfl hco hgen rfl (X.code hcd hcn) (hbind _ _ _ _ ?_))
  refine wpAny_newFunctionEnv_cells hk hkind fun env he s' x => ?_
  subst he
  exact ⟨(nolimit_K X).keeps x.toInCall.keep, codeAny_func (wpAny_mono (h _ s' rfl x) (fun fl s' x => x) (fun _ _ x => x.elim))⟩
end
section
variable {w : World} {A : Around} {E : Value → Shared → Prop} {s : Shared} {h h₁ h' h₀ : Heap} {L c : Addr} {m : Str → Option Value} {ls : Led} {M : Model} {env : Env} {x : Str} {pos : Pos} {v : Value} {Q : Value → Shared → Prop}
theorem Lg.startC (k : Kp h h₁) (ns : h₁.Ns L m) (hL : h.get? L = none) (hat : ∀ p ∈ ls, ∃ o, h.get? p.1 = some o ∧ p.2 o) (nd : (ls.map (·.1)).Nodup) : Lg (hideAll h₁ (L :: ls.map (·.1))) L h₁ m ls :=
  ⟨ns, hide_kp _ _, hideAll_none _ (.head _), fun p hp => by obtain ⟨o, e, q⟩ := hat p hp; exact ⟨o, k _ _ e, q⟩, fun p hp => ⟨fun q => (by obtain ⟨o, e, _⟩ := hat p hp; rw [q, hL] at e; cases e), hideAll_none _ (.tail _ (List.mem_map_of_mem hp))⟩, nd⟩
theorem baseC {S : List Addr} {hb : Heap} (kb : Kp hb h) (k : Kp h h₁) (hL : h.get? L = none) (hn : ∀ a ∈ S, hb.get? a = none) : Kp hb (hideAll h₁ (L :: S)) :=
  hideKp (kb.trans k) (fun a ha => (List.mem_cons.mp ha).elim (fun q => by rw [q]; exact none_base kb hL) (hn a))
theorem finC {S : List Addr} (k : Kp h h₁) (hL : h.get? L = none) (k' : Kp (hideAll h₁ (L :: S)) h') : KpB S h h' := fun b o hb e => k' b o (hideAll_get _ (k _ _ e) (fun q => (List.mem_cons.mp q).elim (fun q => by rw [q, hL] at e; cases e) hb))
theorem cellC {S : List Addr} (hc : h₁.IsCell c (some v)) (hcL : c ≠ L) (hS : c ∉ S) : (hideAll h₁ (L :: S)).IsCell c (some v) := by obtain ⟨o, e, d⟩ := hc; exact ⟨o, hideAll_get _ e (fun q => (List.mem_cons.mp q).elim hcL hS), d⟩
theorem nmC (hv : h₀.IsCell c (some v)) (k : Kp h₀ s.heap) (h : Q v s) (hc : autoParam (env.cells.lookup x = some c) tcR) (hk : autoParam (env.scope.kind = .function) tcR) (hl : autoParam (env.kindOf x = some .cell) tcR) (hb : autoParam ((x == ("__debug__" : Str)) = false) tcD) :
    wpAny M A (eval (.Name x pos) env) Q E s := wpAny_Name (wpAny_loadName_cell hk hl hc (hv.keeps k) h) hb
theorem nmF (hv : h₀.IsCell c (some v)) (k : Kp h₀ s.heap) (h : Q v s) (hc : autoParam (env.cells.lookup x = some c) tcR) (hk : autoParam (env.scope.kind = .function) tcR) (hl : autoParam (env.kindOf x = some .free) tcR) (hb : autoParam ((x == ("__debug__" : Str)) = false) tcD) (hn : autoParam ((x == ("__classdict__" : Str)) = false) tcD) :
    wpAny M A (eval (.Name x pos) env) Q E s := wpAny_Name (wpAny_loadName_free hk hl hc (hv.keeps k) h hn) hb
theorem callWith_FK {f : Addr} {e : Expr} {rest : List Expr} {kws : List Keyword} (hall : (backToKw pos (keywordEach kws env)).all (·.1.isSome) = true)
    (h : wpAny M A (spliced (backTo pos (starEach (e :: rest) env))) (fun vs s₁ => wpAny M A (evalAll ((backToKw pos (keywordEach kws env)).map (·.2)))
      (fun ks s₂ => FnAt s₂.heap f ∧ wpAny M A (call (.ref f) vs (((backToKw pos (keywordEach kws env)).filterMap (·.1)).zip ks)) Q E s₂) E s₁) E s)
    (hplain : autoParam (((backTo pos (starEach (e :: rest) env)).any (·.1) || (backToKw pos (keywordEach kws env)).any (·.1.isNone)) = false) tcR) (he : autoParam (starEach (e :: rest) env = (false, eval e env) :: starEach rest env) tcR) :
    wpAny M A (callWith pos (.ref f) [] (backTo pos (starEach (e :: rest) env)) (backToKw pos (keywordEach kws env))) Q E s :=
  callWith_of (P := fun h => FnAt h f) hplain (fun _ x => x.keep) (evalArgs_kw2 hall h he)
theorem KCl.keep {C : Addr} {mycmp : Value} (x : KCl w h C mycmp) : ∃ k, (k = Keeper.frame ∨ k = Keeper.machine ∨ k = Keeper.boundFrame) ∧ Looks M h (keeperOf (.ref C)) k := by
  obtain ⟨N, MD, mc, bT, tn, t, fl, sl, f0, f1, f2, f3, f4, f5, st, tk, n, hC, _⟩ := x
  have L1 := (hfr_lk h C).trans hC
  refine keeps_K (K := hfr h) ?_ h (hfr_in (Kp.refl h))
  unfold keepIn
  dsimp only
  rw [L1]
  have e1 : specialIn (hfr h) (.ref C) "__call__" = some (some (.builtin "type.__call__")) := by
    unfold specialIn typeIn; dsimp only; rw [L1]; kernel_rfl
  rw [e1]
  simp
theorem callWith_C {C : Addr} {mycmp : Value} {e : Expr} {rest : List Expr} (h : wpAny M A (spliced (backTo pos (starEach (e :: rest) env))) (fun vs s₁ => KCl w s₁.heap C mycmp ∧ wpAny M A (call (.ref C) vs) Q E s₁) E s)
    (he : autoParam (starEach (e :: rest) env = (false, eval e env) :: starEach rest env) tcR) (hplain : autoParam ((backTo pos (starEach rest env)).any (·.1) = false) tcR) :
    wpAny M A (callWith pos (.ref C) [] (backTo pos (starEach (e :: rest) env)) []) Q E s := by
  rw [he] at h ⊢
  exact callWith_of (P := fun h => KCl w h C mycmp) (by show ((false || (backTo pos (starEach rest env)).any (·.1)) || false) = false; rw [hplain]; rfl) (fun _ x => x.keep) (evalArgs_plain h)
end
end Mine
namespace Mine
section
variable {w : World} {A : Around} {E : Value → Shared → Prop} {s' : Shared} {h₀ h h' B : Heap} {L e : Addr} {m : Str → Option Value} {ls : Led} {fr : List (Addr × Obj)} {env : Env} {outer : List Env} {X : String} {a0 : Value}
theorem again {Q : Unit → Shared → Prop} {l : List Env} {h1 : Heap} {k1 : Kp h' h1} (fl : Heap.FlyingW B l e (.type X) a0 h') (hs : s'.heap = h1)
    (k : ∀ h2, B.StaysIn h2 → h1.UpToSlots h2 → Q () { s' with heap := h2 }) : wpAny (MM w) A (setFlight (.ref e) none) Q E s' := by
  obtain ⟨f1, f2, f3, oe, vs, T, oT, ts, he, ⟨hcls, h0⟩, hd, h1', hnT, hTe, hT, hdT, h3⟩ := fl
  subst hs
  refine wpAny_setFlight_none (k1 _ _ he) hd h1' (k1 _ _ hT) hdT (Array.getElem?_eq_some_iff.mp h3).1 (k _ (fun b o hb => ?_) (fun b o hb hn => ?_))
  · rw [Heap.get?_update_other _ _ (fun q => by rw [q] at hnT; rw [hnT] at hb; cases hb)]
    exact k1 _ _ (f1 b o hb)
  · refine ⟨o.slots, ?_⟩
    rw [Heap.get?_update_other _ _ (fun q => ?_)]
    · exact hb
    · subst q
      rw [k1 _ _ hT] at hb
      cases hb
      exact hn _ hdT
theorem Lg.caught2 {Q : Flow → Shared → Prop} {b₀ : Stmt} {suite : List Stmt} {p1 p2 p3 p4 : Pos} {kk : Nat} (X0 : KIn w h₀) (F : Lg h₀ L h m (ls ++ frL fr)) (Fs : Frs outer fr) (hfr : A.frames = some (env :: outer)) (hf : env.frame = some L) (hk : env.scope.kind = .function) (hX : Heap.NewExc h s'.heap e "TypeError")
    (eg : env.globals = mainGlobals) (eb : env.builtins = builtinsNs) (k1 : env.kindOf "TypeError" = some .globalImplicit) (k2 : env.kindOf "AttributeError" = some .globalImplicit)
    (k : ∀ h2, Lg h₀ L h2 m (ls ++ frL fr) → wpAny (MM w) (A.mark (some (.ref e))) (execs (b₀ :: suite) env) Q (notedBy (MM w) (A.mark (some (.ref e))) env (cameBackBy (MM w) A env E)) { s' with heap := h2 }) :
    wpAny (MM w) A (noteFrame (.ref e) env) (fun _ s₂ => wpAny (MM w) A (setFlight (.ref e) none) (fun _ s₃ => wpAny (MM w) A (handleBy (.ref e) env [.ExceptHandler (some (.Tuple [.Name "TypeError" p1, .Name "AttributeError" p2] kk p3)) none (b₀ :: suite) p4]) Q E s₃) E s₂) E s' := by
  refine F.landed Fs hfr hf hk hX (fun h' a0 fl up => ?_)
  have X' : KIn w h' := X0.kp (fun b o e' => fl.1 b o (hideAll_get _ (F.keep b o e') (fun q => by
    cases q with
    | head => rw [F.nL] at e'; cases e'
    | tail _ q =>
      obtain ⟨p, hp, rfl⟩ := List.mem_map.mp q
      have := (F.off (p.1, upS p.2) (List.mem_append_right _ (List.mem_map_of_mem hp))).2
      rw [show (p.1, upS p.2).1 = p.1 from rfl] at this
      rw [this] at e'; cases e')))
  have s1 : isSubtype (.type "TypeError") (.type "TypeError") = pure true := by rw [isSubtype_type]; kernel_rfl
  have s2 : isSubtype (.type "TypeError") (.type "AttributeError") = pure false := by rw [isSubtype_type]; kernel_rfl
  refine wpAny_handleBy_tup2 (T1 := "TypeError") (T2 := "AttributeError") (X := "TypeError") (ex_type _ (.head _)).1 (ex_type _ (.head _)).2 (ex_type _ (.tail _ (.head _))).1 (ex_type _ (.tail _ (.head _))).2 s1 s2 ?_
  refine tupD (args_cons (nmB X' (by k_is) (by k_is) (args_cons (nmB X' (by k_is) (by k_is) (args_nil ⟨szL, fun t h1 kt nt ht => ?_⟩) eg eb hk k2)) eg eb hk k1))
  obtain ⟨ob, hob, hcb⟩ := fl.there
  refine ⟨t, rfl, ⟨_, ht, rfl, 0, rfl⟩, ⟨ob, kt _ _ hob, hcb⟩, ?_⟩
  rw [if_pos (by rfl)]
  refine again (k1 := kt) fl rfl (fun h2 st up2 => k h2 (F.slots Fs st ((up.trans (Heap.UpToSlots.of_keeps kt)).trans up2)))
end
end Mine
namespace Mine
theorem pick_upto {xs : List Value} {n : Int} (h : 0 ≤ n) : kms_pick xs none (some n) = xs.take n.toNat := by
  unfold kms_pick kms_lo kms_hi
  dsimp only
  rw [if_neg (by lia), List.drop_zero, Nat.sub_zero, kmk_take_min]
section
variable {w : World} {A : Around} {E : Value → Shared → Prop} {s : Shared} {env : Env} {Q : Value → Shared → Prop}
theorem il_kp {l : Addr} {h h' : Heap} {its : Array Value} (x : h.IsList l its) (k : Kp h h') : h'.IsList l its := by obtain ⟨o, e, r⟩ := x; exact ⟨o, k _ _ e, r⟩
theorem sliceI {value : Expr} {lower upper : Option Expr} {p pos : Pos}
    (h : wpAny (MM w) A (eval value env) (fun o s₁ => wpAny (MM w) A (evalPart lower env) (fun vl s₂ => wpAny (MM w) A (evalPart upper env) (fun vu s₃ => ∃ l xs lo hi, o = .ref l ∧ IsPart vl lo ∧ IsPart vu hi ∧ s₃.heap.IsList l (xs : List Value).toArray ∧ xs.length < 2 ^ 20 ∧
      ∀ D h', Kp s₃.heap h' → s₃.heap.get? D = none → PL h' D (kms_pick xs lo hi) → Q (.ref D) { s₃ with heap := h' }) E s₂) E s₁) E s) :
    wpAny (MM w) A (eval (.Subscript value (.Slice lower upper none p) pos) env) Q E s := by
  rw [eval_Subscript]
  refine wpAny_bind (wpAny_mono h (fun o s₁ h₁ => wpAny_bind (wpAny_holding (wpAny_Slice (wpAny_mono h₁ (fun vl s₂ h₂ => wpAny_mono h₂ (fun vu s₃ h₃ => ?_) fun _ _ x => x) fun _ _ x => x)))) fun _ _ x => x)
  obtain ⟨l, xs, lo, hi, rfl, pl, pu, hl, hz, k⟩ := h₃
  rw [evalPart_none]
  refine wpAny_pure (wpAny_bind (wpAny_standAt ?_))
  have kp := Kp.push s₃.heap { cls := .type "slice", data := .fields #[vl, vu, .none] }
  have hl' := il_kp hl kp
  have hT := Heap.IsList.typeIs (s := { s₃ with heap := s₃.heap.push { cls := .type "slice", data := .fields #[vl, vu, .none] } }) hl'
  have fin : wpAny (MM w) A (operate [.ref s₃.heap.objs.size, .ref l] (getItem (.ref l) (.ref s₃.heap.objs.size))) (fun r s₃ => wpAny (MM w) A (letTemporaryGo value (.ref l) r >>= fun _ => pure r) Q E s₃) E { s₃ with heap := s₃.heap.push { cls := .type "slice", data := .fields #[vl, vu, .none] } } := by
    refine wpAny_operating (wpAny_getItem_list_slice hl' (Heap.IsSliceOf.new ..) pl pu .none (by simp) (wpAny_bind (wpAny_letTemporaryGo (wpAny_pure ?_))) (by simp [sizeLine_eq]; lia))
    refine k _ _ (kp.trans (Kp.push _ _)) (Heap.get?_none_of_le (by rw [Heap.size_push]; exact Nat.le_succ _)) ⟨0, ?_⟩
    rw [← kms_pick_eq]
    exact Heap.get?_push_size _ rfl
  refine wpAny_bind ?_
  rw [getitemInPython_of_ne hT.not_modules]
  refine wpAny_bind (wpAny_specialOf hT list_getitem_lookup ?_)
  exact wpAny_pure (wpAny_bind fin)
theorem sliceL {value : Expr} {lower upper : Option Expr} {p pos : Pos}
    (h : wpAny (MM w) A (eval value env) (fun o s₁ => wpAny (MM w) A (evalPart lower env) (fun vl s₂ => wpAny (MM w) A (evalPart upper env) (fun vu s₃ => ∃ l xs lo hi, o = .ref l ∧ IsPart vl lo ∧ IsPart vu hi ∧ PL s₃.heap l xs ∧ xs.length < 2 ^ 20 ∧
      ∀ D h', Kp s₃.heap h' → s₃.heap.get? D = none → PL h' D (kms_pick xs lo hi) → Q (.ref D) { s₃ with heap := h' }) E s₂) E s₁) E s) :
    wpAny (MM w) A (eval (.Subscript value (.Slice lower upper none p) pos) env) Q E s := by
  refine sliceI (wpAny_mono h (fun o s₁ h₁ => wpAny_mono h₁ (fun vl s₂ h₂ => wpAny_mono h₂ (fun vu s₃ h₃ => ?_) fun _ _ x => x) fun _ _ x => x) fun _ _ x => x)
  obtain ⟨l, xs, lo, hi, e, p1, p2, hl, r⟩ := h₃
  exact ⟨l, xs, lo, hi, e, p1, p2, hl.il, r⟩
end

theorem obj_mro : mroOf (.type "object") = pure [.type "object"] := by rw [mroOf_type]; kernel_rfl
theorem obj_lookup : typeLookup (.type "object") "__new__" = pure (some (.builtin "object.__new__")) := by rw [typeLookup_type, builtinLookup_eq_fast]; kernel_rfl
theorem obj_init : Slot "object" "__init__" "object.__init__" :=
  .of (owner := "object") (n := "__init__") (by rw [typeLookup_type, builtinLookup_eq_fast]; kernel_rfl) (by decide +kernel) (by decide +kernel) (by decide +kernel)
    (by first | exact .inl (by decide +kernel) | exact .inr (by decide +kernel)) (by rw [isSubtype_type]; kernel_rfl)
theorem obj_called : TypeCalled "object" "object.__new__" "object.__init__" :=
  ⟨by decide +kernel, by decide +kernel, ⟨_, _, obj_mro⟩, madeBy_type obj_mro obj_lookup (by decide +kernel), by decide +kernel, by rw [isSubtype_type]; kernel_rfl, obj_init⟩
theorem obj_meets : Meets (Builtin.«object.__new__» ⟨[.type "object"], []⟩) (fun _ R s => R (.ok (.ret (.ref s.heap.objs.size))) { s with heap := s.heap.push { cls := .type "object", data := .plain } }) :=
  .of_wp fun prog w A R s h => by
    have e1 : Bind.madeHere "object.__new__" (.type "object") = pure () := by kernel_rfl
    have e2 : isType (.type "object") = pure true := by kernel_rfl
    unfold Builtin.«object.__new__»
    refine wpAny_bind (wpAny_of_eq e2 ?_)
    repeat (first | exact ⟨_, rfl, h⟩ | wp_step)
section
variable {w : World} {A : Around} {E : Value → Shared → Prop} {s : Shared} {Q : Value → Shared → Prop}
theorem call_object (h : ∀ o h', Kp s.heap h' → s.heap.get? o = none → h'.get? o = some { cls := .type "object", data := .plain } → Q (.ref o) { s with heap := h' }) : wpAny (MM w) A (call (.type "object") []) Q E s := by
  refine callType_meets (Q₁ := fun obj s₁ => s₁.TypeIs obj "object" ∧ Q obj s₁) obj_called (by kernel_rfl) (by kernel_rfl) PySem.F.entry_object_new F.entry_object_init obj_meets ?_ (fun obj s₁ hq => ⟨hq.1, by unfold argsOk; kernel_rfl, _, .of_wp (S := fun _ R s => R (.ok (.ret .none)) s) (fun prog w A R s hs => wpAny_pure ⟨_, rfl, hs⟩), rfl, hq.2⟩)
  exact ⟨⟨_, Heap.get?_push_size _ rfl, rfl⟩, h _ _ (Kp.push _ _) (Heap.get?_none_of_le (Nat.le_refl _)) (Heap.get?_push_size _ rfl)⟩
end
end Mine
namespace Mine
theorem Lg.perm {h₀ h : Heap} {L : Addr} {m : Str → Option Value} {ls ls' : Led} (F : Lg h₀ L h m ls) (p : ls.Perm ls') : Lg h₀ L h m ls' :=
  ⟨F.ns, F.keep, F.nL, fun q hq => F.at_ q (p.mem_iff.mpr hq), fun q hq => F.off q (p.mem_iff.mpr hq), (p.map _).nodup_iff.mp F.nd⟩
theorem hideMono {S : List Addr} {h h' : Heap} (k : KpB S h h') : Kp (hideAll h S) (hideAll h' S) := fun b o e => by
  have hb : b ∉ S := fun q => by rw [hideAll_none _ q] at e; cases e
  exact hideAll_get _ (k b o hb (of_hideAll _ e)) hb
noncomputable def Tups (h : Heap) (C : Addr) (vs : List Value) (x0 st : Int) (xs : List Value) : Prop := ∀ (i : Nat) (v : Value), xs[i]? = some v → ∃ r, vs[i]? = some r ∧ TupAt h C v r (x0 + (i : Int) * st)
theorem Tups.kp {h h' : Heap} {C : Addr} {vs xs : List Value} {x0 st : Int} (x : Tups h C vs x0 st xs) (k : Kp h h') : Tups h' C vs x0 st xs := fun i v e => by obtain ⟨r, a, b⟩ := x i v e; exact ⟨r, a, b.kp k⟩
inductive ZI (s : Shared) (hB0 : Heap) (Cf z TI TO i1 J l D C : Addr) (vs : List Value) (x0 st N : Int) (ls : Led) (n : Nat) : Shared → Prop
  | mk {h : Heap} {tk : Nat} {mC : Str → Option Value} {hB : Heap} {xs : List Value} (F : Lg hB Cf h mC ((z, isZ TI TO .none) :: (TO, isPr) :: (i1, isRI (x0 + xs.length * st) (N - xs.length) st) :: (J, isLI l xs.length) :: (D, isL xs) :: ls))
    (kB : Kp hB0 hB) (tu : Tups hB C vs x0 st xs) (hj : n + xs.length = vs.length) (hN : xs.length = 0 ∨ (xs.length : Int) ≤ N) : ZI s hB0 Cf z TI TO i1 J l D C vs x0 st N ls n { s with heap := h, toks := tk }
section
variable {w : World} {A : Around} {s : Shared} {R : Result → Shared → Prop} {hb hB0 : Heap} {Cf z TI TO i1 J l Dl C kc f : Addr} {D : Value → Prop} {c : Value → Value → Int} {vs : List Value} {x0 st N : Int} {ls : Led} {envC : Env} {iter : Expr} {scope : Scope} {pos p1 p2 p3 p4 p5 p6 q1 q2 q3 : Pos} {k1 k2 : Nat}
end
namespace N_zipComp
noncomputable def stX0 (w : World) (A : Around) (s : Shared) (R : Result → Shared → Prop) (hb hB0 : Heap) (Cf z TI TO i1 J l Dl C kc f : Addr) (D : Value → Prop) (c : Value → Value → Int) (vs : List Value) (x0 st N : Int) (ls : Led) (envC : Env) (iter : Expr) (scope : Scope) (pos p1 p2 p3 p4 p5 p6 q1 q2 q3 : Pos) (k1 k2 n : Nat) (s' : Shared) : Prop := ∀ (W : KW w hb C f D c) (hr : Rm A 8) (kb : Kp hb hB0) (pr : IsPair hB0 TI (.ref i1) (.ref J)) (hl : PL hB0 l vs) (hc : hB0.IsCell kc (some (.ref C))) (h60 : vs.length < 60) (eL : envC.locals = Cf) (ek : envC.scope.kind = .function) (ei : envC.kindOf "i" = some .local) (ee : envC.kindOf "elem" = some .local) (ec : envC.kindOf "key" = some .cell) (el : envC.cells.lookup (Str.ofString "key") = some kc) (h : ∀ h' tk mC hB xs P, Lg hB Cf h' mC ((J, P) :: (Dl, isL xs) :: ls) → Kp hB0 hB → Tups hB C vs x0 st xs → xs.length = min vs.length N.toNat → (P = isLI l xs.length ∨ P = isLX ∧ xs.length = vs.length) → R (.ok .next) { s with heap := h', toks := tk }) (I : ZI s hB0 Cf z TI TO i1 J l Dl C vs x0 st N ls n s'), codeAny (MM w) A (.compLoop (.ListComp (.Tuple [.Call (.Name "key" p1) [.Name "elem" p2] [] p3, .Name "i" p4, .Name "elem" p5] k1 p6) [⟨.Tuple [.Name "i" q1, .Name "elem" q2] k2 q3, iter, [], 0⟩] scope pos) 0 (.ref z) (.ref Dl) envC) R s'
noncomputable abbrev T := World × Around × Shared × (Result → Shared → Prop) × Heap × Heap × Addr × Addr × Addr × Addr × Addr × Addr × Addr × Addr × Addr × Addr × Addr × (Value → Prop) × (Value → Value → Int) × (List Value) × Int × Int × Int × Led × Env × Expr × Scope × Pos × Pos × Pos × Pos × Pos × Pos × Pos × Pos × Pos × Pos × Nat × Nat × Nat × Shared
noncomputable def pX (x : T) : Prop := stX0 x.1 x.2.1 x.2.2.1 x.2.2.2.1 x.2.2.2.2.1 x.2.2.2.2.2.1 x.2.2.2.2.2.2.1 x.2.2.2.2.2.2.2.1 x.2.2.2.2.2.2.2.2.1 x.2.2.2.2.2.2.2.2.2.1 x.2.2.2.2.2.2.2.2.2.2.1 x.2.2.2.2.2.2.2.2.2.2.2.1 x.2.2.2.2.2.2.2.2.2.2.2.2.1 x.2.2.2.2.2.2.2.2.2.2.2.2.2.1 x.2.2.2.2.2.2.2.2.2.2.2.2.2.2.1 x.2.2.2.2.2.2.2.2.2.2.2.2.2.2.2.1 x.2.2.2.2.2.2.2.2.2.2.2.2.2.2.2.2.1 x.2.2.2.2.2.2.2.2.2.2.2.2.2.2.2.2.2.1 x.2.2.2.2.2.2.2.2.2.2.2.2.2.2.2.2.2.2.1 x.2.2.2.2.2.2.2.2.2.2.2.2.2.2.2.2.2.2.2.1 x.2.2.2.2.2.2.2.2.2.2.2.2.2.2.2.2.2.2.2.2.1 x.2.2.2.2.2.2.2.2.2.2.2.2.2.2.2.2.2.2.2.2.2.1 x.2.2.2.2.2.2.2.2.2.2.2.2.2.2.2.2.2.2.2.2.2.2.1 x.2.2.2.2.2.2.2.2.2.2.2.2.2.2.2.2.2.2.2.2.2.2.2.1 x.2.2.2.2.2.2.2.2.2.2.2.2.2.2.2.2.2.2.2.2.2.2.2.2.1 x.2.2.2.2.2.2.2.2.2.2.2.2.2.2.2.2.2.2.2.2.2.2.2.2.2.1 x.2.2.2.2.2.2.2.2.2.2.2.2.2.2.2.2.2.2.2.2.2.2.2.2.2.2.1 x.2.2.2.2.2.2.2.2.2.2.2.2.2.2.2.2.2.2.2.2.2.2.2.2.2.2.2.1 x.2.2.2.2.2.2.2.2.2.2.2.2.2.2.2.2.2.2.2.2.2.2.2.2.2.2.2.2.1 x.2.2.2.2.2.2.2.2.2.2.2.2.2.2.2.2.2.2.2.2.2.2.2.2.2.2.2.2.2.1 x.2.2.2.2.2.2.2.2.2.2.2.2.2.2.2.2.2.2.2.2.2.2.2.2.2.2.2.2.2.2.1 x.2.2.2.2.2.2.2.2.2.2.2.2.2.2.2.2.2.2.2.2.2.2.2.2.2.2.2.2.2.2.2.1 x.2.2.2.2.2.2.2.2.2.2.2.2.2.2.2.2.2.2.2.2.2.2.2.2.2.2.2.2.2.2.2.2.1 x.2.2.2.2.2.2.2.2.2.2.2.2.2.2.2.2.2.2.2.2.2.2.2.2.2.2.2.2.2.2.2.2.2.1 x.2.2.2.2.2.2.2.2.2.2.2.2.2.2.2.2.2.2.2.2.2.2.2.2.2.2.2.2.2.2.2.2.2.2.1 x.2.2.2.2.2.2.2.2.2.2.2.2.2.2.2.2.2.2.2.2.2.2.2.2.2.2.2.2.2.2.2.2.2.2.2.1 x.2.2.2.2.2.2.2.2.2.2.2.2.2.2.2.2.2.2.2.2.2.2.2.2.2.2.2.2.2.2.2.2.2.2.2.2.1 x.2.2.2.2.2.2.2.2.2.2.2.2.2.2.2.2.2.2.2.2.2.2.2.2.2.2.2.2.2.2.2.2.2.2.2.2.2.1 x.2.2.2.2.2.2.2.2.2.2.2.2.2.2.2.2.2.2.2.2.2.2.2.2.2.2.2.2.2.2.2.2.2.2.2.2.2.2.1 x.2.2.2.2.2.2.2.2.2.2.2.2.2.2.2.2.2.2.2.2.2.2.2.2.2.2.2.2.2.2.2.2.2.2.2.2.2.2.2.1 x.2.2.2.2.2.2.2.2.2.2.2.2.2.2.2.2.2.2.2.2.2.2.2.2.2.2.2.2.2.2.2.2.2.2.2.2.2.2.2.2
noncomputable def cX : T := @Classical.epsilon _ (ne2 neW (ne2 neA (ne2 neS (ne2 neI (ne2 neI (ne2 neI (ne2 neI (ne2 neI (ne2 neI (ne2 neI (ne2 neI (ne2 neI (ne2 neI (ne2 neI (ne2 neI (ne2 neI (ne2 neI (ne2 neI (ne2 neI (ne2 neI (ne2 neI (ne2 neI (ne2 neI (ne2 neI (ne2 neI (ne2 neI (ne2 neI (ne2 neI (ne2 neI (ne2 neI (ne2 neI (ne2 neI (ne2 neI (ne2 neI (ne2 neI (ne2 neI (ne2 neI (ne2 neI (ne2 neI (ne2 neI neS)))))))))))))))))))))))))))))))))))))))) fun x => ¬ pX x
def w : World := cX.1
def A : Around := cX.2.1
def s : Shared := cX.2.2.1
def R : Result → Shared → Prop := cX.2.2.2.1
def hb : Heap := cX.2.2.2.2.1
def hB0 : Heap := cX.2.2.2.2.2.1
def Cf : Addr := cX.2.2.2.2.2.2.1
def z : Addr := cX.2.2.2.2.2.2.2.1
def TI : Addr := cX.2.2.2.2.2.2.2.2.1
def TO : Addr := cX.2.2.2.2.2.2.2.2.2.1
def i1 : Addr := cX.2.2.2.2.2.2.2.2.2.2.1
def J : Addr := cX.2.2.2.2.2.2.2.2.2.2.2.1
def l : Addr := cX.2.2.2.2.2.2.2.2.2.2.2.2.1
def Dl : Addr := cX.2.2.2.2.2.2.2.2.2.2.2.2.2.1
def C : Addr := cX.2.2.2.2.2.2.2.2.2.2.2.2.2.2.1
def kc : Addr := cX.2.2.2.2.2.2.2.2.2.2.2.2.2.2.2.1
def f : Addr := cX.2.2.2.2.2.2.2.2.2.2.2.2.2.2.2.2.1
def D : Value → Prop := cX.2.2.2.2.2.2.2.2.2.2.2.2.2.2.2.2.2.1
def c : Value → Value → Int := cX.2.2.2.2.2.2.2.2.2.2.2.2.2.2.2.2.2.2.1
def vs : List Value := cX.2.2.2.2.2.2.2.2.2.2.2.2.2.2.2.2.2.2.2.1
def x0 : Int := cX.2.2.2.2.2.2.2.2.2.2.2.2.2.2.2.2.2.2.2.2.1
def st : Int := cX.2.2.2.2.2.2.2.2.2.2.2.2.2.2.2.2.2.2.2.2.2.1
def N : Int := cX.2.2.2.2.2.2.2.2.2.2.2.2.2.2.2.2.2.2.2.2.2.2.1
def ls : Led := cX.2.2.2.2.2.2.2.2.2.2.2.2.2.2.2.2.2.2.2.2.2.2.2.1
def envC : Env := cX.2.2.2.2.2.2.2.2.2.2.2.2.2.2.2.2.2.2.2.2.2.2.2.2.1
def iter : Expr := cX.2.2.2.2.2.2.2.2.2.2.2.2.2.2.2.2.2.2.2.2.2.2.2.2.2.1
def scope : Scope := cX.2.2.2.2.2.2.2.2.2.2.2.2.2.2.2.2.2.2.2.2.2.2.2.2.2.2.1
def pos : Pos := cX.2.2.2.2.2.2.2.2.2.2.2.2.2.2.2.2.2.2.2.2.2.2.2.2.2.2.2.1
def p1 : Pos := cX.2.2.2.2.2.2.2.2.2.2.2.2.2.2.2.2.2.2.2.2.2.2.2.2.2.2.2.2.1
def p2 : Pos := cX.2.2.2.2.2.2.2.2.2.2.2.2.2.2.2.2.2.2.2.2.2.2.2.2.2.2.2.2.2.1
def p3 : Pos := cX.2.2.2.2.2.2.2.2.2.2.2.2.2.2.2.2.2.2.2.2.2.2.2.2.2.2.2.2.2.2.1
def p4 : Pos := cX.2.2.2.2.2.2.2.2.2.2.2.2.2.2.2.2.2.2.2.2.2.2.2.2.2.2.2.2.2.2.2.1
def p5 : Pos := cX.2.2.2.2.2.2.2.2.2.2.2.2.2.2.2.2.2.2.2.2.2.2.2.2.2.2.2.2.2.2.2.2.1
def p6 : Pos := cX.2.2.2.2.2.2.2.2.2.2.2.2.2.2.2.2.2.2.2.2.2.2.2.2.2.2.2.2.2.2.2.2.2.1
def q1 : Pos := cX.2.2.2.2.2.2.2.2.2.2.2.2.2.2.2.2.2.2.2.2.2.2.2.2.2.2.2.2.2.2.2.2.2.2.1
def q2 : Pos := cX.2.2.2.2.2.2.2.2.2.2.2.2.2.2.2.2.2.2.2.2.2.2.2.2.2.2.2.2.2.2.2.2.2.2.2.1
def q3 : Pos := cX.2.2.2.2.2.2.2.2.2.2.2.2.2.2.2.2.2.2.2.2.2.2.2.2.2.2.2.2.2.2.2.2.2.2.2.2.1
def k1 : Nat := cX.2.2.2.2.2.2.2.2.2.2.2.2.2.2.2.2.2.2.2.2.2.2.2.2.2.2.2.2.2.2.2.2.2.2.2.2.2.1
def k2 : Nat := cX.2.2.2.2.2.2.2.2.2.2.2.2.2.2.2.2.2.2.2.2.2.2.2.2.2.2.2.2.2.2.2.2.2.2.2.2.2.2.1
def n : Nat := cX.2.2.2.2.2.2.2.2.2.2.2.2.2.2.2.2.2.2.2.2.2.2.2.2.2.2.2.2.2.2.2.2.2.2.2.2.2.2.2.1
def s' : Shared := cX.2.2.2.2.2.2.2.2.2.2.2.2.2.2.2.2.2.2.2.2.2.2.2.2.2.2.2.2.2.2.2.2.2.2.2.2.2.2.2.2
theorem pfX0 : stX0 w A s R hb hB0 Cf z TI TO i1 J l Dl C kc f D c vs x0 st N ls envC iter scope pos p1 p2 p3 p4 p5 p6 q1 q2 q3 k1 k2 n s' := by
  intro W hr kb pr hl hc h60 eL ek ei ee ec el h I
  refine compLoopG (ZI s hB0 Cf z TI TO i1 J l Dl C vs x0 st N ls) ?_ n I
  rintro n s' ⟨F, kB, tu, hj, hN⟩
  rename_i h' tk mC hB xs
  have hl' := hl.kp kB
  have pr' : IsPair hB TI (.ref i1) (.ref J) := kB _ _ pr
  by_cases hend : N - xs.length ≤ 0 ∨ vs.length ≤ xs.length
  · refine F.zend pr' hl' hr.han hend (fun h₂ tk₂ P F₂ hP => ?_)
    refine h h₂ tk₂ _ hB xs P F₂ kB tu ?_ ?_
    · rcases hP with ⟨_, h1⟩ | ⟨_, h1⟩ <;> lia
    · rcases hP with ⟨rfl, _⟩ | ⟨rfl, h1⟩
      · exact .inl rfl
      · exact .inr ⟨rfl, by lia⟩
  · have h1 : 0 < N - xs.length := by lia
    have h2 : xs.length < vs.length := by lia
    have hv : vs[xs.length]? = some vs[xs.length] := List.getElem?_eq_getElem h2
    generalize vs[xs.length] = v at hv
    refine F.znext pr' h1 hl' hv (fun h₂ tk₂ t T F₂ hT hTn => ?_)
    dsimp only
    refine F₂.zgo (fun h₃ s₃ F₃ => ?_)
    have hTz : T ≠ z := fun q => by obtain ⟨o, e, _⟩ := F.get (.head _); rw [← q, hTn] at e; cases e
    have hT₃ := (s₃.2 T hTz).trans hT
    refine assign_Tuple_tuple hr.han ⟨_, hT₃, rfl, 0, rfl⟩ rfl rfl (fun h₄ k₄ => ?_)
    have F₄ := F₃.kp (kp_ext k₄)
    refine wpAny_assignInOrder_more (wpAny_assign_Name (F₄.st (fun h₅ F₅ => ?_) eL ek ei))
    refine wpAny_assignInOrder_more (wpAny_assign_Name (F₅.st (fun h₆ F₆ => ?_) eL ek ee))
    refine wpAny_assignInOrder_none ?_
    have kb₆ : Kp hb h₆ := (kb.trans kB).trans F₆.keep
    refine tupD (args_cons (Call_ (nmC (hc.keeps kB) F₆.keep (callWith_C (w := w) (mycmp := .ref f) (args_cons (F₆.nm rfl (args_nil ⟨W.k.kp kb₆, W.newS (hr.le (by decide)) kb₆ (fun o h₇ tk₇ k₇ K₇ n₇ => ?_)⟩) eL ek ee))) el ek ec)))
    have F₇ := F₆.kp k₇
    refine args_cons (F₇.nm (by rfl) (args_cons (F₇.nm (by rfl) (args_nil ⟨szL, fun t₈ h₈ k₈ n₈ t₈' => ?_⟩) eL ek ee)) eL ek ei)
    have F₈ := F₇.kp k₈
    refine appendL (F₈.pl (.tail _ (.tail _ (.tail _ (.tail _ (.head _)))))) (by lia) (fun h₉ l₉ s₉ => ?_)
    have F₉ := F₈.putL 4 rfl s₉ l₉
    have el' : (xs ++ [Value.ref t₈]).length = xs.length + 1 := by simp
    have e1 : x0 + (xs.length : Int) * st + st = x0 + ((xs ++ [Value.ref t₈]).length : Nat) * st := by rw [el', Int.natCast_add, Int.add_mul]; simp only [Int.natCast_one, Int.one_mul]; lia
    have e2 : N - (xs.length : Int) - 1 = N - ((xs ++ [Value.ref t₈]).length : Nat) := by rw [el']; lia
    have F₁₀ : Lg hB Cf h₉ _ ((z, isZ TI TO .none) :: (TO, isPr) :: (i1, isRI (x0 + xs.length * st + st) (N - xs.length - 1) st) :: (J, isLI l (xs.length + 1)) :: (Dl, isL (xs ++ [Value.ref t₈])) :: ls) := F₉
    rw [e1, e2, ← el'] at F₁₀
    obtain ⟨Fr, kr⟩ := F₁₀.rebase
    have hf := F₇.fr n₈
    refine ⟨n - 1, by lia, .mk Fr (kB.trans kr) (fun i u hu => ?_) (by rw [el']; lia) (.inr (by rw [el']; lia))⟩
    by_cases hi : i < xs.length
    · rw [List.getElem?_append_left hi] at hu
      exact (tu.kp kr) i u hu
    · have hi' : i = xs.length := by
        have := (List.getElem?_eq_some_iff.mp hu).1
        rw [el'] at this; lia
      subst hi'
      rw [List.getElem?_append_right (Nat.le_refl _), Nat.sub_self] at hu
      cases hu
      refine ⟨v, hv, t₈, o, t, rfl, hideAll_get _ ((s₉.2 t₈ (fun q => hf.2.2 _ (.tail _ (.tail _ (.tail _ (.tail _ (.head _))))) q.symm)).trans t₈') (fun q => ?_), (K₇ _ (fun a ha => ?_)).kp (hideMono ((k₈.but _).trans (sbKpB s₉ (by simp))))⟩
      · simp only [List.mem_cons, List.map_cons] at q
        rcases q with q | q | q | q | q | q | q
        · exact hf.2.1 q
        · exact hf.2.2 _ (.head _) q.symm
        · exact hf.2.2 _ (.tail _ (.head _)) q.symm
        · exact hf.2.2 _ (.tail _ (.tail _ (.head _))) q.symm
        · exact hf.2.2 _ (.tail _ (.tail _ (.tail _ (.head _)))) q.symm
        · exact hf.2.2 _ (.tail _ (.tail _ (.tail _ (.tail _ (.head _))))) q.symm
        · obtain ⟨p, hp, rfl⟩ := List.mem_map.mp q
          exact hf.2.2 p (.tail _ (.tail _ (.tail _ (.tail _ (.tail _ hp))))) rfl
      · rcases List.mem_cons.mp ha with rfl | ha
        · exact F₆.ns.lt
        · obtain ⟨p, hp, rfl⟩ := List.mem_map.mp ha
          have : ∃ P, (p.1, P) ∈ ((z, isZ TI TO .none) :: (TO, isPr) :: (i1, isRI (x0 + xs.length * st + st) (N - xs.length - 1) st) :: (J, isLI l (xs.length + 1)) :: (Dl, isL xs) :: ls : Led) := by
            simp only [List.mem_cons] at hp
            rcases hp with rfl | rfl | rfl | rfl | rfl | hp
            · exact ⟨_, .head _⟩
            · exact ⟨_, .tail _ (.head _)⟩
            · exact ⟨_, .tail _ (.tail _ (.head _))⟩
            · exact ⟨_, .tail _ (.tail _ (.tail _ (.head _)))⟩
            · exact ⟨_, .tail _ (.tail _ (.tail _ (.tail _ (.head _))))⟩
            · exact ⟨p.2, .tail _ (.tail _ (.tail _ (.tail _ (.tail _ hp))))⟩
          obtain ⟨P, hP⟩ := this
          obtain ⟨o', e', _⟩ := F₆.at_ _ hP
          exact Heap.lt_size e'
theorem allX (x : T) : pX x := eps (P := pX) pfX0
end N_zipComp
theorem zipComp {w : World} {A : Around} {s : Shared} {R : Result → Shared → Prop} {hb hB0 : Heap} {Cf z TI TO i1 J l Dl C kc f : Addr} {D : Value → Prop} {c : Value → Value → Int} {vs : List Value} {x0 st N : Int} {ls : Led} {envC : Env} {iter : Expr} {scope : Scope} {pos p1 p2 p3 p4 p5 p6 q1 q2 q3 : Pos} {k1 k2 n : Nat} {s' : Shared} : N_zipComp.stX0 w A s R hb hB0 Cf z TI TO i1 J l Dl C kc f D c vs x0 st N ls envC iter scope pos p1 p2 p3 p4 p5 p6 q1 q2 q3 k1 k2 n s' := (N_zipComp.allX (w, A, s, R, hb, hB0, Cf, z, TI, TO, i1, J, l, Dl, C, kc, f, D, c, vs, x0, st, N, ls, envC, iter, scope, pos, p1, p2, p3, p4, p5, p6, q1, q2, q3, k1, k2, n, s'))
section
variable {w : World} {A : Around} {s : Shared} {R : Result → Shared → Prop} {hb hB0 : Heap} {Cf z TI TO i1 J l Dl C kc f : Addr} {D : Value → Prop} {c : Value → Value → Int} {vs : List Value} {x0 st N : Int} {ls : Led} {envC : Env} {iter : Expr} {scope : Scope} {pos p1 p2 p3 p4 p5 p6 q1 q2 q3 : Pos} {k1 k2 : Nat}
end
end Mine
namespace Mine
section
variable {α β : Type} {lt : α → α → Bool} {d : α}
theorem hpfy_spec (S : SWO lt) : ∀ (i : Nat) (xs : List α), i ≤ xs.length → Hp lt d i xs → Hp lt d 0 (hpfyA lt lt d i xs) ∧ (hpfyA lt lt d i xs).Perm xs
  | 0, xs, _, h => ⟨h, List.Perm.refl _⟩
  | i + 1, xs, hi, h => by
    have e : xs.set i (xs.getD i d) = xs := by
      rw [List.getD_eq_getElem?_getD, List.getElem?_eq_getElem hi]
      exact List.set_getElem_self hi
    obtain ⟨a, b⟩ := sup_spec S hi e h
    obtain ⟨p, q⟩ := hpfy_spec S i (sup lt lt d (xs.getD i d) xs i) (by rw [b.length_eq]; exact Nat.le_of_lt hi) a
    exact ⟨p, q.trans b⟩
theorem hpfy_ok (S : SWO lt) (xs : List α) : Hp lt d 0 (hpfyA lt lt d (xs.length / 2) xs) ∧ (hpfyA lt lt d (xs.length / 2) xs).Perm xs := hpfy_spec S _ xs (Nat.div_le_self _ _) (Hp.big xs)
theorem rep_ok (S : SWO lt) {t x : α} {r : List α} (H : Hp lt d 0 (t :: r)) : Hp lt d 0 (sup lt lt d x ((t :: r).set 0 x) 0) ∧ (sup lt lt d x ((t :: r).set 0 x) 0).Perm (x :: r) :=
  sup_spec S (xs := x :: r) (Nat.zero_lt_succ _) rfl (fun i i0 hi hs => by
    have := H i i0 hi (Nat.zero_le _)
    match i, i0, hs with
    | 1, _, hs => exact absurd hs (by decide)
    | 2, _, hs => exact absurd hs (by decide)
    | i + 3, _, hs =>
      have e : (i + 3 - 1) / 2 = (i / 2) + 1 := by lia
      rw [e] at this ⊢
      exact this)
theorem Hp.congr {lt' : α → α → Bool} {xs : List α} (H : Hp lt d 0 xs) (h : ∀ u ∈ xs, ∀ v ∈ xs, lt' u v = lt u v) : Hp lt' d 0 xs := fun i i0 hi hs => by
  have m : ∀ k, k < xs.length → xs.getD k d ∈ xs := fun k hk => by rw [List.getD_eq_getElem?_getD, List.getElem?_eq_getElem hk]; exact List.getElem_mem hk
  rw [h _ (m i hi) _ (m _ (by lia))]
  exact H i i0 hi hs
structure Kept (B : β → β → Bool) (R : α → α → Bool) (rc : α → β) (vs : List β) (j : Nat) (ys : List α) : Prop where
  ex : ∃ dr, (ys.map rc ++ dr).Perm (vs.take j) ∧ ∀ u ∈ ys, ∀ d ∈ dr, B (rc u) d = true
  ag : ∀ u ∈ ys, ∀ v ∈ ys, R u v = B (rc u) (rc v)
variable {B : β → β → Bool} {R R' : α → α → Bool} {rc rc' : α → β} {vs : List β} {j : Nat} {ys r : List α} {t x : α} {e : β}
theorem Kept.top (K : Kept B R rc vs j (t :: r)) (nd : vs.Nodup) (tot : ∀ u v, u ∈ vs → v ∈ vs → u ≠ v → B u v = true ∨ B v u = true) (S : SWO (fun u v => R v u)) (H : Hp (fun u v => R v u) d 0 (t :: r)) : ∀ u ∈ r, R u t = true := by
  intro u hu
  obtain ⟨dr, p, _⟩ := K.ex
  have nd' : ((t :: r).map rc ++ dr).Nodup := p.nodup_iff.mpr ((List.take_sublist j vs).nodup nd)
  have n1 : rc u ≠ rc t := by
    rw [List.map_cons, List.cons_append, List.nodup_cons] at nd'
    exact fun q => nd'.1 (List.mem_append_left _ (q ▸ List.mem_map_of_mem hu))
  have mem : ∀ a ∈ t :: r, rc a ∈ vs := fun a ha => List.mem_of_mem_take (p.mem_iff.mp (List.mem_append_left _ (List.mem_map_of_mem ha)))
  obtain ⟨i, hi, e⟩ := List.mem_iff_getElem.mp hu
  have hroot := Hp.root S H (i + 1) (by simpa using hi)
  have e1 : (t :: r).getD (i + 1) d = u := by simp [List.getD_eq_getElem?_getD, hi, e]
  rw [e1] at hroot
  have hroot : R t u = false := hroot
  rw [K.ag t (.head _) u (.tail _ hu)] at hroot
  rw [K.ag u (.tail _ hu) t (.head _)]
  rcases tot _ _ (mem u (.tail _ hu)) (mem t (.head _)) n1 with q | q
  · exact q
  · rw [hroot] at q; cases q
theorem Kept.drop (K : Kept B R rc vs j (t :: r)) (S : SWO B) (hr : ∀ u ∈ r, R u t = true) (he : vs[j]? = some e) (hb : B (rc t) e = true) : Kept B R rc vs (j + 1) (t :: r) := by
  obtain ⟨dr, p, q⟩ := K.ex
  refine ⟨⟨dr ++ [e], ?_, fun u hu d hd => ?_⟩, K.ag⟩
  · rw [List.take_add_one, he, ← List.append_assoc]
    exact p.append_right _
  · rcases List.mem_append.mp hd with hd | hd
    · exact q u hu d hd
    · rw [List.mem_singleton.mp hd]
      cases hu with
      | head => exact hb
      | tail _ hu =>
        have := hr u hu
        rw [K.ag u (.tail _ hu) t (.head _)] at this
        exact S.tr this hb
theorem Kept.swap (K : Kept B R rc vs j (t :: r)) (S : SWO B) (hr : ∀ u ∈ r, R u t = true) (he : vs[j]? = some e) (hb : B e (rc t) = true) (hx : rc' x = e) (hrc : ∀ u ∈ r, rc' u = rc u) (hR : ∀ u ∈ r, ∀ v ∈ r, R' u v = R u v)
    (h1 : ∀ u ∈ r, R' u x = B (rc u) e) (h2 : ∀ u ∈ r, R' x u = B e (rc u)) (h3 : R' x x = B e e) (hp : ys.Perm (x :: r)) : Kept B R' rc' vs (j + 1) ys := by
  obtain ⟨dr, p, q⟩ := K.ex
  have em : (x :: r).map rc' = e :: r.map rc := by
    rw [List.map_cons, hx]
    exact congrArg _ (List.map_congr_left hrc)
  refine ⟨⟨rc t :: dr, ?_, fun u hu d hd => ?_⟩, fun u hu v hv => ?_⟩
  · rw [List.take_add_one, he]
    refine ((hp.map rc').append_right _).trans ?_
    rw [em]
    have p1 : (r.map rc ++ rc t :: dr).Perm (vs.take j) := List.perm_middle.trans p
    exact (List.Perm.cons e p1).trans (List.perm_append_singleton e _).symm
  · have hu' := hp.mem_iff.mp hu
    have key : ∀ w, (∀ u ∈ t :: r, B (rc u) w = true) → B (rc' u) w = true := fun w hw => by
      cases hu' with
      | head => rw [hx]; exact S.tr hb (hw t (.head _))
      | tail _ hu' => rw [hrc u hu']; exact hw u (.tail _ hu')
    cases hd with
    | head =>
      cases hu' with
      | head => rw [hx]; exact hb
      | tail _ hu' =>
        rw [hrc u hu', ← K.ag u (.tail _ hu') t (.head _)]
        exact hr u hu'
    | tail _ hd => exact key d (fun u hu => q u hu d hd)
  · have hu' := hp.mem_iff.mp hu
    have hv' := hp.mem_iff.mp hv
    cases hu' with
    | head =>
      cases hv' with
      | head => rw [hx]; exact h3
      | tail _ hv' => rw [hx, hrc v hv']; exact h2 v hv'
    | tail _ hu' =>
      cases hv' with
      | head => rw [hx, hrc u hu']; exact h1 u hu'
      | tail _ hv' => rw [hR u hu' v hv', hrc u hu', hrc v hv']; exact K.ag u (.tail _ hu') v (.tail _ hv')
theorem take_of {α : Type} {R : α → α → Prop} (as : ∀ a b, R a b → R b a → False) : ∀ (out dr ws : List α), ws.Perm (out ++ dr) → ws.Pairwise R → out.Pairwise R → (∀ a ∈ out, ∀ b ∈ dr, R a b) → out = ws.take out.length
  | [], dr, ws, _, _, _, _ => rfl
  | a :: out, dr, [], p, _, _, _ => absurd p.length_eq (by simp)
  | a :: out, dr, b :: ws, p, h1, h2, h3 => by
    by_cases e : a = b
    · subst e
      rw [List.length_cons, List.take_succ_cons, ← take_of as out dr ws (List.Perm.cons_inv p) (List.pairwise_cons.mp h1).2 (List.pairwise_cons.mp h2).2 (fun a ha => h3 a (.tail _ ha))]
    · have ha : a ∈ ws := by
        have := p.mem_iff.mpr (List.mem_cons_self (a := a) (l := out ++ dr))
        cases this with
        | head => exact absurd rfl e
        | tail _ q => exact q
      have hb : b ∈ out ++ dr := by
        have := p.mem_iff.mp (List.mem_cons_self (a := b) (l := ws))
        cases this with
        | head => exact absurd rfl e
        | tail _ q => exact q
      refine (as a b ?_ ((List.pairwise_cons.mp h1).1 a ha)).elim
      rcases List.mem_append.mp hb with hb | hb
      · exact (List.pairwise_cons.mp h2).1 b hb
      · exact h3 a (.head _) b hb
theorem Kept.fin (K : Kept B R rc vs j ys) (hj : vs.length ≤ j) (S : SWO B) {zs : List α} (hp : zs.Perm ys) (hs : zs.Pairwise fun u v => R u v = true) {ws : List β} (wp : ws.Perm vs) (wsd : ws.Pairwise fun u v => B u v = true) : zs.map rc = ws.take zs.length := by
  obtain ⟨dr, p, q⟩ := K.ex
  rw [List.take_of_length_le hj] at p
  have := take_of (R := fun u v => B u v = true) (fun a b h1 h2 => by rw [S.asym h1] at h2; cases h2) (zs.map rc) dr ws (wp.trans (p.symm.trans ((hp.map rc).symm.append_right _))) wsd ?_ ?_
  · rwa [List.length_map] at this
  · refine List.pairwise_map.mpr (hs.imp_of_mem fun ha hb h => ?_)
    rw [← K.ag _ (hp.mem_iff.mp ha) _ (hp.mem_iff.mp hb)]; exact h
  · intro a ha b hb
    obtain ⟨u, hu, rfl⟩ := List.mem_map.mp ha
    exact q u (hp.mem_iff.mp hu) b hb
end
end Mine
namespace Mine
noncomputable def cD (dir : Bool) (c : Value → Value → Int) : Value → Value → Int := fun u v => cond dir (c u v) (c v u)
noncomputable def sD (dir : Bool) (x : Int) : Int := cond dir x (-x)
noncomputable def dl (dir : Bool) (lt : Value → Value → Bool) : Value → Value → Bool := fun u v => cond dir (lt v u) (lt u v)
noncomputable def BD (dir : Bool) (c : Value → Value → Int) (num : Value → Int) : Value → Value → Bool := fun u v => lt2 (cD dir c) (u, num u) (v, num v)
noncomputable def RD (dir : Bool) (c : Value → Value → Int) (h : Heap) : Value → Value → Bool := fun u v => lt2 (cD dir c) (tRec h u, sD dir (tNum h u)) (tRec h v, sD dir (tNum h v))
section
variable {dir : Bool} {c : Value → Value → Int} {num : Value → Int} {h h' hB : Heap} {C : Addr} {D : Value → Prop} {vs ys r : List Value} {j : Nat} {ord ord' : Int} {t x e : Value}
theorem COk.cd (K : COk c) (dir : Bool) : COk (cD dir c) := by cases dir; exact K.flip; exact K
theorem COk.bd (K : COk c) : SWO (BD dir c num) := let S := (K.cd dir).lt2; ⟨fun a => S.irr _, fun h k => S.tr h k, fun h k => S.neg h k⟩
theorem COk.rd (K : COk c) (h : Heap) : SWO (RD dir c h) := let S := (K.cd dir).lt2; ⟨fun a => S.irr _, fun h k => S.tr h k, fun h k => S.neg h k⟩
theorem rd_eq (dir : Bool) (c : Value → Value → Int) (h : Heap) : (fun u v => RD dir c h v u) = dl dir (ltT c h) := by
  funext u v
  cases dir with
  | true => rfl
  | false =>
    have e : ∀ x y : Int, decide (-x < -y) = decide (y < x) := fun x y => decide_eq_decide.mpr (Int.neg_lt_neg_iff)
    show (decide (c (tRec h u) (tRec h v) < 0) || (!decide (c (tRec h v) (tRec h u) < 0) && decide (-tNum h v < -tNum h u))) = (decide (c (tRec h u) (tRec h v) < 0) || (!decide (c (tRec h v) (tRec h u) < 0) && decide (tNum h u < tNum h v)))
    rw [e]
theorem rd_at (dir : Bool) (c : Value → Value → Int) (h : Heap) (u v : Value) : RD dir c h v u = dl dir (ltT c h) u v := congrFun (congrFun (rd_eq dir c h) u) v
structure TS (dir : Bool) (hB : Heap) (C : Addr) (D : Value → Prop) (c : Value → Value → Int) (num : Value → Int) (vs : List Value) (j : Nat) (ord : Int) (ys : List Value) : Prop where
  isT : ∀ v ∈ ys, IsT hB C D v
  one : OneNo hB ys
  nb : ∀ v ∈ ys, sD dir (tNum hB v) < sD dir ord
  kp : Kept (BD dir c num) (RD dir c hB) (tRec hB) vs j ys
  hp : Hp (dl dir (ltT c hB)) .none 0 ys
theorem nd_num (hn : vs.Pairwise fun u v => num u < num v) : vs.Nodup := hn.imp fun {a b} h e => by rw [e] at h; exact Int.lt_irrefl _ h
theorem bd_tot (hn : vs.Pairwise fun u v => num u < num v) : ∀ u v, u ∈ vs → v ∈ vs → u ≠ v → BD dir c num u v = true ∨ BD dir c num v u = true := by
  intro u v hu hv ne
  refine lt2_tot (a := (u, num u)) (b := (v, num v)) ?_
  show num u ≠ num v
  obtain ⟨i, hi, rfl⟩ := List.mem_iff_getElem.mp hu
  obtain ⟨k, hk, rfl⟩ := List.mem_iff_getElem.mp hv
  rcases Nat.lt_trichotomy i k with q | q | q
  · exact Int.ne_of_lt (List.pairwise_iff_getElem.mp hn _ _ _ _ q)
  · subst q; exact absurd rfl ne
  · exact Int.ne_of_gt (List.pairwise_iff_getElem.mp hn _ _ _ _ q)
theorem later (hn : vs.Pairwise fun u v => num u < num v) (he : vs[j]? = some e) {u : Value} (hu : u ∈ vs.take j) : num u < num e := by
  obtain ⟨i, hi, rfl⟩ := List.mem_iff_getElem.mp hu
  obtain ⟨h1, rfl⟩ := List.getElem?_eq_some_iff.mp he
  rw [List.getElem_take]
  exact List.pairwise_iff_getElem.mp hn _ _ _ _ (by rw [List.length_take] at hi; exact Nat.lt_of_lt_of_le hi (Nat.min_le_left _ _))
theorem TS.mem (T : TS dir hB C D c num vs j ord ys) {u : Value} (hu : u ∈ ys) : tRec hB u ∈ vs.take j := by
  obtain ⟨dr, p, _⟩ := T.kp.ex
  exact p.mem_iff.mp (List.mem_append_left _ (List.mem_map_of_mem hu))
theorem TS.top (T : TS dir hB C D c num vs j ord (t :: r)) (K : COk c) (hn : vs.Pairwise fun u v => num u < num v) : ∀ u ∈ r, RD dir c hB u t = true :=
  T.kp.top (nd_num hn) (bd_tot hn) (K.rd hB).flip (by rw [rd_eq]; exact T.hp)
theorem TS.drop (T : TS dir hB C D c num vs j ord (t :: r)) (K : COk c) (hn : vs.Pairwise fun u v => num u < num v) (he : vs[j]? = some e) (hc : ¬ cD dir c e (tRec hB t) < 0) : TS dir hB C D c num vs (j + 1) ord (t :: r) :=
  ⟨T.isT, T.one, T.nb, T.kp.drop K.bd (T.top K hn) he (lt2_true.mpr (.inr ⟨hc, later hn he (T.mem (.head _))⟩)), T.hp⟩
theorem lt2_nums {c : Value → Value → Int} {a b : Value} {n m n' m' : Int} (h : n < m ↔ n' < m') : lt2 c (a, n) (b, m) = lt2 c (a, n') (b, m') := by
  unfold lt2; dsimp only; rw [decide_eq_decide.mpr h]
theorem TS.swap (T : TS dir hB C D c num vs j ord (t :: r)) (K : COk c) (hn : vs.Pairwise fun u v => num u < num v) (he : vs[j]? = some e) (hc : cD dir c e (tRec hB t) < 0) (k : Kp hB h) (hx : TupAt h C x e ord) (de : D e) (hq : ∃ q, e = .ref q) (ho : sD dir ord < sD dir ord') :
    (∀ v ∈ x :: t :: r, IsT h C D v) ∧ OneNo h (x :: t :: r) ∧ TS dir h C D c num vs (j + 1) ord' (sup (dl dir (ltT c h)) (dl dir (ltT c h)) .none x ((t :: r).set 0 x) 0) ∧ (sup (dl dir (ltT c h)) (dl dir (ltT c h)) .none x ((t :: r).set 0 x) 0).Perm (x :: r) := by
  have sm : ∀ u ∈ t :: r, tRec h u = tRec hB u ∧ tNum h u = tNum hB u := fun u hu => (T.isT u hu).same k
  have rdE : ∀ u ∈ t :: r, ∀ v ∈ t :: r, RD dir c h u v = RD dir c hB u v := fun u hu v hv => by unfold RD; rw [(sm u hu).1, (sm u hu).2, (sm v hv).1, (sm v hv).2]
  have sw : SWO (dl dir (ltT c h)) := by rw [← rd_eq]; exact (K.rd h).flip
  have hp1 : Hp (dl dir (ltT c h)) .none 0 (t :: r) := T.hp.congr (fun u hu v hv => by rw [← rd_at, ← rd_at]; exact rdE v hv u hu)
  obtain ⟨H, P⟩ := rep_ok (x := x) sw hp1
  have all1 : ∀ v ∈ x :: t :: r, IsT h C D v := fun v hv => by
    cases hv with
    | head => exact ⟨e, ord, hx, de⟩
    | tail _ hv => exact (T.isT v hv).kp k
  have nbx : ∀ v ∈ t :: r, sD dir (tNum h v) < sD dir (tNum h x) := fun v hv => by rw [(sm v hv).2, hx.num]; exact T.nb v hv
  have one1 : OneNo h (x :: t :: r) := fun u hu v hv q => by
    cases hu with
    | head =>
      cases hv with
      | head => rw [hx.rec]; obtain ⟨q, rfl⟩ := hq; exact ⟨q, rfl, rfl⟩
      | tail _ hv => have := nbx v hv; rw [q] at this; exact absurd this (Int.lt_irrefl _)
    | tail _ hu =>
      cases hv with
      | head => have := nbx u hu; rw [q] at this; exact absurd this (Int.lt_irrefl _)
      | tail _ hv =>
        rw [(sm u hu).2, (sm v hv).2] at q
        rw [(sm u hu).1, (sm v hv).1]
        exact T.one u hu v hv q
  have sub : ∀ v ∈ sup (dl dir (ltT c h)) (dl dir (ltT c h)) .none x ((t :: r).set 0 x) 0, v ∈ x :: t :: r := fun v hv => by
    have := P.mem_iff.mp hv
    cases this with
    | head => exact .head _
    | tail _ q => exact .tail _ (.tail _ q)
  refine ⟨all1, one1, ⟨fun v hv => all1 v (sub v hv), fun u hu v hv => one1 u (sub u hu) v (sub v hv), fun v hv => ?_, ?_, H⟩, P⟩
  · have := P.mem_iff.mp hv
    cases this with
    | head => rw [hx.num]; exact ho
    | tail _ q => rw [(sm v (.tail _ q)).2]; exact Int.lt_trans (T.nb v (.tail _ q)) ho
  · refine T.kp.swap (rc' := tRec h) (R' := RD dir c h) K.bd (T.top K hn) he (lt2_true.mpr (.inl hc)) hx.rec (fun u hu => (sm u (.tail _ hu)).1) (fun u hu v hv => rdE u (.tail _ hu) v (.tail _ hv)) (fun u hu => ?_) (fun u hu => ?_) ?_ P
    · unfold RD BD
      rw [hx.rec, hx.num, (sm u (.tail _ hu)).1, (sm u (.tail _ hu)).2]
      exact lt2_nums ⟨fun _ => later hn he (T.mem (.tail _ hu)), fun _ => T.nb u (.tail _ hu)⟩
    · unfold RD BD
      rw [hx.rec, hx.num, (sm u (.tail _ hu)).1, (sm u (.tail _ hu)).2]
      exact lt2_nums ⟨fun q => absurd (Int.lt_trans q (T.nb u (.tail _ hu))) (Int.lt_irrefl _), fun q => absurd (Int.lt_trans q (later hn he (T.mem (.tail _ hu)))) (Int.lt_irrefl _)⟩
    · rw [(K.rd h).irr, K.bd.irr]
theorem TS.init {xs : List Value} {st : Int} (K : COk c) (hn : vs.Pairwise fun u v => num u < num v) (hD : ∀ v ∈ vs, D v) (hV : ∀ v ∈ vs, ∃ q, v = .ref q) (T : Tups hB C vs 0 st xs) (hs : st = sD dir 1) (hl : xs.length ≤ vs.length) (ho : (xs.length : Int) ≤ sD dir ord) :
    (∀ v ∈ xs, IsT hB C D v) ∧ OneNo hB xs ∧ TS dir hB C D c num vs xs.length ord (hpfyA (dl dir (ltT c hB)) (dl dir (ltT c hB)) .none (xs.length / 2) xs) ∧ (hpfyA (dl dir (ltT c hB)) (dl dir (ltT c hB)) .none (xs.length / 2) xs).Perm xs := by
  have at_ : ∀ u ∈ xs, ∃ i : Nat, ∃ hi : i < vs.length, i < xs.length ∧ xs[i]? = some u ∧ IsT hB C D u ∧ tRec hB u = vs[i] ∧ sD dir (tNum hB u) = i := fun u hu => by
    obtain ⟨i, hi, rfl⟩ := List.mem_iff_getElem.mp hu
    obtain ⟨r, e, tu⟩ := T i _ (List.getElem?_eq_getElem hi)
    obtain ⟨h1, rfl⟩ := List.getElem?_eq_some_iff.mp e
    refine ⟨i, h1, hi, List.getElem?_eq_getElem hi, ⟨_, _, tu, hD _ (List.getElem_mem h1)⟩, tu.rec, ?_⟩
    rw [tu.num, hs]
    cases dir
    · show -(0 + (i : Int) * -1) = i; lia
    · show 0 + (i : Int) * 1 = i; lia
  have sw : SWO (dl dir (ltT c hB)) := by rw [← rd_eq]; exact (K.rd hB).flip
  obtain ⟨H, P⟩ := hpfy_ok (d := Value.none) sw xs
  have one1 : OneNo hB xs := fun u hu v hv q => by
    obtain ⟨i, hi, _, _, _, r1, n1⟩ := at_ u hu
    obtain ⟨k, hk, _, _, _, r2, n2⟩ := at_ v hv
    rw [q] at n1
    have : i = k := Int.ofNat.inj (n1.symm.trans n2)
    subst this
    obtain ⟨a, ea⟩ := hV _ (List.getElem_mem hi)
    exact ⟨a, r1.trans ea, r2.trans ea⟩
  refine ⟨fun v hv => by obtain ⟨_, _, _, _, q, _⟩ := at_ v hv; exact q, one1, ⟨fun v hv => by obtain ⟨_, _, _, _, q, _⟩ := at_ v (P.mem_iff.mp hv); exact q, fun u hu v hv => one1 u (P.mem_iff.mp hu) v (P.mem_iff.mp hv), fun v hv => ?_, ⟨⟨[], ?_, fun _ _ _ q => nomatch q⟩, fun u hu v hv => ?_⟩, H⟩, P⟩
  · obtain ⟨i, hi, h1, _, _, _, n1⟩ := at_ v (P.mem_iff.mp hv)
    rw [n1]; lia
  · rw [List.append_nil]
    refine (P.map _).trans (List.Perm.of_eq (List.ext_getElem (by simp; lia) fun i h1 h2 => ?_))
    rw [List.getElem_map, List.getElem_take]
    have hi : i < xs.length := by simpa using h1
    obtain ⟨r, e, tu⟩ := T i _ (List.getElem?_eq_getElem hi)
    obtain ⟨h1, rfl⟩ := List.getElem?_eq_some_iff.mp e
    exact tu.rec
  · obtain ⟨i, hi, _, _, _, r1, n1⟩ := at_ u (P.mem_iff.mp hu)
    obtain ⟨k, hk, _, _, _, r2, n2⟩ := at_ v (P.mem_iff.mp hv)
    unfold RD BD
    rw [r1, n1, r2, n2]
    refine lt2_nums ?_
    have pw := List.pairwise_iff_getElem.mp hn
    constructor
    · intro q; exact pw _ _ _ _ (by lia)
    · intro q
      rcases Nat.lt_trichotomy i k with z | z | z
      · lia
      · subst z; exact absurd q (Int.lt_irrefl _)
      · exact absurd (Int.lt_trans q (pw k i hk hi z)) (Int.lt_irrefl _)
theorem TS.fin {p : List Nat} (T : TS dir hB C D c num vs j ord ys) (K : COk c) (hn : vs.Pairwise fun u v => num u < num v) (hj : vs.length ≤ j) (S : Srt (ltT c hB) (katRev (!dir) ys) p) {ws : List Value} (wp : ws.Perm vs) (wsd : ws.Pairwise fun u v => BD dir c num u v = true) :
    (katRev (!dir) (outOf (katRev (!dir) ys) p)).map (tRec hB) = ws.take ys.length := by
  have tot : ys.Pairwise fun u v => ltT c hB u v = true ∨ ltT c hB v u = true := by
    obtain ⟨dr, q, _⟩ := T.kp.ex
    have nd' : (ys.map (tRec hB) ++ dr).Nodup := q.nodup_iff.mpr ((List.take_sublist j vs).nodup (nd_num hn))
    have nd2 := List.pairwise_map.mp (List.nodup_append.mp nd').1
    refine nd2.imp_of_mem fun {u v} hu hv ne => ?_
    have := bd_tot (dir := dir) (c := c) hn _ _ (List.mem_of_mem_take (T.mem hu)) (List.mem_of_mem_take (T.mem hv)) ne
    rw [← T.kp.ag u hu v hv, ← T.kp.ag v hv u hu, rd_at, rd_at] at this
    cases dir
    · exact this.symm
    · exact this
  have perm : (katRev (!dir) (outOf (katRev (!dir) ys) p)).Perm ys := by
    cases dir
    · exact (List.reverse_perm _).trans (S.perm.trans (List.reverse_perm _))
    · exact S.perm
  have pw : (katRev (!dir) (outOf (katRev (!dir) ys) p)).Pairwise fun u v => RD dir c hB u v = true := by
    have q := (S.pair (B := fun u v => ltT c hB u v = true ∨ ltT c hB v u = true) (by
      cases dir
      · exact List.pairwise_reverse.mpr (tot.imp fun h => h.symm)
      · exact tot)).imp (S := fun u v => ltT c hB u v = true) (fun {u v} h => by
        rcases h with h | ⟨h1, h2 | h2⟩
        · exact h
        · exact h2
        · rw [h1] at h2; cases h2)
    cases dir
    · refine List.pairwise_reverse.mpr (q.imp fun {u v} h => ?_)
      rw [rd_at]; exact h
    · refine q.imp fun {u v} h => ?_
      rw [rd_at]; exact h
  rw [T.kp.fin hj K.bd perm pw wp wsd, perm.length_eq]
end
end Mine
namespace Mine
noncomputable abbrev isNs (m : Str → Option Value) : Obj → Prop := fun o => ∃ es ep, o.data = .dict es ep ∧ StrKeys es ∧ ∀ name, nsFind es name = m name
section
variable {w : World} {A : Around} {E : Value → Shared → Prop} {s s' : Shared} {h₀ hB h h₁ h' : Heap} {L C D : Addr} {m mC : Str → Option Value} {ls : Led} {env : Env} {Q : Value → Shared → Prop}
theorem Lg.swapF (F : Lg hB C h mC ((L, isNs m) :: ls)) : Lg hB L h m ((C, isNs mC) :: ls) := by
  obtain ⟨o, e, es, ep, d, r⟩ := F.get (.head _)
  obtain ⟨o', es', ep', e', d', r'⟩ := F.ns
  have off := F.off _ (.head _)
  have nd := F.nd
  simp only [List.map_cons, List.nodup_cons] at nd
  refine ⟨⟨o, es, ep, e, d, r⟩, F.keep, off.2, fun p hp => ?_, fun p hp => ?_, ?_⟩
  · cases hp with
    | head => exact ⟨o', e', es', ep', d', r'⟩
    | tail _ q => exact F.at_ p (.tail _ q)
  · cases hp with
    | head => exact ⟨off.1.symm, F.nL⟩
    | tail _ q => exact ⟨fun z => nd.1 (z ▸ List.mem_map_of_mem q), (F.off p (.tail _ q)).2⟩
  · simp only [List.map_cons, List.nodup_cons]
    exact ⟨fun q => by obtain ⟨p, hp, e⟩ := List.mem_map.mp q; exact (F.off p (.tail _ hp)).1 e, nd.2⟩
theorem Lg.inner2 (F : Lg h₀ L h m ls) (k : Kp h h₁) (hD : h.get? D = none) (hC : h.get? C = none) (hDC : D ≠ C) (hl : PL h₁ D []) (hn : h₁.Ns C (fun _ => none)) :
    Lg (hideAll h₁ (C :: L :: D :: ls.map (·.1))) C h₁ (fun _ => none) ((L, isNs m) :: (D, isL []) :: ls) ∧ Kp h₀ (hideAll h₁ (C :: L :: D :: ls.map (·.1))) := by
  obtain ⟨n, e⟩ := hl
  obtain ⟨o, es, ep, e', r⟩ := hn
  have F1 := (F.kp k).new (P := isL []) (F.fr hD).1 e ⟨n, rfl⟩ (F.fr hD).2.1 (F.fr hD).2.2
  have F2 := F1.new (P := isNs fun _ => none) (F.fr hC).1 e' ⟨es, ep, r⟩ (F.fr hC).2.1 (fun p hp => by
    cases hp with
    | head => exact hDC
    | tail _ q => exact (F.fr hC).2.2 p q)
  exact F2.swapF.rebase
theorem Lg.endUse {x : Str} {py : Pos} {v : Value} {fl : Flow} (F : Lg hB C s'.heap mC ((L, isNs m) :: ls)) (k : ∀ h', Lg hB L h' (fun y => if y = x then some v else m y) ls → Q .none { s' with heap := h', toks := s'.toks + 1 })
    (eL : autoParam (env.locals = L) tcR) (hk : autoParam (env.scope.kind = .function) tcR) (hl : autoParam (env.kindOf x = some .local) tcR) : compPost (MM w) A E (some (assign (.Name x py) env)) Q v C (.ok fl) s' := by
  show wpAny _ _ (assign (.Name x py) env v) _ _ _
  refine wpAny_assign_Name (F.swapF.st (fun h' F' => ?_) eL hk hl)
  obtain ⟨o, e, es, ep, r⟩ := F'.get (.head _)
  exact ⟨mC, ⟨o, es, ep, e, r⟩, fun h'' hs => k h'' (F'.ext hs.extBut)⟩
theorem Lg.endRet {v : Value} {fl : Flow} (F : Lg hB C s'.heap mC ((L, isNs m) :: ls)) (k : ∀ h', Lg hB L h' m ls → Q v { s' with heap := h' }) : compPost (MM w) A E none Q v C (.ok fl) s' :=
  ⟨mC, F.ns, fun h' hs => k h' (F.swapF.ext hs.extBut)⟩
theorem Lg.withKey {o c : Addr} {e : Value} (F : Lg hB L h m ls) (k : Kp h h') (K : ∀ S : List Addr, (∀ a ∈ S, a < h.objs.size) → KeyAt (hideAll h' S) c o e) : ∃ hB', Lg hB' L h' m ls ∧ Kp hB hB' ∧ KeyAt hB' c o e :=
  ⟨_, (F.kp k).rebase.1, (F.kp k).rebase.2, K _ (fun a ha => by
    rcases List.mem_cons.mp ha with rfl | ha
    · exact F.ns.lt
    · obtain ⟨p, hp, rfl⟩ := List.mem_map.mp ha
      obtain ⟨o', e', _⟩ := F.at_ p hp
      exact Heap.lt_size e')⟩
theorem Lg.withObj {a : Addr} {o : Obj} (F : Lg hB L h m ls) (k : Kp h h') (hn : h.get? a = none) (ho : h'.get? a = some o) : ∃ hB', Lg hB' L h' m ls ∧ Kp hB hB' ∧ hB'.get? a = some o :=
  ⟨_, (F.kp k).rebase.1, (F.kp k).rebase.2, hideAll_get _ ho (fun q => by
    rcases List.mem_cons.mp q with q | q
    · exact (F.fr hn).2.1 q
    · obtain ⟨p, hp, e⟩ := List.mem_map.mp q
      exact (F.fr hn).2.2 p hp e)⟩
theorem iterLI {J : Addr} {o : Obj} (ho : s.heap.get? J = some o) (hc : o.cls = .type "list_iterator") (h : Q (.ref J) s) : wpAny (MM w) A (pyIter (.ref J)) Q E s := by
  have hT : s.TypeIs (.ref J) "list_iterator" := ⟨o, ho, hc⟩
  refine wpAny_pyIter_slot hT slot_listiter_iter (wpAny_call_entry slot_listiter_iter hT entry_listiter_iter ?_ (args_listiter_iter _))
  show wpAny _ _ (ret (.ref J)) _ _ s
  exact wpAny_pure ⟨_, rfl, "list_iterator", _, hT, slot_listiter_next.lookup, h⟩
end
section
variable {w : World} {A : Around} {E : Value → Shared → Prop} {s : Shared} {Q : Value → Shared → Prop} {hb : Heap} {D : Value → Prop} {lt : Value → Value → Bool} {H : Addr} {xs : List Value} {x : Value} {dir : Bool}
theorem hrep (X : KIn w hb) (C : CmpLt w hb D lt) (hr : Rm A 12) (kb : Kp hb s.heap) (hbn : hb.get? H = none) (hl : PL s.heap H xs) (hD : ∀ v ∈ xs, D v) (hx : D x) (hp : 0 < xs.length) (hlen : xs.length < 2 ^ 19)
    (k : ∀ h' tk, KpB [H] s.heap h' → PL h' H (sup (dl dir lt) (dl dir lt) .none x (xs.set 0 x) 0) → Q (xs.getD 0 .none) { s with heap := h', toks := tk }) :
    wpAny (MM w) A (call (.ref (cond dir 63 42)) [.ref H, x]) Q E s := by
  cases dir
  · exact heapreplace_spec X C hr kb hbn hl hD hx hp hlen k
  · exact heapreplace_max_spec X C hr kb hbn hl hD hx hp hlen k
theorem hpfy (X : KIn w hb) (C : CmpLt w hb D lt) (hr : Rm A 12) (kb : Kp hb s.heap) (hbn : hb.get? H = none) (hl : PL s.heap H xs) (hD : ∀ v ∈ xs, D v) (hlen : xs.length < 2 ^ 19)
    (k : ∀ h' tk, KpB [H] s.heap h' → PL h' H (hpfyA (dl dir lt) (dl dir lt) .none (xs.length / 2) xs) → Q .none { s with heap := h', toks := tk }) :
    wpAny (MM w) A (call (.ref (cond dir 70 56)) [.ref H]) Q E s := by
  cases dir
  · exact heapify_spec X C hr kb hbn hl hD hlen k
  · exact heapify_max_spec X C hr kb hbn hl hD hlen k
end
theorem KW.kp {w : World} {h h' : Heap} {C f : Addr} {D : Value → Prop} {c : Value → Value → Int} (W : KW w h C f D c) (k : Kp h h') : KW w h' C f D c :=
  ⟨W.x.kp k, W.k.kp k, ⟨W.m.fn.kp k, W.m.hd, fun u v du dv A s Q E hr k' h => W.m.run u v du dv A s Q E hr (k.trans k') h⟩, W.r⟩
section
variable {dir : Bool} {w : World} {A : Around} {E : Value → Shared → Prop} {s : Shared} {hb h0 : Heap} {L J l Dl C f kc : Addr} {D : Value → Prop} {c : Value → Value → Int} {num : Value → Int} {vs : List Value} {fl : Led} {env : Env} {R : Result → Shared → Prop}
inductive NI (dir : Bool) (s : Shared) (h0 : Heap) (L J l Dl C : Addr) (D : Value → Prop) (c : Value → Value → Int) (num : Value → Int) (vs : List Value) (N : Nat) (fl : Led) (n : Nat) : Shared → Prop
  | mk {h : Heap} {tk : Nat} {m : Str → Option Value} {hB : Heap} {t : Value} {r : List Value} {P : Obj → Prop} {j : Nat} {ord : Int} {tord : Tok} {kt : Addr} (F : Lg hB L h m ((J, P) :: (Dl, isL (t :: r)) :: fl)) (kB : Kp h0 hB)
    (m1 : m (Str.ofString "result") = some (.ref Dl)) (m2 : m (Str.ofString "_heapreplace") = some (.ref (cond dir 63 42))) (m3 : m (Str.ofString "order") = some (.int ord tord)) (m4 : m (Str.ofString "top") = some (.ref kt)) (hk : KeyAt hB C kt (tRec hB t))
    (T : TS dir hB C D c num vs j ord (t :: r)) (hP : P = isLI l j ∨ P = isLX ∧ j = vs.length) (hn : n + j = vs.length) (hN : (t :: r).length = N) : NI dir s h0 L J l Dl C D c num vs N fl n { s with heap := h, toks := tk }
theorem testN {m : Str → Option Value} {hB : Heap} {ls : Led} {p7 p8 p9 : Pos} {ka kt : Addr} {e r : Value} {whole : Sem Value} {Q : Bool → Shared → Prop} (W : KW w hb C f D c) (hr : Rm A 5) (F : Lg hB L s.heap m ls) (kb : Kp hb s.heap) (mk : m (Str.ofString "k") = some (.ref ka)) (mt : m (Str.ofString "top") = some (.ref kt))
    (ha : KeyAt s.heap C ka e) (ht : KeyAt s.heap C kt r) (de : D e) (dr : D r) (eL : env.locals = L) (ek : env.scope.kind = .function) (e2 : env.kindOf "k" = some .local) (e3 : env.kindOf "top" = some .local)
    (h : ∀ h' tk, Kp s.heap h' → Q (decide (cD dir c e r < 0)) { s with heap := h', toks := tk }) :
    wpAny (MM w) A (isTrue (.Compare (.Name (cond dir "k" "top") p7) [.Lt] [.Name (cond dir "top" "k") p8] p9) env whole) Q E s := by
  cases dir
  · exact wpAny_isTrue_Compare1 (F.nm mt (F.nm mk (W.lt hr kb ht ha dr de (fun h' tk k' => wpAny_truthy_bool (h h' tk k'))) eL ek e2) eL ek e3)
  · exact wpAny_isTrue_Compare1 (F.nm mk (F.nm mt (W.lt hr kb ha ht de dr (fun h' tk k' => wpAny_truthy_bool (h h' tk k'))) eL ek e3) eL ek e2)
theorem augN {m : Str → Option Value} {hB : Heap} {ls : Led} {t1 t2 t3 : Pos} {k4 : Nat} {o : Int} {t : Tok} {Q : Flow → Shared → Prop} (F : Lg hB L s.heap m ls) (mo : m (Str.ofString "order") = some (.int o t)) (eL : env.locals = L) (ek : env.scope.kind = .function) (e4 : env.kindOf "order" = some .local)
    (h : ∀ h' tk t', Lg hB L h' (fun y => if y = Str.ofString "order" then some (.int (o + sD dir 1) t') else m y) ls → Q .next { s with heap := h', toks := tk }) :
    wpAny (MM w) A (exec (.AugAssign (.Name "order" t1) (cond dir .Add .Sub) (.Constant (.int 1) k4 t2) t3) env) Q E s := by
  have ld : ∀ {Q' : Value → Shared → Prop}, Q' (.int o t) s → wpAny (MM w) A (loadName env (Str.ofString "order")) Q' E s := fun hq => wpAny_loadName_local ek e4 (eL ▸ F.ns) mo hq
  obtain ⟨hh, g, d, tk, os⟩ := s
  dsimp only at F
  cases dir
  · refine wpAny_AugAssign_Name (ld (wpAny_Constant_int (PyProof.Rows.isub_int ?_)))
    exact F.st (fun h' F' => h h' _ _ F') eL ek e4
  · refine wpAny_AugAssign_Name (ld (wpAny_Constant_int (PyProof.Rows.iadd_int ?_)))
    exact F.st (fun h' F' => h h' _ _ F') eL ek e4
end
end Mine
namespace Mine
section
variable {dir : Bool} {w : World} {A : Around} {E : Value → Shared → Prop} {s : Shared} {hb h0 : Heap} {L J l Dl C f kc : Addr} {D : Value → Prop} {c : Value → Value → Int} {num : Value → Int} {vs : List Value} {fl : Led} {env : Env} {R : Result → Shared → Prop}
variable {p1 p2 p3 p4 p5 p6 p7 p8 p9 q1 q2 q3 q4 q5 q6 q7 q8 r1 r2 r3 r4 r5 r6 r7 r8 t1 t2 t3 t4 : Pos} {k1 k2 k3 k4 N : Nat}
theorem cons_of {x : Value} {r ys : List Value} (p : ys.Perm (x :: r)) : ∃ t' r', ys = t' :: r' := by
  cases ys with
  | nil => exact absurd p.length_eq (by simp)
  | cons a b => exact ⟨a, b, rfl⟩
end
namespace N_loopN
noncomputable def stX0 (w : World) (A : Around) (s : Shared) (hb h0 : Heap) (L J l Dl C f kc : Addr) (D : Value → Prop) (c : Value → Value → Int) (num : Value → Int) (vs : List Value) (fl : Led) (env : Env) (R : Result → Shared → Prop) (p1 p2 p3 p4 p5 p6 p7 p8 p9 q1 q2 q3 q4 q5 q6 q7 q8 r1 r2 r3 r4 r5 r6 r7 r8 t1 t2 t3 t4 : Pos) (k1 k2 k3 k4 N : Nat) : Prop := ∀ {dir : Bool} {n : Nat} {s' : Shared} (W : KW w hb C f D c) (K : COk c) (hr : Rm A 20) (kb : Kp hb h0) (hl : PL h0 l vs) (hc : h0.IsCell kc (some (.ref C))) (hn : vs.Pairwise fun u v => num u < num v) (hD : ∀ v ∈ vs, D v) (hV : ∀ v ∈ vs, ∃ q, v = .ref q) (h60 : N < 60) (hF : FnAt hb (cond dir 63 42)) (ei : interactive env = false) (eL : env.locals = L) (ek : env.scope.kind = .function) (e1 : env.kindOf "elem" = some .local) (e2 : env.kindOf "k" = some .local) (e3 : env.kindOf "top" = some .local) (e4 : env.kindOf "order" = some .local) (e5 : env.kindOf "result" = some .local) (e6 : env.kindOf "_heapreplace" = some .local) (e7 : env.kindOf "_order" = some .local) (e8 : env.kindOf "_elem" = some .local) (ec : env.kindOf "key" = some .cell) (el : env.cells.lookup (Str.ofString "key") = some kc) (h : ∀ h' tk m hB t r ord, Lg hB L h' m ((Dl, isL (t :: r)) :: fl) → Kp h0 hB → m (Str.ofString "result") = some (.ref Dl) → TS dir hB C D c num vs vs.length ord (t :: r) → (t :: r).length = N → R (.ok .next) { s with heap := h', toks := tk }) (I : NI dir s h0 L J l Dl C D c num vs N fl n s'), codeAny (MM w) A (.forLoop (.Name "elem" p1) (.ref J) [.Assign [.Name "k" p2] (.Call (.Name "key" p3) [.Name "elem" p4] [] p5) p6, .If (.Compare (.Name (cond dir "k" "top") p7) [.Lt] [.Name (cond dir "top" "k") p8] p9) [.Expr (.Call (.Name "_heapreplace" q1) [.Name "result" q2, .Tuple [.Name "k" q3, .Name "order" q4, .Name "elem" q5] k1 q6] [] q7) q8, .Assign [.Tuple [.Name "top" r1, .Name "_order" r2, .Name "_elem" r3] k2 r4] (.Subscript (.Name "result" r5) (.Constant (.int 0) k3 r6) r7) r8, .AugAssign (.Name "order" t1) (cond dir .Add .Sub) (.Constant (.int 1) k4 t2) t3] [] t4] [] env) R s'
noncomputable abbrev T := World × Around × Shared × Heap × Heap × Addr × Addr × Addr × Addr × Addr × Addr × Addr × (Value → Prop) × (Value → Value → Int) × (Value → Int) × (List Value) × Led × Env × (Result → Shared → Prop) × Pos × Pos × Pos × Pos × Pos × Pos × Pos × Pos × Pos × Pos × Pos × Pos × Pos × Pos × Pos × Pos × Pos × Pos × Pos × Pos × Pos × Pos × Pos × Pos × Pos × Pos × Pos × Pos × Pos × Nat × Nat × Nat × Nat × Nat
noncomputable def pX (x : T) : Prop := stX0 x.1 x.2.1 x.2.2.1 x.2.2.2.1 x.2.2.2.2.1 x.2.2.2.2.2.1 x.2.2.2.2.2.2.1 x.2.2.2.2.2.2.2.1 x.2.2.2.2.2.2.2.2.1 x.2.2.2.2.2.2.2.2.2.1 x.2.2.2.2.2.2.2.2.2.2.1 x.2.2.2.2.2.2.2.2.2.2.2.1 x.2.2.2.2.2.2.2.2.2.2.2.2.1 x.2.2.2.2.2.2.2.2.2.2.2.2.2.1 x.2.2.2.2.2.2.2.2.2.2.2.2.2.2.1 x.2.2.2.2.2.2.2.2.2.2.2.2.2.2.2.1 x.2.2.2.2.2.2.2.2.2.2.2.2.2.2.2.2.1 x.2.2.2.2.2.2.2.2.2.2.2.2.2.2.2.2.2.1 x.2.2.2.2.2.2.2.2.2.2.2.2.2.2.2.2.2.2.1 x.2.2.2.2.2.2.2.2.2.2.2.2.2.2.2.2.2.2.2.1 x.2.2.2.2.2.2.2.2.2.2.2.2.2.2.2.2.2.2.2.2.1 x.2.2.2.2.2.2.2.2.2.2.2.2.2.2.2.2.2.2.2.2.2.1 x.2.2.2.2.2.2.2.2.2.2.2.2.2.2.2.2.2.2.2.2.2.2.1 x.2.2.2.2.2.2.2.2.2.2.2.2.2.2.2.2.2.2.2.2.2.2.2.1 x.2.2.2.2.2.2.2.2.2.2.2.2.2.2.2.2.2.2.2.2.2.2.2.2.1 x.2.2.2.2.2.2.2.2.2.2.2.2.2.2.2.2.2.2.2.2.2.2.2.2.2.1 x.2.2.2.2.2.2.2.2.2.2.2.2.2.2.2.2.2.2.2.2.2.2.2.2.2.2.1 x.2.2.2.2.2.2.2.2.2.2.2.2.2.2.2.2.2.2.2.2.2.2.2.2.2.2.2.1 x.2.2.2.2.2.2.2.2.2.2.2.2.2.2.2.2.2.2.2.2.2.2.2.2.2.2.2.2.1 x.2.2.2.2.2.2.2.2.2.2.2.2.2.2.2.2.2.2.2.2.2.2.2.2.2.2.2.2.2.1 x.2.2.2.2.2.2.2.2.2.2.2.2.2.2.2.2.2.2.2.2.2.2.2.2.2.2.2.2.2.2.1 x.2.2.2.2.2.2.2.2.2.2.2.2.2.2.2.2.2.2.2.2.2.2.2.2.2.2.2.2.2.2.2.1 x.2.2.2.2.2.2.2.2.2.2.2.2.2.2.2.2.2.2.2.2.2.2.2.2.2.2.2.2.2.2.2.2.1 x.2.2.2.2.2.2.2.2.2.2.2.2.2.2.2.2.2.2.2.2.2.2.2.2.2.2.2.2.2.2.2.2.2.1 x.2.2.2.2.2.2.2.2.2.2.2.2.2.2.2.2.2.2.2.2.2.2.2.2.2.2.2.2.2.2.2.2.2.2.1 x.2.2.2.2.2.2.2.2.2.2.2.2.2.2.2.2.2.2.2.2.2.2.2.2.2.2.2.2.2.2.2.2.2.2.2.1 x.2.2.2.2.2.2.2.2.2.2.2.2.2.2.2.2.2.2.2.2.2.2.2.2.2.2.2.2.2.2.2.2.2.2.2.2.1 x.2.2.2.2.2.2.2.2.2.2.2.2.2.2.2.2.2.2.2.2.2.2.2.2.2.2.2.2.2.2.2.2.2.2.2.2.2.1 x.2.2.2.2.2.2.2.2.2.2.2.2.2.2.2.2.2.2.2.2.2.2.2.2.2.2.2.2.2.2.2.2.2.2.2.2.2.2.1 x.2.2.2.2.2.2.2.2.2.2.2.2.2.2.2.2.2.2.2.2.2.2.2.2.2.2.2.2.2.2.2.2.2.2.2.2.2.2.2.1 x.2.2.2.2.2.2.2.2.2.2.2.2.2.2.2.2.2.2.2.2.2.2.2.2.2.2.2.2.2.2.2.2.2.2.2.2.2.2.2.2.1 x.2.2.2.2.2.2.2.2.2.2.2.2.2.2.2.2.2.2.2.2.2.2.2.2.2.2.2.2.2.2.2.2.2.2.2.2.2.2.2.2.2.1 x.2.2.2.2.2.2.2.2.2.2.2.2.2.2.2.2.2.2.2.2.2.2.2.2.2.2.2.2.2.2.2.2.2.2.2.2.2.2.2.2.2.2.1 x.2.2.2.2.2.2.2.2.2.2.2.2.2.2.2.2.2.2.2.2.2.2.2.2.2.2.2.2.2.2.2.2.2.2.2.2.2.2.2.2.2.2.2.1 x.2.2.2.2.2.2.2.2.2.2.2.2.2.2.2.2.2.2.2.2.2.2.2.2.2.2.2.2.2.2.2.2.2.2.2.2.2.2.2.2.2.2.2.2.1 x.2.2.2.2.2.2.2.2.2.2.2.2.2.2.2.2.2.2.2.2.2.2.2.2.2.2.2.2.2.2.2.2.2.2.2.2.2.2.2.2.2.2.2.2.2.1 x.2.2.2.2.2.2.2.2.2.2.2.2.2.2.2.2.2.2.2.2.2.2.2.2.2.2.2.2.2.2.2.2.2.2.2.2.2.2.2.2.2.2.2.2.2.2.1 x.2.2.2.2.2.2.2.2.2.2.2.2.2.2.2.2.2.2.2.2.2.2.2.2.2.2.2.2.2.2.2.2.2.2.2.2.2.2.2.2.2.2.2.2.2.2.2.1 x.2.2.2.2.2.2.2.2.2.2.2.2.2.2.2.2.2.2.2.2.2.2.2.2.2.2.2.2.2.2.2.2.2.2.2.2.2.2.2.2.2.2.2.2.2.2.2.2.1 x.2.2.2.2.2.2.2.2.2.2.2.2.2.2.2.2.2.2.2.2.2.2.2.2.2.2.2.2.2.2.2.2.2.2.2.2.2.2.2.2.2.2.2.2.2.2.2.2.2.1 x.2.2.2.2.2.2.2.2.2.2.2.2.2.2.2.2.2.2.2.2.2.2.2.2.2.2.2.2.2.2.2.2.2.2.2.2.2.2.2.2.2.2.2.2.2.2.2.2.2.2.1 x.2.2.2.2.2.2.2.2.2.2.2.2.2.2.2.2.2.2.2.2.2.2.2.2.2.2.2.2.2.2.2.2.2.2.2.2.2.2.2.2.2.2.2.2.2.2.2.2.2.2.2.1 x.2.2.2.2.2.2.2.2.2.2.2.2.2.2.2.2.2.2.2.2.2.2.2.2.2.2.2.2.2.2.2.2.2.2.2.2.2.2.2.2.2.2.2.2.2.2.2.2.2.2.2.2
noncomputable def cX : T := @Classical.epsilon _ (ne2 neW (ne2 neA (ne2 neS (ne2 neI (ne2 neI (ne2 neI (ne2 neI (ne2 neI (ne2 neI (ne2 neI (ne2 neI (ne2 neI (ne2 neI (ne2 neI (ne2 neI (ne2 neI (ne2 neI (ne2 neI (ne2 neI (ne2 neI (ne2 neI (ne2 neI (ne2 neI (ne2 neI (ne2 neI (ne2 neI (ne2 neI (ne2 neI (ne2 neI (ne2 neI (ne2 neI (ne2 neI (ne2 neI (ne2 neI (ne2 neI (ne2 neI (ne2 neI (ne2 neI (ne2 neI (ne2 neI (ne2 neI (ne2 neI (ne2 neI (ne2 neI (ne2 neI (ne2 neI (ne2 neI (ne2 neI (ne2 neI (ne2 neI (ne2 neI (ne2 neI neI)))))))))))))))))))))))))))))))))))))))))))))))))))) fun x => ¬ pX x
def w : World := cX.1
def A : Around := cX.2.1
def s : Shared := cX.2.2.1
def hb : Heap := cX.2.2.2.1
def h0 : Heap := cX.2.2.2.2.1
def L : Addr := cX.2.2.2.2.2.1
def J : Addr := cX.2.2.2.2.2.2.1
def l : Addr := cX.2.2.2.2.2.2.2.1
def Dl : Addr := cX.2.2.2.2.2.2.2.2.1
def C : Addr := cX.2.2.2.2.2.2.2.2.2.1
def f : Addr := cX.2.2.2.2.2.2.2.2.2.2.1
def kc : Addr := cX.2.2.2.2.2.2.2.2.2.2.2.1
def D : Value → Prop := cX.2.2.2.2.2.2.2.2.2.2.2.2.1
def c : Value → Value → Int := cX.2.2.2.2.2.2.2.2.2.2.2.2.2.1
def num : Value → Int := cX.2.2.2.2.2.2.2.2.2.2.2.2.2.2.1
def vs : List Value := cX.2.2.2.2.2.2.2.2.2.2.2.2.2.2.2.1
def fl : Led := cX.2.2.2.2.2.2.2.2.2.2.2.2.2.2.2.2.1
def env : Env := cX.2.2.2.2.2.2.2.2.2.2.2.2.2.2.2.2.2.1
def R : Result → Shared → Prop := cX.2.2.2.2.2.2.2.2.2.2.2.2.2.2.2.2.2.2.1
def p1 : Pos := cX.2.2.2.2.2.2.2.2.2.2.2.2.2.2.2.2.2.2.2.1
def p2 : Pos := cX.2.2.2.2.2.2.2.2.2.2.2.2.2.2.2.2.2.2.2.2.1
def p3 : Pos := cX.2.2.2.2.2.2.2.2.2.2.2.2.2.2.2.2.2.2.2.2.2.1
def p4 : Pos := cX.2.2.2.2.2.2.2.2.2.2.2.2.2.2.2.2.2.2.2.2.2.2.1
def p5 : Pos := cX.2.2.2.2.2.2.2.2.2.2.2.2.2.2.2.2.2.2.2.2.2.2.2.1
def p6 : Pos := cX.2.2.2.2.2.2.2.2.2.2.2.2.2.2.2.2.2.2.2.2.2.2.2.2.1
def p7 : Pos := cX.2.2.2.2.2.2.2.2.2.2.2.2.2.2.2.2.2.2.2.2.2.2.2.2.2.1
def p8 : Pos := cX.2.2.2.2.2.2.2.2.2.2.2.2.2.2.2.2.2.2.2.2.2.2.2.2.2.2.1
def p9 : Pos := cX.2.2.2.2.2.2.2.2.2.2.2.2.2.2.2.2.2.2.2.2.2.2.2.2.2.2.2.1
def q1 : Pos := cX.2.2.2.2.2.2.2.2.2.2.2.2.2.2.2.2.2.2.2.2.2.2.2.2.2.2.2.2.1
def q2 : Pos := cX.2.2.2.2.2.2.2.2.2.2.2.2.2.2.2.2.2.2.2.2.2.2.2.2.2.2.2.2.2.1
def q3 : Pos := cX.2.2.2.2.2.2.2.2.2.2.2.2.2.2.2.2.2.2.2.2.2.2.2.2.2.2.2.2.2.2.1
def q4 : Pos := cX.2.2.2.2.2.2.2.2.2.2.2.2.2.2.2.2.2.2.2.2.2.2.2.2.2.2.2.2.2.2.2.1
def q5 : Pos := cX.2.2.2.2.2.2.2.2.2.2.2.2.2.2.2.2.2.2.2.2.2.2.2.2.2.2.2.2.2.2.2.2.1
def q6 : Pos := cX.2.2.2.2.2.2.2.2.2.2.2.2.2.2.2.2.2.2.2.2.2.2.2.2.2.2.2.2.2.2.2.2.2.1
def q7 : Pos := cX.2.2.2.2.2.2.2.2.2.2.2.2.2.2.2.2.2.2.2.2.2.2.2.2.2.2.2.2.2.2.2.2.2.2.1
def q8 : Pos := cX.2.2.2.2.2.2.2.2.2.2.2.2.2.2.2.2.2.2.2.2.2.2.2.2.2.2.2.2.2.2.2.2.2.2.2.1
def r1 : Pos := cX.2.2.2.2.2.2.2.2.2.2.2.2.2.2.2.2.2.2.2.2.2.2.2.2.2.2.2.2.2.2.2.2.2.2.2.2.1
def r2 : Pos := cX.2.2.2.2.2.2.2.2.2.2.2.2.2.2.2.2.2.2.2.2.2.2.2.2.2.2.2.2.2.2.2.2.2.2.2.2.2.1
def r3 : Pos := cX.2.2.2.2.2.2.2.2.2.2.2.2.2.2.2.2.2.2.2.2.2.2.2.2.2.2.2.2.2.2.2.2.2.2.2.2.2.2.1
def r4 : Pos := cX.2.2.2.2.2.2.2.2.2.2.2.2.2.2.2.2.2.2.2.2.2.2.2.2.2.2.2.2.2.2.2.2.2.2.2.2.2.2.2.1
def r5 : Pos := cX.2.2.2.2.2.2.2.2.2.2.2.2.2.2.2.2.2.2.2.2.2.2.2.2.2.2.2.2.2.2.2.2.2.2.2.2.2.2.2.2.1
def r6 : Pos := cX.2.2.2.2.2.2.2.2.2.2.2.2.2.2.2.2.2.2.2.2.2.2.2.2.2.2.2.2.2.2.2.2.2.2.2.2.2.2.2.2.2.1
def r7 : Pos := cX.2.2.2.2.2.2.2.2.2.2.2.2.2.2.2.2.2.2.2.2.2.2.2.2.2.2.2.2.2.2.2.2.2.2.2.2.2.2.2.2.2.2.1
def r8 : Pos := cX.2.2.2.2.2.2.2.2.2.2.2.2.2.2.2.2.2.2.2.2.2.2.2.2.2.2.2.2.2.2.2.2.2.2.2.2.2.2.2.2.2.2.2.1
def t1 : Pos := cX.2.2.2.2.2.2.2.2.2.2.2.2.2.2.2.2.2.2.2.2.2.2.2.2.2.2.2.2.2.2.2.2.2.2.2.2.2.2.2.2.2.2.2.2.1
def t2 : Pos := cX.2.2.2.2.2.2.2.2.2.2.2.2.2.2.2.2.2.2.2.2.2.2.2.2.2.2.2.2.2.2.2.2.2.2.2.2.2.2.2.2.2.2.2.2.2.1
def t3 : Pos := cX.2.2.2.2.2.2.2.2.2.2.2.2.2.2.2.2.2.2.2.2.2.2.2.2.2.2.2.2.2.2.2.2.2.2.2.2.2.2.2.2.2.2.2.2.2.2.1
def t4 : Pos := cX.2.2.2.2.2.2.2.2.2.2.2.2.2.2.2.2.2.2.2.2.2.2.2.2.2.2.2.2.2.2.2.2.2.2.2.2.2.2.2.2.2.2.2.2.2.2.2.1
def k1 : Nat := cX.2.2.2.2.2.2.2.2.2.2.2.2.2.2.2.2.2.2.2.2.2.2.2.2.2.2.2.2.2.2.2.2.2.2.2.2.2.2.2.2.2.2.2.2.2.2.2.2.1
def k2 : Nat := cX.2.2.2.2.2.2.2.2.2.2.2.2.2.2.2.2.2.2.2.2.2.2.2.2.2.2.2.2.2.2.2.2.2.2.2.2.2.2.2.2.2.2.2.2.2.2.2.2.2.1
def k3 : Nat := cX.2.2.2.2.2.2.2.2.2.2.2.2.2.2.2.2.2.2.2.2.2.2.2.2.2.2.2.2.2.2.2.2.2.2.2.2.2.2.2.2.2.2.2.2.2.2.2.2.2.2.1
def k4 : Nat := cX.2.2.2.2.2.2.2.2.2.2.2.2.2.2.2.2.2.2.2.2.2.2.2.2.2.2.2.2.2.2.2.2.2.2.2.2.2.2.2.2.2.2.2.2.2.2.2.2.2.2.2.1
def N : Nat := cX.2.2.2.2.2.2.2.2.2.2.2.2.2.2.2.2.2.2.2.2.2.2.2.2.2.2.2.2.2.2.2.2.2.2.2.2.2.2.2.2.2.2.2.2.2.2.2.2.2.2.2.2
theorem pfX0 : stX0 w A s hb h0 L J l Dl C f kc D c num vs fl env R p1 p2 p3 p4 p5 p6 p7 p8 p9 q1 q2 q3 q4 q5 q6 q7 q8 r1 r2 r3 r4 r5 r6 r7 r8 t1 t2 t3 t4 k1 k2 k3 k4 N := by
  intro dir n s' W K hr kb hl hc hn hD hV h60 hF ei eL ek e1 e2 e3 e4 e5 e6 e7 e8 ec el h I
  refine codeAny_forLoop (NI dir s h0 L J l Dl C D c num vs N fl) ?_ n I
  rintro n s' ⟨F, kB, m1, m2, m3, m4, hk, T, hP, hj, hN⟩
  rename_i h' tk m hB t r P j ord tord kt
  have hl' := hl.kp kB
  by_cases hend : vs.length ≤ j
  · have ej : j = vs.length := by lia
    subst ej
    have fin : ∀ h'', Lg hB L h'' m ((Dl, isL (t :: r)) :: fl) → R (.ok .next) { s with heap := h'', toks := tk } := fun h'' F'' => h h'' tk m hB t r ord F'' kB m1 T hN
    rcases hP with rfl | ⟨rfl, _⟩
    · exact F.lend hr.han hl' hend (fun h₂ F₂ => wpAny_execs_nil (fin h₂ F₂))
    · exact F.lxnext hr.han (fun h₂ F₂ => wpAny_execs_nil (fin h₂ F₂))
  · have hlt : j < vs.length := by lia
    have eP : P = isLI l j := hP.resolve_right (fun q => by lia)
    subst eP
    have hv : vs[j]? = some vs[j] := List.getElem?_eq_getElem hlt
    generalize vs[j] = e at hv
    have de := hD _ (List.mem_of_getElem? hv)
    refine F.lnext 0 rfl hl' hv (fun h₂ F₂ => ?_)
    dsimp only
    refine wpAny_assign_Name (F₂.st (fun h₃ F₃ => ?_) eL ek e1)
    have kb₃ : Kp hb h₃ := (kb.trans kB).trans F₃.keep
    refine wpAny_execs_cons (wpAny_Assign_Name (Call_ (nmC (hc.keeps kB) F₃.keep (callWith_C (w := w) (mycmp := .ref f) (args_cons (F₃.nm rfl (args_nil ⟨W.k.kp kb₃, W.newS (hr.le (by decide)) kb₃ (fun o h₄ tk₄ k₄ K₄ n₄ => ?_)⟩) eL ek e1))) el ek ec)))
    have F₃ : Lg hB L h₃ _ ((J, isLI l (j + 1)) :: (Dl, isL (t :: r)) :: fl) := F₃
    refine Exists.elim (F₃.withKey k₄ K₄) fun hB₄ z => ?_
    have F₄ := z.1
    have kr := z.2.1
    have K4 := z.2.2
    clear z
    refine F₄.st (fun h₅ F₅ => ?_) eL ek e2
    have kbB : Kp hb hB₄ := (kb.trans kB).trans kr
    have kt₄ := hk.kp kr
    dsimp only
    refine wpAny_execs_cons (wpAny_If (testN W (hr.le (by decide)) F₅ (kbB.trans F₅.keep) rfl (by exact m4) (K4.kp F₅.keep) (kt₄.kp F₅.keep) de (hD _ (List.mem_of_mem_take (T.mem (.head _)))) eL ek e2 e3 (fun h₆ tk₆ k₆ => ?_)))
    have F₆ := F₅.kp k₆
    by_cases hcc : cD dir c e (tRec hB t) < 0
    · rw [if_pos (by simpa using hcc)]
      refine wpAny_execs_cons (wpAny_Expr_any (Call_ (F₆.nm (by exact m2) (callWith_F (args_cons (F₆.nm (by exact m1) (args_cons (tupD (args_cons (F₆.nm rfl (args_cons (F₆.nm (by exact m3) (args_cons (F₆.nm rfl (args_nil ⟨szL, fun x h₇ k₇ n₇ x₇ => args_nil ?_⟩) eL ek e1)) eL ek e4)) eL ek e2)))) eL ek e5))) eL ek e6)) ei)
      refine Exists.elim (F₆.withObj k₇ n₇ x₇) fun hB₇ z => ?_
      have F₇ := z.1
      have kr₇ := z.2.1
      have x7 := z.2.2
      clear z
      have kbB₇ := kbB.trans kr₇
      have W' := W.kp kbB₇
      have kB₇ : Kp hB hB₇ := kr.trans kr₇
      obtain ⟨all1, one1, T', pm⟩ := T.swap (x := .ref x) (ord' := ord + sD dir 1) K hn hv hcc kB₇ ⟨x, o, tord, rfl, x7, K4.kp kr₇⟩ de (hV _ (List.mem_of_getElem? hv)) (by cases dir <;> simp only [sD, cond_true, cond_false] <;> lia)
      refine ⟨hF.kp (kbB₇.trans F₇.keep), hrep W'.x (cmpT W' K all1 one1) (hr.le (by decide)) F₇.keep (F₇.off _ (.tail _ (.head _))).2 (F₇.pl (.tail _ (.head _))) (fun v hv => .tail _ hv) (.head _) (by simp) (by rw [hN]; lia) (fun h₈ tk₈ k₈ hl₈ => ?_)⟩
      have F₈ := F₇.butL 1 rfl k₈ hl₈
      have hN' := pm.length_eq
      obtain ⟨t', r', e'⟩ := cons_of pm
      rw [e'] at T' F₈ hN'
      obtain ⟨rr, nn, ⟨tt, kk, tn, rfl, et, kt'⟩, dd⟩ := T'.isT t' (.head _)
      dsimp only
      refine wpAny_execs_cons (Assign_Tuple ?_)
      refine Subscript_ (F₈.nm (by exact m1) ?_ eL ek e5)
      refine wpAny_Constant_int (itemL (xs := .ref tt :: r') (v := .ref tt) (F₈.pl (.tail _ (.head _))) (i := 0) rfl (by decide) (by rfl) ?_)
      refine assign_Tuple_tuple hr.han ⟨_, F₈.keep _ _ et, rfl, 0, rfl⟩ rfl rfl (fun h₉ k₉ => ?_)
      have F₉ := F₈.kp (kp_ext k₉)
      refine wpAny_assignInOrder_more (wpAny_assign_Name (F₉.st (fun h₁₀ F₁₀ => ?_) eL ek e3))
      refine wpAny_assignInOrder_more (wpAny_assign_Name (F₁₀.st (fun h₁₁ F₁₁ => ?_) eL ek e7))
      refine wpAny_assignInOrder_more (wpAny_assign_Name (F₁₁.st (fun h₁₂ F₁₂ => ?_) eL ek e8))
      refine wpAny_assignInOrder_none ?_
      dsimp only
      refine wpAny_execs_cons (augN F₁₂ (by exact m3) eL ek e4 (fun h₁₃ tk₁₃ t₁₃ F₁₃ => ?_))
      dsimp only
      have hk' : KeyAt hB₇ C kk (tRec hB₇ (.ref tt)) := by rw [TupAt.rec ⟨tt, kk, tn, rfl, et, kt'⟩]; exact kt'
      refine wpAny_execs_nil (wpAny_execs_nil ⟨n - 1, by lia, .mk F₁₃ (kB.trans kB₇) (by exact m1) (by exact m2) rfl rfl hk' T' (.inl rfl) (by lia) (hN'.trans hN)⟩)
    · rw [if_neg (by simpa using hcc)]
      refine wpAny_execs_nil (wpAny_execs_nil ⟨n - 1, by lia, .mk (F₆.weak kr) kB (by exact m1) (by exact m2) (by exact m3) (by exact m4) hk (T.drop K hn hv hcc) (.inl rfl) (by lia) hN⟩)
theorem allX (x : T) : pX x := eps (P := pX) pfX0
end N_loopN
theorem loopN {w : World} {A : Around} {s : Shared} {hb h0 : Heap} {L J l Dl C f kc : Addr} {D : Value → Prop} {c : Value → Value → Int} {num : Value → Int} {vs : List Value} {fl : Led} {env : Env} {R : Result → Shared → Prop} {p1 p2 p3 p4 p5 p6 p7 p8 p9 q1 q2 q3 q4 q5 q6 q7 q8 r1 r2 r3 r4 r5 r6 r7 r8 t1 t2 t3 t4 : Pos} {k1 k2 k3 k4 N : Nat} : N_loopN.stX0 w A s hb h0 L J l Dl C f kc D c num vs fl env R p1 p2 p3 p4 p5 p6 p7 p8 p9 q1 q2 q3 q4 q5 q6 q7 q8 r1 r2 r3 r4 r5 r6 r7 r8 t1 t2 t3 t4 k1 k2 k3 k4 N := (N_loopN.allX (w, A, s, hb, h0, L, J, l, Dl, C, f, kc, D, c, num, vs, fl, env, R, p1, p2, p3, p4, p5, p6, p7, p8, p9, q1, q2, q3, q4, q5, q6, q7, q8, r1, r2, r3, r4, r5, r6, r7, r8, t1, t2, t3, t4, k1, k2, k3, k4, N))
section
variable {dir : Bool} {w : World} {A : Around} {E : Value → Shared → Prop} {s : Shared} {hb h0 : Heap} {L J l Dl C f kc : Addr} {D : Value → Prop} {c : Value → Value → Int} {num : Value → Int} {vs : List Value} {fl : Led} {env : Env} {R : Result → Shared → Prop}
variable {p1 p2 p3 p4 p5 p6 p7 p8 p9 q1 q2 q3 q4 q5 q6 q7 q8 r1 r2 r3 r4 r5 r6 r7 r8 t1 t2 t3 t4 : Pos} {k1 k2 k3 k4 N : Nat}
end
end Mine
namespace Mine
theorem Lg.freeze {hB h : Heap} {L a : Addr} {m : Str → Option Value} {P : Obj → Prop} {ls : Led} (F : Lg hB L h m ((a, P) :: ls)) : ∃ hB', Lg hB' L h m ls ∧ Kp hB hB' ∧ ∃ o, hB'.get? a = some o ∧ P o := by
  obtain ⟨o, e, p⟩ := F.get (.head _)
  have nd := F.nd
  simp only [List.map_cons, List.nodup_cons] at nd
  refine ⟨_, F.drop.rebase.1, F.drop.rebase.2, o, hideAll_get _ e (fun q => ?_), p⟩
  cases q with
  | head => exact (F.off _ (.head _)).1 rfl
  | tail _ q => exact nd.1 q
theorem Lg.freezeL {hB h : Heap} {L a : Addr} {m : Str → Option Value} {xs : List Value} {ls : Led} (F : Lg hB L h m ((a, isL xs) :: ls)) : ∃ hB', Lg hB' L h m ls ∧ Kp hB hB' ∧ PL hB' a xs :=
  by obtain ⟨hB', F', k, _, e, n, q⟩ := F.freeze; exact ⟨hB', F', k, n, by rw [e, q]⟩
section
variable {w : World} {A : Around} {E : Value → Shared → Prop} {s : Shared} {hB : Heap} {L Dl C : Addr} {D : Value → Prop} {zs : List Value} {m : Str → Option Value} {fl : Led} {env : Env} {Q : Value → Shared → Prop} {p1 p2 p3 p4 p5 p6 p7 : Pos} {k1 : Nat} {scope : Scope}
inductive LastI (s : Shared) (hB : Heap) (Cf J Dl Do : Addr) (zs : List Value) (ls : Led) (n : Nat) : Shared → Prop
  | mk {h : Heap} {tk i : Nat} {mC : Str → Option Value} (F : Lg hB Cf h mC ((J, isLI Dl i) :: (Do, isL ((zs.take i).map (tRec hB))) :: ls)) (hn : n + i = zs.length) : LastI s hB Cf J Dl Do zs ls n { s with heap := h, toks := tk }
end
namespace N_lastN
noncomputable def stX0 (w : World) (A : Around) (E : Value → Shared → Prop) (s : Shared) (hB : Heap) (L Dl C : Addr) (D : Value → Prop) (zs : List Value) (m : Str → Option Value) (fl : Led) (env : Env) (Q : Value → Shared → Prop) (p1 p2 p3 p4 p5 p6 p7 : Pos) (k1 : Nat) (scope : Scope) : Prop := ∀ (hr : Rm A 5) (F : Lg hB L s.heap m ((Dl, isL zs) :: fl)) (hm : m (Str.ofString "result") = some (.ref Dl)) (hT : ∀ v ∈ zs, IsT hB C D v) (h60 : zs.length < 60) (eL : env.locals = L) (ek : env.scope.kind = .function) (e5 : env.kindOf "result" = some .local) (hclos : closureFor scope env = pure []) (hcell : ∀ y ∈ scope.names, y.2 ≠ .cell) (hkind : scope.kind = .function) (hnames : ∀ y ∈ scope.names, y.2 = .local → scope.names.lookup y.1 = some .local) (c1 : ∀ C, (compEnvC scope [] C env).locals = C) (c2 : ∀ C, (compEnvC scope [] C env).scope.kind = .function) (c3 : ∀ C, (compEnvC scope [] C env).kindOf "k" = some .local) (c4 : ∀ C, (compEnvC scope [] C env).kindOf "order" = some .local) (c5 : ∀ C, (compEnvC scope [] C env).kindOf "elem" = some .local) (k : ∀ r h' tk, Lg hB L h' m fl → PL h' r (zs.map (tRec hB)) → Q (.ref r) { s with heap := h', toks := tk }) (hs : ∀ x, foldedSetIterable (.Name "result" p6) env x = pure x), wpAny (MM w) A (eval (.ListComp (.Name "elem" p1) [⟨.Tuple [.Name "k" p2, .Name "order" p3, .Name "elem" p4] k1 p5, .Name "result" p6, [], 0⟩] scope p7) env) Q E s
noncomputable abbrev T := World × Around × (Value → Shared → Prop) × Shared × Heap × Addr × Addr × Addr × (Value → Prop) × (List Value) × (Str → Option Value) × Led × Env × (Value → Shared → Prop) × Pos × Pos × Pos × Pos × Pos × Pos × Pos × Nat × Scope
noncomputable def pX (x : T) : Prop := stX0 x.1 x.2.1 x.2.2.1 x.2.2.2.1 x.2.2.2.2.1 x.2.2.2.2.2.1 x.2.2.2.2.2.2.1 x.2.2.2.2.2.2.2.1 x.2.2.2.2.2.2.2.2.1 x.2.2.2.2.2.2.2.2.2.1 x.2.2.2.2.2.2.2.2.2.2.1 x.2.2.2.2.2.2.2.2.2.2.2.1 x.2.2.2.2.2.2.2.2.2.2.2.2.1 x.2.2.2.2.2.2.2.2.2.2.2.2.2.1 x.2.2.2.2.2.2.2.2.2.2.2.2.2.2.1 x.2.2.2.2.2.2.2.2.2.2.2.2.2.2.2.1 x.2.2.2.2.2.2.2.2.2.2.2.2.2.2.2.2.1 x.2.2.2.2.2.2.2.2.2.2.2.2.2.2.2.2.2.1 x.2.2.2.2.2.2.2.2.2.2.2.2.2.2.2.2.2.2.1 x.2.2.2.2.2.2.2.2.2.2.2.2.2.2.2.2.2.2.2.1 x.2.2.2.2.2.2.2.2.2.2.2.2.2.2.2.2.2.2.2.2.1 x.2.2.2.2.2.2.2.2.2.2.2.2.2.2.2.2.2.2.2.2.2.1 x.2.2.2.2.2.2.2.2.2.2.2.2.2.2.2.2.2.2.2.2.2.2
noncomputable def cX : T := @Classical.epsilon _ (ne2 neW (ne2 neA (ne2 neI (ne2 neS (ne2 neI (ne2 neI (ne2 neI (ne2 neI (ne2 neI (ne2 neI (ne2 neI (ne2 neI (ne2 neI (ne2 neI (ne2 neI (ne2 neI (ne2 neI (ne2 neI (ne2 neI (ne2 neI (ne2 neI (ne2 neI neI)))))))))))))))))))))) fun x => ¬ pX x
def w : World := cX.1
def A : Around := cX.2.1
def E : Value → Shared → Prop := cX.2.2.1
def s : Shared := cX.2.2.2.1
def hB : Heap := cX.2.2.2.2.1
def L : Addr := cX.2.2.2.2.2.1
def Dl : Addr := cX.2.2.2.2.2.2.1
def C : Addr := cX.2.2.2.2.2.2.2.1
def D : Value → Prop := cX.2.2.2.2.2.2.2.2.1
def zs : List Value := cX.2.2.2.2.2.2.2.2.2.1
def m : Str → Option Value := cX.2.2.2.2.2.2.2.2.2.2.1
def fl : Led := cX.2.2.2.2.2.2.2.2.2.2.2.1
def env : Env := cX.2.2.2.2.2.2.2.2.2.2.2.2.1
def Q : Value → Shared → Prop := cX.2.2.2.2.2.2.2.2.2.2.2.2.2.1
def p1 : Pos := cX.2.2.2.2.2.2.2.2.2.2.2.2.2.2.1
def p2 : Pos := cX.2.2.2.2.2.2.2.2.2.2.2.2.2.2.2.1
def p3 : Pos := cX.2.2.2.2.2.2.2.2.2.2.2.2.2.2.2.2.1
def p4 : Pos := cX.2.2.2.2.2.2.2.2.2.2.2.2.2.2.2.2.2.1
def p5 : Pos := cX.2.2.2.2.2.2.2.2.2.2.2.2.2.2.2.2.2.2.1
def p6 : Pos := cX.2.2.2.2.2.2.2.2.2.2.2.2.2.2.2.2.2.2.2.1
def p7 : Pos := cX.2.2.2.2.2.2.2.2.2.2.2.2.2.2.2.2.2.2.2.2.1
def k1 : Nat := cX.2.2.2.2.2.2.2.2.2.2.2.2.2.2.2.2.2.2.2.2.2.1
def scope : Scope := cX.2.2.2.2.2.2.2.2.2.2.2.2.2.2.2.2.2.2.2.2.2.2
theorem pfX0 : stX0 w A E s hB L Dl C D zs m fl env Q p1 p2 p3 p4 p5 p6 p7 k1 scope := by
  intro hr F hm hT h60 eL ek e5 hclos hcell hkind hnames c1 c2 c3 c4 c5 k hs
  refine Exists.elim (F.freezeL) fun hB' z => ?_
  have F := z.1
  have kB := z.2.1
  have hl := z.2.2
  clear z
  refine listComp hclos hcell hkind hnames (F.nm hm ?_ eL ek e5) hs
  refine iterL (hl.kp F.keep) (fun J h₁ k₁ n₁ i₁ => ?_)
  have F₁ := F.freshLI k₁ n₁ i₁
  intro Do Cf h₂ k₂ nD nC dc lD nsC
  obtain ⟨F₂, kr⟩ := F₁.inner2 k₂ nD nC dc lD nsC
  generalize hideAll h₂ _ = hB₂ at F₂ kr
  have F₃ : Lg hB₂ Cf h₂ _ ((J, isLI Dl 0) :: (Do, isL []) :: (L, isNs m) :: fl) := F₂.perm ((List.perm_middle (l₁ := [_, _])).trans (List.Perm.cons _ (List.Perm.swap _ _ _)))
  clear F₂
  refine ⟨fun Q' E' hq => wpAny_pyIter_listiter (F₃.li (.head _)) hq, ?_⟩
  have kB₂ := kB.trans kr
  have hl₂ := hl.kp kr
  refine compLoopG (LastI s hB₂ Cf J Dl Do zs ((L, isNs m) :: fl)) ?_ zs.length (.mk (i := 0) F₃ rfl)
  rintro n s' ⟨F, hn⟩
  rename_i h' tk i mC
  by_cases hend : zs.length ≤ i
  · refine F.lend hr.han hl₂ hend (fun h₃ F₃ => ?_)
    dsimp only
    rw [List.take_of_length_le hend] at F₃
    refine Lg.endRet (s' := { s with heap := h₃, toks := tk }) (F₃.perm (List.Perm.swap _ _ _)) (fun h₄ F₄ => ?_)
    obtain ⟨o, e, nn, q⟩ := F₄.get (.head _)
    refine k Do h₄ tk (F₄.drop.weak kB₂) ⟨nn, ?_⟩
    rw [e, q, List.map_congr_left (fun v hv => ((hT v hv).same kB₂).1)]
  · have hlt : i < zs.length := by lia
    have hv : zs[i]? = some zs[i] := List.getElem?_eq_getElem hlt
    generalize zs[i] = v at hv
    obtain ⟨rr, nn, ⟨tt, kk, tn, rfl, et, kt'⟩, dd⟩ := hT v (List.mem_of_getElem? hv)
    refine F.lnext 0 rfl hl₂ hv (fun h₃ F₃ => ?_)
    have F₃ : Lg hB₂ Cf h₃ _ ((J, isLI Dl (i + 1)) :: (Do, isL ((zs.take i).map (tRec hB₂))) :: (L, isNs m) :: fl) := F₃
    dsimp only
    refine wpAny_letOwnedTupleGo_listiter (F₃.li (.head _)) ?_
    refine assign_Tuple_tuple hr.han ⟨_, F₃.keep _ _ (kB₂ _ _ et), rfl, 0, rfl⟩ rfl rfl (fun h₄ k₄ => ?_)
    have F₄ := F₃.kp (kp_ext k₄)
    refine wpAny_assignInOrder_more (wpAny_assign_Name (F₄.st (fun h₅ F₅ => ?_) (c1 _) (c2 _) (c3 _)))
    refine wpAny_assignInOrder_more (wpAny_assign_Name (F₅.st (fun h₆ F₆ => ?_) (c1 _) (c2 _) (c4 _)))
    refine wpAny_assignInOrder_more (wpAny_assign_Name (F₆.st (fun h₇ F₇ => ?_) (c1 _) (c2 _) (c5 _)))
    refine wpAny_assignInOrder_none (F₇.nm rfl ?_ (c1 _) (c2 _) (c5 _))
    refine appendL (F₇.pl (.tail _ (.head _))) (by simp; lia) (fun h₈ l₈ s₈ => ?_)
    have F₈ := F₇.putL 1 rfl s₈ l₈
    have er : tRec hB₂ (.ref tt) = rr := TupAt.rec ⟨tt, kk, tn, rfl, kB₂ _ _ et, kt'.kp kB₂⟩
    have el : (zs.take (i + 1)).map (tRec hB₂) = (zs.take i).map (tRec hB₂) ++ [rr] := by rw [List.take_add_one, hv, List.map_append, ← er]; rfl
    have F₉ : Lg hB₂ Cf h₈ _ ((J, isLI Dl (i + 1)) :: (Do, isL ((zs.take i).map (tRec hB₂) ++ [rr])) :: (L, isNs m) :: fl) := F₈
    rw [← el] at F₉
    exact ⟨n - 1, by lia, .mk F₉ (by lia)⟩
theorem allX (x : T) : pX x := eps (P := pX) pfX0
end N_lastN
theorem lastN {w : World} {A : Around} {E : Value → Shared → Prop} {s : Shared} {hB : Heap} {L : Addr} {Dl : Addr} {C : Addr} {D : Value → Prop} {zs : List Value} {m : Str → Option Value} {fl : Led} {env : Env} {Q : Value → Shared → Prop} {p1 : Pos} {p2 : Pos} {p3 : Pos} {p4 : Pos} {p5 : Pos} {p6 : Pos} {p7 : Pos} {k1 : Nat} {scope : Scope} (hr : Rm A 5) (F : Lg hB L s.heap m ((Dl, isL zs) :: fl)) (hm : m (Str.ofString "result") = some (.ref Dl)) (hT : ∀ v ∈ zs, IsT hB C D v) (h60 : zs.length < 60) (eL : env.locals = L) (ek : env.scope.kind = .function) (e5 : env.kindOf "result" = some .local) (hclos : closureFor scope env = pure []) (hcell : ∀ y ∈ scope.names, y.2 ≠ .cell) (hkind : scope.kind = .function) (hnames : ∀ y ∈ scope.names, y.2 = .local → scope.names.lookup y.1 = some .local) (c1 : ∀ C, (compEnvC scope [] C env).locals = C) (c2 : ∀ C, (compEnvC scope [] C env).scope.kind = .function) (c3 : ∀ C, (compEnvC scope [] C env).kindOf "k" = some .local) (c4 : ∀ C, (compEnvC scope [] C env).kindOf "order" = some .local) (c5 : ∀ C, (compEnvC scope [] C env).kindOf "elem" = some .local) (k : ∀ r h' tk, Lg hB L h' m fl → PL h' r (zs.map (tRec hB)) → Q (.ref r) { s with heap := h', toks := tk }) (hs : ∀ x, foldedSetIterable (.Name "result" p6) env x = pure x := by intro _; rfl) : wpAny (MM w) A (eval (.ListComp (.Name "elem" p1) [⟨.Tuple [.Name "k" p2, .Name "order" p3, .Name "elem" p4] k1 p5, .Name "result" p6, [], 0⟩] scope p7) env) Q E s := (N_lastN.allX (w, A, E, s, hB, L, Dl, C, D, zs, m, fl, env, Q, p1, p2, p3, p4, p5, p6, p7, k1, scope)) hr F hm hT h60 eL ek e5 hclos hcell hkind hnames c1 c2 c3 c4 c5 k hs
section
variable {w : World} {A : Around} {E : Value → Shared → Prop} {s : Shared} {hB : Heap} {L Dl C : Addr} {D : Value → Prop} {zs : List Value} {m : Str → Option Value} {fl : Led} {env : Env} {Q : Value → Shared → Prop} {p1 p2 p3 p4 p5 p6 p7 : Pos} {k1 : Nat} {scope : Scope}
end
end Mine
namespace Mine
structure EvN (dir : Bool) (env : Env) (L kc : Addr) : Prop where
  l : env.locals = L
  k : env.scope.kind = .function
  i : interactive env = false
  g : env.globals = mainGlobals
  e1 : env.kindOf "elem" = some .local
  e2 : env.kindOf "k" = some .local
  e3 : env.kindOf "top" = some .local
  e4 : env.kindOf "order" = some .local
  e5 : env.kindOf "result" = some .local
  e6 : env.kindOf "_heapreplace" = some .local
  e7 : env.kindOf "_order" = some .local
  e8 : env.kindOf "_elem" = some .local
  it : env.kindOf "it" = some .local
  n : env.kindOf "n" = some .local
  c : env.kindOf "key" = some .cell
  cl : env.cells.lookup (Str.ofString "key") = some kc
  hf : env.kindOf (cond dir "_heapify_max" "heapify") = some .globalImplicit
  hr : env.kindOf (cond dir "_heapreplace_max" "heapreplace") = some .globalImplicit
structure EvC (scope : Scope) (env : Env) : Prop where
  hclos : closureFor scope env = pure []
  hcell : ∀ y ∈ scope.names, y.2 ≠ .cell
  hkind : scope.kind = .function
  hnames : ∀ y ∈ scope.names, y.2 = .local → scope.names.lookup y.1 = some .local
  c1 : ∀ C, (compEnvC scope [] C env).locals = C
  c2 : ∀ C, (compEnvC scope [] C env).scope.kind = .function
  c3 : ∀ C, (compEnvC scope [] C env).kindOf "k" = some .local
  c4 : ∀ C, (compEnvC scope [] C env).kindOf "order" = some .local
  c5 : ∀ C, (compEnvC scope [] C env).kindOf "elem" = some .local
section
variable {dir : Bool} {w : World} {A : Around} {E : Value → Shared → Prop} {s : Shared} {hb hB : Heap} {L J l Dl C f kc : Addr} {D : Value → Prop} {c : Value → Value → Int} {num : Value → Int} {vs xs : List Value} {fl ls : Led} {env : Env} {m : Str → Option Value} {n : Int} {tn : Tok}
variable {p1 p2 p3 p4 p5 p6 p7 p8 p9 q1 q2 q3 q4 q5 q6 q7 q8 r1 r2 r3 r4 r5 r6 r7 r8 t1 t2 t3 t4 u1 u2 u3 u4 u5 u6 u7 u8 u9 v1 v2 v3 v4 v5 v6 v7 v8 v9 w1 w2 w3 w4 w5 w6 w7 w8 w9 x1 x2 x3 x4 x5 x6 x7 x8 : Pos} {k1 k2 k3 k4 k5 k6 k7 k8 : Nat} {scope : Scope}
theorem nmHf {Q : Value → Shared → Prop} (V : EvN dir env L kc) (X : KIn w s.heap) (h : Q (.ref (cond dir 70 56)) s) : wpAny (MM w) A (eval (.Name (cond dir "_heapify_max" "heapify") p1) env) Q E s := by
  cases dir
  · exact nmG X (by k_is) h V.g V.k V.hf
  · exact nmG X (by k_is) h V.g V.k V.hf
theorem nmHr {Q : Value → Shared → Prop} (V : EvN dir env L kc) (X : KIn w s.heap) (h : Q (.ref (cond dir 63 42)) s) : wpAny (MM w) A (eval (.Name (cond dir "_heapreplace_max" "heapreplace") p1) env) Q E s := by
  cases dir
  · exact nmG X (by k_is) h V.g V.k V.hr
  · exact nmG X (by k_is) h V.g V.k V.hr
theorem fnHf (X : KIn w hb) : FnAt hb (cond dir 70 56) := by
  cases dir
  · exact FnAt.of X (by k_is)
  · exact FnAt.of X (by k_is)
theorem fnHr (X : KIn w hb) : FnAt hb (cond dir 63 42) := by
  cases dir
  · exact FnAt.of X (by k_is)
  · exact FnAt.of X (by k_is)
theorem nmOr {Q : Value → Shared → Prop} (V : EvN dir env L kc) (F : Lg hB L s.heap m ls) (hm : m (Str.ofString "n") = some (.int n tn)) (h : ∀ t tk, Q (.int (sD dir n) t) { s with toks := tk }) : wpAny (MM w) A (eval (cond dir (.Name "n" p1) (.UnaryOp .USub (.Name "n" p1) p2)) env) Q E s := by
  cases dir
  · exact wpAny_UnaryOp (F.nm hm (PyProof.Rows.neg_int (h _ _)) V.l V.k V.n)
  · exact F.nm hm (h _ _) V.l V.k V.n
theorem mcall_eq {o : Expr} {name : Str} {kws : List Keyword} (ho : ∀ x, attributeBase o name env x = x) (hf : methodCallForm (0 + kws.length) (backTo p5 (starEach [] env)) (backToKw p5 (keywordEach kws env)) = true) (hp : (p2.endLine == p5.line) = true) :
    eval (.Call (.Attribute o name p2) [] kws p5) env = (do
      let ov ← eval o env
      standAt p2.atName
      let (f, first) ← holding [ov] (getMethod ov name (do return (← importBound o env).getD true))
      callWith p5 f first (backTo p5 (starEach [] env)) (backToKw p5 (keywordEach kws env))) := by
  rw [arm_eval_Call, ho]
  unfold methodCall methodCallPos calleeOf
  rw [show (([] : List Expr).length + kws.length) = 0 + kws.length from rfl, hf]
  simp only [hp, Bool.not_true, Bool.false_or, if_true, pure_bind]
theorem args_sort0 (a : Addr) : argsOk "list.sort" ⟨[.ref a], []⟩ := by unfold argsOk; kernel_rfl
theorem args_sort1 (a : Addr) : argsOk "list.sort" ⟨[.ref a], [(Str.ofString "reverse", .bool true)]⟩ := by unfold argsOk; kernel_rfl
theorem srtN {Q : Flow → Shared → Prop} {ys : List Value} (V : EvN dir env L kc) (F : Lg hB L s.heap m ((Dl, isL ys) :: fl)) (hm : m (Str.ofString "result") = some (.ref Dl)) (W : KW w hB C f D c) (K : COk c) (hr : Rm A 6) (hL : ∀ v ∈ ys, IsT hB C D v) (h1 : OneNo hB ys) (h64 : ys.length < 64) (hp : (p2.endLine == p5.line) = true)
    (h : ∀ p h' tk, Srt (ltT c hB) (katRev (!dir) ys) p → Lg hB L h' m ((Dl, isL (katRev (!dir) (outOf (katRev (!dir) ys) p))) :: fl) → Q .next { s with heap := h', toks := tk }) :
    wpAny (MM w) A (exec (.Expr (.Call (.Attribute (.Name "result" p1) "sort" p2) [] (cond dir [] [⟨some "reverse", .Constant (.bool true) k1 p3, p4⟩]) p5) p6) env) Q E s := by
  have off := (F.off _ (.head _)).2
  have go : ∀ p h' tk, Srt (ltT c hB) (katRev (!dir) ys) p → PL h' Dl (katRev (!dir) (outOf (katRev (!dir) ys) p)) → KpB [Dl] s.heap h' → Q .next { s with heap := h', toks := tk } := fun p h' tk a1 a2 a3 => h p h' tk a1 (F.butL 0 rfl a3 a2)
  cases dir
  · refine wpAny_Expr (methodCall_KW (F.nm hm ?_ V.l V.k V.e5) (mcall_eq (fun _ => rfl) rfl hp)) V.i
    refine lsMeth (F.pl (.head _)) slot_list_sort (by rfl) ?_
    refine callWith_builtin_kwB rfl rfl ?_
    refine evalArgs_kw2_nil rfl ?_
    refine kws_cons (wpAny_Constant_bool (kws_nil ?_))
    exact sortTup (b := true) W K hr F.keep off hL h1 h64 (F.pl (.head _)) (args_sort1 _) (plain_rev _) go
  · refine wpAny_Expr (MethodCall_ (F.nm hm ?_ V.l V.k V.e5) (mcall_eq (kws := []) (fun _ => rfl) rfl hp)) V.i
    refine lsMeth (F.pl (.head _)) slot_list_sort (by rfl) ?_
    refine callWith_method0 ?_
    exact sortTup (b := false) W K hr F.keep off hL h1 h64 (F.pl (.head _)) (args_sort0 _) (plain_no _) go
end
end Mine
namespace Mine
noncomputable def Firsts (c : Value → Value → Int) (num : Value → Int) (vs : List Value) (n : Int) (out : List Value) : Prop :=
  ∀ ws : List Value, ws.Perm vs → ws.Pairwise (fun u v => lt2 c (u, num u) (v, num v) = true) → out = ws.take n.toNat
theorem take_min' {α : Type} (ws : List α) (n : Nat) : ws.take (min ws.length n) = ws.take n := by
  rcases Nat.le_total ws.length n with h | h
  · rw [Nat.min_eq_left h, List.take_length, List.take_of_length_le h]
  · rw [Nat.min_eq_right h]
section
variable {dir : Bool} {w : World} {A : Around} {E : Value → Shared → Prop} {s : Shared} {hb hB : Heap} {L J l Dl C f kc : Addr} {D : Value → Prop} {c : Value → Value → Int} {num : Value → Int} {vs xs : List Value} {fl ls : Led} {env : Env} {m : Str → Option Value} {n : Int} {tn : Tok} {P : Obj → Prop}
variable {p1 p2 p3 p4 p5 p6 p7 p8 p9 q1 q2 q3 q4 q5 q6 q7 q8 r1 r2 r3 r4 r5 r6 r7 r8 t1 t2 t3 t4 u1 u2 u3 u4 u5 u6 u7 u8 u9 v1 v2 v3 v4 v5 v6 v7 v8 v9 w1 w2 w3 w4 w5 w6 w7 w8 w9 x1 x2 x3 x4 x5 x6 x7 x8 y1 y2 y3 y4 : Pos} {k1 k2 k3 k4 k5 k6 k7 k8 : Nat} {scope : Scope}
end
namespace N_tailN
noncomputable def stX0 (w : World) (A : Around) (E : Value → Shared → Prop) (hb hB : Heap) (L J l Dl C f kc : Addr) (D : Value → Prop) (c : Value → Value → Int) (num : Value → Int) (vs : List Value) (fl : Led) (env : Env) (m : Str → Option Value) (n : Int) (tn : Tok) (p1 p2 p3 p4 p5 p6 p7 p8 p9 q1 q2 q3 q4 q5 q6 q7 q8 r1 r2 r3 r4 r5 r6 r7 r8 t1 t2 t3 t4 u1 u2 u3 u4 u5 u6 u7 u8 u9 v1 v2 v3 v4 v5 v6 v7 v8 v9 w1 w2 w3 w4 w5 w6 w7 w8 w9 x1 x2 x3 x4 x5 x6 x7 x8 y1 y2 y3 y4 : Pos) (k1 k2 k3 k4 k5 k6 k7 k8 : Nat) (scope : Scope) (Q : Flow → Shared → Prop) : Prop := ∀ {dir : Bool} {s : Shared} {xs : List Value} {P : Obj → Prop} (V : EvN dir env L kc) (VC : EvC scope env) (W : KW w hb C f D c) (K : COk c) (hr : Rm A 20) (kb : Kp hb hB) (hl : PL hB l vs) (hc : hB.IsCell kc (some (.ref C))) (hn : vs.Pairwise fun u v => num u < num v) (hD : ∀ v ∈ vs, D v) (hV : ∀ v ∈ vs, ∃ q, v = .ref q) (h60 : vs.length < 60) (F : Lg hB L s.heap m ((J, P) :: (Dl, isL xs) :: fl)) (tu : Tups hB C vs 0 (sD dir 1) xs) (hxl : xs.length = min vs.length n.toNat) (hP : P = isLI l xs.length ∨ P = isLX ∧ xs.length = vs.length) (mn : m (Str.ofString "n") = some (.int n tn)) (mi : m (Str.ofString "it") = some (.ref J)) (mr : m (Str.ofString "result") = some (.ref Dl)) (hp : (x2.endLine == x5.line) = true) (k : ∀ r out h' tk, PL h' r out → Firsts (cD dir c) num vs n out → (∃ m', Lg hB L h' m' fl) → Q (.ret (.ref r)) { s with heap := h', toks := tk }), wpAny (MM w) A (execs [.If (.UnaryOp .Not (.Name "result" u1) u2) [.Return (some (.Name "result" u3)) u4] [] u5,
      .Expr (.Call (.Name (cond dir "_heapify_max" "heapify") u6) [.Name "result" u7] [] u8) u9,
      .Assign [.Name "top" v1] (.Subscript (.Subscript (.Name "result" v2) (.Constant (.int 0) k5 v3) v4) (.Constant (.int 0) k6 v5) v6) v7,
      .Assign [.Name "order" v8] (cond dir (.Name "n" v9) (.UnaryOp .USub (.Name "n" v9) w1)) w2,
      .Assign [.Name "_heapreplace" w3] (.Name (cond dir "_heapreplace_max" "heapreplace") w4) w5,
      .For (.Name "elem" p1) (.Name "it" w6) [.Assign [.Name "k" p2] (.Call (.Name "key" p3) [.Name "elem" p4] [] p5) p6, .If (.Compare (.Name (cond dir "k" "top") p7) [.Lt] [.Name (cond dir "top" "k") p8] p9) [.Expr (.Call (.Name "_heapreplace" q1) [.Name "result" q2, .Tuple [.Name "k" q3, .Name "order" q4, .Name "elem" q5] k1 q6] [] q7) q8, .Assign [.Tuple [.Name "top" r1, .Name "_order" r2, .Name "_elem" r3] k2 r4] (.Subscript (.Name "result" r5) (.Constant (.int 0) k3 r6) r7) r8, .AugAssign (.Name "order" t1) (cond dir .Add .Sub) (.Constant (.int 1) k4 t2) t3] [] t4] [] w7,
      .Expr (.Call (.Attribute (.Name "result" x1) "sort" x2) [] (cond dir [] [⟨some "reverse", .Constant (.bool true) k7 x3, x4⟩]) x5) x6,
      .Return (some (.ListComp (.Name "elem" w8) [⟨.Tuple [.Name "k" w9, .Name "order" x7, .Name "elem" x8] k8 y1, .Name "result" y2, [], 0⟩] scope y3)) y4] env) Q E s
noncomputable abbrev T := World × Around × (Value → Shared → Prop) × Heap × Heap × Addr × Addr × Addr × Addr × Addr × Addr × Addr × (Value → Prop) × (Value → Value → Int) × (Value → Int) × (List Value) × Led × Env × (Str → Option Value) × Int × Tok × Pos × Pos × Pos × Pos × Pos × Pos × Pos × Pos × Pos × Pos × Pos × Pos × Pos × Pos × Pos × Pos × Pos × Pos × Pos × Pos × Pos × Pos × Pos × Pos × Pos × Pos × Pos × Pos × Pos × Pos × Pos × Pos × Pos × Pos × Pos × Pos × Pos × Pos × Pos × Pos × Pos × Pos × Pos × Pos × Pos × Pos × Pos × Pos × Pos × Pos × Pos × Pos × Pos × Pos × Pos × Pos × Pos × Pos × Pos × Pos × Pos × Pos × Pos × Pos × Pos × Pos × Pos × Pos × Nat × Nat × Nat × Nat × Nat × Nat × Nat × Nat × Scope × (Flow → Shared → Prop)
noncomputable def pX (x : T) : Prop := stX0 x.1 x.2.1 x.2.2.1 x.2.2.2.1 x.2.2.2.2.1 x.2.2.2.2.2.1 x.2.2.2.2.2.2.1 x.2.2.2.2.2.2.2.1 x.2.2.2.2.2.2.2.2.1 x.2.2.2.2.2.2.2.2.2.1 x.2.2.2.2.2.2.2.2.2.2.1 x.2.2.2.2.2.2.2.2.2.2.2.1 x.2.2.2.2.2.2.2.2.2.2.2.2.1 x.2.2.2.2.2.2.2.2.2.2.2.2.2.1 x.2.2.2.2.2.2.2.2.2.2.2.2.2.2.1 x.2.2.2.2.2.2.2.2.2.2.2.2.2.2.2.1 x.2.2.2.2.2.2.2.2.2.2.2.2.2.2.2.2.1 x.2.2.2.2.2.2.2.2.2.2.2.2.2.2.2.2.2.1 x.2.2.2.2.2.2.2.2.2.2.2.2.2.2.2.2.2.2.1 x.2.2.2.2.2.2.2.2.2.2.2.2.2.2.2.2.2.2.2.1 x.2.2.2.2.2.2.2.2.2.2.2.2.2.2.2.2.2.2.2.2.1 x.2.2.2.2.2.2.2.2.2.2.2.2.2.2.2.2.2.2.2.2.2.1 x.2.2.2.2.2.2.2.2.2.2.2.2.2.2.2.2.2.2.2.2.2.2.1 x.2.2.2.2.2.2.2.2.2.2.2.2.2.2.2.2.2.2.2.2.2.2.2.1 x.2.2.2.2.2.2.2.2.2.2.2.2.2.2.2.2.2.2.2.2.2.2.2.2.1 x.2.2.2.2.2.2.2.2.2.2.2.2.2.2.2.2.2.2.2.2.2.2.2.2.2.1 x.2.2.2.2.2.2.2.2.2.2.2.2.2.2.2.2.2.2.2.2.2.2.2.2.2.2.1 x.2.2.2.2.2.2.2.2.2.2.2.2.2.2.2.2.2.2.2.2.2.2.2.2.2.2.2.1 x.2.2.2.2.2.2.2.2.2.2.2.2.2.2.2.2.2.2.2.2.2.2.2.2.2.2.2.2.1 x.2.2.2.2.2.2.2.2.2.2.2.2.2.2.2.2.2.2.2.2.2.2.2.2.2.2.2.2.2.1 x.2.2.2.2.2.2.2.2.2.2.2.2.2.2.2.2.2.2.2.2.2.2.2.2.2.2.2.2.2.2.1 x.2.2.2.2.2.2.2.2.2.2.2.2.2.2.2.2.2.2.2.2.2.2.2.2.2.2.2.2.2.2.2.1 x.2.2.2.2.2.2.2.2.2.2.2.2.2.2.2.2.2.2.2.2.2.2.2.2.2.2.2.2.2.2.2.2.1 x.2.2.2.2.2.2.2.2.2.2.2.2.2.2.2.2.2.2.2.2.2.2.2.2.2.2.2.2.2.2.2.2.2.1 x.2.2.2.2.2.2.2.2.2.2.2.2.2.2.2.2.2.2.2.2.2.2.2.2.2.2.2.2.2.2.2.2.2.2.1 x.2.2.2.2.2.2.2.2.2.2.2.2.2.2.2.2.2.2.2.2.2.2.2.2.2.2.2.2.2.2.2.2.2.2.2.1 x.2.2.2.2.2.2.2.2.2.2.2.2.2.2.2.2.2.2.2.2.2.2.2.2.2.2.2.2.2.2.2.2.2.2.2.2.1 x.2.2.2.2.2.2.2.2.2.2.2.2.2.2.2.2.2.2.2.2.2.2.2.2.2.2.2.2.2.2.2.2.2.2.2.2.2.1 x.2.2.2.2.2.2.2.2.2.2.2.2.2.2.2.2.2.2.2.2.2.2.2.2.2.2.2.2.2.2.2.2.2.2.2.2.2.2.1 x.2.2.2.2.2.2.2.2.2.2.2.2.2.2.2.2.2.2.2.2.2.2.2.2.2.2.2.2.2.2.2.2.2.2.2.2.2.2.2.1 x.2.2.2.2.2.2.2.2.2.2.2.2.2.2.2.2.2.2.2.2.2.2.2.2.2.2.2.2.2.2.2.2.2.2.2.2.2.2.2.2.1 x.2.2.2.2.2.2.2.2.2.2.2.2.2.2.2.2.2.2.2.2.2.2.2.2.2.2.2.2.2.2.2.2.2.2.2.2.2.2.2.2.2.1 x.2.2.2.2.2.2.2.2.2.2.2.2.2.2.2.2.2.2.2.2.2.2.2.2.2.2.2.2.2.2.2.2.2.2.2.2.2.2.2.2.2.2.1 x.2.2.2.2.2.2.2.2.2.2.2.2.2.2.2.2.2.2.2.2.2.2.2.2.2.2.2.2.2.2.2.2.2.2.2.2.2.2.2.2.2.2.2.1 x.2.2.2.2.2.2.2.2.2.2.2.2.2.2.2.2.2.2.2.2.2.2.2.2.2.2.2.2.2.2.2.2.2.2.2.2.2.2.2.2.2.2.2.2.1 x.2.2.2.2.2.2.2.2.2.2.2.2.2.2.2.2.2.2.2.2.2.2.2.2.2.2.2.2.2.2.2.2.2.2.2.2.2.2.2.2.2.2.2.2.2.1 x.2.2.2.2.2.2.2.2.2.2.2.2.2.2.2.2.2.2.2.2.2.2.2.2.2.2.2.2.2.2.2.2.2.2.2.2.2.2.2.2.2.2.2.2.2.2.1 x.2.2.2.2.2.2.2.2.2.2.2.2.2.2.2.2.2.2.2.2.2.2.2.2.2.2.2.2.2.2.2.2.2.2.2.2.2.2.2.2.2.2.2.2.2.2.2.1 x.2.2.2.2.2.2.2.2.2.2.2.2.2.2.2.2.2.2.2.2.2.2.2.2.2.2.2.2.2.2.2.2.2.2.2.2.2.2.2.2.2.2.2.2.2.2.2.2.1 x.2.2.2.2.2.2.2.2.2.2.2.2.2.2.2.2.2.2.2.2.2.2.2.2.2.2.2.2.2.2.2.2.2.2.2.2.2.2.2.2.2.2.2.2.2.2.2.2.2.1 x.2.2.2.2.2.2.2.2.2.2.2.2.2.2.2.2.2.2.2.2.2.2.2.2.2.2.2.2.2.2.2.2.2.2.2.2.2.2.2.2.2.2.2.2.2.2.2.2.2.2.1 x.2.2.2.2.2.2.2.2.2.2.2.2.2.2.2.2.2.2.2.2.2.2.2.2.2.2.2.2.2.2.2.2.2.2.2.2.2.2.2.2.2.2.2.2.2.2.2.2.2.2.2.1 x.2.2.2.2.2.2.2.2.2.2.2.2.2.2.2.2.2.2.2.2.2.2.2.2.2.2.2.2.2.2.2.2.2.2.2.2.2.2.2.2.2.2.2.2.2.2.2.2.2.2.2.2.1 x.2.2.2.2.2.2.2.2.2.2.2.2.2.2.2.2.2.2.2.2.2.2.2.2.2.2.2.2.2.2.2.2.2.2.2.2.2.2.2.2.2.2.2.2.2.2.2.2.2.2.2.2.2.1 x.2.2.2.2.2.2.2.2.2.2.2.2.2.2.2.2.2.2.2.2.2.2.2.2.2.2.2.2.2.2.2.2.2.2.2.2.2.2.2.2.2.2.2.2.2.2.2.2.2.2.2.2.2.2.1 x.2.2.2.2.2.2.2.2.2.2.2.2.2.2.2.2.2.2.2.2.2.2.2.2.2.2.2.2.2.2.2.2.2.2.2.2.2.2.2.2.2.2.2.2.2.2.2.2.2.2.2.2.2.2.2.1 x.2.2.2.2.2.2.2.2.2.2.2.2.2.2.2.2.2.2.2.2.2.2.2.2.2.2.2.2.2.2.2.2.2.2.2.2.2.2.2.2.2.2.2.2.2.2.2.2.2.2.2.2.2.2.2.2.1 x.2.2.2.2.2.2.2.2.2.2.2.2.2.2.2.2.2.2.2.2.2.2.2.2.2.2.2.2.2.2.2.2.2.2.2.2.2.2.2.2.2.2.2.2.2.2.2.2.2.2.2.2.2.2.2.2.2.1 x.2.2.2.2.2.2.2.2.2.2.2.2.2.2.2.2.2.2.2.2.2.2.2.2.2.2.2.2.2.2.2.2.2.2.2.2.2.2.2.2.2.2.2.2.2.2.2.2.2.2.2.2.2.2.2.2.2.2.1 x.2.2.2.2.2.2.2.2.2.2.2.2.2.2.2.2.2.2.2.2.2.2.2.2.2.2.2.2.2.2.2.2.2.2.2.2.2.2.2.2.2.2.2.2.2.2.2.2.2.2.2.2.2.2.2.2.2.2.2.1 x.2.2.2.2.2.2.2.2.2.2.2.2.2.2.2.2.2.2.2.2.2.2.2.2.2.2.2.2.2.2.2.2.2.2.2.2.2.2.2.2.2.2.2.2.2.2.2.2.2.2.2.2.2.2.2.2.2.2.2.2.1 x.2.2.2.2.2.2.2.2.2.2.2.2.2.2.2.2.2.2.2.2.2.2.2.2.2.2.2.2.2.2.2.2.2.2.2.2.2.2.2.2.2.2.2.2.2.2.2.2.2.2.2.2.2.2.2.2.2.2.2.2.2.1 x.2.2.2.2.2.2.2.2.2.2.2.2.2.2.2.2.2.2.2.2.2.2.2.2.2.2.2.2.2.2.2.2.2.2.2.2.2.2.2.2.2.2.2.2.2.2.2.2.2.2.2.2.2.2.2.2.2.2.2.2.2.2.1 x.2.2.2.2.2.2.2.2.2.2.2.2.2.2.2.2.2.2.2.2.2.2.2.2.2.2.2.2.2.2.2.2.2.2.2.2.2.2.2.2.2.2.2.2.2.2.2.2.2.2.2.2.2.2.2.2.2.2.2.2.2.2.2.1 x.2.2.2.2.2.2.2.2.2.2.2.2.2.2.2.2.2.2.2.2.2.2.2.2.2.2.2.2.2.2.2.2.2.2.2.2.2.2.2.2.2.2.2.2.2.2.2.2.2.2.2.2.2.2.2.2.2.2.2.2.2.2.2.2.1 x.2.2.2.2.2.2.2.2.2.2.2.2.2.2.2.2.2.2.2.2.2.2.2.2.2.2.2.2.2.2.2.2.2.2.2.2.2.2.2.2.2.2.2.2.2.2.2.2.2.2.2.2.2.2.2.2.2.2.2.2.2.2.2.2.2.1 x.2.2.2.2.2.2.2.2.2.2.2.2.2.2.2.2.2.2.2.2.2.2.2.2.2.2.2.2.2.2.2.2.2.2.2.2.2.2.2.2.2.2.2.2.2.2.2.2.2.2.2.2.2.2.2.2.2.2.2.2.2.2.2.2.2.2.1 x.2.2.2.2.2.2.2.2.2.2.2.2.2.2.2.2.2.2.2.2.2.2.2.2.2.2.2.2.2.2.2.2.2.2.2.2.2.2.2.2.2.2.2.2.2.2.2.2.2.2.2.2.2.2.2.2.2.2.2.2.2.2.2.2.2.2.2.1 x.2.2.2.2.2.2.2.2.2.2.2.2.2.2.2.2.2.2.2.2.2.2.2.2.2.2.2.2.2.2.2.2.2.2.2.2.2.2.2.2.2.2.2.2.2.2.2.2.2.2.2.2.2.2.2.2.2.2.2.2.2.2.2.2.2.2.2.2.1 x.2.2.2.2.2.2.2.2.2.2.2.2.2.2.2.2.2.2.2.2.2.2.2.2.2.2.2.2.2.2.2.2.2.2.2.2.2.2.2.2.2.2.2.2.2.2.2.2.2.2.2.2.2.2.2.2.2.2.2.2.2.2.2.2.2.2.2.2.2.1 x.2.2.2.2.2.2.2.2.2.2.2.2.2.2.2.2.2.2.2.2.2.2.2.2.2.2.2.2.2.2.2.2.2.2.2.2.2.2.2.2.2.2.2.2.2.2.2.2.2.2.2.2.2.2.2.2.2.2.2.2.2.2.2.2.2.2.2.2.2.2.1 x.2.2.2.2.2.2.2.2.2.2.2.2.2.2.2.2.2.2.2.2.2.2.2.2.2.2.2.2.2.2.2.2.2.2.2.2.2.2.2.2.2.2.2.2.2.2.2.2.2.2.2.2.2.2.2.2.2.2.2.2.2.2.2.2.2.2.2.2.2.2.2.1 x.2.2.2.2.2.2.2.2.2.2.2.2.2.2.2.2.2.2.2.2.2.2.2.2.2.2.2.2.2.2.2.2.2.2.2.2.2.2.2.2.2.2.2.2.2.2.2.2.2.2.2.2.2.2.2.2.2.2.2.2.2.2.2.2.2.2.2.2.2.2.2.2.1 x.2.2.2.2.2.2.2.2.2.2.2.2.2.2.2.2.2.2.2.2.2.2.2.2.2.2.2.2.2.2.2.2.2.2.2.2.2.2.2.2.2.2.2.2.2.2.2.2.2.2.2.2.2.2.2.2.2.2.2.2.2.2.2.2.2.2.2.2.2.2.2.2.2.1 x.2.2.2.2.2.2.2.2.2.2.2.2.2.2.2.2.2.2.2.2.2.2.2.2.2.2.2.2.2.2.2.2.2.2.2.2.2.2.2.2.2.2.2.2.2.2.2.2.2.2.2.2.2.2.2.2.2.2.2.2.2.2.2.2.2.2.2.2.2.2.2.2.2.2.1 x.2.2.2.2.2.2.2.2.2.2.2.2.2.2.2.2.2.2.2.2.2.2.2.2.2.2.2.2.2.2.2.2.2.2.2.2.2.2.2.2.2.2.2.2.2.2.2.2.2.2.2.2.2.2.2.2.2.2.2.2.2.2.2.2.2.2.2.2.2.2.2.2.2.2.2.1 x.2.2.2.2.2.2.2.2.2.2.2.2.2.2.2.2.2.2.2.2.2.2.2.2.2.2.2.2.2.2.2.2.2.2.2.2.2.2.2.2.2.2.2.2.2.2.2.2.2.2.2.2.2.2.2.2.2.2.2.2.2.2.2.2.2.2.2.2.2.2.2.2.2.2.2.2.1 x.2.2.2.2.2.2.2.2.2.2.2.2.2.2.2.2.2.2.2.2.2.2.2.2.2.2.2.2.2.2.2.2.2.2.2.2.2.2.2.2.2.2.2.2.2.2.2.2.2.2.2.2.2.2.2.2.2.2.2.2.2.2.2.2.2.2.2.2.2.2.2.2.2.2.2.2.2.1 x.2.2.2.2.2.2.2.2.2.2.2.2.2.2.2.2.2.2.2.2.2.2.2.2.2.2.2.2.2.2.2.2.2.2.2.2.2.2.2.2.2.2.2.2.2.2.2.2.2.2.2.2.2.2.2.2.2.2.2.2.2.2.2.2.2.2.2.2.2.2.2.2.2.2.2.2.2.2.1 x.2.2.2.2.2.2.2.2.2.2.2.2.2.2.2.2.2.2.2.2.2.2.2.2.2.2.2.2.2.2.2.2.2.2.2.2.2.2.2.2.2.2.2.2.2.2.2.2.2.2.2.2.2.2.2.2.2.2.2.2.2.2.2.2.2.2.2.2.2.2.2.2.2.2.2.2.2.2.2.1 x.2.2.2.2.2.2.2.2.2.2.2.2.2.2.2.2.2.2.2.2.2.2.2.2.2.2.2.2.2.2.2.2.2.2.2.2.2.2.2.2.2.2.2.2.2.2.2.2.2.2.2.2.2.2.2.2.2.2.2.2.2.2.2.2.2.2.2.2.2.2.2.2.2.2.2.2.2.2.2.2.1 x.2.2.2.2.2.2.2.2.2.2.2.2.2.2.2.2.2.2.2.2.2.2.2.2.2.2.2.2.2.2.2.2.2.2.2.2.2.2.2.2.2.2.2.2.2.2.2.2.2.2.2.2.2.2.2.2.2.2.2.2.2.2.2.2.2.2.2.2.2.2.2.2.2.2.2.2.2.2.2.2.2.1 x.2.2.2.2.2.2.2.2.2.2.2.2.2.2.2.2.2.2.2.2.2.2.2.2.2.2.2.2.2.2.2.2.2.2.2.2.2.2.2.2.2.2.2.2.2.2.2.2.2.2.2.2.2.2.2.2.2.2.2.2.2.2.2.2.2.2.2.2.2.2.2.2.2.2.2.2.2.2.2.2.2.2.1 x.2.2.2.2.2.2.2.2.2.2.2.2.2.2.2.2.2.2.2.2.2.2.2.2.2.2.2.2.2.2.2.2.2.2.2.2.2.2.2.2.2.2.2.2.2.2.2.2.2.2.2.2.2.2.2.2.2.2.2.2.2.2.2.2.2.2.2.2.2.2.2.2.2.2.2.2.2.2.2.2.2.2.2.1 x.2.2.2.2.2.2.2.2.2.2.2.2.2.2.2.2.2.2.2.2.2.2.2.2.2.2.2.2.2.2.2.2.2.2.2.2.2.2.2.2.2.2.2.2.2.2.2.2.2.2.2.2.2.2.2.2.2.2.2.2.2.2.2.2.2.2.2.2.2.2.2.2.2.2.2.2.2.2.2.2.2.2.2.2.1 x.2.2.2.2.2.2.2.2.2.2.2.2.2.2.2.2.2.2.2.2.2.2.2.2.2.2.2.2.2.2.2.2.2.2.2.2.2.2.2.2.2.2.2.2.2.2.2.2.2.2.2.2.2.2.2.2.2.2.2.2.2.2.2.2.2.2.2.2.2.2.2.2.2.2.2.2.2.2.2.2.2.2.2.2.2.1 x.2.2.2.2.2.2.2.2.2.2.2.2.2.2.2.2.2.2.2.2.2.2.2.2.2.2.2.2.2.2.2.2.2.2.2.2.2.2.2.2.2.2.2.2.2.2.2.2.2.2.2.2.2.2.2.2.2.2.2.2.2.2.2.2.2.2.2.2.2.2.2.2.2.2.2.2.2.2.2.2.2.2.2.2.2.2.1 x.2.2.2.2.2.2.2.2.2.2.2.2.2.2.2.2.2.2.2.2.2.2.2.2.2.2.2.2.2.2.2.2.2.2.2.2.2.2.2.2.2.2.2.2.2.2.2.2.2.2.2.2.2.2.2.2.2.2.2.2.2.2.2.2.2.2.2.2.2.2.2.2.2.2.2.2.2.2.2.2.2.2.2.2.2.2.2.1 x.2.2.2.2.2.2.2.2.2.2.2.2.2.2.2.2.2.2.2.2.2.2.2.2.2.2.2.2.2.2.2.2.2.2.2.2.2.2.2.2.2.2.2.2.2.2.2.2.2.2.2.2.2.2.2.2.2.2.2.2.2.2.2.2.2.2.2.2.2.2.2.2.2.2.2.2.2.2.2.2.2.2.2.2.2.2.2.2.1 x.2.2.2.2.2.2.2.2.2.2.2.2.2.2.2.2.2.2.2.2.2.2.2.2.2.2.2.2.2.2.2.2.2.2.2.2.2.2.2.2.2.2.2.2.2.2.2.2.2.2.2.2.2.2.2.2.2.2.2.2.2.2.2.2.2.2.2.2.2.2.2.2.2.2.2.2.2.2.2.2.2.2.2.2.2.2.2.2.2.1 x.2.2.2.2.2.2.2.2.2.2.2.2.2.2.2.2.2.2.2.2.2.2.2.2.2.2.2.2.2.2.2.2.2.2.2.2.2.2.2.2.2.2.2.2.2.2.2.2.2.2.2.2.2.2.2.2.2.2.2.2.2.2.2.2.2.2.2.2.2.2.2.2.2.2.2.2.2.2.2.2.2.2.2.2.2.2.2.2.2.2.1 x.2.2.2.2.2.2.2.2.2.2.2.2.2.2.2.2.2.2.2.2.2.2.2.2.2.2.2.2.2.2.2.2.2.2.2.2.2.2.2.2.2.2.2.2.2.2.2.2.2.2.2.2.2.2.2.2.2.2.2.2.2.2.2.2.2.2.2.2.2.2.2.2.2.2.2.2.2.2.2.2.2.2.2.2.2.2.2.2.2.2.2.1 x.2.2.2.2.2.2.2.2.2.2.2.2.2.2.2.2.2.2.2.2.2.2.2.2.2.2.2.2.2.2.2.2.2.2.2.2.2.2.2.2.2.2.2.2.2.2.2.2.2.2.2.2.2.2.2.2.2.2.2.2.2.2.2.2.2.2.2.2.2.2.2.2.2.2.2.2.2.2.2.2.2.2.2.2.2.2.2.2.2.2.2.2.1 x.2.2.2.2.2.2.2.2.2.2.2.2.2.2.2.2.2.2.2.2.2.2.2.2.2.2.2.2.2.2.2.2.2.2.2.2.2.2.2.2.2.2.2.2.2.2.2.2.2.2.2.2.2.2.2.2.2.2.2.2.2.2.2.2.2.2.2.2.2.2.2.2.2.2.2.2.2.2.2.2.2.2.2.2.2.2.2.2.2.2.2.2.2.1 x.2.2.2.2.2.2.2.2.2.2.2.2.2.2.2.2.2.2.2.2.2.2.2.2.2.2.2.2.2.2.2.2.2.2.2.2.2.2.2.2.2.2.2.2.2.2.2.2.2.2.2.2.2.2.2.2.2.2.2.2.2.2.2.2.2.2.2.2.2.2.2.2.2.2.2.2.2.2.2.2.2.2.2.2.2.2.2.2.2.2.2.2.2.2.1 x.2.2.2.2.2.2.2.2.2.2.2.2.2.2.2.2.2.2.2.2.2.2.2.2.2.2.2.2.2.2.2.2.2.2.2.2.2.2.2.2.2.2.2.2.2.2.2.2.2.2.2.2.2.2.2.2.2.2.2.2.2.2.2.2.2.2.2.2.2.2.2.2.2.2.2.2.2.2.2.2.2.2.2.2.2.2.2.2.2.2.2.2.2.2.2.1 x.2.2.2.2.2.2.2.2.2.2.2.2.2.2.2.2.2.2.2.2.2.2.2.2.2.2.2.2.2.2.2.2.2.2.2.2.2.2.2.2.2.2.2.2.2.2.2.2.2.2.2.2.2.2.2.2.2.2.2.2.2.2.2.2.2.2.2.2.2.2.2.2.2.2.2.2.2.2.2.2.2.2.2.2.2.2.2.2.2.2.2.2.2.2.2.2.1 x.2.2.2.2.2.2.2.2.2.2.2.2.2.2.2.2.2.2.2.2.2.2.2.2.2.2.2.2.2.2.2.2.2.2.2.2.2.2.2.2.2.2.2.2.2.2.2.2.2.2.2.2.2.2.2.2.2.2.2.2.2.2.2.2.2.2.2.2.2.2.2.2.2.2.2.2.2.2.2.2.2.2.2.2.2.2.2.2.2.2.2.2.2.2.2.2.2.1 x.2.2.2.2.2.2.2.2.2.2.2.2.2.2.2.2.2.2.2.2.2.2.2.2.2.2.2.2.2.2.2.2.2.2.2.2.2.2.2.2.2.2.2.2.2.2.2.2.2.2.2.2.2.2.2.2.2.2.2.2.2.2.2.2.2.2.2.2.2.2.2.2.2.2.2.2.2.2.2.2.2.2.2.2.2.2.2.2.2.2.2.2.2.2.2.2.2.2
noncomputable def cX : T := @Classical.epsilon _ (ne2 neW (ne2 neA (ne2 neI (ne2 neI (ne2 neI (ne2 neI (ne2 neI (ne2 neI (ne2 neI (ne2 neI (ne2 neI (ne2 neI (ne2 neI (ne2 neI (ne2 neI (ne2 neI (ne2 neI (ne2 neI (ne2 neI (ne2 neI (ne2 neI (ne2 neI (ne2 neI (ne2 neI (ne2 neI (ne2 neI (ne2 neI (ne2 neI (ne2 neI (ne2 neI (ne2 neI (ne2 neI (ne2 neI (ne2 neI (ne2 neI (ne2 neI (ne2 neI (ne2 neI (ne2 neI (ne2 neI (ne2 neI (ne2 neI (ne2 neI (ne2 neI (ne2 neI (ne2 neI (ne2 neI (ne2 neI (ne2 neI (ne2 neI (ne2 neI (ne2 neI (ne2 neI (ne2 neI (ne2 neI (ne2 neI (ne2 neI (ne2 neI (ne2 neI (ne2 neI (ne2 neI (ne2 neI (ne2 neI (ne2 neI (ne2 neI (ne2 neI (ne2 neI (ne2 neI (ne2 neI (ne2 neI (ne2 neI (ne2 neI (ne2 neI (ne2 neI (ne2 neI (ne2 neI (ne2 neI (ne2 neI (ne2 neI (ne2 neI (ne2 neI (ne2 neI (ne2 neI (ne2 neI (ne2 neI (ne2 neI (ne2 neI (ne2 neI (ne2 neI (ne2 neI (ne2 neI (ne2 neI (ne2 neI (ne2 neI (ne2 neI (ne2 neI (ne2 neI (ne2 neI neI)))))))))))))))))))))))))))))))))))))))))))))))))))))))))))))))))))))))))))))))))))))))))))))))))) fun x => ¬ pX x
def w : World := cX.1
def A : Around := cX.2.1
def E : Value → Shared → Prop := cX.2.2.1
def hb : Heap := cX.2.2.2.1
def hB : Heap := cX.2.2.2.2.1
def L : Addr := cX.2.2.2.2.2.1
def J : Addr := cX.2.2.2.2.2.2.1
def l : Addr := cX.2.2.2.2.2.2.2.1
def Dl : Addr := cX.2.2.2.2.2.2.2.2.1
def C : Addr := cX.2.2.2.2.2.2.2.2.2.1
def f : Addr := cX.2.2.2.2.2.2.2.2.2.2.1
def kc : Addr := cX.2.2.2.2.2.2.2.2.2.2.2.1
def D : Value → Prop := cX.2.2.2.2.2.2.2.2.2.2.2.2.1
def c : Value → Value → Int := cX.2.2.2.2.2.2.2.2.2.2.2.2.2.1
def num : Value → Int := cX.2.2.2.2.2.2.2.2.2.2.2.2.2.2.1
def vs : List Value := cX.2.2.2.2.2.2.2.2.2.2.2.2.2.2.2.1
def fl : Led := cX.2.2.2.2.2.2.2.2.2.2.2.2.2.2.2.2.1
def env : Env := cX.2.2.2.2.2.2.2.2.2.2.2.2.2.2.2.2.2.1
def m : Str → Option Value := cX.2.2.2.2.2.2.2.2.2.2.2.2.2.2.2.2.2.2.1
def n : Int := cX.2.2.2.2.2.2.2.2.2.2.2.2.2.2.2.2.2.2.2.1
def tn : Tok := cX.2.2.2.2.2.2.2.2.2.2.2.2.2.2.2.2.2.2.2.2.1
def p1 : Pos := cX.2.2.2.2.2.2.2.2.2.2.2.2.2.2.2.2.2.2.2.2.2.1
def p2 : Pos := cX.2.2.2.2.2.2.2.2.2.2.2.2.2.2.2.2.2.2.2.2.2.2.1
def p3 : Pos := cX.2.2.2.2.2.2.2.2.2.2.2.2.2.2.2.2.2.2.2.2.2.2.2.1
def p4 : Pos := cX.2.2.2.2.2.2.2.2.2.2.2.2.2.2.2.2.2.2.2.2.2.2.2.2.1
def p5 : Pos := cX.2.2.2.2.2.2.2.2.2.2.2.2.2.2.2.2.2.2.2.2.2.2.2.2.2.1
def p6 : Pos := cX.2.2.2.2.2.2.2.2.2.2.2.2.2.2.2.2.2.2.2.2.2.2.2.2.2.2.1
def p7 : Pos := cX.2.2.2.2.2.2.2.2.2.2.2.2.2.2.2.2.2.2.2.2.2.2.2.2.2.2.2.1
def p8 : Pos := cX.2.2.2.2.2.2.2.2.2.2.2.2.2.2.2.2.2.2.2.2.2.2.2.2.2.2.2.2.1
def p9 : Pos := cX.2.2.2.2.2.2.2.2.2.2.2.2.2.2.2.2.2.2.2.2.2.2.2.2.2.2.2.2.2.1
def q1 : Pos := cX.2.2.2.2.2.2.2.2.2.2.2.2.2.2.2.2.2.2.2.2.2.2.2.2.2.2.2.2.2.2.1
def q2 : Pos := cX.2.2.2.2.2.2.2.2.2.2.2.2.2.2.2.2.2.2.2.2.2.2.2.2.2.2.2.2.2.2.2.1
def q3 : Pos := cX.2.2.2.2.2.2.2.2.2.2.2.2.2.2.2.2.2.2.2.2.2.2.2.2.2.2.2.2.2.2.2.2.1
def q4 : Pos := cX.2.2.2.2.2.2.2.2.2.2.2.2.2.2.2.2.2.2.2.2.2.2.2.2.2.2.2.2.2.2.2.2.2.1
def q5 : Pos := cX.2.2.2.2.2.2.2.2.2.2.2.2.2.2.2.2.2.2.2.2.2.2.2.2.2.2.2.2.2.2.2.2.2.2.1
def q6 : Pos := cX.2.2.2.2.2.2.2.2.2.2.2.2.2.2.2.2.2.2.2.2.2.2.2.2.2.2.2.2.2.2.2.2.2.2.2.1
def q7 : Pos := cX.2.2.2.2.2.2.2.2.2.2.2.2.2.2.2.2.2.2.2.2.2.2.2.2.2.2.2.2.2.2.2.2.2.2.2.2.1
def q8 : Pos := cX.2.2.2.2.2.2.2.2.2.2.2.2.2.2.2.2.2.2.2.2.2.2.2.2.2.2.2.2.2.2.2.2.2.2.2.2.2.1
def r1 : Pos := cX.2.2.2.2.2.2.2.2.2.2.2.2.2.2.2.2.2.2.2.2.2.2.2.2.2.2.2.2.2.2.2.2.2.2.2.2.2.2.1
def r2 : Pos := cX.2.2.2.2.2.2.2.2.2.2.2.2.2.2.2.2.2.2.2.2.2.2.2.2.2.2.2.2.2.2.2.2.2.2.2.2.2.2.2.1
def r3 : Pos := cX.2.2.2.2.2.2.2.2.2.2.2.2.2.2.2.2.2.2.2.2.2.2.2.2.2.2.2.2.2.2.2.2.2.2.2.2.2.2.2.2.1
def r4 : Pos := cX.2.2.2.2.2.2.2.2.2.2.2.2.2.2.2.2.2.2.2.2.2.2.2.2.2.2.2.2.2.2.2.2.2.2.2.2.2.2.2.2.2.1
def r5 : Pos := cX.2.2.2.2.2.2.2.2.2.2.2.2.2.2.2.2.2.2.2.2.2.2.2.2.2.2.2.2.2.2.2.2.2.2.2.2.2.2.2.2.2.2.1
def r6 : Pos := cX.2.2.2.2.2.2.2.2.2.2.2.2.2.2.2.2.2.2.2.2.2.2.2.2.2.2.2.2.2.2.2.2.2.2.2.2.2.2.2.2.2.2.2.1
def r7 : Pos := cX.2.2.2.2.2.2.2.2.2.2.2.2.2.2.2.2.2.2.2.2.2.2.2.2.2.2.2.2.2.2.2.2.2.2.2.2.2.2.2.2.2.2.2.2.1
def r8 : Pos := cX.2.2.2.2.2.2.2.2.2.2.2.2.2.2.2.2.2.2.2.2.2.2.2.2.2.2.2.2.2.2.2.2.2.2.2.2.2.2.2.2.2.2.2.2.2.1
def t1 : Pos := cX.2.2.2.2.2.2.2.2.2.2.2.2.2.2.2.2.2.2.2.2.2.2.2.2.2.2.2.2.2.2.2.2.2.2.2.2.2.2.2.2.2.2.2.2.2.2.1
def t2 : Pos := cX.2.2.2.2.2.2.2.2.2.2.2.2.2.2.2.2.2.2.2.2.2.2.2.2.2.2.2.2.2.2.2.2.2.2.2.2.2.2.2.2.2.2.2.2.2.2.2.1
def t3 : Pos := cX.2.2.2.2.2.2.2.2.2.2.2.2.2.2.2.2.2.2.2.2.2.2.2.2.2.2.2.2.2.2.2.2.2.2.2.2.2.2.2.2.2.2.2.2.2.2.2.2.1
def t4 : Pos := cX.2.2.2.2.2.2.2.2.2.2.2.2.2.2.2.2.2.2.2.2.2.2.2.2.2.2.2.2.2.2.2.2.2.2.2.2.2.2.2.2.2.2.2.2.2.2.2.2.2.1
def u1 : Pos := cX.2.2.2.2.2.2.2.2.2.2.2.2.2.2.2.2.2.2.2.2.2.2.2.2.2.2.2.2.2.2.2.2.2.2.2.2.2.2.2.2.2.2.2.2.2.2.2.2.2.2.1
def u2 : Pos := cX.2.2.2.2.2.2.2.2.2.2.2.2.2.2.2.2.2.2.2.2.2.2.2.2.2.2.2.2.2.2.2.2.2.2.2.2.2.2.2.2.2.2.2.2.2.2.2.2.2.2.2.1
def u3 : Pos := cX.2.2.2.2.2.2.2.2.2.2.2.2.2.2.2.2.2.2.2.2.2.2.2.2.2.2.2.2.2.2.2.2.2.2.2.2.2.2.2.2.2.2.2.2.2.2.2.2.2.2.2.2.1
def u4 : Pos := cX.2.2.2.2.2.2.2.2.2.2.2.2.2.2.2.2.2.2.2.2.2.2.2.2.2.2.2.2.2.2.2.2.2.2.2.2.2.2.2.2.2.2.2.2.2.2.2.2.2.2.2.2.2.1
def u5 : Pos := cX.2.2.2.2.2.2.2.2.2.2.2.2.2.2.2.2.2.2.2.2.2.2.2.2.2.2.2.2.2.2.2.2.2.2.2.2.2.2.2.2.2.2.2.2.2.2.2.2.2.2.2.2.2.2.1
def u6 : Pos := cX.2.2.2.2.2.2.2.2.2.2.2.2.2.2.2.2.2.2.2.2.2.2.2.2.2.2.2.2.2.2.2.2.2.2.2.2.2.2.2.2.2.2.2.2.2.2.2.2.2.2.2.2.2.2.2.1
def u7 : Pos := cX.2.2.2.2.2.2.2.2.2.2.2.2.2.2.2.2.2.2.2.2.2.2.2.2.2.2.2.2.2.2.2.2.2.2.2.2.2.2.2.2.2.2.2.2.2.2.2.2.2.2.2.2.2.2.2.2.1
def u8 : Pos := cX.2.2.2.2.2.2.2.2.2.2.2.2.2.2.2.2.2.2.2.2.2.2.2.2.2.2.2.2.2.2.2.2.2.2.2.2.2.2.2.2.2.2.2.2.2.2.2.2.2.2.2.2.2.2.2.2.2.1
def u9 : Pos := cX.2.2.2.2.2.2.2.2.2.2.2.2.2.2.2.2.2.2.2.2.2.2.2.2.2.2.2.2.2.2.2.2.2.2.2.2.2.2.2.2.2.2.2.2.2.2.2.2.2.2.2.2.2.2.2.2.2.2.1
def v1 : Pos := cX.2.2.2.2.2.2.2.2.2.2.2.2.2.2.2.2.2.2.2.2.2.2.2.2.2.2.2.2.2.2.2.2.2.2.2.2.2.2.2.2.2.2.2.2.2.2.2.2.2.2.2.2.2.2.2.2.2.2.2.1
def v2 : Pos := cX.2.2.2.2.2.2.2.2.2.2.2.2.2.2.2.2.2.2.2.2.2.2.2.2.2.2.2.2.2.2.2.2.2.2.2.2.2.2.2.2.2.2.2.2.2.2.2.2.2.2.2.2.2.2.2.2.2.2.2.2.1
def v3 : Pos := cX.2.2.2.2.2.2.2.2.2.2.2.2.2.2.2.2.2.2.2.2.2.2.2.2.2.2.2.2.2.2.2.2.2.2.2.2.2.2.2.2.2.2.2.2.2.2.2.2.2.2.2.2.2.2.2.2.2.2.2.2.2.1
def v4 : Pos := cX.2.2.2.2.2.2.2.2.2.2.2.2.2.2.2.2.2.2.2.2.2.2.2.2.2.2.2.2.2.2.2.2.2.2.2.2.2.2.2.2.2.2.2.2.2.2.2.2.2.2.2.2.2.2.2.2.2.2.2.2.2.2.1
def v5 : Pos := cX.2.2.2.2.2.2.2.2.2.2.2.2.2.2.2.2.2.2.2.2.2.2.2.2.2.2.2.2.2.2.2.2.2.2.2.2.2.2.2.2.2.2.2.2.2.2.2.2.2.2.2.2.2.2.2.2.2.2.2.2.2.2.2.1
def v6 : Pos := cX.2.2.2.2.2.2.2.2.2.2.2.2.2.2.2.2.2.2.2.2.2.2.2.2.2.2.2.2.2.2.2.2.2.2.2.2.2.2.2.2.2.2.2.2.2.2.2.2.2.2.2.2.2.2.2.2.2.2.2.2.2.2.2.2.1
def v7 : Pos := cX.2.2.2.2.2.2.2.2.2.2.2.2.2.2.2.2.2.2.2.2.2.2.2.2.2.2.2.2.2.2.2.2.2.2.2.2.2.2.2.2.2.2.2.2.2.2.2.2.2.2.2.2.2.2.2.2.2.2.2.2.2.2.2.2.2.1
def v8 : Pos := cX.2.2.2.2.2.2.2.2.2.2.2.2.2.2.2.2.2.2.2.2.2.2.2.2.2.2.2.2.2.2.2.2.2.2.2.2.2.2.2.2.2.2.2.2.2.2.2.2.2.2.2.2.2.2.2.2.2.2.2.2.2.2.2.2.2.2.1
def v9 : Pos := cX.2.2.2.2.2.2.2.2.2.2.2.2.2.2.2.2.2.2.2.2.2.2.2.2.2.2.2.2.2.2.2.2.2.2.2.2.2.2.2.2.2.2.2.2.2.2.2.2.2.2.2.2.2.2.2.2.2.2.2.2.2.2.2.2.2.2.2.1
def w1 : Pos := cX.2.2.2.2.2.2.2.2.2.2.2.2.2.2.2.2.2.2.2.2.2.2.2.2.2.2.2.2.2.2.2.2.2.2.2.2.2.2.2.2.2.2.2.2.2.2.2.2.2.2.2.2.2.2.2.2.2.2.2.2.2.2.2.2.2.2.2.2.1
def w2 : Pos := cX.2.2.2.2.2.2.2.2.2.2.2.2.2.2.2.2.2.2.2.2.2.2.2.2.2.2.2.2.2.2.2.2.2.2.2.2.2.2.2.2.2.2.2.2.2.2.2.2.2.2.2.2.2.2.2.2.2.2.2.2.2.2.2.2.2.2.2.2.2.1
def w3 : Pos := cX.2.2.2.2.2.2.2.2.2.2.2.2.2.2.2.2.2.2.2.2.2.2.2.2.2.2.2.2.2.2.2.2.2.2.2.2.2.2.2.2.2.2.2.2.2.2.2.2.2.2.2.2.2.2.2.2.2.2.2.2.2.2.2.2.2.2.2.2.2.2.1
def w4 : Pos := cX.2.2.2.2.2.2.2.2.2.2.2.2.2.2.2.2.2.2.2.2.2.2.2.2.2.2.2.2.2.2.2.2.2.2.2.2.2.2.2.2.2.2.2.2.2.2.2.2.2.2.2.2.2.2.2.2.2.2.2.2.2.2.2.2.2.2.2.2.2.2.2.1
def w5 : Pos := cX.2.2.2.2.2.2.2.2.2.2.2.2.2.2.2.2.2.2.2.2.2.2.2.2.2.2.2.2.2.2.2.2.2.2.2.2.2.2.2.2.2.2.2.2.2.2.2.2.2.2.2.2.2.2.2.2.2.2.2.2.2.2.2.2.2.2.2.2.2.2.2.2.1
def w6 : Pos := cX.2.2.2.2.2.2.2.2.2.2.2.2.2.2.2.2.2.2.2.2.2.2.2.2.2.2.2.2.2.2.2.2.2.2.2.2.2.2.2.2.2.2.2.2.2.2.2.2.2.2.2.2.2.2.2.2.2.2.2.2.2.2.2.2.2.2.2.2.2.2.2.2.2.1
def w7 : Pos := cX.2.2.2.2.2.2.2.2.2.2.2.2.2.2.2.2.2.2.2.2.2.2.2.2.2.2.2.2.2.2.2.2.2.2.2.2.2.2.2.2.2.2.2.2.2.2.2.2.2.2.2.2.2.2.2.2.2.2.2.2.2.2.2.2.2.2.2.2.2.2.2.2.2.2.1
def w8 : Pos := cX.2.2.2.2.2.2.2.2.2.2.2.2.2.2.2.2.2.2.2.2.2.2.2.2.2.2.2.2.2.2.2.2.2.2.2.2.2.2.2.2.2.2.2.2.2.2.2.2.2.2.2.2.2.2.2.2.2.2.2.2.2.2.2.2.2.2.2.2.2.2.2.2.2.2.2.1
def w9 : Pos := cX.2.2.2.2.2.2.2.2.2.2.2.2.2.2.2.2.2.2.2.2.2.2.2.2.2.2.2.2.2.2.2.2.2.2.2.2.2.2.2.2.2.2.2.2.2.2.2.2.2.2.2.2.2.2.2.2.2.2.2.2.2.2.2.2.2.2.2.2.2.2.2.2.2.2.2.2.1
def x1 : Pos := cX.2.2.2.2.2.2.2.2.2.2.2.2.2.2.2.2.2.2.2.2.2.2.2.2.2.2.2.2.2.2.2.2.2.2.2.2.2.2.2.2.2.2.2.2.2.2.2.2.2.2.2.2.2.2.2.2.2.2.2.2.2.2.2.2.2.2.2.2.2.2.2.2.2.2.2.2.2.1
def x2 : Pos := cX.2.2.2.2.2.2.2.2.2.2.2.2.2.2.2.2.2.2.2.2.2.2.2.2.2.2.2.2.2.2.2.2.2.2.2.2.2.2.2.2.2.2.2.2.2.2.2.2.2.2.2.2.2.2.2.2.2.2.2.2.2.2.2.2.2.2.2.2.2.2.2.2.2.2.2.2.2.2.1
def x3 : Pos := cX.2.2.2.2.2.2.2.2.2.2.2.2.2.2.2.2.2.2.2.2.2.2.2.2.2.2.2.2.2.2.2.2.2.2.2.2.2.2.2.2.2.2.2.2.2.2.2.2.2.2.2.2.2.2.2.2.2.2.2.2.2.2.2.2.2.2.2.2.2.2.2.2.2.2.2.2.2.2.2.1
def x4 : Pos := cX.2.2.2.2.2.2.2.2.2.2.2.2.2.2.2.2.2.2.2.2.2.2.2.2.2.2.2.2.2.2.2.2.2.2.2.2.2.2.2.2.2.2.2.2.2.2.2.2.2.2.2.2.2.2.2.2.2.2.2.2.2.2.2.2.2.2.2.2.2.2.2.2.2.2.2.2.2.2.2.2.1
def x5 : Pos := cX.2.2.2.2.2.2.2.2.2.2.2.2.2.2.2.2.2.2.2.2.2.2.2.2.2.2.2.2.2.2.2.2.2.2.2.2.2.2.2.2.2.2.2.2.2.2.2.2.2.2.2.2.2.2.2.2.2.2.2.2.2.2.2.2.2.2.2.2.2.2.2.2.2.2.2.2.2.2.2.2.2.1
def x6 : Pos := cX.2.2.2.2.2.2.2.2.2.2.2.2.2.2.2.2.2.2.2.2.2.2.2.2.2.2.2.2.2.2.2.2.2.2.2.2.2.2.2.2.2.2.2.2.2.2.2.2.2.2.2.2.2.2.2.2.2.2.2.2.2.2.2.2.2.2.2.2.2.2.2.2.2.2.2.2.2.2.2.2.2.2.1
def x7 : Pos := cX.2.2.2.2.2.2.2.2.2.2.2.2.2.2.2.2.2.2.2.2.2.2.2.2.2.2.2.2.2.2.2.2.2.2.2.2.2.2.2.2.2.2.2.2.2.2.2.2.2.2.2.2.2.2.2.2.2.2.2.2.2.2.2.2.2.2.2.2.2.2.2.2.2.2.2.2.2.2.2.2.2.2.2.1
def x8 : Pos := cX.2.2.2.2.2.2.2.2.2.2.2.2.2.2.2.2.2.2.2.2.2.2.2.2.2.2.2.2.2.2.2.2.2.2.2.2.2.2.2.2.2.2.2.2.2.2.2.2.2.2.2.2.2.2.2.2.2.2.2.2.2.2.2.2.2.2.2.2.2.2.2.2.2.2.2.2.2.2.2.2.2.2.2.2.1
def y1 : Pos := cX.2.2.2.2.2.2.2.2.2.2.2.2.2.2.2.2.2.2.2.2.2.2.2.2.2.2.2.2.2.2.2.2.2.2.2.2.2.2.2.2.2.2.2.2.2.2.2.2.2.2.2.2.2.2.2.2.2.2.2.2.2.2.2.2.2.2.2.2.2.2.2.2.2.2.2.2.2.2.2.2.2.2.2.2.2.1
def y2 : Pos := cX.2.2.2.2.2.2.2.2.2.2.2.2.2.2.2.2.2.2.2.2.2.2.2.2.2.2.2.2.2.2.2.2.2.2.2.2.2.2.2.2.2.2.2.2.2.2.2.2.2.2.2.2.2.2.2.2.2.2.2.2.2.2.2.2.2.2.2.2.2.2.2.2.2.2.2.2.2.2.2.2.2.2.2.2.2.2.1
def y3 : Pos := cX.2.2.2.2.2.2.2.2.2.2.2.2.2.2.2.2.2.2.2.2.2.2.2.2.2.2.2.2.2.2.2.2.2.2.2.2.2.2.2.2.2.2.2.2.2.2.2.2.2.2.2.2.2.2.2.2.2.2.2.2.2.2.2.2.2.2.2.2.2.2.2.2.2.2.2.2.2.2.2.2.2.2.2.2.2.2.2.1
def y4 : Pos := cX.2.2.2.2.2.2.2.2.2.2.2.2.2.2.2.2.2.2.2.2.2.2.2.2.2.2.2.2.2.2.2.2.2.2.2.2.2.2.2.2.2.2.2.2.2.2.2.2.2.2.2.2.2.2.2.2.2.2.2.2.2.2.2.2.2.2.2.2.2.2.2.2.2.2.2.2.2.2.2.2.2.2.2.2.2.2.2.2.1
def k1 : Nat := cX.2.2.2.2.2.2.2.2.2.2.2.2.2.2.2.2.2.2.2.2.2.2.2.2.2.2.2.2.2.2.2.2.2.2.2.2.2.2.2.2.2.2.2.2.2.2.2.2.2.2.2.2.2.2.2.2.2.2.2.2.2.2.2.2.2.2.2.2.2.2.2.2.2.2.2.2.2.2.2.2.2.2.2.2.2.2.2.2.2.1
def k2 : Nat := cX.2.2.2.2.2.2.2.2.2.2.2.2.2.2.2.2.2.2.2.2.2.2.2.2.2.2.2.2.2.2.2.2.2.2.2.2.2.2.2.2.2.2.2.2.2.2.2.2.2.2.2.2.2.2.2.2.2.2.2.2.2.2.2.2.2.2.2.2.2.2.2.2.2.2.2.2.2.2.2.2.2.2.2.2.2.2.2.2.2.2.1
def k3 : Nat := cX.2.2.2.2.2.2.2.2.2.2.2.2.2.2.2.2.2.2.2.2.2.2.2.2.2.2.2.2.2.2.2.2.2.2.2.2.2.2.2.2.2.2.2.2.2.2.2.2.2.2.2.2.2.2.2.2.2.2.2.2.2.2.2.2.2.2.2.2.2.2.2.2.2.2.2.2.2.2.2.2.2.2.2.2.2.2.2.2.2.2.2.1
def k4 : Nat := cX.2.2.2.2.2.2.2.2.2.2.2.2.2.2.2.2.2.2.2.2.2.2.2.2.2.2.2.2.2.2.2.2.2.2.2.2.2.2.2.2.2.2.2.2.2.2.2.2.2.2.2.2.2.2.2.2.2.2.2.2.2.2.2.2.2.2.2.2.2.2.2.2.2.2.2.2.2.2.2.2.2.2.2.2.2.2.2.2.2.2.2.2.1
def k5 : Nat := cX.2.2.2.2.2.2.2.2.2.2.2.2.2.2.2.2.2.2.2.2.2.2.2.2.2.2.2.2.2.2.2.2.2.2.2.2.2.2.2.2.2.2.2.2.2.2.2.2.2.2.2.2.2.2.2.2.2.2.2.2.2.2.2.2.2.2.2.2.2.2.2.2.2.2.2.2.2.2.2.2.2.2.2.2.2.2.2.2.2.2.2.2.2.1
def k6 : Nat := cX.2.2.2.2.2.2.2.2.2.2.2.2.2.2.2.2.2.2.2.2.2.2.2.2.2.2.2.2.2.2.2.2.2.2.2.2.2.2.2.2.2.2.2.2.2.2.2.2.2.2.2.2.2.2.2.2.2.2.2.2.2.2.2.2.2.2.2.2.2.2.2.2.2.2.2.2.2.2.2.2.2.2.2.2.2.2.2.2.2.2.2.2.2.2.1
def k7 : Nat := cX.2.2.2.2.2.2.2.2.2.2.2.2.2.2.2.2.2.2.2.2.2.2.2.2.2.2.2.2.2.2.2.2.2.2.2.2.2.2.2.2.2.2.2.2.2.2.2.2.2.2.2.2.2.2.2.2.2.2.2.2.2.2.2.2.2.2.2.2.2.2.2.2.2.2.2.2.2.2.2.2.2.2.2.2.2.2.2.2.2.2.2.2.2.2.2.1
def k8 : Nat := cX.2.2.2.2.2.2.2.2.2.2.2.2.2.2.2.2.2.2.2.2.2.2.2.2.2.2.2.2.2.2.2.2.2.2.2.2.2.2.2.2.2.2.2.2.2.2.2.2.2.2.2.2.2.2.2.2.2.2.2.2.2.2.2.2.2.2.2.2.2.2.2.2.2.2.2.2.2.2.2.2.2.2.2.2.2.2.2.2.2.2.2.2.2.2.2.2.1
def scope : Scope := cX.2.2.2.2.2.2.2.2.2.2.2.2.2.2.2.2.2.2.2.2.2.2.2.2.2.2.2.2.2.2.2.2.2.2.2.2.2.2.2.2.2.2.2.2.2.2.2.2.2.2.2.2.2.2.2.2.2.2.2.2.2.2.2.2.2.2.2.2.2.2.2.2.2.2.2.2.2.2.2.2.2.2.2.2.2.2.2.2.2.2.2.2.2.2.2.2.2.1
def Q : Flow → Shared → Prop := cX.2.2.2.2.2.2.2.2.2.2.2.2.2.2.2.2.2.2.2.2.2.2.2.2.2.2.2.2.2.2.2.2.2.2.2.2.2.2.2.2.2.2.2.2.2.2.2.2.2.2.2.2.2.2.2.2.2.2.2.2.2.2.2.2.2.2.2.2.2.2.2.2.2.2.2.2.2.2.2.2.2.2.2.2.2.2.2.2.2.2.2.2.2.2.2.2.2.2
theorem pfX0 : stX0 w A E hb hB L J l Dl C f kc D c num vs fl env m n tn p1 p2 p3 p4 p5 p6 p7 p8 p9 q1 q2 q3 q4 q5 q6 q7 q8 r1 r2 r3 r4 r5 r6 r7 r8 t1 t2 t3 t4 u1 u2 u3 u4 u5 u6 u7 u8 u9 v1 v2 v3 v4 v5 v6 v7 v8 v9 w1 w2 w3 w4 w5 w6 w7 w8 w9 x1 x2 x3 x4 x5 x6 x7 x8 y1 y2 y3 y4 k1 k2 k3 k4 k5 k6 k7 k8 scope Q := by
  intro dir s xs P V VC W K hr kb hl hc hn hD hV h60 F tu hxl hP mn mi mr hp k
  obtain ⟨hh, g, d, tk0, os⟩ := s
  dsimp only at F k
  have X := W.x.kp kb
  have hxz : xs.length < 60 := by lia
  refine wpAny_execs_cons (wpAny_If (isTrue_not (isTrue_plain (F.nm mr ?_ V.l V.k V.e5))))
  refine wpAny_truthy_list (F.pl (.tail _ (.head _))).il (by simp; lia) ?_
  by_cases ex : xs = []
  · subst ex
    simp only [List.isEmpty_toArray, List.isEmpty_nil, Bool.not_true, Bool.not_false, if_true]
    refine wpAny_execs_cons (wpAny_Return_some (F.nm mr ?_ V.l V.k V.e5))
    refine k Dl [] _ _ (F.pl (.tail _ (.head _))) (fun ws wp _ => ?_) ⟨_, F.drop.drop⟩
    have h0 : min vs.length n.toNat = 0 := hxl.symm
    have := take_min' ws n.toNat
    rw [wp.length_eq, h0, List.take_zero] at this
    exact this
  · have hp0 : 0 < xs.length := List.length_pos_iff.mpr ex
    have e1 : (!xs.toArray.isEmpty) = true := by simpa using ex
    rw [e1]
    simp only [Bool.not_true, Bool.false_eq_true, if_false]
    refine wpAny_execs_nil ?_
    obtain ⟨all1, one1, T, pm⟩ := TS.init (dir := dir) (ord := sD dir n) K hn hD hV tu rfl (by lia) (by cases dir <;> simp only [sD, cond_true, cond_false] <;> lia)
    have W' := W.kp kb
    refine wpAny_execs_cons (wpAny_Expr (Call_ (nmHf V (X.kp F.keep) (callWith_F (args_cons (F.nm mr (args_nil ⟨fnHf (X.kp F.keep), ?_⟩) V.l V.k V.e5))))) V.i)
    refine hpfy W'.x (cmpT W' K all1 one1) (hr.le (by decide)) F.keep (F.off _ (.tail _ (.head _))).2 (F.pl (.tail _ (.head _))) (fun v hv => hv) (by lia) (fun h₂ tk₂ k₂ l₂ => ?_)
    have F₂ := F.butL 1 rfl k₂ l₂
    obtain ⟨t', r', e'⟩ : ∃ t' r', hpfyA (dl dir (ltT c hB)) (dl dir (ltT c hB)) .none (xs.length / 2) xs = t' :: r' := by
      cases q : hpfyA (dl dir (ltT c hB)) (dl dir (ltT c hB)) .none (xs.length / 2) xs with
      | nil => rw [q] at pm; exact absurd (List.nil_perm.mp pm) ex
      | cons a b => exact ⟨a, b, rfl⟩
    rw [e'] at T F₂ pm
    obtain ⟨rr, nn, ⟨tt, kk, tn', rfl, et, kt'⟩, dd⟩ := T.isT t' (.head _)
    have hk : KeyAt hB C kk (tRec hB (.ref tt)) := by rw [TupAt.rec ⟨tt, kk, tn', rfl, et, kt'⟩]; exact kt'
    dsimp only
    refine wpAny_execs_cons (wpAny_Assign_Name ?_)
    refine Subscript_ (Subscript_ (F₂.nm mr ?_ V.l V.k V.e5))
    refine wpAny_Constant_int (itemL (xs := .ref tt :: r') (v := .ref tt) (F₂.pl (.tail _ (.head _))) (i := 0) rfl (by decide) (by rfl) ?_)
    refine wpAny_Constant_int (item_tupleT (l := [.ref kk, .int nn tn', rr]) (j := 0) ⟨_, F₂.keep _ _ et, rfl, 0, rfl⟩ (by decide) (by decide) rfl rfl ?_)
    refine F₂.st (fun h₃ F₃ => ?_) V.l V.k V.e3
    dsimp only
    refine wpAny_execs_cons (wpAny_Assign_Name (nmOr V F₃ (by exact mn) (fun t tk => ?_)) (by cases dir <;> rfl))
    refine F₃.st (fun h₄ F₄ => ?_) V.l V.k V.e4
    dsimp only
    refine wpAny_execs_cons (wpAny_Assign_Name (nmHr V (X.kp F₄.keep) ?_))
    refine F₄.st (fun h₅ F₅ => ?_) V.l V.k V.e6
    dsimp only
    obtain ⟨oJ, eJ, pJ⟩ := F₅.get (.head _)
    have cJ : oJ.cls = .type "list_iterator" := by rcases hP with rfl | ⟨rfl, _⟩ <;> exact pJ.1
    refine wpAny_execs_cons (wpAny_For (F₅.nm (by exact mi) ?_ V.l V.k V.it))
    refine iterLI eJ cJ ?_
    refine loopN (s := ⟨hh, g, d, tk0, os⟩) (h0 := hB) (N := xs.length) (num := num) (n := vs.length - xs.length) W K hr kb hl hc hn hD hV hxz (fnHr W.x) V.i V.l V.k V.e1 V.e2 V.e3 V.e4 V.e5 V.e6 V.e7 V.e8 V.c V.cl (fun h₆ tk₆ m₆ hB₆ t r ord F₆ kB₆ m6 T₆ hN₆ => ?_) (NI.mk (j := xs.length) F₅ (Kp.refl _) (by exact mr) rfl rfl rfl hk T hP (by lia) pm.length_eq)
    dsimp only
    have hr6 := hr.le (k := 6) (by decide)
    refine wpAny_execs_cons (srtN V F₆ m6 (W.kp (kb.trans kB₆)) K hr6 T₆.isT T₆.one (by lia) hp (fun p h₇ tk₇ S₇ F₇ => ?_))
    dsimp only
    have ol := out_len S₇
    refine wpAny_execs_cons (wpAny_Return_some (lastN (hr.le (by decide)) F₇ m6 (fun v hv => T₆.isT v (mem_katRev (S₇.perm.mem_iff.mp (mem_katRev hv)))) (by lia) V.l V.k V.e5 VC.hclos VC.hcell VC.hkind VC.hnames VC.c1 VC.c2 VC.c3 VC.c4 VC.c5 (fun r h₈ tk₈ F₈ l₈ => ?_)))
    refine k r _ h₈ tk₈ l₈ (fun ws wp wsd => ?_) ⟨_, F₈.weak kB₆⟩
    rw [T₆.fin K hn (Nat.le_refl _) S₇ wp wsd, hN₆, hxl, ← wp.length_eq, take_min']
theorem allX (x : T) : pX x := eps (P := pX) pfX0
end N_tailN
theorem tailN {w : World} {A : Around} {E : Value → Shared → Prop} {hb hB : Heap} {L J l Dl C f kc : Addr} {D : Value → Prop} {c : Value → Value → Int} {num : Value → Int} {vs : List Value} {fl : Led} {env : Env} {m : Str → Option Value} {n : Int} {tn : Tok} {p1 p2 p3 p4 p5 p6 p7 p8 p9 q1 q2 q3 q4 q5 q6 q7 q8 r1 r2 r3 r4 r5 r6 r7 r8 t1 t2 t3 t4 u1 u2 u3 u4 u5 u6 u7 u8 u9 v1 v2 v3 v4 v5 v6 v7 v8 v9 w1 w2 w3 w4 w5 w6 w7 w8 w9 x1 x2 x3 x4 x5 x6 x7 x8 y1 y2 y3 y4 : Pos} {k1 k2 k3 k4 k5 k6 k7 k8 : Nat} {scope : Scope} {Q : Flow → Shared → Prop} : N_tailN.stX0 w A E hb hB L J l Dl C f kc D c num vs fl env m n tn p1 p2 p3 p4 p5 p6 p7 p8 p9 q1 q2 q3 q4 q5 q6 q7 q8 r1 r2 r3 r4 r5 r6 r7 r8 t1 t2 t3 t4 u1 u2 u3 u4 u5 u6 u7 u8 u9 v1 v2 v3 v4 v5 v6 v7 v8 v9 w1 w2 w3 w4 w5 w6 w7 w8 w9 x1 x2 x3 x4 x5 x6 x7 x8 y1 y2 y3 y4 k1 k2 k3 k4 k5 k6 k7 k8 scope Q := (N_tailN.allX (w, A, E, hb, hB, L, J, l, Dl, C, f, kc, D, c, num, vs, fl, env, m, n, tn, p1, p2, p3, p4, p5, p6, p7, p8, p9, q1, q2, q3, q4, q5, q6, q7, q8, r1, r2, r3, r4, r5, r6, r7, r8, t1, t2, t3, t4, u1, u2, u3, u4, u5, u6, u7, u8, u9, v1, v2, v3, v4, v5, v6, v7, v8, v9, w1, w2, w3, w4, w5, w6, w7, w8, w9, x1, x2, x3, x4, x5, x6, x7, x8, y1, y2, y3, y4, k1, k2, k3, k4, k5, k6, k7, k8, scope, Q))
section
variable {dir : Bool} {w : World} {A : Around} {E : Value → Shared → Prop} {s : Shared} {hb hB : Heap} {L J l Dl C f kc : Addr} {D : Value → Prop} {c : Value → Value → Int} {num : Value → Int} {vs xs : List Value} {fl ls : Led} {env : Env} {m : Str → Option Value} {n : Int} {tn : Tok} {P : Obj → Prop}
variable {p1 p2 p3 p4 p5 p6 p7 p8 p9 q1 q2 q3 q4 q5 q6 q7 q8 r1 r2 r3 r4 r5 r6 r7 r8 t1 t2 t3 t4 u1 u2 u3 u4 u5 u6 u7 u8 u9 v1 v2 v3 v4 v5 v6 v7 v8 v9 w1 w2 w3 w4 w5 w6 w7 w8 w9 x1 x2 x3 x4 x5 x6 x7 x8 y1 y2 y3 y4 : Pos} {k1 k2 k3 k4 k5 k6 k7 k8 : Nat} {scope : Scope}
end
end Mine
namespace Mine
theorem CallKw {M : Model} {A : Around} {E : Value → Shared → Prop} {s : Shared} {env : Env} {Q : Value → Shared → Prop} {x : Str} {p pos : Pos} {args : List Expr} {kws : List Keyword}
    (h : wpAny M A (eval (.Name x p) env) (fun f s₁ => wpAny M A (callWith pos f [] (backTo pos (starEach args env)) (backToKw pos (keywordEach kws env))) Q E s₁) E s) : wpAny M A (eval (.Call (.Name x p) args kws pos) env) Q E s := wpAny_bind h
inductive Src (h : Heap) (l : Addr) : Value → Led → Prop
  | lst : Src h l (.ref l) []
  | it {I : Addr} (hi : h.IsListIter I l 0) : Src h l (.ref I) [(I, isLI l 0)]
noncomputable def Below (h : Heap) (fr : List (Addr × Obj)) : Prop := ∀ p ∈ fr, ∃ o, h.get? p.1 = some o ∧ upS p.2 o
theorem uniq {R : Value → Value → Prop} (as : ∀ a b, R a b → R b a → False) : ∀ (l₁ l₂ : List Value), l₁.Perm l₂ → l₁.Pairwise R → l₂.Pairwise R → l₁ = l₂
  | [], l₂, hp, _, _ => (List.nil_perm.mp hp).symm
  | a :: t, [], hp, _, _ => absurd hp.length_eq (by simp)
  | a :: t, b :: t2, hp, h1, h2 => by
    by_cases e : a = b
    · subst e
      rw [uniq as t t2 (List.Perm.cons_inv hp) (List.pairwise_cons.mp h1).2 (List.pairwise_cons.mp h2).2]
    · have ha : a ∈ t2 := by
        have := hp.mem_iff.mp (List.mem_cons_self (a := a) (l := t))
        cases this with
        | head => exact absurd rfl e
        | tail _ q => exact q
      have hb : b ∈ t := by
        have := hp.mem_iff.mpr (List.mem_cons_self (a := b) (l := t2))
        cases this with
        | head => exact absurd rfl e
        | tail _ q => exact q
      exact (as a b ((List.pairwise_cons.mp h1).1 b hb) ((List.pairwise_cons.mp h2).1 a ha)).elim
theorem Firsts.of {c : Value → Value → Int} {num : Value → Int} {vs out : List Value} {n : Int} (K : COk c) (hp : out.Perm vs) (hs : out.Pairwise (fun u v => lt2 c (u, num u) (v, num v) = true)) : Firsts c num vs n (out.take n.toNat) := fun ws wp ws' => by
  rw [uniq (fun a b h1 h2 => by rw [K.lt2.asym h1] at h2; cases h2) ws out (wp.trans hp.symm) ws' hs]
theorem Firsts.nil {c : Value → Value → Int} {num : Value → Int} {n : Int} : Firsts c num [] n [] := fun ws hp _ => by rw [List.perm_nil.mp hp, List.take_nil]
theorem Firsts.one {c : Value → Value → Int} {num : Value → Int} {vs : List Value} {vb : Value} (K : COk c) (hne : vs ≠ []) (B : Bst c num vs (vs.length - 1) vb) : Firsts c num vs 1 [vb] := by
  intro ws hp hs
  have hz : 0 < vs.length := List.length_pos_iff.mpr hne
  unfold Bst at B
  rw [show vs.length - 1 + 1 = vs.length by lia, List.take_length] at B
  cases ws with
  | nil => exact absurd (hp.symm.trans (List.Perm.refl _)).length_eq (by simp; lia)
  | cons a ws =>
    show [vb] = [a]
    have ha := hp.mem_iff.mp (List.mem_cons_self ..)
    rcases B.2 a ha with e | e
    · rw [e]
    · have hv := hp.mem_iff.mpr B.1
      cases hv with
      | head => rfl
      | tail _ hv =>
        have := (List.pairwise_cons.mp hs).1 vb hv
        rw [K.lt2.asym this] at e
        cases e
theorem Lg.below {h₀ h : Heap} {L : Addr} {m : Str → Option Value} {ls : Led} {fr : List (Addr × Obj)} (F : Lg h₀ L h m (ls ++ frL fr)) : Below h fr := fun p hp => F.at_ (p.1, upS p.2) (List.mem_append_right _ (List.mem_map_of_mem hp))
theorem sorted_dir {dir : Bool} {c : Value → Value → Int} {num : Value → Int} {vs : List Value} {p : List Nat} (S : Srt (fun u v => decide (c u v < 0)) (katRev (!dir) vs) p) (hn : vs.Pairwise fun u v => num u < num v) :
    (katRev (!dir) (outOf (katRev (!dir) vs) p)).Perm vs ∧ (katRev (!dir) (outOf (katRev (!dir) vs) p)).Pairwise fun u v => lt2 (cD dir c) (u, num u) (v, num v) = true := by
  cases dir
  · refine ⟨(List.reverse_perm _).trans (S.perm.trans (List.reverse_perm _)), List.pairwise_reverse.mpr ((S.pair (B := fun u v => num v < num u) (List.pairwise_reverse.mpr hn)).imp fun {a b} q => ?_)⟩
    exact lt2_true.mpr (q.elim (fun q => .inl (of_decide_eq_true q)) (fun q => .inr ⟨of_decide_eq_false q.1, q.2⟩))
  · refine ⟨S.perm, (S.pair hn).imp fun {a b} q => ?_⟩
    exact lt2_true.mpr (q.elim (fun q => .inl (of_decide_eq_true q)) (fun q => .inr ⟨of_decide_eq_false q.1, q.2⟩))
theorem Lg.zipIn {h₀ h₅ h₆ h₇ : Heap} {L J l z TI TO i1 Do Cf : Addr} {m : Str → Option Value} {fl : Led} {N st : Int} (F₅ : Lg h₀ L h₅ m ((J, isLI l 0) :: fl)) (k₆ : Kp h₅ h₆) (p₆ : IsPair h₆ TI (.ref i1) (.ref J)) (n₆ : h₅.get? TI = none) (d1 : TI ≠ z) (d2 : TI ≠ TO) (d3 : TI ≠ i1)
    (F₆ : Lg h₀ L h₆ m ((z, isZ TI TO .none) :: (TO, isPr) :: (i1, isRI 0 N st) :: (J, isLI l 0) :: fl)) (k₇ : Kp h₆ h₇) (nD : h₆.get? Do = none) (nC : h₆.get? Cf = none) (dc : Do ≠ Cf) (lD : PL h₇ Do []) (nsC : h₇.Ns Cf (fun _ => none)) :
    ∃ hB, Lg hB Cf h₇ (fun _ => none) ((z, isZ TI TO .none) :: (TO, isPr) :: (i1, isRI (0 + (([] : List Value).length : Nat) * st) (N - (([] : List Value).length : Nat)) st) :: (J, isLI l (([] : List Value).length)) :: (Do, isL []) :: (L, isNs m) :: fl) ∧ Kp h₀ hB ∧ IsPair hB TI (.ref i1) (.ref J) := by
  obtain ⟨F₇, kr₇⟩ := F₆.inner2 k₇ nD nC dc lD nsC
  have e1 : (0 + (([] : List Value).length : Nat) * st : Int) = 0 := by simp
  have e2 : N - (([] : List Value).length : Nat) = N := by simp
  rw [e1, e2]
  have fr := F₅.fr n₆
  refine ⟨_, F₇.perm ((List.Perm.swap _ _ _).trans ?_), kr₇, hideAll_get _ (k₇ _ _ p₆) (fun q => ?_)⟩
  · exact (List.perm_append_comm (l₁ := [(Do, isL []), (L, isNs m)]) (l₂ := [(z, isZ TI TO .none), (TO, isPr), (i1, isRI 0 N st), (J, isLI l 0)])).append_right fl
  · simp only [List.mem_cons, List.map_cons] at q
    rcases q with q | q | q | q | q | q | q | q
    · subst q; have e := nC.symm.trans p₆; cases e
    · exact fr.2.1 q
    · subst q; have e := nD.symm.trans p₆; cases e
    · exact d1 q
    · exact d2 q
    · exact d3 q
    · exact fr.2.2 _ (.head _) q.symm
    · obtain ⟨p, hp, rfl⟩ := List.mem_map.mp q
      exact fr.2.2 p (.tail _ hp) rfl
theorem rangeD {w : World} {A : Around} {E : Value → Shared → Prop} {s : Shared} {Q : Value → Shared → Prop} {n : Int} {t u v : Tok} (n1 : -100 < n) (n2 : n < 100) (h : ∀ r h' tk t1 t2 t3, Kp s.heap h' → IsRange h' r 0 n (-1) t1 t2 t3 → Q (.ref r) { s with heap := h', toks := tk }) : wpAny (MM w) A (call (.type "range") [.int 0 t, .int n u, .int (-1) v]) Q E s :=
  call_range_3 (by decide) (h _ _ _ _ _ _ (Kp.push _ _) (Heap.get?_push_size _ rfl)) (.inl (PyProof.noPylong_small (by lia)))
section
variable {w : World} {A : Around} {E : Value → Shared → Prop} {s : Shared} {hb : Heap} {C f l : Addr} {D : Value → Prop} {c : Value → Value → Int} {num : Value → Int} {vs : List Value} {src : Value} {ls₀ : Led} {fr : List (Addr × Obj)} {outer : List Env} {n : Int} {tn : Tok} {Q : Value → Shared → Prop}
end
namespace N_ns_spec
noncomputable def stX0 (w : World) (A : Around) (E : Value → Shared → Prop) (s : Shared) (hb : Heap) (C f l : Addr) (D : Value → Prop) (c : Value → Value → Int) (num : Value → Int) (fr : List (Addr × Obj)) (outer : List Env) (tn : Tok) (Q : Value → Shared → Prop) : Prop := ∀ {vs : List Value} {src : Value} {ls₀ : Led} {n : Int} (W : KW w hb C f D c) (K : COk c) (hr : Rm A 30) (kb : Kp hb s.heap) (hl : PL hb l vs) (S : Src s.heap l src ls₀) (hn : vs.Pairwise fun u v => num u < num v) (hD : ∀ v ∈ vs, D v) (hV : ∀ v ∈ vs, ∃ a o, v = .ref a ∧ hb.get? a = some o ∧ o.cls = .type "list") (h60 : vs.length < 60) (n1 : -5 ≤ n) (n2 : n < 70) (Fs : Frs outer fr) (hfr : A.frames = some outer) (hB : Below s.heap fr) (nd : ((ls₀ ++ frL fr).map (·.1)).Nodup) (hbn : ∀ p ∈ ls₀ ++ frL fr, hb.get? p.1 = none) (k : ∀ r out h' tk, PL h' r out → Firsts (cD true c) num vs n out → KpB ((ls₀ ++ frL fr).map (·.1)) s.heap h' → Below h' fr → Q (.ref r) { s with heap := h', toks := tk }), wpAny (MM w) A (call (.ref 104) [.int n tn, src] [(Str.ofString "key", .ref C)]) Q E s
noncomputable def stX1 (w : World) (A : Around) (E : Value → Shared → Prop) (s : Shared) (hb : Heap) (C f l : Addr) (D : Value → Prop) (c : Value → Value → Int) (num : Value → Int) (fr : List (Addr × Obj)) (outer : List Env) (tn : Tok) (Q : Value → Shared → Prop) : Prop := ∀ {vs : List Value} {src : Value} {ls₀ : Led} {n : Int} (W : KW w hb C f D c) (K : COk c) (hr : Rm A 30) (kb : Kp hb s.heap) (hl : PL hb l vs) (S : Src s.heap l src ls₀) (hn : vs.Pairwise fun u v => num u < num v) (hD : ∀ v ∈ vs, D v) (hV : ∀ v ∈ vs, ∃ a o, v = .ref a ∧ hb.get? a = some o ∧ o.cls = .type "list") (h60 : vs.length < 60) (n1 : -5 ≤ n) (n2 : n < 70) (Fs : Frs outer fr) (hfr : A.frames = some outer) (hB : Below s.heap fr) (nd : ((ls₀ ++ frL fr).map (·.1)).Nodup) (hbn : ∀ p ∈ ls₀ ++ frL fr, hb.get? p.1 = none) (k : ∀ r out h' tk, PL h' r out → Firsts (cD false c) num vs n out → KpB ((ls₀ ++ frL fr).map (·.1)) s.heap h' → Below h' fr → Q (.ref r) { s with heap := h', toks := tk }), wpAny (MM w) A (call (.ref 110) [.int n tn, src] [(Str.ofString "key", .ref C)]) Q E s
noncomputable abbrev T := World × Around × (Value → Shared → Prop) × Shared × Heap × Addr × Addr × Addr × (Value → Prop) × (Value → Value → Int) × (Value → Int) × (List (Addr × Obj)) × (List Env) × Tok × (Value → Shared → Prop)
noncomputable def pX (x : T) : Prop := stX0 x.1 x.2.1 x.2.2.1 x.2.2.2.1 x.2.2.2.2.1 x.2.2.2.2.2.1 x.2.2.2.2.2.2.1 x.2.2.2.2.2.2.2.1 x.2.2.2.2.2.2.2.2.1 x.2.2.2.2.2.2.2.2.2.1 x.2.2.2.2.2.2.2.2.2.2.1 x.2.2.2.2.2.2.2.2.2.2.2.1 x.2.2.2.2.2.2.2.2.2.2.2.2.1 x.2.2.2.2.2.2.2.2.2.2.2.2.2.1 x.2.2.2.2.2.2.2.2.2.2.2.2.2.2 ∧ stX1 x.1 x.2.1 x.2.2.1 x.2.2.2.1 x.2.2.2.2.1 x.2.2.2.2.2.1 x.2.2.2.2.2.2.1 x.2.2.2.2.2.2.2.1 x.2.2.2.2.2.2.2.2.1 x.2.2.2.2.2.2.2.2.2.1 x.2.2.2.2.2.2.2.2.2.2.1 x.2.2.2.2.2.2.2.2.2.2.2.1 x.2.2.2.2.2.2.2.2.2.2.2.2.1 x.2.2.2.2.2.2.2.2.2.2.2.2.2.1 x.2.2.2.2.2.2.2.2.2.2.2.2.2.2
noncomputable def cX : T := @Classical.epsilon _ (ne2 neW (ne2 neA (ne2 neI (ne2 neS (ne2 neI (ne2 neI (ne2 neI (ne2 neI (ne2 neI (ne2 neI (ne2 neI (ne2 neI (ne2 neI (ne2 neI neI)))))))))))))) fun x => ¬ pX x
def w : World := cX.1
def A : Around := cX.2.1
def E : Value → Shared → Prop := cX.2.2.1
def s : Shared := cX.2.2.2.1
def hb : Heap := cX.2.2.2.2.1
def C : Addr := cX.2.2.2.2.2.1
def f : Addr := cX.2.2.2.2.2.2.1
def l : Addr := cX.2.2.2.2.2.2.2.1
def D : Value → Prop := cX.2.2.2.2.2.2.2.2.1
def c : Value → Value → Int := cX.2.2.2.2.2.2.2.2.2.1
def num : Value → Int := cX.2.2.2.2.2.2.2.2.2.2.1
def fr : List (Addr × Obj) := cX.2.2.2.2.2.2.2.2.2.2.2.1
def outer : List Env := cX.2.2.2.2.2.2.2.2.2.2.2.2.1
def tn : Tok := cX.2.2.2.2.2.2.2.2.2.2.2.2.2.1
def Q : Value → Shared → Prop := cX.2.2.2.2.2.2.2.2.2.2.2.2.2.2
theorem pfX0 : stX0 w A E s hb C f l D c num fr outer tn Q := by
  intro vs src ls₀ n W K hr kb hl S hn hD hV h60 n1 n2 Fs hfr hB nd hbn k
  refine callCellB (binds := [(Str.ofString "n", .int n tn), (Str.ofString "iterable", src), (Str.ofString "key", .ref C)]) (W.x.kp kb) (by k_is) (by k_is) hr (BindsTo.of_defaults rfl (W.x.kp kb _ _ (by rfl) (by k_is)) rfl rfl rfl) ?_ (fun L s₁ eL I => ?_)
  · intro x hx
    simp only [List.mem_cons, List.not_mem_nil, or_false] at hx
    rcases hx with rfl | rfl | rfl
    · exact .inl rfl
    · exact .inl rfl
    · exact .inr ⟨rfl, rfl⟩
  obtain ⟨h₁, tk₁, rfl⟩ := I.toInCall.same
  have k1 : Kp s.heap h₁ := I.toInCall.keep
  have hL : s.heap.get? L = none := by rw [eL]; exact Heap.get?_none_of_le (Nat.le_refl _)
  have hat : ∀ p ∈ ls₀ ++ frL fr, ∃ o, s.heap.get? p.1 = some o ∧ p.2 o := fun p hp => by
    rcases List.mem_append.mp hp with hp | hp
    · cases S with
      | lst => cases hp
      | it hi =>
        rw [List.mem_singleton.mp hp]
        exact li_iff.mp hi
    · obtain ⟨q, hq, rfl⟩ := List.mem_map.mp hp
      exact hB q hq
  have F0 := Lg.startC k1 I.toInCall.ns hL hat nd
  have k0 : Kp hb (hideAll h₁ (L :: (ls₀ ++ frL fr).map (·.1))) := baseC kb k1 hL (fun a ha => by obtain ⟨p, hp, rfl⟩ := List.mem_map.mp ha; exact hbn p hp)
  have hc : (hideAll h₁ (L :: (ls₀ ++ frL fr).map (·.1))).IsCell (L + 1) (some (.ref C)) := cellC (I.cell "key" (L + 1) rfl) (Nat.ne_of_gt (Nat.lt_succ_self _)) (fun q => by
    obtain ⟨p, hp, e⟩ := List.mem_map.mp q
    obtain ⟨o, e', _⟩ := hat p hp
    have := Heap.lt_size e'
    rw [e, eL] at this
    exact Nat.not_lt_of_le (Nat.le_succ _) this)
  have fin : ∀ {h' : Heap}, Kp (hideAll h₁ (L :: (ls₀ ++ frL fr).map (·.1))) h' → KpB ((ls₀ ++ frL fr).map (·.1)) s.heap h' := fun k' => finC k1 hL k'
  clear I
  subst eL
  generalize hh : hideAll h₁ (s.heap.objs.size :: (ls₀ ++ frL fr).map (·.1)) = h0 at F0 k0 hc fin
  have X0 := W.x.kp k0
  have hl0 := hl.kp k0
  obtain ⟨m0, F, mn, mi⟩ : ∃ m0, Lg h0 s.heap.objs.size h₁ m0 (ls₀ ++ frL fr) ∧ m0 (Str.ofString "n") = some (.int n tn) ∧ m0 (Str.ofString "iterable") = some src := ⟨_, F0, rfl, rfl⟩
  clear F0
  have iterS : ∀ {A' : Around} {E' : Value → Shared → Prop} {s' : Shared} {m' : Str → Option Value} {Q' : Value → Shared → Prop}, Lg h0 s.heap.objs.size s'.heap m' (ls₀ ++ frL fr) →
      (∀ I h', Lg h0 s.heap.objs.size h' m' ((I, isLI l 0) :: frL fr) → Q' (.ref I) { s' with heap := h' }) → wpAny (MM w) A' (call (.builtin "iter") [src]) Q' E' s' := fun {A' E' s' m' Q'} F' hq => by
    cases S with
    | lst => exact call_iterV (iterL (hl0.kp F'.keep) (fun I h' k' hn hi => hq I h' (F'.freshLI k' hn hi)))
    | it hi => exact call_iterV (wpAny_pyIter_listiter (F'.li (.head _)) (hq _ _ F'))
  by_cases e1 : n = 1
  · subst e1
    refine wpAny_execs_cons (wpAny_If (wpAny_isTrue_Compare1 (F.nm mn (wpAny_Constant_int (eq_int (wpAny_truthy_bool ?_))))))
    rw [if_pos (by rfl)]
    refine wpAny_execs_cons (wpAny_Assign_Name (Call_ (nmB (X0.keeps F.keep) (by k_is) (by k_is) (PyProof.Rows.callWith_builtin1 (args_cons (F.nm mi (args_nil (iterS F (fun J h₂ F₂ => F₂.st fun h₃ F₃ => ?_)))))))))
    dsimp only
    refine wpAny_execs_cons (wpAny_Assign_Name (Call_ (nmB (X0.keeps F₃.keep) (by k_is) (by k_is) (callWith_type0 (call_object (fun o h₄ k₄ n₄ o₄ => ?_))))))
    have F₄ := F₃.kp k₄
    have F₄ := F₃.fresh k₄ n₄ o₄ (P := fun o => o = { cls := .type "object", data := .plain }) rfl
    refine F₄.st fun h₅ F₅ => ?_
    dsimp only
    have F₅' := F₅.perm (List.Perm.swap _ _ _)
    have oJ := F₅'.off _ (.head _)
    refine wpAny_execs_cons (wpAny_Assign_Name (CallKw (nmB (X0.keeps F₅.keep) (by k_is) (by k_is) (callWith_kw (args_cons (F₅.nm rfl (args_nil (kws_cons (F₅.nm rfl (kws_cons (nmC hc F₅.keep (kws_nil ?_))))))))))))
    have hlJ : l ≠ J := fun q => by obtain ⟨_, e⟩ := hl0; rw [q, oJ.2] at e; cases e
    refine call_min W K ((hr.deep _).le (by decide)) hn hD (none_base k0 oJ.2) (k0.trans F₅.keep) (hl0.kp F₅.keep) hlJ (F₅'.li (.head _)) (fun e h₆ tk₆ k₆ => ?_) (fun vb h₆ tk₆ e hb₆ k₆ => ?_)
    · have F₆ := F₅'.ext (h' := h₆) (fun b o hb e => k₆ b o (by simpa using hb) e)
      refine F₆.st fun h₇ F₇ => ?_
      dsimp only
      refine wpAny_execs_cons (wpAny_Return_some (IfExp_ (wpAny_isTrue_Compare1 (F₇.nm rfl (F₇.nm rfl (wpAny_is_ref_self (wpAny_truthy_bool ?_)))))))
      rw [if_pos rfl]
      refine listD (args_nil ⟨szL, fun r h₈ k₈ n₈ r₈ => ?_⟩)
      subst e
      exact k r [] _ _ ⟨_, r₈⟩ Firsts.nil (fin (F₇.kp k₈).keep) (Lg.below (ls := []) (F₇.kp k₈).drop)
    · have F₆ := F₅'.ext (h' := h₆) (fun b o hb e => k₆ b o (by simpa using hb) e)
      obtain ⟨q, oq, rfl, eq, cq⟩ := hV vb (List.mem_of_mem_take hb₆.1)
      refine F₆.st fun h₇ F₇ => ?_
      dsimp only
      obtain ⟨oo, eo, ro⟩ := F₇.get (.head _)
      have hqo : q ≠ o := fun z => by have := (F₇.off _ (.head _)).2; rw [← z, k0 _ _ eq] at this; cases this
      refine wpAny_execs_cons (wpAny_Return_some (IfExp_ (wpAny_isTrue_Compare1 (F₇.nm rfl (F₇.nm rfl (kto_is (F₇.keep _ _ (k0 _ _ eq)) eo hqo (by rw [cq]; decide) (wpAny_truthy_bool ?_)))))))
      rw [if_neg (by decide)]
      refine listD (args_cons (F₇.nm rfl (args_nil ⟨szL, fun r h₈ k₈ n₈ r₈ => ?_⟩)))
      exact k r [.ref q] _ _ ⟨_, r₈⟩ (Firsts.one (K.cd true) e hb₆) (fin (F₇.kp k₈).keep) (Lg.below (ls := []) (F₇.kp k₈).drop)
  refine wpAny_execs_cons (wpAny_If (wpAny_isTrue_Compare1 (F.nm mn (wpAny_Constant_int (eq_int (wpAny_truthy_bool ?_))))))
  rw [if_neg (by simpa using e1)]
  refine wpAny_execs_nil ?_
  refine wpAny_execs_cons (wpAny_mono (Q := fun fl s' => (fl = .next ∧ ∃ h' tk m', s' = { s with heap := h', toks := tk } ∧ Lg h0 s.heap.objs.size h' m' (ls₀ ++ frL fr) ∧ m' (Str.ofString "n") = some (.int n tn) ∧ m' (Str.ofString "iterable") = some src) ∨ (∃ v, fl = .ret v ∧ Q v s')) (wpAny_Try_except ?tr) ?rest (fun _ _ z => z))
  case tr =>
    cases S with
    | lst =>
      refine wpAny_execs_cons (wpAny_Assign_Name (Call_ (nmB (X0.keeps F.keep) (by k_is) (by k_is) (PyProof.Rows.callWith_builtin1 (args_cons (F.nm mi (args_nil (lenL (hl0.kp F.keep) (by lia) (fun tk => F.st fun h₂ F₂ => ?_)))))))))
      dsimp only
      refine wpAny_execs_nil ?_
      dsimp only
      refine wpAny_execs_cons (wpAny_If (wpAny_isTrue_Compare1 (F₂.nm (by exact mn) (F₂.nm rfl (ge_int (wpAny_truthy_bool ?_))))))
      by_cases hz : n ≥ ((vs.length : Nat) : Int)
      · rw [if_pos (by simpa using hz)]
        refine wpAny_execs_cons (wpAny_Return_some (sliceL (CallKw (nmB (X0.keeps F₂.keep) (by k_is) (by k_is) (callWith_kw (args_cons (F₂.nm (by exact mi) (args_nil (kws_cons (nmC hc F₂.keep (kws_nil ?_)))))))))))
        refine sortedK (b := false) W K.sw ((hr.deep _).le (by decide)) (k0.trans F₂.keep) hD (by lia) (hl0.kp F₂.keep) (ksk_s1 _ _) (fun x => ksk_l1 _ _) (fun x => ksk_t1 _ _) (fun r p h₃ tk₃ hp pl hn₃ k₃ => ?_)
        have F₃ := F₂.kp k₃
        refine wpAny_pure (F₃.nm (by exact mn) ⟨r, _, none, some n, rfl, .none, .int _ _, pl, by rw [out_len hp]; lia, fun D' h₄ k₄ n₄ d₄ => ?_⟩)
        rw [pick_upto (by lia)] at d₄
        refine .inr ⟨_, rfl, k _ _ _ _ d₄ (Firsts.of (K.cd true) (sorted_dir (dir := true) hp hn).1 (sorted_dir (dir := true) hp hn).2) (fin (F₃.kp k₄).keep) (F₃.kp k₄).below⟩
      · rw [if_neg (by simpa using hz)]
        exact wpAny_execs_nil (wpAny_execs_nil (.inl ⟨rfl, _, _, _, rfl, F₂, by exact mn, by exact mi⟩))
    | it hi =>
      obtain ⟨oI, eI, cI, dI⟩ := F.li (.head _)
      refine wpAny_execs_cons (wpAny_Assign_Name (Call_ (nmB (X0.keeps F.keep) (by k_is) (by k_is) (PyProof.Rows.callWith_builtin1 (args_cons (F.nm mi (args_nil (len_li eI cI (hr.deep _).han (fun h₂ tk₂ e hx => ?_)))))))))
      refine F.caught2 (s' := { s with heap := h₂, toks := tk₂ }) X0 Fs (by show A.frames.map _ = _; rw [hfr]; rfl) rfl rfl hx rfl rfl rfl rfl (fun h₃ F₃ => ?_)
      exact wpAny_execs_cons (wpAny_Pass (wpAny_execs_nil (.inl ⟨rfl, _, _, _, rfl, F₃, mn, mi⟩)))
  case rest =>
    rintro fl s' (⟨rfl, h₂, tk₂, m₂, rfl, F, mn, mi⟩ | ⟨v, rfl, hq⟩)
    · dsimp only
      refine wpAny_execs_cons (wpAny_If (wpAny_isTrue_Compare1 (nmC hc F.keep (wpAny_Constant_none (is_none (wpAny_truthy_bool ?_))))))
      rw [if_neg (by simp)]
      refine wpAny_execs_nil ?_
      refine wpAny_execs_cons (wpAny_Assign_Name (Call_ (nmB (X0.keeps F.keep) (by k_is) (by k_is) (PyProof.Rows.callWith_builtin1 (args_cons (F.nm mi (args_nil (iterS F (fun J h₃ F₃ => F₃.st fun h₄ F₄ => ?_)))))))))
      dsimp only
      refine wpAny_execs_cons (assignComp (cl := [(Str.ofString "key", s.heap.objs.size + 1)]) (by rfl) (by decide) (by rfl) (by decide) (by rfl) ?_)
      refine Call_ (nmB (X0.keeps F₄.keep) (by k_is) (by k_is) ?_)
      refine PyProof.Rows.callWith_type1 (args_cons ?_)
      refine Call_ (nmB (X0.keeps F₄.keep) (by k_is) (by k_is) ?_)
      refine PyProof.Rows.callWith_type1 (args_cons (F₄.nm (by exact mn) (args_nil (rangeN (fun r h₅ tk₅ t1 t2 k₅ r₅ => ?_)))))
      have F₅ := F₄.kp k₅
      refine args_cons (F₅.nm rfl (args_nil (callZip F₅ r₅ (small_one (by lia) (by lia) (by lia) (by lia)) (fun z TI TO i1 h₆ k₆ p₆ n₆ d1 d2 d3 F₆ => ?_))))
      rw [rangeSize_nat] at F₆
      obtain ⟨oz, ez, qz⟩ := F₆.get (.head _)
      refine wpAny_pyIter_zip (ez.trans (congrArg some qz)) ?_
      intro Do Cf h₇ k₇ nD nC dc lD nsC
      obtain ⟨hB, F₇, kr₇, pr⟩ := F₅.zipIn k₆ p₆ n₆ d1 d2 d3 F₆ k₇ nD nC dc lD nsC
      refine ⟨fun Q' E' hq => by
        obtain ⟨oz, ez, qz⟩ := F₇.get (.head _)
        exact wpAny_pyIter_zip (ez.trans (congrArg some qz)) hq, ?_⟩
      refine zipComp (s := s) (D := D) (c := c) (f := f) (x0 := 0) (st := sD true 1) (n := vs.length) W ((hr.deep _).le (by decide)) (k0.trans kr₇) pr (hl0.kp kr₇) (hc.keeps kr₇) h60 rfl rfl rfl rfl rfl (by rfl) (fun h₉ tk₉ mC hB₉ xs P F₉ kB₉ tu hxl hP => ?_) (ZI.mk (xs := []) F₇ (Kp.refl _) (fun i v q => by simp at q) rfl (.inl rfl))
      refine Lg.endUse (s' := { s with heap := h₉, toks := tk₉ }) (ls := (J, P) :: (Do, isL xs) :: frL fr) (F₉.perm (List.perm_append_comm (l₁ := [_, _]) (l₂ := [_]) |>.append_right _)) (fun h₁₀ F₁₀ => ?_)
      dsimp only
      have kB := kr₇.trans kB₉
      refine tailN (dir := true) (l := l) (num := num) (w1 := ⟨0, 0, 0, 0⟩) (x3 := ⟨0, 0, 0, 0⟩) (x4 := ⟨0, 0, 0, 0⟩) (k7 := 0) (kc := s.heap.objs.size + 1) (n := n) (tn := tn) ⟨rfl, rfl, rfl, rfl, rfl, rfl, rfl, rfl, rfl, rfl, rfl, rfl, rfl, rfl, rfl, rfl, rfl, rfl⟩ ⟨rfl, by decide, rfl, by decide, fun _ => rfl, fun _ => rfl, fun _ => rfl, fun _ => rfl, fun _ => rfl⟩ W K ((hr.deep _).le (by decide)) (k0.trans kB) (hl0.kp kB) (hc.keeps kB) hn hD (fun v hv => by obtain ⟨a, _, e, _⟩ := hV v hv; exact ⟨a, e⟩) h60 F₁₀ tu (by rw [hxl]; congr 1; lia) hP (by exact mn) rfl rfl rfl (fun r out h' tk pl fi ⟨m', F'⟩ => ?_)
      exact k r out h' tk pl fi (fin (kB.trans F'.keep)) (Lg.below (ls := []) F')
    · exact hq
theorem pfX1 : stX1 w A E s hb C f l D c num fr outer tn Q := by
  intro vs src ls₀ n W K hr kb hl S hn hD hV h60 n1 n2 Fs hfr hB nd hbn k
  refine callCellB (binds := [(Str.ofString "n", .int n tn), (Str.ofString "iterable", src), (Str.ofString "key", .ref C)]) (W.x.kp kb) (by k_is) (by k_is) hr (BindsTo.of_defaults rfl (W.x.kp kb _ _ (by rfl) (by k_is)) rfl rfl rfl) ?_ (fun L s₁ eL I => ?_)
  · intro x hx
    simp only [List.mem_cons, List.not_mem_nil, or_false] at hx
    rcases hx with rfl | rfl | rfl
    · exact .inl rfl
    · exact .inl rfl
    · exact .inr ⟨rfl, rfl⟩
  obtain ⟨h₁, tk₁, rfl⟩ := I.toInCall.same
  have k1 : Kp s.heap h₁ := I.toInCall.keep
  have hL : s.heap.get? L = none := by rw [eL]; exact Heap.get?_none_of_le (Nat.le_refl _)
  have hat : ∀ p ∈ ls₀ ++ frL fr, ∃ o, s.heap.get? p.1 = some o ∧ p.2 o := fun p hp => by
    rcases List.mem_append.mp hp with hp | hp
    · cases S with
      | lst => cases hp
      | it hi =>
        rw [List.mem_singleton.mp hp]
        exact li_iff.mp hi
    · obtain ⟨q, hq, rfl⟩ := List.mem_map.mp hp
      exact hB q hq
  have F0 := Lg.startC k1 I.toInCall.ns hL hat nd
  have k0 : Kp hb (hideAll h₁ (L :: (ls₀ ++ frL fr).map (·.1))) := baseC kb k1 hL (fun a ha => by obtain ⟨p, hp, rfl⟩ := List.mem_map.mp ha; exact hbn p hp)
  have hc : (hideAll h₁ (L :: (ls₀ ++ frL fr).map (·.1))).IsCell (L + 1) (some (.ref C)) := cellC (I.cell "key" (L + 1) rfl) (Nat.ne_of_gt (Nat.lt_succ_self _)) (fun q => by
    obtain ⟨p, hp, e⟩ := List.mem_map.mp q
    obtain ⟨o, e', _⟩ := hat p hp
    have := Heap.lt_size e'
    rw [e, eL] at this
    exact Nat.not_lt_of_le (Nat.le_succ _) this)
  have fin : ∀ {h' : Heap}, Kp (hideAll h₁ (L :: (ls₀ ++ frL fr).map (·.1))) h' → KpB ((ls₀ ++ frL fr).map (·.1)) s.heap h' := fun k' => finC k1 hL k'
  clear I
  subst eL
  generalize hh : hideAll h₁ (s.heap.objs.size :: (ls₀ ++ frL fr).map (·.1)) = h0 at F0 k0 hc fin
  have X0 := W.x.kp k0
  have hl0 := hl.kp k0
  obtain ⟨m0, F, mn, mi⟩ : ∃ m0, Lg h0 s.heap.objs.size h₁ m0 (ls₀ ++ frL fr) ∧ m0 (Str.ofString "n") = some (.int n tn) ∧ m0 (Str.ofString "iterable") = some src := ⟨_, F0, rfl, rfl⟩
  clear F0
  have iterS : ∀ {A' : Around} {E' : Value → Shared → Prop} {s' : Shared} {m' : Str → Option Value} {Q' : Value → Shared → Prop}, Lg h0 s.heap.objs.size s'.heap m' (ls₀ ++ frL fr) →
      (∀ I h', Lg h0 s.heap.objs.size h' m' ((I, isLI l 0) :: frL fr) → Q' (.ref I) { s' with heap := h' }) → wpAny (MM w) A' (call (.builtin "iter") [src]) Q' E' s' := fun {A' E' s' m' Q'} F' hq => by
    cases S with
    | lst => exact call_iterV (iterL (hl0.kp F'.keep) (fun I h' k' hn hi => hq I h' (F'.freshLI k' hn hi)))
    | it hi => exact call_iterV (wpAny_pyIter_listiter (F'.li (.head _)) (hq _ _ F'))
  by_cases e1 : n = 1
  · subst e1
    refine wpAny_execs_cons (wpAny_If (wpAny_isTrue_Compare1 (F.nm mn (wpAny_Constant_int (eq_int (wpAny_truthy_bool ?_))))))
    rw [if_pos (by rfl)]
    refine wpAny_execs_cons (wpAny_Assign_Name (Call_ (nmB (X0.keeps F.keep) (by k_is) (by k_is) (PyProof.Rows.callWith_builtin1 (args_cons (F.nm mi (args_nil (iterS F (fun J h₂ F₂ => F₂.st fun h₃ F₃ => ?_)))))))))
    dsimp only
    refine wpAny_execs_cons (wpAny_Assign_Name (Call_ (nmB (X0.keeps F₃.keep) (by k_is) (by k_is) (callWith_type0 (call_object (fun o h₄ k₄ n₄ o₄ => ?_))))))
    have F₄ := F₃.kp k₄
    have F₄ := F₃.fresh k₄ n₄ o₄ (P := fun o => o = { cls := .type "object", data := .plain }) rfl
    refine F₄.st fun h₅ F₅ => ?_
    dsimp only
    have F₅' := F₅.perm (List.Perm.swap _ _ _)
    have oJ := F₅'.off _ (.head _)
    refine wpAny_execs_cons (wpAny_Assign_Name (CallKw (nmB (X0.keeps F₅.keep) (by k_is) (by k_is) (callWith_kw (args_cons (F₅.nm rfl (args_nil (kws_cons (F₅.nm rfl (kws_cons (nmC hc F₅.keep (kws_nil ?_))))))))))))
    have hlJ : l ≠ J := fun q => by obtain ⟨_, e⟩ := hl0; rw [q, oJ.2] at e; cases e
    refine call_max W K ((hr.deep _).le (by decide)) hn hD (none_base k0 oJ.2) (k0.trans F₅.keep) (hl0.kp F₅.keep) hlJ (F₅'.li (.head _)) (fun e h₆ tk₆ k₆ => ?_) (fun vb h₆ tk₆ e hb₆ k₆ => ?_)
    · have F₆ := F₅'.ext (h' := h₆) (fun b o hb e => k₆ b o (by simpa using hb) e)
      refine F₆.st fun h₇ F₇ => ?_
      dsimp only
      refine wpAny_execs_cons (wpAny_Return_some (IfExp_ (wpAny_isTrue_Compare1 (F₇.nm rfl (F₇.nm rfl (wpAny_is_ref_self (wpAny_truthy_bool ?_)))))))
      rw [if_pos rfl]
      refine listD (args_nil ⟨szL, fun r h₈ k₈ n₈ r₈ => ?_⟩)
      subst e
      exact k r [] _ _ ⟨_, r₈⟩ Firsts.nil (fin (F₇.kp k₈).keep) (Lg.below (ls := []) (F₇.kp k₈).drop)
    · have F₆ := F₅'.ext (h' := h₆) (fun b o hb e => k₆ b o (by simpa using hb) e)
      obtain ⟨q, oq, rfl, eq, cq⟩ := hV vb (List.mem_of_mem_take hb₆.1)
      refine F₆.st fun h₇ F₇ => ?_
      dsimp only
      obtain ⟨oo, eo, ro⟩ := F₇.get (.head _)
      have hqo : q ≠ o := fun z => by have := (F₇.off _ (.head _)).2; rw [← z, k0 _ _ eq] at this; cases this
      refine wpAny_execs_cons (wpAny_Return_some (IfExp_ (wpAny_isTrue_Compare1 (F₇.nm rfl (F₇.nm rfl (kto_is (F₇.keep _ _ (k0 _ _ eq)) eo hqo (by rw [cq]; decide) (wpAny_truthy_bool ?_)))))))
      rw [if_neg (by decide)]
      refine listD (args_cons (F₇.nm rfl (args_nil ⟨szL, fun r h₈ k₈ n₈ r₈ => ?_⟩)))
      exact k r [.ref q] _ _ ⟨_, r₈⟩ (Firsts.one (K.cd false) e hb₆) (fin (F₇.kp k₈).keep) (Lg.below (ls := []) (F₇.kp k₈).drop)
  refine wpAny_execs_cons (wpAny_If (wpAny_isTrue_Compare1 (F.nm mn (wpAny_Constant_int (eq_int (wpAny_truthy_bool ?_))))))
  rw [if_neg (by simpa using e1)]
  refine wpAny_execs_nil ?_
  refine wpAny_execs_cons (wpAny_mono (Q := fun fl s' => (fl = .next ∧ ∃ h' tk m', s' = { s with heap := h', toks := tk } ∧ Lg h0 s.heap.objs.size h' m' (ls₀ ++ frL fr) ∧ m' (Str.ofString "n") = some (.int n tn) ∧ m' (Str.ofString "iterable") = some src) ∨ (∃ v, fl = .ret v ∧ Q v s')) (wpAny_Try_except ?tr) ?rest (fun _ _ z => z))
  case tr =>
    cases S with
    | lst =>
      refine wpAny_execs_cons (wpAny_Assign_Name (Call_ (nmB (X0.keeps F.keep) (by k_is) (by k_is) (PyProof.Rows.callWith_builtin1 (args_cons (F.nm mi (args_nil (lenL (hl0.kp F.keep) (by lia) (fun tk => F.st fun h₂ F₂ => ?_)))))))))
      dsimp only
      refine wpAny_execs_nil ?_
      dsimp only
      refine wpAny_execs_cons (wpAny_If (wpAny_isTrue_Compare1 (F₂.nm (by exact mn) (F₂.nm rfl (ge_int (wpAny_truthy_bool ?_))))))
      by_cases hz : n ≥ ((vs.length : Nat) : Int)
      · rw [if_pos (by simpa using hz)]
        refine wpAny_execs_cons (wpAny_Return_some (sliceL (CallKw (nmB (X0.keeps F₂.keep) (by k_is) (by k_is) (callWith_kw (args_cons (F₂.nm (by exact mi) (args_nil (kws_cons (nmC hc F₂.keep (kws_cons (wpAny_Constant_bool (kws_nil ?_)))))))))))))
        refine sortedK (b := true) W K.sw ((hr.deep _).le (by decide)) (k0.trans F₂.keep) hD (by lia) (hl0.kp F₂.keep) (ksk_s2 _ _ _) (fun x => ksk_l2 _ _ _) (fun x => ksk_t2 _ _ _) (fun r p h₃ tk₃ hp pl hn₃ k₃ => ?_)
        have F₃ := F₂.kp k₃
        refine wpAny_pure (F₃.nm (by exact mn) ⟨r, _, none, some n, rfl, .none, .int _ _, pl, by rw [out_len hp]; lia, fun D' h₄ k₄ n₄ d₄ => ?_⟩)
        rw [pick_upto (by lia)] at d₄
        refine .inr ⟨_, rfl, k _ _ _ _ d₄ (Firsts.of (K.cd false) (sorted_dir (dir := false) hp hn).1 (sorted_dir (dir := false) hp hn).2) (fin (F₃.kp k₄).keep) (F₃.kp k₄).below⟩
      · rw [if_neg (by simpa using hz)]
        exact wpAny_execs_nil (wpAny_execs_nil (.inl ⟨rfl, _, _, _, rfl, F₂, by exact mn, by exact mi⟩))
    | it hi =>
      obtain ⟨oI, eI, cI, dI⟩ := F.li (.head _)
      refine wpAny_execs_cons (wpAny_Assign_Name (Call_ (nmB (X0.keeps F.keep) (by k_is) (by k_is) (PyProof.Rows.callWith_builtin1 (args_cons (F.nm mi (args_nil (len_li eI cI (hr.deep _).han (fun h₂ tk₂ e hx => ?_)))))))))
      refine F.caught2 (s' := { s with heap := h₂, toks := tk₂ }) X0 Fs (by show A.frames.map _ = _; rw [hfr]; rfl) rfl rfl hx rfl rfl rfl rfl (fun h₃ F₃ => ?_)
      exact wpAny_execs_cons (wpAny_Pass (wpAny_execs_nil (.inl ⟨rfl, _, _, _, rfl, F₃, mn, mi⟩)))
  case rest =>
    rintro fl s' (⟨rfl, h₂, tk₂, m₂, rfl, F, mn, mi⟩ | ⟨v, rfl, hq⟩)
    · dsimp only
      refine wpAny_execs_cons (wpAny_If (wpAny_isTrue_Compare1 (nmC hc F.keep (wpAny_Constant_none (is_none (wpAny_truthy_bool ?_))))))
      rw [if_neg (by simp)]
      refine wpAny_execs_nil ?_
      refine wpAny_execs_cons (wpAny_Assign_Name (Call_ (nmB (X0.keeps F.keep) (by k_is) (by k_is) (PyProof.Rows.callWith_builtin1 (args_cons (F.nm mi (args_nil (iterS F (fun J h₃ F₃ => F₃.st fun h₄ F₄ => ?_)))))))))
      dsimp only
      refine wpAny_execs_cons (assignComp (cl := [(Str.ofString "key", s.heap.objs.size + 1)]) (by rfl) (by decide) (by rfl) (by decide) (by rfl) ?_)
      refine Call_ (nmB (X0.keeps F₄.keep) (by k_is) (by k_is) ?_)
      refine PyProof.Rows.callWith_type1 (args_cons ?_)
      refine Call_ (nmB (X0.keeps F₄.keep) (by k_is) (by k_is) ?_)
      refine PyProof.Rows.callWith_type1 (args_cons (wpAny_Constant_int (args_cons (wpAny_UnaryOp (F₄.nm (by exact mn) (PyProof.Rows.neg_int (args_cons (wpAny_UnaryOp (wpAny_Constant_int (PyProof.Rows.neg_int (args_nil (rangeD (by lia) (by lia) (fun r h₅ tk₅ t1 t2 t3 k₅ r₅ => ?_)))))))))))))
      have F₅ := F₄.kp k₅
      refine args_cons (F₅.nm rfl (args_nil (callZip F₅ r₅ (small_down (by lia) (by lia) (by lia) (by lia)) (fun z TI TO i1 h₆ k₆ p₆ n₆ d1 d2 d3 F₆ => ?_))))
      rw [rangeSize_downNat] at F₆
      obtain ⟨oz, ez, qz⟩ := F₆.get (.head _)
      refine wpAny_pyIter_zip (ez.trans (congrArg some qz)) ?_
      intro Do Cf h₇ k₇ nD nC dc lD nsC
      obtain ⟨hB, F₇, kr₇, pr⟩ := F₅.zipIn k₆ p₆ n₆ d1 d2 d3 F₆ k₇ nD nC dc lD nsC
      refine ⟨fun Q' E' hq => by
        obtain ⟨oz, ez, qz⟩ := F₇.get (.head _)
        exact wpAny_pyIter_zip (ez.trans (congrArg some qz)) hq, ?_⟩
      refine zipComp (s := s) (D := D) (c := c) (f := f) (x0 := 0) (st := sD false 1) (n := vs.length) W ((hr.deep _).le (by decide)) (k0.trans kr₇) pr (hl0.kp kr₇) (hc.keeps kr₇) h60 rfl rfl rfl rfl rfl (by rfl) (fun h₉ tk₉ mC hB₉ xs P F₉ kB₉ tu hxl hP => ?_) (ZI.mk (xs := []) F₇ (Kp.refl _) (fun i v q => by simp at q) rfl (.inl rfl))
      refine Lg.endUse (s' := { s with heap := h₉, toks := tk₉ }) (ls := (J, P) :: (Do, isL xs) :: frL fr) (F₉.perm (List.perm_append_comm (l₁ := [_, _]) (l₂ := [_]) |>.append_right _)) (fun h₁₀ F₁₀ => ?_)
      dsimp only
      have kB := kr₇.trans kB₉
      refine tailN (dir := false) (l := l) (num := num) (kc := s.heap.objs.size + 1) (n := n) (tn := tn) ⟨rfl, rfl, rfl, rfl, rfl, rfl, rfl, rfl, rfl, rfl, rfl, rfl, rfl, rfl, rfl, rfl, rfl, rfl⟩ ⟨rfl, by decide, rfl, by decide, fun _ => rfl, fun _ => rfl, fun _ => rfl, fun _ => rfl, fun _ => rfl⟩ W K ((hr.deep _).le (by decide)) (k0.trans kB) (hl0.kp kB) (hc.keeps kB) hn hD (fun v hv => by obtain ⟨a, _, e, _⟩ := hV v hv; exact ⟨a, e⟩) h60 F₁₀ tu (by rw [hxl]; congr 1; lia) hP (by exact mn) rfl rfl rfl (fun r out h' tk pl fi ⟨m', F'⟩ => ?_)
      exact k r out h' tk pl fi (fin (kB.trans F'.keep)) (Lg.below (ls := []) F')
    · exact hq
theorem allX (x : T) : pX x := eps (P := pX) ⟨pfX0, pfX1⟩
end N_ns_spec
theorem ns_spec {w : World} {A : Around} {E : Value → Shared → Prop} {s : Shared} {hb : Heap} {C f l : Addr} {D : Value → Prop} {c : Value → Value → Int} {num : Value → Int} {fr : List (Addr × Obj)} {outer : List Env} {tn : Tok} {Q : Value → Shared → Prop} : N_ns_spec.stX0 w A E s hb C f l D c num fr outer tn Q := (N_ns_spec.allX (w, A, E, s, hb, C, f, l, D, c, num, fr, outer, tn, Q)).1
theorem nl_spec {w : World} {A : Around} {E : Value → Shared → Prop} {s : Shared} {hb : Heap} {C f l : Addr} {D : Value → Prop} {c : Value → Value → Int} {num : Value → Int} {fr : List (Addr × Obj)} {outer : List Env} {tn : Tok} {Q : Value → Shared → Prop} : N_ns_spec.stX1 w A E s hb C f l D c num fr outer tn Q := (N_ns_spec.allX (w, A, E, s, hb, C, f, l, D, c, num, fr, outer, tn, Q)).2
section
variable {w : World} {A : Around} {E : Value → Shared → Prop} {s : Shared} {hb : Heap} {C f l : Addr} {D : Value → Prop} {c : Value → Value → Int} {num : Value → Int} {vs : List Value} {src : Value} {ls₀ : Led} {fr : List (Addr × Obj)} {outer : List Env} {n : Int} {tn : Tok} {Q : Value → Shared → Prop}
end
end Mine
namespace Mine
structure Rc where
  a : Int
  b : Int
  c : Int
  n : Int
noncomputable def Rc.col (r : Rc) : Nat → Int
  | 0 => r.a
  | 1 => r.b
  | 2 => r.c
  | _ => r.n
noncomputable def RecAt (h : Heap) (v : Value) (r : Rc) : Prop := ∃ l xs, v = .ref l ∧ PL h l xs ∧ xs.length = 4 ∧ ∀ k, k < 4 → ∃ t, xs[k]? = some (.int (r.col k) t)
noncomputable def RulesAt (h : Heap) (l : Addr) (rs : List (Nat × Int)) : Prop := ∃ xs : List Value, PL h l xs ∧ xs.length = rs.length ∧ ∀ (i k : Nat) (s : Int), rs[i]? = some (k, s) → ∃ t tk ts, xs[i]? = some (.ref t) ∧ h.get? t = some (seqObj "tuple" #[.int k tk, .int s ts] 0)
theorem RecAt.kp {h h' : Heap} {v : Value} {r : Rc} (x : RecAt h v r) (k : Kp h h') : RecAt h' v r := by obtain ⟨l, xs, e, p, q⟩ := x; exact ⟨l, xs, e, p.kp k, q⟩
theorem RulesAt.kp {h h' : Heap} {l : Addr} {rs : List (Nat × Int)} (x : RulesAt h l rs) (k : Kp h h') : RulesAt h' l rs :=
  by obtain ⟨xs, p, q, g⟩ := x; exact ⟨xs, p.kp k, q, fun i a b e => by obtain ⟨t, tk, ts, e1, e2⟩ := g i a b e; exact ⟨t, tk, ts, e1, k _ _ e2⟩⟩
noncomputable def ROk (rs : List (Nat × Int)) : Prop := ∀ r ∈ rs, r.1 < 3 ∧ (r.2 = 1 ∨ r.2 = -1)
noncomputable def cmpR : List (Nat × Int) → Rc → Rc → Int
  | [], _, _ => 0
  | (k, s) :: rs, a, b => if a.col k = b.col k then cmpR rs a b else if b.col k < a.col k then s * ((a.n + b.n).fmod 3 + 2) else -s * ((a.n + b.n).fmod 3 + 2)
noncomputable def aheadR : List (Nat × Int) → Rc → Rc → Bool
  | [], _, _ => false
  | (k, s) :: rs, a, b => if a.col k = b.col k then aheadR rs a b else if s = -1 then decide (b.col k < a.col k) else decide (a.col k < b.col k)
section
variable {w : World} {A : Around} {E : Value → Shared → Prop} {s : Shared} {Q : Value → Shared → Prop} {R : Result → Shared → Prop}
theorem forLoopG {target : Expr} {it : Value} {body orelse : List Stmt} {env : Env} (I : Nat → Shared → Prop)
    (turn : ∀ n s, I n s → wpAny (MM w) A (pyNext it) (fun r s₁ => match r with
      | none => wpAny (MM w) A (execs orelse env) (fun f s₃ => R (.ok f) s₃) (notedBy (MM w) A env fun e s' => R (.error e) s') s₁
      | some v => wpAny (MM w) A (letOwnedTupleGo target it v) (fun _ s₁' => wpAny (MM w) A (assign target env v) (fun _ s₂ => wpAny (MM w) A (execs body env) (fun f s₃ => match f with
          | .next | .cont => ∃ m, m < n ∧ I m s₃
          | .brk => R (.ok .next) s₃
          | .ret v => R (.ok (.ret v)) s₃) (notedBy (MM w) A env fun e s' => R (.error e) s') s₂) (notedBy (MM w) A env fun e s' => R (.error e) s') s₁') (notedBy (MM w) A env fun e s' => R (.error e) s') s₁) (notedBy (MM w) A env fun e s' => R (.error e) s') s)
    (n : Nat) (h : I n s) : codeAny (MM w) A (.forLoop target it body orelse env) R s := by
  refine codeAny_loop' rfl I (fun n s hI => ?_) n h
  show wpAny _ _ ((forTurn target it body orelse env).onRaise (fun x => do noteFrame x env; theTreesLotGoes x)) _ _ s
  refine wpAny_noted ?_
  simp only [forTurn]
  refine wpAny_bind (wpAny_standAt (wpAny_bind (wpAny_onRaise (wpAny_mono (turn n s hI) (fun r s₁ h₁ => ?_) fun _ _ h' => wpAny_standAt h'))))
  cases r with
  | none => exact wpAny_pure (.inr ⟨rfl, codeAny_block h₁⟩)
  | some v =>
    refine wpAny_bind (wpAny_mono h₁ (fun _ s₁' h₁' => ?_) fun _ _ h' => h')
    refine wpAny_bind (wpAny_mono h₁' (fun _ s₂ h₂ => wpAny_bind (wpAny_mono h₂ (fun f s₃ h₃ => ?_) fun _ _ h' => h')) fun _ _ h' => h')
    cases f with
    | next => exact wpAny_pure (.inl ⟨rfl, h₃⟩)
    | cont => exact wpAny_pure (.inl ⟨rfl, h₃⟩)
    | brk => exact wpAny_pure h₃
    | ret v => exact wpAny_pure h₃
theorem Lg.start0 {h h₁ : Heap} {L : Addr} {m : Str → Option Value} (F : Fr h L h₁ m) (hL : h.get? L = none) : Lg h L h₁ m [] :=
  ⟨F.ns, F.keep, hL, (fun p hp => nomatch hp), (fun p hp => nomatch hp), List.nodup_nil⟩
theorem newNone (h : Heap) : h.get? h.objs.size = none := Heap.get?_none_of_le (Nat.le_refl _)
theorem recCol {value slice : Expr} {v : Value} {r : Rc} {k : Nat} {t : Tok} {hb : Heap} (hv : RecAt hb v r) (kb : Kp hb s.heap) (hk : k < 4) (h : ∀ t, Q (.int (r.col k) t) s)
    (hs : ∀ l : Addr, subscripted slice false (.ref l) (.int (k : Int) t) = operate [.ref l, .int (k : Int) t] (getItem (.ref l) (.int (k : Int) t)) := by intro _; with_unfolding_all rfl) :
    wpAny (MM w) A (subscriptTail value slice v (.int (k : Int) t)) Q E s := by
  obtain ⟨l, xs, rfl, p, _, q⟩ := hv
  obtain ⟨t', e⟩ := q k hk
  exact itemL (p.kp kb) rfl (by lia) e (h t') (hs l)
inductive CmpI (s : Shared) (L I rl : Addr) (u v : Value) (a b : Rc) (rs : List (Nat × Int)) (T : Int) (n : Nat) : Shared → Prop
  | mk {h : Heap} {tk i : Nat} {m : Str → Option Value} (F : Lg s.heap L h m [(I, isLI rl i)]) (m1 : m (Str.ofString "one") = some u) (m2 : m (Str.ofString "other") = some v) (hT : cmpR (rs.drop i) a b = T) (hn : n + i = rs.length) : CmpI s L I rl u v a b rs T n { s with heap := h, toks := tk }
end
namespace N_compare_spec
noncomputable def stX0 (w : World) (A : Around) (E : Value → Shared → Prop) (s : Shared) (Q : Value → Shared → Prop) (hb : Heap) (rl : Addr) (u v : Value) (a b : Rc) (rs : List (Nat × Int)) : Prop := ∀ (X : KIn w hb) (hR : RulesAt hb rl rs) (ok : ROk rs) (hu : RecAt hb u a) (hv : RecAt hb v b) (hr : Rm A 2) (kb : Kp hb s.heap) (k : ∀ h' tk t, Kp s.heap h' → Q (.int (cmpR rs a b) t) { s with heap := h', toks := tk }), wpAny (MM w) A (call (.ref 131) [u, v, .ref rl]) Q E s
noncomputable abbrev T := World × Around × (Value → Shared → Prop) × Shared × (Value → Shared → Prop) × Heap × Addr × Value × Value × Rc × Rc × (List (Nat × Int))
noncomputable def pX (x : T) : Prop := stX0 x.1 x.2.1 x.2.2.1 x.2.2.2.1 x.2.2.2.2.1 x.2.2.2.2.2.1 x.2.2.2.2.2.2.1 x.2.2.2.2.2.2.2.1 x.2.2.2.2.2.2.2.2.1 x.2.2.2.2.2.2.2.2.2.1 x.2.2.2.2.2.2.2.2.2.2.1 x.2.2.2.2.2.2.2.2.2.2.2
noncomputable def cX : T := @Classical.epsilon _ (ne2 neW (ne2 neA (ne2 neI (ne2 neS (ne2 neI (ne2 neI (ne2 neI (ne2 neI (ne2 neI (ne2 ⟨⟨0, 0, 0, 0⟩⟩ (ne2 ⟨⟨0, 0, 0, 0⟩⟩ neI))))))))))) fun x => ¬ pX x
def w : World := cX.1
def A : Around := cX.2.1
def E : Value → Shared → Prop := cX.2.2.1
def s : Shared := cX.2.2.2.1
def Q : Value → Shared → Prop := cX.2.2.2.2.1
def hb : Heap := cX.2.2.2.2.2.1
def rl : Addr := cX.2.2.2.2.2.2.1
def u : Value := cX.2.2.2.2.2.2.2.1
def v : Value := cX.2.2.2.2.2.2.2.2.1
def a : Rc := cX.2.2.2.2.2.2.2.2.2.1
def b : Rc := cX.2.2.2.2.2.2.2.2.2.2.1
def rs : List (Nat × Int) := cX.2.2.2.2.2.2.2.2.2.2.2
theorem pfX0 : stX0 w A E s Q hb rl u v a b rs := by
  intro X hR ok hu hv hr kb k
  refine callT (X.keeps kb) (by k_is) (by k_is) hr (BindsTo.of_eq rfl) (locs rfl) (fun h₁ F₁ => ?_)
  have F := Lg.start0 F₁ (newNone _)
  generalize hT : cmpR rs a b = T at k
  obtain ⟨xs, hl, hlen, hx⟩ := hR
  refine wpAny_execs_cons (wpAny_For (F.nm rfl (iterL ((hl.kp kb).kp F.keep) (fun I h₂ k₂ n₂ i₂ => ?_))))
  refine forLoopG (CmpI s s.heap.objs.size I rl u v a b rs T) ?_ rs.length (.mk (i := 0) (F.freshLI k₂ n₂ i₂) rfl rfl hT rfl)
  rintro n s' ⟨F, m1, m2, hT, hn⟩
  rename_i h' tk i m
  by_cases hend : rs.length ≤ i
  · refine F.lend (hr.deep _).han (hl.kp kb) (by lia) (fun h₃ F₃ => ?_)
    rw [List.drop_of_length_le hend] at hT
    refine wpAny_execs_nil ?_
    dsimp only
    refine wpAny_execs_cons (wpAny_Return_some (wpAny_Constant_int ?_))
    have hT : 0 = T := hT
    subst hT
    exact k _ _ _ F₃.keep
  · have hlt : i < rs.length := by lia
    obtain ⟨⟨kc, sg⟩, er⟩ : ∃ r, rs[i]? = some r := ⟨_, List.getElem?_eq_getElem hlt⟩
    obtain ⟨t, tk₁, ts, ex, et⟩ := hx i kc sg er
    have okr := ok _ (List.mem_of_getElem? er)
    have ed : rs.drop i = (kc, sg) :: rs.drop (i + 1) := by rw [← List.getElem_cons_drop hlt, Option.some.inj ((List.getElem?_eq_getElem hlt).symm.trans er)]
    rw [ed] at hT
    refine F.lnext 0 rfl (hl.kp kb) ex (fun h₃ F₃ => ?_)
    have F₃ : Lg s.heap s.heap.objs.size h₃ m [(I, isLI rl (i + 1))] := F₃
    refine wpAny_letOwnedTupleGo_listiter (F₃.li (.head _)) ?_
    refine assign_Tuple_tuple (hr.deep _).han ⟨_, F₃.keep _ _ (kb _ _ et), rfl, 0, rfl⟩ rfl rfl (fun h₄ k₄ => ?_)
    have F₄ := F₃.kp (kp_ext k₄)
    refine wpAny_assignInOrder_more (wpAny_assign_Name (F₄.st fun h₅ F₅ => ?_))
    refine wpAny_assignInOrder_more (wpAny_assign_Name (F₅.st fun h₆ F₆ => ?_))
    refine wpAny_assignInOrder_none ?_
    have kb₆ := kb.trans F₆.keep
    refine wpAny_execs_cons (wpAny_If (wpAny_isTrue_Compare1 (Subscript_ (F₆.nm (by exact m1) (F₆.nm rfl (recCol hu kb₆ (by lia) (fun t1 => ?_)))))))
    refine Subscript_ (F₆.nm (by exact m2) (F₆.nm rfl (recCol hv kb₆ (by lia) (fun t2 => ne_int (wpAny_truthy_bool ?_)))))
    rw [cmpR] at hT
    by_cases hc : a.col kc = b.col kc
    · rw [if_pos hc] at hT
      rw [if_neg (by simp [hc])]
      refine wpAny_execs_nil (wpAny_execs_nil ⟨n - 1, by lia, .mk F₆ (by exact m1) (by exact m2) hT (by lia)⟩)
    · rw [if_neg hc] at hT
      rw [if_pos (by simp [hc])]
      refine wpAny_execs_cons (wpAny_Assign_Name (wpAny_BinOp (wpAny_BinOp (wpAny_BinOp (Subscript_ (F₆.nm (by exact m1) (wpAny_Constant_int (recCol (k := 3) hu kb₆ (by lia) (fun t3 => ?_)))))))))
      refine Subscript_ (F₆.nm (by exact m2) (wpAny_Constant_int (recCol (k := 3) hv kb₆ (by lia) (fun t4 => PyProof.Rows.add_int (wpAny_Constant_int (PyProof.Rows.mod_int (by decide) (wpAny_Constant_int (PyProof.Rows.add_int ?_))))))))
      refine F₆.st fun h₇ F₇ => ?_
      dsimp only
      have kb₇ := kb.trans F₇.keep
      refine wpAny_execs_cons (wpAny_Return_some (IfExp_ (wpAny_isTrue_Compare1 (Subscript_ (F₇.nm (by exact m2) (F₇.nm rfl (recCol hv kb₇ (by lia) (fun t5 => ?_))))))))
      refine Subscript_ (F₇.nm (by exact m1) (F₇.nm rfl (recCol hu kb₇ (by lia) (fun t6 => lt_int (wpAny_truthy_bool ?_)))))
      by_cases hd : b.col kc < a.col kc
      · rw [if_pos hd] at hT
        rw [if_pos (by simpa using hd)]
        refine wpAny_BinOp (F₇.nm rfl (F₇.nm rfl (mul_int ?_)))
        subst hT
        exact k _ _ _ F₇.keep
      · rw [if_neg hd] at hT
        rw [if_neg (by simpa using hd)]
        refine wpAny_BinOp (wpAny_UnaryOp (F₇.nm rfl (neg_int (F₇.nm rfl (mul_int ?_)))))
        subst hT
        exact k _ _ _ F₇.keep
theorem allX (x : T) : pX x := eps (P := pX) pfX0
end N_compare_spec
theorem compare_spec {w : World} {A : Around} {E : Value → Shared → Prop} {s : Shared} {Q : Value → Shared → Prop} {hb : Heap} {rl : Addr} {u v : Value} {a b : Rc} {rs : List (Nat × Int)} : N_compare_spec.stX0 w A E s Q hb rl u v a b rs := (N_compare_spec.allX (w, A, E, s, Q, hb, rl, u, v, a, b, rs))
section
variable {w : World} {A : Around} {E : Value → Shared → Prop} {s : Shared} {Q : Value → Shared → Prop} {R : Result → Shared → Prop}
end
end Mine
namespace Mine
section
variable {w : World} {A : Around} {E : Value → Shared → Prop} {s : Shared} {Q : Value → Shared → Prop}
variable {f : Addr} {name qual : Str} {params : Arguments} {body : List Stmt} {scope : Scope} {dV kV doc pm ct oc : Value} {an od : Option Addr} {osl : Array (Option Value)} {args : List Value} {kw : List (Str × Value)} {binds : List (Str × Value)}
theorem callTE {cda : Addr} (X : KIn w s.heap) (ho : (dm.heap_1 w.params).lookup f = some ⟨oc, od, .func (fnX name qual params body scope [] dV kV doc pm an (.ref cda) ct), osl⟩) (hcd : codeIn (dm.heap_1 w.params) (.ref cda) qual = true) {n : Nat} (hr : Rm A n)
    (hbind : BindsTo s (fnX name qual params body scope [] dV kV doc pm an (.ref cda) ct) ⟨args, kw⟩ binds) (hloc : ∀ x ∈ binds, scope.names.lookup x.1 = some .local)
    (h : ∀ h₁, Fr s.heap s.heap.objs.size h₁ (fun x => binds.reverse.lookup x) →
      wpAny (MM w) (A.deeper (envX qual scope s.heap.objs.size f (.ref cda) [])) (execs body (envX qual scope s.heap.objs.size f (.ref cda) [])) (fun fl s' => Q (match fl with | .ret v => v | _ => .none) s')
        (fun e s' => wpAny (MM w) (A.deeper (envX qual scope s.heap.objs.size f (.ref cda) [])) (leaving (envX qual scope s.heap.objs.size f (.ref cda) []) e) (fun _ s'' => E e s'') (fun e' s'' => E e' s'') s')
        { s with heap := h₁, toks := s.toks + binds.length })
    (hcell : autoParam (∀ x ∈ scope.names, x.2 ≠ .cell) tcD) (hco : autoParam (scope.isCoroutine = false) tcR) (hgen : autoParam (scope.isGenerator = false) tcR) (hk : autoParam (scope.kind = .function) tcR)
    (hfn : autoParam ((f == 16 || f == 180) = false) tcR) (hcn : autoParam ((cda == 16 || cda == 180) = false) tcR) :
    wpAny (MM w) A (call (.ref f) args kw) Q E s := by
  refine wpAny_call ?_
  exact codeAny_call_def (fd := fnX name qual params body scope [] dV kV doc pm an (.ref cda) ct) (body := body) (binds := binds) hr.room (X _ _ hfn ho) rfl (nolimit_K X) (X.code hcd hcn) rfl hbind hcell hloc (fun h₁ hns hk₁ => h h₁ ⟨hns, hk₁, Nat.le_refl _⟩) hco hgen hk
theorem leaveFirst {s' : Shared} {h h₁ : Heap} {L e : Addr} {m : Str → Option Value} {fr : List (Addr × Obj)} {env : Env} {outer : List Env} {X : String} {Q' : Unit → Shared → Prop} {E' : Value → Shared → Prop} (F : Fr h L h₁ m) (hL : h.get? L = none) (hB : Below h fr) (Fs : Frs outer fr) (hfr : A.frames = some (env :: outer)) (hf : env.frame = some L) (hk : env.scope.kind = .function) (hx : Heap.NewExc h₁ s'.heap e X)
    (k : ∀ h' a0, Heap.FlyingW (hideAll h (fr.map (·.1))) outer e (.type X) a0 h' → h.UpToSlots h' → Q' () { s' with heap := h' }) : wpAny (MM w) A (leaving env (.ref e)) Q' E' s' := by
  have kx : Kp h₁ s'.heap := hx.keeps
  have kB : Kp (hideAll h₁ (L :: fr.map (·.1))) h₁ := hide_kp _ _
  have k0 : Kp (hideAll h (fr.map (·.1))) (hideAll h₁ (L :: fr.map (·.1))) := fun b o q => hideAll_get _ (F.keep _ _ (of_hideAll _ q)) (fun z => by
    cases z with
    | head => rw [of_hideAll _ q] at hL; cases hL
    | tail _ z => rw [hideAll_none _ z] at q; cases q)
  obtain ⟨ob, tp, he, hcls, hd⟩ := hx.there
  have fun1 : h₁.FunFrames (hideAll h₁ (L :: fr.map (·.1))) (env :: outer) := by
    obtain ⟨o, es, ep, e', hd', r⟩ := F.ns
    refine ⟨by rw [hk]; decide, ⟨L, o, hf, hideAll_none _ (.head _), e', fun vs q => by rw [hd'] at q; cases q⟩, Fs.of (fun p hp => ⟨hideAll_none _ (.tail _ (List.mem_map_of_mem hp)), ?_⟩)⟩
    obtain ⟨o, e, u⟩ := hB p hp
    exact ⟨o, F.keep _ _ e, u⟩
  have hl : s'.heap.FunFrames (hideAll h₁ (L :: fr.map (·.1))) (env :: outer) := fun1.of_keeps fun b o hb _ => ⟨o, kx b o hb, rfl⟩
  refine wpAny_leaving_firstW (a0 := tp) hfr hl hf he (fun b o eb => kx b o (kB b o eb)) (none_base kB hx.new) hd rfl rfl fun h' hL' => ?_
  obtain ⟨k1, ⟨_, _, k2⟩, k3, k4⟩ := hL'
  rw [hcls] at k3
  exact k h' tp (flyingW_base k0 ⟨k1, none_base kB hx.new, k2, k3⟩) (((Heap.UpToSlots.of_keeps F.keep).trans (Heap.UpToSlots.of_keeps kx)).trans k4)
theorem outL {l : Addr} {xs : List Value} {value slice : Expr} {k : Int} {t : Tok} (hA : A.handled = none) (hl : PL s.heap l xs) (hk : (xs.length : Int) ≤ k) (h0 : 0 ≤ k) (hz : k < 2 ^ 63) (hE : ∀ h' tk e, Heap.NewExc s.heap h' e "IndexError" → E (.ref e) { s with heap := h', toks := tk })
    (hs : autoParam (subscripted slice false (.ref l) (.int k t) = operate [.ref l, .int k t] (getItem (.ref l) (.int k t))) tcU) :
    wpAny (MM w) A (subscriptTail value slice (.ref l) (.int k t)) Q E s :=
  tail_any hl.il.typeIs slot_list_getitem.lookup (wpAny_getItem_list_out hA hl.il (.inr (by simpa using hk)) (by lia) hz hE) hs
variable {hb : Heap} {H : Addr} {x : Value} {outer : List Env} {fr : List (Addr × Obj)}
theorem heappop_empty (X : KIn w hb) (hr : Rm A 3) (kb : Kp hb s.heap) (hl : PL s.heap H []) (hfr : A.frames = some outer) (Fs : Frs outer fr) (hB : Below s.heap fr)
    (k : ∀ h' tk e a0, Heap.FlyingW (hideAll s.heap (fr.map (·.1))) outer e (.type "IndexError") a0 h' → s.heap.UpToSlots h' → E (.ref e) { s with heap := h', toks := tk }) : wpAny (MM w) A (call (.ref 35) [.ref H]) Q E s := by
  refine callTE (X.keeps kb) (by k_is) (by k_is) hr (BindsTo.of_eq rfl) (locs rfl) (fun h₁ F₁ => ?_)
  obtain ⟨n, e⟩ := hl.kp F₁.keep
  refine wpAny_execs_cons (wpAny_Assign_Name (MethodCall_ (nmL F₁ rfl (lsMeth ⟨n, e⟩ PySem.F.slot_list_pop PySem.F.type_list_pop (callWith_method0 (call_meets PySem.F.slot_list_pop ⟨_, e, rfl⟩ PySem.F.entry_list_pop (PySem.F.args_list_pop_1 _) (AutoListH.list_pop_list_0 H #[] n rfl) ⟨e, (hr.deep _).han, fun h' tk e hx => ?_⟩))))))
  exact leaveFirst (s' := { s with heap := h', toks := tk }) F₁ (newNone _) hB Fs (by show A.frames.map _ = _; rw [hfr]; rfl) rfl rfl hx (fun h'' a0 fl up => k h'' tk e a0 fl up)
theorem heapreplace_empty (X : KIn w hb) (hr : Rm A 3) (kb : Kp hb s.heap) (hl : PL s.heap H []) (hfr : A.frames = some outer) (Fs : Frs outer fr) (hB : Below s.heap fr)
    (k : ∀ h' tk e a0, Heap.FlyingW (hideAll s.heap (fr.map (·.1))) outer e (.type "IndexError") a0 h' → s.heap.UpToSlots h' → E (.ref e) { s with heap := h', toks := tk }) : wpAny (MM w) A (call (.ref 42) [.ref H, x]) Q E s := by
  refine callTE (X.keeps kb) (by k_is) (by k_is) hr (BindsTo.of_eq rfl) (locs rfl) (fun h₁ F₁ => ?_)
  have hl₁ := hl.kp F₁.keep
  refine wpAny_execs_cons (wpAny_Assign_Name (Subscript_ (nmL F₁ rfl (wpAny_Constant_int (outL (hr.deep _).han hl₁ (by decide) (by decide) (by decide) (fun h' tk e hx => ?_))))))
  exact leaveFirst (s' := { s with heap := h', toks := tk }) F₁ (newNone _) hB Fs (by show A.frames.map _ = _; rw [hfr]; rfl) rfl rfl hx (fun h'' a0 fl up => k h'' tk e a0 fl up)
end
end Mine
namespace Mine
section
variable {w : World} {A : Around} {E : Value → Shared → Prop} {s : Shared} {Q : Value → Shared → Prop} {R : Result → Shared → Prop}
inductive AhI (s : Shared) (L I rl : Addr) (u v : Value) (a b : Rc) (rs : List (Nat × Int)) (T : Bool) (n : Nat) : Shared → Prop
  | mk {h : Heap} {tk i : Nat} {m : Str → Option Value} (F : Lg s.heap L h m [(I, isLI rl i)]) (m1 : m (Str.ofString "one") = some u) (m2 : m (Str.ofString "other") = some v) (hT : aheadR (rs.drop i) a b = T) (hn : n + i = rs.length) : AhI s L I rl u v a b rs T n { s with heap := h, toks := tk }
end
namespace N_ahead_spec
noncomputable def stX0 (w : World) (A : Around) (E : Value → Shared → Prop) (s : Shared) (Q : Value → Shared → Prop) (hb : Heap) (rl : Addr) (u v : Value) (a b : Rc) (rs : List (Nat × Int)) : Prop := ∀ (X : KIn w hb) (hR : RulesAt hb rl rs) (ok : ROk rs) (hu : RecAt hb u a) (hv : RecAt hb v b) (hr : Rm A 2) (kb : Kp hb s.heap) (k : ∀ h' tk, Kp s.heap h' → Q (.bool (aheadR rs a b)) { s with heap := h', toks := tk }), wpAny (MM w) A (call (.ref 138) [u, v, .ref rl]) Q E s
noncomputable abbrev T := World × Around × (Value → Shared → Prop) × Shared × (Value → Shared → Prop) × Heap × Addr × Value × Value × Rc × Rc × (List (Nat × Int))
noncomputable def pX (x : T) : Prop := stX0 x.1 x.2.1 x.2.2.1 x.2.2.2.1 x.2.2.2.2.1 x.2.2.2.2.2.1 x.2.2.2.2.2.2.1 x.2.2.2.2.2.2.2.1 x.2.2.2.2.2.2.2.2.1 x.2.2.2.2.2.2.2.2.2.1 x.2.2.2.2.2.2.2.2.2.2.1 x.2.2.2.2.2.2.2.2.2.2.2
noncomputable def cX : T := @Classical.epsilon _ (ne2 neW (ne2 neA (ne2 neI (ne2 neS (ne2 neI (ne2 neI (ne2 neI (ne2 neI (ne2 neI (ne2 ⟨⟨0, 0, 0, 0⟩⟩ (ne2 ⟨⟨0, 0, 0, 0⟩⟩ neI))))))))))) fun x => ¬ pX x
def w : World := cX.1
def A : Around := cX.2.1
def E : Value → Shared → Prop := cX.2.2.1
def s : Shared := cX.2.2.2.1
def Q : Value → Shared → Prop := cX.2.2.2.2.1
def hb : Heap := cX.2.2.2.2.2.1
def rl : Addr := cX.2.2.2.2.2.2.1
def u : Value := cX.2.2.2.2.2.2.2.1
def v : Value := cX.2.2.2.2.2.2.2.2.1
def a : Rc := cX.2.2.2.2.2.2.2.2.2.1
def b : Rc := cX.2.2.2.2.2.2.2.2.2.2.1
def rs : List (Nat × Int) := cX.2.2.2.2.2.2.2.2.2.2.2
theorem pfX0 : stX0 w A E s Q hb rl u v a b rs := by
  intro X hR ok hu hv hr kb k
  refine callT (X.keeps kb) (by k_is) (by k_is) hr (BindsTo.of_eq rfl) (locs rfl) (fun h₁ F₁ => ?_)
  have F := Lg.start0 F₁ (newNone _)
  generalize hT : aheadR rs a b = T at k
  obtain ⟨xs, hl, hlen, hx⟩ := hR
  refine wpAny_execs_cons (wpAny_For (F.nm rfl (iterL ((hl.kp kb).kp F.keep) (fun I h₂ k₂ n₂ i₂ => ?_))))
  refine forLoopG (AhI s s.heap.objs.size I rl u v a b rs T) ?_ rs.length (.mk (i := 0) (F.freshLI k₂ n₂ i₂) rfl rfl hT rfl)
  rintro n s' ⟨F, m1, m2, hT, hn⟩
  rename_i h' tk i m
  by_cases hend : rs.length ≤ i
  · refine F.lend (hr.deep _).han (hl.kp kb) (by lia) (fun h₃ F₃ => ?_)
    rw [List.drop_of_length_le hend] at hT
    refine wpAny_execs_nil ?_
    dsimp only
    refine wpAny_execs_cons (wpAny_Return_some (wpAny_Constant_bool ?_))
    have hT : false = T := hT
    subst hT
    exact k _ _ F₃.keep
  · have hlt : i < rs.length := by lia
    obtain ⟨⟨kc, sg⟩, er⟩ : ∃ r, rs[i]? = some r := ⟨_, List.getElem?_eq_getElem hlt⟩
    obtain ⟨t, tk₁, ts, ex, et⟩ := hx i kc sg er
    have okr := ok _ (List.mem_of_getElem? er)
    have ed : rs.drop i = (kc, sg) :: rs.drop (i + 1) := by rw [← List.getElem_cons_drop hlt, Option.some.inj ((List.getElem?_eq_getElem hlt).symm.trans er)]
    rw [ed, aheadR] at hT
    refine F.lnext 0 rfl (hl.kp kb) ex (fun h₃ F₃ => ?_)
    have F₃ : Lg s.heap s.heap.objs.size h₃ m [(I, isLI rl (i + 1))] := F₃
    refine wpAny_letOwnedTupleGo_listiter (F₃.li (.head _)) ?_
    refine assign_Tuple_tuple (hr.deep _).han ⟨_, F₃.keep _ _ (kb _ _ et), rfl, 0, rfl⟩ rfl rfl (fun h₄ k₄ => ?_)
    have F₄ := F₃.kp (kp_ext k₄)
    refine wpAny_assignInOrder_more (wpAny_assign_Name (F₄.st fun h₅ F₅ => ?_))
    refine wpAny_assignInOrder_more (wpAny_assign_Name (F₅.st fun h₆ F₆ => ?_))
    refine wpAny_assignInOrder_none ?_
    have kb₆ := kb.trans F₆.keep
    have k1 : kc < 4 := by lia
    refine wpAny_execs_cons (wpAny_If (isTrue_and (wpAny_isTrue_Compare1 (F₆.nm rfl (wpAny_UnaryOp (wpAny_Constant_int (neg_int (eq_int (wpAny_truthy_bool ?_)))))))))
    by_cases hm : sg = -1
    · rw [if_pos hm] at hT
      rw [if_pos (by simpa using hm)]
      refine isTrue_and (wpAny_isTrue_Compare1 (Subscript_ (F₆.nm (by exact m1) (F₆.nm rfl (recCol hu kb₆ k1 (fun t1 => ?_))))))
      refine Subscript_ (F₆.nm (by exact m2) (F₆.nm rfl (recCol hv kb₆ k1 (fun t2 => ne_int (wpAny_truthy_bool ?_)))))
      by_cases hc : a.col kc = b.col kc
      · rw [if_pos hc] at hT
        rw [if_neg (by simp [hc]), if_neg (by simp)]
        refine wpAny_execs_nil ?_
        refine wpAny_execs_cons (wpAny_If (wpAny_isTrue_Compare1 (Subscript_ (F₆.nm (by exact m1) (F₆.nm rfl (recCol hu kb₆ k1 (fun t1 => ?_)))))))
        refine Subscript_ (F₆.nm (by exact m2) (F₆.nm rfl (recCol hv kb₆ k1 (fun t2 => ne_int (wpAny_truthy_bool ?_)))))
        rw [if_neg (by simp [hc])]
        exact wpAny_execs_nil (wpAny_execs_nil ⟨n - 1, by lia, .mk F₆ (by exact m1) (by exact m2) hT (by lia)⟩)
      · rw [if_neg hc] at hT
        rw [if_pos (by simp [hc])]
        refine isTrue_and_nil ?_
        rw [if_pos rfl]
        refine wpAny_execs_cons (wpAny_Return_some (wpAny_Compare1 (Subscript_ (F₆.nm (by exact m2) (F₆.nm rfl (recCol hv kb₆ k1 (fun t5 => ?_)))))))
        refine Subscript_ (F₆.nm (by exact m1) (F₆.nm rfl (recCol hu kb₆ k1 (fun t6 => lt_int ?_))))
        subst hT
        exact k _ _ F₆.keep
    · rw [if_neg hm] at hT
      rw [if_neg (by simpa using hm), if_neg (by simp)]
      refine wpAny_execs_nil ?_
      refine wpAny_execs_cons (wpAny_If (wpAny_isTrue_Compare1 (Subscript_ (F₆.nm (by exact m1) (F₆.nm rfl (recCol hu kb₆ k1 (fun t1 => ?_)))))))
      refine Subscript_ (F₆.nm (by exact m2) (F₆.nm rfl (recCol hv kb₆ k1 (fun t2 => ne_int (wpAny_truthy_bool ?_)))))
      by_cases hc : a.col kc = b.col kc
      · rw [if_pos hc] at hT
        rw [if_neg (by simp [hc])]
        exact wpAny_execs_nil (wpAny_execs_nil ⟨n - 1, by lia, .mk F₆ (by exact m1) (by exact m2) hT (by lia)⟩)
      · rw [if_neg hc] at hT
        rw [if_pos (by simp [hc])]
        refine wpAny_execs_cons (wpAny_Return_some (wpAny_Compare1 (Subscript_ (F₆.nm (by exact m1) (F₆.nm rfl (recCol hu kb₆ k1 (fun t5 => ?_)))))))
        refine Subscript_ (F₆.nm (by exact m2) (F₆.nm rfl (recCol hv kb₆ k1 (fun t6 => lt_int ?_))))
        subst hT
        exact k _ _ F₆.keep
theorem allX (x : T) : pX x := eps (P := pX) pfX0
end N_ahead_spec
theorem ahead_spec {w : World} {A : Around} {E : Value → Shared → Prop} {s : Shared} {Q : Value → Shared → Prop} {hb : Heap} {rl : Addr} {u v : Value} {a b : Rc} {rs : List (Nat × Int)} : N_ahead_spec.stX0 w A E s Q hb rl u v a b rs := (N_ahead_spec.allX (w, A, E, s, Q, hb, rl, u, v, a, b, rs))
section
variable {w : World} {A : Around} {E : Value → Shared → Prop} {s : Shared} {Q : Value → Shared → Prop} {R : Result → Shared → Prop}
end
end Mine
namespace Mine
noncomputable def Idv (v : Value) : Prop := (∃ a, v = .ref a) ∨ ∃ b, v = .bool b
section
variable {w : World} {A : Around} {E : Value → Shared → Prop} {s : Shared} {Q : Value → Shared → Prop} {l b : Addr} {xs ys : List Value}
theorem eqSame {M : Model} {v : Value} {Q : Bool → Shared → Prop} (hv : Idv v) (h : Q true s) : wpAny M A (eqBool v v) Q E s := by
  unfold PySem.eqBool
  refine wpAny_holding ?_
  rcases hv with ⟨a, rfl⟩ | ⟨a, rfl⟩
  · rw [if_pos (by simp)]
    exact wpAny_bind (wpAny_rule (wpAny_pure h))
  · rw [if_pos (by cases a <;> rfl)]
    exact wpAny_bind (wpAny_rule (wpAny_pure h))
theorem listNeSame (hl : PL s.heap l xs) (hb : PL s.heap b xs) (hv : ∀ v ∈ xs, Idv v) (hu : A.units < cLine) (h : Q (.bool false) s) : wpAny (MM w) A (compareOp .NotEq (.ref l) (.ref b)) Q E s := by
  obtain ⟨n, el⟩ := hl
  obtain ⟨n', eb⟩ := hb
  refine cmp_ofNotEq (wpAny_richCompare_same_room (op := .NotEq) ⟨_, el, rfl⟩ ⟨_, eb, rfl⟩ PySem.F.slot_list_ne (call_meets PySem.F.slot_list_ne ⟨_, el, rfl⟩ PySem.F.entry_list_ne (PySem.F.args_list_ne_2 _ _) (PySem.SeqAt.list_neAt l b xs.toArray xs.toArray n n' none none #[] #[] rfl (fun _ => true)) ⟨el, eb, fun j h1 h2 => ?_, ?_⟩) hu)
  · intro prog w' Q' E' hq
    exact eqSame (hv _ (by simpa using List.getElem_mem (l := xs) (by simpa using h1))) hq
  · have e : (!(List.range xs.toArray.size).all fun _ => true) = false := by simp
    rw [e]
    exact ⟨nofun, h⟩
theorem listEqNil (hl : PL s.heap l xs) (hb : PL s.heap b []) (hu : A.units < cLine) (h : Q (.bool (decide (xs = []))) s) : wpAny (MM w) A (compareOp .Eq (.ref l) (.ref b)) Q E s := by
  obtain ⟨n, el⟩ := hl
  obtain ⟨n', eb⟩ := hb
  refine cmp_ofEq (wpAny_richCompare_same_room (op := .Eq) ⟨_, el, rfl⟩ ⟨_, eb, rfl⟩ PySem.F.slot_list_eq ?_ hu)
  by_cases e : xs = []
  · subst e
    refine call_meets PySem.F.slot_list_eq ⟨_, el, rfl⟩ PySem.F.entry_list_eq (PySem.F.args_list_eq_2 _ _) (MeetsSeq3.list_eq l b #[] #[] n n' rfl (fun _ => true) (fun j h1 h2 => by simp at h1)) ⟨el, eb, ?_⟩
    exact ⟨nofun, h⟩
  · refine call_meets PySem.F.slot_list_eq ⟨_, el, rfl⟩ PySem.F.entry_list_eq (PySem.F.args_list_eq_2 _ _) (AutoSeq1.list___eq___list_list_0 l xs.toArray n b #[] n' (by simpa using e)) ⟨el, eb, ?_⟩
    rw [decide_eq_false e] at h
    exact ⟨nofun, h⟩
theorem recNe {u v : Value} {x y : Rc} {Q : Bool → Shared → Prop} (hu : RecAt s.heap u x) (hv : RecAt s.heap v y) (hn : x.n ≠ y.n) (hc : A.units < cLine) (h : Q false s) : wpAny (MM w) A (eqBool u v) Q E s := by
  obtain ⟨l, xs, rfl, ⟨n, el⟩, xl, xi⟩ := hu
  obtain ⟨b, ys, rfl, ⟨n', eb⟩, yl, yi⟩ := hv
  have ne : l ≠ b := fun q => by
    subst q
    rw [el] at eb
    have := congrArg Obj.data (Option.some.inj eb)
    injection this with q _
    have q : xs = ys := by simpa using q
    subst q
    obtain ⟨t, e1⟩ := xi 3 (by decide)
    obtain ⟨t', e2⟩ := yi 3 (by decide)
    have q := Option.some.inj (e1.symm.trans e2)
    injection q with q _
    exact hn q
  unfold PySem.eqBool
  refine wpAny_holding ?_
  rw [if_neg (by simpa using ne)]
  refine wpAny_bind ?_
  have eg : ∀ j (h1 : j < xs.toArray.size) (h2 : j < ys.toArray.size), MeetsSeq.EqGives xs.toArray[j] ys.toArray[j] (x.col j == y.col j) := fun j h1 h2 => by
    have h1' : j < xs.length := by simpa using h1
    have h2' : j < ys.length := by simpa using h2
    obtain ⟨t, e1⟩ := xi j (by lia)
    obtain ⟨t', e2⟩ := yi j (by lia)
    rw [List.getElem?_eq_getElem h1'] at e1
    rw [List.getElem?_eq_getElem h2'] at e2
    simp only [List.getElem_toArray]
    rw [Option.some.inj e1, Option.some.inj e2]
    exact MeetsSeq.EqGives.int _ _ _ _
  refine cmp_ofEq (wpAny_richCompare_same_room (op := .Eq) ⟨_, el, rfl⟩ ⟨_, eb, rfl⟩ PySem.F.slot_list_eq (call_meets PySem.F.slot_list_eq ⟨_, el, rfl⟩ PySem.F.entry_list_eq (PySem.F.args_list_eq_2 _ _) (MeetsSeq3.list_eq l b xs.toArray ys.toArray n n' (by simp [xl, yl]) (fun j => x.col j == y.col j) eg) ⟨el, eb, ?_⟩) hc)
  have e : ((List.range xs.toArray.size).all fun j => x.col j == y.col j) = false := by
    rw [List.size_toArray, xl]
    have : (x.n == y.n) = false := by simpa using hn
    simp [List.range_succ, Rc.col, this]
  rw [e]
  exact ⟨nofun, wpAny_truthy_bool h⟩
theorem insertX {x : Int} {t : Tok} {v : Value} {its : Array Value} {n : Nat} (e : s.heap.get? l = some (listOf its n)) (fit : ¬ (!Builtin.List.listFitsIndex x) = true) (z : its.size ≤ sizeLine)
    (h : Q .none { s with heap := s.heap.update l (Obj.mapSeq fun xs => have k := if x < 0 then (x + ((xs.size : Nat) : Int)).toNat else min x.toNat xs.size; (xs.extract 0 k).push v ++ xs.extract k) }) :
    wpAny (MM w) A (call (.builtin "list.insert") [.ref l, .int x t, v]) Q E s :=
  call_meets PySem.F.slot_list_insert ⟨_, e, rfl⟩ PySem.F.entry_list_insert (PySem.F.args_list_insert_3 _ _ _) (@AutoListH.list_insert_list_int_val_1 l its n x t v fit z) ⟨e, h⟩
theorem insertL {i : Nat} {t : Tok} {v : Value} (hl : PL s.heap l xs) (hi : i ≤ xs.length) (hz : xs.length < 2 ^ 20) (h : ∀ h', PL h' l (xs.take i ++ v :: xs.drop i) → Heap.SameBut l s.heap h' → Q .none { s with heap := h' }) :
    wpAny (MM w) A (call (.builtin "list.insert") [.ref l, .int i t, v]) Q E s := by
  obtain ⟨n, e⟩ := id hl
  have fit : ¬ (!Builtin.List.listFitsIndex (i : Int)) = true := by
    have : Builtin.List.listFitsIndex (i : Int) = true := by
      unfold Builtin.List.listFitsIndex
      simp only [Bool.and_eq_true, decide_eq_true_eq]
      lia
    rw [this]; decide
  have z : xs.toArray.size ≤ sizeLine := by rw [sizeLine_eq, List.size_toArray]; lia
  have e1 : ¬ ((i : Int) < 0) := by lia
  have e2 : min (i : Int).toNat xs.toArray.size = i := by rw [Int.toNat_natCast, List.size_toArray]; exact Nat.min_eq_left hi
  refine insertX e fit z (h _ (hl.upd _ ?_) (Heap.SameBut.update ..))
  simp only [e1, if_false, e2]
  apply Array.ext'
  simp
  exact List.take_of_length_le (by rw [List.length_drop]; exact Nat.le_refl _)
theorem pop0L {t : Tok} {v : Value} (hl : PL s.heap l (v :: xs)) (hz : xs.length < 2 ^ 20) (h : ∀ h', PL h' l xs → Heap.SameBut l s.heap h' → Q v { s with heap := h' }) :
    wpAny (MM w) A (call (.builtin "list.pop") [.ref l, .int 0 t]) Q E s := by
  obtain ⟨n, e⟩ := id hl
  refine call_meets PySem.F.slot_list_pop ⟨_, e, rfl⟩ PySem.F.entry_list_pop (PySem.F.args_list_pop_2 _ _) (MeetsSeq.list_pop_at l (v :: xs).toArray n 0 t 0 v (by rfl) (by unfold seqIndex?; simp) rfl (by rw [sizeLine_eq, List.size_toArray, List.length_cons]; lia)) ⟨e, h _ (hl.upd _ ?_) (Heap.SameBut.update ..)⟩
  apply Array.ext'
  simp [Array.eraseIdxIfInBounds]
theorem removeLoop {v : Value} {j n : Nat} {R : Result → Shared → Prop} (hl : s.heap.get? l = some (listOf xs.toArray n)) (hj : xs[j]? = some v) (hv : Idv v) (hz : xs.length < 2 ^ 20)
    (hne : ∀ (i : Nat) (u : Value), i < j → xs[i]? = some u → ∀ (Q' : Bool → Shared → Prop) (E' : Value → Shared → Prop), Q' false s → wpAny (MM w) A.in1 (eqBool u v) Q' E' s)
    (h : R (.ok (.ret .none)) { s with heap := s.heap.update l (Obj.mapSeq fun xs => xs.eraseIdxIfInBounds j) }) : ∀ (k i : Nat), j - i = k → i ≤ j → codeAny (MM w) A (.builtin "list.remove.loop" ⟨[.ref l, v, rawInt i], []⟩) R s := by
  intro k
  obtain ⟨hp, g, d, tk, os⟩ := s
  have hlt : j < xs.length := (List.getElem?_eq_some_iff.mp hj).1
  induction k with
  | zero =>
    intro i hk hij
    have hij' : i = j := by lia
    subst hij'
    refine codeAny_builtin MeetsSeq.entry_remove_loop ?_
    rw [Around.under_plainId MeetsSeq.plain_remove_loop _]
    wp_walk using wpAny_loadPart' hl
    have hi : xs.toArray[((i : Nat) : Int).toNat]? = some v := by simpa using hj
    rw [hi]
    refine wpAny_bind (eqSame hv ?_)
    have hz' : (xs.toArray.eraseIdxIfInBounds i).size ≤ sizeLine + 1 := Nat.le_trans (MeetsSeq.size_erased _ _) (by rw [sizeLine_eq, List.size_toArray]; lia)
    wp_walk using (wpAny_updateSeq hl rfl (hz := by rw [sizeLine_eq, List.size_toArray]; lia) (_hz' := hz')), wpAny_loadPart' hl
    simpa using h
  | succ k ih =>
    intro i hk hij
    have hl' : i < xs.length := by lia
    refine codeAny_builtin MeetsSeq.entry_remove_loop ?_
    rw [Around.under_plainId MeetsSeq.plain_remove_loop _]
    wp_walk using wpAny_loadPart' hl
    have hi : xs.toArray[((i : Nat) : Int).toNat]? = some xs[i] := by simp [hl']
    have hc : ((i : Int) + 1) = ((i + 1 : Nat) : Int) := by push_cast; rfl
    rw [hi]
    refine wpAny_bind (hne i xs[i] (by lia) (List.getElem?_eq_getElem hl') _ _ ?_)
    wp_walk
    rw [hc]
    exact ⟨plainId_quiet MeetsSeq.plain_remove_loop _, ih (i + 1) (by lia) (by lia)⟩
theorem removeL {v : Value} {j : Nat} (hl : PL s.heap l xs) (hj : xs[j]? = some v) (hv : Idv v) (hz : xs.length < 2 ^ 20)
    (hne : ∀ (i : Nat) (u : Value), i < j → xs[i]? = some u → ∀ (A' : Around) (Q' : Bool → Shared → Prop) (E' : Value → Shared → Prop), A'.units ≤ A.units + 3 → Q' false s → wpAny (MM w) A' (eqBool u v) Q' E' s)
    (h : ∀ h', PL h' l (xs.eraseIdx j) → Heap.SameBut l s.heap h' → Q .none { s with heap := h' }) : wpAny (MM w) A (call (.builtin "list.remove") [.ref l, v]) Q E s := by
  obtain ⟨n, e⟩ := id hl
  refine wpAny_call (codeAny_call_builtin PySem.F.slot_list_remove.plain PySem.F.entry_list_remove (PySem.F.slot_list_remove.check _ _ _ _ _ _ _ _ ⟨_, e, rfl⟩ (PySem.F.args_list_remove_2 _ _) ?_))
  have up : PL (s.heap.update l (Obj.mapSeq fun xs => xs.eraseIdxIfInBounds j)) l (xs.eraseIdx j) := hl.upd _ (by
    have := (List.getElem?_eq_some_iff.mp hj).1
    apply Array.ext'
    simp [Array.eraseIdxIfInBounds, this])
  obtain ⟨hp, g, d, tk, os⟩ := s
  wp_walk using wpAny_loadPart' e
  refine ⟨plainId_quiet MeetsSeq.plain_remove_loop _, removeLoop (s := ⟨hp, g, d, tk, os⟩) e hj hv hz (fun i u a b Q' E' => hne i u a b _ Q' E' ?_) (h _ up (Heap.SameBut.update ..)) _ 0 rfl (Nat.zero_le _)⟩
  show A.units + _ ≤ A.units + 3
  lia
end
end Mine
namespace Mine
noncomputable def insB (p : Value → Bool) (x : Value) : List Value → List Value
  | [] => [x]
  | y :: ys => if p y then x :: y :: ys else y :: insB p x ys
noncomputable abbrev SK (w : World) := PySem.strKind PySem.Challenge.rw_ki0045_01.row.prog w
noncomputable abbrev isTI (t : Addr) (i : Nat) : Obj → Prop := fun o => o.cls = .type "tuple_iterator" ∧ o.data = .fields #[.ref t, .int i 0]
section
variable {w : World} {A : Around} {E : Value → Shared → Prop} {s : Shared} {Q : Value → Shared → Prop} {hb h₀ : Heap} {L a t : Addr} {m : Str → Option Value} {ls : Led} {its : Array Value}
theorem getW {W : Addr} {kvs : List (Str × Value)} {x : Str} {tk : Tok} {v : Value} {value slice : Expr} (hd : hb.DictOf (SK w) W kvs) (kb : Kp hb s.heap) (hv : valueAt kvs x = some v) (h : Q v { s with toks := s.toks + 1 })
    (hs : autoParam (subscripted slice false (.ref W) (.str x tk) = operate [.ref W, .str x tk] (getItem (.ref W) (.str x tk))) tcU) : wpAny (MM w) A (subscriptTail value slice (.ref W) (.str x tk)) Q E s :=
  tail_any (hd.keep kb).typeIs slot_dict_getitem.lookup (wpAny_getItem_of (strKind_is _ _ _ _) (hd.keep kb).mapOf hv h) hs
theorem Lg.ti {h : Heap} {i : Nat} (F : Lg h₀ L h m ls) (hi : (a, isTI t i) ∈ ls) : h.IsTupleIter a t i := by obtain ⟨o, e, p, q⟩ := F.get hi; exact ⟨o, e, p, q⟩
theorem iterT {Q : Value → Shared → Prop} (ht : s.heap.get? t = some (seqObj "tuple" its 0)) (h : ∀ I h', Kp s.heap h' → s.heap.get? I = none → h'.IsTupleIter I t 0 → Q (.ref I) { s with heap := h' }) : wpAny (MM w) A (pyIter (.ref t)) Q E s :=
  wpAny_pyIter_tuple ⟨_, ht, rfl, 0, rfl⟩ (h _ _ (Kp.push _ _) (newNone _) ⟨_, Heap.get?_push_size _ rfl, rfl, rfl⟩)
theorem Lg.tnext {k : Nat} {v : Value} {Q : Option Value → Shared → Prop} (F : Lg h₀ L s.heap m ((a, isTI t k) :: ls)) (ht : h₀.get? t = some (seqObj "tuple" its 0)) (hx : its[k]? = some v)
    (h : ∀ h', Lg h₀ L h' m ((a, isTI t (k + 1)) :: ls) → Q (some v) { s with heap := h' }) : wpAny (MM w) A (pyNext (.ref a)) Q E s :=
  wpAny_pyNext_tuple_item (F.ti (.head _)) ⟨_, F.keep _ _ ht, rfl, 0, rfl⟩ hx (fun h' ⟨o, e, p, q⟩ hs => h h' (F.put 0 rfl hs e ⟨p, q⟩))
theorem Lg.tend {k : Nat} {Q : Option Value → Shared → Prop} (F : Lg h₀ L s.heap m ((a, isTI t k) :: ls)) (hh : A.handled = none) (ht : h₀.get? t = some (seqObj "tuple" its 0)) (hx : its[k]? = none)
    (h : ∀ h', Lg h₀ L h' m ls → Q none { s with heap := h' }) : wpAny (MM w) A (pyNext (.ref a)) Q E s :=
  wpAny_pyNext_tuple_end hh (F.ti (.head _)) ⟨_, F.keep _ _ ht, rfl, 0, rfl⟩ hx (fun h' k => h h' (F.ext k))
theorem goTI {elts : List Expr} {x1 : Nat} {pos : Pos} {T : Addr} {i : Nat} {Q : Unit → Shared → Prop} (hit : s.heap.IsTupleIter a t i) (hQ : Q () s) :
    wpAny (MM w) A (letOwnedTupleGo (.Tuple elts x1 pos) (.ref a) (.ref T)) Q E s := by
  obtain ⟨o, ho, hc, hd⟩ := hit
  unfold letOwnedTupleGo
  refine wpAny_bind (wpAny_load ho ?_)
  rw [hc, hd]
  show wpAny _ A (if (["enumerate", "zip", "dict_itemiterator", "dict_reverseitemiterator", "odict_iterator", "itertools.zip_longest", "itertools.pairwise"].contains "tuple_iterator" && _) = true then _ else _) Q E s
  rw [if_neg (by
    intro h
    rw [show (["enumerate", "zip", "dict_itemiterator", "dict_reverseitemiterator", "odict_iterator", "itertools.zip_longest", "itertools.pairwise"].contains "tuple_iterator") = false from by decide, Bool.false_and] at h
    cases h)]
  exact wpAny_pure hQ
inductive LayI (s : Shared) (hB : Heap) (L I T R G M W rl : Addr) (x : Value) (xs ys xs' ys' zs : List Value) (n : Nat) : Shared → Prop
  | go {h : Heap} {tk : Nat} {m : Str → Option Value} (b : Bool) (F : Lg hB L h m ((I, isTI T b.toNat) :: (cond b G R, isL (cond b ys xs)) :: (cond b R G, isL (cond b xs' ys)) :: (M, isL zs) :: [])) (m1 : m (Str.ofString "world") = some (.ref W)) (m2 : m (Str.ofString "record") = some x) (m3 : m (Str.ofString "rules") = some (.ref rl)) (hn : n + b.toNat = 2) :
    LayI s hB L I T R G M W rl x xs ys xs' ys' zs n { s with heap := h, toks := tk }
  | fin {h : Heap} {tk : Nat} {m : Str → Option Value} (F : Lg hB L h m ((I, isTI T 2) :: (R, isL xs') :: (G, isL ys') :: (M, isL zs) :: [])) (m1 : m (Str.ofString "world") = some (.ref W)) (m2 : m (Str.ofString "record") = some x) (hn : n = 0) :
    LayI s hB L I T R G M W rl x xs ys xs' ys' zs n { s with heap := h, toks := tk }
inductive RowI (s : Shared) (hB : Heap) (L a W rl : Addr) (b : Bool) (ti o1 : Addr × (Obj → Prop)) (ls : Led) (p : Value → Bool) (x : Value) (ws T : List Value) (n : Nat) : Shared → Prop
  | mk {h : Heap} {tk i : Nat} {t : Tok} {m : Str → Option Value} (F : Lg hB L h m (ti :: (a, isL ws) :: o1 :: ls)) (m1 : m (Str.ofString "world") = some (.ref W)) (m2 : m (Str.ofString "record") = some x) (m3 : m (Str.ofString "rules") = some (.ref rl)) (m4 : m (Str.ofString "row") = some (.ref a)) (m5 : m (Str.ofString "turned") = some (.bool b))
    (m6 : m (Str.ofString "at") = some (.int i t)) (hi : n + i = ws.length) (hT : ws.take i ++ insB p x (ws.drop i) = T) : RowI s hB L a W rl b ti o1 ls p x ws T n { s with heap := h, toks := tk }
inductive RowE (s : Shared) (hB : Heap) (L a W rl : Addr) (ti o1 : Addr × (Obj → Prop)) (ls : Led) (x : Value) (ws T : List Value) : Result → Shared → Prop
  | mk {h : Heap} {tk i : Nat} {t : Tok} {m : Str → Option Value} (F : Lg hB L h m (ti :: (a, isL ws) :: o1 :: ls)) (m1 : m (Str.ofString "world") = some (.ref W)) (m2 : m (Str.ofString "record") = some x) (m3 : m (Str.ofString "rules") = some (.ref rl)) (m4 : m (Str.ofString "row") = some (.ref a))
    (m6 : m (Str.ofString "at") = some (.int i t)) (hi : i ≤ ws.length) (hT : ws.take i ++ x :: ws.drop i = T) : RowE s hB L a W rl ti o1 ls x ws T (.ok .next) { s with heap := h, toks := tk }
end
namespace N_lay_spec
noncomputable def stX0 (w : World) (A : Around) (E : Value → Shared → Prop) (s : Shared) (Q : Value → Shared → Prop) (hb : Heap) (W rl R G M : Addr) (kvs : List (Str × Value)) (rs : List (Nat × Int)) (rc : Value → Rc) (x : Value) (xs ys zs : List Value) : Prop := ∀ (X : KIn w hb) (hd : hb.DictOf (SK w) W kvs) (v1 : valueAt kvs (Str.ofString "rules") = some (.ref rl)) (v2 : valueAt kvs (Str.ofString "rising") = some (.ref R)) (v3 : valueAt kvs (Str.ofString "falling") = some (.ref G)) (v4 : valueAt kvs (Str.ofString "came") = some (.ref M)) (hR : RulesAt hb rl rs) (ok : ROk rs) (hx : RecAt hb x (rc x)) (hxs : ∀ v ∈ xs, RecAt hb v (rc v)) (hys : ∀ v ∈ ys, RecAt hb v (rc v)) (hr : Rm A 4) (kb : Kp hb s.heap) (n1 : hb.get? R = none) (n2 : hb.get? G = none) (n3 : hb.get? M = none) (nd : [R, G, M].Nodup) (l1 : PL s.heap R xs) (l2 : PL s.heap G ys) (l3 : PL s.heap M zs) (z1 : xs.length < 60) (z2 : ys.length < 60) (z3 : zs.length < 60) (k : ∀ h' tk, KpB [R, G, M] s.heap h' → PL h' R (insB (fun y => aheadR rs (rc x) (rc y)) x xs) → PL h' G (insB (fun y => aheadR rs (rc y) (rc x)) x ys) → PL h' M (zs ++ [x]) → Q .none { s with heap := h', toks := tk }), wpAny (MM w) A (call (.ref 145) [.ref W, x]) Q E s
noncomputable abbrev T := World × Around × (Value → Shared → Prop) × Shared × (Value → Shared → Prop) × Heap × Addr × Addr × Addr × Addr × Addr × (List (Str × Value)) × (List (Nat × Int)) × (Value → Rc) × Value × (List Value) × (List Value) × (List Value)
noncomputable def pX (x : T) : Prop := stX0 x.1 x.2.1 x.2.2.1 x.2.2.2.1 x.2.2.2.2.1 x.2.2.2.2.2.1 x.2.2.2.2.2.2.1 x.2.2.2.2.2.2.2.1 x.2.2.2.2.2.2.2.2.1 x.2.2.2.2.2.2.2.2.2.1 x.2.2.2.2.2.2.2.2.2.2.1 x.2.2.2.2.2.2.2.2.2.2.2.1 x.2.2.2.2.2.2.2.2.2.2.2.2.1 x.2.2.2.2.2.2.2.2.2.2.2.2.2.1 x.2.2.2.2.2.2.2.2.2.2.2.2.2.2.1 x.2.2.2.2.2.2.2.2.2.2.2.2.2.2.2.1 x.2.2.2.2.2.2.2.2.2.2.2.2.2.2.2.2.1 x.2.2.2.2.2.2.2.2.2.2.2.2.2.2.2.2.2
noncomputable def cX : T := @Classical.epsilon _ (ne2 neW (ne2 neA (ne2 neI (ne2 neS (ne2 neI (ne2 neI (ne2 neI (ne2 neI (ne2 neI (ne2 neI (ne2 neI (ne2 neI (ne2 neI (ne2 ⟨fun _ => ⟨0, 0, 0, 0⟩⟩ (ne2 neI (ne2 neI (ne2 neI neI))))))))))))))))) fun x => ¬ pX x
def w : World := cX.1
def A : Around := cX.2.1
def E : Value → Shared → Prop := cX.2.2.1
def s : Shared := cX.2.2.2.1
def Q : Value → Shared → Prop := cX.2.2.2.2.1
def hb : Heap := cX.2.2.2.2.2.1
def W : Addr := cX.2.2.2.2.2.2.1
def rl : Addr := cX.2.2.2.2.2.2.2.1
def R : Addr := cX.2.2.2.2.2.2.2.2.1
def G : Addr := cX.2.2.2.2.2.2.2.2.2.1
def M : Addr := cX.2.2.2.2.2.2.2.2.2.2.1
def kvs : List (Str × Value) := cX.2.2.2.2.2.2.2.2.2.2.2.1
def rs : List (Nat × Int) := cX.2.2.2.2.2.2.2.2.2.2.2.2.1
def rc : Value → Rc := cX.2.2.2.2.2.2.2.2.2.2.2.2.2.1
def x : Value := cX.2.2.2.2.2.2.2.2.2.2.2.2.2.2.1
def xs : List Value := cX.2.2.2.2.2.2.2.2.2.2.2.2.2.2.2.1
def ys : List Value := cX.2.2.2.2.2.2.2.2.2.2.2.2.2.2.2.2.1
def zs : List Value := cX.2.2.2.2.2.2.2.2.2.2.2.2.2.2.2.2.2
theorem pfX0 : stX0 w A E s Q hb W rl R G M kvs rs rc x xs ys zs := by
  intro X hd v1 v2 v3 v4 hR ok hx hxs hys hr kb n1 n2 n3 nd l1 l2 l3 z1 z2 z3 k
  refine callT (X.keeps kb) (by k_is) (by k_is) hr (BindsTo.of_eq rfl) (locs rfl) (fun h₁ F₁ => ?_)
  have F := Lg.start (ls := [(R, isL xs), (G, isL ys), (M, isL zs)]) (fun p hp => by
    simp only [List.mem_cons, List.not_mem_nil, or_false] at hp
    rcases hp with rfl | rfl | rfl
    · obtain ⟨n, e⟩ := l1; exact ⟨_, e, n, rfl⟩
    · obtain ⟨n, e⟩ := l2; exact ⟨_, e, n, rfl⟩
    · obtain ⟨n, e⟩ := l3; exact ⟨_, e, n, rfl⟩) nd F₁ (newNone _)
  have k0 : Kp hb (hideAll s.heap [R, G, M]) := hideKp kb (fun a ha => by
    simp only [List.mem_cons, List.not_mem_nil, or_false] at ha
    rcases ha with rfl | rfl | rfl <;> assumption)
  have fin : ∀ {h' : Heap}, Kp (hideAll s.heap [R, G, M]) h' → KpB [R, G, M] s.heap h' := fun k' => kpB_hide k'
  change Lg (hideAll s.heap [R, G, M]) _ _ _ _ at F
  generalize hideAll s.heap [R, G, M] = h0 at F k0 fin
  generalize e1 : insB (fun y => aheadR rs (rc x) (rc y)) x xs = xs' at k
  generalize e2 : insB (fun y => aheadR rs (rc y) (rc x)) x ys = ys' at k
  have X0 := X.keeps k0
  refine wpAny_execs_cons (wpAny_Assign_Name (Subscript_ (F.nm rfl (wpAny_Constant_str (getW hd (k0.trans F.keep) v1 (F.st fun h₂ F₂ => ?_))))))
  dsimp only
  refine wpAny_execs_cons (wpAny_For (tupD (args_cons (tupD (args_cons (Subscript_ (F₂.nm rfl (wpAny_Constant_str (getW hd (k0.trans F₂.keep) v2 (args_cons (wpAny_Constant_bool (args_nil ⟨szL, fun t1 h₃ k₃ nn₃ t₃ => ?_⟩))))))))))))
  refine Exists.elim (F₂.withObj k₃ nn₃ t₃) fun hB₃ z => ?_
  have F₃ := z.1
  have kr₃ := z.2.1
  have T1 := z.2.2
  clear z
  have k3 := k0.trans kr₃
  refine args_cons (tupD (args_cons (Subscript_ (F₃.nm rfl (wpAny_Constant_str (getW hd (k3.trans F₃.keep) v3 (args_cons (wpAny_Constant_bool (args_nil ⟨szL, fun t2 h₄ k₄ nn₄ t₄ => args_nil ⟨szL, fun t h₅ k₅ nn₅ t₅ => ?_⟩⟩)))))))))
  refine Exists.elim (F₃.withObj k₄ nn₄ t₄) fun hB₄ z => ?_
  have F₄ := z.1
  have kr₄ := z.2.1
  have T2 := z.2.2
  clear z
  refine Exists.elim (F₄.withObj k₅ nn₅ t₅) fun hB₅ z => ?_
  have F₅ := z.1
  have kr₅ := z.2.1
  have T3 := z.2.2
  clear z
  have k5 : Kp h0 hB₅ := (kr₃.trans kr₄).trans kr₅
  have T1 := kr₅ _ _ (kr₄ _ _ T1)
  have T2 := kr₅ _ _ T2
  have k05 := k0.trans k5
  have X5 := X.kp k05
  refine iterT (F₅.keep _ _ T3) (fun I h₆ k₆ nn₆ i₆ => ?_)
  have F₆ := F₅.fresh k₆ nn₆ (P := isTI t 0) i₆.choose_spec.1 i₆.choose_spec.2
  refine forLoopG (LayI s hB₅ s.heap.objs.size I t R G M W rl x xs ys xs' ys' zs) ?_ 2 (.go false F₆ rfl rfl rfl rfl)
  clear F₆ F₅ F₄ F₃ F₂ F F₁
  rintro n s' (⟨b, F, m1, m2, m3, hn⟩ | ⟨F, m1, m2, hn⟩)
  · rename_i h' tk m
    have hx3 : ([.ref t1, .ref t2] : List Value).toArray[b.toNat]? = some (.ref (cond b t2 t1)) := by cases b <;> rfl
    have hT : hB₅.get? (cond b t2 t1) = some (seqObj "tuple" #[.ref (cond b G R), .bool b] 0) := by
      cases b
      · exact T1
      · exact T2
    have hw : ∀ v ∈ cond b ys xs, RecAt hb v (rc v) := by
      cases b
      · exact hxs
      · exact hys
    have hwz : (cond b ys xs).length < 60 := by
      cases b
      · exact z1
      · exact z2
    have hT' : insB (fun y => cond b (aheadR rs (rc y) (rc x)) (aheadR rs (rc x) (rc y))) x (cond b ys xs) = cond b ys' xs' := by
      cases b
      · exact e1
      · exact e2
    generalize hws : cond b ys xs = ws at F hw hwz hT'
    generalize hT'' : cond b ys' xs' = ws' at hT'
    refine F.tnext T3 hx3 (fun h₂ F₂ => ?_)
    dsimp only
    refine goTI (F₂.ti (.head _)) ?_
    refine assign_Tuple_tuple (hr.deep _).han ⟨_, F₂.keep _ _ hT, rfl, 0, rfl⟩ rfl rfl (fun h₃ k₃ => ?_)
    have F₃ := F₂.kp (kp_ext k₃)
    refine wpAny_assignInOrder_more (wpAny_assign_Name (F₃.st fun h₄ F₄ => ?_))
    refine wpAny_assignInOrder_more (wpAny_assign_Name (F₄.st fun h₅ F₅ => ?_))
    refine wpAny_assignInOrder_none ?_
    refine wpAny_execs_cons (wpAny_Assign_Name (wpAny_Constant_int (F₅.st fun h₆ F₆ => ?_)))
    dsimp only
    refine wpAny_execs_cons (wpAny_While (codeAny_mono (R := RowE s hB₅ s.heap.objs.size (cond b G R) W rl (I, isTI t (b.toNat + 1)) (cond b R G, isL (cond b xs' ys)) [(M, isL zs)] x ws ws') (codeAny_whileLoop (RowI s hB₅ s.heap.objs.size (cond b G R) W rl b (I, isTI t (b.toNat + 1)) (cond b R G, isL (cond b xs' ys)) [(M, isL zs)] (fun y => cond b (aheadR rs (rc y) (rc x)) (aheadR rs (rc x) (rc y))) x ws ws') ?_ ws.length (.mk (i := 0) F₆ m1 m2 m3 rfl rfl rfl rfl hT')) ?_))
    · rintro n s' ⟨F, m1, m2, m3, m4, m5, m6, hi, hT⟩
      rename_i h₇ tk₇ i t₇ m
      refine wpAny_isTrue_Compare1 (F.nm m6 (Call_ (nmB (X5.keeps F.keep) (by k_is) (by k_is) (PyProof.Rows.callWith_builtin1 (args_cons (F.nm m4 (args_nil (lenL (F.pl (.tail _ (.head _))) (by lia) (fun _ => lt_int (wpAny_truthy_bool ?_))))))))))
      by_cases hend : ws.length ≤ i
      · rw [if_neg (by simpa using hend)]
        rw [List.drop_of_length_le hend] at hT
        exact wpAny_execs_nil (.mk F m1 m2 m3 m4 m6 (by lia) (by rw [List.drop_of_length_le hend]; exact hT))
      · have hlt : i < ws.length := by lia
        rw [if_pos (by simpa using hlt)]
        have hv : ws[i]? = some ws[i] := List.getElem?_eq_getElem hlt
        have ed : ws.drop i = ws[i] :: ws.drop (i + 1) := List.drop_eq_getElem_cons hlt
        have et : ws.take (i + 1) = ws.take i ++ [ws[i]] := by rw [List.take_add_one, hv]; rfl
        generalize ws[i] = v at hv ed et
        have hrv := hw v (List.mem_of_getElem? hv)
        have hT0 := hT
        rw [ed, insB] at hT
        have kb7 := k05.trans F.keep
        refine wpAny_execs_cons (wpAny_If (isTrue_and (isTrue_plain (F.nm m5 (wpAny_truthy_bool ?_)))))
        cases b with
        | true =>
          rw [if_pos rfl]
          refine isTrue_and (isTrue_plain (Call_ (nmG (X5.keeps F.keep) (by k_is) (callWith_F (args_cons (Subscript_ (F.nm m4 (F.nm m6 (itemL (F.pl (.tail _ (.head _))) (i := i) rfl (by lia) hv (args_cons (F.nm m2 (args_cons (F.nm m3 (args_nil ⟨FnAt.of (X5.keeps F.keep) (by k_is), ?_⟩))))))))))))))
          refine ahead_spec X hR ok hrv hx ((hr.deep _).le (by decide)) kb7 (fun h₈ tk₈ k₈ => wpAny_truthy_bool ?_)
          have F₈ := F.kp k₈
          cases hc : aheadR rs (rc v) (rc x) with
          | true =>
            rw [if_pos (show (bif true then aheadR rs (rc v) (rc x) else aheadR rs (rc x) (rc v)) = true from hc)] at hT
            rw [if_pos rfl]
            refine isTrue_and_nil ?_
            rw [if_pos rfl]
            exact wpAny_execs_cons (wpAny_Break (.mk F₈ m1 m2 m3 m4 m6 (by lia) (by rw [ed]; exact hT)))
          | false =>
            rw [if_neg (show ¬ (bif true then aheadR rs (rc v) (rc x) else aheadR rs (rc x) (rc v)) = true from fun q => by have q := hc.symm.trans q; cases q)] at hT
            rw [if_neg (by decide), if_neg (by decide)]
            refine wpAny_execs_nil (wpAny_execs_cons (wpAny_If (isTrue_and (isTrue_not (isTrue_plain (F₈.nm m5 (wpAny_truthy_bool ?_)))))))
            rw [if_neg (by decide), if_neg (by decide)]
            refine wpAny_execs_nil (wpAny_execs_cons (wpAny_AugAssign_Name (wpAny_loadName_local rfl rfl F₈.ns m6 (wpAny_Constant_int (PyProof.Rows.iadd_int (F₈.st fun h₉ F₉ => ?_))))))
            dsimp only
            exact wpAny_execs_nil ⟨n - 1, by lia, .mk (i := i + 1) F₉ m1 m2 m3 m4 m5 rfl (by lia) (by rw [et, List.append_assoc]; exact hT)⟩
        | false =>
          rw [if_neg (by decide), if_neg (by decide)]
          refine wpAny_execs_nil (wpAny_execs_cons (wpAny_If (isTrue_and (isTrue_not (isTrue_plain (F.nm m5 (wpAny_truthy_bool ?_)))))))
          rw [if_pos (by decide)]
          refine isTrue_and (isTrue_plain (Call_ (nmG (X5.keeps F.keep) (by k_is) (callWith_F (args_cons (F.nm m2 (args_cons (Subscript_ (F.nm m4 (F.nm m6 (itemL (F.pl (.tail _ (.head _))) (i := i) rfl (by lia) hv (args_cons (F.nm m3 (args_nil ⟨FnAt.of (X5.keeps F.keep) (by k_is), ?_⟩))))))))))))))
          refine ahead_spec X hR ok hx hrv ((hr.deep _).le (by decide)) kb7 (fun h₈ tk₈ k₈ => wpAny_truthy_bool ?_)
          have F₈ := F.kp k₈
          cases hc : aheadR rs (rc x) (rc v) with
          | true =>
            rw [if_pos (show (bif false then aheadR rs (rc v) (rc x) else aheadR rs (rc x) (rc v)) = true from hc)] at hT
            rw [if_pos rfl]
            refine isTrue_and_nil ?_
            rw [if_pos rfl]
            exact wpAny_execs_cons (wpAny_Break (.mk F₈ m1 m2 m3 m4 m6 (by lia) (by rw [ed]; exact hT)))
          | false =>
            rw [if_neg (show ¬ (bif false then aheadR rs (rc v) (rc x) else aheadR rs (rc x) (rc v)) = true from fun q => by have q := hc.symm.trans q; cases q)] at hT
            rw [if_neg (by decide), if_neg (by decide)]
            refine wpAny_execs_nil (wpAny_execs_cons (wpAny_AugAssign_Name (wpAny_loadName_local rfl rfl F₈.ns m6 (wpAny_Constant_int (PyProof.Rows.iadd_int (F₈.st fun h₉ F₉ => ?_))))))
            dsimp only
            exact wpAny_execs_nil ⟨n - 1, by lia, .mk (i := i + 1) F₉ m1 m2 m3 m4 m5 rfl (by lia) (by rw [et, List.append_assoc]; exact hT)⟩
    · rintro r s' ⟨F, m1, m2, m3, m4, m6, hi, hT⟩
      rename_i h₇ tk₇ i t₇ m
      dsimp only
      refine wpAny_execs_cons (wpAny_Expr (MethodCall_ (F.nm m4 (lsMeth (F.pl (.tail _ (.head _))) PySem.F.slot_list_insert PySem.F.type_list_insert (callWith_method1 (args_cons (F.nm m6 (args_cons (F.nm m2 (args_nil (insertL (F.pl (.tail _ (.head _))) hi (by lia) (fun h₈ l₈ s₈ => ?_))))))))))))
      dsimp only
      have F₈ := F.putL 1 rfl s₈ l₈
      rw [hT, ← hT''] at F₈
      refine wpAny_execs_nil ?_
      dsimp only
      cases b with
      | false => exact ⟨1, by have : n = 2 := hn; lia, .go true (F₈.perm (List.Perm.cons _ (List.Perm.swap _ _ _))) m1 m2 m3 rfl⟩
      | true => exact ⟨0, by have : n + 1 = 2 := hn; lia, .fin (F₈.perm (List.Perm.cons _ (List.Perm.swap _ _ _))) m1 m2 rfl⟩
  · rename_i h' tk m
    refine F.tend (hr.deep _).han T3 rfl (fun h₂ F₂ => wpAny_execs_nil ?_)
    dsimp only
    refine wpAny_execs_cons (wpAny_Expr (MethodCall_ (Subscript_ (F₂.nm m1 (wpAny_Constant_str (getW hd (k05.trans F₂.keep) v4 (lsMeth (F₂.pl (.tail _ (.tail _ (.head _)))) PySem.F.slot_list_append PySem.F.type_list_append (callWith_method1 (args_cons (F₂.nm m2 (args_nil (appendL (F₂.pl (.tail _ (.tail _ (.head _)))) (by lia) (fun h₃ l₃ s₃ => ?_)))))))))))))
    dsimp only
    have F₃ := F₂.putL 2 rfl s₃ l₃
    refine wpAny_execs_nil ?_
    dsimp only
    exact k _ _ (fin (k5.trans F₃.keep)) (F₃.pl (.head _)) (F₃.pl (.tail _ (.head _))) (F₃.pl (.tail _ (.tail _ (.head _))))
theorem allX (x : T) : pX x := eps (P := pX) pfX0
end N_lay_spec
theorem lay_spec {w : World} {A : Around} {E : Value → Shared → Prop} {s : Shared} {Q : Value → Shared → Prop} {hb : Heap} {W rl R G M : Addr} {kvs : List (Str × Value)} {rs : List (Nat × Int)} {rc : Value → Rc} {x : Value} {xs ys zs : List Value} : N_lay_spec.stX0 w A E s Q hb W rl R G M kvs rs rc x xs ys zs := (N_lay_spec.allX (w, A, E, s, Q, hb, W, rl, R, G, M, kvs, rs, rc, x, xs, ys, zs))
section
variable {w : World} {A : Around} {E : Value → Shared → Prop} {s : Shared} {Q : Value → Shared → Prop} {hb h₀ : Heap} {L a t : Addr} {m : Str → Option Value} {ls : Led} {its : Array Value}
end
end Mine
namespace Mine
structure WK (w : World) (hb : Heap) (W rl R G M : Addr) (kvs : List (Str × Value)) (rs : List (Nat × Int)) : Prop where
  x : KIn w hb
  d : hb.DictOf (SK w) W kvs
  v1 : valueAt kvs (Str.ofString "rules") = some (.ref rl)
  v2 : valueAt kvs (Str.ofString "rising") = some (.ref R)
  v3 : valueAt kvs (Str.ofString "falling") = some (.ref G)
  v4 : valueAt kvs (Str.ofString "came") = some (.ref M)
  rr : RulesAt hb rl rs
  ok : ROk rs
  nd : [R, G, M].Nodup
theorem WK.kp {w : World} {hb h : Heap} {W rl R G M : Addr} {kvs : List (Str × Value)} {rs : List (Nat × Int)} (x : WK w hb W rl R G M kvs rs) (k : Kp hb h) : WK w h W rl R G M kvs rs :=
  ⟨x.x.kp k, x.d.keep k, x.v1, x.v2, x.v3, x.v4, x.rr.kp k, x.ok, x.nd⟩
noncomputable abbrev led3 (R G M : Addr) (xs ys zs : List Value) : Led := [(R, isL xs), (G, isL ys), (M, isL zs)]
noncomputable def upR (rs : List (Nat × Int)) (rc : Value → Rc) : Option Value → List Value → List Value
  | none, xs => xs
  | some x, xs => insB (fun y => aheadR rs (rc x) (rc y)) x xs
noncomputable def upG (rs : List (Nat × Int)) (rc : Value → Rc) : Option Value → List Value → List Value
  | none, xs => xs
  | some x, xs => insB (fun y => aheadR rs (rc y) (rc x)) x xs
noncomputable def upM : Option Value → List Value → List Value
  | none, xs => xs
  | some x, xs => xs ++ [x]
inductive ItemAt (hb : Heap) (rc : Value → Rc) : Value → Option Value → Prop
  | none : ItemAt hb rc .none none
  | some {t k : Addr} {n : Int} {tn : Tok} {x : Value} (e : hb.get? t = some (tup3 k n tn x)) (hx : RecAt hb x (rc x)) : ItemAt hb rc (.ref t) (some x)
section
variable {w : World} {A : Around} {E : Value → Shared → Prop} {s : Shared} {Q : Value → Shared → Prop} {hb h₀ h h' : Heap} {L a t : Addr} {m : Str → Option Value} {ls : Led} {W rl R G M : Addr} {kvs : List (Str × Value)} {rs : List (Nat × Int)} {rc : Value → Rc} {xs ys zs ya yb za zb xs' ys' zs' : List Value} {x x0 told item : Value} {it : Option Value}
theorem Rm.units3 {A A' : Around} {n : Nat} (x : Rm A n) (h : A'.units ≤ A.units + 3) : A'.units < cLine := by
  have := x.2.1; show A'.units < 9900; lia
theorem led3_at (l1 : PL h R xs) (l2 : PL h G ys) (l3 : PL h M zs) : ∀ p ∈ led3 R G M xs ys zs, ∃ o, h.get? p.1 = some o ∧ p.2 o := fun p hp => by
  simp only [List.mem_cons, List.not_mem_nil, or_false] at hp
  rcases hp with rfl | rfl | rfl
  · obtain ⟨n, e⟩ := l1; exact ⟨_, e, n, rfl⟩
  · obtain ⟨n, e⟩ := l2; exact ⟨_, e, n, rfl⟩
  · obtain ⟨n, e⟩ := l3; exact ⟨_, e, n, rfl⟩
theorem Lg.but3 (F : Lg h₀ L h m (led3 R G M xs ys zs)) (k : KpB [R, G, M] h h') (l1 : PL h' R xs') (l2 : PL h' G ys') (l3 : PL h' M zs') : Lg h₀ L h' m (led3 R G M xs' ys' zs') :=
  F.but (ls' := led3 R G M xs' ys' zs') k (fun a ha => by
    simp only [List.mem_cons, List.not_mem_nil, or_false] at ha
    rcases ha with rfl | rfl | rfl
    · exact F.off _ (.head _)
    · exact F.off _ (.tail _ (.head _))
    · exact F.off _ (.tail _ (.tail _ (.head _)))) (led3_at l1 l2 l3) rfl
theorem none3 {hb : Heap} {R G M : Addr} (n1 : hb.get? R = none) (n2 : hb.get? G = none) (n3 : hb.get? M = none) : ∀ a ∈ [R, G, M], hb.get? a = none := fun a ha => by
  simp only [List.mem_cons, List.not_mem_nil, or_false] at ha
  rcases ha with rfl | rfl | rfl <;> assumption
end
namespace N_out_spec
noncomputable def stX0 (w : World) (A : Around) (E : Value → Shared → Prop) (s : Shared) (Q : Value → Shared → Prop) (hb : Heap) (W rl R G M : Addr) (kvs : List (Str × Value)) (rs : List (Nat × Int)) (rc : Value → Rc) (xs ya yb za zb : List Value) (tt tk : Addr) (tn : Int) (ttk : Tok) : Prop := ∀ {x0 : Value} {item : Value} {it : Option Value} (WW : WK w hb W rl R G M kvs rs) (n1 : hb.get? R = none) (n2 : hb.get? G = none) (n3 : hb.get? M = none) (hx0 : RecAt hb x0 (rc x0)) (hxs : ∀ v ∈ xs, RecAt hb v (rc v)) (hya : ∀ v ∈ ya, RecAt hb v (rc v) ∧ (rc v).n ≠ (rc x0).n) (hyb : ∀ v ∈ yb, RecAt hb v (rc v)) (hza : ∀ v ∈ za, RecAt hb v (rc v) ∧ (rc v).n ≠ (rc x0).n) (hto : hb.get? tt = some (tup3 tk tn ttk x0)) (hit : ItemAt hb rc item it) (hr : Rm A 6) (kb : Kp hb s.heap) (l1 : PL s.heap R (x0 :: xs)) (l2 : PL s.heap G (ya ++ x0 :: yb)) (l3 : PL s.heap M (za ++ x0 :: zb)) (z1 : xs.length < 50) (z2 : (ya ++ x0 :: yb).length < 50) (z3 : (za ++ x0 :: zb).length < 50) (k : ∀ h' tk, KpB [R, G, M] s.heap h' → PL h' R (upR rs rc it xs) → PL h' G (upG rs rc it (ya ++ yb)) → PL h' M (upM it (za ++ zb)) → Q (.bool true) { s with heap := h', toks := tk }), wpAny (MM w) A (call (.ref 152) [.ref W, .ref tt, item]) Q E s
noncomputable abbrev T := World × Around × (Value → Shared → Prop) × Shared × (Value → Shared → Prop) × Heap × Addr × Addr × Addr × Addr × Addr × (List (Str × Value)) × (List (Nat × Int)) × (Value → Rc) × (List Value) × (List Value) × (List Value) × (List Value) × (List Value) × Addr × Addr × Int × Tok
noncomputable def pX (x : T) : Prop := stX0 x.1 x.2.1 x.2.2.1 x.2.2.2.1 x.2.2.2.2.1 x.2.2.2.2.2.1 x.2.2.2.2.2.2.1 x.2.2.2.2.2.2.2.1 x.2.2.2.2.2.2.2.2.1 x.2.2.2.2.2.2.2.2.2.1 x.2.2.2.2.2.2.2.2.2.2.1 x.2.2.2.2.2.2.2.2.2.2.2.1 x.2.2.2.2.2.2.2.2.2.2.2.2.1 x.2.2.2.2.2.2.2.2.2.2.2.2.2.1 x.2.2.2.2.2.2.2.2.2.2.2.2.2.2.1 x.2.2.2.2.2.2.2.2.2.2.2.2.2.2.2.1 x.2.2.2.2.2.2.2.2.2.2.2.2.2.2.2.2.1 x.2.2.2.2.2.2.2.2.2.2.2.2.2.2.2.2.2.1 x.2.2.2.2.2.2.2.2.2.2.2.2.2.2.2.2.2.2.1 x.2.2.2.2.2.2.2.2.2.2.2.2.2.2.2.2.2.2.2.1 x.2.2.2.2.2.2.2.2.2.2.2.2.2.2.2.2.2.2.2.2.1 x.2.2.2.2.2.2.2.2.2.2.2.2.2.2.2.2.2.2.2.2.2.1 x.2.2.2.2.2.2.2.2.2.2.2.2.2.2.2.2.2.2.2.2.2.2
noncomputable def cX : T := @Classical.epsilon _ (ne2 neW (ne2 neA (ne2 neI (ne2 neS (ne2 neI (ne2 neI (ne2 neI (ne2 neI (ne2 neI (ne2 neI (ne2 neI (ne2 neI (ne2 neI (ne2 ⟨fun _ => ⟨0, 0, 0, 0⟩⟩ (ne2 neI (ne2 neI (ne2 neI (ne2 neI (ne2 neI (ne2 neI (ne2 neI (ne2 neI neI)))))))))))))))))))))) fun x => ¬ pX x
def w : World := cX.1
def A : Around := cX.2.1
def E : Value → Shared → Prop := cX.2.2.1
def s : Shared := cX.2.2.2.1
def Q : Value → Shared → Prop := cX.2.2.2.2.1
def hb : Heap := cX.2.2.2.2.2.1
def W : Addr := cX.2.2.2.2.2.2.1
def rl : Addr := cX.2.2.2.2.2.2.2.1
def R : Addr := cX.2.2.2.2.2.2.2.2.1
def G : Addr := cX.2.2.2.2.2.2.2.2.2.1
def M : Addr := cX.2.2.2.2.2.2.2.2.2.2.1
def kvs : List (Str × Value) := cX.2.2.2.2.2.2.2.2.2.2.2.1
def rs : List (Nat × Int) := cX.2.2.2.2.2.2.2.2.2.2.2.2.1
def rc : Value → Rc := cX.2.2.2.2.2.2.2.2.2.2.2.2.2.1
def xs : List Value := cX.2.2.2.2.2.2.2.2.2.2.2.2.2.2.1
def ya : List Value := cX.2.2.2.2.2.2.2.2.2.2.2.2.2.2.2.1
def yb : List Value := cX.2.2.2.2.2.2.2.2.2.2.2.2.2.2.2.2.1
def za : List Value := cX.2.2.2.2.2.2.2.2.2.2.2.2.2.2.2.2.2.1
def zb : List Value := cX.2.2.2.2.2.2.2.2.2.2.2.2.2.2.2.2.2.2.1
def tt : Addr := cX.2.2.2.2.2.2.2.2.2.2.2.2.2.2.2.2.2.2.2.1
def tk : Addr := cX.2.2.2.2.2.2.2.2.2.2.2.2.2.2.2.2.2.2.2.2.1
def tn : Int := cX.2.2.2.2.2.2.2.2.2.2.2.2.2.2.2.2.2.2.2.2.2.1
def ttk : Tok := cX.2.2.2.2.2.2.2.2.2.2.2.2.2.2.2.2.2.2.2.2.2.2
theorem pfX0 : stX0 w A E s Q hb W rl R G M kvs rs rc xs ya yb za zb tt tk tn ttk := by
  intro x0 item it WW n1 n2 n3 hx0 hxs hya hyb hza hto hit hr kb l1 l2 l3 z1 z2 z3 k
  refine callT (WW.x.keeps kb) (by k_is) (by k_is) hr (BindsTo.of_eq rfl) (locs rfl) (fun h₁ F₁ => ?_)
  have F := Lg.start (ls := led3 R G M (x0 :: xs) (ya ++ x0 :: yb) (za ++ x0 :: zb)) (led3_at l1 l2 l3) WW.nd F₁ (newNone _)
  have k0 : Kp hb (hideAll s.heap [R, G, M]) := hideKp kb (none3 n1 n2 n3)
  have fin : ∀ {h' : Heap}, Kp (hideAll s.heap [R, G, M]) h' → KpB [R, G, M] s.heap h' := fun k' => kpB_hide k'
  change Lg (hideAll s.heap [R, G, M]) _ _ _ _ at F
  generalize hideAll s.heap [R, G, M] = h0 at F k0 fin
  have X0 := WW.x.keeps k0
  have hd := WW.d
  obtain ⟨x0a, x0l, rfl, x0p⟩ := id hx0
  refine wpAny_execs_cons (wpAny_If (wpAny_isTrue_Compare1 (Subscript_ (F.nm rfl (wpAny_Constant_str (getW hd (k0.trans F.keep) WW.v2 (listD (args_nil ⟨szL, fun e h₂ k₂ nn₂ e₂ => ?_⟩))))))))
  have F₂ := F.kp k₂
  refine listEqNil (F₂.pl (.head _)) ⟨0, e₂⟩ (hr.deep _).units (wpAny_truthy_bool ?_)
  rw [if_neg (by simp)]
  refine wpAny_execs_nil ?_
  refine wpAny_execs_cons (wpAny_Assign_Name (MethodCall_ (Subscript_ (F₂.nm rfl (wpAny_Constant_str (getW hd (k0.trans F₂.keep) WW.v2 (lsMeth (F₂.pl (.head _)) PySem.F.slot_list_pop PySem.F.type_list_pop (callWith_method1 (args_cons (wpAny_Constant_int (args_nil (pop0L (F₂.pl (.head _)) (by lia) (fun h₃ l₃ s₃ => ?_)))))))))))))
  have F₃ := F₂.putL 0 rfl s₃ l₃
  refine F₃.st fun h₄ F₄ => ?_
  dsimp only
  have kb4 := k0.trans F₄.keep
  have ja : (ya ++ Value.ref x0a :: yb)[ya.length]? = some (.ref x0a) := by rw [List.getElem?_append_right (Nat.le_refl _), Nat.sub_self]; rfl
  refine wpAny_execs_cons (wpAny_Expr (MethodCall_ (Subscript_ (F₄.nm rfl (wpAny_Constant_str (getW hd kb4 WW.v3 (lsMeth (F₄.pl (.tail _ (.head _))) PySem.F.slot_list_remove PySem.F.type_list_remove (callWith_method1 (args_cons (F₄.nm rfl (args_nil (removeL (F₄.pl (.tail _ (.head _))) ja (.inl ⟨_, rfl⟩) (by lia) (fun i u hi hu A' Q' E' hA hq => ?_) (fun h₅ l₅ s₅ => ?_)))))))))))))
  · have hu' : u ∈ ya := by rw [List.getElem?_append_left hi] at hu; exact List.mem_of_getElem? hu
    exact recNe ((hya u hu').1.kp kb4) (hx0.kp kb4) (hya u hu').2 ((hr.deep _).units3 hA) hq
  dsimp only
  have F₅ := F₄.putL 1 rfl s₅ l₅
  have ea : (ya ++ Value.ref x0a :: yb).eraseIdx ya.length = ya ++ yb := by rw [List.eraseIdx_append_of_length_le (Nat.le_refl _), Nat.sub_self]; rfl
  have ez : (za ++ Value.ref x0a :: zb).eraseIdx za.length = za ++ zb := by rw [List.eraseIdx_append_of_length_le (Nat.le_refl _), Nat.sub_self]; rfl
  rw [ea] at F₅
  have kb5 := k0.trans F₅.keep
  have jz : (za ++ Value.ref x0a :: zb)[za.length]? = some (.ref x0a) := by rw [List.getElem?_append_right (Nat.le_refl _), Nat.sub_self]; rfl
  refine wpAny_execs_cons (wpAny_Expr (MethodCall_ (Subscript_ (F₅.nm rfl (wpAny_Constant_str (getW hd kb5 WW.v4 (lsMeth (F₅.pl (.tail _ (.tail _ (.head _)))) PySem.F.slot_list_remove PySem.F.type_list_remove (callWith_method1 (args_cons (F₅.nm rfl (args_nil (removeL (F₅.pl (.tail _ (.tail _ (.head _)))) jz (.inl ⟨_, rfl⟩) (by lia) (fun i u hi hu A' Q' E' hA hq => ?_) (fun h₆ l₆ s₆ => ?_)))))))))))))
  · have hu' : u ∈ za := by rw [List.getElem?_append_left hi] at hu; exact List.mem_of_getElem? hu
    exact recNe ((hza u hu').1.kp kb5) (hx0.kp kb5) (hza u hu').2 ((hr.deep _).units3 hA) hq
  dsimp only
  have F₆ := F₅.putL 2 rfl s₆ l₆
  rw [ez] at F₆
  have F₆ : Lg h0 s.heap.objs.size h₆ _ (led3 R G M xs (ya ++ yb) (za ++ zb)) := F₆
  have go : ∀ h₇ tk₇, Lg h0 s.heap.objs.size h₇ (fun y => if y = Str.ofString "least" then some (.ref x0a) else (List.reverse [(Str.ofString "world", .ref W), (Str.ofString "told", .ref tt), (Str.ofString "item", item)]).lookup y) (led3 R G M (upR rs rc it xs) (upG rs rc it (ya ++ yb)) (upM it (za ++ zb))) → Q (.bool true) { s with heap := h₇, toks := tk₇ } := fun h₇ tk₇ F₇ =>
    k h₇ tk₇ (fin F₇.keep) (F₇.pl (.head _)) (F₇.pl (.tail _ (.head _))) (F₇.pl (.tail _ (.tail _ (.head _))))
  cases hit with
  | none =>
    refine wpAny_execs_cons (wpAny_If (wpAny_isTrue_Compare1 (F₆.nm rfl (wpAny_Constant_none (isnot_none_none (wpAny_truthy_bool ?_))))))
    rw [if_neg (by decide)]
    refine wpAny_execs_nil (wpAny_execs_cons (wpAny_Return_some (wpAny_Compare1 (Subscript_ (F₆.nm rfl (wpAny_Constant_int (item_tupleT (l := [.ref tk, .int tn ttk, .ref x0a]) (j := 2) ⟨_, F₆.keep _ _ (k0 _ _ hto), rfl, 0, rfl⟩ (by decide) (by decide) rfl rfl (F₆.nm rfl (wpAny_is_ref_self ?_)))))))))
    exact go _ _ F₆
  | @some t' k' n' tn' x e hx =>
    refine wpAny_execs_cons (wpAny_If (wpAny_isTrue_Compare1 (F₆.nm rfl (wpAny_Constant_none (isnot_none_ne nofun (wpAny_truthy_bool ?_))))))
    rw [if_pos rfl]
    refine wpAny_execs_cons (wpAny_Expr (Call_ (nmG (X0.keeps F₆.keep) (by k_is) (callWith_F (args_cons (F₆.nm rfl (args_cons (Subscript_ (F₆.nm rfl (wpAny_Constant_int (item_tupleT (l := [.ref k', .int n' tn', x]) (j := 2) ⟨_, F₆.keep _ _ (k0 _ _ e), rfl, 0, rfl⟩ (by decide) (by decide) rfl rfl (args_nil ⟨FnAt.of (X0.keeps F₆.keep) (by k_is), ?_⟩))))))))))))
    refine lay_spec (rc := rc) WW.x WW.d WW.v1 WW.v2 WW.v3 WW.v4 WW.rr WW.ok hx hxs (fun v hv => (List.mem_append.mp hv).elim (fun q => (hya v q).1) (hyb v)) ((hr.deep _).le (by decide)) (k0.trans F₆.keep) n1 n2 n3 WW.nd (F₆.pl (.head _)) (F₆.pl (.tail _ (.head _))) (F₆.pl (.tail _ (.tail _ (.head _)))) (by lia) (by simp only [List.length_append, List.length_cons] at z2 ⊢; lia) (by simp only [List.length_append, List.length_cons] at z3 ⊢; lia) (fun h₇ tk₇ k₇ a1 a2 a3 => ?_)
    have F₇ := F₆.but3 k₇ a1 a2 a3
    dsimp only
    refine wpAny_execs_nil (wpAny_execs_cons (wpAny_Return_some (wpAny_Compare1 (Subscript_ (F₇.nm rfl (wpAny_Constant_int (item_tupleT (l := [.ref tk, .int tn ttk, .ref x0a]) (j := 2) ⟨_, F₇.keep _ _ (k0 _ _ hto), rfl, 0, rfl⟩ (by decide) (by decide) rfl rfl (F₇.nm rfl (wpAny_is_ref_self ?_)))))))))
    exact go _ _ F₇
theorem allX (x : T) : pX x := eps (P := pX) pfX0
end N_out_spec
theorem out_spec {w : World} {A : Around} {E : Value → Shared → Prop} {s : Shared} {Q : Value → Shared → Prop} {hb : Heap} {W rl R G M : Addr} {kvs : List (Str × Value)} {rs : List (Nat × Int)} {rc : Value → Rc} {xs ya yb za zb : List Value} {tt tk : Addr} {tn : Int} {ttk : Tok} : N_out_spec.stX0 w A E s Q hb W rl R G M kvs rs rc xs ya yb za zb tt tk tn ttk := (N_out_spec.allX (w, A, E, s, Q, hb, W, rl, R, G, M, kvs, rs, rc, xs, ya, yb, za, zb, tt, tk, tn, ttk))
section
variable {w : World} {A : Around} {E : Value → Shared → Prop} {s : Shared} {Q : Value → Shared → Prop} {hb h₀ h h' : Heap} {L a t : Addr} {m : Str → Option Value} {ls : Led} {W rl R G M : Addr} {kvs : List (Str × Value)} {rs : List (Nat × Int)} {rc : Value → Rc} {xs ys zs ya yb za zb xs' ys' zs' : List Value} {x x0 told item : Value} {it : Option Value}
end
end Mine
namespace Mine
section
variable {rs : List (Nat × Int)} {a b c : Rc}
theorem size_pos (x : Int) : 0 < x.fmod 3 + 2 := by
  have := Int.fmod_nonneg_of_pos x (b := 3) (by decide); lia
theorem ahead_cmp (ok : ROk rs) : aheadR rs a b = decide (cmpR rs a b < 0) := by
  induction rs with
  | nil => rfl
  | cons r rs ih =>
    obtain ⟨k, s⟩ := r
    have ih := ih (fun r hr => ok r (.tail _ hr))
    have hs : s = 1 ∨ s = -1 := (ok _ (.head _)).2
    have hz := size_pos (a.n + b.n)
    rw [aheadR, cmpR]
    generalize (a.n + b.n).fmod 3 + 2 = z at hz
    by_cases h : a.col k = b.col k
    · rw [if_pos h, if_pos h, ih]
    · rw [if_neg h, if_neg h]
      rcases hs with rfl | rfl
      · rw [if_neg (by decide)]
        by_cases q : b.col k < a.col k
        · rw [if_pos q, decide_eq_false (by lia), decide_eq_false (by lia)]
        · rw [if_neg q, decide_eq_true (by lia), decide_eq_true (by lia)]
      · rw [if_pos rfl]
        by_cases q : b.col k < a.col k
        · rw [if_pos q, decide_eq_true q, decide_eq_true (by lia)]
        · rw [if_neg q, decide_eq_false q, decide_eq_false (by lia)]
theorem cmp_anti : cmpR rs b a = - cmpR rs a b := by
  induction rs with
  | nil => rfl
  | cons r rs ih =>
    obtain ⟨k, s⟩ := r
    rw [cmpR, cmpR, Int.add_comm b.n a.n]
    generalize (a.n + b.n).fmod 3 + 2 = z
    by_cases h : a.col k = b.col k
    · rw [if_pos h, if_pos h.symm, ih]
    · rw [if_neg h, if_neg (Ne.symm h)]
      by_cases q : b.col k < a.col k
      · rw [if_pos q, if_neg (by lia), Int.neg_mul]
      · rw [if_neg q, if_pos (by lia), Int.neg_mul, Int.neg_neg]
theorem ahead_swo (ok : ROk rs) : SWO (aheadR rs) := by
  induction rs with
  | nil => exact ⟨fun _ => rfl, (fun h => nomatch h), fun _ _ => rfl⟩
  | cons r rs ih =>
    obtain ⟨k, s⟩ := r
    have ih := ih (fun r hr => ok r (.tail _ hr))
    have step : ∀ a b : Rc, aheadR ((k, s) :: rs) a b = true ↔ (a.col k = b.col k ∧ aheadR rs a b = true) ∨ (a.col k ≠ b.col k ∧ (if s = -1 then b.col k < a.col k else a.col k < b.col k)) := fun a b => by
      rw [aheadR]
      by_cases h : a.col k = b.col k
      · simp [h]
      · by_cases q : s = -1 <;> simp [h, q]
    have stepF : ∀ a b : Rc, aheadR ((k, s) :: rs) a b = false ↔ (a.col k = b.col k ∧ aheadR rs a b = false) ∨ (a.col k ≠ b.col k ∧ (if s = -1 then a.col k < b.col k else b.col k < a.col k)) := fun a b => by
      rw [aheadR]
      by_cases h : a.col k = b.col k
      · simp [h]
      · by_cases q : s = -1
        · simp [h, q]; lia
        · simp [h, q]; lia
    refine ⟨fun a => (stepF a a).mpr (.inl ⟨rfl, ih.irr a⟩), fun {a b c} h k' => ?_, fun {a b c} h k' => ?_⟩
    · rw [step] at h k' ⊢
      rcases h with ⟨h1, h2⟩ | ⟨h1, h2⟩
      · rcases k' with ⟨k1, k2⟩ | ⟨k1, k2⟩
        · exact .inl ⟨h1.trans k1, ih.tr h2 k2⟩
        · exact .inr ⟨by rw [h1]; exact k1, by rw [h1]; exact k2⟩
      · rcases k' with ⟨k1, k2⟩ | ⟨k1, k2⟩
        · exact .inr ⟨by rw [← k1]; exact h1, by rw [← k1]; exact h2⟩
        · refine .inr ?_
          by_cases q : s = -1
          · rw [if_pos q] at h2 k2 ⊢; lia
          · rw [if_neg q] at h2 k2 ⊢; lia
    · rw [stepF] at h k' ⊢
      rcases h with ⟨h1, h2⟩ | ⟨h1, h2⟩
      · rcases k' with ⟨k1, k2⟩ | ⟨k1, k2⟩
        · exact .inl ⟨k1.trans h1, ih.neg h2 k2⟩
        · exact .inr ⟨by rw [← h1]; exact k1, by rw [← h1]; exact k2⟩
      · rcases k' with ⟨k1, k2⟩ | ⟨k1, k2⟩
        · exact .inr ⟨by rw [k1]; exact h1, by rw [k1]; exact h2⟩
        · refine .inr ?_
          by_cases q : s = -1
          · rw [if_pos q] at h2 k2 ⊢; lia
          · rw [if_neg q] at h2 k2 ⊢; lia
end
noncomputable def cV (rs : List (Nat × Int)) (rc : Value → Rc) : Value → Value → Int := fun u v => cmpR rs (rc u) (rc v)
section
variable {rs : List (Nat × Int)} {rc : Value → Rc}
theorem cV_ok (ok : ROk rs) : COk (cV rs rc) := by
  have S := ahead_swo ok
  have e : ∀ u v, decide (cV rs rc u v < 0) = aheadR rs (rc u) (rc v) := fun u v => (ahead_cmp ok).symm
  refine ⟨⟨fun u => ?_, fun {u v x} h k => ?_, fun {u v x} h k => ?_⟩, fun u v => ?_⟩
  · show decide (cV rs rc u u < 0) = false
    rw [e]; exact S.irr _
  · show decide (cV rs rc u x < 0) = true
    have h : decide (cV rs rc u v < 0) = true := h
    have k : decide (cV rs rc v x < 0) = true := k
    rw [e] at h k ⊢
    exact S.tr h k
  · show decide (cV rs rc x u < 0) = false
    have h : decide (cV rs rc v u < 0) = false := h
    have k : decide (cV rs rc x v < 0) = false := k
    rw [e] at h k ⊢
    exact S.neg h k
  · show 0 < cmpR rs (rc u) (rc v) ↔ cmpR rs (rc v) (rc u) < 0
    rw [cmp_anti (a := rc u) (b := rc v)]
    lia
theorem cV_refl (u : Value) : cV rs rc u u = 0 := by
  have := cmp_anti (rs := rs) (a := rc u) (b := rc u)
  show cmpR rs (rc u) (rc u) = 0
  lia
end
end Mine
namespace Mine
noncomputable abbrev rowOk (c : Value → Value → Int) (num : Value → Int) (xs : List Value) : Prop := xs.Pairwise fun u v => lt2 c (u, num u) (v, num v) = true
theorem ins_ok {c : Value → Value → Int} {num : Value → Int} {p : Value → Bool} {x : Value} (K : COk c) (hp : ∀ y, p y = decide (c x y < 0)) : ∀ {xs : List Value}, (∀ u ∈ xs, num u < num x) → rowOk c num xs → (insB p x xs).Perm (x :: xs) ∧ rowOk c num (insB p x xs)
  | [], _, _ => ⟨List.Perm.refl _, List.pairwise_singleton _ _⟩
  | y :: ys, hn, hs => by
    have hs' := List.pairwise_cons.mp hs
    rw [insB, hp]
    by_cases h : c x y < 0
    · rw [if_pos (decide_eq_true h)]
      refine ⟨List.Perm.refl _, List.pairwise_cons.mpr ⟨fun z hz => lt2_true.mpr (.inl ?_), hs⟩⟩
      cases hz with
      | head => exact h
      | tail _ hz =>
        rcases lt2_true.mp (hs'.1 z hz) with q | ⟨q, _⟩
        · exact K.tr h q
        · exact K.lr h q
    · rw [if_neg (by simpa using h)]
      obtain ⟨a, b⟩ := ins_ok K hp (fun u hu => hn u (.tail _ hu)) hs'.2
      refine ⟨(List.Perm.cons y a).trans (List.Perm.swap x y ys), List.pairwise_cons.mpr ⟨fun z hz => ?_, b⟩⟩
      have hz := a.mem_iff.mp hz
      cases hz with
      | head => exact lt2_true.mpr (.inr ⟨h, hn y (.head _)⟩)
      | tail _ hz => exact hs'.1 z hz
structure Rw (D : Value → Prop) (rs : List (Nat × Int)) (rc : Value → Rc) (N : Int) (cs xr yg : List Value) : Prop where
  inc : cs.Pairwise fun u v => (rc u).n < (rc v).n
  lt : ∀ v ∈ cs, (rc v).n < N
  len : (cs.length : Int) ≤ N
  rc_ : ∀ v ∈ cs, D v
  pr : xr.Perm cs
  sr : rowOk (cV rs rc) (fun v => (rc v).n) xr
  pg : yg.Perm cs
  sg : rowOk (fun u v => cV rs rc v u) (fun v => (rc v).n) yg
structure Hx (hb : Heap) (C : Addr) (rs : List (Nat × Int)) (rc : Value → Rc) (cs hs : List Value) : Prop where
  isT : ∀ v ∈ hs, TupAt hb C v (tRec hb v) (rc (tRec hb v)).n
  ph : (hs.map (tRec hb)).Perm cs
  hp : Hp (ltT (cV rs rc) hb) .none 0 hs
section
variable {D : Value → Prop} {rs : List (Nat × Int)} {rc : Value → Rc} {N : Int} {cs xr yg hs xs hs' all : List Value} {x x0 told l : Value} {hb h' : Heap} {C : Addr}
theorem Rw.lay (R : Rw D rs rc N cs xr yg) (ok : ROk rs) (dx : D x) (hx : (rc x).n = N) : Rw D rs rc (N + 1) (cs ++ [x]) (insB (fun y => aheadR rs (rc x) (rc y)) x xr) (insB (fun y => aheadR rs (rc y) (rc x)) x yg) := by
  have K := cV_ok (rc := rc) ok
  have hn : ∀ u ∈ cs, (rc u).n < (rc x).n := fun u hu => by rw [hx]; exact R.lt u hu
  obtain ⟨a1, a2⟩ := ins_ok (num := fun v => (rc v).n) (p := fun y => aheadR rs (rc x) (rc y)) (x := x) K (fun y => ahead_cmp ok) (fun u hu => hn u (R.pr.mem_iff.mp hu)) R.sr
  obtain ⟨b1, b2⟩ := ins_ok (num := fun v => (rc v).n) (p := fun y => aheadR rs (rc y) (rc x)) (x := x) K.flip (fun y => ahead_cmp ok) (fun u hu => hn u (R.pg.mem_iff.mp hu)) R.sg
  have ap : (x :: cs).Perm (cs ++ [x]) := (List.perm_append_singleton x cs).symm
  refine ⟨List.pairwise_append.mpr ⟨R.inc, List.pairwise_singleton _ _, fun u hu v hv => by rw [List.mem_singleton.mp hv]; exact hn u hu⟩, fun v hv => ?_, ?_, fun v hv => ?_, a1.trans ((List.Perm.cons x R.pr).trans ap), a2, b1.trans ((List.Perm.cons x R.pg).trans ap), b2⟩
  · rcases List.mem_append.mp hv with hv | hv
    · have := R.lt v hv; lia
    · rw [List.mem_singleton.mp hv]; lia
  · have := R.len; rw [List.length_append, List.length_singleton]; lia
  · rcases List.mem_append.mp hv with hv | hv
    · exact R.rc_ v hv
    · rw [List.mem_singleton.mp hv]; exact dx
theorem Rw.inj (R : Rw D rs rc N cs xr yg) {u v : Value} (hu : u ∈ cs) (hv : v ∈ cs) (h : (rc u).n = (rc v).n) : u = v := by
  obtain ⟨i, hi, rfl⟩ := List.mem_iff_getElem.mp hu
  obtain ⟨k, hk, rfl⟩ := List.mem_iff_getElem.mp hv
  rcases Nat.lt_trichotomy i k with q | q | q
  · have := List.pairwise_iff_getElem.mp R.inc _ _ hi hk q; lia
  · subst q; rfl
  · have := List.pairwise_iff_getElem.mp R.inc _ _ hk hi q; lia
theorem Rw.nd (R : Rw D rs rc N cs xr yg) : cs.Nodup := R.inc.imp fun {a b} h e => by rw [e] at h; exact Int.lt_irrefl _ h
theorem split_at (nd : cs.Nodup) (hx : x ∈ cs) : ∃ za zb, cs = za ++ x :: zb ∧ x ∉ za := by
  obtain ⟨za, zb, rfl⟩ := List.append_of_mem hx
  refine ⟨za, zb, rfl, fun q => ?_⟩
  exact (List.nodup_append.mp nd).2.2 x q x (.head _) rfl
theorem Rw.out (R : Rw D rs rc N cs (x0 :: xr) yg) : ∃ ya yb za zb, yg = ya ++ x0 :: yb ∧ cs = za ++ x0 :: zb ∧ (∀ v ∈ ya, D v ∧ (rc v).n ≠ (rc x0).n) ∧ (∀ v ∈ za, D v ∧ (rc v).n ≠ (rc x0).n) ∧ Rw D rs rc N (za ++ zb) xr (ya ++ yb) := by
  have m0 : x0 ∈ cs := R.pr.mem_iff.mp (.head _)
  obtain ⟨ya, yb, rfl, ny⟩ := split_at (R.pg.nodup_iff.mpr R.nd) (R.pg.mem_iff.mpr m0)
  have cst : cs = cs := rfl
  obtain ⟨za, zb, ez, nz⟩ := split_at R.nd m0
  have pz : cs.Perm (x0 :: (za ++ zb)) := by rw [ez]; exact List.perm_middle
  have px : xr.Perm (za ++ zb) := (R.pr.trans pz).cons_inv
  have py : (ya ++ yb).Perm (za ++ zb) := ((List.perm_middle.symm.trans R.pg).trans pz).cons_inv
  have sub : (za ++ zb).Sublist cs := by rw [ez]; exact (List.Sublist.refl za).append (List.sublist_cons_self _ _)
  refine ⟨ya, yb, za, zb, rfl, ez, fun v hv => ?_, fun v hv => ?_, ⟨R.inc.sublist sub, fun v hv => R.lt v (sub.subset hv), ?_, fun v hv => R.rc_ v (sub.subset hv), px, (List.pairwise_cons.mp R.sr).2, py, R.sg.sublist ((List.Sublist.refl ya).append (List.sublist_cons_self _ _))⟩⟩
  · have hm := R.pg.mem_iff.mp (List.mem_append_left _ hv)
    exact ⟨R.rc_ v hm, fun q => ny (R.inj hm m0 q ▸ hv)⟩
  · have hm : v ∈ cs := by rw [ez]; exact List.mem_append_left _ hv
    exact ⟨R.rc_ v hm, fun q => nz (R.inj hm m0 q ▸ hv)⟩
  · have := sub.length_le; have := R.len; lia
theorem ltT_of {u v : Value} (hu : TupAt hb C u (tRec hb u) (rc (tRec hb u)).n) (hv : TupAt hb C v (tRec hb v) (rc (tRec hb v)).n) (c : Value → Value → Int) : ltT c hb u v = lt2 c (tRec hb u, (rc (tRec hb u)).n) (tRec hb v, (rc (tRec hb v)).n) := by
  unfold ltT; rw [hu.num, hv.num]
theorem least (ok : ROk rs) (isT : ∀ v ∈ all, TupAt hb C v (tRec hb v) (rc (tRec hb v)).n) (pa : (all.map (tRec hb)).Perm cs) (R : Rw D rs rc N cs (x0 :: xr) yg) (pt : (told :: hs').Perm all) (mn : ∀ u ∈ all, ltT (cV rs rc) hb u told = false) : tRec hb told = x0 ∧ (hs'.map (tRec hb)).Perm xr := by
  have mt : told ∈ all := pt.mem_iff.mp (.head _)
  have e : tRec hb told = x0 := by
    have h0 : x0 ∈ all.map (tRec hb) := pa.mem_iff.mpr (R.pr.mem_iff.mp (.head _))
    obtain ⟨u, hu, rfl⟩ := List.mem_map.mp h0
    have h1 : tRec hb told ∈ tRec hb u :: xr := R.pr.mem_iff.mpr (pa.mem_iff.mp (List.mem_map_of_mem mt))
    rcases List.mem_cons.mp h1 with h1 | h1
    · exact h1
    · have h2 := (List.pairwise_cons.mp R.sr).1 _ h1
      have h3 := mn u hu
      rw [ltT_of (isT u hu) (isT told mt)] at h3
      rw [h3] at h2; cases h2
  refine ⟨e, ?_⟩
  have p1 : ((told :: hs').map (tRec hb)).Perm (x0 :: xr) := ((pt.map _).trans pa).trans R.pr.symm
  rw [List.map_cons, e] at p1
  exact p1.cons_inv
theorem mem0 {xs : List Value} {i : Nat} {v : Value} (h : v ∈ xs) : ∃ i, i < xs.length ∧ xs.getD i .none = v := by
  obtain ⟨i, hi, e⟩ := List.mem_iff_getElem.mp h
  exact ⟨i, hi, by rw [getDE hi]; exact e⟩
theorem root_min {lt : Value → Value → Bool} (S : SWO lt) {t : Value} {r : List Value} (H : Hp lt .none 0 (t :: r)) : ∀ u ∈ t :: r, lt u t = false := fun u hu => by
  obtain ⟨i, hi, e⟩ := mem0 (i := 0) hu
  have := H.root S i hi
  rw [e] at this; exact this
theorem pop_ok {lt : Value → Value → Bool} (S : SWO lt) (H : Hp lt .none 0 (xs ++ [l])) : ((if xs = [] then l else xs.getD 0 .none) :: (if xs = [] then [] else sup lt lt .none l (xs.set 0 l) 0)).Perm (xs ++ [l]) ∧ Hp lt .none 0 (if xs = [] then [] else sup lt lt .none l (xs.set 0 l) 0) ∧ ∀ u ∈ xs ++ [l], lt u (if xs = [] then l else xs.getD 0 .none) = false := by
  cases xs with
  | nil =>
    rw [if_pos rfl, if_pos rfl]
    exact ⟨List.Perm.refl _, fun i _ hi => absurd hi (Nat.not_lt_zero _), fun u hu => by rw [List.mem_singleton.mp hu]; exact S.irr _⟩
  | cons t r =>
    rw [if_neg (by simp), if_neg (by simp)]
    have H' : Hp lt .none 0 (t :: r) := fun i i0 hi hs => by
      have := H i i0 (by rw [List.length_append]; exact Nat.lt_of_lt_of_le hi (Nat.le_add_right _ _)) hs
      have g : ∀ k, k < (t :: r).length → ((t :: r) ++ [l]).getD k .none = (t :: r).getD k .none := fun k hk => by rw [List.getD_eq_getElem?_getD, List.getElem?_append_left hk, List.getD_eq_getElem?_getD]
      rw [g i hi, g _ (by lia)] at this
      exact this
    obtain ⟨a, b⟩ := rep_ok (x := l) S H'
    refine ⟨(List.Perm.cons t b).trans ?_, a, ?_⟩
    · exact List.Perm.cons t (List.perm_append_singleton l r).symm
    · exact root_min S H
theorem pushpop_ok {lt : Value → Value → Bool} (S : SWO lt) (H : Hp lt .none 0 hs) : ((if hs ≠ [] ∧ lt (hs.getD 0 .none) x = true then hs.getD 0 .none else x) :: (if hs ≠ [] ∧ lt (hs.getD 0 .none) x = true then sup lt lt .none x (hs.set 0 x) 0 else hs)).Perm (x :: hs) ∧ Hp lt .none 0 (if hs ≠ [] ∧ lt (hs.getD 0 .none) x = true then sup lt lt .none x (hs.set 0 x) 0 else hs) ∧ ∀ u ∈ x :: hs, lt u (if hs ≠ [] ∧ lt (hs.getD 0 .none) x = true then hs.getD 0 .none else x) = false := by
  by_cases h : hs ≠ [] ∧ lt (hs.getD 0 .none) x = true
  · rw [if_pos h, if_pos h]
    cases hs with
    | nil => exact absurd rfl h.1
    | cons t r =>
      obtain ⟨a, b⟩ := rep_ok (x := x) S H
      have h2 : lt t x = true := h.2
      refine ⟨(List.Perm.cons t b).trans (List.Perm.swap x t r), a, fun u hu => ?_⟩
      cases hu with
      | head => exact S.asym h2
      | tail _ hu => exact root_min S H u hu
  · rw [if_neg h, if_neg h]
    refine ⟨List.Perm.refl _, H, fun u hu => ?_⟩
    cases hu with
    | head => exact S.irr _
    | tail _ hu =>
      cases hs with
      | nil => cases hu
      | cons t r =>
        have h1 : lt t x = false := by
          cases q : lt t x with
          | false => rfl
          | true => exact absurd ⟨by simp, q⟩ h
        exact S.neg h1 (root_min S H u hu)
theorem Hx.kp (X : Hx hb C rs rc cs hs) (k : Kp hb h') : Hx h' C rs rc cs hs := by
  have e : ∀ v ∈ hs, tRec h' v = tRec hb v := fun v hv => ((X.isT v hv).kp k).rec
  have e2 : ∀ v ∈ hs, tNum h' v = tNum hb v := fun v hv => by rw [((X.isT v hv).kp k).num, (X.isT v hv).num]
  refine ⟨fun v hv => by rw [e v hv]; exact (X.isT v hv).kp k, by rw [List.map_congr_left e]; exact X.ph, X.hp.congr fun u hu v hv => ?_⟩
  unfold ltT
  rw [e u hu, e v hv, e2 u hu, e2 v hv]
theorem Hx.len (X : Hx hb C rs rc cs hs) : hs.length = cs.length := by rw [← X.ph.length_eq, List.length_map]
end
end Mine
namespace Mine
structure Wd (w : World) (hb : Heap) (W rl R G M H C f : Addr) (kvs : List (Str × Value)) (rs : List (Nat × Int)) (rc : Value → Rc) (D : Value → Prop) : Prop where
  wk : WK w hb W rl R G M kvs rs
  v5 : valueAt kvs (Str.ofString "key") = some (.ref C)
  v6 : valueAt kvs (Str.ofString "heap") = some (.ref H)
  kw : KW w hb C f D (cV rs rc)
  dr : ∀ v, D v → RecAt hb v (rc v)
structure L4 (h : Heap) (R G M H : Addr) (xs ys zs hs : List Value) : Prop where
  r : PL h R xs
  g : PL h G ys
  m : PL h M zs
  h : PL h H hs
noncomputable abbrev led4 (R G M H : Addr) (xs ys zs hs : List Value) : Led := [(R, isL xs), (G, isL ys), (M, isL zs), (H, isL hs)]
structure Bl (A : Around) (h : Heap) (outer : List Env) (fr : List (Addr × Obj)) : Prop where
  fs : Frs outer fr
  fa : A.frames = some outer
  bl : Below h fr
section
variable {w : World} {A : Around} {E : Value → Shared → Prop} {s s' : Shared} {Q : Value → Shared → Prop} {hb h₀ h h' : Heap} {L a t e : Addr} {m : Str → Option Value} {ls : Led} {W rl R G M H C f : Addr} {kvs : List (Str × Value)} {rs : List (Nat × Int)} {rc : Value → Rc} {D : Value → Prop} {xs ys zs hs : List Value} {outer : List Env} {fr : List (Addr × Obj)} {env : Env} {N : Int}
theorem Wd.kp (x : Wd w hb W rl R G M H C f kvs rs rc D) (k : Kp hb h) : Wd w h W rl R G M H C f kvs rs rc D := ⟨x.wk.kp k, x.v5, x.v6, x.kw.kp k, fun v d => (x.dr v d).kp k⟩
theorem L4.kp (x : L4 h R G M H xs ys zs hs) (k : Kp h h') : L4 h' R G M H xs ys zs hs := ⟨x.r.kp k, x.g.kp k, x.m.kp k, x.h.kp k⟩
theorem L4.at_ (x : L4 h R G M H xs ys zs hs) : ∀ p ∈ led4 R G M H xs ys zs hs, ∃ o, h.get? p.1 = some o ∧ p.2 o := fun p hp => by
  simp only [List.mem_cons, List.not_mem_nil, or_false] at hp
  rcases hp with rfl | rfl | rfl | rfl
  · obtain ⟨n, e⟩ := x.r; exact ⟨_, e, n, rfl⟩
  · obtain ⟨n, e⟩ := x.g; exact ⟨_, e, n, rfl⟩
  · obtain ⟨n, e⟩ := x.m; exact ⟨_, e, n, rfl⟩
  · obtain ⟨n, e⟩ := x.h; exact ⟨_, e, n, rfl⟩
theorem Lg.l4 (F : Lg h₀ L h m (led4 R G M H xs ys zs hs ++ ls)) : L4 h R G M H xs ys zs hs := ⟨F.pl (.head _), F.pl (.tail _ (.head _)), F.pl (.tail _ (.tail _ (.head _))), F.pl (.tail _ (.tail _ (.tail _ (.head _))))⟩
theorem Lg.caught1 {Q : Flow → Shared → Prop} {b₀ : Stmt} {suite : List Stmt} {p1 p4 : Pos} {a0 : Value} (X0 : KIn w h₀) (F : Lg h₀ L h m (ls ++ frL fr)) (Fs : Frs outer fr) (hfr : A.frames = some (env :: outer)) (hf : env.frame = some L) (hk : env.scope.kind = .function)
    (hfl : Heap.FlyingW (hideAll h (L :: fr.map (·.1))) (env :: outer) e (.type "IndexError") a0 s'.heap) (up : h.UpToSlots s'.heap) (eg : env.globals = mainGlobals) (eb : env.builtins = builtinsNs) (k1 : env.kindOf "IndexError" = some .globalImplicit)
    (k : ∀ h2, Lg h₀ L h2 m (ls ++ frL fr) → wpAny (MM w) (A.mark (some (.ref e))) (execs (b₀ :: suite) env) Q (notedBy (MM w) (A.mark (some (.ref e))) env (cameBackBy (MM w) A env E)) { s' with heap := h2 }) :
    wpAny (MM w) A (noteFrame (.ref e) env) (fun _ s₂ => wpAny (MM w) A (setFlight (.ref e) none) (fun _ s₃ => wpAny (MM w) A (handleBy (.ref e) env [.ExceptHandler (some (.Name "IndexError" p1)) none (b₀ :: suite) p4]) Q E s₃) E s₂) E s' := by
  refine wpAny_looks_onW hfr hf hfl (fun h₂ held up₂ => ?_)
  refine wpAny_landsW (s := { s' with heap := h₂ }) held (fun h₃ fl₃ up₃ => ?_)
  have X' : KIn w h₃ := X0.kp (fun b o e' => fl₃.1 b o (hideAll_get _ (F.keep b o e') (fun q => by
    cases q with
    | head => rw [F.nL] at e'; cases e'
    | tail _ q =>
      obtain ⟨p, hp, rfl⟩ := List.mem_map.mp q
      have := (F.off (p.1, upS p.2) (List.mem_append_right _ (List.mem_map_of_mem hp))).2
      rw [show (p.1, upS p.2).1 = p.1 from rfl] at this
      rw [this] at e'; cases e')))
  have s1 : isSubtype (.type "IndexError") (.type "IndexError") = pure true := by rw [isSubtype_type]; kernel_rfl
  obtain ⟨ob, hob, hcb⟩ := fl₃.there
  refine wpAny_handleBy_builtin (X := "IndexError") (T := "IndexError") (b := true) (ex_type _ (.tail _ (.tail _ (.head _)))).1 (ex_type _ (.tail _ (.tail _ (.head _)))).2 s1 (nmB X' (by k_is) (by k_is) ⟨rfl, ⟨ob, hob, hcb⟩, ?_⟩ eg eb hk k1)
  rw [if_pos rfl]
  exact lands_againW (s := { s' with heap := h₃ }) fl₃ (fun h₄ fl₄ up₄ => k h₄ (F.slots Fs fl₄.1 (((up.trans up₂).trans up₃).trans up₄)))
theorem Lg.frames (F : Lg h₀ L h m (ls ++ frL fr)) (B : Bl A h' outer fr) (hf : env.frame = some L) (hk : env.scope.kind = .function) : ∃ o, Bl (A.deeper env) h (env :: outer) ((L, o) :: fr) := by
  obtain ⟨o, es, ep, e, d, r⟩ := F.ns
  refine ⟨o, .cons (by rw [hk]; decide) hf ⟨es, ep, d⟩ B.fs, by show A.frames.map _ = _; rw [B.fa]; rfl, fun p hp => ?_⟩
  cases hp with
  | head => exact ⟨o, e, upS.refl o⟩
  | tail _ q => exact F.below p q
end
end Mine
namespace Mine
section
variable {w : World} {A : Around} {E : Value → Shared → Prop} {s s' : Shared} {Q : Value → Shared → Prop} {hb h₀ h h' : Heap} {W rl R G M H C f : Addr} {kvs : List (Str × Value)} {rs : List (Nat × Int)} {rc : Value → Rc} {D : Value → Prop} {cs xr yg hs all : List Value} {N : Int} {x x0 e : Value}
theorem oneNo_of (isT : ∀ v ∈ all, TupAt hb C v (tRec hb v) (rc (tRec hb v)).n) (mem : ∀ v ∈ all, tRec hb v ∈ cs) (Rr : Rw D rs rc N cs xr yg) (dr : ∀ v, D v → RecAt hb v (rc v)) : OneNo hb all := fun u hu v hv q => by
  rw [(isT u hu).num, (isT v hv).num] at q
  have e := Rr.inj (mem u hu) (mem v hv) q
  obtain ⟨l, _, el, _⟩ := dr _ (Rr.rc_ _ (mem u hu))
  exact ⟨l, el, e ▸ el⟩
theorem cmp_of (T : Wd w hb W rl R G M H C f kvs rs rc D) (Rr : Rw D rs rc N cs xr yg) (isT : ∀ v ∈ all, TupAt hb C v (tRec hb v) (rc (tRec hb v)).n) (mem : ∀ v ∈ all, tRec hb v ∈ cs) : CmpLt w hb (· ∈ all) (ltT (cV rs rc) hb) :=
  cmpT T.kw (cV_ok T.wk.ok) (fun v hv => ⟨_, _, isT v hv, Rr.rc_ _ (mem v hv)⟩) (oneNo_of isT mem Rr T.dr)
theorem Hx.mem (X : Hx hb C rs rc cs hs) : ∀ v ∈ hs, tRec hb v ∈ cs := fun v hv => X.ph.mem_iff.mp (List.mem_map_of_mem hv)
theorem Hx.ne (X : Hx hb C rs rc cs hs) (hc : cs ≠ []) : hs ≠ [] := fun q => hc (by have := X.ph; rw [q] at this; exact List.nil_perm.mp this)
theorem pop_spec (T : Wd w hb W rl R G M H C f kvs rs rc D) (Rr : Rw D rs rc N cs (x0 :: xr) yg) (X : Hx hb C rs rc cs hs) (hr : Rm A 12) (kb : Kp hb s.heap) (hbn : hb.get? H = none) (hl : PL s.heap H hs) (hz : hs.length < 60)
    (k : ∀ h' tk told hs', KpB [H] s.heap h' → PL h' H hs' → TupAt hb C told x0 (rc x0).n → Hx hb C rs rc xr hs' → Q told { s with heap := h', toks := tk }) : wpAny (MM w) A (call (.ref 35) [.ref H]) Q E s := by
  have hne : hs ≠ [] := X.ne (fun q => by have := Rr.pr.length_eq; rw [q] at this; simp at this)
  obtain ⟨xs, l, rfl⟩ : ∃ xs l, hs = xs ++ [l] := ⟨hs.dropLast, hs.getLast hne, (List.dropLast_concat_getLast hne).symm⟩
  have S : SWO (ltT (cV rs rc) hb) := (cV_ok T.wk.ok).ltT hb
  obtain ⟨p1, p2, p3⟩ := pop_ok S X.hp
  refine heappop_spec T.wk.x (cmp_of T Rr X.isT X.mem) hr kb hbn hl (fun v hv => List.mem_append_left _ hv) (List.mem_append_right _ (.head _)) (by rw [List.length_append] at hz; lia) (fun h' tk a1 a2 => ?_)
  obtain ⟨e1, e2⟩ := least T.wk.ok X.isT X.ph Rr p1 p3
  have ht := X.isT _ (p1.mem_iff.mp (.head _))
  rw [e1] at ht
  exact k h' tk _ _ a1 a2 ht ⟨fun v hv => X.isT v (p1.mem_iff.mp (.tail _ hv)), e2, p2⟩
theorem repl_spec (T : Wd w hb W rl R G M H C f kvs rs rc D) (Rr : Rw D rs rc N cs (x0 :: xr) yg) (X : Hx hb C rs rc cs hs) (tx : TupAt hb C x e (rc e).n) (de : D e) (en : (rc e).n = N) (hr : Rm A 12) (kb : Kp hb s.heap) (hbn : hb.get? H = none) (hl : PL s.heap H hs) (hz : hs.length < 60)
    (k : ∀ h' tk told hs', KpB [H] s.heap h' → PL h' H hs' → TupAt hb C told x0 (rc x0).n → Hx hb C rs rc (e :: xr) hs' → Q told { s with heap := h', toks := tk }) : wpAny (MM w) A (call (.ref 42) [.ref H, x]) Q E s := by
  have hne : hs ≠ [] := X.ne (fun q => by have := Rr.pr.length_eq; rw [q] at this; simp at this)
  have S : SWO (ltT (cV rs rc) hb) := (cV_ok T.wk.ok).ltT hb
  have Rl := Rr.lay T.wk.ok de en
  cases hs with
  | nil => exact absurd rfl hne
  | cons t r =>
    have er := tx.rec
    have all1 : ∀ v ∈ x :: t :: r, TupAt hb C v (tRec hb v) (rc (tRec hb v)).n := fun v hv => by
      cases hv with
      | head => rw [er]; exact tx
      | tail _ hv => exact X.isT v hv
    have mem1 : ∀ v ∈ x :: t :: r, tRec hb v ∈ cs ++ [e] := fun v hv => by
      cases hv with
      | head => rw [er]; exact List.mem_append_right _ (.head _)
      | tail _ hv => exact List.mem_append_left _ (X.mem v hv)
    refine heapreplace_spec T.wk.x (cmp_of T Rl all1 mem1) hr kb hbn hl (fun v hv => .tail _ hv) (.head _) (by simp) (by lia) (fun h' tk a1 a2 => ?_)
    obtain ⟨e1, e2⟩ := least T.wk.ok X.isT X.ph Rr (List.Perm.refl (t :: r)) (root_min S X.hp)
    obtain ⟨b1, b2⟩ := rep_ok (x := x) S X.hp
    have ht := X.isT t (.head _)
    rw [e1] at ht
    refine k h' tk _ _ a1 a2 ht ⟨fun v hv => ?_, ?_, b1⟩
    · have := b2.mem_iff.mp hv
      cases this with
      | head => exact all1 _ (.head _)
      | tail _ q => exact all1 _ (.tail _ (.tail _ q))
    · refine (b2.map _).trans ?_
      rw [List.map_cons, er]
      exact List.Perm.cons e e2
theorem push_spec2 (T : Wd w hb W rl R G M H C f kvs rs rc D) (Rr : Rw D rs rc N cs xr yg) (X : Hx hb C rs rc cs hs) (tx : TupAt hb C x e (rc e).n) (de : D e) (en : (rc e).n = N) (hr : Rm A 12) (kb : Kp hb s.heap) (hbn : hb.get? H = none) (hl : PL s.heap H hs) (hz : hs.length < 60)
    (k : ∀ h' tk hs', KpB [H] s.heap h' → PL h' H hs' → Hx hb C rs rc (cs ++ [e]) hs' → Q .none { s with heap := h', toks := tk }) : wpAny (MM w) A (call (.ref 28) [.ref H, x]) Q E s := by
  have S : SWO (ltT (cV rs rc) hb) := (cV_ok T.wk.ok).ltT hb
  have Rl := Rr.lay T.wk.ok de en
  have er := tx.rec
  have all1 : ∀ v ∈ hs ++ [x], TupAt hb C v (tRec hb v) (rc (tRec hb v)).n := fun v hv => by
    rcases List.mem_append.mp hv with hv | hv
    · exact X.isT v hv
    · rw [List.mem_singleton.mp hv, er]; exact tx
  have mem1 : ∀ v ∈ hs ++ [x], tRec hb v ∈ cs ++ [e] := fun v hv => by
    rcases List.mem_append.mp hv with hv | hv
    · exact List.mem_append_left _ (X.mem v hv)
    · rw [List.mem_singleton.mp hv, er]; exact List.mem_append_right _ (.head _)
  refine heappush_spec T.wk.x (cmp_of T Rl all1 mem1) (hr.le (by decide)) kb hbn hl (fun v hv => List.mem_append_left _ hv) (List.mem_append_right _ (.head _)) (by lia) (fun h' tk a1 a2 => ?_)
  obtain ⟨b1, b2⟩ := push_spec (d := Value.none) (x := x) S X.hp
  refine k h' tk _ a1 a2 ⟨fun v hv => all1 v (b2.mem_iff.mp hv), ?_, b1⟩
  refine (b2.map _).trans ?_
  rw [List.map_append, List.map_cons, List.map_nil, er]
  exact X.ph.append_right _
theorem pushpop_spec (T : Wd w hb W rl R G M H C f kvs rs rc D) (Rr : Rw D rs rc N (cs ++ [e]) (x0 :: xr) yg) (X : Hx hb C rs rc cs hs) (tx : TupAt hb C x e (rc e).n) (hr : Rm A 12) (kb : Kp hb s.heap) (hbn : hb.get? H = none) (hl : PL s.heap H hs) (hz : hs.length < 60)
    (k : ∀ h' tk told hs', KpB [H] s.heap h' → PL h' H hs' → TupAt hb C told x0 (rc x0).n → Hx hb C rs rc xr hs' → Q told { s with heap := h', toks := tk }) : wpAny (MM w) A (call (.ref 49) [.ref H, x]) Q E s := by
  have S : SWO (ltT (cV rs rc) hb) := (cV_ok T.wk.ok).ltT hb
  have er := tx.rec
  have all1 : ∀ v ∈ x :: hs, TupAt hb C v (tRec hb v) (rc (tRec hb v)).n := fun v hv => by
    cases hv with
    | head => rw [er]; exact tx
    | tail _ hv => exact X.isT v hv
  have mem1 : ∀ v ∈ x :: hs, tRec hb v ∈ cs ++ [e] := fun v hv => by
    cases hv with
    | head => rw [er]; exact List.mem_append_right _ (.head _)
    | tail _ hv => exact List.mem_append_left _ (X.mem v hv)
  have pa : ((x :: hs).map (tRec hb)).Perm (cs ++ [e]) := by
    rw [List.map_cons, er]
    exact (List.Perm.cons e X.ph).trans (List.perm_append_singleton e cs).symm
  obtain ⟨p1, p2, p3⟩ := pushpop_ok (x := x) S X.hp
  refine heappushpop_spec T.wk.x (cmp_of T Rr all1 mem1) hr kb hbn hl (fun v hv => .tail _ hv) (.head _) (by lia) (fun h' tk a1 a2 => ?_)
  obtain ⟨e1, e2⟩ := least T.wk.ok all1 pa Rr p1 p3
  have ht := all1 _ (p1.mem_iff.mp (.head _))
  rw [e1] at ht
  exact k h' tk _ _ a1 a2 ht ⟨fun v hv => all1 v (p1.mem_iff.mp (.tail _ hv)), e2, p2⟩
end
end Mine
namespace Mine
inductive ItX (hb : Heap) (C : Addr) (rc : Value → Rc) (D : Value → Prop) (N : Int) : Value → Option Value → Prop
  | none : ItX hb C rc D N .none none
  | some {x e : Value} (tx : TupAt hb C x e (rc e).n) (de : D e) (en : (rc e).n = N) : ItX hb C rc D N x (some e)
noncomputable def NN : Option Value → Int → Int
  | none, N => N
  | some _, N => N + 1
section
variable {w : World} {A : Around} {E : Value → Shared → Prop} {s s' : Shared} {Q : Value → Shared → Prop} {hb h₀ h h' : Heap} {L W rl R G M H C f : Addr} {m : Str → Option Value} {kvs : List (Str × Value)} {rs : List (Nat × Int)} {rc : Value → Rc} {D : Value → Prop} {cs xr yg hs xs ys zs : List Value} {N N' : Int} {item : Value} {it : Option Value} {outer : List Env} {fr : List (Addr × Obj)} {ls : Led}
theorem Rw.mono (R : Rw D rs rc N cs xr yg) (h : N ≤ N') : Rw D rs rc N' cs xr yg := ⟨R.inc, fun v hv => Int.lt_of_lt_of_le (R.lt v hv) h, Int.le_trans R.len h, R.rc_, R.pr, R.sr, R.pg, R.sg⟩
theorem Hx.perm {cs' : List Value} (X : Hx hb C rs rc cs hs) (p : cs.Perm cs') : Hx hb C rs rc cs' hs := ⟨X.isT, X.ph.trans p, X.hp⟩
theorem map4 : (led4 R G M H xs ys zs hs ++ frL fr).map (·.1) = [R, G, M, H] ++ fr.map (·.1) := by rw [List.map_append, frL_map]; rfl
theorem Lg.start4 {h₁ : Heap} (l4 : L4 h R G M H xs ys zs hs) (hB : Below h fr) (nd : ([R, G, M, H] ++ fr.map (·.1)).Nodup) (F : Fr h L h₁ m) (hL : h.get? L = none) : Lg (hideAll h ([R, G, M, H] ++ fr.map (·.1))) L h₁ m (led4 R G M H xs ys zs hs ++ frL fr) := by
  have := Lg.start (ls := led4 R G M H xs ys zs hs ++ frL fr) (fun p hp => by
    rcases List.mem_append.mp hp with hp | hp
    · exact l4.at_ p hp
    · obtain ⟨q, hq, rfl⟩ := List.mem_map.mp hp
      exact hB q hq) (by rw [map4]; exact nd) F hL
  rwa [map4] at this
theorem none4 (n4 : ∀ a ∈ [R, G, M, H], hb.get? a = none) (nf : ∀ p ∈ fr, hb.get? p.1 = none) : ∀ a ∈ [R, G, M, H] ++ fr.map (·.1), hb.get? a = none := fun a ha => by
  rcases List.mem_append.mp ha with ha | ha
  · exact n4 a ha
  · obtain ⟨p, hp, rfl⟩ := List.mem_map.mp ha
    exact nf p hp
theorem off3 (nd : ([R, G, M, H] ++ fr.map (·.1)).Nodup) (hB : Below h fr) (k : KpB [R, G, M] h h') : Below h' fr := fun p hp => by
  obtain ⟨o, e, u⟩ := hB p hp
  refine ⟨o, k _ _ (fun q => ?_) e, u⟩
  exact (List.nodup_append.mp nd).2.2 p.1 (by simp only [List.mem_cons, List.not_mem_nil, or_false] at q ⊢; rcases q with q | q | q <;> simp [q]) p.1 (List.mem_map_of_mem hp) rfl
theorem Rm.unitsM {A : Around} {n : Nat} {env : Env} {v : Option Value} (x : Rm A n) : ((A.deeper env).mark v).units < cLine := by
  have := x.2.1; show A.units + 3 < 9900; lia
theorem pop_none {o1 : List Env} (X : KIn w hb) (hr : Rm A 3) (kb : Kp hb s.heap) (hl : PL s.heap H []) (Bf : ∃ o, Bl A s.heap o1 ((L, o) :: fr))
    (k : ∀ h' tk e a0, Heap.FlyingW (hideAll s.heap (L :: fr.map (·.1))) o1 e (.type "IndexError") a0 h' → s.heap.UpToSlots h' → E (.ref e) { s with heap := h', toks := tk }) : wpAny (MM w) A (call (.ref 35) [.ref H]) Q E s :=
  by obtain ⟨_, B⟩ := Bf; exact heappop_empty X hr kb hl B.fa B.fs B.bl k
theorem repl_none {x : Value} {o1 : List Env} (X : KIn w hb) (hr : Rm A 3) (kb : Kp hb s.heap) (hl : PL s.heap H []) (Bf : ∃ o, Bl A s.heap o1 ((L, o) :: fr))
    (k : ∀ h' tk e a0, Heap.FlyingW (hideAll s.heap (L :: fr.map (·.1))) o1 e (.type "IndexError") a0 h' → s.heap.UpToSlots h' → E (.ref e) { s with heap := h', toks := tk }) : wpAny (MM w) A (call (.ref 42) [.ref H, x]) Q E s :=
  by obtain ⟨_, B⟩ := Bf; exact heapreplace_empty X hr kb hl B.fa B.fs B.bl k
inductive TkE (s : Shared) (h0 hb : Heap) (L W R G M H C : Addr) (rs : List (Nat × Int)) (rc : Value → Rc) (item : Value) (it : Option Value) (x0 : Value) (xr xr' yg cs : List Value) (fr : List (Addr × Obj)) : Flow → Shared → Prop
  | mk {h : Heap} {tk : Nat} {m : Str → Option Value} {told : Value} {hs' : List Value} (F : Lg h0 L h m (led4 R G M H xr yg cs hs' ++ frL fr)) (m1 : m (Str.ofString "world") = some (.ref W)) (m2 : m (Str.ofString "told") = some told) (m3 : m (Str.ofString "item") = some item) (ht : TupAt hb C told x0 (rc x0).n) (X : Hx hb C rs rc (upM it xr') hs') :
    TkE s h0 hb L W R G M H C rs rc item it x0 xr xr' yg cs fr .next { s with heap := h, toks := tk }
end
namespace N_taken_spec
noncomputable def stX0 (w : World) (A : Around) (E : Value → Shared → Prop) (s : Shared) (Q : Value → Shared → Prop) (hb : Heap) (W rl R G M H C f : Addr) (kvs : List (Str × Value)) (rs : List (Nat × Int)) (rc : Value → Rc) (D : Value → Prop) (N : Int) (outer : List Env) (fr : List (Addr × Obj)) : Prop := ∀ {cs : List Value} {xr : List Value} {yg : List Value} {hs : List Value} {item : Value} {it : Option Value} (T : Wd w hb W rl R G M H C f kvs rs rc D) (n4 : ∀ a ∈ [R, G, M, H], hb.get? a = none) (nf : ∀ p ∈ fr, hb.get? p.1 = none) (nd : ([R, G, M, H] ++ fr.map (·.1)).Nodup) (Rr : Rw D rs rc N cs xr yg) (X : Hx hb C rs rc cs hs) (hit : ItX hb C rc D N item it) (hr : Rm A 25) (kb : Kp hb s.heap) (l4 : L4 s.heap R G M H xr yg cs hs) (hN : N < 45) (B : Bl A s.heap outer fr) (k : ∀ h' tk cs' xr' yg' hs', Rw D rs rc (NN it N) cs' xr' yg' → Hx hb C rs rc cs' hs' → L4 h' R G M H xr' yg' cs' hs' → KpB ([R, G, M, H] ++ fr.map (·.1)) s.heap h' → Below h' fr → Q (.bool true) { s with heap := h', toks := tk }), wpAny (MM w) A (call (.ref 159) [.ref W, item]) Q E s
noncomputable abbrev T := World × Around × (Value → Shared → Prop) × Shared × (Value → Shared → Prop) × Heap × Addr × Addr × Addr × Addr × Addr × Addr × Addr × Addr × (List (Str × Value)) × (List (Nat × Int)) × (Value → Rc) × (Value → Prop) × Int × (List Env) × (List (Addr × Obj))
noncomputable def pX (x : T) : Prop := stX0 x.1 x.2.1 x.2.2.1 x.2.2.2.1 x.2.2.2.2.1 x.2.2.2.2.2.1 x.2.2.2.2.2.2.1 x.2.2.2.2.2.2.2.1 x.2.2.2.2.2.2.2.2.1 x.2.2.2.2.2.2.2.2.2.1 x.2.2.2.2.2.2.2.2.2.2.1 x.2.2.2.2.2.2.2.2.2.2.2.1 x.2.2.2.2.2.2.2.2.2.2.2.2.1 x.2.2.2.2.2.2.2.2.2.2.2.2.2.1 x.2.2.2.2.2.2.2.2.2.2.2.2.2.2.1 x.2.2.2.2.2.2.2.2.2.2.2.2.2.2.2.1 x.2.2.2.2.2.2.2.2.2.2.2.2.2.2.2.2.1 x.2.2.2.2.2.2.2.2.2.2.2.2.2.2.2.2.2.1 x.2.2.2.2.2.2.2.2.2.2.2.2.2.2.2.2.2.2.1 x.2.2.2.2.2.2.2.2.2.2.2.2.2.2.2.2.2.2.2.1 x.2.2.2.2.2.2.2.2.2.2.2.2.2.2.2.2.2.2.2.2
noncomputable def cX : T := @Classical.epsilon _ (ne2 neW (ne2 neA (ne2 neI (ne2 neS (ne2 neI (ne2 neI (ne2 neI (ne2 neI (ne2 neI (ne2 neI (ne2 neI (ne2 neI (ne2 neI (ne2 neI (ne2 neI (ne2 neI (ne2 ⟨fun _ => ⟨0, 0, 0, 0⟩⟩ (ne2 neI (ne2 neI (ne2 neI neI)))))))))))))))))))) fun x => ¬ pX x
def w : World := cX.1
def A : Around := cX.2.1
def E : Value → Shared → Prop := cX.2.2.1
def s : Shared := cX.2.2.2.1
def Q : Value → Shared → Prop := cX.2.2.2.2.1
def hb : Heap := cX.2.2.2.2.2.1
def W : Addr := cX.2.2.2.2.2.2.1
def rl : Addr := cX.2.2.2.2.2.2.2.1
def R : Addr := cX.2.2.2.2.2.2.2.2.1
def G : Addr := cX.2.2.2.2.2.2.2.2.2.1
def M : Addr := cX.2.2.2.2.2.2.2.2.2.2.1
def H : Addr := cX.2.2.2.2.2.2.2.2.2.2.2.1
def C : Addr := cX.2.2.2.2.2.2.2.2.2.2.2.2.1
def f : Addr := cX.2.2.2.2.2.2.2.2.2.2.2.2.2.1
def kvs : List (Str × Value) := cX.2.2.2.2.2.2.2.2.2.2.2.2.2.2.1
def rs : List (Nat × Int) := cX.2.2.2.2.2.2.2.2.2.2.2.2.2.2.2.1
def rc : Value → Rc := cX.2.2.2.2.2.2.2.2.2.2.2.2.2.2.2.2.1
def D : Value → Prop := cX.2.2.2.2.2.2.2.2.2.2.2.2.2.2.2.2.2.1
def N : Int := cX.2.2.2.2.2.2.2.2.2.2.2.2.2.2.2.2.2.2.1
def outer : List Env := cX.2.2.2.2.2.2.2.2.2.2.2.2.2.2.2.2.2.2.2.1
def fr : List (Addr × Obj) := cX.2.2.2.2.2.2.2.2.2.2.2.2.2.2.2.2.2.2.2.2
theorem pfX0 : stX0 w A E s Q hb W rl R G M H C f kvs rs rc D N outer fr := by
  intro cs xr yg hs item it T n4 nf nd Rr X hit hr kb l4 hN B k
  refine callT (T.wk.x.keeps kb) (by k_is) (by k_is) hr (BindsTo.of_eq rfl) (locs rfl) (fun h₁ F₁ => ?_)
  have F := Lg.start4 l4 B.bl nd F₁ (newNone _)
  have k0 : Kp hb (hideAll s.heap ([R, G, M, H] ++ fr.map (·.1))) := hideKp kb (none4 n4 nf)
  have fin : ∀ {h' : Heap}, Kp (hideAll s.heap ([R, G, M, H] ++ fr.map (·.1))) h' → KpB ([R, G, M, H] ++ fr.map (·.1)) s.heap h' := fun k' => kpB_hide k'
  generalize hideAll s.heap ([R, G, M, H] ++ fr.map (·.1)) = h0 at F k0 fin
  have X0 := T.wk.x.keeps k0
  have hd := T.wk.d
  have hlen : hs.length < 45 := by rw [X.len]; have := Rr.len; lia
  have hcl : cs.length < 45 := by have := Rr.len; lia
  by_cases hc : cs = []
  · refine wpAny_execs_cons (wpAny_Try_except ?_)
    subst hc
    obtain rfl : xr = [] := List.perm_nil.mp Rr.pr
    obtain rfl : yg = [] := List.perm_nil.mp Rr.pg
    obtain rfl : hs = [] := by
      cases hs with
      | nil => rfl
      | cons a b => have := X.len; simp at this
    have ret : ∀ h₃ tk₃ (e : Addr) (mm : Str → Option Value), Lg h0 s.heap.objs.size h₃ mm (led4 R G M H [] [] [] [] ++ frL fr) → Q (.bool true) { s with heap := h₃, toks := tk₃ } := fun h₃ tk₃ e mm F₃ =>
      k h₃ tk₃ [] [] [] [] (Rr.mono (by cases it <;> simp only [NN] <;> lia)) X F₃.l4 (fin F₃.keep) F₃.below
    cases hit with
    | none =>
      refine wpAny_execs_cons (wpAny_If (wpAny_isTrue_Compare1 (F.nm rfl (wpAny_Constant_none (is_none_none (wpAny_truthy_bool ?_))))))
      rw [if_pos rfl]
      refine wpAny_execs_cons (wpAny_Assign_Name (Call_ (nmG (X0.keeps F.keep) (by k_is) (callWith_F (args_cons (Subscript_ (F.nm rfl (wpAny_Constant_str (getW hd (k0.trans F.keep) T.v6 (args_nil ⟨FnAt.of (X0.keeps F.keep) (by k_is), ?_⟩))))))))))
      refine pop_none T.wk.x ((hr.deep _).le (by decide)) (k0.trans F.keep) F.l4.h (F.frames B rfl rfl) (fun h₂ tk₂ e a0 fl up => ?_)
      refine F.caught1 (s' := { s with heap := h₂, toks := tk₂ }) X0 B.fs (by show A.frames.map _ = _; rw [B.fa]; rfl) rfl rfl fl up rfl rfl rfl (fun h₃ F₃ => ?_)
      refine wpAny_execs_cons (wpAny_Return_some (BoolOp_and (wpAny_Compare1 (Subscript_ (F₃.nm rfl (wpAny_Constant_str (getW hd (k0.trans F₃.keep) T.wk.v2 (listD (args_nil ⟨szL, fun e₁ h₄ k₄ n₄ e₄ => ?_⟩)))))))))
      have F₄ := F₃.kp k₄
      refine listEqNil F₄.l4.r ⟨0, e₄⟩ hr.unitsM (wpAny_truthy_bool ?_)
      rw [if_pos (by simp)]
      refine BoolOp_one (wpAny_Compare1 (Subscript_ (F₄.nm rfl (wpAny_Constant_str (getW hd (k0.trans F₄.keep) T.v6 (listD (args_nil ⟨szL, fun e₂ h₅ k₅ n₅ e₅ => ?_⟩)))))))
      have F₅ := F₄.kp k₅
      refine listEqNil F₅.l4.h ⟨0, e₅⟩ hr.unitsM ?_
      exact ret _ _ e _ F₅
    | @some x e tx de en =>
      obtain ⟨xt, xk, xn, rfl, _, _⟩ := id tx
      refine wpAny_execs_cons (wpAny_If (wpAny_isTrue_Compare1 (F.nm rfl (wpAny_Constant_none (is_none_ne nofun (wpAny_truthy_bool ?_))))))
      rw [if_neg (by decide)]
      refine wpAny_execs_cons (wpAny_Assign_Name (Call_ (nmG (X0.keeps F.keep) (by k_is) (callWith_F (args_cons (Subscript_ (F.nm rfl (wpAny_Constant_str (getW hd (k0.trans F.keep) T.v6 (args_cons (F.nm rfl (args_nil ⟨FnAt.of (X0.keeps F.keep) (by k_is), ?_⟩))))))))))))
      refine repl_none T.wk.x ((hr.deep _).le (by decide)) (k0.trans F.keep) F.l4.h (F.frames B rfl rfl) (fun h₂ tk₂ e' a0 fl up => ?_)
      refine F.caught1 (s' := { s with heap := h₂, toks := tk₂ }) X0 B.fs (by show A.frames.map _ = _; rw [B.fa]; rfl) rfl rfl fl up rfl rfl rfl (fun h₃ F₃ => ?_)
      refine wpAny_execs_cons (wpAny_Return_some (BoolOp_and (wpAny_Compare1 (Subscript_ (F₃.nm rfl (wpAny_Constant_str (getW hd (k0.trans F₃.keep) T.wk.v2 (listD (args_nil ⟨szL, fun e₁ h₄ k₄ n₄ e₄ => ?_⟩)))))))))
      have F₄ := F₃.kp k₄
      refine listEqNil F₄.l4.r ⟨0, e₄⟩ hr.unitsM (wpAny_truthy_bool ?_)
      rw [if_pos (by simp)]
      refine BoolOp_one (wpAny_Compare1 (Subscript_ (F₄.nm rfl (wpAny_Constant_str (getW hd (k0.trans F₄.keep) T.v6 (listD (args_nil ⟨szL, fun e₂ h₅ k₅ n₅ e₅ => ?_⟩)))))))
      have F₅ := F₄.kp k₅
      refine listEqNil F₅.l4.h ⟨0, e₅⟩ hr.unitsM ?_
      exact ret _ _ e' _ F₅
  · obtain ⟨x0, xr', rfl⟩ : ∃ x0 xr', xr = x0 :: xr' := by
      cases xr with
      | nil => exact absurd (List.nil_perm.mp Rr.pr) hc
      | cons a b => exact ⟨a, b, rfl⟩
    obtain ⟨ya, yb, za, zb, ey, ez, hya, hza, Rr'⟩ := Rr.out
    have d0 : D x0 := Rr.rc_ x0 (Rr.pr.mem_iff.mp (.head _))
    have dx : ∀ v ∈ xr', D v := fun v hv => Rr.rc_ v (Rr.pr.mem_iff.mp (.tail _ hv))
    have dy : ∀ v ∈ yb, D v := fun v hv => Rr.rc_ v (Rr.pg.mem_iff.mp (by rw [ey]; exact List.mem_append_right _ (.tail _ hv)))
    have n1 := n4 R (.head _)
    have n2 := n4 G (.tail _ (.head _))
    have n3 := n4 M (.tail _ (.tail _ (.head _)))
    have n5 := n4 H (.tail _ (.tail _ (.tail _ (.head _))))
    refine wpAny_execs_cons (wpAny_mono (Q := TkE s h0 hb s.heap.objs.size W R G M H C rs rc item it x0 (x0 :: xr') xr' yg cs fr) (wpAny_Try_except ?tr) ?rest (fun _ _ z => z))
    case tr =>
      cases hit with
      | none =>
        refine wpAny_execs_cons (wpAny_If (wpAny_isTrue_Compare1 (F.nm rfl (wpAny_Constant_none (is_none_none (wpAny_truthy_bool ?_))))))
        rw [if_pos rfl]
        refine wpAny_execs_cons (wpAny_Assign_Name (Call_ (nmG (X0.keeps F.keep) (by k_is) (callWith_F (args_cons (Subscript_ (F.nm rfl (wpAny_Constant_str (getW hd (k0.trans F.keep) T.v6 (args_nil ⟨FnAt.of (X0.keeps F.keep) (by k_is), ?_⟩))))))))))
        refine pop_spec T Rr X ((hr.deep _).le (by decide)) (k0.trans F.keep) n5 F.l4.h (by lia) (fun h₂ tk₂ told hs₂ k₂ l₂ t₂ x₂ => ?_)
        have F₂ : Lg h0 s.heap.objs.size h₂ _ (led4 R G M H (x0 :: xr') yg cs hs₂ ++ frL fr) := F.butL 3 rfl k₂ l₂
        refine F₂.st fun h₃ F₃ => ?_
        dsimp only
        refine wpAny_execs_nil (wpAny_execs_nil (wpAny_execs_nil ?_))
        exact .mk F₃ rfl rfl rfl t₂ x₂
      | @some x e tx de en =>
        obtain ⟨xt, xk, xn, rfl, _, _⟩ := id tx
        refine wpAny_execs_cons (wpAny_If (wpAny_isTrue_Compare1 (F.nm rfl (wpAny_Constant_none (is_none_ne nofun (wpAny_truthy_bool ?_))))))
        rw [if_neg (by decide)]
        refine wpAny_execs_cons (wpAny_Assign_Name (Call_ (nmG (X0.keeps F.keep) (by k_is) (callWith_F (args_cons (Subscript_ (F.nm rfl (wpAny_Constant_str (getW hd (k0.trans F.keep) T.v6 (args_cons (F.nm rfl (args_nil ⟨FnAt.of (X0.keeps F.keep) (by k_is), ?_⟩))))))))))))
        refine repl_spec T Rr X tx de en ((hr.deep _).le (by decide)) (k0.trans F.keep) n5 F.l4.h (by lia) (fun h₂ tk₂ told hs₂ k₂ l₂ t₂ x₂ => ?_)
        have F₂ : Lg h0 s.heap.objs.size h₂ _ (led4 R G M H (x0 :: xr') yg cs hs₂ ++ frL fr) := F.butL 3 rfl k₂ l₂
        refine F₂.st fun h₃ F₃ => ?_
        dsimp only
        refine wpAny_execs_nil (wpAny_execs_nil (wpAny_execs_nil ?_))
        exact .mk F₃ rfl rfl rfl t₂ (x₂.perm (List.perm_append_singleton e xr').symm)
    case rest =>
      rintro fl s' ⟨F₂, m1, m2, m3, ht, x₂⟩
      rename_i h₂ tk₂ m₂ told hs₂
      dsimp only
      obtain ⟨tt, tk, tn, rfl, et, _⟩ := id ht
      have hia : ItemAt hb rc item it := by
        cases hit with
        | none => exact .none
        | some tx de en =>
          obtain ⟨xt, xk, xn, rfl, ex, _⟩ := id tx
          exact .some ex (T.dr _ de)
      have zl : (ya ++ x0 :: yb).length < 50 := by rw [← ey, Rr.pg.length_eq]; lia
      have zm : (za ++ x0 :: zb).length < 50 := by rw [← ez]; lia
      have zx : xr'.length < 50 := by have := Rr.pr.length_eq; simp only [List.length_cons] at this; lia
      refine wpAny_execs_cons (wpAny_Return_some (Call_ (nmG (X0.keeps F₂.keep) (by k_is) (callWith_F (args_cons (F₂.nm m1 (args_cons (F₂.nm m2 (args_cons (F₂.nm m3 (args_nil ⟨FnAt.of (X0.keeps F₂.keep) (by k_is), ?_⟩)))))))))))
      refine out_spec (rc := rc) (x0 := x0) (xs := xr') (ya := ya) (yb := yb) (za := za) (zb := zb) T.wk n1 n2 n3 (T.dr x0 d0) (fun v hv => T.dr v (dx v hv)) (fun v hv => ⟨T.dr v (hya v hv).1, (hya v hv).2⟩) (fun v hv => T.dr v (dy v hv)) (fun v hv => ⟨T.dr v (hza v hv).1, (hza v hv).2⟩) et hia ((hr.deep _).le (by decide)) (k0.trans F₂.keep) F₂.l4.r (ey ▸ F₂.l4.g) (ez ▸ F₂.l4.m) zx zl zm (fun h₃ tk₃ k₃ a1 a2 a3 => ?_)
      have hH : H ∉ [R, G, M] := fun q => by
        have := (List.nodup_append.mp nd).1
        simp only [List.nodup_cons, List.mem_cons, List.not_mem_nil, or_false, not_or] at this q
        rcases q with q | q | q
        · exact this.1.2.2 q.symm
        · exact this.2.1.2 q.symm
        · exact this.2.2.1 q.symm
      have kk : KpB ([R, G, M, H] ++ fr.map (·.1)) s.heap h₃ := (fin F₂.keep).trans (k₃.mono (fun a ha => List.mem_append_left _ (by simp only [List.mem_cons, List.not_mem_nil, or_false] at ha ⊢; rcases ha with q | q | q <;> simp [q])))
      have bl := off3 nd F₂.below k₃
      have pz : xr'.Perm (za ++ zb) := Rr'.pr
      cases hit with
      | none => exact k h₃ tk₃ _ _ _ hs₂ Rr' (x₂.perm pz) ⟨a1, a2, a3, F₂.l4.h.kpB k₃ hH⟩ kk bl
      | @some x e tx de en => exact k h₃ tk₃ _ _ _ hs₂ (Rr'.lay T.wk.ok de en) (x₂.perm (pz.append_right _)) ⟨a1, a2, a3, F₂.l4.h.kpB k₃ hH⟩ kk bl
theorem allX (x : T) : pX x := eps (P := pX) pfX0
end N_taken_spec
theorem taken_spec {w : World} {A : Around} {E : Value → Shared → Prop} {s : Shared} {Q : Value → Shared → Prop} {hb : Heap} {W rl R G M H C f : Addr} {kvs : List (Str × Value)} {rs : List (Nat × Int)} {rc : Value → Rc} {D : Value → Prop} {N : Int} {outer : List Env} {fr : List (Addr × Obj)} : N_taken_spec.stX0 w A E s Q hb W rl R G M H C f kvs rs rc D N outer fr := (N_taken_spec.allX (w, A, E, s, Q, hb, W, rl, R, G, M, H, C, f, kvs, rs, rc, D, N, outer, fr))
section
variable {w : World} {A : Around} {E : Value → Shared → Prop} {s s' : Shared} {Q : Value → Shared → Prop} {hb h₀ h h' : Heap} {L W rl R G M H C f : Addr} {m : Str → Option Value} {kvs : List (Str × Value)} {rs : List (Nat × Int)} {rc : Value → Rc} {D : Value → Prop} {cs xr yg hs xs ys zs : List Value} {N N' : Int} {item : Value} {it : Option Value} {outer : List Env} {fr : List (Addr × Obj)} {ls : Led}
end
end Mine
namespace Mine
section
variable {w : World} {A : Around} {E : Value → Shared → Prop} {s : Shared} {Q : Value → Shared → Prop} {l b : Addr} {xs ys : List Value} {hB hb h h' : Heap} {L : Addr} {m : Str → Option Value} {ls ls₀ : Led} {fr : List (Addr × Obj)}
theorem copyL (hl : PL s.heap l xs) (hz : xs.length < 2 ^ 20) (h : ∀ r h', Kp s.heap h' → s.heap.get? r = none → PL h' r xs → Q (.ref r) { s with heap := h' }) : wpAny (MM w) A (call (.type "list") [.ref l]) Q E s := by
  obtain ⟨n, e⟩ := hl
  exact call_list_seq l (.inl rfl) e rfl rfl (fun h' c' k g => h _ h' k (newNone _) ⟨c', g⟩) (by rw [sizeLine_eq, List.size_toArray]; lia)
theorem addL (hl : PL s.heap l xs) (hb : PL s.heap b ys) (hz : xs.length + ys.length < 2 ^ 20) (h : ∀ r h', Kp s.heap h' → s.heap.get? r = none → PL h' r (xs ++ ys) → Q (.ref r) { s with heap := h' }) : wpAny (MM w) A (binaryOp .Add (.ref l) (.ref b)) Q E s := by
  obtain ⟨n, e⟩ := hl
  obtain ⟨n', e'⟩ := hb
  refine concat_meets ⟨_, e, rfl⟩ ⟨_, e', rfl⟩ noFill_list_add seq_list_add PySem.F.slot_list_add PySem.F.entry_list_add (PySem.F.args_list_add_2 _ _) (list_addW l b xs.toArray ys.toArray n n' none none #[] #[] (by rw [List.size_toArray, List.size_toArray, sizeLine_eq]; lia)) ⟨e, e', ?_⟩
  refine h _ _ (Kp.push _ _) (newNone _) ⟨0, ?_⟩
  rw [← List.append_toArray]
  exact Heap.get?_push_size _ rfl
theorem mulB {t : Tok} {k : Bool} (hl : PL s.heap l [.bool k]) (h : ∀ r h', Kp s.heap h' → s.heap.get? r = none → PL h' r (List.replicate 6 (.bool k)) → Q (.ref r) { s with heap := h' }) : wpAny (MM w) A (binaryOp .Mult (.ref l) (.int 6 t)) Q E s := by
  obtain ⟨n, e⟩ := hl
  refine wpAny_binaryOp_repeat_ref (T := "list") (U := "int") (by decide) ⟨_, e, rfl⟩ (fun s' => typeIs_int s' 6 t) noFill_list_mul PySem.F.fills_int_mul PySem.F.slot_int_rmul repeat_list PySem.F.slot_int_index.lookup
    (call_meets PySem.F.slot_int_rmul (typeIs_int s 6 t) PySem.F.entry_int_rmul (PySem.F.args_int_rmul_2 _ _) (int___rmul___int_list 6 t l #[.bool k] n)
      ⟨e, rfl, ⟨_, e, rfl⟩, call_meets PySem.F.slot_list_mul ⟨_, e, rfl⟩ PySem.F.entry_list_mul (PySem.F.args_list_mul_2 _ _)
        (AutoListH.list___mul___list_int_3 l #[.bool k] n 6 t (by decide) (show ¬ 1 * Int.toNat 6 > (2 ^ 63 - 1) / 8 by decide) (show ¬ Builtin.List.listTooLong (1 * Int.toNat 6) = true by decide))
        ⟨e, h _ _ (Kp.push _ _) (newNone _) ⟨0, Heap.get?_push_size _ rfl⟩⟩⟩)
theorem typeB {k : Bool} (h : Q (.type "bool") s) : wpAny (MM w) A (call (.type "type") [.bool k]) Q E s := by
  obtain ⟨hh, g, d, t, os⟩ := s
  refine wpAny_call (codeAny_of_tree ?_)
  show wpAny _ _ (callAny (.type "type") ⟨[.bool k], []⟩) _ _ _
  simp only [callAny]
  refine wpAny_pure ⟨Code.quiet_builtin _ (by decide +kernel), codeAny_builtin entry_type_call ?_⟩
  unfold Builtin.«type.__call__»
  dsimp only
  unfold shownTypeOf
  repeat wp_step
  exact h
theorem isT_same {X : String} (h : Q (.bool true) s) : wpAny (MM w) A (compareOp .Is (.type X) (.type X)) Q E s := by
  have e : (Value.type X == Value.type X) = true := by simp
  exact wpAny_pure (a := Value.bool (Value.type X == Value.type X)) (by rw [e]; exact h)
theorem Lg.after {o : Obj} (F : Lg hB L h m (ls ++ (ls₀ ++ frL fr))) (ho : h.get? L = some o) (k : KpB ((ls₀ ++ frL ((L, o) :: fr)).map (·.1)) h h') (B : Below h' ((L, o) :: fr)) : Lg hB L h' m (ls ++ frL fr) := by
  have hin : ∀ a, a ∈ (ls₀ ++ frL ((L, o) :: fr)).map (·.1) → a = L ∨ a ∈ (ls₀ ++ frL fr).map (·.1) := fun a ha => by
    simp only [List.map_append, frL_map, List.map_cons, List.mem_append, List.mem_cons] at ha ⊢
    rcases ha with q | q | q
    · exact .inr (.inl q)
    · exact .inl q
    · exact .inr (.inr q)
  have nd := F.nd
  rw [List.map_append, List.nodup_append] at nd
  have sub : ∀ p ∈ ls ++ frL fr, p ∈ ls ++ (ls₀ ++ frL fr) := fun p hp => by
    rcases List.mem_append.mp hp with q | q
    · exact List.mem_append_left _ q
    · exact List.mem_append_right _ (List.mem_append_right _ q)
  refine ⟨?_, fun b ob e => k b ob (fun q => ?_) (F.keep b ob e), F.nL, fun p hp => ?_, fun p hp => F.off p (sub p hp), ?_⟩
  · obtain ⟨o1, es, ep, e1, d1, r1⟩ := F.ns
    rw [ho] at e1
    cases e1
    obtain ⟨o2, e2, sl, rfl⟩ := B (L, o) (.head _)
    exact ⟨_, es, ep, e2, d1, r1⟩
  · rcases hin b q with q | q
    · rw [q, F.nL] at e; cases e
    · obtain ⟨p, hp, rfl⟩ := List.mem_map.mp q
      rw [(F.off p (List.mem_append_right _ hp)).2] at e; cases e
  · rcases List.mem_append.mp hp with q | q
    · obtain ⟨o1, e1, p1⟩ := F.at_ p (List.mem_append_left _ q)
      refine ⟨o1, k _ _ (fun z => ?_) e1, p1⟩
      rcases hin _ z with z | z
      · exact (F.off p (List.mem_append_left _ q)).1 z
      · exact nd.2.2 _ (List.mem_map_of_mem q) _ z rfl
    · obtain ⟨x, hx, rfl⟩ := List.mem_map.mp q
      exact B x (.tail _ hx)
  · have s1 : (ls ++ frL fr).Sublist (ls ++ (ls₀ ++ frL fr)) := (List.Sublist.refl ls).append (List.sublist_append_right _ _)
    exact (s1.map _).nodup F.nd
theorem Lg.thaw {a : Addr} {P : Obj → Prop} {o : Obj} (F : Lg hB L h m ls) (ho : hB.get? a = some o) (hP : P o) : Lg (hideAll hB [a]) L h m ((a, P) :: ls) := by
  have F' := F.weak (hide_kp [a] hB)
  refine F'.new (hideAll_none _ (.head _)) (F.keep _ _ ho) hP (fun q => by rw [q, F.nL] at ho; cases ho) (fun p hp q => by rw [← q, (F.off p hp).2] at ho; cases ho)
variable {C f a : Addr} {u v : Value} {D : Value → Prop} {c : Value → Value → Int}
end
namespace N_signs_spec
noncomputable def stX0 (w : World) (A : Around) (E : Value → Shared → Prop) (s : Shared) (Q : Value → Shared → Prop) (hb : Heap) (C f : Addr) (u v : Value) (D : Value → Prop) (c : Value → Value → Int) (a b : Addr) : Prop := ∀ (W : KW w hb C f D c) (hr : Rm A 8) (kb : Kp hb s.heap) (ha : KeyAt s.heap C a u) (hb' : KeyAt s.heap C b v) (du : D u) (dv : D v) (k : ∀ r h' tk, Kp s.heap h' → s.heap.get? r = none → PL h' r [.bool (decide (c u v < 0)), .bool (decide (c u v ≤ 0)), .bool (c u v == 0), .bool (!(c u v == 0)), .bool (decide (0 ≤ c u v)), .bool (decide (0 < c u v))] → Q (.ref r) { s with heap := h', toks := tk }), wpAny (MM w) A (call (.ref 166) [.ref a, .ref b]) Q E s
noncomputable abbrev T := World × Around × (Value → Shared → Prop) × Shared × (Value → Shared → Prop) × Heap × Addr × Addr × Value × Value × (Value → Prop) × (Value → Value → Int) × Addr × Addr
noncomputable def pX (x : T) : Prop := stX0 x.1 x.2.1 x.2.2.1 x.2.2.2.1 x.2.2.2.2.1 x.2.2.2.2.2.1 x.2.2.2.2.2.2.1 x.2.2.2.2.2.2.2.1 x.2.2.2.2.2.2.2.2.1 x.2.2.2.2.2.2.2.2.2.1 x.2.2.2.2.2.2.2.2.2.2.1 x.2.2.2.2.2.2.2.2.2.2.2.1 x.2.2.2.2.2.2.2.2.2.2.2.2.1 x.2.2.2.2.2.2.2.2.2.2.2.2.2
noncomputable def cX : T := @Classical.epsilon _ (ne2 neW (ne2 neA (ne2 neI (ne2 neS (ne2 neI (ne2 neI (ne2 neI (ne2 neI (ne2 neI (ne2 neI (ne2 neI (ne2 neI (ne2 neI neI))))))))))))) fun x => ¬ pX x
def w : World := cX.1
def A : Around := cX.2.1
def E : Value → Shared → Prop := cX.2.2.1
def s : Shared := cX.2.2.2.1
def Q : Value → Shared → Prop := cX.2.2.2.2.1
def hb : Heap := cX.2.2.2.2.2.1
def C : Addr := cX.2.2.2.2.2.2.1
def f : Addr := cX.2.2.2.2.2.2.2.1
def u : Value := cX.2.2.2.2.2.2.2.2.1
def v : Value := cX.2.2.2.2.2.2.2.2.2.1
def D : Value → Prop := cX.2.2.2.2.2.2.2.2.2.2.1
def c : Value → Value → Int := cX.2.2.2.2.2.2.2.2.2.2.2.1
def a : Addr := cX.2.2.2.2.2.2.2.2.2.2.2.2.1
def b : Addr := cX.2.2.2.2.2.2.2.2.2.2.2.2.2
theorem pfX0 : stX0 w A E s Q hb C f u v D c a b := by
  intro W hr kb ha hb' du dv k
  refine callT (W.x.keeps kb) (by k_is) (by k_is) hr (BindsTo.of_eq rfl) (locs rfl) (fun h₁ F₁ => ?_)
  have F := Lg.start0 F₁ (newNone _)
  refine wpAny_execs_cons (wpAny_Return_some (listD (args_cons (wpAny_Compare1 (F.nm rfl (F.nm rfl (W.lt ((hr.deep _).le (by decide)) (kb.trans F.keep) (ha.kp F.keep) (hb'.kp F.keep) du dv (fun h₂ tk₂ k₂ => ?_))))))))
  have F₂ := F.kp k₂
  refine args_cons (wpAny_Compare1 (F₂.nm rfl (F₂.nm rfl (W.le ((hr.deep _).le (by decide)) (kb.trans F₂.keep) (ha.kp F₂.keep) (hb'.kp F₂.keep) du dv (fun h₃ tk₃ k₃ => ?_)))))
  have F₃ := F₂.kp k₃
  refine args_cons (wpAny_Compare1 (F₃.nm rfl (F₃.nm rfl (W.eq ((hr.deep _).le (by decide)) (kb.trans F₃.keep) (ha.kp F₃.keep) (hb'.kp F₃.keep) du dv (fun h₄ tk₄ k₄ => ?_)))))
  have F₄ := F₃.kp k₄
  refine args_cons (wpAny_Compare1 (F₄.nm rfl (F₄.nm rfl (W.ne ((hr.deep _).le (by decide)) (kb.trans F₄.keep) (ha.kp F₄.keep) (hb'.kp F₄.keep) du dv (fun h₅ tk₅ k₅ => ?_)))))
  have F₅ := F₄.kp k₅
  refine args_cons (wpAny_Compare1 (F₅.nm rfl (F₅.nm rfl (W.ge ((hr.deep _).le (by decide)) (kb.trans F₅.keep) (ha.kp F₅.keep) (hb'.kp F₅.keep) du dv (fun h₆ tk₆ k₆ => ?_)))))
  have F₆ := F₅.kp k₆
  refine args_cons (wpAny_Compare1 (F₆.nm rfl (F₆.nm rfl (W.gt ((hr.deep _).le (by decide)) (kb.trans F₆.keep) (ha.kp F₆.keep) (hb'.kp F₆.keep) du dv (fun h₇ tk₇ k₇ => ?_)))))
  have F₇ := F₆.kp k₇
  refine args_nil ⟨szL, fun r h₈ k₈ n₈ r₈ => ?_⟩
  exact k r h₈ _ (F₇.keep.trans k₈) (none_base F₇.keep n₈) ⟨0, r₈⟩
theorem allX (x : T) : pX x := eps (P := pX) pfX0
end N_signs_spec
theorem signs_spec {w : World} {A : Around} {E : Value → Shared → Prop} {s : Shared} {Q : Value → Shared → Prop} {hb : Heap} {C f : Addr} {u v : Value} {D : Value → Prop} {c : Value → Value → Int} {a b : Addr} : N_signs_spec.stX0 w A E s Q hb C f u v D c a b := (N_signs_spec.allX (w, A, E, s, Q, hb, C, f, u, v, D, c, a, b))
section
variable {w : World} {A : Around} {E : Value → Shared → Prop} {s : Shared} {Q : Value → Shared → Prop} {l b : Addr} {xs ys : List Value} {hB hb h h' : Heap} {L : Addr} {m : Str → Option Value} {ls ls₀ : Led} {fr : List (Addr × Obj)}
variable {C f a : Addr} {u v : Value} {D : Value → Prop} {c : Value → Value → Int}
end
end Mine
namespace Mine
structure EvA (dir : Bool) (env : Env) (L : Addr) : Prop where
  l : env.locals = L
  k : env.scope.kind = .function
  g : env.globals = mainGlobals
  b : env.builtins = builtinsNs
  f : env.frame = some L
  e1 : env.kindOf "world" = some .local
  e2 : env.kindOf "wish" = some .local
  e3 : env.kindOf "key" = some .local
  e4 : env.kindOf "many" = some .local
  e5 : env.kindOf "came" = some .local
  li : env.kindOf "list" = some .globalImplicit
  it : env.kindOf "iter" = some .globalImplicit
  fn : env.kindOf (cond dir "nsmallest" "nlargest") = some .globalImplicit
structure Same (m m' : Str → Option Value) : Prop where
  a : m' (Str.ofString "world") = m (Str.ofString "world")
  b : m' (Str.ofString "wish") = m (Str.ofString "wish")
  c : m' (Str.ofString "key") = m (Str.ofString "key")
  d : m' (Str.ofString "many") = m (Str.ofString "many")
  e : m' (Str.ofString "record") = m (Str.ofString "record")
section
variable {dir : Bool} {w : World} {A : Around} {E : Value → Shared → Prop} {s : Shared} {hb hB h : Heap} {L W rl R G M H C f : Addr} {m : Str → Option Value} {kvs : List (Str × Value)} {rs : List (Nat × Int)} {rc : Value → Rc} {D : Value → Prop} {cs xr yg : List Value} {N n : Int} {tn tm : Tok} {outer : List Env} {fr : List (Addr × Obj)} {env : Env} {ls₀ : Led} {src : Value} {l : Addr} {c : Value → Value → Int} {num : Value → Int} {vs : List Value}
theorem nsl {Q : Value → Shared → Prop} (W : KW w hb C f D c) (K : COk c) (hr : Rm A 30) (kb : Kp hb s.heap) (hl : PL hb l vs) (S : Src s.heap l src ls₀) (hn : vs.Pairwise fun u v => num u < num v) (hD : ∀ v ∈ vs, D v) (hV : ∀ v ∈ vs, ∃ a o, v = .ref a ∧ hb.get? a = some o ∧ o.cls = .type "list") (h60 : vs.length < 60) (n1 : -5 ≤ n) (n2 : n < 70)
    (Fs : Frs outer fr) (hfr : A.frames = some outer) (hB : Below s.heap fr) (nd : ((ls₀ ++ frL fr).map (·.1)).Nodup) (hbn : ∀ p ∈ ls₀ ++ frL fr, hb.get? p.1 = none)
    (k : ∀ r out h' tk, PL h' r out → Firsts (cD dir c) num vs n out → KpB ((ls₀ ++ frL fr).map (·.1)) s.heap h' → Below h' fr → Q (.ref r) { s with heap := h', toks := tk }) :
    wpAny (MM w) A (call (.ref (cond dir 104 110)) [.int n tn, src] [(Str.ofString "key", .ref C)]) Q E s := by
  cases dir
  · exact nl_spec W K hr kb hl S hn hD hV h60 n1 n2 Fs hfr hB nd hbn k
  · exact ns_spec W K hr kb hl S hn hD hV h60 n1 n2 Fs hfr hB nd hbn k
theorem nmNs {p1 : Pos} {Q : Value → Shared → Prop} (V : EvA dir env L) (X : KIn w s.heap) (h : Q (.ref (cond dir 104 110)) s) : wpAny (MM w) A (eval (.Name (cond dir "nsmallest" "nlargest") p1) env) Q E s := by
  cases dir
  · exact nmG X (by k_is) h V.g V.k V.fn
  · exact nmG X (by k_is) h V.g V.k V.fn
theorem fnNs (X : KIn w hb) : FnAt hb (cond dir 104 110) := by
  cases dir
  · exact FnAt.of X (by k_is)
  · exact FnAt.of X (by k_is)
theorem Lg.ob (F : Lg hB L h m ls₀) : ∃ o, h.get? L = some o := by obtain ⟨o, _, _, e, _⟩ := F.ns; exact ⟨o, e⟩
inductive AskI (s : Shared) (hB hB' : Heap) (L I t : Addr) (m : Str → Option Value) (fr : List (Addr × Obj)) (n : Nat) : Shared → Prop
  | go {h : Heap} {tk : Nat} {m' : Str → Option Value} (b : Bool) (F : Lg hB L h m' ((I, isTI t b.toNat) :: frL fr)) (sm : Same m m') (hn : n + b.toNat = 2) : AskI s hB hB' L I t m fr n { s with heap := h, toks := tk }
  | fin {h : Heap} {tk : Nat} {m' : Str → Option Value} (F : Lg hB' L h m' ((I, isTI t 2) :: frL fr)) (sm : Same m m') (hn : n = 0) : AskI s hB hB' L I t m fr n { s with heap := h, toks := tk }
variable {p1 p2 p3 p4 p5 p6 p7 p8 p9 q1 q2 q3 q4 q5 q6 q7 q8 q9 r1 r2 r3 r4 r5 r6 r7 r8 r9 : Pos} {k1 k2 k3 k4 k5 k6 : Nat} {z1 z2 z3 z4 z5 z6 z7 z8 z9 : Pos}
end
namespace N_askLoop
noncomputable def stX0 (w : World) (A : Around) (E : Value → Shared → Prop) (hb : Heap) (L W rl R G M H C f : Addr) (m : Str → Option Value) (kvs : List (Str × Value)) (rs : List (Nat × Int)) (rc : Value → Rc) (D : Value → Prop) (cs xr yg : List Value) (N n : Int) (tn tm : Tok) (outer : List Env) (fr : List (Addr × Obj)) (env : Env) (p1 p2 p3 p4 p5 p6 p7 p8 p9 q1 q2 q3 q4 q5 q6 q7 q8 q9 r1 r2 r3 r4 r5 r6 r7 r8 r9 : Pos) (k1 k2 k3 k4 k5 : Nat) (z1 z2 : Pos) (Q : Flow → Shared → Prop) : Prop := ∀ {dir : Bool} {s : Shared} (V : EvA dir env L) (T : Wd w hb W rl R G M H C f kvs rs rc D) (Rr : Rw D rs rc N cs xr yg) (hN : N < 45) (hM : PL hb M cs) (hR : PL hb (cond dir R G) (cond dir xr yg)) (hr : Rm A 31) (hfr : A.frames = some (env :: outer)) (Fs : Frs outer fr) (F : Lg hb L s.heap m (frL fr)) (m1 : m (Str.ofString "world") = some (.ref W)) (m2 : m (Str.ofString "wish") = some (.int n tn)) (m3 : m (Str.ofString "key") = some (.ref C)) (m4 : m (Str.ofString "many") = some (.int (max n 0) tm)) (n1 : -5 ≤ n) (n2 : n < 70) (k : ∀ h' tk m', Lg hb L h' m' (frL fr) → Same m m' → Q .next { s with heap := h', toks := tk }), wpAny (MM w) A (exec (.For (.Name "came" p1) (.Tuple [.Call (.Name "list" p2) [.Subscript (.Name "world" p3) (.Constant (.str "came") k1 p4) p5] [] p6, .Call (.Name "iter" p7) [.Subscript (.Name "world" p8) (.Constant (.str "came") k2 p9) q1] [] q2] k3 q3)
      [.If (.Compare (.Call (.Name (cond dir "nsmallest" "nlargest") q4) [.Name "wish" q5, .Name "came" q6] [⟨some "key", .Name "key" q7, q8⟩] q9) [.NotEq] [.Subscript (.Subscript (.Name "world" r1) (.Constant (.str (cond dir "rising" "falling")) k4 r2) r3) (.Slice none (some (.Name "many" r4)) none r5) r6] r7) [.Return (some (.Constant (.bool false) k5 r8)) r9] [] z1] [] z2) env) Q E s
noncomputable abbrev T := World × Around × (Value → Shared → Prop) × Heap × Addr × Addr × Addr × Addr × Addr × Addr × Addr × Addr × Addr × (Str → Option Value) × (List (Str × Value)) × (List (Nat × Int)) × (Value → Rc) × (Value → Prop) × (List Value) × (List Value) × (List Value) × Int × Int × Tok × Tok × (List Env) × (List (Addr × Obj)) × Env × Pos × Pos × Pos × Pos × Pos × Pos × Pos × Pos × Pos × Pos × Pos × Pos × Pos × Pos × Pos × Pos × Pos × Pos × Pos × Pos × Pos × Pos × Pos × Pos × Pos × Pos × Pos × Nat × Nat × Nat × Nat × Nat × Pos × Pos × (Flow → Shared → Prop)
noncomputable def pX (x : T) : Prop := stX0 x.1 x.2.1 x.2.2.1 x.2.2.2.1 x.2.2.2.2.1 x.2.2.2.2.2.1 x.2.2.2.2.2.2.1 x.2.2.2.2.2.2.2.1 x.2.2.2.2.2.2.2.2.1 x.2.2.2.2.2.2.2.2.2.1 x.2.2.2.2.2.2.2.2.2.2.1 x.2.2.2.2.2.2.2.2.2.2.2.1 x.2.2.2.2.2.2.2.2.2.2.2.2.1 x.2.2.2.2.2.2.2.2.2.2.2.2.2.1 x.2.2.2.2.2.2.2.2.2.2.2.2.2.2.1 x.2.2.2.2.2.2.2.2.2.2.2.2.2.2.2.1 x.2.2.2.2.2.2.2.2.2.2.2.2.2.2.2.2.1 x.2.2.2.2.2.2.2.2.2.2.2.2.2.2.2.2.2.1 x.2.2.2.2.2.2.2.2.2.2.2.2.2.2.2.2.2.2.1 x.2.2.2.2.2.2.2.2.2.2.2.2.2.2.2.2.2.2.2.1 x.2.2.2.2.2.2.2.2.2.2.2.2.2.2.2.2.2.2.2.2.1 x.2.2.2.2.2.2.2.2.2.2.2.2.2.2.2.2.2.2.2.2.2.1 x.2.2.2.2.2.2.2.2.2.2.2.2.2.2.2.2.2.2.2.2.2.2.1 x.2.2.2.2.2.2.2.2.2.2.2.2.2.2.2.2.2.2.2.2.2.2.2.1 x.2.2.2.2.2.2.2.2.2.2.2.2.2.2.2.2.2.2.2.2.2.2.2.2.1 x.2.2.2.2.2.2.2.2.2.2.2.2.2.2.2.2.2.2.2.2.2.2.2.2.2.1 x.2.2.2.2.2.2.2.2.2.2.2.2.2.2.2.2.2.2.2.2.2.2.2.2.2.2.1 x.2.2.2.2.2.2.2.2.2.2.2.2.2.2.2.2.2.2.2.2.2.2.2.2.2.2.2.1 x.2.2.2.2.2.2.2.2.2.2.2.2.2.2.2.2.2.2.2.2.2.2.2.2.2.2.2.2.1 x.2.2.2.2.2.2.2.2.2.2.2.2.2.2.2.2.2.2.2.2.2.2.2.2.2.2.2.2.2.1 x.2.2.2.2.2.2.2.2.2.2.2.2.2.2.2.2.2.2.2.2.2.2.2.2.2.2.2.2.2.2.1 x.2.2.2.2.2.2.2.2.2.2.2.2.2.2.2.2.2.2.2.2.2.2.2.2.2.2.2.2.2.2.2.1 x.2.2.2.2.2.2.2.2.2.2.2.2.2.2.2.2.2.2.2.2.2.2.2.2.2.2.2.2.2.2.2.2.1 x.2.2.2.2.2.2.2.2.2.2.2.2.2.2.2.2.2.2.2.2.2.2.2.2.2.2.2.2.2.2.2.2.2.1 x.2.2.2.2.2.2.2.2.2.2.2.2.2.2.2.2.2.2.2.2.2.2.2.2.2.2.2.2.2.2.2.2.2.2.1 x.2.2.2.2.2.2.2.2.2.2.2.2.2.2.2.2.2.2.2.2.2.2.2.2.2.2.2.2.2.2.2.2.2.2.2.1 x.2.2.2.2.2.2.2.2.2.2.2.2.2.2.2.2.2.2.2.2.2.2.2.2.2.2.2.2.2.2.2.2.2.2.2.2.1 x.2.2.2.2.2.2.2.2.2.2.2.2.2.2.2.2.2.2.2.2.2.2.2.2.2.2.2.2.2.2.2.2.2.2.2.2.2.1 x.2.2.2.2.2.2.2.2.2.2.2.2.2.2.2.2.2.2.2.2.2.2.2.2.2.2.2.2.2.2.2.2.2.2.2.2.2.2.1 x.2.2.2.2.2.2.2.2.2.2.2.2.2.2.2.2.2.2.2.2.2.2.2.2.2.2.2.2.2.2.2.2.2.2.2.2.2.2.2.1 x.2.2.2.2.2.2.2.2.2.2.2.2.2.2.2.2.2.2.2.2.2.2.2.2.2.2.2.2.2.2.2.2.2.2.2.2.2.2.2.2.1 x.2.2.2.2.2.2.2.2.2.2.2.2.2.2.2.2.2.2.2.2.2.2.2.2.2.2.2.2.2.2.2.2.2.2.2.2.2.2.2.2.2.1 x.2.2.2.2.2.2.2.2.2.2.2.2.2.2.2.2.2.2.2.2.2.2.2.2.2.2.2.2.2.2.2.2.2.2.2.2.2.2.2.2.2.2.1 x.2.2.2.2.2.2.2.2.2.2.2.2.2.2.2.2.2.2.2.2.2.2.2.2.2.2.2.2.2.2.2.2.2.2.2.2.2.2.2.2.2.2.2.1 x.2.2.2.2.2.2.2.2.2.2.2.2.2.2.2.2.2.2.2.2.2.2.2.2.2.2.2.2.2.2.2.2.2.2.2.2.2.2.2.2.2.2.2.2.1 x.2.2.2.2.2.2.2.2.2.2.2.2.2.2.2.2.2.2.2.2.2.2.2.2.2.2.2.2.2.2.2.2.2.2.2.2.2.2.2.2.2.2.2.2.2.1 x.2.2.2.2.2.2.2.2.2.2.2.2.2.2.2.2.2.2.2.2.2.2.2.2.2.2.2.2.2.2.2.2.2.2.2.2.2.2.2.2.2.2.2.2.2.2.1 x.2.2.2.2.2.2.2.2.2.2.2.2.2.2.2.2.2.2.2.2.2.2.2.2.2.2.2.2.2.2.2.2.2.2.2.2.2.2.2.2.2.2.2.2.2.2.2.1 x.2.2.2.2.2.2.2.2.2.2.2.2.2.2.2.2.2.2.2.2.2.2.2.2.2.2.2.2.2.2.2.2.2.2.2.2.2.2.2.2.2.2.2.2.2.2.2.2.1 x.2.2.2.2.2.2.2.2.2.2.2.2.2.2.2.2.2.2.2.2.2.2.2.2.2.2.2.2.2.2.2.2.2.2.2.2.2.2.2.2.2.2.2.2.2.2.2.2.2.1 x.2.2.2.2.2.2.2.2.2.2.2.2.2.2.2.2.2.2.2.2.2.2.2.2.2.2.2.2.2.2.2.2.2.2.2.2.2.2.2.2.2.2.2.2.2.2.2.2.2.2.1 x.2.2.2.2.2.2.2.2.2.2.2.2.2.2.2.2.2.2.2.2.2.2.2.2.2.2.2.2.2.2.2.2.2.2.2.2.2.2.2.2.2.2.2.2.2.2.2.2.2.2.2.1 x.2.2.2.2.2.2.2.2.2.2.2.2.2.2.2.2.2.2.2.2.2.2.2.2.2.2.2.2.2.2.2.2.2.2.2.2.2.2.2.2.2.2.2.2.2.2.2.2.2.2.2.2.1 x.2.2.2.2.2.2.2.2.2.2.2.2.2.2.2.2.2.2.2.2.2.2.2.2.2.2.2.2.2.2.2.2.2.2.2.2.2.2.2.2.2.2.2.2.2.2.2.2.2.2.2.2.2.1 x.2.2.2.2.2.2.2.2.2.2.2.2.2.2.2.2.2.2.2.2.2.2.2.2.2.2.2.2.2.2.2.2.2.2.2.2.2.2.2.2.2.2.2.2.2.2.2.2.2.2.2.2.2.2.1 x.2.2.2.2.2.2.2.2.2.2.2.2.2.2.2.2.2.2.2.2.2.2.2.2.2.2.2.2.2.2.2.2.2.2.2.2.2.2.2.2.2.2.2.2.2.2.2.2.2.2.2.2.2.2.2.1 x.2.2.2.2.2.2.2.2.2.2.2.2.2.2.2.2.2.2.2.2.2.2.2.2.2.2.2.2.2.2.2.2.2.2.2.2.2.2.2.2.2.2.2.2.2.2.2.2.2.2.2.2.2.2.2.2.1 x.2.2.2.2.2.2.2.2.2.2.2.2.2.2.2.2.2.2.2.2.2.2.2.2.2.2.2.2.2.2.2.2.2.2.2.2.2.2.2.2.2.2.2.2.2.2.2.2.2.2.2.2.2.2.2.2.2.1 x.2.2.2.2.2.2.2.2.2.2.2.2.2.2.2.2.2.2.2.2.2.2.2.2.2.2.2.2.2.2.2.2.2.2.2.2.2.2.2.2.2.2.2.2.2.2.2.2.2.2.2.2.2.2.2.2.2.2.1 x.2.2.2.2.2.2.2.2.2.2.2.2.2.2.2.2.2.2.2.2.2.2.2.2.2.2.2.2.2.2.2.2.2.2.2.2.2.2.2.2.2.2.2.2.2.2.2.2.2.2.2.2.2.2.2.2.2.2.2.1 x.2.2.2.2.2.2.2.2.2.2.2.2.2.2.2.2.2.2.2.2.2.2.2.2.2.2.2.2.2.2.2.2.2.2.2.2.2.2.2.2.2.2.2.2.2.2.2.2.2.2.2.2.2.2.2.2.2.2.2.2.1 x.2.2.2.2.2.2.2.2.2.2.2.2.2.2.2.2.2.2.2.2.2.2.2.2.2.2.2.2.2.2.2.2.2.2.2.2.2.2.2.2.2.2.2.2.2.2.2.2.2.2.2.2.2.2.2.2.2.2.2.2.2.1 x.2.2.2.2.2.2.2.2.2.2.2.2.2.2.2.2.2.2.2.2.2.2.2.2.2.2.2.2.2.2.2.2.2.2.2.2.2.2.2.2.2.2.2.2.2.2.2.2.2.2.2.2.2.2.2.2.2.2.2.2.2.2
noncomputable def cX : T := @Classical.epsilon _ (ne2 neW (ne2 neA (ne2 neI (ne2 neI (ne2 neI (ne2 neI (ne2 neI (ne2 neI (ne2 neI (ne2 neI (ne2 neI (ne2 neI (ne2 neI (ne2 neI (ne2 neI (ne2 neI (ne2 ⟨fun _ => ⟨0, 0, 0, 0⟩⟩ (ne2 neI (ne2 neI (ne2 neI (ne2 neI (ne2 neI (ne2 neI (ne2 neI (ne2 neI (ne2 neI (ne2 neI (ne2 neI (ne2 neI (ne2 neI (ne2 neI (ne2 neI (ne2 neI (ne2 neI (ne2 neI (ne2 neI (ne2 neI (ne2 neI (ne2 neI (ne2 neI (ne2 neI (ne2 neI (ne2 neI (ne2 neI (ne2 neI (ne2 neI (ne2 neI (ne2 neI (ne2 neI (ne2 neI (ne2 neI (ne2 neI (ne2 neI (ne2 neI (ne2 neI (ne2 neI (ne2 neI (ne2 neI (ne2 neI (ne2 neI (ne2 neI (ne2 neI neI)))))))))))))))))))))))))))))))))))))))))))))))))))))))))))))) fun x => ¬ pX x
def w : World := cX.1
def A : Around := cX.2.1
def E : Value → Shared → Prop := cX.2.2.1
def hb : Heap := cX.2.2.2.1
def L : Addr := cX.2.2.2.2.1
def W : Addr := cX.2.2.2.2.2.1
def rl : Addr := cX.2.2.2.2.2.2.1
def R : Addr := cX.2.2.2.2.2.2.2.1
def G : Addr := cX.2.2.2.2.2.2.2.2.1
def M : Addr := cX.2.2.2.2.2.2.2.2.2.1
def H : Addr := cX.2.2.2.2.2.2.2.2.2.2.1
def C : Addr := cX.2.2.2.2.2.2.2.2.2.2.2.1
def f : Addr := cX.2.2.2.2.2.2.2.2.2.2.2.2.1
def m : Str → Option Value := cX.2.2.2.2.2.2.2.2.2.2.2.2.2.1
def kvs : List (Str × Value) := cX.2.2.2.2.2.2.2.2.2.2.2.2.2.2.1
def rs : List (Nat × Int) := cX.2.2.2.2.2.2.2.2.2.2.2.2.2.2.2.1
def rc : Value → Rc := cX.2.2.2.2.2.2.2.2.2.2.2.2.2.2.2.2.1
def D : Value → Prop := cX.2.2.2.2.2.2.2.2.2.2.2.2.2.2.2.2.2.1
def cs : List Value := cX.2.2.2.2.2.2.2.2.2.2.2.2.2.2.2.2.2.2.1
def xr : List Value := cX.2.2.2.2.2.2.2.2.2.2.2.2.2.2.2.2.2.2.2.1
def yg : List Value := cX.2.2.2.2.2.2.2.2.2.2.2.2.2.2.2.2.2.2.2.2.1
def N : Int := cX.2.2.2.2.2.2.2.2.2.2.2.2.2.2.2.2.2.2.2.2.2.1
def n : Int := cX.2.2.2.2.2.2.2.2.2.2.2.2.2.2.2.2.2.2.2.2.2.2.1
def tn : Tok := cX.2.2.2.2.2.2.2.2.2.2.2.2.2.2.2.2.2.2.2.2.2.2.2.1
def tm : Tok := cX.2.2.2.2.2.2.2.2.2.2.2.2.2.2.2.2.2.2.2.2.2.2.2.2.1
def outer : List Env := cX.2.2.2.2.2.2.2.2.2.2.2.2.2.2.2.2.2.2.2.2.2.2.2.2.2.1
def fr : List (Addr × Obj) := cX.2.2.2.2.2.2.2.2.2.2.2.2.2.2.2.2.2.2.2.2.2.2.2.2.2.2.1
def env : Env := cX.2.2.2.2.2.2.2.2.2.2.2.2.2.2.2.2.2.2.2.2.2.2.2.2.2.2.2.1
def p1 : Pos := cX.2.2.2.2.2.2.2.2.2.2.2.2.2.2.2.2.2.2.2.2.2.2.2.2.2.2.2.2.1
def p2 : Pos := cX.2.2.2.2.2.2.2.2.2.2.2.2.2.2.2.2.2.2.2.2.2.2.2.2.2.2.2.2.2.1
def p3 : Pos := cX.2.2.2.2.2.2.2.2.2.2.2.2.2.2.2.2.2.2.2.2.2.2.2.2.2.2.2.2.2.2.1
def p4 : Pos := cX.2.2.2.2.2.2.2.2.2.2.2.2.2.2.2.2.2.2.2.2.2.2.2.2.2.2.2.2.2.2.2.1
def p5 : Pos := cX.2.2.2.2.2.2.2.2.2.2.2.2.2.2.2.2.2.2.2.2.2.2.2.2.2.2.2.2.2.2.2.2.1
def p6 : Pos := cX.2.2.2.2.2.2.2.2.2.2.2.2.2.2.2.2.2.2.2.2.2.2.2.2.2.2.2.2.2.2.2.2.2.1
def p7 : Pos := cX.2.2.2.2.2.2.2.2.2.2.2.2.2.2.2.2.2.2.2.2.2.2.2.2.2.2.2.2.2.2.2.2.2.2.1
def p8 : Pos := cX.2.2.2.2.2.2.2.2.2.2.2.2.2.2.2.2.2.2.2.2.2.2.2.2.2.2.2.2.2.2.2.2.2.2.2.1
def p9 : Pos := cX.2.2.2.2.2.2.2.2.2.2.2.2.2.2.2.2.2.2.2.2.2.2.2.2.2.2.2.2.2.2.2.2.2.2.2.2.1
def q1 : Pos := cX.2.2.2.2.2.2.2.2.2.2.2.2.2.2.2.2.2.2.2.2.2.2.2.2.2.2.2.2.2.2.2.2.2.2.2.2.2.1
def q2 : Pos := cX.2.2.2.2.2.2.2.2.2.2.2.2.2.2.2.2.2.2.2.2.2.2.2.2.2.2.2.2.2.2.2.2.2.2.2.2.2.2.1
def q3 : Pos := cX.2.2.2.2.2.2.2.2.2.2.2.2.2.2.2.2.2.2.2.2.2.2.2.2.2.2.2.2.2.2.2.2.2.2.2.2.2.2.2.1
def q4 : Pos := cX.2.2.2.2.2.2.2.2.2.2.2.2.2.2.2.2.2.2.2.2.2.2.2.2.2.2.2.2.2.2.2.2.2.2.2.2.2.2.2.2.1
def q5 : Pos := cX.2.2.2.2.2.2.2.2.2.2.2.2.2.2.2.2.2.2.2.2.2.2.2.2.2.2.2.2.2.2.2.2.2.2.2.2.2.2.2.2.2.1
def q6 : Pos := cX.2.2.2.2.2.2.2.2.2.2.2.2.2.2.2.2.2.2.2.2.2.2.2.2.2.2.2.2.2.2.2.2.2.2.2.2.2.2.2.2.2.2.1
def q7 : Pos := cX.2.2.2.2.2.2.2.2.2.2.2.2.2.2.2.2.2.2.2.2.2.2.2.2.2.2.2.2.2.2.2.2.2.2.2.2.2.2.2.2.2.2.2.1
def q8 : Pos := cX.2.2.2.2.2.2.2.2.2.2.2.2.2.2.2.2.2.2.2.2.2.2.2.2.2.2.2.2.2.2.2.2.2.2.2.2.2.2.2.2.2.2.2.2.1
def q9 : Pos := cX.2.2.2.2.2.2.2.2.2.2.2.2.2.2.2.2.2.2.2.2.2.2.2.2.2.2.2.2.2.2.2.2.2.2.2.2.2.2.2.2.2.2.2.2.2.1
def r1 : Pos := cX.2.2.2.2.2.2.2.2.2.2.2.2.2.2.2.2.2.2.2.2.2.2.2.2.2.2.2.2.2.2.2.2.2.2.2.2.2.2.2.2.2.2.2.2.2.2.1
def r2 : Pos := cX.2.2.2.2.2.2.2.2.2.2.2.2.2.2.2.2.2.2.2.2.2.2.2.2.2.2.2.2.2.2.2.2.2.2.2.2.2.2.2.2.2.2.2.2.2.2.2.1
def r3 : Pos := cX.2.2.2.2.2.2.2.2.2.2.2.2.2.2.2.2.2.2.2.2.2.2.2.2.2.2.2.2.2.2.2.2.2.2.2.2.2.2.2.2.2.2.2.2.2.2.2.2.1
def r4 : Pos := cX.2.2.2.2.2.2.2.2.2.2.2.2.2.2.2.2.2.2.2.2.2.2.2.2.2.2.2.2.2.2.2.2.2.2.2.2.2.2.2.2.2.2.2.2.2.2.2.2.2.1
def r5 : Pos := cX.2.2.2.2.2.2.2.2.2.2.2.2.2.2.2.2.2.2.2.2.2.2.2.2.2.2.2.2.2.2.2.2.2.2.2.2.2.2.2.2.2.2.2.2.2.2.2.2.2.2.1
def r6 : Pos := cX.2.2.2.2.2.2.2.2.2.2.2.2.2.2.2.2.2.2.2.2.2.2.2.2.2.2.2.2.2.2.2.2.2.2.2.2.2.2.2.2.2.2.2.2.2.2.2.2.2.2.2.1
def r7 : Pos := cX.2.2.2.2.2.2.2.2.2.2.2.2.2.2.2.2.2.2.2.2.2.2.2.2.2.2.2.2.2.2.2.2.2.2.2.2.2.2.2.2.2.2.2.2.2.2.2.2.2.2.2.2.1
def r8 : Pos := cX.2.2.2.2.2.2.2.2.2.2.2.2.2.2.2.2.2.2.2.2.2.2.2.2.2.2.2.2.2.2.2.2.2.2.2.2.2.2.2.2.2.2.2.2.2.2.2.2.2.2.2.2.2.1
def r9 : Pos := cX.2.2.2.2.2.2.2.2.2.2.2.2.2.2.2.2.2.2.2.2.2.2.2.2.2.2.2.2.2.2.2.2.2.2.2.2.2.2.2.2.2.2.2.2.2.2.2.2.2.2.2.2.2.2.1
def k1 : Nat := cX.2.2.2.2.2.2.2.2.2.2.2.2.2.2.2.2.2.2.2.2.2.2.2.2.2.2.2.2.2.2.2.2.2.2.2.2.2.2.2.2.2.2.2.2.2.2.2.2.2.2.2.2.2.2.2.1
def k2 : Nat := cX.2.2.2.2.2.2.2.2.2.2.2.2.2.2.2.2.2.2.2.2.2.2.2.2.2.2.2.2.2.2.2.2.2.2.2.2.2.2.2.2.2.2.2.2.2.2.2.2.2.2.2.2.2.2.2.2.1
def k3 : Nat := cX.2.2.2.2.2.2.2.2.2.2.2.2.2.2.2.2.2.2.2.2.2.2.2.2.2.2.2.2.2.2.2.2.2.2.2.2.2.2.2.2.2.2.2.2.2.2.2.2.2.2.2.2.2.2.2.2.2.1
def k4 : Nat := cX.2.2.2.2.2.2.2.2.2.2.2.2.2.2.2.2.2.2.2.2.2.2.2.2.2.2.2.2.2.2.2.2.2.2.2.2.2.2.2.2.2.2.2.2.2.2.2.2.2.2.2.2.2.2.2.2.2.2.1
def k5 : Nat := cX.2.2.2.2.2.2.2.2.2.2.2.2.2.2.2.2.2.2.2.2.2.2.2.2.2.2.2.2.2.2.2.2.2.2.2.2.2.2.2.2.2.2.2.2.2.2.2.2.2.2.2.2.2.2.2.2.2.2.2.1
def z1 : Pos := cX.2.2.2.2.2.2.2.2.2.2.2.2.2.2.2.2.2.2.2.2.2.2.2.2.2.2.2.2.2.2.2.2.2.2.2.2.2.2.2.2.2.2.2.2.2.2.2.2.2.2.2.2.2.2.2.2.2.2.2.2.1
def z2 : Pos := cX.2.2.2.2.2.2.2.2.2.2.2.2.2.2.2.2.2.2.2.2.2.2.2.2.2.2.2.2.2.2.2.2.2.2.2.2.2.2.2.2.2.2.2.2.2.2.2.2.2.2.2.2.2.2.2.2.2.2.2.2.2.1
def Q : Flow → Shared → Prop := cX.2.2.2.2.2.2.2.2.2.2.2.2.2.2.2.2.2.2.2.2.2.2.2.2.2.2.2.2.2.2.2.2.2.2.2.2.2.2.2.2.2.2.2.2.2.2.2.2.2.2.2.2.2.2.2.2.2.2.2.2.2.2
theorem pfX0 : stX0 w A E hb L W rl R G M H C f m kvs rs rc D cs xr yg N n tn tm outer fr env p1 p2 p3 p4 p5 p6 p7 p8 p9 q1 q2 q3 q4 q5 q6 q7 q8 q9 r1 r2 r3 r4 r5 r6 r7 r8 r9 k1 k2 k3 k4 k5 z1 z2 Q := by
  intro dir s V T Rr hN hM hR hr hfr Fs F m1 m2 m3 m4 n1 n2 k
  obtain ⟨hh, g, d, tk0, os⟩ := s
  dsimp only at F k
  have X := T.wk.x
  have csl : cs.length < 45 := by have := Rr.len; lia
  refine wpAny_For ?_
  refine tupD (args_cons (Call_ (nmB (X.keeps F.keep) (by k_is) (by k_is) ?_ V.g V.b V.k V.li)))
  refine PyProof.Rows.callWith_type1 (args_cons (Subscript_ (F.nm m1 ?_ V.l V.k V.e1)))
  refine wpAny_Constant_str (getW T.wk.d F.keep T.wk.v4 (args_nil (copyL (hM.kp F.keep) (by lia) (fun r h₁ k₁ n₁ l₁ => ?_))))
  obtain ⟨nr, er⟩ := l₁
  refine Exists.elim (F.withObj k₁ n₁ er) fun hB₁ z => ?_
  have F₁ := z.1
  have kr₁ := z.2.1
  have br := z.2.2
  clear z
  refine args_cons (Call_ (nmB ((X.kp kr₁).keeps F₁.keep) (by k_is) (by k_is) ?_ V.g V.b V.k V.it))
  refine PyProof.Rows.callWith_builtin1 (args_cons (Subscript_ (F₁.nm m1 ?_ V.l V.k V.e1)))
  refine wpAny_Constant_str (getW T.wk.d (kr₁.trans F₁.keep) T.wk.v4 (args_nil (call_iterV (iterL (hM.kp (kr₁.trans F₁.keep)) (fun It h₂ k₂ n₂ i₂ => ?_)))))
  obtain ⟨oi, ei, ci, di⟩ := i₂
  refine Exists.elim (F₁.withObj k₂ n₂ ei) fun hB₂ z => ?_
  have F₂ := z.1
  have kr₂ := z.2.1
  have bi := z.2.2
  clear z
  refine args_nil ⟨szL, fun t h₃ k₃ n₃ t₃ => ?_⟩
  refine Exists.elim (F₂.withObj k₃ n₃ t₃) fun hB z => ?_
  have F₃ := z.1
  have kr₃ := z.2.1
  have bt := z.2.2
  clear z
  have bi := kr₃ _ _ bi
  have br := kr₃ _ _ (kr₂ _ _ br)
  have kB : Kp hb hB := (kr₁.trans kr₂).trans kr₃
  have nI : hb.get? It = none := none_base (kr₁.trans F₁.keep) n₂
  have ntI : t ≠ It := fun q => by
    subst q
    rw [bt] at bi
    cases bi
    exact absurd (Value.type.inj ci) (by decide)
  have kB' : Kp hb (hideAll hB [It]) := hideKp kB (fun a ha => by rw [List.mem_singleton.mp ha]; exact nI)
  have bt' : (hideAll hB [It]).get? t = some (seqObj "tuple" ([.ref r, .ref It] : List Value).toArray 0) := hideAll_get _ bt (by simpa using ntI)
  refine iterT (F₃.keep _ _ bt) (fun I h₄ k₄ n₄ i₄ => ?_)
  have F₄ := F₃.fresh k₄ n₄ (P := isTI t 0) i₄.choose_spec.1 i₄.choose_spec.2
  refine codeAny_forLoop (AskI ⟨hh, g, d, tk0, os⟩ hB (hideAll hB [It]) L I t m fr) ?_ 2 (.go false F₄ ⟨rfl, rfl, rfl, rfl, rfl⟩ rfl)
  rintro n' s' (⟨b, F, sm, hn⟩ | ⟨F, sm, hn⟩)
  · rename_i h' tk m'
    have hx3 : ([.ref r, .ref It] : List Value).toArray[b.toNat]? = some (.ref (cond b It r)) := by cases b <;> rfl
    refine F.tnext bt hx3 (fun h₂ F₂ => ?_)
    dsimp only
    refine wpAny_assign_Name (F₂.st (fun h₃ F₃ => ?_) V.l V.k V.e5)
    obtain ⟨hC, ls₀, F₃', kC, hl, S, btC, nx⟩ : ∃ hC ls₀, Lg hC L h₃ (fun y => if y = Str.ofString "came" then some (.ref (cond b It r)) else m' y) ((I, isTI t (b.toNat + 1)) :: (ls₀ ++ frL fr)) ∧ Kp hb hC ∧ PL hC (cond b M r) cs ∧ Src h₃ (cond b M r) (.ref (cond b It r)) ls₀ ∧ hC.get? t = some (seqObj "tuple" ([.ref r, .ref It] : List Value).toArray 0) ∧ (∀ h₅ tk₅ m₅, Lg hC L h₅ m₅ ((I, isTI t (b.toNat + 1)) :: frL fr) → Same m m₅ → ∃ n₆, n₆ < n' ∧ AskI ⟨hh, g, d, tk0, os⟩ hB (hideAll hB [It]) L I t m fr n₆ ⟨h₅, g, d, tk₅, os⟩) := by
      cases b with
      | false => exact ⟨hB, [], F₃, kB, ⟨nr, br⟩, .lst, bt, fun h₅ tk₅ m₅ F₅ sm₅ => ⟨1, by have : n' = 2 := hn; lia, .go true F₅ sm₅ rfl⟩⟩
      | true => exact ⟨hideAll hB [It], [(It, isLI M 0)], (F₃.thaw bi ⟨ci, di⟩).perm (List.Perm.swap _ _ _), kB', hM.kp kB', .it ⟨oi, F₃.keep _ _ bi, ci, di⟩, bt', fun h₅ tk₅ m₅ F₅ sm₅ => ⟨0, by have : n' + 1 = 2 := hn; lia, .fin F₅ sm₅ rfl⟩⟩
    clear F F₂ F₃
    have XC := X.kp kC
    refine wpAny_execs_cons (wpAny_If (wpAny_isTrue_Compare1 (CallKw (nmNs V (XC.keeps F₃'.keep) ?_))))
    refine callWith_FK rfl (args_cons (F₃'.nm (by exact sm.b.trans m2) ?_ V.l V.k V.e2))
    refine args_cons (F₃'.nm rfl ?_ V.l V.k V.e5)
    refine args_nil (kws_cons (F₃'.nm (by exact sm.c.trans m3) ?_ V.l V.k V.e3))
    refine kws_nil ⟨fnNs (XC.keeps F₃'.keep), ?_⟩
    obtain ⟨o, ho⟩ := F₃'.ob
    obtain ⟨oL, es, ep, eL, dL, rL⟩ := id F₃'.ns
    rw [ho] at eL
    cases eL
    have bl : Below h₃ ((L, o) :: fr) := fun p hp => by
      refine (List.mem_cons.mp hp).elim (fun q => ?_) (fun q => ?_)
      · rw [q]; exact ⟨o, ho, upS.refl o⟩
      · exact F₃'.at_ (p.1, upS p.2) (.tail _ (List.mem_append_right _ (List.mem_map_of_mem q)))
    have nd3 : ((ls₀ ++ frL ((L, o) :: fr)).map (·.1)).Nodup := by
      have nd := F₃'.nd
      simp only [List.map_cons, List.nodup_cons, List.map_append] at nd
      rw [List.map_append]
      refine List.nodup_append.mpr ⟨(List.nodup_append.mp nd.2).1, ?_, fun a ha b hb q => ?_⟩
      · simp only [frL, List.map_cons, List.nodup_cons]
        refine ⟨fun q => ?_, (List.nodup_append.mp nd.2).2.1⟩
        obtain ⟨p, hp, e⟩ := List.mem_map.mp q
        exact (F₃'.off p (.tail _ (List.mem_append_right _ hp))).1 e
      · rcases List.mem_cons.mp hb with z | z
        · obtain ⟨p, hp, e⟩ := List.mem_map.mp ha
          exact (F₃'.off p (.tail _ (List.mem_append_left _ hp))).1 (e.trans (q.trans z))
        · exact (List.nodup_append.mp nd.2).2.2 a ha b z q
    refine nsl (num := fun v => (rc v).n) (T.kw.kp kC) (cV_ok T.wk.ok) (hr.le (by decide)) F₃'.keep hl S Rr.inc Rr.rc_ (fun v hv => ?_) (by lia) n1 n2 (.cons (by rw [V.k]; decide) V.f ⟨es, ep, dL⟩ Fs) hfr bl nd3 (fun p hp => ?_) (fun rr out h₅ tk₅ pl fi k₅ B₅ => ?_)
    · obtain ⟨a, xs, e, ⟨na, ea⟩, _⟩ := T.dr v (Rr.rc_ v hv)
      exact ⟨a, _, e, kC _ _ ea, rfl⟩
    · rcases List.mem_append.mp hp with q | q
      · exact (F₃'.off p (.tail _ (List.mem_append_left _ q))).2
      · rcases List.mem_cons.mp q with rfl | q
        · exact F₃'.nL
        · exact (F₃'.off p (.tail _ (List.mem_append_right _ q))).2
    have F₅ : Lg hC L h₅ _ ((I, isTI t (b.toNat + 1)) :: frL fr) := Lg.after (ls := [(I, isTI t (b.toNat + 1))]) F₃' ho k₅ B₅
    have kb5 := kC.trans F₅.keep
    have vd : valueAt kvs (cond dir (Str.ofString "rising") (Str.ofString "falling")) = some (.ref (cond dir R G)) := by
      cases dir
      · exact T.wk.v3
      · exact T.wk.v2
    have zl : (cond dir xr yg).length < 45 := by
      cases dir
      · show yg.length < 45; rw [Rr.pg.length_eq]; lia
      · show xr.length < 45; rw [Rr.pr.length_eq]; lia
    have eo : out = (cond dir xr yg).take n.toNat := by
      cases dir
      · exact fi yg Rr.pg Rr.sg
      · exact fi xr Rr.pr Rr.sr
    have idv : ∀ v ∈ cond dir xr yg, Idv v := fun v hv => by
      have : v ∈ cs := by
        cases dir
        · exact Rr.pg.mem_iff.mp hv
        · exact Rr.pr.mem_iff.mp hv
      obtain ⟨a, xs, e, _⟩ := T.dr v (Rr.rc_ v this)
      exact .inl ⟨a, e⟩
    refine sliceL (Subscript_ (F₅.nm (by exact sm.a.trans m1) ?_ V.l V.k V.e1))
    refine wpAny_Constant_str (getW T.wk.d kb5 vd (wpAny_pure (F₅.nm (by exact sm.d.trans m4) ?_ V.l V.k V.e4)))
    refine ⟨cond dir R G, cond dir xr yg, none, some (max n 0), rfl, .none, .int _ _, hR.kp kb5, by lia, fun D' h₆ k₆ n₆ d₆ => ?_⟩
    rw [pick_upto (by lia), show (max n 0).toNat = n.toNat by lia, ← eo] at d₆
    have F₆ := F₅.kp k₆
    refine listNeSame (pl.kp k₆) d₆ (fun v hv => idv v (List.mem_of_mem_take (eo ▸ hv))) hr.units (wpAny_truthy_bool ?_)
    rw [if_neg (by decide)]
    exact wpAny_execs_nil (wpAny_execs_nil (nx _ _ _ F₆ ⟨sm.a, sm.b, sm.c, sm.d, sm.e⟩))
  · rename_i h' tk m'
    refine F.tend hr.han bt' rfl (fun h₂ F₂ => wpAny_execs_nil ?_)
    exact k _ _ _ (F₂.weak kB') sm
theorem allX (x : T) : pX x := eps (P := pX) pfX0
end N_askLoop
theorem askLoop {w : World} {A : Around} {E : Value → Shared → Prop} {hb : Heap} {L W rl R G M H C f : Addr} {m : Str → Option Value} {kvs : List (Str × Value)} {rs : List (Nat × Int)} {rc : Value → Rc} {D : Value → Prop} {cs xr yg : List Value} {N n : Int} {tn tm : Tok} {outer : List Env} {fr : List (Addr × Obj)} {env : Env} {p1 p2 p3 p4 p5 p6 p7 p8 p9 q1 q2 q3 q4 q5 q6 q7 q8 q9 r1 r2 r3 r4 r5 r6 r7 r8 r9 : Pos} {k1 k2 k3 k4 k5 : Nat} {z1 z2 : Pos} {Q : Flow → Shared → Prop} : N_askLoop.stX0 w A E hb L W rl R G M H C f m kvs rs rc D cs xr yg N n tn tm outer fr env p1 p2 p3 p4 p5 p6 p7 p8 p9 q1 q2 q3 q4 q5 q6 q7 q8 q9 r1 r2 r3 r4 r5 r6 r7 r8 r9 k1 k2 k3 k4 k5 z1 z2 Q := (N_askLoop.allX (w, A, E, hb, L, W, rl, R, G, M, H, C, f, m, kvs, rs, rc, D, cs, xr, yg, N, n, tn, tm, outer, fr, env, p1, p2, p3, p4, p5, p6, p7, p8, p9, q1, q2, q3, q4, q5, q6, q7, q8, q9, r1, r2, r3, r4, r5, r6, r7, r8, r9, k1, k2, k3, k4, k5, z1, z2, Q))
section
variable {dir : Bool} {w : World} {A : Around} {E : Value → Shared → Prop} {s : Shared} {hb hB h : Heap} {L W rl R G M H C f : Addr} {m : Str → Option Value} {kvs : List (Str × Value)} {rs : List (Nat × Int)} {rc : Value → Rc} {D : Value → Prop} {cs xr yg : List Value} {N n : Int} {tn tm : Tok} {outer : List Env} {fr : List (Addr × Obj)} {env : Env} {ls₀ : Led} {src : Value} {l : Addr} {c : Value → Value → Int} {num : Value → Int} {vs : List Value}
variable {p1 p2 p3 p4 p5 p6 p7 p8 p9 q1 q2 q3 q4 q5 q6 q7 q8 q9 r1 r2 r3 r4 r5 r6 r7 r8 r9 : Pos} {k1 k2 k3 k4 k5 k6 : Nat} {z1 z2 z3 z4 z5 z6 z7 z8 z9 : Pos}
end
end Mine
namespace Mine
section
variable {w : World} {A : Around} {E : Value → Shared → Prop} {s : Shared} {hB : Heap} {L l : Addr} {xs : List Value} {m : Str → Option Value} {ls : Led} {env : Env} {Q : Value → Shared → Prop} {p1 p2 p3 p4 p5 p6 p7 p8 : Pos} {scope : Scope}
structure EvT (scope : Scope) (env : Env) : Prop where
  hclos : closureFor scope env = pure []
  hcell : ∀ y ∈ scope.names, y.2 ≠ .cell
  hkind : scope.kind = .function
  hnames : ∀ y ∈ scope.names, y.2 = .local → scope.names.lookup y.1 = some .local
  c2 : ∀ C, (compEnvC scope [] C env).scope.kind = .function
  c3 : ∀ C, (compEnvC scope [] C env).kindOf "part" = some .local
  c4 : ∀ C, (compEnvC scope [] C env).kindOf "type" = some .globalImplicit
  c5 : ∀ C, (compEnvC scope [] C env).kindOf "bool" = some .globalImplicit
  g : env.globals = mainGlobals
  b : env.builtins = builtinsNs
inductive TcI (s : Shared) (hB : Heap) (Cf J l Do : Addr) (xs : List Value) (ls : Led) (n : Nat) : Shared → Prop
  | mk {h : Heap} {tk i : Nat} {mC : Str → Option Value} (F : Lg hB Cf h mC ((J, isLI l i) :: (Do, isL (List.replicate i (.bool true))) :: ls)) (hn : n + i = xs.length) : TcI s hB Cf J l Do xs ls n { s with heap := h, toks := tk }
end
namespace N_typeComp
noncomputable def stX0 (w : World) (A : Around) (E : Value → Shared → Prop) (s : Shared) (hB : Heap) (L l : Addr) (xs : List Value) (m : Str → Option Value) (ls : Led) (env : Env) (Q : Value → Shared → Prop) (p1 p2 p3 p4 p5 p6 p7 p8 : Pos) (scope : Scope) : Prop := ∀ (V : EvT scope env) (hr : Rm A 5) (X : KIn w hB) (F : Lg hB L s.heap m ls) (hl : PL hB l xs) (hb : ∀ v ∈ xs, ∃ b, v = .bool b) (hm : m (Str.ofString "told") = some (.ref l)) (h60 : xs.length < 60) (eL : env.locals = L) (ek : env.scope.kind = .function) (e5 : env.kindOf "told" = some .local) (k : ∀ r h' tk, Lg hB L h' m ls → PL h' r (List.replicate xs.length (.bool true)) → Q (.ref r) { s with heap := h', toks := tk }) (hs : ∀ x, foldedSetIterable (.Name "told" p6) env x = pure x), wpAny (MM w) A (eval (.ListComp (.Compare (.Call (.Name "type" p1) [.Name "part" p2] [] p3) [.Is] [.Name "bool" p4] p5) [⟨.Name "part" p7, .Name "told" p6, [], 0⟩] scope p8) env) Q E s
noncomputable abbrev T := World × Around × (Value → Shared → Prop) × Shared × Heap × Addr × Addr × (List Value) × (Str → Option Value) × Led × Env × (Value → Shared → Prop) × Pos × Pos × Pos × Pos × Pos × Pos × Pos × Pos × Scope
noncomputable def pX (x : T) : Prop := stX0 x.1 x.2.1 x.2.2.1 x.2.2.2.1 x.2.2.2.2.1 x.2.2.2.2.2.1 x.2.2.2.2.2.2.1 x.2.2.2.2.2.2.2.1 x.2.2.2.2.2.2.2.2.1 x.2.2.2.2.2.2.2.2.2.1 x.2.2.2.2.2.2.2.2.2.2.1 x.2.2.2.2.2.2.2.2.2.2.2.1 x.2.2.2.2.2.2.2.2.2.2.2.2.1 x.2.2.2.2.2.2.2.2.2.2.2.2.2.1 x.2.2.2.2.2.2.2.2.2.2.2.2.2.2.1 x.2.2.2.2.2.2.2.2.2.2.2.2.2.2.2.1 x.2.2.2.2.2.2.2.2.2.2.2.2.2.2.2.2.1 x.2.2.2.2.2.2.2.2.2.2.2.2.2.2.2.2.2.1 x.2.2.2.2.2.2.2.2.2.2.2.2.2.2.2.2.2.2.1 x.2.2.2.2.2.2.2.2.2.2.2.2.2.2.2.2.2.2.2.1 x.2.2.2.2.2.2.2.2.2.2.2.2.2.2.2.2.2.2.2.2
noncomputable def cX : T := @Classical.epsilon _ (ne2 neW (ne2 neA (ne2 neI (ne2 neS (ne2 neI (ne2 neI (ne2 neI (ne2 neI (ne2 neI (ne2 neI (ne2 neI (ne2 neI (ne2 neI (ne2 neI (ne2 neI (ne2 neI (ne2 neI (ne2 neI (ne2 neI (ne2 neI neI)))))))))))))))))))) fun x => ¬ pX x
def w : World := cX.1
def A : Around := cX.2.1
def E : Value → Shared → Prop := cX.2.2.1
def s : Shared := cX.2.2.2.1
def hB : Heap := cX.2.2.2.2.1
def L : Addr := cX.2.2.2.2.2.1
def l : Addr := cX.2.2.2.2.2.2.1
def xs : List Value := cX.2.2.2.2.2.2.2.1
def m : Str → Option Value := cX.2.2.2.2.2.2.2.2.1
def ls : Led := cX.2.2.2.2.2.2.2.2.2.1
def env : Env := cX.2.2.2.2.2.2.2.2.2.2.1
def Q : Value → Shared → Prop := cX.2.2.2.2.2.2.2.2.2.2.2.1
def p1 : Pos := cX.2.2.2.2.2.2.2.2.2.2.2.2.1
def p2 : Pos := cX.2.2.2.2.2.2.2.2.2.2.2.2.2.1
def p3 : Pos := cX.2.2.2.2.2.2.2.2.2.2.2.2.2.2.1
def p4 : Pos := cX.2.2.2.2.2.2.2.2.2.2.2.2.2.2.2.1
def p5 : Pos := cX.2.2.2.2.2.2.2.2.2.2.2.2.2.2.2.2.1
def p6 : Pos := cX.2.2.2.2.2.2.2.2.2.2.2.2.2.2.2.2.2.1
def p7 : Pos := cX.2.2.2.2.2.2.2.2.2.2.2.2.2.2.2.2.2.2.1
def p8 : Pos := cX.2.2.2.2.2.2.2.2.2.2.2.2.2.2.2.2.2.2.2.1
def scope : Scope := cX.2.2.2.2.2.2.2.2.2.2.2.2.2.2.2.2.2.2.2.2
theorem pfX0 : stX0 w A E s hB L l xs m ls env Q p1 p2 p3 p4 p5 p6 p7 p8 scope := by
  intro V hr X F hl hb hm h60 eL ek e5 k hs
  refine listComp V.hclos V.hcell V.hkind V.hnames (F.nm hm ?_ eL ek e5) hs
  refine iterL (hl.kp F.keep) (fun J h₁ k₁ n₁ i₁ => ?_)
  have F₁ := F.freshLI k₁ n₁ i₁
  intro Do Cf h₂ k₂ nD nC dc lD nsC
  obtain ⟨F₂, kr⟩ := F₁.inner2 k₂ nD nC dc lD nsC
  generalize hideAll h₂ _ = hB₂ at F₂ kr
  have F₃ : Lg hB₂ Cf h₂ _ ((J, isLI l 0) :: (Do, isL []) :: (L, isNs m) :: ls) := F₂.perm ((List.perm_middle (l₁ := [_, _])).trans (List.Perm.cons _ (List.Perm.swap _ _ _)))
  clear F₂
  refine ⟨fun Q' E' hq => wpAny_pyIter_listiter (F₃.li (.head _)) hq, ?_⟩
  have hl₂ := hl.kp kr
  have X₂ := X.kp kr
  refine compLoopG (TcI s hB₂ Cf J l Do xs ((L, isNs m) :: ls)) ?_ xs.length (.mk (i := 0) F₃ rfl)
  rintro n s' ⟨F, hn⟩
  rename_i h' tk i mC
  by_cases hend : xs.length ≤ i
  · refine F.lend hr.han hl₂ hend (fun h₃ F₃ => ?_)
    dsimp only
    have ei : i = xs.length := by lia
    subst ei
    refine Lg.endRet (s' := { s with heap := h₃, toks := tk }) (F₃.perm (List.Perm.swap _ _ _)) (fun h₄ F₄ => ?_)
    exact k Do h₄ tk (F₄.drop.weak kr) (F₄.pl (.head _))
  · have hlt : i < xs.length := by lia
    have hv : xs[i]? = some xs[i] := List.getElem?_eq_getElem hlt
    generalize xs[i] = v at hv
    obtain ⟨b, rfl⟩ := hb v (List.mem_of_getElem? hv)
    refine F.lnext 0 rfl hl₂ hv (fun h₃ F₃ => ?_)
    have F₃ : Lg hB₂ Cf h₃ _ ((J, isLI l (i + 1)) :: (Do, isL (List.replicate i (.bool true))) :: (L, isNs m) :: ls) := F₃
    dsimp only
    refine wpAny_of_eq (a := ()) rfl ?_
    refine wpAny_assign_Name (F₃.st (fun h₄ F₄ => ?_) rfl (V.c2 _) (V.c3 _))
    refine wpAny_Compare1 (Call_ (nmB (X₂.keeps F₄.keep) (by k_is) (by k_is) ?_ V.g V.b (V.c2 _) (V.c4 _)))
    refine PyProof.Rows.callWith_type1 (args_cons (F₄.nm rfl ?_ rfl (V.c2 _) (V.c3 _)))
    refine args_nil (typeB (nmB (X₂.keeps F₄.keep) (by k_is) (by k_is) (isT_same ?_) V.g V.b (V.c2 _) (V.c5 _)))
    refine appendL (F₄.pl (.tail _ (.head _))) (by simp; lia) (fun h₅ l₅ s₅ => ?_)
    have F₅ : Lg hB₂ Cf h₅ _ ((J, isLI l (i + 1)) :: (Do, isL (List.replicate i (.bool true) ++ [.bool true])) :: (L, isNs m) :: ls) := F₄.putL 1 rfl s₅ l₅
    rw [← List.replicate_succ'] at F₅
    exact ⟨n - 1, by lia, .mk F₅ (by lia)⟩
theorem allX (x : T) : pX x := eps (P := pX) pfX0
end N_typeComp
theorem typeComp {w : World} {A : Around} {E : Value → Shared → Prop} {s : Shared} {hB : Heap} {L : Addr} {l : Addr} {xs : List Value} {m : Str → Option Value} {ls : Led} {env : Env} {Q : Value → Shared → Prop} {p1 : Pos} {p2 : Pos} {p3 : Pos} {p4 : Pos} {p5 : Pos} {p6 : Pos} {p7 : Pos} {p8 : Pos} {scope : Scope} (V : EvT scope env) (hr : Rm A 5) (X : KIn w hB) (F : Lg hB L s.heap m ls) (hl : PL hB l xs) (hb : ∀ v ∈ xs, ∃ b, v = .bool b) (hm : m (Str.ofString "told") = some (.ref l)) (h60 : xs.length < 60) (eL : env.locals = L) (ek : env.scope.kind = .function) (e5 : env.kindOf "told" = some .local) (k : ∀ r h' tk, Lg hB L h' m ls → PL h' r (List.replicate xs.length (.bool true)) → Q (.ref r) { s with heap := h', toks := tk }) (hs : ∀ x, foldedSetIterable (.Name "told" p6) env x = pure x := by intro _; rfl) : wpAny (MM w) A (eval (.ListComp (.Compare (.Call (.Name "type" p1) [.Name "part" p2] [] p3) [.Is] [.Name "bool" p4] p5) [⟨.Name "part" p7, .Name "told" p6, [], 0⟩] scope p8) env) Q E s := (N_typeComp.allX (w, A, E, s, hB, L, l, xs, m, ls, env, Q, p1, p2, p3, p4, p5, p6, p7, p8, scope)) V hr X F hl hb hm h60 eL ek e5 k hs
section
variable {w : World} {A : Around} {E : Value → Shared → Prop} {s : Shared} {hB : Heap} {L l : Addr} {xs : List Value} {m : Str → Option Value} {ls : Led} {env : Env} {Q : Value → Shared → Prop} {p1 p2 p3 p4 p5 p6 p7 p8 : Pos} {scope : Scope}
end
end Mine
namespace Mine
section
variable {w : World} {A : Around} {E : Value → Shared → Prop} {s : Shared} {Q : Value → Shared → Prop} {hb : Heap} {L W rl R G M H C f : Addr} {kvs : List (Str × Value)} {rs : List (Nat × Int)} {rc : Value → Rc} {D : Value → Prop} {cs xr yg : List Value} {N n : Int} {tn : Tok} {x : Value} {outer : List Env} {fr : List (Addr × Obj)}
inductive TrI (s : Shared) (hB : Heap) (L I z : Addr) (m : Str → Option Value) (zs : List Value) (fr : List (Addr × Obj)) (n : Nat) : Shared → Prop
  | mk {h : Heap} {tk i : Nat} {m' : Str → Option Value} (F : Lg hB L h m' ((I, isLI z i) :: frL fr)) (sm : Same m m') (hn : n + i = zs.length) : TrI s hB L I z m zs fr n { s with heap := h, toks := tk }
theorem due_ok (ok : ROk rs) (u v : Value) : [Value.bool (decide (cV rs rc u v < 0)), .bool (decide (cV rs rc u v ≤ 0)), .bool (cV rs rc u v == 0), .bool (!(cV rs rc u v == 0)), .bool (decide (0 ≤ cV rs rc u v)), .bool (decide (0 < cV rs rc u v))] =
    [.bool (aheadR rs (rc u) (rc v)), .bool (!aheadR rs (rc v) (rc u)), .bool (!aheadR rs (rc u) (rc v) && !aheadR rs (rc v) (rc u)), .bool (aheadR rs (rc u) (rc v) || aheadR rs (rc v) (rc u)), .bool (!aheadR rs (rc u) (rc v)), .bool (aheadR rs (rc v) (rc u))] := by
  rw [ahead_cmp ok, ahead_cmp ok]
  have e : cmpR rs (rc v) (rc u) = - cV rs rc u v := cmp_anti
  rw [e]
  show _ = [Value.bool (decide (cV rs rc u v < 0)), .bool (!decide (-cV rs rc u v < 0)), .bool (!decide (cV rs rc u v < 0) && !decide (-cV rs rc u v < 0)), .bool (decide (cV rs rc u v < 0) || decide (-cV rs rc u v < 0)), .bool (!decide (cV rs rc u v < 0)), .bool (decide (-cV rs rc u v < 0))]
  generalize cV rs rc u v = c
  rcases Int.lt_trichotomy c 0 with q | q | q
  · have a1 : decide (c < 0) = true := decide_eq_true q
    have a2 : decide (c ≤ 0) = true := decide_eq_true (by lia)
    have a3 : (c == 0) = false := by simp; lia
    have a4 : decide (0 ≤ c) = false := decide_eq_false (by lia)
    have a5 : decide (0 < c) = false := decide_eq_false (by lia)
    have a6 : decide (-c < 0) = false := decide_eq_false (by lia)
    rw [a1, a2, a3, a4, a5, a6]; rfl
  · subst q; rfl
  · have a1 : decide (c < 0) = false := decide_eq_false (by lia)
    have a2 : decide (c ≤ 0) = false := decide_eq_false (by lia)
    have a3 : (c == 0) = false := by simp; lia
    have a4 : decide (0 ≤ c) = true := decide_eq_true (by lia)
    have a5 : decide (0 < c) = true := decide_eq_true q
    have a6 : decide (-c < 0) = true := decide_eq_true (by lia)
    rw [a1, a2, a3, a4, a5, a6]; rfl
theorem Lg.startF {h h₁ : Heap} {m : Str → Option Value} (hB : Below h fr) (ndf : (fr.map (·.1)).Nodup) (F : Fr h L h₁ m) (hL : h.get? L = none) : Lg (hideAll h (fr.map (·.1))) L h₁ m (frL fr) := by
  have := Lg.start (ls := frL fr) (fun p hp => by obtain ⟨q, hq, e⟩ := List.mem_map.mp hp; exact e ▸ hB q hq) (by rw [frL_map]; exact ndf) F hL
  rwa [frL_map] at this
section
variable {hB : Heap} {m : Str → Option Value} {ls : Led} {env : Env} {p q : Bool} {p1 p2 p3 p4 p5 : Pos}
theorem and_not (F : Lg hB L s.heap m ls) (ma : m (Str.ofString "ahead") = some (.bool p)) (mb : m (Str.ofString "behind") = some (.bool q)) (h : Q (.bool (!p && !q)) s) (eL : autoParam (env.locals = L) tcR) (ek : autoParam (env.scope.kind = .function) tcR) (e1 : autoParam (env.kindOf "ahead" = some .local) tcR) (e2 : autoParam (env.kindOf "behind" = some .local) tcR) :
    wpAny (MM w) A (eval (.BoolOp .And [.UnaryOp .Not (.Name "ahead" p1) p2, .UnaryOp .Not (.Name "behind" p3) p4] p5) env) Q E s := by
  refine BoolOp_and (wpAny_UnaryOp (F.nm ma ?_ eL ek e1))
  refine not_of (wpAny_truthy_bool (wpAny_truthy_bool ?_))
  cases p
  · rw [if_pos (by decide)]
    refine BoolOp_one (wpAny_UnaryOp (F.nm mb ?_ eL ek e2))
    exact not_of (wpAny_truthy_bool h)
  · rw [if_neg (by decide)]
    exact h
theorem or_of (F : Lg hB L s.heap m ls) (ma : m (Str.ofString "ahead") = some (.bool p)) (mb : m (Str.ofString "behind") = some (.bool q)) (h : Q (.bool (p || q)) s) (eL : autoParam (env.locals = L) tcR) (ek : autoParam (env.scope.kind = .function) tcR) (e1 : autoParam (env.kindOf "ahead" = some .local) tcR) (e2 : autoParam (env.kindOf "behind" = some .local) tcR) :
    wpAny (MM w) A (eval (.BoolOp .Or [.Name "ahead" p1, .Name "behind" p2] p5) env) Q E s := by
  refine BoolOp_or (F.nm ma ?_ eL ek e1)
  refine wpAny_truthy_bool ?_
  cases p
  · rw [if_neg (by decide)]
    exact BoolOp_one (F.nm mb h eL ek e2)
  · rw [if_pos rfl]
    exact h
end
end
namespace N_asked_spec
noncomputable def stX0 (w : World) (A : Around) (E : Value → Shared → Prop) (s : Shared) (Q : Value → Shared → Prop) (hb : Heap) (W rl R G M H C f : Addr) (kvs : List (Str × Value)) (rs : List (Nat × Int)) (rc : Value → Rc) (D : Value → Prop) (cs xr yg : List Value) (N n : Int) (tn : Tok) (outer : List Env) (fr : List (Addr × Obj)) : Prop := ∀ {x : Value} (T : Wd w hb W rl R G M H C f kvs rs rc D) (Rr : Rw D rs rc N cs xr yg) (hN : N < 45) (hM : PL hb M cs) (hR : PL hb R xr) (hG : PL hb G yg) (dx : D x) (hr : Rm A 35) (kb : Kp hb s.heap) (nf : ∀ p ∈ fr, hb.get? p.1 = none) (ndf : (fr.map (·.1)).Nodup) (B : Bl A s.heap outer fr) (n1 : -5 ≤ n) (n2 : n < 70) (k : ∀ h' tk, KpB (fr.map (·.1)) s.heap h' → Below h' fr → Q (.bool true) { s with heap := h', toks := tk }), wpAny (MM w) A (call (.ref 171) [.ref W, x, .int n tn]) Q E s
noncomputable abbrev T := World × Around × (Value → Shared → Prop) × Shared × (Value → Shared → Prop) × Heap × Addr × Addr × Addr × Addr × Addr × Addr × Addr × Addr × (List (Str × Value)) × (List (Nat × Int)) × (Value → Rc) × (Value → Prop) × (List Value) × (List Value) × (List Value) × Int × Int × Tok × (List Env) × (List (Addr × Obj))
noncomputable def pX (x : T) : Prop := stX0 x.1 x.2.1 x.2.2.1 x.2.2.2.1 x.2.2.2.2.1 x.2.2.2.2.2.1 x.2.2.2.2.2.2.1 x.2.2.2.2.2.2.2.1 x.2.2.2.2.2.2.2.2.1 x.2.2.2.2.2.2.2.2.2.1 x.2.2.2.2.2.2.2.2.2.2.1 x.2.2.2.2.2.2.2.2.2.2.2.1 x.2.2.2.2.2.2.2.2.2.2.2.2.1 x.2.2.2.2.2.2.2.2.2.2.2.2.2.1 x.2.2.2.2.2.2.2.2.2.2.2.2.2.2.1 x.2.2.2.2.2.2.2.2.2.2.2.2.2.2.2.1 x.2.2.2.2.2.2.2.2.2.2.2.2.2.2.2.2.1 x.2.2.2.2.2.2.2.2.2.2.2.2.2.2.2.2.2.1 x.2.2.2.2.2.2.2.2.2.2.2.2.2.2.2.2.2.2.1 x.2.2.2.2.2.2.2.2.2.2.2.2.2.2.2.2.2.2.2.1 x.2.2.2.2.2.2.2.2.2.2.2.2.2.2.2.2.2.2.2.2.1 x.2.2.2.2.2.2.2.2.2.2.2.2.2.2.2.2.2.2.2.2.2.1 x.2.2.2.2.2.2.2.2.2.2.2.2.2.2.2.2.2.2.2.2.2.2.1 x.2.2.2.2.2.2.2.2.2.2.2.2.2.2.2.2.2.2.2.2.2.2.2.1 x.2.2.2.2.2.2.2.2.2.2.2.2.2.2.2.2.2.2.2.2.2.2.2.2.1 x.2.2.2.2.2.2.2.2.2.2.2.2.2.2.2.2.2.2.2.2.2.2.2.2.2
noncomputable def cX : T := @Classical.epsilon _ (ne2 neW (ne2 neA (ne2 neI (ne2 neS (ne2 neI (ne2 neI (ne2 neI (ne2 neI (ne2 neI (ne2 neI (ne2 neI (ne2 neI (ne2 neI (ne2 neI (ne2 neI (ne2 neI (ne2 ⟨fun _ => ⟨0, 0, 0, 0⟩⟩ (ne2 neI (ne2 neI (ne2 neI (ne2 neI (ne2 neI (ne2 neI (ne2 neI (ne2 neI neI))))))))))))))))))))))))) fun x => ¬ pX x
def w : World := cX.1
def A : Around := cX.2.1
def E : Value → Shared → Prop := cX.2.2.1
def s : Shared := cX.2.2.2.1
def Q : Value → Shared → Prop := cX.2.2.2.2.1
def hb : Heap := cX.2.2.2.2.2.1
def W : Addr := cX.2.2.2.2.2.2.1
def rl : Addr := cX.2.2.2.2.2.2.2.1
def R : Addr := cX.2.2.2.2.2.2.2.2.1
def G : Addr := cX.2.2.2.2.2.2.2.2.2.1
def M : Addr := cX.2.2.2.2.2.2.2.2.2.2.1
def H : Addr := cX.2.2.2.2.2.2.2.2.2.2.2.1
def C : Addr := cX.2.2.2.2.2.2.2.2.2.2.2.2.1
def f : Addr := cX.2.2.2.2.2.2.2.2.2.2.2.2.2.1
def kvs : List (Str × Value) := cX.2.2.2.2.2.2.2.2.2.2.2.2.2.2.1
def rs : List (Nat × Int) := cX.2.2.2.2.2.2.2.2.2.2.2.2.2.2.2.1
def rc : Value → Rc := cX.2.2.2.2.2.2.2.2.2.2.2.2.2.2.2.2.1
def D : Value → Prop := cX.2.2.2.2.2.2.2.2.2.2.2.2.2.2.2.2.2.1
def cs : List Value := cX.2.2.2.2.2.2.2.2.2.2.2.2.2.2.2.2.2.2.1
def xr : List Value := cX.2.2.2.2.2.2.2.2.2.2.2.2.2.2.2.2.2.2.2.1
def yg : List Value := cX.2.2.2.2.2.2.2.2.2.2.2.2.2.2.2.2.2.2.2.2.1
def N : Int := cX.2.2.2.2.2.2.2.2.2.2.2.2.2.2.2.2.2.2.2.2.2.1
def n : Int := cX.2.2.2.2.2.2.2.2.2.2.2.2.2.2.2.2.2.2.2.2.2.2.1
def tn : Tok := cX.2.2.2.2.2.2.2.2.2.2.2.2.2.2.2.2.2.2.2.2.2.2.2.1
def outer : List Env := cX.2.2.2.2.2.2.2.2.2.2.2.2.2.2.2.2.2.2.2.2.2.2.2.2.1
def fr : List (Addr × Obj) := cX.2.2.2.2.2.2.2.2.2.2.2.2.2.2.2.2.2.2.2.2.2.2.2.2.2
theorem pfX0 : stX0 w A E s Q hb W rl R G M H C f kvs rs rc D cs xr yg N n tn outer fr := by
  intro x T Rr hN hM hR hG dx hr kb nf ndf B n1 n2 k
  refine callT (T.wk.x.keeps kb) (by k_is) (by k_is) hr (BindsTo.of_eq rfl) (locs rfl) (fun h₁ F₁ => ?_)
  have F := Lg.startF B.bl ndf F₁ (newNone _)
  have k0 : Kp hb (hideAll s.heap (fr.map (·.1))) := hideKp kb (fun a ha => by obtain ⟨p, hp, rfl⟩ := List.mem_map.mp ha; exact nf p hp)
  have fin : ∀ {h' : Heap}, Kp (hideAll s.heap (fr.map (·.1))) h' → KpB (fr.map (·.1)) s.heap h' := fun k' => kpB_hide k'
  generalize hideAll s.heap (fr.map (·.1)) = h0 at F k0 fin
  have T0 := T.kp k0
  have X0 := T0.wk.x
  refine wpAny_execs_cons (wpAny_Assign_Name (Subscript_ (F.nm rfl (wpAny_Constant_str (getW T0.wk.d F.keep T0.v5 (F.st fun h₂ F₂ => ?_))))))
  dsimp only
  refine wpAny_execs_cons (wpAny_Assign_Name (Call_ (nmB (X0.keeps F₂.keep) (by k_is) (by k_is) ?_)))
  refine PyProof.Rows.callWith_builtin1 (args_cons (F₂.nm rfl ?_))
  refine args_cons (wpAny_Constant_int ?_)
  refine args_nil ?_
  refine max_two_ints (hr.deep _).han (fun h₃ tk₃ k₃ => ?_)
  have F₃ := F₂.kp k₃
  have em : ∀ (u : Tok), ∃ t', (if (0 : Int) > n then Value.int 0 u else .int n tn) = .int (max n 0) t' := fun u => by
    by_cases q : (0 : Int) > n
    · exact ⟨u, by rw [if_pos q, show max n 0 = 0 by lia]⟩
    · exact ⟨tn, by rw [if_neg q, show max n 0 = n by lia]⟩
  obtain ⟨t', et⟩ := em _
  rw [et]
  refine F₃.st fun h₄ F₄ => ?_
  dsimp only
  refine wpAny_execs_cons (askLoop (dir := true) ⟨rfl, rfl, rfl, rfl, rfl, rfl, rfl, rfl, rfl, rfl, rfl, rfl, rfl⟩ T0 Rr hN (hM.kp k0) (hR.kp k0) ((hr.deep _).le (by decide)) (by show A.frames.map _ = _; rw [B.fa]; rfl) B.fs F₄ rfl rfl rfl rfl n1 n2 (fun h₅ tk₅ m₅ F₅ sm₅ => ?_))
  dsimp only
  refine wpAny_execs_cons (askLoop (dir := false) ⟨rfl, rfl, rfl, rfl, rfl, rfl, rfl, rfl, rfl, rfl, rfl, rfl, rfl⟩ T0 Rr hN (hM.kp k0) (hG.kp k0) ((hr.deep _).le (by decide)) (by show A.frames.map _ = _; rw [B.fa]; rfl) B.fs F₅ sm₅.a sm₅.b sm₅.c sm₅.d n1 n2 (fun h₆ tk₆ m₆ F₆ sm₆ => ?_))
  dsimp only
  have mw : m₆ (Str.ofString "world") = some (.ref W) := sm₆.a.trans sm₅.a
  have mk : m₆ (Str.ofString "key") = some (.ref C) := sm₆.c.trans sm₅.c
  have mr : m₆ (Str.ofString "record") = some x := sm₆.e.trans sm₅.e
  clear sm₆ sm₅ F₅ F₄ F₃ F₂ F F₁
  have csl : cs.length < 45 := by have := Rr.len; lia
  obtain ⟨xa, xl, rfl, _⟩ := id (T0.dr x dx)
  refine wpAny_execs_cons (wpAny_For (wpAny_BinOp (Subscript_ (F₆.nm mw (wpAny_Constant_str (getW T0.wk.d F₆.keep T0.wk.v4 (listD (args_cons (F₆.nm mr (args_nil ⟨szL, fun lx h₇ k₇ n₇ e₇ => ?_⟩))))))))))
  have F₇ := F₆.kp k₇
  refine addL ((hM.kp k0).kp F₇.keep) ⟨0, e₇⟩ (by simp; lia) (fun z h₈ k₈ n₈ l₈ => ?_)
  obtain ⟨nz, ez⟩ := l₈
  refine Exists.elim (F₇.withObj k₈ n₈ ez) fun hB z => ?_
  have F₈ := z.1
  have kr := z.2.1
  have bz := z.2.2
  clear z
  have hz : PL hB z (cs ++ [.ref xa]) := ⟨nz, bz⟩
  have TB := T0.kp kr
  refine iterL (hz.kp F₈.keep) (fun I h₉ k₉ n₉ i₉ => ?_)
  refine codeAny_forLoop (TrI s hB s.heap.objs.size I z m₆ (cs ++ [.ref xa]) fr) ?_ (cs ++ [Value.ref xa]).length (.mk (i := 0) (F₈.freshLI k₉ n₉ i₉) ⟨rfl, rfl, rfl, rfl, rfl⟩ rfl)
  clear F₈ F₇ F₆
  rintro n' s' ⟨F, sm, hn⟩
  rename_i h' tk i m'
  by_cases hend : (cs ++ [Value.ref xa]).length ≤ i
  · refine F.lend (hr.deep _).han hz hend (fun h₂ F₂ => wpAny_execs_nil ?_)
    dsimp only
    refine wpAny_execs_cons (wpAny_Return_some (wpAny_Constant_bool ?_))
    exact k _ _ (fin (kr.trans F₂.keep)) (Lg.below (ls := []) F₂)
  · have hlt : i < (cs ++ [Value.ref xa]).length := by lia
    have hv : (cs ++ [Value.ref xa])[i]? = some (cs ++ [Value.ref xa])[i] := List.getElem?_eq_getElem hlt
    generalize (cs ++ [Value.ref xa])[i] = u at hv
    have du : D u := by
      rcases List.mem_append.mp (List.mem_of_getElem? hv) with q | q
      · exact Rr.rc_ u q
      · rw [List.mem_singleton.mp q]; exact dx
    have hu := TB.dr u du
    have hx := TB.dr _ dx
    have XB := TB.wk.x
    refine F.lnext 0 rfl hz hv (fun h₂ F₂ => ?_)
    dsimp only
    refine wpAny_assign_Name (F₂.st fun h₃ F₃ => ?_)
    have F₃ : Lg hB s.heap.objs.size h₃ _ ((I, isLI z (i + 1)) :: frL fr) := F₃
    refine wpAny_execs_cons (wpAny_Assign_Name (Call_ (nmG (XB.keeps F₃.keep) (by k_is) (callWith_F (args_cons (F₃.nm rfl (args_cons (F₃.nm (by exact sm.e.trans mr) (args_cons (Subscript_ (F₃.nm (by exact sm.a.trans mw) (wpAny_Constant_str (getW TB.wk.d F₃.keep TB.wk.v1 (args_nil ⟨FnAt.of (XB.keeps F₃.keep) (by k_is), ?_⟩))))))))))))))
    refine ahead_spec XB TB.wk.rr TB.wk.ok hu hx ((hr.deep _).le (by decide)) F₃.keep (fun h₄ tk₄ k₄ => (F₃.kp k₄).st fun h₅ F₅ => ?_)
    dsimp only
    refine wpAny_execs_cons (wpAny_Assign_Name (Call_ (nmG (XB.keeps F₅.keep) (by k_is) (callWith_F (args_cons (F₅.nm (by exact sm.e.trans mr) (args_cons (F₅.nm rfl (args_cons (Subscript_ (F₅.nm (by exact sm.a.trans mw) (wpAny_Constant_str (getW TB.wk.d F₅.keep TB.wk.v1 (args_nil ⟨FnAt.of (XB.keeps F₅.keep) (by k_is), ?_⟩))))))))))))))
    refine ahead_spec XB TB.wk.rr TB.wk.ok hx hu ((hr.deep _).le (by decide)) F₅.keep (fun h₆ tk₆ k₆ => (F₅.kp k₆).st fun h₇ F₇ => ?_)
    dsimp only
    refine wpAny_execs_cons (wpAny_Assign_Name (listD (args_cons (F₇.nm rfl (args_cons (wpAny_UnaryOp (F₇.nm rfl (not_of (wpAny_truthy_bool (args_cons (and_not F₇ rfl rfl (args_cons (or_of F₇ rfl rfl (args_cons (wpAny_UnaryOp (F₇.nm rfl (not_of (wpAny_truthy_bool (args_cons (F₇.nm rfl (args_nil ⟨szL, fun du₈ h₈ k₈ n₈ e₈ => ?_⟩)))))))))))))))))))))
    refine Exists.elim (F₇.withObj k₈ n₈ e₈) fun hB₈ z => ?_
    have F₈ := z.1
    have kr₈ := z.2.1
    have b₈ := z.2.2
    clear z
    refine F₈.st fun h₉ F₉ => ?_
    dsimp only
    have kB₉ := kr₈.trans F₉.keep
    refine wpAny_execs_cons (wpAny_Assign_Name (Call_ (nmG (XB.keeps kB₉) (by k_is) ?_)))
    refine callWith_F (args_cons (Call_ (F₉.nm (by exact sm.c.trans mk) (callWith_C (w := w) (mycmp := .ref f) (args_cons (F₉.nm rfl (args_nil ⟨TB.kw.k.kp kB₉, TB.kw.new ((hr.deep _).le (by decide)) kB₉ (fun o₁ h₁₀ tk₁₀ k₁₀ K₁₀ n₁₀ => ?_)⟩)))))))
    have F₁₀ := F₉.kp k₁₀
    have kB₁₀ := kr₈.trans F₁₀.keep
    refine args_cons (Call_ (F₁₀.nm (by exact sm.c.trans mk) (callWith_C (w := w) (mycmp := .ref f) (args_cons (F₁₀.nm (by exact sm.e.trans mr) (args_nil ⟨TB.kw.k.kp kB₁₀, TB.kw.new ((hr.deep _).le (by decide)) kB₁₀ (fun o₂ h₁₁ tk₁₁ k₁₁ K₁₁ n₁₁ => ?_)⟩))))))
    have F₁₁ := F₁₀.kp k₁₁
    have kB₁₁ := kr₈.trans F₁₁.keep
    refine args_nil ⟨FnAt.of (XB.keeps kB₁₁) (by k_is), ?_⟩
    refine signs_spec TB.kw ((hr.deep _).le (by decide)) kB₁₁ (K₁₀.kp k₁₁) K₁₁ du dx (fun tl h₁₂ tk₁₂ k₁₂ n₁₂ l₁₂ => ?_)
    rw [due_ok TB.wk.ok] at l₁₂
    obtain ⟨nt, et₁₂⟩ := l₁₂
    refine Exists.elim (F₁₁.withObj k₁₂ n₁₂ et₁₂) fun hB₁₂ z => ?_
    have F₁₂ := z.1
    have kr₁₂ := z.2.1
    have b₁₂ := z.2.2
    clear z
    refine F₁₂.st fun h₁₃ F₁₃ => ?_
    dsimp only
    have idv : ∀ (p q : Bool), ∀ v ∈ [Value.bool p, .bool (!q), .bool (!p && !q), .bool (p || q), .bool (!p), .bool q], ∃ b, v = .bool b := fun p q v hv => by
      simp only [List.mem_cons, List.not_mem_nil, or_false] at hv
      rcases hv with rfl | rfl | rfl | rfl | rfl | rfl <;> exact ⟨_, rfl⟩
    refine wpAny_execs_cons (wpAny_If (isTrue_or (wpAny_isTrue_Compare1 (F₁₃.nm rfl (F₁₃.nm rfl (listNeSame ⟨nt, F₁₃.keep _ _ b₁₂⟩ ⟨0, F₁₃.keep _ _ (kr₁₂ _ _ b₈)⟩ (fun v hv => .inr (idv _ _ v hv)) (hr.deep _).units (wpAny_truthy_bool ?_)))))))
    rw [if_neg (by decide)]
    refine isTrue_or (wpAny_isTrue_Compare1 ?_)
    refine typeComp (hB := hB₁₂) ⟨rfl, by decide, rfl, by decide, fun _ => rfl, fun _ => rfl, fun _ => rfl, fun _ => rfl, rfl, rfl⟩ ((hr.deep _).le (by decide)) (XB.kp (kr₈.trans kr₁₂)) F₁₃ ⟨nt, b₁₂⟩ (idv _ _) rfl (by simp) rfl rfl rfl (fun r h₁₄ tk₁₄ F₁₄ l₁₄ => ?_)
    refine wpAny_BinOp (listD (args_cons (wpAny_Constant_bool (args_nil ⟨szL, fun lt h₁₅ k₁₅ n₁₅ e₁₅ => ?_⟩))))
    have F₁₅ := F₁₄.kp k₁₅
    refine wpAny_Constant_int (mulB ⟨0, e₁₅⟩ (fun r₂ h₁₆ k₁₆ n₁₆ l₁₆ => ?_))
    have F₁₆ := F₁₅.kp k₁₆
    refine listNeSame ((l₁₄.kp k₁₅).kp k₁₆) l₁₆ (fun v hv => .inr ⟨true, (List.mem_replicate.mp hv).2⟩) (hr.deep _).units (wpAny_truthy_bool ?_)
    rw [if_neg (by decide)]
    refine isTrue_or_nil ?_
    rw [if_neg (by decide)]
    exact wpAny_execs_nil (wpAny_execs_nil ⟨n' - 1, by lia, .mk (i := i + 1) (F₁₆.weak (kr₈.trans kr₁₂)) ⟨sm.a, sm.b, sm.c, sm.d, sm.e⟩ (by lia)⟩)
theorem allX (x : T) : pX x := eps (P := pX) pfX0
end N_asked_spec
theorem asked_spec {w : World} {A : Around} {E : Value → Shared → Prop} {s : Shared} {Q : Value → Shared → Prop} {hb : Heap} {W rl R G M H C f : Addr} {kvs : List (Str × Value)} {rs : List (Nat × Int)} {rc : Value → Rc} {D : Value → Prop} {cs xr yg : List Value} {N n : Int} {tn : Tok} {outer : List Env} {fr : List (Addr × Obj)} : N_asked_spec.stX0 w A E s Q hb W rl R G M H C f kvs rs rc D cs xr yg N n tn outer fr := (N_asked_spec.allX (w, A, E, s, Q, hb, W, rl, R, G, M, H, C, f, kvs, rs, rc, D, cs, xr, yg, N, n, tn, outer, fr))
section
variable {w : World} {A : Around} {E : Value → Shared → Prop} {s : Shared} {Q : Value → Shared → Prop} {hb : Heap} {L W rl R G M H C f : Addr} {kvs : List (Str × Value)} {rs : List (Nat × Int)} {rc : Value → Rc} {D : Value → Prop} {cs xr yg : List Value} {N n : Int} {tn : Tok} {x : Value} {outer : List Env} {fr : List (Addr × Obj)}
end
end Mine
namespace Mine
section
variable {w : World} {A : Around} {E : Value → Shared → Prop} {s : Shared} {Q : Value → Shared → Prop} {hb h₀ h h' : Heap} {L W rl R G M H C f : Addr} {m : Str → Option Value} {kvs : List (Str × Value)} {rs : List (Nat × Int)} {rc : Value → Rc} {D : Value → Prop} {cs xr yg hs xs ys zs xs' ys' zs' : List Value} {N n : Int} {tn : Tok} {x item : Value} {it : Option Value} {o1 outer : List Env} {fr : List (Addr × Obj)} {ls : Led}
theorem taken_in (T : Wd w hb W rl R G M H C f kvs rs rc D) (n4 : ∀ a ∈ [R, G, M, H], hb.get? a = none) (nL : hb.get? L = none) (nf : ∀ p ∈ fr, hb.get? p.1 = none) (nd : ([R, G, M, H] ++ L :: fr.map (·.1)).Nodup) (Rr : Rw D rs rc N cs xr yg) (X : Hx hb C rs rc cs hs) (hit : ItX hb C rc D N item it) (hr : Rm A 25) (kb : Kp hb s.heap) (l4 : L4 s.heap R G M H xr yg cs hs) (hN : N < 45) (Bf : ∃ o, Bl A s.heap o1 ((L, o) :: fr))
    (k : ∀ h' tk cs' xr' yg' hs', Rw D rs rc (NN it N) cs' xr' yg' → Hx hb C rs rc cs' hs' → L4 h' R G M H xr' yg' cs' hs' → KpB ([R, G, M, H] ++ L :: fr.map (·.1)) s.heap h' → Below h' fr → (∃ o o', s.heap.get? L = some o ∧ h'.get? L = some o' ∧ upS o o') → Q (.bool true) { s with heap := h', toks := tk }) :
    wpAny (MM w) A (call (.ref 159) [.ref W, item]) Q E s := by
  obtain ⟨o, B⟩ := Bf
  refine taken_spec (fr := (L, o) :: fr) T n4 (fun p hp => ?_) nd Rr X hit hr kb l4 hN B (fun h' tk cs' xr' yg' hs' a1 a2 a3 a4 a5 => k h' tk cs' xr' yg' hs' a1 a2 a3 a4 (fun p hp => a5 p (.tail _ hp)) ?_)
  · cases hp with
    | head => exact nL
    | tail _ q => exact nf p q
  · obtain ⟨o1, e1, sl, rfl⟩ := B.bl (L, o) (.head _)
    obtain ⟨o2, e2, sl2, rfl⟩ := a5 (L, o) (.head _)
    exact ⟨_, _, e1, e2, sl2, rfl⟩
theorem asked_in (T : Wd w hb W rl R G M H C f kvs rs rc D) (Rr : Rw D rs rc N cs xr yg) (hN : N < 45) (hM : PL hb M cs) (hR : PL hb R xr) (hG : PL hb G yg) (dx : D x) (hr : Rm A 35) (kb : Kp hb s.heap) (nL : hb.get? L = none) (nf : ∀ p ∈ fr, hb.get? p.1 = none) (ndf : (L :: fr.map (·.1)).Nodup) (Bf : ∃ o, Bl A s.heap o1 ((L, o) :: fr)) (n1 : -5 ≤ n) (n2 : n < 70)
    (k : ∀ h' tk, KpB (L :: fr.map (·.1)) s.heap h' → Below h' fr → Q (.bool true) { s with heap := h', toks := tk }) : wpAny (MM w) A (call (.ref 171) [.ref W, x, .int n tn]) Q E s := by
  obtain ⟨o, B⟩ := Bf
  refine asked_spec (fr := (L, o) :: fr) T Rr hN hM hR hG dx hr kb (fun p hp => ?_) ndf B n1 n2 (fun h' tk a1 a2 => k h' tk a1 (fun p hp => a2 p (.tail _ hp)))
  cases hp with
  | head => exact nL
  | tail _ q => exact nf p q
theorem Lg.but4 (F : Lg h₀ L h m (led4 R G M H xs ys zs hs ++ frL fr)) (k : KpB [R, G, M] h h') (l1 : PL h' R xs') (l2 : PL h' G ys') (l3 : PL h' M zs') : Lg h₀ L h' m (led4 R G M H xs' ys' zs' hs ++ frL fr) := by
  have nd := F.nd
  have off : ∀ p ∈ ((H, isL hs) :: frL fr : Led), p.1 ∉ [R, G, M] := fun p hp q => by
    have nd' : ([R, G, M] ++ ((H, isL hs) :: frL fr : Led).map (·.1)).Nodup := nd
    exact (List.nodup_append.mp nd').2.2 p.1 q p.1 (List.mem_map_of_mem hp) rfl
  refine F.but (ls' := led4 R G M H xs' ys' zs' hs ++ frL fr) k (fun a ha => ?_) (fun p hp => ?_) rfl
  · simp only [List.mem_cons, List.not_mem_nil, or_false] at ha
    rcases ha with rfl | rfl | rfl
    · exact F.off _ (.head _)
    · exact F.off _ (.tail _ (.head _))
    · exact F.off _ (.tail _ (.tail _ (.head _)))
  · have hp' : p ∈ led3 R G M xs' ys' zs' ++ ((H, isL hs) :: frL fr) := hp
    rcases List.mem_append.mp hp' with q | q
    · exact led3_at l1 l2 l3 p q
    · obtain ⟨o, e, u⟩ := F.at_ p (List.mem_append_right (led3 R G M xs ys zs) q)
      exact ⟨o, k _ _ (off p q) e, u⟩
theorem Lg.freeze4 (F : Lg h₀ L h m (led4 R G M H xs ys zs hs ++ frL fr)) : ∃ hB', Lg hB' L h m (frL fr) ∧ Kp h₀ hB' ∧ L4 hB' R G M H xs ys zs hs := by
  refine Exists.elim (Lg.freezeL (ls := (G, isL ys) :: (M, isL zs) :: (H, isL hs) :: frL fr) F) fun h1 z => ?_
  have F1 := z.1
  have k1 := z.2.1
  have a1 := z.2.2
  clear z
  refine Exists.elim (F1.freezeL) fun h2 z => ?_
  have F2 := z.1
  have k2 := z.2.1
  have a2 := z.2.2
  clear z
  refine Exists.elim (F2.freezeL) fun h3 z => ?_
  have F3 := z.1
  have k3 := z.2.1
  have a3 := z.2.2
  clear z
  refine Exists.elim (F3.freezeL) fun h4 z => ?_
  have F4 := z.1
  have k4 := z.2.1
  have a4 := z.2.2
  clear z
  exact ⟨h4, F4, ((k1.trans k2).trans k3).trans k4, ((a1.kp k2).kp k3).kp k4, (a2.kp k3).kp k4, a3.kp k4, a4⟩
theorem Lg.n4 (F : Lg h₀ L h m (led4 R G M H xs ys zs hs ++ ls)) : ∀ a ∈ [R, G, M, H], h₀.get? a = none ∧ a ≠ L := fun a ha => by
  simp only [List.mem_cons, List.not_mem_nil, or_false] at ha
  rcases ha with rfl | rfl | rfl | rfl
  · exact (F.off _ (.head _)).symm
  · exact (F.off _ (.tail _ (.head _))).symm
  · exact (F.off _ (.tail _ (.tail _ (.head _)))).symm
  · exact (F.off _ (.tail _ (.tail _ (.tail _ (.head _))))).symm
theorem Lg.nf (F : Lg h₀ L h m (ls ++ frL fr)) : ∀ p ∈ fr, h₀.get? p.1 = none := fun p hp => (F.off (p.1, upS p.2) (List.mem_append_right _ (List.mem_map_of_mem hp))).2
theorem Lg.nd5 (F : Lg h₀ L h m (led4 R G M H xs ys zs hs ++ frL fr)) : ([R, G, M, H] ++ L :: fr.map (·.1)).Nodup := by
  have nd := F.nd
  rw [map4] at nd
  have p : ([R, G, M, H] ++ L :: fr.map (·.1)).Perm (L :: ([R, G, M, H] ++ fr.map (·.1))) := List.perm_middle
  refine p.nodup_iff.mpr (List.nodup_cons.mpr ⟨fun q => ?_, nd⟩)
  rcases List.mem_append.mp q with q | q
  · exact (F.n4 L q).2 rfl
  · obtain ⟨x, hx, e⟩ := List.mem_map.mp q
    exact (F.off (x.1, upS x.2) (List.mem_append_right _ (List.mem_map_of_mem hx))).1 e
theorem Lg.off5 (F : Lg h₀ L h m (led4 R G M H xs ys zs hs ++ frL fr)) : ∀ a ∈ [R, G, M, H], a ∉ L :: fr.map (·.1) := fun a ha q => (List.nodup_append.mp F.nd5).2.2 a ha a q rfl
theorem Lg.nd6 (F : Lg h₀ L h m (led4 R G M H xs ys zs hs ++ frL fr)) : (L :: fr.map (·.1)).Nodup := (List.nodup_append.mp F.nd5).2.1
theorem L4.kpB {S : List Addr} (x : L4 h R G M H xs ys zs hs) (k : KpB S h h') (hS : ∀ a ∈ [R, G, M, H], a ∉ S) : L4 h' R G M H xs ys zs hs :=
  ⟨x.r.kpB k (hS R (.head _)), x.g.kpB k (hS G (.tail _ (.head _))), x.m.kpB k (hS M (.tail _ (.tail _ (.head _)))), x.h.kpB k (hS H (.tail _ (.tail _ (.tail _ (.head _)))))⟩
end
end Mine
namespace Mine
structure WS (w : World) (hb h : Heap) (W rl R G M H C f : Addr) (kvs : List (Str × Value)) (rs : List (Nat × Int)) (rc : Value → Rc) (D : Value → Prop) (fr : List (Addr × Obj)) (N : Int) (cs xr yg hs : List Value) : Prop where
  t : Wd w hb W rl R G M H C f kvs rs rc D
  kb : Kp hb h
  n4 : ∀ a ∈ [R, G, M, H], hb.get? a = none
  nf : ∀ p ∈ fr, hb.get? p.1 = none
  r : Rw D rs rc N cs xr yg
  x : Hx hb C rs rc cs hs
  l : L4 h R G M H xr yg cs hs
section
variable {w : World} {A : Around} {E : Value → Shared → Prop} {s : Shared} {Q : Value → Shared → Prop} {hb h₀ h h' : Heap} {L W rl R G M H C f : Addr} {m : Str → Option Value} {kvs : List (Str × Value)} {rs : List (Nat × Int)} {rc : Value → Rc} {D : Value → Prop} {cs xr yg hs xs ys zs : List Value} {N n cell : Int} {tc : Tok} {x item : Value} {outer : List Env} {fr : List (Addr × Obj)} {ls : Led}
theorem insB_cons {p : Value → Bool} {x : Value} {xs : List Value} : ∃ a b, insB p x xs = a :: b := by
  cases xs with
  | nil => exact ⟨_, _, rfl⟩
  | cons y ys =>
    rw [insB]
    split
    · exact ⟨_, _, rfl⟩
    · exact ⟨_, _, rfl⟩
end
namespace N_deed_spec
noncomputable def stX0 (w : World) (A : Around) (E : Value → Shared → Prop) (s : Shared) (Q : Value → Shared → Prop) (hb : Heap) (W rl R G M H C f : Addr) (kvs : List (Str × Value)) (rs : List (Nat × Int)) (rc : Value → Rc) (D : Value → Prop) (cs xr yg hs : List Value) (N cell : Int) (tc : Tok) (outer : List Env) (fr : List (Addr × Obj)) : Prop := ∀ {x : Value} (S : WS w hb s.heap W rl R G M H C f kvs rs rc D fr N cs xr yg hs) (nd : ([R, G, M, H] ++ fr.map (·.1)).Nodup) (dx : D x) (xn : (rc x).n = N) (hr : Rm A 40) (hN : N < 40) (B : Bl A s.heap outer fr) (k : ∀ h' tk hb' cs' xr' yg' hs', Kp hb hb' → WS w hb' h' W rl R G M H C f kvs rs rc D fr (N + 1) cs' xr' yg' hs' → KpB ([R, G, M, H] ++ fr.map (·.1)) s.heap h' → Below h' fr → Q (.bool true) { s with heap := h', toks := tk }), wpAny (MM w) A (call (.ref 178) [.ref W, .int cell tc, x]) Q E s
noncomputable abbrev T := World × Around × (Value → Shared → Prop) × Shared × (Value → Shared → Prop) × Heap × Addr × Addr × Addr × Addr × Addr × Addr × Addr × Addr × (List (Str × Value)) × (List (Nat × Int)) × (Value → Rc) × (Value → Prop) × (List Value) × (List Value) × (List Value) × (List Value) × Int × Int × Tok × (List Env) × (List (Addr × Obj))
noncomputable def pX (x : T) : Prop := stX0 x.1 x.2.1 x.2.2.1 x.2.2.2.1 x.2.2.2.2.1 x.2.2.2.2.2.1 x.2.2.2.2.2.2.1 x.2.2.2.2.2.2.2.1 x.2.2.2.2.2.2.2.2.1 x.2.2.2.2.2.2.2.2.2.1 x.2.2.2.2.2.2.2.2.2.2.1 x.2.2.2.2.2.2.2.2.2.2.2.1 x.2.2.2.2.2.2.2.2.2.2.2.2.1 x.2.2.2.2.2.2.2.2.2.2.2.2.2.1 x.2.2.2.2.2.2.2.2.2.2.2.2.2.2.1 x.2.2.2.2.2.2.2.2.2.2.2.2.2.2.2.1 x.2.2.2.2.2.2.2.2.2.2.2.2.2.2.2.2.1 x.2.2.2.2.2.2.2.2.2.2.2.2.2.2.2.2.2.1 x.2.2.2.2.2.2.2.2.2.2.2.2.2.2.2.2.2.2.1 x.2.2.2.2.2.2.2.2.2.2.2.2.2.2.2.2.2.2.2.1 x.2.2.2.2.2.2.2.2.2.2.2.2.2.2.2.2.2.2.2.2.1 x.2.2.2.2.2.2.2.2.2.2.2.2.2.2.2.2.2.2.2.2.2.1 x.2.2.2.2.2.2.2.2.2.2.2.2.2.2.2.2.2.2.2.2.2.2.1 x.2.2.2.2.2.2.2.2.2.2.2.2.2.2.2.2.2.2.2.2.2.2.2.1 x.2.2.2.2.2.2.2.2.2.2.2.2.2.2.2.2.2.2.2.2.2.2.2.2.1 x.2.2.2.2.2.2.2.2.2.2.2.2.2.2.2.2.2.2.2.2.2.2.2.2.2.1 x.2.2.2.2.2.2.2.2.2.2.2.2.2.2.2.2.2.2.2.2.2.2.2.2.2.2
noncomputable def cX : T := @Classical.epsilon _ (ne2 neW (ne2 neA (ne2 neI (ne2 neS (ne2 neI (ne2 neI (ne2 neI (ne2 neI (ne2 neI (ne2 neI (ne2 neI (ne2 neI (ne2 neI (ne2 neI (ne2 neI (ne2 neI (ne2 ⟨fun _ => ⟨0, 0, 0, 0⟩⟩ (ne2 neI (ne2 neI (ne2 neI (ne2 neI (ne2 neI (ne2 neI (ne2 neI (ne2 neI (ne2 neI neI)))))))))))))))))))))))))) fun x => ¬ pX x
def w : World := cX.1
def A : Around := cX.2.1
def E : Value → Shared → Prop := cX.2.2.1
def s : Shared := cX.2.2.2.1
def Q : Value → Shared → Prop := cX.2.2.2.2.1
def hb : Heap := cX.2.2.2.2.2.1
def W : Addr := cX.2.2.2.2.2.2.1
def rl : Addr := cX.2.2.2.2.2.2.2.1
def R : Addr := cX.2.2.2.2.2.2.2.2.1
def G : Addr := cX.2.2.2.2.2.2.2.2.2.1
def M : Addr := cX.2.2.2.2.2.2.2.2.2.2.1
def H : Addr := cX.2.2.2.2.2.2.2.2.2.2.2.1
def C : Addr := cX.2.2.2.2.2.2.2.2.2.2.2.2.1
def f : Addr := cX.2.2.2.2.2.2.2.2.2.2.2.2.2.1
def kvs : List (Str × Value) := cX.2.2.2.2.2.2.2.2.2.2.2.2.2.2.1
def rs : List (Nat × Int) := cX.2.2.2.2.2.2.2.2.2.2.2.2.2.2.2.1
def rc : Value → Rc := cX.2.2.2.2.2.2.2.2.2.2.2.2.2.2.2.2.1
def D : Value → Prop := cX.2.2.2.2.2.2.2.2.2.2.2.2.2.2.2.2.2.1
def cs : List Value := cX.2.2.2.2.2.2.2.2.2.2.2.2.2.2.2.2.2.2.1
def xr : List Value := cX.2.2.2.2.2.2.2.2.2.2.2.2.2.2.2.2.2.2.2.1
def yg : List Value := cX.2.2.2.2.2.2.2.2.2.2.2.2.2.2.2.2.2.2.2.2.1
def hs : List Value := cX.2.2.2.2.2.2.2.2.2.2.2.2.2.2.2.2.2.2.2.2.2.1
def N : Int := cX.2.2.2.2.2.2.2.2.2.2.2.2.2.2.2.2.2.2.2.2.2.2.1
def cell : Int := cX.2.2.2.2.2.2.2.2.2.2.2.2.2.2.2.2.2.2.2.2.2.2.2.1
def tc : Tok := cX.2.2.2.2.2.2.2.2.2.2.2.2.2.2.2.2.2.2.2.2.2.2.2.2.1
def outer : List Env := cX.2.2.2.2.2.2.2.2.2.2.2.2.2.2.2.2.2.2.2.2.2.2.2.2.2.1
def fr : List (Addr × Obj) := cX.2.2.2.2.2.2.2.2.2.2.2.2.2.2.2.2.2.2.2.2.2.2.2.2.2.2
theorem pfX0 : stX0 w A E s Q hb W rl R G M H C f kvs rs rc D cs xr yg hs N cell tc outer fr := by
  intro x S nd dx xn hr hN B k
  obtain ⟨T, kb, n4, nf, Rr, X, l4⟩ := S
  refine callT (T.wk.x.keeps kb) (by k_is) (by k_is) hr (BindsTo.of_eq rfl) (locs rfl) (fun h₁ F₁ => ?_)
  have F := Lg.start4 l4 B.bl nd F₁ (newNone _)
  have k0 : Kp hb (hideAll s.heap ([R, G, M, H] ++ fr.map (·.1))) := hideKp kb (none4 n4 nf)
  have fin : ∀ {h' : Heap}, Kp (hideAll s.heap ([R, G, M, H] ++ fr.map (·.1))) h' → KpB ([R, G, M, H] ++ fr.map (·.1)) s.heap h' := fun k' => kpB_hide k'
  generalize hideAll s.heap ([R, G, M, H] ++ fr.map (·.1)) = h0 at F k0 fin
  have T0 := T.kp k0
  have csl : cs.length < 41 := by have := Rr.len; lia
  have hlen : hs.length < 41 := by rw [X.len]; exact csl
  have k8 : 0 ≤ cell.fmod 8 ∧ cell.fmod 8 < 8 := ⟨Int.fmod_nonneg_of_pos cell (by decide), Int.fmod_lt_of_pos cell (by decide)⟩
  refine wpAny_execs_cons (wpAny_Assign_Name (wpAny_BinOp (F.nm rfl (wpAny_Constant_int (PyProof.Rows.mod_int (by decide) (F.st fun h₂ F₂ => ?_))))))
  dsimp only
  generalize cell.fmod 8 = kd at k8 F₂
  have hx0 := T0.dr x dx
  obtain ⟨xa, xl, rfl, _⟩ := id hx0
  refine wpAny_execs_cons (wpAny_Assign_Name (tupD (args_cons (Call_ (Subscript_ (F₂.nm rfl (wpAny_Constant_str (getW T0.wk.d F₂.keep T0.v5 (callWith_C (w := w) (mycmp := .ref f) (args_cons (F₂.nm rfl (args_nil ⟨T0.kw.k.kp F₂.keep, T0.kw.newS ((hr.deep _).le (by decide)) F₂.keep (fun o h₃ tk₃ k₃ K₃ n₃ => ?_)⟩))))))))))))
  refine Exists.elim (F₂.withKey k₃ K₃) fun hB₃ z => ?_
  have F₃ := z.1
  have kr₃ := z.2.1
  have K3 := z.2.2
  clear z
  refine args_cons (Subscript_ (F₃.nm rfl (wpAny_Constant_int (recCol (k := 3) hx0 (kr₃.trans F₃.keep) (by decide) (fun t3 => ?_)))))
  refine args_cons (F₃.nm rfl (args_nil ⟨szL, fun it h₄ k₄ n₄ e₄ => ?_⟩))
  refine Exists.elim (F₃.withObj k₄ n₄ e₄) fun hB z => ?_
  have F₄ := z.1
  have kr₄ := z.2.1
  have b4 := z.2.2
  clear z
  refine F₄.st fun h₅ F₅ => ?_
  dsimp only
  have kB : Kp h0 hB := kr₃.trans kr₄
  have k1 := k0.trans kB
  have T1 := T.kp k1
  have X1 := X.kp k1
  have XB := T1.wk.x
  have tx : TupAt hB C (.ref it) (.ref xa) (rc (.ref xa)).n := ⟨it, o, t3, rfl, b4, K3.kp kr₄⟩
  have n41 : ∀ a ∈ [R, G, M, H], hB.get? a = none := fun a ha => (F₅.n4 a ha).1
  have nf1 := F₅.nf
  have done : ∀ h₆ tk₆ cs' xr' yg' hs', Kp hB h₆ → Rw D rs rc (N + 1) cs' xr' yg' → Hx hB C rs rc cs' hs' → L4 h₆ R G M H xr' yg' cs' hs' → Below h₆ fr → Q (.bool true) { s with heap := h₆, toks := tk₆ } := fun h₆ tk₆ cs' xr' yg' hs' a1 a2 a3 a4 a5 =>
    k h₆ tk₆ hB cs' xr' yg' hs' k1 ⟨T1, a1, n41, nf1, a2, a3, a4⟩ (fin (kB.trans a1)) a5
  have nH := n41 H (.tail _ (.tail _ (.tail _ (.head _))))
  have nR := n41 R (.head _)
  have nG := n41 G (.tail _ (.head _))
  have nM := n41 M (.tail _ (.tail _ (.head _)))
  have nall : ∀ a ∈ [R, G, M, H] ++ s.heap.objs.size :: fr.map (·.1), hB.get? a = none := fun a ha => by
    rcases List.mem_append.mp ha with q | q
    · exact n41 a q
    · rcases List.mem_cons.mp q with q | q
      · rw [q]; exact F₅.nL
      · obtain ⟨p, hp, e⟩ := List.mem_map.mp q
        rw [← e]; exact nf1 p hp
  have lr : xr.length < 60 := by rw [Rr.pr.length_eq]; lia
  have lg : yg.length < 60 := by rw [Rr.pg.length_eq]; lia
  have dr : ∀ v ∈ xr, RecAt hB v (rc v) := fun v hv => T1.dr v (Rr.rc_ v (Rr.pr.mem_iff.mp hv))
  have dg : ∀ v ∈ yg, RecAt hB v (rc v) := fun v hv => T1.dr v (Rr.rc_ v (Rr.pg.mem_iff.mp hv))
  by_cases q4 : kd < 4
  · refine wpAny_execs_cons (wpAny_If (wpAny_isTrue_Compare1 (F₅.nm rfl (wpAny_Constant_int (lt_int (wpAny_truthy_bool ?_))))))
    rw [if_pos (by simpa using q4)]
    refine wpAny_execs_cons (wpAny_Expr (Call_ (nmG (XB.keeps F₅.keep) (by k_is) (callWith_F (args_cons (F₅.nm rfl (args_cons (F₅.nm rfl (args_nil ⟨FnAt.of (XB.keeps F₅.keep) (by k_is), ?_⟩)))))))))
    refine lay_spec (rc := rc) XB T1.wk.d T1.wk.v1 T1.wk.v2 T1.wk.v3 T1.wk.v4 T1.wk.rr T1.wk.ok (T1.dr _ dx) dr dg ((hr.deep _).le (by decide)) F₅.keep nR nG nM T1.wk.nd F₅.l4.r F₅.l4.g F₅.l4.m lr lg (by lia) (fun h₆ tk₆ k₆ a1 a2 a3 => ?_)
    have F₆ := F₅.but4 k₆ a1 a2 a3
    dsimp only
    refine wpAny_execs_cons (wpAny_Return_some (wpAny_Compare1 (Call_ (nmG (XB.keeps F₆.keep) (by k_is) (callWith_F (args_cons (Subscript_ (F₆.nm rfl (wpAny_Constant_str (getW T1.wk.d F₆.keep T1.v6 (args_cons (F₆.nm rfl (args_nil ⟨FnAt.of (XB.keeps F₆.keep) (by k_is), ?_⟩)))))))))))))
    refine push_spec2 T1 Rr X1 tx dx xn ((hr.deep _).le (by decide)) F₆.keep nH F₆.l4.h (by lia) (fun h₇ tk₇ hs' k₇ l₇ x₇ => ?_)
    have F₇ : Lg hB s.heap.objs.size h₇ _ (led4 R G M H _ _ _ hs' ++ frL fr) := F₆.butL 3 rfl k₇ l₇
    refine wpAny_Constant_none (is_none_none ?_)
    exact done _ _ _ _ _ _ F₇.keep (Rr.lay T.wk.ok dx xn) x₇ F₇.l4 F₇.below
  refine wpAny_execs_cons (wpAny_If (wpAny_isTrue_Compare1 (F₅.nm rfl (wpAny_Constant_int (lt_int (wpAny_truthy_bool ?_))))))
  rw [if_neg (by simpa using q4)]
  refine wpAny_execs_nil ?_
  by_cases q5 : kd = 4
  · refine wpAny_execs_cons (wpAny_If (wpAny_isTrue_Compare1 (F₅.nm rfl (wpAny_Constant_int (eq_int (wpAny_truthy_bool ?_))))))
    rw [if_pos (by simpa using q5)]
    refine wpAny_execs_cons (wpAny_Return_some (Call_ (nmG (XB.keeps F₅.keep) (by k_is) (callWith_F (args_cons (F₅.nm rfl (args_cons (wpAny_Constant_none (args_nil ⟨FnAt.of (XB.keeps F₅.keep) (by k_is), ?_⟩)))))))))
    refine taken_in T1 n41 F₅.nL nf1 F₅.nd5 Rr X1 .none ((hr.deep _).le (by decide)) F₅.keep F₅.l4 (by lia) (F₅.frames B rfl rfl) (fun h₆ tk₆ cs' xr' yg' hs' a1 a2 a3 a4 a5 _ => ?_)
    exact done _ _ _ _ _ _ (KpB.kpOf F₅.keep a4 nall) (a1.mono (show N ≤ N + 1 by lia)) a2 a3 a5
  refine wpAny_execs_cons (wpAny_If (wpAny_isTrue_Compare1 (F₅.nm rfl (wpAny_Constant_int (eq_int (wpAny_truthy_bool ?_))))))
  rw [if_neg (by simpa using q5)]
  refine wpAny_execs_nil ?_
  by_cases q6 : kd = 5
  · refine wpAny_execs_cons (wpAny_If (wpAny_isTrue_Compare1 (F₅.nm rfl (wpAny_Constant_int (eq_int (wpAny_truthy_bool ?_))))))
    rw [if_pos (by simpa using q6)]
    refine wpAny_execs_cons (wpAny_Return_some (Call_ (nmG (XB.keeps F₅.keep) (by k_is) (callWith_F (args_cons (F₅.nm rfl (args_cons (F₅.nm rfl (args_nil ⟨FnAt.of (XB.keeps F₅.keep) (by k_is), ?_⟩)))))))))
    refine taken_in T1 n41 F₅.nL nf1 F₅.nd5 Rr X1 (.some tx dx xn) ((hr.deep _).le (by decide)) F₅.keep F₅.l4 (by lia) (F₅.frames B rfl rfl) (fun h₆ tk₆ cs' xr' yg' hs' a1 a2 a3 a4 a5 _ => ?_)
    exact done _ _ _ _ _ _ (KpB.kpOf F₅.keep a4 nall) a1 a2 a3 a5
  refine wpAny_execs_cons (wpAny_If (wpAny_isTrue_Compare1 (F₅.nm rfl (wpAny_Constant_int (eq_int (wpAny_truthy_bool ?_))))))
  rw [if_neg (by simpa using q6)]
  refine wpAny_execs_nil ?_
  by_cases q7 : kd = 6
  · refine wpAny_execs_cons (wpAny_If (wpAny_isTrue_Compare1 (F₅.nm rfl (wpAny_Constant_int (eq_int (wpAny_truthy_bool ?_))))))
    rw [if_pos (by simpa using q7)]
    refine wpAny_execs_cons (wpAny_Expr (Call_ (nmG (XB.keeps F₅.keep) (by k_is) (callWith_F (args_cons (F₅.nm rfl (args_cons (F₅.nm rfl (args_nil ⟨FnAt.of (XB.keeps F₅.keep) (by k_is), ?_⟩)))))))))
    refine lay_spec (rc := rc) XB T1.wk.d T1.wk.v1 T1.wk.v2 T1.wk.v3 T1.wk.v4 T1.wk.rr T1.wk.ok (T1.dr _ dx) dr dg ((hr.deep _).le (by decide)) F₅.keep nR nG nM T1.wk.nd F₅.l4.r F₅.l4.g F₅.l4.m lr lg (by lia) (fun h₆ tk₆ k₆ a1 a2 a3 => ?_)
    have F₆ := F₅.but4 k₆ a1 a2 a3
    dsimp only
    have Rl := Rr.lay T.wk.ok dx xn
    obtain ⟨x0, xr', ex0⟩ : ∃ a b, insB (fun y => aheadR rs (rc (.ref xa)) (rc y)) (.ref xa) xr = a :: b := insB_cons
    rw [ex0] at Rl F₆
    refine wpAny_execs_cons (wpAny_Return_some (Call_ (nmG (XB.keeps F₆.keep) (by k_is) (callWith_F (args_cons (F₆.nm rfl ?_))))))
    refine args_cons (Call_ (nmG (XB.keeps F₆.keep) (by k_is) (callWith_F (args_cons (Subscript_ (F₆.nm rfl (wpAny_Constant_str (getW T1.wk.d F₆.keep T1.v6 (args_cons (F₆.nm rfl (args_nil ⟨FnAt.of (XB.keeps F₆.keep) (by k_is), ?_⟩)))))))))))
    refine pushpop_spec T1 Rl X1 tx ((hr.deep _).le (by decide)) F₆.keep nH F₆.l4.h (by lia) (fun h₇ tk₇ told hs' k₇ l₇ t₇ x₇ => ?_)
    have F₇ : Lg hB s.heap.objs.size h₇ _ (led4 R G M H _ _ _ hs' ++ frL fr) := F₆.butL 3 rfl k₇ l₇
    obtain ⟨tt, tkk, ttn, rfl, et, _⟩ := id t₇
    refine args_cons (wpAny_Constant_none (args_nil ⟨FnAt.of (XB.keeps F₇.keep) (by k_is), ?_⟩))
    obtain ⟨ya, yb, za, zb, ey, ez, hya, hza, Rr'⟩ := Rl.out
    have d0 : D x0 := Rl.rc_ x0 (Rl.pr.mem_iff.mp (.head _))
    have dx' : ∀ v ∈ xr', RecAt hB v (rc v) := fun v hv => T1.dr v (Rl.rc_ v (Rl.pr.mem_iff.mp (.tail _ hv)))
    have dy' : ∀ v ∈ yb, RecAt hB v (rc v) := fun v hv => T1.dr v (Rl.rc_ v (Rl.pg.mem_iff.mp (by rw [ey]; exact List.mem_append_right _ (.tail _ hv))))
    have zc : (cs ++ [Value.ref xa]).length < 50 := by rw [List.length_append]; simp; lia
    have zl : (ya ++ x0 :: yb).length < 50 := by rw [← ey, Rl.pg.length_eq]; exact zc
    have zm : (za ++ x0 :: zb).length < 50 := by rw [← ez]; exact zc
    have zx : xr'.length < 50 := by have := Rl.pr.length_eq; rw [List.length_cons] at this; lia
    refine out_spec (rc := rc) (x0 := x0) (xs := xr') (ya := ya) (yb := yb) (za := za) (zb := zb) T1.wk nR nG nM (T1.dr x0 d0) dx' (fun v hv => ⟨T1.dr v (hya v hv).1, (hya v hv).2⟩) dy' (fun v hv => ⟨T1.dr v (hza v hv).1, (hza v hv).2⟩) et .none ((hr.deep _).le (by decide)) F₇.keep F₇.l4.r (ey ▸ F₇.l4.g) (ez ▸ F₇.l4.m) zx zl zm (fun h₈ tk₈ k₈ c1 c2 c3 => ?_)
    have F₈ := F₇.but4 k₈ c1 c2 c3
    exact done _ _ _ _ _ _ F₈.keep Rr' (x₇.perm Rr'.pr) F₈.l4 F₈.below
  refine wpAny_execs_cons (wpAny_If (wpAny_isTrue_Compare1 (F₅.nm rfl (wpAny_Constant_int (eq_int (wpAny_truthy_bool ?_))))))
  rw [if_neg (by simpa using q7)]
  refine wpAny_execs_nil ?_
  refine wpAny_execs_cons (wpAny_Return_some (Call_ (nmG (XB.keeps F₅.keep) (by k_is) (callWith_F (args_cons (F₅.nm rfl (args_cons (F₅.nm rfl ?_))))))))
  refine args_cons (wpAny_BinOp (wpAny_BinOp (wpAny_BinOp (F₅.nm rfl (wpAny_Constant_int ?_)))))
  refine PyProof.Rows.floordiv_int (b := 8) (by decide) ?_ (.inl (PyProof.noPylong_small (by decide)))
  refine wpAny_BinOp (Call_ (nmB (XB.keeps F₅.keep) (by k_is) (by k_is) (PyProof.Rows.callWith_builtin1 (args_cons (Subscript_ (F₅.nm rfl (wpAny_Constant_str (getW T1.wk.d F₅.keep T1.wk.v4 (args_nil (lenL F₅.l4.m (by lia) (fun tl => wpAny_Constant_int (PyProof.Rows.add_int ?_))))))))))))
  have lp : (cs.length : Int) + 3 ≠ 0 := by lia
  refine PyProof.Rows.mod_int lp (wpAny_Constant_int (PyProof.Rows.sub_int (args_nil ⟨FnAt.of (XB.keeps F₅.keep) (by k_is), ?_⟩)))
  have w1 := Int.fmod_nonneg_of_pos (cell.fdiv 8) (b := (cs.length : Int) + 3) (by lia)
  have w2 := Int.fmod_lt_of_pos (cell.fdiv 8) (b := (cs.length : Int) + 3) (by lia)
  refine Exists.elim F₅.freeze4 fun hA zA => ?_
  have FA := zA.1
  have kA := zA.2.1
  have lA := zA.2.2
  have off5 := F₅.off5
  refine asked_in (T1.kp kA) Rr (by lia) lA.m lA.r lA.g dx ((hr.deep _).le (by decide)) FA.keep FA.nL (fun p hp => (FA.off (p.1, upS p.2) (List.mem_map_of_mem hp)).2) F₅.nd6 (F₅.frames B rfl rfl) (by lia) (by lia) (fun h₆ tk₆ k₆ b₆ => ?_)
  exact done _ _ cs xr yg hs (KpB.kpOf F₅.keep k₆ (fun a ha => nall a (List.mem_append_right _ ha))) (Rr.mono (by lia)) X1 (F₅.l4.kpB k₆ off5) b₆
theorem allX (x : T) : pX x := eps (P := pX) pfX0
end N_deed_spec
theorem deed_spec {w : World} {A : Around} {E : Value → Shared → Prop} {s : Shared} {Q : Value → Shared → Prop} {hb : Heap} {W rl R G M H C f : Addr} {kvs : List (Str × Value)} {rs : List (Nat × Int)} {rc : Value → Rc} {D : Value → Prop} {cs xr yg hs : List Value} {N cell : Int} {tc : Tok} {outer : List Env} {fr : List (Addr × Obj)} : N_deed_spec.stX0 w A E s Q hb W rl R G M H C f kvs rs rc D cs xr yg hs N cell tc outer fr := (N_deed_spec.allX (w, A, E, s, Q, hb, W, rl, R, G, M, H, C, f, kvs, rs, rc, D, cs, xr, yg, hs, N, cell, tc, outer, fr))
section
variable {w : World} {A : Around} {E : Value → Shared → Prop} {s : Shared} {Q : Value → Shared → Prop} {hb h₀ h h' : Heap} {L W rl R G M H C f : Addr} {m : Str → Option Value} {kvs : List (Str × Value)} {rs : List (Nat × Int)} {rc : Value → Rc} {D : Value → Prop} {cs xr yg hs xs ys zs : List Value} {N n cell : Int} {tc : Tok} {x item : Value} {outer : List Env} {fr : List (Addr × Obj)} {ls : Led}
end
end Mine
namespace Mine
noncomputable def Soft (o : Obj) : Prop := (∃ xs n, o.data = .seq xs n) ∨ ∃ es ep, o.data = .dict es ep ∧ nsFind es "__lt__" = none
theorem KCl.hard {w : World} {h h' : Heap} {C : Addr} {mycmp : Value} (x : KCl w h C mycmp) (g : ∀ b o, h.get? b = some o → ¬ Soft o → h'.get? b = some o) : KCl w h' C mycmp := by
  obtain ⟨N, MD, mc, bT, tn, t, fl, sl, f0, f1, f2, f3, f4, f5, st, tk, n, a1, a2, a3, ⟨o, a4, a5⟩, m0, m1, m2, m3, m4, m5⟩ := x
  have g' : ∀ b o, h.get? b = some o → ((∀ ys n, o.data ≠ .seq ys n) ∧ ∀ es n, o.data ≠ .dict es n) → h'.get? b = some o := fun b o e q => g b o e (fun z => by
    rcases z with ⟨_, _, z⟩ | ⟨_, _, z, _⟩
    · exact q.1 _ _ z
    · exact q.2 _ _ z)
  have mt : ∀ {i cl f}, Meth w h i cl f → Meth w h' i cl f := fun ⟨name, params, body, scope, doc, pm, c, ctv, qual, e, q, r⟩ =>
    ⟨name, params, body, scope, doc, pm, c, ctv, qual, e, g' _ _ q ⟨fun _ _ => nofun, fun _ _ => nofun⟩, by obtain ⟨a, o, vs, t, e1, e2, e3, r⟩ := r; exact ⟨a, o, vs, t, e1, g' _ _ e2 (by rw [e3]; exact ⟨fun _ _ => nofun, fun _ _ => nofun⟩), e3, r⟩⟩
  refine ⟨N, MD, mc, bT, tn, t, fl, sl, f0, f1, f2, f3, f4, f5, st, tk, n, g' _ _ a1 ⟨fun _ _ => nofun, fun _ _ => nofun⟩, g _ _ a2 (fun z => ?_), g' _ _ a3 ⟨fun _ _ => nofun, fun _ _ => nofun⟩, ⟨o, g' _ _ a4 (by rw [a5]; exact ⟨fun _ _ => nofun, fun _ _ => nofun⟩), a5⟩, mt m0, mt m1, mt m2, mt m3, mt m4, mt m5⟩
  rcases z with ⟨_, _, z⟩ | ⟨_, _, z, z'⟩
  · cases z
  · cases z
    cases z'
noncomputable def TupsR (h : Heap) (C : Addr) (num : Value → Int) (vs xs : List Value) : Prop := ∀ (i : Nat) (v : Value), xs[i]? = some v → ∃ r, vs[i]? = some r ∧ TupAt h C v r (num r)
theorem TupsR.kp {h h' : Heap} {C : Addr} {num : Value → Int} {vs xs : List Value} (x : TupsR h C num vs xs) (k : Kp h h') : TupsR h' C num vs xs := fun i v e => by obtain ⟨r, a, b⟩ := x i v e; exact ⟨r, a, b.kp k⟩
inductive HcI (s : Shared) (hB0 : Heap) (Cf J l Do C : Addr) (num : Value → Int) (vs : List Value) (ls : Led) (n : Nat) : Shared → Prop
  | mk {h hB : Heap} {tk : Nat} {mC : Str → Option Value} {xs : List Value} (F : Lg hB Cf h mC ((J, isLI l xs.length) :: (Do, isL xs) :: ls)) (kB : Kp hB0 hB) (tu : TupsR hB C num vs xs) (hn : n + xs.length = vs.length) : HcI s hB0 Cf J l Do C num vs ls n { s with heap := h, toks := tk }
structure EvH (scope : Scope) (env : Env) (cW : Addr) : Prop where
  hclos : closureFor scope env = pure [(Str.ofString "world", cW)]
  hcell : ∀ y ∈ scope.names, y.2 ≠ .cell
  hkind : scope.kind = .function
  hnames : ∀ y ∈ scope.names, y.2 = .local → scope.names.lookup y.1 = some .local
  c2 : ∀ C, (compEnvC scope [(Str.ofString "world", cW)] C env).scope.kind = .function
  c3 : ∀ C, (compEnvC scope [(Str.ofString "world", cW)] C env).kindOf "record" = some .local
  c4 : ∀ C, (compEnvC scope [(Str.ofString "world", cW)] C env).kindOf "world" = some .cell
  c5 : ∀ C, (compEnvC scope [(Str.ofString "world", cW)] C env).cells.lookup (Str.ofString "world") = some cW
section
variable {w : World} {A : Around} {E : Value → Shared → Prop} {s : Shared} {hB : Heap} {L l cW Wa C f : Addr} {vs : List Value} {m : Str → Option Value} {ls : Led} {env : Env} {Q : Value → Shared → Prop} {p1 p2 p3 p4 p5 p6 p7 p8 p9 p10 q1 q2 q3 : Pos} {scope : Scope} {kvs : List (Str × Value)} {rc : Value → Rc} {D : Value → Prop} {c : Value → Value → Int} {k0 k1 k2 : Nat}
end
namespace N_tupComp
noncomputable def stX0 (w : World) (A : Around) (E : Value → Shared → Prop) (s : Shared) (hB : Heap) (L l cW Wa C f : Addr) (vs : List Value) (m : Str → Option Value) (ls : Led) (env : Env) (Q : Value → Shared → Prop) (p1 p2 p3 p4 p5 p6 p7 p8 p9 p10 q1 q2 q3 : Pos) (scope : Scope) (kvs : List (Str × Value)) (rc : Value → Rc) (D : Value → Prop) (c : Value → Value → Int) (k0 k1 k2 : Nat) : Prop := ∀ (V : EvH scope env cW) (W : KW w hB C f D c) (hr : Rm A 8) (F : Lg hB L s.heap m ls) (hl : PL hB l vs) (hd : hB.DictOf (SK w) Wa kvs) (v5 : valueAt kvs (Str.ofString "key") = some (.ref C)) (hc : hB.IsCell cW (some (.ref Wa))) (dr : ∀ v ∈ vs, RecAt hB v (rc v)) (hm : m (Str.ofString "records") = some (.ref l)) (h60 : vs.length < 60) (eL : env.locals = L) (ek : env.scope.kind = .function) (e5 : env.kindOf "records" = some .local) (k : ∀ r h' tk hB' xs, Lg hB' L h' m ((r, isL xs) :: ls) → Kp hB hB' → s.heap.get? r = none → xs.length = vs.length → TupsR hB' C (fun v => (rc v).n) vs xs → Q (.ref r) { s with heap := h', toks := tk }) (hs : ∀ x, foldedSetIterable (.Name "records" q2) env x = pure x), wpAny (MM w) A (eval (.ListComp (.Tuple [.Call (.Subscript (.Name "world" p1) (.Constant (.str "key") k0 p2) p3) [.Name "record" p4] [] p5, .Subscript (.Name "record" p6) (.Constant (.int 3) k1 p7) p8, .Name "record" p9] k2 p10) [⟨.Name "record" q1, .Name "records" q2, [], 0⟩] scope q3) env) Q E s
noncomputable abbrev T := World × Around × (Value → Shared → Prop) × Shared × Heap × Addr × Addr × Addr × Addr × Addr × Addr × (List Value) × (Str → Option Value) × Led × Env × (Value → Shared → Prop) × Pos × Pos × Pos × Pos × Pos × Pos × Pos × Pos × Pos × Pos × Pos × Pos × Pos × Scope × (List (Str × Value)) × (Value → Rc) × (Value → Prop) × (Value → Value → Int) × Nat × Nat × Nat
noncomputable def pX (x : T) : Prop := stX0 x.1 x.2.1 x.2.2.1 x.2.2.2.1 x.2.2.2.2.1 x.2.2.2.2.2.1 x.2.2.2.2.2.2.1 x.2.2.2.2.2.2.2.1 x.2.2.2.2.2.2.2.2.1 x.2.2.2.2.2.2.2.2.2.1 x.2.2.2.2.2.2.2.2.2.2.1 x.2.2.2.2.2.2.2.2.2.2.2.1 x.2.2.2.2.2.2.2.2.2.2.2.2.1 x.2.2.2.2.2.2.2.2.2.2.2.2.2.1 x.2.2.2.2.2.2.2.2.2.2.2.2.2.2.1 x.2.2.2.2.2.2.2.2.2.2.2.2.2.2.2.1 x.2.2.2.2.2.2.2.2.2.2.2.2.2.2.2.2.1 x.2.2.2.2.2.2.2.2.2.2.2.2.2.2.2.2.2.1 x.2.2.2.2.2.2.2.2.2.2.2.2.2.2.2.2.2.2.1 x.2.2.2.2.2.2.2.2.2.2.2.2.2.2.2.2.2.2.2.1 x.2.2.2.2.2.2.2.2.2.2.2.2.2.2.2.2.2.2.2.2.1 x.2.2.2.2.2.2.2.2.2.2.2.2.2.2.2.2.2.2.2.2.2.1 x.2.2.2.2.2.2.2.2.2.2.2.2.2.2.2.2.2.2.2.2.2.2.1 x.2.2.2.2.2.2.2.2.2.2.2.2.2.2.2.2.2.2.2.2.2.2.2.1 x.2.2.2.2.2.2.2.2.2.2.2.2.2.2.2.2.2.2.2.2.2.2.2.2.1 x.2.2.2.2.2.2.2.2.2.2.2.2.2.2.2.2.2.2.2.2.2.2.2.2.2.1 x.2.2.2.2.2.2.2.2.2.2.2.2.2.2.2.2.2.2.2.2.2.2.2.2.2.2.1 x.2.2.2.2.2.2.2.2.2.2.2.2.2.2.2.2.2.2.2.2.2.2.2.2.2.2.2.1 x.2.2.2.2.2.2.2.2.2.2.2.2.2.2.2.2.2.2.2.2.2.2.2.2.2.2.2.2.1 x.2.2.2.2.2.2.2.2.2.2.2.2.2.2.2.2.2.2.2.2.2.2.2.2.2.2.2.2.2.1 x.2.2.2.2.2.2.2.2.2.2.2.2.2.2.2.2.2.2.2.2.2.2.2.2.2.2.2.2.2.2.1 x.2.2.2.2.2.2.2.2.2.2.2.2.2.2.2.2.2.2.2.2.2.2.2.2.2.2.2.2.2.2.2.1 x.2.2.2.2.2.2.2.2.2.2.2.2.2.2.2.2.2.2.2.2.2.2.2.2.2.2.2.2.2.2.2.2.1 x.2.2.2.2.2.2.2.2.2.2.2.2.2.2.2.2.2.2.2.2.2.2.2.2.2.2.2.2.2.2.2.2.2.1 x.2.2.2.2.2.2.2.2.2.2.2.2.2.2.2.2.2.2.2.2.2.2.2.2.2.2.2.2.2.2.2.2.2.2.1 x.2.2.2.2.2.2.2.2.2.2.2.2.2.2.2.2.2.2.2.2.2.2.2.2.2.2.2.2.2.2.2.2.2.2.2.1 x.2.2.2.2.2.2.2.2.2.2.2.2.2.2.2.2.2.2.2.2.2.2.2.2.2.2.2.2.2.2.2.2.2.2.2.2
noncomputable def cX : T := @Classical.epsilon _ (ne2 neW (ne2 neA (ne2 neI (ne2 neS (ne2 neI (ne2 neI (ne2 neI (ne2 neI (ne2 neI (ne2 neI (ne2 neI (ne2 neI (ne2 neI (ne2 neI (ne2 neI (ne2 neI (ne2 neI (ne2 neI (ne2 neI (ne2 neI (ne2 neI (ne2 neI (ne2 neI (ne2 neI (ne2 neI (ne2 neI (ne2 neI (ne2 neI (ne2 neI (ne2 neI (ne2 neI (ne2 ⟨fun _ => ⟨0, 0, 0, 0⟩⟩ (ne2 neI (ne2 neI (ne2 neI (ne2 neI neI)))))))))))))))))))))))))))))))))))) fun x => ¬ pX x
def w : World := cX.1
def A : Around := cX.2.1
def E : Value → Shared → Prop := cX.2.2.1
def s : Shared := cX.2.2.2.1
def hB : Heap := cX.2.2.2.2.1
def L : Addr := cX.2.2.2.2.2.1
def l : Addr := cX.2.2.2.2.2.2.1
def cW : Addr := cX.2.2.2.2.2.2.2.1
def Wa : Addr := cX.2.2.2.2.2.2.2.2.1
def C : Addr := cX.2.2.2.2.2.2.2.2.2.1
def f : Addr := cX.2.2.2.2.2.2.2.2.2.2.1
def vs : List Value := cX.2.2.2.2.2.2.2.2.2.2.2.1
def m : Str → Option Value := cX.2.2.2.2.2.2.2.2.2.2.2.2.1
def ls : Led := cX.2.2.2.2.2.2.2.2.2.2.2.2.2.1
def env : Env := cX.2.2.2.2.2.2.2.2.2.2.2.2.2.2.1
def Q : Value → Shared → Prop := cX.2.2.2.2.2.2.2.2.2.2.2.2.2.2.2.1
def p1 : Pos := cX.2.2.2.2.2.2.2.2.2.2.2.2.2.2.2.2.1
def p2 : Pos := cX.2.2.2.2.2.2.2.2.2.2.2.2.2.2.2.2.2.1
def p3 : Pos := cX.2.2.2.2.2.2.2.2.2.2.2.2.2.2.2.2.2.2.1
def p4 : Pos := cX.2.2.2.2.2.2.2.2.2.2.2.2.2.2.2.2.2.2.2.1
def p5 : Pos := cX.2.2.2.2.2.2.2.2.2.2.2.2.2.2.2.2.2.2.2.2.1
def p6 : Pos := cX.2.2.2.2.2.2.2.2.2.2.2.2.2.2.2.2.2.2.2.2.2.1
def p7 : Pos := cX.2.2.2.2.2.2.2.2.2.2.2.2.2.2.2.2.2.2.2.2.2.2.1
def p8 : Pos := cX.2.2.2.2.2.2.2.2.2.2.2.2.2.2.2.2.2.2.2.2.2.2.2.1
def p9 : Pos := cX.2.2.2.2.2.2.2.2.2.2.2.2.2.2.2.2.2.2.2.2.2.2.2.2.1
def p10 : Pos := cX.2.2.2.2.2.2.2.2.2.2.2.2.2.2.2.2.2.2.2.2.2.2.2.2.2.1
def q1 : Pos := cX.2.2.2.2.2.2.2.2.2.2.2.2.2.2.2.2.2.2.2.2.2.2.2.2.2.2.1
def q2 : Pos := cX.2.2.2.2.2.2.2.2.2.2.2.2.2.2.2.2.2.2.2.2.2.2.2.2.2.2.2.1
def q3 : Pos := cX.2.2.2.2.2.2.2.2.2.2.2.2.2.2.2.2.2.2.2.2.2.2.2.2.2.2.2.2.1
def scope : Scope := cX.2.2.2.2.2.2.2.2.2.2.2.2.2.2.2.2.2.2.2.2.2.2.2.2.2.2.2.2.2.1
def kvs : List (Str × Value) := cX.2.2.2.2.2.2.2.2.2.2.2.2.2.2.2.2.2.2.2.2.2.2.2.2.2.2.2.2.2.2.1
def rc : Value → Rc := cX.2.2.2.2.2.2.2.2.2.2.2.2.2.2.2.2.2.2.2.2.2.2.2.2.2.2.2.2.2.2.2.1
def D : Value → Prop := cX.2.2.2.2.2.2.2.2.2.2.2.2.2.2.2.2.2.2.2.2.2.2.2.2.2.2.2.2.2.2.2.2.1
def c : Value → Value → Int := cX.2.2.2.2.2.2.2.2.2.2.2.2.2.2.2.2.2.2.2.2.2.2.2.2.2.2.2.2.2.2.2.2.2.1
def k0 : Nat := cX.2.2.2.2.2.2.2.2.2.2.2.2.2.2.2.2.2.2.2.2.2.2.2.2.2.2.2.2.2.2.2.2.2.2.1
def k1 : Nat := cX.2.2.2.2.2.2.2.2.2.2.2.2.2.2.2.2.2.2.2.2.2.2.2.2.2.2.2.2.2.2.2.2.2.2.2.1
def k2 : Nat := cX.2.2.2.2.2.2.2.2.2.2.2.2.2.2.2.2.2.2.2.2.2.2.2.2.2.2.2.2.2.2.2.2.2.2.2.2
theorem pfX0 : stX0 w A E s hB L l cW Wa C f vs m ls env Q p1 p2 p3 p4 p5 p6 p7 p8 p9 p10 q1 q2 q3 scope kvs rc D c k0 k1 k2 := by
  intro V W hr F hl hd v5 hc dr hm h60 eL ek e5 k hs
  refine listComp V.hclos V.hcell V.hkind V.hnames (F.nm hm ?_ eL ek e5) hs
  refine iterL (hl.kp F.keep) (fun J h₁ k₁ n₁ i₁ => ?_)
  have F₁ := F.freshLI k₁ n₁ i₁
  intro Do Cf h₂ k₂ nD nC dc lD nsC
  have nr : s.heap.get? Do = none := none_base k₁ nD
  obtain ⟨F₂, kr⟩ := F₁.inner2 k₂ nD nC dc lD nsC
  generalize hideAll h₂ _ = hB₂ at F₂ kr
  have F₃ : Lg hB₂ Cf h₂ _ ((J, isLI l 0) :: (Do, isL []) :: (L, isNs m) :: ls) := F₂.perm ((List.perm_middle (l₁ := [_, _])).trans (List.Perm.cons _ (List.Perm.swap _ _ _)))
  clear F₂
  refine ⟨fun Q' E' hq => wpAny_pyIter_listiter (F₃.li (.head _)) hq, ?_⟩
  refine compLoopG (HcI s hB₂ Cf J l Do C (fun v => (rc v).n) vs ((L, isNs m) :: ls)) ?_ vs.length (.mk (xs := []) F₃ (Kp.refl _) (fun i v e => by simp at e) rfl)
  rintro n s' ⟨F, kB, tu, hn⟩
  rename_i h' hB' tk mC xs
  have kb := kr.trans kB
  by_cases hend : vs.length ≤ xs.length
  · refine F.lend hr.han (hl.kp kb) hend (fun h₃ F₃ => ?_)
    dsimp only
    refine Lg.endRet (s' := { s with heap := h₃, toks := tk }) (F₃.perm (List.Perm.swap _ _ _)) (fun h₄ F₄ => ?_)
    exact k Do h₄ tk hB' xs F₄ kb nr (by lia) tu
  · have hlt : xs.length < vs.length := by lia
    have hv : vs[xs.length]? = some vs[xs.length] := List.getElem?_eq_getElem hlt
    generalize vs[xs.length] = v at hv
    have hrv := (dr v (List.mem_of_getElem? hv)).kp kb
    refine F.lnext 0 rfl (hl.kp kb) hv (fun h₃ F₃ => ?_)
    have F₃ : Lg hB' Cf h₃ _ ((J, isLI l (xs.length + 1)) :: (Do, isL xs) :: (L, isNs m) :: ls) := F₃
    dsimp only
    refine wpAny_of_eq (a := ()) rfl ?_
    refine wpAny_assign_Name (F₃.st (fun h₄ F₄ => ?_) rfl (V.c2 _) (V.c3 _))
    refine tupD ?_
    refine args_cons (Call_ (Subscript_ ?_))
    refine nmC (hc.keeps kb) F₄.keep ?_ (V.c5 _) (V.c2 _) (V.c4 _)
    refine wpAny_Constant_str (getW (hd.keep kb) F₄.keep v5 ?_)
    refine callWith_C (w := w) (mycmp := .ref f) ?_
    refine args_cons (F₄.nm rfl ?_ rfl (V.c2 _) (V.c3 _))
    refine args_nil ⟨W.k.kp (kb.trans F₄.keep), ?_⟩
    refine W.newS (hr.le (by decide)) (kb.trans F₄.keep) (fun o h₅ tk₅ k₅ K₅ n₅ => ?_)
    refine Exists.elim (F₄.withKey k₅ K₅) fun hB₅ z => ?_
    have F₅ := z.1
    have kr₅ := z.2.1
    have K5 := z.2.2
    clear z
    refine args_cons (Subscript_ (F₅.nm rfl ?_ rfl (V.c2 _) (V.c3 _)))
    refine wpAny_Constant_int (recCol (k := 3) hrv (kr₅.trans F₅.keep) (by decide) (fun t3 => ?_))
    refine args_cons (F₅.nm rfl ?_ rfl (V.c2 _) (V.c3 _))
    refine args_nil ⟨szL, fun it h₆ k₆ n₆ e₆ => ?_⟩
    refine Exists.elim (F₅.withObj k₆ n₆ e₆) fun hB₆ z => ?_
    have F₆ := z.1
    have kr₆ := z.2.1
    have b6 := z.2.2
    clear z
    refine appendL (F₆.pl (.tail _ (.head _))) (by lia) (fun h₇ l₇ s₇ => ?_)
    have F₇ : Lg hB₆ Cf h₇ _ ((J, isLI l (xs.length + 1)) :: (Do, isL (xs ++ [Value.ref it])) :: (L, isNs m) :: ls) := F₆.putL 1 rfl s₇ l₇
    have el : xs.length + 1 = (xs ++ [Value.ref it]).length := by simp
    rw [el] at F₇
    refine ⟨n - 1, by lia, .mk F₇ (kB.trans (kr₅.trans kr₆)) (fun i u hu => ?_) (by rw [← el]; lia)⟩
    by_cases hi : i < xs.length
    · rw [List.getElem?_append_left hi] at hu
      exact (tu.kp (kr₅.trans kr₆)) i u hu
    · have hi' : i = xs.length := by
        have := (List.getElem?_eq_some_iff.mp hu).1
        rw [← el] at this; lia
      subst hi'
      rw [List.getElem?_append_right (Nat.le_refl _), Nat.sub_self] at hu
      cases hu
      exact ⟨v, hv, it, o, t3, rfl, b6, K5.kp kr₆⟩
theorem allX (x : T) : pX x := eps (P := pX) pfX0
end N_tupComp
theorem tupComp {w : World} {A : Around} {E : Value → Shared → Prop} {s : Shared} {hB : Heap} {L : Addr} {l : Addr} {cW : Addr} {Wa : Addr} {C : Addr} {f : Addr} {vs : List Value} {m : Str → Option Value} {ls : Led} {env : Env} {Q : Value → Shared → Prop} {p1 : Pos} {p2 : Pos} {p3 : Pos} {p4 : Pos} {p5 : Pos} {p6 : Pos} {p7 : Pos} {p8 : Pos} {p9 : Pos} {p10 : Pos} {q1 : Pos} {q2 : Pos} {q3 : Pos} {scope : Scope} {kvs : List (Str × Value)} {rc : Value → Rc} {D : Value → Prop} {c : Value → Value → Int} {k0 : Nat} {k1 : Nat} {k2 : Nat} (V : EvH scope env cW) (W : KW w hB C f D c) (hr : Rm A 8) (F : Lg hB L s.heap m ls) (hl : PL hB l vs) (hd : hB.DictOf (SK w) Wa kvs) (v5 : valueAt kvs (Str.ofString "key") = some (.ref C)) (hc : hB.IsCell cW (some (.ref Wa))) (dr : ∀ v ∈ vs, RecAt hB v (rc v)) (hm : m (Str.ofString "records") = some (.ref l)) (h60 : vs.length < 60) (eL : env.locals = L) (ek : env.scope.kind = .function) (e5 : env.kindOf "records" = some .local) (k : ∀ r h' tk hB' xs, Lg hB' L h' m ((r, isL xs) :: ls) → Kp hB hB' → s.heap.get? r = none → xs.length = vs.length → TupsR hB' C (fun v => (rc v).n) vs xs → Q (.ref r) { s with heap := h', toks := tk }) (hs : ∀ x, foldedSetIterable (.Name "records" q2) env x = pure x := by intro _; rfl) : wpAny (MM w) A (eval (.ListComp (.Tuple [.Call (.Subscript (.Name "world" p1) (.Constant (.str "key") k0 p2) p3) [.Name "record" p4] [] p5, .Subscript (.Name "record" p6) (.Constant (.int 3) k1 p7) p8, .Name "record" p9] k2 p10) [⟨.Name "record" q1, .Name "records" q2, [], 0⟩] scope q3) env) Q E s := (N_tupComp.allX (w, A, E, s, hB, L, l, cW, Wa, C, f, vs, m, ls, env, Q, p1, p2, p3, p4, p5, p6, p7, p8, p9, p10, q1, q2, q3, scope, kvs, rc, D, c, k0, k1, k2)) V W hr F hl hd v5 hc dr hm h60 eL ek e5 k hs
section
variable {w : World} {A : Around} {E : Value → Shared → Prop} {s : Shared} {hB : Heap} {L l cW Wa C f : Addr} {vs : List Value} {m : Str → Option Value} {ls : Led} {env : Env} {Q : Value → Shared → Prop} {p1 p2 p3 p4 p5 p6 p7 p8 p9 p10 q1 q2 q3 : Pos} {scope : Scope} {kvs : List (Str × Value)} {rc : Value → Rc} {D : Value → Prop} {c : Value → Value → Int} {k0 k1 k2 : Nat}
end
end Mine
namespace Mine
section
variable {w : World} {hb : Heap} {f c' cl rl : Addr} {name qual : Str} {params : Arguments} {scope : Scope} {pm ctv : Value} {p1 p2 p3 p4 p5 : Pos} {rs : List (Nat × Int)} {rc : Value → Rc} {D : Value → Prop}
theorem lam_my (X : KIn w hb) (ho : hb.get? f = some (kla_obj name qual params (.Call (.Name "_law_compare" p1) [.Name "one" p2, .Name "other" p3, .Name "rules" p4] [] p5) scope [(Str.ofString "rules", cl)] pm c' ctv)) (hcd : hb.CodeRec (.ref c') qual) (hcl : hb.IsCell cl (some (.ref rl))) (hR : RulesAt hb rl rs) (ok : ROk rs) (dr : ∀ v, D v → RecAt hb v (rc v))
    (hbind : ∀ u v : Value, bindArgs (kla_fn name qual params (.Call (.Name "_law_compare" p1) [.Name "one" p2, .Name "other" p3, .Name "rules" p4] [] p5) scope [(Str.ofString "rules", cl)] pm (.ref c') ctv) ⟨[u, v], []⟩ = pure [(Str.ofString "one", u), (Str.ofString "other", v)])
    (s1 : scope.names.lookup (Str.ofString "one") = some .local) (s2 : scope.names.lookup (Str.ofString "other") = some .local) (s3 : scope.names.lookup (Str.ofString "rules") = some .free) (s4 : scope.names.lookup (Str.ofString "_law_compare") = some .globalImplicit)
    (hco : scope.isCoroutine = false) (hgen : scope.isGenerator = false) (hk : scope.kind = .function) (hcell : ∀ x ∈ scope.names, x.2 ≠ .cell) : MyC w hb f D (cV rs rc) := by
  refine ⟨⟨_, _, _, _, ho⟩, fun v d => ?_, fun u v du dv A s Q E hr k h => ?_⟩
  · obtain ⟨l, _, rfl, _⟩ := dr v d
    rfl
  · refine wpAny_call (kla_callFunE hr.room (k _ _ ho) rfl hco hgen rfl (CodeRec.kp hcd k) ?_)
    rw [hbind u v]
    refine wpAny_pure (wpAny_newFunctionEnv hcell (fun x hx => ?_) (fun h₁ hns hsb => ⟨((nolimit_K (X.kp k))).fresh _ hsb, ?_⟩) hk)
    · simp only [List.mem_cons, List.not_mem_nil, or_false] at hx
      rcases hx with rfl | rfl
      · exact s1
      · exact s2
    · have hk₁ : Kp s.heap h₁ := fun b o e => hsb.extBut b o (Nat.ne_of_lt (Heap.lt_size e)) (Heap.get?_push_of_some _ e)
      show codeAny _ _ (.expr _ (envX qual scope s.heap.objs.size f (.ref c') [(Str.ofString "rules", cl)])) _ _
      have F : Fr s.heap s.heap.objs.size h₁ (fun x => (List.reverse [(Str.ofString "one", u), (Str.ofString "other", v)]).lookup x) := ⟨hns, hk₁, Nat.le_refl _⟩
      have k1 := k.trans hk₁
      have X1 := X.kp k1
      refine kla_codeExpr ?_
      refine Call_ (nmG X1 (by k_is) ?_ rfl hk s4)
      refine callWith_F (args_cons (nmL F rfl ?_ rfl hk s1))
      refine args_cons (nmL F rfl ?_ rfl hk s2)
      refine args_cons (nmF hcl k1 ?_ rfl hk s3)
      refine args_nil ⟨FnAt.of X1 (by k_is), ?_⟩
      refine compare_spec X hR ok (dr u du) (dr v dv) ((hr.deep _).le (by decide)) k1 (fun h₂ tk₂ t₂ k₂ => ?_)
      exact h _ _ _ (hk₁.trans k₂)
end
end Mine
namespace Mine
noncomputable abbrev isD (w : World) (kvs : List (Str × Value)) : Obj → Prop := fun o => o.IsDictOf (SK w) kvs
noncomputable abbrev isC (v : Option Value) : Obj → Prop := fun o => o.data = .cell v
noncomputable abbrev isO (o : Obj) : Obj → Prop := fun o' => o' = o
theorem softD {w : World} {h : Heap} {a : Addr} {o : Obj} {kvs : List (Str × Value)} (e : h.get? a = some o) (hd : o.IsDictOf (SK w) kvs) (hn : valueAt kvs "__lt__" = none) : Soft o := by
  obtain ⟨o', es, ep, e', _, d, _, q⟩ := (Heap.dictOf_iff.mpr ⟨o, e, hd⟩).mapOf
  rw [e'] at e
  cases e
  refine .inr ⟨es, ep, d, ?_⟩
  rw [← hn, ← q]
  unfold nsFind findBy
  congr 2
  funext e
  show e.key.isStr _ = Value.isStrOf _ e.key
  cases e.key <;> rfl
section
variable {w : World} {h₀ h h' : Heap} {L a b : Addr} {m : Str → Option Value} {ls : Led} {C : Addr} {my : Value}
theorem Lg.cls (F : Lg h₀ L h m ls) (hm : m "__lt__" = none) (hs : ∀ p ∈ ls, ∀ o, h.get? p.1 = some o → p.2 o → Soft o) (K : KCl w h C my) : KCl w (hideAll h (L :: ls.map (·.1))) C my :=
  K.hard fun b o e ns => hideAll_get _ e fun q => ns (by
    rcases List.mem_cons.mp q with rfl | q
    · obtain ⟨o', es, ep, e', d, _, z⟩ := F.ns
      rw [e'] at e; cases e
      exact .inr ⟨es, ep, d, by rw [z]; exact hm⟩
    · obtain ⟨p, hp, rfl⟩ := List.mem_map.mp q
      obtain ⟨o', e', z⟩ := F.at_ p hp
      rw [e'] at e; cases e
      exact hs p hp _ e' z)
theorem Lg.lts (F : Lg h₀ L h m ls) : ∀ a ∈ L :: ls.map (·.1), a < h.objs.size := fun a ha => by
  rcases List.mem_cons.mp ha with rfl | ha
  · exact F.ns.lt
  · obtain ⟨p, hp, rfl⟩ := List.mem_map.mp ha
    obtain ⟨o, e, _⟩ := F.at_ p hp
    exact Heap.lt_size e
theorem Lg.codeNew {c : Addr} {q : Str} (F : Lg h₀ L h m ls) (hge : h.objs.size ≤ c) (r : h'.CodeRec (.ref c) q) : (hideAll h' (L :: ls.map (·.1))).CodeRec (.ref c) q := by
  obtain ⟨c₂, o₂, vs₂, t₂, e₂, g₂, r₂⟩ := r
  cases e₂
  exact ⟨_, o₂, vs₂, t₂, rfl, hideAll_get _ g₂ (fun z => absurd (F.lts _ z) (Nat.not_lt.mpr hge)), r₂⟩
theorem Lg.extB {P : Obj → Prop} (F : Lg h₀ L h m ((a, P) :: ls)) (k : KpB [a] h h') : Lg h₀ L h' m ls := F.ext (fun b o hb e => k b o (fun q => hb (List.mem_singleton.mp q)) e)
theorem Lg.lam {A : Around} {E : Value → Shared → Prop} {s : Shared} {Q : Value → Shared → Prop} {name qual : Str} {params : Arguments} {body : Expr} {scope : Scope} {env : Env} {c P : Addr} {pos : Pos} {firstLine : Nat} {clos : List (Str × Addr)}
    (F : Lg h₀ L s.heap m ((P, isO (tabObj #[])) :: ls)) (X : KIn w h₀) (hcl : closureFor scope env = pure clos) (hge0 : env.globals = mainGlobals) (hcode : env.code = .ref c) (Cd : CodeHd s.heap c P) (hgP : mainGlobals ≠ P)
    (h : ∀ f c' ctv pm h' tk hB', Lg hB' L h' m ls → Kp h₀ hB' → hB'.get? f = some (kla_obj name qual params body scope clos pm c' ctv) → hB'.CodeRec (.ref c') qual → (∃ ps, hB'.get? P = some (tabObj ps)) → Q (.ref f) { s with heap := h', toks := tk }) :
    wpAny (MM w) A (makeFunction name qual params (.expr body) scope env [] [] [] pos firstLine) Q E s := by
  have X8 := X.keeps F.keep
  obtain ⟨mg, G8⟩ := gns_K X8
  obtain ⟨ot, et, rfl⟩ := F.get (.head _)
  refine kla_makeFunction (mg := mg) hcl hge0 G8 hcode Cd et trivial rfl hgP (builtinsAt X8 G8 (fun o e => by rw [et] at e; cases e; rfl)) (fun c' ctv h₈ tk₈ hx hge hlt hrec htb => ?_)
  have F9 := F.ext hx
  have nd := F.nd
  simp only [List.map_cons, List.nodup_cons] at nd
  obtain ⟨hB2, F10, kr2, hrec, hP2⟩ : ∃ hB2, Lg hB2 L h₈ m ls ∧ Kp h₀ hB2 ∧ hB2.CodeRec (.ref c') qual ∧ hB2.get? P = some (tabObj _) := ⟨_, F9.rebase.1, F9.rebase.2, F.drop.codeNew hge hrec, hideAll_get _ htb (fun q => by
    rcases List.mem_cons.mp q with q | q
    · exact (F.off _ (.head _)).1 q
    · exact nd.1 q)⟩
  refine Exists.elim (F10.withObj (Kp.push _ (kla_obj name qual params body scope clos ((mg "__name__").getD .none) c' ctv)) (newNone _) (Heap.get?_push_size _ rfl)) fun hB3 z => ?_
  have F11 := z.1
  have kr3 := z.2.1
  have ef := z.2.2
  clear z
  exact h _ c' ctv _ _ _ hB3 F11 (kr2.trans kr3) ef (CodeRec.kp hrec kr3) ⟨_, kr3 _ _ hP2⟩
theorem Lg.but3g {R G M : Addr} {xs ys zs xs' ys' zs' : List Value} {p : Addr × (Obj → Prop)} (F : Lg h₀ L h m (p :: (led3 R G M xs ys zs ++ ls))) (k : KpB [R, G, M] h h') (l1 : PL h' R xs') (l2 : PL h' G ys') (l3 : PL h' M zs') : Lg h₀ L h' m (p :: (led3 R G M xs' ys' zs' ++ ls)) := by
  have nd' : (p.1 :: ([R, G, M] ++ ls.map (·.1))).Nodup := F.nd
  have off : ∀ q ∈ ls, q.1 ∉ [R, G, M] := fun q hq z => (List.nodup_append.mp (List.nodup_cons.mp nd').2).2.2 _ z _ (List.mem_map_of_mem hq) rfl
  have offp : p.1 ∉ [R, G, M] := fun z => (List.nodup_cons.mp nd').1 (List.mem_append_left _ z)
  refine F.but (ls' := p :: (led3 R G M xs' ys' zs' ++ ls)) k (fun a ha => ?_) (fun q hq => ?_) rfl
  · simp only [List.mem_cons, List.not_mem_nil, or_false] at ha
    rcases ha with rfl | rfl | rfl
    · exact F.off _ (.tail _ (.head _))
    · exact F.off _ (.tail _ (.tail _ (.head _)))
    · exact F.off _ (.tail _ (.tail _ (.tail _ (.head _))))
  · rcases List.mem_cons.mp hq with rfl | hq
    · obtain ⟨o, e, u⟩ := F.at_ _ (.head _)
      exact ⟨o, k _ _ offp e, u⟩
    · rcases List.mem_append.mp hq with hq | hq
      · exact led3_at l1 l2 l3 q hq
      · obtain ⟨o, e, u⟩ := F.at_ q (.tail _ (List.mem_append_right _ hq))
        exact ⟨o, k _ _ (off q hq) e, u⟩
theorem Lg.turn {W : Addr} {oW o' : Obj} (F : Lg h₀ L h m ls) (hW : h₀.get? W = some oW) (hs : Heap.SameBut W h h') (e : h'.get? W = some o') : ∃ hB', Lg hB' L h' m ls ∧ hB'.get? W = some o' ∧ ∀ b o, b ≠ W → h₀.get? b = some o → hB'.get? b = some o := by
  have hid : ∀ b o, h₀.get? b = some o → b ∉ L :: ls.map (·.1) := fun b o e q => by
    rcases List.mem_cons.mp q with rfl | q
    · rw [F.nL] at e; cases e
    · obtain ⟨p, hp, rfl⟩ := List.mem_map.mp q
      rw [(F.off p hp).2] at e; cases e
  have nl : ∀ a ∈ L :: ls.map (·.1), a ≠ W := fun a ha q => hid W _ hW (q ▸ ha)
  refine ⟨hideAll h' (L :: ls.map (·.1)), ⟨F.ns.sameBut hs (nl L (.head _)), hide_kp _ _, hideAll_none _ (.head _), fun p hp => ?_, fun p hp => ⟨(F.off p hp).1, hideAll_none _ (.tail _ (List.mem_map_of_mem hp))⟩, F.nd⟩, hideAll_get _ e (hid W _ hW), fun b o hb eb => hideAll_get _ ((hs.2 b hb).trans (F.keep _ _ eb)) (hid b o eb)⟩
  obtain ⟨o, e, q⟩ := F.at_ p hp
  exact ⟨o, (hs.2 _ (nl _ (.tail _ (List.mem_map_of_mem hp)))).trans e, q⟩
theorem TupAt.turn {W : Addr} {oW o' : Obj} {v r : Value} {n : Int} (x : TupAt h C v r n) (hW : h.get? W = some oW) (dW : ∃ es ep, oW.data = .dict es ep) (e' : h'.get? W = some o') (g : ∀ b o, b ≠ W → h.get? b = some o → h'.get? b = some o) : TupAt h' C v r n := by
  obtain ⟨t, kk, tn, rfl, e1, d, od, e2, e3⟩ := x
  obtain ⟨es, ep, dW⟩ := dW
  have n1 : t ≠ W := fun q => by rw [q, hW] at e1; cases e1; cases dW
  have n2 : kk ≠ W := fun q => by rw [q, hW] at e2; cases e2; cases dW
  refine ⟨t, kk, tn, rfl, g _ _ n1 e1, ?_⟩
  by_cases q : d = W
  · exact ⟨d, o', g _ _ n2 e2, by rw [q]; exact e'⟩
  · exact ⟨d, od, g _ _ n2 e2, g _ _ q e3⟩
end
theorem Rw.nil {D : Value → Prop} {rs : List (Nat × Int)} {rc : Value → Rc} : Rw D rs rc ((0 : Nat) : Int) [] [] [] :=
  ⟨List.Pairwise.nil, (fun _ h => nomatch h), Int.le_refl _, (fun _ h => nomatch h), List.Perm.nil, List.Pairwise.nil, List.Perm.nil, List.Pairwise.nil⟩
theorem TupsR.hx {hb : Heap} {C : Addr} {rs : List (Nat × Int)} {rc : Value → Rc} {vs xs : List Value} (x : TupsR hb C (fun v => (rc v).n) vs xs) (hl : xs.length = vs.length) : (∀ v ∈ xs, TupAt hb C v (tRec hb v) (rc (tRec hb v)).n) ∧ xs.map (tRec hb) = vs := by
  refine ⟨fun v hv => ?_, List.ext_getElem? fun i => ?_⟩
  · obtain ⟨i, e⟩ := List.mem_iff_getElem?.mp hv
    obtain ⟨r, _, t⟩ := x i v e
    rw [t.rec]; exact t
  · rw [List.getElem?_map]
    cases q : xs[i]? with
    | none => rw [Option.map_none, eq_comm, List.getElem?_eq_none_iff, ← hl]; exact List.getElem?_eq_none_iff.mp q
    | some v =>
      obtain ⟨r, e, t⟩ := x i v q
      rw [Option.map_some, t.rec, e]
noncomputable def Tabs (h : Heap) : Prop := (∃ ps, h.get? 16 = some (tabObj ps)) ∧ ∃ ps, h.get? 180 = some (tabObj ps)
theorem Tabs.kp {h h' : Heap} (x : Tabs h) (k : Kp h h') : Tabs h' := by obtain ⟨⟨ps, e⟩, qs, e'⟩ := x; exact ⟨⟨ps, k _ _ e⟩, qs, k _ _ e'⟩
inductive WlI (s : Shared) (hB : Heap) (L I RL R G M Lf : Addr) (of : Obj) (recs : List Value) (D : Value → Prop) (rs : List (Nat × Int)) (rc : Value → Rc) (n : Nat) : Shared → Prop
  | mk {h : Heap} {tk i : Nat} {xr yg : List Value} {m : Str → Option Value} (F : Lg hB L h m ((I, isLI RL i) :: (led3 R G M xr yg (recs.take i) ++ [(Lf, isO of)]))) (Rr : Rw D rs rc i (recs.take i) xr yg) (mr : m (Str.ofString "records") = some (.ref RL)) (hn : n + i = recs.length) :
    WlI s hB L I RL R G M Lf of recs D rs rc n { s with heap := h, toks := tk }
end Mine
namespace Mine
section
variable {w : World} {A : Around} {E : Value → Shared → Prop} {s : Shared} {Q : Value → Shared → Prop} {hb : Heap} {rl RL Lf : Addr} {of : Obj} {rs : List (Nat × Int)} {rc : Value → Rc} {D : Value → Prop} {recs : List Value}
end
namespace N_world_spec
noncomputable def stX0 (w : World) (A : Around) (E : Value → Shared → Prop) (s : Shared) (Q : Value → Shared → Prop) (hb : Heap) (rl RL : Addr) (rs : List (Nat × Int)) (rc : Value → Rc) (D : Value → Prop) (recs : List Value) : Prop := ∀ {Lf : Addr} {of : Obj} (X : KIn w hb) (kb : Kp hb s.heap) (n16 : hb.get? 16 = none) (n180 : hb.get? 180 = none) (nF : hb.get? Lf = none) (h16 : s.heap.get? 16 = some (tabObj #[])) (h180 : s.heap.get? 180 = some (tabObj #[])) (hF : s.heap.get? Lf = some of) (sF : Soft of) (hR : RulesAt hb rl rs) (ok : ROk rs) (hl : PL hb RL recs) (dr : ∀ v, D v → RecAt hb v (rc v)) (hD : ∀ v ∈ recs, D v) (hnum : ∀ (i : Nat) v, recs[i]? = some v → (rc v).n = i) (hlen : recs.length < 30) (hr : Rm A 40) (k : ∀ W R G M H C f kvs h' tk hb' xr yg hs, Kp hb hb' → WS w hb' h' W rl R G M H C f kvs rs rc D [(Lf, of)] recs.length recs xr yg hs → KpB [16, 180] s.heap h' → ([R, G, M, H] ++ [Lf]).Nodup → Tabs hb' → Q (.ref W) { s with heap := h', toks := tk }), wpAny (MM w) A (call (.ref 183) [.ref rl, .ref RL]) Q E s
noncomputable abbrev T := World × Around × (Value → Shared → Prop) × Shared × (Value → Shared → Prop) × Heap × Addr × Addr × (List (Nat × Int)) × (Value → Rc) × (Value → Prop) × (List Value)
noncomputable def pX (x : T) : Prop := stX0 x.1 x.2.1 x.2.2.1 x.2.2.2.1 x.2.2.2.2.1 x.2.2.2.2.2.1 x.2.2.2.2.2.2.1 x.2.2.2.2.2.2.2.1 x.2.2.2.2.2.2.2.2.1 x.2.2.2.2.2.2.2.2.2.1 x.2.2.2.2.2.2.2.2.2.2.1 x.2.2.2.2.2.2.2.2.2.2.2
noncomputable def cX : T := @Classical.epsilon _ (ne2 neW (ne2 neA (ne2 neI (ne2 neS (ne2 neI (ne2 neI (ne2 neI (ne2 neI (ne2 neI (ne2 ⟨fun _ => ⟨0, 0, 0, 0⟩⟩ (ne2 neI neI))))))))))) fun x => ¬ pX x
def w : World := cX.1
def A : Around := cX.2.1
def E : Value → Shared → Prop := cX.2.2.1
def s : Shared := cX.2.2.2.1
def Q : Value → Shared → Prop := cX.2.2.2.2.1
def hb : Heap := cX.2.2.2.2.2.1
def rl : Addr := cX.2.2.2.2.2.2.1
def RL : Addr := cX.2.2.2.2.2.2.2.1
def rs : List (Nat × Int) := cX.2.2.2.2.2.2.2.2.1
def rc : Value → Rc := cX.2.2.2.2.2.2.2.2.2.1
def D : Value → Prop := cX.2.2.2.2.2.2.2.2.2.2.1
def recs : List Value := cX.2.2.2.2.2.2.2.2.2.2.2
theorem pfX0 : stX0 w A E s Q hb rl RL rs rc D recs := by
  intro Lf of X kb n16 n180 nF h16 h180 hF sF hR ok hl dr hD hnum hlen hr k
  refine callCellB (binds := [(Str.ofString "rules", .ref rl), (Str.ofString "records", .ref RL)]) (X.kp kb) (by k_is) (by k_is) hr (BindsTo.of_eq rfl) ?_ (fun L s₁ eL I => ?_)
  · intro x hx
    simp only [List.mem_cons, List.not_mem_nil, or_false] at hx
    rcases hx with rfl | rfl
    · exact .inr ⟨rfl, rfl⟩
    · exact .inl rfl
  obtain ⟨h₁, tk₁, rfl⟩ := I.toInCall.same
  have k1 : Kp s.heap h₁ := I.toInCall.keep
  have hL : s.heap.get? L = none := by rw [eL]; exact Heap.get?_none_of_le (Nat.le_refl _)
  have lt : ∀ {b o}, s.heap.get? b = some o → b < L := fun e => by rw [eL]; exact Heap.lt_size e
  have ls0 : ∀ p ∈ ([(180, isO (tabObj #[])), (16, isO (tabObj #[])), (Lf, isO of)] : Led), ∃ o, s.heap.get? p.1 = some o ∧ p.2 o := fun p hp => by
    simp only [List.mem_cons, List.not_mem_nil, or_false] at hp
    rcases hp with rfl | rfl | rfl
    · exact ⟨_, h180, rfl⟩
    · exact ⟨_, h16, rfl⟩
    · exact ⟨_, hF, rfl⟩
  have noT : ∀ {a}, s.heap.get? a = some (tabObj #[]) → Lf ≠ a := fun e q => by
    rw [← q, hF] at e; cases e
    rcases sF with ⟨_, _, z⟩ | ⟨_, _, z, _⟩ <;> cases z
  have nd0 : (([(180, isO (tabObj #[])), (16, isO (tabObj #[])), (Lf, isO of)] : Led).map (·.1)).Nodup := by
    simp only [List.map_cons, List.map_nil, List.nodup_cons, List.mem_cons, List.not_mem_nil, or_false, not_or, not_false_eq_true, List.nodup_nil, and_true]
    exact ⟨⟨by decide, (noT h180).symm⟩, (noT h16).symm⟩
  obtain ⟨hB, m0, F, k0, hc, hm, mr, fin⟩ : ∃ hB m0, Lg hB L h₁ m0 [(L + 2, isC none), (180, isO (tabObj #[])), (16, isO (tabObj #[])), (Lf, isO of)] ∧ Kp hb hB ∧ hB.IsCell (L + 1) (some (.ref rl)) ∧ m0 "__lt__" = none ∧ m0 (Str.ofString "records") = some (.ref RL) ∧ (∀ h', Kp hB h' → h'.get? Lf = some of → KpB [16, 180] s.heap h') := by
    have F0 := Lg.startC k1 I.toInCall.ns hL ls0 nd0
    obtain ⟨oc, ec, dc⟩ := I.cell "world" (L + 2) rfl
    have nin : ∀ c, L < c → c ∉ L :: ([(180, isO (tabObj #[])), (16, isO (tabObj #[])), (Lf, isO of)] : Led).map (·.1) := fun c hc q => by
      simp only [List.map_cons, List.map_nil, List.mem_cons, List.not_mem_nil, or_false] at q
      rcases q with rfl | rfl | rfl | rfl
      · exact Nat.lt_irrefl _ hc
      · exact absurd (lt h180) (Nat.not_lt_of_lt hc)
      · exact absurd (lt h16) (Nat.not_lt_of_lt hc)
      · exact absurd (lt hF) (Nat.not_lt_of_lt hc)
    refine ⟨_, _, F0.thaw (P := isC none) (hideAll_get _ ec (nin _ (by lia))) dc, ?_, ?_, rfl, rfl, ?_⟩
    · refine hideKp (baseC kb k1 hL ?_) (fun a ha => ?_)
      · intro a ha
        simp only [List.map_cons, List.map_nil, List.mem_cons, List.not_mem_nil, or_false] at ha
        rcases ha with rfl | rfl | rfl
        · exact n180
        · exact n16
        · exact nF
      · rw [List.mem_singleton.mp ha]
        refine none_base kb ?_
        cases q : s.heap.get? (L + 2) with
        | none => rfl
        | some o => exact absurd (lt q) (Nat.not_lt_of_le (Nat.le_add_right L 2))
    · obtain ⟨oc, ec, dc⟩ := I.cell "rules" (L + 1) rfl
      exact ⟨oc, hideAll_get _ (hideAll_get _ ec (nin _ (by lia))) (by simp), dc⟩
    · intro h' k' hf b o hb e
      by_cases q : b = Lf
      · rw [q, hF] at e; cases e; rw [q]; exact hf
      · have := lt e
        refine k' _ _ (hideAll_get _ (hideAll_get _ (k1 _ _ e) (fun z => ?_)) (fun z => ?_))
        · simp only [List.map_cons, List.map_nil, List.mem_cons, List.not_mem_nil, or_false] at z hb
          rcases z with z | z | z | z
          · rw [z] at this; exact absurd this (Nat.lt_irrefl _)
          · exact hb (.inr z)
          · exact hb (.inl z)
          · exact q z
        · rw [List.mem_singleton.mp z] at this; exact absurd this (Nat.not_lt_of_le (Nat.le_add_right L 2))
  clear I ls0 nd0
  subst eL
  have X0 := X.kp k0
  refine wpAny_execs_cons (wpAny_Assign_Name ?_)
  refine wpAny_Dict_walk (knd := SK w) rfl rfl (List.cons_ne_nil _ _) (by decide) ?_
  have F1 := F.push { cls := .type "dict", dict := none, data := .dict #[] } rfl (P := isD w []) (by obtain ⟨o, e, d⟩ := Heap.dictOf_iff.mp (Heap.DictOf.new (knd := SK w) h₁); exact by rw [Heap.get?_push_size _ rfl] at e; cases e; exact d)
  show wpAny _ _ _ _ _ { s with heap := h₁.push _, toks := tk₁ }
  dsimp only
  generalize h₁.objs.size = W at F1
  generalize h₁.push _ = h₂ at F1
  refine pairTrees_cons_walk (wpAny_Constant_str (nmC hc F1.keep ?_))
  refine pairTrees_cons_walk (wpAny_Constant_str (listD (args_nil ⟨szL, fun R h₃ k₃ n₃ e₃ => ?_⟩)))
  have F2 := F1.fresh k₃ n₃ e₃ (P := isL []) ⟨0, rfl⟩
  refine pairTrees_cons_walk (wpAny_Constant_str (listD (args_nil ⟨szL, fun G h₄ k₄ n₄ e₄ => ?_⟩)))
  have F3 := F2.fresh k₄ n₄ e₄ (P := isL []) ⟨0, rfl⟩
  refine pairTrees_cons_walk (wpAny_Constant_str (listD (args_nil ⟨szL, fun M h₅ k₅ n₅ e₅ => ?_⟩)))
  have F4 := F3.fresh k₅ n₅ e₅ (P := isL []) ⟨0, rfl⟩
  refine pairTrees_nil_walk ?_
  refine display_done_str (by rfl) (show ([Str.ofString "rules", Str.ofString "rising", Str.ofString "falling", Str.ofString "came"] : List Str).Nodup by decide) (Heap.dictOf_iff.mpr (F4.get (.tail _ (.tail _ (.tail _ (.head _)))))) (fun h₆ d₆ s₆ => ?_)
  obtain ⟨o6, e6, i6⟩ := Heap.dictOf_iff.mp d₆
  have F5 := F4.put 3 rfl s₆ e6 (P' := isD w _) i6
  have F6 : Lg hB s.heap.objs.size h₆ m0 [(s.heap.objs.size + 2, isC none), (180, isO (tabObj #[])), (16, isO (tabObj #[])), (Lf, isO of), (M, isL []), (G, isL []), (R, isL []), (W, isD w [(Str.ofString "rules", .ref rl), (Str.ofString "rising", .ref R), (Str.ofString "falling", .ref G), (Str.ofString "came", .ref M)])] := F5.perm (List.perm_append_comm (l₁ := [_, _, _, _]) (l₂ := [_, _, _, _]))
  clear F1 F2 F3 F4 F5 d₆ s₆ e6 i6
  refine wpAny_storeName_cell (c := s.heap.objs.size + 2) (v₀ := none) rfl rfl rfl (F6.get (.head _)) (fun h₇ c₇ s₇ => ?_)
  have F7 := F6.put 0 rfl s₇ c₇.choose_spec.1 (P' := isC (some (.ref W))) c₇.choose_spec.2
  clear F6 c₇ s₇
  dsimp only
  refine Exists.elim (F7.freeze) fun hB1 z => ?_
  have F8 := z.1
  have kr1 := z.2.1
  have hcw := z.2.2
  clear z
  clear F7
  have F8 : Lg hB1 s.heap.objs.size h₇ m0 [(180, isO (tabObj #[])), (16, isO (tabObj #[])), (Lf, isO of), (M, isL []), (G, isL []), (R, isL []), (W, isD w [(Str.ofString "rules", .ref rl), (Str.ofString "rising", .ref R), (Str.ofString "falling", .ref G), (Str.ofString "came", .ref M)])] := F8
  have hcw : hB1.IsCell (s.heap.objs.size + 2) (some (.ref W)) := hcw
  have hc := hc.keeps kr1
  have k0 := k0.trans kr1
  have fin : ∀ h', Kp hB1 h' → h'.get? Lf = some of → KpB [16, 180] s.heap h' := fun h' k' => fin h' (kr1.trans k')
  have X0 := X0.kp kr1
  clear kr1
  generalize hkv : [(Str.ofString "rules", Value.ref rl), (Str.ofString "rising", Value.ref R), (Str.ofString "falling", Value.ref G), (Str.ofString "came", Value.ref M)] = kvs4 at F8
  refine wpAny_execs_cons (wpAny_Assign_Subscript ?_)
  refine Call_ (nmG (X0.keeps F8.keep) (by k_is) ?_)
  refine callWith_F (args_cons ?_)
  refine kla_eval rfl ?_
  refine F8.lam (c := 182) X0 (clos := [(Str.ofString "rules", s.heap.objs.size + 1)]) rfl rfl rfl ?_ (by decide) ?_
  · exact ⟨_, _, _, _, _, _, _, _, _, X0.keeps F8.keep 182 _ rfl (by k_is), rfl, rfl, rfl, rfl, rfl, rfl, rfl, rfl, by decide⟩
  intro f c' ctv pm h₉ tk₉ hB3 F11 k3 ef hrec t180
  clear F8
  have X3 := X0.kp k3
  refine args_nil ⟨FnAt.of (X3.keeps F11.keep) (by k_is), ?_⟩
  refine ctk_spec (n := 30) (X3.keeps F11.keep) ?_ ((hr.deep _).le (by decide)) (fun C h₁₀ tk₁₀ k₁₀ K₁₀ t16 => ?_)
  · obtain ⟨ot, et, rfl⟩ := F11.get (.head _)
    exact et
  have n16L : 16 ∉ s.heap.objs.size :: ([(Lf, isO of), (M, isL []), (G, isL []), (R, isL []), (W, isD w kvs4)] : Led).map (·.1) := fun q => by
    have nd := F11.nd
    rcases List.mem_cons.mp q with q | q
    · exact (F11.off _ (.head _)).1 q
    · exact (List.nodup_cons.mp (show (16 :: ([(Lf, isO of), (M, isL []), (G, isL []), (R, isL []), (W, isD w kvs4)] : Led).map (·.1)).Nodup from nd)).1 q
  have F12 := F11.extB k₁₀
  clear F11
  have F12 : Lg hB3 s.heap.objs.size h₁₀ m0 [(Lf, isO of), (M, isL []), (G, isL []), (R, isL []), (W, isD w kvs4)] := F12
  have hsoft : ∀ p ∈ ([(Lf, isO of), (M, isL []), (G, isL []), (R, isL []), (W, isD w kvs4)] : Led), ∀ o, h₁₀.get? p.1 = some o → p.2 o → Soft o := fun p hp o e q => by
    simp only [List.mem_cons, List.not_mem_nil, or_false] at hp
    rcases hp with rfl | rfl | rfl | rfl | rfl
    · cases q; exact sF
    · obtain ⟨n, rfl⟩ := q; exact .inl ⟨_, _, rfl⟩
    · obtain ⟨n, rfl⟩ := q; exact .inl ⟨_, _, rfl⟩
    · obtain ⟨n, rfl⟩ := q; exact .inl ⟨_, _, rfl⟩
    · exact softD e q (by rw [← hkv]; rfl)
  obtain ⟨ps16, t16⟩ := t16
  obtain ⟨hB4, F13, kr4, Kc, t16⟩ : ∃ hB4, Lg hB4 s.heap.objs.size h₁₀ m0 _ ∧ Kp hB3 hB4 ∧ KCl w hB4 C (.ref f) ∧ hB4.get? 16 = some (tabObj ps16) := ⟨_, F12.rebase.1, F12.rebase.2, F12.cls hm hsoft K₁₀, hideAll_get _ t16 n16L⟩
  have tabs : Tabs hB4 := ⟨⟨_, t16⟩, by obtain ⟨ps, e⟩ := t180; exact ⟨ps, kr4 _ _ e⟩⟩
  clear t180 t16 n16L F12 hsoft K₁₀ k₁₀
  have k4 : Kp hB1 hB4 := k3.trans kr4
  refine nmC (hcw.keeps k4) F13.keep (wpAny_Constant_str ?_)
  refine wpAny_setItem_pairs (knd := SK w) (k := Str.ofString "key") (strKind_is _ _ _ _) (Heap.dictOf_iff.mpr (F13.get (.tail _ (.tail _ (.tail _ (.tail _ (.head _))))))) (fun h₁₁ d₁₁ s₁₁ => ?_) (by rw [← hkv]; simp [sizeLine_eq])
  obtain ⟨o11, e11, i11⟩ := Heap.dictOf_iff.mp d₁₁
  have F14 := F13.put 4 rfl s₁₁ e11 (P' := isD w _) i11
  have F15 : Lg hB4 s.heap.objs.size h₁₁ m0 [(W, isD w (stored kvs4 (Str.ofString "key") (.ref C))), (R, isL []), (G, isL []), (M, isL []), (Lf, isO of)] := F14.perm (List.reverse_perm _).symm
  clear F13 F14 e11 i11 d₁₁ s₁₁
  have X4 := X3.kp kr4
  have k04 := k0.trans k4
  have MY : MyC w hB4 f D (cV rs rc) := lam_my X4 (kr4 _ _ ef) (CodeRec.kp hrec kr4) (hc.keeps k4) (hR.kp k04) ok (fun v d => (dr v d).kp k04) (fun u v => rfl) rfl rfl rfl rfl rfl rfl rfl (by decide)
  have KW4 : KW w hB4 C f D (cV rs rc) := ⟨X4, Kc, MY, fun u _ => cV_refl u⟩
  have fin : ∀ h', Kp hB4 h' → h'.get? Lf = some of → KpB [16, 180] s.heap h' := fun h' k' => fin h' (k4.trans k')
  have hcw := hcw.keeps k4
  clear MY Kc hrec ef hc k4 kr4 k3 X3 X0 hm
  dsimp only
  have nW : hB4.get? W = none := (F15.off _ (.head _)).2
  obtain ⟨hB5, F16, kr5, oW, eW, dW⟩ := F15.freeze
  clear F15
  have F16 : Lg hB5 s.heap.objs.size h₁₁ m0 (led3 R G M [] [] [] ++ [(Lf, isO of)]) := F16
  have HD : hB5.DictOf (SK w) W (stored kvs4 (Str.ofString "key") (.ref C)) := Heap.dictOf_iff.mpr ⟨oW, eW, dW⟩
  have dW : ∃ es ep, oW.data = .dict es ep := by obtain ⟨es, ep, _, d, _⟩ := dW; exact ⟨es, ep, d⟩
  have KW5 := KW4.kp kr5
  have k05 := k04.trans kr5
  have hl5 := hl.kp k05
  have X5 := X4.kp kr5
  have hcw5 := hcw.keeps kr5
  have hR5 := hR.kp k05
  have dr5 : ∀ v ∈ recs, RecAt hB5 v (rc v) := fun v hv => (dr v (hD v hv)).kp k05
  have v1 : valueAt (stored kvs4 (Str.ofString "key") (.ref C)) (Str.ofString "rules") = some (.ref rl) := by rw [← hkv]; rfl
  have v2 : valueAt (stored kvs4 (Str.ofString "key") (.ref C)) (Str.ofString "rising") = some (.ref R) := by rw [← hkv]; rfl
  have v3 : valueAt (stored kvs4 (Str.ofString "key") (.ref C)) (Str.ofString "falling") = some (.ref G) := by rw [← hkv]; rfl
  have v4 : valueAt (stored kvs4 (Str.ofString "key") (.ref C)) (Str.ofString "came") = some (.ref M) := by rw [← hkv]; rfl
  have v5 : valueAt (stored kvs4 (Str.ofString "key") (.ref C)) (Str.ofString "key") = some (.ref C) := by rw [← hkv]; rfl
  refine wpAny_execs_cons (wpAny_For (F16.nm mr ?_))
  refine iterL (hl5.kp F16.keep) (fun I h₁₂ k₁₂ n₁₂ i₁₂ => ?_)
  have F17 := F16.freshLI k₁₂ n₁₂ i₁₂
  refine forLoopG (WlI s hB5 s.heap.objs.size I RL R G M Lf of recs D rs rc) ?_ recs.length (.mk (i := 0) F17 Rw.nil mr rfl)
  clear F17 F16 i₁₂ n₁₂ k₁₂ mr
  rintro n s' ⟨F, Rr, mr, hn⟩
  rename_i h' tk i xr yg m
  by_cases hend : recs.length ≤ i
  · refine F.lend (hr.deep _).han hl5 hend (fun h₂ F₂ => wpAny_execs_nil ?_)
    dsimp only
    have ei : i = recs.length := by lia
    subst ei
    rw [List.take_length] at F₂ Rr
    refine wpAny_execs_cons (wpAny_Assign_Subscript ?_)
    refine tupComp (cW := s.heap.objs.size + 2) (rc := rc) ⟨rfl, by decide, rfl, by decide, fun _ => rfl, fun _ => rfl, fun _ => rfl, fun _ => rfl⟩ KW5 ((hr.deep _).le (by decide)) F₂ hl5 HD v5 hcw5 dr5 mr (by lia) rfl rfl rfl (fun H h₃ tk₃ hB6 xs F₃ kr6 nH lx tu => ?_)
    refine nmC (hcw5.keeps kr6) F₃.keep (wpAny_Constant_str ?_)
    refine wpAny_setItem_pairs (knd := SK w) (k := Str.ofString "heap") (strKind_is _ _ _ _) (HD.keep (kr6.trans F₃.keep)) (fun h₄ d₄ s₄ => ?_) (by rw [← hkv]; show 5 ≤ sizeLine; simp [sizeLine_eq])
    dsimp only
    obtain ⟨o4, e4, i4⟩ := Heap.dictOf_iff.mp d₄
    obtain ⟨hB7, F₄, e7, g7⟩ := F₃.turn (kr6 _ _ eW) s₄ e4
    have k7 : Kp hB4 hB7 := fun b o e => g7 b o (fun q => by rw [q, nW] at e; cases e) (kr6 _ _ (kr5 _ _ e))
    have tu7 : TupsR hB7 C (fun v => (rc v).n) recs xs := fun i v e => by obtain ⟨r, a, b⟩ := tu i v e; exact ⟨r, a, b.turn (kr6 _ _ eW) dW e7 g7⟩
    obtain ⟨isT, mT⟩ := tu7.hx (rs := rs) lx
    have nd5 := F₄.nd
    have nd3 : [R, G, M].Nodup := (List.nodup_append.mp (List.nodup_cons.mp (show (H :: ([R, G, M] ++ [Lf])).Nodup from nd5)).2).1
    have k07 := k04.trans k7
    have T7 : Wd w hB7 W rl R G M H C f (stored (stored kvs4 (Str.ofString "key") (.ref C)) (Str.ofString "heap") (.ref H)) rs rc D :=
      ⟨⟨X.kp k07, Heap.dictOf_iff.mpr ⟨o4, e7, i4⟩, by rw [← hkv]; rfl, by rw [← hkv]; rfl, by rw [← hkv]; rfl, by rw [← hkv]; rfl, hR.kp k07, ok, nd3⟩, by rw [← hkv]; rfl, by rw [← hkv]; rfl, KW4.kp k7, fun v d => (dr v d).kp k07⟩
    have mem : ∀ v ∈ xs, tRec hB7 v ∈ recs := fun v hv => by rw [← mT]; exact List.mem_map_of_mem hv
    have hcw7 := hcw.keeps k7
    clear tu tu7 F₃ e4 i4 e7 g7 d₄ s₄ kr6
    refine wpAny_execs_cons (wpAny_Expr ?_)
    refine Call_ (nmG (T7.wk.x.keeps F₄.keep) (by k_is) (callWith_F (args_cons (Subscript_ ?_))))
    refine nmC hcw7 F₄.keep (wpAny_Constant_str (getW T7.wk.d F₄.keep T7.v6 ?_))
    refine args_nil ⟨FnAt.of (T7.wk.x.keeps F₄.keep) (by k_is), ?_⟩
    refine heapify_spec T7.wk.x (cmp_of T7 Rr isT mem) ((hr.deep _).le (by decide)) F₄.keep (F₄.off _ (.head _)).2 (F₄.pl (.head _)) (fun v hv => hv) (by lia) (fun h₅ tk₅ k₅ l₅ => ?_)
    have F₅ := F₄.butL 0 rfl k₅ l₅
    dsimp only
    obtain ⟨b1, b2⟩ := hpfy_ok (d := Value.none) ((cV_ok (rc := rc) ok).ltT hB7) xs
    refine wpAny_execs_cons (wpAny_Return_some (nmC hcw7 F₅.keep ?_))
    obtain ⟨of', ef', rfl⟩ := F₅.get (.tail _ (.tail _ (.tail _ (.tail _ (.head _)))))
    refine k W R G M H C f _ h₅ tk₅ hB7 xr yg _ k07 ⟨T7, F₅.keep, fun a ha => ?_, fun p hp => ?_, Rr, ⟨fun v hv => isT v (b2.mem_iff.mp hv), ?_, b1⟩, ⟨F₅.pl (.tail _ (.head _)), F₅.pl (.tail _ (.tail _ (.head _))), F₅.pl (.tail _ (.tail _ (.tail _ (.head _)))), F₅.pl (.head _)⟩⟩ (fin _ (k7.trans F₅.keep) ef') ?_ (tabs.kp k7)
    · simp only [List.mem_cons, List.not_mem_nil, or_false] at ha
      rcases ha with q | q | q | q
      · rw [q]; exact (F₅.off _ (.tail _ (.head _))).2
      · rw [q]; exact (F₅.off _ (.tail _ (.tail _ (.head _)))).2
      · rw [q]; exact (F₅.off _ (.tail _ (.tail _ (.tail _ (.head _))))).2
      · rw [q]; exact (F₅.off _ (.head _)).2
    · rw [List.mem_singleton.mp hp]
      exact (F₅.off _ (.tail _ (.tail _ (.tail _ (.tail _ (.head _)))))).2
    · rw [← mT]; exact b2.map _
    · exact (List.perm_middle (l₁ := [R, G, M])).nodup_iff.mpr nd5
  · have hlt : i < recs.length := by lia
    have hv : recs[i]? = some recs[i] := List.getElem?_eq_getElem hlt
    have et : recs.take (i + 1) = recs.take i ++ [recs[i]] := by rw [List.take_add_one, hv]; rfl
    generalize recs[i] = v at hv et
    have mv := List.mem_of_getElem? hv
    refine F.lnext 0 rfl hl5 hv (fun h₂ F₂ => ?_)
    dsimp only
    refine wpAny_of_eq (a := ()) rfl ?_
    refine wpAny_assign_Name (F₂.st fun h₃ F₃ => ?_)
    have F₃ : Lg hB5 s.heap.objs.size h₃ _ ((I, isLI RL (i + 1)) :: (led3 R G M xr yg (recs.take i) ++ [(Lf, isO of)])) := F₃
    have sub : ∀ u ∈ recs.take i, u ∈ recs := fun u hu => List.mem_of_mem_take hu
    have l0 : (recs.take i).length = i := by rw [List.length_take]; lia
    have l1 : xr.length = i := by rw [Rr.pr.length_eq, l0]
    have l2 : yg.length = i := by rw [Rr.pg.length_eq, l0]
    have nd3 : [R, G, M].Nodup := (List.nodup_append.mp (List.nodup_cons.mp (show (I :: ([R, G, M] ++ [Lf])).Nodup from F₃.nd)).2).1
    refine wpAny_execs_cons (wpAny_Expr ?_)
    refine Call_ (nmG (X5.keeps F₃.keep) (by k_is) (callWith_F (args_cons (nmC hcw5 F₃.keep (args_cons (F₃.nm rfl ?_))))))
    refine args_nil ⟨FnAt.of (X5.keeps F₃.keep) (by k_is), ?_⟩
    refine lay_spec (rc := rc) X5 HD v1 v2 v3 v4 hR5 ok (dr5 v mv) (fun u hu => dr5 u (sub u (Rr.pr.mem_iff.mp hu))) (fun u hu => dr5 u (sub u (Rr.pg.mem_iff.mp hu))) ((hr.deep _).le (by decide)) F₃.keep (F₃.off _ (.tail _ (.head _))).2 (F₃.off _ (.tail _ (.tail _ (.head _)))).2 (F₃.off _ (.tail _ (.tail _ (.tail _ (.head _))))).2 nd3
      (F₃.pl (.tail _ (.head _))) (F₃.pl (.tail _ (.tail _ (.head _)))) (F₃.pl (.tail _ (.tail _ (.tail _ (.head _))))) (by lia) (by lia) (by lia) (fun h₄ tk₄ k₄ a1 a2 a3 => ?_)
    have F₄ := F₃.but3g k₄ a1 a2 a3
    dsimp only
    refine wpAny_execs_nil ?_
    have Rl := Rr.lay ok (hD v mv) (hnum i v hv)
    rw [← et] at F₄ Rl
    exact ⟨n - 1, by lia, .mk F₄ Rl mr (by lia)⟩
theorem allX (x : T) : pX x := eps (P := pX) pfX0
end N_world_spec
theorem world_spec {w : World} {A : Around} {E : Value → Shared → Prop} {s : Shared} {Q : Value → Shared → Prop} {hb : Heap} {rl RL : Addr} {rs : List (Nat × Int)} {rc : Value → Rc} {D : Value → Prop} {recs : List Value} : N_world_spec.stX0 w A E s Q hb rl RL rs rc D recs := (N_world_spec.allX (w, A, E, s, Q, hb, rl, RL, rs, rc, D, recs))
section
variable {w : World} {A : Around} {E : Value → Shared → Prop} {s : Shared} {Q : Value → Shared → Prop} {hb : Heap} {rl RL Lf : Addr} {of : Obj} {rs : List (Nat × Int)} {rc : Value → Rc} {D : Value → Prop} {recs : List Value}
end
end Mine
namespace Mine
section
variable {w : World} {A : Around} {E : Value → Shared → Prop} {s : Shared} {Q : Value → Shared → Prop} {hb : Heap} {cell num first : Int} {tc tn : Tok}
theorem fdivI {a b : Int} {t u : Tok} (hb : b ≠ 0) (hs : b.natAbs < 1000) (h : ∀ t, Q (.int (a.fdiv b) t) { s with toks := s.toks + 1 }) : wpAny (MM w) A (binaryOp .FloorDiv (.int a t) (.int b u)) Q E s :=
  PyProof.Rows.floordiv_int hb (h _) (.inl (PyProof.noPylong_small (by lia)))
theorem recAt_of {h : Heap} {r : Addr} {a b c n : Int} {t1 t2 t3 t4 : Tok} (l : PL h r [.int a t1, .int b t2, .int c t3, .int n t4]) : RecAt h (.ref r) ⟨a, b, c, n⟩ :=
  ⟨r, _, rfl, l, rfl, fun k hk => by
    match k, hk with
    | 0, _ => exact ⟨_, rfl⟩
    | 1, _ => exact ⟨_, rfl⟩
    | 2, _ => exact ⟨_, rfl⟩
    | 3, _ => exact ⟨_, rfl⟩⟩
end
namespace N_record_spec
noncomputable def stX0 (w : World) (A : Around) (E : Value → Shared → Prop) (s : Shared) (Q : Value → Shared → Prop) (hb : Heap) (cell num : Int) (tc tn : Tok) : Prop := ∀ (X : KIn w hb) (hr : Rm A 2) (kb : Kp hb s.heap) (k : ∀ r h' tk x, x.n = num → Kp s.heap h' → s.heap.get? r = none → RecAt h' (.ref r) x → (∃ o, h'.get? r = some o ∧ ∀ h'', h''.get? r = some o → RecAt h'' (.ref r) x) → Q (.ref r) { s with heap := h', toks := tk }), wpAny (MM w) A (call (.ref 117) [.int cell tc, .int num tn]) Q E s
noncomputable abbrev T := World × Around × (Value → Shared → Prop) × Shared × (Value → Shared → Prop) × Heap × Int × Int × Tok × Tok
noncomputable def pX (x : T) : Prop := stX0 x.1 x.2.1 x.2.2.1 x.2.2.2.1 x.2.2.2.2.1 x.2.2.2.2.2.1 x.2.2.2.2.2.2.1 x.2.2.2.2.2.2.2.1 x.2.2.2.2.2.2.2.2.1 x.2.2.2.2.2.2.2.2.2
noncomputable def cX : T := @Classical.epsilon _ (ne2 neW (ne2 neA (ne2 neI (ne2 neS (ne2 neI (ne2 neI (ne2 neI (ne2 neI (ne2 neI neI))))))))) fun x => ¬ pX x
def w : World := cX.1
def A : Around := cX.2.1
def E : Value → Shared → Prop := cX.2.2.1
def s : Shared := cX.2.2.2.1
def Q : Value → Shared → Prop := cX.2.2.2.2.1
def hb : Heap := cX.2.2.2.2.2.1
def cell : Int := cX.2.2.2.2.2.2.1
def num : Int := cX.2.2.2.2.2.2.2.1
def tc : Tok := cX.2.2.2.2.2.2.2.2.1
def tn : Tok := cX.2.2.2.2.2.2.2.2.2
theorem pfX0 : stX0 w A E s Q hb cell num tc tn := by
  intro X hr kb k
  refine callT (X.keeps kb) (by k_is) (by k_is) hr (BindsTo.of_eq rfl) (locs rfl) (fun h₁ F₁ => ?_)
  have F := Lg.start0 F₁ (newNone _)
  have d8 : (8 : Int).natAbs < 1000 := by decide
  refine wpAny_execs_cons (wpAny_Assign_Name (wpAny_BinOp (F.nm rfl (wpAny_Constant_int (fdivI (by decide) (by decide) (fun t1 => ?_))))))
  refine F.st fun h₂ F₂ => ?_
  dsimp only
  refine wpAny_execs_cons (wpAny_Assign_Name (wpAny_BinOp (F₂.nm rfl (wpAny_Constant_int (fdivI (by decide) (by decide) (fun t2 => ?_))))))
  refine F₂.st fun h₃ F₃ => ?_
  dsimp only
  refine wpAny_execs_cons (wpAny_If (wpAny_isTrue_Compare1 (wpAny_BinOp (F₃.nm rfl (wpAny_Constant_int (PyProof.Rows.mod_int (by decide) (wpAny_Constant_int (eq_int (wpAny_truthy_bool ?_)))))))))
  by_cases q : (((cell.fdiv 8).fdiv 9).fmod 2 == 0) = true
  · rw [if_pos q]
    refine wpAny_execs_cons (wpAny_Assign_Name (wpAny_BinOp (F₃.nm rfl (wpAny_Constant_int (fdivI (by decide) (by decide) (fun t3 => ?_))))))
    refine F₃.st fun h₄ F₄ => ?_
    dsimp only
    refine wpAny_execs_nil (wpAny_execs_cons (wpAny_Return_some (listD (args_cons (wpAny_BinOp (F₄.nm rfl (wpAny_Constant_int (PyProof.Rows.mod_int (by decide) (args_cons (wpAny_BinOp (wpAny_BinOp (F₄.nm rfl (wpAny_Constant_int (fdivI (by decide) (by decide) (fun t4 => wpAny_Constant_int (PyProof.Rows.mod_int (by decide) (args_cons (F₄.nm rfl (args_cons (F₄.nm rfl (args_nil ⟨szL, fun r h₅ k₅ n₅ e₅ => ?_⟩)))))))))))))))))))))
    exact k r h₅ _ ⟨_, _, _, num⟩ rfl (F₄.keep.trans k₅) (none_base F₄.keep n₅) (recAt_of ⟨0, e₅⟩) ⟨_, e₅, fun h'' e'' => recAt_of ⟨0, e''⟩⟩
  · rw [if_neg q]
    refine wpAny_execs_cons (wpAny_Assign_Name (wpAny_BinOp (wpAny_BinOp (F₃.nm rfl (wpAny_Constant_int (fdivI (by decide) (by decide) (fun t3 => wpAny_Constant_int (PyProof.Rows.mod_int (by decide) ?_))))))))
    refine F₃.st fun h₄ F₄ => ?_
    dsimp only
    refine wpAny_execs_nil (wpAny_execs_cons (wpAny_Return_some (listD (args_cons (wpAny_BinOp (F₄.nm rfl (wpAny_Constant_int (PyProof.Rows.mod_int (by decide) (args_cons (wpAny_BinOp (wpAny_BinOp (F₄.nm rfl (wpAny_Constant_int (fdivI (by decide) (by decide) (fun t4 => wpAny_Constant_int (PyProof.Rows.mod_int (by decide) (args_cons (F₄.nm rfl (args_cons (F₄.nm rfl (args_nil ⟨szL, fun r h₅ k₅ n₅ e₅ => ?_⟩)))))))))))))))))))))
    exact k r h₅ _ ⟨_, _, _, num⟩ rfl (F₄.keep.trans k₅) (none_base F₄.keep n₅) (recAt_of ⟨0, e₅⟩) ⟨_, e₅, fun h'' e'' => recAt_of ⟨0, e''⟩⟩
theorem allX (x : T) : pX x := eps (P := pX) pfX0
end N_record_spec
theorem record_spec {w : World} {A : Around} {E : Value → Shared → Prop} {s : Shared} {Q : Value → Shared → Prop} {hb : Heap} {cell num : Int} {tc tn : Tok} : N_record_spec.stX0 w A E s Q hb cell num tc tn := (N_record_spec.allX (w, A, E, s, Q, hb, cell, num, tc, tn))
section
variable {w : World} {A : Around} {E : Value → Shared → Prop} {s : Shared} {Q : Value → Shared → Prop} {hb : Heap} {cell num first : Int} {tc tn : Tok}
end
end Mine
namespace Mine
noncomputable def RulesN (h0 h : Heap) (l : Addr) (rs : List (Nat × Int)) : Prop := ∃ xs : List Value, PL h l xs ∧ h0.get? l = none ∧ xs.length = rs.length ∧ ∀ (i k : Nat) (s : Int), rs[i]? = some (k, s) → ∃ t tk ts, xs[i]? = some (.ref t) ∧ h.get? t = some (seqObj "tuple" #[.int k tk, .int s ts] 0) ∧ h0.get? t = none
theorem RulesN.hide {h0 h : Heap} {l : Addr} {rs : List (Nat × Int)} {S : List Addr} (x : RulesN h0 h l rs) (hS : ∀ a ∈ S, ∃ o, h0.get? a = some o) : RulesAt (hideAll h S) l rs := by
  have off : ∀ a, h0.get? a = none → a ∉ S := fun a e q => by obtain ⟨o, e'⟩ := hS a q; rw [e] at e'; cases e'
  obtain ⟨xs, ⟨n, e⟩, nl, len, g⟩ := x
  refine ⟨xs, ⟨n, hideAll_get _ e (off _ nl)⟩, len, fun i k s q => ?_⟩
  obtain ⟨t, tk, ts, a1, a2, a3⟩ := g i k s q
  exact ⟨t, tk, ts, a1, hideAll_get _ a2 (off _ a3)⟩
noncomputable def ColT (h : Heap) (v : Value) : Prop := ∃ t xs, v = .ref t ∧ h.get? t = some (seqObj "tuple" (xs : List Value).toArray 0) ∧ xs.length = 3 ∧ ∀ u ∈ xs, ∃ (k : Nat) (tk : Tok), k < 3 ∧ u = .int k tk
theorem ColT.kp {h h' : Heap} {v : Value} (x : ColT h v) (k : Kp h h') : ColT h' v := by obtain ⟨t, xs, e, p, q⟩ := x; exact ⟨t, xs, e, k _ _ p, q⟩
section
variable {w : World} {A : Around} {E : Value → Shared → Prop} {s : Shared} {Q : Value → Shared → Prop} {hb : Heap} {first : Int} {tc : Tok} {env : Env}
theorem colD {a b c : Int} {k1 k2 k3 k4 : Nat} {p1 p2 p3 p4 : Pos} (ha : 0 ≤ a ∧ a < 3) (hb : 0 ≤ b ∧ b < 3) (hc : 0 ≤ c ∧ c < 3) (h : ∀ t h' tk, Kp s.heap h' → ColT h' (.ref t) → Q (.ref t) { s with heap := h', toks := tk }) :
    wpAny (MM w) A (eval (.Tuple [.Constant (.int a) k1 p1, .Constant (.int b) k2 p2, .Constant (.int c) k3 p3] k4 p4) env) Q E s := by
  refine tupD (args_cons (wpAny_Constant_int (args_cons (wpAny_Constant_int (args_cons (wpAny_Constant_int (args_nil ⟨szL, fun t h' k' n' e' => ?_⟩)))))))
  refine h t h' _ k' ⟨t, _, rfl, e', rfl, fun u hu => ?_⟩
  simp only [List.mem_cons, List.not_mem_nil, or_false] at hu
  rcases hu with rfl | rfl | rfl
  · exact ⟨a.toNat, _, by lia, by rw [Int.toNat_of_nonneg ha.1]⟩
  · exact ⟨b.toNat, _, by lia, by rw [Int.toNat_of_nonneg hb.1]⟩
  · exact ⟨c.toNat, _, by lia, by rw [Int.toNat_of_nonneg hc.1]⟩
theorem cols_at {h : Heap} {c1 c2 c3 c4 c5 c6 : Value} {j : Nat} (d1 : ColT h c1) (d2 : ColT h c2) (d3 : ColT h c3) (d4 : ColT h c4) (d5 : ColT h c5) (d6 : ColT h c6) (hj : j < 6) : ∃ cv, [c1, c2, c3, c4, c5, c6][j]? = some cv ∧ ColT h cv := by
  match j, hj with
  | 0, _ => exact ⟨_, rfl, d1⟩
  | 1, _ => exact ⟨_, rfl, d2⟩
  | 2, _ => exact ⟨_, rfl, d3⟩
  | 3, _ => exact ⟨_, rfl, d4⟩
  | 4, _ => exact ⟨_, rfl, d5⟩
  | 5, _ => exact ⟨_, rfl, d6⟩
structure RuS (h0 hB : Heap) (ys : List Value) (rs : List (Nat × Int)) : Prop where
  len : ys.length = rs.length
  ok : ROk rs
  at_ : ∀ (i k : Nat) (s : Int), rs[i]? = some (k, s) → ∃ t tk ts, ys[i]? = some (.ref t) ∧ hB.get? t = some (seqObj "tuple" #[.int k tk, .int s ts] 0) ∧ h0.get? t = none
theorem RuS.more {h0 hB hB' : Heap} {ys : List Value} {rs : List (Nat × Int)} {t : Addr} {k : Nat} {sg : Int} {tk ts : Tok} (x : RuS h0 hB ys rs) (kp : Kp hB hB') (hk : k < 3) (hs : sg = 1 ∨ sg = -1) (e : hB'.get? t = some (seqObj "tuple" #[.int k tk, .int sg ts] 0)) (n : h0.get? t = none) : RuS h0 hB' (ys ++ [.ref t]) (rs ++ [(k, sg)]) := by
  refine ⟨by rw [List.length_append, List.length_append, x.len]; rfl, fun r hr => ?_, fun i k' s' q => ?_⟩
  · rcases List.mem_append.mp hr with hr | hr
    · exact x.ok r hr
    · rw [List.mem_singleton.mp hr]; exact ⟨hk, hs⟩
  · by_cases hi : i < rs.length
    · rw [List.getElem?_append_left hi] at q
      obtain ⟨t', tk', ts', a1, a2, a3⟩ := x.at_ i k' s' q
      exact ⟨t', tk', ts', by rw [List.getElem?_append_left (by rw [x.len]; exact hi)]; exact a1, kp _ _ a2, a3⟩
    · have hl := (List.getElem?_eq_some_iff.mp q).1
      rw [List.length_append] at hl
      have : i = rs.length := by simp at hl; lia
      subst this
      rw [List.getElem?_append_right (Nat.le_refl _), Nat.sub_self] at q
      cases q
      exact ⟨t, tk, ts, by rw [← x.len, List.getElem?_append_right (Nat.le_refl _), Nat.sub_self]; rfl, e, n⟩
inductive RuI (s : Shared) (hB0 : Heap) (L I l : Addr) (col : Value) (sg N : Int) (n : Nat) : Shared → Prop
  | mk {h hB : Heap} {tk : Nat} {ts : Tok} {m : Str → Option Value} {ys : List Value} {rs : List (Nat × Int)} (F : Lg hB L h m [(I, isRI rs.length (N - rs.length) 1), (l, isL ys)]) (kB : Kp hB0 hB) (R : RuS s.heap hB ys rs) (m1 : m (Str.ofString "columns") = some col) (m2 : m (Str.ofString "signs") = some (.int sg ts)) (m3 : m (Str.ofString "rules") = some (.ref l)) (hn : (n : Int) + rs.length = N) :
    RuI s hB0 L I l col sg N n { s with heap := h, toks := tk }
theorem Lg.tupBase {h0 h : Heap} {L ct : Addr} {m : Str → Option Value} {its : Array Value} {n : Nat} (F : Lg h0 L h m []) (e : h.get? ct = some (seqObj "tuple" its n)) : ∃ hB, Lg hB L h m [] ∧ Kp h0 hB ∧ hB.get? ct = some (seqObj "tuple" its n) :=
  ⟨_, F.rebase.1, F.rebase.2, hideAll_get _ e (fun q => by
    have q := List.mem_singleton.mp q
    obtain ⟨o, es, ep, e', dd, _⟩ := F.ns
    rw [q, e'] at e
    cases e
    cases dd)⟩
theorem rangeF {t : Tok} (h : ∀ N r h' tk t1 t2 t3, 1 ≤ N → N ≤ 3 → Kp s.heap h' → IsRange h' r 0 N 1 t1 t2 t3 → Q (.ref r) { s with heap := h', toks := tk }) : wpAny (MM w) A (call (.type "range") [.int ((first.fdiv 48).fmod 3 + 1) t]) Q E s := by
  have r1 := Int.fmod_nonneg_of_pos (first.fdiv 48) (b := 3) (by decide)
  have r2 := Int.fmod_lt_of_pos (first.fdiv 48) (b := 3) (by decide)
  exact rangeN (fun r h' tk t1 t2 k e => h _ r h' tk t1 _ t2 (by lia) (by lia) k e)
theorem Lg.ri0 {hB h : Heap} {L I : Addr} {m : Str → Option Value} {ls : Led} {N : Int} (F : Lg hB L h m ((I, isRI 0 N 1) :: ls)) : Lg hB L h m ((I, isRI (([] : List (Nat × Int)).length : Nat) (N - (([] : List (Nat × Int)).length : Nat)) 1) :: ls) := by
  have e1 : N - (([] : List (Nat × Int)).length : Nat) = N := by simp
  rw [e1]; exact F
theorem iterR {r : Addr} {N : Int} {t u v : Tok} (hr : IsRange s.heap r 0 N 1 t u v) (h1 : 1 ≤ N) (h2 : N < 1000) (h : ∀ I h', Kp s.heap h' → s.heap.get? I = none → h'.get? I = some { cls := .type "range_iterator", dict := none, data := .fields #[rawInt 0, rawInt N, rawInt 1], slots := #[] } → Q (.ref I) { s with heap := h' }) : wpAny (MM w) A (pyIter (.ref r)) Q E s := by
  refine wpAny_pyIter_range hr (small_one (by lia) (by lia) (by lia) (by lia)) ?_
  have e : Builtin.Range.rangeSize 0 N 1 = N := by rw [rangeSize_nat]; lia
  rw [e]
  exact h _ _ (Kp.push _ _) (newNone _) (Heap.get?_push_size _ rfl)
end
namespace N_rules_spec
noncomputable def stX0 (w : World) (A : Around) (E : Value → Shared → Prop) (s : Shared) (Q : Value → Shared → Prop) (hb : Heap) (first : Int) (tc : Tok) : Prop := ∀ (X : KIn w hb) (hr : Rm A 2) (kb : Kp hb s.heap) (k : ∀ l h' tk rs, ROk rs → Kp s.heap h' → RulesN s.heap h' l rs → Q (.ref l) { s with heap := h', toks := tk }), wpAny (MM w) A (call (.ref 124) [.int first tc]) Q E s
noncomputable abbrev T := World × Around × (Value → Shared → Prop) × Shared × (Value → Shared → Prop) × Heap × Int × Tok
noncomputable def pX (x : T) : Prop := stX0 x.1 x.2.1 x.2.2.1 x.2.2.2.1 x.2.2.2.2.1 x.2.2.2.2.2.1 x.2.2.2.2.2.2.1 x.2.2.2.2.2.2.2
noncomputable def cX : T := @Classical.epsilon _ (ne2 neW (ne2 neA (ne2 neI (ne2 neS (ne2 neI (ne2 neI (ne2 neI neI))))))) fun x => ¬ pX x
def w : World := cX.1
def A : Around := cX.2.1
def E : Value → Shared → Prop := cX.2.2.1
def s : Shared := cX.2.2.2.1
def Q : Value → Shared → Prop := cX.2.2.2.2.1
def hb : Heap := cX.2.2.2.2.2.1
def first : Int := cX.2.2.2.2.2.2.1
def tc : Tok := cX.2.2.2.2.2.2.2
theorem pfX0 : stX0 w A E s Q hb first tc := by
  intro X hr kb k
  refine callT (X.keeps kb) (by k_is) (by k_is) hr (BindsTo.of_eq rfl) (locs rfl) (fun h₁ F₁ => ?_)
  have F := Lg.start0 F₁ (newNone _)
  have X0 := X.keeps kb
  refine wpAny_execs_cons ?_
  refine wpAny_Assign_Name ?_ ?hs
  case hs => rfl
  refine Subscript_ ?_
  refine tupD ?_
  refine args_cons ?_
  refine colD ?_ ?_ ?_ ?_
  · decide
  · decide
  · decide
  intro c1 g1 t1 j1 d1
  refine args_cons ?_
  refine colD ?_ ?_ ?_ ?_
  · decide
  · decide
  · decide
  intro c2 g2 t2 j2 d2
  refine args_cons ?_
  refine colD ?_ ?_ ?_ ?_
  · decide
  · decide
  · decide
  intro c3 g3 t3 j3 d3
  refine args_cons ?_
  refine colD ?_ ?_ ?_ ?_
  · decide
  · decide
  · decide
  intro c4 g4 t4 j4 d4
  refine args_cons ?_
  refine colD ?_ ?_ ?_ ?_
  · decide
  · decide
  · decide
  intro c5 g5 t5 j5 d5
  refine args_cons ?_
  refine colD ?_ ?_ ?_ ?_
  · decide
  · decide
  · decide
  intro c6 g6 t6 j6 d6
  refine args_nil ?_
  refine ⟨szL, ?_⟩
  intro cT g7 j7 n7 e7
  have d6 := d6.kp j7
  have d5 := (d5.kp j6).kp j7
  have d4 := ((d4.kp j5).kp j6).kp j7
  have d3 := (((d3.kp j4).kp j5).kp j6).kp j7
  have d2 := ((((d2.kp j3).kp j4).kp j5).kp j6).kp j7
  have d1 := (((((d1.kp j2).kp j3).kp j4).kp j5).kp j6).kp j7
  have k7 := (((((j1.trans j2).trans j3).trans j4).trans j5).trans j6).trans j7
  have F₂ := F.kp k7
  have b1 : 0 ≤ first.fmod 6 := Int.fmod_nonneg_of_pos first (by decide)
  have b2 : first.fmod 6 < 6 := Int.fmod_lt_of_pos first (by decide)
  refine wpAny_BinOp ?_
  refine F₂.nm rfl ?_
  refine wpAny_Constant_int ?_
  refine PyProof.Rows.mod_int (by decide) ?_
  refine Exists.elim (cols_at (j := (first.fmod 6).toNat) d1 d2 d3 d4 d5 d6 (by lia)) fun cv z => ?_
  refine item_tupleT (l := [.ref c1, .ref c2, .ref c3, .ref c4, .ref c5, .ref c6]) (j := (first.fmod 6).toNat) ⟨_, e7, rfl, 0, rfl⟩ (by lia) (by lia) (seqIndex_of b1 b2) z.1 ?_
  refine Exists.elim z.2 fun ct z => Exists.elim z fun cxs z => ?_
  rw [z.1]
  have cte := z.2.1
  have cl := z.2.2.1
  have cx := z.2.2.2
  refine Exists.elim (F₂.tupBase cte) fun hB0 z => ?_
  have F₃ := z.1
  have kr := z.2.1
  have ce := z.2.2
  clear z cte F₂ k7 d1 d2 d3 d4 d5 d6 b1 b2 e7 n7 j7 j6 j5 j4 j3 j2 j1
  refine F₃.st fun h₄ F₄ => ?_
  dsimp only
  have XB := X0.kp kr
  refine wpAny_execs_cons (wpAny_Assign_Name (wpAny_BinOp (F₄.nm rfl (wpAny_Constant_int (fdivI (by decide) (by decide) (fun ts => ?_))))))
  refine F₄.st fun h₅ F₅ => ?_
  dsimp only
  generalize first.fdiv 6 = sg at F₅
  refine wpAny_execs_cons (wpAny_Assign_Name (listD (args_nil ⟨szL, fun l h₆ k₆ n₆ e₆ => ?_⟩)))
  have nl : s.heap.get? l = none := none_base (kr.trans F₅.keep) n₆
  have F₆ := F₅.fresh k₆ n₆ e₆ (P := isL []) ⟨0, rfl⟩
  refine F₆.st fun h₇ F₇ => ?_
  dsimp only
  have r1 := Int.fmod_nonneg_of_pos (first.fdiv 48) (b := 3) (by decide)
  have r2 := Int.fmod_lt_of_pos (first.fdiv 48) (b := 3) (by decide)
  refine wpAny_execs_cons (wpAny_For (Call_ (nmB (XB.keeps F₇.keep) (by k_is) (by k_is) ?_)))
  refine PyProof.Rows.callWith_type1 (args_cons (wpAny_BinOp (wpAny_BinOp (wpAny_BinOp (F₇.nm rfl (wpAny_Constant_int (fdivI (by decide) (by decide) (fun t8 => wpAny_Constant_int (PyProof.Rows.mod_int (by decide) (wpAny_Constant_int (PyProof.Rows.add_int (args_nil ?_))))))))))))
  refine rangeF ?_
  intro N r h₈ tk₈ t9 t11 t10 hN1 hN2 k₈ r₈
  have hN : 1 ≤ N ∧ N ≤ 3 := ⟨hN1, hN2⟩
  have F₈ := F₇.kp k₈
  refine iterR r₈ hN.1 (by lia) (fun I h₉ k₉ n₉ e₉ => ?_)
  have F₉ := F₈.fresh k₉ n₉ e₉ (P := isRI 0 N 1) rfl
  have F₉ := F₉.ri0
  refine codeAny_forLoop (RuI s hB0 s.heap.objs.size I l (.ref ct) sg N) ?_ N.toNat (.mk (rs := []) F₉ (Kp.refl _) ⟨rfl, (fun r hr => nomatch hr), (fun i k s q => by simp at q)⟩ rfl rfl rfl (by simp; lia))
  rintro n s' ⟨F, kB, R, m1, m2, m3, hn⟩
  rename_i h' hB tk tsg m ys rs
  by_cases hend : N - rs.length ≤ 0
  · refine F.rend (hr.deep _).han hend (fun h₂ F₂ => wpAny_execs_nil ?_)
    dsimp only
    refine wpAny_execs_cons (wpAny_Return_some (F₂.nm m3 ?_))
    refine k l _ _ rs R.ok ((kr.trans kB).trans F₂.keep) ⟨ys, F₂.pl (.head _), nl, R.len, fun i k' s' q => ?_⟩
    obtain ⟨t, tk', ts', a1, a2, a3⟩ := R.at_ i k' s' q
    exact ⟨t, tk', ts', a1, F₂.keep _ _ a2, a3⟩
  · have hlt : rs.length < 3 := by lia
    have hx : cxs[rs.length]? = some cxs[rs.length] := List.getElem?_eq_getElem (by lia)
    obtain ⟨kc, ktk, hk3, eu⟩ := cx _ (List.getElem_mem (l := cxs) (n := rs.length) (by lia))
    rw [eu] at hx
    have p2 : ((2 : Int) ^ ((rs.length : Nat) : Int).toNat) ≠ 0 ∧ ((2 : Int) ^ ((rs.length : Nat) : Int).toNat).natAbs < 1000 := by
      rw [Int.toNat_natCast]
      have : ∀ j : Nat, j < 3 → ((2 : Int) ^ j ≠ 0 ∧ ((2 : Int) ^ j).natAbs < 1000) := by decide
      exact this _ hlt
    refine F.rnext 0 rfl (by lia) (fun h₂ t₂ F₂ => ?_)
    dsimp only
    refine wpAny_assign_Name (F₂.st fun h₃ F₃ => ?_)
    have F₃ : Lg hB s.heap.objs.size h₃ _ [(I, isRI (rs.length + 1) (N - rs.length - 1) 1), (l, isL ys)] := F₃
    have next : ∀ (sv : Int) (tv : Tok) (h₄ : Heap) (tk₄ : Nat) (t : Addr) (m' : Str → Option Value) (hB' : Heap), sv = 1 ∨ sv = -1 → Lg hB' s.heap.objs.size h₄ m' [(I, isRI (rs.length + 1) (N - rs.length - 1) 1), (l, isL (ys ++ [.ref t]))] → Kp hB hB' → hB'.get? t = some (seqObj "tuple" #[.int kc ktk, .int sv tv] 0) → s.heap.get? t = none → m' (Str.ofString "columns") = some (.ref ct) → m' (Str.ofString "signs") = some (.int sg tsg) → m' (Str.ofString "rules") = some (.ref l) → ∃ n₆, n₆ < n ∧ RuI s hB0 s.heap.objs.size I l (.ref ct) sg N n₆ { s with heap := h₄, toks := tk₄ } := fun sv tv h₄ tk₄ t m' hB' hs F₄ kb₄ e₄ n₄ q1 q2 q3 => by
      have el : (((rs ++ [(kc, sv)]).length : Nat) : Int) = rs.length + 1 := by simp
      have F₅ : Lg hB' s.heap.objs.size h₄ m' [(I, isRI ((rs ++ [(kc, sv)]).length : Nat) (N - ((rs ++ [(kc, sv)]).length : Nat)) 1), (l, isL (ys ++ [.ref t]))] := by
        rw [el, show N - ((rs.length : Int) + 1) = N - rs.length - 1 by lia]
        exact F₄
      exact ⟨n - 1, by lia, .mk F₅ (kB.trans kb₄) (R.more kb₄ hk3 hs e₄ n₄) q1 q2 q3 (by rw [el]; lia)⟩
    refine wpAny_execs_cons ?_
    refine wpAny_Expr ?_
    refine MethodCall_ (F₃.nm (by exact m3) (lsMeth (F₃.pl (.tail _ (.head _))) PySem.F.slot_list_append PySem.F.type_list_append (callWith_method1 ?_)))
    refine args_cons ?_
    refine tupD ?_
    refine args_cons ?_
    refine Subscript_ (F₃.nm (by exact m1) (F₃.nm rfl ?_))
    refine item_tupleT (l := cxs) (j := rs.length) ⟨_, F₃.keep _ _ (kB _ _ ce), rfl, 0, rfl⟩ (by lia) (by lia) (by rw [cl]; exact seqIndex_of (by lia) (by lia)) hx ?_
    refine args_cons ?_
    refine IfExp_ ?_
    refine wpAny_isTrue_Compare1 ?_
    refine wpAny_BinOp ?_
    refine wpAny_BinOp ?_
    refine F₃.nm (by exact m2) ?_
    refine wpAny_BinOp ?_
    refine wpAny_Constant_int ?_
    refine F₃.nm rfl ?_
    refine pow_int_small (by lia) (by lia) (by decide) ?_
    refine fdivI p2.1 p2.2 ?_
    intro t7
    refine wpAny_Constant_int ?_
    refine PyProof.Rows.mod_int (by decide) ?_
    refine wpAny_Constant_int ?_
    refine eq_int (wpAny_truthy_bool ?_)
    refine split_bool (fun _ => ?_) (fun _ => ?_)
    · refine wpAny_Constant_int ?_
      refine args_nil ⟨szL, ?_⟩
      intro t h₄ k₄ n₄ e₄
      refine Exists.elim (F₃.withObj k₄ n₄ e₄) fun hB' z => ?_
      have F₄ := z.1
      refine args_nil ?_
      refine appendL (F₄.pl (.tail _ (.head _))) (by rw [R.len]; lia) ?_
      intro h₅ l₅ s₅
      have F₅ := F₄.putL 1 rfl s₅ l₅
      dsimp only
      refine wpAny_execs_nil ?_
      exact next 1 _ _ _ t _ hB' (.inl rfl) F₅ z.2.1 z.2.2 (none_base ((kr.trans kB).trans F₃.keep) n₄) m1 m2 m3
    · refine wpAny_UnaryOp ?_
      refine wpAny_Constant_int ?_
      refine neg_int ?_
      refine args_nil ⟨szL, ?_⟩
      intro t h₄ k₄ n₄ e₄
      refine Exists.elim (F₃.withObj k₄ n₄ e₄) fun hB' z => ?_
      have F₄ := z.1
      refine args_nil ?_
      refine appendL (F₄.pl (.tail _ (.head _))) (by rw [R.len]; lia) ?_
      intro h₅ l₅ s₅
      have F₅ := F₄.putL 1 rfl s₅ l₅
      dsimp only
      refine wpAny_execs_nil ?_
      exact next (-1) _ _ _ t _ hB' (.inr rfl) F₅ z.2.1 z.2.2 (none_base ((kr.trans kB).trans F₃.keep) n₄) m1 m2 m3
theorem allX (x : T) : pX x := eps (P := pX) pfX0
end N_rules_spec
theorem rules_spec {w : World} {A : Around} {E : Value → Shared → Prop} {s : Shared} {Q : Value → Shared → Prop} {hb : Heap} {first : Int} {tc : Tok} : N_rules_spec.stX0 w A E s Q hb first tc := (N_rules_spec.allX (w, A, E, s, Q, hb, first, tc))
section
variable {w : World} {A : Around} {E : Value → Shared → Prop} {s : Shared} {Q : Value → Shared → Prop} {hb : Heap} {first : Int} {tc : Tok} {env : Env}
end
end Mine
namespace Mine
structure EvR (scope : Scope) (env : Env) (cC : Addr) : Prop where
  hclos : closureFor scope env = pure [(Str.ofString "cells", cC)]
  hcell : ∀ y ∈ scope.names, y.2 ≠ .cell
  hkind : scope.kind = .function
  hnames : ∀ y ∈ scope.names, y.2 = .local → scope.names.lookup y.1 = some .local
  c2 : ∀ C, (compEnvC scope [(Str.ofString "cells", cC)] C env).scope.kind = .function
  c3 : ∀ C, (compEnvC scope [(Str.ofString "cells", cC)] C env).kindOf "place" = some .local
  c4 : ∀ C, (compEnvC scope [(Str.ofString "cells", cC)] C env).kindOf "cells" = some .cell
  c5 : ∀ C, (compEnvC scope [(Str.ofString "cells", cC)] C env).cells.lookup (Str.ofString "cells") = some cC
  c6 : ∀ C, (compEnvC scope [(Str.ofString "cells", cC)] C env).kindOf "_law_record" = some .globalImplicit
  g : env.globals = mainGlobals
noncomputable def RecsN (h : Heap) (xs : List Value) : Prop := ∀ (i : Nat) (v : Value), xs[i]? = some v → ∃ r, RecAt h v r ∧ r.n = i
theorem RecsN.kp {h h' : Heap} {xs : List Value} (x : RecsN h xs) (k : Kp h h') : RecsN h' xs := fun i v e => by obtain ⟨r, a, b⟩ := x i v e; exact ⟨r, a.kp k, b⟩
inductive RcI (s : Shared) (hB0 : Heap) (Cf J Do : Addr) (N : Nat) (ls : Led) (n : Nat) : Shared → Prop
  | mk {h hB : Heap} {tk : Nat} {mC : Str → Option Value} {xs : List Value} (F : Lg hB Cf h mC ((J, isRI (xs.length : Int) ((N : Int) - (xs.length : Int)) 1) :: (Do, isL xs) :: ls)) (kB : Kp hB0 hB) (rn : RecsN hB xs) (hn : n + xs.length = N) : RcI s hB0 Cf J Do N ls n { s with heap := h, toks := tk }
section
variable {w : World} {A : Around} {E : Value → Shared → Prop} {s : Shared} {hB : Heap} {L CL cC r0 : Addr} {cs : List Value} {m : Str → Option Value} {ls : Led} {env : Env} {p1 p2 p3 p4 p5 p6 q1 q3 : Pos} {scope : Scope} {Q : Value → Shared → Prop} {iter : Expr} {R : Result → Shared → Prop}
end
namespace N_recLoop
noncomputable def stX0 (w : World) (A : Around) (s : Shared) (hB : Heap) (CL cC : Addr) (cs : List Value) (ls : Led) (env : Env) (p1 p2 p3 p4 p5 p6 q1 q3 : Pos) (scope : Scope) (iter : Expr) (R : Result → Shared → Prop) (Cf J Do : Addr) (n : Nat) (s' : Shared) : Prop := ∀ (V : EvR scope env cC) (X : KIn w hB) (hr : Rm A 8) (hc : hB.IsCell cC (some (.ref CL))) (hl : PL hB CL cs) (hcs : ∀ v ∈ cs, ∃ k t, v = .int k t) (h60 : cs.length < 60) (h : ∀ h' tk mC hB' xs, Lg hB' Cf h' mC ((Do, isL xs) :: ls) → Kp hB hB' → RecsN hB' xs → xs.length = cs.length → R (.ok .next) { s with heap := h', toks := tk }) (I : RcI s hB Cf J Do cs.length ls n s'), codeAny (MM w) A (.compLoop (.ListComp (.Call (.Name "_law_record" p1) [.Subscript (.Name "cells" p2) (.Name "place" p3) p4, .Name "place" p5] [] p6) [⟨.Name "place" q1, iter, [], 0⟩] scope q3) 0 (.ref J) (.ref Do) (compEnvC scope [(Str.ofString "cells", cC)] Cf env)) R s'
noncomputable abbrev T := World × Around × Shared × Heap × Addr × Addr × (List Value) × Led × Env × Pos × Pos × Pos × Pos × Pos × Pos × Pos × Pos × Scope × Expr × (Result → Shared → Prop) × Addr × Addr × Addr × Nat × Shared
noncomputable def pX (x : T) : Prop := stX0 x.1 x.2.1 x.2.2.1 x.2.2.2.1 x.2.2.2.2.1 x.2.2.2.2.2.1 x.2.2.2.2.2.2.1 x.2.2.2.2.2.2.2.1 x.2.2.2.2.2.2.2.2.1 x.2.2.2.2.2.2.2.2.2.1 x.2.2.2.2.2.2.2.2.2.2.1 x.2.2.2.2.2.2.2.2.2.2.2.1 x.2.2.2.2.2.2.2.2.2.2.2.2.1 x.2.2.2.2.2.2.2.2.2.2.2.2.2.1 x.2.2.2.2.2.2.2.2.2.2.2.2.2.2.1 x.2.2.2.2.2.2.2.2.2.2.2.2.2.2.2.1 x.2.2.2.2.2.2.2.2.2.2.2.2.2.2.2.2.1 x.2.2.2.2.2.2.2.2.2.2.2.2.2.2.2.2.2.1 x.2.2.2.2.2.2.2.2.2.2.2.2.2.2.2.2.2.2.1 x.2.2.2.2.2.2.2.2.2.2.2.2.2.2.2.2.2.2.2.1 x.2.2.2.2.2.2.2.2.2.2.2.2.2.2.2.2.2.2.2.2.1 x.2.2.2.2.2.2.2.2.2.2.2.2.2.2.2.2.2.2.2.2.2.1 x.2.2.2.2.2.2.2.2.2.2.2.2.2.2.2.2.2.2.2.2.2.2.1 x.2.2.2.2.2.2.2.2.2.2.2.2.2.2.2.2.2.2.2.2.2.2.2.1 x.2.2.2.2.2.2.2.2.2.2.2.2.2.2.2.2.2.2.2.2.2.2.2.2
noncomputable def cX : T := @Classical.epsilon _ (ne2 neW (ne2 neA (ne2 neS (ne2 neI (ne2 neI (ne2 neI (ne2 neI (ne2 neI (ne2 neI (ne2 neI (ne2 neI (ne2 neI (ne2 neI (ne2 neI (ne2 neI (ne2 neI (ne2 neI (ne2 neI (ne2 neI (ne2 neI (ne2 neI (ne2 neI (ne2 neI (ne2 neI neS)))))))))))))))))))))))) fun x => ¬ pX x
def w : World := cX.1
def A : Around := cX.2.1
def s : Shared := cX.2.2.1
def hB : Heap := cX.2.2.2.1
def CL : Addr := cX.2.2.2.2.1
def cC : Addr := cX.2.2.2.2.2.1
def cs : List Value := cX.2.2.2.2.2.2.1
def ls : Led := cX.2.2.2.2.2.2.2.1
def env : Env := cX.2.2.2.2.2.2.2.2.1
def p1 : Pos := cX.2.2.2.2.2.2.2.2.2.1
def p2 : Pos := cX.2.2.2.2.2.2.2.2.2.2.1
def p3 : Pos := cX.2.2.2.2.2.2.2.2.2.2.2.1
def p4 : Pos := cX.2.2.2.2.2.2.2.2.2.2.2.2.1
def p5 : Pos := cX.2.2.2.2.2.2.2.2.2.2.2.2.2.1
def p6 : Pos := cX.2.2.2.2.2.2.2.2.2.2.2.2.2.2.1
def q1 : Pos := cX.2.2.2.2.2.2.2.2.2.2.2.2.2.2.2.1
def q3 : Pos := cX.2.2.2.2.2.2.2.2.2.2.2.2.2.2.2.2.1
def scope : Scope := cX.2.2.2.2.2.2.2.2.2.2.2.2.2.2.2.2.2.1
def iter : Expr := cX.2.2.2.2.2.2.2.2.2.2.2.2.2.2.2.2.2.2.1
def R : Result → Shared → Prop := cX.2.2.2.2.2.2.2.2.2.2.2.2.2.2.2.2.2.2.2.1
def Cf : Addr := cX.2.2.2.2.2.2.2.2.2.2.2.2.2.2.2.2.2.2.2.2.1
def J : Addr := cX.2.2.2.2.2.2.2.2.2.2.2.2.2.2.2.2.2.2.2.2.2.1
def Do : Addr := cX.2.2.2.2.2.2.2.2.2.2.2.2.2.2.2.2.2.2.2.2.2.2.1
def n : Nat := cX.2.2.2.2.2.2.2.2.2.2.2.2.2.2.2.2.2.2.2.2.2.2.2.1
def s' : Shared := cX.2.2.2.2.2.2.2.2.2.2.2.2.2.2.2.2.2.2.2.2.2.2.2.2
theorem pfX0 : stX0 w A s hB CL cC cs ls env p1 p2 p3 p4 p5 p6 q1 q3 scope iter R Cf J Do n s' := by
  intro V X hr hc hl hcs h60 h I
  refine compLoopG (RcI s hB Cf J Do cs.length ls) ?_ n I
  rintro n s' ⟨F, kB, rn, hn⟩
  rename_i h' hB' tk mC xs
  by_cases hend : cs.length ≤ xs.length
  · refine F.rend hr.han (by lia) (fun h₃ F₃ => ?_)
    dsimp only
    exact h h₃ tk mC hB' xs F₃ kB rn (by lia)
  · have hlt : xs.length < cs.length := by lia
    have hv : cs[xs.length]? = some cs[xs.length] := List.getElem?_eq_getElem hlt
    generalize cs[xs.length] = v at hv
    obtain ⟨kc, kt, rfl⟩ := hcs v (List.mem_of_getElem? hv)
    refine F.rnext 0 rfl (by lia) (fun h₃ t₃ F₃ => ?_)
    dsimp only
    refine wpAny_of_eq (a := ()) rfl ?_
    refine wpAny_assign_Name (F₃.st (fun h₄ F₄ => ?_) rfl (V.c2 _) (V.c3 _))
    have XB := X.kp kB
    refine Call_ (nmG (XB.keeps F₄.keep) (by k_is) ?_ V.g (V.c2 _) (V.c6 _))
    refine callWith_F (args_cons (Subscript_ ?_))
    refine nmC (hc.keeps kB) F₄.keep ?_ (V.c5 _) (V.c2 _) (V.c4 _)
    refine F₄.nm rfl ?_ rfl (V.c2 _) (V.c3 _)
    refine itemL ((hl.kp kB).kp F₄.keep) rfl (by lia) hv ?_
    refine args_cons (F₄.nm rfl ?_ rfl (V.c2 _) (V.c3 _))
    refine args_nil ⟨FnAt.of (XB.keeps F₄.keep) (by k_is), ?_⟩
    refine record_spec XB (hr.le (by decide)) F₄.keep (fun r h₅ tk₅ x hx k₅ n₅ hrx ho => ?_)
    obtain ⟨o, eo, ho⟩ := ho
    refine Exists.elim (F₄.withObj k₅ n₅ eo) fun hB₅ z => ?_
    have F₅ := z.1
    have kr₅ := z.2.1
    have b₅ := z.2.2
    clear z
    refine appendL (F₅.pl (.tail _ (.head _))) (by lia) (fun h₆ l₆ s₆ => ?_)
    have F₆ : Lg hB₅ Cf h₆ _ ((J, isRI ((xs.length : Int) + 1) ((cs.length : Int) - (xs.length : Int) - 1) 1) :: (Do, isL (xs ++ [Value.ref r])) :: ls) := F₅.putL 1 rfl s₆ l₆
    have e1 : (xs.length : Int) + 1 = ((xs ++ [Value.ref r]).length : Int) := by simp
    have e2 : (cs.length : Int) - (xs.length : Int) - 1 = (cs.length : Int) - ((xs ++ [Value.ref r]).length : Int) := by simp; lia
    rw [e1, e2] at F₆
    refine ⟨n - 1, by lia, .mk F₆ (kB.trans kr₅) (fun i u hu => ?_) (by simp; lia)⟩
    by_cases hi : i < xs.length
    · rw [List.getElem?_append_left hi] at hu
      exact (rn.kp kr₅) i u hu
    · have hi' : i = xs.length := by
        have := (List.getElem?_eq_some_iff.mp hu).1
        simp at this; lia
      subst hi'
      rw [List.getElem?_append_right (Nat.le_refl _), Nat.sub_self] at hu
      cases hu
      exact ⟨x, ho _ b₅, hx⟩
theorem allX (x : T) : pX x := eps (P := pX) pfX0
end N_recLoop
theorem recLoop {w : World} {A : Around} {s : Shared} {hB : Heap} {CL cC : Addr} {cs : List Value} {ls : Led} {env : Env} {p1 p2 p3 p4 p5 p6 q1 q3 : Pos} {scope : Scope} {iter : Expr} {R : Result → Shared → Prop} {Cf J Do : Addr} {n : Nat} {s' : Shared} : N_recLoop.stX0 w A s hB CL cC cs ls env p1 p2 p3 p4 p5 p6 q1 q3 scope iter R Cf J Do n s' := (N_recLoop.allX (w, A, s, hB, CL, cC, cs, ls, env, p1, p2, p3, p4, p5, p6, q1, q3, scope, iter, R, Cf, J, Do, n, s'))
section
variable {w : World} {A : Around} {E : Value → Shared → Prop} {s : Shared} {hB : Heap} {L CL cC r0 : Addr} {cs : List Value} {m : Str → Option Value} {ls : Led} {env : Env} {p1 p2 p3 p4 p5 p6 q1 q3 : Pos} {scope : Scope} {Q : Value → Shared → Prop} {iter : Expr} {R : Result → Shared → Prop}
end
end Mine
namespace Mine
noncomputable abbrev riO (x left : Int) : Obj := { cls := .type "range_iterator", dict := none, data := .fields #[rawInt x, rawInt left, rawInt 1], slots := #[] }
section
variable {w : World} {A : Around} {E : Value → Shared → Prop} {s : Shared} {a : Addr}
theorem riEnd {x left step : Int} {Q : Option Value → Shared → Prop} (hit : IsRangeIter s.heap a x left step) (hh : A.handled = none) (hl : left ≤ 0) (h : ∀ h', Kp s.heap h' → Q none { s with heap := h' }) : wpAny (MM w) A (pyNext (.ref a)) Q E s := by
  unfold pyNext
  refine wpAny_bind (wpAny_attempt (riStop hit hh hl (fun h' e k ho => ?_)))
  refine wpAny_bind (wpAny_isInstance (T := "StopIteration") (b := true) ho isSubtype_stop ?_)
  exact wpAny_pure (h _ k)
end
section
variable {w : World} {A : Around} {E : Value → Shared → Prop} {s : Shared} {Q : Value → Shared → Prop} {hb hB hW h h' : Heap} {L I W rl R G M H C f : Addr} {m : Str → Option Value} {kvs : List (Str × Value)} {rs : List (Nat × Int)} {rc : Value → Rc} {D : Value → Prop} {cs xr yg hs xr' yg' cs' hs' : List Value} {N n cell : Int} {tc : Tok} {x : Value} {o1 : List Env} {ls : Led}
theorem Hx.turn (X : Hx hb C rs rc cs hs) (t : ∀ v r n, TupAt hb C v r n → TupAt h' C v r n) : Hx h' C rs rc cs hs := by
  have e : ∀ v ∈ hs, tRec h' v = tRec hb v := fun v hv => (t _ _ _ (X.isT v hv)).rec
  have e2 : ∀ v ∈ hs, tNum h' v = tNum hb v := fun v hv => by rw [(t _ _ _ (X.isT v hv)).num, (X.isT v hv).num]
  refine ⟨fun v hv => by rw [e v hv]; exact t _ _ _ (X.isT v hv), by rw [List.map_congr_left e]; exact X.ph, X.hp.congr fun u hu v hv => ?_⟩
  unfold ltT
  rw [e u hu, e v hv, e2 u hu, e2 v hv]
theorem TupAt.turnI {x1 l1 : Int} {o' : Obj} {v r : Value} {n : Int} (x : TupAt h C v r n) (hI : h.get? I = some (riO x1 l1)) (e' : h'.get? I = some o') (g : ∀ b o, b ≠ I → h.get? b = some o → h'.get? b = some o) : TupAt h' C v r n := by
  obtain ⟨t, kk, tn, rfl, e1, d, od, e2, e3⟩ := x
  have n1 : t ≠ I := fun q => by rw [q, hI] at e1; have z := congrArg Obj.data (Option.some.inj e1); cases z
  have n2 : kk ≠ I := fun q => by rw [q, hI] at e2; have z := congrArg Obj.data (Option.some.inj e2); cases z
  refine ⟨t, kk, tn, rfl, g _ _ n1 e1, ?_⟩
  by_cases q : d = I
  · exact ⟨d, o', g _ _ n2 e2, by rw [q]; exact e'⟩
  · exact ⟨d, od, g _ _ n2 e2, g _ _ q e3⟩
theorem Lg.riNext {x1 l1 : Int} {Q : Option Value → Shared → Prop} (F : Lg hB L s.heap m ls) (hI : hB.get? I = some (riO x1 l1)) (hl : 0 < l1) (nI : hW.get? I = none) (kW : Kp hW hB) (X : Hx hB C rs rc cs hs)
    (h : ∀ h' t hB', Lg hB' L h' m ls → hB'.get? I = some (riO (x1 + 1) (l1 - 1)) → Kp hW hB' → Hx hB' C rs rc cs hs → Q (some (.int x1 t)) { s with heap := h', toks := s.toks + 1 }) : wpAny (MM w) A (pyNext (.ref I)) Q E s := by
  refine wpAny_pyNext_range_item (F.keep _ _ hI) hl (fun h' e' hs' => ?_)
  obtain ⟨hB', F', e'', g⟩ := F.turn hI hs' e'
  refine h h' _ hB' F' e'' (fun b o e => g b o (fun q => by rw [q, nI] at e; cases e) (kW _ _ e)) (X.turn fun v r n t => t.turnI hI e'' g)
theorem Lg.ofW (F : Lg hB L h m (led4 R G M H xr yg cs hs ++ frL [])) (hu : ∃ o o', h.get? L = some o ∧ h'.get? L = some o' ∧ upS o o') (kb : Kp hb h') (n4 : ∀ a ∈ [R, G, M, H], hb.get? a = none) (nL : hb.get? L = none) (l : L4 h' R G M H xr' yg' cs' hs') : Lg hb L h' m (led4 R G M H xr' yg' cs' hs' ++ frL []) := by
  obtain ⟨o, o', e1, e2, sl, rfl⟩ := hu
  obtain ⟨oL, es, ep, eL, d, r⟩ := F.ns
  rw [eL] at e1
  cases e1
  refine ⟨⟨_, es, ep, e2, d, r⟩, kb, nL, fun p hp => l.at_ p (by simpa using hp), fun p hp => ?_, F.nd⟩
  have hm : p.1 ∈ [R, G, M, H] := by
    have := List.mem_map_of_mem (f := (·.1)) hp
    rw [map4] at this
    simpa using this
  exact ⟨(F.n4 _ hm).2, n4 _ hm⟩
theorem Lg.deed (T : Wd w hW W rl R G M H C f kvs rs rc D) (kB : Kp hW hB) (F : Lg hB L s.heap m (led4 R G M H xr yg cs hs ++ frL [])) (Rr : Rw D rs rc N cs xr yg) (X : Hx hB C rs rc cs hs) (dx : D x) (xn : (rc x).n = N) (hr : Rm A 40) (hN : N < 40) (Bf : ∃ o, Bl A s.heap o1 [(L, o)])
    (k : ∀ h' tk hB' cs' xr' yg' hs', Kp hB hB' → Lg hB' L h' m (led4 R G M H xr' yg' cs' hs' ++ frL []) → Rw D rs rc (N + 1) cs' xr' yg' → Hx hB' C rs rc cs' hs' → Q (.bool true) { s with heap := h', toks := tk }) :
    wpAny (MM w) A (call (.ref 178) [.ref W, .int cell tc, x]) Q E s := by
  obtain ⟨o, B⟩ := Bf
  have nf : ∀ p ∈ [(L, o)], hB.get? p.1 = none := fun p hp => by rw [List.mem_singleton.mp hp]; exact F.nL
  refine deed_spec (fr := [(L, o)]) ⟨T.kp kB, F.keep, fun a ha => (F.n4 a ha).1, nf, Rr, X, F.l4⟩ F.nd5 dx xn hr hN B (fun h' tk hB' cs' xr' yg' hs' k1 S' kb bl => ?_)
  refine k h' tk hB' cs' xr' yg' hs' k1 (F.ofW ?_ S'.kb S'.n4 (S'.nf (L, o) (.head _)) S'.l) S'.r S'.x
  obtain ⟨o1, e1, sl, rfl⟩ := B.bl (L, o) (.head _)
  obtain ⟨o2, e2, sl2, rfl⟩ := bl (L, o) (.head _)
  exact ⟨_, _, e1, e2, sl2, rfl⟩
theorem Lg.taken (T : Wd w hW W rl R G M H C f kvs rs rc D) (kB : Kp hW hB) (F : Lg hB L s.heap m (led4 R G M H xr yg cs hs ++ frL [])) (Rr : Rw D rs rc N cs xr yg) (X : Hx hB C rs rc cs hs) (hr : Rm A 25) (hN : N < 45) (Bf : ∃ o, Bl A s.heap o1 [(L, o)])
    (k : ∀ h' tk cs' xr' yg' hs', Lg hB L h' m (led4 R G M H xr' yg' cs' hs' ++ frL []) → Rw D rs rc N cs' xr' yg' → Hx hB C rs rc cs' hs' → Q (.bool true) { s with heap := h', toks := tk }) :
    wpAny (MM w) A (call (.ref 159) [.ref W, .none]) Q E s := by
  refine taken_in (fr := []) (T.kp kB) (fun a ha => (F.n4 a ha).1) F.nL (fun p hp => nomatch hp) F.nd5 Rr X .none hr F.keep F.l4 hN Bf (fun h' tk cs' xr' yg' hs' a1 a2 a3 a4 a5 hu => ?_)
  refine k h' tk cs' xr' yg' hs' (F.ofW hu (KpB.kpOf F.keep a4 fun a ha => ?_) (fun a ha => (F.n4 a ha).1) F.nL a3) a1 a2
  rcases List.mem_append.mp ha with q | q
  · exact (F.n4 a q).1
  · rw [List.mem_singleton.mp q]; exact F.nL
end
end Mine
namespace Mine
open Classical in
noncomputable def rcOf (h : Heap) (v : Value) : Rc := if q : ∃ r, RecAt h v r then q.choose else ⟨0, 0, 0, 0⟩
noncomputable def DOf (h : Heap) (v : Value) : Prop := ∃ r, RecAt h v r
theorem DOf.at_ {h : Heap} {v : Value} (d : DOf h v) : RecAt h v (rcOf h v) := by
  unfold rcOf
  rw [dif_pos (show ∃ r, RecAt h v r from d)]
  exact Exists.choose_spec d
theorem RecAt.inj {h : Heap} {v : Value} {r r' : Rc} (x : RecAt h v r) (y : RecAt h v r') : r = r' := by
  obtain ⟨l, xs, rfl, p, _, q⟩ := x
  obtain ⟨l', ys, e, p', _, q'⟩ := y
  cases e
  obtain rfl := p.inj p'
  have c : ∀ k, k < 4 → r.col k = r'.col k := fun k hk => by
    obtain ⟨t, e⟩ := q k hk
    obtain ⟨t', e'⟩ := q' k hk
    have z := Option.some.inj (e.symm.trans e')
    injection z
  have c0 : r.a = r'.a := c 0 (by decide)
  have c1 : r.b = r'.b := c 1 (by decide)
  have c2 : r.c = r'.c := c 2 (by decide)
  have c3 : r.n = r'.n := c 3 (by decide)
  cases r; cases r'
  cases c0; cases c1; cases c2; cases c3
  rfl
theorem RecAt.rcOf {h : Heap} {v : Value} {r : Rc} (x : RecAt h v r) : rcOf h v = r := (DOf.at_ ⟨r, x⟩).inj x
end Mine
namespace Mine
section
variable {w : World} {A : Around} {E : Value → Shared → Prop} {s : Shared} {env : Env} {Q : Value → Shared → Prop} {l : Addr} {xs : List Value}
theorem itemI {value slice : Expr} {k : Int} {t : Tok} {i : Nat} {v : Value} (hl : s.heap.IsList l xs.toArray) (hk : k = (i : Int)) (hz : i < 2 ^ 63) (hx : xs[i]? = some v) (h : Q v s)
    (hs : autoParam (subscripted slice false (.ref l) (.int k t) = operate [.ref l, .int k t] (getItem (.ref l) (.int k t))) tcU) :
    wpAny (MM w) A (subscriptTail value slice (.ref l) (.int k t)) Q E s :=
  tail_any hl.typeIs slot_list_getitem.lookup (wpAny_getItem_list hl (by lia) (by lia) (by subst hk; simpa using hx) h) hs
theorem rangeT {a b : Int} {t u : Tok} (h : ∀ r h' tk t1, Kp s.heap h' → IsRange h' r a b 1 t u t1 → Q (.ref r) { s with heap := h', toks := tk }) : wpAny (MM w) A (call (.type "range") [.int a t, .int b u]) Q E s :=
  call_range_2 (h _ _ _ _ (Kp.push _ _) (Heap.get?_push_size _ rfl))
theorem iterA {r : Addr} {a b : Int} {t u v : Tok} (hr : IsRange s.heap r a b 1 t u v) (h0 : 0 ≤ a) (h1 : a ≤ b) (h2 : b < 1000) (h : ∀ I h', Kp s.heap h' → s.heap.get? I = none → h'.get? I = some (riO a (b - a)) → Q (.ref I) { s with heap := h' }) : wpAny (MM w) A (pyIter (.ref r)) Q E s := by
  refine wpAny_pyIter_range hr (small_one (by lia) (by lia) (by lia) (by lia)) ?_
  have e : Builtin.Range.rangeSize a b 1 = b - a := by rw [rangeSize_nat]; lia
  rw [e]
  exact h _ _ (Kp.push _ _) (newNone _) (Heap.get?_push_size _ rfl)
end
theorem pick_le (vs : List Value) : (kms_pick vs (some 1) (some 15)).length ≤ 14 := by
  refine Nat.le_trans (List.length_take_le _ _) ?_
  show min 15 vs.length - min 1 vs.length ≤ 14
  generalize vs.length = n
  cases n with
  | zero => decide
  | succ k =>
    rw [Nat.min_eq_left (Nat.succ_le_succ (Nat.zero_le k))]
    exact Nat.sub_le_sub_right (Nat.min_le_left 15 _) 1
theorem lt20 {n m : Nat} (h : n ≤ 20) (k : autoParam (20 < m) tcD) : n < m := Nat.lt_of_le_of_lt h k
theorem cells_at {h : Heap} {CL : Addr} {vs : List Value} {a b c d e f : Tok} {i1 i2 i3 i4 i5 i6 : Int} (hv : ∀ v ∈ vs, ∃ k t, v = Value.int k t) (l : PL h CL (kms_pick vs (some 1) (some 15) ++ [.int i1 a, .int i2 b, .int i3 c, .int i4 d, .int i5 e, .int i6 f])) :
    ∃ cells nc, h.get? CL = some (listOf (cells : List Value).toArray nc) ∧ (∀ v ∈ cells, ∃ k t, v = Value.int k t) ∧ cells.length ≤ 20 ∧ 6 ≤ cells.length := by
  obtain ⟨n, g⟩ := l
  refine ⟨_, n, g, fun v h => ?_, by rw [List.length_append]; exact Nat.add_le_add_right (pick_le vs) 6, by rw [List.length_append]; exact Nat.le_add_left 6 _⟩
  rcases List.mem_append.mp h with h | h
  · exact hv v (List.mem_of_mem_drop (List.mem_of_mem_take h))
  · simp only [List.mem_cons, List.not_mem_nil, or_false] at h
    rcases h with rfl | rfl | rfl | rfl | rfl | rfl <;> exact ⟨_, _, rfl⟩
section
variable {w : World} {h₀ h h' : Heap} {L l : Addr} {m : Str → Option Value} {ls : Led} {rs : List (Nat × Int)}
theorem Lg.withRules (F : Lg h₀ L h m ls) (k : Kp h h') (r : RulesN h h' l rs) : ∃ hB', Lg hB' L h' m ls ∧ Kp h₀ hB' ∧ RulesAt hB' l rs :=
  ⟨_, (F.kp k).rebase.1, (F.kp k).rebase.2, r.hide fun a ha => by
    rcases List.mem_cons.mp ha with rfl | ha
    · obtain ⟨o, _, _, e, _⟩ := F.ns
      exact ⟨o, e⟩
    · obtain ⟨p, hp, rfl⟩ := List.mem_map.mp ha
      obtain ⟨o, e, _⟩ := F.at_ p hp
      exact ⟨o, e⟩⟩
theorem Lg.il {P : Obj → Prop} {xs : Array Value} {a : Addr} (F : Lg h₀ L h m ls) (hl : h.IsList l xs) (hL : l ∉ L :: ls.map (·.1)) : (hideAll h (L :: ls.map (·.1))).IsList l xs :=
  by obtain ⟨o, e, r⟩ := hl; exact ⟨o, hideAll_get _ e hL, r⟩
end
section
variable {w : World} {hB hb' h h' : Heap} {L W rl R G M H C f : Addr} {m : Str → Option Value} {ls : Led} {kvs : List (Str × Value)} {rs : List (Nat × Int)} {rc : Value → Rc} {D : Value → Prop} {cs xr yg hs recs : List Value} {N : Int} {of : Obj}
theorem Lg.afterW (F : Lg hB L h m ls) (ho : h.get? L = some of) (k : KpB [16, 180] h h') (S : WS w hb' h' W rl R G M H C f kvs rs rc D [(L, of)] N cs xr yg hs) (nd : ([R, G, M, H] ++ [L]).Nodup) (a1 : L ≠ 16) (a2 : L ≠ 180) : Lg hb' L h' m (led4 R G M H xr yg cs hs ++ frL []) := by
  have e' : h'.get? L = some of := k L of (fun q => by simp only [List.mem_cons, List.not_mem_nil, or_false] at q; exact q.elim a1 a2) ho
  obtain ⟨o, es, ep, e, r⟩ := F.ns
  rw [ho] at e
  cases e
  have nd' := List.nodup_append.mp nd
  have e4 : (led4 R G M H xr yg cs hs ++ frL []).map (·.1) = [R, G, M, H] := rfl
  refine ⟨⟨of, es, ep, e', r⟩, S.kb, S.nf (L, of) (.head _), fun p hp => S.l.at_ p (by simpa using hp), fun p hp => ?_, e4 ▸ nd'.1⟩
  have hm : p.1 ∈ [R, G, M, H] := e4 ▸ List.mem_map_of_mem (f := (·.1)) hp
  exact ⟨nd'.2.2 _ hm _ (.head _), S.n4 _ hm⟩
theorem RecsN.all (x : RecsN h recs) : (∀ v, v ∈ recs → RecAt h v (rcOf h v)) ∧ ∀ (i : Nat) v, recs[i]? = some v → (rcOf h v).n = i :=
  ⟨fun v hv => by obtain ⟨i, e⟩ := List.mem_iff_getElem?.mp hv; exact by obtain ⟨r, a, _⟩ := x i v e; exact DOf.at_ ⟨r, a⟩, fun i v e => by
    obtain ⟨r, a, b⟩ := x i v e
    rw [a.rcOf]; exact b⟩
end
inductive DlI (s : Shared) (hW : Heap) (L I W R G M H C RL : Addr) (rs : List (Nat × Int)) (rc : Value → Rc) (D : Value → Prop) (B : Nat) (n : Nat) : Shared → Prop
  | mk {h hB : Heap} {tk : Nat} {m : Str → Option Value} {i : Nat} {cs xr yg hs : List Value} (F : Lg hB L h m (led4 R G M H xr yg cs hs ++ frL [])) (kW : Kp hW hB) (eI : hB.get? I = some (riO (i : Int) ((B : Int) - i))) (Rr : Rw D rs rc (i : Int) cs xr yg) (X : Hx hB C rs rc cs hs)
      (mw : m (Str.ofString "world") = some (.ref W)) (mr : m (Str.ofString "records") = some (.ref RL)) (hn : n + i = B) : DlI s hW L I W R G M H C RL rs rc D B n { s with heap := h, toks := tk }
inductive TlI (s : Shared) (hW : Heap) (L I W R G M H C : Addr) (rs : List (Nat × Int)) (rc : Value → Rc) (D : Value → Prop) (B N : Int) (n : Nat) : Shared → Prop
  | mk {h hB : Heap} {tk : Nat} {m : Str → Option Value} {i : Int} {cs xr yg hs : List Value} (F : Lg hB L h m (led4 R G M H xr yg cs hs ++ frL [])) (kW : Kp hW hB) (eI : hB.get? I = some (riO i (B - i))) (Rr : Rw D rs rc N cs xr yg) (X : Hx hB C rs rc cs hs)
      (mw : m (Str.ofString "world") = some (.ref W)) (hn : (n : Int) + i = B) : TlI s hW L I W R G M H C rs rc D B N n { s with heap := h, toks := tk }
end Mine
namespace Mine
section
variable {w : World} {A : Around} {E : Value → Shared → Prop} {s : Shared} {Q : Value → Shared → Prop}
end
namespace N_law_spec
noncomputable def stX0 (w : World) (A : Around) (E : Value → Shared → Prop) (s : Shared) (Q : Value → Shared → Prop) (S : Addr) : Prop := ∀ {vs : List Value} (X : KIn w s.heap) (h16 : s.heap.get? 16 = some (tabObj #[])) (h180 : s.heap.get? 180 = some (tabObj #[])) (hS : s.heap.IsList S vs.toArray) (hv : ∀ v ∈ vs, ∃ k t, v = Value.int k t) (hlen : vs.length < 2 ^ 20) (hr : Rm A 60) (hfr : A.frames = some []) (k : ∀ h' tk, KpB [16, 180] s.heap h' → Tabs h' → Q (.bool true) { s with heap := h', toks := tk }), wpAny (MM w) A (call (.ref 188) [.ref S]) Q E s
noncomputable abbrev T := World × Around × (Value → Shared → Prop) × Shared × (Value → Shared → Prop) × Addr
noncomputable def pX (x : T) : Prop := stX0 x.1 x.2.1 x.2.2.1 x.2.2.2.1 x.2.2.2.2.1 x.2.2.2.2.2
noncomputable def cX : T := @Classical.epsilon _ (ne2 neW (ne2 neA (ne2 neI (ne2 neS (ne2 neI neI))))) fun x => ¬ pX x
def w : World := cX.1
def A : Around := cX.2.1
def E : Value → Shared → Prop := cX.2.2.1
def s : Shared := cX.2.2.2.1
def Q : Value → Shared → Prop := cX.2.2.2.2.1
def S : Addr := cX.2.2.2.2.2
theorem pfX0 : stX0 w A E s Q S := by
  intro vs X h16 h180 hS hv hlen hr hfr k
  refine callCellB (binds := [(Str.ofString "script", .ref S)]) X (by k_is) (by k_is) hr (BindsTo.of_eq rfl) ?_ (fun L s₁ eL I => ?_)
  · intro x hx
    rw [List.mem_singleton.mp hx]
    exact .inl rfl
  obtain ⟨h₁, tk₁, rfl⟩ := I.toInCall.same
  have k1 : Kp s.heap h₁ := I.toInCall.keep
  have hL : s.heap.get? L = none := by rw [eL]; exact newNone _
  have lt : ∀ {b o}, s.heap.get? b = some o → b < L := fun e => by rw [eL]; exact Heap.lt_size e
  have ls0 : ∀ p ∈ ([(180, isO (tabObj #[])), (16, isO (tabObj #[]))] : Led), ∃ o, s.heap.get? p.1 = some o ∧ p.2 o := fun p hp => by
    simp only [List.mem_cons, List.not_mem_nil, or_false] at hp
    rcases hp with rfl | rfl
    · exact ⟨_, h180, rfl⟩
    · exact ⟨_, h16, rfl⟩
  obtain ⟨hB, m0, F, X0, hS0, fin, ms, mlt⟩ : ∃ hB m0, Lg hB L h₁ m0 [(L + 1, isC none), (180, isO (tabObj #[])), (16, isO (tabObj #[]))] ∧ KIn w hB ∧ hB.IsList S vs.toArray ∧ (∀ h', Kp hB h' → KpB [16, 180] s.heap h') ∧ m0 (Str.ofString "script") = some (.ref S) ∧ m0 "__lt__" = none := by
    have F0 := Lg.startC k1 I.toInCall.ns hL ls0 (by decide)
    obtain ⟨oc, ec, dc⟩ := I.cell "cells" (L + 1) rfl
    have nin : ∀ b, b ≠ L → b ≠ 180 → b ≠ 16 → b ∉ L :: ([(180, isO (tabObj #[])), (16, isO (tabObj #[]))] : Led).map (·.1) := fun b c1 c2 c3 q => by
      simp only [List.map_cons, List.map_nil, List.mem_cons, List.not_mem_nil, or_false] at q
      rcases q with q | q | q
      · exact c1 q
      · exact c2 q
      · exact c3 q
    have up : ∀ b o, s.heap.get? b = some o → b ≠ 180 → b ≠ 16 → (hideAll (hideAll h₁ (L :: ([(180, isO (tabObj #[])), (16, isO (tabObj #[]))] : Led).map (·.1))) [L + 1]).get? b = some o := fun b o e c2 c3 => by
      have := lt e
      refine hideAll_get _ (hideAll_get _ (k1 _ _ e) (nin b (Nat.ne_of_lt this) c2 c3)) (fun q => ?_)
      rw [List.mem_singleton.mp q] at this
      exact absurd this (Nat.not_lt_of_le (Nat.le_add_right L 1))
    have l1 := lt h180
    have l2 := lt h16
    refine ⟨_, _, F0.thaw (P := isC none) (hideAll_get _ ec (nin _ (Nat.ne_of_gt (Nat.lt_succ_self L)) (fun q => by rw [← q] at l1; exact absurd l1 (Nat.not_lt_of_le (Nat.le_add_right L 1))) (fun q => by rw [← q] at l2; exact absurd l2 (Nat.not_lt_of_le (Nat.le_add_right L 1))))) dc, ?_, ?_, ?_, rfl, rfl⟩
    · intro a o ha e
      refine up a o (X a o ha e) (fun q => ?_) (fun q => ?_)
      · rw [q] at ha; cases ha
      · rw [q] at ha; cases ha
    · obtain ⟨o, e, c, n, d⟩ := hS
      refine ⟨o, up S o e (fun q => ?_) (fun q => ?_), c, n, d⟩
      · rw [q, h180] at e; cases e; cases d
      · rw [q, h16] at e; cases e; cases d
    · intro h' k' b o hb e
      simp only [List.mem_cons, List.not_mem_nil, or_false, not_or] at hb
      exact k' _ _ (up b o e hb.2 hb.1)
  clear I ls0 lt k1
  subst eL
  refine wpAny_execs_cons (wpAny_Assign_Name (wpAny_mono (Q := fun v s' => ∃ f t tk, v = Value.int f t ∧ s' = { s with heap := h₁, toks := tk }) (E := fun _ _ => False) ?fst ?rest (fun _ _ z => z.elim)))
  case fst =>
    refine IfExp_ (isTrue_plain (F.nm ms (wpAny_truthy_list (il_kp hS0 F.keep) (by simp; lia) ?_)))
    cases vs with
    | nil =>
      rw [if_neg (by decide)]
      exact wpAny_Constant_int ⟨_, _, _, rfl, rfl⟩
    | cons v r =>
      rw [if_pos (by simp)]
      obtain ⟨f, t, rfl⟩ := hv v (.head _)
      exact Subscript_ (F.nm ms (wpAny_Constant_int (itemI (il_kp hS0 F.keep) (i := 0) rfl (by decide) rfl ⟨_, _, _, rfl, rfl⟩)))
  case rest =>
  rintro _ _ ⟨f, t, tk, rfl, rfl⟩
  refine F.st fun h₂ F₂ => ?_
  dsimp only
  clear F
  refine wpAny_execs_cons (wpAny_Assign_Name ?_)
  refine wpAny_BinOp (sliceI (F₂.nm (by exact ms) ?_))
  rw [evalPart_some]
  refine wpAny_Constant_int ?_
  rw [evalPart_some]
  refine wpAny_Constant_int ⟨S, vs, _, _, rfl, .int _ _, .int _ _, il_kp hS0 F₂.keep, hlen, fun D h₃ k₃ n₃ l₃ => ?_⟩
  have F₃ := F₂.kp k₃
  refine listD (args_cons (wpAny_Constant_int (args_cons (wpAny_Constant_int (args_cons (wpAny_Constant_int (args_cons (wpAny_Constant_int (args_cons (wpAny_Constant_int (args_cons (wpAny_Constant_int (args_nil ⟨szL, fun b h₄ k₄ n₄ e₄ => ?_⟩)))))))))))))
  have F₄ := F₃.kp k₄
  refine addL (l₃.kp k₄) ⟨0, e₄⟩ (by have := pick_le vs; simp; lia) (fun CL h₅ k₅ n₅ l₅ => ?_)
  refine Exists.elim (cells_at hv l₅) fun cells z => Exists.elim z fun nc z => ?_
  have ec := z.1
  have cn := z.2.1
  have c1 := z.2.2.1
  have c2 := z.2.2.2
  clear z l₅ e₄ n₄ l₃ n₃
  refine Exists.elim (F₄.withObj k₅ n₅ ec) fun hB5 z => ?_
  have F₅ := z.1
  have kr5 := z.2.1
  have b5 : PL hB5 CL cells := ⟨nc, z.2.2⟩
  clear z ec n₅ k₅ F₄ k₄ F₃ k₃ F₂
  refine wpAny_storeName_cell (c := s.heap.objs.size + 1) (v₀ := none) rfl rfl rfl (F₅.get (.head _)) (fun h₆ c₆ s₆ => ?_)
  refine Exists.elim c₆ fun o6 z => ?_
  have F₆ := F₅.put 0 rfl s₆ z.1 (P' := isC (some (.ref CL))) z.2
  clear z c₆ s₆ F₅
  dsimp only
  refine Exists.elim F₆.freeze fun hB7 z => ?_
  have F₇ : Lg hB7 s.heap.objs.size h₆ _ [(180, isO (tabObj #[])), (16, isO (tabObj #[]))] := z.1
  have hc : hB7.IsCell (s.heap.objs.size + 1) (some (.ref CL)) := z.2.2
  have k7 := kr5.trans z.2.1
  have hl := b5.kp z.2.1
  have X7 := X0.kp k7
  have fin : ∀ h', Kp hB7 h' → KpB [16, 180] s.heap h' := fun h' k' => fin h' (k7.trans k')
  clear z F₆ b5 kr5 k7 X0 hS0
  refine wpAny_execs_cons (assignComp (cl := [(Str.ofString "cells", s.heap.objs.size + 1)]) (by rfl) (by decide) (by rfl) (by decide) (by rfl) ?_)
  refine Call_ (nmB (X7.keeps F₇.keep) (by k_is) (by k_is) ?_)
  refine PyProof.Rows.callWith_type1 (args_cons ?_)
  refine Call_ (nmB (X7.keeps F₇.keep) (by k_is) (by k_is) ?_)
  refine PyProof.Rows.callWith_builtin1 (args_cons (nmC hc F₇.keep (args_nil (lenL (hl.kp F₇.keep) (lt20 c1) (fun tl => args_nil ?_)))))
  refine rangeN (fun r h₈ tk₈ t1 t2 k₈ r₈ => ?_)
  have F₈ := F₇.kp k₈
  refine iterA r₈ (by decide) (by lia) (by lia) (fun J h₉ k₉ n₉ e₉ => ?_)
  have F₉ := F₈.fresh k₉ n₉ e₉ (P := isRI 0 (cells.length - 0) 1) rfl
  clear F₈ k₈ k₉ n₉ e₉ r₈
  intro Do Cf h₁₀ k₁₀ nD nC dc lD nsC
  refine Exists.elim (Exists.intro _ (F₉.inner2 k₁₀ nD nC dc lD nsC) : ∃ hB, Lg hB Cf h₁₀ _ _ ∧ Kp hB7 hB) fun hB10 z => ?_
  have F₁₀ := z.1.perm ((List.perm_middle (l₁ := [_, _])).trans (List.Perm.cons _ (List.Perm.swap _ _ _)))
  have kr10 := z.2
  clear z F₉ F₇ k₁₀ nD nC dc lD nsC
  refine ⟨fun Q' E' hq => ?_, ?_⟩
  · refine Exists.elim (F₁₀.get (.head _)) fun o z => ?_
    exact iter_ri (z.1.trans (congrArg some z.2)) hq
  refine recLoop (n := cells.length) (hB := hB10) ⟨rfl, by decide, rfl, by decide, fun _ => rfl, fun _ => rfl, fun _ => rfl, fun _ => rfl, fun _ => rfl, rfl⟩ (X7.kp kr10) ((hr.deep _).le (by decide)) (hc.keeps kr10) (hl.kp kr10) cn (by lia) (fun h₁₁ tk₁₁ mC hB11 recs F₁₁ kB11 rn hrl => ?_) (.mk (xs := []) F₁₀ (Kp.refl _) (fun i v e => by simp at e) rfl)
  refine Lg.endUse (s' := { s with heap := h₁₁, toks := tk₁₁ }) (F₁₁.perm (List.Perm.swap _ _ _)) (fun h₁₂ F₁₂ => ?_)
  dsimp only
  refine Exists.elim F₁₂.freezeL fun hB12 z => ?_
  have F := z.1
  have kB := (kr10.trans kB11).trans z.2.1
  have lR := z.2.2
  have rn := rn.kp z.2.1
  have X12 := X7.kp kB
  have hl := hl.kp kB
  have hc := hc.keeps kB
  have fin : ∀ h', Kp hB12 h' → KpB [16, 180] s.heap h' := fun h' k' => fin h' (kB.trans k')
  clear z F₁₂ F₁₁ F₁₀ kB kB11 kr10 X7
  refine Exists.elim (⟨cells.length / 3, by rw [Int.fdiv_eq_ediv_of_nonneg _ (by decide)]; lia, by lia, by lia, by lia⟩ : ∃ sz : Nat, (cells.length : Int).fdiv 3 = (sz : Int) ∧ sz ≤ 6 ∧ sz ≤ cells.length ∧ 1 ≤ sz) fun sz hsz => ?_
  refine wpAny_execs_cons (wpAny_Assign_Name (wpAny_BinOp (Call_ (nmB (X12.keeps F.keep) (by k_is) (by k_is) ?_))))
  refine PyProof.Rows.callWith_builtin1 (args_cons (nmC hc F.keep (args_nil (lenL (hl.kp F.keep) (lt20 c1) (fun tl => wpAny_Constant_int (fdivI (by decide) (by decide) (fun ts => ?_)))))))
  rw [hsz.1]
  refine F.st fun h₁₃ F₁₃ => ?_
  dsimp only
  clear F
  refine wpAny_execs_cons (wpAny_Assign_Name (Call_ (nmG (X12.keeps F₁₃.keep) (by k_is) (callWith_F (args_cons (Call_ (nmG (X12.keeps F₁₃.keep) (by k_is) (callWith_F (args_cons (F₁₃.nm rfl (args_nil ⟨FnAt.of (X12.keeps F₁₃.keep) (by k_is), ?_⟩)))))))))))
  refine rules_spec X12 ((hr.deep _).le (by decide)) F₁₃.keep ?_
  intro rl h₁₄ tk₁₄ rs ok k₁₄ r₁₄
  refine Exists.elim (F₁₃.withRules k₁₄ r₁₄) fun hB14 z => ?_
  have F₁₄ := z.1
  have kB := z.2.1
  have hR := z.2.2
  clear z F₁₃ r₁₄ k₁₄
  refine args_cons (sliceI (F₁₄.nm rfl ?_))
  refine wpAny_pure ?_
  rw [evalPart_some]
  refine F₁₄.nm rfl ⟨Do, recs, none, some (sz : Int), rfl, .none, .int _ _, ((lR.kp kB).kp F₁₄.keep).il, lt20 (hrl ▸ c1), fun RL h₁₅ k₁₅ n₁₅ l₁₅ => ?_⟩
  rw [pick_upto (by lia), Int.toNat_natCast] at l₁₅
  refine Exists.elim l₁₅ fun nl el => ?_
  refine Exists.elim (F₁₄.withObj k₁₅ n₁₅ el) fun hB15 z => ?_
  have F := z.1
  have kB := kB.trans z.2.1
  have lT : PL hB15 RL (recs.take sz) := ⟨nl, z.2.2⟩
  have hR := hR.kp z.2.1
  have X15 := X12.kp kB
  have hl := hl.kp kB
  have hc := hc.keeps kB
  have lR := lR.kp kB
  have rn := rn.kp kB
  have fin : ∀ h', Kp hB15 h' → KpB [16, 180] s.heap h' := fun h' k' => fin h' (kB.trans k')
  clear z el l₁₅ n₁₅ k₁₅ F₁₄ kB X12
  refine args_nil ⟨FnAt.of (X15.keeps F.keep) (by k_is), ?_⟩
  refine Exists.elim F.ns fun of z => Exists.elim z fun es z => Exists.elim z fun ep z => ?_
  have ho := z.1
  have sF : Soft of := .inr ⟨es, ep, z.2.1, by rw [z.2.2.2]; exact mlt⟩
  clear z
  refine Exists.elim (F.get (.head _)) fun o1 z1 => Exists.elim (F.get (.tail _ (.head _))) fun o2 z2 => ?_
  have g180 := z1.1.trans (congrArg some z1.2)
  have g16 := z2.1.trans (congrArg some z2.2)
  clear z1 z2
  have rcs := rn.all
  have l6 := hsz.2.1
  have l7 := hsz.2.2.1
  refine world_spec (recs := recs.take sz) (D := fun v => v ∈ recs) (rc := rcOf hB15) X15 F.keep (F.off _ (.tail _ (.head _))).2 (F.off _ (.head _)).2 F.nL g16 g180 ho sF hR ok lT rcs.1 (fun v h => List.mem_of_mem_take h) (fun i v e => rcs.2 i v (by rw [List.getElem?_take] at e; split at e; exact e; cases e)) (by rw [List.length_take]; lia) ((hr.deep _).le (by decide)) ?_
  intro W R G M H C f kvs h₁₆ tk₁₆ hW xr yg hs kW S' kb16 nd tabs
  have F₁₆ := F.afterW ho kb16 S' nd (fun q => (F.off _ (.tail _ (.head _))).1 q.symm) (fun q => (F.off _ (.head _)).1 q.symm)
  have T := S'.t
  have Rr := S'.r
  have Xh := S'.x
  rw [show ((recs.take sz).length : Int) = (sz : Int) from by rw [List.length_take]; lia] at Rr
  have fin : ∀ h', Kp hW h' → KpB [16, 180] s.heap h' := fun h' k' => fin h' (kW.trans k')
  have hl := hl.kp kW
  have hc := hc.keeps kW
  have lR := lR.kp kW
  clear S' kb16 nd F sF ho g180 g16 X15 rn hR lT kW
  refine F₁₆.st fun h₁₇ F₁₇ => ?_
  dsimp only
  have Bl0 : Bl A h₁₇ [] [] := ⟨.nil, hfr, fun p hp => nomatch hp⟩
  have X17 := T.wk.x
  refine wpAny_execs_cons (wpAny_For (Call_ (nmB (X17.keeps F₁₇.keep) (by k_is) (by k_is) ?_)))
  refine PyProof.Rows.callWith_type1 (args_cons (F₁₇.nm rfl (args_cons ?_)))
  refine Call_ (nmB (X17.keeps F₁₇.keep) (by k_is) (by k_is) ?_)
  refine PyProof.Rows.callWith_builtin1 (args_cons (nmC hc F₁₇.keep (args_nil (lenL (hl.kp F₁₇.keep) (lt20 c1) (fun tl => args_nil ?_)))))
  refine rangeT (fun r h₁₈ tk₁₈ t1 k₁₈ r₁₈ => ?_)
  have F₁₈ := F₁₇.kp k₁₈
  refine iterA r₁₈ (by lia) (by lia) (by lia) (fun I h₁₉ k₁₉ n₁₉ e₁₉ => ?_)
  have nI : hW.get? I = none := none_base F₁₈.keep n₁₉
  refine Exists.elim (F₁₈.withObj k₁₉ n₁₉ e₁₉) fun hB19 z => ?_
  refine forLoopG (DlI s hW s.heap.objs.size I W R G M H C Do rs (rcOf hB15) (fun v => v ∈ recs) cells.length) ?_ (cells.length - sz) (.mk (i := sz) z.1 z.2.1 z.2.2 Rr (Xh.kp z.2.1) rfl rfl (by lia))
  clear z e₁₉ n₁₉ k₁₉ F₁₈ r₁₈ k₁₈ F₁₇ F₁₆ Rr Xh
  rintro n s' ⟨F, kB, eI, Rr, Xh, mw, mr, hn⟩
  rename_i h' hB' tk m i cs xr yg hs
  by_cases hend : cells.length ≤ i
  · refine riEnd (F.keep _ _ eI) (hr.deep _).han (by lia) (fun h₂ k₂ => wpAny_execs_nil ?_)
    dsimp only
    have F := F.kp k₂
    have XB := X17.kp kB
    clear k₂ eI
    have xl : xr.length ≤ i := by have e1 := Rr.pr.length_eq; have e2 := Rr.len; lia
    refine wpAny_execs_cons (wpAny_For (Call_ (nmB (XB.keeps F.keep) (by k_is) (by k_is) ?_)))
    refine PyProof.Rows.callWith_type1 (args_cons (Call_ (nmB (XB.keeps F.keep) (by k_is) (by k_is) ?_)))
    refine PyProof.Rows.callWith_builtin1 (args_cons (Subscript_ (F.nm mw (wpAny_Constant_str (getW (T.wk.d.keep kB) F.keep T.wk.v2 ?_)))))
    refine args_nil (lenL F.l4.r (by lia) (fun tl => args_nil (rangeN (fun r h₃ tk₃ t1 t2 k₃ r₃ => ?_))))
    have F₃ := F.kp k₃
    refine iterA r₃ (by decide) (by lia) (by lia) (fun I h₄ k₄ n₄ e₄ => ?_)
    have nI : hB'.get? I = none := none_base F₃.keep n₄
    refine Exists.elim (F₃.withObj k₄ n₄ e₄) fun hB4 z => ?_
    refine forLoopG (TlI s hB' s.heap.objs.size I W R G M H C rs (rcOf hB15) (fun v => v ∈ recs) xr.length i) ?_ xr.length (.mk (i := 0) z.1 z.2.1 z.2.2 Rr (Xh.kp z.2.1) mw (by lia))
    have T := T.kp kB
    have fin : ∀ h', Kp hB' h' → KpB [16, 180] s.heap h' := fun h' k' => fin h' (kB.trans k')
    have tabs := tabs.kp kB
    clear z e₄ n₄ k₄ F₃ r₃ k₃ F Rr Xh mw mr kB XB
    generalize xr.length = B at xl
    rintro n2 s' ⟨F, kB, eI, Rr, Xh, mw, hn⟩
    rename_i h' hB₂ tk m j cs xr yg hs
    have XB := T.wk.x.kp kB
    by_cases hend : (B : Int) ≤ j
    · refine riEnd (F.keep _ _ eI) (hr.deep _).han (by lia) (fun h₂ k₂ => wpAny_execs_nil ?_)
      dsimp only
      have F := F.kp k₂
      refine wpAny_execs_cons (wpAny_Return_some (Call_ (nmG (XB.keeps F.keep) (by k_is) (callWith_F (args_cons (F.nm mw (args_cons (wpAny_Constant_none (args_nil ⟨FnAt.of (XB.keeps F.keep) (by k_is), ?_⟩)))))))))
      exact F.taken T kB Rr Xh ((hr.deep _).le (by decide)) (by lia) (F.frames Bl0 rfl rfl) (fun h₄ tk₄ cs' xr' yg' hs' F₄ R₄ X₄ => k _ _ (fin _ (kB.trans F₄.keep)) (tabs.kp (kB.trans F₄.keep)))
    · refine F.riNext eI (by lia) nI kB Xh (fun h₂ t₂ hB₃ F₂ eI₂ kB₂ X₂ => ?_)
      dsimp only
      refine wpAny_of_eq (a := ()) rfl ?_
      refine wpAny_assign_Name (F₂.st fun h₃ F₃ => ?_)
      have XB := T.wk.x.kp kB₂
      refine wpAny_execs_cons (wpAny_If (isTrue_not (isTrue_plain (Call_ (nmG (XB.keeps F₃.keep) (by k_is) (callWith_F (args_cons (F₃.nm (by exact mw) (args_cons (wpAny_Constant_none (args_nil ⟨FnAt.of (XB.keeps F₃.keep) (by k_is), ?_⟩)))))))))))
      refine F₃.taken T kB₂ Rr X₂ ((hr.deep _).le (by decide)) (by lia) (F₃.frames Bl0 rfl rfl) (fun h₄ tk₄ cs' xr' yg' hs' F₄ R₄ X₄ => wpAny_truthy_bool ?_)
      rw [if_neg (by decide)]
      exact wpAny_execs_nil (wpAny_execs_nil ⟨n2 - 1, by lia, .mk F₄ kB₂ (by rw [show (B : Int) - (j + 1) = (B : Int) - j - 1 from by lia]; exact eI₂) R₄ X₄ (by exact mw) (by lia)⟩)
  · have hlt : i < cells.length := Nat.lt_of_not_le hend
    have hcv : cells[i]? = some cells[i] := List.getElem?_eq_getElem hlt
    generalize cells[i] = cv at hcv
    refine Exists.elim (cn cv (List.mem_of_getElem? hcv)) fun cell z => Exists.elim z fun tc z => ?_
    subst z
    have hrv : recs[i]? = some recs[i] := List.getElem?_eq_getElem (hrl ▸ hlt)
    generalize recs[i] = x at hrv
    refine F.riNext eI (by lia) nI kB Xh (fun h₂ t₂ hB₂ F₂ eI₂ kB₂ X₂ => ?_)
    dsimp only
    refine wpAny_of_eq (a := ()) rfl ?_
    refine wpAny_assign_Name (F₂.st fun h₃ F₃ => ?_)
    have XB := X17.kp kB₂
    refine wpAny_execs_cons (wpAny_If (isTrue_not (isTrue_plain (Call_ (nmG (XB.keeps F₃.keep) (by k_is) ?_)))))
    refine callWith_F (args_cons (F₃.nm (by exact mw) (args_cons (Subscript_ (nmC (hc.keeps kB₂) F₃.keep (F₃.nm rfl (itemL ((hl.kp kB₂).kp F₃.keep) rfl (Nat.lt_trans hlt (lt20 c1)) hcv ?_)))))))
    refine args_cons (Subscript_ (F₃.nm (by exact mr) (F₃.nm rfl (itemL ((lR.kp kB₂).kp F₃.keep) rfl (Nat.lt_trans hlt (lt20 c1)) hrv ?_))))
    refine args_nil ⟨FnAt.of (XB.keeps F₃.keep) (by k_is), ?_⟩
    refine F₃.deed T kB₂ Rr X₂ (List.mem_of_getElem? hrv) (rcs.2 i x hrv) ((hr.deep _).le (by decide)) (by lia) (F₃.frames Bl0 rfl rfl) (fun h₄ tk₄ hB₄ cs' xr' yg' hs' k₄ F₄ R₄ X₄ => wpAny_truthy_bool ?_)
    rw [if_neg (by decide)]
    exact wpAny_execs_nil (wpAny_execs_nil ⟨n - 1, by lia, .mk (i := i + 1) F₄ (kB₂.trans k₄) (by rw [show (((i + 1 : Nat) : Int)) = (i : Int) + 1 from rfl, show (cells.length : Int) - ((i : Int) + 1) = (cells.length : Int) - i - 1 from by lia]; exact k₄ _ _ eI₂) R₄ X₄ (by exact mw) (by exact mr) (by lia)⟩)
theorem allX (x : T) : pX x := eps (P := pX) pfX0
end N_law_spec
theorem law_spec {w : World} {A : Around} {E : Value → Shared → Prop} {s : Shared} {Q : Value → Shared → Prop} {S : Addr} : N_law_spec.stX0 w A E s Q S := (N_law_spec.allX (w, A, E, s, Q, S))
section
variable {w : World} {A : Around} {E : Value → Shared → Prop} {s : Shared} {Q : Value → Shared → Prop}
end
end Mine
namespace Mine
theorem intsAre {vs : List Value} {ns : List Int} (x : IntsAre vs ns) : ∀ v ∈ vs, ∃ k t, v = Value.int k t := by
  induction x with
  | nil => intro v h; cases h
  | cons n t r ih =>
    intro v h
    cases h with
    | head => exact ⟨_, _, rfl⟩
    | tail _ h => exact ih v h
theorem oldK {h h' : Heap} (k : KpB [16, 180] h h') (t : Tabs h') (e1 : h.get? 16 = some (tabObj #[])) (e2 : h.get? 180 = some (tabObj #[])) (c1 : isCodeTable h 16) (c2 : isCodeTable h 180) : OldK h h' := by
  obtain ⟨⟨ps, t1⟩, qs, t2⟩ := t
  refine ⟨fun b o e => ?_, fun b o e => ?_⟩
  · by_cases q1 : b = 16
    · subst q1
      rw [e1] at e; cases e
      exact .inr (.inl ⟨c1, rfl, #[], ps, rfl, by rw [Array.empty_append]; exact t1⟩)
    · by_cases q2 : b = 180
      · subst q2
        rw [e2] at e; cases e
        exact .inr (.inl ⟨c2, rfl, #[], qs, rfl, by rw [Array.empty_append]; exact t2⟩)
      · exact .inl (k b o (by simp [q1, q2]) e)
  · by_cases q1 : b = 16
    · exact ⟨_, q1 ▸ t1⟩
    · by_cases q2 : b = 180
      · exact ⟨_, q2 ▸ t2⟩
      · exact ⟨o, k b o (by simp [q1, q2]) e⟩
end Mine
theorem PySem.Challenge.cw_ki0045_01_holds : PySem.Challenge.rw_ki0045_01.Holds := by
  refine Mine.tp ?_
  k_fill
  intro w s₀ s₁ mg mb G Y fa o pm cd doc dV kV ho hd hcd hD hmg hg args vals as hpre hlay hrd hwl hlo
  have KX := kIn_of Y
  have X := (Ground.X G).1
  have V := (Ground.X G).2
  refine Ground.open G ?_
  intro T B D TE TW
  wrow_args hpre hlay hrd hwl hlo
  all_goals (
    x_fa T KX hmg
    (try all_lens))
  have hL := ‹Heap.IsList s₁.heap _ _›
  have hi := ‹IntsAre _ _›
  have hb := ‹List.length _ = List.length _ ∧ _›
  have e16 : s₁.heap.get? 16 = some (tabObj #[]) := KX 16 _ (by k_is)
  have e180 : s₁.heap.get? 180 = some (tabObj #[]) := KX 180 _ (by k_is)
  refine Mine.law_spec (fun a o _ e => KX a o e) e16 e180 hL (Mine.intsAre hi) ?_ ⟨by decide, by decide, rfl⟩ rfl (fun h' tk k t => ?_)
  · have hc := ‹¬ ((63 : Nat) : Int) < _›
    lia
  · refine ⟨.inl ⟨_, _, _, rfl, fun _ => rfl, .bool true, ?_, fun _ => ⟨List.nodup_nil, fun a ha => nomatch ha⟩⟩, Mine.oldK k t e16 e180 ?_ ?_, rfl, .of_eq hg⟩
    · with_unfolding_all rfl
    · exact ⟨20, _, _, KX 20 _ (by k_is), rfl, rfl, rfl⟩
    · exact ⟨182, _, _, KX 182 _ (by k_is), rfl, rfl, rfl⟩
end
