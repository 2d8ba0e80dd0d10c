import PyProof.Rows.All
import Wide.All
import OpenK.AllK
import OpenK.XGo
import OpenK.ZGo
import Wide.FinOn
import PySem.Challenge.RW_bn5012_01

section
open PySem PySem.W PyProof.Rows
set_option Elab.async false
namespace Mine
section
local macro_rules | `(tactic| k_head) => `(tactic| x_head)
set_option maxRecDepth 100000 in
set_option maxHeartbeats 8000000 in
open_top hx for PySem.Challenge.rw_bn5012_01
end
section
local macro_rules | `(tactic| k_head) => `(tactic| z_head)
set_option maxRecDepth 100000 in
set_option maxHeartbeats 8000000 in
open_top hd for PySem.Challenge.rw_bn5012_01
end
end Mine
end

section
open PySem PySem.W PyProof.Rows PySem.Calls
set_option Elab.async false
namespace Mine
noncomputable abbrev KK (w : World) : Frag := Mine.hx.heap_39 w.params
noncomputable abbrev PP : Program := Challenge.rw_bn5012_01.prog
section
variable {prog : Program} {w : World} {A : Around} {s : Shared} {K : Frag}
  {R : Result → Shared → Prop} {name qual : Str} {params : Arguments} {body : List Stmt} {scope : Scope} {dV kV doc pm cdv ct oc : Value} {an od : Option Addr} {osl : Array (Option Value)} {f : Addr} {args : Args} {binds : List (Str × Value)}
theorem enterM (X : K.In s.heap) (hlim : s.heap.NoLimit)
    (ho : K.lookup f = some ⟨oc, od, .func (fnOf name qual params body scope dV kV doc pm an cdv ct), osl⟩) (hcd : codeIn K cdv qual = true) (hroom : A.depth < recursionLimit)
    (hbind : BindsTo s (fnOf name qual params body scope dV kV doc pm an cdv ct) args binds) (hloc : ∀ y ∈ binds, scope.names.lookup y.1 = some .local)
    (h : ∀ L h₁, Fr s.heap L h₁ (fun y => binds.reverse.lookup y) → News s.heap L h₁ [] → K.In s.heap →
      wpAny (model prog w) (A.deeper (envOf qual scope L f cdv)) (execs body (envOf qual scope L f cdv))
        (fun fl s' => R (.ok (.ret (match fl with | .ret v => v | _ => .none))) s') (fun _ _ => False) { s with heap := h₁, toks := s.toks + binds.length })
    (hco : scope.isCoroutine = false := by rfl) (hgen : scope.isGenerator = false := by rfl) (hk : scope.kind = .function := by rfl)
    (hcell : ∀ x ∈ scope.names, x.2 ≠ .cell := by decide) : codeAny (model prog w) A (.call (.ref f) args) R s := by
  refine codeAny_call_def (fd := fnOf name qual params body scope dV kV doc pm an cdv ct) (body := body) (binds := binds) hroom (X _ _ ho) rfl hlim (codeRec_of X hcd) rfl hbind hcell hloc (fun h₁ hns hk₁ => ?_) hco hgen hk
  exact wpAny_mono (h s.heap.objs.size h₁ ⟨hns, hk₁, Nat.le_refl _⟩ News.nil X) (fun _ _ x => x) (fun _ _ x => x.elim)
end
end Mine
end

section
open PySem PySem.W PyProof.Rows PySem.Calls
set_option Elab.async false
namespace Mine
section
variable {prog : Program} {w : World} {A : Around} {s : Shared} {K : Frag}
  {R : Result → Shared → Prop} {name qual : Str} {params : Arguments} {body : List Stmt} {scope : Scope} {dV kV doc pm cdv ct oc : Value} {an od : Option Addr} {osl : Array (Option Value)} {f : Addr} {args : Args} {binds : List (Str × Value)}
theorem enterC (X : K.In s.heap) (hlim : s.heap.NoLimit)
    (ho : K.lookup f = some ⟨oc, od, .func (fnOf name qual params body scope dV kV doc pm an cdv ct), osl⟩) (hcd : codeIn K cdv qual = true) (hroom : A.depth < recursionLimit)
    (hbind : BindsTo s (fnOf name qual params body scope dV kV doc pm an cdv ct) args binds) (hkind : (binds.all fun y => scope.names.lookup y.1 == some .local || scope.names.lookup y.1 == some .cell) = true)
    (hnd : ((cellsFrom 0 scope.names []).map (·.1)).Nodup)
    (h : ∀ L h₁ tk cells, Fr s.heap L h₁ (bindL (envOfC qual scope L f cdv).kindOf binds fun _ => none) → News s.heap L h₁ cells →
      CellsAre (bindC (envOfC qual scope L f cdv).kindOf binds fun _ => none) (cellsFrom (L + 1) scope.names []) cells → K.In s.heap →
      wpAny (model prog w) (A.deeper (envOfC qual scope L f cdv)) (execs body (envOfC qual scope L f cdv))
        (fun fl s' => R (.ok (.ret (match fl with | .ret v => v | _ => .none))) s') (fun _ _ => False) { s with heap := h₁, toks := tk })
    (hco : scope.isCoroutine = false := by rfl) (hgen : scope.isGenerator = false := by rfl) (hk : scope.kind = .function := by rfl) : codeAny (model prog w) A (.call (.ref f) args) R s := by
  refine codeAny_call_function hroom (X _ _ ho) rfl hco hgen rfl (codeRec_of X hcd) (hbind _ _ _ _ ?_)
  refine wpAny_newFunctionEnv_cells hk (kindsX hkind _) fun env' he s' x => ?_
  subst he
  refine ⟨hlim.keeps x.toInCall.keep, codeAny_func ?_⟩
  obtain ⟨h₁, tk, rfl, _⟩ := x.done
  have hk₁ := x.toInCall.keep
  obtain ⟨cells, NC, Y⟩ := Cl.news (h₀ := s.heap) (Nat.le_refl _) fun n c hm => ⟨x.cell n c (lookup_of_mem_nodup (cellsFrom_names scope.names 0 (s.heap.objs.size + 1) [] [] rfl ▸ hnd) hm), x.above n c hm⟩
  exact wpAny_mono (h s.heap.objs.size h₁ tk cells ⟨x.toInCall.ns, hk₁, Nat.le_refl _⟩ NC Y X) (fun _ _ x => x) (fun _ _ x => x.elim)
end
end Mine
end

section
open PySem PySem.W PyProof.Rows PySem.Calls
open AutoSeq1 (wpAny_loadPart')
set_option Elab.async false
namespace Mine
section
variable {prog : Program} {w : World} {M : Model} {A : Around} {E : Value → Shared → Prop} {s : Shared} {K : Frag} {a C : Addr} {o : Obj}
theorem isInst_own {Q : Bool → Shared → Prop} {T : String} (X : K.In s.heap) (ho : s.heap.get? a = some o) (hc : o.cls = .ref C) (hm : mroIn K C (.type T) = some true) (hQ : Q true s) :
    wpAny M A (isInstance (.ref a) (.type T)) Q E s := by
  obtain ⟨h, g, d, t, os⟩ := s
  have L1 := looks_mroIn (M := M) X hm
  simp only [isInstance]
  dsimp only at ho
  refine wpAny_bind ?_
  show wpAny M A (do return (← load a).cls) _ _ _
  refine wpAny_bind (wpAny_load ho (wpAny_pure ?_))
  rw [hc]
  exact L1.at hQ
theorem check_own {Q : Unit → Shared → Prop} {id owner n : String} {rest : List Value} {kw : List (Str × Value)} (hsplit : splitId id = some (owner, n))
    (hkind : (Manifest.find? owner).bind (·.attrs.lookup n) = some .slot) (ha : argsOk id ⟨.ref a :: rest, kw⟩) (X : K.In s.heap) (ho : s.heap.get? a = some o) (hc : o.cls = .ref C) (hm : mroIn K C (.type owner) = some true) (hQ : Q () s) :
    wpAny M A (checkBuiltinCall id ⟨.ref a :: rest, kw⟩) Q E s := by
  have hk : builtinKind id = (Manifest.find? owner).bind (·.attrs.lookup n) := by simp only [builtinKind, hsplit]
  simp only [checkBuiltinCall, hk, hkind, hsplit]
  refine wpAny_bind (isInst_own X ho hc hm ?_)
  simp only [Bool.not_true, Bool.false_eq_true, if_false]
  cases hsig : Manifest.signature? id with
  | none => exact wpAny_pure hQ
  | some sig =>
    simp only [argsOk, hsig] at ha
    have h2 : Bind.checkArgs id sig ⟨.ref a :: rest, kw⟩ = pure () := ha
    show wpAny M A (Bind.checkArgs id sig ⟨.ref a :: rest, kw⟩) Q E s
    rw [h2]; exact wpAny_pure hQ
theorem tup_item {R : Result → Shared → Prop} {dd : Option Addr} {items : Array Value} {n : Nat} {sl : Array (Option Value)} {i : Int} {u : Tok} {k : Nat} {y : Value}
    (X : K.In s.heap) (ho : s.heap.get? a = some ⟨.ref C, dd, .seq items n, sl⟩) (hm : mroIn K C (.type "tuple") = some true)
    (hlo : -2 ^ 63 ≤ i) (hhi : i < 2 ^ 63) (hk : seqIndex? i items.size = some k) (hy : items[k]? = some y) (hR : R (.ok (.ret y)) s) :
    codeAny (model prog w) A (.call (.builtin "tuple.__getitem__") ⟨[.ref a, .int i u], []⟩) R s := by
  have e1 : splitId "tuple.__getitem__" = some ("tuple", "__getitem__") := by decide +kernel
  have e2 : (Manifest.find? "tuple").bind (·.attrs.lookup "__getitem__") = some .slot := by decide +kernel
  refine codeAny_call_builtin PyProof.Rows.slot_tuple_getitem.plain PyProof.Rows.entry_tuple_getitem ?_
  have e3 : argsOk "tuple.__getitem__" ⟨[.ref a, .int i u], []⟩ := PyProof.Rows.args_tuple_getitem _ _
  refine check_own (id := "tuple.__getitem__") (owner := "tuple") (n := "__getitem__") (a := a) (rest := [.int i u]) (kw := []) (K := K) (C := C) (o := ⟨.ref C, dd, .seq items n, sl⟩) ?_ ?_ ?_ ?_ ?_ ?_ ?_ ?_
  · exact e1
  · exact e2
  · exact e3
  · exact X
  · exact ho
  · rfl
  · exact hm
  obtain ⟨hp, g, d, tk, os⟩ := s
  have f1 := AutoSeq1.idx_int
  have hf : ¬ (decide (i < -2 ^ 63) || decide (i ≥ 2 ^ 63)) = true := by simp; omega
  wp_walk using wpAny_loadPart' ho
  simp only [hk, hy, Option.bind_some]
  refine wpAny_ite_false (by simp; omega) ?_
  wp_walk
  exact hR
end
end Mine
end

section
open PySem PySem.W PyProof.Rows PySem.Calls
open PySem.W.X PySem.W.XRun
set_option Elab.async false
namespace Mine
abbrev AX : Around := { handled := none, depth := 600, frames := none, guards := none, units := 6000 }
abbrev A0 : Around := { handled := none, depth := 500, frames := none, guards := none, units := 5000 }
abbrev pathObj (dd : Option Addr) (p k n : Value) : Obj := { cls := .ref 150, dict := dd, data := .seq #[p, k, n] }
def PathAt (h : Heap) (a : Addr) (p k n : Value) : Prop := ∃ dd, h.get? a = some (pathObj (some dd) p k n) ∧ h.get? dd = some (dictOf [] 0)
abbrev Gave (h0 : Heap) (r : Value) (v : Value) (s s' : Shared) : Prop :=
  ∃ h' tk news, v = r ∧ s' = { s with heap := h', toks := tk } ∧ Mem h0 h' [] news
abbrev MadeP (h0 : Heap) (p k n : Value) (v : Value) (s s' : Shared) : Prop :=
  ∃ a dd h' tk news, v = .ref a ∧ s' = { s with heap := h', toks := tk } ∧ Mem h0 h' [] news ∧ (a, pathObj (some dd) p k n) ∈ news ∧ (dd, dictOf [] 0) ∈ news
def Keeps (h h' : Heap) : Prop := ∀ b o, h.get? b = some o → h'.get? b = some o
theorem Keeps.refl (h : Heap) : Keeps h h := fun _ _ e => e
theorem Keeps.trans {h h' h'' : Heap} (x : Keeps h h') (y : Keeps h' h'') : Keeps h h'' := fun b o e => y b o (x b o e)
theorem keeps_of_mem {h h' : Heap} {news : List (Addr × Obj)} (D : Mem h h' [] news) : Keeps h h' := fun b o e => D.keep b o e (by simp [away])
theorem News.cons_new {h₀ h h' : Heap} {L a : Addr} {o : Obj} {m : Str → Option Value} {news : List (Addr × Obj)} (F : Fr h₀ L h m) (N : News h₀ L h' news) (ha : h.get? a = none) (ho : h'.get? a = some o) :
    News h₀ L h' ((a, o) :: news) := fun p hp => by
  rcases List.mem_cons.mp hp with rfl | hp
  · refine ⟨ho, fun q => ?_, ?_⟩
    · obtain ⟨oL, _, _, hL, _⟩ := F.ns
      rw [← q, ha] at hL; cases hL
    · cases q : h₀.get? a with
      | none => rfl
      | some o' => have := F.keep _ _ q; rw [ha] at this; cases this
  · exact N p hp
section
variable {M : Model} {A : Around} {E : Value → Shared → Prop} {s : Shared} {α : Type} {t : Sem α}
theorem wp_X {Q : α → Shared → Prop} (hh : A.handled = none) (hd : A.depth ≤ 600) (hu : A.units ≤ 6000) (h : wpAny M AX t Q (fun _ _ => False) s) : wpAny M A t Q E s := fun Γ p hΓ => by
  refine Sem.wp_mono M Γ t (fun _ _ _ x => x) (fun _ _ _ x => x.elim) p s (h Γ p ⟨?_, ?_, ?_, ?_, ?_⟩)
  · exact hΓ.1.trans hh
  · exact Nat.le_trans hΓ.2.1 hd
  · intro l hl; cases hl
  · intro g hg; cases hg
  · exact Nat.le_trans hΓ.2.2.2.2 hu
theorem wp_A {Q : α → Shared → Prop} (hh : A.handled = none) (hd : A.depth ≤ 500) (hu : A.units ≤ 5000) (h : wpAny M A0 t Q (fun _ _ => False) s) : wpAny M A t Q E s := fun Γ p hΓ => by
  refine Sem.wp_mono M Γ t (fun _ _ _ x => x) (fun _ _ _ x => x.elim) p s (h Γ p ⟨?_, ?_, ?_, ?_, ?_⟩)
  · exact hΓ.1.trans hh
  · exact Nat.le_trans hΓ.2.1 hd
  · intro l hl; cases hl
  · intro g hg; cases hg
  · exact Nat.le_trans hΓ.2.2.2.2 hu
theorem of_gave {t : Sem Value} {r : Value} {Q : Value → Shared → Prop} (h : wpAny M A t (fun v s' => Gave s.heap r v s s') E s) (q : ∀ h' tk, Keeps s.heap h' → Q r { s with heap := h', toks := tk }) : wpAny M A t Q E s :=
  wpAny_mono h (fun v s' ⟨h', tk, news, e1, e2, D⟩ => by subst e1 e2; exact q h' tk (keeps_of_mem D)) fun _ _ x => x
theorem of_made {t : Sem Value} {p k n : Value} {Q : Value → Shared → Prop} (h : wpAny M A t (fun v s' => MadeP s.heap p k n v s s') E s)
    (q : ∀ a dd h' tk, Keeps s.heap h' → s.heap.get? a = none → s.heap.get? dd = none → h'.get? a = some (pathObj (some dd) p k n) → h'.get? dd = some (dictOf [] 0) → Q (.ref a) { s with heap := h', toks := tk }) : wpAny M A t Q E s :=
  wpAny_mono h (fun v s' ⟨a, dd, h', tk, news, e1, e2, D, hm, hn⟩ => by subst e1 e2; exact q a dd h' tk (keeps_of_mem D) (D.nw _ hm).2 (D.nw _ hn).2 (D.nw _ hm).1 (D.nw _ hn).1) fun _ _ x => x
end
section
variable {prog : Program} {w : World} {A : Around} {E : Value → Shared → Prop} {s : Shared} {a C : Addr} {o : Obj} {Q : Value → Shared → Prop}
theorem my_type (ho : s.heap.get? a = some o) (hc : o.cls = .ref C) (hq : Q (.ref C) s) : wpAny (model prog w) A (call (.type "type") [.ref a]) Q E s := by
  obtain ⟨hh, g, d, t, os⟩ := s
  exact call_type_obj ho (by rw [hc]; rfl) (by rw [hc]; exact hq)
end
section
local macro_rules | `(tactic| x_close) => `(tactic| (refine' ⟨_, _, _, _, _, rfl, ?e1, ?e2, ?e3, ?e4⟩; (case e1 => exact rfl); (case e2 => assumption); (case e3 => exact List.Mem.head _); (case e4 => exact List.Mem.tail _ (List.Mem.head _))))
set_option maxRecDepth 100000 in
set_option maxHeartbeats 0 in
theorem path_new0 (w : World) (h0 : Heap) (g : Array GenState) (d : Drawn) (t : Nat) (os : OsState) (p k n : Value)
    (KX : (Mine.hx.heap_39 w.params).In h0) :
    wpAny (model Challenge.rw_bn5012_01.prog w) AX (call (.ref 150) [p, k, n]) (fun v s' => MadeP h0 p k n v ⟨h0, g, d, t, os⟩ s') (fun _ _ => False) ⟨h0, g, d, t, os⟩ := by
  revert KX; k_fill; intro KX
  x_run
end
section
local macro_rules | `(tactic| x_close) => `(tactic| (refine' ⟨_, _, _, rfl, ?e1, ?e2⟩; (case e1 => exact rfl); (case e2 => first | assumption | exact Mem.start _)))
set_option maxRecDepth 100000 in
set_option maxHeartbeats 0 in
theorem issub0 (w : World) (h0 : Heap) (g : Array GenState) (d : Drawn) (t : Nat) (os : OsState)
    (KX : (Mine.hx.heap_39 w.params).In h0) :
    wpAny (model Challenge.rw_bn5012_01.prog w) AX (call (.builtin "issubclass") [.ref 150, .type "tuple"]) (fun v s' => Gave h0 (.bool true) v ⟨h0, g, d, t, os⟩ s') (fun _ _ => False) ⟨h0, g, d, t, os⟩ := by
  revert KX; k_fill; intro KX
  x_run
end
end Mine
end

section
open PySem PySem.W PyProof.Rows PySem.Calls Builtin Builtin.ObjectAttr
set_option Elab.async false
namespace Mine
section
variable {prog : Program} {w : World} {A : Around} {E : Value → Shared → Prop} {s : Shared} {K : Frag} {x C : Addr} {ox : Obj} {od : Option Obj} {name : Str} {expr : Bool} {Q : Value → Shared → Prop}
theorem own_ga_T (X : K.In s.heap) (I : InstAt s.heap x ox C od) (hga : findIn K (.ref C) "__getattribute__" = some (some (.builtin "tuple.__getattribute__"))) (hm : mroIn K C (.type "tuple") = some true)
    (hk : findIn K (.ref C) "__getattr__" = some none)
    (h : wpAny (model prog w) A.in1 (Builtin.«object.__getattribute__» ⟨[.ref x, .str name s.toks], []⟩) (fun fin s' => match fin with | .done (.ret v) => wpAny (model prog w) A (handedOut v) Q E s' | _ => False) (fun _ _ => False) { s with toks := s.toks + 1 }) :
    wpAny (model prog w) A (getAttr (.ref x) name expr) Q E s := by
  obtain ⟨hh, g, d, t, os⟩ := s
  have L0 := I.type (M := model prog w)
  have L1 := looks_findIn (M := model prog w) X hga
  have L2 := looks_findIn (M := model prog w) X hk
  unfold getAttr getAttrBy
  refine wpAny_bind (wpAny_mkText (wpAny_holding (wpAny_bind (L0.at (wpAny_bind (L1.at ?_))))))
  show wpAny _ _ (getAttrByItsOwn _ _ _ _ _ _) _ _ _
  unfold getAttrByItsOwn
  refine wpAny_bind (m := hookBefore (.ref C)) ?_
  show wpAny _ _ (typeLookup (.ref C) "__getattr__") _ _ _
  refine L2.at ?_
  refine wpAny_bind (wpAny_attempt (wpAny_holding ?_))
  unfold callGetattribute
  rw [show (expr && onTheHeap (Value.builtin "tuple.__getattribute__")) = false from Bool.and_false _, if_neg (by decide)]
  unfold boundAndCalled
  rw [PySem.F.slot_tuple_getattribute.bind]
  refine wpAny_bind (wpAny_pure ?_)
  show wpAny _ _ (call (.builtin "tuple.__getattribute__") [.ref x, .str name t]) _ _ _
  refine wpAny_call ?_
  refine codeAny_call_builtin PySem.F.slot_tuple_getattribute.plain am_entry_tuple_getattribute ?_
  have e1 : splitId "tuple.__getattribute__" = some ("tuple", "__getattribute__") := by decide +kernel
  have e2 : (Manifest.find? "tuple").bind (·.attrs.lookup "__getattribute__") = some .slot := by decide +kernel
  refine check_own (id := "tuple.__getattribute__") (owner := "tuple") (n := "__getattribute__") (a := x) (rest := [.str name t]) (kw := []) (K := K) (C := C) (o := ox) e1 e2 (PySem.F.args_tuple_getattribute_2 _ _) X I.at_ I.cls hm ?_
  refine wpAny_mono h (fun fin s' z => ?_) fun _ _ z => z.elim
  rcases fin with (_ | _ | _ | _) | _ <;> first | exact z | exact z.elim
theorem get_bindT {g a : Value} (X : K.In s.heap) (I : InstAt s.heap x ox C od) (hga : findIn K (.ref C) "__getattribute__" = some (some (.builtin "tuple.__getattribute__"))) (hm : mroIn K C (.type "tuple") = some true)
    (hk : findIn K (.ref C) "__getattr__" = some none) (hf : findObj K C od name = some (.bind g a))
    (h : wpAny (model prog w) A.in1 (call g [a, .ref x, .ref C]) (fun v s' => wpAny (model prog w) A (handedOut v) Q E s') (fun _ _ => False) { s with toks := s.toks + 1 }) :
    wpAny (model prog w) A (getAttr (.ref x) name expr) Q E s := by
  refine own_ga_T X I hga hm hk ?_
  obtain ⟨hh', gg, d, t, os⟩ := s
  have L0 := I.type (M := model prog w)
  have L1 := looks_find (M := model prog w) X I hf
  unfold Builtin.«object.__getattribute__»
  refine wpAny_bind (m := slotArgs "__getattribute__" 1 _) (wpAny_pure ?_)
  refine wpAny_bind (m := attrName _) (wpAny_pure ?_)
  refine wpAny_bind (L0.at (wpAny_bind (L1.at ?_)))
  show wpAny _ _ (holding [a] (call g [a, .ref x, .ref C]) >>= ret) _ _ _
  exact wpAny_bind (wpAny_holding (wpAny_mono h (fun v s' z => wpAny_pure z) fun _ _ z => z))
end
end Mine
end

section
open PySem PySem.W PyProof.Rows PySem.Calls
set_option Elab.async false
namespace Mine
section
variable {prog : Program} {w : World} {A : Around} {E : Value → Shared → Prop} {s : Shared} {h₀ : Heap} {L a : Addr} {m : Str → Option Value} {news : List (Addr × Obj)} {Q : Value → Shared → Prop}
theorem issub_line (F : Fr h₀ L s.heap m) (N : News h₀ L s.heap news) (X : (Mine.hx.heap_39 w.params).In h₀) (hh : A.handled = none) (hd : A.depth ≤ 600) (hu : A.units ≤ 6000)
    (q : ∀ h' tk, Fr h₀ L h' m → News h₀ L h' news → Q (.bool true) { s with heap := h', toks := tk }) : wpAny (model Challenge.rw_bn5012_01.prog w) A (call (.builtin "issubclass") [.ref 150, .type "tuple"]) Q E s := by
  obtain ⟨h, g, d, t, os⟩ := s
  exact wp_X hh hd hu (of_gave (issub0 w h g d t os (X.keeps F.keep)) fun h' tk k => q h' tk (F.grownK k) (N.grown k))
set_option maxRecDepth 100000 in
theorem getm_tuple {K : Frag} {pl : Sem Bool} {Q : Value × List Value → Shared → Prop} (F : Fr h₀ L s.heap m) (X₀ : K.In h₀)
    (e : findCls K (.type "tuple") (.type "type") (PySem.Str.ofString "__getitem__") = some (.val (.builtin "tuple.__getitem__")))
    (h : Q (.builtin "tuple.__getitem__", []) { s with toks := s.toks + 1 }) :
    wpAny (model prog w) A (getMethod (.type "tuple") (PySem.Str.ofString "__getitem__") pl) Q E s := by
  have X := X₀.keeps F.keep
  have hstub : opaqueClassAbove (.type "tuple") = pure none := by unfold opaqueClassAbove; dsimp only; rw [show Manifest.isStub "tuple" = false by decide +kernel]; rfl
  have ht : typeOf (.type "tuple") = pure (.type "type") := by first | rfl | kernel_rfl
  have L0 : Looks (model prog w) s.heap (typeOf (.type "tuple")) (.type "type") := Looks.of_pure ht
  have hg : findIn K (.type "type") "__getattribute__" = some (some (.builtin "type.__getattribute__")) := type_tga
  unfold getMethod specialOf
  refine wpAny_bind (wpAny_bind (L0.here ((looks_findIn X hg).here ?_)))
  dsimp only
  rw [if_pos canon_tga]
  refine wpAny_bind (wpAny_mono (Q := fun v => Q (v, [])) (E := E) ?_ (fun _ _ z => wpAny_pure z) fun _ _ z => z)
  have LO : Looks (model prog w) s.heap (opaqueClassAbove (.type "tuple")) none := Looks.of_pure hstub
  refine cls_open X LO L0 hg (looks_hook X (r := none) (by rfl)) (by show subIn K _ _ = _; rfl) e ?_
  exact wpAny_pure (handed_on (by decide +kernel) h)
end
local macro_rules | `(tactic| walk_at "getMethod type:tuple") => `(tactic| (k_here; k_dflt (refine' getm_tuple ?k1 ?k2 ?k3 ?_; (case k1 => k_asm); (case k2 => k_asm); (case k3 => k_is); k_whole)))
local macro_rules | `(tactic| walk_at "call type:type") => `(tactic| (k_here; (with_reducible show wpAny _ _ (call (Value.type "type") [Value.ref _]) _ _ _); k_dflt (refine' my_type (Fr.keep (by assumption) _ _ (by assumption)) rfl ?_; k_whole)))
local macro_rules | `(tactic| walk_at "call builtin:issubclass") => `(tactic| (k_here; k_dflt (refine' issub_line ?k1 ?k2 ?k3 ?k4 ?k5 ?k6 ?_; (case k1 => k_asm); (case k2 => k_asm); (case k3 => k_asm); (case k4 => rfl); (case k5 => exact Nat.le_of_ble_eq_true rfl); (case k6 => exact Nat.le_of_ble_eq_true rfl); k_whole); intro h' tk' F' N'; (try k_sweep)))
local macro_rules | `(tactic| walk_at "call builtin:tuple.__getitem__") => `(tactic| (k_here; (with_reducible show wpAny _ _ (call (Value.builtin _) [Value.ref _, Value.int _ _]) _ _ _); k_dflt (refine wpAny_call ?_; refine' tup_item ?k1 ?k2 ?k3 ?k4 ?k5 ?k6 ?k7 ?_; (case k1 => k_in); (case k2 => exact Fr.keep (by assumption) _ _ (by assumption)); (case k3 => k_is); (case k4 => decide); (case k5 => decide); (case k6 => rfl); (case k7 => rfl); k_whole)))
set_option maxRecDepth 100000 in
set_option maxHeartbeats 4000000 in
theorem get_fn_prev (w : World) (s : Shared) (p : Program) (loose : List Str) (mg mb : Str → Option Value) (Q : Value → Shared → Prop)
    (KX : (Mine.hx.heap_39 w.params).In s.heap) (T : TopRead p loose mg mb s.heap) {a dd : Addr} {pv kv nv : Value}
    (ho : s.heap.get? a = some (pathObj (some dd) pv kv nv))
    (q : ∀ h' tk, Keeps s.heap h' → Q pv { s with heap := h', toks := tk }) :
    wpAny (model Challenge.rw_bn5012_01.prog w) A0 (call (.ref 43) [.ref 139, .ref a, .ref 150]) Q (fun _ _ => False) s := by
  revert KX; k_fill; intro KX
  w_on
  refine wpAny_call ?_
  refine' enterM (K := Mine.hx.heap_39 w.params) (f := 43) KX T.nolimit ?ho ?hcd ?hroom ?hbind ?hloc ?h ?hco ?hgen ?hk ?hcell
  case ho => k_is
  case hcd => k_is
  case hroom => decide
  case hbind => first | exact BindsTo.of_eq rfl | exact binds_K (by k_in) rfl (by k_is) rfl rfl rfl
  case hloc => exact locs rfl
  case hco => rfl
  case hgen => rfl
  case hk => rfl
  case hcell => decide
  intro L h₁ F N X
  try k_fold
  k_steps
  with_unfolding_all exact q _ _ (Fr.keep (by assumption))
theorem get_prev {w : World} {s : Shared} {A : Around} {E : Value → Shared → Prop} {p : Program} {loose : List Str} {mg mb : Str → Option Value} {Q : Value → Shared → Prop} {expr : Bool}
    (KX : (Mine.hx.heap_39 w.params).In s.heap) (T : TopRead p loose mg mb s.heap) {a : Addr} {pv kv nv : Value}
    (P : PathAt s.heap a pv kv nv) (hv : handedIn pv = true) (hh : A.handled = none) (hd : A.depth ≤ 500) (hu : A.units ≤ 4999)
    (q : ∀ h' tk, Keeps s.heap h' → Q pv { s with heap := h', toks := tk }) :
    wpAny (model Challenge.rw_bn5012_01.prog w) A (getAttr (.ref a) (Str.ofString "prev") expr) Q E s := by
  revert KX; k_fill; intro KX
  obtain ⟨dd, ho, hdd⟩ := P
  have I : InstAt s.heap a (pathObj (some dd) pv kv nv) 150 (some (dictOf [] 0)) := ⟨ho, rfl, rfl, hdd⟩
  have e1 : findIn (Mine.hx.heap_39 w.params) (.ref 150) (Str.ofString "prev") = some (some (.ref 139)) := by k_is
  have e2 : specialIn (Mine.hx.heap_39 w.params) (.ref 139) "__get__" = some (some (.ref 43)) := by k_is
  have e3 : takesIn (Mine.hx.heap_39 w.params) (.ref 139) = some true := by k_is
  have e4 : findIn (Mine.hx.heap_39 w.params) (.ref 150) "__getattribute__" = some (some (.builtin "tuple.__getattribute__")) := by k_is
  have e5 : mroIn (Mine.hx.heap_39 w.params) 150 (.type "tuple") = some true := by k_is
  have e6 : findIn (Mine.hx.heap_39 w.params) (.ref 150) "__getattr__" = some none := by k_is
  have e7 : isClsIn (Mine.hx.heap_39 w.params) 150 = true := by k_is
  refine get_bindT KX I e4 e5 e6 (findObj_data e7 e1 e2 e3) ?_
  refine wp_A hh hd (by show A.units + 1 ≤ 5000; omega) ?_
  exact get_fn_prev w { s with toks := s.toks + 1 } p loose mg mb (fun v s' => wpAny (model Challenge.rw_bn5012_01.prog w) A (handedOut v) Q E s') KX T ho fun h' tk k => handed_on hv (q h' tk k)
set_option maxRecDepth 100000 in
set_option maxHeartbeats 4000000 in
theorem get_fn_key (w : World) (s : Shared) (p : Program) (loose : List Str) (mg mb : Str → Option Value) (Q : Value → Shared → Prop)
    (KX : (Mine.hx.heap_39 w.params).In s.heap) (T : TopRead p loose mg mb s.heap) {a dd : Addr} {pv kv nv : Value}
    (ho : s.heap.get? a = some (pathObj (some dd) pv kv nv))
    (q : ∀ h' tk, Keeps s.heap h' → Q kv { s with heap := h', toks := tk }) :
    wpAny (model Challenge.rw_bn5012_01.prog w) A0 (call (.ref 43) [.ref 142, .ref a, .ref 150]) Q (fun _ _ => False) s := by
  revert KX; k_fill; intro KX
  w_on
  refine wpAny_call ?_
  refine' enterM (K := Mine.hx.heap_39 w.params) (f := 43) KX T.nolimit ?ho ?hcd ?hroom ?hbind ?hloc ?h ?hco ?hgen ?hk ?hcell
  case ho => k_is
  case hcd => k_is
  case hroom => decide
  case hbind => first | exact BindsTo.of_eq rfl | exact binds_K (by k_in) rfl (by k_is) rfl rfl rfl
  case hloc => exact locs rfl
  case hco => rfl
  case hgen => rfl
  case hk => rfl
  case hcell => decide
  intro L h₁ F N X
  try k_fold
  k_steps
  with_unfolding_all exact q _ _ (Fr.keep (by assumption))
theorem get_key {w : World} {s : Shared} {A : Around} {E : Value → Shared → Prop} {p : Program} {loose : List Str} {mg mb : Str → Option Value} {Q : Value → Shared → Prop} {expr : Bool}
    (KX : (Mine.hx.heap_39 w.params).In s.heap) (T : TopRead p loose mg mb s.heap) {a : Addr} {pv kv nv : Value}
    (P : PathAt s.heap a pv kv nv) (hv : handedIn kv = true) (hh : A.handled = none) (hd : A.depth ≤ 500) (hu : A.units ≤ 4999)
    (q : ∀ h' tk, Keeps s.heap h' → Q kv { s with heap := h', toks := tk }) :
    wpAny (model Challenge.rw_bn5012_01.prog w) A (getAttr (.ref a) (Str.ofString "key") expr) Q E s := by
  revert KX; k_fill; intro KX
  obtain ⟨dd, ho, hdd⟩ := P
  have I : InstAt s.heap a (pathObj (some dd) pv kv nv) 150 (some (dictOf [] 0)) := ⟨ho, rfl, rfl, hdd⟩
  have e1 : findIn (Mine.hx.heap_39 w.params) (.ref 150) (Str.ofString "key") = some (some (.ref 142)) := by k_is
  have e2 : specialIn (Mine.hx.heap_39 w.params) (.ref 142) "__get__" = some (some (.ref 43)) := by k_is
  have e3 : takesIn (Mine.hx.heap_39 w.params) (.ref 142) = some true := by k_is
  have e4 : findIn (Mine.hx.heap_39 w.params) (.ref 150) "__getattribute__" = some (some (.builtin "tuple.__getattribute__")) := by k_is
  have e5 : mroIn (Mine.hx.heap_39 w.params) 150 (.type "tuple") = some true := by k_is
  have e6 : findIn (Mine.hx.heap_39 w.params) (.ref 150) "__getattr__" = some none := by k_is
  have e7 : isClsIn (Mine.hx.heap_39 w.params) 150 = true := by k_is
  refine get_bindT KX I e4 e5 e6 (findObj_data e7 e1 e2 e3) ?_
  refine wp_A hh hd (by show A.units + 1 ≤ 5000; omega) ?_
  exact get_fn_key w { s with toks := s.toks + 1 } p loose mg mb (fun v s' => wpAny (model Challenge.rw_bn5012_01.prog w) A (handedOut v) Q E s') KX T ho fun h' tk k => handed_on hv (q h' tk k)
set_option maxRecDepth 100000 in
set_option maxHeartbeats 4000000 in
theorem get_fn_typename (w : World) (s : Shared) (p : Program) (loose : List Str) (mg mb : Str → Option Value) (Q : Value → Shared → Prop)
    (KX : (Mine.hx.heap_39 w.params).In s.heap) (T : TopRead p loose mg mb s.heap) {a dd : Addr} {pv kv nv : Value}
    (ho : s.heap.get? a = some (pathObj (some dd) pv kv nv))
    (q : ∀ h' tk, Keeps s.heap h' → Q nv { s with heap := h', toks := tk }) :
    wpAny (model Challenge.rw_bn5012_01.prog w) A0 (call (.ref 43) [.ref 145, .ref a, .ref 150]) Q (fun _ _ => False) s := by
  revert KX; k_fill; intro KX
  w_on
  refine wpAny_call ?_
  refine' enterM (K := Mine.hx.heap_39 w.params) (f := 43) KX T.nolimit ?ho ?hcd ?hroom ?hbind ?hloc ?h ?hco ?hgen ?hk ?hcell
  case ho => k_is
  case hcd => k_is
  case hroom => decide
  case hbind => first | exact BindsTo.of_eq rfl | exact binds_K (by k_in) rfl (by k_is) rfl rfl rfl
  case hloc => exact locs rfl
  case hco => rfl
  case hgen => rfl
  case hk => rfl
  case hcell => decide
  intro L h₁ F N X
  try k_fold
  k_steps
  with_unfolding_all exact q _ _ (Fr.keep (by assumption))
theorem get_typename {w : World} {s : Shared} {A : Around} {E : Value → Shared → Prop} {p : Program} {loose : List Str} {mg mb : Str → Option Value} {Q : Value → Shared → Prop} {expr : Bool}
    (KX : (Mine.hx.heap_39 w.params).In s.heap) (T : TopRead p loose mg mb s.heap) {a : Addr} {pv kv nv : Value}
    (P : PathAt s.heap a pv kv nv) (hv : handedIn nv = true) (hh : A.handled = none) (hd : A.depth ≤ 500) (hu : A.units ≤ 4999)
    (q : ∀ h' tk, Keeps s.heap h' → Q nv { s with heap := h', toks := tk }) :
    wpAny (model Challenge.rw_bn5012_01.prog w) A (getAttr (.ref a) (Str.ofString "typename") expr) Q E s := by
  revert KX; k_fill; intro KX
  obtain ⟨dd, ho, hdd⟩ := P
  have I : InstAt s.heap a (pathObj (some dd) pv kv nv) 150 (some (dictOf [] 0)) := ⟨ho, rfl, rfl, hdd⟩
  have e1 : findIn (Mine.hx.heap_39 w.params) (.ref 150) (Str.ofString "typename") = some (some (.ref 145)) := by k_is
  have e2 : specialIn (Mine.hx.heap_39 w.params) (.ref 145) "__get__" = some (some (.ref 43)) := by k_is
  have e3 : takesIn (Mine.hx.heap_39 w.params) (.ref 145) = some true := by k_is
  have e4 : findIn (Mine.hx.heap_39 w.params) (.ref 150) "__getattribute__" = some (some (.builtin "tuple.__getattribute__")) := by k_is
  have e5 : mroIn (Mine.hx.heap_39 w.params) 150 (.type "tuple") = some true := by k_is
  have e6 : findIn (Mine.hx.heap_39 w.params) (.ref 150) "__getattr__" = some none := by k_is
  have e7 : isClsIn (Mine.hx.heap_39 w.params) 150 = true := by k_is
  refine get_bindT KX I e4 e5 e6 (findObj_data e7 e1 e2 e3) ?_
  refine wp_A hh hd (by show A.units + 1 ≤ 5000; omega) ?_
  exact get_fn_typename w { s with toks := s.toks + 1 } p loose mg mb (fun v s' => wpAny (model Challenge.rw_bn5012_01.prog w) A (handedOut v) Q E s') KX T ho fun h' tk k => handed_on hv (q h' tk k)
end Mine
end

section
open PySem PySem.W PyProof.Rows PySem.Calls
open PySem.W.X PySem.W.XRun
set_option Elab.async false
namespace Mine
abbrev GaveInt (h0 : Heap) (i : Int) (v : Value) (s s' : Shared) : Prop :=
  ∃ u h' tk news, v = .int i u ∧ s' = { s with heap := h', toks := tk } ∧ Mem h0 h' [] news
section
local macro_rules | `(tactic| x_close) => `(tactic| (refine' ⟨_, _, _, _, rfl, ?e1, ?e2⟩; (case e1 => exact rfl); (case e2 => first | assumption | exact Mem.start _)))
set_option maxRecDepth 100000 in
set_option maxHeartbeats 0 in
theorem len_path0 (w : World) (h0 : Heap) (g : Array GenState) (d : Drawn) (t : Nat) (os : OsState) (a : Addr) (p k n : Value) (P : PathAt h0 a p k n)
    (KX : (Mine.hx.heap_39 w.params).In h0) :
    wpAny (model Challenge.rw_bn5012_01.prog w) AX (runValue (.builtin "len" ⟨[.ref a], []⟩)) (fun v s' => GaveInt h0 3 v ⟨h0, g, d, t, os⟩ s') (fun _ _ => False) ⟨h0, g, d, t, os⟩ := by
  revert KX; k_fill; intro KX
  obtain ⟨dd, ho, hdd⟩ := P
  have ho2 : h0.get? a = some (⟨.ref 150, some dd, .seq (Array.mk [p, k, n]) 0, Array.mk []⟩ : Obj) := ho
  have hd2 : h0.get? dd = some (⟨.type "dict", none, .dict (Array.mk []) 0, Array.mk []⟩ : Obj) := hdd
  clear ho hdd
  x_run
end
section
variable {w : World} {A : Around} {E : Value → Shared → Prop} {s : Shared} {a : Addr} {p k n : Value}
theorem PathAt.inst {h : Heap} (P : PathAt h a p k n) : ∃ dd, InstAt h a (pathObj (some dd) p k n) 150 (some (dictOf [] 0)) := by
  obtain ⟨dd, ho, hdd⟩ := P
  exact ⟨dd, ho, rfl, rfl, hdd⟩
theorem PathAt.keeps {h h' : Heap} (P : PathAt h a p k n) (x : Keeps h h') : PathAt h' a p k n := let ⟨dd, e1, e2⟩ := P; ⟨dd, x _ _ e1, x _ _ e2⟩
theorem truthy_path {Q : Bool → Shared → Prop} (KX : (Mine.hx.heap_39 w.params).In s.heap) (P : PathAt s.heap a p k n) (hh : A.handled = none) (hd : A.depth ≤ 600) (hu : A.units ≤ 6000)
    (q : ∀ h' tk, Keeps s.heap h' → Q true { s with heap := h', toks := tk }) : wpAny (model Challenge.rw_bn5012_01.prog w) A (truthy (.ref a)) Q E s := by
  revert KX; k_fill; intro KX
  obtain ⟨dd, I⟩ := P.inst
  have hs : findIn (Mine.hx.heap_39 w.params) (.ref 150) "__bool__" = some none := by k_is
  have hl : findIn (Mine.hx.heap_39 w.params) (.ref 150) "__len__" = some (some (.builtin "tuple.__len__")) := by k_is
  unfold truthy
  refine wpAny_bind (m := callSpecial? (.ref a) (Str.ofString "__bool__")) (wpAny_bind (wpAny_bind (I.type.here ((looks_findIn KX hs).here (wpAny_pure ?_)))))
  refine wpAny_bind (wpAny_bind (I.type.here ((looks_findIn KX hl).here ?_)))
  simp only [Option.isNone_some, Bool.false_eq_true, if_false]
  obtain ⟨h, g, d, t, os⟩ := s
  refine wpAny_bind (wp_X hh hd hu (wpAny_mono (len_path0 w h g d t os a p k n P KX) (fun v s' z => ?_) fun _ _ z => z))
  obtain ⟨u, h', tk, news, rfl, rfl, D⟩ := z
  exact wpAny_pure (q h' tk (keeps_of_mem D))
end
section
variable {w : World} {A : Around} {E : Value → Shared → Prop} {s : Shared} {Q : Value → Shared → Prop} {p k n : Value}
theorem path_new (KX : (Mine.hx.heap_39 w.params).In s.heap) (hh : A.handled = none) (hd : A.depth ≤ 600) (hu : A.units ≤ 6000)
    (q : ∀ a dd h' tk, Keeps s.heap h' → s.heap.get? a = none → s.heap.get? dd = none → h'.get? a = some (pathObj (some dd) p k n) → h'.get? dd = some (dictOf [] 0) → Q (.ref a) { s with heap := h', toks := tk }) : wpAny (model Challenge.rw_bn5012_01.prog w) A (call (.ref 150) [p, k, n]) Q E s := by
  obtain ⟨h, g, d, t, os⟩ := s
  exact of_made (wp_X hh hd hu (path_new0 w h g d t os p k n KX)) q
end
end Mine
end

section
open PySem PySem.W PyProof.Rows PySem.Calls
open PySem.W.X PySem.W.XRun
open PySem.W.KFB (if_not if_so)
set_option Elab.async false
namespace Mine
abbrev boundObj (x : Addr) : Obj := { cls := .type "builtin_function_or_method", data := .fields #[.builtin "list.append", .ref x] }
abbrev GaveB (h0 : Heap) (x : Addr) (v : Value) (s s' : Shared) : Prop :=
  ∃ b h' tk news, v = .ref b ∧ s' = { s with heap := h', toks := tk } ∧ Mem h0 h' [] news ∧ (b, boundObj x) ∈ news
section
local macro_rules | `(tactic| x_close) => `(tactic| (refine' ⟨_, _, _, _, rfl, ?e1, ?e2, ?e3⟩; (case e1 => exact rfl); (case e2 => first | assumption | exact Mem.start _); (case e3 => exact List.Mem.head _)))
set_option maxRecDepth 100000 in
set_option maxHeartbeats 0 in
theorem bound_append0 (w : World) (h0 : Heap) (g : Array GenState) (d : Drawn) (t tk : Nat) (os : OsState) (x : Addr) (items : Array Value) (n : Nat) (ho : h0.get? x = some (⟨.type "list", none, .seq items n, Array.mk []⟩ : Obj))
    (KX : (Mine.hx.heap_39 w.params).In h0) :
    wpAny (model Challenge.rw_bn5012_01.prog w) AX (call (.builtin "list.__getattribute__") [.ref x, .str (Str.ofString "append") tk]) (fun v s' => GaveB h0 x v ⟨h0, g, d, t, os⟩ s') (fun _ _ => False) ⟨h0, g, d, t, os⟩ := by
  revert KX; k_fill; intro KX
  x_run
end

section
theorem sigA_some : (Manifest.signature? "list.append").isSome = true := by decide +kernel
noncomputable def sigA : Manifest.Signature := (Manifest.signature? "list.append").get sigA_some
theorem sigA_eq : Manifest.signature? "list.append" = some sigA := (Option.some_get sigA_some).symm
theorem sigA_args (a b : Value) : Bind.checkArgs "list.append" { sigA with full := toString (Bind.lastOf "list") ++ toString "." ++ toString (Bind.lastOf "list.append") } ⟨[a, b], []⟩ = pure () := by unfold sigA; kernel_rfl
theorem kind_append : builtinKind "list.append" = some .method := by decide +kernel
theorem var_append : Manifest.varargsMethods.contains "list.append" = false := by decide +kernel
theorem sub_list_module : isSubtype (.type "list") (.type "module") = pure false := by rw [isSubtype_type]; kernel_rfl
end
section
variable {M : Model} {A : Around} {E : Value → Shared → Prop} {s : Shared} {x b : Addr} {v : Value} {items : Array Value} {n : Nat}
theorem check_append {Q : Unit → Shared → Prop} (ho : s.heap.get? x = some (listOf items n)) (h : Q () s) : wpAny M A (checkBoundCall "list.append" ⟨[.ref x, v], []⟩) Q E s := by
  have L0 : Looks M s.heap (typeOf (.ref x)) (.type "list") := (Looks.ld ho).andThen .now
  unfold checkBoundCall
  rw [sigA_eq, kind_append]
  refine if_not (by decide) ?_
  refine wpAny_bind (m := isInstance (.ref x) (.type "module")) ?_
  unfold isInstance
  refine wpAny_bind (L0.here ?_)
  rw [sub_list_module]
  refine wpAny_pure ?_
  rw [var_append]
  refine if_not (by decide) ?_
  refine wpAny_bind (m := isType (.ref x)) ?_
  refine wpAny_bind (m := loadHead x) (wpAny_loadPart ho ?_)
  refine wpAny_pure ?_
  refine if_not rfl ?_
  refine wpAny_bind (L0.here ?_)
  refine wpAny_of_eq (sigA_args (.ref x) v) ?_
  exact h
theorem call_bound {Q : Value → Shared → Prop} {prog : Program} {w : World} (hb : s.heap.get? b = some (boundObj x)) (ho : s.heap.get? x = some (listOf items n)) (hz : items.size ≤ sizeLine)
    (q : ∀ h', Heap.SameBut x s.heap h' → h'.get? x = some (listOf (items.push v) (n + 1)) → Q .none { s with heap := h' }) : wpAny (model prog w) A (call (.ref b) [v]) Q E s := by
  refine wpAny_call (codeAny_of_tree ?_)
  show wpAny _ A.in1 (callAny (.ref b) ⟨[v], []⟩) _ _ s
  simp only [callAny]
  refine wpAny_bind (wpAny_load hb ?_)
  simp only [show (Value.type "builtin_function_or_method" == Value.type "method" || Value.type "builtin_function_or_method" == Value.type "builtin_function_or_method" || Value.type "builtin_function_or_method" == Value.type "method-wrapper") = true by decide, if_true]
  refine if_so (by decide) ?_
  refine wpAny_bind (check_append ho ?_)
  refine wpAny_bind (wpAny_pure (wpAny_pure ?_))
  refine ⟨Code.quiet_builtin _ (by decide +kernel), codeAny_builtin entry_list_append ?_⟩
  show wpAny _ _ (updateSeq x (·.push v) >>= fun _ => ret .none) _ _ s
  refine wpAny_bind ?_
  have hz' : (items.push v).size ≤ sizeLine + 1 := by rw [Array.size_push]; omega
  refine wpAny_updateSeq (hz := hz) (_hz' := hz') ho rfl ?_
  refine wpAny_pure (q _ (Heap.SameBut.update ..) ?_)
  rw [Heap.get?_update_self _ ho (by rw [mapSeq_push]; rfl), mapSeq_push]
end

def BoundAt (u x : Addr) (h : Heap) : Prop := h.get? u = some (boundObj x)
section
variable {M : Model} {prog : Program} {w : World} {A : Around} {E : Value → Shared → Prop} {s : Shared} {x b : Addr} {v : Value} {items : Array Value} {n : Nat}
theorem callWith_boundA {pos : Pos} {u : Addr} {first : List Value} {args : List (Bool × Sem Value)} {Q : Value → Shared → Prop} (hplain : args.any (·.1) = false)
    (h : wpAny M A (evalArgs (.ref u) true args []) (fun y s₁ => BoundAt u x s₁.heap ∧ wpAny M A (call (.ref u) (first ++ y.pos) y.kw) Q E s₁) E s) : wpAny M A (callWith pos (.ref u) first args []) Q E s := by
  unfold callWith
  refine wpAny_bind (wpAny_holding (wpAny_mono h (fun x s₁ h₁ => wpAny_bind (wpAny_standAt ?_)) fun _ _ x => x))
  obtain ⟨ho, hcall⟩ := h₁
  simp only [hplain, List.any_nil, Bool.or_false]
  refine wpAny_bind (m := keeperOf (.ref u)) ?_
  unfold keeperOf
  refine wpAny_bind (wpAny_load ho ?_)
  simp only [show (Value.type "builtin_function_or_method" != Value.type "method") = true by decide, show (Value.type "builtin_function_or_method" == Value.type "builtin_function_or_method" || Value.type "builtin_function_or_method" == Value.type "method-wrapper") = true by decide, if_true]
  refine wpAny_pure ?_
  exact wpAny_bind (wpAny_mono hcall (fun r s₂ hr => wpAny_bind (wpAny_holding (wpAny_point (wpAny_pure hr)))) fun _ _ x => x)
theorem callWith_boundB {pos : Pos} {u : Addr} {first : List Value} {env : Env} {e : Expr} {rest : List Expr} {Q : Value → Shared → Prop} (x : Addr)
    (h : wpAny M A (spliced (backTo pos (starEach (e :: rest) env))) (fun vs s₁ => BoundAt u x s₁.heap ∧ wpAny M A (call (.ref u) (first ++ vs)) Q E s₁) E s)
    (he : starEach (e :: rest) env = (false, eval e env) :: starEach rest env := by rfl) (hplain : (backTo pos (starEach rest env)).any (·.1) = false := by rfl) :
    wpAny M A (callWith pos (.ref u) first (backTo pos (starEach (e :: rest) env)) []) Q E s := by
  rw [he] at h ⊢
  refine callWith_boundA (x := x) (by show (false || (backTo pos (starEach rest env)).any (·.1)) = false; rw [hplain]; rfl) ?_
  exact evalArgs_plain h
theorem get_append {expr : Bool} {Q : Value → Shared → Prop} (KX : (Mine.hx.heap_39 w.params).In s.heap) (ho : s.heap.get? x = some (listOf items n)) (hh : A.handled = none) (hd : A.depth ≤ 600) (hu : A.units ≤ 6000)
    (q : ∀ b h' tk, Keeps s.heap h' → s.heap.get? b = none → h'.get? b = some (boundObj x) → Q (.ref b) { s with heap := h', toks := tk }) :
    wpAny (model Challenge.rw_bn5012_01.prog w) A (getAttr (.ref x) (Str.ofString "append") expr) Q E s := by
  obtain ⟨h, g, d, t, os⟩ := s
  have L0 : Looks (model Challenge.rw_bn5012_01.prog w) h (typeOf (.ref x)) (.type "list") := (Looks.ld ho).andThen .now
  unfold getAttr getAttrBy
  refine wpAny_bind (wpAny_mkText (wpAny_holding (wpAny_bind (L0.at ?_))))
  rw [PySem.F.slot_list_getattribute.lookup]
  refine wpAny_bind (wpAny_pure ?_)
  show wpAny _ _ (getAttrByItsOwn _ _ _ _ _ _) _ _ _
  unfold getAttrByItsOwn
  refine wpAny_bind (m := hookBefore (.type "list")) (wpAny_pure ?_)
  refine wpAny_bind (wpAny_attempt (wpAny_holding ?_))
  unfold callGetattribute
  rw [show (expr && onTheHeap (Value.builtin "list.__getattribute__")) = false from Bool.and_false _, if_neg (by decide)]
  unfold boundAndCalled
  rw [PySem.F.slot_list_getattribute.bind]
  refine wpAny_bind (wpAny_pure ?_)
  show wpAny _ _ (call (.builtin "list.__getattribute__") [.ref x, .str _ t]) _ _ _
  refine wp_X hh hd hu (wpAny_mono (bound_append0 w h g d (t + 1) t os x items n ho KX) (fun v s' z => ?_) fun _ _ z => z)
  obtain ⟨b, h', tk, news, rfl, rfl, D, hm⟩ := z
  exact handed_on rfl (q b h' tk (keeps_of_mem D) (D.nw _ hm).2 (D.nw _ hm).1)
end
end Mine
end

section
open PySem PySem.W PyProof.Rows PySem.Calls
set_option Elab.async false
namespace Mine
abbrev A1 : Around := { handled := none, depth := 450, frames := none, guards := none, units := 4500 }
/-- what a key of a path may be -/
def KeyV : Value → Prop
  | .int _ t => t ≠ 0
  | .str _ t => t ≠ 0
  | _ => False
def NameV : Value → Prop
  | .none => True
  | .str _ t => t ≠ 0
  | _ => False
theorem KeyV.handed {v : Value} (h : KeyV v) : handedIn v = true := by cases v <;> first | rfl | cases h
theorem NameV.handed {v : Value} (h : NameV v) : handedIn v = true := by cases v <;> first | rfl | cases h
/-- a chain of paths: its keys and names, the newest first -/
inductive Chain (h : Heap) : Value → List (Value × Value) → Prop
  | nil : Chain h .none []
  | cons {a : Addr} {p k n : Value} {l : List (Value × Value)} : PathAt h a p k n → KeyV k → NameV n → Chain h p l → Chain h (.ref a) ((k, n) :: l)
theorem Chain.keeps {h h' : Heap} {v : Value} {l : List (Value × Value)} (c : Chain h v l) (x : Keeps h h') : Chain h' v l := by
  induction c with
  | nil => exact .nil
  | cons P hk hn _ ih => exact .cons (P.keeps x) hk hn ih
theorem Chain.handed {h : Heap} {v : Value} {l : List (Value × Value)} (c : Chain h v l) : handedIn v = true := by cases c <;> rfl
section
variable {prog : Program} {w : World} {A : Around} {E : Value → Shared → Prop} {Q : Flow → Shared → Prop} {s : Shared} {env : Env} {h₀ : Heap} {L b l : Addr}
abbrev ledgerC (b l : Addr) (done : List Value) (ep : Nat) : List (Addr × Obj) := [(b, boundObj l), (l, W.listOf done.toArray ep)]
def ChainEnd (h₀ : Heap) (L : Addr) (s : Shared) (b l : Addr) (m₀ : Str → Option Value) (done : List Value) (p : Value) (s₂ : Shared) : Prop :=
  ∃ h' tk m' ep', s₂ = { s with heap := h', toks := tk } ∧ Fr h₀ L h' m' ∧ News h₀ L h' (ledgerC b l done ep') ∧ m' (Str.ofString "curr") = some p ∧ ∀ x, x ≠ Str.ofString "curr" → m' x = m₀ x
def ChainPost (h₀ : Heap) (L : Addr) (s : Shared) (b l : Addr) (m₀ : Str → Option Value) (Q : Flow → Shared → Prop) (done : List Value) (p : Value) (f : Flow) (s₂ : Shared) : Prop :=
  match f with
  | .ret v => Q (.ret v) s₂
  | .brk => Q .next s₂
  | _ => ChainEnd h₀ L s b l m₀ done p s₂
theorem ChainEnd.intro {m₀ m' : Str → Option Value} {done : List Value} {its : Array Value} {p : Value} {h' : Heap} {tk ep : Nat} (F : Fr h₀ L h' m') (N : News h₀ L h' [(b, boundObj l), (l, W.listOf its ep)]) (hi : its = done.toArray) (hv : m' (Str.ofString "curr") = some p) (hm : ∀ x, x ≠ Str.ofString "curr" → m' x = m₀ x) :
    ChainEnd h₀ L s b l m₀ done p { s with heap := h', toks := tk } := ⟨h', tk, m', ep, rfl, F, by subst hi; exact N, hv, hm⟩
theorem while_chain {test : Expr} {body : List Stmt} {pos : Pos} {m₀ : Str → Option Value} {v₀ : Value} {all : List (Value × Value)} {its : Array Value} {ep₀ : Nat}
    (F : Fr h₀ L s.heap m₀) (N : News h₀ L s.heap [(b, boundObj l), (l, W.listOf its ep₀)]) (hi : its = #[]) (hy : m₀ (Str.ofString "curr") = some v₀) (hc : Chain h₀ v₀ all)
    (turn : ∀ a k n p (rest : List (Value × Value)) (done : List Value) ep h tk, PathAt h₀ a p k n → handedIn k = true → handedIn p = true → done.length ≤ all.length → Fr h₀ L h (fun x => if x = Str.ofString "curr" then some (.ref a) else m₀ x) → News h₀ L h (ledgerC b l done ep) →
      wpAny (model prog w) A (isTrue test env (eval test env)) (fun t s₂ =>
        if t = true then wpAny (model prog w) A (execs body env) (ChainPost h₀ L s b l m₀ Q (done ++ [k]) p) E s₂ else Q .next s₂) E { s with heap := h, toks := tk })
    (last : ∀ ep h tk (B : Shared → Prop), Fr h₀ L h (fun x => if x = Str.ofString "curr" then some .none else m₀ x) → News h₀ L h (ledgerC b l (all.map (·.1)) ep) →
      wpAny (model prog w) A (isTrue test env (eval test env)) (fun t s₂ =>
        if t = true then B s₂ else Q .next s₂) E { s with heap := h, toks := tk })
    (hE : PassesOwn (model prog w) A env E := by passes_own) :
    wpAny (model prog w) A (exec (.While test body [] pos) env) Q E s := by
  subst hi
  refine While_inv2 (fun n m nx => ∃ (cur : Value) (rest : List (Value × Value)) (done : List Value) (ep : Nat), rest.length = n ∧ nx = ledgerC b l done ep ∧ m (Str.ofString "curr") = some cur ∧ Chain h₀ cur rest ∧ done ++ rest.map (·.1) = all.map (·.1) ∧ ∀ x, x ≠ Str.ofString "curr" → m x = m₀ x)
    F N ⟨v₀, all, [], ep₀, rfl, rfl, hy, hc, rfl, fun _ _ => rfl⟩ ?_ hE
  rintro n m₁ nx h tk F₁ N₁ ⟨cur, rest, done, ep, hn, rfl, hcur, C, hall, hm⟩
  have e : (fun x => if x = Str.ofString "curr" then some cur else m₀ x) = m₁ := by
    funext x
    by_cases h1 : x = Str.ofString "curr"
    · subst h1; simp [hcur]
    · simp only [if_neg h1]; exact (hm x h1).symm
  rw [← e] at F₁
  cases C with
  | nil =>
    rw [List.map_nil, List.append_nil] at hall
    subst hall
    exact last ep h tk _ F₁ N₁
  | @cons a p k nm rest' P hk hnm C' =>
    have hlen : done.length ≤ all.length := by
      have := congrArg List.length hall
      simp only [List.length_append, List.length_map] at this
      omega
    refine wpAny_mono (turn a k nm p rest' done ep h tk P hk.handed C'.handed hlen F₁ N₁) (fun t s₂ q => ?_) fun _ _ x => x
    cases t with
    | false => simpa using q
    | true =>
      simp only [if_true] at q ⊢
      refine wpAny_mono q (fun f s₃ z => ?_) fun _ _ x => x
      have fin : ChainEnd h₀ L s b l m₀ (done ++ [k]) p s₃ → ∃ h' tk m₂ news₂ n', s₃ = { s with heap := h', toks := tk } ∧ Fr h₀ L h' m₂ ∧ News h₀ L h' news₂ ∧ n' < n ∧
          ∃ (cur : Value) (rest : List (Value × Value)) (done : List Value) (ep : Nat), rest.length = n' ∧ news₂ = ledgerC b l done ep ∧ m₂ (Str.ofString "curr") = some cur ∧ Chain h₀ cur rest ∧ done ++ rest.map (·.1) = all.map (·.1) ∧ ∀ x, x ≠ Str.ofString "curr" → m₂ x = m₀ x := by
        rintro ⟨h', tk', m', ep', rfl, F', N', hv, hm'⟩
        refine ⟨h', tk', m', _, rest'.length, rfl, F', N', ?_, p, rest', done ++ [k], ep', rfl, rfl, hv, C', ?_, hm'⟩
        · rw [← hn]; exact Nat.lt_succ_self _
        · rw [List.append_assoc]; exact hall
      cases f with
      | ret v => exact z
      | brk => exact z
      | next => exact fin z
      | cont => exact fin z
end
end Mine
end

section
open PySem PySem.W PyProof.Rows PySem.Calls
set_option Elab.async false
namespace Mine
section
variable {w : World} {A : Around} {E : Value → Shared → Prop} {s : Shared} {h₀ : Heap} {L a x b : Addr} {m mg mb : Str → Option Value} {news news' : List (Addr × Obj)} {p : Program} {loose : List Str} {pv kv nv v : Value} {Q : Value → Shared → Prop} {expr : Bool} {its : Array Value} {n : Nat}
theorem le_line {l : List Value} {k : Nat} (h1 : l.length ≤ k) (h2 : k ≤ 100) : l.toArray.size ≤ sizeLine := by
  rw [List.size_toArray, sizeLine_eq]; exact Nat.le_trans h1 (Nat.le_trans h2 (by decide))
theorem get_append_line (F : Fr h₀ L s.heap m) (N : News h₀ L s.heap news) (X : (Mine.hx.heap_39 w.params).In h₀) (hm : (x, W.listOf its n) ∈ news) (hh : A.handled = none) (hd : A.depth ≤ 600) (hu : A.units ≤ 6000)
    (q : ∀ b h' tk, Fr h₀ L h' m → News h₀ L h' ((b, boundObj x) :: news) → (∀ p ∈ news, @Ne Nat p.1 b) → Q (.ref b) { s with heap := h', toks := tk }) :
    wpAny (model Challenge.rw_bn5012_01.prog w) A (getAttr (.ref x) (Str.ofString "append") expr) Q E s :=
  get_append (X.keeps F.keep) (N _ hm).1 hh hd hu fun b h' tk k hb hb' => q b h' tk (F.grownK k) (News.cons_new F (N.grown k) hb hb') fun p hp e => by
    have := (N p hp).1; rw [e, hb] at this; cases this
theorem get_key_line (F : Fr h₀ L s.heap m) (N : News h₀ L s.heap news) (X : (Mine.hx.heap_39 w.params).In h₀) (T : TopRead p loose mg mb h₀) (P : PathAt h₀ a pv kv nv) (hv : handedIn kv = true) (hh : A.handled = none) (hd : A.depth ≤ 500) (hu : A.units ≤ 4999)
    (q : ∀ h' tk, Fr h₀ L h' m → News h₀ L h' news → Q kv { s with heap := h', toks := tk }) :
    wpAny (model Challenge.rw_bn5012_01.prog w) A (getAttr (.ref a) (Str.ofString "key") expr) Q E s :=
  get_key (X.keeps F.keep) (T.keeps F.keep) (P.keeps F.keep) hv hh hd hu fun h' tk k => q h' tk (F.grownK k) (N.grown k)
theorem get_prev_line (F : Fr h₀ L s.heap m) (N : News h₀ L s.heap news) (X : (Mine.hx.heap_39 w.params).In h₀) (T : TopRead p loose mg mb h₀) (P : PathAt h₀ a pv kv nv) (hv : handedIn pv = true) (hh : A.handled = none) (hd : A.depth ≤ 500) (hu : A.units ≤ 4999)
    (q : ∀ h' tk, Fr h₀ L h' m → News h₀ L h' news → Q pv { s with heap := h', toks := tk }) :
    wpAny (model Challenge.rw_bn5012_01.prog w) A (getAttr (.ref a) (Str.ofString "prev") expr) Q E s :=
  get_prev (X.keeps F.keep) (T.keeps F.keep) (P.keeps F.keep) hv hh hd hu fun h' tk k => q h' tk (F.grownK k) (N.grown k)
theorem truthy_line {Q : Bool → Shared → Prop} (F : Fr h₀ L s.heap m) (N : News h₀ L s.heap news) (X : (Mine.hx.heap_39 w.params).In h₀) (P : PathAt h₀ a pv kv nv) (hh : A.handled = none) (hd : A.depth ≤ 600) (hu : A.units ≤ 6000)
    (q : ∀ h' tk, Fr h₀ L h' m → News h₀ L h' news → Q true { s with heap := h', toks := tk }) :
    wpAny (model Challenge.rw_bn5012_01.prog w) A (truthy (.ref a)) Q E s :=
  truthy_path (X.keeps F.keep) (P.keeps F.keep) hh hd hu fun h' tk k => q h' tk (F.grownK k) (N.grown k)
theorem callWith_line {M : Model} {pos : Pos} {u : Addr} {first : List Value} {env : Env} {e : PySem.Expr} {rest : List PySem.Expr} (_N : News h₀ L s.heap news) (_hm : (u, boundObj x) ∈ news)
    (h : wpAny M A (spliced (backTo pos (starEach (e :: rest) env))) (fun vs s₁ => BoundAt u x s₁.heap ∧ wpAny M A (call (.ref u) (first ++ vs)) Q E s₁) E s)
    (he : starEach (e :: rest) env = (false, eval e env) :: starEach rest env := by rfl) (hplain : (backTo pos (starEach rest env)).any (·.1) = false := by rfl) :
    wpAny M A (callWith pos (.ref u) first (backTo pos (starEach (e :: rest) env)) []) Q E s := callWith_boundB x h he hplain
theorem boundAt_of {h : Heap} (N : News h₀ L h news) (hm : (b, boundObj x) ∈ news) : BoundAt b x h := (N _ hm).1
theorem call_bound_line {prog : Program} (F : Fr h₀ L s.heap m) (N : News h₀ L s.heap news) (hm : (b, boundObj x) ∈ news) (U : Upd x (W.listOf its n) (W.listOf (its.push v) (n + 1)) news news') (hz : its.size ≤ sizeLine)
    (q : ∀ h', Fr h₀ L h' m → News h₀ L h' news' → Q .none { s with heap := h' }) : wpAny (model prog w) A (call (.ref b) [v]) Q E s := by
  obtain ⟨pre, post, rfl, rfl, h1, h2⟩ := U.split
  have z := N (x, W.listOf its n) (List.mem_append.mpr (.inr (.head _)))
  exact call_bound (N _ hm).1 z.1 hz fun h' hs ho' => q h' (F.change hs z.2.1 z.2.2) (news_set N h1 h2 hs ho')
end
local macro_rules | `(tactic| walk_at "getAttr ref") => `(tactic| (k_here; (with_reducible show wpAny _ _ (getAttr (Value.ref _) (Str.ofString "append") _) _ _ _); k_dflt (refine' get_append_line ?k1 ?k2 ?k3 ?k7 ?k4 ?k5 ?k6 ?_; (case k1 => k_asm); (case k2 => k_asm); (case k3 => k_asm); (case k7 => k_mem); (case k4 => rfl); (case k5 => exact Nat.le_of_ble_eq_true rfl); (case k6 => exact Nat.le_of_ble_eq_true rfl); k_whole); intro b' h' tk' F' N' l1'; (simp only [List.forall_mem_cons, List.not_mem_nil, false_imp_iff, implies_true, and_true] at l1'); (try k_sweep)))
local macro_rules | `(tactic| walk_at "getAttr ref") => `(tactic| (k_here; (with_reducible show wpAny _ _ (getAttr (Value.ref _) (Str.ofString "key") _) _ _ _); k_dflt (refine' get_key_line ?k1 ?k2 ?k3 ?k7 ?k8 ?k9 ?k4 ?k5 ?k6 ?_; (case k1 => k_asm); (case k2 => k_asm); (case k3 => k_asm); (case k7 => k_asm); (case k8 => k_asm); (case k9 => k_asm); (case k4 => rfl); (case k5 => exact Nat.le_of_ble_eq_true rfl); (case k6 => exact Nat.le_of_ble_eq_true rfl); k_whole); intro h' tk' F' N'; (try k_sweep)))
local macro_rules | `(tactic| walk_at "getAttr ref") => `(tactic| (k_here; (with_reducible show wpAny _ _ (getAttr (Value.ref _) (Str.ofString "prev") _) _ _ _); k_dflt (refine' get_prev_line ?k1 ?k2 ?k3 ?k7 ?k8 ?k9 ?k4 ?k5 ?k6 ?_; (case k1 => k_asm); (case k2 => k_asm); (case k3 => k_asm); (case k7 => k_asm); (case k8 => k_asm); (case k9 => k_asm); (case k4 => rfl); (case k5 => exact Nat.le_of_ble_eq_true rfl); (case k6 => exact Nat.le_of_ble_eq_true rfl); k_whole); intro h' tk' F' N'; (try k_sweep)))
local macro_rules | `(tactic| walk_at "truthy ref") => `(tactic| (k_here; (with_reducible show wpAny _ _ (truthy (Value.ref _)) _ _ _); k_dflt (refine' truthy_line ?k1 ?k2 ?k3 ?k8 ?k4 ?k5 ?k6 ?_; (case k1 => k_asm); (case k2 => k_asm); (case k3 => k_asm); (case k8 => k_asm); (case k4 => rfl); (case k5 => exact Nat.le_of_ble_eq_true rfl); (case k6 => exact Nat.le_of_ble_eq_true rfl); k_whole); intro h' tk' F' N'; (try k_sweep)))
local macro_rules | `(tactic| walk_at "callWith ref") => `(tactic| (k_here; k_dflt (refine' callWith_line ?k1 ?k2 ?_; (case k1 => k_asm); (case k2 => k_mem); k_whole)))
local macro_rules | `(tactic| walk_at "And") => `(tactic| ((with_reducible show BoundAt _ _ _ ∧ _); k_dflt (refine' And.intro (boundAt_of ?k1 ?k2) ?_; (case k1 => k_asm); (case k2 => k_mem)); (try dsimp only [List.nil_append, List.cons_append])))
local macro_rules | `(tactic| walk_at "call ref") => `(tactic| (k_here; (with_reducible show wpAny _ _ (call (Value.ref _) [_]) _ _ _); k_dflt (refine' call_bound_line ?k1 ?k2 ?k3 ?k4 ?k5 ?_; (case k1 => k_asm); (case k2 => k_asm); (case k3 => k_mem); (case k4 => k_upd); (case k5 => exact le_line (by assumption) (by assumption)); k_whole); intro h' F' N'; (try k_sweep)))
local macro_rules | `(tactic| walk_at "ChainPost") => `(tactic| (dsimp only [ChainPost]))
local macro_rules | `(tactic| walk_at "ChainEnd") => `(tactic| (refine ChainEnd.intro (by assumption) (by assumption) (by simp) (by with_unfolding_all rfl) (by (intro z h1; simp [h1]))))
local macro_rules | `(tactic| walk_at "exec While") => `(tactic| (k_here; (with_reducible rename Fr _ _ _ _ => lF'); (rename News _ _ _ _ => lN'); k_dflt (refine' while_chain lF' lN' ?k1 ?k2 ?k3 (fun a' k' n' p' r' d' ep' h' tk' P' hk' hp' hl' F' N' => ?t1) (fun ep' h' tk' B' F' N' => ?t2)); (case k1 => rfl); (case k2 => rfl); (case k3 => k_asm); (all_goals clear lF' lN'); (all_goals (try k_fold))))
set_option pp.deepTerms false in
set_option pp.deepTerms.threshold 6 in
set_option maxRecDepth 100000 in
set_option maxHeartbeats 4000000 in
theorem as_list0 (w : World) (s : Shared) (p : Program) (loose : List Str) (mg mb : Str → Option Value) (Q : Value → Shared → Prop)
    (KX : (Mine.hx.heap_39 w.params).In s.heap) (T : TopRead p loose mg mb s.heap) {a : Addr} {all : List (Value × Value)} (hC : Chain s.heap (.ref a) all) (hlen : all.length ≤ 100)
    (q : ∀ r h' tk, Keeps s.heap h' → s.heap.get? r = none → h'.get? r = some (W.listOf (all.map (·.1)).reverse.toArray 0) → Q (.ref r) { s with heap := h', toks := tk }) :
    wpAny (model Challenge.rw_bn5012_01.prog w) A1 (call (.ref 87) [.ref a]) Q (fun _ _ => False) s := by
  revert KX; k_fill; intro KX
  w_on
  refine wpAny_call ?_
  refine' enterM (K := Mine.hx.heap_39 w.params) (f := 87) KX T.nolimit ?ho ?hcd ?hroom ?hbind ?hloc ?h ?hco ?hgen ?hk ?hcell
  case ho => k_is
  case hcd => k_is
  case hroom => decide
  case hbind => first | exact BindsTo.of_eq rfl | exact binds_K (by k_in) rfl (by k_is) rfl rfl rfl
  case hloc => exact locs rfl
  case hco => rfl
  case hgen => rfl
  case hk => rfl
  case hcell => decide
  intro L h₁ F N X
  try k_fold
  k_steps
  all_goals (rename News _ _ _ _ => NN; rename Fr _ _ _ _ => FF; have z := NN _ (List.Mem.head _); exact q _ _ _ FF.keep z.2.2 (by rw [z.1, krv_pick]))
end Mine
end

section
open PySem PySem.W PyProof.Rows PySem.Calls
set_option Elab.async false
namespace Mine
section
variable {prog : Program} {w : World} {M : Model} {A : Around} {E : Value → Shared → Prop} {s : Shared} {l : Addr} {items : List Value} {Q : Value → Shared → Prop} {k : Int} {u : Tok} {v : Value} {value slice : PySem.Expr}
theorem len_line (hl : s.heap.IsList l items.toArray) (hz : items.length ≤ 100) (q : ∀ tk tk', Q (.int (items.length : Int) tk) { s with toks := tk' }) : wpAny (model prog w) A (call (.builtin "len") [.ref l]) Q E s :=
  call_len_list hl (by rw [List.size_toArray]; omega) (by rw [List.size_toArray]; exact q _ _)
theorem item_line (hl : s.heap.IsList l items.toArray) (h0 : 0 ≤ k) (hk : k < (items.length : Int)) (hz : items.length ≤ 100) (q : Q (items.getD k.toNat .none) s)
    (hs : subscripted slice false (.ref l) (.int k u) = operate [.ref l, .int k u] (getItem (.ref l) (.int k u)) := by with_unfolding_all rfl) :
    wpAny (model prog w) A (subscriptTail value slice (.ref l) (.int k u)) Q E s := by
  have hlt : k.toNat < items.length := by omega
  refine tail_any hl.typeIs slot_list_getitem.lookup (wpAny_getItem_list hl h0 (by omega) (x := items.getD k.toNat .none) ?_ q) hs
  simp [List.getD, hlt]
theorem created_self {R : Bool → Shared → Prop} {t : Tok} {e : Bool} (ht : t ≠ 0) (q : R true s) : wpAny M A (isSame.created e t t) R E s := by
  unfold isSame.created
  have h0 : ¬ (t == 0 || t == 0) = true := by simp [ht]
  dsimp only
  rw [if_neg h0, if_pos (beq_self_eq_true t)]
  exact wpAny_pure q
theorem isSame_key {R : Bool → Shared → Prop} (hv : KeyV v) (q : R true s) : wpAny M A (isSame v v) R E s := by
  cases v <;> first | exact hv.elim | skip
  · rename_i i t
    have ht : t ≠ 0 := hv
    simp only [isSame]
    split
    · unfold isSame.cachedInt
      rw [if_neg (by simp [ht])]
      exact wpAny_bind (wpAny_rule (wpAny_pure q))
    · exact created_self ht q
  · rename_i i t
    have ht : t ≠ 0 := hv
    simp only [isSame]
    exact created_self ht q
theorem hv_get {vs : List Value} (hv : ∀ v ∈ vs, KeyV v) (h0 : 0 ≤ k) (hk : k < (vs.length : Int)) : KeyV (vs.getD k.toNat .none) := by
  have hlt : k.toNat < vs.length := by omega
  have : vs.getD k.toNat .none = vs[k.toNat] := by simp [List.getD, hlt]
  rw [this]; exact hv _ (List.getElem_mem hlt)
theorem foldl_keep {α β : Type} (a : α) : ∀ l : List β, l.foldl (fun a _ => a) a = a
  | [] => rfl
  | _ :: l => foldl_keep a l
theorem isNot_key (hv : KeyV v) (q : Q (.bool false) s) : wpAny M A (compareOp .IsNot v v) Q E s := by
  show wpAny M A (do return .bool (!(← isSame v v))) Q E s
  exact wpAny_bind (isSame_key hv (wpAny_pure q))
end
end Mine
end

section
open PySem PySem.W PyProof.Rows PySem.Calls
set_option Elab.async false
namespace Mine
local macro_rules | `(tactic| walk_at "call builtin:len") => `(tactic| (k_here; (with_reducible show wpAny _ _ (call (Value.builtin "len") [Value.ref _]) _ _ _); k_dflt (refine' len_line ?k1 ?k2 ?_; (case k1 => is_list); (case k2 => assumption); k_whole); intro tk' tk''))
local macro_rules | `(tactic| walk_at "subscriptTail") => `(tactic| (k_here; (with_reducible show wpAny _ _ (subscriptTail _ _ (Value.ref _) (Value.int _ _)) _ _ _); k_dflt (refine' item_line ?k1 ?k2 ?k3 ?k4 ?_ ?k6; (case k1 => is_list); (case k4 => assumption); (case k2 => omega); (case k3 => omega); (case k6 => with_unfolding_all rfl); k_whole)))
local macro_rules | `(tactic| walk_at "compareOp IsNot") => `(tactic| (k_here; k_dflt (refine' isNot_key ?k1 ?_; (case k1 => exact hv_get (by assumption) (by omega) (by omega)); k_whole)))
set_option pp.deepTerms false in
set_option pp.deepTerms.threshold 6 in
set_option maxRecDepth 100000 in
set_option maxHeartbeats 4000000 in
theorem alike0 (w : World) (s : Shared) (p : Program) (loose : List Str) (mg mb : Str → Option Value) (Q : Value → Shared → Prop)
    (KX : (Mine.hx.heap_39 w.params).In s.heap) (T : TopRead p loose mg mb s.heap) {a b : Addr} {vs : List Value} (h1 : s.heap.IsList a vs.toArray) (h2 : s.heap.IsList b vs.toArray) (hv : ∀ v ∈ vs, KeyV v) (hlen : vs.length ≤ 100)
    (q : ∀ h' tk, Keeps s.heap h' → Q (.bool true) { s with heap := h', toks := tk }) :
    wpAny (model Challenge.rw_bn5012_01.prog w) A1 (call (.ref 159) [.ref a, .ref b]) Q (fun _ _ => False) s := by
  revert KX; k_fill; intro KX
  w_on
  refine wpAny_call ?_
  refine' enterC (K := Mine.hx.heap_39 w.params) (f := 159) KX T.nolimit ?ho ?hcd ?hroom ?hbind ?hkind ?hnd ?h ?hco ?hgen ?hk
  case ho => k_is
  case hcd => k_is
  case hroom => decide
  case hbind => first | exact BindsTo.of_eq rfl | exact binds_K (by k_in) rfl (by k_is) rfl rfl rfl
  case hkind => exact rfl
  case hnd => decide +kernel
  case hco => rfl
  case hgen => rfl
  case hk => rfl
  intro L h₁ tk' cells F N Y X
  k_cells Y
  (try simp only [List.cons_append, List.nil_append] at N)
  (try dsimp only)
  try k_fold
  k_steps
  all_goals (try rename Fr _ _ _ _ => FF)
  all_goals first | (rw [beq_self_eq_true]; exact q _ _ FF.keep) | (rw [foldl_keep]; exact q _ _ FF.keep)
end Mine
end

section
open PySem PySem.W PyProof.Rows PySem.Calls PySem.SeqAt
open AutoSeq1 (wpAny_loadPart')
set_option Elab.async false
namespace Mine
/-- what the comparison of paths asks of the written part -/
structure PathK (K : Frag) : Prop where
  eq : findIn K (.ref 150) "__eq__" = some (some (.builtin "tuple.__eq__"))
  tup : mroIn K 150 (.type "tuple") = some true
  non : mroIn K 150 (.type "NoneType") = some false
set_option maxRecDepth 100000 in
theorem pathK (w : World) : PathK (Mine.hx.heap_39 w.params) := ⟨by kernel_rfl, by kernel_rfl, by kernel_rfl⟩
section
variable {M : Model} {A : Around} {E : Value → Shared → Prop} {s : Shared} {K : Frag} {x y : Addr} {v : Value} {p k n p' k' n' : Value}
theorem path_type {h : Heap} (P : PathAt h x p k n) : Looks M h (typeOf (.ref x)) (.ref 150) := by
  obtain ⟨dd, I⟩ := P.inst
  exact I.type
theorem tryCompare_path {Q : Option Value → Shared → Prop} (X : K.In s.heap) (H : PathK K) (P : PathAt s.heap x p k n)
    (hc : wpAny M A (call (.builtin "tuple.__eq__") [.ref x, v]) (fun v s' => match v with | .notImplemented => Q none s' | v => Q (some v) s') E s) : wpAny M A (tryCompare (.ref x) "__eq__" v) Q E s := by
  simp only [tryCompare, callSpecialIfBound?, bindSpecialIfBound?]
  have fin : wpAny M A (call (.builtin "tuple.__eq__") ([.ref x] ++ [v]) >>= fun v => pure (some v)) (fun a s' => wpAny M A (match a with | some .notImplemented | none => pure none | some v => pure (some v)) Q E s') E s :=
    wpAny_bind (wpAny_mono hc (fun v s' h' => wpAny_pure (by cases v <;> exact wpAny_pure h')) fun _ _ h' => h')
  refine wpAny_bind (wpAny_holding (wpAny_bind (wpAny_bind (wpAny_bind ((path_type P).here ((looks_findIn X H.eq).here ?_))))))
  simp only [PySem.F.slot_tuple_eq.bind]
  refine wpAny_bind (wpAny_askSetting (wpAny_ite ?_))
  split
  · exact wpAny_bind (wpAny_pure (wpAny_pure fin))
  · exact wpAny_tryCatch (wpAny_bind (wpAny_pure (wpAny_pure fin)))
theorem isInst_path {Q : Bool → Shared → Prop} (X : K.In s.heap) (H : PathK K) (P : PathAt s.heap x p k n) (hq : Q true s) : wpAny M A (isInstance (.ref x) (.type "tuple")) Q E s := by
  obtain ⟨dd, ho, _⟩ := P
  exact isInst_own X ho rfl H.tup hq
theorem check_path {prog : Program} {w : World} {R : Result → Shared → Prop} (X : K.In s.heap) (H : PathK K) (P : PathAt s.heap x p k n)
    (h : wpAny (model prog w) A.in1 (Builtin.«tuple.__eq__» ⟨[.ref x, v], []⟩) (fun fin s' => match fin with | .done f => R (.ok f) s' | .again c' => c'.quiet = true ∧ codeAny (model prog w) A c' R s') (fun e s' => R (.error e) s') s) :
    codeAny (model prog w) A (.call (.builtin "tuple.__eq__") ⟨[.ref x, v], []⟩) R s := by
  have e1 : splitId "tuple.__eq__" = some ("tuple", "__eq__") := by decide +kernel
  have e2 : (Manifest.find? "tuple").bind (·.attrs.lookup "__eq__") = some .slot := by decide +kernel
  obtain ⟨dd, ho, _⟩ := P
  refine codeAny_call_builtin PySem.F.slot_tuple_eq.plain PySem.F.entry_tuple_eq ?_
  refine check_own (id := "tuple.__eq__") (owner := "tuple") (n := "__eq__") (a := x) (rest := [v]) (kw := []) (K := K) (C := 150) (o := pathObj (some dd) p k n) e1 e2 (PySem.F.args_tuple_eq_2 _ _) X ho rfl H.tup ?_
  exact h
theorem sub_none_tuple : isSubtype (.type "NoneType") (.type "tuple") = pure false := by rw [isSubtype_type]; kernel_rfl
theorem eq_path_none {prog : Program} {w : World} {Q : Value → Shared → Prop} (X : K.In s.heap) (H : PathK K) (P : PathAt s.heap x p k n) (h : Q .notImplemented s) :
    wpAny (model prog w) A (call (.builtin "tuple.__eq__") [.ref x, .none]) Q E s := by
  refine wpAny_call (check_path X H P ?_)
  obtain ⟨hp, g, d, tk, os⟩ := s
  have f2 := sub_none_tuple
  wp_walk
  exact h
theorem eq_path_path {prog : Program} {w : World} {Q : Value → Shared → Prop} {e0 e1 e2 : Bool} (X : K.In s.heap) (H : PathK K) (P : PathAt s.heap x p k n) (P' : PathAt s.heap y p' k' n')
    (h0 : EqAt A.in1 s p p' e0) (h1 : EqAt A.in1 s k k' e1) (h2 : EqAt A.in1 s n n' e2) (h : Q (.bool (e0 && (e1 && e2))) s) :
    wpAny (model prog w) A (call (.builtin "tuple.__eq__") [.ref x, .ref y]) Q E s := by
  refine wpAny_call (check_path X H P ?_)
  have I2 := fun Q hq => isInst_path (M := model prog w) (A := A.in1) (E := fun e s' => E e s') (Q := Q) X H P' hq
  obtain ⟨d1, ho1, _⟩ := P
  obtain ⟨d2, ho2, _⟩ := P'
  obtain ⟨hp, g, d, tk, os⟩ := s
  wp_walk using wpAny_loadPart' ho1, wpAny_loadPart' ho2
  have L1 := looks_mroIn (M := model prog w) X H.tup
  show wpAny _ _ (isSubtype (.ref 150) (.type "tuple")) _ _ _
  refine L1.at ?_
  wp_walk using wpAny_loadPart' ho1, wpAny_loadPart' ho2, wpAny_forIn_list _ (fun rest b s' => b.1 = none ∧ s' = ⟨hp, g, d, tk, os⟩ ∧ ((rest = [(p, p'), (k, k'), (n, n')]) ∨ (rest = [(k, k'), (n, n')] ∧ e0 = true) ∨ (rest = [(n, n')] ∧ e0 = true ∧ e1 = true) ∨ (rest = [] ∧ e0 = true ∧ e1 = true ∧ e2 = true))) _
  case turn =>
    rintro ⟨a1, a2⟩ rest b s' ⟨hb, rfl, hc⟩
    rcases hc with hc | ⟨hc, he0⟩ | ⟨hc, he0, he1⟩ | ⟨hc, _⟩
    · injection hc with hc1 hc2
      injection hc1 with hc1 hc3
      subst hc1 hc3 hc2
      refine wpAny_bind (h0 prog w _ _ ?_)
      cases e0 with
      | true => wp_walk; exact ⟨rfl, rfl, .inr (.inl ⟨rfl, rfl⟩)⟩
      | false => wp_walk; exact h
    · injection hc with hc1 hc2
      injection hc1 with hc1 hc3
      subst hc1 hc3 hc2 he0
      refine wpAny_bind (h1 prog w _ _ ?_)
      cases e1 with
      | true => wp_walk; exact ⟨rfl, rfl, .inr (.inr (.inl ⟨rfl, rfl, rfl⟩))⟩
      | false => wp_walk; exact h
    · injection hc with hc1 hc2
      injection hc1 with hc1 hc3
      subst hc1 hc3 hc2 he0 he1
      refine wpAny_bind (h2 prog w _ _ ?_)
      cases e2 with
      | true => wp_walk; exact ⟨rfl, rfl, .inr (.inr (.inr ⟨rfl, rfl, rfl, rfl⟩))⟩
      | false => wp_walk; exact h
    · cases hc
  case fin =>
    rintro ⟨b1, b2⟩ s' ⟨hb, rfl, hc⟩
    simp only at hb
    subst hb
    rcases hc with hc | ⟨hc, _⟩ | ⟨hc, _⟩ | ⟨_, rfl, rfl, rfl⟩
    · cases hc
    · cases hc
    · cases hc
    · wp_walk
      exact h
  case h => exact ⟨rfl, rfl, .inl rfl⟩
end
end Mine
end

section
open PySem PySem.W PyProof.Rows PySem.Calls PySem.SeqAt
open AutoSeq1 (wpAny_loadPart')
set_option Elab.async false
namespace Mine
section
variable {A : Around} {s : Shared} {K : Frag} {x y : Addr} {v : Value} {p k n p' k' n' : Value}
theorem rc_path_path {e0 e1 e2 : Bool} (X : K.In s.heap) (H : PathK K) (P : PathAt s.heap x p k n) (P' : PathAt s.heap y p' k' n') (hu : A.units < cLine)
    (h0 : EqAt A.in1 s p p' e0) (h1 : EqAt A.in1 s k k' e1) (h2 : EqAt A.in1 s n n' e2) : RcAt A s (.ref x) (.ref y) (e0 && (e1 && e2)) := fun prog w E Q h => by
  unfold richCompare
  refine wpAny_holding (wpAny_bind (wpAny_cRoomFor_or (.inr hu) ?_))
  show wpAny _ _ (typeOf (.ref x) >>= _) _ _ _
  refine wpAny_bind ((path_type P).here (wpAny_bind ((path_type P').here ?_)))
  simp only [bne_self_eq_false, Bool.false_eq_true, if_false]
  refine wpAny_bind (wpAny_pure ?_)
  refine wpAny_bind (tryCompare_path X H P (eq_path_path X H P P' h0 h1 h2 ?_))
  exact wpAny_pure h
theorem isSub_none_path : isSubtype (.type "NoneType") (.ref 150) = pure false := by
  unfold isSubtype
  kernel_rfl
theorem rc_path_none (X : K.In s.heap) (H : PathK K) (P : PathAt s.heap x p k n) (hu : A.units < cLine) : RcAt A s (.ref x) .none false := fun prog w E Q h => by
  unfold richCompare
  refine wpAny_holding (wpAny_bind (wpAny_cRoomFor_or (.inr hu) ?_))
  show wpAny _ _ (typeOf (.ref x) >>= _) _ _ _
  refine wpAny_bind ((path_type P).here (wpAny_bind (wpAny_of_eq (a := .type "NoneType") rfl ?_)))
  rw [if_pos (show (Value.ref 150 != Value.type "NoneType") = true by decide)]
  refine wpAny_bind (wpAny_of_eq isSub_none_path ?_)
  simp only [Bool.false_eq_true, if_false, Bool.not_false, if_true]
  refine wpAny_bind (tryCompare_path X H P (eq_path_none X H P ?_))
  dsimp only
  refine wpAny_bind (wpAny_tryCompare_declines (s := s) (self := .none) (T := "NoneType") rfl PySem.F.slot_NoneType_eq (call_gives PySem.F.slot_NoneType_eq rfl PySem.F.entry_NoneType_eq (PySem.F.args_NoneType_eq_2 _ _) (NoneType___eq___none_ref_0 x) ⟨rfl, ?_⟩))
  exact wpAny_bind (wpAny_rule (wpAny_bind (wpAny_of_eq (rfl : isSame (.ref x) .none = pure false) (wpAny_pure h))))
theorem rc_none_path (X : K.In s.heap) (H : PathK K) (P : PathAt s.heap x p k n) (hu : A.units < cLine) : RcAt A s .none (.ref x) false := fun prog w E Q h => by
  unfold richCompare
  refine wpAny_holding (wpAny_bind (wpAny_cRoomFor_or (.inr hu) ?_))
  show wpAny _ _ (typeOf .none >>= _) _ _ _
  refine wpAny_bind (wpAny_of_eq (a := .type "NoneType") rfl (wpAny_bind ((path_type P).here ?_)))
  rw [if_pos (show (Value.type "NoneType" != Value.ref 150) = true by decide)]
  refine wpAny_bind ((looks_mroIn X H.non).here ?_)
  simp only [Bool.false_eq_true, if_false, Bool.not_false, if_true]
  refine wpAny_bind (wpAny_tryCompare_declines (s := s) (self := .none) (T := "NoneType") rfl PySem.F.slot_NoneType_eq (call_gives PySem.F.slot_NoneType_eq rfl PySem.F.entry_NoneType_eq (PySem.F.args_NoneType_eq_2 _ _) (NoneType___eq___none_ref_0 x) ⟨rfl, ?_⟩))
  refine wpAny_bind (tryCompare_path X H P (eq_path_none X H P ?_))
  dsimp only
  exact wpAny_bind (wpAny_rule (wpAny_bind (wpAny_of_eq (rfl : isSame .none (.ref x) = pure false) (wpAny_pure h))))
theorem eq_of_rc {v v' : Value} {b : Bool} (hne : v ≠ v') (hf : ∀ a t, v ≠ .float a t) (h : RcAt A s v v' b) : EqAt A s v v' b := fun prog w E Q hq => by
  unfold eqBool
  refine wpAny_holding ?_
  refine wpAny_ite_split (fun hab => absurd (eq_of_beq hab) hne) (fun _ => ?_)
  have z := wpAny_bind (M := model prog w) (f := truthOfDropped) (h prog w E _ (wpAny_truthy_bool hq))
  cases v <;> first | exact z | exact absurd rfl (hf _ _)
/-- what == says of two keys, or of two names -/
def eqV : Value → Value → Bool
  | .none, .none => true
  | .int a _, .int b _ => a == b
  | .str a _, .str b _ => a == b
  | _, _ => false
theorem eq_key {v v' : Value} (h : KeyV v) (h' : KeyV v') : EqAt A s v v' (eqV v v') := by
  cases v <;> first | exact h.elim | skip
  · cases v' <;> first | exact h'.elim | skip
    · exact EqAt.int_int _ _ _ _
    · exact EqAt.int_str _ _ _ _
  · cases v' <;> first | exact h'.elim | skip
    · exact EqAt.str_int _ _ _ _
    · exact EqAt.str_str _ _ _ _
theorem eq_name {v v' : Value} (h : NameV v) (h' : NameV v') : EqAt A s v v' (eqV v v') := by
  cases v <;> first | exact h.elim | skip
  · cases v' <;> first | exact h'.elim | skip
    · exact EqAt.same _
    · exact EqAt.none_str _ _
  · cases v' <;> first | exact h'.elim | skip
    · exact EqAt.str_none _ _
    · exact EqAt.str_str _ _ _ _
/-- what == says of two chains -/
def eqC : List (Value × Value) → List (Value × Value) → Bool
  | [], [] => true
  | (k, n) :: l, (k', n') :: l' => eqC l l' && (eqV k k' && eqV n n')
  | _, _ => false
theorem eqV_key {v : Value} (h : KeyV v) : eqV v v = true := by cases v <;> first | exact h.elim | exact beq_self_eq_true _
theorem eqV_name {v : Value} (h : NameV v) : eqV v v = true := by cases v <;> first | exact h.elim | rfl | exact beq_self_eq_true _
theorem Chain.eqC_self {h : Heap} {v : Value} {l : List (Value × Value)} (c : Chain h v l) : eqC l l = true := by
  induction c with
  | nil => rfl
  | cons _ hk hn _ ih => simp [eqC, ih, eqV_key hk, eqV_name hn]
theorem PathAt.det {h : Heap} (P : PathAt h x p k n) (P' : PathAt h x p' k' n') : p = p' ∧ k = k' ∧ n = n' := by
  obtain ⟨dd, e, _⟩ := P
  obtain ⟨dd', e', _⟩ := P'
  rw [e] at e'
  simp only [Option.some.injEq, Obj.mk.injEq, Data.seq.injEq, Array.mk.injEq, List.cons.injEq, true_and, and_true] at e'
  simpa using e'.2
theorem Chain.det {h : Heap} {v : Value} {l l' : List (Value × Value)} (c : Chain h v l) (c' : Chain h v l') : l = l' := by
  induction c generalizing l' with
  | nil => cases c'; rfl
  | cons P _ _ _ ih =>
    cases c' with
    | cons P' _ _ c2 =>
      obtain ⟨rfl, rfl, rfl⟩ := P.det P'
      rw [ih c2]
theorem chain_eq {h : Heap} {v : Value} {l : List (Value × Value)} (c : Chain h v l) (H : PathK K) : ∀ {v' : Value} {l' : List (Value × Value)} {A : Around} {s : Shared}, s.heap = h → K.In s.heap → Chain h v' l' → A.units + l.length < cLine → EqAt A s v v' (eqC l l') := by
  induction c with
  | nil =>
    intro v' l' A s hs X c' hu
    subst hs
    cases c' with
    | nil => exact EqAt.same _
    | cons P _ _ _ => exact eq_of_rc (by intro e; cases e) (by intro a t e; cases e) (rc_none_path X H P (by omega))
  | @cons a p k n l P hk hn c ih =>
    intro v' l' A s hs X c' hu
    have hu' : A.units < cLine := by omega
    cases c' with
    | nil => subst hs; exact eq_of_rc (by intro e; cases e) (by intro a t e; cases e) (rc_path_none X H P hu')
    | @cons a' p' k' n' l' P' hk' hn' c' =>
      by_cases hab : a = a'
      · subst hab
        obtain ⟨rfl, rfl, rfl⟩ := P.det P'
        have e := c.det c'
        subst e
        have : eqC ((k, n) :: l) ((k, n) :: l) = true := by simp [eqC, c.eqC_self, eqV_key hk, eqV_name hn]
        rw [this]
        exact EqAt.same _
      · have r := ih (A := A.in1) hs X c' (by simp only [List.length_cons] at hu; show A.units + 1 + l.length < cLine; omega)
        subst hs
        exact EqAt.of_refs hab (rc_path_path X H P P' hu' r (eq_key hk hk') (eq_name hn hn'))
end
end Mine
end

section
open PySem PySem.W PyProof.Rows PySem.Calls PySem.SeqAt
set_option Elab.async false
namespace Mine
/-- a key or a name -/
def KN (v : Value) : Prop := KeyV v ∨ NameV v
/-- the value without its mark -/
def nv : Value → Value
  | .int i _ => .int i 0
  | .str s _ => .str s 0
  | v => v
theorem eqV_iff {a b : Value} (ha : KN a) (hb : KN b) : eqV a b = true ↔ nv a = nv b := by
  cases a <;> first | (rcases ha with h | h <;> exact h.elim) | skip
  all_goals (cases b <;> first | (rcases hb with h | h <;> exact h.elim) | skip)
  all_goals simp [eqV, nv]
def eqL : List Value → List Value → Bool
  | [], [] => true
  | a :: l, b :: l' => eqV a b && eqL l l'
  | _, _ => false
theorem eqL_iff : ∀ {l l' : List Value}, (∀ v ∈ l, KN v) → (∀ v ∈ l', KN v) → (eqL l l' = true ↔ l.map nv = l'.map nv)
  | [], [], _, _ => by simp [eqL]
  | [], _ :: _, _, _ => by simp [eqL]
  | _ :: _, [], _, _ => by simp [eqL]
  | a :: l, b :: l', h, h' => by
    have ih := eqL_iff (l := l) (l' := l') (fun v hv => h v (.tail _ hv)) (fun v hv => h' v (.tail _ hv))
    have e := eqV_iff (h a (.head _)) (h' b (.head _))
    simp only [eqL, Bool.and_eq_true, List.map_cons, List.cons.injEq, ih, e]
theorem eqL_length : ∀ {l l' : List Value}, l.length ≠ l'.length → eqL l l' = false
  | [], [], h => absurd rfl h
  | [], _ :: _, _ => rfl
  | _ :: _, [], _ => rfl
  | a :: l, b :: l', h => by
    have := eqL_length (l := l) (l' := l') (by simpa using h)
    simp [eqL, this]
theorem eqC_iff {l l' : List (Value × Value)} : (∀ x ∈ l, KeyV x.1 ∧ NameV x.2) → (∀ x ∈ l', KeyV x.1 ∧ NameV x.2) →
    (eqC l l' = true ↔ l.map (fun x => nv x.1) = l'.map (fun x => nv x.1) ∧ l.map (fun x => nv x.2) = l'.map (fun x => nv x.2)) := by
  induction l generalizing l' with
  | nil => intro _ _; cases l' <;> simp [eqC]
  | cons a l ih =>
    intro h h'
    cases l' with
    | nil => simp [eqC]
    | cons b l' =>
      have i := ih (l' := l') (fun v hv => h v (.tail _ hv)) (fun v hv => h' v (.tail _ hv))
      obtain ⟨k, n⟩ := a
      obtain ⟨k', n'⟩ := b
      have z := h _ (.head _)
      have z' := h' _ (.head _)
      have e1 := eqV_iff (.inl z.1) (.inl z'.1)
      have e2 := eqV_iff (.inr z.2) (.inr z'.2)
      simp only [eqC, Bool.and_eq_true, List.map_cons, List.cons.injEq, i, e1, e2]
      constructor
      · rintro ⟨⟨a, b⟩, c, d⟩; exact ⟨⟨c, a⟩, d, b⟩
      · rintro ⟨⟨a, b⟩, c, d⟩; exact ⟨⟨b, d⟩, a, c⟩
theorem Chain.all {h : Heap} {v : Value} {l : List (Value × Value)} (c : Chain h v l) : ∀ x ∈ l, KeyV x.1 ∧ NameV x.2 := by
  induction c with
  | nil => intro x hx; cases hx
  | cons _ hk hn _ ih =>
    intro x hx
    rcases List.mem_cons.mp hx with rfl | hx
    · exact ⟨hk, hn⟩
    · exact ih x hx
/-- the two sides agree -/
theorem sides {l l' : List (Value × Value)} (h : ∀ x ∈ l, KeyV x.1 ∧ NameV x.2) (h' : ∀ x ∈ l', KeyV x.1 ∧ NameV x.2) :
    eqC l l' = (eqL (l.map (·.1)).reverse (l'.map (·.1)).reverse && eqL (l.map (·.2)).reverse (l'.map (·.2)).reverse) := by
  have k : ∀ {l : List (Value × Value)}, (∀ x ∈ l, KeyV x.1 ∧ NameV x.2) → ∀ v ∈ (l.map (·.1)).reverse, KN v := fun h v hv => by
    obtain ⟨x, hx, rfl⟩ := List.mem_map.mp (List.mem_reverse.mp hv)
    exact .inl (h x hx).1
  have n : ∀ {l : List (Value × Value)}, (∀ x ∈ l, KeyV x.1 ∧ NameV x.2) → ∀ v ∈ (l.map (·.2)).reverse, KN v := fun h v hv => by
    obtain ⟨x, hx, rfl⟩ := List.mem_map.mp (List.mem_reverse.mp hv)
    exact .inr (h x hx).2
  have e0 := eqC_iff h h'
  have e1 := eqL_iff (k h) (k h')
  have e2 := eqL_iff (n h) (n h')
  rw [List.map_reverse, List.map_reverse, List.reverse_inj, List.map_map, List.map_map] at e1 e2
  rw [Bool.eq_iff_iff, Bool.and_eq_true, e0, e1, e2]
  rfl
section
variable {A : Around} {s : Shared} {l b : Addr} {ks ks' : List Value}
theorem range_all : ∀ (ks ks' : List Value), ks.length = ks'.length → (List.range ks.length).all (fun j => eqV (ks.getD j .none) (ks'.getD j .none)) = eqL ks ks'
  | [], [], _ => rfl
  | [], _ :: _, h => by simp at h
  | _ :: _, [], h => by simp at h
  | a :: l, b :: l', h => by
    have ih := range_all l l' (by simpa using h)
    rw [List.length_cons, List.range_succ_eq_map, List.all_cons, List.all_map]
    simp only [eqL, List.getD_cons_zero, ← ih]
    rfl
theorem rc_lists (hl : s.heap.IsList l ks.toArray) (hb : s.heap.IsList b ks'.toArray) (hu : A.units < cLine) (he : ∀ v ∈ ks, ∀ v' ∈ ks', EqAt A.in1 s v v' (eqV v v')) : RcAt A s (.ref l) (.ref b) (eqL ks ks') := by
  by_cases hn : ks.length = ks'.length
  · have := RcAt.lists (e := fun j => eqV (ks.getD j .none) (ks'.getD j .none)) hl hb (by simpa using hn) hu (fun j h1 h2 => by
      have g1 : ks.getD j .none = ks.toArray[j] := by simp at h1; simp [List.getD, h1]
      have g2 : ks'.getD j .none = ks'.toArray[j] := by simp at h2; simp [List.getD, h2]
      show EqAt A.in1 s ks.toArray[j] ks'.toArray[j] (eqV (ks.getD j .none) (ks'.getD j .none))
      rw [g1, g2]
      exact he _ (by simpa using List.getElem_mem (by simpa using h1)) _ (by simpa using List.getElem_mem (by simpa using h2)))
    rw [List.size_toArray, range_all _ _ hn] at this
    exact this
  · rw [eqL_length hn]
    exact RcAt.lists_lengths hl hb (by simpa using hn) hu
theorem rc_keys (hl : s.heap.IsList l ks.toArray) (hb : s.heap.IsList b ks'.toArray) (hu : A.units < cLine) (h : ∀ v ∈ ks, KeyV v) (h' : ∀ v ∈ ks', KeyV v) : RcAt A s (.ref l) (.ref b) (eqL ks ks') :=
  rc_lists hl hb hu fun v hv v' hv' => eq_key (h v hv) (h' v' hv')
theorem rc_names (hl : s.heap.IsList l ks.toArray) (hb : s.heap.IsList b ks'.toArray) (hu : A.units < cLine) (h : ∀ v ∈ ks, NameV v) (h' : ∀ v ∈ ks', NameV v) : RcAt A s (.ref l) (.ref b) (eqL ks ks') :=
  rc_lists hl hb hu fun v hv v' hv' => eq_name (h v hv) (h' v' hv')
end
end Mine
end

section
open PySem PySem.W PyProof.Rows PySem.Calls
open PySem.W.X PySem.W.XRun
set_option Elab.async false
namespace Mine
section
local macro_rules | `(tactic| x_close) => `(tactic| (refine' ⟨_, _, _, _, _, rfl, ?e1, ?e2, ?e3, ?e4⟩; (case e1 => exact rfl); (case e2 => assumption); (case e3 => exact List.Mem.head _); (case e4 => exact List.Mem.tail _ (List.Mem.head _))))
set_option maxRecDepth 100000 in
set_option maxHeartbeats 0 in
theorem add_key1 (w : World) (h0 : Heap) (g : Array GenState) (d : Drawn) (t : Nat) (os : OsState) (a : Addr) (k : Value)
    (KX : (Mine.hx.heap_39 w.params).In h0) :
    wpAny (model Challenge.rw_bn5012_01.prog w) AX (call (.ref 80) [.ref a, k]) (fun v s' => MadeP h0 (.ref a) k .none v ⟨h0, g, d, t, os⟩ s') (fun _ _ => False) ⟨h0, g, d, t, os⟩ := by
  revert KX; k_fill; intro KX
  x_run
set_option maxRecDepth 100000 in
set_option maxHeartbeats 0 in
theorem add_key2 (w : World) (h0 : Heap) (g : Array GenState) (d : Drawn) (t : Nat) (os : OsState) (a : Addr) (k n : Value)
    (KX : (Mine.hx.heap_39 w.params).In h0) :
    wpAny (model Challenge.rw_bn5012_01.prog w) AX (call (.ref 80) [.ref a, k, n]) (fun v s' => MadeP h0 (.ref a) k n v ⟨h0, g, d, t, os⟩ s') (fun _ _ => False) ⟨h0, g, d, t, os⟩ := by
  revert KX; k_fill; intro KX
  x_run
end
section
variable {w : World} {A : Around} {E : Value → Shared → Prop} {s : Shared} {a : Addr} {p k n : Value} {K : Frag} {name : Str} {pl : Sem Bool}
theorem getm_path {Q : Value × List Value → Shared → Prop} {f : Addr} {M : Model} (X : K.In s.heap) (P : PathAt s.heap a p k n) (hga : findIn K (.ref 150) "__getattribute__" = some (some (.builtin "tuple.__getattribute__")))
    (hk : findIn K (.ref 150) "__getattr__" = some none) (hf : findIn K (.ref 150) name = some (some (.ref f))) (ht : typeIn K (.ref f) = some (.type "function"))
    (h : Q (.ref f, [.ref a]) s) : wpAny M A (getMethod (.ref a) name pl) Q E s := by
  obtain ⟨dd, I⟩ := P.inst
  obtain ⟨dd', ho, hdd⟩ := P
  have hcan : Manifest.canonical "tuple.__getattribute__" = "object.__getattribute__" := by decide +kernel
  unfold getMethod specialOf
  refine wpAny_bind (wpAny_bind (I.type.here ((looks_findIn X hga).here ?_)))
  dsimp only
  rw [hcan, if_neg (by decide)]
  refine wpAny_bind (wpAny_bind (I.type.here ((looks_findIn X hk).here ?_)))
  simp only [Option.isSome_none, Bool.false_eq_true, if_false]
  refine wpAny_bind (wpAny_bind (I.type.here ((looks_findIn X hf).here ?_)))
  dsimp only
  refine wpAny_bind ((looks_typeIn X ht).here ?_)
  rw [if_neg (by decide +kernel)]
  refine wpAny_bind (wpAny_loadPart ho ?_)
  dsimp only
  refine wpAny_bind (wpAny_bind (wpAny_loadPart hdd ?_))
  have hl : lookIn name (dictOf [] 0) = some none := rfl
  rw [nsLook_of hl]
  refine wpAny_pure ?_
  simp only [Option.isSome_none, Bool.false_eq_true, if_false]
  exact wpAny_bind (wpAny_rule (wpAny_pure h))
end
end Mine
end

section
open PySem PySem.W PyProof.Rows PySem.Calls PySem.SeqAt
set_option Elab.async false
namespace Mine
/-- the ledger bears a path -/
def PathL (R : List (Addr × Obj)) (a : Addr) (p k n : Value) : Prop := ∃ dd, (a, pathObj (some dd) p k n) ∈ R ∧ (dd, dictOf [] 0) ∈ R
inductive ChainL (R : List (Addr × Obj)) : Value → List (Value × Value) → Prop
  | nil : ChainL R .none []
  | cons {a : Addr} {p k n : Value} {l : List (Value × Value)} : PathL R a p k n → KeyV k → NameV n → ChainL R p l → ChainL R (.ref a) ((k, n) :: l)
theorem PathL.mono {R R' : List (Addr × Obj)} {a : Addr} {p k n : Value} (P : PathL R a p k n) (h : ∀ q ∈ R, q ∈ R') : PathL R' a p k n := let ⟨dd, e, f⟩ := P; ⟨dd, h _ e, h _ f⟩
theorem ChainL.mono {R R' : List (Addr × Obj)} {v : Value} {l : List (Value × Value)} (c : ChainL R v l) (h : ∀ q ∈ R, q ∈ R') : ChainL R' v l := by
  induction c with
  | nil => exact .nil
  | cons P hk hn _ ih => exact .cons (P.mono h) hk hn ih
theorem PathL.at {h₀ h : Heap} {L : Addr} {R : List (Addr × Obj)} {a : Addr} {p k n : Value} (P : PathL R a p k n) (N : News h₀ L h R) : PathAt h a p k n := let ⟨dd, e, f⟩ := P; ⟨dd, (N _ e).1, (N _ f).1⟩
theorem ChainL.at {h₀ h : Heap} {L : Addr} {R : List (Addr × Obj)} {v : Value} {l : List (Value × Value)} (c : ChainL R v l) (N : News h₀ L h R) : Chain h v l := by
  induction c with
  | nil => exact .nil
  | cons P hk hn _ ih => exact .cons (P.at N) hk hn ih
theorem ChainL.ref {R : List (Addr × Obj)} {v : Value} {l : List (Value × Value)} (c : ChainL R v l) : v = .none ∨ ∃ a, v = .ref a := by
  cases c with
  | nil => exact .inl rfl
  | cons => exact .inr ⟨_, rfl⟩
theorem ChainL.all {R : List (Addr × Obj)} {v : Value} {l : List (Value × Value)} (c : ChainL R v l) : ∀ x ∈ l, KeyV x.1 ∧ NameV x.2 := by
  induction c with
  | nil => intro x hx; cases hx
  | cons _ hk hn _ ih =>
    intro x hx
    rcases List.mem_cons.mp hx with rfl | hx
    · exact ⟨hk, hn⟩
    · exact ih x hx
abbrev keysOf (l : List (Value × Value)) : List Value := (l.map (·.1)).reverse
abbrev namesOf (l : List (Value × Value)) : List Value := (l.map (·.2)).reverse
theorem keysOf_cons (k n : Value) (l : List (Value × Value)) : keysOf ((k, n) :: l) = keysOf l ++ [k] := by simp [keysOf]
theorem namesOf_cons (k n : Value) (l : List (Value × Value)) : namesOf ((k, n) :: l) = namesOf l ++ [n] := by simp [namesOf]
abbrev entryObj (v : Value) (la lb : Addr) : Obj := { cls := .type "tuple", data := .seq #[v, .ref la, .ref lb] }
/-- an entry: a path (or none) and the law's own two lists -/
structure EntryL (R : List (Addr × Obj)) (ta : Addr) (v : Value) (la lb : Addr) (l : List (Value × Value)) (ea eb : Nat) : Prop where
  t : (ta, entryObj v la lb) ∈ R
  ks : (la, W.listOf (keysOf l).toArray ea) ∈ R
  ns : (lb, W.listOf (namesOf l).toArray eb) ∈ R
  c : ChainL R v l
theorem EntryL.mono {R R' : List (Addr × Obj)} {ta la lb : Addr} {v : Value} {l : List (Value × Value)} {ea eb : Nat} (x : EntryL R ta v la lb l ea eb) (h : ∀ q ∈ R, q ∈ R') : EntryL R' ta v la lb l ea eb :=
  ⟨h _ x.t, h _ x.ks, h _ x.ns, x.c.mono h⟩
/-- the pool: each item is an entry whose chain is no longer than the pool -/
def PoolL (R : List (Addr × Obj)) (pvs : List Value) : Prop := ∀ v ∈ pvs, ∃ ta a la lb l ea eb, v = .ref ta ∧ l.length ≤ pvs.length ∧ EntryL R ta (.ref a) la lb l ea eb
theorem PoolL.mono {R R' : List (Addr × Obj)} {pvs : List Value} (x : PoolL R pvs) (h : ∀ q ∈ R, q ∈ R') : PoolL R' pvs := fun v hv =>
  let ⟨ta, a, la, lb, l, ea, eb, e, hl, y⟩ := x v hv; ⟨ta, a, la, lb, l, ea, eb, e, hl, y.mono h⟩
theorem PoolL.snoc {R R' : List (Addr × Obj)} {pvs : List Value} {ta a la lb : Addr} {l : List (Value × Value)} {ea eb : Nat} (x : PoolL R pvs) (h : ∀ q ∈ R, q ∈ R') (y : EntryL R' ta (.ref a) la lb l ea eb) (hl : l.length ≤ pvs.length + 1) :
    PoolL R' (pvs ++ [.ref ta]) := fun v hv => by
  rcases List.mem_append.mp hv with hv | hv
  · obtain ⟨ta, a, la, lb, l, ea, eb, e, hl, y⟩ := x.mono h v hv
    exact ⟨ta, a, la, lb, l, ea, eb, e, by rw [List.length_append, List.length_singleton]; omega, y⟩
  · rw [List.mem_singleton] at hv
    exact ⟨ta, a, la, lb, l, ea, eb, hv, by rw [List.length_append, List.length_singleton]; omega, y⟩
theorem News.sub {h₀ h : Heap} {L : Addr} {news news' : List (Addr × Obj)} (N : News h₀ L h news) (k : ∀ q ∈ news', q ∈ news) : News h₀ L h news' := fun p hp => N p (k p hp)
theorem isList_of {h₀ h : Heap} {L l : Addr} {news : List (Addr × Obj)} {its : Array Value} {e : Nat} (N : News h₀ L h news) (hm : (l, W.listOf its e) ∈ news) : h.IsList l its := ⟨_, (N _ hm).1, rfl, _, rfl⟩
section
variable {w : World} {M : Model} {prog : Program} {A : Around} {E : Value → Shared → Prop} {s : Shared} {h₀ : Heap} {L a x b l r pl : Addr} {m mg mb : Str → Option Value} {news news' Z : List (Addr × Obj)} {pg : Program} {loose : List Str} {p k n v : Value} {Q : Value → Shared → Prop} {expr : Bool} {ks pvs xs ys : List Value} {e : Nat} {dd : Addr} {i : Int} {u : Tok} {value slice : PySem.Expr} {ch : List (Value × Value)}
/-- an item of a list at a place that is in bounds, from either end -/
theorem item_any (hl : s.heap.IsList l xs.toArray) (h0 : -(xs.length : Int) ≤ i) (hk : i < (xs.length : Int)) (hz : xs.length ≤ 100) (q : ∀ v, v ∈ xs → Q v s)
    (hs : subscripted slice false (.ref l) (.int i u) = operate [.ref l, .int i u] (getItem (.ref l) (.int i u)) := by with_unfolding_all rfl) :
    wpAny (model prog w) A (subscriptTail value slice (.ref l) (.int i u)) Q E s := by
  by_cases hi : 0 ≤ i
  · have hlt : i.toNat < xs.length := by omega
    refine tail_any hl.typeIs slot_list_getitem.lookup (wpAny_getItem_list hl hi (by omega) (x := xs[i.toNat]) ?_ (q _ (List.getElem_mem hlt))) hs
    simp [hlt]
  · have hlt : (i + xs.length).toNat < xs.length := by omega
    have hsz : (xs.toArray.size : Int) = xs.length := by rw [List.size_toArray]
    refine tail_any hl.typeIs slot_list_getitem.lookup (wpAny_getItem_list_neg hl (by omega) (by rw [hsz]; omega) (by omega) (x := xs[(i + xs.length).toNat]) ?_ (q _ (List.getElem_mem hlt))) hs
    rw [hsz]
    simp [hlt]
end
end Mine
end

section
open PySem PySem.W PyProof.Rows PySem.Calls PySem.SeqAt
set_option Elab.async false
namespace Mine
theorem neq_by {news : List (Addr × Obj)} {r : Addr} {q : Addr × Obj} (H : ∀ p ∈ news, @Ne Nat p.1 r) (hm : q ∈ news) : q.1 ≠ r := H q hm
theorem all_by {news tail : List (Addr × Obj)} {r : Addr} (H : ∀ p ∈ news, @Ne Nat p.1 r) (hs : ∀ p ∈ tail, p ∈ news) : ∀ p ∈ tail, p.1 ≠ r := fun p hp => H p (hs p hp)
theorem all_ne {Z : List (Addr × Obj)} {r : Addr} (H : ∀ p ∈ Z, @LT.lt Nat _ p.1 r) : ∀ q ∈ Z, @Ne Nat q.1 r := fun q hq => Nat.ne_of_lt (H q hq)
theorem all_ne' {Z : List (Addr × Obj)} {r : Addr} (H : AllLt r Z) : ∀ q ∈ Z, @Ne Nat q.1 r := fun q hq => Nat.ne_of_lt (tb_ltOf H q hq)
theorem back_lt (x : Int) (n : Nat) : Int.fmod x ((n : Int) + 1) - 1 < n := by
  have := Int.fmod_lt_of_pos x (b := (n : Int) + 1) (by omega); omega
theorem fm_lo (x : Int) (n : Nat) : 0 ≤ Int.fmod x ((n : Int) + 1) := Int.fmod_nonneg_of_pos x (by omega)
theorem fm_hi (x : Int) (n : Nat) : Int.fmod x ((n : Int) + 1) < (n : Int) + 1 := Int.fmod_lt_of_pos x (by omega)
theorem ne_of_none {h₀ h : Heap} {L b : Addr} {news : List (Addr × Obj)} (N : News h₀ L h news) (hb : h.get? b = none) : ∀ p ∈ news, @Ne Nat p.1 b := fun p hp e => by
  have := (N p hp).1
  rw [show p.1 = b from e, hb] at this; cases this
section
variable {w : World} {M : Model} {A : Around} {E : Value → Shared → Prop} {s : Shared} {h₀ : Heap} {L a x b l r pl : Addr} {m mg mb : Str → Option Value} {news news' Z : List (Addr × Obj)} {pg : Program} {loose : List Str} {p k n v : Value} {Q : Value → Shared → Prop} {expr : Bool} {ks pvs xs ys : List Value} {its its2 : Array Value} {e e2 : Nat} {dd : Addr} {i : Int} {u : Tok} {value slice : PySem.Expr} {ch : List (Value × Value)}
theorem path_mem (N : News h₀ L s.heap news) (h1 : (a, pathObj (some dd) p k n) ∈ news) (h2 : (dd, dictOf [] 0) ∈ news) : PathAt s.heap a p k n := ⟨dd, (N _ h1).1, (N _ h2).1⟩
theorem chain_snoc {R : List (Addr × Obj)} (h1 : (a, pathObj (some dd) p k n) ∈ R) (h2 : (dd, dictOf [] 0) ∈ R) (hk : KeyV k) (hn : NameV n) (hc : ChainL Z p ch) (hsub : ∀ q ∈ Z, q ∈ R) : ChainL R (.ref a) ((k, n) :: ch) := .cons ⟨dd, h1, h2⟩ hk hn (hc.mono hsub)
theorem path_chain (N : News h₀ L s.heap news) (hc : ChainL Z (.ref a) ch) (hsub : ∀ p ∈ Z, p ∈ news) : ∃ p k n, PathAt s.heap a p k n := by
  cases hc with
  | cons P _ _ _ => exact ⟨_, _, _, (P.mono hsub).at N⟩
theorem wp_A1 {α : Type} {t : Sem α} {Q : α → Shared → Prop} (hh : A.handled = none) (hd : A.depth ≤ 450) (hu : A.units ≤ 4500) (h : wpAny M A1 t Q (fun _ _ => False) s) : wpAny M A t Q E s := fun Γ p hΓ => by
  refine Sem.wp_mono M Γ t (fun _ _ _ x => x) (fun _ _ _ x => x.elim) p s (h Γ p ⟨?_, ?_, ?_, ?_, ?_⟩)
  · exact hΓ.1.trans hh
  · exact Nat.le_trans hΓ.2.1 hd
  · intro l hl; cases hl
  · intro g hg; cases hg
  · exact Nat.le_trans hΓ.2.2.2.2 hu
theorem pool_line {prog : Program} (N : News h₀ L s.heap news) (hm : (pl, W.listOf pvs.toArray e) ∈ news) (hP : PoolL Z pvs) (hsub : ∀ p ∈ Z, p ∈ news) (hne : ∀ p ∈ Z, @Ne Nat p.1 pl) (h0 : -(pvs.length : Int) ≤ i) (hk : i < (pvs.length : Int)) (hz : pvs.length ≤ 100)
    (q : ∀ ta a la lb l ea eb, l.length ≤ pvs.length → ChainL Z (.ref a) l → News h₀ L s.heap ((ta, entryObj (.ref a) la lb) :: (la, W.listOf (keysOf l).toArray ea) :: (lb, W.listOf (namesOf l).toArray eb) :: news) → (@Ne Nat ta pl ∧ @Ne Nat la pl ∧ @Ne Nat lb pl) → Q (.ref ta) s)
    (hs : subscripted slice false (.ref pl) (.int i u) = operate [.ref pl, .int i u] (getItem (.ref pl) (.int i u)) := by with_unfolding_all rfl) :
    wpAny (model prog w) A (subscriptTail value slice (.ref pl) (.int i u)) Q E s := by
  refine item_any (isList_of N hm) h0 hk hz (fun v hv => ?_) hs
  obtain ⟨ta, a, la, lb, l, ea, eb, rfl, hl, y⟩ := hP v hv
  refine q ta a la lb l ea eb hl y.c ?_ ⟨hne _ y.t, hne _ y.ks, hne _ y.ns⟩
  intro p hp
  rcases List.mem_cons.mp hp with rfl | hp
  · exact N _ (hsub _ y.t)
  rcases List.mem_cons.mp hp with rfl | hp
  · exact N _ (hsub _ y.ks)
  rcases List.mem_cons.mp hp with rfl | hp
  · exact N _ (hsub _ y.ns)
  exact N _ hp
theorem key_line {prog : Program} {c : Int} (N : News h₀ L s.heap news) (hm : (x, W.listOf xs.toArray e) ∈ news) (hall : ∀ v ∈ xs, KeyV v) (hc : (xs.length : Int) = c) (hc0 : 0 < c) (hz : xs.length ≤ 100) (q : ∀ v, KeyV v → Q v s)
    (hs : subscripted slice false (.ref x) (.int (Int.fmod i c) u) = operate [.ref x, .int (Int.fmod i c) u] (getItem (.ref x) (.int (Int.fmod i c) u)) := by with_unfolding_all rfl) :
    wpAny (model prog w) A (subscriptTail value slice (.ref x) (.int (Int.fmod i c) u)) Q E s := by
  have b1 := Int.fmod_nonneg_of_pos i hc0
  have b2 := Int.fmod_lt_of_pos i hc0
  exact item_any (isList_of N hm) (by omega) (by omega) hz (fun v hv => q v (hall v hv)) hs
theorem name_line {prog : Program} {c : Int} (N : News h₀ L s.heap news) (hm : (x, W.listOf xs.toArray e) ∈ news) (hall : ∀ v ∈ xs, NameV v) (hc : (xs.length : Int) = c) (hc0 : 0 < c) (hz : xs.length ≤ 100) (q : ∀ v, NameV v → Q v s)
    (hs : subscripted slice false (.ref x) (.int (Int.fmod i c) u) = operate [.ref x, .int (Int.fmod i c) u] (getItem (.ref x) (.int (Int.fmod i c) u)) := by with_unfolding_all rfl) :
    wpAny (model prog w) A (subscriptTail value slice (.ref x) (.int (Int.fmod i c) u)) Q E s := by
  have b1 := Int.fmod_nonneg_of_pos i hc0
  have b2 := Int.fmod_lt_of_pos i hc0
  exact item_any (isList_of N hm) (by omega) (by omega) hz (fun v hv => q v (hall v hv)) hs
/-- the last item of the pool -/
theorem last_line {prog : Program} (N : News h₀ L s.heap news) (hm : (pl, W.listOf (its.push v) e) ∈ news) (hz : its.size ≤ 100) (q : Q v s)
    (hs : subscripted slice false (.ref pl) (.int (-1) u) = operate [.ref pl, .int (-1) u] (getItem (.ref pl) (.int (-1) u)) := by with_unfolding_all rfl) :
    wpAny (model prog w) A (subscriptTail value slice (.ref pl) (.int (-1) u)) Q E s := by
  have hl := isList_of N hm
  refine tail_any hl.typeIs slot_list_getitem.lookup (wpAny_getItem_list_neg hl (by omega) (by rw [Array.size_push]; omega) (by decide) (x := v) ?_ q) hs
  rw [Array.size_push]
  have : (-1 + ((its.size + 1 : Nat) : Int)).toNat = its.size := by omega
  rw [this]
  simp
theorem last_line2 {prog : Program} (N : News h₀ L s.heap news) (hm : (pl, W.listOf (xs ++ [v]).toArray e) ∈ news) (hz : xs.length ≤ 100) (q : Q v s)
    (hs : subscripted slice false (.ref pl) (.int (-1) u) = operate [.ref pl, .int (-1) u] (getItem (.ref pl) (.int (-1) u)) := by with_unfolding_all rfl) :
    wpAny (model prog w) A (subscriptTail value slice (.ref pl) (.int (-1) u)) Q E s := by
  rw [← List.push_toArray] at hm
  exact last_line N hm (by rw [List.size_toArray]; exact hz) q hs
theorem isNot_name (hv : NameV v) (q : Q (.bool false) s) : wpAny M A (compareOp .IsNot v v) Q E s := by
  show wpAny M A (do return .bool (!(← isSame v v))) Q E s
  cases v <;> first | exact hv.elim | skip
  · simp only [isSame]; exact wpAny_bind (wpAny_pure (wpAny_pure q))
  · exact wpAny_bind (by simp only [isSame]; exact created_self hv (wpAny_pure q))
theorem isNot_prev (hv : v = .none ∨ ∃ b, v = .ref b) (q : Q (.bool false) s) : wpAny M A (compareOp .IsNot v v) Q E s := by
  show wpAny M A (do return .bool (!(← isSame v v))) Q E s
  rcases hv with rfl | ⟨b, rfl⟩
  · simp only [isSame]; exact wpAny_bind (wpAny_pure (wpAny_pure q))
  · simp only [isSame, beq_self_eq_true]; exact wpAny_bind (wpAny_pure (wpAny_pure q))
theorem prev_handed (hv : v = .none ∨ ∃ b, v = .ref b) : handedIn v = true := by rcases hv with rfl | ⟨b, rfl⟩ <;> rfl
theorem pnew_line (F : Fr h₀ L s.heap m) (N : News h₀ L s.heap news) (X : (Mine.hx.heap_39 w.params).In h₀) (hh : A.handled = none) (hd : A.depth ≤ 600) (hu : A.units ≤ 6000)
    (q : ∀ a dd h' tk, Fr h₀ L h' m → News h₀ L h' ((a, pathObj (some dd) p k n) :: (dd, dictOf [] 0) :: news) → (∀ p ∈ news, @Ne Nat p.1 a) → (∀ p ∈ news, @Ne Nat p.1 dd) → Q (.ref a) { s with heap := h', toks := tk }) :
    wpAny (model Challenge.rw_bn5012_01.prog w) A (call (.ref 150) [p, k, n]) Q E s :=
  path_new (X.keeps F.keep) hh hd hu fun a dd h' tk kk ha hdd ha' hdd' => q a dd h' tk (F.grownK kk) (News.cons_new F (News.cons_new F (N.grown kk) hdd hdd') ha ha') (ne_of_none N ha) (ne_of_none N hdd)
theorem addk1_line (F : Fr h₀ L s.heap m) (N : News h₀ L s.heap news) (X : (Mine.hx.heap_39 w.params).In h₀) (hh : A.handled = none) (hd : A.depth ≤ 600) (hu : A.units ≤ 6000)
    (q : ∀ a dd h' tk, Fr h₀ L h' m → News h₀ L h' ((a, pathObj (some dd) (.ref x) k .none) :: (dd, dictOf [] 0) :: news) → (∀ p ∈ news, @Ne Nat p.1 a) → (∀ p ∈ news, @Ne Nat p.1 dd) → Q (.ref a) { s with heap := h', toks := tk }) :
    wpAny (model Challenge.rw_bn5012_01.prog w) A (call (.ref 80) [.ref x, k]) Q E s := by
  obtain ⟨h, g, d, t, os⟩ := s
  exact of_made (wp_X hh hd hu (add_key1 w h g d t os x k (X.keeps F.keep))) fun a dd h' tk kk ha hdd ha' hdd' => q a dd h' tk (F.grownK kk) (News.cons_new F (News.cons_new F (N.grown kk) hdd hdd') ha ha') (ne_of_none N ha) (ne_of_none N hdd)
theorem addk2_line (F : Fr h₀ L s.heap m) (N : News h₀ L s.heap news) (X : (Mine.hx.heap_39 w.params).In h₀) (hh : A.handled = none) (hd : A.depth ≤ 600) (hu : A.units ≤ 6000)
    (q : ∀ a dd h' tk, Fr h₀ L h' m → News h₀ L h' ((a, pathObj (some dd) (.ref x) k n) :: (dd, dictOf [] 0) :: news) → (∀ p ∈ news, @Ne Nat p.1 a) → (∀ p ∈ news, @Ne Nat p.1 dd) → Q (.ref a) { s with heap := h', toks := tk }) :
    wpAny (model Challenge.rw_bn5012_01.prog w) A (call (.ref 80) [.ref x, k, n]) Q E s := by
  obtain ⟨h, g, d, t, os⟩ := s
  exact of_made (wp_X hh hd hu (add_key2 w h g d t os x k n (X.keeps F.keep))) fun a dd h' tk kk ha hdd ha' hdd' => q a dd h' tk (F.grownK kk) (News.cons_new F (News.cons_new F (N.grown kk) hdd hdd') ha ha') (ne_of_none N ha) (ne_of_none N hdd)
theorem gkey_line (F : Fr h₀ L s.heap m) (N : News h₀ L s.heap news) (X : (Mine.hx.heap_39 w.params).In h₀) (T : TopRead pg loose mg mb h₀) (h1 : (a, pathObj (some dd) p k n) ∈ news) (h2 : (dd, dictOf [] 0) ∈ news) (hv : KeyV k) (hh : A.handled = none) (hd : A.depth ≤ 500) (hu : A.units ≤ 4999)
    (q : ∀ h' tk, Fr h₀ L h' m → News h₀ L h' news → Q k { s with heap := h', toks := tk }) :
    wpAny (model Challenge.rw_bn5012_01.prog w) A (getAttr (.ref a) (Str.ofString "key") expr) Q E s :=
  get_key (X.keeps F.keep) (T.keeps F.keep) (path_mem N h1 h2) hv.handed hh hd hu fun h' tk k => q h' tk (F.grownK k) (N.grown k)
theorem gname_line (F : Fr h₀ L s.heap m) (N : News h₀ L s.heap news) (X : (Mine.hx.heap_39 w.params).In h₀) (T : TopRead pg loose mg mb h₀) (h1 : (a, pathObj (some dd) p k n) ∈ news) (h2 : (dd, dictOf [] 0) ∈ news) (hv : NameV n) (hh : A.handled = none) (hd : A.depth ≤ 500) (hu : A.units ≤ 4999)
    (q : ∀ h' tk, Fr h₀ L h' m → News h₀ L h' news → Q n { s with heap := h', toks := tk }) :
    wpAny (model Challenge.rw_bn5012_01.prog w) A (getAttr (.ref a) (Str.ofString "typename") expr) Q E s :=
  get_typename (X.keeps F.keep) (T.keeps F.keep) (path_mem N h1 h2) hv.handed hh hd hu fun h' tk k => q h' tk (F.grownK k) (N.grown k)
theorem gprev_line (F : Fr h₀ L s.heap m) (N : News h₀ L s.heap news) (X : (Mine.hx.heap_39 w.params).In h₀) (T : TopRead pg loose mg mb h₀) (h1 : (a, pathObj (some dd) p k n) ∈ news) (h2 : (dd, dictOf [] 0) ∈ news) (hv : handedIn p = true) (hh : A.handled = none) (hd : A.depth ≤ 500) (hu : A.units ≤ 4999)
    (q : ∀ h' tk, Fr h₀ L h' m → News h₀ L h' news → Q p { s with heap := h', toks := tk }) :
    wpAny (model Challenge.rw_bn5012_01.prog w) A (getAttr (.ref a) (Str.ofString "prev") expr) Q E s :=
  get_prev (X.keeps F.keep) (T.keeps F.keep) (path_mem N h1 h2) hv hh hd hu fun h' tk k => q h' tk (F.grownK k) (N.grown k)
theorem getm_mem {Q : Value × List Value → Shared → Prop} {K : Frag} {name : Str} {plc : Sem Bool} {f : Addr} (F : Fr h₀ L s.heap m) (N : News h₀ L s.heap news) (X : K.In h₀) (h1 : (a, pathObj (some dd) p k n) ∈ news) (h2 : (dd, dictOf [] 0) ∈ news)
    (hga : findIn K (.ref 150) "__getattribute__" = some (some (.builtin "tuple.__getattribute__"))) (hk : findIn K (.ref 150) "__getattr__" = some none) (hf : findIn K (.ref 150) name = some (some (.ref f))) (ht : typeIn K (.ref f) = some (.type "function"))
    (h : Q (.ref f, [.ref a]) s) : wpAny M A (getMethod (.ref a) name plc) Q E s := getm_path (X.keeps F.keep) (path_mem N h1 h2) hga hk hf ht h
theorem getm_chain {Q : Value × List Value → Shared → Prop} {K : Frag} {name : Str} {plc : Sem Bool} {f : Addr} (F : Fr h₀ L s.heap m) (N : News h₀ L s.heap news) (X : K.In h₀) (hc : ChainL Z (.ref a) ch) (hsub : ∀ p ∈ Z, p ∈ news)
    (hga : findIn K (.ref 150) "__getattribute__" = some (some (.builtin "tuple.__getattribute__"))) (hk : findIn K (.ref 150) "__getattr__" = some none) (hf : findIn K (.ref 150) name = some (some (.ref f))) (ht : typeIn K (.ref f) = some (.type "function"))
    (h : Q (.ref f, [.ref a]) s) : wpAny M A (getMethod (.ref a) name plc) Q E s := by
  obtain ⟨p, k, n, P⟩ := path_chain N hc hsub
  exact getm_path (X.keeps F.keep) P hga hk hf ht h
theorem asl_line (F : Fr h₀ L s.heap m) (N : News h₀ L s.heap news) (X : (Mine.hx.heap_39 w.params).In h₀) (T : TopRead pg loose mg mb h₀) (hc : ChainL news (.ref a) ch) (hlen : ch.length ≤ 100) (hh : A.handled = none) (hd : A.depth ≤ 450) (hu : A.units ≤ 4500)
    (q : ∀ r h' tk, Fr h₀ L h' m → News h₀ L h' ((r, W.listOf (keysOf ch).toArray 0) :: news) → (∀ p ∈ news, @Ne Nat p.1 r) → Q (.ref r) { s with heap := h', toks := tk }) :
    wpAny (model Challenge.rw_bn5012_01.prog w) A (call (.ref 87) [.ref a]) Q E s :=
  wp_A1 hh hd hu (as_list0 w s pg loose mg mb Q (X.keeps F.keep) (T.keeps F.keep) (hc.at N) hlen fun r h' tk k hr hr' => q r h' tk (F.grownK k) (News.cons_new F (N.grown k) hr hr') (ne_of_none N hr))
theorem alike_line (F : Fr h₀ L s.heap m) (N : News h₀ L s.heap news) (X : (Mine.hx.heap_39 w.params).In h₀) (T : TopRead pg loose mg mb h₀) (h1 : (a, W.listOf xs.toArray e) ∈ news) (h2 : (b, W.listOf ys.toArray e2) ∈ news) (he : ys = xs) (hv : ∀ v ∈ xs, KeyV v) (hlen : xs.length ≤ 100) (hh : A.handled = none) (hd : A.depth ≤ 450) (hu : A.units ≤ 4500)
    (q : ∀ h' tk, Fr h₀ L h' m → News h₀ L h' news → Q (.bool true) { s with heap := h', toks := tk }) :
    wpAny (model Challenge.rw_bn5012_01.prog w) A (call (.ref 159) [.ref a, .ref b]) Q E s := by
  subst he
  exact wp_A1 hh hd hu (alike0 w s pg loose mg mb Q (X.keeps F.keep) (T.keeps F.keep) (isList_of N h1) (isList_of N h2) hv hlen fun h' tk k => q h' tk (F.grownK k) (N.grown k))
theorem plus_line {prog : Program} (F : Fr h₀ L s.heap m) (N : News h₀ L s.heap news) (h1 : (a, W.listOf xs.toArray e) ∈ news) (h2 : (b, W.listOf ys.toArray e2) ∈ news) (hz : xs.length ≤ 100) (hz2 : ys.length ≤ 100)
    (q : ∀ r h', Fr h₀ L h' m → News h₀ L h' ((r, W.listOf (xs ++ ys).toArray 0) :: news) → (∀ p ∈ news, @LT.lt Nat _ p.1 r) → Q (.ref r) { s with heap := h' }) :
    wpAny (model prog w) A (binaryOp .Add (.ref a) (.ref b)) Q E s :=
  add_arrays F N (isList_of N h1) (isList_of N h2) (fun h' F' N' => q _ h' F' (by simpa using N') fun p hp => Heap.lt_size (N p hp).1) (by rw [List.size_toArray, List.size_toArray, sizeLine_eq]; exact Nat.le_trans (Nat.add_le_add hz hz2) (by decide))
end
end Mine
end

section
open PySem PySem.W PyProof.Rows PySem.Calls PySem.SeqAt
set_option Elab.async false
namespace Mine
def defOf : Stmt → List Stmt × Scope
  | .FunctionDef _ _ body _ _ _ scope _ _ _ => (body, scope)
  | _ => ([], default)
def forOf : List Stmt → List Stmt
  | .For _ _ body _ _ :: _ => body
  | _ => []
def lawDef : List Stmt × Scope := match PySem.Challenge.pw_bn5012_01.main.body.getLast? with
  | some s => defOf s
  | none => ([], default)
def lawBody : List Stmt := lawDef.1
def lawScope : Scope := lawDef.2
def lawRest : List Stmt := lawBody.drop 6
def body1 : List Stmt := forOf lawRest
def tail1 : List Stmt := body1.drop 5
def rest2 : List Stmt := lawRest.drop 3
def body2 : List Stmt := forOf rest2
abbrev lawEnv (L fa : Addr) (cd : Value) : Env := envOf (Str.ofString "law") lawScope L fa cd
abbrev lawA (L fa : Addr) (cd : Value) : Around := callerA.deeper (lawEnv L fa cd)
end Mine
end

section
open PySem PySem.W PyProof.Rows PySem.Calls PySem.SeqAt
set_option Elab.async false
namespace Mine
local macro_rules | `(tactic| k_all) => `(tactic| (refine all_by (by assumption) ?_; (repeat (refine List.forall_mem_cons.mpr ⟨by k_mem, ?_⟩)); (first | exact List.forall_mem_nil _ | (intro p hp; (repeat (first | assumption | (refine List.Mem.tail _ ?_)))))))
local macro_rules | `(tactic| walk_at "getAttr ref") => `(tactic| (k_here; (with_reducible show wpAny _ _ (getAttr (Value.ref _) (Str.ofString "key") _) _ _ _); k_dflt (refine' gkey_line ?k1 ?k2 ?k3 ?k7 ?k8 ?k10 ?k9 ?k4 ?k5 ?k6 ?_; (case k1 => k_asm); (case k2 => k_asm); (case k3 => k_asm); (case k7 => k_asm); (case k8 => k_mem); (case k10 => k_mem); (case k9 => k_asm); (case k4 => rfl); (case k5 => exact Nat.le_of_ble_eq_true rfl); (case k6 => exact Nat.le_of_ble_eq_true rfl); k_whole); intro h' tk' F' N'; (try k_sweep)))
local macro_rules | `(tactic| walk_at "getAttr ref") => `(tactic| (k_here; (with_reducible show wpAny _ _ (getAttr (Value.ref _) (Str.ofString "typename") _) _ _ _); k_dflt (refine' gname_line ?k1 ?k2 ?k3 ?k7 ?k8 ?k10 ?k9 ?k4 ?k5 ?k6 ?_; (case k1 => k_asm); (case k2 => k_asm); (case k3 => k_asm); (case k7 => k_asm); (case k8 => k_mem); (case k10 => k_mem); (case k9 => k_asm); (case k4 => rfl); (case k5 => exact Nat.le_of_ble_eq_true rfl); (case k6 => exact Nat.le_of_ble_eq_true rfl); k_whole); intro h' tk' F' N'; (try k_sweep)))
local macro_rules | `(tactic| walk_at "getAttr ref") => `(tactic| (k_here; (with_reducible show wpAny _ _ (getAttr (Value.ref _) (Str.ofString "prev") _) _ _ _); k_dflt (refine' gprev_line ?k1 ?k2 ?k3 ?k7 ?k8 ?k10 ?k9 ?k4 ?k5 ?k6 ?_; (case k1 => k_asm); (case k2 => k_asm); (case k3 => k_asm); (case k7 => k_asm); (case k8 => k_mem); (case k10 => k_mem); (case k9 => rfl); (case k4 => rfl); (case k5 => exact Nat.le_of_ble_eq_true rfl); (case k6 => exact Nat.le_of_ble_eq_true rfl); k_whole); intro h' tk' F' N'; (try k_sweep)))
local macro_rules | `(tactic| walk_at "compareOp IsNot") => `(tactic| (k_here; k_dflt (refine' isNot_name ?k1 ?_; (case k1 => assumption); k_whole)))
local macro_rules | `(tactic| walk_at "compareOp IsNot") => `(tactic| (k_here; k_dflt (refine' isNot_key ?k1 ?_; (case k1 => assumption); k_whole)))
local macro_rules | `(tactic| walk_at "binaryOp Add ref ref") => `(tactic| (k_here; k_dflt (refine' plus_line ?k1 ?k2 ?k3 ?k4 ?k5 ?k6 ?_; (case k1 => k_asm); (case k2 => k_asm); (case k3 => k_mem); (case k4 => k_mem); (case k5 => (simp only [keysOf, namesOf, List.length_reverse, List.length_map, List.length_cons, List.length_nil, List.length_append]; omega)); (case k6 => (simp only [keysOf, namesOf, List.length_reverse, List.length_map, List.length_cons, List.length_nil, List.length_append]; omega)); k_whole); intro r' h' F' N' l1'; (have l2' := l1'); (simp only [List.forall_mem_cons, List.not_mem_nil, false_imp_iff, implies_true, and_true] at l2'); (try k_sweep)))
local macro_rules | `(tactic| walk_at "getMethod ref") => `(tactic| (k_here; k_dflt (refine' getm_mem ?k1 ?k2 ?k3 ?k4 ?k5 ?k6 ?k7 ?k8 ?k9 ?_; (case k1 => k_asm); (case k2 => k_asm); (case k3 => k_asm); (case k4 => k_mem); (case k5 => k_mem); (case k6 => k_is); (case k7 => k_is); (case k8 => k_is); (case k9 => k_is); k_whole)))
local macro_rules | `(tactic| walk_at "call ref") => `(tactic| (k_here; k_dflt (show wpAny _ _ (call (Value.ref 87) [_]) _ _ _); k_dflt (refine' asl_line ?k1 ?k2 ?k3 ?k4 ?k5 ?k6 ?k7 ?k8 ?k9 ?_; (case k1 => k_asm); (case k2 => k_asm); (case k3 => k_asm); (case k4 => k_asm); (case k5 => (refine' chain_snoc ?m1 ?m2 ?m4 ?m5 ?m6 ?m3; (case m1 => k_mem); (case m2 => k_mem); (case m4 => assumption); (case m5 => assumption); (case m6 => assumption); (case m3 => (intro p hp; (repeat (first | assumption | (refine List.Mem.tail _ ?_))))))); (case k6 => (simp only [List.length_cons]; omega)); (case k7 => rfl); (case k8 => exact Nat.le_of_ble_eq_true rfl); (case k9 => exact Nat.le_of_ble_eq_true rfl); k_whole); intro r' h' tk' F' N' l1'; (have l2' := l1'); (simp only [List.forall_mem_cons, List.not_mem_nil, false_imp_iff, implies_true, and_true] at l2'); (try k_sweep)))
local macro_rules | `(tactic| walk_at "call ref") => `(tactic| (k_here; k_dflt (show wpAny _ _ (call (Value.ref 159) [_, _]) _ _ _); k_dflt (refine' alike_line ?k1 ?k2 ?k3 ?k4 ?k5 ?k6 ?k7 ?k8 ?k9 ?k10 ?k11 ?k12 ?_; (case k1 => k_asm); (case k2 => k_asm); (case k3 => k_asm); (case k4 => k_asm); (case k5 => k_mem); (case k6 => k_mem); (case k7 => first | rfl | exact (keysOf_cons _ _ _).symm); (case k8 => assumption); (case k9 => (simp only [keysOf, List.length_reverse, List.length_map, List.length_cons]; omega)); (case k10 => rfl); (case k11 => exact Nat.le_of_ble_eq_true rfl); (case k12 => exact Nat.le_of_ble_eq_true rfl); k_whole); intro h' tk' F' N'; (try k_sweep)))
local macro_rules | `(tactic| walk_at "subscriptTail") => `(tactic| (k_here; (with_reducible show wpAny _ _ (subscriptTail _ _ (Value.ref _) (Value.int (-1) _)) _ _ _); k_dflt (refine' last_line2 ?k1 ?k2 ?k3 ?_ ?k6; (case k1 => k_asm); (case k2 => k_mem); (case k3 => omega); (case k6 => with_unfolding_all rfl); k_whole)))
local macro_rules | `(tactic| walk_at "call builtin:list.append") => `(tactic| (k_here; (with_reducible show wpAny _ _ (call (Value.builtin _) [Value.ref _, _]) _ _ _); k_dflt (refine' append_K ?k1 ?k2 ?k3 ?_ ?z; (case k1 => k_asm); (case k2 => k_asm); (case k3 => k_upd); (case z => assumption); k_whole); intro h' F' N'; (try k_sweep)))
set_option pp.deepTerms false in
set_option pp.deepTerms.threshold 40 in
set_option maxRecDepth 100000 in
set_option maxHeartbeats 4000000 in
theorem turn_tb (w : World) (s : Shared) (pg : Program) (loose : List Str) (mg mb : Str → Option Value) (h₀ : Heap) (L fa cda : Addr) (E : Value → Shared → Prop) (R : Flow → Shared → Prop)
    (KX : (Mine.hx.heap_39 w.params).In h₀) (T : TopRead pg loose mg mb h₀)
    (pl tu la lb a dd r : Addr) (p k n : Value) (l : List (Value × Value)) (pvs : List Value) (Z news0 : List (Addr × Obj)) (ep : Nat) (m : Str → Option Value)
    (F : Fr h₀ L s.heap m) (m1 : m (Str.ofString "told") = some (.ref r)) (m2 : m (Str.ofString "made") = some (.ref a)) (m3 : m (Str.ofString "pool") = some (.ref pl))
    (N : News h₀ L s.heap ((r, W.listOf (keysOf ((k, n) :: l)).toArray 0) :: news0)) (hr : ∀ q ∈ news0, @Ne Nat q.1 r)
    (hk : KeyV k) (hn : NameV n) (hc : ChainL Z p l) (hl : l.length ≤ pvs.length) (hz : pvs.length ≤ 90)
    (e1 : (pl, W.listOf (pvs ++ [Value.ref tu]).toArray ep) ∈ news0) (e2 : (tu, entryObj (.ref a) la lb) ∈ news0) (e3 : (la, W.listOf (keysOf l ++ [k]).toArray 0) ∈ news0) (e4 : (lb, W.listOf (namesOf l ++ [n]).toArray 0) ∈ news0) (e5 : (a, pathObj (some dd) p k n) ∈ news0) (e6 : (dd, dictOf [] 0) ∈ news0) (e7 : ∀ q ∈ Z, q ∈ news0)
    (q : ∀ h' tk m', Fr h₀ L h' m' → (∀ z, z ≠ Str.ofString "told" → m' z = m z) → News h₀ L h' ((tu, entryObj (.ref a) la lb) :: (la, W.listOf (keysOf l ++ [k]).toArray 0) :: (lb, W.listOf (namesOf l ++ [n]).toArray 0) :: (a, pathObj (some dd) p k n) :: (dd, dictOf [] 0) :: (pl, W.listOf (pvs ++ [Value.ref tu]).toArray ep) :: Z) → R .next { s with heap := h', toks := tk }) :
    wpAny (model Challenge.rw_bn5012_01.prog w) (lawA L fa (.ref cda)) (execs (tail1.drop 4) (lawEnv L fa (.ref cda))) R E s := by
  have em : m = (fun z => if z = Str.ofString "told" then some (.ref r) else if z = Str.ofString "made" then some (.ref a) else if z = Str.ofString "pool" then some (.ref pl) else m z) := by
    funext z
    split
    · rename_i h; rw [h, m1]
    split
    · rename_i h; rw [h, m2]
    split
    · rename_i h; rw [h, m3]
    rfl
  rw [em] at F
  have hs : ∀ q ∈ ((tu, entryObj (.ref a) la lb) :: (la, W.listOf (keysOf l ++ [k]).toArray 0) :: (lb, W.listOf (namesOf l ++ [n]).toArray 0) :: (a, pathObj (some dd) p k n) :: (dd, dictOf [] 0) :: (pl, W.listOf (pvs ++ [Value.ref tu]).toArray ep) :: Z), q ∈ news0 :=
    List.forall_mem_cons.mpr ⟨e2, List.forall_mem_cons.mpr ⟨e3, List.forall_mem_cons.mpr ⟨e4, List.forall_mem_cons.mpr ⟨e5, List.forall_mem_cons.mpr ⟨e6, List.forall_mem_cons.mpr ⟨e1, e7⟩⟩⟩⟩⟩⟩
  replace N := News.sub N (news' := (r, W.listOf (keysOf ((k, n) :: l)).toArray 0) :: (tu, entryObj (.ref a) la lb) :: (la, W.listOf (keysOf l ++ [k]).toArray 0) :: (lb, W.listOf (namesOf l ++ [n]).toArray 0) :: (a, pathObj (some dd) p k n) :: (dd, dictOf [] 0) :: (pl, W.listOf (pvs ++ [Value.ref tu]).toArray ep) :: Z) (List.forall_mem_cons.mpr ⟨.head _, fun q hq => .tail _ (hs q hq)⟩)
  replace hr := all_by hr hs
  replace hr : ∀ q ∈ ((tu, entryObj (.ref a) la lb) :: (la, W.listOf (keysOf l ++ [k]).toArray 0) :: (lb, W.listOf (namesOf l ++ [n]).toArray 0) :: (a, pathObj (some dd) p k n) :: (dd, dictOf [] 0) :: (pl, W.listOf (pvs ++ [Value.ref tu]).toArray ep) :: Z), @Ne Nat q.1 r := hr
  clear e1 e2 e3 e4 e5 e6 e7 hs m1 m2 m3
  revert KX; k_fill; intro KX
  dsimp only [tail1, body1, lawRest, lawBody, lawDef, forOf, PySem.Challenge.pw_bn5012_01, List.getLast?, List.getLast, defOf, List.drop, lawEnv, lawScope, lawA]
  have hkv : ∀ v ∈ keysOf ((k, n) :: l), KeyV v := by
    intro v hv
    rw [keysOf_cons] at hv
    rcases List.mem_append.mp hv with hv | hv
    · obtain ⟨x, hx, rfl⟩ := List.mem_map.mp (List.mem_reverse.mp hv)
      exact (hc.all x hx).1
    · rw [List.mem_singleton.mp hv]; exact hk
  have hzs : (keysOf ((k, n) :: l)).toArray.size ≤ sizeLine := by
    rw [List.size_toArray, sizeLine_eq]; simp only [keysOf, List.length_reverse, List.length_map, List.length_cons]; omega
  w_on
  k_steps
  rename Fr _ _ _ _ => FF
  rename News _ _ _ _ => NN
  refine q _ _ _ FF (fun z hz => by have e := congrFun em z; simp only [if_neg hz] at e ⊢; exact e.symm) (News.sub NN ?sb)
  repeat refine List.forall_mem_cons.mpr ⟨by k_mem, ?_⟩
  intro p hp
  repeat (first | assumption | (refine List.Mem.tail _ ?_))
end Mine
end

section
open PySem PySem.W PyProof.Rows PySem.Calls PySem.SeqAt
set_option Elab.async false
namespace Mine
local macro_rules | `(tactic| k_all) => `(tactic| (refine all_by (by assumption) ?_; (repeat (refine List.forall_mem_cons.mpr ⟨by k_mem, ?_⟩)); (first | exact List.forall_mem_nil _ | (intro p hp; (repeat (first | assumption | (refine List.Mem.tail _ ?_)))))))
local macro_rules | `(tactic| walk_at "getAttr ref") => `(tactic| (k_here; (with_reducible show wpAny _ _ (getAttr (Value.ref _) (Str.ofString "key") _) _ _ _); k_dflt (refine' gkey_line ?k1 ?k2 ?k3 ?k7 ?k8 ?k10 ?k9 ?k4 ?k5 ?k6 ?_; (case k1 => k_asm); (case k2 => k_asm); (case k3 => k_asm); (case k7 => k_asm); (case k8 => k_mem); (case k10 => k_mem); (case k9 => k_asm); (case k4 => rfl); (case k5 => exact Nat.le_of_ble_eq_true rfl); (case k6 => exact Nat.le_of_ble_eq_true rfl); k_whole); intro h' tk' F' N'; (try k_sweep)))
local macro_rules | `(tactic| walk_at "getAttr ref") => `(tactic| (k_here; (with_reducible show wpAny _ _ (getAttr (Value.ref _) (Str.ofString "typename") _) _ _ _); k_dflt (refine' gname_line ?k1 ?k2 ?k3 ?k7 ?k8 ?k10 ?k9 ?k4 ?k5 ?k6 ?_; (case k1 => k_asm); (case k2 => k_asm); (case k3 => k_asm); (case k7 => k_asm); (case k8 => k_mem); (case k10 => k_mem); (case k9 => k_asm); (case k4 => rfl); (case k5 => exact Nat.le_of_ble_eq_true rfl); (case k6 => exact Nat.le_of_ble_eq_true rfl); k_whole); intro h' tk' F' N'; (try k_sweep)))
local macro_rules | `(tactic| walk_at "getAttr ref") => `(tactic| (k_here; (with_reducible show wpAny _ _ (getAttr (Value.ref _) (Str.ofString "prev") _) _ _ _); k_dflt (refine' gprev_line ?k1 ?k2 ?k3 ?k7 ?k8 ?k10 ?k9 ?k4 ?k5 ?k6 ?_; (case k1 => k_asm); (case k2 => k_asm); (case k3 => k_asm); (case k7 => k_asm); (case k8 => k_mem); (case k10 => k_mem); (case k9 => exact prev_handed (by assumption)); (case k4 => rfl); (case k5 => exact Nat.le_of_ble_eq_true rfl); (case k6 => exact Nat.le_of_ble_eq_true rfl); k_whole); intro h' tk' F' N'; (try k_sweep)))
local macro_rules | `(tactic| walk_at "compareOp IsNot") => `(tactic| (k_here; k_dflt (refine' isNot_name ?k1 ?_; (case k1 => assumption); k_whole)))
local macro_rules | `(tactic| walk_at "compareOp IsNot") => `(tactic| (k_here; k_dflt (refine' isNot_key ?k1 ?_; (case k1 => assumption); k_whole)))
local macro_rules | `(tactic| walk_at "binaryOp Add ref ref") => `(tactic| (k_here; k_dflt (refine' plus_line ?k1 ?k2 ?k3 ?k4 ?k5 ?k6 ?_; (case k1 => k_asm); (case k2 => k_asm); (case k3 => k_mem); (case k4 => k_mem); (case k5 => (simp only [keysOf, namesOf, List.length_reverse, List.length_map, List.length_cons, List.length_nil, List.length_append]; omega)); (case k6 => (simp only [keysOf, namesOf, List.length_reverse, List.length_map, List.length_cons, List.length_nil, List.length_append]; omega)); k_whole); intro r' h' F' N' l2'; (simp only [List.forall_mem_cons, List.not_mem_nil, false_imp_iff, implies_true, and_true] at l2'); (try k_sweep)))
local macro_rules | `(tactic| walk_at "getMethod ref") => `(tactic| (k_here; k_dflt (refine' getm_mem ?k1 ?k2 ?k3 ?k4 ?k5 ?k6 ?k7 ?k8 ?k9 ?_; (case k1 => k_asm); (case k2 => k_asm); (case k3 => k_asm); (case k4 => k_mem); (case k5 => k_mem); (case k6 => k_is); (case k7 => k_is); (case k8 => k_is); (case k9 => k_is); k_whole)))
local macro_rules | `(tactic| walk_at "call ref") => `(tactic| (k_here; k_dflt (show wpAny _ _ (call (Value.ref 87) [_]) _ _ _); k_dflt (refine' asl_line ?k1 ?k2 ?k3 ?k4 ?k5 ?k6 ?k7 ?k8 ?k9 ?_; (case k1 => k_asm); (case k2 => k_asm); (case k3 => k_asm); (case k4 => k_asm); (case k5 => (refine' chain_snoc ?m1 ?m2 ?m4 ?m5 ?m6 ?m3; (case m1 => k_mem); (case m2 => k_mem); (case m4 => assumption); (case m5 => assumption); (case m6 => assumption); (case m3 => (intro p hp; (repeat (first | assumption | (refine List.Mem.tail _ ?_))))))); (case k6 => (simp only [List.length_cons]; omega)); (case k7 => rfl); (case k8 => exact Nat.le_of_ble_eq_true rfl); (case k9 => exact Nat.le_of_ble_eq_true rfl); k_whole); intro r' h' tk' F' N' l1'; (try simp only [List.push_toArray] at l1'); (try k_sweep)))
local macro_rules | `(tactic| walk_at "call ref") => `(tactic| (k_here; k_dflt (show wpAny _ _ (call (Value.ref 159) [_, _]) _ _ _); k_dflt (refine' alike_line ?k1 ?k2 ?k3 ?k4 ?k5 ?k6 ?k7 ?k8 ?k9 ?k10 ?k11 ?k12 ?_; (case k1 => k_asm); (case k2 => k_asm); (case k3 => k_asm); (case k4 => k_asm); (case k5 => k_mem); (case k6 => k_mem); (case k7 => first | rfl | exact (keysOf_cons _ _ _).symm); (case k8 => assumption); (case k9 => (simp only [keysOf, List.length_reverse, List.length_map, List.length_cons]; omega)); (case k10 => rfl); (case k11 => exact Nat.le_of_ble_eq_true rfl); (case k12 => exact Nat.le_of_ble_eq_true rfl); k_whole); intro h' tk' F' N'; (try k_sweep)))
local macro_rules | `(tactic| walk_at "subscriptTail") => `(tactic| (k_here; (with_reducible show wpAny _ _ (subscriptTail _ _ (Value.ref _) (Value.int (-1) _)) _ _ _); k_dflt (refine' last_line2 ?k1 ?k2 ?k3 ?_ ?k6; (case k1 => k_asm); (case k2 => k_mem); (case k3 => omega); (case k6 => with_unfolding_all rfl); k_whole)))
local macro_rules | `(tactic| walk_at "call builtin:list.append") => `(tactic| (k_here; (with_reducible show wpAny _ _ (call (Value.builtin _) [Value.ref _, _]) _ _ _); k_dflt (refine' append_K ?k1 ?k2 ?k3 ?_ ?z; (case k1 => k_asm); (case k2 => k_asm); (case k3 => k_upd); (case z => first | assumption | size_fits); k_whole); intro h' F' N'; (try k_sweep)))
local macro_rules | `(tactic| walk_at "compareOp IsNot") => `(tactic| (k_here; k_dflt (refine' isNot_prev ?k1 ?_; (case k1 => assumption); k_whole)))
set_option pp.deepTerms false in
set_option pp.deepTerms.threshold 6 in
set_option maxRecDepth 100000 in
set_option maxHeartbeats 4000000 in
theorem turn_tail (w : World) (s : Shared) (pg : Program) (loose : List Str) (mg mb : Str → Option Value) (h₀ : Heap) (L fa cda : Addr) (E : Value → Shared → Prop) (R : Flow → Shared → Prop)
    (KX : (Mine.hx.heap_39 w.params).In h₀) (T : TopRead pg loose mg mb h₀)
    (pl to la lb a dd : Addr) (p k n : Value) (l : List (Value × Value)) (pvs : List Value) (Z news0 : List (Addr × Obj)) (ep ea eb : Nat) (m : Str → Option Value)
    (F : Fr h₀ L s.heap m) (m1 : m (Str.ofString "made") = some (.ref a)) (m2 : m (Str.ofString "old") = some (.ref to)) (m3 : m (Str.ofString "name") = some n) (m4 : m (Str.ofString "key") = some k) (m5 : m (Str.ofString "pool") = some (.ref pl))
    (N : News h₀ L s.heap news0)
    (e1 : (a, pathObj (some dd) p k n) ∈ news0) (e2 : (dd, dictOf [] 0) ∈ news0) (e3 : (to, entryObj p la lb) ∈ news0) (e4 : (la, W.listOf (keysOf l).toArray ea) ∈ news0) (e5 : (lb, W.listOf (namesOf l).toArray eb) ∈ news0) (e6 : (pl, W.listOf pvs.toArray ep) ∈ news0) (e7 : ∀ q ∈ Z, q ∈ news0)
    (hne : @Ne Nat a pl ∧ @Ne Nat dd pl ∧ @Ne Nat to pl ∧ @Ne Nat la pl ∧ @Ne Nat lb pl) (hZ : ∀ p ∈ Z, @Ne Nat p.1 pl) (hk : KeyV k) (hn : NameV n) (hc : ChainL Z p l) (hl : l.length ≤ pvs.length) (hz : pvs.length ≤ 90)
    (q : ∀ h' tk m' tu la' lb', Fr h₀ L h' m' → (∀ z, z ≠ Str.ofString "told" → m' z = m z) → News h₀ L h' ((tu, entryObj (.ref a) la' lb') :: (la', W.listOf (keysOf l ++ [k]).toArray 0) :: (lb', W.listOf (namesOf l ++ [n]).toArray 0) :: (a, pathObj (some dd) p k n) :: (dd, dictOf [] 0) :: (pl, W.listOf (pvs ++ [Value.ref tu]).toArray (ep + 1)) :: Z) → (@Ne Nat tu pl ∧ @Ne Nat la' pl ∧ @Ne Nat lb' pl) → ((∀ q ∈ Z, @Ne Nat q.1 tu) ∧ (∀ q ∈ Z, @Ne Nat q.1 la') ∧ (∀ q ∈ Z, @Ne Nat q.1 lb')) → R .next { s with heap := h', toks := tk }) :
    wpAny (model Challenge.rw_bn5012_01.prog w) (lawA L fa (.ref cda)) (execs tail1 (lawEnv L fa (.ref cda))) R E s := by
  have em : m = (fun z => if z = Str.ofString "made" then some (.ref a) else if z = Str.ofString "old" then some (.ref to) else if z = Str.ofString "name" then some n else if z = Str.ofString "key" then some k else if z = Str.ofString "pool" then some (.ref pl) else m z) := by
    funext z
    split
    · rename_i h; rw [h, m1]
    split
    · rename_i h; rw [h, m2]
    split
    · rename_i h; rw [h, m3]
    split
    · rename_i h; rw [h, m4]
    split
    · rename_i h; rw [h, m5]
    rfl
  rw [em] at F
  have hs : ∀ q ∈ ((a, pathObj (some dd) p k n) :: (dd, dictOf [] 0) :: (to, entryObj p la lb) :: (la, W.listOf (keysOf l).toArray ea) :: (lb, W.listOf (namesOf l).toArray eb) :: (pl, W.listOf pvs.toArray ep) :: Z), q ∈ news0 :=
    List.forall_mem_cons.mpr ⟨e1, List.forall_mem_cons.mpr ⟨e2, List.forall_mem_cons.mpr ⟨e3, List.forall_mem_cons.mpr ⟨e4, List.forall_mem_cons.mpr ⟨e5, List.forall_mem_cons.mpr ⟨e6, e7⟩⟩⟩⟩⟩⟩
  replace N := News.sub N hs
  have hp := hc.ref
  have hkv : ∀ v ∈ keysOf ((k, n) :: l), KeyV v := by
    intro v hv
    rw [keysOf_cons] at hv
    rcases List.mem_append.mp hv with hv | hv
    · obtain ⟨x, hx, rfl⟩ := List.mem_map.mp (List.mem_reverse.mp hv)
      exact (hc.all x hx).1
    · rw [List.mem_singleton.mp hv]; exact hk
  have fin : ∀ h' tk m' tu la' lb' nx, Fr h₀ L h' m' → (∀ z, z ≠ Str.ofString "told" → m' z = m z) → News h₀ L h' nx → (pl, W.listOf (pvs ++ [Value.ref tu]).toArray (ep + 1)) ∈ nx → (tu, entryObj (.ref a) la' lb') ∈ nx → (la', W.listOf (keysOf l ++ [k]).toArray 0) ∈ nx → (lb', W.listOf (namesOf l ++ [n]).toArray 0) ∈ nx → (a, pathObj (some dd) p k n) ∈ nx → (dd, dictOf [] 0) ∈ nx → (∀ q ∈ Z, q ∈ nx) → (@Ne Nat tu pl ∧ @Ne Nat la' pl ∧ @Ne Nat lb' pl) → ((∀ q ∈ Z, @Ne Nat q.1 tu) ∧ (∀ q ∈ Z, @Ne Nat q.1 la') ∧ (∀ q ∈ Z, @Ne Nat q.1 lb')) → R .next { s with heap := h', toks := tk } :=
    fun h' tk m' tu la' lb' nx F' hm N' f1 f2 f3 f4 f5 f6 f7 f8 f9 => q h' tk m' tu la' lb' F' hm (News.sub N' (List.forall_mem_cons.mpr ⟨f2, List.forall_mem_cons.mpr ⟨f3, List.forall_mem_cons.mpr ⟨f4, List.forall_mem_cons.mpr ⟨f5, List.forall_mem_cons.mpr ⟨f6, List.forall_mem_cons.mpr ⟨f1, f7⟩⟩⟩⟩⟩⟩)) f8 f9
  clear q
  clear e1 e2 e3 e4 e5 e6 e7 hs m1 m2 m3 m4 m5
  revert KX; k_fill; intro KX
  dsimp only [tail1, body1, lawRest, lawBody, lawDef, forOf, PySem.Challenge.pw_bn5012_01, List.getLast?, List.getLast, defOf, List.drop, lawEnv, lawScope, lawA]
  have hzs : (keysOf ((k, n) :: l)).toArray.size ≤ sizeLine := by
    rw [List.size_toArray, sizeLine_eq]; simp only [keysOf, List.length_reverse, List.length_map, List.length_cons]; omega
  w_on
  k_steps
  rename Fr _ _ _ _ => FF
  rename News _ _ _ _ => NN
  refine' fin _ _ _ _ _ _ _ FF ?f1 NN ?e1 ?e2 ?e3 ?e4 ?e5 ?e6 ?e7 ?e8 ?e9
  case f1 => intro z hz; have e := congrFun em z; simp only [if_neg hz] at e ⊢; exact e.symm
  case e1 => k_mem
  case e2 => k_mem
  case e3 => k_mem
  case e4 => k_mem
  case e5 => k_mem
  case e6 => k_mem
  case e7 =>
    intro p hp
    repeat (first | assumption | (refine List.Mem.tail _ ?_))
  case e8 =>
    clear hne NN FF fin
    exact ⟨by omega, by omega, by omega⟩
  case e9 =>
    refine' ⟨all_ne' ?g1, all_ne ?g2, all_ne ?g3⟩
    case g1 => repeat (first | assumption | apply And.right)
    case g2 => repeat (first | assumption | apply And.right)
    case g3 => repeat (first | assumption | apply And.right)
end Mine
end

section
open PySem PySem.W PyProof.Rows PySem.Calls PySem.SeqAt
set_option Elab.async false
namespace Mine
theorem sub_use {α : Type} {R0 Z : List α} {p : α} (H : ∀ p ∈ R0, p ∈ Z) (hp : p ∈ R0) : p ∈ Z := H p hp
theorem ne_a {news : List (Addr × Obj)} {r x : Addr} {o : Obj} (H : ∀ p ∈ news, @Ne Nat p.1 r) (hm : (x, o) ∈ news) : @Ne Nat r x := fun e => H _ hm e.symm
theorem turn_tail2 (w : World) (s : Shared) (pg : Program) (loose : List Str) (mg mb : Str → Option Value) (h₀ : Heap) (L fa cda : Addr) (E : Value → Shared → Prop) (R : Flow → Shared → Prop)
    (KX : (Mine.hx.heap_39 w.params).In h₀) (T : TopRead pg loose mg mb h₀)
    (pl to la lb a dd : Addr) (p k n : Value) (l : List (Value × Value)) (pvs : List Value) (Z news0 : List (Addr × Obj)) (ep ea eb : Nat) (m : Str → Option Value)
    (F : Fr h₀ L s.heap m) (m1 : m (Str.ofString "made") = some (.ref a)) (m2 : m (Str.ofString "old") = some (.ref to)) (m3 : m (Str.ofString "name") = some n) (m4 : m (Str.ofString "key") = some k) (m5 : m (Str.ofString "pool") = some (.ref pl))
    (N : News h₀ L s.heap news0)
    (e1 : (a, pathObj (some dd) p k n) ∈ news0) (e2 : (dd, dictOf [] 0) ∈ news0) (e3 : (to, entryObj p la lb) ∈ news0) (e4 : (la, W.listOf (keysOf l).toArray ea) ∈ news0) (e5 : (lb, W.listOf (namesOf l).toArray eb) ∈ news0) (e6 : (pl, W.listOf pvs.toArray ep) ∈ news0) (e7 : ∀ q ∈ Z, q ∈ news0)
    (hne : @Ne Nat a pl ∧ @Ne Nat dd pl ∧ @Ne Nat to pl ∧ @Ne Nat la pl ∧ @Ne Nat lb pl) (hZ : ∀ p ∈ Z, @Ne Nat p.1 pl) (hk : KeyV k) (hn : NameV n) {R0 : List (Addr × Obj)} (hR0 : ∀ q ∈ R0, q ∈ Z) (hc : ChainL R0 p l) (hl : l.length ≤ pvs.length) (hz : pvs.length ≤ 90)
    (ha : ∀ q ∈ Z, @Ne Nat q.1 a) (hdd : ∀ q ∈ Z, @Ne Nat q.1 dd)
    (q : ∀ h' tk m' tu la' lb' Nw, Fr h₀ L h' m' → (∀ z, z ≠ Str.ofString "told" → m' z = m z) → News h₀ L h' ((pl, W.listOf (pvs ++ [Value.ref tu]).toArray (ep + 1)) :: (Nw ++ Z)) → (∀ x ∈ Nw, @Ne Nat x.1 pl) → (∀ x ∈ Nw, ∀ q ∈ Z, @Ne Nat q.1 x.1) → EntryL (Nw ++ R0) tu (.ref a) la' lb' ((k, n) :: l) 0 0 → R .next { s with heap := h', toks := tk }) :
    wpAny (model Challenge.rw_bn5012_01.prog w) (lawA L fa (.ref cda)) (execs tail1 (lawEnv L fa (.ref cda))) R E s := by
  refine turn_tail w s pg loose mg mb h₀ L fa cda E R KX T pl to la lb a dd p k n l pvs Z news0 ep ea eb m F m1 m2 m3 m4 m5 N e1 e2 e3 e4 e5 e6 e7 hne hZ hk hn (hc.mono hR0) hl hz ?_
  intro h' tk m' tu la' lb' F' hm N' ⟨n1, n2, n3⟩ ⟨z1, z2, z3⟩
  refine q h' tk m' tu la' lb' [(tu, entryObj (.ref a) la' lb'), (la', W.listOf (keysOf l ++ [k]).toArray 0), (lb', W.listOf (namesOf l ++ [n]).toArray 0), (a, pathObj (some dd) p k n), (dd, dictOf [] 0)] F' hm (News.sub N' ?_) ?_ ?_ ?_
  · intro x hx
    simp only [List.mem_cons, List.cons_append, List.nil_append] at hx ⊢
    rcases hx with h | h | h | h | h | h | h <;> simp [h]
  · intro x hx
    simp only [List.mem_cons, List.not_mem_nil, or_false] at hx
    rcases hx with h | h | h | h | h <;> rw [h]
    · exact n1
    · exact n2
    · exact n3
    · exact hne.1
    · exact hne.2.1
  · intro x hx
    simp only [List.mem_cons, List.not_mem_nil, or_false] at hx
    rcases hx with h | h | h | h | h <;> rw [h]
    · exact z1
    · exact z2
    · exact z3
    · exact ha
    · exact hdd
  · refine ⟨.head _, ?_, ?_, ?_⟩
    · rw [keysOf_cons]; exact .tail _ (.head _)
    · rw [namesOf_cons]; exact .tail _ (.tail _ (.head _))
    · exact chain_snoc (.tail _ (.tail _ (.tail _ (.head _)))) (.tail _ (.tail _ (.tail _ (.tail _ (.head _))))) hk hn hc fun q hq => List.mem_append_right _ hq
/-- what a turn hands on -/
def TurnFin (h₀ : Heap) (L pl nl kl : Addr) (v1 : Option Value) (pvs : List Value) (ep : Nat) (Z R0 : List (Addr × Obj)) (R : Flow → Shared → Prop) (g : Array GenState) (d : Drawn) (o : OsState) : Prop :=
  ∀ h' tk m' tu a la' lb' l' Nw, Fr h₀ L h' m' → m' (Str.ofString "pool") = some (.ref pl) → m' (Str.ofString "names") = some (.ref nl) → m' (Str.ofString "keys") = some (.ref kl) → m' (Str.ofString "first") = v1 → News h₀ L h' ((pl, W.listOf (pvs ++ [Value.ref tu]).toArray (ep + 1)) :: (Nw ++ Z)) → (∀ x ∈ Nw, @Ne Nat x.1 pl) → (∀ x ∈ Nw, ∀ q ∈ Z, @Ne Nat q.1 x.1) → EntryL (Nw ++ R0) tu (.ref a) la' lb' l' 0 0 → l'.length ≤ pvs.length + 1 → R .next ⟨h', g, d, tk, o⟩
theorem turn_tail3 (w : World) (s : Shared) (pg : Program) (loose : List Str) (mg mb : Str → Option Value) (h₀ : Heap) (L fa cda : Addr) (E : Value → Shared → Prop) (R : Flow → Shared → Prop)
    (KX : (Mine.hx.heap_39 w.params).In h₀) (T : TopRead pg loose mg mb h₀)
    (pl to la lb a dd : Addr) (p k n : Value) (l : List (Value × Value)) (pvs : List Value) (Z news0 : List (Addr × Obj)) (ep ea eb : Nat) (m : Str → Option Value)
    (F : Fr h₀ L s.heap m) (m1 : m (Str.ofString "made") = some (.ref a)) (m2 : m (Str.ofString "old") = some (.ref to)) (m3 : m (Str.ofString "name") = some n) (m4 : m (Str.ofString "key") = some k) (m5 : m (Str.ofString "pool") = some (.ref pl))
    (N : News h₀ L s.heap news0)
    (e1 : (a, pathObj (some dd) p k n) ∈ news0) (e2 : (dd, dictOf [] 0) ∈ news0) (e3 : (to, entryObj p la lb) ∈ news0) (e4 : (la, W.listOf (keysOf l).toArray ea) ∈ news0) (e5 : (lb, W.listOf (namesOf l).toArray eb) ∈ news0) (e6 : (pl, W.listOf pvs.toArray ep) ∈ news0) (e7 : ∀ q ∈ Z, q ∈ news0)
    (hne : @Ne Nat a pl ∧ @Ne Nat dd pl ∧ @Ne Nat to pl ∧ @Ne Nat la pl ∧ @Ne Nat lb pl) (hZ : ∀ p ∈ Z, @Ne Nat p.1 pl) (hk : KeyV k) (hn : NameV n) {R0 : List (Addr × Obj)} (hR0 : ∀ q ∈ R0, q ∈ Z) (hc : ChainL R0 p l) (hl : l.length ≤ pvs.length) (hz : pvs.length ≤ 90)
    (nl kl : Addr) (v1 : Option Value) (g : Array GenState) (d : Drawn) (o : OsState) (m6 : m (Str.ofString "names") = some (.ref nl)) (m7 : m (Str.ofString "keys") = some (.ref kl)) (m8 : m (Str.ofString "first") = v1) (hg : s.gens = g) (hd : s.drawn = d) (ho : s.os = o)
    (fin : TurnFin h₀ L pl nl kl v1 pvs ep Z R0 R g d o) (ha : ∀ q ∈ Z, @Ne Nat q.1 a) (hdd : ∀ q ∈ Z, @Ne Nat q.1 dd)
    : wpAny (model Challenge.rw_bn5012_01.prog w) (lawA L fa (.ref cda)) (execs tail1 (lawEnv L fa (.ref cda))) R E s := by
  subst hg hd ho
  refine turn_tail2 w s pg loose mg mb h₀ L fa cda E R KX T pl to la lb a dd p k n l pvs Z news0 ep ea eb m F m1 m2 m3 m4 m5 N e1 e2 e3 e4 e5 e6 e7 hne hZ hk hn hR0 hc hl hz ha hdd ?_
  intro h' tk m' tu la' lb' Nw F' hm N' n1 n2 y
  exact fin h' tk m' tu a la' lb' _ Nw F' ((hm _ (by decide)).trans m5) ((hm _ (by decide)).trans m6) ((hm _ (by decide)).trans m7) ((hm _ (by decide)).trans m8) N' n1 n2 y (by rw [List.length_cons]; omega)
end Mine
end

section
open PySem PySem.W PyProof.Rows PySem.Calls PySem.SeqAt
set_option Elab.async false
namespace Mine
section
variable {w : World} {A : Around} {E : Value → Shared → Prop} {s : Shared} {h₀ : Heap} {L a b x y : Addr} {m : Str → Option Value} {news Z : List (Addr × Obj)} {xs ys : List Value} {e e2 : Nat} {ch ch2 : List (Value × Value)} {Q : Value → Shared → Prop}
theorem len_mem {prog : Program} (N : News h₀ L s.heap news) (hm : (x, W.listOf xs.toArray e) ∈ news) (hz : xs.length ≤ 100) (q : ∀ tk tk', Q (.int (xs.length : Int) tk) { s with toks := tk' }) : wpAny (model prog w) A (call (.builtin "len") [.ref x]) Q E s := len_line (isList_of N hm) hz q
theorem script_keys {R : WRecords} {w : World} {s₀ s₁ : Shared} {ns : List Int} {a : Addr} {as : List Addr} {vs : List Value} (L : Laid R w s₀ s₁ [ofPy (PyData.list (ns.map PyData.int))] [.ref a] as) (hL : s₁.heap.IsList a vs.toArray) (h0 : s₀.toks = 444) : ∀ v ∈ vs, KeyV v := by
  obtain ⟨ord, _, e⟩ := L.laid
  simp only [ofPy, layAllW, layW] at e
  cases q : layAllW R (classAt s₀.heap) w.params ord (ofPys (List.map PyData.int ns)) s₀ with
  | none => rw [q] at e; cases e
  | some r =>
    rw [q] at e
    simp only [Option.some.injEq, Prod.mk.injEq, List.cons.injEq, Value.ref.injEq] at e
    obtain ⟨⟨ea, _⟩, es⟩ := e
    have g : s₁.heap.get? a = some { cls := .type "list", data := .seq r.1.toArray } := by
      rw [← es, ← ea]
      exact Heap.get?_push_size _ rfl
    obtain ⟨o, ho, _, n, hd⟩ := hL
    rw [g] at ho
    cases ho
    simp only [Data.seq.injEq] at hd
    have ev : r.1 = vs := by have := congrArg Array.toList hd.1; simpa using this
    subst ev
    have gen : ∀ (ns : List Int) (s : Shared) (r : List Value × Shared), 0 < s.toks → layAllW R (classAt s₀.heap) w.params ord (ofPys (ns.map PyData.int)) s = some r → ∀ v ∈ r.1, KeyV v := by
      intro ns
      induction ns with
      | nil =>
        intro s r _ e
        have : layAllW R (classAt s₀.heap) w.params ord (ofPys (List.map PyData.int [])) s = some ([], s) := by simp [ofPys, layAllW]
        rw [this] at e
        cases e
        intro v hv; cases hv
      | cons n ns ih =>
        intro s r hs e
        simp only [List.map_cons, ofPys, ofPy, layAllW, layW] at e
        cases q : layAllW R (classAt s₀.heap) w.params ord (ofPys (List.map PyData.int ns)) { s with toks := s.toks + 1 } with
        | none => rw [q] at e; cases e
        | some r' =>
          rw [q] at e
          cases e
          have z := ih { s with toks := s.toks + 1 } r' (Nat.succ_pos _) q
          intro v hv
          rcases List.mem_cons.mp hv with rfl | hv
          · exact Nat.pos_iff_ne_zero.mp hs
          · exact z v hv
    exact gen ns s₀ r (by rw [h0]; decide) q
end
end Mine
end

section
open PySem PySem.W PyProof.Rows PySem.Calls PySem.SeqAt
set_option Elab.async false
namespace Mine
local macro_rules | `(tactic| k_all) => `(tactic| (refine all_by (by assumption) ?_; (repeat (refine List.forall_mem_cons.mpr ⟨by k_mem, ?_⟩)); (first | exact List.forall_mem_nil _ | (intro p hp; (try have hz' := sub_use (by assumption) hp); (repeat (first | assumption | (refine List.Mem.tail _ ?_)))))))
local macro_rules | `(tactic| walk_at "subscriptTail") => `(tactic| (k_here; (with_reducible show wpAny _ _ (subscriptTail _ _ (Value.ref _) (Value.int (Int.fmod _ _) _)) _ _ _); k_dflt (refine' name_line ?k1 ?k2 ?k3 ?k4 ?k5 ?k6 ?_ ?k8; (case k1 => k_asm); (case k2 => (repeat (first | assumption | (refine List.Mem.tail _ ?_)))); (case k3 => assumption); (case k4 => omega); (case k5 => decide); (case k6 => omega); (case k8 => with_unfolding_all rfl); k_whole); intro v' hv'; (try k_sweep)))
local macro_rules | `(tactic| walk_at "subscriptTail") => `(tactic| (k_here; (with_reducible show wpAny _ _ (subscriptTail _ _ (Value.ref _) (Value.int (Int.fmod _ _) _)) _ _ _); k_dflt (refine' key_line ?k1 ?k2 ?k3 ?k4 ?k5 ?k6 ?_ ?k8; (case k1 => k_asm); (case k2 => (repeat (first | assumption | (refine List.Mem.tail _ ?_)))); (case k3 => assumption); (case k4 => omega); (case k5 => decide); (case k6 => omega); (case k8 => with_unfolding_all rfl); k_whole); intro v' hv'; (try k_sweep)))
local macro_rules | `(tactic| walk_at "subscriptTail") => `(tactic| (k_here; (with_reducible show wpAny _ _ (subscriptTail _ _ (Value.ref _) (Value.int (_ - _) _)) _ _ _); (rename News _ _ _ _ => lN'); k_dflt (refine' pool_line ?k1 ?k2 ?k3 ?k4 ?k5 ?k6 ?k7 ?k9 ?_ ?k8; (case k1 => exact lN'); (case k2 => k_mem); (case k3 => assumption); (case k4 => (intro p hp; (try have hz' := sub_use (by assumption) hp); (repeat (first | assumption | (refine List.Mem.tail _ ?_))))); (case k5 => assumption); (case k6 => omega); (case k7 => exact back_lt _ _); (case k9 => omega); (case k8 => with_unfolding_all rfl); k_whole); clear lN'; intro ta' a' la' lb' l' ea' eb' hl' hc' N' hne'))
local macro_rules | `(tactic| walk_at "getMethod ref") => `(tactic| (k_here; k_dflt (refine' getm_chain ?k1 ?k2 ?k3 ?k4 ?k5 ?k6 ?k7 ?k8 ?k9 ?_; (case k1 => k_asm); (case k2 => k_asm); (case k3 => k_asm); (case k4 => assumption); (case k5 => (intro p hp; (try have hz' := sub_use (by assumption) hp); (repeat (first | assumption | (refine List.Mem.tail _ ?_))))); (case k6 => k_is); (case k7 => k_is); (case k8 => k_is); (case k9 => k_is); k_whole)))
local macro_rules | `(tactic| walk_at "call ref") => `(tactic| (k_here; k_dflt (show wpAny _ _ (call (Value.ref 80) [_, _]) _ _ _); k_dflt (refine' addk1_line ?k1 ?k2 ?k3 ?k7 ?k8 ?k9 ?_; (case k1 => k_asm); (case k2 => k_asm); (case k3 => k_asm); (case k7 => rfl); (case k8 => exact Nat.le_of_ble_eq_true rfl); (case k9 => exact Nat.le_of_ble_eq_true rfl); k_whole); intro a' dd' h' tk' F' N' l1' l2'; (try k_sweep)))
local macro_rules | `(tactic| walk_at "call ref") => `(tactic| (k_here; k_dflt (show wpAny _ _ (call (Value.ref 80) [_, _, _]) _ _ _); k_dflt (refine' addk2_line ?k1 ?k2 ?k3 ?k7 ?k8 ?k9 ?_; (case k1 => k_asm); (case k2 => k_asm); (case k3 => k_asm); (case k7 => rfl); (case k8 => exact Nat.le_of_ble_eq_true rfl); (case k9 => exact Nat.le_of_ble_eq_true rfl); k_whole); intro a' dd' h' tk' F' N' l1' l2'; (try k_sweep)))
local macro_rules | `(tactic| walk_at "call ref") => `(tactic| (k_here; k_dflt (show wpAny _ _ (call (Value.ref 150) [_, _, _]) _ _ _); k_dflt (refine' pnew_line ?k1 ?k2 ?k3 ?k7 ?k8 ?k9 ?_; (case k1 => k_asm); (case k2 => k_asm); (case k3 => k_asm); (case k7 => rfl); (case k8 => exact Nat.le_of_ble_eq_true rfl); (case k9 => exact Nat.le_of_ble_eq_true rfl); k_whole); intro a' dd' h' tk' F' N' l1' l2'; (try k_sweep)))
local macro_rules | `(tactic| walk_at "call builtin:len") => `(tactic| (k_here; (with_reducible show wpAny _ _ (call (Value.builtin "len") [Value.ref _]) _ _ _); k_dflt (refine' len_mem ?k1 ?k2 ?k3 ?_; (case k1 => k_asm); (case k2 => k_mem); (case k3 => omega); k_whole); intro tk' tk''))
local macro_rules | `(tactic| walk_at "execs cons") => `(tactic| ((with_reducible show wpAny _ _ (execs (Stmt.If (Expr.BoolOp BoolOp.Or _ _) _ _ _ :: _) _) _ _ _); k_dflt (refine' turn_tail3 _ _ _ _ _ _ _ _ _ _ _ _ ?kx ?t _ _ _ _ _ _ _ _ _ _ _ _ _ _ _ _ _ ?f ?m1 ?m2 ?m3 ?m4 ?m5 ?n ?e1 ?e2 ?e3 ?e4 ?e5 ?e6 ?e7 ?hne ?hZ ?hk ?hn ?hR0 ?hc ?hl ?hz _ _ _ _ _ _ ?m6 ?m7 ?m8 ?hg ?hd ?ho ?fin ?ha ?hdd; (case kx => k_asm); (case t => k_asm); (case f => assumption); (case m1 => with_unfolding_all rfl); (case m2 => with_unfolding_all rfl); (case m3 => with_unfolding_all rfl); (case m4 => with_unfolding_all rfl); (case m5 => with_unfolding_all rfl); (case n => assumption); (case e1 => k_mem); (case e2 => k_mem); (case e3 => k_mem); (case hZ => assumption); (case hR0 => assumption); (case hc => first | assumption | exact ChainL.nil); (case e4 => k_mem); (case e5 => k_mem); (case e6 => k_mem); (case m6 => with_unfolding_all rfl); (case m7 => with_unfolding_all rfl); (case fin => assumption); (case m8 => with_unfolding_all rfl); (case hg => rfl); (case hd => rfl); (case ho => rfl); (case e7 => (intro p hp; (try have hz' := sub_use (by assumption) hp); (repeat (first | assumption | (refine List.Mem.tail _ ?_))))); (case hne => exact ⟨ne_a (by assumption) (by k_mem), ne_a (by assumption) (by k_mem), by omega, by omega, by omega⟩); (case hk => assumption); (case hn => first | assumption | exact True.intro); (case hl => first | assumption | exact Nat.zero_le _); (case hz => assumption); (case ha => (refine all_by (by assumption) ?_; (intro p hp; (try have hz' := sub_use (by assumption) hp); (repeat (first | assumption | (refine List.Mem.tail _ ?_)))))); (case hdd => (refine all_by (by assumption) ?_; (intro p hp; (try have hz' := sub_use (by assumption) hp); (repeat (first | assumption | (refine List.Mem.tail _ ?_)))))))))
set_option pp.deepTerms false in
set_option pp.deepTerms.threshold 8 in
set_option maxRecDepth 100000 in
set_option maxHeartbeats 4000000 in
theorem turn1 (w : World) (s : Shared) (pg : Program) (loose : List Str) (mg mb : Str → Option Value) (h₀ : Heap) (L fa cda : Addr) (E : Value → Shared → Prop) (R : Flow → Shared → Prop)
    (KX : (Mine.hx.heap_39 w.params).In h₀) (T : TopRead pg loose mg mb h₀)
    (pl kl nl : Addr) (i : Int) (ti : Tok) (ks ns4 pvs : List Value) (Z : List (Addr × Obj)) (ep : Nat) (u : Str → Option Value)
    (F : Fr h₀ L s.heap (fun z => if z = Str.ofString "number" then some (.int i ti) else if z = Str.ofString "pool" then some (.ref pl) else if z = Str.ofString "names" then some (.ref nl) else if z = Str.ofString "keys" then some (.ref kl) else u z))
    (N : News h₀ L s.heap ((pl, W.listOf pvs.toArray ep) :: Z)) (R0 : List (Addr × Obj)) (hR0 : ∀ q ∈ R0, q ∈ Z) (hZ0 : ∀ p ∈ R0, @Ne Nat p.1 pl) (hP : PoolL R0 pvs)
    (hkz : (kl, W.listOf ks.toArray 0) ∈ Z) (hnz : (nl, W.listOf ns4.toArray 0) ∈ Z) (hks : ∀ v ∈ ks, KeyV v) (hns : ∀ v ∈ ns4, NameV v) (hk7 : ks.length = 7) (hn4 : ns4.length = 4)
    (hZ : ∀ p ∈ Z, @Ne Nat p.1 pl) (hz : pvs.length ≤ 90)
    (fin : TurnFin h₀ L pl nl kl (u (Str.ofString "first")) pvs ep Z R0 R s.gens s.drawn s.os) :
    wpAny (model Challenge.rw_bn5012_01.prog w) (lawA L fa (.ref cda)) (execs body1 (lawEnv L fa (.ref cda))) R E s := by
  revert KX; k_fill; intro KX
  dsimp only [tail1, body1, lawRest, lawBody, lawDef, forOf, PySem.Challenge.pw_bn5012_01, List.getLast?, List.getLast, defOf, List.drop, lawEnv, lawScope, lawA]
  w_on
  k_steps
  all_goals (try (exfalso; omega))
end Mine
end

section
open PySem PySem.W PyProof.Rows PySem.Calls PySem.SeqAt
set_option Elab.async false
namespace Mine
theorem walks_list2 {prog : Program} {w : World} {A : Around} (hh : A.handled = none) (I ax : Addr) (hne : ax ≠ I) (items : Array Value) :
    Walks prog w A I [I, ax] [I, ax] items.size (fun i v => items[i]? = some v) (fun i h => h.IsListIter I ax i ∧ h.IsList ax items) :=
  let W := Walks.list (prog := prog) (w := w) hh I ax hne items
  { sub := fun b hb => hb
    frame := W.frame
    item := fun i s Q E hi st hQ => W.item i s Q E hi st fun v h' tk hp st' hk => hQ v h' tk hp st' fun b o hb e => hk b o (fun h => hb (List.mem_cons.mpr (.inl (List.mem_singleton.mp h)))) e
    done := fun s Q E st hQ => W.done s Q E st fun h' tk hk => hQ h' tk fun b o hb e => hk b o (fun h => hb (List.mem_cons.mpr (.inl (List.mem_singleton.mp h)))) e
    self := W.self }
section
variable {prog : Program} {w : World} {A : Around} {E : Value → Shared → Prop} {s : Shared} {env : Env} {h₀ : Heap} {x : Str} {body : List Stmt} {Q : Flow → Shared → Prop}
/-- a walk over a list of the ledger, or of the base -/
theorem iter_new {l : Addr} {vs : List Value} {ns : List Int} {m₀ : Str → Option Value} {news : List (Addr × Obj)} (J : Nat → (Str → Option Value) → List (Addr × Obj) → Prop)
    (hh : A.handled = none) (hl : s.heap.IsList l vs.toArray) (hl0 : h₀.get? l = none) (hlL : l ≠ env.locals) (hln : ∀ p ∈ news, p.1 ≠ l) (hi : IntsAre vs ns) (F : Fr h₀ env.locals s.heap m₀) (N : News h₀ env.locals s.heap news) (hj : J 0 m₀ news)
    (turn : ∀ i n t m₁ nx h tk own, ns[i]? = some n → TbOff own nx → J i m₁ nx → Fr h₀ env.locals h (fun y => if y = x then some (.int n t) else m₁ y) → News h₀ env.locals h (nx ++ own) →
      wpAny (model prog w) A (execs body env) (TbPost h₀ env.locals (J (i + 1)) own { s with heap := h, toks := tk } Q) E { s with heap := h, toks := tk })
    (done : ∀ m₁ nx h tk, J ns.length m₁ nx → Fr h₀ env.locals h m₁ → News h₀ env.locals h nx → Q .next { s with heap := h, toks := tk }) :
    wpAny (model prog w) A (pyIter (.ref l)) (fun it s₂ => LoopAtV prog w A h₀ env x body Q E it s₂) E s := by
  obtain ⟨ol, hol, _⟩ := id hl
  have hne : l ≠ s.heap.objs.size := Nat.ne_of_lt (Heap.lt_size hol)
  refine wpAny_pyIter_list hl ?_
  have W := walks_list2 (prog := prog) (w := w) hh s.heap.objs.size l hne vs.toArray
  have hlen : vs.toArray.size = ns.length := by simp [hi.length]
  rw [hlen] at W
  refine tbr_loop J W (fun _ h => h) (fun _ h => h) ?_ ?_ ?_ ?_ ⟨⟨_, Heap.get?_push_size _ rfl, rfl, rfl⟩, hl.at fun o e => Heap.get?_push_of_some _ e⟩ (F.push _) (fun p hp => ⟨Heap.get?_push_of_some _ (N p hp).1, (N p hp).2⟩) hj ?_ ?_
  · rintro i h ⟨⟨o1, h1, _⟩, ⟨o2, h2, _⟩⟩ b hb
    rcases List.mem_cons.mp hb with rfl | hb
    · exact ⟨_, h1⟩
    · rw [List.mem_singleton.mp hb]; exact ⟨_, h2⟩
  · intro hm
    rcases List.mem_cons.mp hm with e | hm
    · exact absurd F.ns.lt (e ▸ Nat.lt_irrefl _)
    · exact hlL (List.mem_singleton.mp hm).symm
  · intro b hb
    rcases List.mem_cons.mp hb with rfl | hb
    · exact next_is_new F
    · rw [List.mem_singleton.mp hb]; exact hl0
  · intro p hp hI
    rcases List.mem_cons.mp hI with e | hI
    · exact absurd (Heap.lt_size (N p hp).1) (e ▸ Nat.lt_irrefl _)
    · exact hln p hp (List.mem_singleton.mp hI)
  · intro i v m₁ nx h tk own hin hP hoff hJ F₁ N₁
    have hlt' : i < ns.length := hin
    obtain ⟨t, hx⟩ := hi.get i ns[i] (by simp [hlt'])
    have hv : v = .int ns[i] t := by
      have hP' : vs[i]? = some v := by simpa using hP
      rw [hx] at hP'; exact (Option.some.inj hP').symm
    subst hv
    exact turn i ns[i] t m₁ nx h tk own (by simp [hlt']) hoff hJ F₁ N₁
  · exact done
end
/-- the first loop's invariant -/
def J1 (pl nl kl : Addr) (ks ns4 : List Value) (v1 : Option Value) (i : Nat) (m : Str → Option Value) (nx : List (Addr × Obj)) : Prop :=
  ∃ pvs R0 ep, nx = (pl, W.listOf pvs.toArray ep) :: R0 ∧ pvs.length = i ∧ PoolL R0 pvs ∧ (kl, W.listOf ks.toArray 0) ∈ R0 ∧ (nl, W.listOf ns4.toArray 0) ∈ R0 ∧ (∀ p ∈ R0, @Ne Nat p.1 pl) ∧
    m (Str.ofString "pool") = some (.ref pl) ∧ m (Str.ofString "names") = some (.ref nl) ∧ m (Str.ofString "keys") = some (.ref kl) ∧ m (Str.ofString "first") = v1
theorem loop1_turn (w : World) (s : Shared) (pg : Program) (loose : List Str) (mg mb : Str → Option Value) (h₀ : Heap) (L fa cda : Addr) (E : Value → Shared → Prop) (Q : Flow → Shared → Prop)
    (KX : (Mine.hx.heap_39 w.params).In h₀) (T : TopRead pg loose mg mb h₀) (pl nl kl : Addr) (ks ns4 : List Value) (v1 : Option Value)
    (hks : ∀ v ∈ ks, KeyV v) (hns : ∀ v ∈ ns4, NameV v) (hk7 : ks.length = 7) (hn4 : ns4.length = 4)
    (i : Nat) (hi : i ≤ 90) (n : Int) (t : Tok) (m₁ : Str → Option Value) (nx own : List (Addr × Obj)) (hoff : TbOff own nx) (hJ : J1 pl nl kl ks ns4 v1 i m₁ nx)
    (F : Fr h₀ L s.heap (fun y => if y = Str.ofString "number" then some (.int n t) else m₁ y)) (N : News h₀ L s.heap (nx ++ own)) :
    wpAny (model Challenge.rw_bn5012_01.prog w) (lawA L fa (.ref cda)) (execs body1 (lawEnv L fa (.ref cda))) (TbPost h₀ L (J1 pl nl kl ks ns4 v1 (i + 1)) own s Q) E s := by
  obtain ⟨pvs, R0, ep, rfl, hlen, hP, hkl, hnl, hne, m1, m2, m3, m4⟩ := hJ
  have em : m₁ = (fun z => if z = Str.ofString "pool" then some (.ref pl) else if z = Str.ofString "names" then some (.ref nl) else if z = Str.ofString "keys" then some (.ref kl) else m₁ z) := by
    funext z
    split
    · rename_i h; rw [h, m1]
    split
    · rename_i h; rw [h, m2]
    split
    · rename_i h; rw [h, m3]
    rfl
  rw [em] at F
  refine turn1 w s pg loose mg mb h₀ L fa cda E _ KX T pl kl nl n t ks ns4 pvs (R0 ++ own) ep m₁ F N R0 (fun q hq => List.mem_append_left _ hq) hne hP (List.mem_append_left _ hkl) (List.mem_append_left _ hnl) hks hns hk7 hn4 ?_ (by omega) ?_
  · intro p hp
    rcases List.mem_append.mp hp with hp | hp
    · exact hne p hp
    · exact hoff p hp _ (.head _)
  · intro h' tk m' tu a la' lb' l' Nw F' f1 f2 f3 f4 N' n1 n2 y hl
    show TbEnd h₀ L (J1 pl nl kl ks ns4 v1 (i + 1)) own s _
    refine ⟨h', tk, m', _, (pl, W.listOf (pvs ++ [Value.ref tu]).toArray (ep + 1)) :: (Nw ++ R0), rfl, F', N', ?_, ?_, ?_, pvs ++ [Value.ref tu], Nw ++ R0, ep + 1, rfl, ?_, ?_, ?_, ?_, ?_, f1, f2, f3, f4.trans m4⟩
    · intro p hp
      rcases List.mem_cons.mp hp with rfl | hp
      · exact .head _
      rcases List.mem_append.mp hp with hp | hp
      · exact .tail _ (List.mem_append_left _ hp)
      · exact .tail _ (List.mem_append_right _ (List.mem_append_left _ hp))
    · intro p hp
      exact .tail _ (List.mem_append_right _ (List.mem_append_right _ hp))
    · intro p hp q hq
      rcases List.mem_cons.mp hq with rfl | hq
      · exact hoff p hp (pl, W.listOf pvs.toArray ep) (.head _)
      rcases List.mem_append.mp hq with hq | hq
      · exact n2 q hq p (List.mem_append_right _ hp)
      · exact hoff p hp q (.tail _ hq)
    · rw [List.length_append, List.length_singleton, hlen]
    · exact PoolL.snoc hP (fun q hq => List.mem_append_right _ hq) y hl
    · exact List.mem_append_right _ hkl
    · exact List.mem_append_right _ hnl
    · intro p hp
      rcases List.mem_append.mp hp with hp | hp
      · exact n1 p hp
      · exact hne p hp
end Mine
end

section
open PySem PySem.W PyProof.Rows PySem.Calls PySem.SeqAt
set_option Elab.async false
namespace Mine
theorem chain_in {Z news : List (Addr × Obj)} {v : Value} {ch : List (Value × Value)} (hc : ChainL Z v ch) (hsub : ∀ p ∈ Z, p ∈ news) : ChainL news v ch := hc.mono hsub
theorem fm_lo2 (x : Int) {n : Nat} (h : 0 < n) : -(n : Int) ≤ Int.fmod x n := by have := Int.fmod_nonneg_of_pos x (b := (n : Int)) (by omega); omega
theorem fm_hi2 (x : Int) {n : Nat} (h : 0 < n) : Int.fmod x n < n := Int.fmod_lt_of_pos x (by omega)
theorem keys_all {Z : List (Addr × Obj)} {v : Value} {ch : List (Value × Value)} (hc : ChainL Z v ch) : ∀ x ∈ keysOf ch, KeyV x := fun x hx => by
  obtain ⟨y, hy, rfl⟩ := List.mem_map.mp (List.mem_reverse.mp hx)
  exact (hc.all y hy).1
theorem names_all {Z : List (Addr × Obj)} {v : Value} {ch : List (Value × Value)} (hc : ChainL Z v ch) : ∀ x ∈ namesOf ch, NameV x := fun x hx => by
  obtain ⟨y, hy, rfl⟩ := List.mem_map.mp (List.mem_reverse.mp hx)
  exact (hc.all y hy).2
section
variable {w : World} {A : Around} {E : Value → Shared → Prop} {s : Shared} {h₀ : Heap} {L a b x y : Addr} {m : Str → Option Value} {news Z : List (Addr × Obj)} {e e2 : Nat} {ch ch2 : List (Value × Value)} {Q : Value → Shared → Prop}
theorem rc_chains {K : Frag} {h : Heap} {A : Around} {s : Shared} (hs : s.heap = h) (X : K.In s.heap) (H : PathK K) (c : Chain h (.ref a) ch) (c2 : Chain h (.ref b) ch2) (hu : A.units + 200 < cLine) (hl : ch.length ≤ 100) : RcAt A s (.ref a) (.ref b) (eqC ch ch2) := by
  subst hs
  cases c with
  | cons P hk hn c =>
    cases c2 with
    | cons P' hk' hn' c' =>
      simp only [List.length_cons] at hl
      exact rc_path_path X H P P' (by omega) (chain_eq c H rfl X c' (by show A.units + 1 + _ < cLine; omega)) (eq_key hk hk') (eq_name hn hn')
theorem cl_units : (7 : Nat) + 200 < cLine := by decide
theorem eq_paths {prog : Program} (F : Fr h₀ L s.heap m) (N : News h₀ L s.heap news) (X : (Mine.hx.heap_39 w.params).In h₀) (hc : ChainL Z (.ref a) ch) (hc2 : ChainL Z (.ref b) ch2) (hsub : ∀ p ∈ Z, p ∈ news) (hl : ch.length ≤ 100) (hu : A.units ≤ 4500)
    (q : Q (.bool (eqL (keysOf ch) (keysOf ch2) && eqL (namesOf ch) (namesOf ch2))) s) : wpAny (model prog w) A (compareOp .Eq (.ref a) (.ref b)) Q E s := by
  have r : RcAt A s (.ref a) (.ref b) (eqC ch ch2) := rc_chains rfl (X.keeps F.keep) (pathK w) ((hc.mono hsub).at N) ((hc2.mono hsub).at N) (Nat.lt_of_le_of_lt (Nat.add_le_add_right hu 200) (by decide)) hl
  rw [sides hc.all hc2.all] at r
  exact r prog w E Q q
theorem eq_keys {prog : Program} (N : News h₀ L s.heap news) (h1 : (x, W.listOf (keysOf ch).toArray e) ∈ news) (h2 : (y, W.listOf (keysOf ch2).toArray e2) ∈ news) (k1 : ∀ v ∈ keysOf ch, KeyV v) (k2 : ∀ v ∈ keysOf ch2, KeyV v) (hu : A.units ≤ 4500)
    (q : Q (.bool (eqL (keysOf ch) (keysOf ch2))) s) : wpAny (model prog w) A (compareOp .Eq (.ref x) (.ref y)) Q E s :=
  (rc_keys (isList_of N h1) (isList_of N h2) (Nat.lt_of_le_of_lt hu (by decide)) k1 k2) prog w E Q q
theorem eq_names {prog : Program} (N : News h₀ L s.heap news) (h1 : (x, W.listOf (namesOf ch).toArray e) ∈ news) (h2 : (y, W.listOf (namesOf ch2).toArray e2) ∈ news) (k1 : ∀ v ∈ namesOf ch, NameV v) (k2 : ∀ v ∈ namesOf ch2, NameV v) (hu : A.units ≤ 4500)
    (q : Q (.bool (eqL (namesOf ch) (namesOf ch2))) s) : wpAny (model prog w) A (compareOp .Eq (.ref x) (.ref y)) Q E s :=
  (rc_names (isList_of N h1) (isList_of N h2) (Nat.lt_of_le_of_lt hu (by decide)) k1 k2) prog w E Q q
theorem ne_line1 {prog : Program} {X Y : Bool} (h : X = true) (q : Q (.bool false) s) : wpAny (model prog w) A (compareOp .NotEq (.bool (X && Y)) (.bool Y)) Q E s := by
  refine ne_bool ?_
  rw [h, Bool.true_and, bne_self_eq_false]; exact q
theorem ne_line2 {prog : Program} {X Y : Bool} (h : X = false) (q : Q (.bool false) s) : wpAny (model prog w) A (compareOp .NotEq (.bool (X && Y)) (.bool X)) Q E s := by
  refine ne_bool ?_
  rw [h, Bool.false_and, bne_self_eq_false]; exact q
end
end Mine
end

section
open PySem PySem.W PyProof.Rows PySem.Calls PySem.SeqAt
set_option Elab.async false
namespace Mine
local macro_rules | `(tactic| k_all) => `(tactic| (refine all_by (by assumption) ?_; (repeat (refine List.forall_mem_cons.mpr ⟨by k_mem, ?_⟩)); (first | exact List.forall_mem_nil _ | (intro p hp; (try have hz' := sub_use (by assumption) hp); (repeat (first | assumption | (refine List.Mem.tail _ ?_)))))))
local macro_rules | `(tactic| walk_at "getMethod ref") => `(tactic| (k_here; k_dflt (refine' getm_chain ?k1 ?k2 ?k3 ?k4 ?k5 ?k6 ?k7 ?k8 ?k9 ?_; (case k1 => k_asm); (case k2 => k_asm); (case k3 => k_asm); (case k4 => assumption); (case k5 => (intro p hp; (try have hz' := sub_use (by assumption) hp); (repeat (first | assumption | (refine List.Mem.tail _ ?_))))); (case k6 => k_is); (case k7 => k_is); (case k8 => k_is); (case k9 => k_is); k_whole)))
local macro_rules | `(tactic| walk_at "call builtin:len") => `(tactic| (k_here; (with_reducible show wpAny _ _ (call (Value.builtin "len") [Value.ref _]) _ _ _); k_dflt (refine' len_mem ?k1 ?k2 ?k3 ?_; (case k1 => k_asm); (case k2 => k_mem); (case k3 => omega); k_whole); intro tk' tk''))
local macro_rules | `(tactic| walk_at "subscriptTail") => `(tactic| (k_here; (with_reducible show wpAny _ _ (subscriptTail (Expr.Name _ _) _ (Value.ref _) (Value.int _ _)) _ _ _); (rename News _ _ _ _ => lN'); k_dflt (refine' pool_line ?k1 ?k2 ?k3 ?k4 ?k5 ?k6 ?k7 ?k9 ?_ ?k8; (case k1 => exact lN'); (case k2 => k_mem); (case k3 => assumption); (case k4 => (intro p hp; (try have hz' := sub_use (by assumption) hp); (repeat (first | assumption | (refine List.Mem.tail _ ?_))))); (case k5 => assumption); (case k6 => first | omega | exact fm_lo2 _ (by omega)); (case k7 => first | omega | exact fm_hi2 _ (by omega)); (case k9 => omega); (case k8 => with_unfolding_all rfl); k_whole); clear lN'; intro ta' a' la' lb' l' ea' eb' hl' hc' N' hne'))
local macro_rules | `(tactic| walk_at "call ref") => `(tactic| (k_here; k_dflt (show wpAny _ _ (call (Value.ref 87) [_]) _ _ _); k_dflt (refine' asl_line ?k1 ?k2 ?k3 ?k4 ?k5 ?k6 ?k7 ?k8 ?k9 ?_; (case k1 => k_asm); (case k2 => k_asm); (case k3 => k_asm); (case k4 => k_asm); (case k5 => (refine' chain_in ?m1 ?m2; (case m1 => assumption); (case m2 => (intro p hp; (try have hz' := sub_use (by assumption) hp); (repeat (first | assumption | (refine List.Mem.tail _ ?_))))))); (case k6 => omega); (case k7 => rfl); (case k8 => exact Nat.le_of_ble_eq_true rfl); (case k9 => exact Nat.le_of_ble_eq_true rfl); k_whole); intro r' h' tk' F' N' l1'))
local macro_rules | `(tactic| walk_at "call ref") => `(tactic| (k_here; k_dflt (show wpAny _ _ (call (Value.ref 159) [_, _]) _ _ _); k_dflt (refine' alike_line ?k1 ?k2 ?k3 ?k4 ?k5 ?k6 ?k7 ?k8 ?k9 ?k10 ?k11 ?k12 ?_; (case k1 => k_asm); (case k2 => k_asm); (case k3 => k_asm); (case k4 => k_asm); (case k5 => k_mem); (case k6 => k_mem); (case k7 => rfl); (case k8 => exact keys_all (by assumption)); (case k9 => (simp only [keysOf, List.length_reverse, List.length_map, List.length_cons]; omega)); (case k10 => rfl); (case k11 => exact Nat.le_of_ble_eq_true rfl); (case k12 => exact Nat.le_of_ble_eq_true rfl); k_whole); intro h' tk' F' N'))
local macro_rules | `(tactic| walk_at "compareOp Eq ref ref") => `(tactic| (k_here; (with_reducible show wpAny _ _ (compareOp CmpOp.Eq (Value.ref _) (Value.ref _)) _ _ _); k_dflt (refine' eq_paths ?k1 ?k2 ?k3 ?k4 ?k5 ?k6 ?k7 ?k8 ?_; (case k1 => k_asm); (case k2 => k_asm); (case k3 => k_asm); (case k4 => assumption); (case k5 => assumption); (case k6 => (intro p hp; (try have hz' := sub_use (by assumption) hp); (repeat (first | assumption | (refine List.Mem.tail _ ?_))))); (case k7 => omega); (case k8 => exact Nat.le_of_ble_eq_true rfl); k_whole)))
local macro_rules | `(tactic| walk_at "compareOp Eq ref ref") => `(tactic| (k_here; (with_reducible show wpAny _ _ (compareOp CmpOp.Eq (Value.ref _) (Value.ref _)) _ _ _); k_dflt (refine' eq_keys ?k1 ?k2 ?k3 ?k4 ?k5 ?k6 ?_; (case k1 => k_asm); (case k2 => (with_reducible (repeat (first | exact List.mem_cons_self | (refine List.mem_cons_of_mem _ ?_))))); (case k3 => (with_reducible (repeat (first | exact List.mem_cons_self | (refine List.mem_cons_of_mem _ ?_))))); (case k4 => exact keys_all (by assumption)); (case k5 => exact keys_all (by assumption)); (case k6 => exact Nat.le_of_ble_eq_true rfl); k_whole)))
local macro_rules | `(tactic| walk_at "compareOp Eq ref ref") => `(tactic| (k_here; (with_reducible show wpAny _ _ (compareOp CmpOp.Eq (Value.ref _) (Value.ref _)) _ _ _); k_dflt (refine' eq_names ?k1 ?k2 ?k3 ?k4 ?k5 ?k6 ?_; (case k1 => k_asm); (case k2 => (with_reducible (repeat (first | exact List.mem_cons_self | (refine List.mem_cons_of_mem _ ?_))))); (case k3 => (with_reducible (repeat (first | exact List.mem_cons_self | (refine List.mem_cons_of_mem _ ?_))))); (case k4 => exact names_all (by assumption)); (case k5 => exact names_all (by assumption)); (case k6 => exact Nat.le_of_ble_eq_true rfl); k_whole)))
local macro_rules | `(tactic| walk_at "compareOp NotEq") => `(tactic| (k_here; ((with_reducible refine' ne_line1 ?k1 ?_); (case k1 => first | assumption | (apply Bool.eq_false_of_not_eq_true; assumption)); k_whole)))
local macro_rules | `(tactic| walk_at "compareOp NotEq bool bool") => `(tactic| (k_here; ((with_reducible refine' ne_line1 ?k1 ?_); (case k1 => first | assumption | (apply Bool.eq_false_of_not_eq_true; assumption)); k_whole)))
local macro_rules | `(tactic| walk_at "compareOp NotEq bool") => `(tactic| (k_here; ((with_reducible refine' ne_line1 ?k1 ?_); (case k1 => first | assumption | (apply Bool.eq_false_of_not_eq_true; assumption)); k_whole)))
local macro_rules | `(tactic| walk_at "compareOp NotEq") => `(tactic| (k_here; ((with_reducible refine' ne_line2 ?k1 ?_); (case k1 => first | assumption | (apply Bool.eq_false_of_not_eq_true; assumption)); k_whole)))
local macro_rules | `(tactic| walk_at "compareOp NotEq bool bool") => `(tactic| (k_here; ((with_reducible refine' ne_line2 ?k1 ?_); (case k1 => first | assumption | (apply Bool.eq_false_of_not_eq_true; assumption)); k_whole)))
local macro_rules | `(tactic| walk_at "compareOp NotEq bool") => `(tactic| (k_here; ((with_reducible refine' ne_line2 ?k1 ?_); (case k1 => first | assumption | (apply Bool.eq_false_of_not_eq_true; assumption)); k_whole)))
set_option pp.deepTerms false in
set_option pp.deepTerms.threshold 8 in
set_option maxRecDepth 100000 in
set_option maxHeartbeats 4000000 in
theorem turn2 (w : World) (s : Shared) (pg : Program) (loose : List Str) (mg mb : Str → Option Value) (h₀ : Heap) (L fa cda : Addr) (E : Value → Shared → Prop) (R : Flow → Shared → Prop)
    (KX : (Mine.hx.heap_39 w.params).In h₀) (T : TopRead pg loose mg mb h₀)
    (pl wl : Addr) (i f : Int) (ti tf tm : Tok) (pvs : List Value) (Z : List (Addr × Obj)) (ep : Nat) (u : Str → Option Value)
    (F : Fr h₀ L s.heap (fun z => if z = Str.ofString "k" then some (.int i ti) else if z = Str.ofString "many" then some (.int (pvs.length : Int) tm) else if z = Str.ofString "first" then some (.int f tf) else if z = Str.ofString "pool" then some (.ref pl) else if z = Str.ofString "wrong" then some (.ref wl) else u z))
    (N : News h₀ L s.heap ((pl, W.listOf pvs.toArray ep) :: Z)) (R0 : List (Addr × Obj)) (hR0 : ∀ q ∈ R0, q ∈ Z) (hZ0 : ∀ p ∈ R0, @Ne Nat p.1 pl) (hP : PoolL R0 pvs)
    (hi0 : 0 ≤ i) (hi1 : i < (pvs.length : Int)) (hz : pvs.length ≤ 90)
    (fin : ∀ h' tk m', Fr h₀ L h' m' → m' (Str.ofString "many") = some (.int (pvs.length : Int) tm) → m' (Str.ofString "first") = some (.int f tf) → m' (Str.ofString "pool") = some (.ref pl) → m' (Str.ofString "wrong") = some (.ref wl) → News h₀ L h' ((pl, W.listOf pvs.toArray ep) :: Z) → R .next { s with heap := h', toks := tk }) :
    wpAny (model Challenge.rw_bn5012_01.prog w) (lawA L fa (.ref cda)) (execs body2 (lawEnv L fa (.ref cda))) R E s := by
  revert KX; k_fill; intro KX
  dsimp only [tail1, body1, body2, rest2, lawRest, lawBody, lawDef, forOf, PySem.Challenge.pw_bn5012_01, List.getLast?, List.getLast, defOf, List.drop, lawEnv, lawScope, lawA]
  w_on
  k_steps
  all_goals
    rename Fr _ _ _ _ => FF
    rename News _ _ _ _ => NN
    refine' fin _ _ _ FF ?f1 ?f2 ?f3 ?f4 (News.sub NN ?f5)
    case f1 => with_unfolding_all rfl
    case f2 => with_unfolding_all rfl
    case f3 => with_unfolding_all rfl
    case f4 => with_unfolding_all rfl
    case f5 =>
      refine List.forall_mem_cons.mpr ⟨by k_mem, ?_⟩
      intro p hp
      repeat (first | assumption | (refine List.Mem.tail _ ?_))
end Mine
end

section
open PySem PySem.W PyProof.Rows PySem.Calls PySem.SeqAt
set_option Elab.async false
namespace Mine
section
variable {prog : Program} {w : World} {A : Around} {env : Env} {E : Value → Shared → Prop} {Q : Flow → Shared → Prop} {s : Shared} {h₀ : Heap} {L : Addr} {m : Str → Option Value}
theorem for_with {x : Str} {px pos : Pos} {iter : PySem.Expr} {body : List Stmt} (_F : Fr h₀ L s.heap m) (hE : PassesOwn (model prog w) A env E) (hx : env.kindOf x = some .local)
    (hp : (env.scope.kind == .class || (env.scope.kind == .module && env.locals != env.globals)) = false)
    (h : wpAny (model prog w) A (eval iter env) (fun xv s₁ => wpAny (model prog w) A (pyIter xv) (fun it s₂ => LoopAtV prog w A h₀ env x body Q E it s₂) E s₁) E s)
    (hs : ∀ x, foldedSetIterable iter env x = pure x) : wpAny (model prog w) A (exec (.For (.Name x px) iter body [] pos) env) Q E s := For_invV h₀ hx hp h hs hE
end
theorem iter1 (w : World) (s : Shared) (pg : Program) (loose : List Str) (mg mb : Str → Option Value) (h₀ : Heap) (L fa cda : Addr) (E : Value → Shared → Prop) (Q : Flow → Shared → Prop)
    (KX : (Mine.hx.heap_39 w.params).In h₀) (T : TopRead pg loose mg mb h₀) (pl nl kl dl : Addr) (ks ns4 vs : List Value) (ns : List Int) (news : List (Addr × Obj)) (m : Str → Option Value)
    (hks : ∀ v ∈ ks, KeyV v) (hns : ∀ v ∈ ns4, NameV v) (hk7 : ks.length = 7) (hn4 : ns4.length = 4)
    (F : Fr h₀ L s.heap m) (N : News h₀ L s.heap news) (hi : IntsAre vs ns) (h90 : ns.length ≤ 90)
    (hl : (h₀.IsList dl vs.toArray) ∨ ((dl, W.listOf vs.toArray 0) ∈ news ∧ @Ne Nat pl dl ∧ @Ne Nat nl dl ∧ @Ne Nat kl dl))
    (e1 : (pl, W.listOf #[] 0) ∈ news) (e2 : (nl, W.listOf ns4.toArray 0) ∈ news) (e3 : (kl, W.listOf ks.toArray 0) ∈ news) (hne : @Ne Nat nl pl ∧ @Ne Nat kl pl)
    (m1 : m (Str.ofString "pool") = some (.ref pl)) (m2 : m (Str.ofString "names") = some (.ref nl)) (m3 : m (Str.ofString "keys") = some (.ref kl))
    (done : ∀ m₁ nx h tk, J1 pl nl kl ks ns4 (m (Str.ofString "first")) ns.length m₁ nx → Fr h₀ L h m₁ → News h₀ L h nx → Q .next { s with heap := h, toks := tk }) :
    wpAny (model Challenge.rw_bn5012_01.prog w) (lawA L fa (.ref cda)) (pyIter (.ref dl)) (fun it s₂ => LoopAtV Challenge.rw_bn5012_01.prog w (lawA L fa (.ref cda)) h₀ (lawEnv L fa (.ref cda)) (Str.ofString "number") body1 Q E it s₂) E s := by
  have N' : News h₀ L s.heap ((pl, W.listOf ([] : List Value).toArray 0) :: [(nl, W.listOf ns4.toArray 0), (kl, W.listOf ks.toArray 0)]) := News.sub N (List.forall_mem_cons.mpr ⟨e1, List.forall_mem_cons.mpr ⟨e2, List.forall_mem_cons.mpr ⟨e3, List.forall_mem_nil _⟩⟩⟩)
  have j0 : J1 pl nl kl ks ns4 (m (Str.ofString "first")) 0 m ((pl, W.listOf ([] : List Value).toArray 0) :: [(nl, W.listOf ns4.toArray 0), (kl, W.listOf ks.toArray 0)]) :=
    ⟨[], _, 0, rfl, rfl, (fun v hv => by cases hv), .tail _ (.head _), .head _, List.forall_mem_cons.mpr ⟨hne.1, List.forall_mem_cons.mpr ⟨hne.2, List.forall_mem_nil _⟩⟩, m1, m2, m3, rfl⟩
  have turn : ∀ i n t m₁ nx h tk own, ns[i]? = some n → TbOff own nx → J1 pl nl kl ks ns4 (m (Str.ofString "first")) i m₁ nx → Fr h₀ L h (fun y => if y = Str.ofString "number" then some (.int n t) else m₁ y) → News h₀ L h (nx ++ own) →
      wpAny (model Challenge.rw_bn5012_01.prog w) (lawA L fa (.ref cda)) (execs body1 (lawEnv L fa (.ref cda))) (TbPost h₀ L (J1 pl nl kl ks ns4 (m (Str.ofString "first")) (i + 1)) own { s with heap := h, toks := tk } Q) E { s with heap := h, toks := tk } := by
    intro i n t m₁ nx h tk own hin hoff hJ F₁ N₁
    have : i < ns.length := by
      rcases Nat.lt_or_ge i ns.length with h | h
      · exact h
      · rw [List.getElem?_eq_none h] at hin; cases hin
    exact loop1_turn w { s with heap := h, toks := tk } pg loose mg mb h₀ L fa cda E Q KX T pl nl kl ks ns4 _ hks hns hk7 hn4 i (by omega) n t m₁ nx own hoff hJ F₁ N₁
  rcases hl with hl | ⟨hm, hd⟩
  · exact tb_invG (env := lawEnv L fa (.ref cda)) (J1 pl nl kl ks ns4 (m (Str.ofString "first"))) rfl hl hi F N' j0 turn done
  · refine iter_new (env := lawEnv L fa (.ref cda)) (J1 pl nl kl ks ns4 (m (Str.ofString "first"))) rfl (isList_of N hm) (N _ hm).2.2 (N _ hm).2.1 ?_ hi F N' j0 turn done
    exact List.forall_mem_cons.mpr ⟨hd.1, List.forall_mem_cons.mpr ⟨hd.2.1, List.forall_mem_cons.mpr ⟨hd.2.2, List.forall_mem_nil _⟩⟩⟩
end Mine
end

section
open PySem PySem.W PyProof.Rows PySem.Calls PySem.SeqAt
set_option Elab.async false
namespace Mine
/-- the second loop's invariant: nothing changes -/
def J2 (pl wl : Addr) (pvs : List Value) (ep : Nat) (R0 : List (Addr × Obj)) (f : Int) (tf tm : Tok) (_i : Nat) (m : Str → Option Value) (nx : List (Addr × Obj)) : Prop :=
  nx = (pl, W.listOf pvs.toArray ep) :: (wl, W.listOf #[] 0) :: R0 ∧ m (Str.ofString "many") = some (.int (pvs.length : Int) tm) ∧ m (Str.ofString "first") = some (.int f tf) ∧ m (Str.ofString "pool") = some (.ref pl) ∧ m (Str.ofString "wrong") = some (.ref wl)
def Turn2 (w : World) (h₀ : Heap) (L fa cda : Addr) : Prop := ∀ (s : Shared) (E : Value → Shared → Prop) (R : Flow → Shared → Prop)
    (pl wl : Addr) (i f : Int) (ti tf tm : Tok) (pvs : List Value) (Z : List (Addr × Obj)) (ep : Nat) (u : Str → Option Value)
    (_ : Fr h₀ L s.heap (fun z => if z = Str.ofString "k" then some (.int i ti) else if z = Str.ofString "many" then some (.int (pvs.length : Int) tm) else if z = Str.ofString "first" then some (.int f tf) else if z = Str.ofString "pool" then some (.ref pl) else if z = Str.ofString "wrong" then some (.ref wl) else u z))
    (_ : News h₀ L s.heap ((pl, W.listOf pvs.toArray ep) :: Z)) (R0 : List (Addr × Obj)) (_ : ∀ q ∈ R0, q ∈ Z) (_ : ∀ p ∈ R0, @Ne Nat p.1 pl) (_ : PoolL R0 pvs)
    (_ : 0 ≤ i) (_ : i < (pvs.length : Int)) (_ : pvs.length ≤ 90)
    (_ : ∀ h' tk m', Fr h₀ L h' m' → m' (Str.ofString "many") = some (.int (pvs.length : Int) tm) → m' (Str.ofString "first") = some (.int f tf) → m' (Str.ofString "pool") = some (.ref pl) → m' (Str.ofString "wrong") = some (.ref wl) → News h₀ L h' ((pl, W.listOf pvs.toArray ep) :: Z) → R .next { s with heap := h', toks := tk }),
    wpAny (model Challenge.rw_bn5012_01.prog w) (lawA L fa (.ref cda)) (execs body2 (lawEnv L fa (.ref cda))) R E s
theorem size_n (n : Nat) : Builtin.Range.rangeSize 0 (n : Int) 1 = (n : Int) := by
  unfold Builtin.Range.rangeSize
  rw [if_pos (by decide)]
  split
  · omega
  · omega
theorem small_n (n : Nat) (h : n ≤ 90) : Builtin.Range.small 0 (n : Int) 1 = true := by
  unfold Builtin.Range.small
  rw [size_n]
  unfold Builtin.Range.rangeFitsLong
  simp
  omega
theorem iter2 (w : World) (s : Shared) (h₀ : Heap) (L fa cda : Addr) (E : Value → Shared → Prop) (Q : Flow → Shared → Prop) (t2 : Turn2 w h₀ L fa cda)
    (pl wl r : Addr) (f : Int) (tf tm t₀ u₀ v₀ : Tok) (pvs : List Value) (ep : Nat) (R0 : List (Addr × Obj)) (m : Str → Option Value) (news : List (Addr × Obj))
    (F : Fr h₀ L s.heap m) (N : News h₀ L s.heap news) (e1 : (pl, W.listOf pvs.toArray ep) ∈ news) (e2 : (wl, W.listOf #[] 0) ∈ news) (e3 : ∀ q ∈ R0, q ∈ news)
    (hr : IsRange s.heap r 0 (pvs.length : Int) 1 t₀ u₀ v₀) (hZ0 : ∀ p ∈ R0, @Ne Nat p.1 pl) (hP : PoolL R0 pvs) (hz : pvs.length ≤ 90)
    (m1 : m (Str.ofString "many") = some (.int (pvs.length : Int) tm)) (m2 : m (Str.ofString "first") = some (.int f tf)) (m3 : m (Str.ofString "pool") = some (.ref pl)) (m4 : m (Str.ofString "wrong") = some (.ref wl))
    (done : ∀ m₁ nx h tk, J2 pl wl pvs ep R0 f tf tm pvs.length m₁ nx → Fr h₀ L h m₁ → News h₀ L h nx → Q .next { s with heap := h, toks := tk }) :
    wpAny (model Challenge.rw_bn5012_01.prog w) (lawA L fa (.ref cda)) (pyIter (.ref r)) (fun it s₂ => LoopAtV Challenge.rw_bn5012_01.prog w (lawA L fa (.ref cda)) h₀ (lawEnv L fa (.ref cda)) (Str.ofString "k") body2 Q E it s₂) E s := by
  have N' : News h₀ L s.heap ((pl, W.listOf pvs.toArray ep) :: (wl, W.listOf #[] 0) :: R0) := News.sub N (List.forall_mem_cons.mpr ⟨e1, List.forall_mem_cons.mpr ⟨e2, e3⟩⟩)
  refine tbr_invG (env := lawEnv L fa (.ref cda)) (J2 pl wl pvs ep R0 f tf tm) (n := pvs.length) rfl hr ?_ ?_ F N' ⟨rfl, m1, m2, m3, m4⟩ ?_ done
  · exact small_n pvs.length hz
  · exact size_n pvs.length
  · rintro i k t m₁ nx h tk own hk hoff ⟨rfl, g1, g2, g3, g4⟩ F₁ N₁
    have hi : i < pvs.length := by
      rcases Nat.lt_or_ge i pvs.length with h | h
      · exact h
      · rw [List.getElem?_eq_none (by simp [rangeKs]; exact h)] at hk; cases hk
    have hk' : k = (i : Int) := by simp [rangeKs, hi] at hk; omega
    subst hk'
    have em : m₁ = (fun z => if z = Str.ofString "many" then some (.int (pvs.length : Int) tm) else if z = Str.ofString "first" then some (.int f tf) else if z = Str.ofString "pool" then some (.ref pl) else if z = Str.ofString "wrong" then some (.ref wl) else m₁ z) := by
      funext z
      split
      · rename_i h; rw [h, g1]
      split
      · rename_i h; rw [h, g2]
      split
      · rename_i h; rw [h, g3]
      split
      · rename_i h; rw [h, g4]
      rfl
    rw [em] at F₁
    refine t2 { s with heap := h, toks := tk } E _ pl wl i f t tf tm pvs ((wl, W.listOf #[] 0) :: R0 ++ own) ep m₁ F₁ N₁ R0 (fun q hq => List.mem_append_left _ (.tail _ hq)) hZ0 hP (by omega) (by omega) hz ?_
    intro h' tk' m' F' f1 f2 f3 f4 N''
    exact ⟨h', tk', m', _, _, rfl, F', N'', fun p hp => List.mem_append_left own hp, fun p hp => List.mem_append_right ((pl, W.listOf pvs.toArray ep) :: (wl, W.listOf #[] 0) :: R0) hp, hoff, rfl, f1, f2, f3, f4⟩
end Mine
end

section
open PySem PySem.W PyProof.Rows PySem.Calls PySem.SeqAt
set_option Elab.async false
namespace Mine
theorem turn2_of (w : World) (pg : Program) (loose : List Str) (mg mb : Str → Option Value) (h₀ : Heap) (L fa cda : Addr) (KX : (Mine.hx.heap_39 w.params).In h₀) (T : TopRead pg loose mg mb h₀) : Turn2 w h₀ L fa cda :=
  fun s E R pl wl i f ti tf tm pvs Z ep u F N R0 hR0 hZ0 hP hi0 hi1 hz fin => turn2 w s pg loose mg mb h₀ L fa cda E R KX T pl wl i f ti tf tm pvs Z ep u F N R0 hR0 hZ0 hP hi0 hi1 hz fin
theorem J1.done {h₀ : Heap} {L pl nl kl : Addr} {ks ns4 : List Value} {f : Int} {tf : Tok} {n : Nat} {Q : Flow → Shared → Prop} {s : Shared}
    (q : ∀ pvs R0 ep (u : Str → Option Value) h tk, pvs.length = n → PoolL R0 pvs → (∀ p ∈ R0, @Ne Nat p.1 pl) → Fr h₀ L h (fun z => if z = Str.ofString "pool" then some (.ref pl) else if z = Str.ofString "first" then some (.int f tf) else u z) → News h₀ L h ((pl, W.listOf pvs.toArray ep) :: R0) → Q .next { s with heap := h, toks := tk }) :
    ∀ m₁ nx h tk, J1 pl nl kl ks ns4 (some (.int f tf)) n m₁ nx → Fr h₀ L h m₁ → News h₀ L h nx → Q .next { s with heap := h, toks := tk } := by
  rintro m₁ nx h tk ⟨pvs, R0, ep, rfl, hlen, hP, _, _, hne, m1, _, _, m4⟩ F N
  have em : m₁ = (fun z => if z = Str.ofString "pool" then some (.ref pl) else if z = Str.ofString "first" then some (.int f tf) else m₁ z) := by
    funext z
    split
    · rename_i h; rw [h, m1]
    split
    · rename_i h; rw [h, m4]
    rfl
  rw [em] at F
  exact q pvs R0 ep m₁ h tk hlen hP hne F N
theorem J2.done {h₀ : Heap} {L pl wl : Addr} {pvs : List Value} {ep : Nat} {R0 : List (Addr × Obj)} {f : Int} {tf tm : Tok} {n : Nat} {Q : Flow → Shared → Prop} {s : Shared}
    (q : ∀ (u : Str → Option Value) h tk, Fr h₀ L h (fun z => if z = Str.ofString "many" then some (.int (pvs.length : Int) tm) else if z = Str.ofString "wrong" then some (.ref wl) else u z) → News h₀ L h [(wl, W.listOf #[] 0)] → Q .next { s with heap := h, toks := tk }) :
    ∀ m₁ nx h tk, J2 pl wl pvs ep R0 f tf tm n m₁ nx → Fr h₀ L h m₁ → News h₀ L h nx → Q .next { s with heap := h, toks := tk } := by
  rintro m₁ nx h tk ⟨rfl, g1, g2, g3, g4⟩ F N
  have em : m₁ = (fun z => if z = Str.ofString "many" then some (.int (pvs.length : Int) tm) else if z = Str.ofString "wrong" then some (.ref wl) else m₁ z) := by
    funext z
    split
    · rename_i h; rw [h, g1]
    split
    · rename_i h; rw [h, g4]
    rfl
  rw [em] at F
  exact q m₁ h tk F (News.sub N (List.forall_mem_cons.mpr ⟨.tail _ (.head _), List.forall_mem_nil _⟩))
theorem iter1b (w : World) (s : Shared) (pg : Program) (loose : List Str) (mg mb : Str → Option Value) (h₀ : Heap) (L fa cda : Addr) (E : Value → Shared → Prop) (Q : Flow → Shared → Prop)
    (KX : (Mine.hx.heap_39 w.params).In h₀) (T : TopRead pg loose mg mb h₀) (pl nl kl dl : Addr) (ks ns4 vs : List Value) (ns : List Int) (news : List (Addr × Obj)) (m : Str → Option Value)
    (hks : ∀ v ∈ ks, KeyV v) (hns : ∀ v ∈ ns4, NameV v) (hk7 : ks.length = 7) (hn4 : ns4.length = 4)
    (F : Fr h₀ L s.heap m) (N : News h₀ L s.heap news) (hi : IntsAre vs ns) (h90 : ns.length ≤ 90)
    (hl : (h₀.IsList dl vs.toArray) ∨ ((dl, W.listOf vs.toArray 0) ∈ news ∧ @Ne Nat pl dl ∧ @Ne Nat nl dl ∧ @Ne Nat kl dl))
    (e1 : (pl, W.listOf #[] 0) ∈ news) (e2 : (nl, W.listOf ns4.toArray 0) ∈ news) (e3 : (kl, W.listOf ks.toArray 0) ∈ news) (hne : @Ne Nat nl pl ∧ @Ne Nat kl pl)
    (m1 : m (Str.ofString "pool") = some (.ref pl)) (m2 : m (Str.ofString "names") = some (.ref nl)) (m3 : m (Str.ofString "keys") = some (.ref kl))
    (f : Int) (tf : Tok) (m5 : m (Str.ofString "first") = some (.int f tf))
    (q : ∀ pvs R0 ep (u : Str → Option Value) h tk, pvs.length = ns.length → PoolL R0 pvs → (∀ p ∈ R0, @Ne Nat p.1 pl) → Fr h₀ L h (fun z => if z = Str.ofString "pool" then some (.ref pl) else if z = Str.ofString "first" then some (.int f tf) else u z) → News h₀ L h ((pl, W.listOf pvs.toArray ep) :: R0) → Q .next { s with heap := h, toks := tk }) :
    wpAny (model Challenge.rw_bn5012_01.prog w) (lawA L fa (.ref cda)) (pyIter (.ref dl)) (fun it s₂ => LoopAtV Challenge.rw_bn5012_01.prog w (lawA L fa (.ref cda)) h₀ (lawEnv L fa (.ref cda)) (Str.ofString "number") body1 Q E it s₂) E s := by
  refine iter1 w s pg loose mg mb h₀ L fa cda E Q KX T pl nl kl dl ks ns4 vs ns news m hks hns hk7 hn4 F N hi h90 hl e1 e2 e3 hne m1 m2 m3 ?_
  rw [m5]
  exact J1.done q
theorem iter2b (w : World) (s : Shared) (h₀ : Heap) (L fa cda : Addr) (E : Value → Shared → Prop) (Q : Flow → Shared → Prop) (t2 : Turn2 w h₀ L fa cda)
    (pl wl r : Addr) (f : Int) (tf tm t₀ u₀ v₀ : Tok) (pvs : List Value) (ep : Nat) (R0 : List (Addr × Obj)) (m : Str → Option Value) (news : List (Addr × Obj))
    (F : Fr h₀ L s.heap m) (N : News h₀ L s.heap news) (e1 : (pl, W.listOf pvs.toArray ep) ∈ news) (e2 : (wl, W.listOf #[] 0) ∈ news) (e3 : ∀ q ∈ R0, q ∈ news)
    (hr : IsRange s.heap r 0 (pvs.length : Int) 1 t₀ u₀ v₀) (hZ0 : ∀ p ∈ R0, @Ne Nat p.1 pl) (hP : PoolL R0 pvs) (hz : pvs.length ≤ 90)
    (m1 : m (Str.ofString "many") = some (.int (pvs.length : Int) tm)) (m2 : m (Str.ofString "first") = some (.int f tf)) (m3 : m (Str.ofString "pool") = some (.ref pl)) (m4 : m (Str.ofString "wrong") = some (.ref wl))
    (q : ∀ (u : Str → Option Value) h tk, Fr h₀ L h (fun z => if z = Str.ofString "many" then some (.int (pvs.length : Int) tm) else if z = Str.ofString "wrong" then some (.ref wl) else u z) → News h₀ L h [(wl, W.listOf #[] 0)] → Q .next { s with heap := h, toks := tk }) :
    wpAny (model Challenge.rw_bn5012_01.prog w) (lawA L fa (.ref cda)) (pyIter (.ref r)) (fun it s₂ => LoopAtV Challenge.rw_bn5012_01.prog w (lawA L fa (.ref cda)) h₀ (lawEnv L fa (.ref cda)) (Str.ofString "k") body2 Q E it s₂) E s := iter2 w s h₀ L fa cda E Q t2 pl wl r f tf tm t₀ u₀ v₀ pvs ep R0 m news F N e1 e2 e3 hr hZ0 hP hz m1 m2 m3 m4 (J2.done q)
section
variable {w : World} {A : Around} {E : Value → Shared → Prop} {s : Shared} {h₀ : Heap} {L x y : Addr} {news : List (Addr × Obj)} {e e2 : Nat} {Q : Value → Shared → Prop}
theorem eq_nil {prog : Program} (N : News h₀ L s.heap news) (h1 : (x, W.listOf #[] e) ∈ news) (h2 : (y, W.listOf #[] e2) ∈ news) (hu : A.units ≤ 4500)
    (q : Q (.bool true) s) : wpAny (model prog w) A (compareOp .Eq (.ref x) (.ref y)) Q E s :=
  (rc_keys (ks := []) (ks' := []) (isList_of N h1) (isList_of N h2) (Nat.lt_of_le_of_lt hu (by decide)) (fun v hv => by cases hv) (fun v hv => by cases hv)) prog w E Q q
end
local macro_rules | `(tactic| walk_at "compareOp Eq ref ref") => `(tactic| (k_here; (with_reducible show wpAny _ _ (compareOp CmpOp.Eq (Value.ref _) (Value.ref _)) _ _ _); k_dflt (refine' eq_nil ?k1 ?k2 ?k3 ?k6 ?_; (case k1 => k_asm); (case k2 => k_mem); (case k3 => k_mem); (case k6 => exact Nat.le_of_ble_eq_true rfl); k_whole)))
local macro_rules | `(tactic| walk_at "call builtin:len") => `(tactic| (k_here; (with_reducible show wpAny _ _ (call (Value.builtin "len") [Value.ref _]) _ _ _); k_dflt (refine' len_mem ?k1 ?k2 ?k3 ?_; (case k1 => k_asm); (case k2 => k_mem); (case k3 => omega); k_whole); intro tk' tk''))
local macro_rules | `(tactic| walk_at "execs cons") => `(tactic| ((with_reducible show wpAny _ _ (execs (Stmt.For _ _ _ _ _ :: _) _) _ _ _); k_dflt (refine wpAny_execs_cons ?_; refine' for_with ?k1 ?k2 ?k3 ?k4 ?_ ?k5; (case k1 => assumption); (case k2 => first | assumption | passes_own); (case k3 => rfl); (case k4 => rfl); (case k5 => (intro _; rfl)))))
local macro_rules | `(tactic| walk_at "pyIter ref") => `(tactic| (k_here; k_dflt (refine' iter1b _ _ _ _ _ _ _ _ _ _ _ _ ?xkx ?xt _ _ _ _ _ _ _ _ _ _ ?hks ?hns ?hk7 ?hn4 ?xf ?xn ?hi ?h90 ?hl ?e1 ?e2 ?e3 ?hne ?m1 ?m2 ?m3 _ _ ?m5 ?xq; (case xkx => k_asm); (case xt => k_asm); (case xf => assumption); (case xn => assumption); (case m1 => with_unfolding_all rfl); (case m2 => with_unfolding_all rfl); (case m3 => with_unfolding_all rfl); (case m5 => with_unfolding_all rfl); (case e1 => assumption); (case hl => assumption); (case hi => assumption); (case hks => assumption); (case hns => assumption); (case hk7 => assumption); (case hn4 => assumption); (case e2 => assumption); (case e3 => assumption); (case hne => assumption); (case h90 => assumption); k_whole); (intro pvs' R0' ep' u' h' tk' hlen' hP' hne' F' N')))
local macro_rules | `(tactic| walk_at "pyIter ref") => `(tactic| (k_here; k_dflt (refine' iter2b _ _ _ _ _ _ _ _ ?xt2 _ _ _ _ _ _ _ _ _ _ _ _ _ _ ?xf ?xn ?e1 ?e2 ?e3 ?hr ?hZ ?hP ?hz ?m1 ?m2 ?m3 ?m4 ?xq; (case xt2 => assumption); (case xf => assumption); (case xn => assumption); (case hr => assumption); (case m1 => with_unfolding_all rfl); (case m2 => with_unfolding_all rfl); (case m3 => with_unfolding_all rfl); (case m4 => with_unfolding_all rfl); (case e1 => k_mem); (case e2 => k_mem); (case hP => assumption); (case hZ => assumption); (case e3 => (intro p hp; (repeat (first | assumption | (refine List.Mem.tail _ ?_))))); (case hz => omega); k_whole); (intro u' h' tk' F' N')))
local macro_rules | `(tactic| walk_at "last pyIter ref") => `(tactic| (k_here; k_dflt (refine' iter2b _ _ _ _ _ _ _ _ ?xt2 _ _ _ _ _ _ _ _ _ _ _ _ _ _ ?xf ?xn ?e1 ?e2 ?e3 ?hr ?hZ ?hP ?hz ?m1 ?m2 ?m3 ?m4 ?xq; (case xt2 => assumption); (case xf => assumption); (case xn => assumption); (case hr => assumption); (case m1 => with_unfolding_all rfl); (case m2 => with_unfolding_all rfl); (case m3 => with_unfolding_all rfl); (case m4 => with_unfolding_all rfl); (case e1 => k_mem); (case e2 => k_mem); (case hP => assumption); (case hZ => assumption); (case e3 => (intro p hp; (repeat (first | assumption | (refine List.Mem.tail _ ?_))))); (case hz => omega); k_whole); (intro u' h' tk' F' N')))
set_option pp.deepTerms false in
set_option pp.deepTerms.threshold 8 in
set_option maxRecDepth 100000 in
set_option maxHeartbeats 4000000 in
theorem law_rest (w : World) (s : Shared) (pg : Program) (loose : List Str) (mg mb : Str → Option Value) (h₀ : Heap) (L fa cda : Addr) (E : Value → Shared → Prop) (R : Flow → Shared → Prop)
    (KX : (Mine.hx.heap_39 w.params).In h₀) (T : TopRead pg loose mg mb h₀) (hE : PassesOwn (model Challenge.rw_bn5012_01.prog w) (lawA L fa (.ref cda)) (lawEnv L fa (.ref cda)) E)
    (pl nl kl dl : Addr) (ks ns4 vs : List Value) (ns : List Int) (f : Int) (tf : Tok) (news : List (Addr × Obj)) (m : Str → Option Value)
    (hks : ∀ v ∈ ks, KeyV v) (hns : ∀ v ∈ ns4, NameV v) (hk7 : ks.length = 7) (hn4 : ns4.length = 4)
    (F : Fr h₀ L s.heap m) (N : News h₀ L s.heap news) (hi : IntsAre vs ns) (h90 : ns.length ≤ 90) (hpos : 0 < ns.length)
    (hl : (h₀.IsList dl vs.toArray) ∨ ((dl, W.listOf vs.toArray 0) ∈ news ∧ @Ne Nat pl dl ∧ @Ne Nat nl dl ∧ @Ne Nat kl dl))
    (e1 : (pl, W.listOf #[] 0) ∈ news) (e2 : (nl, W.listOf ns4.toArray 0) ∈ news) (e3 : (kl, W.listOf ks.toArray 0) ∈ news) (hne : @Ne Nat nl pl ∧ @Ne Nat kl pl)
    (m1 : m (Str.ofString "pool") = some (.ref pl)) (m2 : m (Str.ofString "names") = some (.ref nl)) (m3 : m (Str.ofString "keys") = some (.ref kl)) (m4 : m (Str.ofString "deeds") = some (.ref dl)) (m5 : m (Str.ofString "first") = some (.int f tf))
    (q : ∀ h' tk m', Fr h₀ L h' m' → News h₀ L h' [] → R (.ret (.bool true)) { s with heap := h', toks := tk }) :
    wpAny (model Challenge.rw_bn5012_01.prog w) (lawA L fa (.ref cda)) (execs lawRest (lawEnv L fa (.ref cda))) R E s := by
  have em : m = (fun z => if z = Str.ofString "pool" then some (.ref pl) else if z = Str.ofString "names" then some (.ref nl) else if z = Str.ofString "keys" then some (.ref kl) else if z = Str.ofString "deeds" then some (.ref dl) else if z = Str.ofString "first" then some (.int f tf) else m z) := by
    funext z
    split
    · rename_i h; rw [h, m1]
    split
    · rename_i h; rw [h, m2]
    split
    · rename_i h; rw [h, m3]
    split
    · rename_i h; rw [h, m4]
    split
    · rename_i h; rw [h, m5]
    rfl
  rw [em] at F
  clear m1 m2 m3 m4 m5
  have t2 := turn2_of w pg loose mg mb h₀ L fa cda KX T
  revert KX; k_fill; intro KX
  dsimp only [tail1, body1, body2, rest2, lawRest, lawBody, lawDef, forOf, PySem.Challenge.pw_bn5012_01, List.getLast?, List.getLast, defOf, List.drop, lawEnv, lawScope, lawA]
  w_on
  iterate 60 (try any_goals (first | (k_unfold; (try dsimp only)) | (k_end; wrow_close) | walk1 | (dsimp only; walk1) | (leave1; walk_say "STEP leave1"; try dsimp only)))
  rename Fr _ _ _ _ => FF
  exact q _ _ _ FF News.nil
end Mine
end

section
open PySem PySem.W PyProof.Rows PySem.Calls
set_option Elab.async false
namespace Mine
set_option maxRecDepth 100000 in
theorem kk (w : World) : Mine.hd.heap_184 w.params = Mine.hx.heap_39 w.params := by kernel_rfl
theorem gentoks_cons {M : Model} {A : Around} {env : Env} {st : Stmt} {ss : List Stmt} {Q : Flow → Shared → Prop} {E : Value → Shared → Prop} {h : Heap} {g : Array GenState} {d : Drawn} {t : Nat} {os : OsState} (h0 : @LT.lt Nat _ 0 t)
    (H : ∀ tk : Nat, @LT.lt Nat _ 0 tk → wpAny M A (exec st env) (fun f s' => match f with | .next => wpAny M A (execs ss env) Q E s' | f => Q f s') E ⟨h, g, d, tk, os⟩) : wpAny M A (execs (st :: ss) env) Q E ⟨h, g, d, t, os⟩ := by
  refine wpAny_execs_cons ?_
  exact H t h0
end Mine
end

section
open PySem PySem.W PyProof.Rows PySem.Calls
set_option Elab.async false
namespace Mine
section
variable {prog : Program} {w : World} {A : Around} {E : Value → Shared → Prop} {s : Shared} {x y : Str} {t u : Tok} {Q : Value → Shared → Prop} {h₀ : Heap} {L l : Addr} {m : Str → Option Value} {vs : List Value} {ns : List Int} {value slice : PySem.Expr}
theorem add_k (ht : @Ne Nat t 0) (hs : @LT.lt Nat _ 0 s.toks) (hx : x.length ≠ 0) (hz : x.length + y.length ≤ sizeLine) (q : ∀ (z : Str) (t' tk : Nat), @Ne Nat t' 0 → @LT.lt Nat _ 0 tk → Q (.str z t') { s with toks := tk }) : wpAny (model prog w) A (binaryOp .Add (.str x t) (.str y u)) Q E s := by
  refine P.add_str ?_
  rw [if_neg (by simpa using hx)]
  split
  · exact q x t s.toks ht hs
  · exact ⟨by rw [Str.length_append]; exact hz, q _ s.toks (s.toks + 1) (Nat.pos_iff_ne_zero.mp hs) (Nat.succ_pos _)⟩
theorem add_k2 {a b : Nat} (ht : @Ne Nat t 0) (hs : @LT.lt Nat _ 0 s.toks) (hx : x.length ≠ 0) (h1 : x.length ≤ a) (h2 : y.length ≤ b) (hz : a + b ≤ 16777216) (q : ∀ (z : Str) (t' tk : Nat), @Ne Nat t' 0 → @LT.lt Nat _ 0 tk → Q (.str z t') { s with toks := tk }) : wpAny (model prog w) A (binaryOp .Add (.str x t) (.str y u)) Q E s :=
  add_k ht hs hx (by rw [sizeLine_eq]; omega) q
theorem first_line (F : Fr h₀ L s.heap m) (hl : h₀.IsList l vs.toArray) (hi : IntsAre vs ns) (hk : ∀ v ∈ vs, KeyV v) (hpos : 0 < ns.length) (h63 : ns.length ≤ 100) (q : ∀ n t, @Ne Nat t 0 → Q (.int n t) s)
    (hs : subscripted slice false (.ref l) (.int 0 u) = operate [.ref l, .int 0 u] (getItem (.ref l) (.int 0 u)) := by with_unfolding_all rfl) :
    wpAny (model prog w) A (subscriptTail value slice (.ref l) (.int 0 u)) Q E s := by
  have e := hi.length
  refine item_any (xs := vs) (hl.at fun o e => F.keep l o e) (by omega) (by omega) (by omega) (fun v hv => ?_) hs
  obtain ⟨i, hi', hv'⟩ := List.getElem_of_mem hv
  obtain ⟨t, ht⟩ := hi.get i (ns[i]'(by omega)) (by simp)
  have : v = .int (ns[i]'(by omega)) t := by
    have h2 : vs[i]? = some v := by rw [List.getElem?_eq_getElem hi', hv']
    rw [ht] at h2; exact (Option.some.inj h2).symm
  subst this
  exact q _ t (hk _ hv)
end
set_option maxRecDepth 100000 in
theorem doc_list (w : World) (h : Heap) : Challenge.rw_bn5012_01.prog = Challenge.rw_bn5012_01.prog → (Mine.hx.heap_39 w.params).In h → ∃ vs, h.IsList 154 (List.toArray vs) ∧ IntsAre vs [5, 17, 30, 44, 9, 58, 61] := by
  k_fill
  intro _ KX
  refine ⟨_, ⟨_, KX _ _ (by k_is), rfl, _, rfl⟩, ?_⟩
  repeat' constructor
theorem k_len : (Str.ofString "k").length ≠ 0 := by decide
theorem keys7 {z1 z2 z3 z4 z6 z7 : Value} {g : Value} (h1 : KeyV z1) (h2 : KeyV z2) (h3 : KeyV z3) (h4 : KeyV z4) (hg : KeyV g) (h6 : KeyV z6) (h7 : KeyV z7) : ∀ v ∈ [z1, z2, z3, z4, g, z6, z7], KeyV v := by
  intro v hv
  simp only [List.mem_cons, List.not_mem_nil, or_false] at hv
  rcases hv with rfl | rfl | rfl | rfl | rfl | rfl | rfl <;> assumption
theorem names4 {z1 z2 z3 z4 : Value} (h1 : NameV z1) (h2 : NameV z2) (h3 : NameV z3) (h4 : NameV z4) : ∀ v ∈ [z1, z2, z3, z4], NameV v := by
  intro v hv
  simp only [List.mem_cons, List.not_mem_nil, or_false] at hv
  rcases hv with rfl | rfl | rfl | rfl <;> assumption
theorem nz {t : Nat} (h : @Ne Nat t 0) : t ≠ 0 := h
end Mine
end

section
open PySem PySem.W PyProof.Rows PySem.Calls
set_option Elab.async false
namespace Mine
local macro_rules | `(tactic| walk_at "execs cons") => `(tactic| (k_here; k_dflt (show wpAny _ _ (execs (Stmt.Assign _ _ _ :: _) _) _ _ _); k_dflt (refine' gentoks_cons ?zgp ?_; (case zgp => (refine ltN ?_; (try dsimp only); omega)); k_whole); intro tk htk; (try dsimp only)))
local macro_rules | `(tactic| walk_at "subscriptTail Name Constant ref int") => `(tactic| (k_here; (with_reducible show wpAny _ _ (subscriptTail _ _ (Value.ref _) (Value.int 0 _)) _ _ _); k_dflt (refine' first_line ?k1 ?k2 ?k3 ?k4 ?k5 ?k6 ?_ ?k8; (case k1 => k_asm); (case k2 => assumption); (case k3 => assumption); (case k4 => assumption); (case k5 => assumption); (case k6 => omega); (case k8 => with_unfolding_all rfl); k_whole); intro n' t' ht'))
local macro_rules | `(tactic| walk_at "binaryOp Add str str") => `(tactic| (k_here; (with_reducible show wpAny _ _ (binaryOp Operator.Add (Value.str _ _) (Value.str _ _)) _ _ _); (refine' add_k2 ?k1 ?k2 ?k3 ?k4 ?k5 ?k6 ?_; (case k4 => kt_len); (case k5 => kt_len); (case k6 => exact Nat.le_of_ble_eq_true rfl); (case k1 => (refine neN ?_; (try dsimp only); omega)); (case k2 => (refine ltN ?_; (try dsimp only); omega)); (case k3 => exact k_len)); intro z' t' tk' ht' htk'))
local macro_rules | `(tactic| walk_at "execs cons") => `(tactic| (k_here; (with_reducible show wpAny _ _ (execs (Stmt.For _ _ _ _ _ :: _) _) _ _ _); k_dflt (refine' law_rest _ _ _ _ _ _ _ _ _ _ _ _ ?zkx ?zt ?zE _ _ _ _ _ _ _ _ _ _ _ _ ?zks ?zns ?z7 ?z4 ?zF ?zN ?zi ?z90 ?zpos ?zl ?ze1 ?ze2 ?ze3 ?zne ?zm1 ?zm2 ?zm3 ?zm4 ?zm5 ?_; (case zF => assumption); (case zN => assumption); (case zm1 => with_unfolding_all rfl); (case zm2 => with_unfolding_all rfl); (case zm3 => with_unfolding_all rfl); (case zm4 => with_unfolding_all rfl); (case zm5 => with_unfolding_all rfl); (case ze1 => k_mem); (case ze2 => k_mem); (case ze3 => k_mem); (case zl => first | exact Or.inr ⟨by k_mem, by omega, by omega, by omega⟩ | exact Or.inl (by assumption)); (case zi => first | assumption | (repeat' constructor)); (case z90 => first | (simp only [List.length_cons, List.length_nil]; omega) | omega); (case zpos => first | assumption | (simp only [List.length_cons, List.length_nil]; omega) | decide); (case zks => exact keys7 (by (first | assumption | exact True.intro | (refine nz ?_; (try dsimp only); first | assumption | omega))) (by (first | assumption | exact True.intro | (refine nz ?_; (try dsimp only); first | assumption | omega))) (by (first | assumption | exact True.intro | (refine nz ?_; (try dsimp only); first | assumption | omega))) (by (first | assumption | exact True.intro | (refine nz ?_; (try dsimp only); first | assumption | omega))) (by (first | assumption | exact True.intro | (refine nz ?_; (try dsimp only); first | assumption | omega))) (by (first | assumption | exact True.intro | (refine nz ?_; (try dsimp only); first | assumption | omega))) (by (first | assumption | exact True.intro | (refine nz ?_; (try dsimp only); first | assumption | omega)))); (case zns => exact names4 (by (first | assumption | exact True.intro | (refine nz ?_; (try dsimp only); first | assumption | omega))) (by (first | assumption | exact True.intro | (refine nz ?_; (try dsimp only); first | assumption | omega))) (by (first | assumption | exact True.intro | (refine nz ?_; (try dsimp only); first | assumption | omega))) (by (first | assumption | exact True.intro | (refine nz ?_; (try dsimp only); first | assumption | omega)))); (case z7 => rfl); (case z4 => rfl); (case zne => exact ⟨by omega, by omega⟩); (case zkx => k_asm); (case zt => exact topRead_of (by assumption)); (case zE => passes_own); k_whole); intro h' tk' m' F' N'; (try dsimp only)))
set_option pp.deepTerms false in
set_option pp.deepTerms.threshold 8 in
set_option maxRecDepth 100000 in
set_option maxHeartbeats 8000000 in
theorem T1 : PySem.Challenge.rw_bn5012_01.Holds := by
  apply Mine.hd
  intro w s₀ s₁ mg mb G y fa o pm cd doc dV kV ho hd hcd hD hmg hg args vals as L hpre hlay hrd hwl hlo
  have f := X.z_facts (K := Mine.hd.heap_184) (fun _ => by kernel_rfl) y
  have KX : (Mine.hx.heap_39 w.params).In s₁.heap := by rw [← kk w]; exact Frag.In.keeps f.2.1 L.keeps
  have htk := f.2.2.2
  clear f
  obtain ⟨dvs, hdl, hdi⟩ := doc_list w s₁.heap rfl KX
  revert KX; k_fill; intro KX
  w_strict (k_behind G ho hd hcd hD hmg hpre hlay hrd hwl hlo cd; (have h444 : @LE.le Nat _ 444 s₁.toks := X.script_toks L htk); (have hvk := script_keys L (by assumption) htk); (all_goals try k_fold); k_steps)
end Mine
end

theorem PySem.Challenge.cw_bn5012_01_holds : PySem.Challenge.rw_bn5012_01.Holds := by
  exact Mine.T1
