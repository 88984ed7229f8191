import JvmDerived
import JvmDerived.Pilot.@@N@@Statement
import JvmDerived.Pilot.@@N@@Code
set_option linter.unusedVariables false
set_option linter.unusedSimpArgs false
@@BLOCK:LamKit.lean.txt@@
namespace Jvm.RoadKit
open Sem ClassFile Op Lib Jvm.Stand Jvm.Free Jvm.LawKit Jvm.LamKit
section Lam
variable {p : Program} {l : Launch} {e : Env} {R : Room} {s : State} {m : MethodId} {args : Array Value} {below : List Frame} {meth : Method} {c : Code} {T : State} {locs : List Loc} {cells slots : Nat}
/-- what an entry held at the start, it holds under wider tables -/
theorem own_entry {Z : State} {vm : Vm} (hW : Z.Warmed39 vm) {d : ClassId} {k : Class} {i : Nat} {r : Resolved} (hk : Z.vm.classes[d]? = some k) (h : k.resolved[i]? = some (some r)) :
    ∃ k', vm.classes[d]? = some k' ∧ k'.resolved[i]? = some (some r) := by
  obtain ⟨k', hk', -, -, hres, -⟩ := hW.2.2.2 d k hk
  refine ⟨k', hk', ?_⟩
  rcases hres i with q | ⟨q, -⟩
  · rw [q]; exact h
  · rw [h] at q; cases q
theorem own_mready {Z : State} {vm : Vm} (hW : Z.Warmed39 vm) {d : ClassId} {i : Nat} {t : MethodId} (h : Z.vm.methodReady d i t) : vm.methodReady d i t := by
  obtain ⟨k, hk, h⟩ := h
  exact own_entry hW hk h
theorem own_cready {Z : State} {vm : Vm} (hW : Z.Warmed39 vm) {d : ClassId} {i : Nat} {t : ClassId} (h : Z.vm.classReady d i t) : vm.classReady d i t := by
  obtain ⟨k, hk, h⟩ := h
  exact own_entry hW hk h
/-- a call has come back; the tables are wider -/
theorem own_outOfW (X : Stand p l e R s m args below meth c T locs cells slots) {g : JFrame} (hg : g.method = m) {ig : Instr} {len : Nat} (hdg : decode c.code g.pc = .ok (ig, len)) {mk : MethodId} {a : Array Value} {t : State} {v : Option Value} {L : List Loc} {k n : Nat}
    (hend : Ended t (.java g :: below) (.returned v)) (hE : ReturnedEndW (T.calling g mk a) (.returned v) t L k n) :
    ∃ T', Stand p l e R (s.setVm T'.vm) m args below meth c T' (locs ++ L) (cells + k) (slots + n) ∧ s.Since T'.vm T'.heap.size ∧ T.heap.size ≤ T'.heap.size ∧ T'.heap = t.heap ∧ t = T'.setTop { g with pc := g.pc + len, stack := v.toList ++ g.stack } := by
  obtain ⟨-, hW, hB, hsame⟩ := hE
  have hWT : T.Warmed39 t.vm := hW
  have hend' : Ended (t.setVm T.vm) (.java g :: below) (.returned v) := by
    obtain ⟨c₂, i₂, len₂, hc₂, hd₂, hf₂⟩ := hend
    refine ⟨c₂, i₂, len₂, ?_, hd₂, hf₂⟩
    rw [State.code?_eq] at hc₂ ⊢
    rw [hWT.alike.method?] at hc₂
    exact hc₂
  obtain ⟨T0, X0, hW0, hS0, ht⟩ := X.outOf hg hdg hend' (State.WarmedH.refl _) hsame
  have hh0 : t.heap = T0.heap := (show (t.setVm T.vm).heap = (T0.setTop { g with pc := g.pc + len, stack := v.toList ++ g.stack }).heap from congrArg State.heap ht)
  have hWs : s.Warmed39 t.vm := State.Warmed39.trans X.warmed.wide hWT
  refine ⟨T0.setVm t.vm, X0.retabled hWs, ⟨hWs, fun j q hj hq => ?_⟩, ?_, hh0.symm, ?_⟩
  · have hj' : T.vm.interned.size ≤ j := by rw [X.warmed.interned_eq]; exact hj
    obtain ⟨x, y⟩ := hB j q hj' hq
    exact ⟨Nat.le_trans X.same.2.1 x, by show q.2 < T0.heap.size; rw [← hh0]; exact y⟩
  · exact hS0.2.1
  · exact (show (t.setVm T.vm).setVm t.vm = (T0.setTop { g with pc := g.pc + len, stack := v.toList ++ g.stack }).setVm t.vm from congrArg (fun z : State => z.setVm t.vm) ht)
/-- the forwarder's cast entry names String -/
def own_castOK (σ : Lambda.Shape) (host : String) (cj : Nat) : Bool :=
  match σ.file host with
  | none => false
  | some D =>
    match D.constantPool[cj]? with
    | some (.class_ n) => decide (D.constantPool.string? n = some "java/lang/String") && decide (cj ≠ D.thisClass)
    | _ => false
theorem own_made_cast {st : Setting} {vm : Vm} {d c : ClassId} {dk : Class} {σ : Lambda.Shape} {host : String} {cj : Nat} {cS : ClassId} (hok : own_castOK σ host cj = true) (hd : vm.classes[d]? = some dk) (hname : dk.name = host) (h : Lambda.isMade st vm d σ c = true)
    (hs : vm.findClass "java/lang/String" = some cS) : vm.classReady c cj cS := by
  obtain ⟨dk', k, ok, tk, file, cf, object, iface, toy, lay, methods, target, found, hd', hk, hfile, hcf, -, -, -, -, -, -, -, -, -, -, -, -, -, -, -, -, -, -, hres, -⟩ := Lambda.isMade_spec h
  cases hd.symm.trans hd'
  rw [hname] at hcf
  unfold own_castOK at hok
  rw [hcf] at hok
  dsimp only at hok
  split at hok
  · rename_i n hcj
    simp only [Bool.and_eq_true, decide_eq_true_eq] at hok
    exact ⟨k, hk, hres cj _ (Lambda.resolvedOf_class hcj hok.2 hok.1 hs)⟩
  · cases hok
/-- one invokeinterface on a function object that captures nothing, whose target is a static method (String)V with a contract that may intern -/
theorem own_lamS {Z : State} {a0 : Array Value} (X : Stand p l e R s m args below meth c T locs cells slots) (hx : p.tables.exec = Jvm.exec) (hZ : Z.Warmed39 s.vm) {own host : String} {index count : Nat} {xi y : MethodName} {σ : Lambda.Shape} {bytes : ByteArray} {maxL : Nat} {rm : Room} {Q : Option Value → Heap → List Loc → Prop} {d b : Addr} {h : Heap}
    (hM : MetFree l y (head1 [Cond.code y bytes maxL none] rm) (fun a U => a = #[.ref d] ∧ Z.Warmed39 U.vm ∧ U.heap = h) (fun _ _ _ _ _ => True) (fun _ U o U' => ∃ v L, o = .returned v ∧ Q v U'.heap L ∧ ReturnedEndW U o U' L rm.cells rm.slots))
    (hQ : ∀ v h' L, Q v h' L → v = none) (hown : s.vm.findClass own = some m.cls) (hlink : (Cond.methodLink own index xi).before args s = true) (hdecl : (Cond.declares xi).before args s = true) (hface : (Cond.interfaceMethod xi.cls xi.cls xi.name xi.desc).before args s = true)
    (wf : (Cond.interfaceMethod xi.cls xi.cls xi.name xi.desc).before a0 Z = true) (wc : (Cond.code y bytes maxL none).before a0 Z = true) (wst : (Cond.static y).before a0 Z = true) (wz : (Cond.initialized y.cls).before a0 Z = true)
    (hxi : xi.cls = σ.iface ∧ xi.name = σ.name ∧ xi.desc = σ.sam.toString) (hy : y.cls = σ.implClass ∧ y.name = σ.implName ∧ y.desc = σ.implDesc.toString)
    (hpoly : (xi.cls ≠ "java/lang/invoke/MethodHandle" ∧ xi.cls ≠ "java/lang/invoke/VarHandle") ∧ y.cls ≠ "java/lang/invoke/MethodHandle" ∧ y.cls ≠ "java/lang/invoke/VarHandle")
    {cK cS : ClassId} (hmd : Jvm.LamKit.Made Z host σ cK) (hT : T.heap = h) (hfn : FnAt h b cK) {cd : Cell} (hcd : h[d]? = some cd) (hcdo : ∀ k, cd.vm ≠ .statics k) (hcS : Z.vm.findClass "java/lang/String" = some cS) (hcdc : cd.cls = cS) {kS : Class} (hkS : Z.vm.classes[cS]? = some kS) (hasS : Z.vm.assignable cS cS = true)
    {fcode : ByteArray} {idx ci cj : Nat} (hok : fwdOK σ host fcode 2 none idx ci = true) (hcj : own_castOK σ host cj = true)
    (hd0 : decode fcode 0 = .ok (.aload_n 1, 1)) (hd1 : decode fcode 1 = .ok (.checkcast cj, 3)) (hd4 : decode fcode 4 = .ok (.invokestatic idx, 3)) (hd7 : decode fcode 7 = .ok (.return_, 1))
    {g : JFrame} (hg : g.method = m) (hsize : g.locals.size = c.maxLocals) {rest : List Value} (hlen : ∀ sig, parseMethodDescriptor xi.desc = some sig → 1 = sig.parameters.length) (hlenT : ∀ sig, parseMethodDescriptor y.desc = some sig → 1 = sig.parameters.length)
    (hstack : g.stack = .ref d :: .ref b :: rest) (hdg : decode c.code g.pc = .ok (.invokeinterface index count, 5))
    (hfr : rm.frames + 2 ≤ R.frames) (hlo : 2 * g.monitorRoom + (rest.map fun v => v.category).sum + (2 + 11) + ((maxL + 11) + rm.locals) ≤ R.locals) (hcells : cells + rm.cells ≤ R.cells) (hslots : slots + rm.slots ≤ R.slots) :
    ∃ (v : Option Value) (vm₁ : Vm) (B : Pt), s.WarmedH vm₁ ∧ Stand p l e R (s.setVm B.U.vm) m args below meth c B.U B.locs B.cells B.slots ∧ s.Since B.U.vm B.U.heap.size ∧ T.heap.size ≤ B.U.heap.size ∧
      (∃ L, Q v B.U.heap L ∧ B.locs = locs ++ L ∧ B.cells = cells + rm.cells ∧ B.slots = slots + rm.slots) ∧
      Steps p.tables e below (T.setTop g) (B.U.setTop { g with pc := g.pc + 5, stack := v.toList ++ rest }) := by
  obtain ⟨cell, hcell, rfl, hvmc⟩ := hfn
  have hA := hZ.alike
  obtain ⟨kK, methk, hkK, hmk, hpub, habs, hsel⟩ := madeSelects (args := a0) hmd hok wf hxi
  obtain ⟨r0, r, hn, hrm, hstR, hsigR⟩ := Cond.declares_spec hdecl
  obtain ⟨cL, kL, r1, hcL, hkL, hiL, -, -⟩ := Cond.interfaceMethod_spec hface
  have hr0cls : r0.cls = cL := Option.some.inj ((findClass_of_methodNamed hn).symm.trans hcL)
  have hnZ : Z.methodNamed? xi = some r0 := by
    have q := State.methodNamed?_setVm (s := Z) hA xi
    rw [← q]; exact hn
  have hrmZ : Z.vm.method? r0 = some r := by rw [← hA.method?]; exact hrm
  obtain ⟨hasg, hsel', hway⟩ := hsel r0 r hnZ hrmZ
  obtain ⟨kK1, hkK1, -⟩ := hA.2.2 _ _ hkK
  obtain ⟨vm₁, X₁, hstep₁⟩ := X.invokeinterface hx hown hlink hn hrm hstR (by rw [hr0cls]; exact hkL) hiL hpoly.1 (a := b) (cell := cell) (kcell := kK1) (by rw [hT]; exact hcell) (fun z q => by rw [hvmc] at q; cases q) hkK1 (by rw [hA.assignable]; exact hasg)
    (m' := ⟨cell.cls, 1⟩) (meth' := methk) (by rw [Launch.admits_selectMethod X.admits, hA.selectMethod]; exact hsel') (by rw [hA.method?]; exact hmk) (by simp only [hA.superclasses, hA.declaredIn]; exact hway) hpub habs hg (argsL := [.ref d]) (rest := rest) (hlen _ hsigR) hstack hdg
  have hW1 : Z.Warmed39 vm₁ := wtrans hZ X₁.warmed
  have hA1 := hW1.alike
  obtain ⟨y1, y2, y3⟩ := hy
  obtain ⟨dd, dk, hdd, hdn, hmade, -⟩ := id hmd
  obtain ⟨kK', tk, file, methk', ck, toy, t, nt, hkK', hpn, hfile, hidx, hnt, hmk', hck, hbytes, hml, hlk, -, hretk, htoy, htk, hlook, hready, hclsR⟩ := made_static hok hdd hdn hmade
  cases hkK.symm.trans hkK'
  cases hmk.symm.trans hmk'
  obtain ⟨mT, hmT⟩ := Cond.code_named wc
  obtain ⟨methT, cT, hmethT, hcT, -, hlocT, -, -, -, hsigT⟩ := Cond.code_spec hmT wc
  have hstaticT : methT.isStatic = true := Cond.static_spec hmT hmethT wst
  have ht : t = mT := by
    have q := State.methodFound?_of_named hmT hpoly.2
    rw [y1, y2, y3] at q
    simp only [State.methodFound?, htoy, htk, Option.bind_eq_bind, Option.bind_some] at q
    rw [hlook] at q
    exact Option.some.inj q
  subst ht
  have hfT : Z.vm.findClass y.cls = some t.cls := findClass_of_methodNamed hmT
  rw [y1] at hfT
  cases htoy.symm.trans hfT
  obtain ⟨kT, hkT, hnameT⟩ := className_of_methodNamed hmT
  cases htk.symm.trans hkT
  have hinitK : tk.init = .initialized := Cond.initialized_spec (findClass_of_methodNamed hmT) htk wz
  obtain ⟨tk1, htk1, heT1⟩ := hA1.2.2 _ _ htk
  have hsp : ∀ z : Method, signaturePolymorphic tk1 z = false := fun z => by
    have hn' : tk1.name = y.cls := by rw [heT1]; exact hnameT
    simp [signaturePolymorphic, hn', hpoly.2.1, hpoly.2.2]
  have hmk1 : (T.setVm vm₁).vm.method? ⟨cell.cls, 1⟩ = some methk := by show vm₁.method? _ = _; rw [hA1.method?]; exact hmk
  have hmeth1 : vm₁.method? t = some methT := by rw [hA1.method?]; exact hmethT
  obtain ⟨kK2, hkK2, heK2⟩ := hA1.2.2 _ _ hkK
  have hpk : (T.setVm vm₁).plainMethod ⟨cell.cls, 1⟩ := State.plainMethod.of_name (fun k' hk' => by cases hkK2.symm.trans hk'; rw [heK2]; exact hpn)
  obtain ⟨bb, hmem⟩ := memberRef_ask' (e := e) (vm := vm₁) (d := cell.cls) (index := idx) hkK2 (by rw [heK2]; exact hfile) (Or.inl hidx) hnt
  obtain ⟨Y₀, hin⟩ := X₁.into (g := { g with stack := rest }) hg hsize hdg #[.ref b, .ref d] (R' := { frames := rm.frames + 1, cells := rm.cells, slots := rm.slots, locals := (maxL + 11) + rm.locals }) hmk1 hck hlk hpk hfr (by rw [hml]; exact hlo) hcells hslots
  have hL0 : entryFrame ⟨cell.cls, 1⟩ #[.ref b, .ref d] 2 = { method := ⟨cell.cls, 1⟩, pc := 0, locals := #[.val (.ref b), .val (.ref d)], stack := [], locked := none } := rfl
  rw [hml, hL0] at Y₀ hin
  generalize hU : ((T.setVm vm₁).setTop { g with stack := rest }).pushFrame (.java { method := ⟨cell.cls, 1⟩, pc := 0, locals := #[.val (.ref b), .val (.ref d)], stack := [], locked := none }) = U at Y₀ hin
  have hvmU : U.vm = vm₁ := by rw [← hU]; rfl
  have hheapU : U.heap = h := by rw [← hU]; exact hT
  generalize hs' : (T.setVm vm₁).calling { g with stack := rest } ⟨cell.cls, 1⟩ #[.ref b, .ref d] = s' at Y₀
  have hvm' : s'.vm = vm₁ := by rw [← hs']; rfl
  have hZ' : Z.Warmed39 s'.vm := by rw [hvm']; exact hW1
  have hK := backOfS (p := p) (e := e) (below := .java { g with stack := rest } :: below) (args := #[.ref b, .ref d]) (len := 3) (W := 0) (s := s') (R := { frames := rm.frames + 1, cells := rm.cells, slots := rm.slots, locals := (maxL + 11) + rm.locals }) hM hZ' wc wz (Nat.le_refl _) (by show 0 + (maxL + 11) + rm.locals ≤ (maxL + 11) + rm.locals; omega)
  have hnamedU : U.methodNamed? y = some t := by
    have q : (Z.setVm vm₁).methodNamed? y = some t := by rw [State.methodNamed?_setVm hA1]; exact hmT
    rw [← hU]; exact q
  obtain ⟨v, ⟨U', ls, cc, sl⟩, Y₁, hS, hgr, ⟨L, hq, l1, l2, l3⟩, hsteps⟩ := hK ⟨cell.cls, 1⟩ methk ck ⟨U, [], 0, 0⟩ { method := ⟨cell.cls, 1⟩, pc := 4, locals := #[.val (.ref b), .val (.ref d)], stack := [], locked := none } (.invokestatic idx) t #[.ref d] Y₀ rfl (by rw [hml]; rfl)
    (by rw [hbytes]; exact hd4) (Nat.le_refl _) hnamedU ⟨rfl, hheapU, by show 0 + rm.cells ≤ rm.cells; omega, by show 0 + rm.slots ≤ rm.slots; omega⟩
  dsimp only [Pt.U, Pt.locs, Pt.cells, Pt.slots] at Y₁ hS hgr hq l1 l2 l3 hsteps
  replace l1 := l1.symm; replace l2 := l2.symm; replace l3 := l3.symm; subst l1 l2 l3
  cases hQ _ _ _ hq
  obtain ⟨fs, hleave, -, hended, hE⟩ := Y₁.leaveW hS (Nat.le_refl _) (v := none) (fun _ => rfl) hlk
  subst hs'
  obtain ⟨T', X', hS', hgr', hh', ht'⟩ := own_outOfW X₁ (g := { g with stack := rest }) hg hdg hended hE
  refine ⟨none, vm₁, ⟨T', locs ++ L, cells + rm.cells, slots + rm.slots⟩, X₁.warmed, by simpa using X', hS', hgr', ⟨L, ?_, rfl, rfl, rfl⟩, ?_⟩
  · show Q none T'.heap L
    rw [hh']; exact hq
  · refine hstep₁ _ fun acts => ?_
    show Steps p.tables e below (doInvoke e _ acts _ #[.ref b, .ref d]).1 (T'.setTop _)
    rw [hin acts, ← ht']
    refine Steps.weaken (mid := [.java { g with stack := rest }]) ?_
    have hsU : U.topJava?.isSome := Y₀.here.top
    refine XS.aloadN Y₀.here hx rfl (k := 1) (v := .ref d) (by rw [hbytes]; exact hd0) rfl rfl ?_
    have hd1' : decode ck.code 1 = .ok (.checkcast cj, 3) := by rw [hbytes]; exact hd1
    have hd4' : decode ck.code 4 = .ok (.invokestatic idx, 3) := by rw [hbytes]; exact hd4
    have hcr : U.vm.classReady cell.cls cj cS := by rw [hvmU]; exact own_cready hW1 (own_made_cast hcj hdd hdn hmade hcS)
    obtain ⟨kS1, hkS1, -⟩ := hA1.2.2 _ _ hkS
    show Steps p.tables e _ (U.setTop { method := ⟨cell.cls, 1⟩, pc := 1, locals := #[.val (.ref b), .val (.ref d)], stack := [.ref d], locked := none }) _
    jvm_step Y₀.here [hx, hd1', checkcast.wp_ready (s := U) (f := { method := ⟨cell.cls, 1⟩, pc := 1, locals := #[.val (.ref b), .val (.ref d)], stack := [.ref d], locked := none }) (c := cS) (x := .ref d) (rest := []) hsU hcr rfl]
    refine ⟨cd, by rw [hheapU]; exact hcd, hcdo, kS1, by rw [hvmU, hcdc]; exact hkS1, kS1, by rw [hvmU]; exact hkS1, ?_⟩
    rw [if_pos (by rw [hvmU, hcdc, hA1.assignable]; exact hasS)]
    jvm_step Y₀.here [hx, hd4', invokestatic.wp_ready (e := e) (s := U) (m := t) (k := tk1) (meth := methT) (args := [.ref d]) (rest := [])
      (f := { method := ⟨cell.cls, 1⟩, pc := 4, locals := #[.val (.ref b), .val (.ref d)], stack := [.ref d], locked := none }) hsU ⟨ci, _, _, bb, t.cls, tk1, by rw [hvmU]; exact hmem, by rw [hvmU]; exact own_cready hW1 hclsR, by rw [hvmU]; exact htk1, by simp [hsp]⟩ (by rw [hvmU]; exact own_mready hW1 hready) (by rw [hvmU]; exact htk1) (by rw [hvmU]; exact hmeth1) (hsp _) hstaticT (by rw [heT1]; exact hinitK) (hlenT _ hsigT) (by simp)]
    intro acts'
    rw [doInvoke_state]
    refine hsteps.trans ?_
    exact Y₁.returnOut hx hretk (by rw [hbytes]; exact hd7) hleave
/-- the object at a is of class cK: an own name, so that it rides as the other facts do -/
def own_Fn (h : Heap) (a : Addr) (cK : ClassId) : Prop := FnAt h a cK
theorem own_Fn.ext {h h' : Heap} {a : Addr} {cK : ClassId} (F : own_Fn h a cK) (E : Ext h h') : own_Fn h' a cK := by
  obtain ⟨cell, q, r⟩ := F
  exact ⟨cell, E.2 _ _ q, r⟩
theorem own_Fn.wr {h h' : Heap} {a b : Addr} {sl : Nat} {v : Value} {cK : ClassId} (F : own_Fn h a cK) (W : Wr h h' b sl v) : own_Fn h' a cK := by
  obtain ⟨cell, q, r1, r2⟩ := F
  obtain ⟨cw, w1, -, w3, rfl⟩ := W
  by_cases hab : b = a
  · subst hab
    cases q.symm.trans w1
    refine ⟨cell.setSlot sl v, ?_, r1, r2⟩
    rw [Array.getElem?_setIfInBounds]
    simp [(Array.getElem?_eq_some_iff.mp q).1]
  · refine ⟨cell, ?_, r1, r2⟩
    rw [Array.getElem?_setIfInBounds, if_neg hab]; exact q
theorem own_Fn.keep {h h' : Heap} {a : Addr} {ws : List Addr} {cK : ClassId} (F : own_Fn h a cK) (K : Keep h h' ws) : own_Fn h' a cK := by
  obtain ⟨cell, q, r1, r2⟩ := F
  obtain ⟨c', k1, k2, k3, -⟩ := K.2.2 _ _ q
  exact ⟨c', k1, k2.trans r1, k3.trans r2⟩
/-- the start's tables: x's site at pc hands out the object a -/
def own_Site (Z : State) (x : MethodName) (pc : Nat) (a : Addr) : Prop :=
  ∃ (mm : MethodId) (k : Class) (i0 p0 : Nat), Z.methodNamed? x = some mm ∧ Z.vm.classes[mm.cls]? = some k ∧ (k.callSites.find? fun y => y.1 == mm.idx && y.2.1 == pc) = some (i0, p0, .constant a)
theorem own_site_of {Z : State} {a0 : Array Value} {x : MethodName} {pc index : Nat} {σ : Lambda.Shape} (w : (Cond.lambdaSite x pc index σ).before a0 Z = true) (hcap : σ.captured = []) :
    ∃ (a : Addr) (cK : ClassId), Jvm.LamKit.Made Z x.cls σ cK ∧ own_Site Z x pc a ∧ own_Fn Z.heap a cK := by
  obtain ⟨cK, one, hat⟩ := Cond.lambdaSite_spec w
  obtain ⟨mD, kD, cfD, i0, p0, lk, hmD, hkD, -, -, -, hfind, hmade, hcan, hl⟩ := State.lambdaAt?_spec hat
  obtain ⟨kD', hkD', hnameD⟩ := className_of_methodNamed hmD
  cases hkD.symm.trans hkD'
  rcases hl with ⟨a, cell, rfl, -, -, hcell, hcls, hvm, -⟩ | ⟨-, -, hne⟩
  · exact ⟨a, cK, ⟨_, kD, hkD, hnameD, hmade, hcan⟩, ⟨mD, kD, i0, p0, hmD, hkD, hfind⟩, ⟨cell, hcell, hcls, hvm⟩⟩
  · exact absurd hcap hne
/-- invokedynamic at such a site -/
theorem own_indy {Z : State} (X : Stand p l e R s m args below meth c T locs cells slots) (hx : p.tables.exec = Jvm.exec) (hZ : Z.Warmed39 s.vm) {x : MethodName} {pc index : Nat} {a : Addr} (hn : Z.methodNamed? x = some m) (hs : own_Site Z x pc a)
    {g : JFrame} (hg : g.method = m) (hpc : g.pc = pc) (hsize : g.locals.size = c.maxLocals) (hdg : decode c.code g.pc = .ok (.invokedynamic index, 5)) (hwords : 2 * g.monitorRoom + (g.stack.map fun v => v.category).sum + 3072 ≤ R.locals) {target : State}
    (k_ : Steps p.tables e below (T.setTop { g with pc := g.pc + 5, stack := .ref a :: g.stack }) target) : Steps p.tables e below (T.setTop g) target := by
  obtain ⟨mm, k, i0, p0, h1, h2, h3⟩ := hs
  cases hn.symm.trans h1
  obtain ⟨k', hk', he⟩ := hZ.alike.2.2 _ _ h2
  have hw : e.platform.lambdaLinkWords = 3072 := by rw [X.admits.platform]
  exact X.lambdaConstant hx hg hsize hdg hk' (by rw [he, hpc]; exact h3) (by rw [hw]; exact hwords) k_
theorem own_named {Z : State} (hZ : Z.Warmed39 s.vm) {x : MethodName} (hn : s.methodNamed? x = some m) : Z.methodNamed? x = some m := by
  have q := State.methodNamed?_setVm (s := Z) hZ.alike x
  rw [← q]; exact hn
/-- own_lamS, the argument a String by Exa -/
theorem own_lam {Z : State} {a0 : Array Value} (X : Stand p l e R s m args below meth c T locs cells slots) (hx : p.tables.exec = Jvm.exec) (hZ : Z.Warmed39 s.vm) {own host : String} {index count : Nat} {xi y : MethodName} {σ : Lambda.Shape} {bytes : ByteArray} {maxL : Nat} {rm : Room} {Q : Option Value → Heap → List Loc → Prop} {d b : Addr} {h : Heap}
    (hM : MetFree l y (head1 [Cond.code y bytes maxL none] rm) (fun a U => a = #[.ref d] ∧ Z.Warmed39 U.vm ∧ U.heap = h) (fun _ _ _ _ _ => True) (fun _ U o U' => ∃ v L, o = .returned v ∧ Q v U'.heap L ∧ ReturnedEndW U o U' L rm.cells rm.slots))
    (hQ : ∀ v h' L, Q v h' L → v = none) (hown : s.vm.findClass own = some m.cls) (hlink : (Cond.methodLink own index xi).before args s = true) (hdecl : (Cond.declares xi).before args s = true) (hface : (Cond.interfaceMethod xi.cls xi.cls xi.name xi.desc).before args s = true)
    (wf : (Cond.interfaceMethod xi.cls xi.cls xi.name xi.desc).before a0 Z = true) (wc : (Cond.code y bytes maxL none).before a0 Z = true) (wst : (Cond.static y).before a0 Z = true) (wz : (Cond.initialized y.cls).before a0 Z = true) (wk : (Cond.castable "java/lang/String" "java/lang/String").before a0 Z = true)
    (hxi : xi.cls = σ.iface ∧ xi.name = σ.name ∧ xi.desc = σ.sam.toString) (hy : y.cls = σ.implClass ∧ y.name = σ.implName ∧ y.desc = σ.implDesc.toString)
    (hpoly : (xi.cls ≠ "java/lang/invoke/MethodHandle" ∧ xi.cls ≠ "java/lang/invoke/VarHandle") ∧ y.cls ≠ "java/lang/invoke/MethodHandle" ∧ y.cls ≠ "java/lang/invoke/VarHandle")
    {cK : ClassId} (hmd : Jvm.LamKit.Made Z host σ cK) (hT : T.heap = h) (hfn : own_Fn h b cK) (hd : Exa Z h d "java/lang/String")
    {fcode : ByteArray} {idx ci cj : Nat} (hok : fwdOK σ host fcode 2 none idx ci = true) (hcj : own_castOK σ host cj = true)
    (hd0 : decode fcode 0 = .ok (.aload_n 1, 1)) (hd1 : decode fcode 1 = .ok (.checkcast cj, 3)) (hd4 : decode fcode 4 = .ok (.invokestatic idx, 3)) (hd7 : decode fcode 7 = .ok (.return_, 1))
    {g : JFrame} (hg : g.method = m) (hsize : g.locals.size = c.maxLocals) {rest : List Value} (hlen : ∀ sig, parseMethodDescriptor xi.desc = some sig → 1 = sig.parameters.length) (hlenT : ∀ sig, parseMethodDescriptor y.desc = some sig → 1 = sig.parameters.length)
    (hstack : g.stack = .ref d :: .ref b :: rest) (hdg : decode c.code g.pc = .ok (.invokeinterface index count, 5))
    (hfr : rm.frames + 2 ≤ R.frames) (hlo : 2 * g.monitorRoom + (rest.map fun v => v.category).sum + (2 + 11) + ((maxL + 11) + rm.locals) ≤ R.locals) (hcells : cells + rm.cells ≤ R.cells) (hslots : slots + rm.slots ≤ R.slots) :
    ∃ (v : Option Value) (vm₁ : Vm) (B : Pt), s.WarmedH vm₁ ∧ Stand p l e R (s.setVm B.U.vm) m args below meth c B.U B.locs B.cells B.slots ∧ s.Since B.U.vm B.U.heap.size ∧ T.heap.size ≤ B.U.heap.size ∧
      (∃ L, Q v B.U.heap L ∧ B.locs = locs ++ L ∧ B.cells = cells + rm.cells ∧ B.slots = slots + rm.slots) ∧
      Steps p.tables e below (T.setTop g) (B.U.setTop { g with pc := g.pc + 5, stack := v.toList ++ rest }) := by
  obtain ⟨cell, k, q1, q2, q3, q4, -⟩ := hd
  obtain ⟨c3, t3, w1, w2, w3⟩ := Cond.castable_spec wk
  cases w1.symm.trans w2
  cases q2.symm.trans w1
  exact own_lamS X hx hZ hM hQ hown hlink hdecl hface wf wc wst wz hxi hy hpoly hmd hT hfn q1 (fun z q => by rw [q] at q4; cases q4) q2 rfl q3 w3 hok hcj hd0 hd1 hd4 hd7 hg hsize hlen hlenT hstack hdg hfr hlo hcells hslots
end Lam
def own_host : String := "com/example/labmeld/labmeld/finding/Finding$Address"
def own_fcode : ByteArray := ⟨#[0x2b, 0xc0, 0x00, 0x0e, 0xb8, 0x00, 0x14, 0xb1]⟩
def own_sh0 : Jvm.Lambda.Shape := Jvm.Lambda.Shape.mk "java/util/function/Consumer" "accept" (Jvm.ClassFile.MethodDescriptor.mk [(Jvm.ClassFile.FieldType.object "java/lang/Object")] none) [] 6 "com/example/labmeld/labmeld/finding/Finding$Address" "lambda$new$0" (Jvm.ClassFile.MethodDescriptor.mk [(Jvm.ClassFile.FieldType.object "java/lang/String")] none) false (Jvm.ClassFile.MethodDescriptor.mk [(Jvm.ClassFile.FieldType.object "java/lang/String")] none)
set_option maxRecDepth 65536 in
theorem own_ok0 : fwdOK own_sh0 own_host own_fcode 2 none 20 16 = true := by decide +kernel
set_option maxRecDepth 65536 in
theorem own_ck0 : own_castOK own_sh0 own_host 14 = true := by decide +kernel
def own_sh1 : Jvm.Lambda.Shape := Jvm.Lambda.Shape.mk "java/util/function/Consumer" "accept" (Jvm.ClassFile.MethodDescriptor.mk [(Jvm.ClassFile.FieldType.object "java/lang/Object")] none) [] 6 "com/example/labmeld/labmeld/finding/Finding$Address" "lambda$new$1" (Jvm.ClassFile.MethodDescriptor.mk [(Jvm.ClassFile.FieldType.object "java/lang/String")] none) false (Jvm.ClassFile.MethodDescriptor.mk [(Jvm.ClassFile.FieldType.object "java/lang/String")] none)
set_option maxRecDepth 65536 in
theorem own_ok1 : fwdOK own_sh1 own_host own_fcode 2 none 20 16 = true := by decide +kernel
set_option maxRecDepth 65536 in
theorem own_ck1 : own_castOK own_sh1 own_host 14 = true := by decide +kernel
def own_sh2 : Jvm.Lambda.Shape := Jvm.Lambda.Shape.mk "java/util/function/Consumer" "accept" (Jvm.ClassFile.MethodDescriptor.mk [(Jvm.ClassFile.FieldType.object "java/lang/Object")] none) [] 6 "com/example/labmeld/labmeld/finding/Finding$Address" "lambda$new$2" (Jvm.ClassFile.MethodDescriptor.mk [(Jvm.ClassFile.FieldType.object "java/lang/String")] none) false (Jvm.ClassFile.MethodDescriptor.mk [(Jvm.ClassFile.FieldType.object "java/lang/String")] none)
set_option maxRecDepth 65536 in
theorem own_ok2 : fwdOK own_sh2 own_host own_fcode 2 none 20 16 = true := by decide +kernel
set_option maxRecDepth 65536 in
theorem own_ck2 : own_castOK own_sh2 own_host 14 = true := by decide +kernel
def own_sh3 : Jvm.Lambda.Shape := Jvm.Lambda.Shape.mk "java/util/function/Consumer" "accept" (Jvm.ClassFile.MethodDescriptor.mk [(Jvm.ClassFile.FieldType.object "java/lang/Object")] none) [] 6 "com/example/labmeld/labmeld/finding/Finding$Address" "lambda$new$3" (Jvm.ClassFile.MethodDescriptor.mk [(Jvm.ClassFile.FieldType.object "java/lang/String")] none) false (Jvm.ClassFile.MethodDescriptor.mk [(Jvm.ClassFile.FieldType.object "java/lang/String")] none)
set_option maxRecDepth 65536 in
theorem own_ok3 : fwdOK own_sh3 own_host own_fcode 2 none 20 16 = true := by decide +kernel
set_option maxRecDepth 65536 in
theorem own_ck3 : own_castOK own_sh3 own_host 14 = true := by decide +kernel
def own_sh4 : Jvm.Lambda.Shape := Jvm.Lambda.Shape.mk "java/util/function/Consumer" "accept" (Jvm.ClassFile.MethodDescriptor.mk [(Jvm.ClassFile.FieldType.object "java/lang/Object")] none) [] 6 "com/example/labmeld/labmeld/finding/Finding$Address" "lambda$new$4" (Jvm.ClassFile.MethodDescriptor.mk [(Jvm.ClassFile.FieldType.object "java/lang/String")] none) false (Jvm.ClassFile.MethodDescriptor.mk [(Jvm.ClassFile.FieldType.object "java/lang/String")] none)
set_option maxRecDepth 65536 in
theorem own_ok4 : fwdOK own_sh4 own_host own_fcode 2 none 20 16 = true := by decide +kernel
set_option maxRecDepth 65536 in
theorem own_ck4 : own_castOK own_sh4 own_host 14 = true := by decide +kernel
end Jvm.RoadKit
namespace Jvm.RoadKit
open Sem ClassFile Op Lib Jvm.Stand Jvm.Free Jvm.LawKit
section New
variable {p : Program} {l : Launch} {e : Env} {R : Room} {s : State} {m : MethodId} {args : Array Value} {below : List Frame} {meth : Method} {c : Code} {T : State} {locs : List Loc} {cells slots : Nat}
theorem retI (X : Stand p l e R s m args below meth c T locs cells slots) (hx : p.tables.exec = Jvm.exec) {pc : Nat} {Ls : Array Slot} {z : Int32} {rest : List Value} (hret : meth.sig.returnType = some .int) (hd : decode c.code pc = .ok (.ireturn, 1)) {fs : List Frame}
    (hl : ∀ (f : JFrame) (acts : List Action), f.method = m → f.locked = none → f.entered = [] → (doReturn e (T.setTop f) acts (some (.int z))).1 = T.setFrames fs) : Steps p.tables e below (T.setTop (mkF m pc Ls (.int z :: rest))) (T.setFrames fs) :=
  retOut X hx hret rfl (Or.inl ⟨rfl, Or.inl rfl, _, rfl⟩) hd hl
theorem own_retA (X : Stand p l e R s m args below meth c T locs cells slots) (hx : p.tables.exec = Jvm.exec) {pc : Nat} {Ls : Array Slot} {w : Value} {t : FieldType} {rest : List Value} (hret : meth.sig.returnType = some t) (ht : t.isReference = true) (hw : w.isRef = true) (hd : decode c.code pc = .ok (.areturn, 1)) {fs : List Frame}
    (hl : ∀ (f : JFrame) (acts : List Action), f.method = m → f.locked = none → f.entered = [] → (doReturn e (T.setTop f) acts (some w)).1 = T.setFrames fs) : Steps p.tables e below (T.setTop (mkF m pc Ls (w :: rest))) (T.setFrames fs) :=
  retOut X hx hret (by cases w <;> first | (simp [Value.isRef] at hw; done) | (cases t <;> rfl)) (Or.inr (Or.inr (Or.inr (Or.inr ⟨rfl, ht, hw⟩)))) hd hl
theorem own_retJ (X : Stand p l e R s m args below meth c T locs cells slots) (hx : p.tables.exec = Jvm.exec) {pc : Nat} {Ls : Array Slot} {z : Int64} {rest : List Value} (hret : meth.sig.returnType = some .long) (hd : decode c.code pc = .ok (.lreturn, 1)) {fs : List Frame}
    (hl : ∀ (f : JFrame) (acts : List Action), f.method = m → f.locked = none → f.entered = [] → (doReturn e (T.setTop f) acts (some (.long z))).1 = T.setFrames fs) : Steps p.tables e below (T.setTop (mkF m pc Ls (.long z :: rest))) (T.setFrames fs) :=
  retOut X hx hret rfl (Or.inr (Or.inl ⟨rfl, rfl, _, rfl⟩)) hd hl
theorem own_retD (X : Stand p l e R s m args below meth c T locs cells slots) (hx : p.tables.exec = Jvm.exec) {pc : Nat} {Ls : Array Slot} {z : UInt64} {rest : List Value} (hret : meth.sig.returnType = some .double) (hd : decode c.code pc = .ok (.dreturn, 1)) {fs : List Frame}
    (hl : ∀ (f : JFrame) (acts : List Action), f.method = m → f.locked = none → f.entered = [] → (doReturn e (T.setTop f) acts (some (.double z))).1 = T.setFrames fs) : Steps p.tables e below (T.setTop (mkF m pc Ls (.double z :: rest))) (T.setFrames fs) :=
  retOut X hx hret rfl (Or.inr (Or.inr (Or.inl ⟨rfl, rfl, _, rfl⟩))) hd hl
/-- the walk goes on from here and ends as Q says -/
def own_Go (p : Program) (e : Env) (below : List Frame) (T : State) (g : JFrame) (Q : Outcome → State → Prop) : Prop :=
  ∃ s₂ o, Steps p.tables e below (T.setTop g) s₂ ∧ s₂.status = .running ∧ Ended s₂ below o ∧ Q o s₂
theorem own_go {T T' : State} {g g' : JFrame} {Q : Outcome → State → Prop} (h : ∀ t, Steps p.tables e below (T'.setTop g') t → Steps p.tables e below (T.setTop g) t) (k : own_Go p e below T' g' Q) : own_Go p e below T g Q := by
  obtain ⟨s₂, o, a, b⟩ := k
  exact ⟨s₂, o, h _ a, b⟩
theorem own_st {T T' t : State} {g g' : JFrame} (h : Steps p.tables e below (T'.setTop g') t → Steps p.tables e below (T.setTop g) t) (k : Steps p.tables e below (T'.setTop g') t) : Steps p.tables e below (T.setTop g) t := h k
theorem own_cast {g g' : JFrame} {Q : Outcome → State → Prop} (q : g = g') (k : own_Go p e below T g' Q) : own_Go p e below T g Q := by
  subst q; exact k
theorem og {T : State} {g : JFrame} {Q : Outcome → State → Prop} (T' : State) (g' : JFrame) (h : ∀ t, Steps p.tables e below (T'.setTop g') t → Steps p.tables e below (T.setTop g) t) (k : own_Go p e below T' g' Q) : own_Go p e below T g Q := own_go h k
theorem os {T t : State} {g : JFrame} (T' : State) (g' : JFrame) (h : Steps p.tables e below (T'.setTop g') t → Steps p.tables e below (T.setTop g) t) (k : Steps p.tables e below (T'.setTop g') t) : Steps p.tables e below (T.setTop g) t := h k
theorem own_in {g g' : JFrame} {Q : Outcome → State → Prop} (q : g = g') (k : own_Go p e below T g' Q) : ∃ s₂ o, Steps p.tables e below (T.setTop g) s₂ ∧ s₂.status = .running ∧ Ended s₂ below o ∧ Q o s₂ := by
  subst q; exact k
theorem own_out (X : Stand p l e R s m args below meth c T locs cells slots) {g : JFrame} {v : Option Value} (hv : meth.sig.returnType = none → v = none) (hlk : meth.locks = false)
    (h : ∀ fs, (∀ (f : JFrame) (acts : List Action), f.method = m → f.locked = none → f.entered = [] → (doReturn e (T.setTop f) acts v).1 = T.setFrames fs) → Steps p.tables e below (T.setTop g) (T.setFrames fs))
    {Q : Option Value → Heap → List Loc → Prop} (hQ : Q v T.heap locs) {k n : Nat} (hc : cells ≤ k) (hn : slots ≤ n) :
    own_Go p e below T g (fun o U' => ∃ v L, o = .returned v ∧ Q v U'.heap L ∧ FrameEnd s o U' L k n) := by
  obtain ⟨fs, hr, hrun, hended, hW, hsame⟩ := X.leave hv hlk
  exact ⟨_, _, h fs hr, hrun, hended, _, _, rfl, hQ, ⟨_, rfl⟩, hW, hsame.mono hc hn⟩
theorem own_since (s : State) : s.Since s.vm 0 := ⟨State.Warmed39.refl s, fun j p hj hp => by
  rw [Array.getElem?_eq_none hj] at hp; cases hp⟩
theorem own_outW {vm₁ : Vm} (X : Stand p l e R (s.setVm vm₁) m args below meth c T locs cells slots) {n0 : Nat} (hS : s.Since vm₁ n0) (hn0 : n0 ≤ T.heap.size) {g : JFrame} {v : Option Value} (hv : meth.sig.returnType = none → v = none) (hlk : meth.locks = false)
    (h : ∀ fs, (∀ (f : JFrame) (acts : List Action), f.method = m → f.locked = none → f.entered = [] → (doReturn e (T.setTop f) acts v).1 = T.setFrames fs) → Steps p.tables e below (T.setTop g) (T.setFrames fs))
    {Q : Option Value → Heap → List Loc → Prop} (hQ : Q v T.heap locs) {k n : Nat} (hc : cells ≤ k) (hn : slots ≤ n) :
    own_Go p e below T g (fun o U' => ∃ v L, o = .returned v ∧ Q v U'.heap L ∧ ReturnedEndW s o U' L k n) := by
  obtain ⟨fs, hr, hrun, hended, h1, h2, h3, h4⟩ := X.leaveW hS hn0 hv hlk
  exact ⟨_, _, h fs hr, hrun, hended, _, _, rfl, hQ, h1, h2, h3, h4.mono hc hn⟩
theorem own_outV {vm₁ : Vm} (X : Stand p l e R (s.setVm vm₁) m args below meth c T locs cells slots) {n0 : Nat} (hS : s.Since vm₁ n0) (hn0 : n0 ≤ T.heap.size) {g : JFrame} {v : Option Value} (hv : meth.sig.returnType = none → v = none) (hlk : meth.locks = false)
    (h : ∀ fs, (∀ (f : JFrame) (acts : List Action), f.method = m → f.locked = none → f.entered = [] → (doReturn e (T.setTop f) acts v).1 = T.setFrames fs) → Steps p.tables e below (T.setTop g) (T.setFrames fs))
    {Q : Option Value → Heap → Vm → List Loc → Prop} (hQ : Q v T.heap T.vm locs) {k n : Nat} (hc : cells ≤ k) (hn : slots ≤ n) :
    own_Go p e below T g (fun o U' => ∃ v L, o = .returned v ∧ Q v U'.heap U'.vm L ∧ ReturnedEndW s o U' L k n) := by
  obtain ⟨fs, hr, hrun, hended, h1, h2, h3, h4⟩ := X.leaveW hS hn0 hv hlk
  exact ⟨_, _, h fs hr, hrun, hended, _, _, rfl, hQ, h1, h2, h3, h4.mono hc hn⟩
/-- a callee that may intern, whose contract also reads and tells the tables -/
theorem own_backV {Z : State} {h : Heap} {a0 : Array Value} {y : MethodName} {bytes : ByteArray} {maxL : Nat} {ret : Option FieldType} {rm : Room} {len W : Nat} {as' : Array Value} {Q : Option Value → Heap → Vm → List Loc → Prop} {I : Vm → Prop} (hI : ∀ vm, s.WarmedH vm → I vm)
    (hM : MetFree l y (head1 [Cond.code y bytes maxL ret] rm) (fun a U => a = as' ∧ Z.Warmed39 U.vm ∧ U.heap = h ∧ I U.vm) (fun _ _ _ _ _ => True) (fun _ U o U' => ∃ v L, o = .returned v ∧ Q v U'.heap U'.vm L ∧ ReturnedEndW U o U' L rm.cells rm.slots))
    (hZ : Z.Warmed39 s.vm) (wc : (Cond.code y bytes maxL ret).before a0 Z = true) (wz : (Cond.initialized y.cls).before a0 Z = true) (hf : rm.frames + 1 ≤ R.frames) (hl : W + (maxL + 11) + rm.locals ≤ R.locals) :
    BackS l R p e below s args y len W (fun A a => a = as' ∧ A.U.heap = h ∧ A.cells + rm.cells ≤ R.cells ∧ A.slots + rm.slots ≤ R.slots)
      (fun A _ v B => ∃ L, Q v B.U.heap B.U.vm L ∧ B.locs = A.locs ++ L ∧ B.cells = A.cells + rm.cells ∧ B.slots = A.slots + rm.slots) :=
  BackS.of_freeW (bytes := bytes) (maxL := maxL) (ret := ret) (E := fun _ _ o t L k n => k = rm.cells ∧ n = rm.slots ∧ ∃ v, o = .returned v ∧ Q v t.heap t.vm L) hM hf hl
    (fun m meth c A a Y hp => have hU : Z.Warmed39 A.U.vm := wtrans hZ Y.warmed
      ⟨by show (Cond.and _ .tt).before a A.U = true; rw [Cond.before_and, mv hU wc]; rfl, mv hU wc, mv hU wz, hp.2.2.1, hp.2.2.2⟩)
    (fun m meth c A a g mk Y hp => ⟨hp.1, wtrans hZ Y.warmed, hp.2.1, hI _ Y.warmed⟩) (fun _ _ _ _ _ _ _ _ _ => trivial)
    (fun _ _ _ _ ⟨v, L, h1, h2, h3⟩ => ⟨L, _, _, h3, rfl, rfl, v, h1, h2⟩)
    (fun m meth c A a g mk v t L k n Y hp _ _ ⟨e1, e2, v', e3, e4⟩ => by cases e3; subst e1 e2; exact ⟨L, e4, rfl, rfl, rfl⟩)
theorem own_ltN {a n : Nat} (h : a < n) : a < n := h
theorem own_leN {a n : Nat} (h : a ≤ n) : a ≤ n := h
theorem own_ne {a b : Nat} (h : a ≠ b) : a ≠ b := h
abbrev own_MF (l : Launch) (y : MethodName) (code : ByteArray) (ml : Nat) (ret : Option FieldType) (R : Room) (ws : List Jvm.Cond) (Z : State) (as' : Array Value) (h0 : Heap) (Q : Option Value → Heap → List Loc → Prop) : Prop :=
  MetFree l y (head1 (Jvm.Cond.code y code ml ret :: ws) R) (fun a U => a = as' ∧ Z.Warmed39 U.vm ∧ U.heap = h0) (fun _ _ _ _ _ => True) (fun _ U o U' => ∃ v L, o = .returned v ∧ Q v U'.heap L ∧ FrameEnd U o U' L R.cells R.slots)
theorem own_begin {l : Launch} {y : MethodName} {code : ByteArray} {ml : Nat} {ret : Option FieldType} {R : Room} {ws : List Jvm.Cond} {Z : State} {as' : Array Value} {h0 : Heap} {Q : Option Value → Heap → List Loc → Prop} (hpl : plainFor y = true) {fr : MethodId → JFrame} (hef : ∀ m, entryFrame m as' ml = fr m)
    (body : ∀ (p : Program) (e : Env) (s : State) (m : MethodId) (below : List Frame) (meth : Method) (c : Code) (s₁ : State), meth.sig.returnType = ret → p.tables.exec = Jvm.exec → c.code = code → c.maxLocals = ml → s.vm.findClass y.cls = some m.cls → meth.name = y.name → meth.locks = false → Stand p l e R s m as' below meth c s₁ [] 0 0 → s₁.heap = h0 → s.heap = h0 → Z.Warmed39 s.vm →
      own_Go p e below s₁ (fr m) (fun o U' => ∃ v L, o = .returned v ∧ Q v U'.heap L ∧ FrameEnd s o U' L R.cells R.slots)) : own_MF l y code ml ret R ws Z as' h0 Q := by
  refine MetFree.of_bodySF hpl hisR ?_
  intro p e s m args below meth c s₁ Bd hml0 hP hK
  obtain ⟨rfl, hZ, hh⟩ := hP
  exact own_in (hef m) (body p e s m below meth c s₁ Bd.returns Bd.exec Bd.bytes hml0 (findClass_of_methodNamed Bd.named) (name_of_methodNamed Bd.named Bd.method).1 (BodyLoose.notSynchronized Bd) (Stand.of_body Bd) (by rw [← hh, Bd.state]; rfl) hh hZ)
theorem own_t0 {P : Prop} [Decidable P] (h : P) : (if P then (0 : Int32) else (1 : Int32)) = 0 := if_pos h
theorem own_f0 {P : Prop} [Decidable P] (h : ¬ P) : ¬ (if P then (0 : Int32) else (1 : Int32)) = 0 := by rw [if_neg h]; decide
theorem own_t1 {P : Prop} [Decidable P] (h : P) : ¬ (if P then (1 : Int32) else (0 : Int32)) = 0 := by rw [if_pos h]; decide
theorem own_f1 {P : Prop} [Decidable P] (h : ¬ P) : (if P then (1 : Int32) else (0 : Int32)) = 0 := if_neg h
end New
end Jvm.RoadKit
namespace Jvm.Pilot.@@N@@
open Jvm Jvm.ClassFile Sem Op Lib Jvm.Free Jvm.Stand Jvm.LawKit Jvm.RoadKit Bundle Jvm.Pilot.@@N@@.Jvm.D
theorem own_w {Z : State} {a0 : Array Value} {d : Jvm.Cond} (hw : ∀ d ∈ tables_1, d.before a0 Z = true) (i : Nat) (h : tables_1[i]? = some d) : d.before a0 Z = true := hw d (List.mem_of_getElem? h)


/-- a Latin-1 String that spells cs; itself and its bytes lie below n -/
def own_Str (Z : State) (h : Heap) (n a : Nat) (cs : List Int32) : Prop :=
  Exa Z h a "java/lang/String" ∧ Fld Z h a "java/lang/String" "coder" "B" (.int 0) ∧ (∀ c ∈ cs, ¬ c < 0 ∧ ¬ (255 : Int32) < c) ∧ a < n ∧
  ∃ (t : Nat) (kb : ClassId), t < n ∧ Fld Z h a "java/lang/String" "value" "[B" (.ref t) ∧ Arv Z h t kb .byte (Int32.ofNat cs.length) ((cs.map fun c => c.toInt8.toInt32).map Value.int) (.int 0)
theorem own_Str.ext {Z : State} {h h' : Heap} {n a : Nat} {cs : List Int32} (F : own_Str Z h n a cs) (E : Ext h h') : own_Str Z h' n a cs := by
  obtain ⟨h1, h2, h3, h4, t, kb, h5, h6, h7⟩ := F
  exact ⟨h1.ext E, h2.ext E, h3, h4, t, kb, h5, h6.ext E, h7.ext E⟩
theorem own_Str.keep {Z : State} {h h' : Heap} {n a : Nat} {cs : List Int32} {ws : List Addr} (F : own_Str Z h n a cs) (K : Keep h h' ws) (q : ∀ x ∈ ws, n ≤ x) : own_Str Z h' n a cs := by
  obtain ⟨h1, h2, h3, h4, t, kb, h5, h6, h7⟩ := F
  have na : a ∉ ws := fun hm => absurd (q a hm) (Nat.not_le_of_lt h4)
  have nt : t ∉ ws := fun hm => absurd (q t hm) (Nat.not_le_of_lt h5)
  exact ⟨h1.keep K, h2.keep K na, h3, h4, t, kb, h5, h6.keep K na, h7.keep K nt⟩
theorem own_Str.wr {Z : State} {h h' : Heap} {n a : Nat} {cs : List Int32} {x : Addr} {sl : Nat} {v : Value} (F : own_Str Z h n a cs) (W : Wr h h' x sl v) (q : n ≤ x) : own_Str Z h' n a cs :=
  F.keep (Keep.of_wr W) (allS q all0)
theorem own_Str.mono {Z : State} {h : Heap} {n n' a : Nat} {cs : List Int32} (F : own_Str Z h n a cs) (q : n ≤ n') : own_Str Z h n' a cs := by
  obtain ⟨h1, h2, h3, h4, t, kb, h5, h6, h7⟩ := F
  exact ⟨h1, h2, h3, Nat.lt_of_lt_of_le h4 q, t, kb, Nat.lt_of_lt_of_le h5 q, h6, h7⟩
theorem own_Str.lt {Z : State} {h : Heap} {n a : Nat} {cs : List Int32} (F : own_Str Z h n a cs) : a < n := F.2.2.2.1
theorem own_up {cs : List Int32} (h : ∀ c ∈ cs, ¬ c < 0 ∧ ¬ (255 : Int32) < c) : ∀ c ∈ cs, ¬ c < 0 ∧ ¬ (65535 : Int32) < c := fun c hc => by
  obtain ⟨h1, h2⟩ := h c hc
  refine ⟨h1, fun q => h2 ?_⟩
  rw [Int32.lt_iff_toInt_lt] at q ⊢
  have e1 : (65535 : Int32).toInt = 65535 := rfl
  have e2 : (255 : Int32).toInt = 255 := rfl
  omega
theorem own_and255 (x : Int32) : ¬ (x &&& 255) < 0 ∧ ¬ (255 : Int32) < (x &&& 255) := by
  have h := c_mask x (255 : Int32) 8 (by decide) (by decide)
  have e0 : (0 : Int32).toInt = 0 := rfl
  have e1 : (255 : Int32).toInt = 255 := rfl
  rw [Int32.lt_iff_toInt_lt, Int32.lt_iff_toInt_lt, h, e0, e1]
  omega
theorem own_eqr {cs ds : List Int32} {v : Option Value} (h : (v = some (.int 1) ∧ cs = ds) ∨ (v = some (.int 0) ∧ ¬ cs = ds)) : v = some (.int (if cs = ds then (1 : Int32) else (0 : Int32))) := by
  rcases h with ⟨rfl, e⟩ | ⟨rfl, e⟩
  · rw [if_pos e]
  · rw [if_neg e]
theorem own_i8 (x : Int32) : x.toInt8.toInt32.toInt8.toInt32 = x.toInt8.toInt32 := by
  simp
theorem own_narb (x : Int32) : nar .byte x.toInt8.toInt32 = x.toInt8.toInt32 := by
  simp [nar]
/-- the state of one String constant: nothing interned since the start, or resolved to a String that spells cs -/
def own_LitSt (Z : State) (N : Nat) (own : String) (i : Nat) (cs : List Int32) (vm : Vm) (h : Heap) : Prop :=
  IB Z vm [] ∨ ∃ a, Lit (Z.setVm vm) own i a ∧ own_Str Z h N a cs
theorem own_ib {Z s : State} {vm : Vm} {Ts : List String} (hW : s.WarmedH vm) (I : IB Z s.vm Ts) : IB Z vm Ts := by
  obtain ⟨more, h1, h2⟩ := I
  exact ⟨more, by rw [hW.1]; exact h1, h2⟩
theorem own_lit {Z s : State} {vm : Vm} {own : String} {i : Nat} {a : Addr} (hW : s.Warmed39 vm) (L : Lit (Z.setVm s.vm) own i a) : Lit (Z.setVm vm) own i a :=
  State.resolvedAt?_warmed39 (s := s) hW L
theorem own_LitSt.warm {Z s : State} {N : Nat} {own : String} {i : Nat} {cs : List Int32} {vm : Vm} {h : Heap} (F : own_LitSt Z N own i cs s.vm h) (hW : s.WarmedH vm) : own_LitSt Z N own i cs vm h := by
  rcases F with I | ⟨a, L, S⟩
  · exact Or.inl (own_ib hW I)
  · exact Or.inr ⟨a, own_lit hW.wide L, S⟩
theorem own_LitSt.keep {Z : State} {N N' : Nat} {own : String} {i : Nat} {cs : List Int32} {vm : Vm} {h h' : Heap} {ws : List Addr} (F : own_LitSt Z N own i cs vm h) (K : Keep h h' ws) (q : ∀ x ∈ ws, N ≤ x) (qn : N ≤ N') : own_LitSt Z N' own i cs vm h' := by
  rcases F with I | ⟨a, L, S⟩
  · exact Or.inl I
  · exact Or.inr ⟨a, L, (S.keep K q).mono qn⟩

def own_A : List Int32 := [1207963663, 1207963663, 1207963663, 1207963663, 1207963663, 1207963663, 1207963663, 1207963663, 1207963663, 1476411407, 1342193679, 1476411407, 1610629135, 1342193679, 1207963663, 1207963663, 1207963663, 1207963663, 1207963663, 1207963663, 1207963663, 1207963663, 1207963663, 1207963663, 1207963663, 1207963663, 1207963663, 1207963663, 1342193679, 1342193679, 1342193679, 1476411407, 1610629132, 1744830488, 1744830488, 671088664, 671113242, 671088664, 1744830488, 1744830488, -402653163, -402653162, 1744830488, 536870937, 939524120, 536870932, 939524120, 939524120, 402667017, 402667017, 402667017, 402667017, 402667017, 402667017, 402667017, 402667017, 402667017, 402667017, 939524120, 1744830488, -402653159, 1744830489, -402653159, 1744830488, 1744830488, 8552417, 8552417, 8552417, 8552417, 8552417, 8552417, 8552417, 8552417, 8552417, 8552417, 8552417, 8552417, 8552417, 8552417, 8552417, 8552417, 8552417, 8552417, 8552417, 8552417, 8552417, 8552417, 8552417, 8552417, 8552417, 8552417, -402653163, 1744830488, -402653162, 1744830491, 1744850967, 1744830491, 8486882, 8486882, 8486882, 8486882, 8486882, 8486882, 8486882, 8486882, 8486882, 8486882, 8486882, 8486882, 8486882, 8486882, 8486882, 8486882, 8486882, 8486882, 8486882, 8486882, 8486882, 8486882, 8486882, 8486882, 8486882, 8486882, -402653163, 1744830489, -402653162, 1744830489, 1207963663, 1207963663, 1207963663, 1207963663, 1207963663, 1207963663, 1342181391, 1207963663, 1207963663, 1207963663, 1207963663, 1207963663, 1207963663, 1207963663, 1207963663, 1207963663, 1207963663, 1207963663, 1207963663, 1207963663, 1207963663, 1207963663, 1207963663, 1207963663, 1207963663, 1207963663, 1207963663, 1207963663, 1207963663, 1207963663, 1207963663, 1207963663, 1207963663, 939524108, 1744830488, 671113242, 671113242, 671113242, 671113242, 1744830492, 1744830488, 1744830491, 1744830492, 28677, -402653155, 1744830489, 1207963664, 1744830492, 1744830491, 671088668, 671088665, 402654731, 402654731, 1744830491, 134049794, 1744830488, 1744830488, 1744830491, 402654475, 28677, -402653154, 1744832523, 1744832523, 1744832523, 1744830488, 8548353, 8548353, 8548353, 8548353, 8548353, 8548353, 8548353, 8548353, 8548353, 8548353, 8548353, 8548353, 8548353, 8548353, 8548353, 8548353, 8548353, 8548353, 8548353, 8548353, 8548353, 8548353, 8548353, 1744830489, 8548353, 8548353, 8548353, 8548353, 8548353, 8548353, 8548353, 134049794, 8482818, 8482818, 8482818, 8482818, 8482818, 8482818, 8482818, 8482818, 8482818, 8482818, 8482818, 8482818, 8482818, 8482818, 8482818, 8482818, 8482818, 8482818, 8482818, 8482818, 8482818, 8482818, 8482818, 1744830489, 8482818, 8482818, 8482818, 8482818, 8482818, 8482818, 8482818, 102592514]
theorem own_narc16 {x : Int32} (h : ¬ x < (0 : Int32) ∧ ¬ (65535 : Int32) < x) : nar .char x = x := by
  obtain ⟨h1, h2⟩ := h
  rw [Int32.lt_iff_toInt_lt] at h1 h2
  have e0 : (0 : Int32).toInt = 0 := rfl
  have e1 : (65535 : Int32).toInt = 65535 := rfl
  have q := c_i2c x
  apply Int32.toInt_inj.mp
  show (x.toUInt32.toUInt16.toUInt32.toInt32).toInt = x.toInt
  omega
theorem own_i2cr (x : Int32) : ¬ (x.toUInt32.toUInt16.toUInt32.toInt32) < (0 : Int32) ∧ ¬ (65535 : Int32) < (x.toUInt32.toUInt16.toUInt32.toInt32) := by
  have q := c_i2c x
  have e0 : (0 : Int32).toInt = 0 := rfl
  have e1 : (65535 : Int32).toInt = 65535 := rfl
  rw [Int32.lt_iff_toInt_lt, Int32.lt_iff_toInt_lt]
  omega
theorem own_lat {x : Int32} (h : ¬ x < (0 : Int32)) (h' : ¬ (255 : Int32) < x) : ((((x.toInt8.toInt32) &&& (255 : Int32)).toUInt32.toUInt16.toUInt32.toInt32)) = x := by
  rw [i2c_mask]
  rw [Int32.lt_iff_toInt_lt] at h h'
  have e0 : (0 : Int32).toInt = 0 := rfl
  have e1 : (255 : Int32).toInt = 255 := rfl
  apply Int32.toInt_inj.mp
  rw [c_mask _ (255 : Int32) 8 (by decide) (by decide)]
  have q := c_i2b x
  omega
/-- a sign that is shown: 33 to 126 -/
def own_Vis (x : Int32) : Prop := ¬ x < (33 : Int32) ∧ ¬ (126 : Int32) < x
theorem own_Vis.lat {x : Int32} (h : own_Vis x) : ¬ x < (0 : Int32) ∧ ¬ (255 : Int32) < x := by
  obtain ⟨h1, h2⟩ := h
  rw [Int32.lt_iff_toInt_lt] at h1 h2 ⊢
  rw [Int32.lt_iff_toInt_lt]
  have e0 : (0 : Int32).toInt = 0 := rfl
  have e1 : (255 : Int32).toInt = 255 := rfl
  have e2 : (33 : Int32).toInt = 33 := rfl
  have e3 : (126 : Int32).toInt = 126 := rfl
  omega
theorem own_vis_all {q : Int32 → Prop} (h : ∀ k : Fin 94, q (Int32.ofNat (k.val + 33))) {x : Int32} (hv : own_Vis x) : q x := by
  obtain ⟨h0, h1⟩ := hv
  rw [Int32.lt_iff_toInt_lt] at h0 h1
  have e0 : (33 : Int32).toInt = 33 := rfl
  have e1 : (126 : Int32).toInt = 126 := rfl
  obtain ⟨k, hk⟩ : ∃ k : Nat, x.toInt = k + 33 := ⟨(x.toInt - 33).toNat, by omega⟩
  have e : x = Int32.ofNat (k + 33) := by
    apply Int32.toInt_inj.mp
    rw [hk, Int32.toInt_ofNat_of_lt (by omega)]; rfl
  rw [e]
  exact h ⟨k, by omega⟩
theorem own_sh5 {x : Int32} (hv : own_Vis x) : ¬ ((x.toUInt32 >>> ((5 : Int32) &&& 31).toUInt32).toInt32) = (0 : Int32) := own_vis_all (q := fun x => ¬ ((x.toUInt32 >>> ((5 : Int32) &&& 31).toUInt32).toInt32) = (0 : Int32)) (by decide +kernel) hv
def own_av (x : Int32) : Int32 := own_A.getD x.toNatClampNeg 0
set_option maxRecDepth 65536 in
theorem own_nws {x : Int32} (hv : own_Vis x) : ¬ ((own_av x) &&& (28672 : Int32)) = (16384 : Int32) := own_vis_all (q := fun x => ¬ ((own_av x) &&& (28672 : Int32)) = (16384 : Int32)) (by decide +kernel) hv
theorem own_i2cV {x : Int32} (hv : own_Vis x) : (x.toUInt32.toUInt16.toUInt32.toInt32) = x := own_vis_all (q := fun x => (x.toUInt32.toUInt16.toUInt32.toInt32) = x) (by decide +kernel) hv
theorem own_inA {x : Int32} (hv : own_Vis x) : ¬ (x.toUInt32.toUInt16.toUInt32.toInt32) < 0 ∧ (x.toUInt32.toUInt16.toUInt32.toInt32) < (256 : Int32) := own_vis_all (q := fun x => ¬ (x.toUInt32.toUInt16.toUInt32.toInt32) < 0 ∧ (x.toUInt32.toUInt16.toUInt32.toInt32) < (256 : Int32)) (by decide +kernel) hv
theorem own_atA (x : Int32) : (own_A.map Value.int).getD x.toNatClampNeg (.int 0) = .int (own_av x) := by
  unfold own_av
  rw [List.getD_eq_getElem?_getD, List.getD_eq_getElem?_getD, List.getElem?_map]
  cases own_A[x.toNatClampNeg]? <;> rfl
/-- an Optional that holds a shown sign's String where P is, else nothing; all below n -/
def own_Opt (Z : State) (h : Heap) (n o : Nat) (P : Prop) : Prop :=
  Exa Z h o "java/util/Optional" ∧ o < n ∧ ∃ v, Fld Z h o "java/util/Optional" "value" "Ljava/lang/Object;" v ∧ ((P ∧ ∃ (t : Nat) (x : Int32), v = .ref t ∧ own_Str Z h n t [x] ∧ own_Vis x) ∨ (¬ P ∧ v = .null))
theorem own_Opt.ext {Z : State} {h h' : Heap} {n o : Nat} {P : Prop} (F : own_Opt Z h n o P) (E : Ext h h') : own_Opt Z h' n o P := by
  obtain ⟨h1, h2, v, h3, h4⟩ := F
  refine ⟨h1.ext E, h2, v, h3.ext E, ?_⟩
  rcases h4 with ⟨p, t, x, e, S, V⟩ | q
  · exact Or.inl ⟨p, t, x, e, S.ext E, V⟩
  · exact Or.inr q
theorem own_Opt.keep {Z : State} {h h' : Heap} {n o : Nat} {P : Prop} {ws : List Addr} (F : own_Opt Z h n o P) (K : Keep h h' ws) (q : ∀ x ∈ ws, n ≤ x) : own_Opt Z h' n o P := by
  obtain ⟨h1, h2, v, h3, h4⟩ := F
  have no : o ∉ ws := fun hm => absurd (q o hm) (Nat.not_le_of_lt h2)
  refine ⟨h1.keep K, h2, v, h3.keep K no, ?_⟩
  rcases h4 with ⟨p, t, x, e, S, V⟩ | q'
  · exact Or.inl ⟨p, t, x, e, S.keep K q, V⟩
  · exact Or.inr q'
theorem own_Opt.wr {Z : State} {h h' : Heap} {n o : Nat} {P : Prop} {x : Addr} {sl : Nat} {v : Value} (F : own_Opt Z h n o P) (W : Wr h h' x sl v) (q : n ≤ x) : own_Opt Z h' n o P :=
  F.keep (Keep.of_wr W) (allS q all0)
theorem own_Vis.c16 {x : Int32} (h : own_Vis x) : ¬ x < (0 : Int32) ∧ ¬ (65535 : Int32) < x := by
  obtain ⟨h1, h2⟩ := h
  rw [Int32.lt_iff_toInt_lt] at h1 h2 ⊢
  rw [Int32.lt_iff_toInt_lt]
  have e0 : (0 : Int32).toInt = 0 := rfl
  have e1 : (65535 : Int32).toInt = 65535 := rfl
  have e2 : (33 : Int32).toInt = 33 := rfl
  have e3 : (126 : Int32).toInt = 126 := rfl
  omega
theorem own_Vis.ltK {x k : Int32} (h : own_Vis x) (hk : 126 < k.toInt) : x < k := by
  obtain ⟨h1, h2⟩ := h
  rw [Int32.lt_iff_toInt_lt] at h1 h2 ⊢
  have e3 : (126 : Int32).toInt = 126 := rfl
  omega
theorem own_Vis.geK {x k : Int32} (h : own_Vis x) (hk : k.toInt ≤ 33) : ¬ x < k := by
  obtain ⟨h1, h2⟩ := h
  rw [Int32.lt_iff_toInt_lt] at h1 h2 ⊢
  have e3 : (33 : Int32).toInt = 33 := rfl
  omega
theorem own_Vis.ne {x k : Int32} (h : own_Vis x) (hk : k.toInt < 33 ∨ 126 < k.toInt) : ¬ x = k := by
  rintro rfl
  obtain ⟨h1, h2⟩ := h
  rw [Int32.lt_iff_toInt_lt] at h1 h2
  have e2 : (33 : Int32).toInt = 33 := rfl
  have e3 : (126 : Int32).toInt = 126 := rfl
  omega
theorem own_Vis.gtK {x k : Int32} (h : own_Vis x) (hk : 126 ≤ k.toInt) : ¬ k < x := by
  obtain ⟨h1, h2⟩ := h
  rw [Int32.lt_iff_toInt_lt] at h1 h2 ⊢
  have e3 : (126 : Int32).toInt = 126 := rfl
  omega
theorem own_Opt.lt {Z : State} {h : Heap} {n o : Nat} {P : Prop} (F : own_Opt Z h n o P) : o < n := F.2.1
def own_Opw (Z : State) (h : Heap) (o : Nat) (P : Prop) : Prop :=
  Exa Z h o "java/util/Optional" ∧ ∃ v, Fld Z h o "java/util/Optional" "value" "Ljava/lang/Object;" v ∧ ((P ∧ ∃ t : Nat, v = .ref t) ∨ (¬ P ∧ v = .null))
theorem own_Opt.weak {Z : State} {h h' : Heap} {n o : Nat} {P : Prop} {ws : List Addr} (F : own_Opt Z h n o P) (K : Keep h h' ws) (q : o ∉ ws) : own_Opw Z h' o P := by
  obtain ⟨h1, h2, v, h3, h4⟩ := F
  refine ⟨h1.keep K, v, h3.keep K q, ?_⟩
  rcases h4 with ⟨p, t, x, e, S, V⟩ | q5
  · exact Or.inl ⟨p, t, e⟩
  · exact Or.inr q5
theorem d_jdk_43_3_0 : decode jdk_43_method_3_code 0 = .ok (.iload_n 0, 1) := by decide +kernel
theorem d_jdk_43_3_1 : decode jdk_43_method_3_code 1 = .ok (.sipush 255, 3) := by decide +kernel
theorem d_jdk_43_3_4 : decode jdk_43_method_3_code 4 = .ok (.if_icmp .gt 7, 3) := by decide +kernel
theorem d_jdk_43_3_7 : decode jdk_43_method_3_code 7 = .ok (.iconst 1, 1) := by decide +kernel
theorem d_jdk_43_3_8 : decode jdk_43_method_3_code 8 = .ok (.goto 4, 3) := by decide +kernel
theorem d_jdk_43_3_12 : decode jdk_43_method_3_code 12 = .ok (.ireturn, 1) := by decide +kernel
theorem pn_0 : plainName "java/lang/StringLatin1" = true := by first | (simp [plainName, overriddenIn]; done) | decide +kernel
theorem ef_0 (m : MethodId) (ch : Int32) : entryFrame m #[(.int ch)] 1 = mkF m 0 #[iv ch] [] := by first | (simp [entryFrame, mkF, argsToLocals, Value.category]; done) | rfl
abbrev ym_0 : MethodName := ⟨"java/lang/StringLatin1", "canEncode", "(C)Z"⟩
def Q_rm_can (Z : State) (ch : Int32) (h0 : Heap) (n0 : Nat) (vv : Option Value) (h : Heap) (LL : List Loc) : Prop := vv = some (.int 1) ∧ Fr n0 LL ∧ h = h0
set_option maxRecDepth 65536 in
set_option maxHeartbeats 40000000 in
theorem rm_can (l : Launch) (Z : State) (a0 : Array Value) (hw : ∀ d ∈ tables_1, d.before a0 Z = true) (ws : List Jvm.Cond) (ch : Int32) (h0 : Heap) (n0 : Nat) (Z0 : n0 ≤ h0.size) (hc : ¬ ((255 : Int32) < ch)) :
    own_MF l ym_0 jdk_43_method_3_code 1 (some .boolean) ⟨0, 0, 0, 0⟩ ws Z #[(.int ch)] h0 (Q_rm_can Z ch h0 n0) := by
  refine own_begin (plainFor_of_name pn_0) (fun m => ef_0 m ch) ?_
  intro p e s m below meth c s₁ hret hx hby hml hown hnm hlk X0 e0 hh hZ
  have N0 := Fr.nil n0
  refine og s₁ (mkF m 1 #[iv ch] [(.int ch)]) (fun t_ k_ => XS.iloadN X0.here hx rfl (hb hby d_jdk_43_3_0) rfl k_) ?_
  refine og s₁ (mkF m 4 #[iv ch] [(.int 255), (.int ch)]) (fun t_ k_ => XS.sipush X0.here hx rfl (hb hby d_jdk_43_3_1) k_) ?_
  refine og s₁ (mkF m 7 #[iv ch] []) (fun t_ k_ => XS.icmpNo X0.here hx rfl (hb hby d_jdk_43_3_4) rfl (flt hc).2.2.1 k_) ?_
  refine og s₁ (mkF m 8 #[iv ch] [(.int 1)]) (fun t_ k_ => XS.iconst X0.here hx rfl (hb hby d_jdk_43_3_7) k_) ?_
  refine og s₁ (mkF m 12 #[iv ch] [(.int 1)]) (fun t_ k_ => XS.goto X0.here hx rfl (pc0 := 8) (pc' := 12) rfl (hb hby d_jdk_43_3_8) (by decide) (by decide) k_) ?_
  exact own_out X0 (v := some (.int (nar .boolean (1 : Int32)))) (fun h => by rw [hret] at h; cases h) hlk (fun fs hr => retN X0 hx (t := .boolean) hret (by simp) (hb hby d_jdk_43_3_12) hr) (Q := Q_rm_can Z ch h0 n0) (by rw [e0]; exact ⟨rfl, N0, rfl⟩) (by decide) (by decide)
theorem d_jdk_43_46_0 : decode jdk_43_method_46_code 0 = .ok (.iconst 1, 1) := by decide +kernel
theorem d_jdk_43_46_1 : decode jdk_43_method_46_code 1 = .ok (.newarray .byte, 2) := by decide +kernel
theorem d_jdk_43_46_3 : decode jdk_43_method_46_code 3 = .ok (.dup, 1) := by decide +kernel
theorem d_jdk_43_46_4 : decode jdk_43_method_46_code 4 = .ok (.iconst 0, 1) := by decide +kernel
theorem d_jdk_43_46_5 : decode jdk_43_method_46_code 5 = .ok (.iload_n 0, 1) := by decide +kernel
theorem d_jdk_43_46_6 : decode jdk_43_method_46_code 6 = .ok (.i2b, 1) := by decide +kernel
theorem d_jdk_43_46_7 : decode jdk_43_method_46_code 7 = .ok (.bastore, 1) := by decide +kernel
theorem d_jdk_43_46_8 : decode jdk_43_method_46_code 8 = .ok (.areturn, 1) := by decide +kernel
theorem ef_1 (m : MethodId) (ch : Int32) : entryFrame m #[(.int ch)] 1 = mkF m 0 #[iv ch] [] := by first | (simp [entryFrame, mkF, argsToLocals, Value.category]; done) | rfl
abbrev ym_1 : MethodName := ⟨"java/lang/StringLatin1", "toBytes", "(C)[B"⟩
def Q_rm_tob (Z : State) (ch : Int32) (h0 : Heap) (n0 : Nat) (vv : Option Value) (h : Heap) (LL : List Loc) : Prop := ∃ b : Nat, ∃ kb : ClassId, vv = some (.ref b) ∧ Fr n0 LL ∧ Keep h0 h [] ∧ (h0.size ≤ b ∧ b < h.size) ∧ Arv Z h b kb .byte (1 : Int32) [(.int ch.toInt8.toInt32)] (.int (0 : Int32))
set_option maxRecDepth 65536 in
set_option maxHeartbeats 40000000 in
theorem rm_tob (l : Launch) (Z : State) (a0 : Array Value) (hw : ∀ d ∈ tables_1, d.before a0 Z = true) (ws : List Jvm.Cond) (ch : Int32) (h0 : Heap) (n0 : Nat) (Z0 : n0 ≤ h0.size) :
    own_MF l ym_1 jdk_43_method_46_code 1 (some (.array .byte)) ⟨0, 1, 1, 0⟩ ws Z #[(.int ch)] h0 (Q_rm_tob Z ch h0 n0) := by
  refine own_begin (plainFor_of_name pn_0) (fun m => ef_1 m ch) ?_
  intro p e s m below meth c s₁ hret hx hby hml hown hnm hlk X0 e0 hh hZ
  have N0 := Fr.nil n0
  refine og s₁ (mkF m 1 #[iv ch] [(.int 1)]) (fun t_ k_ => XS.iconst X0.here hx rfl (hb hby d_jdk_43_46_0) k_) ?_
  obtain ⟨T1, h1, k1, X1, e1, E1, A1, st1⟩ := newP X0 hx hZ (own_w hw 14 rfl) e0 (g := (mkF m 1 #[iv ch] [(.int 1)])) rfl (hb hby d_jdk_43_46_1) rfl (by decide) (cap := 1) (by decide) (by decide) (by decide) (by decide)
  obtain ⟨b1, g1⟩ : ∃ z, z = h0.size := ⟨_, rfl⟩
  rw [← g1] at A1 st1
  have V1 : Arv Z h1 b1 k1 .byte (1 : Int32) [(.int (0 : Int32))] (.int (0 : Int32)) := (Arv.new A1 (by decide)).pad (pad_rep [] (.int (0 : Int32)) 1)
  have l1 := own_ltN V1.lt
  have z1 := E1.1
  have K1 := (Keep.refl h0 []).ext E1
  refine og T1 (mkF m 3 #[iv ch] [(.ref b1)]) (fun t_ k_ => st1 _ k_) ?_
  refine og T1 (mkF m 4 #[iv ch] [(.ref b1), (.ref b1)]) (fun t_ k_ => XS.dup X1.here hx rfl (hb hby d_jdk_43_46_3) rfl rfl k_) ?_
  refine og T1 (mkF m 5 #[iv ch] [(.int 0), (.ref b1), (.ref b1)]) (fun t_ k_ => XS.iconst X1.here hx rfl (hb hby d_jdk_43_46_4) k_) ?_
  refine og T1 (mkF m 6 #[iv ch] [(.int ch), (.int 0), (.ref b1), (.ref b1)]) (fun t_ k_ => XS.iloadN X1.here hx rfl (hb hby d_jdk_43_46_5) rfl k_) ?_
  refine og T1 (mkF m 7 #[iv ch] [(.int (ch.toInt8.toInt32)), (.int 0), (.ref b1), (.ref b1)]) (fun t_ k_ => XS.i2b X1.here hx rfl (hb hby d_jdk_43_46_6) rfl k_) ?_
  obtain ⟨cl2, Ar2, q2, S2, Nn2, H2, G2⟩ := id V1
  have hin2 : ¬ ((0 : Int32) < 0 ∨ cl2.slots.size ≤ ((0 : Int32)).toNatClampNeg) := inb_of S2 ⟨by decide, by decide⟩
  obtain ⟨T2, h2, X2, e2, W2, st2⟩ := stB X1 hx hZ e1 Ar2 (j := (0 : Int32)) hin2 (g := (mkF m 7 #[iv ch] [(.int (ch.toInt8.toInt32)), (.int 0), (.ref b1), (.ref b1)])) rfl rfl (hb hby d_jdk_43_46_7)
  have V2 : Arv Z h2 b1 k1 .byte (1 : Int32) [(.int (ch.toInt8.toInt32))] (.int (0 : Int32)) := by
    have q0 := Arv.set Ar2 q2 S2 Nn2 H2 G2 (fits_nar_byte _) W2 0 rfl (Nat.le_of_ble_eq_true rfl)
    first | rw [own_i8] at q0 | skip
    exact q0
  have z2 := W2.size
  have N2 := Fr.snoc X2 N0 (show n0 ≤ b1 by omega)
  have K2 := K1.wr W2 (Or.inr (show h0.size ≤ b1 by omega))
  refine og T2 (mkF m 8 #[iv ch] [(.ref b1)]) (fun t_ k_ => st2 _ k_) ?_
  exact own_out X2 (v := some (.ref b1)) (fun h => by rw [hret] at h; cases h) hlk (fun fs hr => own_retA X2 hx hret rfl rfl (hb hby d_jdk_43_46_8) hr) (Q := Q_rm_tob Z ch h0 n0) (by rw [e2]; exact ⟨b1, k1, rfl, N2, K2, ⟨by omega, by omega⟩, V2⟩) (by decide) (by decide)
theorem d_jdk_42_151_0 : decode jdk_42_method_151_code 0 = .ok (.aload_n 0, 1) := by decide +kernel
theorem d_jdk_42_151_1 : decode jdk_42_method_151_code 1 = .ok (.invokespecial 1, 3) := by decide +kernel
theorem d_jdk_42_151_4 : decode jdk_42_method_151_code 4 = .ok (.aload_n 0, 1) := by decide +kernel
theorem d_jdk_42_151_5 : decode jdk_42_method_151_code 5 = .ok (.aload_n 1, 1) := by decide +kernel
theorem d_jdk_42_151_6 : decode jdk_42_method_151_code 6 = .ok (.putfield 9, 3) := by decide +kernel
theorem d_jdk_42_151_9 : decode jdk_42_method_151_code 9 = .ok (.aload_n 0, 1) := by decide +kernel
theorem d_jdk_42_151_10 : decode jdk_42_method_151_code 10 = .ok (.iload_n 2, 1) := by decide +kernel
theorem d_jdk_42_151_11 : decode jdk_42_method_151_code 11 = .ok (.putfield 15, 3) := by decide +kernel
theorem sn_0 {Z : State} {a0 : Array Value} (hw : ∀ d ∈ tables_1, d.before a0 Z = true) : Jvm.RoadKit.slotOf Z "java/lang/String" "coder" "B" ≠ Jvm.RoadKit.slotOf Z "java/lang/String" "value" "[B" := Jvm.RoadKit.slot_ne (Or.inr (own_w hw 25 rfl)) (Or.inr (own_w hw 23 rfl)) (by decide) (t := .byte) (t' := (.array .byte)) (by decide) (by decide)
theorem d_jdk_42_151_14 : decode jdk_42_method_151_code 14 = .ok (.return_, 1) := by decide +kernel
theorem sn_1 {Z : State} {a0 : Array Value} (hw : ∀ d ∈ tables_1, d.before a0 Z = true) : Jvm.RoadKit.slotOf Z "java/lang/String" "value" "[B" ≠ Jvm.RoadKit.slotOf Z "java/lang/String" "coder" "B" := Jvm.RoadKit.slot_ne (Or.inr (own_w hw 23 rfl)) (Or.inr (own_w hw 25 rfl)) (by decide) (t := (.array .byte)) (t' := .byte) (by decide) (by decide)
theorem pn_1 : plainName "java/lang/String" = true := by first | (simp [plainName, overriddenIn]; done) | decide +kernel
theorem ef_2 (m : MethodId) (a : Nat) (t : Nat) (cd : Int32) : entryFrame m #[(.ref a), (.ref t), (.int cd)] 3 = mkF m 0 #[rv a, rv t, iv cd] [] := by first | (simp [entryFrame, mkF, argsToLocals, Value.category]; done) | rfl
abbrev ym_2 : MethodName := ⟨"java/lang/String", "<init>", "([BB)V"⟩
def Q_rm_sinit (Z : State) (a : Nat) (t : Nat) (cd : Int32) (h0 : Heap) (n0 : Nat) (vv : Option Value) (h : Heap) (LL : List Loc) : Prop := vv = none ∧ Fr n0 LL ∧ Keep h0 h [a] ∧ Fld Z h a "java/lang/String" "value" "[B" (.ref t) ∧ Fld Z h a "java/lang/String" "coder" "B" (.int (nar .byte cd))
set_option maxRecDepth 65536 in
set_option maxHeartbeats 40000000 in
theorem rm_sinit (l : Launch) (Z : State) (a0 : Array Value) (hw : ∀ d ∈ tables_1, d.before a0 Z = true) (ws : List Jvm.Cond) (a : Nat) (t : Nat) (cd : Int32) (h0 : Heap) (n0 : Nat) (Z0 : n0 ≤ h0.size) (E_a : Exa Z h0 a "java/lang/String") (F_value_a : Fld Z h0 a "java/lang/String" "value" "[B" .null) (F_coder_a : Fld Z h0 a "java/lang/String" "coder" "B" (.int 0)) (g_a : n0 ≤ a) :
    own_MF l ym_2 jdk_42_method_151_code 3 none ⟨1, 0, 0, 12⟩ ws Z #[(.ref a), (.ref t), (.int cd)] h0 (Q_rm_sinit Z a t cd h0 n0) := by
  refine own_begin (plainFor_of_name pn_1) (fun m => ef_2 m a t cd) ?_
  intro p e s m below meth c s₁ hret hx hby hml hown hnm hlk X0 e0 hh hZ
  have N0 := Fr.nil n0
  have lt_E_a := own_ltN E_a.lt
  have lt_F_value_a := own_ltN F_value_a.lt
  have lt_F_coder_a := own_ltN F_coder_a.lt
  refine og s₁ (mkF m 1 #[rv a, rv t, iv cd] [(.ref a)]) (fun t_ k_ => XS.aloadN X0.here hx rfl (hb hby d_jdk_42_151_0) rfl rfl k_) ?_
  obtain ⟨T1, X1, e1, st1⟩ := initO X0 hx hZ hown (own_w hw 19 rfl) (own_w hw 20 rfl) (own_w hw 21 rfl) e0 (g := (mkF m 1 #[rv a, rv t, iv cd] [(.ref a)])) rfl (by rw [hml]; rfl) rfl (hb hby d_jdk_42_151_1) (by decide) (W := 0) (by show 2 * 0 + _ ≤ _; exact Nat.le_of_eq rfl) (by decide)
  refine og T1 (mkF m 4 #[rv a, rv t, iv cd] []) (fun t_ k_ => st1 _ k_) ?_
  refine og T1 (mkF m 5 #[rv a, rv t, iv cd] [(.ref a)]) (fun t_ k_ => XS.aloadN X1.here hx rfl (hb hby d_jdk_42_151_4) rfl rfl k_) ?_
  refine og T1 (mkF m 6 #[rv a, rv t, iv cd] [(.ref t), (.ref a)]) (fun t_ k_ => XS.aloadN X1.here hx rfl (hb hby d_jdk_42_151_5) rfl rfl k_) ?_
  obtain ⟨T2, h2, X2, e2, W2, st2⟩ := putF X1 hx hZ hown (host := "") (Or.inl (own_w hw 22 rfl)) Via.refl e1 F_value_a E_a (Or.inr ⟨(own_w hw 23 rfl), rfl, hnm⟩) (own_w hw 10 rfl) (ty := (.array .byte)) (by decide) rfl rfl (g := (mkF m 6 #[rv a, rv t, iv cd] [(.ref t), (.ref a)])) rfl rfl (hb hby d_jdk_42_151_6)
  have F2 := F_value_a.same W2
  have z2 := W2.size
  have N2 := Fr.snoc X2 N0 (show n0 ≤ a by omega)
  have K2 := (Keep.refl h0 [a]).wr W2 (Or.inl (List.mem_of_getElem? (i := 0) rfl))
  refine og T2 (mkF m 9 #[rv a, rv t, iv cd] []) (fun t_ k_ => st2 _ k_) ?_
  refine og T2 (mkF m 10 #[rv a, rv t, iv cd] [(.ref a)]) (fun t_ k_ => XS.aloadN X2.here hx rfl (hb hby d_jdk_42_151_9) rfl rfl k_) ?_
  refine og T2 (mkF m 11 #[rv a, rv t, iv cd] [(.int cd), (.ref a)]) (fun t_ k_ => XS.iloadN X2.here hx rfl (hb hby d_jdk_42_151_10) rfl k_) ?_
  have ff4 := (F_coder_a.other W2 (Or.inr (sn_0 hw)))
  have ff5 := (E_a.wr W2)
  obtain ⟨T3, h3, X3, e3, W3, st3⟩ := putFN X2 hx hZ hown (own_w hw 24 rfl) Via.refl e2 ff4 ff5 (Or.inr ⟨(own_w hw 25 rfl), rfl, hnm⟩) (own_w hw 10 rfl) (ty := .byte) (v' := .int (nar .byte cd)) (by decide) rfl (fits_nar_byte _) (g := (mkF m 11 #[rv a, rv t, iv cd] [(.int cd), (.ref a)])) rfl rfl (hb hby d_jdk_42_151_11)
  have F3 := ff4.same W3
  have z3 := W3.size
  have N3 := Fr.snoc X3 N2 (show n0 ≤ a by omega)
  have K3 := K2.wr W3 (Or.inl (List.mem_of_getElem? (i := 0) rfl))
  refine og T3 (mkF m 14 #[rv a, rv t, iv cd] []) (fun t_ k_ => st3 _ k_) ?_
  have ff6 := (F2.other W3 (Or.inr (sn_1 hw)))
  exact own_out X3 (v := none) (fun _ => rfl) hlk (fun fs hr => X3.returnOut hx hret (hb hby d_jdk_42_151_14) hr) (Q := Q_rm_sinit Z a t cd h0 n0) (by rw [e3]; exact ⟨rfl, N3, K3, ff6, F3⟩) (by decide) (by decide)
theorem d_jdk_42_139_0 : decode jdk_42_method_139_code 0 = .ok (.getstatic 38, 3) := by decide +kernel
theorem d_jdk_42_139_3 : decode jdk_42_method_139_code 3 = .ok (.ifCond .eq 23, 3) := by decide +kernel
theorem d_jdk_42_139_6 : decode jdk_42_method_139_code 6 = .ok (.iload_n 0, 1) := by decide +kernel
theorem d_jdk_42_139_7 : decode jdk_42_method_139_code 7 = .ok (.invokestatic 1015, 3) := by decide +kernel
theorem pd_0 : parseMethodDescriptor "(C)Z" = some ⟨[.char], some .boolean⟩ := by decide +kernel
theorem d_jdk_42_139_10 : decode jdk_42_method_139_code 10 = .ok (.ifCond .eq 16, 3) := by decide +kernel
theorem d_jdk_42_139_13 : decode jdk_42_method_139_code 13 = .ok (.new 10, 3) := by decide +kernel
theorem d_jdk_42_139_16 : decode jdk_42_method_139_code 16 = .ok (.dup, 1) := by decide +kernel
theorem d_jdk_42_139_17 : decode jdk_42_method_139_code 17 = .ok (.iload_n 0, 1) := by decide +kernel
theorem d_jdk_42_139_18 : decode jdk_42_method_139_code 18 = .ok (.invokestatic 1018, 3) := by decide +kernel
theorem pd_1 : parseMethodDescriptor "(C)[B" = some ⟨[.char], some (.array .byte)⟩ := by decide +kernel
theorem d_jdk_42_139_21 : decode jdk_42_method_139_code 21 = .ok (.iconst 0, 1) := by decide +kernel
theorem d_jdk_42_139_22 : decode jdk_42_method_139_code 22 = .ok (.invokespecial 209, 3) := by decide +kernel
theorem pd_2 : parseMethodDescriptor "([BB)V" = some ⟨[(.array .byte), .byte], none⟩ := by decide +kernel
theorem d_jdk_42_139_25 : decode jdk_42_method_139_code 25 = .ok (.areturn, 1) := by decide +kernel
theorem ef_3 (m : MethodId) (ch : Int32) : entryFrame m #[(.int ch)] 1 = mkF m 0 #[iv ch] [] := by first | (simp [entryFrame, mkF, argsToLocals, Value.category]; done) | rfl
abbrev ym_3 : MethodName := ⟨"java/lang/String", "valueOf", "(C)Ljava/lang/String;"⟩
def Q_rm_svo (Z : State) (ch : Int32) (cz : Int32) (h0 : Heap) (n0 : Nat) (vv : Option Value) (h : Heap) (LL : List Loc) : Prop := ∃ b : Nat, vv = some (.ref b) ∧ Fr n0 LL ∧ Keep h0 h [] ∧ (h0.size ≤ b ∧ b < h.size) ∧ own_Str Z h h.size b [ch]
set_option maxRecDepth 65536 in
set_option maxHeartbeats 40000000 in
theorem rm_svo (l : Launch) (Z : State) (a0 : Array Value) (hw : ∀ d ∈ tables_1, d.before a0 Z = true) (ws : List Jvm.Cond) (ch : Int32) (cz : Int32) (h0 : Heap) (n0 : Nat) (Z0 : n0 ≤ h0.size) (O0 : Old Z n0 h0) (S_COMPACT_STRINGS : Sta Z Z.heap "java/lang/String" "COMPACT_STRINGS" "Z" (.int cz)) (hcz : ¬ cz = (0 : Int32)) (hch : ¬ (ch < (0 : Int32)) ∧ ¬ ((255 : Int32) < ch)) :
    own_MF l ym_3 jdk_42_method_139_code 1 (some (.object "java/lang/String")) ⟨2, 2, 5, 27⟩ ws Z #[(.int ch)] h0 (Q_rm_svo Z ch cz h0 n0) := by
  refine own_begin (plainFor_of_name pn_1) (fun m => ef_3 m ch) ?_
  intro p e s m below meth c s₁ hret hx hby hml hown hnm hlk X0 e0 hh hZ
  have N0 := Fr.nil n0
  obtain ⟨T1, X1, e1, st1⟩ := getS2 X0 hx hZ hown (host := "") (Or.inl (own_w hw 4 rfl)) Via.refl e0 (S_COMPACT_STRINGS.ext O0.2) (g := (mkF m 0 #[iv ch] [])) rfl (hb hby d_jdk_42_139_0)
  refine og T1 (mkF m 3 #[iv ch] [(.int cz)]) (fun t_ k_ => st1 _ k_) ?_
  refine og T1 (mkF m 6 #[iv ch] []) (fun t_ k_ => XS.ifNo X1.here hx rfl (hb hby d_jdk_42_139_3) rfl ((if0 _ _).trans (feq hcz).1) k_) ?_
  refine og T1 (mkF m 7 #[iv ch] [(.int ch)]) (fun t_ k_ => XS.iloadN X1.here hx rfl (hb hby d_jdk_42_139_6) rfl k_) ?_
  obtain ⟨_, _, ⟨T2, L2, k2, n2⟩, -, X2, ⟨Lc2, hQ2, l2, y2, z2⟩, st2⟩ := Jvm.LawKit.callS X1 hx (y := ym_0) hown (mvT hZ (own_w hw 5 rfl)) (mvT hZ (own_w hw 6 rfl)) (mvT hZ (own_w hw 7 rfl)) (mvT hZ (own_w hw 8 rfl)) (by decide) (backOf (W := 0) (rm_can l Z a0 hw [] ch h0 n0 (show n0 ≤ h0.size by omega) hch.2) hZ (own_w hw 8 rfl) (own_w hw 7 rfl) (by decide) (by decide)) (g := (mkF m 7 #[iv ch] [(.int ch)])) rfl (by rw [hml]; rfl) (argsL := [(.int ch)]) (rest := []) (lenOf pd_0 rfl) rfl (by show 2 * 0 + _ ≤ _; exact Nat.le_of_eq rfl) (hb hby d_jdk_42_139_7) (fun _ _ => ⟨rfl, e1, (by decide : 0 + 0 ≤ _), (by decide : 0 + 0 ≤ _)⟩)
  dsimp only [Pt.U, Pt.locs, Pt.cells, Pt.slots] at X2 l2 y2 z2 st2 hQ2
  replace l2 := l2.symm; replace y2 := y2.symm; replace z2 := z2.symm; subst l2 y2 z2
  obtain ⟨rfl, M2, e2⟩ := hQ2
  have N2 := Fr.app N0 M2
  refine og T2 (mkF m 10 #[iv ch] [(.int 1)]) (fun t_ k_ => st2 _ k_) ?_
  refine og T2 (mkF m 13 #[iv ch] []) (fun t_ k_ => XS.ifNo X2.here hx rfl (hb hby d_jdk_42_139_10) rfl ((if0 _ _).trans (feq (by decide)).1) k_) ?_
  obtain ⟨T3, h3, X3, e3, E3, A3, D3, -, st3⟩ := newO X2 hx hZ hown (own_w hw 9 rfl) (own_w hw 10 rfl) (own_w hw 2 rfl) e2 (g := (mkF m 13 #[iv ch] [])) rfl (hb hby d_jdk_42_139_13) (by decide) (by decide)
  obtain ⟨b3, g3⟩ : ∃ z, z = h0.size := ⟨_, rfl⟩
  rw [← g3] at A3 D3 st3
  have l3 := own_ltN A3.lt
  have z3 := E3.1
  have O3 := O0.ext E3
  have K3 := (Keep.refl h0 []).ext E3
  have F3_value : Fld Z h3 b3 "java/lang/String" "value" "[B" .null := D3 (Or.inr (own_w hw 23 rfl)) (ty := (.array .byte)) (by decide)
  have F3_coder : Fld Z h3 b3 "java/lang/String" "coder" "B" (.int 0) := D3 (Or.inr (own_w hw 25 rfl)) (ty := .byte) (by decide)
  refine og T3 (mkF m 16 #[iv ch] [(.ref b3)]) (fun t_ k_ => st3 _ k_) ?_
  refine og T3 (mkF m 17 #[iv ch] [(.ref b3), (.ref b3)]) (fun t_ k_ => XS.dup X3.here hx rfl (hb hby d_jdk_42_139_16) rfl rfl k_) ?_
  refine og T3 (mkF m 18 #[iv ch] [(.int ch), (.ref b3), (.ref b3)]) (fun t_ k_ => XS.iloadN X3.here hx rfl (hb hby d_jdk_42_139_17) rfl k_) ?_
  obtain ⟨_, _, ⟨T4, L4, k4, n4⟩, -, X4, ⟨Lc4, hQ4, l4, y4, z4⟩, st4⟩ := Jvm.LawKit.callS X3 hx (y := ym_1) hown (mvT hZ (own_w hw 11 rfl)) (mvT hZ (own_w hw 12 rfl)) (mvT hZ (own_w hw 7 rfl)) (mvT hZ (own_w hw 13 rfl)) (by decide) (backOf (W := 2) (rm_tob l Z a0 hw [] ch h3 n0 (show n0 ≤ h3.size by omega)) hZ (own_w hw 13 rfl) (own_w hw 7 rfl) (by decide) (by decide)) (g := (mkF m 18 #[iv ch] [(.int ch), (.ref b3), (.ref b3)])) rfl (by rw [hml]; rfl) (argsL := [(.int ch)]) (rest := [(.ref b3), (.ref b3)]) (lenOf pd_1 rfl) rfl (by show 2 * 0 + _ ≤ _; exact Nat.le_of_eq rfl) (hb hby d_jdk_42_139_18) (fun _ _ => ⟨rfl, e3, (by decide : 1 + 1 ≤ _), (by decide : 4 + 1 ≤ _)⟩)
  dsimp only [Pt.U, Pt.locs, Pt.cells, Pt.slots] at X4 l4 y4 z4 st4 hQ4
  replace l4 := l4.symm; replace y4 := y4.symm; replace z4 := z4.symm; subst l4 y4 z4
  obtain ⟨b4, kb4, rfl, M4, K4_, ⟨lob4, hib4⟩, f4_0⟩ := hQ4
  have zz4 := K4_.1
  have O4 := O3.keep K4_ all0
  have K4 := K3.trans K4_ all0
  have N4 := Fr.app N2 M4
  refine og T4 (mkF m 21 #[iv ch] [(.ref b4), (.ref b3), (.ref b3)]) (fun t_ k_ => st4 _ k_) ?_
  refine og T4 (mkF m 22 #[iv ch] [(.int 0), (.ref b4), (.ref b3), (.ref b3)]) (fun t_ k_ => XS.iconst X4.here hx rfl (hb hby d_jdk_42_139_21) k_) ?_
  have ff6 := (A3.keep K4_)
  have ff7 := (F3_value.keep K4_ nin0)
  have ff8 := (F3_coder.keep K4_ nin0)
  obtain ⟨_, _, ⟨T5, L5, k5, n5⟩, -, X5, ⟨Lc5, hQ5, l5, y5, z5⟩, st5⟩ := X4.specialBack hx (y := ym_2) rfl hown (mvT hZ (own_w hw 15 rfl)) (mvT hZ (own_w hw 16 rfl)) (mvT hZ (own_w hw 18 rfl)) (by decide) (backOf (W := 1) (rm_sinit l Z a0 hw [] b3 b4 (0 : Int32) T4.heap n0 (show n0 ≤ T4.heap.size by omega) ff6 ff7 ff8 (show n0 ≤ b3 by omega)) hZ (own_w hw 18 rfl) (own_w hw 2 rfl) (by decide) (by decide)) (g := (mkF m 22 #[iv ch] [(.int 0), (.ref b4), (.ref b3), (.ref b3)])) rfl (by rw [hml]; rfl) (Steps.refl _) (a := b3) (argsL := [(.ref b4), (.int 0)]) (rest := [(.ref b3)]) (lenOf pd_2 rfl) rfl (by show 2 * 0 + _ ≤ _; exact Nat.le_of_eq rfl) (hb hby d_jdk_42_139_22) (fun _ _ => ⟨rfl, rfl, (by decide : 2 + 0 ≤ _), (by decide : 5 + 0 ≤ _)⟩)
  dsimp only [Pt.U, Pt.locs, Pt.cells, Pt.slots] at X5 l5 y5 z5 st5 hQ5
  replace l5 := l5.symm; replace y5 := y5.symm; replace z5 := z5.symm; subst l5 y5 z5
  obtain ⟨rfl, M5, K5_, f5_0, f5_1⟩ := hQ5
  have zz5 := K5_.1
  have O5 := O4.keep K5_ (allS (show n0 ≤ b3 by omega) all0)
  have K5 := K4.trans K5_ (allS (Or.inr (show h0.size ≤ b3 by omega)) all0)
  have N5 := Fr.app N4 M5
  refine og T5 (mkF m 25 #[iv ch] [(.ref b3)]) (fun t_ k_ => st5.trans k_) ?_
  have ff9 := (ff6.keep K5_)
  have nq10 : b4 ≠ b3 := own_ne (by omega)
  have ff11 := (f4_0.keep K5_ (ninS nq10 nin0))
  exact own_out X5 (v := some (.ref b3)) (fun h => by rw [hret] at h; cases h) hlk (fun fs hr => own_retA X5 hx hret rfl rfl (hb hby d_jdk_42_139_25) hr) (Q := Q_rm_svo Z ch cz h0 n0) (by exact ⟨b3, rfl, N5, K5, ⟨by omega, by omega⟩, ⟨ff9, f5_1, by simpa using hch, by omega, b4, _, by omega, f5_0, ff11⟩⟩) (by decide) (by decide)
theorem d_jdk_31_10_0 : decode jdk_31_method_10_code 0 = .ok (.aload_n 0, 1) := by decide +kernel
theorem d_jdk_31_10_1 : decode jdk_31_method_10_code 1 = .ok (.ifnonnull 11, 3) := by decide +kernel
theorem d_jdk_31_10_12 : decode jdk_31_method_10_code 12 = .ok (.aload_n 0, 1) := by decide +kernel
theorem d_jdk_31_10_13 : decode jdk_31_method_10_code 13 = .ok (.areturn, 1) := by decide +kernel
theorem pn_2 : plainName "java/util/Objects" = true := by first | (simp [plainName, overriddenIn]; done) | decide +kernel
theorem ef_4 (m : MethodId) (a : Nat) : entryFrame m #[(.ref a)] 1 = mkF m 0 #[rv a] [] := by first | (simp [entryFrame, mkF, argsToLocals, Value.category]; done) | rfl
abbrev ym_4 : MethodName := ⟨"java/util/Objects", "requireNonNull", "(Ljava/lang/Object;)Ljava/lang/Object;"⟩
def Q_rm_rnn (Z : State) (a : Nat) (h0 : Heap) (n0 : Nat) (vv : Option Value) (h : Heap) (LL : List Loc) : Prop := vv = some (.ref a) ∧ Fr n0 LL ∧ h = h0
set_option maxRecDepth 65536 in
set_option maxHeartbeats 40000000 in
theorem rm_rnn (l : Launch) (Z : State) (a0 : Array Value) (hw : ∀ d ∈ tables_1, d.before a0 Z = true) (ws : List Jvm.Cond) (a : Nat) (h0 : Heap) (n0 : Nat) (Z0 : n0 ≤ h0.size) :
    own_MF l ym_4 jdk_31_method_10_code 1 (some (.object "java/lang/Object")) ⟨0, 0, 0, 0⟩ ws Z #[(.ref a)] h0 (Q_rm_rnn Z a h0 n0) := by
  refine own_begin (plainFor_of_name pn_2) (fun m => ef_4 m a) ?_
  intro p e s m below meth c s₁ hret hx hby hml hown hnm hlk X0 e0 hh hZ
  have N0 := Fr.nil n0
  refine og s₁ (mkF m 1 #[rv a] [(.ref a)]) (fun t_ k_ => XS.aloadN X0.here hx rfl (hb hby d_jdk_31_10_0) rfl rfl k_) ?_
  refine og s₁ (mkF m 12 #[rv a] []) (fun t_ k_ => XS.ifnonnullYes X0.here hx rfl (pc0 := 1) (pc' := 12) rfl (hb hby d_jdk_31_10_1) rfl (by decide) (by decide) k_) ?_
  refine og s₁ (mkF m 13 #[rv a] [(.ref a)]) (fun t_ k_ => XS.aloadN X0.here hx rfl (hb hby d_jdk_31_10_12) rfl rfl k_) ?_
  exact own_out X0 (v := some (.ref a)) (fun h => by rw [hret] at h; cases h) hlk (fun fs hr => own_retA X0 hx hret rfl rfl (hb hby d_jdk_31_10_13) hr) (Q := Q_rm_rnn Z a h0 n0) (by rw [e0]; exact ⟨rfl, N0, rfl⟩) (by decide) (by decide)
theorem d_jdk_32_2_0 : decode jdk_32_method_2_code 0 = .ok (.aload_n 0, 1) := by decide +kernel
theorem d_jdk_32_2_1 : decode jdk_32_method_2_code 1 = .ok (.invokespecial 7, 3) := by decide +kernel
theorem d_jdk_32_2_4 : decode jdk_32_method_2_code 4 = .ok (.aload_n 0, 1) := by decide +kernel
theorem d_jdk_32_2_5 : decode jdk_32_method_2_code 5 = .ok (.aload_n 1, 1) := by decide +kernel
theorem d_jdk_32_2_6 : decode jdk_32_method_2_code 6 = .ok (.putfield 13, 3) := by decide +kernel
theorem d_jdk_32_2_9 : decode jdk_32_method_2_code 9 = .ok (.return_, 1) := by decide +kernel
theorem pn_3 : plainName "java/util/Optional" = true := by first | (simp [plainName, overriddenIn]; done) | decide +kernel
theorem ef_5 (m : MethodId) (a : Nat) (t : Nat) : entryFrame m #[(.ref a), (.ref t)] 2 = mkF m 0 #[rv a, rv t] [] := by first | (simp [entryFrame, mkF, argsToLocals, Value.category]; done) | rfl
abbrev ym_5 : MethodName := ⟨"java/util/Optional", "<init>", "(Ljava/lang/Object;)V"⟩
def Q_rm_oini (Z : State) (a : Nat) (t : Nat) (h0 : Heap) (n0 : Nat) (vv : Option Value) (h : Heap) (LL : List Loc) : Prop := vv = none ∧ Fr n0 LL ∧ Keep h0 h [a] ∧ Fld Z h a "java/util/Optional" "value" "Ljava/lang/Object;" (.ref t)
set_option maxRecDepth 65536 in
set_option maxHeartbeats 40000000 in
theorem rm_oini (l : Launch) (Z : State) (a0 : Array Value) (hw : ∀ d ∈ tables_1, d.before a0 Z = true) (ws : List Jvm.Cond) (a : Nat) (t : Nat) (h0 : Heap) (n0 : Nat) (Z0 : n0 ≤ h0.size) (E_a : Exa Z h0 a "java/util/Optional") (F_value_a : Fld Z h0 a "java/util/Optional" "value" "Ljava/lang/Object;" .null) (g_a : n0 ≤ a) :
    own_MF l ym_5 jdk_32_method_2_code 2 none ⟨1, 0, 0, 12⟩ ws Z #[(.ref a), (.ref t)] h0 (Q_rm_oini Z a t h0 n0) := by
  refine own_begin (plainFor_of_name pn_3) (fun m => ef_5 m a t) ?_
  intro p e s m below meth c s₁ hret hx hby hml hown hnm hlk X0 e0 hh hZ
  have N0 := Fr.nil n0
  have lt_E_a := own_ltN E_a.lt
  have lt_F_value_a := own_ltN F_value_a.lt
  refine og s₁ (mkF m 1 #[rv a, rv t] [(.ref a)]) (fun t_ k_ => XS.aloadN X0.here hx rfl (hb hby d_jdk_32_2_0) rfl rfl k_) ?_
  obtain ⟨T1, X1, e1, st1⟩ := initO X0 hx hZ hown (own_w hw 48 rfl) (own_w hw 20 rfl) (own_w hw 21 rfl) e0 (g := (mkF m 1 #[rv a, rv t] [(.ref a)])) rfl (by rw [hml]; rfl) rfl (hb hby d_jdk_32_2_1) (by decide) (W := 0) (by show 2 * 0 + _ ≤ _; exact Nat.le_of_eq rfl) (by decide)
  refine og T1 (mkF m 4 #[rv a, rv t] []) (fun t_ k_ => st1 _ k_) ?_
  refine og T1 (mkF m 5 #[rv a, rv t] [(.ref a)]) (fun t_ k_ => XS.aloadN X1.here hx rfl (hb hby d_jdk_32_2_4) rfl rfl k_) ?_
  refine og T1 (mkF m 6 #[rv a, rv t] [(.ref t), (.ref a)]) (fun t_ k_ => XS.aloadN X1.here hx rfl (hb hby d_jdk_32_2_5) rfl rfl k_) ?_
  obtain ⟨T2, h2, X2, e2, W2, st2⟩ := putF X1 hx hZ hown (host := "") (Or.inl (own_w hw 49 rfl)) Via.refl e1 F_value_a E_a (Or.inr ⟨(own_w hw 50 rfl), rfl, hnm⟩) (own_w hw 39 rfl) (ty := (.object "java/lang/Object")) (by decide) rfl rfl (g := (mkF m 6 #[rv a, rv t] [(.ref t), (.ref a)])) rfl rfl (hb hby d_jdk_32_2_6)
  have F2 := F_value_a.same W2
  have z2 := W2.size
  have N2 := Fr.snoc X2 N0 (show n0 ≤ a by omega)
  have K2 := (Keep.refl h0 [a]).wr W2 (Or.inl (List.mem_of_getElem? (i := 0) rfl))
  refine og T2 (mkF m 9 #[rv a, rv t] []) (fun t_ k_ => st2 _ k_) ?_
  exact own_out X2 (v := none) (fun _ => rfl) hlk (fun fs hr => X2.returnOut hx hret (hb hby d_jdk_32_2_9) hr) (Q := Q_rm_oini Z a t h0 n0) (by rw [e2]; exact ⟨rfl, N2, K2, F2⟩) (by decide) (by decide)
theorem d_jdk_32_3_0 : decode jdk_32_method_3_code 0 = .ok (.new 2, 3) := by decide +kernel
theorem d_jdk_32_3_3 : decode jdk_32_method_3_code 3 = .ok (.dup, 1) := by decide +kernel
theorem d_jdk_32_3_4 : decode jdk_32_method_3_code 4 = .ok (.aload_n 0, 1) := by decide +kernel
theorem d_jdk_32_3_5 : decode jdk_32_method_3_code 5 = .ok (.invokestatic 17, 3) := by decide +kernel
theorem pd_3 : parseMethodDescriptor "(Ljava/lang/Object;)Ljava/lang/Object;" = some ⟨[(.object "java/lang/Object")], some (.object "java/lang/Object")⟩ := by decide +kernel
theorem d_jdk_32_3_8 : decode jdk_32_method_3_code 8 = .ok (.invokespecial 23, 3) := by decide +kernel
theorem pd_4 : parseMethodDescriptor "(Ljava/lang/Object;)V" = some ⟨[(.object "java/lang/Object")], none⟩ := by decide +kernel
theorem d_jdk_32_3_11 : decode jdk_32_method_3_code 11 = .ok (.areturn, 1) := by decide +kernel
theorem ef_6 (m : MethodId) (t : Nat) : entryFrame m #[(.ref t)] 1 = mkF m 0 #[rv t] [] := by first | (simp [entryFrame, mkF, argsToLocals, Value.category]; done) | rfl
abbrev ym_6 : MethodName := ⟨"java/util/Optional", "of", "(Ljava/lang/Object;)Ljava/util/Optional;"⟩
def Q_rm_oof (Z : State) (t : Nat) (h0 : Heap) (n0 : Nat) (vv : Option Value) (h : Heap) (LL : List Loc) : Prop := ∃ b : Nat, vv = some (.ref b) ∧ Fr n0 LL ∧ Keep h0 h [] ∧ (h0.size ≤ b ∧ b < h.size) ∧ Exa Z h b "java/util/Optional" ∧ Fld Z h b "java/util/Optional" "value" "Ljava/lang/Object;" (.ref t)
set_option maxRecDepth 65536 in
set_option maxHeartbeats 40000000 in
theorem rm_oof (l : Launch) (Z : State) (a0 : Array Value) (hw : ∀ d ∈ tables_1, d.before a0 Z = true) (ws : List Jvm.Cond) (t : Nat) (h0 : Heap) (n0 : Nat) (Z0 : n0 ≤ h0.size) :
    own_MF l ym_6 jdk_32_method_3_code 1 (some (.object "java/util/Optional")) ⟨2, 1, 1, 26⟩ ws Z #[(.ref t)] h0 (Q_rm_oof Z t h0 n0) := by
  refine own_begin (plainFor_of_name pn_3) (fun m => ef_6 m t) ?_
  intro p e s m below meth c s₁ hret hx hby hml hown hnm hlk X0 e0 hh hZ
  have N0 := Fr.nil n0
  obtain ⟨T1, h1, X1, e1, E1, A1, D1, -, st1⟩ := newO X0 hx hZ hown (own_w hw 38 rfl) (own_w hw 39 rfl) (own_w hw 36 rfl) e0 (g := (mkF m 0 #[rv t] [])) rfl (hb hby d_jdk_32_3_0) (by decide) (by decide)
  obtain ⟨b1, g1⟩ : ∃ z, z = h0.size := ⟨_, rfl⟩
  rw [← g1] at A1 D1 st1
  have l1 := own_ltN A1.lt
  have z1 := E1.1
  have K1 := (Keep.refl h0 []).ext E1
  have F1_value : Fld Z h1 b1 "java/util/Optional" "value" "Ljava/lang/Object;" .null := D1 (Or.inr (own_w hw 50 rfl)) (ty := (.object "java/lang/Object")) (by decide)
  refine og T1 (mkF m 3 #[rv t] [(.ref b1)]) (fun t_ k_ => st1 _ k_) ?_
  refine og T1 (mkF m 4 #[rv t] [(.ref b1), (.ref b1)]) (fun t_ k_ => XS.dup X1.here hx rfl (hb hby d_jdk_32_3_3) rfl rfl k_) ?_
  refine og T1 (mkF m 5 #[rv t] [(.ref t), (.ref b1), (.ref b1)]) (fun t_ k_ => XS.aloadN X1.here hx rfl (hb hby d_jdk_32_3_4) rfl rfl k_) ?_
  obtain ⟨_, _, ⟨T2, L2, k2, n2⟩, -, X2, ⟨Lc2, hQ2, l2, y2, z2⟩, st2⟩ := Jvm.LawKit.callS X1 hx (y := ym_4) hown (mvT hZ (own_w hw 40 rfl)) (mvT hZ (own_w hw 41 rfl)) (mvT hZ (own_w hw 42 rfl)) (mvT hZ (own_w hw 43 rfl)) (by decide) (backOf (W := 2) (rm_rnn l Z a0 hw [] t h1 n0 (show n0 ≤ h1.size by omega)) hZ (own_w hw 43 rfl) (own_w hw 42 rfl) (by decide) (by decide)) (g := (mkF m 5 #[rv t] [(.ref t), (.ref b1), (.ref b1)])) rfl (by rw [hml]; rfl) (argsL := [(.ref t)]) (rest := [(.ref b1), (.ref b1)]) (lenOf pd_3 rfl) rfl (by show 2 * 0 + _ ≤ _; exact Nat.le_of_eq rfl) (hb hby d_jdk_32_3_5) (fun _ _ => ⟨rfl, e1, (by decide : 1 + 0 ≤ _), (by decide : 1 + 0 ≤ _)⟩)
  dsimp only [Pt.U, Pt.locs, Pt.cells, Pt.slots] at X2 l2 y2 z2 st2 hQ2
  replace l2 := l2.symm; replace y2 := y2.symm; replace z2 := z2.symm; subst l2 y2 z2
  obtain ⟨rfl, M2, e2⟩ := hQ2
  have N2 := Fr.app N0 M2
  refine og T2 (mkF m 8 #[rv t] [(.ref t), (.ref b1), (.ref b1)]) (fun t_ k_ => st2 _ k_) ?_
  obtain ⟨_, _, ⟨T3, L3, k3, n3⟩, -, X3, ⟨Lc3, hQ3, l3, y3, z3⟩, st3⟩ := X2.specialBack hx (y := ym_5) rfl hown (mvT hZ (own_w hw 44 rfl)) (mvT hZ (own_w hw 45 rfl)) (mvT hZ (own_w hw 47 rfl)) (by decide) (backOf (W := 1) (rm_oini l Z a0 hw [] b1 t h1 n0 (show n0 ≤ h1.size by omega) A1 F1_value (show n0 ≤ b1 by omega)) hZ (own_w hw 47 rfl) (own_w hw 36 rfl) (by decide) (by decide)) (g := (mkF m 8 #[rv t] [(.ref t), (.ref b1), (.ref b1)])) rfl (by rw [hml]; rfl) (Steps.refl _) (a := b1) (argsL := [(.ref t)]) (rest := [(.ref b1)]) (lenOf pd_4 rfl) rfl (by show 2 * 0 + _ ≤ _; exact Nat.le_of_eq rfl) (hb hby d_jdk_32_3_8) (fun _ _ => ⟨rfl, e2, (by decide : 1 + 0 ≤ _), (by decide : 1 + 0 ≤ _)⟩)
  dsimp only [Pt.U, Pt.locs, Pt.cells, Pt.slots] at X3 l3 y3 z3 st3 hQ3
  replace l3 := l3.symm; replace y3 := y3.symm; replace z3 := z3.symm; subst l3 y3 z3
  obtain ⟨rfl, M3, K3_, f3_0⟩ := hQ3
  have zz3 := K3_.1
  have K3 := K1.trans K3_ (allS (Or.inr (show h0.size ≤ b1 by omega)) all0)
  have N3 := Fr.app N2 M3
  refine og T3 (mkF m 11 #[rv t] [(.ref b1)]) (fun t_ k_ => st3.trans k_) ?_
  have ff4 := (A1.keep K3_)
  exact own_out X3 (v := some (.ref b1)) (fun h => by rw [hret] at h; cases h) hlk (fun fs hr => own_retA X3 hx hret rfl rfl (hb hby d_jdk_32_3_11) hr) (Q := Q_rm_oof Z t h0 n0) (by exact ⟨b1, rfl, N3, K3, ⟨by omega, by omega⟩, ff4, f3_0⟩) (by decide) (by decide)
theorem d_jdk_32_1_0 : decode jdk_32_method_1_code 0 = .ok (.getstatic 1, 3) := by decide +kernel
theorem d_jdk_32_1_3 : decode jdk_32_method_1_code 3 = .ok (.astore_n 0, 1) := by decide +kernel
theorem d_jdk_32_1_4 : decode jdk_32_method_1_code 4 = .ok (.aload_n 0, 1) := by decide +kernel
theorem d_jdk_32_1_5 : decode jdk_32_method_1_code 5 = .ok (.areturn, 1) := by decide +kernel
theorem ef_7 (m : MethodId)  : entryFrame m #[] 1 = mkF m 0 #[.unset] [] := by first | (simp [entryFrame, mkF, argsToLocals, Value.category]; done) | rfl
abbrev ym_7 : MethodName := ⟨"java/util/Optional", "empty", "()Ljava/util/Optional;"⟩
def Q_rm_oem (Z : State) (em : Nat) (h0 : Heap) (n0 : Nat) (vv : Option Value) (h : Heap) (LL : List Loc) : Prop := vv = some (.ref em) ∧ Fr n0 LL ∧ h = h0
set_option maxRecDepth 65536 in
set_option maxHeartbeats 40000000 in
theorem rm_oem (l : Launch) (Z : State) (a0 : Array Value) (hw : ∀ d ∈ tables_1, d.before a0 Z = true) (ws : List Jvm.Cond) (em : Nat) (h0 : Heap) (n0 : Nat) (Z0 : n0 ≤ h0.size) (O0 : Old Z n0 h0) (S_EMPTY : Sta Z Z.heap "java/util/Optional" "EMPTY" "Ljava/util/Optional;" (.ref em)) :
    own_MF l ym_7 jdk_32_method_1_code 1 (some (.object "java/util/Optional")) ⟨0, 0, 0, 0⟩ ws Z #[] h0 (Q_rm_oem Z em h0 n0) := by
  refine own_begin (plainFor_of_name pn_3) (fun m => ef_7 m) ?_
  intro p e s m below meth c s₁ hret hx hby hml hown hnm hlk X0 e0 hh hZ
  have N0 := Fr.nil n0
  obtain ⟨T1, X1, e1, st1⟩ := getS2 X0 hx hZ hown (host := "") (Or.inl (own_w hw 54 rfl)) Via.refl e0 (S_EMPTY.ext O0.2) (g := (mkF m 0 #[.unset] [])) rfl (hb hby d_jdk_32_1_0)
  refine og T1 (mkF m 3 #[.unset] [(.ref em)]) (fun t_ k_ => st1 _ k_) ?_
  refine og T1 (mkF m 4 #[rv em] []) (fun t_ k_ => XS.astoreN X1.here hx rfl (hb hby d_jdk_32_1_3) rfl rfl (l' := #[rv em]) rfl k_) ?_
  refine og T1 (mkF m 5 #[rv em] [(.ref em)]) (fun t_ k_ => XS.aloadN X1.here hx rfl (hb hby d_jdk_32_1_4) rfl rfl k_) ?_
  exact own_out X1 (v := some (.ref em)) (fun h => by rw [hret] at h; cases h) hlk (fun fs hr => own_retA X1 hx hret rfl rfl (hb hby d_jdk_32_1_5) hr) (Q := Q_rm_oem Z em h0 n0) (by rw [e1]; exact ⟨rfl, N0, rfl⟩) (by decide) (by decide)
theorem d_prog_17_2_0 : decode prog_17_method_2_code 0 = .ok (.aload_n 1, 1) := by decide +kernel
theorem d_prog_17_2_1 : decode prog_17_method_2_code 1 = .ok (.ifnonnull 17, 3) := by decide +kernel
theorem d_prog_17_2_18 : decode prog_17_method_2_code 18 = .ok (.return_, 1) := by decide +kernel
theorem pn_4 : plainName "com/example/labmeld/labmeld/finding/Check" = true := by first | (simp [plainName, overriddenIn]; done) | decide +kernel
theorem ef_8 (m : MethodId) (a : Nat) (b : Nat) : entryFrame m #[(.ref a), (.ref b)] 2 = mkF m 0 #[rv a, rv b] [] := by first | (simp [entryFrame, mkF, argsToLocals, Value.category]; done) | rfl
abbrev ym_8 : MethodName := ⟨"com/example/labmeld/labmeld/finding/Check", "present", "(Ljava/lang/String;Ljava/lang/Object;)V"⟩
def Q_rm_pre (Z : State) (a : Nat) (b : Nat) (h0 : Heap) (n0 : Nat) (vv : Option Value) (h : Heap) (LL : List Loc) : Prop := vv = none ∧ Fr n0 LL ∧ h = h0
set_option maxRecDepth 65536 in
set_option maxHeartbeats 40000000 in
theorem rm_pre (l : Launch) (Z : State) (a0 : Array Value) (hw : ∀ d ∈ tables_1, d.before a0 Z = true) (ws : List Jvm.Cond) (a : Nat) (b : Nat) (h0 : Heap) (n0 : Nat) (Z0 : n0 ≤ h0.size) :
    own_MF l ym_8 prog_17_method_2_code 2 none ⟨0, 0, 0, 0⟩ ws Z #[(.ref a), (.ref b)] h0 (Q_rm_pre Z a b h0 n0) := by
  refine own_begin (plainFor_of_name pn_4) (fun m => ef_8 m a b) ?_
  intro p e s m below meth c s₁ hret hx hby hml hown hnm hlk X0 e0 hh hZ
  have N0 := Fr.nil n0
  refine og s₁ (mkF m 1 #[rv a, rv b] [(.ref b)]) (fun t_ k_ => XS.aloadN X0.here hx rfl (hb hby d_prog_17_2_0) rfl rfl k_) ?_
  refine og s₁ (mkF m 18 #[rv a, rv b] []) (fun t_ k_ => XS.ifnonnullYes X0.here hx rfl (pc0 := 1) (pc' := 18) rfl (hb hby d_prog_17_2_1) rfl (by decide) (by decide) k_) ?_
  exact own_out X0 (v := none) (fun _ => rfl) hlk (fun fs hr => X0.returnOut hx hret (hb hby d_prog_17_2_18) hr) (Q := Q_rm_pre Z a b h0 n0) (by rw [e0]; exact ⟨rfl, N0, rfl⟩) (by decide) (by decide)
theorem d_jdk_41_11_0 : decode jdk_41_method_11_code 0 = .ok (.iload_n 0, 1) := by decide +kernel
theorem d_jdk_41_11_1 : decode jdk_41_method_11_code 1 = .ok (.ifCond .lt 8, 3) := by decide +kernel
theorem d_jdk_41_11_4 : decode jdk_41_method_11_code 4 = .ok (.iload_n 0, 1) := by decide +kernel
theorem d_jdk_41_11_5 : decode jdk_41_method_11_code 5 = .ok (.iload_n 1, 1) := by decide +kernel
theorem d_jdk_41_11_6 : decode jdk_41_method_11_code 6 = .ok (.if_icmp .lt 10, 3) := by decide +kernel
theorem d_jdk_41_11_16 : decode jdk_41_method_11_code 16 = .ok (.iload_n 0, 1) := by decide +kernel
theorem d_jdk_41_11_17 : decode jdk_41_method_11_code 17 = .ok (.ireturn, 1) := by decide +kernel
theorem pn_5 : plainName "jdk/internal/util/Preconditions" = true := by first | (simp [plainName, overriddenIn]; done) | decide +kernel
theorem ef_9 (m : MethodId) (i : Int32) (n : Int32) : entryFrame m #[(.int i), (.int n), .null] 3 = mkF m 0 #[iv i, iv n, .val .null] [] := by first | (simp [entryFrame, mkF, argsToLocals, Value.category]; done) | rfl
abbrev ym_9 : MethodName := ⟨"jdk/internal/util/Preconditions", "checkIndex", "(IILjava/util/function/BiFunction;)I"⟩
def Q_rm_pcin (Z : State) (i : Int32) (n : Int32) (h0 : Heap) (n0 : Nat) (vv : Option Value) (h : Heap) (LL : List Loc) : Prop := vv = some (.int i) ∧ Fr n0 LL ∧ h = h0
set_option maxRecDepth 65536 in
set_option maxHeartbeats 40000000 in
theorem rm_pcin (l : Launch) (Z : State) (a0 : Array Value) (hw : ∀ d ∈ tables_1, d.before a0 Z = true) (ws : List Jvm.Cond) (i : Int32) (n : Int32) (h0 : Heap) (n0 : Nat) (Z0 : n0 ≤ h0.size) (h1 : ¬ (i < (0 : Int32))) (h2 : i < n) :
    own_MF l ym_9 jdk_41_method_11_code 3 (some .int) ⟨0, 0, 0, 0⟩ ws Z #[(.int i), (.int n), .null] h0 (Q_rm_pcin Z i n h0 n0) := by
  refine own_begin (plainFor_of_name pn_5) (fun m => ef_9 m i n) ?_
  intro p e s m below meth c s₁ hret hx hby hml hown hnm hlk X0 e0 hh hZ
  have N0 := Fr.nil n0
  refine og s₁ (mkF m 1 #[iv i, iv n, .val .null] [(.int i)]) (fun t_ k_ => XS.iloadN X0.here hx rfl (hb hby d_jdk_41_11_0) rfl k_) ?_
  refine og s₁ (mkF m 4 #[iv i, iv n, .val .null] []) (fun t_ k_ => XS.ifNo X0.here hx rfl (hb hby d_jdk_41_11_1) rfl ((if0 _ _).trans (flt h1).1) k_) ?_
  refine og s₁ (mkF m 5 #[iv i, iv n, .val .null] [(.int i)]) (fun t_ k_ => XS.iloadN X0.here hx rfl (hb hby d_jdk_41_11_4) rfl k_) ?_
  refine og s₁ (mkF m 6 #[iv i, iv n, .val .null] [(.int n), (.int i)]) (fun t_ k_ => XS.iloadN X0.here hx rfl (hb hby d_jdk_41_11_5) rfl k_) ?_
  refine og s₁ (mkF m 16 #[iv i, iv n, .val .null] []) (fun t_ k_ => XS.icmpYes X0.here hx rfl (pc0 := 6) (pc' := 16) rfl (hb hby d_jdk_41_11_6) rfl (tlt h2).1 (by decide) (by decide) k_) ?_
  refine og s₁ (mkF m 17 #[iv i, iv n, .val .null] [(.int i)]) (fun t_ k_ => XS.iloadN X0.here hx rfl (hb hby d_jdk_41_11_16) rfl k_) ?_
  exact own_out X0 (v := some (.int i)) (fun h => by rw [hret] at h; cases h) hlk (fun fs hr => retI X0 hx hret (hb hby d_jdk_41_11_17) hr) (Q := Q_rm_pcin Z i n h0 n0) (by rw [e0]; exact ⟨rfl, N0, rfl⟩) (by decide) (by decide)
theorem ef_10 (m : MethodId) (i : Int32) (n : Int32) (f : Nat) : entryFrame m #[(.int i), (.int n), (.ref f)] 3 = mkF m 0 #[iv i, iv n, rv f] [] := by first | (simp [entryFrame, mkF, argsToLocals, Value.category]; done) | rfl
def Q_rm_pcir (Z : State) (i : Int32) (n : Int32) (f : Nat) (h0 : Heap) (n0 : Nat) (vv : Option Value) (h : Heap) (LL : List Loc) : Prop := vv = some (.int i) ∧ Fr n0 LL ∧ h = h0
set_option maxRecDepth 65536 in
set_option maxHeartbeats 40000000 in
theorem rm_pcir (l : Launch) (Z : State) (a0 : Array Value) (hw : ∀ d ∈ tables_1, d.before a0 Z = true) (ws : List Jvm.Cond) (i : Int32) (n : Int32) (f : Nat) (h0 : Heap) (n0 : Nat) (Z0 : n0 ≤ h0.size) (h1 : ¬ (i < (0 : Int32))) (h2 : i < n) :
    own_MF l ym_9 jdk_41_method_11_code 3 (some .int) ⟨0, 0, 0, 0⟩ ws Z #[(.int i), (.int n), (.ref f)] h0 (Q_rm_pcir Z i n f h0 n0) := by
  refine own_begin (plainFor_of_name pn_5) (fun m => ef_10 m i n f) ?_
  intro p e s m below meth c s₁ hret hx hby hml hown hnm hlk X0 e0 hh hZ
  have N0 := Fr.nil n0
  refine og s₁ (mkF m 1 #[iv i, iv n, rv f] [(.int i)]) (fun t_ k_ => XS.iloadN X0.here hx rfl (hb hby d_jdk_41_11_0) rfl k_) ?_
  refine og s₁ (mkF m 4 #[iv i, iv n, rv f] []) (fun t_ k_ => XS.ifNo X0.here hx rfl (hb hby d_jdk_41_11_1) rfl ((if0 _ _).trans (flt h1).1) k_) ?_
  refine og s₁ (mkF m 5 #[iv i, iv n, rv f] [(.int i)]) (fun t_ k_ => XS.iloadN X0.here hx rfl (hb hby d_jdk_41_11_4) rfl k_) ?_
  refine og s₁ (mkF m 6 #[iv i, iv n, rv f] [(.int n), (.int i)]) (fun t_ k_ => XS.iloadN X0.here hx rfl (hb hby d_jdk_41_11_5) rfl k_) ?_
  refine og s₁ (mkF m 16 #[iv i, iv n, rv f] []) (fun t_ k_ => XS.icmpYes X0.here hx rfl (pc0 := 6) (pc' := 16) rfl (hb hby d_jdk_41_11_6) rfl (tlt h2).1 (by decide) (by decide) k_) ?_
  refine og s₁ (mkF m 17 #[iv i, iv n, rv f] [(.int i)]) (fun t_ k_ => XS.iloadN X0.here hx rfl (hb hby d_jdk_41_11_16) rfl k_) ?_
  exact own_out X0 (v := some (.int i)) (fun h => by rw [hret] at h; cases h) hlk (fun fs hr => retI X0 hx hret (hb hby d_jdk_41_11_17) hr) (Q := Q_rm_pcir Z i n f h0 n0) (by rw [e0]; exact ⟨rfl, N0, rfl⟩) (by decide) (by decide)
theorem d_jdk_42_155_0 : decode jdk_42_method_155_code 0 = .ok (.iload_n 0, 1) := by decide +kernel
theorem d_jdk_42_155_1 : decode jdk_42_method_155_code 1 = .ok (.iload_n 1, 1) := by decide +kernel
theorem d_jdk_42_155_2 : decode jdk_42_method_155_code 2 = .ok (.getstatic 1053, 3) := by decide +kernel
theorem d_jdk_42_155_5 : decode jdk_42_method_155_code 5 = .ok (.invokestatic 1059, 3) := by decide +kernel
theorem pd_5 : parseMethodDescriptor "(IILjava/util/function/BiFunction;)I" = some ⟨[.int, .int, (.object "java/util/function/BiFunction")], some .int⟩ := by decide +kernel
theorem d_jdk_42_155_8 : decode jdk_42_method_155_code 8 = .ok (.pop, 1) := by decide +kernel
theorem d_jdk_42_155_9 : decode jdk_42_method_155_code 9 = .ok (.return_, 1) := by decide +kernel
theorem ef_11 (m : MethodId) (i : Int32) (n : Int32) : entryFrame m #[(.int i), (.int n)] 2 = mkF m 0 #[iv i, iv n] [] := by first | (simp [entryFrame, mkF, argsToLocals, Value.category]; done) | rfl
abbrev ym_10 : MethodName := ⟨"java/lang/String", "checkIndex", "(II)V"⟩
def Q_rm_ci (Z : State) (i : Int32) (n : Int32) (fm : Value) (h0 : Heap) (n0 : Nat) (vv : Option Value) (h : Heap) (LL : List Loc) : Prop := vv = none ∧ Fr n0 LL ∧ h = h0
set_option maxRecDepth 65536 in
set_option maxHeartbeats 40000000 in
theorem rm_ci (l : Launch) (Z : State) (a0 : Array Value) (hw : ∀ d ∈ tables_1, d.before a0 Z = true) (ws : List Jvm.Cond) (i : Int32) (n : Int32) (fm : Value) (h0 : Heap) (n0 : Nat) (Z0 : n0 ≤ h0.size) (h1 : ¬ (i < (0 : Int32))) (h2 : i < n) (rf : fm.isRef = true) (O0 : Old Z n0 h0) (S_SIOOBE_FORMATTER : Sta Z Z.heap "jdk/internal/util/Preconditions" "SIOOBE_FORMATTER" "Ljava/util/function/BiFunction;" fm) :
    own_MF l ym_10 jdk_42_method_155_code 2 none ⟨1, 0, 0, 14⟩ ws Z #[(.int i), (.int n)] h0 (Q_rm_ci Z i n fm h0 n0) := by
  refine own_begin (plainFor_of_name pn_1) (fun m => ef_11 m i n) ?_
  intro p e s m below meth c s₁ hret hx hby hml hown hnm hlk X0 e0 hh hZ
  have N0 := Fr.nil n0
  rcases ref_cases rf with hfm | ⟨af, hfm⟩
  · rw [hfm] at S_SIOOBE_FORMATTER
    refine og s₁ (mkF m 1 #[iv i, iv n] [(.int i)]) (fun t_ k_ => XS.iloadN X0.here hx rfl (hb hby d_jdk_42_155_0) rfl k_) ?_
    refine og s₁ (mkF m 2 #[iv i, iv n] [(.int n), (.int i)]) (fun t_ k_ => XS.iloadN X0.here hx rfl (hb hby d_jdk_42_155_1) rfl k_) ?_
    obtain ⟨T1, X1, e1, st1⟩ := getS2 X0 hx hZ hown (host := "") (Or.inl (own_w hw 144 rfl)) Via.refl e0 (S_SIOOBE_FORMATTER.ext O0.2) (g := (mkF m 2 #[iv i, iv n] [(.int n), (.int i)])) rfl (hb hby d_jdk_42_155_2)
    refine og T1 (mkF m 5 #[iv i, iv n] [.null, (.int n), (.int i)]) (fun t_ k_ => st1 _ k_) ?_
    obtain ⟨_, _, ⟨T2, L2, k2, n2⟩, -, X2, ⟨Lc2, hQ2, l2, y2, z2⟩, st2⟩ := Jvm.LawKit.callS X1 hx (y := ym_9) hown (mvT hZ (own_w hw 146 rfl)) (mvT hZ (own_w hw 147 rfl)) (mvT hZ (own_w hw 145 rfl)) (mvT hZ (own_w hw 148 rfl)) (by decide) (backOf (W := 0) (rm_pcin l Z a0 hw [] i n h0 n0 (show n0 ≤ h0.size by omega) h1 h2) hZ (own_w hw 148 rfl) (own_w hw 145 rfl) (by decide) (by decide)) (g := (mkF m 5 #[iv i, iv n] [.null, (.int n), (.int i)])) rfl (by rw [hml]; rfl) (argsL := [(.int i), (.int n), .null]) (rest := []) (lenOf pd_5 rfl) rfl (by show 2 * 0 + _ ≤ _; exact Nat.le_of_eq rfl) (hb hby d_jdk_42_155_5) (fun _ _ => ⟨rfl, e1, (by decide : 0 + 0 ≤ _), (by decide : 0 + 0 ≤ _)⟩)
    dsimp only [Pt.U, Pt.locs, Pt.cells, Pt.slots] at X2 l2 y2 z2 st2 hQ2
    replace l2 := l2.symm; replace y2 := y2.symm; replace z2 := z2.symm; subst l2 y2 z2
    obtain ⟨rfl, M2, e2⟩ := hQ2
    have N2 := Fr.app N0 M2
    refine og T2 (mkF m 8 #[iv i, iv n] [(.int i)]) (fun t_ k_ => st2 _ k_) ?_
    refine og T2 (mkF m 9 #[iv i, iv n] []) (fun t_ k_ => XS.pop X2.here hx rfl (hb hby d_jdk_42_155_8) rfl rfl k_) ?_
    exact own_out X2 (v := none) (fun _ => rfl) hlk (fun fs hr => X2.returnOut hx hret (hb hby d_jdk_42_155_9) hr) (Q := Q_rm_ci Z i n fm h0 n0) (by rw [e2]; exact ⟨rfl, N2, rfl⟩) (by decide) (by decide)
  · rw [hfm] at S_SIOOBE_FORMATTER
    refine og s₁ (mkF m 1 #[iv i, iv n] [(.int i)]) (fun t_ k_ => XS.iloadN X0.here hx rfl (hb hby d_jdk_42_155_0) rfl k_) ?_
    refine og s₁ (mkF m 2 #[iv i, iv n] [(.int n), (.int i)]) (fun t_ k_ => XS.iloadN X0.here hx rfl (hb hby d_jdk_42_155_1) rfl k_) ?_
    obtain ⟨T3, X3, e3, st3⟩ := getS2 X0 hx hZ hown (host := "") (Or.inl (own_w hw 144 rfl)) Via.refl e0 (S_SIOOBE_FORMATTER.ext O0.2) (g := (mkF m 2 #[iv i, iv n] [(.int n), (.int i)])) rfl (hb hby d_jdk_42_155_2)
    refine og T3 (mkF m 5 #[iv i, iv n] [(.ref af), (.int n), (.int i)]) (fun t_ k_ => st3 _ k_) ?_
    obtain ⟨_, _, ⟨T4, L4, k4, n4⟩, -, X4, ⟨Lc4, hQ4, l4, y4, z4⟩, st4⟩ := Jvm.LawKit.callS X3 hx (y := ym_9) hown (mvT hZ (own_w hw 146 rfl)) (mvT hZ (own_w hw 147 rfl)) (mvT hZ (own_w hw 145 rfl)) (mvT hZ (own_w hw 148 rfl)) (by decide) (backOf (W := 0) (rm_pcir l Z a0 hw [] i n af h0 n0 (show n0 ≤ h0.size by omega) h1 h2) hZ (own_w hw 148 rfl) (own_w hw 145 rfl) (by decide) (by decide)) (g := (mkF m 5 #[iv i, iv n] [(.ref af), (.int n), (.int i)])) rfl (by rw [hml]; rfl) (argsL := [(.int i), (.int n), (.ref af)]) (rest := []) (lenOf pd_5 rfl) rfl (by show 2 * 0 + _ ≤ _; exact Nat.le_of_eq rfl) (hb hby d_jdk_42_155_5) (fun _ _ => ⟨rfl, e3, (by decide : 0 + 0 ≤ _), (by decide : 0 + 0 ≤ _)⟩)
    dsimp only [Pt.U, Pt.locs, Pt.cells, Pt.slots] at X4 l4 y4 z4 st4 hQ4
    replace l4 := l4.symm; replace y4 := y4.symm; replace z4 := z4.symm; subst l4 y4 z4
    obtain ⟨rfl, M4, e4⟩ := hQ4
    have N4 := Fr.app N0 M4
    refine og T4 (mkF m 8 #[iv i, iv n] [(.int i)]) (fun t_ k_ => st4 _ k_) ?_
    refine og T4 (mkF m 9 #[iv i, iv n] []) (fun t_ k_ => XS.pop X4.here hx rfl (hb hby d_jdk_42_155_8) rfl rfl k_) ?_
    exact own_out X4 (v := none) (fun _ => rfl) hlk (fun fs hr => X4.returnOut hx hret (hb hby d_jdk_42_155_9) hr) (Q := Q_rm_ci Z i n fm h0 n0) (by rw [e4]; exact ⟨rfl, N4, rfl⟩) (by decide) (by decide)
theorem d_jdk_43_44_0 : decode jdk_43_method_44_code 0 = .ok (.aload_n 0, 1) := by decide +kernel
theorem d_jdk_43_44_1 : decode jdk_43_method_44_code 1 = .ok (.iload_n 1, 1) := by decide +kernel
theorem d_jdk_43_44_2 : decode jdk_43_method_44_code 2 = .ok (.baload, 1) := by decide +kernel
theorem d_jdk_43_44_3 : decode jdk_43_method_44_code 3 = .ok (.sipush 255, 3) := by decide +kernel
theorem d_jdk_43_44_6 : decode jdk_43_method_44_code 6 = .ok (.iand, 1) := by decide +kernel
theorem d_jdk_43_44_7 : decode jdk_43_method_44_code 7 = .ok (.i2c, 1) := by decide +kernel
theorem d_jdk_43_44_8 : decode jdk_43_method_44_code 8 = .ok (.ireturn, 1) := by decide +kernel
theorem ef_12 (m : MethodId) (a : Nat) : entryFrame m #[(.ref a), (.int 0)] 2 = mkF m 0 #[rv a, iv 0] [] := by first | (simp [entryFrame, mkF, argsToLocals, Value.category]; done) | rfl
abbrev ym_11 : MethodName := ⟨"java/lang/StringLatin1", "getChar", "([BI)C"⟩
def Q_rm_lgc (Z : State) (a : Nat) (ch : Int32) (k_a : ClassId) (h0 : Heap) (n0 : Nat) (vv : Option Value) (h : Heap) (LL : List Loc) : Prop := vv = some (.int ch) ∧ Fr n0 LL ∧ h = h0
set_option maxRecDepth 65536 in
set_option maxHeartbeats 40000000 in
theorem rm_lgc (l : Launch) (Z : State) (a0 : Array Value) (hw : ∀ d ∈ tables_1, d.before a0 Z = true) (ws : List Jvm.Cond) (a : Nat) (ch : Int32) (k_a : ClassId) (h0 : Heap) (n0 : Nat) (Z0 : n0 ≤ h0.size) (hv : own_Vis ch) (V_a : Arv Z h0 a k_a .byte (1 : Int32) [(.int ch.toInt8.toInt32)] (.int (0 : Int32))) :
    own_MF l ym_11 jdk_43_method_44_code 2 (some .char) ⟨0, 0, 0, 0⟩ ws Z #[(.ref a), (.int 0)] h0 (Q_rm_lgc Z a ch k_a h0 n0) := by
  refine own_begin (plainFor_of_name pn_0) (fun m => ef_12 m a) ?_
  intro p e s m below meth c s₁ hret hx hby hml hown hnm hlk X0 e0 hh hZ
  have N0 := Fr.nil n0
  have lt_V_a := own_ltN V_a.lt
  refine og s₁ (mkF m 1 #[rv a, iv 0] [(.ref a)]) (fun t_ k_ => XS.aloadN X0.here hx rfl (hb hby d_jdk_43_44_0) rfl rfl k_) ?_
  refine og s₁ (mkF m 2 #[rv a, iv 0] [(.int 0), (.ref a)]) (fun t_ k_ => XS.iloadN X0.here hx rfl (hb hby d_jdk_43_44_1) rfl k_) ?_
  obtain ⟨cl1, Ar1, -, S1, Nn1, H1, -⟩ := id V_a
  have hin1 : ¬ ((0 : Int32) < 0 ∨ cl1.slots.size ≤ ((0 : Int32)).toNatClampNeg) := inb_of S1 ⟨by decide, by decide⟩
  refine og s₁ (mkF m 3 #[rv a, iv 0] [(.int ch.toInt8.toInt32)]) (fun t_ k_ => X0.baloadBytes hx (j := (0 : Int32)) (v := (.int ch.toInt8.toInt32)) (by rw [e0]; exact Ar1.1) (State.isArrayOf_alike hZ.alike Ar1.2.1) Ar1.2.2 hin1 (H1.at hin1 rfl) (g := (mkF m 2 #[rv a, iv 0] [(.int 0), (.ref a)])) rfl rfl (hb hby d_jdk_43_44_2) _ k_) ?_
  refine og s₁ (mkF m 6 #[rv a, iv 0] [(.int 255), (.int ch.toInt8.toInt32)]) (fun t_ k_ => XS.sipush X0.here hx rfl (hb hby d_jdk_43_44_3) k_) ?_
  refine og s₁ (mkF m 7 #[rv a, iv 0] [(.int (ch.toInt8.toInt32 &&& (255 : Int32)))]) (fun t_ k_ => XS.iand X0.here hx rfl (hb hby d_jdk_43_44_6) rfl k_) ?_
  refine og s₁ (mkF m 8 #[rv a, iv 0] [(.int ((ch.toInt8.toInt32 &&& (255 : Int32)).toUInt32.toUInt16.toUInt32.toInt32))]) (fun t_ k_ => XS.i2c X0.here hx rfl (hb hby d_jdk_43_44_7) rfl k_) ?_
  exact own_out X0 (v := some (.int (nar .char ((ch.toInt8.toInt32 &&& (255 : Int32)).toUInt32.toUInt16.toUInt32.toInt32)))) (fun h => by rw [hret] at h; cases h) hlk (fun fs hr => retN X0 hx (t := .char) hret (by simp) (hb hby d_jdk_43_44_8) hr) (Q := Q_rm_lgc Z a ch k_a h0 n0) (by rw [e0]; exact ⟨(congrArg (fun z => some (Value.int z)) ((own_narc16 (own_i2cr _)).trans (own_lat hv.lat.1 hv.lat.2))), N0, rfl⟩) (by decide) (by decide)
theorem d_jdk_43_2_0 : decode jdk_43_method_2_code 0 = .ok (.iload_n 1, 1) := by decide +kernel
theorem d_jdk_43_2_1 : decode jdk_43_method_2_code 1 = .ok (.aload_n 0, 1) := by decide +kernel
theorem d_jdk_43_2_2 : decode jdk_43_method_2_code 2 = .ok (.arraylength, 1) := by decide +kernel
theorem d_jdk_43_2_3 : decode jdk_43_method_2_code 3 = .ok (.invokestatic 9, 3) := by decide +kernel
theorem pd_6 : parseMethodDescriptor "(II)V" = some ⟨[.int, .int], none⟩ := by decide +kernel
theorem d_jdk_43_2_6 : decode jdk_43_method_2_code 6 = .ok (.aload_n 0, 1) := by decide +kernel
theorem d_jdk_43_2_7 : decode jdk_43_method_2_code 7 = .ok (.iload_n 1, 1) := by decide +kernel
theorem d_jdk_43_2_8 : decode jdk_43_method_2_code 8 = .ok (.baload, 1) := by decide +kernel
theorem d_jdk_43_2_9 : decode jdk_43_method_2_code 9 = .ok (.sipush 255, 3) := by decide +kernel
theorem d_jdk_43_2_12 : decode jdk_43_method_2_code 12 = .ok (.iand, 1) := by decide +kernel
theorem d_jdk_43_2_13 : decode jdk_43_method_2_code 13 = .ok (.i2c, 1) := by decide +kernel
theorem d_jdk_43_2_14 : decode jdk_43_method_2_code 14 = .ok (.ireturn, 1) := by decide +kernel
theorem ef_13 (m : MethodId) (a : Nat) : entryFrame m #[(.ref a), (.int 0)] 2 = mkF m 0 #[rv a, iv 0] [] := by first | (simp [entryFrame, mkF, argsToLocals, Value.category]; done) | rfl
abbrev ym_12 : MethodName := ⟨"java/lang/StringLatin1", "charAt", "([BI)C"⟩
def Q_rm_lca (Z : State) (a : Nat) (ch : Int32) (k_a : ClassId) (fm : Value) (h0 : Heap) (n0 : Nat) (vv : Option Value) (h : Heap) (LL : List Loc) : Prop := vv = some (.int ch) ∧ Fr n0 LL ∧ h = h0
set_option maxRecDepth 65536 in
set_option maxHeartbeats 40000000 in
theorem rm_lca (l : Launch) (Z : State) (a0 : Array Value) (hw : ∀ d ∈ tables_1, d.before a0 Z = true) (ws : List Jvm.Cond) (a : Nat) (ch : Int32) (k_a : ClassId) (fm : Value) (h0 : Heap) (n0 : Nat) (Z0 : n0 ≤ h0.size) (hv : own_Vis ch) (V_a : Arv Z h0 a k_a .byte (1 : Int32) [(.int ch.toInt8.toInt32)] (.int (0 : Int32))) (rf : fm.isRef = true) (O0 : Old Z n0 h0) (S_SIOOBE_FORMATTER : Sta Z Z.heap "jdk/internal/util/Preconditions" "SIOOBE_FORMATTER" "Ljava/util/function/BiFunction;" fm) :
    own_MF l ym_12 jdk_43_method_2_code 2 (some .char) ⟨2, 0, 0, 27⟩ ws Z #[(.ref a), (.int 0)] h0 (Q_rm_lca Z a ch k_a fm h0 n0) := by
  refine own_begin (plainFor_of_name pn_0) (fun m => ef_13 m a) ?_
  intro p e s m below meth c s₁ hret hx hby hml hown hnm hlk X0 e0 hh hZ
  have N0 := Fr.nil n0
  have lt_V_a := own_ltN V_a.lt
  refine og s₁ (mkF m 1 #[rv a, iv 0] [(.int 0)]) (fun t_ k_ => XS.iloadN X0.here hx rfl (hb hby d_jdk_43_2_0) rfl k_) ?_
  refine og s₁ (mkF m 2 #[rv a, iv 0] [(.ref a), (.int 0)]) (fun t_ k_ => XS.aloadN X0.here hx rfl (hb hby d_jdk_43_2_1) rfl rfl k_) ?_
  obtain ⟨cl1, Ar1, -, S1, Nn1, -, -⟩ := id V_a
  refine og s₁ (mkF m 3 #[rv a, iv 0] [(.int 1), (.int 0)]) (fun t_ k_ => X0.arraylength hx (by rw [e0]; exact Ar1.1) (State.isArrayOf_alike hZ.alike Ar1.2.1) (g := (mkF m 2 #[rv a, iv 0] [(.ref a), (.int 0)])) rfl rfl (hb hby d_jdk_43_2_2) _ (by rw [len_of S1 Nn1]; exact k_)) ?_
  obtain ⟨_, _, ⟨T2, L2, k2, n2⟩, -, X2, ⟨Lc2, hQ2, l2, y2, z2⟩, st2⟩ := Jvm.LawKit.callS X0 hx (y := ym_10) hown (mvT hZ (own_w hw 141 rfl)) (mvT hZ (own_w hw 142 rfl)) (mvT hZ (own_w hw 2 rfl)) (mvT hZ (own_w hw 143 rfl)) (by decide) (backOf (W := 0) (rm_ci l Z a0 hw [] (0 : Int32) (1 : Int32) fm h0 n0 (show n0 ≤ h0.size by omega) (by decide) (by decide) rf O0 S_SIOOBE_FORMATTER) hZ (own_w hw 143 rfl) (own_w hw 2 rfl) (by decide) (by decide)) (g := (mkF m 3 #[rv a, iv 0] [(.int 1), (.int 0)])) rfl (by rw [hml]; rfl) (argsL := [(.int 0), (.int 1)]) (rest := []) (lenOf pd_6 rfl) rfl (by show 2 * 0 + _ ≤ _; exact Nat.le_of_eq rfl) (hb hby d_jdk_43_2_3) (fun _ _ => ⟨rfl, e0, (by decide : 0 + 0 ≤ _), (by decide : 0 + 0 ≤ _)⟩)
  dsimp only [Pt.U, Pt.locs, Pt.cells, Pt.slots] at X2 l2 y2 z2 st2 hQ2
  replace l2 := l2.symm; replace y2 := y2.symm; replace z2 := z2.symm; subst l2 y2 z2
  obtain ⟨rfl, M2, e2⟩ := hQ2
  have N2 := Fr.app N0 M2
  refine og T2 (mkF m 6 #[rv a, iv 0] []) (fun t_ k_ => st2 _ k_) ?_
  refine og T2 (mkF m 7 #[rv a, iv 0] [(.ref a)]) (fun t_ k_ => XS.aloadN X2.here hx rfl (hb hby d_jdk_43_2_6) rfl rfl k_) ?_
  refine og T2 (mkF m 8 #[rv a, iv 0] [(.int 0), (.ref a)]) (fun t_ k_ => XS.iloadN X2.here hx rfl (hb hby d_jdk_43_2_7) rfl k_) ?_
  obtain ⟨cl3, Ar3, -, S3, Nn3, H3, -⟩ := id V_a
  have hin3 : ¬ ((0 : Int32) < 0 ∨ cl3.slots.size ≤ ((0 : Int32)).toNatClampNeg) := inb_of S3 ⟨by decide, by decide⟩
  refine og T2 (mkF m 9 #[rv a, iv 0] [(.int ch.toInt8.toInt32)]) (fun t_ k_ => X2.baloadBytes hx (j := (0 : Int32)) (v := (.int ch.toInt8.toInt32)) (by rw [e2]; exact Ar3.1) (State.isArrayOf_alike hZ.alike Ar3.2.1) Ar3.2.2 hin3 (H3.at hin3 rfl) (g := (mkF m 8 #[rv a, iv 0] [(.int 0), (.ref a)])) rfl rfl (hb hby d_jdk_43_2_8) _ k_) ?_
  refine og T2 (mkF m 12 #[rv a, iv 0] [(.int 255), (.int ch.toInt8.toInt32)]) (fun t_ k_ => XS.sipush X2.here hx rfl (hb hby d_jdk_43_2_9) k_) ?_
  refine og T2 (mkF m 13 #[rv a, iv 0] [(.int (ch.toInt8.toInt32 &&& (255 : Int32)))]) (fun t_ k_ => XS.iand X2.here hx rfl (hb hby d_jdk_43_2_12) rfl k_) ?_
  refine og T2 (mkF m 14 #[rv a, iv 0] [(.int ((ch.toInt8.toInt32 &&& (255 : Int32)).toUInt32.toUInt16.toUInt32.toInt32))]) (fun t_ k_ => XS.i2c X2.here hx rfl (hb hby d_jdk_43_2_13) rfl k_) ?_
  exact own_out X2 (v := some (.int (nar .char ((ch.toInt8.toInt32 &&& (255 : Int32)).toUInt32.toUInt16.toUInt32.toInt32)))) (fun h => by rw [hret] at h; cases h) hlk (fun fs hr => retN X2 hx (t := .char) hret (by simp) (hb hby d_jdk_43_2_14) hr) (Q := Q_rm_lca Z a ch k_a fm h0 n0) (by rw [e2]; exact ⟨(congrArg (fun z => some (Value.int z)) ((own_narc16 (own_i2cr _)).trans (own_lat hv.lat.1 hv.lat.2))), N2, rfl⟩) (by decide) (by decide)
theorem d_jdk_42_154_0 : decode jdk_42_method_154_code 0 = .ok (.getstatic 38, 3) := by decide +kernel
theorem d_jdk_42_154_3 : decode jdk_42_method_154_code 3 = .ok (.ifCond .eq 14, 3) := by decide +kernel
theorem d_jdk_42_154_6 : decode jdk_42_method_154_code 6 = .ok (.aload_n 0, 1) := by decide +kernel
theorem d_jdk_42_154_7 : decode jdk_42_method_154_code 7 = .ok (.getfield 15, 3) := by decide +kernel
theorem d_jdk_42_154_10 : decode jdk_42_method_154_code 10 = .ok (.ifCond .ne 7, 3) := by decide +kernel
theorem d_jdk_42_154_13 : decode jdk_42_method_154_code 13 = .ok (.iconst 1, 1) := by decide +kernel
theorem d_jdk_42_154_14 : decode jdk_42_method_154_code 14 = .ok (.goto 4, 3) := by decide +kernel
theorem d_jdk_42_154_18 : decode jdk_42_method_154_code 18 = .ok (.ireturn, 1) := by decide +kernel
theorem ef_14 (m : MethodId) (a : Nat) : entryFrame m #[(.ref a)] 1 = mkF m 0 #[rv a] [] := by first | (simp [entryFrame, mkF, argsToLocals, Value.category]; done) | rfl
abbrev ym_13 : MethodName := ⟨"java/lang/String", "isLatin1", "()Z"⟩
def Q_rm_isl (Z : State) (a : Nat) (cz : Int32) (h0 : Heap) (n0 : Nat) (vv : Option Value) (h : Heap) (LL : List Loc) : Prop := vv = some (.int 1) ∧ Fr n0 LL ∧ h = h0
set_option maxRecDepth 65536 in
set_option maxHeartbeats 40000000 in
theorem rm_isl (l : Launch) (Z : State) (a0 : Array Value) (hw : ∀ d ∈ tables_1, d.before a0 Z = true) (ws : List Jvm.Cond) (a : Nat) (cz : Int32) (h0 : Heap) (n0 : Nat) (Z0 : n0 ≤ h0.size) (F_coder_a : Fld Z h0 a "java/lang/String" "coder" "B" (.int 0)) (O0 : Old Z n0 h0) (S_COMPACT_STRINGS : Sta Z Z.heap "java/lang/String" "COMPACT_STRINGS" "Z" (.int cz)) (hcz : ¬ cz = (0 : Int32)) (E_a : Exa Z h0 a "java/lang/String") :
    own_MF l ym_13 jdk_42_method_154_code 1 (some .boolean) ⟨0, 0, 0, 0⟩ ws Z #[(.ref a)] h0 (Q_rm_isl Z a cz h0 n0) := by
  refine own_begin (plainFor_of_name pn_1) (fun m => ef_14 m a) ?_
  intro p e s m below meth c s₁ hret hx hby hml hown hnm hlk X0 e0 hh hZ
  have N0 := Fr.nil n0
  have lt_F_coder_a := own_ltN F_coder_a.lt
  have lt_E_a := own_ltN E_a.lt
  obtain ⟨T1, X1, e1, st1⟩ := getS2 X0 hx hZ hown (host := "") (Or.inl (own_w hw 4 rfl)) Via.refl e0 (S_COMPACT_STRINGS.ext O0.2) (g := (mkF m 0 #[rv a] [])) rfl (hb hby d_jdk_42_154_0)
  refine og T1 (mkF m 3 #[rv a] [(.int cz)]) (fun t_ k_ => st1 _ k_) ?_
  refine og T1 (mkF m 6 #[rv a] []) (fun t_ k_ => XS.ifNo X1.here hx rfl (hb hby d_jdk_42_154_3) rfl ((if0 _ _).trans (feq hcz).1) k_) ?_
  refine og T1 (mkF m 7 #[rv a] [(.ref a)]) (fun t_ k_ => XS.aloadN X1.here hx rfl (hb hby d_jdk_42_154_6) rfl rfl k_) ?_
  obtain ⟨T2, X2, e2, st2⟩ := getF X1 hx hZ hown (host := "") (Or.inl (own_w hw 24 rfl)) Via.refl e1 F_coder_a (g := (mkF m 7 #[rv a] [(.ref a)])) rfl rfl (hb hby d_jdk_42_154_7)
  refine og T2 (mkF m 10 #[rv a] [(.int 0)]) (fun t_ k_ => st2 _ k_) ?_
  refine og T2 (mkF m 13 #[rv a] []) (fun t_ k_ => XS.ifNo X2.here hx rfl (hb hby d_jdk_42_154_10) rfl ((if0 _ _).trans (teq (by decide)).2) k_) ?_
  refine og T2 (mkF m 14 #[rv a] [(.int 1)]) (fun t_ k_ => XS.iconst X2.here hx rfl (hb hby d_jdk_42_154_13) k_) ?_
  refine og T2 (mkF m 18 #[rv a] [(.int 1)]) (fun t_ k_ => XS.goto X2.here hx rfl (pc0 := 14) (pc' := 18) rfl (hb hby d_jdk_42_154_14) (by decide) (by decide) k_) ?_
  exact own_out X2 (v := some (.int (nar .boolean (1 : Int32)))) (fun h => by rw [hret] at h; cases h) hlk (fun fs hr => retN X2 hx (t := .boolean) hret (by simp) (hb hby d_jdk_42_154_18) hr) (Q := Q_rm_isl Z a cz h0 n0) (by rw [e2]; exact ⟨rfl, N0, rfl⟩) (by decide) (by decide)
theorem d_jdk_42_152_0 : decode jdk_42_method_152_code 0 = .ok (.getstatic 38, 3) := by decide +kernel
theorem d_jdk_42_152_3 : decode jdk_42_method_152_code 3 = .ok (.ifCond .eq 10, 3) := by decide +kernel
theorem d_jdk_42_152_6 : decode jdk_42_method_152_code 6 = .ok (.aload_n 0, 1) := by decide +kernel
theorem d_jdk_42_152_7 : decode jdk_42_method_152_code 7 = .ok (.getfield 15, 3) := by decide +kernel
theorem d_jdk_42_152_10 : decode jdk_42_method_152_code 10 = .ok (.goto 4, 3) := by decide +kernel
theorem d_jdk_42_152_14 : decode jdk_42_method_152_code 14 = .ok (.ireturn, 1) := by decide +kernel
theorem ef_15 (m : MethodId) (a : Nat) : entryFrame m #[(.ref a)] 1 = mkF m 0 #[rv a] [] := by first | (simp [entryFrame, mkF, argsToLocals, Value.category]; done) | rfl
abbrev ym_14 : MethodName := ⟨"java/lang/String", "coder", "()B"⟩
def Q_rm_cod (Z : State) (a : Nat) (cz : Int32) (h0 : Heap) (n0 : Nat) (vv : Option Value) (h : Heap) (LL : List Loc) : Prop := vv = some (.int 0) ∧ Fr n0 LL ∧ h = h0
set_option maxRecDepth 65536 in
set_option maxHeartbeats 40000000 in
theorem rm_cod (l : Launch) (Z : State) (a0 : Array Value) (hw : ∀ d ∈ tables_1, d.before a0 Z = true) (ws : List Jvm.Cond) (a : Nat) (cz : Int32) (h0 : Heap) (n0 : Nat) (Z0 : n0 ≤ h0.size) (F_coder_a : Fld Z h0 a "java/lang/String" "coder" "B" (.int 0)) (O0 : Old Z n0 h0) (S_COMPACT_STRINGS : Sta Z Z.heap "java/lang/String" "COMPACT_STRINGS" "Z" (.int cz)) (hcz : ¬ cz = (0 : Int32)) :
    own_MF l ym_14 jdk_42_method_152_code 1 (some .byte) ⟨0, 0, 0, 0⟩ ws Z #[(.ref a)] h0 (Q_rm_cod Z a cz h0 n0) := by
  refine own_begin (plainFor_of_name pn_1) (fun m => ef_15 m a) ?_
  intro p e s m below meth c s₁ hret hx hby hml hown hnm hlk X0 e0 hh hZ
  have N0 := Fr.nil n0
  have lt_F_coder_a := own_ltN F_coder_a.lt
  obtain ⟨T1, X1, e1, st1⟩ := getS2 X0 hx hZ hown (host := "") (Or.inl (own_w hw 4 rfl)) Via.refl e0 (S_COMPACT_STRINGS.ext O0.2) (g := (mkF m 0 #[rv a] [])) rfl (hb hby d_jdk_42_152_0)
  refine og T1 (mkF m 3 #[rv a] [(.int cz)]) (fun t_ k_ => st1 _ k_) ?_
  refine og T1 (mkF m 6 #[rv a] []) (fun t_ k_ => XS.ifNo X1.here hx rfl (hb hby d_jdk_42_152_3) rfl ((if0 _ _).trans (feq hcz).1) k_) ?_
  refine og T1 (mkF m 7 #[rv a] [(.ref a)]) (fun t_ k_ => XS.aloadN X1.here hx rfl (hb hby d_jdk_42_152_6) rfl rfl k_) ?_
  obtain ⟨T2, X2, e2, st2⟩ := getF X1 hx hZ hown (host := "") (Or.inl (own_w hw 24 rfl)) Via.refl e1 F_coder_a (g := (mkF m 7 #[rv a] [(.ref a)])) rfl rfl (hb hby d_jdk_42_152_7)
  refine og T2 (mkF m 10 #[rv a] [(.int 0)]) (fun t_ k_ => st2 _ k_) ?_
  refine og T2 (mkF m 14 #[rv a] [(.int 0)]) (fun t_ k_ => XS.goto X2.here hx rfl (pc0 := 10) (pc' := 14) rfl (hb hby d_jdk_42_152_10) (by decide) (by decide) k_) ?_
  exact own_out X2 (v := some (.int (nar .byte (0 : Int32)))) (fun h => by rw [hret] at h; cases h) hlk (fun fs hr => retN X2 hx (t := .byte) hret (by simp) (hb hby d_jdk_42_152_14) hr) (Q := Q_rm_cod Z a cz h0 n0) (by rw [e2]; exact ⟨rfl, N0, rfl⟩) (by decide) (by decide)
theorem d_jdk_42_54_0 : decode jdk_42_method_54_code 0 = .ok (.aload_n 0, 1) := by decide +kernel
theorem d_jdk_42_54_1 : decode jdk_42_method_54_code 1 = .ok (.getfield 9, 3) := by decide +kernel
theorem d_jdk_42_54_4 : decode jdk_42_method_54_code 4 = .ok (.arraylength, 1) := by decide +kernel
theorem d_jdk_42_54_5 : decode jdk_42_method_54_code 5 = .ok (.aload_n 0, 1) := by decide +kernel
theorem d_jdk_42_54_6 : decode jdk_42_method_54_code 6 = .ok (.invokevirtual 335, 3) := by decide +kernel
theorem pd_7 : parseMethodDescriptor "()B" = some ⟨[], some .byte⟩ := by decide +kernel
theorem d_jdk_42_54_9 : decode jdk_42_method_54_code 9 = .ok (.ishr, 1) := by decide +kernel
theorem d_jdk_42_54_10 : decode jdk_42_method_54_code 10 = .ok (.ireturn, 1) := by decide +kernel
theorem ef_16 (m : MethodId) (a : Nat) : entryFrame m #[(.ref a)] 1 = mkF m 0 #[rv a] [] := by first | (simp [entryFrame, mkF, argsToLocals, Value.category]; done) | rfl
abbrev ym_15 : MethodName := ⟨"java/lang/String", "length", "()I"⟩
def Q_rm_len (Z : State) (a : Nat) (ch : Int32) (t : Nat) (kt : ClassId) (cz : Int32) (h0 : Heap) (n0 : Nat) (vv : Option Value) (h : Heap) (LL : List Loc) : Prop := vv = some (.int 1) ∧ Fr n0 LL ∧ h = h0
set_option maxRecDepth 65536 in
set_option maxHeartbeats 40000000 in
theorem rm_len (l : Launch) (Z : State) (a0 : Array Value) (hw : ∀ d ∈ tables_1, d.before a0 Z = true) (ws : List Jvm.Cond) (a : Nat) (ch : Int32) (t : Nat) (kt : ClassId) (cz : Int32) (h0 : Heap) (n0 : Nat) (Z0 : n0 ≤ h0.size) (hv : own_Vis ch) (E_a : Exa Z h0 a "java/lang/String") (F_value_a : Fld Z h0 a "java/lang/String" "value" "[B" (.ref t)) (F_coder_a : Fld Z h0 a "java/lang/String" "coder" "B" (.int 0)) (V_t : Arv Z h0 t kt .byte (1 : Int32) [(.int ch.toInt8.toInt32)] (.int (0 : Int32))) (O0 : Old Z n0 h0) (S_COMPACT_STRINGS : Sta Z Z.heap "java/lang/String" "COMPACT_STRINGS" "Z" (.int cz)) (hcz : ¬ cz = (0 : Int32)) :
    own_MF l ym_15 jdk_42_method_54_code 1 (some .int) ⟨1, 0, 0, 13⟩ ws Z #[(.ref a)] h0 (Q_rm_len Z a ch t kt cz h0 n0) := by
  refine own_begin (plainFor_of_name pn_1) (fun m => ef_16 m a) ?_
  intro p e s m below meth c s₁ hret hx hby hml hown hnm hlk X0 e0 hh hZ
  have N0 := Fr.nil n0
  have lt_E_a := own_ltN E_a.lt
  have lt_F_value_a := own_ltN F_value_a.lt
  have lt_F_coder_a := own_ltN F_coder_a.lt
  have lt_V_t := own_ltN V_t.lt
  refine og s₁ (mkF m 1 #[rv a] [(.ref a)]) (fun t_ k_ => XS.aloadN X0.here hx rfl (hb hby d_jdk_42_54_0) rfl rfl k_) ?_
  obtain ⟨T1, X1, e1, st1⟩ := getF X0 hx hZ hown (host := "") (Or.inl (own_w hw 22 rfl)) Via.refl e0 F_value_a (g := (mkF m 1 #[rv a] [(.ref a)])) rfl rfl (hb hby d_jdk_42_54_1)
  refine og T1 (mkF m 4 #[rv a] [(.ref t)]) (fun t_ k_ => st1 _ k_) ?_
  obtain ⟨cl2, Ar2, -, S2, Nn2, -, -⟩ := id V_t
  refine og T1 (mkF m 5 #[rv a] [(.int 1)]) (fun t_ k_ => X1.arraylength hx (by rw [e1]; exact Ar2.1) (State.isArrayOf_alike hZ.alike Ar2.2.1) (g := (mkF m 4 #[rv a] [(.ref t)])) rfl rfl (hb hby d_jdk_42_54_4) _ (by rw [len_of S2 Nn2]; exact k_)) ?_
  refine og T1 (mkF m 6 #[rv a] [(.ref a), (.int 1)]) (fun t_ k_ => XS.aloadN X1.here hx rfl (hb hby d_jdk_42_54_5) rfl rfl k_) ?_
  obtain ⟨cq3, kq3, q3a, q3b, q3c⟩ := isOf hZ e1 E_a
  obtain ⟨_, _, ⟨T3, L3, k3, n3⟩, -, X3, ⟨Lc3, hQ3, l3, y3, z3⟩, st3⟩ := X1.virtualBack hx (y := ym_14) (z := ym_14) hown (mvT hZ (own_w hw 127 rfl)) (mvT hZ (own_w hw 128 rfl)) (notFace_of_selects (args := #[]) (mvT hZ (own_w hw 130 rfl))) (mvT hZ (own_w hw 130 rfl)) (mvT hZ (own_w hw 129 rfl)) (by decide) (backOf (W := 1) (rm_cod l Z a0 hw [] a cz h0 n0 (show n0 ≤ h0.size by omega) F_coder_a O0 S_COMPACT_STRINGS hcz) hZ (own_w hw 131 rfl) (own_w hw 2 rfl) (by decide) (by decide)) q3a q3c (g := (mkF m 6 #[rv a] [(.ref a), (.int 1)])) rfl (by rw [hml]; rfl) (Steps.refl _) (argsL := []) (rest := [(.int 1)]) (lenOf pd_7 rfl) rfl (by show 2 * 0 + _ ≤ _; exact Nat.le_of_eq rfl) (hb hby d_jdk_42_54_6) (fun _ _ => ⟨rfl, e1, (by decide : 0 + 0 ≤ _), (by decide : 0 + 0 ≤ _)⟩)
  dsimp only [Pt.U, Pt.locs, Pt.cells, Pt.slots] at X3 l3 y3 z3 st3 hQ3
  replace l3 := l3.symm; replace y3 := y3.symm; replace z3 := z3.symm; subst l3 y3 z3
  obtain ⟨rfl, M3, e3⟩ := hQ3
  have N3 := Fr.app N0 M3
  refine og T3 (mkF m 9 #[rv a] [(.int 0), (.int 1)]) (fun t_ k_ => st3.trans k_) ?_
  refine og T3 (mkF m 10 #[rv a] [(.int 1)]) (fun t_ k_ => XS.ishr X3.here hx rfl (hb hby d_jdk_42_54_9) rfl k_) ?_
  exact own_out X3 (v := some (.int 1)) (fun h => by rw [hret] at h; cases h) hlk (fun fs hr => retI X3 hx hret (hb hby d_jdk_42_54_10) hr) (Q := Q_rm_len Z a ch t kt cz h0 n0) (by rw [e3]; exact ⟨rfl, N3, rfl⟩) (by decide) (by decide)
theorem d_jdk_42_56_0 : decode jdk_42_method_56_code 0 = .ok (.aload_n 0, 1) := by decide +kernel
theorem d_jdk_42_56_1 : decode jdk_42_method_56_code 1 = .ok (.invokevirtual 492, 3) := by decide +kernel
theorem pd_8 : parseMethodDescriptor "()Z" = some ⟨[], some .boolean⟩ := by decide +kernel
theorem d_jdk_42_56_4 : decode jdk_42_method_56_code 4 = .ok (.ifCond .eq 12, 3) := by decide +kernel
theorem d_jdk_42_56_7 : decode jdk_42_method_56_code 7 = .ok (.aload_n 0, 1) := by decide +kernel
theorem d_jdk_42_56_8 : decode jdk_42_method_56_code 8 = .ok (.getfield 9, 3) := by decide +kernel
theorem d_jdk_42_56_11 : decode jdk_42_method_56_code 11 = .ok (.iload_n 1, 1) := by decide +kernel
theorem d_jdk_42_56_12 : decode jdk_42_method_56_code 12 = .ok (.invokestatic 495, 3) := by decide +kernel
theorem pd_9 : parseMethodDescriptor "([BI)C" = some ⟨[(.array .byte), .int], some .char⟩ := by decide +kernel
theorem d_jdk_42_56_15 : decode jdk_42_method_56_code 15 = .ok (.ireturn, 1) := by decide +kernel
theorem ef_17 (m : MethodId) (a : Nat) : entryFrame m #[(.ref a), (.int 0)] 2 = mkF m 0 #[rv a, iv 0] [] := by first | (simp [entryFrame, mkF, argsToLocals, Value.category]; done) | rfl
abbrev ym_16 : MethodName := ⟨"java/lang/String", "charAt", "(I)C"⟩
def Q_rm_sca (Z : State) (a : Nat) (ch : Int32) (t : Nat) (kt : ClassId) (cz : Int32) (fm : Value) (h0 : Heap) (n0 : Nat) (vv : Option Value) (h : Heap) (LL : List Loc) : Prop := vv = some (.int ch) ∧ Fr n0 LL ∧ h = h0
set_option maxRecDepth 65536 in
set_option maxHeartbeats 40000000 in
theorem rm_sca (l : Launch) (Z : State) (a0 : Array Value) (hw : ∀ d ∈ tables_1, d.before a0 Z = true) (ws : List Jvm.Cond) (a : Nat) (ch : Int32) (t : Nat) (kt : ClassId) (cz : Int32) (fm : Value) (h0 : Heap) (n0 : Nat) (Z0 : n0 ≤ h0.size) (hv : own_Vis ch) (E_a : Exa Z h0 a "java/lang/String") (F_value_a : Fld Z h0 a "java/lang/String" "value" "[B" (.ref t)) (F_coder_a : Fld Z h0 a "java/lang/String" "coder" "B" (.int 0)) (V_t : Arv Z h0 t kt .byte (1 : Int32) [(.int ch.toInt8.toInt32)] (.int (0 : Int32))) (O0 : Old Z n0 h0) (S_COMPACT_STRINGS : Sta Z Z.heap "java/lang/String" "COMPACT_STRINGS" "Z" (.int cz)) (hcz : ¬ cz = (0 : Int32)) (rf : fm.isRef = true) (S_SIOOBE_FORMATTER : Sta Z Z.heap "jdk/internal/util/Preconditions" "SIOOBE_FORMATTER" "Ljava/util/function/BiFunction;" fm) :
    own_MF l ym_16 jdk_42_method_56_code 2 (some .char) ⟨3, 0, 0, 40⟩ ws Z #[(.ref a), (.int 0)] h0 (Q_rm_sca Z a ch t kt cz fm h0 n0) := by
  refine own_begin (plainFor_of_name pn_1) (fun m => ef_17 m a) ?_
  intro p e s m below meth c s₁ hret hx hby hml hown hnm hlk X0 e0 hh hZ
  have N0 := Fr.nil n0
  have lt_E_a := own_ltN E_a.lt
  have lt_F_value_a := own_ltN F_value_a.lt
  have lt_F_coder_a := own_ltN F_coder_a.lt
  have lt_V_t := own_ltN V_t.lt
  refine og s₁ (mkF m 1 #[rv a, iv 0] [(.ref a)]) (fun t_ k_ => XS.aloadN X0.here hx rfl (hb hby d_jdk_42_56_0) rfl rfl k_) ?_
  obtain ⟨cq1, kq1, q1a, q1b, q1c⟩ := isOf hZ e0 E_a
  obtain ⟨_, _, ⟨T1, L1, k1, n1⟩, -, X1, ⟨Lc1, hQ1, l1, y1, z1⟩, st1⟩ := X0.virtualBack hx (y := ym_13) (z := ym_13) hown (mvT hZ (own_w hw 98 rfl)) (mvT hZ (own_w hw 99 rfl)) (notFace_of_selects (args := #[]) (mvT hZ (own_w hw 101 rfl))) (mvT hZ (own_w hw 101 rfl)) (mvT hZ (own_w hw 100 rfl)) (by decide) (backOf (W := 0) (rm_isl l Z a0 hw [] a cz h0 n0 (show n0 ≤ h0.size by omega) F_coder_a O0 S_COMPACT_STRINGS hcz E_a) hZ (own_w hw 102 rfl) (own_w hw 2 rfl) (by decide) (by decide)) q1a q1c (g := (mkF m 1 #[rv a, iv 0] [(.ref a)])) rfl (by rw [hml]; rfl) (Steps.refl _) (argsL := []) (rest := []) (lenOf pd_8 rfl) rfl (by show 2 * 0 + _ ≤ _; exact Nat.le_of_eq rfl) (hb hby d_jdk_42_56_1) (fun _ _ => ⟨rfl, e0, (by decide : 0 + 0 ≤ _), (by decide : 0 + 0 ≤ _)⟩)
  dsimp only [Pt.U, Pt.locs, Pt.cells, Pt.slots] at X1 l1 y1 z1 st1 hQ1
  replace l1 := l1.symm; replace y1 := y1.symm; replace z1 := z1.symm; subst l1 y1 z1
  obtain ⟨rfl, M1, e1⟩ := hQ1
  have N1 := Fr.app N0 M1
  refine og T1 (mkF m 4 #[rv a, iv 0] [(.int 1)]) (fun t_ k_ => st1.trans k_) ?_
  refine og T1 (mkF m 7 #[rv a, iv 0] []) (fun t_ k_ => XS.ifNo X1.here hx rfl (hb hby d_jdk_42_56_4) rfl ((if0 _ _).trans (feq (by decide)).1) k_) ?_
  refine og T1 (mkF m 8 #[rv a, iv 0] [(.ref a)]) (fun t_ k_ => XS.aloadN X1.here hx rfl (hb hby d_jdk_42_56_7) rfl rfl k_) ?_
  obtain ⟨T2, X2, e2, st2⟩ := getF X1 hx hZ hown (host := "") (Or.inl (own_w hw 22 rfl)) Via.refl e1 F_value_a (g := (mkF m 8 #[rv a, iv 0] [(.ref a)])) rfl rfl (hb hby d_jdk_42_56_8)
  refine og T2 (mkF m 11 #[rv a, iv 0] [(.ref t)]) (fun t_ k_ => st2 _ k_) ?_
  refine og T2 (mkF m 12 #[rv a, iv 0] [(.int 0), (.ref t)]) (fun t_ k_ => XS.iloadN X2.here hx rfl (hb hby d_jdk_42_56_11) rfl k_) ?_
  obtain ⟨_, _, ⟨T3, L3, k3, n3⟩, -, X3, ⟨Lc3, hQ3, l3, y3, z3⟩, st3⟩ := Jvm.LawKit.callS X2 hx (y := ym_12) hown (mvT hZ (own_w hw 138 rfl)) (mvT hZ (own_w hw 139 rfl)) (mvT hZ (own_w hw 7 rfl)) (mvT hZ (own_w hw 140 rfl)) (by decide) (backOf (W := 0) (rm_lca l Z a0 hw [] t ch kt fm h0 n0 (show n0 ≤ h0.size by omega) hv V_t rf O0 S_SIOOBE_FORMATTER) hZ (own_w hw 140 rfl) (own_w hw 7 rfl) (by decide) (by decide)) (g := (mkF m 12 #[rv a, iv 0] [(.int 0), (.ref t)])) rfl (by rw [hml]; rfl) (argsL := [(.ref t), (.int 0)]) (rest := []) (lenOf pd_9 rfl) rfl (by show 2 * 0 + _ ≤ _; exact Nat.le_of_eq rfl) (hb hby d_jdk_42_56_12) (fun _ _ => ⟨rfl, e2, (by decide : 0 + 0 ≤ _), (by decide : 0 + 0 ≤ _)⟩)
  dsimp only [Pt.U, Pt.locs, Pt.cells, Pt.slots] at X3 l3 y3 z3 st3 hQ3
  replace l3 := l3.symm; replace y3 := y3.symm; replace z3 := z3.symm; subst l3 y3 z3
  obtain ⟨rfl, M3, e3⟩ := hQ3
  have N3 := Fr.app N1 M3
  refine og T3 (mkF m 15 #[rv a, iv 0] [(.int ch)]) (fun t_ k_ => st3 _ k_) ?_
  exact own_out X3 (v := some (.int (nar .char ch))) (fun h => by rw [hret] at h; cases h) hlk (fun fs hr => retN X3 hx (t := .char) hret (by simp) (hb hby d_jdk_42_56_15) hr) (Q := Q_rm_sca Z a ch t kt cz fm h0 n0) (by rw [e3]; exact ⟨(congrArg (fun z => some (Value.int z)) (own_narc16 hv.c16)), N3, rfl⟩) (by decide) (by decide)
theorem d_jdk_89_14_0 : decode jdk_89_method_14_code 0 = .ok (.iload_n 0, 1) := by decide +kernel
theorem d_jdk_89_14_1 : decode jdk_89_method_14_code 1 = .ok (.ldc 75, 2) := by decide +kernel
theorem d_jdk_89_14_3 : decode jdk_89_method_14_code 3 = .ok (.if_icmp .lt 13, 3) := by decide +kernel
theorem d_jdk_89_14_16 : decode jdk_89_method_14_code 16 = .ok (.iconst 0, 1) := by decide +kernel
theorem d_jdk_89_14_17 : decode jdk_89_method_14_code 17 = .ok (.ireturn, 1) := by decide +kernel
theorem pn_6 : plainName "java/lang/Character" = true := by first | (simp [plainName, overriddenIn]; done) | decide +kernel
theorem ef_18 (m : MethodId) (ch : Int32) : entryFrame m #[(.int ch)] 1 = mkF m 0 #[iv ch] [] := by first | (simp [entryFrame, mkF, argsToLocals, Value.category]; done) | rfl
abbrev ym_17 : MethodName := ⟨"java/lang/Character", "isHighSurrogate", "(C)Z"⟩
def Q_rm_his (Z : State) (ch : Int32) (h0 : Heap) (n0 : Nat) (vv : Option Value) (h : Heap) (LL : List Loc) : Prop := vv = some (.int 0) ∧ Fr n0 LL ∧ h = h0
set_option maxRecDepth 65536 in
set_option maxHeartbeats 40000000 in
theorem rm_his (l : Launch) (Z : State) (a0 : Array Value) (hw : ∀ d ∈ tables_1, d.before a0 Z = true) (ws : List Jvm.Cond) (ch : Int32) (h0 : Heap) (n0 : Nat) (Z0 : n0 ≤ h0.size) (hv : own_Vis ch) :
    own_MF l ym_17 jdk_89_method_14_code 1 (some .boolean) ⟨0, 0, 0, 0⟩ ws Z #[(.int ch)] h0 (Q_rm_his Z ch h0 n0) := by
  refine own_begin (plainFor_of_name pn_6) (fun m => ef_18 m ch) ?_
  intro p e s m below meth c s₁ hret hx hby hml hown hnm hlk X0 e0 hh hZ
  have N0 := Fr.nil n0
  refine og s₁ (mkF m 1 #[iv ch] [(.int ch)]) (fun t_ k_ => XS.iloadN X0.here hx rfl (hb hby d_jdk_89_14_0) rfl k_) ?_
  refine og s₁ (mkF m 3 #[iv ch] [(.int 55296), (.int ch)]) (fun t_ k_ => X0.ldcInt hx hown (mvT hZ (own_w hw 153 rfl)) (g := (mkF m 1 #[iv ch] [(.int ch)])) rfl (hb hby d_jdk_89_14_1) _ k_) ?_
  refine og s₁ (mkF m 16 #[iv ch] []) (fun t_ k_ => XS.icmpYes X0.here hx rfl (pc0 := 3) (pc' := 16) rfl (hb hby d_jdk_89_14_3) rfl (tlt (hv.ltK (by decide))).1 (by decide) (by decide) k_) ?_
  refine og s₁ (mkF m 17 #[iv ch] [(.int 0)]) (fun t_ k_ => XS.iconst X0.here hx rfl (hb hby d_jdk_89_14_16) k_) ?_
  exact own_out X0 (v := some (.int (nar .boolean (0 : Int32)))) (fun h => by rw [hret] at h; cases h) hlk (fun fs hr => retN X0 hx (t := .boolean) hret (by simp) (hb hby d_jdk_89_14_17) hr) (Q := Q_rm_his Z ch h0 n0) (by rw [e0]; exact ⟨rfl, N0, rfl⟩) (by decide) (by decide)
theorem d_jdk_89_15_0 : decode jdk_89_method_15_code 0 = .ok (.iload_n 0, 1) := by decide +kernel
theorem d_jdk_89_15_1 : decode jdk_89_method_15_code 1 = .ok (.ldc 76, 2) := by decide +kernel
theorem d_jdk_89_15_3 : decode jdk_89_method_15_code 3 = .ok (.if_icmp .lt 13, 3) := by decide +kernel
theorem d_jdk_89_15_16 : decode jdk_89_method_15_code 16 = .ok (.iconst 0, 1) := by decide +kernel
theorem d_jdk_89_15_17 : decode jdk_89_method_15_code 17 = .ok (.ireturn, 1) := by decide +kernel
theorem ef_19 (m : MethodId) (ch : Int32) : entryFrame m #[(.int ch)] 1 = mkF m 0 #[iv ch] [] := by first | (simp [entryFrame, mkF, argsToLocals, Value.category]; done) | rfl
abbrev ym_18 : MethodName := ⟨"java/lang/Character", "isLowSurrogate", "(C)Z"⟩
def Q_rm_los (Z : State) (ch : Int32) (h0 : Heap) (n0 : Nat) (vv : Option Value) (h : Heap) (LL : List Loc) : Prop := vv = some (.int 0) ∧ Fr n0 LL ∧ h = h0
set_option maxRecDepth 65536 in
set_option maxHeartbeats 40000000 in
theorem rm_los (l : Launch) (Z : State) (a0 : Array Value) (hw : ∀ d ∈ tables_1, d.before a0 Z = true) (ws : List Jvm.Cond) (ch : Int32) (h0 : Heap) (n0 : Nat) (Z0 : n0 ≤ h0.size) (hv : own_Vis ch) :
    own_MF l ym_18 jdk_89_method_15_code 1 (some .boolean) ⟨0, 0, 0, 0⟩ ws Z #[(.int ch)] h0 (Q_rm_los Z ch h0 n0) := by
  refine own_begin (plainFor_of_name pn_6) (fun m => ef_19 m ch) ?_
  intro p e s m below meth c s₁ hret hx hby hml hown hnm hlk X0 e0 hh hZ
  have N0 := Fr.nil n0
  refine og s₁ (mkF m 1 #[iv ch] [(.int ch)]) (fun t_ k_ => XS.iloadN X0.here hx rfl (hb hby d_jdk_89_15_0) rfl k_) ?_
  refine og s₁ (mkF m 3 #[iv ch] [(.int 56320), (.int ch)]) (fun t_ k_ => X0.ldcInt hx hown (mvT hZ (own_w hw 157 rfl)) (g := (mkF m 1 #[iv ch] [(.int ch)])) rfl (hb hby d_jdk_89_15_1) _ k_) ?_
  refine og s₁ (mkF m 16 #[iv ch] []) (fun t_ k_ => XS.icmpYes X0.here hx rfl (pc0 := 3) (pc' := 16) rfl (hb hby d_jdk_89_15_3) rfl (tlt (hv.ltK (by decide))).1 (by decide) (by decide) k_) ?_
  refine og s₁ (mkF m 17 #[iv ch] [(.int 0)]) (fun t_ k_ => XS.iconst X0.here hx rfl (hb hby d_jdk_89_15_16) k_) ?_
  exact own_out X0 (v := some (.int (nar .boolean (0 : Int32)))) (fun h => by rw [hret] at h; cases h) hlk (fun fs hr => retN X0 hx (t := .boolean) hret (by simp) (hb hby d_jdk_89_15_17) hr) (Q := Q_rm_los Z ch h0 n0) (by rw [e0]; exact ⟨rfl, N0, rfl⟩) (by decide) (by decide)
theorem d_jdk_89_89_0 : decode jdk_89_method_89_code 0 = .ok (.iload_n 0, 1) := by decide +kernel
theorem d_jdk_89_89_1 : decode jdk_89_method_89_code 1 = .ok (.sipush 159, 3) := by decide +kernel
theorem d_jdk_89_89_4 : decode jdk_89_method_89_code 4 = .ok (.if_icmp .gt 19, 3) := by decide +kernel
theorem d_jdk_89_89_7 : decode jdk_89_method_89_code 7 = .ok (.iload_n 0, 1) := by decide +kernel
theorem d_jdk_89_89_8 : decode jdk_89_method_89_code 8 = .ok (.bipush 127, 2) := by decide +kernel
theorem d_jdk_89_89_10 : decode jdk_89_method_89_code 10 = .ok (.if_icmp .ge 9, 3) := by decide +kernel
theorem d_jdk_89_89_13 : decode jdk_89_method_89_code 13 = .ok (.iload_n 0, 1) := by decide +kernel
theorem d_jdk_89_89_14 : decode jdk_89_method_89_code 14 = .ok (.iconst 5, 1) := by decide +kernel
theorem d_jdk_89_89_15 : decode jdk_89_method_89_code 15 = .ok (.iushr, 1) := by decide +kernel
theorem d_jdk_89_89_16 : decode jdk_89_method_89_code 16 = .ok (.ifCond .ne 7, 3) := by decide +kernel
theorem d_jdk_89_89_23 : decode jdk_89_method_89_code 23 = .ok (.iconst 0, 1) := by decide +kernel
theorem d_jdk_89_89_24 : decode jdk_89_method_89_code 24 = .ok (.ireturn, 1) := by decide +kernel
theorem ef_20 (m : MethodId) (ch : Int32) : entryFrame m #[(.int ch)] 1 = mkF m 0 #[iv ch] [] := by first | (simp [entryFrame, mkF, argsToLocals, Value.category]; done) | rfl
abbrev ym_19 : MethodName := ⟨"java/lang/Character", "isISOControl", "(I)Z"⟩
def Q_rm_ici (Z : State) (ch : Int32) (h0 : Heap) (n0 : Nat) (vv : Option Value) (h : Heap) (LL : List Loc) : Prop := vv = some (.int 0) ∧ Fr n0 LL ∧ h = h0
set_option maxRecDepth 65536 in
set_option maxHeartbeats 40000000 in
theorem rm_ici (l : Launch) (Z : State) (a0 : Array Value) (hw : ∀ d ∈ tables_1, d.before a0 Z = true) (ws : List Jvm.Cond) (ch : Int32) (h0 : Heap) (n0 : Nat) (Z0 : n0 ≤ h0.size) (hv : own_Vis ch) :
    own_MF l ym_19 jdk_89_method_89_code 1 (some .boolean) ⟨0, 0, 0, 0⟩ ws Z #[(.int ch)] h0 (Q_rm_ici Z ch h0 n0) := by
  refine own_begin (plainFor_of_name pn_6) (fun m => ef_20 m ch) ?_
  intro p e s m below meth c s₁ hret hx hby hml hown hnm hlk X0 e0 hh hZ
  have N0 := Fr.nil n0
  refine og s₁ (mkF m 1 #[iv ch] [(.int ch)]) (fun t_ k_ => XS.iloadN X0.here hx rfl (hb hby d_jdk_89_89_0) rfl k_) ?_
  refine og s₁ (mkF m 4 #[iv ch] [(.int 159), (.int ch)]) (fun t_ k_ => XS.sipush X0.here hx rfl (hb hby d_jdk_89_89_1) k_) ?_
  refine og s₁ (mkF m 7 #[iv ch] []) (fun t_ k_ => XS.icmpNo X0.here hx rfl (hb hby d_jdk_89_89_4) rfl (flt (hv.gtK (by decide))).2.2.1 k_) ?_
  refine og s₁ (mkF m 8 #[iv ch] [(.int ch)]) (fun t_ k_ => XS.iloadN X0.here hx rfl (hb hby d_jdk_89_89_7) rfl k_) ?_
  refine og s₁ (mkF m 10 #[iv ch] [(.int 127), (.int ch)]) (fun t_ k_ => XS.bipush X0.here hx rfl (hb hby d_jdk_89_89_8) k_) ?_
  refine og s₁ (mkF m 13 #[iv ch] []) (fun t_ k_ => XS.icmpNo X0.here hx rfl (hb hby d_jdk_89_89_10) rfl (tlt (hv.ltK (by decide))).2.1 k_) ?_
  refine og s₁ (mkF m 14 #[iv ch] [(.int ch)]) (fun t_ k_ => XS.iloadN X0.here hx rfl (hb hby d_jdk_89_89_13) rfl k_) ?_
  refine og s₁ (mkF m 15 #[iv ch] [(.int 5), (.int ch)]) (fun t_ k_ => XS.iconst X0.here hx rfl (hb hby d_jdk_89_89_14) k_) ?_
  refine og s₁ (mkF m 16 #[iv ch] [(.int ((ch.toUInt32 >>> ((5 : Int32) &&& 31).toUInt32).toInt32))]) (fun t_ k_ => XS.iushr X0.here hx rfl (hb hby d_jdk_89_89_15) rfl k_) ?_
  refine og s₁ (mkF m 23 #[iv ch] []) (fun t_ k_ => XS.ifYes X0.here hx rfl (pc0 := 16) (pc' := 23) rfl (hb hby d_jdk_89_89_16) rfl ((if0 _ _).trans (feq (own_sh5 hv)).2) (by decide) (by decide) k_) ?_
  refine og s₁ (mkF m 24 #[iv ch] [(.int 0)]) (fun t_ k_ => XS.iconst X0.here hx rfl (hb hby d_jdk_89_89_23) k_) ?_
  exact own_out X0 (v := some (.int (nar .boolean (0 : Int32)))) (fun h => by rw [hret] at h; cases h) hlk (fun fs hr => retN X0 hx (t := .boolean) hret (by simp) (hb hby d_jdk_89_89_24) hr) (Q := Q_rm_ici Z ch h0 n0) (by rw [e0]; exact ⟨rfl, N0, rfl⟩) (by decide) (by decide)
theorem d_jdk_89_88_0 : decode jdk_89_method_88_code 0 = .ok (.iload_n 0, 1) := by decide +kernel
theorem d_jdk_89_88_1 : decode jdk_89_method_88_code 1 = .ok (.invokestatic 266, 3) := by decide +kernel
theorem pd_10 : parseMethodDescriptor "(I)Z" = some ⟨[.int], some .boolean⟩ := by decide +kernel
theorem d_jdk_89_88_4 : decode jdk_89_method_88_code 4 = .ok (.ireturn, 1) := by decide +kernel
theorem ef_21 (m : MethodId) (ch : Int32) : entryFrame m #[(.int ch)] 1 = mkF m 0 #[iv ch] [] := by first | (simp [entryFrame, mkF, argsToLocals, Value.category]; done) | rfl
abbrev ym_20 : MethodName := ⟨"java/lang/Character", "isISOControl", "(C)Z"⟩
def Q_rm_icc (Z : State) (ch : Int32) (h0 : Heap) (n0 : Nat) (vv : Option Value) (h : Heap) (LL : List Loc) : Prop := vv = some (.int 0) ∧ Fr n0 LL ∧ h = h0
set_option maxRecDepth 65536 in
set_option maxHeartbeats 40000000 in
theorem rm_icc (l : Launch) (Z : State) (a0 : Array Value) (hw : ∀ d ∈ tables_1, d.before a0 Z = true) (ws : List Jvm.Cond) (ch : Int32) (h0 : Heap) (n0 : Nat) (Z0 : n0 ≤ h0.size) (hv : own_Vis ch) :
    own_MF l ym_20 jdk_89_method_88_code 1 (some .boolean) ⟨1, 0, 0, 12⟩ ws Z #[(.int ch)] h0 (Q_rm_icc Z ch h0 n0) := by
  refine own_begin (plainFor_of_name pn_6) (fun m => ef_21 m ch) ?_
  intro p e s m below meth c s₁ hret hx hby hml hown hnm hlk X0 e0 hh hZ
  have N0 := Fr.nil n0
  refine og s₁ (mkF m 1 #[iv ch] [(.int ch)]) (fun t_ k_ => XS.iloadN X0.here hx rfl (hb hby d_jdk_89_88_0) rfl k_) ?_
  obtain ⟨_, _, ⟨T1, L1, k1, n1⟩, -, X1, ⟨Lc1, hQ1, l1, y1, z1⟩, st1⟩ := Jvm.LawKit.callS X0 hx (y := ym_19) hown (mvT hZ (own_w hw 161 rfl)) (mvT hZ (own_w hw 162 rfl)) (mvT hZ (own_w hw 151 rfl)) (mvT hZ (own_w hw 163 rfl)) (by decide) (backOf (W := 0) (rm_ici l Z a0 hw [] ch h0 n0 (show n0 ≤ h0.size by omega) hv) hZ (own_w hw 163 rfl) (own_w hw 151 rfl) (by decide) (by decide)) (g := (mkF m 1 #[iv ch] [(.int ch)])) rfl (by rw [hml]; rfl) (argsL := [(.int ch)]) (rest := []) (lenOf pd_10 rfl) rfl (by show 2 * 0 + _ ≤ _; exact Nat.le_of_eq rfl) (hb hby d_jdk_89_88_1) (fun _ _ => ⟨rfl, e0, (by decide : 0 + 0 ≤ _), (by decide : 0 + 0 ≤ _)⟩)
  dsimp only [Pt.U, Pt.locs, Pt.cells, Pt.slots] at X1 l1 y1 z1 st1 hQ1
  replace l1 := l1.symm; replace y1 := y1.symm; replace z1 := z1.symm; subst l1 y1 z1
  obtain ⟨rfl, M1, e1⟩ := hQ1
  have N1 := Fr.app N0 M1
  refine og T1 (mkF m 4 #[iv ch] [(.int 0)]) (fun t_ k_ => st1 _ k_) ?_
  exact own_out X1 (v := some (.int (nar .boolean (0 : Int32)))) (fun h => by rw [hret] at h; cases h) hlk (fun fs hr => retN X1 hx (t := .boolean) hret (by simp) (hb hby d_jdk_89_88_4) hr) (Q := Q_rm_icc Z ch h0 n0) (by rw [e1]; exact ⟨rfl, N1, rfl⟩) (by decide) (by decide)
theorem d_jdk_116_1_0 : decode jdk_116_method_1_code 0 = .ok (.iload_n 1, 1) := by decide +kernel
theorem d_jdk_116_1_1 : decode jdk_116_method_1_code 1 = .ok (.i2c, 1) := by decide +kernel
theorem d_jdk_116_1_2 : decode jdk_116_method_1_code 2 = .ok (.istore_n 2, 1) := by decide +kernel
theorem d_jdk_116_1_3 : decode jdk_116_method_1_code 3 = .ok (.getstatic 1, 3) := by decide +kernel
theorem d_jdk_116_1_6 : decode jdk_116_method_1_code 6 = .ok (.iload_n 2, 1) := by decide +kernel
theorem d_jdk_116_1_7 : decode jdk_116_method_1_code 7 = .ok (.iaload, 1) := by decide +kernel
theorem d_jdk_116_1_8 : decode jdk_116_method_1_code 8 = .ok (.istore_n 3, 1) := by decide +kernel
theorem d_jdk_116_1_9 : decode jdk_116_method_1_code 9 = .ok (.iload_n 3, 1) := by decide +kernel
theorem d_jdk_116_1_10 : decode jdk_116_method_1_code 10 = .ok (.ireturn, 1) := by decide +kernel
theorem pn_7 : plainName "java/lang/CharacterDataLatin1" = true := by first | (simp [plainName, overriddenIn]; done) | decide +kernel
theorem ef_22 (m : MethodId) (a : Nat) (ch : Int32) : entryFrame m #[(.ref a), (.int ch)] 4 = mkF m 0 #[rv a, iv ch, .unset, .unset] [] := by first | (simp [entryFrame, mkF, argsToLocals, Value.category]; done) | rfl
abbrev ym_21 : MethodName := ⟨"java/lang/CharacterDataLatin1", "getProperties", "(I)I"⟩
def Q_rm_gpr (Z : State) (a : Nat) (ch : Int32) (ta : Nat) (ka : ClassId) (h0 : Heap) (n0 : Nat) (vv : Option Value) (h : Heap) (LL : List Loc) : Prop := vv = some (.int (own_av ch)) ∧ Fr n0 LL ∧ h = h0
set_option maxRecDepth 65536 in
set_option maxHeartbeats 40000000 in
theorem rm_gpr (l : Launch) (Z : State) (a0 : Array Value) (hw : ∀ d ∈ tables_1, d.before a0 Z = true) (ws : List Jvm.Cond) (a : Nat) (ch : Int32) (ta : Nat) (ka : ClassId) (h0 : Heap) (n0 : Nat) (Z0 : n0 ≤ h0.size) (hv : own_Vis ch) (O0 : Old Z n0 h0) (S_A : Sta Z Z.heap "java/lang/CharacterDataLatin1" "A" "[I" (.ref ta)) (TA : Arv Z h0 ta ka .int (256 : Int32) (own_A.map Value.int) (.int (0 : Int32))) :
    own_MF l ym_21 jdk_116_method_1_code 4 (some .int) ⟨0, 0, 0, 0⟩ ws Z #[(.ref a), (.int ch)] h0 (Q_rm_gpr Z a ch ta ka h0 n0) := by
  refine own_begin (plainFor_of_name pn_7) (fun m => ef_22 m a ch) ?_
  intro p e s m below meth c s₁ hret hx hby hml hown hnm hlk X0 e0 hh hZ
  have N0 := Fr.nil n0
  have lt_TA := own_ltN TA.lt
  refine og s₁ (mkF m 1 #[rv a, iv ch, .unset, .unset] [(.int ch)]) (fun t_ k_ => XS.iloadN X0.here hx rfl (hb hby d_jdk_116_1_0) rfl k_) ?_
  refine og s₁ (mkF m 2 #[rv a, iv ch, .unset, .unset] [(.int (ch.toUInt32.toUInt16.toUInt32.toInt32))]) (fun t_ k_ => XS.i2c X0.here hx rfl (hb hby d_jdk_116_1_1) rfl k_) ?_
  refine og s₁ (mkF m 3 #[rv a, iv ch, iv (ch.toUInt32.toUInt16.toUInt32.toInt32), .unset] []) (fun t_ k_ => XS.istoreN X0.here hx rfl (hb hby d_jdk_116_1_2) rfl (l' := #[rv a, iv ch, iv (ch.toUInt32.toUInt16.toUInt32.toInt32), .unset]) rfl k_) ?_
  obtain ⟨T1, X1, e1, st1⟩ := getS2 X0 hx hZ hown (host := "") (Or.inl (own_w hw 121 rfl)) Via.refl e0 (S_A.ext O0.2) (g := (mkF m 3 #[rv a, iv ch, iv (ch.toUInt32.toUInt16.toUInt32.toInt32), .unset] [])) rfl (hb hby d_jdk_116_1_3)
  refine og T1 (mkF m 6 #[rv a, iv ch, iv (ch.toUInt32.toUInt16.toUInt32.toInt32), .unset] [(.ref ta)]) (fun t_ k_ => st1 _ k_) ?_
  refine og T1 (mkF m 7 #[rv a, iv ch, iv (ch.toUInt32.toUInt16.toUInt32.toInt32), .unset] [(.int (ch.toUInt32.toUInt16.toUInt32.toInt32)), (.ref ta)]) (fun t_ k_ => XS.iloadN X1.here hx rfl (hb hby d_jdk_116_1_6) rfl k_) ?_
  obtain ⟨cl2, Ar2, -, S2, Nn2, H2, -⟩ := id TA
  have hin2 : ¬ ((ch.toUInt32.toUInt16.toUInt32.toInt32) < 0 ∨ cl2.slots.size ≤ ((ch.toUInt32.toUInt16.toUInt32.toInt32)).toNatClampNeg) := inb_of S2 (own_inA hv)
  refine og T1 (mkF m 8 #[rv a, iv ch, iv (ch.toUInt32.toUInt16.toUInt32.toInt32), .unset] [(.int (own_av (ch.toUInt32.toUInt16.toUInt32.toInt32)))]) (fun t_ k_ => X1.iaload hx (j := (ch.toUInt32.toUInt16.toUInt32.toInt32)) (v := (.int (own_av (ch.toUInt32.toUInt16.toUInt32.toInt32)))) (by rw [e1]; exact Ar2.1) (State.isArrayOf_alike hZ.alike Ar2.2.1) Ar2.2.2 hin2 (H2.at hin2 (own_atA _)) (g := (mkF m 7 #[rv a, iv ch, iv (ch.toUInt32.toUInt16.toUInt32.toInt32), .unset] [(.int (ch.toUInt32.toUInt16.toUInt32.toInt32)), (.ref ta)])) rfl rfl (hb hby d_jdk_116_1_7) _ k_) ?_
  refine og T1 (mkF m 9 #[rv a, iv ch, iv (ch.toUInt32.toUInt16.toUInt32.toInt32), iv (own_av (ch.toUInt32.toUInt16.toUInt32.toInt32))] []) (fun t_ k_ => XS.istoreN X1.here hx rfl (hb hby d_jdk_116_1_8) rfl (l' := #[rv a, iv ch, iv (ch.toUInt32.toUInt16.toUInt32.toInt32), iv (own_av (ch.toUInt32.toUInt16.toUInt32.toInt32))]) rfl k_) ?_
  refine og T1 (mkF m 10 #[rv a, iv ch, iv (ch.toUInt32.toUInt16.toUInt32.toInt32), iv (own_av (ch.toUInt32.toUInt16.toUInt32.toInt32))] [(.int (own_av (ch.toUInt32.toUInt16.toUInt32.toInt32)))]) (fun t_ k_ => XS.iloadN X1.here hx rfl (hb hby d_jdk_116_1_9) rfl k_) ?_
  exact own_out X1 (v := some (.int (own_av (ch.toUInt32.toUInt16.toUInt32.toInt32)))) (fun h => by rw [hret] at h; cases h) hlk (fun fs hr => retI X1 hx hret (hb hby d_jdk_116_1_10) hr) (Q := Q_rm_gpr Z a ch ta ka h0 n0) (by rw [e1]; exact ⟨(congrArg (fun z => some (Value.int (own_av z))) (own_i2cV hv)), N0, rfl⟩) (by decide) (by decide)
theorem d_jdk_116_26_0 : decode jdk_116_method_26_code 0 = .ok (.aload_n 0, 1) := by decide +kernel
theorem d_jdk_116_26_1 : decode jdk_116_method_26_code 1 = .ok (.iload_n 1, 1) := by decide +kernel
theorem d_jdk_116_26_2 : decode jdk_116_method_26_code 2 = .ok (.invokevirtual 15, 3) := by decide +kernel
theorem pd_11 : parseMethodDescriptor "(I)I" = some ⟨[.int], some .int⟩ := by decide +kernel
theorem d_jdk_116_26_5 : decode jdk_116_method_26_code 5 = .ok (.istore_n 2, 1) := by decide +kernel
theorem d_jdk_116_26_6 : decode jdk_116_method_26_code 6 = .ok (.iload_n 2, 1) := by decide +kernel
theorem d_jdk_116_26_7 : decode jdk_116_method_26_code 7 = .ok (.sipush 28672, 3) := by decide +kernel
theorem d_jdk_116_26_10 : decode jdk_116_method_26_code 10 = .ok (.iand, 1) := by decide +kernel
theorem d_jdk_116_26_11 : decode jdk_116_method_26_code 11 = .ok (.sipush 16384, 3) := by decide +kernel
theorem d_jdk_116_26_14 : decode jdk_116_method_26_code 14 = .ok (.if_icmp .ne 7, 3) := by decide +kernel
theorem d_jdk_116_26_21 : decode jdk_116_method_26_code 21 = .ok (.iconst 0, 1) := by decide +kernel
theorem d_jdk_116_26_22 : decode jdk_116_method_26_code 22 = .ok (.ireturn, 1) := by decide +kernel
theorem ef_23 (m : MethodId) (a : Nat) (ch : Int32) : entryFrame m #[(.ref a), (.int ch)] 3 = mkF m 0 #[rv a, iv ch, .unset] [] := by first | (simp [entryFrame, mkF, argsToLocals, Value.category]; done) | rfl
abbrev ym_22 : MethodName := ⟨"java/lang/CharacterDataLatin1", "isWhitespace", "(I)Z"⟩
def Q_rm_iws (Z : State) (a : Nat) (ch : Int32) (ta : Nat) (ka : ClassId) (h0 : Heap) (n0 : Nat) (vv : Option Value) (h : Heap) (LL : List Loc) : Prop := vv = some (.int 0) ∧ Fr n0 LL ∧ h = h0
set_option maxRecDepth 65536 in
set_option maxHeartbeats 40000000 in
theorem rm_iws (l : Launch) (Z : State) (a0 : Array Value) (hw : ∀ d ∈ tables_1, d.before a0 Z = true) (ws : List Jvm.Cond) (a : Nat) (ch : Int32) (ta : Nat) (ka : ClassId) (h0 : Heap) (n0 : Nat) (Z0 : n0 ≤ h0.size) (hv : own_Vis ch) (O0 : Old Z n0 h0) (S_A : Sta Z Z.heap "java/lang/CharacterDataLatin1" "A" "[I" (.ref ta)) (TA : Arv Z h0 ta ka .int (256 : Int32) (own_A.map Value.int) (.int (0 : Int32))) (E_a : Exa Z h0 a "java/lang/CharacterDataLatin1") :
    own_MF l ym_22 jdk_116_method_26_code 3 (some .boolean) ⟨1, 0, 0, 15⟩ ws Z #[(.ref a), (.int ch)] h0 (Q_rm_iws Z a ch ta ka h0 n0) := by
  refine own_begin (plainFor_of_name pn_7) (fun m => ef_23 m a ch) ?_
  intro p e s m below meth c s₁ hret hx hby hml hown hnm hlk X0 e0 hh hZ
  have N0 := Fr.nil n0
  have lt_TA := own_ltN TA.lt
  have lt_E_a := own_ltN E_a.lt
  refine og s₁ (mkF m 1 #[rv a, iv ch, .unset] [(.ref a)]) (fun t_ k_ => XS.aloadN X0.here hx rfl (hb hby d_jdk_116_26_0) rfl rfl k_) ?_
  refine og s₁ (mkF m 2 #[rv a, iv ch, .unset] [(.int ch), (.ref a)]) (fun t_ k_ => XS.iloadN X0.here hx rfl (hb hby d_jdk_116_26_1) rfl k_) ?_
  obtain ⟨cq1, kq1, q1a, q1b, q1c⟩ := isOf hZ e0 E_a
  obtain ⟨_, _, ⟨T1, L1, k1, n1⟩, -, X1, ⟨Lc1, hQ1, l1, y1, z1⟩, st1⟩ := X0.virtualBack hx (y := ym_21) (z := ym_21) hown (mvT hZ (own_w hw 116 rfl)) (mvT hZ (own_w hw 117 rfl)) (notFace_of_selects (args := #[]) (mvT hZ (own_w hw 119 rfl))) (mvT hZ (own_w hw 119 rfl)) (mvT hZ (own_w hw 118 rfl)) (by decide) (backOf (W := 0) (rm_gpr l Z a0 hw [] a ch ta ka h0 n0 (show n0 ≤ h0.size by omega) hv O0 S_A TA) hZ (own_w hw 120 rfl) (own_w hw 110 rfl) (by decide) (by decide)) q1a q1c (g := (mkF m 2 #[rv a, iv ch, .unset] [(.int ch), (.ref a)])) rfl (by rw [hml]; rfl) (Steps.refl _) (argsL := [(.int ch)]) (rest := []) (lenOf pd_11 rfl) rfl (by show 2 * 0 + _ ≤ _; exact Nat.le_of_eq rfl) (hb hby d_jdk_116_26_2) (fun _ _ => ⟨rfl, e0, (by decide : 0 + 0 ≤ _), (by decide : 0 + 0 ≤ _)⟩)
  dsimp only [Pt.U, Pt.locs, Pt.cells, Pt.slots] at X1 l1 y1 z1 st1 hQ1
  replace l1 := l1.symm; replace y1 := y1.symm; replace z1 := z1.symm; subst l1 y1 z1
  obtain ⟨rfl, M1, e1⟩ := hQ1
  have N1 := Fr.app N0 M1
  refine og T1 (mkF m 5 #[rv a, iv ch, .unset] [(.int (own_av ch))]) (fun t_ k_ => st1.trans k_) ?_
  refine og T1 (mkF m 6 #[rv a, iv ch, iv (own_av ch)] []) (fun t_ k_ => XS.istoreN X1.here hx rfl (hb hby d_jdk_116_26_5) rfl (l' := #[rv a, iv ch, iv (own_av ch)]) rfl k_) ?_
  refine og T1 (mkF m 7 #[rv a, iv ch, iv (own_av ch)] [(.int (own_av ch))]) (fun t_ k_ => XS.iloadN X1.here hx rfl (hb hby d_jdk_116_26_6) rfl k_) ?_
  refine og T1 (mkF m 10 #[rv a, iv ch, iv (own_av ch)] [(.int 28672), (.int (own_av ch))]) (fun t_ k_ => XS.sipush X1.here hx rfl (hb hby d_jdk_116_26_7) k_) ?_
  refine og T1 (mkF m 11 #[rv a, iv ch, iv (own_av ch)] [(.int ((own_av ch) &&& (28672 : Int32)))]) (fun t_ k_ => XS.iand X1.here hx rfl (hb hby d_jdk_116_26_10) rfl k_) ?_
  refine og T1 (mkF m 14 #[rv a, iv ch, iv (own_av ch)] [(.int 16384), (.int ((own_av ch) &&& (28672 : Int32)))]) (fun t_ k_ => XS.sipush X1.here hx rfl (hb hby d_jdk_116_26_11) k_) ?_
  refine og T1 (mkF m 21 #[rv a, iv ch, iv (own_av ch)] []) (fun t_ k_ => XS.icmpYes X1.here hx rfl (pc0 := 14) (pc' := 21) rfl (hb hby d_jdk_116_26_14) rfl (feq (own_nws hv)).2 (by decide) (by decide) k_) ?_
  refine og T1 (mkF m 22 #[rv a, iv ch, iv (own_av ch)] [(.int 0)]) (fun t_ k_ => XS.iconst X1.here hx rfl (hb hby d_jdk_116_26_21) k_) ?_
  exact own_out X1 (v := some (.int (nar .boolean (0 : Int32)))) (fun h => by rw [hret] at h; cases h) hlk (fun fs hr => retN X1 hx (t := .boolean) hret (by simp) (hb hby d_jdk_116_26_22) hr) (Q := Q_rm_iws Z a ch ta ka h0 n0) (by rw [e1]; exact ⟨rfl, N1, rfl⟩) (by decide) (by decide)
theorem d_jdk_43_37_0 : decode jdk_43_method_37_code 0 = .ok (.aload_n 0, 1) := by decide +kernel
theorem d_jdk_43_37_1 : decode jdk_43_method_37_code 1 = .ok (.arraylength, 1) := by decide +kernel
theorem d_jdk_43_37_2 : decode jdk_43_method_37_code 2 = .ok (.istore_n 1, 1) := by decide +kernel
theorem d_jdk_43_37_3 : decode jdk_43_method_37_code 3 = .ok (.iconst 0, 1) := by decide +kernel
theorem d_jdk_43_37_4 : decode jdk_43_method_37_code 4 = .ok (.istore_n 2, 1) := by decide +kernel
theorem d_jdk_43_37_5 : decode jdk_43_method_37_code 5 = .ok (.iload_n 2, 1) := by decide +kernel
theorem d_jdk_43_37_6 : decode jdk_43_method_37_code 6 = .ok (.iload_n 1, 1) := by decide +kernel
theorem d_jdk_43_37_7 : decode jdk_43_method_37_code 7 = .ok (.if_icmp .ge 40, 3) := by decide +kernel
theorem d_jdk_43_37_10 : decode jdk_43_method_37_code 10 = .ok (.aload_n 0, 1) := by decide +kernel
theorem d_jdk_43_37_11 : decode jdk_43_method_37_code 11 = .ok (.iload_n 2, 1) := by decide +kernel
theorem d_jdk_43_37_12 : decode jdk_43_method_37_code 12 = .ok (.invokestatic 50, 3) := by decide +kernel
theorem d_jdk_43_37_15 : decode jdk_43_method_37_code 15 = .ok (.istore_n 3, 1) := by decide +kernel
theorem d_jdk_43_37_16 : decode jdk_43_method_37_code 16 = .ok (.iload_n 3, 1) := by decide +kernel
theorem d_jdk_43_37_17 : decode jdk_43_method_37_code 17 = .ok (.bipush 32, 2) := by decide +kernel
theorem d_jdk_43_37_19 : decode jdk_43_method_37_code 19 = .ok (.if_icmp .eq 22, 3) := by decide +kernel
theorem d_jdk_43_37_22 : decode jdk_43_method_37_code 22 = .ok (.iload_n 3, 1) := by decide +kernel
theorem d_jdk_43_37_23 : decode jdk_43_method_37_code 23 = .ok (.bipush 9, 2) := by decide +kernel
theorem d_jdk_43_37_25 : decode jdk_43_method_37_code 25 = .ok (.if_icmp .eq 16, 3) := by decide +kernel
theorem d_jdk_43_37_28 : decode jdk_43_method_37_code 28 = .ok (.getstatic 66, 3) := by decide +kernel
theorem d_jdk_43_37_31 : decode jdk_43_method_37_code 31 = .ok (.iload_n 3, 1) := by decide +kernel
theorem d_jdk_43_37_32 : decode jdk_43_method_37_code 32 = .ok (.invokevirtual 211, 3) := by decide +kernel
theorem d_jdk_43_37_35 : decode jdk_43_method_37_code 35 = .ok (.ifCond .ne 6, 3) := by decide +kernel
theorem d_jdk_43_37_38 : decode jdk_43_method_37_code 38 = .ok (.goto 9, 3) := by decide +kernel
theorem d_jdk_43_37_47 : decode jdk_43_method_37_code 47 = .ok (.iload_n 2, 1) := by decide +kernel
theorem d_jdk_43_37_48 : decode jdk_43_method_37_code 48 = .ok (.ireturn, 1) := by decide +kernel
theorem ef_24 (m : MethodId) (a : Nat) : entryFrame m #[(.ref a)] 4 = mkF m 0 #[rv a, .unset, .unset, .unset] [] := by first | (simp [entryFrame, mkF, argsToLocals, Value.category]; done) | rfl
abbrev ym_23 : MethodName := ⟨"java/lang/StringLatin1", "indexOfNonWhitespace", "([B)I"⟩
def Q_rm_lnw (Z : State) (a : Nat) (ch : Int32) (k_a : ClassId) (ta : Nat) (ka : ClassId) (ci : Nat) (h0 : Heap) (n0 : Nat) (vv : Option Value) (h : Heap) (LL : List Loc) : Prop := vv = some (.int 0) ∧ Fr n0 LL ∧ h = h0
set_option maxRecDepth 65536 in
set_option maxHeartbeats 40000000 in
theorem rm_lnw (l : Launch) (Z : State) (a0 : Array Value) (hw : ∀ d ∈ tables_1, d.before a0 Z = true) (ws : List Jvm.Cond) (a : Nat) (ch : Int32) (k_a : ClassId) (ta : Nat) (ka : ClassId) (ci : Nat) (h0 : Heap) (n0 : Nat) (Z0 : n0 ≤ h0.size) (hv : own_Vis ch) (V_a : Arv Z h0 a k_a .byte (1 : Int32) [(.int ch.toInt8.toInt32)] (.int (0 : Int32))) (O0 : Old Z n0 h0) (S_A : Sta Z Z.heap "java/lang/CharacterDataLatin1" "A" "[I" (.ref ta)) (TA : Arv Z h0 ta ka .int (256 : Int32) (own_A.map Value.int) (.int (0 : Int32))) (S_instance : Sta Z Z.heap "java/lang/CharacterDataLatin1" "instance" "Ljava/lang/CharacterDataLatin1;" (.ref ci)) (EC : Exa Z h0 ci "java/lang/CharacterDataLatin1") :
    own_MF l ym_23 jdk_43_method_37_code 4 (some .int) ⟨2, 0, 0, 29⟩ ws Z #[(.ref a)] h0 (Q_rm_lnw Z a ch k_a ta ka ci h0 n0) := by
  refine own_begin (plainFor_of_name pn_0) (fun m => ef_24 m a) ?_
  intro p e s m below meth c s₁ hret hx hby hml hown hnm hlk X0 e0 hh hZ
  have N0 := Fr.nil n0
  have lt_V_a := own_ltN V_a.lt
  have lt_TA := own_ltN TA.lt
  have lt_EC := own_ltN EC.lt
  refine og s₁ (mkF m 1 #[rv a, .unset, .unset, .unset] [(.ref a)]) (fun t_ k_ => XS.aloadN X0.here hx rfl (hb hby d_jdk_43_37_0) rfl rfl k_) ?_
  obtain ⟨cl1, Ar1, -, S1, Nn1, -, -⟩ := id V_a
  refine og s₁ (mkF m 2 #[rv a, .unset, .unset, .unset] [(.int 1)]) (fun t_ k_ => X0.arraylength hx (by rw [e0]; exact Ar1.1) (State.isArrayOf_alike hZ.alike Ar1.2.1) (g := (mkF m 1 #[rv a, .unset, .unset, .unset] [(.ref a)])) rfl rfl (hb hby d_jdk_43_37_1) _ (by rw [len_of S1 Nn1]; exact k_)) ?_
  refine og s₁ (mkF m 3 #[rv a, iv 1, .unset, .unset] []) (fun t_ k_ => XS.istoreN X0.here hx rfl (hb hby d_jdk_43_37_2) rfl (l' := #[rv a, iv 1, .unset, .unset]) rfl k_) ?_
  refine og s₁ (mkF m 4 #[rv a, iv 1, .unset, .unset] [(.int 0)]) (fun t_ k_ => XS.iconst X0.here hx rfl (hb hby d_jdk_43_37_3) k_) ?_
  refine og s₁ (mkF m 5 #[rv a, iv 1, iv 0, .unset] []) (fun t_ k_ => XS.istoreN X0.here hx rfl (hb hby d_jdk_43_37_4) rfl (l' := #[rv a, iv 1, iv 0, .unset]) rfl k_) ?_
  refine og s₁ (mkF m 6 #[rv a, iv 1, iv 0, .unset] [(.int 0)]) (fun t_ k_ => XS.iloadN X0.here hx rfl (hb hby d_jdk_43_37_5) rfl k_) ?_
  refine og s₁ (mkF m 7 #[rv a, iv 1, iv 0, .unset] [(.int 1), (.int 0)]) (fun t_ k_ => XS.iloadN X0.here hx rfl (hb hby d_jdk_43_37_6) rfl k_) ?_
  refine og s₁ (mkF m 10 #[rv a, iv 1, iv 0, .unset] []) (fun t_ k_ => XS.icmpNo X0.here hx rfl (hb hby d_jdk_43_37_7) rfl (tlt (by decide)).2.1 k_) ?_
  refine og s₁ (mkF m 11 #[rv a, iv 1, iv 0, .unset] [(.ref a)]) (fun t_ k_ => XS.aloadN X0.here hx rfl (hb hby d_jdk_43_37_10) rfl rfl k_) ?_
  refine og s₁ (mkF m 12 #[rv a, iv 1, iv 0, .unset] [(.int 0), (.ref a)]) (fun t_ k_ => XS.iloadN X0.here hx rfl (hb hby d_jdk_43_37_11) rfl k_) ?_
  obtain ⟨_, _, ⟨T2, L2, k2, n2⟩, -, X2, ⟨Lc2, hQ2, l2, y2, z2⟩, st2⟩ := Jvm.LawKit.callS X0 hx (y := ym_11) hown (mvT hZ (own_w hw 106 rfl)) (mvT hZ (own_w hw 107 rfl)) (mvT hZ (own_w hw 7 rfl)) (mvT hZ (own_w hw 108 rfl)) (by decide) (backOf (W := 0) (rm_lgc l Z a0 hw [] a ch k_a h0 n0 (show n0 ≤ h0.size by omega) hv V_a) hZ (own_w hw 108 rfl) (own_w hw 7 rfl) (by decide) (by decide)) (g := (mkF m 12 #[rv a, iv 1, iv 0, .unset] [(.int 0), (.ref a)])) rfl (by rw [hml]; rfl) (argsL := [(.ref a), (.int 0)]) (rest := []) (lenOf pd_9 rfl) rfl (by show 2 * 0 + _ ≤ _; exact Nat.le_of_eq rfl) (hb hby d_jdk_43_37_12) (fun _ _ => ⟨rfl, e0, (by decide : 0 + 0 ≤ _), (by decide : 0 + 0 ≤ _)⟩)
  dsimp only [Pt.U, Pt.locs, Pt.cells, Pt.slots] at X2 l2 y2 z2 st2 hQ2
  replace l2 := l2.symm; replace y2 := y2.symm; replace z2 := z2.symm; subst l2 y2 z2
  obtain ⟨rfl, M2, e2⟩ := hQ2
  have N2 := Fr.app N0 M2
  refine og T2 (mkF m 15 #[rv a, iv 1, iv 0, .unset] [(.int ch)]) (fun t_ k_ => st2 _ k_) ?_
  refine og T2 (mkF m 16 #[rv a, iv 1, iv 0, iv ch] []) (fun t_ k_ => XS.istoreN X2.here hx rfl (hb hby d_jdk_43_37_15) rfl (l' := #[rv a, iv 1, iv 0, iv ch]) rfl k_) ?_
  refine og T2 (mkF m 17 #[rv a, iv 1, iv 0, iv ch] [(.int ch)]) (fun t_ k_ => XS.iloadN X2.here hx rfl (hb hby d_jdk_43_37_16) rfl k_) ?_
  refine og T2 (mkF m 19 #[rv a, iv 1, iv 0, iv ch] [(.int 32), (.int ch)]) (fun t_ k_ => XS.bipush X2.here hx rfl (hb hby d_jdk_43_37_17) k_) ?_
  refine og T2 (mkF m 22 #[rv a, iv 1, iv 0, iv ch] []) (fun t_ k_ => XS.icmpNo X2.here hx rfl (hb hby d_jdk_43_37_19) rfl (feq (hv.ne (by decide))).1 k_) ?_
  refine og T2 (mkF m 23 #[rv a, iv 1, iv 0, iv ch] [(.int ch)]) (fun t_ k_ => XS.iloadN X2.here hx rfl (hb hby d_jdk_43_37_22) rfl k_) ?_
  refine og T2 (mkF m 25 #[rv a, iv 1, iv 0, iv ch] [(.int 9), (.int ch)]) (fun t_ k_ => XS.bipush X2.here hx rfl (hb hby d_jdk_43_37_23) k_) ?_
  refine og T2 (mkF m 28 #[rv a, iv 1, iv 0, iv ch] []) (fun t_ k_ => XS.icmpNo X2.here hx rfl (hb hby d_jdk_43_37_25) rfl (feq (hv.ne (by decide))).1 k_) ?_
  obtain ⟨T3, X3, e3, st3⟩ := getS2 X2 hx hZ hown (host := "") (Or.inl (own_w hw 109 rfl)) Via.refl e2 (S_instance.ext O0.2) (g := (mkF m 28 #[rv a, iv 1, iv 0, iv ch] [])) rfl (hb hby d_jdk_43_37_28)
  refine og T3 (mkF m 31 #[rv a, iv 1, iv 0, iv ch] [(.ref ci)]) (fun t_ k_ => st3 _ k_) ?_
  refine og T3 (mkF m 32 #[rv a, iv 1, iv 0, iv ch] [(.int ch), (.ref ci)]) (fun t_ k_ => XS.iloadN X3.here hx rfl (hb hby d_jdk_43_37_31) rfl k_) ?_
  obtain ⟨cq4, kq4, q4a, q4b, q4c⟩ := isOf hZ e3 EC
  obtain ⟨_, _, ⟨T4, L4, k4, n4⟩, -, X4, ⟨Lc4, hQ4, l4, y4, z4⟩, st4⟩ := X3.virtualBack hx (y := ym_22) (z := ym_22) hown (mvT hZ (own_w hw 111 rfl)) (mvT hZ (own_w hw 112 rfl)) (notFace_of_selects (args := #[]) (mvT hZ (own_w hw 114 rfl))) (mvT hZ (own_w hw 114 rfl)) (mvT hZ (own_w hw 113 rfl)) (by decide) (backOf (W := 0) (rm_iws l Z a0 hw [] ci ch ta ka h0 n0 (show n0 ≤ h0.size by omega) hv O0 S_A TA EC) hZ (own_w hw 115 rfl) (own_w hw 110 rfl) (by decide) (by decide)) q4a q4c (g := (mkF m 32 #[rv a, iv 1, iv 0, iv ch] [(.int ch), (.ref ci)])) rfl (by rw [hml]; rfl) (Steps.refl _) (argsL := [(.int ch)]) (rest := []) (lenOf pd_10 rfl) rfl (by show 2 * 0 + _ ≤ _; exact Nat.le_of_eq rfl) (hb hby d_jdk_43_37_32) (fun _ _ => ⟨rfl, e3, (by decide : 0 + 0 ≤ _), (by decide : 0 + 0 ≤ _)⟩)
  dsimp only [Pt.U, Pt.locs, Pt.cells, Pt.slots] at X4 l4 y4 z4 st4 hQ4
  replace l4 := l4.symm; replace y4 := y4.symm; replace z4 := z4.symm; subst l4 y4 z4
  obtain ⟨rfl, M4, e4⟩ := hQ4
  have N4 := Fr.app N2 M4
  refine og T4 (mkF m 35 #[rv a, iv 1, iv 0, iv ch] [(.int 0)]) (fun t_ k_ => st4.trans k_) ?_
  refine og T4 (mkF m 38 #[rv a, iv 1, iv 0, iv ch] []) (fun t_ k_ => XS.ifNo X4.here hx rfl (hb hby d_jdk_43_37_35) rfl ((if0 _ _).trans (teq (by decide)).2) k_) ?_
  refine og T4 (mkF m 47 #[rv a, iv 1, iv 0, iv ch] []) (fun t_ k_ => XS.goto X4.here hx rfl (pc0 := 38) (pc' := 47) rfl (hb hby d_jdk_43_37_38) (by decide) (by decide) k_) ?_
  refine og T4 (mkF m 48 #[rv a, iv 1, iv 0, iv ch] [(.int 0)]) (fun t_ k_ => XS.iloadN X4.here hx rfl (hb hby d_jdk_43_37_47) rfl k_) ?_
  exact own_out X4 (v := some (.int 0)) (fun h => by rw [hret] at h; cases h) hlk (fun fs hr => retI X4 hx hret (hb hby d_jdk_43_37_48) hr) (Q := Q_rm_lnw Z a ch k_a ta ka ci h0 n0) (by rw [e4]; exact ⟨rfl, N4, rfl⟩) (by decide) (by decide)
theorem d_jdk_42_120_0 : decode jdk_42_method_120_code 0 = .ok (.aload_n 0, 1) := by decide +kernel
theorem d_jdk_42_120_1 : decode jdk_42_method_120_code 1 = .ok (.invokevirtual 492, 3) := by decide +kernel
theorem d_jdk_42_120_4 : decode jdk_42_method_120_code 4 = .ok (.ifCond .eq 13, 3) := by decide +kernel
theorem d_jdk_42_120_7 : decode jdk_42_method_120_code 7 = .ok (.aload_n 0, 1) := by decide +kernel
theorem d_jdk_42_120_8 : decode jdk_42_method_120_code 8 = .ok (.getfield 9, 3) := by decide +kernel
theorem d_jdk_42_120_11 : decode jdk_42_method_120_code 11 = .ok (.invokestatic 924, 3) := by decide +kernel
theorem pd_12 : parseMethodDescriptor "([B)I" = some ⟨[(.array .byte)], some .int⟩ := by decide +kernel
theorem d_jdk_42_120_14 : decode jdk_42_method_120_code 14 = .ok (.goto 10, 3) := by decide +kernel
theorem d_jdk_42_120_24 : decode jdk_42_method_120_code 24 = .ok (.ireturn, 1) := by decide +kernel
theorem ef_25 (m : MethodId) (a : Nat) : entryFrame m #[(.ref a)] 1 = mkF m 0 #[rv a] [] := by first | (simp [entryFrame, mkF, argsToLocals, Value.category]; done) | rfl
abbrev ym_24 : MethodName := ⟨"java/lang/String", "indexOfNonWhitespace", "()I"⟩
def Q_rm_snw (Z : State) (a : Nat) (ch : Int32) (t : Nat) (kt : ClassId) (cz : Int32) (ta : Nat) (ka : ClassId) (ci : Nat) (h0 : Heap) (n0 : Nat) (vv : Option Value) (h : Heap) (LL : List Loc) : Prop := vv = some (.int 0) ∧ Fr n0 LL ∧ h = h0
set_option maxRecDepth 65536 in
set_option maxHeartbeats 40000000 in
theorem rm_snw (l : Launch) (Z : State) (a0 : Array Value) (hw : ∀ d ∈ tables_1, d.before a0 Z = true) (ws : List Jvm.Cond) (a : Nat) (ch : Int32) (t : Nat) (kt : ClassId) (cz : Int32) (ta : Nat) (ka : ClassId) (ci : Nat) (h0 : Heap) (n0 : Nat) (Z0 : n0 ≤ h0.size) (hv : own_Vis ch) (E_a : Exa Z h0 a "java/lang/String") (F_value_a : Fld Z h0 a "java/lang/String" "value" "[B" (.ref t)) (F_coder_a : Fld Z h0 a "java/lang/String" "coder" "B" (.int 0)) (V_t : Arv Z h0 t kt .byte (1 : Int32) [(.int ch.toInt8.toInt32)] (.int (0 : Int32))) (O0 : Old Z n0 h0) (S_COMPACT_STRINGS : Sta Z Z.heap "java/lang/String" "COMPACT_STRINGS" "Z" (.int cz)) (hcz : ¬ cz = (0 : Int32)) (S_A : Sta Z Z.heap "java/lang/CharacterDataLatin1" "A" "[I" (.ref ta)) (TA : Arv Z h0 ta ka .int (256 : Int32) (own_A.map Value.int) (.int (0 : Int32))) (S_instance : Sta Z Z.heap "java/lang/CharacterDataLatin1" "instance" "Ljava/lang/CharacterDataLatin1;" (.ref ci)) (EC : Exa Z h0 ci "java/lang/CharacterDataLatin1") :
    own_MF l ym_24 jdk_42_method_120_code 1 (some .int) ⟨3, 0, 0, 44⟩ ws Z #[(.ref a)] h0 (Q_rm_snw Z a ch t kt cz ta ka ci h0 n0) := by
  refine own_begin (plainFor_of_name pn_1) (fun m => ef_25 m a) ?_
  intro p e s m below meth c s₁ hret hx hby hml hown hnm hlk X0 e0 hh hZ
  have N0 := Fr.nil n0
  have lt_E_a := own_ltN E_a.lt
  have lt_F_value_a := own_ltN F_value_a.lt
  have lt_F_coder_a := own_ltN F_coder_a.lt
  have lt_V_t := own_ltN V_t.lt
  have lt_TA := own_ltN TA.lt
  have lt_EC := own_ltN EC.lt
  refine og s₁ (mkF m 1 #[rv a] [(.ref a)]) (fun t_ k_ => XS.aloadN X0.here hx rfl (hb hby d_jdk_42_120_0) rfl rfl k_) ?_
  obtain ⟨cq1, kq1, q1a, q1b, q1c⟩ := isOf hZ e0 E_a
  obtain ⟨_, _, ⟨T1, L1, k1, n1⟩, -, X1, ⟨Lc1, hQ1, l1, y1, z1⟩, st1⟩ := X0.virtualBack hx (y := ym_13) (z := ym_13) hown (mvT hZ (own_w hw 98 rfl)) (mvT hZ (own_w hw 99 rfl)) (notFace_of_selects (args := #[]) (mvT hZ (own_w hw 101 rfl))) (mvT hZ (own_w hw 101 rfl)) (mvT hZ (own_w hw 100 rfl)) (by decide) (backOf (W := 0) (rm_isl l Z a0 hw [] a cz h0 n0 (show n0 ≤ h0.size by omega) F_coder_a O0 S_COMPACT_STRINGS hcz E_a) hZ (own_w hw 102 rfl) (own_w hw 2 rfl) (by decide) (by decide)) q1a q1c (g := (mkF m 1 #[rv a] [(.ref a)])) rfl (by rw [hml]; rfl) (Steps.refl _) (argsL := []) (rest := []) (lenOf pd_8 rfl) rfl (by show 2 * 0 + _ ≤ _; exact Nat.le_of_eq rfl) (hb hby d_jdk_42_120_1) (fun _ _ => ⟨rfl, e0, (by decide : 0 + 0 ≤ _), (by decide : 0 + 0 ≤ _)⟩)
  dsimp only [Pt.U, Pt.locs, Pt.cells, Pt.slots] at X1 l1 y1 z1 st1 hQ1
  replace l1 := l1.symm; replace y1 := y1.symm; replace z1 := z1.symm; subst l1 y1 z1
  obtain ⟨rfl, M1, e1⟩ := hQ1
  have N1 := Fr.app N0 M1
  refine og T1 (mkF m 4 #[rv a] [(.int 1)]) (fun t_ k_ => st1.trans k_) ?_
  refine og T1 (mkF m 7 #[rv a] []) (fun t_ k_ => XS.ifNo X1.here hx rfl (hb hby d_jdk_42_120_4) rfl ((if0 _ _).trans (feq (by decide)).1) k_) ?_
  refine og T1 (mkF m 8 #[rv a] [(.ref a)]) (fun t_ k_ => XS.aloadN X1.here hx rfl (hb hby d_jdk_42_120_7) rfl rfl k_) ?_
  obtain ⟨T2, X2, e2, st2⟩ := getF X1 hx hZ hown (host := "") (Or.inl (own_w hw 22 rfl)) Via.refl e1 F_value_a (g := (mkF m 8 #[rv a] [(.ref a)])) rfl rfl (hb hby d_jdk_42_120_8)
  refine og T2 (mkF m 11 #[rv a] [(.ref t)]) (fun t_ k_ => st2 _ k_) ?_
  obtain ⟨_, _, ⟨T3, L3, k3, n3⟩, -, X3, ⟨Lc3, hQ3, l3, y3, z3⟩, st3⟩ := Jvm.LawKit.callS X2 hx (y := ym_23) hown (mvT hZ (own_w hw 103 rfl)) (mvT hZ (own_w hw 104 rfl)) (mvT hZ (own_w hw 7 rfl)) (mvT hZ (own_w hw 105 rfl)) (by decide) (backOf (W := 0) (rm_lnw l Z a0 hw [] t ch kt ta ka ci h0 n0 (show n0 ≤ h0.size by omega) hv V_t O0 S_A TA S_instance EC) hZ (own_w hw 105 rfl) (own_w hw 7 rfl) (by decide) (by decide)) (g := (mkF m 11 #[rv a] [(.ref t)])) rfl (by rw [hml]; rfl) (argsL := [(.ref t)]) (rest := []) (lenOf pd_12 rfl) rfl (by show 2 * 0 + _ ≤ _; exact Nat.le_of_eq rfl) (hb hby d_jdk_42_120_11) (fun _ _ => ⟨rfl, e2, (by decide : 0 + 0 ≤ _), (by decide : 0 + 0 ≤ _)⟩)
  dsimp only [Pt.U, Pt.locs, Pt.cells, Pt.slots] at X3 l3 y3 z3 st3 hQ3
  replace l3 := l3.symm; replace y3 := y3.symm; replace z3 := z3.symm; subst l3 y3 z3
  obtain ⟨rfl, M3, e3⟩ := hQ3
  have N3 := Fr.app N1 M3
  refine og T3 (mkF m 14 #[rv a] [(.int 0)]) (fun t_ k_ => st3 _ k_) ?_
  refine og T3 (mkF m 24 #[rv a] [(.int 0)]) (fun t_ k_ => XS.goto X3.here hx rfl (pc0 := 14) (pc' := 24) rfl (hb hby d_jdk_42_120_14) (by decide) (by decide) k_) ?_
  exact own_out X3 (v := some (.int 0)) (fun h => by rw [hret] at h; cases h) hlk (fun fs hr => retI X3 hx hret (hb hby d_jdk_42_120_24) hr) (Q := Q_rm_snw Z a ch t kt cz ta ka ci h0 n0) (by rw [e3]; exact ⟨rfl, N3, rfl⟩) (by decide) (by decide)
theorem d_jdk_42_117_0 : decode jdk_42_method_117_code 0 = .ok (.aload_n 0, 1) := by decide +kernel
theorem d_jdk_42_117_1 : decode jdk_42_method_117_code 1 = .ok (.invokevirtual 876, 3) := by decide +kernel
theorem pd_13 : parseMethodDescriptor "()I" = some ⟨[], some .int⟩ := by decide +kernel
theorem d_jdk_42_117_4 : decode jdk_42_method_117_code 4 = .ok (.aload_n 0, 1) := by decide +kernel
theorem d_jdk_42_117_5 : decode jdk_42_method_117_code 5 = .ok (.invokevirtual 505, 3) := by decide +kernel
theorem d_jdk_42_117_8 : decode jdk_42_method_117_code 8 = .ok (.if_icmp .ne 7, 3) := by decide +kernel
theorem d_jdk_42_117_15 : decode jdk_42_method_117_code 15 = .ok (.iconst 0, 1) := by decide +kernel
theorem d_jdk_42_117_16 : decode jdk_42_method_117_code 16 = .ok (.ireturn, 1) := by decide +kernel
theorem ef_26 (m : MethodId) (a : Nat) : entryFrame m #[(.ref a)] 1 = mkF m 0 #[rv a] [] := by first | (simp [entryFrame, mkF, argsToLocals, Value.category]; done) | rfl
abbrev ym_25 : MethodName := ⟨"java/lang/String", "isBlank", "()Z"⟩
def Q_rm_bla (Z : State) (a : Nat) (ch : Int32) (t : Nat) (kt : ClassId) (cz : Int32) (ta : Nat) (ka : ClassId) (ci : Nat) (h0 : Heap) (n0 : Nat) (vv : Option Value) (h : Heap) (LL : List Loc) : Prop := vv = some (.int 0) ∧ Fr n0 LL ∧ h = h0
set_option maxRecDepth 65536 in
set_option maxHeartbeats 40000000 in
theorem rm_bla (l : Launch) (Z : State) (a0 : Array Value) (hw : ∀ d ∈ tables_1, d.before a0 Z = true) (ws : List Jvm.Cond) (a : Nat) (ch : Int32) (t : Nat) (kt : ClassId) (cz : Int32) (ta : Nat) (ka : ClassId) (ci : Nat) (h0 : Heap) (n0 : Nat) (Z0 : n0 ≤ h0.size) (hv : own_Vis ch) (E_a : Exa Z h0 a "java/lang/String") (F_value_a : Fld Z h0 a "java/lang/String" "value" "[B" (.ref t)) (F_coder_a : Fld Z h0 a "java/lang/String" "coder" "B" (.int 0)) (V_t : Arv Z h0 t kt .byte (1 : Int32) [(.int ch.toInt8.toInt32)] (.int (0 : Int32))) (O0 : Old Z n0 h0) (S_COMPACT_STRINGS : Sta Z Z.heap "java/lang/String" "COMPACT_STRINGS" "Z" (.int cz)) (hcz : ¬ cz = (0 : Int32)) (S_A : Sta Z Z.heap "java/lang/CharacterDataLatin1" "A" "[I" (.ref ta)) (TA : Arv Z h0 ta ka .int (256 : Int32) (own_A.map Value.int) (.int (0 : Int32))) (S_instance : Sta Z Z.heap "java/lang/CharacterDataLatin1" "instance" "Ljava/lang/CharacterDataLatin1;" (.ref ci)) (EC : Exa Z h0 ci "java/lang/CharacterDataLatin1") :
    own_MF l ym_25 jdk_42_method_117_code 1 (some .boolean) ⟨4, 0, 0, 56⟩ ws Z #[(.ref a)] h0 (Q_rm_bla Z a ch t kt cz ta ka ci h0 n0) := by
  refine own_begin (plainFor_of_name pn_1) (fun m => ef_26 m a) ?_
  intro p e s m below meth c s₁ hret hx hby hml hown hnm hlk X0 e0 hh hZ
  have N0 := Fr.nil n0
  have lt_E_a := own_ltN E_a.lt
  have lt_F_value_a := own_ltN F_value_a.lt
  have lt_F_coder_a := own_ltN F_coder_a.lt
  have lt_V_t := own_ltN V_t.lt
  have lt_TA := own_ltN TA.lt
  have lt_EC := own_ltN EC.lt
  refine og s₁ (mkF m 1 #[rv a] [(.ref a)]) (fun t_ k_ => XS.aloadN X0.here hx rfl (hb hby d_jdk_42_117_0) rfl rfl k_) ?_
  obtain ⟨cq1, q1, q1'⟩ := E_a.cell
  obtain ⟨_, _, ⟨T1, L1, k1, n1⟩, -, X1, ⟨Lc1, hQ1, l1, y1, z1⟩, st1⟩ := X0.privateBack hx (y := ym_24) hown (mvT hZ (own_w hw 93 rfl)) (mvT hZ (own_w hw 94 rfl)) (mvT hZ (own_w hw 96 rfl)) (Cond.privateMethod_at (mvP hZ (own_w hw 95 rfl) (args := #[]))) (mvT hZ (own_w hw 97 rfl)) (by decide) (backOf (W := 0) (rm_snw l Z a0 hw [] a ch t kt cz ta ka ci h0 n0 (show n0 ≤ h0.size by omega) hv E_a F_value_a F_coder_a V_t O0 S_COMPACT_STRINGS hcz S_A TA S_instance EC) hZ (own_w hw 97 rfl) (own_w hw 2 rfl) (by decide) (by decide)) (g := (mkF m 1 #[rv a] [(.ref a)])) rfl (by rw [hml]; rfl) (Steps.refl _) (a := a) (by rw [e0]; exact q1) q1' (argsL := []) (rest := []) (lenOf pd_13 rfl) rfl (by show 2 * 0 + _ ≤ _; exact Nat.le_of_eq rfl) (hb hby d_jdk_42_117_1) (fun _ _ => ⟨rfl, e0, (by decide : 0 + 0 ≤ _), (by decide : 0 + 0 ≤ _)⟩)
  dsimp only [Pt.U, Pt.locs, Pt.cells, Pt.slots] at X1 l1 y1 z1 st1 hQ1
  replace l1 := l1.symm; replace y1 := y1.symm; replace z1 := z1.symm; subst l1 y1 z1
  obtain ⟨rfl, M1, e1⟩ := hQ1
  have N1 := Fr.app N0 M1
  refine og T1 (mkF m 4 #[rv a] [(.int 0)]) (fun t_ k_ => st1.trans k_) ?_
  refine og T1 (mkF m 5 #[rv a] [(.ref a), (.int 0)]) (fun t_ k_ => XS.aloadN X1.here hx rfl (hb hby d_jdk_42_117_4) rfl rfl k_) ?_
  obtain ⟨cq2, kq2, q2a, q2b, q2c⟩ := isOf hZ e1 E_a
  obtain ⟨_, _, ⟨T2, L2, k2, n2⟩, -, X2, ⟨Lc2, hQ2, l2, y2, z2⟩, st2⟩ := X1.virtualBack hx (y := ym_15) (z := ym_15) hown (mvT hZ (own_w hw 122 rfl)) (mvT hZ (own_w hw 123 rfl)) (notFace_of_selects (args := #[]) (mvT hZ (own_w hw 125 rfl))) (mvT hZ (own_w hw 125 rfl)) (mvT hZ (own_w hw 124 rfl)) (by decide) (backOf (W := 1) (rm_len l Z a0 hw [] a ch t kt cz h0 n0 (show n0 ≤ h0.size by omega) hv E_a F_value_a F_coder_a V_t O0 S_COMPACT_STRINGS hcz) hZ (own_w hw 126 rfl) (own_w hw 2 rfl) (by decide) (by decide)) q2a q2c (g := (mkF m 5 #[rv a] [(.ref a), (.int 0)])) rfl (by rw [hml]; rfl) (Steps.refl _) (argsL := []) (rest := [(.int 0)]) (lenOf pd_13 rfl) rfl (by show 2 * 0 + _ ≤ _; exact Nat.le_of_eq rfl) (hb hby d_jdk_42_117_5) (fun _ _ => ⟨rfl, e1, (by decide : 0 + 0 ≤ _), (by decide : 0 + 0 ≤ _)⟩)
  dsimp only [Pt.U, Pt.locs, Pt.cells, Pt.slots] at X2 l2 y2 z2 st2 hQ2
  replace l2 := l2.symm; replace y2 := y2.symm; replace z2 := z2.symm; subst l2 y2 z2
  obtain ⟨rfl, M2, e2⟩ := hQ2
  have N2 := Fr.app N1 M2
  refine og T2 (mkF m 8 #[rv a] [(.int 1), (.int 0)]) (fun t_ k_ => st2.trans k_) ?_
  refine og T2 (mkF m 15 #[rv a] []) (fun t_ k_ => XS.icmpYes X2.here hx rfl (pc0 := 8) (pc' := 15) rfl (hb hby d_jdk_42_117_8) rfl (feq (by decide)).2 (by decide) (by decide) k_) ?_
  refine og T2 (mkF m 16 #[rv a] [(.int 0)]) (fun t_ k_ => XS.iconst X2.here hx rfl (hb hby d_jdk_42_117_15) k_) ?_
  exact own_out X2 (v := some (.int (nar .boolean (0 : Int32)))) (fun h => by rw [hret] at h; cases h) hlk (fun fs hr => retN X2 hx (t := .boolean) hret (by simp) (hb hby d_jdk_42_117_16) hr) (Q := Q_rm_bla Z a ch t kt cz ta ka ci h0 n0) (by rw [e2]; exact ⟨rfl, N2, rfl⟩) (by decide) (by decide)
theorem d_prog_17_4_0 : decode prog_17_method_4_code 0 = .ok (.aload_n 0, 1) := by decide +kernel
theorem d_prog_17_4_1 : decode prog_17_method_4_code 1 = .ok (.aload_n 1, 1) := by decide +kernel
theorem d_prog_17_4_2 : decode prog_17_method_4_code 2 = .ok (.invokestatic 16, 3) := by decide +kernel
theorem pd_14 : parseMethodDescriptor "(Ljava/lang/String;Ljava/lang/Object;)V" = some ⟨[(.object "java/lang/String"), (.object "java/lang/Object")], none⟩ := by decide +kernel
theorem d_prog_17_4_5 : decode prog_17_method_4_code 5 = .ok (.aload_n 1, 1) := by decide +kernel
theorem d_prog_17_4_6 : decode prog_17_method_4_code 6 = .ok (.invokevirtual 47, 3) := by decide +kernel
theorem d_prog_17_4_9 : decode prog_17_method_4_code 9 = .ok (.ifCond .eq 17, 3) := by decide +kernel
theorem d_prog_17_4_26 : decode prog_17_method_4_code 26 = .ok (.iconst 0, 1) := by decide +kernel
theorem d_prog_17_4_27 : decode prog_17_method_4_code 27 = .ok (.istore_n 2, 1) := by decide +kernel
theorem d_prog_17_4_28 : decode prog_17_method_4_code 28 = .ok (.iload_n 2, 1) := by decide +kernel
theorem d_prog_17_4_29 : decode prog_17_method_4_code 29 = .ok (.aload_n 1, 1) := by decide +kernel
theorem d_prog_17_4_30 : decode prog_17_method_4_code 30 = .ok (.invokevirtual 53, 3) := by decide +kernel
theorem d_prog_17_4_33 : decode prog_17_method_4_code 33 = .ok (.if_icmp .ge 110, 3) := by decide +kernel
theorem d_prog_17_4_36 : decode prog_17_method_4_code 36 = .ok (.aload_n 1, 1) := by decide +kernel
theorem d_prog_17_4_37 : decode prog_17_method_4_code 37 = .ok (.iload_n 2, 1) := by decide +kernel
theorem d_prog_17_4_38 : decode prog_17_method_4_code 38 = .ok (.invokevirtual 57, 3) := by decide +kernel
theorem pd_15 : parseMethodDescriptor "(I)C" = some ⟨[.int], some .char⟩ := by decide +kernel
theorem d_prog_17_4_41 : decode prog_17_method_4_code 41 = .ok (.istore_n 3, 1) := by decide +kernel
theorem d_prog_17_4_42 : decode prog_17_method_4_code 42 = .ok (.iload_n 3, 1) := by decide +kernel
theorem d_prog_17_4_43 : decode prog_17_method_4_code 43 = .ok (.invokestatic 61, 3) := by decide +kernel
theorem d_prog_17_4_46 : decode prog_17_method_4_code 46 = .ok (.ifCond .eq 39, 3) := by decide +kernel
theorem d_prog_17_4_85 : decode prog_17_method_4_code 85 = .ok (.iload_n 3, 1) := by decide +kernel
theorem d_prog_17_4_86 : decode prog_17_method_4_code 86 = .ok (.invokestatic 67, 3) := by decide +kernel
theorem d_prog_17_4_89 : decode prog_17_method_4_code 89 = .ok (.ifCond .ne 7, 3) := by decide +kernel
theorem d_prog_17_4_92 : decode prog_17_method_4_code 92 = .ok (.iconst 1, 1) := by decide +kernel
theorem d_prog_17_4_93 : decode prog_17_method_4_code 93 = .ok (.goto 4, 3) := by decide +kernel
theorem d_prog_17_4_97 : decode prog_17_method_4_code 97 = .ok (.istore 4, 2) := by decide +kernel
theorem d_prog_17_4_99 : decode prog_17_method_4_code 99 = .ok (.iload 4, 2) := by decide +kernel
theorem d_prog_17_4_101 : decode prog_17_method_4_code 101 = .ok (.ifCond .eq 22, 3) := by decide +kernel
theorem d_prog_17_4_104 : decode prog_17_method_4_code 104 = .ok (.iload_n 3, 1) := by decide +kernel
theorem d_prog_17_4_105 : decode prog_17_method_4_code 105 = .ok (.invokestatic 70, 3) := by decide +kernel
theorem d_prog_17_4_108 : decode prog_17_method_4_code 108 = .ok (.ifCond .ne 15, 3) := by decide +kernel
theorem d_prog_17_4_111 : decode prog_17_method_4_code 111 = .ok (.iload_n 3, 1) := by decide +kernel
theorem d_prog_17_4_112 : decode prog_17_method_4_code 112 = .ok (.ldc 73, 2) := by decide +kernel
theorem d_prog_17_4_114 : decode prog_17_method_4_code 114 = .ok (.if_icmp .eq 9, 3) := by decide +kernel
theorem d_prog_17_4_117 : decode prog_17_method_4_code 117 = .ok (.iload_n 3, 1) := by decide +kernel
theorem d_prog_17_4_118 : decode prog_17_method_4_code 118 = .ok (.ldc 74, 2) := by decide +kernel
theorem d_prog_17_4_120 : decode prog_17_method_4_code 120 = .ok (.if_icmp .ne 17, 3) := by decide +kernel
theorem d_prog_17_4_137 : decode prog_17_method_4_code 137 = .ok (.iinc 2 1, 3) := by decide +kernel
theorem d_prog_17_4_140 : decode prog_17_method_4_code 140 = .ok (.goto (-112), 3) := by decide +kernel
theorem d_prog_17_4_143 : decode prog_17_method_4_code 143 = .ok (.aload_n 1, 1) := by decide +kernel
theorem d_prog_17_4_144 : decode prog_17_method_4_code 144 = .ok (.areturn, 1) := by decide +kernel
theorem ef_27 (m : MethodId) (nm : Nat) (a : Nat) : entryFrame m #[(.ref nm), (.ref a)] 5 = mkF m 0 #[rv nm, rv a, .unset, .unset, .unset] [] := by first | (simp [entryFrame, mkF, argsToLocals, Value.category]; done) | rfl
abbrev ym_26 : MethodName := ⟨"com/example/labmeld/labmeld/finding/Check", "text", "(Ljava/lang/String;Ljava/lang/String;)Ljava/lang/String;"⟩
def Q_rm_txt (Z : State) (nm : Nat) (a : Nat) (ch : Int32) (t : Nat) (kt : ClassId) (cz : Int32) (ta : Nat) (ka : ClassId) (ci : Nat) (fm : Value) (h0 : Heap) (n0 : Nat) (vv : Option Value) (h : Heap) (LL : List Loc) : Prop := vv = some (.ref a) ∧ Fr n0 LL ∧ h = h0
set_option maxRecDepth 65536 in
set_option maxHeartbeats 40000000 in
theorem rm_txt (l : Launch) (Z : State) (a0 : Array Value) (hw : ∀ d ∈ tables_1, d.before a0 Z = true) (ws : List Jvm.Cond) (nm : Nat) (a : Nat) (ch : Int32) (t : Nat) (kt : ClassId) (cz : Int32) (ta : Nat) (ka : ClassId) (ci : Nat) (fm : Value) (h0 : Heap) (n0 : Nat) (Z0 : n0 ≤ h0.size) (hv : own_Vis ch) (E_a : Exa Z h0 a "java/lang/String") (F_value_a : Fld Z h0 a "java/lang/String" "value" "[B" (.ref t)) (F_coder_a : Fld Z h0 a "java/lang/String" "coder" "B" (.int 0)) (V_t : Arv Z h0 t kt .byte (1 : Int32) [(.int ch.toInt8.toInt32)] (.int (0 : Int32))) (O0 : Old Z n0 h0) (S_COMPACT_STRINGS : Sta Z Z.heap "java/lang/String" "COMPACT_STRINGS" "Z" (.int cz)) (hcz : ¬ cz = (0 : Int32)) (S_A : Sta Z Z.heap "java/lang/CharacterDataLatin1" "A" "[I" (.ref ta)) (TA : Arv Z h0 ta ka .int (256 : Int32) (own_A.map Value.int) (.int (0 : Int32))) (S_instance : Sta Z Z.heap "java/lang/CharacterDataLatin1" "instance" "Ljava/lang/CharacterDataLatin1;" (.ref ci)) (EC : Exa Z h0 ci "java/lang/CharacterDataLatin1") (rf : fm.isRef = true) (S_SIOOBE_FORMATTER : Sta Z Z.heap "jdk/internal/util/Preconditions" "SIOOBE_FORMATTER" "Ljava/util/function/BiFunction;" fm) :
    own_MF l ym_26 prog_17_method_4_code 5 (some (.object "java/lang/String")) ⟨5, 0, 0, 68⟩ ws Z #[(.ref nm), (.ref a)] h0 (Q_rm_txt Z nm a ch t kt cz ta ka ci fm h0 n0) := by
  refine own_begin (plainFor_of_name pn_4) (fun m => ef_27 m nm a) ?_
  intro p e s m below meth c s₁ hret hx hby hml hown hnm hlk X0 e0 hh hZ
  have N0 := Fr.nil n0
  have lt_E_a := own_ltN E_a.lt
  have lt_F_value_a := own_ltN F_value_a.lt
  have lt_F_coder_a := own_ltN F_coder_a.lt
  have lt_V_t := own_ltN V_t.lt
  have lt_TA := own_ltN TA.lt
  have lt_EC := own_ltN EC.lt
  refine og s₁ (mkF m 1 #[rv nm, rv a, .unset, .unset, .unset] [(.ref nm)]) (fun t_ k_ => XS.aloadN X0.here hx rfl (hb hby d_prog_17_4_0) rfl rfl k_) ?_
  refine og s₁ (mkF m 2 #[rv nm, rv a, .unset, .unset, .unset] [(.ref a), (.ref nm)]) (fun t_ k_ => XS.aloadN X0.here hx rfl (hb hby d_prog_17_4_1) rfl rfl k_) ?_
  obtain ⟨_, _, ⟨T1, L1, k1, n1⟩, -, X1, ⟨Lc1, hQ1, l1, y1, z1⟩, st1⟩ := Jvm.LawKit.callS X0 hx (y := ym_8) hown (mvT hZ (own_w hw 87 rfl)) (mvT hZ (own_w hw 68 rfl)) (mvT hZ (own_w hw 69 rfl)) (mvT hZ (own_w hw 70 rfl)) (by decide) (backOf (W := 0) (rm_pre l Z a0 hw [] nm a h0 n0 (show n0 ≤ h0.size by omega)) hZ (own_w hw 70 rfl) (own_w hw 69 rfl) (by decide) (by decide)) (g := (mkF m 2 #[rv nm, rv a, .unset, .unset, .unset] [(.ref a), (.ref nm)])) rfl (by rw [hml]; rfl) (argsL := [(.ref nm), (.ref a)]) (rest := []) (lenOf pd_14 rfl) rfl (by show 2 * 0 + _ ≤ _; exact Nat.le_of_eq rfl) (hb hby d_prog_17_4_2) (fun _ _ => ⟨rfl, e0, (by decide : 0 + 0 ≤ _), (by decide : 0 + 0 ≤ _)⟩)
  dsimp only [Pt.U, Pt.locs, Pt.cells, Pt.slots] at X1 l1 y1 z1 st1 hQ1
  replace l1 := l1.symm; replace y1 := y1.symm; replace z1 := z1.symm; subst l1 y1 z1
  obtain ⟨rfl, M1, e1⟩ := hQ1
  have N1 := Fr.app N0 M1
  refine og T1 (mkF m 5 #[rv nm, rv a, .unset, .unset, .unset] []) (fun t_ k_ => st1 _ k_) ?_
  refine og T1 (mkF m 6 #[rv nm, rv a, .unset, .unset, .unset] [(.ref a)]) (fun t_ k_ => XS.aloadN X1.here hx rfl (hb hby d_prog_17_4_5) rfl rfl k_) ?_
  obtain ⟨cq2, kq2, q2a, q2b, q2c⟩ := isOf hZ e1 E_a
  obtain ⟨_, _, ⟨T2, L2, k2, n2⟩, -, X2, ⟨Lc2, hQ2, l2, y2, z2⟩, st2⟩ := X1.virtualBack hx (y := ym_25) (z := ym_25) hown (mvT hZ (own_w hw 88 rfl)) (mvT hZ (own_w hw 89 rfl)) (notFace_of_selects (args := #[]) (mvT hZ (own_w hw 91 rfl))) (mvT hZ (own_w hw 91 rfl)) (mvT hZ (own_w hw 90 rfl)) (by decide) (backOf (W := 0) (rm_bla l Z a0 hw [] a ch t kt cz ta ka ci h0 n0 (show n0 ≤ h0.size by omega) hv E_a F_value_a F_coder_a V_t O0 S_COMPACT_STRINGS hcz S_A TA S_instance EC) hZ (own_w hw 92 rfl) (own_w hw 2 rfl) (by decide) (by decide)) q2a q2c (g := (mkF m 6 #[rv nm, rv a, .unset, .unset, .unset] [(.ref a)])) rfl (by rw [hml]; rfl) (Steps.refl _) (argsL := []) (rest := []) (lenOf pd_8 rfl) rfl (by show 2 * 0 + _ ≤ _; exact Nat.le_of_eq rfl) (hb hby d_prog_17_4_6) (fun _ _ => ⟨rfl, e1, (by decide : 0 + 0 ≤ _), (by decide : 0 + 0 ≤ _)⟩)
  dsimp only [Pt.U, Pt.locs, Pt.cells, Pt.slots] at X2 l2 y2 z2 st2 hQ2
  replace l2 := l2.symm; replace y2 := y2.symm; replace z2 := z2.symm; subst l2 y2 z2
  obtain ⟨rfl, M2, e2⟩ := hQ2
  have N2 := Fr.app N1 M2
  refine og T2 (mkF m 9 #[rv nm, rv a, .unset, .unset, .unset] [(.int 0)]) (fun t_ k_ => st2.trans k_) ?_
  refine og T2 (mkF m 26 #[rv nm, rv a, .unset, .unset, .unset] []) (fun t_ k_ => XS.ifYes X2.here hx rfl (pc0 := 9) (pc' := 26) rfl (hb hby d_prog_17_4_9) rfl ((if0 _ _).trans (teq (by decide)).1) (by decide) (by decide) k_) ?_
  refine og T2 (mkF m 27 #[rv nm, rv a, .unset, .unset, .unset] [(.int 0)]) (fun t_ k_ => XS.iconst X2.here hx rfl (hb hby d_prog_17_4_26) k_) ?_
  refine og T2 (mkF m 28 #[rv nm, rv a, iv 0, .unset, .unset] []) (fun t_ k_ => XS.istoreN X2.here hx rfl (hb hby d_prog_17_4_27) rfl (l' := #[rv nm, rv a, iv 0, .unset, .unset]) rfl k_) ?_
  refine og T2 (mkF m 29 #[rv nm, rv a, iv 0, .unset, .unset] [(.int 0)]) (fun t_ k_ => XS.iloadN X2.here hx rfl (hb hby d_prog_17_4_28) rfl k_) ?_
  refine og T2 (mkF m 30 #[rv nm, rv a, iv 0, .unset, .unset] [(.ref a), (.int 0)]) (fun t_ k_ => XS.aloadN X2.here hx rfl (hb hby d_prog_17_4_29) rfl rfl k_) ?_
  obtain ⟨cq3, kq3, q3a, q3b, q3c⟩ := isOf hZ e2 E_a
  obtain ⟨_, _, ⟨T3, L3, k3, n3⟩, -, X3, ⟨Lc3, hQ3, l3, y3, z3⟩, st3⟩ := X2.virtualBack hx (y := ym_15) (z := ym_15) hown (mvT hZ (own_w hw 132 rfl)) (mvT hZ (own_w hw 123 rfl)) (notFace_of_selects (args := #[]) (mvT hZ (own_w hw 125 rfl))) (mvT hZ (own_w hw 125 rfl)) (mvT hZ (own_w hw 124 rfl)) (by decide) (backOf (W := 1) (rm_len l Z a0 hw [] a ch t kt cz h0 n0 (show n0 ≤ h0.size by omega) hv E_a F_value_a F_coder_a V_t O0 S_COMPACT_STRINGS hcz) hZ (own_w hw 126 rfl) (own_w hw 2 rfl) (by decide) (by decide)) q3a q3c (g := (mkF m 30 #[rv nm, rv a, iv 0, .unset, .unset] [(.ref a), (.int 0)])) rfl (by rw [hml]; rfl) (Steps.refl _) (argsL := []) (rest := [(.int 0)]) (lenOf pd_13 rfl) rfl (by show 2 * 0 + _ ≤ _; exact Nat.le_of_eq rfl) (hb hby d_prog_17_4_30) (fun _ _ => ⟨rfl, e2, (by decide : 0 + 0 ≤ _), (by decide : 0 + 0 ≤ _)⟩)
  dsimp only [Pt.U, Pt.locs, Pt.cells, Pt.slots] at X3 l3 y3 z3 st3 hQ3
  replace l3 := l3.symm; replace y3 := y3.symm; replace z3 := z3.symm; subst l3 y3 z3
  obtain ⟨rfl, M3, e3⟩ := hQ3
  have N3 := Fr.app N2 M3
  refine og T3 (mkF m 33 #[rv nm, rv a, iv 0, .unset, .unset] [(.int 1), (.int 0)]) (fun t_ k_ => st3.trans k_) ?_
  refine og T3 (mkF m 36 #[rv nm, rv a, iv 0, .unset, .unset] []) (fun t_ k_ => XS.icmpNo X3.here hx rfl (hb hby d_prog_17_4_33) rfl (tlt (by decide)).2.1 k_) ?_
  refine og T3 (mkF m 37 #[rv nm, rv a, iv 0, .unset, .unset] [(.ref a)]) (fun t_ k_ => XS.aloadN X3.here hx rfl (hb hby d_prog_17_4_36) rfl rfl k_) ?_
  refine og T3 (mkF m 38 #[rv nm, rv a, iv 0, .unset, .unset] [(.int 0), (.ref a)]) (fun t_ k_ => XS.iloadN X3.here hx rfl (hb hby d_prog_17_4_37) rfl k_) ?_
  obtain ⟨cq4, kq4, q4a, q4b, q4c⟩ := isOf hZ e3 E_a
  obtain ⟨_, _, ⟨T4, L4, k4, n4⟩, -, X4, ⟨Lc4, hQ4, l4, y4, z4⟩, st4⟩ := X3.virtualBack hx (y := ym_16) (z := ym_16) hown (mvT hZ (own_w hw 133 rfl)) (mvT hZ (own_w hw 134 rfl)) (notFace_of_selects (args := #[]) (mvT hZ (own_w hw 136 rfl))) (mvT hZ (own_w hw 136 rfl)) (mvT hZ (own_w hw 135 rfl)) (by decide) (backOf (W := 0) (rm_sca l Z a0 hw [] a ch t kt cz fm h0 n0 (show n0 ≤ h0.size by omega) hv E_a F_value_a F_coder_a V_t O0 S_COMPACT_STRINGS hcz rf S_SIOOBE_FORMATTER) hZ (own_w hw 137 rfl) (own_w hw 2 rfl) (by decide) (by decide)) q4a q4c (g := (mkF m 38 #[rv nm, rv a, iv 0, .unset, .unset] [(.int 0), (.ref a)])) rfl (by rw [hml]; rfl) (Steps.refl _) (argsL := [(.int 0)]) (rest := []) (lenOf pd_15 rfl) rfl (by show 2 * 0 + _ ≤ _; exact Nat.le_of_eq rfl) (hb hby d_prog_17_4_38) (fun _ _ => ⟨rfl, e3, (by decide : 0 + 0 ≤ _), (by decide : 0 + 0 ≤ _)⟩)
  dsimp only [Pt.U, Pt.locs, Pt.cells, Pt.slots] at X4 l4 y4 z4 st4 hQ4
  replace l4 := l4.symm; replace y4 := y4.symm; replace z4 := z4.symm; subst l4 y4 z4
  obtain ⟨rfl, M4, e4⟩ := hQ4
  have N4 := Fr.app N3 M4
  refine og T4 (mkF m 41 #[rv nm, rv a, iv 0, .unset, .unset] [(.int ch)]) (fun t_ k_ => st4.trans k_) ?_
  refine og T4 (mkF m 42 #[rv nm, rv a, iv 0, iv ch, .unset] []) (fun t_ k_ => XS.istoreN X4.here hx rfl (hb hby d_prog_17_4_41) rfl (l' := #[rv nm, rv a, iv 0, iv ch, .unset]) rfl k_) ?_
  refine og T4 (mkF m 43 #[rv nm, rv a, iv 0, iv ch, .unset] [(.int ch)]) (fun t_ k_ => XS.iloadN X4.here hx rfl (hb hby d_prog_17_4_42) rfl k_) ?_
  obtain ⟨_, _, ⟨T5, L5, k5, n5⟩, -, X5, ⟨Lc5, hQ5, l5, y5, z5⟩, st5⟩ := Jvm.LawKit.callS X4 hx (y := ym_17) hown (mvT hZ (own_w hw 149 rfl)) (mvT hZ (own_w hw 150 rfl)) (mvT hZ (own_w hw 151 rfl)) (mvT hZ (own_w hw 152 rfl)) (by decide) (backOf (W := 0) (rm_his l Z a0 hw [] ch h0 n0 (show n0 ≤ h0.size by omega) hv) hZ (own_w hw 152 rfl) (own_w hw 151 rfl) (by decide) (by decide)) (g := (mkF m 43 #[rv nm, rv a, iv 0, iv ch, .unset] [(.int ch)])) rfl (by rw [hml]; rfl) (argsL := [(.int ch)]) (rest := []) (lenOf pd_0 rfl) rfl (by show 2 * 0 + _ ≤ _; exact Nat.le_of_eq rfl) (hb hby d_prog_17_4_43) (fun _ _ => ⟨rfl, e4, (by decide : 0 + 0 ≤ _), (by decide : 0 + 0 ≤ _)⟩)
  dsimp only [Pt.U, Pt.locs, Pt.cells, Pt.slots] at X5 l5 y5 z5 st5 hQ5
  replace l5 := l5.symm; replace y5 := y5.symm; replace z5 := z5.symm; subst l5 y5 z5
  obtain ⟨rfl, M5, e5⟩ := hQ5
  have N5 := Fr.app N4 M5
  refine og T5 (mkF m 46 #[rv nm, rv a, iv 0, iv ch, .unset] [(.int 0)]) (fun t_ k_ => st5 _ k_) ?_
  refine og T5 (mkF m 85 #[rv nm, rv a, iv 0, iv ch, .unset] []) (fun t_ k_ => XS.ifYes X5.here hx rfl (pc0 := 46) (pc' := 85) rfl (hb hby d_prog_17_4_46) rfl ((if0 _ _).trans (teq (by decide)).1) (by decide) (by decide) k_) ?_
  refine og T5 (mkF m 86 #[rv nm, rv a, iv 0, iv ch, .unset] [(.int ch)]) (fun t_ k_ => XS.iloadN X5.here hx rfl (hb hby d_prog_17_4_85) rfl k_) ?_
  obtain ⟨_, _, ⟨T6, L6, k6, n6⟩, -, X6, ⟨Lc6, hQ6, l6, y6, z6⟩, st6⟩ := Jvm.LawKit.callS X5 hx (y := ym_18) hown (mvT hZ (own_w hw 154 rfl)) (mvT hZ (own_w hw 155 rfl)) (mvT hZ (own_w hw 151 rfl)) (mvT hZ (own_w hw 156 rfl)) (by decide) (backOf (W := 0) (rm_los l Z a0 hw [] ch h0 n0 (show n0 ≤ h0.size by omega) hv) hZ (own_w hw 156 rfl) (own_w hw 151 rfl) (by decide) (by decide)) (g := (mkF m 86 #[rv nm, rv a, iv 0, iv ch, .unset] [(.int ch)])) rfl (by rw [hml]; rfl) (argsL := [(.int ch)]) (rest := []) (lenOf pd_0 rfl) rfl (by show 2 * 0 + _ ≤ _; exact Nat.le_of_eq rfl) (hb hby d_prog_17_4_86) (fun _ _ => ⟨rfl, e5, (by decide : 0 + 0 ≤ _), (by decide : 0 + 0 ≤ _)⟩)
  dsimp only [Pt.U, Pt.locs, Pt.cells, Pt.slots] at X6 l6 y6 z6 st6 hQ6
  replace l6 := l6.symm; replace y6 := y6.symm; replace z6 := z6.symm; subst l6 y6 z6
  obtain ⟨rfl, M6, e6⟩ := hQ6
  have N6 := Fr.app N5 M6
  refine og T6 (mkF m 89 #[rv nm, rv a, iv 0, iv ch, .unset] [(.int 0)]) (fun t_ k_ => st6 _ k_) ?_
  refine og T6 (mkF m 92 #[rv nm, rv a, iv 0, iv ch, .unset] []) (fun t_ k_ => XS.ifNo X6.here hx rfl (hb hby d_prog_17_4_89) rfl ((if0 _ _).trans (teq (by decide)).2) k_) ?_
  refine og T6 (mkF m 93 #[rv nm, rv a, iv 0, iv ch, .unset] [(.int 1)]) (fun t_ k_ => XS.iconst X6.here hx rfl (hb hby d_prog_17_4_92) k_) ?_
  refine og T6 (mkF m 97 #[rv nm, rv a, iv 0, iv ch, .unset] [(.int 1)]) (fun t_ k_ => XS.goto X6.here hx rfl (pc0 := 93) (pc' := 97) rfl (hb hby d_prog_17_4_93) (by decide) (by decide) k_) ?_
  refine og T6 (mkF m 99 #[rv nm, rv a, iv 0, iv ch, iv 1] []) (fun t_ k_ => XS.istore X6.here hx rfl (hb hby d_prog_17_4_97) rfl (l' := #[rv nm, rv a, iv 0, iv ch, iv 1]) rfl k_) ?_
  refine og T6 (mkF m 101 #[rv nm, rv a, iv 0, iv ch, iv 1] [(.int 1)]) (fun t_ k_ => XS.iload X6.here hx rfl (hb hby d_prog_17_4_99) rfl k_) ?_
  refine og T6 (mkF m 104 #[rv nm, rv a, iv 0, iv ch, iv 1] []) (fun t_ k_ => XS.ifNo X6.here hx rfl (hb hby d_prog_17_4_101) rfl ((if0 _ _).trans (feq (by decide)).1) k_) ?_
  refine og T6 (mkF m 105 #[rv nm, rv a, iv 0, iv ch, iv 1] [(.int ch)]) (fun t_ k_ => XS.iloadN X6.here hx rfl (hb hby d_prog_17_4_104) rfl k_) ?_
  obtain ⟨_, _, ⟨T7, L7, k7, n7⟩, -, X7, ⟨Lc7, hQ7, l7, y7, z7⟩, st7⟩ := Jvm.LawKit.callS X6 hx (y := ym_20) hown (mvT hZ (own_w hw 158 rfl)) (mvT hZ (own_w hw 159 rfl)) (mvT hZ (own_w hw 151 rfl)) (mvT hZ (own_w hw 160 rfl)) (by decide) (backOf (W := 0) (rm_icc l Z a0 hw [] ch h0 n0 (show n0 ≤ h0.size by omega) hv) hZ (own_w hw 160 rfl) (own_w hw 151 rfl) (by decide) (by decide)) (g := (mkF m 105 #[rv nm, rv a, iv 0, iv ch, iv 1] [(.int ch)])) rfl (by rw [hml]; rfl) (argsL := [(.int ch)]) (rest := []) (lenOf pd_0 rfl) rfl (by show 2 * 0 + _ ≤ _; exact Nat.le_of_eq rfl) (hb hby d_prog_17_4_105) (fun _ _ => ⟨rfl, e6, (by decide : 0 + 0 ≤ _), (by decide : 0 + 0 ≤ _)⟩)
  dsimp only [Pt.U, Pt.locs, Pt.cells, Pt.slots] at X7 l7 y7 z7 st7 hQ7
  replace l7 := l7.symm; replace y7 := y7.symm; replace z7 := z7.symm; subst l7 y7 z7
  obtain ⟨rfl, M7, e7⟩ := hQ7
  have N7 := Fr.app N6 M7
  refine og T7 (mkF m 108 #[rv nm, rv a, iv 0, iv ch, iv 1] [(.int 0)]) (fun t_ k_ => st7 _ k_) ?_
  refine og T7 (mkF m 111 #[rv nm, rv a, iv 0, iv ch, iv 1] []) (fun t_ k_ => XS.ifNo X7.here hx rfl (hb hby d_prog_17_4_108) rfl ((if0 _ _).trans (teq (by decide)).2) k_) ?_
  refine og T7 (mkF m 112 #[rv nm, rv a, iv 0, iv ch, iv 1] [(.int ch)]) (fun t_ k_ => XS.iloadN X7.here hx rfl (hb hby d_prog_17_4_111) rfl k_) ?_
  refine og T7 (mkF m 114 #[rv nm, rv a, iv 0, iv ch, iv 1] [(.int 65534), (.int ch)]) (fun t_ k_ => X7.ldcInt hx hown (mvT hZ (own_w hw 164 rfl)) (g := (mkF m 112 #[rv nm, rv a, iv 0, iv ch, iv 1] [(.int ch)])) rfl (hb hby d_prog_17_4_112) _ k_) ?_
  refine og T7 (mkF m 117 #[rv nm, rv a, iv 0, iv ch, iv 1] []) (fun t_ k_ => XS.icmpNo X7.here hx rfl (hb hby d_prog_17_4_114) rfl (feq (hv.ne (by decide))).1 k_) ?_
  refine og T7 (mkF m 118 #[rv nm, rv a, iv 0, iv ch, iv 1] [(.int ch)]) (fun t_ k_ => XS.iloadN X7.here hx rfl (hb hby d_prog_17_4_117) rfl k_) ?_
  refine og T7 (mkF m 120 #[rv nm, rv a, iv 0, iv ch, iv 1] [(.int 65535), (.int ch)]) (fun t_ k_ => X7.ldcInt hx hown (mvT hZ (own_w hw 165 rfl)) (g := (mkF m 118 #[rv nm, rv a, iv 0, iv ch, iv 1] [(.int ch)])) rfl (hb hby d_prog_17_4_118) _ k_) ?_
  refine og T7 (mkF m 137 #[rv nm, rv a, iv 0, iv ch, iv 1] []) (fun t_ k_ => XS.icmpYes X7.here hx rfl (pc0 := 120) (pc' := 137) rfl (hb hby d_prog_17_4_120) rfl (feq (hv.ne (by decide))).2 (by decide) (by decide) k_) ?_
  refine og T7 (mkF m 140 #[rv nm, rv a, iv 1, iv ch, iv 1] []) (fun t_ k_ => XS.iinc X7.here hx rfl (hb hby d_prog_17_4_137) rfl (l' := #[rv nm, rv a, iv 1, iv ch, iv 1]) rfl k_) ?_
  refine og T7 (mkF m 28 #[rv nm, rv a, iv 1, iv ch, iv 1] []) (fun t_ k_ => XS.goto X7.here hx rfl (pc0 := 140) (pc' := 28) rfl (hb hby d_prog_17_4_140) (by decide) (by decide) k_) ?_
  refine og T7 (mkF m 29 #[rv nm, rv a, iv 1, iv ch, iv 1] [(.int 1)]) (fun t_ k_ => XS.iloadN X7.here hx rfl (hb hby d_prog_17_4_28) rfl k_) ?_
  refine og T7 (mkF m 30 #[rv nm, rv a, iv 1, iv ch, iv 1] [(.ref a), (.int 1)]) (fun t_ k_ => XS.aloadN X7.here hx rfl (hb hby d_prog_17_4_29) rfl rfl k_) ?_
  obtain ⟨cq8, kq8, q8a, q8b, q8c⟩ := isOf hZ e7 E_a
  obtain ⟨_, _, ⟨T8, L8, k8, n8⟩, -, X8, ⟨Lc8, hQ8, l8, y8, z8⟩, st8⟩ := X7.virtualBack hx (y := ym_15) (z := ym_15) hown (mvT hZ (own_w hw 132 rfl)) (mvT hZ (own_w hw 123 rfl)) (notFace_of_selects (args := #[]) (mvT hZ (own_w hw 125 rfl))) (mvT hZ (own_w hw 125 rfl)) (mvT hZ (own_w hw 124 rfl)) (by decide) (backOf (W := 1) (rm_len l Z a0 hw [] a ch t kt cz h0 n0 (show n0 ≤ h0.size by omega) hv E_a F_value_a F_coder_a V_t O0 S_COMPACT_STRINGS hcz) hZ (own_w hw 126 rfl) (own_w hw 2 rfl) (by decide) (by decide)) q8a q8c (g := (mkF m 30 #[rv nm, rv a, iv 1, iv ch, iv 1] [(.ref a), (.int 1)])) rfl (by rw [hml]; rfl) (Steps.refl _) (argsL := []) (rest := [(.int 1)]) (lenOf pd_13 rfl) rfl (by show 2 * 0 + _ ≤ _; exact Nat.le_of_eq rfl) (hb hby d_prog_17_4_30) (fun _ _ => ⟨rfl, e7, (by decide : 0 + 0 ≤ _), (by decide : 0 + 0 ≤ _)⟩)
  dsimp only [Pt.U, Pt.locs, Pt.cells, Pt.slots] at X8 l8 y8 z8 st8 hQ8
  replace l8 := l8.symm; replace y8 := y8.symm; replace z8 := z8.symm; subst l8 y8 z8
  obtain ⟨rfl, M8, e8⟩ := hQ8
  have N8 := Fr.app N7 M8
  refine og T8 (mkF m 33 #[rv nm, rv a, iv 1, iv ch, iv 1] [(.int 1), (.int 1)]) (fun t_ k_ => st8.trans k_) ?_
  refine og T8 (mkF m 143 #[rv nm, rv a, iv 1, iv ch, iv 1] []) (fun t_ k_ => XS.icmpYes X8.here hx rfl (pc0 := 33) (pc' := 143) rfl (hb hby d_prog_17_4_33) rfl (flt (by decide)).2.1 (by decide) (by decide) k_) ?_
  refine og T8 (mkF m 144 #[rv nm, rv a, iv 1, iv ch, iv 1] [(.ref a)]) (fun t_ k_ => XS.aloadN X8.here hx rfl (hb hby d_prog_17_4_143) rfl rfl k_) ?_
  exact own_out X8 (v := some (.ref a)) (fun h => by rw [hret] at h; cases h) hlk (fun fs hr => own_retA X8 hx hret rfl rfl (hb hby d_prog_17_4_144) hr) (Q := Q_rm_txt Z nm a ch t kt cz ta ka ci fm h0 n0) (by rw [e8]; exact ⟨rfl, N8, rfl⟩) (by decide) (by decide)
theorem d_prog_20_16_0 : decode prog_20_method_16_code 0 = .ok (.ldc 7, 2) := by decide +kernel
theorem d_prog_20_16_2 : decode prog_20_method_16_code 2 = .ok (.aload_n 0, 1) := by decide +kernel
theorem d_prog_20_16_3 : decode prog_20_method_16_code 3 = .ok (.invokestatic 73, 3) := by decide +kernel
theorem pd_16 : parseMethodDescriptor "(Ljava/lang/String;Ljava/lang/String;)Ljava/lang/String;" = some ⟨[(.object "java/lang/String"), (.object "java/lang/String")], some (.object "java/lang/String")⟩ := by decide +kernel
theorem d_prog_20_16_6 : decode prog_20_method_16_code 6 = .ok (.pop, 1) := by decide +kernel
theorem d_prog_20_16_7 : decode prog_20_method_16_code 7 = .ok (.return_, 1) := by decide +kernel
theorem pn_8 : plainName "com/example/labmeld/labmeld/finding/Finding$Address" = true := by first | (simp [plainName, overriddenIn]; done) | decide +kernel
theorem ef_28 (m : MethodId) (a : Nat) : entryFrame m #[(.ref a)] 1 = mkF m 0 #[rv a] [] := by first | (simp [entryFrame, mkF, argsToLocals, Value.category]; done) | rfl
abbrev ym_27 : MethodName := ⟨"com/example/labmeld/labmeld/finding/Finding$Address", "lambda$new$0", "(Ljava/lang/String;)V"⟩
def Q_rm_lam0 (Z : State) (a : Nat) (ch : Int32) (t : Nat) (kt : ClassId) (cz : Int32) (ta : Nat) (ka : ClassId) (ci : Nat) (fm : Value) (h0 : Heap) (n0 : Nat) (vv : Option Value) (h : Heap) (LL : List Loc) : Prop := vv = none ∧ Fr n0 LL ∧ Keep h0 h []
set_option maxRecDepth 65536 in
set_option maxHeartbeats 40000000 in
theorem rm_lam0 (l : Launch) (Z : State) (a0 : Array Value) (hw : ∀ d ∈ tables_1, d.before a0 Z = true) (ws : List Jvm.Cond) (a : Nat) (ch : Int32) (t : Nat) (kt : ClassId) (cz : Int32) (ta : Nat) (ka : ClassId) (ci : Nat) (fm : Value) (h0 : Heap) (n0 : Nat) (Z0 : n0 ≤ h0.size) (hv : own_Vis ch) (E_a : Exa Z h0 a "java/lang/String") (F_value_a : Fld Z h0 a "java/lang/String" "value" "[B" (.ref t)) (F_coder_a : Fld Z h0 a "java/lang/String" "coder" "B" (.int 0)) (V_t : Arv Z h0 t kt .byte (1 : Int32) [(.int ch.toInt8.toInt32)] (.int (0 : Int32))) (O0 : Old Z n0 h0) (S_COMPACT_STRINGS : Sta Z Z.heap "java/lang/String" "COMPACT_STRINGS" "Z" (.int cz)) (hcz : ¬ cz = (0 : Int32)) (S_A : Sta Z Z.heap "java/lang/CharacterDataLatin1" "A" "[I" (.ref ta)) (TA : Arv Z h0 ta ka .int (256 : Int32) (own_A.map Value.int) (.int (0 : Int32))) (S_instance : Sta Z Z.heap "java/lang/CharacterDataLatin1" "instance" "Ljava/lang/CharacterDataLatin1;" (.ref ci)) (EC : Exa Z h0 ci "java/lang/CharacterDataLatin1") (rf : fm.isRef = true) (S_SIOOBE_FORMATTER : Sta Z Z.heap "jdk/internal/util/Preconditions" "SIOOBE_FORMATTER" "Ljava/util/function/BiFunction;" fm) :
    MetFree l (⟨"com/example/labmeld/labmeld/finding/Finding$Address", "lambda$new$0", "(Ljava/lang/String;)V"⟩ : MethodName) (head1 (Jvm.Cond.code (⟨"com/example/labmeld/labmeld/finding/Finding$Address", "lambda$new$0", "(Ljava/lang/String;)V"⟩ : MethodName) prog_20_method_16_code 1 none :: ws) ({ frames := 6, cells := 2, slots := 28, locals := 84 } : Room)) (fun aa UU => aa = #[(.ref a)] ∧ Z.Warmed39 UU.vm ∧ UU.heap = h0) (fun _ _ _ _ _ => True) (fun _ UU oo UU' => ∃ vv LL, oo = .returned vv ∧ Q_rm_lam0 Z a ch t kt cz ta ka ci fm h0 n0 vv UU'.heap LL ∧ ReturnedEndW UU oo UU' LL ({ frames := 6, cells := 2, slots := 28, locals := 84 } : Room).cells ({ frames := 6, cells := 2, slots := 28, locals := 84 } : Room).slots) := by
  refine MetFree.of_bodySF (plainFor_of_name pn_8) hisR ?_
  intro p e s m args below meth c s₁ Bd hml0 hP hK
  obtain ⟨rfl, hZ, hh⟩ := hP
  have hx := Bd.exec
  have hby := Bd.bytes
  have hret := Bd.returns
  have hml : c.maxLocals = 1 := hml0
  have hown : s.vm.findClass "com/example/labmeld/labmeld/finding/Finding$Address" = some m.cls := findClass_of_methodNamed Bd.named
  have hnm := (name_of_methodNamed Bd.named Bd.method).1
  have hlk : meth.locks = false := BodyLoose.notSynchronized Bd
  have X0 : Stand p l e ({ frames := 6, cells := 2, slots := 28, locals := 84 } : Room) (s.setVm s.vm) m #[(.ref a)] below meth c s₁ [] 0 0 := Stand.of_body Bd
  have e0 : s₁.heap = h0 := by rw [← hh, Bd.state]; rfl
  have N0 := Fr.nil n0
  have hS : s.Since s.vm 0 := own_since s
  have hk : 0 ≤ h0.size := Nat.zero_le _
  have hwS : ∀ a ∈ Bundle.stringAtoms, a.before a0 Z = true := fun d hd => hw d ((by decide +kernel : ∀ d ∈ Bundle.stringAtoms, d ∈ tables_1) d hd)
  have lt_E_a := own_ltN E_a.lt
  have lt_F_value_a := own_ltN F_value_a.lt
  have lt_F_coder_a := own_ltN F_coder_a.lt
  have lt_V_t := own_ltN V_t.lt
  have lt_TA := own_ltN TA.lt
  have lt_EC := own_ltN EC.lt
  refine own_in (ef_28 m a) ?_
  obtain ⟨b1, T1, h1, k1, X1, e1, E1, hS, hk, hZ, hown, st1⟩ := ldcS X0 hx hZ hown (own_w hw 64 rfl) hwS e0 hS (show _ ≤ h0.size by omega) (g := (mkF m 0 #[rv a] [])) rfl (hb hby d_prog_20_16_0) (n := 24) (by decide) (by decide) (by decide) (by decide)
  have z1 := E1.1
  have O1 := O0.ext E1
  have K1 := (Keep.refl h0 []).ext E1
  refine og T1 (mkF m 2 #[rv a] [(.ref b1)]) (fun t_ k_ => st1 _ k_) ?_
  refine og T1 (mkF m 3 #[rv a] [(.ref a), (.ref b1)]) (fun t_ k_ => XS.aloadN X1.here hx rfl (hb hby d_prog_20_16_2) rfl rfl k_) ?_
  have ff3 := (E_a.ext E1)
  have ff4 := (F_value_a.ext E1)
  have ff5 := (F_coder_a.ext E1)
  have ff6 := (V_t.ext E1)
  have ff7 := (TA.ext E1)
  have ff8 := (EC.ext E1)
  obtain ⟨_, _, ⟨T2, L2, k2, n2⟩, -, X2, ⟨Lc2, hQ2, l2, y2, z2⟩, st2⟩ := Jvm.LawKit.callS X1 hx (y := ym_26) hown (mvT hZ (own_w hw 84 rfl)) (mvT hZ (own_w hw 85 rfl)) (mvT hZ (own_w hw 69 rfl)) (mvT hZ (own_w hw 86 rfl)) (by decide) (backOf (W := 0) (rm_txt l Z a0 hw [] b1 a ch t kt cz ta ka ci fm h1 n0 (show n0 ≤ h1.size by omega) hv ff3 ff4 ff5 ff6 O1 S_COMPACT_STRINGS hcz S_A ff7 S_instance ff8 rf S_SIOOBE_FORMATTER) hZ (own_w hw 86 rfl) (own_w hw 69 rfl) (by decide) (by decide)) (g := (mkF m 3 #[rv a] [(.ref a), (.ref b1)])) rfl (by rw [hml]; rfl) (argsL := [(.ref b1), (.ref a)]) (rest := []) (lenOf pd_16 rfl) rfl (by show 2 * 0 + _ ≤ _; exact Nat.le_of_eq rfl) (hb hby d_prog_20_16_3) (fun _ _ => ⟨rfl, e1, (by decide : 2 + 0 ≤ _), (by decide : 28 + 0 ≤ _)⟩)
  dsimp only [Pt.U, Pt.locs, Pt.cells, Pt.slots] at X2 l2 y2 z2 st2 hQ2
  replace l2 := l2.symm; replace y2 := y2.symm; replace z2 := z2.symm; subst l2 y2 z2
  obtain ⟨rfl, M2, e2⟩ := hQ2
  have N2 := Fr.app N0 M2
  refine og T2 (mkF m 6 #[rv a] [(.ref a)]) (fun t_ k_ => st2 _ k_) ?_
  refine og T2 (mkF m 7 #[rv a] []) (fun t_ k_ => XS.pop X2.here hx rfl (hb hby d_prog_20_16_6) rfl rfl k_) ?_
  exact own_outW X2 hS (show _ ≤ T2.heap.size by rw [e2]; omega) (v := none) (fun _ => rfl) hlk (fun fs hr => X2.returnOut hx hret (hb hby d_prog_20_16_7) hr) (Q := Q_rm_lam0 Z a ch t kt cz ta ka ci fm h0 n0) (by rw [e2]; exact ⟨rfl, N2, K1⟩) (by decide) (by decide)
theorem d_prog_20_15_0 : decode prog_20_method_15_code 0 = .ok (.ldc 25, 2) := by decide +kernel
theorem d_prog_20_15_2 : decode prog_20_method_15_code 2 = .ok (.aload_n 0, 1) := by decide +kernel
theorem d_prog_20_15_3 : decode prog_20_method_15_code 3 = .ok (.invokestatic 73, 3) := by decide +kernel
theorem d_prog_20_15_6 : decode prog_20_method_15_code 6 = .ok (.pop, 1) := by decide +kernel
theorem d_prog_20_15_7 : decode prog_20_method_15_code 7 = .ok (.return_, 1) := by decide +kernel
theorem ef_29 (m : MethodId) (a : Nat) : entryFrame m #[(.ref a)] 1 = mkF m 0 #[rv a] [] := by first | (simp [entryFrame, mkF, argsToLocals, Value.category]; done) | rfl
abbrev ym_28 : MethodName := ⟨"com/example/labmeld/labmeld/finding/Finding$Address", "lambda$new$1", "(Ljava/lang/String;)V"⟩
def Q_rm_lam1 (Z : State) (a : Nat) (ch : Int32) (t : Nat) (kt : ClassId) (cz : Int32) (ta : Nat) (ka : ClassId) (ci : Nat) (fm : Value) (h0 : Heap) (n0 : Nat) (vv : Option Value) (h : Heap) (LL : List Loc) : Prop := vv = none ∧ Fr n0 LL ∧ Keep h0 h []
set_option maxRecDepth 65536 in
set_option maxHeartbeats 40000000 in
theorem rm_lam1 (l : Launch) (Z : State) (a0 : Array Value) (hw : ∀ d ∈ tables_1, d.before a0 Z = true) (ws : List Jvm.Cond) (a : Nat) (ch : Int32) (t : Nat) (kt : ClassId) (cz : Int32) (ta : Nat) (ka : ClassId) (ci : Nat) (fm : Value) (h0 : Heap) (n0 : Nat) (Z0 : n0 ≤ h0.size) (hv : own_Vis ch) (E_a : Exa Z h0 a "java/lang/String") (F_value_a : Fld Z h0 a "java/lang/String" "value" "[B" (.ref t)) (F_coder_a : Fld Z h0 a "java/lang/String" "coder" "B" (.int 0)) (V_t : Arv Z h0 t kt .byte (1 : Int32) [(.int ch.toInt8.toInt32)] (.int (0 : Int32))) (O0 : Old Z n0 h0) (S_COMPACT_STRINGS : Sta Z Z.heap "java/lang/String" "COMPACT_STRINGS" "Z" (.int cz)) (hcz : ¬ cz = (0 : Int32)) (S_A : Sta Z Z.heap "java/lang/CharacterDataLatin1" "A" "[I" (.ref ta)) (TA : Arv Z h0 ta ka .int (256 : Int32) (own_A.map Value.int) (.int (0 : Int32))) (S_instance : Sta Z Z.heap "java/lang/CharacterDataLatin1" "instance" "Ljava/lang/CharacterDataLatin1;" (.ref ci)) (EC : Exa Z h0 ci "java/lang/CharacterDataLatin1") (rf : fm.isRef = true) (S_SIOOBE_FORMATTER : Sta Z Z.heap "jdk/internal/util/Preconditions" "SIOOBE_FORMATTER" "Ljava/util/function/BiFunction;" fm) :
    MetFree l (⟨"com/example/labmeld/labmeld/finding/Finding$Address", "lambda$new$1", "(Ljava/lang/String;)V"⟩ : MethodName) (head1 (Jvm.Cond.code (⟨"com/example/labmeld/labmeld/finding/Finding$Address", "lambda$new$1", "(Ljava/lang/String;)V"⟩ : MethodName) prog_20_method_15_code 1 none :: ws) ({ frames := 6, cells := 2, slots := 48, locals := 84 } : Room)) (fun aa UU => aa = #[(.ref a)] ∧ Z.Warmed39 UU.vm ∧ UU.heap = h0) (fun _ _ _ _ _ => True) (fun _ UU oo UU' => ∃ vv LL, oo = .returned vv ∧ Q_rm_lam1 Z a ch t kt cz ta ka ci fm h0 n0 vv UU'.heap LL ∧ ReturnedEndW UU oo UU' LL ({ frames := 6, cells := 2, slots := 48, locals := 84 } : Room).cells ({ frames := 6, cells := 2, slots := 48, locals := 84 } : Room).slots) := by
  refine MetFree.of_bodySF (plainFor_of_name pn_8) hisR ?_
  intro p e s m args below meth c s₁ Bd hml0 hP hK
  obtain ⟨rfl, hZ, hh⟩ := hP
  have hx := Bd.exec
  have hby := Bd.bytes
  have hret := Bd.returns
  have hml : c.maxLocals = 1 := hml0
  have hown : s.vm.findClass "com/example/labmeld/labmeld/finding/Finding$Address" = some m.cls := findClass_of_methodNamed Bd.named
  have hnm := (name_of_methodNamed Bd.named Bd.method).1
  have hlk : meth.locks = false := BodyLoose.notSynchronized Bd
  have X0 : Stand p l e ({ frames := 6, cells := 2, slots := 48, locals := 84 } : Room) (s.setVm s.vm) m #[(.ref a)] below meth c s₁ [] 0 0 := Stand.of_body Bd
  have e0 : s₁.heap = h0 := by rw [← hh, Bd.state]; rfl
  have N0 := Fr.nil n0
  have hS : s.Since s.vm 0 := own_since s
  have hk : 0 ≤ h0.size := Nat.zero_le _
  have hwS : ∀ a ∈ Bundle.stringAtoms, a.before a0 Z = true := fun d hd => hw d ((by decide +kernel : ∀ d ∈ Bundle.stringAtoms, d ∈ tables_1) d hd)
  have lt_E_a := own_ltN E_a.lt
  have lt_F_value_a := own_ltN F_value_a.lt
  have lt_F_coder_a := own_ltN F_coder_a.lt
  have lt_V_t := own_ltN V_t.lt
  have lt_TA := own_ltN TA.lt
  have lt_EC := own_ltN EC.lt
  refine own_in (ef_29 m a) ?_
  obtain ⟨b1, T1, h1, k1, X1, e1, E1, hS, hk, hZ, hown, st1⟩ := ldcS X0 hx hZ hown (own_w hw 166 rfl) hwS e0 hS (show _ ≤ h0.size by omega) (g := (mkF m 0 #[rv a] [])) rfl (hb hby d_prog_20_15_0) (n := 44) (by decide) (by decide) (by decide) (by decide)
  have z1 := E1.1
  have O1 := O0.ext E1
  have K1 := (Keep.refl h0 []).ext E1
  refine og T1 (mkF m 2 #[rv a] [(.ref b1)]) (fun t_ k_ => st1 _ k_) ?_
  refine og T1 (mkF m 3 #[rv a] [(.ref a), (.ref b1)]) (fun t_ k_ => XS.aloadN X1.here hx rfl (hb hby d_prog_20_15_2) rfl rfl k_) ?_
  have ff3 := (E_a.ext E1)
  have ff4 := (F_value_a.ext E1)
  have ff5 := (F_coder_a.ext E1)
  have ff6 := (V_t.ext E1)
  have ff7 := (TA.ext E1)
  have ff8 := (EC.ext E1)
  obtain ⟨_, _, ⟨T2, L2, k2, n2⟩, -, X2, ⟨Lc2, hQ2, l2, y2, z2⟩, st2⟩ := Jvm.LawKit.callS X1 hx (y := ym_26) hown (mvT hZ (own_w hw 84 rfl)) (mvT hZ (own_w hw 85 rfl)) (mvT hZ (own_w hw 69 rfl)) (mvT hZ (own_w hw 86 rfl)) (by decide) (backOf (W := 0) (rm_txt l Z a0 hw [] b1 a ch t kt cz ta ka ci fm h1 n0 (show n0 ≤ h1.size by omega) hv ff3 ff4 ff5 ff6 O1 S_COMPACT_STRINGS hcz S_A ff7 S_instance ff8 rf S_SIOOBE_FORMATTER) hZ (own_w hw 86 rfl) (own_w hw 69 rfl) (by decide) (by decide)) (g := (mkF m 3 #[rv a] [(.ref a), (.ref b1)])) rfl (by rw [hml]; rfl) (argsL := [(.ref b1), (.ref a)]) (rest := []) (lenOf pd_16 rfl) rfl (by show 2 * 0 + _ ≤ _; exact Nat.le_of_eq rfl) (hb hby d_prog_20_15_3) (fun _ _ => ⟨rfl, e1, (by decide : 2 + 0 ≤ _), (by decide : 48 + 0 ≤ _)⟩)
  dsimp only [Pt.U, Pt.locs, Pt.cells, Pt.slots] at X2 l2 y2 z2 st2 hQ2
  replace l2 := l2.symm; replace y2 := y2.symm; replace z2 := z2.symm; subst l2 y2 z2
  obtain ⟨rfl, M2, e2⟩ := hQ2
  have N2 := Fr.app N0 M2
  refine og T2 (mkF m 6 #[rv a] [(.ref a)]) (fun t_ k_ => st2 _ k_) ?_
  refine og T2 (mkF m 7 #[rv a] []) (fun t_ k_ => XS.pop X2.here hx rfl (hb hby d_prog_20_15_6) rfl rfl k_) ?_
  exact own_outW X2 hS (show _ ≤ T2.heap.size by rw [e2]; omega) (v := none) (fun _ => rfl) hlk (fun fs hr => X2.returnOut hx hret (hb hby d_prog_20_15_7) hr) (Q := Q_rm_lam1 Z a ch t kt cz ta ka ci fm h0 n0) (by rw [e2]; exact ⟨rfl, N2, K1⟩) (by decide) (by decide)
theorem d_prog_20_14_0 : decode prog_20_method_14_code 0 = .ok (.ldc 28, 2) := by decide +kernel
theorem d_prog_20_14_2 : decode prog_20_method_14_code 2 = .ok (.aload_n 0, 1) := by decide +kernel
theorem d_prog_20_14_3 : decode prog_20_method_14_code 3 = .ok (.invokestatic 73, 3) := by decide +kernel
theorem d_prog_20_14_6 : decode prog_20_method_14_code 6 = .ok (.pop, 1) := by decide +kernel
theorem d_prog_20_14_7 : decode prog_20_method_14_code 7 = .ok (.return_, 1) := by decide +kernel
theorem ef_30 (m : MethodId) (a : Nat) : entryFrame m #[(.ref a)] 1 = mkF m 0 #[rv a] [] := by first | (simp [entryFrame, mkF, argsToLocals, Value.category]; done) | rfl
abbrev ym_29 : MethodName := ⟨"com/example/labmeld/labmeld/finding/Finding$Address", "lambda$new$2", "(Ljava/lang/String;)V"⟩
def Q_rm_lam2 (Z : State) (a : Nat) (ch : Int32) (t : Nat) (kt : ClassId) (cz : Int32) (ta : Nat) (ka : ClassId) (ci : Nat) (fm : Value) (h0 : Heap) (n0 : Nat) (vv : Option Value) (h : Heap) (LL : List Loc) : Prop := vv = none ∧ Fr n0 LL ∧ Keep h0 h []
set_option maxRecDepth 65536 in
set_option maxHeartbeats 40000000 in
theorem rm_lam2 (l : Launch) (Z : State) (a0 : Array Value) (hw : ∀ d ∈ tables_1, d.before a0 Z = true) (ws : List Jvm.Cond) (a : Nat) (ch : Int32) (t : Nat) (kt : ClassId) (cz : Int32) (ta : Nat) (ka : ClassId) (ci : Nat) (fm : Value) (h0 : Heap) (n0 : Nat) (Z0 : n0 ≤ h0.size) (hv : own_Vis ch) (E_a : Exa Z h0 a "java/lang/String") (F_value_a : Fld Z h0 a "java/lang/String" "value" "[B" (.ref t)) (F_coder_a : Fld Z h0 a "java/lang/String" "coder" "B" (.int 0)) (V_t : Arv Z h0 t kt .byte (1 : Int32) [(.int ch.toInt8.toInt32)] (.int (0 : Int32))) (O0 : Old Z n0 h0) (S_COMPACT_STRINGS : Sta Z Z.heap "java/lang/String" "COMPACT_STRINGS" "Z" (.int cz)) (hcz : ¬ cz = (0 : Int32)) (S_A : Sta Z Z.heap "java/lang/CharacterDataLatin1" "A" "[I" (.ref ta)) (TA : Arv Z h0 ta ka .int (256 : Int32) (own_A.map Value.int) (.int (0 : Int32))) (S_instance : Sta Z Z.heap "java/lang/CharacterDataLatin1" "instance" "Ljava/lang/CharacterDataLatin1;" (.ref ci)) (EC : Exa Z h0 ci "java/lang/CharacterDataLatin1") (rf : fm.isRef = true) (S_SIOOBE_FORMATTER : Sta Z Z.heap "jdk/internal/util/Preconditions" "SIOOBE_FORMATTER" "Ljava/util/function/BiFunction;" fm) :
    MetFree l (⟨"com/example/labmeld/labmeld/finding/Finding$Address", "lambda$new$2", "(Ljava/lang/String;)V"⟩ : MethodName) (head1 (Jvm.Cond.code (⟨"com/example/labmeld/labmeld/finding/Finding$Address", "lambda$new$2", "(Ljava/lang/String;)V"⟩ : MethodName) prog_20_method_14_code 1 none :: ws) ({ frames := 6, cells := 2, slots := 44, locals := 84 } : Room)) (fun aa UU => aa = #[(.ref a)] ∧ Z.Warmed39 UU.vm ∧ UU.heap = h0) (fun _ _ _ _ _ => True) (fun _ UU oo UU' => ∃ vv LL, oo = .returned vv ∧ Q_rm_lam2 Z a ch t kt cz ta ka ci fm h0 n0 vv UU'.heap LL ∧ ReturnedEndW UU oo UU' LL ({ frames := 6, cells := 2, slots := 44, locals := 84 } : Room).cells ({ frames := 6, cells := 2, slots := 44, locals := 84 } : Room).slots) := by
  refine MetFree.of_bodySF (plainFor_of_name pn_8) hisR ?_
  intro p e s m args below meth c s₁ Bd hml0 hP hK
  obtain ⟨rfl, hZ, hh⟩ := hP
  have hx := Bd.exec
  have hby := Bd.bytes
  have hret := Bd.returns
  have hml : c.maxLocals = 1 := hml0
  have hown : s.vm.findClass "com/example/labmeld/labmeld/finding/Finding$Address" = some m.cls := findClass_of_methodNamed Bd.named
  have hnm := (name_of_methodNamed Bd.named Bd.method).1
  have hlk : meth.locks = false := BodyLoose.notSynchronized Bd
  have X0 : Stand p l e ({ frames := 6, cells := 2, slots := 44, locals := 84 } : Room) (s.setVm s.vm) m #[(.ref a)] below meth c s₁ [] 0 0 := Stand.of_body Bd
  have e0 : s₁.heap = h0 := by rw [← hh, Bd.state]; rfl
  have N0 := Fr.nil n0
  have hS : s.Since s.vm 0 := own_since s
  have hk : 0 ≤ h0.size := Nat.zero_le _
  have hwS : ∀ a ∈ Bundle.stringAtoms, a.before a0 Z = true := fun d hd => hw d ((by decide +kernel : ∀ d ∈ Bundle.stringAtoms, d ∈ tables_1) d hd)
  have lt_E_a := own_ltN E_a.lt
  have lt_F_value_a := own_ltN F_value_a.lt
  have lt_F_coder_a := own_ltN F_coder_a.lt
  have lt_V_t := own_ltN V_t.lt
  have lt_TA := own_ltN TA.lt
  have lt_EC := own_ltN EC.lt
  refine own_in (ef_30 m a) ?_
  obtain ⟨b1, T1, h1, k1, X1, e1, E1, hS, hk, hZ, hown, st1⟩ := ldcS X0 hx hZ hown (own_w hw 168 rfl) hwS e0 hS (show _ ≤ h0.size by omega) (g := (mkF m 0 #[rv a] [])) rfl (hb hby d_prog_20_14_0) (n := 40) (by decide) (by decide) (by decide) (by decide)
  have z1 := E1.1
  have O1 := O0.ext E1
  have K1 := (Keep.refl h0 []).ext E1
  refine og T1 (mkF m 2 #[rv a] [(.ref b1)]) (fun t_ k_ => st1 _ k_) ?_
  refine og T1 (mkF m 3 #[rv a] [(.ref a), (.ref b1)]) (fun t_ k_ => XS.aloadN X1.here hx rfl (hb hby d_prog_20_14_2) rfl rfl k_) ?_
  have ff3 := (E_a.ext E1)
  have ff4 := (F_value_a.ext E1)
  have ff5 := (F_coder_a.ext E1)
  have ff6 := (V_t.ext E1)
  have ff7 := (TA.ext E1)
  have ff8 := (EC.ext E1)
  obtain ⟨_, _, ⟨T2, L2, k2, n2⟩, -, X2, ⟨Lc2, hQ2, l2, y2, z2⟩, st2⟩ := Jvm.LawKit.callS X1 hx (y := ym_26) hown (mvT hZ (own_w hw 84 rfl)) (mvT hZ (own_w hw 85 rfl)) (mvT hZ (own_w hw 69 rfl)) (mvT hZ (own_w hw 86 rfl)) (by decide) (backOf (W := 0) (rm_txt l Z a0 hw [] b1 a ch t kt cz ta ka ci fm h1 n0 (show n0 ≤ h1.size by omega) hv ff3 ff4 ff5 ff6 O1 S_COMPACT_STRINGS hcz S_A ff7 S_instance ff8 rf S_SIOOBE_FORMATTER) hZ (own_w hw 86 rfl) (own_w hw 69 rfl) (by decide) (by decide)) (g := (mkF m 3 #[rv a] [(.ref a), (.ref b1)])) rfl (by rw [hml]; rfl) (argsL := [(.ref b1), (.ref a)]) (rest := []) (lenOf pd_16 rfl) rfl (by show 2 * 0 + _ ≤ _; exact Nat.le_of_eq rfl) (hb hby d_prog_20_14_3) (fun _ _ => ⟨rfl, e1, (by decide : 2 + 0 ≤ _), (by decide : 44 + 0 ≤ _)⟩)
  dsimp only [Pt.U, Pt.locs, Pt.cells, Pt.slots] at X2 l2 y2 z2 st2 hQ2
  replace l2 := l2.symm; replace y2 := y2.symm; replace z2 := z2.symm; subst l2 y2 z2
  obtain ⟨rfl, M2, e2⟩ := hQ2
  have N2 := Fr.app N0 M2
  refine og T2 (mkF m 6 #[rv a] [(.ref a)]) (fun t_ k_ => st2 _ k_) ?_
  refine og T2 (mkF m 7 #[rv a] []) (fun t_ k_ => XS.pop X2.here hx rfl (hb hby d_prog_20_14_6) rfl rfl k_) ?_
  exact own_outW X2 hS (show _ ≤ T2.heap.size by rw [e2]; omega) (v := none) (fun _ => rfl) hlk (fun fs hr => X2.returnOut hx hret (hb hby d_prog_20_14_7) hr) (Q := Q_rm_lam2 Z a ch t kt cz ta ka ci fm h0 n0) (by rw [e2]; exact ⟨rfl, N2, K1⟩) (by decide) (by decide)
theorem d_prog_20_13_0 : decode prog_20_method_13_code 0 = .ok (.ldc 31, 2) := by decide +kernel
theorem d_prog_20_13_2 : decode prog_20_method_13_code 2 = .ok (.aload_n 0, 1) := by decide +kernel
theorem d_prog_20_13_3 : decode prog_20_method_13_code 3 = .ok (.invokestatic 73, 3) := by decide +kernel
theorem d_prog_20_13_6 : decode prog_20_method_13_code 6 = .ok (.pop, 1) := by decide +kernel
theorem d_prog_20_13_7 : decode prog_20_method_13_code 7 = .ok (.return_, 1) := by decide +kernel
theorem ef_31 (m : MethodId) (a : Nat) : entryFrame m #[(.ref a)] 1 = mkF m 0 #[rv a] [] := by first | (simp [entryFrame, mkF, argsToLocals, Value.category]; done) | rfl
abbrev ym_30 : MethodName := ⟨"com/example/labmeld/labmeld/finding/Finding$Address", "lambda$new$3", "(Ljava/lang/String;)V"⟩
def Q_rm_lam3 (Z : State) (a : Nat) (ch : Int32) (t : Nat) (kt : ClassId) (cz : Int32) (ta : Nat) (ka : ClassId) (ci : Nat) (fm : Value) (h0 : Heap) (n0 : Nat) (vv : Option Value) (h : Heap) (LL : List Loc) : Prop := vv = none ∧ Fr n0 LL ∧ Keep h0 h []
set_option maxRecDepth 65536 in
set_option maxHeartbeats 40000000 in
theorem rm_lam3 (l : Launch) (Z : State) (a0 : Array Value) (hw : ∀ d ∈ tables_1, d.before a0 Z = true) (ws : List Jvm.Cond) (a : Nat) (ch : Int32) (t : Nat) (kt : ClassId) (cz : Int32) (ta : Nat) (ka : ClassId) (ci : Nat) (fm : Value) (h0 : Heap) (n0 : Nat) (Z0 : n0 ≤ h0.size) (hv : own_Vis ch) (E_a : Exa Z h0 a "java/lang/String") (F_value_a : Fld Z h0 a "java/lang/String" "value" "[B" (.ref t)) (F_coder_a : Fld Z h0 a "java/lang/String" "coder" "B" (.int 0)) (V_t : Arv Z h0 t kt .byte (1 : Int32) [(.int ch.toInt8.toInt32)] (.int (0 : Int32))) (O0 : Old Z n0 h0) (S_COMPACT_STRINGS : Sta Z Z.heap "java/lang/String" "COMPACT_STRINGS" "Z" (.int cz)) (hcz : ¬ cz = (0 : Int32)) (S_A : Sta Z Z.heap "java/lang/CharacterDataLatin1" "A" "[I" (.ref ta)) (TA : Arv Z h0 ta ka .int (256 : Int32) (own_A.map Value.int) (.int (0 : Int32))) (S_instance : Sta Z Z.heap "java/lang/CharacterDataLatin1" "instance" "Ljava/lang/CharacterDataLatin1;" (.ref ci)) (EC : Exa Z h0 ci "java/lang/CharacterDataLatin1") (rf : fm.isRef = true) (S_SIOOBE_FORMATTER : Sta Z Z.heap "jdk/internal/util/Preconditions" "SIOOBE_FORMATTER" "Ljava/util/function/BiFunction;" fm) :
    MetFree l (⟨"com/example/labmeld/labmeld/finding/Finding$Address", "lambda$new$3", "(Ljava/lang/String;)V"⟩ : MethodName) (head1 (Jvm.Cond.code (⟨"com/example/labmeld/labmeld/finding/Finding$Address", "lambda$new$3", "(Ljava/lang/String;)V"⟩ : MethodName) prog_20_method_13_code 1 none :: ws) ({ frames := 6, cells := 2, slots := 20, locals := 84 } : Room)) (fun aa UU => aa = #[(.ref a)] ∧ Z.Warmed39 UU.vm ∧ UU.heap = h0) (fun _ _ _ _ _ => True) (fun _ UU oo UU' => ∃ vv LL, oo = .returned vv ∧ Q_rm_lam3 Z a ch t kt cz ta ka ci fm h0 n0 vv UU'.heap LL ∧ ReturnedEndW UU oo UU' LL ({ frames := 6, cells := 2, slots := 20, locals := 84 } : Room).cells ({ frames := 6, cells := 2, slots := 20, locals := 84 } : Room).slots) := by
  refine MetFree.of_bodySF (plainFor_of_name pn_8) hisR ?_
  intro p e s m args below meth c s₁ Bd hml0 hP hK
  obtain ⟨rfl, hZ, hh⟩ := hP
  have hx := Bd.exec
  have hby := Bd.bytes
  have hret := Bd.returns
  have hml : c.maxLocals = 1 := hml0
  have hown : s.vm.findClass "com/example/labmeld/labmeld/finding/Finding$Address" = some m.cls := findClass_of_methodNamed Bd.named
  have hnm := (name_of_methodNamed Bd.named Bd.method).1
  have hlk : meth.locks = false := BodyLoose.notSynchronized Bd
  have X0 : Stand p l e ({ frames := 6, cells := 2, slots := 20, locals := 84 } : Room) (s.setVm s.vm) m #[(.ref a)] below meth c s₁ [] 0 0 := Stand.of_body Bd
  have e0 : s₁.heap = h0 := by rw [← hh, Bd.state]; rfl
  have N0 := Fr.nil n0
  have hS : s.Since s.vm 0 := own_since s
  have hk : 0 ≤ h0.size := Nat.zero_le _
  have hwS : ∀ a ∈ Bundle.stringAtoms, a.before a0 Z = true := fun d hd => hw d ((by decide +kernel : ∀ d ∈ Bundle.stringAtoms, d ∈ tables_1) d hd)
  have lt_E_a := own_ltN E_a.lt
  have lt_F_value_a := own_ltN F_value_a.lt
  have lt_F_coder_a := own_ltN F_coder_a.lt
  have lt_V_t := own_ltN V_t.lt
  have lt_TA := own_ltN TA.lt
  have lt_EC := own_ltN EC.lt
  refine own_in (ef_31 m a) ?_
  obtain ⟨b1, T1, h1, k1, X1, e1, E1, hS, hk, hZ, hown, st1⟩ := ldcS X0 hx hZ hown (own_w hw 170 rfl) hwS e0 hS (show _ ≤ h0.size by omega) (g := (mkF m 0 #[rv a] [])) rfl (hb hby d_prog_20_13_0) (n := 16) (by decide) (by decide) (by decide) (by decide)
  have z1 := E1.1
  have O1 := O0.ext E1
  have K1 := (Keep.refl h0 []).ext E1
  refine og T1 (mkF m 2 #[rv a] [(.ref b1)]) (fun t_ k_ => st1 _ k_) ?_
  refine og T1 (mkF m 3 #[rv a] [(.ref a), (.ref b1)]) (fun t_ k_ => XS.aloadN X1.here hx rfl (hb hby d_prog_20_13_2) rfl rfl k_) ?_
  have ff3 := (E_a.ext E1)
  have ff4 := (F_value_a.ext E1)
  have ff5 := (F_coder_a.ext E1)
  have ff6 := (V_t.ext E1)
  have ff7 := (TA.ext E1)
  have ff8 := (EC.ext E1)
  obtain ⟨_, _, ⟨T2, L2, k2, n2⟩, -, X2, ⟨Lc2, hQ2, l2, y2, z2⟩, st2⟩ := Jvm.LawKit.callS X1 hx (y := ym_26) hown (mvT hZ (own_w hw 84 rfl)) (mvT hZ (own_w hw 85 rfl)) (mvT hZ (own_w hw 69 rfl)) (mvT hZ (own_w hw 86 rfl)) (by decide) (backOf (W := 0) (rm_txt l Z a0 hw [] b1 a ch t kt cz ta ka ci fm h1 n0 (show n0 ≤ h1.size by omega) hv ff3 ff4 ff5 ff6 O1 S_COMPACT_STRINGS hcz S_A ff7 S_instance ff8 rf S_SIOOBE_FORMATTER) hZ (own_w hw 86 rfl) (own_w hw 69 rfl) (by decide) (by decide)) (g := (mkF m 3 #[rv a] [(.ref a), (.ref b1)])) rfl (by rw [hml]; rfl) (argsL := [(.ref b1), (.ref a)]) (rest := []) (lenOf pd_16 rfl) rfl (by show 2 * 0 + _ ≤ _; exact Nat.le_of_eq rfl) (hb hby d_prog_20_13_3) (fun _ _ => ⟨rfl, e1, (by decide : 2 + 0 ≤ _), (by decide : 20 + 0 ≤ _)⟩)
  dsimp only [Pt.U, Pt.locs, Pt.cells, Pt.slots] at X2 l2 y2 z2 st2 hQ2
  replace l2 := l2.symm; replace y2 := y2.symm; replace z2 := z2.symm; subst l2 y2 z2
  obtain ⟨rfl, M2, e2⟩ := hQ2
  have N2 := Fr.app N0 M2
  refine og T2 (mkF m 6 #[rv a] [(.ref a)]) (fun t_ k_ => st2 _ k_) ?_
  refine og T2 (mkF m 7 #[rv a] []) (fun t_ k_ => XS.pop X2.here hx rfl (hb hby d_prog_20_13_6) rfl rfl k_) ?_
  exact own_outW X2 hS (show _ ≤ T2.heap.size by rw [e2]; omega) (v := none) (fun _ => rfl) hlk (fun fs hr => X2.returnOut hx hret (hb hby d_prog_20_13_7) hr) (Q := Q_rm_lam3 Z a ch t kt cz ta ka ci fm h0 n0) (by rw [e2]; exact ⟨rfl, N2, K1⟩) (by decide) (by decide)
theorem d_prog_20_12_0 : decode prog_20_method_12_code 0 = .ok (.ldc 34, 2) := by decide +kernel
theorem d_prog_20_12_2 : decode prog_20_method_12_code 2 = .ok (.aload_n 0, 1) := by decide +kernel
theorem d_prog_20_12_3 : decode prog_20_method_12_code 3 = .ok (.invokestatic 73, 3) := by decide +kernel
theorem d_prog_20_12_6 : decode prog_20_method_12_code 6 = .ok (.pop, 1) := by decide +kernel
theorem d_prog_20_12_7 : decode prog_20_method_12_code 7 = .ok (.return_, 1) := by decide +kernel
theorem ef_32 (m : MethodId) (a : Nat) : entryFrame m #[(.ref a)] 1 = mkF m 0 #[rv a] [] := by first | (simp [entryFrame, mkF, argsToLocals, Value.category]; done) | rfl
abbrev ym_31 : MethodName := ⟨"com/example/labmeld/labmeld/finding/Finding$Address", "lambda$new$4", "(Ljava/lang/String;)V"⟩
def Q_rm_lam4 (Z : State) (a : Nat) (ch : Int32) (t : Nat) (kt : ClassId) (cz : Int32) (ta : Nat) (ka : ClassId) (ci : Nat) (fm : Value) (h0 : Heap) (n0 : Nat) (vv : Option Value) (h : Heap) (LL : List Loc) : Prop := vv = none ∧ Fr n0 LL ∧ Keep h0 h []
set_option maxRecDepth 65536 in
set_option maxHeartbeats 40000000 in
theorem rm_lam4 (l : Launch) (Z : State) (a0 : Array Value) (hw : ∀ d ∈ tables_1, d.before a0 Z = true) (ws : List Jvm.Cond) (a : Nat) (ch : Int32) (t : Nat) (kt : ClassId) (cz : Int32) (ta : Nat) (ka : ClassId) (ci : Nat) (fm : Value) (h0 : Heap) (n0 : Nat) (Z0 : n0 ≤ h0.size) (hv : own_Vis ch) (E_a : Exa Z h0 a "java/lang/String") (F_value_a : Fld Z h0 a "java/lang/String" "value" "[B" (.ref t)) (F_coder_a : Fld Z h0 a "java/lang/String" "coder" "B" (.int 0)) (V_t : Arv Z h0 t kt .byte (1 : Int32) [(.int ch.toInt8.toInt32)] (.int (0 : Int32))) (O0 : Old Z n0 h0) (S_COMPACT_STRINGS : Sta Z Z.heap "java/lang/String" "COMPACT_STRINGS" "Z" (.int cz)) (hcz : ¬ cz = (0 : Int32)) (S_A : Sta Z Z.heap "java/lang/CharacterDataLatin1" "A" "[I" (.ref ta)) (TA : Arv Z h0 ta ka .int (256 : Int32) (own_A.map Value.int) (.int (0 : Int32))) (S_instance : Sta Z Z.heap "java/lang/CharacterDataLatin1" "instance" "Ljava/lang/CharacterDataLatin1;" (.ref ci)) (EC : Exa Z h0 ci "java/lang/CharacterDataLatin1") (rf : fm.isRef = true) (S_SIOOBE_FORMATTER : Sta Z Z.heap "jdk/internal/util/Preconditions" "SIOOBE_FORMATTER" "Ljava/util/function/BiFunction;" fm) :
    MetFree l (⟨"com/example/labmeld/labmeld/finding/Finding$Address", "lambda$new$4", "(Ljava/lang/String;)V"⟩ : MethodName) (head1 (Jvm.Cond.code (⟨"com/example/labmeld/labmeld/finding/Finding$Address", "lambda$new$4", "(Ljava/lang/String;)V"⟩ : MethodName) prog_20_method_12_code 1 none :: ws) ({ frames := 6, cells := 2, slots := 32, locals := 84 } : Room)) (fun aa UU => aa = #[(.ref a)] ∧ Z.Warmed39 UU.vm ∧ UU.heap = h0) (fun _ _ _ _ _ => True) (fun _ UU oo UU' => ∃ vv LL, oo = .returned vv ∧ Q_rm_lam4 Z a ch t kt cz ta ka ci fm h0 n0 vv UU'.heap LL ∧ ReturnedEndW UU oo UU' LL ({ frames := 6, cells := 2, slots := 32, locals := 84 } : Room).cells ({ frames := 6, cells := 2, slots := 32, locals := 84 } : Room).slots) := by
  refine MetFree.of_bodySF (plainFor_of_name pn_8) hisR ?_
  intro p e s m args below meth c s₁ Bd hml0 hP hK
  obtain ⟨rfl, hZ, hh⟩ := hP
  have hx := Bd.exec
  have hby := Bd.bytes
  have hret := Bd.returns
  have hml : c.maxLocals = 1 := hml0
  have hown : s.vm.findClass "com/example/labmeld/labmeld/finding/Finding$Address" = some m.cls := findClass_of_methodNamed Bd.named
  have hnm := (name_of_methodNamed Bd.named Bd.method).1
  have hlk : meth.locks = false := BodyLoose.notSynchronized Bd
  have X0 : Stand p l e ({ frames := 6, cells := 2, slots := 32, locals := 84 } : Room) (s.setVm s.vm) m #[(.ref a)] below meth c s₁ [] 0 0 := Stand.of_body Bd
  have e0 : s₁.heap = h0 := by rw [← hh, Bd.state]; rfl
  have N0 := Fr.nil n0
  have hS : s.Since s.vm 0 := own_since s
  have hk : 0 ≤ h0.size := Nat.zero_le _
  have hwS : ∀ a ∈ Bundle.stringAtoms, a.before a0 Z = true := fun d hd => hw d ((by decide +kernel : ∀ d ∈ Bundle.stringAtoms, d ∈ tables_1) d hd)
  have lt_E_a := own_ltN E_a.lt
  have lt_F_value_a := own_ltN F_value_a.lt
  have lt_F_coder_a := own_ltN F_coder_a.lt
  have lt_V_t := own_ltN V_t.lt
  have lt_TA := own_ltN TA.lt
  have lt_EC := own_ltN EC.lt
  refine own_in (ef_32 m a) ?_
  obtain ⟨b1, T1, h1, k1, X1, e1, E1, hS, hk, hZ, hown, st1⟩ := ldcS X0 hx hZ hown (own_w hw 172 rfl) hwS e0 hS (show _ ≤ h0.size by omega) (g := (mkF m 0 #[rv a] [])) rfl (hb hby d_prog_20_12_0) (n := 28) (by decide) (by decide) (by decide) (by decide)
  have z1 := E1.1
  have O1 := O0.ext E1
  have K1 := (Keep.refl h0 []).ext E1
  refine og T1 (mkF m 2 #[rv a] [(.ref b1)]) (fun t_ k_ => st1 _ k_) ?_
  refine og T1 (mkF m 3 #[rv a] [(.ref a), (.ref b1)]) (fun t_ k_ => XS.aloadN X1.here hx rfl (hb hby d_prog_20_12_2) rfl rfl k_) ?_
  have ff3 := (E_a.ext E1)
  have ff4 := (F_value_a.ext E1)
  have ff5 := (F_coder_a.ext E1)
  have ff6 := (V_t.ext E1)
  have ff7 := (TA.ext E1)
  have ff8 := (EC.ext E1)
  obtain ⟨_, _, ⟨T2, L2, k2, n2⟩, -, X2, ⟨Lc2, hQ2, l2, y2, z2⟩, st2⟩ := Jvm.LawKit.callS X1 hx (y := ym_26) hown (mvT hZ (own_w hw 84 rfl)) (mvT hZ (own_w hw 85 rfl)) (mvT hZ (own_w hw 69 rfl)) (mvT hZ (own_w hw 86 rfl)) (by decide) (backOf (W := 0) (rm_txt l Z a0 hw [] b1 a ch t kt cz ta ka ci fm h1 n0 (show n0 ≤ h1.size by omega) hv ff3 ff4 ff5 ff6 O1 S_COMPACT_STRINGS hcz S_A ff7 S_instance ff8 rf S_SIOOBE_FORMATTER) hZ (own_w hw 86 rfl) (own_w hw 69 rfl) (by decide) (by decide)) (g := (mkF m 3 #[rv a] [(.ref a), (.ref b1)])) rfl (by rw [hml]; rfl) (argsL := [(.ref b1), (.ref a)]) (rest := []) (lenOf pd_16 rfl) rfl (by show 2 * 0 + _ ≤ _; exact Nat.le_of_eq rfl) (hb hby d_prog_20_12_3) (fun _ _ => ⟨rfl, e1, (by decide : 2 + 0 ≤ _), (by decide : 32 + 0 ≤ _)⟩)
  dsimp only [Pt.U, Pt.locs, Pt.cells, Pt.slots] at X2 l2 y2 z2 st2 hQ2
  replace l2 := l2.symm; replace y2 := y2.symm; replace z2 := z2.symm; subst l2 y2 z2
  obtain ⟨rfl, M2, e2⟩ := hQ2
  have N2 := Fr.app N0 M2
  refine og T2 (mkF m 6 #[rv a] [(.ref a)]) (fun t_ k_ => st2 _ k_) ?_
  refine og T2 (mkF m 7 #[rv a] []) (fun t_ k_ => XS.pop X2.here hx rfl (hb hby d_prog_20_12_6) rfl rfl k_) ?_
  exact own_outW X2 hS (show _ ≤ T2.heap.size by rw [e2]; omega) (v := none) (fun _ => rfl) hlk (fun fs hr => X2.returnOut hx hret (hb hby d_prog_20_12_7) hr) (Q := Q_rm_lam4 Z a ch t kt cz ta ka ci fm h0 n0) (by rw [e2]; exact ⟨rfl, N2, K1⟩) (by decide) (by decide)
theorem d_jdk_32_8_0 : decode jdk_32_method_8_code 0 = .ok (.aload_n 0, 1) := by decide +kernel
theorem d_jdk_32_8_1 : decode jdk_32_method_8_code 1 = .ok (.getfield 13, 3) := by decide +kernel
theorem d_jdk_32_8_4 : decode jdk_32_method_8_code 4 = .ok (.ifnull 13, 3) := by decide +kernel
theorem d_jdk_32_8_7 : decode jdk_32_method_8_code 7 = .ok (.aload_n 1, 1) := by decide +kernel
theorem d_jdk_32_8_8 : decode jdk_32_method_8_code 8 = .ok (.aload_n 0, 1) := by decide +kernel
theorem d_jdk_32_8_9 : decode jdk_32_method_8_code 9 = .ok (.getfield 13, 3) := by decide +kernel
theorem d_jdk_32_8_12 : decode jdk_32_method_8_code 12 = .ok (.invokeinterface 33 2, 5) := by decide +kernel
abbrev ym_32 : MethodName := ⟨"java/util/function/Consumer", "accept", "(Ljava/lang/Object;)V"⟩
theorem pd_17 : parseMethodDescriptor "(Ljava/lang/String;)V" = some ⟨[(.object "java/lang/String")], none⟩ := by decide +kernel
theorem d_jdk_32_8_17 : decode jdk_32_method_8_code 17 = .ok (.return_, 1) := by decide +kernel
theorem ef_33 (m : MethodId) (a : Nat) (f : Nat) : entryFrame m #[(.ref a), (.ref f)] 2 = mkF m 0 #[rv a, rv f] [] := by first | (simp [entryFrame, mkF, argsToLocals, Value.category]; done) | rfl
abbrev ym_33 : MethodName := ⟨"java/util/Optional", "ifPresent", "(Ljava/util/function/Consumer;)V"⟩
def Q_rm_ifp0 (Z : State) (a : Nat) (f : Nat) (n : Nat) (P : Prop) (cK : ClassId) (cz : Int32) (ta : Nat) (ka : ClassId) (ci : Nat) (fm : Value) (h0 : Heap) (n0 : Nat) (vv : Option Value) (h : Heap) (LL : List Loc) : Prop := vv = none ∧ Fr n0 LL ∧ Keep h0 h []
set_option maxRecDepth 65536 in
set_option maxHeartbeats 40000000 in
theorem rm_ifp0 (l : Launch) (Z : State) (a0 : Array Value) (hw : ∀ d ∈ tables_1, d.before a0 Z = true) (ws : List Jvm.Cond) (a : Nat) (f : Nat) (n : Nat) (P : Prop) (cK : ClassId) (cz : Int32) (ta : Nat) (ka : ClassId) (ci : Nat) (fm : Value) (h0 : Heap) (n0 : Nat) (Z0 : n0 ≤ h0.size) (SO : own_Opt Z h0 n a P) (hmd : Jvm.LamKit.Made Z own_host own_sh0 cK) (hfn : own_Fn h0 f cK) (O0 : Old Z n0 h0) (S_COMPACT_STRINGS : Sta Z Z.heap "java/lang/String" "COMPACT_STRINGS" "Z" (.int cz)) (hcz : ¬ cz = (0 : Int32)) (S_A : Sta Z Z.heap "java/lang/CharacterDataLatin1" "A" "[I" (.ref ta)) (TA : Arv Z h0 ta ka .int (256 : Int32) (own_A.map Value.int) (.int (0 : Int32))) (S_instance : Sta Z Z.heap "java/lang/CharacterDataLatin1" "instance" "Ljava/lang/CharacterDataLatin1;" (.ref ci)) (EC : Exa Z h0 ci "java/lang/CharacterDataLatin1") (rf : fm.isRef = true) (S_SIOOBE_FORMATTER : Sta Z Z.heap "jdk/internal/util/Preconditions" "SIOOBE_FORMATTER" "Ljava/util/function/BiFunction;" fm) :
    MetFree l (⟨"java/util/Optional", "ifPresent", "(Ljava/util/function/Consumer;)V"⟩ : MethodName) (head1 (Jvm.Cond.code (⟨"java/util/Optional", "ifPresent", "(Ljava/util/function/Consumer;)V"⟩ : MethodName) jdk_32_method_8_code 2 none :: ws) ({ frames := 8, cells := 2, slots := 28, locals := 109 } : Room)) (fun aa UU => aa = #[(.ref a), (.ref f)] ∧ Z.Warmed39 UU.vm ∧ UU.heap = h0) (fun _ _ _ _ _ => True) (fun _ UU oo UU' => ∃ vv LL, oo = .returned vv ∧ Q_rm_ifp0 Z a f n P cK cz ta ka ci fm h0 n0 vv UU'.heap LL ∧ ReturnedEndW UU oo UU' LL ({ frames := 8, cells := 2, slots := 28, locals := 109 } : Room).cells ({ frames := 8, cells := 2, slots := 28, locals := 109 } : Room).slots) := by
  refine MetFree.of_bodySF (plainFor_of_name pn_3) hisR ?_
  intro p e s m args below meth c s₁ Bd hml0 hP hK
  obtain ⟨rfl, hZ, hh⟩ := hP
  have hx := Bd.exec
  have hby := Bd.bytes
  have hret := Bd.returns
  have hml : c.maxLocals = 2 := hml0
  have hown : s.vm.findClass "java/util/Optional" = some m.cls := findClass_of_methodNamed Bd.named
  have hnm := (name_of_methodNamed Bd.named Bd.method).1
  have hlk : meth.locks = false := BodyLoose.notSynchronized Bd
  have X0 : Stand p l e ({ frames := 8, cells := 2, slots := 28, locals := 109 } : Room) (s.setVm s.vm) m #[(.ref a), (.ref f)] below meth c s₁ [] 0 0 := Stand.of_body Bd
  have e0 : s₁.heap = h0 := by rw [← hh, Bd.state]; rfl
  have N0 := Fr.nil n0
  have hS : s.Since s.vm 0 := own_since s
  have hk : 0 ≤ h0.size := Nat.zero_le _
  have hwS : ∀ a ∈ Bundle.stringAtoms, a.before a0 Z = true := fun d hd => hw d ((by decide +kernel : ∀ d ∈ Bundle.stringAtoms, d ∈ tables_1) d hd)
  have lt_TA := own_ltN TA.lt
  have lt_EC := own_ltN EC.lt
  refine own_in (ef_33 m a f) ?_
  obtain ⟨E_o, lt_o, vo, F_o, hcase⟩ := id SO
  rcases hcase with ⟨hP, t, x, rfl, S_t, hv⟩ | ⟨hP, rfl⟩
  · obtain ⟨sE, sC, sP, sa, tt, kb, sh, sV, sA⟩ := id S_t
    refine og s₁ (mkF m 1 #[rv a, rv f] [(.ref a)]) (fun t_ k_ => XS.aloadN X0.here hx rfl (hb hby d_jdk_32_8_0) rfl rfl k_) ?_
    obtain ⟨T1, X1, e1, st1⟩ := getF X0 hx hZ hown (host := "") (Or.inl (own_w hw 49 rfl)) Via.refl e0 F_o (g := (mkF m 1 #[rv a, rv f] [(.ref a)])) rfl rfl (hb hby d_jdk_32_8_1)
    refine og T1 (mkF m 4 #[rv a, rv f] [(.ref t)]) (fun t_ k_ => st1 _ k_) ?_
    refine og T1 (mkF m 7 #[rv a, rv f] []) (fun t_ k_ => XS.ifnullNo X1.here hx rfl (hb hby d_jdk_32_8_4) rfl k_) ?_
    refine og T1 (mkF m 8 #[rv a, rv f] [(.ref f)]) (fun t_ k_ => XS.aloadN X1.here hx rfl (hb hby d_jdk_32_8_7) rfl rfl k_) ?_
    refine og T1 (mkF m 9 #[rv a, rv f] [(.ref a), (.ref f)]) (fun t_ k_ => XS.aloadN X1.here hx rfl (hb hby d_jdk_32_8_8) rfl rfl k_) ?_
    obtain ⟨T2, X2, e2, st2⟩ := getF X1 hx hZ hown (host := "") (Or.inl (own_w hw 49 rfl)) Via.refl e1 F_o (g := (mkF m 9 #[rv a, rv f] [(.ref a), (.ref f)])) rfl rfl (hb hby d_jdk_32_8_9)
    refine og T2 (mkF m 12 #[rv a, rv f] [(.ref t), (.ref f)]) (fun t_ k_ => st2 _ k_) ?_
    obtain ⟨_, _, ⟨T3, L3, k3, n3⟩, -, X3_, h23, gr3, ⟨Lc3, hQ3, l3, y3, z3⟩, st3⟩ := own_lam X2 hx hZ (xi := ym_32) (y := ym_27) (rm_lam0 l Z a0 hw [] t x tt kb cz ta ka ci fm h0 n0 (show n0 ≤ h0.size by omega) hv sE sV sC sA O0 S_COMPACT_STRINGS hcz S_A TA S_instance EC rf S_SIOOBE_FORMATTER) (fun _ _ _ q => q.1) hown (mvT hZ (own_w hw 79 rfl)) (mvT hZ (own_w hw 80 rfl)) (mvT hZ (own_w hw 81 rfl)) (own_w hw 81 rfl) (own_w hw 83 rfl) (own_w hw 82 rfl) (own_w hw 28 rfl) (own_w hw 17 rfl) ⟨rfl, rfl, (by decide +kernel)⟩ ⟨rfl, rfl, (by decide +kernel)⟩ (by decide) hmd e2 hfn sE own_ok0 own_ck0 (by decide +kernel) (by decide +kernel) (by decide +kernel) (by decide +kernel) (g := (mkF m 12 #[rv a, rv f] [(.ref t), (.ref f)])) rfl (by rw [hml]; rfl) (fun _ hq => by cases (pd_4.symm.trans hq); rfl) (fun _ hq => by cases (pd_17.symm.trans hq); rfl) rfl (hb hby d_jdk_32_8_12) (by decide) (Nat.le_of_ble_eq_true rfl) (by decide : 0 + 2 ≤ _) (by decide : 0 + 28 ≤ _)
    dsimp only [Pt.U, Pt.locs, Pt.cells, Pt.slots] at X3_ h23 gr3 l3 y3 z3 st3 hQ3
    replace l3 := l3.symm; replace y3 := y3.symm; replace z3 := z3.symm; subst l3 y3 z3
    obtain ⟨X3, hS, hZ, hown⟩ := rebS hS (show _ ≤ T2.heap.size by rw [e2]; omega) X3_ h23 gr3 hZ hown
    have hk : T3.heap.size ≤ T3.heap.size := Nat.le_refl _
    obtain ⟨rfl, M3, K3_⟩ := hQ3
    have zz3 := K3_.1
    have O3 := O0.keep K3_ all0
    have K3 := (Keep.refl h0 []).trans K3_ all0
    have N3 := Fr.app N0 M3
    refine og T3 (mkF m 17 #[rv a, rv f] []) (fun t_ k_ => st3.trans k_) ?_
    exact own_outW X3 hS (show _ ≤ T3.heap.size by omega) (v := none) (fun _ => rfl) hlk (fun fs hr => X3.returnOut hx hret (hb hby d_jdk_32_8_17) hr) (Q := Q_rm_ifp0 Z a f n P cK cz ta ka ci fm h0 n0) (by exact ⟨rfl, N3, K3⟩) (by decide) (by decide)
  · skip
    refine og s₁ (mkF m 1 #[rv a, rv f] [(.ref a)]) (fun t_ k_ => XS.aloadN X0.here hx rfl (hb hby d_jdk_32_8_0) rfl rfl k_) ?_
    obtain ⟨T4, X4, e4, st4⟩ := getF X0 hx hZ hown (host := "") (Or.inl (own_w hw 49 rfl)) Via.refl e0 F_o (g := (mkF m 1 #[rv a, rv f] [(.ref a)])) rfl rfl (hb hby d_jdk_32_8_1)
    refine og T4 (mkF m 4 #[rv a, rv f] [.null]) (fun t_ k_ => st4 _ k_) ?_
    refine og T4 (mkF m 17 #[rv a, rv f] []) (fun t_ k_ => XS.ifnullYes X4.here hx rfl (pc0 := 4) (pc' := 17) rfl (hb hby d_jdk_32_8_4) rfl (by decide) (by decide) k_) ?_
    exact own_outW X4 hS (show _ ≤ T4.heap.size by rw [e4]; omega) (v := none) (fun _ => rfl) hlk (fun fs hr => X4.returnOut hx hret (hb hby d_jdk_32_8_17) hr) (Q := Q_rm_ifp0 Z a f n P cK cz ta ka ci fm h0 n0) (by rw [e4]; exact ⟨rfl, N0, (Keep.refl h0 [])⟩) (by decide) (by decide)
def Q_rm_ifp1 (Z : State) (a : Nat) (f : Nat) (n : Nat) (P : Prop) (cK : ClassId) (cz : Int32) (ta : Nat) (ka : ClassId) (ci : Nat) (fm : Value) (h0 : Heap) (n0 : Nat) (vv : Option Value) (h : Heap) (LL : List Loc) : Prop := vv = none ∧ Fr n0 LL ∧ Keep h0 h []
set_option maxRecDepth 65536 in
set_option maxHeartbeats 40000000 in
theorem rm_ifp1 (l : Launch) (Z : State) (a0 : Array Value) (hw : ∀ d ∈ tables_1, d.before a0 Z = true) (ws : List Jvm.Cond) (a : Nat) (f : Nat) (n : Nat) (P : Prop) (cK : ClassId) (cz : Int32) (ta : Nat) (ka : ClassId) (ci : Nat) (fm : Value) (h0 : Heap) (n0 : Nat) (Z0 : n0 ≤ h0.size) (SO : own_Opt Z h0 n a P) (hmd : Jvm.LamKit.Made Z own_host own_sh1 cK) (hfn : own_Fn h0 f cK) (O0 : Old Z n0 h0) (S_COMPACT_STRINGS : Sta Z Z.heap "java/lang/String" "COMPACT_STRINGS" "Z" (.int cz)) (hcz : ¬ cz = (0 : Int32)) (S_A : Sta Z Z.heap "java/lang/CharacterDataLatin1" "A" "[I" (.ref ta)) (TA : Arv Z h0 ta ka .int (256 : Int32) (own_A.map Value.int) (.int (0 : Int32))) (S_instance : Sta Z Z.heap "java/lang/CharacterDataLatin1" "instance" "Ljava/lang/CharacterDataLatin1;" (.ref ci)) (EC : Exa Z h0 ci "java/lang/CharacterDataLatin1") (rf : fm.isRef = true) (S_SIOOBE_FORMATTER : Sta Z Z.heap "jdk/internal/util/Preconditions" "SIOOBE_FORMATTER" "Ljava/util/function/BiFunction;" fm) :
    MetFree l (⟨"java/util/Optional", "ifPresent", "(Ljava/util/function/Consumer;)V"⟩ : MethodName) (head1 (Jvm.Cond.code (⟨"java/util/Optional", "ifPresent", "(Ljava/util/function/Consumer;)V"⟩ : MethodName) jdk_32_method_8_code 2 none :: ws) ({ frames := 8, cells := 2, slots := 48, locals := 109 } : Room)) (fun aa UU => aa = #[(.ref a), (.ref f)] ∧ Z.Warmed39 UU.vm ∧ UU.heap = h0) (fun _ _ _ _ _ => True) (fun _ UU oo UU' => ∃ vv LL, oo = .returned vv ∧ Q_rm_ifp1 Z a f n P cK cz ta ka ci fm h0 n0 vv UU'.heap LL ∧ ReturnedEndW UU oo UU' LL ({ frames := 8, cells := 2, slots := 48, locals := 109 } : Room).cells ({ frames := 8, cells := 2, slots := 48, locals := 109 } : Room).slots) := by
  refine MetFree.of_bodySF (plainFor_of_name pn_3) hisR ?_
  intro p e s m args below meth c s₁ Bd hml0 hP hK
  obtain ⟨rfl, hZ, hh⟩ := hP
  have hx := Bd.exec
  have hby := Bd.bytes
  have hret := Bd.returns
  have hml : c.maxLocals = 2 := hml0
  have hown : s.vm.findClass "java/util/Optional" = some m.cls := findClass_of_methodNamed Bd.named
  have hnm := (name_of_methodNamed Bd.named Bd.method).1
  have hlk : meth.locks = false := BodyLoose.notSynchronized Bd
  have X0 : Stand p l e ({ frames := 8, cells := 2, slots := 48, locals := 109 } : Room) (s.setVm s.vm) m #[(.ref a), (.ref f)] below meth c s₁ [] 0 0 := Stand.of_body Bd
  have e0 : s₁.heap = h0 := by rw [← hh, Bd.state]; rfl
  have N0 := Fr.nil n0
  have hS : s.Since s.vm 0 := own_since s
  have hk : 0 ≤ h0.size := Nat.zero_le _
  have hwS : ∀ a ∈ Bundle.stringAtoms, a.before a0 Z = true := fun d hd => hw d ((by decide +kernel : ∀ d ∈ Bundle.stringAtoms, d ∈ tables_1) d hd)
  have lt_TA := own_ltN TA.lt
  have lt_EC := own_ltN EC.lt
  refine own_in (ef_33 m a f) ?_
  obtain ⟨E_o, lt_o, vo, F_o, hcase⟩ := id SO
  rcases hcase with ⟨hP, t, x, rfl, S_t, hv⟩ | ⟨hP, rfl⟩
  · obtain ⟨sE, sC, sP, sa, tt, kb, sh, sV, sA⟩ := id S_t
    refine og s₁ (mkF m 1 #[rv a, rv f] [(.ref a)]) (fun t_ k_ => XS.aloadN X0.here hx rfl (hb hby d_jdk_32_8_0) rfl rfl k_) ?_
    obtain ⟨T1, X1, e1, st1⟩ := getF X0 hx hZ hown (host := "") (Or.inl (own_w hw 49 rfl)) Via.refl e0 F_o (g := (mkF m 1 #[rv a, rv f] [(.ref a)])) rfl rfl (hb hby d_jdk_32_8_1)
    refine og T1 (mkF m 4 #[rv a, rv f] [(.ref t)]) (fun t_ k_ => st1 _ k_) ?_
    refine og T1 (mkF m 7 #[rv a, rv f] []) (fun t_ k_ => XS.ifnullNo X1.here hx rfl (hb hby d_jdk_32_8_4) rfl k_) ?_
    refine og T1 (mkF m 8 #[rv a, rv f] [(.ref f)]) (fun t_ k_ => XS.aloadN X1.here hx rfl (hb hby d_jdk_32_8_7) rfl rfl k_) ?_
    refine og T1 (mkF m 9 #[rv a, rv f] [(.ref a), (.ref f)]) (fun t_ k_ => XS.aloadN X1.here hx rfl (hb hby d_jdk_32_8_8) rfl rfl k_) ?_
    obtain ⟨T2, X2, e2, st2⟩ := getF X1 hx hZ hown (host := "") (Or.inl (own_w hw 49 rfl)) Via.refl e1 F_o (g := (mkF m 9 #[rv a, rv f] [(.ref a), (.ref f)])) rfl rfl (hb hby d_jdk_32_8_9)
    refine og T2 (mkF m 12 #[rv a, rv f] [(.ref t), (.ref f)]) (fun t_ k_ => st2 _ k_) ?_
    obtain ⟨_, _, ⟨T3, L3, k3, n3⟩, -, X3_, h23, gr3, ⟨Lc3, hQ3, l3, y3, z3⟩, st3⟩ := own_lam X2 hx hZ (xi := ym_32) (y := ym_28) (rm_lam1 l Z a0 hw [] t x tt kb cz ta ka ci fm h0 n0 (show n0 ≤ h0.size by omega) hv sE sV sC sA O0 S_COMPACT_STRINGS hcz S_A TA S_instance EC rf S_SIOOBE_FORMATTER) (fun _ _ _ q => q.1) hown (mvT hZ (own_w hw 79 rfl)) (mvT hZ (own_w hw 80 rfl)) (mvT hZ (own_w hw 81 rfl)) (own_w hw 81 rfl) (own_w hw 201 rfl) (own_w hw 200 rfl) (own_w hw 28 rfl) (own_w hw 17 rfl) ⟨rfl, rfl, (by decide +kernel)⟩ ⟨rfl, rfl, (by decide +kernel)⟩ (by decide) hmd e2 hfn sE own_ok1 own_ck1 (by decide +kernel) (by decide +kernel) (by decide +kernel) (by decide +kernel) (g := (mkF m 12 #[rv a, rv f] [(.ref t), (.ref f)])) rfl (by rw [hml]; rfl) (fun _ hq => by cases (pd_4.symm.trans hq); rfl) (fun _ hq => by cases (pd_17.symm.trans hq); rfl) rfl (hb hby d_jdk_32_8_12) (by decide) (Nat.le_of_ble_eq_true rfl) (by decide : 0 + 2 ≤ _) (by decide : 0 + 48 ≤ _)
    dsimp only [Pt.U, Pt.locs, Pt.cells, Pt.slots] at X3_ h23 gr3 l3 y3 z3 st3 hQ3
    replace l3 := l3.symm; replace y3 := y3.symm; replace z3 := z3.symm; subst l3 y3 z3
    obtain ⟨X3, hS, hZ, hown⟩ := rebS hS (show _ ≤ T2.heap.size by rw [e2]; omega) X3_ h23 gr3 hZ hown
    have hk : T3.heap.size ≤ T3.heap.size := Nat.le_refl _
    obtain ⟨rfl, M3, K3_⟩ := hQ3
    have zz3 := K3_.1
    have O3 := O0.keep K3_ all0
    have K3 := (Keep.refl h0 []).trans K3_ all0
    have N3 := Fr.app N0 M3
    refine og T3 (mkF m 17 #[rv a, rv f] []) (fun t_ k_ => st3.trans k_) ?_
    exact own_outW X3 hS (show _ ≤ T3.heap.size by omega) (v := none) (fun _ => rfl) hlk (fun fs hr => X3.returnOut hx hret (hb hby d_jdk_32_8_17) hr) (Q := Q_rm_ifp1 Z a f n P cK cz ta ka ci fm h0 n0) (by exact ⟨rfl, N3, K3⟩) (by decide) (by decide)
  · skip
    refine og s₁ (mkF m 1 #[rv a, rv f] [(.ref a)]) (fun t_ k_ => XS.aloadN X0.here hx rfl (hb hby d_jdk_32_8_0) rfl rfl k_) ?_
    obtain ⟨T4, X4, e4, st4⟩ := getF X0 hx hZ hown (host := "") (Or.inl (own_w hw 49 rfl)) Via.refl e0 F_o (g := (mkF m 1 #[rv a, rv f] [(.ref a)])) rfl rfl (hb hby d_jdk_32_8_1)
    refine og T4 (mkF m 4 #[rv a, rv f] [.null]) (fun t_ k_ => st4 _ k_) ?_
    refine og T4 (mkF m 17 #[rv a, rv f] []) (fun t_ k_ => XS.ifnullYes X4.here hx rfl (pc0 := 4) (pc' := 17) rfl (hb hby d_jdk_32_8_4) rfl (by decide) (by decide) k_) ?_
    exact own_outW X4 hS (show _ ≤ T4.heap.size by rw [e4]; omega) (v := none) (fun _ => rfl) hlk (fun fs hr => X4.returnOut hx hret (hb hby d_jdk_32_8_17) hr) (Q := Q_rm_ifp1 Z a f n P cK cz ta ka ci fm h0 n0) (by rw [e4]; exact ⟨rfl, N0, (Keep.refl h0 [])⟩) (by decide) (by decide)
def Q_rm_ifp2 (Z : State) (a : Nat) (f : Nat) (n : Nat) (P : Prop) (cK : ClassId) (cz : Int32) (ta : Nat) (ka : ClassId) (ci : Nat) (fm : Value) (h0 : Heap) (n0 : Nat) (vv : Option Value) (h : Heap) (LL : List Loc) : Prop := vv = none ∧ Fr n0 LL ∧ Keep h0 h []
set_option maxRecDepth 65536 in
set_option maxHeartbeats 40000000 in
theorem rm_ifp2 (l : Launch) (Z : State) (a0 : Array Value) (hw : ∀ d ∈ tables_1, d.before a0 Z = true) (ws : List Jvm.Cond) (a : Nat) (f : Nat) (n : Nat) (P : Prop) (cK : ClassId) (cz : Int32) (ta : Nat) (ka : ClassId) (ci : Nat) (fm : Value) (h0 : Heap) (n0 : Nat) (Z0 : n0 ≤ h0.size) (SO : own_Opt Z h0 n a P) (hmd : Jvm.LamKit.Made Z own_host own_sh2 cK) (hfn : own_Fn h0 f cK) (O0 : Old Z n0 h0) (S_COMPACT_STRINGS : Sta Z Z.heap "java/lang/String" "COMPACT_STRINGS" "Z" (.int cz)) (hcz : ¬ cz = (0 : Int32)) (S_A : Sta Z Z.heap "java/lang/CharacterDataLatin1" "A" "[I" (.ref ta)) (TA : Arv Z h0 ta ka .int (256 : Int32) (own_A.map Value.int) (.int (0 : Int32))) (S_instance : Sta Z Z.heap "java/lang/CharacterDataLatin1" "instance" "Ljava/lang/CharacterDataLatin1;" (.ref ci)) (EC : Exa Z h0 ci "java/lang/CharacterDataLatin1") (rf : fm.isRef = true) (S_SIOOBE_FORMATTER : Sta Z Z.heap "jdk/internal/util/Preconditions" "SIOOBE_FORMATTER" "Ljava/util/function/BiFunction;" fm) :
    MetFree l (⟨"java/util/Optional", "ifPresent", "(Ljava/util/function/Consumer;)V"⟩ : MethodName) (head1 (Jvm.Cond.code (⟨"java/util/Optional", "ifPresent", "(Ljava/util/function/Consumer;)V"⟩ : MethodName) jdk_32_method_8_code 2 none :: ws) ({ frames := 8, cells := 2, slots := 44, locals := 109 } : Room)) (fun aa UU => aa = #[(.ref a), (.ref f)] ∧ Z.Warmed39 UU.vm ∧ UU.heap = h0) (fun _ _ _ _ _ => True) (fun _ UU oo UU' => ∃ vv LL, oo = .returned vv ∧ Q_rm_ifp2 Z a f n P cK cz ta ka ci fm h0 n0 vv UU'.heap LL ∧ ReturnedEndW UU oo UU' LL ({ frames := 8, cells := 2, slots := 44, locals := 109 } : Room).cells ({ frames := 8, cells := 2, slots := 44, locals := 109 } : Room).slots) := by
  refine MetFree.of_bodySF (plainFor_of_name pn_3) hisR ?_
  intro p e s m args below meth c s₁ Bd hml0 hP hK
  obtain ⟨rfl, hZ, hh⟩ := hP
  have hx := Bd.exec
  have hby := Bd.bytes
  have hret := Bd.returns
  have hml : c.maxLocals = 2 := hml0
  have hown : s.vm.findClass "java/util/Optional" = some m.cls := findClass_of_methodNamed Bd.named
  have hnm := (name_of_methodNamed Bd.named Bd.method).1
  have hlk : meth.locks = false := BodyLoose.notSynchronized Bd
  have X0 : Stand p l e ({ frames := 8, cells := 2, slots := 44, locals := 109 } : Room) (s.setVm s.vm) m #[(.ref a), (.ref f)] below meth c s₁ [] 0 0 := Stand.of_body Bd
  have e0 : s₁.heap = h0 := by rw [← hh, Bd.state]; rfl
  have N0 := Fr.nil n0
  have hS : s.Since s.vm 0 := own_since s
  have hk : 0 ≤ h0.size := Nat.zero_le _
  have hwS : ∀ a ∈ Bundle.stringAtoms, a.before a0 Z = true := fun d hd => hw d ((by decide +kernel : ∀ d ∈ Bundle.stringAtoms, d ∈ tables_1) d hd)
  have lt_TA := own_ltN TA.lt
  have lt_EC := own_ltN EC.lt
  refine own_in (ef_33 m a f) ?_
  obtain ⟨E_o, lt_o, vo, F_o, hcase⟩ := id SO
  rcases hcase with ⟨hP, t, x, rfl, S_t, hv⟩ | ⟨hP, rfl⟩
  · obtain ⟨sE, sC, sP, sa, tt, kb, sh, sV, sA⟩ := id S_t
    refine og s₁ (mkF m 1 #[rv a, rv f] [(.ref a)]) (fun t_ k_ => XS.aloadN X0.here hx rfl (hb hby d_jdk_32_8_0) rfl rfl k_) ?_
    obtain ⟨T1, X1, e1, st1⟩ := getF X0 hx hZ hown (host := "") (Or.inl (own_w hw 49 rfl)) Via.refl e0 F_o (g := (mkF m 1 #[rv a, rv f] [(.ref a)])) rfl rfl (hb hby d_jdk_32_8_1)
    refine og T1 (mkF m 4 #[rv a, rv f] [(.ref t)]) (fun t_ k_ => st1 _ k_) ?_
    refine og T1 (mkF m 7 #[rv a, rv f] []) (fun t_ k_ => XS.ifnullNo X1.here hx rfl (hb hby d_jdk_32_8_4) rfl k_) ?_
    refine og T1 (mkF m 8 #[rv a, rv f] [(.ref f)]) (fun t_ k_ => XS.aloadN X1.here hx rfl (hb hby d_jdk_32_8_7) rfl rfl k_) ?_
    refine og T1 (mkF m 9 #[rv a, rv f] [(.ref a), (.ref f)]) (fun t_ k_ => XS.aloadN X1.here hx rfl (hb hby d_jdk_32_8_8) rfl rfl k_) ?_
    obtain ⟨T2, X2, e2, st2⟩ := getF X1 hx hZ hown (host := "") (Or.inl (own_w hw 49 rfl)) Via.refl e1 F_o (g := (mkF m 9 #[rv a, rv f] [(.ref a), (.ref f)])) rfl rfl (hb hby d_jdk_32_8_9)
    refine og T2 (mkF m 12 #[rv a, rv f] [(.ref t), (.ref f)]) (fun t_ k_ => st2 _ k_) ?_
    obtain ⟨_, _, ⟨T3, L3, k3, n3⟩, -, X3_, h23, gr3, ⟨Lc3, hQ3, l3, y3, z3⟩, st3⟩ := own_lam X2 hx hZ (xi := ym_32) (y := ym_29) (rm_lam2 l Z a0 hw [] t x tt kb cz ta ka ci fm h0 n0 (show n0 ≤ h0.size by omega) hv sE sV sC sA O0 S_COMPACT_STRINGS hcz S_A TA S_instance EC rf S_SIOOBE_FORMATTER) (fun _ _ _ q => q.1) hown (mvT hZ (own_w hw 79 rfl)) (mvT hZ (own_w hw 80 rfl)) (mvT hZ (own_w hw 81 rfl)) (own_w hw 81 rfl) (own_w hw 195 rfl) (own_w hw 194 rfl) (own_w hw 28 rfl) (own_w hw 17 rfl) ⟨rfl, rfl, (by decide +kernel)⟩ ⟨rfl, rfl, (by decide +kernel)⟩ (by decide) hmd e2 hfn sE own_ok2 own_ck2 (by decide +kernel) (by decide +kernel) (by decide +kernel) (by decide +kernel) (g := (mkF m 12 #[rv a, rv f] [(.ref t), (.ref f)])) rfl (by rw [hml]; rfl) (fun _ hq => by cases (pd_4.symm.trans hq); rfl) (fun _ hq => by cases (pd_17.symm.trans hq); rfl) rfl (hb hby d_jdk_32_8_12) (by decide) (Nat.le_of_ble_eq_true rfl) (by decide : 0 + 2 ≤ _) (by decide : 0 + 44 ≤ _)
    dsimp only [Pt.U, Pt.locs, Pt.cells, Pt.slots] at X3_ h23 gr3 l3 y3 z3 st3 hQ3
    replace l3 := l3.symm; replace y3 := y3.symm; replace z3 := z3.symm; subst l3 y3 z3
    obtain ⟨X3, hS, hZ, hown⟩ := rebS hS (show _ ≤ T2.heap.size by rw [e2]; omega) X3_ h23 gr3 hZ hown
    have hk : T3.heap.size ≤ T3.heap.size := Nat.le_refl _
    obtain ⟨rfl, M3, K3_⟩ := hQ3
    have zz3 := K3_.1
    have O3 := O0.keep K3_ all0
    have K3 := (Keep.refl h0 []).trans K3_ all0
    have N3 := Fr.app N0 M3
    refine og T3 (mkF m 17 #[rv a, rv f] []) (fun t_ k_ => st3.trans k_) ?_
    exact own_outW X3 hS (show _ ≤ T3.heap.size by omega) (v := none) (fun _ => rfl) hlk (fun fs hr => X3.returnOut hx hret (hb hby d_jdk_32_8_17) hr) (Q := Q_rm_ifp2 Z a f n P cK cz ta ka ci fm h0 n0) (by exact ⟨rfl, N3, K3⟩) (by decide) (by decide)
  · skip
    refine og s₁ (mkF m 1 #[rv a, rv f] [(.ref a)]) (fun t_ k_ => XS.aloadN X0.here hx rfl (hb hby d_jdk_32_8_0) rfl rfl k_) ?_
    obtain ⟨T4, X4, e4, st4⟩ := getF X0 hx hZ hown (host := "") (Or.inl (own_w hw 49 rfl)) Via.refl e0 F_o (g := (mkF m 1 #[rv a, rv f] [(.ref a)])) rfl rfl (hb hby d_jdk_32_8_1)
    refine og T4 (mkF m 4 #[rv a, rv f] [.null]) (fun t_ k_ => st4 _ k_) ?_
    refine og T4 (mkF m 17 #[rv a, rv f] []) (fun t_ k_ => XS.ifnullYes X4.here hx rfl (pc0 := 4) (pc' := 17) rfl (hb hby d_jdk_32_8_4) rfl (by decide) (by decide) k_) ?_
    exact own_outW X4 hS (show _ ≤ T4.heap.size by rw [e4]; omega) (v := none) (fun _ => rfl) hlk (fun fs hr => X4.returnOut hx hret (hb hby d_jdk_32_8_17) hr) (Q := Q_rm_ifp2 Z a f n P cK cz ta ka ci fm h0 n0) (by rw [e4]; exact ⟨rfl, N0, (Keep.refl h0 [])⟩) (by decide) (by decide)
def Q_rm_ifp3 (Z : State) (a : Nat) (f : Nat) (n : Nat) (P : Prop) (cK : ClassId) (cz : Int32) (ta : Nat) (ka : ClassId) (ci : Nat) (fm : Value) (h0 : Heap) (n0 : Nat) (vv : Option Value) (h : Heap) (LL : List Loc) : Prop := vv = none ∧ Fr n0 LL ∧ Keep h0 h []
set_option maxRecDepth 65536 in
set_option maxHeartbeats 40000000 in
theorem rm_ifp3 (l : Launch) (Z : State) (a0 : Array Value) (hw : ∀ d ∈ tables_1, d.before a0 Z = true) (ws : List Jvm.Cond) (a : Nat) (f : Nat) (n : Nat) (P : Prop) (cK : ClassId) (cz : Int32) (ta : Nat) (ka : ClassId) (ci : Nat) (fm : Value) (h0 : Heap) (n0 : Nat) (Z0 : n0 ≤ h0.size) (SO : own_Opt Z h0 n a P) (hmd : Jvm.LamKit.Made Z own_host own_sh3 cK) (hfn : own_Fn h0 f cK) (O0 : Old Z n0 h0) (S_COMPACT_STRINGS : Sta Z Z.heap "java/lang/String" "COMPACT_STRINGS" "Z" (.int cz)) (hcz : ¬ cz = (0 : Int32)) (S_A : Sta Z Z.heap "java/lang/CharacterDataLatin1" "A" "[I" (.ref ta)) (TA : Arv Z h0 ta ka .int (256 : Int32) (own_A.map Value.int) (.int (0 : Int32))) (S_instance : Sta Z Z.heap "java/lang/CharacterDataLatin1" "instance" "Ljava/lang/CharacterDataLatin1;" (.ref ci)) (EC : Exa Z h0 ci "java/lang/CharacterDataLatin1") (rf : fm.isRef = true) (S_SIOOBE_FORMATTER : Sta Z Z.heap "jdk/internal/util/Preconditions" "SIOOBE_FORMATTER" "Ljava/util/function/BiFunction;" fm) :
    MetFree l (⟨"java/util/Optional", "ifPresent", "(Ljava/util/function/Consumer;)V"⟩ : MethodName) (head1 (Jvm.Cond.code (⟨"java/util/Optional", "ifPresent", "(Ljava/util/function/Consumer;)V"⟩ : MethodName) jdk_32_method_8_code 2 none :: ws) ({ frames := 8, cells := 2, slots := 20, locals := 109 } : Room)) (fun aa UU => aa = #[(.ref a), (.ref f)] ∧ Z.Warmed39 UU.vm ∧ UU.heap = h0) (fun _ _ _ _ _ => True) (fun _ UU oo UU' => ∃ vv LL, oo = .returned vv ∧ Q_rm_ifp3 Z a f n P cK cz ta ka ci fm h0 n0 vv UU'.heap LL ∧ ReturnedEndW UU oo UU' LL ({ frames := 8, cells := 2, slots := 20, locals := 109 } : Room).cells ({ frames := 8, cells := 2, slots := 20, locals := 109 } : Room).slots) := by
  refine MetFree.of_bodySF (plainFor_of_name pn_3) hisR ?_
  intro p e s m args below meth c s₁ Bd hml0 hP hK
  obtain ⟨rfl, hZ, hh⟩ := hP
  have hx := Bd.exec
  have hby := Bd.bytes
  have hret := Bd.returns
  have hml : c.maxLocals = 2 := hml0
  have hown : s.vm.findClass "java/util/Optional" = some m.cls := findClass_of_methodNamed Bd.named
  have hnm := (name_of_methodNamed Bd.named Bd.method).1
  have hlk : meth.locks = false := BodyLoose.notSynchronized Bd
  have X0 : Stand p l e ({ frames := 8, cells := 2, slots := 20, locals := 109 } : Room) (s.setVm s.vm) m #[(.ref a), (.ref f)] below meth c s₁ [] 0 0 := Stand.of_body Bd
  have e0 : s₁.heap = h0 := by rw [← hh, Bd.state]; rfl
  have N0 := Fr.nil n0
  have hS : s.Since s.vm 0 := own_since s
  have hk : 0 ≤ h0.size := Nat.zero_le _
  have hwS : ∀ a ∈ Bundle.stringAtoms, a.before a0 Z = true := fun d hd => hw d ((by decide +kernel : ∀ d ∈ Bundle.stringAtoms, d ∈ tables_1) d hd)
  have lt_TA := own_ltN TA.lt
  have lt_EC := own_ltN EC.lt
  refine own_in (ef_33 m a f) ?_
  obtain ⟨E_o, lt_o, vo, F_o, hcase⟩ := id SO
  rcases hcase with ⟨hP, t, x, rfl, S_t, hv⟩ | ⟨hP, rfl⟩
  · obtain ⟨sE, sC, sP, sa, tt, kb, sh, sV, sA⟩ := id S_t
    refine og s₁ (mkF m 1 #[rv a, rv f] [(.ref a)]) (fun t_ k_ => XS.aloadN X0.here hx rfl (hb hby d_jdk_32_8_0) rfl rfl k_) ?_
    obtain ⟨T1, X1, e1, st1⟩ := getF X0 hx hZ hown (host := "") (Or.inl (own_w hw 49 rfl)) Via.refl e0 F_o (g := (mkF m 1 #[rv a, rv f] [(.ref a)])) rfl rfl (hb hby d_jdk_32_8_1)
    refine og T1 (mkF m 4 #[rv a, rv f] [(.ref t)]) (fun t_ k_ => st1 _ k_) ?_
    refine og T1 (mkF m 7 #[rv a, rv f] []) (fun t_ k_ => XS.ifnullNo X1.here hx rfl (hb hby d_jdk_32_8_4) rfl k_) ?_
    refine og T1 (mkF m 8 #[rv a, rv f] [(.ref f)]) (fun t_ k_ => XS.aloadN X1.here hx rfl (hb hby d_jdk_32_8_7) rfl rfl k_) ?_
    refine og T1 (mkF m 9 #[rv a, rv f] [(.ref a), (.ref f)]) (fun t_ k_ => XS.aloadN X1.here hx rfl (hb hby d_jdk_32_8_8) rfl rfl k_) ?_
    obtain ⟨T2, X2, e2, st2⟩ := getF X1 hx hZ hown (host := "") (Or.inl (own_w hw 49 rfl)) Via.refl e1 F_o (g := (mkF m 9 #[rv a, rv f] [(.ref a), (.ref f)])) rfl rfl (hb hby d_jdk_32_8_9)
    refine og T2 (mkF m 12 #[rv a, rv f] [(.ref t), (.ref f)]) (fun t_ k_ => st2 _ k_) ?_
    obtain ⟨_, _, ⟨T3, L3, k3, n3⟩, -, X3_, h23, gr3, ⟨Lc3, hQ3, l3, y3, z3⟩, st3⟩ := own_lam X2 hx hZ (xi := ym_32) (y := ym_30) (rm_lam3 l Z a0 hw [] t x tt kb cz ta ka ci fm h0 n0 (show n0 ≤ h0.size by omega) hv sE sV sC sA O0 S_COMPACT_STRINGS hcz S_A TA S_instance EC rf S_SIOOBE_FORMATTER) (fun _ _ _ q => q.1) hown (mvT hZ (own_w hw 79 rfl)) (mvT hZ (own_w hw 80 rfl)) (mvT hZ (own_w hw 81 rfl)) (own_w hw 81 rfl) (own_w hw 197 rfl) (own_w hw 196 rfl) (own_w hw 28 rfl) (own_w hw 17 rfl) ⟨rfl, rfl, (by decide +kernel)⟩ ⟨rfl, rfl, (by decide +kernel)⟩ (by decide) hmd e2 hfn sE own_ok3 own_ck3 (by decide +kernel) (by decide +kernel) (by decide +kernel) (by decide +kernel) (g := (mkF m 12 #[rv a, rv f] [(.ref t), (.ref f)])) rfl (by rw [hml]; rfl) (fun _ hq => by cases (pd_4.symm.trans hq); rfl) (fun _ hq => by cases (pd_17.symm.trans hq); rfl) rfl (hb hby d_jdk_32_8_12) (by decide) (Nat.le_of_ble_eq_true rfl) (by decide : 0 + 2 ≤ _) (by decide : 0 + 20 ≤ _)
    dsimp only [Pt.U, Pt.locs, Pt.cells, Pt.slots] at X3_ h23 gr3 l3 y3 z3 st3 hQ3
    replace l3 := l3.symm; replace y3 := y3.symm; replace z3 := z3.symm; subst l3 y3 z3
    obtain ⟨X3, hS, hZ, hown⟩ := rebS hS (show _ ≤ T2.heap.size by rw [e2]; omega) X3_ h23 gr3 hZ hown
    have hk : T3.heap.size ≤ T3.heap.size := Nat.le_refl _
    obtain ⟨rfl, M3, K3_⟩ := hQ3
    have zz3 := K3_.1
    have O3 := O0.keep K3_ all0
    have K3 := (Keep.refl h0 []).trans K3_ all0
    have N3 := Fr.app N0 M3
    refine og T3 (mkF m 17 #[rv a, rv f] []) (fun t_ k_ => st3.trans k_) ?_
    exact own_outW X3 hS (show _ ≤ T3.heap.size by omega) (v := none) (fun _ => rfl) hlk (fun fs hr => X3.returnOut hx hret (hb hby d_jdk_32_8_17) hr) (Q := Q_rm_ifp3 Z a f n P cK cz ta ka ci fm h0 n0) (by exact ⟨rfl, N3, K3⟩) (by decide) (by decide)
  · skip
    refine og s₁ (mkF m 1 #[rv a, rv f] [(.ref a)]) (fun t_ k_ => XS.aloadN X0.here hx rfl (hb hby d_jdk_32_8_0) rfl rfl k_) ?_
    obtain ⟨T4, X4, e4, st4⟩ := getF X0 hx hZ hown (host := "") (Or.inl (own_w hw 49 rfl)) Via.refl e0 F_o (g := (mkF m 1 #[rv a, rv f] [(.ref a)])) rfl rfl (hb hby d_jdk_32_8_1)
    refine og T4 (mkF m 4 #[rv a, rv f] [.null]) (fun t_ k_ => st4 _ k_) ?_
    refine og T4 (mkF m 17 #[rv a, rv f] []) (fun t_ k_ => XS.ifnullYes X4.here hx rfl (pc0 := 4) (pc' := 17) rfl (hb hby d_jdk_32_8_4) rfl (by decide) (by decide) k_) ?_
    exact own_outW X4 hS (show _ ≤ T4.heap.size by rw [e4]; omega) (v := none) (fun _ => rfl) hlk (fun fs hr => X4.returnOut hx hret (hb hby d_jdk_32_8_17) hr) (Q := Q_rm_ifp3 Z a f n P cK cz ta ka ci fm h0 n0) (by rw [e4]; exact ⟨rfl, N0, (Keep.refl h0 [])⟩) (by decide) (by decide)
def Q_rm_ifp4 (Z : State) (a : Nat) (f : Nat) (n : Nat) (P : Prop) (cK : ClassId) (cz : Int32) (ta : Nat) (ka : ClassId) (ci : Nat) (fm : Value) (h0 : Heap) (n0 : Nat) (vv : Option Value) (h : Heap) (LL : List Loc) : Prop := vv = none ∧ Fr n0 LL ∧ Keep h0 h []
set_option maxRecDepth 65536 in
set_option maxHeartbeats 40000000 in
theorem rm_ifp4 (l : Launch) (Z : State) (a0 : Array Value) (hw : ∀ d ∈ tables_1, d.before a0 Z = true) (ws : List Jvm.Cond) (a : Nat) (f : Nat) (n : Nat) (P : Prop) (cK : ClassId) (cz : Int32) (ta : Nat) (ka : ClassId) (ci : Nat) (fm : Value) (h0 : Heap) (n0 : Nat) (Z0 : n0 ≤ h0.size) (SO : own_Opt Z h0 n a P) (hmd : Jvm.LamKit.Made Z own_host own_sh4 cK) (hfn : own_Fn h0 f cK) (O0 : Old Z n0 h0) (S_COMPACT_STRINGS : Sta Z Z.heap "java/lang/String" "COMPACT_STRINGS" "Z" (.int cz)) (hcz : ¬ cz = (0 : Int32)) (S_A : Sta Z Z.heap "java/lang/CharacterDataLatin1" "A" "[I" (.ref ta)) (TA : Arv Z h0 ta ka .int (256 : Int32) (own_A.map Value.int) (.int (0 : Int32))) (S_instance : Sta Z Z.heap "java/lang/CharacterDataLatin1" "instance" "Ljava/lang/CharacterDataLatin1;" (.ref ci)) (EC : Exa Z h0 ci "java/lang/CharacterDataLatin1") (rf : fm.isRef = true) (S_SIOOBE_FORMATTER : Sta Z Z.heap "jdk/internal/util/Preconditions" "SIOOBE_FORMATTER" "Ljava/util/function/BiFunction;" fm) :
    MetFree l (⟨"java/util/Optional", "ifPresent", "(Ljava/util/function/Consumer;)V"⟩ : MethodName) (head1 (Jvm.Cond.code (⟨"java/util/Optional", "ifPresent", "(Ljava/util/function/Consumer;)V"⟩ : MethodName) jdk_32_method_8_code 2 none :: ws) ({ frames := 8, cells := 2, slots := 32, locals := 109 } : Room)) (fun aa UU => aa = #[(.ref a), (.ref f)] ∧ Z.Warmed39 UU.vm ∧ UU.heap = h0) (fun _ _ _ _ _ => True) (fun _ UU oo UU' => ∃ vv LL, oo = .returned vv ∧ Q_rm_ifp4 Z a f n P cK cz ta ka ci fm h0 n0 vv UU'.heap LL ∧ ReturnedEndW UU oo UU' LL ({ frames := 8, cells := 2, slots := 32, locals := 109 } : Room).cells ({ frames := 8, cells := 2, slots := 32, locals := 109 } : Room).slots) := by
  refine MetFree.of_bodySF (plainFor_of_name pn_3) hisR ?_
  intro p e s m args below meth c s₁ Bd hml0 hP hK
  obtain ⟨rfl, hZ, hh⟩ := hP
  have hx := Bd.exec
  have hby := Bd.bytes
  have hret := Bd.returns
  have hml : c.maxLocals = 2 := hml0
  have hown : s.vm.findClass "java/util/Optional" = some m.cls := findClass_of_methodNamed Bd.named
  have hnm := (name_of_methodNamed Bd.named Bd.method).1
  have hlk : meth.locks = false := BodyLoose.notSynchronized Bd
  have X0 : Stand p l e ({ frames := 8, cells := 2, slots := 32, locals := 109 } : Room) (s.setVm s.vm) m #[(.ref a), (.ref f)] below meth c s₁ [] 0 0 := Stand.of_body Bd
  have e0 : s₁.heap = h0 := by rw [← hh, Bd.state]; rfl
  have N0 := Fr.nil n0
  have hS : s.Since s.vm 0 := own_since s
  have hk : 0 ≤ h0.size := Nat.zero_le _
  have hwS : ∀ a ∈ Bundle.stringAtoms, a.before a0 Z = true := fun d hd => hw d ((by decide +kernel : ∀ d ∈ Bundle.stringAtoms, d ∈ tables_1) d hd)
  have lt_TA := own_ltN TA.lt
  have lt_EC := own_ltN EC.lt
  refine own_in (ef_33 m a f) ?_
  obtain ⟨E_o, lt_o, vo, F_o, hcase⟩ := id SO
  rcases hcase with ⟨hP, t, x, rfl, S_t, hv⟩ | ⟨hP, rfl⟩
  · obtain ⟨sE, sC, sP, sa, tt, kb, sh, sV, sA⟩ := id S_t
    refine og s₁ (mkF m 1 #[rv a, rv f] [(.ref a)]) (fun t_ k_ => XS.aloadN X0.here hx rfl (hb hby d_jdk_32_8_0) rfl rfl k_) ?_
    obtain ⟨T1, X1, e1, st1⟩ := getF X0 hx hZ hown (host := "") (Or.inl (own_w hw 49 rfl)) Via.refl e0 F_o (g := (mkF m 1 #[rv a, rv f] [(.ref a)])) rfl rfl (hb hby d_jdk_32_8_1)
    refine og T1 (mkF m 4 #[rv a, rv f] [(.ref t)]) (fun t_ k_ => st1 _ k_) ?_
    refine og T1 (mkF m 7 #[rv a, rv f] []) (fun t_ k_ => XS.ifnullNo X1.here hx rfl (hb hby d_jdk_32_8_4) rfl k_) ?_
    refine og T1 (mkF m 8 #[rv a, rv f] [(.ref f)]) (fun t_ k_ => XS.aloadN X1.here hx rfl (hb hby d_jdk_32_8_7) rfl rfl k_) ?_
    refine og T1 (mkF m 9 #[rv a, rv f] [(.ref a), (.ref f)]) (fun t_ k_ => XS.aloadN X1.here hx rfl (hb hby d_jdk_32_8_8) rfl rfl k_) ?_
    obtain ⟨T2, X2, e2, st2⟩ := getF X1 hx hZ hown (host := "") (Or.inl (own_w hw 49 rfl)) Via.refl e1 F_o (g := (mkF m 9 #[rv a, rv f] [(.ref a), (.ref f)])) rfl rfl (hb hby d_jdk_32_8_9)
    refine og T2 (mkF m 12 #[rv a, rv f] [(.ref t), (.ref f)]) (fun t_ k_ => st2 _ k_) ?_
    obtain ⟨_, _, ⟨T3, L3, k3, n3⟩, -, X3_, h23, gr3, ⟨Lc3, hQ3, l3, y3, z3⟩, st3⟩ := own_lam X2 hx hZ (xi := ym_32) (y := ym_31) (rm_lam4 l Z a0 hw [] t x tt kb cz ta ka ci fm h0 n0 (show n0 ≤ h0.size by omega) hv sE sV sC sA O0 S_COMPACT_STRINGS hcz S_A TA S_instance EC rf S_SIOOBE_FORMATTER) (fun _ _ _ q => q.1) hown (mvT hZ (own_w hw 79 rfl)) (mvT hZ (own_w hw 80 rfl)) (mvT hZ (own_w hw 81 rfl)) (own_w hw 81 rfl) (own_w hw 199 rfl) (own_w hw 198 rfl) (own_w hw 28 rfl) (own_w hw 17 rfl) ⟨rfl, rfl, (by decide +kernel)⟩ ⟨rfl, rfl, (by decide +kernel)⟩ (by decide) hmd e2 hfn sE own_ok4 own_ck4 (by decide +kernel) (by decide +kernel) (by decide +kernel) (by decide +kernel) (g := (mkF m 12 #[rv a, rv f] [(.ref t), (.ref f)])) rfl (by rw [hml]; rfl) (fun _ hq => by cases (pd_4.symm.trans hq); rfl) (fun _ hq => by cases (pd_17.symm.trans hq); rfl) rfl (hb hby d_jdk_32_8_12) (by decide) (Nat.le_of_ble_eq_true rfl) (by decide : 0 + 2 ≤ _) (by decide : 0 + 32 ≤ _)
    dsimp only [Pt.U, Pt.locs, Pt.cells, Pt.slots] at X3_ h23 gr3 l3 y3 z3 st3 hQ3
    replace l3 := l3.symm; replace y3 := y3.symm; replace z3 := z3.symm; subst l3 y3 z3
    obtain ⟨X3, hS, hZ, hown⟩ := rebS hS (show _ ≤ T2.heap.size by rw [e2]; omega) X3_ h23 gr3 hZ hown
    have hk : T3.heap.size ≤ T3.heap.size := Nat.le_refl _
    obtain ⟨rfl, M3, K3_⟩ := hQ3
    have zz3 := K3_.1
    have O3 := O0.keep K3_ all0
    have K3 := (Keep.refl h0 []).trans K3_ all0
    have N3 := Fr.app N0 M3
    refine og T3 (mkF m 17 #[rv a, rv f] []) (fun t_ k_ => st3.trans k_) ?_
    exact own_outW X3 hS (show _ ≤ T3.heap.size by omega) (v := none) (fun _ => rfl) hlk (fun fs hr => X3.returnOut hx hret (hb hby d_jdk_32_8_17) hr) (Q := Q_rm_ifp4 Z a f n P cK cz ta ka ci fm h0 n0) (by exact ⟨rfl, N3, K3⟩) (by decide) (by decide)
  · skip
    refine og s₁ (mkF m 1 #[rv a, rv f] [(.ref a)]) (fun t_ k_ => XS.aloadN X0.here hx rfl (hb hby d_jdk_32_8_0) rfl rfl k_) ?_
    obtain ⟨T4, X4, e4, st4⟩ := getF X0 hx hZ hown (host := "") (Or.inl (own_w hw 49 rfl)) Via.refl e0 F_o (g := (mkF m 1 #[rv a, rv f] [(.ref a)])) rfl rfl (hb hby d_jdk_32_8_1)
    refine og T4 (mkF m 4 #[rv a, rv f] [.null]) (fun t_ k_ => st4 _ k_) ?_
    refine og T4 (mkF m 17 #[rv a, rv f] []) (fun t_ k_ => XS.ifnullYes X4.here hx rfl (pc0 := 4) (pc' := 17) rfl (hb hby d_jdk_32_8_4) rfl (by decide) (by decide) k_) ?_
    exact own_outW X4 hS (show _ ≤ T4.heap.size by rw [e4]; omega) (v := none) (fun _ => rfl) hlk (fun fs hr => X4.returnOut hx hret (hb hby d_jdk_32_8_17) hr) (Q := Q_rm_ifp4 Z a f n P cK cz ta ka ci fm h0 n0) (by rw [e4]; exact ⟨rfl, N0, (Keep.refl h0 [])⟩) (by decide) (by decide)
theorem own_pv (x : Int32) : own_Vis ((((33 : Int32) + ((x &&& (2147483647 : Int32)) % (94 : Int32)))).toUInt32.toUInt16.toUInt32.toInt32) := by
  have h := c_and x 2147483647 (by decide)
  have e := (c_iremV (x &&& (2147483647 : Int32)) (94 : Int32)).1 h.1 (by decide)
  have e94 : (94 : Int32).toInt = 94 := rfl
  have e33 : (33 : Int32).toInt = 33 := rfl
  have e126 : (126 : Int32).toInt = 126 := rfl
  have a := c_iadd (33 : Int32) ((x &&& (2147483647 : Int32)) % (94 : Int32))
  have q := c_i2c ((33 : Int32) + ((x &&& (2147483647 : Int32)) % (94 : Int32)))
  unfold own_Vis
  rw [Int32.lt_iff_toInt_lt, Int32.lt_iff_toInt_lt]
  omega
theorem d_method_3_0 : decode method_3_code 0 = .ok (.iload_n 0, 1) := by decide +kernel
theorem d_method_3_1 : decode method_3_code 1 = .ok (.iload_n 1, 1) := by decide +kernel
theorem d_method_3_2 : decode method_3_code 2 = .ok (.iand, 1) := by decide +kernel
theorem d_method_3_3 : decode method_3_code 3 = .ok (.ifCond .ne 7, 3) := by decide +kernel
theorem d_method_3_6 : decode method_3_code 6 = .ok (.invokestatic 28, 3) := by decide +kernel
theorem pd_18 : parseMethodDescriptor "()Ljava/util/Optional;" = some ⟨[], some (.object "java/util/Optional")⟩ := by decide +kernel
theorem d_method_3_9 : decode method_3_code 9 = .ok (.areturn, 1) := by decide +kernel
theorem d_method_3_10 : decode method_3_code 10 = .ok (.bipush 33, 2) := by decide +kernel
theorem d_method_3_12 : decode method_3_code 12 = .ok (.iload_n 2, 1) := by decide +kernel
theorem d_method_3_13 : decode method_3_code 13 = .ok (.ldc 34, 2) := by decide +kernel
theorem d_method_3_15 : decode method_3_code 15 = .ok (.iand, 1) := by decide +kernel
theorem d_method_3_16 : decode method_3_code 16 = .ok (.bipush 94, 2) := by decide +kernel
theorem d_method_3_18 : decode method_3_code 18 = .ok (.irem, 1) := by decide +kernel
theorem d_method_3_19 : decode method_3_code 19 = .ok (.iadd, 1) := by decide +kernel
theorem d_method_3_20 : decode method_3_code 20 = .ok (.i2c, 1) := by decide +kernel
theorem d_method_3_21 : decode method_3_code 21 = .ok (.invokestatic 7, 3) := by decide +kernel
theorem pd_19 : parseMethodDescriptor "(C)Ljava/lang/String;" = some ⟨[.char], some (.object "java/lang/String")⟩ := by decide +kernel
theorem d_method_3_24 : decode method_3_code 24 = .ok (.invokestatic 35, 3) := by decide +kernel
theorem pd_20 : parseMethodDescriptor "(Ljava/lang/Object;)Ljava/util/Optional;" = some ⟨[(.object "java/lang/Object")], some (.object "java/util/Optional")⟩ := by decide +kernel
theorem d_method_3_27 : decode method_3_code 27 = .ok (.areturn, 1) := by decide +kernel
theorem pn_9 : plainName "com/example/labmeld/labmeld/finding/AddressCheckAnyPartPinLaw" = true := by first | (simp [plainName, overriddenIn]; done) | decide +kernel
theorem ef_34 (m : MethodId) (bits : Int32) (bit : Int32) (x : Int32) : entryFrame m #[(.int bits), (.int bit), (.int x)] 3 = mkF m 0 #[iv bits, iv bit, iv x] [] := by first | (simp [entryFrame, mkF, argsToLocals, Value.category]; done) | rfl
abbrev ym_34 : MethodName := ⟨"com/example/labmeld/labmeld/finding/AddressCheckAnyPartPinLaw", "part", "(III)Ljava/util/Optional;"⟩
def Q_rm_part (Z : State) (bits : Int32) (bit : Int32) (x : Int32) (em : Nat) (cz : Int32) (h0 : Heap) (n0 : Nat) (vv : Option Value) (h : Heap) (LL : List Loc) : Prop := ∃ o : Nat, vv = some (.ref o) ∧ Fr n0 LL ∧ Keep h0 h [] ∧ own_Opt Z h h.size o (¬ (bits &&& bit) = (0 : Int32))
set_option maxRecDepth 65536 in
set_option maxHeartbeats 40000000 in
theorem rm_part (l : Launch) (Z : State) (a0 : Array Value) (hw : ∀ d ∈ tables_1, d.before a0 Z = true) (ws : List Jvm.Cond) (bits : Int32) (bit : Int32) (x : Int32) (em : Nat) (cz : Int32) (h0 : Heap) (n0 : Nat) (Z0 : n0 ≤ h0.size) (O0 : Old Z n0 h0) (S_EMPTY : Sta Z Z.heap "java/util/Optional" "EMPTY" "Ljava/util/Optional;" (.ref em)) (S_COMPACT_STRINGS : Sta Z Z.heap "java/lang/String" "COMPACT_STRINGS" "Z" (.int cz)) (hcz : ¬ cz = (0 : Int32)) (EE : Exa Z h0 em "java/util/Optional") (FE : Fld Z h0 em "java/util/Optional" "value" "Ljava/lang/Object;" .null) :
    own_MF l ym_34 method_3_code 3 (some (.object "java/util/Optional")) ⟨3, 3, 6, 39⟩ ws Z #[(.int bits), (.int bit), (.int x)] h0 (Q_rm_part Z bits bit x em cz h0 n0) := by
  refine own_begin (plainFor_of_name pn_9) (fun m => ef_34 m bits bit x) ?_
  intro p e s m below meth c s₁ hret hx hby hml hown hnm hlk X0 e0 hh hZ
  have N0 := Fr.nil n0
  have lt_EE := own_ltN EE.lt
  have lt_FE := own_ltN FE.lt
  refine og s₁ (mkF m 1 #[iv bits, iv bit, iv x] [(.int bits)]) (fun t_ k_ => XS.iloadN X0.here hx rfl (hb hby d_method_3_0) rfl k_) ?_
  refine og s₁ (mkF m 2 #[iv bits, iv bit, iv x] [(.int bit), (.int bits)]) (fun t_ k_ => XS.iloadN X0.here hx rfl (hb hby d_method_3_1) rfl k_) ?_
  refine og s₁ (mkF m 3 #[iv bits, iv bit, iv x] [(.int (bits &&& bit))]) (fun t_ k_ => XS.iand X0.here hx rfl (hb hby d_method_3_2) rfl k_) ?_
  by_cases hq1_ : (bits &&& bit) = (0 : Int32)
  · skip
    refine og s₁ (mkF m 6 #[iv bits, iv bit, iv x] []) (fun t_ k_ => XS.ifNo X0.here hx rfl (hb hby d_method_3_3) rfl ((if0 _ _).trans (teq hq1_).2) k_) ?_
    obtain ⟨_, _, ⟨T2, L2, k2, n2⟩, -, X2, ⟨Lc2, hQ2, l2, y2, z2⟩, st2⟩ := Jvm.LawKit.callS X0 hx (y := ym_7) hown (mvT hZ (own_w hw 51 rfl)) (mvT hZ (own_w hw 52 rfl)) (mvT hZ (own_w hw 36 rfl)) (mvT hZ (own_w hw 53 rfl)) (by decide) (backOf (W := 0) (rm_oem l Z a0 hw [] em h0 n0 (show n0 ≤ h0.size by omega) O0 S_EMPTY) hZ (own_w hw 53 rfl) (own_w hw 36 rfl) (by decide) (by decide)) (g := (mkF m 6 #[iv bits, iv bit, iv x] [])) rfl (by rw [hml]; rfl) (argsL := []) (rest := []) (lenOf pd_18 rfl) rfl (by show 2 * 0 + _ ≤ _; exact Nat.le_of_eq rfl) (hb hby d_method_3_6) (fun _ _ => ⟨rfl, e0, (by decide : 0 + 0 ≤ _), (by decide : 0 + 0 ≤ _)⟩)
    dsimp only [Pt.U, Pt.locs, Pt.cells, Pt.slots] at X2 l2 y2 z2 st2 hQ2
    replace l2 := l2.symm; replace y2 := y2.symm; replace z2 := z2.symm; subst l2 y2 z2
    obtain ⟨rfl, M2, e2⟩ := hQ2
    have N2 := Fr.app N0 M2
    refine og T2 (mkF m 9 #[iv bits, iv bit, iv x] [(.ref em)]) (fun t_ k_ => st2 _ k_) ?_
    exact own_out X2 (v := some (.ref em)) (fun h => by rw [hret] at h; cases h) hlk (fun fs hr => own_retA X2 hx hret rfl rfl (hb hby d_method_3_9) hr) (Q := Q_rm_part Z bits bit x em cz h0 n0) (by rw [e2]; exact ⟨em, rfl, N2, (Keep.refl h0 []), ⟨EE, EE.lt, .null, FE, Or.inr ⟨fun q => q hq1_, rfl⟩⟩⟩) (by decide) (by decide)
  · skip
    refine og s₁ (mkF m 10 #[iv bits, iv bit, iv x] []) (fun t_ k_ => XS.ifYes X0.here hx rfl (pc0 := 3) (pc' := 10) rfl (hb hby d_method_3_3) rfl ((if0 _ _).trans (feq hq1_).2) (by decide) (by decide) k_) ?_
    refine og s₁ (mkF m 12 #[iv bits, iv bit, iv x] [(.int 33)]) (fun t_ k_ => XS.bipush X0.here hx rfl (hb hby d_method_3_10) k_) ?_
    refine og s₁ (mkF m 13 #[iv bits, iv bit, iv x] [(.int x), (.int 33)]) (fun t_ k_ => XS.iloadN X0.here hx rfl (hb hby d_method_3_12) rfl k_) ?_
    refine og s₁ (mkF m 15 #[iv bits, iv bit, iv x] [(.int 2147483647), (.int x), (.int 33)]) (fun t_ k_ => X0.ldcInt hx hown (mvT hZ (own_w hw 33 rfl)) (g := (mkF m 13 #[iv bits, iv bit, iv x] [(.int x), (.int 33)])) rfl (hb hby d_method_3_13) _ k_) ?_
    refine og s₁ (mkF m 16 #[iv bits, iv bit, iv x] [(.int (x &&& (2147483647 : Int32))), (.int 33)]) (fun t_ k_ => XS.iand X0.here hx rfl (hb hby d_method_3_15) rfl k_) ?_
    refine og s₁ (mkF m 18 #[iv bits, iv bit, iv x] [(.int 94), (.int (x &&& (2147483647 : Int32))), (.int 33)]) (fun t_ k_ => XS.bipush X0.here hx rfl (hb hby d_method_3_16) k_) ?_
    refine og s₁ (mkF m 19 #[iv bits, iv bit, iv x] [(.int ((x &&& (2147483647 : Int32)) % (94 : Int32))), (.int 33)]) (fun t_ k_ => iremM (g := (mkF m 18 #[iv bits, iv bit, iv x] [(.int 94), (.int (x &&& (2147483647 : Int32))), (.int 33)])) X0 hx rfl (hb hby d_method_3_18) rfl (by decide) k_) ?_
    refine og s₁ (mkF m 20 #[iv bits, iv bit, iv x] [(.int ((33 : Int32) + ((x &&& (2147483647 : Int32)) % (94 : Int32))))]) (fun t_ k_ => XS.iadd X0.here hx rfl (hb hby d_method_3_19) rfl k_) ?_
    refine og s₁ (mkF m 21 #[iv bits, iv bit, iv x] [(.int (((33 : Int32) + ((x &&& (2147483647 : Int32)) % (94 : Int32))).toUInt32.toUInt16.toUInt32.toInt32))]) (fun t_ k_ => XS.i2c X0.here hx rfl (hb hby d_method_3_20) rfl k_) ?_
    obtain ⟨_, _, ⟨T3, L3, k3, n3⟩, -, X3, ⟨Lc3, hQ3, l3, y3, z3⟩, st3⟩ := Jvm.LawKit.callS X0 hx (y := ym_3) hown (mvT hZ (own_w hw 0 rfl)) (mvT hZ (own_w hw 1 rfl)) (mvT hZ (own_w hw 2 rfl)) (mvT hZ (own_w hw 3 rfl)) (by decide) (backOf (W := 0) (rm_svo l Z a0 hw [] (((33 : Int32) + ((x &&& (2147483647 : Int32)) % (94 : Int32))).toUInt32.toUInt16.toUInt32.toInt32) cz h0 n0 (show n0 ≤ h0.size by omega) O0 S_COMPACT_STRINGS hcz (own_pv x).lat) hZ (own_w hw 3 rfl) (own_w hw 2 rfl) (by decide) (by decide)) (g := (mkF m 21 #[iv bits, iv bit, iv x] [(.int (((33 : Int32) + ((x &&& (2147483647 : Int32)) % (94 : Int32))).toUInt32.toUInt16.toUInt32.toInt32))])) rfl (by rw [hml]; rfl) (argsL := [(.int (((33 : Int32) + ((x &&& (2147483647 : Int32)) % (94 : Int32))).toUInt32.toUInt16.toUInt32.toInt32))]) (rest := []) (lenOf pd_19 rfl) rfl (by show 2 * 0 + _ ≤ _; exact Nat.le_of_eq rfl) (hb hby d_method_3_21) (fun _ _ => ⟨rfl, e0, (by decide : 0 + 2 ≤ _), (by decide : 0 + 5 ≤ _)⟩)
    dsimp only [Pt.U, Pt.locs, Pt.cells, Pt.slots] at X3 l3 y3 z3 st3 hQ3
    replace l3 := l3.symm; replace y3 := y3.symm; replace z3 := z3.symm; subst l3 y3 z3
    obtain ⟨b3, rfl, M3, K3_, ⟨lob3, hib3⟩, f3_0⟩ := hQ3
    have zz3 := K3_.1
    have O3 := O0.keep K3_ all0
    have K3 := (Keep.refl h0 []).trans K3_ all0
    have N3 := Fr.app N0 M3
    have ltsf3_0 := own_ltN f3_0.lt
    refine og T3 (mkF m 24 #[iv bits, iv bit, iv x] [(.ref b3)]) (fun t_ k_ => st3 _ k_) ?_
    obtain ⟨_, _, ⟨T4, L4, k4, n4⟩, -, X4, ⟨Lc4, hQ4, l4, y4, z4⟩, st4⟩ := Jvm.LawKit.callS X3 hx (y := ym_6) hown (mvT hZ (own_w hw 34 rfl)) (mvT hZ (own_w hw 35 rfl)) (mvT hZ (own_w hw 36 rfl)) (mvT hZ (own_w hw 37 rfl)) (by decide) (backOf (W := 0) (rm_oof l Z a0 hw [] b3 T3.heap n0 (show n0 ≤ T3.heap.size by omega)) hZ (own_w hw 37 rfl) (own_w hw 36 rfl) (by decide) (by decide)) (g := (mkF m 24 #[iv bits, iv bit, iv x] [(.ref b3)])) rfl (by rw [hml]; rfl) (argsL := [(.ref b3)]) (rest := []) (lenOf pd_20 rfl) rfl (by show 2 * 0 + _ ≤ _; exact Nat.le_of_eq rfl) (hb hby d_method_3_24) (fun _ _ => ⟨rfl, rfl, (by decide : 2 + 1 ≤ _), (by decide : 5 + 1 ≤ _)⟩)
    dsimp only [Pt.U, Pt.locs, Pt.cells, Pt.slots] at X4 l4 y4 z4 st4 hQ4
    replace l4 := l4.symm; replace y4 := y4.symm; replace z4 := z4.symm; subst l4 y4 z4
    obtain ⟨b4, rfl, M4, K4_, ⟨lob4, hib4⟩, f4_0, f4_1⟩ := hQ4
    have zz4 := K4_.1
    have O4 := O3.keep K4_ all0
    have K4 := K3.trans K4_ all0
    have N4 := Fr.app N3 M4
    refine og T4 (mkF m 27 #[iv bits, iv bit, iv x] [(.ref b4)]) (fun t_ k_ => st4 _ k_) ?_
    have ff5 := (f3_0.keep K4_ all0)
    exact own_out X4 (v := some (.ref b4)) (fun h => by rw [hret] at h; cases h) hlk (fun fs hr => own_retA X4 hx hret rfl rfl (hb hby d_method_3_27) hr) (Q := Q_rm_part Z bits bit x em cz h0 n0) (by exact ⟨b4, rfl, N4, K4, ⟨f4_0, by omega, _, f4_1, Or.inl ⟨hq1_, b3, _, rfl, (ff5).mono (by omega), own_pv x⟩⟩⟩) (by decide) (by decide)
theorem d_jdk_30_1_0 : decode jdk_30_method_1_code 0 = .ok (.aload_n 0, 1) := by decide +kernel
theorem d_jdk_30_1_1 : decode jdk_30_method_1_code 1 = .ok (.invokespecial 1, 3) := by decide +kernel
theorem d_jdk_30_1_4 : decode jdk_30_method_1_code 4 = .ok (.return_, 1) := by decide +kernel
theorem pn_10 : plainName "java/lang/Record" = true := by first | (simp [plainName, overriddenIn]; done) | decide +kernel
theorem ef_35 (m : MethodId) (a : Nat) : entryFrame m #[(.ref a)] 1 = mkF m 0 #[rv a] [] := by first | (simp [entryFrame, mkF, argsToLocals, Value.category]; done) | rfl
abbrev ym_35 : MethodName := ⟨"java/lang/Record", "<init>", "()V"⟩
def Q_rm_rec (Z : State) (a : Nat) (h0 : Heap) (n0 : Nat) (vv : Option Value) (h : Heap) (LL : List Loc) : Prop := vv = none ∧ Fr n0 LL ∧ h = h0
set_option maxRecDepth 65536 in
set_option maxHeartbeats 40000000 in
theorem rm_rec (l : Launch) (Z : State) (a0 : Array Value) (hw : ∀ d ∈ tables_1, d.before a0 Z = true) (ws : List Jvm.Cond) (a : Nat) (h0 : Heap) (n0 : Nat) (Z0 : n0 ≤ h0.size) :
    own_MF l ym_35 jdk_30_method_1_code 1 none ⟨1, 0, 0, 12⟩ ws Z #[(.ref a)] h0 (Q_rm_rec Z a h0 n0) := by
  refine own_begin (plainFor_of_name pn_10) (fun m => ef_35 m a) ?_
  intro p e s m below meth c s₁ hret hx hby hml hown hnm hlk X0 e0 hh hZ
  have N0 := Fr.nil n0
  refine og s₁ (mkF m 1 #[rv a] [(.ref a)]) (fun t_ k_ => XS.aloadN X0.here hx rfl (hb hby d_jdk_30_1_0) rfl rfl k_) ?_
  obtain ⟨T1, X1, e1, st1⟩ := initO X0 hx hZ hown (own_w hw 63 rfl) (own_w hw 20 rfl) (own_w hw 21 rfl) e0 (g := (mkF m 1 #[rv a] [(.ref a)])) rfl (by rw [hml]; rfl) rfl (hb hby d_jdk_30_1_1) (by decide) (W := 0) (by show 2 * 0 + _ ≤ _; exact Nat.le_of_eq rfl) (by decide)
  refine og T1 (mkF m 4 #[rv a] []) (fun t_ k_ => st1 _ k_) ?_
  exact own_out X1 (v := none) (fun _ => rfl) hlk (fun fs hr => X1.returnOut hx hret (hb hby d_jdk_30_1_4) hr) (Q := Q_rm_rec Z a h0 n0) (by rw [e1]; exact ⟨rfl, N0, rfl⟩) (by decide) (by decide)
theorem d_jdk_32_7_0 : decode jdk_32_method_7_code 0 = .ok (.aload_n 0, 1) := by decide +kernel
theorem d_jdk_32_7_1 : decode jdk_32_method_7_code 1 = .ok (.getfield 13, 3) := by decide +kernel
theorem d_jdk_32_7_4 : decode jdk_32_method_7_code 4 = .ok (.ifnonnull 7, 3) := by decide +kernel
theorem d_jdk_32_7_7 : decode jdk_32_method_7_code 7 = .ok (.iconst 1, 1) := by decide +kernel
theorem d_jdk_32_7_8 : decode jdk_32_method_7_code 8 = .ok (.goto 4, 3) := by decide +kernel
theorem d_jdk_32_7_12 : decode jdk_32_method_7_code 12 = .ok (.ireturn, 1) := by decide +kernel
theorem ef_36 (m : MethodId) (a : Nat) : entryFrame m #[(.ref a)] 1 = mkF m 0 #[rv a] [] := by first | (simp [entryFrame, mkF, argsToLocals, Value.category]; done) | rfl
abbrev ym_36 : MethodName := ⟨"java/util/Optional", "isEmpty", "()Z"⟩
def Q_rm_ie1 (Z : State) (a : Nat) (h0 : Heap) (n0 : Nat) (vv : Option Value) (h : Heap) (LL : List Loc) : Prop := vv = some (.int 1) ∧ Fr n0 LL ∧ h = h0
set_option maxRecDepth 65536 in
set_option maxHeartbeats 40000000 in
theorem rm_ie1 (l : Launch) (Z : State) (a0 : Array Value) (hw : ∀ d ∈ tables_1, d.before a0 Z = true) (ws : List Jvm.Cond) (a : Nat) (h0 : Heap) (n0 : Nat) (Z0 : n0 ≤ h0.size) (F_value_a : Fld Z h0 a "java/util/Optional" "value" "Ljava/lang/Object;" .null) :
    own_MF l ym_36 jdk_32_method_7_code 1 (some .boolean) ⟨0, 0, 0, 0⟩ ws Z #[(.ref a)] h0 (Q_rm_ie1 Z a h0 n0) := by
  refine own_begin (plainFor_of_name pn_3) (fun m => ef_36 m a) ?_
  intro p e s m below meth c s₁ hret hx hby hml hown hnm hlk X0 e0 hh hZ
  have N0 := Fr.nil n0
  have lt_F_value_a := own_ltN F_value_a.lt
  refine og s₁ (mkF m 1 #[rv a] [(.ref a)]) (fun t_ k_ => XS.aloadN X0.here hx rfl (hb hby d_jdk_32_7_0) rfl rfl k_) ?_
  obtain ⟨T1, X1, e1, st1⟩ := getF X0 hx hZ hown (host := "") (Or.inl (own_w hw 49 rfl)) Via.refl e0 F_value_a (g := (mkF m 1 #[rv a] [(.ref a)])) rfl rfl (hb hby d_jdk_32_7_1)
  refine og T1 (mkF m 4 #[rv a] [.null]) (fun t_ k_ => st1 _ k_) ?_
  refine og T1 (mkF m 7 #[rv a] []) (fun t_ k_ => XS.ifnonnullNo X1.here hx rfl (hb hby d_jdk_32_7_4) rfl k_) ?_
  refine og T1 (mkF m 8 #[rv a] [(.int 1)]) (fun t_ k_ => XS.iconst X1.here hx rfl (hb hby d_jdk_32_7_7) k_) ?_
  refine og T1 (mkF m 12 #[rv a] [(.int 1)]) (fun t_ k_ => XS.goto X1.here hx rfl (pc0 := 8) (pc' := 12) rfl (hb hby d_jdk_32_7_8) (by decide) (by decide) k_) ?_
  exact own_out X1 (v := some (.int (nar .boolean (1 : Int32)))) (fun h => by rw [hret] at h; cases h) hlk (fun fs hr => retN X1 hx (t := .boolean) hret (by simp) (hb hby d_jdk_32_7_12) hr) (Q := Q_rm_ie1 Z a h0 n0) (by rw [e1]; exact ⟨rfl, N0, rfl⟩) (by decide) (by decide)
theorem d_jdk_32_7_11 : decode jdk_32_method_7_code 11 = .ok (.iconst 0, 1) := by decide +kernel
def Q_rm_ie0 (Z : State) (a : Nat) (t : Nat) (h0 : Heap) (n0 : Nat) (vv : Option Value) (h : Heap) (LL : List Loc) : Prop := vv = some (.int 0) ∧ Fr n0 LL ∧ h = h0
set_option maxRecDepth 65536 in
set_option maxHeartbeats 40000000 in
theorem rm_ie0 (l : Launch) (Z : State) (a0 : Array Value) (hw : ∀ d ∈ tables_1, d.before a0 Z = true) (ws : List Jvm.Cond) (a : Nat) (t : Nat) (h0 : Heap) (n0 : Nat) (Z0 : n0 ≤ h0.size) (F_value_a : Fld Z h0 a "java/util/Optional" "value" "Ljava/lang/Object;" (.ref t)) :
    own_MF l ym_36 jdk_32_method_7_code 1 (some .boolean) ⟨0, 0, 0, 0⟩ ws Z #[(.ref a)] h0 (Q_rm_ie0 Z a t h0 n0) := by
  refine own_begin (plainFor_of_name pn_3) (fun m => ef_36 m a) ?_
  intro p e s m below meth c s₁ hret hx hby hml hown hnm hlk X0 e0 hh hZ
  have N0 := Fr.nil n0
  have lt_F_value_a := own_ltN F_value_a.lt
  refine og s₁ (mkF m 1 #[rv a] [(.ref a)]) (fun t_ k_ => XS.aloadN X0.here hx rfl (hb hby d_jdk_32_7_0) rfl rfl k_) ?_
  obtain ⟨T1, X1, e1, st1⟩ := getF X0 hx hZ hown (host := "") (Or.inl (own_w hw 49 rfl)) Via.refl e0 F_value_a (g := (mkF m 1 #[rv a] [(.ref a)])) rfl rfl (hb hby d_jdk_32_7_1)
  refine og T1 (mkF m 4 #[rv a] [(.ref t)]) (fun t_ k_ => st1 _ k_) ?_
  refine og T1 (mkF m 11 #[rv a] []) (fun t_ k_ => XS.ifnonnullYes X1.here hx rfl (pc0 := 4) (pc' := 11) rfl (hb hby d_jdk_32_7_4) rfl (by decide) (by decide) k_) ?_
  refine og T1 (mkF m 12 #[rv a] [(.int 0)]) (fun t_ k_ => XS.iconst X1.here hx rfl (hb hby d_jdk_32_7_11) k_) ?_
  exact own_out X1 (v := some (.int (nar .boolean (0 : Int32)))) (fun h => by rw [hret] at h; cases h) hlk (fun fs hr => retN X1 hx (t := .boolean) hret (by simp) (hb hby d_jdk_32_7_12) hr) (Q := Q_rm_ie0 Z a t h0 n0) (by rw [e1]; exact ⟨rfl, N0, rfl⟩) (by decide) (by decide)
theorem d_prog_20_2_0 : decode prog_20_method_2_code 0 = .ok (.aload_n 0, 1) := by decide +kernel
theorem d_prog_20_2_1 : decode prog_20_method_2_code 1 = .ok (.getfield 37, 3) := by decide +kernel
theorem d_prog_20_2_4 : decode prog_20_method_2_code 4 = .ok (.invokevirtual 50, 3) := by decide +kernel
theorem d_prog_20_2_7 : decode prog_20_method_2_code 7 = .ok (.ifCond .eq 47, 3) := by decide +kernel
theorem d_prog_20_2_54 : decode prog_20_method_2_code 54 = .ok (.iconst 0, 1) := by decide +kernel
theorem d_prog_20_2_55 : decode prog_20_method_2_code 55 = .ok (.istore_n 2, 1) := by decide +kernel
theorem d_prog_20_2_56 : decode prog_20_method_2_code 56 = .ok (.iload_n 2, 1) := by decide +kernel
theorem d_prog_20_2_57 : decode prog_20_method_2_code 57 = .ok (.ifCond .eq 17, 3) := by decide +kernel
theorem d_prog_20_2_74 : decode prog_20_method_2_code 74 = .ok (.return_, 1) := by decide +kernel
theorem d_prog_20_2_10 : decode prog_20_method_2_code 10 = .ok (.aload_n 0, 1) := by decide +kernel
theorem d_prog_20_2_11 : decode prog_20_method_2_code 11 = .ok (.getfield 42, 3) := by decide +kernel
theorem d_prog_20_2_14 : decode prog_20_method_2_code 14 = .ok (.invokevirtual 50, 3) := by decide +kernel
theorem d_prog_20_2_17 : decode prog_20_method_2_code 17 = .ok (.ifCond .eq 37, 3) := by decide +kernel
theorem d_prog_20_2_20 : decode prog_20_method_2_code 20 = .ok (.aload_n 0, 1) := by decide +kernel
theorem d_prog_20_2_21 : decode prog_20_method_2_code 21 = .ok (.getfield 44, 3) := by decide +kernel
theorem d_prog_20_2_24 : decode prog_20_method_2_code 24 = .ok (.invokevirtual 50, 3) := by decide +kernel
theorem d_prog_20_2_27 : decode prog_20_method_2_code 27 = .ok (.ifCond .eq 27, 3) := by decide +kernel
theorem d_prog_20_2_30 : decode prog_20_method_2_code 30 = .ok (.aload_n 0, 1) := by decide +kernel
theorem d_prog_20_2_31 : decode prog_20_method_2_code 31 = .ok (.getfield 46, 3) := by decide +kernel
theorem d_prog_20_2_34 : decode prog_20_method_2_code 34 = .ok (.invokevirtual 50, 3) := by decide +kernel
theorem d_prog_20_2_37 : decode prog_20_method_2_code 37 = .ok (.ifCond .eq 17, 3) := by decide +kernel
theorem d_prog_20_2_40 : decode prog_20_method_2_code 40 = .ok (.aload_n 0, 1) := by decide +kernel
theorem d_prog_20_2_41 : decode prog_20_method_2_code 41 = .ok (.getfield 48, 3) := by decide +kernel
theorem d_prog_20_2_44 : decode prog_20_method_2_code 44 = .ok (.invokevirtual 50, 3) := by decide +kernel
theorem d_prog_20_2_47 : decode prog_20_method_2_code 47 = .ok (.ifCond .eq 7, 3) := by decide +kernel
theorem ef_37 (m : MethodId) (a : Nat) (nm : Nat) : entryFrame m #[(.ref a), (.ref nm)] 3 = mkF m 0 #[rv a, rv nm, .unset] [] := by first | (simp [entryFrame, mkF, argsToLocals, Value.category]; done) | rfl
abbrev ym_37 : MethodName := ⟨"com/example/labmeld/labmeld/finding/Finding$Address", "checkAnyPart", "(Ljava/lang/String;)V"⟩
def Q_rm_cap (Z : State) (a : Nat) (nm : Nat) (o0 : Nat) (o1 : Nat) (o2 : Nat) (o3 : Nat) (o4 : Nat) (P0 : Prop) (P1 : Prop) (P2 : Prop) (P3 : Prop) (P4 : Prop) (h0 : Heap) (n0 : Nat) (vv : Option Value) (h : Heap) (LL : List Loc) : Prop := vv = none ∧ Fr n0 LL ∧ h = h0
set_option maxRecDepth 65536 in
set_option maxHeartbeats 40000000 in
theorem rm_cap (l : Launch) (Z : State) (a0 : Array Value) (hw : ∀ d ∈ tables_1, d.before a0 Z = true) (ws : List Jvm.Cond) (a : Nat) (nm : Nat) (o0 : Nat) (o1 : Nat) (o2 : Nat) (o3 : Nat) (o4 : Nat) (P0 : Prop) (P1 : Prop) (P2 : Prop) (P3 : Prop) (P4 : Prop) (h0 : Heap) (n0 : Nat) (Z0 : n0 ≤ h0.size) (E_a : Exa Z h0 a "com/example/labmeld/labmeld/finding/Finding$Address") (F_street_a : Fld Z h0 a "com/example/labmeld/labmeld/finding/Finding$Address" "street" "Ljava/util/Optional;" (.ref o0)) (F_houseNumber_a : Fld Z h0 a "com/example/labmeld/labmeld/finding/Finding$Address" "houseNumber" "Ljava/util/Optional;" (.ref o1)) (F_postalCode_a : Fld Z h0 a "com/example/labmeld/labmeld/finding/Finding$Address" "postalCode" "Ljava/util/Optional;" (.ref o2)) (F_city_a : Fld Z h0 a "com/example/labmeld/labmeld/finding/Finding$Address" "city" "Ljava/util/Optional;" (.ref o3)) (F_country_a : Fld Z h0 a "com/example/labmeld/labmeld/finding/Finding$Address" "country" "Ljava/util/Optional;" (.ref o4)) (SO0 : own_Opw Z h0 o0 P0) (SO1 : own_Opw Z h0 o1 P1) (SO2 : own_Opw Z h0 o2 P2) (SO3 : own_Opw Z h0 o3 P3) (SO4 : own_Opw Z h0 o4 P4) (hP : P0 ∨ P1 ∨ P2 ∨ P3 ∨ P4) :
    own_MF l ym_37 prog_20_method_2_code 3 none ⟨1, 0, 0, 12⟩ ws Z #[(.ref a), (.ref nm)] h0 (Q_rm_cap Z a nm o0 o1 o2 o3 o4 P0 P1 P2 P3 P4 h0 n0) := by
  refine own_begin (plainFor_of_name pn_8) (fun m => ef_37 m a nm) ?_
  intro p e s m below meth c s₁ hret hx hby hml hown hnm hlk X0 e0 hh hZ
  have N0 := Fr.nil n0
  have lt_E_a := own_ltN E_a.lt
  have lt_F_street_a := own_ltN F_street_a.lt
  have lt_F_houseNumber_a := own_ltN F_houseNumber_a.lt
  have lt_F_postalCode_a := own_ltN F_postalCode_a.lt
  have lt_F_city_a := own_ltN F_city_a.lt
  have lt_F_country_a := own_ltN F_country_a.lt
  refine og s₁ (mkF m 1 #[rv a, rv nm, .unset] [(.ref a)]) (fun t_ k_ => XS.aloadN X0.here hx rfl (hb hby d_prog_20_2_0) rfl rfl k_) ?_
  obtain ⟨T1, X1, e1, st1⟩ := getF X0 hx hZ hown (host := "") (Or.inl (own_w hw 174 rfl)) Via.refl e0 F_street_a (g := (mkF m 1 #[rv a, rv nm, .unset] [(.ref a)])) rfl rfl (hb hby d_prog_20_2_1)
  refine og T1 (mkF m 4 #[rv a, rv nm, .unset] [(.ref o0)]) (fun t_ k_ => st1 _ k_) ?_
  obtain ⟨EO0, vo0, FO0, hc0⟩ := id SO0
  rcases hc0 with ⟨hP0, t0, rfl⟩ | ⟨hN0, rfl⟩
  · skip
    obtain ⟨cq2, kq2, q2a, q2b, q2c⟩ := isOf hZ e1 EO0
    obtain ⟨_, _, ⟨T2, L2, k2, n2⟩, -, X2, ⟨Lc2, hQ2, l2, y2, z2⟩, st2⟩ := X1.virtualBack hx (y := ym_36) (z := ym_36) hown (mvT hZ (own_w hw 189 rfl)) (mvT hZ (own_w hw 190 rfl)) (notFace_of_selects (args := #[]) (mvT hZ (own_w hw 192 rfl))) (mvT hZ (own_w hw 192 rfl)) (mvT hZ (own_w hw 191 rfl)) (by decide) (backOf (W := 0) (rm_ie0 l Z a0 hw [] o0 t0 h0 n0 (show n0 ≤ h0.size by omega) FO0) hZ (own_w hw 193 rfl) (own_w hw 36 rfl) (by decide) (by decide)) q2a q2c (g := (mkF m 4 #[rv a, rv nm, .unset] [(.ref o0)])) rfl (by rw [hml]; rfl) (Steps.refl _) (argsL := []) (rest := []) (lenOf pd_8 rfl) rfl (by show 2 * 0 + _ ≤ _; exact Nat.le_of_eq rfl) (hb hby d_prog_20_2_4) (fun _ _ => ⟨rfl, e1, (by decide : 0 + 0 ≤ _), (by decide : 0 + 0 ≤ _)⟩)
    dsimp only [Pt.U, Pt.locs, Pt.cells, Pt.slots] at X2 l2 y2 z2 st2 hQ2
    replace l2 := l2.symm; replace y2 := y2.symm; replace z2 := z2.symm; subst l2 y2 z2
    obtain ⟨rfl, M2, e2⟩ := hQ2
    have N2 := Fr.app N0 M2
    refine og T2 (mkF m 7 #[rv a, rv nm, .unset] [(.int 0)]) (fun t_ k_ => st2.trans k_) ?_
    refine og T2 (mkF m 54 #[rv a, rv nm, .unset] []) (fun t_ k_ => XS.ifYes X2.here hx rfl (pc0 := 7) (pc' := 54) rfl (hb hby d_prog_20_2_7) rfl ((if0 _ _).trans (teq (by decide)).1) (by decide) (by decide) k_) ?_
    refine og T2 (mkF m 55 #[rv a, rv nm, .unset] [(.int 0)]) (fun t_ k_ => XS.iconst X2.here hx rfl (hb hby d_prog_20_2_54) k_) ?_
    refine og T2 (mkF m 56 #[rv a, rv nm, iv 0] []) (fun t_ k_ => XS.istoreN X2.here hx rfl (hb hby d_prog_20_2_55) rfl (l' := #[rv a, rv nm, iv 0]) rfl k_) ?_
    refine og T2 (mkF m 57 #[rv a, rv nm, iv 0] [(.int 0)]) (fun t_ k_ => XS.iloadN X2.here hx rfl (hb hby d_prog_20_2_56) rfl k_) ?_
    refine og T2 (mkF m 74 #[rv a, rv nm, iv 0] []) (fun t_ k_ => XS.ifYes X2.here hx rfl (pc0 := 57) (pc' := 74) rfl (hb hby d_prog_20_2_57) rfl ((if0 _ _).trans (teq (by decide)).1) (by decide) (by decide) k_) ?_
    exact own_out X2 (v := none) (fun _ => rfl) hlk (fun fs hr => X2.returnOut hx hret (hb hby d_prog_20_2_74) hr) (Q := Q_rm_cap Z a nm o0 o1 o2 o3 o4 P0 P1 P2 P3 P4 h0 n0) (by rw [e2]; exact ⟨rfl, N2, rfl⟩) (by decide) (by decide)
  · skip
    obtain ⟨cq3, kq3, q3a, q3b, q3c⟩ := isOf hZ e1 EO0
    obtain ⟨_, _, ⟨T3, L3, k3, n3⟩, -, X3, ⟨Lc3, hQ3, l3, y3, z3⟩, st3⟩ := X1.virtualBack hx (y := ym_36) (z := ym_36) hown (mvT hZ (own_w hw 189 rfl)) (mvT hZ (own_w hw 190 rfl)) (notFace_of_selects (args := #[]) (mvT hZ (own_w hw 192 rfl))) (mvT hZ (own_w hw 192 rfl)) (mvT hZ (own_w hw 191 rfl)) (by decide) (backOf (W := 0) (rm_ie1 l Z a0 hw [] o0 h0 n0 (show n0 ≤ h0.size by omega) FO0) hZ (own_w hw 193 rfl) (own_w hw 36 rfl) (by decide) (by decide)) q3a q3c (g := (mkF m 4 #[rv a, rv nm, .unset] [(.ref o0)])) rfl (by rw [hml]; rfl) (Steps.refl _) (argsL := []) (rest := []) (lenOf pd_8 rfl) rfl (by show 2 * 0 + _ ≤ _; exact Nat.le_of_eq rfl) (hb hby d_prog_20_2_4) (fun _ _ => ⟨rfl, e1, (by decide : 0 + 0 ≤ _), (by decide : 0 + 0 ≤ _)⟩)
    dsimp only [Pt.U, Pt.locs, Pt.cells, Pt.slots] at X3 l3 y3 z3 st3 hQ3
    replace l3 := l3.symm; replace y3 := y3.symm; replace z3 := z3.symm; subst l3 y3 z3
    obtain ⟨rfl, M3, e3⟩ := hQ3
    have N3 := Fr.app N0 M3
    refine og T3 (mkF m 7 #[rv a, rv nm, .unset] [(.int 1)]) (fun t_ k_ => st3.trans k_) ?_
    refine og T3 (mkF m 10 #[rv a, rv nm, .unset] []) (fun t_ k_ => XS.ifNo X3.here hx rfl (hb hby d_prog_20_2_7) rfl ((if0 _ _).trans (feq (by decide)).1) k_) ?_
    refine og T3 (mkF m 11 #[rv a, rv nm, .unset] [(.ref a)]) (fun t_ k_ => XS.aloadN X3.here hx rfl (hb hby d_prog_20_2_10) rfl rfl k_) ?_
    obtain ⟨T4, X4, e4, st4⟩ := getF X3 hx hZ hown (host := "") (Or.inl (own_w hw 176 rfl)) Via.refl e3 F_houseNumber_a (g := (mkF m 11 #[rv a, rv nm, .unset] [(.ref a)])) rfl rfl (hb hby d_prog_20_2_11)
    refine og T4 (mkF m 14 #[rv a, rv nm, .unset] [(.ref o1)]) (fun t_ k_ => st4 _ k_) ?_
    obtain ⟨EO1, vo1, FO1, hc1⟩ := id SO1
    rcases hc1 with ⟨hP1, t1, rfl⟩ | ⟨hN1, rfl⟩
    · skip
      obtain ⟨cq5, kq5, q5a, q5b, q5c⟩ := isOf hZ e4 EO1
      obtain ⟨_, _, ⟨T5, L5, k5, n5⟩, -, X5, ⟨Lc5, hQ5, l5, y5, z5⟩, st5⟩ := X4.virtualBack hx (y := ym_36) (z := ym_36) hown (mvT hZ (own_w hw 189 rfl)) (mvT hZ (own_w hw 190 rfl)) (notFace_of_selects (args := #[]) (mvT hZ (own_w hw 192 rfl))) (mvT hZ (own_w hw 192 rfl)) (mvT hZ (own_w hw 191 rfl)) (by decide) (backOf (W := 0) (rm_ie0 l Z a0 hw [] o1 t1 h0 n0 (show n0 ≤ h0.size by omega) FO1) hZ (own_w hw 193 rfl) (own_w hw 36 rfl) (by decide) (by decide)) q5a q5c (g := (mkF m 14 #[rv a, rv nm, .unset] [(.ref o1)])) rfl (by rw [hml]; rfl) (Steps.refl _) (argsL := []) (rest := []) (lenOf pd_8 rfl) rfl (by show 2 * 0 + _ ≤ _; exact Nat.le_of_eq rfl) (hb hby d_prog_20_2_14) (fun _ _ => ⟨rfl, e4, (by decide : 0 + 0 ≤ _), (by decide : 0 + 0 ≤ _)⟩)
      dsimp only [Pt.U, Pt.locs, Pt.cells, Pt.slots] at X5 l5 y5 z5 st5 hQ5
      replace l5 := l5.symm; replace y5 := y5.symm; replace z5 := z5.symm; subst l5 y5 z5
      obtain ⟨rfl, M5, e5⟩ := hQ5
      have N5 := Fr.app N3 M5
      refine og T5 (mkF m 17 #[rv a, rv nm, .unset] [(.int 0)]) (fun t_ k_ => st5.trans k_) ?_
      refine og T5 (mkF m 54 #[rv a, rv nm, .unset] []) (fun t_ k_ => XS.ifYes X5.here hx rfl (pc0 := 17) (pc' := 54) rfl (hb hby d_prog_20_2_17) rfl ((if0 _ _).trans (teq (by decide)).1) (by decide) (by decide) k_) ?_
      refine og T5 (mkF m 55 #[rv a, rv nm, .unset] [(.int 0)]) (fun t_ k_ => XS.iconst X5.here hx rfl (hb hby d_prog_20_2_54) k_) ?_
      refine og T5 (mkF m 56 #[rv a, rv nm, iv 0] []) (fun t_ k_ => XS.istoreN X5.here hx rfl (hb hby d_prog_20_2_55) rfl (l' := #[rv a, rv nm, iv 0]) rfl k_) ?_
      refine og T5 (mkF m 57 #[rv a, rv nm, iv 0] [(.int 0)]) (fun t_ k_ => XS.iloadN X5.here hx rfl (hb hby d_prog_20_2_56) rfl k_) ?_
      refine og T5 (mkF m 74 #[rv a, rv nm, iv 0] []) (fun t_ k_ => XS.ifYes X5.here hx rfl (pc0 := 57) (pc' := 74) rfl (hb hby d_prog_20_2_57) rfl ((if0 _ _).trans (teq (by decide)).1) (by decide) (by decide) k_) ?_
      exact own_out X5 (v := none) (fun _ => rfl) hlk (fun fs hr => X5.returnOut hx hret (hb hby d_prog_20_2_74) hr) (Q := Q_rm_cap Z a nm o0 o1 o2 o3 o4 P0 P1 P2 P3 P4 h0 n0) (by rw [e5]; exact ⟨rfl, N5, rfl⟩) (by decide) (by decide)
    · skip
      obtain ⟨cq6, kq6, q6a, q6b, q6c⟩ := isOf hZ e4 EO1
      obtain ⟨_, _, ⟨T6, L6, k6, n6⟩, -, X6, ⟨Lc6, hQ6, l6, y6, z6⟩, st6⟩ := X4.virtualBack hx (y := ym_36) (z := ym_36) hown (mvT hZ (own_w hw 189 rfl)) (mvT hZ (own_w hw 190 rfl)) (notFace_of_selects (args := #[]) (mvT hZ (own_w hw 192 rfl))) (mvT hZ (own_w hw 192 rfl)) (mvT hZ (own_w hw 191 rfl)) (by decide) (backOf (W := 0) (rm_ie1 l Z a0 hw [] o1 h0 n0 (show n0 ≤ h0.size by omega) FO1) hZ (own_w hw 193 rfl) (own_w hw 36 rfl) (by decide) (by decide)) q6a q6c (g := (mkF m 14 #[rv a, rv nm, .unset] [(.ref o1)])) rfl (by rw [hml]; rfl) (Steps.refl _) (argsL := []) (rest := []) (lenOf pd_8 rfl) rfl (by show 2 * 0 + _ ≤ _; exact Nat.le_of_eq rfl) (hb hby d_prog_20_2_14) (fun _ _ => ⟨rfl, e4, (by decide : 0 + 0 ≤ _), (by decide : 0 + 0 ≤ _)⟩)
      dsimp only [Pt.U, Pt.locs, Pt.cells, Pt.slots] at X6 l6 y6 z6 st6 hQ6
      replace l6 := l6.symm; replace y6 := y6.symm; replace z6 := z6.symm; subst l6 y6 z6
      obtain ⟨rfl, M6, e6⟩ := hQ6
      have N6 := Fr.app N3 M6
      refine og T6 (mkF m 17 #[rv a, rv nm, .unset] [(.int 1)]) (fun t_ k_ => st6.trans k_) ?_
      refine og T6 (mkF m 20 #[rv a, rv nm, .unset] []) (fun t_ k_ => XS.ifNo X6.here hx rfl (hb hby d_prog_20_2_17) rfl ((if0 _ _).trans (feq (by decide)).1) k_) ?_
      refine og T6 (mkF m 21 #[rv a, rv nm, .unset] [(.ref a)]) (fun t_ k_ => XS.aloadN X6.here hx rfl (hb hby d_prog_20_2_20) rfl rfl k_) ?_
      obtain ⟨T7, X7, e7, st7⟩ := getF X6 hx hZ hown (host := "") (Or.inl (own_w hw 178 rfl)) Via.refl e6 F_postalCode_a (g := (mkF m 21 #[rv a, rv nm, .unset] [(.ref a)])) rfl rfl (hb hby d_prog_20_2_21)
      refine og T7 (mkF m 24 #[rv a, rv nm, .unset] [(.ref o2)]) (fun t_ k_ => st7 _ k_) ?_
      obtain ⟨EO2, vo2, FO2, hc2⟩ := id SO2
      rcases hc2 with ⟨hP2, t2, rfl⟩ | ⟨hN2, rfl⟩
      · skip
        obtain ⟨cq8, kq8, q8a, q8b, q8c⟩ := isOf hZ e7 EO2
        obtain ⟨_, _, ⟨T8, L8, k8, n8⟩, -, X8, ⟨Lc8, hQ8, l8, y8, z8⟩, st8⟩ := X7.virtualBack hx (y := ym_36) (z := ym_36) hown (mvT hZ (own_w hw 189 rfl)) (mvT hZ (own_w hw 190 rfl)) (notFace_of_selects (args := #[]) (mvT hZ (own_w hw 192 rfl))) (mvT hZ (own_w hw 192 rfl)) (mvT hZ (own_w hw 191 rfl)) (by decide) (backOf (W := 0) (rm_ie0 l Z a0 hw [] o2 t2 h0 n0 (show n0 ≤ h0.size by omega) FO2) hZ (own_w hw 193 rfl) (own_w hw 36 rfl) (by decide) (by decide)) q8a q8c (g := (mkF m 24 #[rv a, rv nm, .unset] [(.ref o2)])) rfl (by rw [hml]; rfl) (Steps.refl _) (argsL := []) (rest := []) (lenOf pd_8 rfl) rfl (by show 2 * 0 + _ ≤ _; exact Nat.le_of_eq rfl) (hb hby d_prog_20_2_24) (fun _ _ => ⟨rfl, e7, (by decide : 0 + 0 ≤ _), (by decide : 0 + 0 ≤ _)⟩)
        dsimp only [Pt.U, Pt.locs, Pt.cells, Pt.slots] at X8 l8 y8 z8 st8 hQ8
        replace l8 := l8.symm; replace y8 := y8.symm; replace z8 := z8.symm; subst l8 y8 z8
        obtain ⟨rfl, M8, e8⟩ := hQ8
        have N8 := Fr.app N6 M8
        refine og T8 (mkF m 27 #[rv a, rv nm, .unset] [(.int 0)]) (fun t_ k_ => st8.trans k_) ?_
        refine og T8 (mkF m 54 #[rv a, rv nm, .unset] []) (fun t_ k_ => XS.ifYes X8.here hx rfl (pc0 := 27) (pc' := 54) rfl (hb hby d_prog_20_2_27) rfl ((if0 _ _).trans (teq (by decide)).1) (by decide) (by decide) k_) ?_
        refine og T8 (mkF m 55 #[rv a, rv nm, .unset] [(.int 0)]) (fun t_ k_ => XS.iconst X8.here hx rfl (hb hby d_prog_20_2_54) k_) ?_
        refine og T8 (mkF m 56 #[rv a, rv nm, iv 0] []) (fun t_ k_ => XS.istoreN X8.here hx rfl (hb hby d_prog_20_2_55) rfl (l' := #[rv a, rv nm, iv 0]) rfl k_) ?_
        refine og T8 (mkF m 57 #[rv a, rv nm, iv 0] [(.int 0)]) (fun t_ k_ => XS.iloadN X8.here hx rfl (hb hby d_prog_20_2_56) rfl k_) ?_
        refine og T8 (mkF m 74 #[rv a, rv nm, iv 0] []) (fun t_ k_ => XS.ifYes X8.here hx rfl (pc0 := 57) (pc' := 74) rfl (hb hby d_prog_20_2_57) rfl ((if0 _ _).trans (teq (by decide)).1) (by decide) (by decide) k_) ?_
        exact own_out X8 (v := none) (fun _ => rfl) hlk (fun fs hr => X8.returnOut hx hret (hb hby d_prog_20_2_74) hr) (Q := Q_rm_cap Z a nm o0 o1 o2 o3 o4 P0 P1 P2 P3 P4 h0 n0) (by rw [e8]; exact ⟨rfl, N8, rfl⟩) (by decide) (by decide)
      · skip
        obtain ⟨cq9, kq9, q9a, q9b, q9c⟩ := isOf hZ e7 EO2
        obtain ⟨_, _, ⟨T9, L9, k9, n9⟩, -, X9, ⟨Lc9, hQ9, l9, y9, z9⟩, st9⟩ := X7.virtualBack hx (y := ym_36) (z := ym_36) hown (mvT hZ (own_w hw 189 rfl)) (mvT hZ (own_w hw 190 rfl)) (notFace_of_selects (args := #[]) (mvT hZ (own_w hw 192 rfl))) (mvT hZ (own_w hw 192 rfl)) (mvT hZ (own_w hw 191 rfl)) (by decide) (backOf (W := 0) (rm_ie1 l Z a0 hw [] o2 h0 n0 (show n0 ≤ h0.size by omega) FO2) hZ (own_w hw 193 rfl) (own_w hw 36 rfl) (by decide) (by decide)) q9a q9c (g := (mkF m 24 #[rv a, rv nm, .unset] [(.ref o2)])) rfl (by rw [hml]; rfl) (Steps.refl _) (argsL := []) (rest := []) (lenOf pd_8 rfl) rfl (by show 2 * 0 + _ ≤ _; exact Nat.le_of_eq rfl) (hb hby d_prog_20_2_24) (fun _ _ => ⟨rfl, e7, (by decide : 0 + 0 ≤ _), (by decide : 0 + 0 ≤ _)⟩)
        dsimp only [Pt.U, Pt.locs, Pt.cells, Pt.slots] at X9 l9 y9 z9 st9 hQ9
        replace l9 := l9.symm; replace y9 := y9.symm; replace z9 := z9.symm; subst l9 y9 z9
        obtain ⟨rfl, M9, e9⟩ := hQ9
        have N9 := Fr.app N6 M9
        refine og T9 (mkF m 27 #[rv a, rv nm, .unset] [(.int 1)]) (fun t_ k_ => st9.trans k_) ?_
        refine og T9 (mkF m 30 #[rv a, rv nm, .unset] []) (fun t_ k_ => XS.ifNo X9.here hx rfl (hb hby d_prog_20_2_27) rfl ((if0 _ _).trans (feq (by decide)).1) k_) ?_
        refine og T9 (mkF m 31 #[rv a, rv nm, .unset] [(.ref a)]) (fun t_ k_ => XS.aloadN X9.here hx rfl (hb hby d_prog_20_2_30) rfl rfl k_) ?_
        obtain ⟨T10, X10, e10, st10⟩ := getF X9 hx hZ hown (host := "") (Or.inl (own_w hw 180 rfl)) Via.refl e9 F_city_a (g := (mkF m 31 #[rv a, rv nm, .unset] [(.ref a)])) rfl rfl (hb hby d_prog_20_2_31)
        refine og T10 (mkF m 34 #[rv a, rv nm, .unset] [(.ref o3)]) (fun t_ k_ => st10 _ k_) ?_
        obtain ⟨EO3, vo3, FO3, hc3⟩ := id SO3
        rcases hc3 with ⟨hP3, t3, rfl⟩ | ⟨hN3, rfl⟩
        · skip
          obtain ⟨cq11, kq11, q11a, q11b, q11c⟩ := isOf hZ e10 EO3
          obtain ⟨_, _, ⟨T11, L11, k11, n11⟩, -, X11, ⟨Lc11, hQ11, l11, y11, z11⟩, st11⟩ := X10.virtualBack hx (y := ym_36) (z := ym_36) hown (mvT hZ (own_w hw 189 rfl)) (mvT hZ (own_w hw 190 rfl)) (notFace_of_selects (args := #[]) (mvT hZ (own_w hw 192 rfl))) (mvT hZ (own_w hw 192 rfl)) (mvT hZ (own_w hw 191 rfl)) (by decide) (backOf (W := 0) (rm_ie0 l Z a0 hw [] o3 t3 h0 n0 (show n0 ≤ h0.size by omega) FO3) hZ (own_w hw 193 rfl) (own_w hw 36 rfl) (by decide) (by decide)) q11a q11c (g := (mkF m 34 #[rv a, rv nm, .unset] [(.ref o3)])) rfl (by rw [hml]; rfl) (Steps.refl _) (argsL := []) (rest := []) (lenOf pd_8 rfl) rfl (by show 2 * 0 + _ ≤ _; exact Nat.le_of_eq rfl) (hb hby d_prog_20_2_34) (fun _ _ => ⟨rfl, e10, (by decide : 0 + 0 ≤ _), (by decide : 0 + 0 ≤ _)⟩)
          dsimp only [Pt.U, Pt.locs, Pt.cells, Pt.slots] at X11 l11 y11 z11 st11 hQ11
          replace l11 := l11.symm; replace y11 := y11.symm; replace z11 := z11.symm; subst l11 y11 z11
          obtain ⟨rfl, M11, e11⟩ := hQ11
          have N11 := Fr.app N9 M11
          refine og T11 (mkF m 37 #[rv a, rv nm, .unset] [(.int 0)]) (fun t_ k_ => st11.trans k_) ?_
          refine og T11 (mkF m 54 #[rv a, rv nm, .unset] []) (fun t_ k_ => XS.ifYes X11.here hx rfl (pc0 := 37) (pc' := 54) rfl (hb hby d_prog_20_2_37) rfl ((if0 _ _).trans (teq (by decide)).1) (by decide) (by decide) k_) ?_
          refine og T11 (mkF m 55 #[rv a, rv nm, .unset] [(.int 0)]) (fun t_ k_ => XS.iconst X11.here hx rfl (hb hby d_prog_20_2_54) k_) ?_
          refine og T11 (mkF m 56 #[rv a, rv nm, iv 0] []) (fun t_ k_ => XS.istoreN X11.here hx rfl (hb hby d_prog_20_2_55) rfl (l' := #[rv a, rv nm, iv 0]) rfl k_) ?_
          refine og T11 (mkF m 57 #[rv a, rv nm, iv 0] [(.int 0)]) (fun t_ k_ => XS.iloadN X11.here hx rfl (hb hby d_prog_20_2_56) rfl k_) ?_
          refine og T11 (mkF m 74 #[rv a, rv nm, iv 0] []) (fun t_ k_ => XS.ifYes X11.here hx rfl (pc0 := 57) (pc' := 74) rfl (hb hby d_prog_20_2_57) rfl ((if0 _ _).trans (teq (by decide)).1) (by decide) (by decide) k_) ?_
          exact own_out X11 (v := none) (fun _ => rfl) hlk (fun fs hr => X11.returnOut hx hret (hb hby d_prog_20_2_74) hr) (Q := Q_rm_cap Z a nm o0 o1 o2 o3 o4 P0 P1 P2 P3 P4 h0 n0) (by rw [e11]; exact ⟨rfl, N11, rfl⟩) (by decide) (by decide)
        · skip
          obtain ⟨cq12, kq12, q12a, q12b, q12c⟩ := isOf hZ e10 EO3
          obtain ⟨_, _, ⟨T12, L12, k12, n12⟩, -, X12, ⟨Lc12, hQ12, l12, y12, z12⟩, st12⟩ := X10.virtualBack hx (y := ym_36) (z := ym_36) hown (mvT hZ (own_w hw 189 rfl)) (mvT hZ (own_w hw 190 rfl)) (notFace_of_selects (args := #[]) (mvT hZ (own_w hw 192 rfl))) (mvT hZ (own_w hw 192 rfl)) (mvT hZ (own_w hw 191 rfl)) (by decide) (backOf (W := 0) (rm_ie1 l Z a0 hw [] o3 h0 n0 (show n0 ≤ h0.size by omega) FO3) hZ (own_w hw 193 rfl) (own_w hw 36 rfl) (by decide) (by decide)) q12a q12c (g := (mkF m 34 #[rv a, rv nm, .unset] [(.ref o3)])) rfl (by rw [hml]; rfl) (Steps.refl _) (argsL := []) (rest := []) (lenOf pd_8 rfl) rfl (by show 2 * 0 + _ ≤ _; exact Nat.le_of_eq rfl) (hb hby d_prog_20_2_34) (fun _ _ => ⟨rfl, e10, (by decide : 0 + 0 ≤ _), (by decide : 0 + 0 ≤ _)⟩)
          dsimp only [Pt.U, Pt.locs, Pt.cells, Pt.slots] at X12 l12 y12 z12 st12 hQ12
          replace l12 := l12.symm; replace y12 := y12.symm; replace z12 := z12.symm; subst l12 y12 z12
          obtain ⟨rfl, M12, e12⟩ := hQ12
          have N12 := Fr.app N9 M12
          refine og T12 (mkF m 37 #[rv a, rv nm, .unset] [(.int 1)]) (fun t_ k_ => st12.trans k_) ?_
          refine og T12 (mkF m 40 #[rv a, rv nm, .unset] []) (fun t_ k_ => XS.ifNo X12.here hx rfl (hb hby d_prog_20_2_37) rfl ((if0 _ _).trans (feq (by decide)).1) k_) ?_
          refine og T12 (mkF m 41 #[rv a, rv nm, .unset] [(.ref a)]) (fun t_ k_ => XS.aloadN X12.here hx rfl (hb hby d_prog_20_2_40) rfl rfl k_) ?_
          obtain ⟨T13, X13, e13, st13⟩ := getF X12 hx hZ hown (host := "") (Or.inl (own_w hw 182 rfl)) Via.refl e12 F_country_a (g := (mkF m 41 #[rv a, rv nm, .unset] [(.ref a)])) rfl rfl (hb hby d_prog_20_2_41)
          refine og T13 (mkF m 44 #[rv a, rv nm, .unset] [(.ref o4)]) (fun t_ k_ => st13 _ k_) ?_
          obtain ⟨EO4, vo4, FO4, hc4⟩ := id SO4
          rcases hc4 with ⟨hP4, t4, rfl⟩ | ⟨hN4, rfl⟩
          · skip
            obtain ⟨cq14, kq14, q14a, q14b, q14c⟩ := isOf hZ e13 EO4
            obtain ⟨_, _, ⟨T14, L14, k14, n14⟩, -, X14, ⟨Lc14, hQ14, l14, y14, z14⟩, st14⟩ := X13.virtualBack hx (y := ym_36) (z := ym_36) hown (mvT hZ (own_w hw 189 rfl)) (mvT hZ (own_w hw 190 rfl)) (notFace_of_selects (args := #[]) (mvT hZ (own_w hw 192 rfl))) (mvT hZ (own_w hw 192 rfl)) (mvT hZ (own_w hw 191 rfl)) (by decide) (backOf (W := 0) (rm_ie0 l Z a0 hw [] o4 t4 h0 n0 (show n0 ≤ h0.size by omega) FO4) hZ (own_w hw 193 rfl) (own_w hw 36 rfl) (by decide) (by decide)) q14a q14c (g := (mkF m 44 #[rv a, rv nm, .unset] [(.ref o4)])) rfl (by rw [hml]; rfl) (Steps.refl _) (argsL := []) (rest := []) (lenOf pd_8 rfl) rfl (by show 2 * 0 + _ ≤ _; exact Nat.le_of_eq rfl) (hb hby d_prog_20_2_44) (fun _ _ => ⟨rfl, e13, (by decide : 0 + 0 ≤ _), (by decide : 0 + 0 ≤ _)⟩)
            dsimp only [Pt.U, Pt.locs, Pt.cells, Pt.slots] at X14 l14 y14 z14 st14 hQ14
            replace l14 := l14.symm; replace y14 := y14.symm; replace z14 := z14.symm; subst l14 y14 z14
            obtain ⟨rfl, M14, e14⟩ := hQ14
            have N14 := Fr.app N12 M14
            refine og T14 (mkF m 47 #[rv a, rv nm, .unset] [(.int 0)]) (fun t_ k_ => st14.trans k_) ?_
            refine og T14 (mkF m 54 #[rv a, rv nm, .unset] []) (fun t_ k_ => XS.ifYes X14.here hx rfl (pc0 := 47) (pc' := 54) rfl (hb hby d_prog_20_2_47) rfl ((if0 _ _).trans (teq (by decide)).1) (by decide) (by decide) k_) ?_
            refine og T14 (mkF m 55 #[rv a, rv nm, .unset] [(.int 0)]) (fun t_ k_ => XS.iconst X14.here hx rfl (hb hby d_prog_20_2_54) k_) ?_
            refine og T14 (mkF m 56 #[rv a, rv nm, iv 0] []) (fun t_ k_ => XS.istoreN X14.here hx rfl (hb hby d_prog_20_2_55) rfl (l' := #[rv a, rv nm, iv 0]) rfl k_) ?_
            refine og T14 (mkF m 57 #[rv a, rv nm, iv 0] [(.int 0)]) (fun t_ k_ => XS.iloadN X14.here hx rfl (hb hby d_prog_20_2_56) rfl k_) ?_
            refine og T14 (mkF m 74 #[rv a, rv nm, iv 0] []) (fun t_ k_ => XS.ifYes X14.here hx rfl (pc0 := 57) (pc' := 74) rfl (hb hby d_prog_20_2_57) rfl ((if0 _ _).trans (teq (by decide)).1) (by decide) (by decide) k_) ?_
            exact own_out X14 (v := none) (fun _ => rfl) hlk (fun fs hr => X14.returnOut hx hret (hb hby d_prog_20_2_74) hr) (Q := Q_rm_cap Z a nm o0 o1 o2 o3 o4 P0 P1 P2 P3 P4 h0 n0) (by rw [e14]; exact ⟨rfl, N14, rfl⟩) (by decide) (by decide)
          · skip
            rcases hP with q | q | q | q | q
            · exact absurd q hN0
            · exact absurd q hN1
            · exact absurd q hN2
            · exact absurd q hN3
            · exact absurd q hN4
abbrev ym_38 : MethodName := ⟨"com/example/labmeld/labmeld/finding/Finding$Address", "<init>", "(Ljava/util/Optional;Ljava/util/Optional;Ljava/util/Optional;Ljava/util/Optional;Ljava/util/Optional;)V"⟩
theorem d_prog_20_1_0 : decode prog_20_method_1_code 0 = .ok (.aload_n 0, 1) := by decide +kernel
theorem d_prog_20_1_1 : decode prog_20_method_1_code 1 = .ok (.invokespecial 1, 3) := by decide +kernel
theorem pd_21 : parseMethodDescriptor "()V" = some ⟨[], none⟩ := by decide +kernel
theorem d_prog_20_1_4 : decode prog_20_method_1_code 4 = .ok (.ldc 7, 2) := by decide +kernel
theorem d_prog_20_1_6 : decode prog_20_method_1_code 6 = .ok (.aload_n 1, 1) := by decide +kernel
theorem d_prog_20_1_7 : decode prog_20_method_1_code 7 = .ok (.invokestatic 9, 3) := by decide +kernel
theorem d_prog_20_1_10 : decode prog_20_method_1_code 10 = .ok (.aload_n 1, 1) := by decide +kernel
theorem d_prog_20_1_11 : decode prog_20_method_1_code 11 = .ok (.invokedynamic 15, 5) := by decide +kernel
theorem d_prog_20_1_16 : decode prog_20_method_1_code 16 = .ok (.invokevirtual 19, 3) := by decide +kernel
theorem pd_22 : parseMethodDescriptor "(Ljava/util/function/Consumer;)V" = some ⟨[(.object "java/util/function/Consumer")], none⟩ := by decide +kernel
theorem d_prog_20_1_19 : decode prog_20_method_1_code 19 = .ok (.ldc 25, 2) := by decide +kernel
theorem d_prog_20_1_21 : decode prog_20_method_1_code 21 = .ok (.aload_n 2, 1) := by decide +kernel
theorem d_prog_20_1_22 : decode prog_20_method_1_code 22 = .ok (.invokestatic 9, 3) := by decide +kernel
theorem d_prog_20_1_25 : decode prog_20_method_1_code 25 = .ok (.aload_n 2, 1) := by decide +kernel
theorem d_prog_20_1_26 : decode prog_20_method_1_code 26 = .ok (.invokedynamic 27, 5) := by decide +kernel
theorem d_prog_20_1_31 : decode prog_20_method_1_code 31 = .ok (.invokevirtual 19, 3) := by decide +kernel
theorem d_prog_20_1_34 : decode prog_20_method_1_code 34 = .ok (.ldc 28, 2) := by decide +kernel
theorem d_prog_20_1_36 : decode prog_20_method_1_code 36 = .ok (.aload_n 3, 1) := by decide +kernel
theorem d_prog_20_1_37 : decode prog_20_method_1_code 37 = .ok (.invokestatic 9, 3) := by decide +kernel
theorem d_prog_20_1_40 : decode prog_20_method_1_code 40 = .ok (.aload_n 3, 1) := by decide +kernel
theorem d_prog_20_1_41 : decode prog_20_method_1_code 41 = .ok (.invokedynamic 30, 5) := by decide +kernel
theorem d_prog_20_1_46 : decode prog_20_method_1_code 46 = .ok (.invokevirtual 19, 3) := by decide +kernel
theorem d_prog_20_1_49 : decode prog_20_method_1_code 49 = .ok (.ldc 31, 2) := by decide +kernel
theorem d_prog_20_1_51 : decode prog_20_method_1_code 51 = .ok (.aload 4, 2) := by decide +kernel
theorem d_prog_20_1_53 : decode prog_20_method_1_code 53 = .ok (.invokestatic 9, 3) := by decide +kernel
theorem d_prog_20_1_56 : decode prog_20_method_1_code 56 = .ok (.aload 4, 2) := by decide +kernel
theorem d_prog_20_1_58 : decode prog_20_method_1_code 58 = .ok (.invokedynamic 33, 5) := by decide +kernel
theorem d_prog_20_1_63 : decode prog_20_method_1_code 63 = .ok (.invokevirtual 19, 3) := by decide +kernel
theorem d_prog_20_1_66 : decode prog_20_method_1_code 66 = .ok (.ldc 34, 2) := by decide +kernel
theorem d_prog_20_1_68 : decode prog_20_method_1_code 68 = .ok (.aload 5, 2) := by decide +kernel
theorem d_prog_20_1_70 : decode prog_20_method_1_code 70 = .ok (.invokestatic 9, 3) := by decide +kernel
theorem d_prog_20_1_73 : decode prog_20_method_1_code 73 = .ok (.aload 5, 2) := by decide +kernel
theorem d_prog_20_1_75 : decode prog_20_method_1_code 75 = .ok (.invokedynamic 36, 5) := by decide +kernel
theorem d_prog_20_1_80 : decode prog_20_method_1_code 80 = .ok (.invokevirtual 19, 3) := by decide +kernel
theorem d_prog_20_1_83 : decode prog_20_method_1_code 83 = .ok (.aload_n 0, 1) := by decide +kernel
theorem d_prog_20_1_84 : decode prog_20_method_1_code 84 = .ok (.aload_n 1, 1) := by decide +kernel
theorem d_prog_20_1_85 : decode prog_20_method_1_code 85 = .ok (.putfield 37, 3) := by decide +kernel
theorem d_prog_20_1_88 : decode prog_20_method_1_code 88 = .ok (.aload_n 0, 1) := by decide +kernel
theorem d_prog_20_1_89 : decode prog_20_method_1_code 89 = .ok (.aload_n 2, 1) := by decide +kernel
theorem d_prog_20_1_90 : decode prog_20_method_1_code 90 = .ok (.putfield 42, 3) := by decide +kernel
theorem sn_2 {Z : State} {a0 : Array Value} (hw : ∀ d ∈ tables_1, d.before a0 Z = true) : Jvm.RoadKit.slotOf Z "com/example/labmeld/labmeld/finding/Finding$Address" "houseNumber" "Ljava/util/Optional;" ≠ Jvm.RoadKit.slotOf Z "com/example/labmeld/labmeld/finding/Finding$Address" "street" "Ljava/util/Optional;" := Jvm.RoadKit.slot_ne (Or.inr (own_w hw 177 rfl)) (Or.inr (own_w hw 175 rfl)) (by decide) (t := (.object "java/util/Optional")) (t' := (.object "java/util/Optional")) (by decide) (by decide)
theorem d_prog_20_1_93 : decode prog_20_method_1_code 93 = .ok (.aload_n 0, 1) := by decide +kernel
theorem d_prog_20_1_94 : decode prog_20_method_1_code 94 = .ok (.aload_n 3, 1) := by decide +kernel
theorem d_prog_20_1_95 : decode prog_20_method_1_code 95 = .ok (.putfield 44, 3) := by decide +kernel
theorem sn_3 {Z : State} {a0 : Array Value} (hw : ∀ d ∈ tables_1, d.before a0 Z = true) : Jvm.RoadKit.slotOf Z "com/example/labmeld/labmeld/finding/Finding$Address" "postalCode" "Ljava/util/Optional;" ≠ Jvm.RoadKit.slotOf Z "com/example/labmeld/labmeld/finding/Finding$Address" "street" "Ljava/util/Optional;" := Jvm.RoadKit.slot_ne (Or.inr (own_w hw 179 rfl)) (Or.inr (own_w hw 175 rfl)) (by decide) (t := (.object "java/util/Optional")) (t' := (.object "java/util/Optional")) (by decide) (by decide)
theorem sn_4 {Z : State} {a0 : Array Value} (hw : ∀ d ∈ tables_1, d.before a0 Z = true) : Jvm.RoadKit.slotOf Z "com/example/labmeld/labmeld/finding/Finding$Address" "postalCode" "Ljava/util/Optional;" ≠ Jvm.RoadKit.slotOf Z "com/example/labmeld/labmeld/finding/Finding$Address" "houseNumber" "Ljava/util/Optional;" := Jvm.RoadKit.slot_ne (Or.inr (own_w hw 179 rfl)) (Or.inr (own_w hw 177 rfl)) (by decide) (t := (.object "java/util/Optional")) (t' := (.object "java/util/Optional")) (by decide) (by decide)
theorem d_prog_20_1_98 : decode prog_20_method_1_code 98 = .ok (.aload_n 0, 1) := by decide +kernel
theorem d_prog_20_1_99 : decode prog_20_method_1_code 99 = .ok (.aload 4, 2) := by decide +kernel
theorem d_prog_20_1_101 : decode prog_20_method_1_code 101 = .ok (.putfield 46, 3) := by decide +kernel
theorem sn_5 {Z : State} {a0 : Array Value} (hw : ∀ d ∈ tables_1, d.before a0 Z = true) : Jvm.RoadKit.slotOf Z "com/example/labmeld/labmeld/finding/Finding$Address" "city" "Ljava/util/Optional;" ≠ Jvm.RoadKit.slotOf Z "com/example/labmeld/labmeld/finding/Finding$Address" "street" "Ljava/util/Optional;" := Jvm.RoadKit.slot_ne (Or.inr (own_w hw 181 rfl)) (Or.inr (own_w hw 175 rfl)) (by decide) (t := (.object "java/util/Optional")) (t' := (.object "java/util/Optional")) (by decide) (by decide)
theorem sn_6 {Z : State} {a0 : Array Value} (hw : ∀ d ∈ tables_1, d.before a0 Z = true) : Jvm.RoadKit.slotOf Z "com/example/labmeld/labmeld/finding/Finding$Address" "city" "Ljava/util/Optional;" ≠ Jvm.RoadKit.slotOf Z "com/example/labmeld/labmeld/finding/Finding$Address" "houseNumber" "Ljava/util/Optional;" := Jvm.RoadKit.slot_ne (Or.inr (own_w hw 181 rfl)) (Or.inr (own_w hw 177 rfl)) (by decide) (t := (.object "java/util/Optional")) (t' := (.object "java/util/Optional")) (by decide) (by decide)
theorem sn_7 {Z : State} {a0 : Array Value} (hw : ∀ d ∈ tables_1, d.before a0 Z = true) : Jvm.RoadKit.slotOf Z "com/example/labmeld/labmeld/finding/Finding$Address" "city" "Ljava/util/Optional;" ≠ Jvm.RoadKit.slotOf Z "com/example/labmeld/labmeld/finding/Finding$Address" "postalCode" "Ljava/util/Optional;" := Jvm.RoadKit.slot_ne (Or.inr (own_w hw 181 rfl)) (Or.inr (own_w hw 179 rfl)) (by decide) (t := (.object "java/util/Optional")) (t' := (.object "java/util/Optional")) (by decide) (by decide)
theorem d_prog_20_1_104 : decode prog_20_method_1_code 104 = .ok (.aload_n 0, 1) := by decide +kernel
theorem d_prog_20_1_105 : decode prog_20_method_1_code 105 = .ok (.aload 5, 2) := by decide +kernel
theorem d_prog_20_1_107 : decode prog_20_method_1_code 107 = .ok (.putfield 48, 3) := by decide +kernel
theorem sn_8 {Z : State} {a0 : Array Value} (hw : ∀ d ∈ tables_1, d.before a0 Z = true) : Jvm.RoadKit.slotOf Z "com/example/labmeld/labmeld/finding/Finding$Address" "country" "Ljava/util/Optional;" ≠ Jvm.RoadKit.slotOf Z "com/example/labmeld/labmeld/finding/Finding$Address" "street" "Ljava/util/Optional;" := Jvm.RoadKit.slot_ne (Or.inr (own_w hw 183 rfl)) (Or.inr (own_w hw 175 rfl)) (by decide) (t := (.object "java/util/Optional")) (t' := (.object "java/util/Optional")) (by decide) (by decide)
theorem sn_9 {Z : State} {a0 : Array Value} (hw : ∀ d ∈ tables_1, d.before a0 Z = true) : Jvm.RoadKit.slotOf Z "com/example/labmeld/labmeld/finding/Finding$Address" "country" "Ljava/util/Optional;" ≠ Jvm.RoadKit.slotOf Z "com/example/labmeld/labmeld/finding/Finding$Address" "houseNumber" "Ljava/util/Optional;" := Jvm.RoadKit.slot_ne (Or.inr (own_w hw 183 rfl)) (Or.inr (own_w hw 177 rfl)) (by decide) (t := (.object "java/util/Optional")) (t' := (.object "java/util/Optional")) (by decide) (by decide)
theorem sn_10 {Z : State} {a0 : Array Value} (hw : ∀ d ∈ tables_1, d.before a0 Z = true) : Jvm.RoadKit.slotOf Z "com/example/labmeld/labmeld/finding/Finding$Address" "country" "Ljava/util/Optional;" ≠ Jvm.RoadKit.slotOf Z "com/example/labmeld/labmeld/finding/Finding$Address" "postalCode" "Ljava/util/Optional;" := Jvm.RoadKit.slot_ne (Or.inr (own_w hw 183 rfl)) (Or.inr (own_w hw 179 rfl)) (by decide) (t := (.object "java/util/Optional")) (t' := (.object "java/util/Optional")) (by decide) (by decide)
theorem sn_11 {Z : State} {a0 : Array Value} (hw : ∀ d ∈ tables_1, d.before a0 Z = true) : Jvm.RoadKit.slotOf Z "com/example/labmeld/labmeld/finding/Finding$Address" "country" "Ljava/util/Optional;" ≠ Jvm.RoadKit.slotOf Z "com/example/labmeld/labmeld/finding/Finding$Address" "city" "Ljava/util/Optional;" := Jvm.RoadKit.slot_ne (Or.inr (own_w hw 183 rfl)) (Or.inr (own_w hw 181 rfl)) (by decide) (t := (.object "java/util/Optional")) (t' := (.object "java/util/Optional")) (by decide) (by decide)
theorem d_prog_20_1_110 : decode prog_20_method_1_code 110 = .ok (.return_, 1) := by decide +kernel
theorem sn_12 {Z : State} {a0 : Array Value} (hw : ∀ d ∈ tables_1, d.before a0 Z = true) : Jvm.RoadKit.slotOf Z "com/example/labmeld/labmeld/finding/Finding$Address" "street" "Ljava/util/Optional;" ≠ Jvm.RoadKit.slotOf Z "com/example/labmeld/labmeld/finding/Finding$Address" "houseNumber" "Ljava/util/Optional;" := Jvm.RoadKit.slot_ne (Or.inr (own_w hw 175 rfl)) (Or.inr (own_w hw 177 rfl)) (by decide) (t := (.object "java/util/Optional")) (t' := (.object "java/util/Optional")) (by decide) (by decide)
theorem sn_13 {Z : State} {a0 : Array Value} (hw : ∀ d ∈ tables_1, d.before a0 Z = true) : Jvm.RoadKit.slotOf Z "com/example/labmeld/labmeld/finding/Finding$Address" "street" "Ljava/util/Optional;" ≠ Jvm.RoadKit.slotOf Z "com/example/labmeld/labmeld/finding/Finding$Address" "postalCode" "Ljava/util/Optional;" := Jvm.RoadKit.slot_ne (Or.inr (own_w hw 175 rfl)) (Or.inr (own_w hw 179 rfl)) (by decide) (t := (.object "java/util/Optional")) (t' := (.object "java/util/Optional")) (by decide) (by decide)
theorem sn_14 {Z : State} {a0 : Array Value} (hw : ∀ d ∈ tables_1, d.before a0 Z = true) : Jvm.RoadKit.slotOf Z "com/example/labmeld/labmeld/finding/Finding$Address" "street" "Ljava/util/Optional;" ≠ Jvm.RoadKit.slotOf Z "com/example/labmeld/labmeld/finding/Finding$Address" "city" "Ljava/util/Optional;" := Jvm.RoadKit.slot_ne (Or.inr (own_w hw 175 rfl)) (Or.inr (own_w hw 181 rfl)) (by decide) (t := (.object "java/util/Optional")) (t' := (.object "java/util/Optional")) (by decide) (by decide)
theorem sn_15 {Z : State} {a0 : Array Value} (hw : ∀ d ∈ tables_1, d.before a0 Z = true) : Jvm.RoadKit.slotOf Z "com/example/labmeld/labmeld/finding/Finding$Address" "street" "Ljava/util/Optional;" ≠ Jvm.RoadKit.slotOf Z "com/example/labmeld/labmeld/finding/Finding$Address" "country" "Ljava/util/Optional;" := Jvm.RoadKit.slot_ne (Or.inr (own_w hw 175 rfl)) (Or.inr (own_w hw 183 rfl)) (by decide) (t := (.object "java/util/Optional")) (t' := (.object "java/util/Optional")) (by decide) (by decide)
theorem sn_16 {Z : State} {a0 : Array Value} (hw : ∀ d ∈ tables_1, d.before a0 Z = true) : Jvm.RoadKit.slotOf Z "com/example/labmeld/labmeld/finding/Finding$Address" "houseNumber" "Ljava/util/Optional;" ≠ Jvm.RoadKit.slotOf Z "com/example/labmeld/labmeld/finding/Finding$Address" "postalCode" "Ljava/util/Optional;" := Jvm.RoadKit.slot_ne (Or.inr (own_w hw 177 rfl)) (Or.inr (own_w hw 179 rfl)) (by decide) (t := (.object "java/util/Optional")) (t' := (.object "java/util/Optional")) (by decide) (by decide)
theorem sn_17 {Z : State} {a0 : Array Value} (hw : ∀ d ∈ tables_1, d.before a0 Z = true) : Jvm.RoadKit.slotOf Z "com/example/labmeld/labmeld/finding/Finding$Address" "houseNumber" "Ljava/util/Optional;" ≠ Jvm.RoadKit.slotOf Z "com/example/labmeld/labmeld/finding/Finding$Address" "city" "Ljava/util/Optional;" := Jvm.RoadKit.slot_ne (Or.inr (own_w hw 177 rfl)) (Or.inr (own_w hw 181 rfl)) (by decide) (t := (.object "java/util/Optional")) (t' := (.object "java/util/Optional")) (by decide) (by decide)
theorem sn_18 {Z : State} {a0 : Array Value} (hw : ∀ d ∈ tables_1, d.before a0 Z = true) : Jvm.RoadKit.slotOf Z "com/example/labmeld/labmeld/finding/Finding$Address" "houseNumber" "Ljava/util/Optional;" ≠ Jvm.RoadKit.slotOf Z "com/example/labmeld/labmeld/finding/Finding$Address" "country" "Ljava/util/Optional;" := Jvm.RoadKit.slot_ne (Or.inr (own_w hw 177 rfl)) (Or.inr (own_w hw 183 rfl)) (by decide) (t := (.object "java/util/Optional")) (t' := (.object "java/util/Optional")) (by decide) (by decide)
theorem sn_19 {Z : State} {a0 : Array Value} (hw : ∀ d ∈ tables_1, d.before a0 Z = true) : Jvm.RoadKit.slotOf Z "com/example/labmeld/labmeld/finding/Finding$Address" "postalCode" "Ljava/util/Optional;" ≠ Jvm.RoadKit.slotOf Z "com/example/labmeld/labmeld/finding/Finding$Address" "city" "Ljava/util/Optional;" := Jvm.RoadKit.slot_ne (Or.inr (own_w hw 179 rfl)) (Or.inr (own_w hw 181 rfl)) (by decide) (t := (.object "java/util/Optional")) (t' := (.object "java/util/Optional")) (by decide) (by decide)
theorem sn_20 {Z : State} {a0 : Array Value} (hw : ∀ d ∈ tables_1, d.before a0 Z = true) : Jvm.RoadKit.slotOf Z "com/example/labmeld/labmeld/finding/Finding$Address" "postalCode" "Ljava/util/Optional;" ≠ Jvm.RoadKit.slotOf Z "com/example/labmeld/labmeld/finding/Finding$Address" "country" "Ljava/util/Optional;" := Jvm.RoadKit.slot_ne (Or.inr (own_w hw 179 rfl)) (Or.inr (own_w hw 183 rfl)) (by decide) (t := (.object "java/util/Optional")) (t' := (.object "java/util/Optional")) (by decide) (by decide)
theorem sn_21 {Z : State} {a0 : Array Value} (hw : ∀ d ∈ tables_1, d.before a0 Z = true) : Jvm.RoadKit.slotOf Z "com/example/labmeld/labmeld/finding/Finding$Address" "city" "Ljava/util/Optional;" ≠ Jvm.RoadKit.slotOf Z "com/example/labmeld/labmeld/finding/Finding$Address" "country" "Ljava/util/Optional;" := Jvm.RoadKit.slot_ne (Or.inr (own_w hw 181 rfl)) (Or.inr (own_w hw 183 rfl)) (by decide) (t := (.object "java/util/Optional")) (t' := (.object "java/util/Optional")) (by decide) (by decide)
theorem ef_38 (m : MethodId) (a : Nat) (o0 : Nat) (o1 : Nat) (o2 : Nat) (o3 : Nat) (o4 : Nat) : entryFrame m #[(.ref a), (.ref o0), (.ref o1), (.ref o2), (.ref o3), (.ref o4)] 6 = mkF m 0 #[rv a, rv o0, rv o1, rv o2, rv o3, rv o4] [] := by first | (simp [entryFrame, mkF, argsToLocals, Value.category]; done) | rfl
def Q_rm_adr (Z : State) (a : Nat) (o0 : Nat) (o1 : Nat) (o2 : Nat) (o3 : Nat) (o4 : Nat) (nn0 : Nat) (P0 : Prop) (f0 : Nat) (cK0 : ClassId) (nn1 : Nat) (P1 : Prop) (f1 : Nat) (cK1 : ClassId) (nn2 : Nat) (P2 : Prop) (f2 : Nat) (cK2 : ClassId) (nn3 : Nat) (P3 : Prop) (f3 : Nat) (cK3 : ClassId) (nn4 : Nat) (P4 : Prop) (f4 : Nat) (cK4 : ClassId) (cz : Int32) (ta : Nat) (ka : ClassId) (ci : Nat) (fm : Value) (h0 : Heap) (n0 : Nat) (vv : Option Value) (h : Heap) (LL : List Loc) : Prop := vv = none ∧ Fr n0 LL ∧ Keep h0 h [a] ∧ Fld Z h a "com/example/labmeld/labmeld/finding/Finding$Address" "street" "Ljava/util/Optional;" (.ref o0) ∧ Fld Z h a "com/example/labmeld/labmeld/finding/Finding$Address" "houseNumber" "Ljava/util/Optional;" (.ref o1) ∧ Fld Z h a "com/example/labmeld/labmeld/finding/Finding$Address" "postalCode" "Ljava/util/Optional;" (.ref o2) ∧ Fld Z h a "com/example/labmeld/labmeld/finding/Finding$Address" "city" "Ljava/util/Optional;" (.ref o3) ∧ Fld Z h a "com/example/labmeld/labmeld/finding/Finding$Address" "country" "Ljava/util/Optional;" (.ref o4)
set_option maxRecDepth 65536 in
set_option maxHeartbeats 40000000 in
theorem rm_adr (l : Launch) (Z : State) (a0 : Array Value) (hw : ∀ d ∈ tables_1, d.before a0 Z = true) (ws : List Jvm.Cond) (a : Nat) (o0 : Nat) (o1 : Nat) (o2 : Nat) (o3 : Nat) (o4 : Nat) (nn0 : Nat) (P0 : Prop) (f0 : Nat) (cK0 : ClassId) (nn1 : Nat) (P1 : Prop) (f1 : Nat) (cK1 : ClassId) (nn2 : Nat) (P2 : Prop) (f2 : Nat) (cK2 : ClassId) (nn3 : Nat) (P3 : Prop) (f3 : Nat) (cK3 : ClassId) (nn4 : Nat) (P4 : Prop) (f4 : Nat) (cK4 : ClassId) (cz : Int32) (ta : Nat) (ka : ClassId) (ci : Nat) (fm : Value) (h0 : Heap) (n0 : Nat) (Z0 : n0 ≤ h0.size) (E_a : Exa Z h0 a "com/example/labmeld/labmeld/finding/Finding$Address") (F_street_a : Fld Z h0 a "com/example/labmeld/labmeld/finding/Finding$Address" "street" "Ljava/util/Optional;" .null) (F_houseNumber_a : Fld Z h0 a "com/example/labmeld/labmeld/finding/Finding$Address" "houseNumber" "Ljava/util/Optional;" .null) (F_postalCode_a : Fld Z h0 a "com/example/labmeld/labmeld/finding/Finding$Address" "postalCode" "Ljava/util/Optional;" .null) (F_city_a : Fld Z h0 a "com/example/labmeld/labmeld/finding/Finding$Address" "city" "Ljava/util/Optional;" .null) (F_country_a : Fld Z h0 a "com/example/labmeld/labmeld/finding/Finding$Address" "country" "Ljava/util/Optional;" .null) (g_a : n0 ≤ a) (SO0 : own_Opt Z h0 nn0 o0 P0) (hs0 : own_Site Z ym_38 11 f0) (hmd0 : Jvm.LamKit.Made Z own_host own_sh0 cK0) (hfn0 : own_Fn h0 f0 cK0) (SO1 : own_Opt Z h0 nn1 o1 P1) (hs1 : own_Site Z ym_38 26 f1) (hmd1 : Jvm.LamKit.Made Z own_host own_sh1 cK1) (hfn1 : own_Fn h0 f1 cK1) (SO2 : own_Opt Z h0 nn2 o2 P2) (hs2 : own_Site Z ym_38 41 f2) (hmd2 : Jvm.LamKit.Made Z own_host own_sh2 cK2) (hfn2 : own_Fn h0 f2 cK2) (SO3 : own_Opt Z h0 nn3 o3 P3) (hs3 : own_Site Z ym_38 58 f3) (hmd3 : Jvm.LamKit.Made Z own_host own_sh3 cK3) (hfn3 : own_Fn h0 f3 cK3) (SO4 : own_Opt Z h0 nn4 o4 P4) (hs4 : own_Site Z ym_38 75 f4) (hmd4 : Jvm.LamKit.Made Z own_host own_sh4 cK4) (hfn4 : own_Fn h0 f4 cK4) (O0 : Old Z n0 h0) (S_COMPACT_STRINGS : Sta Z Z.heap "java/lang/String" "COMPACT_STRINGS" "Z" (.int cz)) (hcz : ¬ cz = (0 : Int32)) (S_A : Sta Z Z.heap "java/lang/CharacterDataLatin1" "A" "[I" (.ref ta)) (TA : Arv Z h0 ta ka .int (256 : Int32) (own_A.map Value.int) (.int (0 : Int32))) (S_instance : Sta Z Z.heap "java/lang/CharacterDataLatin1" "instance" "Ljava/lang/CharacterDataLatin1;" (.ref ci)) (EC : Exa Z h0 ci "java/lang/CharacterDataLatin1") (rf : fm.isRef = true) (S_SIOOBE_FORMATTER : Sta Z Z.heap "jdk/internal/util/Preconditions" "SIOOBE_FORMATTER" "Ljava/util/function/BiFunction;" fm) :
    MetFree l (⟨"com/example/labmeld/labmeld/finding/Finding$Address", "<init>", "(Ljava/util/Optional;Ljava/util/Optional;Ljava/util/Optional;Ljava/util/Optional;Ljava/util/Optional;)V"⟩ : MethodName) (head1 (Jvm.Cond.code (⟨"com/example/labmeld/labmeld/finding/Finding$Address", "<init>", "(Ljava/util/Optional;Ljava/util/Optional;Ljava/util/Optional;Ljava/util/Optional;Ljava/util/Optional;)V"⟩ : MethodName) prog_20_method_1_code 6 none :: ws) ({ frames := 9, cells := 20, slots := 344, locals := 3073 } : Room)) (fun aa UU => aa = #[(.ref a), (.ref o0), (.ref o1), (.ref o2), (.ref o3), (.ref o4)] ∧ Z.Warmed39 UU.vm ∧ UU.heap = h0) (fun _ _ _ _ _ => True) (fun _ UU oo UU' => ∃ vv LL, oo = .returned vv ∧ Q_rm_adr Z a o0 o1 o2 o3 o4 nn0 P0 f0 cK0 nn1 P1 f1 cK1 nn2 P2 f2 cK2 nn3 P3 f3 cK3 nn4 P4 f4 cK4 cz ta ka ci fm h0 n0 vv UU'.heap LL ∧ ReturnedEndW UU oo UU' LL ({ frames := 9, cells := 20, slots := 344, locals := 3073 } : Room).cells ({ frames := 9, cells := 20, slots := 344, locals := 3073 } : Room).slots) := by
  refine MetFree.of_bodySF (plainFor_of_name pn_8) hisR ?_
  intro p e s m args below meth c s₁ Bd hml0 hP hK
  obtain ⟨rfl, hZ, hh⟩ := hP
  have hx := Bd.exec
  have hby := Bd.bytes
  have hret := Bd.returns
  have hml : c.maxLocals = 6 := hml0
  have hown : s.vm.findClass "com/example/labmeld/labmeld/finding/Finding$Address" = some m.cls := findClass_of_methodNamed Bd.named
  have hnm := (name_of_methodNamed Bd.named Bd.method).1
  have hlk : meth.locks = false := BodyLoose.notSynchronized Bd
  have X0 : Stand p l e ({ frames := 9, cells := 20, slots := 344, locals := 3073 } : Room) (s.setVm s.vm) m #[(.ref a), (.ref o0), (.ref o1), (.ref o2), (.ref o3), (.ref o4)] below meth c s₁ [] 0 0 := Stand.of_body Bd
  have e0 : s₁.heap = h0 := by rw [← hh, Bd.state]; rfl
  have N0 := Fr.nil n0
  have hS : s.Since s.vm 0 := own_since s
  have hk : 0 ≤ h0.size := Nat.zero_le _
  have hwS : ∀ a ∈ Bundle.stringAtoms, a.before a0 Z = true := fun d hd => hw d ((by decide +kernel : ∀ d ∈ Bundle.stringAtoms, d ∈ tables_1) d hd)
  have lt_E_a := own_ltN E_a.lt
  have lt_F_street_a := own_ltN F_street_a.lt
  have lt_F_houseNumber_a := own_ltN F_houseNumber_a.lt
  have lt_F_postalCode_a := own_ltN F_postalCode_a.lt
  have lt_F_city_a := own_ltN F_city_a.lt
  have lt_F_country_a := own_ltN F_country_a.lt
  have lt_SO0 := own_ltN SO0.lt
  have lt_SO1 := own_ltN SO1.lt
  have lt_SO2 := own_ltN SO2.lt
  have lt_SO3 := own_ltN SO3.lt
  have lt_SO4 := own_ltN SO4.lt
  have lt_TA := own_ltN TA.lt
  have lt_EC := own_ltN EC.lt
  have hnZ := own_named hZ Bd.named
  refine own_in (ef_38 m a o0 o1 o2 o3 o4) ?_
  refine og s₁ (mkF m 1 #[rv a, rv o0, rv o1, rv o2, rv o3, rv o4] [(.ref a)]) (fun t_ k_ => XS.aloadN X0.here hx rfl (hb hby d_prog_20_1_0) rfl rfl k_) ?_
  obtain ⟨_, _, ⟨T1, L1, k1, n1⟩, -, X1, ⟨Lc1, hQ1, l1, y1, z1⟩, st1⟩ := X0.specialBack hx (y := ym_35) rfl hown (mvT hZ (own_w hw 58 rfl)) (mvT hZ (own_w hw 59 rfl)) (mvT hZ (own_w hw 62 rfl)) (by decide) (backOf (W := 0) (rm_rec l Z a0 hw [] a h0 n0 (show n0 ≤ h0.size by omega)) hZ (own_w hw 62 rfl) (own_w hw 61 rfl) (by decide) (by decide)) (g := (mkF m 1 #[rv a, rv o0, rv o1, rv o2, rv o3, rv o4] [(.ref a)])) rfl (by rw [hml]; rfl) (Steps.refl _) (a := a) (argsL := []) (rest := []) (lenOf pd_21 rfl) rfl (by show 2 * 0 + _ ≤ _; exact Nat.le_of_eq rfl) (hb hby d_prog_20_1_1) (fun _ _ => ⟨rfl, e0, (by decide : 0 + 0 ≤ _), (by decide : 0 + 0 ≤ _)⟩)
  dsimp only [Pt.U, Pt.locs, Pt.cells, Pt.slots] at X1 l1 y1 z1 st1 hQ1
  replace l1 := l1.symm; replace y1 := y1.symm; replace z1 := z1.symm; subst l1 y1 z1
  obtain ⟨rfl, M1, e1⟩ := hQ1
  have N1 := Fr.app N0 M1
  refine og T1 (mkF m 4 #[rv a, rv o0, rv o1, rv o2, rv o3, rv o4] []) (fun t_ k_ => st1.trans k_) ?_
  obtain ⟨b2, T2, h2, k2, X2, e2, E2, hS, hk, hZ, hown, st2⟩ := ldcS X1 hx hZ hown (own_w hw 64 rfl) hwS e1 hS (show _ ≤ h0.size by omega) (g := (mkF m 4 #[rv a, rv o0, rv o1, rv o2, rv o3, rv o4] [])) rfl (hb hby d_prog_20_1_4) (n := 24) (by decide) (by decide) (by decide) (by decide)
  have z2 := E2.1
  have O2 := O0.ext E2
  have K2 := (Keep.refl h0 [a]).ext E2
  refine og T2 (mkF m 6 #[rv a, rv o0, rv o1, rv o2, rv o3, rv o4] [(.ref b2)]) (fun t_ k_ => st2 _ k_) ?_
  refine og T2 (mkF m 7 #[rv a, rv o0, rv o1, rv o2, rv o3, rv o4] [(.ref o0), (.ref b2)]) (fun t_ k_ => XS.aloadN X2.here hx rfl (hb hby d_prog_20_1_6) rfl rfl k_) ?_
  obtain ⟨_, _, ⟨T3, L3, k3, n3⟩, -, X3, ⟨Lc3, hQ3, l3, y3, z3⟩, st3⟩ := Jvm.LawKit.callS X2 hx (y := ym_8) hown (mvT hZ (own_w hw 67 rfl)) (mvT hZ (own_w hw 68 rfl)) (mvT hZ (own_w hw 69 rfl)) (mvT hZ (own_w hw 70 rfl)) (by decide) (backOf (W := 0) (rm_pre l Z a0 hw [] b2 o0 h2 n0 (show n0 ≤ h2.size by omega)) hZ (own_w hw 70 rfl) (own_w hw 69 rfl) (by decide) (by decide)) (g := (mkF m 7 #[rv a, rv o0, rv o1, rv o2, rv o3, rv o4] [(.ref o0), (.ref b2)])) rfl (by rw [hml]; rfl) (argsL := [(.ref b2), (.ref o0)]) (rest := []) (lenOf pd_14 rfl) rfl (by show 2 * 0 + _ ≤ _; exact Nat.le_of_eq rfl) (hb hby d_prog_20_1_7) (fun _ _ => ⟨rfl, e2, (by decide : 2 + 0 ≤ _), (by decide : 28 + 0 ≤ _)⟩)
  dsimp only [Pt.U, Pt.locs, Pt.cells, Pt.slots] at X3 l3 y3 z3 st3 hQ3
  replace l3 := l3.symm; replace y3 := y3.symm; replace z3 := z3.symm; subst l3 y3 z3
  obtain ⟨rfl, M3, e3⟩ := hQ3
  have N3 := Fr.app N1 M3
  refine og T3 (mkF m 10 #[rv a, rv o0, rv o1, rv o2, rv o3, rv o4] []) (fun t_ k_ => st3 _ k_) ?_
  refine og T3 (mkF m 11 #[rv a, rv o0, rv o1, rv o2, rv o3, rv o4] [(.ref o0)]) (fun t_ k_ => XS.aloadN X3.here hx rfl (hb hby d_prog_20_1_10) rfl rfl k_) ?_
  refine og T3 (mkF m 16 #[rv a, rv o0, rv o1, rv o2, rv o3, rv o4] [(.ref f0), (.ref o0)]) (fun t_ k_ => own_indy X3 hx hZ hnZ hs0 (g := (mkF m 11 #[rv a, rv o0, rv o1, rv o2, rv o3, rv o4] [(.ref o0)])) rfl rfl (by rw [hml]; rfl) (hb hby d_prog_20_1_11) (Nat.le_of_ble_eq_true rfl) k_) ?_
  have ff5 := (SO0.ext E2)
  have ff6 := (hfn0.ext E2)
  have ff7 := (TA.ext E2)
  have ff8 := (EC.ext E2)
  have ff9 := (SO0.1.ext E2)
  obtain ⟨cq4, kq4, q4a, q4b, q4c⟩ := isOf hZ e3 ff9
  obtain ⟨_, _, ⟨T4, L4, k4, n4⟩, -, X4_, h24, gr4, ⟨Lc4, hQ4, l4, y4, z4⟩, st4⟩ := X3.virtualBackS hx (y := ym_33) (z := ym_33) hown (mvT hZ (own_w hw 74 rfl)) (mvT hZ (own_w hw 75 rfl)) (notFace_of_selects (args := #[]) (mvT hZ (own_w hw 77 rfl))) (mvT hZ (own_w hw 77 rfl)) (mvT hZ (own_w hw 76 rfl)) (by decide) (backOfS (W := 0) (rm_ifp0 l Z a0 hw [] o0 f0 nn0 P0 cK0 cz ta ka ci fm h2 n0 (show n0 ≤ h2.size by omega) ff5 hmd0 ff6 O2 S_COMPACT_STRINGS hcz S_A ff7 S_instance ff8 rf S_SIOOBE_FORMATTER) hZ (own_w hw 78 rfl) (own_w hw 36 rfl) (by decide) (by decide)) q4a q4c (g := (mkF m 16 #[rv a, rv o0, rv o1, rv o2, rv o3, rv o4] [(.ref f0), (.ref o0)])) rfl (by rw [hml]; rfl) (Steps.refl _) (argsL := [(.ref f0)]) (rest := []) (lenOf pd_22 rfl) rfl (by show 2 * 0 + _ ≤ _; exact Nat.le_of_eq rfl) (hb hby d_prog_20_1_16) (fun _ _ => ⟨rfl, e3, (by decide : 2 + 2 ≤ _), (by decide : 28 + 28 ≤ _)⟩)
  dsimp only [Pt.U, Pt.locs, Pt.cells, Pt.slots] at X4_ h24 gr4 l4 y4 z4 st4 hQ4
  replace l4 := l4.symm; replace y4 := y4.symm; replace z4 := z4.symm; subst l4 y4 z4
  obtain ⟨X4, hS, hZ, hown⟩ := rebS hS (show _ ≤ T3.heap.size by rw [e3]; omega) X4_ h24 gr4 hZ hown
  have hk : T4.heap.size ≤ T4.heap.size := Nat.le_refl _
  obtain ⟨rfl, M4, K4_⟩ := hQ4
  have zz4 := K4_.1
  have O4 := O2.keep K4_ all0
  have K4 := K2.trans K4_ all0
  have N4 := Fr.app N3 M4
  refine og T4 (mkF m 19 #[rv a, rv o0, rv o1, rv o2, rv o3, rv o4] []) (fun t_ k_ => st4.trans k_) ?_
  obtain ⟨b10, T10, h10, k10, X10, e10, E10, hS, hk, hZ, hown, st10⟩ := ldcS X4 hx hZ hown (own_w hw 166 rfl) hwS rfl hS (show _ ≤ T4.heap.size by omega) (g := (mkF m 19 #[rv a, rv o0, rv o1, rv o2, rv o3, rv o4] [])) rfl (hb hby d_prog_20_1_19) (n := 44) (by decide) (by decide) (by decide) (by decide)
  have z10 := E10.1
  have O10 := O4.ext E10
  have K10 := K4.ext E10
  refine og T10 (mkF m 21 #[rv a, rv o0, rv o1, rv o2, rv o3, rv o4] [(.ref b10)]) (fun t_ k_ => st10 _ k_) ?_
  refine og T10 (mkF m 22 #[rv a, rv o0, rv o1, rv o2, rv o3, rv o4] [(.ref o1), (.ref b10)]) (fun t_ k_ => XS.aloadN X10.here hx rfl (hb hby d_prog_20_1_21) rfl rfl k_) ?_
  obtain ⟨_, _, ⟨T11, L11, k11, n11⟩, -, X11, ⟨Lc11, hQ11, l11, y11, z11⟩, st11⟩ := Jvm.LawKit.callS X10 hx (y := ym_8) hown (mvT hZ (own_w hw 67 rfl)) (mvT hZ (own_w hw 68 rfl)) (mvT hZ (own_w hw 69 rfl)) (mvT hZ (own_w hw 70 rfl)) (by decide) (backOf (W := 0) (rm_pre l Z a0 hw [] b10 o1 h10 n0 (show n0 ≤ h10.size by omega)) hZ (own_w hw 70 rfl) (own_w hw 69 rfl) (by decide) (by decide)) (g := (mkF m 22 #[rv a, rv o0, rv o1, rv o2, rv o3, rv o4] [(.ref o1), (.ref b10)])) rfl (by rw [hml]; rfl) (argsL := [(.ref b10), (.ref o1)]) (rest := []) (lenOf pd_14 rfl) rfl (by show 2 * 0 + _ ≤ _; exact Nat.le_of_eq rfl) (hb hby d_prog_20_1_22) (fun _ _ => ⟨rfl, e10, (by decide : 6 + 0 ≤ _), (by decide : 104 + 0 ≤ _)⟩)
  dsimp only [Pt.U, Pt.locs, Pt.cells, Pt.slots] at X11 l11 y11 z11 st11 hQ11
  replace l11 := l11.symm; replace y11 := y11.symm; replace z11 := z11.symm; subst l11 y11 z11
  obtain ⟨rfl, M11, e11⟩ := hQ11
  have N11 := Fr.app N4 M11
  refine og T11 (mkF m 25 #[rv a, rv o0, rv o1, rv o2, rv o3, rv o4] []) (fun t_ k_ => st11 _ k_) ?_
  refine og T11 (mkF m 26 #[rv a, rv o0, rv o1, rv o2, rv o3, rv o4] [(.ref o1)]) (fun t_ k_ => XS.aloadN X11.here hx rfl (hb hby d_prog_20_1_25) rfl rfl k_) ?_
  refine og T11 (mkF m 31 #[rv a, rv o0, rv o1, rv o2, rv o3, rv o4] [(.ref f1), (.ref o1)]) (fun t_ k_ => own_indy X11 hx hZ hnZ hs1 (g := (mkF m 26 #[rv a, rv o0, rv o1, rv o2, rv o3, rv o4] [(.ref o1)])) rfl rfl (by rw [hml]; rfl) (hb hby d_prog_20_1_26) (Nat.le_of_ble_eq_true rfl) k_) ?_
  have ff13 := (((SO1.ext E2).keep K4_ all0).ext E10)
  have ff14 := (((hfn1.ext E2).keep K4_).ext E10)
  have ff15 := ((ff7.keep K4_ nin0).ext E10)
  have ff16 := ((ff8.keep K4_).ext E10)
  have ff17 := (((SO1.1.ext E2).keep K4_).ext E10)
  obtain ⟨cq12, kq12, q12a, q12b, q12c⟩ := isOf hZ e11 ff17
  obtain ⟨_, _, ⟨T12, L12, k12, n12⟩, -, X12_, h212, gr12, ⟨Lc12, hQ12, l12, y12, z12⟩, st12⟩ := X11.virtualBackS hx (y := ym_33) (z := ym_33) hown (mvT hZ (own_w hw 74 rfl)) (mvT hZ (own_w hw 75 rfl)) (notFace_of_selects (args := #[]) (mvT hZ (own_w hw 77 rfl))) (mvT hZ (own_w hw 77 rfl)) (mvT hZ (own_w hw 76 rfl)) (by decide) (backOfS (W := 0) (rm_ifp1 l Z a0 hw [] o1 f1 nn1 P1 cK1 cz ta ka ci fm h10 n0 (show n0 ≤ h10.size by omega) ff13 hmd1 ff14 O10 S_COMPACT_STRINGS hcz S_A ff15 S_instance ff16 rf S_SIOOBE_FORMATTER) hZ (own_w hw 78 rfl) (own_w hw 36 rfl) (by decide) (by decide)) q12a q12c (g := (mkF m 31 #[rv a, rv o0, rv o1, rv o2, rv o3, rv o4] [(.ref f1), (.ref o1)])) rfl (by rw [hml]; rfl) (Steps.refl _) (argsL := [(.ref f1)]) (rest := []) (lenOf pd_22 rfl) rfl (by show 2 * 0 + _ ≤ _; exact Nat.le_of_eq rfl) (hb hby d_prog_20_1_31) (fun _ _ => ⟨rfl, e11, (by decide : 6 + 2 ≤ _), (by decide : 104 + 48 ≤ _)⟩)
  dsimp only [Pt.U, Pt.locs, Pt.cells, Pt.slots] at X12_ h212 gr12 l12 y12 z12 st12 hQ12
  replace l12 := l12.symm; replace y12 := y12.symm; replace z12 := z12.symm; subst l12 y12 z12
  obtain ⟨X12, hS, hZ, hown⟩ := rebS hS (show _ ≤ T11.heap.size by rw [e11]; omega) X12_ h212 gr12 hZ hown
  have hk : T12.heap.size ≤ T12.heap.size := Nat.le_refl _
  obtain ⟨rfl, M12, K12_⟩ := hQ12
  have zz12 := K12_.1
  have O12 := O10.keep K12_ all0
  have K12 := K10.trans K12_ all0
  have N12 := Fr.app N11 M12
  refine og T12 (mkF m 34 #[rv a, rv o0, rv o1, rv o2, rv o3, rv o4] []) (fun t_ k_ => st12.trans k_) ?_
  obtain ⟨b18, T18, h18, k18, X18, e18, E18, hS, hk, hZ, hown, st18⟩ := ldcS X12 hx hZ hown (own_w hw 168 rfl) hwS rfl hS (show _ ≤ T12.heap.size by omega) (g := (mkF m 34 #[rv a, rv o0, rv o1, rv o2, rv o3, rv o4] [])) rfl (hb hby d_prog_20_1_34) (n := 40) (by decide) (by decide) (by decide) (by decide)
  have z18 := E18.1
  have O18 := O12.ext E18
  have K18 := K12.ext E18
  refine og T18 (mkF m 36 #[rv a, rv o0, rv o1, rv o2, rv o3, rv o4] [(.ref b18)]) (fun t_ k_ => st18 _ k_) ?_
  refine og T18 (mkF m 37 #[rv a, rv o0, rv o1, rv o2, rv o3, rv o4] [(.ref o2), (.ref b18)]) (fun t_ k_ => XS.aloadN X18.here hx rfl (hb hby d_prog_20_1_36) rfl rfl k_) ?_
  obtain ⟨_, _, ⟨T19, L19, k19, n19⟩, -, X19, ⟨Lc19, hQ19, l19, y19, z19⟩, st19⟩ := Jvm.LawKit.callS X18 hx (y := ym_8) hown (mvT hZ (own_w hw 67 rfl)) (mvT hZ (own_w hw 68 rfl)) (mvT hZ (own_w hw 69 rfl)) (mvT hZ (own_w hw 70 rfl)) (by decide) (backOf (W := 0) (rm_pre l Z a0 hw [] b18 o2 h18 n0 (show n0 ≤ h18.size by omega)) hZ (own_w hw 70 rfl) (own_w hw 69 rfl) (by decide) (by decide)) (g := (mkF m 37 #[rv a, rv o0, rv o1, rv o2, rv o3, rv o4] [(.ref o2), (.ref b18)])) rfl (by rw [hml]; rfl) (argsL := [(.ref b18), (.ref o2)]) (rest := []) (lenOf pd_14 rfl) rfl (by show 2 * 0 + _ ≤ _; exact Nat.le_of_eq rfl) (hb hby d_prog_20_1_37) (fun _ _ => ⟨rfl, e18, (by decide : 10 + 0 ≤ _), (by decide : 196 + 0 ≤ _)⟩)
  dsimp only [Pt.U, Pt.locs, Pt.cells, Pt.slots] at X19 l19 y19 z19 st19 hQ19
  replace l19 := l19.symm; replace y19 := y19.symm; replace z19 := z19.symm; subst l19 y19 z19
  obtain ⟨rfl, M19, e19⟩ := hQ19
  have N19 := Fr.app N12 M19
  refine og T19 (mkF m 40 #[rv a, rv o0, rv o1, rv o2, rv o3, rv o4] []) (fun t_ k_ => st19 _ k_) ?_
  refine og T19 (mkF m 41 #[rv a, rv o0, rv o1, rv o2, rv o3, rv o4] [(.ref o2)]) (fun t_ k_ => XS.aloadN X19.here hx rfl (hb hby d_prog_20_1_40) rfl rfl k_) ?_
  refine og T19 (mkF m 46 #[rv a, rv o0, rv o1, rv o2, rv o3, rv o4] [(.ref f2), (.ref o2)]) (fun t_ k_ => own_indy X19 hx hZ hnZ hs2 (g := (mkF m 41 #[rv a, rv o0, rv o1, rv o2, rv o3, rv o4] [(.ref o2)])) rfl rfl (by rw [hml]; rfl) (hb hby d_prog_20_1_41) (Nat.le_of_ble_eq_true rfl) k_) ?_
  have ff21 := (((((SO2.ext E2).keep K4_ all0).ext E10).keep K12_ all0).ext E18)
  have ff22 := (((((hfn2.ext E2).keep K4_).ext E10).keep K12_).ext E18)
  have ff23 := ((ff15.keep K12_ nin0).ext E18)
  have ff24 := ((ff16.keep K12_).ext E18)
  have ff25 := (((((SO2.1.ext E2).keep K4_).ext E10).keep K12_).ext E18)
  obtain ⟨cq20, kq20, q20a, q20b, q20c⟩ := isOf hZ e19 ff25
  obtain ⟨_, _, ⟨T20, L20, k20, n20⟩, -, X20_, h220, gr20, ⟨Lc20, hQ20, l20, y20, z20⟩, st20⟩ := X19.virtualBackS hx (y := ym_33) (z := ym_33) hown (mvT hZ (own_w hw 74 rfl)) (mvT hZ (own_w hw 75 rfl)) (notFace_of_selects (args := #[]) (mvT hZ (own_w hw 77 rfl))) (mvT hZ (own_w hw 77 rfl)) (mvT hZ (own_w hw 76 rfl)) (by decide) (backOfS (W := 0) (rm_ifp2 l Z a0 hw [] o2 f2 nn2 P2 cK2 cz ta ka ci fm h18 n0 (show n0 ≤ h18.size by omega) ff21 hmd2 ff22 O18 S_COMPACT_STRINGS hcz S_A ff23 S_instance ff24 rf S_SIOOBE_FORMATTER) hZ (own_w hw 78 rfl) (own_w hw 36 rfl) (by decide) (by decide)) q20a q20c (g := (mkF m 46 #[rv a, rv o0, rv o1, rv o2, rv o3, rv o4] [(.ref f2), (.ref o2)])) rfl (by rw [hml]; rfl) (Steps.refl _) (argsL := [(.ref f2)]) (rest := []) (lenOf pd_22 rfl) rfl (by show 2 * 0 + _ ≤ _; exact Nat.le_of_eq rfl) (hb hby d_prog_20_1_46) (fun _ _ => ⟨rfl, e19, (by decide : 10 + 2 ≤ _), (by decide : 196 + 44 ≤ _)⟩)
  dsimp only [Pt.U, Pt.locs, Pt.cells, Pt.slots] at X20_ h220 gr20 l20 y20 z20 st20 hQ20
  replace l20 := l20.symm; replace y20 := y20.symm; replace z20 := z20.symm; subst l20 y20 z20
  obtain ⟨X20, hS, hZ, hown⟩ := rebS hS (show _ ≤ T19.heap.size by rw [e19]; omega) X20_ h220 gr20 hZ hown
  have hk : T20.heap.size ≤ T20.heap.size := Nat.le_refl _
  obtain ⟨rfl, M20, K20_⟩ := hQ20
  have zz20 := K20_.1
  have O20 := O18.keep K20_ all0
  have K20 := K18.trans K20_ all0
  have N20 := Fr.app N19 M20
  refine og T20 (mkF m 49 #[rv a, rv o0, rv o1, rv o2, rv o3, rv o4] []) (fun t_ k_ => st20.trans k_) ?_
  obtain ⟨b26, T26, h26, k26, X26, e26, E26, hS, hk, hZ, hown, st26⟩ := ldcS X20 hx hZ hown (own_w hw 170 rfl) hwS rfl hS (show _ ≤ T20.heap.size by omega) (g := (mkF m 49 #[rv a, rv o0, rv o1, rv o2, rv o3, rv o4] [])) rfl (hb hby d_prog_20_1_49) (n := 16) (by decide) (by decide) (by decide) (by decide)
  have z26 := E26.1
  have O26 := O20.ext E26
  have K26 := K20.ext E26
  refine og T26 (mkF m 51 #[rv a, rv o0, rv o1, rv o2, rv o3, rv o4] [(.ref b26)]) (fun t_ k_ => st26 _ k_) ?_
  refine og T26 (mkF m 53 #[rv a, rv o0, rv o1, rv o2, rv o3, rv o4] [(.ref o3), (.ref b26)]) (fun t_ k_ => XS.aload X26.here hx rfl (hb hby d_prog_20_1_51) rfl rfl k_) ?_
  obtain ⟨_, _, ⟨T27, L27, k27, n27⟩, -, X27, ⟨Lc27, hQ27, l27, y27, z27⟩, st27⟩ := Jvm.LawKit.callS X26 hx (y := ym_8) hown (mvT hZ (own_w hw 67 rfl)) (mvT hZ (own_w hw 68 rfl)) (mvT hZ (own_w hw 69 rfl)) (mvT hZ (own_w hw 70 rfl)) (by decide) (backOf (W := 0) (rm_pre l Z a0 hw [] b26 o3 h26 n0 (show n0 ≤ h26.size by omega)) hZ (own_w hw 70 rfl) (own_w hw 69 rfl) (by decide) (by decide)) (g := (mkF m 53 #[rv a, rv o0, rv o1, rv o2, rv o3, rv o4] [(.ref o3), (.ref b26)])) rfl (by rw [hml]; rfl) (argsL := [(.ref b26), (.ref o3)]) (rest := []) (lenOf pd_14 rfl) rfl (by show 2 * 0 + _ ≤ _; exact Nat.le_of_eq rfl) (hb hby d_prog_20_1_53) (fun _ _ => ⟨rfl, e26, (by decide : 14 + 0 ≤ _), (by decide : 260 + 0 ≤ _)⟩)
  dsimp only [Pt.U, Pt.locs, Pt.cells, Pt.slots] at X27 l27 y27 z27 st27 hQ27
  replace l27 := l27.symm; replace y27 := y27.symm; replace z27 := z27.symm; subst l27 y27 z27
  obtain ⟨rfl, M27, e27⟩ := hQ27
  have N27 := Fr.app N20 M27
  refine og T27 (mkF m 56 #[rv a, rv o0, rv o1, rv o2, rv o3, rv o4] []) (fun t_ k_ => st27 _ k_) ?_
  refine og T27 (mkF m 58 #[rv a, rv o0, rv o1, rv o2, rv o3, rv o4] [(.ref o3)]) (fun t_ k_ => XS.aload X27.here hx rfl (hb hby d_prog_20_1_56) rfl rfl k_) ?_
  refine og T27 (mkF m 63 #[rv a, rv o0, rv o1, rv o2, rv o3, rv o4] [(.ref f3), (.ref o3)]) (fun t_ k_ => own_indy X27 hx hZ hnZ hs3 (g := (mkF m 58 #[rv a, rv o0, rv o1, rv o2, rv o3, rv o4] [(.ref o3)])) rfl rfl (by rw [hml]; rfl) (hb hby d_prog_20_1_58) (Nat.le_of_ble_eq_true rfl) k_) ?_
  have ff29 := (((((((SO3.ext E2).keep K4_ all0).ext E10).keep K12_ all0).ext E18).keep K20_ all0).ext E26)
  have ff30 := (((((((hfn3.ext E2).keep K4_).ext E10).keep K12_).ext E18).keep K20_).ext E26)
  have ff31 := ((ff23.keep K20_ nin0).ext E26)
  have ff32 := ((ff24.keep K20_).ext E26)
  have ff33 := (((((((SO3.1.ext E2).keep K4_).ext E10).keep K12_).ext E18).keep K20_).ext E26)
  obtain ⟨cq28, kq28, q28a, q28b, q28c⟩ := isOf hZ e27 ff33
  obtain ⟨_, _, ⟨T28, L28, k28, n28⟩, -, X28_, h228, gr28, ⟨Lc28, hQ28, l28, y28, z28⟩, st28⟩ := X27.virtualBackS hx (y := ym_33) (z := ym_33) hown (mvT hZ (own_w hw 74 rfl)) (mvT hZ (own_w hw 75 rfl)) (notFace_of_selects (args := #[]) (mvT hZ (own_w hw 77 rfl))) (mvT hZ (own_w hw 77 rfl)) (mvT hZ (own_w hw 76 rfl)) (by decide) (backOfS (W := 0) (rm_ifp3 l Z a0 hw [] o3 f3 nn3 P3 cK3 cz ta ka ci fm h26 n0 (show n0 ≤ h26.size by omega) ff29 hmd3 ff30 O26 S_COMPACT_STRINGS hcz S_A ff31 S_instance ff32 rf S_SIOOBE_FORMATTER) hZ (own_w hw 78 rfl) (own_w hw 36 rfl) (by decide) (by decide)) q28a q28c (g := (mkF m 63 #[rv a, rv o0, rv o1, rv o2, rv o3, rv o4] [(.ref f3), (.ref o3)])) rfl (by rw [hml]; rfl) (Steps.refl _) (argsL := [(.ref f3)]) (rest := []) (lenOf pd_22 rfl) rfl (by show 2 * 0 + _ ≤ _; exact Nat.le_of_eq rfl) (hb hby d_prog_20_1_63) (fun _ _ => ⟨rfl, e27, (by decide : 14 + 2 ≤ _), (by decide : 260 + 20 ≤ _)⟩)
  dsimp only [Pt.U, Pt.locs, Pt.cells, Pt.slots] at X28_ h228 gr28 l28 y28 z28 st28 hQ28
  replace l28 := l28.symm; replace y28 := y28.symm; replace z28 := z28.symm; subst l28 y28 z28
  obtain ⟨X28, hS, hZ, hown⟩ := rebS hS (show _ ≤ T27.heap.size by rw [e27]; omega) X28_ h228 gr28 hZ hown
  have hk : T28.heap.size ≤ T28.heap.size := Nat.le_refl _
  obtain ⟨rfl, M28, K28_⟩ := hQ28
  have zz28 := K28_.1
  have O28 := O26.keep K28_ all0
  have K28 := K26.trans K28_ all0
  have N28 := Fr.app N27 M28
  refine og T28 (mkF m 66 #[rv a, rv o0, rv o1, rv o2, rv o3, rv o4] []) (fun t_ k_ => st28.trans k_) ?_
  obtain ⟨b34, T34, h34, k34, X34, e34, E34, hS, hk, hZ, hown, st34⟩ := ldcS X28 hx hZ hown (own_w hw 172 rfl) hwS rfl hS (show _ ≤ T28.heap.size by omega) (g := (mkF m 66 #[rv a, rv o0, rv o1, rv o2, rv o3, rv o4] [])) rfl (hb hby d_prog_20_1_66) (n := 28) (by decide) (by decide) (by decide) (by decide)
  have z34 := E34.1
  have O34 := O28.ext E34
  have K34 := K28.ext E34
  refine og T34 (mkF m 68 #[rv a, rv o0, rv o1, rv o2, rv o3, rv o4] [(.ref b34)]) (fun t_ k_ => st34 _ k_) ?_
  refine og T34 (mkF m 70 #[rv a, rv o0, rv o1, rv o2, rv o3, rv o4] [(.ref o4), (.ref b34)]) (fun t_ k_ => XS.aload X34.here hx rfl (hb hby d_prog_20_1_68) rfl rfl k_) ?_
  obtain ⟨_, _, ⟨T35, L35, k35, n35⟩, -, X35, ⟨Lc35, hQ35, l35, y35, z35⟩, st35⟩ := Jvm.LawKit.callS X34 hx (y := ym_8) hown (mvT hZ (own_w hw 67 rfl)) (mvT hZ (own_w hw 68 rfl)) (mvT hZ (own_w hw 69 rfl)) (mvT hZ (own_w hw 70 rfl)) (by decide) (backOf (W := 0) (rm_pre l Z a0 hw [] b34 o4 h34 n0 (show n0 ≤ h34.size by omega)) hZ (own_w hw 70 rfl) (own_w hw 69 rfl) (by decide) (by decide)) (g := (mkF m 70 #[rv a, rv o0, rv o1, rv o2, rv o3, rv o4] [(.ref o4), (.ref b34)])) rfl (by rw [hml]; rfl) (argsL := [(.ref b34), (.ref o4)]) (rest := []) (lenOf pd_14 rfl) rfl (by show 2 * 0 + _ ≤ _; exact Nat.le_of_eq rfl) (hb hby d_prog_20_1_70) (fun _ _ => ⟨rfl, e34, (by decide : 18 + 0 ≤ _), (by decide : 312 + 0 ≤ _)⟩)
  dsimp only [Pt.U, Pt.locs, Pt.cells, Pt.slots] at X35 l35 y35 z35 st35 hQ35
  replace l35 := l35.symm; replace y35 := y35.symm; replace z35 := z35.symm; subst l35 y35 z35
  obtain ⟨rfl, M35, e35⟩ := hQ35
  have N35 := Fr.app N28 M35
  refine og T35 (mkF m 73 #[rv a, rv o0, rv o1, rv o2, rv o3, rv o4] []) (fun t_ k_ => st35 _ k_) ?_
  refine og T35 (mkF m 75 #[rv a, rv o0, rv o1, rv o2, rv o3, rv o4] [(.ref o4)]) (fun t_ k_ => XS.aload X35.here hx rfl (hb hby d_prog_20_1_73) rfl rfl k_) ?_
  refine og T35 (mkF m 80 #[rv a, rv o0, rv o1, rv o2, rv o3, rv o4] [(.ref f4), (.ref o4)]) (fun t_ k_ => own_indy X35 hx hZ hnZ hs4 (g := (mkF m 75 #[rv a, rv o0, rv o1, rv o2, rv o3, rv o4] [(.ref o4)])) rfl rfl (by rw [hml]; rfl) (hb hby d_prog_20_1_75) (Nat.le_of_ble_eq_true rfl) k_) ?_
  have ff37 := (((((((((SO4.ext E2).keep K4_ all0).ext E10).keep K12_ all0).ext E18).keep K20_ all0).ext E26).keep K28_ all0).ext E34)
  have ff38 := (((((((((hfn4.ext E2).keep K4_).ext E10).keep K12_).ext E18).keep K20_).ext E26).keep K28_).ext E34)
  have ff39 := ((ff31.keep K28_ nin0).ext E34)
  have ff40 := ((ff32.keep K28_).ext E34)
  have ff41 := (((((((((SO4.1.ext E2).keep K4_).ext E10).keep K12_).ext E18).keep K20_).ext E26).keep K28_).ext E34)
  obtain ⟨cq36, kq36, q36a, q36b, q36c⟩ := isOf hZ e35 ff41
  obtain ⟨_, _, ⟨T36, L36, k36, n36⟩, -, X36_, h236, gr36, ⟨Lc36, hQ36, l36, y36, z36⟩, st36⟩ := X35.virtualBackS hx (y := ym_33) (z := ym_33) hown (mvT hZ (own_w hw 74 rfl)) (mvT hZ (own_w hw 75 rfl)) (notFace_of_selects (args := #[]) (mvT hZ (own_w hw 77 rfl))) (mvT hZ (own_w hw 77 rfl)) (mvT hZ (own_w hw 76 rfl)) (by decide) (backOfS (W := 0) (rm_ifp4 l Z a0 hw [] o4 f4 nn4 P4 cK4 cz ta ka ci fm h34 n0 (show n0 ≤ h34.size by omega) ff37 hmd4 ff38 O34 S_COMPACT_STRINGS hcz S_A ff39 S_instance ff40 rf S_SIOOBE_FORMATTER) hZ (own_w hw 78 rfl) (own_w hw 36 rfl) (by decide) (by decide)) q36a q36c (g := (mkF m 80 #[rv a, rv o0, rv o1, rv o2, rv o3, rv o4] [(.ref f4), (.ref o4)])) rfl (by rw [hml]; rfl) (Steps.refl _) (argsL := [(.ref f4)]) (rest := []) (lenOf pd_22 rfl) rfl (by show 2 * 0 + _ ≤ _; exact Nat.le_of_eq rfl) (hb hby d_prog_20_1_80) (fun _ _ => ⟨rfl, e35, (by decide : 18 + 2 ≤ _), (by decide : 312 + 32 ≤ _)⟩)
  dsimp only [Pt.U, Pt.locs, Pt.cells, Pt.slots] at X36_ h236 gr36 l36 y36 z36 st36 hQ36
  replace l36 := l36.symm; replace y36 := y36.symm; replace z36 := z36.symm; subst l36 y36 z36
  obtain ⟨X36, hS, hZ, hown⟩ := rebS hS (show _ ≤ T35.heap.size by rw [e35]; omega) X36_ h236 gr36 hZ hown
  have hk : T36.heap.size ≤ T36.heap.size := Nat.le_refl _
  obtain ⟨rfl, M36, K36_⟩ := hQ36
  have zz36 := K36_.1
  have O36 := O34.keep K36_ all0
  have K36 := K34.trans K36_ all0
  have N36 := Fr.app N35 M36
  refine og T36 (mkF m 83 #[rv a, rv o0, rv o1, rv o2, rv o3, rv o4] []) (fun t_ k_ => st36.trans k_) ?_
  refine og T36 (mkF m 84 #[rv a, rv o0, rv o1, rv o2, rv o3, rv o4] [(.ref a)]) (fun t_ k_ => XS.aloadN X36.here hx rfl (hb hby d_prog_20_1_83) rfl rfl k_) ?_
  refine og T36 (mkF m 85 #[rv a, rv o0, rv o1, rv o2, rv o3, rv o4] [(.ref o0), (.ref a)]) (fun t_ k_ => XS.aloadN X36.here hx rfl (hb hby d_prog_20_1_84) rfl rfl k_) ?_
  have ff43 := ((((((((((F_street_a.ext E2).keep K4_ nin0).ext E10).keep K12_ nin0).ext E18).keep K20_ nin0).ext E26).keep K28_ nin0).ext E34).keep K36_ nin0)
  have ff44 := ((((((((((E_a.ext E2).keep K4_).ext E10).keep K12_).ext E18).keep K20_).ext E26).keep K28_).ext E34).keep K36_)
  obtain ⟨T42, h42, X42, e42, W42, st42⟩ := putF X36 hx hZ hown (host := "") (Or.inl (own_w hw 174 rfl)) Via.refl rfl ff43 ff44 (Or.inr ⟨(own_w hw 175 rfl), rfl, hnm⟩) (own_w hw 27 rfl) (ty := (.object "java/util/Optional")) (by decide) rfl rfl (g := (mkF m 85 #[rv a, rv o0, rv o1, rv o2, rv o3, rv o4] [(.ref o0), (.ref a)])) rfl rfl (hb hby d_prog_20_1_85)
  have F42 := ff43.same W42
  have z42 := W42.size
  have N42 := Fr.snoc X42 N36 (show n0 ≤ a by omega)
  have O42 := O36.wr W42 (show n0 ≤ a by omega)
  have K42 := K36.wr W42 (Or.inl (List.mem_of_getElem? (i := 0) rfl))
  refine og T42 (mkF m 88 #[rv a, rv o0, rv o1, rv o2, rv o3, rv o4] []) (fun t_ k_ => st42 _ k_) ?_
  refine og T42 (mkF m 89 #[rv a, rv o0, rv o1, rv o2, rv o3, rv o4] [(.ref a)]) (fun t_ k_ => XS.aloadN X42.here hx rfl (hb hby d_prog_20_1_88) rfl rfl k_) ?_
  refine og T42 (mkF m 90 #[rv a, rv o0, rv o1, rv o2, rv o3, rv o4] [(.ref o1), (.ref a)]) (fun t_ k_ => XS.aloadN X42.here hx rfl (hb hby d_prog_20_1_89) rfl rfl k_) ?_
  have ff46 := (((((((((((F_houseNumber_a.ext E2).keep K4_ nin0).ext E10).keep K12_ nin0).ext E18).keep K20_ nin0).ext E26).keep K28_ nin0).ext E34).keep K36_ nin0).other W42 (Or.inr (sn_2 hw)))
  have ff47 := (ff44.wr W42)
  obtain ⟨T45, h45, X45, e45, W45, st45⟩ := putF X42 hx hZ hown (host := "") (Or.inl (own_w hw 176 rfl)) Via.refl e42 ff46 ff47 (Or.inr ⟨(own_w hw 177 rfl), rfl, hnm⟩) (own_w hw 27 rfl) (ty := (.object "java/util/Optional")) (by decide) rfl rfl (g := (mkF m 90 #[rv a, rv o0, rv o1, rv o2, rv o3, rv o4] [(.ref o1), (.ref a)])) rfl rfl (hb hby d_prog_20_1_90)
  have F45 := ff46.same W45
  have z45 := W45.size
  have N45 := Fr.snoc X45 N42 (show n0 ≤ a by omega)
  have O45 := O42.wr W45 (show n0 ≤ a by omega)
  have K45 := K42.wr W45 (Or.inl (List.mem_of_getElem? (i := 0) rfl))
  refine og T45 (mkF m 93 #[rv a, rv o0, rv o1, rv o2, rv o3, rv o4] []) (fun t_ k_ => st45 _ k_) ?_
  refine og T45 (mkF m 94 #[rv a, rv o0, rv o1, rv o2, rv o3, rv o4] [(.ref a)]) (fun t_ k_ => XS.aloadN X45.here hx rfl (hb hby d_prog_20_1_93) rfl rfl k_) ?_
  refine og T45 (mkF m 95 #[rv a, rv o0, rv o1, rv o2, rv o3, rv o4] [(.ref o2), (.ref a)]) (fun t_ k_ => XS.aloadN X45.here hx rfl (hb hby d_prog_20_1_94) rfl rfl k_) ?_
  have ff49 := ((((((((((((F_postalCode_a.ext E2).keep K4_ nin0).ext E10).keep K12_ nin0).ext E18).keep K20_ nin0).ext E26).keep K28_ nin0).ext E34).keep K36_ nin0).other W42 (Or.inr (sn_3 hw))).other W45 (Or.inr (sn_4 hw)))
  have ff50 := (ff47.wr W45)
  obtain ⟨T48, h48, X48, e48, W48, st48⟩ := putF X45 hx hZ hown (host := "") (Or.inl (own_w hw 178 rfl)) Via.refl e45 ff49 ff50 (Or.inr ⟨(own_w hw 179 rfl), rfl, hnm⟩) (own_w hw 27 rfl) (ty := (.object "java/util/Optional")) (by decide) rfl rfl (g := (mkF m 95 #[rv a, rv o0, rv o1, rv o2, rv o3, rv o4] [(.ref o2), (.ref a)])) rfl rfl (hb hby d_prog_20_1_95)
  have F48 := ff49.same W48
  have z48 := W48.size
  have N48 := Fr.snoc X48 N45 (show n0 ≤ a by omega)
  have O48 := O45.wr W48 (show n0 ≤ a by omega)
  have K48 := K45.wr W48 (Or.inl (List.mem_of_getElem? (i := 0) rfl))
  refine og T48 (mkF m 98 #[rv a, rv o0, rv o1, rv o2, rv o3, rv o4] []) (fun t_ k_ => st48 _ k_) ?_
  refine og T48 (mkF m 99 #[rv a, rv o0, rv o1, rv o2, rv o3, rv o4] [(.ref a)]) (fun t_ k_ => XS.aloadN X48.here hx rfl (hb hby d_prog_20_1_98) rfl rfl k_) ?_
  refine og T48 (mkF m 101 #[rv a, rv o0, rv o1, rv o2, rv o3, rv o4] [(.ref o3), (.ref a)]) (fun t_ k_ => XS.aload X48.here hx rfl (hb hby d_prog_20_1_99) rfl rfl k_) ?_
  have ff52 := (((((((((((((F_city_a.ext E2).keep K4_ nin0).ext E10).keep K12_ nin0).ext E18).keep K20_ nin0).ext E26).keep K28_ nin0).ext E34).keep K36_ nin0).other W42 (Or.inr (sn_5 hw))).other W45 (Or.inr (sn_6 hw))).other W48 (Or.inr (sn_7 hw)))
  have ff53 := (ff50.wr W48)
  obtain ⟨T51, h51, X51, e51, W51, st51⟩ := putF X48 hx hZ hown (host := "") (Or.inl (own_w hw 180 rfl)) Via.refl e48 ff52 ff53 (Or.inr ⟨(own_w hw 181 rfl), rfl, hnm⟩) (own_w hw 27 rfl) (ty := (.object "java/util/Optional")) (by decide) rfl rfl (g := (mkF m 101 #[rv a, rv o0, rv o1, rv o2, rv o3, rv o4] [(.ref o3), (.ref a)])) rfl rfl (hb hby d_prog_20_1_101)
  have F51 := ff52.same W51
  have z51 := W51.size
  have N51 := Fr.snoc X51 N48 (show n0 ≤ a by omega)
  have O51 := O48.wr W51 (show n0 ≤ a by omega)
  have K51 := K48.wr W51 (Or.inl (List.mem_of_getElem? (i := 0) rfl))
  refine og T51 (mkF m 104 #[rv a, rv o0, rv o1, rv o2, rv o3, rv o4] []) (fun t_ k_ => st51 _ k_) ?_
  refine og T51 (mkF m 105 #[rv a, rv o0, rv o1, rv o2, rv o3, rv o4] [(.ref a)]) (fun t_ k_ => XS.aloadN X51.here hx rfl (hb hby d_prog_20_1_104) rfl rfl k_) ?_
  refine og T51 (mkF m 107 #[rv a, rv o0, rv o1, rv o2, rv o3, rv o4] [(.ref o4), (.ref a)]) (fun t_ k_ => XS.aload X51.here hx rfl (hb hby d_prog_20_1_105) rfl rfl k_) ?_
  have ff55 := ((((((((((((((F_country_a.ext E2).keep K4_ nin0).ext E10).keep K12_ nin0).ext E18).keep K20_ nin0).ext E26).keep K28_ nin0).ext E34).keep K36_ nin0).other W42 (Or.inr (sn_8 hw))).other W45 (Or.inr (sn_9 hw))).other W48 (Or.inr (sn_10 hw))).other W51 (Or.inr (sn_11 hw)))
  have ff56 := (ff53.wr W51)
  obtain ⟨T54, h54, X54, e54, W54, st54⟩ := putF X51 hx hZ hown (host := "") (Or.inl (own_w hw 182 rfl)) Via.refl e51 ff55 ff56 (Or.inr ⟨(own_w hw 183 rfl), rfl, hnm⟩) (own_w hw 27 rfl) (ty := (.object "java/util/Optional")) (by decide) rfl rfl (g := (mkF m 107 #[rv a, rv o0, rv o1, rv o2, rv o3, rv o4] [(.ref o4), (.ref a)])) rfl rfl (hb hby d_prog_20_1_107)
  have F54 := ff55.same W54
  have z54 := W54.size
  have N54 := Fr.snoc X54 N51 (show n0 ≤ a by omega)
  have O54 := O51.wr W54 (show n0 ≤ a by omega)
  have K54 := K51.wr W54 (Or.inl (List.mem_of_getElem? (i := 0) rfl))
  refine og T54 (mkF m 110 #[rv a, rv o0, rv o1, rv o2, rv o3, rv o4] []) (fun t_ k_ => st54 _ k_) ?_
  have ff57 := ((((F42.other W45 (Or.inr (sn_12 hw))).other W48 (Or.inr (sn_13 hw))).other W51 (Or.inr (sn_14 hw))).other W54 (Or.inr (sn_15 hw)))
  have ff58 := (((F45.other W48 (Or.inr (sn_16 hw))).other W51 (Or.inr (sn_17 hw))).other W54 (Or.inr (sn_18 hw)))
  have ff59 := ((F48.other W51 (Or.inr (sn_19 hw))).other W54 (Or.inr (sn_20 hw)))
  have ff60 := (F51.other W54 (Or.inr (sn_21 hw)))
  exact own_outW X54 hS (show _ ≤ T54.heap.size by rw [e54]; omega) (v := none) (fun _ => rfl) hlk (fun fs hr => X54.returnOut hx hret (hb hby d_prog_20_1_110) hr) (Q := Q_rm_adr Z a o0 o1 o2 o3 o4 nn0 P0 f0 cK0 nn1 P1 f1 cK1 nn2 P2 f2 cK2 nn3 P3 f3 cK3 nn4 P4 f4 cK4 cz ta ka ci fm h0 n0) (by rw [e54]; exact ⟨rfl, N54, K54, ff57, ff58, ff59, ff60, F54⟩) (by decide) (by decide)
def own_B (b : Int32) : Prop := ¬ (b &&& (1 : Int32)) = (0 : Int32) ∨ ¬ (b &&& (2 : Int32)) = (0 : Int32) ∨ ¬ (b &&& (4 : Int32)) = (0 : Int32) ∨ ¬ (b &&& (8 : Int32)) = (0 : Int32) ∨ ¬ (b &&& (16 : Int32)) = (0 : Int32)
instance (b : Int32) : Decidable (own_B b) := by unfold own_B; infer_instance
theorem own_B1 {y : Int32} (h : 0 ≤ y.toInt ∧ y.toInt < 32) (n : ¬ y = (0 : Int32)) : own_B y := by
  have t : ∀ k : Fin 32, k.val ≠ 0 → own_B (Int32.ofNat k.val) := by decide +kernel
  obtain ⟨k, hk⟩ : ∃ k : Nat, y.toInt = k := ⟨y.toInt.toNat, by omega⟩
  have e : y = Int32.ofNat k := by
    apply Int32.toInt_inj.mp
    rw [hk, Int32.toInt_ofNat_of_lt (by omega)]
  rw [e]
  refine t ⟨k, by omega⟩ ?_
  rintro q
  apply n; rw [e]; have q' : k = 0 := q
  rw [q']; rfl
theorem own_bits (v : Int32) : own_B (if (v &&& (31 : Int32)) = (0 : Int32) then ((1 : Int32) <<< ((((v.toUInt32 >>> ((5 : Int32) &&& 31).toUInt32).toInt32) % (5 : Int32)) &&& 31)) else (v &&& (31 : Int32))) := by
  split
  · have u := c_iushr v 5 5 (by decide) (by decide)
    generalize g : ((v.toUInt32 >>> ((5 : Int32) &&& 31).toUInt32).toInt32) = z at u ⊢
    have e5 : (5 : Int32).toInt = 5 := rfl
    have e := (c_iremV z (5 : Int32)).1 (by omega) (by decide)
    generalize g2 : z % (5 : Int32) = r at e ⊢
    have h : r.toInt = 0 ∨ r.toInt = 1 ∨ r.toInt = 2 ∨ r.toInt = 3 ∨ r.toInt = 4 := by omega
    rcases h with h | h | h | h | h
    · rw [show r = (0 : Int32) from Int32.toInt_inj.mp h]; decide
    · rw [show r = (1 : Int32) from Int32.toInt_inj.mp h]; decide
    · rw [show r = (2 : Int32) from Int32.toInt_inj.mp h]; decide
    · rw [show r = (3 : Int32) from Int32.toInt_inj.mp h]; decide
    · rw [show r = (4 : Int32) from Int32.toInt_inj.mp h]; decide
  · next h =>
    have q := c_mask v (31 : Int32) 5 (by decide) (by decide)
    exact own_B1 (by omega) h

theorem own_rng (x : Int32) : ¬ ((x &&& (255 : Int32)).toUInt32.toUInt16.toUInt32.toInt32) < (0 : Int32) ∧ ¬ (255 : Int32) < ((x &&& (255 : Int32)).toUInt32.toUInt16.toUInt32.toInt32) := by
  rw [i2c_mask]; exact own_and255 x
theorem pd_23 : parseMethodDescriptor "(III)Ljava/util/Optional;" = some ⟨[.int, .int, .int], some (.object "java/util/Optional")⟩ := by decide +kernel
theorem pd_24 : parseMethodDescriptor "(Ljava/util/Optional;Ljava/util/Optional;Ljava/util/Optional;Ljava/util/Optional;Ljava/util/Optional;)V" = some ⟨[(.object "java/util/Optional"), (.object "java/util/Optional"), (.object "java/util/Optional"), (.object "java/util/Optional"), (.object "java/util/Optional")], none⟩ := by decide +kernel
theorem ef_39 (m : MethodId) (v0 : Int32) (v1 : Int32) (v2 : Int32) (v3 : Int32) (v4 : Int32) (v5 : Int32) : entryFrame m #[(.int v0), (.int v1), (.int v2), (.int v3), (.int v4), (.int v5)] maxLocals = mkF m 0 #[iv v0, iv v1, iv v2, iv v3, iv v4, iv v5, .unset, .unset, .unset] [] := by first | (simp [entryFrame, mkF, argsToLocals, Value.category, maxLocals]; done) | rfl
def Q_rm_law (Z : State) (v0 : Int32) (v1 : Int32) (v2 : Int32) (v3 : Int32) (v4 : Int32) (v5 : Int32) (cz : Int32) (ta : Nat) (ka : ClassId) (ci : Nat) (fm : Value) (em : Nat) (f0 : Nat) (cK0 : ClassId) (f1 : Nat) (cK1 : ClassId) (f2 : Nat) (cK2 : ClassId) (f3 : Nat) (cK3 : ClassId) (f4 : Nat) (cK4 : ClassId) (h0 : Heap) (n0 : Nat) (vv : Option Value) (h : Heap) (LL : List Loc) : Prop := vv = some (.int 1) ∧ Fr n0 LL
set_option maxRecDepth 65536 in
set_option maxHeartbeats 40000000 in
theorem rm_law (l : Launch) (Z : State) (a0 : Array Value) (hw : ∀ d ∈ tables_1, d.before a0 Z = true) (ws : List Jvm.Cond) (v0 : Int32) (v1 : Int32) (v2 : Int32) (v3 : Int32) (v4 : Int32) (v5 : Int32) (cz : Int32) (ta : Nat) (ka : ClassId) (ci : Nat) (fm : Value) (em : Nat) (f0 : Nat) (cK0 : ClassId) (f1 : Nat) (cK1 : ClassId) (f2 : Nat) (cK2 : ClassId) (f3 : Nat) (cK3 : ClassId) (f4 : Nat) (cK4 : ClassId) (h0 : Heap) (n0 : Nat) (Z0 : n0 ≤ h0.size) (O0 : Old Z n0 h0) (S_COMPACT_STRINGS : Sta Z Z.heap "java/lang/String" "COMPACT_STRINGS" "Z" (.int cz)) (hcz : ¬ cz = (0 : Int32)) (S_A : Sta Z Z.heap "java/lang/CharacterDataLatin1" "A" "[I" (.ref ta)) (TA : Arv Z h0 ta ka .int (256 : Int32) (own_A.map Value.int) (.int (0 : Int32))) (S_instance : Sta Z Z.heap "java/lang/CharacterDataLatin1" "instance" "Ljava/lang/CharacterDataLatin1;" (.ref ci)) (EC : Exa Z h0 ci "java/lang/CharacterDataLatin1") (rf : fm.isRef = true) (S_SIOOBE_FORMATTER : Sta Z Z.heap "jdk/internal/util/Preconditions" "SIOOBE_FORMATTER" "Ljava/util/function/BiFunction;" fm) (S_EMPTY : Sta Z Z.heap "java/util/Optional" "EMPTY" "Ljava/util/Optional;" (.ref em)) (EE : Exa Z h0 em "java/util/Optional") (FE : Fld Z h0 em "java/util/Optional" "value" "Ljava/lang/Object;" .null) (hs0 : own_Site Z ym_38 11 f0) (hmd0 : Jvm.LamKit.Made Z own_host own_sh0 cK0) (hfn0 : own_Fn h0 f0 cK0) (hs1 : own_Site Z ym_38 26 f1) (hmd1 : Jvm.LamKit.Made Z own_host own_sh1 cK1) (hfn1 : own_Fn h0 f1 cK1) (hs2 : own_Site Z ym_38 41 f2) (hmd2 : Jvm.LamKit.Made Z own_host own_sh2 cK2) (hfn2 : own_Fn h0 f2 cK2) (hs3 : own_Site Z ym_38 58 f3) (hmd3 : Jvm.LamKit.Made Z own_host own_sh3 cK3) (hfn3 : own_Fn h0 f3 cK3) (hs4 : own_Site Z ym_38 75 f4) (hmd4 : Jvm.LamKit.Made Z own_host own_sh4 cK4) (hfn4 : own_Fn h0 f4 cK4) :
    MetFree l x (head1 (Jvm.Cond.code x code maxLocals ret :: ws) room_1) (fun aa UU => aa = #[(.int v0), (.int v1), (.int v2), (.int v3), (.int v4), (.int v5)] ∧ Z.Warmed39 UU.vm ∧ UU.heap = h0) (fun _ _ _ _ _ => True) (fun _ UU oo UU' => ∃ vv LL, oo = .returned vv ∧ Q_rm_law Z v0 v1 v2 v3 v4 v5 cz ta ka ci fm em f0 cK0 f1 cK1 f2 cK2 f3 cK3 f4 cK4 h0 n0 vv UU'.heap LL ∧ ReturnedEndW UU oo UU' LL room_1.cells room_1.slots) := by
  refine MetFree.of_bodySF (plainFor_of_name pn_9) hisR ?_
  intro p e s m args below meth c s₁ Bd hml0 hP hK
  obtain ⟨rfl, hZ, hh⟩ := hP
  have hx := Bd.exec
  have hby := Bd.bytes
  have hret := Bd.returns
  have hml : c.maxLocals = 9 := hml0
  have hown : s.vm.findClass "com/example/labmeld/labmeld/finding/AddressCheckAnyPartPinLaw" = some m.cls := findClass_of_methodNamed Bd.named
  have hnm := (name_of_methodNamed Bd.named Bd.method).1
  have hlk : meth.locks = false := BodyLoose.notSynchronized Bd
  have X0 : Stand p l e room_1 (s.setVm s.vm) m #[(.int v0), (.int v1), (.int v2), (.int v3), (.int v4), (.int v5)] below meth c s₁ [] 0 0 := Stand.of_body Bd
  have e0 : s₁.heap = h0 := by rw [← hh, Bd.state]; rfl
  have N0 := Fr.nil n0
  have hS : s.Since s.vm 0 := own_since s
  have hk : 0 ≤ h0.size := Nat.zero_le _
  have hwS : ∀ a ∈ Bundle.stringAtoms, a.before a0 Z = true := fun d hd => hw d ((by decide +kernel : ∀ d ∈ Bundle.stringAtoms, d ∈ tables_1) d hd)
  have lt_TA := own_ltN TA.lt
  have lt_EC := own_ltN EC.lt
  have lt_EE := own_ltN EE.lt
  have lt_FE := own_ltN FE.lt
  refine own_in (ef_39 m v0 v1 v2 v3 v4 v5) ?_
  refine og s₁ (mkF m 1 #[iv v0, iv v1, iv v2, iv v3, iv v4, iv v5, .unset, .unset, .unset] [(.int v0)]) (fun t_ k_ => XS.iloadN X0.here hx rfl (hb hby at_0) rfl k_) ?_
  refine og s₁ (mkF m 3 #[iv v0, iv v1, iv v2, iv v3, iv v4, iv v5, .unset, .unset, .unset] [(.int 31), (.int v0)]) (fun t_ k_ => XS.bipush X0.here hx rfl (hb hby at_1) k_) ?_
  refine og s₁ (mkF m 4 #[iv v0, iv v1, iv v2, iv v3, iv v4, iv v5, .unset, .unset, .unset] [(.int (v0 &&& (31 : Int32)))]) (fun t_ k_ => XS.iand X0.here hx rfl (hb hby at_3) rfl k_) ?_
  refine og s₁ (mkF m 6 #[iv v0, iv v1, iv v2, iv v3, iv v4, iv v5, iv (v0 &&& (31 : Int32)), .unset, .unset] []) (fun t_ k_ => XS.istore X0.here hx rfl (hb hby at_4) rfl (l' := #[iv v0, iv v1, iv v2, iv v3, iv v4, iv v5, iv (v0 &&& (31 : Int32)), .unset, .unset]) rfl k_) ?_
  refine og s₁ (mkF m 8 #[iv v0, iv v1, iv v2, iv v3, iv v4, iv v5, iv (v0 &&& (31 : Int32)), .unset, .unset] [(.int (v0 &&& (31 : Int32)))]) (fun t_ k_ => XS.iload X0.here hx rfl (hb hby at_6) rfl k_) ?_
  refine own_go (T' := s₁) (g' := (mkF m 20 #[iv v0, iv v1, iv v2, iv v3, iv v4, iv v5, iv (if (v0 &&& (31 : Int32)) = (0 : Int32) then ((1 : Int32) <<< ((((v0.toUInt32 >>> ((5 : Int32) &&& 31).toUInt32).toInt32) % (5 : Int32)) &&& 31)) else (v0 &&& (31 : Int32))), .unset, .unset] [])) (fun t_ k_ => ?_) ?_
  · show Steps p.tables e below (s₁.setTop (mkF m 8 #[iv v0, iv v1, iv v2, iv v3, iv v4, iv v5, iv (v0 &&& (31 : Int32)), .unset, .unset] [(.int (v0 &&& (31 : Int32)))])) t_
    by_cases hq1_ : (v0 &&& (31 : Int32)) = (0 : Int32)
    · skip
      refine os s₁ (mkF m 11 #[iv v0, iv v1, iv v2, iv v3, iv v4, iv v5, iv (v0 &&& (31 : Int32)), .unset, .unset] []) (fun k_ => XS.ifNo X0.here hx rfl (hb hby at_8) rfl ((if0 _ _).trans (teq hq1_).2) k_) ?_
      refine os s₁ (mkF m 12 #[iv v0, iv v1, iv v2, iv v3, iv v4, iv v5, iv (v0 &&& (31 : Int32)), .unset, .unset] [(.int 1)]) (fun k_ => XS.iconst X0.here hx rfl (hb hby at_11) k_) ?_
      refine os s₁ (mkF m 13 #[iv v0, iv v1, iv v2, iv v3, iv v4, iv v5, iv (v0 &&& (31 : Int32)), .unset, .unset] [(.int v0), (.int 1)]) (fun k_ => XS.iloadN X0.here hx rfl (hb hby at_12) rfl k_) ?_
      refine os s₁ (mkF m 14 #[iv v0, iv v1, iv v2, iv v3, iv v4, iv v5, iv (v0 &&& (31 : Int32)), .unset, .unset] [(.int 5), (.int v0), (.int 1)]) (fun k_ => XS.iconst X0.here hx rfl (hb hby at_13) k_) ?_
      refine os s₁ (mkF m 15 #[iv v0, iv v1, iv v2, iv v3, iv v4, iv v5, iv (v0 &&& (31 : Int32)), .unset, .unset] [(.int ((v0.toUInt32 >>> ((5 : Int32) &&& 31).toUInt32).toInt32)), (.int 1)]) (fun k_ => XS.iushr X0.here hx rfl (hb hby at_14) rfl k_) ?_
      refine os s₁ (mkF m 16 #[iv v0, iv v1, iv v2, iv v3, iv v4, iv v5, iv (v0 &&& (31 : Int32)), .unset, .unset] [(.int 5), (.int ((v0.toUInt32 >>> ((5 : Int32) &&& 31).toUInt32).toInt32)), (.int 1)]) (fun k_ => XS.iconst X0.here hx rfl (hb hby at_15) k_) ?_
      refine os s₁ (mkF m 17 #[iv v0, iv v1, iv v2, iv v3, iv v4, iv v5, iv (v0 &&& (31 : Int32)), .unset, .unset] [(.int (((v0.toUInt32 >>> ((5 : Int32) &&& 31).toUInt32).toInt32) % (5 : Int32))), (.int 1)]) (fun k_ => iremM (g := (mkF m 16 #[iv v0, iv v1, iv v2, iv v3, iv v4, iv v5, iv (v0 &&& (31 : Int32)), .unset, .unset] [(.int 5), (.int ((v0.toUInt32 >>> ((5 : Int32) &&& 31).toUInt32).toInt32)), (.int 1)])) X0 hx rfl (hb hby at_16) rfl (by decide) k_) ?_
      refine os s₁ (mkF m 18 #[iv v0, iv v1, iv v2, iv v3, iv v4, iv v5, iv (v0 &&& (31 : Int32)), .unset, .unset] [(.int ((1 : Int32) <<< ((((v0.toUInt32 >>> ((5 : Int32) &&& 31).toUInt32).toInt32) % (5 : Int32)) &&& 31)))]) (fun k_ => XS.ishl X0.here hx rfl (hb hby at_17) rfl k_) ?_
      refine os s₁ (mkF m 20 #[iv v0, iv v1, iv v2, iv v3, iv v4, iv v5, iv ((1 : Int32) <<< ((((v0.toUInt32 >>> ((5 : Int32) &&& 31).toUInt32).toInt32) % (5 : Int32)) &&& 31)), .unset, .unset] []) (fun k_ => XS.istore X0.here hx rfl (hb hby at_18) rfl (l' := #[iv v0, iv v1, iv v2, iv v3, iv v4, iv v5, iv ((1 : Int32) <<< ((((v0.toUInt32 >>> ((5 : Int32) &&& 31).toUInt32).toInt32) % (5 : Int32)) &&& 31)), .unset, .unset]) rfl k_) ?_
      rw [show (if (v0 &&& (31 : Int32)) = (0 : Int32) then ((1 : Int32) <<< ((((v0.toUInt32 >>> ((5 : Int32) &&& 31).toUInt32).toInt32) % (5 : Int32)) &&& 31)) else (v0 &&& (31 : Int32))) = ((1 : Int32) <<< ((((v0.toUInt32 >>> ((5 : Int32) &&& 31).toUInt32).toInt32) % (5 : Int32)) &&& 31)) from (if_pos hq1_)] at k_
      exact k_
    · skip
      refine os s₁ (mkF m 20 #[iv v0, iv v1, iv v2, iv v3, iv v4, iv v5, iv (v0 &&& (31 : Int32)), .unset, .unset] []) (fun k_ => XS.ifYes X0.here hx rfl (pc0 := 8) (pc' := 20) rfl (hb hby at_8) rfl ((if0 _ _).trans (feq hq1_).2) (by decide) (by decide) k_) ?_
      rw [show (if (v0 &&& (31 : Int32)) = (0 : Int32) then ((1 : Int32) <<< ((((v0.toUInt32 >>> ((5 : Int32) &&& 31).toUInt32).toInt32) % (5 : Int32)) &&& 31)) else (v0 &&& (31 : Int32))) = (v0 &&& (31 : Int32)) from (if_neg hq1_)] at k_
      exact k_
  have hP : own_B (if (v0 &&& (31 : Int32)) = (0 : Int32) then ((1 : Int32) <<< ((((v0.toUInt32 >>> ((5 : Int32) &&& 31).toUInt32).toInt32) % (5 : Int32)) &&& 31)) else (v0 &&& (31 : Int32))) := own_bits v0
  generalize g_b : (if (v0 &&& (31 : Int32)) = (0 : Int32) then ((1 : Int32) <<< ((((v0.toUInt32 >>> ((5 : Int32) &&& 31).toUInt32).toInt32) % (5 : Int32)) &&& 31)) else (v0 &&& (31 : Int32))) = bits at hP ⊢
  refine og s₁ (mkF m 21 #[iv v0, iv v1, iv v2, iv v3, iv v4, iv v5, iv bits, .unset, .unset] [(.int v0)]) (fun t_ k_ => XS.iloadN X0.here hx rfl (hb hby at_20) rfl k_) ?_
  refine og s₁ (mkF m 23 #[iv v0, iv v1, iv v2, iv v3, iv v4, iv v5, iv bits, .unset, .unset] [(.int 8), (.int v0)]) (fun t_ k_ => XS.bipush X0.here hx rfl (hb hby at_21) k_) ?_
  refine og s₁ (mkF m 24 #[iv v0, iv v1, iv v2, iv v3, iv v4, iv v5, iv bits, .unset, .unset] [(.int ((v0.toUInt32 >>> ((8 : Int32) &&& 31).toUInt32).toInt32))]) (fun t_ k_ => XS.iushr X0.here hx rfl (hb hby at_23) rfl k_) ?_
  refine og s₁ (mkF m 27 #[iv v0, iv v1, iv v2, iv v3, iv v4, iv v5, iv bits, .unset, .unset] [(.int 255), (.int ((v0.toUInt32 >>> ((8 : Int32) &&& 31).toUInt32).toInt32))]) (fun t_ k_ => XS.sipush X0.here hx rfl (hb hby at_24) k_) ?_
  refine og s₁ (mkF m 28 #[iv v0, iv v1, iv v2, iv v3, iv v4, iv v5, iv bits, .unset, .unset] [(.int (((v0.toUInt32 >>> ((8 : Int32) &&& 31).toUInt32).toInt32) &&& (255 : Int32)))]) (fun t_ k_ => XS.iand X0.here hx rfl (hb hby at_27) rfl k_) ?_
  refine og s₁ (mkF m 29 #[iv v0, iv v1, iv v2, iv v3, iv v4, iv v5, iv bits, .unset, .unset] [(.int ((((v0.toUInt32 >>> ((8 : Int32) &&& 31).toUInt32).toInt32) &&& (255 : Int32)).toUInt32.toUInt16.toUInt32.toInt32))]) (fun t_ k_ => XS.i2c X0.here hx rfl (hb hby at_28) rfl k_) ?_
  obtain ⟨_, _, ⟨T2, L2, k2, n2⟩, -, X2, ⟨Lc2, hQ2, l2, y2, z2⟩, st2⟩ := Jvm.LawKit.callS X0 hx (y := ym_3) hown (mvT hZ (own_w hw 0 rfl)) (mvT hZ (own_w hw 1 rfl)) (mvT hZ (own_w hw 2 rfl)) (mvT hZ (own_w hw 3 rfl)) (by decide) (backOf (W := 0) (rm_svo l Z a0 hw [] ((((v0.toUInt32 >>> ((8 : Int32) &&& 31).toUInt32).toInt32) &&& (255 : Int32)).toUInt32.toUInt16.toUInt32.toInt32) cz h0 n0 (show n0 ≤ h0.size by omega) O0 S_COMPACT_STRINGS hcz (own_rng _)) hZ (own_w hw 3 rfl) (own_w hw 2 rfl) (by decide) (by decide)) (g := (mkF m 29 #[iv v0, iv v1, iv v2, iv v3, iv v4, iv v5, iv bits, .unset, .unset] [(.int ((((v0.toUInt32 >>> ((8 : Int32) &&& 31).toUInt32).toInt32) &&& (255 : Int32)).toUInt32.toUInt16.toUInt32.toInt32))])) rfl (by rw [hml]; rfl) (argsL := [(.int ((((v0.toUInt32 >>> ((8 : Int32) &&& 31).toUInt32).toInt32) &&& (255 : Int32)).toUInt32.toUInt16.toUInt32.toInt32))]) (rest := []) (lenOf pd_19 rfl) rfl (by show 2 * 0 + _ ≤ _; exact Nat.le_of_eq rfl) (hb hby at_29) (fun _ _ => ⟨rfl, e0, (by decide : 0 + 2 ≤ _), (by decide : 0 + 5 ≤ _)⟩)
  dsimp only [Pt.U, Pt.locs, Pt.cells, Pt.slots] at X2 l2 y2 z2 st2 hQ2
  replace l2 := l2.symm; replace y2 := y2.symm; replace z2 := z2.symm; subst l2 y2 z2
  obtain ⟨b2, rfl, M2, K2_, ⟨lob2, hib2⟩, f2_0⟩ := hQ2
  have zz2 := K2_.1
  have O2 := O0.keep K2_ all0
  have N2 := Fr.app N0 M2
  have ltsf2_0 := own_ltN f2_0.lt
  refine og T2 (mkF m 32 #[iv v0, iv v1, iv v2, iv v3, iv v4, iv v5, iv bits, .unset, .unset] [(.ref b2)]) (fun t_ k_ => st2 _ k_) ?_
  refine og T2 (mkF m 34 #[iv v0, iv v1, iv v2, iv v3, iv v4, iv v5, iv bits, rv b2, .unset] []) (fun t_ k_ => XS.astore X2.here hx rfl (hb hby at_32) rfl rfl (l' := #[iv v0, iv v1, iv v2, iv v3, iv v4, iv v5, iv bits, rv b2, .unset]) rfl k_) ?_
  obtain ⟨T3, h3, X3, e3, E3, A3, D3, -, st3⟩ := newO X2 hx hZ hown (own_w hw 26 rfl) (own_w hw 27 rfl) (own_w hw 28 rfl) rfl (g := (mkF m 34 #[iv v0, iv v1, iv v2, iv v3, iv v4, iv v5, iv bits, rv b2, .unset] [])) rfl (hb hby at_34) (by decide) (by decide)
  obtain ⟨b3, g3⟩ : ∃ z, z = T2.heap.size := ⟨_, rfl⟩
  rw [← g3] at A3 D3 st3
  have l3 := own_ltN A3.lt
  have z3 := E3.1
  have O3 := O2.ext E3
  have F3_street : Fld Z h3 b3 "com/example/labmeld/labmeld/finding/Finding$Address" "street" "Ljava/util/Optional;" .null := D3 (Or.inr (own_w hw 175 rfl)) (ty := (.object "java/util/Optional")) (by decide)
  have F3_houseNumber : Fld Z h3 b3 "com/example/labmeld/labmeld/finding/Finding$Address" "houseNumber" "Ljava/util/Optional;" .null := D3 (Or.inr (own_w hw 177 rfl)) (ty := (.object "java/util/Optional")) (by decide)
  have F3_postalCode : Fld Z h3 b3 "com/example/labmeld/labmeld/finding/Finding$Address" "postalCode" "Ljava/util/Optional;" .null := D3 (Or.inr (own_w hw 179 rfl)) (ty := (.object "java/util/Optional")) (by decide)
  have F3_city : Fld Z h3 b3 "com/example/labmeld/labmeld/finding/Finding$Address" "city" "Ljava/util/Optional;" .null := D3 (Or.inr (own_w hw 181 rfl)) (ty := (.object "java/util/Optional")) (by decide)
  have F3_country : Fld Z h3 b3 "com/example/labmeld/labmeld/finding/Finding$Address" "country" "Ljava/util/Optional;" .null := D3 (Or.inr (own_w hw 183 rfl)) (ty := (.object "java/util/Optional")) (by decide)
  refine og T3 (mkF m 37 #[iv v0, iv v1, iv v2, iv v3, iv v4, iv v5, iv bits, rv b2, .unset] [(.ref b3)]) (fun t_ k_ => st3 _ k_) ?_
  refine og T3 (mkF m 38 #[iv v0, iv v1, iv v2, iv v3, iv v4, iv v5, iv bits, rv b2, .unset] [(.ref b3), (.ref b3)]) (fun t_ k_ => XS.dup X3.here hx rfl (hb hby at_37) rfl rfl k_) ?_
  refine og T3 (mkF m 40 #[iv v0, iv v1, iv v2, iv v3, iv v4, iv v5, iv bits, rv b2, .unset] [(.int bits), (.ref b3), (.ref b3)]) (fun t_ k_ => XS.iload X3.here hx rfl (hb hby at_38) rfl k_) ?_
  refine og T3 (mkF m 41 #[iv v0, iv v1, iv v2, iv v3, iv v4, iv v5, iv bits, rv b2, .unset] [(.int 1), (.int bits), (.ref b3), (.ref b3)]) (fun t_ k_ => XS.iconst X3.here hx rfl (hb hby at_40) k_) ?_
  refine og T3 (mkF m 42 #[iv v0, iv v1, iv v2, iv v3, iv v4, iv v5, iv bits, rv b2, .unset] [(.int v1), (.int 1), (.int bits), (.ref b3), (.ref b3)]) (fun t_ k_ => XS.iloadN X3.here hx rfl (hb hby at_41) rfl k_) ?_
  have ff5 := ((EE.keep K2_).ext E3)
  have ff6 := ((FE.keep K2_ nin0).ext E3)
  obtain ⟨_, _, ⟨T4, L4, k4, n4⟩, -, X4, ⟨Lc4, hQ4, l4, y4, z4⟩, st4⟩ := Jvm.LawKit.callS X3 hx (y := ym_34) hown (mvT hZ (own_w hw 29 rfl)) (mvT hZ (own_w hw 30 rfl)) (mvT hZ (own_w hw 31 rfl)) (mvT hZ (own_w hw 32 rfl)) (by decide) (backOf (W := 2) (rm_part l Z a0 hw [] bits (1 : Int32) v1 em cz h3 n0 (show n0 ≤ h3.size by omega) O3 S_EMPTY S_COMPACT_STRINGS hcz ff5 ff6) hZ (own_w hw 32 rfl) (own_w hw 31 rfl) (by decide) (by decide)) (g := (mkF m 42 #[iv v0, iv v1, iv v2, iv v3, iv v4, iv v5, iv bits, rv b2, .unset] [(.int v1), (.int 1), (.int bits), (.ref b3), (.ref b3)])) rfl (by rw [hml]; rfl) (argsL := [(.int bits), (.int 1), (.int v1)]) (rest := [(.ref b3), (.ref b3)]) (lenOf pd_23 rfl) rfl (by show 2 * 0 + _ ≤ _; exact Nat.le_of_eq rfl) (hb hby at_42) (fun _ _ => ⟨rfl, e3, (by decide : 3 + 3 ≤ _), (by decide : 10 + 6 ≤ _)⟩)
  dsimp only [Pt.U, Pt.locs, Pt.cells, Pt.slots] at X4 l4 y4 z4 st4 hQ4
  replace l4 := l4.symm; replace y4 := y4.symm; replace z4 := z4.symm; subst l4 y4 z4
  obtain ⟨o4, rfl, M4, K4_, f4_0⟩ := hQ4
  have zz4 := K4_.1
  have O4 := O3.keep K4_ all0
  have N4 := Fr.app N2 M4
  have ltsf4_0 := own_ltN f4_0.lt
  refine og T4 (mkF m 45 #[iv v0, iv v1, iv v2, iv v3, iv v4, iv v5, iv bits, rv b2, .unset] [(.ref o4), (.ref b3), (.ref b3)]) (fun t_ k_ => st4 _ k_) ?_
  refine og T4 (mkF m 47 #[iv v0, iv v1, iv v2, iv v3, iv v4, iv v5, iv bits, rv b2, .unset] [(.int bits), (.ref o4), (.ref b3), (.ref b3)]) (fun t_ k_ => XS.iload X4.here hx rfl (hb hby at_45) rfl k_) ?_
  refine og T4 (mkF m 48 #[iv v0, iv v1, iv v2, iv v3, iv v4, iv v5, iv bits, rv b2, .unset] [(.int 2), (.int bits), (.ref o4), (.ref b3), (.ref b3)]) (fun t_ k_ => XS.iconst X4.here hx rfl (hb hby at_47) k_) ?_
  refine og T4 (mkF m 49 #[iv v0, iv v1, iv v2, iv v3, iv v4, iv v5, iv bits, rv b2, .unset] [(.int v2), (.int 2), (.int bits), (.ref o4), (.ref b3), (.ref b3)]) (fun t_ k_ => XS.iloadN X4.here hx rfl (hb hby at_48) rfl k_) ?_
  have ff8 := (ff5.keep K4_)
  have ff9 := (ff6.keep K4_ nin0)
  obtain ⟨_, _, ⟨T7, L7, k7, n7⟩, -, X7, ⟨Lc7, hQ7, l7, y7, z7⟩, st7⟩ := Jvm.LawKit.callS X4 hx (y := ym_34) hown (mvT hZ (own_w hw 29 rfl)) (mvT hZ (own_w hw 30 rfl)) (mvT hZ (own_w hw 31 rfl)) (mvT hZ (own_w hw 32 rfl)) (by decide) (backOf (W := 3) (rm_part l Z a0 hw [] bits (2 : Int32) v2 em cz T4.heap n0 (show n0 ≤ T4.heap.size by omega) O4 S_EMPTY S_COMPACT_STRINGS hcz ff8 ff9) hZ (own_w hw 32 rfl) (own_w hw 31 rfl) (by decide) (by decide)) (g := (mkF m 49 #[iv v0, iv v1, iv v2, iv v3, iv v4, iv v5, iv bits, rv b2, .unset] [(.int v2), (.int 2), (.int bits), (.ref o4), (.ref b3), (.ref b3)])) rfl (by rw [hml]; rfl) (argsL := [(.int bits), (.int 2), (.int v2)]) (rest := [(.ref o4), (.ref b3), (.ref b3)]) (lenOf pd_23 rfl) rfl (by show 2 * 0 + _ ≤ _; exact Nat.le_of_eq rfl) (hb hby at_49) (fun _ _ => ⟨rfl, rfl, (by decide : 6 + 3 ≤ _), (by decide : 16 + 6 ≤ _)⟩)
  dsimp only [Pt.U, Pt.locs, Pt.cells, Pt.slots] at X7 l7 y7 z7 st7 hQ7
  replace l7 := l7.symm; replace y7 := y7.symm; replace z7 := z7.symm; subst l7 y7 z7
  obtain ⟨o7, rfl, M7, K7_, f7_0⟩ := hQ7
  have zz7 := K7_.1
  have O7 := O4.keep K7_ all0
  have N7 := Fr.app N4 M7
  have ltsf7_0 := own_ltN f7_0.lt
  refine og T7 (mkF m 52 #[iv v0, iv v1, iv v2, iv v3, iv v4, iv v5, iv bits, rv b2, .unset] [(.ref o7), (.ref o4), (.ref b3), (.ref b3)]) (fun t_ k_ => st7 _ k_) ?_
  refine og T7 (mkF m 54 #[iv v0, iv v1, iv v2, iv v3, iv v4, iv v5, iv bits, rv b2, .unset] [(.int bits), (.ref o7), (.ref o4), (.ref b3), (.ref b3)]) (fun t_ k_ => XS.iload X7.here hx rfl (hb hby at_52) rfl k_) ?_
  refine og T7 (mkF m 55 #[iv v0, iv v1, iv v2, iv v3, iv v4, iv v5, iv bits, rv b2, .unset] [(.int 4), (.int bits), (.ref o7), (.ref o4), (.ref b3), (.ref b3)]) (fun t_ k_ => XS.iconst X7.here hx rfl (hb hby at_54) k_) ?_
  refine og T7 (mkF m 56 #[iv v0, iv v1, iv v2, iv v3, iv v4, iv v5, iv bits, rv b2, .unset] [(.int v3), (.int 4), (.int bits), (.ref o7), (.ref o4), (.ref b3), (.ref b3)]) (fun t_ k_ => XS.iloadN X7.here hx rfl (hb hby at_55) rfl k_) ?_
  have ff11 := (ff8.keep K7_)
  have ff12 := (ff9.keep K7_ nin0)
  obtain ⟨_, _, ⟨T10, L10, k10, n10⟩, -, X10, ⟨Lc10, hQ10, l10, y10, z10⟩, st10⟩ := Jvm.LawKit.callS X7 hx (y := ym_34) hown (mvT hZ (own_w hw 29 rfl)) (mvT hZ (own_w hw 30 rfl)) (mvT hZ (own_w hw 31 rfl)) (mvT hZ (own_w hw 32 rfl)) (by decide) (backOf (W := 4) (rm_part l Z a0 hw [] bits (4 : Int32) v3 em cz T7.heap n0 (show n0 ≤ T7.heap.size by omega) O7 S_EMPTY S_COMPACT_STRINGS hcz ff11 ff12) hZ (own_w hw 32 rfl) (own_w hw 31 rfl) (by decide) (by decide)) (g := (mkF m 56 #[iv v0, iv v1, iv v2, iv v3, iv v4, iv v5, iv bits, rv b2, .unset] [(.int v3), (.int 4), (.int bits), (.ref o7), (.ref o4), (.ref b3), (.ref b3)])) rfl (by rw [hml]; rfl) (argsL := [(.int bits), (.int 4), (.int v3)]) (rest := [(.ref o7), (.ref o4), (.ref b3), (.ref b3)]) (lenOf pd_23 rfl) rfl (by show 2 * 0 + _ ≤ _; exact Nat.le_of_eq rfl) (hb hby at_56) (fun _ _ => ⟨rfl, rfl, (by decide : 9 + 3 ≤ _), (by decide : 22 + 6 ≤ _)⟩)
  dsimp only [Pt.U, Pt.locs, Pt.cells, Pt.slots] at X10 l10 y10 z10 st10 hQ10
  replace l10 := l10.symm; replace y10 := y10.symm; replace z10 := z10.symm; subst l10 y10 z10
  obtain ⟨o10, rfl, M10, K10_, f10_0⟩ := hQ10
  have zz10 := K10_.1
  have O10 := O7.keep K10_ all0
  have N10 := Fr.app N7 M10
  have ltsf10_0 := own_ltN f10_0.lt
  refine og T10 (mkF m 59 #[iv v0, iv v1, iv v2, iv v3, iv v4, iv v5, iv bits, rv b2, .unset] [(.ref o10), (.ref o7), (.ref o4), (.ref b3), (.ref b3)]) (fun t_ k_ => st10 _ k_) ?_
  refine og T10 (mkF m 61 #[iv v0, iv v1, iv v2, iv v3, iv v4, iv v5, iv bits, rv b2, .unset] [(.int bits), (.ref o10), (.ref o7), (.ref o4), (.ref b3), (.ref b3)]) (fun t_ k_ => XS.iload X10.here hx rfl (hb hby at_59) rfl k_) ?_
  refine og T10 (mkF m 63 #[iv v0, iv v1, iv v2, iv v3, iv v4, iv v5, iv bits, rv b2, .unset] [(.int 8), (.int bits), (.ref o10), (.ref o7), (.ref o4), (.ref b3), (.ref b3)]) (fun t_ k_ => XS.bipush X10.here hx rfl (hb hby at_61) k_) ?_
  refine og T10 (mkF m 65 #[iv v0, iv v1, iv v2, iv v3, iv v4, iv v5, iv bits, rv b2, .unset] [(.int v4), (.int 8), (.int bits), (.ref o10), (.ref o7), (.ref o4), (.ref b3), (.ref b3)]) (fun t_ k_ => XS.iload X10.here hx rfl (hb hby at_63) rfl k_) ?_
  have ff14 := (ff11.keep K10_)
  have ff15 := (ff12.keep K10_ nin0)
  obtain ⟨_, _, ⟨T13, L13, k13, n13⟩, -, X13, ⟨Lc13, hQ13, l13, y13, z13⟩, st13⟩ := Jvm.LawKit.callS X10 hx (y := ym_34) hown (mvT hZ (own_w hw 29 rfl)) (mvT hZ (own_w hw 30 rfl)) (mvT hZ (own_w hw 31 rfl)) (mvT hZ (own_w hw 32 rfl)) (by decide) (backOf (W := 5) (rm_part l Z a0 hw [] bits (8 : Int32) v4 em cz T10.heap n0 (show n0 ≤ T10.heap.size by omega) O10 S_EMPTY S_COMPACT_STRINGS hcz ff14 ff15) hZ (own_w hw 32 rfl) (own_w hw 31 rfl) (by decide) (by decide)) (g := (mkF m 65 #[iv v0, iv v1, iv v2, iv v3, iv v4, iv v5, iv bits, rv b2, .unset] [(.int v4), (.int 8), (.int bits), (.ref o10), (.ref o7), (.ref o4), (.ref b3), (.ref b3)])) rfl (by rw [hml]; rfl) (argsL := [(.int bits), (.int 8), (.int v4)]) (rest := [(.ref o10), (.ref o7), (.ref o4), (.ref b3), (.ref b3)]) (lenOf pd_23 rfl) rfl (by show 2 * 0 + _ ≤ _; exact Nat.le_of_eq rfl) (hb hby at_65) (fun _ _ => ⟨rfl, rfl, (by decide : 12 + 3 ≤ _), (by decide : 28 + 6 ≤ _)⟩)
  dsimp only [Pt.U, Pt.locs, Pt.cells, Pt.slots] at X13 l13 y13 z13 st13 hQ13
  replace l13 := l13.symm; replace y13 := y13.symm; replace z13 := z13.symm; subst l13 y13 z13
  obtain ⟨o13, rfl, M13, K13_, f13_0⟩ := hQ13
  have zz13 := K13_.1
  have O13 := O10.keep K13_ all0
  have N13 := Fr.app N10 M13
  have ltsf13_0 := own_ltN f13_0.lt
  refine og T13 (mkF m 68 #[iv v0, iv v1, iv v2, iv v3, iv v4, iv v5, iv bits, rv b2, .unset] [(.ref o13), (.ref o10), (.ref o7), (.ref o4), (.ref b3), (.ref b3)]) (fun t_ k_ => st13 _ k_) ?_
  refine og T13 (mkF m 70 #[iv v0, iv v1, iv v2, iv v3, iv v4, iv v5, iv bits, rv b2, .unset] [(.int bits), (.ref o13), (.ref o10), (.ref o7), (.ref o4), (.ref b3), (.ref b3)]) (fun t_ k_ => XS.iload X13.here hx rfl (hb hby at_68) rfl k_) ?_
  refine og T13 (mkF m 72 #[iv v0, iv v1, iv v2, iv v3, iv v4, iv v5, iv bits, rv b2, .unset] [(.int 16), (.int bits), (.ref o13), (.ref o10), (.ref o7), (.ref o4), (.ref b3), (.ref b3)]) (fun t_ k_ => XS.bipush X13.here hx rfl (hb hby at_70) k_) ?_
  refine og T13 (mkF m 74 #[iv v0, iv v1, iv v2, iv v3, iv v4, iv v5, iv bits, rv b2, .unset] [(.int v5), (.int 16), (.int bits), (.ref o13), (.ref o10), (.ref o7), (.ref o4), (.ref b3), (.ref b3)]) (fun t_ k_ => XS.iload X13.here hx rfl (hb hby at_72) rfl k_) ?_
  have ff17 := (ff14.keep K13_)
  have ff18 := (ff15.keep K13_ nin0)
  obtain ⟨_, _, ⟨T16, L16, k16, n16⟩, -, X16, ⟨Lc16, hQ16, l16, y16, z16⟩, st16⟩ := Jvm.LawKit.callS X13 hx (y := ym_34) hown (mvT hZ (own_w hw 29 rfl)) (mvT hZ (own_w hw 30 rfl)) (mvT hZ (own_w hw 31 rfl)) (mvT hZ (own_w hw 32 rfl)) (by decide) (backOf (W := 6) (rm_part l Z a0 hw [] bits (16 : Int32) v5 em cz T13.heap n0 (show n0 ≤ T13.heap.size by omega) O13 S_EMPTY S_COMPACT_STRINGS hcz ff17 ff18) hZ (own_w hw 32 rfl) (own_w hw 31 rfl) (by decide) (by decide)) (g := (mkF m 74 #[iv v0, iv v1, iv v2, iv v3, iv v4, iv v5, iv bits, rv b2, .unset] [(.int v5), (.int 16), (.int bits), (.ref o13), (.ref o10), (.ref o7), (.ref o4), (.ref b3), (.ref b3)])) rfl (by rw [hml]; rfl) (argsL := [(.int bits), (.int 16), (.int v5)]) (rest := [(.ref o13), (.ref o10), (.ref o7), (.ref o4), (.ref b3), (.ref b3)]) (lenOf pd_23 rfl) rfl (by show 2 * 0 + _ ≤ _; exact Nat.le_of_eq rfl) (hb hby at_74) (fun _ _ => ⟨rfl, rfl, (by decide : 15 + 3 ≤ _), (by decide : 34 + 6 ≤ _)⟩)
  dsimp only [Pt.U, Pt.locs, Pt.cells, Pt.slots] at X16 l16 y16 z16 st16 hQ16
  replace l16 := l16.symm; replace y16 := y16.symm; replace z16 := z16.symm; subst l16 y16 z16
  obtain ⟨o16, rfl, M16, K16_, f16_0⟩ := hQ16
  have zz16 := K16_.1
  have O16 := O13.keep K16_ all0
  have N16 := Fr.app N13 M16
  have ltsf16_0 := own_ltN f16_0.lt
  refine og T16 (mkF m 77 #[iv v0, iv v1, iv v2, iv v3, iv v4, iv v5, iv bits, rv b2, .unset] [(.ref o16), (.ref o13), (.ref o10), (.ref o7), (.ref o4), (.ref b3), (.ref b3)]) (fun t_ k_ => st16 _ k_) ?_
  have ff20 := (((((A3.keep K4_).keep K7_).keep K10_).keep K13_).keep K16_)
  have ff21 := (((((F3_street.keep K4_ nin0).keep K7_ nin0).keep K10_ nin0).keep K13_ nin0).keep K16_ nin0)
  have ff22 := (((((F3_houseNumber.keep K4_ nin0).keep K7_ nin0).keep K10_ nin0).keep K13_ nin0).keep K16_ nin0)
  have ff23 := (((((F3_postalCode.keep K4_ nin0).keep K7_ nin0).keep K10_ nin0).keep K13_ nin0).keep K16_ nin0)
  have ff24 := (((((F3_city.keep K4_ nin0).keep K7_ nin0).keep K10_ nin0).keep K13_ nin0).keep K16_ nin0)
  have ff25 := (((((F3_country.keep K4_ nin0).keep K7_ nin0).keep K10_ nin0).keep K13_ nin0).keep K16_ nin0)
  have ff26 := ((((f4_0.keep K7_ all0).keep K10_ all0).keep K13_ all0).keep K16_ all0)
  have ff27 := (((((((hfn0.keep K2_).ext E3).keep K4_).keep K7_).keep K10_).keep K13_).keep K16_)
  have ff28 := (((f7_0.keep K10_ all0).keep K13_ all0).keep K16_ all0)
  have ff29 := (((((((hfn1.keep K2_).ext E3).keep K4_).keep K7_).keep K10_).keep K13_).keep K16_)
  have ff30 := ((f10_0.keep K13_ all0).keep K16_ all0)
  have ff31 := (((((((hfn2.keep K2_).ext E3).keep K4_).keep K7_).keep K10_).keep K13_).keep K16_)
  have ff32 := (f13_0.keep K16_ all0)
  have ff33 := (((((((hfn3.keep K2_).ext E3).keep K4_).keep K7_).keep K10_).keep K13_).keep K16_)
  have ff34 := (((((((hfn4.keep K2_).ext E3).keep K4_).keep K7_).keep K10_).keep K13_).keep K16_)
  have ff35 := (((((((TA.keep K2_ nin0).ext E3).keep K4_ nin0).keep K7_ nin0).keep K10_ nin0).keep K13_ nin0).keep K16_ nin0)
  have ff36 := (((((((EC.keep K2_).ext E3).keep K4_).keep K7_).keep K10_).keep K13_).keep K16_)
  obtain ⟨_, _, ⟨T19, L19, k19, n19⟩, -, X19_, h219, gr19, ⟨Lc19, hQ19, l19, y19, z19⟩, st19⟩ := X16.specialBackS hx (y := ym_38) rfl hown (mvT hZ (own_w hw 55 rfl)) (mvT hZ (own_w hw 56 rfl)) (mvT hZ (own_w hw 57 rfl)) (by decide) (backOfS (W := 1) (rm_adr l Z a0 hw [] b3 o4 o7 o10 o13 o16 T4.heap.size (¬ (bits &&& (1 : Int32)) = (0 : Int32)) f0 cK0 T7.heap.size (¬ (bits &&& (2 : Int32)) = (0 : Int32)) f1 cK1 T10.heap.size (¬ (bits &&& (4 : Int32)) = (0 : Int32)) f2 cK2 T13.heap.size (¬ (bits &&& (8 : Int32)) = (0 : Int32)) f3 cK3 T16.heap.size (¬ (bits &&& (16 : Int32)) = (0 : Int32)) f4 cK4 cz ta ka ci fm T16.heap n0 (show n0 ≤ T16.heap.size by omega) ff20 ff21 ff22 ff23 ff24 ff25 (show n0 ≤ b3 by omega) ff26 hs0 hmd0 ff27 ff28 hs1 hmd1 ff29 ff30 hs2 hmd2 ff31 ff32 hs3 hmd3 ff33 f16_0 hs4 hmd4 ff34 O16 S_COMPACT_STRINGS hcz S_A ff35 S_instance ff36 rf S_SIOOBE_FORMATTER) hZ (own_w hw 57 rfl) (own_w hw 28 rfl) (by decide) (by decide)) (g := (mkF m 77 #[iv v0, iv v1, iv v2, iv v3, iv v4, iv v5, iv bits, rv b2, .unset] [(.ref o16), (.ref o13), (.ref o10), (.ref o7), (.ref o4), (.ref b3), (.ref b3)])) rfl (by rw [hml]; rfl) (Steps.refl _) (a := b3) (argsL := [(.ref o4), (.ref o7), (.ref o10), (.ref o13), (.ref o16)]) (rest := [(.ref b3)]) (lenOf pd_24 rfl) rfl (by show 2 * 0 + _ ≤ _; exact Nat.le_of_eq rfl) (hb hby at_77) (fun _ _ => ⟨rfl, rfl, (by decide : 18 + 20 ≤ _), (by decide : 40 + 344 ≤ _)⟩)
  dsimp only [Pt.U, Pt.locs, Pt.cells, Pt.slots] at X19_ h219 gr19 l19 y19 z19 st19 hQ19
  replace l19 := l19.symm; replace y19 := y19.symm; replace z19 := z19.symm; subst l19 y19 z19
  obtain ⟨X19, hS, hZ, hown⟩ := rebS hS (show _ ≤ T16.heap.size by omega) X19_ h219 gr19 hZ hown
  have hk : T19.heap.size ≤ T19.heap.size := Nat.le_refl _
  obtain ⟨rfl, M19, K19_, f19_0, f19_1, f19_2, f19_3, f19_4⟩ := hQ19
  have zz19 := K19_.1
  have O19 := O16.keep K19_ (allS (show n0 ≤ b3 by omega) all0)
  have N19 := Fr.app N16 M19
  refine og T19 (mkF m 80 #[iv v0, iv v1, iv v2, iv v3, iv v4, iv v5, iv bits, rv b2, .unset] [(.ref b3)]) (fun t_ k_ => st19.trans k_) ?_
  refine og T19 (mkF m 82 #[iv v0, iv v1, iv v2, iv v3, iv v4, iv v5, iv bits, rv b2, rv b3] []) (fun t_ k_ => XS.astore X19.here hx rfl (hb hby at_80) rfl rfl (l' := #[iv v0, iv v1, iv v2, iv v3, iv v4, iv v5, iv bits, rv b2, rv b3]) rfl k_) ?_
  refine og T19 (mkF m 84 #[iv v0, iv v1, iv v2, iv v3, iv v4, iv v5, iv bits, rv b2, rv b3] [(.ref b3)]) (fun t_ k_ => XS.aload X19.here hx rfl (hb hby at_82) rfl rfl k_) ?_
  refine og T19 (mkF m 86 #[iv v0, iv v1, iv v2, iv v3, iv v4, iv v5, iv bits, rv b2, rv b3] [(.ref b2), (.ref b3)]) (fun t_ k_ => XS.aload X19.here hx rfl (hb hby at_84) rfl rfl k_) ?_
  have ff38 := (ff20.keep K19_)
  have nw39 : o4 ≠ b3 := Exa.ne (ff26.1.keep K19_) ff38 (by decide)
  have nw40 : o7 ≠ b3 := Exa.ne (ff28.1.keep K19_) ff38 (by decide)
  have nw41 : o10 ≠ b3 := Exa.ne (ff30.1.keep K19_) ff38 (by decide)
  have nw42 : o13 ≠ b3 := Exa.ne (ff32.1.keep K19_) ff38 (by decide)
  have nw43 : o16 ≠ b3 := Exa.ne (f16_0.1.keep K19_) ff38 (by decide)
  obtain ⟨cq37, kq37, q37a, q37b, q37c⟩ := isOf hZ rfl ff38
  obtain ⟨_, _, ⟨T37, L37, k37, n37⟩, -, X37, ⟨Lc37, hQ37, l37, y37, z37⟩, st37⟩ := X19.virtualBack hx (y := ym_37) (z := ym_37) hown (mvT hZ (own_w hw 184 rfl)) (mvT hZ (own_w hw 185 rfl)) (notFace_of_selects (args := #[]) (mvT hZ (own_w hw 187 rfl))) (mvT hZ (own_w hw 187 rfl)) (mvT hZ (own_w hw 186 rfl)) (by decide) (backOf (W := 0) (rm_cap l Z a0 hw [] b3 b2 o4 o7 o10 o13 o16 (¬ (bits &&& (1 : Int32)) = (0 : Int32)) (¬ (bits &&& (2 : Int32)) = (0 : Int32)) (¬ (bits &&& (4 : Int32)) = (0 : Int32)) (¬ (bits &&& (8 : Int32)) = (0 : Int32)) (¬ (bits &&& (16 : Int32)) = (0 : Int32)) T19.heap n0 (show n0 ≤ T19.heap.size by omega) ff38 f19_0 f19_1 f19_2 f19_3 f19_4 (own_Opt.weak ff26 K19_ (ninS nw39 nin0)) (own_Opt.weak ff28 K19_ (ninS nw40 nin0)) (own_Opt.weak ff30 K19_ (ninS nw41 nin0)) (own_Opt.weak ff32 K19_ (ninS nw42 nin0)) (own_Opt.weak f16_0 K19_ (ninS nw43 nin0)) hP) hZ (own_w hw 188 rfl) (own_w hw 28 rfl) (by decide) (by decide)) q37a q37c (g := (mkF m 86 #[iv v0, iv v1, iv v2, iv v3, iv v4, iv v5, iv bits, rv b2, rv b3] [(.ref b2), (.ref b3)])) rfl (by rw [hml]; rfl) (Steps.refl _) (argsL := [(.ref b2)]) (rest := []) (lenOf pd_17 rfl) rfl (by show 2 * 0 + _ ≤ _; exact Nat.le_of_eq rfl) (hb hby at_86) (fun _ _ => ⟨rfl, rfl, (by decide : 38 + 0 ≤ _), (by decide : 384 + 0 ≤ _)⟩)
  dsimp only [Pt.U, Pt.locs, Pt.cells, Pt.slots] at X37 l37 y37 z37 st37 hQ37
  replace l37 := l37.symm; replace y37 := y37.symm; replace z37 := z37.symm; subst l37 y37 z37
  obtain ⟨rfl, M37, e37⟩ := hQ37
  have N37 := Fr.app N19 M37
  refine og T37 (mkF m 89 #[iv v0, iv v1, iv v2, iv v3, iv v4, iv v5, iv bits, rv b2, rv b3] []) (fun t_ k_ => st37.trans k_) ?_
  refine og T37 (mkF m 90 #[iv v0, iv v1, iv v2, iv v3, iv v4, iv v5, iv bits, rv b2, rv b3] [(.int 1)]) (fun t_ k_ => XS.iconst X37.here hx rfl (hb hby at_89) k_) ?_
  exact own_outW X37 hS (show _ ≤ T37.heap.size by rw [e37]; omega) (v := some (.int (nar .boolean (1 : Int32)))) (fun h => by rw [hret] at h; cases h) hlk (fun fs hr => retN X37 hx (t := .boolean) hret (by simp) (hb hby at_90) hr) (Q := Q_rm_law Z v0 v1 v2 v3 v4 v5 cz ta ka ci fm em f0 cK0 f1 cK1 f2 cK2 f3 cK3 f4 cK4 h0 n0) (by rw [e37]; exact ⟨rfl, N37⟩) (by decide) (by decide)
theorem own_teq {args : Array Value} {s : State} {t : Term} {k : Int32} (h : (Jvm.Cond.eq t (Term.int k)).value args s none s [] = some true) : t.eval args s none [] s = some (.int k) := by
  obtain ⟨x, y, h1, h2, k1, k2⟩ := cmp_v (Or.inl h)
  have hk : (Term.int k).eval args s none [] s = some (.int k) := Term.int_eval k
  cases h2.symm.trans hk
  obtain ⟨z, rfl⟩ := k2
  have e := gotT (Cond.eq_ints h1 hk) h
  subst e
  exact h1
theorem own_fnull {args : Array Value} {s : State} {t : Term} {a : Addr} {C n d : String} (ht : t.eval args s none [] s = some (.ref a)) (h : (Jvm.Cond.eq (Term.field t C n d) Term.null).value args s none s [] = some true) : Fld s s.heap a C n d .null :=
  Fld.start ((fld_at ht).symm.trans (null_v h))
/-- the words that pin an int array's components from i on -/
def own_words (t : Term) : List Int32 → Nat → List Cond
  | [], _ => []
  | v :: r, i => Cond.eq (.elem t (.int (Nat.toInt32 i))) (.int v) :: own_words t r (i + 1)
theorem own_hasL {args : Array Value} {s : State} {t : Term} {x : Addr} {cl : Cell} (ht : t.eval args s none [] s = some (.ref x)) (hc : s.heap[x]? = some cl) : ∀ (L : List Int32) (i : Nat), i + L.length < 2 ^ 31 → (∀ c ∈ own_words t L i, c.before args s = true) → HasL cl i (L.map Value.int)
  | [], _, _, _ => trivial
  | v :: r, i, q, H => by
    have q' : i + (r.length + 1) < 2 ^ 31 := q
    have h1 := own_teq (Cond.before_iff.mp (H _ (List.mem_cons_self ..)))
    have h2 := (elem_in h1 ht (Term.int_eval _) hc).2
    have e1 : (Nat.toInt32 i).toNatClampNeg = i := by simp only [Int32.toNatClampNeg, len_toInt (show i < 2 ^ 31 by omega)]; rfl
    rw [e1] at h2
    exact ⟨h2, own_hasL ht hc r (i + 1) (by omega) (fun c hc => H c (List.mem_cons_of_mem _ hc))⟩
theorem own_arvT {args : Array Value} {s : State} {t : Term} {L : List Int32} (hf : Fit s) (ha : (Jvm.Cond.arrayOf t .int).value args s none s [] = some true) (hlen : (Jvm.Cond.eq (Term.length t) (Term.int 256)).value args s none s [] = some true) (hL : L.length = 256) (H : ∀ c ∈ own_words t L 0, c.before args s = true) :
    ∃ (a : Addr) (k : ClassId), t.eval args s none [] s = some (.ref a) ∧ Arv s s.heap a k .int (256 : Int32) (L.map Value.int) (.int (0 : Int32)) := by
  obtain ⟨a, ea⟩ := arr_v ha
  obtain ⟨cl, A⟩ := Arr.start ea ha
  have e := own_teq hlen
  have hA : s.arrayAt? a = some cl := IntBox.arrayAt_of A.1 A.2.1 A.2.2
  have e' : cl.slots.size < 2 ^ 31 ∧ cl.slots.size.toInt32 = 256 := by simpa [Term.eval, ea, hA] using e
  exact ⟨a, cl.cls, ea, Arv.start hf A e'.1 e'.2 (by decide) (by rw [List.length_map, hL]; rfl) (own_hasL ea A.1 L 0 (by omega) H)⟩
set_option maxRecDepth 65536 in
theorem own_inw : ∀ c ∈ own_words (Jvm.Term.static "java/lang/CharacterDataLatin1" "A" "[I") own_A 0, c ∈ jdkStatics_1 := by
  have e : (jdkStatics_1.drop 21).take 256 = own_words (Jvm.Term.static "java/lang/CharacterDataLatin1" "A" "[I") own_A 0 := by rfl
  intro c hc
  rw [← e] at hc
  exact List.mem_of_mem_drop (List.mem_of_mem_take hc)
set_option maxRecDepth 65536 in
set_option maxHeartbeats 40000000 in
theorem comes_1 {Post : Tables → Env → Array Value → State → Outcome → State → Prop} (hpost : ∀ tb e args s v u, (limb_1_1.after args s (.returned v) u = true ∧ limb_1_2.after args s (.returned v) u = true ∧ True) → ReturnedEndW s (.returned v) u (Jvm.fieldLocs frame_1_writes args s ++ Jvm.arrayLocs frame_1_arrays args s ++ Jvm.staticLocs frame_1_statics s) 56 5312 → Post tb e args s (.returned v) u) :
    ArmFor flags0 classFile x code maxLocals ret World_1 tables_1 room_1 Calls_1 rest_1 Pre_1 Post := by
  intro l hfl _ _ p e ha hc hk s m args below hf hA hF happ hP
  obtain ⟨hcalls, hrest, hpre⟩ := hP
  obtain ⟨-, -, -, hnamed, -, -, -, hat⟩ := (Spec.applies_iff hf).mp happ
  obtain ⟨hg, hn⟩ := and_e (Cond.before_iff.mp (show (Jvm.Cond.and given_1 narrow_1).before args s = true from hpre))
  obtain ⟨gc, gr⟩ := and_e hg
  obtain ⟨ga0, gr0⟩ := and_e gr
  obtain ⟨ga1, gr1⟩ := and_e gr0
  obtain ⟨ga2, gr2⟩ := and_e gr1
  obtain ⟨ga3, gr3⟩ := and_e gr2
  obtain ⟨ga4, gr4⟩ := and_e gr3
  have ga5 := gr4
  obtain ⟨w0, w1, w2, w3, w4, w5, rfl⟩ : ∃ w0 w1 w2 w3 w4 w5 : Value, args = #[w0, w1, w2, w3, w4, w5] := by
    have hs : args.size = 6 := by simpa [Cond.value, given_1] using gc
    obtain ⟨L⟩ := args
    match L, hs with
    | [w0, w1, w2, w3, w4, w5], _ => exact ⟨w0, w1, w2, w3, w4, w5, rfl⟩
  have hw := fun d (hd : d ∈ tables_1) => atoms_spec (ws := Jvm.Cond.code x code maxLocals ret :: tables_1) hat d (List.mem_cons_of_mem _ hd)
  have hfit : Fit s := fun {y c} hc i hi => by
    obtain ⟨ha, rfl⟩ := Array.getElem?_eq_some_iff.mp hc
    have q := List.all_eq_true.mp ((Array.all_eq_true_iff_forall_mem.mp hF) _ (Array.getElem_mem ha)) i (List.mem_range.mpr hi)
    simpa [Array.getElem?_eq_getElem hi] using q
  obtain ⟨hsets, hown0⟩ := atoms_of _ (rest_1_c_eq ▸ (show rest_1_c.before _ s = true from hrest))
  obtain ⟨i0, ei0⟩ := is_v ga0
  obtain rfl : w0 = (.int i0) := Option.some.inj ei0
  obtain ⟨i1, ei1⟩ := is_v ga1
  obtain rfl : w1 = (.int i1) := Option.some.inj ei1
  obtain ⟨i2, ei2⟩ := is_v ga2
  obtain rfl : w2 = (.int i2) := Option.some.inj ei2
  obtain ⟨i3, ei3⟩ := is_v ga3
  obtain rfl : w3 = (.int i3) := Option.some.inj ei3
  obtain ⟨i4, ei4⟩ := is_v ga4
  obtain rfl : w4 = (.int i4) := Option.some.inj ei4
  obtain ⟨i5, ei5⟩ := is_v ga5
  obtain rfl : w5 = (.int i5) := Option.some.inj ei5
  have n3 := not_v (Cond.before_iff.mp (hsets _ (List.mem_of_getElem? (i := 2) rfl)))
  obtain ⟨cz, ecz⟩ := is_v (Cond.before_iff.mp (hsets _ (List.mem_of_getElem? (i := 1) rfl)))
  have SC : Sta s s.heap "java/lang/String" "COMPACT_STRINGS" "Z" (.int cz) := Sta.start ecz (Or.inl (hsets _ (List.mem_of_getElem? (i := 0) rfl)))
  have hcz : ¬ (cz = (0 : Int32)) := gotF (Cond.eq_ints ecz (Term.int_eval (0))) n3
  obtain ⟨fm, efm, rf⟩ := isR_v (Cond.before_iff.mp (hsets _ (List.mem_of_getElem? (i := 8) rfl)))
  have SFM := Sta.start efm (Or.inl (hsets _ (List.mem_of_getElem? (i := 7) rfl)))
  obtain ⟨em, eem⟩ := exa_v (Cond.before_iff.mp (hsets _ (List.mem_of_getElem? (i := 11) rfl)))
  have SEM := Sta.start eem (Or.inl (hsets _ (List.mem_of_getElem? (i := 10) rfl)))
  have EE := Exa.start eem (Cond.before_iff.mp (hsets _ (List.mem_of_getElem? (i := 11) rfl)))
  have FE := own_fnull eem (Cond.before_iff.mp (hsets _ (List.mem_of_getElem? (i := 12) rfl)))
  obtain ⟨ci, eci⟩ := exa_v (Cond.before_iff.mp (hsets _ (List.mem_of_getElem? (i := 15) rfl)))
  have SCI := Sta.start eci (Or.inl (hsets _ (List.mem_of_getElem? (i := 14) rfl)))
  have EC := Exa.start eci (Cond.before_iff.mp (hsets _ (List.mem_of_getElem? (i := 15) rfl)))
  obtain ⟨ta, ka, eta, TA⟩ := own_arvT (L := own_A) hfit (Cond.before_iff.mp (hsets _ (List.mem_of_getElem? (i := 18) rfl))) (Cond.before_iff.mp (hsets _ (List.mem_of_getElem? (i := 20) rfl))) rfl (fun c hc => hsets _ (own_inw c hc))
  have STA := Sta.start eta (Or.inl (hsets _ (List.mem_of_getElem? (i := 17) rfl)))
  obtain ⟨f0, cK0, hmd0, hs0, hfn0⟩ := own_site_of (hw _ (List.mem_of_getElem? (i := 71) rfl)) rfl
  obtain ⟨f1, cK1, hmd1, hs1, hfn1⟩ := own_site_of (hw _ (List.mem_of_getElem? (i := 167) rfl)) rfl
  obtain ⟨f2, cK2, hmd2, hs2, hfn2⟩ := own_site_of (hw _ (List.mem_of_getElem? (i := 169) rfl)) rfl
  obtain ⟨f3, cK3, hmd3, hs3, hfn3⟩ := own_site_of (hw _ (List.mem_of_getElem? (i := 171) rfl)) rfl
  obtain ⟨f4, cK4, hmd4, hs4, hfn4⟩ := own_site_of (hw _ (List.mem_of_getElem? (i := 173) rfl)) rfl
  obtain ⟨n, o, h1, h2, h3, _, L, rfl, ⟨rfl, N⟩, hq⟩ := rm_law l s _ hw tables_1 i0 i1 i2 i3 i4 i5 cz ta ka ci fm em f0 cK0 f1 cK1 f2 cK2 f3 cK3 f4 cK4 s.heap s.heap.size (Nat.le_refl _) (Old.start s) SC hcz STA TA SCI EC rf SFM SEM EE FE hs0 hmd0 hfn0 hs1 hmd1 hfn1 hs2 hmd2 hfn2 hs3 hmd3 hfn3 hs4 hmd4 hfn4 p e ha hc hk s m _ below hf ((Spec.applies_iff_loose hf).mp happ).1 ⟨rfl, State.Warmed39.refl s, rfl⟩ trivial
  refine ⟨n, _, h1, h2, h3, hpost _ _ _ _ _ _ ⟨Cond.after_iff.mpr rfl, Cond.after_iff.mpr (eq_i res_at (Term.int_eval (1)) rfl), trivial⟩ ⟨hq.1, hq.2.1, hq.2.2.1, (hq.2.2.2.sift fun y hy => Or.inr (N y hy)).mono (by decide) (by decide)⟩⟩
theorem main_1_1 : Claimed_1_1 := comes_1 fun _ _ _ _ _ _ h hF => ⟨h.1, hF⟩
theorem main_1_2 : Claimed_1_2 := comes_1 fun _ _ _ _ _ _ h hF => ⟨h.2.1, hF⟩
end Jvm.Pilot.@@N@@
namespace Jvm.Pilot.@@N@@
open Jvm Jvm.ClassFile Sem Op Lib Jvm.Free Jvm.Stand Jvm.Pilot.@@N@@.Jvm.D
/-! MADE BY PROGRAM (witnessworld.py) out of the Statement's table words and the real class files: 30 classes; the members and pool entries that the words name. The judged class is class 1, her method 1. -/
namespace start1
open Jvm.ClassFile
def u (s : String) : CpInfo := .utf8 (stringToUtf16 s)
/-- a pool by its gaps: so many unusable entries, then the entry; so many at the end -/
def gap : Nat → List CpInfo → List CpInfo
  | 0, r => r
  | n + 1, r => .unusable :: gap n r
def poolList (es : List (Nat × CpInfo)) (last : Nat) : List CpInfo := es.foldr (fun e r => gap e.1 (e.2 :: r)) (gap last [])
def pool (es : List (Nat × CpInfo)) (last : Nat) : Array CpInfo := ⟨poolList es last⟩
def fileOf (pool : Array CpInfo) (this : Nat) (attrs : Array Attribute := #[]) (ms : Array MethodInfo := #[]) (fl : Nat := 33) (sup : Nat := 0) (ifs : Array Nat := #[]) (fds : Array FieldInfo := #[]) : ClassFile where
  minorVersion := 0
  majorVersion := 65
  constantPool := pool
  accessFlags := fl
  thisClass := this
  superClass := sup
  interfaces := ifs
  fields := fds
  methods := ms
  attributes := attrs
def plain (name : String) (sup : Option ClassId) : Class where
  name := name
  kind := .ordinary
  loader := none
  accessFlags := 33
  super := sup
  interfaces := #[]
  cf := none
  fields := #[]
  methods := #[]
  instanceTypes := #[]
  staticTypes := #[]
  resolved := #[]
  callSites := []
  init := .initialized
  statics := none
  mirror := none

def pool0 : Array CpInfo := pool [(5, u "<init>"), (0, u "()V"), (1, .class_ 10), (1, u "java/lang/Object")] 113

def k0c0 : Code := { maxStack := 0, maxLocals := 1, code := object_method_1_code, exceptionTable := #[], attributes := #[] }
def k0m0 : Method := { name := "<init>", desc := "()V", sig := { parameters := [], returnType := none }, accessFlags := 1, code := some k0c0 }
/-- java/lang/Object -/
def k0 : Class := { plain "java/lang/Object" none with
  accessFlags := 33
  interfaces := #[]
  cf := some (fileOf pool0 8 #[] #[{ accessFlags := 1, nameIndex := 5, descriptorIndex := 6, attributes := #[] }] 33 0 #[] #[])
  fields := #[]
  methods := #[k0m0]
  instanceTypes := #[]
  staticTypes := #[]
  resolved := Array.replicate 124 none
  statics := none }

def pool1 : Array CpInfo := pool [(2, .class_ 4), (1, u "java/lang/Object"), (0, u "<init>"), (0, u "()V"), (0, .methodref 8 9), (0, .class_ 10), (0, .nameAndType 11 12), (0, u "java/lang/String"), (0, u "valueOf"), (0, u "(C)Ljava/lang/String;"), (0, .class_ 14), (0, u "com/example/labmeld/labmeld/finding/Finding$Address"), (0, .methodref 16 17), (0, .class_ 18), (0, .nameAndType 19 20), (0, u "com/example/labmeld/labmeld/finding/AddressCheckAnyPartPinLaw"), (0, u "part"), (0, u "(III)Ljava/util/Optional;"), (0, .methodref 13 22), (0, .nameAndType 5 23), (0, u "(Ljava/util/Optional;Ljava/util/Optional;Ljava/util/Optional;Ljava/util/Optional;Ljava/util/Optional;)V"), (0, .methodref 13 25), (0, .nameAndType 26 27), (0, u "checkAnyPart"), (0, u "(Ljava/lang/String;)V"), (0, .methodref 29 30), (0, .class_ 31), (0, .nameAndType 32 33), (0, u "java/util/Optional"), (0, u "empty"), (0, u "()Ljava/util/Optional;"), (0, .integer 2147483647), (0, .methodref 29 36), (0, .nameAndType 37 38), (0, u "of"), (0, u "(Ljava/lang/Object;)Ljava/util/Optional;"), (2, u "law"), (0, u "(IIIIII)Z")] 9

def k1m0 : Method := { name := "<init>", desc := "()V", sig := { parameters := [], returnType := none }, accessFlags := 1, code := none }
def k1c1 : Code := { maxStack := 9, maxLocals := 9, code := code, exceptionTable := #[], attributes := #[] }
def k1m1 : Method := { name := "law", desc := "(IIIIII)Z", sig := { parameters := [.int, .int, .int, .int, .int, .int], returnType := some .boolean }, accessFlags := 9, code := some k1c1 }
def k1c2 : Code := { maxStack := 3, maxLocals := 3, code := method_3_code, exceptionTable := #[], attributes := #[] }
def k1m2 : Method := { name := "part", desc := "(III)Ljava/util/Optional;", sig := { parameters := [.int, .int, .int], returnType := some (.object "java/util/Optional") }, accessFlags := 10, code := some k1c2 }
/-- com/example/labmeld/labmeld/finding/AddressCheckAnyPartPinLaw -/
def k1 : Class := { plain "com/example/labmeld/labmeld/finding/AddressCheckAnyPartPinLaw" (some 0) with
  accessFlags := 49
  interfaces := #[]
  cf := some (fileOf pool1 16 #[] #[{ accessFlags := 1, nameIndex := 5, descriptorIndex := 6, attributes := #[] }, { accessFlags := 9, nameIndex := 41, descriptorIndex := 42, attributes := #[] }, { accessFlags := 10, nameIndex := 19, descriptorIndex := 20, attributes := #[] }] 49 2 #[] #[])
  fields := #[]
  methods := #[k1m0, k1m1, k1m2]
  instanceTypes := #[]
  staticTypes := #[]
  resolved := Array.replicate 52 none
  statics := none }

def pool2 : Array CpInfo := pool [(1, .class_ 2), (0, u "java/io/Serializable"), (0, .class_ 4), (0, u "java/lang/Object")] 2

/-- java/io/Serializable -/
def k2 : Class := { plain "java/io/Serializable" (some 0) with
  accessFlags := 1537
  interfaces := #[]
  cf := some (fileOf pool2 1 #[] #[] 1537 3 #[] #[])
  fields := #[]
  methods := #[]
  instanceTypes := #[]
  staticTypes := #[]
  resolved := Array.replicate 7 none
  statics := none }

def pool3 : Array CpInfo := pool [(1, .class_ 2), (0, u "java/lang/Comparable"), (0, .class_ 4), (0, u "java/lang/Object")] 7

/-- java/lang/Comparable -/
def k3 : Class := { plain "java/lang/Comparable" (some 0) with
  accessFlags := 1537
  interfaces := #[]
  cf := some (fileOf pool3 1 #[] #[] 1537 3 #[] #[])
  fields := #[]
  methods := #[]
  instanceTypes := #[]
  staticTypes := #[]
  resolved := Array.replicate 12 none
  statics := none }

def pool4 : Array CpInfo := pool [(2, .class_ 4), (1, u "java/lang/CharSequence"), (42, .class_ 48), (0, u "java/lang/CharSequence$1CodePointIterator"), (10, .class_ 60), (0, u "java/lang/CharSequence$1CharIterator"), (5, .class_ 67), (0, u "java/lang/Object")] 63

/-- java/lang/CharSequence -/
def k4 : Class := { plain "java/lang/CharSequence" (some 0) with
  accessFlags := 1537
  interfaces := #[]
  cf := some (fileOf pool4 2 #[.nestMembers #[47, 59]] #[] 1537 66 #[] #[])
  fields := #[]
  methods := #[]
  instanceTypes := #[]
  staticTypes := #[]
  resolved := Array.replicate 131 none
  statics := none }

def pool5 : Array CpInfo := pool [(1, .class_ 2), (0, u "java/lang/constant/Constable"), (0, .class_ 4), (0, u "java/lang/Object")] 6

/-- java/lang/constant/Constable -/
def k5 : Class := { plain "java/lang/constant/Constable" (some 0) with
  accessFlags := 1537
  interfaces := #[]
  cf := some (fileOf pool5 1 #[] #[] 1537 3 #[] #[])
  fields := #[]
  methods := #[]
  instanceTypes := #[]
  staticTypes := #[]
  resolved := Array.replicate 11 none
  statics := none }

def pool6 : Array CpInfo := pool [(1, .class_ 2), (0, u "java/lang/constant/ConstantDesc"), (0, .class_ 4), (0, u "java/lang/Object")] 32

/-- java/lang/constant/ConstantDesc -/
def k6 : Class := { plain "java/lang/constant/ConstantDesc" (some 0) with
  accessFlags := 1537
  interfaces := #[]
  cf := some (fileOf pool6 1 #[] #[] 1537 3 #[] #[])
  fields := #[]
  methods := #[]
  instanceTypes := #[]
  staticTypes := #[]
  resolved := Array.replicate 37 none
  statics := none }

def pool7 : Array CpInfo := pool [(1, .methodref 2 3), (0, .class_ 4), (0, .nameAndType 5 6), (0, u "java/lang/Object"), (0, u "<init>"), (0, u "()V"), (2, .fieldref 10 11), (0, .class_ 12), (0, .nameAndType 13 14), (0, u "java/lang/String"), (0, u "value"), (0, u "[B"), (0, .fieldref 10 16), (0, .nameAndType 17 18), (0, u "coder"), (0, u "B"), (2, u "hash"), (0, u "I"), (2, u "hashIsZero"), (0, u "Z"), (11, .fieldref 10 39), (0, .nameAndType 40 26), (0, u "COMPACT_STRINGS"), (12, u "toBytes"), (53, .class_ 109), (1, u "java/lang/StringLatin1"), (32, u "()Z"), (66, .methodref 10 210), (0, .nameAndType 5 211), (0, u "([BB)V"), (122, u "()I"), (0, .methodref 10 336), (0, .nameAndType 17 337), (0, u "()B"), (25, u "([BI)C"), (5, u "(C)Z"), (21, u "(II)V"), (35, u "(I)C"), (64, .methodref 10 493), (0, .nameAndType 494 142), (0, u "isLatin1"), (0, .methodref 107 496), (0, .nameAndType 497 363), (0, u "charAt"), (3, u "checkIndex"), (3, .methodref 10 506), (0, .nameAndType 507 334), (0, u "length"), (67, .class_ 576), (0, u "java/lang/CharSequence"), (22, u "CASE_INSENSITIVE_ORDER"), (0, u "Ljava/util/Comparator;"), (30, u "([B)I"), (150, u "valueOf"), (0, u "(C)Ljava/lang/String;"), (92, .methodref 10 877), (0, .nameAndType 878 334), (0, u "indexOfNonWhitespace"), (45, .methodref 107 925), (0, .nameAndType 878 631), (26, u "isBlank"), (62, .methodref 107 1016), (0, .nameAndType 1017 369), (0, u "canEncode"), (0, .methodref 107 1019), (0, .nameAndType 53 1020), (0, u "(C)[B"), (32, .fieldref 1054 1055), (0, .class_ 1056), (0, .nameAndType 1057 1058), (0, u "jdk/internal/util/Preconditions"), (0, u "SIOOBE_FORMATTER"), (0, u "Ljava/util/function/BiFunction;"), (0, .methodref 1054 1060), (0, .nameAndType 501 1061), (0, u "(IILjava/util/function/BiFunction;)I"), (39, u "serialPersistentFields"), (0, u "[Ljava/io/ObjectStreamField;"), (0, .class_ 1104), (0, u "java/lang/String$CaseInsensitiveComparator"), (1, .class_ 1107), (0, u "java/io/Serializable"), (0, .class_ 1109), (0, u "java/lang/Comparable"), (0, .class_ 1111), (0, u "java/lang/constant/Constable"), (0, .class_ 1113), (0, u "java/lang/constant/ConstantDesc"), (2, u "serialVersionUID"), (0, u "J"), (3, u "REPL"), (0, u "C"), (2, u "LATIN1"), (1, u "UTF16")] 323

def k7m0 : Method := { name := "<init>", desc := "()V", sig := { parameters := [], returnType := none }, accessFlags := 1, code := none }
def k7c1 : Code := { maxStack := 2, maxLocals := 1, code := jdk_42_method_54_code, exceptionTable := #[], attributes := #[] }
def k7m1 : Method := { name := "length", desc := "()I", sig := { parameters := [], returnType := some .int }, accessFlags := 1, code := some k7c1 }
def k7c2 : Code := { maxStack := 2, maxLocals := 2, code := jdk_42_method_56_code, exceptionTable := #[], attributes := #[] }
def k7m2 : Method := { name := "charAt", desc := "(I)C", sig := { parameters := [.int], returnType := some .char }, accessFlags := 1, code := some k7c2 }
def k7c3 : Code := { maxStack := 2, maxLocals := 1, code := jdk_42_method_117_code, exceptionTable := #[], attributes := #[] }
def k7m3 : Method := { name := "isBlank", desc := "()Z", sig := { parameters := [], returnType := some .boolean }, accessFlags := 1, code := some k7c3 }
def k7c4 : Code := { maxStack := 1, maxLocals := 1, code := jdk_42_method_120_code, exceptionTable := #[], attributes := #[] }
def k7m4 : Method := { name := "indexOfNonWhitespace", desc := "()I", sig := { parameters := [], returnType := some .int }, accessFlags := 2, code := some k7c4 }
def k7c5 : Code := { maxStack := 4, maxLocals := 1, code := jdk_42_method_139_code, exceptionTable := #[], attributes := #[] }
def k7m5 : Method := { name := "valueOf", desc := "(C)Ljava/lang/String;", sig := { parameters := [.char], returnType := some (.object "java/lang/String") }, accessFlags := 9, code := some k7c5 }
def k7c6 : Code := { maxStack := 2, maxLocals := 3, code := jdk_42_method_151_code, exceptionTable := #[], attributes := #[] }
def k7m6 : Method := { name := "<init>", desc := "([BB)V", sig := { parameters := [(.array .byte), .byte], returnType := none }, accessFlags := 0, code := some k7c6 }
def k7c7 : Code := { maxStack := 1, maxLocals := 1, code := jdk_42_method_152_code, exceptionTable := #[], attributes := #[] }
def k7m7 : Method := { name := "coder", desc := "()B", sig := { parameters := [], returnType := some .byte }, accessFlags := 0, code := some k7c7 }
def k7c8 : Code := { maxStack := 1, maxLocals := 1, code := jdk_42_method_154_code, exceptionTable := #[], attributes := #[] }
def k7m8 : Method := { name := "isLatin1", desc := "()Z", sig := { parameters := [], returnType := some .boolean }, accessFlags := 0, code := some k7c8 }
def k7c9 : Code := { maxStack := 3, maxLocals := 2, code := jdk_42_method_155_code, exceptionTable := #[], attributes := #[] }
def k7m9 : Method := { name := "checkIndex", desc := "(II)V", sig := { parameters := [.int, .int], returnType := none }, accessFlags := 8, code := some k7c9 }
/-- java/lang/String -/
def k7 : Class := { plain "java/lang/String" (some 0) with
  accessFlags := 49
  interfaces := #[2, 3, 4, 5, 6]
  cf := some (fileOf pool7 10 #[.nestMembers #[1103]] #[{ accessFlags := 1, nameIndex := 5, descriptorIndex := 6, attributes := #[] }, { accessFlags := 1, nameIndex := 507, descriptorIndex := 334, attributes := #[] }, { accessFlags := 1, nameIndex := 497, descriptorIndex := 427, attributes := #[] }, { accessFlags := 1, nameIndex := 952, descriptorIndex := 142, attributes := #[] }, { accessFlags := 2, nameIndex := 878, descriptorIndex := 334, attributes := #[] }, { accessFlags := 9, nameIndex := 782, descriptorIndex := 783, attributes := #[] }, { accessFlags := 0, nameIndex := 5, descriptorIndex := 211, attributes := #[] }, { accessFlags := 0, nameIndex := 17, descriptorIndex := 337, attributes := #[] }, { accessFlags := 0, nameIndex := 494, descriptorIndex := 142, attributes := #[] }, { accessFlags := 8, nameIndex := 501, descriptorIndex := 391, attributes := #[] }] 49 2 #[1106, 1108, 575, 1110, 1112] #[{ accessFlags := 18, nameIndex := 13, descriptorIndex := 14, attributes := #[] }, { accessFlags := 18, nameIndex := 17, descriptorIndex := 18, attributes := #[] }, { accessFlags := 2, nameIndex := 21, descriptorIndex := 22, attributes := #[] }, { accessFlags := 2, nameIndex := 25, descriptorIndex := 26, attributes := #[] }, { accessFlags := 26, nameIndex := 1116, descriptorIndex := 1117, attributes := #[] }, { accessFlags := 24, nameIndex := 40, descriptorIndex := 26, attributes := #[] }, { accessFlags := 26, nameIndex := 1101, descriptorIndex := 1102, attributes := #[] }, { accessFlags := 26, nameIndex := 1121, descriptorIndex := 1122, attributes := #[] }, { accessFlags := 25, nameIndex := 599, descriptorIndex := 600, attributes := #[] }, { accessFlags := 24, nameIndex := 1125, descriptorIndex := 18, attributes := #[] }, { accessFlags := 24, nameIndex := 1127, descriptorIndex := 18, attributes := #[] }])
  fields := #[{ name := "value", type := (.array .byte), accessFlags := 18, slot := 0, constantValue := 0 }, { name := "coder", type := .byte, accessFlags := 18, slot := 1, constantValue := 0 }, { name := "hash", type := .int, accessFlags := 2, slot := 2, constantValue := 0 }, { name := "hashIsZero", type := .boolean, accessFlags := 2, slot := 3, constantValue := 0 }, { name := "serialVersionUID", type := .long, accessFlags := 26, slot := 0, constantValue := 0 }, { name := "COMPACT_STRINGS", type := .boolean, accessFlags := 24, slot := 1, constantValue := 0 }, { name := "serialPersistentFields", type := (.array (.object "java/io/ObjectStreamField")), accessFlags := 26, slot := 2, constantValue := 0 }, { name := "REPL", type := .char, accessFlags := 26, slot := 3, constantValue := 0 }, { name := "CASE_INSENSITIVE_ORDER", type := (.object "java/util/Comparator"), accessFlags := 25, slot := 4, constantValue := 0 }, { name := "LATIN1", type := .byte, accessFlags := 24, slot := 5, constantValue := 0 }, { name := "UTF16", type := .byte, accessFlags := 24, slot := 6, constantValue := 0 }]
  methods := #[k7m0, k7m1, k7m2, k7m3, k7m4, k7m5, k7m6, k7m7, k7m8, k7m9]
  instanceTypes := #[(.array .byte), .byte, .int, .boolean]
  staticTypes := #[.long, .boolean, (.array (.object "java/io/ObjectStreamField")), .char, (.object "java/util/Comparator"), .byte, .byte]
  resolved := Array.replicate 1451 none
  statics := some 0 }

def pool8 : Array CpInfo := pool [(1, .class_ 2), (0, u "java/lang/String"), (1, .class_ 6), (1, u "java/lang/Object"), (0, u "<init>"), (0, u "()V"), (0, .methodref 1 10), (0, .nameAndType 11 12), (0, u "checkIndex"), (0, u "(II)V"), (1, .class_ 16), (1, u "java/lang/StringLatin1"), (33, .methodref 14 51), (0, .nameAndType 52 53), (0, u "getChar"), (0, u "([BI)C"), (3, u "([B)I"), (8, .fieldref 67 68), (0, .class_ 69), (0, .nameAndType 70 71), (0, u "java/lang/CharacterDataLatin1"), (0, u "instance"), (0, u "Ljava/lang/CharacterDataLatin1;"), (18, u "canEncode"), (0, u "(I)Z"), (13, u "(C)Z"), (15, u "$assertionsDisabled"), (0, u "Z"), (88, .methodref 67 212), (0, .nameAndType 213 91), (0, u "isWhitespace"), (2, u "indexOfNonWhitespace"), (4, .class_ 223), (1, u "java/lang/StringLatin1$LinesSpliterator"), (28, u "charAt"), (127, u "toBytes"), (1, u "(C)[B"), (7, .class_ 391), (0, u "java/lang/StringLatin1$CharsSpliterator")] 3

def k8m0 : Method := { name := "<init>", desc := "()V", sig := { parameters := [], returnType := none }, accessFlags := 0, code := none }
def k8c1 : Code := { maxStack := 2, maxLocals := 2, code := jdk_43_method_2_code, exceptionTable := #[], attributes := #[] }
def k8m1 : Method := { name := "charAt", desc := "([BI)C", sig := { parameters := [(.array .byte), .int], returnType := some .char }, accessFlags := 9, code := some k8c1 }
def k8c2 : Code := { maxStack := 2, maxLocals := 1, code := jdk_43_method_3_code, exceptionTable := #[], attributes := #[] }
def k8m2 : Method := { name := "canEncode", desc := "(C)Z", sig := { parameters := [.char], returnType := some .boolean }, accessFlags := 9, code := some k8c2 }
def k8c3 : Code := { maxStack := 2, maxLocals := 4, code := jdk_43_method_37_code, exceptionTable := #[], attributes := #[] }
def k8m3 : Method := { name := "indexOfNonWhitespace", desc := "([B)I", sig := { parameters := [(.array .byte)], returnType := some .int }, accessFlags := 9, code := some k8c3 }
def k8c4 : Code := { maxStack := 2, maxLocals := 2, code := jdk_43_method_44_code, exceptionTable := #[], attributes := #[] }
def k8m4 : Method := { name := "getChar", desc := "([BI)C", sig := { parameters := [(.array .byte), .int], returnType := some .char }, accessFlags := 9, code := some k8c4 }
def k8c5 : Code := { maxStack := 4, maxLocals := 1, code := jdk_43_method_46_code, exceptionTable := #[], attributes := #[] }
def k8m5 : Method := { name := "toBytes", desc := "(C)[B", sig := { parameters := [.char], returnType := some (.array .byte) }, accessFlags := 9, code := some k8c5 }
/-- java/lang/StringLatin1 -/
def k8 : Class := { plain "java/lang/StringLatin1" (some 0) with
  accessFlags := 48
  interfaces := #[]
  cf := some (fileOf pool8 14 #[.nestMembers #[390, 221]] #[{ accessFlags := 0, nameIndex := 7, descriptorIndex := 8, attributes := #[] }, { accessFlags := 9, nameIndex := 252, descriptorIndex := 53, attributes := #[] }, { accessFlags := 9, nameIndex := 90, descriptorIndex := 105, attributes := #[] }, { accessFlags := 9, nameIndex := 216, descriptorIndex := 57, attributes := #[] }, { accessFlags := 9, nameIndex := 52, descriptorIndex := 53, attributes := #[] }, { accessFlags := 9, nameIndex := 380, descriptorIndex := 382, attributes := #[] }] 48 4 #[] #[{ accessFlags := 4120, nameIndex := 121, descriptorIndex := 122, attributes := #[] }])
  fields := #[{ name := "$assertionsDisabled", type := .boolean, accessFlags := 4120, slot := 0, constantValue := 0 }]
  methods := #[k8m0, k8m1, k8m2, k8m3, k8m4, k8m5]
  instanceTypes := #[]
  staticTypes := #[.boolean]
  resolved := Array.replicate 395 none
  statics := none }

def pool9 : Array CpInfo := pool [(1, .methodref 2 3), (0, .class_ 4), (0, .nameAndType 5 6), (0, u "java/lang/Object"), (0, u "<init>"), (0, u "()V"), (0, .class_ 8), (0, u "java/lang/Record")] 13

def k9c0 : Code := { maxStack := 1, maxLocals := 1, code := jdk_30_method_1_code, exceptionTable := #[], attributes := #[] }
def k9m0 : Method := { name := "<init>", desc := "()V", sig := { parameters := [], returnType := none }, accessFlags := 4, code := some k9c0 }
/-- java/lang/Record -/
def k9 : Class := { plain "java/lang/Record" (some 0) with
  accessFlags := 1057
  interfaces := #[]
  cf := some (fileOf pool9 7 #[] #[{ accessFlags := 4, nameIndex := 5, descriptorIndex := 6, attributes := #[] }] 1057 2 #[] #[])
  fields := #[]
  methods := #[k9m0]
  instanceTypes := #[]
  staticTypes := #[]
  resolved := Array.replicate 22 none
  statics := none }

def pool10 : Array CpInfo := pool [(1, .methodref 2 3), (0, .class_ 4), (0, .nameAndType 5 6), (0, u "java/lang/Record"), (0, u "<init>"), (0, u "()V"), (0, .string 8), (0, u "street"), (0, .methodref 10 11), (0, .class_ 12), (0, .nameAndType 13 14), (0, u "com/example/labmeld/labmeld/finding/Check"), (0, u "present"), (0, u "(Ljava/lang/String;Ljava/lang/Object;)V"), (0, .invokeDynamic 0 16), (0, .nameAndType 17 18), (0, u "accept"), (0, u "()Ljava/util/function/Consumer;"), (0, .methodref 20 21), (0, .class_ 22), (0, .nameAndType 23 24), (0, u "java/util/Optional"), (0, u "ifPresent"), (0, u "(Ljava/util/function/Consumer;)V"), (0, .string 26), (0, u "houseNumber"), (0, .invokeDynamic 1 16), (0, .string 29), (0, u "postalCode"), (0, .invokeDynamic 2 16), (0, .string 32), (0, u "city"), (0, .invokeDynamic 3 16), (0, .string 35), (0, u "country"), (0, .invokeDynamic 4 16), (0, .fieldref 38 39), (0, .class_ 40), (0, .nameAndType 8 41), (0, u "com/example/labmeld/labmeld/finding/Finding$Address"), (0, u "Ljava/util/Optional;"), (0, .fieldref 38 43), (0, .nameAndType 26 41), (0, .fieldref 38 45), (0, .nameAndType 29 41), (0, .fieldref 38 47), (0, .nameAndType 32 41), (0, .fieldref 38 49), (0, .nameAndType 35 41), (0, .methodref 20 51), (0, .nameAndType 52 53), (0, u "isEmpty"), (0, u "()Z"), (8, u "(Ljava/lang/String;)V"), (10, .methodref 10 74), (0, .nameAndType 75 76), (0, u "text"), (0, u "(Ljava/lang/String;Ljava/lang/String;)Ljava/lang/String;"), (14, u "(Ljava/util/Optional;Ljava/util/Optional;Ljava/util/Optional;Ljava/util/Optional;Ljava/util/Optional;)V"), (4, u "checkAnyPart"), (7, u "lambda$new$4"), (0, u "lambda$new$3"), (0, u "lambda$new$2"), (0, u "lambda$new$1"), (0, u "lambda$new$0"), (3, .class_ 113), (0, u "com/example/labmeld/labmeld/finding/Finding"), (2, .methodType 117), (0, u "(Ljava/lang/Object;)V"), (0, .methodHandle 6 119), (0, .methodref 38 120), (0, .nameAndType 108 62), (0, .methodType 62), (0, .methodHandle 6 123), (0, .methodref 38 124), (0, .nameAndType 107 62), (0, .methodHandle 6 126), (0, .methodref 38 127), (0, .nameAndType 106 62), (0, .methodHandle 6 129), (0, .methodref 38 130), (0, .nameAndType 105 62), (0, .methodHandle 6 132), (0, .methodref 38 133), (0, .nameAndType 104 62), (17, .methodHandle 6 152), (0, .methodref 153 154), (0, .class_ 155), (0, .nameAndType 156 157), (0, u "java/lang/invoke/LambdaMetafactory"), (0, u "metafactory"), (0, u "(Ljava/lang/invoke/MethodHandles$Lookup;Ljava/lang/String;Ljava/lang/invoke/MethodType;Ljava/lang/invoke/MethodType;Ljava/lang/invoke/MethodHandle;Ljava/lang/invoke/MethodType;)Ljava/lang/invoke/CallSite;")] 20

def k10c0 : Code := { maxStack := 2, maxLocals := 6, code := prog_20_method_1_code, exceptionTable := #[], attributes := #[] }
def k10m0 : Method := { name := "<init>", desc := "(Ljava/util/Optional;Ljava/util/Optional;Ljava/util/Optional;Ljava/util/Optional;Ljava/util/Optional;)V", sig := { parameters := [(.object "java/util/Optional"), (.object "java/util/Optional"), (.object "java/util/Optional"), (.object "java/util/Optional"), (.object "java/util/Optional")], returnType := none }, accessFlags := 1, code := some k10c0 }
def k10c1 : Code := { maxStack := 3, maxLocals := 3, code := prog_20_method_2_code, exceptionTable := #[], attributes := #[] }
def k10m1 : Method := { name := "checkAnyPart", desc := "(Ljava/lang/String;)V", sig := { parameters := [(.object "java/lang/String")], returnType := none }, accessFlags := 0, code := some k10c1 }
def k10c2 : Code := { maxStack := 2, maxLocals := 1, code := prog_20_method_12_code, exceptionTable := #[], attributes := #[] }
def k10m2 : Method := { name := "lambda$new$4", desc := "(Ljava/lang/String;)V", sig := { parameters := [(.object "java/lang/String")], returnType := none }, accessFlags := 4106, code := some k10c2 }
def k10c3 : Code := { maxStack := 2, maxLocals := 1, code := prog_20_method_13_code, exceptionTable := #[], attributes := #[] }
def k10m3 : Method := { name := "lambda$new$3", desc := "(Ljava/lang/String;)V", sig := { parameters := [(.object "java/lang/String")], returnType := none }, accessFlags := 4106, code := some k10c3 }
def k10c4 : Code := { maxStack := 2, maxLocals := 1, code := prog_20_method_14_code, exceptionTable := #[], attributes := #[] }
def k10m4 : Method := { name := "lambda$new$2", desc := "(Ljava/lang/String;)V", sig := { parameters := [(.object "java/lang/String")], returnType := none }, accessFlags := 4106, code := some k10c4 }
def k10c5 : Code := { maxStack := 2, maxLocals := 1, code := prog_20_method_15_code, exceptionTable := #[], attributes := #[] }
def k10m5 : Method := { name := "lambda$new$1", desc := "(Ljava/lang/String;)V", sig := { parameters := [(.object "java/lang/String")], returnType := none }, accessFlags := 4106, code := some k10c5 }
def k10c6 : Code := { maxStack := 2, maxLocals := 1, code := prog_20_method_16_code, exceptionTable := #[], attributes := #[] }
def k10m6 : Method := { name := "lambda$new$0", desc := "(Ljava/lang/String;)V", sig := { parameters := [(.object "java/lang/String")], returnType := none }, accessFlags := 4106, code := some k10c6 }
/-- com/example/labmeld/labmeld/finding/Finding$Address -/
def k10 : Class := { plain "com/example/labmeld/labmeld/finding/Finding$Address" (some 9) with
  accessFlags := 49
  interfaces := #[]
  cf := some (fileOf pool10 38 #[.nestHost 112, .bootstrapMethods #[⟨151, #[116, 118, 121]⟩, ⟨151, #[116, 122, 121]⟩, ⟨151, #[116, 125, 121]⟩, ⟨151, #[116, 128, 121]⟩, ⟨151, #[116, 131, 121]⟩, ⟨0, #[]⟩, ⟨0, #[]⟩, ⟨0, #[]⟩, ⟨0, #[]⟩, ⟨0, #[]⟩, ⟨0, #[]⟩]] #[{ accessFlags := 1, nameIndex := 5, descriptorIndex := 91, attributes := #[] }, { accessFlags := 0, nameIndex := 96, descriptorIndex := 62, attributes := #[] }, { accessFlags := 4106, nameIndex := 104, descriptorIndex := 62, attributes := #[] }, { accessFlags := 4106, nameIndex := 105, descriptorIndex := 62, attributes := #[] }, { accessFlags := 4106, nameIndex := 106, descriptorIndex := 62, attributes := #[] }, { accessFlags := 4106, nameIndex := 107, descriptorIndex := 62, attributes := #[] }, { accessFlags := 4106, nameIndex := 108, descriptorIndex := 62, attributes := #[] }] 49 2 #[] #[{ accessFlags := 18, nameIndex := 8, descriptorIndex := 41, attributes := #[] }, { accessFlags := 18, nameIndex := 26, descriptorIndex := 41, attributes := #[] }, { accessFlags := 18, nameIndex := 29, descriptorIndex := 41, attributes := #[] }, { accessFlags := 18, nameIndex := 32, descriptorIndex := 41, attributes := #[] }, { accessFlags := 18, nameIndex := 35, descriptorIndex := 41, attributes := #[] }])
  fields := #[{ name := "street", type := (.object "java/util/Optional"), accessFlags := 18, slot := 0, constantValue := 0 }, { name := "houseNumber", type := (.object "java/util/Optional"), accessFlags := 18, slot := 1, constantValue := 0 }, { name := "postalCode", type := (.object "java/util/Optional"), accessFlags := 18, slot := 2, constantValue := 0 }, { name := "city", type := (.object "java/util/Optional"), accessFlags := 18, slot := 3, constantValue := 0 }, { name := "country", type := (.object "java/util/Optional"), accessFlags := 18, slot := 4, constantValue := 0 }]
  methods := #[k10m0, k10m1, k10m2, k10m3, k10m4, k10m5, k10m6]
  instanceTypes := #[(.object "java/util/Optional"), (.object "java/util/Optional"), (.object "java/util/Optional"), (.object "java/util/Optional"), (.object "java/util/Optional")]
  staticTypes := #[]
  resolved := Array.replicate 178 none
  callSites := [(0, 11, .constant 5), (0, 26, .constant 6), (0, 41, .constant 7), (0, 58, .constant 8), (0, 75, .constant 9)]
  statics := none }

def pool11 : Array CpInfo := pool [(1, .fieldref 2 3), (0, .class_ 4), (0, .nameAndType 5 6), (0, u "java/util/Optional"), (0, u "EMPTY"), (0, u "Ljava/util/Optional;"), (0, .methodref 8 9), (0, .class_ 10), (0, .nameAndType 11 12), (0, u "java/lang/Object"), (0, u "<init>"), (0, u "()V"), (0, .fieldref 2 14), (0, .nameAndType 15 16), (0, u "value"), (0, u "Ljava/lang/Object;"), (0, .methodref 18 19), (0, .class_ 20), (0, .nameAndType 21 22), (0, u "java/util/Objects"), (0, u "requireNonNull"), (0, u "(Ljava/lang/Object;)Ljava/lang/Object;"), (0, .methodref 2 24), (0, .nameAndType 11 25), (0, u "(Ljava/lang/Object;)V"), (7, .interfaceMethodref 34 35), (0, .class_ 36), (0, .nameAndType 37 25), (0, u "java/util/function/Consumer"), (0, u "accept"), (7, u "isEmpty"), (0, u "()Z"), (8, u "empty"), (0, u "()Ljava/util/Optional;"), (8, u "(Ljava/lang/Object;)Ljava/util/Optional;"), (16, u "of"), (46, u "ifPresent"), (0, u "(Ljava/util/function/Consumer;)V")] 56

def k11c0 : Code := { maxStack := 1, maxLocals := 1, code := jdk_32_method_1_code, exceptionTable := #[], attributes := #[] }
def k11m0 : Method := { name := "empty", desc := "()Ljava/util/Optional;", sig := { parameters := [], returnType := some (.object "java/util/Optional") }, accessFlags := 9, code := some k11c0 }
def k11c1 : Code := { maxStack := 2, maxLocals := 2, code := jdk_32_method_2_code, exceptionTable := #[], attributes := #[] }
def k11m1 : Method := { name := "<init>", desc := "(Ljava/lang/Object;)V", sig := { parameters := [(.object "java/lang/Object")], returnType := none }, accessFlags := 2, code := some k11c1 }
def k11c2 : Code := { maxStack := 3, maxLocals := 1, code := jdk_32_method_3_code, exceptionTable := #[], attributes := #[] }
def k11m2 : Method := { name := "of", desc := "(Ljava/lang/Object;)Ljava/util/Optional;", sig := { parameters := [(.object "java/lang/Object")], returnType := some (.object "java/util/Optional") }, accessFlags := 9, code := some k11c2 }
def k11c3 : Code := { maxStack := 1, maxLocals := 1, code := jdk_32_method_7_code, exceptionTable := #[], attributes := #[] }
def k11m3 : Method := { name := "isEmpty", desc := "()Z", sig := { parameters := [], returnType := some .boolean }, accessFlags := 1, code := some k11c3 }
def k11c4 : Code := { maxStack := 2, maxLocals := 2, code := jdk_32_method_8_code, exceptionTable := #[], attributes := #[] }
def k11m4 : Method := { name := "ifPresent", desc := "(Ljava/util/function/Consumer;)V", sig := { parameters := [(.object "java/util/function/Consumer")], returnType := none }, accessFlags := 1, code := some k11c4 }
/-- java/util/Optional -/
def k11 : Class := { plain "java/util/Optional" (some 0) with
  accessFlags := 49
  interfaces := #[]
  cf := some (fileOf pool11 2 #[] #[{ accessFlags := 9, nameIndex := 55, descriptorIndex := 56, attributes := #[] }, { accessFlags := 2, nameIndex := 11, descriptorIndex := 25, attributes := #[] }, { accessFlags := 9, nameIndex := 82, descriptorIndex := 65, attributes := #[] }, { accessFlags := 1, nameIndex := 45, descriptorIndex := 46, attributes := #[] }, { accessFlags := 1, nameIndex := 129, descriptorIndex := 130, attributes := #[] }] 49 8 #[] #[{ accessFlags := 26, nameIndex := 5, descriptorIndex := 6, attributes := #[] }, { accessFlags := 18, nameIndex := 15, descriptorIndex := 16, attributes := #[] }])
  fields := #[{ name := "EMPTY", type := (.object "java/util/Optional"), accessFlags := 26, slot := 0, constantValue := 0 }, { name := "value", type := (.object "java/lang/Object"), accessFlags := 18, slot := 0, constantValue := 0 }]
  methods := #[k11m0, k11m1, k11m2, k11m3, k11m4]
  instanceTypes := #[(.object "java/lang/Object")]
  staticTypes := #[(.object "java/util/Optional")]
  resolved := Array.replicate 187 none
  statics := some 1 }

def pool12 : Array CpInfo := pool [(2, .class_ 4), (1, u "java/lang/Object"), (0, u "<init>"), (0, u "()V"), (35, .class_ 44), (1, u "java/util/Objects"), (0, u "requireNonNull"), (0, u "(Ljava/lang/Object;)Ljava/lang/Object;")] 137

def k12m0 : Method := { name := "<init>", desc := "()V", sig := { parameters := [], returnType := none }, accessFlags := 2, code := none }
def k12c1 : Code := { maxStack := 2, maxLocals := 1, code := jdk_31_method_10_code, exceptionTable := #[], attributes := #[] }
def k12m1 : Method := { name := "requireNonNull", desc := "(Ljava/lang/Object;)Ljava/lang/Object;", sig := { parameters := [(.object "java/lang/Object")], returnType := some (.object "java/lang/Object") }, accessFlags := 9, code := some k12c1 }
/-- java/util/Objects -/
def k12 : Class := { plain "java/util/Objects" (some 0) with
  accessFlags := 49
  interfaces := #[]
  cf := some (fileOf pool12 42 #[] #[{ accessFlags := 2, nameIndex := 5, descriptorIndex := 6, attributes := #[] }, { accessFlags := 9, nameIndex := 45, descriptorIndex := 46, attributes := #[] }] 49 2 #[] #[])
  fields := #[]
  methods := #[k12m0, k12m1]
  instanceTypes := #[]
  staticTypes := #[]
  resolved := Array.replicate 184 none
  statics := none }

def pool13 : Array CpInfo := pool [(2, .class_ 4), (1, u "java/lang/Object"), (0, u "<init>"), (0, u "()V"), (9, .methodref 17 18), (0, .class_ 19), (0, .nameAndType 20 21), (0, u "com/example/labmeld/labmeld/finding/Check"), (0, u "present"), (0, u "(Ljava/lang/String;Ljava/lang/Object;)V"), (5, u "()Z"), (19, .methodref 48 49), (0, .class_ 50), (0, .nameAndType 51 27), (0, u "java/lang/String"), (0, u "isBlank"), (1, .methodref 48 54), (0, .nameAndType 55 56), (0, u "length"), (0, u "()I"), (0, .methodref 48 58), (0, .nameAndType 59 60), (0, u "charAt"), (0, u "(I)C"), (0, .methodref 62 63), (0, .class_ 64), (0, .nameAndType 65 66), (0, u "java/lang/Character"), (0, u "isHighSurrogate"), (0, u "(C)Z"), (0, .methodref 62 68), (0, .nameAndType 69 66), (0, u "isLowSurrogate"), (0, .methodref 62 71), (0, .nameAndType 72 66), (0, u "isISOControl"), (0, .integer 65534), (0, .integer 65535), (3, u "text"), (0, u "(Ljava/lang/String;Ljava/lang/String;)Ljava/lang/String;"), (15, u "LANGUAGE_TAG"), (0, u "Ljava/util/regex/Pattern;"), (15, u "OID"), (43, u "EASTERNMOST"), (0, u "Ljava/time/ZoneOffset;"), (8, u "WESTERNMOST"), (4, u "GLN"), (4, u "PHONE"), (18, u "FIRST_YEAR"), (0, u "I"), (2, u "LAST_YEAR")] 57

def k13m0 : Method := { name := "<init>", desc := "()V", sig := { parameters := [], returnType := none }, accessFlags := 2, code := none }
def k13c1 : Code := { maxStack := 3, maxLocals := 2, code := prog_17_method_2_code, exceptionTable := #[], attributes := #[] }
def k13m1 : Method := { name := "present", desc := "(Ljava/lang/String;Ljava/lang/Object;)V", sig := { parameters := [(.object "java/lang/String"), (.object "java/lang/Object")], returnType := none }, accessFlags := 8, code := some k13c1 }
def k13c2 : Code := { maxStack := 3, maxLocals := 5, code := prog_17_method_4_code, exceptionTable := #[], attributes := #[] }
def k13m2 : Method := { name := "text", desc := "(Ljava/lang/String;Ljava/lang/String;)Ljava/lang/String;", sig := { parameters := [(.object "java/lang/String"), (.object "java/lang/String")], returnType := some (.object "java/lang/String") }, accessFlags := 8, code := some k13c2 }
/-- com/example/labmeld/labmeld/finding/Check -/
def k13 : Class := { plain "com/example/labmeld/labmeld/finding/Check" (some 0) with
  accessFlags := 48
  interfaces := #[]
  cf := some (fileOf pool13 17 #[] #[{ accessFlags := 2, nameIndex := 5, descriptorIndex := 6, attributes := #[] }, { accessFlags := 8, nameIndex := 20, descriptorIndex := 21, attributes := #[] }, { accessFlags := 8, nameIndex := 78, descriptorIndex := 79, attributes := #[] }] 48 2 #[] #[{ accessFlags := 26, nameIndex := 95, descriptorIndex := 96, attributes := #[] }, { accessFlags := 26, nameIndex := 112, descriptorIndex := 96, attributes := #[] }, { accessFlags := 26, nameIndex := 176, descriptorIndex := 96, attributes := #[] }, { accessFlags := 26, nameIndex := 171, descriptorIndex := 96, attributes := #[] }, { accessFlags := 26, nameIndex := 166, descriptorIndex := 157, attributes := #[] }, { accessFlags := 26, nameIndex := 156, descriptorIndex := 157, attributes := #[] }, { accessFlags := 26, nameIndex := 195, descriptorIndex := 196, attributes := #[] }, { accessFlags := 26, nameIndex := 199, descriptorIndex := 196, attributes := #[] }])
  fields := #[{ name := "LANGUAGE_TAG", type := (.object "java/util/regex/Pattern"), accessFlags := 26, slot := 0, constantValue := 0 }, { name := "OID", type := (.object "java/util/regex/Pattern"), accessFlags := 26, slot := 1, constantValue := 0 }, { name := "PHONE", type := (.object "java/util/regex/Pattern"), accessFlags := 26, slot := 2, constantValue := 0 }, { name := "GLN", type := (.object "java/util/regex/Pattern"), accessFlags := 26, slot := 3, constantValue := 0 }, { name := "WESTERNMOST", type := (.object "java/time/ZoneOffset"), accessFlags := 26, slot := 4, constantValue := 0 }, { name := "EASTERNMOST", type := (.object "java/time/ZoneOffset"), accessFlags := 26, slot := 5, constantValue := 0 }, { name := "FIRST_YEAR", type := .int, accessFlags := 26, slot := 6, constantValue := 0 }, { name := "LAST_YEAR", type := .int, accessFlags := 26, slot := 7, constantValue := 0 }]
  methods := #[k13m0, k13m1, k13m2]
  instanceTypes := #[]
  staticTypes := #[(.object "java/util/regex/Pattern"), (.object "java/util/regex/Pattern"), (.object "java/util/regex/Pattern"), (.object "java/util/regex/Pattern"), (.object "java/time/ZoneOffset"), (.object "java/time/ZoneOffset"), .int, .int]
  resolved := Array.replicate 257 none
  statics := none }

def pool14 : Array CpInfo := pool [(9, u "accept"), (2, .class_ 14), (1, u "java/util/function/Consumer"), (0, u "(Ljava/lang/Object;)V"), (0, .class_ 17), (0, u "java/lang/Object")] 41

def k14m0 : Method := { name := "accept", desc := "(Ljava/lang/Object;)V", sig := { parameters := [(.object "java/lang/Object")], returnType := none }, accessFlags := 1025, code := none }
/-- java/util/function/Consumer -/
def k14 : Class := { plain "java/util/function/Consumer" (some 0) with
  accessFlags := 1537
  interfaces := #[]
  cf := some (fileOf pool14 12 #[] #[{ accessFlags := 1025, nameIndex := 9, descriptorIndex := 15, attributes := #[] }] 1537 16 #[] #[])
  fields := #[]
  methods := #[k14m0]
  instanceTypes := #[]
  staticTypes := #[]
  resolved := Array.replicate 59 none
  statics := none }

def pool15 : Array CpInfo := pool [(2, .class_ 4), (1, u "java/lang/Object"), (0, u "<init>"), (0, u "()V"), (1, .class_ 10), (1, u "java/lang/CharacterData")] 75

def k15m0 : Method := { name := "<init>", desc := "()V", sig := { parameters := [], returnType := none }, accessFlags := 0, code := none }
/-- java/lang/CharacterData -/
def k15 : Class := { plain "java/lang/CharacterData" (some 0) with
  accessFlags := 1056
  interfaces := #[]
  cf := some (fileOf pool15 8 #[] #[{ accessFlags := 0, nameIndex := 5, descriptorIndex := 6, attributes := #[] }] 1056 2 #[] #[])
  fields := #[]
  methods := #[k15m0]
  instanceTypes := #[]
  staticTypes := #[]
  resolved := Array.replicate 86 none
  statics := none }

def pool16 : Array CpInfo := pool [(1, .fieldref 2 3), (0, .class_ 4), (0, .nameAndType 5 6), (0, u "java/lang/CharacterDataLatin1"), (0, u "A"), (0, u "[I"), (2, u "B"), (0, u "[C"), (3, u "(I)I"), (0, .methodref 2 16), (0, .nameAndType 17 14), (0, u "getProperties"), (3, u "(I)Z"), (5, u "DIGITS"), (0, u "[B"), (8, u "sharpsMap"), (1, .class_ 41), (1, u "java/lang/CharacterData"), (0, u "<init>"), (0, u "()V"), (3, u "instance"), (0, u "Ljava/lang/CharacterDataLatin1;"), (78, u "isWhitespace")] 13

def k16c0 : Code := { maxStack := 2, maxLocals := 4, code := jdk_116_method_1_code, exceptionTable := #[], attributes := #[] }
def k16m0 : Method := { name := "getProperties", desc := "(I)I", sig := { parameters := [.int], returnType := some .int }, accessFlags := 0, code := some k16c0 }
def k16c1 : Code := { maxStack := 2, maxLocals := 3, code := jdk_116_method_26_code, exceptionTable := #[], attributes := #[] }
def k16m1 : Method := { name := "isWhitespace", desc := "(I)Z", sig := { parameters := [.int], returnType := some .boolean }, accessFlags := 0, code := some k16c1 }
def k16m2 : Method := { name := "<init>", desc := "()V", sig := { parameters := [], returnType := none }, accessFlags := 2, code := none }
/-- java/lang/CharacterDataLatin1 -/
def k16 : Class := { plain "java/lang/CharacterDataLatin1" (some 15) with
  accessFlags := 32
  interfaces := #[]
  cf := some (fileOf pool16 2 #[] #[{ accessFlags := 0, nameIndex := 17, descriptorIndex := 14, attributes := #[] }, { accessFlags := 0, nameIndex := 127, descriptorIndex := 21, attributes := #[] }, { accessFlags := 2, nameIndex := 42, descriptorIndex := 43, attributes := #[] }] 32 39 #[] #[{ accessFlags := 26, nameIndex := 27, descriptorIndex := 28, attributes := #[] }, { accessFlags := 8, nameIndex := 37, descriptorIndex := 10, attributes := #[] }, { accessFlags := 24, nameIndex := 47, descriptorIndex := 48, attributes := #[] }, { accessFlags := 24, nameIndex := 5, descriptorIndex := 6, attributes := #[] }, { accessFlags := 24, nameIndex := 9, descriptorIndex := 10, attributes := #[] }])
  fields := #[{ name := "DIGITS", type := (.array .byte), accessFlags := 26, slot := 0, constantValue := 0 }, { name := "sharpsMap", type := (.array .char), accessFlags := 8, slot := 1, constantValue := 0 }, { name := "instance", type := (.object "java/lang/CharacterDataLatin1"), accessFlags := 24, slot := 2, constantValue := 0 }, { name := "A", type := (.array .int), accessFlags := 24, slot := 3, constantValue := 0 }, { name := "B", type := (.array .char), accessFlags := 24, slot := 4, constantValue := 0 }]
  methods := #[k16m0, k16m1, k16m2]
  instanceTypes := #[]
  staticTypes := #[(.array .byte), (.array .char), (.object "java/lang/CharacterDataLatin1"), (.array .int), (.array .char)]
  resolved := Array.replicate 141 none
  statics := some 2 }

def pool17 : Array CpInfo := pool [(2, .class_ 4), (1, u "java/lang/Object"), (0, u "<init>"), (0, u "()V"), (17, .class_ 26), (1, u "jdk/internal/util/Preconditions"), (6, u "checkIndex"), (21, .class_ 56), (0, u "jdk/internal/util/Preconditions$4"), (57, .class_ 115), (0, u "jdk/internal/util/Preconditions$1"), (7, u "SIOOBE_FORMATTER"), (0, u "Ljava/util/function/BiFunction;"), (0, .class_ 126), (0, u "jdk/internal/util/Preconditions$2"), (3, u "AIOOBE_FORMATTER"), (0, .class_ 132), (0, u "jdk/internal/util/Preconditions$3"), (3, u "IOOBE_FORMATTER"), (41, u "(IILjava/util/function/BiFunction;)I")] 15

def k17m0 : Method := { name := "<init>", desc := "()V", sig := { parameters := [], returnType := none }, accessFlags := 1, code := none }
def k17c1 : Code := { maxStack := 3, maxLocals := 3, code := jdk_41_method_11_code, exceptionTable := #[], attributes := #[] }
def k17m1 : Method := { name := "checkIndex", desc := "(IILjava/util/function/BiFunction;)I", sig := { parameters := [.int, .int, (.object "java/util/function/BiFunction")], returnType := some .int }, accessFlags := 9, code := some k17c1 }
/-- jdk/internal/util/Preconditions -/
def k17 : Class := { plain "jdk/internal/util/Preconditions" (some 0) with
  accessFlags := 33
  interfaces := #[]
  cf := some (fileOf pool17 24 #[.nestMembers #[55, 131, 125, 114]] #[{ accessFlags := 1, nameIndex := 5, descriptorIndex := 6, attributes := #[] }, { accessFlags := 9, nameIndex := 33, descriptorIndex := 178, attributes := #[] }] 33 2 #[] #[{ accessFlags := 25, nameIndex := 123, descriptorIndex := 124, attributes := #[] }, { accessFlags := 25, nameIndex := 130, descriptorIndex := 124, attributes := #[] }, { accessFlags := 25, nameIndex := 136, descriptorIndex := 124, attributes := #[] }])
  fields := #[{ name := "SIOOBE_FORMATTER", type := (.object "java/util/function/BiFunction"), accessFlags := 25, slot := 0, constantValue := 0 }, { name := "AIOOBE_FORMATTER", type := (.object "java/util/function/BiFunction"), accessFlags := 25, slot := 1, constantValue := 0 }, { name := "IOOBE_FORMATTER", type := (.object "java/util/function/BiFunction"), accessFlags := 25, slot := 2, constantValue := 0 }]
  methods := #[k17m0, k17m1]
  instanceTypes := #[]
  staticTypes := #[(.object "java/util/function/BiFunction"), (.object "java/util/function/BiFunction"), (.object "java/util/function/BiFunction")]
  resolved := Array.replicate 194 none
  statics := some 3 }

def pool18 : Array CpInfo := pool [(1, .class_ 2), (0, u "java/lang/Character"), (18, u "value"), (0, u "C"), (19, .class_ 44), (1, u "java/lang/Object"), (3, .class_ 50), (1, u "java/lang/Character$CharacterCache"), (24, .integer 55296), (0, .integer 56320), (3, u "isHighSurrogate"), (0, u "(C)Z"), (2, u "isLowSurrogate"), (29, u "(I)Z"), (151, .methodref 1 267), (0, .nameAndType 268 114), (0, u "isISOControl"), (15, u "$assertionsDisabled"), (0, u "Z"), (21, .class_ 309), (1, u "java/lang/Character$UnicodeBlock"), (73, u "TYPE"), (0, u "Ljava/lang/Class;"), (0, .class_ 386), (0, u "java/io/Serializable"), (0, .class_ 388), (0, u "java/lang/Comparable"), (0, .class_ 390), (0, u "java/lang/constant/Constable"), (0, u "MIN_RADIX"), (0, u "I"), (2, u "MAX_RADIX"), (1, u "MIN_VALUE"), (1, u "MAX_VALUE"), (3, u "UNASSIGNED"), (0, u "B"), (0, u "UPPERCASE_LETTER"), (1, u "LOWERCASE_LETTER"), (0, u "TITLECASE_LETTER"), (1, u "MODIFIER_LETTER"), (1, u "OTHER_LETTER"), (1, u "NON_SPACING_MARK"), (1, u "ENCLOSING_MARK"), (1, u "COMBINING_SPACING_MARK"), (1, u "DECIMAL_DIGIT_NUMBER"), (1, u "LETTER_NUMBER"), (1, u "OTHER_NUMBER"), (1, u "SPACE_SEPARATOR"), (1, u "LINE_SEPARATOR"), (1, u "PARAGRAPH_SEPARATOR"), (1, u "CONTROL"), (1, u "FORMAT"), (1, u "PRIVATE_USE"), (1, u "SURROGATE"), (1, u "DASH_PUNCTUATION"), (1, u "START_PUNCTUATION"), (1, u "END_PUNCTUATION"), (1, u "CONNECTOR_PUNCTUATION"), (1, u "OTHER_PUNCTUATION"), (1, u "MATH_SYMBOL"), (1, u "CURRENCY_SYMBOL"), (1, u "MODIFIER_SYMBOL"), (1, u "OTHER_SYMBOL"), (1, u "INITIAL_QUOTE_PUNCTUATION"), (1, u "FINAL_QUOTE_PUNCTUATION"), (1, u "ERROR"), (1, u "DIRECTIONALITY_UNDEFINED"), (0, u "DIRECTIONALITY_LEFT_TO_RIGHT"), (0, u "DIRECTIONALITY_RIGHT_TO_LEFT"), (0, u "DIRECTIONALITY_RIGHT_TO_LEFT_ARABIC"), (0, u "DIRECTIONALITY_EUROPEAN_NUMBER"), (0, u "DIRECTIONALITY_EUROPEAN_NUMBER_SEPARATOR"), (0, u "DIRECTIONALITY_EUROPEAN_NUMBER_TERMINATOR"), (0, u "DIRECTIONALITY_ARABIC_NUMBER"), (0, u "DIRECTIONALITY_COMMON_NUMBER_SEPARATOR"), (0, u "DIRECTIONALITY_NONSPACING_MARK"), (0, u "DIRECTIONALITY_BOUNDARY_NEUTRAL"), (0, u "DIRECTIONALITY_PARAGRAPH_SEPARATOR"), (0, u "DIRECTIONALITY_SEGMENT_SEPARATOR"), (0, u "DIRECTIONALITY_WHITESPACE"), (0, u "DIRECTIONALITY_OTHER_NEUTRALS"), (0, u "DIRECTIONALITY_LEFT_TO_RIGHT_EMBEDDING"), (0, u "DIRECTIONALITY_LEFT_TO_RIGHT_OVERRIDE"), (0, u "DIRECTIONALITY_RIGHT_TO_LEFT_EMBEDDING"), (0, u "DIRECTIONALITY_RIGHT_TO_LEFT_OVERRIDE"), (1, u "DIRECTIONALITY_POP_DIRECTIONAL_FORMAT"), (0, u "DIRECTIONALITY_LEFT_TO_RIGHT_ISOLATE"), (0, u "DIRECTIONALITY_RIGHT_TO_LEFT_ISOLATE"), (0, u "DIRECTIONALITY_FIRST_STRONG_ISOLATE"), (0, u "DIRECTIONALITY_POP_DIRECTIONAL_ISOLATE"), (0, u "MIN_HIGH_SURROGATE"), (0, u "MAX_HIGH_SURROGATE"), (1, u "MIN_LOW_SURROGATE"), (0, u "MAX_LOW_SURROGATE"), (1, u "MIN_SURROGATE"), (0, u "MAX_SURROGATE"), (0, u "MIN_SUPPLEMENTARY_CODE_POINT"), (0, u "MIN_CODE_POINT"), (0, u "MAX_CODE_POINT"), (1, u "serialVersionUID"), (0, u "J"), (2, u "SIZE"), (0, u "BYTES"), (88, .class_ 596), (0, u "java/lang/Character$UnicodeScript"), (0, .class_ 598), (0, u "java/lang/Character$Subset")] 5

def k18c0 : Code := { maxStack := 2, maxLocals := 1, code := jdk_89_method_14_code, exceptionTable := #[], attributes := #[] }
def k18m0 : Method := { name := "isHighSurrogate", desc := "(C)Z", sig := { parameters := [.char], returnType := some .boolean }, accessFlags := 9, code := some k18c0 }
def k18c1 : Code := { maxStack := 2, maxLocals := 1, code := jdk_89_method_15_code, exceptionTable := #[], attributes := #[] }
def k18m1 : Method := { name := "isLowSurrogate", desc := "(C)Z", sig := { parameters := [.char], returnType := some .boolean }, accessFlags := 9, code := some k18c1 }
def k18c2 : Code := { maxStack := 1, maxLocals := 1, code := jdk_89_method_88_code, exceptionTable := #[], attributes := #[] }
def k18m2 : Method := { name := "isISOControl", desc := "(C)Z", sig := { parameters := [.char], returnType := some .boolean }, accessFlags := 9, code := some k18c2 }
def k18c3 : Code := { maxStack := 2, maxLocals := 1, code := jdk_89_method_89_code, exceptionTable := #[], attributes := #[] }
def k18m3 : Method := { name := "isISOControl", desc := "(I)Z", sig := { parameters := [.int], returnType := some .boolean }, accessFlags := 9, code := some k18c3 }
/-- java/lang/Character -/
def k18 : Class := { plain "java/lang/Character" (some 0) with
  accessFlags := 49
  interfaces := #[2, 3, 5]
  cf := some (fileOf pool18 1 #[.nestMembers #[48, 595, 307, 597]] #[{ accessFlags := 9, nameIndex := 80, descriptorIndex := 81, attributes := #[] }, { accessFlags := 9, nameIndex := 84, descriptorIndex := 81, attributes := #[] }, { accessFlags := 9, nameIndex := 268, descriptorIndex := 81, attributes := #[] }, { accessFlags := 9, nameIndex := 268, descriptorIndex := 114, attributes := #[] }] 49 42 #[385, 387, 389] #[{ accessFlags := 25, nameIndex := 391, descriptorIndex := 392, attributes := #[] }, { accessFlags := 25, nameIndex := 395, descriptorIndex := 392, attributes := #[] }, { accessFlags := 25, nameIndex := 397, descriptorIndex := 22, attributes := #[] }, { accessFlags := 25, nameIndex := 399, descriptorIndex := 22, attributes := #[] }, { accessFlags := 25, nameIndex := 383, descriptorIndex := 384, attributes := #[] }, { accessFlags := 25, nameIndex := 403, descriptorIndex := 404, attributes := #[] }, { accessFlags := 25, nameIndex := 405, descriptorIndex := 404, attributes := #[] }, { accessFlags := 25, nameIndex := 407, descriptorIndex := 404, attributes := #[] }, { accessFlags := 25, nameIndex := 408, descriptorIndex := 404, attributes := #[] }, { accessFlags := 25, nameIndex := 410, descriptorIndex := 404, attributes := #[] }, { accessFlags := 25, nameIndex := 412, descriptorIndex := 404, attributes := #[] }, { accessFlags := 25, nameIndex := 414, descriptorIndex := 404, attributes := #[] }, { accessFlags := 25, nameIndex := 416, descriptorIndex := 404, attributes := #[] }, { accessFlags := 25, nameIndex := 418, descriptorIndex := 404, attributes := #[] }, { accessFlags := 25, nameIndex := 420, descriptorIndex := 404, attributes := #[] }, { accessFlags := 25, nameIndex := 422, descriptorIndex := 404, attributes := #[] }, { accessFlags := 25, nameIndex := 424, descriptorIndex := 404, attributes := #[] }, { accessFlags := 25, nameIndex := 426, descriptorIndex := 404, attributes := #[] }, { accessFlags := 25, nameIndex := 428, descriptorIndex := 404, attributes := #[] }, { accessFlags := 25, nameIndex := 430, descriptorIndex := 404, attributes := #[] }, { accessFlags := 25, nameIndex := 432, descriptorIndex := 404, attributes := #[] }, { accessFlags := 25, nameIndex := 434, descriptorIndex := 404, attributes := #[] }, { accessFlags := 25, nameIndex := 436, descriptorIndex := 404, attributes := #[] }, { accessFlags := 25, nameIndex := 438, descriptorIndex := 404, attributes := #[] }, { accessFlags := 25, nameIndex := 440, descriptorIndex := 404, attributes := #[] }, { accessFlags := 25, nameIndex := 442, descriptorIndex := 404, attributes := #[] }, { accessFlags := 25, nameIndex := 444, descriptorIndex := 404, attributes := #[] }, { accessFlags := 25, nameIndex := 446, descriptorIndex := 404, attributes := #[] }, { accessFlags := 25, nameIndex := 448, descriptorIndex := 404, attributes := #[] }, { accessFlags := 25, nameIndex := 450, descriptorIndex := 404, attributes := #[] }, { accessFlags := 25, nameIndex := 452, descriptorIndex := 404, attributes := #[] }, { accessFlags := 25, nameIndex := 454, descriptorIndex := 404, attributes := #[] }, { accessFlags := 25, nameIndex := 456, descriptorIndex := 404, attributes := #[] }, { accessFlags := 25, nameIndex := 458, descriptorIndex := 404, attributes := #[] }, { accessFlags := 25, nameIndex := 460, descriptorIndex := 404, attributes := #[] }, { accessFlags := 24, nameIndex := 462, descriptorIndex := 392, attributes := #[] }, { accessFlags := 25, nameIndex := 464, descriptorIndex := 404, attributes := #[] }, { accessFlags := 25, nameIndex := 465, descriptorIndex := 404, attributes := #[] }, { accessFlags := 25, nameIndex := 466, descriptorIndex := 404, attributes := #[] }, { accessFlags := 25, nameIndex := 467, descriptorIndex := 404, attributes := #[] }, { accessFlags := 25, nameIndex := 468, descriptorIndex := 404, attributes := #[] }, { accessFlags := 25, nameIndex := 469, descriptorIndex := 404, attributes := #[] }, { accessFlags := 25, nameIndex := 470, descriptorIndex := 404, attributes := #[] }, { accessFlags := 25, nameIndex := 471, descriptorIndex := 404, attributes := #[] }, { accessFlags := 25, nameIndex := 472, descriptorIndex := 404, attributes := #[] }, { accessFlags := 25, nameIndex := 473, descriptorIndex := 404, attributes := #[] }, { accessFlags := 25, nameIndex := 474, descriptorIndex := 404, attributes := #[] }, { accessFlags := 25, nameIndex := 475, descriptorIndex := 404, attributes := #[] }, { accessFlags := 25, nameIndex := 476, descriptorIndex := 404, attributes := #[] }, { accessFlags := 25, nameIndex := 477, descriptorIndex := 404, attributes := #[] }, { accessFlags := 25, nameIndex := 478, descriptorIndex := 404, attributes := #[] }, { accessFlags := 25, nameIndex := 479, descriptorIndex := 404, attributes := #[] }, { accessFlags := 25, nameIndex := 480, descriptorIndex := 404, attributes := #[] }, { accessFlags := 25, nameIndex := 481, descriptorIndex := 404, attributes := #[] }, { accessFlags := 25, nameIndex := 482, descriptorIndex := 404, attributes := #[] }, { accessFlags := 25, nameIndex := 484, descriptorIndex := 404, attributes := #[] }, { accessFlags := 25, nameIndex := 485, descriptorIndex := 404, attributes := #[] }, { accessFlags := 25, nameIndex := 486, descriptorIndex := 404, attributes := #[] }, { accessFlags := 25, nameIndex := 487, descriptorIndex := 404, attributes := #[] }, { accessFlags := 25, nameIndex := 488, descriptorIndex := 404, attributes := #[] }, { accessFlags := 25, nameIndex := 489, descriptorIndex := 22, attributes := #[] }, { accessFlags := 25, nameIndex := 490, descriptorIndex := 22, attributes := #[] }, { accessFlags := 25, nameIndex := 492, descriptorIndex := 22, attributes := #[] }, { accessFlags := 25, nameIndex := 493, descriptorIndex := 22, attributes := #[] }, { accessFlags := 25, nameIndex := 495, descriptorIndex := 22, attributes := #[] }, { accessFlags := 25, nameIndex := 496, descriptorIndex := 22, attributes := #[] }, { accessFlags := 25, nameIndex := 497, descriptorIndex := 392, attributes := #[] }, { accessFlags := 25, nameIndex := 498, descriptorIndex := 392, attributes := #[] }, { accessFlags := 25, nameIndex := 499, descriptorIndex := 392, attributes := #[] }, { accessFlags := 18, nameIndex := 21, descriptorIndex := 22, attributes := #[] }, { accessFlags := 26, nameIndex := 501, descriptorIndex := 502, attributes := #[] }, { accessFlags := 25, nameIndex := 505, descriptorIndex := 392, attributes := #[] }, { accessFlags := 25, nameIndex := 506, descriptorIndex := 392, attributes := #[] }, { accessFlags := 4120, nameIndex := 284, descriptorIndex := 285, attributes := #[] }])
  fields := #[{ name := "MIN_RADIX", type := .int, accessFlags := 25, slot := 0, constantValue := 0 }, { name := "MAX_RADIX", type := .int, accessFlags := 25, slot := 1, constantValue := 0 }, { name := "MIN_VALUE", type := .char, accessFlags := 25, slot := 2, constantValue := 0 }, { name := "MAX_VALUE", type := .char, accessFlags := 25, slot := 3, constantValue := 0 }, { name := "TYPE", type := (.object "java/lang/Class"), accessFlags := 25, slot := 4, constantValue := 0 }, { name := "UNASSIGNED", type := .byte, accessFlags := 25, slot := 5, constantValue := 0 }, { name := "UPPERCASE_LETTER", type := .byte, accessFlags := 25, slot := 6, constantValue := 0 }, { name := "LOWERCASE_LETTER", type := .byte, accessFlags := 25, slot := 7, constantValue := 0 }, { name := "TITLECASE_LETTER", type := .byte, accessFlags := 25, slot := 8, constantValue := 0 }, { name := "MODIFIER_LETTER", type := .byte, accessFlags := 25, slot := 9, constantValue := 0 }, { name := "OTHER_LETTER", type := .byte, accessFlags := 25, slot := 10, constantValue := 0 }, { name := "NON_SPACING_MARK", type := .byte, accessFlags := 25, slot := 11, constantValue := 0 }, { name := "ENCLOSING_MARK", type := .byte, accessFlags := 25, slot := 12, constantValue := 0 }, { name := "COMBINING_SPACING_MARK", type := .byte, accessFlags := 25, slot := 13, constantValue := 0 }, { name := "DECIMAL_DIGIT_NUMBER", type := .byte, accessFlags := 25, slot := 14, constantValue := 0 }, { name := "LETTER_NUMBER", type := .byte, accessFlags := 25, slot := 15, constantValue := 0 }, { name := "OTHER_NUMBER", type := .byte, accessFlags := 25, slot := 16, constantValue := 0 }, { name := "SPACE_SEPARATOR", type := .byte, accessFlags := 25, slot := 17, constantValue := 0 }, { name := "LINE_SEPARATOR", type := .byte, accessFlags := 25, slot := 18, constantValue := 0 }, { name := "PARAGRAPH_SEPARATOR", type := .byte, accessFlags := 25, slot := 19, constantValue := 0 }, { name := "CONTROL", type := .byte, accessFlags := 25, slot := 20, constantValue := 0 }, { name := "FORMAT", type := .byte, accessFlags := 25, slot := 21, constantValue := 0 }, { name := "PRIVATE_USE", type := .byte, accessFlags := 25, slot := 22, constantValue := 0 }, { name := "SURROGATE", type := .byte, accessFlags := 25, slot := 23, constantValue := 0 }, { name := "DASH_PUNCTUATION", type := .byte, accessFlags := 25, slot := 24, constantValue := 0 }, { name := "START_PUNCTUATION", type := .byte, accessFlags := 25, slot := 25, constantValue := 0 }, { name := "END_PUNCTUATION", type := .byte, accessFlags := 25, slot := 26, constantValue := 0 }, { name := "CONNECTOR_PUNCTUATION", type := .byte, accessFlags := 25, slot := 27, constantValue := 0 }, { name := "OTHER_PUNCTUATION", type := .byte, accessFlags := 25, slot := 28, constantValue := 0 }, { name := "MATH_SYMBOL", type := .byte, accessFlags := 25, slot := 29, constantValue := 0 }, { name := "CURRENCY_SYMBOL", type := .byte, accessFlags := 25, slot := 30, constantValue := 0 }, { name := "MODIFIER_SYMBOL", type := .byte, accessFlags := 25, slot := 31, constantValue := 0 }, { name := "OTHER_SYMBOL", type := .byte, accessFlags := 25, slot := 32, constantValue := 0 }, { name := "INITIAL_QUOTE_PUNCTUATION", type := .byte, accessFlags := 25, slot := 33, constantValue := 0 }, { name := "FINAL_QUOTE_PUNCTUATION", type := .byte, accessFlags := 25, slot := 34, constantValue := 0 }, { name := "ERROR", type := .int, accessFlags := 24, slot := 35, constantValue := 0 }, { name := "DIRECTIONALITY_UNDEFINED", type := .byte, accessFlags := 25, slot := 36, constantValue := 0 }, { name := "DIRECTIONALITY_LEFT_TO_RIGHT", type := .byte, accessFlags := 25, slot := 37, constantValue := 0 }, { name := "DIRECTIONALITY_RIGHT_TO_LEFT", type := .byte, accessFlags := 25, slot := 38, constantValue := 0 }, { name := "DIRECTIONALITY_RIGHT_TO_LEFT_ARABIC", type := .byte, accessFlags := 25, slot := 39, constantValue := 0 }, { name := "DIRECTIONALITY_EUROPEAN_NUMBER", type := .byte, accessFlags := 25, slot := 40, constantValue := 0 }, { name := "DIRECTIONALITY_EUROPEAN_NUMBER_SEPARATOR", type := .byte, accessFlags := 25, slot := 41, constantValue := 0 }, { name := "DIRECTIONALITY_EUROPEAN_NUMBER_TERMINATOR", type := .byte, accessFlags := 25, slot := 42, constantValue := 0 }, { name := "DIRECTIONALITY_ARABIC_NUMBER", type := .byte, accessFlags := 25, slot := 43, constantValue := 0 }, { name := "DIRECTIONALITY_COMMON_NUMBER_SEPARATOR", type := .byte, accessFlags := 25, slot := 44, constantValue := 0 }, { name := "DIRECTIONALITY_NONSPACING_MARK", type := .byte, accessFlags := 25, slot := 45, constantValue := 0 }, { name := "DIRECTIONALITY_BOUNDARY_NEUTRAL", type := .byte, accessFlags := 25, slot := 46, constantValue := 0 }, { name := "DIRECTIONALITY_PARAGRAPH_SEPARATOR", type := .byte, accessFlags := 25, slot := 47, constantValue := 0 }, { name := "DIRECTIONALITY_SEGMENT_SEPARATOR", type := .byte, accessFlags := 25, slot := 48, constantValue := 0 }, { name := "DIRECTIONALITY_WHITESPACE", type := .byte, accessFlags := 25, slot := 49, constantValue := 0 }, { name := "DIRECTIONALITY_OTHER_NEUTRALS", type := .byte, accessFlags := 25, slot := 50, constantValue := 0 }, { name := "DIRECTIONALITY_LEFT_TO_RIGHT_EMBEDDING", type := .byte, accessFlags := 25, slot := 51, constantValue := 0 }, { name := "DIRECTIONALITY_LEFT_TO_RIGHT_OVERRIDE", type := .byte, accessFlags := 25, slot := 52, constantValue := 0 }, { name := "DIRECTIONALITY_RIGHT_TO_LEFT_EMBEDDING", type := .byte, accessFlags := 25, slot := 53, constantValue := 0 }, { name := "DIRECTIONALITY_RIGHT_TO_LEFT_OVERRIDE", type := .byte, accessFlags := 25, slot := 54, constantValue := 0 }, { name := "DIRECTIONALITY_POP_DIRECTIONAL_FORMAT", type := .byte, accessFlags := 25, slot := 55, constantValue := 0 }, { name := "DIRECTIONALITY_LEFT_TO_RIGHT_ISOLATE", type := .byte, accessFlags := 25, slot := 56, constantValue := 0 }, { name := "DIRECTIONALITY_RIGHT_TO_LEFT_ISOLATE", type := .byte, accessFlags := 25, slot := 57, constantValue := 0 }, { name := "DIRECTIONALITY_FIRST_STRONG_ISOLATE", type := .byte, accessFlags := 25, slot := 58, constantValue := 0 }, { name := "DIRECTIONALITY_POP_DIRECTIONAL_ISOLATE", type := .byte, accessFlags := 25, slot := 59, constantValue := 0 }, { name := "MIN_HIGH_SURROGATE", type := .char, accessFlags := 25, slot := 60, constantValue := 0 }, { name := "MAX_HIGH_SURROGATE", type := .char, accessFlags := 25, slot := 61, constantValue := 0 }, { name := "MIN_LOW_SURROGATE", type := .char, accessFlags := 25, slot := 62, constantValue := 0 }, { name := "MAX_LOW_SURROGATE", type := .char, accessFlags := 25, slot := 63, constantValue := 0 }, { name := "MIN_SURROGATE", type := .char, accessFlags := 25, slot := 64, constantValue := 0 }, { name := "MAX_SURROGATE", type := .char, accessFlags := 25, slot := 65, constantValue := 0 }, { name := "MIN_SUPPLEMENTARY_CODE_POINT", type := .int, accessFlags := 25, slot := 66, constantValue := 0 }, { name := "MIN_CODE_POINT", type := .int, accessFlags := 25, slot := 67, constantValue := 0 }, { name := "MAX_CODE_POINT", type := .int, accessFlags := 25, slot := 68, constantValue := 0 }, { name := "value", type := .char, accessFlags := 18, slot := 0, constantValue := 0 }, { name := "serialVersionUID", type := .long, accessFlags := 26, slot := 69, constantValue := 0 }, { name := "SIZE", type := .int, accessFlags := 25, slot := 70, constantValue := 0 }, { name := "BYTES", type := .int, accessFlags := 25, slot := 71, constantValue := 0 }, { name := "$assertionsDisabled", type := .boolean, accessFlags := 4120, slot := 72, constantValue := 0 }]
  methods := #[k18m0, k18m1, k18m2, k18m3]
  instanceTypes := #[.char]
  staticTypes := #[.int, .int, .char, .char, (.object "java/lang/Class"), .byte, .byte, .byte, .byte, .byte, .byte, .byte, .byte, .byte, .byte, .byte, .byte, .byte, .byte, .byte, .byte, .byte, .byte, .byte, .byte, .byte, .byte, .byte, .byte, .byte, .byte, .byte, .byte, .byte, .byte, .int, .byte, .byte, .byte, .byte, .byte, .byte, .byte, .byte, .byte, .byte, .byte, .byte, .byte, .byte, .byte, .byte, .byte, .byte, .byte, .byte, .byte, .byte, .byte, .byte, .char, .char, .char, .char, .char, .char, .int, .int, .int, .long, .int, .int, .boolean]
  resolved := Array.replicate 604 none
  statics := none }

def pool19 : Array CpInfo := pool [(9, u "<init>"), (6, .class_ 18), (1, u "java/lang/Object"), (0, u "()V"), (1, .class_ 23), (1, u "jdk/internal/util/ArraysSupport"), (0, u "LOG2_ARRAY_LONG_INDEX_SCALE"), (0, u "I"), (2, u "U"), (0, u "Ljdk/internal/misc/Unsafe;"), (8, u "BIG_ENDIAN"), (0, u "Z"), (8, u "LOG2_BYTE_BIT_SIZE"), (4, u "LOG2_ARRAY_INT_INDEX_SCALE"), (54, u "JLA"), (0, u "Ljdk/internal/access/JavaLangAccess;"), (11, u "LOG2_ARRAY_BOOLEAN_INDEX_SCALE"), (9, u "LOG2_ARRAY_BYTE_INDEX_SCALE"), (5, u "LOG2_ARRAY_CHAR_INDEX_SCALE"), (5, u "LOG2_ARRAY_SHORT_INDEX_SCALE"), (18, u "LOG2_ARRAY_FLOAT_INDEX_SCALE"), (24, u "LOG2_ARRAY_DOUBLE_INDEX_SCALE"), (89, u "T_BOOLEAN"), (2, u "T_CHAR"), (1, u "T_FLOAT"), (1, u "T_DOUBLE"), (1, u "T_BYTE"), (1, u "T_SHORT"), (1, u "T_INT"), (1, u "T_LONG"), (1, u "SOFT_MAX_ARRAY_LENGTH")] 83

def k19m0 : Method := { name := "<init>", desc := "()V", sig := { parameters := [], returnType := none }, accessFlags := 2, code := none }
/-- jdk/internal/util/ArraysSupport -/
def k19 : Class := { plain "jdk/internal/util/ArraysSupport" (some 0) with
  accessFlags := 33
  interfaces := #[]
  cf := some (fileOf pool19 21 #[] #[{ accessFlags := 2, nameIndex := 9, descriptorIndex := 19, attributes := #[] }] 33 16 #[] #[{ accessFlags := 24, nameIndex := 28, descriptorIndex := 29, attributes := #[] }, { accessFlags := 26, nameIndex := 38, descriptorIndex := 39, attributes := #[] }, { accessFlags := 25, nameIndex := 121, descriptorIndex := 25, attributes := #[] }, { accessFlags := 25, nameIndex := 131, descriptorIndex := 25, attributes := #[] }, { accessFlags := 25, nameIndex := 137, descriptorIndex := 25, attributes := #[] }, { accessFlags := 25, nameIndex := 143, descriptorIndex := 25, attributes := #[] }, { accessFlags := 25, nameIndex := 53, descriptorIndex := 25, attributes := #[] }, { accessFlags := 25, nameIndex := 24, descriptorIndex := 25, attributes := #[] }, { accessFlags := 25, nameIndex := 162, descriptorIndex := 25, attributes := #[] }, { accessFlags := 25, nameIndex := 187, descriptorIndex := 25, attributes := #[] }, { accessFlags := 26, nameIndex := 48, descriptorIndex := 25, attributes := #[] }, { accessFlags := 25, nameIndex := 277, descriptorIndex := 25, attributes := #[] }, { accessFlags := 25, nameIndex := 280, descriptorIndex := 25, attributes := #[] }, { accessFlags := 25, nameIndex := 282, descriptorIndex := 25, attributes := #[] }, { accessFlags := 25, nameIndex := 284, descriptorIndex := 25, attributes := #[] }, { accessFlags := 25, nameIndex := 286, descriptorIndex := 25, attributes := #[] }, { accessFlags := 25, nameIndex := 288, descriptorIndex := 25, attributes := #[] }, { accessFlags := 25, nameIndex := 290, descriptorIndex := 25, attributes := #[] }, { accessFlags := 25, nameIndex := 292, descriptorIndex := 25, attributes := #[] }, { accessFlags := 26, nameIndex := 108, descriptorIndex := 109, attributes := #[] }, { accessFlags := 25, nameIndex := 294, descriptorIndex := 25, attributes := #[] }])
  fields := #[{ name := "U", type := (.object "jdk/internal/misc/Unsafe"), accessFlags := 24, slot := 0, constantValue := 0 }, { name := "BIG_ENDIAN", type := .boolean, accessFlags := 26, slot := 1, constantValue := 0 }, { name := "LOG2_ARRAY_BOOLEAN_INDEX_SCALE", type := .int, accessFlags := 25, slot := 2, constantValue := 0 }, { name := "LOG2_ARRAY_BYTE_INDEX_SCALE", type := .int, accessFlags := 25, slot := 3, constantValue := 0 }, { name := "LOG2_ARRAY_CHAR_INDEX_SCALE", type := .int, accessFlags := 25, slot := 4, constantValue := 0 }, { name := "LOG2_ARRAY_SHORT_INDEX_SCALE", type := .int, accessFlags := 25, slot := 5, constantValue := 0 }, { name := "LOG2_ARRAY_INT_INDEX_SCALE", type := .int, accessFlags := 25, slot := 6, constantValue := 0 }, { name := "LOG2_ARRAY_LONG_INDEX_SCALE", type := .int, accessFlags := 25, slot := 7, constantValue := 0 }, { name := "LOG2_ARRAY_FLOAT_INDEX_SCALE", type := .int, accessFlags := 25, slot := 8, constantValue := 0 }, { name := "LOG2_ARRAY_DOUBLE_INDEX_SCALE", type := .int, accessFlags := 25, slot := 9, constantValue := 0 }, { name := "LOG2_BYTE_BIT_SIZE", type := .int, accessFlags := 26, slot := 10, constantValue := 0 }, { name := "T_BOOLEAN", type := .int, accessFlags := 25, slot := 11, constantValue := 0 }, { name := "T_CHAR", type := .int, accessFlags := 25, slot := 12, constantValue := 0 }, { name := "T_FLOAT", type := .int, accessFlags := 25, slot := 13, constantValue := 0 }, { name := "T_DOUBLE", type := .int, accessFlags := 25, slot := 14, constantValue := 0 }, { name := "T_BYTE", type := .int, accessFlags := 25, slot := 15, constantValue := 0 }, { name := "T_SHORT", type := .int, accessFlags := 25, slot := 16, constantValue := 0 }, { name := "T_INT", type := .int, accessFlags := 25, slot := 17, constantValue := 0 }, { name := "T_LONG", type := .int, accessFlags := 25, slot := 18, constantValue := 0 }, { name := "JLA", type := (.object "jdk/internal/access/JavaLangAccess"), accessFlags := 26, slot := 19, constantValue := 0 }, { name := "SOFT_MAX_ARRAY_LENGTH", type := .int, accessFlags := 25, slot := 20, constantValue := 0 }]
  methods := #[k19m0]
  instanceTypes := #[]
  staticTypes := #[(.object "jdk/internal/misc/Unsafe"), .boolean, .int, .int, .int, .int, .int, .int, .int, .int, .int, .int, .int, .int, .int, .int, .int, .int, .int, (.object "jdk/internal/access/JavaLangAccess"), .int]
  resolved := Array.replicate 378 none
  statics := some 4 }

def pool20 : Array CpInfo := pool [(1, u "java/lang/Cloneable"), (0, .class_ 1), (0, u "java/lang/Object"), (0, .class_ 3)] 3

/-- java/lang/Cloneable -/
def k20 : Class := { plain "java/lang/Cloneable" (some 0) with
  accessFlags := 1537
  interfaces := #[]
  cf := some (fileOf pool20 2 #[] #[] 1537 4 #[] #[])
  fields := #[]
  methods := #[]
  instanceTypes := #[]
  staticTypes := #[]
  resolved := Array.replicate 8 none
  statics := none }

/-- the primitive byte -/
def k21 : Class := { plain "byte" none with kind := .primitive 'B', accessFlags := 0x411 }
/-- [B -/
def k22 : Class := { plain "[B" (some 0) with kind := .array 21 .byte, interfaces := #[20, 2], accessFlags := 1041 }

/-- the primitive int -/
def k23 : Class := { plain "int" none with kind := .primitive 'I', accessFlags := 0x411 }
/-- [I -/
def k24 : Class := { plain "[I" (some 0) with kind := .array 23 .int, interfaces := #[20, 2], accessFlags := 1041 }

def classes0 : Array Class := #[k0, k1, k2, k3, k4, k5, k6, k7, k8, k9, k10, k11, k12, k13, k14, k15, k16, k17, k18, k19, k20, k21, k22, k23, k24]
/-- the class that the rule has made for the site at 11 of com/example/labmeld/labmeld/finding/Finding$Address.<init> -/
def k25 : Class := Jvm.LamKit.madeRec { classes := classes0 } "com/example/labmeld/labmeld/finding/Finding$Address" (Jvm.Lambda.Shape.mk "java/util/function/Consumer" "accept" (Jvm.ClassFile.MethodDescriptor.mk ([(Jvm.ClassFile.FieldType.object "java/lang/Object")] : List Jvm.ClassFile.FieldType) (Option.none : Option Jvm.ClassFile.FieldType)) ([] : List Jvm.ClassFile.FieldType) (6 : Nat) "com/example/labmeld/labmeld/finding/Finding$Address" "lambda$new$0" (Jvm.ClassFile.MethodDescriptor.mk ([(Jvm.ClassFile.FieldType.object "java/lang/String")] : List Jvm.ClassFile.FieldType) (Option.none : Option Jvm.ClassFile.FieldType)) false (Jvm.ClassFile.MethodDescriptor.mk ([(Jvm.ClassFile.FieldType.object "java/lang/String")] : List Jvm.ClassFile.FieldType) (Option.none : Option Jvm.ClassFile.FieldType))) 25

/-- the class that the rule has made for the site at 26 of com/example/labmeld/labmeld/finding/Finding$Address.<init> -/
def k26 : Class := Jvm.LamKit.madeRec { classes := classes0 } "com/example/labmeld/labmeld/finding/Finding$Address" (Jvm.Lambda.Shape.mk "java/util/function/Consumer" "accept" (Jvm.ClassFile.MethodDescriptor.mk ([(Jvm.ClassFile.FieldType.object "java/lang/Object")] : List Jvm.ClassFile.FieldType) (Option.none : Option Jvm.ClassFile.FieldType)) ([] : List Jvm.ClassFile.FieldType) (6 : Nat) "com/example/labmeld/labmeld/finding/Finding$Address" "lambda$new$1" (Jvm.ClassFile.MethodDescriptor.mk ([(Jvm.ClassFile.FieldType.object "java/lang/String")] : List Jvm.ClassFile.FieldType) (Option.none : Option Jvm.ClassFile.FieldType)) false (Jvm.ClassFile.MethodDescriptor.mk ([(Jvm.ClassFile.FieldType.object "java/lang/String")] : List Jvm.ClassFile.FieldType) (Option.none : Option Jvm.ClassFile.FieldType))) 26

/-- the class that the rule has made for the site at 41 of com/example/labmeld/labmeld/finding/Finding$Address.<init> -/
def k27 : Class := Jvm.LamKit.madeRec { classes := classes0 } "com/example/labmeld/labmeld/finding/Finding$Address" (Jvm.Lambda.Shape.mk "java/util/function/Consumer" "accept" (Jvm.ClassFile.MethodDescriptor.mk ([(Jvm.ClassFile.FieldType.object "java/lang/Object")] : List Jvm.ClassFile.FieldType) (Option.none : Option Jvm.ClassFile.FieldType)) ([] : List Jvm.ClassFile.FieldType) (6 : Nat) "com/example/labmeld/labmeld/finding/Finding$Address" "lambda$new$2" (Jvm.ClassFile.MethodDescriptor.mk ([(Jvm.ClassFile.FieldType.object "java/lang/String")] : List Jvm.ClassFile.FieldType) (Option.none : Option Jvm.ClassFile.FieldType)) false (Jvm.ClassFile.MethodDescriptor.mk ([(Jvm.ClassFile.FieldType.object "java/lang/String")] : List Jvm.ClassFile.FieldType) (Option.none : Option Jvm.ClassFile.FieldType))) 27

/-- the class that the rule has made for the site at 58 of com/example/labmeld/labmeld/finding/Finding$Address.<init> -/
def k28 : Class := Jvm.LamKit.madeRec { classes := classes0 } "com/example/labmeld/labmeld/finding/Finding$Address" (Jvm.Lambda.Shape.mk "java/util/function/Consumer" "accept" (Jvm.ClassFile.MethodDescriptor.mk ([(Jvm.ClassFile.FieldType.object "java/lang/Object")] : List Jvm.ClassFile.FieldType) (Option.none : Option Jvm.ClassFile.FieldType)) ([] : List Jvm.ClassFile.FieldType) (6 : Nat) "com/example/labmeld/labmeld/finding/Finding$Address" "lambda$new$3" (Jvm.ClassFile.MethodDescriptor.mk ([(Jvm.ClassFile.FieldType.object "java/lang/String")] : List Jvm.ClassFile.FieldType) (Option.none : Option Jvm.ClassFile.FieldType)) false (Jvm.ClassFile.MethodDescriptor.mk ([(Jvm.ClassFile.FieldType.object "java/lang/String")] : List Jvm.ClassFile.FieldType) (Option.none : Option Jvm.ClassFile.FieldType))) 28

/-- the class that the rule has made for the site at 75 of com/example/labmeld/labmeld/finding/Finding$Address.<init> -/
def k29 : Class := Jvm.LamKit.madeRec { classes := classes0 } "com/example/labmeld/labmeld/finding/Finding$Address" (Jvm.Lambda.Shape.mk "java/util/function/Consumer" "accept" (Jvm.ClassFile.MethodDescriptor.mk ([(Jvm.ClassFile.FieldType.object "java/lang/Object")] : List Jvm.ClassFile.FieldType) (Option.none : Option Jvm.ClassFile.FieldType)) ([] : List Jvm.ClassFile.FieldType) (6 : Nat) "com/example/labmeld/labmeld/finding/Finding$Address" "lambda$new$4" (Jvm.ClassFile.MethodDescriptor.mk ([(Jvm.ClassFile.FieldType.object "java/lang/String")] : List Jvm.ClassFile.FieldType) (Option.none : Option Jvm.ClassFile.FieldType)) false (Jvm.ClassFile.MethodDescriptor.mk ([(Jvm.ClassFile.FieldType.object "java/lang/String")] : List Jvm.ClassFile.FieldType) (Option.none : Option Jvm.ClassFile.FieldType))) 29

def heap : Heap := #[{ cls := 7, slots := #[.long 0, .int 1, .null, .int 0, .null, .int 0, .int 0], vm := .statics 7 },
  { cls := 11, slots := #[.ref 10], vm := .statics 11 },
  { cls := 16, slots := #[.null, .null, .ref 11, .ref 12, .null], vm := .statics 16 },
  { cls := 17, slots := #[.null, .null, .null], vm := .statics 17 },
  { cls := 19, slots := #[.null, .int 0, .int 0, .int 0, .int 0, .int 0, .int 0, .int 3, .int 0, .int 0, .int 0, .int 0, .int 0, .int 0, .int 0, .int 0, .int 0, .int 0, .int 0, .null, .int 0], vm := .statics 19 },
  { cls := 25, slots := #[], vm := .none },
  { cls := 26, slots := #[], vm := .none },
  { cls := 27, slots := #[], vm := .none },
  { cls := 28, slots := #[], vm := .none },
  { cls := 29, slots := #[], vm := .none },
  { cls := 11, slots := #[.null], vm := .none },
  { cls := 16, slots := #[], vm := .none },
  { cls := 24, slots := #[.int 1207963663, .int 1207963663, .int 1207963663, .int 1207963663, .int 1207963663, .int 1207963663, .int 1207963663, .int 1207963663, .int 1207963663, .int 1476411407, .int 1342193679, .int 1476411407, .int 1610629135, .int 1342193679, .int 1207963663, .int 1207963663, .int 1207963663, .int 1207963663, .int 1207963663, .int 1207963663, .int 1207963663, .int 1207963663, .int 1207963663, .int 1207963663, .int 1207963663, .int 1207963663, .int 1207963663, .int 1207963663, .int 1342193679, .int 1342193679, .int 1342193679, .int 1476411407, .int 1610629132, .int 1744830488, .int 1744830488, .int 671088664, .int 671113242, .int 671088664, .int 1744830488, .int 1744830488, .int (-402653163), .int (-402653162), .int 1744830488, .int 536870937, .int 939524120, .int 536870932, .int 939524120, .int 939524120, .int 402667017, .int 402667017, .int 402667017, .int 402667017, .int 402667017, .int 402667017, .int 402667017, .int 402667017, .int 402667017, .int 402667017, .int 939524120, .int 1744830488, .int (-402653159), .int 1744830489, .int (-402653159), .int 1744830488, .int 1744830488, .int 8552417, .int 8552417, .int 8552417, .int 8552417, .int 8552417, .int 8552417, .int 8552417, .int 8552417, .int 8552417, .int 8552417, .int 8552417, .int 8552417, .int 8552417, .int 8552417, .int 8552417, .int 8552417, .int 8552417, .int 8552417, .int 8552417, .int 8552417, .int 8552417, .int 8552417, .int 8552417, .int 8552417, .int 8552417, .int 8552417, .int (-402653163), .int 1744830488, .int (-402653162), .int 1744830491, .int 1744850967, .int 1744830491, .int 8486882, .int 8486882, .int 8486882, .int 8486882, .int 8486882, .int 8486882, .int 8486882, .int 8486882, .int 8486882, .int 8486882, .int 8486882, .int 8486882, .int 8486882, .int 8486882, .int 8486882, .int 8486882, .int 8486882, .int 8486882, .int 8486882, .int 8486882, .int 8486882, .int 8486882, .int 8486882, .int 8486882, .int 8486882, .int 8486882, .int (-402653163), .int 1744830489, .int (-402653162), .int 1744830489, .int 1207963663, .int 1207963663, .int 1207963663, .int 1207963663, .int 1207963663, .int 1207963663, .int 1342181391, .int 1207963663, .int 1207963663, .int 1207963663, .int 1207963663, .int 1207963663, .int 1207963663, .int 1207963663, .int 1207963663, .int 1207963663, .int 1207963663, .int 1207963663, .int 1207963663, .int 1207963663, .int 1207963663, .int 1207963663, .int 1207963663, .int 1207963663, .int 1207963663, .int 1207963663, .int 1207963663, .int 1207963663, .int 1207963663, .int 1207963663, .int 1207963663, .int 1207963663, .int 1207963663, .int 939524108, .int 1744830488, .int 671113242, .int 671113242, .int 671113242, .int 671113242, .int 1744830492, .int 1744830488, .int 1744830491, .int 1744830492, .int 28677, .int (-402653155), .int 1744830489, .int 1207963664, .int 1744830492, .int 1744830491, .int 671088668, .int 671088665, .int 402654731, .int 402654731, .int 1744830491, .int 134049794, .int 1744830488, .int 1744830488, .int 1744830491, .int 402654475, .int 28677, .int (-402653154), .int 1744832523, .int 1744832523, .int 1744832523, .int 1744830488, .int 8548353, .int 8548353, .int 8548353, .int 8548353, .int 8548353, .int 8548353, .int 8548353, .int 8548353, .int 8548353, .int 8548353, .int 8548353, .int 8548353, .int 8548353, .int 8548353, .int 8548353, .int 8548353, .int 8548353, .int 8548353, .int 8548353, .int 8548353, .int 8548353, .int 8548353, .int 8548353, .int 1744830489, .int 8548353, .int 8548353, .int 8548353, .int 8548353, .int 8548353, .int 8548353, .int 8548353, .int 134049794, .int 8482818, .int 8482818, .int 8482818, .int 8482818, .int 8482818, .int 8482818, .int 8482818, .int 8482818, .int 8482818, .int 8482818, .int 8482818, .int 8482818, .int 8482818, .int 8482818, .int 8482818, .int 8482818, .int 8482818, .int 8482818, .int 8482818, .int 8482818, .int 8482818, .int 8482818, .int 8482818, .int 1744830489, .int 8482818, .int 8482818, .int 8482818, .int 8482818, .int 8482818, .int 8482818, .int 8482818, .int 102592514], vm := .none }]
def classes : Array Class := #[k0, k1, k2, k3, k4, k5, k6, k7, k8, k9, k10, k11, k12, k13, k14, k15, k16, k17, k18, k19, k20, k21, k22, k23, k24, k25, k26, k27, k28, k29]
def interned : List (Array UInt16 × Addr) := []
def slotsUsed : Nat := 294
def theMethod : MethodId := ⟨1, 1⟩
def args0 : Array Value := #[.int 1, .int 1, .int 1, .int 1, .int 1, .int 1]
def aboutOver (below : List Frame) : State where
  vm := { classes := classes, interned := interned.toArray }
  heap := heap
  slotsUsed := slotsUsed
  threads := #[{ frames := .invoking theMethod args0 :: below }]
def below0 : List Frame := [.native { method := ⟨0, 0⟩, args := #[] }]
def about1 : State := aboutOver below0
def p0 : Program := .bare "" "" ""
def e0 : Env := launch0.env 0 0 0
theorem w_frames : about1.frames = Frame.invoking theMethod args0 :: below0 := rfl
set_option maxRecDepth 65536 in
theorem w_args : argsFit about1.vm theMethod args0 = true := by decide +kernel
set_option maxRecDepth 65536 in
theorem w_heap : heapFits about1 = true := by decide +kernel
set_option maxRecDepth 65536 in
theorem w_runnable : about1.curStatus? = some .runnable := by decide +kernel
set_option maxRecDepth 65536 in
theorem w_alone : about1.alone = true := by decide +kernel
set_option maxRecDepth 65536 in
theorem w_named : about1.methodNamed? x = some theMethod := by decide +kernel
set_option maxRecDepth 65536 in
theorem w_hears : about1.hears theMethod below0 = true := by decide +kernel
set_option maxRecDepth 65536 in
theorem w_ripe : about1.ripe theMethod args0 below0 = true := by decide +kernel
theorem w_running : about1.status = .running := rfl
set_option maxRecDepth 65536 in
theorem w_room : about1.hasRoom e0.platform room_1 = true :=
  launch0.hasRoom_least _ room_1 (by decide +kernel) (by decide +kernel) (by decide +kernel) (by decide +kernel) (by decide +kernel) (by decide +kernel)
theorem allAtoms_all (ts : List Jvm.Cond) (a : Array Jvm.Value) (st : Jvm.State) : (allAtoms ts).before a st = ts.all (fun c => c.before a st) := by
  induction ts with
  | nil => rfl
  | cons c t ih =>
    show (Jvm.Cond.and c (allAtoms t)).before a st = _
    rw [Jvm.Cond.before_and, ih, List.all_cons]
def words1 : List Jvm.Cond := Jvm.Cond.code x code maxLocals ret :: tables_1
/-- a 'code' word, met by the world's own term for the bytes: nothing is compared byte by byte -/
theorem code_word {y : MethodName} {bytes : ByteArray} {mx : Nat} {rt : Option FieldType} {a : Array Value} {s : State} {m : MethodId} {meth : Method} {c : Code} (h1 : s.methodNamed? y = some m) (h2 : s.vm.method? m = some meth) (h3 : meth.code = some c) (h4 : c.code = bytes)
    (h5 : (c.maxLocals == mx && c.exceptionTable.isEmpty && decide (c.maxStack ≤ mostOperands) && decide (meth.sig.returnType = rt) && !meth.locks && decide (parseMethodDescriptor y.desc = some meth.sig)) = true) : (Jvm.Cond.code y bytes mx rt).before a s = true := by
  simp only [Bool.and_eq_true, beq_iff_eq, Bool.not_eq_true', decide_eq_true_eq] at h5
  obtain ⟨⟨⟨⟨⟨g1, g2⟩, g3⟩, g4⟩, g5⟩, g6⟩ := h5
  simp [Cond.before, Cond.holds, Cond.value, h1, h2, h3, h4, g1, g2, g3, g4, g5, g6]
def isCode : Jvm.Cond → Bool
  | .code _ _ _ _ => true
  | _ => false
theorem all_split {L : List Jvm.Cond} {P : Jvm.Cond → Bool} (h1 : L.all (fun c => isCode c || P c) = true) (h2 : ∀ c ∈ L.filter isCode, P c = true) : L.all P = true := by
  refine List.all_eq_true.mpr fun c hc => ?_
  have h := List.all_eq_true.mp h1 c hc
  rcases Bool.eq_false_or_eq_true (isCode c) with hi | hi
  · exact h2 c (List.mem_filter.mpr ⟨hc, hi⟩)
  · simpa [hi] using h
set_option maxRecDepth 65536 in
theorem w_c0 : (Jvm.Cond.code x code maxLocals ret).before args0 about1 = true := code_word (m := ⟨1, 1⟩) (meth := k1m1) (c := k1c1) (by decide +kernel) rfl rfl rfl (by decide +kernel)
set_option maxRecDepth 65536 in
theorem w_c1 : (Jvm.Cond.code ({ cls := "java/lang/String", name := "valueOf", desc := "(C)Ljava/lang/String;" } : Jvm.MethodName) jdk_42_method_139_code (1 : Nat) (Option.some (Jvm.ClassFile.FieldType.object "java/lang/String"))).before args0 about1 = true := code_word (m := ⟨7, 5⟩) (meth := k7m5) (c := k7c5) (by decide +kernel) rfl rfl rfl (by decide +kernel)
set_option maxRecDepth 65536 in
theorem w_c2 : (Jvm.Cond.code ({ cls := "java/lang/StringLatin1", name := "canEncode", desc := "(C)Z" } : Jvm.MethodName) jdk_43_method_3_code (1 : Nat) (Option.some Jvm.ClassFile.FieldType.boolean)).before args0 about1 = true := code_word (m := ⟨8, 2⟩) (meth := k8m2) (c := k8c2) (by decide +kernel) rfl rfl rfl (by decide +kernel)
set_option maxRecDepth 65536 in
theorem w_c3 : (Jvm.Cond.code ({ cls := "java/lang/StringLatin1", name := "toBytes", desc := "(C)[B" } : Jvm.MethodName) jdk_43_method_46_code (1 : Nat) (Option.some (Jvm.ClassFile.FieldType.array Jvm.ClassFile.FieldType.byte))).before args0 about1 = true := code_word (m := ⟨8, 5⟩) (meth := k8m5) (c := k8c5) (by decide +kernel) rfl rfl rfl (by decide +kernel)
set_option maxRecDepth 65536 in
theorem w_c4 : (Jvm.Cond.code ({ cls := "java/lang/String", name := "<init>", desc := "([BB)V" } : Jvm.MethodName) jdk_42_method_151_code (3 : Nat) (Option.none : Option Jvm.ClassFile.FieldType)).before args0 about1 = true := code_word (m := ⟨7, 6⟩) (meth := k7m6) (c := k7c6) (by decide +kernel) rfl rfl rfl (by decide +kernel)
set_option maxRecDepth 65536 in
theorem w_c5 : (Jvm.Cond.code ({ cls := "java/lang/Object", name := "<init>", desc := "()V" } : Jvm.MethodName) object_method_1_code (1 : Nat) (Option.none : Option Jvm.ClassFile.FieldType)).before args0 about1 = true := code_word (m := ⟨0, 0⟩) (meth := k0m0) (c := k0c0) (by decide +kernel) rfl rfl rfl (by decide +kernel)
set_option maxRecDepth 65536 in
theorem w_c6 : (Jvm.Cond.code ({ cls := "com/example/labmeld/labmeld/finding/AddressCheckAnyPartPinLaw", name := "part", desc := "(III)Ljava/util/Optional;" } : Jvm.MethodName) method_3_code (3 : Nat) (Option.some (Jvm.ClassFile.FieldType.object "java/util/Optional"))).before args0 about1 = true := code_word (m := ⟨1, 2⟩) (meth := k1m2) (c := k1c2) (by decide +kernel) rfl rfl rfl (by decide +kernel)
set_option maxRecDepth 65536 in
theorem w_c7 : (Jvm.Cond.code ({ cls := "java/util/Optional", name := "of", desc := "(Ljava/lang/Object;)Ljava/util/Optional;" } : Jvm.MethodName) jdk_32_method_3_code (1 : Nat) (Option.some (Jvm.ClassFile.FieldType.object "java/util/Optional"))).before args0 about1 = true := code_word (m := ⟨11, 2⟩) (meth := k11m2) (c := k11c2) (by decide +kernel) rfl rfl rfl (by decide +kernel)
set_option maxRecDepth 65536 in
theorem w_c8 : (Jvm.Cond.code ({ cls := "java/util/Objects", name := "requireNonNull", desc := "(Ljava/lang/Object;)Ljava/lang/Object;" } : Jvm.MethodName) jdk_31_method_10_code (1 : Nat) (Option.some (Jvm.ClassFile.FieldType.object "java/lang/Object"))).before args0 about1 = true := code_word (m := ⟨12, 1⟩) (meth := k12m1) (c := k12c1) (by decide +kernel) rfl rfl rfl (by decide +kernel)
set_option maxRecDepth 65536 in
theorem w_c9 : (Jvm.Cond.code ({ cls := "java/util/Optional", name := "<init>", desc := "(Ljava/lang/Object;)V" } : Jvm.MethodName) jdk_32_method_2_code (2 : Nat) (Option.none : Option Jvm.ClassFile.FieldType)).before args0 about1 = true := code_word (m := ⟨11, 1⟩) (meth := k11m1) (c := k11c1) (by decide +kernel) rfl rfl rfl (by decide +kernel)
set_option maxRecDepth 65536 in
theorem w_c10 : (Jvm.Cond.code ({ cls := "java/util/Optional", name := "empty", desc := "()Ljava/util/Optional;" } : Jvm.MethodName) jdk_32_method_1_code (1 : Nat) (Option.some (Jvm.ClassFile.FieldType.object "java/util/Optional"))).before args0 about1 = true := code_word (m := ⟨11, 0⟩) (meth := k11m0) (c := k11c0) (by decide +kernel) rfl rfl rfl (by decide +kernel)
set_option maxRecDepth 65536 in
theorem w_c11 : (Jvm.Cond.code ({ cls := "com/example/labmeld/labmeld/finding/Finding$Address", name := "<init>", desc := "(Ljava/util/Optional;Ljava/util/Optional;Ljava/util/Optional;Ljava/util/Optional;Ljava/util/Optional;)V" } : Jvm.MethodName) prog_20_method_1_code (6 : Nat) (Option.none : Option Jvm.ClassFile.FieldType)).before args0 about1 = true := code_word (m := ⟨10, 0⟩) (meth := k10m0) (c := k10c0) (by decide +kernel) rfl rfl rfl (by decide +kernel)
set_option maxRecDepth 65536 in
theorem w_c12 : (Jvm.Cond.code ({ cls := "java/lang/Record", name := "<init>", desc := "()V" } : Jvm.MethodName) jdk_30_method_1_code (1 : Nat) (Option.none : Option Jvm.ClassFile.FieldType)).before args0 about1 = true := code_word (m := ⟨9, 0⟩) (meth := k9m0) (c := k9c0) (by decide +kernel) rfl rfl rfl (by decide +kernel)
set_option maxRecDepth 65536 in
theorem w_c13 : (Jvm.Cond.code ({ cls := "com/example/labmeld/labmeld/finding/Check", name := "present", desc := "(Ljava/lang/String;Ljava/lang/Object;)V" } : Jvm.MethodName) prog_17_method_2_code (2 : Nat) (Option.none : Option Jvm.ClassFile.FieldType)).before args0 about1 = true := code_word (m := ⟨13, 1⟩) (meth := k13m1) (c := k13c1) (by decide +kernel) rfl rfl rfl (by decide +kernel)
set_option maxRecDepth 65536 in
theorem w_c14 : (Jvm.Cond.code ({ cls := "java/util/Optional", name := "ifPresent", desc := "(Ljava/util/function/Consumer;)V" } : Jvm.MethodName) jdk_32_method_8_code (2 : Nat) (Option.none : Option Jvm.ClassFile.FieldType)).before args0 about1 = true := code_word (m := ⟨11, 4⟩) (meth := k11m4) (c := k11c4) (by decide +kernel) rfl rfl rfl (by decide +kernel)
set_option maxRecDepth 65536 in
theorem w_c15 : (Jvm.Cond.code ({ cls := "com/example/labmeld/labmeld/finding/Finding$Address", name := "lambda$new$0", desc := "(Ljava/lang/String;)V" } : Jvm.MethodName) prog_20_method_16_code (1 : Nat) (Option.none : Option Jvm.ClassFile.FieldType)).before args0 about1 = true := code_word (m := ⟨10, 6⟩) (meth := k10m6) (c := k10c6) (by decide +kernel) rfl rfl rfl (by decide +kernel)
set_option maxRecDepth 65536 in
theorem w_c16 : (Jvm.Cond.code ({ cls := "com/example/labmeld/labmeld/finding/Check", name := "text", desc := "(Ljava/lang/String;Ljava/lang/String;)Ljava/lang/String;" } : Jvm.MethodName) prog_17_method_4_code (5 : Nat) (Option.some (Jvm.ClassFile.FieldType.object "java/lang/String"))).before args0 about1 = true := code_word (m := ⟨13, 2⟩) (meth := k13m2) (c := k13c2) (by decide +kernel) rfl rfl rfl (by decide +kernel)
set_option maxRecDepth 65536 in
theorem w_c17 : (Jvm.Cond.code ({ cls := "java/lang/String", name := "isBlank", desc := "()Z" } : Jvm.MethodName) jdk_42_method_117_code (1 : Nat) (Option.some Jvm.ClassFile.FieldType.boolean)).before args0 about1 = true := code_word (m := ⟨7, 3⟩) (meth := k7m3) (c := k7c3) (by decide +kernel) rfl rfl rfl (by decide +kernel)
set_option maxRecDepth 65536 in
theorem w_c18 : (Jvm.Cond.code ({ cls := "java/lang/String", name := "indexOfNonWhitespace", desc := "()I" } : Jvm.MethodName) jdk_42_method_120_code (1 : Nat) (Option.some Jvm.ClassFile.FieldType.int)).before args0 about1 = true := code_word (m := ⟨7, 4⟩) (meth := k7m4) (c := k7c4) (by decide +kernel) rfl rfl rfl (by decide +kernel)
set_option maxRecDepth 65536 in
theorem w_c19 : (Jvm.Cond.code ({ cls := "java/lang/String", name := "isLatin1", desc := "()Z" } : Jvm.MethodName) jdk_42_method_154_code (1 : Nat) (Option.some Jvm.ClassFile.FieldType.boolean)).before args0 about1 = true := code_word (m := ⟨7, 8⟩) (meth := k7m8) (c := k7c8) (by decide +kernel) rfl rfl rfl (by decide +kernel)
set_option maxRecDepth 65536 in
theorem w_c20 : (Jvm.Cond.code ({ cls := "java/lang/StringLatin1", name := "indexOfNonWhitespace", desc := "([B)I" } : Jvm.MethodName) jdk_43_method_37_code (4 : Nat) (Option.some Jvm.ClassFile.FieldType.int)).before args0 about1 = true := code_word (m := ⟨8, 3⟩) (meth := k8m3) (c := k8c3) (by decide +kernel) rfl rfl rfl (by decide +kernel)
set_option maxRecDepth 65536 in
theorem w_c21 : (Jvm.Cond.code ({ cls := "java/lang/StringLatin1", name := "getChar", desc := "([BI)C" } : Jvm.MethodName) jdk_43_method_44_code (2 : Nat) (Option.some Jvm.ClassFile.FieldType.char)).before args0 about1 = true := code_word (m := ⟨8, 4⟩) (meth := k8m4) (c := k8c4) (by decide +kernel) rfl rfl rfl (by decide +kernel)
set_option maxRecDepth 65536 in
theorem w_c22 : (Jvm.Cond.code ({ cls := "java/lang/CharacterDataLatin1", name := "isWhitespace", desc := "(I)Z" } : Jvm.MethodName) jdk_116_method_26_code (3 : Nat) (Option.some Jvm.ClassFile.FieldType.boolean)).before args0 about1 = true := code_word (m := ⟨16, 1⟩) (meth := k16m1) (c := k16c1) (by decide +kernel) rfl rfl rfl (by decide +kernel)
set_option maxRecDepth 65536 in
theorem w_c23 : (Jvm.Cond.code ({ cls := "java/lang/CharacterDataLatin1", name := "getProperties", desc := "(I)I" } : Jvm.MethodName) jdk_116_method_1_code (4 : Nat) (Option.some Jvm.ClassFile.FieldType.int)).before args0 about1 = true := code_word (m := ⟨16, 0⟩) (meth := k16m0) (c := k16c0) (by decide +kernel) rfl rfl rfl (by decide +kernel)
set_option maxRecDepth 65536 in
theorem w_c24 : (Jvm.Cond.code ({ cls := "java/lang/String", name := "length", desc := "()I" } : Jvm.MethodName) jdk_42_method_54_code (1 : Nat) (Option.some Jvm.ClassFile.FieldType.int)).before args0 about1 = true := code_word (m := ⟨7, 1⟩) (meth := k7m1) (c := k7c1) (by decide +kernel) rfl rfl rfl (by decide +kernel)
set_option maxRecDepth 65536 in
theorem w_c25 : (Jvm.Cond.code ({ cls := "java/lang/String", name := "coder", desc := "()B" } : Jvm.MethodName) jdk_42_method_152_code (1 : Nat) (Option.some Jvm.ClassFile.FieldType.byte)).before args0 about1 = true := code_word (m := ⟨7, 7⟩) (meth := k7m7) (c := k7c7) (by decide +kernel) rfl rfl rfl (by decide +kernel)
set_option maxRecDepth 65536 in
theorem w_c26 : (Jvm.Cond.code ({ cls := "java/lang/String", name := "charAt", desc := "(I)C" } : Jvm.MethodName) jdk_42_method_56_code (2 : Nat) (Option.some Jvm.ClassFile.FieldType.char)).before args0 about1 = true := code_word (m := ⟨7, 2⟩) (meth := k7m2) (c := k7c2) (by decide +kernel) rfl rfl rfl (by decide +kernel)
set_option maxRecDepth 65536 in
theorem w_c27 : (Jvm.Cond.code ({ cls := "java/lang/StringLatin1", name := "charAt", desc := "([BI)C" } : Jvm.MethodName) jdk_43_method_2_code (2 : Nat) (Option.some Jvm.ClassFile.FieldType.char)).before args0 about1 = true := code_word (m := ⟨8, 1⟩) (meth := k8m1) (c := k8c1) (by decide +kernel) rfl rfl rfl (by decide +kernel)
set_option maxRecDepth 65536 in
theorem w_c28 : (Jvm.Cond.code ({ cls := "java/lang/String", name := "checkIndex", desc := "(II)V" } : Jvm.MethodName) jdk_42_method_155_code (2 : Nat) (Option.none : Option Jvm.ClassFile.FieldType)).before args0 about1 = true := code_word (m := ⟨7, 9⟩) (meth := k7m9) (c := k7c9) (by decide +kernel) rfl rfl rfl (by decide +kernel)
set_option maxRecDepth 65536 in
theorem w_c29 : (Jvm.Cond.code ({ cls := "jdk/internal/util/Preconditions", name := "checkIndex", desc := "(IILjava/util/function/BiFunction;)I" } : Jvm.MethodName) jdk_41_method_11_code (3 : Nat) (Option.some Jvm.ClassFile.FieldType.int)).before args0 about1 = true := code_word (m := ⟨17, 1⟩) (meth := k17m1) (c := k17c1) (by decide +kernel) rfl rfl rfl (by decide +kernel)
set_option maxRecDepth 65536 in
theorem w_c30 : (Jvm.Cond.code ({ cls := "java/lang/Character", name := "isHighSurrogate", desc := "(C)Z" } : Jvm.MethodName) jdk_89_method_14_code (1 : Nat) (Option.some Jvm.ClassFile.FieldType.boolean)).before args0 about1 = true := code_word (m := ⟨18, 0⟩) (meth := k18m0) (c := k18c0) (by decide +kernel) rfl rfl rfl (by decide +kernel)
set_option maxRecDepth 65536 in
theorem w_c31 : (Jvm.Cond.code ({ cls := "java/lang/Character", name := "isLowSurrogate", desc := "(C)Z" } : Jvm.MethodName) jdk_89_method_15_code (1 : Nat) (Option.some Jvm.ClassFile.FieldType.boolean)).before args0 about1 = true := code_word (m := ⟨18, 1⟩) (meth := k18m1) (c := k18c1) (by decide +kernel) rfl rfl rfl (by decide +kernel)
set_option maxRecDepth 65536 in
theorem w_c32 : (Jvm.Cond.code ({ cls := "java/lang/Character", name := "isISOControl", desc := "(C)Z" } : Jvm.MethodName) jdk_89_method_88_code (1 : Nat) (Option.some Jvm.ClassFile.FieldType.boolean)).before args0 about1 = true := code_word (m := ⟨18, 2⟩) (meth := k18m2) (c := k18c2) (by decide +kernel) rfl rfl rfl (by decide +kernel)
set_option maxRecDepth 65536 in
theorem w_c33 : (Jvm.Cond.code ({ cls := "java/lang/Character", name := "isISOControl", desc := "(I)Z" } : Jvm.MethodName) jdk_89_method_89_code (1 : Nat) (Option.some Jvm.ClassFile.FieldType.boolean)).before args0 about1 = true := code_word (m := ⟨18, 3⟩) (meth := k18m3) (c := k18c3) (by decide +kernel) rfl rfl rfl (by decide +kernel)
set_option maxRecDepth 65536 in
theorem w_c34 : (Jvm.Cond.code ({ cls := "com/example/labmeld/labmeld/finding/Finding$Address", name := "checkAnyPart", desc := "(Ljava/lang/String;)V" } : Jvm.MethodName) prog_20_method_2_code (3 : Nat) (Option.none : Option Jvm.ClassFile.FieldType)).before args0 about1 = true := code_word (m := ⟨10, 1⟩) (meth := k10m1) (c := k10c1) (by decide +kernel) rfl rfl rfl (by decide +kernel)
set_option maxRecDepth 65536 in
theorem w_c35 : (Jvm.Cond.code ({ cls := "java/util/Optional", name := "isEmpty", desc := "()Z" } : Jvm.MethodName) jdk_32_method_7_code (1 : Nat) (Option.some Jvm.ClassFile.FieldType.boolean)).before args0 about1 = true := code_word (m := ⟨11, 3⟩) (meth := k11m3) (c := k11c3) (by decide +kernel) rfl rfl rfl (by decide +kernel)
set_option maxRecDepth 65536 in
theorem w_c36 : (Jvm.Cond.code ({ cls := "com/example/labmeld/labmeld/finding/Finding$Address", name := "lambda$new$2", desc := "(Ljava/lang/String;)V" } : Jvm.MethodName) prog_20_method_14_code (1 : Nat) (Option.none : Option Jvm.ClassFile.FieldType)).before args0 about1 = true := code_word (m := ⟨10, 4⟩) (meth := k10m4) (c := k10c4) (by decide +kernel) rfl rfl rfl (by decide +kernel)
set_option maxRecDepth 65536 in
theorem w_c37 : (Jvm.Cond.code ({ cls := "com/example/labmeld/labmeld/finding/Finding$Address", name := "lambda$new$3", desc := "(Ljava/lang/String;)V" } : Jvm.MethodName) prog_20_method_13_code (1 : Nat) (Option.none : Option Jvm.ClassFile.FieldType)).before args0 about1 = true := code_word (m := ⟨10, 3⟩) (meth := k10m3) (c := k10c3) (by decide +kernel) rfl rfl rfl (by decide +kernel)
set_option maxRecDepth 65536 in
theorem w_c38 : (Jvm.Cond.code ({ cls := "com/example/labmeld/labmeld/finding/Finding$Address", name := "lambda$new$4", desc := "(Ljava/lang/String;)V" } : Jvm.MethodName) prog_20_method_12_code (1 : Nat) (Option.none : Option Jvm.ClassFile.FieldType)).before args0 about1 = true := code_word (m := ⟨10, 2⟩) (meth := k10m2) (c := k10c2) (by decide +kernel) rfl rfl rfl (by decide +kernel)
set_option maxRecDepth 65536 in
theorem w_c39 : (Jvm.Cond.code ({ cls := "com/example/labmeld/labmeld/finding/Finding$Address", name := "lambda$new$1", desc := "(Ljava/lang/String;)V" } : Jvm.MethodName) prog_20_method_15_code (1 : Nat) (Option.none : Option Jvm.ClassFile.FieldType)).before args0 about1 = true := code_word (m := ⟨10, 5⟩) (meth := k10m5) (c := k10c5) (by decide +kernel) rfl rfl rfl (by decide +kernel)
def codes1 : List Jvm.Cond := [Jvm.Cond.code x code maxLocals ret, Jvm.Cond.code ({ cls := "java/lang/String", name := "valueOf", desc := "(C)Ljava/lang/String;" } : Jvm.MethodName) jdk_42_method_139_code (1 : Nat) (Option.some (Jvm.ClassFile.FieldType.object "java/lang/String")), Jvm.Cond.code ({ cls := "java/lang/StringLatin1", name := "canEncode", desc := "(C)Z" } : Jvm.MethodName) jdk_43_method_3_code (1 : Nat) (Option.some Jvm.ClassFile.FieldType.boolean), Jvm.Cond.code ({ cls := "java/lang/StringLatin1", name := "toBytes", desc := "(C)[B" } : Jvm.MethodName) jdk_43_method_46_code (1 : Nat) (Option.some (Jvm.ClassFile.FieldType.array Jvm.ClassFile.FieldType.byte)), Jvm.Cond.code ({ cls := "java/lang/String", name := "<init>", desc := "([BB)V" } : Jvm.MethodName) jdk_42_method_151_code (3 : Nat) (Option.none : Option Jvm.ClassFile.FieldType), Jvm.Cond.code ({ cls := "java/lang/Object", name := "<init>", desc := "()V" } : Jvm.MethodName) object_method_1_code (1 : Nat) (Option.none : Option Jvm.ClassFile.FieldType), Jvm.Cond.code ({ cls := "com/example/labmeld/labmeld/finding/AddressCheckAnyPartPinLaw", name := "part", desc := "(III)Ljava/util/Optional;" } : Jvm.MethodName) method_3_code (3 : Nat) (Option.some (Jvm.ClassFile.FieldType.object "java/util/Optional")), Jvm.Cond.code ({ cls := "java/util/Optional", name := "of", desc := "(Ljava/lang/Object;)Ljava/util/Optional;" } : Jvm.MethodName) jdk_32_method_3_code (1 : Nat) (Option.some (Jvm.ClassFile.FieldType.object "java/util/Optional")), Jvm.Cond.code ({ cls := "java/util/Objects", name := "requireNonNull", desc := "(Ljava/lang/Object;)Ljava/lang/Object;" } : Jvm.MethodName) jdk_31_method_10_code (1 : Nat) (Option.some (Jvm.ClassFile.FieldType.object "java/lang/Object")), Jvm.Cond.code ({ cls := "java/util/Optional", name := "<init>", desc := "(Ljava/lang/Object;)V" } : Jvm.MethodName) jdk_32_method_2_code (2 : Nat) (Option.none : Option Jvm.ClassFile.FieldType), Jvm.Cond.code ({ cls := "java/util/Optional", name := "empty", desc := "()Ljava/util/Optional;" } : Jvm.MethodName) jdk_32_method_1_code (1 : Nat) (Option.some (Jvm.ClassFile.FieldType.object "java/util/Optional")), Jvm.Cond.code ({ cls := "com/example/labmeld/labmeld/finding/Finding$Address", name := "<init>", desc := "(Ljava/util/Optional;Ljava/util/Optional;Ljava/util/Optional;Ljava/util/Optional;Ljava/util/Optional;)V" } : Jvm.MethodName) prog_20_method_1_code (6 : Nat) (Option.none : Option Jvm.ClassFile.FieldType), Jvm.Cond.code ({ cls := "java/lang/Record", name := "<init>", desc := "()V" } : Jvm.MethodName) jdk_30_method_1_code (1 : Nat) (Option.none : Option Jvm.ClassFile.FieldType), Jvm.Cond.code ({ cls := "com/example/labmeld/labmeld/finding/Check", name := "present", desc := "(Ljava/lang/String;Ljava/lang/Object;)V" } : Jvm.MethodName) prog_17_method_2_code (2 : Nat) (Option.none : Option Jvm.ClassFile.FieldType), Jvm.Cond.code ({ cls := "java/util/Optional", name := "ifPresent", desc := "(Ljava/util/function/Consumer;)V" } : Jvm.MethodName) jdk_32_method_8_code (2 : Nat) (Option.none : Option Jvm.ClassFile.FieldType), Jvm.Cond.code ({ cls := "com/example/labmeld/labmeld/finding/Finding$Address", name := "lambda$new$0", desc := "(Ljava/lang/String;)V" } : Jvm.MethodName) prog_20_method_16_code (1 : Nat) (Option.none : Option Jvm.ClassFile.FieldType), Jvm.Cond.code ({ cls := "com/example/labmeld/labmeld/finding/Check", name := "text", desc := "(Ljava/lang/String;Ljava/lang/String;)Ljava/lang/String;" } : Jvm.MethodName) prog_17_method_4_code (5 : Nat) (Option.some (Jvm.ClassFile.FieldType.object "java/lang/String")), Jvm.Cond.code ({ cls := "java/lang/String", name := "isBlank", desc := "()Z" } : Jvm.MethodName) jdk_42_method_117_code (1 : Nat) (Option.some Jvm.ClassFile.FieldType.boolean), Jvm.Cond.code ({ cls := "java/lang/String", name := "indexOfNonWhitespace", desc := "()I" } : Jvm.MethodName) jdk_42_method_120_code (1 : Nat) (Option.some Jvm.ClassFile.FieldType.int), Jvm.Cond.code ({ cls := "java/lang/String", name := "isLatin1", desc := "()Z" } : Jvm.MethodName) jdk_42_method_154_code (1 : Nat) (Option.some Jvm.ClassFile.FieldType.boolean), Jvm.Cond.code ({ cls := "java/lang/StringLatin1", name := "indexOfNonWhitespace", desc := "([B)I" } : Jvm.MethodName) jdk_43_method_37_code (4 : Nat) (Option.some Jvm.ClassFile.FieldType.int), Jvm.Cond.code ({ cls := "java/lang/StringLatin1", name := "getChar", desc := "([BI)C" } : Jvm.MethodName) jdk_43_method_44_code (2 : Nat) (Option.some Jvm.ClassFile.FieldType.char), Jvm.Cond.code ({ cls := "java/lang/CharacterDataLatin1", name := "isWhitespace", desc := "(I)Z" } : Jvm.MethodName) jdk_116_method_26_code (3 : Nat) (Option.some Jvm.ClassFile.FieldType.boolean), Jvm.Cond.code ({ cls := "java/lang/CharacterDataLatin1", name := "getProperties", desc := "(I)I" } : Jvm.MethodName) jdk_116_method_1_code (4 : Nat) (Option.some Jvm.ClassFile.FieldType.int), Jvm.Cond.code ({ cls := "java/lang/String", name := "length", desc := "()I" } : Jvm.MethodName) jdk_42_method_54_code (1 : Nat) (Option.some Jvm.ClassFile.FieldType.int), Jvm.Cond.code ({ cls := "java/lang/String", name := "coder", desc := "()B" } : Jvm.MethodName) jdk_42_method_152_code (1 : Nat) (Option.some Jvm.ClassFile.FieldType.byte), Jvm.Cond.code ({ cls := "java/lang/String", name := "charAt", desc := "(I)C" } : Jvm.MethodName) jdk_42_method_56_code (2 : Nat) (Option.some Jvm.ClassFile.FieldType.char), Jvm.Cond.code ({ cls := "java/lang/StringLatin1", name := "charAt", desc := "([BI)C" } : Jvm.MethodName) jdk_43_method_2_code (2 : Nat) (Option.some Jvm.ClassFile.FieldType.char), Jvm.Cond.code ({ cls := "java/lang/String", name := "checkIndex", desc := "(II)V" } : Jvm.MethodName) jdk_42_method_155_code (2 : Nat) (Option.none : Option Jvm.ClassFile.FieldType), Jvm.Cond.code ({ cls := "jdk/internal/util/Preconditions", name := "checkIndex", desc := "(IILjava/util/function/BiFunction;)I" } : Jvm.MethodName) jdk_41_method_11_code (3 : Nat) (Option.some Jvm.ClassFile.FieldType.int), Jvm.Cond.code ({ cls := "java/lang/Character", name := "isHighSurrogate", desc := "(C)Z" } : Jvm.MethodName) jdk_89_method_14_code (1 : Nat) (Option.some Jvm.ClassFile.FieldType.boolean), Jvm.Cond.code ({ cls := "java/lang/Character", name := "isLowSurrogate", desc := "(C)Z" } : Jvm.MethodName) jdk_89_method_15_code (1 : Nat) (Option.some Jvm.ClassFile.FieldType.boolean), Jvm.Cond.code ({ cls := "java/lang/Character", name := "isISOControl", desc := "(C)Z" } : Jvm.MethodName) jdk_89_method_88_code (1 : Nat) (Option.some Jvm.ClassFile.FieldType.boolean), Jvm.Cond.code ({ cls := "java/lang/Character", name := "isISOControl", desc := "(I)Z" } : Jvm.MethodName) jdk_89_method_89_code (1 : Nat) (Option.some Jvm.ClassFile.FieldType.boolean), Jvm.Cond.code ({ cls := "com/example/labmeld/labmeld/finding/Finding$Address", name := "checkAnyPart", desc := "(Ljava/lang/String;)V" } : Jvm.MethodName) prog_20_method_2_code (3 : Nat) (Option.none : Option Jvm.ClassFile.FieldType), Jvm.Cond.code ({ cls := "java/util/Optional", name := "isEmpty", desc := "()Z" } : Jvm.MethodName) jdk_32_method_7_code (1 : Nat) (Option.some Jvm.ClassFile.FieldType.boolean), Jvm.Cond.code ({ cls := "com/example/labmeld/labmeld/finding/Finding$Address", name := "lambda$new$2", desc := "(Ljava/lang/String;)V" } : Jvm.MethodName) prog_20_method_14_code (1 : Nat) (Option.none : Option Jvm.ClassFile.FieldType), Jvm.Cond.code ({ cls := "com/example/labmeld/labmeld/finding/Finding$Address", name := "lambda$new$3", desc := "(Ljava/lang/String;)V" } : Jvm.MethodName) prog_20_method_13_code (1 : Nat) (Option.none : Option Jvm.ClassFile.FieldType), Jvm.Cond.code ({ cls := "com/example/labmeld/labmeld/finding/Finding$Address", name := "lambda$new$4", desc := "(Ljava/lang/String;)V" } : Jvm.MethodName) prog_20_method_12_code (1 : Nat) (Option.none : Option Jvm.ClassFile.FieldType), Jvm.Cond.code ({ cls := "com/example/labmeld/labmeld/finding/Finding$Address", name := "lambda$new$1", desc := "(Ljava/lang/String;)V" } : Jvm.MethodName) prog_20_method_15_code (1 : Nat) (Option.none : Option Jvm.ClassFile.FieldType)]
set_option maxRecDepth 65536 in
theorem codes_eq : words1.filter isCode = codes1 := rfl
theorem w_codes : ∀ c ∈ words1.filter isCode, c.before args0 about1 = true := by
  rw [codes_eq]
  intro c hc
  simp only [codes1, List.mem_cons, List.not_mem_nil, or_false] at hc
  rcases hc with rfl | rfl | rfl | rfl | rfl | rfl | rfl | rfl | rfl | rfl | rfl | rfl | rfl | rfl | rfl | rfl | rfl | rfl | rfl | rfl | rfl | rfl | rfl | rfl | rfl | rfl | rfl | rfl | rfl | rfl | rfl | rfl | rfl | rfl | rfl | rfl | rfl | rfl | rfl | rfl
  · exact w_c0
  · exact w_c1
  · exact w_c2
  · exact w_c3
  · exact w_c4
  · exact w_c5
  · exact w_c6
  · exact w_c7
  · exact w_c8
  · exact w_c9
  · exact w_c10
  · exact w_c11
  · exact w_c12
  · exact w_c13
  · exact w_c14
  · exact w_c15
  · exact w_c16
  · exact w_c17
  · exact w_c18
  · exact w_c19
  · exact w_c20
  · exact w_c21
  · exact w_c22
  · exact w_c23
  · exact w_c24
  · exact w_c25
  · exact w_c26
  · exact w_c27
  · exact w_c28
  · exact w_c29
  · exact w_c30
  · exact w_c31
  · exact w_c32
  · exact w_c33
  · exact w_c34
  · exact w_c35
  · exact w_c36
  · exact w_c37
  · exact w_c38
  · exact w_c39
set_option maxRecDepth 65536 in
theorem w_t1 : (words1.take 24).all (fun c => isCode c || c.before args0 about1) = true := by decide +kernel
set_option maxRecDepth 65536 in
theorem w_t2 : ((words1.drop 24).take 24).all (fun c => isCode c || c.before args0 about1) = true := by decide +kernel
set_option maxRecDepth 65536 in
theorem w_t3 : (((words1.drop 24).drop 24).take 24).all (fun c => isCode c || c.before args0 about1) = true := by decide +kernel
set_option maxRecDepth 65536 in
theorem w_t4 : ((((words1.drop 24).drop 24).drop 24).take 24).all (fun c => isCode c || c.before args0 about1) = true := by decide +kernel
set_option maxRecDepth 65536 in
theorem w_t5 : (((((words1.drop 24).drop 24).drop 24).drop 24).take 24).all (fun c => isCode c || c.before args0 about1) = true := by decide +kernel
set_option maxRecDepth 65536 in
theorem w_t6 : ((((((words1.drop 24).drop 24).drop 24).drop 24).drop 24).take 24).all (fun c => isCode c || c.before args0 about1) = true := by decide +kernel
set_option maxRecDepth 65536 in
theorem w_t7 : (((((((words1.drop 24).drop 24).drop 24).drop 24).drop 24).drop 24).take 24).all (fun c => isCode c || c.before args0 about1) = true := by decide +kernel
set_option maxRecDepth 65536 in
theorem w_t8 : ((((((((words1.drop 24).drop 24).drop 24).drop 24).drop 24).drop 24).drop 24).take 24).all (fun c => isCode c || c.before args0 about1) = true := by decide +kernel
set_option maxRecDepth 65536 in
theorem w_t9 : ((((((((words1.drop 24).drop 24).drop 24).drop 24).drop 24).drop 24).drop 24).drop 24).all (fun c => isCode c || c.before args0 about1) = true := by decide +kernel
theorem w_tables : (allAtoms (Jvm.Cond.code x code maxLocals ret :: tables_1)).before args0 about1 = true := by
  rw [allAtoms_all]
  show words1.all (fun c => c.before args0 about1) = true
  refine all_split ?_ w_codes
  rw [← List.take_append_drop 24 words1, List.all_append, w_t1, ← List.take_append_drop 24 (words1.drop 24), List.all_append, w_t2, ← List.take_append_drop 24 ((words1.drop 24).drop 24), List.all_append, w_t3, ← List.take_append_drop 24 (((words1.drop 24).drop 24).drop 24), List.all_append, w_t4, ← List.take_append_drop 24 ((((words1.drop 24).drop 24).drop 24).drop 24), List.all_append, w_t5, ← List.take_append_drop 24 (((((words1.drop 24).drop 24).drop 24).drop 24).drop 24), List.all_append, w_t6, ← List.take_append_drop 24 ((((((words1.drop 24).drop 24).drop 24).drop 24).drop 24).drop 24), List.all_append, w_t7, ← List.take_append_drop 24 (((((((words1.drop 24).drop 24).drop 24).drop 24).drop 24).drop 24).drop 24), List.all_append, w_t8, w_t9]
  rfl
set_option maxRecDepth 65536 in
theorem w_rest : rest_1_c.before args0 about1 = true := by decide +kernel
set_option maxRecDepth 65536 in
theorem w_case : (Jvm.Cond.and given_1 narrow_1).before args0 about1 = true := by decide +kernel
theorem w_applies : (headSpec (Jvm.Cond.code x code maxLocals ret :: tables_1) room_1).applies x e0.platform about1 = true :=
  (Spec.applies_iff w_frames).mpr ⟨w_running, w_runnable, w_alone, w_named, w_hears, w_ripe, w_room, w_tables⟩
theorem atStart : AtStart classFile x code maxLocals ret World_1 tables_1 room_1 Calls_1 rest_1 Pre_1 launch0 p0 e0 about1 theMethod args0 below0 :=
  ⟨lists_1, trivial, launch0.admits_env _ _ _, launch0.least_env, fairChoices_fair.cas, fairChoices_fair.clock, w_frames, w_args, w_heap, w_applies, trivial, w_rest, w_case⟩
end start1
theorem witness_1 : WitnessClaimed_1 := ⟨start1.p0, start1.e0, start1.about1, start1.theMethod, start1.args0, start1.below0, start1.atStart⟩
end Jvm.Pilot.@@N@@
