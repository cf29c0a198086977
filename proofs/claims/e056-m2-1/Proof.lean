import JvmDerived
import JvmDerived.Pilot.@@N@@Statement
import JvmDerived.Pilot.@@N@@Code
set_option linter.unusedVariables false
set_option linter.unusedSimpArgs false
namespace Jvm.RoadKit
open Sem ClassFile Op Lib Jvm.Stand Jvm.Free Jvm.LawKit
section New
variable {p : Program} {l : Launch} {e : Env} {R : Room} {s : State} {m : MethodId} {args : Array Value} {below : List Frame} {meth : Method} {c : Code} {T : State} {locs : List Loc} {cells slots : Nat}
theorem retI (X : Stand p l e R s m args below meth c T locs cells slots) (hx : p.tables.exec = Jvm.exec) {pc : Nat} {Ls : Array Slot} {z : Int32} {rest : List Value} (hret : meth.sig.returnType = some .int) (hd : decode c.code pc = .ok (.ireturn, 1)) {fs : List Frame}
    (hl : ∀ (f : JFrame) (acts : List Action), f.method = m → f.locked = none → f.entered = [] → (doReturn e (T.setTop f) acts (some (.int z))).1 = T.setFrames fs) : Steps p.tables e below (T.setTop (mkF m pc Ls (.int z :: rest))) (T.setFrames fs) := by
  have hm' : T.vm.method? m = some meth := X.method'
  have hn : narrow .int (.int z) = .int z := rfl
  show Steps p.tables e below (T.setTop { method := m, pc := pc, locals := Ls, stack := _ :: rest, locked := none }) _
  jvm_step X.here [X.here.top, hx, hd, hm', hret, hn]
  first | (intro acts; rw [hl _ acts rfl rfl rfl]) | rw [hl _ _ rfl rfl rfl]
  exact Steps.refl _
end New
end Jvm.RoadKit
namespace Jvm.RoadKit
open Sem ClassFile Op Lib Bundle Jvm.Stand Jvm.Free Jvm.LawKit Jvm.Free.SB Jvm.Free.SBG
section OwnW
variable {p : Program} {l : Launch} {e : Env} {R : Room} {s : State} {m : MethodId} {args : Array Value} {below : List Frame} {meth : Method} {c : Code} {T : State} {locs : List Loc} {cells slots : Nat}
/-- what 'ldc_w' of a String constant leaves behind, where the walk has the tables and the heap that its frame began with: some object a that spells the constant's units; the state T' stands over the start with the tables at hand -/
def own_Left (p : Program) (l : Launch) (e : Env) (R : Room) (s : State) (m : MethodId) (args : Array Value) (below : List Frame) (meth : Method) (c : Code) (T : State) (locs : List Loc) (k n : Nat) (units : Array UInt16) (g : JFrame) (a : Addr) (T' : State) : Prop :=
  Stand p l e R (s.setVm T'.vm) m args below meth c T' locs k n ∧ s.Since T'.vm T'.heap.size ∧ (∀ b, b < T.heap.size → T'.heap[b]? = T.heap[b]?) ∧ SlOf T' a units ∧
    ∀ target, Steps p.tables e below (T'.setTop { g with pc := g.pc + 3, stack := .ref a :: g.stack }) target → Steps p.tables e below (T.setTop g) target
/-- the entry is resolved: nothing moves -/
theorem own_known (X : Stand p l e R s m args below meth c T locs cells slots) (hx : p.tables.exec = Jvm.exec) (hv : T.vm = s.vm) (hh : T.heap = s.heap) {index i : Nat} {k : Class} {cf : ClassFile} {a : Addr} {units : Array UInt16} {g : JFrame} (hg : g.method = m)
    (hd : decode c.code g.pc = .ok (.ldc_w index, 3)) (hk : s.vm.classes[m.cls]? = some k) (hcf : k.cf = some cf) (hc : cf.constantPool[index]? = some (.string i)) (hr : k.resolved[index]? = some (some (.string a))) (F : SlOf s a units) {k' n' : Nat} (h1 : cells ≤ k') (h2 : slots ≤ n') :
    own_Left p l e R s m args below meth c T locs k' n' units g a T := by
  subst hg
  refine ⟨(X.mono h1 h2).retabled X.warmed.wide, X.warmed.since _, fun _ _ => rfl, F.moved (by rw [hv]; exact Vm.Alike.refl _) (fun b cl q => by rw [hh]; exact q), fun target hrest => ?_⟩
  jvm_step X.here [hx, hd, ldc_w.wp_string (e := e) (s := T) (f := g) X.here.top (by rw [hv]; exact hk) hcf hc hr]
  exact hrest
/-- the entry is open and the text is interned: the entry is noted, nothing else moves -/
theorem own_found (X : Stand p l e R s m args below meth c T locs cells slots) (hx : p.tables.exec = Jvm.exec) (hv : T.vm = s.vm) (hh : T.heap = s.heap) {index i : Nat} {k : Class} {cf : ClassFile} {a : Addr} {text : String} {units : Array UInt16} {g : JFrame} (hg : g.method = m)
    (hd : decode c.code g.pc = .ok (.ldc_w index, 3)) (hk : s.vm.classes[m.cls]? = some k) (hcf : k.cf = some cf) (hc : cf.constantPool[index]? = some (.string i)) (hu : cf.constantPool[i]? = some (.utf8 units)) (hnm : namesOf? cf.constantPool index = some (.string text)) (ho : k.resolved[index]? = some none) (hf : s.vm.interned.find? (fun p => p.1 == units) = some (units, a)) (F : SlOf s a units) {k' n' : Nat} (h1 : cells ≤ k') (h2 : slots ≤ n') :
    own_Left p l e R s m args below meth c T locs k' n' units g a (T.setVm (T.vm.noted m.cls index (.string a))) := by
  subst hg
  have hW : s.Warmed39 (T.vm.noted g.method.cls index (.string a)) := X.warmed.wide.notedString (units := units) hk (Or.inl ho) (by rw [hcf]; exact hnm) (by rw [hcf]; exact hc) (by rw [hcf]; simp [ConstantPool.utf8?, hu]) (by rw [hv]; exact hf)
  refine ⟨(X.mono h1 h2).retabled hW, ⟨hW, State.Booked.step (T₂ := T.setVm (T.vm.noted g.method.cls index (.string a))) (X.warmed.no_new_pair _) X.same.2.1 ⟨Nat.le_refl _, Or.inl rfl⟩⟩, fun _ _ => rfl, F.moved hW.alike (fun b cl q => by show T.heap[b]? = _; rw [hh]; exact q), fun target hrest => ?_⟩
  jvm_step X.here [hx, hd, ldc_w.wp_string_found (e := e) (s := T) (f := g) X.here.top (by rw [hv]; exact hk) hcf hc hu ho (by rw [hv]; exact hf)]
  exact hrest
/-- the tables when the String has been made at n + 1 -/
def own_vm (T : State) (d index : Nat) (units : Array UInt16) : Vm := ({ T.vm with interned := T.vm.interned.push (units, T.heap.size + 1) } : Vm).noted d index (.string (T.heap.size + 1))
/-- the text is new: the VM makes the bytes and the String -/
theorem own_anew (X : Stand p l e R s m args below meth c T locs cells slots) (hx : p.tables.exec = Jvm.exec) (hv : T.vm = s.vm) {index i : Nat} {k : Class} {cf : ClassFile} {text : String} {units : Array UInt16} {g : JFrame} (hg : g.method = m)
    (hd : decode c.code g.pc = .ok (.ldc_w index, 3)) (hk : s.vm.classes[m.cls]? = some k) (hcf : k.cf = some cf) (hc : cf.constantPool[index]? = some (.string i)) (hu : cf.constantPool[i]? = some (.utf8 units)) (hnm : namesOf? cf.constantPool index = some (.string text)) (ho : k.resolved[index]? = some none) (hf : s.vm.interned.find? (fun p => p.1 == units) = none)
    (hS : ∀ a ∈ stringAtoms, a.before args s = true) (hlat : units.all (· < 256) = true) {n : Nat} (hb : (stringBytes units).size ≤ n) (hbig : n ≤ 536870912) (hRc : cells + 2 ≤ R.cells) (hRs : slots + (n + 4) ≤ R.slots) :
    ∃ T', own_Left p l e R s m args below meth c T locs (cells + 2) (slots + (n + 4)) units g (T.heap.size + 1) T' := by
  subst hg
  obtain ⟨Zs, LZ, n4, fitV, fitC⟩ := StringT.of_atoms hS
  have LT : Zs.Laid T.vm := hv ▸ LZ
  have hfs : T.fitsSlot = s.fitsSlot := (show T.fitsSlot = (s.setVm T.vm).fitsSlot from rfl).trans (State.fitsSlot_setVm X.warmed.alike)
  have hW : s.Warmed39 (own_vm T g.method.cls index units) := (X.warmed.wide.interns units (T.heap.size + 1)).notedString (units := units) hk (Or.inl ho) (by rw [hcf]; exact hnm) (by rw [hcf]; exact hc) (by rw [hcf]; simp [ConstantPool.utf8?, hu]) (by
    show (T.vm.interned.push (units, T.heap.size + 1)).find? _ = _
    rw [Array.find?_push, hv, hf]; simp)
  have X2 := (X.pushed (bytesOf Zs.cB units)).pushed (stringAt Zs.cS Zs.kS Zs.fv Zs.fc units T.heap.size)
  rw [← withString_eq] at X2
  have hp : (withString T Zs.cB Zs.cS Zs.kS Zs.fv Zs.fc units).heap = (T.heap.push (bytesOf Zs.cB units)).push (stringAt Zs.cS Zs.kS Zs.fv Zs.fc units T.heap.size) := by rw [withString_eq]; rfl
  generalize hWS : withString T Zs.cB Zs.cS Zs.kS Zs.fv Zs.fc units = U at X2 hp
  have hz : U.heap.size = T.heap.size + 2 := by rw [hp]; simp
  have i1 : T.Interned1 (U.setVm (own_vm T g.method.cls index units)) := ⟨by show _ ≤ U.heap.size; omega, Or.inr ⟨units, T.heap.size + 1, rfl, by omega, by show _ < U.heap.size; omega⟩⟩
  have z1 : (bytesOf Zs.cB units).slots.size = (stringBytes units).size := by rw [bytesOf_slots, bytesSlots_eq]
  have z2 : (stringAt Zs.cS Zs.kS Zs.fv Zs.fc units T.heap.size).slots.size = 4 := by rw [← n4]; simp [stringAt, string0, Cell.setSlot]
  obtain ⟨q, cS, r1, r2, r3, r4, r5, -⟩ := made_sl (W := U.setVm (own_vm T g.method.cls index units)) hS LZ n4 rfl hW.alike (n := T.heap.size) (units := units) (by show U.heap[_]? = _; rw [hp, Array.getElem?_push, if_neg (by simp), Array.getElem?_push, if_pos rfl]) (by show U.heap[_]? = _; rw [hp, Array.getElem?_push, if_pos (by simp)]) hlat (by omega) 0
  refine ⟨U.setVm (own_vm T g.method.cls index units), (X2.mono (by omega) (by rw [z1, z2]; omega)).retabled hW, ⟨hW, State.Booked.step (X.warmed.no_new_pair _) X.same.2.1 i1⟩, fun b hb => ?_, ⟨q, cS, r1, r2, r3, r4, r5⟩, fun target hrest => ?_⟩
  · show U.heap[b]? = _
    rw [hp, Array.getElem?_push, if_neg (by rw [Array.size_push]; omega), Array.getElem?_push, if_neg (by omega)]
  · refine Steps.instr (c := c) X.here ?_
    simp only [hd, hx, exec, wpRun]
    refine ldc_w.wp_string_new (e := e) (s := T) (f := g) X.here.top (by rw [hv]; exact hk) hcf hc hu ho (by rw [hv]; exact hf) LT.found LT.cls LT.initialized LT.ordinary LT.foundB LT.clsB LT.kindB LT.value LT.coder (by rw [Launch.admits_arrayLengthLimit X.admits]; omega) (by rw [Launch.admits_maxHeapBytes X.admits]; simp only [componentBytes]; omega)
      (X.cellsAbove hRc) (by have q := X.slotsAbove hRs; rw [n4]; omega) (stringBytes_fit LT.clsB LT.kindB units) LT.valueSlot LT.coderSlot (by rw [hfs]; exact fitV _) (by rw [hfs]; exact fitC _) (fun d' acts' => ?_)
    intro acts
    rw [hWS]
    have t1 : (U.setVm (own_vm T g.method.cls index units)).topJava?.isSome = true := X2.here.top
    show Steps p.tables e below (afterInstr e 3 (Res.ok () ((U.setVm (own_vm T g.method.cls index units)).setTop { g with stack := .ref (T.heap.size + 1) :: g.stack }) acts)).1 target
    generalize U.setVm (own_vm T g.method.cls index units) = V at t1 hrest
    simp [jvm, afterInstr, t1]
    rw [State.modifyTopJava_setTop]
    exact hrest
/-- **'ldc_w' OF A String CONSTANT, ITS TEXT READ**, at a frame whose tables and heap are those that it began with -/
theorem own_ldcw (X : Stand p l e R s m args below meth c T locs cells slots) (hx : p.tables.exec = Jvm.exec) (hv : T.vm = s.vm) (hh : T.heap = s.heap) {own text : String} {index : Nat} (hown : s.vm.findClass own = some m.cls) (hlink : (Cond.stringLink own index text).before args s = true) (hS : ∀ a ∈ stringAtoms, a.before args s = true) (hheld : ConstHeldL s own index) (ht : ∀ c ∈ text.toList, c.toNat < 256)
    {g : JFrame} (hg : g.method = m) (hd : decode c.code g.pc = .ok (.ldc_w index, 3)) {n : Nat} (hn : 4 * text.toList.length ≤ n) (hbig : n ≤ 536870912) (hRc : cells + 2 ≤ R.cells) (hRs : slots + (n + 4) ≤ R.slots) :
    ∃ units a T', utf16ToString? units = some text ∧ own_Left p l e R s m args below meth c T locs (cells + 2) (slots + (n + 4)) units g a T' := by
  obtain ⟨k, cf, i, units, hk, hcf, hc, hu, hnm, hdec, hres⟩ := Cond.stringLink_spec hown hlink
  have hlat := Jvm.ClassFile.lat_of_text hdec ht
  rcases hres with ho | ⟨a, hr⟩
  · cases hf : s.vm.interned.find? (fun p => p.1 == units) with
    | some pr =>
      obtain ⟨u', a⟩ := pr
      obtain rfl : u' = units := by simpa using Array.find?_some hf
      exact ⟨u', a, _, hdec, own_found X hx hv hh hg hd hk hcf hc hu hnm ho hf (hheld _ k cf i u' a hown hk hcf hc hu (Or.inr ⟨ho, hf⟩)) (by omega) (by omega)⟩
    | none =>
      obtain ⟨T', F⟩ := own_anew X hx hv hg hd hk hcf hc hu hnm ho hf hS hlat (Nat.le_trans (text_bytes_le hdec) hn) hbig hRc hRs
      exact ⟨units, _, T', hdec, F⟩
  · exact ⟨units, a, T, hdec, own_known X hx hv hh hg hd hk hcf hc hr (hheld _ k cf i units a hown hk hcf hc hu (Or.inl hr)) (by omega) (by omega)⟩
/-- such a String, said in the facts of this family: its class, its coder, its bytes -/
def own_Str (Z : State) (h : Heap) (a : Addr) (cs : List Int32) : Prop := ∃ (b : Addr) (k : ClassId), Exa Z h a "java/lang/String" ∧ Fld Z h a "java/lang/String" "coder" "B" (.int (0 : Int32)) ∧ Fld Z h a "java/lang/String" "value" "[B" (.ref b) ∧ Arv Z h b k .byte (Int32.ofNat cs.length) (cs.map Value.int) (.int (0 : Int32))
theorem own_spelt {Z W : State} (hal : Z.vm.Alike W.vm) {a : Addr} {units : Array UInt16} {text : String} (F : SlOf W a units) (hdec : utf16ToString? units = some text) (ht : ∀ c ∈ text.toList, c.toNat < 256) {cs : List Int32} (hcs : text.toList.map (fun c => Jvm.Lit.byteI c.toNat.toUInt16) = cs) (hl : cs.length < 2147483648) : own_Str Z W.heap a cs := by
  obtain ⟨q, cS, rfl, ⟨⟨s1, s2, s3, ⟨cv, kv, iv, s4, s4'⟩, ⟨cc, kc, ic, s5, s5'⟩, s6, s7, s8, s9, s10, s11, s12, s13, s14, s15, s16⟩, hfS, hcS⟩, ⟨kS, k1, k2, k3⟩, hB, hbyt⟩ := F
  obtain ⟨kv', z4⟩ := ff_back hal s4
  obtain ⟨kc', z5⟩ := ff_back hal s5
  have eu : cs = units.toList.map Jvm.Lit.byteI := by rw [← hcs, Jvm.ClassFile.units_of_text hdec ht, List.map_map]; rfl
  have hsl : q.SA.slots = units.map fun u => Value.int (Jvm.Lit.byteI u) := by rw [hbyt, SBG.stringBytes_lat (Jvm.ClassFile.lat_of_text hdec ht)]; rfl
  have el : q.SA.slots.size = cs.length := by rw [hsl, eu]; simp
  have hZS : Z.vm.findClass "java/lang/String" = some q.sC.cls := by rw [← hal.findClass, hcS]; exact hfS
  obtain ⟨kz, hkz, -⟩ := Vm.findClass_spec hZS
  have hZB : Z.vm.findClass "[B" = some q.SA.cls := by rw [← hal.findClass]; exact hB
  obtain ⟨kb, hkb, -⟩ := Vm.findClass_spec hZB
  have H : Has q.SA (cs.map Value.int) (.int 0) := fun j hj => by
    rw [hsl] at hj ⊢
    rw [eu]
    have hj' : j < units.size := by simpa using hj
    simp [hj']
  have ez : (Int32.ofNat cs.length).toInt = cs.length := Int32.toInt_ofNat_of_lt hl
  refine ⟨q.sd, q.SA.cls, ⟨q.sC, kz, s1, hZS, hkz, s3, fun _ => ?_⟩, ⟨q.sC, cc, kc', ic, q.fSC, s1, z5, s7, s2, s3, by rw [← hal.assignable]; exact s5', s9⟩, ⟨q.sC, cv, kv', iv, q.fSV, s1, z4, s6, s2, s3, by rw [← hal.assignable]; exact s4', s8⟩, q.SA, ⟨s10, ?_, s12⟩, rfl, ?_, ?_, H, fun j hj => ?_⟩
  · obtain ⟨k9, w1, w2⟩ := hal.2.2 _ _ hkz
    have : k9 = kS := Option.some.inj (w1.symm.trans (hcS ▸ k1))
    rw [k3, ← this, w2]
  · obtain ⟨st, k9, w1, comp, w2⟩ := s11
    obtain ⟨k8, v1, v2⟩ := hal.2.2 _ _ hkb
    cases w1.symm.trans v1
    exact ⟨st, kb, hkb, comp, by rw [v2] at w2; exact w2⟩
  · rw [el, Int32.toNatClampNeg, ez]; rfl
  · rw [Int32.lt_iff_toInt_lt, ez, show (0 : Int32).toInt = 0 from rfl]; omega
  · have e1 := s16 j hj
    rw [SBG.getD_of (H j hj)] at e1
    exact e1
/-- RW10's 'backOfS' for a callee whose law asks that nothing has been interned since Z -/
theorem own_backS {Z : State} {a0 : Array Value} {h : Heap} {y : MethodName} {bytes : ByteArray} {maxL : Nat} {ret : Option FieldType} {rm : Room} {len W : Nat} {as' : Array Value} {Q : Option Value → Heap → List Loc → Prop}
    (hM : MetFree l y (head1 [Cond.code y bytes maxL ret] rm) (fun a U => a = as' ∧ (Z.Warmed39 U.vm ∧ U.vm.interned = Z.vm.interned) ∧ U.heap = h) (fun _ _ _ _ _ => True) (fun _ U o U' => ∃ v L, o = .returned v ∧ Q v U'.heap L ∧ ReturnedEndW U o U' L rm.cells rm.slots))
    (hZ : Z.Warmed39 s.vm) (hI : s.vm.interned = Z.vm.interned) (wc : (Cond.code y bytes maxL ret).before a0 Z = true) (wz : (Cond.initialized y.cls).before a0 Z = true) (hf : rm.frames + 1 ≤ R.frames) (hl : W + (maxL + 11) + rm.locals ≤ R.locals) :
    BackS l R p e below s args y len W (fun A a => a = as' ∧ A.U.heap = h ∧ A.cells + rm.cells ≤ R.cells ∧ A.slots + rm.slots ≤ R.slots)
      (fun A _ v B => ∃ L, Q v B.U.heap L ∧ B.locs = A.locs ++ L ∧ B.cells = A.cells + rm.cells ∧ B.slots = A.slots + rm.slots) := by
  have up : ∀ {A : State}, s.WarmedH A.vm → Z.Warmed39 A.vm := fun w => wtrans hZ w
  refine BackS.of_freeW (bytes := bytes) (maxL := maxL) (ret := ret) (E := fun _ _ o t L k n => k = rm.cells ∧ n = rm.slots ∧ ∃ v, o = .returned v ∧ Q v t.heap L) hM hf hl ?_ ?_ (fun _ _ _ _ _ _ _ _ _ => trivial) ?_ ?_
  · intro m meth c A a Y hp
    refine ⟨?_, mv (up Y.warmed) wc, mv (up Y.warmed) wz, hp.2.2.1, hp.2.2.2⟩
    show (Cond.and _ .tt).before a A.U = true
    rw [Cond.before_and, mv (up Y.warmed) wc]; rfl
  · intro m meth c A a g mk Y hp
    exact ⟨hp.1, ⟨up Y.warmed, Y.warmed.interned_eq.trans hI⟩, hp.2.1⟩
  · rintro _ _ _ _ ⟨v, L, h1, h2, h3⟩
    exact ⟨L, _, _, h3, rfl, rfl, v, h1, h2⟩
  · rintro m meth c A a g mk v t L k n Y hp _ _ ⟨rfl, rfl, v', e3, e4⟩
    cases e3
    exact ⟨L, e4, rfl, rfl, rfl⟩
/-- areturn -/
theorem own_retR (X : Stand p l e R s m args below meth c T locs cells slots) (hx : p.tables.exec = Jvm.exec) {pc : Nat} {Ls : Array Slot} {w : Value} {C : String} {rest : List Value} (hret : meth.sig.returnType = some (.object C)) (hw : w.isRef = true) (hd : decode c.code pc = .ok (.areturn, 1)) {fs : List Frame}
    (hl : ∀ (f : JFrame) (acts : List Action), f.method = m → f.locked = none → f.entered = [] → (doReturn e (T.setTop f) acts (some w)).1 = T.setFrames fs) : Steps p.tables e below (T.setTop (mkF m pc Ls (w :: rest))) (T.setFrames fs) := by
  have hm' : T.vm.method? m = some meth := X.method'
  have hn : narrow (.object C) w = w := by cases w <;> first | rfl | cases hw
  show Steps p.tables e below (T.setTop { method := m, pc := pc, locals := Ls, stack := _ :: rest, locked := none }) _
  jvm_step X.here [X.here.top, hx, hd, hm', hret, hn, hw]
  try (refine ⟨rfl, ?_⟩)
  first | (intro acts; rw [hl _ acts rfl rfl rfl]) | rw [hl _ _ rfl rfl rfl]
  exact Steps.refl _
end OwnW
end Jvm.RoadKit
namespace Jvm.Pilot.@@N@@
open Jvm Jvm.ClassFile Sem Op Lib Jvm.Free Jvm.Stand Jvm.LawKit Jvm.RoadKit Bundle Jvm.Pilot.@@N@@.Jvm.D
/-- a piece of the walk ahead of what is still to be reached -/
theorem own_go {tb : Tables} {e : Env} {below : List Frame} {A B : State} {P : State → Outcome → Prop} (st : ∀ t, Steps tb e below A t → Steps tb e below B t) (h : ∃ s₂ o, Steps tb e below A s₂ ∧ P s₂ o) : ∃ s₂ o, Steps tb e below B s₂ ∧ P s₂ o := by
  obtain ⟨s₂, o, h1, h2⟩ := h
  exact ⟨s₂, o, st _ h1, h2⟩
theorem d9_0 : decode jdk_41_method_11_code 0 = .ok (.iload_n 0, 1) := by decide +kernel
theorem d9_1 : decode jdk_41_method_11_code 1 = .ok (.ifCond .lt 8, 3) := by decide +kernel
theorem d9_4 : decode jdk_41_method_11_code 4 = .ok (.iload_n 0, 1) := by decide +kernel
theorem d9_5 : decode jdk_41_method_11_code 5 = .ok (.iload_n 1, 1) := by decide +kernel
theorem d9_6 : decode jdk_41_method_11_code 6 = .ok (.if_icmp .lt 10, 3) := by decide +kernel
theorem d9_16 : decode jdk_41_method_11_code 16 = .ok (.iload_n 0, 1) := by decide +kernel
theorem d9_17 : decode jdk_41_method_11_code 17 = .ok (.ireturn, 1) := by decide +kernel
theorem pn_9 : plainName "jdk/internal/util/Preconditions" = true := by first | (simp [plainName, overriddenIn]; done) | decide +kernel
theorem ef_9 (m : MethodId) (x0 : Int32) (x1 : Int32) (x2 : Addr) : entryFrame m #[(.int x0), (.int x1), (.ref x2)] 3 = mkF m 0 #[.val (.int x0), .val (.int x1), .val (.ref x2)] [] := by first | (simp [entryFrame, mkF, argsToLocals, Value.category]; done) | rfl
def Q9 (Z : State) (p1 : Int32) (p2 : Int32) (a3 : Addr) (h0 : Heap) (n0 : Nat) (v : Option Value) (h : Heap) (L : List Loc) : Prop := v = some (.int p1) ∧ Fr n0 L ∧ h = h0
set_option maxRecDepth 65536 in
set_option maxHeartbeats 40000000 in
theorem rm9 (l : Launch) (Z : State) (a0 : Array Value) (hw : ∀ d ∈ tables_1, d.before a0 Z = true) (ws : List Jvm.Cond) (p1 : Int32) (p2 : Int32) (a3 : Addr) (h0 : Heap) (n0 : Nat) (Z0 : n0 ≤ h0.size) (hc1 : ¬ (p1 < (0 : Int32))) (hc6 : p1 < p2) :
    MetFree l (⟨"jdk/internal/util/Preconditions", "checkIndex", "(IILjava/util/function/BiFunction;)I"⟩ : MethodName) (head1 (Jvm.Cond.code (⟨"jdk/internal/util/Preconditions", "checkIndex", "(IILjava/util/function/BiFunction;)I"⟩ : MethodName) jdk_41_method_11_code 3 (some .int) :: ws) ({ frames := 0, cells := 0, slots := 0, locals := 0 } : Room)) (fun a U => a = #[(.int p1), (.int p2), (.ref a3)] ∧ Z.Warmed39 U.vm ∧ U.heap = h0) (fun _ _ _ _ _ => True) (fun _ U o U' => ∃ v L, o = .returned v ∧ Q9 Z p1 p2 a3 h0 n0 v U'.heap L ∧ FrameEnd U o U' L ({ frames := 0, cells := 0, slots := 0, locals := 0 } : Room).cells ({ frames := 0, cells := 0, slots := 0, locals := 0 } : Room).slots) := by
  refine MetFree.of_bodySF (plainFor_of_name pn_9) hisR ?_
  intro p e s m args below meth c s₁ Bd hml0 hP hK
  obtain ⟨rfl, hZ, hh⟩ := hP
  have hx := Bd.exec
  have hby := Bd.bytes
  have hml : c.maxLocals = 3 := hml0
  have hown : s.vm.findClass "jdk/internal/util/Preconditions" = some m.cls := findClass_of_methodNamed Bd.named
  have hnm := (name_of_methodNamed Bd.named Bd.method).1
  have X0 : Stand p l e ({ frames := 0, cells := 0, slots := 0, locals := 0 } : Room) s m #[(.int p1), (.int p2), (.ref a3)] below meth c s₁ [] 0 0 := Stand.of_body Bd
  have e0 : s₁.heap = h0 := by rw [← hh, Bd.state]; rfl
  have N0 := Fr.nil n0
  have pre0 : ∀ t, Steps p.tables e below (s₁.setTop (mkF m 0 #[.val (.int p1), .val (.int p2), .val (.ref a3)] [])) t → Steps p.tables e below (s₁.setTop (entryFrame m #[(.int p1), (.int p2), (.ref a3)] 3)) t := fun t k => castTop (ef_9 m p1 p2 a3) k
  -- 3. LAWS

  obtain ⟨fs, hr, hrun, hended, hW, hsame⟩ := X0.leave (v := some (.int p1)) (fun h => by rw [Bd.returns] at h; cases h)
  refine ⟨_, _, pre0 _ ?_, hrun, hended, _, _, rfl, ?_, ⟨_, rfl⟩, hW, hsame.mono (by decide) (by decide)⟩
  -- 4. STEPS
  · show Steps p.tables e below (s₁.setTop (mkF m 0 #[.val (.int p1), .val (.int p2), .val (.ref a3)] [])) _
    refine XS.iloadN X0.here hx rfl (hb hby d9_0) rfl ?_
    show Steps p.tables e below (s₁.setTop (mkF m 1 #[.val (.int p1), .val (.int p2), .val (.ref a3)] [(.int p1)])) _
    refine XS.ifNo X0.here hx rfl (hb hby d9_1) rfl ((if0 _ _).trans (flt hc1).1) ?_
    show Steps p.tables e below (s₁.setTop (mkF m 4 #[.val (.int p1), .val (.int p2), .val (.ref a3)] [])) _
    refine XS.iloadN X0.here hx rfl (hb hby d9_4) rfl ?_
    show Steps p.tables e below (s₁.setTop (mkF m 5 #[.val (.int p1), .val (.int p2), .val (.ref a3)] [(.int p1)])) _
    refine XS.iloadN X0.here hx rfl (hb hby d9_5) rfl ?_
    show Steps p.tables e below (s₁.setTop (mkF m 6 #[.val (.int p1), .val (.int p2), .val (.ref a3)] [(.int p2), (.int p1)])) _
    refine XS.icmpYes X0.here hx rfl (pc0 := 6) (pc' := 16) rfl (hb hby d9_6) rfl (tlt hc6).1 (by decide) (by decide) ?_
    show Steps p.tables e below (s₁.setTop (mkF m 16 #[.val (.int p1), .val (.int p2), .val (.ref a3)] [])) _
    refine XS.iloadN X0.here hx rfl (hb hby d9_16) rfl ?_
    show Steps p.tables e below (s₁.setTop (mkF m 17 #[.val (.int p1), .val (.int p2), .val (.ref a3)] [(.int p1)])) _
    exact retI X0 hx Bd.returns (hb hby d9_17) hr
  · show Q9 Z p1 p2 a3 h0 n0 _ s₁.heap _
    rw [e0]
    exact ⟨rfl, N0, rfl⟩
theorem ef_9n (m : MethodId) (x0 : Int32) (x1 : Int32) : entryFrame m #[(.int x0), (.int x1), .null] 3 = mkF m 0 #[.val (.int x0), .val (.int x1), .val .null] [] := by first | (simp [entryFrame, mkF, argsToLocals, Value.category]; done) | rfl
def Q9n (Z : State) (p1 : Int32) (p2 : Int32) (h0 : Heap) (n0 : Nat) (v : Option Value) (h : Heap) (L : List Loc) : Prop := v = some (.int p1) ∧ Fr n0 L ∧ h = h0
set_option maxRecDepth 65536 in
set_option maxHeartbeats 40000000 in
theorem rm9n (l : Launch) (Z : State) (a0 : Array Value) (hw : ∀ d ∈ tables_1, d.before a0 Z = true) (ws : List Jvm.Cond) (p1 : Int32) (p2 : Int32) (h0 : Heap) (n0 : Nat) (Z0 : n0 ≤ h0.size) (hc1 : ¬ (p1 < (0 : Int32))) (hc6 : p1 < p2) :
    MetFree l (⟨"jdk/internal/util/Preconditions", "checkIndex", "(IILjava/util/function/BiFunction;)I"⟩ : MethodName) (head1 (Jvm.Cond.code (⟨"jdk/internal/util/Preconditions", "checkIndex", "(IILjava/util/function/BiFunction;)I"⟩ : MethodName) jdk_41_method_11_code 3 (some .int) :: ws) ({ frames := 0, cells := 0, slots := 0, locals := 0 } : Room)) (fun a U => a = #[(.int p1), (.int p2), .null] ∧ Z.Warmed39 U.vm ∧ U.heap = h0) (fun _ _ _ _ _ => True) (fun _ U o U' => ∃ v L, o = .returned v ∧ Q9n Z p1 p2 h0 n0 v U'.heap L ∧ FrameEnd U o U' L ({ frames := 0, cells := 0, slots := 0, locals := 0 } : Room).cells ({ frames := 0, cells := 0, slots := 0, locals := 0 } : Room).slots) := by
  refine MetFree.of_bodySF (plainFor_of_name pn_9) hisR ?_
  intro p e s m args below meth c s₁ Bd hml0 hP hK
  obtain ⟨rfl, hZ, hh⟩ := hP
  have hx := Bd.exec
  have hby := Bd.bytes
  have hml : c.maxLocals = 3 := hml0
  have hown : s.vm.findClass "jdk/internal/util/Preconditions" = some m.cls := findClass_of_methodNamed Bd.named
  have hnm := (name_of_methodNamed Bd.named Bd.method).1
  have X0 : Stand p l e ({ frames := 0, cells := 0, slots := 0, locals := 0 } : Room) s m #[(.int p1), (.int p2), .null] below meth c s₁ [] 0 0 := Stand.of_body Bd
  have e0 : s₁.heap = h0 := by rw [← hh, Bd.state]; rfl
  have N0 := Fr.nil n0
  have pre0 : ∀ t, Steps p.tables e below (s₁.setTop (mkF m 0 #[.val (.int p1), .val (.int p2), .val .null] [])) t → Steps p.tables e below (s₁.setTop (entryFrame m #[(.int p1), (.int p2), .null] 3)) t := fun t k => castTop (ef_9n m p1 p2) k
  -- 3. LAWS

  obtain ⟨fs, hr, hrun, hended, hW, hsame⟩ := X0.leave (v := some (.int p1)) (fun h => by rw [Bd.returns] at h; cases h)
  refine ⟨_, _, pre0 _ ?_, hrun, hended, _, _, rfl, ?_, ⟨_, rfl⟩, hW, hsame.mono (by decide) (by decide)⟩
  -- 4. STEPS
  · show Steps p.tables e below (s₁.setTop (mkF m 0 #[.val (.int p1), .val (.int p2), .val .null] [])) _
    refine XS.iloadN X0.here hx rfl (hb hby d9_0) rfl ?_
    show Steps p.tables e below (s₁.setTop (mkF m 1 #[.val (.int p1), .val (.int p2), .val .null] [(.int p1)])) _
    refine XS.ifNo X0.here hx rfl (hb hby d9_1) rfl ((if0 _ _).trans (flt hc1).1) ?_
    show Steps p.tables e below (s₁.setTop (mkF m 4 #[.val (.int p1), .val (.int p2), .val .null] [])) _
    refine XS.iloadN X0.here hx rfl (hb hby d9_4) rfl ?_
    show Steps p.tables e below (s₁.setTop (mkF m 5 #[.val (.int p1), .val (.int p2), .val .null] [(.int p1)])) _
    refine XS.iloadN X0.here hx rfl (hb hby d9_5) rfl ?_
    show Steps p.tables e below (s₁.setTop (mkF m 6 #[.val (.int p1), .val (.int p2), .val .null] [(.int p2), (.int p1)])) _
    refine XS.icmpYes X0.here hx rfl (pc0 := 6) (pc' := 16) rfl (hb hby d9_6) rfl (tlt hc6).1 (by decide) (by decide) ?_
    show Steps p.tables e below (s₁.setTop (mkF m 16 #[.val (.int p1), .val (.int p2), .val .null] [])) _
    refine XS.iloadN X0.here hx rfl (hb hby d9_16) rfl ?_
    show Steps p.tables e below (s₁.setTop (mkF m 17 #[.val (.int p1), .val (.int p2), .val .null] [(.int p1)])) _
    exact retI X0 hx Bd.returns (hb hby d9_17) hr
  · show Q9n Z p1 p2 h0 n0 _ s₁.heap _
    rw [e0]
    exact ⟨rfl, N0, rfl⟩
theorem d8_0 : decode jdk_42_method_155_code 0 = .ok (.iload_n 0, 1) := by decide +kernel
theorem d8_1 : decode jdk_42_method_155_code 1 = .ok (.iload_n 1, 1) := by decide +kernel
theorem d8_2 : decode jdk_42_method_155_code 2 = .ok (.getstatic 1053, 3) := by decide +kernel
theorem d8_5 : decode jdk_42_method_155_code 5 = .ok (.invokestatic 1059, 3) := by decide +kernel
theorem d8_8 : decode jdk_42_method_155_code 8 = .ok (.pop, 1) := by decide +kernel
theorem d8_9 : decode jdk_42_method_155_code 9 = .ok (.return_, 1) := by decide +kernel
theorem pn_8 : plainName "java/lang/String" = true := by first | (simp [plainName, overriddenIn]; done) | decide +kernel
theorem pd_8_8 : parseMethodDescriptor "(IILjava/util/function/BiFunction;)I" = some ⟨[.int, .int, (.object "java/util/function/BiFunction")], some .int⟩ := by decide +kernel
theorem ef_8 (m : MethodId) (x0 : Int32) (x1 : Int32) : entryFrame m #[(.int x0), (.int x1)] 2 = mkF m 0 #[.val (.int x0), .val (.int x1)] [] := by first | (simp [entryFrame, mkF, argsToLocals, Value.category]; done) | rfl
def Q8 (Z : State) (p1 : Int32) (p2 : Int32) (h0 : Heap) (n0 : Nat) (v : Option Value) (h : Heap) (L : List Loc) : Prop := v = none ∧ Fr n0 L ∧ h = h0
set_option maxRecDepth 65536 in
set_option maxHeartbeats 40000000 in
theorem rm8r (l : Launch) (Z : State) (a0 : Array Value) (hw : ∀ d ∈ tables_1, d.before a0 Z = true) (ws : List Jvm.Cond) (p1 : Int32) (p2 : Int32) (w3 : Addr) (h0 : Heap) (n0 : Nat) (Z0 : n0 ≤ h0.size) (S_SIOOBE_FORMATTER : Sta Z h0 "jdk/internal/util/Preconditions" "SIOOBE_FORMATTER" "Ljava/util/function/BiFunction;" (.ref w3)) (hc1 : ¬ (p1 < (0 : Int32))) (hc6 : p1 < p2) :
    MetFree l (⟨"java/lang/String", "checkIndex", "(II)V"⟩ : MethodName) (head1 (Jvm.Cond.code (⟨"java/lang/String", "checkIndex", "(II)V"⟩ : MethodName) jdk_42_method_155_code 2 none :: ws) ({ frames := 1, cells := 0, slots := 0, locals := 14 } : Room)) (fun a U => a = #[(.int p1), (.int p2)] ∧ Z.Warmed39 U.vm ∧ U.heap = h0) (fun _ _ _ _ _ => True) (fun _ U o U' => ∃ v L, o = .returned v ∧ Q8 Z p1 p2 h0 n0 v U'.heap L ∧ FrameEnd U o U' L ({ frames := 1, cells := 0, slots := 0, locals := 14 } : Room).cells ({ frames := 1, cells := 0, slots := 0, locals := 14 } : Room).slots) := by
  refine MetFree.of_bodySF (plainFor_of_name pn_8) hisR ?_
  intro p e s m args below meth c s₁ Bd hml0 hP hK
  obtain ⟨rfl, hZ, hh⟩ := hP
  have hx := Bd.exec
  have hby := Bd.bytes
  have hml : c.maxLocals = 2 := hml0
  have hown : s.vm.findClass "java/lang/String" = some m.cls := findClass_of_methodNamed Bd.named
  have hnm := (name_of_methodNamed Bd.named Bd.method).1
  have X0 : Stand p l e ({ frames := 1, cells := 0, slots := 0, locals := 14 } : Room) s m #[(.int p1), (.int p2)] below meth c s₁ [] 0 0 := Stand.of_body Bd
  have e0 : s₁.heap = h0 := by rw [← hh, Bd.state]; rfl
  have N0 := Fr.nil n0
  have pre0 : ∀ t, Steps p.tables e below (s₁.setTop (mkF m 0 #[.val (.int p1), .val (.int p2)] [])) t → Steps p.tables e below (s₁.setTop (entryFrame m #[(.int p1), (.int p2)] 2)) t := fun t k => castTop (ef_8 m p1 p2) k
  -- 3. LAWS
  obtain ⟨T4, X4, e4, st4⟩ := getS2 X0 hx hZ hown (host := "") (Or.inl (hw _ (List.mem_of_getElem? (i := 46) rfl))) Via.refl e0 S_SIOOBE_FORMATTER (g := (mkF m 2 #[.val (.int p1), .val (.int p2)] [(.int p2), (.int p1)])) rfl (hb hby d8_2)
  -- pc 5: jdk/internal/util/Preconditions.checkIndex by its contract rm9
  obtain ⟨_, _, ⟨T5, L5, k5, n5⟩, -, X5, ⟨Lc5, hQ5, l5, y5, z5⟩, st5⟩ := Jvm.LawKit.callS X4 hx (y := (⟨"jdk/internal/util/Preconditions", "checkIndex", "(IILjava/util/function/BiFunction;)I"⟩ : MethodName)) hown (mvT hZ (hw _ (List.mem_of_getElem? (i := 48) rfl))) (mvT hZ (hw _ (List.mem_of_getElem? (i := 49) rfl))) (mvT hZ (hw _ (List.mem_of_getElem? (i := 47) rfl))) (mvT hZ (hw _ (List.mem_of_getElem? (i := 50) rfl))) (by decide) (backOf (W := 0) (rm9 l Z a0 hw [] p1 p2 w3 h0 n0 Z0 hc1 hc6) hZ (hw _ (List.mem_of_getElem? (i := 50) rfl)) (hw _ (List.mem_of_getElem? (i := 47) rfl)) (by decide) (by decide)) (g := (mkF m 5 #[.val (.int p1), .val (.int p2)] [(.ref w3), (.int p2), (.int p1)])) rfl (by rw [hml]; rfl) (argsL := [(.int p1), (.int p2), (.ref w3)]) (rest := []) (lenOf pd_8_8 rfl) rfl (by show 2 * 0 + _ ≤ _; exact Nat.le_of_eq rfl) (hb hby d8_5) (fun _ _ => ⟨rfl, e4, (by decide : 0 + 0 ≤ _), (by decide : 0 + 0 ≤ _)⟩)
  dsimp only [Pt.U, Pt.locs, Pt.cells, Pt.slots] at X5 l5 y5 z5 st5 hQ5
  subst l5 y5 z5
  obtain ⟨rfl, N5q, q5⟩ := hQ5
  have N5 := Fr.app N0 N5q
  obtain ⟨fs, hr, hrun, hended, hW, hsame⟩ := X5.leave (v := none) (fun _ => rfl)
  refine ⟨_, _, pre0 _ ?_, hrun, hended, _, _, rfl, ?_, ⟨_, rfl⟩, hW, hsame.mono (by decide) (by decide)⟩
  -- 4. STEPS
  · show Steps p.tables e below (s₁.setTop (mkF m 0 #[.val (.int p1), .val (.int p2)] [])) _
    refine XS.iloadN X0.here hx rfl (hb hby d8_0) rfl ?_
    show Steps p.tables e below (s₁.setTop (mkF m 1 #[.val (.int p1), .val (.int p2)] [(.int p1)])) _
    refine XS.iloadN X0.here hx rfl (hb hby d8_1) rfl ?_
    show Steps p.tables e below (s₁.setTop (mkF m 2 #[.val (.int p1), .val (.int p2)] [(.int p2), (.int p1)])) _
    refine st4 _ ?_
    show Steps p.tables e below (T4.setTop (mkF m 5 #[.val (.int p1), .val (.int p2)] [(.ref w3), (.int p2), (.int p1)])) _
    refine st5 _ ?_
    show Steps p.tables e below (T5.setTop (mkF m 8 #[.val (.int p1), .val (.int p2)] [(.int p1)])) _
    refine XS.pop X5.here hx rfl (hb hby d8_8) rfl rfl ?_
    show Steps p.tables e below (T5.setTop (mkF m 9 #[.val (.int p1), .val (.int p2)] [])) _
    exact X5.returnOut hx Bd.returns (hb hby d8_9) hr
  · show Q8 Z p1 p2 h0 n0 _ T5.heap _
    exact ⟨rfl, N5, q5⟩
set_option maxRecDepth 65536 in
set_option maxHeartbeats 40000000 in
theorem rm8n (l : Launch) (Z : State) (a0 : Array Value) (hw : ∀ d ∈ tables_1, d.before a0 Z = true) (ws : List Jvm.Cond) (p1 : Int32) (p2 : Int32) (h0 : Heap) (n0 : Nat) (Z0 : n0 ≤ h0.size) (S_SIOOBE_FORMATTER : Sta Z h0 "jdk/internal/util/Preconditions" "SIOOBE_FORMATTER" "Ljava/util/function/BiFunction;" .null) (hc1 : ¬ (p1 < (0 : Int32))) (hc6 : p1 < p2) :
    MetFree l (⟨"java/lang/String", "checkIndex", "(II)V"⟩ : MethodName) (head1 (Jvm.Cond.code (⟨"java/lang/String", "checkIndex", "(II)V"⟩ : MethodName) jdk_42_method_155_code 2 none :: ws) ({ frames := 1, cells := 0, slots := 0, locals := 14 } : Room)) (fun a U => a = #[(.int p1), (.int p2)] ∧ Z.Warmed39 U.vm ∧ U.heap = h0) (fun _ _ _ _ _ => True) (fun _ U o U' => ∃ v L, o = .returned v ∧ Q8 Z p1 p2 h0 n0 v U'.heap L ∧ FrameEnd U o U' L ({ frames := 1, cells := 0, slots := 0, locals := 14 } : Room).cells ({ frames := 1, cells := 0, slots := 0, locals := 14 } : Room).slots) := by
  refine MetFree.of_bodySF (plainFor_of_name pn_8) hisR ?_
  intro p e s m args below meth c s₁ Bd hml0 hP hK
  obtain ⟨rfl, hZ, hh⟩ := hP
  have hx := Bd.exec
  have hby := Bd.bytes
  have hml : c.maxLocals = 2 := hml0
  have hown : s.vm.findClass "java/lang/String" = some m.cls := findClass_of_methodNamed Bd.named
  have hnm := (name_of_methodNamed Bd.named Bd.method).1
  have X0 : Stand p l e ({ frames := 1, cells := 0, slots := 0, locals := 14 } : Room) s m #[(.int p1), (.int p2)] below meth c s₁ [] 0 0 := Stand.of_body Bd
  have e0 : s₁.heap = h0 := by rw [← hh, Bd.state]; rfl
  have N0 := Fr.nil n0
  have pre0 : ∀ t, Steps p.tables e below (s₁.setTop (mkF m 0 #[.val (.int p1), .val (.int p2)] [])) t → Steps p.tables e below (s₁.setTop (entryFrame m #[(.int p1), (.int p2)] 2)) t := fun t k => castTop (ef_8 m p1 p2) k
  -- 3. LAWS
  obtain ⟨T4, X4, e4, st4⟩ := getS2 X0 hx hZ hown (host := "") (Or.inl (hw _ (List.mem_of_getElem? (i := 46) rfl))) Via.refl e0 S_SIOOBE_FORMATTER (g := (mkF m 2 #[.val (.int p1), .val (.int p2)] [(.int p2), (.int p1)])) rfl (hb hby d8_2)
  -- pc 5: jdk/internal/util/Preconditions.checkIndex by its contract rm9
  obtain ⟨_, _, ⟨T5, L5, k5, n5⟩, -, X5, ⟨Lc5, hQ5, l5, y5, z5⟩, st5⟩ := Jvm.LawKit.callS X4 hx (y := (⟨"jdk/internal/util/Preconditions", "checkIndex", "(IILjava/util/function/BiFunction;)I"⟩ : MethodName)) hown (mvT hZ (hw _ (List.mem_of_getElem? (i := 48) rfl))) (mvT hZ (hw _ (List.mem_of_getElem? (i := 49) rfl))) (mvT hZ (hw _ (List.mem_of_getElem? (i := 47) rfl))) (mvT hZ (hw _ (List.mem_of_getElem? (i := 50) rfl))) (by decide) (backOf (W := 0) (rm9n l Z a0 hw [] p1 p2 h0 n0 Z0 hc1 hc6) hZ (hw _ (List.mem_of_getElem? (i := 50) rfl)) (hw _ (List.mem_of_getElem? (i := 47) rfl)) (by decide) (by decide)) (g := (mkF m 5 #[.val (.int p1), .val (.int p2)] [.null, (.int p2), (.int p1)])) rfl (by rw [hml]; rfl) (argsL := [(.int p1), (.int p2), .null]) (rest := []) (lenOf pd_8_8 rfl) rfl (by show 2 * 0 + _ ≤ _; exact Nat.le_of_eq rfl) (hb hby d8_5) (fun _ _ => ⟨rfl, e4, (by decide : 0 + 0 ≤ _), (by decide : 0 + 0 ≤ _)⟩)
  dsimp only [Pt.U, Pt.locs, Pt.cells, Pt.slots] at X5 l5 y5 z5 st5 hQ5
  subst l5 y5 z5
  obtain ⟨rfl, N5q, q5⟩ := hQ5
  have N5 := Fr.app N0 N5q
  obtain ⟨fs, hr, hrun, hended, hW, hsame⟩ := X5.leave (v := none) (fun _ => rfl)
  refine ⟨_, _, pre0 _ ?_, hrun, hended, _, _, rfl, ?_, ⟨_, rfl⟩, hW, hsame.mono (by decide) (by decide)⟩
  -- 4. STEPS
  · show Steps p.tables e below (s₁.setTop (mkF m 0 #[.val (.int p1), .val (.int p2)] [])) _
    refine XS.iloadN X0.here hx rfl (hb hby d8_0) rfl ?_
    show Steps p.tables e below (s₁.setTop (mkF m 1 #[.val (.int p1), .val (.int p2)] [(.int p1)])) _
    refine XS.iloadN X0.here hx rfl (hb hby d8_1) rfl ?_
    show Steps p.tables e below (s₁.setTop (mkF m 2 #[.val (.int p1), .val (.int p2)] [(.int p2), (.int p1)])) _
    refine st4 _ ?_
    show Steps p.tables e below (T4.setTop (mkF m 5 #[.val (.int p1), .val (.int p2)] [.null, (.int p2), (.int p1)])) _
    refine st5 _ ?_
    show Steps p.tables e below (T5.setTop (mkF m 8 #[.val (.int p1), .val (.int p2)] [(.int p1)])) _
    refine XS.pop X5.here hx rfl (hb hby d8_8) rfl rfl ?_
    show Steps p.tables e below (T5.setTop (mkF m 9 #[.val (.int p1), .val (.int p2)] [])) _
    exact X5.returnOut hx Bd.returns (hb hby d8_9) hr
  · show Q8 Z p1 p2 h0 n0 _ T5.heap _
    exact ⟨rfl, N5, q5⟩
set_option maxRecDepth 65536 in
set_option maxHeartbeats 40000000 in
theorem rm8 (l : Launch) (Z : State) (a0 : Array Value) (hw : ∀ d ∈ tables_1, d.before a0 Z = true) (ws : List Jvm.Cond) (p1 : Int32) (p2 : Int32) (G3 : Value) (h0 : Heap) (n0 : Nat) (Z0 : n0 ≤ h0.size) (rG3 : G3.isRef = true) (S_F : Sta Z h0 "jdk/internal/util/Preconditions" "SIOOBE_FORMATTER" "Ljava/util/function/BiFunction;" G3) (hc1 : ¬ (p1 < (0 : Int32))) (hc6 : p1 < p2) :
    MetFree l (⟨"java/lang/String", "checkIndex", "(II)V"⟩ : MethodName) (head1 (Jvm.Cond.code (⟨"java/lang/String", "checkIndex", "(II)V"⟩ : MethodName) jdk_42_method_155_code 2 none :: ws) ({ frames := 1, cells := 0, slots := 0, locals := 14 } : Room)) (fun a U => a = #[(.int p1), (.int p2)] ∧ Z.Warmed39 U.vm ∧ U.heap = h0) (fun _ _ _ _ _ => True) (fun _ U o U' => ∃ v L, o = .returned v ∧ Q8 Z p1 p2 h0 n0 v U'.heap L ∧ FrameEnd U o U' L ({ frames := 1, cells := 0, slots := 0, locals := 14 } : Room).cells ({ frames := 1, cells := 0, slots := 0, locals := 14 } : Room).slots) := by
  rcases ref_cases rG3 with rfl | ⟨w3, rfl⟩
  · exact rm8n l Z a0 hw ws p1 p2 h0 n0 Z0 S_F hc1 hc6
  · exact rm8r l Z a0 hw ws p1 p2 w3 h0 n0 Z0 S_F hc1 hc6
theorem d7_0 : decode jdk_43_method_2_code 0 = .ok (.iload_n 1, 1) := by decide +kernel
theorem d7_1 : decode jdk_43_method_2_code 1 = .ok (.aload_n 0, 1) := by decide +kernel
theorem d7_2 : decode jdk_43_method_2_code 2 = .ok (.arraylength, 1) := by decide +kernel
theorem d7_3 : decode jdk_43_method_2_code 3 = .ok (.invokestatic 9, 3) := by decide +kernel
theorem d7_6 : decode jdk_43_method_2_code 6 = .ok (.aload_n 0, 1) := by decide +kernel
theorem d7_7 : decode jdk_43_method_2_code 7 = .ok (.iload_n 1, 1) := by decide +kernel
theorem d7_8 : decode jdk_43_method_2_code 8 = .ok (.baload, 1) := by decide +kernel
theorem d7_9 : decode jdk_43_method_2_code 9 = .ok (.sipush 255, 3) := by decide +kernel
theorem d7_12 : decode jdk_43_method_2_code 12 = .ok (.iand, 1) := by decide +kernel
theorem d7_13 : decode jdk_43_method_2_code 13 = .ok (.i2c, 1) := by decide +kernel
theorem d7_14 : decode jdk_43_method_2_code 14 = .ok (.ireturn, 1) := by decide +kernel
theorem pn_7 : plainName "java/lang/StringLatin1" = true := by first | (simp [plainName, overriddenIn]; done) | decide +kernel
theorem pd_7_7 : parseMethodDescriptor "(II)V" = some ⟨[.int, .int], none⟩ := by decide +kernel
theorem ef_7 (m : MethodId) (x0 : Addr) (x1 : Int32) : entryFrame m #[(.ref x0), (.int x1)] 2 = mkF m 0 #[.val (.ref x0), .val (.int x1)] [] := by first | (simp [entryFrame, mkF, argsToLocals, Value.category]; done) | rfl
def Q7 (Z : State) (a1 : Addr) (p2 : Int32) (cl_a1 : Cell) (z_a1 : Int32) (w4 : Int32) (G3 : Value) (cc : Int32) (h0 : Heap) (n0 : Nat) (v : Option Value) (h : Heap) (L : List Loc) : Prop := v = some (.int cc) ∧ Fr n0 L ∧ h = h0
set_option maxRecDepth 65536 in
set_option maxHeartbeats 40000000 in
theorem rm7 (l : Launch) (Z : State) (a0 : Array Value) (hw : ∀ d ∈ tables_1, d.before a0 Z = true) (ws : List Jvm.Cond) (a1 : Addr) (p2 : Int32) (cl_a1 : Cell) (z_a1 : Int32) (w4 : Int32) (G3 : Value) (cc : Int32) (h0 : Heap) (n0 : Nat) (Z0 : n0 ≤ h0.size) (Ar_a1 : Arr Z h0 a1 cl_a1 .byte) (S_a1 : cl_a1.slots.size = z_a1.toNatClampNeg) (N_a1 : ¬ z_a1 < 0) (hin8 : ¬ (p2 < 0 ∨ cl_a1.slots.size ≤ (p2).toNatClampNeg)) (hat8 : cl_a1.slots[(p2).toNatClampNeg]? = some (.int w4)) (rG3 : G3.isRef = true) (S_F : Sta Z h0 "jdk/internal/util/Preconditions" "SIOOBE_FORMATTER" "Ljava/util/function/BiFunction;" G3) (hlt : ¬ p2 < 0 ∧ p2 < z_a1) (hcc : (nar .char ((w4 &&& (255 : Int32)).toUInt32.toUInt16.toUInt32.toInt32)) = cc) :
    MetFree l (⟨"java/lang/StringLatin1", "charAt", "([BI)C"⟩ : MethodName) (head1 (Jvm.Cond.code (⟨"java/lang/StringLatin1", "charAt", "([BI)C"⟩ : MethodName) jdk_43_method_2_code 2 (some .char) :: ws) ({ frames := 2, cells := 0, slots := 0, locals := 27 } : Room)) (fun a U => a = #[(.ref a1), (.int p2)] ∧ Z.Warmed39 U.vm ∧ U.heap = h0) (fun _ _ _ _ _ => True) (fun _ U o U' => ∃ v L, o = .returned v ∧ Q7 Z a1 p2 cl_a1 z_a1 w4 G3 cc h0 n0 v U'.heap L ∧ FrameEnd U o U' L ({ frames := 2, cells := 0, slots := 0, locals := 27 } : Room).cells ({ frames := 2, cells := 0, slots := 0, locals := 27 } : Room).slots) := by
  refine MetFree.of_bodySF (plainFor_of_name pn_7) hisR ?_
  intro p e s m args below meth c s₁ Bd hml0 hP hK
  obtain ⟨rfl, hZ, hh⟩ := hP
  have hx := Bd.exec
  have hby := Bd.bytes
  have hml : c.maxLocals = 2 := hml0
  have hown : s.vm.findClass "java/lang/StringLatin1" = some m.cls := findClass_of_methodNamed Bd.named
  have hnm := (name_of_methodNamed Bd.named Bd.method).1
  have X0 : Stand p l e ({ frames := 2, cells := 0, slots := 0, locals := 27 } : Room) s m #[(.ref a1), (.int p2)] below meth c s₁ [] 0 0 := Stand.of_body Bd
  have e0 : s₁.heap = h0 := by rw [← hh, Bd.state]; rfl
  have N0 := Fr.nil n0
  have pre0 : ∀ t, Steps p.tables e below (s₁.setTop (mkF m 0 #[.val (.ref a1), .val (.int p2)] [])) t → Steps p.tables e below (s₁.setTop (entryFrame m #[(.ref a1), (.int p2)] 2)) t := fun t k => castTop (ef_7 m a1 p2) k
  -- 3. LAWS
  -- pc 3: java/lang/String.checkIndex by its contract rm8
  obtain ⟨_, _, ⟨T3, L3, k3, n3⟩, -, X3, ⟨Lc3, hQ3, l3, y3, z3⟩, st3⟩ := Jvm.LawKit.callS X0 hx (y := (⟨"java/lang/String", "checkIndex", "(II)V"⟩ : MethodName)) hown (mvT hZ (hw _ (List.mem_of_getElem? (i := 43) rfl))) (mvT hZ (hw _ (List.mem_of_getElem? (i := 44) rfl))) (mvT hZ (hw _ (List.mem_of_getElem? (i := 5) rfl))) (mvT hZ (hw _ (List.mem_of_getElem? (i := 45) rfl))) (by decide) (backOf (W := 0) (rm8 l Z a0 hw [] p2 z_a1 G3 h0 n0 Z0 rG3 S_F hlt.1 hlt.2) hZ (hw _ (List.mem_of_getElem? (i := 45) rfl)) (hw _ (List.mem_of_getElem? (i := 5) rfl)) (by decide) (by decide)) (g := (mkF m 3 #[.val (.ref a1), .val (.int p2)] [(.int z_a1), (.int p2)])) rfl (by rw [hml]; rfl) (argsL := [(.int p2), (.int z_a1)]) (rest := []) (lenOf pd_7_7 rfl) rfl (by show 2 * 0 + _ ≤ _; exact Nat.le_of_eq rfl) (hb hby d7_3) (fun _ _ => ⟨rfl, e0, (by decide : 0 + 0 ≤ _), (by decide : 0 + 0 ≤ _)⟩)
  dsimp only [Pt.U, Pt.locs, Pt.cells, Pt.slots] at X3 l3 y3 z3 st3 hQ3
  subst l3 y3 z3
  obtain ⟨rfl, N3q, q3⟩ := hQ3
  have N3 := Fr.app N0 N3q
  -- ✋ yours: Ar_a1 must speak of T3.heap here (carried over the writes ahead of it)
  obtain ⟨fs, hr, hrun, hended, hW, hsame⟩ := X3.leave (v := some (.int (nar .char ((w4 &&& (255 : Int32)).toUInt32.toUInt16.toUInt32.toInt32)))) (fun h => by rw [Bd.returns] at h; cases h)
  refine ⟨_, _, pre0 _ ?_, hrun, hended, _, _, rfl, ?_, ⟨_, rfl⟩, hW, hsame.mono (by decide) (by decide)⟩
  -- 4. STEPS
  · show Steps p.tables e below (s₁.setTop (mkF m 0 #[.val (.ref a1), .val (.int p2)] [])) _
    refine XS.iloadN X0.here hx rfl (hb hby d7_0) rfl ?_
    show Steps p.tables e below (s₁.setTop (mkF m 1 #[.val (.ref a1), .val (.int p2)] [(.int p2)])) _
    refine XS.aloadN X0.here hx rfl (hb hby d7_1) rfl rfl ?_
    show Steps p.tables e below (s₁.setTop (mkF m 2 #[.val (.ref a1), .val (.int p2)] [(.ref a1), (.int p2)])) _
    refine X0.arraylength hx (by rw [e0]; exact Ar_a1.1) (State.isArrayOf_alike hZ.alike Ar_a1.2.1) (g := (mkF m 2 #[.val (.ref a1), .val (.int p2)] [(.ref a1), (.int p2)])) rfl rfl (hb hby d7_2) _ ?_
    rw [len_of S_a1 N_a1]
    show Steps p.tables e below (s₁.setTop (mkF m 3 #[.val (.ref a1), .val (.int p2)] [(.int z_a1), (.int p2)])) _
    refine st3 _ ?_
    show Steps p.tables e below (T3.setTop (mkF m 6 #[.val (.ref a1), .val (.int p2)] [])) _
    refine XS.aloadN X3.here hx rfl (hb hby d7_6) rfl rfl ?_
    show Steps p.tables e below (T3.setTop (mkF m 7 #[.val (.ref a1), .val (.int p2)] [(.ref a1)])) _
    refine XS.iloadN X3.here hx rfl (hb hby d7_7) rfl ?_
    show Steps p.tables e below (T3.setTop (mkF m 8 #[.val (.ref a1), .val (.int p2)] [(.int p2), (.ref a1)])) _
    refine X3.baloadBytes hx (j := p2) (v := (.int w4)) (by rw [q3]; exact Ar_a1.1) (State.isArrayOf_alike hZ.alike Ar_a1.2.1) Ar_a1.2.2 hin8 hat8 (g := (mkF m 8 #[.val (.ref a1), .val (.int p2)] [(.int p2), (.ref a1)])) rfl rfl (hb hby d7_8) _ ?_
    show Steps p.tables e below (T3.setTop (mkF m 9 #[.val (.ref a1), .val (.int p2)] [(.int w4)])) _
    refine XS.sipush X3.here hx rfl (hb hby d7_9) ?_
    show Steps p.tables e below (T3.setTop (mkF m 12 #[.val (.ref a1), .val (.int p2)] [(.int (255 : Int32)), (.int w4)])) _
    refine XS.iand X3.here hx rfl (hb hby d7_12) rfl ?_
    show Steps p.tables e below (T3.setTop (mkF m 13 #[.val (.ref a1), .val (.int p2)] [(.int (w4 &&& (255 : Int32)))])) _
    refine XS.i2c X3.here hx rfl (hb hby d7_13) rfl ?_
    show Steps p.tables e below (T3.setTop (mkF m 14 #[.val (.ref a1), .val (.int p2)] [(.int ((w4 &&& (255 : Int32)).toUInt32.toUInt16.toUInt32.toInt32))])) _
    exact retN X3 hx (t := .char) Bd.returns (by simp) (hb hby d7_14) hr
  · show Q7 Z a1 p2 cl_a1 z_a1 w4 G3 cc h0 n0 _ T3.heap _
    exact ⟨by rw [hcc], N3, q3⟩
theorem d6_0 : decode jdk_42_method_154_code 0 = .ok (.getstatic 38, 3) := by decide +kernel
theorem d6_3 : decode jdk_42_method_154_code 3 = .ok (.ifCond .eq 14, 3) := by decide +kernel
theorem d6_6 : decode jdk_42_method_154_code 6 = .ok (.aload_n 0, 1) := by decide +kernel
theorem d6_7 : decode jdk_42_method_154_code 7 = .ok (.getfield 15, 3) := by decide +kernel
theorem d6_10 : decode jdk_42_method_154_code 10 = .ok (.ifCond .ne 7, 3) := by decide +kernel
theorem d6_13 : decode jdk_42_method_154_code 13 = .ok (.iconst 1, 1) := by decide +kernel
theorem d6_14 : decode jdk_42_method_154_code 14 = .ok (.goto 4, 3) := by decide +kernel
theorem d6_18 : decode jdk_42_method_154_code 18 = .ok (.ireturn, 1) := by decide +kernel
theorem pn_6 : plainName "java/lang/String" = true := by first | (simp [plainName, overriddenIn]; done) | decide +kernel
theorem ef_6 (m : MethodId) (x0 : Addr) : entryFrame m #[(.ref x0)] 1 = mkF m 0 #[.val (.ref x0)] [] := by first | (simp [entryFrame, mkF, argsToLocals, Value.category]; done) | rfl
def Q6 (Z : State) (a1 : Addr) (w2 : Int32) (w4 : Int32) (h0 : Heap) (n0 : Nat) (v : Option Value) (h : Heap) (L : List Loc) : Prop := v = some (.int (1 : Int32)) ∧ Fr n0 L ∧ h = h0
set_option maxRecDepth 65536 in
set_option maxHeartbeats 40000000 in
theorem rm6 (l : Launch) (Z : State) (a0 : Array Value) (hw : ∀ d ∈ tables_1, d.before a0 Z = true) (ws : List Jvm.Cond) (a1 : Addr) (w2 : Int32) (w4 : Int32) (h0 : Heap) (n0 : Nat) (Z0 : n0 ≤ h0.size) (S_COMPACT_STRINGS : Sta Z h0 "java/lang/String" "COMPACT_STRINGS" "Z" (.int w2)) (F_coder_a1 : Fld Z h0 a1 "java/lang/String" "coder" "B" (.int w4)) (hc3 : ¬ (w2 = (0 : Int32))) (hc10 : w4 = (0 : Int32)) :
    MetFree l (⟨"java/lang/String", "isLatin1", "()Z"⟩ : MethodName) (head1 (Jvm.Cond.code (⟨"java/lang/String", "isLatin1", "()Z"⟩ : MethodName) jdk_42_method_154_code 1 (some .boolean) :: ws) ({ frames := 0, cells := 0, slots := 0, locals := 0 } : Room)) (fun a U => a = #[(.ref a1)] ∧ Z.Warmed39 U.vm ∧ U.heap = h0) (fun _ _ _ _ _ => True) (fun _ U o U' => ∃ v L, o = .returned v ∧ Q6 Z a1 w2 w4 h0 n0 v U'.heap L ∧ FrameEnd U o U' L ({ frames := 0, cells := 0, slots := 0, locals := 0 } : Room).cells ({ frames := 0, cells := 0, slots := 0, locals := 0 } : Room).slots) := by
  refine MetFree.of_bodySF (plainFor_of_name pn_6) hisR ?_
  intro p e s m args below meth c s₁ Bd hml0 hP hK
  obtain ⟨rfl, hZ, hh⟩ := hP
  have hx := Bd.exec
  have hby := Bd.bytes
  have hml : c.maxLocals = 1 := hml0
  have hown : s.vm.findClass "java/lang/String" = some m.cls := findClass_of_methodNamed Bd.named
  have hnm := (name_of_methodNamed Bd.named Bd.method).1
  have X0 : Stand p l e ({ frames := 0, cells := 0, slots := 0, locals := 0 } : Room) s m #[(.ref a1)] below meth c s₁ [] 0 0 := Stand.of_body Bd
  have e0 : s₁.heap = h0 := by rw [← hh, Bd.state]; rfl
  have N0 := Fr.nil n0
  have pre0 : ∀ t, Steps p.tables e below (s₁.setTop (mkF m 0 #[.val (.ref a1)] [])) t → Steps p.tables e below (s₁.setTop (entryFrame m #[(.ref a1)] 1)) t := fun t k => castTop (ef_6 m a1) k
  -- 3. LAWS
  obtain ⟨T3, X3, e3, st3⟩ := getS2 X0 hx hZ hown (host := "") (Or.inl (hw _ (List.mem_of_getElem? (i := 27) rfl))) Via.refl e0 S_COMPACT_STRINGS (g := (mkF m 0 #[.val (.ref a1)] [])) rfl (hb hby d6_0)
  obtain ⟨T5, X5, e5, st5⟩ := getF X3 hx hZ hown (host := "") (Or.inl (hw _ (List.mem_of_getElem? (i := 28) rfl))) Via.refl e3 F_coder_a1 (g := (mkF m 7 #[.val (.ref a1)] [(.ref a1)])) rfl rfl (hb hby d6_7)
  obtain ⟨fs, hr, hrun, hended, hW, hsame⟩ := X5.leave (v := some (.int (1 : Int32))) (fun h => by rw [Bd.returns] at h; cases h)
  refine ⟨_, _, pre0 _ ?_, hrun, hended, _, _, rfl, ?_, ⟨_, rfl⟩, hW, hsame.mono (by decide) (by decide)⟩
  -- 4. STEPS
  · show Steps p.tables e below (s₁.setTop (mkF m 0 #[.val (.ref a1)] [])) _
    refine st3 _ ?_
    show Steps p.tables e below (T3.setTop (mkF m 3 #[.val (.ref a1)] [(.int w2)])) _
    refine XS.ifNo X3.here hx rfl (hb hby d6_3) rfl ((if0 _ _).trans (feq hc3).1) ?_
    show Steps p.tables e below (T3.setTop (mkF m 6 #[.val (.ref a1)] [])) _
    refine XS.aloadN X3.here hx rfl (hb hby d6_6) rfl rfl ?_
    show Steps p.tables e below (T3.setTop (mkF m 7 #[.val (.ref a1)] [(.ref a1)])) _
    refine st5 _ ?_
    show Steps p.tables e below (T5.setTop (mkF m 10 #[.val (.ref a1)] [(.int w4)])) _
    refine XS.ifNo X5.here hx rfl (hb hby d6_10) rfl ((if0 _ _).trans (teq hc10).2) ?_
    show Steps p.tables e below (T5.setTop (mkF m 13 #[.val (.ref a1)] [])) _
    refine XS.iconst X5.here hx rfl (hb hby d6_13) ?_
    show Steps p.tables e below (T5.setTop (mkF m 14 #[.val (.ref a1)] [(.int (1 : Int32))])) _
    refine XS.goto X5.here hx rfl (pc0 := 14) (pc' := 18) rfl (hb hby d6_14) (by decide) (by decide) ?_
    show Steps p.tables e below (T5.setTop (mkF m 18 #[.val (.ref a1)] [(.int (1 : Int32))])) _
    exact retN X5 hx (t := .boolean) Bd.returns (by simp) (hb hby d6_18) hr
  · show Q6 Z a1 w2 w4 h0 n0 _ T5.heap _
    rw [e5]
    exact ⟨rfl, N0, rfl⟩
theorem d5_0 : decode jdk_42_method_56_code 0 = .ok (.aload_n 0, 1) := by decide +kernel
theorem d5_1 : decode jdk_42_method_56_code 1 = .ok (.invokevirtual 492, 3) := by decide +kernel
theorem d5_4 : decode jdk_42_method_56_code 4 = .ok (.ifCond .eq 12, 3) := by decide +kernel
theorem d5_7 : decode jdk_42_method_56_code 7 = .ok (.aload_n 0, 1) := by decide +kernel
theorem d5_8 : decode jdk_42_method_56_code 8 = .ok (.getfield 9, 3) := by decide +kernel
theorem d5_11 : decode jdk_42_method_56_code 11 = .ok (.iload_n 1, 1) := by decide +kernel
theorem d5_12 : decode jdk_42_method_56_code 12 = .ok (.invokestatic 495, 3) := by decide +kernel
theorem d5_15 : decode jdk_42_method_56_code 15 = .ok (.ireturn, 1) := by decide +kernel
theorem pn_5 : plainName "java/lang/String" = true := by first | (simp [plainName, overriddenIn]; done) | decide +kernel
theorem pd_5_5 : parseMethodDescriptor "()Z" = some ⟨[], some .boolean⟩ := by decide +kernel
theorem pd_5_6 : parseMethodDescriptor "([BI)C" = some ⟨[(.array .byte), .int], some .char⟩ := by decide +kernel
theorem ef_5 (m : MethodId) (x0 : Addr) (x1 : Int32) : entryFrame m #[(.ref x0), (.int x1)] 2 = mkF m 0 #[.val (.ref x0), .val (.int x1)] [] := by first | (simp [entryFrame, mkF, argsToLocals, Value.category]; done) | rfl
def Q5 (Z : State) (a1 : Addr) (p2 : Int32) (w4 : Addr) (cl : Cell) (z b cc gC : Int32) (G3 : Value) (h0 : Heap) (n0 : Nat) (v : Option Value) (h : Heap) (L : List Loc) : Prop := v = some (.int cc) ∧ Fr n0 L ∧ h = h0
set_option maxRecDepth 65536 in
set_option maxHeartbeats 40000000 in
theorem rm5 (l : Launch) (Z : State) (a0 : Array Value) (hw : ∀ d ∈ tables_1, d.before a0 Z = true) (ws : List Jvm.Cond) (a1 : Addr) (p2 : Int32) (w4 : Addr) (cl : Cell) (z b cc gC : Int32) (G3 : Value) (h0 : Heap) (n0 : Nat) (Z0 : n0 ≤ h0.size) (E_a1 : Exa Z h0 a1 "java/lang/String") (F_value_a1 : Fld Z h0 a1 "java/lang/String" "value" "[B" (.ref w4)) (F_coder_a1 : Fld Z h0 a1 "java/lang/String" "coder" "B" (.int (0 : Int32))) (S_C : Sta Z h0 "java/lang/String" "COMPACT_STRINGS" "Z" (.int gC)) (hg1 : ¬ (gC = (0 : Int32))) (rG3 : G3.isRef = true) (S_F : Sta Z h0 "jdk/internal/util/Preconditions" "SIOOBE_FORMATTER" "Ljava/util/function/BiFunction;" G3) (Ar : Arr Z h0 w4 cl .byte) (Sz : cl.slots.size = z.toNatClampNeg) (Nz : ¬ z < 0) (hlt : ¬ p2 < 0 ∧ p2 < z) (hat : cl.slots[(p2).toNatClampNeg]? = some (.int b)) (hcc : (nar .char ((b &&& (255 : Int32)).toUInt32.toUInt16.toUInt32.toInt32)) = cc) (hc2 : nar .char cc = cc) :
    MetFree l (⟨"java/lang/String", "charAt", "(I)C"⟩ : MethodName) (head1 (Jvm.Cond.code (⟨"java/lang/String", "charAt", "(I)C"⟩ : MethodName) jdk_42_method_56_code 2 (some .char) :: ws) ({ frames := 3, cells := 0, slots := 0, locals := 40 } : Room)) (fun a U => a = #[(.ref a1), (.int p2)] ∧ Z.Warmed39 U.vm ∧ U.heap = h0) (fun _ _ _ _ _ => True) (fun _ U o U' => ∃ v L, o = .returned v ∧ Q5 Z a1 p2 w4 cl z b cc gC G3 h0 n0 v U'.heap L ∧ FrameEnd U o U' L ({ frames := 3, cells := 0, slots := 0, locals := 40 } : Room).cells ({ frames := 3, cells := 0, slots := 0, locals := 40 } : Room).slots) := by
  refine MetFree.of_bodySF (plainFor_of_name pn_5) hisR ?_
  intro p e s m args below meth c s₁ Bd hml0 hP hK
  obtain ⟨rfl, hZ, hh⟩ := hP
  have hx := Bd.exec
  have hby := Bd.bytes
  have hml : c.maxLocals = 2 := hml0
  have hown : s.vm.findClass "java/lang/String" = some m.cls := findClass_of_methodNamed Bd.named
  have hnm := (name_of_methodNamed Bd.named Bd.method).1
  have X0 : Stand p l e ({ frames := 3, cells := 0, slots := 0, locals := 40 } : Room) s m #[(.ref a1), (.int p2)] below meth c s₁ [] 0 0 := Stand.of_body Bd
  have e0 : s₁.heap = h0 := by rw [← hh, Bd.state]; rfl
  have N0 := Fr.nil n0
  have pre0 : ∀ t, Steps p.tables e below (s₁.setTop (mkF m 0 #[.val (.ref a1), .val (.int p2)] [])) t → Steps p.tables e below (s₁.setTop (entryFrame m #[(.ref a1), (.int p2)] 2)) t := fun t k => castTop (ef_5 m a1 p2) k
  -- 3. LAWS
  -- pc 1: java/lang/String.isLatin1 by the contract of the body that the receiver's class selects, rm6
  obtain ⟨cq3, kq3, q3a, q3b, q3c⟩ := isOf hZ e0 E_a1
  obtain ⟨_, _, ⟨T3, L3, k3, n3⟩, -, X3, ⟨Lc3, hQ3, l3, y3, z3⟩, st3⟩ := X0.virtualBack hx (y := (⟨"java/lang/String", "isLatin1", "()Z"⟩ : MethodName)) (z := (⟨"java/lang/String", "isLatin1", "()Z"⟩ : MethodName)) hown (mvT hZ (hw _ (List.mem_of_getElem? (i := 34) rfl))) (mvT hZ (hw _ (List.mem_of_getElem? (i := 35) rfl))) (notFace_of_selects (args := #[]) (mvT hZ (hw _ (List.mem_of_getElem? (i := 37) rfl)))) (mvT hZ (hw _ (List.mem_of_getElem? (i := 37) rfl))) (mvT hZ (hw _ (List.mem_of_getElem? (i := 36) rfl))) (by decide) (backOf (W := 0) (rm6 l Z a0 hw [] a1 gC (0 : Int32) h0 n0 Z0 S_C F_coder_a1 hg1 rfl) hZ (hw _ (List.mem_of_getElem? (i := 38) rfl)) (hw _ (List.mem_of_getElem? (i := 5) rfl)) (by decide) (by decide)) q3a q3c (g := (mkF m 1 #[.val (.ref a1), .val (.int p2)] [(.ref a1)])) rfl (by rw [hml]; rfl) (Steps.refl _) (argsL := []) (rest := []) (lenOf pd_5_5 rfl) rfl (by show 2 * 0 + _ ≤ _; exact Nat.le_of_eq rfl) (hb hby d5_1) (fun _ _ => ⟨rfl, e0, (by decide : 0 + 0 ≤ _), (by decide : 0 + 0 ≤ _)⟩)
  dsimp only [Pt.U, Pt.locs, Pt.cells, Pt.slots] at X3 l3 y3 z3 st3 hQ3
  subst l3 y3 z3
  obtain ⟨rfl, N3q, q3⟩ := hQ3
  have N3 := Fr.app N0 N3q
  obtain ⟨T5, X5, e5, st5⟩ := getF X3 hx hZ hown (host := "") (Or.inl (hw _ (List.mem_of_getElem? (i := 21) rfl))) Via.refl q3 F_value_a1 (g := (mkF m 8 #[.val (.ref a1), .val (.int p2)] [(.ref a1)])) rfl rfl (hb hby d5_8)
  -- pc 12: java/lang/StringLatin1.charAt by its contract rm7
  obtain ⟨_, _, ⟨T6, L6, k6, n6⟩, -, X6, ⟨Lc6, hQ6, l6, y6, z6⟩, st6⟩ := Jvm.LawKit.callS X5 hx (y := (⟨"java/lang/StringLatin1", "charAt", "([BI)C"⟩ : MethodName)) hown (mvT hZ (hw _ (List.mem_of_getElem? (i := 39) rfl))) (mvT hZ (hw _ (List.mem_of_getElem? (i := 40) rfl))) (mvT hZ (hw _ (List.mem_of_getElem? (i := 41) rfl))) (mvT hZ (hw _ (List.mem_of_getElem? (i := 42) rfl))) (by decide) (backOf (W := 0) (rm7 l Z a0 hw [] w4 p2 cl z b G3 cc h0 n0 Z0 Ar Sz Nz (inb_of Sz hlt) hat rG3 S_F hlt hcc) hZ (hw _ (List.mem_of_getElem? (i := 42) rfl)) (hw _ (List.mem_of_getElem? (i := 41) rfl)) (by decide) (by decide)) (g := (mkF m 12 #[.val (.ref a1), .val (.int p2)] [(.int p2), (.ref w4)])) rfl (by rw [hml]; rfl) (argsL := [(.ref w4), (.int p2)]) (rest := []) (lenOf pd_5_6 rfl) rfl (by show 2 * 0 + _ ≤ _; exact Nat.le_of_eq rfl) (hb hby d5_12) (fun _ _ => ⟨rfl, e5, (by decide : 0 + 0 ≤ _), (by decide : 0 + 0 ≤ _)⟩)
  dsimp only [Pt.U, Pt.locs, Pt.cells, Pt.slots] at X6 l6 y6 z6 st6 hQ6
  subst l6 y6 z6
  obtain ⟨rfl, N6q, q6⟩ := hQ6
  have N6 := Fr.app N3 N6q
  obtain ⟨fs, hr, hrun, hended, hW, hsame⟩ := X6.leave (v := some (.int (nar .char cc))) (fun h => by rw [Bd.returns] at h; cases h)
  refine ⟨_, _, pre0 _ ?_, hrun, hended, _, _, rfl, ?_, ⟨_, rfl⟩, hW, hsame.mono (by decide) (by decide)⟩
  -- 4. STEPS
  · show Steps p.tables e below (s₁.setTop (mkF m 0 #[.val (.ref a1), .val (.int p2)] [])) _
    refine XS.aloadN X0.here hx rfl (hb hby d5_0) rfl rfl ?_
    show Steps p.tables e below (s₁.setTop (mkF m 1 #[.val (.ref a1), .val (.int p2)] [(.ref a1)])) _
    refine st3.trans ?_
    show Steps p.tables e below (T3.setTop (mkF m 4 #[.val (.ref a1), .val (.int p2)] [(.int (1 : Int32))])) _
    refine XS.ifNo X3.here hx rfl (hb hby d5_4) rfl ((if0 _ _).trans (feq (by decide : ¬ ((1 : Int32) = (0 : Int32)))).1) ?_
    show Steps p.tables e below (T3.setTop (mkF m 7 #[.val (.ref a1), .val (.int p2)] [])) _
    refine XS.aloadN X3.here hx rfl (hb hby d5_7) rfl rfl ?_
    show Steps p.tables e below (T3.setTop (mkF m 8 #[.val (.ref a1), .val (.int p2)] [(.ref a1)])) _
    refine st5 _ ?_
    show Steps p.tables e below (T5.setTop (mkF m 11 #[.val (.ref a1), .val (.int p2)] [(.ref w4)])) _
    refine XS.iloadN X5.here hx rfl (hb hby d5_11) rfl ?_
    show Steps p.tables e below (T5.setTop (mkF m 12 #[.val (.ref a1), .val (.int p2)] [(.int p2), (.ref w4)])) _
    refine st6 _ ?_
    show Steps p.tables e below (T6.setTop (mkF m 15 #[.val (.ref a1), .val (.int p2)] [(.int cc)])) _
    exact retN X6 hx (t := .char) Bd.returns (by simp) (hb hby d5_15) hr
  · show Q5 Z a1 p2 w4 cl z b cc gC G3 h0 n0 _ T6.heap _
    exact ⟨by rw [hc2], N6, q6⟩
theorem d4_0 : decode jdk_42_method_152_code 0 = .ok (.getstatic 38, 3) := by decide +kernel
theorem d4_3 : decode jdk_42_method_152_code 3 = .ok (.ifCond .eq 10, 3) := by decide +kernel
theorem d4_6 : decode jdk_42_method_152_code 6 = .ok (.aload_n 0, 1) := by decide +kernel
theorem d4_7 : decode jdk_42_method_152_code 7 = .ok (.getfield 15, 3) := by decide +kernel
theorem d4_10 : decode jdk_42_method_152_code 10 = .ok (.goto 4, 3) := by decide +kernel
theorem d4_14 : decode jdk_42_method_152_code 14 = .ok (.ireturn, 1) := by decide +kernel
theorem pn_4 : plainName "java/lang/String" = true := by first | (simp [plainName, overriddenIn]; done) | decide +kernel
theorem ef_4 (m : MethodId) (x0 : Addr) : entryFrame m #[(.ref x0)] 1 = mkF m 0 #[.val (.ref x0)] [] := by first | (simp [entryFrame, mkF, argsToLocals, Value.category]; done) | rfl
def Q4 (Z : State) (a1 : Addr) (w2 : Int32) (h0 : Heap) (n0 : Nat) (v : Option Value) (h : Heap) (L : List Loc) : Prop := v = some (.int (0 : Int32)) ∧ Fr n0 L ∧ h = h0
set_option maxRecDepth 65536 in
set_option maxHeartbeats 40000000 in
theorem rm4 (l : Launch) (Z : State) (a0 : Array Value) (hw : ∀ d ∈ tables_1, d.before a0 Z = true) (ws : List Jvm.Cond) (a1 : Addr) (w2 : Int32) (h0 : Heap) (n0 : Nat) (Z0 : n0 ≤ h0.size) (S_COMPACT_STRINGS : Sta Z h0 "java/lang/String" "COMPACT_STRINGS" "Z" (.int w2)) (F_coder_a1 : Fld Z h0 a1 "java/lang/String" "coder" "B" (.int (0 : Int32))) (hc3 : ¬ (w2 = (0 : Int32))) :
    MetFree l (⟨"java/lang/String", "coder", "()B"⟩ : MethodName) (head1 (Jvm.Cond.code (⟨"java/lang/String", "coder", "()B"⟩ : MethodName) jdk_42_method_152_code 1 (some .byte) :: ws) ({ frames := 0, cells := 0, slots := 0, locals := 0 } : Room)) (fun a U => a = #[(.ref a1)] ∧ Z.Warmed39 U.vm ∧ U.heap = h0) (fun _ _ _ _ _ => True) (fun _ U o U' => ∃ v L, o = .returned v ∧ Q4 Z a1 w2 h0 n0 v U'.heap L ∧ FrameEnd U o U' L ({ frames := 0, cells := 0, slots := 0, locals := 0 } : Room).cells ({ frames := 0, cells := 0, slots := 0, locals := 0 } : Room).slots) := by
  refine MetFree.of_bodySF (plainFor_of_name pn_4) hisR ?_
  intro p e s m args below meth c s₁ Bd hml0 hP hK
  obtain ⟨rfl, hZ, hh⟩ := hP
  have hx := Bd.exec
  have hby := Bd.bytes
  have hml : c.maxLocals = 1 := hml0
  have hown : s.vm.findClass "java/lang/String" = some m.cls := findClass_of_methodNamed Bd.named
  have hnm := (name_of_methodNamed Bd.named Bd.method).1
  have X0 : Stand p l e ({ frames := 0, cells := 0, slots := 0, locals := 0 } : Room) s m #[(.ref a1)] below meth c s₁ [] 0 0 := Stand.of_body Bd
  have e0 : s₁.heap = h0 := by rw [← hh, Bd.state]; rfl
  have N0 := Fr.nil n0
  have pre0 : ∀ t, Steps p.tables e below (s₁.setTop (mkF m 0 #[.val (.ref a1)] [])) t → Steps p.tables e below (s₁.setTop (entryFrame m #[(.ref a1)] 1)) t := fun t k => castTop (ef_4 m a1) k
  -- 3. LAWS
  obtain ⟨T3, X3, e3, st3⟩ := getS2 X0 hx hZ hown (host := "") (Or.inl (hw _ (List.mem_of_getElem? (i := 27) rfl))) Via.refl e0 S_COMPACT_STRINGS (g := (mkF m 0 #[.val (.ref a1)] [])) rfl (hb hby d4_0)
  obtain ⟨T5, X5, e5, st5⟩ := getF X3 hx hZ hown (host := "") (Or.inl (hw _ (List.mem_of_getElem? (i := 28) rfl))) Via.refl e3 F_coder_a1 (g := (mkF m 7 #[.val (.ref a1)] [(.ref a1)])) rfl rfl (hb hby d4_7)
  obtain ⟨fs, hr, hrun, hended, hW, hsame⟩ := X5.leave (v := some (.int (0 : Int32))) (fun h => by rw [Bd.returns] at h; cases h)
  refine ⟨_, _, pre0 _ ?_, hrun, hended, _, _, rfl, ?_, ⟨_, rfl⟩, hW, hsame.mono (by decide) (by decide)⟩
  -- 4. STEPS
  · show Steps p.tables e below (s₁.setTop (mkF m 0 #[.val (.ref a1)] [])) _
    refine st3 _ ?_
    show Steps p.tables e below (T3.setTop (mkF m 3 #[.val (.ref a1)] [(.int w2)])) _
    refine XS.ifNo X3.here hx rfl (hb hby d4_3) rfl ((if0 _ _).trans (feq hc3).1) ?_
    show Steps p.tables e below (T3.setTop (mkF m 6 #[.val (.ref a1)] [])) _
    refine XS.aloadN X3.here hx rfl (hb hby d4_6) rfl rfl ?_
    show Steps p.tables e below (T3.setTop (mkF m 7 #[.val (.ref a1)] [(.ref a1)])) _
    refine st5 _ ?_
    show Steps p.tables e below (T5.setTop (mkF m 10 #[.val (.ref a1)] [(.int (0 : Int32))])) _
    refine XS.goto X5.here hx rfl (pc0 := 10) (pc' := 14) rfl (hb hby d4_10) (by decide) (by decide) ?_
    show Steps p.tables e below (T5.setTop (mkF m 14 #[.val (.ref a1)] [(.int (0 : Int32))])) _
    exact retN X5 hx (t := .byte) Bd.returns (by simp) (hb hby d4_14) hr
  · show Q4 Z a1 w2 h0 n0 _ T5.heap _
    rw [e5]
    exact ⟨rfl, N0, rfl⟩
theorem own_shr0 (z : Int32) : z >>> ((0 : Int32) &&& 31) = z := by
  apply Int32.toInt_inj.mp
  have h := c_ishr z 0 0 (by decide)
  rw [h]
  simp
theorem d3_0 : decode jdk_42_method_54_code 0 = .ok (.aload_n 0, 1) := by decide +kernel
theorem d3_1 : decode jdk_42_method_54_code 1 = .ok (.getfield 9, 3) := by decide +kernel
theorem d3_4 : decode jdk_42_method_54_code 4 = .ok (.arraylength, 1) := by decide +kernel
theorem d3_5 : decode jdk_42_method_54_code 5 = .ok (.aload_n 0, 1) := by decide +kernel
theorem d3_6 : decode jdk_42_method_54_code 6 = .ok (.invokevirtual 335, 3) := by decide +kernel
theorem d3_9 : decode jdk_42_method_54_code 9 = .ok (.ishr, 1) := by decide +kernel
theorem d3_10 : decode jdk_42_method_54_code 10 = .ok (.ireturn, 1) := by decide +kernel
theorem pn_3 : plainName "java/lang/String" = true := by first | (simp [plainName, overriddenIn]; done) | decide +kernel
theorem pd_3_3 : parseMethodDescriptor "()B" = some ⟨[], some .byte⟩ := by decide +kernel
theorem ef_3 (m : MethodId) (x0 : Addr) : entryFrame m #[(.ref x0)] 1 = mkF m 0 #[.val (.ref x0)] [] := by first | (simp [entryFrame, mkF, argsToLocals, Value.category]; done) | rfl
def Q3 (Z : State) (a1 : Addr) (w2 : Addr) (cl_w2 : Cell) (z_w2 : Int32) (gC : Int32) (h0 : Heap) (n0 : Nat) (v : Option Value) (h : Heap) (L : List Loc) : Prop := v = some (.int z_w2) ∧ Fr n0 L ∧ h = h0
set_option maxRecDepth 65536 in
set_option maxHeartbeats 40000000 in
theorem rm3 (l : Launch) (Z : State) (a0 : Array Value) (hw : ∀ d ∈ tables_1, d.before a0 Z = true) (ws : List Jvm.Cond) (a1 : Addr) (w2 : Addr) (cl_w2 : Cell) (z_w2 : Int32) (gC : Int32) (h0 : Heap) (n0 : Nat) (Z0 : n0 ≤ h0.size) (F_value_a1 : Fld Z h0 a1 "java/lang/String" "value" "[B" (.ref w2)) (Ar_w2 : Arr Z h0 w2 cl_w2 .byte) (S_w2 : cl_w2.slots.size = z_w2.toNatClampNeg) (N_w2 : ¬ z_w2 < 0) (E_a1 : Exa Z h0 a1 "java/lang/String") (F_coder_a1 : Fld Z h0 a1 "java/lang/String" "coder" "B" (.int (0 : Int32))) (S_C : Sta Z h0 "java/lang/String" "COMPACT_STRINGS" "Z" (.int gC)) (hg1 : ¬ (gC = (0 : Int32))) :
    MetFree l (⟨"java/lang/String", "length", "()I"⟩ : MethodName) (head1 (Jvm.Cond.code (⟨"java/lang/String", "length", "()I"⟩ : MethodName) jdk_42_method_54_code 1 (some .int) :: ws) ({ frames := 1, cells := 0, slots := 0, locals := 13 } : Room)) (fun a U => a = #[(.ref a1)] ∧ Z.Warmed39 U.vm ∧ U.heap = h0) (fun _ _ _ _ _ => True) (fun _ U o U' => ∃ v L, o = .returned v ∧ Q3 Z a1 w2 cl_w2 z_w2 gC h0 n0 v U'.heap L ∧ FrameEnd U o U' L ({ frames := 1, cells := 0, slots := 0, locals := 13 } : Room).cells ({ frames := 1, cells := 0, slots := 0, locals := 13 } : Room).slots) := by
  refine MetFree.of_bodySF (plainFor_of_name pn_3) hisR ?_
  intro p e s m args below meth c s₁ Bd hml0 hP hK
  obtain ⟨rfl, hZ, hh⟩ := hP
  have hx := Bd.exec
  have hby := Bd.bytes
  have hml : c.maxLocals = 1 := hml0
  have hown : s.vm.findClass "java/lang/String" = some m.cls := findClass_of_methodNamed Bd.named
  have hnm := (name_of_methodNamed Bd.named Bd.method).1
  have X0 : Stand p l e ({ frames := 1, cells := 0, slots := 0, locals := 13 } : Room) s m #[(.ref a1)] below meth c s₁ [] 0 0 := Stand.of_body Bd
  have e0 : s₁.heap = h0 := by rw [← hh, Bd.state]; rfl
  have N0 := Fr.nil n0
  have pre0 : ∀ t, Steps p.tables e below (s₁.setTop (mkF m 0 #[.val (.ref a1)] [])) t → Steps p.tables e below (s₁.setTop (entryFrame m #[(.ref a1)] 1)) t := fun t k => castTop (ef_3 m a1) k
  -- 3. LAWS
  obtain ⟨T3, X3, e3, st3⟩ := getF X0 hx hZ hown (host := "") (Or.inl (hw _ (List.mem_of_getElem? (i := 21) rfl))) Via.refl e0 F_value_a1 (g := (mkF m 1 #[.val (.ref a1)] [(.ref a1)])) rfl rfl (hb hby d3_1)
  -- pc 6: java/lang/String.coder by the contract of the body that the receiver's class selects, rm4
  obtain ⟨cq4, kq4, q4a, q4b, q4c⟩ := isOf hZ e3 E_a1
  obtain ⟨_, _, ⟨T4, L4, k4, n4⟩, -, X4, ⟨Lc4, hQ4, l4, y4, z4⟩, st4⟩ := X3.virtualBack hx (y := (⟨"java/lang/String", "coder", "()B"⟩ : MethodName)) (z := (⟨"java/lang/String", "coder", "()B"⟩ : MethodName)) hown (mvT hZ (hw _ (List.mem_of_getElem? (i := 22) rfl))) (mvT hZ (hw _ (List.mem_of_getElem? (i := 23) rfl))) (notFace_of_selects (args := #[]) (mvT hZ (hw _ (List.mem_of_getElem? (i := 25) rfl)))) (mvT hZ (hw _ (List.mem_of_getElem? (i := 25) rfl))) (mvT hZ (hw _ (List.mem_of_getElem? (i := 24) rfl))) (by decide) (backOf (W := 1) (rm4 l Z a0 hw [] a1 gC h0 n0 Z0 S_C F_coder_a1 hg1) hZ (hw _ (List.mem_of_getElem? (i := 26) rfl)) (hw _ (List.mem_of_getElem? (i := 5) rfl)) (by decide) (by decide)) q4a q4c (g := (mkF m 6 #[.val (.ref a1)] [(.ref a1), (.int z_w2)])) rfl (by rw [hml]; rfl) (Steps.refl _) (argsL := []) (rest := [(.int z_w2)]) (lenOf pd_3_3 rfl) rfl (by show 2 * 0 + _ ≤ _; exact Nat.le_of_eq rfl) (hb hby d3_6) (fun _ _ => ⟨rfl, e3, (by decide : 0 + 0 ≤ _), (by decide : 0 + 0 ≤ _)⟩)
  dsimp only [Pt.U, Pt.locs, Pt.cells, Pt.slots] at X4 l4 y4 z4 st4 hQ4
  subst l4 y4 z4
  obtain ⟨rfl, N4q, q4⟩ := hQ4
  have N4 := Fr.app N0 N4q
  obtain ⟨fs, hr, hrun, hended, hW, hsame⟩ := X4.leave (v := some (.int (z_w2 >>> ((0 : Int32) &&& 31)))) (fun h => by rw [Bd.returns] at h; cases h)
  refine ⟨_, _, pre0 _ ?_, hrun, hended, _, _, rfl, ?_, ⟨_, rfl⟩, hW, hsame.mono (by decide) (by decide)⟩
  -- 4. STEPS
  · show Steps p.tables e below (s₁.setTop (mkF m 0 #[.val (.ref a1)] [])) _
    refine XS.aloadN X0.here hx rfl (hb hby d3_0) rfl rfl ?_
    show Steps p.tables e below (s₁.setTop (mkF m 1 #[.val (.ref a1)] [(.ref a1)])) _
    refine st3 _ ?_
    show Steps p.tables e below (T3.setTop (mkF m 4 #[.val (.ref a1)] [(.ref w2)])) _
    refine X3.arraylength hx (by rw [e3]; exact Ar_w2.1) (State.isArrayOf_alike hZ.alike Ar_w2.2.1) (g := (mkF m 4 #[.val (.ref a1)] [(.ref w2)])) rfl rfl (hb hby d3_4) _ ?_
    rw [len_of S_w2 N_w2]
    show Steps p.tables e below (T3.setTop (mkF m 5 #[.val (.ref a1)] [(.int z_w2)])) _
    refine XS.aloadN X3.here hx rfl (hb hby d3_5) rfl rfl ?_
    show Steps p.tables e below (T3.setTop (mkF m 6 #[.val (.ref a1)] [(.ref a1), (.int z_w2)])) _
    refine st4.trans ?_
    show Steps p.tables e below (T4.setTop (mkF m 9 #[.val (.ref a1)] [(.int (0 : Int32)), (.int z_w2)])) _
    refine XS.ishr X4.here hx rfl (hb hby d3_9) rfl ?_
    show Steps p.tables e below (T4.setTop (mkF m 10 #[.val (.ref a1)] [(.int (z_w2 >>> ((0 : Int32) &&& 31)))])) _
    exact retI X4 hx Bd.returns (hb hby d3_10) hr
  · show Q3 Z a1 w2 cl_w2 z_w2 gC h0 n0 _ T4.heap _
    exact ⟨by rw [own_shr0], N4, q4⟩
theorem d10_0 : decode method_3_code 0 = .ok (.iload_n 0, 1) := by decide +kernel
theorem d10_1 : decode method_3_code 1 = .ok (.bipush 48, 2) := by decide +kernel
theorem d10_3 : decode method_3_code 3 = .ok (.if_icmp .lt 16, 3) := by decide +kernel
theorem d10_6 : decode method_3_code 6 = .ok (.iload_n 0, 1) := by decide +kernel
theorem d10_7 : decode method_3_code 7 = .ok (.bipush 57, 2) := by decide +kernel
theorem d10_9 : decode method_3_code 9 = .ok (.if_icmp .gt 10, 3) := by decide +kernel
theorem d10_12 : decode method_3_code 12 = .ok (.iload_n 0, 1) := by decide +kernel
theorem d10_13 : decode method_3_code 13 = .ok (.bipush 48, 2) := by decide +kernel
theorem d10_15 : decode method_3_code 15 = .ok (.isub, 1) := by decide +kernel
theorem d10_16 : decode method_3_code 16 = .ok (.goto 4, 3) := by decide +kernel
theorem d10_19 : decode method_3_code 19 = .ok (.iconst (-1), 1) := by decide +kernel
theorem d10_20 : decode method_3_code 20 = .ok (.ireturn, 1) := by decide +kernel
theorem pn_10 : plainName "com/example/coxt/coxt/output/XmlSerializerWhiteSpaceOrQuoteEscapePinLaw" = true := by first | (simp [plainName, overriddenIn]; done) | decide +kernel
theorem ef_10 (m : MethodId) (p1 : Int32) : entryFrame m #[(.int p1)] 1 = mkF m 0 #[.val (.int p1)] [] := by first | (simp [entryFrame, mkF, argsToLocals, Value.category]; done) | rfl
def F10_0 (p1 : Int32) : Int32 := (if p1 < (48 : Int32) then (-1 : Int32) else (if (57 : Int32) < p1 then (-1 : Int32) else (p1 - (48 : Int32))))
set_option maxRecDepth 65536 in
set_option maxHeartbeats 40000000 in
theorem bk10_0 {p : Program} {l : Launch} {e : Env} {R : Room} {s : State} {m : MethodId} {args : Array Value} {below : List Frame} {meth : Method} {c : Code} {T0 : State} {locs : List Loc} {cells slots : Nat} {Z : State} {a0 : Array Value} (p1 : Int32)
    (X0 : Stand p l e R s m args below meth c T0 locs cells slots) (hx : p.tables.exec = Jvm.exec) (hZ : Z.Warmed39 s.vm) (hw : ∀ d ∈ tables_1, d.before a0 Z = true) (hby : c.code = method_3_code) (hown : s.vm.findClass "com/example/coxt/coxt/output/XmlSerializerWhiteSpaceOrQuoteEscapePinLaw" = some m.cls) (hret : meth.sig.returnType = some .int) {fs : List Frame}
    (hr : ∀ (f : JFrame) (acts : List Action), f.method = m → f.locked = none → f.entered = [] → (doReturn e (T0.setTop f) acts (some (.int (F10_0 p1)))).1 = T0.setFrames fs) :
    Steps p.tables e below (T0.setTop (mkF m 0 #[.val (.int p1)] [])) (T0.setFrames fs) := by
  show Steps p.tables e below (T0.setTop (mkF m 0 #[.val (.int p1)] [])) _
  refine XS.iloadN X0.here hx rfl (hb hby d10_0) rfl ?_
  show Steps p.tables e below (T0.setTop (mkF m 1 #[.val (.int p1)] [(.int p1)])) _
  refine XS.bipush X0.here hx rfl (hb hby d10_1) ?_
  show Steps p.tables e below (T0.setTop (mkF m 3 #[.val (.int p1)] [(.int (48 : Int32)), (.int p1)])) _
  by_cases hc3 : p1 < (48 : Int32)
  · refine XS.icmpYes X0.here hx rfl (pc0 := 3) (pc' := 19) rfl (hb hby d10_3) rfl (tlt hc3).1 (by decide) (by decide) ?_
    show Steps p.tables e below (T0.setTop (mkF m 19 #[.val (.int p1)] [])) _
    refine XS.iconst X0.here hx rfl (hb hby d10_19) ?_
    show Steps p.tables e below (T0.setTop (mkF m 20 #[.val (.int p1)] [(.int (-1 : Int32))])) _
    rw [show F10_0 p1 = (-1 : Int32) from by unfold F10_0; rw [if_pos hc3]] at hr
    exact retI X0 hx hret (hb hby d10_20) hr
  · refine XS.icmpNo X0.here hx rfl (hb hby d10_3) rfl (flt hc3).1 ?_
    show Steps p.tables e below (T0.setTop (mkF m 6 #[.val (.int p1)] [])) _
    refine XS.iloadN X0.here hx rfl (hb hby d10_6) rfl ?_
    show Steps p.tables e below (T0.setTop (mkF m 7 #[.val (.int p1)] [(.int p1)])) _
    refine XS.bipush X0.here hx rfl (hb hby d10_7) ?_
    show Steps p.tables e below (T0.setTop (mkF m 9 #[.val (.int p1)] [(.int (57 : Int32)), (.int p1)])) _
    by_cases hc9 : (57 : Int32) < p1
    · refine XS.icmpYes X0.here hx rfl (pc0 := 9) (pc' := 19) rfl (hb hby d10_9) rfl (tlt hc9).2.2.1 (by decide) (by decide) ?_
      show Steps p.tables e below (T0.setTop (mkF m 19 #[.val (.int p1)] [])) _
      refine XS.iconst X0.here hx rfl (hb hby d10_19) ?_
      show Steps p.tables e below (T0.setTop (mkF m 20 #[.val (.int p1)] [(.int (-1 : Int32))])) _
      rw [show F10_0 p1 = (-1 : Int32) from by unfold F10_0; rw [if_neg hc3, if_pos hc9]] at hr
      exact retI X0 hx hret (hb hby d10_20) hr
    · refine XS.icmpNo X0.here hx rfl (hb hby d10_9) rfl (flt hc9).2.2.1 ?_
      show Steps p.tables e below (T0.setTop (mkF m 12 #[.val (.int p1)] [])) _
      refine XS.iloadN X0.here hx rfl (hb hby d10_12) rfl ?_
      show Steps p.tables e below (T0.setTop (mkF m 13 #[.val (.int p1)] [(.int p1)])) _
      refine XS.bipush X0.here hx rfl (hb hby d10_13) ?_
      show Steps p.tables e below (T0.setTop (mkF m 15 #[.val (.int p1)] [(.int (48 : Int32)), (.int p1)])) _
      refine XS.isub X0.here hx rfl (hb hby d10_15) rfl ?_
      show Steps p.tables e below (T0.setTop (mkF m 16 #[.val (.int p1)] [(.int (p1 - (48 : Int32)))])) _
      refine XS.goto X0.here hx rfl (pc0 := 16) (pc' := 20) rfl (hb hby d10_16) (by decide) (by decide) ?_
      show Steps p.tables e below (T0.setTop (mkF m 20 #[.val (.int p1)] [(.int (p1 - (48 : Int32)))])) _
      rw [show F10_0 p1 = (p1 - (48 : Int32)) from by unfold F10_0; rw [if_neg hc3, if_neg hc9]] at hr
      exact retI X0 hx hret (hb hby d10_20) hr
def Q10 (p1 : Int32) (h0 : Heap) (n0 : Nat) (v : Option Value) (h : Heap) (L : List Loc) : Prop := v = some (.int (F10_0 p1)) ∧ Fr n0 L ∧ h = h0
set_option maxRecDepth 65536 in
set_option maxHeartbeats 40000000 in
theorem rm10 (l : Launch) (Z : State) (a0 : Array Value) (hw : ∀ d ∈ tables_1, d.before a0 Z = true) (ws : List Jvm.Cond) (p1 : Int32) (h0 : Heap) (n0 : Nat) (Z0 : n0 ≤ h0.size) :
    MetFree l (⟨"com/example/coxt/coxt/output/XmlSerializerWhiteSpaceOrQuoteEscapePinLaw", "digit", "(C)I"⟩ : MethodName) (head1 (Jvm.Cond.code (⟨"com/example/coxt/coxt/output/XmlSerializerWhiteSpaceOrQuoteEscapePinLaw", "digit", "(C)I"⟩ : MethodName) method_3_code 1 (some .int) :: ws) ({ frames := 0, cells := 0, slots := 0, locals := 0 } : Room)) (fun a U => a = #[(.int p1)] ∧ Z.Warmed39 U.vm ∧ U.heap = h0) (fun _ _ _ _ _ => True) (fun _ U o U' => ∃ v L, o = .returned v ∧ Q10 p1 h0 n0 v U'.heap L ∧ FrameEnd U o U' L ({ frames := 0, cells := 0, slots := 0, locals := 0 } : Room).cells ({ frames := 0, cells := 0, slots := 0, locals := 0 } : Room).slots) := by
  refine MetFree.of_bodySF (plainFor_of_name pn_10) hisR ?_
  intro p e s m args below meth c s₁ Bd hml0 hP hK
  obtain ⟨rfl, hZ, hh⟩ := hP
  have hx := Bd.exec
  have hby := Bd.bytes
  have hml : c.maxLocals = 1 := hml0
  have hown : s.vm.findClass "com/example/coxt/coxt/output/XmlSerializerWhiteSpaceOrQuoteEscapePinLaw" = some m.cls := findClass_of_methodNamed Bd.named
  have hnm := (name_of_methodNamed Bd.named Bd.method).1
  have X0 : Stand p l e ({ frames := 0, cells := 0, slots := 0, locals := 0 } : Room) s m #[(.int p1)] below meth c s₁ [] 0 0 := Stand.of_body Bd
  have e0 : s₁.heap = h0 := by rw [← hh, Bd.state]; rfl
  have N0 := Fr.nil n0
  have pre0 : ∀ t, Steps p.tables e below (s₁.setTop (mkF m 0 #[.val (.int p1)] [])) t → Steps p.tables e below (s₁.setTop (entryFrame m #[(.int p1)] 1)) t := fun t kt => castTop (ef_10 m p1) kt
  obtain ⟨fs, hr, hrun, hended, hW, hsame⟩ := X0.leave (v := some (.int (F10_0 p1))) (fun h => by rw [Bd.returns] at h; cases h)
  exact ⟨_, _, pre0 _ (bk10_0 p1 X0 hx hZ hw hby hown Bd.returns hr), hrun, hended, _, _, rfl, ⟨rfl, N0, by rw [← e0]; rfl⟩, ⟨_, rfl⟩, hW, hsame.mono (by decide) (by decide)⟩
theorem own_wS {Z : State} {a0 : Array Value} (hw : ∀ d ∈ tables_1, d.before a0 Z = true) : ∀ d ∈ Bundle.stringAtoms, d.before a0 Z = true := fun d hd => hw d ((by decide +kernel : ∀ d ∈ Bundle.stringAtoms, d ∈ tables_1) d hd)
theorem own_atoms {Z s : State} {a0 args : Array Value} (hZ : Z.Warmed39 s.vm) (wS : ∀ d ∈ Bundle.stringAtoms, d.before a0 Z = true) : ∀ d ∈ Bundle.stringAtoms, d.before args s = true := fun d hd => by
  have q := wS d hd
  simp only [Bundle.stringAtoms, List.mem_cons, List.not_mem_nil, or_false] at hd
  rcases hd with rfl | rfl | rfl | rfl | rfl | rfl | rfl
  · exact mv hZ q
  · exact mv hZ q
  · exact mvA hZ q
  · exact mv hZ q
  · exact mv hZ q
  · exact mv hZ q
  · exact mv hZ q
theorem d1_0 : decode prog_30_method_34_code 0 = .ok (.iload_n 0, 1) := by decide +kernel
theorem d1_1 : decode prog_30_method_34_code 1 = .ok (.bipush 34, 2) := by decide +kernel
theorem d1_3 : decode prog_30_method_34_code 3 = .ok (.if_icmp .ne 10, 3) := by decide +kernel
theorem d1_6 : decode prog_30_method_34_code 6 = .ok (.ldc_w 394, 3) := by decide +kernel
theorem d1_9 : decode prog_30_method_34_code 9 = .ok (.astore_n 1, 1) := by decide +kernel
theorem d1_10 : decode prog_30_method_34_code 10 = .ok (.goto 44, 3) := by decide +kernel
theorem d1_13 : decode prog_30_method_34_code 13 = .ok (.iload_n 0, 1) := by decide +kernel
theorem d1_14 : decode prog_30_method_34_code 14 = .ok (.bipush 13, 2) := by decide +kernel
theorem d1_16 : decode prog_30_method_34_code 16 = .ok (.if_icmp .ne 10, 3) := by decide +kernel
theorem d1_19 : decode prog_30_method_34_code 19 = .ok (.ldc_w 388, 3) := by decide +kernel
theorem d1_22 : decode prog_30_method_34_code 22 = .ok (.astore_n 1, 1) := by decide +kernel
theorem d1_23 : decode prog_30_method_34_code 23 = .ok (.goto 31, 3) := by decide +kernel
theorem d1_26 : decode prog_30_method_34_code 26 = .ok (.iload_n 0, 1) := by decide +kernel
theorem d1_27 : decode prog_30_method_34_code 27 = .ok (.bipush 10, 2) := by decide +kernel
theorem d1_29 : decode prog_30_method_34_code 29 = .ok (.if_icmp .ne 10, 3) := by decide +kernel
theorem d1_32 : decode prog_30_method_34_code 32 = .ok (.ldc_w 396, 3) := by decide +kernel
theorem d1_35 : decode prog_30_method_34_code 35 = .ok (.astore_n 1, 1) := by decide +kernel
theorem d1_36 : decode prog_30_method_34_code 36 = .ok (.goto 18, 3) := by decide +kernel
theorem d1_39 : decode prog_30_method_34_code 39 = .ok (.iload_n 0, 1) := by decide +kernel
theorem d1_40 : decode prog_30_method_34_code 40 = .ok (.bipush 9, 2) := by decide +kernel
theorem d1_42 : decode prog_30_method_34_code 42 = .ok (.if_icmp .ne 10, 3) := by decide +kernel
theorem d1_45 : decode prog_30_method_34_code 45 = .ok (.ldc_w 398, 3) := by decide +kernel
theorem d1_48 : decode prog_30_method_34_code 48 = .ok (.astore_n 1, 1) := by decide +kernel
theorem d1_49 : decode prog_30_method_34_code 49 = .ok (.goto 5, 3) := by decide +kernel
theorem d1_52 : decode prog_30_method_34_code 52 = .ok (.aconst_null, 1) := by decide +kernel
theorem d1_53 : decode prog_30_method_34_code 53 = .ok (.astore_n 1, 1) := by decide +kernel
theorem d1_54 : decode prog_30_method_34_code 54 = .ok (.aload_n 1, 1) := by decide +kernel
theorem d1_55 : decode prog_30_method_34_code 55 = .ok (.areturn, 1) := by decide +kernel
theorem pn_1 : plainName "com/example/coxt/coxt/output/XmlSerializer" = true := by first | (simp [plainName, overriddenIn]; done) | decide +kernel
theorem ef_1 (m : MethodId) (p1 : Int32) : entryFrame m #[(.int p1)] 2 = mkF m 0 #[.val (.int p1), .unset] [] := by first | (simp [entryFrame, mkF, argsToLocals, Value.category]; done) | rfl
def Q1s (Z : State) (cs : List Int32) (h0 : Heap) (n0 : Nat) (v : Option Value) (h : Heap) (L : List Loc) : Prop := Fr n0 L ∧ Ext h0 h ∧ ∃ a, v = some (.ref a) ∧ own_Str Z h a cs
def Q1n (Z : State) (h0 : Heap) (n0 : Nat) (v : Option Value) (h : Heap) (L : List Loc) : Prop := Fr n0 L ∧ Ext h0 h ∧ v = some .null
set_option maxRecDepth 65536 in
set_option maxHeartbeats 40000000 in
theorem rm1_34 (l : Launch) (Z : State) (a0 : Array Value) (hw : ∀ d ∈ tables_1, d.before a0 Z = true) (ws : List Jvm.Cond) (h0 : Heap) (n0 : Nat) (Z0 : n0 ≤ h0.size) (hH : ∀ q ∈ consts_1, Jvm.Lit.constHeld Z q.1 q.2) (hcw : Jvm.Lit.compactW.before a0 Z = true) (X00 : Old Z n0 h0) :
    MetFree l (⟨"com/example/coxt/coxt/output/XmlSerializer", "whiteSpaceOrQuoteEscape", "(C)Ljava/lang/String;"⟩ : MethodName) (head1 (Jvm.Cond.code (⟨"com/example/coxt/coxt/output/XmlSerializer", "whiteSpaceOrQuoteEscape", "(C)Ljava/lang/String;"⟩ : MethodName) prog_30_method_34_code 2 (some (.object "java/lang/String")) :: ws) ({ frames := 0, cells := 2, slots := 28, locals := 0 } : Room)) (fun a U => a = #[(.int (34 : Int32))] ∧ (Z.Warmed39 U.vm ∧ U.vm.interned = Z.vm.interned) ∧ U.heap = h0) (fun _ _ _ _ _ => True) (fun _ U o U' => ∃ v L, o = .returned v ∧ Q1s Z [38, 113, 117, 111, 116, 59] h0 n0 v U'.heap L ∧ ReturnedEndW U o U' L ({ frames := 0, cells := 2, slots := 28, locals := 0 } : Room).cells ({ frames := 0, cells := 2, slots := 28, locals := 0 } : Room).slots) := by
  refine MetFree.of_bodySF (plainFor_of_name pn_1) hisR ?_
  intro p e s m args below meth c s₁ Bd hml0 hP hK
  obtain ⟨rfl, ⟨hZ, hI⟩, hh⟩ := hP
  have hx := Bd.exec
  have hby := Bd.bytes
  have hml : c.maxLocals = 2 := hml0
  have hown : s.vm.findClass "com/example/coxt/coxt/output/XmlSerializer" = some m.cls := findClass_of_methodNamed Bd.named
  have hnm := (name_of_methodNamed Bd.named Bd.method).1
  have X0 : Stand p l e ({ frames := 0, cells := 2, slots := 28, locals := 0 } : Room) s m #[(.int (34 : Int32))] below meth c s₁ [] 0 0 := Stand.of_body Bd
  have e0 : s₁.heap = h0 := by rw [← hh, Bd.state]; rfl
  have N0 := Fr.nil n0
  have pre0 : ∀ t, Steps p.tables e below (s₁.setTop (mkF m 0 #[.val (.int (34 : Int32)), .unset] [])) t → Steps p.tables e below (s₁.setTop (entryFrame m #[(.int (34 : Int32))] 2)) t := fun t kt => castTop (ef_1 m (34 : Int32)) kt
  have hv : s₁.vm = s.vm := by rw [Bd.state]; rfl
  have hh1 : s₁.heap = s.heap := by rw [Bd.state]; rfl
  have hkeep : ∀ (b : Addr) (cl : Cell), Z.heap[b]? = some cl → s.heap[b]? = some cl := fun b cl q => by rw [hh]; exact X00.2.2 b cl q
  refine own_go (A := s₁.setTop (mkF m 0 #[.val (.int (34 : Int32)), .unset] [])) pre0 ?_
  refine own_go (A := s₁.setTop (mkF m 1 #[.val (.int (34 : Int32)), .unset] [(.int (34 : Int32))])) (fun t kt => XS.iloadN X0.here hx rfl (hb hby d1_0) rfl kt) ?_
  refine own_go (A := s₁.setTop (mkF m 3 #[.val (.int (34 : Int32)), .unset] [(.int (34 : Int32)), (.int (34 : Int32))])) (fun t kt => XS.bipush X0.here hx rfl (hb hby d1_1) kt) ?_
  refine own_go (A := s₁.setTop (mkF m 6 #[.val (.int (34 : Int32)), .unset] [])) (fun t kt => XS.icmpNo X0.here hx rfl (hb hby d1_3) rfl (teq (rfl : (34 : Int32) = (34 : Int32))).2 kt) ?_
  have hheld : ConstHeldL s "com/example/coxt/coxt/output/XmlSerializer" 394 := heldCarry (s := s) (vm0 := s.vm) (Ts := []) hZ (hw _ (List.mem_of_getElem? (i := 55) rfl)) ⟨#[], by rw [hI]; simp, fun q hq => by simp at hq⟩ (by simp) hkeep (heldStart (hH ("com/example/coxt/coxt/output/XmlSerializer", 394) (by simp [consts_1])) (hw _ (List.mem_of_getElem? (i := 55) rfl)) (by decide) hcw (hw _ (List.mem_of_getElem? (i := 7) rfl)) (hw _ (List.mem_of_getElem? (i := 6) rfl)))
  obtain ⟨units, a, T1, hdec, X1, hS1, hb1, F1, st1⟩ := own_ldcw X0 hx hv hh1 hown (mvS (s := s) hZ (hw _ (List.mem_of_getElem? (i := 55) rfl))) (own_atoms hZ (own_wS hw)) hheld (by decide) (g := (mkF m 6 #[.val (.int (34 : Int32)), .unset] [])) rfl (hb hby d1_6) (n := 24) (by decide) (by decide) (by decide) (by decide)
  have St1 : own_Str Z T1.heap a [38, 113, 117, 111, 116, 59] := own_spelt (State.Warmed39.trans hZ hS1.1).alike F1 hdec (by decide) (by decide) (by decide)
  have E1 : Ext h0 T1.heap := by rw [← e0]; exact ext_of hb1
  refine own_go (A := T1.setTop (mkF m 9 #[.val (.int (34 : Int32)), .unset] [(.ref a)])) st1 ?_
  refine own_go (A := T1.setTop (mkF m 10 #[.val (.int (34 : Int32)), .val (.ref a)] [])) (fun t kt => XS.astoreN X1.here hx rfl (hb hby d1_9) rfl rfl (l' := #[.val (.int (34 : Int32)), .val (.ref a)]) rfl kt) ?_
  refine own_go (A := T1.setTop (mkF m 54 #[.val (.int (34 : Int32)), .val (.ref a)] [])) (fun t kt => XS.goto X1.here hx rfl (pc0 := 10) (pc' := 54) rfl (hb hby d1_10) (by decide) (by decide) kt) ?_
  refine own_go (A := T1.setTop (mkF m 55 #[.val (.int (34 : Int32)), .val (.ref a)] [(.ref a)])) (fun t kt => XS.aloadN X1.here hx rfl (hb hby d1_54) rfl rfl kt) ?_
  obtain ⟨fs, hr, hrun, hended, hRE⟩ := X1.leaveW hS1 (Nat.le_refl _) (v := some (.ref a)) (fun h => by rw [Bd.returns] at h; cases h)
  exact ⟨_, _, own_retR X1 hx Bd.returns rfl (hb hby d1_55) hr, hrun, hended, _, _, rfl, ⟨N0, E1, _, rfl, St1⟩, hRE⟩
set_option maxRecDepth 65536 in
set_option maxHeartbeats 40000000 in
theorem rm1_13 (l : Launch) (Z : State) (a0 : Array Value) (hw : ∀ d ∈ tables_1, d.before a0 Z = true) (ws : List Jvm.Cond) (h0 : Heap) (n0 : Nat) (Z0 : n0 ≤ h0.size) (hH : ∀ q ∈ consts_1, Jvm.Lit.constHeld Z q.1 q.2) (hcw : Jvm.Lit.compactW.before a0 Z = true) (X00 : Old Z n0 h0) :
    MetFree l (⟨"com/example/coxt/coxt/output/XmlSerializer", "whiteSpaceOrQuoteEscape", "(C)Ljava/lang/String;"⟩ : MethodName) (head1 (Jvm.Cond.code (⟨"com/example/coxt/coxt/output/XmlSerializer", "whiteSpaceOrQuoteEscape", "(C)Ljava/lang/String;"⟩ : MethodName) prog_30_method_34_code 2 (some (.object "java/lang/String")) :: ws) ({ frames := 0, cells := 2, slots := 28, locals := 0 } : Room)) (fun a U => a = #[(.int (13 : Int32))] ∧ (Z.Warmed39 U.vm ∧ U.vm.interned = Z.vm.interned) ∧ U.heap = h0) (fun _ _ _ _ _ => True) (fun _ U o U' => ∃ v L, o = .returned v ∧ Q1s Z [38, 35, 49, 51, 59] h0 n0 v U'.heap L ∧ ReturnedEndW U o U' L ({ frames := 0, cells := 2, slots := 28, locals := 0 } : Room).cells ({ frames := 0, cells := 2, slots := 28, locals := 0 } : Room).slots) := by
  refine MetFree.of_bodySF (plainFor_of_name pn_1) hisR ?_
  intro p e s m args below meth c s₁ Bd hml0 hP hK
  obtain ⟨rfl, ⟨hZ, hI⟩, hh⟩ := hP
  have hx := Bd.exec
  have hby := Bd.bytes
  have hml : c.maxLocals = 2 := hml0
  have hown : s.vm.findClass "com/example/coxt/coxt/output/XmlSerializer" = some m.cls := findClass_of_methodNamed Bd.named
  have hnm := (name_of_methodNamed Bd.named Bd.method).1
  have X0 : Stand p l e ({ frames := 0, cells := 2, slots := 28, locals := 0 } : Room) s m #[(.int (13 : Int32))] below meth c s₁ [] 0 0 := Stand.of_body Bd
  have e0 : s₁.heap = h0 := by rw [← hh, Bd.state]; rfl
  have N0 := Fr.nil n0
  have pre0 : ∀ t, Steps p.tables e below (s₁.setTop (mkF m 0 #[.val (.int (13 : Int32)), .unset] [])) t → Steps p.tables e below (s₁.setTop (entryFrame m #[(.int (13 : Int32))] 2)) t := fun t kt => castTop (ef_1 m (13 : Int32)) kt
  have hv : s₁.vm = s.vm := by rw [Bd.state]; rfl
  have hh1 : s₁.heap = s.heap := by rw [Bd.state]; rfl
  have hkeep : ∀ (b : Addr) (cl : Cell), Z.heap[b]? = some cl → s.heap[b]? = some cl := fun b cl q => by rw [hh]; exact X00.2.2 b cl q
  refine own_go (A := s₁.setTop (mkF m 0 #[.val (.int (13 : Int32)), .unset] [])) pre0 ?_
  refine own_go (A := s₁.setTop (mkF m 1 #[.val (.int (13 : Int32)), .unset] [(.int (13 : Int32))])) (fun t kt => XS.iloadN X0.here hx rfl (hb hby d1_0) rfl kt) ?_
  refine own_go (A := s₁.setTop (mkF m 3 #[.val (.int (13 : Int32)), .unset] [(.int (34 : Int32)), (.int (13 : Int32))])) (fun t kt => XS.bipush X0.here hx rfl (hb hby d1_1) kt) ?_
  refine own_go (A := s₁.setTop (mkF m 13 #[.val (.int (13 : Int32)), .unset] [])) (fun t kt => XS.icmpYes X0.here hx rfl (pc0 := 3) (pc' := 13) rfl (hb hby d1_3) rfl (feq (by decide : ¬ ((13 : Int32) = (34 : Int32)))).2 (by decide) (by decide) kt) ?_
  refine own_go (A := s₁.setTop (mkF m 14 #[.val (.int (13 : Int32)), .unset] [(.int (13 : Int32))])) (fun t kt => XS.iloadN X0.here hx rfl (hb hby d1_13) rfl kt) ?_
  refine own_go (A := s₁.setTop (mkF m 16 #[.val (.int (13 : Int32)), .unset] [(.int (13 : Int32)), (.int (13 : Int32))])) (fun t kt => XS.bipush X0.here hx rfl (hb hby d1_14) kt) ?_
  refine own_go (A := s₁.setTop (mkF m 19 #[.val (.int (13 : Int32)), .unset] [])) (fun t kt => XS.icmpNo X0.here hx rfl (hb hby d1_16) rfl (teq (rfl : (13 : Int32) = (13 : Int32))).2 kt) ?_
  have hheld : ConstHeldL s "com/example/coxt/coxt/output/XmlSerializer" 388 := heldCarry (s := s) (vm0 := s.vm) (Ts := []) hZ (hw _ (List.mem_of_getElem? (i := 54) rfl)) ⟨#[], by rw [hI]; simp, fun q hq => by simp at hq⟩ (by simp) hkeep (heldStart (hH ("com/example/coxt/coxt/output/XmlSerializer", 388) (by simp [consts_1])) (hw _ (List.mem_of_getElem? (i := 54) rfl)) (by decide) hcw (hw _ (List.mem_of_getElem? (i := 7) rfl)) (hw _ (List.mem_of_getElem? (i := 6) rfl)))
  obtain ⟨units, a, T1, hdec, X1, hS1, hb1, F1, st1⟩ := own_ldcw X0 hx hv hh1 hown (mvS (s := s) hZ (hw _ (List.mem_of_getElem? (i := 54) rfl))) (own_atoms hZ (own_wS hw)) hheld (by decide) (g := (mkF m 19 #[.val (.int (13 : Int32)), .unset] [])) rfl (hb hby d1_19) (n := 24) (by decide) (by decide) (by decide) (by decide)
  have St1 : own_Str Z T1.heap a [38, 35, 49, 51, 59] := own_spelt (State.Warmed39.trans hZ hS1.1).alike F1 hdec (by decide) (by decide) (by decide)
  have E1 : Ext h0 T1.heap := by rw [← e0]; exact ext_of hb1
  refine own_go (A := T1.setTop (mkF m 22 #[.val (.int (13 : Int32)), .unset] [(.ref a)])) st1 ?_
  refine own_go (A := T1.setTop (mkF m 23 #[.val (.int (13 : Int32)), .val (.ref a)] [])) (fun t kt => XS.astoreN X1.here hx rfl (hb hby d1_22) rfl rfl (l' := #[.val (.int (13 : Int32)), .val (.ref a)]) rfl kt) ?_
  refine own_go (A := T1.setTop (mkF m 54 #[.val (.int (13 : Int32)), .val (.ref a)] [])) (fun t kt => XS.goto X1.here hx rfl (pc0 := 23) (pc' := 54) rfl (hb hby d1_23) (by decide) (by decide) kt) ?_
  refine own_go (A := T1.setTop (mkF m 55 #[.val (.int (13 : Int32)), .val (.ref a)] [(.ref a)])) (fun t kt => XS.aloadN X1.here hx rfl (hb hby d1_54) rfl rfl kt) ?_
  obtain ⟨fs, hr, hrun, hended, hRE⟩ := X1.leaveW hS1 (Nat.le_refl _) (v := some (.ref a)) (fun h => by rw [Bd.returns] at h; cases h)
  exact ⟨_, _, own_retR X1 hx Bd.returns rfl (hb hby d1_55) hr, hrun, hended, _, _, rfl, ⟨N0, E1, _, rfl, St1⟩, hRE⟩
set_option maxRecDepth 65536 in
set_option maxHeartbeats 40000000 in
theorem rm1_10 (l : Launch) (Z : State) (a0 : Array Value) (hw : ∀ d ∈ tables_1, d.before a0 Z = true) (ws : List Jvm.Cond) (h0 : Heap) (n0 : Nat) (Z0 : n0 ≤ h0.size) (hH : ∀ q ∈ consts_1, Jvm.Lit.constHeld Z q.1 q.2) (hcw : Jvm.Lit.compactW.before a0 Z = true) (X00 : Old Z n0 h0) :
    MetFree l (⟨"com/example/coxt/coxt/output/XmlSerializer", "whiteSpaceOrQuoteEscape", "(C)Ljava/lang/String;"⟩ : MethodName) (head1 (Jvm.Cond.code (⟨"com/example/coxt/coxt/output/XmlSerializer", "whiteSpaceOrQuoteEscape", "(C)Ljava/lang/String;"⟩ : MethodName) prog_30_method_34_code 2 (some (.object "java/lang/String")) :: ws) ({ frames := 0, cells := 2, slots := 28, locals := 0 } : Room)) (fun a U => a = #[(.int (10 : Int32))] ∧ (Z.Warmed39 U.vm ∧ U.vm.interned = Z.vm.interned) ∧ U.heap = h0) (fun _ _ _ _ _ => True) (fun _ U o U' => ∃ v L, o = .returned v ∧ Q1s Z [38, 35, 49, 48, 59] h0 n0 v U'.heap L ∧ ReturnedEndW U o U' L ({ frames := 0, cells := 2, slots := 28, locals := 0 } : Room).cells ({ frames := 0, cells := 2, slots := 28, locals := 0 } : Room).slots) := by
  refine MetFree.of_bodySF (plainFor_of_name pn_1) hisR ?_
  intro p e s m args below meth c s₁ Bd hml0 hP hK
  obtain ⟨rfl, ⟨hZ, hI⟩, hh⟩ := hP
  have hx := Bd.exec
  have hby := Bd.bytes
  have hml : c.maxLocals = 2 := hml0
  have hown : s.vm.findClass "com/example/coxt/coxt/output/XmlSerializer" = some m.cls := findClass_of_methodNamed Bd.named
  have hnm := (name_of_methodNamed Bd.named Bd.method).1
  have X0 : Stand p l e ({ frames := 0, cells := 2, slots := 28, locals := 0 } : Room) s m #[(.int (10 : Int32))] below meth c s₁ [] 0 0 := Stand.of_body Bd
  have e0 : s₁.heap = h0 := by rw [← hh, Bd.state]; rfl
  have N0 := Fr.nil n0
  have pre0 : ∀ t, Steps p.tables e below (s₁.setTop (mkF m 0 #[.val (.int (10 : Int32)), .unset] [])) t → Steps p.tables e below (s₁.setTop (entryFrame m #[(.int (10 : Int32))] 2)) t := fun t kt => castTop (ef_1 m (10 : Int32)) kt
  have hv : s₁.vm = s.vm := by rw [Bd.state]; rfl
  have hh1 : s₁.heap = s.heap := by rw [Bd.state]; rfl
  have hkeep : ∀ (b : Addr) (cl : Cell), Z.heap[b]? = some cl → s.heap[b]? = some cl := fun b cl q => by rw [hh]; exact X00.2.2 b cl q
  refine own_go (A := s₁.setTop (mkF m 0 #[.val (.int (10 : Int32)), .unset] [])) pre0 ?_
  refine own_go (A := s₁.setTop (mkF m 1 #[.val (.int (10 : Int32)), .unset] [(.int (10 : Int32))])) (fun t kt => XS.iloadN X0.here hx rfl (hb hby d1_0) rfl kt) ?_
  refine own_go (A := s₁.setTop (mkF m 3 #[.val (.int (10 : Int32)), .unset] [(.int (34 : Int32)), (.int (10 : Int32))])) (fun t kt => XS.bipush X0.here hx rfl (hb hby d1_1) kt) ?_
  refine own_go (A := s₁.setTop (mkF m 13 #[.val (.int (10 : Int32)), .unset] [])) (fun t kt => XS.icmpYes X0.here hx rfl (pc0 := 3) (pc' := 13) rfl (hb hby d1_3) rfl (feq (by decide : ¬ ((10 : Int32) = (34 : Int32)))).2 (by decide) (by decide) kt) ?_
  refine own_go (A := s₁.setTop (mkF m 14 #[.val (.int (10 : Int32)), .unset] [(.int (10 : Int32))])) (fun t kt => XS.iloadN X0.here hx rfl (hb hby d1_13) rfl kt) ?_
  refine own_go (A := s₁.setTop (mkF m 16 #[.val (.int (10 : Int32)), .unset] [(.int (13 : Int32)), (.int (10 : Int32))])) (fun t kt => XS.bipush X0.here hx rfl (hb hby d1_14) kt) ?_
  refine own_go (A := s₁.setTop (mkF m 26 #[.val (.int (10 : Int32)), .unset] [])) (fun t kt => XS.icmpYes X0.here hx rfl (pc0 := 16) (pc' := 26) rfl (hb hby d1_16) rfl (feq (by decide : ¬ ((10 : Int32) = (13 : Int32)))).2 (by decide) (by decide) kt) ?_
  refine own_go (A := s₁.setTop (mkF m 27 #[.val (.int (10 : Int32)), .unset] [(.int (10 : Int32))])) (fun t kt => XS.iloadN X0.here hx rfl (hb hby d1_26) rfl kt) ?_
  refine own_go (A := s₁.setTop (mkF m 29 #[.val (.int (10 : Int32)), .unset] [(.int (10 : Int32)), (.int (10 : Int32))])) (fun t kt => XS.bipush X0.here hx rfl (hb hby d1_27) kt) ?_
  refine own_go (A := s₁.setTop (mkF m 32 #[.val (.int (10 : Int32)), .unset] [])) (fun t kt => XS.icmpNo X0.here hx rfl (hb hby d1_29) rfl (teq (rfl : (10 : Int32) = (10 : Int32))).2 kt) ?_
  have hheld : ConstHeldL s "com/example/coxt/coxt/output/XmlSerializer" 396 := heldCarry (s := s) (vm0 := s.vm) (Ts := []) hZ (hw _ (List.mem_of_getElem? (i := 56) rfl)) ⟨#[], by rw [hI]; simp, fun q hq => by simp at hq⟩ (by simp) hkeep (heldStart (hH ("com/example/coxt/coxt/output/XmlSerializer", 396) (by simp [consts_1])) (hw _ (List.mem_of_getElem? (i := 56) rfl)) (by decide) hcw (hw _ (List.mem_of_getElem? (i := 7) rfl)) (hw _ (List.mem_of_getElem? (i := 6) rfl)))
  obtain ⟨units, a, T1, hdec, X1, hS1, hb1, F1, st1⟩ := own_ldcw X0 hx hv hh1 hown (mvS (s := s) hZ (hw _ (List.mem_of_getElem? (i := 56) rfl))) (own_atoms hZ (own_wS hw)) hheld (by decide) (g := (mkF m 32 #[.val (.int (10 : Int32)), .unset] [])) rfl (hb hby d1_32) (n := 24) (by decide) (by decide) (by decide) (by decide)
  have St1 : own_Str Z T1.heap a [38, 35, 49, 48, 59] := own_spelt (State.Warmed39.trans hZ hS1.1).alike F1 hdec (by decide) (by decide) (by decide)
  have E1 : Ext h0 T1.heap := by rw [← e0]; exact ext_of hb1
  refine own_go (A := T1.setTop (mkF m 35 #[.val (.int (10 : Int32)), .unset] [(.ref a)])) st1 ?_
  refine own_go (A := T1.setTop (mkF m 36 #[.val (.int (10 : Int32)), .val (.ref a)] [])) (fun t kt => XS.astoreN X1.here hx rfl (hb hby d1_35) rfl rfl (l' := #[.val (.int (10 : Int32)), .val (.ref a)]) rfl kt) ?_
  refine own_go (A := T1.setTop (mkF m 54 #[.val (.int (10 : Int32)), .val (.ref a)] [])) (fun t kt => XS.goto X1.here hx rfl (pc0 := 36) (pc' := 54) rfl (hb hby d1_36) (by decide) (by decide) kt) ?_
  refine own_go (A := T1.setTop (mkF m 55 #[.val (.int (10 : Int32)), .val (.ref a)] [(.ref a)])) (fun t kt => XS.aloadN X1.here hx rfl (hb hby d1_54) rfl rfl kt) ?_
  obtain ⟨fs, hr, hrun, hended, hRE⟩ := X1.leaveW hS1 (Nat.le_refl _) (v := some (.ref a)) (fun h => by rw [Bd.returns] at h; cases h)
  exact ⟨_, _, own_retR X1 hx Bd.returns rfl (hb hby d1_55) hr, hrun, hended, _, _, rfl, ⟨N0, E1, _, rfl, St1⟩, hRE⟩
set_option maxRecDepth 65536 in
set_option maxHeartbeats 40000000 in
theorem rm1_9 (l : Launch) (Z : State) (a0 : Array Value) (hw : ∀ d ∈ tables_1, d.before a0 Z = true) (ws : List Jvm.Cond) (h0 : Heap) (n0 : Nat) (Z0 : n0 ≤ h0.size) (hH : ∀ q ∈ consts_1, Jvm.Lit.constHeld Z q.1 q.2) (hcw : Jvm.Lit.compactW.before a0 Z = true) (X00 : Old Z n0 h0) :
    MetFree l (⟨"com/example/coxt/coxt/output/XmlSerializer", "whiteSpaceOrQuoteEscape", "(C)Ljava/lang/String;"⟩ : MethodName) (head1 (Jvm.Cond.code (⟨"com/example/coxt/coxt/output/XmlSerializer", "whiteSpaceOrQuoteEscape", "(C)Ljava/lang/String;"⟩ : MethodName) prog_30_method_34_code 2 (some (.object "java/lang/String")) :: ws) ({ frames := 0, cells := 2, slots := 28, locals := 0 } : Room)) (fun a U => a = #[(.int (9 : Int32))] ∧ (Z.Warmed39 U.vm ∧ U.vm.interned = Z.vm.interned) ∧ U.heap = h0) (fun _ _ _ _ _ => True) (fun _ U o U' => ∃ v L, o = .returned v ∧ Q1s Z [38, 35, 57, 59] h0 n0 v U'.heap L ∧ ReturnedEndW U o U' L ({ frames := 0, cells := 2, slots := 28, locals := 0 } : Room).cells ({ frames := 0, cells := 2, slots := 28, locals := 0 } : Room).slots) := by
  refine MetFree.of_bodySF (plainFor_of_name pn_1) hisR ?_
  intro p e s m args below meth c s₁ Bd hml0 hP hK
  obtain ⟨rfl, ⟨hZ, hI⟩, hh⟩ := hP
  have hx := Bd.exec
  have hby := Bd.bytes
  have hml : c.maxLocals = 2 := hml0
  have hown : s.vm.findClass "com/example/coxt/coxt/output/XmlSerializer" = some m.cls := findClass_of_methodNamed Bd.named
  have hnm := (name_of_methodNamed Bd.named Bd.method).1
  have X0 : Stand p l e ({ frames := 0, cells := 2, slots := 28, locals := 0 } : Room) s m #[(.int (9 : Int32))] below meth c s₁ [] 0 0 := Stand.of_body Bd
  have e0 : s₁.heap = h0 := by rw [← hh, Bd.state]; rfl
  have N0 := Fr.nil n0
  have pre0 : ∀ t, Steps p.tables e below (s₁.setTop (mkF m 0 #[.val (.int (9 : Int32)), .unset] [])) t → Steps p.tables e below (s₁.setTop (entryFrame m #[(.int (9 : Int32))] 2)) t := fun t kt => castTop (ef_1 m (9 : Int32)) kt
  have hv : s₁.vm = s.vm := by rw [Bd.state]; rfl
  have hh1 : s₁.heap = s.heap := by rw [Bd.state]; rfl
  have hkeep : ∀ (b : Addr) (cl : Cell), Z.heap[b]? = some cl → s.heap[b]? = some cl := fun b cl q => by rw [hh]; exact X00.2.2 b cl q
  refine own_go (A := s₁.setTop (mkF m 0 #[.val (.int (9 : Int32)), .unset] [])) pre0 ?_
  refine own_go (A := s₁.setTop (mkF m 1 #[.val (.int (9 : Int32)), .unset] [(.int (9 : Int32))])) (fun t kt => XS.iloadN X0.here hx rfl (hb hby d1_0) rfl kt) ?_
  refine own_go (A := s₁.setTop (mkF m 3 #[.val (.int (9 : Int32)), .unset] [(.int (34 : Int32)), (.int (9 : Int32))])) (fun t kt => XS.bipush X0.here hx rfl (hb hby d1_1) kt) ?_
  refine own_go (A := s₁.setTop (mkF m 13 #[.val (.int (9 : Int32)), .unset] [])) (fun t kt => XS.icmpYes X0.here hx rfl (pc0 := 3) (pc' := 13) rfl (hb hby d1_3) rfl (feq (by decide : ¬ ((9 : Int32) = (34 : Int32)))).2 (by decide) (by decide) kt) ?_
  refine own_go (A := s₁.setTop (mkF m 14 #[.val (.int (9 : Int32)), .unset] [(.int (9 : Int32))])) (fun t kt => XS.iloadN X0.here hx rfl (hb hby d1_13) rfl kt) ?_
  refine own_go (A := s₁.setTop (mkF m 16 #[.val (.int (9 : Int32)), .unset] [(.int (13 : Int32)), (.int (9 : Int32))])) (fun t kt => XS.bipush X0.here hx rfl (hb hby d1_14) kt) ?_
  refine own_go (A := s₁.setTop (mkF m 26 #[.val (.int (9 : Int32)), .unset] [])) (fun t kt => XS.icmpYes X0.here hx rfl (pc0 := 16) (pc' := 26) rfl (hb hby d1_16) rfl (feq (by decide : ¬ ((9 : Int32) = (13 : Int32)))).2 (by decide) (by decide) kt) ?_
  refine own_go (A := s₁.setTop (mkF m 27 #[.val (.int (9 : Int32)), .unset] [(.int (9 : Int32))])) (fun t kt => XS.iloadN X0.here hx rfl (hb hby d1_26) rfl kt) ?_
  refine own_go (A := s₁.setTop (mkF m 29 #[.val (.int (9 : Int32)), .unset] [(.int (10 : Int32)), (.int (9 : Int32))])) (fun t kt => XS.bipush X0.here hx rfl (hb hby d1_27) kt) ?_
  refine own_go (A := s₁.setTop (mkF m 39 #[.val (.int (9 : Int32)), .unset] [])) (fun t kt => XS.icmpYes X0.here hx rfl (pc0 := 29) (pc' := 39) rfl (hb hby d1_29) rfl (feq (by decide : ¬ ((9 : Int32) = (10 : Int32)))).2 (by decide) (by decide) kt) ?_
  refine own_go (A := s₁.setTop (mkF m 40 #[.val (.int (9 : Int32)), .unset] [(.int (9 : Int32))])) (fun t kt => XS.iloadN X0.here hx rfl (hb hby d1_39) rfl kt) ?_
  refine own_go (A := s₁.setTop (mkF m 42 #[.val (.int (9 : Int32)), .unset] [(.int (9 : Int32)), (.int (9 : Int32))])) (fun t kt => XS.bipush X0.here hx rfl (hb hby d1_40) kt) ?_
  refine own_go (A := s₁.setTop (mkF m 45 #[.val (.int (9 : Int32)), .unset] [])) (fun t kt => XS.icmpNo X0.here hx rfl (hb hby d1_42) rfl (teq (rfl : (9 : Int32) = (9 : Int32))).2 kt) ?_
  have hheld : ConstHeldL s "com/example/coxt/coxt/output/XmlSerializer" 398 := heldCarry (s := s) (vm0 := s.vm) (Ts := []) hZ (hw _ (List.mem_of_getElem? (i := 4) rfl)) ⟨#[], by rw [hI]; simp, fun q hq => by simp at hq⟩ (by simp) hkeep (heldStart (hH ("com/example/coxt/coxt/output/XmlSerializer", 398) (by simp [consts_1])) (hw _ (List.mem_of_getElem? (i := 4) rfl)) (by decide) hcw (hw _ (List.mem_of_getElem? (i := 7) rfl)) (hw _ (List.mem_of_getElem? (i := 6) rfl)))
  obtain ⟨units, a, T1, hdec, X1, hS1, hb1, F1, st1⟩ := own_ldcw X0 hx hv hh1 hown (mvS (s := s) hZ (hw _ (List.mem_of_getElem? (i := 4) rfl))) (own_atoms hZ (own_wS hw)) hheld (by decide) (g := (mkF m 45 #[.val (.int (9 : Int32)), .unset] [])) rfl (hb hby d1_45) (n := 24) (by decide) (by decide) (by decide) (by decide)
  have St1 : own_Str Z T1.heap a [38, 35, 57, 59] := own_spelt (State.Warmed39.trans hZ hS1.1).alike F1 hdec (by decide) (by decide) (by decide)
  have E1 : Ext h0 T1.heap := by rw [← e0]; exact ext_of hb1
  refine own_go (A := T1.setTop (mkF m 48 #[.val (.int (9 : Int32)), .unset] [(.ref a)])) st1 ?_
  refine own_go (A := T1.setTop (mkF m 49 #[.val (.int (9 : Int32)), .val (.ref a)] [])) (fun t kt => XS.astoreN X1.here hx rfl (hb hby d1_48) rfl rfl (l' := #[.val (.int (9 : Int32)), .val (.ref a)]) rfl kt) ?_
  refine own_go (A := T1.setTop (mkF m 54 #[.val (.int (9 : Int32)), .val (.ref a)] [])) (fun t kt => XS.goto X1.here hx rfl (pc0 := 49) (pc' := 54) rfl (hb hby d1_49) (by decide) (by decide) kt) ?_
  refine own_go (A := T1.setTop (mkF m 55 #[.val (.int (9 : Int32)), .val (.ref a)] [(.ref a)])) (fun t kt => XS.aloadN X1.here hx rfl (hb hby d1_54) rfl rfl kt) ?_
  obtain ⟨fs, hr, hrun, hended, hRE⟩ := X1.leaveW hS1 (Nat.le_refl _) (v := some (.ref a)) (fun h => by rw [Bd.returns] at h; cases h)
  exact ⟨_, _, own_retR X1 hx Bd.returns rfl (hb hby d1_55) hr, hrun, hended, _, _, rfl, ⟨N0, E1, _, rfl, St1⟩, hRE⟩
set_option maxRecDepth 65536 in
set_option maxHeartbeats 40000000 in
theorem rm1_n (l : Launch) (Z : State) (a0 : Array Value) (hw : ∀ d ∈ tables_1, d.before a0 Z = true) (ws : List Jvm.Cond) (p1 : Int32) (h0 : Heap) (n0 : Nat) (Z0 : n0 ≤ h0.size) (hH : ∀ q ∈ consts_1, Jvm.Lit.constHeld Z q.1 q.2) (hcw : Jvm.Lit.compactW.before a0 Z = true) (X00 : Old Z n0 h0) (h34 : ¬ (p1 = (34 : Int32))) (h13 : ¬ (p1 = (13 : Int32))) (h10 : ¬ (p1 = (10 : Int32))) (h9 : ¬ (p1 = (9 : Int32))) :
    MetFree l (⟨"com/example/coxt/coxt/output/XmlSerializer", "whiteSpaceOrQuoteEscape", "(C)Ljava/lang/String;"⟩ : MethodName) (head1 (Jvm.Cond.code (⟨"com/example/coxt/coxt/output/XmlSerializer", "whiteSpaceOrQuoteEscape", "(C)Ljava/lang/String;"⟩ : MethodName) prog_30_method_34_code 2 (some (.object "java/lang/String")) :: ws) ({ frames := 0, cells := 2, slots := 28, locals := 0 } : Room)) (fun a U => a = #[(.int p1)] ∧ (Z.Warmed39 U.vm ∧ U.vm.interned = Z.vm.interned) ∧ U.heap = h0) (fun _ _ _ _ _ => True) (fun _ U o U' => ∃ v L, o = .returned v ∧ Q1n Z h0 n0 v U'.heap L ∧ ReturnedEndW U o U' L ({ frames := 0, cells := 2, slots := 28, locals := 0 } : Room).cells ({ frames := 0, cells := 2, slots := 28, locals := 0 } : Room).slots) := by
  refine MetFree.of_bodySF (plainFor_of_name pn_1) hisR ?_
  intro p e s m args below meth c s₁ Bd hml0 hP hK
  obtain ⟨rfl, ⟨hZ, hI⟩, hh⟩ := hP
  have hx := Bd.exec
  have hby := Bd.bytes
  have hml : c.maxLocals = 2 := hml0
  have hown : s.vm.findClass "com/example/coxt/coxt/output/XmlSerializer" = some m.cls := findClass_of_methodNamed Bd.named
  have hnm := (name_of_methodNamed Bd.named Bd.method).1
  have X0 : Stand p l e ({ frames := 0, cells := 2, slots := 28, locals := 0 } : Room) s m #[(.int p1)] below meth c s₁ [] 0 0 := Stand.of_body Bd
  have e0 : s₁.heap = h0 := by rw [← hh, Bd.state]; rfl
  have N0 := Fr.nil n0
  have pre0 : ∀ t, Steps p.tables e below (s₁.setTop (mkF m 0 #[.val (.int p1), .unset] [])) t → Steps p.tables e below (s₁.setTop (entryFrame m #[(.int p1)] 2)) t := fun t kt => castTop (ef_1 m p1) kt
  have hv : s₁.vm = s.vm := by rw [Bd.state]; rfl
  have hh1 : s₁.heap = s.heap := by rw [Bd.state]; rfl
  have hkeep : ∀ (b : Addr) (cl : Cell), Z.heap[b]? = some cl → s.heap[b]? = some cl := fun b cl q => by rw [hh]; exact X00.2.2 b cl q
  refine own_go (A := s₁.setTop (mkF m 0 #[.val (.int p1), .unset] [])) pre0 ?_
  refine own_go (A := s₁.setTop (mkF m 1 #[.val (.int p1), .unset] [(.int p1)])) (fun t kt => XS.iloadN X0.here hx rfl (hb hby d1_0) rfl kt) ?_
  refine own_go (A := s₁.setTop (mkF m 3 #[.val (.int p1), .unset] [(.int (34 : Int32)), (.int p1)])) (fun t kt => XS.bipush X0.here hx rfl (hb hby d1_1) kt) ?_
  refine own_go (A := s₁.setTop (mkF m 13 #[.val (.int p1), .unset] [])) (fun t kt => XS.icmpYes X0.here hx rfl (pc0 := 3) (pc' := 13) rfl (hb hby d1_3) rfl (feq (h34 : ¬ (p1 = (34 : Int32)))).2 (by decide) (by decide) kt) ?_
  refine own_go (A := s₁.setTop (mkF m 14 #[.val (.int p1), .unset] [(.int p1)])) (fun t kt => XS.iloadN X0.here hx rfl (hb hby d1_13) rfl kt) ?_
  refine own_go (A := s₁.setTop (mkF m 16 #[.val (.int p1), .unset] [(.int (13 : Int32)), (.int p1)])) (fun t kt => XS.bipush X0.here hx rfl (hb hby d1_14) kt) ?_
  refine own_go (A := s₁.setTop (mkF m 26 #[.val (.int p1), .unset] [])) (fun t kt => XS.icmpYes X0.here hx rfl (pc0 := 16) (pc' := 26) rfl (hb hby d1_16) rfl (feq (h13 : ¬ (p1 = (13 : Int32)))).2 (by decide) (by decide) kt) ?_
  refine own_go (A := s₁.setTop (mkF m 27 #[.val (.int p1), .unset] [(.int p1)])) (fun t kt => XS.iloadN X0.here hx rfl (hb hby d1_26) rfl kt) ?_
  refine own_go (A := s₁.setTop (mkF m 29 #[.val (.int p1), .unset] [(.int (10 : Int32)), (.int p1)])) (fun t kt => XS.bipush X0.here hx rfl (hb hby d1_27) kt) ?_
  refine own_go (A := s₁.setTop (mkF m 39 #[.val (.int p1), .unset] [])) (fun t kt => XS.icmpYes X0.here hx rfl (pc0 := 29) (pc' := 39) rfl (hb hby d1_29) rfl (feq (h10 : ¬ (p1 = (10 : Int32)))).2 (by decide) (by decide) kt) ?_
  refine own_go (A := s₁.setTop (mkF m 40 #[.val (.int p1), .unset] [(.int p1)])) (fun t kt => XS.iloadN X0.here hx rfl (hb hby d1_39) rfl kt) ?_
  refine own_go (A := s₁.setTop (mkF m 42 #[.val (.int p1), .unset] [(.int (9 : Int32)), (.int p1)])) (fun t kt => XS.bipush X0.here hx rfl (hb hby d1_40) kt) ?_
  refine own_go (A := s₁.setTop (mkF m 52 #[.val (.int p1), .unset] [])) (fun t kt => XS.icmpYes X0.here hx rfl (pc0 := 42) (pc' := 52) rfl (hb hby d1_42) rfl (feq (h9 : ¬ (p1 = (9 : Int32)))).2 (by decide) (by decide) kt) ?_
  refine own_go (A := s₁.setTop (mkF m 53 #[.val (.int p1), .unset] [.null])) (fun t kt => XS.aconstNull X0.here hx rfl (hb hby d1_52) kt) ?_
  refine own_go (A := s₁.setTop (mkF m 54 #[.val (.int p1), .val .null] [])) (fun t kt => XS.astoreN X0.here hx rfl (hb hby d1_53) rfl rfl (l' := #[.val (.int p1), .val .null]) rfl kt) ?_
  refine own_go (A := s₁.setTop (mkF m 55 #[.val (.int p1), .val .null] [.null])) (fun t kt => XS.aloadN X0.here hx rfl (hb hby d1_54) rfl rfl kt) ?_
  obtain ⟨fs, hr, hrun, hended, hW, hsame⟩ := X0.leave (v := some .null) (fun h => by rw [Bd.returns] at h; cases h)
  exact ⟨_, _, own_retR X0 hx Bd.returns rfl (hb hby d1_55) hr, hrun, hended, _, _, rfl, ⟨N0, by show Ext h0 s₁.heap; rw [e0]; exact ⟨Nat.le_refl _, fun _ _ q => q⟩, rfl⟩, ReturnedEndW.of_narrow ⟨_, rfl⟩ hW (hsame.mono (by decide) (by decide))⟩
theorem pd_1 : parseMethodDescriptor "(C)Ljava/lang/String;" = some ⟨[.char], some (.object "java/lang/String")⟩ := by decide +kernel
theorem pd_2 : parseMethodDescriptor "(Ljava/lang/String;)I" = some ⟨[(.object "java/lang/String")], some .int⟩ := by decide +kernel
theorem pd_3 : parseMethodDescriptor "()I" = some ⟨[], some .int⟩ := by decide +kernel
theorem pd_5 : parseMethodDescriptor "(I)C" = some ⟨[.int], some .char⟩ := by decide +kernel
theorem pd_10 : parseMethodDescriptor "(C)I" = some ⟨[.char], some .int⟩ := by decide +kernel
theorem d2_0 : decode method_4_code 0 = .ok (.aload_n 0, 1) := by decide +kernel
theorem d2_1 : decode method_4_code 1 = .ok (.invokevirtual 19, 3) := by decide +kernel
theorem d2_4 : decode method_4_code 4 = .ok (.istore_n 1, 1) := by decide +kernel
theorem d2_5 : decode method_4_code 5 = .ok (.iload_n 1, 1) := by decide +kernel
theorem d2_6 : decode method_4_code 6 = .ok (.iconst 4, 1) := by decide +kernel
theorem d2_7 : decode method_4_code 7 = .ok (.if_icmp .lt 31, 3) := by decide +kernel
theorem d2_10 : decode method_4_code 10 = .ok (.iload_n 1, 1) := by decide +kernel
theorem d2_11 : decode method_4_code 11 = .ok (.bipush 6, 2) := by decide +kernel
theorem d2_13 : decode method_4_code 13 = .ok (.if_icmp .gt 25, 3) := by decide +kernel
theorem d2_16 : decode method_4_code 16 = .ok (.aload_n 0, 1) := by decide +kernel
theorem d2_17 : decode method_4_code 17 = .ok (.iconst 0, 1) := by decide +kernel
theorem d2_18 : decode method_4_code 18 = .ok (.invokevirtual 25, 3) := by decide +kernel
theorem d2_21 : decode method_4_code 21 = .ok (.bipush 38, 2) := by decide +kernel
theorem d2_23 : decode method_4_code 23 = .ok (.if_icmp .ne 15, 3) := by decide +kernel
theorem d2_26 : decode method_4_code 26 = .ok (.aload_n 0, 1) := by decide +kernel
theorem d2_27 : decode method_4_code 27 = .ok (.iload_n 1, 1) := by decide +kernel
theorem d2_28 : decode method_4_code 28 = .ok (.iconst 1, 1) := by decide +kernel
theorem d2_29 : decode method_4_code 29 = .ok (.isub, 1) := by decide +kernel
theorem d2_30 : decode method_4_code 30 = .ok (.invokevirtual 25, 3) := by decide +kernel
theorem d2_33 : decode method_4_code 33 = .ok (.bipush 59, 2) := by decide +kernel
theorem d2_35 : decode method_4_code 35 = .ok (.if_icmp .eq 5, 3) := by decide +kernel
theorem d2_40 : decode method_4_code 40 = .ok (.iload_n 1, 1) := by decide +kernel
theorem d2_41 : decode method_4_code 41 = .ok (.bipush 6, 2) := by decide +kernel
theorem d2_43 : decode method_4_code 43 = .ok (.if_icmp .ne 46, 3) := by decide +kernel
theorem d2_46 : decode method_4_code 46 = .ok (.aload_n 0, 1) := by decide +kernel
theorem d2_47 : decode method_4_code 47 = .ok (.iconst 1, 1) := by decide +kernel
theorem d2_48 : decode method_4_code 48 = .ok (.invokevirtual 25, 3) := by decide +kernel
theorem d2_51 : decode method_4_code 51 = .ok (.bipush 113, 2) := by decide +kernel
theorem d2_53 : decode method_4_code 53 = .ok (.if_icmp .ne 36, 3) := by decide +kernel
theorem d2_56 : decode method_4_code 56 = .ok (.aload_n 0, 1) := by decide +kernel
theorem d2_57 : decode method_4_code 57 = .ok (.iconst 2, 1) := by decide +kernel
theorem d2_58 : decode method_4_code 58 = .ok (.invokevirtual 25, 3) := by decide +kernel
theorem d2_61 : decode method_4_code 61 = .ok (.bipush 117, 2) := by decide +kernel
theorem d2_63 : decode method_4_code 63 = .ok (.if_icmp .ne 26, 3) := by decide +kernel
theorem d2_66 : decode method_4_code 66 = .ok (.aload_n 0, 1) := by decide +kernel
theorem d2_67 : decode method_4_code 67 = .ok (.iconst 3, 1) := by decide +kernel
theorem d2_68 : decode method_4_code 68 = .ok (.invokevirtual 25, 3) := by decide +kernel
theorem d2_71 : decode method_4_code 71 = .ok (.bipush 111, 2) := by decide +kernel
theorem d2_73 : decode method_4_code 73 = .ok (.if_icmp .ne 16, 3) := by decide +kernel
theorem d2_76 : decode method_4_code 76 = .ok (.aload_n 0, 1) := by decide +kernel
theorem d2_77 : decode method_4_code 77 = .ok (.iconst 4, 1) := by decide +kernel
theorem d2_78 : decode method_4_code 78 = .ok (.invokevirtual 25, 3) := by decide +kernel
theorem d2_81 : decode method_4_code 81 = .ok (.bipush 116, 2) := by decide +kernel
theorem d2_83 : decode method_4_code 83 = .ok (.if_icmp .ne 6, 3) := by decide +kernel
theorem d2_86 : decode method_4_code 86 = .ok (.bipush 34, 2) := by decide +kernel
theorem d2_88 : decode method_4_code 88 = .ok (.ireturn, 1) := by decide +kernel
theorem d2_89 : decode method_4_code 89 = .ok (.aload_n 0, 1) := by decide +kernel
theorem d2_90 : decode method_4_code 90 = .ok (.iconst 1, 1) := by decide +kernel
theorem d2_91 : decode method_4_code 91 = .ok (.invokevirtual 25, 3) := by decide +kernel
theorem d2_94 : decode method_4_code 94 = .ok (.bipush 35, 2) := by decide +kernel
theorem d2_96 : decode method_4_code 96 = .ok (.if_icmp .eq 5, 3) := by decide +kernel
theorem d2_101 : decode method_4_code 101 = .ok (.iload_n 1, 1) := by decide +kernel
theorem d2_102 : decode method_4_code 102 = .ok (.iconst 4, 1) := by decide +kernel
theorem d2_103 : decode method_4_code 103 = .ok (.if_icmp .ne 12, 3) := by decide +kernel
theorem d2_106 : decode method_4_code 106 = .ok (.aload_n 0, 1) := by decide +kernel
theorem d2_107 : decode method_4_code 107 = .ok (.iconst 2, 1) := by decide +kernel
theorem d2_108 : decode method_4_code 108 = .ok (.invokevirtual 25, 3) := by decide +kernel
theorem d2_111 : decode method_4_code 111 = .ok (.invokestatic 29, 3) := by decide +kernel
theorem d2_114 : decode method_4_code 114 = .ok (.ireturn, 1) := by decide +kernel
theorem d2_115 : decode method_4_code 115 = .ok (.aload_n 0, 1) := by decide +kernel
theorem d2_116 : decode method_4_code 116 = .ok (.iconst 2, 1) := by decide +kernel
theorem d2_117 : decode method_4_code 117 = .ok (.invokevirtual 25, 3) := by decide +kernel
theorem d2_120 : decode method_4_code 120 = .ok (.invokestatic 29, 3) := by decide +kernel
theorem d2_123 : decode method_4_code 123 = .ok (.istore_n 2, 1) := by decide +kernel
theorem d2_124 : decode method_4_code 124 = .ok (.aload_n 0, 1) := by decide +kernel
theorem d2_125 : decode method_4_code 125 = .ok (.iconst 3, 1) := by decide +kernel
theorem d2_126 : decode method_4_code 126 = .ok (.invokevirtual 25, 3) := by decide +kernel
theorem d2_129 : decode method_4_code 129 = .ok (.invokestatic 29, 3) := by decide +kernel
theorem d2_132 : decode method_4_code 132 = .ok (.istore_n 3, 1) := by decide +kernel
theorem d2_133 : decode method_4_code 133 = .ok (.iload_n 2, 1) := by decide +kernel
theorem d2_134 : decode method_4_code 134 = .ok (.ifCond .lt 7, 3) := by decide +kernel
theorem d2_137 : decode method_4_code 137 = .ok (.iload_n 3, 1) := by decide +kernel
theorem d2_138 : decode method_4_code 138 = .ok (.ifCond .ge 5, 3) := by decide +kernel
theorem d2_143 : decode method_4_code 143 = .ok (.iload_n 1, 1) := by decide +kernel
theorem d2_144 : decode method_4_code 144 = .ok (.iconst 5, 1) := by decide +kernel
theorem d2_145 : decode method_4_code 145 = .ok (.if_icmp .ne 10, 3) := by decide +kernel
theorem d2_148 : decode method_4_code 148 = .ok (.bipush 10, 2) := by decide +kernel
theorem d2_150 : decode method_4_code 150 = .ok (.iload_n 2, 1) := by decide +kernel
theorem d2_151 : decode method_4_code 151 = .ok (.imul, 1) := by decide +kernel
theorem d2_152 : decode method_4_code 152 = .ok (.iload_n 3, 1) := by decide +kernel
theorem d2_153 : decode method_4_code 153 = .ok (.iadd, 1) := by decide +kernel
theorem d2_154 : decode method_4_code 154 = .ok (.ireturn, 1) := by decide +kernel
theorem pn_2 : plainName "com/example/coxt/coxt/output/XmlSerializerWhiteSpaceOrQuoteEscapePinLaw" = true := by first | (simp [plainName, overriddenIn]; done) | decide +kernel
theorem ef_2 (m : MethodId) (a1 : Addr) : entryFrame m #[(.ref a1)] 5 = mkF m 0 #[.val (.ref a1), .unset, .unset, .unset, .unset] [] := by first | (simp [entryFrame, mkF, argsToLocals, Value.category]; done) | rfl
def Q2_34 (Z : State)  (h0 : Heap) (n0 : Nat) (v : Option Value) (h : Heap) (L : List Loc) : Prop := v = some (.int (34 : Int32)) ∧ Fr n0 L ∧ h = h0
set_option maxRecDepth 65536 in
set_option maxHeartbeats 40000000 in
theorem rm2_34 (l : Launch) (Z : State) (a0 : Array Value) (hw : ∀ d ∈ tables_1, d.before a0 Z = true) (ws : List Jvm.Cond) (a1 : Addr) (gC : Int32) (G3 : Value) (h0 : Heap) (n0 : Nat) (Z0 : n0 ≤ h0.size) (St : own_Str Z h0 a1 [38, 113, 117, 111, 116, 59]) (S_C : Sta Z h0 "java/lang/String" "COMPACT_STRINGS" "Z" (.int gC)) (hg1 : ¬ (gC = (0 : Int32))) (rG3 : G3.isRef = true) (S_F : Sta Z h0 "jdk/internal/util/Preconditions" "SIOOBE_FORMATTER" "Ljava/util/function/BiFunction;" G3) :
    MetFree l (⟨"com/example/coxt/coxt/output/XmlSerializerWhiteSpaceOrQuoteEscapePinLaw", "decode", "(Ljava/lang/String;)I"⟩ : MethodName) (head1 (Jvm.Cond.code (⟨"com/example/coxt/coxt/output/XmlSerializerWhiteSpaceOrQuoteEscapePinLaw", "decode", "(Ljava/lang/String;)I"⟩ : MethodName) method_4_code 5 (some .int) :: ws) ({ frames := 4, cells := 0, slots := 0, locals := 53 } : Room)) (fun a U => a = #[(.ref a1)] ∧ Z.Warmed39 U.vm ∧ U.heap = h0) (fun _ _ _ _ _ => True) (fun _ U o U' => ∃ v L, o = .returned v ∧ Q2_34 Z  h0 n0 v U'.heap L ∧ FrameEnd U o U' L ({ frames := 4, cells := 0, slots := 0, locals := 53 } : Room).cells ({ frames := 4, cells := 0, slots := 0, locals := 53 } : Room).slots) := by
  refine MetFree.of_bodySF (plainFor_of_name pn_2) hisR ?_
  intro p e s m args below meth c s₁ Bd hml0 hP hK
  obtain ⟨rfl, hZ, hh⟩ := hP
  have hx := Bd.exec
  have hby := Bd.bytes
  have hml : c.maxLocals = 5 := hml0
  have hown : s.vm.findClass "com/example/coxt/coxt/output/XmlSerializerWhiteSpaceOrQuoteEscapePinLaw" = some m.cls := findClass_of_methodNamed Bd.named
  have hnm := (name_of_methodNamed Bd.named Bd.method).1
  have X0 : Stand p l e ({ frames := 4, cells := 0, slots := 0, locals := 53 } : Room) s m #[(.ref a1)] below meth c s₁ [] 0 0 := Stand.of_body Bd
  have e0 : s₁.heap = h0 := by rw [← hh, Bd.state]; rfl
  have N0 := Fr.nil n0
  have pre0 : ∀ t, Steps p.tables e below (s₁.setTop (mkF m 0 #[.val (.ref a1), .unset, .unset, .unset, .unset] [])) t → Steps p.tables e below (s₁.setTop (entryFrame m #[(.ref a1)] 5)) t := fun t kt => castTop (ef_2 m a1) kt
  refine own_go (A := s₁.setTop (mkF m 0 #[.val (.ref a1), .unset, .unset, .unset, .unset] [])) pre0 ?_
  obtain ⟨bq, kb, E, FC, FV, cl, Ar, -, Sz', -, H, -⟩ := St
  have Sz : cl.slots.size = (6 : Int32).toNatClampNeg := Sz'
  have Nz : ¬ (6 : Int32) < 0 := by decide
  refine own_go (A := s₁.setTop (mkF m 1 #[.val (.ref a1), .unset, .unset, .unset, .unset] [(.ref a1)])) (fun t kt => XS.aloadN X0.here hx rfl (hb hby d2_0) rfl rfl kt) ?_
  obtain ⟨cq1, kq1, qa1, qb1, qc1⟩ := isOf hZ e0 E
  obtain ⟨_, _, ⟨T1, L1, k1, n1⟩, -, X1, ⟨Lc1, hQ1, l1, y1, z1⟩, st1⟩ := X0.virtualBack hx (y := (⟨"java/lang/String", "length", "()I"⟩ : MethodName)) (z := (⟨"java/lang/String", "length", "()I"⟩ : MethodName)) hown (mvT hZ (hw _ (List.mem_of_getElem? (i := 16) rfl))) (mvT hZ (hw _ (List.mem_of_getElem? (i := 17) rfl))) (notFace_of_selects (args := #[]) (mvT hZ (hw _ (List.mem_of_getElem? (i := 19) rfl)))) (mvT hZ (hw _ (List.mem_of_getElem? (i := 19) rfl))) (mvT hZ (hw _ (List.mem_of_getElem? (i := 18) rfl))) (by decide) (backOf (W := 0) (rm3 l Z a0 hw [] a1 bq cl (6 : Int32) gC h0 n0 Z0 FV Ar Sz Nz E FC S_C hg1) hZ (hw _ (List.mem_of_getElem? (i := 20) rfl)) (hw _ (List.mem_of_getElem? (i := 5) rfl)) (by decide) (by decide)) qa1 qc1 (g := (mkF m 1 #[.val (.ref a1), .unset, .unset, .unset, .unset] [(.ref a1)])) rfl (by rw [hml]; rfl) (Steps.refl _) (argsL := []) (rest := []) (lenOf pd_3 rfl) rfl (by show 2 * 0 + _ ≤ _; exact Nat.le_of_eq rfl) (hb hby d2_1) (fun _ _ => ⟨rfl, e0, (by decide : 0 + 0 ≤ _), (by decide : 0 + 0 ≤ _)⟩)
  dsimp only [Pt.U, Pt.locs, Pt.cells, Pt.slots] at X1 l1 y1 z1 st1 hQ1
  subst l1 y1 z1
  obtain ⟨rfl, N1q, g1⟩ := hQ1
  have N1 := Fr.app N0 N1q
  refine own_go (A := T1.setTop (mkF m 4 #[.val (.ref a1), .unset, .unset, .unset, .unset] [(.int (6 : Int32))])) (fun t kt => st1.trans kt) ?_
  refine own_go (A := T1.setTop (mkF m 5 #[.val (.ref a1), .val (.int (6 : Int32)), .unset, .unset, .unset] [])) (fun t kt => XS.istoreN X1.here hx rfl (hb hby d2_4) rfl (l' := #[.val (.ref a1), .val (.int (6 : Int32)), .unset, .unset, .unset]) rfl kt) ?_
  refine own_go (A := T1.setTop (mkF m 6 #[.val (.ref a1), .val (.int (6 : Int32)), .unset, .unset, .unset] [(.int (6 : Int32))])) (fun t kt => XS.iloadN X1.here hx rfl (hb hby d2_5) rfl kt) ?_
  refine own_go (A := T1.setTop (mkF m 7 #[.val (.ref a1), .val (.int (6 : Int32)), .unset, .unset, .unset] [(.int (4 : Int32)), (.int (6 : Int32))])) (fun t kt => XS.iconst X1.here hx rfl (hb hby d2_6) kt) ?_
  refine own_go (A := T1.setTop (mkF m 10 #[.val (.ref a1), .val (.int (6 : Int32)), .unset, .unset, .unset] [])) (fun t kt => XS.icmpNo X1.here hx rfl (hb hby d2_7) rfl (flt (by decide : ¬ ((6 : Int32) < (4 : Int32)))).1 kt) ?_
  refine own_go (A := T1.setTop (mkF m 11 #[.val (.ref a1), .val (.int (6 : Int32)), .unset, .unset, .unset] [(.int (6 : Int32))])) (fun t kt => XS.iloadN X1.here hx rfl (hb hby d2_10) rfl kt) ?_
  refine own_go (A := T1.setTop (mkF m 13 #[.val (.ref a1), .val (.int (6 : Int32)), .unset, .unset, .unset] [(.int (6 : Int32)), (.int (6 : Int32))])) (fun t kt => XS.bipush X1.here hx rfl (hb hby d2_11) kt) ?_
  refine own_go (A := T1.setTop (mkF m 16 #[.val (.ref a1), .val (.int (6 : Int32)), .unset, .unset, .unset] [])) (fun t kt => XS.icmpNo X1.here hx rfl (hb hby d2_13) rfl (flt (by decide : ¬ ((6 : Int32) < (6 : Int32)))).2.2.1 kt) ?_
  refine own_go (A := T1.setTop (mkF m 17 #[.val (.ref a1), .val (.int (6 : Int32)), .unset, .unset, .unset] [(.ref a1)])) (fun t kt => XS.aloadN X1.here hx rfl (hb hby d2_16) rfl rfl kt) ?_
  refine own_go (A := T1.setTop (mkF m 18 #[.val (.ref a1), .val (.int (6 : Int32)), .unset, .unset, .unset] [(.int (0 : Int32)), (.ref a1)])) (fun t kt => XS.iconst X1.here hx rfl (hb hby d2_17) kt) ?_
  obtain ⟨cq2, kq2, qa2, qb2, qc2⟩ := isOf hZ g1 E
  obtain ⟨_, _, ⟨T2, L2, k2, n2⟩, -, X2, ⟨Lc2, hQ2, l2, y2, z2⟩, st2⟩ := X1.virtualBack hx (y := (⟨"java/lang/String", "charAt", "(I)C"⟩ : MethodName)) (z := (⟨"java/lang/String", "charAt", "(I)C"⟩ : MethodName)) hown (mvT hZ (hw _ (List.mem_of_getElem? (i := 29) rfl))) (mvT hZ (hw _ (List.mem_of_getElem? (i := 30) rfl))) (notFace_of_selects (args := #[]) (mvT hZ (hw _ (List.mem_of_getElem? (i := 32) rfl)))) (mvT hZ (hw _ (List.mem_of_getElem? (i := 32) rfl))) (mvT hZ (hw _ (List.mem_of_getElem? (i := 31) rfl))) (by decide) (backOf (W := 0) (rm5 l Z a0 hw [] a1 (0 : Int32) bq cl (6 : Int32) (38 : Int32) (38 : Int32) gC G3 h0 n0 Z0 E FV FC S_C hg1 rG3 S_F Ar Sz Nz (by decide) (H 0 (by rw [Sz]; decide)) (by decide) (by decide)) hZ (hw _ (List.mem_of_getElem? (i := 33) rfl)) (hw _ (List.mem_of_getElem? (i := 5) rfl)) (by decide) (by decide)) qa2 qc2 (g := (mkF m 18 #[.val (.ref a1), .val (.int (6 : Int32)), .unset, .unset, .unset] [(.int (0 : Int32)), (.ref a1)])) rfl (by rw [hml]; rfl) (Steps.refl _) (argsL := [(.int (0 : Int32))]) (rest := []) (lenOf pd_5 rfl) rfl (by show 2 * 0 + _ ≤ _; exact Nat.le_of_eq rfl) (hb hby d2_18) (fun _ _ => ⟨rfl, g1, (by decide : 0 + 0 ≤ _), (by decide : 0 + 0 ≤ _)⟩)
  dsimp only [Pt.U, Pt.locs, Pt.cells, Pt.slots] at X2 l2 y2 z2 st2 hQ2
  subst l2 y2 z2
  obtain ⟨rfl, N2q, g2⟩ := hQ2
  have N2 := Fr.app N1 N2q
  refine own_go (A := T2.setTop (mkF m 21 #[.val (.ref a1), .val (.int (6 : Int32)), .unset, .unset, .unset] [(.int (38 : Int32))])) (fun t kt => st2.trans kt) ?_
  refine own_go (A := T2.setTop (mkF m 23 #[.val (.ref a1), .val (.int (6 : Int32)), .unset, .unset, .unset] [(.int (38 : Int32)), (.int (38 : Int32))])) (fun t kt => XS.bipush X2.here hx rfl (hb hby d2_21) kt) ?_
  refine own_go (A := T2.setTop (mkF m 26 #[.val (.ref a1), .val (.int (6 : Int32)), .unset, .unset, .unset] [])) (fun t kt => XS.icmpNo X2.here hx rfl (hb hby d2_23) rfl (teq (rfl : (38 : Int32) = (38 : Int32))).2 kt) ?_
  refine own_go (A := T2.setTop (mkF m 27 #[.val (.ref a1), .val (.int (6 : Int32)), .unset, .unset, .unset] [(.ref a1)])) (fun t kt => XS.aloadN X2.here hx rfl (hb hby d2_26) rfl rfl kt) ?_
  refine own_go (A := T2.setTop (mkF m 28 #[.val (.ref a1), .val (.int (6 : Int32)), .unset, .unset, .unset] [(.int (6 : Int32)), (.ref a1)])) (fun t kt => XS.iloadN X2.here hx rfl (hb hby d2_27) rfl kt) ?_
  refine own_go (A := T2.setTop (mkF m 29 #[.val (.ref a1), .val (.int (6 : Int32)), .unset, .unset, .unset] [(.int (1 : Int32)), (.int (6 : Int32)), (.ref a1)])) (fun t kt => XS.iconst X2.here hx rfl (hb hby d2_28) kt) ?_
  refine own_go (A := T2.setTop (mkF m 30 #[.val (.ref a1), .val (.int (6 : Int32)), .unset, .unset, .unset] [(.int (5 : Int32)), (.ref a1)])) (fun t kt => XS.isub X2.here hx rfl (hb hby d2_29) rfl kt) ?_
  obtain ⟨cq3, kq3, qa3, qb3, qc3⟩ := isOf hZ g2 E
  obtain ⟨_, _, ⟨T3, L3, k3, n3⟩, -, X3, ⟨Lc3, hQ3, l3, y3, z3⟩, st3⟩ := X2.virtualBack hx (y := (⟨"java/lang/String", "charAt", "(I)C"⟩ : MethodName)) (z := (⟨"java/lang/String", "charAt", "(I)C"⟩ : MethodName)) hown (mvT hZ (hw _ (List.mem_of_getElem? (i := 29) rfl))) (mvT hZ (hw _ (List.mem_of_getElem? (i := 30) rfl))) (notFace_of_selects (args := #[]) (mvT hZ (hw _ (List.mem_of_getElem? (i := 32) rfl)))) (mvT hZ (hw _ (List.mem_of_getElem? (i := 32) rfl))) (mvT hZ (hw _ (List.mem_of_getElem? (i := 31) rfl))) (by decide) (backOf (W := 0) (rm5 l Z a0 hw [] a1 (5 : Int32) bq cl (6 : Int32) (59 : Int32) (59 : Int32) gC G3 h0 n0 Z0 E FV FC S_C hg1 rG3 S_F Ar Sz Nz (by decide) (H 5 (by rw [Sz]; decide)) (by decide) (by decide)) hZ (hw _ (List.mem_of_getElem? (i := 33) rfl)) (hw _ (List.mem_of_getElem? (i := 5) rfl)) (by decide) (by decide)) qa3 qc3 (g := (mkF m 30 #[.val (.ref a1), .val (.int (6 : Int32)), .unset, .unset, .unset] [(.int (5 : Int32)), (.ref a1)])) rfl (by rw [hml]; rfl) (Steps.refl _) (argsL := [(.int (5 : Int32))]) (rest := []) (lenOf pd_5 rfl) rfl (by show 2 * 0 + _ ≤ _; exact Nat.le_of_eq rfl) (hb hby d2_30) (fun _ _ => ⟨rfl, g2, (by decide : 0 + 0 ≤ _), (by decide : 0 + 0 ≤ _)⟩)
  dsimp only [Pt.U, Pt.locs, Pt.cells, Pt.slots] at X3 l3 y3 z3 st3 hQ3
  subst l3 y3 z3
  obtain ⟨rfl, N3q, g3⟩ := hQ3
  have N3 := Fr.app N2 N3q
  refine own_go (A := T3.setTop (mkF m 33 #[.val (.ref a1), .val (.int (6 : Int32)), .unset, .unset, .unset] [(.int (59 : Int32))])) (fun t kt => st3.trans kt) ?_
  refine own_go (A := T3.setTop (mkF m 35 #[.val (.ref a1), .val (.int (6 : Int32)), .unset, .unset, .unset] [(.int (59 : Int32)), (.int (59 : Int32))])) (fun t kt => XS.bipush X3.here hx rfl (hb hby d2_33) kt) ?_
  refine own_go (A := T3.setTop (mkF m 40 #[.val (.ref a1), .val (.int (6 : Int32)), .unset, .unset, .unset] [])) (fun t kt => XS.icmpYes X3.here hx rfl (pc0 := 35) (pc' := 40) rfl (hb hby d2_35) rfl (teq (rfl : (59 : Int32) = (59 : Int32))).1 (by decide) (by decide) kt) ?_
  refine own_go (A := T3.setTop (mkF m 41 #[.val (.ref a1), .val (.int (6 : Int32)), .unset, .unset, .unset] [(.int (6 : Int32))])) (fun t kt => XS.iloadN X3.here hx rfl (hb hby d2_40) rfl kt) ?_
  refine own_go (A := T3.setTop (mkF m 43 #[.val (.ref a1), .val (.int (6 : Int32)), .unset, .unset, .unset] [(.int (6 : Int32)), (.int (6 : Int32))])) (fun t kt => XS.bipush X3.here hx rfl (hb hby d2_41) kt) ?_
  refine own_go (A := T3.setTop (mkF m 46 #[.val (.ref a1), .val (.int (6 : Int32)), .unset, .unset, .unset] [])) (fun t kt => XS.icmpNo X3.here hx rfl (hb hby d2_43) rfl (teq (rfl : (6 : Int32) = (6 : Int32))).2 kt) ?_
  refine own_go (A := T3.setTop (mkF m 47 #[.val (.ref a1), .val (.int (6 : Int32)), .unset, .unset, .unset] [(.ref a1)])) (fun t kt => XS.aloadN X3.here hx rfl (hb hby d2_46) rfl rfl kt) ?_
  refine own_go (A := T3.setTop (mkF m 48 #[.val (.ref a1), .val (.int (6 : Int32)), .unset, .unset, .unset] [(.int (1 : Int32)), (.ref a1)])) (fun t kt => XS.iconst X3.here hx rfl (hb hby d2_47) kt) ?_
  obtain ⟨cq4, kq4, qa4, qb4, qc4⟩ := isOf hZ g3 E
  obtain ⟨_, _, ⟨T4, L4, k4, n4⟩, -, X4, ⟨Lc4, hQ4, l4, y4, z4⟩, st4⟩ := X3.virtualBack hx (y := (⟨"java/lang/String", "charAt", "(I)C"⟩ : MethodName)) (z := (⟨"java/lang/String", "charAt", "(I)C"⟩ : MethodName)) hown (mvT hZ (hw _ (List.mem_of_getElem? (i := 29) rfl))) (mvT hZ (hw _ (List.mem_of_getElem? (i := 30) rfl))) (notFace_of_selects (args := #[]) (mvT hZ (hw _ (List.mem_of_getElem? (i := 32) rfl)))) (mvT hZ (hw _ (List.mem_of_getElem? (i := 32) rfl))) (mvT hZ (hw _ (List.mem_of_getElem? (i := 31) rfl))) (by decide) (backOf (W := 0) (rm5 l Z a0 hw [] a1 (1 : Int32) bq cl (6 : Int32) (113 : Int32) (113 : Int32) gC G3 h0 n0 Z0 E FV FC S_C hg1 rG3 S_F Ar Sz Nz (by decide) (H 1 (by rw [Sz]; decide)) (by decide) (by decide)) hZ (hw _ (List.mem_of_getElem? (i := 33) rfl)) (hw _ (List.mem_of_getElem? (i := 5) rfl)) (by decide) (by decide)) qa4 qc4 (g := (mkF m 48 #[.val (.ref a1), .val (.int (6 : Int32)), .unset, .unset, .unset] [(.int (1 : Int32)), (.ref a1)])) rfl (by rw [hml]; rfl) (Steps.refl _) (argsL := [(.int (1 : Int32))]) (rest := []) (lenOf pd_5 rfl) rfl (by show 2 * 0 + _ ≤ _; exact Nat.le_of_eq rfl) (hb hby d2_48) (fun _ _ => ⟨rfl, g3, (by decide : 0 + 0 ≤ _), (by decide : 0 + 0 ≤ _)⟩)
  dsimp only [Pt.U, Pt.locs, Pt.cells, Pt.slots] at X4 l4 y4 z4 st4 hQ4
  subst l4 y4 z4
  obtain ⟨rfl, N4q, g4⟩ := hQ4
  have N4 := Fr.app N3 N4q
  refine own_go (A := T4.setTop (mkF m 51 #[.val (.ref a1), .val (.int (6 : Int32)), .unset, .unset, .unset] [(.int (113 : Int32))])) (fun t kt => st4.trans kt) ?_
  refine own_go (A := T4.setTop (mkF m 53 #[.val (.ref a1), .val (.int (6 : Int32)), .unset, .unset, .unset] [(.int (113 : Int32)), (.int (113 : Int32))])) (fun t kt => XS.bipush X4.here hx rfl (hb hby d2_51) kt) ?_
  refine own_go (A := T4.setTop (mkF m 56 #[.val (.ref a1), .val (.int (6 : Int32)), .unset, .unset, .unset] [])) (fun t kt => XS.icmpNo X4.here hx rfl (hb hby d2_53) rfl (teq (rfl : (113 : Int32) = (113 : Int32))).2 kt) ?_
  refine own_go (A := T4.setTop (mkF m 57 #[.val (.ref a1), .val (.int (6 : Int32)), .unset, .unset, .unset] [(.ref a1)])) (fun t kt => XS.aloadN X4.here hx rfl (hb hby d2_56) rfl rfl kt) ?_
  refine own_go (A := T4.setTop (mkF m 58 #[.val (.ref a1), .val (.int (6 : Int32)), .unset, .unset, .unset] [(.int (2 : Int32)), (.ref a1)])) (fun t kt => XS.iconst X4.here hx rfl (hb hby d2_57) kt) ?_
  obtain ⟨cq5, kq5, qa5, qb5, qc5⟩ := isOf hZ g4 E
  obtain ⟨_, _, ⟨T5, L5, k5, n5⟩, -, X5, ⟨Lc5, hQ5, l5, y5, z5⟩, st5⟩ := X4.virtualBack hx (y := (⟨"java/lang/String", "charAt", "(I)C"⟩ : MethodName)) (z := (⟨"java/lang/String", "charAt", "(I)C"⟩ : MethodName)) hown (mvT hZ (hw _ (List.mem_of_getElem? (i := 29) rfl))) (mvT hZ (hw _ (List.mem_of_getElem? (i := 30) rfl))) (notFace_of_selects (args := #[]) (mvT hZ (hw _ (List.mem_of_getElem? (i := 32) rfl)))) (mvT hZ (hw _ (List.mem_of_getElem? (i := 32) rfl))) (mvT hZ (hw _ (List.mem_of_getElem? (i := 31) rfl))) (by decide) (backOf (W := 0) (rm5 l Z a0 hw [] a1 (2 : Int32) bq cl (6 : Int32) (117 : Int32) (117 : Int32) gC G3 h0 n0 Z0 E FV FC S_C hg1 rG3 S_F Ar Sz Nz (by decide) (H 2 (by rw [Sz]; decide)) (by decide) (by decide)) hZ (hw _ (List.mem_of_getElem? (i := 33) rfl)) (hw _ (List.mem_of_getElem? (i := 5) rfl)) (by decide) (by decide)) qa5 qc5 (g := (mkF m 58 #[.val (.ref a1), .val (.int (6 : Int32)), .unset, .unset, .unset] [(.int (2 : Int32)), (.ref a1)])) rfl (by rw [hml]; rfl) (Steps.refl _) (argsL := [(.int (2 : Int32))]) (rest := []) (lenOf pd_5 rfl) rfl (by show 2 * 0 + _ ≤ _; exact Nat.le_of_eq rfl) (hb hby d2_58) (fun _ _ => ⟨rfl, g4, (by decide : 0 + 0 ≤ _), (by decide : 0 + 0 ≤ _)⟩)
  dsimp only [Pt.U, Pt.locs, Pt.cells, Pt.slots] at X5 l5 y5 z5 st5 hQ5
  subst l5 y5 z5
  obtain ⟨rfl, N5q, g5⟩ := hQ5
  have N5 := Fr.app N4 N5q
  refine own_go (A := T5.setTop (mkF m 61 #[.val (.ref a1), .val (.int (6 : Int32)), .unset, .unset, .unset] [(.int (117 : Int32))])) (fun t kt => st5.trans kt) ?_
  refine own_go (A := T5.setTop (mkF m 63 #[.val (.ref a1), .val (.int (6 : Int32)), .unset, .unset, .unset] [(.int (117 : Int32)), (.int (117 : Int32))])) (fun t kt => XS.bipush X5.here hx rfl (hb hby d2_61) kt) ?_
  refine own_go (A := T5.setTop (mkF m 66 #[.val (.ref a1), .val (.int (6 : Int32)), .unset, .unset, .unset] [])) (fun t kt => XS.icmpNo X5.here hx rfl (hb hby d2_63) rfl (teq (rfl : (117 : Int32) = (117 : Int32))).2 kt) ?_
  refine own_go (A := T5.setTop (mkF m 67 #[.val (.ref a1), .val (.int (6 : Int32)), .unset, .unset, .unset] [(.ref a1)])) (fun t kt => XS.aloadN X5.here hx rfl (hb hby d2_66) rfl rfl kt) ?_
  refine own_go (A := T5.setTop (mkF m 68 #[.val (.ref a1), .val (.int (6 : Int32)), .unset, .unset, .unset] [(.int (3 : Int32)), (.ref a1)])) (fun t kt => XS.iconst X5.here hx rfl (hb hby d2_67) kt) ?_
  obtain ⟨cq6, kq6, qa6, qb6, qc6⟩ := isOf hZ g5 E
  obtain ⟨_, _, ⟨T6, L6, k6, n6⟩, -, X6, ⟨Lc6, hQ6, l6, y6, z6⟩, st6⟩ := X5.virtualBack hx (y := (⟨"java/lang/String", "charAt", "(I)C"⟩ : MethodName)) (z := (⟨"java/lang/String", "charAt", "(I)C"⟩ : MethodName)) hown (mvT hZ (hw _ (List.mem_of_getElem? (i := 29) rfl))) (mvT hZ (hw _ (List.mem_of_getElem? (i := 30) rfl))) (notFace_of_selects (args := #[]) (mvT hZ (hw _ (List.mem_of_getElem? (i := 32) rfl)))) (mvT hZ (hw _ (List.mem_of_getElem? (i := 32) rfl))) (mvT hZ (hw _ (List.mem_of_getElem? (i := 31) rfl))) (by decide) (backOf (W := 0) (rm5 l Z a0 hw [] a1 (3 : Int32) bq cl (6 : Int32) (111 : Int32) (111 : Int32) gC G3 h0 n0 Z0 E FV FC S_C hg1 rG3 S_F Ar Sz Nz (by decide) (H 3 (by rw [Sz]; decide)) (by decide) (by decide)) hZ (hw _ (List.mem_of_getElem? (i := 33) rfl)) (hw _ (List.mem_of_getElem? (i := 5) rfl)) (by decide) (by decide)) qa6 qc6 (g := (mkF m 68 #[.val (.ref a1), .val (.int (6 : Int32)), .unset, .unset, .unset] [(.int (3 : Int32)), (.ref a1)])) rfl (by rw [hml]; rfl) (Steps.refl _) (argsL := [(.int (3 : Int32))]) (rest := []) (lenOf pd_5 rfl) rfl (by show 2 * 0 + _ ≤ _; exact Nat.le_of_eq rfl) (hb hby d2_68) (fun _ _ => ⟨rfl, g5, (by decide : 0 + 0 ≤ _), (by decide : 0 + 0 ≤ _)⟩)
  dsimp only [Pt.U, Pt.locs, Pt.cells, Pt.slots] at X6 l6 y6 z6 st6 hQ6
  subst l6 y6 z6
  obtain ⟨rfl, N6q, g6⟩ := hQ6
  have N6 := Fr.app N5 N6q
  refine own_go (A := T6.setTop (mkF m 71 #[.val (.ref a1), .val (.int (6 : Int32)), .unset, .unset, .unset] [(.int (111 : Int32))])) (fun t kt => st6.trans kt) ?_
  refine own_go (A := T6.setTop (mkF m 73 #[.val (.ref a1), .val (.int (6 : Int32)), .unset, .unset, .unset] [(.int (111 : Int32)), (.int (111 : Int32))])) (fun t kt => XS.bipush X6.here hx rfl (hb hby d2_71) kt) ?_
  refine own_go (A := T6.setTop (mkF m 76 #[.val (.ref a1), .val (.int (6 : Int32)), .unset, .unset, .unset] [])) (fun t kt => XS.icmpNo X6.here hx rfl (hb hby d2_73) rfl (teq (rfl : (111 : Int32) = (111 : Int32))).2 kt) ?_
  refine own_go (A := T6.setTop (mkF m 77 #[.val (.ref a1), .val (.int (6 : Int32)), .unset, .unset, .unset] [(.ref a1)])) (fun t kt => XS.aloadN X6.here hx rfl (hb hby d2_76) rfl rfl kt) ?_
  refine own_go (A := T6.setTop (mkF m 78 #[.val (.ref a1), .val (.int (6 : Int32)), .unset, .unset, .unset] [(.int (4 : Int32)), (.ref a1)])) (fun t kt => XS.iconst X6.here hx rfl (hb hby d2_77) kt) ?_
  obtain ⟨cq7, kq7, qa7, qb7, qc7⟩ := isOf hZ g6 E
  obtain ⟨_, _, ⟨T7, L7, k7, n7⟩, -, X7, ⟨Lc7, hQ7, l7, y7, z7⟩, st7⟩ := X6.virtualBack hx (y := (⟨"java/lang/String", "charAt", "(I)C"⟩ : MethodName)) (z := (⟨"java/lang/String", "charAt", "(I)C"⟩ : MethodName)) hown (mvT hZ (hw _ (List.mem_of_getElem? (i := 29) rfl))) (mvT hZ (hw _ (List.mem_of_getElem? (i := 30) rfl))) (notFace_of_selects (args := #[]) (mvT hZ (hw _ (List.mem_of_getElem? (i := 32) rfl)))) (mvT hZ (hw _ (List.mem_of_getElem? (i := 32) rfl))) (mvT hZ (hw _ (List.mem_of_getElem? (i := 31) rfl))) (by decide) (backOf (W := 0) (rm5 l Z a0 hw [] a1 (4 : Int32) bq cl (6 : Int32) (116 : Int32) (116 : Int32) gC G3 h0 n0 Z0 E FV FC S_C hg1 rG3 S_F Ar Sz Nz (by decide) (H 4 (by rw [Sz]; decide)) (by decide) (by decide)) hZ (hw _ (List.mem_of_getElem? (i := 33) rfl)) (hw _ (List.mem_of_getElem? (i := 5) rfl)) (by decide) (by decide)) qa7 qc7 (g := (mkF m 78 #[.val (.ref a1), .val (.int (6 : Int32)), .unset, .unset, .unset] [(.int (4 : Int32)), (.ref a1)])) rfl (by rw [hml]; rfl) (Steps.refl _) (argsL := [(.int (4 : Int32))]) (rest := []) (lenOf pd_5 rfl) rfl (by show 2 * 0 + _ ≤ _; exact Nat.le_of_eq rfl) (hb hby d2_78) (fun _ _ => ⟨rfl, g6, (by decide : 0 + 0 ≤ _), (by decide : 0 + 0 ≤ _)⟩)
  dsimp only [Pt.U, Pt.locs, Pt.cells, Pt.slots] at X7 l7 y7 z7 st7 hQ7
  subst l7 y7 z7
  obtain ⟨rfl, N7q, g7⟩ := hQ7
  have N7 := Fr.app N6 N7q
  refine own_go (A := T7.setTop (mkF m 81 #[.val (.ref a1), .val (.int (6 : Int32)), .unset, .unset, .unset] [(.int (116 : Int32))])) (fun t kt => st7.trans kt) ?_
  refine own_go (A := T7.setTop (mkF m 83 #[.val (.ref a1), .val (.int (6 : Int32)), .unset, .unset, .unset] [(.int (116 : Int32)), (.int (116 : Int32))])) (fun t kt => XS.bipush X7.here hx rfl (hb hby d2_81) kt) ?_
  refine own_go (A := T7.setTop (mkF m 86 #[.val (.ref a1), .val (.int (6 : Int32)), .unset, .unset, .unset] [])) (fun t kt => XS.icmpNo X7.here hx rfl (hb hby d2_83) rfl (teq (rfl : (116 : Int32) = (116 : Int32))).2 kt) ?_
  refine own_go (A := T7.setTop (mkF m 88 #[.val (.ref a1), .val (.int (6 : Int32)), .unset, .unset, .unset] [(.int (34 : Int32))])) (fun t kt => XS.bipush X7.here hx rfl (hb hby d2_86) kt) ?_
  obtain ⟨fs, hr, hrun, hended, hW, hsame⟩ := X7.leave (v := some (.int (34 : Int32))) (fun h => by rw [Bd.returns] at h; cases h)
  exact ⟨_, _, retI X7 hx Bd.returns (hb hby d2_88) hr, hrun, hended, _, _, rfl, ⟨rfl, N7, g7⟩, ⟨_, rfl⟩, hW, hsame.mono (by decide) (by decide)⟩
def Q2_13 (Z : State)  (h0 : Heap) (n0 : Nat) (v : Option Value) (h : Heap) (L : List Loc) : Prop := v = some (.int (13 : Int32)) ∧ Fr n0 L ∧ h = h0
set_option maxRecDepth 65536 in
set_option maxHeartbeats 40000000 in
theorem rm2_13 (l : Launch) (Z : State) (a0 : Array Value) (hw : ∀ d ∈ tables_1, d.before a0 Z = true) (ws : List Jvm.Cond) (a1 : Addr) (gC : Int32) (G3 : Value) (h0 : Heap) (n0 : Nat) (Z0 : n0 ≤ h0.size) (St : own_Str Z h0 a1 [38, 35, 49, 51, 59]) (S_C : Sta Z h0 "java/lang/String" "COMPACT_STRINGS" "Z" (.int gC)) (hg1 : ¬ (gC = (0 : Int32))) (rG3 : G3.isRef = true) (S_F : Sta Z h0 "jdk/internal/util/Preconditions" "SIOOBE_FORMATTER" "Ljava/util/function/BiFunction;" G3) :
    MetFree l (⟨"com/example/coxt/coxt/output/XmlSerializerWhiteSpaceOrQuoteEscapePinLaw", "decode", "(Ljava/lang/String;)I"⟩ : MethodName) (head1 (Jvm.Cond.code (⟨"com/example/coxt/coxt/output/XmlSerializerWhiteSpaceOrQuoteEscapePinLaw", "decode", "(Ljava/lang/String;)I"⟩ : MethodName) method_4_code 5 (some .int) :: ws) ({ frames := 4, cells := 0, slots := 0, locals := 53 } : Room)) (fun a U => a = #[(.ref a1)] ∧ Z.Warmed39 U.vm ∧ U.heap = h0) (fun _ _ _ _ _ => True) (fun _ U o U' => ∃ v L, o = .returned v ∧ Q2_13 Z  h0 n0 v U'.heap L ∧ FrameEnd U o U' L ({ frames := 4, cells := 0, slots := 0, locals := 53 } : Room).cells ({ frames := 4, cells := 0, slots := 0, locals := 53 } : Room).slots) := by
  refine MetFree.of_bodySF (plainFor_of_name pn_2) hisR ?_
  intro p e s m args below meth c s₁ Bd hml0 hP hK
  obtain ⟨rfl, hZ, hh⟩ := hP
  have hx := Bd.exec
  have hby := Bd.bytes
  have hml : c.maxLocals = 5 := hml0
  have hown : s.vm.findClass "com/example/coxt/coxt/output/XmlSerializerWhiteSpaceOrQuoteEscapePinLaw" = some m.cls := findClass_of_methodNamed Bd.named
  have hnm := (name_of_methodNamed Bd.named Bd.method).1
  have X0 : Stand p l e ({ frames := 4, cells := 0, slots := 0, locals := 53 } : Room) s m #[(.ref a1)] below meth c s₁ [] 0 0 := Stand.of_body Bd
  have e0 : s₁.heap = h0 := by rw [← hh, Bd.state]; rfl
  have N0 := Fr.nil n0
  have pre0 : ∀ t, Steps p.tables e below (s₁.setTop (mkF m 0 #[.val (.ref a1), .unset, .unset, .unset, .unset] [])) t → Steps p.tables e below (s₁.setTop (entryFrame m #[(.ref a1)] 5)) t := fun t kt => castTop (ef_2 m a1) kt
  refine own_go (A := s₁.setTop (mkF m 0 #[.val (.ref a1), .unset, .unset, .unset, .unset] [])) pre0 ?_
  obtain ⟨bq, kb, E, FC, FV, cl, Ar, -, Sz', -, H, -⟩ := St
  have Sz : cl.slots.size = (5 : Int32).toNatClampNeg := Sz'
  have Nz : ¬ (5 : Int32) < 0 := by decide
  refine own_go (A := s₁.setTop (mkF m 1 #[.val (.ref a1), .unset, .unset, .unset, .unset] [(.ref a1)])) (fun t kt => XS.aloadN X0.here hx rfl (hb hby d2_0) rfl rfl kt) ?_
  obtain ⟨cq1, kq1, qa1, qb1, qc1⟩ := isOf hZ e0 E
  obtain ⟨_, _, ⟨T1, L1, k1, n1⟩, -, X1, ⟨Lc1, hQ1, l1, y1, z1⟩, st1⟩ := X0.virtualBack hx (y := (⟨"java/lang/String", "length", "()I"⟩ : MethodName)) (z := (⟨"java/lang/String", "length", "()I"⟩ : MethodName)) hown (mvT hZ (hw _ (List.mem_of_getElem? (i := 16) rfl))) (mvT hZ (hw _ (List.mem_of_getElem? (i := 17) rfl))) (notFace_of_selects (args := #[]) (mvT hZ (hw _ (List.mem_of_getElem? (i := 19) rfl)))) (mvT hZ (hw _ (List.mem_of_getElem? (i := 19) rfl))) (mvT hZ (hw _ (List.mem_of_getElem? (i := 18) rfl))) (by decide) (backOf (W := 0) (rm3 l Z a0 hw [] a1 bq cl (5 : Int32) gC h0 n0 Z0 FV Ar Sz Nz E FC S_C hg1) hZ (hw _ (List.mem_of_getElem? (i := 20) rfl)) (hw _ (List.mem_of_getElem? (i := 5) rfl)) (by decide) (by decide)) qa1 qc1 (g := (mkF m 1 #[.val (.ref a1), .unset, .unset, .unset, .unset] [(.ref a1)])) rfl (by rw [hml]; rfl) (Steps.refl _) (argsL := []) (rest := []) (lenOf pd_3 rfl) rfl (by show 2 * 0 + _ ≤ _; exact Nat.le_of_eq rfl) (hb hby d2_1) (fun _ _ => ⟨rfl, e0, (by decide : 0 + 0 ≤ _), (by decide : 0 + 0 ≤ _)⟩)
  dsimp only [Pt.U, Pt.locs, Pt.cells, Pt.slots] at X1 l1 y1 z1 st1 hQ1
  subst l1 y1 z1
  obtain ⟨rfl, N1q, g1⟩ := hQ1
  have N1 := Fr.app N0 N1q
  refine own_go (A := T1.setTop (mkF m 4 #[.val (.ref a1), .unset, .unset, .unset, .unset] [(.int (5 : Int32))])) (fun t kt => st1.trans kt) ?_
  refine own_go (A := T1.setTop (mkF m 5 #[.val (.ref a1), .val (.int (5 : Int32)), .unset, .unset, .unset] [])) (fun t kt => XS.istoreN X1.here hx rfl (hb hby d2_4) rfl (l' := #[.val (.ref a1), .val (.int (5 : Int32)), .unset, .unset, .unset]) rfl kt) ?_
  refine own_go (A := T1.setTop (mkF m 6 #[.val (.ref a1), .val (.int (5 : Int32)), .unset, .unset, .unset] [(.int (5 : Int32))])) (fun t kt => XS.iloadN X1.here hx rfl (hb hby d2_5) rfl kt) ?_
  refine own_go (A := T1.setTop (mkF m 7 #[.val (.ref a1), .val (.int (5 : Int32)), .unset, .unset, .unset] [(.int (4 : Int32)), (.int (5 : Int32))])) (fun t kt => XS.iconst X1.here hx rfl (hb hby d2_6) kt) ?_
  refine own_go (A := T1.setTop (mkF m 10 #[.val (.ref a1), .val (.int (5 : Int32)), .unset, .unset, .unset] [])) (fun t kt => XS.icmpNo X1.here hx rfl (hb hby d2_7) rfl (flt (by decide : ¬ ((5 : Int32) < (4 : Int32)))).1 kt) ?_
  refine own_go (A := T1.setTop (mkF m 11 #[.val (.ref a1), .val (.int (5 : Int32)), .unset, .unset, .unset] [(.int (5 : Int32))])) (fun t kt => XS.iloadN X1.here hx rfl (hb hby d2_10) rfl kt) ?_
  refine own_go (A := T1.setTop (mkF m 13 #[.val (.ref a1), .val (.int (5 : Int32)), .unset, .unset, .unset] [(.int (6 : Int32)), (.int (5 : Int32))])) (fun t kt => XS.bipush X1.here hx rfl (hb hby d2_11) kt) ?_
  refine own_go (A := T1.setTop (mkF m 16 #[.val (.ref a1), .val (.int (5 : Int32)), .unset, .unset, .unset] [])) (fun t kt => XS.icmpNo X1.here hx rfl (hb hby d2_13) rfl (flt (by decide : ¬ ((6 : Int32) < (5 : Int32)))).2.2.1 kt) ?_
  refine own_go (A := T1.setTop (mkF m 17 #[.val (.ref a1), .val (.int (5 : Int32)), .unset, .unset, .unset] [(.ref a1)])) (fun t kt => XS.aloadN X1.here hx rfl (hb hby d2_16) rfl rfl kt) ?_
  refine own_go (A := T1.setTop (mkF m 18 #[.val (.ref a1), .val (.int (5 : Int32)), .unset, .unset, .unset] [(.int (0 : Int32)), (.ref a1)])) (fun t kt => XS.iconst X1.here hx rfl (hb hby d2_17) kt) ?_
  obtain ⟨cq2, kq2, qa2, qb2, qc2⟩ := isOf hZ g1 E
  obtain ⟨_, _, ⟨T2, L2, k2, n2⟩, -, X2, ⟨Lc2, hQ2, l2, y2, z2⟩, st2⟩ := X1.virtualBack hx (y := (⟨"java/lang/String", "charAt", "(I)C"⟩ : MethodName)) (z := (⟨"java/lang/String", "charAt", "(I)C"⟩ : MethodName)) hown (mvT hZ (hw _ (List.mem_of_getElem? (i := 29) rfl))) (mvT hZ (hw _ (List.mem_of_getElem? (i := 30) rfl))) (notFace_of_selects (args := #[]) (mvT hZ (hw _ (List.mem_of_getElem? (i := 32) rfl)))) (mvT hZ (hw _ (List.mem_of_getElem? (i := 32) rfl))) (mvT hZ (hw _ (List.mem_of_getElem? (i := 31) rfl))) (by decide) (backOf (W := 0) (rm5 l Z a0 hw [] a1 (0 : Int32) bq cl (5 : Int32) (38 : Int32) (38 : Int32) gC G3 h0 n0 Z0 E FV FC S_C hg1 rG3 S_F Ar Sz Nz (by decide) (H 0 (by rw [Sz]; decide)) (by decide) (by decide)) hZ (hw _ (List.mem_of_getElem? (i := 33) rfl)) (hw _ (List.mem_of_getElem? (i := 5) rfl)) (by decide) (by decide)) qa2 qc2 (g := (mkF m 18 #[.val (.ref a1), .val (.int (5 : Int32)), .unset, .unset, .unset] [(.int (0 : Int32)), (.ref a1)])) rfl (by rw [hml]; rfl) (Steps.refl _) (argsL := [(.int (0 : Int32))]) (rest := []) (lenOf pd_5 rfl) rfl (by show 2 * 0 + _ ≤ _; exact Nat.le_of_eq rfl) (hb hby d2_18) (fun _ _ => ⟨rfl, g1, (by decide : 0 + 0 ≤ _), (by decide : 0 + 0 ≤ _)⟩)
  dsimp only [Pt.U, Pt.locs, Pt.cells, Pt.slots] at X2 l2 y2 z2 st2 hQ2
  subst l2 y2 z2
  obtain ⟨rfl, N2q, g2⟩ := hQ2
  have N2 := Fr.app N1 N2q
  refine own_go (A := T2.setTop (mkF m 21 #[.val (.ref a1), .val (.int (5 : Int32)), .unset, .unset, .unset] [(.int (38 : Int32))])) (fun t kt => st2.trans kt) ?_
  refine own_go (A := T2.setTop (mkF m 23 #[.val (.ref a1), .val (.int (5 : Int32)), .unset, .unset, .unset] [(.int (38 : Int32)), (.int (38 : Int32))])) (fun t kt => XS.bipush X2.here hx rfl (hb hby d2_21) kt) ?_
  refine own_go (A := T2.setTop (mkF m 26 #[.val (.ref a1), .val (.int (5 : Int32)), .unset, .unset, .unset] [])) (fun t kt => XS.icmpNo X2.here hx rfl (hb hby d2_23) rfl (teq (rfl : (38 : Int32) = (38 : Int32))).2 kt) ?_
  refine own_go (A := T2.setTop (mkF m 27 #[.val (.ref a1), .val (.int (5 : Int32)), .unset, .unset, .unset] [(.ref a1)])) (fun t kt => XS.aloadN X2.here hx rfl (hb hby d2_26) rfl rfl kt) ?_
  refine own_go (A := T2.setTop (mkF m 28 #[.val (.ref a1), .val (.int (5 : Int32)), .unset, .unset, .unset] [(.int (5 : Int32)), (.ref a1)])) (fun t kt => XS.iloadN X2.here hx rfl (hb hby d2_27) rfl kt) ?_
  refine own_go (A := T2.setTop (mkF m 29 #[.val (.ref a1), .val (.int (5 : Int32)), .unset, .unset, .unset] [(.int (1 : Int32)), (.int (5 : Int32)), (.ref a1)])) (fun t kt => XS.iconst X2.here hx rfl (hb hby d2_28) kt) ?_
  refine own_go (A := T2.setTop (mkF m 30 #[.val (.ref a1), .val (.int (5 : Int32)), .unset, .unset, .unset] [(.int (4 : Int32)), (.ref a1)])) (fun t kt => XS.isub X2.here hx rfl (hb hby d2_29) rfl kt) ?_
  obtain ⟨cq3, kq3, qa3, qb3, qc3⟩ := isOf hZ g2 E
  obtain ⟨_, _, ⟨T3, L3, k3, n3⟩, -, X3, ⟨Lc3, hQ3, l3, y3, z3⟩, st3⟩ := X2.virtualBack hx (y := (⟨"java/lang/String", "charAt", "(I)C"⟩ : MethodName)) (z := (⟨"java/lang/String", "charAt", "(I)C"⟩ : MethodName)) hown (mvT hZ (hw _ (List.mem_of_getElem? (i := 29) rfl))) (mvT hZ (hw _ (List.mem_of_getElem? (i := 30) rfl))) (notFace_of_selects (args := #[]) (mvT hZ (hw _ (List.mem_of_getElem? (i := 32) rfl)))) (mvT hZ (hw _ (List.mem_of_getElem? (i := 32) rfl))) (mvT hZ (hw _ (List.mem_of_getElem? (i := 31) rfl))) (by decide) (backOf (W := 0) (rm5 l Z a0 hw [] a1 (4 : Int32) bq cl (5 : Int32) (59 : Int32) (59 : Int32) gC G3 h0 n0 Z0 E FV FC S_C hg1 rG3 S_F Ar Sz Nz (by decide) (H 4 (by rw [Sz]; decide)) (by decide) (by decide)) hZ (hw _ (List.mem_of_getElem? (i := 33) rfl)) (hw _ (List.mem_of_getElem? (i := 5) rfl)) (by decide) (by decide)) qa3 qc3 (g := (mkF m 30 #[.val (.ref a1), .val (.int (5 : Int32)), .unset, .unset, .unset] [(.int (4 : Int32)), (.ref a1)])) rfl (by rw [hml]; rfl) (Steps.refl _) (argsL := [(.int (4 : Int32))]) (rest := []) (lenOf pd_5 rfl) rfl (by show 2 * 0 + _ ≤ _; exact Nat.le_of_eq rfl) (hb hby d2_30) (fun _ _ => ⟨rfl, g2, (by decide : 0 + 0 ≤ _), (by decide : 0 + 0 ≤ _)⟩)
  dsimp only [Pt.U, Pt.locs, Pt.cells, Pt.slots] at X3 l3 y3 z3 st3 hQ3
  subst l3 y3 z3
  obtain ⟨rfl, N3q, g3⟩ := hQ3
  have N3 := Fr.app N2 N3q
  refine own_go (A := T3.setTop (mkF m 33 #[.val (.ref a1), .val (.int (5 : Int32)), .unset, .unset, .unset] [(.int (59 : Int32))])) (fun t kt => st3.trans kt) ?_
  refine own_go (A := T3.setTop (mkF m 35 #[.val (.ref a1), .val (.int (5 : Int32)), .unset, .unset, .unset] [(.int (59 : Int32)), (.int (59 : Int32))])) (fun t kt => XS.bipush X3.here hx rfl (hb hby d2_33) kt) ?_
  refine own_go (A := T3.setTop (mkF m 40 #[.val (.ref a1), .val (.int (5 : Int32)), .unset, .unset, .unset] [])) (fun t kt => XS.icmpYes X3.here hx rfl (pc0 := 35) (pc' := 40) rfl (hb hby d2_35) rfl (teq (rfl : (59 : Int32) = (59 : Int32))).1 (by decide) (by decide) kt) ?_
  refine own_go (A := T3.setTop (mkF m 41 #[.val (.ref a1), .val (.int (5 : Int32)), .unset, .unset, .unset] [(.int (5 : Int32))])) (fun t kt => XS.iloadN X3.here hx rfl (hb hby d2_40) rfl kt) ?_
  refine own_go (A := T3.setTop (mkF m 43 #[.val (.ref a1), .val (.int (5 : Int32)), .unset, .unset, .unset] [(.int (6 : Int32)), (.int (5 : Int32))])) (fun t kt => XS.bipush X3.here hx rfl (hb hby d2_41) kt) ?_
  refine own_go (A := T3.setTop (mkF m 89 #[.val (.ref a1), .val (.int (5 : Int32)), .unset, .unset, .unset] [])) (fun t kt => XS.icmpYes X3.here hx rfl (pc0 := 43) (pc' := 89) rfl (hb hby d2_43) rfl (feq (by decide : ¬ ((5 : Int32) = (6 : Int32)))).2 (by decide) (by decide) kt) ?_
  refine own_go (A := T3.setTop (mkF m 90 #[.val (.ref a1), .val (.int (5 : Int32)), .unset, .unset, .unset] [(.ref a1)])) (fun t kt => XS.aloadN X3.here hx rfl (hb hby d2_89) rfl rfl kt) ?_
  refine own_go (A := T3.setTop (mkF m 91 #[.val (.ref a1), .val (.int (5 : Int32)), .unset, .unset, .unset] [(.int (1 : Int32)), (.ref a1)])) (fun t kt => XS.iconst X3.here hx rfl (hb hby d2_90) kt) ?_
  obtain ⟨cq4, kq4, qa4, qb4, qc4⟩ := isOf hZ g3 E
  obtain ⟨_, _, ⟨T4, L4, k4, n4⟩, -, X4, ⟨Lc4, hQ4, l4, y4, z4⟩, st4⟩ := X3.virtualBack hx (y := (⟨"java/lang/String", "charAt", "(I)C"⟩ : MethodName)) (z := (⟨"java/lang/String", "charAt", "(I)C"⟩ : MethodName)) hown (mvT hZ (hw _ (List.mem_of_getElem? (i := 29) rfl))) (mvT hZ (hw _ (List.mem_of_getElem? (i := 30) rfl))) (notFace_of_selects (args := #[]) (mvT hZ (hw _ (List.mem_of_getElem? (i := 32) rfl)))) (mvT hZ (hw _ (List.mem_of_getElem? (i := 32) rfl))) (mvT hZ (hw _ (List.mem_of_getElem? (i := 31) rfl))) (by decide) (backOf (W := 0) (rm5 l Z a0 hw [] a1 (1 : Int32) bq cl (5 : Int32) (35 : Int32) (35 : Int32) gC G3 h0 n0 Z0 E FV FC S_C hg1 rG3 S_F Ar Sz Nz (by decide) (H 1 (by rw [Sz]; decide)) (by decide) (by decide)) hZ (hw _ (List.mem_of_getElem? (i := 33) rfl)) (hw _ (List.mem_of_getElem? (i := 5) rfl)) (by decide) (by decide)) qa4 qc4 (g := (mkF m 91 #[.val (.ref a1), .val (.int (5 : Int32)), .unset, .unset, .unset] [(.int (1 : Int32)), (.ref a1)])) rfl (by rw [hml]; rfl) (Steps.refl _) (argsL := [(.int (1 : Int32))]) (rest := []) (lenOf pd_5 rfl) rfl (by show 2 * 0 + _ ≤ _; exact Nat.le_of_eq rfl) (hb hby d2_91) (fun _ _ => ⟨rfl, g3, (by decide : 0 + 0 ≤ _), (by decide : 0 + 0 ≤ _)⟩)
  dsimp only [Pt.U, Pt.locs, Pt.cells, Pt.slots] at X4 l4 y4 z4 st4 hQ4
  subst l4 y4 z4
  obtain ⟨rfl, N4q, g4⟩ := hQ4
  have N4 := Fr.app N3 N4q
  refine own_go (A := T4.setTop (mkF m 94 #[.val (.ref a1), .val (.int (5 : Int32)), .unset, .unset, .unset] [(.int (35 : Int32))])) (fun t kt => st4.trans kt) ?_
  refine own_go (A := T4.setTop (mkF m 96 #[.val (.ref a1), .val (.int (5 : Int32)), .unset, .unset, .unset] [(.int (35 : Int32)), (.int (35 : Int32))])) (fun t kt => XS.bipush X4.here hx rfl (hb hby d2_94) kt) ?_
  refine own_go (A := T4.setTop (mkF m 101 #[.val (.ref a1), .val (.int (5 : Int32)), .unset, .unset, .unset] [])) (fun t kt => XS.icmpYes X4.here hx rfl (pc0 := 96) (pc' := 101) rfl (hb hby d2_96) rfl (teq (rfl : (35 : Int32) = (35 : Int32))).1 (by decide) (by decide) kt) ?_
  refine own_go (A := T4.setTop (mkF m 102 #[.val (.ref a1), .val (.int (5 : Int32)), .unset, .unset, .unset] [(.int (5 : Int32))])) (fun t kt => XS.iloadN X4.here hx rfl (hb hby d2_101) rfl kt) ?_
  refine own_go (A := T4.setTop (mkF m 103 #[.val (.ref a1), .val (.int (5 : Int32)), .unset, .unset, .unset] [(.int (4 : Int32)), (.int (5 : Int32))])) (fun t kt => XS.iconst X4.here hx rfl (hb hby d2_102) kt) ?_
  refine own_go (A := T4.setTop (mkF m 115 #[.val (.ref a1), .val (.int (5 : Int32)), .unset, .unset, .unset] [])) (fun t kt => XS.icmpYes X4.here hx rfl (pc0 := 103) (pc' := 115) rfl (hb hby d2_103) rfl (feq (by decide : ¬ ((5 : Int32) = (4 : Int32)))).2 (by decide) (by decide) kt) ?_
  refine own_go (A := T4.setTop (mkF m 116 #[.val (.ref a1), .val (.int (5 : Int32)), .unset, .unset, .unset] [(.ref a1)])) (fun t kt => XS.aloadN X4.here hx rfl (hb hby d2_115) rfl rfl kt) ?_
  refine own_go (A := T4.setTop (mkF m 117 #[.val (.ref a1), .val (.int (5 : Int32)), .unset, .unset, .unset] [(.int (2 : Int32)), (.ref a1)])) (fun t kt => XS.iconst X4.here hx rfl (hb hby d2_116) kt) ?_
  obtain ⟨cq5, kq5, qa5, qb5, qc5⟩ := isOf hZ g4 E
  obtain ⟨_, _, ⟨T5, L5, k5, n5⟩, -, X5, ⟨Lc5, hQ5, l5, y5, z5⟩, st5⟩ := X4.virtualBack hx (y := (⟨"java/lang/String", "charAt", "(I)C"⟩ : MethodName)) (z := (⟨"java/lang/String", "charAt", "(I)C"⟩ : MethodName)) hown (mvT hZ (hw _ (List.mem_of_getElem? (i := 29) rfl))) (mvT hZ (hw _ (List.mem_of_getElem? (i := 30) rfl))) (notFace_of_selects (args := #[]) (mvT hZ (hw _ (List.mem_of_getElem? (i := 32) rfl)))) (mvT hZ (hw _ (List.mem_of_getElem? (i := 32) rfl))) (mvT hZ (hw _ (List.mem_of_getElem? (i := 31) rfl))) (by decide) (backOf (W := 0) (rm5 l Z a0 hw [] a1 (2 : Int32) bq cl (5 : Int32) (49 : Int32) (49 : Int32) gC G3 h0 n0 Z0 E FV FC S_C hg1 rG3 S_F Ar Sz Nz (by decide) (H 2 (by rw [Sz]; decide)) (by decide) (by decide)) hZ (hw _ (List.mem_of_getElem? (i := 33) rfl)) (hw _ (List.mem_of_getElem? (i := 5) rfl)) (by decide) (by decide)) qa5 qc5 (g := (mkF m 117 #[.val (.ref a1), .val (.int (5 : Int32)), .unset, .unset, .unset] [(.int (2 : Int32)), (.ref a1)])) rfl (by rw [hml]; rfl) (Steps.refl _) (argsL := [(.int (2 : Int32))]) (rest := []) (lenOf pd_5 rfl) rfl (by show 2 * 0 + _ ≤ _; exact Nat.le_of_eq rfl) (hb hby d2_117) (fun _ _ => ⟨rfl, g4, (by decide : 0 + 0 ≤ _), (by decide : 0 + 0 ≤ _)⟩)
  dsimp only [Pt.U, Pt.locs, Pt.cells, Pt.slots] at X5 l5 y5 z5 st5 hQ5
  subst l5 y5 z5
  obtain ⟨rfl, N5q, g5⟩ := hQ5
  have N5 := Fr.app N4 N5q
  refine own_go (A := T5.setTop (mkF m 120 #[.val (.ref a1), .val (.int (5 : Int32)), .unset, .unset, .unset] [(.int (49 : Int32))])) (fun t kt => st5.trans kt) ?_
  obtain ⟨_, _, ⟨T6, L6, k6, n6⟩, -, X6, ⟨Lc6, hQ6, l6, y6, z6⟩, st6⟩ := Jvm.LawKit.callS X5 hx (y := (⟨"com/example/coxt/coxt/output/XmlSerializerWhiteSpaceOrQuoteEscapePinLaw", "digit", "(C)I"⟩ : MethodName)) hown (mvT hZ (hw _ (List.mem_of_getElem? (i := 51) rfl))) (mvT hZ (hw _ (List.mem_of_getElem? (i := 52) rfl))) (mvT hZ (hw _ (List.mem_of_getElem? (i := 14) rfl))) (mvT hZ (hw _ (List.mem_of_getElem? (i := 53) rfl))) (by decide) (backOf (W := 0) (rm10 l Z a0 hw [] (49 : Int32) h0 n0 Z0) hZ (hw _ (List.mem_of_getElem? (i := 53) rfl)) (hw _ (List.mem_of_getElem? (i := 14) rfl)) (by decide) (by decide)) (g := (mkF m 120 #[.val (.ref a1), .val (.int (5 : Int32)), .unset, .unset, .unset] [(.int (49 : Int32))])) rfl (by rw [hml]; rfl) (argsL := [(.int (49 : Int32))]) (rest := []) (lenOf pd_10 rfl) rfl (by show 2 * 0 + _ ≤ _; exact Nat.le_of_eq rfl) (hb hby d2_120) (fun _ _ => ⟨rfl, g5, (by decide : 0 + 0 ≤ _), (by decide : 0 + 0 ≤ _)⟩)
  dsimp only [Pt.U, Pt.locs, Pt.cells, Pt.slots] at X6 l6 y6 z6 st6 hQ6
  subst l6 y6 z6
  obtain ⟨rfl, N6q, g6⟩ := hQ6
  have N6 := Fr.app N5 N6q
  rw [show F10_0 (49 : Int32) = (1 : Int32) from by decide] at st6
  refine own_go (A := T6.setTop (mkF m 123 #[.val (.ref a1), .val (.int (5 : Int32)), .unset, .unset, .unset] [(.int (1 : Int32))])) st6 ?_
  refine own_go (A := T6.setTop (mkF m 124 #[.val (.ref a1), .val (.int (5 : Int32)), .val (.int (1 : Int32)), .unset, .unset] [])) (fun t kt => XS.istoreN X6.here hx rfl (hb hby d2_123) rfl (l' := #[.val (.ref a1), .val (.int (5 : Int32)), .val (.int (1 : Int32)), .unset, .unset]) rfl kt) ?_
  refine own_go (A := T6.setTop (mkF m 125 #[.val (.ref a1), .val (.int (5 : Int32)), .val (.int (1 : Int32)), .unset, .unset] [(.ref a1)])) (fun t kt => XS.aloadN X6.here hx rfl (hb hby d2_124) rfl rfl kt) ?_
  refine own_go (A := T6.setTop (mkF m 126 #[.val (.ref a1), .val (.int (5 : Int32)), .val (.int (1 : Int32)), .unset, .unset] [(.int (3 : Int32)), (.ref a1)])) (fun t kt => XS.iconst X6.here hx rfl (hb hby d2_125) kt) ?_
  obtain ⟨cq7, kq7, qa7, qb7, qc7⟩ := isOf hZ g6 E
  obtain ⟨_, _, ⟨T7, L7, k7, n7⟩, -, X7, ⟨Lc7, hQ7, l7, y7, z7⟩, st7⟩ := X6.virtualBack hx (y := (⟨"java/lang/String", "charAt", "(I)C"⟩ : MethodName)) (z := (⟨"java/lang/String", "charAt", "(I)C"⟩ : MethodName)) hown (mvT hZ (hw _ (List.mem_of_getElem? (i := 29) rfl))) (mvT hZ (hw _ (List.mem_of_getElem? (i := 30) rfl))) (notFace_of_selects (args := #[]) (mvT hZ (hw _ (List.mem_of_getElem? (i := 32) rfl)))) (mvT hZ (hw _ (List.mem_of_getElem? (i := 32) rfl))) (mvT hZ (hw _ (List.mem_of_getElem? (i := 31) rfl))) (by decide) (backOf (W := 0) (rm5 l Z a0 hw [] a1 (3 : Int32) bq cl (5 : Int32) (51 : Int32) (51 : Int32) gC G3 h0 n0 Z0 E FV FC S_C hg1 rG3 S_F Ar Sz Nz (by decide) (H 3 (by rw [Sz]; decide)) (by decide) (by decide)) hZ (hw _ (List.mem_of_getElem? (i := 33) rfl)) (hw _ (List.mem_of_getElem? (i := 5) rfl)) (by decide) (by decide)) qa7 qc7 (g := (mkF m 126 #[.val (.ref a1), .val (.int (5 : Int32)), .val (.int (1 : Int32)), .unset, .unset] [(.int (3 : Int32)), (.ref a1)])) rfl (by rw [hml]; rfl) (Steps.refl _) (argsL := [(.int (3 : Int32))]) (rest := []) (lenOf pd_5 rfl) rfl (by show 2 * 0 + _ ≤ _; exact Nat.le_of_eq rfl) (hb hby d2_126) (fun _ _ => ⟨rfl, g6, (by decide : 0 + 0 ≤ _), (by decide : 0 + 0 ≤ _)⟩)
  dsimp only [Pt.U, Pt.locs, Pt.cells, Pt.slots] at X7 l7 y7 z7 st7 hQ7
  subst l7 y7 z7
  obtain ⟨rfl, N7q, g7⟩ := hQ7
  have N7 := Fr.app N6 N7q
  refine own_go (A := T7.setTop (mkF m 129 #[.val (.ref a1), .val (.int (5 : Int32)), .val (.int (1 : Int32)), .unset, .unset] [(.int (51 : Int32))])) (fun t kt => st7.trans kt) ?_
  obtain ⟨_, _, ⟨T8, L8, k8, n8⟩, -, X8, ⟨Lc8, hQ8, l8, y8, z8⟩, st8⟩ := Jvm.LawKit.callS X7 hx (y := (⟨"com/example/coxt/coxt/output/XmlSerializerWhiteSpaceOrQuoteEscapePinLaw", "digit", "(C)I"⟩ : MethodName)) hown (mvT hZ (hw _ (List.mem_of_getElem? (i := 51) rfl))) (mvT hZ (hw _ (List.mem_of_getElem? (i := 52) rfl))) (mvT hZ (hw _ (List.mem_of_getElem? (i := 14) rfl))) (mvT hZ (hw _ (List.mem_of_getElem? (i := 53) rfl))) (by decide) (backOf (W := 0) (rm10 l Z a0 hw [] (51 : Int32) h0 n0 Z0) hZ (hw _ (List.mem_of_getElem? (i := 53) rfl)) (hw _ (List.mem_of_getElem? (i := 14) rfl)) (by decide) (by decide)) (g := (mkF m 129 #[.val (.ref a1), .val (.int (5 : Int32)), .val (.int (1 : Int32)), .unset, .unset] [(.int (51 : Int32))])) rfl (by rw [hml]; rfl) (argsL := [(.int (51 : Int32))]) (rest := []) (lenOf pd_10 rfl) rfl (by show 2 * 0 + _ ≤ _; exact Nat.le_of_eq rfl) (hb hby d2_129) (fun _ _ => ⟨rfl, g7, (by decide : 0 + 0 ≤ _), (by decide : 0 + 0 ≤ _)⟩)
  dsimp only [Pt.U, Pt.locs, Pt.cells, Pt.slots] at X8 l8 y8 z8 st8 hQ8
  subst l8 y8 z8
  obtain ⟨rfl, N8q, g8⟩ := hQ8
  have N8 := Fr.app N7 N8q
  rw [show F10_0 (51 : Int32) = (3 : Int32) from by decide] at st8
  refine own_go (A := T8.setTop (mkF m 132 #[.val (.ref a1), .val (.int (5 : Int32)), .val (.int (1 : Int32)), .unset, .unset] [(.int (3 : Int32))])) st8 ?_
  refine own_go (A := T8.setTop (mkF m 133 #[.val (.ref a1), .val (.int (5 : Int32)), .val (.int (1 : Int32)), .val (.int (3 : Int32)), .unset] [])) (fun t kt => XS.istoreN X8.here hx rfl (hb hby d2_132) rfl (l' := #[.val (.ref a1), .val (.int (5 : Int32)), .val (.int (1 : Int32)), .val (.int (3 : Int32)), .unset]) rfl kt) ?_
  refine own_go (A := T8.setTop (mkF m 134 #[.val (.ref a1), .val (.int (5 : Int32)), .val (.int (1 : Int32)), .val (.int (3 : Int32)), .unset] [(.int (1 : Int32))])) (fun t kt => XS.iloadN X8.here hx rfl (hb hby d2_133) rfl kt) ?_
  refine own_go (A := T8.setTop (mkF m 137 #[.val (.ref a1), .val (.int (5 : Int32)), .val (.int (1 : Int32)), .val (.int (3 : Int32)), .unset] [])) (fun t kt => XS.ifNo X8.here hx rfl (hb hby d2_134) rfl ((if0 _ _).trans (flt (by decide : ¬ ((1 : Int32) < (0 : Int32)))).1) kt) ?_
  refine own_go (A := T8.setTop (mkF m 138 #[.val (.ref a1), .val (.int (5 : Int32)), .val (.int (1 : Int32)), .val (.int (3 : Int32)), .unset] [(.int (3 : Int32))])) (fun t kt => XS.iloadN X8.here hx rfl (hb hby d2_137) rfl kt) ?_
  refine own_go (A := T8.setTop (mkF m 143 #[.val (.ref a1), .val (.int (5 : Int32)), .val (.int (1 : Int32)), .val (.int (3 : Int32)), .unset] [])) (fun t kt => XS.ifYes X8.here hx rfl (pc0 := 138) (pc' := 143) rfl (hb hby d2_138) rfl ((if0 _ _).trans (flt (by decide : ¬ ((3 : Int32) < (0 : Int32)))).2.1) (by decide) (by decide) kt) ?_
  refine own_go (A := T8.setTop (mkF m 144 #[.val (.ref a1), .val (.int (5 : Int32)), .val (.int (1 : Int32)), .val (.int (3 : Int32)), .unset] [(.int (5 : Int32))])) (fun t kt => XS.iloadN X8.here hx rfl (hb hby d2_143) rfl kt) ?_
  refine own_go (A := T8.setTop (mkF m 145 #[.val (.ref a1), .val (.int (5 : Int32)), .val (.int (1 : Int32)), .val (.int (3 : Int32)), .unset] [(.int (5 : Int32)), (.int (5 : Int32))])) (fun t kt => XS.iconst X8.here hx rfl (hb hby d2_144) kt) ?_
  refine own_go (A := T8.setTop (mkF m 148 #[.val (.ref a1), .val (.int (5 : Int32)), .val (.int (1 : Int32)), .val (.int (3 : Int32)), .unset] [])) (fun t kt => XS.icmpNo X8.here hx rfl (hb hby d2_145) rfl (teq (rfl : (5 : Int32) = (5 : Int32))).2 kt) ?_
  refine own_go (A := T8.setTop (mkF m 150 #[.val (.ref a1), .val (.int (5 : Int32)), .val (.int (1 : Int32)), .val (.int (3 : Int32)), .unset] [(.int (10 : Int32))])) (fun t kt => XS.bipush X8.here hx rfl (hb hby d2_148) kt) ?_
  refine own_go (A := T8.setTop (mkF m 151 #[.val (.ref a1), .val (.int (5 : Int32)), .val (.int (1 : Int32)), .val (.int (3 : Int32)), .unset] [(.int (1 : Int32)), (.int (10 : Int32))])) (fun t kt => XS.iloadN X8.here hx rfl (hb hby d2_150) rfl kt) ?_
  refine own_go (A := T8.setTop (mkF m 152 #[.val (.ref a1), .val (.int (5 : Int32)), .val (.int (1 : Int32)), .val (.int (3 : Int32)), .unset] [(.int (10 : Int32))])) (fun t kt => XS.imul X8.here hx rfl (hb hby d2_151) rfl kt) ?_
  refine own_go (A := T8.setTop (mkF m 153 #[.val (.ref a1), .val (.int (5 : Int32)), .val (.int (1 : Int32)), .val (.int (3 : Int32)), .unset] [(.int (3 : Int32)), (.int (10 : Int32))])) (fun t kt => XS.iloadN X8.here hx rfl (hb hby d2_152) rfl kt) ?_
  refine own_go (A := T8.setTop (mkF m 154 #[.val (.ref a1), .val (.int (5 : Int32)), .val (.int (1 : Int32)), .val (.int (3 : Int32)), .unset] [(.int (13 : Int32))])) (fun t kt => XS.iadd X8.here hx rfl (hb hby d2_153) rfl kt) ?_
  obtain ⟨fs, hr, hrun, hended, hW, hsame⟩ := X8.leave (v := some (.int (13 : Int32))) (fun h => by rw [Bd.returns] at h; cases h)
  exact ⟨_, _, retI X8 hx Bd.returns (hb hby d2_154) hr, hrun, hended, _, _, rfl, ⟨rfl, N8, g8⟩, ⟨_, rfl⟩, hW, hsame.mono (by decide) (by decide)⟩
def Q2_10 (Z : State)  (h0 : Heap) (n0 : Nat) (v : Option Value) (h : Heap) (L : List Loc) : Prop := v = some (.int (10 : Int32)) ∧ Fr n0 L ∧ h = h0
set_option maxRecDepth 65536 in
set_option maxHeartbeats 40000000 in
theorem rm2_10 (l : Launch) (Z : State) (a0 : Array Value) (hw : ∀ d ∈ tables_1, d.before a0 Z = true) (ws : List Jvm.Cond) (a1 : Addr) (gC : Int32) (G3 : Value) (h0 : Heap) (n0 : Nat) (Z0 : n0 ≤ h0.size) (St : own_Str Z h0 a1 [38, 35, 49, 48, 59]) (S_C : Sta Z h0 "java/lang/String" "COMPACT_STRINGS" "Z" (.int gC)) (hg1 : ¬ (gC = (0 : Int32))) (rG3 : G3.isRef = true) (S_F : Sta Z h0 "jdk/internal/util/Preconditions" "SIOOBE_FORMATTER" "Ljava/util/function/BiFunction;" G3) :
    MetFree l (⟨"com/example/coxt/coxt/output/XmlSerializerWhiteSpaceOrQuoteEscapePinLaw", "decode", "(Ljava/lang/String;)I"⟩ : MethodName) (head1 (Jvm.Cond.code (⟨"com/example/coxt/coxt/output/XmlSerializerWhiteSpaceOrQuoteEscapePinLaw", "decode", "(Ljava/lang/String;)I"⟩ : MethodName) method_4_code 5 (some .int) :: ws) ({ frames := 4, cells := 0, slots := 0, locals := 53 } : Room)) (fun a U => a = #[(.ref a1)] ∧ Z.Warmed39 U.vm ∧ U.heap = h0) (fun _ _ _ _ _ => True) (fun _ U o U' => ∃ v L, o = .returned v ∧ Q2_10 Z  h0 n0 v U'.heap L ∧ FrameEnd U o U' L ({ frames := 4, cells := 0, slots := 0, locals := 53 } : Room).cells ({ frames := 4, cells := 0, slots := 0, locals := 53 } : Room).slots) := by
  refine MetFree.of_bodySF (plainFor_of_name pn_2) hisR ?_
  intro p e s m args below meth c s₁ Bd hml0 hP hK
  obtain ⟨rfl, hZ, hh⟩ := hP
  have hx := Bd.exec
  have hby := Bd.bytes
  have hml : c.maxLocals = 5 := hml0
  have hown : s.vm.findClass "com/example/coxt/coxt/output/XmlSerializerWhiteSpaceOrQuoteEscapePinLaw" = some m.cls := findClass_of_methodNamed Bd.named
  have hnm := (name_of_methodNamed Bd.named Bd.method).1
  have X0 : Stand p l e ({ frames := 4, cells := 0, slots := 0, locals := 53 } : Room) s m #[(.ref a1)] below meth c s₁ [] 0 0 := Stand.of_body Bd
  have e0 : s₁.heap = h0 := by rw [← hh, Bd.state]; rfl
  have N0 := Fr.nil n0
  have pre0 : ∀ t, Steps p.tables e below (s₁.setTop (mkF m 0 #[.val (.ref a1), .unset, .unset, .unset, .unset] [])) t → Steps p.tables e below (s₁.setTop (entryFrame m #[(.ref a1)] 5)) t := fun t kt => castTop (ef_2 m a1) kt
  refine own_go (A := s₁.setTop (mkF m 0 #[.val (.ref a1), .unset, .unset, .unset, .unset] [])) pre0 ?_
  obtain ⟨bq, kb, E, FC, FV, cl, Ar, -, Sz', -, H, -⟩ := St
  have Sz : cl.slots.size = (5 : Int32).toNatClampNeg := Sz'
  have Nz : ¬ (5 : Int32) < 0 := by decide
  refine own_go (A := s₁.setTop (mkF m 1 #[.val (.ref a1), .unset, .unset, .unset, .unset] [(.ref a1)])) (fun t kt => XS.aloadN X0.here hx rfl (hb hby d2_0) rfl rfl kt) ?_
  obtain ⟨cq1, kq1, qa1, qb1, qc1⟩ := isOf hZ e0 E
  obtain ⟨_, _, ⟨T1, L1, k1, n1⟩, -, X1, ⟨Lc1, hQ1, l1, y1, z1⟩, st1⟩ := X0.virtualBack hx (y := (⟨"java/lang/String", "length", "()I"⟩ : MethodName)) (z := (⟨"java/lang/String", "length", "()I"⟩ : MethodName)) hown (mvT hZ (hw _ (List.mem_of_getElem? (i := 16) rfl))) (mvT hZ (hw _ (List.mem_of_getElem? (i := 17) rfl))) (notFace_of_selects (args := #[]) (mvT hZ (hw _ (List.mem_of_getElem? (i := 19) rfl)))) (mvT hZ (hw _ (List.mem_of_getElem? (i := 19) rfl))) (mvT hZ (hw _ (List.mem_of_getElem? (i := 18) rfl))) (by decide) (backOf (W := 0) (rm3 l Z a0 hw [] a1 bq cl (5 : Int32) gC h0 n0 Z0 FV Ar Sz Nz E FC S_C hg1) hZ (hw _ (List.mem_of_getElem? (i := 20) rfl)) (hw _ (List.mem_of_getElem? (i := 5) rfl)) (by decide) (by decide)) qa1 qc1 (g := (mkF m 1 #[.val (.ref a1), .unset, .unset, .unset, .unset] [(.ref a1)])) rfl (by rw [hml]; rfl) (Steps.refl _) (argsL := []) (rest := []) (lenOf pd_3 rfl) rfl (by show 2 * 0 + _ ≤ _; exact Nat.le_of_eq rfl) (hb hby d2_1) (fun _ _ => ⟨rfl, e0, (by decide : 0 + 0 ≤ _), (by decide : 0 + 0 ≤ _)⟩)
  dsimp only [Pt.U, Pt.locs, Pt.cells, Pt.slots] at X1 l1 y1 z1 st1 hQ1
  subst l1 y1 z1
  obtain ⟨rfl, N1q, g1⟩ := hQ1
  have N1 := Fr.app N0 N1q
  refine own_go (A := T1.setTop (mkF m 4 #[.val (.ref a1), .unset, .unset, .unset, .unset] [(.int (5 : Int32))])) (fun t kt => st1.trans kt) ?_
  refine own_go (A := T1.setTop (mkF m 5 #[.val (.ref a1), .val (.int (5 : Int32)), .unset, .unset, .unset] [])) (fun t kt => XS.istoreN X1.here hx rfl (hb hby d2_4) rfl (l' := #[.val (.ref a1), .val (.int (5 : Int32)), .unset, .unset, .unset]) rfl kt) ?_
  refine own_go (A := T1.setTop (mkF m 6 #[.val (.ref a1), .val (.int (5 : Int32)), .unset, .unset, .unset] [(.int (5 : Int32))])) (fun t kt => XS.iloadN X1.here hx rfl (hb hby d2_5) rfl kt) ?_
  refine own_go (A := T1.setTop (mkF m 7 #[.val (.ref a1), .val (.int (5 : Int32)), .unset, .unset, .unset] [(.int (4 : Int32)), (.int (5 : Int32))])) (fun t kt => XS.iconst X1.here hx rfl (hb hby d2_6) kt) ?_
  refine own_go (A := T1.setTop (mkF m 10 #[.val (.ref a1), .val (.int (5 : Int32)), .unset, .unset, .unset] [])) (fun t kt => XS.icmpNo X1.here hx rfl (hb hby d2_7) rfl (flt (by decide : ¬ ((5 : Int32) < (4 : Int32)))).1 kt) ?_
  refine own_go (A := T1.setTop (mkF m 11 #[.val (.ref a1), .val (.int (5 : Int32)), .unset, .unset, .unset] [(.int (5 : Int32))])) (fun t kt => XS.iloadN X1.here hx rfl (hb hby d2_10) rfl kt) ?_
  refine own_go (A := T1.setTop (mkF m 13 #[.val (.ref a1), .val (.int (5 : Int32)), .unset, .unset, .unset] [(.int (6 : Int32)), (.int (5 : Int32))])) (fun t kt => XS.bipush X1.here hx rfl (hb hby d2_11) kt) ?_
  refine own_go (A := T1.setTop (mkF m 16 #[.val (.ref a1), .val (.int (5 : Int32)), .unset, .unset, .unset] [])) (fun t kt => XS.icmpNo X1.here hx rfl (hb hby d2_13) rfl (flt (by decide : ¬ ((6 : Int32) < (5 : Int32)))).2.2.1 kt) ?_
  refine own_go (A := T1.setTop (mkF m 17 #[.val (.ref a1), .val (.int (5 : Int32)), .unset, .unset, .unset] [(.ref a1)])) (fun t kt => XS.aloadN X1.here hx rfl (hb hby d2_16) rfl rfl kt) ?_
  refine own_go (A := T1.setTop (mkF m 18 #[.val (.ref a1), .val (.int (5 : Int32)), .unset, .unset, .unset] [(.int (0 : Int32)), (.ref a1)])) (fun t kt => XS.iconst X1.here hx rfl (hb hby d2_17) kt) ?_
  obtain ⟨cq2, kq2, qa2, qb2, qc2⟩ := isOf hZ g1 E
  obtain ⟨_, _, ⟨T2, L2, k2, n2⟩, -, X2, ⟨Lc2, hQ2, l2, y2, z2⟩, st2⟩ := X1.virtualBack hx (y := (⟨"java/lang/String", "charAt", "(I)C"⟩ : MethodName)) (z := (⟨"java/lang/String", "charAt", "(I)C"⟩ : MethodName)) hown (mvT hZ (hw _ (List.mem_of_getElem? (i := 29) rfl))) (mvT hZ (hw _ (List.mem_of_getElem? (i := 30) rfl))) (notFace_of_selects (args := #[]) (mvT hZ (hw _ (List.mem_of_getElem? (i := 32) rfl)))) (mvT hZ (hw _ (List.mem_of_getElem? (i := 32) rfl))) (mvT hZ (hw _ (List.mem_of_getElem? (i := 31) rfl))) (by decide) (backOf (W := 0) (rm5 l Z a0 hw [] a1 (0 : Int32) bq cl (5 : Int32) (38 : Int32) (38 : Int32) gC G3 h0 n0 Z0 E FV FC S_C hg1 rG3 S_F Ar Sz Nz (by decide) (H 0 (by rw [Sz]; decide)) (by decide) (by decide)) hZ (hw _ (List.mem_of_getElem? (i := 33) rfl)) (hw _ (List.mem_of_getElem? (i := 5) rfl)) (by decide) (by decide)) qa2 qc2 (g := (mkF m 18 #[.val (.ref a1), .val (.int (5 : Int32)), .unset, .unset, .unset] [(.int (0 : Int32)), (.ref a1)])) rfl (by rw [hml]; rfl) (Steps.refl _) (argsL := [(.int (0 : Int32))]) (rest := []) (lenOf pd_5 rfl) rfl (by show 2 * 0 + _ ≤ _; exact Nat.le_of_eq rfl) (hb hby d2_18) (fun _ _ => ⟨rfl, g1, (by decide : 0 + 0 ≤ _), (by decide : 0 + 0 ≤ _)⟩)
  dsimp only [Pt.U, Pt.locs, Pt.cells, Pt.slots] at X2 l2 y2 z2 st2 hQ2
  subst l2 y2 z2
  obtain ⟨rfl, N2q, g2⟩ := hQ2
  have N2 := Fr.app N1 N2q
  refine own_go (A := T2.setTop (mkF m 21 #[.val (.ref a1), .val (.int (5 : Int32)), .unset, .unset, .unset] [(.int (38 : Int32))])) (fun t kt => st2.trans kt) ?_
  refine own_go (A := T2.setTop (mkF m 23 #[.val (.ref a1), .val (.int (5 : Int32)), .unset, .unset, .unset] [(.int (38 : Int32)), (.int (38 : Int32))])) (fun t kt => XS.bipush X2.here hx rfl (hb hby d2_21) kt) ?_
  refine own_go (A := T2.setTop (mkF m 26 #[.val (.ref a1), .val (.int (5 : Int32)), .unset, .unset, .unset] [])) (fun t kt => XS.icmpNo X2.here hx rfl (hb hby d2_23) rfl (teq (rfl : (38 : Int32) = (38 : Int32))).2 kt) ?_
  refine own_go (A := T2.setTop (mkF m 27 #[.val (.ref a1), .val (.int (5 : Int32)), .unset, .unset, .unset] [(.ref a1)])) (fun t kt => XS.aloadN X2.here hx rfl (hb hby d2_26) rfl rfl kt) ?_
  refine own_go (A := T2.setTop (mkF m 28 #[.val (.ref a1), .val (.int (5 : Int32)), .unset, .unset, .unset] [(.int (5 : Int32)), (.ref a1)])) (fun t kt => XS.iloadN X2.here hx rfl (hb hby d2_27) rfl kt) ?_
  refine own_go (A := T2.setTop (mkF m 29 #[.val (.ref a1), .val (.int (5 : Int32)), .unset, .unset, .unset] [(.int (1 : Int32)), (.int (5 : Int32)), (.ref a1)])) (fun t kt => XS.iconst X2.here hx rfl (hb hby d2_28) kt) ?_
  refine own_go (A := T2.setTop (mkF m 30 #[.val (.ref a1), .val (.int (5 : Int32)), .unset, .unset, .unset] [(.int (4 : Int32)), (.ref a1)])) (fun t kt => XS.isub X2.here hx rfl (hb hby d2_29) rfl kt) ?_
  obtain ⟨cq3, kq3, qa3, qb3, qc3⟩ := isOf hZ g2 E
  obtain ⟨_, _, ⟨T3, L3, k3, n3⟩, -, X3, ⟨Lc3, hQ3, l3, y3, z3⟩, st3⟩ := X2.virtualBack hx (y := (⟨"java/lang/String", "charAt", "(I)C"⟩ : MethodName)) (z := (⟨"java/lang/String", "charAt", "(I)C"⟩ : MethodName)) hown (mvT hZ (hw _ (List.mem_of_getElem? (i := 29) rfl))) (mvT hZ (hw _ (List.mem_of_getElem? (i := 30) rfl))) (notFace_of_selects (args := #[]) (mvT hZ (hw _ (List.mem_of_getElem? (i := 32) rfl)))) (mvT hZ (hw _ (List.mem_of_getElem? (i := 32) rfl))) (mvT hZ (hw _ (List.mem_of_getElem? (i := 31) rfl))) (by decide) (backOf (W := 0) (rm5 l Z a0 hw [] a1 (4 : Int32) bq cl (5 : Int32) (59 : Int32) (59 : Int32) gC G3 h0 n0 Z0 E FV FC S_C hg1 rG3 S_F Ar Sz Nz (by decide) (H 4 (by rw [Sz]; decide)) (by decide) (by decide)) hZ (hw _ (List.mem_of_getElem? (i := 33) rfl)) (hw _ (List.mem_of_getElem? (i := 5) rfl)) (by decide) (by decide)) qa3 qc3 (g := (mkF m 30 #[.val (.ref a1), .val (.int (5 : Int32)), .unset, .unset, .unset] [(.int (4 : Int32)), (.ref a1)])) rfl (by rw [hml]; rfl) (Steps.refl _) (argsL := [(.int (4 : Int32))]) (rest := []) (lenOf pd_5 rfl) rfl (by show 2 * 0 + _ ≤ _; exact Nat.le_of_eq rfl) (hb hby d2_30) (fun _ _ => ⟨rfl, g2, (by decide : 0 + 0 ≤ _), (by decide : 0 + 0 ≤ _)⟩)
  dsimp only [Pt.U, Pt.locs, Pt.cells, Pt.slots] at X3 l3 y3 z3 st3 hQ3
  subst l3 y3 z3
  obtain ⟨rfl, N3q, g3⟩ := hQ3
  have N3 := Fr.app N2 N3q
  refine own_go (A := T3.setTop (mkF m 33 #[.val (.ref a1), .val (.int (5 : Int32)), .unset, .unset, .unset] [(.int (59 : Int32))])) (fun t kt => st3.trans kt) ?_
  refine own_go (A := T3.setTop (mkF m 35 #[.val (.ref a1), .val (.int (5 : Int32)), .unset, .unset, .unset] [(.int (59 : Int32)), (.int (59 : Int32))])) (fun t kt => XS.bipush X3.here hx rfl (hb hby d2_33) kt) ?_
  refine own_go (A := T3.setTop (mkF m 40 #[.val (.ref a1), .val (.int (5 : Int32)), .unset, .unset, .unset] [])) (fun t kt => XS.icmpYes X3.here hx rfl (pc0 := 35) (pc' := 40) rfl (hb hby d2_35) rfl (teq (rfl : (59 : Int32) = (59 : Int32))).1 (by decide) (by decide) kt) ?_
  refine own_go (A := T3.setTop (mkF m 41 #[.val (.ref a1), .val (.int (5 : Int32)), .unset, .unset, .unset] [(.int (5 : Int32))])) (fun t kt => XS.iloadN X3.here hx rfl (hb hby d2_40) rfl kt) ?_
  refine own_go (A := T3.setTop (mkF m 43 #[.val (.ref a1), .val (.int (5 : Int32)), .unset, .unset, .unset] [(.int (6 : Int32)), (.int (5 : Int32))])) (fun t kt => XS.bipush X3.here hx rfl (hb hby d2_41) kt) ?_
  refine own_go (A := T3.setTop (mkF m 89 #[.val (.ref a1), .val (.int (5 : Int32)), .unset, .unset, .unset] [])) (fun t kt => XS.icmpYes X3.here hx rfl (pc0 := 43) (pc' := 89) rfl (hb hby d2_43) rfl (feq (by decide : ¬ ((5 : Int32) = (6 : Int32)))).2 (by decide) (by decide) kt) ?_
  refine own_go (A := T3.setTop (mkF m 90 #[.val (.ref a1), .val (.int (5 : Int32)), .unset, .unset, .unset] [(.ref a1)])) (fun t kt => XS.aloadN X3.here hx rfl (hb hby d2_89) rfl rfl kt) ?_
  refine own_go (A := T3.setTop (mkF m 91 #[.val (.ref a1), .val (.int (5 : Int32)), .unset, .unset, .unset] [(.int (1 : Int32)), (.ref a1)])) (fun t kt => XS.iconst X3.here hx rfl (hb hby d2_90) kt) ?_
  obtain ⟨cq4, kq4, qa4, qb4, qc4⟩ := isOf hZ g3 E
  obtain ⟨_, _, ⟨T4, L4, k4, n4⟩, -, X4, ⟨Lc4, hQ4, l4, y4, z4⟩, st4⟩ := X3.virtualBack hx (y := (⟨"java/lang/String", "charAt", "(I)C"⟩ : MethodName)) (z := (⟨"java/lang/String", "charAt", "(I)C"⟩ : MethodName)) hown (mvT hZ (hw _ (List.mem_of_getElem? (i := 29) rfl))) (mvT hZ (hw _ (List.mem_of_getElem? (i := 30) rfl))) (notFace_of_selects (args := #[]) (mvT hZ (hw _ (List.mem_of_getElem? (i := 32) rfl)))) (mvT hZ (hw _ (List.mem_of_getElem? (i := 32) rfl))) (mvT hZ (hw _ (List.mem_of_getElem? (i := 31) rfl))) (by decide) (backOf (W := 0) (rm5 l Z a0 hw [] a1 (1 : Int32) bq cl (5 : Int32) (35 : Int32) (35 : Int32) gC G3 h0 n0 Z0 E FV FC S_C hg1 rG3 S_F Ar Sz Nz (by decide) (H 1 (by rw [Sz]; decide)) (by decide) (by decide)) hZ (hw _ (List.mem_of_getElem? (i := 33) rfl)) (hw _ (List.mem_of_getElem? (i := 5) rfl)) (by decide) (by decide)) qa4 qc4 (g := (mkF m 91 #[.val (.ref a1), .val (.int (5 : Int32)), .unset, .unset, .unset] [(.int (1 : Int32)), (.ref a1)])) rfl (by rw [hml]; rfl) (Steps.refl _) (argsL := [(.int (1 : Int32))]) (rest := []) (lenOf pd_5 rfl) rfl (by show 2 * 0 + _ ≤ _; exact Nat.le_of_eq rfl) (hb hby d2_91) (fun _ _ => ⟨rfl, g3, (by decide : 0 + 0 ≤ _), (by decide : 0 + 0 ≤ _)⟩)
  dsimp only [Pt.U, Pt.locs, Pt.cells, Pt.slots] at X4 l4 y4 z4 st4 hQ4
  subst l4 y4 z4
  obtain ⟨rfl, N4q, g4⟩ := hQ4
  have N4 := Fr.app N3 N4q
  refine own_go (A := T4.setTop (mkF m 94 #[.val (.ref a1), .val (.int (5 : Int32)), .unset, .unset, .unset] [(.int (35 : Int32))])) (fun t kt => st4.trans kt) ?_
  refine own_go (A := T4.setTop (mkF m 96 #[.val (.ref a1), .val (.int (5 : Int32)), .unset, .unset, .unset] [(.int (35 : Int32)), (.int (35 : Int32))])) (fun t kt => XS.bipush X4.here hx rfl (hb hby d2_94) kt) ?_
  refine own_go (A := T4.setTop (mkF m 101 #[.val (.ref a1), .val (.int (5 : Int32)), .unset, .unset, .unset] [])) (fun t kt => XS.icmpYes X4.here hx rfl (pc0 := 96) (pc' := 101) rfl (hb hby d2_96) rfl (teq (rfl : (35 : Int32) = (35 : Int32))).1 (by decide) (by decide) kt) ?_
  refine own_go (A := T4.setTop (mkF m 102 #[.val (.ref a1), .val (.int (5 : Int32)), .unset, .unset, .unset] [(.int (5 : Int32))])) (fun t kt => XS.iloadN X4.here hx rfl (hb hby d2_101) rfl kt) ?_
  refine own_go (A := T4.setTop (mkF m 103 #[.val (.ref a1), .val (.int (5 : Int32)), .unset, .unset, .unset] [(.int (4 : Int32)), (.int (5 : Int32))])) (fun t kt => XS.iconst X4.here hx rfl (hb hby d2_102) kt) ?_
  refine own_go (A := T4.setTop (mkF m 115 #[.val (.ref a1), .val (.int (5 : Int32)), .unset, .unset, .unset] [])) (fun t kt => XS.icmpYes X4.here hx rfl (pc0 := 103) (pc' := 115) rfl (hb hby d2_103) rfl (feq (by decide : ¬ ((5 : Int32) = (4 : Int32)))).2 (by decide) (by decide) kt) ?_
  refine own_go (A := T4.setTop (mkF m 116 #[.val (.ref a1), .val (.int (5 : Int32)), .unset, .unset, .unset] [(.ref a1)])) (fun t kt => XS.aloadN X4.here hx rfl (hb hby d2_115) rfl rfl kt) ?_
  refine own_go (A := T4.setTop (mkF m 117 #[.val (.ref a1), .val (.int (5 : Int32)), .unset, .unset, .unset] [(.int (2 : Int32)), (.ref a1)])) (fun t kt => XS.iconst X4.here hx rfl (hb hby d2_116) kt) ?_
  obtain ⟨cq5, kq5, qa5, qb5, qc5⟩ := isOf hZ g4 E
  obtain ⟨_, _, ⟨T5, L5, k5, n5⟩, -, X5, ⟨Lc5, hQ5, l5, y5, z5⟩, st5⟩ := X4.virtualBack hx (y := (⟨"java/lang/String", "charAt", "(I)C"⟩ : MethodName)) (z := (⟨"java/lang/String", "charAt", "(I)C"⟩ : MethodName)) hown (mvT hZ (hw _ (List.mem_of_getElem? (i := 29) rfl))) (mvT hZ (hw _ (List.mem_of_getElem? (i := 30) rfl))) (notFace_of_selects (args := #[]) (mvT hZ (hw _ (List.mem_of_getElem? (i := 32) rfl)))) (mvT hZ (hw _ (List.mem_of_getElem? (i := 32) rfl))) (mvT hZ (hw _ (List.mem_of_getElem? (i := 31) rfl))) (by decide) (backOf (W := 0) (rm5 l Z a0 hw [] a1 (2 : Int32) bq cl (5 : Int32) (49 : Int32) (49 : Int32) gC G3 h0 n0 Z0 E FV FC S_C hg1 rG3 S_F Ar Sz Nz (by decide) (H 2 (by rw [Sz]; decide)) (by decide) (by decide)) hZ (hw _ (List.mem_of_getElem? (i := 33) rfl)) (hw _ (List.mem_of_getElem? (i := 5) rfl)) (by decide) (by decide)) qa5 qc5 (g := (mkF m 117 #[.val (.ref a1), .val (.int (5 : Int32)), .unset, .unset, .unset] [(.int (2 : Int32)), (.ref a1)])) rfl (by rw [hml]; rfl) (Steps.refl _) (argsL := [(.int (2 : Int32))]) (rest := []) (lenOf pd_5 rfl) rfl (by show 2 * 0 + _ ≤ _; exact Nat.le_of_eq rfl) (hb hby d2_117) (fun _ _ => ⟨rfl, g4, (by decide : 0 + 0 ≤ _), (by decide : 0 + 0 ≤ _)⟩)
  dsimp only [Pt.U, Pt.locs, Pt.cells, Pt.slots] at X5 l5 y5 z5 st5 hQ5
  subst l5 y5 z5
  obtain ⟨rfl, N5q, g5⟩ := hQ5
  have N5 := Fr.app N4 N5q
  refine own_go (A := T5.setTop (mkF m 120 #[.val (.ref a1), .val (.int (5 : Int32)), .unset, .unset, .unset] [(.int (49 : Int32))])) (fun t kt => st5.trans kt) ?_
  obtain ⟨_, _, ⟨T6, L6, k6, n6⟩, -, X6, ⟨Lc6, hQ6, l6, y6, z6⟩, st6⟩ := Jvm.LawKit.callS X5 hx (y := (⟨"com/example/coxt/coxt/output/XmlSerializerWhiteSpaceOrQuoteEscapePinLaw", "digit", "(C)I"⟩ : MethodName)) hown (mvT hZ (hw _ (List.mem_of_getElem? (i := 51) rfl))) (mvT hZ (hw _ (List.mem_of_getElem? (i := 52) rfl))) (mvT hZ (hw _ (List.mem_of_getElem? (i := 14) rfl))) (mvT hZ (hw _ (List.mem_of_getElem? (i := 53) rfl))) (by decide) (backOf (W := 0) (rm10 l Z a0 hw [] (49 : Int32) h0 n0 Z0) hZ (hw _ (List.mem_of_getElem? (i := 53) rfl)) (hw _ (List.mem_of_getElem? (i := 14) rfl)) (by decide) (by decide)) (g := (mkF m 120 #[.val (.ref a1), .val (.int (5 : Int32)), .unset, .unset, .unset] [(.int (49 : Int32))])) rfl (by rw [hml]; rfl) (argsL := [(.int (49 : Int32))]) (rest := []) (lenOf pd_10 rfl) rfl (by show 2 * 0 + _ ≤ _; exact Nat.le_of_eq rfl) (hb hby d2_120) (fun _ _ => ⟨rfl, g5, (by decide : 0 + 0 ≤ _), (by decide : 0 + 0 ≤ _)⟩)
  dsimp only [Pt.U, Pt.locs, Pt.cells, Pt.slots] at X6 l6 y6 z6 st6 hQ6
  subst l6 y6 z6
  obtain ⟨rfl, N6q, g6⟩ := hQ6
  have N6 := Fr.app N5 N6q
  rw [show F10_0 (49 : Int32) = (1 : Int32) from by decide] at st6
  refine own_go (A := T6.setTop (mkF m 123 #[.val (.ref a1), .val (.int (5 : Int32)), .unset, .unset, .unset] [(.int (1 : Int32))])) st6 ?_
  refine own_go (A := T6.setTop (mkF m 124 #[.val (.ref a1), .val (.int (5 : Int32)), .val (.int (1 : Int32)), .unset, .unset] [])) (fun t kt => XS.istoreN X6.here hx rfl (hb hby d2_123) rfl (l' := #[.val (.ref a1), .val (.int (5 : Int32)), .val (.int (1 : Int32)), .unset, .unset]) rfl kt) ?_
  refine own_go (A := T6.setTop (mkF m 125 #[.val (.ref a1), .val (.int (5 : Int32)), .val (.int (1 : Int32)), .unset, .unset] [(.ref a1)])) (fun t kt => XS.aloadN X6.here hx rfl (hb hby d2_124) rfl rfl kt) ?_
  refine own_go (A := T6.setTop (mkF m 126 #[.val (.ref a1), .val (.int (5 : Int32)), .val (.int (1 : Int32)), .unset, .unset] [(.int (3 : Int32)), (.ref a1)])) (fun t kt => XS.iconst X6.here hx rfl (hb hby d2_125) kt) ?_
  obtain ⟨cq7, kq7, qa7, qb7, qc7⟩ := isOf hZ g6 E
  obtain ⟨_, _, ⟨T7, L7, k7, n7⟩, -, X7, ⟨Lc7, hQ7, l7, y7, z7⟩, st7⟩ := X6.virtualBack hx (y := (⟨"java/lang/String", "charAt", "(I)C"⟩ : MethodName)) (z := (⟨"java/lang/String", "charAt", "(I)C"⟩ : MethodName)) hown (mvT hZ (hw _ (List.mem_of_getElem? (i := 29) rfl))) (mvT hZ (hw _ (List.mem_of_getElem? (i := 30) rfl))) (notFace_of_selects (args := #[]) (mvT hZ (hw _ (List.mem_of_getElem? (i := 32) rfl)))) (mvT hZ (hw _ (List.mem_of_getElem? (i := 32) rfl))) (mvT hZ (hw _ (List.mem_of_getElem? (i := 31) rfl))) (by decide) (backOf (W := 0) (rm5 l Z a0 hw [] a1 (3 : Int32) bq cl (5 : Int32) (48 : Int32) (48 : Int32) gC G3 h0 n0 Z0 E FV FC S_C hg1 rG3 S_F Ar Sz Nz (by decide) (H 3 (by rw [Sz]; decide)) (by decide) (by decide)) hZ (hw _ (List.mem_of_getElem? (i := 33) rfl)) (hw _ (List.mem_of_getElem? (i := 5) rfl)) (by decide) (by decide)) qa7 qc7 (g := (mkF m 126 #[.val (.ref a1), .val (.int (5 : Int32)), .val (.int (1 : Int32)), .unset, .unset] [(.int (3 : Int32)), (.ref a1)])) rfl (by rw [hml]; rfl) (Steps.refl _) (argsL := [(.int (3 : Int32))]) (rest := []) (lenOf pd_5 rfl) rfl (by show 2 * 0 + _ ≤ _; exact Nat.le_of_eq rfl) (hb hby d2_126) (fun _ _ => ⟨rfl, g6, (by decide : 0 + 0 ≤ _), (by decide : 0 + 0 ≤ _)⟩)
  dsimp only [Pt.U, Pt.locs, Pt.cells, Pt.slots] at X7 l7 y7 z7 st7 hQ7
  subst l7 y7 z7
  obtain ⟨rfl, N7q, g7⟩ := hQ7
  have N7 := Fr.app N6 N7q
  refine own_go (A := T7.setTop (mkF m 129 #[.val (.ref a1), .val (.int (5 : Int32)), .val (.int (1 : Int32)), .unset, .unset] [(.int (48 : Int32))])) (fun t kt => st7.trans kt) ?_
  obtain ⟨_, _, ⟨T8, L8, k8, n8⟩, -, X8, ⟨Lc8, hQ8, l8, y8, z8⟩, st8⟩ := Jvm.LawKit.callS X7 hx (y := (⟨"com/example/coxt/coxt/output/XmlSerializerWhiteSpaceOrQuoteEscapePinLaw", "digit", "(C)I"⟩ : MethodName)) hown (mvT hZ (hw _ (List.mem_of_getElem? (i := 51) rfl))) (mvT hZ (hw _ (List.mem_of_getElem? (i := 52) rfl))) (mvT hZ (hw _ (List.mem_of_getElem? (i := 14) rfl))) (mvT hZ (hw _ (List.mem_of_getElem? (i := 53) rfl))) (by decide) (backOf (W := 0) (rm10 l Z a0 hw [] (48 : Int32) h0 n0 Z0) hZ (hw _ (List.mem_of_getElem? (i := 53) rfl)) (hw _ (List.mem_of_getElem? (i := 14) rfl)) (by decide) (by decide)) (g := (mkF m 129 #[.val (.ref a1), .val (.int (5 : Int32)), .val (.int (1 : Int32)), .unset, .unset] [(.int (48 : Int32))])) rfl (by rw [hml]; rfl) (argsL := [(.int (48 : Int32))]) (rest := []) (lenOf pd_10 rfl) rfl (by show 2 * 0 + _ ≤ _; exact Nat.le_of_eq rfl) (hb hby d2_129) (fun _ _ => ⟨rfl, g7, (by decide : 0 + 0 ≤ _), (by decide : 0 + 0 ≤ _)⟩)
  dsimp only [Pt.U, Pt.locs, Pt.cells, Pt.slots] at X8 l8 y8 z8 st8 hQ8
  subst l8 y8 z8
  obtain ⟨rfl, N8q, g8⟩ := hQ8
  have N8 := Fr.app N7 N8q
  rw [show F10_0 (48 : Int32) = (0 : Int32) from by decide] at st8
  refine own_go (A := T8.setTop (mkF m 132 #[.val (.ref a1), .val (.int (5 : Int32)), .val (.int (1 : Int32)), .unset, .unset] [(.int (0 : Int32))])) st8 ?_
  refine own_go (A := T8.setTop (mkF m 133 #[.val (.ref a1), .val (.int (5 : Int32)), .val (.int (1 : Int32)), .val (.int (0 : Int32)), .unset] [])) (fun t kt => XS.istoreN X8.here hx rfl (hb hby d2_132) rfl (l' := #[.val (.ref a1), .val (.int (5 : Int32)), .val (.int (1 : Int32)), .val (.int (0 : Int32)), .unset]) rfl kt) ?_
  refine own_go (A := T8.setTop (mkF m 134 #[.val (.ref a1), .val (.int (5 : Int32)), .val (.int (1 : Int32)), .val (.int (0 : Int32)), .unset] [(.int (1 : Int32))])) (fun t kt => XS.iloadN X8.here hx rfl (hb hby d2_133) rfl kt) ?_
  refine own_go (A := T8.setTop (mkF m 137 #[.val (.ref a1), .val (.int (5 : Int32)), .val (.int (1 : Int32)), .val (.int (0 : Int32)), .unset] [])) (fun t kt => XS.ifNo X8.here hx rfl (hb hby d2_134) rfl ((if0 _ _).trans (flt (by decide : ¬ ((1 : Int32) < (0 : Int32)))).1) kt) ?_
  refine own_go (A := T8.setTop (mkF m 138 #[.val (.ref a1), .val (.int (5 : Int32)), .val (.int (1 : Int32)), .val (.int (0 : Int32)), .unset] [(.int (0 : Int32))])) (fun t kt => XS.iloadN X8.here hx rfl (hb hby d2_137) rfl kt) ?_
  refine own_go (A := T8.setTop (mkF m 143 #[.val (.ref a1), .val (.int (5 : Int32)), .val (.int (1 : Int32)), .val (.int (0 : Int32)), .unset] [])) (fun t kt => XS.ifYes X8.here hx rfl (pc0 := 138) (pc' := 143) rfl (hb hby d2_138) rfl ((if0 _ _).trans (flt (by decide : ¬ ((0 : Int32) < (0 : Int32)))).2.1) (by decide) (by decide) kt) ?_
  refine own_go (A := T8.setTop (mkF m 144 #[.val (.ref a1), .val (.int (5 : Int32)), .val (.int (1 : Int32)), .val (.int (0 : Int32)), .unset] [(.int (5 : Int32))])) (fun t kt => XS.iloadN X8.here hx rfl (hb hby d2_143) rfl kt) ?_
  refine own_go (A := T8.setTop (mkF m 145 #[.val (.ref a1), .val (.int (5 : Int32)), .val (.int (1 : Int32)), .val (.int (0 : Int32)), .unset] [(.int (5 : Int32)), (.int (5 : Int32))])) (fun t kt => XS.iconst X8.here hx rfl (hb hby d2_144) kt) ?_
  refine own_go (A := T8.setTop (mkF m 148 #[.val (.ref a1), .val (.int (5 : Int32)), .val (.int (1 : Int32)), .val (.int (0 : Int32)), .unset] [])) (fun t kt => XS.icmpNo X8.here hx rfl (hb hby d2_145) rfl (teq (rfl : (5 : Int32) = (5 : Int32))).2 kt) ?_
  refine own_go (A := T8.setTop (mkF m 150 #[.val (.ref a1), .val (.int (5 : Int32)), .val (.int (1 : Int32)), .val (.int (0 : Int32)), .unset] [(.int (10 : Int32))])) (fun t kt => XS.bipush X8.here hx rfl (hb hby d2_148) kt) ?_
  refine own_go (A := T8.setTop (mkF m 151 #[.val (.ref a1), .val (.int (5 : Int32)), .val (.int (1 : Int32)), .val (.int (0 : Int32)), .unset] [(.int (1 : Int32)), (.int (10 : Int32))])) (fun t kt => XS.iloadN X8.here hx rfl (hb hby d2_150) rfl kt) ?_
  refine own_go (A := T8.setTop (mkF m 152 #[.val (.ref a1), .val (.int (5 : Int32)), .val (.int (1 : Int32)), .val (.int (0 : Int32)), .unset] [(.int (10 : Int32))])) (fun t kt => XS.imul X8.here hx rfl (hb hby d2_151) rfl kt) ?_
  refine own_go (A := T8.setTop (mkF m 153 #[.val (.ref a1), .val (.int (5 : Int32)), .val (.int (1 : Int32)), .val (.int (0 : Int32)), .unset] [(.int (0 : Int32)), (.int (10 : Int32))])) (fun t kt => XS.iloadN X8.here hx rfl (hb hby d2_152) rfl kt) ?_
  refine own_go (A := T8.setTop (mkF m 154 #[.val (.ref a1), .val (.int (5 : Int32)), .val (.int (1 : Int32)), .val (.int (0 : Int32)), .unset] [(.int (10 : Int32))])) (fun t kt => XS.iadd X8.here hx rfl (hb hby d2_153) rfl kt) ?_
  obtain ⟨fs, hr, hrun, hended, hW, hsame⟩ := X8.leave (v := some (.int (10 : Int32))) (fun h => by rw [Bd.returns] at h; cases h)
  exact ⟨_, _, retI X8 hx Bd.returns (hb hby d2_154) hr, hrun, hended, _, _, rfl, ⟨rfl, N8, g8⟩, ⟨_, rfl⟩, hW, hsame.mono (by decide) (by decide)⟩
def Q2_9 (Z : State)  (h0 : Heap) (n0 : Nat) (v : Option Value) (h : Heap) (L : List Loc) : Prop := v = some (.int (9 : Int32)) ∧ Fr n0 L ∧ h = h0
set_option maxRecDepth 65536 in
set_option maxHeartbeats 40000000 in
theorem rm2_9 (l : Launch) (Z : State) (a0 : Array Value) (hw : ∀ d ∈ tables_1, d.before a0 Z = true) (ws : List Jvm.Cond) (a1 : Addr) (gC : Int32) (G3 : Value) (h0 : Heap) (n0 : Nat) (Z0 : n0 ≤ h0.size) (St : own_Str Z h0 a1 [38, 35, 57, 59]) (S_C : Sta Z h0 "java/lang/String" "COMPACT_STRINGS" "Z" (.int gC)) (hg1 : ¬ (gC = (0 : Int32))) (rG3 : G3.isRef = true) (S_F : Sta Z h0 "jdk/internal/util/Preconditions" "SIOOBE_FORMATTER" "Ljava/util/function/BiFunction;" G3) :
    MetFree l (⟨"com/example/coxt/coxt/output/XmlSerializerWhiteSpaceOrQuoteEscapePinLaw", "decode", "(Ljava/lang/String;)I"⟩ : MethodName) (head1 (Jvm.Cond.code (⟨"com/example/coxt/coxt/output/XmlSerializerWhiteSpaceOrQuoteEscapePinLaw", "decode", "(Ljava/lang/String;)I"⟩ : MethodName) method_4_code 5 (some .int) :: ws) ({ frames := 4, cells := 0, slots := 0, locals := 53 } : Room)) (fun a U => a = #[(.ref a1)] ∧ Z.Warmed39 U.vm ∧ U.heap = h0) (fun _ _ _ _ _ => True) (fun _ U o U' => ∃ v L, o = .returned v ∧ Q2_9 Z  h0 n0 v U'.heap L ∧ FrameEnd U o U' L ({ frames := 4, cells := 0, slots := 0, locals := 53 } : Room).cells ({ frames := 4, cells := 0, slots := 0, locals := 53 } : Room).slots) := by
  refine MetFree.of_bodySF (plainFor_of_name pn_2) hisR ?_
  intro p e s m args below meth c s₁ Bd hml0 hP hK
  obtain ⟨rfl, hZ, hh⟩ := hP
  have hx := Bd.exec
  have hby := Bd.bytes
  have hml : c.maxLocals = 5 := hml0
  have hown : s.vm.findClass "com/example/coxt/coxt/output/XmlSerializerWhiteSpaceOrQuoteEscapePinLaw" = some m.cls := findClass_of_methodNamed Bd.named
  have hnm := (name_of_methodNamed Bd.named Bd.method).1
  have X0 : Stand p l e ({ frames := 4, cells := 0, slots := 0, locals := 53 } : Room) s m #[(.ref a1)] below meth c s₁ [] 0 0 := Stand.of_body Bd
  have e0 : s₁.heap = h0 := by rw [← hh, Bd.state]; rfl
  have N0 := Fr.nil n0
  have pre0 : ∀ t, Steps p.tables e below (s₁.setTop (mkF m 0 #[.val (.ref a1), .unset, .unset, .unset, .unset] [])) t → Steps p.tables e below (s₁.setTop (entryFrame m #[(.ref a1)] 5)) t := fun t kt => castTop (ef_2 m a1) kt
  refine own_go (A := s₁.setTop (mkF m 0 #[.val (.ref a1), .unset, .unset, .unset, .unset] [])) pre0 ?_
  obtain ⟨bq, kb, E, FC, FV, cl, Ar, -, Sz', -, H, -⟩ := St
  have Sz : cl.slots.size = (4 : Int32).toNatClampNeg := Sz'
  have Nz : ¬ (4 : Int32) < 0 := by decide
  refine own_go (A := s₁.setTop (mkF m 1 #[.val (.ref a1), .unset, .unset, .unset, .unset] [(.ref a1)])) (fun t kt => XS.aloadN X0.here hx rfl (hb hby d2_0) rfl rfl kt) ?_
  obtain ⟨cq1, kq1, qa1, qb1, qc1⟩ := isOf hZ e0 E
  obtain ⟨_, _, ⟨T1, L1, k1, n1⟩, -, X1, ⟨Lc1, hQ1, l1, y1, z1⟩, st1⟩ := X0.virtualBack hx (y := (⟨"java/lang/String", "length", "()I"⟩ : MethodName)) (z := (⟨"java/lang/String", "length", "()I"⟩ : MethodName)) hown (mvT hZ (hw _ (List.mem_of_getElem? (i := 16) rfl))) (mvT hZ (hw _ (List.mem_of_getElem? (i := 17) rfl))) (notFace_of_selects (args := #[]) (mvT hZ (hw _ (List.mem_of_getElem? (i := 19) rfl)))) (mvT hZ (hw _ (List.mem_of_getElem? (i := 19) rfl))) (mvT hZ (hw _ (List.mem_of_getElem? (i := 18) rfl))) (by decide) (backOf (W := 0) (rm3 l Z a0 hw [] a1 bq cl (4 : Int32) gC h0 n0 Z0 FV Ar Sz Nz E FC S_C hg1) hZ (hw _ (List.mem_of_getElem? (i := 20) rfl)) (hw _ (List.mem_of_getElem? (i := 5) rfl)) (by decide) (by decide)) qa1 qc1 (g := (mkF m 1 #[.val (.ref a1), .unset, .unset, .unset, .unset] [(.ref a1)])) rfl (by rw [hml]; rfl) (Steps.refl _) (argsL := []) (rest := []) (lenOf pd_3 rfl) rfl (by show 2 * 0 + _ ≤ _; exact Nat.le_of_eq rfl) (hb hby d2_1) (fun _ _ => ⟨rfl, e0, (by decide : 0 + 0 ≤ _), (by decide : 0 + 0 ≤ _)⟩)
  dsimp only [Pt.U, Pt.locs, Pt.cells, Pt.slots] at X1 l1 y1 z1 st1 hQ1
  subst l1 y1 z1
  obtain ⟨rfl, N1q, g1⟩ := hQ1
  have N1 := Fr.app N0 N1q
  refine own_go (A := T1.setTop (mkF m 4 #[.val (.ref a1), .unset, .unset, .unset, .unset] [(.int (4 : Int32))])) (fun t kt => st1.trans kt) ?_
  refine own_go (A := T1.setTop (mkF m 5 #[.val (.ref a1), .val (.int (4 : Int32)), .unset, .unset, .unset] [])) (fun t kt => XS.istoreN X1.here hx rfl (hb hby d2_4) rfl (l' := #[.val (.ref a1), .val (.int (4 : Int32)), .unset, .unset, .unset]) rfl kt) ?_
  refine own_go (A := T1.setTop (mkF m 6 #[.val (.ref a1), .val (.int (4 : Int32)), .unset, .unset, .unset] [(.int (4 : Int32))])) (fun t kt => XS.iloadN X1.here hx rfl (hb hby d2_5) rfl kt) ?_
  refine own_go (A := T1.setTop (mkF m 7 #[.val (.ref a1), .val (.int (4 : Int32)), .unset, .unset, .unset] [(.int (4 : Int32)), (.int (4 : Int32))])) (fun t kt => XS.iconst X1.here hx rfl (hb hby d2_6) kt) ?_
  refine own_go (A := T1.setTop (mkF m 10 #[.val (.ref a1), .val (.int (4 : Int32)), .unset, .unset, .unset] [])) (fun t kt => XS.icmpNo X1.here hx rfl (hb hby d2_7) rfl (flt (by decide : ¬ ((4 : Int32) < (4 : Int32)))).1 kt) ?_
  refine own_go (A := T1.setTop (mkF m 11 #[.val (.ref a1), .val (.int (4 : Int32)), .unset, .unset, .unset] [(.int (4 : Int32))])) (fun t kt => XS.iloadN X1.here hx rfl (hb hby d2_10) rfl kt) ?_
  refine own_go (A := T1.setTop (mkF m 13 #[.val (.ref a1), .val (.int (4 : Int32)), .unset, .unset, .unset] [(.int (6 : Int32)), (.int (4 : Int32))])) (fun t kt => XS.bipush X1.here hx rfl (hb hby d2_11) kt) ?_
  refine own_go (A := T1.setTop (mkF m 16 #[.val (.ref a1), .val (.int (4 : Int32)), .unset, .unset, .unset] [])) (fun t kt => XS.icmpNo X1.here hx rfl (hb hby d2_13) rfl (flt (by decide : ¬ ((6 : Int32) < (4 : Int32)))).2.2.1 kt) ?_
  refine own_go (A := T1.setTop (mkF m 17 #[.val (.ref a1), .val (.int (4 : Int32)), .unset, .unset, .unset] [(.ref a1)])) (fun t kt => XS.aloadN X1.here hx rfl (hb hby d2_16) rfl rfl kt) ?_
  refine own_go (A := T1.setTop (mkF m 18 #[.val (.ref a1), .val (.int (4 : Int32)), .unset, .unset, .unset] [(.int (0 : Int32)), (.ref a1)])) (fun t kt => XS.iconst X1.here hx rfl (hb hby d2_17) kt) ?_
  obtain ⟨cq2, kq2, qa2, qb2, qc2⟩ := isOf hZ g1 E
  obtain ⟨_, _, ⟨T2, L2, k2, n2⟩, -, X2, ⟨Lc2, hQ2, l2, y2, z2⟩, st2⟩ := X1.virtualBack hx (y := (⟨"java/lang/String", "charAt", "(I)C"⟩ : MethodName)) (z := (⟨"java/lang/String", "charAt", "(I)C"⟩ : MethodName)) hown (mvT hZ (hw _ (List.mem_of_getElem? (i := 29) rfl))) (mvT hZ (hw _ (List.mem_of_getElem? (i := 30) rfl))) (notFace_of_selects (args := #[]) (mvT hZ (hw _ (List.mem_of_getElem? (i := 32) rfl)))) (mvT hZ (hw _ (List.mem_of_getElem? (i := 32) rfl))) (mvT hZ (hw _ (List.mem_of_getElem? (i := 31) rfl))) (by decide) (backOf (W := 0) (rm5 l Z a0 hw [] a1 (0 : Int32) bq cl (4 : Int32) (38 : Int32) (38 : Int32) gC G3 h0 n0 Z0 E FV FC S_C hg1 rG3 S_F Ar Sz Nz (by decide) (H 0 (by rw [Sz]; decide)) (by decide) (by decide)) hZ (hw _ (List.mem_of_getElem? (i := 33) rfl)) (hw _ (List.mem_of_getElem? (i := 5) rfl)) (by decide) (by decide)) qa2 qc2 (g := (mkF m 18 #[.val (.ref a1), .val (.int (4 : Int32)), .unset, .unset, .unset] [(.int (0 : Int32)), (.ref a1)])) rfl (by rw [hml]; rfl) (Steps.refl _) (argsL := [(.int (0 : Int32))]) (rest := []) (lenOf pd_5 rfl) rfl (by show 2 * 0 + _ ≤ _; exact Nat.le_of_eq rfl) (hb hby d2_18) (fun _ _ => ⟨rfl, g1, (by decide : 0 + 0 ≤ _), (by decide : 0 + 0 ≤ _)⟩)
  dsimp only [Pt.U, Pt.locs, Pt.cells, Pt.slots] at X2 l2 y2 z2 st2 hQ2
  subst l2 y2 z2
  obtain ⟨rfl, N2q, g2⟩ := hQ2
  have N2 := Fr.app N1 N2q
  refine own_go (A := T2.setTop (mkF m 21 #[.val (.ref a1), .val (.int (4 : Int32)), .unset, .unset, .unset] [(.int (38 : Int32))])) (fun t kt => st2.trans kt) ?_
  refine own_go (A := T2.setTop (mkF m 23 #[.val (.ref a1), .val (.int (4 : Int32)), .unset, .unset, .unset] [(.int (38 : Int32)), (.int (38 : Int32))])) (fun t kt => XS.bipush X2.here hx rfl (hb hby d2_21) kt) ?_
  refine own_go (A := T2.setTop (mkF m 26 #[.val (.ref a1), .val (.int (4 : Int32)), .unset, .unset, .unset] [])) (fun t kt => XS.icmpNo X2.here hx rfl (hb hby d2_23) rfl (teq (rfl : (38 : Int32) = (38 : Int32))).2 kt) ?_
  refine own_go (A := T2.setTop (mkF m 27 #[.val (.ref a1), .val (.int (4 : Int32)), .unset, .unset, .unset] [(.ref a1)])) (fun t kt => XS.aloadN X2.here hx rfl (hb hby d2_26) rfl rfl kt) ?_
  refine own_go (A := T2.setTop (mkF m 28 #[.val (.ref a1), .val (.int (4 : Int32)), .unset, .unset, .unset] [(.int (4 : Int32)), (.ref a1)])) (fun t kt => XS.iloadN X2.here hx rfl (hb hby d2_27) rfl kt) ?_
  refine own_go (A := T2.setTop (mkF m 29 #[.val (.ref a1), .val (.int (4 : Int32)), .unset, .unset, .unset] [(.int (1 : Int32)), (.int (4 : Int32)), (.ref a1)])) (fun t kt => XS.iconst X2.here hx rfl (hb hby d2_28) kt) ?_
  refine own_go (A := T2.setTop (mkF m 30 #[.val (.ref a1), .val (.int (4 : Int32)), .unset, .unset, .unset] [(.int (3 : Int32)), (.ref a1)])) (fun t kt => XS.isub X2.here hx rfl (hb hby d2_29) rfl kt) ?_
  obtain ⟨cq3, kq3, qa3, qb3, qc3⟩ := isOf hZ g2 E
  obtain ⟨_, _, ⟨T3, L3, k3, n3⟩, -, X3, ⟨Lc3, hQ3, l3, y3, z3⟩, st3⟩ := X2.virtualBack hx (y := (⟨"java/lang/String", "charAt", "(I)C"⟩ : MethodName)) (z := (⟨"java/lang/String", "charAt", "(I)C"⟩ : MethodName)) hown (mvT hZ (hw _ (List.mem_of_getElem? (i := 29) rfl))) (mvT hZ (hw _ (List.mem_of_getElem? (i := 30) rfl))) (notFace_of_selects (args := #[]) (mvT hZ (hw _ (List.mem_of_getElem? (i := 32) rfl)))) (mvT hZ (hw _ (List.mem_of_getElem? (i := 32) rfl))) (mvT hZ (hw _ (List.mem_of_getElem? (i := 31) rfl))) (by decide) (backOf (W := 0) (rm5 l Z a0 hw [] a1 (3 : Int32) bq cl (4 : Int32) (59 : Int32) (59 : Int32) gC G3 h0 n0 Z0 E FV FC S_C hg1 rG3 S_F Ar Sz Nz (by decide) (H 3 (by rw [Sz]; decide)) (by decide) (by decide)) hZ (hw _ (List.mem_of_getElem? (i := 33) rfl)) (hw _ (List.mem_of_getElem? (i := 5) rfl)) (by decide) (by decide)) qa3 qc3 (g := (mkF m 30 #[.val (.ref a1), .val (.int (4 : Int32)), .unset, .unset, .unset] [(.int (3 : Int32)), (.ref a1)])) rfl (by rw [hml]; rfl) (Steps.refl _) (argsL := [(.int (3 : Int32))]) (rest := []) (lenOf pd_5 rfl) rfl (by show 2 * 0 + _ ≤ _; exact Nat.le_of_eq rfl) (hb hby d2_30) (fun _ _ => ⟨rfl, g2, (by decide : 0 + 0 ≤ _), (by decide : 0 + 0 ≤ _)⟩)
  dsimp only [Pt.U, Pt.locs, Pt.cells, Pt.slots] at X3 l3 y3 z3 st3 hQ3
  subst l3 y3 z3
  obtain ⟨rfl, N3q, g3⟩ := hQ3
  have N3 := Fr.app N2 N3q
  refine own_go (A := T3.setTop (mkF m 33 #[.val (.ref a1), .val (.int (4 : Int32)), .unset, .unset, .unset] [(.int (59 : Int32))])) (fun t kt => st3.trans kt) ?_
  refine own_go (A := T3.setTop (mkF m 35 #[.val (.ref a1), .val (.int (4 : Int32)), .unset, .unset, .unset] [(.int (59 : Int32)), (.int (59 : Int32))])) (fun t kt => XS.bipush X3.here hx rfl (hb hby d2_33) kt) ?_
  refine own_go (A := T3.setTop (mkF m 40 #[.val (.ref a1), .val (.int (4 : Int32)), .unset, .unset, .unset] [])) (fun t kt => XS.icmpYes X3.here hx rfl (pc0 := 35) (pc' := 40) rfl (hb hby d2_35) rfl (teq (rfl : (59 : Int32) = (59 : Int32))).1 (by decide) (by decide) kt) ?_
  refine own_go (A := T3.setTop (mkF m 41 #[.val (.ref a1), .val (.int (4 : Int32)), .unset, .unset, .unset] [(.int (4 : Int32))])) (fun t kt => XS.iloadN X3.here hx rfl (hb hby d2_40) rfl kt) ?_
  refine own_go (A := T3.setTop (mkF m 43 #[.val (.ref a1), .val (.int (4 : Int32)), .unset, .unset, .unset] [(.int (6 : Int32)), (.int (4 : Int32))])) (fun t kt => XS.bipush X3.here hx rfl (hb hby d2_41) kt) ?_
  refine own_go (A := T3.setTop (mkF m 89 #[.val (.ref a1), .val (.int (4 : Int32)), .unset, .unset, .unset] [])) (fun t kt => XS.icmpYes X3.here hx rfl (pc0 := 43) (pc' := 89) rfl (hb hby d2_43) rfl (feq (by decide : ¬ ((4 : Int32) = (6 : Int32)))).2 (by decide) (by decide) kt) ?_
  refine own_go (A := T3.setTop (mkF m 90 #[.val (.ref a1), .val (.int (4 : Int32)), .unset, .unset, .unset] [(.ref a1)])) (fun t kt => XS.aloadN X3.here hx rfl (hb hby d2_89) rfl rfl kt) ?_
  refine own_go (A := T3.setTop (mkF m 91 #[.val (.ref a1), .val (.int (4 : Int32)), .unset, .unset, .unset] [(.int (1 : Int32)), (.ref a1)])) (fun t kt => XS.iconst X3.here hx rfl (hb hby d2_90) kt) ?_
  obtain ⟨cq4, kq4, qa4, qb4, qc4⟩ := isOf hZ g3 E
  obtain ⟨_, _, ⟨T4, L4, k4, n4⟩, -, X4, ⟨Lc4, hQ4, l4, y4, z4⟩, st4⟩ := X3.virtualBack hx (y := (⟨"java/lang/String", "charAt", "(I)C"⟩ : MethodName)) (z := (⟨"java/lang/String", "charAt", "(I)C"⟩ : MethodName)) hown (mvT hZ (hw _ (List.mem_of_getElem? (i := 29) rfl))) (mvT hZ (hw _ (List.mem_of_getElem? (i := 30) rfl))) (notFace_of_selects (args := #[]) (mvT hZ (hw _ (List.mem_of_getElem? (i := 32) rfl)))) (mvT hZ (hw _ (List.mem_of_getElem? (i := 32) rfl))) (mvT hZ (hw _ (List.mem_of_getElem? (i := 31) rfl))) (by decide) (backOf (W := 0) (rm5 l Z a0 hw [] a1 (1 : Int32) bq cl (4 : Int32) (35 : Int32) (35 : Int32) gC G3 h0 n0 Z0 E FV FC S_C hg1 rG3 S_F Ar Sz Nz (by decide) (H 1 (by rw [Sz]; decide)) (by decide) (by decide)) hZ (hw _ (List.mem_of_getElem? (i := 33) rfl)) (hw _ (List.mem_of_getElem? (i := 5) rfl)) (by decide) (by decide)) qa4 qc4 (g := (mkF m 91 #[.val (.ref a1), .val (.int (4 : Int32)), .unset, .unset, .unset] [(.int (1 : Int32)), (.ref a1)])) rfl (by rw [hml]; rfl) (Steps.refl _) (argsL := [(.int (1 : Int32))]) (rest := []) (lenOf pd_5 rfl) rfl (by show 2 * 0 + _ ≤ _; exact Nat.le_of_eq rfl) (hb hby d2_91) (fun _ _ => ⟨rfl, g3, (by decide : 0 + 0 ≤ _), (by decide : 0 + 0 ≤ _)⟩)
  dsimp only [Pt.U, Pt.locs, Pt.cells, Pt.slots] at X4 l4 y4 z4 st4 hQ4
  subst l4 y4 z4
  obtain ⟨rfl, N4q, g4⟩ := hQ4
  have N4 := Fr.app N3 N4q
  refine own_go (A := T4.setTop (mkF m 94 #[.val (.ref a1), .val (.int (4 : Int32)), .unset, .unset, .unset] [(.int (35 : Int32))])) (fun t kt => st4.trans kt) ?_
  refine own_go (A := T4.setTop (mkF m 96 #[.val (.ref a1), .val (.int (4 : Int32)), .unset, .unset, .unset] [(.int (35 : Int32)), (.int (35 : Int32))])) (fun t kt => XS.bipush X4.here hx rfl (hb hby d2_94) kt) ?_
  refine own_go (A := T4.setTop (mkF m 101 #[.val (.ref a1), .val (.int (4 : Int32)), .unset, .unset, .unset] [])) (fun t kt => XS.icmpYes X4.here hx rfl (pc0 := 96) (pc' := 101) rfl (hb hby d2_96) rfl (teq (rfl : (35 : Int32) = (35 : Int32))).1 (by decide) (by decide) kt) ?_
  refine own_go (A := T4.setTop (mkF m 102 #[.val (.ref a1), .val (.int (4 : Int32)), .unset, .unset, .unset] [(.int (4 : Int32))])) (fun t kt => XS.iloadN X4.here hx rfl (hb hby d2_101) rfl kt) ?_
  refine own_go (A := T4.setTop (mkF m 103 #[.val (.ref a1), .val (.int (4 : Int32)), .unset, .unset, .unset] [(.int (4 : Int32)), (.int (4 : Int32))])) (fun t kt => XS.iconst X4.here hx rfl (hb hby d2_102) kt) ?_
  refine own_go (A := T4.setTop (mkF m 106 #[.val (.ref a1), .val (.int (4 : Int32)), .unset, .unset, .unset] [])) (fun t kt => XS.icmpNo X4.here hx rfl (hb hby d2_103) rfl (teq (rfl : (4 : Int32) = (4 : Int32))).2 kt) ?_
  refine own_go (A := T4.setTop (mkF m 107 #[.val (.ref a1), .val (.int (4 : Int32)), .unset, .unset, .unset] [(.ref a1)])) (fun t kt => XS.aloadN X4.here hx rfl (hb hby d2_106) rfl rfl kt) ?_
  refine own_go (A := T4.setTop (mkF m 108 #[.val (.ref a1), .val (.int (4 : Int32)), .unset, .unset, .unset] [(.int (2 : Int32)), (.ref a1)])) (fun t kt => XS.iconst X4.here hx rfl (hb hby d2_107) kt) ?_
  obtain ⟨cq5, kq5, qa5, qb5, qc5⟩ := isOf hZ g4 E
  obtain ⟨_, _, ⟨T5, L5, k5, n5⟩, -, X5, ⟨Lc5, hQ5, l5, y5, z5⟩, st5⟩ := X4.virtualBack hx (y := (⟨"java/lang/String", "charAt", "(I)C"⟩ : MethodName)) (z := (⟨"java/lang/String", "charAt", "(I)C"⟩ : MethodName)) hown (mvT hZ (hw _ (List.mem_of_getElem? (i := 29) rfl))) (mvT hZ (hw _ (List.mem_of_getElem? (i := 30) rfl))) (notFace_of_selects (args := #[]) (mvT hZ (hw _ (List.mem_of_getElem? (i := 32) rfl)))) (mvT hZ (hw _ (List.mem_of_getElem? (i := 32) rfl))) (mvT hZ (hw _ (List.mem_of_getElem? (i := 31) rfl))) (by decide) (backOf (W := 0) (rm5 l Z a0 hw [] a1 (2 : Int32) bq cl (4 : Int32) (57 : Int32) (57 : Int32) gC G3 h0 n0 Z0 E FV FC S_C hg1 rG3 S_F Ar Sz Nz (by decide) (H 2 (by rw [Sz]; decide)) (by decide) (by decide)) hZ (hw _ (List.mem_of_getElem? (i := 33) rfl)) (hw _ (List.mem_of_getElem? (i := 5) rfl)) (by decide) (by decide)) qa5 qc5 (g := (mkF m 108 #[.val (.ref a1), .val (.int (4 : Int32)), .unset, .unset, .unset] [(.int (2 : Int32)), (.ref a1)])) rfl (by rw [hml]; rfl) (Steps.refl _) (argsL := [(.int (2 : Int32))]) (rest := []) (lenOf pd_5 rfl) rfl (by show 2 * 0 + _ ≤ _; exact Nat.le_of_eq rfl) (hb hby d2_108) (fun _ _ => ⟨rfl, g4, (by decide : 0 + 0 ≤ _), (by decide : 0 + 0 ≤ _)⟩)
  dsimp only [Pt.U, Pt.locs, Pt.cells, Pt.slots] at X5 l5 y5 z5 st5 hQ5
  subst l5 y5 z5
  obtain ⟨rfl, N5q, g5⟩ := hQ5
  have N5 := Fr.app N4 N5q
  refine own_go (A := T5.setTop (mkF m 111 #[.val (.ref a1), .val (.int (4 : Int32)), .unset, .unset, .unset] [(.int (57 : Int32))])) (fun t kt => st5.trans kt) ?_
  obtain ⟨_, _, ⟨T6, L6, k6, n6⟩, -, X6, ⟨Lc6, hQ6, l6, y6, z6⟩, st6⟩ := Jvm.LawKit.callS X5 hx (y := (⟨"com/example/coxt/coxt/output/XmlSerializerWhiteSpaceOrQuoteEscapePinLaw", "digit", "(C)I"⟩ : MethodName)) hown (mvT hZ (hw _ (List.mem_of_getElem? (i := 51) rfl))) (mvT hZ (hw _ (List.mem_of_getElem? (i := 52) rfl))) (mvT hZ (hw _ (List.mem_of_getElem? (i := 14) rfl))) (mvT hZ (hw _ (List.mem_of_getElem? (i := 53) rfl))) (by decide) (backOf (W := 0) (rm10 l Z a0 hw [] (57 : Int32) h0 n0 Z0) hZ (hw _ (List.mem_of_getElem? (i := 53) rfl)) (hw _ (List.mem_of_getElem? (i := 14) rfl)) (by decide) (by decide)) (g := (mkF m 111 #[.val (.ref a1), .val (.int (4 : Int32)), .unset, .unset, .unset] [(.int (57 : Int32))])) rfl (by rw [hml]; rfl) (argsL := [(.int (57 : Int32))]) (rest := []) (lenOf pd_10 rfl) rfl (by show 2 * 0 + _ ≤ _; exact Nat.le_of_eq rfl) (hb hby d2_111) (fun _ _ => ⟨rfl, g5, (by decide : 0 + 0 ≤ _), (by decide : 0 + 0 ≤ _)⟩)
  dsimp only [Pt.U, Pt.locs, Pt.cells, Pt.slots] at X6 l6 y6 z6 st6 hQ6
  subst l6 y6 z6
  obtain ⟨rfl, N6q, g6⟩ := hQ6
  have N6 := Fr.app N5 N6q
  rw [show F10_0 (57 : Int32) = (9 : Int32) from by decide] at st6
  refine own_go (A := T6.setTop (mkF m 114 #[.val (.ref a1), .val (.int (4 : Int32)), .unset, .unset, .unset] [(.int (9 : Int32))])) st6 ?_
  obtain ⟨fs, hr, hrun, hended, hW, hsame⟩ := X6.leave (v := some (.int (9 : Int32))) (fun h => by rw [Bd.returns] at h; cases h)
  exact ⟨_, _, retI X6 hx Bd.returns (hb hby d2_114) hr, hrun, hended, _, _, rfl, ⟨rfl, N6, g6⟩, ⟨_, rfl⟩, hW, hsame.mono (by decide) (by decide)⟩
theorem pn_0 : plainName "com/example/coxt/coxt/output/XmlSerializerWhiteSpaceOrQuoteEscapePinLaw" = true := by first | (simp [plainName, overriddenIn]; done) | decide +kernel
theorem ef_0 (m : MethodId) (p1 : Int32) (p2 : Int32) : entryFrame m #[(.int p1), (.int p2)] maxLocals = mkF m 0 #[.val (.int p1), .val (.int p2), .unset, .unset, .unset, .unset] [] := by first | (simp [entryFrame, mkF, argsToLocals, Value.category, maxLocals]; done) | rfl
set_option maxRecDepth 65536 in
set_option maxHeartbeats 40000000 in
theorem rm0 (l : Launch) (Z : State) (a0 : Array Value) (hw : ∀ d ∈ tables_1, d.before a0 Z = true) (ws : List Jvm.Cond) (p1 : Int32) (p2 : Int32) (gC : Int32) (G3 : Value) (h0 : Heap) (n0 : Nat) (Z0 : n0 ≤ h0.size) (O2 : Sta Z Z.heap "java/lang/String" "COMPACT_STRINGS" "Z" (.int gC)) (hg1 : ¬ (gC = (0 : Int32))) (O4 : Sta Z Z.heap "jdk/internal/util/Preconditions" "SIOOBE_FORMATTER" "Ljava/util/function/BiFunction;" G3) (rG3 : G3.isRef = true) (hH : ∀ q ∈ consts_1, Jvm.Lit.constHeld Z q.1 q.2) (hcw : Jvm.Lit.compactW.before a0 Z = true) (X00 : Old Z n0 h0) :
    MetFree l x (head1 (Jvm.Cond.code x code maxLocals ret :: ws) room_1) (fun a U => a = #[(.int p1), (.int p2)] ∧ (Z.Warmed39 U.vm ∧ U.vm.interned = Z.vm.interned) ∧ U.heap = h0) (fun _ _ _ _ _ => True) (fun _ U o U' => ∃ v L, o = .returned v ∧ (v = some (.int (1 : Int32)) ∧ Fr n0 L) ∧ ReturnedEndW U o U' L room_1.cells room_1.slots) := by
  refine MetFree.of_bodySF (plainFor_of_name pn_0) hisR ?_
  intro p e s m args below meth c s₁ Bd hml0 hP hK
  obtain ⟨rfl, ⟨hZ, hI⟩, hh⟩ := hP
  have hx := Bd.exec
  have hby := Bd.bytes
  have hml : c.maxLocals = 6 := hml0
  have hown : s.vm.findClass "com/example/coxt/coxt/output/XmlSerializerWhiteSpaceOrQuoteEscapePinLaw" = some m.cls := findClass_of_methodNamed Bd.named
  have hnm := (name_of_methodNamed Bd.named Bd.method).1
  have X0 : Stand p l e room_1 s m #[(.int p1), (.int p2)] below meth c s₁ [] 0 0 := Stand.of_body Bd
  have e0 : s₁.heap = h0 := by rw [← hh, Bd.state]; rfl
  have N0 := Fr.nil n0
  have pre0 : ∀ t, Steps p.tables e below (s₁.setTop (mkF m 0 #[.val (.int p1), .val (.int p2), .unset, .unset, .unset, .unset] [])) t → Steps p.tables e below (s₁.setTop (entryFrame m #[(.int p1), (.int p2)] maxLocals)) t := fun t kt => castTop (ef_0 m p1 p2) kt
  refine own_go (A := s₁.setTop (mkF m 0 #[.val (.int p1), .val (.int p2), .unset, .unset, .unset, .unset] [])) pre0 ?_
  refine own_go (A := s₁.setTop (mkF m 1 #[.val (.int p1), .val (.int p2), .unset, .unset, .unset, .unset] [(.int p2)])) (fun t kt => XS.iloadN X0.here hx rfl (hb hby at_0) rfl kt) ?_
  refine own_go (A := s₁.setTop (mkF m 3 #[.val (.int p1), .val (.int p2), .unset, .unset, .unset, .unset] [(.int (7 : Int32)), (.int p2)])) (fun t kt => XS.bipush X0.here hx rfl (hb hby at_1) kt) ?_
  refine own_go (A := s₁.setTop (mkF m 4 #[.val (.int p1), .val (.int p2), .unset, .unset, .unset, .unset] [(.int (p2 &&& (7 : Int32)))])) (fun t kt => XS.iand X0.here hx rfl (hb hby at_3) rfl kt) ?_
  refine own_go (A := s₁.setTop (mkF m 5 #[.val (.int p1), .val (.int p2), .val (.int (p2 &&& (7 : Int32))), .unset, .unset, .unset] [])) (fun t kt => XS.istoreN X0.here hx rfl (hb hby at_4) rfl (l' := #[.val (.int p1), .val (.int p2), .val (.int (p2 &&& (7 : Int32))), .unset, .unset, .unset]) rfl kt) ?_
  refine own_go (A := s₁.setTop (mkF m 6 #[.val (.int p1), .val (.int p2), .val (.int (p2 &&& (7 : Int32))), .unset, .unset, .unset] [(.int (p2 &&& (7 : Int32)))])) (fun t kt => XS.iloadN X0.here hx rfl (hb hby at_5) rfl kt) ?_
  by_cases hc6 : (p2 &&& (7 : Int32)) = (0 : Int32)
  · refine own_go (A := s₁.setTop (mkF m 9 #[.val (.int p1), .val (.int p2), .val (.int (p2 &&& (7 : Int32))), .unset, .unset, .unset] [])) (fun t kt => XS.ifNo X0.here hx rfl (hb hby at_6) rfl ((if0 _ _).trans (teq hc6).2) kt) ?_
    refine own_go (A := s₁.setTop (mkF m 11 #[.val (.int p1), .val (.int p2), .val (.int (p2 &&& (7 : Int32))), .unset, .unset, .unset] [(.int (34 : Int32))])) (fun t kt => XS.bipush X0.here hx rfl (hb hby at_9) kt) ?_
    refine own_go (A := s₁.setTop (mkF m 12 #[.val (.int p1), .val (.int p2), .val (.int (p2 &&& (7 : Int32))), .val (.int (34 : Int32)), .unset, .unset] [])) (fun t kt => XS.istoreN X0.here hx rfl (hb hby at_11) rfl (l' := #[.val (.int p1), .val (.int p2), .val (.int (p2 &&& (7 : Int32))), .val (.int (34 : Int32)), .unset, .unset]) rfl kt) ?_
    refine own_go (A := s₁.setTop (mkF m 51 #[.val (.int p1), .val (.int p2), .val (.int (p2 &&& (7 : Int32))), .val (.int (34 : Int32)), .unset, .unset] [])) (fun t kt => XS.goto X0.here hx rfl (pc0 := 12) (pc' := 51) rfl (hb hby at_12) (by decide) (by decide) kt) ?_
    refine own_go (A := s₁.setTop (mkF m 52 #[.val (.int p1), .val (.int p2), .val (.int (p2 &&& (7 : Int32))), .val (.int (34 : Int32)), .unset, .unset] [(.int (34 : Int32))])) (fun t kt => XS.iloadN X0.here hx rfl (hb hby at_51) rfl kt) ?_
    obtain ⟨_, _, ⟨T1, L1, k1, n1⟩, -, X1, hS1, hgr1, ⟨Lc1, hQ1, l1, y1, z1⟩, st1⟩ := callSS X0 hx (y := (⟨"com/example/coxt/coxt/output/XmlSerializer", "whiteSpaceOrQuoteEscape", "(C)Ljava/lang/String;"⟩ : MethodName)) hown (mvT hZ (hw _ (List.mem_of_getElem? (i := 0) rfl))) (mvT hZ (hw _ (List.mem_of_getElem? (i := 1) rfl))) (mvT hZ (hw _ (List.mem_of_getElem? (i := 2) rfl))) (mvT hZ (hw _ (List.mem_of_getElem? (i := 3) rfl))) (by decide) (own_backS (W := 0) (rm1_34 l Z a0 hw [] h0 n0 Z0 hH hcw X00) hZ hI (hw _ (List.mem_of_getElem? (i := 3) rfl)) (hw _ (List.mem_of_getElem? (i := 2) rfl)) (by decide) (by decide)) (g := (mkF m 52 #[.val (.int p1), .val (.int p2), .val (.int (p2 &&& (7 : Int32))), .val (.int (34 : Int32)), .unset, .unset] [(.int (34 : Int32))])) rfl (by rw [hml]; rfl) (argsL := [(.int (34 : Int32))]) (rest := []) (lenOf pd_1 rfl) rfl (by show 2 * 0 + _ ≤ _; exact Nat.le_of_eq rfl) (hb hby at_52) (fun _ _ => ⟨rfl, e0, (by decide : 0 + 2 ≤ _), (by decide : 0 + 28 ≤ _)⟩)
    dsimp only [Pt.U, Pt.locs, Pt.cells, Pt.slots] at X1 l1 y1 z1 st1 hQ1 hS1 hgr1
    subst l1 y1 z1
    obtain ⟨N1q, E1, a1, rfl, St1⟩ := hQ1
    have N1 := Fr.app N0 N1q
    have hown : (s.setVm T1.vm).vm.findClass "com/example/coxt/coxt/output/XmlSerializerWhiteSpaceOrQuoteEscapePinLaw" = some m.cls := by rw [show (s.setVm T1.vm).vm = T1.vm from rfl, hS1.1.alike.findClass]; exact hown
    have hZ : Z.Warmed39 (s.setVm T1.vm).vm := State.Warmed39.trans hZ hS1.1
    refine own_go (A := T1.setTop (mkF m 55 #[.val (.int p1), .val (.int p2), .val (.int (p2 &&& (7 : Int32))), .val (.int (34 : Int32)), .unset, .unset] [(.ref a1)])) (fun t kt => st1.trans kt) ?_
    refine own_go (A := T1.setTop (mkF m 57 #[.val (.int p1), .val (.int p2), .val (.int (p2 &&& (7 : Int32))), .val (.int (34 : Int32)), .val (.ref a1), .unset] [])) (fun t kt => XS.astore X1.here hx rfl (hb hby at_55) rfl rfl (l' := #[.val (.int p1), .val (.int p2), .val (.int (p2 &&& (7 : Int32))), .val (.int (34 : Int32)), .val (.ref a1), .unset]) rfl kt) ?_
    refine own_go (A := T1.setTop (mkF m 58 #[.val (.int p1), .val (.int p2), .val (.int (p2 &&& (7 : Int32))), .val (.int (34 : Int32)), .val (.ref a1), .unset] [(.int (34 : Int32))])) (fun t kt => XS.iloadN X1.here hx rfl (hb hby at_57) rfl kt) ?_
    refine own_go (A := T1.setTop (mkF m 60 #[.val (.int p1), .val (.int p2), .val (.int (p2 &&& (7 : Int32))), .val (.int (34 : Int32)), .val (.ref a1), .unset] [(.int (34 : Int32)), (.int (34 : Int32))])) (fun t kt => XS.bipush X1.here hx rfl (hb hby at_58) kt) ?_
    refine own_go (A := T1.setTop (mkF m 81 #[.val (.int p1), .val (.int p2), .val (.int (p2 &&& (7 : Int32))), .val (.int (34 : Int32)), .val (.ref a1), .unset] [])) (fun t kt => XS.icmpYes X1.here hx rfl (pc0 := 60) (pc' := 81) rfl (hb hby at_60) rfl (teq (rfl : (34 : Int32) = (34 : Int32))).1 (by decide) (by decide) kt) ?_
    refine own_go (A := T1.setTop (mkF m 82 #[.val (.int p1), .val (.int p2), .val (.int (p2 &&& (7 : Int32))), .val (.int (34 : Int32)), .val (.ref a1), .unset] [(.int (1 : Int32))])) (fun t kt => XS.iconst X1.here hx rfl (hb hby at_81) kt) ?_
    refine own_go (A := T1.setTop (mkF m 86 #[.val (.int p1), .val (.int p2), .val (.int (p2 &&& (7 : Int32))), .val (.int (34 : Int32)), .val (.ref a1), .unset] [(.int (1 : Int32))])) (fun t kt => XS.goto X1.here hx rfl (pc0 := 82) (pc' := 86) rfl (hb hby at_82) (by decide) (by decide) kt) ?_
    refine own_go (A := T1.setTop (mkF m 88 #[.val (.int p1), .val (.int p2), .val (.int (p2 &&& (7 : Int32))), .val (.int (34 : Int32)), .val (.ref a1), .val (.int (1 : Int32))] [])) (fun t kt => XS.istore X1.here hx rfl (hb hby at_86) rfl (l' := #[.val (.int p1), .val (.int p2), .val (.int (p2 &&& (7 : Int32))), .val (.int (34 : Int32)), .val (.ref a1), .val (.int (1 : Int32))]) rfl kt) ?_
    refine own_go (A := T1.setTop (mkF m 90 #[.val (.int p1), .val (.int p2), .val (.int (p2 &&& (7 : Int32))), .val (.int (34 : Int32)), .val (.ref a1), .val (.int (1 : Int32))] [(.int (1 : Int32))])) (fun t kt => XS.iload X1.here hx rfl (hb hby at_88) rfl kt) ?_
    refine own_go (A := T1.setTop (mkF m 104 #[.val (.int p1), .val (.int p2), .val (.int (p2 &&& (7 : Int32))), .val (.int (34 : Int32)), .val (.ref a1), .val (.int (1 : Int32))] [])) (fun t kt => XS.ifYes X1.here hx rfl (pc0 := 90) (pc' := 104) rfl (hb hby at_90) rfl ((if0 _ _).trans (feq (by decide : ¬ ((1 : Int32) = (0 : Int32)))).2) (by decide) (by decide) kt) ?_
    refine own_go (A := T1.setTop (mkF m 106 #[.val (.int p1), .val (.int p2), .val (.int (p2 &&& (7 : Int32))), .val (.int (34 : Int32)), .val (.ref a1), .val (.int (1 : Int32))] [(.ref a1)])) (fun t kt => XS.aload X1.here hx rfl (hb hby at_104) rfl rfl kt) ?_
    refine own_go (A := T1.setTop (mkF m 111 #[.val (.int p1), .val (.int p2), .val (.int (p2 &&& (7 : Int32))), .val (.int (34 : Int32)), .val (.ref a1), .val (.int (1 : Int32))] [])) (fun t kt => XS.ifnonnullYes X1.here hx rfl (pc0 := 106) (pc' := 111) rfl (hb hby at_106) rfl (by decide) (by decide) kt) ?_
    refine own_go (A := T1.setTop (mkF m 113 #[.val (.int p1), .val (.int p2), .val (.int (p2 &&& (7 : Int32))), .val (.int (34 : Int32)), .val (.ref a1), .val (.int (1 : Int32))] [(.ref a1)])) (fun t kt => XS.aload X1.here hx rfl (hb hby at_111) rfl rfl kt) ?_
    obtain ⟨_, _, ⟨T2, L2, k2, n2⟩, -, X2, ⟨Lc2, hQ2, l2, y2, z2⟩, st2⟩ := Jvm.LawKit.callS X1 hx (y := (⟨"com/example/coxt/coxt/output/XmlSerializerWhiteSpaceOrQuoteEscapePinLaw", "decode", "(Ljava/lang/String;)I"⟩ : MethodName)) hown (mvT hZ (hw _ (List.mem_of_getElem? (i := 12) rfl))) (mvT hZ (hw _ (List.mem_of_getElem? (i := 13) rfl))) (mvT hZ (hw _ (List.mem_of_getElem? (i := 14) rfl))) (mvT hZ (hw _ (List.mem_of_getElem? (i := 15) rfl))) (by decide) (backOf (W := 0) (rm2_34 l Z a0 hw [] a1 gC G3 T1.heap n0 (Nat.le_trans Z0 E1.1) St1 ((O2.ext X00.2).ext E1) hg1 rG3 ((O4.ext X00.2).ext E1)) hZ (hw _ (List.mem_of_getElem? (i := 15) rfl)) (hw _ (List.mem_of_getElem? (i := 14) rfl)) (by decide) (by decide)) (g := (mkF m 113 #[.val (.int p1), .val (.int p2), .val (.int (p2 &&& (7 : Int32))), .val (.int (34 : Int32)), .val (.ref a1), .val (.int (1 : Int32))] [(.ref a1)])) rfl (by rw [hml]; rfl) (argsL := [(.ref a1)]) (rest := []) (lenOf pd_2 rfl) rfl (by show 2 * 0 + _ ≤ _; exact Nat.le_of_eq rfl) (hb hby at_113) (fun _ _ => ⟨rfl, rfl, (by decide : 2 + 0 ≤ _), (by decide : 28 + 0 ≤ _)⟩)
    dsimp only [Pt.U, Pt.locs, Pt.cells, Pt.slots] at X2 l2 y2 z2 st2 hQ2
    subst l2 y2 z2
    obtain ⟨rfl, N2q, g2⟩ := hQ2
    have N2 := Fr.app N1 N2q
    refine own_go (A := T2.setTop (mkF m 116 #[.val (.int p1), .val (.int p2), .val (.int (p2 &&& (7 : Int32))), .val (.int (34 : Int32)), .val (.ref a1), .val (.int (1 : Int32))] [(.int (34 : Int32))])) st2 ?_
    refine own_go (A := T2.setTop (mkF m 117 #[.val (.int p1), .val (.int p2), .val (.int (p2 &&& (7 : Int32))), .val (.int (34 : Int32)), .val (.ref a1), .val (.int (1 : Int32))] [(.int (34 : Int32)), (.int (34 : Int32))])) (fun t kt => XS.iloadN X2.here hx rfl (hb hby at_116) rfl kt) ?_
    refine own_go (A := T2.setTop (mkF m 120 #[.val (.int p1), .val (.int p2), .val (.int (p2 &&& (7 : Int32))), .val (.int (34 : Int32)), .val (.ref a1), .val (.int (1 : Int32))] [])) (fun t kt => XS.icmpNo X2.here hx rfl (hb hby at_117) rfl (teq (rfl : (34 : Int32) = (34 : Int32))).2 kt) ?_
    refine own_go (A := T2.setTop (mkF m 121 #[.val (.int p1), .val (.int p2), .val (.int (p2 &&& (7 : Int32))), .val (.int (34 : Int32)), .val (.ref a1), .val (.int (1 : Int32))] [(.int (1 : Int32))])) (fun t kt => XS.iconst X2.here hx rfl (hb hby at_120) kt) ?_
    refine own_go (A := T2.setTop (mkF m 125 #[.val (.int p1), .val (.int p2), .val (.int (p2 &&& (7 : Int32))), .val (.int (34 : Int32)), .val (.ref a1), .val (.int (1 : Int32))] [(.int (1 : Int32))])) (fun t kt => XS.goto X2.here hx rfl (pc0 := 121) (pc' := 125) rfl (hb hby at_121) (by decide) (by decide) kt) ?_
    obtain ⟨fs, hr, hrun, hended, hRE⟩ := X2.leaveW hS1 (by rw [g2]; exact Nat.le_refl _) (v := some (.int (1 : Int32))) (fun h => by rw [Bd.returns] at h; cases h)
    exact ⟨_, _, retN X2 hx (t := .boolean) Bd.returns (by simp) (hb hby at_125) hr, hrun, hended, _, _, rfl, ⟨rfl, N2⟩, ⟨hRE.1, hRE.2.1, hRE.2.2.1, hRE.2.2.2.mono (by decide) (by decide)⟩⟩
  · refine own_go (A := s₁.setTop (mkF m 15 #[.val (.int p1), .val (.int p2), .val (.int (p2 &&& (7 : Int32))), .unset, .unset, .unset] [])) (fun t kt => XS.ifYes X0.here hx rfl (pc0 := 6) (pc' := 15) rfl (hb hby at_6) rfl ((if0 _ _).trans (feq hc6).2) (by decide) (by decide) kt) ?_
    refine own_go (A := s₁.setTop (mkF m 16 #[.val (.int p1), .val (.int p2), .val (.int (p2 &&& (7 : Int32))), .unset, .unset, .unset] [(.int (p2 &&& (7 : Int32)))])) (fun t kt => XS.iloadN X0.here hx rfl (hb hby at_15) rfl kt) ?_
    refine own_go (A := s₁.setTop (mkF m 17 #[.val (.int p1), .val (.int p2), .val (.int (p2 &&& (7 : Int32))), .unset, .unset, .unset] [(.int (1 : Int32)), (.int (p2 &&& (7 : Int32)))])) (fun t kt => XS.iconst X0.here hx rfl (hb hby at_16) kt) ?_
    by_cases hc17 : (p2 &&& (7 : Int32)) = (1 : Int32)
    · refine own_go (A := s₁.setTop (mkF m 20 #[.val (.int p1), .val (.int p2), .val (.int (p2 &&& (7 : Int32))), .unset, .unset, .unset] [])) (fun t kt => XS.icmpNo X0.here hx rfl (hb hby at_17) rfl (teq hc17).2 kt) ?_
      refine own_go (A := s₁.setTop (mkF m 22 #[.val (.int p1), .val (.int p2), .val (.int (p2 &&& (7 : Int32))), .unset, .unset, .unset] [(.int (13 : Int32))])) (fun t kt => XS.bipush X0.here hx rfl (hb hby at_20) kt) ?_
      refine own_go (A := s₁.setTop (mkF m 23 #[.val (.int p1), .val (.int p2), .val (.int (p2 &&& (7 : Int32))), .val (.int (13 : Int32)), .unset, .unset] [])) (fun t kt => XS.istoreN X0.here hx rfl (hb hby at_22) rfl (l' := #[.val (.int p1), .val (.int p2), .val (.int (p2 &&& (7 : Int32))), .val (.int (13 : Int32)), .unset, .unset]) rfl kt) ?_
      refine own_go (A := s₁.setTop (mkF m 51 #[.val (.int p1), .val (.int p2), .val (.int (p2 &&& (7 : Int32))), .val (.int (13 : Int32)), .unset, .unset] [])) (fun t kt => XS.goto X0.here hx rfl (pc0 := 23) (pc' := 51) rfl (hb hby at_23) (by decide) (by decide) kt) ?_
      refine own_go (A := s₁.setTop (mkF m 52 #[.val (.int p1), .val (.int p2), .val (.int (p2 &&& (7 : Int32))), .val (.int (13 : Int32)), .unset, .unset] [(.int (13 : Int32))])) (fun t kt => XS.iloadN X0.here hx rfl (hb hby at_51) rfl kt) ?_
      obtain ⟨_, _, ⟨T1, L1, k1, n1⟩, -, X1, hS1, hgr1, ⟨Lc1, hQ1, l1, y1, z1⟩, st1⟩ := callSS X0 hx (y := (⟨"com/example/coxt/coxt/output/XmlSerializer", "whiteSpaceOrQuoteEscape", "(C)Ljava/lang/String;"⟩ : MethodName)) hown (mvT hZ (hw _ (List.mem_of_getElem? (i := 0) rfl))) (mvT hZ (hw _ (List.mem_of_getElem? (i := 1) rfl))) (mvT hZ (hw _ (List.mem_of_getElem? (i := 2) rfl))) (mvT hZ (hw _ (List.mem_of_getElem? (i := 3) rfl))) (by decide) (own_backS (W := 0) (rm1_13 l Z a0 hw [] h0 n0 Z0 hH hcw X00) hZ hI (hw _ (List.mem_of_getElem? (i := 3) rfl)) (hw _ (List.mem_of_getElem? (i := 2) rfl)) (by decide) (by decide)) (g := (mkF m 52 #[.val (.int p1), .val (.int p2), .val (.int (p2 &&& (7 : Int32))), .val (.int (13 : Int32)), .unset, .unset] [(.int (13 : Int32))])) rfl (by rw [hml]; rfl) (argsL := [(.int (13 : Int32))]) (rest := []) (lenOf pd_1 rfl) rfl (by show 2 * 0 + _ ≤ _; exact Nat.le_of_eq rfl) (hb hby at_52) (fun _ _ => ⟨rfl, e0, (by decide : 0 + 2 ≤ _), (by decide : 0 + 28 ≤ _)⟩)
      dsimp only [Pt.U, Pt.locs, Pt.cells, Pt.slots] at X1 l1 y1 z1 st1 hQ1 hS1 hgr1
      subst l1 y1 z1
      obtain ⟨N1q, E1, a1, rfl, St1⟩ := hQ1
      have N1 := Fr.app N0 N1q
      have hown : (s.setVm T1.vm).vm.findClass "com/example/coxt/coxt/output/XmlSerializerWhiteSpaceOrQuoteEscapePinLaw" = some m.cls := by rw [show (s.setVm T1.vm).vm = T1.vm from rfl, hS1.1.alike.findClass]; exact hown
      have hZ : Z.Warmed39 (s.setVm T1.vm).vm := State.Warmed39.trans hZ hS1.1
      refine own_go (A := T1.setTop (mkF m 55 #[.val (.int p1), .val (.int p2), .val (.int (p2 &&& (7 : Int32))), .val (.int (13 : Int32)), .unset, .unset] [(.ref a1)])) (fun t kt => st1.trans kt) ?_
      refine own_go (A := T1.setTop (mkF m 57 #[.val (.int p1), .val (.int p2), .val (.int (p2 &&& (7 : Int32))), .val (.int (13 : Int32)), .val (.ref a1), .unset] [])) (fun t kt => XS.astore X1.here hx rfl (hb hby at_55) rfl rfl (l' := #[.val (.int p1), .val (.int p2), .val (.int (p2 &&& (7 : Int32))), .val (.int (13 : Int32)), .val (.ref a1), .unset]) rfl kt) ?_
      refine own_go (A := T1.setTop (mkF m 58 #[.val (.int p1), .val (.int p2), .val (.int (p2 &&& (7 : Int32))), .val (.int (13 : Int32)), .val (.ref a1), .unset] [(.int (13 : Int32))])) (fun t kt => XS.iloadN X1.here hx rfl (hb hby at_57) rfl kt) ?_
      refine own_go (A := T1.setTop (mkF m 60 #[.val (.int p1), .val (.int p2), .val (.int (p2 &&& (7 : Int32))), .val (.int (13 : Int32)), .val (.ref a1), .unset] [(.int (34 : Int32)), (.int (13 : Int32))])) (fun t kt => XS.bipush X1.here hx rfl (hb hby at_58) kt) ?_
      refine own_go (A := T1.setTop (mkF m 63 #[.val (.int p1), .val (.int p2), .val (.int (p2 &&& (7 : Int32))), .val (.int (13 : Int32)), .val (.ref a1), .unset] [])) (fun t kt => XS.icmpNo X1.here hx rfl (hb hby at_60) rfl (feq (by decide : ¬ ((13 : Int32) = (34 : Int32)))).1 kt) ?_
      refine own_go (A := T1.setTop (mkF m 64 #[.val (.int p1), .val (.int p2), .val (.int (p2 &&& (7 : Int32))), .val (.int (13 : Int32)), .val (.ref a1), .unset] [(.int (13 : Int32))])) (fun t kt => XS.iloadN X1.here hx rfl (hb hby at_63) rfl kt) ?_
      refine own_go (A := T1.setTop (mkF m 66 #[.val (.int p1), .val (.int p2), .val (.int (p2 &&& (7 : Int32))), .val (.int (13 : Int32)), .val (.ref a1), .unset] [(.int (13 : Int32)), (.int (13 : Int32))])) (fun t kt => XS.bipush X1.here hx rfl (hb hby at_64) kt) ?_
      refine own_go (A := T1.setTop (mkF m 81 #[.val (.int p1), .val (.int p2), .val (.int (p2 &&& (7 : Int32))), .val (.int (13 : Int32)), .val (.ref a1), .unset] [])) (fun t kt => XS.icmpYes X1.here hx rfl (pc0 := 66) (pc' := 81) rfl (hb hby at_66) rfl (teq (rfl : (13 : Int32) = (13 : Int32))).1 (by decide) (by decide) kt) ?_
      refine own_go (A := T1.setTop (mkF m 82 #[.val (.int p1), .val (.int p2), .val (.int (p2 &&& (7 : Int32))), .val (.int (13 : Int32)), .val (.ref a1), .unset] [(.int (1 : Int32))])) (fun t kt => XS.iconst X1.here hx rfl (hb hby at_81) kt) ?_
      refine own_go (A := T1.setTop (mkF m 86 #[.val (.int p1), .val (.int p2), .val (.int (p2 &&& (7 : Int32))), .val (.int (13 : Int32)), .val (.ref a1), .unset] [(.int (1 : Int32))])) (fun t kt => XS.goto X1.here hx rfl (pc0 := 82) (pc' := 86) rfl (hb hby at_82) (by decide) (by decide) kt) ?_
      refine own_go (A := T1.setTop (mkF m 88 #[.val (.int p1), .val (.int p2), .val (.int (p2 &&& (7 : Int32))), .val (.int (13 : Int32)), .val (.ref a1), .val (.int (1 : Int32))] [])) (fun t kt => XS.istore X1.here hx rfl (hb hby at_86) rfl (l' := #[.val (.int p1), .val (.int p2), .val (.int (p2 &&& (7 : Int32))), .val (.int (13 : Int32)), .val (.ref a1), .val (.int (1 : Int32))]) rfl kt) ?_
      refine own_go (A := T1.setTop (mkF m 90 #[.val (.int p1), .val (.int p2), .val (.int (p2 &&& (7 : Int32))), .val (.int (13 : Int32)), .val (.ref a1), .val (.int (1 : Int32))] [(.int (1 : Int32))])) (fun t kt => XS.iload X1.here hx rfl (hb hby at_88) rfl kt) ?_
      refine own_go (A := T1.setTop (mkF m 104 #[.val (.int p1), .val (.int p2), .val (.int (p2 &&& (7 : Int32))), .val (.int (13 : Int32)), .val (.ref a1), .val (.int (1 : Int32))] [])) (fun t kt => XS.ifYes X1.here hx rfl (pc0 := 90) (pc' := 104) rfl (hb hby at_90) rfl ((if0 _ _).trans (feq (by decide : ¬ ((1 : Int32) = (0 : Int32)))).2) (by decide) (by decide) kt) ?_
      refine own_go (A := T1.setTop (mkF m 106 #[.val (.int p1), .val (.int p2), .val (.int (p2 &&& (7 : Int32))), .val (.int (13 : Int32)), .val (.ref a1), .val (.int (1 : Int32))] [(.ref a1)])) (fun t kt => XS.aload X1.here hx rfl (hb hby at_104) rfl rfl kt) ?_
      refine own_go (A := T1.setTop (mkF m 111 #[.val (.int p1), .val (.int p2), .val (.int (p2 &&& (7 : Int32))), .val (.int (13 : Int32)), .val (.ref a1), .val (.int (1 : Int32))] [])) (fun t kt => XS.ifnonnullYes X1.here hx rfl (pc0 := 106) (pc' := 111) rfl (hb hby at_106) rfl (by decide) (by decide) kt) ?_
      refine own_go (A := T1.setTop (mkF m 113 #[.val (.int p1), .val (.int p2), .val (.int (p2 &&& (7 : Int32))), .val (.int (13 : Int32)), .val (.ref a1), .val (.int (1 : Int32))] [(.ref a1)])) (fun t kt => XS.aload X1.here hx rfl (hb hby at_111) rfl rfl kt) ?_
      obtain ⟨_, _, ⟨T2, L2, k2, n2⟩, -, X2, ⟨Lc2, hQ2, l2, y2, z2⟩, st2⟩ := Jvm.LawKit.callS X1 hx (y := (⟨"com/example/coxt/coxt/output/XmlSerializerWhiteSpaceOrQuoteEscapePinLaw", "decode", "(Ljava/lang/String;)I"⟩ : MethodName)) hown (mvT hZ (hw _ (List.mem_of_getElem? (i := 12) rfl))) (mvT hZ (hw _ (List.mem_of_getElem? (i := 13) rfl))) (mvT hZ (hw _ (List.mem_of_getElem? (i := 14) rfl))) (mvT hZ (hw _ (List.mem_of_getElem? (i := 15) rfl))) (by decide) (backOf (W := 0) (rm2_13 l Z a0 hw [] a1 gC G3 T1.heap n0 (Nat.le_trans Z0 E1.1) St1 ((O2.ext X00.2).ext E1) hg1 rG3 ((O4.ext X00.2).ext E1)) hZ (hw _ (List.mem_of_getElem? (i := 15) rfl)) (hw _ (List.mem_of_getElem? (i := 14) rfl)) (by decide) (by decide)) (g := (mkF m 113 #[.val (.int p1), .val (.int p2), .val (.int (p2 &&& (7 : Int32))), .val (.int (13 : Int32)), .val (.ref a1), .val (.int (1 : Int32))] [(.ref a1)])) rfl (by rw [hml]; rfl) (argsL := [(.ref a1)]) (rest := []) (lenOf pd_2 rfl) rfl (by show 2 * 0 + _ ≤ _; exact Nat.le_of_eq rfl) (hb hby at_113) (fun _ _ => ⟨rfl, rfl, (by decide : 2 + 0 ≤ _), (by decide : 28 + 0 ≤ _)⟩)
      dsimp only [Pt.U, Pt.locs, Pt.cells, Pt.slots] at X2 l2 y2 z2 st2 hQ2
      subst l2 y2 z2
      obtain ⟨rfl, N2q, g2⟩ := hQ2
      have N2 := Fr.app N1 N2q
      refine own_go (A := T2.setTop (mkF m 116 #[.val (.int p1), .val (.int p2), .val (.int (p2 &&& (7 : Int32))), .val (.int (13 : Int32)), .val (.ref a1), .val (.int (1 : Int32))] [(.int (13 : Int32))])) st2 ?_
      refine own_go (A := T2.setTop (mkF m 117 #[.val (.int p1), .val (.int p2), .val (.int (p2 &&& (7 : Int32))), .val (.int (13 : Int32)), .val (.ref a1), .val (.int (1 : Int32))] [(.int (13 : Int32)), (.int (13 : Int32))])) (fun t kt => XS.iloadN X2.here hx rfl (hb hby at_116) rfl kt) ?_
      refine own_go (A := T2.setTop (mkF m 120 #[.val (.int p1), .val (.int p2), .val (.int (p2 &&& (7 : Int32))), .val (.int (13 : Int32)), .val (.ref a1), .val (.int (1 : Int32))] [])) (fun t kt => XS.icmpNo X2.here hx rfl (hb hby at_117) rfl (teq (rfl : (13 : Int32) = (13 : Int32))).2 kt) ?_
      refine own_go (A := T2.setTop (mkF m 121 #[.val (.int p1), .val (.int p2), .val (.int (p2 &&& (7 : Int32))), .val (.int (13 : Int32)), .val (.ref a1), .val (.int (1 : Int32))] [(.int (1 : Int32))])) (fun t kt => XS.iconst X2.here hx rfl (hb hby at_120) kt) ?_
      refine own_go (A := T2.setTop (mkF m 125 #[.val (.int p1), .val (.int p2), .val (.int (p2 &&& (7 : Int32))), .val (.int (13 : Int32)), .val (.ref a1), .val (.int (1 : Int32))] [(.int (1 : Int32))])) (fun t kt => XS.goto X2.here hx rfl (pc0 := 121) (pc' := 125) rfl (hb hby at_121) (by decide) (by decide) kt) ?_
      obtain ⟨fs, hr, hrun, hended, hRE⟩ := X2.leaveW hS1 (by rw [g2]; exact Nat.le_refl _) (v := some (.int (1 : Int32))) (fun h => by rw [Bd.returns] at h; cases h)
      exact ⟨_, _, retN X2 hx (t := .boolean) Bd.returns (by simp) (hb hby at_125) hr, hrun, hended, _, _, rfl, ⟨rfl, N2⟩, ⟨hRE.1, hRE.2.1, hRE.2.2.1, hRE.2.2.2.mono (by decide) (by decide)⟩⟩
    · refine own_go (A := s₁.setTop (mkF m 26 #[.val (.int p1), .val (.int p2), .val (.int (p2 &&& (7 : Int32))), .unset, .unset, .unset] [])) (fun t kt => XS.icmpYes X0.here hx rfl (pc0 := 17) (pc' := 26) rfl (hb hby at_17) rfl (feq hc17).2 (by decide) (by decide) kt) ?_
      refine own_go (A := s₁.setTop (mkF m 27 #[.val (.int p1), .val (.int p2), .val (.int (p2 &&& (7 : Int32))), .unset, .unset, .unset] [(.int (p2 &&& (7 : Int32)))])) (fun t kt => XS.iloadN X0.here hx rfl (hb hby at_26) rfl kt) ?_
      refine own_go (A := s₁.setTop (mkF m 28 #[.val (.int p1), .val (.int p2), .val (.int (p2 &&& (7 : Int32))), .unset, .unset, .unset] [(.int (2 : Int32)), (.int (p2 &&& (7 : Int32)))])) (fun t kt => XS.iconst X0.here hx rfl (hb hby at_27) kt) ?_
      by_cases hc28 : (p2 &&& (7 : Int32)) = (2 : Int32)
      · refine own_go (A := s₁.setTop (mkF m 31 #[.val (.int p1), .val (.int p2), .val (.int (p2 &&& (7 : Int32))), .unset, .unset, .unset] [])) (fun t kt => XS.icmpNo X0.here hx rfl (hb hby at_28) rfl (teq hc28).2 kt) ?_
        refine own_go (A := s₁.setTop (mkF m 33 #[.val (.int p1), .val (.int p2), .val (.int (p2 &&& (7 : Int32))), .unset, .unset, .unset] [(.int (10 : Int32))])) (fun t kt => XS.bipush X0.here hx rfl (hb hby at_31) kt) ?_
        refine own_go (A := s₁.setTop (mkF m 34 #[.val (.int p1), .val (.int p2), .val (.int (p2 &&& (7 : Int32))), .val (.int (10 : Int32)), .unset, .unset] [])) (fun t kt => XS.istoreN X0.here hx rfl (hb hby at_33) rfl (l' := #[.val (.int p1), .val (.int p2), .val (.int (p2 &&& (7 : Int32))), .val (.int (10 : Int32)), .unset, .unset]) rfl kt) ?_
        refine own_go (A := s₁.setTop (mkF m 51 #[.val (.int p1), .val (.int p2), .val (.int (p2 &&& (7 : Int32))), .val (.int (10 : Int32)), .unset, .unset] [])) (fun t kt => XS.goto X0.here hx rfl (pc0 := 34) (pc' := 51) rfl (hb hby at_34) (by decide) (by decide) kt) ?_
        refine own_go (A := s₁.setTop (mkF m 52 #[.val (.int p1), .val (.int p2), .val (.int (p2 &&& (7 : Int32))), .val (.int (10 : Int32)), .unset, .unset] [(.int (10 : Int32))])) (fun t kt => XS.iloadN X0.here hx rfl (hb hby at_51) rfl kt) ?_
        obtain ⟨_, _, ⟨T1, L1, k1, n1⟩, -, X1, hS1, hgr1, ⟨Lc1, hQ1, l1, y1, z1⟩, st1⟩ := callSS X0 hx (y := (⟨"com/example/coxt/coxt/output/XmlSerializer", "whiteSpaceOrQuoteEscape", "(C)Ljava/lang/String;"⟩ : MethodName)) hown (mvT hZ (hw _ (List.mem_of_getElem? (i := 0) rfl))) (mvT hZ (hw _ (List.mem_of_getElem? (i := 1) rfl))) (mvT hZ (hw _ (List.mem_of_getElem? (i := 2) rfl))) (mvT hZ (hw _ (List.mem_of_getElem? (i := 3) rfl))) (by decide) (own_backS (W := 0) (rm1_10 l Z a0 hw [] h0 n0 Z0 hH hcw X00) hZ hI (hw _ (List.mem_of_getElem? (i := 3) rfl)) (hw _ (List.mem_of_getElem? (i := 2) rfl)) (by decide) (by decide)) (g := (mkF m 52 #[.val (.int p1), .val (.int p2), .val (.int (p2 &&& (7 : Int32))), .val (.int (10 : Int32)), .unset, .unset] [(.int (10 : Int32))])) rfl (by rw [hml]; rfl) (argsL := [(.int (10 : Int32))]) (rest := []) (lenOf pd_1 rfl) rfl (by show 2 * 0 + _ ≤ _; exact Nat.le_of_eq rfl) (hb hby at_52) (fun _ _ => ⟨rfl, e0, (by decide : 0 + 2 ≤ _), (by decide : 0 + 28 ≤ _)⟩)
        dsimp only [Pt.U, Pt.locs, Pt.cells, Pt.slots] at X1 l1 y1 z1 st1 hQ1 hS1 hgr1
        subst l1 y1 z1
        obtain ⟨N1q, E1, a1, rfl, St1⟩ := hQ1
        have N1 := Fr.app N0 N1q
        have hown : (s.setVm T1.vm).vm.findClass "com/example/coxt/coxt/output/XmlSerializerWhiteSpaceOrQuoteEscapePinLaw" = some m.cls := by rw [show (s.setVm T1.vm).vm = T1.vm from rfl, hS1.1.alike.findClass]; exact hown
        have hZ : Z.Warmed39 (s.setVm T1.vm).vm := State.Warmed39.trans hZ hS1.1
        refine own_go (A := T1.setTop (mkF m 55 #[.val (.int p1), .val (.int p2), .val (.int (p2 &&& (7 : Int32))), .val (.int (10 : Int32)), .unset, .unset] [(.ref a1)])) (fun t kt => st1.trans kt) ?_
        refine own_go (A := T1.setTop (mkF m 57 #[.val (.int p1), .val (.int p2), .val (.int (p2 &&& (7 : Int32))), .val (.int (10 : Int32)), .val (.ref a1), .unset] [])) (fun t kt => XS.astore X1.here hx rfl (hb hby at_55) rfl rfl (l' := #[.val (.int p1), .val (.int p2), .val (.int (p2 &&& (7 : Int32))), .val (.int (10 : Int32)), .val (.ref a1), .unset]) rfl kt) ?_
        refine own_go (A := T1.setTop (mkF m 58 #[.val (.int p1), .val (.int p2), .val (.int (p2 &&& (7 : Int32))), .val (.int (10 : Int32)), .val (.ref a1), .unset] [(.int (10 : Int32))])) (fun t kt => XS.iloadN X1.here hx rfl (hb hby at_57) rfl kt) ?_
        refine own_go (A := T1.setTop (mkF m 60 #[.val (.int p1), .val (.int p2), .val (.int (p2 &&& (7 : Int32))), .val (.int (10 : Int32)), .val (.ref a1), .unset] [(.int (34 : Int32)), (.int (10 : Int32))])) (fun t kt => XS.bipush X1.here hx rfl (hb hby at_58) kt) ?_
        refine own_go (A := T1.setTop (mkF m 63 #[.val (.int p1), .val (.int p2), .val (.int (p2 &&& (7 : Int32))), .val (.int (10 : Int32)), .val (.ref a1), .unset] [])) (fun t kt => XS.icmpNo X1.here hx rfl (hb hby at_60) rfl (feq (by decide : ¬ ((10 : Int32) = (34 : Int32)))).1 kt) ?_
        refine own_go (A := T1.setTop (mkF m 64 #[.val (.int p1), .val (.int p2), .val (.int (p2 &&& (7 : Int32))), .val (.int (10 : Int32)), .val (.ref a1), .unset] [(.int (10 : Int32))])) (fun t kt => XS.iloadN X1.here hx rfl (hb hby at_63) rfl kt) ?_
        refine own_go (A := T1.setTop (mkF m 66 #[.val (.int p1), .val (.int p2), .val (.int (p2 &&& (7 : Int32))), .val (.int (10 : Int32)), .val (.ref a1), .unset] [(.int (13 : Int32)), (.int (10 : Int32))])) (fun t kt => XS.bipush X1.here hx rfl (hb hby at_64) kt) ?_
        refine own_go (A := T1.setTop (mkF m 69 #[.val (.int p1), .val (.int p2), .val (.int (p2 &&& (7 : Int32))), .val (.int (10 : Int32)), .val (.ref a1), .unset] [])) (fun t kt => XS.icmpNo X1.here hx rfl (hb hby at_66) rfl (feq (by decide : ¬ ((10 : Int32) = (13 : Int32)))).1 kt) ?_
        refine own_go (A := T1.setTop (mkF m 70 #[.val (.int p1), .val (.int p2), .val (.int (p2 &&& (7 : Int32))), .val (.int (10 : Int32)), .val (.ref a1), .unset] [(.int (10 : Int32))])) (fun t kt => XS.iloadN X1.here hx rfl (hb hby at_69) rfl kt) ?_
        refine own_go (A := T1.setTop (mkF m 72 #[.val (.int p1), .val (.int p2), .val (.int (p2 &&& (7 : Int32))), .val (.int (10 : Int32)), .val (.ref a1), .unset] [(.int (10 : Int32)), (.int (10 : Int32))])) (fun t kt => XS.bipush X1.here hx rfl (hb hby at_70) kt) ?_
        refine own_go (A := T1.setTop (mkF m 81 #[.val (.int p1), .val (.int p2), .val (.int (p2 &&& (7 : Int32))), .val (.int (10 : Int32)), .val (.ref a1), .unset] [])) (fun t kt => XS.icmpYes X1.here hx rfl (pc0 := 72) (pc' := 81) rfl (hb hby at_72) rfl (teq (rfl : (10 : Int32) = (10 : Int32))).1 (by decide) (by decide) kt) ?_
        refine own_go (A := T1.setTop (mkF m 82 #[.val (.int p1), .val (.int p2), .val (.int (p2 &&& (7 : Int32))), .val (.int (10 : Int32)), .val (.ref a1), .unset] [(.int (1 : Int32))])) (fun t kt => XS.iconst X1.here hx rfl (hb hby at_81) kt) ?_
        refine own_go (A := T1.setTop (mkF m 86 #[.val (.int p1), .val (.int p2), .val (.int (p2 &&& (7 : Int32))), .val (.int (10 : Int32)), .val (.ref a1), .unset] [(.int (1 : Int32))])) (fun t kt => XS.goto X1.here hx rfl (pc0 := 82) (pc' := 86) rfl (hb hby at_82) (by decide) (by decide) kt) ?_
        refine own_go (A := T1.setTop (mkF m 88 #[.val (.int p1), .val (.int p2), .val (.int (p2 &&& (7 : Int32))), .val (.int (10 : Int32)), .val (.ref a1), .val (.int (1 : Int32))] [])) (fun t kt => XS.istore X1.here hx rfl (hb hby at_86) rfl (l' := #[.val (.int p1), .val (.int p2), .val (.int (p2 &&& (7 : Int32))), .val (.int (10 : Int32)), .val (.ref a1), .val (.int (1 : Int32))]) rfl kt) ?_
        refine own_go (A := T1.setTop (mkF m 90 #[.val (.int p1), .val (.int p2), .val (.int (p2 &&& (7 : Int32))), .val (.int (10 : Int32)), .val (.ref a1), .val (.int (1 : Int32))] [(.int (1 : Int32))])) (fun t kt => XS.iload X1.here hx rfl (hb hby at_88) rfl kt) ?_
        refine own_go (A := T1.setTop (mkF m 104 #[.val (.int p1), .val (.int p2), .val (.int (p2 &&& (7 : Int32))), .val (.int (10 : Int32)), .val (.ref a1), .val (.int (1 : Int32))] [])) (fun t kt => XS.ifYes X1.here hx rfl (pc0 := 90) (pc' := 104) rfl (hb hby at_90) rfl ((if0 _ _).trans (feq (by decide : ¬ ((1 : Int32) = (0 : Int32)))).2) (by decide) (by decide) kt) ?_
        refine own_go (A := T1.setTop (mkF m 106 #[.val (.int p1), .val (.int p2), .val (.int (p2 &&& (7 : Int32))), .val (.int (10 : Int32)), .val (.ref a1), .val (.int (1 : Int32))] [(.ref a1)])) (fun t kt => XS.aload X1.here hx rfl (hb hby at_104) rfl rfl kt) ?_
        refine own_go (A := T1.setTop (mkF m 111 #[.val (.int p1), .val (.int p2), .val (.int (p2 &&& (7 : Int32))), .val (.int (10 : Int32)), .val (.ref a1), .val (.int (1 : Int32))] [])) (fun t kt => XS.ifnonnullYes X1.here hx rfl (pc0 := 106) (pc' := 111) rfl (hb hby at_106) rfl (by decide) (by decide) kt) ?_
        refine own_go (A := T1.setTop (mkF m 113 #[.val (.int p1), .val (.int p2), .val (.int (p2 &&& (7 : Int32))), .val (.int (10 : Int32)), .val (.ref a1), .val (.int (1 : Int32))] [(.ref a1)])) (fun t kt => XS.aload X1.here hx rfl (hb hby at_111) rfl rfl kt) ?_
        obtain ⟨_, _, ⟨T2, L2, k2, n2⟩, -, X2, ⟨Lc2, hQ2, l2, y2, z2⟩, st2⟩ := Jvm.LawKit.callS X1 hx (y := (⟨"com/example/coxt/coxt/output/XmlSerializerWhiteSpaceOrQuoteEscapePinLaw", "decode", "(Ljava/lang/String;)I"⟩ : MethodName)) hown (mvT hZ (hw _ (List.mem_of_getElem? (i := 12) rfl))) (mvT hZ (hw _ (List.mem_of_getElem? (i := 13) rfl))) (mvT hZ (hw _ (List.mem_of_getElem? (i := 14) rfl))) (mvT hZ (hw _ (List.mem_of_getElem? (i := 15) rfl))) (by decide) (backOf (W := 0) (rm2_10 l Z a0 hw [] a1 gC G3 T1.heap n0 (Nat.le_trans Z0 E1.1) St1 ((O2.ext X00.2).ext E1) hg1 rG3 ((O4.ext X00.2).ext E1)) hZ (hw _ (List.mem_of_getElem? (i := 15) rfl)) (hw _ (List.mem_of_getElem? (i := 14) rfl)) (by decide) (by decide)) (g := (mkF m 113 #[.val (.int p1), .val (.int p2), .val (.int (p2 &&& (7 : Int32))), .val (.int (10 : Int32)), .val (.ref a1), .val (.int (1 : Int32))] [(.ref a1)])) rfl (by rw [hml]; rfl) (argsL := [(.ref a1)]) (rest := []) (lenOf pd_2 rfl) rfl (by show 2 * 0 + _ ≤ _; exact Nat.le_of_eq rfl) (hb hby at_113) (fun _ _ => ⟨rfl, rfl, (by decide : 2 + 0 ≤ _), (by decide : 28 + 0 ≤ _)⟩)
        dsimp only [Pt.U, Pt.locs, Pt.cells, Pt.slots] at X2 l2 y2 z2 st2 hQ2
        subst l2 y2 z2
        obtain ⟨rfl, N2q, g2⟩ := hQ2
        have N2 := Fr.app N1 N2q
        refine own_go (A := T2.setTop (mkF m 116 #[.val (.int p1), .val (.int p2), .val (.int (p2 &&& (7 : Int32))), .val (.int (10 : Int32)), .val (.ref a1), .val (.int (1 : Int32))] [(.int (10 : Int32))])) st2 ?_
        refine own_go (A := T2.setTop (mkF m 117 #[.val (.int p1), .val (.int p2), .val (.int (p2 &&& (7 : Int32))), .val (.int (10 : Int32)), .val (.ref a1), .val (.int (1 : Int32))] [(.int (10 : Int32)), (.int (10 : Int32))])) (fun t kt => XS.iloadN X2.here hx rfl (hb hby at_116) rfl kt) ?_
        refine own_go (A := T2.setTop (mkF m 120 #[.val (.int p1), .val (.int p2), .val (.int (p2 &&& (7 : Int32))), .val (.int (10 : Int32)), .val (.ref a1), .val (.int (1 : Int32))] [])) (fun t kt => XS.icmpNo X2.here hx rfl (hb hby at_117) rfl (teq (rfl : (10 : Int32) = (10 : Int32))).2 kt) ?_
        refine own_go (A := T2.setTop (mkF m 121 #[.val (.int p1), .val (.int p2), .val (.int (p2 &&& (7 : Int32))), .val (.int (10 : Int32)), .val (.ref a1), .val (.int (1 : Int32))] [(.int (1 : Int32))])) (fun t kt => XS.iconst X2.here hx rfl (hb hby at_120) kt) ?_
        refine own_go (A := T2.setTop (mkF m 125 #[.val (.int p1), .val (.int p2), .val (.int (p2 &&& (7 : Int32))), .val (.int (10 : Int32)), .val (.ref a1), .val (.int (1 : Int32))] [(.int (1 : Int32))])) (fun t kt => XS.goto X2.here hx rfl (pc0 := 121) (pc' := 125) rfl (hb hby at_121) (by decide) (by decide) kt) ?_
        obtain ⟨fs, hr, hrun, hended, hRE⟩ := X2.leaveW hS1 (by rw [g2]; exact Nat.le_refl _) (v := some (.int (1 : Int32))) (fun h => by rw [Bd.returns] at h; cases h)
        exact ⟨_, _, retN X2 hx (t := .boolean) Bd.returns (by simp) (hb hby at_125) hr, hrun, hended, _, _, rfl, ⟨rfl, N2⟩, ⟨hRE.1, hRE.2.1, hRE.2.2.1, hRE.2.2.2.mono (by decide) (by decide)⟩⟩
      · refine own_go (A := s₁.setTop (mkF m 37 #[.val (.int p1), .val (.int p2), .val (.int (p2 &&& (7 : Int32))), .unset, .unset, .unset] [])) (fun t kt => XS.icmpYes X0.here hx rfl (pc0 := 28) (pc' := 37) rfl (hb hby at_28) rfl (feq hc28).2 (by decide) (by decide) kt) ?_
        refine own_go (A := s₁.setTop (mkF m 38 #[.val (.int p1), .val (.int p2), .val (.int (p2 &&& (7 : Int32))), .unset, .unset, .unset] [(.int (p2 &&& (7 : Int32)))])) (fun t kt => XS.iloadN X0.here hx rfl (hb hby at_37) rfl kt) ?_
        refine own_go (A := s₁.setTop (mkF m 39 #[.val (.int p1), .val (.int p2), .val (.int (p2 &&& (7 : Int32))), .unset, .unset, .unset] [(.int (3 : Int32)), (.int (p2 &&& (7 : Int32)))])) (fun t kt => XS.iconst X0.here hx rfl (hb hby at_38) kt) ?_
        by_cases hc39 : (p2 &&& (7 : Int32)) = (3 : Int32)
        · refine own_go (A := s₁.setTop (mkF m 42 #[.val (.int p1), .val (.int p2), .val (.int (p2 &&& (7 : Int32))), .unset, .unset, .unset] [])) (fun t kt => XS.icmpNo X0.here hx rfl (hb hby at_39) rfl (teq hc39).2 kt) ?_
          refine own_go (A := s₁.setTop (mkF m 44 #[.val (.int p1), .val (.int p2), .val (.int (p2 &&& (7 : Int32))), .unset, .unset, .unset] [(.int (9 : Int32))])) (fun t kt => XS.bipush X0.here hx rfl (hb hby at_42) kt) ?_
          refine own_go (A := s₁.setTop (mkF m 45 #[.val (.int p1), .val (.int p2), .val (.int (p2 &&& (7 : Int32))), .val (.int (9 : Int32)), .unset, .unset] [])) (fun t kt => XS.istoreN X0.here hx rfl (hb hby at_44) rfl (l' := #[.val (.int p1), .val (.int p2), .val (.int (p2 &&& (7 : Int32))), .val (.int (9 : Int32)), .unset, .unset]) rfl kt) ?_
          refine own_go (A := s₁.setTop (mkF m 51 #[.val (.int p1), .val (.int p2), .val (.int (p2 &&& (7 : Int32))), .val (.int (9 : Int32)), .unset, .unset] [])) (fun t kt => XS.goto X0.here hx rfl (pc0 := 45) (pc' := 51) rfl (hb hby at_45) (by decide) (by decide) kt) ?_
          refine own_go (A := s₁.setTop (mkF m 52 #[.val (.int p1), .val (.int p2), .val (.int (p2 &&& (7 : Int32))), .val (.int (9 : Int32)), .unset, .unset] [(.int (9 : Int32))])) (fun t kt => XS.iloadN X0.here hx rfl (hb hby at_51) rfl kt) ?_
          obtain ⟨_, _, ⟨T1, L1, k1, n1⟩, -, X1, hS1, hgr1, ⟨Lc1, hQ1, l1, y1, z1⟩, st1⟩ := callSS X0 hx (y := (⟨"com/example/coxt/coxt/output/XmlSerializer", "whiteSpaceOrQuoteEscape", "(C)Ljava/lang/String;"⟩ : MethodName)) hown (mvT hZ (hw _ (List.mem_of_getElem? (i := 0) rfl))) (mvT hZ (hw _ (List.mem_of_getElem? (i := 1) rfl))) (mvT hZ (hw _ (List.mem_of_getElem? (i := 2) rfl))) (mvT hZ (hw _ (List.mem_of_getElem? (i := 3) rfl))) (by decide) (own_backS (W := 0) (rm1_9 l Z a0 hw [] h0 n0 Z0 hH hcw X00) hZ hI (hw _ (List.mem_of_getElem? (i := 3) rfl)) (hw _ (List.mem_of_getElem? (i := 2) rfl)) (by decide) (by decide)) (g := (mkF m 52 #[.val (.int p1), .val (.int p2), .val (.int (p2 &&& (7 : Int32))), .val (.int (9 : Int32)), .unset, .unset] [(.int (9 : Int32))])) rfl (by rw [hml]; rfl) (argsL := [(.int (9 : Int32))]) (rest := []) (lenOf pd_1 rfl) rfl (by show 2 * 0 + _ ≤ _; exact Nat.le_of_eq rfl) (hb hby at_52) (fun _ _ => ⟨rfl, e0, (by decide : 0 + 2 ≤ _), (by decide : 0 + 28 ≤ _)⟩)
          dsimp only [Pt.U, Pt.locs, Pt.cells, Pt.slots] at X1 l1 y1 z1 st1 hQ1 hS1 hgr1
          subst l1 y1 z1
          obtain ⟨N1q, E1, a1, rfl, St1⟩ := hQ1
          have N1 := Fr.app N0 N1q
          have hown : (s.setVm T1.vm).vm.findClass "com/example/coxt/coxt/output/XmlSerializerWhiteSpaceOrQuoteEscapePinLaw" = some m.cls := by rw [show (s.setVm T1.vm).vm = T1.vm from rfl, hS1.1.alike.findClass]; exact hown
          have hZ : Z.Warmed39 (s.setVm T1.vm).vm := State.Warmed39.trans hZ hS1.1
          refine own_go (A := T1.setTop (mkF m 55 #[.val (.int p1), .val (.int p2), .val (.int (p2 &&& (7 : Int32))), .val (.int (9 : Int32)), .unset, .unset] [(.ref a1)])) (fun t kt => st1.trans kt) ?_
          refine own_go (A := T1.setTop (mkF m 57 #[.val (.int p1), .val (.int p2), .val (.int (p2 &&& (7 : Int32))), .val (.int (9 : Int32)), .val (.ref a1), .unset] [])) (fun t kt => XS.astore X1.here hx rfl (hb hby at_55) rfl rfl (l' := #[.val (.int p1), .val (.int p2), .val (.int (p2 &&& (7 : Int32))), .val (.int (9 : Int32)), .val (.ref a1), .unset]) rfl kt) ?_
          refine own_go (A := T1.setTop (mkF m 58 #[.val (.int p1), .val (.int p2), .val (.int (p2 &&& (7 : Int32))), .val (.int (9 : Int32)), .val (.ref a1), .unset] [(.int (9 : Int32))])) (fun t kt => XS.iloadN X1.here hx rfl (hb hby at_57) rfl kt) ?_
          refine own_go (A := T1.setTop (mkF m 60 #[.val (.int p1), .val (.int p2), .val (.int (p2 &&& (7 : Int32))), .val (.int (9 : Int32)), .val (.ref a1), .unset] [(.int (34 : Int32)), (.int (9 : Int32))])) (fun t kt => XS.bipush X1.here hx rfl (hb hby at_58) kt) ?_
          refine own_go (A := T1.setTop (mkF m 63 #[.val (.int p1), .val (.int p2), .val (.int (p2 &&& (7 : Int32))), .val (.int (9 : Int32)), .val (.ref a1), .unset] [])) (fun t kt => XS.icmpNo X1.here hx rfl (hb hby at_60) rfl (feq (by decide : ¬ ((9 : Int32) = (34 : Int32)))).1 kt) ?_
          refine own_go (A := T1.setTop (mkF m 64 #[.val (.int p1), .val (.int p2), .val (.int (p2 &&& (7 : Int32))), .val (.int (9 : Int32)), .val (.ref a1), .unset] [(.int (9 : Int32))])) (fun t kt => XS.iloadN X1.here hx rfl (hb hby at_63) rfl kt) ?_
          refine own_go (A := T1.setTop (mkF m 66 #[.val (.int p1), .val (.int p2), .val (.int (p2 &&& (7 : Int32))), .val (.int (9 : Int32)), .val (.ref a1), .unset] [(.int (13 : Int32)), (.int (9 : Int32))])) (fun t kt => XS.bipush X1.here hx rfl (hb hby at_64) kt) ?_
          refine own_go (A := T1.setTop (mkF m 69 #[.val (.int p1), .val (.int p2), .val (.int (p2 &&& (7 : Int32))), .val (.int (9 : Int32)), .val (.ref a1), .unset] [])) (fun t kt => XS.icmpNo X1.here hx rfl (hb hby at_66) rfl (feq (by decide : ¬ ((9 : Int32) = (13 : Int32)))).1 kt) ?_
          refine own_go (A := T1.setTop (mkF m 70 #[.val (.int p1), .val (.int p2), .val (.int (p2 &&& (7 : Int32))), .val (.int (9 : Int32)), .val (.ref a1), .unset] [(.int (9 : Int32))])) (fun t kt => XS.iloadN X1.here hx rfl (hb hby at_69) rfl kt) ?_
          refine own_go (A := T1.setTop (mkF m 72 #[.val (.int p1), .val (.int p2), .val (.int (p2 &&& (7 : Int32))), .val (.int (9 : Int32)), .val (.ref a1), .unset] [(.int (10 : Int32)), (.int (9 : Int32))])) (fun t kt => XS.bipush X1.here hx rfl (hb hby at_70) kt) ?_
          refine own_go (A := T1.setTop (mkF m 75 #[.val (.int p1), .val (.int p2), .val (.int (p2 &&& (7 : Int32))), .val (.int (9 : Int32)), .val (.ref a1), .unset] [])) (fun t kt => XS.icmpNo X1.here hx rfl (hb hby at_72) rfl (feq (by decide : ¬ ((9 : Int32) = (10 : Int32)))).1 kt) ?_
          refine own_go (A := T1.setTop (mkF m 76 #[.val (.int p1), .val (.int p2), .val (.int (p2 &&& (7 : Int32))), .val (.int (9 : Int32)), .val (.ref a1), .unset] [(.int (9 : Int32))])) (fun t kt => XS.iloadN X1.here hx rfl (hb hby at_75) rfl kt) ?_
          refine own_go (A := T1.setTop (mkF m 78 #[.val (.int p1), .val (.int p2), .val (.int (p2 &&& (7 : Int32))), .val (.int (9 : Int32)), .val (.ref a1), .unset] [(.int (9 : Int32)), (.int (9 : Int32))])) (fun t kt => XS.bipush X1.here hx rfl (hb hby at_76) kt) ?_
          refine own_go (A := T1.setTop (mkF m 81 #[.val (.int p1), .val (.int p2), .val (.int (p2 &&& (7 : Int32))), .val (.int (9 : Int32)), .val (.ref a1), .unset] [])) (fun t kt => XS.icmpNo X1.here hx rfl (hb hby at_78) rfl (teq (rfl : (9 : Int32) = (9 : Int32))).2 kt) ?_
          refine own_go (A := T1.setTop (mkF m 82 #[.val (.int p1), .val (.int p2), .val (.int (p2 &&& (7 : Int32))), .val (.int (9 : Int32)), .val (.ref a1), .unset] [(.int (1 : Int32))])) (fun t kt => XS.iconst X1.here hx rfl (hb hby at_81) kt) ?_
          refine own_go (A := T1.setTop (mkF m 86 #[.val (.int p1), .val (.int p2), .val (.int (p2 &&& (7 : Int32))), .val (.int (9 : Int32)), .val (.ref a1), .unset] [(.int (1 : Int32))])) (fun t kt => XS.goto X1.here hx rfl (pc0 := 82) (pc' := 86) rfl (hb hby at_82) (by decide) (by decide) kt) ?_
          refine own_go (A := T1.setTop (mkF m 88 #[.val (.int p1), .val (.int p2), .val (.int (p2 &&& (7 : Int32))), .val (.int (9 : Int32)), .val (.ref a1), .val (.int (1 : Int32))] [])) (fun t kt => XS.istore X1.here hx rfl (hb hby at_86) rfl (l' := #[.val (.int p1), .val (.int p2), .val (.int (p2 &&& (7 : Int32))), .val (.int (9 : Int32)), .val (.ref a1), .val (.int (1 : Int32))]) rfl kt) ?_
          refine own_go (A := T1.setTop (mkF m 90 #[.val (.int p1), .val (.int p2), .val (.int (p2 &&& (7 : Int32))), .val (.int (9 : Int32)), .val (.ref a1), .val (.int (1 : Int32))] [(.int (1 : Int32))])) (fun t kt => XS.iload X1.here hx rfl (hb hby at_88) rfl kt) ?_
          refine own_go (A := T1.setTop (mkF m 104 #[.val (.int p1), .val (.int p2), .val (.int (p2 &&& (7 : Int32))), .val (.int (9 : Int32)), .val (.ref a1), .val (.int (1 : Int32))] [])) (fun t kt => XS.ifYes X1.here hx rfl (pc0 := 90) (pc' := 104) rfl (hb hby at_90) rfl ((if0 _ _).trans (feq (by decide : ¬ ((1 : Int32) = (0 : Int32)))).2) (by decide) (by decide) kt) ?_
          refine own_go (A := T1.setTop (mkF m 106 #[.val (.int p1), .val (.int p2), .val (.int (p2 &&& (7 : Int32))), .val (.int (9 : Int32)), .val (.ref a1), .val (.int (1 : Int32))] [(.ref a1)])) (fun t kt => XS.aload X1.here hx rfl (hb hby at_104) rfl rfl kt) ?_
          refine own_go (A := T1.setTop (mkF m 111 #[.val (.int p1), .val (.int p2), .val (.int (p2 &&& (7 : Int32))), .val (.int (9 : Int32)), .val (.ref a1), .val (.int (1 : Int32))] [])) (fun t kt => XS.ifnonnullYes X1.here hx rfl (pc0 := 106) (pc' := 111) rfl (hb hby at_106) rfl (by decide) (by decide) kt) ?_
          refine own_go (A := T1.setTop (mkF m 113 #[.val (.int p1), .val (.int p2), .val (.int (p2 &&& (7 : Int32))), .val (.int (9 : Int32)), .val (.ref a1), .val (.int (1 : Int32))] [(.ref a1)])) (fun t kt => XS.aload X1.here hx rfl (hb hby at_111) rfl rfl kt) ?_
          obtain ⟨_, _, ⟨T2, L2, k2, n2⟩, -, X2, ⟨Lc2, hQ2, l2, y2, z2⟩, st2⟩ := Jvm.LawKit.callS X1 hx (y := (⟨"com/example/coxt/coxt/output/XmlSerializerWhiteSpaceOrQuoteEscapePinLaw", "decode", "(Ljava/lang/String;)I"⟩ : MethodName)) hown (mvT hZ (hw _ (List.mem_of_getElem? (i := 12) rfl))) (mvT hZ (hw _ (List.mem_of_getElem? (i := 13) rfl))) (mvT hZ (hw _ (List.mem_of_getElem? (i := 14) rfl))) (mvT hZ (hw _ (List.mem_of_getElem? (i := 15) rfl))) (by decide) (backOf (W := 0) (rm2_9 l Z a0 hw [] a1 gC G3 T1.heap n0 (Nat.le_trans Z0 E1.1) St1 ((O2.ext X00.2).ext E1) hg1 rG3 ((O4.ext X00.2).ext E1)) hZ (hw _ (List.mem_of_getElem? (i := 15) rfl)) (hw _ (List.mem_of_getElem? (i := 14) rfl)) (by decide) (by decide)) (g := (mkF m 113 #[.val (.int p1), .val (.int p2), .val (.int (p2 &&& (7 : Int32))), .val (.int (9 : Int32)), .val (.ref a1), .val (.int (1 : Int32))] [(.ref a1)])) rfl (by rw [hml]; rfl) (argsL := [(.ref a1)]) (rest := []) (lenOf pd_2 rfl) rfl (by show 2 * 0 + _ ≤ _; exact Nat.le_of_eq rfl) (hb hby at_113) (fun _ _ => ⟨rfl, rfl, (by decide : 2 + 0 ≤ _), (by decide : 28 + 0 ≤ _)⟩)
          dsimp only [Pt.U, Pt.locs, Pt.cells, Pt.slots] at X2 l2 y2 z2 st2 hQ2
          subst l2 y2 z2
          obtain ⟨rfl, N2q, g2⟩ := hQ2
          have N2 := Fr.app N1 N2q
          refine own_go (A := T2.setTop (mkF m 116 #[.val (.int p1), .val (.int p2), .val (.int (p2 &&& (7 : Int32))), .val (.int (9 : Int32)), .val (.ref a1), .val (.int (1 : Int32))] [(.int (9 : Int32))])) st2 ?_
          refine own_go (A := T2.setTop (mkF m 117 #[.val (.int p1), .val (.int p2), .val (.int (p2 &&& (7 : Int32))), .val (.int (9 : Int32)), .val (.ref a1), .val (.int (1 : Int32))] [(.int (9 : Int32)), (.int (9 : Int32))])) (fun t kt => XS.iloadN X2.here hx rfl (hb hby at_116) rfl kt) ?_
          refine own_go (A := T2.setTop (mkF m 120 #[.val (.int p1), .val (.int p2), .val (.int (p2 &&& (7 : Int32))), .val (.int (9 : Int32)), .val (.ref a1), .val (.int (1 : Int32))] [])) (fun t kt => XS.icmpNo X2.here hx rfl (hb hby at_117) rfl (teq (rfl : (9 : Int32) = (9 : Int32))).2 kt) ?_
          refine own_go (A := T2.setTop (mkF m 121 #[.val (.int p1), .val (.int p2), .val (.int (p2 &&& (7 : Int32))), .val (.int (9 : Int32)), .val (.ref a1), .val (.int (1 : Int32))] [(.int (1 : Int32))])) (fun t kt => XS.iconst X2.here hx rfl (hb hby at_120) kt) ?_
          refine own_go (A := T2.setTop (mkF m 125 #[.val (.int p1), .val (.int p2), .val (.int (p2 &&& (7 : Int32))), .val (.int (9 : Int32)), .val (.ref a1), .val (.int (1 : Int32))] [(.int (1 : Int32))])) (fun t kt => XS.goto X2.here hx rfl (pc0 := 121) (pc' := 125) rfl (hb hby at_121) (by decide) (by decide) kt) ?_
          obtain ⟨fs, hr, hrun, hended, hRE⟩ := X2.leaveW hS1 (by rw [g2]; exact Nat.le_refl _) (v := some (.int (1 : Int32))) (fun h => by rw [Bd.returns] at h; cases h)
          exact ⟨_, _, retN X2 hx (t := .boolean) Bd.returns (by simp) (hb hby at_125) hr, hrun, hended, _, _, rfl, ⟨rfl, N2⟩, ⟨hRE.1, hRE.2.1, hRE.2.2.1, hRE.2.2.2.mono (by decide) (by decide)⟩⟩
        · refine own_go (A := s₁.setTop (mkF m 48 #[.val (.int p1), .val (.int p2), .val (.int (p2 &&& (7 : Int32))), .unset, .unset, .unset] [])) (fun t kt => XS.icmpYes X0.here hx rfl (pc0 := 39) (pc' := 48) rfl (hb hby at_39) rfl (feq hc39).2 (by decide) (by decide) kt) ?_
          refine own_go (A := s₁.setTop (mkF m 49 #[.val (.int p1), .val (.int p2), .val (.int (p2 &&& (7 : Int32))), .unset, .unset, .unset] [(.int p1)])) (fun t kt => XS.iloadN X0.here hx rfl (hb hby at_48) rfl kt) ?_
          refine own_go (A := s₁.setTop (mkF m 50 #[.val (.int p1), .val (.int p2), .val (.int (p2 &&& (7 : Int32))), .unset, .unset, .unset] [(.int (p1.toUInt32.toUInt16.toUInt32.toInt32))])) (fun t kt => XS.i2c X0.here hx rfl (hb hby at_49) rfl kt) ?_
          refine own_go (A := s₁.setTop (mkF m 51 #[.val (.int p1), .val (.int p2), .val (.int (p2 &&& (7 : Int32))), .val (.int (p1.toUInt32.toUInt16.toUInt32.toInt32)), .unset, .unset] [])) (fun t kt => XS.istoreN X0.here hx rfl (hb hby at_50) rfl (l' := #[.val (.int p1), .val (.int p2), .val (.int (p2 &&& (7 : Int32))), .val (.int (p1.toUInt32.toUInt16.toUInt32.toInt32)), .unset, .unset]) rfl kt) ?_
          generalize (p1.toUInt32.toUInt16.toUInt32.toInt32) = cc
          by_cases h34 : cc = (34 : Int32)
          · subst h34
            refine own_go (A := s₁.setTop (mkF m 52 #[.val (.int p1), .val (.int p2), .val (.int (p2 &&& (7 : Int32))), .val (.int (34 : Int32)), .unset, .unset] [(.int (34 : Int32))])) (fun t kt => XS.iloadN X0.here hx rfl (hb hby at_51) rfl kt) ?_
            obtain ⟨_, _, ⟨T1, L1, k1, n1⟩, -, X1, hS1, hgr1, ⟨Lc1, hQ1, l1, y1, z1⟩, st1⟩ := callSS X0 hx (y := (⟨"com/example/coxt/coxt/output/XmlSerializer", "whiteSpaceOrQuoteEscape", "(C)Ljava/lang/String;"⟩ : MethodName)) hown (mvT hZ (hw _ (List.mem_of_getElem? (i := 0) rfl))) (mvT hZ (hw _ (List.mem_of_getElem? (i := 1) rfl))) (mvT hZ (hw _ (List.mem_of_getElem? (i := 2) rfl))) (mvT hZ (hw _ (List.mem_of_getElem? (i := 3) rfl))) (by decide) (own_backS (W := 0) (rm1_34 l Z a0 hw [] h0 n0 Z0 hH hcw X00) hZ hI (hw _ (List.mem_of_getElem? (i := 3) rfl)) (hw _ (List.mem_of_getElem? (i := 2) rfl)) (by decide) (by decide)) (g := (mkF m 52 #[.val (.int p1), .val (.int p2), .val (.int (p2 &&& (7 : Int32))), .val (.int (34 : Int32)), .unset, .unset] [(.int (34 : Int32))])) rfl (by rw [hml]; rfl) (argsL := [(.int (34 : Int32))]) (rest := []) (lenOf pd_1 rfl) rfl (by show 2 * 0 + _ ≤ _; exact Nat.le_of_eq rfl) (hb hby at_52) (fun _ _ => ⟨rfl, e0, (by decide : 0 + 2 ≤ _), (by decide : 0 + 28 ≤ _)⟩)
            dsimp only [Pt.U, Pt.locs, Pt.cells, Pt.slots] at X1 l1 y1 z1 st1 hQ1 hS1 hgr1
            subst l1 y1 z1
            obtain ⟨N1q, E1, a1, rfl, St1⟩ := hQ1
            have N1 := Fr.app N0 N1q
            have hown : (s.setVm T1.vm).vm.findClass "com/example/coxt/coxt/output/XmlSerializerWhiteSpaceOrQuoteEscapePinLaw" = some m.cls := by rw [show (s.setVm T1.vm).vm = T1.vm from rfl, hS1.1.alike.findClass]; exact hown
            have hZ : Z.Warmed39 (s.setVm T1.vm).vm := State.Warmed39.trans hZ hS1.1
            refine own_go (A := T1.setTop (mkF m 55 #[.val (.int p1), .val (.int p2), .val (.int (p2 &&& (7 : Int32))), .val (.int (34 : Int32)), .unset, .unset] [(.ref a1)])) (fun t kt => st1.trans kt) ?_
            refine own_go (A := T1.setTop (mkF m 57 #[.val (.int p1), .val (.int p2), .val (.int (p2 &&& (7 : Int32))), .val (.int (34 : Int32)), .val (.ref a1), .unset] [])) (fun t kt => XS.astore X1.here hx rfl (hb hby at_55) rfl rfl (l' := #[.val (.int p1), .val (.int p2), .val (.int (p2 &&& (7 : Int32))), .val (.int (34 : Int32)), .val (.ref a1), .unset]) rfl kt) ?_
            refine own_go (A := T1.setTop (mkF m 58 #[.val (.int p1), .val (.int p2), .val (.int (p2 &&& (7 : Int32))), .val (.int (34 : Int32)), .val (.ref a1), .unset] [(.int (34 : Int32))])) (fun t kt => XS.iloadN X1.here hx rfl (hb hby at_57) rfl kt) ?_
            refine own_go (A := T1.setTop (mkF m 60 #[.val (.int p1), .val (.int p2), .val (.int (p2 &&& (7 : Int32))), .val (.int (34 : Int32)), .val (.ref a1), .unset] [(.int (34 : Int32)), (.int (34 : Int32))])) (fun t kt => XS.bipush X1.here hx rfl (hb hby at_58) kt) ?_
            refine own_go (A := T1.setTop (mkF m 81 #[.val (.int p1), .val (.int p2), .val (.int (p2 &&& (7 : Int32))), .val (.int (34 : Int32)), .val (.ref a1), .unset] [])) (fun t kt => XS.icmpYes X1.here hx rfl (pc0 := 60) (pc' := 81) rfl (hb hby at_60) rfl (teq (rfl : (34 : Int32) = (34 : Int32))).1 (by decide) (by decide) kt) ?_
            refine own_go (A := T1.setTop (mkF m 82 #[.val (.int p1), .val (.int p2), .val (.int (p2 &&& (7 : Int32))), .val (.int (34 : Int32)), .val (.ref a1), .unset] [(.int (1 : Int32))])) (fun t kt => XS.iconst X1.here hx rfl (hb hby at_81) kt) ?_
            refine own_go (A := T1.setTop (mkF m 86 #[.val (.int p1), .val (.int p2), .val (.int (p2 &&& (7 : Int32))), .val (.int (34 : Int32)), .val (.ref a1), .unset] [(.int (1 : Int32))])) (fun t kt => XS.goto X1.here hx rfl (pc0 := 82) (pc' := 86) rfl (hb hby at_82) (by decide) (by decide) kt) ?_
            refine own_go (A := T1.setTop (mkF m 88 #[.val (.int p1), .val (.int p2), .val (.int (p2 &&& (7 : Int32))), .val (.int (34 : Int32)), .val (.ref a1), .val (.int (1 : Int32))] [])) (fun t kt => XS.istore X1.here hx rfl (hb hby at_86) rfl (l' := #[.val (.int p1), .val (.int p2), .val (.int (p2 &&& (7 : Int32))), .val (.int (34 : Int32)), .val (.ref a1), .val (.int (1 : Int32))]) rfl kt) ?_
            refine own_go (A := T1.setTop (mkF m 90 #[.val (.int p1), .val (.int p2), .val (.int (p2 &&& (7 : Int32))), .val (.int (34 : Int32)), .val (.ref a1), .val (.int (1 : Int32))] [(.int (1 : Int32))])) (fun t kt => XS.iload X1.here hx rfl (hb hby at_88) rfl kt) ?_
            refine own_go (A := T1.setTop (mkF m 104 #[.val (.int p1), .val (.int p2), .val (.int (p2 &&& (7 : Int32))), .val (.int (34 : Int32)), .val (.ref a1), .val (.int (1 : Int32))] [])) (fun t kt => XS.ifYes X1.here hx rfl (pc0 := 90) (pc' := 104) rfl (hb hby at_90) rfl ((if0 _ _).trans (feq (by decide : ¬ ((1 : Int32) = (0 : Int32)))).2) (by decide) (by decide) kt) ?_
            refine own_go (A := T1.setTop (mkF m 106 #[.val (.int p1), .val (.int p2), .val (.int (p2 &&& (7 : Int32))), .val (.int (34 : Int32)), .val (.ref a1), .val (.int (1 : Int32))] [(.ref a1)])) (fun t kt => XS.aload X1.here hx rfl (hb hby at_104) rfl rfl kt) ?_
            refine own_go (A := T1.setTop (mkF m 111 #[.val (.int p1), .val (.int p2), .val (.int (p2 &&& (7 : Int32))), .val (.int (34 : Int32)), .val (.ref a1), .val (.int (1 : Int32))] [])) (fun t kt => XS.ifnonnullYes X1.here hx rfl (pc0 := 106) (pc' := 111) rfl (hb hby at_106) rfl (by decide) (by decide) kt) ?_
            refine own_go (A := T1.setTop (mkF m 113 #[.val (.int p1), .val (.int p2), .val (.int (p2 &&& (7 : Int32))), .val (.int (34 : Int32)), .val (.ref a1), .val (.int (1 : Int32))] [(.ref a1)])) (fun t kt => XS.aload X1.here hx rfl (hb hby at_111) rfl rfl kt) ?_
            obtain ⟨_, _, ⟨T2, L2, k2, n2⟩, -, X2, ⟨Lc2, hQ2, l2, y2, z2⟩, st2⟩ := Jvm.LawKit.callS X1 hx (y := (⟨"com/example/coxt/coxt/output/XmlSerializerWhiteSpaceOrQuoteEscapePinLaw", "decode", "(Ljava/lang/String;)I"⟩ : MethodName)) hown (mvT hZ (hw _ (List.mem_of_getElem? (i := 12) rfl))) (mvT hZ (hw _ (List.mem_of_getElem? (i := 13) rfl))) (mvT hZ (hw _ (List.mem_of_getElem? (i := 14) rfl))) (mvT hZ (hw _ (List.mem_of_getElem? (i := 15) rfl))) (by decide) (backOf (W := 0) (rm2_34 l Z a0 hw [] a1 gC G3 T1.heap n0 (Nat.le_trans Z0 E1.1) St1 ((O2.ext X00.2).ext E1) hg1 rG3 ((O4.ext X00.2).ext E1)) hZ (hw _ (List.mem_of_getElem? (i := 15) rfl)) (hw _ (List.mem_of_getElem? (i := 14) rfl)) (by decide) (by decide)) (g := (mkF m 113 #[.val (.int p1), .val (.int p2), .val (.int (p2 &&& (7 : Int32))), .val (.int (34 : Int32)), .val (.ref a1), .val (.int (1 : Int32))] [(.ref a1)])) rfl (by rw [hml]; rfl) (argsL := [(.ref a1)]) (rest := []) (lenOf pd_2 rfl) rfl (by show 2 * 0 + _ ≤ _; exact Nat.le_of_eq rfl) (hb hby at_113) (fun _ _ => ⟨rfl, rfl, (by decide : 2 + 0 ≤ _), (by decide : 28 + 0 ≤ _)⟩)
            dsimp only [Pt.U, Pt.locs, Pt.cells, Pt.slots] at X2 l2 y2 z2 st2 hQ2
            subst l2 y2 z2
            obtain ⟨rfl, N2q, g2⟩ := hQ2
            have N2 := Fr.app N1 N2q
            refine own_go (A := T2.setTop (mkF m 116 #[.val (.int p1), .val (.int p2), .val (.int (p2 &&& (7 : Int32))), .val (.int (34 : Int32)), .val (.ref a1), .val (.int (1 : Int32))] [(.int (34 : Int32))])) st2 ?_
            refine own_go (A := T2.setTop (mkF m 117 #[.val (.int p1), .val (.int p2), .val (.int (p2 &&& (7 : Int32))), .val (.int (34 : Int32)), .val (.ref a1), .val (.int (1 : Int32))] [(.int (34 : Int32)), (.int (34 : Int32))])) (fun t kt => XS.iloadN X2.here hx rfl (hb hby at_116) rfl kt) ?_
            refine own_go (A := T2.setTop (mkF m 120 #[.val (.int p1), .val (.int p2), .val (.int (p2 &&& (7 : Int32))), .val (.int (34 : Int32)), .val (.ref a1), .val (.int (1 : Int32))] [])) (fun t kt => XS.icmpNo X2.here hx rfl (hb hby at_117) rfl (teq (rfl : (34 : Int32) = (34 : Int32))).2 kt) ?_
            refine own_go (A := T2.setTop (mkF m 121 #[.val (.int p1), .val (.int p2), .val (.int (p2 &&& (7 : Int32))), .val (.int (34 : Int32)), .val (.ref a1), .val (.int (1 : Int32))] [(.int (1 : Int32))])) (fun t kt => XS.iconst X2.here hx rfl (hb hby at_120) kt) ?_
            refine own_go (A := T2.setTop (mkF m 125 #[.val (.int p1), .val (.int p2), .val (.int (p2 &&& (7 : Int32))), .val (.int (34 : Int32)), .val (.ref a1), .val (.int (1 : Int32))] [(.int (1 : Int32))])) (fun t kt => XS.goto X2.here hx rfl (pc0 := 121) (pc' := 125) rfl (hb hby at_121) (by decide) (by decide) kt) ?_
            obtain ⟨fs, hr, hrun, hended, hRE⟩ := X2.leaveW hS1 (by rw [g2]; exact Nat.le_refl _) (v := some (.int (1 : Int32))) (fun h => by rw [Bd.returns] at h; cases h)
            exact ⟨_, _, retN X2 hx (t := .boolean) Bd.returns (by simp) (hb hby at_125) hr, hrun, hended, _, _, rfl, ⟨rfl, N2⟩, ⟨hRE.1, hRE.2.1, hRE.2.2.1, hRE.2.2.2.mono (by decide) (by decide)⟩⟩
          · by_cases h13 : cc = (13 : Int32)
            · subst h13
              refine own_go (A := s₁.setTop (mkF m 52 #[.val (.int p1), .val (.int p2), .val (.int (p2 &&& (7 : Int32))), .val (.int (13 : Int32)), .unset, .unset] [(.int (13 : Int32))])) (fun t kt => XS.iloadN X0.here hx rfl (hb hby at_51) rfl kt) ?_
              obtain ⟨_, _, ⟨T1, L1, k1, n1⟩, -, X1, hS1, hgr1, ⟨Lc1, hQ1, l1, y1, z1⟩, st1⟩ := callSS X0 hx (y := (⟨"com/example/coxt/coxt/output/XmlSerializer", "whiteSpaceOrQuoteEscape", "(C)Ljava/lang/String;"⟩ : MethodName)) hown (mvT hZ (hw _ (List.mem_of_getElem? (i := 0) rfl))) (mvT hZ (hw _ (List.mem_of_getElem? (i := 1) rfl))) (mvT hZ (hw _ (List.mem_of_getElem? (i := 2) rfl))) (mvT hZ (hw _ (List.mem_of_getElem? (i := 3) rfl))) (by decide) (own_backS (W := 0) (rm1_13 l Z a0 hw [] h0 n0 Z0 hH hcw X00) hZ hI (hw _ (List.mem_of_getElem? (i := 3) rfl)) (hw _ (List.mem_of_getElem? (i := 2) rfl)) (by decide) (by decide)) (g := (mkF m 52 #[.val (.int p1), .val (.int p2), .val (.int (p2 &&& (7 : Int32))), .val (.int (13 : Int32)), .unset, .unset] [(.int (13 : Int32))])) rfl (by rw [hml]; rfl) (argsL := [(.int (13 : Int32))]) (rest := []) (lenOf pd_1 rfl) rfl (by show 2 * 0 + _ ≤ _; exact Nat.le_of_eq rfl) (hb hby at_52) (fun _ _ => ⟨rfl, e0, (by decide : 0 + 2 ≤ _), (by decide : 0 + 28 ≤ _)⟩)
              dsimp only [Pt.U, Pt.locs, Pt.cells, Pt.slots] at X1 l1 y1 z1 st1 hQ1 hS1 hgr1
              subst l1 y1 z1
              obtain ⟨N1q, E1, a1, rfl, St1⟩ := hQ1
              have N1 := Fr.app N0 N1q
              have hown : (s.setVm T1.vm).vm.findClass "com/example/coxt/coxt/output/XmlSerializerWhiteSpaceOrQuoteEscapePinLaw" = some m.cls := by rw [show (s.setVm T1.vm).vm = T1.vm from rfl, hS1.1.alike.findClass]; exact hown
              have hZ : Z.Warmed39 (s.setVm T1.vm).vm := State.Warmed39.trans hZ hS1.1
              refine own_go (A := T1.setTop (mkF m 55 #[.val (.int p1), .val (.int p2), .val (.int (p2 &&& (7 : Int32))), .val (.int (13 : Int32)), .unset, .unset] [(.ref a1)])) (fun t kt => st1.trans kt) ?_
              refine own_go (A := T1.setTop (mkF m 57 #[.val (.int p1), .val (.int p2), .val (.int (p2 &&& (7 : Int32))), .val (.int (13 : Int32)), .val (.ref a1), .unset] [])) (fun t kt => XS.astore X1.here hx rfl (hb hby at_55) rfl rfl (l' := #[.val (.int p1), .val (.int p2), .val (.int (p2 &&& (7 : Int32))), .val (.int (13 : Int32)), .val (.ref a1), .unset]) rfl kt) ?_
              refine own_go (A := T1.setTop (mkF m 58 #[.val (.int p1), .val (.int p2), .val (.int (p2 &&& (7 : Int32))), .val (.int (13 : Int32)), .val (.ref a1), .unset] [(.int (13 : Int32))])) (fun t kt => XS.iloadN X1.here hx rfl (hb hby at_57) rfl kt) ?_
              refine own_go (A := T1.setTop (mkF m 60 #[.val (.int p1), .val (.int p2), .val (.int (p2 &&& (7 : Int32))), .val (.int (13 : Int32)), .val (.ref a1), .unset] [(.int (34 : Int32)), (.int (13 : Int32))])) (fun t kt => XS.bipush X1.here hx rfl (hb hby at_58) kt) ?_
              refine own_go (A := T1.setTop (mkF m 63 #[.val (.int p1), .val (.int p2), .val (.int (p2 &&& (7 : Int32))), .val (.int (13 : Int32)), .val (.ref a1), .unset] [])) (fun t kt => XS.icmpNo X1.here hx rfl (hb hby at_60) rfl (feq (by decide : ¬ ((13 : Int32) = (34 : Int32)))).1 kt) ?_
              refine own_go (A := T1.setTop (mkF m 64 #[.val (.int p1), .val (.int p2), .val (.int (p2 &&& (7 : Int32))), .val (.int (13 : Int32)), .val (.ref a1), .unset] [(.int (13 : Int32))])) (fun t kt => XS.iloadN X1.here hx rfl (hb hby at_63) rfl kt) ?_
              refine own_go (A := T1.setTop (mkF m 66 #[.val (.int p1), .val (.int p2), .val (.int (p2 &&& (7 : Int32))), .val (.int (13 : Int32)), .val (.ref a1), .unset] [(.int (13 : Int32)), (.int (13 : Int32))])) (fun t kt => XS.bipush X1.here hx rfl (hb hby at_64) kt) ?_
              refine own_go (A := T1.setTop (mkF m 81 #[.val (.int p1), .val (.int p2), .val (.int (p2 &&& (7 : Int32))), .val (.int (13 : Int32)), .val (.ref a1), .unset] [])) (fun t kt => XS.icmpYes X1.here hx rfl (pc0 := 66) (pc' := 81) rfl (hb hby at_66) rfl (teq (rfl : (13 : Int32) = (13 : Int32))).1 (by decide) (by decide) kt) ?_
              refine own_go (A := T1.setTop (mkF m 82 #[.val (.int p1), .val (.int p2), .val (.int (p2 &&& (7 : Int32))), .val (.int (13 : Int32)), .val (.ref a1), .unset] [(.int (1 : Int32))])) (fun t kt => XS.iconst X1.here hx rfl (hb hby at_81) kt) ?_
              refine own_go (A := T1.setTop (mkF m 86 #[.val (.int p1), .val (.int p2), .val (.int (p2 &&& (7 : Int32))), .val (.int (13 : Int32)), .val (.ref a1), .unset] [(.int (1 : Int32))])) (fun t kt => XS.goto X1.here hx rfl (pc0 := 82) (pc' := 86) rfl (hb hby at_82) (by decide) (by decide) kt) ?_
              refine own_go (A := T1.setTop (mkF m 88 #[.val (.int p1), .val (.int p2), .val (.int (p2 &&& (7 : Int32))), .val (.int (13 : Int32)), .val (.ref a1), .val (.int (1 : Int32))] [])) (fun t kt => XS.istore X1.here hx rfl (hb hby at_86) rfl (l' := #[.val (.int p1), .val (.int p2), .val (.int (p2 &&& (7 : Int32))), .val (.int (13 : Int32)), .val (.ref a1), .val (.int (1 : Int32))]) rfl kt) ?_
              refine own_go (A := T1.setTop (mkF m 90 #[.val (.int p1), .val (.int p2), .val (.int (p2 &&& (7 : Int32))), .val (.int (13 : Int32)), .val (.ref a1), .val (.int (1 : Int32))] [(.int (1 : Int32))])) (fun t kt => XS.iload X1.here hx rfl (hb hby at_88) rfl kt) ?_
              refine own_go (A := T1.setTop (mkF m 104 #[.val (.int p1), .val (.int p2), .val (.int (p2 &&& (7 : Int32))), .val (.int (13 : Int32)), .val (.ref a1), .val (.int (1 : Int32))] [])) (fun t kt => XS.ifYes X1.here hx rfl (pc0 := 90) (pc' := 104) rfl (hb hby at_90) rfl ((if0 _ _).trans (feq (by decide : ¬ ((1 : Int32) = (0 : Int32)))).2) (by decide) (by decide) kt) ?_
              refine own_go (A := T1.setTop (mkF m 106 #[.val (.int p1), .val (.int p2), .val (.int (p2 &&& (7 : Int32))), .val (.int (13 : Int32)), .val (.ref a1), .val (.int (1 : Int32))] [(.ref a1)])) (fun t kt => XS.aload X1.here hx rfl (hb hby at_104) rfl rfl kt) ?_
              refine own_go (A := T1.setTop (mkF m 111 #[.val (.int p1), .val (.int p2), .val (.int (p2 &&& (7 : Int32))), .val (.int (13 : Int32)), .val (.ref a1), .val (.int (1 : Int32))] [])) (fun t kt => XS.ifnonnullYes X1.here hx rfl (pc0 := 106) (pc' := 111) rfl (hb hby at_106) rfl (by decide) (by decide) kt) ?_
              refine own_go (A := T1.setTop (mkF m 113 #[.val (.int p1), .val (.int p2), .val (.int (p2 &&& (7 : Int32))), .val (.int (13 : Int32)), .val (.ref a1), .val (.int (1 : Int32))] [(.ref a1)])) (fun t kt => XS.aload X1.here hx rfl (hb hby at_111) rfl rfl kt) ?_
              obtain ⟨_, _, ⟨T2, L2, k2, n2⟩, -, X2, ⟨Lc2, hQ2, l2, y2, z2⟩, st2⟩ := Jvm.LawKit.callS X1 hx (y := (⟨"com/example/coxt/coxt/output/XmlSerializerWhiteSpaceOrQuoteEscapePinLaw", "decode", "(Ljava/lang/String;)I"⟩ : MethodName)) hown (mvT hZ (hw _ (List.mem_of_getElem? (i := 12) rfl))) (mvT hZ (hw _ (List.mem_of_getElem? (i := 13) rfl))) (mvT hZ (hw _ (List.mem_of_getElem? (i := 14) rfl))) (mvT hZ (hw _ (List.mem_of_getElem? (i := 15) rfl))) (by decide) (backOf (W := 0) (rm2_13 l Z a0 hw [] a1 gC G3 T1.heap n0 (Nat.le_trans Z0 E1.1) St1 ((O2.ext X00.2).ext E1) hg1 rG3 ((O4.ext X00.2).ext E1)) hZ (hw _ (List.mem_of_getElem? (i := 15) rfl)) (hw _ (List.mem_of_getElem? (i := 14) rfl)) (by decide) (by decide)) (g := (mkF m 113 #[.val (.int p1), .val (.int p2), .val (.int (p2 &&& (7 : Int32))), .val (.int (13 : Int32)), .val (.ref a1), .val (.int (1 : Int32))] [(.ref a1)])) rfl (by rw [hml]; rfl) (argsL := [(.ref a1)]) (rest := []) (lenOf pd_2 rfl) rfl (by show 2 * 0 + _ ≤ _; exact Nat.le_of_eq rfl) (hb hby at_113) (fun _ _ => ⟨rfl, rfl, (by decide : 2 + 0 ≤ _), (by decide : 28 + 0 ≤ _)⟩)
              dsimp only [Pt.U, Pt.locs, Pt.cells, Pt.slots] at X2 l2 y2 z2 st2 hQ2
              subst l2 y2 z2
              obtain ⟨rfl, N2q, g2⟩ := hQ2
              have N2 := Fr.app N1 N2q
              refine own_go (A := T2.setTop (mkF m 116 #[.val (.int p1), .val (.int p2), .val (.int (p2 &&& (7 : Int32))), .val (.int (13 : Int32)), .val (.ref a1), .val (.int (1 : Int32))] [(.int (13 : Int32))])) st2 ?_
              refine own_go (A := T2.setTop (mkF m 117 #[.val (.int p1), .val (.int p2), .val (.int (p2 &&& (7 : Int32))), .val (.int (13 : Int32)), .val (.ref a1), .val (.int (1 : Int32))] [(.int (13 : Int32)), (.int (13 : Int32))])) (fun t kt => XS.iloadN X2.here hx rfl (hb hby at_116) rfl kt) ?_
              refine own_go (A := T2.setTop (mkF m 120 #[.val (.int p1), .val (.int p2), .val (.int (p2 &&& (7 : Int32))), .val (.int (13 : Int32)), .val (.ref a1), .val (.int (1 : Int32))] [])) (fun t kt => XS.icmpNo X2.here hx rfl (hb hby at_117) rfl (teq (rfl : (13 : Int32) = (13 : Int32))).2 kt) ?_
              refine own_go (A := T2.setTop (mkF m 121 #[.val (.int p1), .val (.int p2), .val (.int (p2 &&& (7 : Int32))), .val (.int (13 : Int32)), .val (.ref a1), .val (.int (1 : Int32))] [(.int (1 : Int32))])) (fun t kt => XS.iconst X2.here hx rfl (hb hby at_120) kt) ?_
              refine own_go (A := T2.setTop (mkF m 125 #[.val (.int p1), .val (.int p2), .val (.int (p2 &&& (7 : Int32))), .val (.int (13 : Int32)), .val (.ref a1), .val (.int (1 : Int32))] [(.int (1 : Int32))])) (fun t kt => XS.goto X2.here hx rfl (pc0 := 121) (pc' := 125) rfl (hb hby at_121) (by decide) (by decide) kt) ?_
              obtain ⟨fs, hr, hrun, hended, hRE⟩ := X2.leaveW hS1 (by rw [g2]; exact Nat.le_refl _) (v := some (.int (1 : Int32))) (fun h => by rw [Bd.returns] at h; cases h)
              exact ⟨_, _, retN X2 hx (t := .boolean) Bd.returns (by simp) (hb hby at_125) hr, hrun, hended, _, _, rfl, ⟨rfl, N2⟩, ⟨hRE.1, hRE.2.1, hRE.2.2.1, hRE.2.2.2.mono (by decide) (by decide)⟩⟩
            · by_cases h10 : cc = (10 : Int32)
              · subst h10
                refine own_go (A := s₁.setTop (mkF m 52 #[.val (.int p1), .val (.int p2), .val (.int (p2 &&& (7 : Int32))), .val (.int (10 : Int32)), .unset, .unset] [(.int (10 : Int32))])) (fun t kt => XS.iloadN X0.here hx rfl (hb hby at_51) rfl kt) ?_
                obtain ⟨_, _, ⟨T1, L1, k1, n1⟩, -, X1, hS1, hgr1, ⟨Lc1, hQ1, l1, y1, z1⟩, st1⟩ := callSS X0 hx (y := (⟨"com/example/coxt/coxt/output/XmlSerializer", "whiteSpaceOrQuoteEscape", "(C)Ljava/lang/String;"⟩ : MethodName)) hown (mvT hZ (hw _ (List.mem_of_getElem? (i := 0) rfl))) (mvT hZ (hw _ (List.mem_of_getElem? (i := 1) rfl))) (mvT hZ (hw _ (List.mem_of_getElem? (i := 2) rfl))) (mvT hZ (hw _ (List.mem_of_getElem? (i := 3) rfl))) (by decide) (own_backS (W := 0) (rm1_10 l Z a0 hw [] h0 n0 Z0 hH hcw X00) hZ hI (hw _ (List.mem_of_getElem? (i := 3) rfl)) (hw _ (List.mem_of_getElem? (i := 2) rfl)) (by decide) (by decide)) (g := (mkF m 52 #[.val (.int p1), .val (.int p2), .val (.int (p2 &&& (7 : Int32))), .val (.int (10 : Int32)), .unset, .unset] [(.int (10 : Int32))])) rfl (by rw [hml]; rfl) (argsL := [(.int (10 : Int32))]) (rest := []) (lenOf pd_1 rfl) rfl (by show 2 * 0 + _ ≤ _; exact Nat.le_of_eq rfl) (hb hby at_52) (fun _ _ => ⟨rfl, e0, (by decide : 0 + 2 ≤ _), (by decide : 0 + 28 ≤ _)⟩)
                dsimp only [Pt.U, Pt.locs, Pt.cells, Pt.slots] at X1 l1 y1 z1 st1 hQ1 hS1 hgr1
                subst l1 y1 z1
                obtain ⟨N1q, E1, a1, rfl, St1⟩ := hQ1
                have N1 := Fr.app N0 N1q
                have hown : (s.setVm T1.vm).vm.findClass "com/example/coxt/coxt/output/XmlSerializerWhiteSpaceOrQuoteEscapePinLaw" = some m.cls := by rw [show (s.setVm T1.vm).vm = T1.vm from rfl, hS1.1.alike.findClass]; exact hown
                have hZ : Z.Warmed39 (s.setVm T1.vm).vm := State.Warmed39.trans hZ hS1.1
                refine own_go (A := T1.setTop (mkF m 55 #[.val (.int p1), .val (.int p2), .val (.int (p2 &&& (7 : Int32))), .val (.int (10 : Int32)), .unset, .unset] [(.ref a1)])) (fun t kt => st1.trans kt) ?_
                refine own_go (A := T1.setTop (mkF m 57 #[.val (.int p1), .val (.int p2), .val (.int (p2 &&& (7 : Int32))), .val (.int (10 : Int32)), .val (.ref a1), .unset] [])) (fun t kt => XS.astore X1.here hx rfl (hb hby at_55) rfl rfl (l' := #[.val (.int p1), .val (.int p2), .val (.int (p2 &&& (7 : Int32))), .val (.int (10 : Int32)), .val (.ref a1), .unset]) rfl kt) ?_
                refine own_go (A := T1.setTop (mkF m 58 #[.val (.int p1), .val (.int p2), .val (.int (p2 &&& (7 : Int32))), .val (.int (10 : Int32)), .val (.ref a1), .unset] [(.int (10 : Int32))])) (fun t kt => XS.iloadN X1.here hx rfl (hb hby at_57) rfl kt) ?_
                refine own_go (A := T1.setTop (mkF m 60 #[.val (.int p1), .val (.int p2), .val (.int (p2 &&& (7 : Int32))), .val (.int (10 : Int32)), .val (.ref a1), .unset] [(.int (34 : Int32)), (.int (10 : Int32))])) (fun t kt => XS.bipush X1.here hx rfl (hb hby at_58) kt) ?_
                refine own_go (A := T1.setTop (mkF m 63 #[.val (.int p1), .val (.int p2), .val (.int (p2 &&& (7 : Int32))), .val (.int (10 : Int32)), .val (.ref a1), .unset] [])) (fun t kt => XS.icmpNo X1.here hx rfl (hb hby at_60) rfl (feq (by decide : ¬ ((10 : Int32) = (34 : Int32)))).1 kt) ?_
                refine own_go (A := T1.setTop (mkF m 64 #[.val (.int p1), .val (.int p2), .val (.int (p2 &&& (7 : Int32))), .val (.int (10 : Int32)), .val (.ref a1), .unset] [(.int (10 : Int32))])) (fun t kt => XS.iloadN X1.here hx rfl (hb hby at_63) rfl kt) ?_
                refine own_go (A := T1.setTop (mkF m 66 #[.val (.int p1), .val (.int p2), .val (.int (p2 &&& (7 : Int32))), .val (.int (10 : Int32)), .val (.ref a1), .unset] [(.int (13 : Int32)), (.int (10 : Int32))])) (fun t kt => XS.bipush X1.here hx rfl (hb hby at_64) kt) ?_
                refine own_go (A := T1.setTop (mkF m 69 #[.val (.int p1), .val (.int p2), .val (.int (p2 &&& (7 : Int32))), .val (.int (10 : Int32)), .val (.ref a1), .unset] [])) (fun t kt => XS.icmpNo X1.here hx rfl (hb hby at_66) rfl (feq (by decide : ¬ ((10 : Int32) = (13 : Int32)))).1 kt) ?_
                refine own_go (A := T1.setTop (mkF m 70 #[.val (.int p1), .val (.int p2), .val (.int (p2 &&& (7 : Int32))), .val (.int (10 : Int32)), .val (.ref a1), .unset] [(.int (10 : Int32))])) (fun t kt => XS.iloadN X1.here hx rfl (hb hby at_69) rfl kt) ?_
                refine own_go (A := T1.setTop (mkF m 72 #[.val (.int p1), .val (.int p2), .val (.int (p2 &&& (7 : Int32))), .val (.int (10 : Int32)), .val (.ref a1), .unset] [(.int (10 : Int32)), (.int (10 : Int32))])) (fun t kt => XS.bipush X1.here hx rfl (hb hby at_70) kt) ?_
                refine own_go (A := T1.setTop (mkF m 81 #[.val (.int p1), .val (.int p2), .val (.int (p2 &&& (7 : Int32))), .val (.int (10 : Int32)), .val (.ref a1), .unset] [])) (fun t kt => XS.icmpYes X1.here hx rfl (pc0 := 72) (pc' := 81) rfl (hb hby at_72) rfl (teq (rfl : (10 : Int32) = (10 : Int32))).1 (by decide) (by decide) kt) ?_
                refine own_go (A := T1.setTop (mkF m 82 #[.val (.int p1), .val (.int p2), .val (.int (p2 &&& (7 : Int32))), .val (.int (10 : Int32)), .val (.ref a1), .unset] [(.int (1 : Int32))])) (fun t kt => XS.iconst X1.here hx rfl (hb hby at_81) kt) ?_
                refine own_go (A := T1.setTop (mkF m 86 #[.val (.int p1), .val (.int p2), .val (.int (p2 &&& (7 : Int32))), .val (.int (10 : Int32)), .val (.ref a1), .unset] [(.int (1 : Int32))])) (fun t kt => XS.goto X1.here hx rfl (pc0 := 82) (pc' := 86) rfl (hb hby at_82) (by decide) (by decide) kt) ?_
                refine own_go (A := T1.setTop (mkF m 88 #[.val (.int p1), .val (.int p2), .val (.int (p2 &&& (7 : Int32))), .val (.int (10 : Int32)), .val (.ref a1), .val (.int (1 : Int32))] [])) (fun t kt => XS.istore X1.here hx rfl (hb hby at_86) rfl (l' := #[.val (.int p1), .val (.int p2), .val (.int (p2 &&& (7 : Int32))), .val (.int (10 : Int32)), .val (.ref a1), .val (.int (1 : Int32))]) rfl kt) ?_
                refine own_go (A := T1.setTop (mkF m 90 #[.val (.int p1), .val (.int p2), .val (.int (p2 &&& (7 : Int32))), .val (.int (10 : Int32)), .val (.ref a1), .val (.int (1 : Int32))] [(.int (1 : Int32))])) (fun t kt => XS.iload X1.here hx rfl (hb hby at_88) rfl kt) ?_
                refine own_go (A := T1.setTop (mkF m 104 #[.val (.int p1), .val (.int p2), .val (.int (p2 &&& (7 : Int32))), .val (.int (10 : Int32)), .val (.ref a1), .val (.int (1 : Int32))] [])) (fun t kt => XS.ifYes X1.here hx rfl (pc0 := 90) (pc' := 104) rfl (hb hby at_90) rfl ((if0 _ _).trans (feq (by decide : ¬ ((1 : Int32) = (0 : Int32)))).2) (by decide) (by decide) kt) ?_
                refine own_go (A := T1.setTop (mkF m 106 #[.val (.int p1), .val (.int p2), .val (.int (p2 &&& (7 : Int32))), .val (.int (10 : Int32)), .val (.ref a1), .val (.int (1 : Int32))] [(.ref a1)])) (fun t kt => XS.aload X1.here hx rfl (hb hby at_104) rfl rfl kt) ?_
                refine own_go (A := T1.setTop (mkF m 111 #[.val (.int p1), .val (.int p2), .val (.int (p2 &&& (7 : Int32))), .val (.int (10 : Int32)), .val (.ref a1), .val (.int (1 : Int32))] [])) (fun t kt => XS.ifnonnullYes X1.here hx rfl (pc0 := 106) (pc' := 111) rfl (hb hby at_106) rfl (by decide) (by decide) kt) ?_
                refine own_go (A := T1.setTop (mkF m 113 #[.val (.int p1), .val (.int p2), .val (.int (p2 &&& (7 : Int32))), .val (.int (10 : Int32)), .val (.ref a1), .val (.int (1 : Int32))] [(.ref a1)])) (fun t kt => XS.aload X1.here hx rfl (hb hby at_111) rfl rfl kt) ?_
                obtain ⟨_, _, ⟨T2, L2, k2, n2⟩, -, X2, ⟨Lc2, hQ2, l2, y2, z2⟩, st2⟩ := Jvm.LawKit.callS X1 hx (y := (⟨"com/example/coxt/coxt/output/XmlSerializerWhiteSpaceOrQuoteEscapePinLaw", "decode", "(Ljava/lang/String;)I"⟩ : MethodName)) hown (mvT hZ (hw _ (List.mem_of_getElem? (i := 12) rfl))) (mvT hZ (hw _ (List.mem_of_getElem? (i := 13) rfl))) (mvT hZ (hw _ (List.mem_of_getElem? (i := 14) rfl))) (mvT hZ (hw _ (List.mem_of_getElem? (i := 15) rfl))) (by decide) (backOf (W := 0) (rm2_10 l Z a0 hw [] a1 gC G3 T1.heap n0 (Nat.le_trans Z0 E1.1) St1 ((O2.ext X00.2).ext E1) hg1 rG3 ((O4.ext X00.2).ext E1)) hZ (hw _ (List.mem_of_getElem? (i := 15) rfl)) (hw _ (List.mem_of_getElem? (i := 14) rfl)) (by decide) (by decide)) (g := (mkF m 113 #[.val (.int p1), .val (.int p2), .val (.int (p2 &&& (7 : Int32))), .val (.int (10 : Int32)), .val (.ref a1), .val (.int (1 : Int32))] [(.ref a1)])) rfl (by rw [hml]; rfl) (argsL := [(.ref a1)]) (rest := []) (lenOf pd_2 rfl) rfl (by show 2 * 0 + _ ≤ _; exact Nat.le_of_eq rfl) (hb hby at_113) (fun _ _ => ⟨rfl, rfl, (by decide : 2 + 0 ≤ _), (by decide : 28 + 0 ≤ _)⟩)
                dsimp only [Pt.U, Pt.locs, Pt.cells, Pt.slots] at X2 l2 y2 z2 st2 hQ2
                subst l2 y2 z2
                obtain ⟨rfl, N2q, g2⟩ := hQ2
                have N2 := Fr.app N1 N2q
                refine own_go (A := T2.setTop (mkF m 116 #[.val (.int p1), .val (.int p2), .val (.int (p2 &&& (7 : Int32))), .val (.int (10 : Int32)), .val (.ref a1), .val (.int (1 : Int32))] [(.int (10 : Int32))])) st2 ?_
                refine own_go (A := T2.setTop (mkF m 117 #[.val (.int p1), .val (.int p2), .val (.int (p2 &&& (7 : Int32))), .val (.int (10 : Int32)), .val (.ref a1), .val (.int (1 : Int32))] [(.int (10 : Int32)), (.int (10 : Int32))])) (fun t kt => XS.iloadN X2.here hx rfl (hb hby at_116) rfl kt) ?_
                refine own_go (A := T2.setTop (mkF m 120 #[.val (.int p1), .val (.int p2), .val (.int (p2 &&& (7 : Int32))), .val (.int (10 : Int32)), .val (.ref a1), .val (.int (1 : Int32))] [])) (fun t kt => XS.icmpNo X2.here hx rfl (hb hby at_117) rfl (teq (rfl : (10 : Int32) = (10 : Int32))).2 kt) ?_
                refine own_go (A := T2.setTop (mkF m 121 #[.val (.int p1), .val (.int p2), .val (.int (p2 &&& (7 : Int32))), .val (.int (10 : Int32)), .val (.ref a1), .val (.int (1 : Int32))] [(.int (1 : Int32))])) (fun t kt => XS.iconst X2.here hx rfl (hb hby at_120) kt) ?_
                refine own_go (A := T2.setTop (mkF m 125 #[.val (.int p1), .val (.int p2), .val (.int (p2 &&& (7 : Int32))), .val (.int (10 : Int32)), .val (.ref a1), .val (.int (1 : Int32))] [(.int (1 : Int32))])) (fun t kt => XS.goto X2.here hx rfl (pc0 := 121) (pc' := 125) rfl (hb hby at_121) (by decide) (by decide) kt) ?_
                obtain ⟨fs, hr, hrun, hended, hRE⟩ := X2.leaveW hS1 (by rw [g2]; exact Nat.le_refl _) (v := some (.int (1 : Int32))) (fun h => by rw [Bd.returns] at h; cases h)
                exact ⟨_, _, retN X2 hx (t := .boolean) Bd.returns (by simp) (hb hby at_125) hr, hrun, hended, _, _, rfl, ⟨rfl, N2⟩, ⟨hRE.1, hRE.2.1, hRE.2.2.1, hRE.2.2.2.mono (by decide) (by decide)⟩⟩
              · by_cases h9 : cc = (9 : Int32)
                · subst h9
                  refine own_go (A := s₁.setTop (mkF m 52 #[.val (.int p1), .val (.int p2), .val (.int (p2 &&& (7 : Int32))), .val (.int (9 : Int32)), .unset, .unset] [(.int (9 : Int32))])) (fun t kt => XS.iloadN X0.here hx rfl (hb hby at_51) rfl kt) ?_
                  obtain ⟨_, _, ⟨T1, L1, k1, n1⟩, -, X1, hS1, hgr1, ⟨Lc1, hQ1, l1, y1, z1⟩, st1⟩ := callSS X0 hx (y := (⟨"com/example/coxt/coxt/output/XmlSerializer", "whiteSpaceOrQuoteEscape", "(C)Ljava/lang/String;"⟩ : MethodName)) hown (mvT hZ (hw _ (List.mem_of_getElem? (i := 0) rfl))) (mvT hZ (hw _ (List.mem_of_getElem? (i := 1) rfl))) (mvT hZ (hw _ (List.mem_of_getElem? (i := 2) rfl))) (mvT hZ (hw _ (List.mem_of_getElem? (i := 3) rfl))) (by decide) (own_backS (W := 0) (rm1_9 l Z a0 hw [] h0 n0 Z0 hH hcw X00) hZ hI (hw _ (List.mem_of_getElem? (i := 3) rfl)) (hw _ (List.mem_of_getElem? (i := 2) rfl)) (by decide) (by decide)) (g := (mkF m 52 #[.val (.int p1), .val (.int p2), .val (.int (p2 &&& (7 : Int32))), .val (.int (9 : Int32)), .unset, .unset] [(.int (9 : Int32))])) rfl (by rw [hml]; rfl) (argsL := [(.int (9 : Int32))]) (rest := []) (lenOf pd_1 rfl) rfl (by show 2 * 0 + _ ≤ _; exact Nat.le_of_eq rfl) (hb hby at_52) (fun _ _ => ⟨rfl, e0, (by decide : 0 + 2 ≤ _), (by decide : 0 + 28 ≤ _)⟩)
                  dsimp only [Pt.U, Pt.locs, Pt.cells, Pt.slots] at X1 l1 y1 z1 st1 hQ1 hS1 hgr1
                  subst l1 y1 z1
                  obtain ⟨N1q, E1, a1, rfl, St1⟩ := hQ1
                  have N1 := Fr.app N0 N1q
                  have hown : (s.setVm T1.vm).vm.findClass "com/example/coxt/coxt/output/XmlSerializerWhiteSpaceOrQuoteEscapePinLaw" = some m.cls := by rw [show (s.setVm T1.vm).vm = T1.vm from rfl, hS1.1.alike.findClass]; exact hown
                  have hZ : Z.Warmed39 (s.setVm T1.vm).vm := State.Warmed39.trans hZ hS1.1
                  refine own_go (A := T1.setTop (mkF m 55 #[.val (.int p1), .val (.int p2), .val (.int (p2 &&& (7 : Int32))), .val (.int (9 : Int32)), .unset, .unset] [(.ref a1)])) (fun t kt => st1.trans kt) ?_
                  refine own_go (A := T1.setTop (mkF m 57 #[.val (.int p1), .val (.int p2), .val (.int (p2 &&& (7 : Int32))), .val (.int (9 : Int32)), .val (.ref a1), .unset] [])) (fun t kt => XS.astore X1.here hx rfl (hb hby at_55) rfl rfl (l' := #[.val (.int p1), .val (.int p2), .val (.int (p2 &&& (7 : Int32))), .val (.int (9 : Int32)), .val (.ref a1), .unset]) rfl kt) ?_
                  refine own_go (A := T1.setTop (mkF m 58 #[.val (.int p1), .val (.int p2), .val (.int (p2 &&& (7 : Int32))), .val (.int (9 : Int32)), .val (.ref a1), .unset] [(.int (9 : Int32))])) (fun t kt => XS.iloadN X1.here hx rfl (hb hby at_57) rfl kt) ?_
                  refine own_go (A := T1.setTop (mkF m 60 #[.val (.int p1), .val (.int p2), .val (.int (p2 &&& (7 : Int32))), .val (.int (9 : Int32)), .val (.ref a1), .unset] [(.int (34 : Int32)), (.int (9 : Int32))])) (fun t kt => XS.bipush X1.here hx rfl (hb hby at_58) kt) ?_
                  refine own_go (A := T1.setTop (mkF m 63 #[.val (.int p1), .val (.int p2), .val (.int (p2 &&& (7 : Int32))), .val (.int (9 : Int32)), .val (.ref a1), .unset] [])) (fun t kt => XS.icmpNo X1.here hx rfl (hb hby at_60) rfl (feq (by decide : ¬ ((9 : Int32) = (34 : Int32)))).1 kt) ?_
                  refine own_go (A := T1.setTop (mkF m 64 #[.val (.int p1), .val (.int p2), .val (.int (p2 &&& (7 : Int32))), .val (.int (9 : Int32)), .val (.ref a1), .unset] [(.int (9 : Int32))])) (fun t kt => XS.iloadN X1.here hx rfl (hb hby at_63) rfl kt) ?_
                  refine own_go (A := T1.setTop (mkF m 66 #[.val (.int p1), .val (.int p2), .val (.int (p2 &&& (7 : Int32))), .val (.int (9 : Int32)), .val (.ref a1), .unset] [(.int (13 : Int32)), (.int (9 : Int32))])) (fun t kt => XS.bipush X1.here hx rfl (hb hby at_64) kt) ?_
                  refine own_go (A := T1.setTop (mkF m 69 #[.val (.int p1), .val (.int p2), .val (.int (p2 &&& (7 : Int32))), .val (.int (9 : Int32)), .val (.ref a1), .unset] [])) (fun t kt => XS.icmpNo X1.here hx rfl (hb hby at_66) rfl (feq (by decide : ¬ ((9 : Int32) = (13 : Int32)))).1 kt) ?_
                  refine own_go (A := T1.setTop (mkF m 70 #[.val (.int p1), .val (.int p2), .val (.int (p2 &&& (7 : Int32))), .val (.int (9 : Int32)), .val (.ref a1), .unset] [(.int (9 : Int32))])) (fun t kt => XS.iloadN X1.here hx rfl (hb hby at_69) rfl kt) ?_
                  refine own_go (A := T1.setTop (mkF m 72 #[.val (.int p1), .val (.int p2), .val (.int (p2 &&& (7 : Int32))), .val (.int (9 : Int32)), .val (.ref a1), .unset] [(.int (10 : Int32)), (.int (9 : Int32))])) (fun t kt => XS.bipush X1.here hx rfl (hb hby at_70) kt) ?_
                  refine own_go (A := T1.setTop (mkF m 75 #[.val (.int p1), .val (.int p2), .val (.int (p2 &&& (7 : Int32))), .val (.int (9 : Int32)), .val (.ref a1), .unset] [])) (fun t kt => XS.icmpNo X1.here hx rfl (hb hby at_72) rfl (feq (by decide : ¬ ((9 : Int32) = (10 : Int32)))).1 kt) ?_
                  refine own_go (A := T1.setTop (mkF m 76 #[.val (.int p1), .val (.int p2), .val (.int (p2 &&& (7 : Int32))), .val (.int (9 : Int32)), .val (.ref a1), .unset] [(.int (9 : Int32))])) (fun t kt => XS.iloadN X1.here hx rfl (hb hby at_75) rfl kt) ?_
                  refine own_go (A := T1.setTop (mkF m 78 #[.val (.int p1), .val (.int p2), .val (.int (p2 &&& (7 : Int32))), .val (.int (9 : Int32)), .val (.ref a1), .unset] [(.int (9 : Int32)), (.int (9 : Int32))])) (fun t kt => XS.bipush X1.here hx rfl (hb hby at_76) kt) ?_
                  refine own_go (A := T1.setTop (mkF m 81 #[.val (.int p1), .val (.int p2), .val (.int (p2 &&& (7 : Int32))), .val (.int (9 : Int32)), .val (.ref a1), .unset] [])) (fun t kt => XS.icmpNo X1.here hx rfl (hb hby at_78) rfl (teq (rfl : (9 : Int32) = (9 : Int32))).2 kt) ?_
                  refine own_go (A := T1.setTop (mkF m 82 #[.val (.int p1), .val (.int p2), .val (.int (p2 &&& (7 : Int32))), .val (.int (9 : Int32)), .val (.ref a1), .unset] [(.int (1 : Int32))])) (fun t kt => XS.iconst X1.here hx rfl (hb hby at_81) kt) ?_
                  refine own_go (A := T1.setTop (mkF m 86 #[.val (.int p1), .val (.int p2), .val (.int (p2 &&& (7 : Int32))), .val (.int (9 : Int32)), .val (.ref a1), .unset] [(.int (1 : Int32))])) (fun t kt => XS.goto X1.here hx rfl (pc0 := 82) (pc' := 86) rfl (hb hby at_82) (by decide) (by decide) kt) ?_
                  refine own_go (A := T1.setTop (mkF m 88 #[.val (.int p1), .val (.int p2), .val (.int (p2 &&& (7 : Int32))), .val (.int (9 : Int32)), .val (.ref a1), .val (.int (1 : Int32))] [])) (fun t kt => XS.istore X1.here hx rfl (hb hby at_86) rfl (l' := #[.val (.int p1), .val (.int p2), .val (.int (p2 &&& (7 : Int32))), .val (.int (9 : Int32)), .val (.ref a1), .val (.int (1 : Int32))]) rfl kt) ?_
                  refine own_go (A := T1.setTop (mkF m 90 #[.val (.int p1), .val (.int p2), .val (.int (p2 &&& (7 : Int32))), .val (.int (9 : Int32)), .val (.ref a1), .val (.int (1 : Int32))] [(.int (1 : Int32))])) (fun t kt => XS.iload X1.here hx rfl (hb hby at_88) rfl kt) ?_
                  refine own_go (A := T1.setTop (mkF m 104 #[.val (.int p1), .val (.int p2), .val (.int (p2 &&& (7 : Int32))), .val (.int (9 : Int32)), .val (.ref a1), .val (.int (1 : Int32))] [])) (fun t kt => XS.ifYes X1.here hx rfl (pc0 := 90) (pc' := 104) rfl (hb hby at_90) rfl ((if0 _ _).trans (feq (by decide : ¬ ((1 : Int32) = (0 : Int32)))).2) (by decide) (by decide) kt) ?_
                  refine own_go (A := T1.setTop (mkF m 106 #[.val (.int p1), .val (.int p2), .val (.int (p2 &&& (7 : Int32))), .val (.int (9 : Int32)), .val (.ref a1), .val (.int (1 : Int32))] [(.ref a1)])) (fun t kt => XS.aload X1.here hx rfl (hb hby at_104) rfl rfl kt) ?_
                  refine own_go (A := T1.setTop (mkF m 111 #[.val (.int p1), .val (.int p2), .val (.int (p2 &&& (7 : Int32))), .val (.int (9 : Int32)), .val (.ref a1), .val (.int (1 : Int32))] [])) (fun t kt => XS.ifnonnullYes X1.here hx rfl (pc0 := 106) (pc' := 111) rfl (hb hby at_106) rfl (by decide) (by decide) kt) ?_
                  refine own_go (A := T1.setTop (mkF m 113 #[.val (.int p1), .val (.int p2), .val (.int (p2 &&& (7 : Int32))), .val (.int (9 : Int32)), .val (.ref a1), .val (.int (1 : Int32))] [(.ref a1)])) (fun t kt => XS.aload X1.here hx rfl (hb hby at_111) rfl rfl kt) ?_
                  obtain ⟨_, _, ⟨T2, L2, k2, n2⟩, -, X2, ⟨Lc2, hQ2, l2, y2, z2⟩, st2⟩ := Jvm.LawKit.callS X1 hx (y := (⟨"com/example/coxt/coxt/output/XmlSerializerWhiteSpaceOrQuoteEscapePinLaw", "decode", "(Ljava/lang/String;)I"⟩ : MethodName)) hown (mvT hZ (hw _ (List.mem_of_getElem? (i := 12) rfl))) (mvT hZ (hw _ (List.mem_of_getElem? (i := 13) rfl))) (mvT hZ (hw _ (List.mem_of_getElem? (i := 14) rfl))) (mvT hZ (hw _ (List.mem_of_getElem? (i := 15) rfl))) (by decide) (backOf (W := 0) (rm2_9 l Z a0 hw [] a1 gC G3 T1.heap n0 (Nat.le_trans Z0 E1.1) St1 ((O2.ext X00.2).ext E1) hg1 rG3 ((O4.ext X00.2).ext E1)) hZ (hw _ (List.mem_of_getElem? (i := 15) rfl)) (hw _ (List.mem_of_getElem? (i := 14) rfl)) (by decide) (by decide)) (g := (mkF m 113 #[.val (.int p1), .val (.int p2), .val (.int (p2 &&& (7 : Int32))), .val (.int (9 : Int32)), .val (.ref a1), .val (.int (1 : Int32))] [(.ref a1)])) rfl (by rw [hml]; rfl) (argsL := [(.ref a1)]) (rest := []) (lenOf pd_2 rfl) rfl (by show 2 * 0 + _ ≤ _; exact Nat.le_of_eq rfl) (hb hby at_113) (fun _ _ => ⟨rfl, rfl, (by decide : 2 + 0 ≤ _), (by decide : 28 + 0 ≤ _)⟩)
                  dsimp only [Pt.U, Pt.locs, Pt.cells, Pt.slots] at X2 l2 y2 z2 st2 hQ2
                  subst l2 y2 z2
                  obtain ⟨rfl, N2q, g2⟩ := hQ2
                  have N2 := Fr.app N1 N2q
                  refine own_go (A := T2.setTop (mkF m 116 #[.val (.int p1), .val (.int p2), .val (.int (p2 &&& (7 : Int32))), .val (.int (9 : Int32)), .val (.ref a1), .val (.int (1 : Int32))] [(.int (9 : Int32))])) st2 ?_
                  refine own_go (A := T2.setTop (mkF m 117 #[.val (.int p1), .val (.int p2), .val (.int (p2 &&& (7 : Int32))), .val (.int (9 : Int32)), .val (.ref a1), .val (.int (1 : Int32))] [(.int (9 : Int32)), (.int (9 : Int32))])) (fun t kt => XS.iloadN X2.here hx rfl (hb hby at_116) rfl kt) ?_
                  refine own_go (A := T2.setTop (mkF m 120 #[.val (.int p1), .val (.int p2), .val (.int (p2 &&& (7 : Int32))), .val (.int (9 : Int32)), .val (.ref a1), .val (.int (1 : Int32))] [])) (fun t kt => XS.icmpNo X2.here hx rfl (hb hby at_117) rfl (teq (rfl : (9 : Int32) = (9 : Int32))).2 kt) ?_
                  refine own_go (A := T2.setTop (mkF m 121 #[.val (.int p1), .val (.int p2), .val (.int (p2 &&& (7 : Int32))), .val (.int (9 : Int32)), .val (.ref a1), .val (.int (1 : Int32))] [(.int (1 : Int32))])) (fun t kt => XS.iconst X2.here hx rfl (hb hby at_120) kt) ?_
                  refine own_go (A := T2.setTop (mkF m 125 #[.val (.int p1), .val (.int p2), .val (.int (p2 &&& (7 : Int32))), .val (.int (9 : Int32)), .val (.ref a1), .val (.int (1 : Int32))] [(.int (1 : Int32))])) (fun t kt => XS.goto X2.here hx rfl (pc0 := 121) (pc' := 125) rfl (hb hby at_121) (by decide) (by decide) kt) ?_
                  obtain ⟨fs, hr, hrun, hended, hRE⟩ := X2.leaveW hS1 (by rw [g2]; exact Nat.le_refl _) (v := some (.int (1 : Int32))) (fun h => by rw [Bd.returns] at h; cases h)
                  exact ⟨_, _, retN X2 hx (t := .boolean) Bd.returns (by simp) (hb hby at_125) hr, hrun, hended, _, _, rfl, ⟨rfl, N2⟩, ⟨hRE.1, hRE.2.1, hRE.2.2.1, hRE.2.2.2.mono (by decide) (by decide)⟩⟩
                · refine own_go (A := s₁.setTop (mkF m 52 #[.val (.int p1), .val (.int p2), .val (.int (p2 &&& (7 : Int32))), .val (.int cc), .unset, .unset] [(.int cc)])) (fun t kt => XS.iloadN X0.here hx rfl (hb hby at_51) rfl kt) ?_
                  obtain ⟨_, _, ⟨T1, L1, k1, n1⟩, -, X1, hS1, hgr1, ⟨Lc1, hQ1, l1, y1, z1⟩, st1⟩ := callSS X0 hx (y := (⟨"com/example/coxt/coxt/output/XmlSerializer", "whiteSpaceOrQuoteEscape", "(C)Ljava/lang/String;"⟩ : MethodName)) hown (mvT hZ (hw _ (List.mem_of_getElem? (i := 0) rfl))) (mvT hZ (hw _ (List.mem_of_getElem? (i := 1) rfl))) (mvT hZ (hw _ (List.mem_of_getElem? (i := 2) rfl))) (mvT hZ (hw _ (List.mem_of_getElem? (i := 3) rfl))) (by decide) (own_backS (W := 0) (rm1_n l Z a0 hw [] cc h0 n0 Z0 hH hcw X00 h34 h13 h10 h9) hZ hI (hw _ (List.mem_of_getElem? (i := 3) rfl)) (hw _ (List.mem_of_getElem? (i := 2) rfl)) (by decide) (by decide)) (g := (mkF m 52 #[.val (.int p1), .val (.int p2), .val (.int (p2 &&& (7 : Int32))), .val (.int cc), .unset, .unset] [(.int cc)])) rfl (by rw [hml]; rfl) (argsL := [(.int cc)]) (rest := []) (lenOf pd_1 rfl) rfl (by show 2 * 0 + _ ≤ _; exact Nat.le_of_eq rfl) (hb hby at_52) (fun _ _ => ⟨rfl, e0, (by decide : 0 + 2 ≤ _), (by decide : 0 + 28 ≤ _)⟩)
                  dsimp only [Pt.U, Pt.locs, Pt.cells, Pt.slots] at X1 l1 y1 z1 st1 hQ1 hS1 hgr1
                  subst l1 y1 z1
                  obtain ⟨N1q, E1, rfl⟩ := hQ1
                  have N1 := Fr.app N0 N1q
                  have hown : (s.setVm T1.vm).vm.findClass "com/example/coxt/coxt/output/XmlSerializerWhiteSpaceOrQuoteEscapePinLaw" = some m.cls := by rw [show (s.setVm T1.vm).vm = T1.vm from rfl, hS1.1.alike.findClass]; exact hown
                  have hZ : Z.Warmed39 (s.setVm T1.vm).vm := State.Warmed39.trans hZ hS1.1
                  refine own_go (A := T1.setTop (mkF m 55 #[.val (.int p1), .val (.int p2), .val (.int (p2 &&& (7 : Int32))), .val (.int cc), .unset, .unset] [.null])) (fun t kt => st1.trans kt) ?_
                  refine own_go (A := T1.setTop (mkF m 57 #[.val (.int p1), .val (.int p2), .val (.int (p2 &&& (7 : Int32))), .val (.int cc), .val .null, .unset] [])) (fun t kt => XS.astore X1.here hx rfl (hb hby at_55) rfl rfl (l' := #[.val (.int p1), .val (.int p2), .val (.int (p2 &&& (7 : Int32))), .val (.int cc), .val .null, .unset]) rfl kt) ?_
                  refine own_go (A := T1.setTop (mkF m 58 #[.val (.int p1), .val (.int p2), .val (.int (p2 &&& (7 : Int32))), .val (.int cc), .val .null, .unset] [(.int cc)])) (fun t kt => XS.iloadN X1.here hx rfl (hb hby at_57) rfl kt) ?_
                  refine own_go (A := T1.setTop (mkF m 60 #[.val (.int p1), .val (.int p2), .val (.int (p2 &&& (7 : Int32))), .val (.int cc), .val .null, .unset] [(.int (34 : Int32)), (.int cc)])) (fun t kt => XS.bipush X1.here hx rfl (hb hby at_58) kt) ?_
                  refine own_go (A := T1.setTop (mkF m 63 #[.val (.int p1), .val (.int p2), .val (.int (p2 &&& (7 : Int32))), .val (.int cc), .val .null, .unset] [])) (fun t kt => XS.icmpNo X1.here hx rfl (hb hby at_60) rfl (feq (h34 : ¬ (cc = (34 : Int32)))).1 kt) ?_
                  refine own_go (A := T1.setTop (mkF m 64 #[.val (.int p1), .val (.int p2), .val (.int (p2 &&& (7 : Int32))), .val (.int cc), .val .null, .unset] [(.int cc)])) (fun t kt => XS.iloadN X1.here hx rfl (hb hby at_63) rfl kt) ?_
                  refine own_go (A := T1.setTop (mkF m 66 #[.val (.int p1), .val (.int p2), .val (.int (p2 &&& (7 : Int32))), .val (.int cc), .val .null, .unset] [(.int (13 : Int32)), (.int cc)])) (fun t kt => XS.bipush X1.here hx rfl (hb hby at_64) kt) ?_
                  refine own_go (A := T1.setTop (mkF m 69 #[.val (.int p1), .val (.int p2), .val (.int (p2 &&& (7 : Int32))), .val (.int cc), .val .null, .unset] [])) (fun t kt => XS.icmpNo X1.here hx rfl (hb hby at_66) rfl (feq (h13 : ¬ (cc = (13 : Int32)))).1 kt) ?_
                  refine own_go (A := T1.setTop (mkF m 70 #[.val (.int p1), .val (.int p2), .val (.int (p2 &&& (7 : Int32))), .val (.int cc), .val .null, .unset] [(.int cc)])) (fun t kt => XS.iloadN X1.here hx rfl (hb hby at_69) rfl kt) ?_
                  refine own_go (A := T1.setTop (mkF m 72 #[.val (.int p1), .val (.int p2), .val (.int (p2 &&& (7 : Int32))), .val (.int cc), .val .null, .unset] [(.int (10 : Int32)), (.int cc)])) (fun t kt => XS.bipush X1.here hx rfl (hb hby at_70) kt) ?_
                  refine own_go (A := T1.setTop (mkF m 75 #[.val (.int p1), .val (.int p2), .val (.int (p2 &&& (7 : Int32))), .val (.int cc), .val .null, .unset] [])) (fun t kt => XS.icmpNo X1.here hx rfl (hb hby at_72) rfl (feq (h10 : ¬ (cc = (10 : Int32)))).1 kt) ?_
                  refine own_go (A := T1.setTop (mkF m 76 #[.val (.int p1), .val (.int p2), .val (.int (p2 &&& (7 : Int32))), .val (.int cc), .val .null, .unset] [(.int cc)])) (fun t kt => XS.iloadN X1.here hx rfl (hb hby at_75) rfl kt) ?_
                  refine own_go (A := T1.setTop (mkF m 78 #[.val (.int p1), .val (.int p2), .val (.int (p2 &&& (7 : Int32))), .val (.int cc), .val .null, .unset] [(.int (9 : Int32)), (.int cc)])) (fun t kt => XS.bipush X1.here hx rfl (hb hby at_76) kt) ?_
                  refine own_go (A := T1.setTop (mkF m 85 #[.val (.int p1), .val (.int p2), .val (.int (p2 &&& (7 : Int32))), .val (.int cc), .val .null, .unset] [])) (fun t kt => XS.icmpYes X1.here hx rfl (pc0 := 78) (pc' := 85) rfl (hb hby at_78) rfl (feq (h9 : ¬ (cc = (9 : Int32)))).2 (by decide) (by decide) kt) ?_
                  refine own_go (A := T1.setTop (mkF m 86 #[.val (.int p1), .val (.int p2), .val (.int (p2 &&& (7 : Int32))), .val (.int cc), .val .null, .unset] [(.int (0 : Int32))])) (fun t kt => XS.iconst X1.here hx rfl (hb hby at_85) kt) ?_
                  refine own_go (A := T1.setTop (mkF m 88 #[.val (.int p1), .val (.int p2), .val (.int (p2 &&& (7 : Int32))), .val (.int cc), .val .null, .val (.int (0 : Int32))] [])) (fun t kt => XS.istore X1.here hx rfl (hb hby at_86) rfl (l' := #[.val (.int p1), .val (.int p2), .val (.int (p2 &&& (7 : Int32))), .val (.int cc), .val .null, .val (.int (0 : Int32))]) rfl kt) ?_
                  refine own_go (A := T1.setTop (mkF m 90 #[.val (.int p1), .val (.int p2), .val (.int (p2 &&& (7 : Int32))), .val (.int cc), .val .null, .val (.int (0 : Int32))] [(.int (0 : Int32))])) (fun t kt => XS.iload X1.here hx rfl (hb hby at_88) rfl kt) ?_
                  refine own_go (A := T1.setTop (mkF m 93 #[.val (.int p1), .val (.int p2), .val (.int (p2 &&& (7 : Int32))), .val (.int cc), .val .null, .val (.int (0 : Int32))] [])) (fun t kt => XS.ifNo X1.here hx rfl (hb hby at_90) rfl ((if0 _ _).trans (teq (rfl : (0 : Int32) = (0 : Int32))).2) kt) ?_
                  refine own_go (A := T1.setTop (mkF m 95 #[.val (.int p1), .val (.int p2), .val (.int (p2 &&& (7 : Int32))), .val (.int cc), .val .null, .val (.int (0 : Int32))] [.null])) (fun t kt => XS.aload X1.here hx rfl (hb hby at_93) rfl rfl kt) ?_
                  refine own_go (A := T1.setTop (mkF m 98 #[.val (.int p1), .val (.int p2), .val (.int (p2 &&& (7 : Int32))), .val (.int cc), .val .null, .val (.int (0 : Int32))] [])) (fun t kt => XS.ifnonnullNo X1.here hx rfl (hb hby at_95) rfl kt) ?_
                  refine own_go (A := T1.setTop (mkF m 99 #[.val (.int p1), .val (.int p2), .val (.int (p2 &&& (7 : Int32))), .val (.int cc), .val .null, .val (.int (0 : Int32))] [(.int (1 : Int32))])) (fun t kt => XS.iconst X1.here hx rfl (hb hby at_98) kt) ?_
                  refine own_go (A := T1.setTop (mkF m 103 #[.val (.int p1), .val (.int p2), .val (.int (p2 &&& (7 : Int32))), .val (.int cc), .val .null, .val (.int (0 : Int32))] [(.int (1 : Int32))])) (fun t kt => XS.goto X1.here hx rfl (pc0 := 99) (pc' := 103) rfl (hb hby at_99) (by decide) (by decide) kt) ?_
                  obtain ⟨fs, hr, hrun, hended, hRE⟩ := X1.leaveW hS1 (Nat.le_refl _) (v := some (.int (1 : Int32))) (fun h => by rw [Bd.returns] at h; cases h)
                  exact ⟨_, _, retN X1 hx (t := .boolean) Bd.returns (by simp) (hb hby at_103) hr, hrun, hended, _, _, rfl, ⟨rfl, N1⟩, ⟨hRE.1, hRE.2.1, hRE.2.2.1, hRE.2.2.2.mono (by decide) (by decide)⟩⟩
set_option maxRecDepth 65536 in
set_option maxHeartbeats 40000000 in
theorem comes_1 {Post : Tables → Env → Array Value → State → Outcome → State → Prop} (hpost : ∀ tb e args s v u, (limb_1_1.after args s (.returned v) u = true ∧ limb_1_2.after args s (.returned v) u = true ∧ True) → ReturnedEndW s (.returned v) u (Jvm.fieldLocs frame_1_writes args s ++ Jvm.arrayLocs frame_1_arrays args s ++ Jvm.staticLocs frame_1_statics s) 8 4160 → Post tb e args s (.returned v) u) :
    ArmFor flags0 classFile x code maxLocals ret World_1 tables_1 room_1 Calls_1 rest_1 Pre_1 Post := by
  intro l hfl _ _ p e ha hc hk s m args below hf hA hF happ hP
  obtain ⟨hcalls, hrest, hpre⟩ := hP
  obtain ⟨-, -, -, hnamed, -, -, -, hat⟩ := (Spec.applies_iff hf).mp happ
  obtain ⟨hg, hn⟩ := and_e (Cond.before_iff.mp (show (Jvm.Cond.and given_1 narrow_1).before args s = true from hpre))
  obtain ⟨gc, g0⟩ := and_e hg
  obtain ⟨ga0, ga1⟩ := and_e g0
  obtain ⟨w0, w1, rfl⟩ : ∃ w0 w1 : Value, args = #[w0, w1] := by
    have hs : args.size = 2 := by simpa [Cond.value, given_1] using gc
    obtain ⟨L⟩ := args
    match L, hs with
    | [w0, w1], _ => exact ⟨w0, w1, rfl⟩
  have hw := fun d (hd : d ∈ tables_1) => atoms_spec (ws := Jvm.Cond.code x code maxLocals ret :: tables_1) hat d (List.mem_cons_of_mem _ hd)
  obtain ⟨hsets, hown0⟩ := atoms_of _ (rest_1_c_eq ▸ (show rest_1_c.before _ s = true from hrest))
  have hcw : Jvm.Lit.compactW.before #[w0, w1] s = true := hsets _ (List.mem_of_getElem? (i := 2) rfl)
  have n5 := not_v (Cond.before_iff.mp (hsets _ (List.mem_of_getElem? (i := 2) rfl)))
  obtain ⟨i0, ei0⟩ := is_v ga0
  obtain rfl : w0 = (.int i0) := Option.some.inj ei0
  obtain ⟨i1, ei1⟩ := is_v ga1
  obtain rfl : w1 = (.int i1) := Option.some.inj ei1
  obtain ⟨i11, e10⟩ := is_v (Cond.before_iff.mp (hsets _ (List.mem_of_getElem? (i := 1) rfl)))
  have S12 : Sta s s.heap "java/lang/String" "COMPACT_STRINGS" "Z" (.int i11) := Sta.start e10 (Or.inl (hsets _ (List.mem_of_getElem? (i := 0) rfl)))
  obtain ⟨v13, e14, r15⟩ := isR_v (Cond.before_iff.mp (hsets _ (List.mem_of_getElem? (i := 8) rfl)))
  have S16 : Sta s s.heap "jdk/internal/util/Preconditions" "SIOOBE_FORMATTER" "Ljava/util/function/BiFunction;" v13 := Sta.start e14 (Or.inl (hsets _ (List.mem_of_getElem? (i := 7) rfl)))
  have c17 : ¬ (i11 = (0 : Int32)) := gotF (Cond.eq_ints e10 (Term.int_eval (0))) n5
  have hH : ∀ q ∈ consts_1, Jvm.Lit.constHeld s q.1 q.2 := fun q hq => hcalls.1 q hq
  obtain ⟨n, o, h1, h2, h3, _, L, rfl, ⟨rfl, N⟩, hq⟩ := rm0 l s _ hw tables_1 i0 i1 i11 v13 s.heap s.heap.size (Nat.le_refl _) S12 c17 S16 r15 hH hcw (Old.start s) p e ha hc hk s m _ below hf ((Spec.applies_iff_loose hf).mp happ).1 ⟨rfl, ⟨State.Warmed39.refl s, rfl⟩, rfl⟩ trivial
  refine ⟨n, _, h1, h2, h3, hpost _ _ _ _ _ _ ⟨Cond.after_iff.mpr rfl, Cond.after_iff.mpr (eq_i res_at (Term.int_eval (1)) rfl), trivial⟩ ⟨hq.1, hq.2.1, hq.2.2.1, (hq.2.2.2.sift fun y hy => Or.inr (N y hy)).mono (by decide) (by decide)⟩⟩
theorem main_1_1 : Claimed_1_1 := comes_1 fun _ _ _ _ _ _ h hF => ⟨h.1, hF⟩
theorem main_1_2 : Claimed_1_2 := comes_1 fun _ _ _ _ _ _ h hF => ⟨h.2.1, hF⟩
end Jvm.Pilot.@@N@@
namespace Jvm.Pilot.@@N@@
open Jvm Jvm.ClassFile Sem Op Lib Jvm.Free Jvm.Stand Jvm.Pilot.@@N@@.Jvm.D
/-! MADE BY PROGRAM (witnessworld.py) out of the Statement's table words and the real class files: 18 classes; the members and pool entries that the words name. The judged class is class 1, her method 1. -/
namespace start1
open Jvm.ClassFile
def u (s : String) : CpInfo := .utf8 (stringToUtf16 s)
/-- a pool by its gaps: so many unusable entries, then the entry; so many at the end -/
def gap : Nat → List CpInfo → List CpInfo
  | 0, r => r
  | n + 1, r => .unusable :: gap n r
def poolList (es : List (Nat × CpInfo)) (last : Nat) : List CpInfo := es.foldr (fun e r => gap e.1 (e.2 :: r)) (gap last [])
def pool (es : List (Nat × CpInfo)) (last : Nat) : Array CpInfo := ⟨poolList es last⟩
def fileOf (pool : Array CpInfo) (this : Nat) (attrs : Array Attribute := #[]) (ms : Array MethodInfo := #[]) (fl : Nat := 33) (sup : Nat := 0) (ifs : Array Nat := #[]) (fds : Array FieldInfo := #[]) : ClassFile where
  minorVersion := 0
  majorVersion := 65
  constantPool := pool
  accessFlags := fl
  thisClass := this
  superClass := sup
  interfaces := ifs
  fields := fds
  methods := ms
  attributes := attrs
def plain (name : String) (sup : Option ClassId) : Class where
  name := name
  kind := .ordinary
  loader := none
  accessFlags := 33
  super := sup
  interfaces := #[]
  cf := none
  fields := #[]
  methods := #[]
  instanceTypes := #[]
  staticTypes := #[]
  resolved := #[]
  callSites := []
  init := .initialized
  statics := none
  mirror := none

def pool0 : Array CpInfo := pool [(5, u "<init>"), (0, u "()V"), (1, .class_ 10), (1, u "java/lang/Object")] 113

def k0m0 : Method := { name := "<init>", desc := "()V", sig := { parameters := [], returnType := none }, accessFlags := 1, code := none }
/-- java/lang/Object -/
def k0 : Class := { plain "java/lang/Object" none with
  accessFlags := 33
  interfaces := #[]
  cf := some (fileOf pool0 8 #[] #[{ accessFlags := 1, nameIndex := 5, descriptorIndex := 6, attributes := #[] }] 33 0 #[] #[])
  fields := #[]
  methods := #[k0m0]
  instanceTypes := #[]
  staticTypes := #[]
  resolved := Array.replicate 124 none
  statics := none }

def pool1 : Array CpInfo := pool [(2, .class_ 4), (1, u "java/lang/Object"), (0, u "<init>"), (0, u "()V"), (0, .methodref 8 9), (0, .class_ 10), (0, .nameAndType 11 12), (0, u "com/example/coxt/coxt/output/XmlSerializer"), (0, u "whiteSpaceOrQuoteEscape"), (0, u "(C)Ljava/lang/String;"), (0, .methodref 14 15), (0, .class_ 16), (0, .nameAndType 17 18), (0, u "com/example/coxt/coxt/output/XmlSerializerWhiteSpaceOrQuoteEscapePinLaw"), (0, u "decode"), (0, u "(Ljava/lang/String;)I"), (0, .methodref 20 21), (0, .class_ 22), (0, .nameAndType 23 24), (0, u "java/lang/String"), (0, u "length"), (0, u "()I"), (0, .methodref 20 26), (0, .nameAndType 27 28), (0, u "charAt"), (0, u "(I)C"), (0, .methodref 14 30), (0, .nameAndType 31 32), (0, u "digit"), (0, u "(C)I"), (2, u "law"), (0, u "(II)Z")] 3

def k1m0 : Method := { name := "<init>", desc := "()V", sig := { parameters := [], returnType := none }, accessFlags := 1, code := none }
def k1c1 : Code := { maxStack := 2, maxLocals := 6, code := code, exceptionTable := #[], attributes := #[] }
def k1m1 : Method := { name := "law", desc := "(II)Z", sig := { parameters := [.int, .int], returnType := some .boolean }, accessFlags := 9, code := some k1c1 }
def k1c2 : Code := { maxStack := 2, maxLocals := 1, code := method_3_code, exceptionTable := #[], attributes := #[] }
def k1m2 : Method := { name := "digit", desc := "(C)I", sig := { parameters := [.char], returnType := some .int }, accessFlags := 10, code := some k1c2 }
def k1c3 : Code := { maxStack := 3, maxLocals := 5, code := method_4_code, exceptionTable := #[], attributes := #[] }
def k1m3 : Method := { name := "decode", desc := "(Ljava/lang/String;)I", sig := { parameters := [(.object "java/lang/String")], returnType := some .int }, accessFlags := 10, code := some k1c3 }
/-- com/example/coxt/coxt/output/XmlSerializerWhiteSpaceOrQuoteEscapePinLaw -/
def k1 : Class := { plain "com/example/coxt/coxt/output/XmlSerializerWhiteSpaceOrQuoteEscapePinLaw" (some 0) with
  accessFlags := 49
  interfaces := #[]
  cf := some (fileOf pool1 14 #[] #[{ accessFlags := 1, nameIndex := 5, descriptorIndex := 6, attributes := #[] }, { accessFlags := 9, nameIndex := 35, descriptorIndex := 36, attributes := #[] }, { accessFlags := 10, nameIndex := 31, descriptorIndex := 32, attributes := #[] }, { accessFlags := 10, nameIndex := 17, descriptorIndex := 18, attributes := #[] }] 49 2 #[] #[])
  fields := #[]
  methods := #[k1m0, k1m1, k1m2, k1m3]
  instanceTypes := #[]
  staticTypes := #[]
  resolved := Array.replicate 40 none
  statics := none }

def pool2 : Array CpInfo := pool [(1, .class_ 2), (0, u "com/example/coxt/coxt/output/Receiver"), (0, .class_ 4), (0, u "java/lang/Object")] 20

/-- com/example/coxt/coxt/output/Receiver -/
def k2 : Class := { plain "com/example/coxt/coxt/output/Receiver" (some 0) with
  accessFlags := 1537
  interfaces := #[]
  cf := some (fileOf pool2 1 #[] #[] 1537 3 #[] #[])
  fields := #[]
  methods := #[]
  instanceTypes := #[]
  staticTypes := #[]
  resolved := Array.replicate 25 none
  statics := none }

def pool3 : Array CpInfo := pool [(2, .class_ 4), (1, u "java/lang/Object"), (6, .class_ 13), (1, u "com/example/coxt/coxt/output/XmlSerializer"), (0, u "startTags"), (0, u "Lcom/example/coxt/coxt/output/StartTags;"), (5, u "open"), (0, u "Ljava/util/List;"), (2, u "out"), (0, u "Lcom/example/coxt/coxt/output/EncodedWriter;"), (2, u "settings"), (0, u "Lcom/example/coxt/coxt/output/OutputSettings;"), (35, u "written"), (0, u "Z"), (25, .class_ 95), (1, u "com/example/coxt/coxt/output/XmlSerializer$TextForm"), (3, .class_ 101), (1, u "com/example/coxt/coxt/output/XmlSerializer$OpenElement"), (14, u "Ljava/lang/String;"), (103, u "afterText"), (70, u "elementWritten"), (71, .class_ 365), (1, u "com/example/coxt/coxt/output/XmlSerializer$Escapes"), (22, .string 389), (0, u "&#13;"), (2, u "whiteSpaceOrQuoteEscape"), (0, u "(C)Ljava/lang/String;"), (0, .string 395), (0, u "&quot;"), (0, .string 397), (0, u "&#10;"), (0, .string 399), (0, u "&#9;"), (13, .class_ 414), (0, u "com/example/coxt/coxt/output/Receiver"), (0, u "INDENTATION")] 72

def k3c0 : Code := { maxStack := 2, maxLocals := 2, code := prog_30_method_34_code, exceptionTable := #[], attributes := #[] }
def k3m0 : Method := { name := "whiteSpaceOrQuoteEscape", desc := "(C)Ljava/lang/String;", sig := { parameters := [.char], returnType := some (.object "java/lang/String") }, accessFlags := 8, code := some k3c0 }
/-- com/example/coxt/coxt/output/XmlSerializer -/
def k3 : Class := { plain "com/example/coxt/coxt/output/XmlSerializer" (some 0) with
  accessFlags := 32
  interfaces := #[2]
  cf := some (fileOf pool3 11 #[.nestMembers #[99, 363, 93]] #[{ accessFlags := 8, nameIndex := 392, descriptorIndex := 393, attributes := #[] }] 32 2 #[413] #[{ accessFlags := 26, nameIndex := 415, descriptorIndex := 116, attributes := #[] }, { accessFlags := 16, nameIndex := 25, descriptorIndex := 26, attributes := #[] }, { accessFlags := 16, nameIndex := 29, descriptorIndex := 30, attributes := #[] }, { accessFlags := 18, nameIndex := 14, descriptorIndex := 15, attributes := #[] }, { accessFlags := 18, nameIndex := 21, descriptorIndex := 22, attributes := #[] }, { accessFlags := 2, nameIndex := 291, descriptorIndex := 67, attributes := #[] }, { accessFlags := 2, nameIndex := 66, descriptorIndex := 67, attributes := #[] }, { accessFlags := 2, nameIndex := 220, descriptorIndex := 67, attributes := #[] }])
  fields := #[{ name := "INDENTATION", type := (.object "java/lang/String"), accessFlags := 26, slot := 0, constantValue := 0 }, { name := "out", type := (.object "com/example/coxt/coxt/output/EncodedWriter"), accessFlags := 16, slot := 0, constantValue := 0 }, { name := "settings", type := (.object "com/example/coxt/coxt/output/OutputSettings"), accessFlags := 16, slot := 1, constantValue := 0 }, { name := "startTags", type := (.object "com/example/coxt/coxt/output/StartTags"), accessFlags := 18, slot := 2, constantValue := 0 }, { name := "open", type := (.object "java/util/List"), accessFlags := 18, slot := 3, constantValue := 0 }, { name := "elementWritten", type := .boolean, accessFlags := 2, slot := 4, constantValue := 0 }, { name := "written", type := .boolean, accessFlags := 2, slot := 5, constantValue := 0 }, { name := "afterText", type := .boolean, accessFlags := 2, slot := 6, constantValue := 0 }]
  methods := #[k3m0]
  instanceTypes := #[(.object "com/example/coxt/coxt/output/EncodedWriter"), (.object "com/example/coxt/coxt/output/OutputSettings"), (.object "com/example/coxt/coxt/output/StartTags"), (.object "java/util/List"), .boolean, .boolean, .boolean]
  staticTypes := #[(.object "java/lang/String")]
  resolved := Array.replicate 488 none
  statics := none }

def pool4 : Array CpInfo := pool [(1, .class_ 2), (0, u "java/io/Serializable"), (0, .class_ 4), (0, u "java/lang/Object")] 2

/-- java/io/Serializable -/
def k4 : Class := { plain "java/io/Serializable" (some 0) with
  accessFlags := 1537
  interfaces := #[]
  cf := some (fileOf pool4 1 #[] #[] 1537 3 #[] #[])
  fields := #[]
  methods := #[]
  instanceTypes := #[]
  staticTypes := #[]
  resolved := Array.replicate 7 none
  statics := none }

def pool5 : Array CpInfo := pool [(1, .class_ 2), (0, u "java/lang/Comparable"), (0, .class_ 4), (0, u "java/lang/Object")] 7

/-- java/lang/Comparable -/
def k5 : Class := { plain "java/lang/Comparable" (some 0) with
  accessFlags := 1537
  interfaces := #[]
  cf := some (fileOf pool5 1 #[] #[] 1537 3 #[] #[])
  fields := #[]
  methods := #[]
  instanceTypes := #[]
  staticTypes := #[]
  resolved := Array.replicate 12 none
  statics := none }

def pool6 : Array CpInfo := pool [(2, .class_ 4), (1, u "java/lang/CharSequence"), (42, .class_ 48), (0, u "java/lang/CharSequence$1CodePointIterator"), (10, .class_ 60), (0, u "java/lang/CharSequence$1CharIterator"), (5, .class_ 67), (0, u "java/lang/Object")] 63

/-- java/lang/CharSequence -/
def k6 : Class := { plain "java/lang/CharSequence" (some 0) with
  accessFlags := 1537
  interfaces := #[]
  cf := some (fileOf pool6 2 #[.nestMembers #[47, 59]] #[] 1537 66 #[] #[])
  fields := #[]
  methods := #[]
  instanceTypes := #[]
  staticTypes := #[]
  resolved := Array.replicate 131 none
  statics := none }

def pool7 : Array CpInfo := pool [(1, .class_ 2), (0, u "java/lang/constant/Constable"), (0, .class_ 4), (0, u "java/lang/Object")] 6

/-- java/lang/constant/Constable -/
def k7 : Class := { plain "java/lang/constant/Constable" (some 0) with
  accessFlags := 1537
  interfaces := #[]
  cf := some (fileOf pool7 1 #[] #[] 1537 3 #[] #[])
  fields := #[]
  methods := #[]
  instanceTypes := #[]
  staticTypes := #[]
  resolved := Array.replicate 11 none
  statics := none }

def pool8 : Array CpInfo := pool [(1, .class_ 2), (0, u "java/lang/constant/ConstantDesc"), (0, .class_ 4), (0, u "java/lang/Object")] 32

/-- java/lang/constant/ConstantDesc -/
def k8 : Class := { plain "java/lang/constant/ConstantDesc" (some 0) with
  accessFlags := 1537
  interfaces := #[]
  cf := some (fileOf pool8 1 #[] #[] 1537 3 #[] #[])
  fields := #[]
  methods := #[]
  instanceTypes := #[]
  staticTypes := #[]
  resolved := Array.replicate 37 none
  statics := none }

def pool9 : Array CpInfo := pool [(2, .class_ 4), (1, u "java/lang/Object"), (0, u "<init>"), (0, u "()V"), (2, .fieldref 10 11), (0, .class_ 12), (0, .nameAndType 13 14), (0, u "java/lang/String"), (0, u "value"), (0, u "[B"), (0, .fieldref 10 16), (0, .nameAndType 17 18), (0, u "coder"), (0, u "B"), (2, u "hash"), (0, u "I"), (2, u "hashIsZero"), (0, u "Z"), (11, .fieldref 10 39), (0, .nameAndType 40 26), (0, u "COMPACT_STRINGS"), (66, .class_ 109), (1, u "java/lang/StringLatin1"), (32, u "()Z"), (191, u "()I"), (0, .methodref 10 336), (0, .nameAndType 17 337), (0, u "()B"), (25, u "([BI)C"), (27, u "(II)V"), (35, u "(I)C"), (64, .methodref 10 493), (0, .nameAndType 494 142), (0, u "isLatin1"), (0, .methodref 107 496), (0, .nameAndType 497 363), (0, u "charAt"), (3, u "checkIndex"), (5, u "length"), (67, .class_ 576), (0, u "java/lang/CharSequence"), (22, u "CASE_INSENSITIVE_ORDER"), (0, u "Ljava/util/Comparator;"), (452, .fieldref 1054 1055), (0, .class_ 1056), (0, .nameAndType 1057 1058), (0, u "jdk/internal/util/Preconditions"), (0, u "SIOOBE_FORMATTER"), (0, u "Ljava/util/function/BiFunction;"), (0, .methodref 1054 1060), (0, .nameAndType 501 1061), (0, u "(IILjava/util/function/BiFunction;)I"), (39, u "serialPersistentFields"), (0, u "[Ljava/io/ObjectStreamField;"), (0, .class_ 1104), (0, u "java/lang/String$CaseInsensitiveComparator"), (1, .class_ 1107), (0, u "java/io/Serializable"), (0, .class_ 1109), (0, u "java/lang/Comparable"), (0, .class_ 1111), (0, u "java/lang/constant/Constable"), (0, .class_ 1113), (0, u "java/lang/constant/ConstantDesc"), (2, u "serialVersionUID"), (0, u "J"), (3, u "REPL"), (0, u "C"), (2, u "LATIN1"), (1, u "UTF16")] 323

def k9m0 : Method := { name := "<init>", desc := "()V", sig := { parameters := [], returnType := none }, accessFlags := 1, code := none }
def k9c1 : Code := { maxStack := 2, maxLocals := 1, code := jdk_42_method_54_code, exceptionTable := #[], attributes := #[] }
def k9m1 : Method := { name := "length", desc := "()I", sig := { parameters := [], returnType := some .int }, accessFlags := 1, code := some k9c1 }
def k9c2 : Code := { maxStack := 2, maxLocals := 2, code := jdk_42_method_56_code, exceptionTable := #[], attributes := #[] }
def k9m2 : Method := { name := "charAt", desc := "(I)C", sig := { parameters := [.int], returnType := some .char }, accessFlags := 1, code := some k9c2 }
def k9c3 : Code := { maxStack := 1, maxLocals := 1, code := jdk_42_method_152_code, exceptionTable := #[], attributes := #[] }
def k9m3 : Method := { name := "coder", desc := "()B", sig := { parameters := [], returnType := some .byte }, accessFlags := 0, code := some k9c3 }
def k9c4 : Code := { maxStack := 1, maxLocals := 1, code := jdk_42_method_154_code, exceptionTable := #[], attributes := #[] }
def k9m4 : Method := { name := "isLatin1", desc := "()Z", sig := { parameters := [], returnType := some .boolean }, accessFlags := 0, code := some k9c4 }
def k9c5 : Code := { maxStack := 3, maxLocals := 2, code := jdk_42_method_155_code, exceptionTable := #[], attributes := #[] }
def k9m5 : Method := { name := "checkIndex", desc := "(II)V", sig := { parameters := [.int, .int], returnType := none }, accessFlags := 8, code := some k9c5 }
/-- java/lang/String -/
def k9 : Class := { plain "java/lang/String" (some 0) with
  accessFlags := 49
  interfaces := #[4, 5, 6, 7, 8]
  cf := some (fileOf pool9 10 #[.nestMembers #[1103]] #[{ accessFlags := 1, nameIndex := 5, descriptorIndex := 6, attributes := #[] }, { accessFlags := 1, nameIndex := 507, descriptorIndex := 334, attributes := #[] }, { accessFlags := 1, nameIndex := 497, descriptorIndex := 427, attributes := #[] }, { accessFlags := 0, nameIndex := 17, descriptorIndex := 337, attributes := #[] }, { accessFlags := 0, nameIndex := 494, descriptorIndex := 142, attributes := #[] }, { accessFlags := 8, nameIndex := 501, descriptorIndex := 391, attributes := #[] }] 49 2 #[1106, 1108, 575, 1110, 1112] #[{ accessFlags := 18, nameIndex := 13, descriptorIndex := 14, attributes := #[] }, { accessFlags := 18, nameIndex := 17, descriptorIndex := 18, attributes := #[] }, { accessFlags := 2, nameIndex := 21, descriptorIndex := 22, attributes := #[] }, { accessFlags := 2, nameIndex := 25, descriptorIndex := 26, attributes := #[] }, { accessFlags := 26, nameIndex := 1116, descriptorIndex := 1117, attributes := #[] }, { accessFlags := 24, nameIndex := 40, descriptorIndex := 26, attributes := #[] }, { accessFlags := 26, nameIndex := 1101, descriptorIndex := 1102, attributes := #[] }, { accessFlags := 26, nameIndex := 1121, descriptorIndex := 1122, attributes := #[] }, { accessFlags := 25, nameIndex := 599, descriptorIndex := 600, attributes := #[] }, { accessFlags := 24, nameIndex := 1125, descriptorIndex := 18, attributes := #[] }, { accessFlags := 24, nameIndex := 1127, descriptorIndex := 18, attributes := #[] }])
  fields := #[{ name := "value", type := (.array .byte), accessFlags := 18, slot := 0, constantValue := 0 }, { name := "coder", type := .byte, accessFlags := 18, slot := 1, constantValue := 0 }, { name := "hash", type := .int, accessFlags := 2, slot := 2, constantValue := 0 }, { name := "hashIsZero", type := .boolean, accessFlags := 2, slot := 3, constantValue := 0 }, { name := "serialVersionUID", type := .long, accessFlags := 26, slot := 0, constantValue := 0 }, { name := "COMPACT_STRINGS", type := .boolean, accessFlags := 24, slot := 1, constantValue := 0 }, { name := "serialPersistentFields", type := (.array (.object "java/io/ObjectStreamField")), accessFlags := 26, slot := 2, constantValue := 0 }, { name := "REPL", type := .char, accessFlags := 26, slot := 3, constantValue := 0 }, { name := "CASE_INSENSITIVE_ORDER", type := (.object "java/util/Comparator"), accessFlags := 25, slot := 4, constantValue := 0 }, { name := "LATIN1", type := .byte, accessFlags := 24, slot := 5, constantValue := 0 }, { name := "UTF16", type := .byte, accessFlags := 24, slot := 6, constantValue := 0 }]
  methods := #[k9m0, k9m1, k9m2, k9m3, k9m4, k9m5]
  instanceTypes := #[(.array .byte), .byte, .int, .boolean]
  staticTypes := #[.long, .boolean, (.array (.object "java/io/ObjectStreamField")), .char, (.object "java/util/Comparator"), .byte, .byte]
  resolved := Array.replicate 1451 none
  statics := some 0 }

def pool10 : Array CpInfo := pool [(1, .class_ 2), (0, u "java/lang/String"), (1, .class_ 6), (1, u "java/lang/Object"), (0, u "<init>"), (0, u "()V"), (0, .methodref 1 10), (0, .nameAndType 11 12), (0, u "checkIndex"), (0, u "(II)V"), (1, .class_ 16), (1, u "java/lang/StringLatin1"), (36, u "([BI)C"), (67, u "$assertionsDisabled"), (0, u "Z"), (98, .class_ 223), (1, u "java/lang/StringLatin1$LinesSpliterator"), (28, u "charAt"), (137, .class_ 391), (0, u "java/lang/StringLatin1$CharsSpliterator")] 3

def k10m0 : Method := { name := "<init>", desc := "()V", sig := { parameters := [], returnType := none }, accessFlags := 0, code := none }
def k10c1 : Code := { maxStack := 2, maxLocals := 2, code := jdk_43_method_2_code, exceptionTable := #[], attributes := #[] }
def k10m1 : Method := { name := "charAt", desc := "([BI)C", sig := { parameters := [(.array .byte), .int], returnType := some .char }, accessFlags := 9, code := some k10c1 }
/-- java/lang/StringLatin1 -/
def k10 : Class := { plain "java/lang/StringLatin1" (some 0) with
  accessFlags := 48
  interfaces := #[]
  cf := some (fileOf pool10 14 #[.nestMembers #[390, 221]] #[{ accessFlags := 0, nameIndex := 7, descriptorIndex := 8, attributes := #[] }, { accessFlags := 9, nameIndex := 252, descriptorIndex := 53, attributes := #[] }] 48 4 #[] #[{ accessFlags := 4120, nameIndex := 121, descriptorIndex := 122, attributes := #[] }])
  fields := #[{ name := "$assertionsDisabled", type := .boolean, accessFlags := 4120, slot := 0, constantValue := 0 }]
  methods := #[k10m0, k10m1]
  instanceTypes := #[]
  staticTypes := #[.boolean]
  resolved := Array.replicate 395 none
  statics := none }

def pool11 : Array CpInfo := pool [(2, .class_ 4), (1, u "java/lang/Object"), (0, u "<init>"), (0, u "()V"), (17, .class_ 26), (1, u "jdk/internal/util/Preconditions"), (6, u "checkIndex"), (21, .class_ 56), (0, u "jdk/internal/util/Preconditions$4"), (57, .class_ 115), (0, u "jdk/internal/util/Preconditions$1"), (7, u "SIOOBE_FORMATTER"), (0, u "Ljava/util/function/BiFunction;"), (0, .class_ 126), (0, u "jdk/internal/util/Preconditions$2"), (3, u "AIOOBE_FORMATTER"), (0, .class_ 132), (0, u "jdk/internal/util/Preconditions$3"), (3, u "IOOBE_FORMATTER"), (41, u "(IILjava/util/function/BiFunction;)I")] 15

def k11m0 : Method := { name := "<init>", desc := "()V", sig := { parameters := [], returnType := none }, accessFlags := 1, code := none }
def k11c1 : Code := { maxStack := 3, maxLocals := 3, code := jdk_41_method_11_code, exceptionTable := #[], attributes := #[] }
def k11m1 : Method := { name := "checkIndex", desc := "(IILjava/util/function/BiFunction;)I", sig := { parameters := [.int, .int, (.object "java/util/function/BiFunction")], returnType := some .int }, accessFlags := 9, code := some k11c1 }
/-- jdk/internal/util/Preconditions -/
def k11 : Class := { plain "jdk/internal/util/Preconditions" (some 0) with
  accessFlags := 33
  interfaces := #[]
  cf := some (fileOf pool11 24 #[.nestMembers #[55, 131, 125, 114]] #[{ accessFlags := 1, nameIndex := 5, descriptorIndex := 6, attributes := #[] }, { accessFlags := 9, nameIndex := 33, descriptorIndex := 178, attributes := #[] }] 33 2 #[] #[{ accessFlags := 25, nameIndex := 123, descriptorIndex := 124, attributes := #[] }, { accessFlags := 25, nameIndex := 130, descriptorIndex := 124, attributes := #[] }, { accessFlags := 25, nameIndex := 136, descriptorIndex := 124, attributes := #[] }])
  fields := #[{ name := "SIOOBE_FORMATTER", type := (.object "java/util/function/BiFunction"), accessFlags := 25, slot := 0, constantValue := 0 }, { name := "AIOOBE_FORMATTER", type := (.object "java/util/function/BiFunction"), accessFlags := 25, slot := 1, constantValue := 0 }, { name := "IOOBE_FORMATTER", type := (.object "java/util/function/BiFunction"), accessFlags := 25, slot := 2, constantValue := 0 }]
  methods := #[k11m0, k11m1]
  instanceTypes := #[]
  staticTypes := #[(.object "java/util/function/BiFunction"), (.object "java/util/function/BiFunction"), (.object "java/util/function/BiFunction")]
  resolved := Array.replicate 194 none
  statics := some 1 }

def pool12 : Array CpInfo := pool [(9, u "<init>"), (6, .class_ 18), (1, u "java/lang/Object"), (0, u "()V"), (1, .class_ 23), (1, u "jdk/internal/util/ArraysSupport"), (0, u "LOG2_ARRAY_LONG_INDEX_SCALE"), (0, u "I"), (2, u "U"), (0, u "Ljdk/internal/misc/Unsafe;"), (8, u "BIG_ENDIAN"), (0, u "Z"), (8, u "LOG2_BYTE_BIT_SIZE"), (4, u "LOG2_ARRAY_INT_INDEX_SCALE"), (54, u "JLA"), (0, u "Ljdk/internal/access/JavaLangAccess;"), (11, u "LOG2_ARRAY_BOOLEAN_INDEX_SCALE"), (9, u "LOG2_ARRAY_BYTE_INDEX_SCALE"), (5, u "LOG2_ARRAY_CHAR_INDEX_SCALE"), (5, u "LOG2_ARRAY_SHORT_INDEX_SCALE"), (18, u "LOG2_ARRAY_FLOAT_INDEX_SCALE"), (24, u "LOG2_ARRAY_DOUBLE_INDEX_SCALE"), (89, u "T_BOOLEAN"), (2, u "T_CHAR"), (1, u "T_FLOAT"), (1, u "T_DOUBLE"), (1, u "T_BYTE"), (1, u "T_SHORT"), (1, u "T_INT"), (1, u "T_LONG"), (1, u "SOFT_MAX_ARRAY_LENGTH")] 83

def k12m0 : Method := { name := "<init>", desc := "()V", sig := { parameters := [], returnType := none }, accessFlags := 2, code := none }
/-- jdk/internal/util/ArraysSupport -/
def k12 : Class := { plain "jdk/internal/util/ArraysSupport" (some 0) with
  accessFlags := 33
  interfaces := #[]
  cf := some (fileOf pool12 21 #[] #[{ accessFlags := 2, nameIndex := 9, descriptorIndex := 19, attributes := #[] }] 33 16 #[] #[{ accessFlags := 24, nameIndex := 28, descriptorIndex := 29, attributes := #[] }, { accessFlags := 26, nameIndex := 38, descriptorIndex := 39, attributes := #[] }, { accessFlags := 25, nameIndex := 121, descriptorIndex := 25, attributes := #[] }, { accessFlags := 25, nameIndex := 131, descriptorIndex := 25, attributes := #[] }, { accessFlags := 25, nameIndex := 137, descriptorIndex := 25, attributes := #[] }, { accessFlags := 25, nameIndex := 143, descriptorIndex := 25, attributes := #[] }, { accessFlags := 25, nameIndex := 53, descriptorIndex := 25, attributes := #[] }, { accessFlags := 25, nameIndex := 24, descriptorIndex := 25, attributes := #[] }, { accessFlags := 25, nameIndex := 162, descriptorIndex := 25, attributes := #[] }, { accessFlags := 25, nameIndex := 187, descriptorIndex := 25, attributes := #[] }, { accessFlags := 26, nameIndex := 48, descriptorIndex := 25, attributes := #[] }, { accessFlags := 25, nameIndex := 277, descriptorIndex := 25, attributes := #[] }, { accessFlags := 25, nameIndex := 280, descriptorIndex := 25, attributes := #[] }, { accessFlags := 25, nameIndex := 282, descriptorIndex := 25, attributes := #[] }, { accessFlags := 25, nameIndex := 284, descriptorIndex := 25, attributes := #[] }, { accessFlags := 25, nameIndex := 286, descriptorIndex := 25, attributes := #[] }, { accessFlags := 25, nameIndex := 288, descriptorIndex := 25, attributes := #[] }, { accessFlags := 25, nameIndex := 290, descriptorIndex := 25, attributes := #[] }, { accessFlags := 25, nameIndex := 292, descriptorIndex := 25, attributes := #[] }, { accessFlags := 26, nameIndex := 108, descriptorIndex := 109, attributes := #[] }, { accessFlags := 25, nameIndex := 294, descriptorIndex := 25, attributes := #[] }])
  fields := #[{ name := "U", type := (.object "jdk/internal/misc/Unsafe"), accessFlags := 24, slot := 0, constantValue := 0 }, { name := "BIG_ENDIAN", type := .boolean, accessFlags := 26, slot := 1, constantValue := 0 }, { name := "LOG2_ARRAY_BOOLEAN_INDEX_SCALE", type := .int, accessFlags := 25, slot := 2, constantValue := 0 }, { name := "LOG2_ARRAY_BYTE_INDEX_SCALE", type := .int, accessFlags := 25, slot := 3, constantValue := 0 }, { name := "LOG2_ARRAY_CHAR_INDEX_SCALE", type := .int, accessFlags := 25, slot := 4, constantValue := 0 }, { name := "LOG2_ARRAY_SHORT_INDEX_SCALE", type := .int, accessFlags := 25, slot := 5, constantValue := 0 }, { name := "LOG2_ARRAY_INT_INDEX_SCALE", type := .int, accessFlags := 25, slot := 6, constantValue := 0 }, { name := "LOG2_ARRAY_LONG_INDEX_SCALE", type := .int, accessFlags := 25, slot := 7, constantValue := 0 }, { name := "LOG2_ARRAY_FLOAT_INDEX_SCALE", type := .int, accessFlags := 25, slot := 8, constantValue := 0 }, { name := "LOG2_ARRAY_DOUBLE_INDEX_SCALE", type := .int, accessFlags := 25, slot := 9, constantValue := 0 }, { name := "LOG2_BYTE_BIT_SIZE", type := .int, accessFlags := 26, slot := 10, constantValue := 0 }, { name := "T_BOOLEAN", type := .int, accessFlags := 25, slot := 11, constantValue := 0 }, { name := "T_CHAR", type := .int, accessFlags := 25, slot := 12, constantValue := 0 }, { name := "T_FLOAT", type := .int, accessFlags := 25, slot := 13, constantValue := 0 }, { name := "T_DOUBLE", type := .int, accessFlags := 25, slot := 14, constantValue := 0 }, { name := "T_BYTE", type := .int, accessFlags := 25, slot := 15, constantValue := 0 }, { name := "T_SHORT", type := .int, accessFlags := 25, slot := 16, constantValue := 0 }, { name := "T_INT", type := .int, accessFlags := 25, slot := 17, constantValue := 0 }, { name := "T_LONG", type := .int, accessFlags := 25, slot := 18, constantValue := 0 }, { name := "JLA", type := (.object "jdk/internal/access/JavaLangAccess"), accessFlags := 26, slot := 19, constantValue := 0 }, { name := "SOFT_MAX_ARRAY_LENGTH", type := .int, accessFlags := 25, slot := 20, constantValue := 0 }]
  methods := #[k12m0]
  instanceTypes := #[]
  staticTypes := #[(.object "jdk/internal/misc/Unsafe"), .boolean, .int, .int, .int, .int, .int, .int, .int, .int, .int, .int, .int, .int, .int, .int, .int, .int, .int, (.object "jdk/internal/access/JavaLangAccess"), .int]
  resolved := Array.replicate 378 none
  statics := none }

def pool13 : Array CpInfo := pool [(1, u "java/lang/Cloneable"), (0, .class_ 1), (0, u "java/lang/Object"), (0, .class_ 3)] 3

/-- java/lang/Cloneable -/
def k13 : Class := { plain "java/lang/Cloneable" (some 0) with
  accessFlags := 1537
  interfaces := #[]
  cf := some (fileOf pool13 2 #[] #[] 1537 4 #[] #[])
  fields := #[]
  methods := #[]
  instanceTypes := #[]
  staticTypes := #[]
  resolved := Array.replicate 8 none
  statics := none }

/-- the primitive byte -/
def k14 : Class := { plain "byte" none with kind := .primitive 'B', accessFlags := 0x411 }
/-- [B -/
def k15 : Class := { plain "[B" (some 0) with kind := .array 14 .byte, interfaces := #[13, 4], accessFlags := 1041 }

/-- the primitive int -/
def k16 : Class := { plain "int" none with kind := .primitive 'I', accessFlags := 0x411 }
/-- [I -/
def k17 : Class := { plain "[I" (some 0) with kind := .array 16 .int, interfaces := #[13, 4], accessFlags := 1041 }

def heap : Heap := #[{ cls := 9, slots := #[.long 0, .int 1, .null, .int 0, .null, .int 0, .int 0], vm := .statics 9 },
  { cls := 11, slots := #[.null, .null, .null], vm := .statics 11 }]
def classes : Array Class := #[k0, k1, k2, k3, k4, k5, k6, k7, k8, k9, k10, k11, k12, k13, k14, k15, k16, k17]
def interned : List (Array UInt16 × Addr) := []
def slotsUsed : Nat := 10
def theMethod : MethodId := ⟨1, 1⟩
def args0 : Array Value := #[.int 5, .int 3]
def aboutOver (below : List Frame) : State where
  vm := { classes := classes, interned := interned.toArray }
  heap := heap
  slotsUsed := slotsUsed
  threads := #[{ frames := .invoking theMethod args0 :: below }]
def below0 : List Frame := [.native { method := ⟨0, 0⟩, args := #[] }]
def about1 : State := aboutOver below0
def p0 : Program := .bare "" "" ""
def e0 : Env := launch0.env 0 0 0
theorem w_frames : about1.frames = Frame.invoking theMethod args0 :: below0 := rfl
set_option maxRecDepth 65536 in
theorem w_args : argsFit about1.vm theMethod args0 = true := by decide +kernel
set_option maxRecDepth 65536 in
theorem w_heap : heapFits about1 = true := by decide +kernel
set_option maxRecDepth 65536 in
theorem w_runnable : about1.curStatus? = some .runnable := by decide +kernel
set_option maxRecDepth 65536 in
theorem w_alone : about1.alone = true := by decide +kernel
set_option maxRecDepth 65536 in
theorem w_named : about1.methodNamed? x = some theMethod := by decide +kernel
set_option maxRecDepth 65536 in
theorem w_hears : about1.hears theMethod below0 = true := by decide +kernel
set_option maxRecDepth 65536 in
theorem w_ripe : about1.ripe theMethod args0 below0 = true := by decide +kernel
theorem w_running : about1.status = .running := rfl
set_option maxRecDepth 65536 in
theorem w_room : about1.hasRoom e0.platform room_1 = true :=
  launch0.hasRoom_least _ room_1 (by decide +kernel) (by decide +kernel) (by decide +kernel) (by decide +kernel) (by decide +kernel) (by decide +kernel)
theorem allAtoms_all (ts : List Jvm.Cond) (a : Array Jvm.Value) (st : Jvm.State) : (allAtoms ts).before a st = ts.all (fun c => c.before a st) := by
  induction ts with
  | nil => rfl
  | cons c t ih =>
    show (Jvm.Cond.and c (allAtoms t)).before a st = _
    rw [Jvm.Cond.before_and, ih, List.all_cons]
def words1 : List Jvm.Cond := Jvm.Cond.code x code maxLocals ret :: tables_1
/-- a 'code' word, met by the world's own term for the bytes: nothing is compared byte by byte -/
theorem code_word {y : MethodName} {bytes : ByteArray} {mx : Nat} {rt : Option FieldType} {a : Array Value} {s : State} {m : MethodId} {meth : Method} {c : Code} (h1 : s.methodNamed? y = some m) (h2 : s.vm.method? m = some meth) (h3 : meth.code = some c) (h4 : c.code = bytes)
    (h5 : (c.maxLocals == mx && c.exceptionTable.isEmpty && decide (c.maxStack ≤ mostOperands) && decide (meth.sig.returnType = rt) && !meth.locks && decide (parseMethodDescriptor y.desc = some meth.sig)) = true) : (Jvm.Cond.code y bytes mx rt).before a s = true := by
  simp only [Bool.and_eq_true, beq_iff_eq, Bool.not_eq_true', decide_eq_true_eq] at h5
  obtain ⟨⟨⟨⟨⟨g1, g2⟩, g3⟩, g4⟩, g5⟩, g6⟩ := h5
  simp [Cond.before, Cond.holds, Cond.value, h1, h2, h3, h4, g1, g2, g3, g4, g5, g6]
def isCode : Jvm.Cond → Bool
  | .code _ _ _ _ => true
  | _ => false
theorem all_split {L : List Jvm.Cond} {P : Jvm.Cond → Bool} (h1 : L.all (fun c => isCode c || P c) = true) (h2 : ∀ c ∈ L.filter isCode, P c = true) : L.all P = true := by
  refine List.all_eq_true.mpr fun c hc => ?_
  have h := List.all_eq_true.mp h1 c hc
  rcases Bool.eq_false_or_eq_true (isCode c) with hi | hi
  · exact h2 c (List.mem_filter.mpr ⟨hc, hi⟩)
  · simpa [hi] using h
set_option maxRecDepth 65536 in
theorem w_c0 : (Jvm.Cond.code x code maxLocals ret).before args0 about1 = true := code_word (m := ⟨1, 1⟩) (meth := k1m1) (c := k1c1) (by decide +kernel) rfl rfl rfl (by decide +kernel)
set_option maxRecDepth 65536 in
theorem w_c1 : (Jvm.Cond.code ({ cls := "com/example/coxt/coxt/output/XmlSerializer", name := "whiteSpaceOrQuoteEscape", desc := "(C)Ljava/lang/String;" } : Jvm.MethodName) prog_30_method_34_code (2 : Nat) (Option.some (Jvm.ClassFile.FieldType.object "java/lang/String"))).before args0 about1 = true := code_word (m := ⟨3, 0⟩) (meth := k3m0) (c := k3c0) (by decide +kernel) rfl rfl rfl (by decide +kernel)
set_option maxRecDepth 65536 in
theorem w_c2 : (Jvm.Cond.code ({ cls := "com/example/coxt/coxt/output/XmlSerializerWhiteSpaceOrQuoteEscapePinLaw", name := "decode", desc := "(Ljava/lang/String;)I" } : Jvm.MethodName) method_4_code (5 : Nat) (Option.some Jvm.ClassFile.FieldType.int)).before args0 about1 = true := code_word (m := ⟨1, 3⟩) (meth := k1m3) (c := k1c3) (by decide +kernel) rfl rfl rfl (by decide +kernel)
set_option maxRecDepth 65536 in
theorem w_c3 : (Jvm.Cond.code ({ cls := "java/lang/String", name := "length", desc := "()I" } : Jvm.MethodName) jdk_42_method_54_code (1 : Nat) (Option.some Jvm.ClassFile.FieldType.int)).before args0 about1 = true := code_word (m := ⟨9, 1⟩) (meth := k9m1) (c := k9c1) (by decide +kernel) rfl rfl rfl (by decide +kernel)
set_option maxRecDepth 65536 in
theorem w_c4 : (Jvm.Cond.code ({ cls := "java/lang/String", name := "coder", desc := "()B" } : Jvm.MethodName) jdk_42_method_152_code (1 : Nat) (Option.some Jvm.ClassFile.FieldType.byte)).before args0 about1 = true := code_word (m := ⟨9, 3⟩) (meth := k9m3) (c := k9c3) (by decide +kernel) rfl rfl rfl (by decide +kernel)
set_option maxRecDepth 65536 in
theorem w_c5 : (Jvm.Cond.code ({ cls := "java/lang/String", name := "charAt", desc := "(I)C" } : Jvm.MethodName) jdk_42_method_56_code (2 : Nat) (Option.some Jvm.ClassFile.FieldType.char)).before args0 about1 = true := code_word (m := ⟨9, 2⟩) (meth := k9m2) (c := k9c2) (by decide +kernel) rfl rfl rfl (by decide +kernel)
set_option maxRecDepth 65536 in
theorem w_c6 : (Jvm.Cond.code ({ cls := "java/lang/String", name := "isLatin1", desc := "()Z" } : Jvm.MethodName) jdk_42_method_154_code (1 : Nat) (Option.some Jvm.ClassFile.FieldType.boolean)).before args0 about1 = true := code_word (m := ⟨9, 4⟩) (meth := k9m4) (c := k9c4) (by decide +kernel) rfl rfl rfl (by decide +kernel)
set_option maxRecDepth 65536 in
theorem w_c7 : (Jvm.Cond.code ({ cls := "java/lang/StringLatin1", name := "charAt", desc := "([BI)C" } : Jvm.MethodName) jdk_43_method_2_code (2 : Nat) (Option.some Jvm.ClassFile.FieldType.char)).before args0 about1 = true := code_word (m := ⟨10, 1⟩) (meth := k10m1) (c := k10c1) (by decide +kernel) rfl rfl rfl (by decide +kernel)
set_option maxRecDepth 65536 in
theorem w_c8 : (Jvm.Cond.code ({ cls := "java/lang/String", name := "checkIndex", desc := "(II)V" } : Jvm.MethodName) jdk_42_method_155_code (2 : Nat) (Option.none : Option Jvm.ClassFile.FieldType)).before args0 about1 = true := code_word (m := ⟨9, 5⟩) (meth := k9m5) (c := k9c5) (by decide +kernel) rfl rfl rfl (by decide +kernel)
set_option maxRecDepth 65536 in
theorem w_c9 : (Jvm.Cond.code ({ cls := "jdk/internal/util/Preconditions", name := "checkIndex", desc := "(IILjava/util/function/BiFunction;)I" } : Jvm.MethodName) jdk_41_method_11_code (3 : Nat) (Option.some Jvm.ClassFile.FieldType.int)).before args0 about1 = true := code_word (m := ⟨11, 1⟩) (meth := k11m1) (c := k11c1) (by decide +kernel) rfl rfl rfl (by decide +kernel)
set_option maxRecDepth 65536 in
theorem w_c10 : (Jvm.Cond.code ({ cls := "com/example/coxt/coxt/output/XmlSerializerWhiteSpaceOrQuoteEscapePinLaw", name := "digit", desc := "(C)I" } : Jvm.MethodName) method_3_code (1 : Nat) (Option.some Jvm.ClassFile.FieldType.int)).before args0 about1 = true := code_word (m := ⟨1, 2⟩) (meth := k1m2) (c := k1c2) (by decide +kernel) rfl rfl rfl (by decide +kernel)
def codes1 : List Jvm.Cond := [Jvm.Cond.code x code maxLocals ret, Jvm.Cond.code ({ cls := "com/example/coxt/coxt/output/XmlSerializer", name := "whiteSpaceOrQuoteEscape", desc := "(C)Ljava/lang/String;" } : Jvm.MethodName) prog_30_method_34_code (2 : Nat) (Option.some (Jvm.ClassFile.FieldType.object "java/lang/String")), Jvm.Cond.code ({ cls := "com/example/coxt/coxt/output/XmlSerializerWhiteSpaceOrQuoteEscapePinLaw", name := "decode", desc := "(Ljava/lang/String;)I" } : Jvm.MethodName) method_4_code (5 : Nat) (Option.some Jvm.ClassFile.FieldType.int), Jvm.Cond.code ({ cls := "java/lang/String", name := "length", desc := "()I" } : Jvm.MethodName) jdk_42_method_54_code (1 : Nat) (Option.some Jvm.ClassFile.FieldType.int), Jvm.Cond.code ({ cls := "java/lang/String", name := "coder", desc := "()B" } : Jvm.MethodName) jdk_42_method_152_code (1 : Nat) (Option.some Jvm.ClassFile.FieldType.byte), Jvm.Cond.code ({ cls := "java/lang/String", name := "charAt", desc := "(I)C" } : Jvm.MethodName) jdk_42_method_56_code (2 : Nat) (Option.some Jvm.ClassFile.FieldType.char), Jvm.Cond.code ({ cls := "java/lang/String", name := "isLatin1", desc := "()Z" } : Jvm.MethodName) jdk_42_method_154_code (1 : Nat) (Option.some Jvm.ClassFile.FieldType.boolean), Jvm.Cond.code ({ cls := "java/lang/StringLatin1", name := "charAt", desc := "([BI)C" } : Jvm.MethodName) jdk_43_method_2_code (2 : Nat) (Option.some Jvm.ClassFile.FieldType.char), Jvm.Cond.code ({ cls := "java/lang/String", name := "checkIndex", desc := "(II)V" } : Jvm.MethodName) jdk_42_method_155_code (2 : Nat) (Option.none : Option Jvm.ClassFile.FieldType), Jvm.Cond.code ({ cls := "jdk/internal/util/Preconditions", name := "checkIndex", desc := "(IILjava/util/function/BiFunction;)I" } : Jvm.MethodName) jdk_41_method_11_code (3 : Nat) (Option.some Jvm.ClassFile.FieldType.int), Jvm.Cond.code ({ cls := "com/example/coxt/coxt/output/XmlSerializerWhiteSpaceOrQuoteEscapePinLaw", name := "digit", desc := "(C)I" } : Jvm.MethodName) method_3_code (1 : Nat) (Option.some Jvm.ClassFile.FieldType.int)]
set_option maxRecDepth 65536 in
theorem codes_eq : words1.filter isCode = codes1 := rfl
theorem w_codes : ∀ c ∈ words1.filter isCode, c.before args0 about1 = true := by
  rw [codes_eq]
  intro c hc
  simp only [codes1, List.mem_cons, List.not_mem_nil, or_false] at hc
  rcases hc with rfl | rfl | rfl | rfl | rfl | rfl | rfl | rfl | rfl | rfl | rfl
  · exact w_c0
  · exact w_c1
  · exact w_c2
  · exact w_c3
  · exact w_c4
  · exact w_c5
  · exact w_c6
  · exact w_c7
  · exact w_c8
  · exact w_c9
  · exact w_c10
set_option maxRecDepth 65536 in
theorem w_t1 : (words1.take 24).all (fun c => isCode c || c.before args0 about1) = true := by decide +kernel
set_option maxRecDepth 65536 in
theorem w_t2 : ((words1.drop 24).take 24).all (fun c => isCode c || c.before args0 about1) = true := by decide +kernel
set_option maxRecDepth 65536 in
theorem w_t3 : ((words1.drop 24).drop 24).all (fun c => isCode c || c.before args0 about1) = true := by decide +kernel
theorem w_tables : (allAtoms (Jvm.Cond.code x code maxLocals ret :: tables_1)).before args0 about1 = true := by
  rw [allAtoms_all]
  show words1.all (fun c => c.before args0 about1) = true
  refine all_split ?_ w_codes
  rw [← List.take_append_drop 24 words1, List.all_append, w_t1, ← List.take_append_drop 24 (words1.drop 24), List.all_append, w_t2, w_t3]
  rfl
set_option maxRecDepth 65536 in
theorem w_rest : rest_1_c.before args0 about1 = true := by decide +kernel
set_option maxRecDepth 65536 in
theorem w_case : (Jvm.Cond.and given_1 narrow_1).before args0 about1 = true := by decide +kernel
set_option maxRecDepth 65536 in
theorem w_consts : constsHeld consts_1 about1 := Jvm.Lit.constsHeldB_iff.mp (by decide +kernel)
theorem w_applies : (headSpec (Jvm.Cond.code x code maxLocals ret :: tables_1) room_1).applies x e0.platform about1 = true :=
  (Spec.applies_iff w_frames).mpr ⟨w_running, w_runnable, w_alone, w_named, w_hears, w_ripe, w_room, w_tables⟩
theorem atStart : AtStart classFile x code maxLocals ret World_1 tables_1 room_1 Calls_1 rest_1 Pre_1 launch0 p0 e0 about1 theMethod args0 below0 :=
  ⟨lists_1, trivial, launch0.admits_env _ _ _, launch0.least_env, fairChoices_fair.cas, fairChoices_fair.clock, w_frames, w_args, w_heap, w_applies, ⟨w_consts, trivial⟩, w_rest, w_case⟩
end start1
theorem witness_1 : WitnessClaimed_1 := ⟨start1.p0, start1.e0, start1.about1, start1.theMethod, start1.args0, start1.below0, start1.atStart⟩
end Jvm.Pilot.@@N@@
