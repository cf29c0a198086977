import JvmDerived
import JvmDerived.Pilot.@@N@@Statement
import JvmDerived.Pilot.@@N@@Code
set_option linter.unusedVariables false
set_option linter.unusedSimpArgs false
namespace Jvm.RoadKit
open Sem ClassFile Op Lib Jvm.Stand Jvm.Free Jvm.LawKit
section New
variable {p : Program} {l : Launch} {e : Env} {R : Room} {s : State} {m : MethodId} {args : Array Value} {below : List Frame} {meth : Method} {c : Code} {T : State} {locs : List Loc} {cells slots : Nat}
theorem retI (X : Stand p l e R s m args below meth c T locs cells slots) (hx : p.tables.exec = Jvm.exec) {pc : Nat} {Ls : Array Slot} {z : Int32} {rest : List Value} (hret : meth.sig.returnType = some .int) (hd : decode c.code pc = .ok (.ireturn, 1)) {fs : List Frame}
    (hl : ∀ (f : JFrame) (acts : List Action), f.method = m → f.locked = none → f.entered = [] → (doReturn e (T.setTop f) acts (some (.int z))).1 = T.setFrames fs) : Steps p.tables e below (T.setTop (mkF m pc Ls (.int z :: rest))) (T.setFrames fs) := by
  have hm' : T.vm.method? m = some meth := X.method'
  have hn : narrow .int (.int z) = .int z := rfl
  show Steps p.tables e below (T.setTop { method := m, pc := pc, locals := Ls, stack := _ :: rest, locked := none }) _
  jvm_step X.here [X.here.top, hx, hd, hm', hret, hn]
  first | (intro acts; rw [hl _ acts rfl rfl rfl]) | rw [hl _ _ rfl rfl rfl]
  exact Steps.refl _
end New
end Jvm.RoadKit
namespace Jvm.Pilot.@@N@@
open Jvm Jvm.ClassFile Sem Op Lib Jvm.Free Jvm.Stand Jvm.LawKit Jvm.RoadKit Bundle Jvm.Pilot.@@N@@.Jvm.D
/-- a piece of the walk ahead of what is still to be reached -/
theorem own_go {tb : Tables} {e : Env} {below : List Frame} {A B : State} {P : State → Outcome → Prop} (st : ∀ t, Steps tb e below A t → Steps tb e below B t) (h : ∃ s₂ o, Steps tb e below A s₂ ∧ P s₂ o) : ∃ s₂ o, Steps tb e below B s₂ ∧ P s₂ o := by
  obtain ⟨s₂, o, h1, h2⟩ := h
  exact ⟨s₂, o, st _ h1, h2⟩
/-- an int[] of n places that holds f k at place k -/
def own_A (Z : State) (h : Heap) (a : Addr) (n : Nat) (f : Nat → Int32) : Prop := ∃ cl : Cell, Arr Z h a cl .int ∧ cl.slots.size = n ∧ ∀ k, k < n → cl.slots[k]? = some (.int (f k))
def own_upd (f : Nat → Int32) (j : Nat) (x : Int32) (k : Nat) : Int32 := if k = j then x else f k
theorem own_A.ext {Z : State} {h h' : Heap} {a : Addr} {n : Nat} {f : Nat → Int32} (A : own_A Z h a n f) (E : Ext h h') : own_A Z h' a n f := by
  obtain ⟨cl, A, r⟩ := A; exact ⟨cl, A.ext E, r⟩
theorem own_A.lt {Z : State} {h : Heap} {a : Addr} {n : Nat} {f : Nat → Int32} (A : own_A Z h a n f) : a < h.size := by
  obtain ⟨cl, A, r⟩ := A; exact A.lt
theorem own_A.fresh {Z : State} {h : Heap} {a : Addr} {k : ClassId} {z : Int32} {n : Nat} (A : Arr Z h a (newA k .int z) .int) (hz : z.toNatClampNeg = n) : own_A Z h a n (fun _ => 0) := by
  refine ⟨_, A, by rw [sz_new, hz], fun i hi => ?_⟩
  show (Array.replicate z.toNatClampNeg (defaultValue .int))[i]? = _
  rw [hz, Array.getElem?_replicate, if_pos hi]; rfl
theorem own_A.wr {Z : State} {h h' : Heap} {a : Addr} {n : Nat} {f : Nat → Int32} {j : Nat} {x : Int32} (A : own_A Z h a n f) (W : Wr h h' a j (.int x)) (hj : j < n) : own_A Z h' a n (own_upd f j x) := by
  obtain ⟨cl, A, S, H⟩ := A
  refine ⟨_, A.same W, by rw [sz_set]; exact S, fun k hk => ?_⟩
  show (cl.slots.setIfInBounds j (.int x))[k]? = _
  rw [Array.getElem?_setIfInBounds]
  unfold own_upd
  by_cases q : k = j
  · rw [if_pos q.symm, if_pos q, if_pos (by omega)]
  · rw [if_neg (Ne.symm q), if_neg q]; exact H k hk
theorem own_A.other {Z : State} {h h' : Heap} {a b : Addr} {n : Nat} {f : Nat → Int32} {j : Nat} {v : Value} (A : own_A Z h b n f) (W : Wr h h' a j v) (hne : b ≠ a) : own_A Z h' b n f := by
  obtain ⟨cl, A, r⟩ := A; exact ⟨cl, A.other W hne, r⟩
section Arrays
variable {p : Program} {l : Launch} {e : Env} {R : Room} {s : State} {m : MethodId} {args : Array Value} {below : List Frame} {meth : Method} {c : Code} {T : State} {locs : List Loc} {cells slots : Nat} {Z : State} {a0 : Array Value} {h : Heap} {P : State → Outcome → Prop}
theorem own_new (X : Stand p l e R s m args below meth c T locs cells slots) (hx : p.tables.exec = Jvm.exec) (hZ : Z.Warmed39 s.vm) (w : (Jvm.Cond.arrayClass (newarray.typeOf .int)).before a0 Z = true) (eT : T.heap = h) {g : JFrame} (hg : g.method = m) (hd : decode c.code g.pc = .ok (.newarray .int, 2)) {z : Int32} {rest : List Value} (hs : g.stack = .int z :: rest)
    (n : Nat) (hz : z.toNatClampNeg = n) (hz0 : ¬ z < 0) (hb : n * 8 ≤ 536870912) (hc : cells + 1 ≤ R.cells) (hl : slots + n ≤ R.slots)
    (K : ∀ T' h' a, Stand p l e R s m args below meth c T' locs (cells + 1) (slots + n) → T'.heap = h' → Ext h h' → h.size ≤ a → own_A Z h' a n (fun _ => 0) → ∃ s₂ o, Steps p.tables e below (T'.setTop { g with pc := g.pc + 2, stack := .ref a :: rest }) s₂ ∧ P s₂ o) :
    ∃ s₂ o, Steps p.tables e below (T.setTop g) s₂ ∧ P s₂ o := by
  obtain ⟨T', h', cA, X', e', E, A, st⟩ := newP X hx hZ w eT hg hd hs hz0 (cap := n) (Nat.le_of_eq hz) hb hc hl
  exact own_go st (K T' h' _ X' e' E (Nat.le_refl _) (own_A.fresh A hz))
theorem own_put (X : Stand p l e R s m args below meth c T locs cells slots) (hx : p.tables.exec = Jvm.exec) (hZ : Z.Warmed39 s.vm) (eT : T.heap = h) {a : Addr} {n : Nat} {f : Nat → Int32} (A : own_A Z h a n f) {j x : Int32} (jn : Nat) (hj : j.toNatClampNeg = jn) (hj0 : ¬ j < 0) (hl : jn < n) {n0 : Nat} (N : Fr n0 locs) (ga : n0 ≤ a)
    {g : JFrame} (hg : g.method = m) {rest : List Value} (hs : g.stack = .int x :: .int j :: .ref a :: rest) (hd : decode c.code g.pc = .ok (.iastore, 1))
    (K : ∀ T' h' locs', Stand p l e R s m args below meth c T' locs' cells slots → T'.heap = h' → own_A Z h' a n (own_upd f jn x) → (∀ b k q, b ≠ a → own_A Z h b k q → own_A Z h' b k q) → h.size ≤ h'.size → Fr n0 locs' → ∃ s₂ o, Steps p.tables e below (T'.setTop { g with pc := g.pc + 1, stack := rest }) s₂ ∧ P s₂ o) :
    ∃ s₂ o, Steps p.tables e below (T.setTop g) s₂ ∧ P s₂ o := by
  obtain ⟨cl, Ar, S, H⟩ := A
  obtain ⟨T', h', X', e', W, st⟩ := stI X hx hZ eT Ar (j := j) (x := x) (by rw [S, hj]; exact fun q => q.elim hj0 (fun q => by omega)) hg hs hd
  have A' : own_A Z h a n f := ⟨cl, Ar, S, H⟩
  refine own_go st (K T' h' _ X' e' ?_ (fun b k q hb B => B.other W hb) (Nat.le_of_eq W.size.symm) (Fr.snoc X' N ga))
  rw [hj] at W
  exact A'.wr W hl
theorem own_get (X : Stand p l e R s m args below meth c T locs cells slots) (hx : p.tables.exec = Jvm.exec) (hZ : Z.Warmed39 s.vm) (eT : T.heap = h) {a : Addr} {n : Nat} {f : Nat → Int32} (A : own_A Z h a n f) {j : Int32} (jn : Nat) (hj : j.toNatClampNeg = jn) (hj0 : ¬ j < 0) (hl : jn < n)
    {g : JFrame} (hg : g.method = m) {rest : List Value} (hs : g.stack = .int j :: .ref a :: rest) (hd : decode c.code g.pc = .ok (.iaload, 1)) :
    ∀ target, Steps p.tables e below (T.setTop { g with pc := g.pc + 1, stack := .int (f jn) :: rest }) target → Steps p.tables e below (T.setTop g) target := by
  obtain ⟨cl, Ar, S, H⟩ := A
  exact X.iaload hx (j := j) (v := (.int (f jn))) (by rw [eT]; exact Ar.1) (State.isArrayOf_alike hZ.alike Ar.2.1) Ar.2.2 (by rw [S, hj]; exact fun q => q.elim hj0 (fun q => by omega)) (by rw [hj]; exact H jn hl) hg hs hd
end Arrays
/-- the array with its places i and j put in order -/
def own_ord (f : Nat → Int32) (i j : Nat) : Nat → Int32 := if f j < f i then own_upd (own_upd f i (f j)) j (f i) else f
theorem d1_0 : decode method_2_code 0 = .ok (.aload_n 0, 1) := by decide +kernel
theorem d1_1 : decode method_2_code 1 = .ok (.iload_n 1, 1) := by decide +kernel
theorem d1_2 : decode method_2_code 2 = .ok (.iaload, 1) := by decide +kernel
theorem d1_3 : decode method_2_code 3 = .ok (.aload_n 0, 1) := by decide +kernel
theorem d1_4 : decode method_2_code 4 = .ok (.iload_n 2, 1) := by decide +kernel
theorem d1_5 : decode method_2_code 5 = .ok (.iaload, 1) := by decide +kernel
theorem d1_6 : decode method_2_code 6 = .ok (.if_icmp .le 17, 3) := by decide +kernel
theorem d1_9 : decode method_2_code 9 = .ok (.aload_n 0, 1) := by decide +kernel
theorem d1_10 : decode method_2_code 10 = .ok (.iload_n 1, 1) := by decide +kernel
theorem d1_11 : decode method_2_code 11 = .ok (.iaload, 1) := by decide +kernel
theorem d1_12 : decode method_2_code 12 = .ok (.istore_n 3, 1) := by decide +kernel
theorem d1_13 : decode method_2_code 13 = .ok (.aload_n 0, 1) := by decide +kernel
theorem d1_14 : decode method_2_code 14 = .ok (.iload_n 1, 1) := by decide +kernel
theorem d1_15 : decode method_2_code 15 = .ok (.aload_n 0, 1) := by decide +kernel
theorem d1_16 : decode method_2_code 16 = .ok (.iload_n 2, 1) := by decide +kernel
theorem d1_17 : decode method_2_code 17 = .ok (.iaload, 1) := by decide +kernel
theorem d1_18 : decode method_2_code 18 = .ok (.iastore, 1) := by decide +kernel
theorem d1_19 : decode method_2_code 19 = .ok (.aload_n 0, 1) := by decide +kernel
theorem d1_20 : decode method_2_code 20 = .ok (.iload_n 2, 1) := by decide +kernel
theorem d1_21 : decode method_2_code 21 = .ok (.iload_n 3, 1) := by decide +kernel
theorem d1_22 : decode method_2_code 22 = .ok (.iastore, 1) := by decide +kernel
theorem d1_23 : decode method_2_code 23 = .ok (.return_, 1) := by decide +kernel
theorem pn_1 : plainName "com/example/collation/collation/value/TreeFirstAtOrAfterPinLaw" = true := by first | (simp [plainName, overriddenIn]; done) | decide +kernel
theorem ef_1 (m : MethodId) (a1 : Addr) (p2 : Int32) (p3 : Int32) : entryFrame m #[(.ref a1), (.int p2), (.int p3)] 4 = mkF m 0 #[.val (.ref a1), .val (.int p2), .val (.int p3), .unset] [] := by first | (simp [entryFrame, mkF, argsToLocals, Value.category]; done) | rfl
def Q1 (Z : State) (a1 : Addr) (f : Nat → Int32) (i j : Nat) (h0 : Heap) (n0 : Nat) (v : Option Value) (h : Heap) (L : List Loc) : Prop := v = none ∧ Fr n0 L ∧ own_A Z h a1 4 (own_ord f i j) ∧ h0.size ≤ h.size
set_option maxRecDepth 65536 in
set_option maxHeartbeats 40000000 in
theorem rm1 (l : Launch) (Z : State) (a0 : Array Value) (hw : ∀ d ∈ tables_1, d.before a0 Z = true) (ws : List Jvm.Cond) (a1 : Addr) (p2 : Int32) (p3 : Int32) (f : Nat → Int32) (i j : Nat) (h0 : Heap) (n0 : Nat) (Z0 : n0 ≤ h0.size) (A0 : own_A Z h0 a1 4 f) (ga : n0 ≤ a1) (hi : p2.toNatClampNeg = i) (hi0 : ¬ p2 < 0) (hi4 : i < 4) (hj : p3.toNatClampNeg = j) (hj0 : ¬ p3 < 0) (hj4 : j < 4) :
    MetFree l (⟨"com/example/collation/collation/value/TreeFirstAtOrAfterPinLaw", "order", "([III)V"⟩ : MethodName) (head1 (Jvm.Cond.code (⟨"com/example/collation/collation/value/TreeFirstAtOrAfterPinLaw", "order", "([III)V"⟩ : MethodName) method_2_code 4 none :: ws) ({ frames := 0, cells := 0, slots := 0, locals := 0 } : Room)) (fun a U => a = #[(.ref a1), (.int p2), (.int p3)] ∧ Z.Warmed39 U.vm ∧ U.heap = h0) (fun _ _ _ _ _ => True) (fun _ U o U' => ∃ v L, o = .returned v ∧ Q1 Z a1 f i j h0 n0 v U'.heap L ∧ FrameEnd U o U' L ({ frames := 0, cells := 0, slots := 0, locals := 0 } : Room).cells ({ frames := 0, cells := 0, slots := 0, locals := 0 } : Room).slots) := by
  refine MetFree.of_bodySF (plainFor_of_name pn_1) hisR ?_
  intro p e s m args below meth c s₁ Bd hml0 hP hK
  obtain ⟨rfl, hZ, hh⟩ := hP
  have hx := Bd.exec
  have hby := Bd.bytes
  have hml : c.maxLocals = 4 := hml0
  have hown : s.vm.findClass "com/example/collation/collation/value/TreeFirstAtOrAfterPinLaw" = some m.cls := findClass_of_methodNamed Bd.named
  have hnm := (name_of_methodNamed Bd.named Bd.method).1
  have X0 : Stand p l e ({ frames := 0, cells := 0, slots := 0, locals := 0 } : Room) s m #[(.ref a1), (.int p2), (.int p3)] below meth c s₁ [] 0 0 := Stand.of_body Bd
  have e0 : s₁.heap = h0 := by rw [← hh, Bd.state]; rfl
  have N0 := Fr.nil n0
  have pre0 : ∀ t, Steps p.tables e below (s₁.setTop (mkF m 0 #[.val (.ref a1), .val (.int p2), .val (.int p3), .unset] [])) t → Steps p.tables e below (s₁.setTop (entryFrame m #[(.ref a1), (.int p2), (.int p3)] 4)) t := fun t kt => castTop (ef_1 m a1 p2 p3) kt
  refine own_go (A := s₁.setTop (mkF m 0 #[.val (.ref a1), .val (.int p2), .val (.int p3), .unset] [])) pre0 ?_
  refine own_go (A := s₁.setTop (mkF m 1 #[.val (.ref a1), .val (.int p2), .val (.int p3), .unset] [(.ref a1)])) (fun t kt => XS.aloadN X0.here hx rfl (hb hby d1_0) rfl rfl kt) ?_
  refine own_go (A := s₁.setTop (mkF m 2 #[.val (.ref a1), .val (.int p2), .val (.int p3), .unset] [(.int p2), (.ref a1)])) (fun t kt => XS.iloadN X0.here hx rfl (hb hby d1_1) rfl kt) ?_
  refine own_go (A := s₁.setTop (mkF m 3 #[.val (.ref a1), .val (.int p2), .val (.int p3), .unset] [(.int (f i))])) (own_get X0 hx hZ e0 A0 i hi hi0 hi4 (g := (mkF m 2 #[.val (.ref a1), .val (.int p2), .val (.int p3), .unset] [(.int p2), (.ref a1)])) rfl rfl (hb hby d1_2)) ?_
  refine own_go (A := s₁.setTop (mkF m 4 #[.val (.ref a1), .val (.int p2), .val (.int p3), .unset] [(.ref a1), (.int (f i))])) (fun t kt => XS.aloadN X0.here hx rfl (hb hby d1_3) rfl rfl kt) ?_
  refine own_go (A := s₁.setTop (mkF m 5 #[.val (.ref a1), .val (.int p2), .val (.int p3), .unset] [(.int p3), (.ref a1), (.int (f i))])) (fun t kt => XS.iloadN X0.here hx rfl (hb hby d1_4) rfl kt) ?_
  refine own_go (A := s₁.setTop (mkF m 6 #[.val (.ref a1), .val (.int p2), .val (.int p3), .unset] [(.int (f j)), (.int (f i))])) (own_get X0 hx hZ e0 A0 j hj hj0 hj4 (g := (mkF m 5 #[.val (.ref a1), .val (.int p2), .val (.int p3), .unset] [(.int p3), (.ref a1), (.int (f i))])) rfl rfl (hb hby d1_5)) ?_
  by_cases hc6 : (f j) < (f i)
  · refine own_go (A := s₁.setTop (mkF m 9 #[.val (.ref a1), .val (.int p2), .val (.int p3), .unset] [])) (fun t kt => XS.icmpNo X0.here hx rfl (hb hby d1_6) rfl (tlt hc6).2.2.2 kt) ?_
    refine own_go (A := s₁.setTop (mkF m 10 #[.val (.ref a1), .val (.int p2), .val (.int p3), .unset] [(.ref a1)])) (fun t kt => XS.aloadN X0.here hx rfl (hb hby d1_9) rfl rfl kt) ?_
    refine own_go (A := s₁.setTop (mkF m 11 #[.val (.ref a1), .val (.int p2), .val (.int p3), .unset] [(.int p2), (.ref a1)])) (fun t kt => XS.iloadN X0.here hx rfl (hb hby d1_10) rfl kt) ?_
    refine own_go (A := s₁.setTop (mkF m 12 #[.val (.ref a1), .val (.int p2), .val (.int p3), .unset] [(.int (f i))])) (own_get X0 hx hZ e0 A0 i hi hi0 hi4 (g := (mkF m 11 #[.val (.ref a1), .val (.int p2), .val (.int p3), .unset] [(.int p2), (.ref a1)])) rfl rfl (hb hby d1_11)) ?_
    refine own_go (A := s₁.setTop (mkF m 13 #[.val (.ref a1), .val (.int p2), .val (.int p3), .val (.int (f i))] [])) (fun t kt => XS.istoreN X0.here hx rfl (hb hby d1_12) rfl (l' := #[.val (.ref a1), .val (.int p2), .val (.int p3), .val (.int (f i))]) rfl kt) ?_
    refine own_go (A := s₁.setTop (mkF m 14 #[.val (.ref a1), .val (.int p2), .val (.int p3), .val (.int (f i))] [(.ref a1)])) (fun t kt => XS.aloadN X0.here hx rfl (hb hby d1_13) rfl rfl kt) ?_
    refine own_go (A := s₁.setTop (mkF m 15 #[.val (.ref a1), .val (.int p2), .val (.int p3), .val (.int (f i))] [(.int p2), (.ref a1)])) (fun t kt => XS.iloadN X0.here hx rfl (hb hby d1_14) rfl kt) ?_
    refine own_go (A := s₁.setTop (mkF m 16 #[.val (.ref a1), .val (.int p2), .val (.int p3), .val (.int (f i))] [(.ref a1), (.int p2), (.ref a1)])) (fun t kt => XS.aloadN X0.here hx rfl (hb hby d1_15) rfl rfl kt) ?_
    refine own_go (A := s₁.setTop (mkF m 17 #[.val (.ref a1), .val (.int p2), .val (.int p3), .val (.int (f i))] [(.int p3), (.ref a1), (.int p2), (.ref a1)])) (fun t kt => XS.iloadN X0.here hx rfl (hb hby d1_16) rfl kt) ?_
    refine own_go (A := s₁.setTop (mkF m 18 #[.val (.ref a1), .val (.int p2), .val (.int p3), .val (.int (f i))] [(.int (f j)), (.int p2), (.ref a1)])) (own_get X0 hx hZ e0 A0 j hj hj0 hj4 (g := (mkF m 17 #[.val (.ref a1), .val (.int p2), .val (.int p3), .val (.int (f i))] [(.int p3), (.ref a1), (.int p2), (.ref a1)])) rfl rfl (hb hby d1_17)) ?_
    refine own_put X0 hx hZ e0 A0 (j := p2) (x := (f j)) i hi hi0 hi4 N0 ga (g := (mkF m 18 #[.val (.ref a1), .val (.int p2), .val (.int p3), .val (.int (f i))] [(.int (f j)), (.int p2), (.ref a1)])) rfl rfl (hb hby d1_18) (fun T1 h1 l1 X1 e1 A1 O1 Sz1 N1 => ?_)
    have sz1 : h0.size ≤ h1.size := Nat.le_trans (Nat.le_refl _) Sz1
    show ∃ s₂ o, Steps p.tables e below (T1.setTop (mkF m 19 #[.val (.ref a1), .val (.int p2), .val (.int p3), .val (.int (f i))] [])) s₂ ∧ _
    refine own_go (A := T1.setTop (mkF m 20 #[.val (.ref a1), .val (.int p2), .val (.int p3), .val (.int (f i))] [(.ref a1)])) (fun t kt => XS.aloadN X1.here hx rfl (hb hby d1_19) rfl rfl kt) ?_
    refine own_go (A := T1.setTop (mkF m 21 #[.val (.ref a1), .val (.int p2), .val (.int p3), .val (.int (f i))] [(.int p3), (.ref a1)])) (fun t kt => XS.iloadN X1.here hx rfl (hb hby d1_20) rfl kt) ?_
    refine own_go (A := T1.setTop (mkF m 22 #[.val (.ref a1), .val (.int p2), .val (.int p3), .val (.int (f i))] [(.int (f i)), (.int p3), (.ref a1)])) (fun t kt => XS.iloadN X1.here hx rfl (hb hby d1_21) rfl kt) ?_
    refine own_put X1 hx hZ e1 A1 (j := p3) (x := (f i)) j hj hj0 hj4 N1 ga (g := (mkF m 22 #[.val (.ref a1), .val (.int p2), .val (.int p3), .val (.int (f i))] [(.int (f i)), (.int p3), (.ref a1)])) rfl rfl (hb hby d1_22) (fun T2 h2 l2 X2 e2 A2 O2 Sz2 N2 => ?_)
    have sz2 : h0.size ≤ h2.size := Nat.le_trans sz1 Sz2
    show ∃ s₂ o, Steps p.tables e below (T2.setTop (mkF m 23 #[.val (.ref a1), .val (.int p2), .val (.int p3), .val (.int (f i))] [])) s₂ ∧ _
    obtain ⟨fs, hr, hrun, hended, hW, hsame⟩ := X2.leave (v := none) (fun _ => rfl)
    exact ⟨_, _, X2.returnOut hx Bd.returns (hb hby d1_23) hr, hrun, hended, _, _, rfl, ⟨rfl, N2, by show own_A Z T2.heap a1 4 _; rw [e2]; unfold own_ord; rw [if_pos hc6]; exact A2, by show _ ≤ T2.heap.size; rw [e2]; exact sz2⟩, ⟨_, rfl⟩, hW, hsame.mono (by decide) (by decide)⟩
  · refine own_go (A := s₁.setTop (mkF m 23 #[.val (.ref a1), .val (.int p2), .val (.int p3), .unset] [])) (fun t kt => XS.icmpYes X0.here hx rfl (pc0 := 6) (pc' := 23) rfl (hb hby d1_6) rfl (flt hc6).2.2.2 (by decide) (by decide) kt) ?_
    obtain ⟨fs, hr, hrun, hended, hW, hsame⟩ := X0.leave (v := none) (fun _ => rfl)
    exact ⟨_, _, X0.returnOut hx Bd.returns (hb hby d1_23) hr, hrun, hended, _, _, rfl, ⟨rfl, N0, by show own_A Z s₁.heap a1 4 _; rw [e0]; unfold own_ord; rw [if_neg hc6]; exact A0, by show _ ≤ s₁.heap.size; rw [e0]; exact (Nat.le_refl _)⟩, ⟨_, rfl⟩, hW, hsame.mono (by decide) (by decide)⟩
theorem d2_0 : decode prog_110_method_40_code 0 = .ok (.iconst 0, 1) := by decide +kernel
theorem d2_1 : decode prog_110_method_40_code 1 = .ok (.istore_n 3, 1) := by decide +kernel
theorem d2_2 : decode prog_110_method_40_code 2 = .ok (.iload_n 1, 1) := by decide +kernel
theorem d2_3 : decode prog_110_method_40_code 3 = .ok (.istore 4, 2) := by decide +kernel
theorem d2_5 : decode prog_110_method_40_code 5 = .ok (.iload_n 3, 1) := by decide +kernel
theorem d2_6 : decode prog_110_method_40_code 6 = .ok (.iload 4, 2) := by decide +kernel
theorem d2_8 : decode prog_110_method_40_code 8 = .ok (.if_icmp .ge 34, 3) := by decide +kernel
theorem d2_11 : decode prog_110_method_40_code 11 = .ok (.iload_n 3, 1) := by decide +kernel
theorem d2_12 : decode prog_110_method_40_code 12 = .ok (.iload 4, 2) := by decide +kernel
theorem d2_14 : decode prog_110_method_40_code 14 = .ok (.iadd, 1) := by decide +kernel
theorem d2_15 : decode prog_110_method_40_code 15 = .ok (.iconst 1, 1) := by decide +kernel
theorem d2_16 : decode prog_110_method_40_code 16 = .ok (.iushr, 1) := by decide +kernel
theorem d2_17 : decode prog_110_method_40_code 17 = .ok (.istore 5, 2) := by decide +kernel
theorem d2_19 : decode prog_110_method_40_code 19 = .ok (.aload_n 0, 1) := by decide +kernel
theorem d2_20 : decode prog_110_method_40_code 20 = .ok (.iload 5, 2) := by decide +kernel
theorem d2_22 : decode prog_110_method_40_code 22 = .ok (.iaload, 1) := by decide +kernel
theorem d2_23 : decode prog_110_method_40_code 23 = .ok (.iload_n 2, 1) := by decide +kernel
theorem d2_24 : decode prog_110_method_40_code 24 = .ok (.if_icmp .ge 11, 3) := by decide +kernel
theorem d2_27 : decode prog_110_method_40_code 27 = .ok (.iload 5, 2) := by decide +kernel
theorem d2_29 : decode prog_110_method_40_code 29 = .ok (.iconst 1, 1) := by decide +kernel
theorem d2_30 : decode prog_110_method_40_code 30 = .ok (.iadd, 1) := by decide +kernel
theorem d2_31 : decode prog_110_method_40_code 31 = .ok (.istore_n 3, 1) := by decide +kernel
theorem d2_32 : decode prog_110_method_40_code 32 = .ok (.goto 7, 3) := by decide +kernel
theorem d2_35 : decode prog_110_method_40_code 35 = .ok (.iload 5, 2) := by decide +kernel
theorem d2_37 : decode prog_110_method_40_code 37 = .ok (.istore 4, 2) := by decide +kernel
theorem d2_39 : decode prog_110_method_40_code 39 = .ok (.goto (-34), 3) := by decide +kernel
theorem d2_42 : decode prog_110_method_40_code 42 = .ok (.iload_n 3, 1) := by decide +kernel
theorem d2_43 : decode prog_110_method_40_code 43 = .ok (.ireturn, 1) := by decide +kernel
theorem pn_2 : plainName "com/example/collation/collation/value/Tree" = true := by first | (simp [plainName, overriddenIn]; done) | decide +kernel
theorem ef_2 (m : MethodId) (a1 : Addr) (p2 : Int32) (p3 : Int32) : entryFrame m #[(.ref a1), (.int p2), (.int p3)] 6 = mkF m 0 #[.val (.ref a1), .val (.int p2), .val (.int p3), .unset, .unset, .unset] [] := by first | (simp [entryFrame, mkF, argsToLocals, Value.category]; done) | rfl
def G0 (f : Nat → Int32) (p3 : Int32) : Int32 := (0 : Int32)
set_option maxRecDepth 65536 in
set_option maxHeartbeats 40000000 in
theorem fa_0 {p : Program} {l : Launch} {e : Env} {R : Room} {s : State} {m : MethodId} {args : Array Value} {below : List Frame} {meth : Method} {c : Code} {T0 : State} {locs : List Loc} {cells slots : Nat} {Z : State} {h0 : Heap} (a1 : Addr) (p3 : Int32) (f : Nat → Int32)
    (X0 : Stand p l e R s m args below meth c T0 locs cells slots) (hx : p.tables.exec = Jvm.exec) (hZ : Z.Warmed39 s.vm) (e0 : T0.heap = h0) (A0 : own_A Z h0 a1 4 f) (hby : c.code = prog_110_method_40_code) (hret : meth.sig.returnType = some .int) {fs : List Frame}
    (hr : ∀ (f' : JFrame) (acts : List Action), f'.method = m → f'.locked = none → f'.entered = [] → (doReturn e (T0.setTop f') acts (some (.int (G0 f p3)))).1 = T0.setFrames fs) :
    Steps p.tables e below (T0.setTop (mkF m 0 #[.val (.ref a1), .val (.int (0 : Int32)), .val (.int p3), .unset, .unset, .unset] [])) (T0.setFrames fs) := by
  show Steps p.tables e below (T0.setTop (mkF m 0 #[.val (.ref a1), .val (.int (0 : Int32)), .val (.int p3), .unset, .unset, .unset] [])) _
  refine XS.iconst X0.here hx rfl (hb hby d2_0) ?_
  show Steps p.tables e below (T0.setTop (mkF m 1 #[.val (.ref a1), .val (.int (0 : Int32)), .val (.int p3), .unset, .unset, .unset] [(.int (0 : Int32))])) _
  refine XS.istoreN X0.here hx rfl (hb hby d2_1) rfl (l' := #[.val (.ref a1), .val (.int (0 : Int32)), .val (.int p3), .val (.int (0 : Int32)), .unset, .unset]) rfl ?_
  show Steps p.tables e below (T0.setTop (mkF m 2 #[.val (.ref a1), .val (.int (0 : Int32)), .val (.int p3), .val (.int (0 : Int32)), .unset, .unset] [])) _
  refine XS.iloadN X0.here hx rfl (hb hby d2_2) rfl ?_
  show Steps p.tables e below (T0.setTop (mkF m 3 #[.val (.ref a1), .val (.int (0 : Int32)), .val (.int p3), .val (.int (0 : Int32)), .unset, .unset] [(.int (0 : Int32))])) _
  refine XS.istore X0.here hx rfl (hb hby d2_3) rfl (l' := #[.val (.ref a1), .val (.int (0 : Int32)), .val (.int p3), .val (.int (0 : Int32)), .val (.int (0 : Int32)), .unset]) rfl ?_
  show Steps p.tables e below (T0.setTop (mkF m 5 #[.val (.ref a1), .val (.int (0 : Int32)), .val (.int p3), .val (.int (0 : Int32)), .val (.int (0 : Int32)), .unset] [])) _
  refine XS.iloadN X0.here hx rfl (hb hby d2_5) rfl ?_
  show Steps p.tables e below (T0.setTop (mkF m 6 #[.val (.ref a1), .val (.int (0 : Int32)), .val (.int p3), .val (.int (0 : Int32)), .val (.int (0 : Int32)), .unset] [(.int (0 : Int32))])) _
  refine XS.iload X0.here hx rfl (hb hby d2_6) rfl ?_
  show Steps p.tables e below (T0.setTop (mkF m 8 #[.val (.ref a1), .val (.int (0 : Int32)), .val (.int p3), .val (.int (0 : Int32)), .val (.int (0 : Int32)), .unset] [(.int (0 : Int32)), (.int (0 : Int32))])) _
  refine XS.icmpYes X0.here hx rfl (pc0 := 8) (pc' := 42) rfl (hb hby d2_8) rfl (flt (by decide : ¬ ((0 : Int32) < (0 : Int32)))).2.1 (by decide) (by decide) ?_
  show Steps p.tables e below (T0.setTop (mkF m 42 #[.val (.ref a1), .val (.int (0 : Int32)), .val (.int p3), .val (.int (0 : Int32)), .val (.int (0 : Int32)), .unset] [])) _
  refine XS.iloadN X0.here hx rfl (hb hby d2_42) rfl ?_
  show Steps p.tables e below (T0.setTop (mkF m 43 #[.val (.ref a1), .val (.int (0 : Int32)), .val (.int p3), .val (.int (0 : Int32)), .val (.int (0 : Int32)), .unset] [(.int (0 : Int32))])) _
  rw [show G0 f p3 = (0 : Int32) from by rfl] at hr
  exact retI X0 hx hret (hb hby d2_43) hr
def G1 (f : Nat → Int32) (p3 : Int32) : Int32 := (if (f 0) < p3 then (1 : Int32) else (0 : Int32))
set_option maxRecDepth 65536 in
set_option maxHeartbeats 40000000 in
theorem fa_1 {p : Program} {l : Launch} {e : Env} {R : Room} {s : State} {m : MethodId} {args : Array Value} {below : List Frame} {meth : Method} {c : Code} {T0 : State} {locs : List Loc} {cells slots : Nat} {Z : State} {h0 : Heap} (a1 : Addr) (p3 : Int32) (f : Nat → Int32)
    (X0 : Stand p l e R s m args below meth c T0 locs cells slots) (hx : p.tables.exec = Jvm.exec) (hZ : Z.Warmed39 s.vm) (e0 : T0.heap = h0) (A0 : own_A Z h0 a1 4 f) (hby : c.code = prog_110_method_40_code) (hret : meth.sig.returnType = some .int) {fs : List Frame}
    (hr : ∀ (f' : JFrame) (acts : List Action), f'.method = m → f'.locked = none → f'.entered = [] → (doReturn e (T0.setTop f') acts (some (.int (G1 f p3)))).1 = T0.setFrames fs) :
    Steps p.tables e below (T0.setTop (mkF m 0 #[.val (.ref a1), .val (.int (1 : Int32)), .val (.int p3), .unset, .unset, .unset] [])) (T0.setFrames fs) := by
  show Steps p.tables e below (T0.setTop (mkF m 0 #[.val (.ref a1), .val (.int (1 : Int32)), .val (.int p3), .unset, .unset, .unset] [])) _
  refine XS.iconst X0.here hx rfl (hb hby d2_0) ?_
  show Steps p.tables e below (T0.setTop (mkF m 1 #[.val (.ref a1), .val (.int (1 : Int32)), .val (.int p3), .unset, .unset, .unset] [(.int (0 : Int32))])) _
  refine XS.istoreN X0.here hx rfl (hb hby d2_1) rfl (l' := #[.val (.ref a1), .val (.int (1 : Int32)), .val (.int p3), .val (.int (0 : Int32)), .unset, .unset]) rfl ?_
  show Steps p.tables e below (T0.setTop (mkF m 2 #[.val (.ref a1), .val (.int (1 : Int32)), .val (.int p3), .val (.int (0 : Int32)), .unset, .unset] [])) _
  refine XS.iloadN X0.here hx rfl (hb hby d2_2) rfl ?_
  show Steps p.tables e below (T0.setTop (mkF m 3 #[.val (.ref a1), .val (.int (1 : Int32)), .val (.int p3), .val (.int (0 : Int32)), .unset, .unset] [(.int (1 : Int32))])) _
  refine XS.istore X0.here hx rfl (hb hby d2_3) rfl (l' := #[.val (.ref a1), .val (.int (1 : Int32)), .val (.int p3), .val (.int (0 : Int32)), .val (.int (1 : Int32)), .unset]) rfl ?_
  show Steps p.tables e below (T0.setTop (mkF m 5 #[.val (.ref a1), .val (.int (1 : Int32)), .val (.int p3), .val (.int (0 : Int32)), .val (.int (1 : Int32)), .unset] [])) _
  refine XS.iloadN X0.here hx rfl (hb hby d2_5) rfl ?_
  show Steps p.tables e below (T0.setTop (mkF m 6 #[.val (.ref a1), .val (.int (1 : Int32)), .val (.int p3), .val (.int (0 : Int32)), .val (.int (1 : Int32)), .unset] [(.int (0 : Int32))])) _
  refine XS.iload X0.here hx rfl (hb hby d2_6) rfl ?_
  show Steps p.tables e below (T0.setTop (mkF m 8 #[.val (.ref a1), .val (.int (1 : Int32)), .val (.int p3), .val (.int (0 : Int32)), .val (.int (1 : Int32)), .unset] [(.int (1 : Int32)), (.int (0 : Int32))])) _
  refine XS.icmpNo X0.here hx rfl (hb hby d2_8) rfl (tlt (by decide : (0 : Int32) < (1 : Int32))).2.1 ?_
  show Steps p.tables e below (T0.setTop (mkF m 11 #[.val (.ref a1), .val (.int (1 : Int32)), .val (.int p3), .val (.int (0 : Int32)), .val (.int (1 : Int32)), .unset] [])) _
  refine XS.iloadN X0.here hx rfl (hb hby d2_11) rfl ?_
  show Steps p.tables e below (T0.setTop (mkF m 12 #[.val (.ref a1), .val (.int (1 : Int32)), .val (.int p3), .val (.int (0 : Int32)), .val (.int (1 : Int32)), .unset] [(.int (0 : Int32))])) _
  refine XS.iload X0.here hx rfl (hb hby d2_12) rfl ?_
  show Steps p.tables e below (T0.setTop (mkF m 14 #[.val (.ref a1), .val (.int (1 : Int32)), .val (.int p3), .val (.int (0 : Int32)), .val (.int (1 : Int32)), .unset] [(.int (1 : Int32)), (.int (0 : Int32))])) _
  refine XS.iadd X0.here hx rfl (hb hby d2_14) rfl ?_
  show Steps p.tables e below (T0.setTop (mkF m 15 #[.val (.ref a1), .val (.int (1 : Int32)), .val (.int p3), .val (.int (0 : Int32)), .val (.int (1 : Int32)), .unset] [(.int (1 : Int32))])) _
  refine XS.iconst X0.here hx rfl (hb hby d2_15) ?_
  show Steps p.tables e below (T0.setTop (mkF m 16 #[.val (.ref a1), .val (.int (1 : Int32)), .val (.int p3), .val (.int (0 : Int32)), .val (.int (1 : Int32)), .unset] [(.int (1 : Int32)), (.int (1 : Int32))])) _
  refine XS.iushr X0.here hx rfl (hb hby d2_16) rfl ?_
  show Steps p.tables e below (T0.setTop (mkF m 17 #[.val (.ref a1), .val (.int (1 : Int32)), .val (.int p3), .val (.int (0 : Int32)), .val (.int (1 : Int32)), .unset] [(.int (0 : Int32))])) _
  refine XS.istore X0.here hx rfl (hb hby d2_17) rfl (l' := #[.val (.ref a1), .val (.int (1 : Int32)), .val (.int p3), .val (.int (0 : Int32)), .val (.int (1 : Int32)), .val (.int (0 : Int32))]) rfl ?_
  show Steps p.tables e below (T0.setTop (mkF m 19 #[.val (.ref a1), .val (.int (1 : Int32)), .val (.int p3), .val (.int (0 : Int32)), .val (.int (1 : Int32)), .val (.int (0 : Int32))] [])) _
  refine XS.aloadN X0.here hx rfl (hb hby d2_19) rfl rfl ?_
  show Steps p.tables e below (T0.setTop (mkF m 20 #[.val (.ref a1), .val (.int (1 : Int32)), .val (.int p3), .val (.int (0 : Int32)), .val (.int (1 : Int32)), .val (.int (0 : Int32))] [(.ref a1)])) _
  refine XS.iload X0.here hx rfl (hb hby d2_20) rfl ?_
  show Steps p.tables e below (T0.setTop (mkF m 22 #[.val (.ref a1), .val (.int (1 : Int32)), .val (.int p3), .val (.int (0 : Int32)), .val (.int (1 : Int32)), .val (.int (0 : Int32))] [(.int (0 : Int32)), (.ref a1)])) _
  refine own_get X0 hx hZ e0 A0 0 (by decide) (by decide) (by decide) (g := (mkF m 22 #[.val (.ref a1), .val (.int (1 : Int32)), .val (.int p3), .val (.int (0 : Int32)), .val (.int (1 : Int32)), .val (.int (0 : Int32))] [(.int (0 : Int32)), (.ref a1)])) rfl rfl (hb hby d2_22) _ ?_
  show Steps p.tables e below (T0.setTop (mkF m 23 #[.val (.ref a1), .val (.int (1 : Int32)), .val (.int p3), .val (.int (0 : Int32)), .val (.int (1 : Int32)), .val (.int (0 : Int32))] [(.int (f 0))])) _
  refine XS.iloadN X0.here hx rfl (hb hby d2_23) rfl ?_
  show Steps p.tables e below (T0.setTop (mkF m 24 #[.val (.ref a1), .val (.int (1 : Int32)), .val (.int p3), .val (.int (0 : Int32)), .val (.int (1 : Int32)), .val (.int (0 : Int32))] [(.int p3), (.int (f 0))])) _
  by_cases hc1 : (f 0) < p3
  · refine XS.icmpNo X0.here hx rfl (hb hby d2_24) rfl (tlt hc1).2.1 ?_
    show Steps p.tables e below (T0.setTop (mkF m 27 #[.val (.ref a1), .val (.int (1 : Int32)), .val (.int p3), .val (.int (0 : Int32)), .val (.int (1 : Int32)), .val (.int (0 : Int32))] [])) _
    refine XS.iload X0.here hx rfl (hb hby d2_27) rfl ?_
    show Steps p.tables e below (T0.setTop (mkF m 29 #[.val (.ref a1), .val (.int (1 : Int32)), .val (.int p3), .val (.int (0 : Int32)), .val (.int (1 : Int32)), .val (.int (0 : Int32))] [(.int (0 : Int32))])) _
    refine XS.iconst X0.here hx rfl (hb hby d2_29) ?_
    show Steps p.tables e below (T0.setTop (mkF m 30 #[.val (.ref a1), .val (.int (1 : Int32)), .val (.int p3), .val (.int (0 : Int32)), .val (.int (1 : Int32)), .val (.int (0 : Int32))] [(.int (1 : Int32)), (.int (0 : Int32))])) _
    refine XS.iadd X0.here hx rfl (hb hby d2_30) rfl ?_
    show Steps p.tables e below (T0.setTop (mkF m 31 #[.val (.ref a1), .val (.int (1 : Int32)), .val (.int p3), .val (.int (0 : Int32)), .val (.int (1 : Int32)), .val (.int (0 : Int32))] [(.int (1 : Int32))])) _
    refine XS.istoreN X0.here hx rfl (hb hby d2_31) rfl (l' := #[.val (.ref a1), .val (.int (1 : Int32)), .val (.int p3), .val (.int (1 : Int32)), .val (.int (1 : Int32)), .val (.int (0 : Int32))]) rfl ?_
    show Steps p.tables e below (T0.setTop (mkF m 32 #[.val (.ref a1), .val (.int (1 : Int32)), .val (.int p3), .val (.int (1 : Int32)), .val (.int (1 : Int32)), .val (.int (0 : Int32))] [])) _
    refine XS.goto X0.here hx rfl (pc0 := 32) (pc' := 39) rfl (hb hby d2_32) (by decide) (by decide) ?_
    show Steps p.tables e below (T0.setTop (mkF m 39 #[.val (.ref a1), .val (.int (1 : Int32)), .val (.int p3), .val (.int (1 : Int32)), .val (.int (1 : Int32)), .val (.int (0 : Int32))] [])) _
    refine XS.goto X0.here hx rfl (pc0 := 39) (pc' := 5) rfl (hb hby d2_39) (by decide) (by decide) ?_
    show Steps p.tables e below (T0.setTop (mkF m 5 #[.val (.ref a1), .val (.int (1 : Int32)), .val (.int p3), .val (.int (1 : Int32)), .val (.int (1 : Int32)), .val (.int (0 : Int32))] [])) _
    refine XS.iloadN X0.here hx rfl (hb hby d2_5) rfl ?_
    show Steps p.tables e below (T0.setTop (mkF m 6 #[.val (.ref a1), .val (.int (1 : Int32)), .val (.int p3), .val (.int (1 : Int32)), .val (.int (1 : Int32)), .val (.int (0 : Int32))] [(.int (1 : Int32))])) _
    refine XS.iload X0.here hx rfl (hb hby d2_6) rfl ?_
    show Steps p.tables e below (T0.setTop (mkF m 8 #[.val (.ref a1), .val (.int (1 : Int32)), .val (.int p3), .val (.int (1 : Int32)), .val (.int (1 : Int32)), .val (.int (0 : Int32))] [(.int (1 : Int32)), (.int (1 : Int32))])) _
    refine XS.icmpYes X0.here hx rfl (pc0 := 8) (pc' := 42) rfl (hb hby d2_8) rfl (flt (by decide : ¬ ((1 : Int32) < (1 : Int32)))).2.1 (by decide) (by decide) ?_
    show Steps p.tables e below (T0.setTop (mkF m 42 #[.val (.ref a1), .val (.int (1 : Int32)), .val (.int p3), .val (.int (1 : Int32)), .val (.int (1 : Int32)), .val (.int (0 : Int32))] [])) _
    refine XS.iloadN X0.here hx rfl (hb hby d2_42) rfl ?_
    show Steps p.tables e below (T0.setTop (mkF m 43 #[.val (.ref a1), .val (.int (1 : Int32)), .val (.int p3), .val (.int (1 : Int32)), .val (.int (1 : Int32)), .val (.int (0 : Int32))] [(.int (1 : Int32))])) _
    rw [show G1 f p3 = (1 : Int32) from by unfold G1; rw [if_pos hc1]] at hr
    exact retI X0 hx hret (hb hby d2_43) hr
  · refine XS.icmpYes X0.here hx rfl (pc0 := 24) (pc' := 35) rfl (hb hby d2_24) rfl (flt hc1).2.1 (by decide) (by decide) ?_
    show Steps p.tables e below (T0.setTop (mkF m 35 #[.val (.ref a1), .val (.int (1 : Int32)), .val (.int p3), .val (.int (0 : Int32)), .val (.int (1 : Int32)), .val (.int (0 : Int32))] [])) _
    refine XS.iload X0.here hx rfl (hb hby d2_35) rfl ?_
    show Steps p.tables e below (T0.setTop (mkF m 37 #[.val (.ref a1), .val (.int (1 : Int32)), .val (.int p3), .val (.int (0 : Int32)), .val (.int (1 : Int32)), .val (.int (0 : Int32))] [(.int (0 : Int32))])) _
    refine XS.istore X0.here hx rfl (hb hby d2_37) rfl (l' := #[.val (.ref a1), .val (.int (1 : Int32)), .val (.int p3), .val (.int (0 : Int32)), .val (.int (0 : Int32)), .val (.int (0 : Int32))]) rfl ?_
    show Steps p.tables e below (T0.setTop (mkF m 39 #[.val (.ref a1), .val (.int (1 : Int32)), .val (.int p3), .val (.int (0 : Int32)), .val (.int (0 : Int32)), .val (.int (0 : Int32))] [])) _
    refine XS.goto X0.here hx rfl (pc0 := 39) (pc' := 5) rfl (hb hby d2_39) (by decide) (by decide) ?_
    show Steps p.tables e below (T0.setTop (mkF m 5 #[.val (.ref a1), .val (.int (1 : Int32)), .val (.int p3), .val (.int (0 : Int32)), .val (.int (0 : Int32)), .val (.int (0 : Int32))] [])) _
    refine XS.iloadN X0.here hx rfl (hb hby d2_5) rfl ?_
    show Steps p.tables e below (T0.setTop (mkF m 6 #[.val (.ref a1), .val (.int (1 : Int32)), .val (.int p3), .val (.int (0 : Int32)), .val (.int (0 : Int32)), .val (.int (0 : Int32))] [(.int (0 : Int32))])) _
    refine XS.iload X0.here hx rfl (hb hby d2_6) rfl ?_
    show Steps p.tables e below (T0.setTop (mkF m 8 #[.val (.ref a1), .val (.int (1 : Int32)), .val (.int p3), .val (.int (0 : Int32)), .val (.int (0 : Int32)), .val (.int (0 : Int32))] [(.int (0 : Int32)), (.int (0 : Int32))])) _
    refine XS.icmpYes X0.here hx rfl (pc0 := 8) (pc' := 42) rfl (hb hby d2_8) rfl (flt (by decide : ¬ ((0 : Int32) < (0 : Int32)))).2.1 (by decide) (by decide) ?_
    show Steps p.tables e below (T0.setTop (mkF m 42 #[.val (.ref a1), .val (.int (1 : Int32)), .val (.int p3), .val (.int (0 : Int32)), .val (.int (0 : Int32)), .val (.int (0 : Int32))] [])) _
    refine XS.iloadN X0.here hx rfl (hb hby d2_42) rfl ?_
    show Steps p.tables e below (T0.setTop (mkF m 43 #[.val (.ref a1), .val (.int (1 : Int32)), .val (.int p3), .val (.int (0 : Int32)), .val (.int (0 : Int32)), .val (.int (0 : Int32))] [(.int (0 : Int32))])) _
    rw [show G1 f p3 = (0 : Int32) from by unfold G1; rw [if_neg hc1]] at hr
    exact retI X0 hx hret (hb hby d2_43) hr
def G2 (f : Nat → Int32) (p3 : Int32) : Int32 := (if (f 1) < p3 then (2 : Int32) else (if (f 0) < p3 then (1 : Int32) else (0 : Int32)))
set_option maxRecDepth 65536 in
set_option maxHeartbeats 40000000 in
theorem fa_2 {p : Program} {l : Launch} {e : Env} {R : Room} {s : State} {m : MethodId} {args : Array Value} {below : List Frame} {meth : Method} {c : Code} {T0 : State} {locs : List Loc} {cells slots : Nat} {Z : State} {h0 : Heap} (a1 : Addr) (p3 : Int32) (f : Nat → Int32)
    (X0 : Stand p l e R s m args below meth c T0 locs cells slots) (hx : p.tables.exec = Jvm.exec) (hZ : Z.Warmed39 s.vm) (e0 : T0.heap = h0) (A0 : own_A Z h0 a1 4 f) (hby : c.code = prog_110_method_40_code) (hret : meth.sig.returnType = some .int) {fs : List Frame}
    (hr : ∀ (f' : JFrame) (acts : List Action), f'.method = m → f'.locked = none → f'.entered = [] → (doReturn e (T0.setTop f') acts (some (.int (G2 f p3)))).1 = T0.setFrames fs) :
    Steps p.tables e below (T0.setTop (mkF m 0 #[.val (.ref a1), .val (.int (2 : Int32)), .val (.int p3), .unset, .unset, .unset] [])) (T0.setFrames fs) := by
  show Steps p.tables e below (T0.setTop (mkF m 0 #[.val (.ref a1), .val (.int (2 : Int32)), .val (.int p3), .unset, .unset, .unset] [])) _
  refine XS.iconst X0.here hx rfl (hb hby d2_0) ?_
  show Steps p.tables e below (T0.setTop (mkF m 1 #[.val (.ref a1), .val (.int (2 : Int32)), .val (.int p3), .unset, .unset, .unset] [(.int (0 : Int32))])) _
  refine XS.istoreN X0.here hx rfl (hb hby d2_1) rfl (l' := #[.val (.ref a1), .val (.int (2 : Int32)), .val (.int p3), .val (.int (0 : Int32)), .unset, .unset]) rfl ?_
  show Steps p.tables e below (T0.setTop (mkF m 2 #[.val (.ref a1), .val (.int (2 : Int32)), .val (.int p3), .val (.int (0 : Int32)), .unset, .unset] [])) _
  refine XS.iloadN X0.here hx rfl (hb hby d2_2) rfl ?_
  show Steps p.tables e below (T0.setTop (mkF m 3 #[.val (.ref a1), .val (.int (2 : Int32)), .val (.int p3), .val (.int (0 : Int32)), .unset, .unset] [(.int (2 : Int32))])) _
  refine XS.istore X0.here hx rfl (hb hby d2_3) rfl (l' := #[.val (.ref a1), .val (.int (2 : Int32)), .val (.int p3), .val (.int (0 : Int32)), .val (.int (2 : Int32)), .unset]) rfl ?_
  show Steps p.tables e below (T0.setTop (mkF m 5 #[.val (.ref a1), .val (.int (2 : Int32)), .val (.int p3), .val (.int (0 : Int32)), .val (.int (2 : Int32)), .unset] [])) _
  refine XS.iloadN X0.here hx rfl (hb hby d2_5) rfl ?_
  show Steps p.tables e below (T0.setTop (mkF m 6 #[.val (.ref a1), .val (.int (2 : Int32)), .val (.int p3), .val (.int (0 : Int32)), .val (.int (2 : Int32)), .unset] [(.int (0 : Int32))])) _
  refine XS.iload X0.here hx rfl (hb hby d2_6) rfl ?_
  show Steps p.tables e below (T0.setTop (mkF m 8 #[.val (.ref a1), .val (.int (2 : Int32)), .val (.int p3), .val (.int (0 : Int32)), .val (.int (2 : Int32)), .unset] [(.int (2 : Int32)), (.int (0 : Int32))])) _
  refine XS.icmpNo X0.here hx rfl (hb hby d2_8) rfl (tlt (by decide : (0 : Int32) < (2 : Int32))).2.1 ?_
  show Steps p.tables e below (T0.setTop (mkF m 11 #[.val (.ref a1), .val (.int (2 : Int32)), .val (.int p3), .val (.int (0 : Int32)), .val (.int (2 : Int32)), .unset] [])) _
  refine XS.iloadN X0.here hx rfl (hb hby d2_11) rfl ?_
  show Steps p.tables e below (T0.setTop (mkF m 12 #[.val (.ref a1), .val (.int (2 : Int32)), .val (.int p3), .val (.int (0 : Int32)), .val (.int (2 : Int32)), .unset] [(.int (0 : Int32))])) _
  refine XS.iload X0.here hx rfl (hb hby d2_12) rfl ?_
  show Steps p.tables e below (T0.setTop (mkF m 14 #[.val (.ref a1), .val (.int (2 : Int32)), .val (.int p3), .val (.int (0 : Int32)), .val (.int (2 : Int32)), .unset] [(.int (2 : Int32)), (.int (0 : Int32))])) _
  refine XS.iadd X0.here hx rfl (hb hby d2_14) rfl ?_
  show Steps p.tables e below (T0.setTop (mkF m 15 #[.val (.ref a1), .val (.int (2 : Int32)), .val (.int p3), .val (.int (0 : Int32)), .val (.int (2 : Int32)), .unset] [(.int (2 : Int32))])) _
  refine XS.iconst X0.here hx rfl (hb hby d2_15) ?_
  show Steps p.tables e below (T0.setTop (mkF m 16 #[.val (.ref a1), .val (.int (2 : Int32)), .val (.int p3), .val (.int (0 : Int32)), .val (.int (2 : Int32)), .unset] [(.int (1 : Int32)), (.int (2 : Int32))])) _
  refine XS.iushr X0.here hx rfl (hb hby d2_16) rfl ?_
  show Steps p.tables e below (T0.setTop (mkF m 17 #[.val (.ref a1), .val (.int (2 : Int32)), .val (.int p3), .val (.int (0 : Int32)), .val (.int (2 : Int32)), .unset] [(.int (1 : Int32))])) _
  refine XS.istore X0.here hx rfl (hb hby d2_17) rfl (l' := #[.val (.ref a1), .val (.int (2 : Int32)), .val (.int p3), .val (.int (0 : Int32)), .val (.int (2 : Int32)), .val (.int (1 : Int32))]) rfl ?_
  show Steps p.tables e below (T0.setTop (mkF m 19 #[.val (.ref a1), .val (.int (2 : Int32)), .val (.int p3), .val (.int (0 : Int32)), .val (.int (2 : Int32)), .val (.int (1 : Int32))] [])) _
  refine XS.aloadN X0.here hx rfl (hb hby d2_19) rfl rfl ?_
  show Steps p.tables e below (T0.setTop (mkF m 20 #[.val (.ref a1), .val (.int (2 : Int32)), .val (.int p3), .val (.int (0 : Int32)), .val (.int (2 : Int32)), .val (.int (1 : Int32))] [(.ref a1)])) _
  refine XS.iload X0.here hx rfl (hb hby d2_20) rfl ?_
  show Steps p.tables e below (T0.setTop (mkF m 22 #[.val (.ref a1), .val (.int (2 : Int32)), .val (.int p3), .val (.int (0 : Int32)), .val (.int (2 : Int32)), .val (.int (1 : Int32))] [(.int (1 : Int32)), (.ref a1)])) _
  refine own_get X0 hx hZ e0 A0 1 (by decide) (by decide) (by decide) (g := (mkF m 22 #[.val (.ref a1), .val (.int (2 : Int32)), .val (.int p3), .val (.int (0 : Int32)), .val (.int (2 : Int32)), .val (.int (1 : Int32))] [(.int (1 : Int32)), (.ref a1)])) rfl rfl (hb hby d2_22) _ ?_
  show Steps p.tables e below (T0.setTop (mkF m 23 #[.val (.ref a1), .val (.int (2 : Int32)), .val (.int p3), .val (.int (0 : Int32)), .val (.int (2 : Int32)), .val (.int (1 : Int32))] [(.int (f 1))])) _
  refine XS.iloadN X0.here hx rfl (hb hby d2_23) rfl ?_
  show Steps p.tables e below (T0.setTop (mkF m 24 #[.val (.ref a1), .val (.int (2 : Int32)), .val (.int p3), .val (.int (0 : Int32)), .val (.int (2 : Int32)), .val (.int (1 : Int32))] [(.int p3), (.int (f 1))])) _
  by_cases hc1 : (f 1) < p3
  · refine XS.icmpNo X0.here hx rfl (hb hby d2_24) rfl (tlt hc1).2.1 ?_
    show Steps p.tables e below (T0.setTop (mkF m 27 #[.val (.ref a1), .val (.int (2 : Int32)), .val (.int p3), .val (.int (0 : Int32)), .val (.int (2 : Int32)), .val (.int (1 : Int32))] [])) _
    refine XS.iload X0.here hx rfl (hb hby d2_27) rfl ?_
    show Steps p.tables e below (T0.setTop (mkF m 29 #[.val (.ref a1), .val (.int (2 : Int32)), .val (.int p3), .val (.int (0 : Int32)), .val (.int (2 : Int32)), .val (.int (1 : Int32))] [(.int (1 : Int32))])) _
    refine XS.iconst X0.here hx rfl (hb hby d2_29) ?_
    show Steps p.tables e below (T0.setTop (mkF m 30 #[.val (.ref a1), .val (.int (2 : Int32)), .val (.int p3), .val (.int (0 : Int32)), .val (.int (2 : Int32)), .val (.int (1 : Int32))] [(.int (1 : Int32)), (.int (1 : Int32))])) _
    refine XS.iadd X0.here hx rfl (hb hby d2_30) rfl ?_
    show Steps p.tables e below (T0.setTop (mkF m 31 #[.val (.ref a1), .val (.int (2 : Int32)), .val (.int p3), .val (.int (0 : Int32)), .val (.int (2 : Int32)), .val (.int (1 : Int32))] [(.int (2 : Int32))])) _
    refine XS.istoreN X0.here hx rfl (hb hby d2_31) rfl (l' := #[.val (.ref a1), .val (.int (2 : Int32)), .val (.int p3), .val (.int (2 : Int32)), .val (.int (2 : Int32)), .val (.int (1 : Int32))]) rfl ?_
    show Steps p.tables e below (T0.setTop (mkF m 32 #[.val (.ref a1), .val (.int (2 : Int32)), .val (.int p3), .val (.int (2 : Int32)), .val (.int (2 : Int32)), .val (.int (1 : Int32))] [])) _
    refine XS.goto X0.here hx rfl (pc0 := 32) (pc' := 39) rfl (hb hby d2_32) (by decide) (by decide) ?_
    show Steps p.tables e below (T0.setTop (mkF m 39 #[.val (.ref a1), .val (.int (2 : Int32)), .val (.int p3), .val (.int (2 : Int32)), .val (.int (2 : Int32)), .val (.int (1 : Int32))] [])) _
    refine XS.goto X0.here hx rfl (pc0 := 39) (pc' := 5) rfl (hb hby d2_39) (by decide) (by decide) ?_
    show Steps p.tables e below (T0.setTop (mkF m 5 #[.val (.ref a1), .val (.int (2 : Int32)), .val (.int p3), .val (.int (2 : Int32)), .val (.int (2 : Int32)), .val (.int (1 : Int32))] [])) _
    refine XS.iloadN X0.here hx rfl (hb hby d2_5) rfl ?_
    show Steps p.tables e below (T0.setTop (mkF m 6 #[.val (.ref a1), .val (.int (2 : Int32)), .val (.int p3), .val (.int (2 : Int32)), .val (.int (2 : Int32)), .val (.int (1 : Int32))] [(.int (2 : Int32))])) _
    refine XS.iload X0.here hx rfl (hb hby d2_6) rfl ?_
    show Steps p.tables e below (T0.setTop (mkF m 8 #[.val (.ref a1), .val (.int (2 : Int32)), .val (.int p3), .val (.int (2 : Int32)), .val (.int (2 : Int32)), .val (.int (1 : Int32))] [(.int (2 : Int32)), (.int (2 : Int32))])) _
    refine XS.icmpYes X0.here hx rfl (pc0 := 8) (pc' := 42) rfl (hb hby d2_8) rfl (flt (by decide : ¬ ((2 : Int32) < (2 : Int32)))).2.1 (by decide) (by decide) ?_
    show Steps p.tables e below (T0.setTop (mkF m 42 #[.val (.ref a1), .val (.int (2 : Int32)), .val (.int p3), .val (.int (2 : Int32)), .val (.int (2 : Int32)), .val (.int (1 : Int32))] [])) _
    refine XS.iloadN X0.here hx rfl (hb hby d2_42) rfl ?_
    show Steps p.tables e below (T0.setTop (mkF m 43 #[.val (.ref a1), .val (.int (2 : Int32)), .val (.int p3), .val (.int (2 : Int32)), .val (.int (2 : Int32)), .val (.int (1 : Int32))] [(.int (2 : Int32))])) _
    rw [show G2 f p3 = (2 : Int32) from by unfold G2; rw [if_pos hc1]] at hr
    exact retI X0 hx hret (hb hby d2_43) hr
  · refine XS.icmpYes X0.here hx rfl (pc0 := 24) (pc' := 35) rfl (hb hby d2_24) rfl (flt hc1).2.1 (by decide) (by decide) ?_
    show Steps p.tables e below (T0.setTop (mkF m 35 #[.val (.ref a1), .val (.int (2 : Int32)), .val (.int p3), .val (.int (0 : Int32)), .val (.int (2 : Int32)), .val (.int (1 : Int32))] [])) _
    refine XS.iload X0.here hx rfl (hb hby d2_35) rfl ?_
    show Steps p.tables e below (T0.setTop (mkF m 37 #[.val (.ref a1), .val (.int (2 : Int32)), .val (.int p3), .val (.int (0 : Int32)), .val (.int (2 : Int32)), .val (.int (1 : Int32))] [(.int (1 : Int32))])) _
    refine XS.istore X0.here hx rfl (hb hby d2_37) rfl (l' := #[.val (.ref a1), .val (.int (2 : Int32)), .val (.int p3), .val (.int (0 : Int32)), .val (.int (1 : Int32)), .val (.int (1 : Int32))]) rfl ?_
    show Steps p.tables e below (T0.setTop (mkF m 39 #[.val (.ref a1), .val (.int (2 : Int32)), .val (.int p3), .val (.int (0 : Int32)), .val (.int (1 : Int32)), .val (.int (1 : Int32))] [])) _
    refine XS.goto X0.here hx rfl (pc0 := 39) (pc' := 5) rfl (hb hby d2_39) (by decide) (by decide) ?_
    show Steps p.tables e below (T0.setTop (mkF m 5 #[.val (.ref a1), .val (.int (2 : Int32)), .val (.int p3), .val (.int (0 : Int32)), .val (.int (1 : Int32)), .val (.int (1 : Int32))] [])) _
    refine XS.iloadN X0.here hx rfl (hb hby d2_5) rfl ?_
    show Steps p.tables e below (T0.setTop (mkF m 6 #[.val (.ref a1), .val (.int (2 : Int32)), .val (.int p3), .val (.int (0 : Int32)), .val (.int (1 : Int32)), .val (.int (1 : Int32))] [(.int (0 : Int32))])) _
    refine XS.iload X0.here hx rfl (hb hby d2_6) rfl ?_
    show Steps p.tables e below (T0.setTop (mkF m 8 #[.val (.ref a1), .val (.int (2 : Int32)), .val (.int p3), .val (.int (0 : Int32)), .val (.int (1 : Int32)), .val (.int (1 : Int32))] [(.int (1 : Int32)), (.int (0 : Int32))])) _
    refine XS.icmpNo X0.here hx rfl (hb hby d2_8) rfl (tlt (by decide : (0 : Int32) < (1 : Int32))).2.1 ?_
    show Steps p.tables e below (T0.setTop (mkF m 11 #[.val (.ref a1), .val (.int (2 : Int32)), .val (.int p3), .val (.int (0 : Int32)), .val (.int (1 : Int32)), .val (.int (1 : Int32))] [])) _
    refine XS.iloadN X0.here hx rfl (hb hby d2_11) rfl ?_
    show Steps p.tables e below (T0.setTop (mkF m 12 #[.val (.ref a1), .val (.int (2 : Int32)), .val (.int p3), .val (.int (0 : Int32)), .val (.int (1 : Int32)), .val (.int (1 : Int32))] [(.int (0 : Int32))])) _
    refine XS.iload X0.here hx rfl (hb hby d2_12) rfl ?_
    show Steps p.tables e below (T0.setTop (mkF m 14 #[.val (.ref a1), .val (.int (2 : Int32)), .val (.int p3), .val (.int (0 : Int32)), .val (.int (1 : Int32)), .val (.int (1 : Int32))] [(.int (1 : Int32)), (.int (0 : Int32))])) _
    refine XS.iadd X0.here hx rfl (hb hby d2_14) rfl ?_
    show Steps p.tables e below (T0.setTop (mkF m 15 #[.val (.ref a1), .val (.int (2 : Int32)), .val (.int p3), .val (.int (0 : Int32)), .val (.int (1 : Int32)), .val (.int (1 : Int32))] [(.int (1 : Int32))])) _
    refine XS.iconst X0.here hx rfl (hb hby d2_15) ?_
    show Steps p.tables e below (T0.setTop (mkF m 16 #[.val (.ref a1), .val (.int (2 : Int32)), .val (.int p3), .val (.int (0 : Int32)), .val (.int (1 : Int32)), .val (.int (1 : Int32))] [(.int (1 : Int32)), (.int (1 : Int32))])) _
    refine XS.iushr X0.here hx rfl (hb hby d2_16) rfl ?_
    show Steps p.tables e below (T0.setTop (mkF m 17 #[.val (.ref a1), .val (.int (2 : Int32)), .val (.int p3), .val (.int (0 : Int32)), .val (.int (1 : Int32)), .val (.int (1 : Int32))] [(.int (0 : Int32))])) _
    refine XS.istore X0.here hx rfl (hb hby d2_17) rfl (l' := #[.val (.ref a1), .val (.int (2 : Int32)), .val (.int p3), .val (.int (0 : Int32)), .val (.int (1 : Int32)), .val (.int (0 : Int32))]) rfl ?_
    show Steps p.tables e below (T0.setTop (mkF m 19 #[.val (.ref a1), .val (.int (2 : Int32)), .val (.int p3), .val (.int (0 : Int32)), .val (.int (1 : Int32)), .val (.int (0 : Int32))] [])) _
    refine XS.aloadN X0.here hx rfl (hb hby d2_19) rfl rfl ?_
    show Steps p.tables e below (T0.setTop (mkF m 20 #[.val (.ref a1), .val (.int (2 : Int32)), .val (.int p3), .val (.int (0 : Int32)), .val (.int (1 : Int32)), .val (.int (0 : Int32))] [(.ref a1)])) _
    refine XS.iload X0.here hx rfl (hb hby d2_20) rfl ?_
    show Steps p.tables e below (T0.setTop (mkF m 22 #[.val (.ref a1), .val (.int (2 : Int32)), .val (.int p3), .val (.int (0 : Int32)), .val (.int (1 : Int32)), .val (.int (0 : Int32))] [(.int (0 : Int32)), (.ref a1)])) _
    refine own_get X0 hx hZ e0 A0 0 (by decide) (by decide) (by decide) (g := (mkF m 22 #[.val (.ref a1), .val (.int (2 : Int32)), .val (.int p3), .val (.int (0 : Int32)), .val (.int (1 : Int32)), .val (.int (0 : Int32))] [(.int (0 : Int32)), (.ref a1)])) rfl rfl (hb hby d2_22) _ ?_
    show Steps p.tables e below (T0.setTop (mkF m 23 #[.val (.ref a1), .val (.int (2 : Int32)), .val (.int p3), .val (.int (0 : Int32)), .val (.int (1 : Int32)), .val (.int (0 : Int32))] [(.int (f 0))])) _
    refine XS.iloadN X0.here hx rfl (hb hby d2_23) rfl ?_
    show Steps p.tables e below (T0.setTop (mkF m 24 #[.val (.ref a1), .val (.int (2 : Int32)), .val (.int p3), .val (.int (0 : Int32)), .val (.int (1 : Int32)), .val (.int (0 : Int32))] [(.int p3), (.int (f 0))])) _
    by_cases hc2 : (f 0) < p3
    · refine XS.icmpNo X0.here hx rfl (hb hby d2_24) rfl (tlt hc2).2.1 ?_
      show Steps p.tables e below (T0.setTop (mkF m 27 #[.val (.ref a1), .val (.int (2 : Int32)), .val (.int p3), .val (.int (0 : Int32)), .val (.int (1 : Int32)), .val (.int (0 : Int32))] [])) _
      refine XS.iload X0.here hx rfl (hb hby d2_27) rfl ?_
      show Steps p.tables e below (T0.setTop (mkF m 29 #[.val (.ref a1), .val (.int (2 : Int32)), .val (.int p3), .val (.int (0 : Int32)), .val (.int (1 : Int32)), .val (.int (0 : Int32))] [(.int (0 : Int32))])) _
      refine XS.iconst X0.here hx rfl (hb hby d2_29) ?_
      show Steps p.tables e below (T0.setTop (mkF m 30 #[.val (.ref a1), .val (.int (2 : Int32)), .val (.int p3), .val (.int (0 : Int32)), .val (.int (1 : Int32)), .val (.int (0 : Int32))] [(.int (1 : Int32)), (.int (0 : Int32))])) _
      refine XS.iadd X0.here hx rfl (hb hby d2_30) rfl ?_
      show Steps p.tables e below (T0.setTop (mkF m 31 #[.val (.ref a1), .val (.int (2 : Int32)), .val (.int p3), .val (.int (0 : Int32)), .val (.int (1 : Int32)), .val (.int (0 : Int32))] [(.int (1 : Int32))])) _
      refine XS.istoreN X0.here hx rfl (hb hby d2_31) rfl (l' := #[.val (.ref a1), .val (.int (2 : Int32)), .val (.int p3), .val (.int (1 : Int32)), .val (.int (1 : Int32)), .val (.int (0 : Int32))]) rfl ?_
      show Steps p.tables e below (T0.setTop (mkF m 32 #[.val (.ref a1), .val (.int (2 : Int32)), .val (.int p3), .val (.int (1 : Int32)), .val (.int (1 : Int32)), .val (.int (0 : Int32))] [])) _
      refine XS.goto X0.here hx rfl (pc0 := 32) (pc' := 39) rfl (hb hby d2_32) (by decide) (by decide) ?_
      show Steps p.tables e below (T0.setTop (mkF m 39 #[.val (.ref a1), .val (.int (2 : Int32)), .val (.int p3), .val (.int (1 : Int32)), .val (.int (1 : Int32)), .val (.int (0 : Int32))] [])) _
      refine XS.goto X0.here hx rfl (pc0 := 39) (pc' := 5) rfl (hb hby d2_39) (by decide) (by decide) ?_
      show Steps p.tables e below (T0.setTop (mkF m 5 #[.val (.ref a1), .val (.int (2 : Int32)), .val (.int p3), .val (.int (1 : Int32)), .val (.int (1 : Int32)), .val (.int (0 : Int32))] [])) _
      refine XS.iloadN X0.here hx rfl (hb hby d2_5) rfl ?_
      show Steps p.tables e below (T0.setTop (mkF m 6 #[.val (.ref a1), .val (.int (2 : Int32)), .val (.int p3), .val (.int (1 : Int32)), .val (.int (1 : Int32)), .val (.int (0 : Int32))] [(.int (1 : Int32))])) _
      refine XS.iload X0.here hx rfl (hb hby d2_6) rfl ?_
      show Steps p.tables e below (T0.setTop (mkF m 8 #[.val (.ref a1), .val (.int (2 : Int32)), .val (.int p3), .val (.int (1 : Int32)), .val (.int (1 : Int32)), .val (.int (0 : Int32))] [(.int (1 : Int32)), (.int (1 : Int32))])) _
      refine XS.icmpYes X0.here hx rfl (pc0 := 8) (pc' := 42) rfl (hb hby d2_8) rfl (flt (by decide : ¬ ((1 : Int32) < (1 : Int32)))).2.1 (by decide) (by decide) ?_
      show Steps p.tables e below (T0.setTop (mkF m 42 #[.val (.ref a1), .val (.int (2 : Int32)), .val (.int p3), .val (.int (1 : Int32)), .val (.int (1 : Int32)), .val (.int (0 : Int32))] [])) _
      refine XS.iloadN X0.here hx rfl (hb hby d2_42) rfl ?_
      show Steps p.tables e below (T0.setTop (mkF m 43 #[.val (.ref a1), .val (.int (2 : Int32)), .val (.int p3), .val (.int (1 : Int32)), .val (.int (1 : Int32)), .val (.int (0 : Int32))] [(.int (1 : Int32))])) _
      rw [show G2 f p3 = (1 : Int32) from by unfold G2; rw [if_neg hc1, if_pos hc2]] at hr
      exact retI X0 hx hret (hb hby d2_43) hr
    · refine XS.icmpYes X0.here hx rfl (pc0 := 24) (pc' := 35) rfl (hb hby d2_24) rfl (flt hc2).2.1 (by decide) (by decide) ?_
      show Steps p.tables e below (T0.setTop (mkF m 35 #[.val (.ref a1), .val (.int (2 : Int32)), .val (.int p3), .val (.int (0 : Int32)), .val (.int (1 : Int32)), .val (.int (0 : Int32))] [])) _
      refine XS.iload X0.here hx rfl (hb hby d2_35) rfl ?_
      show Steps p.tables e below (T0.setTop (mkF m 37 #[.val (.ref a1), .val (.int (2 : Int32)), .val (.int p3), .val (.int (0 : Int32)), .val (.int (1 : Int32)), .val (.int (0 : Int32))] [(.int (0 : Int32))])) _
      refine XS.istore X0.here hx rfl (hb hby d2_37) rfl (l' := #[.val (.ref a1), .val (.int (2 : Int32)), .val (.int p3), .val (.int (0 : Int32)), .val (.int (0 : Int32)), .val (.int (0 : Int32))]) rfl ?_
      show Steps p.tables e below (T0.setTop (mkF m 39 #[.val (.ref a1), .val (.int (2 : Int32)), .val (.int p3), .val (.int (0 : Int32)), .val (.int (0 : Int32)), .val (.int (0 : Int32))] [])) _
      refine XS.goto X0.here hx rfl (pc0 := 39) (pc' := 5) rfl (hb hby d2_39) (by decide) (by decide) ?_
      show Steps p.tables e below (T0.setTop (mkF m 5 #[.val (.ref a1), .val (.int (2 : Int32)), .val (.int p3), .val (.int (0 : Int32)), .val (.int (0 : Int32)), .val (.int (0 : Int32))] [])) _
      refine XS.iloadN X0.here hx rfl (hb hby d2_5) rfl ?_
      show Steps p.tables e below (T0.setTop (mkF m 6 #[.val (.ref a1), .val (.int (2 : Int32)), .val (.int p3), .val (.int (0 : Int32)), .val (.int (0 : Int32)), .val (.int (0 : Int32))] [(.int (0 : Int32))])) _
      refine XS.iload X0.here hx rfl (hb hby d2_6) rfl ?_
      show Steps p.tables e below (T0.setTop (mkF m 8 #[.val (.ref a1), .val (.int (2 : Int32)), .val (.int p3), .val (.int (0 : Int32)), .val (.int (0 : Int32)), .val (.int (0 : Int32))] [(.int (0 : Int32)), (.int (0 : Int32))])) _
      refine XS.icmpYes X0.here hx rfl (pc0 := 8) (pc' := 42) rfl (hb hby d2_8) rfl (flt (by decide : ¬ ((0 : Int32) < (0 : Int32)))).2.1 (by decide) (by decide) ?_
      show Steps p.tables e below (T0.setTop (mkF m 42 #[.val (.ref a1), .val (.int (2 : Int32)), .val (.int p3), .val (.int (0 : Int32)), .val (.int (0 : Int32)), .val (.int (0 : Int32))] [])) _
      refine XS.iloadN X0.here hx rfl (hb hby d2_42) rfl ?_
      show Steps p.tables e below (T0.setTop (mkF m 43 #[.val (.ref a1), .val (.int (2 : Int32)), .val (.int p3), .val (.int (0 : Int32)), .val (.int (0 : Int32)), .val (.int (0 : Int32))] [(.int (0 : Int32))])) _
      rw [show G2 f p3 = (0 : Int32) from by unfold G2; rw [if_neg hc1, if_neg hc2]] at hr
      exact retI X0 hx hret (hb hby d2_43) hr
def G3 (f : Nat → Int32) (p3 : Int32) : Int32 := (if (f 1) < p3 then (if (f 2) < p3 then (3 : Int32) else (2 : Int32)) else (if (f 0) < p3 then (1 : Int32) else (0 : Int32)))
set_option maxRecDepth 65536 in
set_option maxHeartbeats 40000000 in
theorem fa_3 {p : Program} {l : Launch} {e : Env} {R : Room} {s : State} {m : MethodId} {args : Array Value} {below : List Frame} {meth : Method} {c : Code} {T0 : State} {locs : List Loc} {cells slots : Nat} {Z : State} {h0 : Heap} (a1 : Addr) (p3 : Int32) (f : Nat → Int32)
    (X0 : Stand p l e R s m args below meth c T0 locs cells slots) (hx : p.tables.exec = Jvm.exec) (hZ : Z.Warmed39 s.vm) (e0 : T0.heap = h0) (A0 : own_A Z h0 a1 4 f) (hby : c.code = prog_110_method_40_code) (hret : meth.sig.returnType = some .int) {fs : List Frame}
    (hr : ∀ (f' : JFrame) (acts : List Action), f'.method = m → f'.locked = none → f'.entered = [] → (doReturn e (T0.setTop f') acts (some (.int (G3 f p3)))).1 = T0.setFrames fs) :
    Steps p.tables e below (T0.setTop (mkF m 0 #[.val (.ref a1), .val (.int (3 : Int32)), .val (.int p3), .unset, .unset, .unset] [])) (T0.setFrames fs) := by
  show Steps p.tables e below (T0.setTop (mkF m 0 #[.val (.ref a1), .val (.int (3 : Int32)), .val (.int p3), .unset, .unset, .unset] [])) _
  refine XS.iconst X0.here hx rfl (hb hby d2_0) ?_
  show Steps p.tables e below (T0.setTop (mkF m 1 #[.val (.ref a1), .val (.int (3 : Int32)), .val (.int p3), .unset, .unset, .unset] [(.int (0 : Int32))])) _
  refine XS.istoreN X0.here hx rfl (hb hby d2_1) rfl (l' := #[.val (.ref a1), .val (.int (3 : Int32)), .val (.int p3), .val (.int (0 : Int32)), .unset, .unset]) rfl ?_
  show Steps p.tables e below (T0.setTop (mkF m 2 #[.val (.ref a1), .val (.int (3 : Int32)), .val (.int p3), .val (.int (0 : Int32)), .unset, .unset] [])) _
  refine XS.iloadN X0.here hx rfl (hb hby d2_2) rfl ?_
  show Steps p.tables e below (T0.setTop (mkF m 3 #[.val (.ref a1), .val (.int (3 : Int32)), .val (.int p3), .val (.int (0 : Int32)), .unset, .unset] [(.int (3 : Int32))])) _
  refine XS.istore X0.here hx rfl (hb hby d2_3) rfl (l' := #[.val (.ref a1), .val (.int (3 : Int32)), .val (.int p3), .val (.int (0 : Int32)), .val (.int (3 : Int32)), .unset]) rfl ?_
  show Steps p.tables e below (T0.setTop (mkF m 5 #[.val (.ref a1), .val (.int (3 : Int32)), .val (.int p3), .val (.int (0 : Int32)), .val (.int (3 : Int32)), .unset] [])) _
  refine XS.iloadN X0.here hx rfl (hb hby d2_5) rfl ?_
  show Steps p.tables e below (T0.setTop (mkF m 6 #[.val (.ref a1), .val (.int (3 : Int32)), .val (.int p3), .val (.int (0 : Int32)), .val (.int (3 : Int32)), .unset] [(.int (0 : Int32))])) _
  refine XS.iload X0.here hx rfl (hb hby d2_6) rfl ?_
  show Steps p.tables e below (T0.setTop (mkF m 8 #[.val (.ref a1), .val (.int (3 : Int32)), .val (.int p3), .val (.int (0 : Int32)), .val (.int (3 : Int32)), .unset] [(.int (3 : Int32)), (.int (0 : Int32))])) _
  refine XS.icmpNo X0.here hx rfl (hb hby d2_8) rfl (tlt (by decide : (0 : Int32) < (3 : Int32))).2.1 ?_
  show Steps p.tables e below (T0.setTop (mkF m 11 #[.val (.ref a1), .val (.int (3 : Int32)), .val (.int p3), .val (.int (0 : Int32)), .val (.int (3 : Int32)), .unset] [])) _
  refine XS.iloadN X0.here hx rfl (hb hby d2_11) rfl ?_
  show Steps p.tables e below (T0.setTop (mkF m 12 #[.val (.ref a1), .val (.int (3 : Int32)), .val (.int p3), .val (.int (0 : Int32)), .val (.int (3 : Int32)), .unset] [(.int (0 : Int32))])) _
  refine XS.iload X0.here hx rfl (hb hby d2_12) rfl ?_
  show Steps p.tables e below (T0.setTop (mkF m 14 #[.val (.ref a1), .val (.int (3 : Int32)), .val (.int p3), .val (.int (0 : Int32)), .val (.int (3 : Int32)), .unset] [(.int (3 : Int32)), (.int (0 : Int32))])) _
  refine XS.iadd X0.here hx rfl (hb hby d2_14) rfl ?_
  show Steps p.tables e below (T0.setTop (mkF m 15 #[.val (.ref a1), .val (.int (3 : Int32)), .val (.int p3), .val (.int (0 : Int32)), .val (.int (3 : Int32)), .unset] [(.int (3 : Int32))])) _
  refine XS.iconst X0.here hx rfl (hb hby d2_15) ?_
  show Steps p.tables e below (T0.setTop (mkF m 16 #[.val (.ref a1), .val (.int (3 : Int32)), .val (.int p3), .val (.int (0 : Int32)), .val (.int (3 : Int32)), .unset] [(.int (1 : Int32)), (.int (3 : Int32))])) _
  refine XS.iushr X0.here hx rfl (hb hby d2_16) rfl ?_
  show Steps p.tables e below (T0.setTop (mkF m 17 #[.val (.ref a1), .val (.int (3 : Int32)), .val (.int p3), .val (.int (0 : Int32)), .val (.int (3 : Int32)), .unset] [(.int (1 : Int32))])) _
  refine XS.istore X0.here hx rfl (hb hby d2_17) rfl (l' := #[.val (.ref a1), .val (.int (3 : Int32)), .val (.int p3), .val (.int (0 : Int32)), .val (.int (3 : Int32)), .val (.int (1 : Int32))]) rfl ?_
  show Steps p.tables e below (T0.setTop (mkF m 19 #[.val (.ref a1), .val (.int (3 : Int32)), .val (.int p3), .val (.int (0 : Int32)), .val (.int (3 : Int32)), .val (.int (1 : Int32))] [])) _
  refine XS.aloadN X0.here hx rfl (hb hby d2_19) rfl rfl ?_
  show Steps p.tables e below (T0.setTop (mkF m 20 #[.val (.ref a1), .val (.int (3 : Int32)), .val (.int p3), .val (.int (0 : Int32)), .val (.int (3 : Int32)), .val (.int (1 : Int32))] [(.ref a1)])) _
  refine XS.iload X0.here hx rfl (hb hby d2_20) rfl ?_
  show Steps p.tables e below (T0.setTop (mkF m 22 #[.val (.ref a1), .val (.int (3 : Int32)), .val (.int p3), .val (.int (0 : Int32)), .val (.int (3 : Int32)), .val (.int (1 : Int32))] [(.int (1 : Int32)), (.ref a1)])) _
  refine own_get X0 hx hZ e0 A0 1 (by decide) (by decide) (by decide) (g := (mkF m 22 #[.val (.ref a1), .val (.int (3 : Int32)), .val (.int p3), .val (.int (0 : Int32)), .val (.int (3 : Int32)), .val (.int (1 : Int32))] [(.int (1 : Int32)), (.ref a1)])) rfl rfl (hb hby d2_22) _ ?_
  show Steps p.tables e below (T0.setTop (mkF m 23 #[.val (.ref a1), .val (.int (3 : Int32)), .val (.int p3), .val (.int (0 : Int32)), .val (.int (3 : Int32)), .val (.int (1 : Int32))] [(.int (f 1))])) _
  refine XS.iloadN X0.here hx rfl (hb hby d2_23) rfl ?_
  show Steps p.tables e below (T0.setTop (mkF m 24 #[.val (.ref a1), .val (.int (3 : Int32)), .val (.int p3), .val (.int (0 : Int32)), .val (.int (3 : Int32)), .val (.int (1 : Int32))] [(.int p3), (.int (f 1))])) _
  by_cases hc1 : (f 1) < p3
  · refine XS.icmpNo X0.here hx rfl (hb hby d2_24) rfl (tlt hc1).2.1 ?_
    show Steps p.tables e below (T0.setTop (mkF m 27 #[.val (.ref a1), .val (.int (3 : Int32)), .val (.int p3), .val (.int (0 : Int32)), .val (.int (3 : Int32)), .val (.int (1 : Int32))] [])) _
    refine XS.iload X0.here hx rfl (hb hby d2_27) rfl ?_
    show Steps p.tables e below (T0.setTop (mkF m 29 #[.val (.ref a1), .val (.int (3 : Int32)), .val (.int p3), .val (.int (0 : Int32)), .val (.int (3 : Int32)), .val (.int (1 : Int32))] [(.int (1 : Int32))])) _
    refine XS.iconst X0.here hx rfl (hb hby d2_29) ?_
    show Steps p.tables e below (T0.setTop (mkF m 30 #[.val (.ref a1), .val (.int (3 : Int32)), .val (.int p3), .val (.int (0 : Int32)), .val (.int (3 : Int32)), .val (.int (1 : Int32))] [(.int (1 : Int32)), (.int (1 : Int32))])) _
    refine XS.iadd X0.here hx rfl (hb hby d2_30) rfl ?_
    show Steps p.tables e below (T0.setTop (mkF m 31 #[.val (.ref a1), .val (.int (3 : Int32)), .val (.int p3), .val (.int (0 : Int32)), .val (.int (3 : Int32)), .val (.int (1 : Int32))] [(.int (2 : Int32))])) _
    refine XS.istoreN X0.here hx rfl (hb hby d2_31) rfl (l' := #[.val (.ref a1), .val (.int (3 : Int32)), .val (.int p3), .val (.int (2 : Int32)), .val (.int (3 : Int32)), .val (.int (1 : Int32))]) rfl ?_
    show Steps p.tables e below (T0.setTop (mkF m 32 #[.val (.ref a1), .val (.int (3 : Int32)), .val (.int p3), .val (.int (2 : Int32)), .val (.int (3 : Int32)), .val (.int (1 : Int32))] [])) _
    refine XS.goto X0.here hx rfl (pc0 := 32) (pc' := 39) rfl (hb hby d2_32) (by decide) (by decide) ?_
    show Steps p.tables e below (T0.setTop (mkF m 39 #[.val (.ref a1), .val (.int (3 : Int32)), .val (.int p3), .val (.int (2 : Int32)), .val (.int (3 : Int32)), .val (.int (1 : Int32))] [])) _
    refine XS.goto X0.here hx rfl (pc0 := 39) (pc' := 5) rfl (hb hby d2_39) (by decide) (by decide) ?_
    show Steps p.tables e below (T0.setTop (mkF m 5 #[.val (.ref a1), .val (.int (3 : Int32)), .val (.int p3), .val (.int (2 : Int32)), .val (.int (3 : Int32)), .val (.int (1 : Int32))] [])) _
    refine XS.iloadN X0.here hx rfl (hb hby d2_5) rfl ?_
    show Steps p.tables e below (T0.setTop (mkF m 6 #[.val (.ref a1), .val (.int (3 : Int32)), .val (.int p3), .val (.int (2 : Int32)), .val (.int (3 : Int32)), .val (.int (1 : Int32))] [(.int (2 : Int32))])) _
    refine XS.iload X0.here hx rfl (hb hby d2_6) rfl ?_
    show Steps p.tables e below (T0.setTop (mkF m 8 #[.val (.ref a1), .val (.int (3 : Int32)), .val (.int p3), .val (.int (2 : Int32)), .val (.int (3 : Int32)), .val (.int (1 : Int32))] [(.int (3 : Int32)), (.int (2 : Int32))])) _
    refine XS.icmpNo X0.here hx rfl (hb hby d2_8) rfl (tlt (by decide : (2 : Int32) < (3 : Int32))).2.1 ?_
    show Steps p.tables e below (T0.setTop (mkF m 11 #[.val (.ref a1), .val (.int (3 : Int32)), .val (.int p3), .val (.int (2 : Int32)), .val (.int (3 : Int32)), .val (.int (1 : Int32))] [])) _
    refine XS.iloadN X0.here hx rfl (hb hby d2_11) rfl ?_
    show Steps p.tables e below (T0.setTop (mkF m 12 #[.val (.ref a1), .val (.int (3 : Int32)), .val (.int p3), .val (.int (2 : Int32)), .val (.int (3 : Int32)), .val (.int (1 : Int32))] [(.int (2 : Int32))])) _
    refine XS.iload X0.here hx rfl (hb hby d2_12) rfl ?_
    show Steps p.tables e below (T0.setTop (mkF m 14 #[.val (.ref a1), .val (.int (3 : Int32)), .val (.int p3), .val (.int (2 : Int32)), .val (.int (3 : Int32)), .val (.int (1 : Int32))] [(.int (3 : Int32)), (.int (2 : Int32))])) _
    refine XS.iadd X0.here hx rfl (hb hby d2_14) rfl ?_
    show Steps p.tables e below (T0.setTop (mkF m 15 #[.val (.ref a1), .val (.int (3 : Int32)), .val (.int p3), .val (.int (2 : Int32)), .val (.int (3 : Int32)), .val (.int (1 : Int32))] [(.int (5 : Int32))])) _
    refine XS.iconst X0.here hx rfl (hb hby d2_15) ?_
    show Steps p.tables e below (T0.setTop (mkF m 16 #[.val (.ref a1), .val (.int (3 : Int32)), .val (.int p3), .val (.int (2 : Int32)), .val (.int (3 : Int32)), .val (.int (1 : Int32))] [(.int (1 : Int32)), (.int (5 : Int32))])) _
    refine XS.iushr X0.here hx rfl (hb hby d2_16) rfl ?_
    show Steps p.tables e below (T0.setTop (mkF m 17 #[.val (.ref a1), .val (.int (3 : Int32)), .val (.int p3), .val (.int (2 : Int32)), .val (.int (3 : Int32)), .val (.int (1 : Int32))] [(.int (2 : Int32))])) _
    refine XS.istore X0.here hx rfl (hb hby d2_17) rfl (l' := #[.val (.ref a1), .val (.int (3 : Int32)), .val (.int p3), .val (.int (2 : Int32)), .val (.int (3 : Int32)), .val (.int (2 : Int32))]) rfl ?_
    show Steps p.tables e below (T0.setTop (mkF m 19 #[.val (.ref a1), .val (.int (3 : Int32)), .val (.int p3), .val (.int (2 : Int32)), .val (.int (3 : Int32)), .val (.int (2 : Int32))] [])) _
    refine XS.aloadN X0.here hx rfl (hb hby d2_19) rfl rfl ?_
    show Steps p.tables e below (T0.setTop (mkF m 20 #[.val (.ref a1), .val (.int (3 : Int32)), .val (.int p3), .val (.int (2 : Int32)), .val (.int (3 : Int32)), .val (.int (2 : Int32))] [(.ref a1)])) _
    refine XS.iload X0.here hx rfl (hb hby d2_20) rfl ?_
    show Steps p.tables e below (T0.setTop (mkF m 22 #[.val (.ref a1), .val (.int (3 : Int32)), .val (.int p3), .val (.int (2 : Int32)), .val (.int (3 : Int32)), .val (.int (2 : Int32))] [(.int (2 : Int32)), (.ref a1)])) _
    refine own_get X0 hx hZ e0 A0 2 (by decide) (by decide) (by decide) (g := (mkF m 22 #[.val (.ref a1), .val (.int (3 : Int32)), .val (.int p3), .val (.int (2 : Int32)), .val (.int (3 : Int32)), .val (.int (2 : Int32))] [(.int (2 : Int32)), (.ref a1)])) rfl rfl (hb hby d2_22) _ ?_
    show Steps p.tables e below (T0.setTop (mkF m 23 #[.val (.ref a1), .val (.int (3 : Int32)), .val (.int p3), .val (.int (2 : Int32)), .val (.int (3 : Int32)), .val (.int (2 : Int32))] [(.int (f 2))])) _
    refine XS.iloadN X0.here hx rfl (hb hby d2_23) rfl ?_
    show Steps p.tables e below (T0.setTop (mkF m 24 #[.val (.ref a1), .val (.int (3 : Int32)), .val (.int p3), .val (.int (2 : Int32)), .val (.int (3 : Int32)), .val (.int (2 : Int32))] [(.int p3), (.int (f 2))])) _
    by_cases hc2 : (f 2) < p3
    · refine XS.icmpNo X0.here hx rfl (hb hby d2_24) rfl (tlt hc2).2.1 ?_
      show Steps p.tables e below (T0.setTop (mkF m 27 #[.val (.ref a1), .val (.int (3 : Int32)), .val (.int p3), .val (.int (2 : Int32)), .val (.int (3 : Int32)), .val (.int (2 : Int32))] [])) _
      refine XS.iload X0.here hx rfl (hb hby d2_27) rfl ?_
      show Steps p.tables e below (T0.setTop (mkF m 29 #[.val (.ref a1), .val (.int (3 : Int32)), .val (.int p3), .val (.int (2 : Int32)), .val (.int (3 : Int32)), .val (.int (2 : Int32))] [(.int (2 : Int32))])) _
      refine XS.iconst X0.here hx rfl (hb hby d2_29) ?_
      show Steps p.tables e below (T0.setTop (mkF m 30 #[.val (.ref a1), .val (.int (3 : Int32)), .val (.int p3), .val (.int (2 : Int32)), .val (.int (3 : Int32)), .val (.int (2 : Int32))] [(.int (1 : Int32)), (.int (2 : Int32))])) _
      refine XS.iadd X0.here hx rfl (hb hby d2_30) rfl ?_
      show Steps p.tables e below (T0.setTop (mkF m 31 #[.val (.ref a1), .val (.int (3 : Int32)), .val (.int p3), .val (.int (2 : Int32)), .val (.int (3 : Int32)), .val (.int (2 : Int32))] [(.int (3 : Int32))])) _
      refine XS.istoreN X0.here hx rfl (hb hby d2_31) rfl (l' := #[.val (.ref a1), .val (.int (3 : Int32)), .val (.int p3), .val (.int (3 : Int32)), .val (.int (3 : Int32)), .val (.int (2 : Int32))]) rfl ?_
      show Steps p.tables e below (T0.setTop (mkF m 32 #[.val (.ref a1), .val (.int (3 : Int32)), .val (.int p3), .val (.int (3 : Int32)), .val (.int (3 : Int32)), .val (.int (2 : Int32))] [])) _
      refine XS.goto X0.here hx rfl (pc0 := 32) (pc' := 39) rfl (hb hby d2_32) (by decide) (by decide) ?_
      show Steps p.tables e below (T0.setTop (mkF m 39 #[.val (.ref a1), .val (.int (3 : Int32)), .val (.int p3), .val (.int (3 : Int32)), .val (.int (3 : Int32)), .val (.int (2 : Int32))] [])) _
      refine XS.goto X0.here hx rfl (pc0 := 39) (pc' := 5) rfl (hb hby d2_39) (by decide) (by decide) ?_
      show Steps p.tables e below (T0.setTop (mkF m 5 #[.val (.ref a1), .val (.int (3 : Int32)), .val (.int p3), .val (.int (3 : Int32)), .val (.int (3 : Int32)), .val (.int (2 : Int32))] [])) _
      refine XS.iloadN X0.here hx rfl (hb hby d2_5) rfl ?_
      show Steps p.tables e below (T0.setTop (mkF m 6 #[.val (.ref a1), .val (.int (3 : Int32)), .val (.int p3), .val (.int (3 : Int32)), .val (.int (3 : Int32)), .val (.int (2 : Int32))] [(.int (3 : Int32))])) _
      refine XS.iload X0.here hx rfl (hb hby d2_6) rfl ?_
      show Steps p.tables e below (T0.setTop (mkF m 8 #[.val (.ref a1), .val (.int (3 : Int32)), .val (.int p3), .val (.int (3 : Int32)), .val (.int (3 : Int32)), .val (.int (2 : Int32))] [(.int (3 : Int32)), (.int (3 : Int32))])) _
      refine XS.icmpYes X0.here hx rfl (pc0 := 8) (pc' := 42) rfl (hb hby d2_8) rfl (flt (by decide : ¬ ((3 : Int32) < (3 : Int32)))).2.1 (by decide) (by decide) ?_
      show Steps p.tables e below (T0.setTop (mkF m 42 #[.val (.ref a1), .val (.int (3 : Int32)), .val (.int p3), .val (.int (3 : Int32)), .val (.int (3 : Int32)), .val (.int (2 : Int32))] [])) _
      refine XS.iloadN X0.here hx rfl (hb hby d2_42) rfl ?_
      show Steps p.tables e below (T0.setTop (mkF m 43 #[.val (.ref a1), .val (.int (3 : Int32)), .val (.int p3), .val (.int (3 : Int32)), .val (.int (3 : Int32)), .val (.int (2 : Int32))] [(.int (3 : Int32))])) _
      rw [show G3 f p3 = (3 : Int32) from by unfold G3; rw [if_pos hc1, if_pos hc2]] at hr
      exact retI X0 hx hret (hb hby d2_43) hr
    · refine XS.icmpYes X0.here hx rfl (pc0 := 24) (pc' := 35) rfl (hb hby d2_24) rfl (flt hc2).2.1 (by decide) (by decide) ?_
      show Steps p.tables e below (T0.setTop (mkF m 35 #[.val (.ref a1), .val (.int (3 : Int32)), .val (.int p3), .val (.int (2 : Int32)), .val (.int (3 : Int32)), .val (.int (2 : Int32))] [])) _
      refine XS.iload X0.here hx rfl (hb hby d2_35) rfl ?_
      show Steps p.tables e below (T0.setTop (mkF m 37 #[.val (.ref a1), .val (.int (3 : Int32)), .val (.int p3), .val (.int (2 : Int32)), .val (.int (3 : Int32)), .val (.int (2 : Int32))] [(.int (2 : Int32))])) _
      refine XS.istore X0.here hx rfl (hb hby d2_37) rfl (l' := #[.val (.ref a1), .val (.int (3 : Int32)), .val (.int p3), .val (.int (2 : Int32)), .val (.int (2 : Int32)), .val (.int (2 : Int32))]) rfl ?_
      show Steps p.tables e below (T0.setTop (mkF m 39 #[.val (.ref a1), .val (.int (3 : Int32)), .val (.int p3), .val (.int (2 : Int32)), .val (.int (2 : Int32)), .val (.int (2 : Int32))] [])) _
      refine XS.goto X0.here hx rfl (pc0 := 39) (pc' := 5) rfl (hb hby d2_39) (by decide) (by decide) ?_
      show Steps p.tables e below (T0.setTop (mkF m 5 #[.val (.ref a1), .val (.int (3 : Int32)), .val (.int p3), .val (.int (2 : Int32)), .val (.int (2 : Int32)), .val (.int (2 : Int32))] [])) _
      refine XS.iloadN X0.here hx rfl (hb hby d2_5) rfl ?_
      show Steps p.tables e below (T0.setTop (mkF m 6 #[.val (.ref a1), .val (.int (3 : Int32)), .val (.int p3), .val (.int (2 : Int32)), .val (.int (2 : Int32)), .val (.int (2 : Int32))] [(.int (2 : Int32))])) _
      refine XS.iload X0.here hx rfl (hb hby d2_6) rfl ?_
      show Steps p.tables e below (T0.setTop (mkF m 8 #[.val (.ref a1), .val (.int (3 : Int32)), .val (.int p3), .val (.int (2 : Int32)), .val (.int (2 : Int32)), .val (.int (2 : Int32))] [(.int (2 : Int32)), (.int (2 : Int32))])) _
      refine XS.icmpYes X0.here hx rfl (pc0 := 8) (pc' := 42) rfl (hb hby d2_8) rfl (flt (by decide : ¬ ((2 : Int32) < (2 : Int32)))).2.1 (by decide) (by decide) ?_
      show Steps p.tables e below (T0.setTop (mkF m 42 #[.val (.ref a1), .val (.int (3 : Int32)), .val (.int p3), .val (.int (2 : Int32)), .val (.int (2 : Int32)), .val (.int (2 : Int32))] [])) _
      refine XS.iloadN X0.here hx rfl (hb hby d2_42) rfl ?_
      show Steps p.tables e below (T0.setTop (mkF m 43 #[.val (.ref a1), .val (.int (3 : Int32)), .val (.int p3), .val (.int (2 : Int32)), .val (.int (2 : Int32)), .val (.int (2 : Int32))] [(.int (2 : Int32))])) _
      rw [show G3 f p3 = (2 : Int32) from by unfold G3; rw [if_pos hc1, if_neg hc2]] at hr
      exact retI X0 hx hret (hb hby d2_43) hr
  · refine XS.icmpYes X0.here hx rfl (pc0 := 24) (pc' := 35) rfl (hb hby d2_24) rfl (flt hc1).2.1 (by decide) (by decide) ?_
    show Steps p.tables e below (T0.setTop (mkF m 35 #[.val (.ref a1), .val (.int (3 : Int32)), .val (.int p3), .val (.int (0 : Int32)), .val (.int (3 : Int32)), .val (.int (1 : Int32))] [])) _
    refine XS.iload X0.here hx rfl (hb hby d2_35) rfl ?_
    show Steps p.tables e below (T0.setTop (mkF m 37 #[.val (.ref a1), .val (.int (3 : Int32)), .val (.int p3), .val (.int (0 : Int32)), .val (.int (3 : Int32)), .val (.int (1 : Int32))] [(.int (1 : Int32))])) _
    refine XS.istore X0.here hx rfl (hb hby d2_37) rfl (l' := #[.val (.ref a1), .val (.int (3 : Int32)), .val (.int p3), .val (.int (0 : Int32)), .val (.int (1 : Int32)), .val (.int (1 : Int32))]) rfl ?_
    show Steps p.tables e below (T0.setTop (mkF m 39 #[.val (.ref a1), .val (.int (3 : Int32)), .val (.int p3), .val (.int (0 : Int32)), .val (.int (1 : Int32)), .val (.int (1 : Int32))] [])) _
    refine XS.goto X0.here hx rfl (pc0 := 39) (pc' := 5) rfl (hb hby d2_39) (by decide) (by decide) ?_
    show Steps p.tables e below (T0.setTop (mkF m 5 #[.val (.ref a1), .val (.int (3 : Int32)), .val (.int p3), .val (.int (0 : Int32)), .val (.int (1 : Int32)), .val (.int (1 : Int32))] [])) _
    refine XS.iloadN X0.here hx rfl (hb hby d2_5) rfl ?_
    show Steps p.tables e below (T0.setTop (mkF m 6 #[.val (.ref a1), .val (.int (3 : Int32)), .val (.int p3), .val (.int (0 : Int32)), .val (.int (1 : Int32)), .val (.int (1 : Int32))] [(.int (0 : Int32))])) _
    refine XS.iload X0.here hx rfl (hb hby d2_6) rfl ?_
    show Steps p.tables e below (T0.setTop (mkF m 8 #[.val (.ref a1), .val (.int (3 : Int32)), .val (.int p3), .val (.int (0 : Int32)), .val (.int (1 : Int32)), .val (.int (1 : Int32))] [(.int (1 : Int32)), (.int (0 : Int32))])) _
    refine XS.icmpNo X0.here hx rfl (hb hby d2_8) rfl (tlt (by decide : (0 : Int32) < (1 : Int32))).2.1 ?_
    show Steps p.tables e below (T0.setTop (mkF m 11 #[.val (.ref a1), .val (.int (3 : Int32)), .val (.int p3), .val (.int (0 : Int32)), .val (.int (1 : Int32)), .val (.int (1 : Int32))] [])) _
    refine XS.iloadN X0.here hx rfl (hb hby d2_11) rfl ?_
    show Steps p.tables e below (T0.setTop (mkF m 12 #[.val (.ref a1), .val (.int (3 : Int32)), .val (.int p3), .val (.int (0 : Int32)), .val (.int (1 : Int32)), .val (.int (1 : Int32))] [(.int (0 : Int32))])) _
    refine XS.iload X0.here hx rfl (hb hby d2_12) rfl ?_
    show Steps p.tables e below (T0.setTop (mkF m 14 #[.val (.ref a1), .val (.int (3 : Int32)), .val (.int p3), .val (.int (0 : Int32)), .val (.int (1 : Int32)), .val (.int (1 : Int32))] [(.int (1 : Int32)), (.int (0 : Int32))])) _
    refine XS.iadd X0.here hx rfl (hb hby d2_14) rfl ?_
    show Steps p.tables e below (T0.setTop (mkF m 15 #[.val (.ref a1), .val (.int (3 : Int32)), .val (.int p3), .val (.int (0 : Int32)), .val (.int (1 : Int32)), .val (.int (1 : Int32))] [(.int (1 : Int32))])) _
    refine XS.iconst X0.here hx rfl (hb hby d2_15) ?_
    show Steps p.tables e below (T0.setTop (mkF m 16 #[.val (.ref a1), .val (.int (3 : Int32)), .val (.int p3), .val (.int (0 : Int32)), .val (.int (1 : Int32)), .val (.int (1 : Int32))] [(.int (1 : Int32)), (.int (1 : Int32))])) _
    refine XS.iushr X0.here hx rfl (hb hby d2_16) rfl ?_
    show Steps p.tables e below (T0.setTop (mkF m 17 #[.val (.ref a1), .val (.int (3 : Int32)), .val (.int p3), .val (.int (0 : Int32)), .val (.int (1 : Int32)), .val (.int (1 : Int32))] [(.int (0 : Int32))])) _
    refine XS.istore X0.here hx rfl (hb hby d2_17) rfl (l' := #[.val (.ref a1), .val (.int (3 : Int32)), .val (.int p3), .val (.int (0 : Int32)), .val (.int (1 : Int32)), .val (.int (0 : Int32))]) rfl ?_
    show Steps p.tables e below (T0.setTop (mkF m 19 #[.val (.ref a1), .val (.int (3 : Int32)), .val (.int p3), .val (.int (0 : Int32)), .val (.int (1 : Int32)), .val (.int (0 : Int32))] [])) _
    refine XS.aloadN X0.here hx rfl (hb hby d2_19) rfl rfl ?_
    show Steps p.tables e below (T0.setTop (mkF m 20 #[.val (.ref a1), .val (.int (3 : Int32)), .val (.int p3), .val (.int (0 : Int32)), .val (.int (1 : Int32)), .val (.int (0 : Int32))] [(.ref a1)])) _
    refine XS.iload X0.here hx rfl (hb hby d2_20) rfl ?_
    show Steps p.tables e below (T0.setTop (mkF m 22 #[.val (.ref a1), .val (.int (3 : Int32)), .val (.int p3), .val (.int (0 : Int32)), .val (.int (1 : Int32)), .val (.int (0 : Int32))] [(.int (0 : Int32)), (.ref a1)])) _
    refine own_get X0 hx hZ e0 A0 0 (by decide) (by decide) (by decide) (g := (mkF m 22 #[.val (.ref a1), .val (.int (3 : Int32)), .val (.int p3), .val (.int (0 : Int32)), .val (.int (1 : Int32)), .val (.int (0 : Int32))] [(.int (0 : Int32)), (.ref a1)])) rfl rfl (hb hby d2_22) _ ?_
    show Steps p.tables e below (T0.setTop (mkF m 23 #[.val (.ref a1), .val (.int (3 : Int32)), .val (.int p3), .val (.int (0 : Int32)), .val (.int (1 : Int32)), .val (.int (0 : Int32))] [(.int (f 0))])) _
    refine XS.iloadN X0.here hx rfl (hb hby d2_23) rfl ?_
    show Steps p.tables e below (T0.setTop (mkF m 24 #[.val (.ref a1), .val (.int (3 : Int32)), .val (.int p3), .val (.int (0 : Int32)), .val (.int (1 : Int32)), .val (.int (0 : Int32))] [(.int p3), (.int (f 0))])) _
    by_cases hc3 : (f 0) < p3
    · refine XS.icmpNo X0.here hx rfl (hb hby d2_24) rfl (tlt hc3).2.1 ?_
      show Steps p.tables e below (T0.setTop (mkF m 27 #[.val (.ref a1), .val (.int (3 : Int32)), .val (.int p3), .val (.int (0 : Int32)), .val (.int (1 : Int32)), .val (.int (0 : Int32))] [])) _
      refine XS.iload X0.here hx rfl (hb hby d2_27) rfl ?_
      show Steps p.tables e below (T0.setTop (mkF m 29 #[.val (.ref a1), .val (.int (3 : Int32)), .val (.int p3), .val (.int (0 : Int32)), .val (.int (1 : Int32)), .val (.int (0 : Int32))] [(.int (0 : Int32))])) _
      refine XS.iconst X0.here hx rfl (hb hby d2_29) ?_
      show Steps p.tables e below (T0.setTop (mkF m 30 #[.val (.ref a1), .val (.int (3 : Int32)), .val (.int p3), .val (.int (0 : Int32)), .val (.int (1 : Int32)), .val (.int (0 : Int32))] [(.int (1 : Int32)), (.int (0 : Int32))])) _
      refine XS.iadd X0.here hx rfl (hb hby d2_30) rfl ?_
      show Steps p.tables e below (T0.setTop (mkF m 31 #[.val (.ref a1), .val (.int (3 : Int32)), .val (.int p3), .val (.int (0 : Int32)), .val (.int (1 : Int32)), .val (.int (0 : Int32))] [(.int (1 : Int32))])) _
      refine XS.istoreN X0.here hx rfl (hb hby d2_31) rfl (l' := #[.val (.ref a1), .val (.int (3 : Int32)), .val (.int p3), .val (.int (1 : Int32)), .val (.int (1 : Int32)), .val (.int (0 : Int32))]) rfl ?_
      show Steps p.tables e below (T0.setTop (mkF m 32 #[.val (.ref a1), .val (.int (3 : Int32)), .val (.int p3), .val (.int (1 : Int32)), .val (.int (1 : Int32)), .val (.int (0 : Int32))] [])) _
      refine XS.goto X0.here hx rfl (pc0 := 32) (pc' := 39) rfl (hb hby d2_32) (by decide) (by decide) ?_
      show Steps p.tables e below (T0.setTop (mkF m 39 #[.val (.ref a1), .val (.int (3 : Int32)), .val (.int p3), .val (.int (1 : Int32)), .val (.int (1 : Int32)), .val (.int (0 : Int32))] [])) _
      refine XS.goto X0.here hx rfl (pc0 := 39) (pc' := 5) rfl (hb hby d2_39) (by decide) (by decide) ?_
      show Steps p.tables e below (T0.setTop (mkF m 5 #[.val (.ref a1), .val (.int (3 : Int32)), .val (.int p3), .val (.int (1 : Int32)), .val (.int (1 : Int32)), .val (.int (0 : Int32))] [])) _
      refine XS.iloadN X0.here hx rfl (hb hby d2_5) rfl ?_
      show Steps p.tables e below (T0.setTop (mkF m 6 #[.val (.ref a1), .val (.int (3 : Int32)), .val (.int p3), .val (.int (1 : Int32)), .val (.int (1 : Int32)), .val (.int (0 : Int32))] [(.int (1 : Int32))])) _
      refine XS.iload X0.here hx rfl (hb hby d2_6) rfl ?_
      show Steps p.tables e below (T0.setTop (mkF m 8 #[.val (.ref a1), .val (.int (3 : Int32)), .val (.int p3), .val (.int (1 : Int32)), .val (.int (1 : Int32)), .val (.int (0 : Int32))] [(.int (1 : Int32)), (.int (1 : Int32))])) _
      refine XS.icmpYes X0.here hx rfl (pc0 := 8) (pc' := 42) rfl (hb hby d2_8) rfl (flt (by decide : ¬ ((1 : Int32) < (1 : Int32)))).2.1 (by decide) (by decide) ?_
      show Steps p.tables e below (T0.setTop (mkF m 42 #[.val (.ref a1), .val (.int (3 : Int32)), .val (.int p3), .val (.int (1 : Int32)), .val (.int (1 : Int32)), .val (.int (0 : Int32))] [])) _
      refine XS.iloadN X0.here hx rfl (hb hby d2_42) rfl ?_
      show Steps p.tables e below (T0.setTop (mkF m 43 #[.val (.ref a1), .val (.int (3 : Int32)), .val (.int p3), .val (.int (1 : Int32)), .val (.int (1 : Int32)), .val (.int (0 : Int32))] [(.int (1 : Int32))])) _
      rw [show G3 f p3 = (1 : Int32) from by unfold G3; rw [if_neg hc1, if_pos hc3]] at hr
      exact retI X0 hx hret (hb hby d2_43) hr
    · refine XS.icmpYes X0.here hx rfl (pc0 := 24) (pc' := 35) rfl (hb hby d2_24) rfl (flt hc3).2.1 (by decide) (by decide) ?_
      show Steps p.tables e below (T0.setTop (mkF m 35 #[.val (.ref a1), .val (.int (3 : Int32)), .val (.int p3), .val (.int (0 : Int32)), .val (.int (1 : Int32)), .val (.int (0 : Int32))] [])) _
      refine XS.iload X0.here hx rfl (hb hby d2_35) rfl ?_
      show Steps p.tables e below (T0.setTop (mkF m 37 #[.val (.ref a1), .val (.int (3 : Int32)), .val (.int p3), .val (.int (0 : Int32)), .val (.int (1 : Int32)), .val (.int (0 : Int32))] [(.int (0 : Int32))])) _
      refine XS.istore X0.here hx rfl (hb hby d2_37) rfl (l' := #[.val (.ref a1), .val (.int (3 : Int32)), .val (.int p3), .val (.int (0 : Int32)), .val (.int (0 : Int32)), .val (.int (0 : Int32))]) rfl ?_
      show Steps p.tables e below (T0.setTop (mkF m 39 #[.val (.ref a1), .val (.int (3 : Int32)), .val (.int p3), .val (.int (0 : Int32)), .val (.int (0 : Int32)), .val (.int (0 : Int32))] [])) _
      refine XS.goto X0.here hx rfl (pc0 := 39) (pc' := 5) rfl (hb hby d2_39) (by decide) (by decide) ?_
      show Steps p.tables e below (T0.setTop (mkF m 5 #[.val (.ref a1), .val (.int (3 : Int32)), .val (.int p3), .val (.int (0 : Int32)), .val (.int (0 : Int32)), .val (.int (0 : Int32))] [])) _
      refine XS.iloadN X0.here hx rfl (hb hby d2_5) rfl ?_
      show Steps p.tables e below (T0.setTop (mkF m 6 #[.val (.ref a1), .val (.int (3 : Int32)), .val (.int p3), .val (.int (0 : Int32)), .val (.int (0 : Int32)), .val (.int (0 : Int32))] [(.int (0 : Int32))])) _
      refine XS.iload X0.here hx rfl (hb hby d2_6) rfl ?_
      show Steps p.tables e below (T0.setTop (mkF m 8 #[.val (.ref a1), .val (.int (3 : Int32)), .val (.int p3), .val (.int (0 : Int32)), .val (.int (0 : Int32)), .val (.int (0 : Int32))] [(.int (0 : Int32)), (.int (0 : Int32))])) _
      refine XS.icmpYes X0.here hx rfl (pc0 := 8) (pc' := 42) rfl (hb hby d2_8) rfl (flt (by decide : ¬ ((0 : Int32) < (0 : Int32)))).2.1 (by decide) (by decide) ?_
      show Steps p.tables e below (T0.setTop (mkF m 42 #[.val (.ref a1), .val (.int (3 : Int32)), .val (.int p3), .val (.int (0 : Int32)), .val (.int (0 : Int32)), .val (.int (0 : Int32))] [])) _
      refine XS.iloadN X0.here hx rfl (hb hby d2_42) rfl ?_
      show Steps p.tables e below (T0.setTop (mkF m 43 #[.val (.ref a1), .val (.int (3 : Int32)), .val (.int p3), .val (.int (0 : Int32)), .val (.int (0 : Int32)), .val (.int (0 : Int32))] [(.int (0 : Int32))])) _
      rw [show G3 f p3 = (0 : Int32) from by unfold G3; rw [if_neg hc1, if_neg hc3]] at hr
      exact retI X0 hx hret (hb hby d2_43) hr
def G4 (f : Nat → Int32) (p3 : Int32) : Int32 := (if (f 2) < p3 then (if (f 3) < p3 then (4 : Int32) else (3 : Int32)) else (if (f 1) < p3 then (2 : Int32) else (if (f 0) < p3 then (1 : Int32) else (0 : Int32))))
set_option maxRecDepth 65536 in
set_option maxHeartbeats 40000000 in
theorem fa_4 {p : Program} {l : Launch} {e : Env} {R : Room} {s : State} {m : MethodId} {args : Array Value} {below : List Frame} {meth : Method} {c : Code} {T0 : State} {locs : List Loc} {cells slots : Nat} {Z : State} {h0 : Heap} (a1 : Addr) (p3 : Int32) (f : Nat → Int32)
    (X0 : Stand p l e R s m args below meth c T0 locs cells slots) (hx : p.tables.exec = Jvm.exec) (hZ : Z.Warmed39 s.vm) (e0 : T0.heap = h0) (A0 : own_A Z h0 a1 4 f) (hby : c.code = prog_110_method_40_code) (hret : meth.sig.returnType = some .int) {fs : List Frame}
    (hr : ∀ (f' : JFrame) (acts : List Action), f'.method = m → f'.locked = none → f'.entered = [] → (doReturn e (T0.setTop f') acts (some (.int (G4 f p3)))).1 = T0.setFrames fs) :
    Steps p.tables e below (T0.setTop (mkF m 0 #[.val (.ref a1), .val (.int (4 : Int32)), .val (.int p3), .unset, .unset, .unset] [])) (T0.setFrames fs) := by
  show Steps p.tables e below (T0.setTop (mkF m 0 #[.val (.ref a1), .val (.int (4 : Int32)), .val (.int p3), .unset, .unset, .unset] [])) _
  refine XS.iconst X0.here hx rfl (hb hby d2_0) ?_
  show Steps p.tables e below (T0.setTop (mkF m 1 #[.val (.ref a1), .val (.int (4 : Int32)), .val (.int p3), .unset, .unset, .unset] [(.int (0 : Int32))])) _
  refine XS.istoreN X0.here hx rfl (hb hby d2_1) rfl (l' := #[.val (.ref a1), .val (.int (4 : Int32)), .val (.int p3), .val (.int (0 : Int32)), .unset, .unset]) rfl ?_
  show Steps p.tables e below (T0.setTop (mkF m 2 #[.val (.ref a1), .val (.int (4 : Int32)), .val (.int p3), .val (.int (0 : Int32)), .unset, .unset] [])) _
  refine XS.iloadN X0.here hx rfl (hb hby d2_2) rfl ?_
  show Steps p.tables e below (T0.setTop (mkF m 3 #[.val (.ref a1), .val (.int (4 : Int32)), .val (.int p3), .val (.int (0 : Int32)), .unset, .unset] [(.int (4 : Int32))])) _
  refine XS.istore X0.here hx rfl (hb hby d2_3) rfl (l' := #[.val (.ref a1), .val (.int (4 : Int32)), .val (.int p3), .val (.int (0 : Int32)), .val (.int (4 : Int32)), .unset]) rfl ?_
  show Steps p.tables e below (T0.setTop (mkF m 5 #[.val (.ref a1), .val (.int (4 : Int32)), .val (.int p3), .val (.int (0 : Int32)), .val (.int (4 : Int32)), .unset] [])) _
  refine XS.iloadN X0.here hx rfl (hb hby d2_5) rfl ?_
  show Steps p.tables e below (T0.setTop (mkF m 6 #[.val (.ref a1), .val (.int (4 : Int32)), .val (.int p3), .val (.int (0 : Int32)), .val (.int (4 : Int32)), .unset] [(.int (0 : Int32))])) _
  refine XS.iload X0.here hx rfl (hb hby d2_6) rfl ?_
  show Steps p.tables e below (T0.setTop (mkF m 8 #[.val (.ref a1), .val (.int (4 : Int32)), .val (.int p3), .val (.int (0 : Int32)), .val (.int (4 : Int32)), .unset] [(.int (4 : Int32)), (.int (0 : Int32))])) _
  refine XS.icmpNo X0.here hx rfl (hb hby d2_8) rfl (tlt (by decide : (0 : Int32) < (4 : Int32))).2.1 ?_
  show Steps p.tables e below (T0.setTop (mkF m 11 #[.val (.ref a1), .val (.int (4 : Int32)), .val (.int p3), .val (.int (0 : Int32)), .val (.int (4 : Int32)), .unset] [])) _
  refine XS.iloadN X0.here hx rfl (hb hby d2_11) rfl ?_
  show Steps p.tables e below (T0.setTop (mkF m 12 #[.val (.ref a1), .val (.int (4 : Int32)), .val (.int p3), .val (.int (0 : Int32)), .val (.int (4 : Int32)), .unset] [(.int (0 : Int32))])) _
  refine XS.iload X0.here hx rfl (hb hby d2_12) rfl ?_
  show Steps p.tables e below (T0.setTop (mkF m 14 #[.val (.ref a1), .val (.int (4 : Int32)), .val (.int p3), .val (.int (0 : Int32)), .val (.int (4 : Int32)), .unset] [(.int (4 : Int32)), (.int (0 : Int32))])) _
  refine XS.iadd X0.here hx rfl (hb hby d2_14) rfl ?_
  show Steps p.tables e below (T0.setTop (mkF m 15 #[.val (.ref a1), .val (.int (4 : Int32)), .val (.int p3), .val (.int (0 : Int32)), .val (.int (4 : Int32)), .unset] [(.int (4 : Int32))])) _
  refine XS.iconst X0.here hx rfl (hb hby d2_15) ?_
  show Steps p.tables e below (T0.setTop (mkF m 16 #[.val (.ref a1), .val (.int (4 : Int32)), .val (.int p3), .val (.int (0 : Int32)), .val (.int (4 : Int32)), .unset] [(.int (1 : Int32)), (.int (4 : Int32))])) _
  refine XS.iushr X0.here hx rfl (hb hby d2_16) rfl ?_
  show Steps p.tables e below (T0.setTop (mkF m 17 #[.val (.ref a1), .val (.int (4 : Int32)), .val (.int p3), .val (.int (0 : Int32)), .val (.int (4 : Int32)), .unset] [(.int (2 : Int32))])) _
  refine XS.istore X0.here hx rfl (hb hby d2_17) rfl (l' := #[.val (.ref a1), .val (.int (4 : Int32)), .val (.int p3), .val (.int (0 : Int32)), .val (.int (4 : Int32)), .val (.int (2 : Int32))]) rfl ?_
  show Steps p.tables e below (T0.setTop (mkF m 19 #[.val (.ref a1), .val (.int (4 : Int32)), .val (.int p3), .val (.int (0 : Int32)), .val (.int (4 : Int32)), .val (.int (2 : Int32))] [])) _
  refine XS.aloadN X0.here hx rfl (hb hby d2_19) rfl rfl ?_
  show Steps p.tables e below (T0.setTop (mkF m 20 #[.val (.ref a1), .val (.int (4 : Int32)), .val (.int p3), .val (.int (0 : Int32)), .val (.int (4 : Int32)), .val (.int (2 : Int32))] [(.ref a1)])) _
  refine XS.iload X0.here hx rfl (hb hby d2_20) rfl ?_
  show Steps p.tables e below (T0.setTop (mkF m 22 #[.val (.ref a1), .val (.int (4 : Int32)), .val (.int p3), .val (.int (0 : Int32)), .val (.int (4 : Int32)), .val (.int (2 : Int32))] [(.int (2 : Int32)), (.ref a1)])) _
  refine own_get X0 hx hZ e0 A0 2 (by decide) (by decide) (by decide) (g := (mkF m 22 #[.val (.ref a1), .val (.int (4 : Int32)), .val (.int p3), .val (.int (0 : Int32)), .val (.int (4 : Int32)), .val (.int (2 : Int32))] [(.int (2 : Int32)), (.ref a1)])) rfl rfl (hb hby d2_22) _ ?_
  show Steps p.tables e below (T0.setTop (mkF m 23 #[.val (.ref a1), .val (.int (4 : Int32)), .val (.int p3), .val (.int (0 : Int32)), .val (.int (4 : Int32)), .val (.int (2 : Int32))] [(.int (f 2))])) _
  refine XS.iloadN X0.here hx rfl (hb hby d2_23) rfl ?_
  show Steps p.tables e below (T0.setTop (mkF m 24 #[.val (.ref a1), .val (.int (4 : Int32)), .val (.int p3), .val (.int (0 : Int32)), .val (.int (4 : Int32)), .val (.int (2 : Int32))] [(.int p3), (.int (f 2))])) _
  by_cases hc1 : (f 2) < p3
  · refine XS.icmpNo X0.here hx rfl (hb hby d2_24) rfl (tlt hc1).2.1 ?_
    show Steps p.tables e below (T0.setTop (mkF m 27 #[.val (.ref a1), .val (.int (4 : Int32)), .val (.int p3), .val (.int (0 : Int32)), .val (.int (4 : Int32)), .val (.int (2 : Int32))] [])) _
    refine XS.iload X0.here hx rfl (hb hby d2_27) rfl ?_
    show Steps p.tables e below (T0.setTop (mkF m 29 #[.val (.ref a1), .val (.int (4 : Int32)), .val (.int p3), .val (.int (0 : Int32)), .val (.int (4 : Int32)), .val (.int (2 : Int32))] [(.int (2 : Int32))])) _
    refine XS.iconst X0.here hx rfl (hb hby d2_29) ?_
    show Steps p.tables e below (T0.setTop (mkF m 30 #[.val (.ref a1), .val (.int (4 : Int32)), .val (.int p3), .val (.int (0 : Int32)), .val (.int (4 : Int32)), .val (.int (2 : Int32))] [(.int (1 : Int32)), (.int (2 : Int32))])) _
    refine XS.iadd X0.here hx rfl (hb hby d2_30) rfl ?_
    show Steps p.tables e below (T0.setTop (mkF m 31 #[.val (.ref a1), .val (.int (4 : Int32)), .val (.int p3), .val (.int (0 : Int32)), .val (.int (4 : Int32)), .val (.int (2 : Int32))] [(.int (3 : Int32))])) _
    refine XS.istoreN X0.here hx rfl (hb hby d2_31) rfl (l' := #[.val (.ref a1), .val (.int (4 : Int32)), .val (.int p3), .val (.int (3 : Int32)), .val (.int (4 : Int32)), .val (.int (2 : Int32))]) rfl ?_
    show Steps p.tables e below (T0.setTop (mkF m 32 #[.val (.ref a1), .val (.int (4 : Int32)), .val (.int p3), .val (.int (3 : Int32)), .val (.int (4 : Int32)), .val (.int (2 : Int32))] [])) _
    refine XS.goto X0.here hx rfl (pc0 := 32) (pc' := 39) rfl (hb hby d2_32) (by decide) (by decide) ?_
    show Steps p.tables e below (T0.setTop (mkF m 39 #[.val (.ref a1), .val (.int (4 : Int32)), .val (.int p3), .val (.int (3 : Int32)), .val (.int (4 : Int32)), .val (.int (2 : Int32))] [])) _
    refine XS.goto X0.here hx rfl (pc0 := 39) (pc' := 5) rfl (hb hby d2_39) (by decide) (by decide) ?_
    show Steps p.tables e below (T0.setTop (mkF m 5 #[.val (.ref a1), .val (.int (4 : Int32)), .val (.int p3), .val (.int (3 : Int32)), .val (.int (4 : Int32)), .val (.int (2 : Int32))] [])) _
    refine XS.iloadN X0.here hx rfl (hb hby d2_5) rfl ?_
    show Steps p.tables e below (T0.setTop (mkF m 6 #[.val (.ref a1), .val (.int (4 : Int32)), .val (.int p3), .val (.int (3 : Int32)), .val (.int (4 : Int32)), .val (.int (2 : Int32))] [(.int (3 : Int32))])) _
    refine XS.iload X0.here hx rfl (hb hby d2_6) rfl ?_
    show Steps p.tables e below (T0.setTop (mkF m 8 #[.val (.ref a1), .val (.int (4 : Int32)), .val (.int p3), .val (.int (3 : Int32)), .val (.int (4 : Int32)), .val (.int (2 : Int32))] [(.int (4 : Int32)), (.int (3 : Int32))])) _
    refine XS.icmpNo X0.here hx rfl (hb hby d2_8) rfl (tlt (by decide : (3 : Int32) < (4 : Int32))).2.1 ?_
    show Steps p.tables e below (T0.setTop (mkF m 11 #[.val (.ref a1), .val (.int (4 : Int32)), .val (.int p3), .val (.int (3 : Int32)), .val (.int (4 : Int32)), .val (.int (2 : Int32))] [])) _
    refine XS.iloadN X0.here hx rfl (hb hby d2_11) rfl ?_
    show Steps p.tables e below (T0.setTop (mkF m 12 #[.val (.ref a1), .val (.int (4 : Int32)), .val (.int p3), .val (.int (3 : Int32)), .val (.int (4 : Int32)), .val (.int (2 : Int32))] [(.int (3 : Int32))])) _
    refine XS.iload X0.here hx rfl (hb hby d2_12) rfl ?_
    show Steps p.tables e below (T0.setTop (mkF m 14 #[.val (.ref a1), .val (.int (4 : Int32)), .val (.int p3), .val (.int (3 : Int32)), .val (.int (4 : Int32)), .val (.int (2 : Int32))] [(.int (4 : Int32)), (.int (3 : Int32))])) _
    refine XS.iadd X0.here hx rfl (hb hby d2_14) rfl ?_
    show Steps p.tables e below (T0.setTop (mkF m 15 #[.val (.ref a1), .val (.int (4 : Int32)), .val (.int p3), .val (.int (3 : Int32)), .val (.int (4 : Int32)), .val (.int (2 : Int32))] [(.int (7 : Int32))])) _
    refine XS.iconst X0.here hx rfl (hb hby d2_15) ?_
    show Steps p.tables e below (T0.setTop (mkF m 16 #[.val (.ref a1), .val (.int (4 : Int32)), .val (.int p3), .val (.int (3 : Int32)), .val (.int (4 : Int32)), .val (.int (2 : Int32))] [(.int (1 : Int32)), (.int (7 : Int32))])) _
    refine XS.iushr X0.here hx rfl (hb hby d2_16) rfl ?_
    show Steps p.tables e below (T0.setTop (mkF m 17 #[.val (.ref a1), .val (.int (4 : Int32)), .val (.int p3), .val (.int (3 : Int32)), .val (.int (4 : Int32)), .val (.int (2 : Int32))] [(.int (3 : Int32))])) _
    refine XS.istore X0.here hx rfl (hb hby d2_17) rfl (l' := #[.val (.ref a1), .val (.int (4 : Int32)), .val (.int p3), .val (.int (3 : Int32)), .val (.int (4 : Int32)), .val (.int (3 : Int32))]) rfl ?_
    show Steps p.tables e below (T0.setTop (mkF m 19 #[.val (.ref a1), .val (.int (4 : Int32)), .val (.int p3), .val (.int (3 : Int32)), .val (.int (4 : Int32)), .val (.int (3 : Int32))] [])) _
    refine XS.aloadN X0.here hx rfl (hb hby d2_19) rfl rfl ?_
    show Steps p.tables e below (T0.setTop (mkF m 20 #[.val (.ref a1), .val (.int (4 : Int32)), .val (.int p3), .val (.int (3 : Int32)), .val (.int (4 : Int32)), .val (.int (3 : Int32))] [(.ref a1)])) _
    refine XS.iload X0.here hx rfl (hb hby d2_20) rfl ?_
    show Steps p.tables e below (T0.setTop (mkF m 22 #[.val (.ref a1), .val (.int (4 : Int32)), .val (.int p3), .val (.int (3 : Int32)), .val (.int (4 : Int32)), .val (.int (3 : Int32))] [(.int (3 : Int32)), (.ref a1)])) _
    refine own_get X0 hx hZ e0 A0 3 (by decide) (by decide) (by decide) (g := (mkF m 22 #[.val (.ref a1), .val (.int (4 : Int32)), .val (.int p3), .val (.int (3 : Int32)), .val (.int (4 : Int32)), .val (.int (3 : Int32))] [(.int (3 : Int32)), (.ref a1)])) rfl rfl (hb hby d2_22) _ ?_
    show Steps p.tables e below (T0.setTop (mkF m 23 #[.val (.ref a1), .val (.int (4 : Int32)), .val (.int p3), .val (.int (3 : Int32)), .val (.int (4 : Int32)), .val (.int (3 : Int32))] [(.int (f 3))])) _
    refine XS.iloadN X0.here hx rfl (hb hby d2_23) rfl ?_
    show Steps p.tables e below (T0.setTop (mkF m 24 #[.val (.ref a1), .val (.int (4 : Int32)), .val (.int p3), .val (.int (3 : Int32)), .val (.int (4 : Int32)), .val (.int (3 : Int32))] [(.int p3), (.int (f 3))])) _
    by_cases hc2 : (f 3) < p3
    · refine XS.icmpNo X0.here hx rfl (hb hby d2_24) rfl (tlt hc2).2.1 ?_
      show Steps p.tables e below (T0.setTop (mkF m 27 #[.val (.ref a1), .val (.int (4 : Int32)), .val (.int p3), .val (.int (3 : Int32)), .val (.int (4 : Int32)), .val (.int (3 : Int32))] [])) _
      refine XS.iload X0.here hx rfl (hb hby d2_27) rfl ?_
      show Steps p.tables e below (T0.setTop (mkF m 29 #[.val (.ref a1), .val (.int (4 : Int32)), .val (.int p3), .val (.int (3 : Int32)), .val (.int (4 : Int32)), .val (.int (3 : Int32))] [(.int (3 : Int32))])) _
      refine XS.iconst X0.here hx rfl (hb hby d2_29) ?_
      show Steps p.tables e below (T0.setTop (mkF m 30 #[.val (.ref a1), .val (.int (4 : Int32)), .val (.int p3), .val (.int (3 : Int32)), .val (.int (4 : Int32)), .val (.int (3 : Int32))] [(.int (1 : Int32)), (.int (3 : Int32))])) _
      refine XS.iadd X0.here hx rfl (hb hby d2_30) rfl ?_
      show Steps p.tables e below (T0.setTop (mkF m 31 #[.val (.ref a1), .val (.int (4 : Int32)), .val (.int p3), .val (.int (3 : Int32)), .val (.int (4 : Int32)), .val (.int (3 : Int32))] [(.int (4 : Int32))])) _
      refine XS.istoreN X0.here hx rfl (hb hby d2_31) rfl (l' := #[.val (.ref a1), .val (.int (4 : Int32)), .val (.int p3), .val (.int (4 : Int32)), .val (.int (4 : Int32)), .val (.int (3 : Int32))]) rfl ?_
      show Steps p.tables e below (T0.setTop (mkF m 32 #[.val (.ref a1), .val (.int (4 : Int32)), .val (.int p3), .val (.int (4 : Int32)), .val (.int (4 : Int32)), .val (.int (3 : Int32))] [])) _
      refine XS.goto X0.here hx rfl (pc0 := 32) (pc' := 39) rfl (hb hby d2_32) (by decide) (by decide) ?_
      show Steps p.tables e below (T0.setTop (mkF m 39 #[.val (.ref a1), .val (.int (4 : Int32)), .val (.int p3), .val (.int (4 : Int32)), .val (.int (4 : Int32)), .val (.int (3 : Int32))] [])) _
      refine XS.goto X0.here hx rfl (pc0 := 39) (pc' := 5) rfl (hb hby d2_39) (by decide) (by decide) ?_
      show Steps p.tables e below (T0.setTop (mkF m 5 #[.val (.ref a1), .val (.int (4 : Int32)), .val (.int p3), .val (.int (4 : Int32)), .val (.int (4 : Int32)), .val (.int (3 : Int32))] [])) _
      refine XS.iloadN X0.here hx rfl (hb hby d2_5) rfl ?_
      show Steps p.tables e below (T0.setTop (mkF m 6 #[.val (.ref a1), .val (.int (4 : Int32)), .val (.int p3), .val (.int (4 : Int32)), .val (.int (4 : Int32)), .val (.int (3 : Int32))] [(.int (4 : Int32))])) _
      refine XS.iload X0.here hx rfl (hb hby d2_6) rfl ?_
      show Steps p.tables e below (T0.setTop (mkF m 8 #[.val (.ref a1), .val (.int (4 : Int32)), .val (.int p3), .val (.int (4 : Int32)), .val (.int (4 : Int32)), .val (.int (3 : Int32))] [(.int (4 : Int32)), (.int (4 : Int32))])) _
      refine XS.icmpYes X0.here hx rfl (pc0 := 8) (pc' := 42) rfl (hb hby d2_8) rfl (flt (by decide : ¬ ((4 : Int32) < (4 : Int32)))).2.1 (by decide) (by decide) ?_
      show Steps p.tables e below (T0.setTop (mkF m 42 #[.val (.ref a1), .val (.int (4 : Int32)), .val (.int p3), .val (.int (4 : Int32)), .val (.int (4 : Int32)), .val (.int (3 : Int32))] [])) _
      refine XS.iloadN X0.here hx rfl (hb hby d2_42) rfl ?_
      show Steps p.tables e below (T0.setTop (mkF m 43 #[.val (.ref a1), .val (.int (4 : Int32)), .val (.int p3), .val (.int (4 : Int32)), .val (.int (4 : Int32)), .val (.int (3 : Int32))] [(.int (4 : Int32))])) _
      rw [show G4 f p3 = (4 : Int32) from by unfold G4; rw [if_pos hc1, if_pos hc2]] at hr
      exact retI X0 hx hret (hb hby d2_43) hr
    · refine XS.icmpYes X0.here hx rfl (pc0 := 24) (pc' := 35) rfl (hb hby d2_24) rfl (flt hc2).2.1 (by decide) (by decide) ?_
      show Steps p.tables e below (T0.setTop (mkF m 35 #[.val (.ref a1), .val (.int (4 : Int32)), .val (.int p3), .val (.int (3 : Int32)), .val (.int (4 : Int32)), .val (.int (3 : Int32))] [])) _
      refine XS.iload X0.here hx rfl (hb hby d2_35) rfl ?_
      show Steps p.tables e below (T0.setTop (mkF m 37 #[.val (.ref a1), .val (.int (4 : Int32)), .val (.int p3), .val (.int (3 : Int32)), .val (.int (4 : Int32)), .val (.int (3 : Int32))] [(.int (3 : Int32))])) _
      refine XS.istore X0.here hx rfl (hb hby d2_37) rfl (l' := #[.val (.ref a1), .val (.int (4 : Int32)), .val (.int p3), .val (.int (3 : Int32)), .val (.int (3 : Int32)), .val (.int (3 : Int32))]) rfl ?_
      show Steps p.tables e below (T0.setTop (mkF m 39 #[.val (.ref a1), .val (.int (4 : Int32)), .val (.int p3), .val (.int (3 : Int32)), .val (.int (3 : Int32)), .val (.int (3 : Int32))] [])) _
      refine XS.goto X0.here hx rfl (pc0 := 39) (pc' := 5) rfl (hb hby d2_39) (by decide) (by decide) ?_
      show Steps p.tables e below (T0.setTop (mkF m 5 #[.val (.ref a1), .val (.int (4 : Int32)), .val (.int p3), .val (.int (3 : Int32)), .val (.int (3 : Int32)), .val (.int (3 : Int32))] [])) _
      refine XS.iloadN X0.here hx rfl (hb hby d2_5) rfl ?_
      show Steps p.tables e below (T0.setTop (mkF m 6 #[.val (.ref a1), .val (.int (4 : Int32)), .val (.int p3), .val (.int (3 : Int32)), .val (.int (3 : Int32)), .val (.int (3 : Int32))] [(.int (3 : Int32))])) _
      refine XS.iload X0.here hx rfl (hb hby d2_6) rfl ?_
      show Steps p.tables e below (T0.setTop (mkF m 8 #[.val (.ref a1), .val (.int (4 : Int32)), .val (.int p3), .val (.int (3 : Int32)), .val (.int (3 : Int32)), .val (.int (3 : Int32))] [(.int (3 : Int32)), (.int (3 : Int32))])) _
      refine XS.icmpYes X0.here hx rfl (pc0 := 8) (pc' := 42) rfl (hb hby d2_8) rfl (flt (by decide : ¬ ((3 : Int32) < (3 : Int32)))).2.1 (by decide) (by decide) ?_
      show Steps p.tables e below (T0.setTop (mkF m 42 #[.val (.ref a1), .val (.int (4 : Int32)), .val (.int p3), .val (.int (3 : Int32)), .val (.int (3 : Int32)), .val (.int (3 : Int32))] [])) _
      refine XS.iloadN X0.here hx rfl (hb hby d2_42) rfl ?_
      show Steps p.tables e below (T0.setTop (mkF m 43 #[.val (.ref a1), .val (.int (4 : Int32)), .val (.int p3), .val (.int (3 : Int32)), .val (.int (3 : Int32)), .val (.int (3 : Int32))] [(.int (3 : Int32))])) _
      rw [show G4 f p3 = (3 : Int32) from by unfold G4; rw [if_pos hc1, if_neg hc2]] at hr
      exact retI X0 hx hret (hb hby d2_43) hr
  · refine XS.icmpYes X0.here hx rfl (pc0 := 24) (pc' := 35) rfl (hb hby d2_24) rfl (flt hc1).2.1 (by decide) (by decide) ?_
    show Steps p.tables e below (T0.setTop (mkF m 35 #[.val (.ref a1), .val (.int (4 : Int32)), .val (.int p3), .val (.int (0 : Int32)), .val (.int (4 : Int32)), .val (.int (2 : Int32))] [])) _
    refine XS.iload X0.here hx rfl (hb hby d2_35) rfl ?_
    show Steps p.tables e below (T0.setTop (mkF m 37 #[.val (.ref a1), .val (.int (4 : Int32)), .val (.int p3), .val (.int (0 : Int32)), .val (.int (4 : Int32)), .val (.int (2 : Int32))] [(.int (2 : Int32))])) _
    refine XS.istore X0.here hx rfl (hb hby d2_37) rfl (l' := #[.val (.ref a1), .val (.int (4 : Int32)), .val (.int p3), .val (.int (0 : Int32)), .val (.int (2 : Int32)), .val (.int (2 : Int32))]) rfl ?_
    show Steps p.tables e below (T0.setTop (mkF m 39 #[.val (.ref a1), .val (.int (4 : Int32)), .val (.int p3), .val (.int (0 : Int32)), .val (.int (2 : Int32)), .val (.int (2 : Int32))] [])) _
    refine XS.goto X0.here hx rfl (pc0 := 39) (pc' := 5) rfl (hb hby d2_39) (by decide) (by decide) ?_
    show Steps p.tables e below (T0.setTop (mkF m 5 #[.val (.ref a1), .val (.int (4 : Int32)), .val (.int p3), .val (.int (0 : Int32)), .val (.int (2 : Int32)), .val (.int (2 : Int32))] [])) _
    refine XS.iloadN X0.here hx rfl (hb hby d2_5) rfl ?_
    show Steps p.tables e below (T0.setTop (mkF m 6 #[.val (.ref a1), .val (.int (4 : Int32)), .val (.int p3), .val (.int (0 : Int32)), .val (.int (2 : Int32)), .val (.int (2 : Int32))] [(.int (0 : Int32))])) _
    refine XS.iload X0.here hx rfl (hb hby d2_6) rfl ?_
    show Steps p.tables e below (T0.setTop (mkF m 8 #[.val (.ref a1), .val (.int (4 : Int32)), .val (.int p3), .val (.int (0 : Int32)), .val (.int (2 : Int32)), .val (.int (2 : Int32))] [(.int (2 : Int32)), (.int (0 : Int32))])) _
    refine XS.icmpNo X0.here hx rfl (hb hby d2_8) rfl (tlt (by decide : (0 : Int32) < (2 : Int32))).2.1 ?_
    show Steps p.tables e below (T0.setTop (mkF m 11 #[.val (.ref a1), .val (.int (4 : Int32)), .val (.int p3), .val (.int (0 : Int32)), .val (.int (2 : Int32)), .val (.int (2 : Int32))] [])) _
    refine XS.iloadN X0.here hx rfl (hb hby d2_11) rfl ?_
    show Steps p.tables e below (T0.setTop (mkF m 12 #[.val (.ref a1), .val (.int (4 : Int32)), .val (.int p3), .val (.int (0 : Int32)), .val (.int (2 : Int32)), .val (.int (2 : Int32))] [(.int (0 : Int32))])) _
    refine XS.iload X0.here hx rfl (hb hby d2_12) rfl ?_
    show Steps p.tables e below (T0.setTop (mkF m 14 #[.val (.ref a1), .val (.int (4 : Int32)), .val (.int p3), .val (.int (0 : Int32)), .val (.int (2 : Int32)), .val (.int (2 : Int32))] [(.int (2 : Int32)), (.int (0 : Int32))])) _
    refine XS.iadd X0.here hx rfl (hb hby d2_14) rfl ?_
    show Steps p.tables e below (T0.setTop (mkF m 15 #[.val (.ref a1), .val (.int (4 : Int32)), .val (.int p3), .val (.int (0 : Int32)), .val (.int (2 : Int32)), .val (.int (2 : Int32))] [(.int (2 : Int32))])) _
    refine XS.iconst X0.here hx rfl (hb hby d2_15) ?_
    show Steps p.tables e below (T0.setTop (mkF m 16 #[.val (.ref a1), .val (.int (4 : Int32)), .val (.int p3), .val (.int (0 : Int32)), .val (.int (2 : Int32)), .val (.int (2 : Int32))] [(.int (1 : Int32)), (.int (2 : Int32))])) _
    refine XS.iushr X0.here hx rfl (hb hby d2_16) rfl ?_
    show Steps p.tables e below (T0.setTop (mkF m 17 #[.val (.ref a1), .val (.int (4 : Int32)), .val (.int p3), .val (.int (0 : Int32)), .val (.int (2 : Int32)), .val (.int (2 : Int32))] [(.int (1 : Int32))])) _
    refine XS.istore X0.here hx rfl (hb hby d2_17) rfl (l' := #[.val (.ref a1), .val (.int (4 : Int32)), .val (.int p3), .val (.int (0 : Int32)), .val (.int (2 : Int32)), .val (.int (1 : Int32))]) rfl ?_
    show Steps p.tables e below (T0.setTop (mkF m 19 #[.val (.ref a1), .val (.int (4 : Int32)), .val (.int p3), .val (.int (0 : Int32)), .val (.int (2 : Int32)), .val (.int (1 : Int32))] [])) _
    refine XS.aloadN X0.here hx rfl (hb hby d2_19) rfl rfl ?_
    show Steps p.tables e below (T0.setTop (mkF m 20 #[.val (.ref a1), .val (.int (4 : Int32)), .val (.int p3), .val (.int (0 : Int32)), .val (.int (2 : Int32)), .val (.int (1 : Int32))] [(.ref a1)])) _
    refine XS.iload X0.here hx rfl (hb hby d2_20) rfl ?_
    show Steps p.tables e below (T0.setTop (mkF m 22 #[.val (.ref a1), .val (.int (4 : Int32)), .val (.int p3), .val (.int (0 : Int32)), .val (.int (2 : Int32)), .val (.int (1 : Int32))] [(.int (1 : Int32)), (.ref a1)])) _
    refine own_get X0 hx hZ e0 A0 1 (by decide) (by decide) (by decide) (g := (mkF m 22 #[.val (.ref a1), .val (.int (4 : Int32)), .val (.int p3), .val (.int (0 : Int32)), .val (.int (2 : Int32)), .val (.int (1 : Int32))] [(.int (1 : Int32)), (.ref a1)])) rfl rfl (hb hby d2_22) _ ?_
    show Steps p.tables e below (T0.setTop (mkF m 23 #[.val (.ref a1), .val (.int (4 : Int32)), .val (.int p3), .val (.int (0 : Int32)), .val (.int (2 : Int32)), .val (.int (1 : Int32))] [(.int (f 1))])) _
    refine XS.iloadN X0.here hx rfl (hb hby d2_23) rfl ?_
    show Steps p.tables e below (T0.setTop (mkF m 24 #[.val (.ref a1), .val (.int (4 : Int32)), .val (.int p3), .val (.int (0 : Int32)), .val (.int (2 : Int32)), .val (.int (1 : Int32))] [(.int p3), (.int (f 1))])) _
    by_cases hc3 : (f 1) < p3
    · refine XS.icmpNo X0.here hx rfl (hb hby d2_24) rfl (tlt hc3).2.1 ?_
      show Steps p.tables e below (T0.setTop (mkF m 27 #[.val (.ref a1), .val (.int (4 : Int32)), .val (.int p3), .val (.int (0 : Int32)), .val (.int (2 : Int32)), .val (.int (1 : Int32))] [])) _
      refine XS.iload X0.here hx rfl (hb hby d2_27) rfl ?_
      show Steps p.tables e below (T0.setTop (mkF m 29 #[.val (.ref a1), .val (.int (4 : Int32)), .val (.int p3), .val (.int (0 : Int32)), .val (.int (2 : Int32)), .val (.int (1 : Int32))] [(.int (1 : Int32))])) _
      refine XS.iconst X0.here hx rfl (hb hby d2_29) ?_
      show Steps p.tables e below (T0.setTop (mkF m 30 #[.val (.ref a1), .val (.int (4 : Int32)), .val (.int p3), .val (.int (0 : Int32)), .val (.int (2 : Int32)), .val (.int (1 : Int32))] [(.int (1 : Int32)), (.int (1 : Int32))])) _
      refine XS.iadd X0.here hx rfl (hb hby d2_30) rfl ?_
      show Steps p.tables e below (T0.setTop (mkF m 31 #[.val (.ref a1), .val (.int (4 : Int32)), .val (.int p3), .val (.int (0 : Int32)), .val (.int (2 : Int32)), .val (.int (1 : Int32))] [(.int (2 : Int32))])) _
      refine XS.istoreN X0.here hx rfl (hb hby d2_31) rfl (l' := #[.val (.ref a1), .val (.int (4 : Int32)), .val (.int p3), .val (.int (2 : Int32)), .val (.int (2 : Int32)), .val (.int (1 : Int32))]) rfl ?_
      show Steps p.tables e below (T0.setTop (mkF m 32 #[.val (.ref a1), .val (.int (4 : Int32)), .val (.int p3), .val (.int (2 : Int32)), .val (.int (2 : Int32)), .val (.int (1 : Int32))] [])) _
      refine XS.goto X0.here hx rfl (pc0 := 32) (pc' := 39) rfl (hb hby d2_32) (by decide) (by decide) ?_
      show Steps p.tables e below (T0.setTop (mkF m 39 #[.val (.ref a1), .val (.int (4 : Int32)), .val (.int p3), .val (.int (2 : Int32)), .val (.int (2 : Int32)), .val (.int (1 : Int32))] [])) _
      refine XS.goto X0.here hx rfl (pc0 := 39) (pc' := 5) rfl (hb hby d2_39) (by decide) (by decide) ?_
      show Steps p.tables e below (T0.setTop (mkF m 5 #[.val (.ref a1), .val (.int (4 : Int32)), .val (.int p3), .val (.int (2 : Int32)), .val (.int (2 : Int32)), .val (.int (1 : Int32))] [])) _
      refine XS.iloadN X0.here hx rfl (hb hby d2_5) rfl ?_
      show Steps p.tables e below (T0.setTop (mkF m 6 #[.val (.ref a1), .val (.int (4 : Int32)), .val (.int p3), .val (.int (2 : Int32)), .val (.int (2 : Int32)), .val (.int (1 : Int32))] [(.int (2 : Int32))])) _
      refine XS.iload X0.here hx rfl (hb hby d2_6) rfl ?_
      show Steps p.tables e below (T0.setTop (mkF m 8 #[.val (.ref a1), .val (.int (4 : Int32)), .val (.int p3), .val (.int (2 : Int32)), .val (.int (2 : Int32)), .val (.int (1 : Int32))] [(.int (2 : Int32)), (.int (2 : Int32))])) _
      refine XS.icmpYes X0.here hx rfl (pc0 := 8) (pc' := 42) rfl (hb hby d2_8) rfl (flt (by decide : ¬ ((2 : Int32) < (2 : Int32)))).2.1 (by decide) (by decide) ?_
      show Steps p.tables e below (T0.setTop (mkF m 42 #[.val (.ref a1), .val (.int (4 : Int32)), .val (.int p3), .val (.int (2 : Int32)), .val (.int (2 : Int32)), .val (.int (1 : Int32))] [])) _
      refine XS.iloadN X0.here hx rfl (hb hby d2_42) rfl ?_
      show Steps p.tables e below (T0.setTop (mkF m 43 #[.val (.ref a1), .val (.int (4 : Int32)), .val (.int p3), .val (.int (2 : Int32)), .val (.int (2 : Int32)), .val (.int (1 : Int32))] [(.int (2 : Int32))])) _
      rw [show G4 f p3 = (2 : Int32) from by unfold G4; rw [if_neg hc1, if_pos hc3]] at hr
      exact retI X0 hx hret (hb hby d2_43) hr
    · refine XS.icmpYes X0.here hx rfl (pc0 := 24) (pc' := 35) rfl (hb hby d2_24) rfl (flt hc3).2.1 (by decide) (by decide) ?_
      show Steps p.tables e below (T0.setTop (mkF m 35 #[.val (.ref a1), .val (.int (4 : Int32)), .val (.int p3), .val (.int (0 : Int32)), .val (.int (2 : Int32)), .val (.int (1 : Int32))] [])) _
      refine XS.iload X0.here hx rfl (hb hby d2_35) rfl ?_
      show Steps p.tables e below (T0.setTop (mkF m 37 #[.val (.ref a1), .val (.int (4 : Int32)), .val (.int p3), .val (.int (0 : Int32)), .val (.int (2 : Int32)), .val (.int (1 : Int32))] [(.int (1 : Int32))])) _
      refine XS.istore X0.here hx rfl (hb hby d2_37) rfl (l' := #[.val (.ref a1), .val (.int (4 : Int32)), .val (.int p3), .val (.int (0 : Int32)), .val (.int (1 : Int32)), .val (.int (1 : Int32))]) rfl ?_
      show Steps p.tables e below (T0.setTop (mkF m 39 #[.val (.ref a1), .val (.int (4 : Int32)), .val (.int p3), .val (.int (0 : Int32)), .val (.int (1 : Int32)), .val (.int (1 : Int32))] [])) _
      refine XS.goto X0.here hx rfl (pc0 := 39) (pc' := 5) rfl (hb hby d2_39) (by decide) (by decide) ?_
      show Steps p.tables e below (T0.setTop (mkF m 5 #[.val (.ref a1), .val (.int (4 : Int32)), .val (.int p3), .val (.int (0 : Int32)), .val (.int (1 : Int32)), .val (.int (1 : Int32))] [])) _
      refine XS.iloadN X0.here hx rfl (hb hby d2_5) rfl ?_
      show Steps p.tables e below (T0.setTop (mkF m 6 #[.val (.ref a1), .val (.int (4 : Int32)), .val (.int p3), .val (.int (0 : Int32)), .val (.int (1 : Int32)), .val (.int (1 : Int32))] [(.int (0 : Int32))])) _
      refine XS.iload X0.here hx rfl (hb hby d2_6) rfl ?_
      show Steps p.tables e below (T0.setTop (mkF m 8 #[.val (.ref a1), .val (.int (4 : Int32)), .val (.int p3), .val (.int (0 : Int32)), .val (.int (1 : Int32)), .val (.int (1 : Int32))] [(.int (1 : Int32)), (.int (0 : Int32))])) _
      refine XS.icmpNo X0.here hx rfl (hb hby d2_8) rfl (tlt (by decide : (0 : Int32) < (1 : Int32))).2.1 ?_
      show Steps p.tables e below (T0.setTop (mkF m 11 #[.val (.ref a1), .val (.int (4 : Int32)), .val (.int p3), .val (.int (0 : Int32)), .val (.int (1 : Int32)), .val (.int (1 : Int32))] [])) _
      refine XS.iloadN X0.here hx rfl (hb hby d2_11) rfl ?_
      show Steps p.tables e below (T0.setTop (mkF m 12 #[.val (.ref a1), .val (.int (4 : Int32)), .val (.int p3), .val (.int (0 : Int32)), .val (.int (1 : Int32)), .val (.int (1 : Int32))] [(.int (0 : Int32))])) _
      refine XS.iload X0.here hx rfl (hb hby d2_12) rfl ?_
      show Steps p.tables e below (T0.setTop (mkF m 14 #[.val (.ref a1), .val (.int (4 : Int32)), .val (.int p3), .val (.int (0 : Int32)), .val (.int (1 : Int32)), .val (.int (1 : Int32))] [(.int (1 : Int32)), (.int (0 : Int32))])) _
      refine XS.iadd X0.here hx rfl (hb hby d2_14) rfl ?_
      show Steps p.tables e below (T0.setTop (mkF m 15 #[.val (.ref a1), .val (.int (4 : Int32)), .val (.int p3), .val (.int (0 : Int32)), .val (.int (1 : Int32)), .val (.int (1 : Int32))] [(.int (1 : Int32))])) _
      refine XS.iconst X0.here hx rfl (hb hby d2_15) ?_
      show Steps p.tables e below (T0.setTop (mkF m 16 #[.val (.ref a1), .val (.int (4 : Int32)), .val (.int p3), .val (.int (0 : Int32)), .val (.int (1 : Int32)), .val (.int (1 : Int32))] [(.int (1 : Int32)), (.int (1 : Int32))])) _
      refine XS.iushr X0.here hx rfl (hb hby d2_16) rfl ?_
      show Steps p.tables e below (T0.setTop (mkF m 17 #[.val (.ref a1), .val (.int (4 : Int32)), .val (.int p3), .val (.int (0 : Int32)), .val (.int (1 : Int32)), .val (.int (1 : Int32))] [(.int (0 : Int32))])) _
      refine XS.istore X0.here hx rfl (hb hby d2_17) rfl (l' := #[.val (.ref a1), .val (.int (4 : Int32)), .val (.int p3), .val (.int (0 : Int32)), .val (.int (1 : Int32)), .val (.int (0 : Int32))]) rfl ?_
      show Steps p.tables e below (T0.setTop (mkF m 19 #[.val (.ref a1), .val (.int (4 : Int32)), .val (.int p3), .val (.int (0 : Int32)), .val (.int (1 : Int32)), .val (.int (0 : Int32))] [])) _
      refine XS.aloadN X0.here hx rfl (hb hby d2_19) rfl rfl ?_
      show Steps p.tables e below (T0.setTop (mkF m 20 #[.val (.ref a1), .val (.int (4 : Int32)), .val (.int p3), .val (.int (0 : Int32)), .val (.int (1 : Int32)), .val (.int (0 : Int32))] [(.ref a1)])) _
      refine XS.iload X0.here hx rfl (hb hby d2_20) rfl ?_
      show Steps p.tables e below (T0.setTop (mkF m 22 #[.val (.ref a1), .val (.int (4 : Int32)), .val (.int p3), .val (.int (0 : Int32)), .val (.int (1 : Int32)), .val (.int (0 : Int32))] [(.int (0 : Int32)), (.ref a1)])) _
      refine own_get X0 hx hZ e0 A0 0 (by decide) (by decide) (by decide) (g := (mkF m 22 #[.val (.ref a1), .val (.int (4 : Int32)), .val (.int p3), .val (.int (0 : Int32)), .val (.int (1 : Int32)), .val (.int (0 : Int32))] [(.int (0 : Int32)), (.ref a1)])) rfl rfl (hb hby d2_22) _ ?_
      show Steps p.tables e below (T0.setTop (mkF m 23 #[.val (.ref a1), .val (.int (4 : Int32)), .val (.int p3), .val (.int (0 : Int32)), .val (.int (1 : Int32)), .val (.int (0 : Int32))] [(.int (f 0))])) _
      refine XS.iloadN X0.here hx rfl (hb hby d2_23) rfl ?_
      show Steps p.tables e below (T0.setTop (mkF m 24 #[.val (.ref a1), .val (.int (4 : Int32)), .val (.int p3), .val (.int (0 : Int32)), .val (.int (1 : Int32)), .val (.int (0 : Int32))] [(.int p3), (.int (f 0))])) _
      by_cases hc4 : (f 0) < p3
      · refine XS.icmpNo X0.here hx rfl (hb hby d2_24) rfl (tlt hc4).2.1 ?_
        show Steps p.tables e below (T0.setTop (mkF m 27 #[.val (.ref a1), .val (.int (4 : Int32)), .val (.int p3), .val (.int (0 : Int32)), .val (.int (1 : Int32)), .val (.int (0 : Int32))] [])) _
        refine XS.iload X0.here hx rfl (hb hby d2_27) rfl ?_
        show Steps p.tables e below (T0.setTop (mkF m 29 #[.val (.ref a1), .val (.int (4 : Int32)), .val (.int p3), .val (.int (0 : Int32)), .val (.int (1 : Int32)), .val (.int (0 : Int32))] [(.int (0 : Int32))])) _
        refine XS.iconst X0.here hx rfl (hb hby d2_29) ?_
        show Steps p.tables e below (T0.setTop (mkF m 30 #[.val (.ref a1), .val (.int (4 : Int32)), .val (.int p3), .val (.int (0 : Int32)), .val (.int (1 : Int32)), .val (.int (0 : Int32))] [(.int (1 : Int32)), (.int (0 : Int32))])) _
        refine XS.iadd X0.here hx rfl (hb hby d2_30) rfl ?_
        show Steps p.tables e below (T0.setTop (mkF m 31 #[.val (.ref a1), .val (.int (4 : Int32)), .val (.int p3), .val (.int (0 : Int32)), .val (.int (1 : Int32)), .val (.int (0 : Int32))] [(.int (1 : Int32))])) _
        refine XS.istoreN X0.here hx rfl (hb hby d2_31) rfl (l' := #[.val (.ref a1), .val (.int (4 : Int32)), .val (.int p3), .val (.int (1 : Int32)), .val (.int (1 : Int32)), .val (.int (0 : Int32))]) rfl ?_
        show Steps p.tables e below (T0.setTop (mkF m 32 #[.val (.ref a1), .val (.int (4 : Int32)), .val (.int p3), .val (.int (1 : Int32)), .val (.int (1 : Int32)), .val (.int (0 : Int32))] [])) _
        refine XS.goto X0.here hx rfl (pc0 := 32) (pc' := 39) rfl (hb hby d2_32) (by decide) (by decide) ?_
        show Steps p.tables e below (T0.setTop (mkF m 39 #[.val (.ref a1), .val (.int (4 : Int32)), .val (.int p3), .val (.int (1 : Int32)), .val (.int (1 : Int32)), .val (.int (0 : Int32))] [])) _
        refine XS.goto X0.here hx rfl (pc0 := 39) (pc' := 5) rfl (hb hby d2_39) (by decide) (by decide) ?_
        show Steps p.tables e below (T0.setTop (mkF m 5 #[.val (.ref a1), .val (.int (4 : Int32)), .val (.int p3), .val (.int (1 : Int32)), .val (.int (1 : Int32)), .val (.int (0 : Int32))] [])) _
        refine XS.iloadN X0.here hx rfl (hb hby d2_5) rfl ?_
        show Steps p.tables e below (T0.setTop (mkF m 6 #[.val (.ref a1), .val (.int (4 : Int32)), .val (.int p3), .val (.int (1 : Int32)), .val (.int (1 : Int32)), .val (.int (0 : Int32))] [(.int (1 : Int32))])) _
        refine XS.iload X0.here hx rfl (hb hby d2_6) rfl ?_
        show Steps p.tables e below (T0.setTop (mkF m 8 #[.val (.ref a1), .val (.int (4 : Int32)), .val (.int p3), .val (.int (1 : Int32)), .val (.int (1 : Int32)), .val (.int (0 : Int32))] [(.int (1 : Int32)), (.int (1 : Int32))])) _
        refine XS.icmpYes X0.here hx rfl (pc0 := 8) (pc' := 42) rfl (hb hby d2_8) rfl (flt (by decide : ¬ ((1 : Int32) < (1 : Int32)))).2.1 (by decide) (by decide) ?_
        show Steps p.tables e below (T0.setTop (mkF m 42 #[.val (.ref a1), .val (.int (4 : Int32)), .val (.int p3), .val (.int (1 : Int32)), .val (.int (1 : Int32)), .val (.int (0 : Int32))] [])) _
        refine XS.iloadN X0.here hx rfl (hb hby d2_42) rfl ?_
        show Steps p.tables e below (T0.setTop (mkF m 43 #[.val (.ref a1), .val (.int (4 : Int32)), .val (.int p3), .val (.int (1 : Int32)), .val (.int (1 : Int32)), .val (.int (0 : Int32))] [(.int (1 : Int32))])) _
        rw [show G4 f p3 = (1 : Int32) from by unfold G4; rw [if_neg hc1, if_neg hc3, if_pos hc4]] at hr
        exact retI X0 hx hret (hb hby d2_43) hr
      · refine XS.icmpYes X0.here hx rfl (pc0 := 24) (pc' := 35) rfl (hb hby d2_24) rfl (flt hc4).2.1 (by decide) (by decide) ?_
        show Steps p.tables e below (T0.setTop (mkF m 35 #[.val (.ref a1), .val (.int (4 : Int32)), .val (.int p3), .val (.int (0 : Int32)), .val (.int (1 : Int32)), .val (.int (0 : Int32))] [])) _
        refine XS.iload X0.here hx rfl (hb hby d2_35) rfl ?_
        show Steps p.tables e below (T0.setTop (mkF m 37 #[.val (.ref a1), .val (.int (4 : Int32)), .val (.int p3), .val (.int (0 : Int32)), .val (.int (1 : Int32)), .val (.int (0 : Int32))] [(.int (0 : Int32))])) _
        refine XS.istore X0.here hx rfl (hb hby d2_37) rfl (l' := #[.val (.ref a1), .val (.int (4 : Int32)), .val (.int p3), .val (.int (0 : Int32)), .val (.int (0 : Int32)), .val (.int (0 : Int32))]) rfl ?_
        show Steps p.tables e below (T0.setTop (mkF m 39 #[.val (.ref a1), .val (.int (4 : Int32)), .val (.int p3), .val (.int (0 : Int32)), .val (.int (0 : Int32)), .val (.int (0 : Int32))] [])) _
        refine XS.goto X0.here hx rfl (pc0 := 39) (pc' := 5) rfl (hb hby d2_39) (by decide) (by decide) ?_
        show Steps p.tables e below (T0.setTop (mkF m 5 #[.val (.ref a1), .val (.int (4 : Int32)), .val (.int p3), .val (.int (0 : Int32)), .val (.int (0 : Int32)), .val (.int (0 : Int32))] [])) _
        refine XS.iloadN X0.here hx rfl (hb hby d2_5) rfl ?_
        show Steps p.tables e below (T0.setTop (mkF m 6 #[.val (.ref a1), .val (.int (4 : Int32)), .val (.int p3), .val (.int (0 : Int32)), .val (.int (0 : Int32)), .val (.int (0 : Int32))] [(.int (0 : Int32))])) _
        refine XS.iload X0.here hx rfl (hb hby d2_6) rfl ?_
        show Steps p.tables e below (T0.setTop (mkF m 8 #[.val (.ref a1), .val (.int (4 : Int32)), .val (.int p3), .val (.int (0 : Int32)), .val (.int (0 : Int32)), .val (.int (0 : Int32))] [(.int (0 : Int32)), (.int (0 : Int32))])) _
        refine XS.icmpYes X0.here hx rfl (pc0 := 8) (pc' := 42) rfl (hb hby d2_8) rfl (flt (by decide : ¬ ((0 : Int32) < (0 : Int32)))).2.1 (by decide) (by decide) ?_
        show Steps p.tables e below (T0.setTop (mkF m 42 #[.val (.ref a1), .val (.int (4 : Int32)), .val (.int p3), .val (.int (0 : Int32)), .val (.int (0 : Int32)), .val (.int (0 : Int32))] [])) _
        refine XS.iloadN X0.here hx rfl (hb hby d2_42) rfl ?_
        show Steps p.tables e below (T0.setTop (mkF m 43 #[.val (.ref a1), .val (.int (4 : Int32)), .val (.int p3), .val (.int (0 : Int32)), .val (.int (0 : Int32)), .val (.int (0 : Int32))] [(.int (0 : Int32))])) _
        rw [show G4 f p3 = (0 : Int32) from by unfold G4; rw [if_neg hc1, if_neg hc3, if_neg hc4]] at hr
        exact retI X0 hx hret (hb hby d2_43) hr
def own_find (k : Nat) (f : Nat → Int32) (p3 : Int32) : Int32 := match k with | 0 => G0 f p3 | 1 => G1 f p3 | 2 => G2 f p3 | 3 => G3 f p3 | _ => G4 f p3
def Q2 (k : Nat) (f : Nat → Int32) (p3 : Int32) (h0 : Heap) (n0 : Nat) (v : Option Value) (h : Heap) (L : List Loc) : Prop := v = some (.int (own_find k f p3)) ∧ Fr n0 L ∧ h = h0
set_option maxRecDepth 65536 in
set_option maxHeartbeats 40000000 in
theorem rm2 (l : Launch) (Z : State) (a0 : Array Value) (hw : ∀ d ∈ tables_1, d.before a0 Z = true) (ws : List Jvm.Cond) (a1 : Addr) (p2 : Int32) (p3 : Int32) (f : Nat → Int32) (k : Nat) (h0 : Heap) (n0 : Nat) (Z0 : n0 ≤ h0.size) (A0 : own_A Z h0 a1 4 f) (hk : k < 5) (hp : p2 = Int32.ofNat k) :
    MetFree l (⟨"com/example/collation/collation/value/Tree", "firstAtOrAfter", "([III)I"⟩ : MethodName) (head1 (Jvm.Cond.code (⟨"com/example/collation/collation/value/Tree", "firstAtOrAfter", "([III)I"⟩ : MethodName) prog_110_method_40_code 6 (some .int) :: ws) ({ frames := 0, cells := 0, slots := 0, locals := 0 } : Room)) (fun a U => a = #[(.ref a1), (.int p2), (.int p3)] ∧ Z.Warmed39 U.vm ∧ U.heap = h0) (fun _ _ _ _ _ => True) (fun _ U o U' => ∃ v L, o = .returned v ∧ Q2 k f p3 h0 n0 v U'.heap L ∧ FrameEnd U o U' L ({ frames := 0, cells := 0, slots := 0, locals := 0 } : Room).cells ({ frames := 0, cells := 0, slots := 0, locals := 0 } : Room).slots) := by
  refine MetFree.of_bodySF (plainFor_of_name pn_2) hisR ?_
  intro p e s m args below meth c s₁ Bd hml0 hP hK
  obtain ⟨rfl, hZ, hh⟩ := hP
  have hx := Bd.exec
  have hby := Bd.bytes
  have hml : c.maxLocals = 6 := hml0
  have hown : s.vm.findClass "com/example/collation/collation/value/Tree" = some m.cls := findClass_of_methodNamed Bd.named
  have hnm := (name_of_methodNamed Bd.named Bd.method).1
  have X0 : Stand p l e ({ frames := 0, cells := 0, slots := 0, locals := 0 } : Room) s m #[(.ref a1), (.int p2), (.int p3)] below meth c s₁ [] 0 0 := Stand.of_body Bd
  have e0 : s₁.heap = h0 := by rw [← hh, Bd.state]; rfl
  have N0 := Fr.nil n0
  have pre0 : ∀ t, Steps p.tables e below (s₁.setTop (mkF m 0 #[.val (.ref a1), .val (.int p2), .val (.int p3), .unset, .unset, .unset] [])) t → Steps p.tables e below (s₁.setTop (entryFrame m #[(.ref a1), (.int p2), (.int p3)] 6)) t := fun t kt => castTop (ef_2 m a1 p2 p3) kt
  obtain ⟨fs, hr, hrun, hended, hW, hsame⟩ := X0.leave (v := some (.int (own_find k f p3))) (fun h => by rw [Bd.returns] at h; cases h)
  refine ⟨_, _, pre0 _ ?_, hrun, hended, _, _, rfl, ⟨rfl, N0, by rw [← e0]; rfl⟩, ⟨_, rfl⟩, hW, hsame.mono (by decide) (by decide)⟩
  subst hp
  match k, hk, hr with
  | 0, _, hr => exact fa_0 a1 p3 f X0 hx hZ e0 A0 hby Bd.returns hr
  | 1, _, hr => exact fa_1 a1 p3 f X0 hx hZ e0 A0 hby Bd.returns hr
  | 2, _, hr => exact fa_2 a1 p3 f X0 hx hZ e0 A0 hby Bd.returns hr
  | 3, _, hr => exact fa_3 a1 p3 f X0 hx hZ e0 A0 hby Bd.returns hr
  | 4, _, hr => exact fa_4 a1 p3 f X0 hx hZ e0 A0 hby Bd.returns hr
  | k + 5, hk, _ => exact absurd hk (by omega)
theorem own_nat {v : Int32} (h0 : 0 ≤ v.toInt) : v = Int32.ofNat v.toInt.toNat := by
  apply Int32.toInt_inj.mp
  have := Int32.toInt_lt v
  rw [Int32.toInt_ofNat_of_lt (by omega)]; omega
theorem own_cnt (x : Int32) : ∃ k : Nat, k < 5 ∧ ((x &&& (2147483647 : Int32)) - ((x &&& (2147483647 : Int32)) / (5 : Int32)) * (5 : Int32)) = Int32.ofNat k := by
  have h1 := c_and x (2147483647 : Int32) (by decide)
  generalize (x &&& (2147483647 : Int32)) = m at *
  have h2 := (c_idiv m 5 5 rfl (by decide)).1 h1.1
  have h3 := c_imul (m / 5) 5
  rw [show (5 : Int32).toInt = 5 from rfl] at h3
  have h4 := c_isub m (m / 5 * 5)
  have r1 := rng32 (m / 5 * 5)
  have r2 := rng32 (m - m / 5 * 5)
  have r3 := rng32 m
  refine ⟨(m - m / 5 * 5).toInt.toNat, ?_, own_nat ?_⟩ <;> omega
theorem own_two {f g : Nat → Int32} {i j : Nat} (hij : i ≠ j) (h : g = own_ord f i j) : (g i).toInt ≤ (g j).toInt ∧ ((g i = f i ∧ g j = f j) ∨ (g i = f j ∧ g j = f i)) ∧ ∀ k, k ≠ i → k ≠ j → g k = f k := by
  subst h
  unfold own_ord
  by_cases q : f j < f i
  · rw [if_pos q]
    have e1 : own_upd (own_upd f i (f j)) j (f i) i = f j := by unfold own_upd; rw [if_neg hij, if_pos rfl]
    have e2 : own_upd (own_upd f i (f j)) j (f i) j = f i := by unfold own_upd; rw [if_pos rfl]
    refine ⟨?_, Or.inr ⟨e1, e2⟩, fun k h1 h2 => by unfold own_upd; rw [if_neg h2, if_neg h1]⟩
    rw [e1, e2]; rw [Int32.lt_iff_toInt_lt] at q; omega
  · rw [if_neg q]
    refine ⟨?_, Or.inl ⟨rfl, rfl⟩, fun k _ _ => rfl⟩
    rw [Int32.lt_iff_toInt_lt] at q; omega
theorem own_sorted {f f1 f2 f3 f4 f5 : Nat → Int32} (h1 : f1 = own_ord f 0 1) (h2 : f2 = own_ord f1 2 3) (h3 : f3 = own_ord f2 0 2) (h4 : f4 = own_ord f3 1 3) (h5 : f5 = own_ord f4 1 2) :
    (f5 0).toInt ≤ (f5 1).toInt ∧ (f5 1).toInt ≤ (f5 2).toInt ∧ (f5 2).toInt ≤ (f5 3).toInt := by
  obtain ⟨a1, b1, c1⟩ := own_two (by decide) h1
  obtain ⟨a2, b2, c2⟩ := own_two (by decide) h2
  obtain ⟨a3, b3, c3⟩ := own_two (by decide) h3
  obtain ⟨a4, b4, c4⟩ := own_two (by decide) h4
  obtain ⟨a5, b5, c5⟩ := own_two (by decide) h5
  have x20 := c2 0 (by decide) (by decide)
  have x21 := c2 1 (by decide) (by decide)
  have x31 := c3 1 (by decide) (by decide)
  have x33 := c3 3 (by decide) (by decide)
  have x40 := c4 0 (by decide) (by decide)
  have x42 := c4 2 (by decide) (by decide)
  have x50 := c5 0 (by decide) (by decide)
  have x53 := c5 3 (by decide) (by decide)
  have y12 := c1 2 (by decide) (by decide)
  have y13 := c1 3 (by decide) (by decide)
  simp only [← Int32.toInt_inj] at *
  omega
theorem pd_1 : parseMethodDescriptor "([III)V" = some ⟨[(.array .int), .int, .int], none⟩ := by decide +kernel
theorem pd_2 : parseMethodDescriptor "([III)I" = some ⟨[(.array .int), .int, .int], some .int⟩ := by decide +kernel
theorem pn_0 : plainName "com/example/collation/collation/value/TreeFirstAtOrAfterPinLaw" = true := by first | (simp [plainName, overriddenIn]; done) | decide +kernel
theorem ef_0 (m : MethodId) (p1 : Int32) (p2 : Int32) (p3 : Int32) (p4 : Int32) (p5 : Int32) (p6 : Int32) : entryFrame m #[(.int p1), (.int p2), (.int p3), (.int p4), (.int p5), (.int p6)] maxLocals = mkF m 0 #[.val (.int p1), .val (.int p2), .val (.int p3), .val (.int p4), .val (.int p5), .val (.int p6), .unset, .unset, .unset, .unset] [] := by first | (simp [entryFrame, mkF, argsToLocals, Value.category, maxLocals]; done) | rfl
set_option maxRecDepth 65536 in
set_option maxHeartbeats 40000000 in
theorem rm0 (l : Launch) (Z : State) (a0 : Array Value) (hw : ∀ d ∈ tables_1, d.before a0 Z = true) (ws : List Jvm.Cond) (p1 : Int32) (p2 : Int32) (p3 : Int32) (p4 : Int32) (p5 : Int32) (p6 : Int32) (h0 : Heap) (n0 : Nat) (Z0 : n0 ≤ h0.size) :
    MetFree l x (head1 (Jvm.Cond.code x code maxLocals ret :: ws) room_1) (fun a U => a = #[(.int p1), (.int p2), (.int p3), (.int p4), (.int p5), (.int p6)] ∧ Z.Warmed39 U.vm ∧ U.heap = h0) (fun _ _ _ _ _ => True) (fun _ U o U' => ∃ v L, o = .returned v ∧ (v = some (.int (1 : Int32)) ∧ Fr n0 L) ∧ FrameEnd U o U' L room_1.cells room_1.slots) := by
  refine MetFree.of_bodySF (plainFor_of_name pn_0) hisR ?_
  intro p e s m args below meth c s₁ Bd hml0 hP hK
  obtain ⟨rfl, hZ, hh⟩ := hP
  have hx := Bd.exec
  have hby := Bd.bytes
  have hml : c.maxLocals = 10 := hml0
  have hown : s.vm.findClass "com/example/collation/collation/value/TreeFirstAtOrAfterPinLaw" = some m.cls := findClass_of_methodNamed Bd.named
  have hnm := (name_of_methodNamed Bd.named Bd.method).1
  have X0 : Stand p l e room_1 s m #[(.int p1), (.int p2), (.int p3), (.int p4), (.int p5), (.int p6)] below meth c s₁ [] 0 0 := Stand.of_body Bd
  have e0 : s₁.heap = h0 := by rw [← hh, Bd.state]; rfl
  have N0 := Fr.nil n0
  have pre0 : ∀ t, Steps p.tables e below (s₁.setTop (mkF m 0 #[.val (.int p1), .val (.int p2), .val (.int p3), .val (.int p4), .val (.int p5), .val (.int p6), .unset, .unset, .unset, .unset] [])) t → Steps p.tables e below (s₁.setTop (entryFrame m #[(.int p1), (.int p2), (.int p3), (.int p4), (.int p5), (.int p6)] maxLocals)) t := fun t kt => castTop (ef_0 m p1 p2 p3 p4 p5 p6) kt
  refine own_go (A := s₁.setTop (mkF m 0 #[.val (.int p1), .val (.int p2), .val (.int p3), .val (.int p4), .val (.int p5), .val (.int p6), .unset, .unset, .unset, .unset] [])) pre0 ?_
  refine own_go (A := s₁.setTop (mkF m 1 #[.val (.int p1), .val (.int p2), .val (.int p3), .val (.int p4), .val (.int p5), .val (.int p6), .unset, .unset, .unset, .unset] [(.int (4 : Int32))])) (fun t kt => XS.iconst X0.here hx rfl (hb hby at_0) kt) ?_
  refine own_new X0 hx hZ (hw _ (List.mem_of_getElem? (i := 0) rfl)) e0 (g := (mkF m 1 #[.val (.int p1), .val (.int p2), .val (.int p3), .val (.int p4), .val (.int p5), .val (.int p6), .unset, .unset, .unset, .unset] [(.int (4 : Int32))])) rfl (hb hby at_1) rfl 4 (by decide) (by decide) (by decide) (by decide) (by decide) (fun T1 h1 b1 X1 e1 E1 g_b1 A_b1 => ?_)
  have sz1 : n0 ≤ h1.size := Nat.le_trans Z0 E1.1
  have ga_b1 : n0 ≤ b1 := Nat.le_trans Z0 g_b1
  clear E1 g_b1
  show ∃ s₂ o, Steps p.tables e below (T1.setTop (mkF m 3 #[.val (.int p1), .val (.int p2), .val (.int p3), .val (.int p4), .val (.int p5), .val (.int p6), .unset, .unset, .unset, .unset] [(.ref b1)])) s₂ ∧ _
  refine own_go (A := T1.setTop (mkF m 5 #[.val (.int p1), .val (.int p2), .val (.int p3), .val (.int p4), .val (.int p5), .val (.int p6), .val (.ref b1), .unset, .unset, .unset] [])) (fun t kt => XS.astore X1.here hx rfl (hb hby at_3) rfl rfl (l' := #[.val (.int p1), .val (.int p2), .val (.int p3), .val (.int p4), .val (.int p5), .val (.int p6), .val (.ref b1), .unset, .unset, .unset]) rfl kt) ?_
  refine own_go (A := T1.setTop (mkF m 7 #[.val (.int p1), .val (.int p2), .val (.int p3), .val (.int p4), .val (.int p5), .val (.int p6), .val (.ref b1), .unset, .unset, .unset] [(.ref b1)])) (fun t kt => XS.aload X1.here hx rfl (hb hby at_5) rfl rfl kt) ?_
  refine own_go (A := T1.setTop (mkF m 8 #[.val (.int p1), .val (.int p2), .val (.int p3), .val (.int p4), .val (.int p5), .val (.int p6), .val (.ref b1), .unset, .unset, .unset] [(.int (0 : Int32)), (.ref b1)])) (fun t kt => XS.iconst X1.here hx rfl (hb hby at_7) kt) ?_
  refine own_go (A := T1.setTop (mkF m 9 #[.val (.int p1), .val (.int p2), .val (.int p3), .val (.int p4), .val (.int p5), .val (.int p6), .val (.ref b1), .unset, .unset, .unset] [(.int p1), (.int (0 : Int32)), (.ref b1)])) (fun t kt => XS.iloadN X1.here hx rfl (hb hby at_8) rfl kt) ?_
  refine own_put X1 hx hZ e1 A_b1 (j := (0 : Int32)) (x := p1) 0 (by decide) (by decide) (by decide) N0 ga_b1 (g := (mkF m 9 #[.val (.int p1), .val (.int p2), .val (.int p3), .val (.int p4), .val (.int p5), .val (.int p6), .val (.ref b1), .unset, .unset, .unset] [(.int p1), (.int (0 : Int32)), (.ref b1)])) rfl rfl (hb hby at_9) (fun T2 h2 l2 X2 e2 A2 O2 Sz2 N2 => ?_)
  have sz2 : n0 ≤ h2.size := Nat.le_trans sz1 Sz2
  clear O2 Sz2 X1 e1 A_b1 sz1
  show ∃ s₂ o, Steps p.tables e below (T2.setTop (mkF m 10 #[.val (.int p1), .val (.int p2), .val (.int p3), .val (.int p4), .val (.int p5), .val (.int p6), .val (.ref b1), .unset, .unset, .unset] [])) s₂ ∧ _
  refine own_go (A := T2.setTop (mkF m 12 #[.val (.int p1), .val (.int p2), .val (.int p3), .val (.int p4), .val (.int p5), .val (.int p6), .val (.ref b1), .unset, .unset, .unset] [(.ref b1)])) (fun t kt => XS.aload X2.here hx rfl (hb hby at_10) rfl rfl kt) ?_
  refine own_go (A := T2.setTop (mkF m 13 #[.val (.int p1), .val (.int p2), .val (.int p3), .val (.int p4), .val (.int p5), .val (.int p6), .val (.ref b1), .unset, .unset, .unset] [(.int (1 : Int32)), (.ref b1)])) (fun t kt => XS.iconst X2.here hx rfl (hb hby at_12) kt) ?_
  refine own_go (A := T2.setTop (mkF m 14 #[.val (.int p1), .val (.int p2), .val (.int p3), .val (.int p4), .val (.int p5), .val (.int p6), .val (.ref b1), .unset, .unset, .unset] [(.int p2), (.int (1 : Int32)), (.ref b1)])) (fun t kt => XS.iloadN X2.here hx rfl (hb hby at_13) rfl kt) ?_
  refine own_put X2 hx hZ e2 A2 (j := (1 : Int32)) (x := p2) 1 (by decide) (by decide) (by decide) N2 ga_b1 (g := (mkF m 14 #[.val (.int p1), .val (.int p2), .val (.int p3), .val (.int p4), .val (.int p5), .val (.int p6), .val (.ref b1), .unset, .unset, .unset] [(.int p2), (.int (1 : Int32)), (.ref b1)])) rfl rfl (hb hby at_14) (fun T3 h3 l3 X3 e3 A3 O3 Sz3 N3 => ?_)
  have sz3 : n0 ≤ h3.size := Nat.le_trans sz2 Sz3
  clear O3 Sz3 X2 e2 A2 N2 sz2
  show ∃ s₂ o, Steps p.tables e below (T3.setTop (mkF m 15 #[.val (.int p1), .val (.int p2), .val (.int p3), .val (.int p4), .val (.int p5), .val (.int p6), .val (.ref b1), .unset, .unset, .unset] [])) s₂ ∧ _
  refine own_go (A := T3.setTop (mkF m 17 #[.val (.int p1), .val (.int p2), .val (.int p3), .val (.int p4), .val (.int p5), .val (.int p6), .val (.ref b1), .unset, .unset, .unset] [(.ref b1)])) (fun t kt => XS.aload X3.here hx rfl (hb hby at_15) rfl rfl kt) ?_
  refine own_go (A := T3.setTop (mkF m 18 #[.val (.int p1), .val (.int p2), .val (.int p3), .val (.int p4), .val (.int p5), .val (.int p6), .val (.ref b1), .unset, .unset, .unset] [(.int (2 : Int32)), (.ref b1)])) (fun t kt => XS.iconst X3.here hx rfl (hb hby at_17) kt) ?_
  refine own_go (A := T3.setTop (mkF m 19 #[.val (.int p1), .val (.int p2), .val (.int p3), .val (.int p4), .val (.int p5), .val (.int p6), .val (.ref b1), .unset, .unset, .unset] [(.int p3), (.int (2 : Int32)), (.ref b1)])) (fun t kt => XS.iloadN X3.here hx rfl (hb hby at_18) rfl kt) ?_
  refine own_put X3 hx hZ e3 A3 (j := (2 : Int32)) (x := p3) 2 (by decide) (by decide) (by decide) N3 ga_b1 (g := (mkF m 19 #[.val (.int p1), .val (.int p2), .val (.int p3), .val (.int p4), .val (.int p5), .val (.int p6), .val (.ref b1), .unset, .unset, .unset] [(.int p3), (.int (2 : Int32)), (.ref b1)])) rfl rfl (hb hby at_19) (fun T4 h4 l4 X4 e4 A4 O4 Sz4 N4 => ?_)
  have sz4 : n0 ≤ h4.size := Nat.le_trans sz3 Sz4
  clear O4 Sz4 X3 e3 A3 N3 sz3
  show ∃ s₂ o, Steps p.tables e below (T4.setTop (mkF m 20 #[.val (.int p1), .val (.int p2), .val (.int p3), .val (.int p4), .val (.int p5), .val (.int p6), .val (.ref b1), .unset, .unset, .unset] [])) s₂ ∧ _
  refine own_go (A := T4.setTop (mkF m 22 #[.val (.int p1), .val (.int p2), .val (.int p3), .val (.int p4), .val (.int p5), .val (.int p6), .val (.ref b1), .unset, .unset, .unset] [(.ref b1)])) (fun t kt => XS.aload X4.here hx rfl (hb hby at_20) rfl rfl kt) ?_
  refine own_go (A := T4.setTop (mkF m 23 #[.val (.int p1), .val (.int p2), .val (.int p3), .val (.int p4), .val (.int p5), .val (.int p6), .val (.ref b1), .unset, .unset, .unset] [(.int (3 : Int32)), (.ref b1)])) (fun t kt => XS.iconst X4.here hx rfl (hb hby at_22) kt) ?_
  refine own_go (A := T4.setTop (mkF m 24 #[.val (.int p1), .val (.int p2), .val (.int p3), .val (.int p4), .val (.int p5), .val (.int p6), .val (.ref b1), .unset, .unset, .unset] [(.int p4), (.int (3 : Int32)), (.ref b1)])) (fun t kt => XS.iloadN X4.here hx rfl (hb hby at_23) rfl kt) ?_
  refine own_put X4 hx hZ e4 A4 (j := (3 : Int32)) (x := p4) 3 (by decide) (by decide) (by decide) N4 ga_b1 (g := (mkF m 24 #[.val (.int p1), .val (.int p2), .val (.int p3), .val (.int p4), .val (.int p5), .val (.int p6), .val (.ref b1), .unset, .unset, .unset] [(.int p4), (.int (3 : Int32)), (.ref b1)])) rfl rfl (hb hby at_24) (fun T5 h5 l5 X5 e5 A5 O5 Sz5 N5 => ?_)
  have sz5 : n0 ≤ h5.size := Nat.le_trans sz4 Sz5
  clear O5 Sz5 X4 e4 A4 N4 sz4
  show ∃ s₂ o, Steps p.tables e below (T5.setTop (mkF m 25 #[.val (.int p1), .val (.int p2), .val (.int p3), .val (.int p4), .val (.int p5), .val (.int p6), .val (.ref b1), .unset, .unset, .unset] [])) s₂ ∧ _
  refine own_go (A := T5.setTop (mkF m 27 #[.val (.int p1), .val (.int p2), .val (.int p3), .val (.int p4), .val (.int p5), .val (.int p6), .val (.ref b1), .unset, .unset, .unset] [(.ref b1)])) (fun t kt => XS.aload X5.here hx rfl (hb hby at_25) rfl rfl kt) ?_
  refine own_go (A := T5.setTop (mkF m 28 #[.val (.int p1), .val (.int p2), .val (.int p3), .val (.int p4), .val (.int p5), .val (.int p6), .val (.ref b1), .unset, .unset, .unset] [(.int (0 : Int32)), (.ref b1)])) (fun t kt => XS.iconst X5.here hx rfl (hb hby at_27) kt) ?_
  refine own_go (A := T5.setTop (mkF m 29 #[.val (.int p1), .val (.int p2), .val (.int p3), .val (.int p4), .val (.int p5), .val (.int p6), .val (.ref b1), .unset, .unset, .unset] [(.int (1 : Int32)), (.int (0 : Int32)), (.ref b1)])) (fun t kt => XS.iconst X5.here hx rfl (hb hby at_28) kt) ?_
  obtain ⟨_, _, ⟨T6, L6, k6, n6⟩, -, X6, ⟨Lc6, hQ6, l6, y6, z6⟩, st6⟩ := Jvm.LawKit.callS X5 hx (y := (⟨"com/example/collation/collation/value/TreeFirstAtOrAfterPinLaw", "order", "([III)V"⟩ : MethodName)) hown (mvT hZ (hw _ (List.mem_of_getElem? (i := 1) rfl))) (mvT hZ (hw _ (List.mem_of_getElem? (i := 2) rfl))) (mvT hZ (hw _ (List.mem_of_getElem? (i := 3) rfl))) (mvT hZ (hw _ (List.mem_of_getElem? (i := 4) rfl))) (by decide) (backOf (W := 0) (rm1 l Z a0 hw [] b1 (0 : Int32) (1 : Int32) _ 0 1 h5 n0 sz5 A5 ga_b1 (by decide) (by decide) (by decide) (by decide) (by decide) (by decide)) hZ (hw _ (List.mem_of_getElem? (i := 4) rfl)) (hw _ (List.mem_of_getElem? (i := 3) rfl)) (by decide) (by decide)) (g := (mkF m 29 #[.val (.int p1), .val (.int p2), .val (.int p3), .val (.int p4), .val (.int p5), .val (.int p6), .val (.ref b1), .unset, .unset, .unset] [(.int (1 : Int32)), (.int (0 : Int32)), (.ref b1)])) rfl (by rw [hml]; rfl) (argsL := [(.ref b1), (.int (0 : Int32)), (.int (1 : Int32))]) (rest := []) (lenOf pd_1 rfl) rfl (by show 2 * 0 + _ ≤ _; exact Nat.le_of_eq rfl) (hb hby at_29) (fun _ _ => ⟨rfl, e5, (by decide : 1 + 0 ≤ _), (by decide : 4 + 0 ≤ _)⟩)
  dsimp only [Pt.U, Pt.locs, Pt.cells, Pt.slots] at X6 l6 y6 z6 st6 hQ6
  subst l6 y6 z6
  obtain ⟨rfl, N6q, A6, Sz6⟩ := hQ6
  have N6 := Fr.app N5 N6q
  have sz6 : n0 ≤ T6.heap.size := Nat.le_trans sz5 Sz6
  obtain ⟨f6, hf6⟩ : ∃ z, z = own_ord (own_upd (own_upd (own_upd (own_upd (fun _ => 0) 0 p1) 1 p2) 2 p3) 3 p4) 0 1 := ⟨_, rfl⟩
  rw [← hf6] at A6
  refine own_go (A := T6.setTop (mkF m 32 #[.val (.int p1), .val (.int p2), .val (.int p3), .val (.int p4), .val (.int p5), .val (.int p6), .val (.ref b1), .unset, .unset, .unset] [])) st6 ?_
  refine own_go (A := T6.setTop (mkF m 34 #[.val (.int p1), .val (.int p2), .val (.int p3), .val (.int p4), .val (.int p5), .val (.int p6), .val (.ref b1), .unset, .unset, .unset] [(.ref b1)])) (fun t kt => XS.aload X6.here hx rfl (hb hby at_32) rfl rfl kt) ?_
  refine own_go (A := T6.setTop (mkF m 35 #[.val (.int p1), .val (.int p2), .val (.int p3), .val (.int p4), .val (.int p5), .val (.int p6), .val (.ref b1), .unset, .unset, .unset] [(.int (2 : Int32)), (.ref b1)])) (fun t kt => XS.iconst X6.here hx rfl (hb hby at_34) kt) ?_
  refine own_go (A := T6.setTop (mkF m 36 #[.val (.int p1), .val (.int p2), .val (.int p3), .val (.int p4), .val (.int p5), .val (.int p6), .val (.ref b1), .unset, .unset, .unset] [(.int (3 : Int32)), (.int (2 : Int32)), (.ref b1)])) (fun t kt => XS.iconst X6.here hx rfl (hb hby at_35) kt) ?_
  obtain ⟨_, _, ⟨T7, L7, k7, n7⟩, -, X7, ⟨Lc7, hQ7, l7, y7, z7⟩, st7⟩ := Jvm.LawKit.callS X6 hx (y := (⟨"com/example/collation/collation/value/TreeFirstAtOrAfterPinLaw", "order", "([III)V"⟩ : MethodName)) hown (mvT hZ (hw _ (List.mem_of_getElem? (i := 1) rfl))) (mvT hZ (hw _ (List.mem_of_getElem? (i := 2) rfl))) (mvT hZ (hw _ (List.mem_of_getElem? (i := 3) rfl))) (mvT hZ (hw _ (List.mem_of_getElem? (i := 4) rfl))) (by decide) (backOf (W := 0) (rm1 l Z a0 hw [] b1 (2 : Int32) (3 : Int32) f6 2 3 T6.heap n0 sz6 A6 ga_b1 (by decide) (by decide) (by decide) (by decide) (by decide) (by decide)) hZ (hw _ (List.mem_of_getElem? (i := 4) rfl)) (hw _ (List.mem_of_getElem? (i := 3) rfl)) (by decide) (by decide)) (g := (mkF m 36 #[.val (.int p1), .val (.int p2), .val (.int p3), .val (.int p4), .val (.int p5), .val (.int p6), .val (.ref b1), .unset, .unset, .unset] [(.int (3 : Int32)), (.int (2 : Int32)), (.ref b1)])) rfl (by rw [hml]; rfl) (argsL := [(.ref b1), (.int (2 : Int32)), (.int (3 : Int32))]) (rest := []) (lenOf pd_1 rfl) rfl (by show 2 * 0 + _ ≤ _; exact Nat.le_of_eq rfl) (hb hby at_36) (fun _ _ => ⟨rfl, rfl, (by decide : 1 + 0 ≤ _), (by decide : 4 + 0 ≤ _)⟩)
  dsimp only [Pt.U, Pt.locs, Pt.cells, Pt.slots] at X7 l7 y7 z7 st7 hQ7
  subst l7 y7 z7
  obtain ⟨rfl, N7q, A7, Sz7⟩ := hQ7
  have N7 := Fr.app N6 N7q
  have sz7 : n0 ≤ T7.heap.size := Nat.le_trans sz6 Sz7
  obtain ⟨f7, hf7⟩ : ∃ z, z = own_ord f6 2 3 := ⟨_, rfl⟩
  rw [← hf7] at A7
  refine own_go (A := T7.setTop (mkF m 39 #[.val (.int p1), .val (.int p2), .val (.int p3), .val (.int p4), .val (.int p5), .val (.int p6), .val (.ref b1), .unset, .unset, .unset] [])) st7 ?_
  refine own_go (A := T7.setTop (mkF m 41 #[.val (.int p1), .val (.int p2), .val (.int p3), .val (.int p4), .val (.int p5), .val (.int p6), .val (.ref b1), .unset, .unset, .unset] [(.ref b1)])) (fun t kt => XS.aload X7.here hx rfl (hb hby at_39) rfl rfl kt) ?_
  refine own_go (A := T7.setTop (mkF m 42 #[.val (.int p1), .val (.int p2), .val (.int p3), .val (.int p4), .val (.int p5), .val (.int p6), .val (.ref b1), .unset, .unset, .unset] [(.int (0 : Int32)), (.ref b1)])) (fun t kt => XS.iconst X7.here hx rfl (hb hby at_41) kt) ?_
  refine own_go (A := T7.setTop (mkF m 43 #[.val (.int p1), .val (.int p2), .val (.int p3), .val (.int p4), .val (.int p5), .val (.int p6), .val (.ref b1), .unset, .unset, .unset] [(.int (2 : Int32)), (.int (0 : Int32)), (.ref b1)])) (fun t kt => XS.iconst X7.here hx rfl (hb hby at_42) kt) ?_
  obtain ⟨_, _, ⟨T8, L8, k8, n8⟩, -, X8, ⟨Lc8, hQ8, l8, y8, z8⟩, st8⟩ := Jvm.LawKit.callS X7 hx (y := (⟨"com/example/collation/collation/value/TreeFirstAtOrAfterPinLaw", "order", "([III)V"⟩ : MethodName)) hown (mvT hZ (hw _ (List.mem_of_getElem? (i := 1) rfl))) (mvT hZ (hw _ (List.mem_of_getElem? (i := 2) rfl))) (mvT hZ (hw _ (List.mem_of_getElem? (i := 3) rfl))) (mvT hZ (hw _ (List.mem_of_getElem? (i := 4) rfl))) (by decide) (backOf (W := 0) (rm1 l Z a0 hw [] b1 (0 : Int32) (2 : Int32) f7 0 2 T7.heap n0 sz7 A7 ga_b1 (by decide) (by decide) (by decide) (by decide) (by decide) (by decide)) hZ (hw _ (List.mem_of_getElem? (i := 4) rfl)) (hw _ (List.mem_of_getElem? (i := 3) rfl)) (by decide) (by decide)) (g := (mkF m 43 #[.val (.int p1), .val (.int p2), .val (.int p3), .val (.int p4), .val (.int p5), .val (.int p6), .val (.ref b1), .unset, .unset, .unset] [(.int (2 : Int32)), (.int (0 : Int32)), (.ref b1)])) rfl (by rw [hml]; rfl) (argsL := [(.ref b1), (.int (0 : Int32)), (.int (2 : Int32))]) (rest := []) (lenOf pd_1 rfl) rfl (by show 2 * 0 + _ ≤ _; exact Nat.le_of_eq rfl) (hb hby at_43) (fun _ _ => ⟨rfl, rfl, (by decide : 1 + 0 ≤ _), (by decide : 4 + 0 ≤ _)⟩)
  dsimp only [Pt.U, Pt.locs, Pt.cells, Pt.slots] at X8 l8 y8 z8 st8 hQ8
  subst l8 y8 z8
  obtain ⟨rfl, N8q, A8, Sz8⟩ := hQ8
  have N8 := Fr.app N7 N8q
  have sz8 : n0 ≤ T8.heap.size := Nat.le_trans sz7 Sz8
  obtain ⟨f8, hf8⟩ : ∃ z, z = own_ord f7 0 2 := ⟨_, rfl⟩
  rw [← hf8] at A8
  refine own_go (A := T8.setTop (mkF m 46 #[.val (.int p1), .val (.int p2), .val (.int p3), .val (.int p4), .val (.int p5), .val (.int p6), .val (.ref b1), .unset, .unset, .unset] [])) st8 ?_
  refine own_go (A := T8.setTop (mkF m 48 #[.val (.int p1), .val (.int p2), .val (.int p3), .val (.int p4), .val (.int p5), .val (.int p6), .val (.ref b1), .unset, .unset, .unset] [(.ref b1)])) (fun t kt => XS.aload X8.here hx rfl (hb hby at_46) rfl rfl kt) ?_
  refine own_go (A := T8.setTop (mkF m 49 #[.val (.int p1), .val (.int p2), .val (.int p3), .val (.int p4), .val (.int p5), .val (.int p6), .val (.ref b1), .unset, .unset, .unset] [(.int (1 : Int32)), (.ref b1)])) (fun t kt => XS.iconst X8.here hx rfl (hb hby at_48) kt) ?_
  refine own_go (A := T8.setTop (mkF m 50 #[.val (.int p1), .val (.int p2), .val (.int p3), .val (.int p4), .val (.int p5), .val (.int p6), .val (.ref b1), .unset, .unset, .unset] [(.int (3 : Int32)), (.int (1 : Int32)), (.ref b1)])) (fun t kt => XS.iconst X8.here hx rfl (hb hby at_49) kt) ?_
  obtain ⟨_, _, ⟨T9, L9, k9, n9⟩, -, X9, ⟨Lc9, hQ9, l9, y9, z9⟩, st9⟩ := Jvm.LawKit.callS X8 hx (y := (⟨"com/example/collation/collation/value/TreeFirstAtOrAfterPinLaw", "order", "([III)V"⟩ : MethodName)) hown (mvT hZ (hw _ (List.mem_of_getElem? (i := 1) rfl))) (mvT hZ (hw _ (List.mem_of_getElem? (i := 2) rfl))) (mvT hZ (hw _ (List.mem_of_getElem? (i := 3) rfl))) (mvT hZ (hw _ (List.mem_of_getElem? (i := 4) rfl))) (by decide) (backOf (W := 0) (rm1 l Z a0 hw [] b1 (1 : Int32) (3 : Int32) f8 1 3 T8.heap n0 sz8 A8 ga_b1 (by decide) (by decide) (by decide) (by decide) (by decide) (by decide)) hZ (hw _ (List.mem_of_getElem? (i := 4) rfl)) (hw _ (List.mem_of_getElem? (i := 3) rfl)) (by decide) (by decide)) (g := (mkF m 50 #[.val (.int p1), .val (.int p2), .val (.int p3), .val (.int p4), .val (.int p5), .val (.int p6), .val (.ref b1), .unset, .unset, .unset] [(.int (3 : Int32)), (.int (1 : Int32)), (.ref b1)])) rfl (by rw [hml]; rfl) (argsL := [(.ref b1), (.int (1 : Int32)), (.int (3 : Int32))]) (rest := []) (lenOf pd_1 rfl) rfl (by show 2 * 0 + _ ≤ _; exact Nat.le_of_eq rfl) (hb hby at_50) (fun _ _ => ⟨rfl, rfl, (by decide : 1 + 0 ≤ _), (by decide : 4 + 0 ≤ _)⟩)
  dsimp only [Pt.U, Pt.locs, Pt.cells, Pt.slots] at X9 l9 y9 z9 st9 hQ9
  subst l9 y9 z9
  obtain ⟨rfl, N9q, A9, Sz9⟩ := hQ9
  have N9 := Fr.app N8 N9q
  have sz9 : n0 ≤ T9.heap.size := Nat.le_trans sz8 Sz9
  obtain ⟨f9, hf9⟩ : ∃ z, z = own_ord f8 1 3 := ⟨_, rfl⟩
  rw [← hf9] at A9
  refine own_go (A := T9.setTop (mkF m 53 #[.val (.int p1), .val (.int p2), .val (.int p3), .val (.int p4), .val (.int p5), .val (.int p6), .val (.ref b1), .unset, .unset, .unset] [])) st9 ?_
  refine own_go (A := T9.setTop (mkF m 55 #[.val (.int p1), .val (.int p2), .val (.int p3), .val (.int p4), .val (.int p5), .val (.int p6), .val (.ref b1), .unset, .unset, .unset] [(.ref b1)])) (fun t kt => XS.aload X9.here hx rfl (hb hby at_53) rfl rfl kt) ?_
  refine own_go (A := T9.setTop (mkF m 56 #[.val (.int p1), .val (.int p2), .val (.int p3), .val (.int p4), .val (.int p5), .val (.int p6), .val (.ref b1), .unset, .unset, .unset] [(.int (1 : Int32)), (.ref b1)])) (fun t kt => XS.iconst X9.here hx rfl (hb hby at_55) kt) ?_
  refine own_go (A := T9.setTop (mkF m 57 #[.val (.int p1), .val (.int p2), .val (.int p3), .val (.int p4), .val (.int p5), .val (.int p6), .val (.ref b1), .unset, .unset, .unset] [(.int (2 : Int32)), (.int (1 : Int32)), (.ref b1)])) (fun t kt => XS.iconst X9.here hx rfl (hb hby at_56) kt) ?_
  obtain ⟨_, _, ⟨T10, L10, k10, n10⟩, -, X10, ⟨Lc10, hQ10, l10, y10, z10⟩, st10⟩ := Jvm.LawKit.callS X9 hx (y := (⟨"com/example/collation/collation/value/TreeFirstAtOrAfterPinLaw", "order", "([III)V"⟩ : MethodName)) hown (mvT hZ (hw _ (List.mem_of_getElem? (i := 1) rfl))) (mvT hZ (hw _ (List.mem_of_getElem? (i := 2) rfl))) (mvT hZ (hw _ (List.mem_of_getElem? (i := 3) rfl))) (mvT hZ (hw _ (List.mem_of_getElem? (i := 4) rfl))) (by decide) (backOf (W := 0) (rm1 l Z a0 hw [] b1 (1 : Int32) (2 : Int32) f9 1 2 T9.heap n0 sz9 A9 ga_b1 (by decide) (by decide) (by decide) (by decide) (by decide) (by decide)) hZ (hw _ (List.mem_of_getElem? (i := 4) rfl)) (hw _ (List.mem_of_getElem? (i := 3) rfl)) (by decide) (by decide)) (g := (mkF m 57 #[.val (.int p1), .val (.int p2), .val (.int p3), .val (.int p4), .val (.int p5), .val (.int p6), .val (.ref b1), .unset, .unset, .unset] [(.int (2 : Int32)), (.int (1 : Int32)), (.ref b1)])) rfl (by rw [hml]; rfl) (argsL := [(.ref b1), (.int (1 : Int32)), (.int (2 : Int32))]) (rest := []) (lenOf pd_1 rfl) rfl (by show 2 * 0 + _ ≤ _; exact Nat.le_of_eq rfl) (hb hby at_57) (fun _ _ => ⟨rfl, rfl, (by decide : 1 + 0 ≤ _), (by decide : 4 + 0 ≤ _)⟩)
  dsimp only [Pt.U, Pt.locs, Pt.cells, Pt.slots] at X10 l10 y10 z10 st10 hQ10
  subst l10 y10 z10
  obtain ⟨rfl, N10q, A10, Sz10⟩ := hQ10
  have N10 := Fr.app N9 N10q
  have sz10 : n0 ≤ T10.heap.size := Nat.le_trans sz9 Sz10
  obtain ⟨f10, hf10⟩ : ∃ z, z = own_ord f9 1 2 := ⟨_, rfl⟩
  rw [← hf10] at A10
  refine own_go (A := T10.setTop (mkF m 60 #[.val (.int p1), .val (.int p2), .val (.int p3), .val (.int p4), .val (.int p5), .val (.int p6), .val (.ref b1), .unset, .unset, .unset] [])) st10 ?_
  refine own_go (A := T10.setTop (mkF m 62 #[.val (.int p1), .val (.int p2), .val (.int p3), .val (.int p4), .val (.int p5), .val (.int p6), .val (.ref b1), .unset, .unset, .unset] [(.int p6)])) (fun t kt => XS.iload X10.here hx rfl (hb hby at_60) rfl kt) ?_
  refine own_go (A := T10.setTop (mkF m 64 #[.val (.int p1), .val (.int p2), .val (.int p3), .val (.int p4), .val (.int p5), .val (.int p6), .val (.ref b1), .unset, .unset, .unset] [(.int (2147483647 : Int32)), (.int p6)])) (fun t kt => X10.ldcInt hx hown (mvT hZ (hw _ (List.mem_of_getElem? (i := 5) rfl))) (g := (mkF m 62 #[.val (.int p1), .val (.int p2), .val (.int p3), .val (.int p4), .val (.int p5), .val (.int p6), .val (.ref b1), .unset, .unset, .unset] [(.int p6)])) rfl (hb hby at_62) _ kt) ?_
  refine own_go (A := T10.setTop (mkF m 65 #[.val (.int p1), .val (.int p2), .val (.int p3), .val (.int p4), .val (.int p5), .val (.int p6), .val (.ref b1), .unset, .unset, .unset] [(.int (p6 &&& (2147483647 : Int32)))])) (fun t kt => XS.iand X10.here hx rfl (hb hby at_64) rfl kt) ?_
  refine own_go (A := T10.setTop (mkF m 66 #[.val (.int p1), .val (.int p2), .val (.int p3), .val (.int p4), .val (.int p5), .val (.int p6), .val (.ref b1), .unset, .unset, .unset] [(.int (5 : Int32)), (.int (p6 &&& (2147483647 : Int32)))])) (fun t kt => XS.iconst X10.here hx rfl (hb hby at_65) kt) ?_
  refine own_go (A := T10.setTop (mkF m 67 #[.val (.int p1), .val (.int p2), .val (.int p3), .val (.int p4), .val (.int p5), .val (.int p6), .val (.ref b1), .unset, .unset, .unset] [(.int ((p6 &&& (2147483647 : Int32)) - ((p6 &&& (2147483647 : Int32)) / (5 : Int32)) * (5 : Int32)))])) (fun t kt => XS.irem X10.here hx rfl (hb hby at_66) rfl (by decide) kt) ?_
  have hsort := own_sorted hf6 hf7 hf8 hf9 hf10
  clear hf10 hf9 hf8 hf7 hf6
  obtain ⟨k, hk, hop⟩ := own_cnt p6
  rw [hop]
  clear hop
  match k, hk with
  | 0, _ =>
    show ∃ s₂ o, Steps p.tables e below (T10.setTop (mkF m 67 #[.val (.int p1), .val (.int p2), .val (.int p3), .val (.int p4), .val (.int p5), .val (.int p6), .val (.ref b1), .unset, .unset, .unset] [(.int (0 : Int32))])) s₂ ∧ _
    refine own_go (A := T10.setTop (mkF m 69 #[.val (.int p1), .val (.int p2), .val (.int p3), .val (.int p4), .val (.int p5), .val (.int p6), .val (.ref b1), .val (.int (0 : Int32)), .unset, .unset] [])) (fun t kt => XS.istore X10.here hx rfl (hb hby at_67) rfl (l' := #[.val (.int p1), .val (.int p2), .val (.int p3), .val (.int p4), .val (.int p5), .val (.int p6), .val (.ref b1), .val (.int (0 : Int32)), .unset, .unset]) rfl kt) ?_
    refine own_go (A := T10.setTop (mkF m 71 #[.val (.int p1), .val (.int p2), .val (.int p3), .val (.int p4), .val (.int p5), .val (.int p6), .val (.ref b1), .val (.int (0 : Int32)), .unset, .unset] [(.int (0 : Int32))])) (fun t kt => XS.iload X10.here hx rfl (hb hby at_69) rfl kt) ?_
    refine own_go (A := T10.setTop (mkF m 89 #[.val (.int p1), .val (.int p2), .val (.int p3), .val (.int p4), .val (.int p5), .val (.int p6), .val (.ref b1), .val (.int (0 : Int32)), .unset, .unset] [])) (fun t kt => XS.ifYes X10.here hx rfl (pc0 := 71) (pc' := 89) rfl (hb hby at_71) rfl ((if0 _ _).trans (flt (by decide : ¬ ((0 : Int32) < (0 : Int32)))).2.2.2) (by decide) (by decide) kt) ?_
    refine own_go (A := T10.setTop (mkF m 91 #[.val (.int p1), .val (.int p2), .val (.int p3), .val (.int p4), .val (.int p5), .val (.int p6), .val (.ref b1), .val (.int (0 : Int32)), .unset, .unset] [(.int (0 : Int32))])) (fun t kt => XS.iload X10.here hx rfl (hb hby at_89) rfl kt) ?_
    refine own_go (A := T10.setTop (mkF m 92 #[.val (.int p1), .val (.int p2), .val (.int p3), .val (.int p4), .val (.int p5), .val (.int p6), .val (.ref b1), .val (.int (0 : Int32)), .unset, .unset] [(.int (1 : Int32)), (.int (0 : Int32))])) (fun t kt => XS.iconst X10.here hx rfl (hb hby at_91) kt) ?_
    refine own_go (A := T10.setTop (mkF m 110 #[.val (.int p1), .val (.int p2), .val (.int p3), .val (.int p4), .val (.int p5), .val (.int p6), .val (.ref b1), .val (.int (0 : Int32)), .unset, .unset] [])) (fun t kt => XS.icmpYes X10.here hx rfl (pc0 := 92) (pc' := 110) rfl (hb hby at_92) rfl (flt (by decide : ¬ ((1 : Int32) < (0 : Int32)))).2.2.2 (by decide) (by decide) kt) ?_
    refine own_go (A := T10.setTop (mkF m 112 #[.val (.int p1), .val (.int p2), .val (.int p3), .val (.int p4), .val (.int p5), .val (.int p6), .val (.ref b1), .val (.int (0 : Int32)), .unset, .unset] [(.int (0 : Int32))])) (fun t kt => XS.iload X10.here hx rfl (hb hby at_110) rfl kt) ?_
    refine own_go (A := T10.setTop (mkF m 113 #[.val (.int p1), .val (.int p2), .val (.int p3), .val (.int p4), .val (.int p5), .val (.int p6), .val (.ref b1), .val (.int (0 : Int32)), .unset, .unset] [(.int (2 : Int32)), (.int (0 : Int32))])) (fun t kt => XS.iconst X10.here hx rfl (hb hby at_112) kt) ?_
    refine own_go (A := T10.setTop (mkF m 131 #[.val (.int p1), .val (.int p2), .val (.int p3), .val (.int p4), .val (.int p5), .val (.int p6), .val (.ref b1), .val (.int (0 : Int32)), .unset, .unset] [])) (fun t kt => XS.icmpYes X10.here hx rfl (pc0 := 113) (pc' := 131) rfl (hb hby at_113) rfl (flt (by decide : ¬ ((2 : Int32) < (0 : Int32)))).2.2.2 (by decide) (by decide) kt) ?_
    refine own_go (A := T10.setTop (mkF m 133 #[.val (.int p1), .val (.int p2), .val (.int p3), .val (.int p4), .val (.int p5), .val (.int p6), .val (.ref b1), .val (.int (0 : Int32)), .unset, .unset] [(.int (0 : Int32))])) (fun t kt => XS.iload X10.here hx rfl (hb hby at_131) rfl kt) ?_
    refine own_go (A := T10.setTop (mkF m 134 #[.val (.int p1), .val (.int p2), .val (.int p3), .val (.int p4), .val (.int p5), .val (.int p6), .val (.ref b1), .val (.int (0 : Int32)), .unset, .unset] [(.int (3 : Int32)), (.int (0 : Int32))])) (fun t kt => XS.iconst X10.here hx rfl (hb hby at_133) kt) ?_
    refine own_go (A := T10.setTop (mkF m 152 #[.val (.int p1), .val (.int p2), .val (.int p3), .val (.int p4), .val (.int p5), .val (.int p6), .val (.ref b1), .val (.int (0 : Int32)), .unset, .unset] [])) (fun t kt => XS.icmpYes X10.here hx rfl (pc0 := 134) (pc' := 152) rfl (hb hby at_134) rfl (flt (by decide : ¬ ((3 : Int32) < (0 : Int32)))).2.2.2 (by decide) (by decide) kt) ?_
    refine own_go (A := T10.setTop (mkF m 154 #[.val (.int p1), .val (.int p2), .val (.int p3), .val (.int p4), .val (.int p5), .val (.int p6), .val (.ref b1), .val (.int (0 : Int32)), .unset, .unset] [(.int (0 : Int32))])) (fun t kt => XS.iload X10.here hx rfl (hb hby at_152) rfl kt) ?_
    refine own_go (A := T10.setTop (mkF m 156 #[.val (.int p1), .val (.int p2), .val (.int p3), .val (.int p4), .val (.int p5), .val (.int p6), .val (.ref b1), .val (.int (0 : Int32)), .val (.int (0 : Int32)), .unset] [])) (fun t kt => XS.istore X10.here hx rfl (hb hby at_154) rfl (l' := #[.val (.int p1), .val (.int p2), .val (.int p3), .val (.int p4), .val (.int p5), .val (.int p6), .val (.ref b1), .val (.int (0 : Int32)), .val (.int (0 : Int32)), .unset]) rfl kt) ?_
    refine own_go (A := T10.setTop (mkF m 158 #[.val (.int p1), .val (.int p2), .val (.int p3), .val (.int p4), .val (.int p5), .val (.int p6), .val (.ref b1), .val (.int (0 : Int32)), .val (.int (0 : Int32)), .unset] [(.ref b1)])) (fun t kt => XS.aload X10.here hx rfl (hb hby at_156) rfl rfl kt) ?_
    refine own_go (A := T10.setTop (mkF m 160 #[.val (.int p1), .val (.int p2), .val (.int p3), .val (.int p4), .val (.int p5), .val (.int p6), .val (.ref b1), .val (.int (0 : Int32)), .val (.int (0 : Int32)), .unset] [(.int (0 : Int32)), (.ref b1)])) (fun t kt => XS.iload X10.here hx rfl (hb hby at_158) rfl kt) ?_
    refine own_go (A := T10.setTop (mkF m 162 #[.val (.int p1), .val (.int p2), .val (.int p3), .val (.int p4), .val (.int p5), .val (.int p6), .val (.ref b1), .val (.int (0 : Int32)), .val (.int (0 : Int32)), .unset] [(.int p5), (.int (0 : Int32)), (.ref b1)])) (fun t kt => XS.iload X10.here hx rfl (hb hby at_160) rfl kt) ?_
    obtain ⟨_, _, ⟨T11, L11, k11, n11⟩, -, X11, ⟨Lc11, hQ11, l11, y11, z11⟩, st11⟩ := Jvm.LawKit.callS X10 hx (y := (⟨"com/example/collation/collation/value/Tree", "firstAtOrAfter", "([III)I"⟩ : MethodName)) hown (mvT hZ (hw _ (List.mem_of_getElem? (i := 6) rfl))) (mvT hZ (hw _ (List.mem_of_getElem? (i := 7) rfl))) (mvT hZ (hw _ (List.mem_of_getElem? (i := 8) rfl))) (mvT hZ (hw _ (List.mem_of_getElem? (i := 9) rfl))) (by decide) (backOf (W := 0) (rm2 l Z a0 hw [] b1 (0 : Int32) p5 f10 0 T10.heap n0 sz10 A10 (by decide) rfl) hZ (hw _ (List.mem_of_getElem? (i := 9) rfl)) (hw _ (List.mem_of_getElem? (i := 8) rfl)) (by decide) (by decide)) (g := (mkF m 162 #[.val (.int p1), .val (.int p2), .val (.int p3), .val (.int p4), .val (.int p5), .val (.int p6), .val (.ref b1), .val (.int (0 : Int32)), .val (.int (0 : Int32)), .unset] [(.int p5), (.int (0 : Int32)), (.ref b1)])) rfl (by rw [hml]; rfl) (argsL := [(.ref b1), (.int (0 : Int32)), (.int p5)]) (rest := []) (lenOf pd_2 rfl) rfl (by show 2 * 0 + _ ≤ _; exact Nat.le_of_eq rfl) (hb hby at_162) (fun _ _ => ⟨rfl, rfl, (by decide : 1 + 0 ≤ _), (by decide : 4 + 0 ≤ _)⟩)
    dsimp only [Pt.U, Pt.locs, Pt.cells, Pt.slots] at X11 l11 y11 z11 st11 hQ11
    subst l11 y11 z11
    obtain ⟨rfl, N11q, g11⟩ := hQ11
    have N11 := Fr.app N10 N11q
    refine own_go (A := T11.setTop (mkF m 165 #[.val (.int p1), .val (.int p2), .val (.int p3), .val (.int p4), .val (.int p5), .val (.int p6), .val (.ref b1), .val (.int (0 : Int32)), .val (.int (0 : Int32)), .unset] [(.int (own_find 0 f10 p5))])) st11 ?_
    refine own_go (A := T11.setTop (mkF m 167 #[.val (.int p1), .val (.int p2), .val (.int p3), .val (.int p4), .val (.int p5), .val (.int p6), .val (.ref b1), .val (.int (0 : Int32)), .val (.int (0 : Int32)), .val (.int (own_find 0 f10 p5))] [])) (fun t kt => XS.istore X11.here hx rfl (hb hby at_165) rfl (l' := #[.val (.int p1), .val (.int p2), .val (.int p3), .val (.int p4), .val (.int p5), .val (.int p6), .val (.ref b1), .val (.int (0 : Int32)), .val (.int (0 : Int32)), .val (.int (own_find 0 f10 p5))]) rfl kt) ?_
    refine own_go (A := T11.setTop (mkF m 169 #[.val (.int p1), .val (.int p2), .val (.int p3), .val (.int p4), .val (.int p5), .val (.int p6), .val (.ref b1), .val (.int (0 : Int32)), .val (.int (0 : Int32)), .val (.int (own_find 0 f10 p5))] [(.int (own_find 0 f10 p5))])) (fun t kt => XS.iload X11.here hx rfl (hb hby at_167) rfl kt) ?_
    refine own_go (A := T11.setTop (mkF m 171 #[.val (.int p1), .val (.int p2), .val (.int p3), .val (.int p4), .val (.int p5), .val (.int p6), .val (.ref b1), .val (.int (0 : Int32)), .val (.int (0 : Int32)), .val (.int (own_find 0 f10 p5))] [(.int (0 : Int32)), (.int (own_find 0 f10 p5))])) (fun t kt => XS.iload X11.here hx rfl (hb hby at_169) rfl kt) ?_
    refine own_go (A := T11.setTop (mkF m 174 #[.val (.int p1), .val (.int p2), .val (.int p3), .val (.int p4), .val (.int p5), .val (.int p6), .val (.ref b1), .val (.int (0 : Int32)), .val (.int (0 : Int32)), .val (.int (own_find 0 f10 p5))] [])) (fun t kt => XS.icmpNo X11.here hx rfl (hb hby at_171) rfl (teq (rfl : (own_find 0 f10 p5) = (0 : Int32))).2 kt) ?_
    refine own_go (A := T11.setTop (mkF m 175 #[.val (.int p1), .val (.int p2), .val (.int p3), .val (.int p4), .val (.int p5), .val (.int p6), .val (.ref b1), .val (.int (0 : Int32)), .val (.int (0 : Int32)), .val (.int (own_find 0 f10 p5))] [(.int (1 : Int32))])) (fun t kt => XS.iconst X11.here hx rfl (hb hby at_174) kt) ?_
    refine own_go (A := T11.setTop (mkF m 179 #[.val (.int p1), .val (.int p2), .val (.int p3), .val (.int p4), .val (.int p5), .val (.int p6), .val (.ref b1), .val (.int (0 : Int32)), .val (.int (0 : Int32)), .val (.int (own_find 0 f10 p5))] [(.int (1 : Int32))])) (fun t kt => XS.goto X11.here hx rfl (pc0 := 175) (pc' := 179) rfl (hb hby at_175) (by decide) (by decide) kt) ?_
    obtain ⟨fs, hr, hrun, hended, hW, hsame⟩ := X11.leave (v := some (.int (1 : Int32))) (fun h => by rw [Bd.returns] at h; cases h)
    exact ⟨_, _, retN X11 hx (t := .boolean) Bd.returns (by simp) (hb hby at_179) hr, hrun, hended, _, _, rfl, ⟨rfl, N11⟩, ⟨_, rfl⟩, hW, hsame.mono (by decide) (by decide)⟩
  | 1, _ =>
    show ∃ s₂ o, Steps p.tables e below (T10.setTop (mkF m 67 #[.val (.int p1), .val (.int p2), .val (.int p3), .val (.int p4), .val (.int p5), .val (.int p6), .val (.ref b1), .unset, .unset, .unset] [(.int (1 : Int32))])) s₂ ∧ _
    refine own_go (A := T10.setTop (mkF m 69 #[.val (.int p1), .val (.int p2), .val (.int p3), .val (.int p4), .val (.int p5), .val (.int p6), .val (.ref b1), .val (.int (1 : Int32)), .unset, .unset] [])) (fun t kt => XS.istore X10.here hx rfl (hb hby at_67) rfl (l' := #[.val (.int p1), .val (.int p2), .val (.int p3), .val (.int p4), .val (.int p5), .val (.int p6), .val (.ref b1), .val (.int (1 : Int32)), .unset, .unset]) rfl kt) ?_
    refine own_go (A := T10.setTop (mkF m 71 #[.val (.int p1), .val (.int p2), .val (.int p3), .val (.int p4), .val (.int p5), .val (.int p6), .val (.ref b1), .val (.int (1 : Int32)), .unset, .unset] [(.int (1 : Int32))])) (fun t kt => XS.iload X10.here hx rfl (hb hby at_69) rfl kt) ?_
    refine own_go (A := T10.setTop (mkF m 74 #[.val (.int p1), .val (.int p2), .val (.int p3), .val (.int p4), .val (.int p5), .val (.int p6), .val (.ref b1), .val (.int (1 : Int32)), .unset, .unset] [])) (fun t kt => XS.ifNo X10.here hx rfl (hb hby at_71) rfl ((if0 _ _).trans (tlt (by decide : (0 : Int32) < (1 : Int32))).2.2.2) kt) ?_
    refine own_go (A := T10.setTop (mkF m 76 #[.val (.int p1), .val (.int p2), .val (.int p3), .val (.int p4), .val (.int p5), .val (.int p6), .val (.ref b1), .val (.int (1 : Int32)), .unset, .unset] [(.ref b1)])) (fun t kt => XS.aload X10.here hx rfl (hb hby at_74) rfl rfl kt) ?_
    refine own_go (A := T10.setTop (mkF m 77 #[.val (.int p1), .val (.int p2), .val (.int p3), .val (.int p4), .val (.int p5), .val (.int p6), .val (.ref b1), .val (.int (1 : Int32)), .unset, .unset] [(.int (0 : Int32)), (.ref b1)])) (fun t kt => XS.iconst X10.here hx rfl (hb hby at_76) kt) ?_
    refine own_go (A := T10.setTop (mkF m 78 #[.val (.int p1), .val (.int p2), .val (.int p3), .val (.int p4), .val (.int p5), .val (.int p6), .val (.ref b1), .val (.int (1 : Int32)), .unset, .unset] [(.int (f10 0))])) (own_get X10 hx hZ rfl A10 0 (by decide) (by decide) (by decide) (g := (mkF m 77 #[.val (.int p1), .val (.int p2), .val (.int p3), .val (.int p4), .val (.int p5), .val (.int p6), .val (.ref b1), .val (.int (1 : Int32)), .unset, .unset] [(.int (0 : Int32)), (.ref b1)])) rfl rfl (hb hby at_77)) ?_
    refine own_go (A := T10.setTop (mkF m 80 #[.val (.int p1), .val (.int p2), .val (.int p3), .val (.int p4), .val (.int p5), .val (.int p6), .val (.ref b1), .val (.int (1 : Int32)), .unset, .unset] [(.int p5), (.int (f10 0))])) (fun t kt => XS.iload X10.here hx rfl (hb hby at_78) rfl kt) ?_
    by_cases hc80 : (f10 0) < p5
    · refine own_go (A := T10.setTop (mkF m 89 #[.val (.int p1), .val (.int p2), .val (.int p3), .val (.int p4), .val (.int p5), .val (.int p6), .val (.ref b1), .val (.int (1 : Int32)), .unset, .unset] [])) (fun t kt => XS.icmpYes X10.here hx rfl (pc0 := 80) (pc' := 89) rfl (hb hby at_80) rfl (tlt hc80).1 (by decide) (by decide) kt) ?_
      refine own_go (A := T10.setTop (mkF m 91 #[.val (.int p1), .val (.int p2), .val (.int p3), .val (.int p4), .val (.int p5), .val (.int p6), .val (.ref b1), .val (.int (1 : Int32)), .unset, .unset] [(.int (1 : Int32))])) (fun t kt => XS.iload X10.here hx rfl (hb hby at_89) rfl kt) ?_
      refine own_go (A := T10.setTop (mkF m 92 #[.val (.int p1), .val (.int p2), .val (.int p3), .val (.int p4), .val (.int p5), .val (.int p6), .val (.ref b1), .val (.int (1 : Int32)), .unset, .unset] [(.int (1 : Int32)), (.int (1 : Int32))])) (fun t kt => XS.iconst X10.here hx rfl (hb hby at_91) kt) ?_
      refine own_go (A := T10.setTop (mkF m 110 #[.val (.int p1), .val (.int p2), .val (.int p3), .val (.int p4), .val (.int p5), .val (.int p6), .val (.ref b1), .val (.int (1 : Int32)), .unset, .unset] [])) (fun t kt => XS.icmpYes X10.here hx rfl (pc0 := 92) (pc' := 110) rfl (hb hby at_92) rfl (flt (by decide : ¬ ((1 : Int32) < (1 : Int32)))).2.2.2 (by decide) (by decide) kt) ?_
      refine own_go (A := T10.setTop (mkF m 112 #[.val (.int p1), .val (.int p2), .val (.int p3), .val (.int p4), .val (.int p5), .val (.int p6), .val (.ref b1), .val (.int (1 : Int32)), .unset, .unset] [(.int (1 : Int32))])) (fun t kt => XS.iload X10.here hx rfl (hb hby at_110) rfl kt) ?_
      refine own_go (A := T10.setTop (mkF m 113 #[.val (.int p1), .val (.int p2), .val (.int p3), .val (.int p4), .val (.int p5), .val (.int p6), .val (.ref b1), .val (.int (1 : Int32)), .unset, .unset] [(.int (2 : Int32)), (.int (1 : Int32))])) (fun t kt => XS.iconst X10.here hx rfl (hb hby at_112) kt) ?_
      refine own_go (A := T10.setTop (mkF m 131 #[.val (.int p1), .val (.int p2), .val (.int p3), .val (.int p4), .val (.int p5), .val (.int p6), .val (.ref b1), .val (.int (1 : Int32)), .unset, .unset] [])) (fun t kt => XS.icmpYes X10.here hx rfl (pc0 := 113) (pc' := 131) rfl (hb hby at_113) rfl (flt (by decide : ¬ ((2 : Int32) < (1 : Int32)))).2.2.2 (by decide) (by decide) kt) ?_
      refine own_go (A := T10.setTop (mkF m 133 #[.val (.int p1), .val (.int p2), .val (.int p3), .val (.int p4), .val (.int p5), .val (.int p6), .val (.ref b1), .val (.int (1 : Int32)), .unset, .unset] [(.int (1 : Int32))])) (fun t kt => XS.iload X10.here hx rfl (hb hby at_131) rfl kt) ?_
      refine own_go (A := T10.setTop (mkF m 134 #[.val (.int p1), .val (.int p2), .val (.int p3), .val (.int p4), .val (.int p5), .val (.int p6), .val (.ref b1), .val (.int (1 : Int32)), .unset, .unset] [(.int (3 : Int32)), (.int (1 : Int32))])) (fun t kt => XS.iconst X10.here hx rfl (hb hby at_133) kt) ?_
      refine own_go (A := T10.setTop (mkF m 152 #[.val (.int p1), .val (.int p2), .val (.int p3), .val (.int p4), .val (.int p5), .val (.int p6), .val (.ref b1), .val (.int (1 : Int32)), .unset, .unset] [])) (fun t kt => XS.icmpYes X10.here hx rfl (pc0 := 134) (pc' := 152) rfl (hb hby at_134) rfl (flt (by decide : ¬ ((3 : Int32) < (1 : Int32)))).2.2.2 (by decide) (by decide) kt) ?_
      refine own_go (A := T10.setTop (mkF m 154 #[.val (.int p1), .val (.int p2), .val (.int p3), .val (.int p4), .val (.int p5), .val (.int p6), .val (.ref b1), .val (.int (1 : Int32)), .unset, .unset] [(.int (1 : Int32))])) (fun t kt => XS.iload X10.here hx rfl (hb hby at_152) rfl kt) ?_
      refine own_go (A := T10.setTop (mkF m 156 #[.val (.int p1), .val (.int p2), .val (.int p3), .val (.int p4), .val (.int p5), .val (.int p6), .val (.ref b1), .val (.int (1 : Int32)), .val (.int (1 : Int32)), .unset] [])) (fun t kt => XS.istore X10.here hx rfl (hb hby at_154) rfl (l' := #[.val (.int p1), .val (.int p2), .val (.int p3), .val (.int p4), .val (.int p5), .val (.int p6), .val (.ref b1), .val (.int (1 : Int32)), .val (.int (1 : Int32)), .unset]) rfl kt) ?_
      refine own_go (A := T10.setTop (mkF m 158 #[.val (.int p1), .val (.int p2), .val (.int p3), .val (.int p4), .val (.int p5), .val (.int p6), .val (.ref b1), .val (.int (1 : Int32)), .val (.int (1 : Int32)), .unset] [(.ref b1)])) (fun t kt => XS.aload X10.here hx rfl (hb hby at_156) rfl rfl kt) ?_
      refine own_go (A := T10.setTop (mkF m 160 #[.val (.int p1), .val (.int p2), .val (.int p3), .val (.int p4), .val (.int p5), .val (.int p6), .val (.ref b1), .val (.int (1 : Int32)), .val (.int (1 : Int32)), .unset] [(.int (1 : Int32)), (.ref b1)])) (fun t kt => XS.iload X10.here hx rfl (hb hby at_158) rfl kt) ?_
      refine own_go (A := T10.setTop (mkF m 162 #[.val (.int p1), .val (.int p2), .val (.int p3), .val (.int p4), .val (.int p5), .val (.int p6), .val (.ref b1), .val (.int (1 : Int32)), .val (.int (1 : Int32)), .unset] [(.int p5), (.int (1 : Int32)), (.ref b1)])) (fun t kt => XS.iload X10.here hx rfl (hb hby at_160) rfl kt) ?_
      obtain ⟨_, _, ⟨T12, L12, k12, n12⟩, -, X12, ⟨Lc12, hQ12, l12, y12, z12⟩, st12⟩ := Jvm.LawKit.callS X10 hx (y := (⟨"com/example/collation/collation/value/Tree", "firstAtOrAfter", "([III)I"⟩ : MethodName)) hown (mvT hZ (hw _ (List.mem_of_getElem? (i := 6) rfl))) (mvT hZ (hw _ (List.mem_of_getElem? (i := 7) rfl))) (mvT hZ (hw _ (List.mem_of_getElem? (i := 8) rfl))) (mvT hZ (hw _ (List.mem_of_getElem? (i := 9) rfl))) (by decide) (backOf (W := 0) (rm2 l Z a0 hw [] b1 (1 : Int32) p5 f10 1 T10.heap n0 sz10 A10 (by decide) rfl) hZ (hw _ (List.mem_of_getElem? (i := 9) rfl)) (hw _ (List.mem_of_getElem? (i := 8) rfl)) (by decide) (by decide)) (g := (mkF m 162 #[.val (.int p1), .val (.int p2), .val (.int p3), .val (.int p4), .val (.int p5), .val (.int p6), .val (.ref b1), .val (.int (1 : Int32)), .val (.int (1 : Int32)), .unset] [(.int p5), (.int (1 : Int32)), (.ref b1)])) rfl (by rw [hml]; rfl) (argsL := [(.ref b1), (.int (1 : Int32)), (.int p5)]) (rest := []) (lenOf pd_2 rfl) rfl (by show 2 * 0 + _ ≤ _; exact Nat.le_of_eq rfl) (hb hby at_162) (fun _ _ => ⟨rfl, rfl, (by decide : 1 + 0 ≤ _), (by decide : 4 + 0 ≤ _)⟩)
      dsimp only [Pt.U, Pt.locs, Pt.cells, Pt.slots] at X12 l12 y12 z12 st12 hQ12
      subst l12 y12 z12
      obtain ⟨rfl, N12q, g12⟩ := hQ12
      have N12 := Fr.app N10 N12q
      refine own_go (A := T12.setTop (mkF m 165 #[.val (.int p1), .val (.int p2), .val (.int p3), .val (.int p4), .val (.int p5), .val (.int p6), .val (.ref b1), .val (.int (1 : Int32)), .val (.int (1 : Int32)), .unset] [(.int (own_find 1 f10 p5))])) st12 ?_
      refine own_go (A := T12.setTop (mkF m 167 #[.val (.int p1), .val (.int p2), .val (.int p3), .val (.int p4), .val (.int p5), .val (.int p6), .val (.ref b1), .val (.int (1 : Int32)), .val (.int (1 : Int32)), .val (.int (own_find 1 f10 p5))] [])) (fun t kt => XS.istore X12.here hx rfl (hb hby at_165) rfl (l' := #[.val (.int p1), .val (.int p2), .val (.int p3), .val (.int p4), .val (.int p5), .val (.int p6), .val (.ref b1), .val (.int (1 : Int32)), .val (.int (1 : Int32)), .val (.int (own_find 1 f10 p5))]) rfl kt) ?_
      refine own_go (A := T12.setTop (mkF m 169 #[.val (.int p1), .val (.int p2), .val (.int p3), .val (.int p4), .val (.int p5), .val (.int p6), .val (.ref b1), .val (.int (1 : Int32)), .val (.int (1 : Int32)), .val (.int (own_find 1 f10 p5))] [(.int (own_find 1 f10 p5))])) (fun t kt => XS.iload X12.here hx rfl (hb hby at_167) rfl kt) ?_
      refine own_go (A := T12.setTop (mkF m 171 #[.val (.int p1), .val (.int p2), .val (.int p3), .val (.int p4), .val (.int p5), .val (.int p6), .val (.ref b1), .val (.int (1 : Int32)), .val (.int (1 : Int32)), .val (.int (own_find 1 f10 p5))] [(.int (1 : Int32)), (.int (own_find 1 f10 p5))])) (fun t kt => XS.iload X12.here hx rfl (hb hby at_169) rfl kt) ?_
      have hfin : (own_find 1 f10 p5) = (1 : Int32) := by
        show G1 f10 p5 = _
        unfold G1
        simp only [Int32.lt_iff_toInt_lt] at hc80
        simp only [Int32.lt_iff_toInt_lt]
        obtain ⟨q1, q2, q3⟩ := hsort
        repeat' split
        all_goals first | rfl | (exfalso; omega)
      refine own_go (A := T12.setTop (mkF m 174 #[.val (.int p1), .val (.int p2), .val (.int p3), .val (.int p4), .val (.int p5), .val (.int p6), .val (.ref b1), .val (.int (1 : Int32)), .val (.int (1 : Int32)), .val (.int (own_find 1 f10 p5))] [])) (fun t kt => XS.icmpNo X12.here hx rfl (hb hby at_171) rfl (teq (hfin : (own_find 1 f10 p5) = (1 : Int32))).2 kt) ?_
      refine own_go (A := T12.setTop (mkF m 175 #[.val (.int p1), .val (.int p2), .val (.int p3), .val (.int p4), .val (.int p5), .val (.int p6), .val (.ref b1), .val (.int (1 : Int32)), .val (.int (1 : Int32)), .val (.int (own_find 1 f10 p5))] [(.int (1 : Int32))])) (fun t kt => XS.iconst X12.here hx rfl (hb hby at_174) kt) ?_
      refine own_go (A := T12.setTop (mkF m 179 #[.val (.int p1), .val (.int p2), .val (.int p3), .val (.int p4), .val (.int p5), .val (.int p6), .val (.ref b1), .val (.int (1 : Int32)), .val (.int (1 : Int32)), .val (.int (own_find 1 f10 p5))] [(.int (1 : Int32))])) (fun t kt => XS.goto X12.here hx rfl (pc0 := 175) (pc' := 179) rfl (hb hby at_175) (by decide) (by decide) kt) ?_
      obtain ⟨fs, hr, hrun, hended, hW, hsame⟩ := X12.leave (v := some (.int (1 : Int32))) (fun h => by rw [Bd.returns] at h; cases h)
      exact ⟨_, _, retN X12 hx (t := .boolean) Bd.returns (by simp) (hb hby at_179) hr, hrun, hended, _, _, rfl, ⟨rfl, N12⟩, ⟨_, rfl⟩, hW, hsame.mono (by decide) (by decide)⟩
    · refine own_go (A := T10.setTop (mkF m 83 #[.val (.int p1), .val (.int p2), .val (.int p3), .val (.int p4), .val (.int p5), .val (.int p6), .val (.ref b1), .val (.int (1 : Int32)), .unset, .unset] [])) (fun t kt => XS.icmpNo X10.here hx rfl (hb hby at_80) rfl (flt hc80).1 kt) ?_
      refine own_go (A := T10.setTop (mkF m 84 #[.val (.int p1), .val (.int p2), .val (.int p3), .val (.int p4), .val (.int p5), .val (.int p6), .val (.ref b1), .val (.int (1 : Int32)), .unset, .unset] [(.int (0 : Int32))])) (fun t kt => XS.iconst X10.here hx rfl (hb hby at_83) kt) ?_
      refine own_go (A := T10.setTop (mkF m 86 #[.val (.int p1), .val (.int p2), .val (.int p3), .val (.int p4), .val (.int p5), .val (.int p6), .val (.ref b1), .val (.int (1 : Int32)), .val (.int (0 : Int32)), .unset] [])) (fun t kt => XS.istore X10.here hx rfl (hb hby at_84) rfl (l' := #[.val (.int p1), .val (.int p2), .val (.int p3), .val (.int p4), .val (.int p5), .val (.int p6), .val (.ref b1), .val (.int (1 : Int32)), .val (.int (0 : Int32)), .unset]) rfl kt) ?_
      refine own_go (A := T10.setTop (mkF m 156 #[.val (.int p1), .val (.int p2), .val (.int p3), .val (.int p4), .val (.int p5), .val (.int p6), .val (.ref b1), .val (.int (1 : Int32)), .val (.int (0 : Int32)), .unset] [])) (fun t kt => XS.goto X10.here hx rfl (pc0 := 86) (pc' := 156) rfl (hb hby at_86) (by decide) (by decide) kt) ?_
      refine own_go (A := T10.setTop (mkF m 158 #[.val (.int p1), .val (.int p2), .val (.int p3), .val (.int p4), .val (.int p5), .val (.int p6), .val (.ref b1), .val (.int (1 : Int32)), .val (.int (0 : Int32)), .unset] [(.ref b1)])) (fun t kt => XS.aload X10.here hx rfl (hb hby at_156) rfl rfl kt) ?_
      refine own_go (A := T10.setTop (mkF m 160 #[.val (.int p1), .val (.int p2), .val (.int p3), .val (.int p4), .val (.int p5), .val (.int p6), .val (.ref b1), .val (.int (1 : Int32)), .val (.int (0 : Int32)), .unset] [(.int (1 : Int32)), (.ref b1)])) (fun t kt => XS.iload X10.here hx rfl (hb hby at_158) rfl kt) ?_
      refine own_go (A := T10.setTop (mkF m 162 #[.val (.int p1), .val (.int p2), .val (.int p3), .val (.int p4), .val (.int p5), .val (.int p6), .val (.ref b1), .val (.int (1 : Int32)), .val (.int (0 : Int32)), .unset] [(.int p5), (.int (1 : Int32)), (.ref b1)])) (fun t kt => XS.iload X10.here hx rfl (hb hby at_160) rfl kt) ?_
      obtain ⟨_, _, ⟨T13, L13, k13, n13⟩, -, X13, ⟨Lc13, hQ13, l13, y13, z13⟩, st13⟩ := Jvm.LawKit.callS X10 hx (y := (⟨"com/example/collation/collation/value/Tree", "firstAtOrAfter", "([III)I"⟩ : MethodName)) hown (mvT hZ (hw _ (List.mem_of_getElem? (i := 6) rfl))) (mvT hZ (hw _ (List.mem_of_getElem? (i := 7) rfl))) (mvT hZ (hw _ (List.mem_of_getElem? (i := 8) rfl))) (mvT hZ (hw _ (List.mem_of_getElem? (i := 9) rfl))) (by decide) (backOf (W := 0) (rm2 l Z a0 hw [] b1 (1 : Int32) p5 f10 1 T10.heap n0 sz10 A10 (by decide) rfl) hZ (hw _ (List.mem_of_getElem? (i := 9) rfl)) (hw _ (List.mem_of_getElem? (i := 8) rfl)) (by decide) (by decide)) (g := (mkF m 162 #[.val (.int p1), .val (.int p2), .val (.int p3), .val (.int p4), .val (.int p5), .val (.int p6), .val (.ref b1), .val (.int (1 : Int32)), .val (.int (0 : Int32)), .unset] [(.int p5), (.int (1 : Int32)), (.ref b1)])) rfl (by rw [hml]; rfl) (argsL := [(.ref b1), (.int (1 : Int32)), (.int p5)]) (rest := []) (lenOf pd_2 rfl) rfl (by show 2 * 0 + _ ≤ _; exact Nat.le_of_eq rfl) (hb hby at_162) (fun _ _ => ⟨rfl, rfl, (by decide : 1 + 0 ≤ _), (by decide : 4 + 0 ≤ _)⟩)
      dsimp only [Pt.U, Pt.locs, Pt.cells, Pt.slots] at X13 l13 y13 z13 st13 hQ13
      subst l13 y13 z13
      obtain ⟨rfl, N13q, g13⟩ := hQ13
      have N13 := Fr.app N10 N13q
      refine own_go (A := T13.setTop (mkF m 165 #[.val (.int p1), .val (.int p2), .val (.int p3), .val (.int p4), .val (.int p5), .val (.int p6), .val (.ref b1), .val (.int (1 : Int32)), .val (.int (0 : Int32)), .unset] [(.int (own_find 1 f10 p5))])) st13 ?_
      refine own_go (A := T13.setTop (mkF m 167 #[.val (.int p1), .val (.int p2), .val (.int p3), .val (.int p4), .val (.int p5), .val (.int p6), .val (.ref b1), .val (.int (1 : Int32)), .val (.int (0 : Int32)), .val (.int (own_find 1 f10 p5))] [])) (fun t kt => XS.istore X13.here hx rfl (hb hby at_165) rfl (l' := #[.val (.int p1), .val (.int p2), .val (.int p3), .val (.int p4), .val (.int p5), .val (.int p6), .val (.ref b1), .val (.int (1 : Int32)), .val (.int (0 : Int32)), .val (.int (own_find 1 f10 p5))]) rfl kt) ?_
      refine own_go (A := T13.setTop (mkF m 169 #[.val (.int p1), .val (.int p2), .val (.int p3), .val (.int p4), .val (.int p5), .val (.int p6), .val (.ref b1), .val (.int (1 : Int32)), .val (.int (0 : Int32)), .val (.int (own_find 1 f10 p5))] [(.int (own_find 1 f10 p5))])) (fun t kt => XS.iload X13.here hx rfl (hb hby at_167) rfl kt) ?_
      refine own_go (A := T13.setTop (mkF m 171 #[.val (.int p1), .val (.int p2), .val (.int p3), .val (.int p4), .val (.int p5), .val (.int p6), .val (.ref b1), .val (.int (1 : Int32)), .val (.int (0 : Int32)), .val (.int (own_find 1 f10 p5))] [(.int (0 : Int32)), (.int (own_find 1 f10 p5))])) (fun t kt => XS.iload X13.here hx rfl (hb hby at_169) rfl kt) ?_
      have hfin : (own_find 1 f10 p5) = (0 : Int32) := by
        show G1 f10 p5 = _
        unfold G1
        simp only [Int32.lt_iff_toInt_lt] at hc80
        simp only [Int32.lt_iff_toInt_lt]
        obtain ⟨q1, q2, q3⟩ := hsort
        repeat' split
        all_goals first | rfl | (exfalso; omega)
      refine own_go (A := T13.setTop (mkF m 174 #[.val (.int p1), .val (.int p2), .val (.int p3), .val (.int p4), .val (.int p5), .val (.int p6), .val (.ref b1), .val (.int (1 : Int32)), .val (.int (0 : Int32)), .val (.int (own_find 1 f10 p5))] [])) (fun t kt => XS.icmpNo X13.here hx rfl (hb hby at_171) rfl (teq (hfin : (own_find 1 f10 p5) = (0 : Int32))).2 kt) ?_
      refine own_go (A := T13.setTop (mkF m 175 #[.val (.int p1), .val (.int p2), .val (.int p3), .val (.int p4), .val (.int p5), .val (.int p6), .val (.ref b1), .val (.int (1 : Int32)), .val (.int (0 : Int32)), .val (.int (own_find 1 f10 p5))] [(.int (1 : Int32))])) (fun t kt => XS.iconst X13.here hx rfl (hb hby at_174) kt) ?_
      refine own_go (A := T13.setTop (mkF m 179 #[.val (.int p1), .val (.int p2), .val (.int p3), .val (.int p4), .val (.int p5), .val (.int p6), .val (.ref b1), .val (.int (1 : Int32)), .val (.int (0 : Int32)), .val (.int (own_find 1 f10 p5))] [(.int (1 : Int32))])) (fun t kt => XS.goto X13.here hx rfl (pc0 := 175) (pc' := 179) rfl (hb hby at_175) (by decide) (by decide) kt) ?_
      obtain ⟨fs, hr, hrun, hended, hW, hsame⟩ := X13.leave (v := some (.int (1 : Int32))) (fun h => by rw [Bd.returns] at h; cases h)
      exact ⟨_, _, retN X13 hx (t := .boolean) Bd.returns (by simp) (hb hby at_179) hr, hrun, hended, _, _, rfl, ⟨rfl, N13⟩, ⟨_, rfl⟩, hW, hsame.mono (by decide) (by decide)⟩
  | 2, _ =>
    show ∃ s₂ o, Steps p.tables e below (T10.setTop (mkF m 67 #[.val (.int p1), .val (.int p2), .val (.int p3), .val (.int p4), .val (.int p5), .val (.int p6), .val (.ref b1), .unset, .unset, .unset] [(.int (2 : Int32))])) s₂ ∧ _
    refine own_go (A := T10.setTop (mkF m 69 #[.val (.int p1), .val (.int p2), .val (.int p3), .val (.int p4), .val (.int p5), .val (.int p6), .val (.ref b1), .val (.int (2 : Int32)), .unset, .unset] [])) (fun t kt => XS.istore X10.here hx rfl (hb hby at_67) rfl (l' := #[.val (.int p1), .val (.int p2), .val (.int p3), .val (.int p4), .val (.int p5), .val (.int p6), .val (.ref b1), .val (.int (2 : Int32)), .unset, .unset]) rfl kt) ?_
    refine own_go (A := T10.setTop (mkF m 71 #[.val (.int p1), .val (.int p2), .val (.int p3), .val (.int p4), .val (.int p5), .val (.int p6), .val (.ref b1), .val (.int (2 : Int32)), .unset, .unset] [(.int (2 : Int32))])) (fun t kt => XS.iload X10.here hx rfl (hb hby at_69) rfl kt) ?_
    refine own_go (A := T10.setTop (mkF m 74 #[.val (.int p1), .val (.int p2), .val (.int p3), .val (.int p4), .val (.int p5), .val (.int p6), .val (.ref b1), .val (.int (2 : Int32)), .unset, .unset] [])) (fun t kt => XS.ifNo X10.here hx rfl (hb hby at_71) rfl ((if0 _ _).trans (tlt (by decide : (0 : Int32) < (2 : Int32))).2.2.2) kt) ?_
    refine own_go (A := T10.setTop (mkF m 76 #[.val (.int p1), .val (.int p2), .val (.int p3), .val (.int p4), .val (.int p5), .val (.int p6), .val (.ref b1), .val (.int (2 : Int32)), .unset, .unset] [(.ref b1)])) (fun t kt => XS.aload X10.here hx rfl (hb hby at_74) rfl rfl kt) ?_
    refine own_go (A := T10.setTop (mkF m 77 #[.val (.int p1), .val (.int p2), .val (.int p3), .val (.int p4), .val (.int p5), .val (.int p6), .val (.ref b1), .val (.int (2 : Int32)), .unset, .unset] [(.int (0 : Int32)), (.ref b1)])) (fun t kt => XS.iconst X10.here hx rfl (hb hby at_76) kt) ?_
    refine own_go (A := T10.setTop (mkF m 78 #[.val (.int p1), .val (.int p2), .val (.int p3), .val (.int p4), .val (.int p5), .val (.int p6), .val (.ref b1), .val (.int (2 : Int32)), .unset, .unset] [(.int (f10 0))])) (own_get X10 hx hZ rfl A10 0 (by decide) (by decide) (by decide) (g := (mkF m 77 #[.val (.int p1), .val (.int p2), .val (.int p3), .val (.int p4), .val (.int p5), .val (.int p6), .val (.ref b1), .val (.int (2 : Int32)), .unset, .unset] [(.int (0 : Int32)), (.ref b1)])) rfl rfl (hb hby at_77)) ?_
    refine own_go (A := T10.setTop (mkF m 80 #[.val (.int p1), .val (.int p2), .val (.int p3), .val (.int p4), .val (.int p5), .val (.int p6), .val (.ref b1), .val (.int (2 : Int32)), .unset, .unset] [(.int p5), (.int (f10 0))])) (fun t kt => XS.iload X10.here hx rfl (hb hby at_78) rfl kt) ?_
    by_cases hc80 : (f10 0) < p5
    · refine own_go (A := T10.setTop (mkF m 89 #[.val (.int p1), .val (.int p2), .val (.int p3), .val (.int p4), .val (.int p5), .val (.int p6), .val (.ref b1), .val (.int (2 : Int32)), .unset, .unset] [])) (fun t kt => XS.icmpYes X10.here hx rfl (pc0 := 80) (pc' := 89) rfl (hb hby at_80) rfl (tlt hc80).1 (by decide) (by decide) kt) ?_
      refine own_go (A := T10.setTop (mkF m 91 #[.val (.int p1), .val (.int p2), .val (.int p3), .val (.int p4), .val (.int p5), .val (.int p6), .val (.ref b1), .val (.int (2 : Int32)), .unset, .unset] [(.int (2 : Int32))])) (fun t kt => XS.iload X10.here hx rfl (hb hby at_89) rfl kt) ?_
      refine own_go (A := T10.setTop (mkF m 92 #[.val (.int p1), .val (.int p2), .val (.int p3), .val (.int p4), .val (.int p5), .val (.int p6), .val (.ref b1), .val (.int (2 : Int32)), .unset, .unset] [(.int (1 : Int32)), (.int (2 : Int32))])) (fun t kt => XS.iconst X10.here hx rfl (hb hby at_91) kt) ?_
      refine own_go (A := T10.setTop (mkF m 95 #[.val (.int p1), .val (.int p2), .val (.int p3), .val (.int p4), .val (.int p5), .val (.int p6), .val (.ref b1), .val (.int (2 : Int32)), .unset, .unset] [])) (fun t kt => XS.icmpNo X10.here hx rfl (hb hby at_92) rfl (tlt (by decide : (1 : Int32) < (2 : Int32))).2.2.2 kt) ?_
      refine own_go (A := T10.setTop (mkF m 97 #[.val (.int p1), .val (.int p2), .val (.int p3), .val (.int p4), .val (.int p5), .val (.int p6), .val (.ref b1), .val (.int (2 : Int32)), .unset, .unset] [(.ref b1)])) (fun t kt => XS.aload X10.here hx rfl (hb hby at_95) rfl rfl kt) ?_
      refine own_go (A := T10.setTop (mkF m 98 #[.val (.int p1), .val (.int p2), .val (.int p3), .val (.int p4), .val (.int p5), .val (.int p6), .val (.ref b1), .val (.int (2 : Int32)), .unset, .unset] [(.int (1 : Int32)), (.ref b1)])) (fun t kt => XS.iconst X10.here hx rfl (hb hby at_97) kt) ?_
      refine own_go (A := T10.setTop (mkF m 99 #[.val (.int p1), .val (.int p2), .val (.int p3), .val (.int p4), .val (.int p5), .val (.int p6), .val (.ref b1), .val (.int (2 : Int32)), .unset, .unset] [(.int (f10 1))])) (own_get X10 hx hZ rfl A10 1 (by decide) (by decide) (by decide) (g := (mkF m 98 #[.val (.int p1), .val (.int p2), .val (.int p3), .val (.int p4), .val (.int p5), .val (.int p6), .val (.ref b1), .val (.int (2 : Int32)), .unset, .unset] [(.int (1 : Int32)), (.ref b1)])) rfl rfl (hb hby at_98)) ?_
      refine own_go (A := T10.setTop (mkF m 101 #[.val (.int p1), .val (.int p2), .val (.int p3), .val (.int p4), .val (.int p5), .val (.int p6), .val (.ref b1), .val (.int (2 : Int32)), .unset, .unset] [(.int p5), (.int (f10 1))])) (fun t kt => XS.iload X10.here hx rfl (hb hby at_99) rfl kt) ?_
      by_cases hc101 : (f10 1) < p5
      · refine own_go (A := T10.setTop (mkF m 110 #[.val (.int p1), .val (.int p2), .val (.int p3), .val (.int p4), .val (.int p5), .val (.int p6), .val (.ref b1), .val (.int (2 : Int32)), .unset, .unset] [])) (fun t kt => XS.icmpYes X10.here hx rfl (pc0 := 101) (pc' := 110) rfl (hb hby at_101) rfl (tlt hc101).1 (by decide) (by decide) kt) ?_
        refine own_go (A := T10.setTop (mkF m 112 #[.val (.int p1), .val (.int p2), .val (.int p3), .val (.int p4), .val (.int p5), .val (.int p6), .val (.ref b1), .val (.int (2 : Int32)), .unset, .unset] [(.int (2 : Int32))])) (fun t kt => XS.iload X10.here hx rfl (hb hby at_110) rfl kt) ?_
        refine own_go (A := T10.setTop (mkF m 113 #[.val (.int p1), .val (.int p2), .val (.int p3), .val (.int p4), .val (.int p5), .val (.int p6), .val (.ref b1), .val (.int (2 : Int32)), .unset, .unset] [(.int (2 : Int32)), (.int (2 : Int32))])) (fun t kt => XS.iconst X10.here hx rfl (hb hby at_112) kt) ?_
        refine own_go (A := T10.setTop (mkF m 131 #[.val (.int p1), .val (.int p2), .val (.int p3), .val (.int p4), .val (.int p5), .val (.int p6), .val (.ref b1), .val (.int (2 : Int32)), .unset, .unset] [])) (fun t kt => XS.icmpYes X10.here hx rfl (pc0 := 113) (pc' := 131) rfl (hb hby at_113) rfl (flt (by decide : ¬ ((2 : Int32) < (2 : Int32)))).2.2.2 (by decide) (by decide) kt) ?_
        refine own_go (A := T10.setTop (mkF m 133 #[.val (.int p1), .val (.int p2), .val (.int p3), .val (.int p4), .val (.int p5), .val (.int p6), .val (.ref b1), .val (.int (2 : Int32)), .unset, .unset] [(.int (2 : Int32))])) (fun t kt => XS.iload X10.here hx rfl (hb hby at_131) rfl kt) ?_
        refine own_go (A := T10.setTop (mkF m 134 #[.val (.int p1), .val (.int p2), .val (.int p3), .val (.int p4), .val (.int p5), .val (.int p6), .val (.ref b1), .val (.int (2 : Int32)), .unset, .unset] [(.int (3 : Int32)), (.int (2 : Int32))])) (fun t kt => XS.iconst X10.here hx rfl (hb hby at_133) kt) ?_
        refine own_go (A := T10.setTop (mkF m 152 #[.val (.int p1), .val (.int p2), .val (.int p3), .val (.int p4), .val (.int p5), .val (.int p6), .val (.ref b1), .val (.int (2 : Int32)), .unset, .unset] [])) (fun t kt => XS.icmpYes X10.here hx rfl (pc0 := 134) (pc' := 152) rfl (hb hby at_134) rfl (flt (by decide : ¬ ((3 : Int32) < (2 : Int32)))).2.2.2 (by decide) (by decide) kt) ?_
        refine own_go (A := T10.setTop (mkF m 154 #[.val (.int p1), .val (.int p2), .val (.int p3), .val (.int p4), .val (.int p5), .val (.int p6), .val (.ref b1), .val (.int (2 : Int32)), .unset, .unset] [(.int (2 : Int32))])) (fun t kt => XS.iload X10.here hx rfl (hb hby at_152) rfl kt) ?_
        refine own_go (A := T10.setTop (mkF m 156 #[.val (.int p1), .val (.int p2), .val (.int p3), .val (.int p4), .val (.int p5), .val (.int p6), .val (.ref b1), .val (.int (2 : Int32)), .val (.int (2 : Int32)), .unset] [])) (fun t kt => XS.istore X10.here hx rfl (hb hby at_154) rfl (l' := #[.val (.int p1), .val (.int p2), .val (.int p3), .val (.int p4), .val (.int p5), .val (.int p6), .val (.ref b1), .val (.int (2 : Int32)), .val (.int (2 : Int32)), .unset]) rfl kt) ?_
        refine own_go (A := T10.setTop (mkF m 158 #[.val (.int p1), .val (.int p2), .val (.int p3), .val (.int p4), .val (.int p5), .val (.int p6), .val (.ref b1), .val (.int (2 : Int32)), .val (.int (2 : Int32)), .unset] [(.ref b1)])) (fun t kt => XS.aload X10.here hx rfl (hb hby at_156) rfl rfl kt) ?_
        refine own_go (A := T10.setTop (mkF m 160 #[.val (.int p1), .val (.int p2), .val (.int p3), .val (.int p4), .val (.int p5), .val (.int p6), .val (.ref b1), .val (.int (2 : Int32)), .val (.int (2 : Int32)), .unset] [(.int (2 : Int32)), (.ref b1)])) (fun t kt => XS.iload X10.here hx rfl (hb hby at_158) rfl kt) ?_
        refine own_go (A := T10.setTop (mkF m 162 #[.val (.int p1), .val (.int p2), .val (.int p3), .val (.int p4), .val (.int p5), .val (.int p6), .val (.ref b1), .val (.int (2 : Int32)), .val (.int (2 : Int32)), .unset] [(.int p5), (.int (2 : Int32)), (.ref b1)])) (fun t kt => XS.iload X10.here hx rfl (hb hby at_160) rfl kt) ?_
        obtain ⟨_, _, ⟨T14, L14, k14, n14⟩, -, X14, ⟨Lc14, hQ14, l14, y14, z14⟩, st14⟩ := Jvm.LawKit.callS X10 hx (y := (⟨"com/example/collation/collation/value/Tree", "firstAtOrAfter", "([III)I"⟩ : MethodName)) hown (mvT hZ (hw _ (List.mem_of_getElem? (i := 6) rfl))) (mvT hZ (hw _ (List.mem_of_getElem? (i := 7) rfl))) (mvT hZ (hw _ (List.mem_of_getElem? (i := 8) rfl))) (mvT hZ (hw _ (List.mem_of_getElem? (i := 9) rfl))) (by decide) (backOf (W := 0) (rm2 l Z a0 hw [] b1 (2 : Int32) p5 f10 2 T10.heap n0 sz10 A10 (by decide) rfl) hZ (hw _ (List.mem_of_getElem? (i := 9) rfl)) (hw _ (List.mem_of_getElem? (i := 8) rfl)) (by decide) (by decide)) (g := (mkF m 162 #[.val (.int p1), .val (.int p2), .val (.int p3), .val (.int p4), .val (.int p5), .val (.int p6), .val (.ref b1), .val (.int (2 : Int32)), .val (.int (2 : Int32)), .unset] [(.int p5), (.int (2 : Int32)), (.ref b1)])) rfl (by rw [hml]; rfl) (argsL := [(.ref b1), (.int (2 : Int32)), (.int p5)]) (rest := []) (lenOf pd_2 rfl) rfl (by show 2 * 0 + _ ≤ _; exact Nat.le_of_eq rfl) (hb hby at_162) (fun _ _ => ⟨rfl, rfl, (by decide : 1 + 0 ≤ _), (by decide : 4 + 0 ≤ _)⟩)
        dsimp only [Pt.U, Pt.locs, Pt.cells, Pt.slots] at X14 l14 y14 z14 st14 hQ14
        subst l14 y14 z14
        obtain ⟨rfl, N14q, g14⟩ := hQ14
        have N14 := Fr.app N10 N14q
        refine own_go (A := T14.setTop (mkF m 165 #[.val (.int p1), .val (.int p2), .val (.int p3), .val (.int p4), .val (.int p5), .val (.int p6), .val (.ref b1), .val (.int (2 : Int32)), .val (.int (2 : Int32)), .unset] [(.int (own_find 2 f10 p5))])) st14 ?_
        refine own_go (A := T14.setTop (mkF m 167 #[.val (.int p1), .val (.int p2), .val (.int p3), .val (.int p4), .val (.int p5), .val (.int p6), .val (.ref b1), .val (.int (2 : Int32)), .val (.int (2 : Int32)), .val (.int (own_find 2 f10 p5))] [])) (fun t kt => XS.istore X14.here hx rfl (hb hby at_165) rfl (l' := #[.val (.int p1), .val (.int p2), .val (.int p3), .val (.int p4), .val (.int p5), .val (.int p6), .val (.ref b1), .val (.int (2 : Int32)), .val (.int (2 : Int32)), .val (.int (own_find 2 f10 p5))]) rfl kt) ?_
        refine own_go (A := T14.setTop (mkF m 169 #[.val (.int p1), .val (.int p2), .val (.int p3), .val (.int p4), .val (.int p5), .val (.int p6), .val (.ref b1), .val (.int (2 : Int32)), .val (.int (2 : Int32)), .val (.int (own_find 2 f10 p5))] [(.int (own_find 2 f10 p5))])) (fun t kt => XS.iload X14.here hx rfl (hb hby at_167) rfl kt) ?_
        refine own_go (A := T14.setTop (mkF m 171 #[.val (.int p1), .val (.int p2), .val (.int p3), .val (.int p4), .val (.int p5), .val (.int p6), .val (.ref b1), .val (.int (2 : Int32)), .val (.int (2 : Int32)), .val (.int (own_find 2 f10 p5))] [(.int (2 : Int32)), (.int (own_find 2 f10 p5))])) (fun t kt => XS.iload X14.here hx rfl (hb hby at_169) rfl kt) ?_
        have hfin : (own_find 2 f10 p5) = (2 : Int32) := by
          show G2 f10 p5 = _
          unfold G2
          simp only [Int32.lt_iff_toInt_lt] at hc80 hc101
          simp only [Int32.lt_iff_toInt_lt]
          obtain ⟨q1, q2, q3⟩ := hsort
          repeat' split
          all_goals first | rfl | (exfalso; omega)
        refine own_go (A := T14.setTop (mkF m 174 #[.val (.int p1), .val (.int p2), .val (.int p3), .val (.int p4), .val (.int p5), .val (.int p6), .val (.ref b1), .val (.int (2 : Int32)), .val (.int (2 : Int32)), .val (.int (own_find 2 f10 p5))] [])) (fun t kt => XS.icmpNo X14.here hx rfl (hb hby at_171) rfl (teq (hfin : (own_find 2 f10 p5) = (2 : Int32))).2 kt) ?_
        refine own_go (A := T14.setTop (mkF m 175 #[.val (.int p1), .val (.int p2), .val (.int p3), .val (.int p4), .val (.int p5), .val (.int p6), .val (.ref b1), .val (.int (2 : Int32)), .val (.int (2 : Int32)), .val (.int (own_find 2 f10 p5))] [(.int (1 : Int32))])) (fun t kt => XS.iconst X14.here hx rfl (hb hby at_174) kt) ?_
        refine own_go (A := T14.setTop (mkF m 179 #[.val (.int p1), .val (.int p2), .val (.int p3), .val (.int p4), .val (.int p5), .val (.int p6), .val (.ref b1), .val (.int (2 : Int32)), .val (.int (2 : Int32)), .val (.int (own_find 2 f10 p5))] [(.int (1 : Int32))])) (fun t kt => XS.goto X14.here hx rfl (pc0 := 175) (pc' := 179) rfl (hb hby at_175) (by decide) (by decide) kt) ?_
        obtain ⟨fs, hr, hrun, hended, hW, hsame⟩ := X14.leave (v := some (.int (1 : Int32))) (fun h => by rw [Bd.returns] at h; cases h)
        exact ⟨_, _, retN X14 hx (t := .boolean) Bd.returns (by simp) (hb hby at_179) hr, hrun, hended, _, _, rfl, ⟨rfl, N14⟩, ⟨_, rfl⟩, hW, hsame.mono (by decide) (by decide)⟩
      · refine own_go (A := T10.setTop (mkF m 104 #[.val (.int p1), .val (.int p2), .val (.int p3), .val (.int p4), .val (.int p5), .val (.int p6), .val (.ref b1), .val (.int (2 : Int32)), .unset, .unset] [])) (fun t kt => XS.icmpNo X10.here hx rfl (hb hby at_101) rfl (flt hc101).1 kt) ?_
        refine own_go (A := T10.setTop (mkF m 105 #[.val (.int p1), .val (.int p2), .val (.int p3), .val (.int p4), .val (.int p5), .val (.int p6), .val (.ref b1), .val (.int (2 : Int32)), .unset, .unset] [(.int (1 : Int32))])) (fun t kt => XS.iconst X10.here hx rfl (hb hby at_104) kt) ?_
        refine own_go (A := T10.setTop (mkF m 107 #[.val (.int p1), .val (.int p2), .val (.int p3), .val (.int p4), .val (.int p5), .val (.int p6), .val (.ref b1), .val (.int (2 : Int32)), .val (.int (1 : Int32)), .unset] [])) (fun t kt => XS.istore X10.here hx rfl (hb hby at_105) rfl (l' := #[.val (.int p1), .val (.int p2), .val (.int p3), .val (.int p4), .val (.int p5), .val (.int p6), .val (.ref b1), .val (.int (2 : Int32)), .val (.int (1 : Int32)), .unset]) rfl kt) ?_
        refine own_go (A := T10.setTop (mkF m 156 #[.val (.int p1), .val (.int p2), .val (.int p3), .val (.int p4), .val (.int p5), .val (.int p6), .val (.ref b1), .val (.int (2 : Int32)), .val (.int (1 : Int32)), .unset] [])) (fun t kt => XS.goto X10.here hx rfl (pc0 := 107) (pc' := 156) rfl (hb hby at_107) (by decide) (by decide) kt) ?_
        refine own_go (A := T10.setTop (mkF m 158 #[.val (.int p1), .val (.int p2), .val (.int p3), .val (.int p4), .val (.int p5), .val (.int p6), .val (.ref b1), .val (.int (2 : Int32)), .val (.int (1 : Int32)), .unset] [(.ref b1)])) (fun t kt => XS.aload X10.here hx rfl (hb hby at_156) rfl rfl kt) ?_
        refine own_go (A := T10.setTop (mkF m 160 #[.val (.int p1), .val (.int p2), .val (.int p3), .val (.int p4), .val (.int p5), .val (.int p6), .val (.ref b1), .val (.int (2 : Int32)), .val (.int (1 : Int32)), .unset] [(.int (2 : Int32)), (.ref b1)])) (fun t kt => XS.iload X10.here hx rfl (hb hby at_158) rfl kt) ?_
        refine own_go (A := T10.setTop (mkF m 162 #[.val (.int p1), .val (.int p2), .val (.int p3), .val (.int p4), .val (.int p5), .val (.int p6), .val (.ref b1), .val (.int (2 : Int32)), .val (.int (1 : Int32)), .unset] [(.int p5), (.int (2 : Int32)), (.ref b1)])) (fun t kt => XS.iload X10.here hx rfl (hb hby at_160) rfl kt) ?_
        obtain ⟨_, _, ⟨T15, L15, k15, n15⟩, -, X15, ⟨Lc15, hQ15, l15, y15, z15⟩, st15⟩ := Jvm.LawKit.callS X10 hx (y := (⟨"com/example/collation/collation/value/Tree", "firstAtOrAfter", "([III)I"⟩ : MethodName)) hown (mvT hZ (hw _ (List.mem_of_getElem? (i := 6) rfl))) (mvT hZ (hw _ (List.mem_of_getElem? (i := 7) rfl))) (mvT hZ (hw _ (List.mem_of_getElem? (i := 8) rfl))) (mvT hZ (hw _ (List.mem_of_getElem? (i := 9) rfl))) (by decide) (backOf (W := 0) (rm2 l Z a0 hw [] b1 (2 : Int32) p5 f10 2 T10.heap n0 sz10 A10 (by decide) rfl) hZ (hw _ (List.mem_of_getElem? (i := 9) rfl)) (hw _ (List.mem_of_getElem? (i := 8) rfl)) (by decide) (by decide)) (g := (mkF m 162 #[.val (.int p1), .val (.int p2), .val (.int p3), .val (.int p4), .val (.int p5), .val (.int p6), .val (.ref b1), .val (.int (2 : Int32)), .val (.int (1 : Int32)), .unset] [(.int p5), (.int (2 : Int32)), (.ref b1)])) rfl (by rw [hml]; rfl) (argsL := [(.ref b1), (.int (2 : Int32)), (.int p5)]) (rest := []) (lenOf pd_2 rfl) rfl (by show 2 * 0 + _ ≤ _; exact Nat.le_of_eq rfl) (hb hby at_162) (fun _ _ => ⟨rfl, rfl, (by decide : 1 + 0 ≤ _), (by decide : 4 + 0 ≤ _)⟩)
        dsimp only [Pt.U, Pt.locs, Pt.cells, Pt.slots] at X15 l15 y15 z15 st15 hQ15
        subst l15 y15 z15
        obtain ⟨rfl, N15q, g15⟩ := hQ15
        have N15 := Fr.app N10 N15q
        refine own_go (A := T15.setTop (mkF m 165 #[.val (.int p1), .val (.int p2), .val (.int p3), .val (.int p4), .val (.int p5), .val (.int p6), .val (.ref b1), .val (.int (2 : Int32)), .val (.int (1 : Int32)), .unset] [(.int (own_find 2 f10 p5))])) st15 ?_
        refine own_go (A := T15.setTop (mkF m 167 #[.val (.int p1), .val (.int p2), .val (.int p3), .val (.int p4), .val (.int p5), .val (.int p6), .val (.ref b1), .val (.int (2 : Int32)), .val (.int (1 : Int32)), .val (.int (own_find 2 f10 p5))] [])) (fun t kt => XS.istore X15.here hx rfl (hb hby at_165) rfl (l' := #[.val (.int p1), .val (.int p2), .val (.int p3), .val (.int p4), .val (.int p5), .val (.int p6), .val (.ref b1), .val (.int (2 : Int32)), .val (.int (1 : Int32)), .val (.int (own_find 2 f10 p5))]) rfl kt) ?_
        refine own_go (A := T15.setTop (mkF m 169 #[.val (.int p1), .val (.int p2), .val (.int p3), .val (.int p4), .val (.int p5), .val (.int p6), .val (.ref b1), .val (.int (2 : Int32)), .val (.int (1 : Int32)), .val (.int (own_find 2 f10 p5))] [(.int (own_find 2 f10 p5))])) (fun t kt => XS.iload X15.here hx rfl (hb hby at_167) rfl kt) ?_
        refine own_go (A := T15.setTop (mkF m 171 #[.val (.int p1), .val (.int p2), .val (.int p3), .val (.int p4), .val (.int p5), .val (.int p6), .val (.ref b1), .val (.int (2 : Int32)), .val (.int (1 : Int32)), .val (.int (own_find 2 f10 p5))] [(.int (1 : Int32)), (.int (own_find 2 f10 p5))])) (fun t kt => XS.iload X15.here hx rfl (hb hby at_169) rfl kt) ?_
        have hfin : (own_find 2 f10 p5) = (1 : Int32) := by
          show G2 f10 p5 = _
          unfold G2
          simp only [Int32.lt_iff_toInt_lt] at hc80 hc101
          simp only [Int32.lt_iff_toInt_lt]
          obtain ⟨q1, q2, q3⟩ := hsort
          repeat' split
          all_goals first | rfl | (exfalso; omega)
        refine own_go (A := T15.setTop (mkF m 174 #[.val (.int p1), .val (.int p2), .val (.int p3), .val (.int p4), .val (.int p5), .val (.int p6), .val (.ref b1), .val (.int (2 : Int32)), .val (.int (1 : Int32)), .val (.int (own_find 2 f10 p5))] [])) (fun t kt => XS.icmpNo X15.here hx rfl (hb hby at_171) rfl (teq (hfin : (own_find 2 f10 p5) = (1 : Int32))).2 kt) ?_
        refine own_go (A := T15.setTop (mkF m 175 #[.val (.int p1), .val (.int p2), .val (.int p3), .val (.int p4), .val (.int p5), .val (.int p6), .val (.ref b1), .val (.int (2 : Int32)), .val (.int (1 : Int32)), .val (.int (own_find 2 f10 p5))] [(.int (1 : Int32))])) (fun t kt => XS.iconst X15.here hx rfl (hb hby at_174) kt) ?_
        refine own_go (A := T15.setTop (mkF m 179 #[.val (.int p1), .val (.int p2), .val (.int p3), .val (.int p4), .val (.int p5), .val (.int p6), .val (.ref b1), .val (.int (2 : Int32)), .val (.int (1 : Int32)), .val (.int (own_find 2 f10 p5))] [(.int (1 : Int32))])) (fun t kt => XS.goto X15.here hx rfl (pc0 := 175) (pc' := 179) rfl (hb hby at_175) (by decide) (by decide) kt) ?_
        obtain ⟨fs, hr, hrun, hended, hW, hsame⟩ := X15.leave (v := some (.int (1 : Int32))) (fun h => by rw [Bd.returns] at h; cases h)
        exact ⟨_, _, retN X15 hx (t := .boolean) Bd.returns (by simp) (hb hby at_179) hr, hrun, hended, _, _, rfl, ⟨rfl, N15⟩, ⟨_, rfl⟩, hW, hsame.mono (by decide) (by decide)⟩
    · refine own_go (A := T10.setTop (mkF m 83 #[.val (.int p1), .val (.int p2), .val (.int p3), .val (.int p4), .val (.int p5), .val (.int p6), .val (.ref b1), .val (.int (2 : Int32)), .unset, .unset] [])) (fun t kt => XS.icmpNo X10.here hx rfl (hb hby at_80) rfl (flt hc80).1 kt) ?_
      refine own_go (A := T10.setTop (mkF m 84 #[.val (.int p1), .val (.int p2), .val (.int p3), .val (.int p4), .val (.int p5), .val (.int p6), .val (.ref b1), .val (.int (2 : Int32)), .unset, .unset] [(.int (0 : Int32))])) (fun t kt => XS.iconst X10.here hx rfl (hb hby at_83) kt) ?_
      refine own_go (A := T10.setTop (mkF m 86 #[.val (.int p1), .val (.int p2), .val (.int p3), .val (.int p4), .val (.int p5), .val (.int p6), .val (.ref b1), .val (.int (2 : Int32)), .val (.int (0 : Int32)), .unset] [])) (fun t kt => XS.istore X10.here hx rfl (hb hby at_84) rfl (l' := #[.val (.int p1), .val (.int p2), .val (.int p3), .val (.int p4), .val (.int p5), .val (.int p6), .val (.ref b1), .val (.int (2 : Int32)), .val (.int (0 : Int32)), .unset]) rfl kt) ?_
      refine own_go (A := T10.setTop (mkF m 156 #[.val (.int p1), .val (.int p2), .val (.int p3), .val (.int p4), .val (.int p5), .val (.int p6), .val (.ref b1), .val (.int (2 : Int32)), .val (.int (0 : Int32)), .unset] [])) (fun t kt => XS.goto X10.here hx rfl (pc0 := 86) (pc' := 156) rfl (hb hby at_86) (by decide) (by decide) kt) ?_
      refine own_go (A := T10.setTop (mkF m 158 #[.val (.int p1), .val (.int p2), .val (.int p3), .val (.int p4), .val (.int p5), .val (.int p6), .val (.ref b1), .val (.int (2 : Int32)), .val (.int (0 : Int32)), .unset] [(.ref b1)])) (fun t kt => XS.aload X10.here hx rfl (hb hby at_156) rfl rfl kt) ?_
      refine own_go (A := T10.setTop (mkF m 160 #[.val (.int p1), .val (.int p2), .val (.int p3), .val (.int p4), .val (.int p5), .val (.int p6), .val (.ref b1), .val (.int (2 : Int32)), .val (.int (0 : Int32)), .unset] [(.int (2 : Int32)), (.ref b1)])) (fun t kt => XS.iload X10.here hx rfl (hb hby at_158) rfl kt) ?_
      refine own_go (A := T10.setTop (mkF m 162 #[.val (.int p1), .val (.int p2), .val (.int p3), .val (.int p4), .val (.int p5), .val (.int p6), .val (.ref b1), .val (.int (2 : Int32)), .val (.int (0 : Int32)), .unset] [(.int p5), (.int (2 : Int32)), (.ref b1)])) (fun t kt => XS.iload X10.here hx rfl (hb hby at_160) rfl kt) ?_
      obtain ⟨_, _, ⟨T16, L16, k16, n16⟩, -, X16, ⟨Lc16, hQ16, l16, y16, z16⟩, st16⟩ := Jvm.LawKit.callS X10 hx (y := (⟨"com/example/collation/collation/value/Tree", "firstAtOrAfter", "([III)I"⟩ : MethodName)) hown (mvT hZ (hw _ (List.mem_of_getElem? (i := 6) rfl))) (mvT hZ (hw _ (List.mem_of_getElem? (i := 7) rfl))) (mvT hZ (hw _ (List.mem_of_getElem? (i := 8) rfl))) (mvT hZ (hw _ (List.mem_of_getElem? (i := 9) rfl))) (by decide) (backOf (W := 0) (rm2 l Z a0 hw [] b1 (2 : Int32) p5 f10 2 T10.heap n0 sz10 A10 (by decide) rfl) hZ (hw _ (List.mem_of_getElem? (i := 9) rfl)) (hw _ (List.mem_of_getElem? (i := 8) rfl)) (by decide) (by decide)) (g := (mkF m 162 #[.val (.int p1), .val (.int p2), .val (.int p3), .val (.int p4), .val (.int p5), .val (.int p6), .val (.ref b1), .val (.int (2 : Int32)), .val (.int (0 : Int32)), .unset] [(.int p5), (.int (2 : Int32)), (.ref b1)])) rfl (by rw [hml]; rfl) (argsL := [(.ref b1), (.int (2 : Int32)), (.int p5)]) (rest := []) (lenOf pd_2 rfl) rfl (by show 2 * 0 + _ ≤ _; exact Nat.le_of_eq rfl) (hb hby at_162) (fun _ _ => ⟨rfl, rfl, (by decide : 1 + 0 ≤ _), (by decide : 4 + 0 ≤ _)⟩)
      dsimp only [Pt.U, Pt.locs, Pt.cells, Pt.slots] at X16 l16 y16 z16 st16 hQ16
      subst l16 y16 z16
      obtain ⟨rfl, N16q, g16⟩ := hQ16
      have N16 := Fr.app N10 N16q
      refine own_go (A := T16.setTop (mkF m 165 #[.val (.int p1), .val (.int p2), .val (.int p3), .val (.int p4), .val (.int p5), .val (.int p6), .val (.ref b1), .val (.int (2 : Int32)), .val (.int (0 : Int32)), .unset] [(.int (own_find 2 f10 p5))])) st16 ?_
      refine own_go (A := T16.setTop (mkF m 167 #[.val (.int p1), .val (.int p2), .val (.int p3), .val (.int p4), .val (.int p5), .val (.int p6), .val (.ref b1), .val (.int (2 : Int32)), .val (.int (0 : Int32)), .val (.int (own_find 2 f10 p5))] [])) (fun t kt => XS.istore X16.here hx rfl (hb hby at_165) rfl (l' := #[.val (.int p1), .val (.int p2), .val (.int p3), .val (.int p4), .val (.int p5), .val (.int p6), .val (.ref b1), .val (.int (2 : Int32)), .val (.int (0 : Int32)), .val (.int (own_find 2 f10 p5))]) rfl kt) ?_
      refine own_go (A := T16.setTop (mkF m 169 #[.val (.int p1), .val (.int p2), .val (.int p3), .val (.int p4), .val (.int p5), .val (.int p6), .val (.ref b1), .val (.int (2 : Int32)), .val (.int (0 : Int32)), .val (.int (own_find 2 f10 p5))] [(.int (own_find 2 f10 p5))])) (fun t kt => XS.iload X16.here hx rfl (hb hby at_167) rfl kt) ?_
      refine own_go (A := T16.setTop (mkF m 171 #[.val (.int p1), .val (.int p2), .val (.int p3), .val (.int p4), .val (.int p5), .val (.int p6), .val (.ref b1), .val (.int (2 : Int32)), .val (.int (0 : Int32)), .val (.int (own_find 2 f10 p5))] [(.int (0 : Int32)), (.int (own_find 2 f10 p5))])) (fun t kt => XS.iload X16.here hx rfl (hb hby at_169) rfl kt) ?_
      have hfin : (own_find 2 f10 p5) = (0 : Int32) := by
        show G2 f10 p5 = _
        unfold G2
        simp only [Int32.lt_iff_toInt_lt] at hc80
        simp only [Int32.lt_iff_toInt_lt]
        obtain ⟨q1, q2, q3⟩ := hsort
        repeat' split
        all_goals first | rfl | (exfalso; omega)
      refine own_go (A := T16.setTop (mkF m 174 #[.val (.int p1), .val (.int p2), .val (.int p3), .val (.int p4), .val (.int p5), .val (.int p6), .val (.ref b1), .val (.int (2 : Int32)), .val (.int (0 : Int32)), .val (.int (own_find 2 f10 p5))] [])) (fun t kt => XS.icmpNo X16.here hx rfl (hb hby at_171) rfl (teq (hfin : (own_find 2 f10 p5) = (0 : Int32))).2 kt) ?_
      refine own_go (A := T16.setTop (mkF m 175 #[.val (.int p1), .val (.int p2), .val (.int p3), .val (.int p4), .val (.int p5), .val (.int p6), .val (.ref b1), .val (.int (2 : Int32)), .val (.int (0 : Int32)), .val (.int (own_find 2 f10 p5))] [(.int (1 : Int32))])) (fun t kt => XS.iconst X16.here hx rfl (hb hby at_174) kt) ?_
      refine own_go (A := T16.setTop (mkF m 179 #[.val (.int p1), .val (.int p2), .val (.int p3), .val (.int p4), .val (.int p5), .val (.int p6), .val (.ref b1), .val (.int (2 : Int32)), .val (.int (0 : Int32)), .val (.int (own_find 2 f10 p5))] [(.int (1 : Int32))])) (fun t kt => XS.goto X16.here hx rfl (pc0 := 175) (pc' := 179) rfl (hb hby at_175) (by decide) (by decide) kt) ?_
      obtain ⟨fs, hr, hrun, hended, hW, hsame⟩ := X16.leave (v := some (.int (1 : Int32))) (fun h => by rw [Bd.returns] at h; cases h)
      exact ⟨_, _, retN X16 hx (t := .boolean) Bd.returns (by simp) (hb hby at_179) hr, hrun, hended, _, _, rfl, ⟨rfl, N16⟩, ⟨_, rfl⟩, hW, hsame.mono (by decide) (by decide)⟩
  | 3, _ =>
    show ∃ s₂ o, Steps p.tables e below (T10.setTop (mkF m 67 #[.val (.int p1), .val (.int p2), .val (.int p3), .val (.int p4), .val (.int p5), .val (.int p6), .val (.ref b1), .unset, .unset, .unset] [(.int (3 : Int32))])) s₂ ∧ _
    refine own_go (A := T10.setTop (mkF m 69 #[.val (.int p1), .val (.int p2), .val (.int p3), .val (.int p4), .val (.int p5), .val (.int p6), .val (.ref b1), .val (.int (3 : Int32)), .unset, .unset] [])) (fun t kt => XS.istore X10.here hx rfl (hb hby at_67) rfl (l' := #[.val (.int p1), .val (.int p2), .val (.int p3), .val (.int p4), .val (.int p5), .val (.int p6), .val (.ref b1), .val (.int (3 : Int32)), .unset, .unset]) rfl kt) ?_
    refine own_go (A := T10.setTop (mkF m 71 #[.val (.int p1), .val (.int p2), .val (.int p3), .val (.int p4), .val (.int p5), .val (.int p6), .val (.ref b1), .val (.int (3 : Int32)), .unset, .unset] [(.int (3 : Int32))])) (fun t kt => XS.iload X10.here hx rfl (hb hby at_69) rfl kt) ?_
    refine own_go (A := T10.setTop (mkF m 74 #[.val (.int p1), .val (.int p2), .val (.int p3), .val (.int p4), .val (.int p5), .val (.int p6), .val (.ref b1), .val (.int (3 : Int32)), .unset, .unset] [])) (fun t kt => XS.ifNo X10.here hx rfl (hb hby at_71) rfl ((if0 _ _).trans (tlt (by decide : (0 : Int32) < (3 : Int32))).2.2.2) kt) ?_
    refine own_go (A := T10.setTop (mkF m 76 #[.val (.int p1), .val (.int p2), .val (.int p3), .val (.int p4), .val (.int p5), .val (.int p6), .val (.ref b1), .val (.int (3 : Int32)), .unset, .unset] [(.ref b1)])) (fun t kt => XS.aload X10.here hx rfl (hb hby at_74) rfl rfl kt) ?_
    refine own_go (A := T10.setTop (mkF m 77 #[.val (.int p1), .val (.int p2), .val (.int p3), .val (.int p4), .val (.int p5), .val (.int p6), .val (.ref b1), .val (.int (3 : Int32)), .unset, .unset] [(.int (0 : Int32)), (.ref b1)])) (fun t kt => XS.iconst X10.here hx rfl (hb hby at_76) kt) ?_
    refine own_go (A := T10.setTop (mkF m 78 #[.val (.int p1), .val (.int p2), .val (.int p3), .val (.int p4), .val (.int p5), .val (.int p6), .val (.ref b1), .val (.int (3 : Int32)), .unset, .unset] [(.int (f10 0))])) (own_get X10 hx hZ rfl A10 0 (by decide) (by decide) (by decide) (g := (mkF m 77 #[.val (.int p1), .val (.int p2), .val (.int p3), .val (.int p4), .val (.int p5), .val (.int p6), .val (.ref b1), .val (.int (3 : Int32)), .unset, .unset] [(.int (0 : Int32)), (.ref b1)])) rfl rfl (hb hby at_77)) ?_
    refine own_go (A := T10.setTop (mkF m 80 #[.val (.int p1), .val (.int p2), .val (.int p3), .val (.int p4), .val (.int p5), .val (.int p6), .val (.ref b1), .val (.int (3 : Int32)), .unset, .unset] [(.int p5), (.int (f10 0))])) (fun t kt => XS.iload X10.here hx rfl (hb hby at_78) rfl kt) ?_
    by_cases hc80 : (f10 0) < p5
    · refine own_go (A := T10.setTop (mkF m 89 #[.val (.int p1), .val (.int p2), .val (.int p3), .val (.int p4), .val (.int p5), .val (.int p6), .val (.ref b1), .val (.int (3 : Int32)), .unset, .unset] [])) (fun t kt => XS.icmpYes X10.here hx rfl (pc0 := 80) (pc' := 89) rfl (hb hby at_80) rfl (tlt hc80).1 (by decide) (by decide) kt) ?_
      refine own_go (A := T10.setTop (mkF m 91 #[.val (.int p1), .val (.int p2), .val (.int p3), .val (.int p4), .val (.int p5), .val (.int p6), .val (.ref b1), .val (.int (3 : Int32)), .unset, .unset] [(.int (3 : Int32))])) (fun t kt => XS.iload X10.here hx rfl (hb hby at_89) rfl kt) ?_
      refine own_go (A := T10.setTop (mkF m 92 #[.val (.int p1), .val (.int p2), .val (.int p3), .val (.int p4), .val (.int p5), .val (.int p6), .val (.ref b1), .val (.int (3 : Int32)), .unset, .unset] [(.int (1 : Int32)), (.int (3 : Int32))])) (fun t kt => XS.iconst X10.here hx rfl (hb hby at_91) kt) ?_
      refine own_go (A := T10.setTop (mkF m 95 #[.val (.int p1), .val (.int p2), .val (.int p3), .val (.int p4), .val (.int p5), .val (.int p6), .val (.ref b1), .val (.int (3 : Int32)), .unset, .unset] [])) (fun t kt => XS.icmpNo X10.here hx rfl (hb hby at_92) rfl (tlt (by decide : (1 : Int32) < (3 : Int32))).2.2.2 kt) ?_
      refine own_go (A := T10.setTop (mkF m 97 #[.val (.int p1), .val (.int p2), .val (.int p3), .val (.int p4), .val (.int p5), .val (.int p6), .val (.ref b1), .val (.int (3 : Int32)), .unset, .unset] [(.ref b1)])) (fun t kt => XS.aload X10.here hx rfl (hb hby at_95) rfl rfl kt) ?_
      refine own_go (A := T10.setTop (mkF m 98 #[.val (.int p1), .val (.int p2), .val (.int p3), .val (.int p4), .val (.int p5), .val (.int p6), .val (.ref b1), .val (.int (3 : Int32)), .unset, .unset] [(.int (1 : Int32)), (.ref b1)])) (fun t kt => XS.iconst X10.here hx rfl (hb hby at_97) kt) ?_
      refine own_go (A := T10.setTop (mkF m 99 #[.val (.int p1), .val (.int p2), .val (.int p3), .val (.int p4), .val (.int p5), .val (.int p6), .val (.ref b1), .val (.int (3 : Int32)), .unset, .unset] [(.int (f10 1))])) (own_get X10 hx hZ rfl A10 1 (by decide) (by decide) (by decide) (g := (mkF m 98 #[.val (.int p1), .val (.int p2), .val (.int p3), .val (.int p4), .val (.int p5), .val (.int p6), .val (.ref b1), .val (.int (3 : Int32)), .unset, .unset] [(.int (1 : Int32)), (.ref b1)])) rfl rfl (hb hby at_98)) ?_
      refine own_go (A := T10.setTop (mkF m 101 #[.val (.int p1), .val (.int p2), .val (.int p3), .val (.int p4), .val (.int p5), .val (.int p6), .val (.ref b1), .val (.int (3 : Int32)), .unset, .unset] [(.int p5), (.int (f10 1))])) (fun t kt => XS.iload X10.here hx rfl (hb hby at_99) rfl kt) ?_
      by_cases hc101 : (f10 1) < p5
      · refine own_go (A := T10.setTop (mkF m 110 #[.val (.int p1), .val (.int p2), .val (.int p3), .val (.int p4), .val (.int p5), .val (.int p6), .val (.ref b1), .val (.int (3 : Int32)), .unset, .unset] [])) (fun t kt => XS.icmpYes X10.here hx rfl (pc0 := 101) (pc' := 110) rfl (hb hby at_101) rfl (tlt hc101).1 (by decide) (by decide) kt) ?_
        refine own_go (A := T10.setTop (mkF m 112 #[.val (.int p1), .val (.int p2), .val (.int p3), .val (.int p4), .val (.int p5), .val (.int p6), .val (.ref b1), .val (.int (3 : Int32)), .unset, .unset] [(.int (3 : Int32))])) (fun t kt => XS.iload X10.here hx rfl (hb hby at_110) rfl kt) ?_
        refine own_go (A := T10.setTop (mkF m 113 #[.val (.int p1), .val (.int p2), .val (.int p3), .val (.int p4), .val (.int p5), .val (.int p6), .val (.ref b1), .val (.int (3 : Int32)), .unset, .unset] [(.int (2 : Int32)), (.int (3 : Int32))])) (fun t kt => XS.iconst X10.here hx rfl (hb hby at_112) kt) ?_
        refine own_go (A := T10.setTop (mkF m 116 #[.val (.int p1), .val (.int p2), .val (.int p3), .val (.int p4), .val (.int p5), .val (.int p6), .val (.ref b1), .val (.int (3 : Int32)), .unset, .unset] [])) (fun t kt => XS.icmpNo X10.here hx rfl (hb hby at_113) rfl (tlt (by decide : (2 : Int32) < (3 : Int32))).2.2.2 kt) ?_
        refine own_go (A := T10.setTop (mkF m 118 #[.val (.int p1), .val (.int p2), .val (.int p3), .val (.int p4), .val (.int p5), .val (.int p6), .val (.ref b1), .val (.int (3 : Int32)), .unset, .unset] [(.ref b1)])) (fun t kt => XS.aload X10.here hx rfl (hb hby at_116) rfl rfl kt) ?_
        refine own_go (A := T10.setTop (mkF m 119 #[.val (.int p1), .val (.int p2), .val (.int p3), .val (.int p4), .val (.int p5), .val (.int p6), .val (.ref b1), .val (.int (3 : Int32)), .unset, .unset] [(.int (2 : Int32)), (.ref b1)])) (fun t kt => XS.iconst X10.here hx rfl (hb hby at_118) kt) ?_
        refine own_go (A := T10.setTop (mkF m 120 #[.val (.int p1), .val (.int p2), .val (.int p3), .val (.int p4), .val (.int p5), .val (.int p6), .val (.ref b1), .val (.int (3 : Int32)), .unset, .unset] [(.int (f10 2))])) (own_get X10 hx hZ rfl A10 2 (by decide) (by decide) (by decide) (g := (mkF m 119 #[.val (.int p1), .val (.int p2), .val (.int p3), .val (.int p4), .val (.int p5), .val (.int p6), .val (.ref b1), .val (.int (3 : Int32)), .unset, .unset] [(.int (2 : Int32)), (.ref b1)])) rfl rfl (hb hby at_119)) ?_
        refine own_go (A := T10.setTop (mkF m 122 #[.val (.int p1), .val (.int p2), .val (.int p3), .val (.int p4), .val (.int p5), .val (.int p6), .val (.ref b1), .val (.int (3 : Int32)), .unset, .unset] [(.int p5), (.int (f10 2))])) (fun t kt => XS.iload X10.here hx rfl (hb hby at_120) rfl kt) ?_
        by_cases hc122 : (f10 2) < p5
        · refine own_go (A := T10.setTop (mkF m 131 #[.val (.int p1), .val (.int p2), .val (.int p3), .val (.int p4), .val (.int p5), .val (.int p6), .val (.ref b1), .val (.int (3 : Int32)), .unset, .unset] [])) (fun t kt => XS.icmpYes X10.here hx rfl (pc0 := 122) (pc' := 131) rfl (hb hby at_122) rfl (tlt hc122).1 (by decide) (by decide) kt) ?_
          refine own_go (A := T10.setTop (mkF m 133 #[.val (.int p1), .val (.int p2), .val (.int p3), .val (.int p4), .val (.int p5), .val (.int p6), .val (.ref b1), .val (.int (3 : Int32)), .unset, .unset] [(.int (3 : Int32))])) (fun t kt => XS.iload X10.here hx rfl (hb hby at_131) rfl kt) ?_
          refine own_go (A := T10.setTop (mkF m 134 #[.val (.int p1), .val (.int p2), .val (.int p3), .val (.int p4), .val (.int p5), .val (.int p6), .val (.ref b1), .val (.int (3 : Int32)), .unset, .unset] [(.int (3 : Int32)), (.int (3 : Int32))])) (fun t kt => XS.iconst X10.here hx rfl (hb hby at_133) kt) ?_
          refine own_go (A := T10.setTop (mkF m 152 #[.val (.int p1), .val (.int p2), .val (.int p3), .val (.int p4), .val (.int p5), .val (.int p6), .val (.ref b1), .val (.int (3 : Int32)), .unset, .unset] [])) (fun t kt => XS.icmpYes X10.here hx rfl (pc0 := 134) (pc' := 152) rfl (hb hby at_134) rfl (flt (by decide : ¬ ((3 : Int32) < (3 : Int32)))).2.2.2 (by decide) (by decide) kt) ?_
          refine own_go (A := T10.setTop (mkF m 154 #[.val (.int p1), .val (.int p2), .val (.int p3), .val (.int p4), .val (.int p5), .val (.int p6), .val (.ref b1), .val (.int (3 : Int32)), .unset, .unset] [(.int (3 : Int32))])) (fun t kt => XS.iload X10.here hx rfl (hb hby at_152) rfl kt) ?_
          refine own_go (A := T10.setTop (mkF m 156 #[.val (.int p1), .val (.int p2), .val (.int p3), .val (.int p4), .val (.int p5), .val (.int p6), .val (.ref b1), .val (.int (3 : Int32)), .val (.int (3 : Int32)), .unset] [])) (fun t kt => XS.istore X10.here hx rfl (hb hby at_154) rfl (l' := #[.val (.int p1), .val (.int p2), .val (.int p3), .val (.int p4), .val (.int p5), .val (.int p6), .val (.ref b1), .val (.int (3 : Int32)), .val (.int (3 : Int32)), .unset]) rfl kt) ?_
          refine own_go (A := T10.setTop (mkF m 158 #[.val (.int p1), .val (.int p2), .val (.int p3), .val (.int p4), .val (.int p5), .val (.int p6), .val (.ref b1), .val (.int (3 : Int32)), .val (.int (3 : Int32)), .unset] [(.ref b1)])) (fun t kt => XS.aload X10.here hx rfl (hb hby at_156) rfl rfl kt) ?_
          refine own_go (A := T10.setTop (mkF m 160 #[.val (.int p1), .val (.int p2), .val (.int p3), .val (.int p4), .val (.int p5), .val (.int p6), .val (.ref b1), .val (.int (3 : Int32)), .val (.int (3 : Int32)), .unset] [(.int (3 : Int32)), (.ref b1)])) (fun t kt => XS.iload X10.here hx rfl (hb hby at_158) rfl kt) ?_
          refine own_go (A := T10.setTop (mkF m 162 #[.val (.int p1), .val (.int p2), .val (.int p3), .val (.int p4), .val (.int p5), .val (.int p6), .val (.ref b1), .val (.int (3 : Int32)), .val (.int (3 : Int32)), .unset] [(.int p5), (.int (3 : Int32)), (.ref b1)])) (fun t kt => XS.iload X10.here hx rfl (hb hby at_160) rfl kt) ?_
          obtain ⟨_, _, ⟨T17, L17, k17, n17⟩, -, X17, ⟨Lc17, hQ17, l17, y17, z17⟩, st17⟩ := Jvm.LawKit.callS X10 hx (y := (⟨"com/example/collation/collation/value/Tree", "firstAtOrAfter", "([III)I"⟩ : MethodName)) hown (mvT hZ (hw _ (List.mem_of_getElem? (i := 6) rfl))) (mvT hZ (hw _ (List.mem_of_getElem? (i := 7) rfl))) (mvT hZ (hw _ (List.mem_of_getElem? (i := 8) rfl))) (mvT hZ (hw _ (List.mem_of_getElem? (i := 9) rfl))) (by decide) (backOf (W := 0) (rm2 l Z a0 hw [] b1 (3 : Int32) p5 f10 3 T10.heap n0 sz10 A10 (by decide) rfl) hZ (hw _ (List.mem_of_getElem? (i := 9) rfl)) (hw _ (List.mem_of_getElem? (i := 8) rfl)) (by decide) (by decide)) (g := (mkF m 162 #[.val (.int p1), .val (.int p2), .val (.int p3), .val (.int p4), .val (.int p5), .val (.int p6), .val (.ref b1), .val (.int (3 : Int32)), .val (.int (3 : Int32)), .unset] [(.int p5), (.int (3 : Int32)), (.ref b1)])) rfl (by rw [hml]; rfl) (argsL := [(.ref b1), (.int (3 : Int32)), (.int p5)]) (rest := []) (lenOf pd_2 rfl) rfl (by show 2 * 0 + _ ≤ _; exact Nat.le_of_eq rfl) (hb hby at_162) (fun _ _ => ⟨rfl, rfl, (by decide : 1 + 0 ≤ _), (by decide : 4 + 0 ≤ _)⟩)
          dsimp only [Pt.U, Pt.locs, Pt.cells, Pt.slots] at X17 l17 y17 z17 st17 hQ17
          subst l17 y17 z17
          obtain ⟨rfl, N17q, g17⟩ := hQ17
          have N17 := Fr.app N10 N17q
          refine own_go (A := T17.setTop (mkF m 165 #[.val (.int p1), .val (.int p2), .val (.int p3), .val (.int p4), .val (.int p5), .val (.int p6), .val (.ref b1), .val (.int (3 : Int32)), .val (.int (3 : Int32)), .unset] [(.int (own_find 3 f10 p5))])) st17 ?_
          refine own_go (A := T17.setTop (mkF m 167 #[.val (.int p1), .val (.int p2), .val (.int p3), .val (.int p4), .val (.int p5), .val (.int p6), .val (.ref b1), .val (.int (3 : Int32)), .val (.int (3 : Int32)), .val (.int (own_find 3 f10 p5))] [])) (fun t kt => XS.istore X17.here hx rfl (hb hby at_165) rfl (l' := #[.val (.int p1), .val (.int p2), .val (.int p3), .val (.int p4), .val (.int p5), .val (.int p6), .val (.ref b1), .val (.int (3 : Int32)), .val (.int (3 : Int32)), .val (.int (own_find 3 f10 p5))]) rfl kt) ?_
          refine own_go (A := T17.setTop (mkF m 169 #[.val (.int p1), .val (.int p2), .val (.int p3), .val (.int p4), .val (.int p5), .val (.int p6), .val (.ref b1), .val (.int (3 : Int32)), .val (.int (3 : Int32)), .val (.int (own_find 3 f10 p5))] [(.int (own_find 3 f10 p5))])) (fun t kt => XS.iload X17.here hx rfl (hb hby at_167) rfl kt) ?_
          refine own_go (A := T17.setTop (mkF m 171 #[.val (.int p1), .val (.int p2), .val (.int p3), .val (.int p4), .val (.int p5), .val (.int p6), .val (.ref b1), .val (.int (3 : Int32)), .val (.int (3 : Int32)), .val (.int (own_find 3 f10 p5))] [(.int (3 : Int32)), (.int (own_find 3 f10 p5))])) (fun t kt => XS.iload X17.here hx rfl (hb hby at_169) rfl kt) ?_
          have hfin : (own_find 3 f10 p5) = (3 : Int32) := by
            show G3 f10 p5 = _
            unfold G3
            simp only [Int32.lt_iff_toInt_lt] at hc80 hc101 hc122
            simp only [Int32.lt_iff_toInt_lt]
            obtain ⟨q1, q2, q3⟩ := hsort
            repeat' split
            all_goals first | rfl | (exfalso; omega)
          refine own_go (A := T17.setTop (mkF m 174 #[.val (.int p1), .val (.int p2), .val (.int p3), .val (.int p4), .val (.int p5), .val (.int p6), .val (.ref b1), .val (.int (3 : Int32)), .val (.int (3 : Int32)), .val (.int (own_find 3 f10 p5))] [])) (fun t kt => XS.icmpNo X17.here hx rfl (hb hby at_171) rfl (teq (hfin : (own_find 3 f10 p5) = (3 : Int32))).2 kt) ?_
          refine own_go (A := T17.setTop (mkF m 175 #[.val (.int p1), .val (.int p2), .val (.int p3), .val (.int p4), .val (.int p5), .val (.int p6), .val (.ref b1), .val (.int (3 : Int32)), .val (.int (3 : Int32)), .val (.int (own_find 3 f10 p5))] [(.int (1 : Int32))])) (fun t kt => XS.iconst X17.here hx rfl (hb hby at_174) kt) ?_
          refine own_go (A := T17.setTop (mkF m 179 #[.val (.int p1), .val (.int p2), .val (.int p3), .val (.int p4), .val (.int p5), .val (.int p6), .val (.ref b1), .val (.int (3 : Int32)), .val (.int (3 : Int32)), .val (.int (own_find 3 f10 p5))] [(.int (1 : Int32))])) (fun t kt => XS.goto X17.here hx rfl (pc0 := 175) (pc' := 179) rfl (hb hby at_175) (by decide) (by decide) kt) ?_
          obtain ⟨fs, hr, hrun, hended, hW, hsame⟩ := X17.leave (v := some (.int (1 : Int32))) (fun h => by rw [Bd.returns] at h; cases h)
          exact ⟨_, _, retN X17 hx (t := .boolean) Bd.returns (by simp) (hb hby at_179) hr, hrun, hended, _, _, rfl, ⟨rfl, N17⟩, ⟨_, rfl⟩, hW, hsame.mono (by decide) (by decide)⟩
        · refine own_go (A := T10.setTop (mkF m 125 #[.val (.int p1), .val (.int p2), .val (.int p3), .val (.int p4), .val (.int p5), .val (.int p6), .val (.ref b1), .val (.int (3 : Int32)), .unset, .unset] [])) (fun t kt => XS.icmpNo X10.here hx rfl (hb hby at_122) rfl (flt hc122).1 kt) ?_
          refine own_go (A := T10.setTop (mkF m 126 #[.val (.int p1), .val (.int p2), .val (.int p3), .val (.int p4), .val (.int p5), .val (.int p6), .val (.ref b1), .val (.int (3 : Int32)), .unset, .unset] [(.int (2 : Int32))])) (fun t kt => XS.iconst X10.here hx rfl (hb hby at_125) kt) ?_
          refine own_go (A := T10.setTop (mkF m 128 #[.val (.int p1), .val (.int p2), .val (.int p3), .val (.int p4), .val (.int p5), .val (.int p6), .val (.ref b1), .val (.int (3 : Int32)), .val (.int (2 : Int32)), .unset] [])) (fun t kt => XS.istore X10.here hx rfl (hb hby at_126) rfl (l' := #[.val (.int p1), .val (.int p2), .val (.int p3), .val (.int p4), .val (.int p5), .val (.int p6), .val (.ref b1), .val (.int (3 : Int32)), .val (.int (2 : Int32)), .unset]) rfl kt) ?_
          refine own_go (A := T10.setTop (mkF m 156 #[.val (.int p1), .val (.int p2), .val (.int p3), .val (.int p4), .val (.int p5), .val (.int p6), .val (.ref b1), .val (.int (3 : Int32)), .val (.int (2 : Int32)), .unset] [])) (fun t kt => XS.goto X10.here hx rfl (pc0 := 128) (pc' := 156) rfl (hb hby at_128) (by decide) (by decide) kt) ?_
          refine own_go (A := T10.setTop (mkF m 158 #[.val (.int p1), .val (.int p2), .val (.int p3), .val (.int p4), .val (.int p5), .val (.int p6), .val (.ref b1), .val (.int (3 : Int32)), .val (.int (2 : Int32)), .unset] [(.ref b1)])) (fun t kt => XS.aload X10.here hx rfl (hb hby at_156) rfl rfl kt) ?_
          refine own_go (A := T10.setTop (mkF m 160 #[.val (.int p1), .val (.int p2), .val (.int p3), .val (.int p4), .val (.int p5), .val (.int p6), .val (.ref b1), .val (.int (3 : Int32)), .val (.int (2 : Int32)), .unset] [(.int (3 : Int32)), (.ref b1)])) (fun t kt => XS.iload X10.here hx rfl (hb hby at_158) rfl kt) ?_
          refine own_go (A := T10.setTop (mkF m 162 #[.val (.int p1), .val (.int p2), .val (.int p3), .val (.int p4), .val (.int p5), .val (.int p6), .val (.ref b1), .val (.int (3 : Int32)), .val (.int (2 : Int32)), .unset] [(.int p5), (.int (3 : Int32)), (.ref b1)])) (fun t kt => XS.iload X10.here hx rfl (hb hby at_160) rfl kt) ?_
          obtain ⟨_, _, ⟨T18, L18, k18, n18⟩, -, X18, ⟨Lc18, hQ18, l18, y18, z18⟩, st18⟩ := Jvm.LawKit.callS X10 hx (y := (⟨"com/example/collation/collation/value/Tree", "firstAtOrAfter", "([III)I"⟩ : MethodName)) hown (mvT hZ (hw _ (List.mem_of_getElem? (i := 6) rfl))) (mvT hZ (hw _ (List.mem_of_getElem? (i := 7) rfl))) (mvT hZ (hw _ (List.mem_of_getElem? (i := 8) rfl))) (mvT hZ (hw _ (List.mem_of_getElem? (i := 9) rfl))) (by decide) (backOf (W := 0) (rm2 l Z a0 hw [] b1 (3 : Int32) p5 f10 3 T10.heap n0 sz10 A10 (by decide) rfl) hZ (hw _ (List.mem_of_getElem? (i := 9) rfl)) (hw _ (List.mem_of_getElem? (i := 8) rfl)) (by decide) (by decide)) (g := (mkF m 162 #[.val (.int p1), .val (.int p2), .val (.int p3), .val (.int p4), .val (.int p5), .val (.int p6), .val (.ref b1), .val (.int (3 : Int32)), .val (.int (2 : Int32)), .unset] [(.int p5), (.int (3 : Int32)), (.ref b1)])) rfl (by rw [hml]; rfl) (argsL := [(.ref b1), (.int (3 : Int32)), (.int p5)]) (rest := []) (lenOf pd_2 rfl) rfl (by show 2 * 0 + _ ≤ _; exact Nat.le_of_eq rfl) (hb hby at_162) (fun _ _ => ⟨rfl, rfl, (by decide : 1 + 0 ≤ _), (by decide : 4 + 0 ≤ _)⟩)
          dsimp only [Pt.U, Pt.locs, Pt.cells, Pt.slots] at X18 l18 y18 z18 st18 hQ18
          subst l18 y18 z18
          obtain ⟨rfl, N18q, g18⟩ := hQ18
          have N18 := Fr.app N10 N18q
          refine own_go (A := T18.setTop (mkF m 165 #[.val (.int p1), .val (.int p2), .val (.int p3), .val (.int p4), .val (.int p5), .val (.int p6), .val (.ref b1), .val (.int (3 : Int32)), .val (.int (2 : Int32)), .unset] [(.int (own_find 3 f10 p5))])) st18 ?_
          refine own_go (A := T18.setTop (mkF m 167 #[.val (.int p1), .val (.int p2), .val (.int p3), .val (.int p4), .val (.int p5), .val (.int p6), .val (.ref b1), .val (.int (3 : Int32)), .val (.int (2 : Int32)), .val (.int (own_find 3 f10 p5))] [])) (fun t kt => XS.istore X18.here hx rfl (hb hby at_165) rfl (l' := #[.val (.int p1), .val (.int p2), .val (.int p3), .val (.int p4), .val (.int p5), .val (.int p6), .val (.ref b1), .val (.int (3 : Int32)), .val (.int (2 : Int32)), .val (.int (own_find 3 f10 p5))]) rfl kt) ?_
          refine own_go (A := T18.setTop (mkF m 169 #[.val (.int p1), .val (.int p2), .val (.int p3), .val (.int p4), .val (.int p5), .val (.int p6), .val (.ref b1), .val (.int (3 : Int32)), .val (.int (2 : Int32)), .val (.int (own_find 3 f10 p5))] [(.int (own_find 3 f10 p5))])) (fun t kt => XS.iload X18.here hx rfl (hb hby at_167) rfl kt) ?_
          refine own_go (A := T18.setTop (mkF m 171 #[.val (.int p1), .val (.int p2), .val (.int p3), .val (.int p4), .val (.int p5), .val (.int p6), .val (.ref b1), .val (.int (3 : Int32)), .val (.int (2 : Int32)), .val (.int (own_find 3 f10 p5))] [(.int (2 : Int32)), (.int (own_find 3 f10 p5))])) (fun t kt => XS.iload X18.here hx rfl (hb hby at_169) rfl kt) ?_
          have hfin : (own_find 3 f10 p5) = (2 : Int32) := by
            show G3 f10 p5 = _
            unfold G3
            simp only [Int32.lt_iff_toInt_lt] at hc80 hc101 hc122
            simp only [Int32.lt_iff_toInt_lt]
            obtain ⟨q1, q2, q3⟩ := hsort
            repeat' split
            all_goals first | rfl | (exfalso; omega)
          refine own_go (A := T18.setTop (mkF m 174 #[.val (.int p1), .val (.int p2), .val (.int p3), .val (.int p4), .val (.int p5), .val (.int p6), .val (.ref b1), .val (.int (3 : Int32)), .val (.int (2 : Int32)), .val (.int (own_find 3 f10 p5))] [])) (fun t kt => XS.icmpNo X18.here hx rfl (hb hby at_171) rfl (teq (hfin : (own_find 3 f10 p5) = (2 : Int32))).2 kt) ?_
          refine own_go (A := T18.setTop (mkF m 175 #[.val (.int p1), .val (.int p2), .val (.int p3), .val (.int p4), .val (.int p5), .val (.int p6), .val (.ref b1), .val (.int (3 : Int32)), .val (.int (2 : Int32)), .val (.int (own_find 3 f10 p5))] [(.int (1 : Int32))])) (fun t kt => XS.iconst X18.here hx rfl (hb hby at_174) kt) ?_
          refine own_go (A := T18.setTop (mkF m 179 #[.val (.int p1), .val (.int p2), .val (.int p3), .val (.int p4), .val (.int p5), .val (.int p6), .val (.ref b1), .val (.int (3 : Int32)), .val (.int (2 : Int32)), .val (.int (own_find 3 f10 p5))] [(.int (1 : Int32))])) (fun t kt => XS.goto X18.here hx rfl (pc0 := 175) (pc' := 179) rfl (hb hby at_175) (by decide) (by decide) kt) ?_
          obtain ⟨fs, hr, hrun, hended, hW, hsame⟩ := X18.leave (v := some (.int (1 : Int32))) (fun h => by rw [Bd.returns] at h; cases h)
          exact ⟨_, _, retN X18 hx (t := .boolean) Bd.returns (by simp) (hb hby at_179) hr, hrun, hended, _, _, rfl, ⟨rfl, N18⟩, ⟨_, rfl⟩, hW, hsame.mono (by decide) (by decide)⟩
      · refine own_go (A := T10.setTop (mkF m 104 #[.val (.int p1), .val (.int p2), .val (.int p3), .val (.int p4), .val (.int p5), .val (.int p6), .val (.ref b1), .val (.int (3 : Int32)), .unset, .unset] [])) (fun t kt => XS.icmpNo X10.here hx rfl (hb hby at_101) rfl (flt hc101).1 kt) ?_
        refine own_go (A := T10.setTop (mkF m 105 #[.val (.int p1), .val (.int p2), .val (.int p3), .val (.int p4), .val (.int p5), .val (.int p6), .val (.ref b1), .val (.int (3 : Int32)), .unset, .unset] [(.int (1 : Int32))])) (fun t kt => XS.iconst X10.here hx rfl (hb hby at_104) kt) ?_
        refine own_go (A := T10.setTop (mkF m 107 #[.val (.int p1), .val (.int p2), .val (.int p3), .val (.int p4), .val (.int p5), .val (.int p6), .val (.ref b1), .val (.int (3 : Int32)), .val (.int (1 : Int32)), .unset] [])) (fun t kt => XS.istore X10.here hx rfl (hb hby at_105) rfl (l' := #[.val (.int p1), .val (.int p2), .val (.int p3), .val (.int p4), .val (.int p5), .val (.int p6), .val (.ref b1), .val (.int (3 : Int32)), .val (.int (1 : Int32)), .unset]) rfl kt) ?_
        refine own_go (A := T10.setTop (mkF m 156 #[.val (.int p1), .val (.int p2), .val (.int p3), .val (.int p4), .val (.int p5), .val (.int p6), .val (.ref b1), .val (.int (3 : Int32)), .val (.int (1 : Int32)), .unset] [])) (fun t kt => XS.goto X10.here hx rfl (pc0 := 107) (pc' := 156) rfl (hb hby at_107) (by decide) (by decide) kt) ?_
        refine own_go (A := T10.setTop (mkF m 158 #[.val (.int p1), .val (.int p2), .val (.int p3), .val (.int p4), .val (.int p5), .val (.int p6), .val (.ref b1), .val (.int (3 : Int32)), .val (.int (1 : Int32)), .unset] [(.ref b1)])) (fun t kt => XS.aload X10.here hx rfl (hb hby at_156) rfl rfl kt) ?_
        refine own_go (A := T10.setTop (mkF m 160 #[.val (.int p1), .val (.int p2), .val (.int p3), .val (.int p4), .val (.int p5), .val (.int p6), .val (.ref b1), .val (.int (3 : Int32)), .val (.int (1 : Int32)), .unset] [(.int (3 : Int32)), (.ref b1)])) (fun t kt => XS.iload X10.here hx rfl (hb hby at_158) rfl kt) ?_
        refine own_go (A := T10.setTop (mkF m 162 #[.val (.int p1), .val (.int p2), .val (.int p3), .val (.int p4), .val (.int p5), .val (.int p6), .val (.ref b1), .val (.int (3 : Int32)), .val (.int (1 : Int32)), .unset] [(.int p5), (.int (3 : Int32)), (.ref b1)])) (fun t kt => XS.iload X10.here hx rfl (hb hby at_160) rfl kt) ?_
        obtain ⟨_, _, ⟨T19, L19, k19, n19⟩, -, X19, ⟨Lc19, hQ19, l19, y19, z19⟩, st19⟩ := Jvm.LawKit.callS X10 hx (y := (⟨"com/example/collation/collation/value/Tree", "firstAtOrAfter", "([III)I"⟩ : MethodName)) hown (mvT hZ (hw _ (List.mem_of_getElem? (i := 6) rfl))) (mvT hZ (hw _ (List.mem_of_getElem? (i := 7) rfl))) (mvT hZ (hw _ (List.mem_of_getElem? (i := 8) rfl))) (mvT hZ (hw _ (List.mem_of_getElem? (i := 9) rfl))) (by decide) (backOf (W := 0) (rm2 l Z a0 hw [] b1 (3 : Int32) p5 f10 3 T10.heap n0 sz10 A10 (by decide) rfl) hZ (hw _ (List.mem_of_getElem? (i := 9) rfl)) (hw _ (List.mem_of_getElem? (i := 8) rfl)) (by decide) (by decide)) (g := (mkF m 162 #[.val (.int p1), .val (.int p2), .val (.int p3), .val (.int p4), .val (.int p5), .val (.int p6), .val (.ref b1), .val (.int (3 : Int32)), .val (.int (1 : Int32)), .unset] [(.int p5), (.int (3 : Int32)), (.ref b1)])) rfl (by rw [hml]; rfl) (argsL := [(.ref b1), (.int (3 : Int32)), (.int p5)]) (rest := []) (lenOf pd_2 rfl) rfl (by show 2 * 0 + _ ≤ _; exact Nat.le_of_eq rfl) (hb hby at_162) (fun _ _ => ⟨rfl, rfl, (by decide : 1 + 0 ≤ _), (by decide : 4 + 0 ≤ _)⟩)
        dsimp only [Pt.U, Pt.locs, Pt.cells, Pt.slots] at X19 l19 y19 z19 st19 hQ19
        subst l19 y19 z19
        obtain ⟨rfl, N19q, g19⟩ := hQ19
        have N19 := Fr.app N10 N19q
        refine own_go (A := T19.setTop (mkF m 165 #[.val (.int p1), .val (.int p2), .val (.int p3), .val (.int p4), .val (.int p5), .val (.int p6), .val (.ref b1), .val (.int (3 : Int32)), .val (.int (1 : Int32)), .unset] [(.int (own_find 3 f10 p5))])) st19 ?_
        refine own_go (A := T19.setTop (mkF m 167 #[.val (.int p1), .val (.int p2), .val (.int p3), .val (.int p4), .val (.int p5), .val (.int p6), .val (.ref b1), .val (.int (3 : Int32)), .val (.int (1 : Int32)), .val (.int (own_find 3 f10 p5))] [])) (fun t kt => XS.istore X19.here hx rfl (hb hby at_165) rfl (l' := #[.val (.int p1), .val (.int p2), .val (.int p3), .val (.int p4), .val (.int p5), .val (.int p6), .val (.ref b1), .val (.int (3 : Int32)), .val (.int (1 : Int32)), .val (.int (own_find 3 f10 p5))]) rfl kt) ?_
        refine own_go (A := T19.setTop (mkF m 169 #[.val (.int p1), .val (.int p2), .val (.int p3), .val (.int p4), .val (.int p5), .val (.int p6), .val (.ref b1), .val (.int (3 : Int32)), .val (.int (1 : Int32)), .val (.int (own_find 3 f10 p5))] [(.int (own_find 3 f10 p5))])) (fun t kt => XS.iload X19.here hx rfl (hb hby at_167) rfl kt) ?_
        refine own_go (A := T19.setTop (mkF m 171 #[.val (.int p1), .val (.int p2), .val (.int p3), .val (.int p4), .val (.int p5), .val (.int p6), .val (.ref b1), .val (.int (3 : Int32)), .val (.int (1 : Int32)), .val (.int (own_find 3 f10 p5))] [(.int (1 : Int32)), (.int (own_find 3 f10 p5))])) (fun t kt => XS.iload X19.here hx rfl (hb hby at_169) rfl kt) ?_
        have hfin : (own_find 3 f10 p5) = (1 : Int32) := by
          show G3 f10 p5 = _
          unfold G3
          simp only [Int32.lt_iff_toInt_lt] at hc80 hc101
          simp only [Int32.lt_iff_toInt_lt]
          obtain ⟨q1, q2, q3⟩ := hsort
          repeat' split
          all_goals first | rfl | (exfalso; omega)
        refine own_go (A := T19.setTop (mkF m 174 #[.val (.int p1), .val (.int p2), .val (.int p3), .val (.int p4), .val (.int p5), .val (.int p6), .val (.ref b1), .val (.int (3 : Int32)), .val (.int (1 : Int32)), .val (.int (own_find 3 f10 p5))] [])) (fun t kt => XS.icmpNo X19.here hx rfl (hb hby at_171) rfl (teq (hfin : (own_find 3 f10 p5) = (1 : Int32))).2 kt) ?_
        refine own_go (A := T19.setTop (mkF m 175 #[.val (.int p1), .val (.int p2), .val (.int p3), .val (.int p4), .val (.int p5), .val (.int p6), .val (.ref b1), .val (.int (3 : Int32)), .val (.int (1 : Int32)), .val (.int (own_find 3 f10 p5))] [(.int (1 : Int32))])) (fun t kt => XS.iconst X19.here hx rfl (hb hby at_174) kt) ?_
        refine own_go (A := T19.setTop (mkF m 179 #[.val (.int p1), .val (.int p2), .val (.int p3), .val (.int p4), .val (.int p5), .val (.int p6), .val (.ref b1), .val (.int (3 : Int32)), .val (.int (1 : Int32)), .val (.int (own_find 3 f10 p5))] [(.int (1 : Int32))])) (fun t kt => XS.goto X19.here hx rfl (pc0 := 175) (pc' := 179) rfl (hb hby at_175) (by decide) (by decide) kt) ?_
        obtain ⟨fs, hr, hrun, hended, hW, hsame⟩ := X19.leave (v := some (.int (1 : Int32))) (fun h => by rw [Bd.returns] at h; cases h)
        exact ⟨_, _, retN X19 hx (t := .boolean) Bd.returns (by simp) (hb hby at_179) hr, hrun, hended, _, _, rfl, ⟨rfl, N19⟩, ⟨_, rfl⟩, hW, hsame.mono (by decide) (by decide)⟩
    · refine own_go (A := T10.setTop (mkF m 83 #[.val (.int p1), .val (.int p2), .val (.int p3), .val (.int p4), .val (.int p5), .val (.int p6), .val (.ref b1), .val (.int (3 : Int32)), .unset, .unset] [])) (fun t kt => XS.icmpNo X10.here hx rfl (hb hby at_80) rfl (flt hc80).1 kt) ?_
      refine own_go (A := T10.setTop (mkF m 84 #[.val (.int p1), .val (.int p2), .val (.int p3), .val (.int p4), .val (.int p5), .val (.int p6), .val (.ref b1), .val (.int (3 : Int32)), .unset, .unset] [(.int (0 : Int32))])) (fun t kt => XS.iconst X10.here hx rfl (hb hby at_83) kt) ?_
      refine own_go (A := T10.setTop (mkF m 86 #[.val (.int p1), .val (.int p2), .val (.int p3), .val (.int p4), .val (.int p5), .val (.int p6), .val (.ref b1), .val (.int (3 : Int32)), .val (.int (0 : Int32)), .unset] [])) (fun t kt => XS.istore X10.here hx rfl (hb hby at_84) rfl (l' := #[.val (.int p1), .val (.int p2), .val (.int p3), .val (.int p4), .val (.int p5), .val (.int p6), .val (.ref b1), .val (.int (3 : Int32)), .val (.int (0 : Int32)), .unset]) rfl kt) ?_
      refine own_go (A := T10.setTop (mkF m 156 #[.val (.int p1), .val (.int p2), .val (.int p3), .val (.int p4), .val (.int p5), .val (.int p6), .val (.ref b1), .val (.int (3 : Int32)), .val (.int (0 : Int32)), .unset] [])) (fun t kt => XS.goto X10.here hx rfl (pc0 := 86) (pc' := 156) rfl (hb hby at_86) (by decide) (by decide) kt) ?_
      refine own_go (A := T10.setTop (mkF m 158 #[.val (.int p1), .val (.int p2), .val (.int p3), .val (.int p4), .val (.int p5), .val (.int p6), .val (.ref b1), .val (.int (3 : Int32)), .val (.int (0 : Int32)), .unset] [(.ref b1)])) (fun t kt => XS.aload X10.here hx rfl (hb hby at_156) rfl rfl kt) ?_
      refine own_go (A := T10.setTop (mkF m 160 #[.val (.int p1), .val (.int p2), .val (.int p3), .val (.int p4), .val (.int p5), .val (.int p6), .val (.ref b1), .val (.int (3 : Int32)), .val (.int (0 : Int32)), .unset] [(.int (3 : Int32)), (.ref b1)])) (fun t kt => XS.iload X10.here hx rfl (hb hby at_158) rfl kt) ?_
      refine own_go (A := T10.setTop (mkF m 162 #[.val (.int p1), .val (.int p2), .val (.int p3), .val (.int p4), .val (.int p5), .val (.int p6), .val (.ref b1), .val (.int (3 : Int32)), .val (.int (0 : Int32)), .unset] [(.int p5), (.int (3 : Int32)), (.ref b1)])) (fun t kt => XS.iload X10.here hx rfl (hb hby at_160) rfl kt) ?_
      obtain ⟨_, _, ⟨T20, L20, k20, n20⟩, -, X20, ⟨Lc20, hQ20, l20, y20, z20⟩, st20⟩ := Jvm.LawKit.callS X10 hx (y := (⟨"com/example/collation/collation/value/Tree", "firstAtOrAfter", "([III)I"⟩ : MethodName)) hown (mvT hZ (hw _ (List.mem_of_getElem? (i := 6) rfl))) (mvT hZ (hw _ (List.mem_of_getElem? (i := 7) rfl))) (mvT hZ (hw _ (List.mem_of_getElem? (i := 8) rfl))) (mvT hZ (hw _ (List.mem_of_getElem? (i := 9) rfl))) (by decide) (backOf (W := 0) (rm2 l Z a0 hw [] b1 (3 : Int32) p5 f10 3 T10.heap n0 sz10 A10 (by decide) rfl) hZ (hw _ (List.mem_of_getElem? (i := 9) rfl)) (hw _ (List.mem_of_getElem? (i := 8) rfl)) (by decide) (by decide)) (g := (mkF m 162 #[.val (.int p1), .val (.int p2), .val (.int p3), .val (.int p4), .val (.int p5), .val (.int p6), .val (.ref b1), .val (.int (3 : Int32)), .val (.int (0 : Int32)), .unset] [(.int p5), (.int (3 : Int32)), (.ref b1)])) rfl (by rw [hml]; rfl) (argsL := [(.ref b1), (.int (3 : Int32)), (.int p5)]) (rest := []) (lenOf pd_2 rfl) rfl (by show 2 * 0 + _ ≤ _; exact Nat.le_of_eq rfl) (hb hby at_162) (fun _ _ => ⟨rfl, rfl, (by decide : 1 + 0 ≤ _), (by decide : 4 + 0 ≤ _)⟩)
      dsimp only [Pt.U, Pt.locs, Pt.cells, Pt.slots] at X20 l20 y20 z20 st20 hQ20
      subst l20 y20 z20
      obtain ⟨rfl, N20q, g20⟩ := hQ20
      have N20 := Fr.app N10 N20q
      refine own_go (A := T20.setTop (mkF m 165 #[.val (.int p1), .val (.int p2), .val (.int p3), .val (.int p4), .val (.int p5), .val (.int p6), .val (.ref b1), .val (.int (3 : Int32)), .val (.int (0 : Int32)), .unset] [(.int (own_find 3 f10 p5))])) st20 ?_
      refine own_go (A := T20.setTop (mkF m 167 #[.val (.int p1), .val (.int p2), .val (.int p3), .val (.int p4), .val (.int p5), .val (.int p6), .val (.ref b1), .val (.int (3 : Int32)), .val (.int (0 : Int32)), .val (.int (own_find 3 f10 p5))] [])) (fun t kt => XS.istore X20.here hx rfl (hb hby at_165) rfl (l' := #[.val (.int p1), .val (.int p2), .val (.int p3), .val (.int p4), .val (.int p5), .val (.int p6), .val (.ref b1), .val (.int (3 : Int32)), .val (.int (0 : Int32)), .val (.int (own_find 3 f10 p5))]) rfl kt) ?_
      refine own_go (A := T20.setTop (mkF m 169 #[.val (.int p1), .val (.int p2), .val (.int p3), .val (.int p4), .val (.int p5), .val (.int p6), .val (.ref b1), .val (.int (3 : Int32)), .val (.int (0 : Int32)), .val (.int (own_find 3 f10 p5))] [(.int (own_find 3 f10 p5))])) (fun t kt => XS.iload X20.here hx rfl (hb hby at_167) rfl kt) ?_
      refine own_go (A := T20.setTop (mkF m 171 #[.val (.int p1), .val (.int p2), .val (.int p3), .val (.int p4), .val (.int p5), .val (.int p6), .val (.ref b1), .val (.int (3 : Int32)), .val (.int (0 : Int32)), .val (.int (own_find 3 f10 p5))] [(.int (0 : Int32)), (.int (own_find 3 f10 p5))])) (fun t kt => XS.iload X20.here hx rfl (hb hby at_169) rfl kt) ?_
      have hfin : (own_find 3 f10 p5) = (0 : Int32) := by
        show G3 f10 p5 = _
        unfold G3
        simp only [Int32.lt_iff_toInt_lt] at hc80
        simp only [Int32.lt_iff_toInt_lt]
        obtain ⟨q1, q2, q3⟩ := hsort
        repeat' split
        all_goals first | rfl | (exfalso; omega)
      refine own_go (A := T20.setTop (mkF m 174 #[.val (.int p1), .val (.int p2), .val (.int p3), .val (.int p4), .val (.int p5), .val (.int p6), .val (.ref b1), .val (.int (3 : Int32)), .val (.int (0 : Int32)), .val (.int (own_find 3 f10 p5))] [])) (fun t kt => XS.icmpNo X20.here hx rfl (hb hby at_171) rfl (teq (hfin : (own_find 3 f10 p5) = (0 : Int32))).2 kt) ?_
      refine own_go (A := T20.setTop (mkF m 175 #[.val (.int p1), .val (.int p2), .val (.int p3), .val (.int p4), .val (.int p5), .val (.int p6), .val (.ref b1), .val (.int (3 : Int32)), .val (.int (0 : Int32)), .val (.int (own_find 3 f10 p5))] [(.int (1 : Int32))])) (fun t kt => XS.iconst X20.here hx rfl (hb hby at_174) kt) ?_
      refine own_go (A := T20.setTop (mkF m 179 #[.val (.int p1), .val (.int p2), .val (.int p3), .val (.int p4), .val (.int p5), .val (.int p6), .val (.ref b1), .val (.int (3 : Int32)), .val (.int (0 : Int32)), .val (.int (own_find 3 f10 p5))] [(.int (1 : Int32))])) (fun t kt => XS.goto X20.here hx rfl (pc0 := 175) (pc' := 179) rfl (hb hby at_175) (by decide) (by decide) kt) ?_
      obtain ⟨fs, hr, hrun, hended, hW, hsame⟩ := X20.leave (v := some (.int (1 : Int32))) (fun h => by rw [Bd.returns] at h; cases h)
      exact ⟨_, _, retN X20 hx (t := .boolean) Bd.returns (by simp) (hb hby at_179) hr, hrun, hended, _, _, rfl, ⟨rfl, N20⟩, ⟨_, rfl⟩, hW, hsame.mono (by decide) (by decide)⟩
  | 4, _ =>
    show ∃ s₂ o, Steps p.tables e below (T10.setTop (mkF m 67 #[.val (.int p1), .val (.int p2), .val (.int p3), .val (.int p4), .val (.int p5), .val (.int p6), .val (.ref b1), .unset, .unset, .unset] [(.int (4 : Int32))])) s₂ ∧ _
    refine own_go (A := T10.setTop (mkF m 69 #[.val (.int p1), .val (.int p2), .val (.int p3), .val (.int p4), .val (.int p5), .val (.int p6), .val (.ref b1), .val (.int (4 : Int32)), .unset, .unset] [])) (fun t kt => XS.istore X10.here hx rfl (hb hby at_67) rfl (l' := #[.val (.int p1), .val (.int p2), .val (.int p3), .val (.int p4), .val (.int p5), .val (.int p6), .val (.ref b1), .val (.int (4 : Int32)), .unset, .unset]) rfl kt) ?_
    refine own_go (A := T10.setTop (mkF m 71 #[.val (.int p1), .val (.int p2), .val (.int p3), .val (.int p4), .val (.int p5), .val (.int p6), .val (.ref b1), .val (.int (4 : Int32)), .unset, .unset] [(.int (4 : Int32))])) (fun t kt => XS.iload X10.here hx rfl (hb hby at_69) rfl kt) ?_
    refine own_go (A := T10.setTop (mkF m 74 #[.val (.int p1), .val (.int p2), .val (.int p3), .val (.int p4), .val (.int p5), .val (.int p6), .val (.ref b1), .val (.int (4 : Int32)), .unset, .unset] [])) (fun t kt => XS.ifNo X10.here hx rfl (hb hby at_71) rfl ((if0 _ _).trans (tlt (by decide : (0 : Int32) < (4 : Int32))).2.2.2) kt) ?_
    refine own_go (A := T10.setTop (mkF m 76 #[.val (.int p1), .val (.int p2), .val (.int p3), .val (.int p4), .val (.int p5), .val (.int p6), .val (.ref b1), .val (.int (4 : Int32)), .unset, .unset] [(.ref b1)])) (fun t kt => XS.aload X10.here hx rfl (hb hby at_74) rfl rfl kt) ?_
    refine own_go (A := T10.setTop (mkF m 77 #[.val (.int p1), .val (.int p2), .val (.int p3), .val (.int p4), .val (.int p5), .val (.int p6), .val (.ref b1), .val (.int (4 : Int32)), .unset, .unset] [(.int (0 : Int32)), (.ref b1)])) (fun t kt => XS.iconst X10.here hx rfl (hb hby at_76) kt) ?_
    refine own_go (A := T10.setTop (mkF m 78 #[.val (.int p1), .val (.int p2), .val (.int p3), .val (.int p4), .val (.int p5), .val (.int p6), .val (.ref b1), .val (.int (4 : Int32)), .unset, .unset] [(.int (f10 0))])) (own_get X10 hx hZ rfl A10 0 (by decide) (by decide) (by decide) (g := (mkF m 77 #[.val (.int p1), .val (.int p2), .val (.int p3), .val (.int p4), .val (.int p5), .val (.int p6), .val (.ref b1), .val (.int (4 : Int32)), .unset, .unset] [(.int (0 : Int32)), (.ref b1)])) rfl rfl (hb hby at_77)) ?_
    refine own_go (A := T10.setTop (mkF m 80 #[.val (.int p1), .val (.int p2), .val (.int p3), .val (.int p4), .val (.int p5), .val (.int p6), .val (.ref b1), .val (.int (4 : Int32)), .unset, .unset] [(.int p5), (.int (f10 0))])) (fun t kt => XS.iload X10.here hx rfl (hb hby at_78) rfl kt) ?_
    by_cases hc80 : (f10 0) < p5
    · refine own_go (A := T10.setTop (mkF m 89 #[.val (.int p1), .val (.int p2), .val (.int p3), .val (.int p4), .val (.int p5), .val (.int p6), .val (.ref b1), .val (.int (4 : Int32)), .unset, .unset] [])) (fun t kt => XS.icmpYes X10.here hx rfl (pc0 := 80) (pc' := 89) rfl (hb hby at_80) rfl (tlt hc80).1 (by decide) (by decide) kt) ?_
      refine own_go (A := T10.setTop (mkF m 91 #[.val (.int p1), .val (.int p2), .val (.int p3), .val (.int p4), .val (.int p5), .val (.int p6), .val (.ref b1), .val (.int (4 : Int32)), .unset, .unset] [(.int (4 : Int32))])) (fun t kt => XS.iload X10.here hx rfl (hb hby at_89) rfl kt) ?_
      refine own_go (A := T10.setTop (mkF m 92 #[.val (.int p1), .val (.int p2), .val (.int p3), .val (.int p4), .val (.int p5), .val (.int p6), .val (.ref b1), .val (.int (4 : Int32)), .unset, .unset] [(.int (1 : Int32)), (.int (4 : Int32))])) (fun t kt => XS.iconst X10.here hx rfl (hb hby at_91) kt) ?_
      refine own_go (A := T10.setTop (mkF m 95 #[.val (.int p1), .val (.int p2), .val (.int p3), .val (.int p4), .val (.int p5), .val (.int p6), .val (.ref b1), .val (.int (4 : Int32)), .unset, .unset] [])) (fun t kt => XS.icmpNo X10.here hx rfl (hb hby at_92) rfl (tlt (by decide : (1 : Int32) < (4 : Int32))).2.2.2 kt) ?_
      refine own_go (A := T10.setTop (mkF m 97 #[.val (.int p1), .val (.int p2), .val (.int p3), .val (.int p4), .val (.int p5), .val (.int p6), .val (.ref b1), .val (.int (4 : Int32)), .unset, .unset] [(.ref b1)])) (fun t kt => XS.aload X10.here hx rfl (hb hby at_95) rfl rfl kt) ?_
      refine own_go (A := T10.setTop (mkF m 98 #[.val (.int p1), .val (.int p2), .val (.int p3), .val (.int p4), .val (.int p5), .val (.int p6), .val (.ref b1), .val (.int (4 : Int32)), .unset, .unset] [(.int (1 : Int32)), (.ref b1)])) (fun t kt => XS.iconst X10.here hx rfl (hb hby at_97) kt) ?_
      refine own_go (A := T10.setTop (mkF m 99 #[.val (.int p1), .val (.int p2), .val (.int p3), .val (.int p4), .val (.int p5), .val (.int p6), .val (.ref b1), .val (.int (4 : Int32)), .unset, .unset] [(.int (f10 1))])) (own_get X10 hx hZ rfl A10 1 (by decide) (by decide) (by decide) (g := (mkF m 98 #[.val (.int p1), .val (.int p2), .val (.int p3), .val (.int p4), .val (.int p5), .val (.int p6), .val (.ref b1), .val (.int (4 : Int32)), .unset, .unset] [(.int (1 : Int32)), (.ref b1)])) rfl rfl (hb hby at_98)) ?_
      refine own_go (A := T10.setTop (mkF m 101 #[.val (.int p1), .val (.int p2), .val (.int p3), .val (.int p4), .val (.int p5), .val (.int p6), .val (.ref b1), .val (.int (4 : Int32)), .unset, .unset] [(.int p5), (.int (f10 1))])) (fun t kt => XS.iload X10.here hx rfl (hb hby at_99) rfl kt) ?_
      by_cases hc101 : (f10 1) < p5
      · refine own_go (A := T10.setTop (mkF m 110 #[.val (.int p1), .val (.int p2), .val (.int p3), .val (.int p4), .val (.int p5), .val (.int p6), .val (.ref b1), .val (.int (4 : Int32)), .unset, .unset] [])) (fun t kt => XS.icmpYes X10.here hx rfl (pc0 := 101) (pc' := 110) rfl (hb hby at_101) rfl (tlt hc101).1 (by decide) (by decide) kt) ?_
        refine own_go (A := T10.setTop (mkF m 112 #[.val (.int p1), .val (.int p2), .val (.int p3), .val (.int p4), .val (.int p5), .val (.int p6), .val (.ref b1), .val (.int (4 : Int32)), .unset, .unset] [(.int (4 : Int32))])) (fun t kt => XS.iload X10.here hx rfl (hb hby at_110) rfl kt) ?_
        refine own_go (A := T10.setTop (mkF m 113 #[.val (.int p1), .val (.int p2), .val (.int p3), .val (.int p4), .val (.int p5), .val (.int p6), .val (.ref b1), .val (.int (4 : Int32)), .unset, .unset] [(.int (2 : Int32)), (.int (4 : Int32))])) (fun t kt => XS.iconst X10.here hx rfl (hb hby at_112) kt) ?_
        refine own_go (A := T10.setTop (mkF m 116 #[.val (.int p1), .val (.int p2), .val (.int p3), .val (.int p4), .val (.int p5), .val (.int p6), .val (.ref b1), .val (.int (4 : Int32)), .unset, .unset] [])) (fun t kt => XS.icmpNo X10.here hx rfl (hb hby at_113) rfl (tlt (by decide : (2 : Int32) < (4 : Int32))).2.2.2 kt) ?_
        refine own_go (A := T10.setTop (mkF m 118 #[.val (.int p1), .val (.int p2), .val (.int p3), .val (.int p4), .val (.int p5), .val (.int p6), .val (.ref b1), .val (.int (4 : Int32)), .unset, .unset] [(.ref b1)])) (fun t kt => XS.aload X10.here hx rfl (hb hby at_116) rfl rfl kt) ?_
        refine own_go (A := T10.setTop (mkF m 119 #[.val (.int p1), .val (.int p2), .val (.int p3), .val (.int p4), .val (.int p5), .val (.int p6), .val (.ref b1), .val (.int (4 : Int32)), .unset, .unset] [(.int (2 : Int32)), (.ref b1)])) (fun t kt => XS.iconst X10.here hx rfl (hb hby at_118) kt) ?_
        refine own_go (A := T10.setTop (mkF m 120 #[.val (.int p1), .val (.int p2), .val (.int p3), .val (.int p4), .val (.int p5), .val (.int p6), .val (.ref b1), .val (.int (4 : Int32)), .unset, .unset] [(.int (f10 2))])) (own_get X10 hx hZ rfl A10 2 (by decide) (by decide) (by decide) (g := (mkF m 119 #[.val (.int p1), .val (.int p2), .val (.int p3), .val (.int p4), .val (.int p5), .val (.int p6), .val (.ref b1), .val (.int (4 : Int32)), .unset, .unset] [(.int (2 : Int32)), (.ref b1)])) rfl rfl (hb hby at_119)) ?_
        refine own_go (A := T10.setTop (mkF m 122 #[.val (.int p1), .val (.int p2), .val (.int p3), .val (.int p4), .val (.int p5), .val (.int p6), .val (.ref b1), .val (.int (4 : Int32)), .unset, .unset] [(.int p5), (.int (f10 2))])) (fun t kt => XS.iload X10.here hx rfl (hb hby at_120) rfl kt) ?_
        by_cases hc122 : (f10 2) < p5
        · refine own_go (A := T10.setTop (mkF m 131 #[.val (.int p1), .val (.int p2), .val (.int p3), .val (.int p4), .val (.int p5), .val (.int p6), .val (.ref b1), .val (.int (4 : Int32)), .unset, .unset] [])) (fun t kt => XS.icmpYes X10.here hx rfl (pc0 := 122) (pc' := 131) rfl (hb hby at_122) rfl (tlt hc122).1 (by decide) (by decide) kt) ?_
          refine own_go (A := T10.setTop (mkF m 133 #[.val (.int p1), .val (.int p2), .val (.int p3), .val (.int p4), .val (.int p5), .val (.int p6), .val (.ref b1), .val (.int (4 : Int32)), .unset, .unset] [(.int (4 : Int32))])) (fun t kt => XS.iload X10.here hx rfl (hb hby at_131) rfl kt) ?_
          refine own_go (A := T10.setTop (mkF m 134 #[.val (.int p1), .val (.int p2), .val (.int p3), .val (.int p4), .val (.int p5), .val (.int p6), .val (.ref b1), .val (.int (4 : Int32)), .unset, .unset] [(.int (3 : Int32)), (.int (4 : Int32))])) (fun t kt => XS.iconst X10.here hx rfl (hb hby at_133) kt) ?_
          refine own_go (A := T10.setTop (mkF m 137 #[.val (.int p1), .val (.int p2), .val (.int p3), .val (.int p4), .val (.int p5), .val (.int p6), .val (.ref b1), .val (.int (4 : Int32)), .unset, .unset] [])) (fun t kt => XS.icmpNo X10.here hx rfl (hb hby at_134) rfl (tlt (by decide : (3 : Int32) < (4 : Int32))).2.2.2 kt) ?_
          refine own_go (A := T10.setTop (mkF m 139 #[.val (.int p1), .val (.int p2), .val (.int p3), .val (.int p4), .val (.int p5), .val (.int p6), .val (.ref b1), .val (.int (4 : Int32)), .unset, .unset] [(.ref b1)])) (fun t kt => XS.aload X10.here hx rfl (hb hby at_137) rfl rfl kt) ?_
          refine own_go (A := T10.setTop (mkF m 140 #[.val (.int p1), .val (.int p2), .val (.int p3), .val (.int p4), .val (.int p5), .val (.int p6), .val (.ref b1), .val (.int (4 : Int32)), .unset, .unset] [(.int (3 : Int32)), (.ref b1)])) (fun t kt => XS.iconst X10.here hx rfl (hb hby at_139) kt) ?_
          refine own_go (A := T10.setTop (mkF m 141 #[.val (.int p1), .val (.int p2), .val (.int p3), .val (.int p4), .val (.int p5), .val (.int p6), .val (.ref b1), .val (.int (4 : Int32)), .unset, .unset] [(.int (f10 3))])) (own_get X10 hx hZ rfl A10 3 (by decide) (by decide) (by decide) (g := (mkF m 140 #[.val (.int p1), .val (.int p2), .val (.int p3), .val (.int p4), .val (.int p5), .val (.int p6), .val (.ref b1), .val (.int (4 : Int32)), .unset, .unset] [(.int (3 : Int32)), (.ref b1)])) rfl rfl (hb hby at_140)) ?_
          refine own_go (A := T10.setTop (mkF m 143 #[.val (.int p1), .val (.int p2), .val (.int p3), .val (.int p4), .val (.int p5), .val (.int p6), .val (.ref b1), .val (.int (4 : Int32)), .unset, .unset] [(.int p5), (.int (f10 3))])) (fun t kt => XS.iload X10.here hx rfl (hb hby at_141) rfl kt) ?_
          by_cases hc143 : (f10 3) < p5
          · refine own_go (A := T10.setTop (mkF m 152 #[.val (.int p1), .val (.int p2), .val (.int p3), .val (.int p4), .val (.int p5), .val (.int p6), .val (.ref b1), .val (.int (4 : Int32)), .unset, .unset] [])) (fun t kt => XS.icmpYes X10.here hx rfl (pc0 := 143) (pc' := 152) rfl (hb hby at_143) rfl (tlt hc143).1 (by decide) (by decide) kt) ?_
            refine own_go (A := T10.setTop (mkF m 154 #[.val (.int p1), .val (.int p2), .val (.int p3), .val (.int p4), .val (.int p5), .val (.int p6), .val (.ref b1), .val (.int (4 : Int32)), .unset, .unset] [(.int (4 : Int32))])) (fun t kt => XS.iload X10.here hx rfl (hb hby at_152) rfl kt) ?_
            refine own_go (A := T10.setTop (mkF m 156 #[.val (.int p1), .val (.int p2), .val (.int p3), .val (.int p4), .val (.int p5), .val (.int p6), .val (.ref b1), .val (.int (4 : Int32)), .val (.int (4 : Int32)), .unset] [])) (fun t kt => XS.istore X10.here hx rfl (hb hby at_154) rfl (l' := #[.val (.int p1), .val (.int p2), .val (.int p3), .val (.int p4), .val (.int p5), .val (.int p6), .val (.ref b1), .val (.int (4 : Int32)), .val (.int (4 : Int32)), .unset]) rfl kt) ?_
            refine own_go (A := T10.setTop (mkF m 158 #[.val (.int p1), .val (.int p2), .val (.int p3), .val (.int p4), .val (.int p5), .val (.int p6), .val (.ref b1), .val (.int (4 : Int32)), .val (.int (4 : Int32)), .unset] [(.ref b1)])) (fun t kt => XS.aload X10.here hx rfl (hb hby at_156) rfl rfl kt) ?_
            refine own_go (A := T10.setTop (mkF m 160 #[.val (.int p1), .val (.int p2), .val (.int p3), .val (.int p4), .val (.int p5), .val (.int p6), .val (.ref b1), .val (.int (4 : Int32)), .val (.int (4 : Int32)), .unset] [(.int (4 : Int32)), (.ref b1)])) (fun t kt => XS.iload X10.here hx rfl (hb hby at_158) rfl kt) ?_
            refine own_go (A := T10.setTop (mkF m 162 #[.val (.int p1), .val (.int p2), .val (.int p3), .val (.int p4), .val (.int p5), .val (.int p6), .val (.ref b1), .val (.int (4 : Int32)), .val (.int (4 : Int32)), .unset] [(.int p5), (.int (4 : Int32)), (.ref b1)])) (fun t kt => XS.iload X10.here hx rfl (hb hby at_160) rfl kt) ?_
            obtain ⟨_, _, ⟨T21, L21, k21, n21⟩, -, X21, ⟨Lc21, hQ21, l21, y21, z21⟩, st21⟩ := Jvm.LawKit.callS X10 hx (y := (⟨"com/example/collation/collation/value/Tree", "firstAtOrAfter", "([III)I"⟩ : MethodName)) hown (mvT hZ (hw _ (List.mem_of_getElem? (i := 6) rfl))) (mvT hZ (hw _ (List.mem_of_getElem? (i := 7) rfl))) (mvT hZ (hw _ (List.mem_of_getElem? (i := 8) rfl))) (mvT hZ (hw _ (List.mem_of_getElem? (i := 9) rfl))) (by decide) (backOf (W := 0) (rm2 l Z a0 hw [] b1 (4 : Int32) p5 f10 4 T10.heap n0 sz10 A10 (by decide) rfl) hZ (hw _ (List.mem_of_getElem? (i := 9) rfl)) (hw _ (List.mem_of_getElem? (i := 8) rfl)) (by decide) (by decide)) (g := (mkF m 162 #[.val (.int p1), .val (.int p2), .val (.int p3), .val (.int p4), .val (.int p5), .val (.int p6), .val (.ref b1), .val (.int (4 : Int32)), .val (.int (4 : Int32)), .unset] [(.int p5), (.int (4 : Int32)), (.ref b1)])) rfl (by rw [hml]; rfl) (argsL := [(.ref b1), (.int (4 : Int32)), (.int p5)]) (rest := []) (lenOf pd_2 rfl) rfl (by show 2 * 0 + _ ≤ _; exact Nat.le_of_eq rfl) (hb hby at_162) (fun _ _ => ⟨rfl, rfl, (by decide : 1 + 0 ≤ _), (by decide : 4 + 0 ≤ _)⟩)
            dsimp only [Pt.U, Pt.locs, Pt.cells, Pt.slots] at X21 l21 y21 z21 st21 hQ21
            subst l21 y21 z21
            obtain ⟨rfl, N21q, g21⟩ := hQ21
            have N21 := Fr.app N10 N21q
            refine own_go (A := T21.setTop (mkF m 165 #[.val (.int p1), .val (.int p2), .val (.int p3), .val (.int p4), .val (.int p5), .val (.int p6), .val (.ref b1), .val (.int (4 : Int32)), .val (.int (4 : Int32)), .unset] [(.int (own_find 4 f10 p5))])) st21 ?_
            refine own_go (A := T21.setTop (mkF m 167 #[.val (.int p1), .val (.int p2), .val (.int p3), .val (.int p4), .val (.int p5), .val (.int p6), .val (.ref b1), .val (.int (4 : Int32)), .val (.int (4 : Int32)), .val (.int (own_find 4 f10 p5))] [])) (fun t kt => XS.istore X21.here hx rfl (hb hby at_165) rfl (l' := #[.val (.int p1), .val (.int p2), .val (.int p3), .val (.int p4), .val (.int p5), .val (.int p6), .val (.ref b1), .val (.int (4 : Int32)), .val (.int (4 : Int32)), .val (.int (own_find 4 f10 p5))]) rfl kt) ?_
            refine own_go (A := T21.setTop (mkF m 169 #[.val (.int p1), .val (.int p2), .val (.int p3), .val (.int p4), .val (.int p5), .val (.int p6), .val (.ref b1), .val (.int (4 : Int32)), .val (.int (4 : Int32)), .val (.int (own_find 4 f10 p5))] [(.int (own_find 4 f10 p5))])) (fun t kt => XS.iload X21.here hx rfl (hb hby at_167) rfl kt) ?_
            refine own_go (A := T21.setTop (mkF m 171 #[.val (.int p1), .val (.int p2), .val (.int p3), .val (.int p4), .val (.int p5), .val (.int p6), .val (.ref b1), .val (.int (4 : Int32)), .val (.int (4 : Int32)), .val (.int (own_find 4 f10 p5))] [(.int (4 : Int32)), (.int (own_find 4 f10 p5))])) (fun t kt => XS.iload X21.here hx rfl (hb hby at_169) rfl kt) ?_
            have hfin : (own_find 4 f10 p5) = (4 : Int32) := by
              show G4 f10 p5 = _
              unfold G4
              simp only [Int32.lt_iff_toInt_lt] at hc80 hc101 hc122 hc143
              simp only [Int32.lt_iff_toInt_lt]
              obtain ⟨q1, q2, q3⟩ := hsort
              repeat' split
              all_goals first | rfl | (exfalso; omega)
            refine own_go (A := T21.setTop (mkF m 174 #[.val (.int p1), .val (.int p2), .val (.int p3), .val (.int p4), .val (.int p5), .val (.int p6), .val (.ref b1), .val (.int (4 : Int32)), .val (.int (4 : Int32)), .val (.int (own_find 4 f10 p5))] [])) (fun t kt => XS.icmpNo X21.here hx rfl (hb hby at_171) rfl (teq (hfin : (own_find 4 f10 p5) = (4 : Int32))).2 kt) ?_
            refine own_go (A := T21.setTop (mkF m 175 #[.val (.int p1), .val (.int p2), .val (.int p3), .val (.int p4), .val (.int p5), .val (.int p6), .val (.ref b1), .val (.int (4 : Int32)), .val (.int (4 : Int32)), .val (.int (own_find 4 f10 p5))] [(.int (1 : Int32))])) (fun t kt => XS.iconst X21.here hx rfl (hb hby at_174) kt) ?_
            refine own_go (A := T21.setTop (mkF m 179 #[.val (.int p1), .val (.int p2), .val (.int p3), .val (.int p4), .val (.int p5), .val (.int p6), .val (.ref b1), .val (.int (4 : Int32)), .val (.int (4 : Int32)), .val (.int (own_find 4 f10 p5))] [(.int (1 : Int32))])) (fun t kt => XS.goto X21.here hx rfl (pc0 := 175) (pc' := 179) rfl (hb hby at_175) (by decide) (by decide) kt) ?_
            obtain ⟨fs, hr, hrun, hended, hW, hsame⟩ := X21.leave (v := some (.int (1 : Int32))) (fun h => by rw [Bd.returns] at h; cases h)
            exact ⟨_, _, retN X21 hx (t := .boolean) Bd.returns (by simp) (hb hby at_179) hr, hrun, hended, _, _, rfl, ⟨rfl, N21⟩, ⟨_, rfl⟩, hW, hsame.mono (by decide) (by decide)⟩
          · refine own_go (A := T10.setTop (mkF m 146 #[.val (.int p1), .val (.int p2), .val (.int p3), .val (.int p4), .val (.int p5), .val (.int p6), .val (.ref b1), .val (.int (4 : Int32)), .unset, .unset] [])) (fun t kt => XS.icmpNo X10.here hx rfl (hb hby at_143) rfl (flt hc143).1 kt) ?_
            refine own_go (A := T10.setTop (mkF m 147 #[.val (.int p1), .val (.int p2), .val (.int p3), .val (.int p4), .val (.int p5), .val (.int p6), .val (.ref b1), .val (.int (4 : Int32)), .unset, .unset] [(.int (3 : Int32))])) (fun t kt => XS.iconst X10.here hx rfl (hb hby at_146) kt) ?_
            refine own_go (A := T10.setTop (mkF m 149 #[.val (.int p1), .val (.int p2), .val (.int p3), .val (.int p4), .val (.int p5), .val (.int p6), .val (.ref b1), .val (.int (4 : Int32)), .val (.int (3 : Int32)), .unset] [])) (fun t kt => XS.istore X10.here hx rfl (hb hby at_147) rfl (l' := #[.val (.int p1), .val (.int p2), .val (.int p3), .val (.int p4), .val (.int p5), .val (.int p6), .val (.ref b1), .val (.int (4 : Int32)), .val (.int (3 : Int32)), .unset]) rfl kt) ?_
            refine own_go (A := T10.setTop (mkF m 156 #[.val (.int p1), .val (.int p2), .val (.int p3), .val (.int p4), .val (.int p5), .val (.int p6), .val (.ref b1), .val (.int (4 : Int32)), .val (.int (3 : Int32)), .unset] [])) (fun t kt => XS.goto X10.here hx rfl (pc0 := 149) (pc' := 156) rfl (hb hby at_149) (by decide) (by decide) kt) ?_
            refine own_go (A := T10.setTop (mkF m 158 #[.val (.int p1), .val (.int p2), .val (.int p3), .val (.int p4), .val (.int p5), .val (.int p6), .val (.ref b1), .val (.int (4 : Int32)), .val (.int (3 : Int32)), .unset] [(.ref b1)])) (fun t kt => XS.aload X10.here hx rfl (hb hby at_156) rfl rfl kt) ?_
            refine own_go (A := T10.setTop (mkF m 160 #[.val (.int p1), .val (.int p2), .val (.int p3), .val (.int p4), .val (.int p5), .val (.int p6), .val (.ref b1), .val (.int (4 : Int32)), .val (.int (3 : Int32)), .unset] [(.int (4 : Int32)), (.ref b1)])) (fun t kt => XS.iload X10.here hx rfl (hb hby at_158) rfl kt) ?_
            refine own_go (A := T10.setTop (mkF m 162 #[.val (.int p1), .val (.int p2), .val (.int p3), .val (.int p4), .val (.int p5), .val (.int p6), .val (.ref b1), .val (.int (4 : Int32)), .val (.int (3 : Int32)), .unset] [(.int p5), (.int (4 : Int32)), (.ref b1)])) (fun t kt => XS.iload X10.here hx rfl (hb hby at_160) rfl kt) ?_
            obtain ⟨_, _, ⟨T22, L22, k22, n22⟩, -, X22, ⟨Lc22, hQ22, l22, y22, z22⟩, st22⟩ := Jvm.LawKit.callS X10 hx (y := (⟨"com/example/collation/collation/value/Tree", "firstAtOrAfter", "([III)I"⟩ : MethodName)) hown (mvT hZ (hw _ (List.mem_of_getElem? (i := 6) rfl))) (mvT hZ (hw _ (List.mem_of_getElem? (i := 7) rfl))) (mvT hZ (hw _ (List.mem_of_getElem? (i := 8) rfl))) (mvT hZ (hw _ (List.mem_of_getElem? (i := 9) rfl))) (by decide) (backOf (W := 0) (rm2 l Z a0 hw [] b1 (4 : Int32) p5 f10 4 T10.heap n0 sz10 A10 (by decide) rfl) hZ (hw _ (List.mem_of_getElem? (i := 9) rfl)) (hw _ (List.mem_of_getElem? (i := 8) rfl)) (by decide) (by decide)) (g := (mkF m 162 #[.val (.int p1), .val (.int p2), .val (.int p3), .val (.int p4), .val (.int p5), .val (.int p6), .val (.ref b1), .val (.int (4 : Int32)), .val (.int (3 : Int32)), .unset] [(.int p5), (.int (4 : Int32)), (.ref b1)])) rfl (by rw [hml]; rfl) (argsL := [(.ref b1), (.int (4 : Int32)), (.int p5)]) (rest := []) (lenOf pd_2 rfl) rfl (by show 2 * 0 + _ ≤ _; exact Nat.le_of_eq rfl) (hb hby at_162) (fun _ _ => ⟨rfl, rfl, (by decide : 1 + 0 ≤ _), (by decide : 4 + 0 ≤ _)⟩)
            dsimp only [Pt.U, Pt.locs, Pt.cells, Pt.slots] at X22 l22 y22 z22 st22 hQ22
            subst l22 y22 z22
            obtain ⟨rfl, N22q, g22⟩ := hQ22
            have N22 := Fr.app N10 N22q
            refine own_go (A := T22.setTop (mkF m 165 #[.val (.int p1), .val (.int p2), .val (.int p3), .val (.int p4), .val (.int p5), .val (.int p6), .val (.ref b1), .val (.int (4 : Int32)), .val (.int (3 : Int32)), .unset] [(.int (own_find 4 f10 p5))])) st22 ?_
            refine own_go (A := T22.setTop (mkF m 167 #[.val (.int p1), .val (.int p2), .val (.int p3), .val (.int p4), .val (.int p5), .val (.int p6), .val (.ref b1), .val (.int (4 : Int32)), .val (.int (3 : Int32)), .val (.int (own_find 4 f10 p5))] [])) (fun t kt => XS.istore X22.here hx rfl (hb hby at_165) rfl (l' := #[.val (.int p1), .val (.int p2), .val (.int p3), .val (.int p4), .val (.int p5), .val (.int p6), .val (.ref b1), .val (.int (4 : Int32)), .val (.int (3 : Int32)), .val (.int (own_find 4 f10 p5))]) rfl kt) ?_
            refine own_go (A := T22.setTop (mkF m 169 #[.val (.int p1), .val (.int p2), .val (.int p3), .val (.int p4), .val (.int p5), .val (.int p6), .val (.ref b1), .val (.int (4 : Int32)), .val (.int (3 : Int32)), .val (.int (own_find 4 f10 p5))] [(.int (own_find 4 f10 p5))])) (fun t kt => XS.iload X22.here hx rfl (hb hby at_167) rfl kt) ?_
            refine own_go (A := T22.setTop (mkF m 171 #[.val (.int p1), .val (.int p2), .val (.int p3), .val (.int p4), .val (.int p5), .val (.int p6), .val (.ref b1), .val (.int (4 : Int32)), .val (.int (3 : Int32)), .val (.int (own_find 4 f10 p5))] [(.int (3 : Int32)), (.int (own_find 4 f10 p5))])) (fun t kt => XS.iload X22.here hx rfl (hb hby at_169) rfl kt) ?_
            have hfin : (own_find 4 f10 p5) = (3 : Int32) := by
              show G4 f10 p5 = _
              unfold G4
              simp only [Int32.lt_iff_toInt_lt] at hc80 hc101 hc122 hc143
              simp only [Int32.lt_iff_toInt_lt]
              obtain ⟨q1, q2, q3⟩ := hsort
              repeat' split
              all_goals first | rfl | (exfalso; omega)
            refine own_go (A := T22.setTop (mkF m 174 #[.val (.int p1), .val (.int p2), .val (.int p3), .val (.int p4), .val (.int p5), .val (.int p6), .val (.ref b1), .val (.int (4 : Int32)), .val (.int (3 : Int32)), .val (.int (own_find 4 f10 p5))] [])) (fun t kt => XS.icmpNo X22.here hx rfl (hb hby at_171) rfl (teq (hfin : (own_find 4 f10 p5) = (3 : Int32))).2 kt) ?_
            refine own_go (A := T22.setTop (mkF m 175 #[.val (.int p1), .val (.int p2), .val (.int p3), .val (.int p4), .val (.int p5), .val (.int p6), .val (.ref b1), .val (.int (4 : Int32)), .val (.int (3 : Int32)), .val (.int (own_find 4 f10 p5))] [(.int (1 : Int32))])) (fun t kt => XS.iconst X22.here hx rfl (hb hby at_174) kt) ?_
            refine own_go (A := T22.setTop (mkF m 179 #[.val (.int p1), .val (.int p2), .val (.int p3), .val (.int p4), .val (.int p5), .val (.int p6), .val (.ref b1), .val (.int (4 : Int32)), .val (.int (3 : Int32)), .val (.int (own_find 4 f10 p5))] [(.int (1 : Int32))])) (fun t kt => XS.goto X22.here hx rfl (pc0 := 175) (pc' := 179) rfl (hb hby at_175) (by decide) (by decide) kt) ?_
            obtain ⟨fs, hr, hrun, hended, hW, hsame⟩ := X22.leave (v := some (.int (1 : Int32))) (fun h => by rw [Bd.returns] at h; cases h)
            exact ⟨_, _, retN X22 hx (t := .boolean) Bd.returns (by simp) (hb hby at_179) hr, hrun, hended, _, _, rfl, ⟨rfl, N22⟩, ⟨_, rfl⟩, hW, hsame.mono (by decide) (by decide)⟩
        · refine own_go (A := T10.setTop (mkF m 125 #[.val (.int p1), .val (.int p2), .val (.int p3), .val (.int p4), .val (.int p5), .val (.int p6), .val (.ref b1), .val (.int (4 : Int32)), .unset, .unset] [])) (fun t kt => XS.icmpNo X10.here hx rfl (hb hby at_122) rfl (flt hc122).1 kt) ?_
          refine own_go (A := T10.setTop (mkF m 126 #[.val (.int p1), .val (.int p2), .val (.int p3), .val (.int p4), .val (.int p5), .val (.int p6), .val (.ref b1), .val (.int (4 : Int32)), .unset, .unset] [(.int (2 : Int32))])) (fun t kt => XS.iconst X10.here hx rfl (hb hby at_125) kt) ?_
          refine own_go (A := T10.setTop (mkF m 128 #[.val (.int p1), .val (.int p2), .val (.int p3), .val (.int p4), .val (.int p5), .val (.int p6), .val (.ref b1), .val (.int (4 : Int32)), .val (.int (2 : Int32)), .unset] [])) (fun t kt => XS.istore X10.here hx rfl (hb hby at_126) rfl (l' := #[.val (.int p1), .val (.int p2), .val (.int p3), .val (.int p4), .val (.int p5), .val (.int p6), .val (.ref b1), .val (.int (4 : Int32)), .val (.int (2 : Int32)), .unset]) rfl kt) ?_
          refine own_go (A := T10.setTop (mkF m 156 #[.val (.int p1), .val (.int p2), .val (.int p3), .val (.int p4), .val (.int p5), .val (.int p6), .val (.ref b1), .val (.int (4 : Int32)), .val (.int (2 : Int32)), .unset] [])) (fun t kt => XS.goto X10.here hx rfl (pc0 := 128) (pc' := 156) rfl (hb hby at_128) (by decide) (by decide) kt) ?_
          refine own_go (A := T10.setTop (mkF m 158 #[.val (.int p1), .val (.int p2), .val (.int p3), .val (.int p4), .val (.int p5), .val (.int p6), .val (.ref b1), .val (.int (4 : Int32)), .val (.int (2 : Int32)), .unset] [(.ref b1)])) (fun t kt => XS.aload X10.here hx rfl (hb hby at_156) rfl rfl kt) ?_
          refine own_go (A := T10.setTop (mkF m 160 #[.val (.int p1), .val (.int p2), .val (.int p3), .val (.int p4), .val (.int p5), .val (.int p6), .val (.ref b1), .val (.int (4 : Int32)), .val (.int (2 : Int32)), .unset] [(.int (4 : Int32)), (.ref b1)])) (fun t kt => XS.iload X10.here hx rfl (hb hby at_158) rfl kt) ?_
          refine own_go (A := T10.setTop (mkF m 162 #[.val (.int p1), .val (.int p2), .val (.int p3), .val (.int p4), .val (.int p5), .val (.int p6), .val (.ref b1), .val (.int (4 : Int32)), .val (.int (2 : Int32)), .unset] [(.int p5), (.int (4 : Int32)), (.ref b1)])) (fun t kt => XS.iload X10.here hx rfl (hb hby at_160) rfl kt) ?_
          obtain ⟨_, _, ⟨T23, L23, k23, n23⟩, -, X23, ⟨Lc23, hQ23, l23, y23, z23⟩, st23⟩ := Jvm.LawKit.callS X10 hx (y := (⟨"com/example/collation/collation/value/Tree", "firstAtOrAfter", "([III)I"⟩ : MethodName)) hown (mvT hZ (hw _ (List.mem_of_getElem? (i := 6) rfl))) (mvT hZ (hw _ (List.mem_of_getElem? (i := 7) rfl))) (mvT hZ (hw _ (List.mem_of_getElem? (i := 8) rfl))) (mvT hZ (hw _ (List.mem_of_getElem? (i := 9) rfl))) (by decide) (backOf (W := 0) (rm2 l Z a0 hw [] b1 (4 : Int32) p5 f10 4 T10.heap n0 sz10 A10 (by decide) rfl) hZ (hw _ (List.mem_of_getElem? (i := 9) rfl)) (hw _ (List.mem_of_getElem? (i := 8) rfl)) (by decide) (by decide)) (g := (mkF m 162 #[.val (.int p1), .val (.int p2), .val (.int p3), .val (.int p4), .val (.int p5), .val (.int p6), .val (.ref b1), .val (.int (4 : Int32)), .val (.int (2 : Int32)), .unset] [(.int p5), (.int (4 : Int32)), (.ref b1)])) rfl (by rw [hml]; rfl) (argsL := [(.ref b1), (.int (4 : Int32)), (.int p5)]) (rest := []) (lenOf pd_2 rfl) rfl (by show 2 * 0 + _ ≤ _; exact Nat.le_of_eq rfl) (hb hby at_162) (fun _ _ => ⟨rfl, rfl, (by decide : 1 + 0 ≤ _), (by decide : 4 + 0 ≤ _)⟩)
          dsimp only [Pt.U, Pt.locs, Pt.cells, Pt.slots] at X23 l23 y23 z23 st23 hQ23
          subst l23 y23 z23
          obtain ⟨rfl, N23q, g23⟩ := hQ23
          have N23 := Fr.app N10 N23q
          refine own_go (A := T23.setTop (mkF m 165 #[.val (.int p1), .val (.int p2), .val (.int p3), .val (.int p4), .val (.int p5), .val (.int p6), .val (.ref b1), .val (.int (4 : Int32)), .val (.int (2 : Int32)), .unset] [(.int (own_find 4 f10 p5))])) st23 ?_
          refine own_go (A := T23.setTop (mkF m 167 #[.val (.int p1), .val (.int p2), .val (.int p3), .val (.int p4), .val (.int p5), .val (.int p6), .val (.ref b1), .val (.int (4 : Int32)), .val (.int (2 : Int32)), .val (.int (own_find 4 f10 p5))] [])) (fun t kt => XS.istore X23.here hx rfl (hb hby at_165) rfl (l' := #[.val (.int p1), .val (.int p2), .val (.int p3), .val (.int p4), .val (.int p5), .val (.int p6), .val (.ref b1), .val (.int (4 : Int32)), .val (.int (2 : Int32)), .val (.int (own_find 4 f10 p5))]) rfl kt) ?_
          refine own_go (A := T23.setTop (mkF m 169 #[.val (.int p1), .val (.int p2), .val (.int p3), .val (.int p4), .val (.int p5), .val (.int p6), .val (.ref b1), .val (.int (4 : Int32)), .val (.int (2 : Int32)), .val (.int (own_find 4 f10 p5))] [(.int (own_find 4 f10 p5))])) (fun t kt => XS.iload X23.here hx rfl (hb hby at_167) rfl kt) ?_
          refine own_go (A := T23.setTop (mkF m 171 #[.val (.int p1), .val (.int p2), .val (.int p3), .val (.int p4), .val (.int p5), .val (.int p6), .val (.ref b1), .val (.int (4 : Int32)), .val (.int (2 : Int32)), .val (.int (own_find 4 f10 p5))] [(.int (2 : Int32)), (.int (own_find 4 f10 p5))])) (fun t kt => XS.iload X23.here hx rfl (hb hby at_169) rfl kt) ?_
          have hfin : (own_find 4 f10 p5) = (2 : Int32) := by
            show G4 f10 p5 = _
            unfold G4
            simp only [Int32.lt_iff_toInt_lt] at hc80 hc101 hc122
            simp only [Int32.lt_iff_toInt_lt]
            obtain ⟨q1, q2, q3⟩ := hsort
            repeat' split
            all_goals first | rfl | (exfalso; omega)
          refine own_go (A := T23.setTop (mkF m 174 #[.val (.int p1), .val (.int p2), .val (.int p3), .val (.int p4), .val (.int p5), .val (.int p6), .val (.ref b1), .val (.int (4 : Int32)), .val (.int (2 : Int32)), .val (.int (own_find 4 f10 p5))] [])) (fun t kt => XS.icmpNo X23.here hx rfl (hb hby at_171) rfl (teq (hfin : (own_find 4 f10 p5) = (2 : Int32))).2 kt) ?_
          refine own_go (A := T23.setTop (mkF m 175 #[.val (.int p1), .val (.int p2), .val (.int p3), .val (.int p4), .val (.int p5), .val (.int p6), .val (.ref b1), .val (.int (4 : Int32)), .val (.int (2 : Int32)), .val (.int (own_find 4 f10 p5))] [(.int (1 : Int32))])) (fun t kt => XS.iconst X23.here hx rfl (hb hby at_174) kt) ?_
          refine own_go (A := T23.setTop (mkF m 179 #[.val (.int p1), .val (.int p2), .val (.int p3), .val (.int p4), .val (.int p5), .val (.int p6), .val (.ref b1), .val (.int (4 : Int32)), .val (.int (2 : Int32)), .val (.int (own_find 4 f10 p5))] [(.int (1 : Int32))])) (fun t kt => XS.goto X23.here hx rfl (pc0 := 175) (pc' := 179) rfl (hb hby at_175) (by decide) (by decide) kt) ?_
          obtain ⟨fs, hr, hrun, hended, hW, hsame⟩ := X23.leave (v := some (.int (1 : Int32))) (fun h => by rw [Bd.returns] at h; cases h)
          exact ⟨_, _, retN X23 hx (t := .boolean) Bd.returns (by simp) (hb hby at_179) hr, hrun, hended, _, _, rfl, ⟨rfl, N23⟩, ⟨_, rfl⟩, hW, hsame.mono (by decide) (by decide)⟩
      · refine own_go (A := T10.setTop (mkF m 104 #[.val (.int p1), .val (.int p2), .val (.int p3), .val (.int p4), .val (.int p5), .val (.int p6), .val (.ref b1), .val (.int (4 : Int32)), .unset, .unset] [])) (fun t kt => XS.icmpNo X10.here hx rfl (hb hby at_101) rfl (flt hc101).1 kt) ?_
        refine own_go (A := T10.setTop (mkF m 105 #[.val (.int p1), .val (.int p2), .val (.int p3), .val (.int p4), .val (.int p5), .val (.int p6), .val (.ref b1), .val (.int (4 : Int32)), .unset, .unset] [(.int (1 : Int32))])) (fun t kt => XS.iconst X10.here hx rfl (hb hby at_104) kt) ?_
        refine own_go (A := T10.setTop (mkF m 107 #[.val (.int p1), .val (.int p2), .val (.int p3), .val (.int p4), .val (.int p5), .val (.int p6), .val (.ref b1), .val (.int (4 : Int32)), .val (.int (1 : Int32)), .unset] [])) (fun t kt => XS.istore X10.here hx rfl (hb hby at_105) rfl (l' := #[.val (.int p1), .val (.int p2), .val (.int p3), .val (.int p4), .val (.int p5), .val (.int p6), .val (.ref b1), .val (.int (4 : Int32)), .val (.int (1 : Int32)), .unset]) rfl kt) ?_
        refine own_go (A := T10.setTop (mkF m 156 #[.val (.int p1), .val (.int p2), .val (.int p3), .val (.int p4), .val (.int p5), .val (.int p6), .val (.ref b1), .val (.int (4 : Int32)), .val (.int (1 : Int32)), .unset] [])) (fun t kt => XS.goto X10.here hx rfl (pc0 := 107) (pc' := 156) rfl (hb hby at_107) (by decide) (by decide) kt) ?_
        refine own_go (A := T10.setTop (mkF m 158 #[.val (.int p1), .val (.int p2), .val (.int p3), .val (.int p4), .val (.int p5), .val (.int p6), .val (.ref b1), .val (.int (4 : Int32)), .val (.int (1 : Int32)), .unset] [(.ref b1)])) (fun t kt => XS.aload X10.here hx rfl (hb hby at_156) rfl rfl kt) ?_
        refine own_go (A := T10.setTop (mkF m 160 #[.val (.int p1), .val (.int p2), .val (.int p3), .val (.int p4), .val (.int p5), .val (.int p6), .val (.ref b1), .val (.int (4 : Int32)), .val (.int (1 : Int32)), .unset] [(.int (4 : Int32)), (.ref b1)])) (fun t kt => XS.iload X10.here hx rfl (hb hby at_158) rfl kt) ?_
        refine own_go (A := T10.setTop (mkF m 162 #[.val (.int p1), .val (.int p2), .val (.int p3), .val (.int p4), .val (.int p5), .val (.int p6), .val (.ref b1), .val (.int (4 : Int32)), .val (.int (1 : Int32)), .unset] [(.int p5), (.int (4 : Int32)), (.ref b1)])) (fun t kt => XS.iload X10.here hx rfl (hb hby at_160) rfl kt) ?_
        obtain ⟨_, _, ⟨T24, L24, k24, n24⟩, -, X24, ⟨Lc24, hQ24, l24, y24, z24⟩, st24⟩ := Jvm.LawKit.callS X10 hx (y := (⟨"com/example/collation/collation/value/Tree", "firstAtOrAfter", "([III)I"⟩ : MethodName)) hown (mvT hZ (hw _ (List.mem_of_getElem? (i := 6) rfl))) (mvT hZ (hw _ (List.mem_of_getElem? (i := 7) rfl))) (mvT hZ (hw _ (List.mem_of_getElem? (i := 8) rfl))) (mvT hZ (hw _ (List.mem_of_getElem? (i := 9) rfl))) (by decide) (backOf (W := 0) (rm2 l Z a0 hw [] b1 (4 : Int32) p5 f10 4 T10.heap n0 sz10 A10 (by decide) rfl) hZ (hw _ (List.mem_of_getElem? (i := 9) rfl)) (hw _ (List.mem_of_getElem? (i := 8) rfl)) (by decide) (by decide)) (g := (mkF m 162 #[.val (.int p1), .val (.int p2), .val (.int p3), .val (.int p4), .val (.int p5), .val (.int p6), .val (.ref b1), .val (.int (4 : Int32)), .val (.int (1 : Int32)), .unset] [(.int p5), (.int (4 : Int32)), (.ref b1)])) rfl (by rw [hml]; rfl) (argsL := [(.ref b1), (.int (4 : Int32)), (.int p5)]) (rest := []) (lenOf pd_2 rfl) rfl (by show 2 * 0 + _ ≤ _; exact Nat.le_of_eq rfl) (hb hby at_162) (fun _ _ => ⟨rfl, rfl, (by decide : 1 + 0 ≤ _), (by decide : 4 + 0 ≤ _)⟩)
        dsimp only [Pt.U, Pt.locs, Pt.cells, Pt.slots] at X24 l24 y24 z24 st24 hQ24
        subst l24 y24 z24
        obtain ⟨rfl, N24q, g24⟩ := hQ24
        have N24 := Fr.app N10 N24q
        refine own_go (A := T24.setTop (mkF m 165 #[.val (.int p1), .val (.int p2), .val (.int p3), .val (.int p4), .val (.int p5), .val (.int p6), .val (.ref b1), .val (.int (4 : Int32)), .val (.int (1 : Int32)), .unset] [(.int (own_find 4 f10 p5))])) st24 ?_
        refine own_go (A := T24.setTop (mkF m 167 #[.val (.int p1), .val (.int p2), .val (.int p3), .val (.int p4), .val (.int p5), .val (.int p6), .val (.ref b1), .val (.int (4 : Int32)), .val (.int (1 : Int32)), .val (.int (own_find 4 f10 p5))] [])) (fun t kt => XS.istore X24.here hx rfl (hb hby at_165) rfl (l' := #[.val (.int p1), .val (.int p2), .val (.int p3), .val (.int p4), .val (.int p5), .val (.int p6), .val (.ref b1), .val (.int (4 : Int32)), .val (.int (1 : Int32)), .val (.int (own_find 4 f10 p5))]) rfl kt) ?_
        refine own_go (A := T24.setTop (mkF m 169 #[.val (.int p1), .val (.int p2), .val (.int p3), .val (.int p4), .val (.int p5), .val (.int p6), .val (.ref b1), .val (.int (4 : Int32)), .val (.int (1 : Int32)), .val (.int (own_find 4 f10 p5))] [(.int (own_find 4 f10 p5))])) (fun t kt => XS.iload X24.here hx rfl (hb hby at_167) rfl kt) ?_
        refine own_go (A := T24.setTop (mkF m 171 #[.val (.int p1), .val (.int p2), .val (.int p3), .val (.int p4), .val (.int p5), .val (.int p6), .val (.ref b1), .val (.int (4 : Int32)), .val (.int (1 : Int32)), .val (.int (own_find 4 f10 p5))] [(.int (1 : Int32)), (.int (own_find 4 f10 p5))])) (fun t kt => XS.iload X24.here hx rfl (hb hby at_169) rfl kt) ?_
        have hfin : (own_find 4 f10 p5) = (1 : Int32) := by
          show G4 f10 p5 = _
          unfold G4
          simp only [Int32.lt_iff_toInt_lt] at hc80 hc101
          simp only [Int32.lt_iff_toInt_lt]
          obtain ⟨q1, q2, q3⟩ := hsort
          repeat' split
          all_goals first | rfl | (exfalso; omega)
        refine own_go (A := T24.setTop (mkF m 174 #[.val (.int p1), .val (.int p2), .val (.int p3), .val (.int p4), .val (.int p5), .val (.int p6), .val (.ref b1), .val (.int (4 : Int32)), .val (.int (1 : Int32)), .val (.int (own_find 4 f10 p5))] [])) (fun t kt => XS.icmpNo X24.here hx rfl (hb hby at_171) rfl (teq (hfin : (own_find 4 f10 p5) = (1 : Int32))).2 kt) ?_
        refine own_go (A := T24.setTop (mkF m 175 #[.val (.int p1), .val (.int p2), .val (.int p3), .val (.int p4), .val (.int p5), .val (.int p6), .val (.ref b1), .val (.int (4 : Int32)), .val (.int (1 : Int32)), .val (.int (own_find 4 f10 p5))] [(.int (1 : Int32))])) (fun t kt => XS.iconst X24.here hx rfl (hb hby at_174) kt) ?_
        refine own_go (A := T24.setTop (mkF m 179 #[.val (.int p1), .val (.int p2), .val (.int p3), .val (.int p4), .val (.int p5), .val (.int p6), .val (.ref b1), .val (.int (4 : Int32)), .val (.int (1 : Int32)), .val (.int (own_find 4 f10 p5))] [(.int (1 : Int32))])) (fun t kt => XS.goto X24.here hx rfl (pc0 := 175) (pc' := 179) rfl (hb hby at_175) (by decide) (by decide) kt) ?_
        obtain ⟨fs, hr, hrun, hended, hW, hsame⟩ := X24.leave (v := some (.int (1 : Int32))) (fun h => by rw [Bd.returns] at h; cases h)
        exact ⟨_, _, retN X24 hx (t := .boolean) Bd.returns (by simp) (hb hby at_179) hr, hrun, hended, _, _, rfl, ⟨rfl, N24⟩, ⟨_, rfl⟩, hW, hsame.mono (by decide) (by decide)⟩
    · refine own_go (A := T10.setTop (mkF m 83 #[.val (.int p1), .val (.int p2), .val (.int p3), .val (.int p4), .val (.int p5), .val (.int p6), .val (.ref b1), .val (.int (4 : Int32)), .unset, .unset] [])) (fun t kt => XS.icmpNo X10.here hx rfl (hb hby at_80) rfl (flt hc80).1 kt) ?_
      refine own_go (A := T10.setTop (mkF m 84 #[.val (.int p1), .val (.int p2), .val (.int p3), .val (.int p4), .val (.int p5), .val (.int p6), .val (.ref b1), .val (.int (4 : Int32)), .unset, .unset] [(.int (0 : Int32))])) (fun t kt => XS.iconst X10.here hx rfl (hb hby at_83) kt) ?_
      refine own_go (A := T10.setTop (mkF m 86 #[.val (.int p1), .val (.int p2), .val (.int p3), .val (.int p4), .val (.int p5), .val (.int p6), .val (.ref b1), .val (.int (4 : Int32)), .val (.int (0 : Int32)), .unset] [])) (fun t kt => XS.istore X10.here hx rfl (hb hby at_84) rfl (l' := #[.val (.int p1), .val (.int p2), .val (.int p3), .val (.int p4), .val (.int p5), .val (.int p6), .val (.ref b1), .val (.int (4 : Int32)), .val (.int (0 : Int32)), .unset]) rfl kt) ?_
      refine own_go (A := T10.setTop (mkF m 156 #[.val (.int p1), .val (.int p2), .val (.int p3), .val (.int p4), .val (.int p5), .val (.int p6), .val (.ref b1), .val (.int (4 : Int32)), .val (.int (0 : Int32)), .unset] [])) (fun t kt => XS.goto X10.here hx rfl (pc0 := 86) (pc' := 156) rfl (hb hby at_86) (by decide) (by decide) kt) ?_
      refine own_go (A := T10.setTop (mkF m 158 #[.val (.int p1), .val (.int p2), .val (.int p3), .val (.int p4), .val (.int p5), .val (.int p6), .val (.ref b1), .val (.int (4 : Int32)), .val (.int (0 : Int32)), .unset] [(.ref b1)])) (fun t kt => XS.aload X10.here hx rfl (hb hby at_156) rfl rfl kt) ?_
      refine own_go (A := T10.setTop (mkF m 160 #[.val (.int p1), .val (.int p2), .val (.int p3), .val (.int p4), .val (.int p5), .val (.int p6), .val (.ref b1), .val (.int (4 : Int32)), .val (.int (0 : Int32)), .unset] [(.int (4 : Int32)), (.ref b1)])) (fun t kt => XS.iload X10.here hx rfl (hb hby at_158) rfl kt) ?_
      refine own_go (A := T10.setTop (mkF m 162 #[.val (.int p1), .val (.int p2), .val (.int p3), .val (.int p4), .val (.int p5), .val (.int p6), .val (.ref b1), .val (.int (4 : Int32)), .val (.int (0 : Int32)), .unset] [(.int p5), (.int (4 : Int32)), (.ref b1)])) (fun t kt => XS.iload X10.here hx rfl (hb hby at_160) rfl kt) ?_
      obtain ⟨_, _, ⟨T25, L25, k25, n25⟩, -, X25, ⟨Lc25, hQ25, l25, y25, z25⟩, st25⟩ := Jvm.LawKit.callS X10 hx (y := (⟨"com/example/collation/collation/value/Tree", "firstAtOrAfter", "([III)I"⟩ : MethodName)) hown (mvT hZ (hw _ (List.mem_of_getElem? (i := 6) rfl))) (mvT hZ (hw _ (List.mem_of_getElem? (i := 7) rfl))) (mvT hZ (hw _ (List.mem_of_getElem? (i := 8) rfl))) (mvT hZ (hw _ (List.mem_of_getElem? (i := 9) rfl))) (by decide) (backOf (W := 0) (rm2 l Z a0 hw [] b1 (4 : Int32) p5 f10 4 T10.heap n0 sz10 A10 (by decide) rfl) hZ (hw _ (List.mem_of_getElem? (i := 9) rfl)) (hw _ (List.mem_of_getElem? (i := 8) rfl)) (by decide) (by decide)) (g := (mkF m 162 #[.val (.int p1), .val (.int p2), .val (.int p3), .val (.int p4), .val (.int p5), .val (.int p6), .val (.ref b1), .val (.int (4 : Int32)), .val (.int (0 : Int32)), .unset] [(.int p5), (.int (4 : Int32)), (.ref b1)])) rfl (by rw [hml]; rfl) (argsL := [(.ref b1), (.int (4 : Int32)), (.int p5)]) (rest := []) (lenOf pd_2 rfl) rfl (by show 2 * 0 + _ ≤ _; exact Nat.le_of_eq rfl) (hb hby at_162) (fun _ _ => ⟨rfl, rfl, (by decide : 1 + 0 ≤ _), (by decide : 4 + 0 ≤ _)⟩)
      dsimp only [Pt.U, Pt.locs, Pt.cells, Pt.slots] at X25 l25 y25 z25 st25 hQ25
      subst l25 y25 z25
      obtain ⟨rfl, N25q, g25⟩ := hQ25
      have N25 := Fr.app N10 N25q
      refine own_go (A := T25.setTop (mkF m 165 #[.val (.int p1), .val (.int p2), .val (.int p3), .val (.int p4), .val (.int p5), .val (.int p6), .val (.ref b1), .val (.int (4 : Int32)), .val (.int (0 : Int32)), .unset] [(.int (own_find 4 f10 p5))])) st25 ?_
      refine own_go (A := T25.setTop (mkF m 167 #[.val (.int p1), .val (.int p2), .val (.int p3), .val (.int p4), .val (.int p5), .val (.int p6), .val (.ref b1), .val (.int (4 : Int32)), .val (.int (0 : Int32)), .val (.int (own_find 4 f10 p5))] [])) (fun t kt => XS.istore X25.here hx rfl (hb hby at_165) rfl (l' := #[.val (.int p1), .val (.int p2), .val (.int p3), .val (.int p4), .val (.int p5), .val (.int p6), .val (.ref b1), .val (.int (4 : Int32)), .val (.int (0 : Int32)), .val (.int (own_find 4 f10 p5))]) rfl kt) ?_
      refine own_go (A := T25.setTop (mkF m 169 #[.val (.int p1), .val (.int p2), .val (.int p3), .val (.int p4), .val (.int p5), .val (.int p6), .val (.ref b1), .val (.int (4 : Int32)), .val (.int (0 : Int32)), .val (.int (own_find 4 f10 p5))] [(.int (own_find 4 f10 p5))])) (fun t kt => XS.iload X25.here hx rfl (hb hby at_167) rfl kt) ?_
      refine own_go (A := T25.setTop (mkF m 171 #[.val (.int p1), .val (.int p2), .val (.int p3), .val (.int p4), .val (.int p5), .val (.int p6), .val (.ref b1), .val (.int (4 : Int32)), .val (.int (0 : Int32)), .val (.int (own_find 4 f10 p5))] [(.int (0 : Int32)), (.int (own_find 4 f10 p5))])) (fun t kt => XS.iload X25.here hx rfl (hb hby at_169) rfl kt) ?_
      have hfin : (own_find 4 f10 p5) = (0 : Int32) := by
        show G4 f10 p5 = _
        unfold G4
        simp only [Int32.lt_iff_toInt_lt] at hc80
        simp only [Int32.lt_iff_toInt_lt]
        obtain ⟨q1, q2, q3⟩ := hsort
        repeat' split
        all_goals first | rfl | (exfalso; omega)
      refine own_go (A := T25.setTop (mkF m 174 #[.val (.int p1), .val (.int p2), .val (.int p3), .val (.int p4), .val (.int p5), .val (.int p6), .val (.ref b1), .val (.int (4 : Int32)), .val (.int (0 : Int32)), .val (.int (own_find 4 f10 p5))] [])) (fun t kt => XS.icmpNo X25.here hx rfl (hb hby at_171) rfl (teq (hfin : (own_find 4 f10 p5) = (0 : Int32))).2 kt) ?_
      refine own_go (A := T25.setTop (mkF m 175 #[.val (.int p1), .val (.int p2), .val (.int p3), .val (.int p4), .val (.int p5), .val (.int p6), .val (.ref b1), .val (.int (4 : Int32)), .val (.int (0 : Int32)), .val (.int (own_find 4 f10 p5))] [(.int (1 : Int32))])) (fun t kt => XS.iconst X25.here hx rfl (hb hby at_174) kt) ?_
      refine own_go (A := T25.setTop (mkF m 179 #[.val (.int p1), .val (.int p2), .val (.int p3), .val (.int p4), .val (.int p5), .val (.int p6), .val (.ref b1), .val (.int (4 : Int32)), .val (.int (0 : Int32)), .val (.int (own_find 4 f10 p5))] [(.int (1 : Int32))])) (fun t kt => XS.goto X25.here hx rfl (pc0 := 175) (pc' := 179) rfl (hb hby at_175) (by decide) (by decide) kt) ?_
      obtain ⟨fs, hr, hrun, hended, hW, hsame⟩ := X25.leave (v := some (.int (1 : Int32))) (fun h => by rw [Bd.returns] at h; cases h)
      exact ⟨_, _, retN X25 hx (t := .boolean) Bd.returns (by simp) (hb hby at_179) hr, hrun, hended, _, _, rfl, ⟨rfl, N25⟩, ⟨_, rfl⟩, hW, hsame.mono (by decide) (by decide)⟩
  | k + 5, hk => exact absurd hk (by omega)
set_option maxRecDepth 65536 in
set_option maxHeartbeats 40000000 in
theorem comes_1 {Post : Tables → Env → Array Value → State → Outcome → State → Prop} (hpost : ∀ tb e args s v u, (limb_1_1.after args s (.returned v) u = true ∧ limb_1_2.after args s (.returned v) u = true ∧ True) → FrameEnd s (.returned v) u (Jvm.fieldLocs frame_1_writes args s ++ Jvm.arrayLocs frame_1_arrays args s ++ Jvm.staticLocs frame_1_statics s) 16 128 → Post tb e args s (.returned v) u) :
    ArmFor flags0 classFile x code maxLocals ret World_1 tables_1 room_1 Calls_1 rest_1 Pre_1 Post := by
  intro l hfl _ _ p e ha hc hk s m args below hf hA hF happ hP
  obtain ⟨hcalls, hrest, hpre⟩ := hP
  obtain ⟨-, -, -, hnamed, -, -, -, hat⟩ := (Spec.applies_iff hf).mp happ
  obtain ⟨hg, hn⟩ := and_e (Cond.before_iff.mp (show (Jvm.Cond.and given_1 narrow_1).before args s = true from hpre))
  obtain ⟨gc, g0⟩ := and_e hg
  obtain ⟨ga0, g1⟩ := and_e g0
  obtain ⟨ga1, g2⟩ := and_e g1
  obtain ⟨ga2, g3⟩ := and_e g2
  obtain ⟨ga3, g4⟩ := and_e g3
  obtain ⟨ga4, g5⟩ := and_e g4
  have ga5 := g5
  obtain ⟨w0, w1, w2, w3, w4, w5, rfl⟩ : ∃ w0 w1 w2 w3 w4 w5 : Value, args = #[w0, w1, w2, w3, w4, w5] := by
    have hs : args.size = 6 := by simpa [Cond.value, given_1] using gc
    obtain ⟨L⟩ := args
    match L, hs with
    | [w0, w1, w2, w3, w4, w5], _ => exact ⟨w0, w1, w2, w3, w4, w5, rfl⟩
  have hw := fun d (hd : d ∈ tables_1) => atoms_spec (ws := Jvm.Cond.code x code maxLocals ret :: tables_1) hat d (List.mem_cons_of_mem _ hd)
  obtain ⟨i0, ei0⟩ := is_v ga0
  obtain rfl : w0 = (.int i0) := Option.some.inj ei0
  obtain ⟨i1, ei1⟩ := is_v ga1
  obtain rfl : w1 = (.int i1) := Option.some.inj ei1
  obtain ⟨i2, ei2⟩ := is_v ga2
  obtain rfl : w2 = (.int i2) := Option.some.inj ei2
  obtain ⟨i3, ei3⟩ := is_v ga3
  obtain rfl : w3 = (.int i3) := Option.some.inj ei3
  obtain ⟨i4, ei4⟩ := is_v ga4
  obtain rfl : w4 = (.int i4) := Option.some.inj ei4
  obtain ⟨i5, ei5⟩ := is_v ga5
  obtain rfl : w5 = (.int i5) := Option.some.inj ei5
  obtain ⟨n, o, h1, h2, h3, _, L, rfl, ⟨rfl, N⟩, hq⟩ := rm0 l s _ hw tables_1 i0 i1 i2 i3 i4 i5 s.heap s.heap.size (Nat.le_refl _) p e ha hc hk s m _ below hf ((Spec.applies_iff_loose hf).mp happ).1 ⟨rfl, State.Warmed39.refl s, rfl⟩ trivial
  refine ⟨n, _, h1, h2, h3, hpost _ _ _ _ _ _ ⟨Cond.after_iff.mpr rfl, Cond.after_iff.mpr (eq_i res_at (Term.int_eval (1)) rfl), trivial⟩ ⟨hq.1, hq.2.1, (hq.2.2.sift fun y hy => Or.inr (N y hy)).mono (by decide) (by decide)⟩⟩
theorem main_1_1 : Claimed_1_1 := comes_1 fun _ _ _ _ _ _ h hF => ⟨h.1, hF⟩
theorem main_1_2 : Claimed_1_2 := comes_1 fun _ _ _ _ _ _ h hF => ⟨h.2.1, hF⟩
end Jvm.Pilot.@@N@@
namespace Jvm.Pilot.@@N@@
open Jvm Jvm.ClassFile Sem Op Lib Jvm.Free Jvm.Stand Jvm.Pilot.@@N@@.Jvm.D
/-! MADE BY PROGRAM (witnessworld.py) out of the Statement's table words and the real class files: 9 classes; the members and pool entries that the words name. The judged class is class 1, her method 2. -/
namespace start1
open Jvm.ClassFile
def u (s : String) : CpInfo := .utf8 (stringToUtf16 s)
/-- a pool by its gaps: so many unusable entries, then the entry; so many at the end -/
def gap : Nat → List CpInfo → List CpInfo
  | 0, r => r
  | n + 1, r => .unusable :: gap n r
def poolList (es : List (Nat × CpInfo)) (last : Nat) : List CpInfo := es.foldr (fun e r => gap e.1 (e.2 :: r)) (gap last [])
def pool (es : List (Nat × CpInfo)) (last : Nat) : Array CpInfo := ⟨poolList es last⟩
def fileOf (pool : Array CpInfo) (this : Nat) (attrs : Array Attribute := #[]) (ms : Array MethodInfo := #[]) (fl : Nat := 33) (sup : Nat := 0) (ifs : Array Nat := #[]) (fds : Array FieldInfo := #[]) : ClassFile where
  minorVersion := 0
  majorVersion := 65
  constantPool := pool
  accessFlags := fl
  thisClass := this
  superClass := sup
  interfaces := ifs
  fields := fds
  methods := ms
  attributes := attrs
def plain (name : String) (sup : Option ClassId) : Class where
  name := name
  kind := .ordinary
  loader := none
  accessFlags := 33
  super := sup
  interfaces := #[]
  cf := none
  fields := #[]
  methods := #[]
  instanceTypes := #[]
  staticTypes := #[]
  resolved := #[]
  callSites := []
  init := .initialized
  statics := none
  mirror := none

def pool0 : Array CpInfo := pool [(5, u "<init>"), (0, u "()V"), (1, .class_ 10), (1, u "java/lang/Object")] 113

def k0m0 : Method := { name := "<init>", desc := "()V", sig := { parameters := [], returnType := none }, accessFlags := 1, code := none }
/-- java/lang/Object -/
def k0 : Class := { plain "java/lang/Object" none with
  accessFlags := 33
  interfaces := #[]
  cf := some (fileOf pool0 8 #[] #[{ accessFlags := 1, nameIndex := 5, descriptorIndex := 6, attributes := #[] }] 33 0 #[] #[])
  fields := #[]
  methods := #[k0m0]
  instanceTypes := #[]
  staticTypes := #[]
  resolved := Array.replicate 124 none
  statics := none }

def pool1 : Array CpInfo := pool [(2, .class_ 4), (1, u "java/lang/Object"), (0, u "<init>"), (0, u "()V"), (0, .methodref 8 9), (0, .class_ 10), (0, .nameAndType 11 12), (0, u "com/example/collation/collation/value/TreeFirstAtOrAfterPinLaw"), (0, u "order"), (0, u "([III)V"), (0, .integer 2147483647), (0, .methodref 15 16), (0, .class_ 17), (0, .nameAndType 18 19), (0, u "com/example/collation/collation/value/Tree"), (0, u "firstAtOrAfter"), (0, u "([III)I"), (3, u "law"), (0, u "(IIIIII)Z")] 4

def k1m0 : Method := { name := "<init>", desc := "()V", sig := { parameters := [], returnType := none }, accessFlags := 2, code := none }
def k1c1 : Code := { maxStack := 4, maxLocals := 4, code := method_2_code, exceptionTable := #[], attributes := #[] }
def k1m1 : Method := { name := "order", desc := "([III)V", sig := { parameters := [(.array .int), .int, .int], returnType := none }, accessFlags := 10, code := some k1c1 }
def k1c2 : Code := { maxStack := 3, maxLocals := 10, code := code, exceptionTable := #[], attributes := #[] }
def k1m2 : Method := { name := "law", desc := "(IIIIII)Z", sig := { parameters := [.int, .int, .int, .int, .int, .int], returnType := some .boolean }, accessFlags := 9, code := some k1c2 }
/-- com/example/collation/collation/value/TreeFirstAtOrAfterPinLaw -/
def k1 : Class := { plain "com/example/collation/collation/value/TreeFirstAtOrAfterPinLaw" (some 0) with
  accessFlags := 49
  interfaces := #[]
  cf := some (fileOf pool1 8 #[] #[{ accessFlags := 2, nameIndex := 5, descriptorIndex := 6, attributes := #[] }, { accessFlags := 10, nameIndex := 11, descriptorIndex := 12, attributes := #[] }, { accessFlags := 9, nameIndex := 23, descriptorIndex := 24, attributes := #[] }] 49 2 #[] #[])
  fields := #[]
  methods := #[k1m0, k1m1, k1m2]
  instanceTypes := #[]
  staticTypes := #[]
  resolved := Array.replicate 29 none
  statics := none }

def pool2 : Array CpInfo := pool [(3, .class_ 4), (0, u "com/example/collation/collation/value/Tree$IntColumn"), (0, .class_ 6), (0, u "com/example/collation/collation/value/Tree"), (1, .class_ 10), (1, u "java/lang/Object"), (4, u "TREES_BEGUN"), (0, u "Ljava/util/concurrent/atomic/AtomicLong;"), (8, u "number"), (0, u "J"), (2, u "kinds"), (0, u "[B"), (2, u "parents"), (0, u "[I"), (2, u "ends"), (2, u "data"), (0, .class_ 42), (0, u "com/example/collation/collation/value/Tree$Strings"), (7, u "values"), (0, u "Lcom/example/collation/collation/value/Tree$Strings;"), (2, u "attributed"), (0, u "[J"), (2, u "attributedBefore"), (0, .class_ 60), (0, u "com/example/collation/collation/value/Tree$OffsetColumn"), (3, u "firstAttributes"), (0, u "Lcom/example/collation/collation/value/Tree$OffsetColumn;"), (3, u "attributeNames"), (0, u "Lcom/example/collation/collation/value/Tree$IntColumn;"), (4, u "attributeValues"), (2, u "lastOwner"), (0, u "I"), (2, u "instructions"), (2, u "targets"), (5, u "names"), (0, u "Ljava/util/List;"), (2, u "prefixes"), (5, u "codes"), (0, u "Ljava/util/Map;"), (2, u "declaring"), (2, u "declarations"), (2, u "declared"), (2, u "file"), (0, u "Ljava/nio/file/Path;"), (2, u "size"), (2, u "KINDS"), (0, u "[Lcom/example/collation/collation/value/NodeItem$Kind;"), (2, u "ELEMENT"), (0, u "B"), (2, u "instructionCount"), (2, u "firstAtOrAfter"), (0, u "([III)I"), (17, u "TEXT"), (17, u "attributeCount"), (23, u "domNodes"), (0, u "[Lorg/w3c/dom/Node;"), (2, u "domAttributes"), (0, u "[[Lorg/w3c/dom/Node;"), (51, .class_ 251), (0, u "com/example/collation/collation/value/Tree$WrittenName"), (94, u "LARGEST_ARRAY"), (1, u "MOST_ATTRIBUTES"), (0, u "MOST_NARROW"), (0, u "MOST_WIDE")] 86

def k2c0 : Code := { maxStack := 2, maxLocals := 6, code := prog_110_method_40_code, exceptionTable := #[], attributes := #[] }
def k2m0 : Method := { name := "firstAtOrAfter", desc := "([III)I", sig := { parameters := [(.array .int), .int, .int], returnType := some .int }, accessFlags := 8, code := some k2c0 }
/-- com/example/collation/collation/value/Tree -/
def k2 : Class := { plain "com/example/collation/collation/value/Tree" (some 0) with
  accessFlags := 48
  interfaces := #[]
  cf := some (fileOf pool2 5 #[.nestMembers #[59, 3, 41, 250]] #[{ accessFlags := 8, nameIndex := 132, descriptorIndex := 133, attributes := #[] }] 48 8 #[] #[{ accessFlags := 26, nameIndex := 15, descriptorIndex := 16, attributes := #[] }, { accessFlags := 26, nameIndex := 121, descriptorIndex := 122, attributes := #[] }, { accessFlags := 26, nameIndex := 125, descriptorIndex := 126, attributes := #[] }, { accessFlags := 26, nameIndex := 151, descriptorIndex := 126, attributes := #[] }, { accessFlags := 26, nameIndex := 346, descriptorIndex := 79, attributes := #[] }, { accessFlags := 26, nameIndex := 348, descriptorIndex := 26, attributes := #[] }, { accessFlags := 26, nameIndex := 349, descriptorIndex := 79, attributes := #[] }, { accessFlags := 24, nameIndex := 350, descriptorIndex := 79, attributes := #[] }, { accessFlags := 18, nameIndex := 25, descriptorIndex := 26, attributes := #[] }, { accessFlags := 18, nameIndex := 114, descriptorIndex := 115, attributes := #[] }, { accessFlags := 2, nameIndex := 29, descriptorIndex := 30, attributes := #[] }, { accessFlags := 2, nameIndex := 33, descriptorIndex := 34, attributes := #[] }, { accessFlags := 2, nameIndex := 37, descriptorIndex := 34, attributes := #[] }, { accessFlags := 2, nameIndex := 40, descriptorIndex := 34, attributes := #[] }, { accessFlags := 2, nameIndex := 118, descriptorIndex := 79, attributes := #[] }, { accessFlags := 18, nameIndex := 50, descriptorIndex := 51, attributes := #[] }, { accessFlags := 2, nameIndex := 54, descriptorIndex := 55, attributes := #[] }, { accessFlags := 2, nameIndex := 58, descriptorIndex := 34, attributes := #[] }, { accessFlags := 18, nameIndex := 64, descriptorIndex := 65, attributes := #[] }, { accessFlags := 18, nameIndex := 69, descriptorIndex := 70, attributes := #[] }, { accessFlags := 2, nameIndex := 169, descriptorIndex := 26, attributes := #[] }, { accessFlags := 18, nameIndex := 75, descriptorIndex := 51, attributes := #[] }, { accessFlags := 2, nameIndex := 78, descriptorIndex := 79, attributes := #[] }, { accessFlags := 2, nameIndex := 82, descriptorIndex := 34, attributes := #[] }, { accessFlags := 2, nameIndex := 85, descriptorIndex := 34, attributes := #[] }, { accessFlags := 2, nameIndex := 129, descriptorIndex := 79, attributes := #[] }, { accessFlags := 18, nameIndex := 91, descriptorIndex := 92, attributes := #[] }, { accessFlags := 18, nameIndex := 95, descriptorIndex := 92, attributes := #[] }, { accessFlags := 18, nameIndex := 101, descriptorIndex := 102, attributes := #[] }, { accessFlags := 2, nameIndex := 105, descriptorIndex := 34, attributes := #[] }, { accessFlags := 18, nameIndex := 108, descriptorIndex := 92, attributes := #[] }, { accessFlags := 18, nameIndex := 111, descriptorIndex := 102, attributes := #[] }, { accessFlags := 2, nameIndex := 193, descriptorIndex := 194, attributes := #[] }, { accessFlags := 2, nameIndex := 197, descriptorIndex := 198, attributes := #[] }])
  fields := #[{ name := "TREES_BEGUN", type := (.object "java/util/concurrent/atomic/AtomicLong"), accessFlags := 26, slot := 0, constantValue := 0 }, { name := "KINDS", type := (.array (.object "com/example/collation/collation/value/NodeItem$Kind")), accessFlags := 26, slot := 1, constantValue := 0 }, { name := "ELEMENT", type := .byte, accessFlags := 26, slot := 2, constantValue := 0 }, { name := "TEXT", type := .byte, accessFlags := 26, slot := 3, constantValue := 0 }, { name := "LARGEST_ARRAY", type := .int, accessFlags := 26, slot := 4, constantValue := 0 }, { name := "MOST_ATTRIBUTES", type := .long, accessFlags := 26, slot := 5, constantValue := 0 }, { name := "MOST_NARROW", type := .int, accessFlags := 26, slot := 6, constantValue := 0 }, { name := "MOST_WIDE", type := .int, accessFlags := 24, slot := 7, constantValue := 0 }, { name := "number", type := .long, accessFlags := 18, slot := 0, constantValue := 0 }, { name := "file", type := (.object "java/nio/file/Path"), accessFlags := 18, slot := 1, constantValue := 0 }, { name := "kinds", type := (.array .byte), accessFlags := 2, slot := 2, constantValue := 0 }, { name := "parents", type := (.array .int), accessFlags := 2, slot := 3, constantValue := 0 }, { name := "ends", type := (.array .int), accessFlags := 2, slot := 4, constantValue := 0 }, { name := "data", type := (.array .int), accessFlags := 2, slot := 5, constantValue := 0 }, { name := "size", type := .int, accessFlags := 2, slot := 6, constantValue := 0 }, { name := "values", type := (.object "com/example/collation/collation/value/Tree$Strings"), accessFlags := 18, slot := 7, constantValue := 0 }, { name := "attributed", type := (.array .long), accessFlags := 2, slot := 8, constantValue := 0 }, { name := "attributedBefore", type := (.array .int), accessFlags := 2, slot := 9, constantValue := 0 }, { name := "firstAttributes", type := (.object "com/example/collation/collation/value/Tree$OffsetColumn"), accessFlags := 18, slot := 10, constantValue := 0 }, { name := "attributeNames", type := (.object "com/example/collation/collation/value/Tree$IntColumn"), accessFlags := 18, slot := 11, constantValue := 0 }, { name := "attributeCount", type := .long, accessFlags := 2, slot := 12, constantValue := 0 }, { name := "attributeValues", type := (.object "com/example/collation/collation/value/Tree$Strings"), accessFlags := 18, slot := 13, constantValue := 0 }, { name := "lastOwner", type := .int, accessFlags := 2, slot := 14, constantValue := 0 }, { name := "instructions", type := (.array .int), accessFlags := 2, slot := 15, constantValue := 0 }, { name := "targets", type := (.array .int), accessFlags := 2, slot := 16, constantValue := 0 }, { name := "instructionCount", type := .int, accessFlags := 2, slot := 17, constantValue := 0 }, { name := "names", type := (.object "java/util/List"), accessFlags := 18, slot := 18, constantValue := 0 }, { name := "prefixes", type := (.object "java/util/List"), accessFlags := 18, slot := 19, constantValue := 0 }, { name := "codes", type := (.object "java/util/Map"), accessFlags := 18, slot := 20, constantValue := 0 }, { name := "declaring", type := (.array .int), accessFlags := 2, slot := 21, constantValue := 0 }, { name := "declarations", type := (.object "java/util/List"), accessFlags := 18, slot := 22, constantValue := 0 }, { name := "declared", type := (.object "java/util/Map"), accessFlags := 18, slot := 23, constantValue := 0 }, { name := "domNodes", type := (.array (.object "org/w3c/dom/Node")), accessFlags := 2, slot := 24, constantValue := 0 }, { name := "domAttributes", type := (.array (.array (.object "org/w3c/dom/Node"))), accessFlags := 2, slot := 25, constantValue := 0 }]
  methods := #[k2m0]
  instanceTypes := #[.long, (.object "java/nio/file/Path"), (.array .byte), (.array .int), (.array .int), (.array .int), .int, (.object "com/example/collation/collation/value/Tree$Strings"), (.array .long), (.array .int), (.object "com/example/collation/collation/value/Tree$OffsetColumn"), (.object "com/example/collation/collation/value/Tree$IntColumn"), .long, (.object "com/example/collation/collation/value/Tree$Strings"), .int, (.array .int), (.array .int), .int, (.object "java/util/List"), (.object "java/util/List"), (.object "java/util/Map"), (.array .int), (.object "java/util/List"), (.object "java/util/Map"), (.array (.object "org/w3c/dom/Node")), (.array (.array (.object "org/w3c/dom/Node")))]
  staticTypes := #[(.object "java/util/concurrent/atomic/AtomicLong"), (.array (.object "com/example/collation/collation/value/NodeItem$Kind")), .byte, .byte, .int, .long, .int, .int]
  resolved := Array.replicate 437 none
  statics := none }

def pool3 : Array CpInfo := pool [(1, u "java/lang/Cloneable"), (0, .class_ 1), (0, u "java/lang/Object"), (0, .class_ 3)] 3

/-- java/lang/Cloneable -/
def k3 : Class := { plain "java/lang/Cloneable" (some 0) with
  accessFlags := 1537
  interfaces := #[]
  cf := some (fileOf pool3 2 #[] #[] 1537 4 #[] #[])
  fields := #[]
  methods := #[]
  instanceTypes := #[]
  staticTypes := #[]
  resolved := Array.replicate 8 none
  statics := none }

def pool4 : Array CpInfo := pool [(1, u "java/io/Serializable"), (0, .class_ 1), (0, u "java/lang/Object"), (0, .class_ 3)] 3

/-- java/io/Serializable -/
def k4 : Class := { plain "java/io/Serializable" (some 0) with
  accessFlags := 1537
  interfaces := #[]
  cf := some (fileOf pool4 2 #[] #[] 1537 4 #[] #[])
  fields := #[]
  methods := #[]
  instanceTypes := #[]
  staticTypes := #[]
  resolved := Array.replicate 8 none
  statics := none }

/-- the primitive byte -/
def k5 : Class := { plain "byte" none with kind := .primitive 'B', accessFlags := 0x411 }
/-- [B -/
def k6 : Class := { plain "[B" (some 0) with kind := .array 5 .byte, interfaces := #[3, 4], accessFlags := 1041 }

/-- the primitive int -/
def k7 : Class := { plain "int" none with kind := .primitive 'I', accessFlags := 0x411 }
/-- [I -/
def k8 : Class := { plain "[I" (some 0) with kind := .array 7 .int, interfaces := #[3, 4], accessFlags := 1041 }

def heap : Heap := #[]
def classes : Array Class := #[k0, k1, k2, k3, k4, k5, k6, k7, k8]
def interned : List (Array UInt16 × Addr) := []
def slotsUsed : Nat := 0
def theMethod : MethodId := ⟨1, 2⟩
def args0 : Array Value := #[.int 5, .int 1, .int 2, .int 3, .int 4, .int 3]
def aboutOver (below : List Frame) : State where
  vm := { classes := classes, interned := interned.toArray }
  heap := heap
  slotsUsed := slotsUsed
  threads := #[{ frames := .invoking theMethod args0 :: below }]
def below0 : List Frame := [.native { method := ⟨0, 0⟩, args := #[] }]
def about1 : State := aboutOver below0
def p0 : Program := .bare "" "" ""
def e0 : Env := launch0.env 0 0 0
theorem w_frames : about1.frames = Frame.invoking theMethod args0 :: below0 := rfl
set_option maxRecDepth 65536 in
theorem w_args : argsFit about1.vm theMethod args0 = true := by decide +kernel
set_option maxRecDepth 65536 in
theorem w_heap : heapFits about1 = true := by decide +kernel
set_option maxRecDepth 65536 in
theorem w_runnable : about1.curStatus? = some .runnable := by decide +kernel
set_option maxRecDepth 65536 in
theorem w_alone : about1.alone = true := by decide +kernel
set_option maxRecDepth 65536 in
theorem w_named : about1.methodNamed? x = some theMethod := by decide +kernel
set_option maxRecDepth 65536 in
theorem w_hears : about1.hears theMethod below0 = true := by decide +kernel
set_option maxRecDepth 65536 in
theorem w_ripe : about1.ripe theMethod args0 below0 = true := by decide +kernel
theorem w_running : about1.status = .running := rfl
set_option maxRecDepth 65536 in
theorem w_room : about1.hasRoom e0.platform room_1 = true :=
  launch0.hasRoom_least _ room_1 (by decide +kernel) (by decide +kernel) (by decide +kernel) (by decide +kernel) (by decide +kernel) (by decide +kernel)
theorem allAtoms_all (ts : List Jvm.Cond) (a : Array Jvm.Value) (st : Jvm.State) : (allAtoms ts).before a st = ts.all (fun c => c.before a st) := by
  induction ts with
  | nil => rfl
  | cons c t ih =>
    show (Jvm.Cond.and c (allAtoms t)).before a st = _
    rw [Jvm.Cond.before_and, ih, List.all_cons]
def words1 : List Jvm.Cond := Jvm.Cond.code x code maxLocals ret :: tables_1
/-- a 'code' word, met by the world's own term for the bytes: nothing is compared byte by byte -/
theorem code_word {y : MethodName} {bytes : ByteArray} {mx : Nat} {rt : Option FieldType} {a : Array Value} {s : State} {m : MethodId} {meth : Method} {c : Code} (h1 : s.methodNamed? y = some m) (h2 : s.vm.method? m = some meth) (h3 : meth.code = some c) (h4 : c.code = bytes)
    (h5 : (c.maxLocals == mx && c.exceptionTable.isEmpty && decide (c.maxStack ≤ mostOperands) && decide (meth.sig.returnType = rt) && !meth.locks && decide (parseMethodDescriptor y.desc = some meth.sig)) = true) : (Jvm.Cond.code y bytes mx rt).before a s = true := by
  simp only [Bool.and_eq_true, beq_iff_eq, Bool.not_eq_true', decide_eq_true_eq] at h5
  obtain ⟨⟨⟨⟨⟨g1, g2⟩, g3⟩, g4⟩, g5⟩, g6⟩ := h5
  simp [Cond.before, Cond.holds, Cond.value, h1, h2, h3, h4, g1, g2, g3, g4, g5, g6]
def isCode : Jvm.Cond → Bool
  | .code _ _ _ _ => true
  | _ => false
theorem all_split {L : List Jvm.Cond} {P : Jvm.Cond → Bool} (h1 : L.all (fun c => isCode c || P c) = true) (h2 : ∀ c ∈ L.filter isCode, P c = true) : L.all P = true := by
  refine List.all_eq_true.mpr fun c hc => ?_
  have h := List.all_eq_true.mp h1 c hc
  rcases Bool.eq_false_or_eq_true (isCode c) with hi | hi
  · exact h2 c (List.mem_filter.mpr ⟨hc, hi⟩)
  · simpa [hi] using h
set_option maxRecDepth 65536 in
theorem w_c0 : (Jvm.Cond.code x code maxLocals ret).before args0 about1 = true := code_word (m := ⟨1, 2⟩) (meth := k1m2) (c := k1c2) (by decide +kernel) rfl rfl rfl (by decide +kernel)
set_option maxRecDepth 65536 in
theorem w_c1 : (Jvm.Cond.code ({ cls := "com/example/collation/collation/value/TreeFirstAtOrAfterPinLaw", name := "order", desc := "([III)V" } : Jvm.MethodName) method_2_code (4 : Nat) (Option.none : Option Jvm.ClassFile.FieldType)).before args0 about1 = true := code_word (m := ⟨1, 1⟩) (meth := k1m1) (c := k1c1) (by decide +kernel) rfl rfl rfl (by decide +kernel)
set_option maxRecDepth 65536 in
theorem w_c2 : (Jvm.Cond.code ({ cls := "com/example/collation/collation/value/Tree", name := "firstAtOrAfter", desc := "([III)I" } : Jvm.MethodName) prog_110_method_40_code (6 : Nat) (Option.some Jvm.ClassFile.FieldType.int)).before args0 about1 = true := code_word (m := ⟨2, 0⟩) (meth := k2m0) (c := k2c0) (by decide +kernel) rfl rfl rfl (by decide +kernel)
def codes1 : List Jvm.Cond := [Jvm.Cond.code x code maxLocals ret, Jvm.Cond.code ({ cls := "com/example/collation/collation/value/TreeFirstAtOrAfterPinLaw", name := "order", desc := "([III)V" } : Jvm.MethodName) method_2_code (4 : Nat) (Option.none : Option Jvm.ClassFile.FieldType), Jvm.Cond.code ({ cls := "com/example/collation/collation/value/Tree", name := "firstAtOrAfter", desc := "([III)I" } : Jvm.MethodName) prog_110_method_40_code (6 : Nat) (Option.some Jvm.ClassFile.FieldType.int)]
set_option maxRecDepth 65536 in
theorem codes_eq : words1.filter isCode = codes1 := rfl
theorem w_codes : ∀ c ∈ words1.filter isCode, c.before args0 about1 = true := by
  rw [codes_eq]
  intro c hc
  simp only [codes1, List.mem_cons, List.not_mem_nil, or_false] at hc
  rcases hc with rfl | rfl | rfl
  · exact w_c0
  · exact w_c1
  · exact w_c2
set_option maxRecDepth 65536 in
theorem w_t1 : words1.all (fun c => isCode c || c.before args0 about1) = true := by decide +kernel
theorem w_tables : (allAtoms (Jvm.Cond.code x code maxLocals ret :: tables_1)).before args0 about1 = true := by
  rw [allAtoms_all]
  show words1.all (fun c => c.before args0 about1) = true
  refine all_split ?_ w_codes
  rw [w_t1]
set_option maxRecDepth 65536 in
theorem w_case : (Jvm.Cond.and given_1 narrow_1).before args0 about1 = true := by decide +kernel
theorem w_applies : (headSpec (Jvm.Cond.code x code maxLocals ret :: tables_1) room_1).applies x e0.platform about1 = true :=
  (Spec.applies_iff w_frames).mpr ⟨w_running, w_runnable, w_alone, w_named, w_hears, w_ripe, w_room, w_tables⟩
theorem atStart : AtStart classFile x code maxLocals ret World_1 tables_1 room_1 Calls_1 rest_1 Pre_1 launch0 p0 e0 about1 theMethod args0 below0 :=
  ⟨lists_1, trivial, launch0.admits_env _ _ _, launch0.least_env, fairChoices_fair.cas, fairChoices_fair.clock, w_frames, w_args, w_heap, w_applies, trivial, trivial, w_case⟩
end start1
theorem witness_1 : WitnessClaimed_1 := ⟨start1.p0, start1.e0, start1.about1, start1.theMethod, start1.args0, start1.below0, start1.atStart⟩
end Jvm.Pilot.@@N@@
