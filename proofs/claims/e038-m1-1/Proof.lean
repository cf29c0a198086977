import JvmDerived
import JvmDerived.Pilot.@@N@@Statement
import JvmDerived.Pilot.@@N@@Code
set_option linter.unusedVariables false
set_option linter.unusedSimpArgs false
namespace Jvm.RoadKit
open Sem ClassFile Op Lib Jvm.Stand Jvm.Free Jvm.LawKit
section New
variable {p : Program} {l : Launch} {e : Env} {R : Room} {s : State} {m : MethodId} {args : Array Value} {below : List Frame} {meth : Method} {c : Code} {T : State} {locs : List Loc} {cells slots : Nat}
theorem retI (X : Stand p l e R s m args below meth c T locs cells slots) (hx : p.tables.exec = Jvm.exec) {pc : Nat} {Ls : Array Slot} {z : Int32} {rest : List Value} (hret : meth.sig.returnType = some .int) (hd : decode c.code pc = .ok (.ireturn, 1)) {fs : List Frame}
    (hl : ∀ (f : JFrame) (acts : List Action), f.method = m → f.locked = none → f.entered = [] → (doReturn e (T.setTop f) acts (some (.int z))).1 = T.setFrames fs) : Steps p.tables e below (T.setTop (mkF m pc Ls (.int z :: rest))) (T.setFrames fs) := by
  have hm' : T.vm.method? m = some meth := X.method'
  have hn : narrow .int (.int z) = .int z := rfl
  show Steps p.tables e below (T.setTop { method := m, pc := pc, locals := Ls, stack := _ :: rest, locked := none }) _
  jvm_step X.here [X.here.top, hx, hd, hm', hret, hn]
  first | (intro acts; rw [hl _ acts rfl rfl rfl]) | rw [hl _ _ rfl rfl rfl]
  exact Steps.refl _
end New
end Jvm.RoadKit
namespace Jvm.Pilot.@@N@@
open Jvm Jvm.ClassFile Sem Op Lib Jvm.Free Jvm.Stand Jvm.LawKit Jvm.RoadKit Bundle Jvm.Pilot.@@N@@.Jvm.D
/-- a piece of the walk ahead of what is still to be reached -/
theorem own_go {tb : Tables} {e : Env} {below : List Frame} {A B : State} {P : State → Outcome → Prop} (st : ∀ t, Steps tb e below A t → Steps tb e below B t) (h : ∃ s₂ o, Steps tb e below A s₂ ∧ P s₂ o) : ∃ s₂ o, Steps tb e below B s₂ ∧ P s₂ o := by
  obtain ⟨s₂, o, h1, h2⟩ := h
  exact ⟨s₂, o, st _ h1, h2⟩
/-- an int[] of n places that holds f k at place k -/
def own_A (Z : State) (h : Heap) (a : Addr) (n : Nat) (f : Nat → Int32) : Prop := ∃ cl : Cell, Arr Z h a cl .int ∧ cl.slots.size = n ∧ ∀ k, k < n → cl.slots[k]? = some (.int (f k))
def own_upd (f : Nat → Int32) (j : Nat) (x : Int32) (k : Nat) : Int32 := if k = j then x else f k
theorem own_A.ext {Z : State} {h h' : Heap} {a : Addr} {n : Nat} {f : Nat → Int32} (A : own_A Z h a n f) (E : Ext h h') : own_A Z h' a n f := by
  obtain ⟨cl, A, r⟩ := A; exact ⟨cl, A.ext E, r⟩
theorem own_A.lt {Z : State} {h : Heap} {a : Addr} {n : Nat} {f : Nat → Int32} (A : own_A Z h a n f) : a < h.size := by
  obtain ⟨cl, A, r⟩ := A; exact A.lt
theorem own_A.fresh {Z : State} {h : Heap} {a : Addr} {k : ClassId} {z : Int32} {n : Nat} (A : Arr Z h a (newA k .int z) .int) (hz : z.toNatClampNeg = n) : own_A Z h a n (fun _ => 0) := by
  refine ⟨_, A, by rw [sz_new, hz], fun i hi => ?_⟩
  show (Array.replicate z.toNatClampNeg (defaultValue .int))[i]? = _
  rw [hz, Array.getElem?_replicate, if_pos hi]; rfl
theorem own_A.wr {Z : State} {h h' : Heap} {a : Addr} {n : Nat} {f : Nat → Int32} {j : Nat} {x : Int32} (A : own_A Z h a n f) (W : Wr h h' a j (.int x)) (hj : j < n) : own_A Z h' a n (own_upd f j x) := by
  obtain ⟨cl, A, S, H⟩ := A
  refine ⟨_, A.same W, by rw [sz_set]; exact S, fun k hk => ?_⟩
  show (cl.slots.setIfInBounds j (.int x))[k]? = _
  rw [Array.getElem?_setIfInBounds]
  unfold own_upd
  by_cases q : k = j
  · rw [if_pos q.symm, if_pos q, if_pos (by omega)]
  · rw [if_neg (Ne.symm q), if_neg q]; exact H k hk
theorem own_A.other {Z : State} {h h' : Heap} {a b : Addr} {n : Nat} {f : Nat → Int32} {j : Nat} {v : Value} (A : own_A Z h b n f) (W : Wr h h' a j v) (hne : b ≠ a) : own_A Z h' b n f := by
  obtain ⟨cl, A, r⟩ := A; exact ⟨cl, A.other W hne, r⟩
section Arrays
variable {p : Program} {l : Launch} {e : Env} {R : Room} {s : State} {m : MethodId} {args : Array Value} {below : List Frame} {meth : Method} {c : Code} {T : State} {locs : List Loc} {cells slots : Nat} {Z : State} {a0 : Array Value} {h : Heap} {P : State → Outcome → Prop}
theorem own_new (X : Stand p l e R s m args below meth c T locs cells slots) (hx : p.tables.exec = Jvm.exec) (hZ : Z.Warmed39 s.vm) (w : (Jvm.Cond.arrayClass (newarray.typeOf .int)).before a0 Z = true) (eT : T.heap = h) {g : JFrame} (hg : g.method = m) (hd : decode c.code g.pc = .ok (.newarray .int, 2)) {z : Int32} {rest : List Value} (hs : g.stack = .int z :: rest)
    (n : Nat) (hz : z.toNatClampNeg = n) (hz0 : ¬ z < 0) (hb : n * 8 ≤ 536870912) (hc : cells + 1 ≤ R.cells) (hl : slots + n ≤ R.slots)
    (K : ∀ T' h' a, Stand p l e R s m args below meth c T' locs (cells + 1) (slots + n) → T'.heap = h' → Ext h h' → h.size ≤ a → own_A Z h' a n (fun _ => 0) → ∃ s₂ o, Steps p.tables e below (T'.setTop { g with pc := g.pc + 2, stack := .ref a :: rest }) s₂ ∧ P s₂ o) :
    ∃ s₂ o, Steps p.tables e below (T.setTop g) s₂ ∧ P s₂ o := by
  obtain ⟨T', h', cA, X', e', E, A, st⟩ := newP X hx hZ w eT hg hd hs hz0 (cap := n) (Nat.le_of_eq hz) hb hc hl
  exact own_go st (K T' h' _ X' e' E (Nat.le_refl _) (own_A.fresh A hz))
theorem own_put (X : Stand p l e R s m args below meth c T locs cells slots) (hx : p.tables.exec = Jvm.exec) (hZ : Z.Warmed39 s.vm) (eT : T.heap = h) {a : Addr} {n : Nat} {f : Nat → Int32} (A : own_A Z h a n f) {j x : Int32} (jn : Nat) (hj : j.toNatClampNeg = jn) (hj0 : ¬ j < 0) (hl : jn < n) {n0 : Nat} (N : Fr n0 locs) (ga : n0 ≤ a)
    {g : JFrame} (hg : g.method = m) {rest : List Value} (hs : g.stack = .int x :: .int j :: .ref a :: rest) (hd : decode c.code g.pc = .ok (.iastore, 1))
    (K : ∀ T' h' locs', Stand p l e R s m args below meth c T' locs' cells slots → T'.heap = h' → own_A Z h' a n (own_upd f jn x) → (∀ b k q, b ≠ a → own_A Z h b k q → own_A Z h' b k q) → h.size ≤ h'.size → Fr n0 locs' → ∃ s₂ o, Steps p.tables e below (T'.setTop { g with pc := g.pc + 1, stack := rest }) s₂ ∧ P s₂ o) :
    ∃ s₂ o, Steps p.tables e below (T.setTop g) s₂ ∧ P s₂ o := by
  obtain ⟨cl, Ar, S, H⟩ := A
  obtain ⟨T', h', X', e', W, st⟩ := stI X hx hZ eT Ar (j := j) (x := x) (by rw [S, hj]; exact fun q => q.elim hj0 (fun q => by omega)) hg hs hd
  have A' : own_A Z h a n f := ⟨cl, Ar, S, H⟩
  refine own_go st (K T' h' _ X' e' ?_ (fun b k q hb B => B.other W hb) (Nat.le_of_eq W.size.symm) (Fr.snoc X' N ga))
  rw [hj] at W
  exact A'.wr W hl
theorem own_get (X : Stand p l e R s m args below meth c T locs cells slots) (hx : p.tables.exec = Jvm.exec) (hZ : Z.Warmed39 s.vm) (eT : T.heap = h) {a : Addr} {n : Nat} {f : Nat → Int32} (A : own_A Z h a n f) {j : Int32} (jn : Nat) (hj : j.toNatClampNeg = jn) (hj0 : ¬ j < 0) (hl : jn < n)
    {g : JFrame} (hg : g.method = m) {rest : List Value} (hs : g.stack = .int j :: .ref a :: rest) (hd : decode c.code g.pc = .ok (.iaload, 1)) :
    ∀ target, Steps p.tables e below (T.setTop { g with pc := g.pc + 1, stack := .int (f jn) :: rest }) target → Steps p.tables e below (T.setTop g) target := by
  obtain ⟨cl, Ar, S, H⟩ := A
  exact X.iaload hx (j := j) (v := (.int (f jn))) (by rw [eT]; exact Ar.1) (State.isArrayOf_alike hZ.alike Ar.2.1) Ar.2.2 (by rw [S, hj]; exact fun q => q.elim hj0 (fun q => by omega)) (by rw [hj]; exact H jn hl) hg hs hd
end Arrays
theorem d1_0 : decode prog_20_method_6_code 0 = .ok (.iload_n 0, 1) := by decide +kernel
theorem d1_1 : decode prog_20_method_6_code 1 = .ok (.tableswitch 329 0 73 #[311, 311, 315, 311, 311, 311, 329, 329, 329, 329, 329, 329, 329, 329, 329, 329, 329, 329, 329, 329, 329, 329, 329, 329, 329, 329, 329, 329, 329, 329, 329, 329, 329, 329, 315, 315, 315, 315, 320, 315, 315, 311, 329, 311, 329, 329, 311, 311, 313, 311, 329, 315, 315, 320, 317, 315, 329, 311, 315, 325, 329, 311, 315, 315, 329, 315, 329, 315, 329, 311, 329, 329, 329, 311], 311) := by decide +kernel
theorem d1_312 : decode prog_20_method_6_code 312 = .ok (.iconst 1, 1) := by decide +kernel
theorem d1_313 : decode prog_20_method_6_code 313 = .ok (.ireturn, 1) := by decide +kernel
theorem d1_314 : decode prog_20_method_6_code 314 = .ok (.iconst 2, 1) := by decide +kernel
theorem d1_315 : decode prog_20_method_6_code 315 = .ok (.ireturn, 1) := by decide +kernel
theorem d1_316 : decode prog_20_method_6_code 316 = .ok (.iconst (-1), 1) := by decide +kernel
theorem d1_317 : decode prog_20_method_6_code 317 = .ok (.ireturn, 1) := by decide +kernel
theorem d1_318 : decode prog_20_method_6_code 318 = .ok (.bipush (-2), 2) := by decide +kernel
theorem d1_320 : decode prog_20_method_6_code 320 = .ok (.ireturn, 1) := by decide +kernel
theorem d1_321 : decode prog_20_method_6_code 321 = .ok (.iload_n 1, 1) := by decide +kernel
theorem d1_322 : decode prog_20_method_6_code 322 = .ok (.ineg, 1) := by decide +kernel
theorem d1_323 : decode prog_20_method_6_code 323 = .ok (.iconst 1, 1) := by decide +kernel
theorem d1_324 : decode prog_20_method_6_code 324 = .ok (.isub, 1) := by decide +kernel
theorem d1_325 : decode prog_20_method_6_code 325 = .ok (.ireturn, 1) := by decide +kernel
theorem d1_326 : decode prog_20_method_6_code 326 = .ok (.iconst 1, 1) := by decide +kernel
theorem d1_327 : decode prog_20_method_6_code 327 = .ok (.iload_n 1, 1) := by decide +kernel
theorem d1_328 : decode prog_20_method_6_code 328 = .ok (.isub, 1) := by decide +kernel
theorem d1_329 : decode prog_20_method_6_code 329 = .ok (.ireturn, 1) := by decide +kernel
theorem d1_330 : decode prog_20_method_6_code 330 = .ok (.iload_n 0, 1) := by decide +kernel
theorem d1_331 : decode prog_20_method_6_code 331 = .ok (.bipush 7, 2) := by decide +kernel
theorem d1_333 : decode prog_20_method_6_code 333 = .ok (.if_icmp .lt 13, 3) := by decide +kernel
theorem d1_336 : decode prog_20_method_6_code 336 = .ok (.iload_n 0, 1) := by decide +kernel
theorem d1_337 : decode prog_20_method_6_code 337 = .ok (.bipush 25, 2) := by decide +kernel
theorem d1_339 : decode prog_20_method_6_code 339 = .ok (.if_icmp .gt 7, 3) := by decide +kernel
theorem d1_342 : decode prog_20_method_6_code 342 = .ok (.iconst (-1), 1) := by decide +kernel
theorem d1_343 : decode prog_20_method_6_code 343 = .ok (.goto 4, 3) := by decide +kernel
theorem d1_346 : decode prog_20_method_6_code 346 = .ok (.iconst 0, 1) := by decide +kernel
theorem d1_347 : decode prog_20_method_6_code 347 = .ok (.ireturn, 1) := by decide +kernel
theorem pn_1 : plainName "com/example/kelpie/kelpie/engine/Code" = true := by first | (simp [plainName, overriddenIn]; done) | decide +kernel
theorem ef_1 (m : MethodId) (p1 : Int32) (p2 : Int32) : entryFrame m #[(.int p1), (.int p2)] 2 = mkF m 0 #[.val (.int p1), .val (.int p2)] [] := by first | (simp [entryFrame, mkF, argsToLocals, Value.category]; done) | rfl
set_option maxRecDepth 65536 in
set_option maxHeartbeats 40000000 in
theorem se_0 {p : Program} {l : Launch} {e : Env} {R : Room} {s : State} {m : MethodId} {args : Array Value} {below : List Frame} {meth : Method} {c : Code} {T0 : State} {locs : List Loc} {cells slots : Nat} (p2 : Int32)
    (X0 : Stand p l e R s m args below meth c T0 locs cells slots) (hx : p.tables.exec = Jvm.exec) (hby : c.code = prog_20_method_6_code) (hret : meth.sig.returnType = some .int) {fs : List Frame}
    (hr : ∀ (f : JFrame) (acts : List Action), f.method = m → f.locked = none → f.entered = [] → (doReturn e (T0.setTop f) acts (some (.int (1 : Int32)))).1 = T0.setFrames fs) :
    Steps p.tables e below (T0.setTop (mkF m 0 #[.val (.int (0 : Int32)), .val (.int p2)] [])) (T0.setFrames fs) := by
  show Steps p.tables e below (T0.setTop (mkF m 0 #[.val (.int (0 : Int32)), .val (.int p2)] [])) _
  refine XS.iloadN X0.here hx rfl (hb hby d1_0) rfl ?_
  show Steps p.tables e below (T0.setTop (mkF m 1 #[.val (.int (0 : Int32)), .val (.int p2)] [(.int (0 : Int32))])) _
  refine XS.tswIn X0.here hx rfl (pc0 := 1) (pc' := 312) rfl (hb hby d1_1) rfl (by decide) (o := 311) (by decide) (by decide) (by decide) ?_
  show Steps p.tables e below (T0.setTop (mkF m 312 #[.val (.int (0 : Int32)), .val (.int p2)] [])) _
  refine XS.iconst X0.here hx rfl (hb hby d1_312) ?_
  show Steps p.tables e below (T0.setTop (mkF m 313 #[.val (.int (0 : Int32)), .val (.int p2)] [(.int (1 : Int32))])) _
  exact retI X0 hx hret (hb hby d1_313) hr
set_option maxRecDepth 65536 in
set_option maxHeartbeats 40000000 in
theorem se_1 {p : Program} {l : Launch} {e : Env} {R : Room} {s : State} {m : MethodId} {args : Array Value} {below : List Frame} {meth : Method} {c : Code} {T0 : State} {locs : List Loc} {cells slots : Nat} (p2 : Int32)
    (X0 : Stand p l e R s m args below meth c T0 locs cells slots) (hx : p.tables.exec = Jvm.exec) (hby : c.code = prog_20_method_6_code) (hret : meth.sig.returnType = some .int) {fs : List Frame}
    (hr : ∀ (f : JFrame) (acts : List Action), f.method = m → f.locked = none → f.entered = [] → (doReturn e (T0.setTop f) acts (some (.int (1 : Int32)))).1 = T0.setFrames fs) :
    Steps p.tables e below (T0.setTop (mkF m 0 #[.val (.int (1 : Int32)), .val (.int p2)] [])) (T0.setFrames fs) := by
  show Steps p.tables e below (T0.setTop (mkF m 0 #[.val (.int (1 : Int32)), .val (.int p2)] [])) _
  refine XS.iloadN X0.here hx rfl (hb hby d1_0) rfl ?_
  show Steps p.tables e below (T0.setTop (mkF m 1 #[.val (.int (1 : Int32)), .val (.int p2)] [(.int (1 : Int32))])) _
  refine XS.tswIn X0.here hx rfl (pc0 := 1) (pc' := 312) rfl (hb hby d1_1) rfl (by decide) (o := 311) (by decide) (by decide) (by decide) ?_
  show Steps p.tables e below (T0.setTop (mkF m 312 #[.val (.int (1 : Int32)), .val (.int p2)] [])) _
  refine XS.iconst X0.here hx rfl (hb hby d1_312) ?_
  show Steps p.tables e below (T0.setTop (mkF m 313 #[.val (.int (1 : Int32)), .val (.int p2)] [(.int (1 : Int32))])) _
  exact retI X0 hx hret (hb hby d1_313) hr
set_option maxRecDepth 65536 in
set_option maxHeartbeats 40000000 in
theorem se_2 {p : Program} {l : Launch} {e : Env} {R : Room} {s : State} {m : MethodId} {args : Array Value} {below : List Frame} {meth : Method} {c : Code} {T0 : State} {locs : List Loc} {cells slots : Nat} (p2 : Int32)
    (X0 : Stand p l e R s m args below meth c T0 locs cells slots) (hx : p.tables.exec = Jvm.exec) (hby : c.code = prog_20_method_6_code) (hret : meth.sig.returnType = some .int) {fs : List Frame}
    (hr : ∀ (f : JFrame) (acts : List Action), f.method = m → f.locked = none → f.entered = [] → (doReturn e (T0.setTop f) acts (some (.int (-1 : Int32)))).1 = T0.setFrames fs) :
    Steps p.tables e below (T0.setTop (mkF m 0 #[.val (.int (2 : Int32)), .val (.int p2)] [])) (T0.setFrames fs) := by
  show Steps p.tables e below (T0.setTop (mkF m 0 #[.val (.int (2 : Int32)), .val (.int p2)] [])) _
  refine XS.iloadN X0.here hx rfl (hb hby d1_0) rfl ?_
  show Steps p.tables e below (T0.setTop (mkF m 1 #[.val (.int (2 : Int32)), .val (.int p2)] [(.int (2 : Int32))])) _
  refine XS.tswIn X0.here hx rfl (pc0 := 1) (pc' := 316) rfl (hb hby d1_1) rfl (by decide) (o := 315) (by decide) (by decide) (by decide) ?_
  show Steps p.tables e below (T0.setTop (mkF m 316 #[.val (.int (2 : Int32)), .val (.int p2)] [])) _
  refine XS.iconst X0.here hx rfl (hb hby d1_316) ?_
  show Steps p.tables e below (T0.setTop (mkF m 317 #[.val (.int (2 : Int32)), .val (.int p2)] [(.int (-1 : Int32))])) _
  exact retI X0 hx hret (hb hby d1_317) hr
set_option maxRecDepth 65536 in
set_option maxHeartbeats 40000000 in
theorem se_3 {p : Program} {l : Launch} {e : Env} {R : Room} {s : State} {m : MethodId} {args : Array Value} {below : List Frame} {meth : Method} {c : Code} {T0 : State} {locs : List Loc} {cells slots : Nat} (p2 : Int32)
    (X0 : Stand p l e R s m args below meth c T0 locs cells slots) (hx : p.tables.exec = Jvm.exec) (hby : c.code = prog_20_method_6_code) (hret : meth.sig.returnType = some .int) {fs : List Frame}
    (hr : ∀ (f : JFrame) (acts : List Action), f.method = m → f.locked = none → f.entered = [] → (doReturn e (T0.setTop f) acts (some (.int (1 : Int32)))).1 = T0.setFrames fs) :
    Steps p.tables e below (T0.setTop (mkF m 0 #[.val (.int (3 : Int32)), .val (.int p2)] [])) (T0.setFrames fs) := by
  show Steps p.tables e below (T0.setTop (mkF m 0 #[.val (.int (3 : Int32)), .val (.int p2)] [])) _
  refine XS.iloadN X0.here hx rfl (hb hby d1_0) rfl ?_
  show Steps p.tables e below (T0.setTop (mkF m 1 #[.val (.int (3 : Int32)), .val (.int p2)] [(.int (3 : Int32))])) _
  refine XS.tswIn X0.here hx rfl (pc0 := 1) (pc' := 312) rfl (hb hby d1_1) rfl (by decide) (o := 311) (by decide) (by decide) (by decide) ?_
  show Steps p.tables e below (T0.setTop (mkF m 312 #[.val (.int (3 : Int32)), .val (.int p2)] [])) _
  refine XS.iconst X0.here hx rfl (hb hby d1_312) ?_
  show Steps p.tables e below (T0.setTop (mkF m 313 #[.val (.int (3 : Int32)), .val (.int p2)] [(.int (1 : Int32))])) _
  exact retI X0 hx hret (hb hby d1_313) hr
set_option maxRecDepth 65536 in
set_option maxHeartbeats 40000000 in
theorem se_4 {p : Program} {l : Launch} {e : Env} {R : Room} {s : State} {m : MethodId} {args : Array Value} {below : List Frame} {meth : Method} {c : Code} {T0 : State} {locs : List Loc} {cells slots : Nat} (p2 : Int32)
    (X0 : Stand p l e R s m args below meth c T0 locs cells slots) (hx : p.tables.exec = Jvm.exec) (hby : c.code = prog_20_method_6_code) (hret : meth.sig.returnType = some .int) {fs : List Frame}
    (hr : ∀ (f : JFrame) (acts : List Action), f.method = m → f.locked = none → f.entered = [] → (doReturn e (T0.setTop f) acts (some (.int (1 : Int32)))).1 = T0.setFrames fs) :
    Steps p.tables e below (T0.setTop (mkF m 0 #[.val (.int (4 : Int32)), .val (.int p2)] [])) (T0.setFrames fs) := by
  show Steps p.tables e below (T0.setTop (mkF m 0 #[.val (.int (4 : Int32)), .val (.int p2)] [])) _
  refine XS.iloadN X0.here hx rfl (hb hby d1_0) rfl ?_
  show Steps p.tables e below (T0.setTop (mkF m 1 #[.val (.int (4 : Int32)), .val (.int p2)] [(.int (4 : Int32))])) _
  refine XS.tswIn X0.here hx rfl (pc0 := 1) (pc' := 312) rfl (hb hby d1_1) rfl (by decide) (o := 311) (by decide) (by decide) (by decide) ?_
  show Steps p.tables e below (T0.setTop (mkF m 312 #[.val (.int (4 : Int32)), .val (.int p2)] [])) _
  refine XS.iconst X0.here hx rfl (hb hby d1_312) ?_
  show Steps p.tables e below (T0.setTop (mkF m 313 #[.val (.int (4 : Int32)), .val (.int p2)] [(.int (1 : Int32))])) _
  exact retI X0 hx hret (hb hby d1_313) hr
set_option maxRecDepth 65536 in
set_option maxHeartbeats 40000000 in
theorem se_5 {p : Program} {l : Launch} {e : Env} {R : Room} {s : State} {m : MethodId} {args : Array Value} {below : List Frame} {meth : Method} {c : Code} {T0 : State} {locs : List Loc} {cells slots : Nat} (p2 : Int32)
    (X0 : Stand p l e R s m args below meth c T0 locs cells slots) (hx : p.tables.exec = Jvm.exec) (hby : c.code = prog_20_method_6_code) (hret : meth.sig.returnType = some .int) {fs : List Frame}
    (hr : ∀ (f : JFrame) (acts : List Action), f.method = m → f.locked = none → f.entered = [] → (doReturn e (T0.setTop f) acts (some (.int (1 : Int32)))).1 = T0.setFrames fs) :
    Steps p.tables e below (T0.setTop (mkF m 0 #[.val (.int (5 : Int32)), .val (.int p2)] [])) (T0.setFrames fs) := by
  show Steps p.tables e below (T0.setTop (mkF m 0 #[.val (.int (5 : Int32)), .val (.int p2)] [])) _
  refine XS.iloadN X0.here hx rfl (hb hby d1_0) rfl ?_
  show Steps p.tables e below (T0.setTop (mkF m 1 #[.val (.int (5 : Int32)), .val (.int p2)] [(.int (5 : Int32))])) _
  refine XS.tswIn X0.here hx rfl (pc0 := 1) (pc' := 312) rfl (hb hby d1_1) rfl (by decide) (o := 311) (by decide) (by decide) (by decide) ?_
  show Steps p.tables e below (T0.setTop (mkF m 312 #[.val (.int (5 : Int32)), .val (.int p2)] [])) _
  refine XS.iconst X0.here hx rfl (hb hby d1_312) ?_
  show Steps p.tables e below (T0.setTop (mkF m 313 #[.val (.int (5 : Int32)), .val (.int p2)] [(.int (1 : Int32))])) _
  exact retI X0 hx hret (hb hby d1_313) hr
set_option maxRecDepth 65536 in
set_option maxHeartbeats 40000000 in
theorem se_6 {p : Program} {l : Launch} {e : Env} {R : Room} {s : State} {m : MethodId} {args : Array Value} {below : List Frame} {meth : Method} {c : Code} {T0 : State} {locs : List Loc} {cells slots : Nat} (p2 : Int32)
    (X0 : Stand p l e R s m args below meth c T0 locs cells slots) (hx : p.tables.exec = Jvm.exec) (hby : c.code = prog_20_method_6_code) (hret : meth.sig.returnType = some .int) {fs : List Frame}
    (hr : ∀ (f : JFrame) (acts : List Action), f.method = m → f.locked = none → f.entered = [] → (doReturn e (T0.setTop f) acts (some (.int (0 : Int32)))).1 = T0.setFrames fs) :
    Steps p.tables e below (T0.setTop (mkF m 0 #[.val (.int (6 : Int32)), .val (.int p2)] [])) (T0.setFrames fs) := by
  show Steps p.tables e below (T0.setTop (mkF m 0 #[.val (.int (6 : Int32)), .val (.int p2)] [])) _
  refine XS.iloadN X0.here hx rfl (hb hby d1_0) rfl ?_
  show Steps p.tables e below (T0.setTop (mkF m 1 #[.val (.int (6 : Int32)), .val (.int p2)] [(.int (6 : Int32))])) _
  refine XS.tswIn X0.here hx rfl (pc0 := 1) (pc' := 330) rfl (hb hby d1_1) rfl (by decide) (o := 329) (by decide) (by decide) (by decide) ?_
  show Steps p.tables e below (T0.setTop (mkF m 330 #[.val (.int (6 : Int32)), .val (.int p2)] [])) _
  refine XS.iloadN X0.here hx rfl (hb hby d1_330) rfl ?_
  show Steps p.tables e below (T0.setTop (mkF m 331 #[.val (.int (6 : Int32)), .val (.int p2)] [(.int (6 : Int32))])) _
  refine XS.bipush X0.here hx rfl (hb hby d1_331) ?_
  show Steps p.tables e below (T0.setTop (mkF m 333 #[.val (.int (6 : Int32)), .val (.int p2)] [(.int (7 : Int32)), (.int (6 : Int32))])) _
  refine XS.icmpYes X0.here hx rfl (pc0 := 333) (pc' := 346) rfl (hb hby d1_333) rfl (tlt (by decide : (6 : Int32) < (7 : Int32))).1 (by decide) (by decide) ?_
  show Steps p.tables e below (T0.setTop (mkF m 346 #[.val (.int (6 : Int32)), .val (.int p2)] [])) _
  refine XS.iconst X0.here hx rfl (hb hby d1_346) ?_
  show Steps p.tables e below (T0.setTop (mkF m 347 #[.val (.int (6 : Int32)), .val (.int p2)] [(.int (0 : Int32))])) _
  exact retI X0 hx hret (hb hby d1_347) hr
set_option maxRecDepth 65536 in
set_option maxHeartbeats 40000000 in
theorem se_7 {p : Program} {l : Launch} {e : Env} {R : Room} {s : State} {m : MethodId} {args : Array Value} {below : List Frame} {meth : Method} {c : Code} {T0 : State} {locs : List Loc} {cells slots : Nat} (p2 : Int32)
    (X0 : Stand p l e R s m args below meth c T0 locs cells slots) (hx : p.tables.exec = Jvm.exec) (hby : c.code = prog_20_method_6_code) (hret : meth.sig.returnType = some .int) {fs : List Frame}
    (hr : ∀ (f : JFrame) (acts : List Action), f.method = m → f.locked = none → f.entered = [] → (doReturn e (T0.setTop f) acts (some (.int (-1 : Int32)))).1 = T0.setFrames fs) :
    Steps p.tables e below (T0.setTop (mkF m 0 #[.val (.int (7 : Int32)), .val (.int p2)] [])) (T0.setFrames fs) := by
  show Steps p.tables e below (T0.setTop (mkF m 0 #[.val (.int (7 : Int32)), .val (.int p2)] [])) _
  refine XS.iloadN X0.here hx rfl (hb hby d1_0) rfl ?_
  show Steps p.tables e below (T0.setTop (mkF m 1 #[.val (.int (7 : Int32)), .val (.int p2)] [(.int (7 : Int32))])) _
  refine XS.tswIn X0.here hx rfl (pc0 := 1) (pc' := 330) rfl (hb hby d1_1) rfl (by decide) (o := 329) (by decide) (by decide) (by decide) ?_
  show Steps p.tables e below (T0.setTop (mkF m 330 #[.val (.int (7 : Int32)), .val (.int p2)] [])) _
  refine XS.iloadN X0.here hx rfl (hb hby d1_330) rfl ?_
  show Steps p.tables e below (T0.setTop (mkF m 331 #[.val (.int (7 : Int32)), .val (.int p2)] [(.int (7 : Int32))])) _
  refine XS.bipush X0.here hx rfl (hb hby d1_331) ?_
  show Steps p.tables e below (T0.setTop (mkF m 333 #[.val (.int (7 : Int32)), .val (.int p2)] [(.int (7 : Int32)), (.int (7 : Int32))])) _
  refine XS.icmpNo X0.here hx rfl (hb hby d1_333) rfl (flt (by decide : ¬ ((7 : Int32) < (7 : Int32)))).1 ?_
  show Steps p.tables e below (T0.setTop (mkF m 336 #[.val (.int (7 : Int32)), .val (.int p2)] [])) _
  refine XS.iloadN X0.here hx rfl (hb hby d1_336) rfl ?_
  show Steps p.tables e below (T0.setTop (mkF m 337 #[.val (.int (7 : Int32)), .val (.int p2)] [(.int (7 : Int32))])) _
  refine XS.bipush X0.here hx rfl (hb hby d1_337) ?_
  show Steps p.tables e below (T0.setTop (mkF m 339 #[.val (.int (7 : Int32)), .val (.int p2)] [(.int (25 : Int32)), (.int (7 : Int32))])) _
  refine XS.icmpNo X0.here hx rfl (hb hby d1_339) rfl (flt (by decide : ¬ ((25 : Int32) < (7 : Int32)))).2.2.1 ?_
  show Steps p.tables e below (T0.setTop (mkF m 342 #[.val (.int (7 : Int32)), .val (.int p2)] [])) _
  refine XS.iconst X0.here hx rfl (hb hby d1_342) ?_
  show Steps p.tables e below (T0.setTop (mkF m 343 #[.val (.int (7 : Int32)), .val (.int p2)] [(.int (-1 : Int32))])) _
  refine XS.goto X0.here hx rfl (pc0 := 343) (pc' := 347) rfl (hb hby d1_343) (by decide) (by decide) ?_
  show Steps p.tables e below (T0.setTop (mkF m 347 #[.val (.int (7 : Int32)), .val (.int p2)] [(.int (-1 : Int32))])) _
  exact retI X0 hx hret (hb hby d1_347) hr
set_option maxRecDepth 65536 in
set_option maxHeartbeats 40000000 in
theorem se_8 {p : Program} {l : Launch} {e : Env} {R : Room} {s : State} {m : MethodId} {args : Array Value} {below : List Frame} {meth : Method} {c : Code} {T0 : State} {locs : List Loc} {cells slots : Nat} (p2 : Int32)
    (X0 : Stand p l e R s m args below meth c T0 locs cells slots) (hx : p.tables.exec = Jvm.exec) (hby : c.code = prog_20_method_6_code) (hret : meth.sig.returnType = some .int) {fs : List Frame}
    (hr : ∀ (f : JFrame) (acts : List Action), f.method = m → f.locked = none → f.entered = [] → (doReturn e (T0.setTop f) acts (some (.int (-1 : Int32)))).1 = T0.setFrames fs) :
    Steps p.tables e below (T0.setTop (mkF m 0 #[.val (.int (8 : Int32)), .val (.int p2)] [])) (T0.setFrames fs) := by
  show Steps p.tables e below (T0.setTop (mkF m 0 #[.val (.int (8 : Int32)), .val (.int p2)] [])) _
  refine XS.iloadN X0.here hx rfl (hb hby d1_0) rfl ?_
  show Steps p.tables e below (T0.setTop (mkF m 1 #[.val (.int (8 : Int32)), .val (.int p2)] [(.int (8 : Int32))])) _
  refine XS.tswIn X0.here hx rfl (pc0 := 1) (pc' := 330) rfl (hb hby d1_1) rfl (by decide) (o := 329) (by decide) (by decide) (by decide) ?_
  show Steps p.tables e below (T0.setTop (mkF m 330 #[.val (.int (8 : Int32)), .val (.int p2)] [])) _
  refine XS.iloadN X0.here hx rfl (hb hby d1_330) rfl ?_
  show Steps p.tables e below (T0.setTop (mkF m 331 #[.val (.int (8 : Int32)), .val (.int p2)] [(.int (8 : Int32))])) _
  refine XS.bipush X0.here hx rfl (hb hby d1_331) ?_
  show Steps p.tables e below (T0.setTop (mkF m 333 #[.val (.int (8 : Int32)), .val (.int p2)] [(.int (7 : Int32)), (.int (8 : Int32))])) _
  refine XS.icmpNo X0.here hx rfl (hb hby d1_333) rfl (flt (by decide : ¬ ((8 : Int32) < (7 : Int32)))).1 ?_
  show Steps p.tables e below (T0.setTop (mkF m 336 #[.val (.int (8 : Int32)), .val (.int p2)] [])) _
  refine XS.iloadN X0.here hx rfl (hb hby d1_336) rfl ?_
  show Steps p.tables e below (T0.setTop (mkF m 337 #[.val (.int (8 : Int32)), .val (.int p2)] [(.int (8 : Int32))])) _
  refine XS.bipush X0.here hx rfl (hb hby d1_337) ?_
  show Steps p.tables e below (T0.setTop (mkF m 339 #[.val (.int (8 : Int32)), .val (.int p2)] [(.int (25 : Int32)), (.int (8 : Int32))])) _
  refine XS.icmpNo X0.here hx rfl (hb hby d1_339) rfl (flt (by decide : ¬ ((25 : Int32) < (8 : Int32)))).2.2.1 ?_
  show Steps p.tables e below (T0.setTop (mkF m 342 #[.val (.int (8 : Int32)), .val (.int p2)] [])) _
  refine XS.iconst X0.here hx rfl (hb hby d1_342) ?_
  show Steps p.tables e below (T0.setTop (mkF m 343 #[.val (.int (8 : Int32)), .val (.int p2)] [(.int (-1 : Int32))])) _
  refine XS.goto X0.here hx rfl (pc0 := 343) (pc' := 347) rfl (hb hby d1_343) (by decide) (by decide) ?_
  show Steps p.tables e below (T0.setTop (mkF m 347 #[.val (.int (8 : Int32)), .val (.int p2)] [(.int (-1 : Int32))])) _
  exact retI X0 hx hret (hb hby d1_347) hr
set_option maxRecDepth 65536 in
set_option maxHeartbeats 40000000 in
theorem se_9 {p : Program} {l : Launch} {e : Env} {R : Room} {s : State} {m : MethodId} {args : Array Value} {below : List Frame} {meth : Method} {c : Code} {T0 : State} {locs : List Loc} {cells slots : Nat} (p2 : Int32)
    (X0 : Stand p l e R s m args below meth c T0 locs cells slots) (hx : p.tables.exec = Jvm.exec) (hby : c.code = prog_20_method_6_code) (hret : meth.sig.returnType = some .int) {fs : List Frame}
    (hr : ∀ (f : JFrame) (acts : List Action), f.method = m → f.locked = none → f.entered = [] → (doReturn e (T0.setTop f) acts (some (.int (-1 : Int32)))).1 = T0.setFrames fs) :
    Steps p.tables e below (T0.setTop (mkF m 0 #[.val (.int (9 : Int32)), .val (.int p2)] [])) (T0.setFrames fs) := by
  show Steps p.tables e below (T0.setTop (mkF m 0 #[.val (.int (9 : Int32)), .val (.int p2)] [])) _
  refine XS.iloadN X0.here hx rfl (hb hby d1_0) rfl ?_
  show Steps p.tables e below (T0.setTop (mkF m 1 #[.val (.int (9 : Int32)), .val (.int p2)] [(.int (9 : Int32))])) _
  refine XS.tswIn X0.here hx rfl (pc0 := 1) (pc' := 330) rfl (hb hby d1_1) rfl (by decide) (o := 329) (by decide) (by decide) (by decide) ?_
  show Steps p.tables e below (T0.setTop (mkF m 330 #[.val (.int (9 : Int32)), .val (.int p2)] [])) _
  refine XS.iloadN X0.here hx rfl (hb hby d1_330) rfl ?_
  show Steps p.tables e below (T0.setTop (mkF m 331 #[.val (.int (9 : Int32)), .val (.int p2)] [(.int (9 : Int32))])) _
  refine XS.bipush X0.here hx rfl (hb hby d1_331) ?_
  show Steps p.tables e below (T0.setTop (mkF m 333 #[.val (.int (9 : Int32)), .val (.int p2)] [(.int (7 : Int32)), (.int (9 : Int32))])) _
  refine XS.icmpNo X0.here hx rfl (hb hby d1_333) rfl (flt (by decide : ¬ ((9 : Int32) < (7 : Int32)))).1 ?_
  show Steps p.tables e below (T0.setTop (mkF m 336 #[.val (.int (9 : Int32)), .val (.int p2)] [])) _
  refine XS.iloadN X0.here hx rfl (hb hby d1_336) rfl ?_
  show Steps p.tables e below (T0.setTop (mkF m 337 #[.val (.int (9 : Int32)), .val (.int p2)] [(.int (9 : Int32))])) _
  refine XS.bipush X0.here hx rfl (hb hby d1_337) ?_
  show Steps p.tables e below (T0.setTop (mkF m 339 #[.val (.int (9 : Int32)), .val (.int p2)] [(.int (25 : Int32)), (.int (9 : Int32))])) _
  refine XS.icmpNo X0.here hx rfl (hb hby d1_339) rfl (flt (by decide : ¬ ((25 : Int32) < (9 : Int32)))).2.2.1 ?_
  show Steps p.tables e below (T0.setTop (mkF m 342 #[.val (.int (9 : Int32)), .val (.int p2)] [])) _
  refine XS.iconst X0.here hx rfl (hb hby d1_342) ?_
  show Steps p.tables e below (T0.setTop (mkF m 343 #[.val (.int (9 : Int32)), .val (.int p2)] [(.int (-1 : Int32))])) _
  refine XS.goto X0.here hx rfl (pc0 := 343) (pc' := 347) rfl (hb hby d1_343) (by decide) (by decide) ?_
  show Steps p.tables e below (T0.setTop (mkF m 347 #[.val (.int (9 : Int32)), .val (.int p2)] [(.int (-1 : Int32))])) _
  exact retI X0 hx hret (hb hby d1_347) hr
set_option maxRecDepth 65536 in
set_option maxHeartbeats 40000000 in
theorem se_10 {p : Program} {l : Launch} {e : Env} {R : Room} {s : State} {m : MethodId} {args : Array Value} {below : List Frame} {meth : Method} {c : Code} {T0 : State} {locs : List Loc} {cells slots : Nat} (p2 : Int32)
    (X0 : Stand p l e R s m args below meth c T0 locs cells slots) (hx : p.tables.exec = Jvm.exec) (hby : c.code = prog_20_method_6_code) (hret : meth.sig.returnType = some .int) {fs : List Frame}
    (hr : ∀ (f : JFrame) (acts : List Action), f.method = m → f.locked = none → f.entered = [] → (doReturn e (T0.setTop f) acts (some (.int (-1 : Int32)))).1 = T0.setFrames fs) :
    Steps p.tables e below (T0.setTop (mkF m 0 #[.val (.int (10 : Int32)), .val (.int p2)] [])) (T0.setFrames fs) := by
  show Steps p.tables e below (T0.setTop (mkF m 0 #[.val (.int (10 : Int32)), .val (.int p2)] [])) _
  refine XS.iloadN X0.here hx rfl (hb hby d1_0) rfl ?_
  show Steps p.tables e below (T0.setTop (mkF m 1 #[.val (.int (10 : Int32)), .val (.int p2)] [(.int (10 : Int32))])) _
  refine XS.tswIn X0.here hx rfl (pc0 := 1) (pc' := 330) rfl (hb hby d1_1) rfl (by decide) (o := 329) (by decide) (by decide) (by decide) ?_
  show Steps p.tables e below (T0.setTop (mkF m 330 #[.val (.int (10 : Int32)), .val (.int p2)] [])) _
  refine XS.iloadN X0.here hx rfl (hb hby d1_330) rfl ?_
  show Steps p.tables e below (T0.setTop (mkF m 331 #[.val (.int (10 : Int32)), .val (.int p2)] [(.int (10 : Int32))])) _
  refine XS.bipush X0.here hx rfl (hb hby d1_331) ?_
  show Steps p.tables e below (T0.setTop (mkF m 333 #[.val (.int (10 : Int32)), .val (.int p2)] [(.int (7 : Int32)), (.int (10 : Int32))])) _
  refine XS.icmpNo X0.here hx rfl (hb hby d1_333) rfl (flt (by decide : ¬ ((10 : Int32) < (7 : Int32)))).1 ?_
  show Steps p.tables e below (T0.setTop (mkF m 336 #[.val (.int (10 : Int32)), .val (.int p2)] [])) _
  refine XS.iloadN X0.here hx rfl (hb hby d1_336) rfl ?_
  show Steps p.tables e below (T0.setTop (mkF m 337 #[.val (.int (10 : Int32)), .val (.int p2)] [(.int (10 : Int32))])) _
  refine XS.bipush X0.here hx rfl (hb hby d1_337) ?_
  show Steps p.tables e below (T0.setTop (mkF m 339 #[.val (.int (10 : Int32)), .val (.int p2)] [(.int (25 : Int32)), (.int (10 : Int32))])) _
  refine XS.icmpNo X0.here hx rfl (hb hby d1_339) rfl (flt (by decide : ¬ ((25 : Int32) < (10 : Int32)))).2.2.1 ?_
  show Steps p.tables e below (T0.setTop (mkF m 342 #[.val (.int (10 : Int32)), .val (.int p2)] [])) _
  refine XS.iconst X0.here hx rfl (hb hby d1_342) ?_
  show Steps p.tables e below (T0.setTop (mkF m 343 #[.val (.int (10 : Int32)), .val (.int p2)] [(.int (-1 : Int32))])) _
  refine XS.goto X0.here hx rfl (pc0 := 343) (pc' := 347) rfl (hb hby d1_343) (by decide) (by decide) ?_
  show Steps p.tables e below (T0.setTop (mkF m 347 #[.val (.int (10 : Int32)), .val (.int p2)] [(.int (-1 : Int32))])) _
  exact retI X0 hx hret (hb hby d1_347) hr
set_option maxRecDepth 65536 in
set_option maxHeartbeats 40000000 in
theorem se_11 {p : Program} {l : Launch} {e : Env} {R : Room} {s : State} {m : MethodId} {args : Array Value} {below : List Frame} {meth : Method} {c : Code} {T0 : State} {locs : List Loc} {cells slots : Nat} (p2 : Int32)
    (X0 : Stand p l e R s m args below meth c T0 locs cells slots) (hx : p.tables.exec = Jvm.exec) (hby : c.code = prog_20_method_6_code) (hret : meth.sig.returnType = some .int) {fs : List Frame}
    (hr : ∀ (f : JFrame) (acts : List Action), f.method = m → f.locked = none → f.entered = [] → (doReturn e (T0.setTop f) acts (some (.int (-1 : Int32)))).1 = T0.setFrames fs) :
    Steps p.tables e below (T0.setTop (mkF m 0 #[.val (.int (11 : Int32)), .val (.int p2)] [])) (T0.setFrames fs) := by
  show Steps p.tables e below (T0.setTop (mkF m 0 #[.val (.int (11 : Int32)), .val (.int p2)] [])) _
  refine XS.iloadN X0.here hx rfl (hb hby d1_0) rfl ?_
  show Steps p.tables e below (T0.setTop (mkF m 1 #[.val (.int (11 : Int32)), .val (.int p2)] [(.int (11 : Int32))])) _
  refine XS.tswIn X0.here hx rfl (pc0 := 1) (pc' := 330) rfl (hb hby d1_1) rfl (by decide) (o := 329) (by decide) (by decide) (by decide) ?_
  show Steps p.tables e below (T0.setTop (mkF m 330 #[.val (.int (11 : Int32)), .val (.int p2)] [])) _
  refine XS.iloadN X0.here hx rfl (hb hby d1_330) rfl ?_
  show Steps p.tables e below (T0.setTop (mkF m 331 #[.val (.int (11 : Int32)), .val (.int p2)] [(.int (11 : Int32))])) _
  refine XS.bipush X0.here hx rfl (hb hby d1_331) ?_
  show Steps p.tables e below (T0.setTop (mkF m 333 #[.val (.int (11 : Int32)), .val (.int p2)] [(.int (7 : Int32)), (.int (11 : Int32))])) _
  refine XS.icmpNo X0.here hx rfl (hb hby d1_333) rfl (flt (by decide : ¬ ((11 : Int32) < (7 : Int32)))).1 ?_
  show Steps p.tables e below (T0.setTop (mkF m 336 #[.val (.int (11 : Int32)), .val (.int p2)] [])) _
  refine XS.iloadN X0.here hx rfl (hb hby d1_336) rfl ?_
  show Steps p.tables e below (T0.setTop (mkF m 337 #[.val (.int (11 : Int32)), .val (.int p2)] [(.int (11 : Int32))])) _
  refine XS.bipush X0.here hx rfl (hb hby d1_337) ?_
  show Steps p.tables e below (T0.setTop (mkF m 339 #[.val (.int (11 : Int32)), .val (.int p2)] [(.int (25 : Int32)), (.int (11 : Int32))])) _
  refine XS.icmpNo X0.here hx rfl (hb hby d1_339) rfl (flt (by decide : ¬ ((25 : Int32) < (11 : Int32)))).2.2.1 ?_
  show Steps p.tables e below (T0.setTop (mkF m 342 #[.val (.int (11 : Int32)), .val (.int p2)] [])) _
  refine XS.iconst X0.here hx rfl (hb hby d1_342) ?_
  show Steps p.tables e below (T0.setTop (mkF m 343 #[.val (.int (11 : Int32)), .val (.int p2)] [(.int (-1 : Int32))])) _
  refine XS.goto X0.here hx rfl (pc0 := 343) (pc' := 347) rfl (hb hby d1_343) (by decide) (by decide) ?_
  show Steps p.tables e below (T0.setTop (mkF m 347 #[.val (.int (11 : Int32)), .val (.int p2)] [(.int (-1 : Int32))])) _
  exact retI X0 hx hret (hb hby d1_347) hr
set_option maxRecDepth 65536 in
set_option maxHeartbeats 40000000 in
theorem se_12 {p : Program} {l : Launch} {e : Env} {R : Room} {s : State} {m : MethodId} {args : Array Value} {below : List Frame} {meth : Method} {c : Code} {T0 : State} {locs : List Loc} {cells slots : Nat} (p2 : Int32)
    (X0 : Stand p l e R s m args below meth c T0 locs cells slots) (hx : p.tables.exec = Jvm.exec) (hby : c.code = prog_20_method_6_code) (hret : meth.sig.returnType = some .int) {fs : List Frame}
    (hr : ∀ (f : JFrame) (acts : List Action), f.method = m → f.locked = none → f.entered = [] → (doReturn e (T0.setTop f) acts (some (.int (-1 : Int32)))).1 = T0.setFrames fs) :
    Steps p.tables e below (T0.setTop (mkF m 0 #[.val (.int (12 : Int32)), .val (.int p2)] [])) (T0.setFrames fs) := by
  show Steps p.tables e below (T0.setTop (mkF m 0 #[.val (.int (12 : Int32)), .val (.int p2)] [])) _
  refine XS.iloadN X0.here hx rfl (hb hby d1_0) rfl ?_
  show Steps p.tables e below (T0.setTop (mkF m 1 #[.val (.int (12 : Int32)), .val (.int p2)] [(.int (12 : Int32))])) _
  refine XS.tswIn X0.here hx rfl (pc0 := 1) (pc' := 330) rfl (hb hby d1_1) rfl (by decide) (o := 329) (by decide) (by decide) (by decide) ?_
  show Steps p.tables e below (T0.setTop (mkF m 330 #[.val (.int (12 : Int32)), .val (.int p2)] [])) _
  refine XS.iloadN X0.here hx rfl (hb hby d1_330) rfl ?_
  show Steps p.tables e below (T0.setTop (mkF m 331 #[.val (.int (12 : Int32)), .val (.int p2)] [(.int (12 : Int32))])) _
  refine XS.bipush X0.here hx rfl (hb hby d1_331) ?_
  show Steps p.tables e below (T0.setTop (mkF m 333 #[.val (.int (12 : Int32)), .val (.int p2)] [(.int (7 : Int32)), (.int (12 : Int32))])) _
  refine XS.icmpNo X0.here hx rfl (hb hby d1_333) rfl (flt (by decide : ¬ ((12 : Int32) < (7 : Int32)))).1 ?_
  show Steps p.tables e below (T0.setTop (mkF m 336 #[.val (.int (12 : Int32)), .val (.int p2)] [])) _
  refine XS.iloadN X0.here hx rfl (hb hby d1_336) rfl ?_
  show Steps p.tables e below (T0.setTop (mkF m 337 #[.val (.int (12 : Int32)), .val (.int p2)] [(.int (12 : Int32))])) _
  refine XS.bipush X0.here hx rfl (hb hby d1_337) ?_
  show Steps p.tables e below (T0.setTop (mkF m 339 #[.val (.int (12 : Int32)), .val (.int p2)] [(.int (25 : Int32)), (.int (12 : Int32))])) _
  refine XS.icmpNo X0.here hx rfl (hb hby d1_339) rfl (flt (by decide : ¬ ((25 : Int32) < (12 : Int32)))).2.2.1 ?_
  show Steps p.tables e below (T0.setTop (mkF m 342 #[.val (.int (12 : Int32)), .val (.int p2)] [])) _
  refine XS.iconst X0.here hx rfl (hb hby d1_342) ?_
  show Steps p.tables e below (T0.setTop (mkF m 343 #[.val (.int (12 : Int32)), .val (.int p2)] [(.int (-1 : Int32))])) _
  refine XS.goto X0.here hx rfl (pc0 := 343) (pc' := 347) rfl (hb hby d1_343) (by decide) (by decide) ?_
  show Steps p.tables e below (T0.setTop (mkF m 347 #[.val (.int (12 : Int32)), .val (.int p2)] [(.int (-1 : Int32))])) _
  exact retI X0 hx hret (hb hby d1_347) hr
set_option maxRecDepth 65536 in
set_option maxHeartbeats 40000000 in
theorem se_13 {p : Program} {l : Launch} {e : Env} {R : Room} {s : State} {m : MethodId} {args : Array Value} {below : List Frame} {meth : Method} {c : Code} {T0 : State} {locs : List Loc} {cells slots : Nat} (p2 : Int32)
    (X0 : Stand p l e R s m args below meth c T0 locs cells slots) (hx : p.tables.exec = Jvm.exec) (hby : c.code = prog_20_method_6_code) (hret : meth.sig.returnType = some .int) {fs : List Frame}
    (hr : ∀ (f : JFrame) (acts : List Action), f.method = m → f.locked = none → f.entered = [] → (doReturn e (T0.setTop f) acts (some (.int (-1 : Int32)))).1 = T0.setFrames fs) :
    Steps p.tables e below (T0.setTop (mkF m 0 #[.val (.int (13 : Int32)), .val (.int p2)] [])) (T0.setFrames fs) := by
  show Steps p.tables e below (T0.setTop (mkF m 0 #[.val (.int (13 : Int32)), .val (.int p2)] [])) _
  refine XS.iloadN X0.here hx rfl (hb hby d1_0) rfl ?_
  show Steps p.tables e below (T0.setTop (mkF m 1 #[.val (.int (13 : Int32)), .val (.int p2)] [(.int (13 : Int32))])) _
  refine XS.tswIn X0.here hx rfl (pc0 := 1) (pc' := 330) rfl (hb hby d1_1) rfl (by decide) (o := 329) (by decide) (by decide) (by decide) ?_
  show Steps p.tables e below (T0.setTop (mkF m 330 #[.val (.int (13 : Int32)), .val (.int p2)] [])) _
  refine XS.iloadN X0.here hx rfl (hb hby d1_330) rfl ?_
  show Steps p.tables e below (T0.setTop (mkF m 331 #[.val (.int (13 : Int32)), .val (.int p2)] [(.int (13 : Int32))])) _
  refine XS.bipush X0.here hx rfl (hb hby d1_331) ?_
  show Steps p.tables e below (T0.setTop (mkF m 333 #[.val (.int (13 : Int32)), .val (.int p2)] [(.int (7 : Int32)), (.int (13 : Int32))])) _
  refine XS.icmpNo X0.here hx rfl (hb hby d1_333) rfl (flt (by decide : ¬ ((13 : Int32) < (7 : Int32)))).1 ?_
  show Steps p.tables e below (T0.setTop (mkF m 336 #[.val (.int (13 : Int32)), .val (.int p2)] [])) _
  refine XS.iloadN X0.here hx rfl (hb hby d1_336) rfl ?_
  show Steps p.tables e below (T0.setTop (mkF m 337 #[.val (.int (13 : Int32)), .val (.int p2)] [(.int (13 : Int32))])) _
  refine XS.bipush X0.here hx rfl (hb hby d1_337) ?_
  show Steps p.tables e below (T0.setTop (mkF m 339 #[.val (.int (13 : Int32)), .val (.int p2)] [(.int (25 : Int32)), (.int (13 : Int32))])) _
  refine XS.icmpNo X0.here hx rfl (hb hby d1_339) rfl (flt (by decide : ¬ ((25 : Int32) < (13 : Int32)))).2.2.1 ?_
  show Steps p.tables e below (T0.setTop (mkF m 342 #[.val (.int (13 : Int32)), .val (.int p2)] [])) _
  refine XS.iconst X0.here hx rfl (hb hby d1_342) ?_
  show Steps p.tables e below (T0.setTop (mkF m 343 #[.val (.int (13 : Int32)), .val (.int p2)] [(.int (-1 : Int32))])) _
  refine XS.goto X0.here hx rfl (pc0 := 343) (pc' := 347) rfl (hb hby d1_343) (by decide) (by decide) ?_
  show Steps p.tables e below (T0.setTop (mkF m 347 #[.val (.int (13 : Int32)), .val (.int p2)] [(.int (-1 : Int32))])) _
  exact retI X0 hx hret (hb hby d1_347) hr
set_option maxRecDepth 65536 in
set_option maxHeartbeats 40000000 in
theorem se_14 {p : Program} {l : Launch} {e : Env} {R : Room} {s : State} {m : MethodId} {args : Array Value} {below : List Frame} {meth : Method} {c : Code} {T0 : State} {locs : List Loc} {cells slots : Nat} (p2 : Int32)
    (X0 : Stand p l e R s m args below meth c T0 locs cells slots) (hx : p.tables.exec = Jvm.exec) (hby : c.code = prog_20_method_6_code) (hret : meth.sig.returnType = some .int) {fs : List Frame}
    (hr : ∀ (f : JFrame) (acts : List Action), f.method = m → f.locked = none → f.entered = [] → (doReturn e (T0.setTop f) acts (some (.int (-1 : Int32)))).1 = T0.setFrames fs) :
    Steps p.tables e below (T0.setTop (mkF m 0 #[.val (.int (14 : Int32)), .val (.int p2)] [])) (T0.setFrames fs) := by
  show Steps p.tables e below (T0.setTop (mkF m 0 #[.val (.int (14 : Int32)), .val (.int p2)] [])) _
  refine XS.iloadN X0.here hx rfl (hb hby d1_0) rfl ?_
  show Steps p.tables e below (T0.setTop (mkF m 1 #[.val (.int (14 : Int32)), .val (.int p2)] [(.int (14 : Int32))])) _
  refine XS.tswIn X0.here hx rfl (pc0 := 1) (pc' := 330) rfl (hb hby d1_1) rfl (by decide) (o := 329) (by decide) (by decide) (by decide) ?_
  show Steps p.tables e below (T0.setTop (mkF m 330 #[.val (.int (14 : Int32)), .val (.int p2)] [])) _
  refine XS.iloadN X0.here hx rfl (hb hby d1_330) rfl ?_
  show Steps p.tables e below (T0.setTop (mkF m 331 #[.val (.int (14 : Int32)), .val (.int p2)] [(.int (14 : Int32))])) _
  refine XS.bipush X0.here hx rfl (hb hby d1_331) ?_
  show Steps p.tables e below (T0.setTop (mkF m 333 #[.val (.int (14 : Int32)), .val (.int p2)] [(.int (7 : Int32)), (.int (14 : Int32))])) _
  refine XS.icmpNo X0.here hx rfl (hb hby d1_333) rfl (flt (by decide : ¬ ((14 : Int32) < (7 : Int32)))).1 ?_
  show Steps p.tables e below (T0.setTop (mkF m 336 #[.val (.int (14 : Int32)), .val (.int p2)] [])) _
  refine XS.iloadN X0.here hx rfl (hb hby d1_336) rfl ?_
  show Steps p.tables e below (T0.setTop (mkF m 337 #[.val (.int (14 : Int32)), .val (.int p2)] [(.int (14 : Int32))])) _
  refine XS.bipush X0.here hx rfl (hb hby d1_337) ?_
  show Steps p.tables e below (T0.setTop (mkF m 339 #[.val (.int (14 : Int32)), .val (.int p2)] [(.int (25 : Int32)), (.int (14 : Int32))])) _
  refine XS.icmpNo X0.here hx rfl (hb hby d1_339) rfl (flt (by decide : ¬ ((25 : Int32) < (14 : Int32)))).2.2.1 ?_
  show Steps p.tables e below (T0.setTop (mkF m 342 #[.val (.int (14 : Int32)), .val (.int p2)] [])) _
  refine XS.iconst X0.here hx rfl (hb hby d1_342) ?_
  show Steps p.tables e below (T0.setTop (mkF m 343 #[.val (.int (14 : Int32)), .val (.int p2)] [(.int (-1 : Int32))])) _
  refine XS.goto X0.here hx rfl (pc0 := 343) (pc' := 347) rfl (hb hby d1_343) (by decide) (by decide) ?_
  show Steps p.tables e below (T0.setTop (mkF m 347 #[.val (.int (14 : Int32)), .val (.int p2)] [(.int (-1 : Int32))])) _
  exact retI X0 hx hret (hb hby d1_347) hr
set_option maxRecDepth 65536 in
set_option maxHeartbeats 40000000 in
theorem se_15 {p : Program} {l : Launch} {e : Env} {R : Room} {s : State} {m : MethodId} {args : Array Value} {below : List Frame} {meth : Method} {c : Code} {T0 : State} {locs : List Loc} {cells slots : Nat} (p2 : Int32)
    (X0 : Stand p l e R s m args below meth c T0 locs cells slots) (hx : p.tables.exec = Jvm.exec) (hby : c.code = prog_20_method_6_code) (hret : meth.sig.returnType = some .int) {fs : List Frame}
    (hr : ∀ (f : JFrame) (acts : List Action), f.method = m → f.locked = none → f.entered = [] → (doReturn e (T0.setTop f) acts (some (.int (-1 : Int32)))).1 = T0.setFrames fs) :
    Steps p.tables e below (T0.setTop (mkF m 0 #[.val (.int (15 : Int32)), .val (.int p2)] [])) (T0.setFrames fs) := by
  show Steps p.tables e below (T0.setTop (mkF m 0 #[.val (.int (15 : Int32)), .val (.int p2)] [])) _
  refine XS.iloadN X0.here hx rfl (hb hby d1_0) rfl ?_
  show Steps p.tables e below (T0.setTop (mkF m 1 #[.val (.int (15 : Int32)), .val (.int p2)] [(.int (15 : Int32))])) _
  refine XS.tswIn X0.here hx rfl (pc0 := 1) (pc' := 330) rfl (hb hby d1_1) rfl (by decide) (o := 329) (by decide) (by decide) (by decide) ?_
  show Steps p.tables e below (T0.setTop (mkF m 330 #[.val (.int (15 : Int32)), .val (.int p2)] [])) _
  refine XS.iloadN X0.here hx rfl (hb hby d1_330) rfl ?_
  show Steps p.tables e below (T0.setTop (mkF m 331 #[.val (.int (15 : Int32)), .val (.int p2)] [(.int (15 : Int32))])) _
  refine XS.bipush X0.here hx rfl (hb hby d1_331) ?_
  show Steps p.tables e below (T0.setTop (mkF m 333 #[.val (.int (15 : Int32)), .val (.int p2)] [(.int (7 : Int32)), (.int (15 : Int32))])) _
  refine XS.icmpNo X0.here hx rfl (hb hby d1_333) rfl (flt (by decide : ¬ ((15 : Int32) < (7 : Int32)))).1 ?_
  show Steps p.tables e below (T0.setTop (mkF m 336 #[.val (.int (15 : Int32)), .val (.int p2)] [])) _
  refine XS.iloadN X0.here hx rfl (hb hby d1_336) rfl ?_
  show Steps p.tables e below (T0.setTop (mkF m 337 #[.val (.int (15 : Int32)), .val (.int p2)] [(.int (15 : Int32))])) _
  refine XS.bipush X0.here hx rfl (hb hby d1_337) ?_
  show Steps p.tables e below (T0.setTop (mkF m 339 #[.val (.int (15 : Int32)), .val (.int p2)] [(.int (25 : Int32)), (.int (15 : Int32))])) _
  refine XS.icmpNo X0.here hx rfl (hb hby d1_339) rfl (flt (by decide : ¬ ((25 : Int32) < (15 : Int32)))).2.2.1 ?_
  show Steps p.tables e below (T0.setTop (mkF m 342 #[.val (.int (15 : Int32)), .val (.int p2)] [])) _
  refine XS.iconst X0.here hx rfl (hb hby d1_342) ?_
  show Steps p.tables e below (T0.setTop (mkF m 343 #[.val (.int (15 : Int32)), .val (.int p2)] [(.int (-1 : Int32))])) _
  refine XS.goto X0.here hx rfl (pc0 := 343) (pc' := 347) rfl (hb hby d1_343) (by decide) (by decide) ?_
  show Steps p.tables e below (T0.setTop (mkF m 347 #[.val (.int (15 : Int32)), .val (.int p2)] [(.int (-1 : Int32))])) _
  exact retI X0 hx hret (hb hby d1_347) hr
set_option maxRecDepth 65536 in
set_option maxHeartbeats 40000000 in
theorem se_16 {p : Program} {l : Launch} {e : Env} {R : Room} {s : State} {m : MethodId} {args : Array Value} {below : List Frame} {meth : Method} {c : Code} {T0 : State} {locs : List Loc} {cells slots : Nat} (p2 : Int32)
    (X0 : Stand p l e R s m args below meth c T0 locs cells slots) (hx : p.tables.exec = Jvm.exec) (hby : c.code = prog_20_method_6_code) (hret : meth.sig.returnType = some .int) {fs : List Frame}
    (hr : ∀ (f : JFrame) (acts : List Action), f.method = m → f.locked = none → f.entered = [] → (doReturn e (T0.setTop f) acts (some (.int (-1 : Int32)))).1 = T0.setFrames fs) :
    Steps p.tables e below (T0.setTop (mkF m 0 #[.val (.int (16 : Int32)), .val (.int p2)] [])) (T0.setFrames fs) := by
  show Steps p.tables e below (T0.setTop (mkF m 0 #[.val (.int (16 : Int32)), .val (.int p2)] [])) _
  refine XS.iloadN X0.here hx rfl (hb hby d1_0) rfl ?_
  show Steps p.tables e below (T0.setTop (mkF m 1 #[.val (.int (16 : Int32)), .val (.int p2)] [(.int (16 : Int32))])) _
  refine XS.tswIn X0.here hx rfl (pc0 := 1) (pc' := 330) rfl (hb hby d1_1) rfl (by decide) (o := 329) (by decide) (by decide) (by decide) ?_
  show Steps p.tables e below (T0.setTop (mkF m 330 #[.val (.int (16 : Int32)), .val (.int p2)] [])) _
  refine XS.iloadN X0.here hx rfl (hb hby d1_330) rfl ?_
  show Steps p.tables e below (T0.setTop (mkF m 331 #[.val (.int (16 : Int32)), .val (.int p2)] [(.int (16 : Int32))])) _
  refine XS.bipush X0.here hx rfl (hb hby d1_331) ?_
  show Steps p.tables e below (T0.setTop (mkF m 333 #[.val (.int (16 : Int32)), .val (.int p2)] [(.int (7 : Int32)), (.int (16 : Int32))])) _
  refine XS.icmpNo X0.here hx rfl (hb hby d1_333) rfl (flt (by decide : ¬ ((16 : Int32) < (7 : Int32)))).1 ?_
  show Steps p.tables e below (T0.setTop (mkF m 336 #[.val (.int (16 : Int32)), .val (.int p2)] [])) _
  refine XS.iloadN X0.here hx rfl (hb hby d1_336) rfl ?_
  show Steps p.tables e below (T0.setTop (mkF m 337 #[.val (.int (16 : Int32)), .val (.int p2)] [(.int (16 : Int32))])) _
  refine XS.bipush X0.here hx rfl (hb hby d1_337) ?_
  show Steps p.tables e below (T0.setTop (mkF m 339 #[.val (.int (16 : Int32)), .val (.int p2)] [(.int (25 : Int32)), (.int (16 : Int32))])) _
  refine XS.icmpNo X0.here hx rfl (hb hby d1_339) rfl (flt (by decide : ¬ ((25 : Int32) < (16 : Int32)))).2.2.1 ?_
  show Steps p.tables e below (T0.setTop (mkF m 342 #[.val (.int (16 : Int32)), .val (.int p2)] [])) _
  refine XS.iconst X0.here hx rfl (hb hby d1_342) ?_
  show Steps p.tables e below (T0.setTop (mkF m 343 #[.val (.int (16 : Int32)), .val (.int p2)] [(.int (-1 : Int32))])) _
  refine XS.goto X0.here hx rfl (pc0 := 343) (pc' := 347) rfl (hb hby d1_343) (by decide) (by decide) ?_
  show Steps p.tables e below (T0.setTop (mkF m 347 #[.val (.int (16 : Int32)), .val (.int p2)] [(.int (-1 : Int32))])) _
  exact retI X0 hx hret (hb hby d1_347) hr
set_option maxRecDepth 65536 in
set_option maxHeartbeats 40000000 in
theorem se_17 {p : Program} {l : Launch} {e : Env} {R : Room} {s : State} {m : MethodId} {args : Array Value} {below : List Frame} {meth : Method} {c : Code} {T0 : State} {locs : List Loc} {cells slots : Nat} (p2 : Int32)
    (X0 : Stand p l e R s m args below meth c T0 locs cells slots) (hx : p.tables.exec = Jvm.exec) (hby : c.code = prog_20_method_6_code) (hret : meth.sig.returnType = some .int) {fs : List Frame}
    (hr : ∀ (f : JFrame) (acts : List Action), f.method = m → f.locked = none → f.entered = [] → (doReturn e (T0.setTop f) acts (some (.int (-1 : Int32)))).1 = T0.setFrames fs) :
    Steps p.tables e below (T0.setTop (mkF m 0 #[.val (.int (17 : Int32)), .val (.int p2)] [])) (T0.setFrames fs) := by
  show Steps p.tables e below (T0.setTop (mkF m 0 #[.val (.int (17 : Int32)), .val (.int p2)] [])) _
  refine XS.iloadN X0.here hx rfl (hb hby d1_0) rfl ?_
  show Steps p.tables e below (T0.setTop (mkF m 1 #[.val (.int (17 : Int32)), .val (.int p2)] [(.int (17 : Int32))])) _
  refine XS.tswIn X0.here hx rfl (pc0 := 1) (pc' := 330) rfl (hb hby d1_1) rfl (by decide) (o := 329) (by decide) (by decide) (by decide) ?_
  show Steps p.tables e below (T0.setTop (mkF m 330 #[.val (.int (17 : Int32)), .val (.int p2)] [])) _
  refine XS.iloadN X0.here hx rfl (hb hby d1_330) rfl ?_
  show Steps p.tables e below (T0.setTop (mkF m 331 #[.val (.int (17 : Int32)), .val (.int p2)] [(.int (17 : Int32))])) _
  refine XS.bipush X0.here hx rfl (hb hby d1_331) ?_
  show Steps p.tables e below (T0.setTop (mkF m 333 #[.val (.int (17 : Int32)), .val (.int p2)] [(.int (7 : Int32)), (.int (17 : Int32))])) _
  refine XS.icmpNo X0.here hx rfl (hb hby d1_333) rfl (flt (by decide : ¬ ((17 : Int32) < (7 : Int32)))).1 ?_
  show Steps p.tables e below (T0.setTop (mkF m 336 #[.val (.int (17 : Int32)), .val (.int p2)] [])) _
  refine XS.iloadN X0.here hx rfl (hb hby d1_336) rfl ?_
  show Steps p.tables e below (T0.setTop (mkF m 337 #[.val (.int (17 : Int32)), .val (.int p2)] [(.int (17 : Int32))])) _
  refine XS.bipush X0.here hx rfl (hb hby d1_337) ?_
  show Steps p.tables e below (T0.setTop (mkF m 339 #[.val (.int (17 : Int32)), .val (.int p2)] [(.int (25 : Int32)), (.int (17 : Int32))])) _
  refine XS.icmpNo X0.here hx rfl (hb hby d1_339) rfl (flt (by decide : ¬ ((25 : Int32) < (17 : Int32)))).2.2.1 ?_
  show Steps p.tables e below (T0.setTop (mkF m 342 #[.val (.int (17 : Int32)), .val (.int p2)] [])) _
  refine XS.iconst X0.here hx rfl (hb hby d1_342) ?_
  show Steps p.tables e below (T0.setTop (mkF m 343 #[.val (.int (17 : Int32)), .val (.int p2)] [(.int (-1 : Int32))])) _
  refine XS.goto X0.here hx rfl (pc0 := 343) (pc' := 347) rfl (hb hby d1_343) (by decide) (by decide) ?_
  show Steps p.tables e below (T0.setTop (mkF m 347 #[.val (.int (17 : Int32)), .val (.int p2)] [(.int (-1 : Int32))])) _
  exact retI X0 hx hret (hb hby d1_347) hr
set_option maxRecDepth 65536 in
set_option maxHeartbeats 40000000 in
theorem se_18 {p : Program} {l : Launch} {e : Env} {R : Room} {s : State} {m : MethodId} {args : Array Value} {below : List Frame} {meth : Method} {c : Code} {T0 : State} {locs : List Loc} {cells slots : Nat} (p2 : Int32)
    (X0 : Stand p l e R s m args below meth c T0 locs cells slots) (hx : p.tables.exec = Jvm.exec) (hby : c.code = prog_20_method_6_code) (hret : meth.sig.returnType = some .int) {fs : List Frame}
    (hr : ∀ (f : JFrame) (acts : List Action), f.method = m → f.locked = none → f.entered = [] → (doReturn e (T0.setTop f) acts (some (.int (-1 : Int32)))).1 = T0.setFrames fs) :
    Steps p.tables e below (T0.setTop (mkF m 0 #[.val (.int (18 : Int32)), .val (.int p2)] [])) (T0.setFrames fs) := by
  show Steps p.tables e below (T0.setTop (mkF m 0 #[.val (.int (18 : Int32)), .val (.int p2)] [])) _
  refine XS.iloadN X0.here hx rfl (hb hby d1_0) rfl ?_
  show Steps p.tables e below (T0.setTop (mkF m 1 #[.val (.int (18 : Int32)), .val (.int p2)] [(.int (18 : Int32))])) _
  refine XS.tswIn X0.here hx rfl (pc0 := 1) (pc' := 330) rfl (hb hby d1_1) rfl (by decide) (o := 329) (by decide) (by decide) (by decide) ?_
  show Steps p.tables e below (T0.setTop (mkF m 330 #[.val (.int (18 : Int32)), .val (.int p2)] [])) _
  refine XS.iloadN X0.here hx rfl (hb hby d1_330) rfl ?_
  show Steps p.tables e below (T0.setTop (mkF m 331 #[.val (.int (18 : Int32)), .val (.int p2)] [(.int (18 : Int32))])) _
  refine XS.bipush X0.here hx rfl (hb hby d1_331) ?_
  show Steps p.tables e below (T0.setTop (mkF m 333 #[.val (.int (18 : Int32)), .val (.int p2)] [(.int (7 : Int32)), (.int (18 : Int32))])) _
  refine XS.icmpNo X0.here hx rfl (hb hby d1_333) rfl (flt (by decide : ¬ ((18 : Int32) < (7 : Int32)))).1 ?_
  show Steps p.tables e below (T0.setTop (mkF m 336 #[.val (.int (18 : Int32)), .val (.int p2)] [])) _
  refine XS.iloadN X0.here hx rfl (hb hby d1_336) rfl ?_
  show Steps p.tables e below (T0.setTop (mkF m 337 #[.val (.int (18 : Int32)), .val (.int p2)] [(.int (18 : Int32))])) _
  refine XS.bipush X0.here hx rfl (hb hby d1_337) ?_
  show Steps p.tables e below (T0.setTop (mkF m 339 #[.val (.int (18 : Int32)), .val (.int p2)] [(.int (25 : Int32)), (.int (18 : Int32))])) _
  refine XS.icmpNo X0.here hx rfl (hb hby d1_339) rfl (flt (by decide : ¬ ((25 : Int32) < (18 : Int32)))).2.2.1 ?_
  show Steps p.tables e below (T0.setTop (mkF m 342 #[.val (.int (18 : Int32)), .val (.int p2)] [])) _
  refine XS.iconst X0.here hx rfl (hb hby d1_342) ?_
  show Steps p.tables e below (T0.setTop (mkF m 343 #[.val (.int (18 : Int32)), .val (.int p2)] [(.int (-1 : Int32))])) _
  refine XS.goto X0.here hx rfl (pc0 := 343) (pc' := 347) rfl (hb hby d1_343) (by decide) (by decide) ?_
  show Steps p.tables e below (T0.setTop (mkF m 347 #[.val (.int (18 : Int32)), .val (.int p2)] [(.int (-1 : Int32))])) _
  exact retI X0 hx hret (hb hby d1_347) hr
set_option maxRecDepth 65536 in
set_option maxHeartbeats 40000000 in
theorem se_19 {p : Program} {l : Launch} {e : Env} {R : Room} {s : State} {m : MethodId} {args : Array Value} {below : List Frame} {meth : Method} {c : Code} {T0 : State} {locs : List Loc} {cells slots : Nat} (p2 : Int32)
    (X0 : Stand p l e R s m args below meth c T0 locs cells slots) (hx : p.tables.exec = Jvm.exec) (hby : c.code = prog_20_method_6_code) (hret : meth.sig.returnType = some .int) {fs : List Frame}
    (hr : ∀ (f : JFrame) (acts : List Action), f.method = m → f.locked = none → f.entered = [] → (doReturn e (T0.setTop f) acts (some (.int (-1 : Int32)))).1 = T0.setFrames fs) :
    Steps p.tables e below (T0.setTop (mkF m 0 #[.val (.int (19 : Int32)), .val (.int p2)] [])) (T0.setFrames fs) := by
  show Steps p.tables e below (T0.setTop (mkF m 0 #[.val (.int (19 : Int32)), .val (.int p2)] [])) _
  refine XS.iloadN X0.here hx rfl (hb hby d1_0) rfl ?_
  show Steps p.tables e below (T0.setTop (mkF m 1 #[.val (.int (19 : Int32)), .val (.int p2)] [(.int (19 : Int32))])) _
  refine XS.tswIn X0.here hx rfl (pc0 := 1) (pc' := 330) rfl (hb hby d1_1) rfl (by decide) (o := 329) (by decide) (by decide) (by decide) ?_
  show Steps p.tables e below (T0.setTop (mkF m 330 #[.val (.int (19 : Int32)), .val (.int p2)] [])) _
  refine XS.iloadN X0.here hx rfl (hb hby d1_330) rfl ?_
  show Steps p.tables e below (T0.setTop (mkF m 331 #[.val (.int (19 : Int32)), .val (.int p2)] [(.int (19 : Int32))])) _
  refine XS.bipush X0.here hx rfl (hb hby d1_331) ?_
  show Steps p.tables e below (T0.setTop (mkF m 333 #[.val (.int (19 : Int32)), .val (.int p2)] [(.int (7 : Int32)), (.int (19 : Int32))])) _
  refine XS.icmpNo X0.here hx rfl (hb hby d1_333) rfl (flt (by decide : ¬ ((19 : Int32) < (7 : Int32)))).1 ?_
  show Steps p.tables e below (T0.setTop (mkF m 336 #[.val (.int (19 : Int32)), .val (.int p2)] [])) _
  refine XS.iloadN X0.here hx rfl (hb hby d1_336) rfl ?_
  show Steps p.tables e below (T0.setTop (mkF m 337 #[.val (.int (19 : Int32)), .val (.int p2)] [(.int (19 : Int32))])) _
  refine XS.bipush X0.here hx rfl (hb hby d1_337) ?_
  show Steps p.tables e below (T0.setTop (mkF m 339 #[.val (.int (19 : Int32)), .val (.int p2)] [(.int (25 : Int32)), (.int (19 : Int32))])) _
  refine XS.icmpNo X0.here hx rfl (hb hby d1_339) rfl (flt (by decide : ¬ ((25 : Int32) < (19 : Int32)))).2.2.1 ?_
  show Steps p.tables e below (T0.setTop (mkF m 342 #[.val (.int (19 : Int32)), .val (.int p2)] [])) _
  refine XS.iconst X0.here hx rfl (hb hby d1_342) ?_
  show Steps p.tables e below (T0.setTop (mkF m 343 #[.val (.int (19 : Int32)), .val (.int p2)] [(.int (-1 : Int32))])) _
  refine XS.goto X0.here hx rfl (pc0 := 343) (pc' := 347) rfl (hb hby d1_343) (by decide) (by decide) ?_
  show Steps p.tables e below (T0.setTop (mkF m 347 #[.val (.int (19 : Int32)), .val (.int p2)] [(.int (-1 : Int32))])) _
  exact retI X0 hx hret (hb hby d1_347) hr
set_option maxRecDepth 65536 in
set_option maxHeartbeats 40000000 in
theorem se_20 {p : Program} {l : Launch} {e : Env} {R : Room} {s : State} {m : MethodId} {args : Array Value} {below : List Frame} {meth : Method} {c : Code} {T0 : State} {locs : List Loc} {cells slots : Nat} (p2 : Int32)
    (X0 : Stand p l e R s m args below meth c T0 locs cells slots) (hx : p.tables.exec = Jvm.exec) (hby : c.code = prog_20_method_6_code) (hret : meth.sig.returnType = some .int) {fs : List Frame}
    (hr : ∀ (f : JFrame) (acts : List Action), f.method = m → f.locked = none → f.entered = [] → (doReturn e (T0.setTop f) acts (some (.int (-1 : Int32)))).1 = T0.setFrames fs) :
    Steps p.tables e below (T0.setTop (mkF m 0 #[.val (.int (20 : Int32)), .val (.int p2)] [])) (T0.setFrames fs) := by
  show Steps p.tables e below (T0.setTop (mkF m 0 #[.val (.int (20 : Int32)), .val (.int p2)] [])) _
  refine XS.iloadN X0.here hx rfl (hb hby d1_0) rfl ?_
  show Steps p.tables e below (T0.setTop (mkF m 1 #[.val (.int (20 : Int32)), .val (.int p2)] [(.int (20 : Int32))])) _
  refine XS.tswIn X0.here hx rfl (pc0 := 1) (pc' := 330) rfl (hb hby d1_1) rfl (by decide) (o := 329) (by decide) (by decide) (by decide) ?_
  show Steps p.tables e below (T0.setTop (mkF m 330 #[.val (.int (20 : Int32)), .val (.int p2)] [])) _
  refine XS.iloadN X0.here hx rfl (hb hby d1_330) rfl ?_
  show Steps p.tables e below (T0.setTop (mkF m 331 #[.val (.int (20 : Int32)), .val (.int p2)] [(.int (20 : Int32))])) _
  refine XS.bipush X0.here hx rfl (hb hby d1_331) ?_
  show Steps p.tables e below (T0.setTop (mkF m 333 #[.val (.int (20 : Int32)), .val (.int p2)] [(.int (7 : Int32)), (.int (20 : Int32))])) _
  refine XS.icmpNo X0.here hx rfl (hb hby d1_333) rfl (flt (by decide : ¬ ((20 : Int32) < (7 : Int32)))).1 ?_
  show Steps p.tables e below (T0.setTop (mkF m 336 #[.val (.int (20 : Int32)), .val (.int p2)] [])) _
  refine XS.iloadN X0.here hx rfl (hb hby d1_336) rfl ?_
  show Steps p.tables e below (T0.setTop (mkF m 337 #[.val (.int (20 : Int32)), .val (.int p2)] [(.int (20 : Int32))])) _
  refine XS.bipush X0.here hx rfl (hb hby d1_337) ?_
  show Steps p.tables e below (T0.setTop (mkF m 339 #[.val (.int (20 : Int32)), .val (.int p2)] [(.int (25 : Int32)), (.int (20 : Int32))])) _
  refine XS.icmpNo X0.here hx rfl (hb hby d1_339) rfl (flt (by decide : ¬ ((25 : Int32) < (20 : Int32)))).2.2.1 ?_
  show Steps p.tables e below (T0.setTop (mkF m 342 #[.val (.int (20 : Int32)), .val (.int p2)] [])) _
  refine XS.iconst X0.here hx rfl (hb hby d1_342) ?_
  show Steps p.tables e below (T0.setTop (mkF m 343 #[.val (.int (20 : Int32)), .val (.int p2)] [(.int (-1 : Int32))])) _
  refine XS.goto X0.here hx rfl (pc0 := 343) (pc' := 347) rfl (hb hby d1_343) (by decide) (by decide) ?_
  show Steps p.tables e below (T0.setTop (mkF m 347 #[.val (.int (20 : Int32)), .val (.int p2)] [(.int (-1 : Int32))])) _
  exact retI X0 hx hret (hb hby d1_347) hr
set_option maxRecDepth 65536 in
set_option maxHeartbeats 40000000 in
theorem se_21 {p : Program} {l : Launch} {e : Env} {R : Room} {s : State} {m : MethodId} {args : Array Value} {below : List Frame} {meth : Method} {c : Code} {T0 : State} {locs : List Loc} {cells slots : Nat} (p2 : Int32)
    (X0 : Stand p l e R s m args below meth c T0 locs cells slots) (hx : p.tables.exec = Jvm.exec) (hby : c.code = prog_20_method_6_code) (hret : meth.sig.returnType = some .int) {fs : List Frame}
    (hr : ∀ (f : JFrame) (acts : List Action), f.method = m → f.locked = none → f.entered = [] → (doReturn e (T0.setTop f) acts (some (.int (-1 : Int32)))).1 = T0.setFrames fs) :
    Steps p.tables e below (T0.setTop (mkF m 0 #[.val (.int (21 : Int32)), .val (.int p2)] [])) (T0.setFrames fs) := by
  show Steps p.tables e below (T0.setTop (mkF m 0 #[.val (.int (21 : Int32)), .val (.int p2)] [])) _
  refine XS.iloadN X0.here hx rfl (hb hby d1_0) rfl ?_
  show Steps p.tables e below (T0.setTop (mkF m 1 #[.val (.int (21 : Int32)), .val (.int p2)] [(.int (21 : Int32))])) _
  refine XS.tswIn X0.here hx rfl (pc0 := 1) (pc' := 330) rfl (hb hby d1_1) rfl (by decide) (o := 329) (by decide) (by decide) (by decide) ?_
  show Steps p.tables e below (T0.setTop (mkF m 330 #[.val (.int (21 : Int32)), .val (.int p2)] [])) _
  refine XS.iloadN X0.here hx rfl (hb hby d1_330) rfl ?_
  show Steps p.tables e below (T0.setTop (mkF m 331 #[.val (.int (21 : Int32)), .val (.int p2)] [(.int (21 : Int32))])) _
  refine XS.bipush X0.here hx rfl (hb hby d1_331) ?_
  show Steps p.tables e below (T0.setTop (mkF m 333 #[.val (.int (21 : Int32)), .val (.int p2)] [(.int (7 : Int32)), (.int (21 : Int32))])) _
  refine XS.icmpNo X0.here hx rfl (hb hby d1_333) rfl (flt (by decide : ¬ ((21 : Int32) < (7 : Int32)))).1 ?_
  show Steps p.tables e below (T0.setTop (mkF m 336 #[.val (.int (21 : Int32)), .val (.int p2)] [])) _
  refine XS.iloadN X0.here hx rfl (hb hby d1_336) rfl ?_
  show Steps p.tables e below (T0.setTop (mkF m 337 #[.val (.int (21 : Int32)), .val (.int p2)] [(.int (21 : Int32))])) _
  refine XS.bipush X0.here hx rfl (hb hby d1_337) ?_
  show Steps p.tables e below (T0.setTop (mkF m 339 #[.val (.int (21 : Int32)), .val (.int p2)] [(.int (25 : Int32)), (.int (21 : Int32))])) _
  refine XS.icmpNo X0.here hx rfl (hb hby d1_339) rfl (flt (by decide : ¬ ((25 : Int32) < (21 : Int32)))).2.2.1 ?_
  show Steps p.tables e below (T0.setTop (mkF m 342 #[.val (.int (21 : Int32)), .val (.int p2)] [])) _
  refine XS.iconst X0.here hx rfl (hb hby d1_342) ?_
  show Steps p.tables e below (T0.setTop (mkF m 343 #[.val (.int (21 : Int32)), .val (.int p2)] [(.int (-1 : Int32))])) _
  refine XS.goto X0.here hx rfl (pc0 := 343) (pc' := 347) rfl (hb hby d1_343) (by decide) (by decide) ?_
  show Steps p.tables e below (T0.setTop (mkF m 347 #[.val (.int (21 : Int32)), .val (.int p2)] [(.int (-1 : Int32))])) _
  exact retI X0 hx hret (hb hby d1_347) hr
set_option maxRecDepth 65536 in
set_option maxHeartbeats 40000000 in
theorem se_22 {p : Program} {l : Launch} {e : Env} {R : Room} {s : State} {m : MethodId} {args : Array Value} {below : List Frame} {meth : Method} {c : Code} {T0 : State} {locs : List Loc} {cells slots : Nat} (p2 : Int32)
    (X0 : Stand p l e R s m args below meth c T0 locs cells slots) (hx : p.tables.exec = Jvm.exec) (hby : c.code = prog_20_method_6_code) (hret : meth.sig.returnType = some .int) {fs : List Frame}
    (hr : ∀ (f : JFrame) (acts : List Action), f.method = m → f.locked = none → f.entered = [] → (doReturn e (T0.setTop f) acts (some (.int (-1 : Int32)))).1 = T0.setFrames fs) :
    Steps p.tables e below (T0.setTop (mkF m 0 #[.val (.int (22 : Int32)), .val (.int p2)] [])) (T0.setFrames fs) := by
  show Steps p.tables e below (T0.setTop (mkF m 0 #[.val (.int (22 : Int32)), .val (.int p2)] [])) _
  refine XS.iloadN X0.here hx rfl (hb hby d1_0) rfl ?_
  show Steps p.tables e below (T0.setTop (mkF m 1 #[.val (.int (22 : Int32)), .val (.int p2)] [(.int (22 : Int32))])) _
  refine XS.tswIn X0.here hx rfl (pc0 := 1) (pc' := 330) rfl (hb hby d1_1) rfl (by decide) (o := 329) (by decide) (by decide) (by decide) ?_
  show Steps p.tables e below (T0.setTop (mkF m 330 #[.val (.int (22 : Int32)), .val (.int p2)] [])) _
  refine XS.iloadN X0.here hx rfl (hb hby d1_330) rfl ?_
  show Steps p.tables e below (T0.setTop (mkF m 331 #[.val (.int (22 : Int32)), .val (.int p2)] [(.int (22 : Int32))])) _
  refine XS.bipush X0.here hx rfl (hb hby d1_331) ?_
  show Steps p.tables e below (T0.setTop (mkF m 333 #[.val (.int (22 : Int32)), .val (.int p2)] [(.int (7 : Int32)), (.int (22 : Int32))])) _
  refine XS.icmpNo X0.here hx rfl (hb hby d1_333) rfl (flt (by decide : ¬ ((22 : Int32) < (7 : Int32)))).1 ?_
  show Steps p.tables e below (T0.setTop (mkF m 336 #[.val (.int (22 : Int32)), .val (.int p2)] [])) _
  refine XS.iloadN X0.here hx rfl (hb hby d1_336) rfl ?_
  show Steps p.tables e below (T0.setTop (mkF m 337 #[.val (.int (22 : Int32)), .val (.int p2)] [(.int (22 : Int32))])) _
  refine XS.bipush X0.here hx rfl (hb hby d1_337) ?_
  show Steps p.tables e below (T0.setTop (mkF m 339 #[.val (.int (22 : Int32)), .val (.int p2)] [(.int (25 : Int32)), (.int (22 : Int32))])) _
  refine XS.icmpNo X0.here hx rfl (hb hby d1_339) rfl (flt (by decide : ¬ ((25 : Int32) < (22 : Int32)))).2.2.1 ?_
  show Steps p.tables e below (T0.setTop (mkF m 342 #[.val (.int (22 : Int32)), .val (.int p2)] [])) _
  refine XS.iconst X0.here hx rfl (hb hby d1_342) ?_
  show Steps p.tables e below (T0.setTop (mkF m 343 #[.val (.int (22 : Int32)), .val (.int p2)] [(.int (-1 : Int32))])) _
  refine XS.goto X0.here hx rfl (pc0 := 343) (pc' := 347) rfl (hb hby d1_343) (by decide) (by decide) ?_
  show Steps p.tables e below (T0.setTop (mkF m 347 #[.val (.int (22 : Int32)), .val (.int p2)] [(.int (-1 : Int32))])) _
  exact retI X0 hx hret (hb hby d1_347) hr
set_option maxRecDepth 65536 in
set_option maxHeartbeats 40000000 in
theorem se_23 {p : Program} {l : Launch} {e : Env} {R : Room} {s : State} {m : MethodId} {args : Array Value} {below : List Frame} {meth : Method} {c : Code} {T0 : State} {locs : List Loc} {cells slots : Nat} (p2 : Int32)
    (X0 : Stand p l e R s m args below meth c T0 locs cells slots) (hx : p.tables.exec = Jvm.exec) (hby : c.code = prog_20_method_6_code) (hret : meth.sig.returnType = some .int) {fs : List Frame}
    (hr : ∀ (f : JFrame) (acts : List Action), f.method = m → f.locked = none → f.entered = [] → (doReturn e (T0.setTop f) acts (some (.int (-1 : Int32)))).1 = T0.setFrames fs) :
    Steps p.tables e below (T0.setTop (mkF m 0 #[.val (.int (23 : Int32)), .val (.int p2)] [])) (T0.setFrames fs) := by
  show Steps p.tables e below (T0.setTop (mkF m 0 #[.val (.int (23 : Int32)), .val (.int p2)] [])) _
  refine XS.iloadN X0.here hx rfl (hb hby d1_0) rfl ?_
  show Steps p.tables e below (T0.setTop (mkF m 1 #[.val (.int (23 : Int32)), .val (.int p2)] [(.int (23 : Int32))])) _
  refine XS.tswIn X0.here hx rfl (pc0 := 1) (pc' := 330) rfl (hb hby d1_1) rfl (by decide) (o := 329) (by decide) (by decide) (by decide) ?_
  show Steps p.tables e below (T0.setTop (mkF m 330 #[.val (.int (23 : Int32)), .val (.int p2)] [])) _
  refine XS.iloadN X0.here hx rfl (hb hby d1_330) rfl ?_
  show Steps p.tables e below (T0.setTop (mkF m 331 #[.val (.int (23 : Int32)), .val (.int p2)] [(.int (23 : Int32))])) _
  refine XS.bipush X0.here hx rfl (hb hby d1_331) ?_
  show Steps p.tables e below (T0.setTop (mkF m 333 #[.val (.int (23 : Int32)), .val (.int p2)] [(.int (7 : Int32)), (.int (23 : Int32))])) _
  refine XS.icmpNo X0.here hx rfl (hb hby d1_333) rfl (flt (by decide : ¬ ((23 : Int32) < (7 : Int32)))).1 ?_
  show Steps p.tables e below (T0.setTop (mkF m 336 #[.val (.int (23 : Int32)), .val (.int p2)] [])) _
  refine XS.iloadN X0.here hx rfl (hb hby d1_336) rfl ?_
  show Steps p.tables e below (T0.setTop (mkF m 337 #[.val (.int (23 : Int32)), .val (.int p2)] [(.int (23 : Int32))])) _
  refine XS.bipush X0.here hx rfl (hb hby d1_337) ?_
  show Steps p.tables e below (T0.setTop (mkF m 339 #[.val (.int (23 : Int32)), .val (.int p2)] [(.int (25 : Int32)), (.int (23 : Int32))])) _
  refine XS.icmpNo X0.here hx rfl (hb hby d1_339) rfl (flt (by decide : ¬ ((25 : Int32) < (23 : Int32)))).2.2.1 ?_
  show Steps p.tables e below (T0.setTop (mkF m 342 #[.val (.int (23 : Int32)), .val (.int p2)] [])) _
  refine XS.iconst X0.here hx rfl (hb hby d1_342) ?_
  show Steps p.tables e below (T0.setTop (mkF m 343 #[.val (.int (23 : Int32)), .val (.int p2)] [(.int (-1 : Int32))])) _
  refine XS.goto X0.here hx rfl (pc0 := 343) (pc' := 347) rfl (hb hby d1_343) (by decide) (by decide) ?_
  show Steps p.tables e below (T0.setTop (mkF m 347 #[.val (.int (23 : Int32)), .val (.int p2)] [(.int (-1 : Int32))])) _
  exact retI X0 hx hret (hb hby d1_347) hr
set_option maxRecDepth 65536 in
set_option maxHeartbeats 40000000 in
theorem se_24 {p : Program} {l : Launch} {e : Env} {R : Room} {s : State} {m : MethodId} {args : Array Value} {below : List Frame} {meth : Method} {c : Code} {T0 : State} {locs : List Loc} {cells slots : Nat} (p2 : Int32)
    (X0 : Stand p l e R s m args below meth c T0 locs cells slots) (hx : p.tables.exec = Jvm.exec) (hby : c.code = prog_20_method_6_code) (hret : meth.sig.returnType = some .int) {fs : List Frame}
    (hr : ∀ (f : JFrame) (acts : List Action), f.method = m → f.locked = none → f.entered = [] → (doReturn e (T0.setTop f) acts (some (.int (-1 : Int32)))).1 = T0.setFrames fs) :
    Steps p.tables e below (T0.setTop (mkF m 0 #[.val (.int (24 : Int32)), .val (.int p2)] [])) (T0.setFrames fs) := by
  show Steps p.tables e below (T0.setTop (mkF m 0 #[.val (.int (24 : Int32)), .val (.int p2)] [])) _
  refine XS.iloadN X0.here hx rfl (hb hby d1_0) rfl ?_
  show Steps p.tables e below (T0.setTop (mkF m 1 #[.val (.int (24 : Int32)), .val (.int p2)] [(.int (24 : Int32))])) _
  refine XS.tswIn X0.here hx rfl (pc0 := 1) (pc' := 330) rfl (hb hby d1_1) rfl (by decide) (o := 329) (by decide) (by decide) (by decide) ?_
  show Steps p.tables e below (T0.setTop (mkF m 330 #[.val (.int (24 : Int32)), .val (.int p2)] [])) _
  refine XS.iloadN X0.here hx rfl (hb hby d1_330) rfl ?_
  show Steps p.tables e below (T0.setTop (mkF m 331 #[.val (.int (24 : Int32)), .val (.int p2)] [(.int (24 : Int32))])) _
  refine XS.bipush X0.here hx rfl (hb hby d1_331) ?_
  show Steps p.tables e below (T0.setTop (mkF m 333 #[.val (.int (24 : Int32)), .val (.int p2)] [(.int (7 : Int32)), (.int (24 : Int32))])) _
  refine XS.icmpNo X0.here hx rfl (hb hby d1_333) rfl (flt (by decide : ¬ ((24 : Int32) < (7 : Int32)))).1 ?_
  show Steps p.tables e below (T0.setTop (mkF m 336 #[.val (.int (24 : Int32)), .val (.int p2)] [])) _
  refine XS.iloadN X0.here hx rfl (hb hby d1_336) rfl ?_
  show Steps p.tables e below (T0.setTop (mkF m 337 #[.val (.int (24 : Int32)), .val (.int p2)] [(.int (24 : Int32))])) _
  refine XS.bipush X0.here hx rfl (hb hby d1_337) ?_
  show Steps p.tables e below (T0.setTop (mkF m 339 #[.val (.int (24 : Int32)), .val (.int p2)] [(.int (25 : Int32)), (.int (24 : Int32))])) _
  refine XS.icmpNo X0.here hx rfl (hb hby d1_339) rfl (flt (by decide : ¬ ((25 : Int32) < (24 : Int32)))).2.2.1 ?_
  show Steps p.tables e below (T0.setTop (mkF m 342 #[.val (.int (24 : Int32)), .val (.int p2)] [])) _
  refine XS.iconst X0.here hx rfl (hb hby d1_342) ?_
  show Steps p.tables e below (T0.setTop (mkF m 343 #[.val (.int (24 : Int32)), .val (.int p2)] [(.int (-1 : Int32))])) _
  refine XS.goto X0.here hx rfl (pc0 := 343) (pc' := 347) rfl (hb hby d1_343) (by decide) (by decide) ?_
  show Steps p.tables e below (T0.setTop (mkF m 347 #[.val (.int (24 : Int32)), .val (.int p2)] [(.int (-1 : Int32))])) _
  exact retI X0 hx hret (hb hby d1_347) hr
set_option maxRecDepth 65536 in
set_option maxHeartbeats 40000000 in
theorem se_25 {p : Program} {l : Launch} {e : Env} {R : Room} {s : State} {m : MethodId} {args : Array Value} {below : List Frame} {meth : Method} {c : Code} {T0 : State} {locs : List Loc} {cells slots : Nat} (p2 : Int32)
    (X0 : Stand p l e R s m args below meth c T0 locs cells slots) (hx : p.tables.exec = Jvm.exec) (hby : c.code = prog_20_method_6_code) (hret : meth.sig.returnType = some .int) {fs : List Frame}
    (hr : ∀ (f : JFrame) (acts : List Action), f.method = m → f.locked = none → f.entered = [] → (doReturn e (T0.setTop f) acts (some (.int (-1 : Int32)))).1 = T0.setFrames fs) :
    Steps p.tables e below (T0.setTop (mkF m 0 #[.val (.int (25 : Int32)), .val (.int p2)] [])) (T0.setFrames fs) := by
  show Steps p.tables e below (T0.setTop (mkF m 0 #[.val (.int (25 : Int32)), .val (.int p2)] [])) _
  refine XS.iloadN X0.here hx rfl (hb hby d1_0) rfl ?_
  show Steps p.tables e below (T0.setTop (mkF m 1 #[.val (.int (25 : Int32)), .val (.int p2)] [(.int (25 : Int32))])) _
  refine XS.tswIn X0.here hx rfl (pc0 := 1) (pc' := 330) rfl (hb hby d1_1) rfl (by decide) (o := 329) (by decide) (by decide) (by decide) ?_
  show Steps p.tables e below (T0.setTop (mkF m 330 #[.val (.int (25 : Int32)), .val (.int p2)] [])) _
  refine XS.iloadN X0.here hx rfl (hb hby d1_330) rfl ?_
  show Steps p.tables e below (T0.setTop (mkF m 331 #[.val (.int (25 : Int32)), .val (.int p2)] [(.int (25 : Int32))])) _
  refine XS.bipush X0.here hx rfl (hb hby d1_331) ?_
  show Steps p.tables e below (T0.setTop (mkF m 333 #[.val (.int (25 : Int32)), .val (.int p2)] [(.int (7 : Int32)), (.int (25 : Int32))])) _
  refine XS.icmpNo X0.here hx rfl (hb hby d1_333) rfl (flt (by decide : ¬ ((25 : Int32) < (7 : Int32)))).1 ?_
  show Steps p.tables e below (T0.setTop (mkF m 336 #[.val (.int (25 : Int32)), .val (.int p2)] [])) _
  refine XS.iloadN X0.here hx rfl (hb hby d1_336) rfl ?_
  show Steps p.tables e below (T0.setTop (mkF m 337 #[.val (.int (25 : Int32)), .val (.int p2)] [(.int (25 : Int32))])) _
  refine XS.bipush X0.here hx rfl (hb hby d1_337) ?_
  show Steps p.tables e below (T0.setTop (mkF m 339 #[.val (.int (25 : Int32)), .val (.int p2)] [(.int (25 : Int32)), (.int (25 : Int32))])) _
  refine XS.icmpNo X0.here hx rfl (hb hby d1_339) rfl (flt (by decide : ¬ ((25 : Int32) < (25 : Int32)))).2.2.1 ?_
  show Steps p.tables e below (T0.setTop (mkF m 342 #[.val (.int (25 : Int32)), .val (.int p2)] [])) _
  refine XS.iconst X0.here hx rfl (hb hby d1_342) ?_
  show Steps p.tables e below (T0.setTop (mkF m 343 #[.val (.int (25 : Int32)), .val (.int p2)] [(.int (-1 : Int32))])) _
  refine XS.goto X0.here hx rfl (pc0 := 343) (pc' := 347) rfl (hb hby d1_343) (by decide) (by decide) ?_
  show Steps p.tables e below (T0.setTop (mkF m 347 #[.val (.int (25 : Int32)), .val (.int p2)] [(.int (-1 : Int32))])) _
  exact retI X0 hx hret (hb hby d1_347) hr
set_option maxRecDepth 65536 in
set_option maxHeartbeats 40000000 in
theorem se_26 {p : Program} {l : Launch} {e : Env} {R : Room} {s : State} {m : MethodId} {args : Array Value} {below : List Frame} {meth : Method} {c : Code} {T0 : State} {locs : List Loc} {cells slots : Nat} (p2 : Int32)
    (X0 : Stand p l e R s m args below meth c T0 locs cells slots) (hx : p.tables.exec = Jvm.exec) (hby : c.code = prog_20_method_6_code) (hret : meth.sig.returnType = some .int) {fs : List Frame}
    (hr : ∀ (f : JFrame) (acts : List Action), f.method = m → f.locked = none → f.entered = [] → (doReturn e (T0.setTop f) acts (some (.int (0 : Int32)))).1 = T0.setFrames fs) :
    Steps p.tables e below (T0.setTop (mkF m 0 #[.val (.int (26 : Int32)), .val (.int p2)] [])) (T0.setFrames fs) := by
  show Steps p.tables e below (T0.setTop (mkF m 0 #[.val (.int (26 : Int32)), .val (.int p2)] [])) _
  refine XS.iloadN X0.here hx rfl (hb hby d1_0) rfl ?_
  show Steps p.tables e below (T0.setTop (mkF m 1 #[.val (.int (26 : Int32)), .val (.int p2)] [(.int (26 : Int32))])) _
  refine XS.tswIn X0.here hx rfl (pc0 := 1) (pc' := 330) rfl (hb hby d1_1) rfl (by decide) (o := 329) (by decide) (by decide) (by decide) ?_
  show Steps p.tables e below (T0.setTop (mkF m 330 #[.val (.int (26 : Int32)), .val (.int p2)] [])) _
  refine XS.iloadN X0.here hx rfl (hb hby d1_330) rfl ?_
  show Steps p.tables e below (T0.setTop (mkF m 331 #[.val (.int (26 : Int32)), .val (.int p2)] [(.int (26 : Int32))])) _
  refine XS.bipush X0.here hx rfl (hb hby d1_331) ?_
  show Steps p.tables e below (T0.setTop (mkF m 333 #[.val (.int (26 : Int32)), .val (.int p2)] [(.int (7 : Int32)), (.int (26 : Int32))])) _
  refine XS.icmpNo X0.here hx rfl (hb hby d1_333) rfl (flt (by decide : ¬ ((26 : Int32) < (7 : Int32)))).1 ?_
  show Steps p.tables e below (T0.setTop (mkF m 336 #[.val (.int (26 : Int32)), .val (.int p2)] [])) _
  refine XS.iloadN X0.here hx rfl (hb hby d1_336) rfl ?_
  show Steps p.tables e below (T0.setTop (mkF m 337 #[.val (.int (26 : Int32)), .val (.int p2)] [(.int (26 : Int32))])) _
  refine XS.bipush X0.here hx rfl (hb hby d1_337) ?_
  show Steps p.tables e below (T0.setTop (mkF m 339 #[.val (.int (26 : Int32)), .val (.int p2)] [(.int (25 : Int32)), (.int (26 : Int32))])) _
  refine XS.icmpYes X0.here hx rfl (pc0 := 339) (pc' := 346) rfl (hb hby d1_339) rfl (tlt (by decide : (25 : Int32) < (26 : Int32))).2.2.1 (by decide) (by decide) ?_
  show Steps p.tables e below (T0.setTop (mkF m 346 #[.val (.int (26 : Int32)), .val (.int p2)] [])) _
  refine XS.iconst X0.here hx rfl (hb hby d1_346) ?_
  show Steps p.tables e below (T0.setTop (mkF m 347 #[.val (.int (26 : Int32)), .val (.int p2)] [(.int (0 : Int32))])) _
  exact retI X0 hx hret (hb hby d1_347) hr
set_option maxRecDepth 65536 in
set_option maxHeartbeats 40000000 in
theorem se_27 {p : Program} {l : Launch} {e : Env} {R : Room} {s : State} {m : MethodId} {args : Array Value} {below : List Frame} {meth : Method} {c : Code} {T0 : State} {locs : List Loc} {cells slots : Nat} (p2 : Int32)
    (X0 : Stand p l e R s m args below meth c T0 locs cells slots) (hx : p.tables.exec = Jvm.exec) (hby : c.code = prog_20_method_6_code) (hret : meth.sig.returnType = some .int) {fs : List Frame}
    (hr : ∀ (f : JFrame) (acts : List Action), f.method = m → f.locked = none → f.entered = [] → (doReturn e (T0.setTop f) acts (some (.int (0 : Int32)))).1 = T0.setFrames fs) :
    Steps p.tables e below (T0.setTop (mkF m 0 #[.val (.int (27 : Int32)), .val (.int p2)] [])) (T0.setFrames fs) := by
  show Steps p.tables e below (T0.setTop (mkF m 0 #[.val (.int (27 : Int32)), .val (.int p2)] [])) _
  refine XS.iloadN X0.here hx rfl (hb hby d1_0) rfl ?_
  show Steps p.tables e below (T0.setTop (mkF m 1 #[.val (.int (27 : Int32)), .val (.int p2)] [(.int (27 : Int32))])) _
  refine XS.tswIn X0.here hx rfl (pc0 := 1) (pc' := 330) rfl (hb hby d1_1) rfl (by decide) (o := 329) (by decide) (by decide) (by decide) ?_
  show Steps p.tables e below (T0.setTop (mkF m 330 #[.val (.int (27 : Int32)), .val (.int p2)] [])) _
  refine XS.iloadN X0.here hx rfl (hb hby d1_330) rfl ?_
  show Steps p.tables e below (T0.setTop (mkF m 331 #[.val (.int (27 : Int32)), .val (.int p2)] [(.int (27 : Int32))])) _
  refine XS.bipush X0.here hx rfl (hb hby d1_331) ?_
  show Steps p.tables e below (T0.setTop (mkF m 333 #[.val (.int (27 : Int32)), .val (.int p2)] [(.int (7 : Int32)), (.int (27 : Int32))])) _
  refine XS.icmpNo X0.here hx rfl (hb hby d1_333) rfl (flt (by decide : ¬ ((27 : Int32) < (7 : Int32)))).1 ?_
  show Steps p.tables e below (T0.setTop (mkF m 336 #[.val (.int (27 : Int32)), .val (.int p2)] [])) _
  refine XS.iloadN X0.here hx rfl (hb hby d1_336) rfl ?_
  show Steps p.tables e below (T0.setTop (mkF m 337 #[.val (.int (27 : Int32)), .val (.int p2)] [(.int (27 : Int32))])) _
  refine XS.bipush X0.here hx rfl (hb hby d1_337) ?_
  show Steps p.tables e below (T0.setTop (mkF m 339 #[.val (.int (27 : Int32)), .val (.int p2)] [(.int (25 : Int32)), (.int (27 : Int32))])) _
  refine XS.icmpYes X0.here hx rfl (pc0 := 339) (pc' := 346) rfl (hb hby d1_339) rfl (tlt (by decide : (25 : Int32) < (27 : Int32))).2.2.1 (by decide) (by decide) ?_
  show Steps p.tables e below (T0.setTop (mkF m 346 #[.val (.int (27 : Int32)), .val (.int p2)] [])) _
  refine XS.iconst X0.here hx rfl (hb hby d1_346) ?_
  show Steps p.tables e below (T0.setTop (mkF m 347 #[.val (.int (27 : Int32)), .val (.int p2)] [(.int (0 : Int32))])) _
  exact retI X0 hx hret (hb hby d1_347) hr
set_option maxRecDepth 65536 in
set_option maxHeartbeats 40000000 in
theorem se_28 {p : Program} {l : Launch} {e : Env} {R : Room} {s : State} {m : MethodId} {args : Array Value} {below : List Frame} {meth : Method} {c : Code} {T0 : State} {locs : List Loc} {cells slots : Nat} (p2 : Int32)
    (X0 : Stand p l e R s m args below meth c T0 locs cells slots) (hx : p.tables.exec = Jvm.exec) (hby : c.code = prog_20_method_6_code) (hret : meth.sig.returnType = some .int) {fs : List Frame}
    (hr : ∀ (f : JFrame) (acts : List Action), f.method = m → f.locked = none → f.entered = [] → (doReturn e (T0.setTop f) acts (some (.int (0 : Int32)))).1 = T0.setFrames fs) :
    Steps p.tables e below (T0.setTop (mkF m 0 #[.val (.int (28 : Int32)), .val (.int p2)] [])) (T0.setFrames fs) := by
  show Steps p.tables e below (T0.setTop (mkF m 0 #[.val (.int (28 : Int32)), .val (.int p2)] [])) _
  refine XS.iloadN X0.here hx rfl (hb hby d1_0) rfl ?_
  show Steps p.tables e below (T0.setTop (mkF m 1 #[.val (.int (28 : Int32)), .val (.int p2)] [(.int (28 : Int32))])) _
  refine XS.tswIn X0.here hx rfl (pc0 := 1) (pc' := 330) rfl (hb hby d1_1) rfl (by decide) (o := 329) (by decide) (by decide) (by decide) ?_
  show Steps p.tables e below (T0.setTop (mkF m 330 #[.val (.int (28 : Int32)), .val (.int p2)] [])) _
  refine XS.iloadN X0.here hx rfl (hb hby d1_330) rfl ?_
  show Steps p.tables e below (T0.setTop (mkF m 331 #[.val (.int (28 : Int32)), .val (.int p2)] [(.int (28 : Int32))])) _
  refine XS.bipush X0.here hx rfl (hb hby d1_331) ?_
  show Steps p.tables e below (T0.setTop (mkF m 333 #[.val (.int (28 : Int32)), .val (.int p2)] [(.int (7 : Int32)), (.int (28 : Int32))])) _
  refine XS.icmpNo X0.here hx rfl (hb hby d1_333) rfl (flt (by decide : ¬ ((28 : Int32) < (7 : Int32)))).1 ?_
  show Steps p.tables e below (T0.setTop (mkF m 336 #[.val (.int (28 : Int32)), .val (.int p2)] [])) _
  refine XS.iloadN X0.here hx rfl (hb hby d1_336) rfl ?_
  show Steps p.tables e below (T0.setTop (mkF m 337 #[.val (.int (28 : Int32)), .val (.int p2)] [(.int (28 : Int32))])) _
  refine XS.bipush X0.here hx rfl (hb hby d1_337) ?_
  show Steps p.tables e below (T0.setTop (mkF m 339 #[.val (.int (28 : Int32)), .val (.int p2)] [(.int (25 : Int32)), (.int (28 : Int32))])) _
  refine XS.icmpYes X0.here hx rfl (pc0 := 339) (pc' := 346) rfl (hb hby d1_339) rfl (tlt (by decide : (25 : Int32) < (28 : Int32))).2.2.1 (by decide) (by decide) ?_
  show Steps p.tables e below (T0.setTop (mkF m 346 #[.val (.int (28 : Int32)), .val (.int p2)] [])) _
  refine XS.iconst X0.here hx rfl (hb hby d1_346) ?_
  show Steps p.tables e below (T0.setTop (mkF m 347 #[.val (.int (28 : Int32)), .val (.int p2)] [(.int (0 : Int32))])) _
  exact retI X0 hx hret (hb hby d1_347) hr
set_option maxRecDepth 65536 in
set_option maxHeartbeats 40000000 in
theorem se_29 {p : Program} {l : Launch} {e : Env} {R : Room} {s : State} {m : MethodId} {args : Array Value} {below : List Frame} {meth : Method} {c : Code} {T0 : State} {locs : List Loc} {cells slots : Nat} (p2 : Int32)
    (X0 : Stand p l e R s m args below meth c T0 locs cells slots) (hx : p.tables.exec = Jvm.exec) (hby : c.code = prog_20_method_6_code) (hret : meth.sig.returnType = some .int) {fs : List Frame}
    (hr : ∀ (f : JFrame) (acts : List Action), f.method = m → f.locked = none → f.entered = [] → (doReturn e (T0.setTop f) acts (some (.int (0 : Int32)))).1 = T0.setFrames fs) :
    Steps p.tables e below (T0.setTop (mkF m 0 #[.val (.int (29 : Int32)), .val (.int p2)] [])) (T0.setFrames fs) := by
  show Steps p.tables e below (T0.setTop (mkF m 0 #[.val (.int (29 : Int32)), .val (.int p2)] [])) _
  refine XS.iloadN X0.here hx rfl (hb hby d1_0) rfl ?_
  show Steps p.tables e below (T0.setTop (mkF m 1 #[.val (.int (29 : Int32)), .val (.int p2)] [(.int (29 : Int32))])) _
  refine XS.tswIn X0.here hx rfl (pc0 := 1) (pc' := 330) rfl (hb hby d1_1) rfl (by decide) (o := 329) (by decide) (by decide) (by decide) ?_
  show Steps p.tables e below (T0.setTop (mkF m 330 #[.val (.int (29 : Int32)), .val (.int p2)] [])) _
  refine XS.iloadN X0.here hx rfl (hb hby d1_330) rfl ?_
  show Steps p.tables e below (T0.setTop (mkF m 331 #[.val (.int (29 : Int32)), .val (.int p2)] [(.int (29 : Int32))])) _
  refine XS.bipush X0.here hx rfl (hb hby d1_331) ?_
  show Steps p.tables e below (T0.setTop (mkF m 333 #[.val (.int (29 : Int32)), .val (.int p2)] [(.int (7 : Int32)), (.int (29 : Int32))])) _
  refine XS.icmpNo X0.here hx rfl (hb hby d1_333) rfl (flt (by decide : ¬ ((29 : Int32) < (7 : Int32)))).1 ?_
  show Steps p.tables e below (T0.setTop (mkF m 336 #[.val (.int (29 : Int32)), .val (.int p2)] [])) _
  refine XS.iloadN X0.here hx rfl (hb hby d1_336) rfl ?_
  show Steps p.tables e below (T0.setTop (mkF m 337 #[.val (.int (29 : Int32)), .val (.int p2)] [(.int (29 : Int32))])) _
  refine XS.bipush X0.here hx rfl (hb hby d1_337) ?_
  show Steps p.tables e below (T0.setTop (mkF m 339 #[.val (.int (29 : Int32)), .val (.int p2)] [(.int (25 : Int32)), (.int (29 : Int32))])) _
  refine XS.icmpYes X0.here hx rfl (pc0 := 339) (pc' := 346) rfl (hb hby d1_339) rfl (tlt (by decide : (25 : Int32) < (29 : Int32))).2.2.1 (by decide) (by decide) ?_
  show Steps p.tables e below (T0.setTop (mkF m 346 #[.val (.int (29 : Int32)), .val (.int p2)] [])) _
  refine XS.iconst X0.here hx rfl (hb hby d1_346) ?_
  show Steps p.tables e below (T0.setTop (mkF m 347 #[.val (.int (29 : Int32)), .val (.int p2)] [(.int (0 : Int32))])) _
  exact retI X0 hx hret (hb hby d1_347) hr
set_option maxRecDepth 65536 in
set_option maxHeartbeats 40000000 in
theorem se_30 {p : Program} {l : Launch} {e : Env} {R : Room} {s : State} {m : MethodId} {args : Array Value} {below : List Frame} {meth : Method} {c : Code} {T0 : State} {locs : List Loc} {cells slots : Nat} (p2 : Int32)
    (X0 : Stand p l e R s m args below meth c T0 locs cells slots) (hx : p.tables.exec = Jvm.exec) (hby : c.code = prog_20_method_6_code) (hret : meth.sig.returnType = some .int) {fs : List Frame}
    (hr : ∀ (f : JFrame) (acts : List Action), f.method = m → f.locked = none → f.entered = [] → (doReturn e (T0.setTop f) acts (some (.int (0 : Int32)))).1 = T0.setFrames fs) :
    Steps p.tables e below (T0.setTop (mkF m 0 #[.val (.int (30 : Int32)), .val (.int p2)] [])) (T0.setFrames fs) := by
  show Steps p.tables e below (T0.setTop (mkF m 0 #[.val (.int (30 : Int32)), .val (.int p2)] [])) _
  refine XS.iloadN X0.here hx rfl (hb hby d1_0) rfl ?_
  show Steps p.tables e below (T0.setTop (mkF m 1 #[.val (.int (30 : Int32)), .val (.int p2)] [(.int (30 : Int32))])) _
  refine XS.tswIn X0.here hx rfl (pc0 := 1) (pc' := 330) rfl (hb hby d1_1) rfl (by decide) (o := 329) (by decide) (by decide) (by decide) ?_
  show Steps p.tables e below (T0.setTop (mkF m 330 #[.val (.int (30 : Int32)), .val (.int p2)] [])) _
  refine XS.iloadN X0.here hx rfl (hb hby d1_330) rfl ?_
  show Steps p.tables e below (T0.setTop (mkF m 331 #[.val (.int (30 : Int32)), .val (.int p2)] [(.int (30 : Int32))])) _
  refine XS.bipush X0.here hx rfl (hb hby d1_331) ?_
  show Steps p.tables e below (T0.setTop (mkF m 333 #[.val (.int (30 : Int32)), .val (.int p2)] [(.int (7 : Int32)), (.int (30 : Int32))])) _
  refine XS.icmpNo X0.here hx rfl (hb hby d1_333) rfl (flt (by decide : ¬ ((30 : Int32) < (7 : Int32)))).1 ?_
  show Steps p.tables e below (T0.setTop (mkF m 336 #[.val (.int (30 : Int32)), .val (.int p2)] [])) _
  refine XS.iloadN X0.here hx rfl (hb hby d1_336) rfl ?_
  show Steps p.tables e below (T0.setTop (mkF m 337 #[.val (.int (30 : Int32)), .val (.int p2)] [(.int (30 : Int32))])) _
  refine XS.bipush X0.here hx rfl (hb hby d1_337) ?_
  show Steps p.tables e below (T0.setTop (mkF m 339 #[.val (.int (30 : Int32)), .val (.int p2)] [(.int (25 : Int32)), (.int (30 : Int32))])) _
  refine XS.icmpYes X0.here hx rfl (pc0 := 339) (pc' := 346) rfl (hb hby d1_339) rfl (tlt (by decide : (25 : Int32) < (30 : Int32))).2.2.1 (by decide) (by decide) ?_
  show Steps p.tables e below (T0.setTop (mkF m 346 #[.val (.int (30 : Int32)), .val (.int p2)] [])) _
  refine XS.iconst X0.here hx rfl (hb hby d1_346) ?_
  show Steps p.tables e below (T0.setTop (mkF m 347 #[.val (.int (30 : Int32)), .val (.int p2)] [(.int (0 : Int32))])) _
  exact retI X0 hx hret (hb hby d1_347) hr
set_option maxRecDepth 65536 in
set_option maxHeartbeats 40000000 in
theorem se_31 {p : Program} {l : Launch} {e : Env} {R : Room} {s : State} {m : MethodId} {args : Array Value} {below : List Frame} {meth : Method} {c : Code} {T0 : State} {locs : List Loc} {cells slots : Nat} (p2 : Int32)
    (X0 : Stand p l e R s m args below meth c T0 locs cells slots) (hx : p.tables.exec = Jvm.exec) (hby : c.code = prog_20_method_6_code) (hret : meth.sig.returnType = some .int) {fs : List Frame}
    (hr : ∀ (f : JFrame) (acts : List Action), f.method = m → f.locked = none → f.entered = [] → (doReturn e (T0.setTop f) acts (some (.int (0 : Int32)))).1 = T0.setFrames fs) :
    Steps p.tables e below (T0.setTop (mkF m 0 #[.val (.int (31 : Int32)), .val (.int p2)] [])) (T0.setFrames fs) := by
  show Steps p.tables e below (T0.setTop (mkF m 0 #[.val (.int (31 : Int32)), .val (.int p2)] [])) _
  refine XS.iloadN X0.here hx rfl (hb hby d1_0) rfl ?_
  show Steps p.tables e below (T0.setTop (mkF m 1 #[.val (.int (31 : Int32)), .val (.int p2)] [(.int (31 : Int32))])) _
  refine XS.tswIn X0.here hx rfl (pc0 := 1) (pc' := 330) rfl (hb hby d1_1) rfl (by decide) (o := 329) (by decide) (by decide) (by decide) ?_
  show Steps p.tables e below (T0.setTop (mkF m 330 #[.val (.int (31 : Int32)), .val (.int p2)] [])) _
  refine XS.iloadN X0.here hx rfl (hb hby d1_330) rfl ?_
  show Steps p.tables e below (T0.setTop (mkF m 331 #[.val (.int (31 : Int32)), .val (.int p2)] [(.int (31 : Int32))])) _
  refine XS.bipush X0.here hx rfl (hb hby d1_331) ?_
  show Steps p.tables e below (T0.setTop (mkF m 333 #[.val (.int (31 : Int32)), .val (.int p2)] [(.int (7 : Int32)), (.int (31 : Int32))])) _
  refine XS.icmpNo X0.here hx rfl (hb hby d1_333) rfl (flt (by decide : ¬ ((31 : Int32) < (7 : Int32)))).1 ?_
  show Steps p.tables e below (T0.setTop (mkF m 336 #[.val (.int (31 : Int32)), .val (.int p2)] [])) _
  refine XS.iloadN X0.here hx rfl (hb hby d1_336) rfl ?_
  show Steps p.tables e below (T0.setTop (mkF m 337 #[.val (.int (31 : Int32)), .val (.int p2)] [(.int (31 : Int32))])) _
  refine XS.bipush X0.here hx rfl (hb hby d1_337) ?_
  show Steps p.tables e below (T0.setTop (mkF m 339 #[.val (.int (31 : Int32)), .val (.int p2)] [(.int (25 : Int32)), (.int (31 : Int32))])) _
  refine XS.icmpYes X0.here hx rfl (pc0 := 339) (pc' := 346) rfl (hb hby d1_339) rfl (tlt (by decide : (25 : Int32) < (31 : Int32))).2.2.1 (by decide) (by decide) ?_
  show Steps p.tables e below (T0.setTop (mkF m 346 #[.val (.int (31 : Int32)), .val (.int p2)] [])) _
  refine XS.iconst X0.here hx rfl (hb hby d1_346) ?_
  show Steps p.tables e below (T0.setTop (mkF m 347 #[.val (.int (31 : Int32)), .val (.int p2)] [(.int (0 : Int32))])) _
  exact retI X0 hx hret (hb hby d1_347) hr
set_option maxRecDepth 65536 in
set_option maxHeartbeats 40000000 in
theorem se_32 {p : Program} {l : Launch} {e : Env} {R : Room} {s : State} {m : MethodId} {args : Array Value} {below : List Frame} {meth : Method} {c : Code} {T0 : State} {locs : List Loc} {cells slots : Nat} (p2 : Int32)
    (X0 : Stand p l e R s m args below meth c T0 locs cells slots) (hx : p.tables.exec = Jvm.exec) (hby : c.code = prog_20_method_6_code) (hret : meth.sig.returnType = some .int) {fs : List Frame}
    (hr : ∀ (f : JFrame) (acts : List Action), f.method = m → f.locked = none → f.entered = [] → (doReturn e (T0.setTop f) acts (some (.int (0 : Int32)))).1 = T0.setFrames fs) :
    Steps p.tables e below (T0.setTop (mkF m 0 #[.val (.int (32 : Int32)), .val (.int p2)] [])) (T0.setFrames fs) := by
  show Steps p.tables e below (T0.setTop (mkF m 0 #[.val (.int (32 : Int32)), .val (.int p2)] [])) _
  refine XS.iloadN X0.here hx rfl (hb hby d1_0) rfl ?_
  show Steps p.tables e below (T0.setTop (mkF m 1 #[.val (.int (32 : Int32)), .val (.int p2)] [(.int (32 : Int32))])) _
  refine XS.tswIn X0.here hx rfl (pc0 := 1) (pc' := 330) rfl (hb hby d1_1) rfl (by decide) (o := 329) (by decide) (by decide) (by decide) ?_
  show Steps p.tables e below (T0.setTop (mkF m 330 #[.val (.int (32 : Int32)), .val (.int p2)] [])) _
  refine XS.iloadN X0.here hx rfl (hb hby d1_330) rfl ?_
  show Steps p.tables e below (T0.setTop (mkF m 331 #[.val (.int (32 : Int32)), .val (.int p2)] [(.int (32 : Int32))])) _
  refine XS.bipush X0.here hx rfl (hb hby d1_331) ?_
  show Steps p.tables e below (T0.setTop (mkF m 333 #[.val (.int (32 : Int32)), .val (.int p2)] [(.int (7 : Int32)), (.int (32 : Int32))])) _
  refine XS.icmpNo X0.here hx rfl (hb hby d1_333) rfl (flt (by decide : ¬ ((32 : Int32) < (7 : Int32)))).1 ?_
  show Steps p.tables e below (T0.setTop (mkF m 336 #[.val (.int (32 : Int32)), .val (.int p2)] [])) _
  refine XS.iloadN X0.here hx rfl (hb hby d1_336) rfl ?_
  show Steps p.tables e below (T0.setTop (mkF m 337 #[.val (.int (32 : Int32)), .val (.int p2)] [(.int (32 : Int32))])) _
  refine XS.bipush X0.here hx rfl (hb hby d1_337) ?_
  show Steps p.tables e below (T0.setTop (mkF m 339 #[.val (.int (32 : Int32)), .val (.int p2)] [(.int (25 : Int32)), (.int (32 : Int32))])) _
  refine XS.icmpYes X0.here hx rfl (pc0 := 339) (pc' := 346) rfl (hb hby d1_339) rfl (tlt (by decide : (25 : Int32) < (32 : Int32))).2.2.1 (by decide) (by decide) ?_
  show Steps p.tables e below (T0.setTop (mkF m 346 #[.val (.int (32 : Int32)), .val (.int p2)] [])) _
  refine XS.iconst X0.here hx rfl (hb hby d1_346) ?_
  show Steps p.tables e below (T0.setTop (mkF m 347 #[.val (.int (32 : Int32)), .val (.int p2)] [(.int (0 : Int32))])) _
  exact retI X0 hx hret (hb hby d1_347) hr
set_option maxRecDepth 65536 in
set_option maxHeartbeats 40000000 in
theorem se_33 {p : Program} {l : Launch} {e : Env} {R : Room} {s : State} {m : MethodId} {args : Array Value} {below : List Frame} {meth : Method} {c : Code} {T0 : State} {locs : List Loc} {cells slots : Nat} (p2 : Int32)
    (X0 : Stand p l e R s m args below meth c T0 locs cells slots) (hx : p.tables.exec = Jvm.exec) (hby : c.code = prog_20_method_6_code) (hret : meth.sig.returnType = some .int) {fs : List Frame}
    (hr : ∀ (f : JFrame) (acts : List Action), f.method = m → f.locked = none → f.entered = [] → (doReturn e (T0.setTop f) acts (some (.int (0 : Int32)))).1 = T0.setFrames fs) :
    Steps p.tables e below (T0.setTop (mkF m 0 #[.val (.int (33 : Int32)), .val (.int p2)] [])) (T0.setFrames fs) := by
  show Steps p.tables e below (T0.setTop (mkF m 0 #[.val (.int (33 : Int32)), .val (.int p2)] [])) _
  refine XS.iloadN X0.here hx rfl (hb hby d1_0) rfl ?_
  show Steps p.tables e below (T0.setTop (mkF m 1 #[.val (.int (33 : Int32)), .val (.int p2)] [(.int (33 : Int32))])) _
  refine XS.tswIn X0.here hx rfl (pc0 := 1) (pc' := 330) rfl (hb hby d1_1) rfl (by decide) (o := 329) (by decide) (by decide) (by decide) ?_
  show Steps p.tables e below (T0.setTop (mkF m 330 #[.val (.int (33 : Int32)), .val (.int p2)] [])) _
  refine XS.iloadN X0.here hx rfl (hb hby d1_330) rfl ?_
  show Steps p.tables e below (T0.setTop (mkF m 331 #[.val (.int (33 : Int32)), .val (.int p2)] [(.int (33 : Int32))])) _
  refine XS.bipush X0.here hx rfl (hb hby d1_331) ?_
  show Steps p.tables e below (T0.setTop (mkF m 333 #[.val (.int (33 : Int32)), .val (.int p2)] [(.int (7 : Int32)), (.int (33 : Int32))])) _
  refine XS.icmpNo X0.here hx rfl (hb hby d1_333) rfl (flt (by decide : ¬ ((33 : Int32) < (7 : Int32)))).1 ?_
  show Steps p.tables e below (T0.setTop (mkF m 336 #[.val (.int (33 : Int32)), .val (.int p2)] [])) _
  refine XS.iloadN X0.here hx rfl (hb hby d1_336) rfl ?_
  show Steps p.tables e below (T0.setTop (mkF m 337 #[.val (.int (33 : Int32)), .val (.int p2)] [(.int (33 : Int32))])) _
  refine XS.bipush X0.here hx rfl (hb hby d1_337) ?_
  show Steps p.tables e below (T0.setTop (mkF m 339 #[.val (.int (33 : Int32)), .val (.int p2)] [(.int (25 : Int32)), (.int (33 : Int32))])) _
  refine XS.icmpYes X0.here hx rfl (pc0 := 339) (pc' := 346) rfl (hb hby d1_339) rfl (tlt (by decide : (25 : Int32) < (33 : Int32))).2.2.1 (by decide) (by decide) ?_
  show Steps p.tables e below (T0.setTop (mkF m 346 #[.val (.int (33 : Int32)), .val (.int p2)] [])) _
  refine XS.iconst X0.here hx rfl (hb hby d1_346) ?_
  show Steps p.tables e below (T0.setTop (mkF m 347 #[.val (.int (33 : Int32)), .val (.int p2)] [(.int (0 : Int32))])) _
  exact retI X0 hx hret (hb hby d1_347) hr
set_option maxRecDepth 65536 in
set_option maxHeartbeats 40000000 in
theorem se_34 {p : Program} {l : Launch} {e : Env} {R : Room} {s : State} {m : MethodId} {args : Array Value} {below : List Frame} {meth : Method} {c : Code} {T0 : State} {locs : List Loc} {cells slots : Nat} (p2 : Int32)
    (X0 : Stand p l e R s m args below meth c T0 locs cells slots) (hx : p.tables.exec = Jvm.exec) (hby : c.code = prog_20_method_6_code) (hret : meth.sig.returnType = some .int) {fs : List Frame}
    (hr : ∀ (f : JFrame) (acts : List Action), f.method = m → f.locked = none → f.entered = [] → (doReturn e (T0.setTop f) acts (some (.int (-1 : Int32)))).1 = T0.setFrames fs) :
    Steps p.tables e below (T0.setTop (mkF m 0 #[.val (.int (34 : Int32)), .val (.int p2)] [])) (T0.setFrames fs) := by
  show Steps p.tables e below (T0.setTop (mkF m 0 #[.val (.int (34 : Int32)), .val (.int p2)] [])) _
  refine XS.iloadN X0.here hx rfl (hb hby d1_0) rfl ?_
  show Steps p.tables e below (T0.setTop (mkF m 1 #[.val (.int (34 : Int32)), .val (.int p2)] [(.int (34 : Int32))])) _
  refine XS.tswIn X0.here hx rfl (pc0 := 1) (pc' := 316) rfl (hb hby d1_1) rfl (by decide) (o := 315) (by decide) (by decide) (by decide) ?_
  show Steps p.tables e below (T0.setTop (mkF m 316 #[.val (.int (34 : Int32)), .val (.int p2)] [])) _
  refine XS.iconst X0.here hx rfl (hb hby d1_316) ?_
  show Steps p.tables e below (T0.setTop (mkF m 317 #[.val (.int (34 : Int32)), .val (.int p2)] [(.int (-1 : Int32))])) _
  exact retI X0 hx hret (hb hby d1_317) hr
set_option maxRecDepth 65536 in
set_option maxHeartbeats 40000000 in
theorem se_35 {p : Program} {l : Launch} {e : Env} {R : Room} {s : State} {m : MethodId} {args : Array Value} {below : List Frame} {meth : Method} {c : Code} {T0 : State} {locs : List Loc} {cells slots : Nat} (p2 : Int32)
    (X0 : Stand p l e R s m args below meth c T0 locs cells slots) (hx : p.tables.exec = Jvm.exec) (hby : c.code = prog_20_method_6_code) (hret : meth.sig.returnType = some .int) {fs : List Frame}
    (hr : ∀ (f : JFrame) (acts : List Action), f.method = m → f.locked = none → f.entered = [] → (doReturn e (T0.setTop f) acts (some (.int (-1 : Int32)))).1 = T0.setFrames fs) :
    Steps p.tables e below (T0.setTop (mkF m 0 #[.val (.int (35 : Int32)), .val (.int p2)] [])) (T0.setFrames fs) := by
  show Steps p.tables e below (T0.setTop (mkF m 0 #[.val (.int (35 : Int32)), .val (.int p2)] [])) _
  refine XS.iloadN X0.here hx rfl (hb hby d1_0) rfl ?_
  show Steps p.tables e below (T0.setTop (mkF m 1 #[.val (.int (35 : Int32)), .val (.int p2)] [(.int (35 : Int32))])) _
  refine XS.tswIn X0.here hx rfl (pc0 := 1) (pc' := 316) rfl (hb hby d1_1) rfl (by decide) (o := 315) (by decide) (by decide) (by decide) ?_
  show Steps p.tables e below (T0.setTop (mkF m 316 #[.val (.int (35 : Int32)), .val (.int p2)] [])) _
  refine XS.iconst X0.here hx rfl (hb hby d1_316) ?_
  show Steps p.tables e below (T0.setTop (mkF m 317 #[.val (.int (35 : Int32)), .val (.int p2)] [(.int (-1 : Int32))])) _
  exact retI X0 hx hret (hb hby d1_317) hr
set_option maxRecDepth 65536 in
set_option maxHeartbeats 40000000 in
theorem se_36 {p : Program} {l : Launch} {e : Env} {R : Room} {s : State} {m : MethodId} {args : Array Value} {below : List Frame} {meth : Method} {c : Code} {T0 : State} {locs : List Loc} {cells slots : Nat} (p2 : Int32)
    (X0 : Stand p l e R s m args below meth c T0 locs cells slots) (hx : p.tables.exec = Jvm.exec) (hby : c.code = prog_20_method_6_code) (hret : meth.sig.returnType = some .int) {fs : List Frame}
    (hr : ∀ (f : JFrame) (acts : List Action), f.method = m → f.locked = none → f.entered = [] → (doReturn e (T0.setTop f) acts (some (.int (-1 : Int32)))).1 = T0.setFrames fs) :
    Steps p.tables e below (T0.setTop (mkF m 0 #[.val (.int (36 : Int32)), .val (.int p2)] [])) (T0.setFrames fs) := by
  show Steps p.tables e below (T0.setTop (mkF m 0 #[.val (.int (36 : Int32)), .val (.int p2)] [])) _
  refine XS.iloadN X0.here hx rfl (hb hby d1_0) rfl ?_
  show Steps p.tables e below (T0.setTop (mkF m 1 #[.val (.int (36 : Int32)), .val (.int p2)] [(.int (36 : Int32))])) _
  refine XS.tswIn X0.here hx rfl (pc0 := 1) (pc' := 316) rfl (hb hby d1_1) rfl (by decide) (o := 315) (by decide) (by decide) (by decide) ?_
  show Steps p.tables e below (T0.setTop (mkF m 316 #[.val (.int (36 : Int32)), .val (.int p2)] [])) _
  refine XS.iconst X0.here hx rfl (hb hby d1_316) ?_
  show Steps p.tables e below (T0.setTop (mkF m 317 #[.val (.int (36 : Int32)), .val (.int p2)] [(.int (-1 : Int32))])) _
  exact retI X0 hx hret (hb hby d1_317) hr
set_option maxRecDepth 65536 in
set_option maxHeartbeats 40000000 in
theorem se_37 {p : Program} {l : Launch} {e : Env} {R : Room} {s : State} {m : MethodId} {args : Array Value} {below : List Frame} {meth : Method} {c : Code} {T0 : State} {locs : List Loc} {cells slots : Nat} (p2 : Int32)
    (X0 : Stand p l e R s m args below meth c T0 locs cells slots) (hx : p.tables.exec = Jvm.exec) (hby : c.code = prog_20_method_6_code) (hret : meth.sig.returnType = some .int) {fs : List Frame}
    (hr : ∀ (f : JFrame) (acts : List Action), f.method = m → f.locked = none → f.entered = [] → (doReturn e (T0.setTop f) acts (some (.int (-1 : Int32)))).1 = T0.setFrames fs) :
    Steps p.tables e below (T0.setTop (mkF m 0 #[.val (.int (37 : Int32)), .val (.int p2)] [])) (T0.setFrames fs) := by
  show Steps p.tables e below (T0.setTop (mkF m 0 #[.val (.int (37 : Int32)), .val (.int p2)] [])) _
  refine XS.iloadN X0.here hx rfl (hb hby d1_0) rfl ?_
  show Steps p.tables e below (T0.setTop (mkF m 1 #[.val (.int (37 : Int32)), .val (.int p2)] [(.int (37 : Int32))])) _
  refine XS.tswIn X0.here hx rfl (pc0 := 1) (pc' := 316) rfl (hb hby d1_1) rfl (by decide) (o := 315) (by decide) (by decide) (by decide) ?_
  show Steps p.tables e below (T0.setTop (mkF m 316 #[.val (.int (37 : Int32)), .val (.int p2)] [])) _
  refine XS.iconst X0.here hx rfl (hb hby d1_316) ?_
  show Steps p.tables e below (T0.setTop (mkF m 317 #[.val (.int (37 : Int32)), .val (.int p2)] [(.int (-1 : Int32))])) _
  exact retI X0 hx hret (hb hby d1_317) hr
set_option maxRecDepth 65536 in
set_option maxHeartbeats 40000000 in
theorem se_38 {p : Program} {l : Launch} {e : Env} {R : Room} {s : State} {m : MethodId} {args : Array Value} {below : List Frame} {meth : Method} {c : Code} {T0 : State} {locs : List Loc} {cells slots : Nat} (p2 : Int32)
    (X0 : Stand p l e R s m args below meth c T0 locs cells slots) (hx : p.tables.exec = Jvm.exec) (hby : c.code = prog_20_method_6_code) (hret : meth.sig.returnType = some .int) {fs : List Frame}
    (hr : ∀ (f : JFrame) (acts : List Action), f.method = m → f.locked = none → f.entered = [] → (doReturn e (T0.setTop f) acts (some (.int ((-p2) - (1 : Int32))))).1 = T0.setFrames fs) :
    Steps p.tables e below (T0.setTop (mkF m 0 #[.val (.int (38 : Int32)), .val (.int p2)] [])) (T0.setFrames fs) := by
  show Steps p.tables e below (T0.setTop (mkF m 0 #[.val (.int (38 : Int32)), .val (.int p2)] [])) _
  refine XS.iloadN X0.here hx rfl (hb hby d1_0) rfl ?_
  show Steps p.tables e below (T0.setTop (mkF m 1 #[.val (.int (38 : Int32)), .val (.int p2)] [(.int (38 : Int32))])) _
  refine XS.tswIn X0.here hx rfl (pc0 := 1) (pc' := 321) rfl (hb hby d1_1) rfl (by decide) (o := 320) (by decide) (by decide) (by decide) ?_
  show Steps p.tables e below (T0.setTop (mkF m 321 #[.val (.int (38 : Int32)), .val (.int p2)] [])) _
  refine XS.iloadN X0.here hx rfl (hb hby d1_321) rfl ?_
  show Steps p.tables e below (T0.setTop (mkF m 322 #[.val (.int (38 : Int32)), .val (.int p2)] [(.int p2)])) _
  refine XS.ineg X0.here hx rfl (hb hby d1_322) rfl ?_
  show Steps p.tables e below (T0.setTop (mkF m 323 #[.val (.int (38 : Int32)), .val (.int p2)] [(.int (-p2))])) _
  refine XS.iconst X0.here hx rfl (hb hby d1_323) ?_
  show Steps p.tables e below (T0.setTop (mkF m 324 #[.val (.int (38 : Int32)), .val (.int p2)] [(.int (1 : Int32)), (.int (-p2))])) _
  refine XS.isub X0.here hx rfl (hb hby d1_324) rfl ?_
  show Steps p.tables e below (T0.setTop (mkF m 325 #[.val (.int (38 : Int32)), .val (.int p2)] [(.int ((-p2) - (1 : Int32)))])) _
  exact retI X0 hx hret (hb hby d1_325) hr
set_option maxRecDepth 65536 in
set_option maxHeartbeats 40000000 in
theorem se_39 {p : Program} {l : Launch} {e : Env} {R : Room} {s : State} {m : MethodId} {args : Array Value} {below : List Frame} {meth : Method} {c : Code} {T0 : State} {locs : List Loc} {cells slots : Nat} (p2 : Int32)
    (X0 : Stand p l e R s m args below meth c T0 locs cells slots) (hx : p.tables.exec = Jvm.exec) (hby : c.code = prog_20_method_6_code) (hret : meth.sig.returnType = some .int) {fs : List Frame}
    (hr : ∀ (f : JFrame) (acts : List Action), f.method = m → f.locked = none → f.entered = [] → (doReturn e (T0.setTop f) acts (some (.int (-1 : Int32)))).1 = T0.setFrames fs) :
    Steps p.tables e below (T0.setTop (mkF m 0 #[.val (.int (39 : Int32)), .val (.int p2)] [])) (T0.setFrames fs) := by
  show Steps p.tables e below (T0.setTop (mkF m 0 #[.val (.int (39 : Int32)), .val (.int p2)] [])) _
  refine XS.iloadN X0.here hx rfl (hb hby d1_0) rfl ?_
  show Steps p.tables e below (T0.setTop (mkF m 1 #[.val (.int (39 : Int32)), .val (.int p2)] [(.int (39 : Int32))])) _
  refine XS.tswIn X0.here hx rfl (pc0 := 1) (pc' := 316) rfl (hb hby d1_1) rfl (by decide) (o := 315) (by decide) (by decide) (by decide) ?_
  show Steps p.tables e below (T0.setTop (mkF m 316 #[.val (.int (39 : Int32)), .val (.int p2)] [])) _
  refine XS.iconst X0.here hx rfl (hb hby d1_316) ?_
  show Steps p.tables e below (T0.setTop (mkF m 317 #[.val (.int (39 : Int32)), .val (.int p2)] [(.int (-1 : Int32))])) _
  exact retI X0 hx hret (hb hby d1_317) hr
set_option maxRecDepth 65536 in
set_option maxHeartbeats 40000000 in
theorem se_40 {p : Program} {l : Launch} {e : Env} {R : Room} {s : State} {m : MethodId} {args : Array Value} {below : List Frame} {meth : Method} {c : Code} {T0 : State} {locs : List Loc} {cells slots : Nat} (p2 : Int32)
    (X0 : Stand p l e R s m args below meth c T0 locs cells slots) (hx : p.tables.exec = Jvm.exec) (hby : c.code = prog_20_method_6_code) (hret : meth.sig.returnType = some .int) {fs : List Frame}
    (hr : ∀ (f : JFrame) (acts : List Action), f.method = m → f.locked = none → f.entered = [] → (doReturn e (T0.setTop f) acts (some (.int (-1 : Int32)))).1 = T0.setFrames fs) :
    Steps p.tables e below (T0.setTop (mkF m 0 #[.val (.int (40 : Int32)), .val (.int p2)] [])) (T0.setFrames fs) := by
  show Steps p.tables e below (T0.setTop (mkF m 0 #[.val (.int (40 : Int32)), .val (.int p2)] [])) _
  refine XS.iloadN X0.here hx rfl (hb hby d1_0) rfl ?_
  show Steps p.tables e below (T0.setTop (mkF m 1 #[.val (.int (40 : Int32)), .val (.int p2)] [(.int (40 : Int32))])) _
  refine XS.tswIn X0.here hx rfl (pc0 := 1) (pc' := 316) rfl (hb hby d1_1) rfl (by decide) (o := 315) (by decide) (by decide) (by decide) ?_
  show Steps p.tables e below (T0.setTop (mkF m 316 #[.val (.int (40 : Int32)), .val (.int p2)] [])) _
  refine XS.iconst X0.here hx rfl (hb hby d1_316) ?_
  show Steps p.tables e below (T0.setTop (mkF m 317 #[.val (.int (40 : Int32)), .val (.int p2)] [(.int (-1 : Int32))])) _
  exact retI X0 hx hret (hb hby d1_317) hr
set_option maxRecDepth 65536 in
set_option maxHeartbeats 40000000 in
theorem se_41 {p : Program} {l : Launch} {e : Env} {R : Room} {s : State} {m : MethodId} {args : Array Value} {below : List Frame} {meth : Method} {c : Code} {T0 : State} {locs : List Loc} {cells slots : Nat} (p2 : Int32)
    (X0 : Stand p l e R s m args below meth c T0 locs cells slots) (hx : p.tables.exec = Jvm.exec) (hby : c.code = prog_20_method_6_code) (hret : meth.sig.returnType = some .int) {fs : List Frame}
    (hr : ∀ (f : JFrame) (acts : List Action), f.method = m → f.locked = none → f.entered = [] → (doReturn e (T0.setTop f) acts (some (.int (1 : Int32)))).1 = T0.setFrames fs) :
    Steps p.tables e below (T0.setTop (mkF m 0 #[.val (.int (41 : Int32)), .val (.int p2)] [])) (T0.setFrames fs) := by
  show Steps p.tables e below (T0.setTop (mkF m 0 #[.val (.int (41 : Int32)), .val (.int p2)] [])) _
  refine XS.iloadN X0.here hx rfl (hb hby d1_0) rfl ?_
  show Steps p.tables e below (T0.setTop (mkF m 1 #[.val (.int (41 : Int32)), .val (.int p2)] [(.int (41 : Int32))])) _
  refine XS.tswIn X0.here hx rfl (pc0 := 1) (pc' := 312) rfl (hb hby d1_1) rfl (by decide) (o := 311) (by decide) (by decide) (by decide) ?_
  show Steps p.tables e below (T0.setTop (mkF m 312 #[.val (.int (41 : Int32)), .val (.int p2)] [])) _
  refine XS.iconst X0.here hx rfl (hb hby d1_312) ?_
  show Steps p.tables e below (T0.setTop (mkF m 313 #[.val (.int (41 : Int32)), .val (.int p2)] [(.int (1 : Int32))])) _
  exact retI X0 hx hret (hb hby d1_313) hr
set_option maxRecDepth 65536 in
set_option maxHeartbeats 40000000 in
theorem se_42 {p : Program} {l : Launch} {e : Env} {R : Room} {s : State} {m : MethodId} {args : Array Value} {below : List Frame} {meth : Method} {c : Code} {T0 : State} {locs : List Loc} {cells slots : Nat} (p2 : Int32)
    (X0 : Stand p l e R s m args below meth c T0 locs cells slots) (hx : p.tables.exec = Jvm.exec) (hby : c.code = prog_20_method_6_code) (hret : meth.sig.returnType = some .int) {fs : List Frame}
    (hr : ∀ (f : JFrame) (acts : List Action), f.method = m → f.locked = none → f.entered = [] → (doReturn e (T0.setTop f) acts (some (.int (0 : Int32)))).1 = T0.setFrames fs) :
    Steps p.tables e below (T0.setTop (mkF m 0 #[.val (.int (42 : Int32)), .val (.int p2)] [])) (T0.setFrames fs) := by
  show Steps p.tables e below (T0.setTop (mkF m 0 #[.val (.int (42 : Int32)), .val (.int p2)] [])) _
  refine XS.iloadN X0.here hx rfl (hb hby d1_0) rfl ?_
  show Steps p.tables e below (T0.setTop (mkF m 1 #[.val (.int (42 : Int32)), .val (.int p2)] [(.int (42 : Int32))])) _
  refine XS.tswIn X0.here hx rfl (pc0 := 1) (pc' := 330) rfl (hb hby d1_1) rfl (by decide) (o := 329) (by decide) (by decide) (by decide) ?_
  show Steps p.tables e below (T0.setTop (mkF m 330 #[.val (.int (42 : Int32)), .val (.int p2)] [])) _
  refine XS.iloadN X0.here hx rfl (hb hby d1_330) rfl ?_
  show Steps p.tables e below (T0.setTop (mkF m 331 #[.val (.int (42 : Int32)), .val (.int p2)] [(.int (42 : Int32))])) _
  refine XS.bipush X0.here hx rfl (hb hby d1_331) ?_
  show Steps p.tables e below (T0.setTop (mkF m 333 #[.val (.int (42 : Int32)), .val (.int p2)] [(.int (7 : Int32)), (.int (42 : Int32))])) _
  refine XS.icmpNo X0.here hx rfl (hb hby d1_333) rfl (flt (by decide : ¬ ((42 : Int32) < (7 : Int32)))).1 ?_
  show Steps p.tables e below (T0.setTop (mkF m 336 #[.val (.int (42 : Int32)), .val (.int p2)] [])) _
  refine XS.iloadN X0.here hx rfl (hb hby d1_336) rfl ?_
  show Steps p.tables e below (T0.setTop (mkF m 337 #[.val (.int (42 : Int32)), .val (.int p2)] [(.int (42 : Int32))])) _
  refine XS.bipush X0.here hx rfl (hb hby d1_337) ?_
  show Steps p.tables e below (T0.setTop (mkF m 339 #[.val (.int (42 : Int32)), .val (.int p2)] [(.int (25 : Int32)), (.int (42 : Int32))])) _
  refine XS.icmpYes X0.here hx rfl (pc0 := 339) (pc' := 346) rfl (hb hby d1_339) rfl (tlt (by decide : (25 : Int32) < (42 : Int32))).2.2.1 (by decide) (by decide) ?_
  show Steps p.tables e below (T0.setTop (mkF m 346 #[.val (.int (42 : Int32)), .val (.int p2)] [])) _
  refine XS.iconst X0.here hx rfl (hb hby d1_346) ?_
  show Steps p.tables e below (T0.setTop (mkF m 347 #[.val (.int (42 : Int32)), .val (.int p2)] [(.int (0 : Int32))])) _
  exact retI X0 hx hret (hb hby d1_347) hr
set_option maxRecDepth 65536 in
set_option maxHeartbeats 40000000 in
theorem se_43 {p : Program} {l : Launch} {e : Env} {R : Room} {s : State} {m : MethodId} {args : Array Value} {below : List Frame} {meth : Method} {c : Code} {T0 : State} {locs : List Loc} {cells slots : Nat} (p2 : Int32)
    (X0 : Stand p l e R s m args below meth c T0 locs cells slots) (hx : p.tables.exec = Jvm.exec) (hby : c.code = prog_20_method_6_code) (hret : meth.sig.returnType = some .int) {fs : List Frame}
    (hr : ∀ (f : JFrame) (acts : List Action), f.method = m → f.locked = none → f.entered = [] → (doReturn e (T0.setTop f) acts (some (.int (1 : Int32)))).1 = T0.setFrames fs) :
    Steps p.tables e below (T0.setTop (mkF m 0 #[.val (.int (43 : Int32)), .val (.int p2)] [])) (T0.setFrames fs) := by
  show Steps p.tables e below (T0.setTop (mkF m 0 #[.val (.int (43 : Int32)), .val (.int p2)] [])) _
  refine XS.iloadN X0.here hx rfl (hb hby d1_0) rfl ?_
  show Steps p.tables e below (T0.setTop (mkF m 1 #[.val (.int (43 : Int32)), .val (.int p2)] [(.int (43 : Int32))])) _
  refine XS.tswIn X0.here hx rfl (pc0 := 1) (pc' := 312) rfl (hb hby d1_1) rfl (by decide) (o := 311) (by decide) (by decide) (by decide) ?_
  show Steps p.tables e below (T0.setTop (mkF m 312 #[.val (.int (43 : Int32)), .val (.int p2)] [])) _
  refine XS.iconst X0.here hx rfl (hb hby d1_312) ?_
  show Steps p.tables e below (T0.setTop (mkF m 313 #[.val (.int (43 : Int32)), .val (.int p2)] [(.int (1 : Int32))])) _
  exact retI X0 hx hret (hb hby d1_313) hr
set_option maxRecDepth 65536 in
set_option maxHeartbeats 40000000 in
theorem se_44 {p : Program} {l : Launch} {e : Env} {R : Room} {s : State} {m : MethodId} {args : Array Value} {below : List Frame} {meth : Method} {c : Code} {T0 : State} {locs : List Loc} {cells slots : Nat} (p2 : Int32)
    (X0 : Stand p l e R s m args below meth c T0 locs cells slots) (hx : p.tables.exec = Jvm.exec) (hby : c.code = prog_20_method_6_code) (hret : meth.sig.returnType = some .int) {fs : List Frame}
    (hr : ∀ (f : JFrame) (acts : List Action), f.method = m → f.locked = none → f.entered = [] → (doReturn e (T0.setTop f) acts (some (.int (0 : Int32)))).1 = T0.setFrames fs) :
    Steps p.tables e below (T0.setTop (mkF m 0 #[.val (.int (44 : Int32)), .val (.int p2)] [])) (T0.setFrames fs) := by
  show Steps p.tables e below (T0.setTop (mkF m 0 #[.val (.int (44 : Int32)), .val (.int p2)] [])) _
  refine XS.iloadN X0.here hx rfl (hb hby d1_0) rfl ?_
  show Steps p.tables e below (T0.setTop (mkF m 1 #[.val (.int (44 : Int32)), .val (.int p2)] [(.int (44 : Int32))])) _
  refine XS.tswIn X0.here hx rfl (pc0 := 1) (pc' := 330) rfl (hb hby d1_1) rfl (by decide) (o := 329) (by decide) (by decide) (by decide) ?_
  show Steps p.tables e below (T0.setTop (mkF m 330 #[.val (.int (44 : Int32)), .val (.int p2)] [])) _
  refine XS.iloadN X0.here hx rfl (hb hby d1_330) rfl ?_
  show Steps p.tables e below (T0.setTop (mkF m 331 #[.val (.int (44 : Int32)), .val (.int p2)] [(.int (44 : Int32))])) _
  refine XS.bipush X0.here hx rfl (hb hby d1_331) ?_
  show Steps p.tables e below (T0.setTop (mkF m 333 #[.val (.int (44 : Int32)), .val (.int p2)] [(.int (7 : Int32)), (.int (44 : Int32))])) _
  refine XS.icmpNo X0.here hx rfl (hb hby d1_333) rfl (flt (by decide : ¬ ((44 : Int32) < (7 : Int32)))).1 ?_
  show Steps p.tables e below (T0.setTop (mkF m 336 #[.val (.int (44 : Int32)), .val (.int p2)] [])) _
  refine XS.iloadN X0.here hx rfl (hb hby d1_336) rfl ?_
  show Steps p.tables e below (T0.setTop (mkF m 337 #[.val (.int (44 : Int32)), .val (.int p2)] [(.int (44 : Int32))])) _
  refine XS.bipush X0.here hx rfl (hb hby d1_337) ?_
  show Steps p.tables e below (T0.setTop (mkF m 339 #[.val (.int (44 : Int32)), .val (.int p2)] [(.int (25 : Int32)), (.int (44 : Int32))])) _
  refine XS.icmpYes X0.here hx rfl (pc0 := 339) (pc' := 346) rfl (hb hby d1_339) rfl (tlt (by decide : (25 : Int32) < (44 : Int32))).2.2.1 (by decide) (by decide) ?_
  show Steps p.tables e below (T0.setTop (mkF m 346 #[.val (.int (44 : Int32)), .val (.int p2)] [])) _
  refine XS.iconst X0.here hx rfl (hb hby d1_346) ?_
  show Steps p.tables e below (T0.setTop (mkF m 347 #[.val (.int (44 : Int32)), .val (.int p2)] [(.int (0 : Int32))])) _
  exact retI X0 hx hret (hb hby d1_347) hr
set_option maxRecDepth 65536 in
set_option maxHeartbeats 40000000 in
theorem se_45 {p : Program} {l : Launch} {e : Env} {R : Room} {s : State} {m : MethodId} {args : Array Value} {below : List Frame} {meth : Method} {c : Code} {T0 : State} {locs : List Loc} {cells slots : Nat} (p2 : Int32)
    (X0 : Stand p l e R s m args below meth c T0 locs cells slots) (hx : p.tables.exec = Jvm.exec) (hby : c.code = prog_20_method_6_code) (hret : meth.sig.returnType = some .int) {fs : List Frame}
    (hr : ∀ (f : JFrame) (acts : List Action), f.method = m → f.locked = none → f.entered = [] → (doReturn e (T0.setTop f) acts (some (.int (0 : Int32)))).1 = T0.setFrames fs) :
    Steps p.tables e below (T0.setTop (mkF m 0 #[.val (.int (45 : Int32)), .val (.int p2)] [])) (T0.setFrames fs) := by
  show Steps p.tables e below (T0.setTop (mkF m 0 #[.val (.int (45 : Int32)), .val (.int p2)] [])) _
  refine XS.iloadN X0.here hx rfl (hb hby d1_0) rfl ?_
  show Steps p.tables e below (T0.setTop (mkF m 1 #[.val (.int (45 : Int32)), .val (.int p2)] [(.int (45 : Int32))])) _
  refine XS.tswIn X0.here hx rfl (pc0 := 1) (pc' := 330) rfl (hb hby d1_1) rfl (by decide) (o := 329) (by decide) (by decide) (by decide) ?_
  show Steps p.tables e below (T0.setTop (mkF m 330 #[.val (.int (45 : Int32)), .val (.int p2)] [])) _
  refine XS.iloadN X0.here hx rfl (hb hby d1_330) rfl ?_
  show Steps p.tables e below (T0.setTop (mkF m 331 #[.val (.int (45 : Int32)), .val (.int p2)] [(.int (45 : Int32))])) _
  refine XS.bipush X0.here hx rfl (hb hby d1_331) ?_
  show Steps p.tables e below (T0.setTop (mkF m 333 #[.val (.int (45 : Int32)), .val (.int p2)] [(.int (7 : Int32)), (.int (45 : Int32))])) _
  refine XS.icmpNo X0.here hx rfl (hb hby d1_333) rfl (flt (by decide : ¬ ((45 : Int32) < (7 : Int32)))).1 ?_
  show Steps p.tables e below (T0.setTop (mkF m 336 #[.val (.int (45 : Int32)), .val (.int p2)] [])) _
  refine XS.iloadN X0.here hx rfl (hb hby d1_336) rfl ?_
  show Steps p.tables e below (T0.setTop (mkF m 337 #[.val (.int (45 : Int32)), .val (.int p2)] [(.int (45 : Int32))])) _
  refine XS.bipush X0.here hx rfl (hb hby d1_337) ?_
  show Steps p.tables e below (T0.setTop (mkF m 339 #[.val (.int (45 : Int32)), .val (.int p2)] [(.int (25 : Int32)), (.int (45 : Int32))])) _
  refine XS.icmpYes X0.here hx rfl (pc0 := 339) (pc' := 346) rfl (hb hby d1_339) rfl (tlt (by decide : (25 : Int32) < (45 : Int32))).2.2.1 (by decide) (by decide) ?_
  show Steps p.tables e below (T0.setTop (mkF m 346 #[.val (.int (45 : Int32)), .val (.int p2)] [])) _
  refine XS.iconst X0.here hx rfl (hb hby d1_346) ?_
  show Steps p.tables e below (T0.setTop (mkF m 347 #[.val (.int (45 : Int32)), .val (.int p2)] [(.int (0 : Int32))])) _
  exact retI X0 hx hret (hb hby d1_347) hr
set_option maxRecDepth 65536 in
set_option maxHeartbeats 40000000 in
theorem se_46 {p : Program} {l : Launch} {e : Env} {R : Room} {s : State} {m : MethodId} {args : Array Value} {below : List Frame} {meth : Method} {c : Code} {T0 : State} {locs : List Loc} {cells slots : Nat} (p2 : Int32)
    (X0 : Stand p l e R s m args below meth c T0 locs cells slots) (hx : p.tables.exec = Jvm.exec) (hby : c.code = prog_20_method_6_code) (hret : meth.sig.returnType = some .int) {fs : List Frame}
    (hr : ∀ (f : JFrame) (acts : List Action), f.method = m → f.locked = none → f.entered = [] → (doReturn e (T0.setTop f) acts (some (.int (1 : Int32)))).1 = T0.setFrames fs) :
    Steps p.tables e below (T0.setTop (mkF m 0 #[.val (.int (46 : Int32)), .val (.int p2)] [])) (T0.setFrames fs) := by
  show Steps p.tables e below (T0.setTop (mkF m 0 #[.val (.int (46 : Int32)), .val (.int p2)] [])) _
  refine XS.iloadN X0.here hx rfl (hb hby d1_0) rfl ?_
  show Steps p.tables e below (T0.setTop (mkF m 1 #[.val (.int (46 : Int32)), .val (.int p2)] [(.int (46 : Int32))])) _
  refine XS.tswIn X0.here hx rfl (pc0 := 1) (pc' := 312) rfl (hb hby d1_1) rfl (by decide) (o := 311) (by decide) (by decide) (by decide) ?_
  show Steps p.tables e below (T0.setTop (mkF m 312 #[.val (.int (46 : Int32)), .val (.int p2)] [])) _
  refine XS.iconst X0.here hx rfl (hb hby d1_312) ?_
  show Steps p.tables e below (T0.setTop (mkF m 313 #[.val (.int (46 : Int32)), .val (.int p2)] [(.int (1 : Int32))])) _
  exact retI X0 hx hret (hb hby d1_313) hr
set_option maxRecDepth 65536 in
set_option maxHeartbeats 40000000 in
theorem se_47 {p : Program} {l : Launch} {e : Env} {R : Room} {s : State} {m : MethodId} {args : Array Value} {below : List Frame} {meth : Method} {c : Code} {T0 : State} {locs : List Loc} {cells slots : Nat} (p2 : Int32)
    (X0 : Stand p l e R s m args below meth c T0 locs cells slots) (hx : p.tables.exec = Jvm.exec) (hby : c.code = prog_20_method_6_code) (hret : meth.sig.returnType = some .int) {fs : List Frame}
    (hr : ∀ (f : JFrame) (acts : List Action), f.method = m → f.locked = none → f.entered = [] → (doReturn e (T0.setTop f) acts (some (.int (1 : Int32)))).1 = T0.setFrames fs) :
    Steps p.tables e below (T0.setTop (mkF m 0 #[.val (.int (47 : Int32)), .val (.int p2)] [])) (T0.setFrames fs) := by
  show Steps p.tables e below (T0.setTop (mkF m 0 #[.val (.int (47 : Int32)), .val (.int p2)] [])) _
  refine XS.iloadN X0.here hx rfl (hb hby d1_0) rfl ?_
  show Steps p.tables e below (T0.setTop (mkF m 1 #[.val (.int (47 : Int32)), .val (.int p2)] [(.int (47 : Int32))])) _
  refine XS.tswIn X0.here hx rfl (pc0 := 1) (pc' := 312) rfl (hb hby d1_1) rfl (by decide) (o := 311) (by decide) (by decide) (by decide) ?_
  show Steps p.tables e below (T0.setTop (mkF m 312 #[.val (.int (47 : Int32)), .val (.int p2)] [])) _
  refine XS.iconst X0.here hx rfl (hb hby d1_312) ?_
  show Steps p.tables e below (T0.setTop (mkF m 313 #[.val (.int (47 : Int32)), .val (.int p2)] [(.int (1 : Int32))])) _
  exact retI X0 hx hret (hb hby d1_313) hr
set_option maxRecDepth 65536 in
set_option maxHeartbeats 40000000 in
theorem se_48 {p : Program} {l : Launch} {e : Env} {R : Room} {s : State} {m : MethodId} {args : Array Value} {below : List Frame} {meth : Method} {c : Code} {T0 : State} {locs : List Loc} {cells slots : Nat} (p2 : Int32)
    (X0 : Stand p l e R s m args below meth c T0 locs cells slots) (hx : p.tables.exec = Jvm.exec) (hby : c.code = prog_20_method_6_code) (hret : meth.sig.returnType = some .int) {fs : List Frame}
    (hr : ∀ (f : JFrame) (acts : List Action), f.method = m → f.locked = none → f.entered = [] → (doReturn e (T0.setTop f) acts (some (.int (2 : Int32)))).1 = T0.setFrames fs) :
    Steps p.tables e below (T0.setTop (mkF m 0 #[.val (.int (48 : Int32)), .val (.int p2)] [])) (T0.setFrames fs) := by
  show Steps p.tables e below (T0.setTop (mkF m 0 #[.val (.int (48 : Int32)), .val (.int p2)] [])) _
  refine XS.iloadN X0.here hx rfl (hb hby d1_0) rfl ?_
  show Steps p.tables e below (T0.setTop (mkF m 1 #[.val (.int (48 : Int32)), .val (.int p2)] [(.int (48 : Int32))])) _
  refine XS.tswIn X0.here hx rfl (pc0 := 1) (pc' := 314) rfl (hb hby d1_1) rfl (by decide) (o := 313) (by decide) (by decide) (by decide) ?_
  show Steps p.tables e below (T0.setTop (mkF m 314 #[.val (.int (48 : Int32)), .val (.int p2)] [])) _
  refine XS.iconst X0.here hx rfl (hb hby d1_314) ?_
  show Steps p.tables e below (T0.setTop (mkF m 315 #[.val (.int (48 : Int32)), .val (.int p2)] [(.int (2 : Int32))])) _
  exact retI X0 hx hret (hb hby d1_315) hr
set_option maxRecDepth 65536 in
set_option maxHeartbeats 40000000 in
theorem se_49 {p : Program} {l : Launch} {e : Env} {R : Room} {s : State} {m : MethodId} {args : Array Value} {below : List Frame} {meth : Method} {c : Code} {T0 : State} {locs : List Loc} {cells slots : Nat} (p2 : Int32)
    (X0 : Stand p l e R s m args below meth c T0 locs cells slots) (hx : p.tables.exec = Jvm.exec) (hby : c.code = prog_20_method_6_code) (hret : meth.sig.returnType = some .int) {fs : List Frame}
    (hr : ∀ (f : JFrame) (acts : List Action), f.method = m → f.locked = none → f.entered = [] → (doReturn e (T0.setTop f) acts (some (.int (1 : Int32)))).1 = T0.setFrames fs) :
    Steps p.tables e below (T0.setTop (mkF m 0 #[.val (.int (49 : Int32)), .val (.int p2)] [])) (T0.setFrames fs) := by
  show Steps p.tables e below (T0.setTop (mkF m 0 #[.val (.int (49 : Int32)), .val (.int p2)] [])) _
  refine XS.iloadN X0.here hx rfl (hb hby d1_0) rfl ?_
  show Steps p.tables e below (T0.setTop (mkF m 1 #[.val (.int (49 : Int32)), .val (.int p2)] [(.int (49 : Int32))])) _
  refine XS.tswIn X0.here hx rfl (pc0 := 1) (pc' := 312) rfl (hb hby d1_1) rfl (by decide) (o := 311) (by decide) (by decide) (by decide) ?_
  show Steps p.tables e below (T0.setTop (mkF m 312 #[.val (.int (49 : Int32)), .val (.int p2)] [])) _
  refine XS.iconst X0.here hx rfl (hb hby d1_312) ?_
  show Steps p.tables e below (T0.setTop (mkF m 313 #[.val (.int (49 : Int32)), .val (.int p2)] [(.int (1 : Int32))])) _
  exact retI X0 hx hret (hb hby d1_313) hr
set_option maxRecDepth 65536 in
set_option maxHeartbeats 40000000 in
theorem se_50 {p : Program} {l : Launch} {e : Env} {R : Room} {s : State} {m : MethodId} {args : Array Value} {below : List Frame} {meth : Method} {c : Code} {T0 : State} {locs : List Loc} {cells slots : Nat} (p2 : Int32)
    (X0 : Stand p l e R s m args below meth c T0 locs cells slots) (hx : p.tables.exec = Jvm.exec) (hby : c.code = prog_20_method_6_code) (hret : meth.sig.returnType = some .int) {fs : List Frame}
    (hr : ∀ (f : JFrame) (acts : List Action), f.method = m → f.locked = none → f.entered = [] → (doReturn e (T0.setTop f) acts (some (.int (0 : Int32)))).1 = T0.setFrames fs) :
    Steps p.tables e below (T0.setTop (mkF m 0 #[.val (.int (50 : Int32)), .val (.int p2)] [])) (T0.setFrames fs) := by
  show Steps p.tables e below (T0.setTop (mkF m 0 #[.val (.int (50 : Int32)), .val (.int p2)] [])) _
  refine XS.iloadN X0.here hx rfl (hb hby d1_0) rfl ?_
  show Steps p.tables e below (T0.setTop (mkF m 1 #[.val (.int (50 : Int32)), .val (.int p2)] [(.int (50 : Int32))])) _
  refine XS.tswIn X0.here hx rfl (pc0 := 1) (pc' := 330) rfl (hb hby d1_1) rfl (by decide) (o := 329) (by decide) (by decide) (by decide) ?_
  show Steps p.tables e below (T0.setTop (mkF m 330 #[.val (.int (50 : Int32)), .val (.int p2)] [])) _
  refine XS.iloadN X0.here hx rfl (hb hby d1_330) rfl ?_
  show Steps p.tables e below (T0.setTop (mkF m 331 #[.val (.int (50 : Int32)), .val (.int p2)] [(.int (50 : Int32))])) _
  refine XS.bipush X0.here hx rfl (hb hby d1_331) ?_
  show Steps p.tables e below (T0.setTop (mkF m 333 #[.val (.int (50 : Int32)), .val (.int p2)] [(.int (7 : Int32)), (.int (50 : Int32))])) _
  refine XS.icmpNo X0.here hx rfl (hb hby d1_333) rfl (flt (by decide : ¬ ((50 : Int32) < (7 : Int32)))).1 ?_
  show Steps p.tables e below (T0.setTop (mkF m 336 #[.val (.int (50 : Int32)), .val (.int p2)] [])) _
  refine XS.iloadN X0.here hx rfl (hb hby d1_336) rfl ?_
  show Steps p.tables e below (T0.setTop (mkF m 337 #[.val (.int (50 : Int32)), .val (.int p2)] [(.int (50 : Int32))])) _
  refine XS.bipush X0.here hx rfl (hb hby d1_337) ?_
  show Steps p.tables e below (T0.setTop (mkF m 339 #[.val (.int (50 : Int32)), .val (.int p2)] [(.int (25 : Int32)), (.int (50 : Int32))])) _
  refine XS.icmpYes X0.here hx rfl (pc0 := 339) (pc' := 346) rfl (hb hby d1_339) rfl (tlt (by decide : (25 : Int32) < (50 : Int32))).2.2.1 (by decide) (by decide) ?_
  show Steps p.tables e below (T0.setTop (mkF m 346 #[.val (.int (50 : Int32)), .val (.int p2)] [])) _
  refine XS.iconst X0.here hx rfl (hb hby d1_346) ?_
  show Steps p.tables e below (T0.setTop (mkF m 347 #[.val (.int (50 : Int32)), .val (.int p2)] [(.int (0 : Int32))])) _
  exact retI X0 hx hret (hb hby d1_347) hr
set_option maxRecDepth 65536 in
set_option maxHeartbeats 40000000 in
theorem se_51 {p : Program} {l : Launch} {e : Env} {R : Room} {s : State} {m : MethodId} {args : Array Value} {below : List Frame} {meth : Method} {c : Code} {T0 : State} {locs : List Loc} {cells slots : Nat} (p2 : Int32)
    (X0 : Stand p l e R s m args below meth c T0 locs cells slots) (hx : p.tables.exec = Jvm.exec) (hby : c.code = prog_20_method_6_code) (hret : meth.sig.returnType = some .int) {fs : List Frame}
    (hr : ∀ (f : JFrame) (acts : List Action), f.method = m → f.locked = none → f.entered = [] → (doReturn e (T0.setTop f) acts (some (.int (-1 : Int32)))).1 = T0.setFrames fs) :
    Steps p.tables e below (T0.setTop (mkF m 0 #[.val (.int (51 : Int32)), .val (.int p2)] [])) (T0.setFrames fs) := by
  show Steps p.tables e below (T0.setTop (mkF m 0 #[.val (.int (51 : Int32)), .val (.int p2)] [])) _
  refine XS.iloadN X0.here hx rfl (hb hby d1_0) rfl ?_
  show Steps p.tables e below (T0.setTop (mkF m 1 #[.val (.int (51 : Int32)), .val (.int p2)] [(.int (51 : Int32))])) _
  refine XS.tswIn X0.here hx rfl (pc0 := 1) (pc' := 316) rfl (hb hby d1_1) rfl (by decide) (o := 315) (by decide) (by decide) (by decide) ?_
  show Steps p.tables e below (T0.setTop (mkF m 316 #[.val (.int (51 : Int32)), .val (.int p2)] [])) _
  refine XS.iconst X0.here hx rfl (hb hby d1_316) ?_
  show Steps p.tables e below (T0.setTop (mkF m 317 #[.val (.int (51 : Int32)), .val (.int p2)] [(.int (-1 : Int32))])) _
  exact retI X0 hx hret (hb hby d1_317) hr
set_option maxRecDepth 65536 in
set_option maxHeartbeats 40000000 in
theorem se_52 {p : Program} {l : Launch} {e : Env} {R : Room} {s : State} {m : MethodId} {args : Array Value} {below : List Frame} {meth : Method} {c : Code} {T0 : State} {locs : List Loc} {cells slots : Nat} (p2 : Int32)
    (X0 : Stand p l e R s m args below meth c T0 locs cells slots) (hx : p.tables.exec = Jvm.exec) (hby : c.code = prog_20_method_6_code) (hret : meth.sig.returnType = some .int) {fs : List Frame}
    (hr : ∀ (f : JFrame) (acts : List Action), f.method = m → f.locked = none → f.entered = [] → (doReturn e (T0.setTop f) acts (some (.int (-1 : Int32)))).1 = T0.setFrames fs) :
    Steps p.tables e below (T0.setTop (mkF m 0 #[.val (.int (52 : Int32)), .val (.int p2)] [])) (T0.setFrames fs) := by
  show Steps p.tables e below (T0.setTop (mkF m 0 #[.val (.int (52 : Int32)), .val (.int p2)] [])) _
  refine XS.iloadN X0.here hx rfl (hb hby d1_0) rfl ?_
  show Steps p.tables e below (T0.setTop (mkF m 1 #[.val (.int (52 : Int32)), .val (.int p2)] [(.int (52 : Int32))])) _
  refine XS.tswIn X0.here hx rfl (pc0 := 1) (pc' := 316) rfl (hb hby d1_1) rfl (by decide) (o := 315) (by decide) (by decide) (by decide) ?_
  show Steps p.tables e below (T0.setTop (mkF m 316 #[.val (.int (52 : Int32)), .val (.int p2)] [])) _
  refine XS.iconst X0.here hx rfl (hb hby d1_316) ?_
  show Steps p.tables e below (T0.setTop (mkF m 317 #[.val (.int (52 : Int32)), .val (.int p2)] [(.int (-1 : Int32))])) _
  exact retI X0 hx hret (hb hby d1_317) hr
set_option maxRecDepth 65536 in
set_option maxHeartbeats 40000000 in
theorem se_53 {p : Program} {l : Launch} {e : Env} {R : Room} {s : State} {m : MethodId} {args : Array Value} {below : List Frame} {meth : Method} {c : Code} {T0 : State} {locs : List Loc} {cells slots : Nat} (p2 : Int32)
    (X0 : Stand p l e R s m args below meth c T0 locs cells slots) (hx : p.tables.exec = Jvm.exec) (hby : c.code = prog_20_method_6_code) (hret : meth.sig.returnType = some .int) {fs : List Frame}
    (hr : ∀ (f : JFrame) (acts : List Action), f.method = m → f.locked = none → f.entered = [] → (doReturn e (T0.setTop f) acts (some (.int ((-p2) - (1 : Int32))))).1 = T0.setFrames fs) :
    Steps p.tables e below (T0.setTop (mkF m 0 #[.val (.int (53 : Int32)), .val (.int p2)] [])) (T0.setFrames fs) := by
  show Steps p.tables e below (T0.setTop (mkF m 0 #[.val (.int (53 : Int32)), .val (.int p2)] [])) _
  refine XS.iloadN X0.here hx rfl (hb hby d1_0) rfl ?_
  show Steps p.tables e below (T0.setTop (mkF m 1 #[.val (.int (53 : Int32)), .val (.int p2)] [(.int (53 : Int32))])) _
  refine XS.tswIn X0.here hx rfl (pc0 := 1) (pc' := 321) rfl (hb hby d1_1) rfl (by decide) (o := 320) (by decide) (by decide) (by decide) ?_
  show Steps p.tables e below (T0.setTop (mkF m 321 #[.val (.int (53 : Int32)), .val (.int p2)] [])) _
  refine XS.iloadN X0.here hx rfl (hb hby d1_321) rfl ?_
  show Steps p.tables e below (T0.setTop (mkF m 322 #[.val (.int (53 : Int32)), .val (.int p2)] [(.int p2)])) _
  refine XS.ineg X0.here hx rfl (hb hby d1_322) rfl ?_
  show Steps p.tables e below (T0.setTop (mkF m 323 #[.val (.int (53 : Int32)), .val (.int p2)] [(.int (-p2))])) _
  refine XS.iconst X0.here hx rfl (hb hby d1_323) ?_
  show Steps p.tables e below (T0.setTop (mkF m 324 #[.val (.int (53 : Int32)), .val (.int p2)] [(.int (1 : Int32)), (.int (-p2))])) _
  refine XS.isub X0.here hx rfl (hb hby d1_324) rfl ?_
  show Steps p.tables e below (T0.setTop (mkF m 325 #[.val (.int (53 : Int32)), .val (.int p2)] [(.int ((-p2) - (1 : Int32)))])) _
  exact retI X0 hx hret (hb hby d1_325) hr
set_option maxRecDepth 65536 in
set_option maxHeartbeats 40000000 in
theorem se_54 {p : Program} {l : Launch} {e : Env} {R : Room} {s : State} {m : MethodId} {args : Array Value} {below : List Frame} {meth : Method} {c : Code} {T0 : State} {locs : List Loc} {cells slots : Nat} (p2 : Int32)
    (X0 : Stand p l e R s m args below meth c T0 locs cells slots) (hx : p.tables.exec = Jvm.exec) (hby : c.code = prog_20_method_6_code) (hret : meth.sig.returnType = some .int) {fs : List Frame}
    (hr : ∀ (f : JFrame) (acts : List Action), f.method = m → f.locked = none → f.entered = [] → (doReturn e (T0.setTop f) acts (some (.int (-2 : Int32)))).1 = T0.setFrames fs) :
    Steps p.tables e below (T0.setTop (mkF m 0 #[.val (.int (54 : Int32)), .val (.int p2)] [])) (T0.setFrames fs) := by
  show Steps p.tables e below (T0.setTop (mkF m 0 #[.val (.int (54 : Int32)), .val (.int p2)] [])) _
  refine XS.iloadN X0.here hx rfl (hb hby d1_0) rfl ?_
  show Steps p.tables e below (T0.setTop (mkF m 1 #[.val (.int (54 : Int32)), .val (.int p2)] [(.int (54 : Int32))])) _
  refine XS.tswIn X0.here hx rfl (pc0 := 1) (pc' := 318) rfl (hb hby d1_1) rfl (by decide) (o := 317) (by decide) (by decide) (by decide) ?_
  show Steps p.tables e below (T0.setTop (mkF m 318 #[.val (.int (54 : Int32)), .val (.int p2)] [])) _
  refine XS.bipush X0.here hx rfl (hb hby d1_318) ?_
  show Steps p.tables e below (T0.setTop (mkF m 320 #[.val (.int (54 : Int32)), .val (.int p2)] [(.int (-2 : Int32))])) _
  exact retI X0 hx hret (hb hby d1_320) hr
set_option maxRecDepth 65536 in
set_option maxHeartbeats 40000000 in
theorem se_55 {p : Program} {l : Launch} {e : Env} {R : Room} {s : State} {m : MethodId} {args : Array Value} {below : List Frame} {meth : Method} {c : Code} {T0 : State} {locs : List Loc} {cells slots : Nat} (p2 : Int32)
    (X0 : Stand p l e R s m args below meth c T0 locs cells slots) (hx : p.tables.exec = Jvm.exec) (hby : c.code = prog_20_method_6_code) (hret : meth.sig.returnType = some .int) {fs : List Frame}
    (hr : ∀ (f : JFrame) (acts : List Action), f.method = m → f.locked = none → f.entered = [] → (doReturn e (T0.setTop f) acts (some (.int (-1 : Int32)))).1 = T0.setFrames fs) :
    Steps p.tables e below (T0.setTop (mkF m 0 #[.val (.int (55 : Int32)), .val (.int p2)] [])) (T0.setFrames fs) := by
  show Steps p.tables e below (T0.setTop (mkF m 0 #[.val (.int (55 : Int32)), .val (.int p2)] [])) _
  refine XS.iloadN X0.here hx rfl (hb hby d1_0) rfl ?_
  show Steps p.tables e below (T0.setTop (mkF m 1 #[.val (.int (55 : Int32)), .val (.int p2)] [(.int (55 : Int32))])) _
  refine XS.tswIn X0.here hx rfl (pc0 := 1) (pc' := 316) rfl (hb hby d1_1) rfl (by decide) (o := 315) (by decide) (by decide) (by decide) ?_
  show Steps p.tables e below (T0.setTop (mkF m 316 #[.val (.int (55 : Int32)), .val (.int p2)] [])) _
  refine XS.iconst X0.here hx rfl (hb hby d1_316) ?_
  show Steps p.tables e below (T0.setTop (mkF m 317 #[.val (.int (55 : Int32)), .val (.int p2)] [(.int (-1 : Int32))])) _
  exact retI X0 hx hret (hb hby d1_317) hr
set_option maxRecDepth 65536 in
set_option maxHeartbeats 40000000 in
theorem se_56 {p : Program} {l : Launch} {e : Env} {R : Room} {s : State} {m : MethodId} {args : Array Value} {below : List Frame} {meth : Method} {c : Code} {T0 : State} {locs : List Loc} {cells slots : Nat} (p2 : Int32)
    (X0 : Stand p l e R s m args below meth c T0 locs cells slots) (hx : p.tables.exec = Jvm.exec) (hby : c.code = prog_20_method_6_code) (hret : meth.sig.returnType = some .int) {fs : List Frame}
    (hr : ∀ (f : JFrame) (acts : List Action), f.method = m → f.locked = none → f.entered = [] → (doReturn e (T0.setTop f) acts (some (.int (0 : Int32)))).1 = T0.setFrames fs) :
    Steps p.tables e below (T0.setTop (mkF m 0 #[.val (.int (56 : Int32)), .val (.int p2)] [])) (T0.setFrames fs) := by
  show Steps p.tables e below (T0.setTop (mkF m 0 #[.val (.int (56 : Int32)), .val (.int p2)] [])) _
  refine XS.iloadN X0.here hx rfl (hb hby d1_0) rfl ?_
  show Steps p.tables e below (T0.setTop (mkF m 1 #[.val (.int (56 : Int32)), .val (.int p2)] [(.int (56 : Int32))])) _
  refine XS.tswIn X0.here hx rfl (pc0 := 1) (pc' := 330) rfl (hb hby d1_1) rfl (by decide) (o := 329) (by decide) (by decide) (by decide) ?_
  show Steps p.tables e below (T0.setTop (mkF m 330 #[.val (.int (56 : Int32)), .val (.int p2)] [])) _
  refine XS.iloadN X0.here hx rfl (hb hby d1_330) rfl ?_
  show Steps p.tables e below (T0.setTop (mkF m 331 #[.val (.int (56 : Int32)), .val (.int p2)] [(.int (56 : Int32))])) _
  refine XS.bipush X0.here hx rfl (hb hby d1_331) ?_
  show Steps p.tables e below (T0.setTop (mkF m 333 #[.val (.int (56 : Int32)), .val (.int p2)] [(.int (7 : Int32)), (.int (56 : Int32))])) _
  refine XS.icmpNo X0.here hx rfl (hb hby d1_333) rfl (flt (by decide : ¬ ((56 : Int32) < (7 : Int32)))).1 ?_
  show Steps p.tables e below (T0.setTop (mkF m 336 #[.val (.int (56 : Int32)), .val (.int p2)] [])) _
  refine XS.iloadN X0.here hx rfl (hb hby d1_336) rfl ?_
  show Steps p.tables e below (T0.setTop (mkF m 337 #[.val (.int (56 : Int32)), .val (.int p2)] [(.int (56 : Int32))])) _
  refine XS.bipush X0.here hx rfl (hb hby d1_337) ?_
  show Steps p.tables e below (T0.setTop (mkF m 339 #[.val (.int (56 : Int32)), .val (.int p2)] [(.int (25 : Int32)), (.int (56 : Int32))])) _
  refine XS.icmpYes X0.here hx rfl (pc0 := 339) (pc' := 346) rfl (hb hby d1_339) rfl (tlt (by decide : (25 : Int32) < (56 : Int32))).2.2.1 (by decide) (by decide) ?_
  show Steps p.tables e below (T0.setTop (mkF m 346 #[.val (.int (56 : Int32)), .val (.int p2)] [])) _
  refine XS.iconst X0.here hx rfl (hb hby d1_346) ?_
  show Steps p.tables e below (T0.setTop (mkF m 347 #[.val (.int (56 : Int32)), .val (.int p2)] [(.int (0 : Int32))])) _
  exact retI X0 hx hret (hb hby d1_347) hr
set_option maxRecDepth 65536 in
set_option maxHeartbeats 40000000 in
theorem se_57 {p : Program} {l : Launch} {e : Env} {R : Room} {s : State} {m : MethodId} {args : Array Value} {below : List Frame} {meth : Method} {c : Code} {T0 : State} {locs : List Loc} {cells slots : Nat} (p2 : Int32)
    (X0 : Stand p l e R s m args below meth c T0 locs cells slots) (hx : p.tables.exec = Jvm.exec) (hby : c.code = prog_20_method_6_code) (hret : meth.sig.returnType = some .int) {fs : List Frame}
    (hr : ∀ (f : JFrame) (acts : List Action), f.method = m → f.locked = none → f.entered = [] → (doReturn e (T0.setTop f) acts (some (.int (1 : Int32)))).1 = T0.setFrames fs) :
    Steps p.tables e below (T0.setTop (mkF m 0 #[.val (.int (57 : Int32)), .val (.int p2)] [])) (T0.setFrames fs) := by
  show Steps p.tables e below (T0.setTop (mkF m 0 #[.val (.int (57 : Int32)), .val (.int p2)] [])) _
  refine XS.iloadN X0.here hx rfl (hb hby d1_0) rfl ?_
  show Steps p.tables e below (T0.setTop (mkF m 1 #[.val (.int (57 : Int32)), .val (.int p2)] [(.int (57 : Int32))])) _
  refine XS.tswIn X0.here hx rfl (pc0 := 1) (pc' := 312) rfl (hb hby d1_1) rfl (by decide) (o := 311) (by decide) (by decide) (by decide) ?_
  show Steps p.tables e below (T0.setTop (mkF m 312 #[.val (.int (57 : Int32)), .val (.int p2)] [])) _
  refine XS.iconst X0.here hx rfl (hb hby d1_312) ?_
  show Steps p.tables e below (T0.setTop (mkF m 313 #[.val (.int (57 : Int32)), .val (.int p2)] [(.int (1 : Int32))])) _
  exact retI X0 hx hret (hb hby d1_313) hr
set_option maxRecDepth 65536 in
set_option maxHeartbeats 40000000 in
theorem se_58 {p : Program} {l : Launch} {e : Env} {R : Room} {s : State} {m : MethodId} {args : Array Value} {below : List Frame} {meth : Method} {c : Code} {T0 : State} {locs : List Loc} {cells slots : Nat} (p2 : Int32)
    (X0 : Stand p l e R s m args below meth c T0 locs cells slots) (hx : p.tables.exec = Jvm.exec) (hby : c.code = prog_20_method_6_code) (hret : meth.sig.returnType = some .int) {fs : List Frame}
    (hr : ∀ (f : JFrame) (acts : List Action), f.method = m → f.locked = none → f.entered = [] → (doReturn e (T0.setTop f) acts (some (.int (-1 : Int32)))).1 = T0.setFrames fs) :
    Steps p.tables e below (T0.setTop (mkF m 0 #[.val (.int (58 : Int32)), .val (.int p2)] [])) (T0.setFrames fs) := by
  show Steps p.tables e below (T0.setTop (mkF m 0 #[.val (.int (58 : Int32)), .val (.int p2)] [])) _
  refine XS.iloadN X0.here hx rfl (hb hby d1_0) rfl ?_
  show Steps p.tables e below (T0.setTop (mkF m 1 #[.val (.int (58 : Int32)), .val (.int p2)] [(.int (58 : Int32))])) _
  refine XS.tswIn X0.here hx rfl (pc0 := 1) (pc' := 316) rfl (hb hby d1_1) rfl (by decide) (o := 315) (by decide) (by decide) (by decide) ?_
  show Steps p.tables e below (T0.setTop (mkF m 316 #[.val (.int (58 : Int32)), .val (.int p2)] [])) _
  refine XS.iconst X0.here hx rfl (hb hby d1_316) ?_
  show Steps p.tables e below (T0.setTop (mkF m 317 #[.val (.int (58 : Int32)), .val (.int p2)] [(.int (-1 : Int32))])) _
  exact retI X0 hx hret (hb hby d1_317) hr
set_option maxRecDepth 65536 in
set_option maxHeartbeats 40000000 in
theorem se_59 {p : Program} {l : Launch} {e : Env} {R : Room} {s : State} {m : MethodId} {args : Array Value} {below : List Frame} {meth : Method} {c : Code} {T0 : State} {locs : List Loc} {cells slots : Nat} (p2 : Int32)
    (X0 : Stand p l e R s m args below meth c T0 locs cells slots) (hx : p.tables.exec = Jvm.exec) (hby : c.code = prog_20_method_6_code) (hret : meth.sig.returnType = some .int) {fs : List Frame}
    (hr : ∀ (f : JFrame) (acts : List Action), f.method = m → f.locked = none → f.entered = [] → (doReturn e (T0.setTop f) acts (some (.int ((1 : Int32) - p2)))).1 = T0.setFrames fs) :
    Steps p.tables e below (T0.setTop (mkF m 0 #[.val (.int (59 : Int32)), .val (.int p2)] [])) (T0.setFrames fs) := by
  show Steps p.tables e below (T0.setTop (mkF m 0 #[.val (.int (59 : Int32)), .val (.int p2)] [])) _
  refine XS.iloadN X0.here hx rfl (hb hby d1_0) rfl ?_
  show Steps p.tables e below (T0.setTop (mkF m 1 #[.val (.int (59 : Int32)), .val (.int p2)] [(.int (59 : Int32))])) _
  refine XS.tswIn X0.here hx rfl (pc0 := 1) (pc' := 326) rfl (hb hby d1_1) rfl (by decide) (o := 325) (by decide) (by decide) (by decide) ?_
  show Steps p.tables e below (T0.setTop (mkF m 326 #[.val (.int (59 : Int32)), .val (.int p2)] [])) _
  refine XS.iconst X0.here hx rfl (hb hby d1_326) ?_
  show Steps p.tables e below (T0.setTop (mkF m 327 #[.val (.int (59 : Int32)), .val (.int p2)] [(.int (1 : Int32))])) _
  refine XS.iloadN X0.here hx rfl (hb hby d1_327) rfl ?_
  show Steps p.tables e below (T0.setTop (mkF m 328 #[.val (.int (59 : Int32)), .val (.int p2)] [(.int p2), (.int (1 : Int32))])) _
  refine XS.isub X0.here hx rfl (hb hby d1_328) rfl ?_
  show Steps p.tables e below (T0.setTop (mkF m 329 #[.val (.int (59 : Int32)), .val (.int p2)] [(.int ((1 : Int32) - p2))])) _
  exact retI X0 hx hret (hb hby d1_329) hr
set_option maxRecDepth 65536 in
set_option maxHeartbeats 40000000 in
theorem se_60 {p : Program} {l : Launch} {e : Env} {R : Room} {s : State} {m : MethodId} {args : Array Value} {below : List Frame} {meth : Method} {c : Code} {T0 : State} {locs : List Loc} {cells slots : Nat} (p2 : Int32)
    (X0 : Stand p l e R s m args below meth c T0 locs cells slots) (hx : p.tables.exec = Jvm.exec) (hby : c.code = prog_20_method_6_code) (hret : meth.sig.returnType = some .int) {fs : List Frame}
    (hr : ∀ (f : JFrame) (acts : List Action), f.method = m → f.locked = none → f.entered = [] → (doReturn e (T0.setTop f) acts (some (.int (0 : Int32)))).1 = T0.setFrames fs) :
    Steps p.tables e below (T0.setTop (mkF m 0 #[.val (.int (60 : Int32)), .val (.int p2)] [])) (T0.setFrames fs) := by
  show Steps p.tables e below (T0.setTop (mkF m 0 #[.val (.int (60 : Int32)), .val (.int p2)] [])) _
  refine XS.iloadN X0.here hx rfl (hb hby d1_0) rfl ?_
  show Steps p.tables e below (T0.setTop (mkF m 1 #[.val (.int (60 : Int32)), .val (.int p2)] [(.int (60 : Int32))])) _
  refine XS.tswIn X0.here hx rfl (pc0 := 1) (pc' := 330) rfl (hb hby d1_1) rfl (by decide) (o := 329) (by decide) (by decide) (by decide) ?_
  show Steps p.tables e below (T0.setTop (mkF m 330 #[.val (.int (60 : Int32)), .val (.int p2)] [])) _
  refine XS.iloadN X0.here hx rfl (hb hby d1_330) rfl ?_
  show Steps p.tables e below (T0.setTop (mkF m 331 #[.val (.int (60 : Int32)), .val (.int p2)] [(.int (60 : Int32))])) _
  refine XS.bipush X0.here hx rfl (hb hby d1_331) ?_
  show Steps p.tables e below (T0.setTop (mkF m 333 #[.val (.int (60 : Int32)), .val (.int p2)] [(.int (7 : Int32)), (.int (60 : Int32))])) _
  refine XS.icmpNo X0.here hx rfl (hb hby d1_333) rfl (flt (by decide : ¬ ((60 : Int32) < (7 : Int32)))).1 ?_
  show Steps p.tables e below (T0.setTop (mkF m 336 #[.val (.int (60 : Int32)), .val (.int p2)] [])) _
  refine XS.iloadN X0.here hx rfl (hb hby d1_336) rfl ?_
  show Steps p.tables e below (T0.setTop (mkF m 337 #[.val (.int (60 : Int32)), .val (.int p2)] [(.int (60 : Int32))])) _
  refine XS.bipush X0.here hx rfl (hb hby d1_337) ?_
  show Steps p.tables e below (T0.setTop (mkF m 339 #[.val (.int (60 : Int32)), .val (.int p2)] [(.int (25 : Int32)), (.int (60 : Int32))])) _
  refine XS.icmpYes X0.here hx rfl (pc0 := 339) (pc' := 346) rfl (hb hby d1_339) rfl (tlt (by decide : (25 : Int32) < (60 : Int32))).2.2.1 (by decide) (by decide) ?_
  show Steps p.tables e below (T0.setTop (mkF m 346 #[.val (.int (60 : Int32)), .val (.int p2)] [])) _
  refine XS.iconst X0.here hx rfl (hb hby d1_346) ?_
  show Steps p.tables e below (T0.setTop (mkF m 347 #[.val (.int (60 : Int32)), .val (.int p2)] [(.int (0 : Int32))])) _
  exact retI X0 hx hret (hb hby d1_347) hr
set_option maxRecDepth 65536 in
set_option maxHeartbeats 40000000 in
theorem se_61 {p : Program} {l : Launch} {e : Env} {R : Room} {s : State} {m : MethodId} {args : Array Value} {below : List Frame} {meth : Method} {c : Code} {T0 : State} {locs : List Loc} {cells slots : Nat} (p2 : Int32)
    (X0 : Stand p l e R s m args below meth c T0 locs cells slots) (hx : p.tables.exec = Jvm.exec) (hby : c.code = prog_20_method_6_code) (hret : meth.sig.returnType = some .int) {fs : List Frame}
    (hr : ∀ (f : JFrame) (acts : List Action), f.method = m → f.locked = none → f.entered = [] → (doReturn e (T0.setTop f) acts (some (.int (1 : Int32)))).1 = T0.setFrames fs) :
    Steps p.tables e below (T0.setTop (mkF m 0 #[.val (.int (61 : Int32)), .val (.int p2)] [])) (T0.setFrames fs) := by
  show Steps p.tables e below (T0.setTop (mkF m 0 #[.val (.int (61 : Int32)), .val (.int p2)] [])) _
  refine XS.iloadN X0.here hx rfl (hb hby d1_0) rfl ?_
  show Steps p.tables e below (T0.setTop (mkF m 1 #[.val (.int (61 : Int32)), .val (.int p2)] [(.int (61 : Int32))])) _
  refine XS.tswIn X0.here hx rfl (pc0 := 1) (pc' := 312) rfl (hb hby d1_1) rfl (by decide) (o := 311) (by decide) (by decide) (by decide) ?_
  show Steps p.tables e below (T0.setTop (mkF m 312 #[.val (.int (61 : Int32)), .val (.int p2)] [])) _
  refine XS.iconst X0.here hx rfl (hb hby d1_312) ?_
  show Steps p.tables e below (T0.setTop (mkF m 313 #[.val (.int (61 : Int32)), .val (.int p2)] [(.int (1 : Int32))])) _
  exact retI X0 hx hret (hb hby d1_313) hr
set_option maxRecDepth 65536 in
set_option maxHeartbeats 40000000 in
theorem se_62 {p : Program} {l : Launch} {e : Env} {R : Room} {s : State} {m : MethodId} {args : Array Value} {below : List Frame} {meth : Method} {c : Code} {T0 : State} {locs : List Loc} {cells slots : Nat} (p2 : Int32)
    (X0 : Stand p l e R s m args below meth c T0 locs cells slots) (hx : p.tables.exec = Jvm.exec) (hby : c.code = prog_20_method_6_code) (hret : meth.sig.returnType = some .int) {fs : List Frame}
    (hr : ∀ (f : JFrame) (acts : List Action), f.method = m → f.locked = none → f.entered = [] → (doReturn e (T0.setTop f) acts (some (.int (-1 : Int32)))).1 = T0.setFrames fs) :
    Steps p.tables e below (T0.setTop (mkF m 0 #[.val (.int (62 : Int32)), .val (.int p2)] [])) (T0.setFrames fs) := by
  show Steps p.tables e below (T0.setTop (mkF m 0 #[.val (.int (62 : Int32)), .val (.int p2)] [])) _
  refine XS.iloadN X0.here hx rfl (hb hby d1_0) rfl ?_
  show Steps p.tables e below (T0.setTop (mkF m 1 #[.val (.int (62 : Int32)), .val (.int p2)] [(.int (62 : Int32))])) _
  refine XS.tswIn X0.here hx rfl (pc0 := 1) (pc' := 316) rfl (hb hby d1_1) rfl (by decide) (o := 315) (by decide) (by decide) (by decide) ?_
  show Steps p.tables e below (T0.setTop (mkF m 316 #[.val (.int (62 : Int32)), .val (.int p2)] [])) _
  refine XS.iconst X0.here hx rfl (hb hby d1_316) ?_
  show Steps p.tables e below (T0.setTop (mkF m 317 #[.val (.int (62 : Int32)), .val (.int p2)] [(.int (-1 : Int32))])) _
  exact retI X0 hx hret (hb hby d1_317) hr
set_option maxRecDepth 65536 in
set_option maxHeartbeats 40000000 in
theorem se_63 {p : Program} {l : Launch} {e : Env} {R : Room} {s : State} {m : MethodId} {args : Array Value} {below : List Frame} {meth : Method} {c : Code} {T0 : State} {locs : List Loc} {cells slots : Nat} (p2 : Int32)
    (X0 : Stand p l e R s m args below meth c T0 locs cells slots) (hx : p.tables.exec = Jvm.exec) (hby : c.code = prog_20_method_6_code) (hret : meth.sig.returnType = some .int) {fs : List Frame}
    (hr : ∀ (f : JFrame) (acts : List Action), f.method = m → f.locked = none → f.entered = [] → (doReturn e (T0.setTop f) acts (some (.int (-1 : Int32)))).1 = T0.setFrames fs) :
    Steps p.tables e below (T0.setTop (mkF m 0 #[.val (.int (63 : Int32)), .val (.int p2)] [])) (T0.setFrames fs) := by
  show Steps p.tables e below (T0.setTop (mkF m 0 #[.val (.int (63 : Int32)), .val (.int p2)] [])) _
  refine XS.iloadN X0.here hx rfl (hb hby d1_0) rfl ?_
  show Steps p.tables e below (T0.setTop (mkF m 1 #[.val (.int (63 : Int32)), .val (.int p2)] [(.int (63 : Int32))])) _
  refine XS.tswIn X0.here hx rfl (pc0 := 1) (pc' := 316) rfl (hb hby d1_1) rfl (by decide) (o := 315) (by decide) (by decide) (by decide) ?_
  show Steps p.tables e below (T0.setTop (mkF m 316 #[.val (.int (63 : Int32)), .val (.int p2)] [])) _
  refine XS.iconst X0.here hx rfl (hb hby d1_316) ?_
  show Steps p.tables e below (T0.setTop (mkF m 317 #[.val (.int (63 : Int32)), .val (.int p2)] [(.int (-1 : Int32))])) _
  exact retI X0 hx hret (hb hby d1_317) hr
set_option maxRecDepth 65536 in
set_option maxHeartbeats 40000000 in
theorem se_64 {p : Program} {l : Launch} {e : Env} {R : Room} {s : State} {m : MethodId} {args : Array Value} {below : List Frame} {meth : Method} {c : Code} {T0 : State} {locs : List Loc} {cells slots : Nat} (p2 : Int32)
    (X0 : Stand p l e R s m args below meth c T0 locs cells slots) (hx : p.tables.exec = Jvm.exec) (hby : c.code = prog_20_method_6_code) (hret : meth.sig.returnType = some .int) {fs : List Frame}
    (hr : ∀ (f : JFrame) (acts : List Action), f.method = m → f.locked = none → f.entered = [] → (doReturn e (T0.setTop f) acts (some (.int (0 : Int32)))).1 = T0.setFrames fs) :
    Steps p.tables e below (T0.setTop (mkF m 0 #[.val (.int (64 : Int32)), .val (.int p2)] [])) (T0.setFrames fs) := by
  show Steps p.tables e below (T0.setTop (mkF m 0 #[.val (.int (64 : Int32)), .val (.int p2)] [])) _
  refine XS.iloadN X0.here hx rfl (hb hby d1_0) rfl ?_
  show Steps p.tables e below (T0.setTop (mkF m 1 #[.val (.int (64 : Int32)), .val (.int p2)] [(.int (64 : Int32))])) _
  refine XS.tswIn X0.here hx rfl (pc0 := 1) (pc' := 330) rfl (hb hby d1_1) rfl (by decide) (o := 329) (by decide) (by decide) (by decide) ?_
  show Steps p.tables e below (T0.setTop (mkF m 330 #[.val (.int (64 : Int32)), .val (.int p2)] [])) _
  refine XS.iloadN X0.here hx rfl (hb hby d1_330) rfl ?_
  show Steps p.tables e below (T0.setTop (mkF m 331 #[.val (.int (64 : Int32)), .val (.int p2)] [(.int (64 : Int32))])) _
  refine XS.bipush X0.here hx rfl (hb hby d1_331) ?_
  show Steps p.tables e below (T0.setTop (mkF m 333 #[.val (.int (64 : Int32)), .val (.int p2)] [(.int (7 : Int32)), (.int (64 : Int32))])) _
  refine XS.icmpNo X0.here hx rfl (hb hby d1_333) rfl (flt (by decide : ¬ ((64 : Int32) < (7 : Int32)))).1 ?_
  show Steps p.tables e below (T0.setTop (mkF m 336 #[.val (.int (64 : Int32)), .val (.int p2)] [])) _
  refine XS.iloadN X0.here hx rfl (hb hby d1_336) rfl ?_
  show Steps p.tables e below (T0.setTop (mkF m 337 #[.val (.int (64 : Int32)), .val (.int p2)] [(.int (64 : Int32))])) _
  refine XS.bipush X0.here hx rfl (hb hby d1_337) ?_
  show Steps p.tables e below (T0.setTop (mkF m 339 #[.val (.int (64 : Int32)), .val (.int p2)] [(.int (25 : Int32)), (.int (64 : Int32))])) _
  refine XS.icmpYes X0.here hx rfl (pc0 := 339) (pc' := 346) rfl (hb hby d1_339) rfl (tlt (by decide : (25 : Int32) < (64 : Int32))).2.2.1 (by decide) (by decide) ?_
  show Steps p.tables e below (T0.setTop (mkF m 346 #[.val (.int (64 : Int32)), .val (.int p2)] [])) _
  refine XS.iconst X0.here hx rfl (hb hby d1_346) ?_
  show Steps p.tables e below (T0.setTop (mkF m 347 #[.val (.int (64 : Int32)), .val (.int p2)] [(.int (0 : Int32))])) _
  exact retI X0 hx hret (hb hby d1_347) hr
set_option maxRecDepth 65536 in
set_option maxHeartbeats 40000000 in
theorem se_65 {p : Program} {l : Launch} {e : Env} {R : Room} {s : State} {m : MethodId} {args : Array Value} {below : List Frame} {meth : Method} {c : Code} {T0 : State} {locs : List Loc} {cells slots : Nat} (p2 : Int32)
    (X0 : Stand p l e R s m args below meth c T0 locs cells slots) (hx : p.tables.exec = Jvm.exec) (hby : c.code = prog_20_method_6_code) (hret : meth.sig.returnType = some .int) {fs : List Frame}
    (hr : ∀ (f : JFrame) (acts : List Action), f.method = m → f.locked = none → f.entered = [] → (doReturn e (T0.setTop f) acts (some (.int (-1 : Int32)))).1 = T0.setFrames fs) :
    Steps p.tables e below (T0.setTop (mkF m 0 #[.val (.int (65 : Int32)), .val (.int p2)] [])) (T0.setFrames fs) := by
  show Steps p.tables e below (T0.setTop (mkF m 0 #[.val (.int (65 : Int32)), .val (.int p2)] [])) _
  refine XS.iloadN X0.here hx rfl (hb hby d1_0) rfl ?_
  show Steps p.tables e below (T0.setTop (mkF m 1 #[.val (.int (65 : Int32)), .val (.int p2)] [(.int (65 : Int32))])) _
  refine XS.tswIn X0.here hx rfl (pc0 := 1) (pc' := 316) rfl (hb hby d1_1) rfl (by decide) (o := 315) (by decide) (by decide) (by decide) ?_
  show Steps p.tables e below (T0.setTop (mkF m 316 #[.val (.int (65 : Int32)), .val (.int p2)] [])) _
  refine XS.iconst X0.here hx rfl (hb hby d1_316) ?_
  show Steps p.tables e below (T0.setTop (mkF m 317 #[.val (.int (65 : Int32)), .val (.int p2)] [(.int (-1 : Int32))])) _
  exact retI X0 hx hret (hb hby d1_317) hr
set_option maxRecDepth 65536 in
set_option maxHeartbeats 40000000 in
theorem se_66 {p : Program} {l : Launch} {e : Env} {R : Room} {s : State} {m : MethodId} {args : Array Value} {below : List Frame} {meth : Method} {c : Code} {T0 : State} {locs : List Loc} {cells slots : Nat} (p2 : Int32)
    (X0 : Stand p l e R s m args below meth c T0 locs cells slots) (hx : p.tables.exec = Jvm.exec) (hby : c.code = prog_20_method_6_code) (hret : meth.sig.returnType = some .int) {fs : List Frame}
    (hr : ∀ (f : JFrame) (acts : List Action), f.method = m → f.locked = none → f.entered = [] → (doReturn e (T0.setTop f) acts (some (.int (0 : Int32)))).1 = T0.setFrames fs) :
    Steps p.tables e below (T0.setTop (mkF m 0 #[.val (.int (66 : Int32)), .val (.int p2)] [])) (T0.setFrames fs) := by
  show Steps p.tables e below (T0.setTop (mkF m 0 #[.val (.int (66 : Int32)), .val (.int p2)] [])) _
  refine XS.iloadN X0.here hx rfl (hb hby d1_0) rfl ?_
  show Steps p.tables e below (T0.setTop (mkF m 1 #[.val (.int (66 : Int32)), .val (.int p2)] [(.int (66 : Int32))])) _
  refine XS.tswIn X0.here hx rfl (pc0 := 1) (pc' := 330) rfl (hb hby d1_1) rfl (by decide) (o := 329) (by decide) (by decide) (by decide) ?_
  show Steps p.tables e below (T0.setTop (mkF m 330 #[.val (.int (66 : Int32)), .val (.int p2)] [])) _
  refine XS.iloadN X0.here hx rfl (hb hby d1_330) rfl ?_
  show Steps p.tables e below (T0.setTop (mkF m 331 #[.val (.int (66 : Int32)), .val (.int p2)] [(.int (66 : Int32))])) _
  refine XS.bipush X0.here hx rfl (hb hby d1_331) ?_
  show Steps p.tables e below (T0.setTop (mkF m 333 #[.val (.int (66 : Int32)), .val (.int p2)] [(.int (7 : Int32)), (.int (66 : Int32))])) _
  refine XS.icmpNo X0.here hx rfl (hb hby d1_333) rfl (flt (by decide : ¬ ((66 : Int32) < (7 : Int32)))).1 ?_
  show Steps p.tables e below (T0.setTop (mkF m 336 #[.val (.int (66 : Int32)), .val (.int p2)] [])) _
  refine XS.iloadN X0.here hx rfl (hb hby d1_336) rfl ?_
  show Steps p.tables e below (T0.setTop (mkF m 337 #[.val (.int (66 : Int32)), .val (.int p2)] [(.int (66 : Int32))])) _
  refine XS.bipush X0.here hx rfl (hb hby d1_337) ?_
  show Steps p.tables e below (T0.setTop (mkF m 339 #[.val (.int (66 : Int32)), .val (.int p2)] [(.int (25 : Int32)), (.int (66 : Int32))])) _
  refine XS.icmpYes X0.here hx rfl (pc0 := 339) (pc' := 346) rfl (hb hby d1_339) rfl (tlt (by decide : (25 : Int32) < (66 : Int32))).2.2.1 (by decide) (by decide) ?_
  show Steps p.tables e below (T0.setTop (mkF m 346 #[.val (.int (66 : Int32)), .val (.int p2)] [])) _
  refine XS.iconst X0.here hx rfl (hb hby d1_346) ?_
  show Steps p.tables e below (T0.setTop (mkF m 347 #[.val (.int (66 : Int32)), .val (.int p2)] [(.int (0 : Int32))])) _
  exact retI X0 hx hret (hb hby d1_347) hr
set_option maxRecDepth 65536 in
set_option maxHeartbeats 40000000 in
theorem se_67 {p : Program} {l : Launch} {e : Env} {R : Room} {s : State} {m : MethodId} {args : Array Value} {below : List Frame} {meth : Method} {c : Code} {T0 : State} {locs : List Loc} {cells slots : Nat} (p2 : Int32)
    (X0 : Stand p l e R s m args below meth c T0 locs cells slots) (hx : p.tables.exec = Jvm.exec) (hby : c.code = prog_20_method_6_code) (hret : meth.sig.returnType = some .int) {fs : List Frame}
    (hr : ∀ (f : JFrame) (acts : List Action), f.method = m → f.locked = none → f.entered = [] → (doReturn e (T0.setTop f) acts (some (.int (-1 : Int32)))).1 = T0.setFrames fs) :
    Steps p.tables e below (T0.setTop (mkF m 0 #[.val (.int (67 : Int32)), .val (.int p2)] [])) (T0.setFrames fs) := by
  show Steps p.tables e below (T0.setTop (mkF m 0 #[.val (.int (67 : Int32)), .val (.int p2)] [])) _
  refine XS.iloadN X0.here hx rfl (hb hby d1_0) rfl ?_
  show Steps p.tables e below (T0.setTop (mkF m 1 #[.val (.int (67 : Int32)), .val (.int p2)] [(.int (67 : Int32))])) _
  refine XS.tswIn X0.here hx rfl (pc0 := 1) (pc' := 316) rfl (hb hby d1_1) rfl (by decide) (o := 315) (by decide) (by decide) (by decide) ?_
  show Steps p.tables e below (T0.setTop (mkF m 316 #[.val (.int (67 : Int32)), .val (.int p2)] [])) _
  refine XS.iconst X0.here hx rfl (hb hby d1_316) ?_
  show Steps p.tables e below (T0.setTop (mkF m 317 #[.val (.int (67 : Int32)), .val (.int p2)] [(.int (-1 : Int32))])) _
  exact retI X0 hx hret (hb hby d1_317) hr
set_option maxRecDepth 65536 in
set_option maxHeartbeats 40000000 in
theorem se_68 {p : Program} {l : Launch} {e : Env} {R : Room} {s : State} {m : MethodId} {args : Array Value} {below : List Frame} {meth : Method} {c : Code} {T0 : State} {locs : List Loc} {cells slots : Nat} (p2 : Int32)
    (X0 : Stand p l e R s m args below meth c T0 locs cells slots) (hx : p.tables.exec = Jvm.exec) (hby : c.code = prog_20_method_6_code) (hret : meth.sig.returnType = some .int) {fs : List Frame}
    (hr : ∀ (f : JFrame) (acts : List Action), f.method = m → f.locked = none → f.entered = [] → (doReturn e (T0.setTop f) acts (some (.int (0 : Int32)))).1 = T0.setFrames fs) :
    Steps p.tables e below (T0.setTop (mkF m 0 #[.val (.int (68 : Int32)), .val (.int p2)] [])) (T0.setFrames fs) := by
  show Steps p.tables e below (T0.setTop (mkF m 0 #[.val (.int (68 : Int32)), .val (.int p2)] [])) _
  refine XS.iloadN X0.here hx rfl (hb hby d1_0) rfl ?_
  show Steps p.tables e below (T0.setTop (mkF m 1 #[.val (.int (68 : Int32)), .val (.int p2)] [(.int (68 : Int32))])) _
  refine XS.tswIn X0.here hx rfl (pc0 := 1) (pc' := 330) rfl (hb hby d1_1) rfl (by decide) (o := 329) (by decide) (by decide) (by decide) ?_
  show Steps p.tables e below (T0.setTop (mkF m 330 #[.val (.int (68 : Int32)), .val (.int p2)] [])) _
  refine XS.iloadN X0.here hx rfl (hb hby d1_330) rfl ?_
  show Steps p.tables e below (T0.setTop (mkF m 331 #[.val (.int (68 : Int32)), .val (.int p2)] [(.int (68 : Int32))])) _
  refine XS.bipush X0.here hx rfl (hb hby d1_331) ?_
  show Steps p.tables e below (T0.setTop (mkF m 333 #[.val (.int (68 : Int32)), .val (.int p2)] [(.int (7 : Int32)), (.int (68 : Int32))])) _
  refine XS.icmpNo X0.here hx rfl (hb hby d1_333) rfl (flt (by decide : ¬ ((68 : Int32) < (7 : Int32)))).1 ?_
  show Steps p.tables e below (T0.setTop (mkF m 336 #[.val (.int (68 : Int32)), .val (.int p2)] [])) _
  refine XS.iloadN X0.here hx rfl (hb hby d1_336) rfl ?_
  show Steps p.tables e below (T0.setTop (mkF m 337 #[.val (.int (68 : Int32)), .val (.int p2)] [(.int (68 : Int32))])) _
  refine XS.bipush X0.here hx rfl (hb hby d1_337) ?_
  show Steps p.tables e below (T0.setTop (mkF m 339 #[.val (.int (68 : Int32)), .val (.int p2)] [(.int (25 : Int32)), (.int (68 : Int32))])) _
  refine XS.icmpYes X0.here hx rfl (pc0 := 339) (pc' := 346) rfl (hb hby d1_339) rfl (tlt (by decide : (25 : Int32) < (68 : Int32))).2.2.1 (by decide) (by decide) ?_
  show Steps p.tables e below (T0.setTop (mkF m 346 #[.val (.int (68 : Int32)), .val (.int p2)] [])) _
  refine XS.iconst X0.here hx rfl (hb hby d1_346) ?_
  show Steps p.tables e below (T0.setTop (mkF m 347 #[.val (.int (68 : Int32)), .val (.int p2)] [(.int (0 : Int32))])) _
  exact retI X0 hx hret (hb hby d1_347) hr
set_option maxRecDepth 65536 in
set_option maxHeartbeats 40000000 in
theorem se_69 {p : Program} {l : Launch} {e : Env} {R : Room} {s : State} {m : MethodId} {args : Array Value} {below : List Frame} {meth : Method} {c : Code} {T0 : State} {locs : List Loc} {cells slots : Nat} (p2 : Int32)
    (X0 : Stand p l e R s m args below meth c T0 locs cells slots) (hx : p.tables.exec = Jvm.exec) (hby : c.code = prog_20_method_6_code) (hret : meth.sig.returnType = some .int) {fs : List Frame}
    (hr : ∀ (f : JFrame) (acts : List Action), f.method = m → f.locked = none → f.entered = [] → (doReturn e (T0.setTop f) acts (some (.int (1 : Int32)))).1 = T0.setFrames fs) :
    Steps p.tables e below (T0.setTop (mkF m 0 #[.val (.int (69 : Int32)), .val (.int p2)] [])) (T0.setFrames fs) := by
  show Steps p.tables e below (T0.setTop (mkF m 0 #[.val (.int (69 : Int32)), .val (.int p2)] [])) _
  refine XS.iloadN X0.here hx rfl (hb hby d1_0) rfl ?_
  show Steps p.tables e below (T0.setTop (mkF m 1 #[.val (.int (69 : Int32)), .val (.int p2)] [(.int (69 : Int32))])) _
  refine XS.tswIn X0.here hx rfl (pc0 := 1) (pc' := 312) rfl (hb hby d1_1) rfl (by decide) (o := 311) (by decide) (by decide) (by decide) ?_
  show Steps p.tables e below (T0.setTop (mkF m 312 #[.val (.int (69 : Int32)), .val (.int p2)] [])) _
  refine XS.iconst X0.here hx rfl (hb hby d1_312) ?_
  show Steps p.tables e below (T0.setTop (mkF m 313 #[.val (.int (69 : Int32)), .val (.int p2)] [(.int (1 : Int32))])) _
  exact retI X0 hx hret (hb hby d1_313) hr
set_option maxRecDepth 65536 in
set_option maxHeartbeats 40000000 in
theorem se_70 {p : Program} {l : Launch} {e : Env} {R : Room} {s : State} {m : MethodId} {args : Array Value} {below : List Frame} {meth : Method} {c : Code} {T0 : State} {locs : List Loc} {cells slots : Nat} (p2 : Int32)
    (X0 : Stand p l e R s m args below meth c T0 locs cells slots) (hx : p.tables.exec = Jvm.exec) (hby : c.code = prog_20_method_6_code) (hret : meth.sig.returnType = some .int) {fs : List Frame}
    (hr : ∀ (f : JFrame) (acts : List Action), f.method = m → f.locked = none → f.entered = [] → (doReturn e (T0.setTop f) acts (some (.int (0 : Int32)))).1 = T0.setFrames fs) :
    Steps p.tables e below (T0.setTop (mkF m 0 #[.val (.int (70 : Int32)), .val (.int p2)] [])) (T0.setFrames fs) := by
  show Steps p.tables e below (T0.setTop (mkF m 0 #[.val (.int (70 : Int32)), .val (.int p2)] [])) _
  refine XS.iloadN X0.here hx rfl (hb hby d1_0) rfl ?_
  show Steps p.tables e below (T0.setTop (mkF m 1 #[.val (.int (70 : Int32)), .val (.int p2)] [(.int (70 : Int32))])) _
  refine XS.tswIn X0.here hx rfl (pc0 := 1) (pc' := 330) rfl (hb hby d1_1) rfl (by decide) (o := 329) (by decide) (by decide) (by decide) ?_
  show Steps p.tables e below (T0.setTop (mkF m 330 #[.val (.int (70 : Int32)), .val (.int p2)] [])) _
  refine XS.iloadN X0.here hx rfl (hb hby d1_330) rfl ?_
  show Steps p.tables e below (T0.setTop (mkF m 331 #[.val (.int (70 : Int32)), .val (.int p2)] [(.int (70 : Int32))])) _
  refine XS.bipush X0.here hx rfl (hb hby d1_331) ?_
  show Steps p.tables e below (T0.setTop (mkF m 333 #[.val (.int (70 : Int32)), .val (.int p2)] [(.int (7 : Int32)), (.int (70 : Int32))])) _
  refine XS.icmpNo X0.here hx rfl (hb hby d1_333) rfl (flt (by decide : ¬ ((70 : Int32) < (7 : Int32)))).1 ?_
  show Steps p.tables e below (T0.setTop (mkF m 336 #[.val (.int (70 : Int32)), .val (.int p2)] [])) _
  refine XS.iloadN X0.here hx rfl (hb hby d1_336) rfl ?_
  show Steps p.tables e below (T0.setTop (mkF m 337 #[.val (.int (70 : Int32)), .val (.int p2)] [(.int (70 : Int32))])) _
  refine XS.bipush X0.here hx rfl (hb hby d1_337) ?_
  show Steps p.tables e below (T0.setTop (mkF m 339 #[.val (.int (70 : Int32)), .val (.int p2)] [(.int (25 : Int32)), (.int (70 : Int32))])) _
  refine XS.icmpYes X0.here hx rfl (pc0 := 339) (pc' := 346) rfl (hb hby d1_339) rfl (tlt (by decide : (25 : Int32) < (70 : Int32))).2.2.1 (by decide) (by decide) ?_
  show Steps p.tables e below (T0.setTop (mkF m 346 #[.val (.int (70 : Int32)), .val (.int p2)] [])) _
  refine XS.iconst X0.here hx rfl (hb hby d1_346) ?_
  show Steps p.tables e below (T0.setTop (mkF m 347 #[.val (.int (70 : Int32)), .val (.int p2)] [(.int (0 : Int32))])) _
  exact retI X0 hx hret (hb hby d1_347) hr
set_option maxRecDepth 65536 in
set_option maxHeartbeats 40000000 in
theorem se_71 {p : Program} {l : Launch} {e : Env} {R : Room} {s : State} {m : MethodId} {args : Array Value} {below : List Frame} {meth : Method} {c : Code} {T0 : State} {locs : List Loc} {cells slots : Nat} (p2 : Int32)
    (X0 : Stand p l e R s m args below meth c T0 locs cells slots) (hx : p.tables.exec = Jvm.exec) (hby : c.code = prog_20_method_6_code) (hret : meth.sig.returnType = some .int) {fs : List Frame}
    (hr : ∀ (f : JFrame) (acts : List Action), f.method = m → f.locked = none → f.entered = [] → (doReturn e (T0.setTop f) acts (some (.int (0 : Int32)))).1 = T0.setFrames fs) :
    Steps p.tables e below (T0.setTop (mkF m 0 #[.val (.int (71 : Int32)), .val (.int p2)] [])) (T0.setFrames fs) := by
  show Steps p.tables e below (T0.setTop (mkF m 0 #[.val (.int (71 : Int32)), .val (.int p2)] [])) _
  refine XS.iloadN X0.here hx rfl (hb hby d1_0) rfl ?_
  show Steps p.tables e below (T0.setTop (mkF m 1 #[.val (.int (71 : Int32)), .val (.int p2)] [(.int (71 : Int32))])) _
  refine XS.tswIn X0.here hx rfl (pc0 := 1) (pc' := 330) rfl (hb hby d1_1) rfl (by decide) (o := 329) (by decide) (by decide) (by decide) ?_
  show Steps p.tables e below (T0.setTop (mkF m 330 #[.val (.int (71 : Int32)), .val (.int p2)] [])) _
  refine XS.iloadN X0.here hx rfl (hb hby d1_330) rfl ?_
  show Steps p.tables e below (T0.setTop (mkF m 331 #[.val (.int (71 : Int32)), .val (.int p2)] [(.int (71 : Int32))])) _
  refine XS.bipush X0.here hx rfl (hb hby d1_331) ?_
  show Steps p.tables e below (T0.setTop (mkF m 333 #[.val (.int (71 : Int32)), .val (.int p2)] [(.int (7 : Int32)), (.int (71 : Int32))])) _
  refine XS.icmpNo X0.here hx rfl (hb hby d1_333) rfl (flt (by decide : ¬ ((71 : Int32) < (7 : Int32)))).1 ?_
  show Steps p.tables e below (T0.setTop (mkF m 336 #[.val (.int (71 : Int32)), .val (.int p2)] [])) _
  refine XS.iloadN X0.here hx rfl (hb hby d1_336) rfl ?_
  show Steps p.tables e below (T0.setTop (mkF m 337 #[.val (.int (71 : Int32)), .val (.int p2)] [(.int (71 : Int32))])) _
  refine XS.bipush X0.here hx rfl (hb hby d1_337) ?_
  show Steps p.tables e below (T0.setTop (mkF m 339 #[.val (.int (71 : Int32)), .val (.int p2)] [(.int (25 : Int32)), (.int (71 : Int32))])) _
  refine XS.icmpYes X0.here hx rfl (pc0 := 339) (pc' := 346) rfl (hb hby d1_339) rfl (tlt (by decide : (25 : Int32) < (71 : Int32))).2.2.1 (by decide) (by decide) ?_
  show Steps p.tables e below (T0.setTop (mkF m 346 #[.val (.int (71 : Int32)), .val (.int p2)] [])) _
  refine XS.iconst X0.here hx rfl (hb hby d1_346) ?_
  show Steps p.tables e below (T0.setTop (mkF m 347 #[.val (.int (71 : Int32)), .val (.int p2)] [(.int (0 : Int32))])) _
  exact retI X0 hx hret (hb hby d1_347) hr
set_option maxRecDepth 65536 in
set_option maxHeartbeats 40000000 in
theorem se_72 {p : Program} {l : Launch} {e : Env} {R : Room} {s : State} {m : MethodId} {args : Array Value} {below : List Frame} {meth : Method} {c : Code} {T0 : State} {locs : List Loc} {cells slots : Nat} (p2 : Int32)
    (X0 : Stand p l e R s m args below meth c T0 locs cells slots) (hx : p.tables.exec = Jvm.exec) (hby : c.code = prog_20_method_6_code) (hret : meth.sig.returnType = some .int) {fs : List Frame}
    (hr : ∀ (f : JFrame) (acts : List Action), f.method = m → f.locked = none → f.entered = [] → (doReturn e (T0.setTop f) acts (some (.int (0 : Int32)))).1 = T0.setFrames fs) :
    Steps p.tables e below (T0.setTop (mkF m 0 #[.val (.int (72 : Int32)), .val (.int p2)] [])) (T0.setFrames fs) := by
  show Steps p.tables e below (T0.setTop (mkF m 0 #[.val (.int (72 : Int32)), .val (.int p2)] [])) _
  refine XS.iloadN X0.here hx rfl (hb hby d1_0) rfl ?_
  show Steps p.tables e below (T0.setTop (mkF m 1 #[.val (.int (72 : Int32)), .val (.int p2)] [(.int (72 : Int32))])) _
  refine XS.tswIn X0.here hx rfl (pc0 := 1) (pc' := 330) rfl (hb hby d1_1) rfl (by decide) (o := 329) (by decide) (by decide) (by decide) ?_
  show Steps p.tables e below (T0.setTop (mkF m 330 #[.val (.int (72 : Int32)), .val (.int p2)] [])) _
  refine XS.iloadN X0.here hx rfl (hb hby d1_330) rfl ?_
  show Steps p.tables e below (T0.setTop (mkF m 331 #[.val (.int (72 : Int32)), .val (.int p2)] [(.int (72 : Int32))])) _
  refine XS.bipush X0.here hx rfl (hb hby d1_331) ?_
  show Steps p.tables e below (T0.setTop (mkF m 333 #[.val (.int (72 : Int32)), .val (.int p2)] [(.int (7 : Int32)), (.int (72 : Int32))])) _
  refine XS.icmpNo X0.here hx rfl (hb hby d1_333) rfl (flt (by decide : ¬ ((72 : Int32) < (7 : Int32)))).1 ?_
  show Steps p.tables e below (T0.setTop (mkF m 336 #[.val (.int (72 : Int32)), .val (.int p2)] [])) _
  refine XS.iloadN X0.here hx rfl (hb hby d1_336) rfl ?_
  show Steps p.tables e below (T0.setTop (mkF m 337 #[.val (.int (72 : Int32)), .val (.int p2)] [(.int (72 : Int32))])) _
  refine XS.bipush X0.here hx rfl (hb hby d1_337) ?_
  show Steps p.tables e below (T0.setTop (mkF m 339 #[.val (.int (72 : Int32)), .val (.int p2)] [(.int (25 : Int32)), (.int (72 : Int32))])) _
  refine XS.icmpYes X0.here hx rfl (pc0 := 339) (pc' := 346) rfl (hb hby d1_339) rfl (tlt (by decide : (25 : Int32) < (72 : Int32))).2.2.1 (by decide) (by decide) ?_
  show Steps p.tables e below (T0.setTop (mkF m 346 #[.val (.int (72 : Int32)), .val (.int p2)] [])) _
  refine XS.iconst X0.here hx rfl (hb hby d1_346) ?_
  show Steps p.tables e below (T0.setTop (mkF m 347 #[.val (.int (72 : Int32)), .val (.int p2)] [(.int (0 : Int32))])) _
  exact retI X0 hx hret (hb hby d1_347) hr
set_option maxRecDepth 65536 in
set_option maxHeartbeats 40000000 in
theorem se_73 {p : Program} {l : Launch} {e : Env} {R : Room} {s : State} {m : MethodId} {args : Array Value} {below : List Frame} {meth : Method} {c : Code} {T0 : State} {locs : List Loc} {cells slots : Nat} (p2 : Int32)
    (X0 : Stand p l e R s m args below meth c T0 locs cells slots) (hx : p.tables.exec = Jvm.exec) (hby : c.code = prog_20_method_6_code) (hret : meth.sig.returnType = some .int) {fs : List Frame}
    (hr : ∀ (f : JFrame) (acts : List Action), f.method = m → f.locked = none → f.entered = [] → (doReturn e (T0.setTop f) acts (some (.int (1 : Int32)))).1 = T0.setFrames fs) :
    Steps p.tables e below (T0.setTop (mkF m 0 #[.val (.int (73 : Int32)), .val (.int p2)] [])) (T0.setFrames fs) := by
  show Steps p.tables e below (T0.setTop (mkF m 0 #[.val (.int (73 : Int32)), .val (.int p2)] [])) _
  refine XS.iloadN X0.here hx rfl (hb hby d1_0) rfl ?_
  show Steps p.tables e below (T0.setTop (mkF m 1 #[.val (.int (73 : Int32)), .val (.int p2)] [(.int (73 : Int32))])) _
  refine XS.tswIn X0.here hx rfl (pc0 := 1) (pc' := 312) rfl (hb hby d1_1) rfl (by decide) (o := 311) (by decide) (by decide) (by decide) ?_
  show Steps p.tables e below (T0.setTop (mkF m 312 #[.val (.int (73 : Int32)), .val (.int p2)] [])) _
  refine XS.iconst X0.here hx rfl (hb hby d1_312) ?_
  show Steps p.tables e below (T0.setTop (mkF m 313 #[.val (.int (73 : Int32)), .val (.int p2)] [(.int (1 : Int32))])) _
  exact retI X0 hx hret (hb hby d1_313) hr
set_option maxRecDepth 65536 in
set_option maxHeartbeats 40000000 in
theorem se_74 {p : Program} {l : Launch} {e : Env} {R : Room} {s : State} {m : MethodId} {args : Array Value} {below : List Frame} {meth : Method} {c : Code} {T0 : State} {locs : List Loc} {cells slots : Nat} (p2 : Int32)
    (X0 : Stand p l e R s m args below meth c T0 locs cells slots) (hx : p.tables.exec = Jvm.exec) (hby : c.code = prog_20_method_6_code) (hret : meth.sig.returnType = some .int) {fs : List Frame}
    (hr : ∀ (f : JFrame) (acts : List Action), f.method = m → f.locked = none → f.entered = [] → (doReturn e (T0.setTop f) acts (some (.int (0 : Int32)))).1 = T0.setFrames fs) :
    Steps p.tables e below (T0.setTop (mkF m 0 #[.val (.int (74 : Int32)), .val (.int p2)] [])) (T0.setFrames fs) := by
  show Steps p.tables e below (T0.setTop (mkF m 0 #[.val (.int (74 : Int32)), .val (.int p2)] [])) _
  refine XS.iloadN X0.here hx rfl (hb hby d1_0) rfl ?_
  show Steps p.tables e below (T0.setTop (mkF m 1 #[.val (.int (74 : Int32)), .val (.int p2)] [(.int (74 : Int32))])) _
  refine XS.tswOut X0.here hx rfl (pc0 := 1) (pc' := 330) rfl (hb hby d1_1) rfl (by decide) (by decide) (by decide) ?_
  show Steps p.tables e below (T0.setTop (mkF m 330 #[.val (.int (74 : Int32)), .val (.int p2)] [])) _
  refine XS.iloadN X0.here hx rfl (hb hby d1_330) rfl ?_
  show Steps p.tables e below (T0.setTop (mkF m 331 #[.val (.int (74 : Int32)), .val (.int p2)] [(.int (74 : Int32))])) _
  refine XS.bipush X0.here hx rfl (hb hby d1_331) ?_
  show Steps p.tables e below (T0.setTop (mkF m 333 #[.val (.int (74 : Int32)), .val (.int p2)] [(.int (7 : Int32)), (.int (74 : Int32))])) _
  refine XS.icmpNo X0.here hx rfl (hb hby d1_333) rfl (flt (by decide : ¬ ((74 : Int32) < (7 : Int32)))).1 ?_
  show Steps p.tables e below (T0.setTop (mkF m 336 #[.val (.int (74 : Int32)), .val (.int p2)] [])) _
  refine XS.iloadN X0.here hx rfl (hb hby d1_336) rfl ?_
  show Steps p.tables e below (T0.setTop (mkF m 337 #[.val (.int (74 : Int32)), .val (.int p2)] [(.int (74 : Int32))])) _
  refine XS.bipush X0.here hx rfl (hb hby d1_337) ?_
  show Steps p.tables e below (T0.setTop (mkF m 339 #[.val (.int (74 : Int32)), .val (.int p2)] [(.int (25 : Int32)), (.int (74 : Int32))])) _
  refine XS.icmpYes X0.here hx rfl (pc0 := 339) (pc' := 346) rfl (hb hby d1_339) rfl (tlt (by decide : (25 : Int32) < (74 : Int32))).2.2.1 (by decide) (by decide) ?_
  show Steps p.tables e below (T0.setTop (mkF m 346 #[.val (.int (74 : Int32)), .val (.int p2)] [])) _
  refine XS.iconst X0.here hx rfl (hb hby d1_346) ?_
  show Steps p.tables e below (T0.setTop (mkF m 347 #[.val (.int (74 : Int32)), .val (.int p2)] [(.int (0 : Int32))])) _
  exact retI X0 hx hret (hb hby d1_347) hr
/-- what stackEffect answers where the operand doesn't matter -/
def own_tab : List Int32 := [1, 1, -1, 1, 1, 1, 0, -1, -1, -1, -1, -1, -1, -1, -1, -1, -1, -1, -1, -1, -1, -1, -1, -1, -1, -1, 0, 0, 0, 0, 0, 0, 0, 0, -1, -1, -1, -1, 0, -1, -1, 1, 0, 1, 0, 0, 1, 1, 2, 1, 0, -1, -1, 0, -2, -1, 0, 1, -1, 0, 0, 1, -1, -1, 0, -1, 0, -1, 0, 1, 0, 0, 0, 1, 0]
def own_eff (k : Nat) (n : Int32) : Int32 := if k = 38 then ((-n) - (1 : Int32)) else if k = 53 then ((-n) - (1 : Int32)) else if k = 59 then ((1 : Int32) - n) else own_tab.getD k 0
def own_pops : List Int32 := [0, 0, 1, 1, 0, 0, 1, 2, 2, 2, 2, 2, 2, 2, 2, 2, 2, 2, 2, 2, 2, 2, 2, 2, 2, 2, 1, 1, 1, 1, 1, 1, 1, 0, 1, 1, 1, 1, 2, 1, 2, 0, 1, 0, 1, 0, 0, 0, 2, 3, 3, 2, 2, 2, 3, 2, 2, 0, 2, 0, 1, 1, 1, 1, 0, 1, 1, 1, 0, 0, 1, 0, 1, 1, 1]
def own_pushes : List Int32 := [1, 1, 0, 2, 1, 1, 1, 1, 1, 1, 1, 1, 1, 1, 1, 1, 1, 1, 1, 1, 1, 1, 1, 1, 1, 1, 1, 1, 1, 1, 1, 1, 1, 0, 0, 0, 0, 0, 1, 0, 1, 1, 1, 1, 1, 0, 1, 1, 4, 4, 3, 1, 1, 1, 1, 1, 2, 1, 1, 1, 1, 2, 0, 0, 0, 0, 1, 0, 0, 1, 1, 0, 1, 2, 1]
set_option maxRecDepth 65536 in
set_option maxHeartbeats 40000000 in
theorem own_at {p : Program} {l : Launch} {e : Env} {R : Room} {s : State} {m : MethodId} {args : Array Value} {below : List Frame} {meth : Method} {c : Code} {T0 : State} {locs : List Loc} {cells slots : Nat} (p2 : Int32)
    (X0 : Stand p l e R s m args below meth c T0 locs cells slots) (hx : p.tables.exec = Jvm.exec) (hby : c.code = prog_20_method_6_code) (hret : meth.sig.returnType = some .int) {fs : List Frame} : ∀ (k : Nat), k < 75 →
    (∀ (f : JFrame) (acts : List Action), f.method = m → f.locked = none → f.entered = [] → (doReturn e (T0.setTop f) acts (some (.int (own_eff k p2)))).1 = T0.setFrames fs) →
    Steps p.tables e below (T0.setTop (mkF m 0 #[.val (.int (Int32.ofNat k)), .val (.int p2)] [])) (T0.setFrames fs)
  | 0, _, hr => se_0 p2 X0 hx hby hret hr
  | 1, _, hr => se_1 p2 X0 hx hby hret hr
  | 2, _, hr => se_2 p2 X0 hx hby hret hr
  | 3, _, hr => se_3 p2 X0 hx hby hret hr
  | 4, _, hr => se_4 p2 X0 hx hby hret hr
  | 5, _, hr => se_5 p2 X0 hx hby hret hr
  | 6, _, hr => se_6 p2 X0 hx hby hret hr
  | 7, _, hr => se_7 p2 X0 hx hby hret hr
  | 8, _, hr => se_8 p2 X0 hx hby hret hr
  | 9, _, hr => se_9 p2 X0 hx hby hret hr
  | 10, _, hr => se_10 p2 X0 hx hby hret hr
  | 11, _, hr => se_11 p2 X0 hx hby hret hr
  | 12, _, hr => se_12 p2 X0 hx hby hret hr
  | 13, _, hr => se_13 p2 X0 hx hby hret hr
  | 14, _, hr => se_14 p2 X0 hx hby hret hr
  | 15, _, hr => se_15 p2 X0 hx hby hret hr
  | 16, _, hr => se_16 p2 X0 hx hby hret hr
  | 17, _, hr => se_17 p2 X0 hx hby hret hr
  | 18, _, hr => se_18 p2 X0 hx hby hret hr
  | 19, _, hr => se_19 p2 X0 hx hby hret hr
  | 20, _, hr => se_20 p2 X0 hx hby hret hr
  | 21, _, hr => se_21 p2 X0 hx hby hret hr
  | 22, _, hr => se_22 p2 X0 hx hby hret hr
  | 23, _, hr => se_23 p2 X0 hx hby hret hr
  | 24, _, hr => se_24 p2 X0 hx hby hret hr
  | 25, _, hr => se_25 p2 X0 hx hby hret hr
  | 26, _, hr => se_26 p2 X0 hx hby hret hr
  | 27, _, hr => se_27 p2 X0 hx hby hret hr
  | 28, _, hr => se_28 p2 X0 hx hby hret hr
  | 29, _, hr => se_29 p2 X0 hx hby hret hr
  | 30, _, hr => se_30 p2 X0 hx hby hret hr
  | 31, _, hr => se_31 p2 X0 hx hby hret hr
  | 32, _, hr => se_32 p2 X0 hx hby hret hr
  | 33, _, hr => se_33 p2 X0 hx hby hret hr
  | 34, _, hr => se_34 p2 X0 hx hby hret hr
  | 35, _, hr => se_35 p2 X0 hx hby hret hr
  | 36, _, hr => se_36 p2 X0 hx hby hret hr
  | 37, _, hr => se_37 p2 X0 hx hby hret hr
  | 38, _, hr => se_38 p2 X0 hx hby hret hr
  | 39, _, hr => se_39 p2 X0 hx hby hret hr
  | 40, _, hr => se_40 p2 X0 hx hby hret hr
  | 41, _, hr => se_41 p2 X0 hx hby hret hr
  | 42, _, hr => se_42 p2 X0 hx hby hret hr
  | 43, _, hr => se_43 p2 X0 hx hby hret hr
  | 44, _, hr => se_44 p2 X0 hx hby hret hr
  | 45, _, hr => se_45 p2 X0 hx hby hret hr
  | 46, _, hr => se_46 p2 X0 hx hby hret hr
  | 47, _, hr => se_47 p2 X0 hx hby hret hr
  | 48, _, hr => se_48 p2 X0 hx hby hret hr
  | 49, _, hr => se_49 p2 X0 hx hby hret hr
  | 50, _, hr => se_50 p2 X0 hx hby hret hr
  | 51, _, hr => se_51 p2 X0 hx hby hret hr
  | 52, _, hr => se_52 p2 X0 hx hby hret hr
  | 53, _, hr => se_53 p2 X0 hx hby hret hr
  | 54, _, hr => se_54 p2 X0 hx hby hret hr
  | 55, _, hr => se_55 p2 X0 hx hby hret hr
  | 56, _, hr => se_56 p2 X0 hx hby hret hr
  | 57, _, hr => se_57 p2 X0 hx hby hret hr
  | 58, _, hr => se_58 p2 X0 hx hby hret hr
  | 59, _, hr => se_59 p2 X0 hx hby hret hr
  | 60, _, hr => se_60 p2 X0 hx hby hret hr
  | 61, _, hr => se_61 p2 X0 hx hby hret hr
  | 62, _, hr => se_62 p2 X0 hx hby hret hr
  | 63, _, hr => se_63 p2 X0 hx hby hret hr
  | 64, _, hr => se_64 p2 X0 hx hby hret hr
  | 65, _, hr => se_65 p2 X0 hx hby hret hr
  | 66, _, hr => se_66 p2 X0 hx hby hret hr
  | 67, _, hr => se_67 p2 X0 hx hby hret hr
  | 68, _, hr => se_68 p2 X0 hx hby hret hr
  | 69, _, hr => se_69 p2 X0 hx hby hret hr
  | 70, _, hr => se_70 p2 X0 hx hby hret hr
  | 71, _, hr => se_71 p2 X0 hx hby hret hr
  | 72, _, hr => se_72 p2 X0 hx hby hret hr
  | 73, _, hr => se_73 p2 X0 hx hby hret hr
  | 74, _, hr => se_74 p2 X0 hx hby hret hr
  | k + 75, hk, _ => absurd hk (by omega)
def Q1 (k : Nat) (p2 : Int32) (h0 : Heap) (n0 : Nat) (v : Option Value) (h : Heap) (L : List Loc) : Prop := v = some (.int (own_eff k p2)) ∧ Fr n0 L ∧ h = h0
set_option maxRecDepth 65536 in
set_option maxHeartbeats 40000000 in
theorem rm1 (l : Launch) (Z : State) (a0 : Array Value) (hw : ∀ d ∈ tables_1, d.before a0 Z = true) (ws : List Jvm.Cond) (p1 : Int32) (p2 : Int32) (k : Nat) (h0 : Heap) (n0 : Nat) (Z0 : n0 ≤ h0.size) (hk : k < 75) (hp : p1 = Int32.ofNat k) :
    MetFree l (⟨"com/example/kelpie/kelpie/engine/Code", "stackEffect", "(II)I"⟩ : MethodName) (head1 (Jvm.Cond.code (⟨"com/example/kelpie/kelpie/engine/Code", "stackEffect", "(II)I"⟩ : MethodName) prog_20_method_6_code 2 (some .int) :: ws) ({ frames := 0, cells := 0, slots := 0, locals := 0 } : Room)) (fun a U => a = #[(.int p1), (.int p2)] ∧ Z.Warmed39 U.vm ∧ U.heap = h0) (fun _ _ _ _ _ => True) (fun _ U o U' => ∃ v L, o = .returned v ∧ Q1 k p2 h0 n0 v U'.heap L ∧ FrameEnd U o U' L ({ frames := 0, cells := 0, slots := 0, locals := 0 } : Room).cells ({ frames := 0, cells := 0, slots := 0, locals := 0 } : Room).slots) := by
  subst hp
  refine MetFree.of_bodySF (plainFor_of_name pn_1) hisR ?_
  intro p e s m args below meth c s₁ Bd hml0 hP hK
  obtain ⟨rfl, hZ, hh⟩ := hP
  have hx := Bd.exec
  have hby := Bd.bytes
  have hml : c.maxLocals = 2 := hml0
  have hown : s.vm.findClass "com/example/kelpie/kelpie/engine/Code" = some m.cls := findClass_of_methodNamed Bd.named
  have hnm := (name_of_methodNamed Bd.named Bd.method).1
  have X0 : Stand p l e ({ frames := 0, cells := 0, slots := 0, locals := 0 } : Room) s m #[(.int (Int32.ofNat k)), (.int p2)] below meth c s₁ [] 0 0 := Stand.of_body Bd
  have e0 : s₁.heap = h0 := by rw [← hh, Bd.state]; rfl
  have N0 := Fr.nil n0
  have pre0 : ∀ t, Steps p.tables e below (s₁.setTop (mkF m 0 #[.val (.int (Int32.ofNat k)), .val (.int p2)] [])) t → Steps p.tables e below (s₁.setTop (entryFrame m #[(.int (Int32.ofNat k)), (.int p2)] 2)) t := fun t kt => castTop (ef_1 m (Int32.ofNat k) p2) kt
  obtain ⟨fs, hr, hrun, hended, hW, hsame⟩ := X0.leave (v := some (.int (own_eff k p2))) (fun h => by rw [Bd.returns] at h; cases h)
  exact ⟨_, _, pre0 _ (own_at p2 X0 hx hby Bd.returns k hk hr), hrun, hended, _, _, rfl, ⟨rfl, N0, by rw [← e0]; rfl⟩, ⟨_, rfl⟩, hW, hsame.mono (by decide) (by decide)⟩
theorem own_nat {v : Int32} (h0 : 0 ≤ v.toInt) : v = Int32.ofNat v.toInt.toNat := by
  apply Int32.toInt_inj.mp
  have := Int32.toInt_lt v
  rw [Int32.toInt_ofNat_of_lt (by omega)]; omega
theorem own_op (x : Int32) : ∃ k : Nat, k < 75 ∧ ((x &&& (2147483647 : Int32)) - ((x &&& (2147483647 : Int32)) / (75 : Int32)) * (75 : Int32)) = Int32.ofNat k := by
  have h1 := c_and x (2147483647 : Int32) (by decide)
  generalize (x &&& (2147483647 : Int32)) = m at *
  have h2 := (c_idiv m 75 75 rfl (by decide)).1 h1.1
  have h3 := c_imul (m / 75) 75
  rw [show (75 : Int32).toInt = 75 from rfl] at h3
  have h4 := c_isub m (m / 75 * 75)
  have r1 := rng32 (m / 75 * 75)
  have r2 := rng32 (m - m / 75 * 75)
  have r3 := rng32 m
  refine ⟨(m - m / 75 * 75).toInt.toNat, ?_, own_nat ?_⟩ <;> omega
theorem own_kn {k : Nat} (hk : k < 75) : (Int32.ofNat k).toNatClampNeg = k := by
  rw [Int32.toNatClampNeg, Int32.toInt_ofNat_of_lt (by omega)]; rfl
theorem own_k0 {k : Nat} (hk : k < 75) : ¬ Int32.ofNat k < 0 := by
  rw [Int32.lt_iff_toInt_lt, Int32.toInt_ofNat_of_lt (by omega), show (0 : Int32).toInt = 0 from rfl]; omega
theorem own_k {k j : Nat} (hk : k < 75) (hj : j < 75) (h : Int32.ofNat k = Int32.ofNat j) : k = j := by
  have q := congrArg Int32.toInt h
  rw [Int32.toInt_ofNat_of_lt (by omega), Int32.toInt_ofNat_of_lt (by omega)] at q; omega
theorem own_75 {f : Nat → Int32} {L : List Int32} (h : ∀ i : Fin 75, f i.1 = L.getD i.1 0) {k : Nat} (hk : k < 75) : f k = L.getD k 0 := h ⟨k, hk⟩
theorem own_s38 {k : Nat} {n : Int32} (hk : k < 75) (h : Int32.ofNat k = (38 : Int32)) : own_eff k n = ((own_pushes.getD k 0 - own_pops.getD k 0) - n) := by
  obtain rfl : k = 38 := own_k (j := 38) hk (by decide) h
  show -n - 1 = (1 - 2) - n
  rw [Int32.sub_eq_add_neg, Int32.sub_eq_add_neg, Int32.add_comm]; rfl
theorem own_s53 {k : Nat} {n : Int32} (hk : k < 75) (h : Int32.ofNat k = (53 : Int32)) : own_eff k n = ((own_pushes.getD k 0 - own_pops.getD k 0) - n) := by
  obtain rfl : k = 53 := own_k (j := 53) hk (by decide) h
  show -n - 1 = (1 - 2) - n
  rw [Int32.sub_eq_add_neg, Int32.sub_eq_add_neg, Int32.add_comm]; rfl
theorem own_s59 {k : Nat} {n : Int32} (hk : k < 75) (h : Int32.ofNat k = (59 : Int32)) : own_eff k n = ((own_pushes.getD k 0 - own_pops.getD k 0) - n) := by
  obtain rfl : k = 59 := own_k (j := 59) hk (by decide) h
  rfl
theorem own_all : ∀ k : Fin 75, k.1 = 38 ∨ k.1 = 53 ∨ k.1 = 59 ∨ own_tab.getD k.1 0 = (own_pushes.getD k.1 0 - own_pops.getD k.1 0) - 0 := by decide +kernel
theorem own_rest {k : Nat} {n : Int32} (hk : k < 75) (h1 : ¬ Int32.ofNat k = (38 : Int32)) (h2 : ¬ Int32.ofNat k = (53 : Int32)) (h3 : ¬ Int32.ofNat k = (59 : Int32)) : own_eff k n = ((own_pushes.getD k 0 - own_pops.getD k 0) - (0 : Int32)) := by
  have n1 : k ≠ 38 := fun q => h1 (by rw [q]; rfl)
  have n2 : k ≠ 53 := fun q => h2 (by rw [q]; rfl)
  have n3 : k ≠ 59 := fun q => h3 (by rw [q]; rfl)
  unfold own_eff
  rw [if_neg n1, if_neg n2, if_neg n3]
  rcases own_all ⟨k, hk⟩ with q | q | q | q
  · exact absurd q n1
  · exact absurd q n2
  · exact absurd q n3
  · exact q
theorem pd_1 : parseMethodDescriptor "(II)I" = some ⟨[.int, .int], some .int⟩ := by decide +kernel
theorem pn_0 : plainName "com/example/kelpie/kelpie/engine/CodeStackEffectPinLaw" = true := by first | (simp [plainName, overriddenIn]; done) | decide +kernel
theorem ef_0 (m : MethodId) (p1 : Int32) (p2 : Int32) : entryFrame m #[(.int p1), (.int p2)] maxLocals = mkF m 0 #[.val (.int p1), .val (.int p2), .unset, .unset, .unset, .unset, .unset] [] := by first | (simp [entryFrame, mkF, argsToLocals, Value.category, maxLocals]; done) | rfl
set_option maxRecDepth 65536 in
set_option maxHeartbeats 40000000 in
theorem rm0 (l : Launch) (Z : State) (a0 : Array Value) (hw : ∀ d ∈ tables_1, d.before a0 Z = true) (ws : List Jvm.Cond) (p1 : Int32) (p2 : Int32) (h0 : Heap) (n0 : Nat) (Z0 : n0 ≤ h0.size) :
    MetFree l x (head1 (Jvm.Cond.code x code maxLocals ret :: ws) room_1) (fun a U => a = #[(.int p1), (.int p2)] ∧ Z.Warmed39 U.vm ∧ U.heap = h0) (fun _ _ _ _ _ => True) (fun _ U o U' => ∃ v L, o = .returned v ∧ (v = some (.int (1 : Int32)) ∧ Fr n0 L) ∧ FrameEnd U o U' L room_1.cells room_1.slots) := by
  refine MetFree.of_bodySF (plainFor_of_name pn_0) hisR ?_
  intro p e s m args below meth c s₁ Bd hml0 hP hK
  obtain ⟨rfl, hZ, hh⟩ := hP
  have hx := Bd.exec
  have hby := Bd.bytes
  have hml : c.maxLocals = 7 := hml0
  have hown : s.vm.findClass "com/example/kelpie/kelpie/engine/CodeStackEffectPinLaw" = some m.cls := findClass_of_methodNamed Bd.named
  have hnm := (name_of_methodNamed Bd.named Bd.method).1
  have X0 : Stand p l e room_1 s m #[(.int p1), (.int p2)] below meth c s₁ [] 0 0 := Stand.of_body Bd
  have e0 : s₁.heap = h0 := by rw [← hh, Bd.state]; rfl
  have N0 := Fr.nil n0
  have pre0 : ∀ t, Steps p.tables e below (s₁.setTop (mkF m 0 #[.val (.int p1), .val (.int p2), .unset, .unset, .unset, .unset, .unset] [])) t → Steps p.tables e below (s₁.setTop (entryFrame m #[(.int p1), (.int p2)] maxLocals)) t := fun t kt => castTop (ef_0 m p1 p2) kt
  refine own_go (A := s₁.setTop (mkF m 0 #[.val (.int p1), .val (.int p2), .unset, .unset, .unset, .unset, .unset] [])) pre0 ?_
  refine own_go (A := s₁.setTop (mkF m 1 #[.val (.int p1), .val (.int p2), .unset, .unset, .unset, .unset, .unset] [(.int p1)])) (fun t kt => XS.iloadN X0.here hx rfl (hb hby at_0) rfl kt) ?_
  refine own_go (A := s₁.setTop (mkF m 3 #[.val (.int p1), .val (.int p2), .unset, .unset, .unset, .unset, .unset] [(.int (2147483647 : Int32)), (.int p1)])) (fun t kt => X0.ldcInt hx hown (mvT hZ (hw _ (List.mem_of_getElem? (i := 0) rfl))) (g := (mkF m 1 #[.val (.int p1), .val (.int p2), .unset, .unset, .unset, .unset, .unset] [(.int p1)])) rfl (hb hby at_1) _ kt) ?_
  refine own_go (A := s₁.setTop (mkF m 4 #[.val (.int p1), .val (.int p2), .unset, .unset, .unset, .unset, .unset] [(.int (p1 &&& (2147483647 : Int32)))])) (fun t kt => XS.iand X0.here hx rfl (hb hby at_3) rfl kt) ?_
  refine own_go (A := s₁.setTop (mkF m 6 #[.val (.int p1), .val (.int p2), .unset, .unset, .unset, .unset, .unset] [(.int (75 : Int32)), (.int (p1 &&& (2147483647 : Int32)))])) (fun t kt => XS.bipush X0.here hx rfl (hb hby at_4) kt) ?_
  refine own_go (A := s₁.setTop (mkF m 7 #[.val (.int p1), .val (.int p2), .unset, .unset, .unset, .unset, .unset] [(.int ((p1 &&& (2147483647 : Int32)) - ((p1 &&& (2147483647 : Int32)) / (75 : Int32)) * (75 : Int32)))])) (fun t kt => XS.irem X0.here hx rfl (hb hby at_6) rfl (by decide) kt) ?_
  obtain ⟨k, hk, hop⟩ := own_op p1
  rw [hop]
  refine own_go (A := s₁.setTop (mkF m 8 #[.val (.int p1), .val (.int p2), .val (.int (Int32.ofNat k)), .unset, .unset, .unset, .unset] [])) (fun t kt => XS.istoreN X0.here hx rfl (hb hby at_7) rfl (l' := #[.val (.int p1), .val (.int p2), .val (.int (Int32.ofNat k)), .unset, .unset, .unset, .unset]) rfl kt) ?_
  refine own_go (A := s₁.setTop (mkF m 10 #[.val (.int p1), .val (.int p2), .val (.int (Int32.ofNat k)), .unset, .unset, .unset, .unset] [(.int (75 : Int32))])) (fun t kt => XS.bipush X0.here hx rfl (hb hby at_8) kt) ?_
  refine own_new X0 hx hZ (hw _ (List.mem_of_getElem? (i := 1) rfl)) e0 (g := (mkF m 10 #[.val (.int p1), .val (.int p2), .val (.int (Int32.ofNat k)), .unset, .unset, .unset, .unset] [(.int (75 : Int32))])) rfl (hb hby at_10) rfl 75 (by decide) (by decide) (by decide) (by decide) (by decide) (fun T1 h1 b1 X1 e1 E1 g_b1 A_b1 => ?_)
  have sz1 : n0 ≤ h1.size := Nat.le_trans Z0 E1.1
  have ga_b1 : n0 ≤ b1 := Nat.le_trans Z0 g_b1
  clear E1 g_b1
  show ∃ s₂ o, Steps p.tables e below (T1.setTop (mkF m 12 #[.val (.int p1), .val (.int p2), .val (.int (Int32.ofNat k)), .unset, .unset, .unset, .unset] [(.ref b1)])) s₂ ∧ _
  refine own_go (A := T1.setTop (mkF m 13 #[.val (.int p1), .val (.int p2), .val (.int (Int32.ofNat k)), .unset, .unset, .unset, .unset] [(.ref b1), (.ref b1)])) (fun t kt => XS.dup X1.here hx rfl (hb hby at_12) rfl rfl kt) ?_
  refine own_go (A := T1.setTop (mkF m 14 #[.val (.int p1), .val (.int p2), .val (.int (Int32.ofNat k)), .unset, .unset, .unset, .unset] [(.int (0 : Int32)), (.ref b1), (.ref b1)])) (fun t kt => XS.iconst X1.here hx rfl (hb hby at_13) kt) ?_
  refine own_go (A := T1.setTop (mkF m 15 #[.val (.int p1), .val (.int p2), .val (.int (Int32.ofNat k)), .unset, .unset, .unset, .unset] [(.int (0 : Int32)), (.int (0 : Int32)), (.ref b1), (.ref b1)])) (fun t kt => XS.iconst X1.here hx rfl (hb hby at_14) kt) ?_
  refine own_put X1 hx hZ e1 A_b1 (j := (0 : Int32)) (x := (0 : Int32)) 0 (by decide) (by decide) (by decide) N0 ga_b1 (g := (mkF m 15 #[.val (.int p1), .val (.int p2), .val (.int (Int32.ofNat k)), .unset, .unset, .unset, .unset] [(.int (0 : Int32)), (.int (0 : Int32)), (.ref b1), (.ref b1)])) rfl rfl (hb hby at_15) (fun T2 h2 l2 X2 e2 A2 O2 Sz2 N2 => ?_)
  have sz2 : n0 ≤ h2.size := Nat.le_trans sz1 Sz2
  clear O2 Sz2 X1 e1 A_b1 sz1
  show ∃ s₂ o, Steps p.tables e below (T2.setTop (mkF m 16 #[.val (.int p1), .val (.int p2), .val (.int (Int32.ofNat k)), .unset, .unset, .unset, .unset] [(.ref b1)])) s₂ ∧ _
  refine own_go (A := T2.setTop (mkF m 17 #[.val (.int p1), .val (.int p2), .val (.int (Int32.ofNat k)), .unset, .unset, .unset, .unset] [(.ref b1), (.ref b1)])) (fun t kt => XS.dup X2.here hx rfl (hb hby at_16) rfl rfl kt) ?_
  refine own_go (A := T2.setTop (mkF m 18 #[.val (.int p1), .val (.int p2), .val (.int (Int32.ofNat k)), .unset, .unset, .unset, .unset] [(.int (1 : Int32)), (.ref b1), (.ref b1)])) (fun t kt => XS.iconst X2.here hx rfl (hb hby at_17) kt) ?_
  refine own_go (A := T2.setTop (mkF m 19 #[.val (.int p1), .val (.int p2), .val (.int (Int32.ofNat k)), .unset, .unset, .unset, .unset] [(.int (0 : Int32)), (.int (1 : Int32)), (.ref b1), (.ref b1)])) (fun t kt => XS.iconst X2.here hx rfl (hb hby at_18) kt) ?_
  refine own_put X2 hx hZ e2 A2 (j := (1 : Int32)) (x := (0 : Int32)) 1 (by decide) (by decide) (by decide) N2 ga_b1 (g := (mkF m 19 #[.val (.int p1), .val (.int p2), .val (.int (Int32.ofNat k)), .unset, .unset, .unset, .unset] [(.int (0 : Int32)), (.int (1 : Int32)), (.ref b1), (.ref b1)])) rfl rfl (hb hby at_19) (fun T3 h3 l3 X3 e3 A3 O3 Sz3 N3 => ?_)
  have sz3 : n0 ≤ h3.size := Nat.le_trans sz2 Sz3
  clear O3 Sz3 X2 e2 A2 N2 sz2
  show ∃ s₂ o, Steps p.tables e below (T3.setTop (mkF m 20 #[.val (.int p1), .val (.int p2), .val (.int (Int32.ofNat k)), .unset, .unset, .unset, .unset] [(.ref b1)])) s₂ ∧ _
  refine own_go (A := T3.setTop (mkF m 21 #[.val (.int p1), .val (.int p2), .val (.int (Int32.ofNat k)), .unset, .unset, .unset, .unset] [(.ref b1), (.ref b1)])) (fun t kt => XS.dup X3.here hx rfl (hb hby at_20) rfl rfl kt) ?_
  refine own_go (A := T3.setTop (mkF m 22 #[.val (.int p1), .val (.int p2), .val (.int (Int32.ofNat k)), .unset, .unset, .unset, .unset] [(.int (2 : Int32)), (.ref b1), (.ref b1)])) (fun t kt => XS.iconst X3.here hx rfl (hb hby at_21) kt) ?_
  refine own_go (A := T3.setTop (mkF m 23 #[.val (.int p1), .val (.int p2), .val (.int (Int32.ofNat k)), .unset, .unset, .unset, .unset] [(.int (1 : Int32)), (.int (2 : Int32)), (.ref b1), (.ref b1)])) (fun t kt => XS.iconst X3.here hx rfl (hb hby at_22) kt) ?_
  refine own_put X3 hx hZ e3 A3 (j := (2 : Int32)) (x := (1 : Int32)) 2 (by decide) (by decide) (by decide) N3 ga_b1 (g := (mkF m 23 #[.val (.int p1), .val (.int p2), .val (.int (Int32.ofNat k)), .unset, .unset, .unset, .unset] [(.int (1 : Int32)), (.int (2 : Int32)), (.ref b1), (.ref b1)])) rfl rfl (hb hby at_23) (fun T4 h4 l4 X4 e4 A4 O4 Sz4 N4 => ?_)
  have sz4 : n0 ≤ h4.size := Nat.le_trans sz3 Sz4
  clear O4 Sz4 X3 e3 A3 N3 sz3
  show ∃ s₂ o, Steps p.tables e below (T4.setTop (mkF m 24 #[.val (.int p1), .val (.int p2), .val (.int (Int32.ofNat k)), .unset, .unset, .unset, .unset] [(.ref b1)])) s₂ ∧ _
  refine own_go (A := T4.setTop (mkF m 25 #[.val (.int p1), .val (.int p2), .val (.int (Int32.ofNat k)), .unset, .unset, .unset, .unset] [(.ref b1), (.ref b1)])) (fun t kt => XS.dup X4.here hx rfl (hb hby at_24) rfl rfl kt) ?_
  refine own_go (A := T4.setTop (mkF m 26 #[.val (.int p1), .val (.int p2), .val (.int (Int32.ofNat k)), .unset, .unset, .unset, .unset] [(.int (3 : Int32)), (.ref b1), (.ref b1)])) (fun t kt => XS.iconst X4.here hx rfl (hb hby at_25) kt) ?_
  refine own_go (A := T4.setTop (mkF m 27 #[.val (.int p1), .val (.int p2), .val (.int (Int32.ofNat k)), .unset, .unset, .unset, .unset] [(.int (1 : Int32)), (.int (3 : Int32)), (.ref b1), (.ref b1)])) (fun t kt => XS.iconst X4.here hx rfl (hb hby at_26) kt) ?_
  refine own_put X4 hx hZ e4 A4 (j := (3 : Int32)) (x := (1 : Int32)) 3 (by decide) (by decide) (by decide) N4 ga_b1 (g := (mkF m 27 #[.val (.int p1), .val (.int p2), .val (.int (Int32.ofNat k)), .unset, .unset, .unset, .unset] [(.int (1 : Int32)), (.int (3 : Int32)), (.ref b1), (.ref b1)])) rfl rfl (hb hby at_27) (fun T5 h5 l5 X5 e5 A5 O5 Sz5 N5 => ?_)
  have sz5 : n0 ≤ h5.size := Nat.le_trans sz4 Sz5
  clear O5 Sz5 X4 e4 A4 N4 sz4
  show ∃ s₂ o, Steps p.tables e below (T5.setTop (mkF m 28 #[.val (.int p1), .val (.int p2), .val (.int (Int32.ofNat k)), .unset, .unset, .unset, .unset] [(.ref b1)])) s₂ ∧ _
  refine own_go (A := T5.setTop (mkF m 29 #[.val (.int p1), .val (.int p2), .val (.int (Int32.ofNat k)), .unset, .unset, .unset, .unset] [(.ref b1), (.ref b1)])) (fun t kt => XS.dup X5.here hx rfl (hb hby at_28) rfl rfl kt) ?_
  refine own_go (A := T5.setTop (mkF m 30 #[.val (.int p1), .val (.int p2), .val (.int (Int32.ofNat k)), .unset, .unset, .unset, .unset] [(.int (4 : Int32)), (.ref b1), (.ref b1)])) (fun t kt => XS.iconst X5.here hx rfl (hb hby at_29) kt) ?_
  refine own_go (A := T5.setTop (mkF m 31 #[.val (.int p1), .val (.int p2), .val (.int (Int32.ofNat k)), .unset, .unset, .unset, .unset] [(.int (0 : Int32)), (.int (4 : Int32)), (.ref b1), (.ref b1)])) (fun t kt => XS.iconst X5.here hx rfl (hb hby at_30) kt) ?_
  refine own_put X5 hx hZ e5 A5 (j := (4 : Int32)) (x := (0 : Int32)) 4 (by decide) (by decide) (by decide) N5 ga_b1 (g := (mkF m 31 #[.val (.int p1), .val (.int p2), .val (.int (Int32.ofNat k)), .unset, .unset, .unset, .unset] [(.int (0 : Int32)), (.int (4 : Int32)), (.ref b1), (.ref b1)])) rfl rfl (hb hby at_31) (fun T6 h6 l6 X6 e6 A6 O6 Sz6 N6 => ?_)
  have sz6 : n0 ≤ h6.size := Nat.le_trans sz5 Sz6
  clear O6 Sz6 X5 e5 A5 N5 sz5
  show ∃ s₂ o, Steps p.tables e below (T6.setTop (mkF m 32 #[.val (.int p1), .val (.int p2), .val (.int (Int32.ofNat k)), .unset, .unset, .unset, .unset] [(.ref b1)])) s₂ ∧ _
  refine own_go (A := T6.setTop (mkF m 33 #[.val (.int p1), .val (.int p2), .val (.int (Int32.ofNat k)), .unset, .unset, .unset, .unset] [(.ref b1), (.ref b1)])) (fun t kt => XS.dup X6.here hx rfl (hb hby at_32) rfl rfl kt) ?_
  refine own_go (A := T6.setTop (mkF m 34 #[.val (.int p1), .val (.int p2), .val (.int (Int32.ofNat k)), .unset, .unset, .unset, .unset] [(.int (5 : Int32)), (.ref b1), (.ref b1)])) (fun t kt => XS.iconst X6.here hx rfl (hb hby at_33) kt) ?_
  refine own_go (A := T6.setTop (mkF m 35 #[.val (.int p1), .val (.int p2), .val (.int (Int32.ofNat k)), .unset, .unset, .unset, .unset] [(.int (0 : Int32)), (.int (5 : Int32)), (.ref b1), (.ref b1)])) (fun t kt => XS.iconst X6.here hx rfl (hb hby at_34) kt) ?_
  refine own_put X6 hx hZ e6 A6 (j := (5 : Int32)) (x := (0 : Int32)) 5 (by decide) (by decide) (by decide) N6 ga_b1 (g := (mkF m 35 #[.val (.int p1), .val (.int p2), .val (.int (Int32.ofNat k)), .unset, .unset, .unset, .unset] [(.int (0 : Int32)), (.int (5 : Int32)), (.ref b1), (.ref b1)])) rfl rfl (hb hby at_35) (fun T7 h7 l7 X7 e7 A7 O7 Sz7 N7 => ?_)
  have sz7 : n0 ≤ h7.size := Nat.le_trans sz6 Sz7
  clear O7 Sz7 X6 e6 A6 N6 sz6
  show ∃ s₂ o, Steps p.tables e below (T7.setTop (mkF m 36 #[.val (.int p1), .val (.int p2), .val (.int (Int32.ofNat k)), .unset, .unset, .unset, .unset] [(.ref b1)])) s₂ ∧ _
  refine own_go (A := T7.setTop (mkF m 37 #[.val (.int p1), .val (.int p2), .val (.int (Int32.ofNat k)), .unset, .unset, .unset, .unset] [(.ref b1), (.ref b1)])) (fun t kt => XS.dup X7.here hx rfl (hb hby at_36) rfl rfl kt) ?_
  refine own_go (A := T7.setTop (mkF m 39 #[.val (.int p1), .val (.int p2), .val (.int (Int32.ofNat k)), .unset, .unset, .unset, .unset] [(.int (6 : Int32)), (.ref b1), (.ref b1)])) (fun t kt => XS.bipush X7.here hx rfl (hb hby at_37) kt) ?_
  refine own_go (A := T7.setTop (mkF m 40 #[.val (.int p1), .val (.int p2), .val (.int (Int32.ofNat k)), .unset, .unset, .unset, .unset] [(.int (1 : Int32)), (.int (6 : Int32)), (.ref b1), (.ref b1)])) (fun t kt => XS.iconst X7.here hx rfl (hb hby at_39) kt) ?_
  refine own_put X7 hx hZ e7 A7 (j := (6 : Int32)) (x := (1 : Int32)) 6 (by decide) (by decide) (by decide) N7 ga_b1 (g := (mkF m 40 #[.val (.int p1), .val (.int p2), .val (.int (Int32.ofNat k)), .unset, .unset, .unset, .unset] [(.int (1 : Int32)), (.int (6 : Int32)), (.ref b1), (.ref b1)])) rfl rfl (hb hby at_40) (fun T8 h8 l8 X8 e8 A8 O8 Sz8 N8 => ?_)
  have sz8 : n0 ≤ h8.size := Nat.le_trans sz7 Sz8
  clear O8 Sz8 X7 e7 A7 N7 sz7
  show ∃ s₂ o, Steps p.tables e below (T8.setTop (mkF m 41 #[.val (.int p1), .val (.int p2), .val (.int (Int32.ofNat k)), .unset, .unset, .unset, .unset] [(.ref b1)])) s₂ ∧ _
  refine own_go (A := T8.setTop (mkF m 42 #[.val (.int p1), .val (.int p2), .val (.int (Int32.ofNat k)), .unset, .unset, .unset, .unset] [(.ref b1), (.ref b1)])) (fun t kt => XS.dup X8.here hx rfl (hb hby at_41) rfl rfl kt) ?_
  refine own_go (A := T8.setTop (mkF m 44 #[.val (.int p1), .val (.int p2), .val (.int (Int32.ofNat k)), .unset, .unset, .unset, .unset] [(.int (7 : Int32)), (.ref b1), (.ref b1)])) (fun t kt => XS.bipush X8.here hx rfl (hb hby at_42) kt) ?_
  refine own_go (A := T8.setTop (mkF m 45 #[.val (.int p1), .val (.int p2), .val (.int (Int32.ofNat k)), .unset, .unset, .unset, .unset] [(.int (2 : Int32)), (.int (7 : Int32)), (.ref b1), (.ref b1)])) (fun t kt => XS.iconst X8.here hx rfl (hb hby at_44) kt) ?_
  refine own_put X8 hx hZ e8 A8 (j := (7 : Int32)) (x := (2 : Int32)) 7 (by decide) (by decide) (by decide) N8 ga_b1 (g := (mkF m 45 #[.val (.int p1), .val (.int p2), .val (.int (Int32.ofNat k)), .unset, .unset, .unset, .unset] [(.int (2 : Int32)), (.int (7 : Int32)), (.ref b1), (.ref b1)])) rfl rfl (hb hby at_45) (fun T9 h9 l9 X9 e9 A9 O9 Sz9 N9 => ?_)
  have sz9 : n0 ≤ h9.size := Nat.le_trans sz8 Sz9
  clear O9 Sz9 X8 e8 A8 N8 sz8
  show ∃ s₂ o, Steps p.tables e below (T9.setTop (mkF m 46 #[.val (.int p1), .val (.int p2), .val (.int (Int32.ofNat k)), .unset, .unset, .unset, .unset] [(.ref b1)])) s₂ ∧ _
  refine own_go (A := T9.setTop (mkF m 47 #[.val (.int p1), .val (.int p2), .val (.int (Int32.ofNat k)), .unset, .unset, .unset, .unset] [(.ref b1), (.ref b1)])) (fun t kt => XS.dup X9.here hx rfl (hb hby at_46) rfl rfl kt) ?_
  refine own_go (A := T9.setTop (mkF m 49 #[.val (.int p1), .val (.int p2), .val (.int (Int32.ofNat k)), .unset, .unset, .unset, .unset] [(.int (8 : Int32)), (.ref b1), (.ref b1)])) (fun t kt => XS.bipush X9.here hx rfl (hb hby at_47) kt) ?_
  refine own_go (A := T9.setTop (mkF m 50 #[.val (.int p1), .val (.int p2), .val (.int (Int32.ofNat k)), .unset, .unset, .unset, .unset] [(.int (2 : Int32)), (.int (8 : Int32)), (.ref b1), (.ref b1)])) (fun t kt => XS.iconst X9.here hx rfl (hb hby at_49) kt) ?_
  refine own_put X9 hx hZ e9 A9 (j := (8 : Int32)) (x := (2 : Int32)) 8 (by decide) (by decide) (by decide) N9 ga_b1 (g := (mkF m 50 #[.val (.int p1), .val (.int p2), .val (.int (Int32.ofNat k)), .unset, .unset, .unset, .unset] [(.int (2 : Int32)), (.int (8 : Int32)), (.ref b1), (.ref b1)])) rfl rfl (hb hby at_50) (fun T10 h10 l10 X10 e10 A10 O10 Sz10 N10 => ?_)
  have sz10 : n0 ≤ h10.size := Nat.le_trans sz9 Sz10
  clear O10 Sz10 X9 e9 A9 N9 sz9
  show ∃ s₂ o, Steps p.tables e below (T10.setTop (mkF m 51 #[.val (.int p1), .val (.int p2), .val (.int (Int32.ofNat k)), .unset, .unset, .unset, .unset] [(.ref b1)])) s₂ ∧ _
  refine own_go (A := T10.setTop (mkF m 52 #[.val (.int p1), .val (.int p2), .val (.int (Int32.ofNat k)), .unset, .unset, .unset, .unset] [(.ref b1), (.ref b1)])) (fun t kt => XS.dup X10.here hx rfl (hb hby at_51) rfl rfl kt) ?_
  refine own_go (A := T10.setTop (mkF m 54 #[.val (.int p1), .val (.int p2), .val (.int (Int32.ofNat k)), .unset, .unset, .unset, .unset] [(.int (9 : Int32)), (.ref b1), (.ref b1)])) (fun t kt => XS.bipush X10.here hx rfl (hb hby at_52) kt) ?_
  refine own_go (A := T10.setTop (mkF m 55 #[.val (.int p1), .val (.int p2), .val (.int (Int32.ofNat k)), .unset, .unset, .unset, .unset] [(.int (2 : Int32)), (.int (9 : Int32)), (.ref b1), (.ref b1)])) (fun t kt => XS.iconst X10.here hx rfl (hb hby at_54) kt) ?_
  refine own_put X10 hx hZ e10 A10 (j := (9 : Int32)) (x := (2 : Int32)) 9 (by decide) (by decide) (by decide) N10 ga_b1 (g := (mkF m 55 #[.val (.int p1), .val (.int p2), .val (.int (Int32.ofNat k)), .unset, .unset, .unset, .unset] [(.int (2 : Int32)), (.int (9 : Int32)), (.ref b1), (.ref b1)])) rfl rfl (hb hby at_55) (fun T11 h11 l11 X11 e11 A11 O11 Sz11 N11 => ?_)
  have sz11 : n0 ≤ h11.size := Nat.le_trans sz10 Sz11
  clear O11 Sz11 X10 e10 A10 N10 sz10
  show ∃ s₂ o, Steps p.tables e below (T11.setTop (mkF m 56 #[.val (.int p1), .val (.int p2), .val (.int (Int32.ofNat k)), .unset, .unset, .unset, .unset] [(.ref b1)])) s₂ ∧ _
  refine own_go (A := T11.setTop (mkF m 57 #[.val (.int p1), .val (.int p2), .val (.int (Int32.ofNat k)), .unset, .unset, .unset, .unset] [(.ref b1), (.ref b1)])) (fun t kt => XS.dup X11.here hx rfl (hb hby at_56) rfl rfl kt) ?_
  refine own_go (A := T11.setTop (mkF m 59 #[.val (.int p1), .val (.int p2), .val (.int (Int32.ofNat k)), .unset, .unset, .unset, .unset] [(.int (10 : Int32)), (.ref b1), (.ref b1)])) (fun t kt => XS.bipush X11.here hx rfl (hb hby at_57) kt) ?_
  refine own_go (A := T11.setTop (mkF m 60 #[.val (.int p1), .val (.int p2), .val (.int (Int32.ofNat k)), .unset, .unset, .unset, .unset] [(.int (2 : Int32)), (.int (10 : Int32)), (.ref b1), (.ref b1)])) (fun t kt => XS.iconst X11.here hx rfl (hb hby at_59) kt) ?_
  refine own_put X11 hx hZ e11 A11 (j := (10 : Int32)) (x := (2 : Int32)) 10 (by decide) (by decide) (by decide) N11 ga_b1 (g := (mkF m 60 #[.val (.int p1), .val (.int p2), .val (.int (Int32.ofNat k)), .unset, .unset, .unset, .unset] [(.int (2 : Int32)), (.int (10 : Int32)), (.ref b1), (.ref b1)])) rfl rfl (hb hby at_60) (fun T12 h12 l12 X12 e12 A12 O12 Sz12 N12 => ?_)
  have sz12 : n0 ≤ h12.size := Nat.le_trans sz11 Sz12
  clear O12 Sz12 X11 e11 A11 N11 sz11
  show ∃ s₂ o, Steps p.tables e below (T12.setTop (mkF m 61 #[.val (.int p1), .val (.int p2), .val (.int (Int32.ofNat k)), .unset, .unset, .unset, .unset] [(.ref b1)])) s₂ ∧ _
  refine own_go (A := T12.setTop (mkF m 62 #[.val (.int p1), .val (.int p2), .val (.int (Int32.ofNat k)), .unset, .unset, .unset, .unset] [(.ref b1), (.ref b1)])) (fun t kt => XS.dup X12.here hx rfl (hb hby at_61) rfl rfl kt) ?_
  refine own_go (A := T12.setTop (mkF m 64 #[.val (.int p1), .val (.int p2), .val (.int (Int32.ofNat k)), .unset, .unset, .unset, .unset] [(.int (11 : Int32)), (.ref b1), (.ref b1)])) (fun t kt => XS.bipush X12.here hx rfl (hb hby at_62) kt) ?_
  refine own_go (A := T12.setTop (mkF m 65 #[.val (.int p1), .val (.int p2), .val (.int (Int32.ofNat k)), .unset, .unset, .unset, .unset] [(.int (2 : Int32)), (.int (11 : Int32)), (.ref b1), (.ref b1)])) (fun t kt => XS.iconst X12.here hx rfl (hb hby at_64) kt) ?_
  refine own_put X12 hx hZ e12 A12 (j := (11 : Int32)) (x := (2 : Int32)) 11 (by decide) (by decide) (by decide) N12 ga_b1 (g := (mkF m 65 #[.val (.int p1), .val (.int p2), .val (.int (Int32.ofNat k)), .unset, .unset, .unset, .unset] [(.int (2 : Int32)), (.int (11 : Int32)), (.ref b1), (.ref b1)])) rfl rfl (hb hby at_65) (fun T13 h13 l13 X13 e13 A13 O13 Sz13 N13 => ?_)
  have sz13 : n0 ≤ h13.size := Nat.le_trans sz12 Sz13
  clear O13 Sz13 X12 e12 A12 N12 sz12
  show ∃ s₂ o, Steps p.tables e below (T13.setTop (mkF m 66 #[.val (.int p1), .val (.int p2), .val (.int (Int32.ofNat k)), .unset, .unset, .unset, .unset] [(.ref b1)])) s₂ ∧ _
  refine own_go (A := T13.setTop (mkF m 67 #[.val (.int p1), .val (.int p2), .val (.int (Int32.ofNat k)), .unset, .unset, .unset, .unset] [(.ref b1), (.ref b1)])) (fun t kt => XS.dup X13.here hx rfl (hb hby at_66) rfl rfl kt) ?_
  refine own_go (A := T13.setTop (mkF m 69 #[.val (.int p1), .val (.int p2), .val (.int (Int32.ofNat k)), .unset, .unset, .unset, .unset] [(.int (12 : Int32)), (.ref b1), (.ref b1)])) (fun t kt => XS.bipush X13.here hx rfl (hb hby at_67) kt) ?_
  refine own_go (A := T13.setTop (mkF m 70 #[.val (.int p1), .val (.int p2), .val (.int (Int32.ofNat k)), .unset, .unset, .unset, .unset] [(.int (2 : Int32)), (.int (12 : Int32)), (.ref b1), (.ref b1)])) (fun t kt => XS.iconst X13.here hx rfl (hb hby at_69) kt) ?_
  refine own_put X13 hx hZ e13 A13 (j := (12 : Int32)) (x := (2 : Int32)) 12 (by decide) (by decide) (by decide) N13 ga_b1 (g := (mkF m 70 #[.val (.int p1), .val (.int p2), .val (.int (Int32.ofNat k)), .unset, .unset, .unset, .unset] [(.int (2 : Int32)), (.int (12 : Int32)), (.ref b1), (.ref b1)])) rfl rfl (hb hby at_70) (fun T14 h14 l14 X14 e14 A14 O14 Sz14 N14 => ?_)
  have sz14 : n0 ≤ h14.size := Nat.le_trans sz13 Sz14
  clear O14 Sz14 X13 e13 A13 N13 sz13
  show ∃ s₂ o, Steps p.tables e below (T14.setTop (mkF m 71 #[.val (.int p1), .val (.int p2), .val (.int (Int32.ofNat k)), .unset, .unset, .unset, .unset] [(.ref b1)])) s₂ ∧ _
  refine own_go (A := T14.setTop (mkF m 72 #[.val (.int p1), .val (.int p2), .val (.int (Int32.ofNat k)), .unset, .unset, .unset, .unset] [(.ref b1), (.ref b1)])) (fun t kt => XS.dup X14.here hx rfl (hb hby at_71) rfl rfl kt) ?_
  refine own_go (A := T14.setTop (mkF m 74 #[.val (.int p1), .val (.int p2), .val (.int (Int32.ofNat k)), .unset, .unset, .unset, .unset] [(.int (13 : Int32)), (.ref b1), (.ref b1)])) (fun t kt => XS.bipush X14.here hx rfl (hb hby at_72) kt) ?_
  refine own_go (A := T14.setTop (mkF m 75 #[.val (.int p1), .val (.int p2), .val (.int (Int32.ofNat k)), .unset, .unset, .unset, .unset] [(.int (2 : Int32)), (.int (13 : Int32)), (.ref b1), (.ref b1)])) (fun t kt => XS.iconst X14.here hx rfl (hb hby at_74) kt) ?_
  refine own_put X14 hx hZ e14 A14 (j := (13 : Int32)) (x := (2 : Int32)) 13 (by decide) (by decide) (by decide) N14 ga_b1 (g := (mkF m 75 #[.val (.int p1), .val (.int p2), .val (.int (Int32.ofNat k)), .unset, .unset, .unset, .unset] [(.int (2 : Int32)), (.int (13 : Int32)), (.ref b1), (.ref b1)])) rfl rfl (hb hby at_75) (fun T15 h15 l15 X15 e15 A15 O15 Sz15 N15 => ?_)
  have sz15 : n0 ≤ h15.size := Nat.le_trans sz14 Sz15
  clear O15 Sz15 X14 e14 A14 N14 sz14
  show ∃ s₂ o, Steps p.tables e below (T15.setTop (mkF m 76 #[.val (.int p1), .val (.int p2), .val (.int (Int32.ofNat k)), .unset, .unset, .unset, .unset] [(.ref b1)])) s₂ ∧ _
  refine own_go (A := T15.setTop (mkF m 77 #[.val (.int p1), .val (.int p2), .val (.int (Int32.ofNat k)), .unset, .unset, .unset, .unset] [(.ref b1), (.ref b1)])) (fun t kt => XS.dup X15.here hx rfl (hb hby at_76) rfl rfl kt) ?_
  refine own_go (A := T15.setTop (mkF m 79 #[.val (.int p1), .val (.int p2), .val (.int (Int32.ofNat k)), .unset, .unset, .unset, .unset] [(.int (14 : Int32)), (.ref b1), (.ref b1)])) (fun t kt => XS.bipush X15.here hx rfl (hb hby at_77) kt) ?_
  refine own_go (A := T15.setTop (mkF m 80 #[.val (.int p1), .val (.int p2), .val (.int (Int32.ofNat k)), .unset, .unset, .unset, .unset] [(.int (2 : Int32)), (.int (14 : Int32)), (.ref b1), (.ref b1)])) (fun t kt => XS.iconst X15.here hx rfl (hb hby at_79) kt) ?_
  refine own_put X15 hx hZ e15 A15 (j := (14 : Int32)) (x := (2 : Int32)) 14 (by decide) (by decide) (by decide) N15 ga_b1 (g := (mkF m 80 #[.val (.int p1), .val (.int p2), .val (.int (Int32.ofNat k)), .unset, .unset, .unset, .unset] [(.int (2 : Int32)), (.int (14 : Int32)), (.ref b1), (.ref b1)])) rfl rfl (hb hby at_80) (fun T16 h16 l16 X16 e16 A16 O16 Sz16 N16 => ?_)
  have sz16 : n0 ≤ h16.size := Nat.le_trans sz15 Sz16
  clear O16 Sz16 X15 e15 A15 N15 sz15
  show ∃ s₂ o, Steps p.tables e below (T16.setTop (mkF m 81 #[.val (.int p1), .val (.int p2), .val (.int (Int32.ofNat k)), .unset, .unset, .unset, .unset] [(.ref b1)])) s₂ ∧ _
  refine own_go (A := T16.setTop (mkF m 82 #[.val (.int p1), .val (.int p2), .val (.int (Int32.ofNat k)), .unset, .unset, .unset, .unset] [(.ref b1), (.ref b1)])) (fun t kt => XS.dup X16.here hx rfl (hb hby at_81) rfl rfl kt) ?_
  refine own_go (A := T16.setTop (mkF m 84 #[.val (.int p1), .val (.int p2), .val (.int (Int32.ofNat k)), .unset, .unset, .unset, .unset] [(.int (15 : Int32)), (.ref b1), (.ref b1)])) (fun t kt => XS.bipush X16.here hx rfl (hb hby at_82) kt) ?_
  refine own_go (A := T16.setTop (mkF m 85 #[.val (.int p1), .val (.int p2), .val (.int (Int32.ofNat k)), .unset, .unset, .unset, .unset] [(.int (2 : Int32)), (.int (15 : Int32)), (.ref b1), (.ref b1)])) (fun t kt => XS.iconst X16.here hx rfl (hb hby at_84) kt) ?_
  refine own_put X16 hx hZ e16 A16 (j := (15 : Int32)) (x := (2 : Int32)) 15 (by decide) (by decide) (by decide) N16 ga_b1 (g := (mkF m 85 #[.val (.int p1), .val (.int p2), .val (.int (Int32.ofNat k)), .unset, .unset, .unset, .unset] [(.int (2 : Int32)), (.int (15 : Int32)), (.ref b1), (.ref b1)])) rfl rfl (hb hby at_85) (fun T17 h17 l17 X17 e17 A17 O17 Sz17 N17 => ?_)
  have sz17 : n0 ≤ h17.size := Nat.le_trans sz16 Sz17
  clear O17 Sz17 X16 e16 A16 N16 sz16
  show ∃ s₂ o, Steps p.tables e below (T17.setTop (mkF m 86 #[.val (.int p1), .val (.int p2), .val (.int (Int32.ofNat k)), .unset, .unset, .unset, .unset] [(.ref b1)])) s₂ ∧ _
  refine own_go (A := T17.setTop (mkF m 87 #[.val (.int p1), .val (.int p2), .val (.int (Int32.ofNat k)), .unset, .unset, .unset, .unset] [(.ref b1), (.ref b1)])) (fun t kt => XS.dup X17.here hx rfl (hb hby at_86) rfl rfl kt) ?_
  refine own_go (A := T17.setTop (mkF m 89 #[.val (.int p1), .val (.int p2), .val (.int (Int32.ofNat k)), .unset, .unset, .unset, .unset] [(.int (16 : Int32)), (.ref b1), (.ref b1)])) (fun t kt => XS.bipush X17.here hx rfl (hb hby at_87) kt) ?_
  refine own_go (A := T17.setTop (mkF m 90 #[.val (.int p1), .val (.int p2), .val (.int (Int32.ofNat k)), .unset, .unset, .unset, .unset] [(.int (2 : Int32)), (.int (16 : Int32)), (.ref b1), (.ref b1)])) (fun t kt => XS.iconst X17.here hx rfl (hb hby at_89) kt) ?_
  refine own_put X17 hx hZ e17 A17 (j := (16 : Int32)) (x := (2 : Int32)) 16 (by decide) (by decide) (by decide) N17 ga_b1 (g := (mkF m 90 #[.val (.int p1), .val (.int p2), .val (.int (Int32.ofNat k)), .unset, .unset, .unset, .unset] [(.int (2 : Int32)), (.int (16 : Int32)), (.ref b1), (.ref b1)])) rfl rfl (hb hby at_90) (fun T18 h18 l18 X18 e18 A18 O18 Sz18 N18 => ?_)
  have sz18 : n0 ≤ h18.size := Nat.le_trans sz17 Sz18
  clear O18 Sz18 X17 e17 A17 N17 sz17
  show ∃ s₂ o, Steps p.tables e below (T18.setTop (mkF m 91 #[.val (.int p1), .val (.int p2), .val (.int (Int32.ofNat k)), .unset, .unset, .unset, .unset] [(.ref b1)])) s₂ ∧ _
  refine own_go (A := T18.setTop (mkF m 92 #[.val (.int p1), .val (.int p2), .val (.int (Int32.ofNat k)), .unset, .unset, .unset, .unset] [(.ref b1), (.ref b1)])) (fun t kt => XS.dup X18.here hx rfl (hb hby at_91) rfl rfl kt) ?_
  refine own_go (A := T18.setTop (mkF m 94 #[.val (.int p1), .val (.int p2), .val (.int (Int32.ofNat k)), .unset, .unset, .unset, .unset] [(.int (17 : Int32)), (.ref b1), (.ref b1)])) (fun t kt => XS.bipush X18.here hx rfl (hb hby at_92) kt) ?_
  refine own_go (A := T18.setTop (mkF m 95 #[.val (.int p1), .val (.int p2), .val (.int (Int32.ofNat k)), .unset, .unset, .unset, .unset] [(.int (2 : Int32)), (.int (17 : Int32)), (.ref b1), (.ref b1)])) (fun t kt => XS.iconst X18.here hx rfl (hb hby at_94) kt) ?_
  refine own_put X18 hx hZ e18 A18 (j := (17 : Int32)) (x := (2 : Int32)) 17 (by decide) (by decide) (by decide) N18 ga_b1 (g := (mkF m 95 #[.val (.int p1), .val (.int p2), .val (.int (Int32.ofNat k)), .unset, .unset, .unset, .unset] [(.int (2 : Int32)), (.int (17 : Int32)), (.ref b1), (.ref b1)])) rfl rfl (hb hby at_95) (fun T19 h19 l19 X19 e19 A19 O19 Sz19 N19 => ?_)
  have sz19 : n0 ≤ h19.size := Nat.le_trans sz18 Sz19
  clear O19 Sz19 X18 e18 A18 N18 sz18
  show ∃ s₂ o, Steps p.tables e below (T19.setTop (mkF m 96 #[.val (.int p1), .val (.int p2), .val (.int (Int32.ofNat k)), .unset, .unset, .unset, .unset] [(.ref b1)])) s₂ ∧ _
  refine own_go (A := T19.setTop (mkF m 97 #[.val (.int p1), .val (.int p2), .val (.int (Int32.ofNat k)), .unset, .unset, .unset, .unset] [(.ref b1), (.ref b1)])) (fun t kt => XS.dup X19.here hx rfl (hb hby at_96) rfl rfl kt) ?_
  refine own_go (A := T19.setTop (mkF m 99 #[.val (.int p1), .val (.int p2), .val (.int (Int32.ofNat k)), .unset, .unset, .unset, .unset] [(.int (18 : Int32)), (.ref b1), (.ref b1)])) (fun t kt => XS.bipush X19.here hx rfl (hb hby at_97) kt) ?_
  refine own_go (A := T19.setTop (mkF m 100 #[.val (.int p1), .val (.int p2), .val (.int (Int32.ofNat k)), .unset, .unset, .unset, .unset] [(.int (2 : Int32)), (.int (18 : Int32)), (.ref b1), (.ref b1)])) (fun t kt => XS.iconst X19.here hx rfl (hb hby at_99) kt) ?_
  refine own_put X19 hx hZ e19 A19 (j := (18 : Int32)) (x := (2 : Int32)) 18 (by decide) (by decide) (by decide) N19 ga_b1 (g := (mkF m 100 #[.val (.int p1), .val (.int p2), .val (.int (Int32.ofNat k)), .unset, .unset, .unset, .unset] [(.int (2 : Int32)), (.int (18 : Int32)), (.ref b1), (.ref b1)])) rfl rfl (hb hby at_100) (fun T20 h20 l20 X20 e20 A20 O20 Sz20 N20 => ?_)
  have sz20 : n0 ≤ h20.size := Nat.le_trans sz19 Sz20
  clear O20 Sz20 X19 e19 A19 N19 sz19
  show ∃ s₂ o, Steps p.tables e below (T20.setTop (mkF m 101 #[.val (.int p1), .val (.int p2), .val (.int (Int32.ofNat k)), .unset, .unset, .unset, .unset] [(.ref b1)])) s₂ ∧ _
  refine own_go (A := T20.setTop (mkF m 102 #[.val (.int p1), .val (.int p2), .val (.int (Int32.ofNat k)), .unset, .unset, .unset, .unset] [(.ref b1), (.ref b1)])) (fun t kt => XS.dup X20.here hx rfl (hb hby at_101) rfl rfl kt) ?_
  refine own_go (A := T20.setTop (mkF m 104 #[.val (.int p1), .val (.int p2), .val (.int (Int32.ofNat k)), .unset, .unset, .unset, .unset] [(.int (19 : Int32)), (.ref b1), (.ref b1)])) (fun t kt => XS.bipush X20.here hx rfl (hb hby at_102) kt) ?_
  refine own_go (A := T20.setTop (mkF m 105 #[.val (.int p1), .val (.int p2), .val (.int (Int32.ofNat k)), .unset, .unset, .unset, .unset] [(.int (2 : Int32)), (.int (19 : Int32)), (.ref b1), (.ref b1)])) (fun t kt => XS.iconst X20.here hx rfl (hb hby at_104) kt) ?_
  refine own_put X20 hx hZ e20 A20 (j := (19 : Int32)) (x := (2 : Int32)) 19 (by decide) (by decide) (by decide) N20 ga_b1 (g := (mkF m 105 #[.val (.int p1), .val (.int p2), .val (.int (Int32.ofNat k)), .unset, .unset, .unset, .unset] [(.int (2 : Int32)), (.int (19 : Int32)), (.ref b1), (.ref b1)])) rfl rfl (hb hby at_105) (fun T21 h21 l21 X21 e21 A21 O21 Sz21 N21 => ?_)
  have sz21 : n0 ≤ h21.size := Nat.le_trans sz20 Sz21
  clear O21 Sz21 X20 e20 A20 N20 sz20
  show ∃ s₂ o, Steps p.tables e below (T21.setTop (mkF m 106 #[.val (.int p1), .val (.int p2), .val (.int (Int32.ofNat k)), .unset, .unset, .unset, .unset] [(.ref b1)])) s₂ ∧ _
  refine own_go (A := T21.setTop (mkF m 107 #[.val (.int p1), .val (.int p2), .val (.int (Int32.ofNat k)), .unset, .unset, .unset, .unset] [(.ref b1), (.ref b1)])) (fun t kt => XS.dup X21.here hx rfl (hb hby at_106) rfl rfl kt) ?_
  refine own_go (A := T21.setTop (mkF m 109 #[.val (.int p1), .val (.int p2), .val (.int (Int32.ofNat k)), .unset, .unset, .unset, .unset] [(.int (20 : Int32)), (.ref b1), (.ref b1)])) (fun t kt => XS.bipush X21.here hx rfl (hb hby at_107) kt) ?_
  refine own_go (A := T21.setTop (mkF m 110 #[.val (.int p1), .val (.int p2), .val (.int (Int32.ofNat k)), .unset, .unset, .unset, .unset] [(.int (2 : Int32)), (.int (20 : Int32)), (.ref b1), (.ref b1)])) (fun t kt => XS.iconst X21.here hx rfl (hb hby at_109) kt) ?_
  refine own_put X21 hx hZ e21 A21 (j := (20 : Int32)) (x := (2 : Int32)) 20 (by decide) (by decide) (by decide) N21 ga_b1 (g := (mkF m 110 #[.val (.int p1), .val (.int p2), .val (.int (Int32.ofNat k)), .unset, .unset, .unset, .unset] [(.int (2 : Int32)), (.int (20 : Int32)), (.ref b1), (.ref b1)])) rfl rfl (hb hby at_110) (fun T22 h22 l22 X22 e22 A22 O22 Sz22 N22 => ?_)
  have sz22 : n0 ≤ h22.size := Nat.le_trans sz21 Sz22
  clear O22 Sz22 X21 e21 A21 N21 sz21
  show ∃ s₂ o, Steps p.tables e below (T22.setTop (mkF m 111 #[.val (.int p1), .val (.int p2), .val (.int (Int32.ofNat k)), .unset, .unset, .unset, .unset] [(.ref b1)])) s₂ ∧ _
  refine own_go (A := T22.setTop (mkF m 112 #[.val (.int p1), .val (.int p2), .val (.int (Int32.ofNat k)), .unset, .unset, .unset, .unset] [(.ref b1), (.ref b1)])) (fun t kt => XS.dup X22.here hx rfl (hb hby at_111) rfl rfl kt) ?_
  refine own_go (A := T22.setTop (mkF m 114 #[.val (.int p1), .val (.int p2), .val (.int (Int32.ofNat k)), .unset, .unset, .unset, .unset] [(.int (21 : Int32)), (.ref b1), (.ref b1)])) (fun t kt => XS.bipush X22.here hx rfl (hb hby at_112) kt) ?_
  refine own_go (A := T22.setTop (mkF m 115 #[.val (.int p1), .val (.int p2), .val (.int (Int32.ofNat k)), .unset, .unset, .unset, .unset] [(.int (2 : Int32)), (.int (21 : Int32)), (.ref b1), (.ref b1)])) (fun t kt => XS.iconst X22.here hx rfl (hb hby at_114) kt) ?_
  refine own_put X22 hx hZ e22 A22 (j := (21 : Int32)) (x := (2 : Int32)) 21 (by decide) (by decide) (by decide) N22 ga_b1 (g := (mkF m 115 #[.val (.int p1), .val (.int p2), .val (.int (Int32.ofNat k)), .unset, .unset, .unset, .unset] [(.int (2 : Int32)), (.int (21 : Int32)), (.ref b1), (.ref b1)])) rfl rfl (hb hby at_115) (fun T23 h23 l23 X23 e23 A23 O23 Sz23 N23 => ?_)
  have sz23 : n0 ≤ h23.size := Nat.le_trans sz22 Sz23
  clear O23 Sz23 X22 e22 A22 N22 sz22
  show ∃ s₂ o, Steps p.tables e below (T23.setTop (mkF m 116 #[.val (.int p1), .val (.int p2), .val (.int (Int32.ofNat k)), .unset, .unset, .unset, .unset] [(.ref b1)])) s₂ ∧ _
  refine own_go (A := T23.setTop (mkF m 117 #[.val (.int p1), .val (.int p2), .val (.int (Int32.ofNat k)), .unset, .unset, .unset, .unset] [(.ref b1), (.ref b1)])) (fun t kt => XS.dup X23.here hx rfl (hb hby at_116) rfl rfl kt) ?_
  refine own_go (A := T23.setTop (mkF m 119 #[.val (.int p1), .val (.int p2), .val (.int (Int32.ofNat k)), .unset, .unset, .unset, .unset] [(.int (22 : Int32)), (.ref b1), (.ref b1)])) (fun t kt => XS.bipush X23.here hx rfl (hb hby at_117) kt) ?_
  refine own_go (A := T23.setTop (mkF m 120 #[.val (.int p1), .val (.int p2), .val (.int (Int32.ofNat k)), .unset, .unset, .unset, .unset] [(.int (2 : Int32)), (.int (22 : Int32)), (.ref b1), (.ref b1)])) (fun t kt => XS.iconst X23.here hx rfl (hb hby at_119) kt) ?_
  refine own_put X23 hx hZ e23 A23 (j := (22 : Int32)) (x := (2 : Int32)) 22 (by decide) (by decide) (by decide) N23 ga_b1 (g := (mkF m 120 #[.val (.int p1), .val (.int p2), .val (.int (Int32.ofNat k)), .unset, .unset, .unset, .unset] [(.int (2 : Int32)), (.int (22 : Int32)), (.ref b1), (.ref b1)])) rfl rfl (hb hby at_120) (fun T24 h24 l24 X24 e24 A24 O24 Sz24 N24 => ?_)
  have sz24 : n0 ≤ h24.size := Nat.le_trans sz23 Sz24
  clear O24 Sz24 X23 e23 A23 N23 sz23
  show ∃ s₂ o, Steps p.tables e below (T24.setTop (mkF m 121 #[.val (.int p1), .val (.int p2), .val (.int (Int32.ofNat k)), .unset, .unset, .unset, .unset] [(.ref b1)])) s₂ ∧ _
  refine own_go (A := T24.setTop (mkF m 122 #[.val (.int p1), .val (.int p2), .val (.int (Int32.ofNat k)), .unset, .unset, .unset, .unset] [(.ref b1), (.ref b1)])) (fun t kt => XS.dup X24.here hx rfl (hb hby at_121) rfl rfl kt) ?_
  refine own_go (A := T24.setTop (mkF m 124 #[.val (.int p1), .val (.int p2), .val (.int (Int32.ofNat k)), .unset, .unset, .unset, .unset] [(.int (23 : Int32)), (.ref b1), (.ref b1)])) (fun t kt => XS.bipush X24.here hx rfl (hb hby at_122) kt) ?_
  refine own_go (A := T24.setTop (mkF m 125 #[.val (.int p1), .val (.int p2), .val (.int (Int32.ofNat k)), .unset, .unset, .unset, .unset] [(.int (2 : Int32)), (.int (23 : Int32)), (.ref b1), (.ref b1)])) (fun t kt => XS.iconst X24.here hx rfl (hb hby at_124) kt) ?_
  refine own_put X24 hx hZ e24 A24 (j := (23 : Int32)) (x := (2 : Int32)) 23 (by decide) (by decide) (by decide) N24 ga_b1 (g := (mkF m 125 #[.val (.int p1), .val (.int p2), .val (.int (Int32.ofNat k)), .unset, .unset, .unset, .unset] [(.int (2 : Int32)), (.int (23 : Int32)), (.ref b1), (.ref b1)])) rfl rfl (hb hby at_125) (fun T25 h25 l25 X25 e25 A25 O25 Sz25 N25 => ?_)
  have sz25 : n0 ≤ h25.size := Nat.le_trans sz24 Sz25
  clear O25 Sz25 X24 e24 A24 N24 sz24
  show ∃ s₂ o, Steps p.tables e below (T25.setTop (mkF m 126 #[.val (.int p1), .val (.int p2), .val (.int (Int32.ofNat k)), .unset, .unset, .unset, .unset] [(.ref b1)])) s₂ ∧ _
  refine own_go (A := T25.setTop (mkF m 127 #[.val (.int p1), .val (.int p2), .val (.int (Int32.ofNat k)), .unset, .unset, .unset, .unset] [(.ref b1), (.ref b1)])) (fun t kt => XS.dup X25.here hx rfl (hb hby at_126) rfl rfl kt) ?_
  refine own_go (A := T25.setTop (mkF m 129 #[.val (.int p1), .val (.int p2), .val (.int (Int32.ofNat k)), .unset, .unset, .unset, .unset] [(.int (24 : Int32)), (.ref b1), (.ref b1)])) (fun t kt => XS.bipush X25.here hx rfl (hb hby at_127) kt) ?_
  refine own_go (A := T25.setTop (mkF m 130 #[.val (.int p1), .val (.int p2), .val (.int (Int32.ofNat k)), .unset, .unset, .unset, .unset] [(.int (2 : Int32)), (.int (24 : Int32)), (.ref b1), (.ref b1)])) (fun t kt => XS.iconst X25.here hx rfl (hb hby at_129) kt) ?_
  refine own_put X25 hx hZ e25 A25 (j := (24 : Int32)) (x := (2 : Int32)) 24 (by decide) (by decide) (by decide) N25 ga_b1 (g := (mkF m 130 #[.val (.int p1), .val (.int p2), .val (.int (Int32.ofNat k)), .unset, .unset, .unset, .unset] [(.int (2 : Int32)), (.int (24 : Int32)), (.ref b1), (.ref b1)])) rfl rfl (hb hby at_130) (fun T26 h26 l26 X26 e26 A26 O26 Sz26 N26 => ?_)
  have sz26 : n0 ≤ h26.size := Nat.le_trans sz25 Sz26
  clear O26 Sz26 X25 e25 A25 N25 sz25
  show ∃ s₂ o, Steps p.tables e below (T26.setTop (mkF m 131 #[.val (.int p1), .val (.int p2), .val (.int (Int32.ofNat k)), .unset, .unset, .unset, .unset] [(.ref b1)])) s₂ ∧ _
  refine own_go (A := T26.setTop (mkF m 132 #[.val (.int p1), .val (.int p2), .val (.int (Int32.ofNat k)), .unset, .unset, .unset, .unset] [(.ref b1), (.ref b1)])) (fun t kt => XS.dup X26.here hx rfl (hb hby at_131) rfl rfl kt) ?_
  refine own_go (A := T26.setTop (mkF m 134 #[.val (.int p1), .val (.int p2), .val (.int (Int32.ofNat k)), .unset, .unset, .unset, .unset] [(.int (25 : Int32)), (.ref b1), (.ref b1)])) (fun t kt => XS.bipush X26.here hx rfl (hb hby at_132) kt) ?_
  refine own_go (A := T26.setTop (mkF m 135 #[.val (.int p1), .val (.int p2), .val (.int (Int32.ofNat k)), .unset, .unset, .unset, .unset] [(.int (2 : Int32)), (.int (25 : Int32)), (.ref b1), (.ref b1)])) (fun t kt => XS.iconst X26.here hx rfl (hb hby at_134) kt) ?_
  refine own_put X26 hx hZ e26 A26 (j := (25 : Int32)) (x := (2 : Int32)) 25 (by decide) (by decide) (by decide) N26 ga_b1 (g := (mkF m 135 #[.val (.int p1), .val (.int p2), .val (.int (Int32.ofNat k)), .unset, .unset, .unset, .unset] [(.int (2 : Int32)), (.int (25 : Int32)), (.ref b1), (.ref b1)])) rfl rfl (hb hby at_135) (fun T27 h27 l27 X27 e27 A27 O27 Sz27 N27 => ?_)
  have sz27 : n0 ≤ h27.size := Nat.le_trans sz26 Sz27
  clear O27 Sz27 X26 e26 A26 N26 sz26
  show ∃ s₂ o, Steps p.tables e below (T27.setTop (mkF m 136 #[.val (.int p1), .val (.int p2), .val (.int (Int32.ofNat k)), .unset, .unset, .unset, .unset] [(.ref b1)])) s₂ ∧ _
  refine own_go (A := T27.setTop (mkF m 137 #[.val (.int p1), .val (.int p2), .val (.int (Int32.ofNat k)), .unset, .unset, .unset, .unset] [(.ref b1), (.ref b1)])) (fun t kt => XS.dup X27.here hx rfl (hb hby at_136) rfl rfl kt) ?_
  refine own_go (A := T27.setTop (mkF m 139 #[.val (.int p1), .val (.int p2), .val (.int (Int32.ofNat k)), .unset, .unset, .unset, .unset] [(.int (26 : Int32)), (.ref b1), (.ref b1)])) (fun t kt => XS.bipush X27.here hx rfl (hb hby at_137) kt) ?_
  refine own_go (A := T27.setTop (mkF m 140 #[.val (.int p1), .val (.int p2), .val (.int (Int32.ofNat k)), .unset, .unset, .unset, .unset] [(.int (1 : Int32)), (.int (26 : Int32)), (.ref b1), (.ref b1)])) (fun t kt => XS.iconst X27.here hx rfl (hb hby at_139) kt) ?_
  refine own_put X27 hx hZ e27 A27 (j := (26 : Int32)) (x := (1 : Int32)) 26 (by decide) (by decide) (by decide) N27 ga_b1 (g := (mkF m 140 #[.val (.int p1), .val (.int p2), .val (.int (Int32.ofNat k)), .unset, .unset, .unset, .unset] [(.int (1 : Int32)), (.int (26 : Int32)), (.ref b1), (.ref b1)])) rfl rfl (hb hby at_140) (fun T28 h28 l28 X28 e28 A28 O28 Sz28 N28 => ?_)
  have sz28 : n0 ≤ h28.size := Nat.le_trans sz27 Sz28
  clear O28 Sz28 X27 e27 A27 N27 sz27
  show ∃ s₂ o, Steps p.tables e below (T28.setTop (mkF m 141 #[.val (.int p1), .val (.int p2), .val (.int (Int32.ofNat k)), .unset, .unset, .unset, .unset] [(.ref b1)])) s₂ ∧ _
  refine own_go (A := T28.setTop (mkF m 142 #[.val (.int p1), .val (.int p2), .val (.int (Int32.ofNat k)), .unset, .unset, .unset, .unset] [(.ref b1), (.ref b1)])) (fun t kt => XS.dup X28.here hx rfl (hb hby at_141) rfl rfl kt) ?_
  refine own_go (A := T28.setTop (mkF m 144 #[.val (.int p1), .val (.int p2), .val (.int (Int32.ofNat k)), .unset, .unset, .unset, .unset] [(.int (27 : Int32)), (.ref b1), (.ref b1)])) (fun t kt => XS.bipush X28.here hx rfl (hb hby at_142) kt) ?_
  refine own_go (A := T28.setTop (mkF m 145 #[.val (.int p1), .val (.int p2), .val (.int (Int32.ofNat k)), .unset, .unset, .unset, .unset] [(.int (1 : Int32)), (.int (27 : Int32)), (.ref b1), (.ref b1)])) (fun t kt => XS.iconst X28.here hx rfl (hb hby at_144) kt) ?_
  refine own_put X28 hx hZ e28 A28 (j := (27 : Int32)) (x := (1 : Int32)) 27 (by decide) (by decide) (by decide) N28 ga_b1 (g := (mkF m 145 #[.val (.int p1), .val (.int p2), .val (.int (Int32.ofNat k)), .unset, .unset, .unset, .unset] [(.int (1 : Int32)), (.int (27 : Int32)), (.ref b1), (.ref b1)])) rfl rfl (hb hby at_145) (fun T29 h29 l29 X29 e29 A29 O29 Sz29 N29 => ?_)
  have sz29 : n0 ≤ h29.size := Nat.le_trans sz28 Sz29
  clear O29 Sz29 X28 e28 A28 N28 sz28
  show ∃ s₂ o, Steps p.tables e below (T29.setTop (mkF m 146 #[.val (.int p1), .val (.int p2), .val (.int (Int32.ofNat k)), .unset, .unset, .unset, .unset] [(.ref b1)])) s₂ ∧ _
  refine own_go (A := T29.setTop (mkF m 147 #[.val (.int p1), .val (.int p2), .val (.int (Int32.ofNat k)), .unset, .unset, .unset, .unset] [(.ref b1), (.ref b1)])) (fun t kt => XS.dup X29.here hx rfl (hb hby at_146) rfl rfl kt) ?_
  refine own_go (A := T29.setTop (mkF m 149 #[.val (.int p1), .val (.int p2), .val (.int (Int32.ofNat k)), .unset, .unset, .unset, .unset] [(.int (28 : Int32)), (.ref b1), (.ref b1)])) (fun t kt => XS.bipush X29.here hx rfl (hb hby at_147) kt) ?_
  refine own_go (A := T29.setTop (mkF m 150 #[.val (.int p1), .val (.int p2), .val (.int (Int32.ofNat k)), .unset, .unset, .unset, .unset] [(.int (1 : Int32)), (.int (28 : Int32)), (.ref b1), (.ref b1)])) (fun t kt => XS.iconst X29.here hx rfl (hb hby at_149) kt) ?_
  refine own_put X29 hx hZ e29 A29 (j := (28 : Int32)) (x := (1 : Int32)) 28 (by decide) (by decide) (by decide) N29 ga_b1 (g := (mkF m 150 #[.val (.int p1), .val (.int p2), .val (.int (Int32.ofNat k)), .unset, .unset, .unset, .unset] [(.int (1 : Int32)), (.int (28 : Int32)), (.ref b1), (.ref b1)])) rfl rfl (hb hby at_150) (fun T30 h30 l30 X30 e30 A30 O30 Sz30 N30 => ?_)
  have sz30 : n0 ≤ h30.size := Nat.le_trans sz29 Sz30
  clear O30 Sz30 X29 e29 A29 N29 sz29
  show ∃ s₂ o, Steps p.tables e below (T30.setTop (mkF m 151 #[.val (.int p1), .val (.int p2), .val (.int (Int32.ofNat k)), .unset, .unset, .unset, .unset] [(.ref b1)])) s₂ ∧ _
  refine own_go (A := T30.setTop (mkF m 152 #[.val (.int p1), .val (.int p2), .val (.int (Int32.ofNat k)), .unset, .unset, .unset, .unset] [(.ref b1), (.ref b1)])) (fun t kt => XS.dup X30.here hx rfl (hb hby at_151) rfl rfl kt) ?_
  refine own_go (A := T30.setTop (mkF m 154 #[.val (.int p1), .val (.int p2), .val (.int (Int32.ofNat k)), .unset, .unset, .unset, .unset] [(.int (29 : Int32)), (.ref b1), (.ref b1)])) (fun t kt => XS.bipush X30.here hx rfl (hb hby at_152) kt) ?_
  refine own_go (A := T30.setTop (mkF m 155 #[.val (.int p1), .val (.int p2), .val (.int (Int32.ofNat k)), .unset, .unset, .unset, .unset] [(.int (1 : Int32)), (.int (29 : Int32)), (.ref b1), (.ref b1)])) (fun t kt => XS.iconst X30.here hx rfl (hb hby at_154) kt) ?_
  refine own_put X30 hx hZ e30 A30 (j := (29 : Int32)) (x := (1 : Int32)) 29 (by decide) (by decide) (by decide) N30 ga_b1 (g := (mkF m 155 #[.val (.int p1), .val (.int p2), .val (.int (Int32.ofNat k)), .unset, .unset, .unset, .unset] [(.int (1 : Int32)), (.int (29 : Int32)), (.ref b1), (.ref b1)])) rfl rfl (hb hby at_155) (fun T31 h31 l31 X31 e31 A31 O31 Sz31 N31 => ?_)
  have sz31 : n0 ≤ h31.size := Nat.le_trans sz30 Sz31
  clear O31 Sz31 X30 e30 A30 N30 sz30
  show ∃ s₂ o, Steps p.tables e below (T31.setTop (mkF m 156 #[.val (.int p1), .val (.int p2), .val (.int (Int32.ofNat k)), .unset, .unset, .unset, .unset] [(.ref b1)])) s₂ ∧ _
  refine own_go (A := T31.setTop (mkF m 157 #[.val (.int p1), .val (.int p2), .val (.int (Int32.ofNat k)), .unset, .unset, .unset, .unset] [(.ref b1), (.ref b1)])) (fun t kt => XS.dup X31.here hx rfl (hb hby at_156) rfl rfl kt) ?_
  refine own_go (A := T31.setTop (mkF m 159 #[.val (.int p1), .val (.int p2), .val (.int (Int32.ofNat k)), .unset, .unset, .unset, .unset] [(.int (30 : Int32)), (.ref b1), (.ref b1)])) (fun t kt => XS.bipush X31.here hx rfl (hb hby at_157) kt) ?_
  refine own_go (A := T31.setTop (mkF m 160 #[.val (.int p1), .val (.int p2), .val (.int (Int32.ofNat k)), .unset, .unset, .unset, .unset] [(.int (1 : Int32)), (.int (30 : Int32)), (.ref b1), (.ref b1)])) (fun t kt => XS.iconst X31.here hx rfl (hb hby at_159) kt) ?_
  refine own_put X31 hx hZ e31 A31 (j := (30 : Int32)) (x := (1 : Int32)) 30 (by decide) (by decide) (by decide) N31 ga_b1 (g := (mkF m 160 #[.val (.int p1), .val (.int p2), .val (.int (Int32.ofNat k)), .unset, .unset, .unset, .unset] [(.int (1 : Int32)), (.int (30 : Int32)), (.ref b1), (.ref b1)])) rfl rfl (hb hby at_160) (fun T32 h32 l32 X32 e32 A32 O32 Sz32 N32 => ?_)
  have sz32 : n0 ≤ h32.size := Nat.le_trans sz31 Sz32
  clear O32 Sz32 X31 e31 A31 N31 sz31
  show ∃ s₂ o, Steps p.tables e below (T32.setTop (mkF m 161 #[.val (.int p1), .val (.int p2), .val (.int (Int32.ofNat k)), .unset, .unset, .unset, .unset] [(.ref b1)])) s₂ ∧ _
  refine own_go (A := T32.setTop (mkF m 162 #[.val (.int p1), .val (.int p2), .val (.int (Int32.ofNat k)), .unset, .unset, .unset, .unset] [(.ref b1), (.ref b1)])) (fun t kt => XS.dup X32.here hx rfl (hb hby at_161) rfl rfl kt) ?_
  refine own_go (A := T32.setTop (mkF m 164 #[.val (.int p1), .val (.int p2), .val (.int (Int32.ofNat k)), .unset, .unset, .unset, .unset] [(.int (31 : Int32)), (.ref b1), (.ref b1)])) (fun t kt => XS.bipush X32.here hx rfl (hb hby at_162) kt) ?_
  refine own_go (A := T32.setTop (mkF m 165 #[.val (.int p1), .val (.int p2), .val (.int (Int32.ofNat k)), .unset, .unset, .unset, .unset] [(.int (1 : Int32)), (.int (31 : Int32)), (.ref b1), (.ref b1)])) (fun t kt => XS.iconst X32.here hx rfl (hb hby at_164) kt) ?_
  refine own_put X32 hx hZ e32 A32 (j := (31 : Int32)) (x := (1 : Int32)) 31 (by decide) (by decide) (by decide) N32 ga_b1 (g := (mkF m 165 #[.val (.int p1), .val (.int p2), .val (.int (Int32.ofNat k)), .unset, .unset, .unset, .unset] [(.int (1 : Int32)), (.int (31 : Int32)), (.ref b1), (.ref b1)])) rfl rfl (hb hby at_165) (fun T33 h33 l33 X33 e33 A33 O33 Sz33 N33 => ?_)
  have sz33 : n0 ≤ h33.size := Nat.le_trans sz32 Sz33
  clear O33 Sz33 X32 e32 A32 N32 sz32
  show ∃ s₂ o, Steps p.tables e below (T33.setTop (mkF m 166 #[.val (.int p1), .val (.int p2), .val (.int (Int32.ofNat k)), .unset, .unset, .unset, .unset] [(.ref b1)])) s₂ ∧ _
  refine own_go (A := T33.setTop (mkF m 167 #[.val (.int p1), .val (.int p2), .val (.int (Int32.ofNat k)), .unset, .unset, .unset, .unset] [(.ref b1), (.ref b1)])) (fun t kt => XS.dup X33.here hx rfl (hb hby at_166) rfl rfl kt) ?_
  refine own_go (A := T33.setTop (mkF m 169 #[.val (.int p1), .val (.int p2), .val (.int (Int32.ofNat k)), .unset, .unset, .unset, .unset] [(.int (32 : Int32)), (.ref b1), (.ref b1)])) (fun t kt => XS.bipush X33.here hx rfl (hb hby at_167) kt) ?_
  refine own_go (A := T33.setTop (mkF m 170 #[.val (.int p1), .val (.int p2), .val (.int (Int32.ofNat k)), .unset, .unset, .unset, .unset] [(.int (1 : Int32)), (.int (32 : Int32)), (.ref b1), (.ref b1)])) (fun t kt => XS.iconst X33.here hx rfl (hb hby at_169) kt) ?_
  refine own_put X33 hx hZ e33 A33 (j := (32 : Int32)) (x := (1 : Int32)) 32 (by decide) (by decide) (by decide) N33 ga_b1 (g := (mkF m 170 #[.val (.int p1), .val (.int p2), .val (.int (Int32.ofNat k)), .unset, .unset, .unset, .unset] [(.int (1 : Int32)), (.int (32 : Int32)), (.ref b1), (.ref b1)])) rfl rfl (hb hby at_170) (fun T34 h34 l34 X34 e34 A34 O34 Sz34 N34 => ?_)
  have sz34 : n0 ≤ h34.size := Nat.le_trans sz33 Sz34
  clear O34 Sz34 X33 e33 A33 N33 sz33
  show ∃ s₂ o, Steps p.tables e below (T34.setTop (mkF m 171 #[.val (.int p1), .val (.int p2), .val (.int (Int32.ofNat k)), .unset, .unset, .unset, .unset] [(.ref b1)])) s₂ ∧ _
  refine own_go (A := T34.setTop (mkF m 172 #[.val (.int p1), .val (.int p2), .val (.int (Int32.ofNat k)), .unset, .unset, .unset, .unset] [(.ref b1), (.ref b1)])) (fun t kt => XS.dup X34.here hx rfl (hb hby at_171) rfl rfl kt) ?_
  refine own_go (A := T34.setTop (mkF m 174 #[.val (.int p1), .val (.int p2), .val (.int (Int32.ofNat k)), .unset, .unset, .unset, .unset] [(.int (33 : Int32)), (.ref b1), (.ref b1)])) (fun t kt => XS.bipush X34.here hx rfl (hb hby at_172) kt) ?_
  refine own_go (A := T34.setTop (mkF m 175 #[.val (.int p1), .val (.int p2), .val (.int (Int32.ofNat k)), .unset, .unset, .unset, .unset] [(.int (0 : Int32)), (.int (33 : Int32)), (.ref b1), (.ref b1)])) (fun t kt => XS.iconst X34.here hx rfl (hb hby at_174) kt) ?_
  refine own_put X34 hx hZ e34 A34 (j := (33 : Int32)) (x := (0 : Int32)) 33 (by decide) (by decide) (by decide) N34 ga_b1 (g := (mkF m 175 #[.val (.int p1), .val (.int p2), .val (.int (Int32.ofNat k)), .unset, .unset, .unset, .unset] [(.int (0 : Int32)), (.int (33 : Int32)), (.ref b1), (.ref b1)])) rfl rfl (hb hby at_175) (fun T35 h35 l35 X35 e35 A35 O35 Sz35 N35 => ?_)
  have sz35 : n0 ≤ h35.size := Nat.le_trans sz34 Sz35
  clear O35 Sz35 X34 e34 A34 N34 sz34
  show ∃ s₂ o, Steps p.tables e below (T35.setTop (mkF m 176 #[.val (.int p1), .val (.int p2), .val (.int (Int32.ofNat k)), .unset, .unset, .unset, .unset] [(.ref b1)])) s₂ ∧ _
  refine own_go (A := T35.setTop (mkF m 177 #[.val (.int p1), .val (.int p2), .val (.int (Int32.ofNat k)), .unset, .unset, .unset, .unset] [(.ref b1), (.ref b1)])) (fun t kt => XS.dup X35.here hx rfl (hb hby at_176) rfl rfl kt) ?_
  refine own_go (A := T35.setTop (mkF m 179 #[.val (.int p1), .val (.int p2), .val (.int (Int32.ofNat k)), .unset, .unset, .unset, .unset] [(.int (34 : Int32)), (.ref b1), (.ref b1)])) (fun t kt => XS.bipush X35.here hx rfl (hb hby at_177) kt) ?_
  refine own_go (A := T35.setTop (mkF m 180 #[.val (.int p1), .val (.int p2), .val (.int (Int32.ofNat k)), .unset, .unset, .unset, .unset] [(.int (1 : Int32)), (.int (34 : Int32)), (.ref b1), (.ref b1)])) (fun t kt => XS.iconst X35.here hx rfl (hb hby at_179) kt) ?_
  refine own_put X35 hx hZ e35 A35 (j := (34 : Int32)) (x := (1 : Int32)) 34 (by decide) (by decide) (by decide) N35 ga_b1 (g := (mkF m 180 #[.val (.int p1), .val (.int p2), .val (.int (Int32.ofNat k)), .unset, .unset, .unset, .unset] [(.int (1 : Int32)), (.int (34 : Int32)), (.ref b1), (.ref b1)])) rfl rfl (hb hby at_180) (fun T36 h36 l36 X36 e36 A36 O36 Sz36 N36 => ?_)
  have sz36 : n0 ≤ h36.size := Nat.le_trans sz35 Sz36
  clear O36 Sz36 X35 e35 A35 N35 sz35
  show ∃ s₂ o, Steps p.tables e below (T36.setTop (mkF m 181 #[.val (.int p1), .val (.int p2), .val (.int (Int32.ofNat k)), .unset, .unset, .unset, .unset] [(.ref b1)])) s₂ ∧ _
  refine own_go (A := T36.setTop (mkF m 182 #[.val (.int p1), .val (.int p2), .val (.int (Int32.ofNat k)), .unset, .unset, .unset, .unset] [(.ref b1), (.ref b1)])) (fun t kt => XS.dup X36.here hx rfl (hb hby at_181) rfl rfl kt) ?_
  refine own_go (A := T36.setTop (mkF m 184 #[.val (.int p1), .val (.int p2), .val (.int (Int32.ofNat k)), .unset, .unset, .unset, .unset] [(.int (35 : Int32)), (.ref b1), (.ref b1)])) (fun t kt => XS.bipush X36.here hx rfl (hb hby at_182) kt) ?_
  refine own_go (A := T36.setTop (mkF m 185 #[.val (.int p1), .val (.int p2), .val (.int (Int32.ofNat k)), .unset, .unset, .unset, .unset] [(.int (1 : Int32)), (.int (35 : Int32)), (.ref b1), (.ref b1)])) (fun t kt => XS.iconst X36.here hx rfl (hb hby at_184) kt) ?_
  refine own_put X36 hx hZ e36 A36 (j := (35 : Int32)) (x := (1 : Int32)) 35 (by decide) (by decide) (by decide) N36 ga_b1 (g := (mkF m 185 #[.val (.int p1), .val (.int p2), .val (.int (Int32.ofNat k)), .unset, .unset, .unset, .unset] [(.int (1 : Int32)), (.int (35 : Int32)), (.ref b1), (.ref b1)])) rfl rfl (hb hby at_185) (fun T37 h37 l37 X37 e37 A37 O37 Sz37 N37 => ?_)
  have sz37 : n0 ≤ h37.size := Nat.le_trans sz36 Sz37
  clear O37 Sz37 X36 e36 A36 N36 sz36
  show ∃ s₂ o, Steps p.tables e below (T37.setTop (mkF m 186 #[.val (.int p1), .val (.int p2), .val (.int (Int32.ofNat k)), .unset, .unset, .unset, .unset] [(.ref b1)])) s₂ ∧ _
  refine own_go (A := T37.setTop (mkF m 187 #[.val (.int p1), .val (.int p2), .val (.int (Int32.ofNat k)), .unset, .unset, .unset, .unset] [(.ref b1), (.ref b1)])) (fun t kt => XS.dup X37.here hx rfl (hb hby at_186) rfl rfl kt) ?_
  refine own_go (A := T37.setTop (mkF m 189 #[.val (.int p1), .val (.int p2), .val (.int (Int32.ofNat k)), .unset, .unset, .unset, .unset] [(.int (36 : Int32)), (.ref b1), (.ref b1)])) (fun t kt => XS.bipush X37.here hx rfl (hb hby at_187) kt) ?_
  refine own_go (A := T37.setTop (mkF m 190 #[.val (.int p1), .val (.int p2), .val (.int (Int32.ofNat k)), .unset, .unset, .unset, .unset] [(.int (1 : Int32)), (.int (36 : Int32)), (.ref b1), (.ref b1)])) (fun t kt => XS.iconst X37.here hx rfl (hb hby at_189) kt) ?_
  refine own_put X37 hx hZ e37 A37 (j := (36 : Int32)) (x := (1 : Int32)) 36 (by decide) (by decide) (by decide) N37 ga_b1 (g := (mkF m 190 #[.val (.int p1), .val (.int p2), .val (.int (Int32.ofNat k)), .unset, .unset, .unset, .unset] [(.int (1 : Int32)), (.int (36 : Int32)), (.ref b1), (.ref b1)])) rfl rfl (hb hby at_190) (fun T38 h38 l38 X38 e38 A38 O38 Sz38 N38 => ?_)
  have sz38 : n0 ≤ h38.size := Nat.le_trans sz37 Sz38
  clear O38 Sz38 X37 e37 A37 N37 sz37
  show ∃ s₂ o, Steps p.tables e below (T38.setTop (mkF m 191 #[.val (.int p1), .val (.int p2), .val (.int (Int32.ofNat k)), .unset, .unset, .unset, .unset] [(.ref b1)])) s₂ ∧ _
  refine own_go (A := T38.setTop (mkF m 192 #[.val (.int p1), .val (.int p2), .val (.int (Int32.ofNat k)), .unset, .unset, .unset, .unset] [(.ref b1), (.ref b1)])) (fun t kt => XS.dup X38.here hx rfl (hb hby at_191) rfl rfl kt) ?_
  refine own_go (A := T38.setTop (mkF m 194 #[.val (.int p1), .val (.int p2), .val (.int (Int32.ofNat k)), .unset, .unset, .unset, .unset] [(.int (37 : Int32)), (.ref b1), (.ref b1)])) (fun t kt => XS.bipush X38.here hx rfl (hb hby at_192) kt) ?_
  refine own_go (A := T38.setTop (mkF m 195 #[.val (.int p1), .val (.int p2), .val (.int (Int32.ofNat k)), .unset, .unset, .unset, .unset] [(.int (1 : Int32)), (.int (37 : Int32)), (.ref b1), (.ref b1)])) (fun t kt => XS.iconst X38.here hx rfl (hb hby at_194) kt) ?_
  refine own_put X38 hx hZ e38 A38 (j := (37 : Int32)) (x := (1 : Int32)) 37 (by decide) (by decide) (by decide) N38 ga_b1 (g := (mkF m 195 #[.val (.int p1), .val (.int p2), .val (.int (Int32.ofNat k)), .unset, .unset, .unset, .unset] [(.int (1 : Int32)), (.int (37 : Int32)), (.ref b1), (.ref b1)])) rfl rfl (hb hby at_195) (fun T39 h39 l39 X39 e39 A39 O39 Sz39 N39 => ?_)
  have sz39 : n0 ≤ h39.size := Nat.le_trans sz38 Sz39
  clear O39 Sz39 X38 e38 A38 N38 sz38
  show ∃ s₂ o, Steps p.tables e below (T39.setTop (mkF m 196 #[.val (.int p1), .val (.int p2), .val (.int (Int32.ofNat k)), .unset, .unset, .unset, .unset] [(.ref b1)])) s₂ ∧ _
  refine own_go (A := T39.setTop (mkF m 197 #[.val (.int p1), .val (.int p2), .val (.int (Int32.ofNat k)), .unset, .unset, .unset, .unset] [(.ref b1), (.ref b1)])) (fun t kt => XS.dup X39.here hx rfl (hb hby at_196) rfl rfl kt) ?_
  refine own_go (A := T39.setTop (mkF m 199 #[.val (.int p1), .val (.int p2), .val (.int (Int32.ofNat k)), .unset, .unset, .unset, .unset] [(.int (38 : Int32)), (.ref b1), (.ref b1)])) (fun t kt => XS.bipush X39.here hx rfl (hb hby at_197) kt) ?_
  refine own_go (A := T39.setTop (mkF m 200 #[.val (.int p1), .val (.int p2), .val (.int (Int32.ofNat k)), .unset, .unset, .unset, .unset] [(.int (2 : Int32)), (.int (38 : Int32)), (.ref b1), (.ref b1)])) (fun t kt => XS.iconst X39.here hx rfl (hb hby at_199) kt) ?_
  refine own_put X39 hx hZ e39 A39 (j := (38 : Int32)) (x := (2 : Int32)) 38 (by decide) (by decide) (by decide) N39 ga_b1 (g := (mkF m 200 #[.val (.int p1), .val (.int p2), .val (.int (Int32.ofNat k)), .unset, .unset, .unset, .unset] [(.int (2 : Int32)), (.int (38 : Int32)), (.ref b1), (.ref b1)])) rfl rfl (hb hby at_200) (fun T40 h40 l40 X40 e40 A40 O40 Sz40 N40 => ?_)
  have sz40 : n0 ≤ h40.size := Nat.le_trans sz39 Sz40
  clear O40 Sz40 X39 e39 A39 N39 sz39
  show ∃ s₂ o, Steps p.tables e below (T40.setTop (mkF m 201 #[.val (.int p1), .val (.int p2), .val (.int (Int32.ofNat k)), .unset, .unset, .unset, .unset] [(.ref b1)])) s₂ ∧ _
  refine own_go (A := T40.setTop (mkF m 202 #[.val (.int p1), .val (.int p2), .val (.int (Int32.ofNat k)), .unset, .unset, .unset, .unset] [(.ref b1), (.ref b1)])) (fun t kt => XS.dup X40.here hx rfl (hb hby at_201) rfl rfl kt) ?_
  refine own_go (A := T40.setTop (mkF m 204 #[.val (.int p1), .val (.int p2), .val (.int (Int32.ofNat k)), .unset, .unset, .unset, .unset] [(.int (39 : Int32)), (.ref b1), (.ref b1)])) (fun t kt => XS.bipush X40.here hx rfl (hb hby at_202) kt) ?_
  refine own_go (A := T40.setTop (mkF m 205 #[.val (.int p1), .val (.int p2), .val (.int (Int32.ofNat k)), .unset, .unset, .unset, .unset] [(.int (1 : Int32)), (.int (39 : Int32)), (.ref b1), (.ref b1)])) (fun t kt => XS.iconst X40.here hx rfl (hb hby at_204) kt) ?_
  refine own_put X40 hx hZ e40 A40 (j := (39 : Int32)) (x := (1 : Int32)) 39 (by decide) (by decide) (by decide) N40 ga_b1 (g := (mkF m 205 #[.val (.int p1), .val (.int p2), .val (.int (Int32.ofNat k)), .unset, .unset, .unset, .unset] [(.int (1 : Int32)), (.int (39 : Int32)), (.ref b1), (.ref b1)])) rfl rfl (hb hby at_205) (fun T41 h41 l41 X41 e41 A41 O41 Sz41 N41 => ?_)
  have sz41 : n0 ≤ h41.size := Nat.le_trans sz40 Sz41
  clear O41 Sz41 X40 e40 A40 N40 sz40
  show ∃ s₂ o, Steps p.tables e below (T41.setTop (mkF m 206 #[.val (.int p1), .val (.int p2), .val (.int (Int32.ofNat k)), .unset, .unset, .unset, .unset] [(.ref b1)])) s₂ ∧ _
  refine own_go (A := T41.setTop (mkF m 207 #[.val (.int p1), .val (.int p2), .val (.int (Int32.ofNat k)), .unset, .unset, .unset, .unset] [(.ref b1), (.ref b1)])) (fun t kt => XS.dup X41.here hx rfl (hb hby at_206) rfl rfl kt) ?_
  refine own_go (A := T41.setTop (mkF m 209 #[.val (.int p1), .val (.int p2), .val (.int (Int32.ofNat k)), .unset, .unset, .unset, .unset] [(.int (40 : Int32)), (.ref b1), (.ref b1)])) (fun t kt => XS.bipush X41.here hx rfl (hb hby at_207) kt) ?_
  refine own_go (A := T41.setTop (mkF m 210 #[.val (.int p1), .val (.int p2), .val (.int (Int32.ofNat k)), .unset, .unset, .unset, .unset] [(.int (2 : Int32)), (.int (40 : Int32)), (.ref b1), (.ref b1)])) (fun t kt => XS.iconst X41.here hx rfl (hb hby at_209) kt) ?_
  refine own_put X41 hx hZ e41 A41 (j := (40 : Int32)) (x := (2 : Int32)) 40 (by decide) (by decide) (by decide) N41 ga_b1 (g := (mkF m 210 #[.val (.int p1), .val (.int p2), .val (.int (Int32.ofNat k)), .unset, .unset, .unset, .unset] [(.int (2 : Int32)), (.int (40 : Int32)), (.ref b1), (.ref b1)])) rfl rfl (hb hby at_210) (fun T42 h42 l42 X42 e42 A42 O42 Sz42 N42 => ?_)
  have sz42 : n0 ≤ h42.size := Nat.le_trans sz41 Sz42
  clear O42 Sz42 X41 e41 A41 N41 sz41
  show ∃ s₂ o, Steps p.tables e below (T42.setTop (mkF m 211 #[.val (.int p1), .val (.int p2), .val (.int (Int32.ofNat k)), .unset, .unset, .unset, .unset] [(.ref b1)])) s₂ ∧ _
  refine own_go (A := T42.setTop (mkF m 212 #[.val (.int p1), .val (.int p2), .val (.int (Int32.ofNat k)), .unset, .unset, .unset, .unset] [(.ref b1), (.ref b1)])) (fun t kt => XS.dup X42.here hx rfl (hb hby at_211) rfl rfl kt) ?_
  refine own_go (A := T42.setTop (mkF m 214 #[.val (.int p1), .val (.int p2), .val (.int (Int32.ofNat k)), .unset, .unset, .unset, .unset] [(.int (41 : Int32)), (.ref b1), (.ref b1)])) (fun t kt => XS.bipush X42.here hx rfl (hb hby at_212) kt) ?_
  refine own_go (A := T42.setTop (mkF m 215 #[.val (.int p1), .val (.int p2), .val (.int (Int32.ofNat k)), .unset, .unset, .unset, .unset] [(.int (0 : Int32)), (.int (41 : Int32)), (.ref b1), (.ref b1)])) (fun t kt => XS.iconst X42.here hx rfl (hb hby at_214) kt) ?_
  refine own_put X42 hx hZ e42 A42 (j := (41 : Int32)) (x := (0 : Int32)) 41 (by decide) (by decide) (by decide) N42 ga_b1 (g := (mkF m 215 #[.val (.int p1), .val (.int p2), .val (.int (Int32.ofNat k)), .unset, .unset, .unset, .unset] [(.int (0 : Int32)), (.int (41 : Int32)), (.ref b1), (.ref b1)])) rfl rfl (hb hby at_215) (fun T43 h43 l43 X43 e43 A43 O43 Sz43 N43 => ?_)
  have sz43 : n0 ≤ h43.size := Nat.le_trans sz42 Sz43
  clear O43 Sz43 X42 e42 A42 N42 sz42
  show ∃ s₂ o, Steps p.tables e below (T43.setTop (mkF m 216 #[.val (.int p1), .val (.int p2), .val (.int (Int32.ofNat k)), .unset, .unset, .unset, .unset] [(.ref b1)])) s₂ ∧ _
  refine own_go (A := T43.setTop (mkF m 217 #[.val (.int p1), .val (.int p2), .val (.int (Int32.ofNat k)), .unset, .unset, .unset, .unset] [(.ref b1), (.ref b1)])) (fun t kt => XS.dup X43.here hx rfl (hb hby at_216) rfl rfl kt) ?_
  refine own_go (A := T43.setTop (mkF m 219 #[.val (.int p1), .val (.int p2), .val (.int (Int32.ofNat k)), .unset, .unset, .unset, .unset] [(.int (42 : Int32)), (.ref b1), (.ref b1)])) (fun t kt => XS.bipush X43.here hx rfl (hb hby at_217) kt) ?_
  refine own_go (A := T43.setTop (mkF m 220 #[.val (.int p1), .val (.int p2), .val (.int (Int32.ofNat k)), .unset, .unset, .unset, .unset] [(.int (1 : Int32)), (.int (42 : Int32)), (.ref b1), (.ref b1)])) (fun t kt => XS.iconst X43.here hx rfl (hb hby at_219) kt) ?_
  refine own_put X43 hx hZ e43 A43 (j := (42 : Int32)) (x := (1 : Int32)) 42 (by decide) (by decide) (by decide) N43 ga_b1 (g := (mkF m 220 #[.val (.int p1), .val (.int p2), .val (.int (Int32.ofNat k)), .unset, .unset, .unset, .unset] [(.int (1 : Int32)), (.int (42 : Int32)), (.ref b1), (.ref b1)])) rfl rfl (hb hby at_220) (fun T44 h44 l44 X44 e44 A44 O44 Sz44 N44 => ?_)
  have sz44 : n0 ≤ h44.size := Nat.le_trans sz43 Sz44
  clear O44 Sz44 X43 e43 A43 N43 sz43
  show ∃ s₂ o, Steps p.tables e below (T44.setTop (mkF m 221 #[.val (.int p1), .val (.int p2), .val (.int (Int32.ofNat k)), .unset, .unset, .unset, .unset] [(.ref b1)])) s₂ ∧ _
  refine own_go (A := T44.setTop (mkF m 222 #[.val (.int p1), .val (.int p2), .val (.int (Int32.ofNat k)), .unset, .unset, .unset, .unset] [(.ref b1), (.ref b1)])) (fun t kt => XS.dup X44.here hx rfl (hb hby at_221) rfl rfl kt) ?_
  refine own_go (A := T44.setTop (mkF m 224 #[.val (.int p1), .val (.int p2), .val (.int (Int32.ofNat k)), .unset, .unset, .unset, .unset] [(.int (43 : Int32)), (.ref b1), (.ref b1)])) (fun t kt => XS.bipush X44.here hx rfl (hb hby at_222) kt) ?_
  refine own_go (A := T44.setTop (mkF m 225 #[.val (.int p1), .val (.int p2), .val (.int (Int32.ofNat k)), .unset, .unset, .unset, .unset] [(.int (0 : Int32)), (.int (43 : Int32)), (.ref b1), (.ref b1)])) (fun t kt => XS.iconst X44.here hx rfl (hb hby at_224) kt) ?_
  refine own_put X44 hx hZ e44 A44 (j := (43 : Int32)) (x := (0 : Int32)) 43 (by decide) (by decide) (by decide) N44 ga_b1 (g := (mkF m 225 #[.val (.int p1), .val (.int p2), .val (.int (Int32.ofNat k)), .unset, .unset, .unset, .unset] [(.int (0 : Int32)), (.int (43 : Int32)), (.ref b1), (.ref b1)])) rfl rfl (hb hby at_225) (fun T45 h45 l45 X45 e45 A45 O45 Sz45 N45 => ?_)
  have sz45 : n0 ≤ h45.size := Nat.le_trans sz44 Sz45
  clear O45 Sz45 X44 e44 A44 N44 sz44
  show ∃ s₂ o, Steps p.tables e below (T45.setTop (mkF m 226 #[.val (.int p1), .val (.int p2), .val (.int (Int32.ofNat k)), .unset, .unset, .unset, .unset] [(.ref b1)])) s₂ ∧ _
  refine own_go (A := T45.setTop (mkF m 227 #[.val (.int p1), .val (.int p2), .val (.int (Int32.ofNat k)), .unset, .unset, .unset, .unset] [(.ref b1), (.ref b1)])) (fun t kt => XS.dup X45.here hx rfl (hb hby at_226) rfl rfl kt) ?_
  refine own_go (A := T45.setTop (mkF m 229 #[.val (.int p1), .val (.int p2), .val (.int (Int32.ofNat k)), .unset, .unset, .unset, .unset] [(.int (44 : Int32)), (.ref b1), (.ref b1)])) (fun t kt => XS.bipush X45.here hx rfl (hb hby at_227) kt) ?_
  refine own_go (A := T45.setTop (mkF m 230 #[.val (.int p1), .val (.int p2), .val (.int (Int32.ofNat k)), .unset, .unset, .unset, .unset] [(.int (1 : Int32)), (.int (44 : Int32)), (.ref b1), (.ref b1)])) (fun t kt => XS.iconst X45.here hx rfl (hb hby at_229) kt) ?_
  refine own_put X45 hx hZ e45 A45 (j := (44 : Int32)) (x := (1 : Int32)) 44 (by decide) (by decide) (by decide) N45 ga_b1 (g := (mkF m 230 #[.val (.int p1), .val (.int p2), .val (.int (Int32.ofNat k)), .unset, .unset, .unset, .unset] [(.int (1 : Int32)), (.int (44 : Int32)), (.ref b1), (.ref b1)])) rfl rfl (hb hby at_230) (fun T46 h46 l46 X46 e46 A46 O46 Sz46 N46 => ?_)
  have sz46 : n0 ≤ h46.size := Nat.le_trans sz45 Sz46
  clear O46 Sz46 X45 e45 A45 N45 sz45
  show ∃ s₂ o, Steps p.tables e below (T46.setTop (mkF m 231 #[.val (.int p1), .val (.int p2), .val (.int (Int32.ofNat k)), .unset, .unset, .unset, .unset] [(.ref b1)])) s₂ ∧ _
  refine own_go (A := T46.setTop (mkF m 232 #[.val (.int p1), .val (.int p2), .val (.int (Int32.ofNat k)), .unset, .unset, .unset, .unset] [(.ref b1), (.ref b1)])) (fun t kt => XS.dup X46.here hx rfl (hb hby at_231) rfl rfl kt) ?_
  refine own_go (A := T46.setTop (mkF m 234 #[.val (.int p1), .val (.int p2), .val (.int (Int32.ofNat k)), .unset, .unset, .unset, .unset] [(.int (45 : Int32)), (.ref b1), (.ref b1)])) (fun t kt => XS.bipush X46.here hx rfl (hb hby at_232) kt) ?_
  refine own_go (A := T46.setTop (mkF m 235 #[.val (.int p1), .val (.int p2), .val (.int (Int32.ofNat k)), .unset, .unset, .unset, .unset] [(.int (0 : Int32)), (.int (45 : Int32)), (.ref b1), (.ref b1)])) (fun t kt => XS.iconst X46.here hx rfl (hb hby at_234) kt) ?_
  refine own_put X46 hx hZ e46 A46 (j := (45 : Int32)) (x := (0 : Int32)) 45 (by decide) (by decide) (by decide) N46 ga_b1 (g := (mkF m 235 #[.val (.int p1), .val (.int p2), .val (.int (Int32.ofNat k)), .unset, .unset, .unset, .unset] [(.int (0 : Int32)), (.int (45 : Int32)), (.ref b1), (.ref b1)])) rfl rfl (hb hby at_235) (fun T47 h47 l47 X47 e47 A47 O47 Sz47 N47 => ?_)
  have sz47 : n0 ≤ h47.size := Nat.le_trans sz46 Sz47
  clear O47 Sz47 X46 e46 A46 N46 sz46
  show ∃ s₂ o, Steps p.tables e below (T47.setTop (mkF m 236 #[.val (.int p1), .val (.int p2), .val (.int (Int32.ofNat k)), .unset, .unset, .unset, .unset] [(.ref b1)])) s₂ ∧ _
  refine own_go (A := T47.setTop (mkF m 237 #[.val (.int p1), .val (.int p2), .val (.int (Int32.ofNat k)), .unset, .unset, .unset, .unset] [(.ref b1), (.ref b1)])) (fun t kt => XS.dup X47.here hx rfl (hb hby at_236) rfl rfl kt) ?_
  refine own_go (A := T47.setTop (mkF m 239 #[.val (.int p1), .val (.int p2), .val (.int (Int32.ofNat k)), .unset, .unset, .unset, .unset] [(.int (46 : Int32)), (.ref b1), (.ref b1)])) (fun t kt => XS.bipush X47.here hx rfl (hb hby at_237) kt) ?_
  refine own_go (A := T47.setTop (mkF m 240 #[.val (.int p1), .val (.int p2), .val (.int (Int32.ofNat k)), .unset, .unset, .unset, .unset] [(.int (0 : Int32)), (.int (46 : Int32)), (.ref b1), (.ref b1)])) (fun t kt => XS.iconst X47.here hx rfl (hb hby at_239) kt) ?_
  refine own_put X47 hx hZ e47 A47 (j := (46 : Int32)) (x := (0 : Int32)) 46 (by decide) (by decide) (by decide) N47 ga_b1 (g := (mkF m 240 #[.val (.int p1), .val (.int p2), .val (.int (Int32.ofNat k)), .unset, .unset, .unset, .unset] [(.int (0 : Int32)), (.int (46 : Int32)), (.ref b1), (.ref b1)])) rfl rfl (hb hby at_240) (fun T48 h48 l48 X48 e48 A48 O48 Sz48 N48 => ?_)
  have sz48 : n0 ≤ h48.size := Nat.le_trans sz47 Sz48
  clear O48 Sz48 X47 e47 A47 N47 sz47
  show ∃ s₂ o, Steps p.tables e below (T48.setTop (mkF m 241 #[.val (.int p1), .val (.int p2), .val (.int (Int32.ofNat k)), .unset, .unset, .unset, .unset] [(.ref b1)])) s₂ ∧ _
  refine own_go (A := T48.setTop (mkF m 242 #[.val (.int p1), .val (.int p2), .val (.int (Int32.ofNat k)), .unset, .unset, .unset, .unset] [(.ref b1), (.ref b1)])) (fun t kt => XS.dup X48.here hx rfl (hb hby at_241) rfl rfl kt) ?_
  refine own_go (A := T48.setTop (mkF m 244 #[.val (.int p1), .val (.int p2), .val (.int (Int32.ofNat k)), .unset, .unset, .unset, .unset] [(.int (47 : Int32)), (.ref b1), (.ref b1)])) (fun t kt => XS.bipush X48.here hx rfl (hb hby at_242) kt) ?_
  refine own_go (A := T48.setTop (mkF m 245 #[.val (.int p1), .val (.int p2), .val (.int (Int32.ofNat k)), .unset, .unset, .unset, .unset] [(.int (0 : Int32)), (.int (47 : Int32)), (.ref b1), (.ref b1)])) (fun t kt => XS.iconst X48.here hx rfl (hb hby at_244) kt) ?_
  refine own_put X48 hx hZ e48 A48 (j := (47 : Int32)) (x := (0 : Int32)) 47 (by decide) (by decide) (by decide) N48 ga_b1 (g := (mkF m 245 #[.val (.int p1), .val (.int p2), .val (.int (Int32.ofNat k)), .unset, .unset, .unset, .unset] [(.int (0 : Int32)), (.int (47 : Int32)), (.ref b1), (.ref b1)])) rfl rfl (hb hby at_245) (fun T49 h49 l49 X49 e49 A49 O49 Sz49 N49 => ?_)
  have sz49 : n0 ≤ h49.size := Nat.le_trans sz48 Sz49
  clear O49 Sz49 X48 e48 A48 N48 sz48
  show ∃ s₂ o, Steps p.tables e below (T49.setTop (mkF m 246 #[.val (.int p1), .val (.int p2), .val (.int (Int32.ofNat k)), .unset, .unset, .unset, .unset] [(.ref b1)])) s₂ ∧ _
  refine own_go (A := T49.setTop (mkF m 247 #[.val (.int p1), .val (.int p2), .val (.int (Int32.ofNat k)), .unset, .unset, .unset, .unset] [(.ref b1), (.ref b1)])) (fun t kt => XS.dup X49.here hx rfl (hb hby at_246) rfl rfl kt) ?_
  refine own_go (A := T49.setTop (mkF m 249 #[.val (.int p1), .val (.int p2), .val (.int (Int32.ofNat k)), .unset, .unset, .unset, .unset] [(.int (48 : Int32)), (.ref b1), (.ref b1)])) (fun t kt => XS.bipush X49.here hx rfl (hb hby at_247) kt) ?_
  refine own_go (A := T49.setTop (mkF m 250 #[.val (.int p1), .val (.int p2), .val (.int (Int32.ofNat k)), .unset, .unset, .unset, .unset] [(.int (2 : Int32)), (.int (48 : Int32)), (.ref b1), (.ref b1)])) (fun t kt => XS.iconst X49.here hx rfl (hb hby at_249) kt) ?_
  refine own_put X49 hx hZ e49 A49 (j := (48 : Int32)) (x := (2 : Int32)) 48 (by decide) (by decide) (by decide) N49 ga_b1 (g := (mkF m 250 #[.val (.int p1), .val (.int p2), .val (.int (Int32.ofNat k)), .unset, .unset, .unset, .unset] [(.int (2 : Int32)), (.int (48 : Int32)), (.ref b1), (.ref b1)])) rfl rfl (hb hby at_250) (fun T50 h50 l50 X50 e50 A50 O50 Sz50 N50 => ?_)
  have sz50 : n0 ≤ h50.size := Nat.le_trans sz49 Sz50
  clear O50 Sz50 X49 e49 A49 N49 sz49
  show ∃ s₂ o, Steps p.tables e below (T50.setTop (mkF m 251 #[.val (.int p1), .val (.int p2), .val (.int (Int32.ofNat k)), .unset, .unset, .unset, .unset] [(.ref b1)])) s₂ ∧ _
  refine own_go (A := T50.setTop (mkF m 252 #[.val (.int p1), .val (.int p2), .val (.int (Int32.ofNat k)), .unset, .unset, .unset, .unset] [(.ref b1), (.ref b1)])) (fun t kt => XS.dup X50.here hx rfl (hb hby at_251) rfl rfl kt) ?_
  refine own_go (A := T50.setTop (mkF m 254 #[.val (.int p1), .val (.int p2), .val (.int (Int32.ofNat k)), .unset, .unset, .unset, .unset] [(.int (49 : Int32)), (.ref b1), (.ref b1)])) (fun t kt => XS.bipush X50.here hx rfl (hb hby at_252) kt) ?_
  refine own_go (A := T50.setTop (mkF m 255 #[.val (.int p1), .val (.int p2), .val (.int (Int32.ofNat k)), .unset, .unset, .unset, .unset] [(.int (3 : Int32)), (.int (49 : Int32)), (.ref b1), (.ref b1)])) (fun t kt => XS.iconst X50.here hx rfl (hb hby at_254) kt) ?_
  refine own_put X50 hx hZ e50 A50 (j := (49 : Int32)) (x := (3 : Int32)) 49 (by decide) (by decide) (by decide) N50 ga_b1 (g := (mkF m 255 #[.val (.int p1), .val (.int p2), .val (.int (Int32.ofNat k)), .unset, .unset, .unset, .unset] [(.int (3 : Int32)), (.int (49 : Int32)), (.ref b1), (.ref b1)])) rfl rfl (hb hby at_255) (fun T51 h51 l51 X51 e51 A51 O51 Sz51 N51 => ?_)
  have sz51 : n0 ≤ h51.size := Nat.le_trans sz50 Sz51
  clear O51 Sz51 X50 e50 A50 N50 sz50
  show ∃ s₂ o, Steps p.tables e below (T51.setTop (mkF m 256 #[.val (.int p1), .val (.int p2), .val (.int (Int32.ofNat k)), .unset, .unset, .unset, .unset] [(.ref b1)])) s₂ ∧ _
  refine own_go (A := T51.setTop (mkF m 257 #[.val (.int p1), .val (.int p2), .val (.int (Int32.ofNat k)), .unset, .unset, .unset, .unset] [(.ref b1), (.ref b1)])) (fun t kt => XS.dup X51.here hx rfl (hb hby at_256) rfl rfl kt) ?_
  refine own_go (A := T51.setTop (mkF m 259 #[.val (.int p1), .val (.int p2), .val (.int (Int32.ofNat k)), .unset, .unset, .unset, .unset] [(.int (50 : Int32)), (.ref b1), (.ref b1)])) (fun t kt => XS.bipush X51.here hx rfl (hb hby at_257) kt) ?_
  refine own_go (A := T51.setTop (mkF m 260 #[.val (.int p1), .val (.int p2), .val (.int (Int32.ofNat k)), .unset, .unset, .unset, .unset] [(.int (3 : Int32)), (.int (50 : Int32)), (.ref b1), (.ref b1)])) (fun t kt => XS.iconst X51.here hx rfl (hb hby at_259) kt) ?_
  refine own_put X51 hx hZ e51 A51 (j := (50 : Int32)) (x := (3 : Int32)) 50 (by decide) (by decide) (by decide) N51 ga_b1 (g := (mkF m 260 #[.val (.int p1), .val (.int p2), .val (.int (Int32.ofNat k)), .unset, .unset, .unset, .unset] [(.int (3 : Int32)), (.int (50 : Int32)), (.ref b1), (.ref b1)])) rfl rfl (hb hby at_260) (fun T52 h52 l52 X52 e52 A52 O52 Sz52 N52 => ?_)
  have sz52 : n0 ≤ h52.size := Nat.le_trans sz51 Sz52
  clear O52 Sz52 X51 e51 A51 N51 sz51
  show ∃ s₂ o, Steps p.tables e below (T52.setTop (mkF m 261 #[.val (.int p1), .val (.int p2), .val (.int (Int32.ofNat k)), .unset, .unset, .unset, .unset] [(.ref b1)])) s₂ ∧ _
  refine own_go (A := T52.setTop (mkF m 262 #[.val (.int p1), .val (.int p2), .val (.int (Int32.ofNat k)), .unset, .unset, .unset, .unset] [(.ref b1), (.ref b1)])) (fun t kt => XS.dup X52.here hx rfl (hb hby at_261) rfl rfl kt) ?_
  refine own_go (A := T52.setTop (mkF m 264 #[.val (.int p1), .val (.int p2), .val (.int (Int32.ofNat k)), .unset, .unset, .unset, .unset] [(.int (51 : Int32)), (.ref b1), (.ref b1)])) (fun t kt => XS.bipush X52.here hx rfl (hb hby at_262) kt) ?_
  refine own_go (A := T52.setTop (mkF m 265 #[.val (.int p1), .val (.int p2), .val (.int (Int32.ofNat k)), .unset, .unset, .unset, .unset] [(.int (2 : Int32)), (.int (51 : Int32)), (.ref b1), (.ref b1)])) (fun t kt => XS.iconst X52.here hx rfl (hb hby at_264) kt) ?_
  refine own_put X52 hx hZ e52 A52 (j := (51 : Int32)) (x := (2 : Int32)) 51 (by decide) (by decide) (by decide) N52 ga_b1 (g := (mkF m 265 #[.val (.int p1), .val (.int p2), .val (.int (Int32.ofNat k)), .unset, .unset, .unset, .unset] [(.int (2 : Int32)), (.int (51 : Int32)), (.ref b1), (.ref b1)])) rfl rfl (hb hby at_265) (fun T53 h53 l53 X53 e53 A53 O53 Sz53 N53 => ?_)
  have sz53 : n0 ≤ h53.size := Nat.le_trans sz52 Sz53
  clear O53 Sz53 X52 e52 A52 N52 sz52
  show ∃ s₂ o, Steps p.tables e below (T53.setTop (mkF m 266 #[.val (.int p1), .val (.int p2), .val (.int (Int32.ofNat k)), .unset, .unset, .unset, .unset] [(.ref b1)])) s₂ ∧ _
  refine own_go (A := T53.setTop (mkF m 267 #[.val (.int p1), .val (.int p2), .val (.int (Int32.ofNat k)), .unset, .unset, .unset, .unset] [(.ref b1), (.ref b1)])) (fun t kt => XS.dup X53.here hx rfl (hb hby at_266) rfl rfl kt) ?_
  refine own_go (A := T53.setTop (mkF m 269 #[.val (.int p1), .val (.int p2), .val (.int (Int32.ofNat k)), .unset, .unset, .unset, .unset] [(.int (52 : Int32)), (.ref b1), (.ref b1)])) (fun t kt => XS.bipush X53.here hx rfl (hb hby at_267) kt) ?_
  refine own_go (A := T53.setTop (mkF m 270 #[.val (.int p1), .val (.int p2), .val (.int (Int32.ofNat k)), .unset, .unset, .unset, .unset] [(.int (2 : Int32)), (.int (52 : Int32)), (.ref b1), (.ref b1)])) (fun t kt => XS.iconst X53.here hx rfl (hb hby at_269) kt) ?_
  refine own_put X53 hx hZ e53 A53 (j := (52 : Int32)) (x := (2 : Int32)) 52 (by decide) (by decide) (by decide) N53 ga_b1 (g := (mkF m 270 #[.val (.int p1), .val (.int p2), .val (.int (Int32.ofNat k)), .unset, .unset, .unset, .unset] [(.int (2 : Int32)), (.int (52 : Int32)), (.ref b1), (.ref b1)])) rfl rfl (hb hby at_270) (fun T54 h54 l54 X54 e54 A54 O54 Sz54 N54 => ?_)
  have sz54 : n0 ≤ h54.size := Nat.le_trans sz53 Sz54
  clear O54 Sz54 X53 e53 A53 N53 sz53
  show ∃ s₂ o, Steps p.tables e below (T54.setTop (mkF m 271 #[.val (.int p1), .val (.int p2), .val (.int (Int32.ofNat k)), .unset, .unset, .unset, .unset] [(.ref b1)])) s₂ ∧ _
  refine own_go (A := T54.setTop (mkF m 272 #[.val (.int p1), .val (.int p2), .val (.int (Int32.ofNat k)), .unset, .unset, .unset, .unset] [(.ref b1), (.ref b1)])) (fun t kt => XS.dup X54.here hx rfl (hb hby at_271) rfl rfl kt) ?_
  refine own_go (A := T54.setTop (mkF m 274 #[.val (.int p1), .val (.int p2), .val (.int (Int32.ofNat k)), .unset, .unset, .unset, .unset] [(.int (53 : Int32)), (.ref b1), (.ref b1)])) (fun t kt => XS.bipush X54.here hx rfl (hb hby at_272) kt) ?_
  refine own_go (A := T54.setTop (mkF m 275 #[.val (.int p1), .val (.int p2), .val (.int (Int32.ofNat k)), .unset, .unset, .unset, .unset] [(.int (2 : Int32)), (.int (53 : Int32)), (.ref b1), (.ref b1)])) (fun t kt => XS.iconst X54.here hx rfl (hb hby at_274) kt) ?_
  refine own_put X54 hx hZ e54 A54 (j := (53 : Int32)) (x := (2 : Int32)) 53 (by decide) (by decide) (by decide) N54 ga_b1 (g := (mkF m 275 #[.val (.int p1), .val (.int p2), .val (.int (Int32.ofNat k)), .unset, .unset, .unset, .unset] [(.int (2 : Int32)), (.int (53 : Int32)), (.ref b1), (.ref b1)])) rfl rfl (hb hby at_275) (fun T55 h55 l55 X55 e55 A55 O55 Sz55 N55 => ?_)
  have sz55 : n0 ≤ h55.size := Nat.le_trans sz54 Sz55
  clear O55 Sz55 X54 e54 A54 N54 sz54
  show ∃ s₂ o, Steps p.tables e below (T55.setTop (mkF m 276 #[.val (.int p1), .val (.int p2), .val (.int (Int32.ofNat k)), .unset, .unset, .unset, .unset] [(.ref b1)])) s₂ ∧ _
  refine own_go (A := T55.setTop (mkF m 277 #[.val (.int p1), .val (.int p2), .val (.int (Int32.ofNat k)), .unset, .unset, .unset, .unset] [(.ref b1), (.ref b1)])) (fun t kt => XS.dup X55.here hx rfl (hb hby at_276) rfl rfl kt) ?_
  refine own_go (A := T55.setTop (mkF m 279 #[.val (.int p1), .val (.int p2), .val (.int (Int32.ofNat k)), .unset, .unset, .unset, .unset] [(.int (54 : Int32)), (.ref b1), (.ref b1)])) (fun t kt => XS.bipush X55.here hx rfl (hb hby at_277) kt) ?_
  refine own_go (A := T55.setTop (mkF m 280 #[.val (.int p1), .val (.int p2), .val (.int (Int32.ofNat k)), .unset, .unset, .unset, .unset] [(.int (3 : Int32)), (.int (54 : Int32)), (.ref b1), (.ref b1)])) (fun t kt => XS.iconst X55.here hx rfl (hb hby at_279) kt) ?_
  refine own_put X55 hx hZ e55 A55 (j := (54 : Int32)) (x := (3 : Int32)) 54 (by decide) (by decide) (by decide) N55 ga_b1 (g := (mkF m 280 #[.val (.int p1), .val (.int p2), .val (.int (Int32.ofNat k)), .unset, .unset, .unset, .unset] [(.int (3 : Int32)), (.int (54 : Int32)), (.ref b1), (.ref b1)])) rfl rfl (hb hby at_280) (fun T56 h56 l56 X56 e56 A56 O56 Sz56 N56 => ?_)
  have sz56 : n0 ≤ h56.size := Nat.le_trans sz55 Sz56
  clear O56 Sz56 X55 e55 A55 N55 sz55
  show ∃ s₂ o, Steps p.tables e below (T56.setTop (mkF m 281 #[.val (.int p1), .val (.int p2), .val (.int (Int32.ofNat k)), .unset, .unset, .unset, .unset] [(.ref b1)])) s₂ ∧ _
  refine own_go (A := T56.setTop (mkF m 282 #[.val (.int p1), .val (.int p2), .val (.int (Int32.ofNat k)), .unset, .unset, .unset, .unset] [(.ref b1), (.ref b1)])) (fun t kt => XS.dup X56.here hx rfl (hb hby at_281) rfl rfl kt) ?_
  refine own_go (A := T56.setTop (mkF m 284 #[.val (.int p1), .val (.int p2), .val (.int (Int32.ofNat k)), .unset, .unset, .unset, .unset] [(.int (55 : Int32)), (.ref b1), (.ref b1)])) (fun t kt => XS.bipush X56.here hx rfl (hb hby at_282) kt) ?_
  refine own_go (A := T56.setTop (mkF m 285 #[.val (.int p1), .val (.int p2), .val (.int (Int32.ofNat k)), .unset, .unset, .unset, .unset] [(.int (2 : Int32)), (.int (55 : Int32)), (.ref b1), (.ref b1)])) (fun t kt => XS.iconst X56.here hx rfl (hb hby at_284) kt) ?_
  refine own_put X56 hx hZ e56 A56 (j := (55 : Int32)) (x := (2 : Int32)) 55 (by decide) (by decide) (by decide) N56 ga_b1 (g := (mkF m 285 #[.val (.int p1), .val (.int p2), .val (.int (Int32.ofNat k)), .unset, .unset, .unset, .unset] [(.int (2 : Int32)), (.int (55 : Int32)), (.ref b1), (.ref b1)])) rfl rfl (hb hby at_285) (fun T57 h57 l57 X57 e57 A57 O57 Sz57 N57 => ?_)
  have sz57 : n0 ≤ h57.size := Nat.le_trans sz56 Sz57
  clear O57 Sz57 X56 e56 A56 N56 sz56
  show ∃ s₂ o, Steps p.tables e below (T57.setTop (mkF m 286 #[.val (.int p1), .val (.int p2), .val (.int (Int32.ofNat k)), .unset, .unset, .unset, .unset] [(.ref b1)])) s₂ ∧ _
  refine own_go (A := T57.setTop (mkF m 287 #[.val (.int p1), .val (.int p2), .val (.int (Int32.ofNat k)), .unset, .unset, .unset, .unset] [(.ref b1), (.ref b1)])) (fun t kt => XS.dup X57.here hx rfl (hb hby at_286) rfl rfl kt) ?_
  refine own_go (A := T57.setTop (mkF m 289 #[.val (.int p1), .val (.int p2), .val (.int (Int32.ofNat k)), .unset, .unset, .unset, .unset] [(.int (56 : Int32)), (.ref b1), (.ref b1)])) (fun t kt => XS.bipush X57.here hx rfl (hb hby at_287) kt) ?_
  refine own_go (A := T57.setTop (mkF m 290 #[.val (.int p1), .val (.int p2), .val (.int (Int32.ofNat k)), .unset, .unset, .unset, .unset] [(.int (2 : Int32)), (.int (56 : Int32)), (.ref b1), (.ref b1)])) (fun t kt => XS.iconst X57.here hx rfl (hb hby at_289) kt) ?_
  refine own_put X57 hx hZ e57 A57 (j := (56 : Int32)) (x := (2 : Int32)) 56 (by decide) (by decide) (by decide) N57 ga_b1 (g := (mkF m 290 #[.val (.int p1), .val (.int p2), .val (.int (Int32.ofNat k)), .unset, .unset, .unset, .unset] [(.int (2 : Int32)), (.int (56 : Int32)), (.ref b1), (.ref b1)])) rfl rfl (hb hby at_290) (fun T58 h58 l58 X58 e58 A58 O58 Sz58 N58 => ?_)
  have sz58 : n0 ≤ h58.size := Nat.le_trans sz57 Sz58
  clear O58 Sz58 X57 e57 A57 N57 sz57
  show ∃ s₂ o, Steps p.tables e below (T58.setTop (mkF m 291 #[.val (.int p1), .val (.int p2), .val (.int (Int32.ofNat k)), .unset, .unset, .unset, .unset] [(.ref b1)])) s₂ ∧ _
  refine own_go (A := T58.setTop (mkF m 292 #[.val (.int p1), .val (.int p2), .val (.int (Int32.ofNat k)), .unset, .unset, .unset, .unset] [(.ref b1), (.ref b1)])) (fun t kt => XS.dup X58.here hx rfl (hb hby at_291) rfl rfl kt) ?_
  refine own_go (A := T58.setTop (mkF m 294 #[.val (.int p1), .val (.int p2), .val (.int (Int32.ofNat k)), .unset, .unset, .unset, .unset] [(.int (57 : Int32)), (.ref b1), (.ref b1)])) (fun t kt => XS.bipush X58.here hx rfl (hb hby at_292) kt) ?_
  refine own_go (A := T58.setTop (mkF m 295 #[.val (.int p1), .val (.int p2), .val (.int (Int32.ofNat k)), .unset, .unset, .unset, .unset] [(.int (0 : Int32)), (.int (57 : Int32)), (.ref b1), (.ref b1)])) (fun t kt => XS.iconst X58.here hx rfl (hb hby at_294) kt) ?_
  refine own_put X58 hx hZ e58 A58 (j := (57 : Int32)) (x := (0 : Int32)) 57 (by decide) (by decide) (by decide) N58 ga_b1 (g := (mkF m 295 #[.val (.int p1), .val (.int p2), .val (.int (Int32.ofNat k)), .unset, .unset, .unset, .unset] [(.int (0 : Int32)), (.int (57 : Int32)), (.ref b1), (.ref b1)])) rfl rfl (hb hby at_295) (fun T59 h59 l59 X59 e59 A59 O59 Sz59 N59 => ?_)
  have sz59 : n0 ≤ h59.size := Nat.le_trans sz58 Sz59
  clear O59 Sz59 X58 e58 A58 N58 sz58
  show ∃ s₂ o, Steps p.tables e below (T59.setTop (mkF m 296 #[.val (.int p1), .val (.int p2), .val (.int (Int32.ofNat k)), .unset, .unset, .unset, .unset] [(.ref b1)])) s₂ ∧ _
  refine own_go (A := T59.setTop (mkF m 297 #[.val (.int p1), .val (.int p2), .val (.int (Int32.ofNat k)), .unset, .unset, .unset, .unset] [(.ref b1), (.ref b1)])) (fun t kt => XS.dup X59.here hx rfl (hb hby at_296) rfl rfl kt) ?_
  refine own_go (A := T59.setTop (mkF m 299 #[.val (.int p1), .val (.int p2), .val (.int (Int32.ofNat k)), .unset, .unset, .unset, .unset] [(.int (58 : Int32)), (.ref b1), (.ref b1)])) (fun t kt => XS.bipush X59.here hx rfl (hb hby at_297) kt) ?_
  refine own_go (A := T59.setTop (mkF m 300 #[.val (.int p1), .val (.int p2), .val (.int (Int32.ofNat k)), .unset, .unset, .unset, .unset] [(.int (2 : Int32)), (.int (58 : Int32)), (.ref b1), (.ref b1)])) (fun t kt => XS.iconst X59.here hx rfl (hb hby at_299) kt) ?_
  refine own_put X59 hx hZ e59 A59 (j := (58 : Int32)) (x := (2 : Int32)) 58 (by decide) (by decide) (by decide) N59 ga_b1 (g := (mkF m 300 #[.val (.int p1), .val (.int p2), .val (.int (Int32.ofNat k)), .unset, .unset, .unset, .unset] [(.int (2 : Int32)), (.int (58 : Int32)), (.ref b1), (.ref b1)])) rfl rfl (hb hby at_300) (fun T60 h60 l60 X60 e60 A60 O60 Sz60 N60 => ?_)
  have sz60 : n0 ≤ h60.size := Nat.le_trans sz59 Sz60
  clear O60 Sz60 X59 e59 A59 N59 sz59
  show ∃ s₂ o, Steps p.tables e below (T60.setTop (mkF m 301 #[.val (.int p1), .val (.int p2), .val (.int (Int32.ofNat k)), .unset, .unset, .unset, .unset] [(.ref b1)])) s₂ ∧ _
  refine own_go (A := T60.setTop (mkF m 302 #[.val (.int p1), .val (.int p2), .val (.int (Int32.ofNat k)), .unset, .unset, .unset, .unset] [(.ref b1), (.ref b1)])) (fun t kt => XS.dup X60.here hx rfl (hb hby at_301) rfl rfl kt) ?_
  refine own_go (A := T60.setTop (mkF m 304 #[.val (.int p1), .val (.int p2), .val (.int (Int32.ofNat k)), .unset, .unset, .unset, .unset] [(.int (59 : Int32)), (.ref b1), (.ref b1)])) (fun t kt => XS.bipush X60.here hx rfl (hb hby at_302) kt) ?_
  refine own_go (A := T60.setTop (mkF m 305 #[.val (.int p1), .val (.int p2), .val (.int (Int32.ofNat k)), .unset, .unset, .unset, .unset] [(.int (0 : Int32)), (.int (59 : Int32)), (.ref b1), (.ref b1)])) (fun t kt => XS.iconst X60.here hx rfl (hb hby at_304) kt) ?_
  refine own_put X60 hx hZ e60 A60 (j := (59 : Int32)) (x := (0 : Int32)) 59 (by decide) (by decide) (by decide) N60 ga_b1 (g := (mkF m 305 #[.val (.int p1), .val (.int p2), .val (.int (Int32.ofNat k)), .unset, .unset, .unset, .unset] [(.int (0 : Int32)), (.int (59 : Int32)), (.ref b1), (.ref b1)])) rfl rfl (hb hby at_305) (fun T61 h61 l61 X61 e61 A61 O61 Sz61 N61 => ?_)
  have sz61 : n0 ≤ h61.size := Nat.le_trans sz60 Sz61
  clear O61 Sz61 X60 e60 A60 N60 sz60
  show ∃ s₂ o, Steps p.tables e below (T61.setTop (mkF m 306 #[.val (.int p1), .val (.int p2), .val (.int (Int32.ofNat k)), .unset, .unset, .unset, .unset] [(.ref b1)])) s₂ ∧ _
  refine own_go (A := T61.setTop (mkF m 307 #[.val (.int p1), .val (.int p2), .val (.int (Int32.ofNat k)), .unset, .unset, .unset, .unset] [(.ref b1), (.ref b1)])) (fun t kt => XS.dup X61.here hx rfl (hb hby at_306) rfl rfl kt) ?_
  refine own_go (A := T61.setTop (mkF m 309 #[.val (.int p1), .val (.int p2), .val (.int (Int32.ofNat k)), .unset, .unset, .unset, .unset] [(.int (60 : Int32)), (.ref b1), (.ref b1)])) (fun t kt => XS.bipush X61.here hx rfl (hb hby at_307) kt) ?_
  refine own_go (A := T61.setTop (mkF m 310 #[.val (.int p1), .val (.int p2), .val (.int (Int32.ofNat k)), .unset, .unset, .unset, .unset] [(.int (1 : Int32)), (.int (60 : Int32)), (.ref b1), (.ref b1)])) (fun t kt => XS.iconst X61.here hx rfl (hb hby at_309) kt) ?_
  refine own_put X61 hx hZ e61 A61 (j := (60 : Int32)) (x := (1 : Int32)) 60 (by decide) (by decide) (by decide) N61 ga_b1 (g := (mkF m 310 #[.val (.int p1), .val (.int p2), .val (.int (Int32.ofNat k)), .unset, .unset, .unset, .unset] [(.int (1 : Int32)), (.int (60 : Int32)), (.ref b1), (.ref b1)])) rfl rfl (hb hby at_310) (fun T62 h62 l62 X62 e62 A62 O62 Sz62 N62 => ?_)
  have sz62 : n0 ≤ h62.size := Nat.le_trans sz61 Sz62
  clear O62 Sz62 X61 e61 A61 N61 sz61
  show ∃ s₂ o, Steps p.tables e below (T62.setTop (mkF m 311 #[.val (.int p1), .val (.int p2), .val (.int (Int32.ofNat k)), .unset, .unset, .unset, .unset] [(.ref b1)])) s₂ ∧ _
  refine own_go (A := T62.setTop (mkF m 312 #[.val (.int p1), .val (.int p2), .val (.int (Int32.ofNat k)), .unset, .unset, .unset, .unset] [(.ref b1), (.ref b1)])) (fun t kt => XS.dup X62.here hx rfl (hb hby at_311) rfl rfl kt) ?_
  refine own_go (A := T62.setTop (mkF m 314 #[.val (.int p1), .val (.int p2), .val (.int (Int32.ofNat k)), .unset, .unset, .unset, .unset] [(.int (61 : Int32)), (.ref b1), (.ref b1)])) (fun t kt => XS.bipush X62.here hx rfl (hb hby at_312) kt) ?_
  refine own_go (A := T62.setTop (mkF m 315 #[.val (.int p1), .val (.int p2), .val (.int (Int32.ofNat k)), .unset, .unset, .unset, .unset] [(.int (1 : Int32)), (.int (61 : Int32)), (.ref b1), (.ref b1)])) (fun t kt => XS.iconst X62.here hx rfl (hb hby at_314) kt) ?_
  refine own_put X62 hx hZ e62 A62 (j := (61 : Int32)) (x := (1 : Int32)) 61 (by decide) (by decide) (by decide) N62 ga_b1 (g := (mkF m 315 #[.val (.int p1), .val (.int p2), .val (.int (Int32.ofNat k)), .unset, .unset, .unset, .unset] [(.int (1 : Int32)), (.int (61 : Int32)), (.ref b1), (.ref b1)])) rfl rfl (hb hby at_315) (fun T63 h63 l63 X63 e63 A63 O63 Sz63 N63 => ?_)
  have sz63 : n0 ≤ h63.size := Nat.le_trans sz62 Sz63
  clear O63 Sz63 X62 e62 A62 N62 sz62
  show ∃ s₂ o, Steps p.tables e below (T63.setTop (mkF m 316 #[.val (.int p1), .val (.int p2), .val (.int (Int32.ofNat k)), .unset, .unset, .unset, .unset] [(.ref b1)])) s₂ ∧ _
  refine own_go (A := T63.setTop (mkF m 317 #[.val (.int p1), .val (.int p2), .val (.int (Int32.ofNat k)), .unset, .unset, .unset, .unset] [(.ref b1), (.ref b1)])) (fun t kt => XS.dup X63.here hx rfl (hb hby at_316) rfl rfl kt) ?_
  refine own_go (A := T63.setTop (mkF m 319 #[.val (.int p1), .val (.int p2), .val (.int (Int32.ofNat k)), .unset, .unset, .unset, .unset] [(.int (62 : Int32)), (.ref b1), (.ref b1)])) (fun t kt => XS.bipush X63.here hx rfl (hb hby at_317) kt) ?_
  refine own_go (A := T63.setTop (mkF m 320 #[.val (.int p1), .val (.int p2), .val (.int (Int32.ofNat k)), .unset, .unset, .unset, .unset] [(.int (1 : Int32)), (.int (62 : Int32)), (.ref b1), (.ref b1)])) (fun t kt => XS.iconst X63.here hx rfl (hb hby at_319) kt) ?_
  refine own_put X63 hx hZ e63 A63 (j := (62 : Int32)) (x := (1 : Int32)) 62 (by decide) (by decide) (by decide) N63 ga_b1 (g := (mkF m 320 #[.val (.int p1), .val (.int p2), .val (.int (Int32.ofNat k)), .unset, .unset, .unset, .unset] [(.int (1 : Int32)), (.int (62 : Int32)), (.ref b1), (.ref b1)])) rfl rfl (hb hby at_320) (fun T64 h64 l64 X64 e64 A64 O64 Sz64 N64 => ?_)
  have sz64 : n0 ≤ h64.size := Nat.le_trans sz63 Sz64
  clear O64 Sz64 X63 e63 A63 N63 sz63
  show ∃ s₂ o, Steps p.tables e below (T64.setTop (mkF m 321 #[.val (.int p1), .val (.int p2), .val (.int (Int32.ofNat k)), .unset, .unset, .unset, .unset] [(.ref b1)])) s₂ ∧ _
  refine own_go (A := T64.setTop (mkF m 322 #[.val (.int p1), .val (.int p2), .val (.int (Int32.ofNat k)), .unset, .unset, .unset, .unset] [(.ref b1), (.ref b1)])) (fun t kt => XS.dup X64.here hx rfl (hb hby at_321) rfl rfl kt) ?_
  refine own_go (A := T64.setTop (mkF m 324 #[.val (.int p1), .val (.int p2), .val (.int (Int32.ofNat k)), .unset, .unset, .unset, .unset] [(.int (63 : Int32)), (.ref b1), (.ref b1)])) (fun t kt => XS.bipush X64.here hx rfl (hb hby at_322) kt) ?_
  refine own_go (A := T64.setTop (mkF m 325 #[.val (.int p1), .val (.int p2), .val (.int (Int32.ofNat k)), .unset, .unset, .unset, .unset] [(.int (1 : Int32)), (.int (63 : Int32)), (.ref b1), (.ref b1)])) (fun t kt => XS.iconst X64.here hx rfl (hb hby at_324) kt) ?_
  refine own_put X64 hx hZ e64 A64 (j := (63 : Int32)) (x := (1 : Int32)) 63 (by decide) (by decide) (by decide) N64 ga_b1 (g := (mkF m 325 #[.val (.int p1), .val (.int p2), .val (.int (Int32.ofNat k)), .unset, .unset, .unset, .unset] [(.int (1 : Int32)), (.int (63 : Int32)), (.ref b1), (.ref b1)])) rfl rfl (hb hby at_325) (fun T65 h65 l65 X65 e65 A65 O65 Sz65 N65 => ?_)
  have sz65 : n0 ≤ h65.size := Nat.le_trans sz64 Sz65
  clear O65 Sz65 X64 e64 A64 N64 sz64
  show ∃ s₂ o, Steps p.tables e below (T65.setTop (mkF m 326 #[.val (.int p1), .val (.int p2), .val (.int (Int32.ofNat k)), .unset, .unset, .unset, .unset] [(.ref b1)])) s₂ ∧ _
  refine own_go (A := T65.setTop (mkF m 327 #[.val (.int p1), .val (.int p2), .val (.int (Int32.ofNat k)), .unset, .unset, .unset, .unset] [(.ref b1), (.ref b1)])) (fun t kt => XS.dup X65.here hx rfl (hb hby at_326) rfl rfl kt) ?_
  refine own_go (A := T65.setTop (mkF m 329 #[.val (.int p1), .val (.int p2), .val (.int (Int32.ofNat k)), .unset, .unset, .unset, .unset] [(.int (64 : Int32)), (.ref b1), (.ref b1)])) (fun t kt => XS.bipush X65.here hx rfl (hb hby at_327) kt) ?_
  refine own_go (A := T65.setTop (mkF m 330 #[.val (.int p1), .val (.int p2), .val (.int (Int32.ofNat k)), .unset, .unset, .unset, .unset] [(.int (0 : Int32)), (.int (64 : Int32)), (.ref b1), (.ref b1)])) (fun t kt => XS.iconst X65.here hx rfl (hb hby at_329) kt) ?_
  refine own_put X65 hx hZ e65 A65 (j := (64 : Int32)) (x := (0 : Int32)) 64 (by decide) (by decide) (by decide) N65 ga_b1 (g := (mkF m 330 #[.val (.int p1), .val (.int p2), .val (.int (Int32.ofNat k)), .unset, .unset, .unset, .unset] [(.int (0 : Int32)), (.int (64 : Int32)), (.ref b1), (.ref b1)])) rfl rfl (hb hby at_330) (fun T66 h66 l66 X66 e66 A66 O66 Sz66 N66 => ?_)
  have sz66 : n0 ≤ h66.size := Nat.le_trans sz65 Sz66
  clear O66 Sz66 X65 e65 A65 N65 sz65
  show ∃ s₂ o, Steps p.tables e below (T66.setTop (mkF m 331 #[.val (.int p1), .val (.int p2), .val (.int (Int32.ofNat k)), .unset, .unset, .unset, .unset] [(.ref b1)])) s₂ ∧ _
  refine own_go (A := T66.setTop (mkF m 332 #[.val (.int p1), .val (.int p2), .val (.int (Int32.ofNat k)), .unset, .unset, .unset, .unset] [(.ref b1), (.ref b1)])) (fun t kt => XS.dup X66.here hx rfl (hb hby at_331) rfl rfl kt) ?_
  refine own_go (A := T66.setTop (mkF m 334 #[.val (.int p1), .val (.int p2), .val (.int (Int32.ofNat k)), .unset, .unset, .unset, .unset] [(.int (65 : Int32)), (.ref b1), (.ref b1)])) (fun t kt => XS.bipush X66.here hx rfl (hb hby at_332) kt) ?_
  refine own_go (A := T66.setTop (mkF m 335 #[.val (.int p1), .val (.int p2), .val (.int (Int32.ofNat k)), .unset, .unset, .unset, .unset] [(.int (1 : Int32)), (.int (65 : Int32)), (.ref b1), (.ref b1)])) (fun t kt => XS.iconst X66.here hx rfl (hb hby at_334) kt) ?_
  refine own_put X66 hx hZ e66 A66 (j := (65 : Int32)) (x := (1 : Int32)) 65 (by decide) (by decide) (by decide) N66 ga_b1 (g := (mkF m 335 #[.val (.int p1), .val (.int p2), .val (.int (Int32.ofNat k)), .unset, .unset, .unset, .unset] [(.int (1 : Int32)), (.int (65 : Int32)), (.ref b1), (.ref b1)])) rfl rfl (hb hby at_335) (fun T67 h67 l67 X67 e67 A67 O67 Sz67 N67 => ?_)
  have sz67 : n0 ≤ h67.size := Nat.le_trans sz66 Sz67
  clear O67 Sz67 X66 e66 A66 N66 sz66
  show ∃ s₂ o, Steps p.tables e below (T67.setTop (mkF m 336 #[.val (.int p1), .val (.int p2), .val (.int (Int32.ofNat k)), .unset, .unset, .unset, .unset] [(.ref b1)])) s₂ ∧ _
  refine own_go (A := T67.setTop (mkF m 337 #[.val (.int p1), .val (.int p2), .val (.int (Int32.ofNat k)), .unset, .unset, .unset, .unset] [(.ref b1), (.ref b1)])) (fun t kt => XS.dup X67.here hx rfl (hb hby at_336) rfl rfl kt) ?_
  refine own_go (A := T67.setTop (mkF m 339 #[.val (.int p1), .val (.int p2), .val (.int (Int32.ofNat k)), .unset, .unset, .unset, .unset] [(.int (66 : Int32)), (.ref b1), (.ref b1)])) (fun t kt => XS.bipush X67.here hx rfl (hb hby at_337) kt) ?_
  refine own_go (A := T67.setTop (mkF m 340 #[.val (.int p1), .val (.int p2), .val (.int (Int32.ofNat k)), .unset, .unset, .unset, .unset] [(.int (1 : Int32)), (.int (66 : Int32)), (.ref b1), (.ref b1)])) (fun t kt => XS.iconst X67.here hx rfl (hb hby at_339) kt) ?_
  refine own_put X67 hx hZ e67 A67 (j := (66 : Int32)) (x := (1 : Int32)) 66 (by decide) (by decide) (by decide) N67 ga_b1 (g := (mkF m 340 #[.val (.int p1), .val (.int p2), .val (.int (Int32.ofNat k)), .unset, .unset, .unset, .unset] [(.int (1 : Int32)), (.int (66 : Int32)), (.ref b1), (.ref b1)])) rfl rfl (hb hby at_340) (fun T68 h68 l68 X68 e68 A68 O68 Sz68 N68 => ?_)
  have sz68 : n0 ≤ h68.size := Nat.le_trans sz67 Sz68
  clear O68 Sz68 X67 e67 A67 N67 sz67
  show ∃ s₂ o, Steps p.tables e below (T68.setTop (mkF m 341 #[.val (.int p1), .val (.int p2), .val (.int (Int32.ofNat k)), .unset, .unset, .unset, .unset] [(.ref b1)])) s₂ ∧ _
  refine own_go (A := T68.setTop (mkF m 342 #[.val (.int p1), .val (.int p2), .val (.int (Int32.ofNat k)), .unset, .unset, .unset, .unset] [(.ref b1), (.ref b1)])) (fun t kt => XS.dup X68.here hx rfl (hb hby at_341) rfl rfl kt) ?_
  refine own_go (A := T68.setTop (mkF m 344 #[.val (.int p1), .val (.int p2), .val (.int (Int32.ofNat k)), .unset, .unset, .unset, .unset] [(.int (67 : Int32)), (.ref b1), (.ref b1)])) (fun t kt => XS.bipush X68.here hx rfl (hb hby at_342) kt) ?_
  refine own_go (A := T68.setTop (mkF m 345 #[.val (.int p1), .val (.int p2), .val (.int (Int32.ofNat k)), .unset, .unset, .unset, .unset] [(.int (1 : Int32)), (.int (67 : Int32)), (.ref b1), (.ref b1)])) (fun t kt => XS.iconst X68.here hx rfl (hb hby at_344) kt) ?_
  refine own_put X68 hx hZ e68 A68 (j := (67 : Int32)) (x := (1 : Int32)) 67 (by decide) (by decide) (by decide) N68 ga_b1 (g := (mkF m 345 #[.val (.int p1), .val (.int p2), .val (.int (Int32.ofNat k)), .unset, .unset, .unset, .unset] [(.int (1 : Int32)), (.int (67 : Int32)), (.ref b1), (.ref b1)])) rfl rfl (hb hby at_345) (fun T69 h69 l69 X69 e69 A69 O69 Sz69 N69 => ?_)
  have sz69 : n0 ≤ h69.size := Nat.le_trans sz68 Sz69
  clear O69 Sz69 X68 e68 A68 N68 sz68
  show ∃ s₂ o, Steps p.tables e below (T69.setTop (mkF m 346 #[.val (.int p1), .val (.int p2), .val (.int (Int32.ofNat k)), .unset, .unset, .unset, .unset] [(.ref b1)])) s₂ ∧ _
  refine own_go (A := T69.setTop (mkF m 347 #[.val (.int p1), .val (.int p2), .val (.int (Int32.ofNat k)), .unset, .unset, .unset, .unset] [(.ref b1), (.ref b1)])) (fun t kt => XS.dup X69.here hx rfl (hb hby at_346) rfl rfl kt) ?_
  refine own_go (A := T69.setTop (mkF m 349 #[.val (.int p1), .val (.int p2), .val (.int (Int32.ofNat k)), .unset, .unset, .unset, .unset] [(.int (68 : Int32)), (.ref b1), (.ref b1)])) (fun t kt => XS.bipush X69.here hx rfl (hb hby at_347) kt) ?_
  refine own_go (A := T69.setTop (mkF m 350 #[.val (.int p1), .val (.int p2), .val (.int (Int32.ofNat k)), .unset, .unset, .unset, .unset] [(.int (0 : Int32)), (.int (68 : Int32)), (.ref b1), (.ref b1)])) (fun t kt => XS.iconst X69.here hx rfl (hb hby at_349) kt) ?_
  refine own_put X69 hx hZ e69 A69 (j := (68 : Int32)) (x := (0 : Int32)) 68 (by decide) (by decide) (by decide) N69 ga_b1 (g := (mkF m 350 #[.val (.int p1), .val (.int p2), .val (.int (Int32.ofNat k)), .unset, .unset, .unset, .unset] [(.int (0 : Int32)), (.int (68 : Int32)), (.ref b1), (.ref b1)])) rfl rfl (hb hby at_350) (fun T70 h70 l70 X70 e70 A70 O70 Sz70 N70 => ?_)
  have sz70 : n0 ≤ h70.size := Nat.le_trans sz69 Sz70
  clear O70 Sz70 X69 e69 A69 N69 sz69
  show ∃ s₂ o, Steps p.tables e below (T70.setTop (mkF m 351 #[.val (.int p1), .val (.int p2), .val (.int (Int32.ofNat k)), .unset, .unset, .unset, .unset] [(.ref b1)])) s₂ ∧ _
  refine own_go (A := T70.setTop (mkF m 352 #[.val (.int p1), .val (.int p2), .val (.int (Int32.ofNat k)), .unset, .unset, .unset, .unset] [(.ref b1), (.ref b1)])) (fun t kt => XS.dup X70.here hx rfl (hb hby at_351) rfl rfl kt) ?_
  refine own_go (A := T70.setTop (mkF m 354 #[.val (.int p1), .val (.int p2), .val (.int (Int32.ofNat k)), .unset, .unset, .unset, .unset] [(.int (69 : Int32)), (.ref b1), (.ref b1)])) (fun t kt => XS.bipush X70.here hx rfl (hb hby at_352) kt) ?_
  refine own_go (A := T70.setTop (mkF m 355 #[.val (.int p1), .val (.int p2), .val (.int (Int32.ofNat k)), .unset, .unset, .unset, .unset] [(.int (0 : Int32)), (.int (69 : Int32)), (.ref b1), (.ref b1)])) (fun t kt => XS.iconst X70.here hx rfl (hb hby at_354) kt) ?_
  refine own_put X70 hx hZ e70 A70 (j := (69 : Int32)) (x := (0 : Int32)) 69 (by decide) (by decide) (by decide) N70 ga_b1 (g := (mkF m 355 #[.val (.int p1), .val (.int p2), .val (.int (Int32.ofNat k)), .unset, .unset, .unset, .unset] [(.int (0 : Int32)), (.int (69 : Int32)), (.ref b1), (.ref b1)])) rfl rfl (hb hby at_355) (fun T71 h71 l71 X71 e71 A71 O71 Sz71 N71 => ?_)
  have sz71 : n0 ≤ h71.size := Nat.le_trans sz70 Sz71
  clear O71 Sz71 X70 e70 A70 N70 sz70
  show ∃ s₂ o, Steps p.tables e below (T71.setTop (mkF m 356 #[.val (.int p1), .val (.int p2), .val (.int (Int32.ofNat k)), .unset, .unset, .unset, .unset] [(.ref b1)])) s₂ ∧ _
  refine own_go (A := T71.setTop (mkF m 357 #[.val (.int p1), .val (.int p2), .val (.int (Int32.ofNat k)), .unset, .unset, .unset, .unset] [(.ref b1), (.ref b1)])) (fun t kt => XS.dup X71.here hx rfl (hb hby at_356) rfl rfl kt) ?_
  refine own_go (A := T71.setTop (mkF m 359 #[.val (.int p1), .val (.int p2), .val (.int (Int32.ofNat k)), .unset, .unset, .unset, .unset] [(.int (70 : Int32)), (.ref b1), (.ref b1)])) (fun t kt => XS.bipush X71.here hx rfl (hb hby at_357) kt) ?_
  refine own_go (A := T71.setTop (mkF m 360 #[.val (.int p1), .val (.int p2), .val (.int (Int32.ofNat k)), .unset, .unset, .unset, .unset] [(.int (1 : Int32)), (.int (70 : Int32)), (.ref b1), (.ref b1)])) (fun t kt => XS.iconst X71.here hx rfl (hb hby at_359) kt) ?_
  refine own_put X71 hx hZ e71 A71 (j := (70 : Int32)) (x := (1 : Int32)) 70 (by decide) (by decide) (by decide) N71 ga_b1 (g := (mkF m 360 #[.val (.int p1), .val (.int p2), .val (.int (Int32.ofNat k)), .unset, .unset, .unset, .unset] [(.int (1 : Int32)), (.int (70 : Int32)), (.ref b1), (.ref b1)])) rfl rfl (hb hby at_360) (fun T72 h72 l72 X72 e72 A72 O72 Sz72 N72 => ?_)
  have sz72 : n0 ≤ h72.size := Nat.le_trans sz71 Sz72
  clear O72 Sz72 X71 e71 A71 N71 sz71
  show ∃ s₂ o, Steps p.tables e below (T72.setTop (mkF m 361 #[.val (.int p1), .val (.int p2), .val (.int (Int32.ofNat k)), .unset, .unset, .unset, .unset] [(.ref b1)])) s₂ ∧ _
  refine own_go (A := T72.setTop (mkF m 362 #[.val (.int p1), .val (.int p2), .val (.int (Int32.ofNat k)), .unset, .unset, .unset, .unset] [(.ref b1), (.ref b1)])) (fun t kt => XS.dup X72.here hx rfl (hb hby at_361) rfl rfl kt) ?_
  refine own_go (A := T72.setTop (mkF m 364 #[.val (.int p1), .val (.int p2), .val (.int (Int32.ofNat k)), .unset, .unset, .unset, .unset] [(.int (71 : Int32)), (.ref b1), (.ref b1)])) (fun t kt => XS.bipush X72.here hx rfl (hb hby at_362) kt) ?_
  refine own_go (A := T72.setTop (mkF m 365 #[.val (.int p1), .val (.int p2), .val (.int (Int32.ofNat k)), .unset, .unset, .unset, .unset] [(.int (0 : Int32)), (.int (71 : Int32)), (.ref b1), (.ref b1)])) (fun t kt => XS.iconst X72.here hx rfl (hb hby at_364) kt) ?_
  refine own_put X72 hx hZ e72 A72 (j := (71 : Int32)) (x := (0 : Int32)) 71 (by decide) (by decide) (by decide) N72 ga_b1 (g := (mkF m 365 #[.val (.int p1), .val (.int p2), .val (.int (Int32.ofNat k)), .unset, .unset, .unset, .unset] [(.int (0 : Int32)), (.int (71 : Int32)), (.ref b1), (.ref b1)])) rfl rfl (hb hby at_365) (fun T73 h73 l73 X73 e73 A73 O73 Sz73 N73 => ?_)
  have sz73 : n0 ≤ h73.size := Nat.le_trans sz72 Sz73
  clear O73 Sz73 X72 e72 A72 N72 sz72
  show ∃ s₂ o, Steps p.tables e below (T73.setTop (mkF m 366 #[.val (.int p1), .val (.int p2), .val (.int (Int32.ofNat k)), .unset, .unset, .unset, .unset] [(.ref b1)])) s₂ ∧ _
  refine own_go (A := T73.setTop (mkF m 367 #[.val (.int p1), .val (.int p2), .val (.int (Int32.ofNat k)), .unset, .unset, .unset, .unset] [(.ref b1), (.ref b1)])) (fun t kt => XS.dup X73.here hx rfl (hb hby at_366) rfl rfl kt) ?_
  refine own_go (A := T73.setTop (mkF m 369 #[.val (.int p1), .val (.int p2), .val (.int (Int32.ofNat k)), .unset, .unset, .unset, .unset] [(.int (72 : Int32)), (.ref b1), (.ref b1)])) (fun t kt => XS.bipush X73.here hx rfl (hb hby at_367) kt) ?_
  refine own_go (A := T73.setTop (mkF m 370 #[.val (.int p1), .val (.int p2), .val (.int (Int32.ofNat k)), .unset, .unset, .unset, .unset] [(.int (1 : Int32)), (.int (72 : Int32)), (.ref b1), (.ref b1)])) (fun t kt => XS.iconst X73.here hx rfl (hb hby at_369) kt) ?_
  refine own_put X73 hx hZ e73 A73 (j := (72 : Int32)) (x := (1 : Int32)) 72 (by decide) (by decide) (by decide) N73 ga_b1 (g := (mkF m 370 #[.val (.int p1), .val (.int p2), .val (.int (Int32.ofNat k)), .unset, .unset, .unset, .unset] [(.int (1 : Int32)), (.int (72 : Int32)), (.ref b1), (.ref b1)])) rfl rfl (hb hby at_370) (fun T74 h74 l74 X74 e74 A74 O74 Sz74 N74 => ?_)
  have sz74 : n0 ≤ h74.size := Nat.le_trans sz73 Sz74
  clear O74 Sz74 X73 e73 A73 N73 sz73
  show ∃ s₂ o, Steps p.tables e below (T74.setTop (mkF m 371 #[.val (.int p1), .val (.int p2), .val (.int (Int32.ofNat k)), .unset, .unset, .unset, .unset] [(.ref b1)])) s₂ ∧ _
  refine own_go (A := T74.setTop (mkF m 372 #[.val (.int p1), .val (.int p2), .val (.int (Int32.ofNat k)), .unset, .unset, .unset, .unset] [(.ref b1), (.ref b1)])) (fun t kt => XS.dup X74.here hx rfl (hb hby at_371) rfl rfl kt) ?_
  refine own_go (A := T74.setTop (mkF m 374 #[.val (.int p1), .val (.int p2), .val (.int (Int32.ofNat k)), .unset, .unset, .unset, .unset] [(.int (73 : Int32)), (.ref b1), (.ref b1)])) (fun t kt => XS.bipush X74.here hx rfl (hb hby at_372) kt) ?_
  refine own_go (A := T74.setTop (mkF m 375 #[.val (.int p1), .val (.int p2), .val (.int (Int32.ofNat k)), .unset, .unset, .unset, .unset] [(.int (1 : Int32)), (.int (73 : Int32)), (.ref b1), (.ref b1)])) (fun t kt => XS.iconst X74.here hx rfl (hb hby at_374) kt) ?_
  refine own_put X74 hx hZ e74 A74 (j := (73 : Int32)) (x := (1 : Int32)) 73 (by decide) (by decide) (by decide) N74 ga_b1 (g := (mkF m 375 #[.val (.int p1), .val (.int p2), .val (.int (Int32.ofNat k)), .unset, .unset, .unset, .unset] [(.int (1 : Int32)), (.int (73 : Int32)), (.ref b1), (.ref b1)])) rfl rfl (hb hby at_375) (fun T75 h75 l75 X75 e75 A75 O75 Sz75 N75 => ?_)
  have sz75 : n0 ≤ h75.size := Nat.le_trans sz74 Sz75
  clear O75 Sz75 X74 e74 A74 N74 sz74
  show ∃ s₂ o, Steps p.tables e below (T75.setTop (mkF m 376 #[.val (.int p1), .val (.int p2), .val (.int (Int32.ofNat k)), .unset, .unset, .unset, .unset] [(.ref b1)])) s₂ ∧ _
  refine own_go (A := T75.setTop (mkF m 377 #[.val (.int p1), .val (.int p2), .val (.int (Int32.ofNat k)), .unset, .unset, .unset, .unset] [(.ref b1), (.ref b1)])) (fun t kt => XS.dup X75.here hx rfl (hb hby at_376) rfl rfl kt) ?_
  refine own_go (A := T75.setTop (mkF m 379 #[.val (.int p1), .val (.int p2), .val (.int (Int32.ofNat k)), .unset, .unset, .unset, .unset] [(.int (74 : Int32)), (.ref b1), (.ref b1)])) (fun t kt => XS.bipush X75.here hx rfl (hb hby at_377) kt) ?_
  refine own_go (A := T75.setTop (mkF m 380 #[.val (.int p1), .val (.int p2), .val (.int (Int32.ofNat k)), .unset, .unset, .unset, .unset] [(.int (1 : Int32)), (.int (74 : Int32)), (.ref b1), (.ref b1)])) (fun t kt => XS.iconst X75.here hx rfl (hb hby at_379) kt) ?_
  refine own_put X75 hx hZ e75 A75 (j := (74 : Int32)) (x := (1 : Int32)) 74 (by decide) (by decide) (by decide) N75 ga_b1 (g := (mkF m 380 #[.val (.int p1), .val (.int p2), .val (.int (Int32.ofNat k)), .unset, .unset, .unset, .unset] [(.int (1 : Int32)), (.int (74 : Int32)), (.ref b1), (.ref b1)])) rfl rfl (hb hby at_380) (fun T76 h76 l76 X76 e76 A76 O76 Sz76 N76 => ?_)
  have sz76 : n0 ≤ h76.size := Nat.le_trans sz75 Sz76
  clear O76 Sz76 X75 e75 A75 N75 sz75
  show ∃ s₂ o, Steps p.tables e below (T76.setTop (mkF m 381 #[.val (.int p1), .val (.int p2), .val (.int (Int32.ofNat k)), .unset, .unset, .unset, .unset] [(.ref b1)])) s₂ ∧ _
  refine own_go (A := T76.setTop (mkF m 382 #[.val (.int p1), .val (.int p2), .val (.int (Int32.ofNat k)), .val (.ref b1), .unset, .unset, .unset] [])) (fun t kt => XS.astoreN X76.here hx rfl (hb hby at_381) rfl rfl (l' := #[.val (.int p1), .val (.int p2), .val (.int (Int32.ofNat k)), .val (.ref b1), .unset, .unset, .unset]) rfl kt) ?_
  refine own_go (A := T76.setTop (mkF m 384 #[.val (.int p1), .val (.int p2), .val (.int (Int32.ofNat k)), .val (.ref b1), .unset, .unset, .unset] [(.int (75 : Int32))])) (fun t kt => XS.bipush X76.here hx rfl (hb hby at_382) kt) ?_
  refine own_new X76 hx hZ (hw _ (List.mem_of_getElem? (i := 1) rfl)) e76 (g := (mkF m 384 #[.val (.int p1), .val (.int p2), .val (.int (Int32.ofNat k)), .val (.ref b1), .unset, .unset, .unset] [(.int (75 : Int32))])) rfl (hb hby at_384) rfl 75 (by decide) (by decide) (by decide) (by decide) (by decide) (fun T77 h77 b77 X77 e77 E77 g_b77 A_b77 => ?_)
  have sz77 : n0 ≤ h77.size := Nat.le_trans sz76 E77.1
  have ga_b77 : n0 ≤ b77 := Nat.le_trans sz76 g_b77
  have ne_b1_b77 : b1 ≠ b77 := Nat.ne_of_lt (Nat.lt_of_lt_of_le A76.lt g_b77)
  replace A76 := A76.ext E77
  clear E77 g_b77
  show ∃ s₂ o, Steps p.tables e below (T77.setTop (mkF m 386 #[.val (.int p1), .val (.int p2), .val (.int (Int32.ofNat k)), .val (.ref b1), .unset, .unset, .unset] [(.ref b77)])) s₂ ∧ _
  refine own_go (A := T77.setTop (mkF m 387 #[.val (.int p1), .val (.int p2), .val (.int (Int32.ofNat k)), .val (.ref b1), .unset, .unset, .unset] [(.ref b77), (.ref b77)])) (fun t kt => XS.dup X77.here hx rfl (hb hby at_386) rfl rfl kt) ?_
  refine own_go (A := T77.setTop (mkF m 388 #[.val (.int p1), .val (.int p2), .val (.int (Int32.ofNat k)), .val (.ref b1), .unset, .unset, .unset] [(.int (0 : Int32)), (.ref b77), (.ref b77)])) (fun t kt => XS.iconst X77.here hx rfl (hb hby at_387) kt) ?_
  refine own_go (A := T77.setTop (mkF m 389 #[.val (.int p1), .val (.int p2), .val (.int (Int32.ofNat k)), .val (.ref b1), .unset, .unset, .unset] [(.int (1 : Int32)), (.int (0 : Int32)), (.ref b77), (.ref b77)])) (fun t kt => XS.iconst X77.here hx rfl (hb hby at_388) kt) ?_
  refine own_put X77 hx hZ e77 A_b77 (j := (0 : Int32)) (x := (1 : Int32)) 0 (by decide) (by decide) (by decide) N76 ga_b77 (g := (mkF m 389 #[.val (.int p1), .val (.int p2), .val (.int (Int32.ofNat k)), .val (.ref b1), .unset, .unset, .unset] [(.int (1 : Int32)), (.int (0 : Int32)), (.ref b77), (.ref b77)])) rfl rfl (hb hby at_389) (fun T78 h78 l78 X78 e78 A78 O78 Sz78 N78 => ?_)
  have sz78 : n0 ≤ h78.size := Nat.le_trans sz77 Sz78
  replace A76 := O78 _ _ _ ne_b1_b77 A76
  clear O78 Sz78 X77 e77 A_b77 N76 sz77
  show ∃ s₂ o, Steps p.tables e below (T78.setTop (mkF m 390 #[.val (.int p1), .val (.int p2), .val (.int (Int32.ofNat k)), .val (.ref b1), .unset, .unset, .unset] [(.ref b77)])) s₂ ∧ _
  refine own_go (A := T78.setTop (mkF m 391 #[.val (.int p1), .val (.int p2), .val (.int (Int32.ofNat k)), .val (.ref b1), .unset, .unset, .unset] [(.ref b77), (.ref b77)])) (fun t kt => XS.dup X78.here hx rfl (hb hby at_390) rfl rfl kt) ?_
  refine own_go (A := T78.setTop (mkF m 392 #[.val (.int p1), .val (.int p2), .val (.int (Int32.ofNat k)), .val (.ref b1), .unset, .unset, .unset] [(.int (1 : Int32)), (.ref b77), (.ref b77)])) (fun t kt => XS.iconst X78.here hx rfl (hb hby at_391) kt) ?_
  refine own_go (A := T78.setTop (mkF m 393 #[.val (.int p1), .val (.int p2), .val (.int (Int32.ofNat k)), .val (.ref b1), .unset, .unset, .unset] [(.int (1 : Int32)), (.int (1 : Int32)), (.ref b77), (.ref b77)])) (fun t kt => XS.iconst X78.here hx rfl (hb hby at_392) kt) ?_
  refine own_put X78 hx hZ e78 A78 (j := (1 : Int32)) (x := (1 : Int32)) 1 (by decide) (by decide) (by decide) N78 ga_b77 (g := (mkF m 393 #[.val (.int p1), .val (.int p2), .val (.int (Int32.ofNat k)), .val (.ref b1), .unset, .unset, .unset] [(.int (1 : Int32)), (.int (1 : Int32)), (.ref b77), (.ref b77)])) rfl rfl (hb hby at_393) (fun T79 h79 l79 X79 e79 A79 O79 Sz79 N79 => ?_)
  have sz79 : n0 ≤ h79.size := Nat.le_trans sz78 Sz79
  replace A76 := O79 _ _ _ ne_b1_b77 A76
  clear O79 Sz79 X78 e78 A78 N78 sz78
  show ∃ s₂ o, Steps p.tables e below (T79.setTop (mkF m 394 #[.val (.int p1), .val (.int p2), .val (.int (Int32.ofNat k)), .val (.ref b1), .unset, .unset, .unset] [(.ref b77)])) s₂ ∧ _
  refine own_go (A := T79.setTop (mkF m 395 #[.val (.int p1), .val (.int p2), .val (.int (Int32.ofNat k)), .val (.ref b1), .unset, .unset, .unset] [(.ref b77), (.ref b77)])) (fun t kt => XS.dup X79.here hx rfl (hb hby at_394) rfl rfl kt) ?_
  refine own_go (A := T79.setTop (mkF m 396 #[.val (.int p1), .val (.int p2), .val (.int (Int32.ofNat k)), .val (.ref b1), .unset, .unset, .unset] [(.int (2 : Int32)), (.ref b77), (.ref b77)])) (fun t kt => XS.iconst X79.here hx rfl (hb hby at_395) kt) ?_
  refine own_go (A := T79.setTop (mkF m 397 #[.val (.int p1), .val (.int p2), .val (.int (Int32.ofNat k)), .val (.ref b1), .unset, .unset, .unset] [(.int (0 : Int32)), (.int (2 : Int32)), (.ref b77), (.ref b77)])) (fun t kt => XS.iconst X79.here hx rfl (hb hby at_396) kt) ?_
  refine own_put X79 hx hZ e79 A79 (j := (2 : Int32)) (x := (0 : Int32)) 2 (by decide) (by decide) (by decide) N79 ga_b77 (g := (mkF m 397 #[.val (.int p1), .val (.int p2), .val (.int (Int32.ofNat k)), .val (.ref b1), .unset, .unset, .unset] [(.int (0 : Int32)), (.int (2 : Int32)), (.ref b77), (.ref b77)])) rfl rfl (hb hby at_397) (fun T80 h80 l80 X80 e80 A80 O80 Sz80 N80 => ?_)
  have sz80 : n0 ≤ h80.size := Nat.le_trans sz79 Sz80
  replace A76 := O80 _ _ _ ne_b1_b77 A76
  clear O80 Sz80 X79 e79 A79 N79 sz79
  show ∃ s₂ o, Steps p.tables e below (T80.setTop (mkF m 398 #[.val (.int p1), .val (.int p2), .val (.int (Int32.ofNat k)), .val (.ref b1), .unset, .unset, .unset] [(.ref b77)])) s₂ ∧ _
  refine own_go (A := T80.setTop (mkF m 399 #[.val (.int p1), .val (.int p2), .val (.int (Int32.ofNat k)), .val (.ref b1), .unset, .unset, .unset] [(.ref b77), (.ref b77)])) (fun t kt => XS.dup X80.here hx rfl (hb hby at_398) rfl rfl kt) ?_
  refine own_go (A := T80.setTop (mkF m 400 #[.val (.int p1), .val (.int p2), .val (.int (Int32.ofNat k)), .val (.ref b1), .unset, .unset, .unset] [(.int (3 : Int32)), (.ref b77), (.ref b77)])) (fun t kt => XS.iconst X80.here hx rfl (hb hby at_399) kt) ?_
  refine own_go (A := T80.setTop (mkF m 401 #[.val (.int p1), .val (.int p2), .val (.int (Int32.ofNat k)), .val (.ref b1), .unset, .unset, .unset] [(.int (2 : Int32)), (.int (3 : Int32)), (.ref b77), (.ref b77)])) (fun t kt => XS.iconst X80.here hx rfl (hb hby at_400) kt) ?_
  refine own_put X80 hx hZ e80 A80 (j := (3 : Int32)) (x := (2 : Int32)) 3 (by decide) (by decide) (by decide) N80 ga_b77 (g := (mkF m 401 #[.val (.int p1), .val (.int p2), .val (.int (Int32.ofNat k)), .val (.ref b1), .unset, .unset, .unset] [(.int (2 : Int32)), (.int (3 : Int32)), (.ref b77), (.ref b77)])) rfl rfl (hb hby at_401) (fun T81 h81 l81 X81 e81 A81 O81 Sz81 N81 => ?_)
  have sz81 : n0 ≤ h81.size := Nat.le_trans sz80 Sz81
  replace A76 := O81 _ _ _ ne_b1_b77 A76
  clear O81 Sz81 X80 e80 A80 N80 sz80
  show ∃ s₂ o, Steps p.tables e below (T81.setTop (mkF m 402 #[.val (.int p1), .val (.int p2), .val (.int (Int32.ofNat k)), .val (.ref b1), .unset, .unset, .unset] [(.ref b77)])) s₂ ∧ _
  refine own_go (A := T81.setTop (mkF m 403 #[.val (.int p1), .val (.int p2), .val (.int (Int32.ofNat k)), .val (.ref b1), .unset, .unset, .unset] [(.ref b77), (.ref b77)])) (fun t kt => XS.dup X81.here hx rfl (hb hby at_402) rfl rfl kt) ?_
  refine own_go (A := T81.setTop (mkF m 404 #[.val (.int p1), .val (.int p2), .val (.int (Int32.ofNat k)), .val (.ref b1), .unset, .unset, .unset] [(.int (4 : Int32)), (.ref b77), (.ref b77)])) (fun t kt => XS.iconst X81.here hx rfl (hb hby at_403) kt) ?_
  refine own_go (A := T81.setTop (mkF m 405 #[.val (.int p1), .val (.int p2), .val (.int (Int32.ofNat k)), .val (.ref b1), .unset, .unset, .unset] [(.int (1 : Int32)), (.int (4 : Int32)), (.ref b77), (.ref b77)])) (fun t kt => XS.iconst X81.here hx rfl (hb hby at_404) kt) ?_
  refine own_put X81 hx hZ e81 A81 (j := (4 : Int32)) (x := (1 : Int32)) 4 (by decide) (by decide) (by decide) N81 ga_b77 (g := (mkF m 405 #[.val (.int p1), .val (.int p2), .val (.int (Int32.ofNat k)), .val (.ref b1), .unset, .unset, .unset] [(.int (1 : Int32)), (.int (4 : Int32)), (.ref b77), (.ref b77)])) rfl rfl (hb hby at_405) (fun T82 h82 l82 X82 e82 A82 O82 Sz82 N82 => ?_)
  have sz82 : n0 ≤ h82.size := Nat.le_trans sz81 Sz82
  replace A76 := O82 _ _ _ ne_b1_b77 A76
  clear O82 Sz82 X81 e81 A81 N81 sz81
  show ∃ s₂ o, Steps p.tables e below (T82.setTop (mkF m 406 #[.val (.int p1), .val (.int p2), .val (.int (Int32.ofNat k)), .val (.ref b1), .unset, .unset, .unset] [(.ref b77)])) s₂ ∧ _
  refine own_go (A := T82.setTop (mkF m 407 #[.val (.int p1), .val (.int p2), .val (.int (Int32.ofNat k)), .val (.ref b1), .unset, .unset, .unset] [(.ref b77), (.ref b77)])) (fun t kt => XS.dup X82.here hx rfl (hb hby at_406) rfl rfl kt) ?_
  refine own_go (A := T82.setTop (mkF m 408 #[.val (.int p1), .val (.int p2), .val (.int (Int32.ofNat k)), .val (.ref b1), .unset, .unset, .unset] [(.int (5 : Int32)), (.ref b77), (.ref b77)])) (fun t kt => XS.iconst X82.here hx rfl (hb hby at_407) kt) ?_
  refine own_go (A := T82.setTop (mkF m 409 #[.val (.int p1), .val (.int p2), .val (.int (Int32.ofNat k)), .val (.ref b1), .unset, .unset, .unset] [(.int (1 : Int32)), (.int (5 : Int32)), (.ref b77), (.ref b77)])) (fun t kt => XS.iconst X82.here hx rfl (hb hby at_408) kt) ?_
  refine own_put X82 hx hZ e82 A82 (j := (5 : Int32)) (x := (1 : Int32)) 5 (by decide) (by decide) (by decide) N82 ga_b77 (g := (mkF m 409 #[.val (.int p1), .val (.int p2), .val (.int (Int32.ofNat k)), .val (.ref b1), .unset, .unset, .unset] [(.int (1 : Int32)), (.int (5 : Int32)), (.ref b77), (.ref b77)])) rfl rfl (hb hby at_409) (fun T83 h83 l83 X83 e83 A83 O83 Sz83 N83 => ?_)
  have sz83 : n0 ≤ h83.size := Nat.le_trans sz82 Sz83
  replace A76 := O83 _ _ _ ne_b1_b77 A76
  clear O83 Sz83 X82 e82 A82 N82 sz82
  show ∃ s₂ o, Steps p.tables e below (T83.setTop (mkF m 410 #[.val (.int p1), .val (.int p2), .val (.int (Int32.ofNat k)), .val (.ref b1), .unset, .unset, .unset] [(.ref b77)])) s₂ ∧ _
  refine own_go (A := T83.setTop (mkF m 411 #[.val (.int p1), .val (.int p2), .val (.int (Int32.ofNat k)), .val (.ref b1), .unset, .unset, .unset] [(.ref b77), (.ref b77)])) (fun t kt => XS.dup X83.here hx rfl (hb hby at_410) rfl rfl kt) ?_
  refine own_go (A := T83.setTop (mkF m 413 #[.val (.int p1), .val (.int p2), .val (.int (Int32.ofNat k)), .val (.ref b1), .unset, .unset, .unset] [(.int (6 : Int32)), (.ref b77), (.ref b77)])) (fun t kt => XS.bipush X83.here hx rfl (hb hby at_411) kt) ?_
  refine own_go (A := T83.setTop (mkF m 414 #[.val (.int p1), .val (.int p2), .val (.int (Int32.ofNat k)), .val (.ref b1), .unset, .unset, .unset] [(.int (1 : Int32)), (.int (6 : Int32)), (.ref b77), (.ref b77)])) (fun t kt => XS.iconst X83.here hx rfl (hb hby at_413) kt) ?_
  refine own_put X83 hx hZ e83 A83 (j := (6 : Int32)) (x := (1 : Int32)) 6 (by decide) (by decide) (by decide) N83 ga_b77 (g := (mkF m 414 #[.val (.int p1), .val (.int p2), .val (.int (Int32.ofNat k)), .val (.ref b1), .unset, .unset, .unset] [(.int (1 : Int32)), (.int (6 : Int32)), (.ref b77), (.ref b77)])) rfl rfl (hb hby at_414) (fun T84 h84 l84 X84 e84 A84 O84 Sz84 N84 => ?_)
  have sz84 : n0 ≤ h84.size := Nat.le_trans sz83 Sz84
  replace A76 := O84 _ _ _ ne_b1_b77 A76
  clear O84 Sz84 X83 e83 A83 N83 sz83
  show ∃ s₂ o, Steps p.tables e below (T84.setTop (mkF m 415 #[.val (.int p1), .val (.int p2), .val (.int (Int32.ofNat k)), .val (.ref b1), .unset, .unset, .unset] [(.ref b77)])) s₂ ∧ _
  refine own_go (A := T84.setTop (mkF m 416 #[.val (.int p1), .val (.int p2), .val (.int (Int32.ofNat k)), .val (.ref b1), .unset, .unset, .unset] [(.ref b77), (.ref b77)])) (fun t kt => XS.dup X84.here hx rfl (hb hby at_415) rfl rfl kt) ?_
  refine own_go (A := T84.setTop (mkF m 418 #[.val (.int p1), .val (.int p2), .val (.int (Int32.ofNat k)), .val (.ref b1), .unset, .unset, .unset] [(.int (7 : Int32)), (.ref b77), (.ref b77)])) (fun t kt => XS.bipush X84.here hx rfl (hb hby at_416) kt) ?_
  refine own_go (A := T84.setTop (mkF m 419 #[.val (.int p1), .val (.int p2), .val (.int (Int32.ofNat k)), .val (.ref b1), .unset, .unset, .unset] [(.int (1 : Int32)), (.int (7 : Int32)), (.ref b77), (.ref b77)])) (fun t kt => XS.iconst X84.here hx rfl (hb hby at_418) kt) ?_
  refine own_put X84 hx hZ e84 A84 (j := (7 : Int32)) (x := (1 : Int32)) 7 (by decide) (by decide) (by decide) N84 ga_b77 (g := (mkF m 419 #[.val (.int p1), .val (.int p2), .val (.int (Int32.ofNat k)), .val (.ref b1), .unset, .unset, .unset] [(.int (1 : Int32)), (.int (7 : Int32)), (.ref b77), (.ref b77)])) rfl rfl (hb hby at_419) (fun T85 h85 l85 X85 e85 A85 O85 Sz85 N85 => ?_)
  have sz85 : n0 ≤ h85.size := Nat.le_trans sz84 Sz85
  replace A76 := O85 _ _ _ ne_b1_b77 A76
  clear O85 Sz85 X84 e84 A84 N84 sz84
  show ∃ s₂ o, Steps p.tables e below (T85.setTop (mkF m 420 #[.val (.int p1), .val (.int p2), .val (.int (Int32.ofNat k)), .val (.ref b1), .unset, .unset, .unset] [(.ref b77)])) s₂ ∧ _
  refine own_go (A := T85.setTop (mkF m 421 #[.val (.int p1), .val (.int p2), .val (.int (Int32.ofNat k)), .val (.ref b1), .unset, .unset, .unset] [(.ref b77), (.ref b77)])) (fun t kt => XS.dup X85.here hx rfl (hb hby at_420) rfl rfl kt) ?_
  refine own_go (A := T85.setTop (mkF m 423 #[.val (.int p1), .val (.int p2), .val (.int (Int32.ofNat k)), .val (.ref b1), .unset, .unset, .unset] [(.int (8 : Int32)), (.ref b77), (.ref b77)])) (fun t kt => XS.bipush X85.here hx rfl (hb hby at_421) kt) ?_
  refine own_go (A := T85.setTop (mkF m 424 #[.val (.int p1), .val (.int p2), .val (.int (Int32.ofNat k)), .val (.ref b1), .unset, .unset, .unset] [(.int (1 : Int32)), (.int (8 : Int32)), (.ref b77), (.ref b77)])) (fun t kt => XS.iconst X85.here hx rfl (hb hby at_423) kt) ?_
  refine own_put X85 hx hZ e85 A85 (j := (8 : Int32)) (x := (1 : Int32)) 8 (by decide) (by decide) (by decide) N85 ga_b77 (g := (mkF m 424 #[.val (.int p1), .val (.int p2), .val (.int (Int32.ofNat k)), .val (.ref b1), .unset, .unset, .unset] [(.int (1 : Int32)), (.int (8 : Int32)), (.ref b77), (.ref b77)])) rfl rfl (hb hby at_424) (fun T86 h86 l86 X86 e86 A86 O86 Sz86 N86 => ?_)
  have sz86 : n0 ≤ h86.size := Nat.le_trans sz85 Sz86
  replace A76 := O86 _ _ _ ne_b1_b77 A76
  clear O86 Sz86 X85 e85 A85 N85 sz85
  show ∃ s₂ o, Steps p.tables e below (T86.setTop (mkF m 425 #[.val (.int p1), .val (.int p2), .val (.int (Int32.ofNat k)), .val (.ref b1), .unset, .unset, .unset] [(.ref b77)])) s₂ ∧ _
  refine own_go (A := T86.setTop (mkF m 426 #[.val (.int p1), .val (.int p2), .val (.int (Int32.ofNat k)), .val (.ref b1), .unset, .unset, .unset] [(.ref b77), (.ref b77)])) (fun t kt => XS.dup X86.here hx rfl (hb hby at_425) rfl rfl kt) ?_
  refine own_go (A := T86.setTop (mkF m 428 #[.val (.int p1), .val (.int p2), .val (.int (Int32.ofNat k)), .val (.ref b1), .unset, .unset, .unset] [(.int (9 : Int32)), (.ref b77), (.ref b77)])) (fun t kt => XS.bipush X86.here hx rfl (hb hby at_426) kt) ?_
  refine own_go (A := T86.setTop (mkF m 429 #[.val (.int p1), .val (.int p2), .val (.int (Int32.ofNat k)), .val (.ref b1), .unset, .unset, .unset] [(.int (1 : Int32)), (.int (9 : Int32)), (.ref b77), (.ref b77)])) (fun t kt => XS.iconst X86.here hx rfl (hb hby at_428) kt) ?_
  refine own_put X86 hx hZ e86 A86 (j := (9 : Int32)) (x := (1 : Int32)) 9 (by decide) (by decide) (by decide) N86 ga_b77 (g := (mkF m 429 #[.val (.int p1), .val (.int p2), .val (.int (Int32.ofNat k)), .val (.ref b1), .unset, .unset, .unset] [(.int (1 : Int32)), (.int (9 : Int32)), (.ref b77), (.ref b77)])) rfl rfl (hb hby at_429) (fun T87 h87 l87 X87 e87 A87 O87 Sz87 N87 => ?_)
  have sz87 : n0 ≤ h87.size := Nat.le_trans sz86 Sz87
  replace A76 := O87 _ _ _ ne_b1_b77 A76
  clear O87 Sz87 X86 e86 A86 N86 sz86
  show ∃ s₂ o, Steps p.tables e below (T87.setTop (mkF m 430 #[.val (.int p1), .val (.int p2), .val (.int (Int32.ofNat k)), .val (.ref b1), .unset, .unset, .unset] [(.ref b77)])) s₂ ∧ _
  refine own_go (A := T87.setTop (mkF m 431 #[.val (.int p1), .val (.int p2), .val (.int (Int32.ofNat k)), .val (.ref b1), .unset, .unset, .unset] [(.ref b77), (.ref b77)])) (fun t kt => XS.dup X87.here hx rfl (hb hby at_430) rfl rfl kt) ?_
  refine own_go (A := T87.setTop (mkF m 433 #[.val (.int p1), .val (.int p2), .val (.int (Int32.ofNat k)), .val (.ref b1), .unset, .unset, .unset] [(.int (10 : Int32)), (.ref b77), (.ref b77)])) (fun t kt => XS.bipush X87.here hx rfl (hb hby at_431) kt) ?_
  refine own_go (A := T87.setTop (mkF m 434 #[.val (.int p1), .val (.int p2), .val (.int (Int32.ofNat k)), .val (.ref b1), .unset, .unset, .unset] [(.int (1 : Int32)), (.int (10 : Int32)), (.ref b77), (.ref b77)])) (fun t kt => XS.iconst X87.here hx rfl (hb hby at_433) kt) ?_
  refine own_put X87 hx hZ e87 A87 (j := (10 : Int32)) (x := (1 : Int32)) 10 (by decide) (by decide) (by decide) N87 ga_b77 (g := (mkF m 434 #[.val (.int p1), .val (.int p2), .val (.int (Int32.ofNat k)), .val (.ref b1), .unset, .unset, .unset] [(.int (1 : Int32)), (.int (10 : Int32)), (.ref b77), (.ref b77)])) rfl rfl (hb hby at_434) (fun T88 h88 l88 X88 e88 A88 O88 Sz88 N88 => ?_)
  have sz88 : n0 ≤ h88.size := Nat.le_trans sz87 Sz88
  replace A76 := O88 _ _ _ ne_b1_b77 A76
  clear O88 Sz88 X87 e87 A87 N87 sz87
  show ∃ s₂ o, Steps p.tables e below (T88.setTop (mkF m 435 #[.val (.int p1), .val (.int p2), .val (.int (Int32.ofNat k)), .val (.ref b1), .unset, .unset, .unset] [(.ref b77)])) s₂ ∧ _
  refine own_go (A := T88.setTop (mkF m 436 #[.val (.int p1), .val (.int p2), .val (.int (Int32.ofNat k)), .val (.ref b1), .unset, .unset, .unset] [(.ref b77), (.ref b77)])) (fun t kt => XS.dup X88.here hx rfl (hb hby at_435) rfl rfl kt) ?_
  refine own_go (A := T88.setTop (mkF m 438 #[.val (.int p1), .val (.int p2), .val (.int (Int32.ofNat k)), .val (.ref b1), .unset, .unset, .unset] [(.int (11 : Int32)), (.ref b77), (.ref b77)])) (fun t kt => XS.bipush X88.here hx rfl (hb hby at_436) kt) ?_
  refine own_go (A := T88.setTop (mkF m 439 #[.val (.int p1), .val (.int p2), .val (.int (Int32.ofNat k)), .val (.ref b1), .unset, .unset, .unset] [(.int (1 : Int32)), (.int (11 : Int32)), (.ref b77), (.ref b77)])) (fun t kt => XS.iconst X88.here hx rfl (hb hby at_438) kt) ?_
  refine own_put X88 hx hZ e88 A88 (j := (11 : Int32)) (x := (1 : Int32)) 11 (by decide) (by decide) (by decide) N88 ga_b77 (g := (mkF m 439 #[.val (.int p1), .val (.int p2), .val (.int (Int32.ofNat k)), .val (.ref b1), .unset, .unset, .unset] [(.int (1 : Int32)), (.int (11 : Int32)), (.ref b77), (.ref b77)])) rfl rfl (hb hby at_439) (fun T89 h89 l89 X89 e89 A89 O89 Sz89 N89 => ?_)
  have sz89 : n0 ≤ h89.size := Nat.le_trans sz88 Sz89
  replace A76 := O89 _ _ _ ne_b1_b77 A76
  clear O89 Sz89 X88 e88 A88 N88 sz88
  show ∃ s₂ o, Steps p.tables e below (T89.setTop (mkF m 440 #[.val (.int p1), .val (.int p2), .val (.int (Int32.ofNat k)), .val (.ref b1), .unset, .unset, .unset] [(.ref b77)])) s₂ ∧ _
  refine own_go (A := T89.setTop (mkF m 441 #[.val (.int p1), .val (.int p2), .val (.int (Int32.ofNat k)), .val (.ref b1), .unset, .unset, .unset] [(.ref b77), (.ref b77)])) (fun t kt => XS.dup X89.here hx rfl (hb hby at_440) rfl rfl kt) ?_
  refine own_go (A := T89.setTop (mkF m 443 #[.val (.int p1), .val (.int p2), .val (.int (Int32.ofNat k)), .val (.ref b1), .unset, .unset, .unset] [(.int (12 : Int32)), (.ref b77), (.ref b77)])) (fun t kt => XS.bipush X89.here hx rfl (hb hby at_441) kt) ?_
  refine own_go (A := T89.setTop (mkF m 444 #[.val (.int p1), .val (.int p2), .val (.int (Int32.ofNat k)), .val (.ref b1), .unset, .unset, .unset] [(.int (1 : Int32)), (.int (12 : Int32)), (.ref b77), (.ref b77)])) (fun t kt => XS.iconst X89.here hx rfl (hb hby at_443) kt) ?_
  refine own_put X89 hx hZ e89 A89 (j := (12 : Int32)) (x := (1 : Int32)) 12 (by decide) (by decide) (by decide) N89 ga_b77 (g := (mkF m 444 #[.val (.int p1), .val (.int p2), .val (.int (Int32.ofNat k)), .val (.ref b1), .unset, .unset, .unset] [(.int (1 : Int32)), (.int (12 : Int32)), (.ref b77), (.ref b77)])) rfl rfl (hb hby at_444) (fun T90 h90 l90 X90 e90 A90 O90 Sz90 N90 => ?_)
  have sz90 : n0 ≤ h90.size := Nat.le_trans sz89 Sz90
  replace A76 := O90 _ _ _ ne_b1_b77 A76
  clear O90 Sz90 X89 e89 A89 N89 sz89
  show ∃ s₂ o, Steps p.tables e below (T90.setTop (mkF m 445 #[.val (.int p1), .val (.int p2), .val (.int (Int32.ofNat k)), .val (.ref b1), .unset, .unset, .unset] [(.ref b77)])) s₂ ∧ _
  refine own_go (A := T90.setTop (mkF m 446 #[.val (.int p1), .val (.int p2), .val (.int (Int32.ofNat k)), .val (.ref b1), .unset, .unset, .unset] [(.ref b77), (.ref b77)])) (fun t kt => XS.dup X90.here hx rfl (hb hby at_445) rfl rfl kt) ?_
  refine own_go (A := T90.setTop (mkF m 448 #[.val (.int p1), .val (.int p2), .val (.int (Int32.ofNat k)), .val (.ref b1), .unset, .unset, .unset] [(.int (13 : Int32)), (.ref b77), (.ref b77)])) (fun t kt => XS.bipush X90.here hx rfl (hb hby at_446) kt) ?_
  refine own_go (A := T90.setTop (mkF m 449 #[.val (.int p1), .val (.int p2), .val (.int (Int32.ofNat k)), .val (.ref b1), .unset, .unset, .unset] [(.int (1 : Int32)), (.int (13 : Int32)), (.ref b77), (.ref b77)])) (fun t kt => XS.iconst X90.here hx rfl (hb hby at_448) kt) ?_
  refine own_put X90 hx hZ e90 A90 (j := (13 : Int32)) (x := (1 : Int32)) 13 (by decide) (by decide) (by decide) N90 ga_b77 (g := (mkF m 449 #[.val (.int p1), .val (.int p2), .val (.int (Int32.ofNat k)), .val (.ref b1), .unset, .unset, .unset] [(.int (1 : Int32)), (.int (13 : Int32)), (.ref b77), (.ref b77)])) rfl rfl (hb hby at_449) (fun T91 h91 l91 X91 e91 A91 O91 Sz91 N91 => ?_)
  have sz91 : n0 ≤ h91.size := Nat.le_trans sz90 Sz91
  replace A76 := O91 _ _ _ ne_b1_b77 A76
  clear O91 Sz91 X90 e90 A90 N90 sz90
  show ∃ s₂ o, Steps p.tables e below (T91.setTop (mkF m 450 #[.val (.int p1), .val (.int p2), .val (.int (Int32.ofNat k)), .val (.ref b1), .unset, .unset, .unset] [(.ref b77)])) s₂ ∧ _
  refine own_go (A := T91.setTop (mkF m 451 #[.val (.int p1), .val (.int p2), .val (.int (Int32.ofNat k)), .val (.ref b1), .unset, .unset, .unset] [(.ref b77), (.ref b77)])) (fun t kt => XS.dup X91.here hx rfl (hb hby at_450) rfl rfl kt) ?_
  refine own_go (A := T91.setTop (mkF m 453 #[.val (.int p1), .val (.int p2), .val (.int (Int32.ofNat k)), .val (.ref b1), .unset, .unset, .unset] [(.int (14 : Int32)), (.ref b77), (.ref b77)])) (fun t kt => XS.bipush X91.here hx rfl (hb hby at_451) kt) ?_
  refine own_go (A := T91.setTop (mkF m 454 #[.val (.int p1), .val (.int p2), .val (.int (Int32.ofNat k)), .val (.ref b1), .unset, .unset, .unset] [(.int (1 : Int32)), (.int (14 : Int32)), (.ref b77), (.ref b77)])) (fun t kt => XS.iconst X91.here hx rfl (hb hby at_453) kt) ?_
  refine own_put X91 hx hZ e91 A91 (j := (14 : Int32)) (x := (1 : Int32)) 14 (by decide) (by decide) (by decide) N91 ga_b77 (g := (mkF m 454 #[.val (.int p1), .val (.int p2), .val (.int (Int32.ofNat k)), .val (.ref b1), .unset, .unset, .unset] [(.int (1 : Int32)), (.int (14 : Int32)), (.ref b77), (.ref b77)])) rfl rfl (hb hby at_454) (fun T92 h92 l92 X92 e92 A92 O92 Sz92 N92 => ?_)
  have sz92 : n0 ≤ h92.size := Nat.le_trans sz91 Sz92
  replace A76 := O92 _ _ _ ne_b1_b77 A76
  clear O92 Sz92 X91 e91 A91 N91 sz91
  show ∃ s₂ o, Steps p.tables e below (T92.setTop (mkF m 455 #[.val (.int p1), .val (.int p2), .val (.int (Int32.ofNat k)), .val (.ref b1), .unset, .unset, .unset] [(.ref b77)])) s₂ ∧ _
  refine own_go (A := T92.setTop (mkF m 456 #[.val (.int p1), .val (.int p2), .val (.int (Int32.ofNat k)), .val (.ref b1), .unset, .unset, .unset] [(.ref b77), (.ref b77)])) (fun t kt => XS.dup X92.here hx rfl (hb hby at_455) rfl rfl kt) ?_
  refine own_go (A := T92.setTop (mkF m 458 #[.val (.int p1), .val (.int p2), .val (.int (Int32.ofNat k)), .val (.ref b1), .unset, .unset, .unset] [(.int (15 : Int32)), (.ref b77), (.ref b77)])) (fun t kt => XS.bipush X92.here hx rfl (hb hby at_456) kt) ?_
  refine own_go (A := T92.setTop (mkF m 459 #[.val (.int p1), .val (.int p2), .val (.int (Int32.ofNat k)), .val (.ref b1), .unset, .unset, .unset] [(.int (1 : Int32)), (.int (15 : Int32)), (.ref b77), (.ref b77)])) (fun t kt => XS.iconst X92.here hx rfl (hb hby at_458) kt) ?_
  refine own_put X92 hx hZ e92 A92 (j := (15 : Int32)) (x := (1 : Int32)) 15 (by decide) (by decide) (by decide) N92 ga_b77 (g := (mkF m 459 #[.val (.int p1), .val (.int p2), .val (.int (Int32.ofNat k)), .val (.ref b1), .unset, .unset, .unset] [(.int (1 : Int32)), (.int (15 : Int32)), (.ref b77), (.ref b77)])) rfl rfl (hb hby at_459) (fun T93 h93 l93 X93 e93 A93 O93 Sz93 N93 => ?_)
  have sz93 : n0 ≤ h93.size := Nat.le_trans sz92 Sz93
  replace A76 := O93 _ _ _ ne_b1_b77 A76
  clear O93 Sz93 X92 e92 A92 N92 sz92
  show ∃ s₂ o, Steps p.tables e below (T93.setTop (mkF m 460 #[.val (.int p1), .val (.int p2), .val (.int (Int32.ofNat k)), .val (.ref b1), .unset, .unset, .unset] [(.ref b77)])) s₂ ∧ _
  refine own_go (A := T93.setTop (mkF m 461 #[.val (.int p1), .val (.int p2), .val (.int (Int32.ofNat k)), .val (.ref b1), .unset, .unset, .unset] [(.ref b77), (.ref b77)])) (fun t kt => XS.dup X93.here hx rfl (hb hby at_460) rfl rfl kt) ?_
  refine own_go (A := T93.setTop (mkF m 463 #[.val (.int p1), .val (.int p2), .val (.int (Int32.ofNat k)), .val (.ref b1), .unset, .unset, .unset] [(.int (16 : Int32)), (.ref b77), (.ref b77)])) (fun t kt => XS.bipush X93.here hx rfl (hb hby at_461) kt) ?_
  refine own_go (A := T93.setTop (mkF m 464 #[.val (.int p1), .val (.int p2), .val (.int (Int32.ofNat k)), .val (.ref b1), .unset, .unset, .unset] [(.int (1 : Int32)), (.int (16 : Int32)), (.ref b77), (.ref b77)])) (fun t kt => XS.iconst X93.here hx rfl (hb hby at_463) kt) ?_
  refine own_put X93 hx hZ e93 A93 (j := (16 : Int32)) (x := (1 : Int32)) 16 (by decide) (by decide) (by decide) N93 ga_b77 (g := (mkF m 464 #[.val (.int p1), .val (.int p2), .val (.int (Int32.ofNat k)), .val (.ref b1), .unset, .unset, .unset] [(.int (1 : Int32)), (.int (16 : Int32)), (.ref b77), (.ref b77)])) rfl rfl (hb hby at_464) (fun T94 h94 l94 X94 e94 A94 O94 Sz94 N94 => ?_)
  have sz94 : n0 ≤ h94.size := Nat.le_trans sz93 Sz94
  replace A76 := O94 _ _ _ ne_b1_b77 A76
  clear O94 Sz94 X93 e93 A93 N93 sz93
  show ∃ s₂ o, Steps p.tables e below (T94.setTop (mkF m 465 #[.val (.int p1), .val (.int p2), .val (.int (Int32.ofNat k)), .val (.ref b1), .unset, .unset, .unset] [(.ref b77)])) s₂ ∧ _
  refine own_go (A := T94.setTop (mkF m 466 #[.val (.int p1), .val (.int p2), .val (.int (Int32.ofNat k)), .val (.ref b1), .unset, .unset, .unset] [(.ref b77), (.ref b77)])) (fun t kt => XS.dup X94.here hx rfl (hb hby at_465) rfl rfl kt) ?_
  refine own_go (A := T94.setTop (mkF m 468 #[.val (.int p1), .val (.int p2), .val (.int (Int32.ofNat k)), .val (.ref b1), .unset, .unset, .unset] [(.int (17 : Int32)), (.ref b77), (.ref b77)])) (fun t kt => XS.bipush X94.here hx rfl (hb hby at_466) kt) ?_
  refine own_go (A := T94.setTop (mkF m 469 #[.val (.int p1), .val (.int p2), .val (.int (Int32.ofNat k)), .val (.ref b1), .unset, .unset, .unset] [(.int (1 : Int32)), (.int (17 : Int32)), (.ref b77), (.ref b77)])) (fun t kt => XS.iconst X94.here hx rfl (hb hby at_468) kt) ?_
  refine own_put X94 hx hZ e94 A94 (j := (17 : Int32)) (x := (1 : Int32)) 17 (by decide) (by decide) (by decide) N94 ga_b77 (g := (mkF m 469 #[.val (.int p1), .val (.int p2), .val (.int (Int32.ofNat k)), .val (.ref b1), .unset, .unset, .unset] [(.int (1 : Int32)), (.int (17 : Int32)), (.ref b77), (.ref b77)])) rfl rfl (hb hby at_469) (fun T95 h95 l95 X95 e95 A95 O95 Sz95 N95 => ?_)
  have sz95 : n0 ≤ h95.size := Nat.le_trans sz94 Sz95
  replace A76 := O95 _ _ _ ne_b1_b77 A76
  clear O95 Sz95 X94 e94 A94 N94 sz94
  show ∃ s₂ o, Steps p.tables e below (T95.setTop (mkF m 470 #[.val (.int p1), .val (.int p2), .val (.int (Int32.ofNat k)), .val (.ref b1), .unset, .unset, .unset] [(.ref b77)])) s₂ ∧ _
  refine own_go (A := T95.setTop (mkF m 471 #[.val (.int p1), .val (.int p2), .val (.int (Int32.ofNat k)), .val (.ref b1), .unset, .unset, .unset] [(.ref b77), (.ref b77)])) (fun t kt => XS.dup X95.here hx rfl (hb hby at_470) rfl rfl kt) ?_
  refine own_go (A := T95.setTop (mkF m 473 #[.val (.int p1), .val (.int p2), .val (.int (Int32.ofNat k)), .val (.ref b1), .unset, .unset, .unset] [(.int (18 : Int32)), (.ref b77), (.ref b77)])) (fun t kt => XS.bipush X95.here hx rfl (hb hby at_471) kt) ?_
  refine own_go (A := T95.setTop (mkF m 474 #[.val (.int p1), .val (.int p2), .val (.int (Int32.ofNat k)), .val (.ref b1), .unset, .unset, .unset] [(.int (1 : Int32)), (.int (18 : Int32)), (.ref b77), (.ref b77)])) (fun t kt => XS.iconst X95.here hx rfl (hb hby at_473) kt) ?_
  refine own_put X95 hx hZ e95 A95 (j := (18 : Int32)) (x := (1 : Int32)) 18 (by decide) (by decide) (by decide) N95 ga_b77 (g := (mkF m 474 #[.val (.int p1), .val (.int p2), .val (.int (Int32.ofNat k)), .val (.ref b1), .unset, .unset, .unset] [(.int (1 : Int32)), (.int (18 : Int32)), (.ref b77), (.ref b77)])) rfl rfl (hb hby at_474) (fun T96 h96 l96 X96 e96 A96 O96 Sz96 N96 => ?_)
  have sz96 : n0 ≤ h96.size := Nat.le_trans sz95 Sz96
  replace A76 := O96 _ _ _ ne_b1_b77 A76
  clear O96 Sz96 X95 e95 A95 N95 sz95
  show ∃ s₂ o, Steps p.tables e below (T96.setTop (mkF m 475 #[.val (.int p1), .val (.int p2), .val (.int (Int32.ofNat k)), .val (.ref b1), .unset, .unset, .unset] [(.ref b77)])) s₂ ∧ _
  refine own_go (A := T96.setTop (mkF m 476 #[.val (.int p1), .val (.int p2), .val (.int (Int32.ofNat k)), .val (.ref b1), .unset, .unset, .unset] [(.ref b77), (.ref b77)])) (fun t kt => XS.dup X96.here hx rfl (hb hby at_475) rfl rfl kt) ?_
  refine own_go (A := T96.setTop (mkF m 478 #[.val (.int p1), .val (.int p2), .val (.int (Int32.ofNat k)), .val (.ref b1), .unset, .unset, .unset] [(.int (19 : Int32)), (.ref b77), (.ref b77)])) (fun t kt => XS.bipush X96.here hx rfl (hb hby at_476) kt) ?_
  refine own_go (A := T96.setTop (mkF m 479 #[.val (.int p1), .val (.int p2), .val (.int (Int32.ofNat k)), .val (.ref b1), .unset, .unset, .unset] [(.int (1 : Int32)), (.int (19 : Int32)), (.ref b77), (.ref b77)])) (fun t kt => XS.iconst X96.here hx rfl (hb hby at_478) kt) ?_
  refine own_put X96 hx hZ e96 A96 (j := (19 : Int32)) (x := (1 : Int32)) 19 (by decide) (by decide) (by decide) N96 ga_b77 (g := (mkF m 479 #[.val (.int p1), .val (.int p2), .val (.int (Int32.ofNat k)), .val (.ref b1), .unset, .unset, .unset] [(.int (1 : Int32)), (.int (19 : Int32)), (.ref b77), (.ref b77)])) rfl rfl (hb hby at_479) (fun T97 h97 l97 X97 e97 A97 O97 Sz97 N97 => ?_)
  have sz97 : n0 ≤ h97.size := Nat.le_trans sz96 Sz97
  replace A76 := O97 _ _ _ ne_b1_b77 A76
  clear O97 Sz97 X96 e96 A96 N96 sz96
  show ∃ s₂ o, Steps p.tables e below (T97.setTop (mkF m 480 #[.val (.int p1), .val (.int p2), .val (.int (Int32.ofNat k)), .val (.ref b1), .unset, .unset, .unset] [(.ref b77)])) s₂ ∧ _
  refine own_go (A := T97.setTop (mkF m 481 #[.val (.int p1), .val (.int p2), .val (.int (Int32.ofNat k)), .val (.ref b1), .unset, .unset, .unset] [(.ref b77), (.ref b77)])) (fun t kt => XS.dup X97.here hx rfl (hb hby at_480) rfl rfl kt) ?_
  refine own_go (A := T97.setTop (mkF m 483 #[.val (.int p1), .val (.int p2), .val (.int (Int32.ofNat k)), .val (.ref b1), .unset, .unset, .unset] [(.int (20 : Int32)), (.ref b77), (.ref b77)])) (fun t kt => XS.bipush X97.here hx rfl (hb hby at_481) kt) ?_
  refine own_go (A := T97.setTop (mkF m 484 #[.val (.int p1), .val (.int p2), .val (.int (Int32.ofNat k)), .val (.ref b1), .unset, .unset, .unset] [(.int (1 : Int32)), (.int (20 : Int32)), (.ref b77), (.ref b77)])) (fun t kt => XS.iconst X97.here hx rfl (hb hby at_483) kt) ?_
  refine own_put X97 hx hZ e97 A97 (j := (20 : Int32)) (x := (1 : Int32)) 20 (by decide) (by decide) (by decide) N97 ga_b77 (g := (mkF m 484 #[.val (.int p1), .val (.int p2), .val (.int (Int32.ofNat k)), .val (.ref b1), .unset, .unset, .unset] [(.int (1 : Int32)), (.int (20 : Int32)), (.ref b77), (.ref b77)])) rfl rfl (hb hby at_484) (fun T98 h98 l98 X98 e98 A98 O98 Sz98 N98 => ?_)
  have sz98 : n0 ≤ h98.size := Nat.le_trans sz97 Sz98
  replace A76 := O98 _ _ _ ne_b1_b77 A76
  clear O98 Sz98 X97 e97 A97 N97 sz97
  show ∃ s₂ o, Steps p.tables e below (T98.setTop (mkF m 485 #[.val (.int p1), .val (.int p2), .val (.int (Int32.ofNat k)), .val (.ref b1), .unset, .unset, .unset] [(.ref b77)])) s₂ ∧ _
  refine own_go (A := T98.setTop (mkF m 486 #[.val (.int p1), .val (.int p2), .val (.int (Int32.ofNat k)), .val (.ref b1), .unset, .unset, .unset] [(.ref b77), (.ref b77)])) (fun t kt => XS.dup X98.here hx rfl (hb hby at_485) rfl rfl kt) ?_
  refine own_go (A := T98.setTop (mkF m 488 #[.val (.int p1), .val (.int p2), .val (.int (Int32.ofNat k)), .val (.ref b1), .unset, .unset, .unset] [(.int (21 : Int32)), (.ref b77), (.ref b77)])) (fun t kt => XS.bipush X98.here hx rfl (hb hby at_486) kt) ?_
  refine own_go (A := T98.setTop (mkF m 489 #[.val (.int p1), .val (.int p2), .val (.int (Int32.ofNat k)), .val (.ref b1), .unset, .unset, .unset] [(.int (1 : Int32)), (.int (21 : Int32)), (.ref b77), (.ref b77)])) (fun t kt => XS.iconst X98.here hx rfl (hb hby at_488) kt) ?_
  refine own_put X98 hx hZ e98 A98 (j := (21 : Int32)) (x := (1 : Int32)) 21 (by decide) (by decide) (by decide) N98 ga_b77 (g := (mkF m 489 #[.val (.int p1), .val (.int p2), .val (.int (Int32.ofNat k)), .val (.ref b1), .unset, .unset, .unset] [(.int (1 : Int32)), (.int (21 : Int32)), (.ref b77), (.ref b77)])) rfl rfl (hb hby at_489) (fun T99 h99 l99 X99 e99 A99 O99 Sz99 N99 => ?_)
  have sz99 : n0 ≤ h99.size := Nat.le_trans sz98 Sz99
  replace A76 := O99 _ _ _ ne_b1_b77 A76
  clear O99 Sz99 X98 e98 A98 N98 sz98
  show ∃ s₂ o, Steps p.tables e below (T99.setTop (mkF m 490 #[.val (.int p1), .val (.int p2), .val (.int (Int32.ofNat k)), .val (.ref b1), .unset, .unset, .unset] [(.ref b77)])) s₂ ∧ _
  refine own_go (A := T99.setTop (mkF m 491 #[.val (.int p1), .val (.int p2), .val (.int (Int32.ofNat k)), .val (.ref b1), .unset, .unset, .unset] [(.ref b77), (.ref b77)])) (fun t kt => XS.dup X99.here hx rfl (hb hby at_490) rfl rfl kt) ?_
  refine own_go (A := T99.setTop (mkF m 493 #[.val (.int p1), .val (.int p2), .val (.int (Int32.ofNat k)), .val (.ref b1), .unset, .unset, .unset] [(.int (22 : Int32)), (.ref b77), (.ref b77)])) (fun t kt => XS.bipush X99.here hx rfl (hb hby at_491) kt) ?_
  refine own_go (A := T99.setTop (mkF m 494 #[.val (.int p1), .val (.int p2), .val (.int (Int32.ofNat k)), .val (.ref b1), .unset, .unset, .unset] [(.int (1 : Int32)), (.int (22 : Int32)), (.ref b77), (.ref b77)])) (fun t kt => XS.iconst X99.here hx rfl (hb hby at_493) kt) ?_
  refine own_put X99 hx hZ e99 A99 (j := (22 : Int32)) (x := (1 : Int32)) 22 (by decide) (by decide) (by decide) N99 ga_b77 (g := (mkF m 494 #[.val (.int p1), .val (.int p2), .val (.int (Int32.ofNat k)), .val (.ref b1), .unset, .unset, .unset] [(.int (1 : Int32)), (.int (22 : Int32)), (.ref b77), (.ref b77)])) rfl rfl (hb hby at_494) (fun T100 h100 l100 X100 e100 A100 O100 Sz100 N100 => ?_)
  have sz100 : n0 ≤ h100.size := Nat.le_trans sz99 Sz100
  replace A76 := O100 _ _ _ ne_b1_b77 A76
  clear O100 Sz100 X99 e99 A99 N99 sz99
  show ∃ s₂ o, Steps p.tables e below (T100.setTop (mkF m 495 #[.val (.int p1), .val (.int p2), .val (.int (Int32.ofNat k)), .val (.ref b1), .unset, .unset, .unset] [(.ref b77)])) s₂ ∧ _
  refine own_go (A := T100.setTop (mkF m 496 #[.val (.int p1), .val (.int p2), .val (.int (Int32.ofNat k)), .val (.ref b1), .unset, .unset, .unset] [(.ref b77), (.ref b77)])) (fun t kt => XS.dup X100.here hx rfl (hb hby at_495) rfl rfl kt) ?_
  refine own_go (A := T100.setTop (mkF m 498 #[.val (.int p1), .val (.int p2), .val (.int (Int32.ofNat k)), .val (.ref b1), .unset, .unset, .unset] [(.int (23 : Int32)), (.ref b77), (.ref b77)])) (fun t kt => XS.bipush X100.here hx rfl (hb hby at_496) kt) ?_
  refine own_go (A := T100.setTop (mkF m 499 #[.val (.int p1), .val (.int p2), .val (.int (Int32.ofNat k)), .val (.ref b1), .unset, .unset, .unset] [(.int (1 : Int32)), (.int (23 : Int32)), (.ref b77), (.ref b77)])) (fun t kt => XS.iconst X100.here hx rfl (hb hby at_498) kt) ?_
  refine own_put X100 hx hZ e100 A100 (j := (23 : Int32)) (x := (1 : Int32)) 23 (by decide) (by decide) (by decide) N100 ga_b77 (g := (mkF m 499 #[.val (.int p1), .val (.int p2), .val (.int (Int32.ofNat k)), .val (.ref b1), .unset, .unset, .unset] [(.int (1 : Int32)), (.int (23 : Int32)), (.ref b77), (.ref b77)])) rfl rfl (hb hby at_499) (fun T101 h101 l101 X101 e101 A101 O101 Sz101 N101 => ?_)
  have sz101 : n0 ≤ h101.size := Nat.le_trans sz100 Sz101
  replace A76 := O101 _ _ _ ne_b1_b77 A76
  clear O101 Sz101 X100 e100 A100 N100 sz100
  show ∃ s₂ o, Steps p.tables e below (T101.setTop (mkF m 500 #[.val (.int p1), .val (.int p2), .val (.int (Int32.ofNat k)), .val (.ref b1), .unset, .unset, .unset] [(.ref b77)])) s₂ ∧ _
  refine own_go (A := T101.setTop (mkF m 501 #[.val (.int p1), .val (.int p2), .val (.int (Int32.ofNat k)), .val (.ref b1), .unset, .unset, .unset] [(.ref b77), (.ref b77)])) (fun t kt => XS.dup X101.here hx rfl (hb hby at_500) rfl rfl kt) ?_
  refine own_go (A := T101.setTop (mkF m 503 #[.val (.int p1), .val (.int p2), .val (.int (Int32.ofNat k)), .val (.ref b1), .unset, .unset, .unset] [(.int (24 : Int32)), (.ref b77), (.ref b77)])) (fun t kt => XS.bipush X101.here hx rfl (hb hby at_501) kt) ?_
  refine own_go (A := T101.setTop (mkF m 504 #[.val (.int p1), .val (.int p2), .val (.int (Int32.ofNat k)), .val (.ref b1), .unset, .unset, .unset] [(.int (1 : Int32)), (.int (24 : Int32)), (.ref b77), (.ref b77)])) (fun t kt => XS.iconst X101.here hx rfl (hb hby at_503) kt) ?_
  refine own_put X101 hx hZ e101 A101 (j := (24 : Int32)) (x := (1 : Int32)) 24 (by decide) (by decide) (by decide) N101 ga_b77 (g := (mkF m 504 #[.val (.int p1), .val (.int p2), .val (.int (Int32.ofNat k)), .val (.ref b1), .unset, .unset, .unset] [(.int (1 : Int32)), (.int (24 : Int32)), (.ref b77), (.ref b77)])) rfl rfl (hb hby at_504) (fun T102 h102 l102 X102 e102 A102 O102 Sz102 N102 => ?_)
  have sz102 : n0 ≤ h102.size := Nat.le_trans sz101 Sz102
  replace A76 := O102 _ _ _ ne_b1_b77 A76
  clear O102 Sz102 X101 e101 A101 N101 sz101
  show ∃ s₂ o, Steps p.tables e below (T102.setTop (mkF m 505 #[.val (.int p1), .val (.int p2), .val (.int (Int32.ofNat k)), .val (.ref b1), .unset, .unset, .unset] [(.ref b77)])) s₂ ∧ _
  refine own_go (A := T102.setTop (mkF m 506 #[.val (.int p1), .val (.int p2), .val (.int (Int32.ofNat k)), .val (.ref b1), .unset, .unset, .unset] [(.ref b77), (.ref b77)])) (fun t kt => XS.dup X102.here hx rfl (hb hby at_505) rfl rfl kt) ?_
  refine own_go (A := T102.setTop (mkF m 508 #[.val (.int p1), .val (.int p2), .val (.int (Int32.ofNat k)), .val (.ref b1), .unset, .unset, .unset] [(.int (25 : Int32)), (.ref b77), (.ref b77)])) (fun t kt => XS.bipush X102.here hx rfl (hb hby at_506) kt) ?_
  refine own_go (A := T102.setTop (mkF m 509 #[.val (.int p1), .val (.int p2), .val (.int (Int32.ofNat k)), .val (.ref b1), .unset, .unset, .unset] [(.int (1 : Int32)), (.int (25 : Int32)), (.ref b77), (.ref b77)])) (fun t kt => XS.iconst X102.here hx rfl (hb hby at_508) kt) ?_
  refine own_put X102 hx hZ e102 A102 (j := (25 : Int32)) (x := (1 : Int32)) 25 (by decide) (by decide) (by decide) N102 ga_b77 (g := (mkF m 509 #[.val (.int p1), .val (.int p2), .val (.int (Int32.ofNat k)), .val (.ref b1), .unset, .unset, .unset] [(.int (1 : Int32)), (.int (25 : Int32)), (.ref b77), (.ref b77)])) rfl rfl (hb hby at_509) (fun T103 h103 l103 X103 e103 A103 O103 Sz103 N103 => ?_)
  have sz103 : n0 ≤ h103.size := Nat.le_trans sz102 Sz103
  replace A76 := O103 _ _ _ ne_b1_b77 A76
  clear O103 Sz103 X102 e102 A102 N102 sz102
  show ∃ s₂ o, Steps p.tables e below (T103.setTop (mkF m 510 #[.val (.int p1), .val (.int p2), .val (.int (Int32.ofNat k)), .val (.ref b1), .unset, .unset, .unset] [(.ref b77)])) s₂ ∧ _
  refine own_go (A := T103.setTop (mkF m 511 #[.val (.int p1), .val (.int p2), .val (.int (Int32.ofNat k)), .val (.ref b1), .unset, .unset, .unset] [(.ref b77), (.ref b77)])) (fun t kt => XS.dup X103.here hx rfl (hb hby at_510) rfl rfl kt) ?_
  refine own_go (A := T103.setTop (mkF m 513 #[.val (.int p1), .val (.int p2), .val (.int (Int32.ofNat k)), .val (.ref b1), .unset, .unset, .unset] [(.int (26 : Int32)), (.ref b77), (.ref b77)])) (fun t kt => XS.bipush X103.here hx rfl (hb hby at_511) kt) ?_
  refine own_go (A := T103.setTop (mkF m 514 #[.val (.int p1), .val (.int p2), .val (.int (Int32.ofNat k)), .val (.ref b1), .unset, .unset, .unset] [(.int (1 : Int32)), (.int (26 : Int32)), (.ref b77), (.ref b77)])) (fun t kt => XS.iconst X103.here hx rfl (hb hby at_513) kt) ?_
  refine own_put X103 hx hZ e103 A103 (j := (26 : Int32)) (x := (1 : Int32)) 26 (by decide) (by decide) (by decide) N103 ga_b77 (g := (mkF m 514 #[.val (.int p1), .val (.int p2), .val (.int (Int32.ofNat k)), .val (.ref b1), .unset, .unset, .unset] [(.int (1 : Int32)), (.int (26 : Int32)), (.ref b77), (.ref b77)])) rfl rfl (hb hby at_514) (fun T104 h104 l104 X104 e104 A104 O104 Sz104 N104 => ?_)
  have sz104 : n0 ≤ h104.size := Nat.le_trans sz103 Sz104
  replace A76 := O104 _ _ _ ne_b1_b77 A76
  clear O104 Sz104 X103 e103 A103 N103 sz103
  show ∃ s₂ o, Steps p.tables e below (T104.setTop (mkF m 515 #[.val (.int p1), .val (.int p2), .val (.int (Int32.ofNat k)), .val (.ref b1), .unset, .unset, .unset] [(.ref b77)])) s₂ ∧ _
  refine own_go (A := T104.setTop (mkF m 516 #[.val (.int p1), .val (.int p2), .val (.int (Int32.ofNat k)), .val (.ref b1), .unset, .unset, .unset] [(.ref b77), (.ref b77)])) (fun t kt => XS.dup X104.here hx rfl (hb hby at_515) rfl rfl kt) ?_
  refine own_go (A := T104.setTop (mkF m 518 #[.val (.int p1), .val (.int p2), .val (.int (Int32.ofNat k)), .val (.ref b1), .unset, .unset, .unset] [(.int (27 : Int32)), (.ref b77), (.ref b77)])) (fun t kt => XS.bipush X104.here hx rfl (hb hby at_516) kt) ?_
  refine own_go (A := T104.setTop (mkF m 519 #[.val (.int p1), .val (.int p2), .val (.int (Int32.ofNat k)), .val (.ref b1), .unset, .unset, .unset] [(.int (1 : Int32)), (.int (27 : Int32)), (.ref b77), (.ref b77)])) (fun t kt => XS.iconst X104.here hx rfl (hb hby at_518) kt) ?_
  refine own_put X104 hx hZ e104 A104 (j := (27 : Int32)) (x := (1 : Int32)) 27 (by decide) (by decide) (by decide) N104 ga_b77 (g := (mkF m 519 #[.val (.int p1), .val (.int p2), .val (.int (Int32.ofNat k)), .val (.ref b1), .unset, .unset, .unset] [(.int (1 : Int32)), (.int (27 : Int32)), (.ref b77), (.ref b77)])) rfl rfl (hb hby at_519) (fun T105 h105 l105 X105 e105 A105 O105 Sz105 N105 => ?_)
  have sz105 : n0 ≤ h105.size := Nat.le_trans sz104 Sz105
  replace A76 := O105 _ _ _ ne_b1_b77 A76
  clear O105 Sz105 X104 e104 A104 N104 sz104
  show ∃ s₂ o, Steps p.tables e below (T105.setTop (mkF m 520 #[.val (.int p1), .val (.int p2), .val (.int (Int32.ofNat k)), .val (.ref b1), .unset, .unset, .unset] [(.ref b77)])) s₂ ∧ _
  refine own_go (A := T105.setTop (mkF m 521 #[.val (.int p1), .val (.int p2), .val (.int (Int32.ofNat k)), .val (.ref b1), .unset, .unset, .unset] [(.ref b77), (.ref b77)])) (fun t kt => XS.dup X105.here hx rfl (hb hby at_520) rfl rfl kt) ?_
  refine own_go (A := T105.setTop (mkF m 523 #[.val (.int p1), .val (.int p2), .val (.int (Int32.ofNat k)), .val (.ref b1), .unset, .unset, .unset] [(.int (28 : Int32)), (.ref b77), (.ref b77)])) (fun t kt => XS.bipush X105.here hx rfl (hb hby at_521) kt) ?_
  refine own_go (A := T105.setTop (mkF m 524 #[.val (.int p1), .val (.int p2), .val (.int (Int32.ofNat k)), .val (.ref b1), .unset, .unset, .unset] [(.int (1 : Int32)), (.int (28 : Int32)), (.ref b77), (.ref b77)])) (fun t kt => XS.iconst X105.here hx rfl (hb hby at_523) kt) ?_
  refine own_put X105 hx hZ e105 A105 (j := (28 : Int32)) (x := (1 : Int32)) 28 (by decide) (by decide) (by decide) N105 ga_b77 (g := (mkF m 524 #[.val (.int p1), .val (.int p2), .val (.int (Int32.ofNat k)), .val (.ref b1), .unset, .unset, .unset] [(.int (1 : Int32)), (.int (28 : Int32)), (.ref b77), (.ref b77)])) rfl rfl (hb hby at_524) (fun T106 h106 l106 X106 e106 A106 O106 Sz106 N106 => ?_)
  have sz106 : n0 ≤ h106.size := Nat.le_trans sz105 Sz106
  replace A76 := O106 _ _ _ ne_b1_b77 A76
  clear O106 Sz106 X105 e105 A105 N105 sz105
  show ∃ s₂ o, Steps p.tables e below (T106.setTop (mkF m 525 #[.val (.int p1), .val (.int p2), .val (.int (Int32.ofNat k)), .val (.ref b1), .unset, .unset, .unset] [(.ref b77)])) s₂ ∧ _
  refine own_go (A := T106.setTop (mkF m 526 #[.val (.int p1), .val (.int p2), .val (.int (Int32.ofNat k)), .val (.ref b1), .unset, .unset, .unset] [(.ref b77), (.ref b77)])) (fun t kt => XS.dup X106.here hx rfl (hb hby at_525) rfl rfl kt) ?_
  refine own_go (A := T106.setTop (mkF m 528 #[.val (.int p1), .val (.int p2), .val (.int (Int32.ofNat k)), .val (.ref b1), .unset, .unset, .unset] [(.int (29 : Int32)), (.ref b77), (.ref b77)])) (fun t kt => XS.bipush X106.here hx rfl (hb hby at_526) kt) ?_
  refine own_go (A := T106.setTop (mkF m 529 #[.val (.int p1), .val (.int p2), .val (.int (Int32.ofNat k)), .val (.ref b1), .unset, .unset, .unset] [(.int (1 : Int32)), (.int (29 : Int32)), (.ref b77), (.ref b77)])) (fun t kt => XS.iconst X106.here hx rfl (hb hby at_528) kt) ?_
  refine own_put X106 hx hZ e106 A106 (j := (29 : Int32)) (x := (1 : Int32)) 29 (by decide) (by decide) (by decide) N106 ga_b77 (g := (mkF m 529 #[.val (.int p1), .val (.int p2), .val (.int (Int32.ofNat k)), .val (.ref b1), .unset, .unset, .unset] [(.int (1 : Int32)), (.int (29 : Int32)), (.ref b77), (.ref b77)])) rfl rfl (hb hby at_529) (fun T107 h107 l107 X107 e107 A107 O107 Sz107 N107 => ?_)
  have sz107 : n0 ≤ h107.size := Nat.le_trans sz106 Sz107
  replace A76 := O107 _ _ _ ne_b1_b77 A76
  clear O107 Sz107 X106 e106 A106 N106 sz106
  show ∃ s₂ o, Steps p.tables e below (T107.setTop (mkF m 530 #[.val (.int p1), .val (.int p2), .val (.int (Int32.ofNat k)), .val (.ref b1), .unset, .unset, .unset] [(.ref b77)])) s₂ ∧ _
  refine own_go (A := T107.setTop (mkF m 531 #[.val (.int p1), .val (.int p2), .val (.int (Int32.ofNat k)), .val (.ref b1), .unset, .unset, .unset] [(.ref b77), (.ref b77)])) (fun t kt => XS.dup X107.here hx rfl (hb hby at_530) rfl rfl kt) ?_
  refine own_go (A := T107.setTop (mkF m 533 #[.val (.int p1), .val (.int p2), .val (.int (Int32.ofNat k)), .val (.ref b1), .unset, .unset, .unset] [(.int (30 : Int32)), (.ref b77), (.ref b77)])) (fun t kt => XS.bipush X107.here hx rfl (hb hby at_531) kt) ?_
  refine own_go (A := T107.setTop (mkF m 534 #[.val (.int p1), .val (.int p2), .val (.int (Int32.ofNat k)), .val (.ref b1), .unset, .unset, .unset] [(.int (1 : Int32)), (.int (30 : Int32)), (.ref b77), (.ref b77)])) (fun t kt => XS.iconst X107.here hx rfl (hb hby at_533) kt) ?_
  refine own_put X107 hx hZ e107 A107 (j := (30 : Int32)) (x := (1 : Int32)) 30 (by decide) (by decide) (by decide) N107 ga_b77 (g := (mkF m 534 #[.val (.int p1), .val (.int p2), .val (.int (Int32.ofNat k)), .val (.ref b1), .unset, .unset, .unset] [(.int (1 : Int32)), (.int (30 : Int32)), (.ref b77), (.ref b77)])) rfl rfl (hb hby at_534) (fun T108 h108 l108 X108 e108 A108 O108 Sz108 N108 => ?_)
  have sz108 : n0 ≤ h108.size := Nat.le_trans sz107 Sz108
  replace A76 := O108 _ _ _ ne_b1_b77 A76
  clear O108 Sz108 X107 e107 A107 N107 sz107
  show ∃ s₂ o, Steps p.tables e below (T108.setTop (mkF m 535 #[.val (.int p1), .val (.int p2), .val (.int (Int32.ofNat k)), .val (.ref b1), .unset, .unset, .unset] [(.ref b77)])) s₂ ∧ _
  refine own_go (A := T108.setTop (mkF m 536 #[.val (.int p1), .val (.int p2), .val (.int (Int32.ofNat k)), .val (.ref b1), .unset, .unset, .unset] [(.ref b77), (.ref b77)])) (fun t kt => XS.dup X108.here hx rfl (hb hby at_535) rfl rfl kt) ?_
  refine own_go (A := T108.setTop (mkF m 538 #[.val (.int p1), .val (.int p2), .val (.int (Int32.ofNat k)), .val (.ref b1), .unset, .unset, .unset] [(.int (31 : Int32)), (.ref b77), (.ref b77)])) (fun t kt => XS.bipush X108.here hx rfl (hb hby at_536) kt) ?_
  refine own_go (A := T108.setTop (mkF m 539 #[.val (.int p1), .val (.int p2), .val (.int (Int32.ofNat k)), .val (.ref b1), .unset, .unset, .unset] [(.int (1 : Int32)), (.int (31 : Int32)), (.ref b77), (.ref b77)])) (fun t kt => XS.iconst X108.here hx rfl (hb hby at_538) kt) ?_
  refine own_put X108 hx hZ e108 A108 (j := (31 : Int32)) (x := (1 : Int32)) 31 (by decide) (by decide) (by decide) N108 ga_b77 (g := (mkF m 539 #[.val (.int p1), .val (.int p2), .val (.int (Int32.ofNat k)), .val (.ref b1), .unset, .unset, .unset] [(.int (1 : Int32)), (.int (31 : Int32)), (.ref b77), (.ref b77)])) rfl rfl (hb hby at_539) (fun T109 h109 l109 X109 e109 A109 O109 Sz109 N109 => ?_)
  have sz109 : n0 ≤ h109.size := Nat.le_trans sz108 Sz109
  replace A76 := O109 _ _ _ ne_b1_b77 A76
  clear O109 Sz109 X108 e108 A108 N108 sz108
  show ∃ s₂ o, Steps p.tables e below (T109.setTop (mkF m 540 #[.val (.int p1), .val (.int p2), .val (.int (Int32.ofNat k)), .val (.ref b1), .unset, .unset, .unset] [(.ref b77)])) s₂ ∧ _
  refine own_go (A := T109.setTop (mkF m 541 #[.val (.int p1), .val (.int p2), .val (.int (Int32.ofNat k)), .val (.ref b1), .unset, .unset, .unset] [(.ref b77), (.ref b77)])) (fun t kt => XS.dup X109.here hx rfl (hb hby at_540) rfl rfl kt) ?_
  refine own_go (A := T109.setTop (mkF m 543 #[.val (.int p1), .val (.int p2), .val (.int (Int32.ofNat k)), .val (.ref b1), .unset, .unset, .unset] [(.int (32 : Int32)), (.ref b77), (.ref b77)])) (fun t kt => XS.bipush X109.here hx rfl (hb hby at_541) kt) ?_
  refine own_go (A := T109.setTop (mkF m 544 #[.val (.int p1), .val (.int p2), .val (.int (Int32.ofNat k)), .val (.ref b1), .unset, .unset, .unset] [(.int (1 : Int32)), (.int (32 : Int32)), (.ref b77), (.ref b77)])) (fun t kt => XS.iconst X109.here hx rfl (hb hby at_543) kt) ?_
  refine own_put X109 hx hZ e109 A109 (j := (32 : Int32)) (x := (1 : Int32)) 32 (by decide) (by decide) (by decide) N109 ga_b77 (g := (mkF m 544 #[.val (.int p1), .val (.int p2), .val (.int (Int32.ofNat k)), .val (.ref b1), .unset, .unset, .unset] [(.int (1 : Int32)), (.int (32 : Int32)), (.ref b77), (.ref b77)])) rfl rfl (hb hby at_544) (fun T110 h110 l110 X110 e110 A110 O110 Sz110 N110 => ?_)
  have sz110 : n0 ≤ h110.size := Nat.le_trans sz109 Sz110
  replace A76 := O110 _ _ _ ne_b1_b77 A76
  clear O110 Sz110 X109 e109 A109 N109 sz109
  show ∃ s₂ o, Steps p.tables e below (T110.setTop (mkF m 545 #[.val (.int p1), .val (.int p2), .val (.int (Int32.ofNat k)), .val (.ref b1), .unset, .unset, .unset] [(.ref b77)])) s₂ ∧ _
  refine own_go (A := T110.setTop (mkF m 546 #[.val (.int p1), .val (.int p2), .val (.int (Int32.ofNat k)), .val (.ref b1), .unset, .unset, .unset] [(.ref b77), (.ref b77)])) (fun t kt => XS.dup X110.here hx rfl (hb hby at_545) rfl rfl kt) ?_
  refine own_go (A := T110.setTop (mkF m 548 #[.val (.int p1), .val (.int p2), .val (.int (Int32.ofNat k)), .val (.ref b1), .unset, .unset, .unset] [(.int (33 : Int32)), (.ref b77), (.ref b77)])) (fun t kt => XS.bipush X110.here hx rfl (hb hby at_546) kt) ?_
  refine own_go (A := T110.setTop (mkF m 549 #[.val (.int p1), .val (.int p2), .val (.int (Int32.ofNat k)), .val (.ref b1), .unset, .unset, .unset] [(.int (0 : Int32)), (.int (33 : Int32)), (.ref b77), (.ref b77)])) (fun t kt => XS.iconst X110.here hx rfl (hb hby at_548) kt) ?_
  refine own_put X110 hx hZ e110 A110 (j := (33 : Int32)) (x := (0 : Int32)) 33 (by decide) (by decide) (by decide) N110 ga_b77 (g := (mkF m 549 #[.val (.int p1), .val (.int p2), .val (.int (Int32.ofNat k)), .val (.ref b1), .unset, .unset, .unset] [(.int (0 : Int32)), (.int (33 : Int32)), (.ref b77), (.ref b77)])) rfl rfl (hb hby at_549) (fun T111 h111 l111 X111 e111 A111 O111 Sz111 N111 => ?_)
  have sz111 : n0 ≤ h111.size := Nat.le_trans sz110 Sz111
  replace A76 := O111 _ _ _ ne_b1_b77 A76
  clear O111 Sz111 X110 e110 A110 N110 sz110
  show ∃ s₂ o, Steps p.tables e below (T111.setTop (mkF m 550 #[.val (.int p1), .val (.int p2), .val (.int (Int32.ofNat k)), .val (.ref b1), .unset, .unset, .unset] [(.ref b77)])) s₂ ∧ _
  refine own_go (A := T111.setTop (mkF m 551 #[.val (.int p1), .val (.int p2), .val (.int (Int32.ofNat k)), .val (.ref b1), .unset, .unset, .unset] [(.ref b77), (.ref b77)])) (fun t kt => XS.dup X111.here hx rfl (hb hby at_550) rfl rfl kt) ?_
  refine own_go (A := T111.setTop (mkF m 553 #[.val (.int p1), .val (.int p2), .val (.int (Int32.ofNat k)), .val (.ref b1), .unset, .unset, .unset] [(.int (34 : Int32)), (.ref b77), (.ref b77)])) (fun t kt => XS.bipush X111.here hx rfl (hb hby at_551) kt) ?_
  refine own_go (A := T111.setTop (mkF m 554 #[.val (.int p1), .val (.int p2), .val (.int (Int32.ofNat k)), .val (.ref b1), .unset, .unset, .unset] [(.int (0 : Int32)), (.int (34 : Int32)), (.ref b77), (.ref b77)])) (fun t kt => XS.iconst X111.here hx rfl (hb hby at_553) kt) ?_
  refine own_put X111 hx hZ e111 A111 (j := (34 : Int32)) (x := (0 : Int32)) 34 (by decide) (by decide) (by decide) N111 ga_b77 (g := (mkF m 554 #[.val (.int p1), .val (.int p2), .val (.int (Int32.ofNat k)), .val (.ref b1), .unset, .unset, .unset] [(.int (0 : Int32)), (.int (34 : Int32)), (.ref b77), (.ref b77)])) rfl rfl (hb hby at_554) (fun T112 h112 l112 X112 e112 A112 O112 Sz112 N112 => ?_)
  have sz112 : n0 ≤ h112.size := Nat.le_trans sz111 Sz112
  replace A76 := O112 _ _ _ ne_b1_b77 A76
  clear O112 Sz112 X111 e111 A111 N111 sz111
  show ∃ s₂ o, Steps p.tables e below (T112.setTop (mkF m 555 #[.val (.int p1), .val (.int p2), .val (.int (Int32.ofNat k)), .val (.ref b1), .unset, .unset, .unset] [(.ref b77)])) s₂ ∧ _
  refine own_go (A := T112.setTop (mkF m 556 #[.val (.int p1), .val (.int p2), .val (.int (Int32.ofNat k)), .val (.ref b1), .unset, .unset, .unset] [(.ref b77), (.ref b77)])) (fun t kt => XS.dup X112.here hx rfl (hb hby at_555) rfl rfl kt) ?_
  refine own_go (A := T112.setTop (mkF m 558 #[.val (.int p1), .val (.int p2), .val (.int (Int32.ofNat k)), .val (.ref b1), .unset, .unset, .unset] [(.int (35 : Int32)), (.ref b77), (.ref b77)])) (fun t kt => XS.bipush X112.here hx rfl (hb hby at_556) kt) ?_
  refine own_go (A := T112.setTop (mkF m 559 #[.val (.int p1), .val (.int p2), .val (.int (Int32.ofNat k)), .val (.ref b1), .unset, .unset, .unset] [(.int (0 : Int32)), (.int (35 : Int32)), (.ref b77), (.ref b77)])) (fun t kt => XS.iconst X112.here hx rfl (hb hby at_558) kt) ?_
  refine own_put X112 hx hZ e112 A112 (j := (35 : Int32)) (x := (0 : Int32)) 35 (by decide) (by decide) (by decide) N112 ga_b77 (g := (mkF m 559 #[.val (.int p1), .val (.int p2), .val (.int (Int32.ofNat k)), .val (.ref b1), .unset, .unset, .unset] [(.int (0 : Int32)), (.int (35 : Int32)), (.ref b77), (.ref b77)])) rfl rfl (hb hby at_559) (fun T113 h113 l113 X113 e113 A113 O113 Sz113 N113 => ?_)
  have sz113 : n0 ≤ h113.size := Nat.le_trans sz112 Sz113
  replace A76 := O113 _ _ _ ne_b1_b77 A76
  clear O113 Sz113 X112 e112 A112 N112 sz112
  show ∃ s₂ o, Steps p.tables e below (T113.setTop (mkF m 560 #[.val (.int p1), .val (.int p2), .val (.int (Int32.ofNat k)), .val (.ref b1), .unset, .unset, .unset] [(.ref b77)])) s₂ ∧ _
  refine own_go (A := T113.setTop (mkF m 561 #[.val (.int p1), .val (.int p2), .val (.int (Int32.ofNat k)), .val (.ref b1), .unset, .unset, .unset] [(.ref b77), (.ref b77)])) (fun t kt => XS.dup X113.here hx rfl (hb hby at_560) rfl rfl kt) ?_
  refine own_go (A := T113.setTop (mkF m 563 #[.val (.int p1), .val (.int p2), .val (.int (Int32.ofNat k)), .val (.ref b1), .unset, .unset, .unset] [(.int (36 : Int32)), (.ref b77), (.ref b77)])) (fun t kt => XS.bipush X113.here hx rfl (hb hby at_561) kt) ?_
  refine own_go (A := T113.setTop (mkF m 564 #[.val (.int p1), .val (.int p2), .val (.int (Int32.ofNat k)), .val (.ref b1), .unset, .unset, .unset] [(.int (0 : Int32)), (.int (36 : Int32)), (.ref b77), (.ref b77)])) (fun t kt => XS.iconst X113.here hx rfl (hb hby at_563) kt) ?_
  refine own_put X113 hx hZ e113 A113 (j := (36 : Int32)) (x := (0 : Int32)) 36 (by decide) (by decide) (by decide) N113 ga_b77 (g := (mkF m 564 #[.val (.int p1), .val (.int p2), .val (.int (Int32.ofNat k)), .val (.ref b1), .unset, .unset, .unset] [(.int (0 : Int32)), (.int (36 : Int32)), (.ref b77), (.ref b77)])) rfl rfl (hb hby at_564) (fun T114 h114 l114 X114 e114 A114 O114 Sz114 N114 => ?_)
  have sz114 : n0 ≤ h114.size := Nat.le_trans sz113 Sz114
  replace A76 := O114 _ _ _ ne_b1_b77 A76
  clear O114 Sz114 X113 e113 A113 N113 sz113
  show ∃ s₂ o, Steps p.tables e below (T114.setTop (mkF m 565 #[.val (.int p1), .val (.int p2), .val (.int (Int32.ofNat k)), .val (.ref b1), .unset, .unset, .unset] [(.ref b77)])) s₂ ∧ _
  refine own_go (A := T114.setTop (mkF m 566 #[.val (.int p1), .val (.int p2), .val (.int (Int32.ofNat k)), .val (.ref b1), .unset, .unset, .unset] [(.ref b77), (.ref b77)])) (fun t kt => XS.dup X114.here hx rfl (hb hby at_565) rfl rfl kt) ?_
  refine own_go (A := T114.setTop (mkF m 568 #[.val (.int p1), .val (.int p2), .val (.int (Int32.ofNat k)), .val (.ref b1), .unset, .unset, .unset] [(.int (37 : Int32)), (.ref b77), (.ref b77)])) (fun t kt => XS.bipush X114.here hx rfl (hb hby at_566) kt) ?_
  refine own_go (A := T114.setTop (mkF m 569 #[.val (.int p1), .val (.int p2), .val (.int (Int32.ofNat k)), .val (.ref b1), .unset, .unset, .unset] [(.int (0 : Int32)), (.int (37 : Int32)), (.ref b77), (.ref b77)])) (fun t kt => XS.iconst X114.here hx rfl (hb hby at_568) kt) ?_
  refine own_put X114 hx hZ e114 A114 (j := (37 : Int32)) (x := (0 : Int32)) 37 (by decide) (by decide) (by decide) N114 ga_b77 (g := (mkF m 569 #[.val (.int p1), .val (.int p2), .val (.int (Int32.ofNat k)), .val (.ref b1), .unset, .unset, .unset] [(.int (0 : Int32)), (.int (37 : Int32)), (.ref b77), (.ref b77)])) rfl rfl (hb hby at_569) (fun T115 h115 l115 X115 e115 A115 O115 Sz115 N115 => ?_)
  have sz115 : n0 ≤ h115.size := Nat.le_trans sz114 Sz115
  replace A76 := O115 _ _ _ ne_b1_b77 A76
  clear O115 Sz115 X114 e114 A114 N114 sz114
  show ∃ s₂ o, Steps p.tables e below (T115.setTop (mkF m 570 #[.val (.int p1), .val (.int p2), .val (.int (Int32.ofNat k)), .val (.ref b1), .unset, .unset, .unset] [(.ref b77)])) s₂ ∧ _
  refine own_go (A := T115.setTop (mkF m 571 #[.val (.int p1), .val (.int p2), .val (.int (Int32.ofNat k)), .val (.ref b1), .unset, .unset, .unset] [(.ref b77), (.ref b77)])) (fun t kt => XS.dup X115.here hx rfl (hb hby at_570) rfl rfl kt) ?_
  refine own_go (A := T115.setTop (mkF m 573 #[.val (.int p1), .val (.int p2), .val (.int (Int32.ofNat k)), .val (.ref b1), .unset, .unset, .unset] [(.int (38 : Int32)), (.ref b77), (.ref b77)])) (fun t kt => XS.bipush X115.here hx rfl (hb hby at_571) kt) ?_
  refine own_go (A := T115.setTop (mkF m 574 #[.val (.int p1), .val (.int p2), .val (.int (Int32.ofNat k)), .val (.ref b1), .unset, .unset, .unset] [(.int (1 : Int32)), (.int (38 : Int32)), (.ref b77), (.ref b77)])) (fun t kt => XS.iconst X115.here hx rfl (hb hby at_573) kt) ?_
  refine own_put X115 hx hZ e115 A115 (j := (38 : Int32)) (x := (1 : Int32)) 38 (by decide) (by decide) (by decide) N115 ga_b77 (g := (mkF m 574 #[.val (.int p1), .val (.int p2), .val (.int (Int32.ofNat k)), .val (.ref b1), .unset, .unset, .unset] [(.int (1 : Int32)), (.int (38 : Int32)), (.ref b77), (.ref b77)])) rfl rfl (hb hby at_574) (fun T116 h116 l116 X116 e116 A116 O116 Sz116 N116 => ?_)
  have sz116 : n0 ≤ h116.size := Nat.le_trans sz115 Sz116
  replace A76 := O116 _ _ _ ne_b1_b77 A76
  clear O116 Sz116 X115 e115 A115 N115 sz115
  show ∃ s₂ o, Steps p.tables e below (T116.setTop (mkF m 575 #[.val (.int p1), .val (.int p2), .val (.int (Int32.ofNat k)), .val (.ref b1), .unset, .unset, .unset] [(.ref b77)])) s₂ ∧ _
  refine own_go (A := T116.setTop (mkF m 576 #[.val (.int p1), .val (.int p2), .val (.int (Int32.ofNat k)), .val (.ref b1), .unset, .unset, .unset] [(.ref b77), (.ref b77)])) (fun t kt => XS.dup X116.here hx rfl (hb hby at_575) rfl rfl kt) ?_
  refine own_go (A := T116.setTop (mkF m 578 #[.val (.int p1), .val (.int p2), .val (.int (Int32.ofNat k)), .val (.ref b1), .unset, .unset, .unset] [(.int (39 : Int32)), (.ref b77), (.ref b77)])) (fun t kt => XS.bipush X116.here hx rfl (hb hby at_576) kt) ?_
  refine own_go (A := T116.setTop (mkF m 579 #[.val (.int p1), .val (.int p2), .val (.int (Int32.ofNat k)), .val (.ref b1), .unset, .unset, .unset] [(.int (0 : Int32)), (.int (39 : Int32)), (.ref b77), (.ref b77)])) (fun t kt => XS.iconst X116.here hx rfl (hb hby at_578) kt) ?_
  refine own_put X116 hx hZ e116 A116 (j := (39 : Int32)) (x := (0 : Int32)) 39 (by decide) (by decide) (by decide) N116 ga_b77 (g := (mkF m 579 #[.val (.int p1), .val (.int p2), .val (.int (Int32.ofNat k)), .val (.ref b1), .unset, .unset, .unset] [(.int (0 : Int32)), (.int (39 : Int32)), (.ref b77), (.ref b77)])) rfl rfl (hb hby at_579) (fun T117 h117 l117 X117 e117 A117 O117 Sz117 N117 => ?_)
  have sz117 : n0 ≤ h117.size := Nat.le_trans sz116 Sz117
  replace A76 := O117 _ _ _ ne_b1_b77 A76
  clear O117 Sz117 X116 e116 A116 N116 sz116
  show ∃ s₂ o, Steps p.tables e below (T117.setTop (mkF m 580 #[.val (.int p1), .val (.int p2), .val (.int (Int32.ofNat k)), .val (.ref b1), .unset, .unset, .unset] [(.ref b77)])) s₂ ∧ _
  refine own_go (A := T117.setTop (mkF m 581 #[.val (.int p1), .val (.int p2), .val (.int (Int32.ofNat k)), .val (.ref b1), .unset, .unset, .unset] [(.ref b77), (.ref b77)])) (fun t kt => XS.dup X117.here hx rfl (hb hby at_580) rfl rfl kt) ?_
  refine own_go (A := T117.setTop (mkF m 583 #[.val (.int p1), .val (.int p2), .val (.int (Int32.ofNat k)), .val (.ref b1), .unset, .unset, .unset] [(.int (40 : Int32)), (.ref b77), (.ref b77)])) (fun t kt => XS.bipush X117.here hx rfl (hb hby at_581) kt) ?_
  refine own_go (A := T117.setTop (mkF m 584 #[.val (.int p1), .val (.int p2), .val (.int (Int32.ofNat k)), .val (.ref b1), .unset, .unset, .unset] [(.int (1 : Int32)), (.int (40 : Int32)), (.ref b77), (.ref b77)])) (fun t kt => XS.iconst X117.here hx rfl (hb hby at_583) kt) ?_
  refine own_put X117 hx hZ e117 A117 (j := (40 : Int32)) (x := (1 : Int32)) 40 (by decide) (by decide) (by decide) N117 ga_b77 (g := (mkF m 584 #[.val (.int p1), .val (.int p2), .val (.int (Int32.ofNat k)), .val (.ref b1), .unset, .unset, .unset] [(.int (1 : Int32)), (.int (40 : Int32)), (.ref b77), (.ref b77)])) rfl rfl (hb hby at_584) (fun T118 h118 l118 X118 e118 A118 O118 Sz118 N118 => ?_)
  have sz118 : n0 ≤ h118.size := Nat.le_trans sz117 Sz118
  replace A76 := O118 _ _ _ ne_b1_b77 A76
  clear O118 Sz118 X117 e117 A117 N117 sz117
  show ∃ s₂ o, Steps p.tables e below (T118.setTop (mkF m 585 #[.val (.int p1), .val (.int p2), .val (.int (Int32.ofNat k)), .val (.ref b1), .unset, .unset, .unset] [(.ref b77)])) s₂ ∧ _
  refine own_go (A := T118.setTop (mkF m 586 #[.val (.int p1), .val (.int p2), .val (.int (Int32.ofNat k)), .val (.ref b1), .unset, .unset, .unset] [(.ref b77), (.ref b77)])) (fun t kt => XS.dup X118.here hx rfl (hb hby at_585) rfl rfl kt) ?_
  refine own_go (A := T118.setTop (mkF m 588 #[.val (.int p1), .val (.int p2), .val (.int (Int32.ofNat k)), .val (.ref b1), .unset, .unset, .unset] [(.int (41 : Int32)), (.ref b77), (.ref b77)])) (fun t kt => XS.bipush X118.here hx rfl (hb hby at_586) kt) ?_
  refine own_go (A := T118.setTop (mkF m 589 #[.val (.int p1), .val (.int p2), .val (.int (Int32.ofNat k)), .val (.ref b1), .unset, .unset, .unset] [(.int (1 : Int32)), (.int (41 : Int32)), (.ref b77), (.ref b77)])) (fun t kt => XS.iconst X118.here hx rfl (hb hby at_588) kt) ?_
  refine own_put X118 hx hZ e118 A118 (j := (41 : Int32)) (x := (1 : Int32)) 41 (by decide) (by decide) (by decide) N118 ga_b77 (g := (mkF m 589 #[.val (.int p1), .val (.int p2), .val (.int (Int32.ofNat k)), .val (.ref b1), .unset, .unset, .unset] [(.int (1 : Int32)), (.int (41 : Int32)), (.ref b77), (.ref b77)])) rfl rfl (hb hby at_589) (fun T119 h119 l119 X119 e119 A119 O119 Sz119 N119 => ?_)
  have sz119 : n0 ≤ h119.size := Nat.le_trans sz118 Sz119
  replace A76 := O119 _ _ _ ne_b1_b77 A76
  clear O119 Sz119 X118 e118 A118 N118 sz118
  show ∃ s₂ o, Steps p.tables e below (T119.setTop (mkF m 590 #[.val (.int p1), .val (.int p2), .val (.int (Int32.ofNat k)), .val (.ref b1), .unset, .unset, .unset] [(.ref b77)])) s₂ ∧ _
  refine own_go (A := T119.setTop (mkF m 591 #[.val (.int p1), .val (.int p2), .val (.int (Int32.ofNat k)), .val (.ref b1), .unset, .unset, .unset] [(.ref b77), (.ref b77)])) (fun t kt => XS.dup X119.here hx rfl (hb hby at_590) rfl rfl kt) ?_
  refine own_go (A := T119.setTop (mkF m 593 #[.val (.int p1), .val (.int p2), .val (.int (Int32.ofNat k)), .val (.ref b1), .unset, .unset, .unset] [(.int (42 : Int32)), (.ref b77), (.ref b77)])) (fun t kt => XS.bipush X119.here hx rfl (hb hby at_591) kt) ?_
  refine own_go (A := T119.setTop (mkF m 594 #[.val (.int p1), .val (.int p2), .val (.int (Int32.ofNat k)), .val (.ref b1), .unset, .unset, .unset] [(.int (1 : Int32)), (.int (42 : Int32)), (.ref b77), (.ref b77)])) (fun t kt => XS.iconst X119.here hx rfl (hb hby at_593) kt) ?_
  refine own_put X119 hx hZ e119 A119 (j := (42 : Int32)) (x := (1 : Int32)) 42 (by decide) (by decide) (by decide) N119 ga_b77 (g := (mkF m 594 #[.val (.int p1), .val (.int p2), .val (.int (Int32.ofNat k)), .val (.ref b1), .unset, .unset, .unset] [(.int (1 : Int32)), (.int (42 : Int32)), (.ref b77), (.ref b77)])) rfl rfl (hb hby at_594) (fun T120 h120 l120 X120 e120 A120 O120 Sz120 N120 => ?_)
  have sz120 : n0 ≤ h120.size := Nat.le_trans sz119 Sz120
  replace A76 := O120 _ _ _ ne_b1_b77 A76
  clear O120 Sz120 X119 e119 A119 N119 sz119
  show ∃ s₂ o, Steps p.tables e below (T120.setTop (mkF m 595 #[.val (.int p1), .val (.int p2), .val (.int (Int32.ofNat k)), .val (.ref b1), .unset, .unset, .unset] [(.ref b77)])) s₂ ∧ _
  refine own_go (A := T120.setTop (mkF m 596 #[.val (.int p1), .val (.int p2), .val (.int (Int32.ofNat k)), .val (.ref b1), .unset, .unset, .unset] [(.ref b77), (.ref b77)])) (fun t kt => XS.dup X120.here hx rfl (hb hby at_595) rfl rfl kt) ?_
  refine own_go (A := T120.setTop (mkF m 598 #[.val (.int p1), .val (.int p2), .val (.int (Int32.ofNat k)), .val (.ref b1), .unset, .unset, .unset] [(.int (43 : Int32)), (.ref b77), (.ref b77)])) (fun t kt => XS.bipush X120.here hx rfl (hb hby at_596) kt) ?_
  refine own_go (A := T120.setTop (mkF m 599 #[.val (.int p1), .val (.int p2), .val (.int (Int32.ofNat k)), .val (.ref b1), .unset, .unset, .unset] [(.int (1 : Int32)), (.int (43 : Int32)), (.ref b77), (.ref b77)])) (fun t kt => XS.iconst X120.here hx rfl (hb hby at_598) kt) ?_
  refine own_put X120 hx hZ e120 A120 (j := (43 : Int32)) (x := (1 : Int32)) 43 (by decide) (by decide) (by decide) N120 ga_b77 (g := (mkF m 599 #[.val (.int p1), .val (.int p2), .val (.int (Int32.ofNat k)), .val (.ref b1), .unset, .unset, .unset] [(.int (1 : Int32)), (.int (43 : Int32)), (.ref b77), (.ref b77)])) rfl rfl (hb hby at_599) (fun T121 h121 l121 X121 e121 A121 O121 Sz121 N121 => ?_)
  have sz121 : n0 ≤ h121.size := Nat.le_trans sz120 Sz121
  replace A76 := O121 _ _ _ ne_b1_b77 A76
  clear O121 Sz121 X120 e120 A120 N120 sz120
  show ∃ s₂ o, Steps p.tables e below (T121.setTop (mkF m 600 #[.val (.int p1), .val (.int p2), .val (.int (Int32.ofNat k)), .val (.ref b1), .unset, .unset, .unset] [(.ref b77)])) s₂ ∧ _
  refine own_go (A := T121.setTop (mkF m 601 #[.val (.int p1), .val (.int p2), .val (.int (Int32.ofNat k)), .val (.ref b1), .unset, .unset, .unset] [(.ref b77), (.ref b77)])) (fun t kt => XS.dup X121.here hx rfl (hb hby at_600) rfl rfl kt) ?_
  refine own_go (A := T121.setTop (mkF m 603 #[.val (.int p1), .val (.int p2), .val (.int (Int32.ofNat k)), .val (.ref b1), .unset, .unset, .unset] [(.int (44 : Int32)), (.ref b77), (.ref b77)])) (fun t kt => XS.bipush X121.here hx rfl (hb hby at_601) kt) ?_
  refine own_go (A := T121.setTop (mkF m 604 #[.val (.int p1), .val (.int p2), .val (.int (Int32.ofNat k)), .val (.ref b1), .unset, .unset, .unset] [(.int (1 : Int32)), (.int (44 : Int32)), (.ref b77), (.ref b77)])) (fun t kt => XS.iconst X121.here hx rfl (hb hby at_603) kt) ?_
  refine own_put X121 hx hZ e121 A121 (j := (44 : Int32)) (x := (1 : Int32)) 44 (by decide) (by decide) (by decide) N121 ga_b77 (g := (mkF m 604 #[.val (.int p1), .val (.int p2), .val (.int (Int32.ofNat k)), .val (.ref b1), .unset, .unset, .unset] [(.int (1 : Int32)), (.int (44 : Int32)), (.ref b77), (.ref b77)])) rfl rfl (hb hby at_604) (fun T122 h122 l122 X122 e122 A122 O122 Sz122 N122 => ?_)
  have sz122 : n0 ≤ h122.size := Nat.le_trans sz121 Sz122
  replace A76 := O122 _ _ _ ne_b1_b77 A76
  clear O122 Sz122 X121 e121 A121 N121 sz121
  show ∃ s₂ o, Steps p.tables e below (T122.setTop (mkF m 605 #[.val (.int p1), .val (.int p2), .val (.int (Int32.ofNat k)), .val (.ref b1), .unset, .unset, .unset] [(.ref b77)])) s₂ ∧ _
  refine own_go (A := T122.setTop (mkF m 606 #[.val (.int p1), .val (.int p2), .val (.int (Int32.ofNat k)), .val (.ref b1), .unset, .unset, .unset] [(.ref b77), (.ref b77)])) (fun t kt => XS.dup X122.here hx rfl (hb hby at_605) rfl rfl kt) ?_
  refine own_go (A := T122.setTop (mkF m 608 #[.val (.int p1), .val (.int p2), .val (.int (Int32.ofNat k)), .val (.ref b1), .unset, .unset, .unset] [(.int (45 : Int32)), (.ref b77), (.ref b77)])) (fun t kt => XS.bipush X122.here hx rfl (hb hby at_606) kt) ?_
  refine own_go (A := T122.setTop (mkF m 609 #[.val (.int p1), .val (.int p2), .val (.int (Int32.ofNat k)), .val (.ref b1), .unset, .unset, .unset] [(.int (0 : Int32)), (.int (45 : Int32)), (.ref b77), (.ref b77)])) (fun t kt => XS.iconst X122.here hx rfl (hb hby at_608) kt) ?_
  refine own_put X122 hx hZ e122 A122 (j := (45 : Int32)) (x := (0 : Int32)) 45 (by decide) (by decide) (by decide) N122 ga_b77 (g := (mkF m 609 #[.val (.int p1), .val (.int p2), .val (.int (Int32.ofNat k)), .val (.ref b1), .unset, .unset, .unset] [(.int (0 : Int32)), (.int (45 : Int32)), (.ref b77), (.ref b77)])) rfl rfl (hb hby at_609) (fun T123 h123 l123 X123 e123 A123 O123 Sz123 N123 => ?_)
  have sz123 : n0 ≤ h123.size := Nat.le_trans sz122 Sz123
  replace A76 := O123 _ _ _ ne_b1_b77 A76
  clear O123 Sz123 X122 e122 A122 N122 sz122
  show ∃ s₂ o, Steps p.tables e below (T123.setTop (mkF m 610 #[.val (.int p1), .val (.int p2), .val (.int (Int32.ofNat k)), .val (.ref b1), .unset, .unset, .unset] [(.ref b77)])) s₂ ∧ _
  refine own_go (A := T123.setTop (mkF m 611 #[.val (.int p1), .val (.int p2), .val (.int (Int32.ofNat k)), .val (.ref b1), .unset, .unset, .unset] [(.ref b77), (.ref b77)])) (fun t kt => XS.dup X123.here hx rfl (hb hby at_610) rfl rfl kt) ?_
  refine own_go (A := T123.setTop (mkF m 613 #[.val (.int p1), .val (.int p2), .val (.int (Int32.ofNat k)), .val (.ref b1), .unset, .unset, .unset] [(.int (46 : Int32)), (.ref b77), (.ref b77)])) (fun t kt => XS.bipush X123.here hx rfl (hb hby at_611) kt) ?_
  refine own_go (A := T123.setTop (mkF m 614 #[.val (.int p1), .val (.int p2), .val (.int (Int32.ofNat k)), .val (.ref b1), .unset, .unset, .unset] [(.int (1 : Int32)), (.int (46 : Int32)), (.ref b77), (.ref b77)])) (fun t kt => XS.iconst X123.here hx rfl (hb hby at_613) kt) ?_
  refine own_put X123 hx hZ e123 A123 (j := (46 : Int32)) (x := (1 : Int32)) 46 (by decide) (by decide) (by decide) N123 ga_b77 (g := (mkF m 614 #[.val (.int p1), .val (.int p2), .val (.int (Int32.ofNat k)), .val (.ref b1), .unset, .unset, .unset] [(.int (1 : Int32)), (.int (46 : Int32)), (.ref b77), (.ref b77)])) rfl rfl (hb hby at_614) (fun T124 h124 l124 X124 e124 A124 O124 Sz124 N124 => ?_)
  have sz124 : n0 ≤ h124.size := Nat.le_trans sz123 Sz124
  replace A76 := O124 _ _ _ ne_b1_b77 A76
  clear O124 Sz124 X123 e123 A123 N123 sz123
  show ∃ s₂ o, Steps p.tables e below (T124.setTop (mkF m 615 #[.val (.int p1), .val (.int p2), .val (.int (Int32.ofNat k)), .val (.ref b1), .unset, .unset, .unset] [(.ref b77)])) s₂ ∧ _
  refine own_go (A := T124.setTop (mkF m 616 #[.val (.int p1), .val (.int p2), .val (.int (Int32.ofNat k)), .val (.ref b1), .unset, .unset, .unset] [(.ref b77), (.ref b77)])) (fun t kt => XS.dup X124.here hx rfl (hb hby at_615) rfl rfl kt) ?_
  refine own_go (A := T124.setTop (mkF m 618 #[.val (.int p1), .val (.int p2), .val (.int (Int32.ofNat k)), .val (.ref b1), .unset, .unset, .unset] [(.int (47 : Int32)), (.ref b77), (.ref b77)])) (fun t kt => XS.bipush X124.here hx rfl (hb hby at_616) kt) ?_
  refine own_go (A := T124.setTop (mkF m 619 #[.val (.int p1), .val (.int p2), .val (.int (Int32.ofNat k)), .val (.ref b1), .unset, .unset, .unset] [(.int (1 : Int32)), (.int (47 : Int32)), (.ref b77), (.ref b77)])) (fun t kt => XS.iconst X124.here hx rfl (hb hby at_618) kt) ?_
  refine own_put X124 hx hZ e124 A124 (j := (47 : Int32)) (x := (1 : Int32)) 47 (by decide) (by decide) (by decide) N124 ga_b77 (g := (mkF m 619 #[.val (.int p1), .val (.int p2), .val (.int (Int32.ofNat k)), .val (.ref b1), .unset, .unset, .unset] [(.int (1 : Int32)), (.int (47 : Int32)), (.ref b77), (.ref b77)])) rfl rfl (hb hby at_619) (fun T125 h125 l125 X125 e125 A125 O125 Sz125 N125 => ?_)
  have sz125 : n0 ≤ h125.size := Nat.le_trans sz124 Sz125
  replace A76 := O125 _ _ _ ne_b1_b77 A76
  clear O125 Sz125 X124 e124 A124 N124 sz124
  show ∃ s₂ o, Steps p.tables e below (T125.setTop (mkF m 620 #[.val (.int p1), .val (.int p2), .val (.int (Int32.ofNat k)), .val (.ref b1), .unset, .unset, .unset] [(.ref b77)])) s₂ ∧ _
  refine own_go (A := T125.setTop (mkF m 621 #[.val (.int p1), .val (.int p2), .val (.int (Int32.ofNat k)), .val (.ref b1), .unset, .unset, .unset] [(.ref b77), (.ref b77)])) (fun t kt => XS.dup X125.here hx rfl (hb hby at_620) rfl rfl kt) ?_
  refine own_go (A := T125.setTop (mkF m 623 #[.val (.int p1), .val (.int p2), .val (.int (Int32.ofNat k)), .val (.ref b1), .unset, .unset, .unset] [(.int (48 : Int32)), (.ref b77), (.ref b77)])) (fun t kt => XS.bipush X125.here hx rfl (hb hby at_621) kt) ?_
  refine own_go (A := T125.setTop (mkF m 624 #[.val (.int p1), .val (.int p2), .val (.int (Int32.ofNat k)), .val (.ref b1), .unset, .unset, .unset] [(.int (4 : Int32)), (.int (48 : Int32)), (.ref b77), (.ref b77)])) (fun t kt => XS.iconst X125.here hx rfl (hb hby at_623) kt) ?_
  refine own_put X125 hx hZ e125 A125 (j := (48 : Int32)) (x := (4 : Int32)) 48 (by decide) (by decide) (by decide) N125 ga_b77 (g := (mkF m 624 #[.val (.int p1), .val (.int p2), .val (.int (Int32.ofNat k)), .val (.ref b1), .unset, .unset, .unset] [(.int (4 : Int32)), (.int (48 : Int32)), (.ref b77), (.ref b77)])) rfl rfl (hb hby at_624) (fun T126 h126 l126 X126 e126 A126 O126 Sz126 N126 => ?_)
  have sz126 : n0 ≤ h126.size := Nat.le_trans sz125 Sz126
  replace A76 := O126 _ _ _ ne_b1_b77 A76
  clear O126 Sz126 X125 e125 A125 N125 sz125
  show ∃ s₂ o, Steps p.tables e below (T126.setTop (mkF m 625 #[.val (.int p1), .val (.int p2), .val (.int (Int32.ofNat k)), .val (.ref b1), .unset, .unset, .unset] [(.ref b77)])) s₂ ∧ _
  refine own_go (A := T126.setTop (mkF m 626 #[.val (.int p1), .val (.int p2), .val (.int (Int32.ofNat k)), .val (.ref b1), .unset, .unset, .unset] [(.ref b77), (.ref b77)])) (fun t kt => XS.dup X126.here hx rfl (hb hby at_625) rfl rfl kt) ?_
  refine own_go (A := T126.setTop (mkF m 628 #[.val (.int p1), .val (.int p2), .val (.int (Int32.ofNat k)), .val (.ref b1), .unset, .unset, .unset] [(.int (49 : Int32)), (.ref b77), (.ref b77)])) (fun t kt => XS.bipush X126.here hx rfl (hb hby at_626) kt) ?_
  refine own_go (A := T126.setTop (mkF m 629 #[.val (.int p1), .val (.int p2), .val (.int (Int32.ofNat k)), .val (.ref b1), .unset, .unset, .unset] [(.int (4 : Int32)), (.int (49 : Int32)), (.ref b77), (.ref b77)])) (fun t kt => XS.iconst X126.here hx rfl (hb hby at_628) kt) ?_
  refine own_put X126 hx hZ e126 A126 (j := (49 : Int32)) (x := (4 : Int32)) 49 (by decide) (by decide) (by decide) N126 ga_b77 (g := (mkF m 629 #[.val (.int p1), .val (.int p2), .val (.int (Int32.ofNat k)), .val (.ref b1), .unset, .unset, .unset] [(.int (4 : Int32)), (.int (49 : Int32)), (.ref b77), (.ref b77)])) rfl rfl (hb hby at_629) (fun T127 h127 l127 X127 e127 A127 O127 Sz127 N127 => ?_)
  have sz127 : n0 ≤ h127.size := Nat.le_trans sz126 Sz127
  replace A76 := O127 _ _ _ ne_b1_b77 A76
  clear O127 Sz127 X126 e126 A126 N126 sz126
  show ∃ s₂ o, Steps p.tables e below (T127.setTop (mkF m 630 #[.val (.int p1), .val (.int p2), .val (.int (Int32.ofNat k)), .val (.ref b1), .unset, .unset, .unset] [(.ref b77)])) s₂ ∧ _
  refine own_go (A := T127.setTop (mkF m 631 #[.val (.int p1), .val (.int p2), .val (.int (Int32.ofNat k)), .val (.ref b1), .unset, .unset, .unset] [(.ref b77), (.ref b77)])) (fun t kt => XS.dup X127.here hx rfl (hb hby at_630) rfl rfl kt) ?_
  refine own_go (A := T127.setTop (mkF m 633 #[.val (.int p1), .val (.int p2), .val (.int (Int32.ofNat k)), .val (.ref b1), .unset, .unset, .unset] [(.int (50 : Int32)), (.ref b77), (.ref b77)])) (fun t kt => XS.bipush X127.here hx rfl (hb hby at_631) kt) ?_
  refine own_go (A := T127.setTop (mkF m 634 #[.val (.int p1), .val (.int p2), .val (.int (Int32.ofNat k)), .val (.ref b1), .unset, .unset, .unset] [(.int (3 : Int32)), (.int (50 : Int32)), (.ref b77), (.ref b77)])) (fun t kt => XS.iconst X127.here hx rfl (hb hby at_633) kt) ?_
  refine own_put X127 hx hZ e127 A127 (j := (50 : Int32)) (x := (3 : Int32)) 50 (by decide) (by decide) (by decide) N127 ga_b77 (g := (mkF m 634 #[.val (.int p1), .val (.int p2), .val (.int (Int32.ofNat k)), .val (.ref b1), .unset, .unset, .unset] [(.int (3 : Int32)), (.int (50 : Int32)), (.ref b77), (.ref b77)])) rfl rfl (hb hby at_634) (fun T128 h128 l128 X128 e128 A128 O128 Sz128 N128 => ?_)
  have sz128 : n0 ≤ h128.size := Nat.le_trans sz127 Sz128
  replace A76 := O128 _ _ _ ne_b1_b77 A76
  clear O128 Sz128 X127 e127 A127 N127 sz127
  show ∃ s₂ o, Steps p.tables e below (T128.setTop (mkF m 635 #[.val (.int p1), .val (.int p2), .val (.int (Int32.ofNat k)), .val (.ref b1), .unset, .unset, .unset] [(.ref b77)])) s₂ ∧ _
  refine own_go (A := T128.setTop (mkF m 636 #[.val (.int p1), .val (.int p2), .val (.int (Int32.ofNat k)), .val (.ref b1), .unset, .unset, .unset] [(.ref b77), (.ref b77)])) (fun t kt => XS.dup X128.here hx rfl (hb hby at_635) rfl rfl kt) ?_
  refine own_go (A := T128.setTop (mkF m 638 #[.val (.int p1), .val (.int p2), .val (.int (Int32.ofNat k)), .val (.ref b1), .unset, .unset, .unset] [(.int (51 : Int32)), (.ref b77), (.ref b77)])) (fun t kt => XS.bipush X128.here hx rfl (hb hby at_636) kt) ?_
  refine own_go (A := T128.setTop (mkF m 639 #[.val (.int p1), .val (.int p2), .val (.int (Int32.ofNat k)), .val (.ref b1), .unset, .unset, .unset] [(.int (1 : Int32)), (.int (51 : Int32)), (.ref b77), (.ref b77)])) (fun t kt => XS.iconst X128.here hx rfl (hb hby at_638) kt) ?_
  refine own_put X128 hx hZ e128 A128 (j := (51 : Int32)) (x := (1 : Int32)) 51 (by decide) (by decide) (by decide) N128 ga_b77 (g := (mkF m 639 #[.val (.int p1), .val (.int p2), .val (.int (Int32.ofNat k)), .val (.ref b1), .unset, .unset, .unset] [(.int (1 : Int32)), (.int (51 : Int32)), (.ref b77), (.ref b77)])) rfl rfl (hb hby at_639) (fun T129 h129 l129 X129 e129 A129 O129 Sz129 N129 => ?_)
  have sz129 : n0 ≤ h129.size := Nat.le_trans sz128 Sz129
  replace A76 := O129 _ _ _ ne_b1_b77 A76
  clear O129 Sz129 X128 e128 A128 N128 sz128
  show ∃ s₂ o, Steps p.tables e below (T129.setTop (mkF m 640 #[.val (.int p1), .val (.int p2), .val (.int (Int32.ofNat k)), .val (.ref b1), .unset, .unset, .unset] [(.ref b77)])) s₂ ∧ _
  refine own_go (A := T129.setTop (mkF m 641 #[.val (.int p1), .val (.int p2), .val (.int (Int32.ofNat k)), .val (.ref b1), .unset, .unset, .unset] [(.ref b77), (.ref b77)])) (fun t kt => XS.dup X129.here hx rfl (hb hby at_640) rfl rfl kt) ?_
  refine own_go (A := T129.setTop (mkF m 643 #[.val (.int p1), .val (.int p2), .val (.int (Int32.ofNat k)), .val (.ref b1), .unset, .unset, .unset] [(.int (52 : Int32)), (.ref b77), (.ref b77)])) (fun t kt => XS.bipush X129.here hx rfl (hb hby at_641) kt) ?_
  refine own_go (A := T129.setTop (mkF m 644 #[.val (.int p1), .val (.int p2), .val (.int (Int32.ofNat k)), .val (.ref b1), .unset, .unset, .unset] [(.int (1 : Int32)), (.int (52 : Int32)), (.ref b77), (.ref b77)])) (fun t kt => XS.iconst X129.here hx rfl (hb hby at_643) kt) ?_
  refine own_put X129 hx hZ e129 A129 (j := (52 : Int32)) (x := (1 : Int32)) 52 (by decide) (by decide) (by decide) N129 ga_b77 (g := (mkF m 644 #[.val (.int p1), .val (.int p2), .val (.int (Int32.ofNat k)), .val (.ref b1), .unset, .unset, .unset] [(.int (1 : Int32)), (.int (52 : Int32)), (.ref b77), (.ref b77)])) rfl rfl (hb hby at_644) (fun T130 h130 l130 X130 e130 A130 O130 Sz130 N130 => ?_)
  have sz130 : n0 ≤ h130.size := Nat.le_trans sz129 Sz130
  replace A76 := O130 _ _ _ ne_b1_b77 A76
  clear O130 Sz130 X129 e129 A129 N129 sz129
  show ∃ s₂ o, Steps p.tables e below (T130.setTop (mkF m 645 #[.val (.int p1), .val (.int p2), .val (.int (Int32.ofNat k)), .val (.ref b1), .unset, .unset, .unset] [(.ref b77)])) s₂ ∧ _
  refine own_go (A := T130.setTop (mkF m 646 #[.val (.int p1), .val (.int p2), .val (.int (Int32.ofNat k)), .val (.ref b1), .unset, .unset, .unset] [(.ref b77), (.ref b77)])) (fun t kt => XS.dup X130.here hx rfl (hb hby at_645) rfl rfl kt) ?_
  refine own_go (A := T130.setTop (mkF m 648 #[.val (.int p1), .val (.int p2), .val (.int (Int32.ofNat k)), .val (.ref b1), .unset, .unset, .unset] [(.int (53 : Int32)), (.ref b77), (.ref b77)])) (fun t kt => XS.bipush X130.here hx rfl (hb hby at_646) kt) ?_
  refine own_go (A := T130.setTop (mkF m 649 #[.val (.int p1), .val (.int p2), .val (.int (Int32.ofNat k)), .val (.ref b1), .unset, .unset, .unset] [(.int (1 : Int32)), (.int (53 : Int32)), (.ref b77), (.ref b77)])) (fun t kt => XS.iconst X130.here hx rfl (hb hby at_648) kt) ?_
  refine own_put X130 hx hZ e130 A130 (j := (53 : Int32)) (x := (1 : Int32)) 53 (by decide) (by decide) (by decide) N130 ga_b77 (g := (mkF m 649 #[.val (.int p1), .val (.int p2), .val (.int (Int32.ofNat k)), .val (.ref b1), .unset, .unset, .unset] [(.int (1 : Int32)), (.int (53 : Int32)), (.ref b77), (.ref b77)])) rfl rfl (hb hby at_649) (fun T131 h131 l131 X131 e131 A131 O131 Sz131 N131 => ?_)
  have sz131 : n0 ≤ h131.size := Nat.le_trans sz130 Sz131
  replace A76 := O131 _ _ _ ne_b1_b77 A76
  clear O131 Sz131 X130 e130 A130 N130 sz130
  show ∃ s₂ o, Steps p.tables e below (T131.setTop (mkF m 650 #[.val (.int p1), .val (.int p2), .val (.int (Int32.ofNat k)), .val (.ref b1), .unset, .unset, .unset] [(.ref b77)])) s₂ ∧ _
  refine own_go (A := T131.setTop (mkF m 651 #[.val (.int p1), .val (.int p2), .val (.int (Int32.ofNat k)), .val (.ref b1), .unset, .unset, .unset] [(.ref b77), (.ref b77)])) (fun t kt => XS.dup X131.here hx rfl (hb hby at_650) rfl rfl kt) ?_
  refine own_go (A := T131.setTop (mkF m 653 #[.val (.int p1), .val (.int p2), .val (.int (Int32.ofNat k)), .val (.ref b1), .unset, .unset, .unset] [(.int (54 : Int32)), (.ref b77), (.ref b77)])) (fun t kt => XS.bipush X131.here hx rfl (hb hby at_651) kt) ?_
  refine own_go (A := T131.setTop (mkF m 654 #[.val (.int p1), .val (.int p2), .val (.int (Int32.ofNat k)), .val (.ref b1), .unset, .unset, .unset] [(.int (1 : Int32)), (.int (54 : Int32)), (.ref b77), (.ref b77)])) (fun t kt => XS.iconst X131.here hx rfl (hb hby at_653) kt) ?_
  refine own_put X131 hx hZ e131 A131 (j := (54 : Int32)) (x := (1 : Int32)) 54 (by decide) (by decide) (by decide) N131 ga_b77 (g := (mkF m 654 #[.val (.int p1), .val (.int p2), .val (.int (Int32.ofNat k)), .val (.ref b1), .unset, .unset, .unset] [(.int (1 : Int32)), (.int (54 : Int32)), (.ref b77), (.ref b77)])) rfl rfl (hb hby at_654) (fun T132 h132 l132 X132 e132 A132 O132 Sz132 N132 => ?_)
  have sz132 : n0 ≤ h132.size := Nat.le_trans sz131 Sz132
  replace A76 := O132 _ _ _ ne_b1_b77 A76
  clear O132 Sz132 X131 e131 A131 N131 sz131
  show ∃ s₂ o, Steps p.tables e below (T132.setTop (mkF m 655 #[.val (.int p1), .val (.int p2), .val (.int (Int32.ofNat k)), .val (.ref b1), .unset, .unset, .unset] [(.ref b77)])) s₂ ∧ _
  refine own_go (A := T132.setTop (mkF m 656 #[.val (.int p1), .val (.int p2), .val (.int (Int32.ofNat k)), .val (.ref b1), .unset, .unset, .unset] [(.ref b77), (.ref b77)])) (fun t kt => XS.dup X132.here hx rfl (hb hby at_655) rfl rfl kt) ?_
  refine own_go (A := T132.setTop (mkF m 658 #[.val (.int p1), .val (.int p2), .val (.int (Int32.ofNat k)), .val (.ref b1), .unset, .unset, .unset] [(.int (55 : Int32)), (.ref b77), (.ref b77)])) (fun t kt => XS.bipush X132.here hx rfl (hb hby at_656) kt) ?_
  refine own_go (A := T132.setTop (mkF m 659 #[.val (.int p1), .val (.int p2), .val (.int (Int32.ofNat k)), .val (.ref b1), .unset, .unset, .unset] [(.int (1 : Int32)), (.int (55 : Int32)), (.ref b77), (.ref b77)])) (fun t kt => XS.iconst X132.here hx rfl (hb hby at_658) kt) ?_
  refine own_put X132 hx hZ e132 A132 (j := (55 : Int32)) (x := (1 : Int32)) 55 (by decide) (by decide) (by decide) N132 ga_b77 (g := (mkF m 659 #[.val (.int p1), .val (.int p2), .val (.int (Int32.ofNat k)), .val (.ref b1), .unset, .unset, .unset] [(.int (1 : Int32)), (.int (55 : Int32)), (.ref b77), (.ref b77)])) rfl rfl (hb hby at_659) (fun T133 h133 l133 X133 e133 A133 O133 Sz133 N133 => ?_)
  have sz133 : n0 ≤ h133.size := Nat.le_trans sz132 Sz133
  replace A76 := O133 _ _ _ ne_b1_b77 A76
  clear O133 Sz133 X132 e132 A132 N132 sz132
  show ∃ s₂ o, Steps p.tables e below (T133.setTop (mkF m 660 #[.val (.int p1), .val (.int p2), .val (.int (Int32.ofNat k)), .val (.ref b1), .unset, .unset, .unset] [(.ref b77)])) s₂ ∧ _
  refine own_go (A := T133.setTop (mkF m 661 #[.val (.int p1), .val (.int p2), .val (.int (Int32.ofNat k)), .val (.ref b1), .unset, .unset, .unset] [(.ref b77), (.ref b77)])) (fun t kt => XS.dup X133.here hx rfl (hb hby at_660) rfl rfl kt) ?_
  refine own_go (A := T133.setTop (mkF m 663 #[.val (.int p1), .val (.int p2), .val (.int (Int32.ofNat k)), .val (.ref b1), .unset, .unset, .unset] [(.int (56 : Int32)), (.ref b77), (.ref b77)])) (fun t kt => XS.bipush X133.here hx rfl (hb hby at_661) kt) ?_
  refine own_go (A := T133.setTop (mkF m 664 #[.val (.int p1), .val (.int p2), .val (.int (Int32.ofNat k)), .val (.ref b1), .unset, .unset, .unset] [(.int (2 : Int32)), (.int (56 : Int32)), (.ref b77), (.ref b77)])) (fun t kt => XS.iconst X133.here hx rfl (hb hby at_663) kt) ?_
  refine own_put X133 hx hZ e133 A133 (j := (56 : Int32)) (x := (2 : Int32)) 56 (by decide) (by decide) (by decide) N133 ga_b77 (g := (mkF m 664 #[.val (.int p1), .val (.int p2), .val (.int (Int32.ofNat k)), .val (.ref b1), .unset, .unset, .unset] [(.int (2 : Int32)), (.int (56 : Int32)), (.ref b77), (.ref b77)])) rfl rfl (hb hby at_664) (fun T134 h134 l134 X134 e134 A134 O134 Sz134 N134 => ?_)
  have sz134 : n0 ≤ h134.size := Nat.le_trans sz133 Sz134
  replace A76 := O134 _ _ _ ne_b1_b77 A76
  clear O134 Sz134 X133 e133 A133 N133 sz133
  show ∃ s₂ o, Steps p.tables e below (T134.setTop (mkF m 665 #[.val (.int p1), .val (.int p2), .val (.int (Int32.ofNat k)), .val (.ref b1), .unset, .unset, .unset] [(.ref b77)])) s₂ ∧ _
  refine own_go (A := T134.setTop (mkF m 666 #[.val (.int p1), .val (.int p2), .val (.int (Int32.ofNat k)), .val (.ref b1), .unset, .unset, .unset] [(.ref b77), (.ref b77)])) (fun t kt => XS.dup X134.here hx rfl (hb hby at_665) rfl rfl kt) ?_
  refine own_go (A := T134.setTop (mkF m 668 #[.val (.int p1), .val (.int p2), .val (.int (Int32.ofNat k)), .val (.ref b1), .unset, .unset, .unset] [(.int (57 : Int32)), (.ref b77), (.ref b77)])) (fun t kt => XS.bipush X134.here hx rfl (hb hby at_666) kt) ?_
  refine own_go (A := T134.setTop (mkF m 669 #[.val (.int p1), .val (.int p2), .val (.int (Int32.ofNat k)), .val (.ref b1), .unset, .unset, .unset] [(.int (1 : Int32)), (.int (57 : Int32)), (.ref b77), (.ref b77)])) (fun t kt => XS.iconst X134.here hx rfl (hb hby at_668) kt) ?_
  refine own_put X134 hx hZ e134 A134 (j := (57 : Int32)) (x := (1 : Int32)) 57 (by decide) (by decide) (by decide) N134 ga_b77 (g := (mkF m 669 #[.val (.int p1), .val (.int p2), .val (.int (Int32.ofNat k)), .val (.ref b1), .unset, .unset, .unset] [(.int (1 : Int32)), (.int (57 : Int32)), (.ref b77), (.ref b77)])) rfl rfl (hb hby at_669) (fun T135 h135 l135 X135 e135 A135 O135 Sz135 N135 => ?_)
  have sz135 : n0 ≤ h135.size := Nat.le_trans sz134 Sz135
  replace A76 := O135 _ _ _ ne_b1_b77 A76
  clear O135 Sz135 X134 e134 A134 N134 sz134
  show ∃ s₂ o, Steps p.tables e below (T135.setTop (mkF m 670 #[.val (.int p1), .val (.int p2), .val (.int (Int32.ofNat k)), .val (.ref b1), .unset, .unset, .unset] [(.ref b77)])) s₂ ∧ _
  refine own_go (A := T135.setTop (mkF m 671 #[.val (.int p1), .val (.int p2), .val (.int (Int32.ofNat k)), .val (.ref b1), .unset, .unset, .unset] [(.ref b77), (.ref b77)])) (fun t kt => XS.dup X135.here hx rfl (hb hby at_670) rfl rfl kt) ?_
  refine own_go (A := T135.setTop (mkF m 673 #[.val (.int p1), .val (.int p2), .val (.int (Int32.ofNat k)), .val (.ref b1), .unset, .unset, .unset] [(.int (58 : Int32)), (.ref b77), (.ref b77)])) (fun t kt => XS.bipush X135.here hx rfl (hb hby at_671) kt) ?_
  refine own_go (A := T135.setTop (mkF m 674 #[.val (.int p1), .val (.int p2), .val (.int (Int32.ofNat k)), .val (.ref b1), .unset, .unset, .unset] [(.int (1 : Int32)), (.int (58 : Int32)), (.ref b77), (.ref b77)])) (fun t kt => XS.iconst X135.here hx rfl (hb hby at_673) kt) ?_
  refine own_put X135 hx hZ e135 A135 (j := (58 : Int32)) (x := (1 : Int32)) 58 (by decide) (by decide) (by decide) N135 ga_b77 (g := (mkF m 674 #[.val (.int p1), .val (.int p2), .val (.int (Int32.ofNat k)), .val (.ref b1), .unset, .unset, .unset] [(.int (1 : Int32)), (.int (58 : Int32)), (.ref b77), (.ref b77)])) rfl rfl (hb hby at_674) (fun T136 h136 l136 X136 e136 A136 O136 Sz136 N136 => ?_)
  have sz136 : n0 ≤ h136.size := Nat.le_trans sz135 Sz136
  replace A76 := O136 _ _ _ ne_b1_b77 A76
  clear O136 Sz136 X135 e135 A135 N135 sz135
  show ∃ s₂ o, Steps p.tables e below (T136.setTop (mkF m 675 #[.val (.int p1), .val (.int p2), .val (.int (Int32.ofNat k)), .val (.ref b1), .unset, .unset, .unset] [(.ref b77)])) s₂ ∧ _
  refine own_go (A := T136.setTop (mkF m 676 #[.val (.int p1), .val (.int p2), .val (.int (Int32.ofNat k)), .val (.ref b1), .unset, .unset, .unset] [(.ref b77), (.ref b77)])) (fun t kt => XS.dup X136.here hx rfl (hb hby at_675) rfl rfl kt) ?_
  refine own_go (A := T136.setTop (mkF m 678 #[.val (.int p1), .val (.int p2), .val (.int (Int32.ofNat k)), .val (.ref b1), .unset, .unset, .unset] [(.int (59 : Int32)), (.ref b77), (.ref b77)])) (fun t kt => XS.bipush X136.here hx rfl (hb hby at_676) kt) ?_
  refine own_go (A := T136.setTop (mkF m 679 #[.val (.int p1), .val (.int p2), .val (.int (Int32.ofNat k)), .val (.ref b1), .unset, .unset, .unset] [(.int (1 : Int32)), (.int (59 : Int32)), (.ref b77), (.ref b77)])) (fun t kt => XS.iconst X136.here hx rfl (hb hby at_678) kt) ?_
  refine own_put X136 hx hZ e136 A136 (j := (59 : Int32)) (x := (1 : Int32)) 59 (by decide) (by decide) (by decide) N136 ga_b77 (g := (mkF m 679 #[.val (.int p1), .val (.int p2), .val (.int (Int32.ofNat k)), .val (.ref b1), .unset, .unset, .unset] [(.int (1 : Int32)), (.int (59 : Int32)), (.ref b77), (.ref b77)])) rfl rfl (hb hby at_679) (fun T137 h137 l137 X137 e137 A137 O137 Sz137 N137 => ?_)
  have sz137 : n0 ≤ h137.size := Nat.le_trans sz136 Sz137
  replace A76 := O137 _ _ _ ne_b1_b77 A76
  clear O137 Sz137 X136 e136 A136 N136 sz136
  show ∃ s₂ o, Steps p.tables e below (T137.setTop (mkF m 680 #[.val (.int p1), .val (.int p2), .val (.int (Int32.ofNat k)), .val (.ref b1), .unset, .unset, .unset] [(.ref b77)])) s₂ ∧ _
  refine own_go (A := T137.setTop (mkF m 681 #[.val (.int p1), .val (.int p2), .val (.int (Int32.ofNat k)), .val (.ref b1), .unset, .unset, .unset] [(.ref b77), (.ref b77)])) (fun t kt => XS.dup X137.here hx rfl (hb hby at_680) rfl rfl kt) ?_
  refine own_go (A := T137.setTop (mkF m 683 #[.val (.int p1), .val (.int p2), .val (.int (Int32.ofNat k)), .val (.ref b1), .unset, .unset, .unset] [(.int (60 : Int32)), (.ref b77), (.ref b77)])) (fun t kt => XS.bipush X137.here hx rfl (hb hby at_681) kt) ?_
  refine own_go (A := T137.setTop (mkF m 684 #[.val (.int p1), .val (.int p2), .val (.int (Int32.ofNat k)), .val (.ref b1), .unset, .unset, .unset] [(.int (1 : Int32)), (.int (60 : Int32)), (.ref b77), (.ref b77)])) (fun t kt => XS.iconst X137.here hx rfl (hb hby at_683) kt) ?_
  refine own_put X137 hx hZ e137 A137 (j := (60 : Int32)) (x := (1 : Int32)) 60 (by decide) (by decide) (by decide) N137 ga_b77 (g := (mkF m 684 #[.val (.int p1), .val (.int p2), .val (.int (Int32.ofNat k)), .val (.ref b1), .unset, .unset, .unset] [(.int (1 : Int32)), (.int (60 : Int32)), (.ref b77), (.ref b77)])) rfl rfl (hb hby at_684) (fun T138 h138 l138 X138 e138 A138 O138 Sz138 N138 => ?_)
  have sz138 : n0 ≤ h138.size := Nat.le_trans sz137 Sz138
  replace A76 := O138 _ _ _ ne_b1_b77 A76
  clear O138 Sz138 X137 e137 A137 N137 sz137
  show ∃ s₂ o, Steps p.tables e below (T138.setTop (mkF m 685 #[.val (.int p1), .val (.int p2), .val (.int (Int32.ofNat k)), .val (.ref b1), .unset, .unset, .unset] [(.ref b77)])) s₂ ∧ _
  refine own_go (A := T138.setTop (mkF m 686 #[.val (.int p1), .val (.int p2), .val (.int (Int32.ofNat k)), .val (.ref b1), .unset, .unset, .unset] [(.ref b77), (.ref b77)])) (fun t kt => XS.dup X138.here hx rfl (hb hby at_685) rfl rfl kt) ?_
  refine own_go (A := T138.setTop (mkF m 688 #[.val (.int p1), .val (.int p2), .val (.int (Int32.ofNat k)), .val (.ref b1), .unset, .unset, .unset] [(.int (61 : Int32)), (.ref b77), (.ref b77)])) (fun t kt => XS.bipush X138.here hx rfl (hb hby at_686) kt) ?_
  refine own_go (A := T138.setTop (mkF m 689 #[.val (.int p1), .val (.int p2), .val (.int (Int32.ofNat k)), .val (.ref b1), .unset, .unset, .unset] [(.int (2 : Int32)), (.int (61 : Int32)), (.ref b77), (.ref b77)])) (fun t kt => XS.iconst X138.here hx rfl (hb hby at_688) kt) ?_
  refine own_put X138 hx hZ e138 A138 (j := (61 : Int32)) (x := (2 : Int32)) 61 (by decide) (by decide) (by decide) N138 ga_b77 (g := (mkF m 689 #[.val (.int p1), .val (.int p2), .val (.int (Int32.ofNat k)), .val (.ref b1), .unset, .unset, .unset] [(.int (2 : Int32)), (.int (61 : Int32)), (.ref b77), (.ref b77)])) rfl rfl (hb hby at_689) (fun T139 h139 l139 X139 e139 A139 O139 Sz139 N139 => ?_)
  have sz139 : n0 ≤ h139.size := Nat.le_trans sz138 Sz139
  replace A76 := O139 _ _ _ ne_b1_b77 A76
  clear O139 Sz139 X138 e138 A138 N138 sz138
  show ∃ s₂ o, Steps p.tables e below (T139.setTop (mkF m 690 #[.val (.int p1), .val (.int p2), .val (.int (Int32.ofNat k)), .val (.ref b1), .unset, .unset, .unset] [(.ref b77)])) s₂ ∧ _
  refine own_go (A := T139.setTop (mkF m 691 #[.val (.int p1), .val (.int p2), .val (.int (Int32.ofNat k)), .val (.ref b1), .unset, .unset, .unset] [(.ref b77), (.ref b77)])) (fun t kt => XS.dup X139.here hx rfl (hb hby at_690) rfl rfl kt) ?_
  refine own_go (A := T139.setTop (mkF m 693 #[.val (.int p1), .val (.int p2), .val (.int (Int32.ofNat k)), .val (.ref b1), .unset, .unset, .unset] [(.int (62 : Int32)), (.ref b77), (.ref b77)])) (fun t kt => XS.bipush X139.here hx rfl (hb hby at_691) kt) ?_
  refine own_go (A := T139.setTop (mkF m 694 #[.val (.int p1), .val (.int p2), .val (.int (Int32.ofNat k)), .val (.ref b1), .unset, .unset, .unset] [(.int (0 : Int32)), (.int (62 : Int32)), (.ref b77), (.ref b77)])) (fun t kt => XS.iconst X139.here hx rfl (hb hby at_693) kt) ?_
  refine own_put X139 hx hZ e139 A139 (j := (62 : Int32)) (x := (0 : Int32)) 62 (by decide) (by decide) (by decide) N139 ga_b77 (g := (mkF m 694 #[.val (.int p1), .val (.int p2), .val (.int (Int32.ofNat k)), .val (.ref b1), .unset, .unset, .unset] [(.int (0 : Int32)), (.int (62 : Int32)), (.ref b77), (.ref b77)])) rfl rfl (hb hby at_694) (fun T140 h140 l140 X140 e140 A140 O140 Sz140 N140 => ?_)
  have sz140 : n0 ≤ h140.size := Nat.le_trans sz139 Sz140
  replace A76 := O140 _ _ _ ne_b1_b77 A76
  clear O140 Sz140 X139 e139 A139 N139 sz139
  show ∃ s₂ o, Steps p.tables e below (T140.setTop (mkF m 695 #[.val (.int p1), .val (.int p2), .val (.int (Int32.ofNat k)), .val (.ref b1), .unset, .unset, .unset] [(.ref b77)])) s₂ ∧ _
  refine own_go (A := T140.setTop (mkF m 696 #[.val (.int p1), .val (.int p2), .val (.int (Int32.ofNat k)), .val (.ref b1), .unset, .unset, .unset] [(.ref b77), (.ref b77)])) (fun t kt => XS.dup X140.here hx rfl (hb hby at_695) rfl rfl kt) ?_
  refine own_go (A := T140.setTop (mkF m 698 #[.val (.int p1), .val (.int p2), .val (.int (Int32.ofNat k)), .val (.ref b1), .unset, .unset, .unset] [(.int (63 : Int32)), (.ref b77), (.ref b77)])) (fun t kt => XS.bipush X140.here hx rfl (hb hby at_696) kt) ?_
  refine own_go (A := T140.setTop (mkF m 699 #[.val (.int p1), .val (.int p2), .val (.int (Int32.ofNat k)), .val (.ref b1), .unset, .unset, .unset] [(.int (0 : Int32)), (.int (63 : Int32)), (.ref b77), (.ref b77)])) (fun t kt => XS.iconst X140.here hx rfl (hb hby at_698) kt) ?_
  refine own_put X140 hx hZ e140 A140 (j := (63 : Int32)) (x := (0 : Int32)) 63 (by decide) (by decide) (by decide) N140 ga_b77 (g := (mkF m 699 #[.val (.int p1), .val (.int p2), .val (.int (Int32.ofNat k)), .val (.ref b1), .unset, .unset, .unset] [(.int (0 : Int32)), (.int (63 : Int32)), (.ref b77), (.ref b77)])) rfl rfl (hb hby at_699) (fun T141 h141 l141 X141 e141 A141 O141 Sz141 N141 => ?_)
  have sz141 : n0 ≤ h141.size := Nat.le_trans sz140 Sz141
  replace A76 := O141 _ _ _ ne_b1_b77 A76
  clear O141 Sz141 X140 e140 A140 N140 sz140
  show ∃ s₂ o, Steps p.tables e below (T141.setTop (mkF m 700 #[.val (.int p1), .val (.int p2), .val (.int (Int32.ofNat k)), .val (.ref b1), .unset, .unset, .unset] [(.ref b77)])) s₂ ∧ _
  refine own_go (A := T141.setTop (mkF m 701 #[.val (.int p1), .val (.int p2), .val (.int (Int32.ofNat k)), .val (.ref b1), .unset, .unset, .unset] [(.ref b77), (.ref b77)])) (fun t kt => XS.dup X141.here hx rfl (hb hby at_700) rfl rfl kt) ?_
  refine own_go (A := T141.setTop (mkF m 703 #[.val (.int p1), .val (.int p2), .val (.int (Int32.ofNat k)), .val (.ref b1), .unset, .unset, .unset] [(.int (64 : Int32)), (.ref b77), (.ref b77)])) (fun t kt => XS.bipush X141.here hx rfl (hb hby at_701) kt) ?_
  refine own_go (A := T141.setTop (mkF m 704 #[.val (.int p1), .val (.int p2), .val (.int (Int32.ofNat k)), .val (.ref b1), .unset, .unset, .unset] [(.int (0 : Int32)), (.int (64 : Int32)), (.ref b77), (.ref b77)])) (fun t kt => XS.iconst X141.here hx rfl (hb hby at_703) kt) ?_
  refine own_put X141 hx hZ e141 A141 (j := (64 : Int32)) (x := (0 : Int32)) 64 (by decide) (by decide) (by decide) N141 ga_b77 (g := (mkF m 704 #[.val (.int p1), .val (.int p2), .val (.int (Int32.ofNat k)), .val (.ref b1), .unset, .unset, .unset] [(.int (0 : Int32)), (.int (64 : Int32)), (.ref b77), (.ref b77)])) rfl rfl (hb hby at_704) (fun T142 h142 l142 X142 e142 A142 O142 Sz142 N142 => ?_)
  have sz142 : n0 ≤ h142.size := Nat.le_trans sz141 Sz142
  replace A76 := O142 _ _ _ ne_b1_b77 A76
  clear O142 Sz142 X141 e141 A141 N141 sz141
  show ∃ s₂ o, Steps p.tables e below (T142.setTop (mkF m 705 #[.val (.int p1), .val (.int p2), .val (.int (Int32.ofNat k)), .val (.ref b1), .unset, .unset, .unset] [(.ref b77)])) s₂ ∧ _
  refine own_go (A := T142.setTop (mkF m 706 #[.val (.int p1), .val (.int p2), .val (.int (Int32.ofNat k)), .val (.ref b1), .unset, .unset, .unset] [(.ref b77), (.ref b77)])) (fun t kt => XS.dup X142.here hx rfl (hb hby at_705) rfl rfl kt) ?_
  refine own_go (A := T142.setTop (mkF m 708 #[.val (.int p1), .val (.int p2), .val (.int (Int32.ofNat k)), .val (.ref b1), .unset, .unset, .unset] [(.int (65 : Int32)), (.ref b77), (.ref b77)])) (fun t kt => XS.bipush X142.here hx rfl (hb hby at_706) kt) ?_
  refine own_go (A := T142.setTop (mkF m 709 #[.val (.int p1), .val (.int p2), .val (.int (Int32.ofNat k)), .val (.ref b1), .unset, .unset, .unset] [(.int (0 : Int32)), (.int (65 : Int32)), (.ref b77), (.ref b77)])) (fun t kt => XS.iconst X142.here hx rfl (hb hby at_708) kt) ?_
  refine own_put X142 hx hZ e142 A142 (j := (65 : Int32)) (x := (0 : Int32)) 65 (by decide) (by decide) (by decide) N142 ga_b77 (g := (mkF m 709 #[.val (.int p1), .val (.int p2), .val (.int (Int32.ofNat k)), .val (.ref b1), .unset, .unset, .unset] [(.int (0 : Int32)), (.int (65 : Int32)), (.ref b77), (.ref b77)])) rfl rfl (hb hby at_709) (fun T143 h143 l143 X143 e143 A143 O143 Sz143 N143 => ?_)
  have sz143 : n0 ≤ h143.size := Nat.le_trans sz142 Sz143
  replace A76 := O143 _ _ _ ne_b1_b77 A76
  clear O143 Sz143 X142 e142 A142 N142 sz142
  show ∃ s₂ o, Steps p.tables e below (T143.setTop (mkF m 710 #[.val (.int p1), .val (.int p2), .val (.int (Int32.ofNat k)), .val (.ref b1), .unset, .unset, .unset] [(.ref b77)])) s₂ ∧ _
  refine own_go (A := T143.setTop (mkF m 711 #[.val (.int p1), .val (.int p2), .val (.int (Int32.ofNat k)), .val (.ref b1), .unset, .unset, .unset] [(.ref b77), (.ref b77)])) (fun t kt => XS.dup X143.here hx rfl (hb hby at_710) rfl rfl kt) ?_
  refine own_go (A := T143.setTop (mkF m 713 #[.val (.int p1), .val (.int p2), .val (.int (Int32.ofNat k)), .val (.ref b1), .unset, .unset, .unset] [(.int (66 : Int32)), (.ref b77), (.ref b77)])) (fun t kt => XS.bipush X143.here hx rfl (hb hby at_711) kt) ?_
  refine own_go (A := T143.setTop (mkF m 714 #[.val (.int p1), .val (.int p2), .val (.int (Int32.ofNat k)), .val (.ref b1), .unset, .unset, .unset] [(.int (1 : Int32)), (.int (66 : Int32)), (.ref b77), (.ref b77)])) (fun t kt => XS.iconst X143.here hx rfl (hb hby at_713) kt) ?_
  refine own_put X143 hx hZ e143 A143 (j := (66 : Int32)) (x := (1 : Int32)) 66 (by decide) (by decide) (by decide) N143 ga_b77 (g := (mkF m 714 #[.val (.int p1), .val (.int p2), .val (.int (Int32.ofNat k)), .val (.ref b1), .unset, .unset, .unset] [(.int (1 : Int32)), (.int (66 : Int32)), (.ref b77), (.ref b77)])) rfl rfl (hb hby at_714) (fun T144 h144 l144 X144 e144 A144 O144 Sz144 N144 => ?_)
  have sz144 : n0 ≤ h144.size := Nat.le_trans sz143 Sz144
  replace A76 := O144 _ _ _ ne_b1_b77 A76
  clear O144 Sz144 X143 e143 A143 N143 sz143
  show ∃ s₂ o, Steps p.tables e below (T144.setTop (mkF m 715 #[.val (.int p1), .val (.int p2), .val (.int (Int32.ofNat k)), .val (.ref b1), .unset, .unset, .unset] [(.ref b77)])) s₂ ∧ _
  refine own_go (A := T144.setTop (mkF m 716 #[.val (.int p1), .val (.int p2), .val (.int (Int32.ofNat k)), .val (.ref b1), .unset, .unset, .unset] [(.ref b77), (.ref b77)])) (fun t kt => XS.dup X144.here hx rfl (hb hby at_715) rfl rfl kt) ?_
  refine own_go (A := T144.setTop (mkF m 718 #[.val (.int p1), .val (.int p2), .val (.int (Int32.ofNat k)), .val (.ref b1), .unset, .unset, .unset] [(.int (67 : Int32)), (.ref b77), (.ref b77)])) (fun t kt => XS.bipush X144.here hx rfl (hb hby at_716) kt) ?_
  refine own_go (A := T144.setTop (mkF m 719 #[.val (.int p1), .val (.int p2), .val (.int (Int32.ofNat k)), .val (.ref b1), .unset, .unset, .unset] [(.int (0 : Int32)), (.int (67 : Int32)), (.ref b77), (.ref b77)])) (fun t kt => XS.iconst X144.here hx rfl (hb hby at_718) kt) ?_
  refine own_put X144 hx hZ e144 A144 (j := (67 : Int32)) (x := (0 : Int32)) 67 (by decide) (by decide) (by decide) N144 ga_b77 (g := (mkF m 719 #[.val (.int p1), .val (.int p2), .val (.int (Int32.ofNat k)), .val (.ref b1), .unset, .unset, .unset] [(.int (0 : Int32)), (.int (67 : Int32)), (.ref b77), (.ref b77)])) rfl rfl (hb hby at_719) (fun T145 h145 l145 X145 e145 A145 O145 Sz145 N145 => ?_)
  have sz145 : n0 ≤ h145.size := Nat.le_trans sz144 Sz145
  replace A76 := O145 _ _ _ ne_b1_b77 A76
  clear O145 Sz145 X144 e144 A144 N144 sz144
  show ∃ s₂ o, Steps p.tables e below (T145.setTop (mkF m 720 #[.val (.int p1), .val (.int p2), .val (.int (Int32.ofNat k)), .val (.ref b1), .unset, .unset, .unset] [(.ref b77)])) s₂ ∧ _
  refine own_go (A := T145.setTop (mkF m 721 #[.val (.int p1), .val (.int p2), .val (.int (Int32.ofNat k)), .val (.ref b1), .unset, .unset, .unset] [(.ref b77), (.ref b77)])) (fun t kt => XS.dup X145.here hx rfl (hb hby at_720) rfl rfl kt) ?_
  refine own_go (A := T145.setTop (mkF m 723 #[.val (.int p1), .val (.int p2), .val (.int (Int32.ofNat k)), .val (.ref b1), .unset, .unset, .unset] [(.int (68 : Int32)), (.ref b77), (.ref b77)])) (fun t kt => XS.bipush X145.here hx rfl (hb hby at_721) kt) ?_
  refine own_go (A := T145.setTop (mkF m 724 #[.val (.int p1), .val (.int p2), .val (.int (Int32.ofNat k)), .val (.ref b1), .unset, .unset, .unset] [(.int (0 : Int32)), (.int (68 : Int32)), (.ref b77), (.ref b77)])) (fun t kt => XS.iconst X145.here hx rfl (hb hby at_723) kt) ?_
  refine own_put X145 hx hZ e145 A145 (j := (68 : Int32)) (x := (0 : Int32)) 68 (by decide) (by decide) (by decide) N145 ga_b77 (g := (mkF m 724 #[.val (.int p1), .val (.int p2), .val (.int (Int32.ofNat k)), .val (.ref b1), .unset, .unset, .unset] [(.int (0 : Int32)), (.int (68 : Int32)), (.ref b77), (.ref b77)])) rfl rfl (hb hby at_724) (fun T146 h146 l146 X146 e146 A146 O146 Sz146 N146 => ?_)
  have sz146 : n0 ≤ h146.size := Nat.le_trans sz145 Sz146
  replace A76 := O146 _ _ _ ne_b1_b77 A76
  clear O146 Sz146 X145 e145 A145 N145 sz145
  show ∃ s₂ o, Steps p.tables e below (T146.setTop (mkF m 725 #[.val (.int p1), .val (.int p2), .val (.int (Int32.ofNat k)), .val (.ref b1), .unset, .unset, .unset] [(.ref b77)])) s₂ ∧ _
  refine own_go (A := T146.setTop (mkF m 726 #[.val (.int p1), .val (.int p2), .val (.int (Int32.ofNat k)), .val (.ref b1), .unset, .unset, .unset] [(.ref b77), (.ref b77)])) (fun t kt => XS.dup X146.here hx rfl (hb hby at_725) rfl rfl kt) ?_
  refine own_go (A := T146.setTop (mkF m 728 #[.val (.int p1), .val (.int p2), .val (.int (Int32.ofNat k)), .val (.ref b1), .unset, .unset, .unset] [(.int (69 : Int32)), (.ref b77), (.ref b77)])) (fun t kt => XS.bipush X146.here hx rfl (hb hby at_726) kt) ?_
  refine own_go (A := T146.setTop (mkF m 729 #[.val (.int p1), .val (.int p2), .val (.int (Int32.ofNat k)), .val (.ref b1), .unset, .unset, .unset] [(.int (1 : Int32)), (.int (69 : Int32)), (.ref b77), (.ref b77)])) (fun t kt => XS.iconst X146.here hx rfl (hb hby at_728) kt) ?_
  refine own_put X146 hx hZ e146 A146 (j := (69 : Int32)) (x := (1 : Int32)) 69 (by decide) (by decide) (by decide) N146 ga_b77 (g := (mkF m 729 #[.val (.int p1), .val (.int p2), .val (.int (Int32.ofNat k)), .val (.ref b1), .unset, .unset, .unset] [(.int (1 : Int32)), (.int (69 : Int32)), (.ref b77), (.ref b77)])) rfl rfl (hb hby at_729) (fun T147 h147 l147 X147 e147 A147 O147 Sz147 N147 => ?_)
  have sz147 : n0 ≤ h147.size := Nat.le_trans sz146 Sz147
  replace A76 := O147 _ _ _ ne_b1_b77 A76
  clear O147 Sz147 X146 e146 A146 N146 sz146
  show ∃ s₂ o, Steps p.tables e below (T147.setTop (mkF m 730 #[.val (.int p1), .val (.int p2), .val (.int (Int32.ofNat k)), .val (.ref b1), .unset, .unset, .unset] [(.ref b77)])) s₂ ∧ _
  refine own_go (A := T147.setTop (mkF m 731 #[.val (.int p1), .val (.int p2), .val (.int (Int32.ofNat k)), .val (.ref b1), .unset, .unset, .unset] [(.ref b77), (.ref b77)])) (fun t kt => XS.dup X147.here hx rfl (hb hby at_730) rfl rfl kt) ?_
  refine own_go (A := T147.setTop (mkF m 733 #[.val (.int p1), .val (.int p2), .val (.int (Int32.ofNat k)), .val (.ref b1), .unset, .unset, .unset] [(.int (70 : Int32)), (.ref b77), (.ref b77)])) (fun t kt => XS.bipush X147.here hx rfl (hb hby at_731) kt) ?_
  refine own_go (A := T147.setTop (mkF m 734 #[.val (.int p1), .val (.int p2), .val (.int (Int32.ofNat k)), .val (.ref b1), .unset, .unset, .unset] [(.int (1 : Int32)), (.int (70 : Int32)), (.ref b77), (.ref b77)])) (fun t kt => XS.iconst X147.here hx rfl (hb hby at_733) kt) ?_
  refine own_put X147 hx hZ e147 A147 (j := (70 : Int32)) (x := (1 : Int32)) 70 (by decide) (by decide) (by decide) N147 ga_b77 (g := (mkF m 734 #[.val (.int p1), .val (.int p2), .val (.int (Int32.ofNat k)), .val (.ref b1), .unset, .unset, .unset] [(.int (1 : Int32)), (.int (70 : Int32)), (.ref b77), (.ref b77)])) rfl rfl (hb hby at_734) (fun T148 h148 l148 X148 e148 A148 O148 Sz148 N148 => ?_)
  have sz148 : n0 ≤ h148.size := Nat.le_trans sz147 Sz148
  replace A76 := O148 _ _ _ ne_b1_b77 A76
  clear O148 Sz148 X147 e147 A147 N147 sz147
  show ∃ s₂ o, Steps p.tables e below (T148.setTop (mkF m 735 #[.val (.int p1), .val (.int p2), .val (.int (Int32.ofNat k)), .val (.ref b1), .unset, .unset, .unset] [(.ref b77)])) s₂ ∧ _
  refine own_go (A := T148.setTop (mkF m 736 #[.val (.int p1), .val (.int p2), .val (.int (Int32.ofNat k)), .val (.ref b1), .unset, .unset, .unset] [(.ref b77), (.ref b77)])) (fun t kt => XS.dup X148.here hx rfl (hb hby at_735) rfl rfl kt) ?_
  refine own_go (A := T148.setTop (mkF m 738 #[.val (.int p1), .val (.int p2), .val (.int (Int32.ofNat k)), .val (.ref b1), .unset, .unset, .unset] [(.int (71 : Int32)), (.ref b77), (.ref b77)])) (fun t kt => XS.bipush X148.here hx rfl (hb hby at_736) kt) ?_
  refine own_go (A := T148.setTop (mkF m 739 #[.val (.int p1), .val (.int p2), .val (.int (Int32.ofNat k)), .val (.ref b1), .unset, .unset, .unset] [(.int (0 : Int32)), (.int (71 : Int32)), (.ref b77), (.ref b77)])) (fun t kt => XS.iconst X148.here hx rfl (hb hby at_738) kt) ?_
  refine own_put X148 hx hZ e148 A148 (j := (71 : Int32)) (x := (0 : Int32)) 71 (by decide) (by decide) (by decide) N148 ga_b77 (g := (mkF m 739 #[.val (.int p1), .val (.int p2), .val (.int (Int32.ofNat k)), .val (.ref b1), .unset, .unset, .unset] [(.int (0 : Int32)), (.int (71 : Int32)), (.ref b77), (.ref b77)])) rfl rfl (hb hby at_739) (fun T149 h149 l149 X149 e149 A149 O149 Sz149 N149 => ?_)
  have sz149 : n0 ≤ h149.size := Nat.le_trans sz148 Sz149
  replace A76 := O149 _ _ _ ne_b1_b77 A76
  clear O149 Sz149 X148 e148 A148 N148 sz148
  show ∃ s₂ o, Steps p.tables e below (T149.setTop (mkF m 740 #[.val (.int p1), .val (.int p2), .val (.int (Int32.ofNat k)), .val (.ref b1), .unset, .unset, .unset] [(.ref b77)])) s₂ ∧ _
  refine own_go (A := T149.setTop (mkF m 741 #[.val (.int p1), .val (.int p2), .val (.int (Int32.ofNat k)), .val (.ref b1), .unset, .unset, .unset] [(.ref b77), (.ref b77)])) (fun t kt => XS.dup X149.here hx rfl (hb hby at_740) rfl rfl kt) ?_
  refine own_go (A := T149.setTop (mkF m 743 #[.val (.int p1), .val (.int p2), .val (.int (Int32.ofNat k)), .val (.ref b1), .unset, .unset, .unset] [(.int (72 : Int32)), (.ref b77), (.ref b77)])) (fun t kt => XS.bipush X149.here hx rfl (hb hby at_741) kt) ?_
  refine own_go (A := T149.setTop (mkF m 744 #[.val (.int p1), .val (.int p2), .val (.int (Int32.ofNat k)), .val (.ref b1), .unset, .unset, .unset] [(.int (1 : Int32)), (.int (72 : Int32)), (.ref b77), (.ref b77)])) (fun t kt => XS.iconst X149.here hx rfl (hb hby at_743) kt) ?_
  refine own_put X149 hx hZ e149 A149 (j := (72 : Int32)) (x := (1 : Int32)) 72 (by decide) (by decide) (by decide) N149 ga_b77 (g := (mkF m 744 #[.val (.int p1), .val (.int p2), .val (.int (Int32.ofNat k)), .val (.ref b1), .unset, .unset, .unset] [(.int (1 : Int32)), (.int (72 : Int32)), (.ref b77), (.ref b77)])) rfl rfl (hb hby at_744) (fun T150 h150 l150 X150 e150 A150 O150 Sz150 N150 => ?_)
  have sz150 : n0 ≤ h150.size := Nat.le_trans sz149 Sz150
  replace A76 := O150 _ _ _ ne_b1_b77 A76
  clear O150 Sz150 X149 e149 A149 N149 sz149
  show ∃ s₂ o, Steps p.tables e below (T150.setTop (mkF m 745 #[.val (.int p1), .val (.int p2), .val (.int (Int32.ofNat k)), .val (.ref b1), .unset, .unset, .unset] [(.ref b77)])) s₂ ∧ _
  refine own_go (A := T150.setTop (mkF m 746 #[.val (.int p1), .val (.int p2), .val (.int (Int32.ofNat k)), .val (.ref b1), .unset, .unset, .unset] [(.ref b77), (.ref b77)])) (fun t kt => XS.dup X150.here hx rfl (hb hby at_745) rfl rfl kt) ?_
  refine own_go (A := T150.setTop (mkF m 748 #[.val (.int p1), .val (.int p2), .val (.int (Int32.ofNat k)), .val (.ref b1), .unset, .unset, .unset] [(.int (73 : Int32)), (.ref b77), (.ref b77)])) (fun t kt => XS.bipush X150.here hx rfl (hb hby at_746) kt) ?_
  refine own_go (A := T150.setTop (mkF m 749 #[.val (.int p1), .val (.int p2), .val (.int (Int32.ofNat k)), .val (.ref b1), .unset, .unset, .unset] [(.int (2 : Int32)), (.int (73 : Int32)), (.ref b77), (.ref b77)])) (fun t kt => XS.iconst X150.here hx rfl (hb hby at_748) kt) ?_
  refine own_put X150 hx hZ e150 A150 (j := (73 : Int32)) (x := (2 : Int32)) 73 (by decide) (by decide) (by decide) N150 ga_b77 (g := (mkF m 749 #[.val (.int p1), .val (.int p2), .val (.int (Int32.ofNat k)), .val (.ref b1), .unset, .unset, .unset] [(.int (2 : Int32)), (.int (73 : Int32)), (.ref b77), (.ref b77)])) rfl rfl (hb hby at_749) (fun T151 h151 l151 X151 e151 A151 O151 Sz151 N151 => ?_)
  have sz151 : n0 ≤ h151.size := Nat.le_trans sz150 Sz151
  replace A76 := O151 _ _ _ ne_b1_b77 A76
  clear O151 Sz151 X150 e150 A150 N150 sz150
  show ∃ s₂ o, Steps p.tables e below (T151.setTop (mkF m 750 #[.val (.int p1), .val (.int p2), .val (.int (Int32.ofNat k)), .val (.ref b1), .unset, .unset, .unset] [(.ref b77)])) s₂ ∧ _
  refine own_go (A := T151.setTop (mkF m 751 #[.val (.int p1), .val (.int p2), .val (.int (Int32.ofNat k)), .val (.ref b1), .unset, .unset, .unset] [(.ref b77), (.ref b77)])) (fun t kt => XS.dup X151.here hx rfl (hb hby at_750) rfl rfl kt) ?_
  refine own_go (A := T151.setTop (mkF m 753 #[.val (.int p1), .val (.int p2), .val (.int (Int32.ofNat k)), .val (.ref b1), .unset, .unset, .unset] [(.int (74 : Int32)), (.ref b77), (.ref b77)])) (fun t kt => XS.bipush X151.here hx rfl (hb hby at_751) kt) ?_
  refine own_go (A := T151.setTop (mkF m 754 #[.val (.int p1), .val (.int p2), .val (.int (Int32.ofNat k)), .val (.ref b1), .unset, .unset, .unset] [(.int (1 : Int32)), (.int (74 : Int32)), (.ref b77), (.ref b77)])) (fun t kt => XS.iconst X151.here hx rfl (hb hby at_753) kt) ?_
  refine own_put X151 hx hZ e151 A151 (j := (74 : Int32)) (x := (1 : Int32)) 74 (by decide) (by decide) (by decide) N151 ga_b77 (g := (mkF m 754 #[.val (.int p1), .val (.int p2), .val (.int (Int32.ofNat k)), .val (.ref b1), .unset, .unset, .unset] [(.int (1 : Int32)), (.int (74 : Int32)), (.ref b77), (.ref b77)])) rfl rfl (hb hby at_754) (fun T152 h152 l152 X152 e152 A152 O152 Sz152 N152 => ?_)
  have sz152 : n0 ≤ h152.size := Nat.le_trans sz151 Sz152
  replace A76 := O152 _ _ _ ne_b1_b77 A76
  clear O152 Sz152 X151 e151 A151 N151 sz151
  show ∃ s₂ o, Steps p.tables e below (T152.setTop (mkF m 755 #[.val (.int p1), .val (.int p2), .val (.int (Int32.ofNat k)), .val (.ref b1), .unset, .unset, .unset] [(.ref b77)])) s₂ ∧ _
  refine own_go (A := T152.setTop (mkF m 757 #[.val (.int p1), .val (.int p2), .val (.int (Int32.ofNat k)), .val (.ref b1), .val (.ref b77), .unset, .unset] [])) (fun t kt => XS.astore X152.here hx rfl (hb hby at_755) rfl rfl (l' := #[.val (.int p1), .val (.int p2), .val (.int (Int32.ofNat k)), .val (.ref b1), .val (.ref b77), .unset, .unset]) rfl kt) ?_
  refine own_go (A := T152.setTop (mkF m 758 #[.val (.int p1), .val (.int p2), .val (.int (Int32.ofNat k)), .val (.ref b1), .val (.ref b77), .unset, .unset] [(.int (0 : Int32))])) (fun t kt => XS.iconst X152.here hx rfl (hb hby at_757) kt) ?_
  refine own_go (A := T152.setTop (mkF m 760 #[.val (.int p1), .val (.int p2), .val (.int (Int32.ofNat k)), .val (.ref b1), .val (.ref b77), .val (.int (0 : Int32)), .unset] [])) (fun t kt => XS.istore X152.here hx rfl (hb hby at_758) rfl (l' := #[.val (.int p1), .val (.int p2), .val (.int (Int32.ofNat k)), .val (.ref b1), .val (.ref b77), .val (.int (0 : Int32)), .unset]) rfl kt) ?_
  refine own_go (A := T152.setTop (mkF m 761 #[.val (.int p1), .val (.int p2), .val (.int (Int32.ofNat k)), .val (.ref b1), .val (.ref b77), .val (.int (0 : Int32)), .unset] [(.int (Int32.ofNat k))])) (fun t kt => XS.iloadN X152.here hx rfl (hb hby at_760) rfl kt) ?_
  refine own_go (A := T152.setTop (mkF m 763 #[.val (.int p1), .val (.int p2), .val (.int (Int32.ofNat k)), .val (.ref b1), .val (.ref b77), .val (.int (0 : Int32)), .unset] [(.int (38 : Int32)), (.int (Int32.ofNat k))])) (fun t kt => XS.bipush X152.here hx rfl (hb hby at_761) kt) ?_
  by_cases hc763 : (Int32.ofNat k) = (38 : Int32)
  · refine own_go (A := T152.setTop (mkF m 778 #[.val (.int p1), .val (.int p2), .val (.int (Int32.ofNat k)), .val (.ref b1), .val (.ref b77), .val (.int (0 : Int32)), .unset] [])) (fun t kt => XS.icmpYes X152.here hx rfl (pc0 := 763) (pc' := 778) rfl (hb hby at_763) rfl (teq hc763).1 (by decide) (by decide) kt) ?_
    refine own_go (A := T152.setTop (mkF m 779 #[.val (.int p1), .val (.int p2), .val (.int (Int32.ofNat k)), .val (.ref b1), .val (.ref b77), .val (.int (0 : Int32)), .unset] [(.int p2)])) (fun t kt => XS.iloadN X152.here hx rfl (hb hby at_778) rfl kt) ?_
    refine own_go (A := T152.setTop (mkF m 781 #[.val (.int p1), .val (.int p2), .val (.int (Int32.ofNat k)), .val (.ref b1), .val (.ref b77), .val (.int p2), .unset] [])) (fun t kt => XS.istore X152.here hx rfl (hb hby at_779) rfl (l' := #[.val (.int p1), .val (.int p2), .val (.int (Int32.ofNat k)), .val (.ref b1), .val (.ref b77), .val (.int p2), .unset]) rfl kt) ?_
    refine own_go (A := T152.setTop (mkF m 783 #[.val (.int p1), .val (.int p2), .val (.int (Int32.ofNat k)), .val (.ref b1), .val (.ref b77), .val (.int p2), .unset] [(.ref b77)])) (fun t kt => XS.aload X152.here hx rfl (hb hby at_781) rfl rfl kt) ?_
    refine own_go (A := T152.setTop (mkF m 784 #[.val (.int p1), .val (.int p2), .val (.int (Int32.ofNat k)), .val (.ref b1), .val (.ref b77), .val (.int p2), .unset] [(.int (Int32.ofNat k)), (.ref b77)])) (fun t kt => XS.iloadN X152.here hx rfl (hb hby at_783) rfl kt) ?_
    obtain ⟨y153, hy153, S2y153⟩ : ∃ y, y = own_pushes.getD k 0 ∧ ∀ target, Steps p.tables e below (T152.setTop (mkF m 785 #[.val (.int p1), .val (.int p2), .val (.int (Int32.ofNat k)), .val (.ref b1), .val (.ref b77), .val (.int p2), .unset] [(.int y)])) target → Steps p.tables e below (T152.setTop (mkF m 784 #[.val (.int p1), .val (.int p2), .val (.int (Int32.ofNat k)), .val (.ref b1), .val (.ref b77), .val (.int p2), .unset] [(.int (Int32.ofNat k)), (.ref b77)])) target := ⟨_, own_75 (by decide +kernel) hk, own_get X152 hx hZ e152 A152 k (own_kn hk) (own_k0 hk) hk (g := (mkF m 784 #[.val (.int p1), .val (.int p2), .val (.int (Int32.ofNat k)), .val (.ref b1), .val (.ref b77), .val (.int p2), .unset] [(.int (Int32.ofNat k)), (.ref b77)])) rfl rfl (hb hby at_784)⟩
    refine own_go S2y153 ?_
    refine own_go (A := T152.setTop (mkF m 786 #[.val (.int p1), .val (.int p2), .val (.int (Int32.ofNat k)), .val (.ref b1), .val (.ref b77), .val (.int p2), .unset] [(.ref b1), (.int y153)])) (fun t kt => XS.aloadN X152.here hx rfl (hb hby at_785) rfl rfl kt) ?_
    refine own_go (A := T152.setTop (mkF m 787 #[.val (.int p1), .val (.int p2), .val (.int (Int32.ofNat k)), .val (.ref b1), .val (.ref b77), .val (.int p2), .unset] [(.int (Int32.ofNat k)), (.ref b1), (.int y153)])) (fun t kt => XS.iloadN X152.here hx rfl (hb hby at_786) rfl kt) ?_
    obtain ⟨y154, hy154, S2y154⟩ : ∃ y, y = own_pops.getD k 0 ∧ ∀ target, Steps p.tables e below (T152.setTop (mkF m 788 #[.val (.int p1), .val (.int p2), .val (.int (Int32.ofNat k)), .val (.ref b1), .val (.ref b77), .val (.int p2), .unset] [(.int y), (.int y153)])) target → Steps p.tables e below (T152.setTop (mkF m 787 #[.val (.int p1), .val (.int p2), .val (.int (Int32.ofNat k)), .val (.ref b1), .val (.ref b77), .val (.int p2), .unset] [(.int (Int32.ofNat k)), (.ref b1), (.int y153)])) target := ⟨_, own_75 (by decide +kernel) hk, own_get X152 hx hZ e152 A76 k (own_kn hk) (own_k0 hk) hk (g := (mkF m 787 #[.val (.int p1), .val (.int p2), .val (.int (Int32.ofNat k)), .val (.ref b1), .val (.ref b77), .val (.int p2), .unset] [(.int (Int32.ofNat k)), (.ref b1), (.int y153)])) rfl rfl (hb hby at_787)⟩
    refine own_go S2y154 ?_
    refine own_go (A := T152.setTop (mkF m 789 #[.val (.int p1), .val (.int p2), .val (.int (Int32.ofNat k)), .val (.ref b1), .val (.ref b77), .val (.int p2), .unset] [(.int (y153 - y154))])) (fun t kt => XS.isub X152.here hx rfl (hb hby at_788) rfl kt) ?_
    refine own_go (A := T152.setTop (mkF m 791 #[.val (.int p1), .val (.int p2), .val (.int (Int32.ofNat k)), .val (.ref b1), .val (.ref b77), .val (.int p2), .unset] [(.int p2), (.int (y153 - y154))])) (fun t kt => XS.iload X152.here hx rfl (hb hby at_789) rfl kt) ?_
    refine own_go (A := T152.setTop (mkF m 792 #[.val (.int p1), .val (.int p2), .val (.int (Int32.ofNat k)), .val (.ref b1), .val (.ref b77), .val (.int p2), .unset] [(.int ((y153 - y154) - p2))])) (fun t kt => XS.isub X152.here hx rfl (hb hby at_791) rfl kt) ?_
    refine own_go (A := T152.setTop (mkF m 794 #[.val (.int p1), .val (.int p2), .val (.int (Int32.ofNat k)), .val (.ref b1), .val (.ref b77), .val (.int p2), .val (.int ((y153 - y154) - p2))] [])) (fun t kt => XS.istore X152.here hx rfl (hb hby at_792) rfl (l' := #[.val (.int p1), .val (.int p2), .val (.int (Int32.ofNat k)), .val (.ref b1), .val (.ref b77), .val (.int p2), .val (.int ((y153 - y154) - p2))]) rfl kt) ?_
    refine own_go (A := T152.setTop (mkF m 795 #[.val (.int p1), .val (.int p2), .val (.int (Int32.ofNat k)), .val (.ref b1), .val (.ref b77), .val (.int p2), .val (.int ((y153 - y154) - p2))] [(.int (Int32.ofNat k))])) (fun t kt => XS.iloadN X152.here hx rfl (hb hby at_794) rfl kt) ?_
    refine own_go (A := T152.setTop (mkF m 796 #[.val (.int p1), .val (.int p2), .val (.int (Int32.ofNat k)), .val (.ref b1), .val (.ref b77), .val (.int p2), .val (.int ((y153 - y154) - p2))] [(.int p2), (.int (Int32.ofNat k))])) (fun t kt => XS.iloadN X152.here hx rfl (hb hby at_795) rfl kt) ?_
    obtain ⟨_, _, ⟨T155, L155, k155, n155⟩, -, X155, ⟨Lc155, hQ155, l155, y155, z155⟩, st155⟩ := Jvm.LawKit.callS X152 hx (y := (⟨"com/example/kelpie/kelpie/engine/Code", "stackEffect", "(II)I"⟩ : MethodName)) hown (mvT hZ (hw _ (List.mem_of_getElem? (i := 2) rfl))) (mvT hZ (hw _ (List.mem_of_getElem? (i := 3) rfl))) (mvT hZ (hw _ (List.mem_of_getElem? (i := 4) rfl))) (mvT hZ (hw _ (List.mem_of_getElem? (i := 5) rfl))) (by decide) (backOf (W := 0) (rm1 l Z a0 hw [] (Int32.ofNat k) p2 k h152 n0 sz152 hk rfl) hZ (hw _ (List.mem_of_getElem? (i := 5) rfl)) (hw _ (List.mem_of_getElem? (i := 4) rfl)) (by decide) (by decide)) (g := (mkF m 796 #[.val (.int p1), .val (.int p2), .val (.int (Int32.ofNat k)), .val (.ref b1), .val (.ref b77), .val (.int p2), .val (.int ((y153 - y154) - p2))] [(.int p2), (.int (Int32.ofNat k))])) rfl (by rw [hml]; rfl) (argsL := [(.int (Int32.ofNat k)), (.int p2)]) (rest := []) (lenOf pd_1 rfl) rfl (by show 2 * 0 + _ ≤ _; exact Nat.le_of_eq rfl) (hb hby at_796) (fun _ _ => ⟨rfl, e152, (by decide : 2 + 0 ≤ _), (by decide : 150 + 0 ≤ _)⟩)
    dsimp only [Pt.U, Pt.locs, Pt.cells, Pt.slots] at X155 l155 y155 z155 st155 hQ155
    subst l155 y155 z155
    obtain ⟨rfl, N155q, g155⟩ := hQ155
    have N155 := Fr.app N152 N155q
    refine own_go (A := T155.setTop (mkF m 799 #[.val (.int p1), .val (.int p2), .val (.int (Int32.ofNat k)), .val (.ref b1), .val (.ref b77), .val (.int p2), .val (.int ((y153 - y154) - p2))] [(.int (own_eff k p2))])) st155 ?_
    refine own_go (A := T155.setTop (mkF m 801 #[.val (.int p1), .val (.int p2), .val (.int (Int32.ofNat k)), .val (.ref b1), .val (.ref b77), .val (.int p2), .val (.int ((y153 - y154) - p2))] [(.int ((y153 - y154) - p2)), (.int (own_eff k p2))])) (fun t kt => XS.iload X155.here hx rfl (hb hby at_799) rfl kt) ?_
    have hfin : (own_eff k p2) = ((y153 - y154) - p2) := by
      rw [hy153, hy154]
      exact own_s38 hk hc763
    refine own_go (A := T155.setTop (mkF m 804 #[.val (.int p1), .val (.int p2), .val (.int (Int32.ofNat k)), .val (.ref b1), .val (.ref b77), .val (.int p2), .val (.int ((y153 - y154) - p2))] [])) (fun t kt => XS.icmpNo X155.here hx rfl (hb hby at_801) rfl (teq (hfin : (own_eff k p2) = ((y153 - y154) - p2))).2 kt) ?_
    refine own_go (A := T155.setTop (mkF m 805 #[.val (.int p1), .val (.int p2), .val (.int (Int32.ofNat k)), .val (.ref b1), .val (.ref b77), .val (.int p2), .val (.int ((y153 - y154) - p2))] [(.int (1 : Int32))])) (fun t kt => XS.iconst X155.here hx rfl (hb hby at_804) kt) ?_
    refine own_go (A := T155.setTop (mkF m 809 #[.val (.int p1), .val (.int p2), .val (.int (Int32.ofNat k)), .val (.ref b1), .val (.ref b77), .val (.int p2), .val (.int ((y153 - y154) - p2))] [(.int (1 : Int32))])) (fun t kt => XS.goto X155.here hx rfl (pc0 := 805) (pc' := 809) rfl (hb hby at_805) (by decide) (by decide) kt) ?_
    obtain ⟨fs, hr, hrun, hended, hW, hsame⟩ := X155.leave (v := some (.int (1 : Int32))) (fun h => by rw [Bd.returns] at h; cases h)
    exact ⟨_, _, retN X155 hx (t := .boolean) Bd.returns (by simp) (hb hby at_809) hr, hrun, hended, _, _, rfl, ⟨rfl, N155⟩, ⟨_, rfl⟩, hW, hsame.mono (by decide) (by decide)⟩
  · refine own_go (A := T152.setTop (mkF m 766 #[.val (.int p1), .val (.int p2), .val (.int (Int32.ofNat k)), .val (.ref b1), .val (.ref b77), .val (.int (0 : Int32)), .unset] [])) (fun t kt => XS.icmpNo X152.here hx rfl (hb hby at_763) rfl (feq hc763).1 kt) ?_
    refine own_go (A := T152.setTop (mkF m 767 #[.val (.int p1), .val (.int p2), .val (.int (Int32.ofNat k)), .val (.ref b1), .val (.ref b77), .val (.int (0 : Int32)), .unset] [(.int (Int32.ofNat k))])) (fun t kt => XS.iloadN X152.here hx rfl (hb hby at_766) rfl kt) ?_
    refine own_go (A := T152.setTop (mkF m 769 #[.val (.int p1), .val (.int p2), .val (.int (Int32.ofNat k)), .val (.ref b1), .val (.ref b77), .val (.int (0 : Int32)), .unset] [(.int (53 : Int32)), (.int (Int32.ofNat k))])) (fun t kt => XS.bipush X152.here hx rfl (hb hby at_767) kt) ?_
    by_cases hc769 : (Int32.ofNat k) = (53 : Int32)
    · refine own_go (A := T152.setTop (mkF m 778 #[.val (.int p1), .val (.int p2), .val (.int (Int32.ofNat k)), .val (.ref b1), .val (.ref b77), .val (.int (0 : Int32)), .unset] [])) (fun t kt => XS.icmpYes X152.here hx rfl (pc0 := 769) (pc' := 778) rfl (hb hby at_769) rfl (teq hc769).1 (by decide) (by decide) kt) ?_
      refine own_go (A := T152.setTop (mkF m 779 #[.val (.int p1), .val (.int p2), .val (.int (Int32.ofNat k)), .val (.ref b1), .val (.ref b77), .val (.int (0 : Int32)), .unset] [(.int p2)])) (fun t kt => XS.iloadN X152.here hx rfl (hb hby at_778) rfl kt) ?_
      refine own_go (A := T152.setTop (mkF m 781 #[.val (.int p1), .val (.int p2), .val (.int (Int32.ofNat k)), .val (.ref b1), .val (.ref b77), .val (.int p2), .unset] [])) (fun t kt => XS.istore X152.here hx rfl (hb hby at_779) rfl (l' := #[.val (.int p1), .val (.int p2), .val (.int (Int32.ofNat k)), .val (.ref b1), .val (.ref b77), .val (.int p2), .unset]) rfl kt) ?_
      refine own_go (A := T152.setTop (mkF m 783 #[.val (.int p1), .val (.int p2), .val (.int (Int32.ofNat k)), .val (.ref b1), .val (.ref b77), .val (.int p2), .unset] [(.ref b77)])) (fun t kt => XS.aload X152.here hx rfl (hb hby at_781) rfl rfl kt) ?_
      refine own_go (A := T152.setTop (mkF m 784 #[.val (.int p1), .val (.int p2), .val (.int (Int32.ofNat k)), .val (.ref b1), .val (.ref b77), .val (.int p2), .unset] [(.int (Int32.ofNat k)), (.ref b77)])) (fun t kt => XS.iloadN X152.here hx rfl (hb hby at_783) rfl kt) ?_
      obtain ⟨y156, hy156, S2y156⟩ : ∃ y, y = own_pushes.getD k 0 ∧ ∀ target, Steps p.tables e below (T152.setTop (mkF m 785 #[.val (.int p1), .val (.int p2), .val (.int (Int32.ofNat k)), .val (.ref b1), .val (.ref b77), .val (.int p2), .unset] [(.int y)])) target → Steps p.tables e below (T152.setTop (mkF m 784 #[.val (.int p1), .val (.int p2), .val (.int (Int32.ofNat k)), .val (.ref b1), .val (.ref b77), .val (.int p2), .unset] [(.int (Int32.ofNat k)), (.ref b77)])) target := ⟨_, own_75 (by decide +kernel) hk, own_get X152 hx hZ e152 A152 k (own_kn hk) (own_k0 hk) hk (g := (mkF m 784 #[.val (.int p1), .val (.int p2), .val (.int (Int32.ofNat k)), .val (.ref b1), .val (.ref b77), .val (.int p2), .unset] [(.int (Int32.ofNat k)), (.ref b77)])) rfl rfl (hb hby at_784)⟩
      refine own_go S2y156 ?_
      refine own_go (A := T152.setTop (mkF m 786 #[.val (.int p1), .val (.int p2), .val (.int (Int32.ofNat k)), .val (.ref b1), .val (.ref b77), .val (.int p2), .unset] [(.ref b1), (.int y156)])) (fun t kt => XS.aloadN X152.here hx rfl (hb hby at_785) rfl rfl kt) ?_
      refine own_go (A := T152.setTop (mkF m 787 #[.val (.int p1), .val (.int p2), .val (.int (Int32.ofNat k)), .val (.ref b1), .val (.ref b77), .val (.int p2), .unset] [(.int (Int32.ofNat k)), (.ref b1), (.int y156)])) (fun t kt => XS.iloadN X152.here hx rfl (hb hby at_786) rfl kt) ?_
      obtain ⟨y157, hy157, S2y157⟩ : ∃ y, y = own_pops.getD k 0 ∧ ∀ target, Steps p.tables e below (T152.setTop (mkF m 788 #[.val (.int p1), .val (.int p2), .val (.int (Int32.ofNat k)), .val (.ref b1), .val (.ref b77), .val (.int p2), .unset] [(.int y), (.int y156)])) target → Steps p.tables e below (T152.setTop (mkF m 787 #[.val (.int p1), .val (.int p2), .val (.int (Int32.ofNat k)), .val (.ref b1), .val (.ref b77), .val (.int p2), .unset] [(.int (Int32.ofNat k)), (.ref b1), (.int y156)])) target := ⟨_, own_75 (by decide +kernel) hk, own_get X152 hx hZ e152 A76 k (own_kn hk) (own_k0 hk) hk (g := (mkF m 787 #[.val (.int p1), .val (.int p2), .val (.int (Int32.ofNat k)), .val (.ref b1), .val (.ref b77), .val (.int p2), .unset] [(.int (Int32.ofNat k)), (.ref b1), (.int y156)])) rfl rfl (hb hby at_787)⟩
      refine own_go S2y157 ?_
      refine own_go (A := T152.setTop (mkF m 789 #[.val (.int p1), .val (.int p2), .val (.int (Int32.ofNat k)), .val (.ref b1), .val (.ref b77), .val (.int p2), .unset] [(.int (y156 - y157))])) (fun t kt => XS.isub X152.here hx rfl (hb hby at_788) rfl kt) ?_
      refine own_go (A := T152.setTop (mkF m 791 #[.val (.int p1), .val (.int p2), .val (.int (Int32.ofNat k)), .val (.ref b1), .val (.ref b77), .val (.int p2), .unset] [(.int p2), (.int (y156 - y157))])) (fun t kt => XS.iload X152.here hx rfl (hb hby at_789) rfl kt) ?_
      refine own_go (A := T152.setTop (mkF m 792 #[.val (.int p1), .val (.int p2), .val (.int (Int32.ofNat k)), .val (.ref b1), .val (.ref b77), .val (.int p2), .unset] [(.int ((y156 - y157) - p2))])) (fun t kt => XS.isub X152.here hx rfl (hb hby at_791) rfl kt) ?_
      refine own_go (A := T152.setTop (mkF m 794 #[.val (.int p1), .val (.int p2), .val (.int (Int32.ofNat k)), .val (.ref b1), .val (.ref b77), .val (.int p2), .val (.int ((y156 - y157) - p2))] [])) (fun t kt => XS.istore X152.here hx rfl (hb hby at_792) rfl (l' := #[.val (.int p1), .val (.int p2), .val (.int (Int32.ofNat k)), .val (.ref b1), .val (.ref b77), .val (.int p2), .val (.int ((y156 - y157) - p2))]) rfl kt) ?_
      refine own_go (A := T152.setTop (mkF m 795 #[.val (.int p1), .val (.int p2), .val (.int (Int32.ofNat k)), .val (.ref b1), .val (.ref b77), .val (.int p2), .val (.int ((y156 - y157) - p2))] [(.int (Int32.ofNat k))])) (fun t kt => XS.iloadN X152.here hx rfl (hb hby at_794) rfl kt) ?_
      refine own_go (A := T152.setTop (mkF m 796 #[.val (.int p1), .val (.int p2), .val (.int (Int32.ofNat k)), .val (.ref b1), .val (.ref b77), .val (.int p2), .val (.int ((y156 - y157) - p2))] [(.int p2), (.int (Int32.ofNat k))])) (fun t kt => XS.iloadN X152.here hx rfl (hb hby at_795) rfl kt) ?_
      obtain ⟨_, _, ⟨T158, L158, k158, n158⟩, -, X158, ⟨Lc158, hQ158, l158, y158, z158⟩, st158⟩ := Jvm.LawKit.callS X152 hx (y := (⟨"com/example/kelpie/kelpie/engine/Code", "stackEffect", "(II)I"⟩ : MethodName)) hown (mvT hZ (hw _ (List.mem_of_getElem? (i := 2) rfl))) (mvT hZ (hw _ (List.mem_of_getElem? (i := 3) rfl))) (mvT hZ (hw _ (List.mem_of_getElem? (i := 4) rfl))) (mvT hZ (hw _ (List.mem_of_getElem? (i := 5) rfl))) (by decide) (backOf (W := 0) (rm1 l Z a0 hw [] (Int32.ofNat k) p2 k h152 n0 sz152 hk rfl) hZ (hw _ (List.mem_of_getElem? (i := 5) rfl)) (hw _ (List.mem_of_getElem? (i := 4) rfl)) (by decide) (by decide)) (g := (mkF m 796 #[.val (.int p1), .val (.int p2), .val (.int (Int32.ofNat k)), .val (.ref b1), .val (.ref b77), .val (.int p2), .val (.int ((y156 - y157) - p2))] [(.int p2), (.int (Int32.ofNat k))])) rfl (by rw [hml]; rfl) (argsL := [(.int (Int32.ofNat k)), (.int p2)]) (rest := []) (lenOf pd_1 rfl) rfl (by show 2 * 0 + _ ≤ _; exact Nat.le_of_eq rfl) (hb hby at_796) (fun _ _ => ⟨rfl, e152, (by decide : 2 + 0 ≤ _), (by decide : 150 + 0 ≤ _)⟩)
      dsimp only [Pt.U, Pt.locs, Pt.cells, Pt.slots] at X158 l158 y158 z158 st158 hQ158
      subst l158 y158 z158
      obtain ⟨rfl, N158q, g158⟩ := hQ158
      have N158 := Fr.app N152 N158q
      refine own_go (A := T158.setTop (mkF m 799 #[.val (.int p1), .val (.int p2), .val (.int (Int32.ofNat k)), .val (.ref b1), .val (.ref b77), .val (.int p2), .val (.int ((y156 - y157) - p2))] [(.int (own_eff k p2))])) st158 ?_
      refine own_go (A := T158.setTop (mkF m 801 #[.val (.int p1), .val (.int p2), .val (.int (Int32.ofNat k)), .val (.ref b1), .val (.ref b77), .val (.int p2), .val (.int ((y156 - y157) - p2))] [(.int ((y156 - y157) - p2)), (.int (own_eff k p2))])) (fun t kt => XS.iload X158.here hx rfl (hb hby at_799) rfl kt) ?_
      have hfin : (own_eff k p2) = ((y156 - y157) - p2) := by
        rw [hy156, hy157]
        exact own_s53 hk hc769
      refine own_go (A := T158.setTop (mkF m 804 #[.val (.int p1), .val (.int p2), .val (.int (Int32.ofNat k)), .val (.ref b1), .val (.ref b77), .val (.int p2), .val (.int ((y156 - y157) - p2))] [])) (fun t kt => XS.icmpNo X158.here hx rfl (hb hby at_801) rfl (teq (hfin : (own_eff k p2) = ((y156 - y157) - p2))).2 kt) ?_
      refine own_go (A := T158.setTop (mkF m 805 #[.val (.int p1), .val (.int p2), .val (.int (Int32.ofNat k)), .val (.ref b1), .val (.ref b77), .val (.int p2), .val (.int ((y156 - y157) - p2))] [(.int (1 : Int32))])) (fun t kt => XS.iconst X158.here hx rfl (hb hby at_804) kt) ?_
      refine own_go (A := T158.setTop (mkF m 809 #[.val (.int p1), .val (.int p2), .val (.int (Int32.ofNat k)), .val (.ref b1), .val (.ref b77), .val (.int p2), .val (.int ((y156 - y157) - p2))] [(.int (1 : Int32))])) (fun t kt => XS.goto X158.here hx rfl (pc0 := 805) (pc' := 809) rfl (hb hby at_805) (by decide) (by decide) kt) ?_
      obtain ⟨fs, hr, hrun, hended, hW, hsame⟩ := X158.leave (v := some (.int (1 : Int32))) (fun h => by rw [Bd.returns] at h; cases h)
      exact ⟨_, _, retN X158 hx (t := .boolean) Bd.returns (by simp) (hb hby at_809) hr, hrun, hended, _, _, rfl, ⟨rfl, N158⟩, ⟨_, rfl⟩, hW, hsame.mono (by decide) (by decide)⟩
    · refine own_go (A := T152.setTop (mkF m 772 #[.val (.int p1), .val (.int p2), .val (.int (Int32.ofNat k)), .val (.ref b1), .val (.ref b77), .val (.int (0 : Int32)), .unset] [])) (fun t kt => XS.icmpNo X152.here hx rfl (hb hby at_769) rfl (feq hc769).1 kt) ?_
      refine own_go (A := T152.setTop (mkF m 773 #[.val (.int p1), .val (.int p2), .val (.int (Int32.ofNat k)), .val (.ref b1), .val (.ref b77), .val (.int (0 : Int32)), .unset] [(.int (Int32.ofNat k))])) (fun t kt => XS.iloadN X152.here hx rfl (hb hby at_772) rfl kt) ?_
      refine own_go (A := T152.setTop (mkF m 775 #[.val (.int p1), .val (.int p2), .val (.int (Int32.ofNat k)), .val (.ref b1), .val (.ref b77), .val (.int (0 : Int32)), .unset] [(.int (59 : Int32)), (.int (Int32.ofNat k))])) (fun t kt => XS.bipush X152.here hx rfl (hb hby at_773) kt) ?_
      by_cases hc775 : (Int32.ofNat k) = (59 : Int32)
      · refine own_go (A := T152.setTop (mkF m 778 #[.val (.int p1), .val (.int p2), .val (.int (Int32.ofNat k)), .val (.ref b1), .val (.ref b77), .val (.int (0 : Int32)), .unset] [])) (fun t kt => XS.icmpNo X152.here hx rfl (hb hby at_775) rfl (teq hc775).2 kt) ?_
        refine own_go (A := T152.setTop (mkF m 779 #[.val (.int p1), .val (.int p2), .val (.int (Int32.ofNat k)), .val (.ref b1), .val (.ref b77), .val (.int (0 : Int32)), .unset] [(.int p2)])) (fun t kt => XS.iloadN X152.here hx rfl (hb hby at_778) rfl kt) ?_
        refine own_go (A := T152.setTop (mkF m 781 #[.val (.int p1), .val (.int p2), .val (.int (Int32.ofNat k)), .val (.ref b1), .val (.ref b77), .val (.int p2), .unset] [])) (fun t kt => XS.istore X152.here hx rfl (hb hby at_779) rfl (l' := #[.val (.int p1), .val (.int p2), .val (.int (Int32.ofNat k)), .val (.ref b1), .val (.ref b77), .val (.int p2), .unset]) rfl kt) ?_
        refine own_go (A := T152.setTop (mkF m 783 #[.val (.int p1), .val (.int p2), .val (.int (Int32.ofNat k)), .val (.ref b1), .val (.ref b77), .val (.int p2), .unset] [(.ref b77)])) (fun t kt => XS.aload X152.here hx rfl (hb hby at_781) rfl rfl kt) ?_
        refine own_go (A := T152.setTop (mkF m 784 #[.val (.int p1), .val (.int p2), .val (.int (Int32.ofNat k)), .val (.ref b1), .val (.ref b77), .val (.int p2), .unset] [(.int (Int32.ofNat k)), (.ref b77)])) (fun t kt => XS.iloadN X152.here hx rfl (hb hby at_783) rfl kt) ?_
        obtain ⟨y159, hy159, S2y159⟩ : ∃ y, y = own_pushes.getD k 0 ∧ ∀ target, Steps p.tables e below (T152.setTop (mkF m 785 #[.val (.int p1), .val (.int p2), .val (.int (Int32.ofNat k)), .val (.ref b1), .val (.ref b77), .val (.int p2), .unset] [(.int y)])) target → Steps p.tables e below (T152.setTop (mkF m 784 #[.val (.int p1), .val (.int p2), .val (.int (Int32.ofNat k)), .val (.ref b1), .val (.ref b77), .val (.int p2), .unset] [(.int (Int32.ofNat k)), (.ref b77)])) target := ⟨_, own_75 (by decide +kernel) hk, own_get X152 hx hZ e152 A152 k (own_kn hk) (own_k0 hk) hk (g := (mkF m 784 #[.val (.int p1), .val (.int p2), .val (.int (Int32.ofNat k)), .val (.ref b1), .val (.ref b77), .val (.int p2), .unset] [(.int (Int32.ofNat k)), (.ref b77)])) rfl rfl (hb hby at_784)⟩
        refine own_go S2y159 ?_
        refine own_go (A := T152.setTop (mkF m 786 #[.val (.int p1), .val (.int p2), .val (.int (Int32.ofNat k)), .val (.ref b1), .val (.ref b77), .val (.int p2), .unset] [(.ref b1), (.int y159)])) (fun t kt => XS.aloadN X152.here hx rfl (hb hby at_785) rfl rfl kt) ?_
        refine own_go (A := T152.setTop (mkF m 787 #[.val (.int p1), .val (.int p2), .val (.int (Int32.ofNat k)), .val (.ref b1), .val (.ref b77), .val (.int p2), .unset] [(.int (Int32.ofNat k)), (.ref b1), (.int y159)])) (fun t kt => XS.iloadN X152.here hx rfl (hb hby at_786) rfl kt) ?_
        obtain ⟨y160, hy160, S2y160⟩ : ∃ y, y = own_pops.getD k 0 ∧ ∀ target, Steps p.tables e below (T152.setTop (mkF m 788 #[.val (.int p1), .val (.int p2), .val (.int (Int32.ofNat k)), .val (.ref b1), .val (.ref b77), .val (.int p2), .unset] [(.int y), (.int y159)])) target → Steps p.tables e below (T152.setTop (mkF m 787 #[.val (.int p1), .val (.int p2), .val (.int (Int32.ofNat k)), .val (.ref b1), .val (.ref b77), .val (.int p2), .unset] [(.int (Int32.ofNat k)), (.ref b1), (.int y159)])) target := ⟨_, own_75 (by decide +kernel) hk, own_get X152 hx hZ e152 A76 k (own_kn hk) (own_k0 hk) hk (g := (mkF m 787 #[.val (.int p1), .val (.int p2), .val (.int (Int32.ofNat k)), .val (.ref b1), .val (.ref b77), .val (.int p2), .unset] [(.int (Int32.ofNat k)), (.ref b1), (.int y159)])) rfl rfl (hb hby at_787)⟩
        refine own_go S2y160 ?_
        refine own_go (A := T152.setTop (mkF m 789 #[.val (.int p1), .val (.int p2), .val (.int (Int32.ofNat k)), .val (.ref b1), .val (.ref b77), .val (.int p2), .unset] [(.int (y159 - y160))])) (fun t kt => XS.isub X152.here hx rfl (hb hby at_788) rfl kt) ?_
        refine own_go (A := T152.setTop (mkF m 791 #[.val (.int p1), .val (.int p2), .val (.int (Int32.ofNat k)), .val (.ref b1), .val (.ref b77), .val (.int p2), .unset] [(.int p2), (.int (y159 - y160))])) (fun t kt => XS.iload X152.here hx rfl (hb hby at_789) rfl kt) ?_
        refine own_go (A := T152.setTop (mkF m 792 #[.val (.int p1), .val (.int p2), .val (.int (Int32.ofNat k)), .val (.ref b1), .val (.ref b77), .val (.int p2), .unset] [(.int ((y159 - y160) - p2))])) (fun t kt => XS.isub X152.here hx rfl (hb hby at_791) rfl kt) ?_
        refine own_go (A := T152.setTop (mkF m 794 #[.val (.int p1), .val (.int p2), .val (.int (Int32.ofNat k)), .val (.ref b1), .val (.ref b77), .val (.int p2), .val (.int ((y159 - y160) - p2))] [])) (fun t kt => XS.istore X152.here hx rfl (hb hby at_792) rfl (l' := #[.val (.int p1), .val (.int p2), .val (.int (Int32.ofNat k)), .val (.ref b1), .val (.ref b77), .val (.int p2), .val (.int ((y159 - y160) - p2))]) rfl kt) ?_
        refine own_go (A := T152.setTop (mkF m 795 #[.val (.int p1), .val (.int p2), .val (.int (Int32.ofNat k)), .val (.ref b1), .val (.ref b77), .val (.int p2), .val (.int ((y159 - y160) - p2))] [(.int (Int32.ofNat k))])) (fun t kt => XS.iloadN X152.here hx rfl (hb hby at_794) rfl kt) ?_
        refine own_go (A := T152.setTop (mkF m 796 #[.val (.int p1), .val (.int p2), .val (.int (Int32.ofNat k)), .val (.ref b1), .val (.ref b77), .val (.int p2), .val (.int ((y159 - y160) - p2))] [(.int p2), (.int (Int32.ofNat k))])) (fun t kt => XS.iloadN X152.here hx rfl (hb hby at_795) rfl kt) ?_
        obtain ⟨_, _, ⟨T161, L161, k161, n161⟩, -, X161, ⟨Lc161, hQ161, l161, y161, z161⟩, st161⟩ := Jvm.LawKit.callS X152 hx (y := (⟨"com/example/kelpie/kelpie/engine/Code", "stackEffect", "(II)I"⟩ : MethodName)) hown (mvT hZ (hw _ (List.mem_of_getElem? (i := 2) rfl))) (mvT hZ (hw _ (List.mem_of_getElem? (i := 3) rfl))) (mvT hZ (hw _ (List.mem_of_getElem? (i := 4) rfl))) (mvT hZ (hw _ (List.mem_of_getElem? (i := 5) rfl))) (by decide) (backOf (W := 0) (rm1 l Z a0 hw [] (Int32.ofNat k) p2 k h152 n0 sz152 hk rfl) hZ (hw _ (List.mem_of_getElem? (i := 5) rfl)) (hw _ (List.mem_of_getElem? (i := 4) rfl)) (by decide) (by decide)) (g := (mkF m 796 #[.val (.int p1), .val (.int p2), .val (.int (Int32.ofNat k)), .val (.ref b1), .val (.ref b77), .val (.int p2), .val (.int ((y159 - y160) - p2))] [(.int p2), (.int (Int32.ofNat k))])) rfl (by rw [hml]; rfl) (argsL := [(.int (Int32.ofNat k)), (.int p2)]) (rest := []) (lenOf pd_1 rfl) rfl (by show 2 * 0 + _ ≤ _; exact Nat.le_of_eq rfl) (hb hby at_796) (fun _ _ => ⟨rfl, e152, (by decide : 2 + 0 ≤ _), (by decide : 150 + 0 ≤ _)⟩)
        dsimp only [Pt.U, Pt.locs, Pt.cells, Pt.slots] at X161 l161 y161 z161 st161 hQ161
        subst l161 y161 z161
        obtain ⟨rfl, N161q, g161⟩ := hQ161
        have N161 := Fr.app N152 N161q
        refine own_go (A := T161.setTop (mkF m 799 #[.val (.int p1), .val (.int p2), .val (.int (Int32.ofNat k)), .val (.ref b1), .val (.ref b77), .val (.int p2), .val (.int ((y159 - y160) - p2))] [(.int (own_eff k p2))])) st161 ?_
        refine own_go (A := T161.setTop (mkF m 801 #[.val (.int p1), .val (.int p2), .val (.int (Int32.ofNat k)), .val (.ref b1), .val (.ref b77), .val (.int p2), .val (.int ((y159 - y160) - p2))] [(.int ((y159 - y160) - p2)), (.int (own_eff k p2))])) (fun t kt => XS.iload X161.here hx rfl (hb hby at_799) rfl kt) ?_
        have hfin : (own_eff k p2) = ((y159 - y160) - p2) := by
          rw [hy159, hy160]
          exact own_s59 hk hc775
        refine own_go (A := T161.setTop (mkF m 804 #[.val (.int p1), .val (.int p2), .val (.int (Int32.ofNat k)), .val (.ref b1), .val (.ref b77), .val (.int p2), .val (.int ((y159 - y160) - p2))] [])) (fun t kt => XS.icmpNo X161.here hx rfl (hb hby at_801) rfl (teq (hfin : (own_eff k p2) = ((y159 - y160) - p2))).2 kt) ?_
        refine own_go (A := T161.setTop (mkF m 805 #[.val (.int p1), .val (.int p2), .val (.int (Int32.ofNat k)), .val (.ref b1), .val (.ref b77), .val (.int p2), .val (.int ((y159 - y160) - p2))] [(.int (1 : Int32))])) (fun t kt => XS.iconst X161.here hx rfl (hb hby at_804) kt) ?_
        refine own_go (A := T161.setTop (mkF m 809 #[.val (.int p1), .val (.int p2), .val (.int (Int32.ofNat k)), .val (.ref b1), .val (.ref b77), .val (.int p2), .val (.int ((y159 - y160) - p2))] [(.int (1 : Int32))])) (fun t kt => XS.goto X161.here hx rfl (pc0 := 805) (pc' := 809) rfl (hb hby at_805) (by decide) (by decide) kt) ?_
        obtain ⟨fs, hr, hrun, hended, hW, hsame⟩ := X161.leave (v := some (.int (1 : Int32))) (fun h => by rw [Bd.returns] at h; cases h)
        exact ⟨_, _, retN X161 hx (t := .boolean) Bd.returns (by simp) (hb hby at_809) hr, hrun, hended, _, _, rfl, ⟨rfl, N161⟩, ⟨_, rfl⟩, hW, hsame.mono (by decide) (by decide)⟩
      · refine own_go (A := T152.setTop (mkF m 781 #[.val (.int p1), .val (.int p2), .val (.int (Int32.ofNat k)), .val (.ref b1), .val (.ref b77), .val (.int (0 : Int32)), .unset] [])) (fun t kt => XS.icmpYes X152.here hx rfl (pc0 := 775) (pc' := 781) rfl (hb hby at_775) rfl (feq hc775).2 (by decide) (by decide) kt) ?_
        refine own_go (A := T152.setTop (mkF m 783 #[.val (.int p1), .val (.int p2), .val (.int (Int32.ofNat k)), .val (.ref b1), .val (.ref b77), .val (.int (0 : Int32)), .unset] [(.ref b77)])) (fun t kt => XS.aload X152.here hx rfl (hb hby at_781) rfl rfl kt) ?_
        refine own_go (A := T152.setTop (mkF m 784 #[.val (.int p1), .val (.int p2), .val (.int (Int32.ofNat k)), .val (.ref b1), .val (.ref b77), .val (.int (0 : Int32)), .unset] [(.int (Int32.ofNat k)), (.ref b77)])) (fun t kt => XS.iloadN X152.here hx rfl (hb hby at_783) rfl kt) ?_
        obtain ⟨y162, hy162, S2y162⟩ : ∃ y, y = own_pushes.getD k 0 ∧ ∀ target, Steps p.tables e below (T152.setTop (mkF m 785 #[.val (.int p1), .val (.int p2), .val (.int (Int32.ofNat k)), .val (.ref b1), .val (.ref b77), .val (.int (0 : Int32)), .unset] [(.int y)])) target → Steps p.tables e below (T152.setTop (mkF m 784 #[.val (.int p1), .val (.int p2), .val (.int (Int32.ofNat k)), .val (.ref b1), .val (.ref b77), .val (.int (0 : Int32)), .unset] [(.int (Int32.ofNat k)), (.ref b77)])) target := ⟨_, own_75 (by decide +kernel) hk, own_get X152 hx hZ e152 A152 k (own_kn hk) (own_k0 hk) hk (g := (mkF m 784 #[.val (.int p1), .val (.int p2), .val (.int (Int32.ofNat k)), .val (.ref b1), .val (.ref b77), .val (.int (0 : Int32)), .unset] [(.int (Int32.ofNat k)), (.ref b77)])) rfl rfl (hb hby at_784)⟩
        refine own_go S2y162 ?_
        refine own_go (A := T152.setTop (mkF m 786 #[.val (.int p1), .val (.int p2), .val (.int (Int32.ofNat k)), .val (.ref b1), .val (.ref b77), .val (.int (0 : Int32)), .unset] [(.ref b1), (.int y162)])) (fun t kt => XS.aloadN X152.here hx rfl (hb hby at_785) rfl rfl kt) ?_
        refine own_go (A := T152.setTop (mkF m 787 #[.val (.int p1), .val (.int p2), .val (.int (Int32.ofNat k)), .val (.ref b1), .val (.ref b77), .val (.int (0 : Int32)), .unset] [(.int (Int32.ofNat k)), (.ref b1), (.int y162)])) (fun t kt => XS.iloadN X152.here hx rfl (hb hby at_786) rfl kt) ?_
        obtain ⟨y163, hy163, S2y163⟩ : ∃ y, y = own_pops.getD k 0 ∧ ∀ target, Steps p.tables e below (T152.setTop (mkF m 788 #[.val (.int p1), .val (.int p2), .val (.int (Int32.ofNat k)), .val (.ref b1), .val (.ref b77), .val (.int (0 : Int32)), .unset] [(.int y), (.int y162)])) target → Steps p.tables e below (T152.setTop (mkF m 787 #[.val (.int p1), .val (.int p2), .val (.int (Int32.ofNat k)), .val (.ref b1), .val (.ref b77), .val (.int (0 : Int32)), .unset] [(.int (Int32.ofNat k)), (.ref b1), (.int y162)])) target := ⟨_, own_75 (by decide +kernel) hk, own_get X152 hx hZ e152 A76 k (own_kn hk) (own_k0 hk) hk (g := (mkF m 787 #[.val (.int p1), .val (.int p2), .val (.int (Int32.ofNat k)), .val (.ref b1), .val (.ref b77), .val (.int (0 : Int32)), .unset] [(.int (Int32.ofNat k)), (.ref b1), (.int y162)])) rfl rfl (hb hby at_787)⟩
        refine own_go S2y163 ?_
        refine own_go (A := T152.setTop (mkF m 789 #[.val (.int p1), .val (.int p2), .val (.int (Int32.ofNat k)), .val (.ref b1), .val (.ref b77), .val (.int (0 : Int32)), .unset] [(.int (y162 - y163))])) (fun t kt => XS.isub X152.here hx rfl (hb hby at_788) rfl kt) ?_
        refine own_go (A := T152.setTop (mkF m 791 #[.val (.int p1), .val (.int p2), .val (.int (Int32.ofNat k)), .val (.ref b1), .val (.ref b77), .val (.int (0 : Int32)), .unset] [(.int (0 : Int32)), (.int (y162 - y163))])) (fun t kt => XS.iload X152.here hx rfl (hb hby at_789) rfl kt) ?_
        refine own_go (A := T152.setTop (mkF m 792 #[.val (.int p1), .val (.int p2), .val (.int (Int32.ofNat k)), .val (.ref b1), .val (.ref b77), .val (.int (0 : Int32)), .unset] [(.int ((y162 - y163) - (0 : Int32)))])) (fun t kt => XS.isub X152.here hx rfl (hb hby at_791) rfl kt) ?_
        refine own_go (A := T152.setTop (mkF m 794 #[.val (.int p1), .val (.int p2), .val (.int (Int32.ofNat k)), .val (.ref b1), .val (.ref b77), .val (.int (0 : Int32)), .val (.int ((y162 - y163) - (0 : Int32)))] [])) (fun t kt => XS.istore X152.here hx rfl (hb hby at_792) rfl (l' := #[.val (.int p1), .val (.int p2), .val (.int (Int32.ofNat k)), .val (.ref b1), .val (.ref b77), .val (.int (0 : Int32)), .val (.int ((y162 - y163) - (0 : Int32)))]) rfl kt) ?_
        refine own_go (A := T152.setTop (mkF m 795 #[.val (.int p1), .val (.int p2), .val (.int (Int32.ofNat k)), .val (.ref b1), .val (.ref b77), .val (.int (0 : Int32)), .val (.int ((y162 - y163) - (0 : Int32)))] [(.int (Int32.ofNat k))])) (fun t kt => XS.iloadN X152.here hx rfl (hb hby at_794) rfl kt) ?_
        refine own_go (A := T152.setTop (mkF m 796 #[.val (.int p1), .val (.int p2), .val (.int (Int32.ofNat k)), .val (.ref b1), .val (.ref b77), .val (.int (0 : Int32)), .val (.int ((y162 - y163) - (0 : Int32)))] [(.int p2), (.int (Int32.ofNat k))])) (fun t kt => XS.iloadN X152.here hx rfl (hb hby at_795) rfl kt) ?_
        obtain ⟨_, _, ⟨T164, L164, k164, n164⟩, -, X164, ⟨Lc164, hQ164, l164, y164, z164⟩, st164⟩ := Jvm.LawKit.callS X152 hx (y := (⟨"com/example/kelpie/kelpie/engine/Code", "stackEffect", "(II)I"⟩ : MethodName)) hown (mvT hZ (hw _ (List.mem_of_getElem? (i := 2) rfl))) (mvT hZ (hw _ (List.mem_of_getElem? (i := 3) rfl))) (mvT hZ (hw _ (List.mem_of_getElem? (i := 4) rfl))) (mvT hZ (hw _ (List.mem_of_getElem? (i := 5) rfl))) (by decide) (backOf (W := 0) (rm1 l Z a0 hw [] (Int32.ofNat k) p2 k h152 n0 sz152 hk rfl) hZ (hw _ (List.mem_of_getElem? (i := 5) rfl)) (hw _ (List.mem_of_getElem? (i := 4) rfl)) (by decide) (by decide)) (g := (mkF m 796 #[.val (.int p1), .val (.int p2), .val (.int (Int32.ofNat k)), .val (.ref b1), .val (.ref b77), .val (.int (0 : Int32)), .val (.int ((y162 - y163) - (0 : Int32)))] [(.int p2), (.int (Int32.ofNat k))])) rfl (by rw [hml]; rfl) (argsL := [(.int (Int32.ofNat k)), (.int p2)]) (rest := []) (lenOf pd_1 rfl) rfl (by show 2 * 0 + _ ≤ _; exact Nat.le_of_eq rfl) (hb hby at_796) (fun _ _ => ⟨rfl, e152, (by decide : 2 + 0 ≤ _), (by decide : 150 + 0 ≤ _)⟩)
        dsimp only [Pt.U, Pt.locs, Pt.cells, Pt.slots] at X164 l164 y164 z164 st164 hQ164
        subst l164 y164 z164
        obtain ⟨rfl, N164q, g164⟩ := hQ164
        have N164 := Fr.app N152 N164q
        refine own_go (A := T164.setTop (mkF m 799 #[.val (.int p1), .val (.int p2), .val (.int (Int32.ofNat k)), .val (.ref b1), .val (.ref b77), .val (.int (0 : Int32)), .val (.int ((y162 - y163) - (0 : Int32)))] [(.int (own_eff k p2))])) st164 ?_
        refine own_go (A := T164.setTop (mkF m 801 #[.val (.int p1), .val (.int p2), .val (.int (Int32.ofNat k)), .val (.ref b1), .val (.ref b77), .val (.int (0 : Int32)), .val (.int ((y162 - y163) - (0 : Int32)))] [(.int ((y162 - y163) - (0 : Int32))), (.int (own_eff k p2))])) (fun t kt => XS.iload X164.here hx rfl (hb hby at_799) rfl kt) ?_
        have hfin : (own_eff k p2) = ((y162 - y163) - (0 : Int32)) := by
          rw [hy162, hy163]
          exact own_rest hk hc763 hc769 hc775
        refine own_go (A := T164.setTop (mkF m 804 #[.val (.int p1), .val (.int p2), .val (.int (Int32.ofNat k)), .val (.ref b1), .val (.ref b77), .val (.int (0 : Int32)), .val (.int ((y162 - y163) - (0 : Int32)))] [])) (fun t kt => XS.icmpNo X164.here hx rfl (hb hby at_801) rfl (teq (hfin : (own_eff k p2) = ((y162 - y163) - (0 : Int32)))).2 kt) ?_
        refine own_go (A := T164.setTop (mkF m 805 #[.val (.int p1), .val (.int p2), .val (.int (Int32.ofNat k)), .val (.ref b1), .val (.ref b77), .val (.int (0 : Int32)), .val (.int ((y162 - y163) - (0 : Int32)))] [(.int (1 : Int32))])) (fun t kt => XS.iconst X164.here hx rfl (hb hby at_804) kt) ?_
        refine own_go (A := T164.setTop (mkF m 809 #[.val (.int p1), .val (.int p2), .val (.int (Int32.ofNat k)), .val (.ref b1), .val (.ref b77), .val (.int (0 : Int32)), .val (.int ((y162 - y163) - (0 : Int32)))] [(.int (1 : Int32))])) (fun t kt => XS.goto X164.here hx rfl (pc0 := 805) (pc' := 809) rfl (hb hby at_805) (by decide) (by decide) kt) ?_
        obtain ⟨fs, hr, hrun, hended, hW, hsame⟩ := X164.leave (v := some (.int (1 : Int32))) (fun h => by rw [Bd.returns] at h; cases h)
        exact ⟨_, _, retN X164 hx (t := .boolean) Bd.returns (by simp) (hb hby at_809) hr, hrun, hended, _, _, rfl, ⟨rfl, N164⟩, ⟨_, rfl⟩, hW, hsame.mono (by decide) (by decide)⟩
set_option maxRecDepth 65536 in
set_option maxHeartbeats 40000000 in
theorem comes_1 {Post : Tables → Env → Array Value → State → Outcome → State → Prop} (hpost : ∀ tb e args s v u, (limb_1_1.after args s (.returned v) u = true ∧ limb_1_2.after args s (.returned v) u = true ∧ True) → FrameEnd s (.returned v) u (Jvm.fieldLocs frame_1_writes args s ++ Jvm.arrayLocs frame_1_arrays args s ++ Jvm.staticLocs frame_1_statics s) 16 384 → Post tb e args s (.returned v) u) :
    ArmFor flags0 classFile x code maxLocals ret World_1 tables_1 room_1 Calls_1 rest_1 Pre_1 Post := by
  intro l hfl _ _ p e ha hc hk s m args below hf hA hF happ hP
  obtain ⟨hcalls, hrest, hpre⟩ := hP
  obtain ⟨-, -, -, hnamed, -, -, -, hat⟩ := (Spec.applies_iff hf).mp happ
  obtain ⟨hg, hn⟩ := and_e (Cond.before_iff.mp (show (Jvm.Cond.and given_1 narrow_1).before args s = true from hpre))
  obtain ⟨gc, g0⟩ := and_e hg
  obtain ⟨ga0, g1⟩ := and_e g0
  have ga1 := g1
  obtain ⟨w0, w1, rfl⟩ : ∃ w0 w1 : Value, args = #[w0, w1] := by
    have hs : args.size = 2 := by simpa [Cond.value, given_1] using gc
    obtain ⟨L⟩ := args
    match L, hs with
    | [w0, w1], _ => exact ⟨w0, w1, rfl⟩
  have hw := fun d (hd : d ∈ tables_1) => atoms_spec (ws := Jvm.Cond.code x code maxLocals ret :: tables_1) hat d (List.mem_cons_of_mem _ hd)
  obtain ⟨i0, ei0⟩ := is_v ga0
  obtain rfl : w0 = (.int i0) := Option.some.inj ei0
  obtain ⟨i1, ei1⟩ := is_v ga1
  obtain rfl : w1 = (.int i1) := Option.some.inj ei1
  obtain ⟨n, o, h1, h2, h3, _, L, rfl, ⟨rfl, N⟩, hq⟩ := rm0 l s _ hw tables_1 i0 i1 s.heap s.heap.size (Nat.le_refl _) p e ha hc hk s m _ below hf ((Spec.applies_iff_loose hf).mp happ).1 ⟨rfl, State.Warmed39.refl s, rfl⟩ trivial
  refine ⟨n, _, h1, h2, h3, hpost _ _ _ _ _ _ ⟨Cond.after_iff.mpr rfl, Cond.after_iff.mpr (eq_i res_at (Term.int_eval (1)) rfl), trivial⟩ ⟨hq.1, hq.2.1, (hq.2.2.sift fun y hy => Or.inr (N y hy)).mono (by decide) (by decide)⟩⟩
theorem main_1_1 : Claimed_1_1 := comes_1 fun _ _ _ _ _ _ h hF => ⟨h.1, hF⟩
theorem main_1_2 : Claimed_1_2 := comes_1 fun _ _ _ _ _ _ h hF => ⟨h.2.1, hF⟩
end Jvm.Pilot.@@N@@
namespace Jvm.Pilot.@@N@@
open Jvm Jvm.ClassFile Sem Op Lib Jvm.Free Jvm.Stand Jvm.Pilot.@@N@@.Jvm.D
/-! MADE BY PROGRAM (witnessworld.py) out of the Statement's table words and the real class files: 10 classes; the members and pool entries that the words name. The judged class is class 1, her method 1. -/
namespace start1
open Jvm.ClassFile
def u (s : String) : CpInfo := .utf8 (stringToUtf16 s)
/-- a pool by its gaps: so many unusable entries, then the entry; so many at the end -/
def gap : Nat → List CpInfo → List CpInfo
  | 0, r => r
  | n + 1, r => .unusable :: gap n r
def poolList (es : List (Nat × CpInfo)) (last : Nat) : List CpInfo := es.foldr (fun e r => gap e.1 (e.2 :: r)) (gap last [])
def pool (es : List (Nat × CpInfo)) (last : Nat) : Array CpInfo := ⟨poolList es last⟩
def fileOf (pool : Array CpInfo) (this : Nat) (attrs : Array Attribute := #[]) (ms : Array MethodInfo := #[]) (fl : Nat := 33) (sup : Nat := 0) (ifs : Array Nat := #[]) (fds : Array FieldInfo := #[]) : ClassFile where
  minorVersion := 0
  majorVersion := 65
  constantPool := pool
  accessFlags := fl
  thisClass := this
  superClass := sup
  interfaces := ifs
  fields := fds
  methods := ms
  attributes := attrs
def plain (name : String) (sup : Option ClassId) : Class where
  name := name
  kind := .ordinary
  loader := none
  accessFlags := 33
  super := sup
  interfaces := #[]
  cf := none
  fields := #[]
  methods := #[]
  instanceTypes := #[]
  staticTypes := #[]
  resolved := #[]
  callSites := []
  init := .initialized
  statics := none
  mirror := none

def pool0 : Array CpInfo := pool [(5, u "<init>"), (0, u "()V"), (1, .class_ 10), (1, u "java/lang/Object")] 113

def k0m0 : Method := { name := "<init>", desc := "()V", sig := { parameters := [], returnType := none }, accessFlags := 1, code := none }
/-- java/lang/Object -/
def k0 : Class := { plain "java/lang/Object" none with
  accessFlags := 33
  interfaces := #[]
  cf := some (fileOf pool0 8 #[] #[{ accessFlags := 1, nameIndex := 5, descriptorIndex := 6, attributes := #[] }] 33 0 #[] #[])
  fields := #[]
  methods := #[k0m0]
  instanceTypes := #[]
  staticTypes := #[]
  resolved := Array.replicate 124 none
  statics := none }

def pool1 : Array CpInfo := pool [(2, .class_ 4), (1, u "java/lang/Object"), (0, u "<init>"), (0, u "()V"), (0, .integer 2147483647), (0, .class_ 9), (0, u "com/example/kelpie/kelpie/engine/Code"), (0, .methodref 8 11), (0, .nameAndType 12 13), (0, u "stackEffect"), (0, u "(II)I"), (0, .class_ 15), (0, u "com/example/kelpie/kelpie/engine/CodeStackEffectPinLaw"), (2, u "law"), (0, u "(II)Z")] 5

def k1m0 : Method := { name := "<init>", desc := "()V", sig := { parameters := [], returnType := none }, accessFlags := 2, code := none }
def k1c1 : Code := { maxStack := 4, maxLocals := 7, code := code, exceptionTable := #[], attributes := #[] }
def k1m1 : Method := { name := "law", desc := "(II)Z", sig := { parameters := [.int, .int], returnType := some .boolean }, accessFlags := 9, code := some k1c1 }
/-- com/example/kelpie/kelpie/engine/CodeStackEffectPinLaw -/
def k1 : Class := { plain "com/example/kelpie/kelpie/engine/CodeStackEffectPinLaw" (some 0) with
  accessFlags := 49
  interfaces := #[]
  cf := some (fileOf pool1 14 #[] #[{ accessFlags := 2, nameIndex := 5, descriptorIndex := 6, attributes := #[] }, { accessFlags := 9, nameIndex := 18, descriptorIndex := 19, attributes := #[] }] 49 2 #[] #[])
  fields := #[]
  methods := #[k1m0, k1m1]
  instanceTypes := #[]
  staticTypes := #[]
  resolved := Array.replicate 25 none
  statics := none }

def pool2 : Array CpInfo := pool [(1, .class_ 2), (0, u "com/example/kelpie/kelpie/engine/MemoryBudget$Held"), (0, .class_ 4), (0, u "java/lang/Object"), (5, .class_ 11), (0, u "com/example/kelpie/kelpie/engine/MemoryBudget")] 5

/-- com/example/kelpie/kelpie/engine/MemoryBudget$Held -/
def k2 : Class := { plain "com/example/kelpie/kelpie/engine/MemoryBudget$Held" (some 0) with
  accessFlags := 1536
  interfaces := #[]
  cf := some (fileOf pool2 1 #[.nestHost 10] #[] 1536 3 #[] #[])
  fields := #[]
  methods := #[]
  instanceTypes := #[]
  staticTypes := #[]
  resolved := Array.replicate 17 none
  statics := none }

def pool3 : Array CpInfo := pool [(2, .class_ 4), (1, u "java/lang/Object"), (3, .class_ 10), (1, u "com/example/kelpie/kelpie/engine/Code"), (0, u "name"), (0, u "Ljava/lang/String;"), (2, u "parameters"), (0, u "I"), (2, u "variables"), (0, u "[Ljava/lang/String;"), (2, u "selfSlot"), (2, u "argumentsSlot"), (2, u "instructions"), (0, u "[I"), (2, u "constants"), (0, u "[Ljava/lang/Object;"), (2, u "maxStack"), (2, u "cacheSites"), (2, u "handlers"), (2, u "innermostHandlers"), (5, u "lines"), (2, u "sourceName"), (2, u "source"), (2, u "start"), (2, u "end"), (2, u "charged"), (0, u "Z"), (16, u "bytes"), (0, u "J"), (25, u "NORMAL"), (0, u "Ljava/lang/Object;"), (2, u "UNINITIALIZED"), (0, .class_ 118), (0, u "com/example/kelpie/kelpie/engine/MemoryBudget$Held"), (0, u "CONST"), (2, u "UNDEFINED"), (1, u "POP"), (1, u "DUP"), (1, u "GET_NAME"), (1, u "TYPEOF_NAME"), (1, u "SET_NAME"), (1, u "ADD"), (1, u "SUB"), (1, u "MUL"), (1, u "DIV"), (1, u "MOD"), (1, u "SHL"), (1, u "SHR"), (1, u "USHR"), (1, u "BITAND"), (1, u "BITOR"), (1, u "BITXOR"), (1, u "EQ"), (1, u "NE"), (1, u "SEQ"), (1, u "SNE"), (1, u "LT"), (1, u "GT"), (1, u "LE"), (1, u "GE"), (1, u "NEG"), (1, u "TO_NUMBER"), (1, u "NOT"), (1, u "BITNOT"), (1, u "TYPEOF"), (1, u "INC"), (1, u "DEC"), (1, u "JUMP"), (1, u "JUMP_IF_FALSE"), (1, u "JUMP_IF_TRUE"), (1, u "AND"), (1, u "OR"), (1, u "CALL"), (1, u "RETURN"), (1, u "GET_MEMBER"), (1, u "GET_LOCAL"), (1, u "SET_LOCAL"), (1, u "GET_OUTER"), (1, u "SET_OUTER"), (1, u "ASSIGN_CONSTANT"), (1, u "THIS"), (1, u "CLOSURE"), (1, u "DUP2"), (1, u "DUP_X2"), (1, u "ROTATE"), (1, u "IN"), (1, u "INSTANCEOF"), (1, u "NEW"), (1, u "SET_MEMBER"), (1, u "DELETE_MEMBER"), (1, u "TO_KEY"), (1, u "NEW_OBJECT"), (1, u "INIT_PROPERTY"), (1, u "ARRAY"), (1, u "FOR_IN_START"), (1, u "FOR_IN_NEXT"), (1, u "THROW"), (1, u "ENTER_CATCH"), (1, u "LEAVE_SCOPE"), (1, u "GOTO_FINALLY"), (1, u "COMPLETE_RETURN"), (1, u "END_FINALLY"), (1, u "ENTER_BLOCK"), (1, u "GET_LEXICAL"), (1, u "SET_LEXICAL"), (1, u "COPY_SCOPE"), (1, u "ITERATOR"), (1, u "ITERATOR_NEXT"), (1, u "REQUIRE_COERCIBLE"), (1, u "STORE_LOCAL"), (1, u "STORE_NAME"), (1, u "STORE_MEMBER"), (1, u "UPDATE_LOCAL"), (1, u "UPDATE_NAME"), (1, u "ADD_REF"), (1, u "SUB_REF"), (1, u "MUL_REF"), (1, u "DIV_REF"), (1, u "MOD_REF"), (1, u "GET_MEMBER_REF"), (1, u "JUMP_EQ"), (1, u "JUMP_NE"), (1, u "JUMP_SEQ"), (1, u "JUMP_SNE"), (1, u "JUMP_LT"), (1, u "JUMP_GT"), (1, u "JUMP_LE"), (1, u "JUMP_GE"), (1, u "CALLEE_NAME"), (1, u "RETURN_REF"), (1, u "GET_METHOD"), (1, u "COMPLETION_SLOT"), (0, u "CACHES_SLOT"), (2, u "HANDLER_SIZE"), (0, u "HANDLER_END"), (0, u "HANDLER_TARGET"), (0, u "HANDLER_DEPTH"), (0, u "HANDLER_SCOPES"), (0, u "VALUE"), (0, u "GETTER"), (0, u "SETTER"), (0, u "heat"), (0, u "translated"), (0, u "Lcom/example/kelpie/kelpie/engine/TranslatedCode;"), (14, u "stackEffect"), (0, u "(II)I")] 11

def k3c0 : Code := { maxStack := 2, maxLocals := 2, code := prog_20_method_6_code, exceptionTable := #[], attributes := #[] }
def k3m0 : Method := { name := "stackEffect", desc := "(II)I", sig := { parameters := [.int, .int], returnType := some .int }, accessFlags := 8, code := some k3c0 }
/-- com/example/kelpie/kelpie/engine/Code -/
def k3 : Class := { plain "com/example/kelpie/kelpie/engine/Code" (some 0) with
  accessFlags := 49
  interfaces := #[2]
  cf := some (fileOf pool3 8 #[] #[{ accessFlags := 8, nameIndex := 343, descriptorIndex := 344, attributes := #[] }] 49 2 #[117] #[{ accessFlags := 24, nameIndex := 119, descriptorIndex := 16, attributes := #[] }, { accessFlags := 24, nameIndex := 122, descriptorIndex := 16, attributes := #[] }, { accessFlags := 24, nameIndex := 124, descriptorIndex := 16, attributes := #[] }, { accessFlags := 24, nameIndex := 126, descriptorIndex := 16, attributes := #[] }, { accessFlags := 24, nameIndex := 128, descriptorIndex := 16, attributes := #[] }, { accessFlags := 24, nameIndex := 130, descriptorIndex := 16, attributes := #[] }, { accessFlags := 24, nameIndex := 132, descriptorIndex := 16, attributes := #[] }, { accessFlags := 24, nameIndex := 134, descriptorIndex := 16, attributes := #[] }, { accessFlags := 24, nameIndex := 136, descriptorIndex := 16, attributes := #[] }, { accessFlags := 24, nameIndex := 138, descriptorIndex := 16, attributes := #[] }, { accessFlags := 24, nameIndex := 140, descriptorIndex := 16, attributes := #[] }, { accessFlags := 24, nameIndex := 142, descriptorIndex := 16, attributes := #[] }, { accessFlags := 24, nameIndex := 144, descriptorIndex := 16, attributes := #[] }, { accessFlags := 24, nameIndex := 146, descriptorIndex := 16, attributes := #[] }, { accessFlags := 24, nameIndex := 148, descriptorIndex := 16, attributes := #[] }, { accessFlags := 24, nameIndex := 150, descriptorIndex := 16, attributes := #[] }, { accessFlags := 24, nameIndex := 152, descriptorIndex := 16, attributes := #[] }, { accessFlags := 24, nameIndex := 154, descriptorIndex := 16, attributes := #[] }, { accessFlags := 24, nameIndex := 156, descriptorIndex := 16, attributes := #[] }, { accessFlags := 24, nameIndex := 158, descriptorIndex := 16, attributes := #[] }, { accessFlags := 24, nameIndex := 160, descriptorIndex := 16, attributes := #[] }, { accessFlags := 24, nameIndex := 162, descriptorIndex := 16, attributes := #[] }, { accessFlags := 24, nameIndex := 164, descriptorIndex := 16, attributes := #[] }, { accessFlags := 24, nameIndex := 166, descriptorIndex := 16, attributes := #[] }, { accessFlags := 24, nameIndex := 168, descriptorIndex := 16, attributes := #[] }, { accessFlags := 24, nameIndex := 170, descriptorIndex := 16, attributes := #[] }, { accessFlags := 24, nameIndex := 172, descriptorIndex := 16, attributes := #[] }, { accessFlags := 24, nameIndex := 174, descriptorIndex := 16, attributes := #[] }, { accessFlags := 24, nameIndex := 176, descriptorIndex := 16, attributes := #[] }, { accessFlags := 24, nameIndex := 178, descriptorIndex := 16, attributes := #[] }, { accessFlags := 24, nameIndex := 180, descriptorIndex := 16, attributes := #[] }, { accessFlags := 24, nameIndex := 182, descriptorIndex := 16, attributes := #[] }, { accessFlags := 24, nameIndex := 184, descriptorIndex := 16, attributes := #[] }, { accessFlags := 24, nameIndex := 186, descriptorIndex := 16, attributes := #[] }, { accessFlags := 24, nameIndex := 188, descriptorIndex := 16, attributes := #[] }, { accessFlags := 24, nameIndex := 190, descriptorIndex := 16, attributes := #[] }, { accessFlags := 24, nameIndex := 192, descriptorIndex := 16, attributes := #[] }, { accessFlags := 24, nameIndex := 194, descriptorIndex := 16, attributes := #[] }, { accessFlags := 24, nameIndex := 196, descriptorIndex := 16, attributes := #[] }, { accessFlags := 24, nameIndex := 198, descriptorIndex := 16, attributes := #[] }, { accessFlags := 24, nameIndex := 200, descriptorIndex := 16, attributes := #[] }, { accessFlags := 24, nameIndex := 202, descriptorIndex := 16, attributes := #[] }, { accessFlags := 24, nameIndex := 204, descriptorIndex := 16, attributes := #[] }, { accessFlags := 24, nameIndex := 206, descriptorIndex := 16, attributes := #[] }, { accessFlags := 24, nameIndex := 208, descriptorIndex := 16, attributes := #[] }, { accessFlags := 24, nameIndex := 210, descriptorIndex := 16, attributes := #[] }, { accessFlags := 24, nameIndex := 212, descriptorIndex := 16, attributes := #[] }, { accessFlags := 24, nameIndex := 214, descriptorIndex := 16, attributes := #[] }, { accessFlags := 24, nameIndex := 216, descriptorIndex := 16, attributes := #[] }, { accessFlags := 24, nameIndex := 218, descriptorIndex := 16, attributes := #[] }, { accessFlags := 24, nameIndex := 220, descriptorIndex := 16, attributes := #[] }, { accessFlags := 24, nameIndex := 222, descriptorIndex := 16, attributes := #[] }, { accessFlags := 24, nameIndex := 224, descriptorIndex := 16, attributes := #[] }, { accessFlags := 24, nameIndex := 226, descriptorIndex := 16, attributes := #[] }, { accessFlags := 24, nameIndex := 228, descriptorIndex := 16, attributes := #[] }, { accessFlags := 24, nameIndex := 230, descriptorIndex := 16, attributes := #[] }, { accessFlags := 24, nameIndex := 232, descriptorIndex := 16, attributes := #[] }, { accessFlags := 24, nameIndex := 234, descriptorIndex := 16, attributes := #[] }, { accessFlags := 24, nameIndex := 236, descriptorIndex := 16, attributes := #[] }, { accessFlags := 24, nameIndex := 238, descriptorIndex := 16, attributes := #[] }, { accessFlags := 24, nameIndex := 240, descriptorIndex := 16, attributes := #[] }, { accessFlags := 24, nameIndex := 242, descriptorIndex := 16, attributes := #[] }, { accessFlags := 24, nameIndex := 244, descriptorIndex := 16, attributes := #[] }, { accessFlags := 24, nameIndex := 246, descriptorIndex := 16, attributes := #[] }, { accessFlags := 24, nameIndex := 248, descriptorIndex := 16, attributes := #[] }, { accessFlags := 24, nameIndex := 250, descriptorIndex := 16, attributes := #[] }, { accessFlags := 24, nameIndex := 252, descriptorIndex := 16, attributes := #[] }, { accessFlags := 24, nameIndex := 254, descriptorIndex := 16, attributes := #[] }, { accessFlags := 24, nameIndex := 256, descriptorIndex := 16, attributes := #[] }, { accessFlags := 24, nameIndex := 258, descriptorIndex := 16, attributes := #[] }, { accessFlags := 24, nameIndex := 260, descriptorIndex := 16, attributes := #[] }, { accessFlags := 24, nameIndex := 262, descriptorIndex := 16, attributes := #[] }, { accessFlags := 24, nameIndex := 264, descriptorIndex := 16, attributes := #[] }, { accessFlags := 24, nameIndex := 266, descriptorIndex := 16, attributes := #[] }, { accessFlags := 24, nameIndex := 268, descriptorIndex := 16, attributes := #[] }, { accessFlags := 24, nameIndex := 270, descriptorIndex := 16, attributes := #[] }, { accessFlags := 24, nameIndex := 272, descriptorIndex := 16, attributes := #[] }, { accessFlags := 24, nameIndex := 274, descriptorIndex := 16, attributes := #[] }, { accessFlags := 24, nameIndex := 276, descriptorIndex := 16, attributes := #[] }, { accessFlags := 24, nameIndex := 278, descriptorIndex := 16, attributes := #[] }, { accessFlags := 24, nameIndex := 280, descriptorIndex := 16, attributes := #[] }, { accessFlags := 24, nameIndex := 282, descriptorIndex := 16, attributes := #[] }, { accessFlags := 24, nameIndex := 284, descriptorIndex := 16, attributes := #[] }, { accessFlags := 24, nameIndex := 286, descriptorIndex := 16, attributes := #[] }, { accessFlags := 24, nameIndex := 288, descriptorIndex := 16, attributes := #[] }, { accessFlags := 24, nameIndex := 290, descriptorIndex := 16, attributes := #[] }, { accessFlags := 24, nameIndex := 292, descriptorIndex := 16, attributes := #[] }, { accessFlags := 24, nameIndex := 294, descriptorIndex := 16, attributes := #[] }, { accessFlags := 24, nameIndex := 296, descriptorIndex := 16, attributes := #[] }, { accessFlags := 24, nameIndex := 298, descriptorIndex := 16, attributes := #[] }, { accessFlags := 24, nameIndex := 300, descriptorIndex := 16, attributes := #[] }, { accessFlags := 24, nameIndex := 302, descriptorIndex := 16, attributes := #[] }, { accessFlags := 24, nameIndex := 304, descriptorIndex := 16, attributes := #[] }, { accessFlags := 24, nameIndex := 306, descriptorIndex := 16, attributes := #[] }, { accessFlags := 24, nameIndex := 308, descriptorIndex := 16, attributes := #[] }, { accessFlags := 24, nameIndex := 310, descriptorIndex := 16, attributes := #[] }, { accessFlags := 24, nameIndex := 312, descriptorIndex := 16, attributes := #[] }, { accessFlags := 24, nameIndex := 314, descriptorIndex := 16, attributes := #[] }, { accessFlags := 24, nameIndex := 315, descriptorIndex := 16, attributes := #[] }, { accessFlags := 24, nameIndex := 112, descriptorIndex := 113, attributes := #[] }, { accessFlags := 24, nameIndex := 116, descriptorIndex := 113, attributes := #[] }, { accessFlags := 24, nameIndex := 318, descriptorIndex := 16, attributes := #[] }, { accessFlags := 24, nameIndex := 319, descriptorIndex := 16, attributes := #[] }, { accessFlags := 24, nameIndex := 320, descriptorIndex := 16, attributes := #[] }, { accessFlags := 24, nameIndex := 321, descriptorIndex := 16, attributes := #[] }, { accessFlags := 24, nameIndex := 322, descriptorIndex := 16, attributes := #[] }, { accessFlags := 24, nameIndex := 323, descriptorIndex := 16, attributes := #[] }, { accessFlags := 24, nameIndex := 324, descriptorIndex := 16, attributes := #[] }, { accessFlags := 24, nameIndex := 325, descriptorIndex := 16, attributes := #[] }, { accessFlags := 16, nameIndex := 11, descriptorIndex := 12, attributes := #[] }, { accessFlags := 16, nameIndex := 15, descriptorIndex := 16, attributes := #[] }, { accessFlags := 16, nameIndex := 19, descriptorIndex := 20, attributes := #[] }, { accessFlags := 16, nameIndex := 23, descriptorIndex := 16, attributes := #[] }, { accessFlags := 16, nameIndex := 26, descriptorIndex := 16, attributes := #[] }, { accessFlags := 16, nameIndex := 29, descriptorIndex := 30, attributes := #[] }, { accessFlags := 16, nameIndex := 33, descriptorIndex := 34, attributes := #[] }, { accessFlags := 16, nameIndex := 37, descriptorIndex := 16, attributes := #[] }, { accessFlags := 16, nameIndex := 40, descriptorIndex := 16, attributes := #[] }, { accessFlags := 16, nameIndex := 43, descriptorIndex := 30, attributes := #[] }, { accessFlags := 18, nameIndex := 46, descriptorIndex := 30, attributes := #[] }, { accessFlags := 18, nameIndex := 52, descriptorIndex := 30, attributes := #[] }, { accessFlags := 16, nameIndex := 55, descriptorIndex := 12, attributes := #[] }, { accessFlags := 18, nameIndex := 58, descriptorIndex := 12, attributes := #[] }, { accessFlags := 18, nameIndex := 61, descriptorIndex := 16, attributes := #[] }, { accessFlags := 18, nameIndex := 64, descriptorIndex := 16, attributes := #[] }, { accessFlags := 16, nameIndex := 67, descriptorIndex := 68, attributes := #[] }, { accessFlags := 0, nameIndex := 326, descriptorIndex := 16, attributes := #[] }, { accessFlags := 0, nameIndex := 327, descriptorIndex := 328, attributes := #[] }, { accessFlags := 18, nameIndex := 85, descriptorIndex := 86, attributes := #[] }])
  fields := #[{ name := "CONST", type := .int, accessFlags := 24, slot := 0, constantValue := 0 }, { name := "UNDEFINED", type := .int, accessFlags := 24, slot := 1, constantValue := 0 }, { name := "POP", type := .int, accessFlags := 24, slot := 2, constantValue := 0 }, { name := "DUP", type := .int, accessFlags := 24, slot := 3, constantValue := 0 }, { name := "GET_NAME", type := .int, accessFlags := 24, slot := 4, constantValue := 0 }, { name := "TYPEOF_NAME", type := .int, accessFlags := 24, slot := 5, constantValue := 0 }, { name := "SET_NAME", type := .int, accessFlags := 24, slot := 6, constantValue := 0 }, { name := "ADD", type := .int, accessFlags := 24, slot := 7, constantValue := 0 }, { name := "SUB", type := .int, accessFlags := 24, slot := 8, constantValue := 0 }, { name := "MUL", type := .int, accessFlags := 24, slot := 9, constantValue := 0 }, { name := "DIV", type := .int, accessFlags := 24, slot := 10, constantValue := 0 }, { name := "MOD", type := .int, accessFlags := 24, slot := 11, constantValue := 0 }, { name := "SHL", type := .int, accessFlags := 24, slot := 12, constantValue := 0 }, { name := "SHR", type := .int, accessFlags := 24, slot := 13, constantValue := 0 }, { name := "USHR", type := .int, accessFlags := 24, slot := 14, constantValue := 0 }, { name := "BITAND", type := .int, accessFlags := 24, slot := 15, constantValue := 0 }, { name := "BITOR", type := .int, accessFlags := 24, slot := 16, constantValue := 0 }, { name := "BITXOR", type := .int, accessFlags := 24, slot := 17, constantValue := 0 }, { name := "EQ", type := .int, accessFlags := 24, slot := 18, constantValue := 0 }, { name := "NE", type := .int, accessFlags := 24, slot := 19, constantValue := 0 }, { name := "SEQ", type := .int, accessFlags := 24, slot := 20, constantValue := 0 }, { name := "SNE", type := .int, accessFlags := 24, slot := 21, constantValue := 0 }, { name := "LT", type := .int, accessFlags := 24, slot := 22, constantValue := 0 }, { name := "GT", type := .int, accessFlags := 24, slot := 23, constantValue := 0 }, { name := "LE", type := .int, accessFlags := 24, slot := 24, constantValue := 0 }, { name := "GE", type := .int, accessFlags := 24, slot := 25, constantValue := 0 }, { name := "NEG", type := .int, accessFlags := 24, slot := 26, constantValue := 0 }, { name := "TO_NUMBER", type := .int, accessFlags := 24, slot := 27, constantValue := 0 }, { name := "NOT", type := .int, accessFlags := 24, slot := 28, constantValue := 0 }, { name := "BITNOT", type := .int, accessFlags := 24, slot := 29, constantValue := 0 }, { name := "TYPEOF", type := .int, accessFlags := 24, slot := 30, constantValue := 0 }, { name := "INC", type := .int, accessFlags := 24, slot := 31, constantValue := 0 }, { name := "DEC", type := .int, accessFlags := 24, slot := 32, constantValue := 0 }, { name := "JUMP", type := .int, accessFlags := 24, slot := 33, constantValue := 0 }, { name := "JUMP_IF_FALSE", type := .int, accessFlags := 24, slot := 34, constantValue := 0 }, { name := "JUMP_IF_TRUE", type := .int, accessFlags := 24, slot := 35, constantValue := 0 }, { name := "AND", type := .int, accessFlags := 24, slot := 36, constantValue := 0 }, { name := "OR", type := .int, accessFlags := 24, slot := 37, constantValue := 0 }, { name := "CALL", type := .int, accessFlags := 24, slot := 38, constantValue := 0 }, { name := "RETURN", type := .int, accessFlags := 24, slot := 39, constantValue := 0 }, { name := "GET_MEMBER", type := .int, accessFlags := 24, slot := 40, constantValue := 0 }, { name := "GET_LOCAL", type := .int, accessFlags := 24, slot := 41, constantValue := 0 }, { name := "SET_LOCAL", type := .int, accessFlags := 24, slot := 42, constantValue := 0 }, { name := "GET_OUTER", type := .int, accessFlags := 24, slot := 43, constantValue := 0 }, { name := "SET_OUTER", type := .int, accessFlags := 24, slot := 44, constantValue := 0 }, { name := "ASSIGN_CONSTANT", type := .int, accessFlags := 24, slot := 45, constantValue := 0 }, { name := "THIS", type := .int, accessFlags := 24, slot := 46, constantValue := 0 }, { name := "CLOSURE", type := .int, accessFlags := 24, slot := 47, constantValue := 0 }, { name := "DUP2", type := .int, accessFlags := 24, slot := 48, constantValue := 0 }, { name := "DUP_X2", type := .int, accessFlags := 24, slot := 49, constantValue := 0 }, { name := "ROTATE", type := .int, accessFlags := 24, slot := 50, constantValue := 0 }, { name := "IN", type := .int, accessFlags := 24, slot := 51, constantValue := 0 }, { name := "INSTANCEOF", type := .int, accessFlags := 24, slot := 52, constantValue := 0 }, { name := "NEW", type := .int, accessFlags := 24, slot := 53, constantValue := 0 }, { name := "SET_MEMBER", type := .int, accessFlags := 24, slot := 54, constantValue := 0 }, { name := "DELETE_MEMBER", type := .int, accessFlags := 24, slot := 55, constantValue := 0 }, { name := "TO_KEY", type := .int, accessFlags := 24, slot := 56, constantValue := 0 }, { name := "NEW_OBJECT", type := .int, accessFlags := 24, slot := 57, constantValue := 0 }, { name := "INIT_PROPERTY", type := .int, accessFlags := 24, slot := 58, constantValue := 0 }, { name := "ARRAY", type := .int, accessFlags := 24, slot := 59, constantValue := 0 }, { name := "FOR_IN_START", type := .int, accessFlags := 24, slot := 60, constantValue := 0 }, { name := "FOR_IN_NEXT", type := .int, accessFlags := 24, slot := 61, constantValue := 0 }, { name := "THROW", type := .int, accessFlags := 24, slot := 62, constantValue := 0 }, { name := "ENTER_CATCH", type := .int, accessFlags := 24, slot := 63, constantValue := 0 }, { name := "LEAVE_SCOPE", type := .int, accessFlags := 24, slot := 64, constantValue := 0 }, { name := "GOTO_FINALLY", type := .int, accessFlags := 24, slot := 65, constantValue := 0 }, { name := "COMPLETE_RETURN", type := .int, accessFlags := 24, slot := 66, constantValue := 0 }, { name := "END_FINALLY", type := .int, accessFlags := 24, slot := 67, constantValue := 0 }, { name := "ENTER_BLOCK", type := .int, accessFlags := 24, slot := 68, constantValue := 0 }, { name := "GET_LEXICAL", type := .int, accessFlags := 24, slot := 69, constantValue := 0 }, { name := "SET_LEXICAL", type := .int, accessFlags := 24, slot := 70, constantValue := 0 }, { name := "COPY_SCOPE", type := .int, accessFlags := 24, slot := 71, constantValue := 0 }, { name := "ITERATOR", type := .int, accessFlags := 24, slot := 72, constantValue := 0 }, { name := "ITERATOR_NEXT", type := .int, accessFlags := 24, slot := 73, constantValue := 0 }, { name := "REQUIRE_COERCIBLE", type := .int, accessFlags := 24, slot := 74, constantValue := 0 }, { name := "STORE_LOCAL", type := .int, accessFlags := 24, slot := 75, constantValue := 0 }, { name := "STORE_NAME", type := .int, accessFlags := 24, slot := 76, constantValue := 0 }, { name := "STORE_MEMBER", type := .int, accessFlags := 24, slot := 77, constantValue := 0 }, { name := "UPDATE_LOCAL", type := .int, accessFlags := 24, slot := 78, constantValue := 0 }, { name := "UPDATE_NAME", type := .int, accessFlags := 24, slot := 79, constantValue := 0 }, { name := "ADD_REF", type := .int, accessFlags := 24, slot := 80, constantValue := 0 }, { name := "SUB_REF", type := .int, accessFlags := 24, slot := 81, constantValue := 0 }, { name := "MUL_REF", type := .int, accessFlags := 24, slot := 82, constantValue := 0 }, { name := "DIV_REF", type := .int, accessFlags := 24, slot := 83, constantValue := 0 }, { name := "MOD_REF", type := .int, accessFlags := 24, slot := 84, constantValue := 0 }, { name := "GET_MEMBER_REF", type := .int, accessFlags := 24, slot := 85, constantValue := 0 }, { name := "JUMP_EQ", type := .int, accessFlags := 24, slot := 86, constantValue := 0 }, { name := "JUMP_NE", type := .int, accessFlags := 24, slot := 87, constantValue := 0 }, { name := "JUMP_SEQ", type := .int, accessFlags := 24, slot := 88, constantValue := 0 }, { name := "JUMP_SNE", type := .int, accessFlags := 24, slot := 89, constantValue := 0 }, { name := "JUMP_LT", type := .int, accessFlags := 24, slot := 90, constantValue := 0 }, { name := "JUMP_GT", type := .int, accessFlags := 24, slot := 91, constantValue := 0 }, { name := "JUMP_LE", type := .int, accessFlags := 24, slot := 92, constantValue := 0 }, { name := "JUMP_GE", type := .int, accessFlags := 24, slot := 93, constantValue := 0 }, { name := "CALLEE_NAME", type := .int, accessFlags := 24, slot := 94, constantValue := 0 }, { name := "RETURN_REF", type := .int, accessFlags := 24, slot := 95, constantValue := 0 }, { name := "GET_METHOD", type := .int, accessFlags := 24, slot := 96, constantValue := 0 }, { name := "COMPLETION_SLOT", type := .int, accessFlags := 24, slot := 97, constantValue := 0 }, { name := "CACHES_SLOT", type := .int, accessFlags := 24, slot := 98, constantValue := 0 }, { name := "NORMAL", type := (.object "java/lang/Object"), accessFlags := 24, slot := 99, constantValue := 0 }, { name := "UNINITIALIZED", type := (.object "java/lang/Object"), accessFlags := 24, slot := 100, constantValue := 0 }, { name := "HANDLER_SIZE", type := .int, accessFlags := 24, slot := 101, constantValue := 0 }, { name := "HANDLER_END", type := .int, accessFlags := 24, slot := 102, constantValue := 0 }, { name := "HANDLER_TARGET", type := .int, accessFlags := 24, slot := 103, constantValue := 0 }, { name := "HANDLER_DEPTH", type := .int, accessFlags := 24, slot := 104, constantValue := 0 }, { name := "HANDLER_SCOPES", type := .int, accessFlags := 24, slot := 105, constantValue := 0 }, { name := "VALUE", type := .int, accessFlags := 24, slot := 106, constantValue := 0 }, { name := "GETTER", type := .int, accessFlags := 24, slot := 107, constantValue := 0 }, { name := "SETTER", type := .int, accessFlags := 24, slot := 108, constantValue := 0 }, { name := "name", type := (.object "java/lang/String"), accessFlags := 16, slot := 0, constantValue := 0 }, { name := "parameters", type := .int, accessFlags := 16, slot := 1, constantValue := 0 }, { name := "variables", type := (.array (.object "java/lang/String")), accessFlags := 16, slot := 2, constantValue := 0 }, { name := "selfSlot", type := .int, accessFlags := 16, slot := 3, constantValue := 0 }, { name := "argumentsSlot", type := .int, accessFlags := 16, slot := 4, constantValue := 0 }, { name := "instructions", type := (.array .int), accessFlags := 16, slot := 5, constantValue := 0 }, { name := "constants", type := (.array (.object "java/lang/Object")), accessFlags := 16, slot := 6, constantValue := 0 }, { name := "maxStack", type := .int, accessFlags := 16, slot := 7, constantValue := 0 }, { name := "cacheSites", type := .int, accessFlags := 16, slot := 8, constantValue := 0 }, { name := "handlers", type := (.array .int), accessFlags := 16, slot := 9, constantValue := 0 }, { name := "innermostHandlers", type := (.array .int), accessFlags := 18, slot := 10, constantValue := 0 }, { name := "lines", type := (.array .int), accessFlags := 18, slot := 11, constantValue := 0 }, { name := "sourceName", type := (.object "java/lang/String"), accessFlags := 16, slot := 12, constantValue := 0 }, { name := "source", type := (.object "java/lang/String"), accessFlags := 18, slot := 13, constantValue := 0 }, { name := "start", type := .int, accessFlags := 18, slot := 14, constantValue := 0 }, { name := "end", type := .int, accessFlags := 18, slot := 15, constantValue := 0 }, { name := "charged", type := .boolean, accessFlags := 16, slot := 16, constantValue := 0 }, { name := "heat", type := .int, accessFlags := 0, slot := 17, constantValue := 0 }, { name := "translated", type := (.object "com/example/kelpie/kelpie/engine/TranslatedCode"), accessFlags := 0, slot := 18, constantValue := 0 }, { name := "bytes", type := .long, accessFlags := 18, slot := 19, constantValue := 0 }]
  methods := #[k3m0]
  instanceTypes := #[(.object "java/lang/String"), .int, (.array (.object "java/lang/String")), .int, .int, (.array .int), (.array (.object "java/lang/Object")), .int, .int, (.array .int), (.array .int), (.array .int), (.object "java/lang/String"), (.object "java/lang/String"), .int, .int, .boolean, .int, (.object "com/example/kelpie/kelpie/engine/TranslatedCode"), .long]
  staticTypes := #[.int, .int, .int, .int, .int, .int, .int, .int, .int, .int, .int, .int, .int, .int, .int, .int, .int, .int, .int, .int, .int, .int, .int, .int, .int, .int, .int, .int, .int, .int, .int, .int, .int, .int, .int, .int, .int, .int, .int, .int, .int, .int, .int, .int, .int, .int, .int, .int, .int, .int, .int, .int, .int, .int, .int, .int, .int, .int, .int, .int, .int, .int, .int, .int, .int, .int, .int, .int, .int, .int, .int, .int, .int, .int, .int, .int, .int, .int, .int, .int, .int, .int, .int, .int, .int, .int, .int, .int, .int, .int, .int, .int, .int, .int, .int, .int, .int, .int, .int, (.object "java/lang/Object"), (.object "java/lang/Object"), .int, .int, .int, .int, .int, .int, .int, .int]
  resolved := Array.replicate 356 none
  statics := none }

def pool4 : Array CpInfo := pool [(1, u "java/lang/Cloneable"), (0, .class_ 1), (0, u "java/lang/Object"), (0, .class_ 3)] 3

/-- java/lang/Cloneable -/
def k4 : Class := { plain "java/lang/Cloneable" (some 0) with
  accessFlags := 1537
  interfaces := #[]
  cf := some (fileOf pool4 2 #[] #[] 1537 4 #[] #[])
  fields := #[]
  methods := #[]
  instanceTypes := #[]
  staticTypes := #[]
  resolved := Array.replicate 8 none
  statics := none }

def pool5 : Array CpInfo := pool [(1, u "java/io/Serializable"), (0, .class_ 1), (0, u "java/lang/Object"), (0, .class_ 3)] 3

/-- java/io/Serializable -/
def k5 : Class := { plain "java/io/Serializable" (some 0) with
  accessFlags := 1537
  interfaces := #[]
  cf := some (fileOf pool5 2 #[] #[] 1537 4 #[] #[])
  fields := #[]
  methods := #[]
  instanceTypes := #[]
  staticTypes := #[]
  resolved := Array.replicate 8 none
  statics := none }

/-- the primitive byte -/
def k6 : Class := { plain "byte" none with kind := .primitive 'B', accessFlags := 0x411 }
/-- [B -/
def k7 : Class := { plain "[B" (some 0) with kind := .array 6 .byte, interfaces := #[4, 5], accessFlags := 1041 }

/-- the primitive int -/
def k8 : Class := { plain "int" none with kind := .primitive 'I', accessFlags := 0x411 }
/-- [I -/
def k9 : Class := { plain "[I" (some 0) with kind := .array 8 .int, interfaces := #[4, 5], accessFlags := 1041 }

def heap : Heap := #[]
def classes : Array Class := #[k0, k1, k2, k3, k4, k5, k6, k7, k8, k9]
def interned : List (Array UInt16 × Addr) := []
def slotsUsed : Nat := 0
def theMethod : MethodId := ⟨1, 1⟩
def args0 : Array Value := #[.int 5, .int 3]
def aboutOver (below : List Frame) : State where
  vm := { classes := classes, interned := interned.toArray }
  heap := heap
  slotsUsed := slotsUsed
  threads := #[{ frames := .invoking theMethod args0 :: below }]
def below0 : List Frame := [.native { method := ⟨0, 0⟩, args := #[] }]
def about1 : State := aboutOver below0
def p0 : Program := .bare "" "" ""
def e0 : Env := launch0.env 0 0 0
theorem w_frames : about1.frames = Frame.invoking theMethod args0 :: below0 := rfl
set_option maxRecDepth 65536 in
theorem w_args : argsFit about1.vm theMethod args0 = true := by decide +kernel
set_option maxRecDepth 65536 in
theorem w_heap : heapFits about1 = true := by decide +kernel
set_option maxRecDepth 65536 in
theorem w_runnable : about1.curStatus? = some .runnable := by decide +kernel
set_option maxRecDepth 65536 in
theorem w_alone : about1.alone = true := by decide +kernel
set_option maxRecDepth 65536 in
theorem w_named : about1.methodNamed? x = some theMethod := by decide +kernel
set_option maxRecDepth 65536 in
theorem w_hears : about1.hears theMethod below0 = true := by decide +kernel
set_option maxRecDepth 65536 in
theorem w_ripe : about1.ripe theMethod args0 below0 = true := by decide +kernel
theorem w_running : about1.status = .running := rfl
set_option maxRecDepth 65536 in
theorem w_room : about1.hasRoom e0.platform room_1 = true :=
  launch0.hasRoom_least _ room_1 (by decide +kernel) (by decide +kernel) (by decide +kernel) (by decide +kernel) (by decide +kernel) (by decide +kernel)
theorem allAtoms_all (ts : List Jvm.Cond) (a : Array Jvm.Value) (st : Jvm.State) : (allAtoms ts).before a st = ts.all (fun c => c.before a st) := by
  induction ts with
  | nil => rfl
  | cons c t ih =>
    show (Jvm.Cond.and c (allAtoms t)).before a st = _
    rw [Jvm.Cond.before_and, ih, List.all_cons]
def words1 : List Jvm.Cond := Jvm.Cond.code x code maxLocals ret :: tables_1
/-- a 'code' word, met by the world's own term for the bytes: nothing is compared byte by byte -/
theorem code_word {y : MethodName} {bytes : ByteArray} {mx : Nat} {rt : Option FieldType} {a : Array Value} {s : State} {m : MethodId} {meth : Method} {c : Code} (h1 : s.methodNamed? y = some m) (h2 : s.vm.method? m = some meth) (h3 : meth.code = some c) (h4 : c.code = bytes)
    (h5 : (c.maxLocals == mx && c.exceptionTable.isEmpty && decide (c.maxStack ≤ mostOperands) && decide (meth.sig.returnType = rt) && !meth.locks && decide (parseMethodDescriptor y.desc = some meth.sig)) = true) : (Jvm.Cond.code y bytes mx rt).before a s = true := by
  simp only [Bool.and_eq_true, beq_iff_eq, Bool.not_eq_true', decide_eq_true_eq] at h5
  obtain ⟨⟨⟨⟨⟨g1, g2⟩, g3⟩, g4⟩, g5⟩, g6⟩ := h5
  simp [Cond.before, Cond.holds, Cond.value, h1, h2, h3, h4, g1, g2, g3, g4, g5, g6]
def isCode : Jvm.Cond → Bool
  | .code _ _ _ _ => true
  | _ => false
theorem all_split {L : List Jvm.Cond} {P : Jvm.Cond → Bool} (h1 : L.all (fun c => isCode c || P c) = true) (h2 : ∀ c ∈ L.filter isCode, P c = true) : L.all P = true := by
  refine List.all_eq_true.mpr fun c hc => ?_
  have h := List.all_eq_true.mp h1 c hc
  rcases Bool.eq_false_or_eq_true (isCode c) with hi | hi
  · exact h2 c (List.mem_filter.mpr ⟨hc, hi⟩)
  · simpa [hi] using h
set_option maxRecDepth 65536 in
theorem w_c0 : (Jvm.Cond.code x code maxLocals ret).before args0 about1 = true := code_word (m := ⟨1, 1⟩) (meth := k1m1) (c := k1c1) (by decide +kernel) rfl rfl rfl (by decide +kernel)
set_option maxRecDepth 65536 in
theorem w_c1 : (Jvm.Cond.code ({ cls := "com/example/kelpie/kelpie/engine/Code", name := "stackEffect", desc := "(II)I" } : Jvm.MethodName) prog_20_method_6_code (2 : Nat) (Option.some Jvm.ClassFile.FieldType.int)).before args0 about1 = true := code_word (m := ⟨3, 0⟩) (meth := k3m0) (c := k3c0) (by decide +kernel) rfl rfl rfl (by decide +kernel)
def codes1 : List Jvm.Cond := [Jvm.Cond.code x code maxLocals ret, Jvm.Cond.code ({ cls := "com/example/kelpie/kelpie/engine/Code", name := "stackEffect", desc := "(II)I" } : Jvm.MethodName) prog_20_method_6_code (2 : Nat) (Option.some Jvm.ClassFile.FieldType.int)]
set_option maxRecDepth 65536 in
theorem codes_eq : words1.filter isCode = codes1 := rfl
theorem w_codes : ∀ c ∈ words1.filter isCode, c.before args0 about1 = true := by
  rw [codes_eq]
  intro c hc
  simp only [codes1, List.mem_cons, List.not_mem_nil, or_false] at hc
  rcases hc with rfl | rfl
  · exact w_c0
  · exact w_c1
set_option maxRecDepth 65536 in
theorem w_t1 : words1.all (fun c => isCode c || c.before args0 about1) = true := by decide +kernel
theorem w_tables : (allAtoms (Jvm.Cond.code x code maxLocals ret :: tables_1)).before args0 about1 = true := by
  rw [allAtoms_all]
  show words1.all (fun c => c.before args0 about1) = true
  refine all_split ?_ w_codes
  rw [w_t1]
set_option maxRecDepth 65536 in
theorem w_case : (Jvm.Cond.and given_1 narrow_1).before args0 about1 = true := by decide +kernel
theorem w_applies : (headSpec (Jvm.Cond.code x code maxLocals ret :: tables_1) room_1).applies x e0.platform about1 = true :=
  (Spec.applies_iff w_frames).mpr ⟨w_running, w_runnable, w_alone, w_named, w_hears, w_ripe, w_room, w_tables⟩
theorem atStart : AtStart classFile x code maxLocals ret World_1 tables_1 room_1 Calls_1 rest_1 Pre_1 launch0 p0 e0 about1 theMethod args0 below0 :=
  ⟨lists_1, trivial, launch0.admits_env _ _ _, launch0.least_env, fairChoices_fair.cas, fairChoices_fair.clock, w_frames, w_args, w_heap, w_applies, trivial, trivial, w_case⟩
end start1
theorem witness_1 : WitnessClaimed_1 := ⟨start1.p0, start1.e0, start1.about1, start1.theMethod, start1.args0, start1.below0, start1.atStart⟩
end Jvm.Pilot.@@N@@
