import JvmDerived
import JvmDerived.Pilot.@@N@@Statement
import JvmDerived.Pilot.@@N@@Code
set_option linter.unusedVariables false
set_option linter.unusedSimpArgs false
namespace Jvm.RoadKit
open Sem ClassFile Op Lib Jvm.Stand Jvm.Free Jvm.LawKit
section New
variable {p : Program} {l : Launch} {e : Env} {R : Room} {s : State} {m : MethodId} {args : Array Value} {below : List Frame} {meth : Method} {c : Code} {T : State} {locs : List Loc} {cells slots : Nat}
theorem retI (X : Stand p l e R s m args below meth c T locs cells slots) (hx : p.tables.exec = Jvm.exec) {pc : Nat} {Ls : Array Slot} {z : Int32} {rest : List Value} (hret : meth.sig.returnType = some .int) (hd : decode c.code pc = .ok (.ireturn, 1)) {fs : List Frame}
    (hl : ∀ (f : JFrame) (acts : List Action), f.method = m → f.locked = none → f.entered = [] → (doReturn e (T.setTop f) acts (some (.int z))).1 = T.setFrames fs) : Steps p.tables e below (T.setTop (mkF m pc Ls (.int z :: rest))) (T.setFrames fs) := by
  have hm' : T.vm.method? m = some meth := X.method'
  have hn : narrow .int (.int z) = .int z := rfl
  show Steps p.tables e below (T.setTop { method := m, pc := pc, locals := Ls, stack := _ :: rest, locked := none }) _
  jvm_step X.here [X.here.top, hx, hd, hm', hret, hn]
  first | (intro acts; rw [hl _ acts rfl rfl rfl]) | rw [hl _ _ rfl rfl rfl]
  exact Steps.refl _
end New
end Jvm.RoadKit
namespace Jvm.Pilot.@@N@@
open Jvm Jvm.ClassFile Sem Op Lib Jvm.Free Jvm.Stand Jvm.LawKit Jvm.RoadKit Bundle Jvm.Pilot.@@N@@.Jvm.D
/-- a piece of the walk ahead of what is still to be reached -/
theorem own_go {tb : Tables} {e : Env} {below : List Frame} {A B : State} {P : State → Outcome → Prop} (st : ∀ t, Steps tb e below A t → Steps tb e below B t) (h : ∃ s₂ o, Steps tb e below A s₂ ∧ P s₂ o) : ∃ s₂ o, Steps tb e below B s₂ ∧ P s₂ o := by
  obtain ⟨s₂, o, h1, h2⟩ := h
  exact ⟨s₂, o, st _ h1, h2⟩
/-- an int[] of n places that holds f k at place k -/
def own_A (Z : State) (h : Heap) (a : Addr) (n : Nat) (f : Nat → Int32) : Prop := ∃ cl : Cell, Arr Z h a cl .int ∧ cl.slots.size = n ∧ ∀ k, k < n → cl.slots[k]? = some (.int (f k))
def own_upd (f : Nat → Int32) (j : Nat) (x : Int32) (k : Nat) : Int32 := if k = j then x else f k
theorem own_A.ext {Z : State} {h h' : Heap} {a : Addr} {n : Nat} {f : Nat → Int32} (A : own_A Z h a n f) (E : Ext h h') : own_A Z h' a n f := by
  obtain ⟨cl, A, r⟩ := A; exact ⟨cl, A.ext E, r⟩
theorem own_A.lt {Z : State} {h : Heap} {a : Addr} {n : Nat} {f : Nat → Int32} (A : own_A Z h a n f) : a < h.size := by
  obtain ⟨cl, A, r⟩ := A; exact A.lt
theorem own_A.fresh {Z : State} {h : Heap} {a : Addr} {k : ClassId} {z : Int32} {n : Nat} (A : Arr Z h a (newA k .int z) .int) (hz : z.toNatClampNeg = n) : own_A Z h a n (fun _ => 0) := by
  refine ⟨_, A, by rw [sz_new, hz], fun i hi => ?_⟩
  show (Array.replicate z.toNatClampNeg (defaultValue .int))[i]? = _
  rw [hz, Array.getElem?_replicate, if_pos hi]; rfl
theorem own_A.wr {Z : State} {h h' : Heap} {a : Addr} {n : Nat} {f : Nat → Int32} {j : Nat} {x : Int32} (A : own_A Z h a n f) (W : Wr h h' a j (.int x)) (hj : j < n) : own_A Z h' a n (own_upd f j x) := by
  obtain ⟨cl, A, S, H⟩ := A
  refine ⟨_, A.same W, by rw [sz_set]; exact S, fun k hk => ?_⟩
  show (cl.slots.setIfInBounds j (.int x))[k]? = _
  rw [Array.getElem?_setIfInBounds]
  unfold own_upd
  by_cases q : k = j
  · rw [if_pos q.symm, if_pos q, if_pos (by omega)]
  · rw [if_neg (Ne.symm q), if_neg q]; exact H k hk
theorem own_A.other {Z : State} {h h' : Heap} {a b : Addr} {n : Nat} {f : Nat → Int32} {j : Nat} {v : Value} (A : own_A Z h b n f) (W : Wr h h' a j v) (hne : b ≠ a) : own_A Z h' b n f := by
  obtain ⟨cl, A, r⟩ := A; exact ⟨cl, A.other W hne, r⟩
section Arrays
variable {p : Program} {l : Launch} {e : Env} {R : Room} {s : State} {m : MethodId} {args : Array Value} {below : List Frame} {meth : Method} {c : Code} {T : State} {locs : List Loc} {cells slots : Nat} {Z : State} {a0 : Array Value} {h : Heap} {P : State → Outcome → Prop}
theorem own_new (X : Stand p l e R s m args below meth c T locs cells slots) (hx : p.tables.exec = Jvm.exec) (hZ : Z.Warmed39 s.vm) (w : (Jvm.Cond.arrayClass (newarray.typeOf .int)).before a0 Z = true) (eT : T.heap = h) {g : JFrame} (hg : g.method = m) (hd : decode c.code g.pc = .ok (.newarray .int, 2)) {z : Int32} {rest : List Value} (hs : g.stack = .int z :: rest)
    (n : Nat) (hz : z.toNatClampNeg = n) (hz0 : ¬ z < 0) (hb : n * 8 ≤ 536870912) (hc : cells + 1 ≤ R.cells) (hl : slots + n ≤ R.slots)
    (K : ∀ T' h' a, Stand p l e R s m args below meth c T' locs (cells + 1) (slots + n) → T'.heap = h' → Ext h h' → h.size ≤ a → own_A Z h' a n (fun _ => 0) → ∃ s₂ o, Steps p.tables e below (T'.setTop { g with pc := g.pc + 2, stack := .ref a :: rest }) s₂ ∧ P s₂ o) :
    ∃ s₂ o, Steps p.tables e below (T.setTop g) s₂ ∧ P s₂ o := by
  obtain ⟨T', h', cA, X', e', E, A, st⟩ := newP X hx hZ w eT hg hd hs hz0 (cap := n) (Nat.le_of_eq hz) hb hc hl
  exact own_go st (K T' h' _ X' e' E (Nat.le_refl _) (own_A.fresh A hz))
theorem own_put (X : Stand p l e R s m args below meth c T locs cells slots) (hx : p.tables.exec = Jvm.exec) (hZ : Z.Warmed39 s.vm) (eT : T.heap = h) {a : Addr} {n : Nat} {f : Nat → Int32} (A : own_A Z h a n f) {j x : Int32} (jn : Nat) (hj : j.toNatClampNeg = jn) (hj0 : ¬ j < 0) (hl : jn < n) {n0 : Nat} (N : Fr n0 locs) (ga : n0 ≤ a)
    {g : JFrame} (hg : g.method = m) {rest : List Value} (hs : g.stack = .int x :: .int j :: .ref a :: rest) (hd : decode c.code g.pc = .ok (.iastore, 1))
    (K : ∀ T' h' locs', Stand p l e R s m args below meth c T' locs' cells slots → T'.heap = h' → own_A Z h' a n (own_upd f jn x) → (∀ b k q, b ≠ a → own_A Z h b k q → own_A Z h' b k q) → h.size ≤ h'.size → Fr n0 locs' → ∃ s₂ o, Steps p.tables e below (T'.setTop { g with pc := g.pc + 1, stack := rest }) s₂ ∧ P s₂ o) :
    ∃ s₂ o, Steps p.tables e below (T.setTop g) s₂ ∧ P s₂ o := by
  obtain ⟨cl, Ar, S, H⟩ := A
  obtain ⟨T', h', X', e', W, st⟩ := stI X hx hZ eT Ar (j := j) (x := x) (by rw [S, hj]; exact fun q => q.elim hj0 (fun q => by omega)) hg hs hd
  have A' : own_A Z h a n f := ⟨cl, Ar, S, H⟩
  refine own_go st (K T' h' _ X' e' ?_ (fun b k q hb B => B.other W hb) (Nat.le_of_eq W.size.symm) (Fr.snoc X' N ga))
  rw [hj] at W
  exact A'.wr W hl
theorem own_get (X : Stand p l e R s m args below meth c T locs cells slots) (hx : p.tables.exec = Jvm.exec) (hZ : Z.Warmed39 s.vm) (eT : T.heap = h) {a : Addr} {n : Nat} {f : Nat → Int32} (A : own_A Z h a n f) {j : Int32} (jn : Nat) (hj : j.toNatClampNeg = jn) (hj0 : ¬ j < 0) (hl : jn < n)
    {g : JFrame} (hg : g.method = m) {rest : List Value} (hs : g.stack = .int j :: .ref a :: rest) (hd : decode c.code g.pc = .ok (.iaload, 1)) :
    ∀ target, Steps p.tables e below (T.setTop { g with pc := g.pc + 1, stack := .int (f jn) :: rest }) target → Steps p.tables e below (T.setTop g) target := by
  obtain ⟨cl, Ar, S, H⟩ := A
  exact X.iaload hx (j := j) (v := (.int (f jn))) (by rw [eT]; exact Ar.1) (State.isArrayOf_alike hZ.alike Ar.2.1) Ar.2.2 (by rw [S, hj]; exact fun q => q.elim hj0 (fun q => by omega)) (by rw [hj]; exact H jn hl) hg hs hd
end Arrays
theorem d1_0 : decode prog_149_method_2_code 0 = .ok (.iload_n 0, 1) := by decide +kernel
theorem d1_1 : decode prog_149_method_2_code 1 = .ok (.bipush 97, 2) := by decide +kernel
theorem d1_3 : decode prog_149_method_2_code 3 = .ok (.if_icmp .lt 9, 3) := by decide +kernel
theorem d1_6 : decode prog_149_method_2_code 6 = .ok (.iload_n 0, 1) := by decide +kernel
theorem d1_7 : decode prog_149_method_2_code 7 = .ok (.bipush 122, 2) := by decide +kernel
theorem d1_9 : decode prog_149_method_2_code 9 = .ok (.if_icmp .le 182, 3) := by decide +kernel
theorem d1_12 : decode prog_149_method_2_code 12 = .ok (.iload_n 0, 1) := by decide +kernel
theorem d1_13 : decode prog_149_method_2_code 13 = .ok (.bipush 65, 2) := by decide +kernel
theorem d1_15 : decode prog_149_method_2_code 15 = .ok (.if_icmp .lt 9, 3) := by decide +kernel
theorem d1_18 : decode prog_149_method_2_code 18 = .ok (.iload_n 0, 1) := by decide +kernel
theorem d1_19 : decode prog_149_method_2_code 19 = .ok (.bipush 90, 2) := by decide +kernel
theorem d1_21 : decode prog_149_method_2_code 21 = .ok (.if_icmp .le 170, 3) := by decide +kernel
theorem d1_24 : decode prog_149_method_2_code 24 = .ok (.iload_n 0, 1) := by decide +kernel
theorem d1_25 : decode prog_149_method_2_code 25 = .ok (.bipush 95, 2) := by decide +kernel
theorem d1_27 : decode prog_149_method_2_code 27 = .ok (.if_icmp .eq 164, 3) := by decide +kernel
theorem d1_30 : decode prog_149_method_2_code 30 = .ok (.iload_n 0, 1) := by decide +kernel
theorem d1_31 : decode prog_149_method_2_code 31 = .ok (.sipush 192, 3) := by decide +kernel
theorem d1_34 : decode prog_149_method_2_code 34 = .ok (.if_icmp .lt 10, 3) := by decide +kernel
theorem d1_37 : decode prog_149_method_2_code 37 = .ok (.iload_n 0, 1) := by decide +kernel
theorem d1_38 : decode prog_149_method_2_code 38 = .ok (.sipush 214, 3) := by decide +kernel
theorem d1_41 : decode prog_149_method_2_code 41 = .ok (.if_icmp .le 150, 3) := by decide +kernel
theorem d1_44 : decode prog_149_method_2_code 44 = .ok (.iload_n 0, 1) := by decide +kernel
theorem d1_45 : decode prog_149_method_2_code 45 = .ok (.sipush 216, 3) := by decide +kernel
theorem d1_48 : decode prog_149_method_2_code 48 = .ok (.if_icmp .lt 10, 3) := by decide +kernel
theorem d1_51 : decode prog_149_method_2_code 51 = .ok (.iload_n 0, 1) := by decide +kernel
theorem d1_52 : decode prog_149_method_2_code 52 = .ok (.sipush 246, 3) := by decide +kernel
theorem d1_55 : decode prog_149_method_2_code 55 = .ok (.if_icmp .le 136, 3) := by decide +kernel
theorem d1_58 : decode prog_149_method_2_code 58 = .ok (.iload_n 0, 1) := by decide +kernel
theorem d1_59 : decode prog_149_method_2_code 59 = .ok (.sipush 248, 3) := by decide +kernel
theorem d1_62 : decode prog_149_method_2_code 62 = .ok (.if_icmp .lt 10, 3) := by decide +kernel
theorem d1_65 : decode prog_149_method_2_code 65 = .ok (.iload_n 0, 1) := by decide +kernel
theorem d1_66 : decode prog_149_method_2_code 66 = .ok (.sipush 767, 3) := by decide +kernel
theorem d1_69 : decode prog_149_method_2_code 69 = .ok (.if_icmp .le 122, 3) := by decide +kernel
theorem d1_72 : decode prog_149_method_2_code 72 = .ok (.iload_n 0, 1) := by decide +kernel
theorem d1_73 : decode prog_149_method_2_code 73 = .ok (.sipush 880, 3) := by decide +kernel
theorem d1_76 : decode prog_149_method_2_code 76 = .ok (.if_icmp .lt 10, 3) := by decide +kernel
theorem d1_79 : decode prog_149_method_2_code 79 = .ok (.iload_n 0, 1) := by decide +kernel
theorem d1_80 : decode prog_149_method_2_code 80 = .ok (.sipush 893, 3) := by decide +kernel
theorem d1_83 : decode prog_149_method_2_code 83 = .ok (.if_icmp .le 108, 3) := by decide +kernel
theorem d1_86 : decode prog_149_method_2_code 86 = .ok (.iload_n 0, 1) := by decide +kernel
theorem d1_87 : decode prog_149_method_2_code 87 = .ok (.sipush 895, 3) := by decide +kernel
theorem d1_90 : decode prog_149_method_2_code 90 = .ok (.if_icmp .lt 10, 3) := by decide +kernel
theorem d1_93 : decode prog_149_method_2_code 93 = .ok (.iload_n 0, 1) := by decide +kernel
theorem d1_94 : decode prog_149_method_2_code 94 = .ok (.sipush 8191, 3) := by decide +kernel
theorem d1_97 : decode prog_149_method_2_code 97 = .ok (.if_icmp .le 94, 3) := by decide +kernel
theorem d1_100 : decode prog_149_method_2_code 100 = .ok (.iload_n 0, 1) := by decide +kernel
theorem d1_101 : decode prog_149_method_2_code 101 = .ok (.sipush 8204, 3) := by decide +kernel
theorem d1_104 : decode prog_149_method_2_code 104 = .ok (.if_icmp .lt 10, 3) := by decide +kernel
theorem d1_107 : decode prog_149_method_2_code 107 = .ok (.iload_n 0, 1) := by decide +kernel
theorem d1_108 : decode prog_149_method_2_code 108 = .ok (.sipush 8205, 3) := by decide +kernel
theorem d1_111 : decode prog_149_method_2_code 111 = .ok (.if_icmp .le 80, 3) := by decide +kernel
theorem d1_114 : decode prog_149_method_2_code 114 = .ok (.iload_n 0, 1) := by decide +kernel
theorem d1_115 : decode prog_149_method_2_code 115 = .ok (.sipush 8304, 3) := by decide +kernel
theorem d1_118 : decode prog_149_method_2_code 118 = .ok (.if_icmp .lt 10, 3) := by decide +kernel
theorem d1_121 : decode prog_149_method_2_code 121 = .ok (.iload_n 0, 1) := by decide +kernel
theorem d1_122 : decode prog_149_method_2_code 122 = .ok (.sipush 8591, 3) := by decide +kernel
theorem d1_125 : decode prog_149_method_2_code 125 = .ok (.if_icmp .le 66, 3) := by decide +kernel
theorem d1_128 : decode prog_149_method_2_code 128 = .ok (.iload_n 0, 1) := by decide +kernel
theorem d1_129 : decode prog_149_method_2_code 129 = .ok (.sipush 11264, 3) := by decide +kernel
theorem d1_132 : decode prog_149_method_2_code 132 = .ok (.if_icmp .lt 10, 3) := by decide +kernel
theorem d1_135 : decode prog_149_method_2_code 135 = .ok (.iload_n 0, 1) := by decide +kernel
theorem d1_136 : decode prog_149_method_2_code 136 = .ok (.sipush 12271, 3) := by decide +kernel
theorem d1_139 : decode prog_149_method_2_code 139 = .ok (.if_icmp .le 52, 3) := by decide +kernel
theorem d1_142 : decode prog_149_method_2_code 142 = .ok (.iload_n 0, 1) := by decide +kernel
theorem d1_143 : decode prog_149_method_2_code 143 = .ok (.sipush 12289, 3) := by decide +kernel
theorem d1_146 : decode prog_149_method_2_code 146 = .ok (.if_icmp .lt 9, 3) := by decide +kernel
theorem d1_149 : decode prog_149_method_2_code 149 = .ok (.iload_n 0, 1) := by decide +kernel
theorem d1_150 : decode prog_149_method_2_code 150 = .ok (.ldc 7, 2) := by decide +kernel
theorem d1_152 : decode prog_149_method_2_code 152 = .ok (.if_icmp .le 39, 3) := by decide +kernel
theorem d1_155 : decode prog_149_method_2_code 155 = .ok (.iload_n 0, 1) := by decide +kernel
theorem d1_156 : decode prog_149_method_2_code 156 = .ok (.ldc 8, 2) := by decide +kernel
theorem d1_158 : decode prog_149_method_2_code 158 = .ok (.if_icmp .lt 9, 3) := by decide +kernel
theorem d1_161 : decode prog_149_method_2_code 161 = .ok (.iload_n 0, 1) := by decide +kernel
theorem d1_162 : decode prog_149_method_2_code 162 = .ok (.ldc 9, 2) := by decide +kernel
theorem d1_164 : decode prog_149_method_2_code 164 = .ok (.if_icmp .le 27, 3) := by decide +kernel
theorem d1_167 : decode prog_149_method_2_code 167 = .ok (.iload_n 0, 1) := by decide +kernel
theorem d1_168 : decode prog_149_method_2_code 168 = .ok (.ldc 10, 2) := by decide +kernel
theorem d1_170 : decode prog_149_method_2_code 170 = .ok (.if_icmp .lt 9, 3) := by decide +kernel
theorem d1_173 : decode prog_149_method_2_code 173 = .ok (.iload_n 0, 1) := by decide +kernel
theorem d1_174 : decode prog_149_method_2_code 174 = .ok (.ldc 11, 2) := by decide +kernel
theorem d1_176 : decode prog_149_method_2_code 176 = .ok (.if_icmp .le 15, 3) := by decide +kernel
theorem d1_179 : decode prog_149_method_2_code 179 = .ok (.iload_n 0, 1) := by decide +kernel
theorem d1_180 : decode prog_149_method_2_code 180 = .ok (.ldc 12, 2) := by decide +kernel
theorem d1_182 : decode prog_149_method_2_code 182 = .ok (.if_icmp .lt 13, 3) := by decide +kernel
theorem d1_185 : decode prog_149_method_2_code 185 = .ok (.iload_n 0, 1) := by decide +kernel
theorem d1_186 : decode prog_149_method_2_code 186 = .ok (.ldc 13, 2) := by decide +kernel
theorem d1_188 : decode prog_149_method_2_code 188 = .ok (.if_icmp .gt 7, 3) := by decide +kernel
theorem d1_191 : decode prog_149_method_2_code 191 = .ok (.iconst 1, 1) := by decide +kernel
theorem d1_192 : decode prog_149_method_2_code 192 = .ok (.goto 4, 3) := by decide +kernel
theorem d1_195 : decode prog_149_method_2_code 195 = .ok (.iconst 0, 1) := by decide +kernel
theorem d1_196 : decode prog_149_method_2_code 196 = .ok (.ireturn, 1) := by decide +kernel
theorem pn_1 : plainName "com/example/coxt/coxt/tree/XmlNames" = true := by first | (simp [plainName, overriddenIn]; done) | decide +kernel
theorem ef_1 (m : MethodId) (p1 : Int32) : entryFrame m #[(.int p1)] 1 = mkF m 0 #[.val (.int p1)] [] := by first | (simp [entryFrame, mkF, argsToLocals, Value.category]; done) | rfl
def F1_179 (p1 : Int32) : Int32 := (if p1 < (65536 : Int32) then (0 : Int32) else (if (983039 : Int32) < p1 then (0 : Int32) else (1 : Int32)))
set_option maxRecDepth 65536 in
set_option maxHeartbeats 40000000 in
theorem bk1_179 {p : Program} {l : Launch} {e : Env} {R : Room} {s : State} {m : MethodId} {args : Array Value} {below : List Frame} {meth : Method} {c : Code} {T0 : State} {locs : List Loc} {cells slots : Nat} {Z : State} {a0 : Array Value} (p1 : Int32)
    (X0 : Stand p l e R s m args below meth c T0 locs cells slots) (hx : p.tables.exec = Jvm.exec) (hZ : Z.Warmed39 s.vm) (hw : ∀ d ∈ tables_1, d.before a0 Z = true) (hby : c.code = prog_149_method_2_code) (hown : s.vm.findClass "com/example/coxt/coxt/tree/XmlNames" = some m.cls) (hret : meth.sig.returnType = some .boolean) {fs : List Frame}
    (hr : ∀ (f : JFrame) (acts : List Action), f.method = m → f.locked = none → f.entered = [] → (doReturn e (T0.setTop f) acts (some (.int (F1_179 p1)))).1 = T0.setFrames fs) :
    Steps p.tables e below (T0.setTop (mkF m 179 #[.val (.int p1)] [])) (T0.setFrames fs) := by
  show Steps p.tables e below (T0.setTop (mkF m 179 #[.val (.int p1)] [])) _
  refine XS.iloadN X0.here hx rfl (hb hby d1_179) rfl ?_
  show Steps p.tables e below (T0.setTop (mkF m 180 #[.val (.int p1)] [(.int p1)])) _
  refine X0.ldcInt hx hown (mvT hZ (hw _ (List.mem_of_getElem? (i := 15) rfl))) (g := (mkF m 180 #[.val (.int p1)] [(.int p1)])) rfl (hb hby d1_180) _ ?_
  show Steps p.tables e below (T0.setTop (mkF m 182 #[.val (.int p1)] [(.int (65536 : Int32)), (.int p1)])) _
  by_cases hc182 : p1 < (65536 : Int32)
  · refine XS.icmpYes X0.here hx rfl (pc0 := 182) (pc' := 195) rfl (hb hby d1_182) rfl (tlt hc182).1 (by decide) (by decide) ?_
    show Steps p.tables e below (T0.setTop (mkF m 195 #[.val (.int p1)] [])) _
    refine XS.iconst X0.here hx rfl (hb hby d1_195) ?_
    show Steps p.tables e below (T0.setTop (mkF m 196 #[.val (.int p1)] [(.int (0 : Int32))])) _
    rw [show F1_179 p1 = (0 : Int32) from by unfold F1_179; rw [if_pos hc182]] at hr
    exact retN X0 hx (t := .boolean) hret (by simp) (hb hby d1_196) hr
  · refine XS.icmpNo X0.here hx rfl (hb hby d1_182) rfl (flt hc182).1 ?_
    show Steps p.tables e below (T0.setTop (mkF m 185 #[.val (.int p1)] [])) _
    refine XS.iloadN X0.here hx rfl (hb hby d1_185) rfl ?_
    show Steps p.tables e below (T0.setTop (mkF m 186 #[.val (.int p1)] [(.int p1)])) _
    refine X0.ldcInt hx hown (mvT hZ (hw _ (List.mem_of_getElem? (i := 24) rfl))) (g := (mkF m 186 #[.val (.int p1)] [(.int p1)])) rfl (hb hby d1_186) _ ?_
    show Steps p.tables e below (T0.setTop (mkF m 188 #[.val (.int p1)] [(.int (983039 : Int32)), (.int p1)])) _
    by_cases hc188 : (983039 : Int32) < p1
    · refine XS.icmpYes X0.here hx rfl (pc0 := 188) (pc' := 195) rfl (hb hby d1_188) rfl (tlt hc188).2.2.1 (by decide) (by decide) ?_
      show Steps p.tables e below (T0.setTop (mkF m 195 #[.val (.int p1)] [])) _
      refine XS.iconst X0.here hx rfl (hb hby d1_195) ?_
      show Steps p.tables e below (T0.setTop (mkF m 196 #[.val (.int p1)] [(.int (0 : Int32))])) _
      rw [show F1_179 p1 = (0 : Int32) from by unfold F1_179; rw [if_neg hc182, if_pos hc188]] at hr
      exact retN X0 hx (t := .boolean) hret (by simp) (hb hby d1_196) hr
    · refine XS.icmpNo X0.here hx rfl (hb hby d1_188) rfl (flt hc188).2.2.1 ?_
      show Steps p.tables e below (T0.setTop (mkF m 191 #[.val (.int p1)] [])) _
      refine XS.iconst X0.here hx rfl (hb hby d1_191) ?_
      show Steps p.tables e below (T0.setTop (mkF m 192 #[.val (.int p1)] [(.int (1 : Int32))])) _
      refine XS.goto X0.here hx rfl (pc0 := 192) (pc' := 196) rfl (hb hby d1_192) (by decide) (by decide) ?_
      show Steps p.tables e below (T0.setTop (mkF m 196 #[.val (.int p1)] [(.int (1 : Int32))])) _
      rw [show F1_179 p1 = (1 : Int32) from by unfold F1_179; rw [if_neg hc182, if_neg hc188]] at hr
      exact retN X0 hx (t := .boolean) hret (by simp) (hb hby d1_196) hr
def F1_167 (p1 : Int32) : Int32 := (if p1 < (65008 : Int32) then (F1_179 p1) else (if (65533 : Int32) < p1 then (F1_179 p1) else (1 : Int32)))
set_option maxRecDepth 65536 in
set_option maxHeartbeats 40000000 in
theorem bk1_167 {p : Program} {l : Launch} {e : Env} {R : Room} {s : State} {m : MethodId} {args : Array Value} {below : List Frame} {meth : Method} {c : Code} {T0 : State} {locs : List Loc} {cells slots : Nat} {Z : State} {a0 : Array Value} (p1 : Int32)
    (X0 : Stand p l e R s m args below meth c T0 locs cells slots) (hx : p.tables.exec = Jvm.exec) (hZ : Z.Warmed39 s.vm) (hw : ∀ d ∈ tables_1, d.before a0 Z = true) (hby : c.code = prog_149_method_2_code) (hown : s.vm.findClass "com/example/coxt/coxt/tree/XmlNames" = some m.cls) (hret : meth.sig.returnType = some .boolean) {fs : List Frame}
    (hr : ∀ (f : JFrame) (acts : List Action), f.method = m → f.locked = none → f.entered = [] → (doReturn e (T0.setTop f) acts (some (.int (F1_167 p1)))).1 = T0.setFrames fs) :
    Steps p.tables e below (T0.setTop (mkF m 167 #[.val (.int p1)] [])) (T0.setFrames fs) := by
  show Steps p.tables e below (T0.setTop (mkF m 167 #[.val (.int p1)] [])) _
  refine XS.iloadN X0.here hx rfl (hb hby d1_167) rfl ?_
  show Steps p.tables e below (T0.setTop (mkF m 168 #[.val (.int p1)] [(.int p1)])) _
  refine X0.ldcInt hx hown (mvT hZ (hw _ (List.mem_of_getElem? (i := 14) rfl))) (g := (mkF m 168 #[.val (.int p1)] [(.int p1)])) rfl (hb hby d1_168) _ ?_
  show Steps p.tables e below (T0.setTop (mkF m 170 #[.val (.int p1)] [(.int (65008 : Int32)), (.int p1)])) _
  by_cases hc170 : p1 < (65008 : Int32)
  · refine XS.icmpYes X0.here hx rfl (pc0 := 170) (pc' := 179) rfl (hb hby d1_170) rfl (tlt hc170).1 (by decide) (by decide) ?_
    show Steps p.tables e below (T0.setTop (mkF m 179 #[.val (.int p1)] [])) _
    rw [show F1_167 p1 = F1_179 p1 from by unfold F1_167; rw [if_pos hc170]] at hr
    exact bk1_179 p1 X0 hx hZ hw hby hown hret hr
  · refine XS.icmpNo X0.here hx rfl (hb hby d1_170) rfl (flt hc170).1 ?_
    show Steps p.tables e below (T0.setTop (mkF m 173 #[.val (.int p1)] [])) _
    refine XS.iloadN X0.here hx rfl (hb hby d1_173) rfl ?_
    show Steps p.tables e below (T0.setTop (mkF m 174 #[.val (.int p1)] [(.int p1)])) _
    refine X0.ldcInt hx hown (mvT hZ (hw _ (List.mem_of_getElem? (i := 23) rfl))) (g := (mkF m 174 #[.val (.int p1)] [(.int p1)])) rfl (hb hby d1_174) _ ?_
    show Steps p.tables e below (T0.setTop (mkF m 176 #[.val (.int p1)] [(.int (65533 : Int32)), (.int p1)])) _
    by_cases hc176 : (65533 : Int32) < p1
    · refine XS.icmpNo X0.here hx rfl (hb hby d1_176) rfl (tlt hc176).2.2.2 ?_
      show Steps p.tables e below (T0.setTop (mkF m 179 #[.val (.int p1)] [])) _
      rw [show F1_167 p1 = F1_179 p1 from by unfold F1_167; rw [if_neg hc170, if_pos hc176]] at hr
      exact bk1_179 p1 X0 hx hZ hw hby hown hret hr
    · refine XS.icmpYes X0.here hx rfl (pc0 := 176) (pc' := 191) rfl (hb hby d1_176) rfl (flt hc176).2.2.2 (by decide) (by decide) ?_
      show Steps p.tables e below (T0.setTop (mkF m 191 #[.val (.int p1)] [])) _
      refine XS.iconst X0.here hx rfl (hb hby d1_191) ?_
      show Steps p.tables e below (T0.setTop (mkF m 192 #[.val (.int p1)] [(.int (1 : Int32))])) _
      refine XS.goto X0.here hx rfl (pc0 := 192) (pc' := 196) rfl (hb hby d1_192) (by decide) (by decide) ?_
      show Steps p.tables e below (T0.setTop (mkF m 196 #[.val (.int p1)] [(.int (1 : Int32))])) _
      rw [show F1_167 p1 = (1 : Int32) from by unfold F1_167; rw [if_neg hc170, if_neg hc176]] at hr
      exact retN X0 hx (t := .boolean) hret (by simp) (hb hby d1_196) hr
def F1_155 (p1 : Int32) : Int32 := (if p1 < (63744 : Int32) then (F1_167 p1) else (if (64975 : Int32) < p1 then (F1_167 p1) else (1 : Int32)))
set_option maxRecDepth 65536 in
set_option maxHeartbeats 40000000 in
theorem bk1_155 {p : Program} {l : Launch} {e : Env} {R : Room} {s : State} {m : MethodId} {args : Array Value} {below : List Frame} {meth : Method} {c : Code} {T0 : State} {locs : List Loc} {cells slots : Nat} {Z : State} {a0 : Array Value} (p1 : Int32)
    (X0 : Stand p l e R s m args below meth c T0 locs cells slots) (hx : p.tables.exec = Jvm.exec) (hZ : Z.Warmed39 s.vm) (hw : ∀ d ∈ tables_1, d.before a0 Z = true) (hby : c.code = prog_149_method_2_code) (hown : s.vm.findClass "com/example/coxt/coxt/tree/XmlNames" = some m.cls) (hret : meth.sig.returnType = some .boolean) {fs : List Frame}
    (hr : ∀ (f : JFrame) (acts : List Action), f.method = m → f.locked = none → f.entered = [] → (doReturn e (T0.setTop f) acts (some (.int (F1_155 p1)))).1 = T0.setFrames fs) :
    Steps p.tables e below (T0.setTop (mkF m 155 #[.val (.int p1)] [])) (T0.setFrames fs) := by
  show Steps p.tables e below (T0.setTop (mkF m 155 #[.val (.int p1)] [])) _
  refine XS.iloadN X0.here hx rfl (hb hby d1_155) rfl ?_
  show Steps p.tables e below (T0.setTop (mkF m 156 #[.val (.int p1)] [(.int p1)])) _
  refine X0.ldcInt hx hown (mvT hZ (hw _ (List.mem_of_getElem? (i := 13) rfl))) (g := (mkF m 156 #[.val (.int p1)] [(.int p1)])) rfl (hb hby d1_156) _ ?_
  show Steps p.tables e below (T0.setTop (mkF m 158 #[.val (.int p1)] [(.int (63744 : Int32)), (.int p1)])) _
  by_cases hc158 : p1 < (63744 : Int32)
  · refine XS.icmpYes X0.here hx rfl (pc0 := 158) (pc' := 167) rfl (hb hby d1_158) rfl (tlt hc158).1 (by decide) (by decide) ?_
    show Steps p.tables e below (T0.setTop (mkF m 167 #[.val (.int p1)] [])) _
    rw [show F1_155 p1 = F1_167 p1 from by unfold F1_155; rw [if_pos hc158]] at hr
    exact bk1_167 p1 X0 hx hZ hw hby hown hret hr
  · refine XS.icmpNo X0.here hx rfl (hb hby d1_158) rfl (flt hc158).1 ?_
    show Steps p.tables e below (T0.setTop (mkF m 161 #[.val (.int p1)] [])) _
    refine XS.iloadN X0.here hx rfl (hb hby d1_161) rfl ?_
    show Steps p.tables e below (T0.setTop (mkF m 162 #[.val (.int p1)] [(.int p1)])) _
    refine X0.ldcInt hx hown (mvT hZ (hw _ (List.mem_of_getElem? (i := 22) rfl))) (g := (mkF m 162 #[.val (.int p1)] [(.int p1)])) rfl (hb hby d1_162) _ ?_
    show Steps p.tables e below (T0.setTop (mkF m 164 #[.val (.int p1)] [(.int (64975 : Int32)), (.int p1)])) _
    by_cases hc164 : (64975 : Int32) < p1
    · refine XS.icmpNo X0.here hx rfl (hb hby d1_164) rfl (tlt hc164).2.2.2 ?_
      show Steps p.tables e below (T0.setTop (mkF m 167 #[.val (.int p1)] [])) _
      rw [show F1_155 p1 = F1_167 p1 from by unfold F1_155; rw [if_neg hc158, if_pos hc164]] at hr
      exact bk1_167 p1 X0 hx hZ hw hby hown hret hr
    · refine XS.icmpYes X0.here hx rfl (pc0 := 164) (pc' := 191) rfl (hb hby d1_164) rfl (flt hc164).2.2.2 (by decide) (by decide) ?_
      show Steps p.tables e below (T0.setTop (mkF m 191 #[.val (.int p1)] [])) _
      refine XS.iconst X0.here hx rfl (hb hby d1_191) ?_
      show Steps p.tables e below (T0.setTop (mkF m 192 #[.val (.int p1)] [(.int (1 : Int32))])) _
      refine XS.goto X0.here hx rfl (pc0 := 192) (pc' := 196) rfl (hb hby d1_192) (by decide) (by decide) ?_
      show Steps p.tables e below (T0.setTop (mkF m 196 #[.val (.int p1)] [(.int (1 : Int32))])) _
      rw [show F1_155 p1 = (1 : Int32) from by unfold F1_155; rw [if_neg hc158, if_neg hc164]] at hr
      exact retN X0 hx (t := .boolean) hret (by simp) (hb hby d1_196) hr
def F1_142 (p1 : Int32) : Int32 := (if p1 < (12289 : Int32) then (F1_155 p1) else (if (55295 : Int32) < p1 then (F1_155 p1) else (1 : Int32)))
set_option maxRecDepth 65536 in
set_option maxHeartbeats 40000000 in
theorem bk1_142 {p : Program} {l : Launch} {e : Env} {R : Room} {s : State} {m : MethodId} {args : Array Value} {below : List Frame} {meth : Method} {c : Code} {T0 : State} {locs : List Loc} {cells slots : Nat} {Z : State} {a0 : Array Value} (p1 : Int32)
    (X0 : Stand p l e R s m args below meth c T0 locs cells slots) (hx : p.tables.exec = Jvm.exec) (hZ : Z.Warmed39 s.vm) (hw : ∀ d ∈ tables_1, d.before a0 Z = true) (hby : c.code = prog_149_method_2_code) (hown : s.vm.findClass "com/example/coxt/coxt/tree/XmlNames" = some m.cls) (hret : meth.sig.returnType = some .boolean) {fs : List Frame}
    (hr : ∀ (f : JFrame) (acts : List Action), f.method = m → f.locked = none → f.entered = [] → (doReturn e (T0.setTop f) acts (some (.int (F1_142 p1)))).1 = T0.setFrames fs) :
    Steps p.tables e below (T0.setTop (mkF m 142 #[.val (.int p1)] [])) (T0.setFrames fs) := by
  show Steps p.tables e below (T0.setTop (mkF m 142 #[.val (.int p1)] [])) _
  refine XS.iloadN X0.here hx rfl (hb hby d1_142) rfl ?_
  show Steps p.tables e below (T0.setTop (mkF m 143 #[.val (.int p1)] [(.int p1)])) _
  refine XS.sipush X0.here hx rfl (hb hby d1_143) ?_
  show Steps p.tables e below (T0.setTop (mkF m 146 #[.val (.int p1)] [(.int (12289 : Int32)), (.int p1)])) _
  by_cases hc146 : p1 < (12289 : Int32)
  · refine XS.icmpYes X0.here hx rfl (pc0 := 146) (pc' := 155) rfl (hb hby d1_146) rfl (tlt hc146).1 (by decide) (by decide) ?_
    show Steps p.tables e below (T0.setTop (mkF m 155 #[.val (.int p1)] [])) _
    rw [show F1_142 p1 = F1_155 p1 from by unfold F1_142; rw [if_pos hc146]] at hr
    exact bk1_155 p1 X0 hx hZ hw hby hown hret hr
  · refine XS.icmpNo X0.here hx rfl (hb hby d1_146) rfl (flt hc146).1 ?_
    show Steps p.tables e below (T0.setTop (mkF m 149 #[.val (.int p1)] [])) _
    refine XS.iloadN X0.here hx rfl (hb hby d1_149) rfl ?_
    show Steps p.tables e below (T0.setTop (mkF m 150 #[.val (.int p1)] [(.int p1)])) _
    refine X0.ldcInt hx hown (mvT hZ (hw _ (List.mem_of_getElem? (i := 21) rfl))) (g := (mkF m 150 #[.val (.int p1)] [(.int p1)])) rfl (hb hby d1_150) _ ?_
    show Steps p.tables e below (T0.setTop (mkF m 152 #[.val (.int p1)] [(.int (55295 : Int32)), (.int p1)])) _
    by_cases hc152 : (55295 : Int32) < p1
    · refine XS.icmpNo X0.here hx rfl (hb hby d1_152) rfl (tlt hc152).2.2.2 ?_
      show Steps p.tables e below (T0.setTop (mkF m 155 #[.val (.int p1)] [])) _
      rw [show F1_142 p1 = F1_155 p1 from by unfold F1_142; rw [if_neg hc146, if_pos hc152]] at hr
      exact bk1_155 p1 X0 hx hZ hw hby hown hret hr
    · refine XS.icmpYes X0.here hx rfl (pc0 := 152) (pc' := 191) rfl (hb hby d1_152) rfl (flt hc152).2.2.2 (by decide) (by decide) ?_
      show Steps p.tables e below (T0.setTop (mkF m 191 #[.val (.int p1)] [])) _
      refine XS.iconst X0.here hx rfl (hb hby d1_191) ?_
      show Steps p.tables e below (T0.setTop (mkF m 192 #[.val (.int p1)] [(.int (1 : Int32))])) _
      refine XS.goto X0.here hx rfl (pc0 := 192) (pc' := 196) rfl (hb hby d1_192) (by decide) (by decide) ?_
      show Steps p.tables e below (T0.setTop (mkF m 196 #[.val (.int p1)] [(.int (1 : Int32))])) _
      rw [show F1_142 p1 = (1 : Int32) from by unfold F1_142; rw [if_neg hc146, if_neg hc152]] at hr
      exact retN X0 hx (t := .boolean) hret (by simp) (hb hby d1_196) hr
def F1_128 (p1 : Int32) : Int32 := (if p1 < (11264 : Int32) then (F1_142 p1) else (if (12271 : Int32) < p1 then (F1_142 p1) else (1 : Int32)))
set_option maxRecDepth 65536 in
set_option maxHeartbeats 40000000 in
theorem bk1_128 {p : Program} {l : Launch} {e : Env} {R : Room} {s : State} {m : MethodId} {args : Array Value} {below : List Frame} {meth : Method} {c : Code} {T0 : State} {locs : List Loc} {cells slots : Nat} {Z : State} {a0 : Array Value} (p1 : Int32)
    (X0 : Stand p l e R s m args below meth c T0 locs cells slots) (hx : p.tables.exec = Jvm.exec) (hZ : Z.Warmed39 s.vm) (hw : ∀ d ∈ tables_1, d.before a0 Z = true) (hby : c.code = prog_149_method_2_code) (hown : s.vm.findClass "com/example/coxt/coxt/tree/XmlNames" = some m.cls) (hret : meth.sig.returnType = some .boolean) {fs : List Frame}
    (hr : ∀ (f : JFrame) (acts : List Action), f.method = m → f.locked = none → f.entered = [] → (doReturn e (T0.setTop f) acts (some (.int (F1_128 p1)))).1 = T0.setFrames fs) :
    Steps p.tables e below (T0.setTop (mkF m 128 #[.val (.int p1)] [])) (T0.setFrames fs) := by
  show Steps p.tables e below (T0.setTop (mkF m 128 #[.val (.int p1)] [])) _
  refine XS.iloadN X0.here hx rfl (hb hby d1_128) rfl ?_
  show Steps p.tables e below (T0.setTop (mkF m 129 #[.val (.int p1)] [(.int p1)])) _
  refine XS.sipush X0.here hx rfl (hb hby d1_129) ?_
  show Steps p.tables e below (T0.setTop (mkF m 132 #[.val (.int p1)] [(.int (11264 : Int32)), (.int p1)])) _
  by_cases hc132 : p1 < (11264 : Int32)
  · refine XS.icmpYes X0.here hx rfl (pc0 := 132) (pc' := 142) rfl (hb hby d1_132) rfl (tlt hc132).1 (by decide) (by decide) ?_
    show Steps p.tables e below (T0.setTop (mkF m 142 #[.val (.int p1)] [])) _
    rw [show F1_128 p1 = F1_142 p1 from by unfold F1_128; rw [if_pos hc132]] at hr
    exact bk1_142 p1 X0 hx hZ hw hby hown hret hr
  · refine XS.icmpNo X0.here hx rfl (hb hby d1_132) rfl (flt hc132).1 ?_
    show Steps p.tables e below (T0.setTop (mkF m 135 #[.val (.int p1)] [])) _
    refine XS.iloadN X0.here hx rfl (hb hby d1_135) rfl ?_
    show Steps p.tables e below (T0.setTop (mkF m 136 #[.val (.int p1)] [(.int p1)])) _
    refine XS.sipush X0.here hx rfl (hb hby d1_136) ?_
    show Steps p.tables e below (T0.setTop (mkF m 139 #[.val (.int p1)] [(.int (12271 : Int32)), (.int p1)])) _
    by_cases hc139 : (12271 : Int32) < p1
    · refine XS.icmpNo X0.here hx rfl (hb hby d1_139) rfl (tlt hc139).2.2.2 ?_
      show Steps p.tables e below (T0.setTop (mkF m 142 #[.val (.int p1)] [])) _
      rw [show F1_128 p1 = F1_142 p1 from by unfold F1_128; rw [if_neg hc132, if_pos hc139]] at hr
      exact bk1_142 p1 X0 hx hZ hw hby hown hret hr
    · refine XS.icmpYes X0.here hx rfl (pc0 := 139) (pc' := 191) rfl (hb hby d1_139) rfl (flt hc139).2.2.2 (by decide) (by decide) ?_
      show Steps p.tables e below (T0.setTop (mkF m 191 #[.val (.int p1)] [])) _
      refine XS.iconst X0.here hx rfl (hb hby d1_191) ?_
      show Steps p.tables e below (T0.setTop (mkF m 192 #[.val (.int p1)] [(.int (1 : Int32))])) _
      refine XS.goto X0.here hx rfl (pc0 := 192) (pc' := 196) rfl (hb hby d1_192) (by decide) (by decide) ?_
      show Steps p.tables e below (T0.setTop (mkF m 196 #[.val (.int p1)] [(.int (1 : Int32))])) _
      rw [show F1_128 p1 = (1 : Int32) from by unfold F1_128; rw [if_neg hc132, if_neg hc139]] at hr
      exact retN X0 hx (t := .boolean) hret (by simp) (hb hby d1_196) hr
def F1_114 (p1 : Int32) : Int32 := (if p1 < (8304 : Int32) then (F1_128 p1) else (if (8591 : Int32) < p1 then (F1_128 p1) else (1 : Int32)))
set_option maxRecDepth 65536 in
set_option maxHeartbeats 40000000 in
theorem bk1_114 {p : Program} {l : Launch} {e : Env} {R : Room} {s : State} {m : MethodId} {args : Array Value} {below : List Frame} {meth : Method} {c : Code} {T0 : State} {locs : List Loc} {cells slots : Nat} {Z : State} {a0 : Array Value} (p1 : Int32)
    (X0 : Stand p l e R s m args below meth c T0 locs cells slots) (hx : p.tables.exec = Jvm.exec) (hZ : Z.Warmed39 s.vm) (hw : ∀ d ∈ tables_1, d.before a0 Z = true) (hby : c.code = prog_149_method_2_code) (hown : s.vm.findClass "com/example/coxt/coxt/tree/XmlNames" = some m.cls) (hret : meth.sig.returnType = some .boolean) {fs : List Frame}
    (hr : ∀ (f : JFrame) (acts : List Action), f.method = m → f.locked = none → f.entered = [] → (doReturn e (T0.setTop f) acts (some (.int (F1_114 p1)))).1 = T0.setFrames fs) :
    Steps p.tables e below (T0.setTop (mkF m 114 #[.val (.int p1)] [])) (T0.setFrames fs) := by
  show Steps p.tables e below (T0.setTop (mkF m 114 #[.val (.int p1)] [])) _
  refine XS.iloadN X0.here hx rfl (hb hby d1_114) rfl ?_
  show Steps p.tables e below (T0.setTop (mkF m 115 #[.val (.int p1)] [(.int p1)])) _
  refine XS.sipush X0.here hx rfl (hb hby d1_115) ?_
  show Steps p.tables e below (T0.setTop (mkF m 118 #[.val (.int p1)] [(.int (8304 : Int32)), (.int p1)])) _
  by_cases hc118 : p1 < (8304 : Int32)
  · refine XS.icmpYes X0.here hx rfl (pc0 := 118) (pc' := 128) rfl (hb hby d1_118) rfl (tlt hc118).1 (by decide) (by decide) ?_
    show Steps p.tables e below (T0.setTop (mkF m 128 #[.val (.int p1)] [])) _
    rw [show F1_114 p1 = F1_128 p1 from by unfold F1_114; rw [if_pos hc118]] at hr
    exact bk1_128 p1 X0 hx hZ hw hby hown hret hr
  · refine XS.icmpNo X0.here hx rfl (hb hby d1_118) rfl (flt hc118).1 ?_
    show Steps p.tables e below (T0.setTop (mkF m 121 #[.val (.int p1)] [])) _
    refine XS.iloadN X0.here hx rfl (hb hby d1_121) rfl ?_
    show Steps p.tables e below (T0.setTop (mkF m 122 #[.val (.int p1)] [(.int p1)])) _
    refine XS.sipush X0.here hx rfl (hb hby d1_122) ?_
    show Steps p.tables e below (T0.setTop (mkF m 125 #[.val (.int p1)] [(.int (8591 : Int32)), (.int p1)])) _
    by_cases hc125 : (8591 : Int32) < p1
    · refine XS.icmpNo X0.here hx rfl (hb hby d1_125) rfl (tlt hc125).2.2.2 ?_
      show Steps p.tables e below (T0.setTop (mkF m 128 #[.val (.int p1)] [])) _
      rw [show F1_114 p1 = F1_128 p1 from by unfold F1_114; rw [if_neg hc118, if_pos hc125]] at hr
      exact bk1_128 p1 X0 hx hZ hw hby hown hret hr
    · refine XS.icmpYes X0.here hx rfl (pc0 := 125) (pc' := 191) rfl (hb hby d1_125) rfl (flt hc125).2.2.2 (by decide) (by decide) ?_
      show Steps p.tables e below (T0.setTop (mkF m 191 #[.val (.int p1)] [])) _
      refine XS.iconst X0.here hx rfl (hb hby d1_191) ?_
      show Steps p.tables e below (T0.setTop (mkF m 192 #[.val (.int p1)] [(.int (1 : Int32))])) _
      refine XS.goto X0.here hx rfl (pc0 := 192) (pc' := 196) rfl (hb hby d1_192) (by decide) (by decide) ?_
      show Steps p.tables e below (T0.setTop (mkF m 196 #[.val (.int p1)] [(.int (1 : Int32))])) _
      rw [show F1_114 p1 = (1 : Int32) from by unfold F1_114; rw [if_neg hc118, if_neg hc125]] at hr
      exact retN X0 hx (t := .boolean) hret (by simp) (hb hby d1_196) hr
def F1_100 (p1 : Int32) : Int32 := (if p1 < (8204 : Int32) then (F1_114 p1) else (if (8205 : Int32) < p1 then (F1_114 p1) else (1 : Int32)))
set_option maxRecDepth 65536 in
set_option maxHeartbeats 40000000 in
theorem bk1_100 {p : Program} {l : Launch} {e : Env} {R : Room} {s : State} {m : MethodId} {args : Array Value} {below : List Frame} {meth : Method} {c : Code} {T0 : State} {locs : List Loc} {cells slots : Nat} {Z : State} {a0 : Array Value} (p1 : Int32)
    (X0 : Stand p l e R s m args below meth c T0 locs cells slots) (hx : p.tables.exec = Jvm.exec) (hZ : Z.Warmed39 s.vm) (hw : ∀ d ∈ tables_1, d.before a0 Z = true) (hby : c.code = prog_149_method_2_code) (hown : s.vm.findClass "com/example/coxt/coxt/tree/XmlNames" = some m.cls) (hret : meth.sig.returnType = some .boolean) {fs : List Frame}
    (hr : ∀ (f : JFrame) (acts : List Action), f.method = m → f.locked = none → f.entered = [] → (doReturn e (T0.setTop f) acts (some (.int (F1_100 p1)))).1 = T0.setFrames fs) :
    Steps p.tables e below (T0.setTop (mkF m 100 #[.val (.int p1)] [])) (T0.setFrames fs) := by
  show Steps p.tables e below (T0.setTop (mkF m 100 #[.val (.int p1)] [])) _
  refine XS.iloadN X0.here hx rfl (hb hby d1_100) rfl ?_
  show Steps p.tables e below (T0.setTop (mkF m 101 #[.val (.int p1)] [(.int p1)])) _
  refine XS.sipush X0.here hx rfl (hb hby d1_101) ?_
  show Steps p.tables e below (T0.setTop (mkF m 104 #[.val (.int p1)] [(.int (8204 : Int32)), (.int p1)])) _
  by_cases hc104 : p1 < (8204 : Int32)
  · refine XS.icmpYes X0.here hx rfl (pc0 := 104) (pc' := 114) rfl (hb hby d1_104) rfl (tlt hc104).1 (by decide) (by decide) ?_
    show Steps p.tables e below (T0.setTop (mkF m 114 #[.val (.int p1)] [])) _
    rw [show F1_100 p1 = F1_114 p1 from by unfold F1_100; rw [if_pos hc104]] at hr
    exact bk1_114 p1 X0 hx hZ hw hby hown hret hr
  · refine XS.icmpNo X0.here hx rfl (hb hby d1_104) rfl (flt hc104).1 ?_
    show Steps p.tables e below (T0.setTop (mkF m 107 #[.val (.int p1)] [])) _
    refine XS.iloadN X0.here hx rfl (hb hby d1_107) rfl ?_
    show Steps p.tables e below (T0.setTop (mkF m 108 #[.val (.int p1)] [(.int p1)])) _
    refine XS.sipush X0.here hx rfl (hb hby d1_108) ?_
    show Steps p.tables e below (T0.setTop (mkF m 111 #[.val (.int p1)] [(.int (8205 : Int32)), (.int p1)])) _
    by_cases hc111 : (8205 : Int32) < p1
    · refine XS.icmpNo X0.here hx rfl (hb hby d1_111) rfl (tlt hc111).2.2.2 ?_
      show Steps p.tables e below (T0.setTop (mkF m 114 #[.val (.int p1)] [])) _
      rw [show F1_100 p1 = F1_114 p1 from by unfold F1_100; rw [if_neg hc104, if_pos hc111]] at hr
      exact bk1_114 p1 X0 hx hZ hw hby hown hret hr
    · refine XS.icmpYes X0.here hx rfl (pc0 := 111) (pc' := 191) rfl (hb hby d1_111) rfl (flt hc111).2.2.2 (by decide) (by decide) ?_
      show Steps p.tables e below (T0.setTop (mkF m 191 #[.val (.int p1)] [])) _
      refine XS.iconst X0.here hx rfl (hb hby d1_191) ?_
      show Steps p.tables e below (T0.setTop (mkF m 192 #[.val (.int p1)] [(.int (1 : Int32))])) _
      refine XS.goto X0.here hx rfl (pc0 := 192) (pc' := 196) rfl (hb hby d1_192) (by decide) (by decide) ?_
      show Steps p.tables e below (T0.setTop (mkF m 196 #[.val (.int p1)] [(.int (1 : Int32))])) _
      rw [show F1_100 p1 = (1 : Int32) from by unfold F1_100; rw [if_neg hc104, if_neg hc111]] at hr
      exact retN X0 hx (t := .boolean) hret (by simp) (hb hby d1_196) hr
def F1_86 (p1 : Int32) : Int32 := (if p1 < (895 : Int32) then (F1_100 p1) else (if (8191 : Int32) < p1 then (F1_100 p1) else (1 : Int32)))
set_option maxRecDepth 65536 in
set_option maxHeartbeats 40000000 in
theorem bk1_86 {p : Program} {l : Launch} {e : Env} {R : Room} {s : State} {m : MethodId} {args : Array Value} {below : List Frame} {meth : Method} {c : Code} {T0 : State} {locs : List Loc} {cells slots : Nat} {Z : State} {a0 : Array Value} (p1 : Int32)
    (X0 : Stand p l e R s m args below meth c T0 locs cells slots) (hx : p.tables.exec = Jvm.exec) (hZ : Z.Warmed39 s.vm) (hw : ∀ d ∈ tables_1, d.before a0 Z = true) (hby : c.code = prog_149_method_2_code) (hown : s.vm.findClass "com/example/coxt/coxt/tree/XmlNames" = some m.cls) (hret : meth.sig.returnType = some .boolean) {fs : List Frame}
    (hr : ∀ (f : JFrame) (acts : List Action), f.method = m → f.locked = none → f.entered = [] → (doReturn e (T0.setTop f) acts (some (.int (F1_86 p1)))).1 = T0.setFrames fs) :
    Steps p.tables e below (T0.setTop (mkF m 86 #[.val (.int p1)] [])) (T0.setFrames fs) := by
  show Steps p.tables e below (T0.setTop (mkF m 86 #[.val (.int p1)] [])) _
  refine XS.iloadN X0.here hx rfl (hb hby d1_86) rfl ?_
  show Steps p.tables e below (T0.setTop (mkF m 87 #[.val (.int p1)] [(.int p1)])) _
  refine XS.sipush X0.here hx rfl (hb hby d1_87) ?_
  show Steps p.tables e below (T0.setTop (mkF m 90 #[.val (.int p1)] [(.int (895 : Int32)), (.int p1)])) _
  by_cases hc90 : p1 < (895 : Int32)
  · refine XS.icmpYes X0.here hx rfl (pc0 := 90) (pc' := 100) rfl (hb hby d1_90) rfl (tlt hc90).1 (by decide) (by decide) ?_
    show Steps p.tables e below (T0.setTop (mkF m 100 #[.val (.int p1)] [])) _
    rw [show F1_86 p1 = F1_100 p1 from by unfold F1_86; rw [if_pos hc90]] at hr
    exact bk1_100 p1 X0 hx hZ hw hby hown hret hr
  · refine XS.icmpNo X0.here hx rfl (hb hby d1_90) rfl (flt hc90).1 ?_
    show Steps p.tables e below (T0.setTop (mkF m 93 #[.val (.int p1)] [])) _
    refine XS.iloadN X0.here hx rfl (hb hby d1_93) rfl ?_
    show Steps p.tables e below (T0.setTop (mkF m 94 #[.val (.int p1)] [(.int p1)])) _
    refine XS.sipush X0.here hx rfl (hb hby d1_94) ?_
    show Steps p.tables e below (T0.setTop (mkF m 97 #[.val (.int p1)] [(.int (8191 : Int32)), (.int p1)])) _
    by_cases hc97 : (8191 : Int32) < p1
    · refine XS.icmpNo X0.here hx rfl (hb hby d1_97) rfl (tlt hc97).2.2.2 ?_
      show Steps p.tables e below (T0.setTop (mkF m 100 #[.val (.int p1)] [])) _
      rw [show F1_86 p1 = F1_100 p1 from by unfold F1_86; rw [if_neg hc90, if_pos hc97]] at hr
      exact bk1_100 p1 X0 hx hZ hw hby hown hret hr
    · refine XS.icmpYes X0.here hx rfl (pc0 := 97) (pc' := 191) rfl (hb hby d1_97) rfl (flt hc97).2.2.2 (by decide) (by decide) ?_
      show Steps p.tables e below (T0.setTop (mkF m 191 #[.val (.int p1)] [])) _
      refine XS.iconst X0.here hx rfl (hb hby d1_191) ?_
      show Steps p.tables e below (T0.setTop (mkF m 192 #[.val (.int p1)] [(.int (1 : Int32))])) _
      refine XS.goto X0.here hx rfl (pc0 := 192) (pc' := 196) rfl (hb hby d1_192) (by decide) (by decide) ?_
      show Steps p.tables e below (T0.setTop (mkF m 196 #[.val (.int p1)] [(.int (1 : Int32))])) _
      rw [show F1_86 p1 = (1 : Int32) from by unfold F1_86; rw [if_neg hc90, if_neg hc97]] at hr
      exact retN X0 hx (t := .boolean) hret (by simp) (hb hby d1_196) hr
def F1_72 (p1 : Int32) : Int32 := (if p1 < (880 : Int32) then (F1_86 p1) else (if (893 : Int32) < p1 then (F1_86 p1) else (1 : Int32)))
set_option maxRecDepth 65536 in
set_option maxHeartbeats 40000000 in
theorem bk1_72 {p : Program} {l : Launch} {e : Env} {R : Room} {s : State} {m : MethodId} {args : Array Value} {below : List Frame} {meth : Method} {c : Code} {T0 : State} {locs : List Loc} {cells slots : Nat} {Z : State} {a0 : Array Value} (p1 : Int32)
    (X0 : Stand p l e R s m args below meth c T0 locs cells slots) (hx : p.tables.exec = Jvm.exec) (hZ : Z.Warmed39 s.vm) (hw : ∀ d ∈ tables_1, d.before a0 Z = true) (hby : c.code = prog_149_method_2_code) (hown : s.vm.findClass "com/example/coxt/coxt/tree/XmlNames" = some m.cls) (hret : meth.sig.returnType = some .boolean) {fs : List Frame}
    (hr : ∀ (f : JFrame) (acts : List Action), f.method = m → f.locked = none → f.entered = [] → (doReturn e (T0.setTop f) acts (some (.int (F1_72 p1)))).1 = T0.setFrames fs) :
    Steps p.tables e below (T0.setTop (mkF m 72 #[.val (.int p1)] [])) (T0.setFrames fs) := by
  show Steps p.tables e below (T0.setTop (mkF m 72 #[.val (.int p1)] [])) _
  refine XS.iloadN X0.here hx rfl (hb hby d1_72) rfl ?_
  show Steps p.tables e below (T0.setTop (mkF m 73 #[.val (.int p1)] [(.int p1)])) _
  refine XS.sipush X0.here hx rfl (hb hby d1_73) ?_
  show Steps p.tables e below (T0.setTop (mkF m 76 #[.val (.int p1)] [(.int (880 : Int32)), (.int p1)])) _
  by_cases hc76 : p1 < (880 : Int32)
  · refine XS.icmpYes X0.here hx rfl (pc0 := 76) (pc' := 86) rfl (hb hby d1_76) rfl (tlt hc76).1 (by decide) (by decide) ?_
    show Steps p.tables e below (T0.setTop (mkF m 86 #[.val (.int p1)] [])) _
    rw [show F1_72 p1 = F1_86 p1 from by unfold F1_72; rw [if_pos hc76]] at hr
    exact bk1_86 p1 X0 hx hZ hw hby hown hret hr
  · refine XS.icmpNo X0.here hx rfl (hb hby d1_76) rfl (flt hc76).1 ?_
    show Steps p.tables e below (T0.setTop (mkF m 79 #[.val (.int p1)] [])) _
    refine XS.iloadN X0.here hx rfl (hb hby d1_79) rfl ?_
    show Steps p.tables e below (T0.setTop (mkF m 80 #[.val (.int p1)] [(.int p1)])) _
    refine XS.sipush X0.here hx rfl (hb hby d1_80) ?_
    show Steps p.tables e below (T0.setTop (mkF m 83 #[.val (.int p1)] [(.int (893 : Int32)), (.int p1)])) _
    by_cases hc83 : (893 : Int32) < p1
    · refine XS.icmpNo X0.here hx rfl (hb hby d1_83) rfl (tlt hc83).2.2.2 ?_
      show Steps p.tables e below (T0.setTop (mkF m 86 #[.val (.int p1)] [])) _
      rw [show F1_72 p1 = F1_86 p1 from by unfold F1_72; rw [if_neg hc76, if_pos hc83]] at hr
      exact bk1_86 p1 X0 hx hZ hw hby hown hret hr
    · refine XS.icmpYes X0.here hx rfl (pc0 := 83) (pc' := 191) rfl (hb hby d1_83) rfl (flt hc83).2.2.2 (by decide) (by decide) ?_
      show Steps p.tables e below (T0.setTop (mkF m 191 #[.val (.int p1)] [])) _
      refine XS.iconst X0.here hx rfl (hb hby d1_191) ?_
      show Steps p.tables e below (T0.setTop (mkF m 192 #[.val (.int p1)] [(.int (1 : Int32))])) _
      refine XS.goto X0.here hx rfl (pc0 := 192) (pc' := 196) rfl (hb hby d1_192) (by decide) (by decide) ?_
      show Steps p.tables e below (T0.setTop (mkF m 196 #[.val (.int p1)] [(.int (1 : Int32))])) _
      rw [show F1_72 p1 = (1 : Int32) from by unfold F1_72; rw [if_neg hc76, if_neg hc83]] at hr
      exact retN X0 hx (t := .boolean) hret (by simp) (hb hby d1_196) hr
def F1_58 (p1 : Int32) : Int32 := (if p1 < (248 : Int32) then (F1_72 p1) else (if (767 : Int32) < p1 then (F1_72 p1) else (1 : Int32)))
set_option maxRecDepth 65536 in
set_option maxHeartbeats 40000000 in
theorem bk1_58 {p : Program} {l : Launch} {e : Env} {R : Room} {s : State} {m : MethodId} {args : Array Value} {below : List Frame} {meth : Method} {c : Code} {T0 : State} {locs : List Loc} {cells slots : Nat} {Z : State} {a0 : Array Value} (p1 : Int32)
    (X0 : Stand p l e R s m args below meth c T0 locs cells slots) (hx : p.tables.exec = Jvm.exec) (hZ : Z.Warmed39 s.vm) (hw : ∀ d ∈ tables_1, d.before a0 Z = true) (hby : c.code = prog_149_method_2_code) (hown : s.vm.findClass "com/example/coxt/coxt/tree/XmlNames" = some m.cls) (hret : meth.sig.returnType = some .boolean) {fs : List Frame}
    (hr : ∀ (f : JFrame) (acts : List Action), f.method = m → f.locked = none → f.entered = [] → (doReturn e (T0.setTop f) acts (some (.int (F1_58 p1)))).1 = T0.setFrames fs) :
    Steps p.tables e below (T0.setTop (mkF m 58 #[.val (.int p1)] [])) (T0.setFrames fs) := by
  show Steps p.tables e below (T0.setTop (mkF m 58 #[.val (.int p1)] [])) _
  refine XS.iloadN X0.here hx rfl (hb hby d1_58) rfl ?_
  show Steps p.tables e below (T0.setTop (mkF m 59 #[.val (.int p1)] [(.int p1)])) _
  refine XS.sipush X0.here hx rfl (hb hby d1_59) ?_
  show Steps p.tables e below (T0.setTop (mkF m 62 #[.val (.int p1)] [(.int (248 : Int32)), (.int p1)])) _
  by_cases hc62 : p1 < (248 : Int32)
  · refine XS.icmpYes X0.here hx rfl (pc0 := 62) (pc' := 72) rfl (hb hby d1_62) rfl (tlt hc62).1 (by decide) (by decide) ?_
    show Steps p.tables e below (T0.setTop (mkF m 72 #[.val (.int p1)] [])) _
    rw [show F1_58 p1 = F1_72 p1 from by unfold F1_58; rw [if_pos hc62]] at hr
    exact bk1_72 p1 X0 hx hZ hw hby hown hret hr
  · refine XS.icmpNo X0.here hx rfl (hb hby d1_62) rfl (flt hc62).1 ?_
    show Steps p.tables e below (T0.setTop (mkF m 65 #[.val (.int p1)] [])) _
    refine XS.iloadN X0.here hx rfl (hb hby d1_65) rfl ?_
    show Steps p.tables e below (T0.setTop (mkF m 66 #[.val (.int p1)] [(.int p1)])) _
    refine XS.sipush X0.here hx rfl (hb hby d1_66) ?_
    show Steps p.tables e below (T0.setTop (mkF m 69 #[.val (.int p1)] [(.int (767 : Int32)), (.int p1)])) _
    by_cases hc69 : (767 : Int32) < p1
    · refine XS.icmpNo X0.here hx rfl (hb hby d1_69) rfl (tlt hc69).2.2.2 ?_
      show Steps p.tables e below (T0.setTop (mkF m 72 #[.val (.int p1)] [])) _
      rw [show F1_58 p1 = F1_72 p1 from by unfold F1_58; rw [if_neg hc62, if_pos hc69]] at hr
      exact bk1_72 p1 X0 hx hZ hw hby hown hret hr
    · refine XS.icmpYes X0.here hx rfl (pc0 := 69) (pc' := 191) rfl (hb hby d1_69) rfl (flt hc69).2.2.2 (by decide) (by decide) ?_
      show Steps p.tables e below (T0.setTop (mkF m 191 #[.val (.int p1)] [])) _
      refine XS.iconst X0.here hx rfl (hb hby d1_191) ?_
      show Steps p.tables e below (T0.setTop (mkF m 192 #[.val (.int p1)] [(.int (1 : Int32))])) _
      refine XS.goto X0.here hx rfl (pc0 := 192) (pc' := 196) rfl (hb hby d1_192) (by decide) (by decide) ?_
      show Steps p.tables e below (T0.setTop (mkF m 196 #[.val (.int p1)] [(.int (1 : Int32))])) _
      rw [show F1_58 p1 = (1 : Int32) from by unfold F1_58; rw [if_neg hc62, if_neg hc69]] at hr
      exact retN X0 hx (t := .boolean) hret (by simp) (hb hby d1_196) hr
def F1_44 (p1 : Int32) : Int32 := (if p1 < (216 : Int32) then (F1_58 p1) else (if (246 : Int32) < p1 then (F1_58 p1) else (1 : Int32)))
set_option maxRecDepth 65536 in
set_option maxHeartbeats 40000000 in
theorem bk1_44 {p : Program} {l : Launch} {e : Env} {R : Room} {s : State} {m : MethodId} {args : Array Value} {below : List Frame} {meth : Method} {c : Code} {T0 : State} {locs : List Loc} {cells slots : Nat} {Z : State} {a0 : Array Value} (p1 : Int32)
    (X0 : Stand p l e R s m args below meth c T0 locs cells slots) (hx : p.tables.exec = Jvm.exec) (hZ : Z.Warmed39 s.vm) (hw : ∀ d ∈ tables_1, d.before a0 Z = true) (hby : c.code = prog_149_method_2_code) (hown : s.vm.findClass "com/example/coxt/coxt/tree/XmlNames" = some m.cls) (hret : meth.sig.returnType = some .boolean) {fs : List Frame}
    (hr : ∀ (f : JFrame) (acts : List Action), f.method = m → f.locked = none → f.entered = [] → (doReturn e (T0.setTop f) acts (some (.int (F1_44 p1)))).1 = T0.setFrames fs) :
    Steps p.tables e below (T0.setTop (mkF m 44 #[.val (.int p1)] [])) (T0.setFrames fs) := by
  show Steps p.tables e below (T0.setTop (mkF m 44 #[.val (.int p1)] [])) _
  refine XS.iloadN X0.here hx rfl (hb hby d1_44) rfl ?_
  show Steps p.tables e below (T0.setTop (mkF m 45 #[.val (.int p1)] [(.int p1)])) _
  refine XS.sipush X0.here hx rfl (hb hby d1_45) ?_
  show Steps p.tables e below (T0.setTop (mkF m 48 #[.val (.int p1)] [(.int (216 : Int32)), (.int p1)])) _
  by_cases hc48 : p1 < (216 : Int32)
  · refine XS.icmpYes X0.here hx rfl (pc0 := 48) (pc' := 58) rfl (hb hby d1_48) rfl (tlt hc48).1 (by decide) (by decide) ?_
    show Steps p.tables e below (T0.setTop (mkF m 58 #[.val (.int p1)] [])) _
    rw [show F1_44 p1 = F1_58 p1 from by unfold F1_44; rw [if_pos hc48]] at hr
    exact bk1_58 p1 X0 hx hZ hw hby hown hret hr
  · refine XS.icmpNo X0.here hx rfl (hb hby d1_48) rfl (flt hc48).1 ?_
    show Steps p.tables e below (T0.setTop (mkF m 51 #[.val (.int p1)] [])) _
    refine XS.iloadN X0.here hx rfl (hb hby d1_51) rfl ?_
    show Steps p.tables e below (T0.setTop (mkF m 52 #[.val (.int p1)] [(.int p1)])) _
    refine XS.sipush X0.here hx rfl (hb hby d1_52) ?_
    show Steps p.tables e below (T0.setTop (mkF m 55 #[.val (.int p1)] [(.int (246 : Int32)), (.int p1)])) _
    by_cases hc55 : (246 : Int32) < p1
    · refine XS.icmpNo X0.here hx rfl (hb hby d1_55) rfl (tlt hc55).2.2.2 ?_
      show Steps p.tables e below (T0.setTop (mkF m 58 #[.val (.int p1)] [])) _
      rw [show F1_44 p1 = F1_58 p1 from by unfold F1_44; rw [if_neg hc48, if_pos hc55]] at hr
      exact bk1_58 p1 X0 hx hZ hw hby hown hret hr
    · refine XS.icmpYes X0.here hx rfl (pc0 := 55) (pc' := 191) rfl (hb hby d1_55) rfl (flt hc55).2.2.2 (by decide) (by decide) ?_
      show Steps p.tables e below (T0.setTop (mkF m 191 #[.val (.int p1)] [])) _
      refine XS.iconst X0.here hx rfl (hb hby d1_191) ?_
      show Steps p.tables e below (T0.setTop (mkF m 192 #[.val (.int p1)] [(.int (1 : Int32))])) _
      refine XS.goto X0.here hx rfl (pc0 := 192) (pc' := 196) rfl (hb hby d1_192) (by decide) (by decide) ?_
      show Steps p.tables e below (T0.setTop (mkF m 196 #[.val (.int p1)] [(.int (1 : Int32))])) _
      rw [show F1_44 p1 = (1 : Int32) from by unfold F1_44; rw [if_neg hc48, if_neg hc55]] at hr
      exact retN X0 hx (t := .boolean) hret (by simp) (hb hby d1_196) hr
def F1_30 (p1 : Int32) : Int32 := (if p1 < (192 : Int32) then (F1_44 p1) else (if (214 : Int32) < p1 then (F1_44 p1) else (1 : Int32)))
set_option maxRecDepth 65536 in
set_option maxHeartbeats 40000000 in
theorem bk1_30 {p : Program} {l : Launch} {e : Env} {R : Room} {s : State} {m : MethodId} {args : Array Value} {below : List Frame} {meth : Method} {c : Code} {T0 : State} {locs : List Loc} {cells slots : Nat} {Z : State} {a0 : Array Value} (p1 : Int32)
    (X0 : Stand p l e R s m args below meth c T0 locs cells slots) (hx : p.tables.exec = Jvm.exec) (hZ : Z.Warmed39 s.vm) (hw : ∀ d ∈ tables_1, d.before a0 Z = true) (hby : c.code = prog_149_method_2_code) (hown : s.vm.findClass "com/example/coxt/coxt/tree/XmlNames" = some m.cls) (hret : meth.sig.returnType = some .boolean) {fs : List Frame}
    (hr : ∀ (f : JFrame) (acts : List Action), f.method = m → f.locked = none → f.entered = [] → (doReturn e (T0.setTop f) acts (some (.int (F1_30 p1)))).1 = T0.setFrames fs) :
    Steps p.tables e below (T0.setTop (mkF m 30 #[.val (.int p1)] [])) (T0.setFrames fs) := by
  show Steps p.tables e below (T0.setTop (mkF m 30 #[.val (.int p1)] [])) _
  refine XS.iloadN X0.here hx rfl (hb hby d1_30) rfl ?_
  show Steps p.tables e below (T0.setTop (mkF m 31 #[.val (.int p1)] [(.int p1)])) _
  refine XS.sipush X0.here hx rfl (hb hby d1_31) ?_
  show Steps p.tables e below (T0.setTop (mkF m 34 #[.val (.int p1)] [(.int (192 : Int32)), (.int p1)])) _
  by_cases hc34 : p1 < (192 : Int32)
  · refine XS.icmpYes X0.here hx rfl (pc0 := 34) (pc' := 44) rfl (hb hby d1_34) rfl (tlt hc34).1 (by decide) (by decide) ?_
    show Steps p.tables e below (T0.setTop (mkF m 44 #[.val (.int p1)] [])) _
    rw [show F1_30 p1 = F1_44 p1 from by unfold F1_30; rw [if_pos hc34]] at hr
    exact bk1_44 p1 X0 hx hZ hw hby hown hret hr
  · refine XS.icmpNo X0.here hx rfl (hb hby d1_34) rfl (flt hc34).1 ?_
    show Steps p.tables e below (T0.setTop (mkF m 37 #[.val (.int p1)] [])) _
    refine XS.iloadN X0.here hx rfl (hb hby d1_37) rfl ?_
    show Steps p.tables e below (T0.setTop (mkF m 38 #[.val (.int p1)] [(.int p1)])) _
    refine XS.sipush X0.here hx rfl (hb hby d1_38) ?_
    show Steps p.tables e below (T0.setTop (mkF m 41 #[.val (.int p1)] [(.int (214 : Int32)), (.int p1)])) _
    by_cases hc41 : (214 : Int32) < p1
    · refine XS.icmpNo X0.here hx rfl (hb hby d1_41) rfl (tlt hc41).2.2.2 ?_
      show Steps p.tables e below (T0.setTop (mkF m 44 #[.val (.int p1)] [])) _
      rw [show F1_30 p1 = F1_44 p1 from by unfold F1_30; rw [if_neg hc34, if_pos hc41]] at hr
      exact bk1_44 p1 X0 hx hZ hw hby hown hret hr
    · refine XS.icmpYes X0.here hx rfl (pc0 := 41) (pc' := 191) rfl (hb hby d1_41) rfl (flt hc41).2.2.2 (by decide) (by decide) ?_
      show Steps p.tables e below (T0.setTop (mkF m 191 #[.val (.int p1)] [])) _
      refine XS.iconst X0.here hx rfl (hb hby d1_191) ?_
      show Steps p.tables e below (T0.setTop (mkF m 192 #[.val (.int p1)] [(.int (1 : Int32))])) _
      refine XS.goto X0.here hx rfl (pc0 := 192) (pc' := 196) rfl (hb hby d1_192) (by decide) (by decide) ?_
      show Steps p.tables e below (T0.setTop (mkF m 196 #[.val (.int p1)] [(.int (1 : Int32))])) _
      rw [show F1_30 p1 = (1 : Int32) from by unfold F1_30; rw [if_neg hc34, if_neg hc41]] at hr
      exact retN X0 hx (t := .boolean) hret (by simp) (hb hby d1_196) hr
def F1_24 (p1 : Int32) : Int32 := (if p1 = (95 : Int32) then (1 : Int32) else (F1_30 p1))
set_option maxRecDepth 65536 in
set_option maxHeartbeats 40000000 in
theorem bk1_24 {p : Program} {l : Launch} {e : Env} {R : Room} {s : State} {m : MethodId} {args : Array Value} {below : List Frame} {meth : Method} {c : Code} {T0 : State} {locs : List Loc} {cells slots : Nat} {Z : State} {a0 : Array Value} (p1 : Int32)
    (X0 : Stand p l e R s m args below meth c T0 locs cells slots) (hx : p.tables.exec = Jvm.exec) (hZ : Z.Warmed39 s.vm) (hw : ∀ d ∈ tables_1, d.before a0 Z = true) (hby : c.code = prog_149_method_2_code) (hown : s.vm.findClass "com/example/coxt/coxt/tree/XmlNames" = some m.cls) (hret : meth.sig.returnType = some .boolean) {fs : List Frame}
    (hr : ∀ (f : JFrame) (acts : List Action), f.method = m → f.locked = none → f.entered = [] → (doReturn e (T0.setTop f) acts (some (.int (F1_24 p1)))).1 = T0.setFrames fs) :
    Steps p.tables e below (T0.setTop (mkF m 24 #[.val (.int p1)] [])) (T0.setFrames fs) := by
  show Steps p.tables e below (T0.setTop (mkF m 24 #[.val (.int p1)] [])) _
  refine XS.iloadN X0.here hx rfl (hb hby d1_24) rfl ?_
  show Steps p.tables e below (T0.setTop (mkF m 25 #[.val (.int p1)] [(.int p1)])) _
  refine XS.bipush X0.here hx rfl (hb hby d1_25) ?_
  show Steps p.tables e below (T0.setTop (mkF m 27 #[.val (.int p1)] [(.int (95 : Int32)), (.int p1)])) _
  by_cases hc27 : p1 = (95 : Int32)
  · refine XS.icmpYes X0.here hx rfl (pc0 := 27) (pc' := 191) rfl (hb hby d1_27) rfl (teq hc27).1 (by decide) (by decide) ?_
    show Steps p.tables e below (T0.setTop (mkF m 191 #[.val (.int p1)] [])) _
    refine XS.iconst X0.here hx rfl (hb hby d1_191) ?_
    show Steps p.tables e below (T0.setTop (mkF m 192 #[.val (.int p1)] [(.int (1 : Int32))])) _
    refine XS.goto X0.here hx rfl (pc0 := 192) (pc' := 196) rfl (hb hby d1_192) (by decide) (by decide) ?_
    show Steps p.tables e below (T0.setTop (mkF m 196 #[.val (.int p1)] [(.int (1 : Int32))])) _
    rw [show F1_24 p1 = (1 : Int32) from by unfold F1_24; rw [if_pos hc27]] at hr
    exact retN X0 hx (t := .boolean) hret (by simp) (hb hby d1_196) hr
  · refine XS.icmpNo X0.here hx rfl (hb hby d1_27) rfl (feq hc27).1 ?_
    show Steps p.tables e below (T0.setTop (mkF m 30 #[.val (.int p1)] [])) _
    rw [show F1_24 p1 = F1_30 p1 from by unfold F1_24; rw [if_neg hc27]] at hr
    exact bk1_30 p1 X0 hx hZ hw hby hown hret hr
def F1_12 (p1 : Int32) : Int32 := (if p1 < (65 : Int32) then (F1_24 p1) else (if (90 : Int32) < p1 then (F1_24 p1) else (1 : Int32)))
set_option maxRecDepth 65536 in
set_option maxHeartbeats 40000000 in
theorem bk1_12 {p : Program} {l : Launch} {e : Env} {R : Room} {s : State} {m : MethodId} {args : Array Value} {below : List Frame} {meth : Method} {c : Code} {T0 : State} {locs : List Loc} {cells slots : Nat} {Z : State} {a0 : Array Value} (p1 : Int32)
    (X0 : Stand p l e R s m args below meth c T0 locs cells slots) (hx : p.tables.exec = Jvm.exec) (hZ : Z.Warmed39 s.vm) (hw : ∀ d ∈ tables_1, d.before a0 Z = true) (hby : c.code = prog_149_method_2_code) (hown : s.vm.findClass "com/example/coxt/coxt/tree/XmlNames" = some m.cls) (hret : meth.sig.returnType = some .boolean) {fs : List Frame}
    (hr : ∀ (f : JFrame) (acts : List Action), f.method = m → f.locked = none → f.entered = [] → (doReturn e (T0.setTop f) acts (some (.int (F1_12 p1)))).1 = T0.setFrames fs) :
    Steps p.tables e below (T0.setTop (mkF m 12 #[.val (.int p1)] [])) (T0.setFrames fs) := by
  show Steps p.tables e below (T0.setTop (mkF m 12 #[.val (.int p1)] [])) _
  refine XS.iloadN X0.here hx rfl (hb hby d1_12) rfl ?_
  show Steps p.tables e below (T0.setTop (mkF m 13 #[.val (.int p1)] [(.int p1)])) _
  refine XS.bipush X0.here hx rfl (hb hby d1_13) ?_
  show Steps p.tables e below (T0.setTop (mkF m 15 #[.val (.int p1)] [(.int (65 : Int32)), (.int p1)])) _
  by_cases hc15 : p1 < (65 : Int32)
  · refine XS.icmpYes X0.here hx rfl (pc0 := 15) (pc' := 24) rfl (hb hby d1_15) rfl (tlt hc15).1 (by decide) (by decide) ?_
    show Steps p.tables e below (T0.setTop (mkF m 24 #[.val (.int p1)] [])) _
    rw [show F1_12 p1 = F1_24 p1 from by unfold F1_12; rw [if_pos hc15]] at hr
    exact bk1_24 p1 X0 hx hZ hw hby hown hret hr
  · refine XS.icmpNo X0.here hx rfl (hb hby d1_15) rfl (flt hc15).1 ?_
    show Steps p.tables e below (T0.setTop (mkF m 18 #[.val (.int p1)] [])) _
    refine XS.iloadN X0.here hx rfl (hb hby d1_18) rfl ?_
    show Steps p.tables e below (T0.setTop (mkF m 19 #[.val (.int p1)] [(.int p1)])) _
    refine XS.bipush X0.here hx rfl (hb hby d1_19) ?_
    show Steps p.tables e below (T0.setTop (mkF m 21 #[.val (.int p1)] [(.int (90 : Int32)), (.int p1)])) _
    by_cases hc21 : (90 : Int32) < p1
    · refine XS.icmpNo X0.here hx rfl (hb hby d1_21) rfl (tlt hc21).2.2.2 ?_
      show Steps p.tables e below (T0.setTop (mkF m 24 #[.val (.int p1)] [])) _
      rw [show F1_12 p1 = F1_24 p1 from by unfold F1_12; rw [if_neg hc15, if_pos hc21]] at hr
      exact bk1_24 p1 X0 hx hZ hw hby hown hret hr
    · refine XS.icmpYes X0.here hx rfl (pc0 := 21) (pc' := 191) rfl (hb hby d1_21) rfl (flt hc21).2.2.2 (by decide) (by decide) ?_
      show Steps p.tables e below (T0.setTop (mkF m 191 #[.val (.int p1)] [])) _
      refine XS.iconst X0.here hx rfl (hb hby d1_191) ?_
      show Steps p.tables e below (T0.setTop (mkF m 192 #[.val (.int p1)] [(.int (1 : Int32))])) _
      refine XS.goto X0.here hx rfl (pc0 := 192) (pc' := 196) rfl (hb hby d1_192) (by decide) (by decide) ?_
      show Steps p.tables e below (T0.setTop (mkF m 196 #[.val (.int p1)] [(.int (1 : Int32))])) _
      rw [show F1_12 p1 = (1 : Int32) from by unfold F1_12; rw [if_neg hc15, if_neg hc21]] at hr
      exact retN X0 hx (t := .boolean) hret (by simp) (hb hby d1_196) hr
def F1_0 (p1 : Int32) : Int32 := (if p1 < (97 : Int32) then (F1_12 p1) else (if (122 : Int32) < p1 then (F1_12 p1) else (1 : Int32)))
set_option maxRecDepth 65536 in
set_option maxHeartbeats 40000000 in
theorem bk1_0 {p : Program} {l : Launch} {e : Env} {R : Room} {s : State} {m : MethodId} {args : Array Value} {below : List Frame} {meth : Method} {c : Code} {T0 : State} {locs : List Loc} {cells slots : Nat} {Z : State} {a0 : Array Value} (p1 : Int32)
    (X0 : Stand p l e R s m args below meth c T0 locs cells slots) (hx : p.tables.exec = Jvm.exec) (hZ : Z.Warmed39 s.vm) (hw : ∀ d ∈ tables_1, d.before a0 Z = true) (hby : c.code = prog_149_method_2_code) (hown : s.vm.findClass "com/example/coxt/coxt/tree/XmlNames" = some m.cls) (hret : meth.sig.returnType = some .boolean) {fs : List Frame}
    (hr : ∀ (f : JFrame) (acts : List Action), f.method = m → f.locked = none → f.entered = [] → (doReturn e (T0.setTop f) acts (some (.int (F1_0 p1)))).1 = T0.setFrames fs) :
    Steps p.tables e below (T0.setTop (mkF m 0 #[.val (.int p1)] [])) (T0.setFrames fs) := by
  show Steps p.tables e below (T0.setTop (mkF m 0 #[.val (.int p1)] [])) _
  refine XS.iloadN X0.here hx rfl (hb hby d1_0) rfl ?_
  show Steps p.tables e below (T0.setTop (mkF m 1 #[.val (.int p1)] [(.int p1)])) _
  refine XS.bipush X0.here hx rfl (hb hby d1_1) ?_
  show Steps p.tables e below (T0.setTop (mkF m 3 #[.val (.int p1)] [(.int (97 : Int32)), (.int p1)])) _
  by_cases hc3 : p1 < (97 : Int32)
  · refine XS.icmpYes X0.here hx rfl (pc0 := 3) (pc' := 12) rfl (hb hby d1_3) rfl (tlt hc3).1 (by decide) (by decide) ?_
    show Steps p.tables e below (T0.setTop (mkF m 12 #[.val (.int p1)] [])) _
    rw [show F1_0 p1 = F1_12 p1 from by unfold F1_0; rw [if_pos hc3]] at hr
    exact bk1_12 p1 X0 hx hZ hw hby hown hret hr
  · refine XS.icmpNo X0.here hx rfl (hb hby d1_3) rfl (flt hc3).1 ?_
    show Steps p.tables e below (T0.setTop (mkF m 6 #[.val (.int p1)] [])) _
    refine XS.iloadN X0.here hx rfl (hb hby d1_6) rfl ?_
    show Steps p.tables e below (T0.setTop (mkF m 7 #[.val (.int p1)] [(.int p1)])) _
    refine XS.bipush X0.here hx rfl (hb hby d1_7) ?_
    show Steps p.tables e below (T0.setTop (mkF m 9 #[.val (.int p1)] [(.int (122 : Int32)), (.int p1)])) _
    by_cases hc9 : (122 : Int32) < p1
    · refine XS.icmpNo X0.here hx rfl (hb hby d1_9) rfl (tlt hc9).2.2.2 ?_
      show Steps p.tables e below (T0.setTop (mkF m 12 #[.val (.int p1)] [])) _
      rw [show F1_0 p1 = F1_12 p1 from by unfold F1_0; rw [if_neg hc3, if_pos hc9]] at hr
      exact bk1_12 p1 X0 hx hZ hw hby hown hret hr
    · refine XS.icmpYes X0.here hx rfl (pc0 := 9) (pc' := 191) rfl (hb hby d1_9) rfl (flt hc9).2.2.2 (by decide) (by decide) ?_
      show Steps p.tables e below (T0.setTop (mkF m 191 #[.val (.int p1)] [])) _
      refine XS.iconst X0.here hx rfl (hb hby d1_191) ?_
      show Steps p.tables e below (T0.setTop (mkF m 192 #[.val (.int p1)] [(.int (1 : Int32))])) _
      refine XS.goto X0.here hx rfl (pc0 := 192) (pc' := 196) rfl (hb hby d1_192) (by decide) (by decide) ?_
      show Steps p.tables e below (T0.setTop (mkF m 196 #[.val (.int p1)] [(.int (1 : Int32))])) _
      rw [show F1_0 p1 = (1 : Int32) from by unfold F1_0; rw [if_neg hc3, if_neg hc9]] at hr
      exact retN X0 hx (t := .boolean) hret (by simp) (hb hby d1_196) hr
def Q1 (p1 : Int32) (h0 : Heap) (n0 : Nat) (v : Option Value) (h : Heap) (L : List Loc) : Prop := v = some (.int (F1_0 p1)) ∧ Fr n0 L ∧ h = h0
set_option maxRecDepth 65536 in
set_option maxHeartbeats 40000000 in
theorem rm1 (l : Launch) (Z : State) (a0 : Array Value) (hw : ∀ d ∈ tables_1, d.before a0 Z = true) (ws : List Jvm.Cond) (p1 : Int32) (h0 : Heap) (n0 : Nat) (Z0 : n0 ≤ h0.size) :
    MetFree l (⟨"com/example/coxt/coxt/tree/XmlNames", "isNameStartChar", "(I)Z"⟩ : MethodName) (head1 (Jvm.Cond.code (⟨"com/example/coxt/coxt/tree/XmlNames", "isNameStartChar", "(I)Z"⟩ : MethodName) prog_149_method_2_code 1 (some .boolean) :: ws) ({ frames := 0, cells := 0, slots := 0, locals := 0 } : Room)) (fun a U => a = #[(.int p1)] ∧ Z.Warmed39 U.vm ∧ U.heap = h0) (fun _ _ _ _ _ => True) (fun _ U o U' => ∃ v L, o = .returned v ∧ Q1 p1 h0 n0 v U'.heap L ∧ FrameEnd U o U' L ({ frames := 0, cells := 0, slots := 0, locals := 0 } : Room).cells ({ frames := 0, cells := 0, slots := 0, locals := 0 } : Room).slots) := by
  refine MetFree.of_bodySF (plainFor_of_name pn_1) hisR ?_
  intro p e s m args below meth c s₁ Bd hml0 hP hK
  obtain ⟨rfl, hZ, hh⟩ := hP
  have hx := Bd.exec
  have hby := Bd.bytes
  have hml : c.maxLocals = 1 := hml0
  have hown : s.vm.findClass "com/example/coxt/coxt/tree/XmlNames" = some m.cls := findClass_of_methodNamed Bd.named
  have hnm := (name_of_methodNamed Bd.named Bd.method).1
  have X0 : Stand p l e ({ frames := 0, cells := 0, slots := 0, locals := 0 } : Room) s m #[(.int p1)] below meth c s₁ [] 0 0 := Stand.of_body Bd
  have e0 : s₁.heap = h0 := by rw [← hh, Bd.state]; rfl
  have N0 := Fr.nil n0
  have pre0 : ∀ t, Steps p.tables e below (s₁.setTop (mkF m 0 #[.val (.int p1)] [])) t → Steps p.tables e below (s₁.setTop (entryFrame m #[(.int p1)] 1)) t := fun t kt => castTop (ef_1 m p1) kt
  obtain ⟨fs, hr, hrun, hended, hW, hsame⟩ := X0.leave (v := some (.int (F1_0 p1))) (fun h => by rw [Bd.returns] at h; cases h)
  exact ⟨_, _, pre0 _ (bk1_0 p1 X0 hx hZ hw hby hown Bd.returns hr), hrun, hended, _, _, rfl, ⟨rfl, N0, by rw [← e0]; rfl⟩, ⟨_, rfl⟩, hW, hsame.mono (by decide) (by decide)⟩
theorem d2_0 : decode method_2_code 0 = .ok (.iload_n 0, 1) := by decide +kernel
theorem d2_1 : decode method_2_code 1 = .ok (.bipush 65, 2) := by decide +kernel
theorem d2_3 : decode method_2_code 3 = .ok (.if_icmp .lt 9, 3) := by decide +kernel
theorem d2_6 : decode method_2_code 6 = .ok (.iload_n 0, 1) := by decide +kernel
theorem d2_7 : decode method_2_code 7 = .ok (.ldc 7, 2) := by decide +kernel
theorem d2_9 : decode method_2_code 9 = .ok (.if_icmp .le 5, 3) := by decide +kernel
theorem d2_12 : decode method_2_code 12 = .ok (.iconst 0, 1) := by decide +kernel
theorem d2_13 : decode method_2_code 13 = .ok (.ireturn, 1) := by decide +kernel
theorem d2_14 : decode method_2_code 14 = .ok (.iload_n 0, 1) := by decide +kernel
theorem d2_15 : decode method_2_code 15 = .ok (.bipush 91, 2) := by decide +kernel
theorem d2_17 : decode method_2_code 17 = .ok (.if_icmp .lt 11, 3) := by decide +kernel
theorem d2_20 : decode method_2_code 20 = .ok (.iload_n 0, 1) := by decide +kernel
theorem d2_21 : decode method_2_code 21 = .ok (.bipush 94, 2) := by decide +kernel
theorem d2_23 : decode method_2_code 23 = .ok (.if_icmp .gt 5, 3) := by decide +kernel
theorem d2_26 : decode method_2_code 26 = .ok (.iconst 0, 1) := by decide +kernel
theorem d2_27 : decode method_2_code 27 = .ok (.ireturn, 1) := by decide +kernel
theorem d2_28 : decode method_2_code 28 = .ok (.iload_n 0, 1) := by decide +kernel
theorem d2_29 : decode method_2_code 29 = .ok (.bipush 96, 2) := by decide +kernel
theorem d2_31 : decode method_2_code 31 = .ok (.if_icmp .ne 5, 3) := by decide +kernel
theorem d2_34 : decode method_2_code 34 = .ok (.iconst 0, 1) := by decide +kernel
theorem d2_35 : decode method_2_code 35 = .ok (.ireturn, 1) := by decide +kernel
theorem d2_36 : decode method_2_code 36 = .ok (.iload_n 0, 1) := by decide +kernel
theorem d2_37 : decode method_2_code 37 = .ok (.bipush 123, 2) := by decide +kernel
theorem d2_39 : decode method_2_code 39 = .ok (.if_icmp .lt 12, 3) := by decide +kernel
theorem d2_42 : decode method_2_code 42 = .ok (.iload_n 0, 1) := by decide +kernel
theorem d2_43 : decode method_2_code 43 = .ok (.sipush 191, 3) := by decide +kernel
theorem d2_46 : decode method_2_code 46 = .ok (.if_icmp .gt 5, 3) := by decide +kernel
theorem d2_49 : decode method_2_code 49 = .ok (.iconst 0, 1) := by decide +kernel
theorem d2_50 : decode method_2_code 50 = .ok (.ireturn, 1) := by decide +kernel
theorem d2_51 : decode method_2_code 51 = .ok (.iload_n 0, 1) := by decide +kernel
theorem d2_52 : decode method_2_code 52 = .ok (.sipush 215, 3) := by decide +kernel
theorem d2_55 : decode method_2_code 55 = .ok (.if_icmp .eq 10, 3) := by decide +kernel
theorem d2_58 : decode method_2_code 58 = .ok (.iload_n 0, 1) := by decide +kernel
theorem d2_59 : decode method_2_code 59 = .ok (.sipush 247, 3) := by decide +kernel
theorem d2_62 : decode method_2_code 62 = .ok (.if_icmp .ne 5, 3) := by decide +kernel
theorem d2_65 : decode method_2_code 65 = .ok (.iconst 0, 1) := by decide +kernel
theorem d2_66 : decode method_2_code 66 = .ok (.ireturn, 1) := by decide +kernel
theorem d2_67 : decode method_2_code 67 = .ok (.iload_n 0, 1) := by decide +kernel
theorem d2_68 : decode method_2_code 68 = .ok (.sipush 768, 3) := by decide +kernel
theorem d2_71 : decode method_2_code 71 = .ok (.if_icmp .lt 12, 3) := by decide +kernel
theorem d2_74 : decode method_2_code 74 = .ok (.iload_n 0, 1) := by decide +kernel
theorem d2_75 : decode method_2_code 75 = .ok (.sipush 879, 3) := by decide +kernel
theorem d2_78 : decode method_2_code 78 = .ok (.if_icmp .gt 5, 3) := by decide +kernel
theorem d2_81 : decode method_2_code 81 = .ok (.iconst 0, 1) := by decide +kernel
theorem d2_82 : decode method_2_code 82 = .ok (.ireturn, 1) := by decide +kernel
theorem d2_83 : decode method_2_code 83 = .ok (.iload_n 0, 1) := by decide +kernel
theorem d2_84 : decode method_2_code 84 = .ok (.sipush 894, 3) := by decide +kernel
theorem d2_87 : decode method_2_code 87 = .ok (.if_icmp .ne 5, 3) := by decide +kernel
theorem d2_90 : decode method_2_code 90 = .ok (.iconst 0, 1) := by decide +kernel
theorem d2_91 : decode method_2_code 91 = .ok (.ireturn, 1) := by decide +kernel
theorem d2_92 : decode method_2_code 92 = .ok (.iload_n 0, 1) := by decide +kernel
theorem d2_93 : decode method_2_code 93 = .ok (.sipush 8192, 3) := by decide +kernel
theorem d2_96 : decode method_2_code 96 = .ok (.if_icmp .lt 12, 3) := by decide +kernel
theorem d2_99 : decode method_2_code 99 = .ok (.iload_n 0, 1) := by decide +kernel
theorem d2_100 : decode method_2_code 100 = .ok (.sipush 8203, 3) := by decide +kernel
theorem d2_103 : decode method_2_code 103 = .ok (.if_icmp .gt 5, 3) := by decide +kernel
theorem d2_106 : decode method_2_code 106 = .ok (.iconst 0, 1) := by decide +kernel
theorem d2_107 : decode method_2_code 107 = .ok (.ireturn, 1) := by decide +kernel
theorem d2_108 : decode method_2_code 108 = .ok (.iload_n 0, 1) := by decide +kernel
theorem d2_109 : decode method_2_code 109 = .ok (.sipush 8206, 3) := by decide +kernel
theorem d2_112 : decode method_2_code 112 = .ok (.if_icmp .lt 12, 3) := by decide +kernel
theorem d2_115 : decode method_2_code 115 = .ok (.iload_n 0, 1) := by decide +kernel
theorem d2_116 : decode method_2_code 116 = .ok (.sipush 8303, 3) := by decide +kernel
theorem d2_119 : decode method_2_code 119 = .ok (.if_icmp .gt 5, 3) := by decide +kernel
theorem d2_122 : decode method_2_code 122 = .ok (.iconst 0, 1) := by decide +kernel
theorem d2_123 : decode method_2_code 123 = .ok (.ireturn, 1) := by decide +kernel
theorem d2_124 : decode method_2_code 124 = .ok (.iload_n 0, 1) := by decide +kernel
theorem d2_125 : decode method_2_code 125 = .ok (.sipush 8592, 3) := by decide +kernel
theorem d2_128 : decode method_2_code 128 = .ok (.if_icmp .lt 12, 3) := by decide +kernel
theorem d2_131 : decode method_2_code 131 = .ok (.iload_n 0, 1) := by decide +kernel
theorem d2_132 : decode method_2_code 132 = .ok (.sipush 11263, 3) := by decide +kernel
theorem d2_135 : decode method_2_code 135 = .ok (.if_icmp .gt 5, 3) := by decide +kernel
theorem d2_138 : decode method_2_code 138 = .ok (.iconst 0, 1) := by decide +kernel
theorem d2_139 : decode method_2_code 139 = .ok (.ireturn, 1) := by decide +kernel
theorem d2_140 : decode method_2_code 140 = .ok (.iload_n 0, 1) := by decide +kernel
theorem d2_141 : decode method_2_code 141 = .ok (.sipush 12272, 3) := by decide +kernel
theorem d2_144 : decode method_2_code 144 = .ok (.if_icmp .lt 12, 3) := by decide +kernel
theorem d2_147 : decode method_2_code 147 = .ok (.iload_n 0, 1) := by decide +kernel
theorem d2_148 : decode method_2_code 148 = .ok (.sipush 12288, 3) := by decide +kernel
theorem d2_151 : decode method_2_code 151 = .ok (.if_icmp .gt 5, 3) := by decide +kernel
theorem d2_154 : decode method_2_code 154 = .ok (.iconst 0, 1) := by decide +kernel
theorem d2_155 : decode method_2_code 155 = .ok (.ireturn, 1) := by decide +kernel
theorem d2_156 : decode method_2_code 156 = .ok (.iload_n 0, 1) := by decide +kernel
theorem d2_157 : decode method_2_code 157 = .ok (.ldc 8, 2) := by decide +kernel
theorem d2_159 : decode method_2_code 159 = .ok (.if_icmp .lt 11, 3) := by decide +kernel
theorem d2_162 : decode method_2_code 162 = .ok (.iload_n 0, 1) := by decide +kernel
theorem d2_163 : decode method_2_code 163 = .ok (.ldc 9, 2) := by decide +kernel
theorem d2_165 : decode method_2_code 165 = .ok (.if_icmp .gt 5, 3) := by decide +kernel
theorem d2_168 : decode method_2_code 168 = .ok (.iconst 0, 1) := by decide +kernel
theorem d2_169 : decode method_2_code 169 = .ok (.ireturn, 1) := by decide +kernel
theorem d2_170 : decode method_2_code 170 = .ok (.iload_n 0, 1) := by decide +kernel
theorem d2_171 : decode method_2_code 171 = .ok (.ldc 10, 2) := by decide +kernel
theorem d2_173 : decode method_2_code 173 = .ok (.if_icmp .lt 11, 3) := by decide +kernel
theorem d2_176 : decode method_2_code 176 = .ok (.iload_n 0, 1) := by decide +kernel
theorem d2_177 : decode method_2_code 177 = .ok (.ldc 11, 2) := by decide +kernel
theorem d2_179 : decode method_2_code 179 = .ok (.if_icmp .gt 5, 3) := by decide +kernel
theorem d2_182 : decode method_2_code 182 = .ok (.iconst 0, 1) := by decide +kernel
theorem d2_183 : decode method_2_code 183 = .ok (.ireturn, 1) := by decide +kernel
theorem d2_184 : decode method_2_code 184 = .ok (.iload_n 0, 1) := by decide +kernel
theorem d2_185 : decode method_2_code 185 = .ok (.ldc 12, 2) := by decide +kernel
theorem d2_187 : decode method_2_code 187 = .ok (.if_icmp .lt 11, 3) := by decide +kernel
theorem d2_190 : decode method_2_code 190 = .ok (.iload_n 0, 1) := by decide +kernel
theorem d2_191 : decode method_2_code 191 = .ok (.ldc 13, 2) := by decide +kernel
theorem d2_193 : decode method_2_code 193 = .ok (.if_icmp .gt 5, 3) := by decide +kernel
theorem d2_196 : decode method_2_code 196 = .ok (.iconst 0, 1) := by decide +kernel
theorem d2_197 : decode method_2_code 197 = .ok (.ireturn, 1) := by decide +kernel
theorem d2_198 : decode method_2_code 198 = .ok (.iconst 1, 1) := by decide +kernel
theorem d2_199 : decode method_2_code 199 = .ok (.ireturn, 1) := by decide +kernel
theorem pn_2 : plainName "com/example/coxt/coxt/tree/XmlNamesIsNameStartCharPinLaw" = true := by first | (simp [plainName, overriddenIn]; done) | decide +kernel
theorem ef_2 (m : MethodId) (p1 : Int32) : entryFrame m #[(.int p1)] 1 = mkF m 0 #[.val (.int p1)] [] := by first | (simp [entryFrame, mkF, argsToLocals, Value.category]; done) | rfl
def F2_198 (p1 : Int32) : Int32 := (1 : Int32)
set_option maxRecDepth 65536 in
set_option maxHeartbeats 40000000 in
theorem bk2_198 {p : Program} {l : Launch} {e : Env} {R : Room} {s : State} {m : MethodId} {args : Array Value} {below : List Frame} {meth : Method} {c : Code} {T0 : State} {locs : List Loc} {cells slots : Nat} {Z : State} {a0 : Array Value} (p1 : Int32)
    (X0 : Stand p l e R s m args below meth c T0 locs cells slots) (hx : p.tables.exec = Jvm.exec) (hZ : Z.Warmed39 s.vm) (hw : ∀ d ∈ tables_1, d.before a0 Z = true) (hby : c.code = method_2_code) (hown : s.vm.findClass "com/example/coxt/coxt/tree/XmlNamesIsNameStartCharPinLaw" = some m.cls) (hret : meth.sig.returnType = some .boolean) {fs : List Frame}
    (hr : ∀ (f : JFrame) (acts : List Action), f.method = m → f.locked = none → f.entered = [] → (doReturn e (T0.setTop f) acts (some (.int (F2_198 p1)))).1 = T0.setFrames fs) :
    Steps p.tables e below (T0.setTop (mkF m 198 #[.val (.int p1)] [])) (T0.setFrames fs) := by
  show Steps p.tables e below (T0.setTop (mkF m 198 #[.val (.int p1)] [])) _
  refine XS.iconst X0.here hx rfl (hb hby d2_198) ?_
  show Steps p.tables e below (T0.setTop (mkF m 199 #[.val (.int p1)] [(.int (1 : Int32))])) _
  rw [show F2_198 p1 = (1 : Int32) from by rfl] at hr
  exact retN X0 hx (t := .boolean) hret (by simp) (hb hby d2_199) hr
def F2_184 (p1 : Int32) : Int32 := (if p1 < (65534 : Int32) then (F2_198 p1) else (if (65535 : Int32) < p1 then (F2_198 p1) else (0 : Int32)))
set_option maxRecDepth 65536 in
set_option maxHeartbeats 40000000 in
theorem bk2_184 {p : Program} {l : Launch} {e : Env} {R : Room} {s : State} {m : MethodId} {args : Array Value} {below : List Frame} {meth : Method} {c : Code} {T0 : State} {locs : List Loc} {cells slots : Nat} {Z : State} {a0 : Array Value} (p1 : Int32)
    (X0 : Stand p l e R s m args below meth c T0 locs cells slots) (hx : p.tables.exec = Jvm.exec) (hZ : Z.Warmed39 s.vm) (hw : ∀ d ∈ tables_1, d.before a0 Z = true) (hby : c.code = method_2_code) (hown : s.vm.findClass "com/example/coxt/coxt/tree/XmlNamesIsNameStartCharPinLaw" = some m.cls) (hret : meth.sig.returnType = some .boolean) {fs : List Frame}
    (hr : ∀ (f : JFrame) (acts : List Action), f.method = m → f.locked = none → f.entered = [] → (doReturn e (T0.setTop f) acts (some (.int (F2_184 p1)))).1 = T0.setFrames fs) :
    Steps p.tables e below (T0.setTop (mkF m 184 #[.val (.int p1)] [])) (T0.setFrames fs) := by
  show Steps p.tables e below (T0.setTop (mkF m 184 #[.val (.int p1)] [])) _
  refine XS.iloadN X0.here hx rfl (hb hby d2_184) rfl ?_
  show Steps p.tables e below (T0.setTop (mkF m 185 #[.val (.int p1)] [(.int p1)])) _
  refine X0.ldcInt hx hown (mvT hZ (hw _ (List.mem_of_getElem? (i := 5) rfl))) (g := (mkF m 185 #[.val (.int p1)] [(.int p1)])) rfl (hb hby d2_185) _ ?_
  show Steps p.tables e below (T0.setTop (mkF m 187 #[.val (.int p1)] [(.int (65534 : Int32)), (.int p1)])) _
  by_cases hc187 : p1 < (65534 : Int32)
  · refine XS.icmpYes X0.here hx rfl (pc0 := 187) (pc' := 198) rfl (hb hby d2_187) rfl (tlt hc187).1 (by decide) (by decide) ?_
    show Steps p.tables e below (T0.setTop (mkF m 198 #[.val (.int p1)] [])) _
    rw [show F2_184 p1 = F2_198 p1 from by unfold F2_184; rw [if_pos hc187]] at hr
    exact bk2_198 p1 X0 hx hZ hw hby hown hret hr
  · refine XS.icmpNo X0.here hx rfl (hb hby d2_187) rfl (flt hc187).1 ?_
    show Steps p.tables e below (T0.setTop (mkF m 190 #[.val (.int p1)] [])) _
    refine XS.iloadN X0.here hx rfl (hb hby d2_190) rfl ?_
    show Steps p.tables e below (T0.setTop (mkF m 191 #[.val (.int p1)] [(.int p1)])) _
    refine X0.ldcInt hx hown (mvT hZ (hw _ (List.mem_of_getElem? (i := 27) rfl))) (g := (mkF m 191 #[.val (.int p1)] [(.int p1)])) rfl (hb hby d2_191) _ ?_
    show Steps p.tables e below (T0.setTop (mkF m 193 #[.val (.int p1)] [(.int (65535 : Int32)), (.int p1)])) _
    by_cases hc193 : (65535 : Int32) < p1
    · refine XS.icmpYes X0.here hx rfl (pc0 := 193) (pc' := 198) rfl (hb hby d2_193) rfl (tlt hc193).2.2.1 (by decide) (by decide) ?_
      show Steps p.tables e below (T0.setTop (mkF m 198 #[.val (.int p1)] [])) _
      rw [show F2_184 p1 = F2_198 p1 from by unfold F2_184; rw [if_neg hc187, if_pos hc193]] at hr
      exact bk2_198 p1 X0 hx hZ hw hby hown hret hr
    · refine XS.icmpNo X0.here hx rfl (hb hby d2_193) rfl (flt hc193).2.2.1 ?_
      show Steps p.tables e below (T0.setTop (mkF m 196 #[.val (.int p1)] [])) _
      refine XS.iconst X0.here hx rfl (hb hby d2_196) ?_
      show Steps p.tables e below (T0.setTop (mkF m 197 #[.val (.int p1)] [(.int (0 : Int32))])) _
      rw [show F2_184 p1 = (0 : Int32) from by unfold F2_184; rw [if_neg hc187, if_neg hc193]] at hr
      exact retN X0 hx (t := .boolean) hret (by simp) (hb hby d2_197) hr
def F2_170 (p1 : Int32) : Int32 := (if p1 < (64976 : Int32) then (F2_184 p1) else (if (65007 : Int32) < p1 then (F2_184 p1) else (0 : Int32)))
set_option maxRecDepth 65536 in
set_option maxHeartbeats 40000000 in
theorem bk2_170 {p : Program} {l : Launch} {e : Env} {R : Room} {s : State} {m : MethodId} {args : Array Value} {below : List Frame} {meth : Method} {c : Code} {T0 : State} {locs : List Loc} {cells slots : Nat} {Z : State} {a0 : Array Value} (p1 : Int32)
    (X0 : Stand p l e R s m args below meth c T0 locs cells slots) (hx : p.tables.exec = Jvm.exec) (hZ : Z.Warmed39 s.vm) (hw : ∀ d ∈ tables_1, d.before a0 Z = true) (hby : c.code = method_2_code) (hown : s.vm.findClass "com/example/coxt/coxt/tree/XmlNamesIsNameStartCharPinLaw" = some m.cls) (hret : meth.sig.returnType = some .boolean) {fs : List Frame}
    (hr : ∀ (f : JFrame) (acts : List Action), f.method = m → f.locked = none → f.entered = [] → (doReturn e (T0.setTop f) acts (some (.int (F2_170 p1)))).1 = T0.setFrames fs) :
    Steps p.tables e below (T0.setTop (mkF m 170 #[.val (.int p1)] [])) (T0.setFrames fs) := by
  show Steps p.tables e below (T0.setTop (mkF m 170 #[.val (.int p1)] [])) _
  refine XS.iloadN X0.here hx rfl (hb hby d2_170) rfl ?_
  show Steps p.tables e below (T0.setTop (mkF m 171 #[.val (.int p1)] [(.int p1)])) _
  refine X0.ldcInt hx hown (mvT hZ (hw _ (List.mem_of_getElem? (i := 3) rfl))) (g := (mkF m 171 #[.val (.int p1)] [(.int p1)])) rfl (hb hby d2_171) _ ?_
  show Steps p.tables e below (T0.setTop (mkF m 173 #[.val (.int p1)] [(.int (64976 : Int32)), (.int p1)])) _
  by_cases hc173 : p1 < (64976 : Int32)
  · refine XS.icmpYes X0.here hx rfl (pc0 := 173) (pc' := 184) rfl (hb hby d2_173) rfl (tlt hc173).1 (by decide) (by decide) ?_
    show Steps p.tables e below (T0.setTop (mkF m 184 #[.val (.int p1)] [])) _
    rw [show F2_170 p1 = F2_184 p1 from by unfold F2_170; rw [if_pos hc173]] at hr
    exact bk2_184 p1 X0 hx hZ hw hby hown hret hr
  · refine XS.icmpNo X0.here hx rfl (hb hby d2_173) rfl (flt hc173).1 ?_
    show Steps p.tables e below (T0.setTop (mkF m 176 #[.val (.int p1)] [])) _
    refine XS.iloadN X0.here hx rfl (hb hby d2_176) rfl ?_
    show Steps p.tables e below (T0.setTop (mkF m 177 #[.val (.int p1)] [(.int p1)])) _
    refine X0.ldcInt hx hown (mvT hZ (hw _ (List.mem_of_getElem? (i := 26) rfl))) (g := (mkF m 177 #[.val (.int p1)] [(.int p1)])) rfl (hb hby d2_177) _ ?_
    show Steps p.tables e below (T0.setTop (mkF m 179 #[.val (.int p1)] [(.int (65007 : Int32)), (.int p1)])) _
    by_cases hc179 : (65007 : Int32) < p1
    · refine XS.icmpYes X0.here hx rfl (pc0 := 179) (pc' := 184) rfl (hb hby d2_179) rfl (tlt hc179).2.2.1 (by decide) (by decide) ?_
      show Steps p.tables e below (T0.setTop (mkF m 184 #[.val (.int p1)] [])) _
      rw [show F2_170 p1 = F2_184 p1 from by unfold F2_170; rw [if_neg hc173, if_pos hc179]] at hr
      exact bk2_184 p1 X0 hx hZ hw hby hown hret hr
    · refine XS.icmpNo X0.here hx rfl (hb hby d2_179) rfl (flt hc179).2.2.1 ?_
      show Steps p.tables e below (T0.setTop (mkF m 182 #[.val (.int p1)] [])) _
      refine XS.iconst X0.here hx rfl (hb hby d2_182) ?_
      show Steps p.tables e below (T0.setTop (mkF m 183 #[.val (.int p1)] [(.int (0 : Int32))])) _
      rw [show F2_170 p1 = (0 : Int32) from by unfold F2_170; rw [if_neg hc173, if_neg hc179]] at hr
      exact retN X0 hx (t := .boolean) hret (by simp) (hb hby d2_183) hr
def F2_156 (p1 : Int32) : Int32 := (if p1 < (55296 : Int32) then (F2_170 p1) else (if (63743 : Int32) < p1 then (F2_170 p1) else (0 : Int32)))
set_option maxRecDepth 65536 in
set_option maxHeartbeats 40000000 in
theorem bk2_156 {p : Program} {l : Launch} {e : Env} {R : Room} {s : State} {m : MethodId} {args : Array Value} {below : List Frame} {meth : Method} {c : Code} {T0 : State} {locs : List Loc} {cells slots : Nat} {Z : State} {a0 : Array Value} (p1 : Int32)
    (X0 : Stand p l e R s m args below meth c T0 locs cells slots) (hx : p.tables.exec = Jvm.exec) (hZ : Z.Warmed39 s.vm) (hw : ∀ d ∈ tables_1, d.before a0 Z = true) (hby : c.code = method_2_code) (hown : s.vm.findClass "com/example/coxt/coxt/tree/XmlNamesIsNameStartCharPinLaw" = some m.cls) (hret : meth.sig.returnType = some .boolean) {fs : List Frame}
    (hr : ∀ (f : JFrame) (acts : List Action), f.method = m → f.locked = none → f.entered = [] → (doReturn e (T0.setTop f) acts (some (.int (F2_156 p1)))).1 = T0.setFrames fs) :
    Steps p.tables e below (T0.setTop (mkF m 156 #[.val (.int p1)] [])) (T0.setFrames fs) := by
  show Steps p.tables e below (T0.setTop (mkF m 156 #[.val (.int p1)] [])) _
  refine XS.iloadN X0.here hx rfl (hb hby d2_156) rfl ?_
  show Steps p.tables e below (T0.setTop (mkF m 157 #[.val (.int p1)] [(.int p1)])) _
  refine X0.ldcInt hx hown (mvT hZ (hw _ (List.mem_of_getElem? (i := 1) rfl))) (g := (mkF m 157 #[.val (.int p1)] [(.int p1)])) rfl (hb hby d2_157) _ ?_
  show Steps p.tables e below (T0.setTop (mkF m 159 #[.val (.int p1)] [(.int (55296 : Int32)), (.int p1)])) _
  by_cases hc159 : p1 < (55296 : Int32)
  · refine XS.icmpYes X0.here hx rfl (pc0 := 159) (pc' := 170) rfl (hb hby d2_159) rfl (tlt hc159).1 (by decide) (by decide) ?_
    show Steps p.tables e below (T0.setTop (mkF m 170 #[.val (.int p1)] [])) _
    rw [show F2_156 p1 = F2_170 p1 from by unfold F2_156; rw [if_pos hc159]] at hr
    exact bk2_170 p1 X0 hx hZ hw hby hown hret hr
  · refine XS.icmpNo X0.here hx rfl (hb hby d2_159) rfl (flt hc159).1 ?_
    show Steps p.tables e below (T0.setTop (mkF m 162 #[.val (.int p1)] [])) _
    refine XS.iloadN X0.here hx rfl (hb hby d2_162) rfl ?_
    show Steps p.tables e below (T0.setTop (mkF m 163 #[.val (.int p1)] [(.int p1)])) _
    refine X0.ldcInt hx hown (mvT hZ (hw _ (List.mem_of_getElem? (i := 25) rfl))) (g := (mkF m 163 #[.val (.int p1)] [(.int p1)])) rfl (hb hby d2_163) _ ?_
    show Steps p.tables e below (T0.setTop (mkF m 165 #[.val (.int p1)] [(.int (63743 : Int32)), (.int p1)])) _
    by_cases hc165 : (63743 : Int32) < p1
    · refine XS.icmpYes X0.here hx rfl (pc0 := 165) (pc' := 170) rfl (hb hby d2_165) rfl (tlt hc165).2.2.1 (by decide) (by decide) ?_
      show Steps p.tables e below (T0.setTop (mkF m 170 #[.val (.int p1)] [])) _
      rw [show F2_156 p1 = F2_170 p1 from by unfold F2_156; rw [if_neg hc159, if_pos hc165]] at hr
      exact bk2_170 p1 X0 hx hZ hw hby hown hret hr
    · refine XS.icmpNo X0.here hx rfl (hb hby d2_165) rfl (flt hc165).2.2.1 ?_
      show Steps p.tables e below (T0.setTop (mkF m 168 #[.val (.int p1)] [])) _
      refine XS.iconst X0.here hx rfl (hb hby d2_168) ?_
      show Steps p.tables e below (T0.setTop (mkF m 169 #[.val (.int p1)] [(.int (0 : Int32))])) _
      rw [show F2_156 p1 = (0 : Int32) from by unfold F2_156; rw [if_neg hc159, if_neg hc165]] at hr
      exact retN X0 hx (t := .boolean) hret (by simp) (hb hby d2_169) hr
def F2_140 (p1 : Int32) : Int32 := (if p1 < (12272 : Int32) then (F2_156 p1) else (if (12288 : Int32) < p1 then (F2_156 p1) else (0 : Int32)))
set_option maxRecDepth 65536 in
set_option maxHeartbeats 40000000 in
theorem bk2_140 {p : Program} {l : Launch} {e : Env} {R : Room} {s : State} {m : MethodId} {args : Array Value} {below : List Frame} {meth : Method} {c : Code} {T0 : State} {locs : List Loc} {cells slots : Nat} {Z : State} {a0 : Array Value} (p1 : Int32)
    (X0 : Stand p l e R s m args below meth c T0 locs cells slots) (hx : p.tables.exec = Jvm.exec) (hZ : Z.Warmed39 s.vm) (hw : ∀ d ∈ tables_1, d.before a0 Z = true) (hby : c.code = method_2_code) (hown : s.vm.findClass "com/example/coxt/coxt/tree/XmlNamesIsNameStartCharPinLaw" = some m.cls) (hret : meth.sig.returnType = some .boolean) {fs : List Frame}
    (hr : ∀ (f : JFrame) (acts : List Action), f.method = m → f.locked = none → f.entered = [] → (doReturn e (T0.setTop f) acts (some (.int (F2_140 p1)))).1 = T0.setFrames fs) :
    Steps p.tables e below (T0.setTop (mkF m 140 #[.val (.int p1)] [])) (T0.setFrames fs) := by
  show Steps p.tables e below (T0.setTop (mkF m 140 #[.val (.int p1)] [])) _
  refine XS.iloadN X0.here hx rfl (hb hby d2_140) rfl ?_
  show Steps p.tables e below (T0.setTop (mkF m 141 #[.val (.int p1)] [(.int p1)])) _
  refine XS.sipush X0.here hx rfl (hb hby d2_141) ?_
  show Steps p.tables e below (T0.setTop (mkF m 144 #[.val (.int p1)] [(.int (12272 : Int32)), (.int p1)])) _
  by_cases hc144 : p1 < (12272 : Int32)
  · refine XS.icmpYes X0.here hx rfl (pc0 := 144) (pc' := 156) rfl (hb hby d2_144) rfl (tlt hc144).1 (by decide) (by decide) ?_
    show Steps p.tables e below (T0.setTop (mkF m 156 #[.val (.int p1)] [])) _
    rw [show F2_140 p1 = F2_156 p1 from by unfold F2_140; rw [if_pos hc144]] at hr
    exact bk2_156 p1 X0 hx hZ hw hby hown hret hr
  · refine XS.icmpNo X0.here hx rfl (hb hby d2_144) rfl (flt hc144).1 ?_
    show Steps p.tables e below (T0.setTop (mkF m 147 #[.val (.int p1)] [])) _
    refine XS.iloadN X0.here hx rfl (hb hby d2_147) rfl ?_
    show Steps p.tables e below (T0.setTop (mkF m 148 #[.val (.int p1)] [(.int p1)])) _
    refine XS.sipush X0.here hx rfl (hb hby d2_148) ?_
    show Steps p.tables e below (T0.setTop (mkF m 151 #[.val (.int p1)] [(.int (12288 : Int32)), (.int p1)])) _
    by_cases hc151 : (12288 : Int32) < p1
    · refine XS.icmpYes X0.here hx rfl (pc0 := 151) (pc' := 156) rfl (hb hby d2_151) rfl (tlt hc151).2.2.1 (by decide) (by decide) ?_
      show Steps p.tables e below (T0.setTop (mkF m 156 #[.val (.int p1)] [])) _
      rw [show F2_140 p1 = F2_156 p1 from by unfold F2_140; rw [if_neg hc144, if_pos hc151]] at hr
      exact bk2_156 p1 X0 hx hZ hw hby hown hret hr
    · refine XS.icmpNo X0.here hx rfl (hb hby d2_151) rfl (flt hc151).2.2.1 ?_
      show Steps p.tables e below (T0.setTop (mkF m 154 #[.val (.int p1)] [])) _
      refine XS.iconst X0.here hx rfl (hb hby d2_154) ?_
      show Steps p.tables e below (T0.setTop (mkF m 155 #[.val (.int p1)] [(.int (0 : Int32))])) _
      rw [show F2_140 p1 = (0 : Int32) from by unfold F2_140; rw [if_neg hc144, if_neg hc151]] at hr
      exact retN X0 hx (t := .boolean) hret (by simp) (hb hby d2_155) hr
def F2_124 (p1 : Int32) : Int32 := (if p1 < (8592 : Int32) then (F2_140 p1) else (if (11263 : Int32) < p1 then (F2_140 p1) else (0 : Int32)))
set_option maxRecDepth 65536 in
set_option maxHeartbeats 40000000 in
theorem bk2_124 {p : Program} {l : Launch} {e : Env} {R : Room} {s : State} {m : MethodId} {args : Array Value} {below : List Frame} {meth : Method} {c : Code} {T0 : State} {locs : List Loc} {cells slots : Nat} {Z : State} {a0 : Array Value} (p1 : Int32)
    (X0 : Stand p l e R s m args below meth c T0 locs cells slots) (hx : p.tables.exec = Jvm.exec) (hZ : Z.Warmed39 s.vm) (hw : ∀ d ∈ tables_1, d.before a0 Z = true) (hby : c.code = method_2_code) (hown : s.vm.findClass "com/example/coxt/coxt/tree/XmlNamesIsNameStartCharPinLaw" = some m.cls) (hret : meth.sig.returnType = some .boolean) {fs : List Frame}
    (hr : ∀ (f : JFrame) (acts : List Action), f.method = m → f.locked = none → f.entered = [] → (doReturn e (T0.setTop f) acts (some (.int (F2_124 p1)))).1 = T0.setFrames fs) :
    Steps p.tables e below (T0.setTop (mkF m 124 #[.val (.int p1)] [])) (T0.setFrames fs) := by
  show Steps p.tables e below (T0.setTop (mkF m 124 #[.val (.int p1)] [])) _
  refine XS.iloadN X0.here hx rfl (hb hby d2_124) rfl ?_
  show Steps p.tables e below (T0.setTop (mkF m 125 #[.val (.int p1)] [(.int p1)])) _
  refine XS.sipush X0.here hx rfl (hb hby d2_125) ?_
  show Steps p.tables e below (T0.setTop (mkF m 128 #[.val (.int p1)] [(.int (8592 : Int32)), (.int p1)])) _
  by_cases hc128 : p1 < (8592 : Int32)
  · refine XS.icmpYes X0.here hx rfl (pc0 := 128) (pc' := 140) rfl (hb hby d2_128) rfl (tlt hc128).1 (by decide) (by decide) ?_
    show Steps p.tables e below (T0.setTop (mkF m 140 #[.val (.int p1)] [])) _
    rw [show F2_124 p1 = F2_140 p1 from by unfold F2_124; rw [if_pos hc128]] at hr
    exact bk2_140 p1 X0 hx hZ hw hby hown hret hr
  · refine XS.icmpNo X0.here hx rfl (hb hby d2_128) rfl (flt hc128).1 ?_
    show Steps p.tables e below (T0.setTop (mkF m 131 #[.val (.int p1)] [])) _
    refine XS.iloadN X0.here hx rfl (hb hby d2_131) rfl ?_
    show Steps p.tables e below (T0.setTop (mkF m 132 #[.val (.int p1)] [(.int p1)])) _
    refine XS.sipush X0.here hx rfl (hb hby d2_132) ?_
    show Steps p.tables e below (T0.setTop (mkF m 135 #[.val (.int p1)] [(.int (11263 : Int32)), (.int p1)])) _
    by_cases hc135 : (11263 : Int32) < p1
    · refine XS.icmpYes X0.here hx rfl (pc0 := 135) (pc' := 140) rfl (hb hby d2_135) rfl (tlt hc135).2.2.1 (by decide) (by decide) ?_
      show Steps p.tables e below (T0.setTop (mkF m 140 #[.val (.int p1)] [])) _
      rw [show F2_124 p1 = F2_140 p1 from by unfold F2_124; rw [if_neg hc128, if_pos hc135]] at hr
      exact bk2_140 p1 X0 hx hZ hw hby hown hret hr
    · refine XS.icmpNo X0.here hx rfl (hb hby d2_135) rfl (flt hc135).2.2.1 ?_
      show Steps p.tables e below (T0.setTop (mkF m 138 #[.val (.int p1)] [])) _
      refine XS.iconst X0.here hx rfl (hb hby d2_138) ?_
      show Steps p.tables e below (T0.setTop (mkF m 139 #[.val (.int p1)] [(.int (0 : Int32))])) _
      rw [show F2_124 p1 = (0 : Int32) from by unfold F2_124; rw [if_neg hc128, if_neg hc135]] at hr
      exact retN X0 hx (t := .boolean) hret (by simp) (hb hby d2_139) hr
def F2_108 (p1 : Int32) : Int32 := (if p1 < (8206 : Int32) then (F2_124 p1) else (if (8303 : Int32) < p1 then (F2_124 p1) else (0 : Int32)))
set_option maxRecDepth 65536 in
set_option maxHeartbeats 40000000 in
theorem bk2_108 {p : Program} {l : Launch} {e : Env} {R : Room} {s : State} {m : MethodId} {args : Array Value} {below : List Frame} {meth : Method} {c : Code} {T0 : State} {locs : List Loc} {cells slots : Nat} {Z : State} {a0 : Array Value} (p1 : Int32)
    (X0 : Stand p l e R s m args below meth c T0 locs cells slots) (hx : p.tables.exec = Jvm.exec) (hZ : Z.Warmed39 s.vm) (hw : ∀ d ∈ tables_1, d.before a0 Z = true) (hby : c.code = method_2_code) (hown : s.vm.findClass "com/example/coxt/coxt/tree/XmlNamesIsNameStartCharPinLaw" = some m.cls) (hret : meth.sig.returnType = some .boolean) {fs : List Frame}
    (hr : ∀ (f : JFrame) (acts : List Action), f.method = m → f.locked = none → f.entered = [] → (doReturn e (T0.setTop f) acts (some (.int (F2_108 p1)))).1 = T0.setFrames fs) :
    Steps p.tables e below (T0.setTop (mkF m 108 #[.val (.int p1)] [])) (T0.setFrames fs) := by
  show Steps p.tables e below (T0.setTop (mkF m 108 #[.val (.int p1)] [])) _
  refine XS.iloadN X0.here hx rfl (hb hby d2_108) rfl ?_
  show Steps p.tables e below (T0.setTop (mkF m 109 #[.val (.int p1)] [(.int p1)])) _
  refine XS.sipush X0.here hx rfl (hb hby d2_109) ?_
  show Steps p.tables e below (T0.setTop (mkF m 112 #[.val (.int p1)] [(.int (8206 : Int32)), (.int p1)])) _
  by_cases hc112 : p1 < (8206 : Int32)
  · refine XS.icmpYes X0.here hx rfl (pc0 := 112) (pc' := 124) rfl (hb hby d2_112) rfl (tlt hc112).1 (by decide) (by decide) ?_
    show Steps p.tables e below (T0.setTop (mkF m 124 #[.val (.int p1)] [])) _
    rw [show F2_108 p1 = F2_124 p1 from by unfold F2_108; rw [if_pos hc112]] at hr
    exact bk2_124 p1 X0 hx hZ hw hby hown hret hr
  · refine XS.icmpNo X0.here hx rfl (hb hby d2_112) rfl (flt hc112).1 ?_
    show Steps p.tables e below (T0.setTop (mkF m 115 #[.val (.int p1)] [])) _
    refine XS.iloadN X0.here hx rfl (hb hby d2_115) rfl ?_
    show Steps p.tables e below (T0.setTop (mkF m 116 #[.val (.int p1)] [(.int p1)])) _
    refine XS.sipush X0.here hx rfl (hb hby d2_116) ?_
    show Steps p.tables e below (T0.setTop (mkF m 119 #[.val (.int p1)] [(.int (8303 : Int32)), (.int p1)])) _
    by_cases hc119 : (8303 : Int32) < p1
    · refine XS.icmpYes X0.here hx rfl (pc0 := 119) (pc' := 124) rfl (hb hby d2_119) rfl (tlt hc119).2.2.1 (by decide) (by decide) ?_
      show Steps p.tables e below (T0.setTop (mkF m 124 #[.val (.int p1)] [])) _
      rw [show F2_108 p1 = F2_124 p1 from by unfold F2_108; rw [if_neg hc112, if_pos hc119]] at hr
      exact bk2_124 p1 X0 hx hZ hw hby hown hret hr
    · refine XS.icmpNo X0.here hx rfl (hb hby d2_119) rfl (flt hc119).2.2.1 ?_
      show Steps p.tables e below (T0.setTop (mkF m 122 #[.val (.int p1)] [])) _
      refine XS.iconst X0.here hx rfl (hb hby d2_122) ?_
      show Steps p.tables e below (T0.setTop (mkF m 123 #[.val (.int p1)] [(.int (0 : Int32))])) _
      rw [show F2_108 p1 = (0 : Int32) from by unfold F2_108; rw [if_neg hc112, if_neg hc119]] at hr
      exact retN X0 hx (t := .boolean) hret (by simp) (hb hby d2_123) hr
def F2_92 (p1 : Int32) : Int32 := (if p1 < (8192 : Int32) then (F2_108 p1) else (if (8203 : Int32) < p1 then (F2_108 p1) else (0 : Int32)))
set_option maxRecDepth 65536 in
set_option maxHeartbeats 40000000 in
theorem bk2_92 {p : Program} {l : Launch} {e : Env} {R : Room} {s : State} {m : MethodId} {args : Array Value} {below : List Frame} {meth : Method} {c : Code} {T0 : State} {locs : List Loc} {cells slots : Nat} {Z : State} {a0 : Array Value} (p1 : Int32)
    (X0 : Stand p l e R s m args below meth c T0 locs cells slots) (hx : p.tables.exec = Jvm.exec) (hZ : Z.Warmed39 s.vm) (hw : ∀ d ∈ tables_1, d.before a0 Z = true) (hby : c.code = method_2_code) (hown : s.vm.findClass "com/example/coxt/coxt/tree/XmlNamesIsNameStartCharPinLaw" = some m.cls) (hret : meth.sig.returnType = some .boolean) {fs : List Frame}
    (hr : ∀ (f : JFrame) (acts : List Action), f.method = m → f.locked = none → f.entered = [] → (doReturn e (T0.setTop f) acts (some (.int (F2_92 p1)))).1 = T0.setFrames fs) :
    Steps p.tables e below (T0.setTop (mkF m 92 #[.val (.int p1)] [])) (T0.setFrames fs) := by
  show Steps p.tables e below (T0.setTop (mkF m 92 #[.val (.int p1)] [])) _
  refine XS.iloadN X0.here hx rfl (hb hby d2_92) rfl ?_
  show Steps p.tables e below (T0.setTop (mkF m 93 #[.val (.int p1)] [(.int p1)])) _
  refine XS.sipush X0.here hx rfl (hb hby d2_93) ?_
  show Steps p.tables e below (T0.setTop (mkF m 96 #[.val (.int p1)] [(.int (8192 : Int32)), (.int p1)])) _
  by_cases hc96 : p1 < (8192 : Int32)
  · refine XS.icmpYes X0.here hx rfl (pc0 := 96) (pc' := 108) rfl (hb hby d2_96) rfl (tlt hc96).1 (by decide) (by decide) ?_
    show Steps p.tables e below (T0.setTop (mkF m 108 #[.val (.int p1)] [])) _
    rw [show F2_92 p1 = F2_108 p1 from by unfold F2_92; rw [if_pos hc96]] at hr
    exact bk2_108 p1 X0 hx hZ hw hby hown hret hr
  · refine XS.icmpNo X0.here hx rfl (hb hby d2_96) rfl (flt hc96).1 ?_
    show Steps p.tables e below (T0.setTop (mkF m 99 #[.val (.int p1)] [])) _
    refine XS.iloadN X0.here hx rfl (hb hby d2_99) rfl ?_
    show Steps p.tables e below (T0.setTop (mkF m 100 #[.val (.int p1)] [(.int p1)])) _
    refine XS.sipush X0.here hx rfl (hb hby d2_100) ?_
    show Steps p.tables e below (T0.setTop (mkF m 103 #[.val (.int p1)] [(.int (8203 : Int32)), (.int p1)])) _
    by_cases hc103 : (8203 : Int32) < p1
    · refine XS.icmpYes X0.here hx rfl (pc0 := 103) (pc' := 108) rfl (hb hby d2_103) rfl (tlt hc103).2.2.1 (by decide) (by decide) ?_
      show Steps p.tables e below (T0.setTop (mkF m 108 #[.val (.int p1)] [])) _
      rw [show F2_92 p1 = F2_108 p1 from by unfold F2_92; rw [if_neg hc96, if_pos hc103]] at hr
      exact bk2_108 p1 X0 hx hZ hw hby hown hret hr
    · refine XS.icmpNo X0.here hx rfl (hb hby d2_103) rfl (flt hc103).2.2.1 ?_
      show Steps p.tables e below (T0.setTop (mkF m 106 #[.val (.int p1)] [])) _
      refine XS.iconst X0.here hx rfl (hb hby d2_106) ?_
      show Steps p.tables e below (T0.setTop (mkF m 107 #[.val (.int p1)] [(.int (0 : Int32))])) _
      rw [show F2_92 p1 = (0 : Int32) from by unfold F2_92; rw [if_neg hc96, if_neg hc103]] at hr
      exact retN X0 hx (t := .boolean) hret (by simp) (hb hby d2_107) hr
def F2_83 (p1 : Int32) : Int32 := (if p1 = (894 : Int32) then (0 : Int32) else (F2_92 p1))
set_option maxRecDepth 65536 in
set_option maxHeartbeats 40000000 in
theorem bk2_83 {p : Program} {l : Launch} {e : Env} {R : Room} {s : State} {m : MethodId} {args : Array Value} {below : List Frame} {meth : Method} {c : Code} {T0 : State} {locs : List Loc} {cells slots : Nat} {Z : State} {a0 : Array Value} (p1 : Int32)
    (X0 : Stand p l e R s m args below meth c T0 locs cells slots) (hx : p.tables.exec = Jvm.exec) (hZ : Z.Warmed39 s.vm) (hw : ∀ d ∈ tables_1, d.before a0 Z = true) (hby : c.code = method_2_code) (hown : s.vm.findClass "com/example/coxt/coxt/tree/XmlNamesIsNameStartCharPinLaw" = some m.cls) (hret : meth.sig.returnType = some .boolean) {fs : List Frame}
    (hr : ∀ (f : JFrame) (acts : List Action), f.method = m → f.locked = none → f.entered = [] → (doReturn e (T0.setTop f) acts (some (.int (F2_83 p1)))).1 = T0.setFrames fs) :
    Steps p.tables e below (T0.setTop (mkF m 83 #[.val (.int p1)] [])) (T0.setFrames fs) := by
  show Steps p.tables e below (T0.setTop (mkF m 83 #[.val (.int p1)] [])) _
  refine XS.iloadN X0.here hx rfl (hb hby d2_83) rfl ?_
  show Steps p.tables e below (T0.setTop (mkF m 84 #[.val (.int p1)] [(.int p1)])) _
  refine XS.sipush X0.here hx rfl (hb hby d2_84) ?_
  show Steps p.tables e below (T0.setTop (mkF m 87 #[.val (.int p1)] [(.int (894 : Int32)), (.int p1)])) _
  by_cases hc87 : p1 = (894 : Int32)
  · refine XS.icmpNo X0.here hx rfl (hb hby d2_87) rfl (teq hc87).2 ?_
    show Steps p.tables e below (T0.setTop (mkF m 90 #[.val (.int p1)] [])) _
    refine XS.iconst X0.here hx rfl (hb hby d2_90) ?_
    show Steps p.tables e below (T0.setTop (mkF m 91 #[.val (.int p1)] [(.int (0 : Int32))])) _
    rw [show F2_83 p1 = (0 : Int32) from by unfold F2_83; rw [if_pos hc87]] at hr
    exact retN X0 hx (t := .boolean) hret (by simp) (hb hby d2_91) hr
  · refine XS.icmpYes X0.here hx rfl (pc0 := 87) (pc' := 92) rfl (hb hby d2_87) rfl (feq hc87).2 (by decide) (by decide) ?_
    show Steps p.tables e below (T0.setTop (mkF m 92 #[.val (.int p1)] [])) _
    rw [show F2_83 p1 = F2_92 p1 from by unfold F2_83; rw [if_neg hc87]] at hr
    exact bk2_92 p1 X0 hx hZ hw hby hown hret hr
def F2_67 (p1 : Int32) : Int32 := (if p1 < (768 : Int32) then (F2_83 p1) else (if (879 : Int32) < p1 then (F2_83 p1) else (0 : Int32)))
set_option maxRecDepth 65536 in
set_option maxHeartbeats 40000000 in
theorem bk2_67 {p : Program} {l : Launch} {e : Env} {R : Room} {s : State} {m : MethodId} {args : Array Value} {below : List Frame} {meth : Method} {c : Code} {T0 : State} {locs : List Loc} {cells slots : Nat} {Z : State} {a0 : Array Value} (p1 : Int32)
    (X0 : Stand p l e R s m args below meth c T0 locs cells slots) (hx : p.tables.exec = Jvm.exec) (hZ : Z.Warmed39 s.vm) (hw : ∀ d ∈ tables_1, d.before a0 Z = true) (hby : c.code = method_2_code) (hown : s.vm.findClass "com/example/coxt/coxt/tree/XmlNamesIsNameStartCharPinLaw" = some m.cls) (hret : meth.sig.returnType = some .boolean) {fs : List Frame}
    (hr : ∀ (f : JFrame) (acts : List Action), f.method = m → f.locked = none → f.entered = [] → (doReturn e (T0.setTop f) acts (some (.int (F2_67 p1)))).1 = T0.setFrames fs) :
    Steps p.tables e below (T0.setTop (mkF m 67 #[.val (.int p1)] [])) (T0.setFrames fs) := by
  show Steps p.tables e below (T0.setTop (mkF m 67 #[.val (.int p1)] [])) _
  refine XS.iloadN X0.here hx rfl (hb hby d2_67) rfl ?_
  show Steps p.tables e below (T0.setTop (mkF m 68 #[.val (.int p1)] [(.int p1)])) _
  refine XS.sipush X0.here hx rfl (hb hby d2_68) ?_
  show Steps p.tables e below (T0.setTop (mkF m 71 #[.val (.int p1)] [(.int (768 : Int32)), (.int p1)])) _
  by_cases hc71 : p1 < (768 : Int32)
  · refine XS.icmpYes X0.here hx rfl (pc0 := 71) (pc' := 83) rfl (hb hby d2_71) rfl (tlt hc71).1 (by decide) (by decide) ?_
    show Steps p.tables e below (T0.setTop (mkF m 83 #[.val (.int p1)] [])) _
    rw [show F2_67 p1 = F2_83 p1 from by unfold F2_67; rw [if_pos hc71]] at hr
    exact bk2_83 p1 X0 hx hZ hw hby hown hret hr
  · refine XS.icmpNo X0.here hx rfl (hb hby d2_71) rfl (flt hc71).1 ?_
    show Steps p.tables e below (T0.setTop (mkF m 74 #[.val (.int p1)] [])) _
    refine XS.iloadN X0.here hx rfl (hb hby d2_74) rfl ?_
    show Steps p.tables e below (T0.setTop (mkF m 75 #[.val (.int p1)] [(.int p1)])) _
    refine XS.sipush X0.here hx rfl (hb hby d2_75) ?_
    show Steps p.tables e below (T0.setTop (mkF m 78 #[.val (.int p1)] [(.int (879 : Int32)), (.int p1)])) _
    by_cases hc78 : (879 : Int32) < p1
    · refine XS.icmpYes X0.here hx rfl (pc0 := 78) (pc' := 83) rfl (hb hby d2_78) rfl (tlt hc78).2.2.1 (by decide) (by decide) ?_
      show Steps p.tables e below (T0.setTop (mkF m 83 #[.val (.int p1)] [])) _
      rw [show F2_67 p1 = F2_83 p1 from by unfold F2_67; rw [if_neg hc71, if_pos hc78]] at hr
      exact bk2_83 p1 X0 hx hZ hw hby hown hret hr
    · refine XS.icmpNo X0.here hx rfl (hb hby d2_78) rfl (flt hc78).2.2.1 ?_
      show Steps p.tables e below (T0.setTop (mkF m 81 #[.val (.int p1)] [])) _
      refine XS.iconst X0.here hx rfl (hb hby d2_81) ?_
      show Steps p.tables e below (T0.setTop (mkF m 82 #[.val (.int p1)] [(.int (0 : Int32))])) _
      rw [show F2_67 p1 = (0 : Int32) from by unfold F2_67; rw [if_neg hc71, if_neg hc78]] at hr
      exact retN X0 hx (t := .boolean) hret (by simp) (hb hby d2_82) hr
def F2_51 (p1 : Int32) : Int32 := (if p1 = (215 : Int32) then (0 : Int32) else (if p1 = (247 : Int32) then (0 : Int32) else (F2_67 p1)))
set_option maxRecDepth 65536 in
set_option maxHeartbeats 40000000 in
theorem bk2_51 {p : Program} {l : Launch} {e : Env} {R : Room} {s : State} {m : MethodId} {args : Array Value} {below : List Frame} {meth : Method} {c : Code} {T0 : State} {locs : List Loc} {cells slots : Nat} {Z : State} {a0 : Array Value} (p1 : Int32)
    (X0 : Stand p l e R s m args below meth c T0 locs cells slots) (hx : p.tables.exec = Jvm.exec) (hZ : Z.Warmed39 s.vm) (hw : ∀ d ∈ tables_1, d.before a0 Z = true) (hby : c.code = method_2_code) (hown : s.vm.findClass "com/example/coxt/coxt/tree/XmlNamesIsNameStartCharPinLaw" = some m.cls) (hret : meth.sig.returnType = some .boolean) {fs : List Frame}
    (hr : ∀ (f : JFrame) (acts : List Action), f.method = m → f.locked = none → f.entered = [] → (doReturn e (T0.setTop f) acts (some (.int (F2_51 p1)))).1 = T0.setFrames fs) :
    Steps p.tables e below (T0.setTop (mkF m 51 #[.val (.int p1)] [])) (T0.setFrames fs) := by
  show Steps p.tables e below (T0.setTop (mkF m 51 #[.val (.int p1)] [])) _
  refine XS.iloadN X0.here hx rfl (hb hby d2_51) rfl ?_
  show Steps p.tables e below (T0.setTop (mkF m 52 #[.val (.int p1)] [(.int p1)])) _
  refine XS.sipush X0.here hx rfl (hb hby d2_52) ?_
  show Steps p.tables e below (T0.setTop (mkF m 55 #[.val (.int p1)] [(.int (215 : Int32)), (.int p1)])) _
  by_cases hc55 : p1 = (215 : Int32)
  · refine XS.icmpYes X0.here hx rfl (pc0 := 55) (pc' := 65) rfl (hb hby d2_55) rfl (teq hc55).1 (by decide) (by decide) ?_
    show Steps p.tables e below (T0.setTop (mkF m 65 #[.val (.int p1)] [])) _
    refine XS.iconst X0.here hx rfl (hb hby d2_65) ?_
    show Steps p.tables e below (T0.setTop (mkF m 66 #[.val (.int p1)] [(.int (0 : Int32))])) _
    rw [show F2_51 p1 = (0 : Int32) from by unfold F2_51; rw [if_pos hc55]] at hr
    exact retN X0 hx (t := .boolean) hret (by simp) (hb hby d2_66) hr
  · refine XS.icmpNo X0.here hx rfl (hb hby d2_55) rfl (feq hc55).1 ?_
    show Steps p.tables e below (T0.setTop (mkF m 58 #[.val (.int p1)] [])) _
    refine XS.iloadN X0.here hx rfl (hb hby d2_58) rfl ?_
    show Steps p.tables e below (T0.setTop (mkF m 59 #[.val (.int p1)] [(.int p1)])) _
    refine XS.sipush X0.here hx rfl (hb hby d2_59) ?_
    show Steps p.tables e below (T0.setTop (mkF m 62 #[.val (.int p1)] [(.int (247 : Int32)), (.int p1)])) _
    by_cases hc62 : p1 = (247 : Int32)
    · refine XS.icmpNo X0.here hx rfl (hb hby d2_62) rfl (teq hc62).2 ?_
      show Steps p.tables e below (T0.setTop (mkF m 65 #[.val (.int p1)] [])) _
      refine XS.iconst X0.here hx rfl (hb hby d2_65) ?_
      show Steps p.tables e below (T0.setTop (mkF m 66 #[.val (.int p1)] [(.int (0 : Int32))])) _
      rw [show F2_51 p1 = (0 : Int32) from by unfold F2_51; rw [if_neg hc55, if_pos hc62]] at hr
      exact retN X0 hx (t := .boolean) hret (by simp) (hb hby d2_66) hr
    · refine XS.icmpYes X0.here hx rfl (pc0 := 62) (pc' := 67) rfl (hb hby d2_62) rfl (feq hc62).2 (by decide) (by decide) ?_
      show Steps p.tables e below (T0.setTop (mkF m 67 #[.val (.int p1)] [])) _
      rw [show F2_51 p1 = F2_67 p1 from by unfold F2_51; rw [if_neg hc55, if_neg hc62]] at hr
      exact bk2_67 p1 X0 hx hZ hw hby hown hret hr
def F2_36 (p1 : Int32) : Int32 := (if p1 < (123 : Int32) then (F2_51 p1) else (if (191 : Int32) < p1 then (F2_51 p1) else (0 : Int32)))
set_option maxRecDepth 65536 in
set_option maxHeartbeats 40000000 in
theorem bk2_36 {p : Program} {l : Launch} {e : Env} {R : Room} {s : State} {m : MethodId} {args : Array Value} {below : List Frame} {meth : Method} {c : Code} {T0 : State} {locs : List Loc} {cells slots : Nat} {Z : State} {a0 : Array Value} (p1 : Int32)
    (X0 : Stand p l e R s m args below meth c T0 locs cells slots) (hx : p.tables.exec = Jvm.exec) (hZ : Z.Warmed39 s.vm) (hw : ∀ d ∈ tables_1, d.before a0 Z = true) (hby : c.code = method_2_code) (hown : s.vm.findClass "com/example/coxt/coxt/tree/XmlNamesIsNameStartCharPinLaw" = some m.cls) (hret : meth.sig.returnType = some .boolean) {fs : List Frame}
    (hr : ∀ (f : JFrame) (acts : List Action), f.method = m → f.locked = none → f.entered = [] → (doReturn e (T0.setTop f) acts (some (.int (F2_36 p1)))).1 = T0.setFrames fs) :
    Steps p.tables e below (T0.setTop (mkF m 36 #[.val (.int p1)] [])) (T0.setFrames fs) := by
  show Steps p.tables e below (T0.setTop (mkF m 36 #[.val (.int p1)] [])) _
  refine XS.iloadN X0.here hx rfl (hb hby d2_36) rfl ?_
  show Steps p.tables e below (T0.setTop (mkF m 37 #[.val (.int p1)] [(.int p1)])) _
  refine XS.bipush X0.here hx rfl (hb hby d2_37) ?_
  show Steps p.tables e below (T0.setTop (mkF m 39 #[.val (.int p1)] [(.int (123 : Int32)), (.int p1)])) _
  by_cases hc39 : p1 < (123 : Int32)
  · refine XS.icmpYes X0.here hx rfl (pc0 := 39) (pc' := 51) rfl (hb hby d2_39) rfl (tlt hc39).1 (by decide) (by decide) ?_
    show Steps p.tables e below (T0.setTop (mkF m 51 #[.val (.int p1)] [])) _
    rw [show F2_36 p1 = F2_51 p1 from by unfold F2_36; rw [if_pos hc39]] at hr
    exact bk2_51 p1 X0 hx hZ hw hby hown hret hr
  · refine XS.icmpNo X0.here hx rfl (hb hby d2_39) rfl (flt hc39).1 ?_
    show Steps p.tables e below (T0.setTop (mkF m 42 #[.val (.int p1)] [])) _
    refine XS.iloadN X0.here hx rfl (hb hby d2_42) rfl ?_
    show Steps p.tables e below (T0.setTop (mkF m 43 #[.val (.int p1)] [(.int p1)])) _
    refine XS.sipush X0.here hx rfl (hb hby d2_43) ?_
    show Steps p.tables e below (T0.setTop (mkF m 46 #[.val (.int p1)] [(.int (191 : Int32)), (.int p1)])) _
    by_cases hc46 : (191 : Int32) < p1
    · refine XS.icmpYes X0.here hx rfl (pc0 := 46) (pc' := 51) rfl (hb hby d2_46) rfl (tlt hc46).2.2.1 (by decide) (by decide) ?_
      show Steps p.tables e below (T0.setTop (mkF m 51 #[.val (.int p1)] [])) _
      rw [show F2_36 p1 = F2_51 p1 from by unfold F2_36; rw [if_neg hc39, if_pos hc46]] at hr
      exact bk2_51 p1 X0 hx hZ hw hby hown hret hr
    · refine XS.icmpNo X0.here hx rfl (hb hby d2_46) rfl (flt hc46).2.2.1 ?_
      show Steps p.tables e below (T0.setTop (mkF m 49 #[.val (.int p1)] [])) _
      refine XS.iconst X0.here hx rfl (hb hby d2_49) ?_
      show Steps p.tables e below (T0.setTop (mkF m 50 #[.val (.int p1)] [(.int (0 : Int32))])) _
      rw [show F2_36 p1 = (0 : Int32) from by unfold F2_36; rw [if_neg hc39, if_neg hc46]] at hr
      exact retN X0 hx (t := .boolean) hret (by simp) (hb hby d2_50) hr
def F2_28 (p1 : Int32) : Int32 := (if p1 = (96 : Int32) then (0 : Int32) else (F2_36 p1))
set_option maxRecDepth 65536 in
set_option maxHeartbeats 40000000 in
theorem bk2_28 {p : Program} {l : Launch} {e : Env} {R : Room} {s : State} {m : MethodId} {args : Array Value} {below : List Frame} {meth : Method} {c : Code} {T0 : State} {locs : List Loc} {cells slots : Nat} {Z : State} {a0 : Array Value} (p1 : Int32)
    (X0 : Stand p l e R s m args below meth c T0 locs cells slots) (hx : p.tables.exec = Jvm.exec) (hZ : Z.Warmed39 s.vm) (hw : ∀ d ∈ tables_1, d.before a0 Z = true) (hby : c.code = method_2_code) (hown : s.vm.findClass "com/example/coxt/coxt/tree/XmlNamesIsNameStartCharPinLaw" = some m.cls) (hret : meth.sig.returnType = some .boolean) {fs : List Frame}
    (hr : ∀ (f : JFrame) (acts : List Action), f.method = m → f.locked = none → f.entered = [] → (doReturn e (T0.setTop f) acts (some (.int (F2_28 p1)))).1 = T0.setFrames fs) :
    Steps p.tables e below (T0.setTop (mkF m 28 #[.val (.int p1)] [])) (T0.setFrames fs) := by
  show Steps p.tables e below (T0.setTop (mkF m 28 #[.val (.int p1)] [])) _
  refine XS.iloadN X0.here hx rfl (hb hby d2_28) rfl ?_
  show Steps p.tables e below (T0.setTop (mkF m 29 #[.val (.int p1)] [(.int p1)])) _
  refine XS.bipush X0.here hx rfl (hb hby d2_29) ?_
  show Steps p.tables e below (T0.setTop (mkF m 31 #[.val (.int p1)] [(.int (96 : Int32)), (.int p1)])) _
  by_cases hc31 : p1 = (96 : Int32)
  · refine XS.icmpNo X0.here hx rfl (hb hby d2_31) rfl (teq hc31).2 ?_
    show Steps p.tables e below (T0.setTop (mkF m 34 #[.val (.int p1)] [])) _
    refine XS.iconst X0.here hx rfl (hb hby d2_34) ?_
    show Steps p.tables e below (T0.setTop (mkF m 35 #[.val (.int p1)] [(.int (0 : Int32))])) _
    rw [show F2_28 p1 = (0 : Int32) from by unfold F2_28; rw [if_pos hc31]] at hr
    exact retN X0 hx (t := .boolean) hret (by simp) (hb hby d2_35) hr
  · refine XS.icmpYes X0.here hx rfl (pc0 := 31) (pc' := 36) rfl (hb hby d2_31) rfl (feq hc31).2 (by decide) (by decide) ?_
    show Steps p.tables e below (T0.setTop (mkF m 36 #[.val (.int p1)] [])) _
    rw [show F2_28 p1 = F2_36 p1 from by unfold F2_28; rw [if_neg hc31]] at hr
    exact bk2_36 p1 X0 hx hZ hw hby hown hret hr
def F2_14 (p1 : Int32) : Int32 := (if p1 < (91 : Int32) then (F2_28 p1) else (if (94 : Int32) < p1 then (F2_28 p1) else (0 : Int32)))
set_option maxRecDepth 65536 in
set_option maxHeartbeats 40000000 in
theorem bk2_14 {p : Program} {l : Launch} {e : Env} {R : Room} {s : State} {m : MethodId} {args : Array Value} {below : List Frame} {meth : Method} {c : Code} {T0 : State} {locs : List Loc} {cells slots : Nat} {Z : State} {a0 : Array Value} (p1 : Int32)
    (X0 : Stand p l e R s m args below meth c T0 locs cells slots) (hx : p.tables.exec = Jvm.exec) (hZ : Z.Warmed39 s.vm) (hw : ∀ d ∈ tables_1, d.before a0 Z = true) (hby : c.code = method_2_code) (hown : s.vm.findClass "com/example/coxt/coxt/tree/XmlNamesIsNameStartCharPinLaw" = some m.cls) (hret : meth.sig.returnType = some .boolean) {fs : List Frame}
    (hr : ∀ (f : JFrame) (acts : List Action), f.method = m → f.locked = none → f.entered = [] → (doReturn e (T0.setTop f) acts (some (.int (F2_14 p1)))).1 = T0.setFrames fs) :
    Steps p.tables e below (T0.setTop (mkF m 14 #[.val (.int p1)] [])) (T0.setFrames fs) := by
  show Steps p.tables e below (T0.setTop (mkF m 14 #[.val (.int p1)] [])) _
  refine XS.iloadN X0.here hx rfl (hb hby d2_14) rfl ?_
  show Steps p.tables e below (T0.setTop (mkF m 15 #[.val (.int p1)] [(.int p1)])) _
  refine XS.bipush X0.here hx rfl (hb hby d2_15) ?_
  show Steps p.tables e below (T0.setTop (mkF m 17 #[.val (.int p1)] [(.int (91 : Int32)), (.int p1)])) _
  by_cases hc17 : p1 < (91 : Int32)
  · refine XS.icmpYes X0.here hx rfl (pc0 := 17) (pc' := 28) rfl (hb hby d2_17) rfl (tlt hc17).1 (by decide) (by decide) ?_
    show Steps p.tables e below (T0.setTop (mkF m 28 #[.val (.int p1)] [])) _
    rw [show F2_14 p1 = F2_28 p1 from by unfold F2_14; rw [if_pos hc17]] at hr
    exact bk2_28 p1 X0 hx hZ hw hby hown hret hr
  · refine XS.icmpNo X0.here hx rfl (hb hby d2_17) rfl (flt hc17).1 ?_
    show Steps p.tables e below (T0.setTop (mkF m 20 #[.val (.int p1)] [])) _
    refine XS.iloadN X0.here hx rfl (hb hby d2_20) rfl ?_
    show Steps p.tables e below (T0.setTop (mkF m 21 #[.val (.int p1)] [(.int p1)])) _
    refine XS.bipush X0.here hx rfl (hb hby d2_21) ?_
    show Steps p.tables e below (T0.setTop (mkF m 23 #[.val (.int p1)] [(.int (94 : Int32)), (.int p1)])) _
    by_cases hc23 : (94 : Int32) < p1
    · refine XS.icmpYes X0.here hx rfl (pc0 := 23) (pc' := 28) rfl (hb hby d2_23) rfl (tlt hc23).2.2.1 (by decide) (by decide) ?_
      show Steps p.tables e below (T0.setTop (mkF m 28 #[.val (.int p1)] [])) _
      rw [show F2_14 p1 = F2_28 p1 from by unfold F2_14; rw [if_neg hc17, if_pos hc23]] at hr
      exact bk2_28 p1 X0 hx hZ hw hby hown hret hr
    · refine XS.icmpNo X0.here hx rfl (hb hby d2_23) rfl (flt hc23).2.2.1 ?_
      show Steps p.tables e below (T0.setTop (mkF m 26 #[.val (.int p1)] [])) _
      refine XS.iconst X0.here hx rfl (hb hby d2_26) ?_
      show Steps p.tables e below (T0.setTop (mkF m 27 #[.val (.int p1)] [(.int (0 : Int32))])) _
      rw [show F2_14 p1 = (0 : Int32) from by unfold F2_14; rw [if_neg hc17, if_neg hc23]] at hr
      exact retN X0 hx (t := .boolean) hret (by simp) (hb hby d2_27) hr
def F2_0 (p1 : Int32) : Int32 := (if p1 < (65 : Int32) then (0 : Int32) else (if (983039 : Int32) < p1 then (0 : Int32) else (F2_14 p1)))
set_option maxRecDepth 65536 in
set_option maxHeartbeats 40000000 in
theorem bk2_0 {p : Program} {l : Launch} {e : Env} {R : Room} {s : State} {m : MethodId} {args : Array Value} {below : List Frame} {meth : Method} {c : Code} {T0 : State} {locs : List Loc} {cells slots : Nat} {Z : State} {a0 : Array Value} (p1 : Int32)
    (X0 : Stand p l e R s m args below meth c T0 locs cells slots) (hx : p.tables.exec = Jvm.exec) (hZ : Z.Warmed39 s.vm) (hw : ∀ d ∈ tables_1, d.before a0 Z = true) (hby : c.code = method_2_code) (hown : s.vm.findClass "com/example/coxt/coxt/tree/XmlNamesIsNameStartCharPinLaw" = some m.cls) (hret : meth.sig.returnType = some .boolean) {fs : List Frame}
    (hr : ∀ (f : JFrame) (acts : List Action), f.method = m → f.locked = none → f.entered = [] → (doReturn e (T0.setTop f) acts (some (.int (F2_0 p1)))).1 = T0.setFrames fs) :
    Steps p.tables e below (T0.setTop (mkF m 0 #[.val (.int p1)] [])) (T0.setFrames fs) := by
  show Steps p.tables e below (T0.setTop (mkF m 0 #[.val (.int p1)] [])) _
  refine XS.iloadN X0.here hx rfl (hb hby d2_0) rfl ?_
  show Steps p.tables e below (T0.setTop (mkF m 1 #[.val (.int p1)] [(.int p1)])) _
  refine XS.bipush X0.here hx rfl (hb hby d2_1) ?_
  show Steps p.tables e below (T0.setTop (mkF m 3 #[.val (.int p1)] [(.int (65 : Int32)), (.int p1)])) _
  by_cases hc3 : p1 < (65 : Int32)
  · refine XS.icmpYes X0.here hx rfl (pc0 := 3) (pc' := 12) rfl (hb hby d2_3) rfl (tlt hc3).1 (by decide) (by decide) ?_
    show Steps p.tables e below (T0.setTop (mkF m 12 #[.val (.int p1)] [])) _
    refine XS.iconst X0.here hx rfl (hb hby d2_12) ?_
    show Steps p.tables e below (T0.setTop (mkF m 13 #[.val (.int p1)] [(.int (0 : Int32))])) _
    rw [show F2_0 p1 = (0 : Int32) from by unfold F2_0; rw [if_pos hc3]] at hr
    exact retN X0 hx (t := .boolean) hret (by simp) (hb hby d2_13) hr
  · refine XS.icmpNo X0.here hx rfl (hb hby d2_3) rfl (flt hc3).1 ?_
    show Steps p.tables e below (T0.setTop (mkF m 6 #[.val (.int p1)] [])) _
    refine XS.iloadN X0.here hx rfl (hb hby d2_6) rfl ?_
    show Steps p.tables e below (T0.setTop (mkF m 7 #[.val (.int p1)] [(.int p1)])) _
    refine X0.ldcInt hx hown (mvT hZ (hw _ (List.mem_of_getElem? (i := 20) rfl))) (g := (mkF m 7 #[.val (.int p1)] [(.int p1)])) rfl (hb hby d2_7) _ ?_
    show Steps p.tables e below (T0.setTop (mkF m 9 #[.val (.int p1)] [(.int (983039 : Int32)), (.int p1)])) _
    by_cases hc9 : (983039 : Int32) < p1
    · refine XS.icmpNo X0.here hx rfl (hb hby d2_9) rfl (tlt hc9).2.2.2 ?_
      show Steps p.tables e below (T0.setTop (mkF m 12 #[.val (.int p1)] [])) _
      refine XS.iconst X0.here hx rfl (hb hby d2_12) ?_
      show Steps p.tables e below (T0.setTop (mkF m 13 #[.val (.int p1)] [(.int (0 : Int32))])) _
      rw [show F2_0 p1 = (0 : Int32) from by unfold F2_0; rw [if_neg hc3, if_pos hc9]] at hr
      exact retN X0 hx (t := .boolean) hret (by simp) (hb hby d2_13) hr
    · refine XS.icmpYes X0.here hx rfl (pc0 := 9) (pc' := 14) rfl (hb hby d2_9) rfl (flt hc9).2.2.2 (by decide) (by decide) ?_
      show Steps p.tables e below (T0.setTop (mkF m 14 #[.val (.int p1)] [])) _
      rw [show F2_0 p1 = F2_14 p1 from by unfold F2_0; rw [if_neg hc3, if_neg hc9]] at hr
      exact bk2_14 p1 X0 hx hZ hw hby hown hret hr
def Q2 (p1 : Int32) (h0 : Heap) (n0 : Nat) (v : Option Value) (h : Heap) (L : List Loc) : Prop := v = some (.int (F2_0 p1)) ∧ Fr n0 L ∧ h = h0
set_option maxRecDepth 65536 in
set_option maxHeartbeats 40000000 in
theorem rm2 (l : Launch) (Z : State) (a0 : Array Value) (hw : ∀ d ∈ tables_1, d.before a0 Z = true) (ws : List Jvm.Cond) (p1 : Int32) (h0 : Heap) (n0 : Nat) (Z0 : n0 ≤ h0.size) :
    MetFree l (⟨"com/example/coxt/coxt/tree/XmlNamesIsNameStartCharPinLaw", "ref", "(I)Z"⟩ : MethodName) (head1 (Jvm.Cond.code (⟨"com/example/coxt/coxt/tree/XmlNamesIsNameStartCharPinLaw", "ref", "(I)Z"⟩ : MethodName) method_2_code 1 (some .boolean) :: ws) ({ frames := 0, cells := 0, slots := 0, locals := 0 } : Room)) (fun a U => a = #[(.int p1)] ∧ Z.Warmed39 U.vm ∧ U.heap = h0) (fun _ _ _ _ _ => True) (fun _ U o U' => ∃ v L, o = .returned v ∧ Q2 p1 h0 n0 v U'.heap L ∧ FrameEnd U o U' L ({ frames := 0, cells := 0, slots := 0, locals := 0 } : Room).cells ({ frames := 0, cells := 0, slots := 0, locals := 0 } : Room).slots) := by
  refine MetFree.of_bodySF (plainFor_of_name pn_2) hisR ?_
  intro p e s m args below meth c s₁ Bd hml0 hP hK
  obtain ⟨rfl, hZ, hh⟩ := hP
  have hx := Bd.exec
  have hby := Bd.bytes
  have hml : c.maxLocals = 1 := hml0
  have hown : s.vm.findClass "com/example/coxt/coxt/tree/XmlNamesIsNameStartCharPinLaw" = some m.cls := findClass_of_methodNamed Bd.named
  have hnm := (name_of_methodNamed Bd.named Bd.method).1
  have X0 : Stand p l e ({ frames := 0, cells := 0, slots := 0, locals := 0 } : Room) s m #[(.int p1)] below meth c s₁ [] 0 0 := Stand.of_body Bd
  have e0 : s₁.heap = h0 := by rw [← hh, Bd.state]; rfl
  have N0 := Fr.nil n0
  have pre0 : ∀ t, Steps p.tables e below (s₁.setTop (mkF m 0 #[.val (.int p1)] [])) t → Steps p.tables e below (s₁.setTop (entryFrame m #[(.int p1)] 1)) t := fun t kt => castTop (ef_2 m p1) kt
  obtain ⟨fs, hr, hrun, hended, hW, hsame⟩ := X0.leave (v := some (.int (F2_0 p1))) (fun h => by rw [Bd.returns] at h; cases h)
  exact ⟨_, _, pre0 _ (bk2_0 p1 X0 hx hZ hw hby hown Bd.returns hr), hrun, hended, _, _, rfl, ⟨rfl, N0, by rw [← e0]; rfl⟩, ⟨_, rfl⟩, hW, hsame.mono (by decide) (by decide)⟩
theorem own_blk {c lo hi v w : Int32} : (if c < lo then w else if hi < c then w else v) = (if lo.toInt ≤ c.toInt ∧ c.toInt ≤ hi.toInt then v else w) := by
  by_cases h1 : c < lo
  · rw [if_pos h1, if_neg]
    rw [Int32.lt_iff_toInt_lt] at h1; omega
  · rw [if_neg h1]
    by_cases h2 : hi < c
    · rw [if_pos h2, if_neg]
      rw [Int32.lt_iff_toInt_lt] at h2; omega
    · rw [if_neg h2, if_pos]
      rw [Int32.lt_iff_toInt_lt] at h1 h2; omega
theorem own_pt {c k v w : Int32} : (if c = k then v else w) = (if c.toInt = k.toInt then v else w) := by
  by_cases h : c = k
  · rw [if_pos h, if_pos (congrArg _ h)]
  · rw [if_neg h, if_neg (fun q => h (Int32.toInt_inj.mp q))]
theorem own_or {P Q : Prop} [Decidable P] [Decidable Q] {v w : Int32} : (if P then v else if Q then v else w) = (if P ∨ Q then v else w) := by
  by_cases h : P <;> by_cases k : Q <;> simp [h, k]
theorem own_join {P Q S : Prop} [Decidable P] [Decidable Q] [Decidable S] {v w : Int32} (h : P ↔ (Q ∧ ¬ S)) : (if P then v else w) = (if Q then (if S then w else v) else w) := by
  by_cases q : Q <;> by_cases r : S <;> simp [h, q, r]
theorem own_eq (c : Int32) : F1_0 c = F2_0 c := by
  unfold F1_0 F1_12 F1_24 F1_30 F1_44 F1_58 F1_72 F1_86 F1_100 F1_114 F1_128 F1_142 F1_155 F1_167 F1_179
  unfold F2_0 F2_14 F2_28 F2_36 F2_51 F2_67 F2_83 F2_92 F2_108 F2_124 F2_140 F2_156 F2_170 F2_184 F2_198
  simp only [own_blk]
  simp only [own_pt]
  simp only [own_or, Int32.reduceToInt]
  generalize c.toInt = z
  refine own_join ?_
  constructor
  · intro h; omega
  · intro h; omega
theorem own_31 (x : Int32) : ∃ n : Nat, (x &&& (31 : Int32)).toNatClampNeg = n ∧ ¬ (x &&& (31 : Int32)) < 0 ∧ n < 32 := by
  have q : ∃ n : Nat, n ≤ 31 ∧ (x &&& (31 : Int32)) = Int32.ofNat n := by
    refine ⟨(x &&& 31).toBitVec.toNat, ?_, ?_⟩
    · simp only [Int32.toBitVec_and, BitVec.toNat_and]
      exact Nat.and_le_right
    · apply Int32.toBitVec_inj.mp
      show _ = BitVec.ofNat 32 _
      rw [BitVec.ofNat_toNat]; simp
  obtain ⟨n, hn, e⟩ := q
  have ei : (Int32.ofNat n).toInt = n := Int32.toInt_ofNat_of_lt (by omega)
  refine ⟨n, ?_, ?_, by omega⟩
  · rw [e, Int32.toNatClampNeg, ei]; rfl
  · rw [e, Int32.lt_iff_toInt_lt, ei, show (0 : Int32).toInt = 0 from rfl]; omega
theorem pd_1 : parseMethodDescriptor "(I)Z" = some ⟨[.int], some .boolean⟩ := by decide +kernel
theorem pd_2 : parseMethodDescriptor "(I)Z" = some ⟨[.int], some .boolean⟩ := by decide +kernel
theorem pn_0 : plainName "com/example/coxt/coxt/tree/XmlNamesIsNameStartCharPinLaw" = true := by first | (simp [plainName, overriddenIn]; done) | decide +kernel
theorem ef_0 (m : MethodId) (p1 : Int32) (p2 : Int32) (p3 : Int32) : entryFrame m #[(.int p1), (.int p2), (.int p3)] maxLocals = mkF m 0 #[.val (.int p1), .val (.int p2), .val (.int p3), .unset, .unset, .unset, .unset] [] := by first | (simp [entryFrame, mkF, argsToLocals, Value.category, maxLocals]; done) | rfl
set_option maxRecDepth 65536 in
set_option maxHeartbeats 40000000 in
theorem rm0 (l : Launch) (Z : State) (a0 : Array Value) (hw : ∀ d ∈ tables_1, d.before a0 Z = true) (ws : List Jvm.Cond) (p1 : Int32) (p2 : Int32) (p3 : Int32) (h0 : Heap) (n0 : Nat) (Z0 : n0 ≤ h0.size) :
    MetFree l x (head1 (Jvm.Cond.code x code maxLocals ret :: ws) room_1) (fun a U => a = #[(.int p1), (.int p2), (.int p3)] ∧ Z.Warmed39 U.vm ∧ U.heap = h0) (fun _ _ _ _ _ => True) (fun _ U o U' => ∃ v L, o = .returned v ∧ (v = some (.int (1 : Int32)) ∧ Fr n0 L) ∧ FrameEnd U o U' L room_1.cells room_1.slots) := by
  refine MetFree.of_bodySF (plainFor_of_name pn_0) hisR ?_
  intro p e s m args below meth c s₁ Bd hml0 hP hK
  obtain ⟨rfl, hZ, hh⟩ := hP
  have hx := Bd.exec
  have hby := Bd.bytes
  have hml : c.maxLocals = 7 := hml0
  have hown : s.vm.findClass "com/example/coxt/coxt/tree/XmlNamesIsNameStartCharPinLaw" = some m.cls := findClass_of_methodNamed Bd.named
  have hnm := (name_of_methodNamed Bd.named Bd.method).1
  have X0 : Stand p l e room_1 s m #[(.int p1), (.int p2), (.int p3)] below meth c s₁ [] 0 0 := Stand.of_body Bd
  have e0 : s₁.heap = h0 := by rw [← hh, Bd.state]; rfl
  have N0 := Fr.nil n0
  have pre0 : ∀ t, Steps p.tables e below (s₁.setTop (mkF m 0 #[.val (.int p1), .val (.int p2), .val (.int p3), .unset, .unset, .unset, .unset] [])) t → Steps p.tables e below (s₁.setTop (entryFrame m #[(.int p1), (.int p2), (.int p3)] maxLocals)) t := fun t kt => castTop (ef_0 m p1 p2 p3) kt
  refine own_go (A := s₁.setTop (mkF m 0 #[.val (.int p1), .val (.int p2), .val (.int p3), .unset, .unset, .unset, .unset] [])) pre0 ?_
  refine own_go (A := s₁.setTop (mkF m 2 #[.val (.int p1), .val (.int p2), .val (.int p3), .unset, .unset, .unset, .unset] [(.int (32 : Int32))])) (fun t kt => XS.bipush X0.here hx rfl (hb hby at_0) kt) ?_
  refine own_new X0 hx hZ (hw _ (List.mem_of_getElem? (i := 0) rfl)) e0 (g := (mkF m 2 #[.val (.int p1), .val (.int p2), .val (.int p3), .unset, .unset, .unset, .unset] [(.int (32 : Int32))])) rfl (hb hby at_2) rfl 32 (by decide) (by decide) (by decide) (by decide) (by decide) (fun T1 h1 b1 X1 e1 E1 g_b1 A_b1 => ?_)
  have sz1 : n0 ≤ h1.size := Nat.le_trans Z0 E1.1
  have ga_b1 : n0 ≤ b1 := Nat.le_trans Z0 g_b1
  clear E1 g_b1
  show ∃ s₂ o, Steps p.tables e below (T1.setTop (mkF m 4 #[.val (.int p1), .val (.int p2), .val (.int p3), .unset, .unset, .unset, .unset] [(.ref b1)])) s₂ ∧ _
  refine own_go (A := T1.setTop (mkF m 5 #[.val (.int p1), .val (.int p2), .val (.int p3), .unset, .unset, .unset, .unset] [(.ref b1), (.ref b1)])) (fun t kt => XS.dup X1.here hx rfl (hb hby at_4) rfl rfl kt) ?_
  refine own_go (A := T1.setTop (mkF m 6 #[.val (.int p1), .val (.int p2), .val (.int p3), .unset, .unset, .unset, .unset] [(.int (0 : Int32)), (.ref b1), (.ref b1)])) (fun t kt => XS.iconst X1.here hx rfl (hb hby at_5) kt) ?_
  refine own_go (A := T1.setTop (mkF m 8 #[.val (.int p1), .val (.int p2), .val (.int p3), .unset, .unset, .unset, .unset] [(.int (65 : Int32)), (.int (0 : Int32)), (.ref b1), (.ref b1)])) (fun t kt => XS.bipush X1.here hx rfl (hb hby at_6) kt) ?_
  refine own_put X1 hx hZ e1 A_b1 (j := (0 : Int32)) (x := (65 : Int32)) 0 (by decide) (by decide) (by decide) N0 ga_b1 (g := (mkF m 8 #[.val (.int p1), .val (.int p2), .val (.int p3), .unset, .unset, .unset, .unset] [(.int (65 : Int32)), (.int (0 : Int32)), (.ref b1), (.ref b1)])) rfl rfl (hb hby at_8) (fun T2 h2 l2 X2 e2 A2 O2 Sz2 N2 => ?_)
  have sz2 : n0 ≤ h2.size := Nat.le_trans sz1 Sz2
  clear O2 Sz2 X1 e1 A_b1 sz1
  show ∃ s₂ o, Steps p.tables e below (T2.setTop (mkF m 9 #[.val (.int p1), .val (.int p2), .val (.int p3), .unset, .unset, .unset, .unset] [(.ref b1)])) s₂ ∧ _
  refine own_go (A := T2.setTop (mkF m 10 #[.val (.int p1), .val (.int p2), .val (.int p3), .unset, .unset, .unset, .unset] [(.ref b1), (.ref b1)])) (fun t kt => XS.dup X2.here hx rfl (hb hby at_9) rfl rfl kt) ?_
  refine own_go (A := T2.setTop (mkF m 11 #[.val (.int p1), .val (.int p2), .val (.int p3), .unset, .unset, .unset, .unset] [(.int (1 : Int32)), (.ref b1), (.ref b1)])) (fun t kt => XS.iconst X2.here hx rfl (hb hby at_10) kt) ?_
  refine own_go (A := T2.setTop (mkF m 13 #[.val (.int p1), .val (.int p2), .val (.int p3), .unset, .unset, .unset, .unset] [(.int (91 : Int32)), (.int (1 : Int32)), (.ref b1), (.ref b1)])) (fun t kt => XS.bipush X2.here hx rfl (hb hby at_11) kt) ?_
  refine own_put X2 hx hZ e2 A2 (j := (1 : Int32)) (x := (91 : Int32)) 1 (by decide) (by decide) (by decide) N2 ga_b1 (g := (mkF m 13 #[.val (.int p1), .val (.int p2), .val (.int p3), .unset, .unset, .unset, .unset] [(.int (91 : Int32)), (.int (1 : Int32)), (.ref b1), (.ref b1)])) rfl rfl (hb hby at_13) (fun T3 h3 l3 X3 e3 A3 O3 Sz3 N3 => ?_)
  have sz3 : n0 ≤ h3.size := Nat.le_trans sz2 Sz3
  clear O3 Sz3 X2 e2 A2 N2 sz2
  show ∃ s₂ o, Steps p.tables e below (T3.setTop (mkF m 14 #[.val (.int p1), .val (.int p2), .val (.int p3), .unset, .unset, .unset, .unset] [(.ref b1)])) s₂ ∧ _
  refine own_go (A := T3.setTop (mkF m 15 #[.val (.int p1), .val (.int p2), .val (.int p3), .unset, .unset, .unset, .unset] [(.ref b1), (.ref b1)])) (fun t kt => XS.dup X3.here hx rfl (hb hby at_14) rfl rfl kt) ?_
  refine own_go (A := T3.setTop (mkF m 16 #[.val (.int p1), .val (.int p2), .val (.int p3), .unset, .unset, .unset, .unset] [(.int (2 : Int32)), (.ref b1), (.ref b1)])) (fun t kt => XS.iconst X3.here hx rfl (hb hby at_15) kt) ?_
  refine own_go (A := T3.setTop (mkF m 18 #[.val (.int p1), .val (.int p2), .val (.int p3), .unset, .unset, .unset, .unset] [(.int (95 : Int32)), (.int (2 : Int32)), (.ref b1), (.ref b1)])) (fun t kt => XS.bipush X3.here hx rfl (hb hby at_16) kt) ?_
  refine own_put X3 hx hZ e3 A3 (j := (2 : Int32)) (x := (95 : Int32)) 2 (by decide) (by decide) (by decide) N3 ga_b1 (g := (mkF m 18 #[.val (.int p1), .val (.int p2), .val (.int p3), .unset, .unset, .unset, .unset] [(.int (95 : Int32)), (.int (2 : Int32)), (.ref b1), (.ref b1)])) rfl rfl (hb hby at_18) (fun T4 h4 l4 X4 e4 A4 O4 Sz4 N4 => ?_)
  have sz4 : n0 ≤ h4.size := Nat.le_trans sz3 Sz4
  clear O4 Sz4 X3 e3 A3 N3 sz3
  show ∃ s₂ o, Steps p.tables e below (T4.setTop (mkF m 19 #[.val (.int p1), .val (.int p2), .val (.int p3), .unset, .unset, .unset, .unset] [(.ref b1)])) s₂ ∧ _
  refine own_go (A := T4.setTop (mkF m 20 #[.val (.int p1), .val (.int p2), .val (.int p3), .unset, .unset, .unset, .unset] [(.ref b1), (.ref b1)])) (fun t kt => XS.dup X4.here hx rfl (hb hby at_19) rfl rfl kt) ?_
  refine own_go (A := T4.setTop (mkF m 21 #[.val (.int p1), .val (.int p2), .val (.int p3), .unset, .unset, .unset, .unset] [(.int (3 : Int32)), (.ref b1), (.ref b1)])) (fun t kt => XS.iconst X4.here hx rfl (hb hby at_20) kt) ?_
  refine own_go (A := T4.setTop (mkF m 23 #[.val (.int p1), .val (.int p2), .val (.int p3), .unset, .unset, .unset, .unset] [(.int (96 : Int32)), (.int (3 : Int32)), (.ref b1), (.ref b1)])) (fun t kt => XS.bipush X4.here hx rfl (hb hby at_21) kt) ?_
  refine own_put X4 hx hZ e4 A4 (j := (3 : Int32)) (x := (96 : Int32)) 3 (by decide) (by decide) (by decide) N4 ga_b1 (g := (mkF m 23 #[.val (.int p1), .val (.int p2), .val (.int p3), .unset, .unset, .unset, .unset] [(.int (96 : Int32)), (.int (3 : Int32)), (.ref b1), (.ref b1)])) rfl rfl (hb hby at_23) (fun T5 h5 l5 X5 e5 A5 O5 Sz5 N5 => ?_)
  have sz5 : n0 ≤ h5.size := Nat.le_trans sz4 Sz5
  clear O5 Sz5 X4 e4 A4 N4 sz4
  show ∃ s₂ o, Steps p.tables e below (T5.setTop (mkF m 24 #[.val (.int p1), .val (.int p2), .val (.int p3), .unset, .unset, .unset, .unset] [(.ref b1)])) s₂ ∧ _
  refine own_go (A := T5.setTop (mkF m 25 #[.val (.int p1), .val (.int p2), .val (.int p3), .unset, .unset, .unset, .unset] [(.ref b1), (.ref b1)])) (fun t kt => XS.dup X5.here hx rfl (hb hby at_24) rfl rfl kt) ?_
  refine own_go (A := T5.setTop (mkF m 26 #[.val (.int p1), .val (.int p2), .val (.int p3), .unset, .unset, .unset, .unset] [(.int (4 : Int32)), (.ref b1), (.ref b1)])) (fun t kt => XS.iconst X5.here hx rfl (hb hby at_25) kt) ?_
  refine own_go (A := T5.setTop (mkF m 28 #[.val (.int p1), .val (.int p2), .val (.int p3), .unset, .unset, .unset, .unset] [(.int (97 : Int32)), (.int (4 : Int32)), (.ref b1), (.ref b1)])) (fun t kt => XS.bipush X5.here hx rfl (hb hby at_26) kt) ?_
  refine own_put X5 hx hZ e5 A5 (j := (4 : Int32)) (x := (97 : Int32)) 4 (by decide) (by decide) (by decide) N5 ga_b1 (g := (mkF m 28 #[.val (.int p1), .val (.int p2), .val (.int p3), .unset, .unset, .unset, .unset] [(.int (97 : Int32)), (.int (4 : Int32)), (.ref b1), (.ref b1)])) rfl rfl (hb hby at_28) (fun T6 h6 l6 X6 e6 A6 O6 Sz6 N6 => ?_)
  have sz6 : n0 ≤ h6.size := Nat.le_trans sz5 Sz6
  clear O6 Sz6 X5 e5 A5 N5 sz5
  show ∃ s₂ o, Steps p.tables e below (T6.setTop (mkF m 29 #[.val (.int p1), .val (.int p2), .val (.int p3), .unset, .unset, .unset, .unset] [(.ref b1)])) s₂ ∧ _
  refine own_go (A := T6.setTop (mkF m 30 #[.val (.int p1), .val (.int p2), .val (.int p3), .unset, .unset, .unset, .unset] [(.ref b1), (.ref b1)])) (fun t kt => XS.dup X6.here hx rfl (hb hby at_29) rfl rfl kt) ?_
  refine own_go (A := T6.setTop (mkF m 31 #[.val (.int p1), .val (.int p2), .val (.int p3), .unset, .unset, .unset, .unset] [(.int (5 : Int32)), (.ref b1), (.ref b1)])) (fun t kt => XS.iconst X6.here hx rfl (hb hby at_30) kt) ?_
  refine own_go (A := T6.setTop (mkF m 33 #[.val (.int p1), .val (.int p2), .val (.int p3), .unset, .unset, .unset, .unset] [(.int (123 : Int32)), (.int (5 : Int32)), (.ref b1), (.ref b1)])) (fun t kt => XS.bipush X6.here hx rfl (hb hby at_31) kt) ?_
  refine own_put X6 hx hZ e6 A6 (j := (5 : Int32)) (x := (123 : Int32)) 5 (by decide) (by decide) (by decide) N6 ga_b1 (g := (mkF m 33 #[.val (.int p1), .val (.int p2), .val (.int p3), .unset, .unset, .unset, .unset] [(.int (123 : Int32)), (.int (5 : Int32)), (.ref b1), (.ref b1)])) rfl rfl (hb hby at_33) (fun T7 h7 l7 X7 e7 A7 O7 Sz7 N7 => ?_)
  have sz7 : n0 ≤ h7.size := Nat.le_trans sz6 Sz7
  clear O7 Sz7 X6 e6 A6 N6 sz6
  show ∃ s₂ o, Steps p.tables e below (T7.setTop (mkF m 34 #[.val (.int p1), .val (.int p2), .val (.int p3), .unset, .unset, .unset, .unset] [(.ref b1)])) s₂ ∧ _
  refine own_go (A := T7.setTop (mkF m 35 #[.val (.int p1), .val (.int p2), .val (.int p3), .unset, .unset, .unset, .unset] [(.ref b1), (.ref b1)])) (fun t kt => XS.dup X7.here hx rfl (hb hby at_34) rfl rfl kt) ?_
  refine own_go (A := T7.setTop (mkF m 37 #[.val (.int p1), .val (.int p2), .val (.int p3), .unset, .unset, .unset, .unset] [(.int (6 : Int32)), (.ref b1), (.ref b1)])) (fun t kt => XS.bipush X7.here hx rfl (hb hby at_35) kt) ?_
  refine own_go (A := T7.setTop (mkF m 40 #[.val (.int p1), .val (.int p2), .val (.int p3), .unset, .unset, .unset, .unset] [(.int (192 : Int32)), (.int (6 : Int32)), (.ref b1), (.ref b1)])) (fun t kt => XS.sipush X7.here hx rfl (hb hby at_37) kt) ?_
  refine own_put X7 hx hZ e7 A7 (j := (6 : Int32)) (x := (192 : Int32)) 6 (by decide) (by decide) (by decide) N7 ga_b1 (g := (mkF m 40 #[.val (.int p1), .val (.int p2), .val (.int p3), .unset, .unset, .unset, .unset] [(.int (192 : Int32)), (.int (6 : Int32)), (.ref b1), (.ref b1)])) rfl rfl (hb hby at_40) (fun T8 h8 l8 X8 e8 A8 O8 Sz8 N8 => ?_)
  have sz8 : n0 ≤ h8.size := Nat.le_trans sz7 Sz8
  clear O8 Sz8 X7 e7 A7 N7 sz7
  show ∃ s₂ o, Steps p.tables e below (T8.setTop (mkF m 41 #[.val (.int p1), .val (.int p2), .val (.int p3), .unset, .unset, .unset, .unset] [(.ref b1)])) s₂ ∧ _
  refine own_go (A := T8.setTop (mkF m 42 #[.val (.int p1), .val (.int p2), .val (.int p3), .unset, .unset, .unset, .unset] [(.ref b1), (.ref b1)])) (fun t kt => XS.dup X8.here hx rfl (hb hby at_41) rfl rfl kt) ?_
  refine own_go (A := T8.setTop (mkF m 44 #[.val (.int p1), .val (.int p2), .val (.int p3), .unset, .unset, .unset, .unset] [(.int (7 : Int32)), (.ref b1), (.ref b1)])) (fun t kt => XS.bipush X8.here hx rfl (hb hby at_42) kt) ?_
  refine own_go (A := T8.setTop (mkF m 47 #[.val (.int p1), .val (.int p2), .val (.int p3), .unset, .unset, .unset, .unset] [(.int (215 : Int32)), (.int (7 : Int32)), (.ref b1), (.ref b1)])) (fun t kt => XS.sipush X8.here hx rfl (hb hby at_44) kt) ?_
  refine own_put X8 hx hZ e8 A8 (j := (7 : Int32)) (x := (215 : Int32)) 7 (by decide) (by decide) (by decide) N8 ga_b1 (g := (mkF m 47 #[.val (.int p1), .val (.int p2), .val (.int p3), .unset, .unset, .unset, .unset] [(.int (215 : Int32)), (.int (7 : Int32)), (.ref b1), (.ref b1)])) rfl rfl (hb hby at_47) (fun T9 h9 l9 X9 e9 A9 O9 Sz9 N9 => ?_)
  have sz9 : n0 ≤ h9.size := Nat.le_trans sz8 Sz9
  clear O9 Sz9 X8 e8 A8 N8 sz8
  show ∃ s₂ o, Steps p.tables e below (T9.setTop (mkF m 48 #[.val (.int p1), .val (.int p2), .val (.int p3), .unset, .unset, .unset, .unset] [(.ref b1)])) s₂ ∧ _
  refine own_go (A := T9.setTop (mkF m 49 #[.val (.int p1), .val (.int p2), .val (.int p3), .unset, .unset, .unset, .unset] [(.ref b1), (.ref b1)])) (fun t kt => XS.dup X9.here hx rfl (hb hby at_48) rfl rfl kt) ?_
  refine own_go (A := T9.setTop (mkF m 51 #[.val (.int p1), .val (.int p2), .val (.int p3), .unset, .unset, .unset, .unset] [(.int (8 : Int32)), (.ref b1), (.ref b1)])) (fun t kt => XS.bipush X9.here hx rfl (hb hby at_49) kt) ?_
  refine own_go (A := T9.setTop (mkF m 54 #[.val (.int p1), .val (.int p2), .val (.int p3), .unset, .unset, .unset, .unset] [(.int (216 : Int32)), (.int (8 : Int32)), (.ref b1), (.ref b1)])) (fun t kt => XS.sipush X9.here hx rfl (hb hby at_51) kt) ?_
  refine own_put X9 hx hZ e9 A9 (j := (8 : Int32)) (x := (216 : Int32)) 8 (by decide) (by decide) (by decide) N9 ga_b1 (g := (mkF m 54 #[.val (.int p1), .val (.int p2), .val (.int p3), .unset, .unset, .unset, .unset] [(.int (216 : Int32)), (.int (8 : Int32)), (.ref b1), (.ref b1)])) rfl rfl (hb hby at_54) (fun T10 h10 l10 X10 e10 A10 O10 Sz10 N10 => ?_)
  have sz10 : n0 ≤ h10.size := Nat.le_trans sz9 Sz10
  clear O10 Sz10 X9 e9 A9 N9 sz9
  show ∃ s₂ o, Steps p.tables e below (T10.setTop (mkF m 55 #[.val (.int p1), .val (.int p2), .val (.int p3), .unset, .unset, .unset, .unset] [(.ref b1)])) s₂ ∧ _
  refine own_go (A := T10.setTop (mkF m 56 #[.val (.int p1), .val (.int p2), .val (.int p3), .unset, .unset, .unset, .unset] [(.ref b1), (.ref b1)])) (fun t kt => XS.dup X10.here hx rfl (hb hby at_55) rfl rfl kt) ?_
  refine own_go (A := T10.setTop (mkF m 58 #[.val (.int p1), .val (.int p2), .val (.int p3), .unset, .unset, .unset, .unset] [(.int (9 : Int32)), (.ref b1), (.ref b1)])) (fun t kt => XS.bipush X10.here hx rfl (hb hby at_56) kt) ?_
  refine own_go (A := T10.setTop (mkF m 61 #[.val (.int p1), .val (.int p2), .val (.int p3), .unset, .unset, .unset, .unset] [(.int (247 : Int32)), (.int (9 : Int32)), (.ref b1), (.ref b1)])) (fun t kt => XS.sipush X10.here hx rfl (hb hby at_58) kt) ?_
  refine own_put X10 hx hZ e10 A10 (j := (9 : Int32)) (x := (247 : Int32)) 9 (by decide) (by decide) (by decide) N10 ga_b1 (g := (mkF m 61 #[.val (.int p1), .val (.int p2), .val (.int p3), .unset, .unset, .unset, .unset] [(.int (247 : Int32)), (.int (9 : Int32)), (.ref b1), (.ref b1)])) rfl rfl (hb hby at_61) (fun T11 h11 l11 X11 e11 A11 O11 Sz11 N11 => ?_)
  have sz11 : n0 ≤ h11.size := Nat.le_trans sz10 Sz11
  clear O11 Sz11 X10 e10 A10 N10 sz10
  show ∃ s₂ o, Steps p.tables e below (T11.setTop (mkF m 62 #[.val (.int p1), .val (.int p2), .val (.int p3), .unset, .unset, .unset, .unset] [(.ref b1)])) s₂ ∧ _
  refine own_go (A := T11.setTop (mkF m 63 #[.val (.int p1), .val (.int p2), .val (.int p3), .unset, .unset, .unset, .unset] [(.ref b1), (.ref b1)])) (fun t kt => XS.dup X11.here hx rfl (hb hby at_62) rfl rfl kt) ?_
  refine own_go (A := T11.setTop (mkF m 65 #[.val (.int p1), .val (.int p2), .val (.int p3), .unset, .unset, .unset, .unset] [(.int (10 : Int32)), (.ref b1), (.ref b1)])) (fun t kt => XS.bipush X11.here hx rfl (hb hby at_63) kt) ?_
  refine own_go (A := T11.setTop (mkF m 68 #[.val (.int p1), .val (.int p2), .val (.int p3), .unset, .unset, .unset, .unset] [(.int (248 : Int32)), (.int (10 : Int32)), (.ref b1), (.ref b1)])) (fun t kt => XS.sipush X11.here hx rfl (hb hby at_65) kt) ?_
  refine own_put X11 hx hZ e11 A11 (j := (10 : Int32)) (x := (248 : Int32)) 10 (by decide) (by decide) (by decide) N11 ga_b1 (g := (mkF m 68 #[.val (.int p1), .val (.int p2), .val (.int p3), .unset, .unset, .unset, .unset] [(.int (248 : Int32)), (.int (10 : Int32)), (.ref b1), (.ref b1)])) rfl rfl (hb hby at_68) (fun T12 h12 l12 X12 e12 A12 O12 Sz12 N12 => ?_)
  have sz12 : n0 ≤ h12.size := Nat.le_trans sz11 Sz12
  clear O12 Sz12 X11 e11 A11 N11 sz11
  show ∃ s₂ o, Steps p.tables e below (T12.setTop (mkF m 69 #[.val (.int p1), .val (.int p2), .val (.int p3), .unset, .unset, .unset, .unset] [(.ref b1)])) s₂ ∧ _
  refine own_go (A := T12.setTop (mkF m 70 #[.val (.int p1), .val (.int p2), .val (.int p3), .unset, .unset, .unset, .unset] [(.ref b1), (.ref b1)])) (fun t kt => XS.dup X12.here hx rfl (hb hby at_69) rfl rfl kt) ?_
  refine own_go (A := T12.setTop (mkF m 72 #[.val (.int p1), .val (.int p2), .val (.int p3), .unset, .unset, .unset, .unset] [(.int (11 : Int32)), (.ref b1), (.ref b1)])) (fun t kt => XS.bipush X12.here hx rfl (hb hby at_70) kt) ?_
  refine own_go (A := T12.setTop (mkF m 75 #[.val (.int p1), .val (.int p2), .val (.int p3), .unset, .unset, .unset, .unset] [(.int (768 : Int32)), (.int (11 : Int32)), (.ref b1), (.ref b1)])) (fun t kt => XS.sipush X12.here hx rfl (hb hby at_72) kt) ?_
  refine own_put X12 hx hZ e12 A12 (j := (11 : Int32)) (x := (768 : Int32)) 11 (by decide) (by decide) (by decide) N12 ga_b1 (g := (mkF m 75 #[.val (.int p1), .val (.int p2), .val (.int p3), .unset, .unset, .unset, .unset] [(.int (768 : Int32)), (.int (11 : Int32)), (.ref b1), (.ref b1)])) rfl rfl (hb hby at_75) (fun T13 h13 l13 X13 e13 A13 O13 Sz13 N13 => ?_)
  have sz13 : n0 ≤ h13.size := Nat.le_trans sz12 Sz13
  clear O13 Sz13 X12 e12 A12 N12 sz12
  show ∃ s₂ o, Steps p.tables e below (T13.setTop (mkF m 76 #[.val (.int p1), .val (.int p2), .val (.int p3), .unset, .unset, .unset, .unset] [(.ref b1)])) s₂ ∧ _
  refine own_go (A := T13.setTop (mkF m 77 #[.val (.int p1), .val (.int p2), .val (.int p3), .unset, .unset, .unset, .unset] [(.ref b1), (.ref b1)])) (fun t kt => XS.dup X13.here hx rfl (hb hby at_76) rfl rfl kt) ?_
  refine own_go (A := T13.setTop (mkF m 79 #[.val (.int p1), .val (.int p2), .val (.int p3), .unset, .unset, .unset, .unset] [(.int (12 : Int32)), (.ref b1), (.ref b1)])) (fun t kt => XS.bipush X13.here hx rfl (hb hby at_77) kt) ?_
  refine own_go (A := T13.setTop (mkF m 82 #[.val (.int p1), .val (.int p2), .val (.int p3), .unset, .unset, .unset, .unset] [(.int (880 : Int32)), (.int (12 : Int32)), (.ref b1), (.ref b1)])) (fun t kt => XS.sipush X13.here hx rfl (hb hby at_79) kt) ?_
  refine own_put X13 hx hZ e13 A13 (j := (12 : Int32)) (x := (880 : Int32)) 12 (by decide) (by decide) (by decide) N13 ga_b1 (g := (mkF m 82 #[.val (.int p1), .val (.int p2), .val (.int p3), .unset, .unset, .unset, .unset] [(.int (880 : Int32)), (.int (12 : Int32)), (.ref b1), (.ref b1)])) rfl rfl (hb hby at_82) (fun T14 h14 l14 X14 e14 A14 O14 Sz14 N14 => ?_)
  have sz14 : n0 ≤ h14.size := Nat.le_trans sz13 Sz14
  clear O14 Sz14 X13 e13 A13 N13 sz13
  show ∃ s₂ o, Steps p.tables e below (T14.setTop (mkF m 83 #[.val (.int p1), .val (.int p2), .val (.int p3), .unset, .unset, .unset, .unset] [(.ref b1)])) s₂ ∧ _
  refine own_go (A := T14.setTop (mkF m 84 #[.val (.int p1), .val (.int p2), .val (.int p3), .unset, .unset, .unset, .unset] [(.ref b1), (.ref b1)])) (fun t kt => XS.dup X14.here hx rfl (hb hby at_83) rfl rfl kt) ?_
  refine own_go (A := T14.setTop (mkF m 86 #[.val (.int p1), .val (.int p2), .val (.int p3), .unset, .unset, .unset, .unset] [(.int (13 : Int32)), (.ref b1), (.ref b1)])) (fun t kt => XS.bipush X14.here hx rfl (hb hby at_84) kt) ?_
  refine own_go (A := T14.setTop (mkF m 89 #[.val (.int p1), .val (.int p2), .val (.int p3), .unset, .unset, .unset, .unset] [(.int (894 : Int32)), (.int (13 : Int32)), (.ref b1), (.ref b1)])) (fun t kt => XS.sipush X14.here hx rfl (hb hby at_86) kt) ?_
  refine own_put X14 hx hZ e14 A14 (j := (13 : Int32)) (x := (894 : Int32)) 13 (by decide) (by decide) (by decide) N14 ga_b1 (g := (mkF m 89 #[.val (.int p1), .val (.int p2), .val (.int p3), .unset, .unset, .unset, .unset] [(.int (894 : Int32)), (.int (13 : Int32)), (.ref b1), (.ref b1)])) rfl rfl (hb hby at_89) (fun T15 h15 l15 X15 e15 A15 O15 Sz15 N15 => ?_)
  have sz15 : n0 ≤ h15.size := Nat.le_trans sz14 Sz15
  clear O15 Sz15 X14 e14 A14 N14 sz14
  show ∃ s₂ o, Steps p.tables e below (T15.setTop (mkF m 90 #[.val (.int p1), .val (.int p2), .val (.int p3), .unset, .unset, .unset, .unset] [(.ref b1)])) s₂ ∧ _
  refine own_go (A := T15.setTop (mkF m 91 #[.val (.int p1), .val (.int p2), .val (.int p3), .unset, .unset, .unset, .unset] [(.ref b1), (.ref b1)])) (fun t kt => XS.dup X15.here hx rfl (hb hby at_90) rfl rfl kt) ?_
  refine own_go (A := T15.setTop (mkF m 93 #[.val (.int p1), .val (.int p2), .val (.int p3), .unset, .unset, .unset, .unset] [(.int (14 : Int32)), (.ref b1), (.ref b1)])) (fun t kt => XS.bipush X15.here hx rfl (hb hby at_91) kt) ?_
  refine own_go (A := T15.setTop (mkF m 96 #[.val (.int p1), .val (.int p2), .val (.int p3), .unset, .unset, .unset, .unset] [(.int (895 : Int32)), (.int (14 : Int32)), (.ref b1), (.ref b1)])) (fun t kt => XS.sipush X15.here hx rfl (hb hby at_93) kt) ?_
  refine own_put X15 hx hZ e15 A15 (j := (14 : Int32)) (x := (895 : Int32)) 14 (by decide) (by decide) (by decide) N15 ga_b1 (g := (mkF m 96 #[.val (.int p1), .val (.int p2), .val (.int p3), .unset, .unset, .unset, .unset] [(.int (895 : Int32)), (.int (14 : Int32)), (.ref b1), (.ref b1)])) rfl rfl (hb hby at_96) (fun T16 h16 l16 X16 e16 A16 O16 Sz16 N16 => ?_)
  have sz16 : n0 ≤ h16.size := Nat.le_trans sz15 Sz16
  clear O16 Sz16 X15 e15 A15 N15 sz15
  show ∃ s₂ o, Steps p.tables e below (T16.setTop (mkF m 97 #[.val (.int p1), .val (.int p2), .val (.int p3), .unset, .unset, .unset, .unset] [(.ref b1)])) s₂ ∧ _
  refine own_go (A := T16.setTop (mkF m 98 #[.val (.int p1), .val (.int p2), .val (.int p3), .unset, .unset, .unset, .unset] [(.ref b1), (.ref b1)])) (fun t kt => XS.dup X16.here hx rfl (hb hby at_97) rfl rfl kt) ?_
  refine own_go (A := T16.setTop (mkF m 100 #[.val (.int p1), .val (.int p2), .val (.int p3), .unset, .unset, .unset, .unset] [(.int (15 : Int32)), (.ref b1), (.ref b1)])) (fun t kt => XS.bipush X16.here hx rfl (hb hby at_98) kt) ?_
  refine own_go (A := T16.setTop (mkF m 103 #[.val (.int p1), .val (.int p2), .val (.int p3), .unset, .unset, .unset, .unset] [(.int (8192 : Int32)), (.int (15 : Int32)), (.ref b1), (.ref b1)])) (fun t kt => XS.sipush X16.here hx rfl (hb hby at_100) kt) ?_
  refine own_put X16 hx hZ e16 A16 (j := (15 : Int32)) (x := (8192 : Int32)) 15 (by decide) (by decide) (by decide) N16 ga_b1 (g := (mkF m 103 #[.val (.int p1), .val (.int p2), .val (.int p3), .unset, .unset, .unset, .unset] [(.int (8192 : Int32)), (.int (15 : Int32)), (.ref b1), (.ref b1)])) rfl rfl (hb hby at_103) (fun T17 h17 l17 X17 e17 A17 O17 Sz17 N17 => ?_)
  have sz17 : n0 ≤ h17.size := Nat.le_trans sz16 Sz17
  clear O17 Sz17 X16 e16 A16 N16 sz16
  show ∃ s₂ o, Steps p.tables e below (T17.setTop (mkF m 104 #[.val (.int p1), .val (.int p2), .val (.int p3), .unset, .unset, .unset, .unset] [(.ref b1)])) s₂ ∧ _
  refine own_go (A := T17.setTop (mkF m 105 #[.val (.int p1), .val (.int p2), .val (.int p3), .unset, .unset, .unset, .unset] [(.ref b1), (.ref b1)])) (fun t kt => XS.dup X17.here hx rfl (hb hby at_104) rfl rfl kt) ?_
  refine own_go (A := T17.setTop (mkF m 107 #[.val (.int p1), .val (.int p2), .val (.int p3), .unset, .unset, .unset, .unset] [(.int (16 : Int32)), (.ref b1), (.ref b1)])) (fun t kt => XS.bipush X17.here hx rfl (hb hby at_105) kt) ?_
  refine own_go (A := T17.setTop (mkF m 110 #[.val (.int p1), .val (.int p2), .val (.int p3), .unset, .unset, .unset, .unset] [(.int (8204 : Int32)), (.int (16 : Int32)), (.ref b1), (.ref b1)])) (fun t kt => XS.sipush X17.here hx rfl (hb hby at_107) kt) ?_
  refine own_put X17 hx hZ e17 A17 (j := (16 : Int32)) (x := (8204 : Int32)) 16 (by decide) (by decide) (by decide) N17 ga_b1 (g := (mkF m 110 #[.val (.int p1), .val (.int p2), .val (.int p3), .unset, .unset, .unset, .unset] [(.int (8204 : Int32)), (.int (16 : Int32)), (.ref b1), (.ref b1)])) rfl rfl (hb hby at_110) (fun T18 h18 l18 X18 e18 A18 O18 Sz18 N18 => ?_)
  have sz18 : n0 ≤ h18.size := Nat.le_trans sz17 Sz18
  clear O18 Sz18 X17 e17 A17 N17 sz17
  show ∃ s₂ o, Steps p.tables e below (T18.setTop (mkF m 111 #[.val (.int p1), .val (.int p2), .val (.int p3), .unset, .unset, .unset, .unset] [(.ref b1)])) s₂ ∧ _
  refine own_go (A := T18.setTop (mkF m 112 #[.val (.int p1), .val (.int p2), .val (.int p3), .unset, .unset, .unset, .unset] [(.ref b1), (.ref b1)])) (fun t kt => XS.dup X18.here hx rfl (hb hby at_111) rfl rfl kt) ?_
  refine own_go (A := T18.setTop (mkF m 114 #[.val (.int p1), .val (.int p2), .val (.int p3), .unset, .unset, .unset, .unset] [(.int (17 : Int32)), (.ref b1), (.ref b1)])) (fun t kt => XS.bipush X18.here hx rfl (hb hby at_112) kt) ?_
  refine own_go (A := T18.setTop (mkF m 117 #[.val (.int p1), .val (.int p2), .val (.int p3), .unset, .unset, .unset, .unset] [(.int (8206 : Int32)), (.int (17 : Int32)), (.ref b1), (.ref b1)])) (fun t kt => XS.sipush X18.here hx rfl (hb hby at_114) kt) ?_
  refine own_put X18 hx hZ e18 A18 (j := (17 : Int32)) (x := (8206 : Int32)) 17 (by decide) (by decide) (by decide) N18 ga_b1 (g := (mkF m 117 #[.val (.int p1), .val (.int p2), .val (.int p3), .unset, .unset, .unset, .unset] [(.int (8206 : Int32)), (.int (17 : Int32)), (.ref b1), (.ref b1)])) rfl rfl (hb hby at_117) (fun T19 h19 l19 X19 e19 A19 O19 Sz19 N19 => ?_)
  have sz19 : n0 ≤ h19.size := Nat.le_trans sz18 Sz19
  clear O19 Sz19 X18 e18 A18 N18 sz18
  show ∃ s₂ o, Steps p.tables e below (T19.setTop (mkF m 118 #[.val (.int p1), .val (.int p2), .val (.int p3), .unset, .unset, .unset, .unset] [(.ref b1)])) s₂ ∧ _
  refine own_go (A := T19.setTop (mkF m 119 #[.val (.int p1), .val (.int p2), .val (.int p3), .unset, .unset, .unset, .unset] [(.ref b1), (.ref b1)])) (fun t kt => XS.dup X19.here hx rfl (hb hby at_118) rfl rfl kt) ?_
  refine own_go (A := T19.setTop (mkF m 121 #[.val (.int p1), .val (.int p2), .val (.int p3), .unset, .unset, .unset, .unset] [(.int (18 : Int32)), (.ref b1), (.ref b1)])) (fun t kt => XS.bipush X19.here hx rfl (hb hby at_119) kt) ?_
  refine own_go (A := T19.setTop (mkF m 124 #[.val (.int p1), .val (.int p2), .val (.int p3), .unset, .unset, .unset, .unset] [(.int (8304 : Int32)), (.int (18 : Int32)), (.ref b1), (.ref b1)])) (fun t kt => XS.sipush X19.here hx rfl (hb hby at_121) kt) ?_
  refine own_put X19 hx hZ e19 A19 (j := (18 : Int32)) (x := (8304 : Int32)) 18 (by decide) (by decide) (by decide) N19 ga_b1 (g := (mkF m 124 #[.val (.int p1), .val (.int p2), .val (.int p3), .unset, .unset, .unset, .unset] [(.int (8304 : Int32)), (.int (18 : Int32)), (.ref b1), (.ref b1)])) rfl rfl (hb hby at_124) (fun T20 h20 l20 X20 e20 A20 O20 Sz20 N20 => ?_)
  have sz20 : n0 ≤ h20.size := Nat.le_trans sz19 Sz20
  clear O20 Sz20 X19 e19 A19 N19 sz19
  show ∃ s₂ o, Steps p.tables e below (T20.setTop (mkF m 125 #[.val (.int p1), .val (.int p2), .val (.int p3), .unset, .unset, .unset, .unset] [(.ref b1)])) s₂ ∧ _
  refine own_go (A := T20.setTop (mkF m 126 #[.val (.int p1), .val (.int p2), .val (.int p3), .unset, .unset, .unset, .unset] [(.ref b1), (.ref b1)])) (fun t kt => XS.dup X20.here hx rfl (hb hby at_125) rfl rfl kt) ?_
  refine own_go (A := T20.setTop (mkF m 128 #[.val (.int p1), .val (.int p2), .val (.int p3), .unset, .unset, .unset, .unset] [(.int (19 : Int32)), (.ref b1), (.ref b1)])) (fun t kt => XS.bipush X20.here hx rfl (hb hby at_126) kt) ?_
  refine own_go (A := T20.setTop (mkF m 131 #[.val (.int p1), .val (.int p2), .val (.int p3), .unset, .unset, .unset, .unset] [(.int (8592 : Int32)), (.int (19 : Int32)), (.ref b1), (.ref b1)])) (fun t kt => XS.sipush X20.here hx rfl (hb hby at_128) kt) ?_
  refine own_put X20 hx hZ e20 A20 (j := (19 : Int32)) (x := (8592 : Int32)) 19 (by decide) (by decide) (by decide) N20 ga_b1 (g := (mkF m 131 #[.val (.int p1), .val (.int p2), .val (.int p3), .unset, .unset, .unset, .unset] [(.int (8592 : Int32)), (.int (19 : Int32)), (.ref b1), (.ref b1)])) rfl rfl (hb hby at_131) (fun T21 h21 l21 X21 e21 A21 O21 Sz21 N21 => ?_)
  have sz21 : n0 ≤ h21.size := Nat.le_trans sz20 Sz21
  clear O21 Sz21 X20 e20 A20 N20 sz20
  show ∃ s₂ o, Steps p.tables e below (T21.setTop (mkF m 132 #[.val (.int p1), .val (.int p2), .val (.int p3), .unset, .unset, .unset, .unset] [(.ref b1)])) s₂ ∧ _
  refine own_go (A := T21.setTop (mkF m 133 #[.val (.int p1), .val (.int p2), .val (.int p3), .unset, .unset, .unset, .unset] [(.ref b1), (.ref b1)])) (fun t kt => XS.dup X21.here hx rfl (hb hby at_132) rfl rfl kt) ?_
  refine own_go (A := T21.setTop (mkF m 135 #[.val (.int p1), .val (.int p2), .val (.int p3), .unset, .unset, .unset, .unset] [(.int (20 : Int32)), (.ref b1), (.ref b1)])) (fun t kt => XS.bipush X21.here hx rfl (hb hby at_133) kt) ?_
  refine own_go (A := T21.setTop (mkF m 138 #[.val (.int p1), .val (.int p2), .val (.int p3), .unset, .unset, .unset, .unset] [(.int (11264 : Int32)), (.int (20 : Int32)), (.ref b1), (.ref b1)])) (fun t kt => XS.sipush X21.here hx rfl (hb hby at_135) kt) ?_
  refine own_put X21 hx hZ e21 A21 (j := (20 : Int32)) (x := (11264 : Int32)) 20 (by decide) (by decide) (by decide) N21 ga_b1 (g := (mkF m 138 #[.val (.int p1), .val (.int p2), .val (.int p3), .unset, .unset, .unset, .unset] [(.int (11264 : Int32)), (.int (20 : Int32)), (.ref b1), (.ref b1)])) rfl rfl (hb hby at_138) (fun T22 h22 l22 X22 e22 A22 O22 Sz22 N22 => ?_)
  have sz22 : n0 ≤ h22.size := Nat.le_trans sz21 Sz22
  clear O22 Sz22 X21 e21 A21 N21 sz21
  show ∃ s₂ o, Steps p.tables e below (T22.setTop (mkF m 139 #[.val (.int p1), .val (.int p2), .val (.int p3), .unset, .unset, .unset, .unset] [(.ref b1)])) s₂ ∧ _
  refine own_go (A := T22.setTop (mkF m 140 #[.val (.int p1), .val (.int p2), .val (.int p3), .unset, .unset, .unset, .unset] [(.ref b1), (.ref b1)])) (fun t kt => XS.dup X22.here hx rfl (hb hby at_139) rfl rfl kt) ?_
  refine own_go (A := T22.setTop (mkF m 142 #[.val (.int p1), .val (.int p2), .val (.int p3), .unset, .unset, .unset, .unset] [(.int (21 : Int32)), (.ref b1), (.ref b1)])) (fun t kt => XS.bipush X22.here hx rfl (hb hby at_140) kt) ?_
  refine own_go (A := T22.setTop (mkF m 145 #[.val (.int p1), .val (.int p2), .val (.int p3), .unset, .unset, .unset, .unset] [(.int (12272 : Int32)), (.int (21 : Int32)), (.ref b1), (.ref b1)])) (fun t kt => XS.sipush X22.here hx rfl (hb hby at_142) kt) ?_
  refine own_put X22 hx hZ e22 A22 (j := (21 : Int32)) (x := (12272 : Int32)) 21 (by decide) (by decide) (by decide) N22 ga_b1 (g := (mkF m 145 #[.val (.int p1), .val (.int p2), .val (.int p3), .unset, .unset, .unset, .unset] [(.int (12272 : Int32)), (.int (21 : Int32)), (.ref b1), (.ref b1)])) rfl rfl (hb hby at_145) (fun T23 h23 l23 X23 e23 A23 O23 Sz23 N23 => ?_)
  have sz23 : n0 ≤ h23.size := Nat.le_trans sz22 Sz23
  clear O23 Sz23 X22 e22 A22 N22 sz22
  show ∃ s₂ o, Steps p.tables e below (T23.setTop (mkF m 146 #[.val (.int p1), .val (.int p2), .val (.int p3), .unset, .unset, .unset, .unset] [(.ref b1)])) s₂ ∧ _
  refine own_go (A := T23.setTop (mkF m 147 #[.val (.int p1), .val (.int p2), .val (.int p3), .unset, .unset, .unset, .unset] [(.ref b1), (.ref b1)])) (fun t kt => XS.dup X23.here hx rfl (hb hby at_146) rfl rfl kt) ?_
  refine own_go (A := T23.setTop (mkF m 149 #[.val (.int p1), .val (.int p2), .val (.int p3), .unset, .unset, .unset, .unset] [(.int (22 : Int32)), (.ref b1), (.ref b1)])) (fun t kt => XS.bipush X23.here hx rfl (hb hby at_147) kt) ?_
  refine own_go (A := T23.setTop (mkF m 152 #[.val (.int p1), .val (.int p2), .val (.int p3), .unset, .unset, .unset, .unset] [(.int (12289 : Int32)), (.int (22 : Int32)), (.ref b1), (.ref b1)])) (fun t kt => XS.sipush X23.here hx rfl (hb hby at_149) kt) ?_
  refine own_put X23 hx hZ e23 A23 (j := (22 : Int32)) (x := (12289 : Int32)) 22 (by decide) (by decide) (by decide) N23 ga_b1 (g := (mkF m 152 #[.val (.int p1), .val (.int p2), .val (.int p3), .unset, .unset, .unset, .unset] [(.int (12289 : Int32)), (.int (22 : Int32)), (.ref b1), (.ref b1)])) rfl rfl (hb hby at_152) (fun T24 h24 l24 X24 e24 A24 O24 Sz24 N24 => ?_)
  have sz24 : n0 ≤ h24.size := Nat.le_trans sz23 Sz24
  clear O24 Sz24 X23 e23 A23 N23 sz23
  show ∃ s₂ o, Steps p.tables e below (T24.setTop (mkF m 153 #[.val (.int p1), .val (.int p2), .val (.int p3), .unset, .unset, .unset, .unset] [(.ref b1)])) s₂ ∧ _
  refine own_go (A := T24.setTop (mkF m 154 #[.val (.int p1), .val (.int p2), .val (.int p3), .unset, .unset, .unset, .unset] [(.ref b1), (.ref b1)])) (fun t kt => XS.dup X24.here hx rfl (hb hby at_153) rfl rfl kt) ?_
  refine own_go (A := T24.setTop (mkF m 156 #[.val (.int p1), .val (.int p2), .val (.int p3), .unset, .unset, .unset, .unset] [(.int (23 : Int32)), (.ref b1), (.ref b1)])) (fun t kt => XS.bipush X24.here hx rfl (hb hby at_154) kt) ?_
  refine own_go (A := T24.setTop (mkF m 158 #[.val (.int p1), .val (.int p2), .val (.int p3), .unset, .unset, .unset, .unset] [(.int (55296 : Int32)), (.int (23 : Int32)), (.ref b1), (.ref b1)])) (fun t kt => X24.ldcInt hx hown (mvT hZ (hw _ (List.mem_of_getElem? (i := 1) rfl))) (g := (mkF m 156 #[.val (.int p1), .val (.int p2), .val (.int p3), .unset, .unset, .unset, .unset] [(.int (23 : Int32)), (.ref b1), (.ref b1)])) rfl (hb hby at_156) _ kt) ?_
  refine own_put X24 hx hZ e24 A24 (j := (23 : Int32)) (x := (55296 : Int32)) 23 (by decide) (by decide) (by decide) N24 ga_b1 (g := (mkF m 158 #[.val (.int p1), .val (.int p2), .val (.int p3), .unset, .unset, .unset, .unset] [(.int (55296 : Int32)), (.int (23 : Int32)), (.ref b1), (.ref b1)])) rfl rfl (hb hby at_158) (fun T25 h25 l25 X25 e25 A25 O25 Sz25 N25 => ?_)
  have sz25 : n0 ≤ h25.size := Nat.le_trans sz24 Sz25
  clear O25 Sz25 X24 e24 A24 N24 sz24
  show ∃ s₂ o, Steps p.tables e below (T25.setTop (mkF m 159 #[.val (.int p1), .val (.int p2), .val (.int p3), .unset, .unset, .unset, .unset] [(.ref b1)])) s₂ ∧ _
  refine own_go (A := T25.setTop (mkF m 160 #[.val (.int p1), .val (.int p2), .val (.int p3), .unset, .unset, .unset, .unset] [(.ref b1), (.ref b1)])) (fun t kt => XS.dup X25.here hx rfl (hb hby at_159) rfl rfl kt) ?_
  refine own_go (A := T25.setTop (mkF m 162 #[.val (.int p1), .val (.int p2), .val (.int p3), .unset, .unset, .unset, .unset] [(.int (24 : Int32)), (.ref b1), (.ref b1)])) (fun t kt => XS.bipush X25.here hx rfl (hb hby at_160) kt) ?_
  refine own_go (A := T25.setTop (mkF m 164 #[.val (.int p1), .val (.int p2), .val (.int p3), .unset, .unset, .unset, .unset] [(.int (63744 : Int32)), (.int (24 : Int32)), (.ref b1), (.ref b1)])) (fun t kt => X25.ldcInt hx hown (mvT hZ (hw _ (List.mem_of_getElem? (i := 2) rfl))) (g := (mkF m 162 #[.val (.int p1), .val (.int p2), .val (.int p3), .unset, .unset, .unset, .unset] [(.int (24 : Int32)), (.ref b1), (.ref b1)])) rfl (hb hby at_162) _ kt) ?_
  refine own_put X25 hx hZ e25 A25 (j := (24 : Int32)) (x := (63744 : Int32)) 24 (by decide) (by decide) (by decide) N25 ga_b1 (g := (mkF m 164 #[.val (.int p1), .val (.int p2), .val (.int p3), .unset, .unset, .unset, .unset] [(.int (63744 : Int32)), (.int (24 : Int32)), (.ref b1), (.ref b1)])) rfl rfl (hb hby at_164) (fun T26 h26 l26 X26 e26 A26 O26 Sz26 N26 => ?_)
  have sz26 : n0 ≤ h26.size := Nat.le_trans sz25 Sz26
  clear O26 Sz26 X25 e25 A25 N25 sz25
  show ∃ s₂ o, Steps p.tables e below (T26.setTop (mkF m 165 #[.val (.int p1), .val (.int p2), .val (.int p3), .unset, .unset, .unset, .unset] [(.ref b1)])) s₂ ∧ _
  refine own_go (A := T26.setTop (mkF m 166 #[.val (.int p1), .val (.int p2), .val (.int p3), .unset, .unset, .unset, .unset] [(.ref b1), (.ref b1)])) (fun t kt => XS.dup X26.here hx rfl (hb hby at_165) rfl rfl kt) ?_
  refine own_go (A := T26.setTop (mkF m 168 #[.val (.int p1), .val (.int p2), .val (.int p3), .unset, .unset, .unset, .unset] [(.int (25 : Int32)), (.ref b1), (.ref b1)])) (fun t kt => XS.bipush X26.here hx rfl (hb hby at_166) kt) ?_
  refine own_go (A := T26.setTop (mkF m 170 #[.val (.int p1), .val (.int p2), .val (.int p3), .unset, .unset, .unset, .unset] [(.int (64976 : Int32)), (.int (25 : Int32)), (.ref b1), (.ref b1)])) (fun t kt => X26.ldcInt hx hown (mvT hZ (hw _ (List.mem_of_getElem? (i := 3) rfl))) (g := (mkF m 168 #[.val (.int p1), .val (.int p2), .val (.int p3), .unset, .unset, .unset, .unset] [(.int (25 : Int32)), (.ref b1), (.ref b1)])) rfl (hb hby at_168) _ kt) ?_
  refine own_put X26 hx hZ e26 A26 (j := (25 : Int32)) (x := (64976 : Int32)) 25 (by decide) (by decide) (by decide) N26 ga_b1 (g := (mkF m 170 #[.val (.int p1), .val (.int p2), .val (.int p3), .unset, .unset, .unset, .unset] [(.int (64976 : Int32)), (.int (25 : Int32)), (.ref b1), (.ref b1)])) rfl rfl (hb hby at_170) (fun T27 h27 l27 X27 e27 A27 O27 Sz27 N27 => ?_)
  have sz27 : n0 ≤ h27.size := Nat.le_trans sz26 Sz27
  clear O27 Sz27 X26 e26 A26 N26 sz26
  show ∃ s₂ o, Steps p.tables e below (T27.setTop (mkF m 171 #[.val (.int p1), .val (.int p2), .val (.int p3), .unset, .unset, .unset, .unset] [(.ref b1)])) s₂ ∧ _
  refine own_go (A := T27.setTop (mkF m 172 #[.val (.int p1), .val (.int p2), .val (.int p3), .unset, .unset, .unset, .unset] [(.ref b1), (.ref b1)])) (fun t kt => XS.dup X27.here hx rfl (hb hby at_171) rfl rfl kt) ?_
  refine own_go (A := T27.setTop (mkF m 174 #[.val (.int p1), .val (.int p2), .val (.int p3), .unset, .unset, .unset, .unset] [(.int (26 : Int32)), (.ref b1), (.ref b1)])) (fun t kt => XS.bipush X27.here hx rfl (hb hby at_172) kt) ?_
  refine own_go (A := T27.setTop (mkF m 176 #[.val (.int p1), .val (.int p2), .val (.int p3), .unset, .unset, .unset, .unset] [(.int (65008 : Int32)), (.int (26 : Int32)), (.ref b1), (.ref b1)])) (fun t kt => X27.ldcInt hx hown (mvT hZ (hw _ (List.mem_of_getElem? (i := 4) rfl))) (g := (mkF m 174 #[.val (.int p1), .val (.int p2), .val (.int p3), .unset, .unset, .unset, .unset] [(.int (26 : Int32)), (.ref b1), (.ref b1)])) rfl (hb hby at_174) _ kt) ?_
  refine own_put X27 hx hZ e27 A27 (j := (26 : Int32)) (x := (65008 : Int32)) 26 (by decide) (by decide) (by decide) N27 ga_b1 (g := (mkF m 176 #[.val (.int p1), .val (.int p2), .val (.int p3), .unset, .unset, .unset, .unset] [(.int (65008 : Int32)), (.int (26 : Int32)), (.ref b1), (.ref b1)])) rfl rfl (hb hby at_176) (fun T28 h28 l28 X28 e28 A28 O28 Sz28 N28 => ?_)
  have sz28 : n0 ≤ h28.size := Nat.le_trans sz27 Sz28
  clear O28 Sz28 X27 e27 A27 N27 sz27
  show ∃ s₂ o, Steps p.tables e below (T28.setTop (mkF m 177 #[.val (.int p1), .val (.int p2), .val (.int p3), .unset, .unset, .unset, .unset] [(.ref b1)])) s₂ ∧ _
  refine own_go (A := T28.setTop (mkF m 178 #[.val (.int p1), .val (.int p2), .val (.int p3), .unset, .unset, .unset, .unset] [(.ref b1), (.ref b1)])) (fun t kt => XS.dup X28.here hx rfl (hb hby at_177) rfl rfl kt) ?_
  refine own_go (A := T28.setTop (mkF m 180 #[.val (.int p1), .val (.int p2), .val (.int p3), .unset, .unset, .unset, .unset] [(.int (27 : Int32)), (.ref b1), (.ref b1)])) (fun t kt => XS.bipush X28.here hx rfl (hb hby at_178) kt) ?_
  refine own_go (A := T28.setTop (mkF m 182 #[.val (.int p1), .val (.int p2), .val (.int p3), .unset, .unset, .unset, .unset] [(.int (65534 : Int32)), (.int (27 : Int32)), (.ref b1), (.ref b1)])) (fun t kt => X28.ldcInt hx hown (mvT hZ (hw _ (List.mem_of_getElem? (i := 5) rfl))) (g := (mkF m 180 #[.val (.int p1), .val (.int p2), .val (.int p3), .unset, .unset, .unset, .unset] [(.int (27 : Int32)), (.ref b1), (.ref b1)])) rfl (hb hby at_180) _ kt) ?_
  refine own_put X28 hx hZ e28 A28 (j := (27 : Int32)) (x := (65534 : Int32)) 27 (by decide) (by decide) (by decide) N28 ga_b1 (g := (mkF m 182 #[.val (.int p1), .val (.int p2), .val (.int p3), .unset, .unset, .unset, .unset] [(.int (65534 : Int32)), (.int (27 : Int32)), (.ref b1), (.ref b1)])) rfl rfl (hb hby at_182) (fun T29 h29 l29 X29 e29 A29 O29 Sz29 N29 => ?_)
  have sz29 : n0 ≤ h29.size := Nat.le_trans sz28 Sz29
  clear O29 Sz29 X28 e28 A28 N28 sz28
  show ∃ s₂ o, Steps p.tables e below (T29.setTop (mkF m 183 #[.val (.int p1), .val (.int p2), .val (.int p3), .unset, .unset, .unset, .unset] [(.ref b1)])) s₂ ∧ _
  refine own_go (A := T29.setTop (mkF m 184 #[.val (.int p1), .val (.int p2), .val (.int p3), .unset, .unset, .unset, .unset] [(.ref b1), (.ref b1)])) (fun t kt => XS.dup X29.here hx rfl (hb hby at_183) rfl rfl kt) ?_
  refine own_go (A := T29.setTop (mkF m 186 #[.val (.int p1), .val (.int p2), .val (.int p3), .unset, .unset, .unset, .unset] [(.int (28 : Int32)), (.ref b1), (.ref b1)])) (fun t kt => XS.bipush X29.here hx rfl (hb hby at_184) kt) ?_
  refine own_go (A := T29.setTop (mkF m 188 #[.val (.int p1), .val (.int p2), .val (.int p3), .unset, .unset, .unset, .unset] [(.int (65536 : Int32)), (.int (28 : Int32)), (.ref b1), (.ref b1)])) (fun t kt => X29.ldcInt hx hown (mvT hZ (hw _ (List.mem_of_getElem? (i := 6) rfl))) (g := (mkF m 186 #[.val (.int p1), .val (.int p2), .val (.int p3), .unset, .unset, .unset, .unset] [(.int (28 : Int32)), (.ref b1), (.ref b1)])) rfl (hb hby at_186) _ kt) ?_
  refine own_put X29 hx hZ e29 A29 (j := (28 : Int32)) (x := (65536 : Int32)) 28 (by decide) (by decide) (by decide) N29 ga_b1 (g := (mkF m 188 #[.val (.int p1), .val (.int p2), .val (.int p3), .unset, .unset, .unset, .unset] [(.int (65536 : Int32)), (.int (28 : Int32)), (.ref b1), (.ref b1)])) rfl rfl (hb hby at_188) (fun T30 h30 l30 X30 e30 A30 O30 Sz30 N30 => ?_)
  have sz30 : n0 ≤ h30.size := Nat.le_trans sz29 Sz30
  clear O30 Sz30 X29 e29 A29 N29 sz29
  show ∃ s₂ o, Steps p.tables e below (T30.setTop (mkF m 189 #[.val (.int p1), .val (.int p2), .val (.int p3), .unset, .unset, .unset, .unset] [(.ref b1)])) s₂ ∧ _
  refine own_go (A := T30.setTop (mkF m 190 #[.val (.int p1), .val (.int p2), .val (.int p3), .unset, .unset, .unset, .unset] [(.ref b1), (.ref b1)])) (fun t kt => XS.dup X30.here hx rfl (hb hby at_189) rfl rfl kt) ?_
  refine own_go (A := T30.setTop (mkF m 192 #[.val (.int p1), .val (.int p2), .val (.int p3), .unset, .unset, .unset, .unset] [(.int (29 : Int32)), (.ref b1), (.ref b1)])) (fun t kt => XS.bipush X30.here hx rfl (hb hby at_190) kt) ?_
  refine own_go (A := T30.setTop (mkF m 194 #[.val (.int p1), .val (.int p2), .val (.int p3), .unset, .unset, .unset, .unset] [(.int (983040 : Int32)), (.int (29 : Int32)), (.ref b1), (.ref b1)])) (fun t kt => X30.ldcInt hx hown (mvT hZ (hw _ (List.mem_of_getElem? (i := 7) rfl))) (g := (mkF m 192 #[.val (.int p1), .val (.int p2), .val (.int p3), .unset, .unset, .unset, .unset] [(.int (29 : Int32)), (.ref b1), (.ref b1)])) rfl (hb hby at_192) _ kt) ?_
  refine own_put X30 hx hZ e30 A30 (j := (29 : Int32)) (x := (983040 : Int32)) 29 (by decide) (by decide) (by decide) N30 ga_b1 (g := (mkF m 194 #[.val (.int p1), .val (.int p2), .val (.int p3), .unset, .unset, .unset, .unset] [(.int (983040 : Int32)), (.int (29 : Int32)), (.ref b1), (.ref b1)])) rfl rfl (hb hby at_194) (fun T31 h31 l31 X31 e31 A31 O31 Sz31 N31 => ?_)
  have sz31 : n0 ≤ h31.size := Nat.le_trans sz30 Sz31
  clear O31 Sz31 X30 e30 A30 N30 sz30
  show ∃ s₂ o, Steps p.tables e below (T31.setTop (mkF m 195 #[.val (.int p1), .val (.int p2), .val (.int p3), .unset, .unset, .unset, .unset] [(.ref b1)])) s₂ ∧ _
  refine own_go (A := T31.setTop (mkF m 196 #[.val (.int p1), .val (.int p2), .val (.int p3), .unset, .unset, .unset, .unset] [(.ref b1), (.ref b1)])) (fun t kt => XS.dup X31.here hx rfl (hb hby at_195) rfl rfl kt) ?_
  refine own_go (A := T31.setTop (mkF m 198 #[.val (.int p1), .val (.int p2), .val (.int p3), .unset, .unset, .unset, .unset] [(.int (30 : Int32)), (.ref b1), (.ref b1)])) (fun t kt => XS.bipush X31.here hx rfl (hb hby at_196) kt) ?_
  refine own_go (A := T31.setTop (mkF m 199 #[.val (.int p1), .val (.int p2), .val (.int p3), .unset, .unset, .unset, .unset] [(.int (0 : Int32)), (.int (30 : Int32)), (.ref b1), (.ref b1)])) (fun t kt => XS.iconst X31.here hx rfl (hb hby at_198) kt) ?_
  refine own_put X31 hx hZ e31 A31 (j := (30 : Int32)) (x := (0 : Int32)) 30 (by decide) (by decide) (by decide) N31 ga_b1 (g := (mkF m 199 #[.val (.int p1), .val (.int p2), .val (.int p3), .unset, .unset, .unset, .unset] [(.int (0 : Int32)), (.int (30 : Int32)), (.ref b1), (.ref b1)])) rfl rfl (hb hby at_199) (fun T32 h32 l32 X32 e32 A32 O32 Sz32 N32 => ?_)
  have sz32 : n0 ≤ h32.size := Nat.le_trans sz31 Sz32
  clear O32 Sz32 X31 e31 A31 N31 sz31
  show ∃ s₂ o, Steps p.tables e below (T32.setTop (mkF m 200 #[.val (.int p1), .val (.int p2), .val (.int p3), .unset, .unset, .unset, .unset] [(.ref b1)])) s₂ ∧ _
  refine own_go (A := T32.setTop (mkF m 201 #[.val (.int p1), .val (.int p2), .val (.int p3), .unset, .unset, .unset, .unset] [(.ref b1), (.ref b1)])) (fun t kt => XS.dup X32.here hx rfl (hb hby at_200) rfl rfl kt) ?_
  refine own_go (A := T32.setTop (mkF m 203 #[.val (.int p1), .val (.int p2), .val (.int p3), .unset, .unset, .unset, .unset] [(.int (31 : Int32)), (.ref b1), (.ref b1)])) (fun t kt => XS.bipush X32.here hx rfl (hb hby at_201) kt) ?_
  refine own_go (A := T32.setTop (mkF m 205 #[.val (.int p1), .val (.int p2), .val (.int p3), .unset, .unset, .unset, .unset] [(.int (-2147483648 : Int32)), (.int (31 : Int32)), (.ref b1), (.ref b1)])) (fun t kt => X32.ldcInt hx hown (mvT hZ (hw _ (List.mem_of_getElem? (i := 8) rfl))) (g := (mkF m 203 #[.val (.int p1), .val (.int p2), .val (.int p3), .unset, .unset, .unset, .unset] [(.int (31 : Int32)), (.ref b1), (.ref b1)])) rfl (hb hby at_203) _ kt) ?_
  refine own_put X32 hx hZ e32 A32 (j := (31 : Int32)) (x := (-2147483648 : Int32)) 31 (by decide) (by decide) (by decide) N32 ga_b1 (g := (mkF m 205 #[.val (.int p1), .val (.int p2), .val (.int p3), .unset, .unset, .unset, .unset] [(.int (-2147483648 : Int32)), (.int (31 : Int32)), (.ref b1), (.ref b1)])) rfl rfl (hb hby at_205) (fun T33 h33 l33 X33 e33 A33 O33 Sz33 N33 => ?_)
  have sz33 : n0 ≤ h33.size := Nat.le_trans sz32 Sz33
  clear O33 Sz33 X32 e32 A32 N32 sz32
  show ∃ s₂ o, Steps p.tables e below (T33.setTop (mkF m 206 #[.val (.int p1), .val (.int p2), .val (.int p3), .unset, .unset, .unset, .unset] [(.ref b1)])) s₂ ∧ _
  refine own_go (A := T33.setTop (mkF m 207 #[.val (.int p1), .val (.int p2), .val (.int p3), .val (.ref b1), .unset, .unset, .unset] [])) (fun t kt => XS.astoreN X33.here hx rfl (hb hby at_206) rfl rfl (l' := #[.val (.int p1), .val (.int p2), .val (.int p3), .val (.ref b1), .unset, .unset, .unset]) rfl kt) ?_
  refine own_go (A := T33.setTop (mkF m 208 #[.val (.int p1), .val (.int p2), .val (.int p3), .val (.ref b1), .unset, .unset, .unset] [(.ref b1)])) (fun t kt => XS.aloadN X33.here hx rfl (hb hby at_207) rfl rfl kt) ?_
  refine own_go (A := T33.setTop (mkF m 209 #[.val (.int p1), .val (.int p2), .val (.int p3), .val (.ref b1), .unset, .unset, .unset] [(.int p2), (.ref b1)])) (fun t kt => XS.iloadN X33.here hx rfl (hb hby at_208) rfl kt) ?_
  refine own_go (A := T33.setTop (mkF m 211 #[.val (.int p1), .val (.int p2), .val (.int p3), .val (.ref b1), .unset, .unset, .unset] [(.int (31 : Int32)), (.int p2), (.ref b1)])) (fun t kt => XS.bipush X33.here hx rfl (hb hby at_209) kt) ?_
  refine own_go (A := T33.setTop (mkF m 212 #[.val (.int p1), .val (.int p2), .val (.int p3), .val (.ref b1), .unset, .unset, .unset] [(.int (p2 &&& (31 : Int32))), (.ref b1)])) (fun t kt => XS.iand X33.here hx rfl (hb hby at_211) rfl kt) ?_
  obtain ⟨kn, hkn, hk0, hkl⟩ := own_31 p2
  obtain ⟨y, S2y⟩ : ∃ y, ∀ target, Steps p.tables e below (T33.setTop (mkF m 213 #[.val (.int p1), .val (.int p2), .val (.int p3), .val (.ref b1), .unset, .unset, .unset] [(.int y)])) target → Steps p.tables e below (T33.setTop (mkF m 212 #[.val (.int p1), .val (.int p2), .val (.int p3), .val (.ref b1), .unset, .unset, .unset] [(.int (p2 &&& (31 : Int32))), (.ref b1)])) target := ⟨_, own_get X33 hx hZ e33 A33 kn hkn hk0 hkl (g := (mkF m 212 #[.val (.int p1), .val (.int p2), .val (.int p3), .val (.ref b1), .unset, .unset, .unset] [(.int (p2 &&& (31 : Int32))), (.ref b1)])) rfl rfl (hb hby at_212)⟩
  refine own_go S2y ?_
  refine own_go (A := T33.setTop (mkF m 214 #[.val (.int p1), .val (.int p2), .val (.int p3), .val (.ref b1), .unset, .unset, .unset] [(.int p3), (.int y)])) (fun t kt => XS.iloadN X33.here hx rfl (hb hby at_213) rfl kt) ?_
  refine own_go (A := T33.setTop (mkF m 215 #[.val (.int p1), .val (.int p2), .val (.int p3), .val (.ref b1), .unset, .unset, .unset] [(.int (3 : Int32)), (.int p3), (.int y)])) (fun t kt => XS.iconst X33.here hx rfl (hb hby at_214) kt) ?_
  refine own_go (A := T33.setTop (mkF m 216 #[.val (.int p1), .val (.int p2), .val (.int p3), .val (.ref b1), .unset, .unset, .unset] [(.int (p3 &&& (3 : Int32))), (.int y)])) (fun t kt => XS.iand X33.here hx rfl (hb hby at_215) rfl kt) ?_
  refine own_go (A := T33.setTop (mkF m 217 #[.val (.int p1), .val (.int p2), .val (.int p3), .val (.ref b1), .unset, .unset, .unset] [(.int (2 : Int32)), (.int (p3 &&& (3 : Int32))), (.int y)])) (fun t kt => XS.iconst X33.here hx rfl (hb hby at_216) kt) ?_
  refine own_go (A := T33.setTop (mkF m 218 #[.val (.int p1), .val (.int p2), .val (.int p3), .val (.ref b1), .unset, .unset, .unset] [(.int ((p3 &&& (3 : Int32)) - (2 : Int32))), (.int y)])) (fun t kt => XS.isub X33.here hx rfl (hb hby at_217) rfl kt) ?_
  refine own_go (A := T33.setTop (mkF m 219 #[.val (.int p1), .val (.int p2), .val (.int p3), .val (.ref b1), .unset, .unset, .unset] [(.int (y + ((p3 &&& (3 : Int32)) - (2 : Int32))))])) (fun t kt => XS.iadd X33.here hx rfl (hb hby at_218) rfl kt) ?_
  refine own_go (A := T33.setTop (mkF m 221 #[.val (.int p1), .val (.int p2), .val (.int p3), .val (.ref b1), .val (.int (y + ((p3 &&& (3 : Int32)) - (2 : Int32)))), .unset, .unset] [])) (fun t kt => XS.istore X33.here hx rfl (hb hby at_219) rfl (l' := #[.val (.int p1), .val (.int p2), .val (.int p3), .val (.ref b1), .val (.int (y + ((p3 &&& (3 : Int32)) - (2 : Int32)))), .unset, .unset]) rfl kt) ?_
  refine own_go (A := T33.setTop (mkF m 222 #[.val (.int p1), .val (.int p2), .val (.int p3), .val (.ref b1), .val (.int (y + ((p3 &&& (3 : Int32)) - (2 : Int32)))), .unset, .unset] [(.int p1)])) (fun t kt => XS.iloadN X33.here hx rfl (hb hby at_221) rfl kt) ?_
  obtain ⟨_, _, ⟨T34, L34, k34, n34⟩, -, X34, ⟨Lc34, hQ34, l34, y34, z34⟩, st34⟩ := Jvm.LawKit.callS X33 hx (y := (⟨"com/example/coxt/coxt/tree/XmlNames", "isNameStartChar", "(I)Z"⟩ : MethodName)) hown (mvT hZ (hw _ (List.mem_of_getElem? (i := 9) rfl))) (mvT hZ (hw _ (List.mem_of_getElem? (i := 10) rfl))) (mvT hZ (hw _ (List.mem_of_getElem? (i := 11) rfl))) (mvT hZ (hw _ (List.mem_of_getElem? (i := 12) rfl))) (by decide) (backOf (W := 0) (rm1 l Z a0 hw [] p1 h33 n0 sz33) hZ (hw _ (List.mem_of_getElem? (i := 12) rfl)) (hw _ (List.mem_of_getElem? (i := 11) rfl)) (by decide) (by decide)) (g := (mkF m 222 #[.val (.int p1), .val (.int p2), .val (.int p3), .val (.ref b1), .val (.int (y + ((p3 &&& (3 : Int32)) - (2 : Int32)))), .unset, .unset] [(.int p1)])) rfl (by rw [hml]; rfl) (argsL := [(.int p1)]) (rest := []) (lenOf pd_1 rfl) rfl (by show 2 * 0 + _ ≤ _; exact Nat.le_of_eq rfl) (hb hby at_222) (fun _ _ => ⟨rfl, e33, (by decide : 1 + 0 ≤ _), (by decide : 32 + 0 ≤ _)⟩)
  dsimp only [Pt.U, Pt.locs, Pt.cells, Pt.slots] at X34 l34 y34 z34 st34 hQ34
  subst l34 y34 z34
  obtain ⟨rfl, N34q, g34⟩ := hQ34
  have N34 := Fr.app N33 N34q
  refine own_go (A := T34.setTop (mkF m 225 #[.val (.int p1), .val (.int p2), .val (.int p3), .val (.ref b1), .val (.int (y + ((p3 &&& (3 : Int32)) - (2 : Int32)))), .unset, .unset] [(.int (F1_0 p1))])) st34 ?_
  refine own_go (A := T34.setTop (mkF m 226 #[.val (.int p1), .val (.int p2), .val (.int p3), .val (.ref b1), .val (.int (y + ((p3 &&& (3 : Int32)) - (2 : Int32)))), .unset, .unset] [(.int p1), (.int (F1_0 p1))])) (fun t kt => XS.iloadN X34.here hx rfl (hb hby at_225) rfl kt) ?_
  obtain ⟨_, _, ⟨T35, L35, k35, n35⟩, -, X35, ⟨Lc35, hQ35, l35, y35, z35⟩, st35⟩ := Jvm.LawKit.callS X34 hx (y := (⟨"com/example/coxt/coxt/tree/XmlNamesIsNameStartCharPinLaw", "ref", "(I)Z"⟩ : MethodName)) hown (mvT hZ (hw _ (List.mem_of_getElem? (i := 16) rfl))) (mvT hZ (hw _ (List.mem_of_getElem? (i := 17) rfl))) (mvT hZ (hw _ (List.mem_of_getElem? (i := 18) rfl))) (mvT hZ (hw _ (List.mem_of_getElem? (i := 19) rfl))) (by decide) (backOf (W := 1) (rm2 l Z a0 hw [] p1 h33 n0 sz33) hZ (hw _ (List.mem_of_getElem? (i := 19) rfl)) (hw _ (List.mem_of_getElem? (i := 18) rfl)) (by decide) (by decide)) (g := (mkF m 226 #[.val (.int p1), .val (.int p2), .val (.int p3), .val (.ref b1), .val (.int (y + ((p3 &&& (3 : Int32)) - (2 : Int32)))), .unset, .unset] [(.int p1), (.int (F1_0 p1))])) rfl (by rw [hml]; rfl) (argsL := [(.int p1)]) (rest := [(.int (F1_0 p1))]) (lenOf pd_2 rfl) rfl (by show 2 * 0 + _ ≤ _; exact Nat.le_of_eq rfl) (hb hby at_226) (fun _ _ => ⟨rfl, g34, (by decide : 1 + 0 ≤ _), (by decide : 32 + 0 ≤ _)⟩)
  dsimp only [Pt.U, Pt.locs, Pt.cells, Pt.slots] at X35 l35 y35 z35 st35 hQ35
  subst l35 y35 z35
  obtain ⟨rfl, N35q, g35⟩ := hQ35
  have N35 := Fr.app N34 N35q
  refine own_go (A := T35.setTop (mkF m 229 #[.val (.int p1), .val (.int p2), .val (.int p3), .val (.ref b1), .val (.int (y + ((p3 &&& (3 : Int32)) - (2 : Int32)))), .unset, .unset] [(.int (F2_0 p1)), (.int (F1_0 p1))])) st35 ?_
  refine own_go (A := T35.setTop (mkF m 232 #[.val (.int p1), .val (.int p2), .val (.int p3), .val (.ref b1), .val (.int (y + ((p3 &&& (3 : Int32)) - (2 : Int32)))), .unset, .unset] [])) (fun t kt => XS.icmpNo X35.here hx rfl (hb hby at_229) rfl (teq (own_eq _ : (F1_0 p1) = (F2_0 p1))).2 kt) ?_
  refine own_go (A := T35.setTop (mkF m 233 #[.val (.int p1), .val (.int p2), .val (.int p3), .val (.ref b1), .val (.int (y + ((p3 &&& (3 : Int32)) - (2 : Int32)))), .unset, .unset] [(.int (1 : Int32))])) (fun t kt => XS.iconst X35.here hx rfl (hb hby at_232) kt) ?_
  refine own_go (A := T35.setTop (mkF m 237 #[.val (.int p1), .val (.int p2), .val (.int p3), .val (.ref b1), .val (.int (y + ((p3 &&& (3 : Int32)) - (2 : Int32)))), .unset, .unset] [(.int (1 : Int32))])) (fun t kt => XS.goto X35.here hx rfl (pc0 := 233) (pc' := 237) rfl (hb hby at_233) (by decide) (by decide) kt) ?_
  refine own_go (A := T35.setTop (mkF m 239 #[.val (.int p1), .val (.int p2), .val (.int p3), .val (.ref b1), .val (.int (y + ((p3 &&& (3 : Int32)) - (2 : Int32)))), .val (.int (1 : Int32)), .unset] [])) (fun t kt => XS.istore X35.here hx rfl (hb hby at_237) rfl (l' := #[.val (.int p1), .val (.int p2), .val (.int p3), .val (.ref b1), .val (.int (y + ((p3 &&& (3 : Int32)) - (2 : Int32)))), .val (.int (1 : Int32)), .unset]) rfl kt) ?_
  refine own_go (A := T35.setTop (mkF m 241 #[.val (.int p1), .val (.int p2), .val (.int p3), .val (.ref b1), .val (.int (y + ((p3 &&& (3 : Int32)) - (2 : Int32)))), .val (.int (1 : Int32)), .unset] [(.int (y + ((p3 &&& (3 : Int32)) - (2 : Int32))))])) (fun t kt => XS.iload X35.here hx rfl (hb hby at_239) rfl kt) ?_
  obtain ⟨_, _, ⟨T36, L36, k36, n36⟩, -, X36, ⟨Lc36, hQ36, l36, y36, z36⟩, st36⟩ := Jvm.LawKit.callS X35 hx (y := (⟨"com/example/coxt/coxt/tree/XmlNames", "isNameStartChar", "(I)Z"⟩ : MethodName)) hown (mvT hZ (hw _ (List.mem_of_getElem? (i := 9) rfl))) (mvT hZ (hw _ (List.mem_of_getElem? (i := 10) rfl))) (mvT hZ (hw _ (List.mem_of_getElem? (i := 11) rfl))) (mvT hZ (hw _ (List.mem_of_getElem? (i := 12) rfl))) (by decide) (backOf (W := 0) (rm1 l Z a0 hw [] (y + ((p3 &&& (3 : Int32)) - (2 : Int32))) h33 n0 sz33) hZ (hw _ (List.mem_of_getElem? (i := 12) rfl)) (hw _ (List.mem_of_getElem? (i := 11) rfl)) (by decide) (by decide)) (g := (mkF m 241 #[.val (.int p1), .val (.int p2), .val (.int p3), .val (.ref b1), .val (.int (y + ((p3 &&& (3 : Int32)) - (2 : Int32)))), .val (.int (1 : Int32)), .unset] [(.int (y + ((p3 &&& (3 : Int32)) - (2 : Int32))))])) rfl (by rw [hml]; rfl) (argsL := [(.int (y + ((p3 &&& (3 : Int32)) - (2 : Int32))))]) (rest := []) (lenOf pd_1 rfl) rfl (by show 2 * 0 + _ ≤ _; exact Nat.le_of_eq rfl) (hb hby at_241) (fun _ _ => ⟨rfl, g35, (by decide : 1 + 0 ≤ _), (by decide : 32 + 0 ≤ _)⟩)
  dsimp only [Pt.U, Pt.locs, Pt.cells, Pt.slots] at X36 l36 y36 z36 st36 hQ36
  subst l36 y36 z36
  obtain ⟨rfl, N36q, g36⟩ := hQ36
  have N36 := Fr.app N35 N36q
  refine own_go (A := T36.setTop (mkF m 244 #[.val (.int p1), .val (.int p2), .val (.int p3), .val (.ref b1), .val (.int (y + ((p3 &&& (3 : Int32)) - (2 : Int32)))), .val (.int (1 : Int32)), .unset] [(.int (F1_0 (y + ((p3 &&& (3 : Int32)) - (2 : Int32)))))])) st36 ?_
  refine own_go (A := T36.setTop (mkF m 246 #[.val (.int p1), .val (.int p2), .val (.int p3), .val (.ref b1), .val (.int (y + ((p3 &&& (3 : Int32)) - (2 : Int32)))), .val (.int (1 : Int32)), .unset] [(.int (y + ((p3 &&& (3 : Int32)) - (2 : Int32)))), (.int (F1_0 (y + ((p3 &&& (3 : Int32)) - (2 : Int32)))))])) (fun t kt => XS.iload X36.here hx rfl (hb hby at_244) rfl kt) ?_
  obtain ⟨_, _, ⟨T37, L37, k37, n37⟩, -, X37, ⟨Lc37, hQ37, l37, y37, z37⟩, st37⟩ := Jvm.LawKit.callS X36 hx (y := (⟨"com/example/coxt/coxt/tree/XmlNamesIsNameStartCharPinLaw", "ref", "(I)Z"⟩ : MethodName)) hown (mvT hZ (hw _ (List.mem_of_getElem? (i := 16) rfl))) (mvT hZ (hw _ (List.mem_of_getElem? (i := 17) rfl))) (mvT hZ (hw _ (List.mem_of_getElem? (i := 18) rfl))) (mvT hZ (hw _ (List.mem_of_getElem? (i := 19) rfl))) (by decide) (backOf (W := 1) (rm2 l Z a0 hw [] (y + ((p3 &&& (3 : Int32)) - (2 : Int32))) h33 n0 sz33) hZ (hw _ (List.mem_of_getElem? (i := 19) rfl)) (hw _ (List.mem_of_getElem? (i := 18) rfl)) (by decide) (by decide)) (g := (mkF m 246 #[.val (.int p1), .val (.int p2), .val (.int p3), .val (.ref b1), .val (.int (y + ((p3 &&& (3 : Int32)) - (2 : Int32)))), .val (.int (1 : Int32)), .unset] [(.int (y + ((p3 &&& (3 : Int32)) - (2 : Int32)))), (.int (F1_0 (y + ((p3 &&& (3 : Int32)) - (2 : Int32)))))])) rfl (by rw [hml]; rfl) (argsL := [(.int (y + ((p3 &&& (3 : Int32)) - (2 : Int32))))]) (rest := [(.int (F1_0 (y + ((p3 &&& (3 : Int32)) - (2 : Int32)))))]) (lenOf pd_2 rfl) rfl (by show 2 * 0 + _ ≤ _; exact Nat.le_of_eq rfl) (hb hby at_246) (fun _ _ => ⟨rfl, g36, (by decide : 1 + 0 ≤ _), (by decide : 32 + 0 ≤ _)⟩)
  dsimp only [Pt.U, Pt.locs, Pt.cells, Pt.slots] at X37 l37 y37 z37 st37 hQ37
  subst l37 y37 z37
  obtain ⟨rfl, N37q, g37⟩ := hQ37
  have N37 := Fr.app N36 N37q
  refine own_go (A := T37.setTop (mkF m 249 #[.val (.int p1), .val (.int p2), .val (.int p3), .val (.ref b1), .val (.int (y + ((p3 &&& (3 : Int32)) - (2 : Int32)))), .val (.int (1 : Int32)), .unset] [(.int (F2_0 (y + ((p3 &&& (3 : Int32)) - (2 : Int32))))), (.int (F1_0 (y + ((p3 &&& (3 : Int32)) - (2 : Int32)))))])) st37 ?_
  refine own_go (A := T37.setTop (mkF m 252 #[.val (.int p1), .val (.int p2), .val (.int p3), .val (.ref b1), .val (.int (y + ((p3 &&& (3 : Int32)) - (2 : Int32)))), .val (.int (1 : Int32)), .unset] [])) (fun t kt => XS.icmpNo X37.here hx rfl (hb hby at_249) rfl (teq (own_eq _ : (F1_0 (y + ((p3 &&& (3 : Int32)) - (2 : Int32)))) = (F2_0 (y + ((p3 &&& (3 : Int32)) - (2 : Int32)))))).2 kt) ?_
  refine own_go (A := T37.setTop (mkF m 253 #[.val (.int p1), .val (.int p2), .val (.int p3), .val (.ref b1), .val (.int (y + ((p3 &&& (3 : Int32)) - (2 : Int32)))), .val (.int (1 : Int32)), .unset] [(.int (1 : Int32))])) (fun t kt => XS.iconst X37.here hx rfl (hb hby at_252) kt) ?_
  refine own_go (A := T37.setTop (mkF m 257 #[.val (.int p1), .val (.int p2), .val (.int p3), .val (.ref b1), .val (.int (y + ((p3 &&& (3 : Int32)) - (2 : Int32)))), .val (.int (1 : Int32)), .unset] [(.int (1 : Int32))])) (fun t kt => XS.goto X37.here hx rfl (pc0 := 253) (pc' := 257) rfl (hb hby at_253) (by decide) (by decide) kt) ?_
  refine own_go (A := T37.setTop (mkF m 259 #[.val (.int p1), .val (.int p2), .val (.int p3), .val (.ref b1), .val (.int (y + ((p3 &&& (3 : Int32)) - (2 : Int32)))), .val (.int (1 : Int32)), .val (.int (1 : Int32))] [])) (fun t kt => XS.istore X37.here hx rfl (hb hby at_257) rfl (l' := #[.val (.int p1), .val (.int p2), .val (.int p3), .val (.ref b1), .val (.int (y + ((p3 &&& (3 : Int32)) - (2 : Int32)))), .val (.int (1 : Int32)), .val (.int (1 : Int32))]) rfl kt) ?_
  refine own_go (A := T37.setTop (mkF m 261 #[.val (.int p1), .val (.int p2), .val (.int p3), .val (.ref b1), .val (.int (y + ((p3 &&& (3 : Int32)) - (2 : Int32)))), .val (.int (1 : Int32)), .val (.int (1 : Int32))] [(.int (1 : Int32))])) (fun t kt => XS.iload X37.here hx rfl (hb hby at_259) rfl kt) ?_
  refine own_go (A := T37.setTop (mkF m 264 #[.val (.int p1), .val (.int p2), .val (.int p3), .val (.ref b1), .val (.int (y + ((p3 &&& (3 : Int32)) - (2 : Int32)))), .val (.int (1 : Int32)), .val (.int (1 : Int32))] [])) (fun t kt => XS.ifNo X37.here hx rfl (hb hby at_261) rfl ((if0 _ _).trans (feq (by decide : ¬ ((1 : Int32) = (0 : Int32)))).1) kt) ?_
  refine own_go (A := T37.setTop (mkF m 266 #[.val (.int p1), .val (.int p2), .val (.int p3), .val (.ref b1), .val (.int (y + ((p3 &&& (3 : Int32)) - (2 : Int32)))), .val (.int (1 : Int32)), .val (.int (1 : Int32))] [(.int (1 : Int32))])) (fun t kt => XS.iload X37.here hx rfl (hb hby at_264) rfl kt) ?_
  refine own_go (A := T37.setTop (mkF m 269 #[.val (.int p1), .val (.int p2), .val (.int p3), .val (.ref b1), .val (.int (y + ((p3 &&& (3 : Int32)) - (2 : Int32)))), .val (.int (1 : Int32)), .val (.int (1 : Int32))] [])) (fun t kt => XS.ifNo X37.here hx rfl (hb hby at_266) rfl ((if0 _ _).trans (feq (by decide : ¬ ((1 : Int32) = (0 : Int32)))).1) kt) ?_
  refine own_go (A := T37.setTop (mkF m 270 #[.val (.int p1), .val (.int p2), .val (.int p3), .val (.ref b1), .val (.int (y + ((p3 &&& (3 : Int32)) - (2 : Int32)))), .val (.int (1 : Int32)), .val (.int (1 : Int32))] [(.int (1 : Int32))])) (fun t kt => XS.iconst X37.here hx rfl (hb hby at_269) kt) ?_
  refine own_go (A := T37.setTop (mkF m 274 #[.val (.int p1), .val (.int p2), .val (.int p3), .val (.ref b1), .val (.int (y + ((p3 &&& (3 : Int32)) - (2 : Int32)))), .val (.int (1 : Int32)), .val (.int (1 : Int32))] [(.int (1 : Int32))])) (fun t kt => XS.goto X37.here hx rfl (pc0 := 270) (pc' := 274) rfl (hb hby at_270) (by decide) (by decide) kt) ?_
  obtain ⟨fs, hr, hrun, hended, hW, hsame⟩ := X37.leave (v := some (.int (1 : Int32))) (fun h => by rw [Bd.returns] at h; cases h)
  exact ⟨_, _, retN X37 hx (t := .boolean) Bd.returns (by simp) (hb hby at_274) hr, hrun, hended, _, _, rfl, ⟨rfl, N37⟩, ⟨_, rfl⟩, hW, hsame.mono (by decide) (by decide)⟩
set_option maxRecDepth 65536 in
set_option maxHeartbeats 40000000 in
theorem comes_1 {Post : Tables → Env → Array Value → State → Outcome → State → Prop} (hpost : ∀ tb e args s v u, (limb_1_1.after args s (.returned v) u = true ∧ limb_1_2.after args s (.returned v) u = true ∧ True) → FrameEnd s (.returned v) u (Jvm.fieldLocs frame_1_writes args s ++ Jvm.arrayLocs frame_1_arrays args s ++ Jvm.staticLocs frame_1_statics s) 16 128 → Post tb e args s (.returned v) u) :
    ArmFor flags0 classFile x code maxLocals ret World_1 tables_1 room_1 Calls_1 rest_1 Pre_1 Post := by
  intro l hfl _ _ p e ha hc hk s m args below hf hA hF happ hP
  obtain ⟨hcalls, hrest, hpre⟩ := hP
  obtain ⟨-, -, -, hnamed, -, -, -, hat⟩ := (Spec.applies_iff hf).mp happ
  obtain ⟨hg, hn⟩ := and_e (Cond.before_iff.mp (show (Jvm.Cond.and given_1 narrow_1).before args s = true from hpre))
  obtain ⟨gc, g0⟩ := and_e hg
  obtain ⟨ga0, g1⟩ := and_e g0
  obtain ⟨ga1, g2⟩ := and_e g1
  have ga2 := g2
  obtain ⟨w0, w1, w2, rfl⟩ : ∃ w0 w1 w2 : Value, args = #[w0, w1, w2] := by
    have hs : args.size = 3 := by simpa [Cond.value, given_1] using gc
    obtain ⟨L⟩ := args
    match L, hs with
    | [w0, w1, w2], _ => exact ⟨w0, w1, w2, rfl⟩
  have hw := fun d (hd : d ∈ tables_1) => atoms_spec (ws := Jvm.Cond.code x code maxLocals ret :: tables_1) hat d (List.mem_cons_of_mem _ hd)
  obtain ⟨i0, ei0⟩ := is_v ga0
  obtain rfl : w0 = (.int i0) := Option.some.inj ei0
  obtain ⟨i1, ei1⟩ := is_v ga1
  obtain rfl : w1 = (.int i1) := Option.some.inj ei1
  obtain ⟨i2, ei2⟩ := is_v ga2
  obtain rfl : w2 = (.int i2) := Option.some.inj ei2
  obtain ⟨n, o, h1, h2, h3, _, L, rfl, ⟨rfl, N⟩, hq⟩ := rm0 l s _ hw tables_1 i0 i1 i2 s.heap s.heap.size (Nat.le_refl _) p e ha hc hk s m _ below hf ((Spec.applies_iff_loose hf).mp happ).1 ⟨rfl, State.Warmed39.refl s, rfl⟩ trivial
  refine ⟨n, _, h1, h2, h3, hpost _ _ _ _ _ _ ⟨Cond.after_iff.mpr rfl, Cond.after_iff.mpr (eq_i res_at (Term.int_eval (1)) rfl), trivial⟩ ⟨hq.1, hq.2.1, (hq.2.2.sift fun y hy => Or.inr (N y hy)).mono (by decide) (by decide)⟩⟩
theorem main_1_1 : Claimed_1_1 := comes_1 fun _ _ _ _ _ _ h hF => ⟨h.1, hF⟩
theorem main_1_2 : Claimed_1_2 := comes_1 fun _ _ _ _ _ _ h hF => ⟨h.2.1, hF⟩
end Jvm.Pilot.@@N@@
namespace Jvm.Pilot.@@N@@
open Jvm Jvm.ClassFile Sem Op Lib Jvm.Free Jvm.Stand Jvm.Pilot.@@N@@.Jvm.D
/-! MADE BY PROGRAM (witnessworld.py) out of the Statement's table words and the real class files: 9 classes; the members and pool entries that the words name. The judged class is class 1, her method 2. -/
namespace start1
open Jvm.ClassFile
def u (s : String) : CpInfo := .utf8 (stringToUtf16 s)
/-- a pool by its gaps: so many unusable entries, then the entry; so many at the end -/
def gap : Nat → List CpInfo → List CpInfo
  | 0, r => r
  | n + 1, r => .unusable :: gap n r
def poolList (es : List (Nat × CpInfo)) (last : Nat) : List CpInfo := es.foldr (fun e r => gap e.1 (e.2 :: r)) (gap last [])
def pool (es : List (Nat × CpInfo)) (last : Nat) : Array CpInfo := ⟨poolList es last⟩
def fileOf (pool : Array CpInfo) (this : Nat) (attrs : Array Attribute := #[]) (ms : Array MethodInfo := #[]) (fl : Nat := 33) (sup : Nat := 0) (ifs : Array Nat := #[]) (fds : Array FieldInfo := #[]) : ClassFile where
  minorVersion := 0
  majorVersion := 65
  constantPool := pool
  accessFlags := fl
  thisClass := this
  superClass := sup
  interfaces := ifs
  fields := fds
  methods := ms
  attributes := attrs
def plain (name : String) (sup : Option ClassId) : Class where
  name := name
  kind := .ordinary
  loader := none
  accessFlags := 33
  super := sup
  interfaces := #[]
  cf := none
  fields := #[]
  methods := #[]
  instanceTypes := #[]
  staticTypes := #[]
  resolved := #[]
  callSites := []
  init := .initialized
  statics := none
  mirror := none

def pool0 : Array CpInfo := pool [(5, u "<init>"), (0, u "()V"), (1, .class_ 10), (1, u "java/lang/Object")] 113

def k0m0 : Method := { name := "<init>", desc := "()V", sig := { parameters := [], returnType := none }, accessFlags := 1, code := none }
/-- java/lang/Object -/
def k0 : Class := { plain "java/lang/Object" none with
  accessFlags := 33
  interfaces := #[]
  cf := some (fileOf pool0 8 #[] #[{ accessFlags := 1, nameIndex := 5, descriptorIndex := 6, attributes := #[] }] 33 0 #[] #[])
  fields := #[]
  methods := #[k0m0]
  instanceTypes := #[]
  staticTypes := #[]
  resolved := Array.replicate 124 none
  statics := none }

def pool1 : Array CpInfo := pool [(2, .class_ 4), (1, u "java/lang/Object"), (0, u "<init>"), (0, u "()V"), (0, .integer 983039), (0, .integer 55296), (0, .integer 63743), (0, .integer 64976), (0, .integer 65007), (0, .integer 65534), (0, .integer 65535), (0, .integer 63744), (0, .integer 65008), (0, .integer 65536), (0, .integer 983040), (2, .integer 2147483648), (0, .methodref 22 23), (0, .class_ 24), (0, .nameAndType 25 26), (0, u "com/example/coxt/coxt/tree/XmlNames"), (0, u "isNameStartChar"), (0, u "(I)Z"), (0, .methodref 28 29), (0, .class_ 30), (0, .nameAndType 31 26), (0, u "com/example/coxt/coxt/tree/XmlNamesIsNameStartCharPinLaw"), (0, u "ref"), (3, u "law"), (0, u "(III)Z")] 4

def k1m0 : Method := { name := "<init>", desc := "()V", sig := { parameters := [], returnType := none }, accessFlags := 2, code := none }
def k1c1 : Code := { maxStack := 2, maxLocals := 1, code := method_2_code, exceptionTable := #[], attributes := #[] }
def k1m1 : Method := { name := "ref", desc := "(I)Z", sig := { parameters := [.int], returnType := some .boolean }, accessFlags := 10, code := some k1c1 }
def k1c2 : Code := { maxStack := 4, maxLocals := 7, code := code, exceptionTable := #[], attributes := #[] }
def k1m2 : Method := { name := "law", desc := "(III)Z", sig := { parameters := [.int, .int, .int], returnType := some .boolean }, accessFlags := 9, code := some k1c2 }
/-- com/example/coxt/coxt/tree/XmlNamesIsNameStartCharPinLaw -/
def k1 : Class := { plain "com/example/coxt/coxt/tree/XmlNamesIsNameStartCharPinLaw" (some 0) with
  accessFlags := 49
  interfaces := #[]
  cf := some (fileOf pool1 28 #[] #[{ accessFlags := 2, nameIndex := 5, descriptorIndex := 6, attributes := #[] }, { accessFlags := 10, nameIndex := 31, descriptorIndex := 26, attributes := #[] }, { accessFlags := 9, nameIndex := 35, descriptorIndex := 36, attributes := #[] }] 49 2 #[] #[])
  fields := #[]
  methods := #[k1m0, k1m1, k1m2]
  instanceTypes := #[]
  staticTypes := #[]
  resolved := Array.replicate 41 none
  statics := none }

def pool2 : Array CpInfo := pool [(2, .class_ 4), (1, u "java/lang/Object"), (0, u "<init>"), (0, u "()V"), (0, .integer 55295), (0, .integer 63744), (0, .integer 64975), (0, .integer 65008), (0, .integer 65533), (0, .integer 65536), (0, .integer 983039), (1, .class_ 17), (1, u "com/example/coxt/coxt/tree/XmlNames"), (0, u "isNameStartChar"), (0, u "(I)Z")] 68

def k2m0 : Method := { name := "<init>", desc := "()V", sig := { parameters := [], returnType := none }, accessFlags := 2, code := none }
def k2c1 : Code := { maxStack := 2, maxLocals := 1, code := prog_149_method_2_code, exceptionTable := #[], attributes := #[] }
def k2m1 : Method := { name := "isNameStartChar", desc := "(I)Z", sig := { parameters := [.int], returnType := some .boolean }, accessFlags := 9, code := some k2c1 }
/-- com/example/coxt/coxt/tree/XmlNames -/
def k2 : Class := { plain "com/example/coxt/coxt/tree/XmlNames" (some 0) with
  accessFlags := 49
  interfaces := #[]
  cf := some (fileOf pool2 15 #[] #[{ accessFlags := 2, nameIndex := 5, descriptorIndex := 6, attributes := #[] }, { accessFlags := 9, nameIndex := 18, descriptorIndex := 19, attributes := #[] }] 49 2 #[] #[])
  fields := #[]
  methods := #[k2m0, k2m1]
  instanceTypes := #[]
  staticTypes := #[]
  resolved := Array.replicate 88 none
  statics := none }

def pool3 : Array CpInfo := pool [(1, u "java/lang/Cloneable"), (0, .class_ 1), (0, u "java/lang/Object"), (0, .class_ 3)] 3

/-- java/lang/Cloneable -/
def k3 : Class := { plain "java/lang/Cloneable" (some 0) with
  accessFlags := 1537
  interfaces := #[]
  cf := some (fileOf pool3 2 #[] #[] 1537 4 #[] #[])
  fields := #[]
  methods := #[]
  instanceTypes := #[]
  staticTypes := #[]
  resolved := Array.replicate 8 none
  statics := none }

def pool4 : Array CpInfo := pool [(1, u "java/io/Serializable"), (0, .class_ 1), (0, u "java/lang/Object"), (0, .class_ 3)] 3

/-- java/io/Serializable -/
def k4 : Class := { plain "java/io/Serializable" (some 0) with
  accessFlags := 1537
  interfaces := #[]
  cf := some (fileOf pool4 2 #[] #[] 1537 4 #[] #[])
  fields := #[]
  methods := #[]
  instanceTypes := #[]
  staticTypes := #[]
  resolved := Array.replicate 8 none
  statics := none }

/-- the primitive byte -/
def k5 : Class := { plain "byte" none with kind := .primitive 'B', accessFlags := 0x411 }
/-- [B -/
def k6 : Class := { plain "[B" (some 0) with kind := .array 5 .byte, interfaces := #[3, 4], accessFlags := 1041 }

/-- the primitive int -/
def k7 : Class := { plain "int" none with kind := .primitive 'I', accessFlags := 0x411 }
/-- [I -/
def k8 : Class := { plain "[I" (some 0) with kind := .array 7 .int, interfaces := #[3, 4], accessFlags := 1041 }

def heap : Heap := #[]
def classes : Array Class := #[k0, k1, k2, k3, k4, k5, k6, k7, k8]
def interned : List (Array UInt16 × Addr) := []
def slotsUsed : Nat := 0
def theMethod : MethodId := ⟨1, 2⟩
def args0 : Array Value := #[.int 5, .int 1, .int 2]
def aboutOver (below : List Frame) : State where
  vm := { classes := classes, interned := interned.toArray }
  heap := heap
  slotsUsed := slotsUsed
  threads := #[{ frames := .invoking theMethod args0 :: below }]
def below0 : List Frame := [.native { method := ⟨0, 0⟩, args := #[] }]
def about1 : State := aboutOver below0
def p0 : Program := .bare "" "" ""
def e0 : Env := launch0.env 0 0 0
theorem w_frames : about1.frames = Frame.invoking theMethod args0 :: below0 := rfl
set_option maxRecDepth 65536 in
theorem w_args : argsFit about1.vm theMethod args0 = true := by decide +kernel
set_option maxRecDepth 65536 in
theorem w_heap : heapFits about1 = true := by decide +kernel
set_option maxRecDepth 65536 in
theorem w_runnable : about1.curStatus? = some .runnable := by decide +kernel
set_option maxRecDepth 65536 in
theorem w_alone : about1.alone = true := by decide +kernel
set_option maxRecDepth 65536 in
theorem w_named : about1.methodNamed? x = some theMethod := by decide +kernel
set_option maxRecDepth 65536 in
theorem w_hears : about1.hears theMethod below0 = true := by decide +kernel
set_option maxRecDepth 65536 in
theorem w_ripe : about1.ripe theMethod args0 below0 = true := by decide +kernel
theorem w_running : about1.status = .running := rfl
set_option maxRecDepth 65536 in
theorem w_room : about1.hasRoom e0.platform room_1 = true :=
  launch0.hasRoom_least _ room_1 (by decide +kernel) (by decide +kernel) (by decide +kernel) (by decide +kernel) (by decide +kernel) (by decide +kernel)
theorem allAtoms_all (ts : List Jvm.Cond) (a : Array Jvm.Value) (st : Jvm.State) : (allAtoms ts).before a st = ts.all (fun c => c.before a st) := by
  induction ts with
  | nil => rfl
  | cons c t ih =>
    show (Jvm.Cond.and c (allAtoms t)).before a st = _
    rw [Jvm.Cond.before_and, ih, List.all_cons]
def words1 : List Jvm.Cond := Jvm.Cond.code x code maxLocals ret :: tables_1
/-- a 'code' word, met by the world's own term for the bytes: nothing is compared byte by byte -/
theorem code_word {y : MethodName} {bytes : ByteArray} {mx : Nat} {rt : Option FieldType} {a : Array Value} {s : State} {m : MethodId} {meth : Method} {c : Code} (h1 : s.methodNamed? y = some m) (h2 : s.vm.method? m = some meth) (h3 : meth.code = some c) (h4 : c.code = bytes)
    (h5 : (c.maxLocals == mx && c.exceptionTable.isEmpty && decide (c.maxStack ≤ mostOperands) && decide (meth.sig.returnType = rt) && !meth.locks && decide (parseMethodDescriptor y.desc = some meth.sig)) = true) : (Jvm.Cond.code y bytes mx rt).before a s = true := by
  simp only [Bool.and_eq_true, beq_iff_eq, Bool.not_eq_true', decide_eq_true_eq] at h5
  obtain ⟨⟨⟨⟨⟨g1, g2⟩, g3⟩, g4⟩, g5⟩, g6⟩ := h5
  simp [Cond.before, Cond.holds, Cond.value, h1, h2, h3, h4, g1, g2, g3, g4, g5, g6]
def isCode : Jvm.Cond → Bool
  | .code _ _ _ _ => true
  | _ => false
theorem all_split {L : List Jvm.Cond} {P : Jvm.Cond → Bool} (h1 : L.all (fun c => isCode c || P c) = true) (h2 : ∀ c ∈ L.filter isCode, P c = true) : L.all P = true := by
  refine List.all_eq_true.mpr fun c hc => ?_
  have h := List.all_eq_true.mp h1 c hc
  rcases Bool.eq_false_or_eq_true (isCode c) with hi | hi
  · exact h2 c (List.mem_filter.mpr ⟨hc, hi⟩)
  · simpa [hi] using h
set_option maxRecDepth 65536 in
theorem w_c0 : (Jvm.Cond.code x code maxLocals ret).before args0 about1 = true := code_word (m := ⟨1, 2⟩) (meth := k1m2) (c := k1c2) (by decide +kernel) rfl rfl rfl (by decide +kernel)
set_option maxRecDepth 65536 in
theorem w_c1 : (Jvm.Cond.code ({ cls := "com/example/coxt/coxt/tree/XmlNames", name := "isNameStartChar", desc := "(I)Z" } : Jvm.MethodName) prog_149_method_2_code (1 : Nat) (Option.some Jvm.ClassFile.FieldType.boolean)).before args0 about1 = true := code_word (m := ⟨2, 1⟩) (meth := k2m1) (c := k2c1) (by decide +kernel) rfl rfl rfl (by decide +kernel)
set_option maxRecDepth 65536 in
theorem w_c2 : (Jvm.Cond.code ({ cls := "com/example/coxt/coxt/tree/XmlNamesIsNameStartCharPinLaw", name := "ref", desc := "(I)Z" } : Jvm.MethodName) method_2_code (1 : Nat) (Option.some Jvm.ClassFile.FieldType.boolean)).before args0 about1 = true := code_word (m := ⟨1, 1⟩) (meth := k1m1) (c := k1c1) (by decide +kernel) rfl rfl rfl (by decide +kernel)
def codes1 : List Jvm.Cond := [Jvm.Cond.code x code maxLocals ret, Jvm.Cond.code ({ cls := "com/example/coxt/coxt/tree/XmlNames", name := "isNameStartChar", desc := "(I)Z" } : Jvm.MethodName) prog_149_method_2_code (1 : Nat) (Option.some Jvm.ClassFile.FieldType.boolean), Jvm.Cond.code ({ cls := "com/example/coxt/coxt/tree/XmlNamesIsNameStartCharPinLaw", name := "ref", desc := "(I)Z" } : Jvm.MethodName) method_2_code (1 : Nat) (Option.some Jvm.ClassFile.FieldType.boolean)]
set_option maxRecDepth 65536 in
theorem codes_eq : words1.filter isCode = codes1 := rfl
theorem w_codes : ∀ c ∈ words1.filter isCode, c.before args0 about1 = true := by
  rw [codes_eq]
  intro c hc
  simp only [codes1, List.mem_cons, List.not_mem_nil, or_false] at hc
  rcases hc with rfl | rfl | rfl
  · exact w_c0
  · exact w_c1
  · exact w_c2
set_option maxRecDepth 65536 in
theorem w_t1 : (words1.take 24).all (fun c => isCode c || c.before args0 about1) = true := by decide +kernel
set_option maxRecDepth 65536 in
theorem w_t2 : (words1.drop 24).all (fun c => isCode c || c.before args0 about1) = true := by decide +kernel
theorem w_tables : (allAtoms (Jvm.Cond.code x code maxLocals ret :: tables_1)).before args0 about1 = true := by
  rw [allAtoms_all]
  show words1.all (fun c => c.before args0 about1) = true
  refine all_split ?_ w_codes
  rw [← List.take_append_drop 24 words1, List.all_append, w_t1, w_t2]
  rfl
set_option maxRecDepth 65536 in
theorem w_case : (Jvm.Cond.and given_1 narrow_1).before args0 about1 = true := by decide +kernel
theorem w_applies : (headSpec (Jvm.Cond.code x code maxLocals ret :: tables_1) room_1).applies x e0.platform about1 = true :=
  (Spec.applies_iff w_frames).mpr ⟨w_running, w_runnable, w_alone, w_named, w_hears, w_ripe, w_room, w_tables⟩
theorem atStart : AtStart classFile x code maxLocals ret World_1 tables_1 room_1 Calls_1 rest_1 Pre_1 launch0 p0 e0 about1 theMethod args0 below0 :=
  ⟨lists_1, trivial, launch0.admits_env _ _ _, launch0.least_env, fairChoices_fair.cas, fairChoices_fair.clock, w_frames, w_args, w_heap, w_applies, trivial, trivial, w_case⟩
end start1
theorem witness_1 : WitnessClaimed_1 := ⟨start1.p0, start1.e0, start1.about1, start1.theMethod, start1.args0, start1.below0, start1.atStart⟩
end Jvm.Pilot.@@N@@
