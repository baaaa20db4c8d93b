import JvmDerived
import JvmDerived.Pilot.@@N@@Statement
import JvmDerived.Pilot.@@N@@Code
set_option linter.unusedVariables false
set_option linter.unusedSimpArgs false
namespace Jvm.RoadKit
open Sem ClassFile Op Lib Jvm.Stand Jvm.Free Jvm.LawKit
section New
variable {p : Program} {l : Launch} {e : Env} {R : Room} {s : State} {m : MethodId} {args : Array Value} {below : List Frame} {meth : Method} {c : Code} {T : State} {locs : List Loc} {cells slots : Nat}
theorem retI (X : Stand p l e R s m args below meth c T locs cells slots) (hx : p.tables.exec = Jvm.exec) {pc : Nat} {Ls : Array Slot} {z : Int32} {rest : List Value} (hret : meth.sig.returnType = some .int) (hd : decode c.code pc = .ok (.ireturn, 1)) {fs : List Frame}
    (hl : ∀ (f : JFrame) (acts : List Action), f.method = m → f.locked = none → f.entered = [] → (doReturn e (T.setTop f) acts (some (.int z))).1 = T.setFrames fs) : Steps p.tables e below (T.setTop (mkF m pc Ls (.int z :: rest))) (T.setFrames fs) := by
  have hm' : T.vm.method? m = some meth := X.method'
  have hn : narrow .int (.int z) = .int z := rfl
  show Steps p.tables e below (T.setTop { method := m, pc := pc, locals := Ls, stack := _ :: rest, locked := none }) _
  jvm_step X.here [X.here.top, hx, hd, hm', hret, hn]
  first | (intro acts; rw [hl _ acts rfl rfl rfl]) | rw [hl _ _ rfl rfl rfl]
  exact Steps.refl _
end New
end Jvm.RoadKit
namespace Jvm.Pilot.@@N@@
open Jvm Jvm.ClassFile Sem Op Lib Jvm.Free Jvm.Stand Jvm.LawKit Jvm.RoadKit Bundle Jvm.Pilot.@@N@@.Jvm.D
theorem own_ext {h h' : Heap} (K : Keep h h' []) : Ext h h' := ⟨K.1, fun a c q => K.2.1 a c q nin0⟩
theorem own_sta {Z : State} {h h' : Heap} {C n d : String} {v : Value} {ws : List Addr} (S : Sta Z h C n d v) (K : Keep h h' ws) (q : ∀ x ∈ ws, ∀ c : Cell, h[x]? = some c → c.vm.isStatics = false) : Sta Z h' C n d v := by
  obtain ⟨cf, i, k, f, st, cell, h1, h2, h3, h4, h5, h6, h7⟩ := S
  refine ⟨cf, i, k, f, st, cell, h1, h2, h3, h4, K.2.1 st cell h5 (fun hm => ?_), h6, h7⟩
  have := q st hm cell h5
  rw [h6] at this; cases this
theorem own_plain {Z : State} {h : Heap} {a : Addr} {C : String} (E : Exa Z h a C) : ∀ c : Cell, h[a]? = some c → c.vm.isStatics = false := fun c hc => by
  obtain ⟨c', k, h1, -, -, h4, -⟩ := E
  cases h1.symm.trans hc; exact h4
theorem own_arr {Z : State} {h h' : Heap} {a : Addr} {c : Cell} {ty : FieldType} {ws : List Addr} (A : Arr Z h a c ty) (K : Keep h h' ws) (q : a ∉ ws) : Arr Z h' a c ty := ⟨K.2.1 a c A.1 q, A.2⟩
theorem own_nin {a b : Addr} (h : a < b) : a ∉ [b] := ninS (Nat.ne_of_lt h) nin0
def own_held (m b : Int32) : Int32 := if (((m.toUInt32 >>> (b &&& 31).toUInt32).toInt32) &&& (1 : Int32)) = 0 then 0 else 1
def own_entry (m b c : Int32) : Int32 := if own_held m b = 0 then -1 else c &&& 2147483647
def own_not (v : Int32) : Int32 := if v = 0 then 1 else 0
def own_free (v : Int32) : Int32 := if v = -1 then 1 else 0
theorem own_eq (m b c : Int32) : own_free (own_entry m b c) = own_not (own_held m b) := by
  by_cases h : own_held m b = 0
  · simp [own_entry, own_not, own_free, h]
  · have q : ¬ (c &&& 2147483647) = -1 := fun e => by
      have r := (c_and c 2147483647 (by decide)).1
      rw [e] at r
      exact absurd r (by decide)
    simp [own_entry, own_not, own_free, h, q]
theorem own_len {args : Array Value} {s : State} {t : Term} {a : Addr} {cl : Cell} {ty : FieldType} {k : Int32} (ht : t.eval args s none [] s = some (.ref a)) (A : Arr s s.heap a cl ty) (h : (Jvm.Cond.eq (Term.length t) (Term.int k)).value args s none s [] = some true) : cl.slots.size = k.toNatClampNeg := by
  obtain ⟨x, y, e1, e2, k1, k2⟩ := cmp_v (Or.inl h)
  have hA : s.arrayAt? a = some cl := A.fin (Vm.Alike.refl _)
  have hl : cl.slots.size < 2147483648 := by
    by_cases hl : cl.slots.size < 2147483648
    · exact hl
    · simp [Term.eval, ht, hA, hl] at e1
  have e3 := len_f ht hA hl
  have q := gotT (Cond.eq_ints e3 (Term.int_eval k)) h
  rw [← q]
  have r : cl.slots.size.toInt32.toInt = cl.slots.size := len_toInt hl
  have n : ¬ cl.slots.size.toInt32 < 0 := by rw [Int32.lt_iff_toInt_lt, r]; simp
  have w := nat_of n
  rw [r] at w
  omega
theorem d2_0 : decode method_2_code 0 = .ok (.iload_n 0, 1) := by decide +kernel
theorem d2_1 : decode method_2_code 1 = .ok (.iload_n 1, 1) := by decide +kernel
theorem d2_2 : decode method_2_code 2 = .ok (.iushr, 1) := by decide +kernel
theorem d2_3 : decode method_2_code 3 = .ok (.iconst 1, 1) := by decide +kernel
theorem d2_4 : decode method_2_code 4 = .ok (.iand, 1) := by decide +kernel
theorem d2_5 : decode method_2_code 5 = .ok (.ifCond .eq 7, 3) := by decide +kernel
theorem d2_12 : decode method_2_code 12 = .ok (.iconst 0, 1) := by decide +kernel
theorem d2_13 : decode method_2_code 13 = .ok (.ireturn, 1) := by decide +kernel
theorem pn_2 : plainName "com/example/rematch/rematch/ArrivalIsFreePinLaw" = true := by first | (simp [plainName, overriddenIn]; done) | decide +kernel
theorem ef_2 (m : MethodId) (x0 : Int32) (x1 : Int32) : entryFrame m #[(.int x0), (.int x1)] 2 = mkF m 0 #[.val (.int x0), .val (.int x1)] [] := by first | (simp [entryFrame, mkF, argsToLocals, Value.category]; done) | rfl
def Qrm2 (Z : State) (p1 : Int32) (p2 : Int32) (h0 : Heap) (n0 : Nat) (v : Option Value) (h : Heap) (L : List Loc) : Prop := v = some (.int (own_held p1 p2)) ∧ Fr n0 L ∧ h = h0
set_option maxRecDepth 65536 in
set_option maxHeartbeats 40000000 in
theorem rm2a (l : Launch) (Z : State) (a0 : Array Value) (hw : ∀ d ∈ tables_1, d.before a0 Z = true) (ws : List Jvm.Cond) (p1 : Int32) (p2 : Int32) (h0 : Heap) (n0 : Nat) (Z0 : n0 ≤ h0.size) (hc5 : (((p1.toUInt32 >>> (p2 &&& 31).toUInt32).toInt32) &&& (1 : Int32)) = (0 : Int32)) :
    MetFree l (⟨"com/example/rematch/rematch/ArrivalIsFreePinLaw", "held", "(II)Z"⟩ : MethodName) (head1 (Jvm.Cond.code (⟨"com/example/rematch/rematch/ArrivalIsFreePinLaw", "held", "(II)Z"⟩ : MethodName) method_2_code 2 (some .boolean) :: ws) ({ frames := 0, cells := 0, slots := 0, locals := 0 } : Room)) (fun a U => a = #[(.int p1), (.int p2)] ∧ Z.Warmed39 U.vm ∧ U.heap = h0) (fun _ _ _ _ _ => True) (fun _ U o U' => ∃ v L, o = .returned v ∧ Qrm2 Z p1 p2 h0 n0 v U'.heap L ∧ FrameEnd U o U' L ({ frames := 0, cells := 0, slots := 0, locals := 0 } : Room).cells ({ frames := 0, cells := 0, slots := 0, locals := 0 } : Room).slots) := by
  refine MetFree.of_bodySF (plainFor_of_name pn_2) hisR ?_
  intro p e s m args below meth c s₁ Bd hml0 hP hK
  obtain ⟨rfl, hZ, hh⟩ := hP
  have hx := Bd.exec
  have hby := Bd.bytes
  have hml : c.maxLocals = 2 := hml0
  have hown : s.vm.findClass "com/example/rematch/rematch/ArrivalIsFreePinLaw" = some m.cls := findClass_of_methodNamed Bd.named
  have hnm := (name_of_methodNamed Bd.named Bd.method).1
  have X0 : Stand p l e ({ frames := 0, cells := 0, slots := 0, locals := 0 } : Room) s m #[(.int p1), (.int p2)] below meth c s₁ [] 0 0 := Stand.of_body Bd
  have e0 : s₁.heap = h0 := by rw [← hh, Bd.state]; rfl
  have N0 := Fr.nil n0
  have pre0 : ∀ t, Steps p.tables e below (s₁.setTop (mkF m 0 #[.val (.int p1), .val (.int p2)] [])) t → Steps p.tables e below (s₁.setTop (entryFrame m #[(.int p1), (.int p2)] 2)) t := fun t k => castTop (ef_2 m p1 p2) k
  obtain ⟨fs, hr, hrun, hended, hW, hsame⟩ := X0.leave (v := some (.int (0 : Int32))) (fun h => by rw [Bd.returns] at h; cases h)
  refine ⟨_, _, pre0 _ ?_, hrun, hended, _, _, rfl, ?_, ⟨_, rfl⟩, hW, hsame.mono (by decide) (by decide)⟩
  · show Steps p.tables e below (s₁.setTop (mkF m 0 #[.val (.int p1), .val (.int p2)] [])) _
    refine XS.iloadN X0.here hx rfl (hb hby d2_0) rfl ?_
    show Steps p.tables e below (s₁.setTop (mkF m 1 #[.val (.int p1), .val (.int p2)] [(.int p1)])) _
    refine XS.iloadN X0.here hx rfl (hb hby d2_1) rfl ?_
    show Steps p.tables e below (s₁.setTop (mkF m 2 #[.val (.int p1), .val (.int p2)] [(.int p2), (.int p1)])) _
    refine XS.iushr X0.here hx rfl (hb hby d2_2) rfl ?_
    show Steps p.tables e below (s₁.setTop (mkF m 3 #[.val (.int p1), .val (.int p2)] [(.int ((p1.toUInt32 >>> (p2 &&& 31).toUInt32).toInt32))])) _
    refine XS.iconst X0.here hx rfl (hb hby d2_3) ?_
    show Steps p.tables e below (s₁.setTop (mkF m 4 #[.val (.int p1), .val (.int p2)] [(.int (1 : Int32)), (.int ((p1.toUInt32 >>> (p2 &&& 31).toUInt32).toInt32))])) _
    refine XS.iand X0.here hx rfl (hb hby d2_4) rfl ?_
    show Steps p.tables e below (s₁.setTop (mkF m 5 #[.val (.int p1), .val (.int p2)] [(.int (((p1.toUInt32 >>> (p2 &&& 31).toUInt32).toInt32) &&& (1 : Int32)))])) _
    refine XS.ifYes X0.here hx rfl (pc0 := 5) (pc' := 12) rfl (hb hby d2_5) rfl ((if0 _ _).trans (teq hc5).1) (by decide) (by decide) ?_
    show Steps p.tables e below (s₁.setTop (mkF m 12 #[.val (.int p1), .val (.int p2)] [])) _
    refine XS.iconst X0.here hx rfl (hb hby d2_12) ?_
    show Steps p.tables e below (s₁.setTop (mkF m 13 #[.val (.int p1), .val (.int p2)] [(.int (0 : Int32))])) _
    exact retN X0 hx (t := .boolean) Bd.returns (by simp) (hb hby d2_13) hr
  · show Qrm2 Z p1 p2 h0 n0 _ s₁.heap _
    rw [e0]
    exact ⟨by rw [own_held, if_pos hc5], N0, rfl⟩
theorem d2_8 : decode method_2_code 8 = .ok (.iconst 1, 1) := by decide +kernel
theorem d2_9 : decode method_2_code 9 = .ok (.goto 4, 3) := by decide +kernel
set_option maxRecDepth 65536 in
set_option maxHeartbeats 40000000 in
theorem rm2b (l : Launch) (Z : State) (a0 : Array Value) (hw : ∀ d ∈ tables_1, d.before a0 Z = true) (ws : List Jvm.Cond) (p1 : Int32) (p2 : Int32) (h0 : Heap) (n0 : Nat) (Z0 : n0 ≤ h0.size) (hc5 : ¬ ((((p1.toUInt32 >>> (p2 &&& 31).toUInt32).toInt32) &&& (1 : Int32)) = (0 : Int32))) :
    MetFree l (⟨"com/example/rematch/rematch/ArrivalIsFreePinLaw", "held", "(II)Z"⟩ : MethodName) (head1 (Jvm.Cond.code (⟨"com/example/rematch/rematch/ArrivalIsFreePinLaw", "held", "(II)Z"⟩ : MethodName) method_2_code 2 (some .boolean) :: ws) ({ frames := 0, cells := 0, slots := 0, locals := 0 } : Room)) (fun a U => a = #[(.int p1), (.int p2)] ∧ Z.Warmed39 U.vm ∧ U.heap = h0) (fun _ _ _ _ _ => True) (fun _ U o U' => ∃ v L, o = .returned v ∧ Qrm2 Z p1 p2 h0 n0 v U'.heap L ∧ FrameEnd U o U' L ({ frames := 0, cells := 0, slots := 0, locals := 0 } : Room).cells ({ frames := 0, cells := 0, slots := 0, locals := 0 } : Room).slots) := by
  refine MetFree.of_bodySF (plainFor_of_name pn_2) hisR ?_
  intro p e s m args below meth c s₁ Bd hml0 hP hK
  obtain ⟨rfl, hZ, hh⟩ := hP
  have hx := Bd.exec
  have hby := Bd.bytes
  have hml : c.maxLocals = 2 := hml0
  have hown : s.vm.findClass "com/example/rematch/rematch/ArrivalIsFreePinLaw" = some m.cls := findClass_of_methodNamed Bd.named
  have hnm := (name_of_methodNamed Bd.named Bd.method).1
  have X0 : Stand p l e ({ frames := 0, cells := 0, slots := 0, locals := 0 } : Room) s m #[(.int p1), (.int p2)] below meth c s₁ [] 0 0 := Stand.of_body Bd
  have e0 : s₁.heap = h0 := by rw [← hh, Bd.state]; rfl
  have N0 := Fr.nil n0
  have pre0 : ∀ t, Steps p.tables e below (s₁.setTop (mkF m 0 #[.val (.int p1), .val (.int p2)] [])) t → Steps p.tables e below (s₁.setTop (entryFrame m #[(.int p1), (.int p2)] 2)) t := fun t k => castTop (ef_2 m p1 p2) k
  obtain ⟨fs, hr, hrun, hended, hW, hsame⟩ := X0.leave (v := some (.int (1 : Int32))) (fun h => by rw [Bd.returns] at h; cases h)
  refine ⟨_, _, pre0 _ ?_, hrun, hended, _, _, rfl, ?_, ⟨_, rfl⟩, hW, hsame.mono (by decide) (by decide)⟩
  · show Steps p.tables e below (s₁.setTop (mkF m 0 #[.val (.int p1), .val (.int p2)] [])) _
    refine XS.iloadN X0.here hx rfl (hb hby d2_0) rfl ?_
    show Steps p.tables e below (s₁.setTop (mkF m 1 #[.val (.int p1), .val (.int p2)] [(.int p1)])) _
    refine XS.iloadN X0.here hx rfl (hb hby d2_1) rfl ?_
    show Steps p.tables e below (s₁.setTop (mkF m 2 #[.val (.int p1), .val (.int p2)] [(.int p2), (.int p1)])) _
    refine XS.iushr X0.here hx rfl (hb hby d2_2) rfl ?_
    show Steps p.tables e below (s₁.setTop (mkF m 3 #[.val (.int p1), .val (.int p2)] [(.int ((p1.toUInt32 >>> (p2 &&& 31).toUInt32).toInt32))])) _
    refine XS.iconst X0.here hx rfl (hb hby d2_3) ?_
    show Steps p.tables e below (s₁.setTop (mkF m 4 #[.val (.int p1), .val (.int p2)] [(.int (1 : Int32)), (.int ((p1.toUInt32 >>> (p2 &&& 31).toUInt32).toInt32))])) _
    refine XS.iand X0.here hx rfl (hb hby d2_4) rfl ?_
    show Steps p.tables e below (s₁.setTop (mkF m 5 #[.val (.int p1), .val (.int p2)] [(.int (((p1.toUInt32 >>> (p2 &&& 31).toUInt32).toInt32) &&& (1 : Int32)))])) _
    refine XS.ifNo X0.here hx rfl (hb hby d2_5) rfl ((if0 _ _).trans (feq hc5).1) ?_
    show Steps p.tables e below (s₁.setTop (mkF m 8 #[.val (.int p1), .val (.int p2)] [])) _
    refine XS.iconst X0.here hx rfl (hb hby d2_8) ?_
    show Steps p.tables e below (s₁.setTop (mkF m 9 #[.val (.int p1), .val (.int p2)] [(.int (1 : Int32))])) _
    refine XS.goto X0.here hx rfl (pc0 := 9) (pc' := 13) rfl (hb hby d2_9) (by decide) (by decide) ?_
    show Steps p.tables e below (s₁.setTop (mkF m 13 #[.val (.int p1), .val (.int p2)] [(.int (1 : Int32))])) _
    exact retN X0 hx (t := .boolean) Bd.returns (by simp) (hb hby d2_13) hr
  · show Qrm2 Z p1 p2 h0 n0 _ s₁.heap _
    rw [e0]
    exact ⟨by rw [own_held, if_neg hc5], N0, rfl⟩
theorem rm2 (l : Launch) (Z : State) (a0 : Array Value) (hw : ∀ d ∈ tables_1, d.before a0 Z = true) (ws : List Jvm.Cond) (p1 : Int32) (p2 : Int32) (h0 : Heap) (n0 : Nat) (Z0 : n0 ≤ h0.size) :
    MetFree l (⟨"com/example/rematch/rematch/ArrivalIsFreePinLaw", "held", "(II)Z"⟩ : MethodName) (head1 (Jvm.Cond.code (⟨"com/example/rematch/rematch/ArrivalIsFreePinLaw", "held", "(II)Z"⟩ : MethodName) method_2_code 2 (some .boolean) :: ws) ({ frames := 0, cells := 0, slots := 0, locals := 0 } : Room)) (fun a U => a = #[(.int p1), (.int p2)] ∧ Z.Warmed39 U.vm ∧ U.heap = h0) (fun _ _ _ _ _ => True) (fun _ U o U' => ∃ v L, o = .returned v ∧ Qrm2 Z p1 p2 h0 n0 v U'.heap L ∧ FrameEnd U o U' L ({ frames := 0, cells := 0, slots := 0, locals := 0 } : Room).cells ({ frames := 0, cells := 0, slots := 0, locals := 0 } : Room).slots) := by
  by_cases hcase : (((p1.toUInt32 >>> (p2 &&& 31).toUInt32).toInt32) &&& (1 : Int32)) = (0 : Int32)
  · exact rm2a l Z a0 hw ws p1 p2 h0 n0 Z0 hcase
  · exact rm2b l Z a0 hw ws p1 p2 h0 n0 Z0 hcase
theorem d1_0 : decode method_3_code 0 = .ok (.iload_n 0, 1) := by decide +kernel
theorem d1_1 : decode method_3_code 1 = .ok (.iload_n 1, 1) := by decide +kernel
theorem d1_2 : decode method_3_code 2 = .ok (.invokestatic 7, 3) := by decide +kernel
theorem d1_5 : decode method_3_code 5 = .ok (.ifCond .eq 10, 3) := by decide +kernel
theorem d1_15 : decode method_3_code 15 = .ok (.iconst (-1), 1) := by decide +kernel
theorem d1_16 : decode method_3_code 16 = .ok (.ireturn, 1) := by decide +kernel
theorem pn_1 : plainName "com/example/rematch/rematch/ArrivalIsFreePinLaw" = true := by first | (simp [plainName, overriddenIn]; done) | decide +kernel
theorem pd_1_1 : parseMethodDescriptor "(II)Z" = some ⟨[.int, .int], some .boolean⟩ := by decide +kernel
theorem ef_1 (m : MethodId) (x0 : Int32) (x1 : Int32) (x2 : Int32) : entryFrame m #[(.int x0), (.int x1), (.int x2)] 3 = mkF m 0 #[.val (.int x0), .val (.int x1), .val (.int x2)] [] := by first | (simp [entryFrame, mkF, argsToLocals, Value.category]; done) | rfl
def Qrm1 (Z : State) (p1 : Int32) (p2 : Int32) (p3 : Int32) (h0 : Heap) (n0 : Nat) (v : Option Value) (h : Heap) (L : List Loc) : Prop := v = some (.int (own_entry p1 p2 p3)) ∧ Fr n0 L ∧ h = h0
set_option maxRecDepth 65536 in
set_option maxHeartbeats 40000000 in
theorem rm1a (l : Launch) (Z : State) (a0 : Array Value) (hw : ∀ d ∈ tables_1, d.before a0 Z = true) (ws : List Jvm.Cond) (p1 : Int32) (p2 : Int32) (p3 : Int32) (h0 : Heap) (n0 : Nat) (Z0 : n0 ≤ h0.size) (hHH : own_held p1 p2 = 0) :
    MetFree l (⟨"com/example/rematch/rematch/ArrivalIsFreePinLaw", "entry", "(III)I"⟩ : MethodName) (head1 (Jvm.Cond.code (⟨"com/example/rematch/rematch/ArrivalIsFreePinLaw", "entry", "(III)I"⟩ : MethodName) method_3_code 3 (some .int) :: ws) ({ frames := 1, cells := 0, slots := 0, locals := 13 } : Room)) (fun a U => a = #[(.int p1), (.int p2), (.int p3)] ∧ Z.Warmed39 U.vm ∧ U.heap = h0) (fun _ _ _ _ _ => True) (fun _ U o U' => ∃ v L, o = .returned v ∧ Qrm1 Z p1 p2 p3 h0 n0 v U'.heap L ∧ FrameEnd U o U' L ({ frames := 1, cells := 0, slots := 0, locals := 13 } : Room).cells ({ frames := 1, cells := 0, slots := 0, locals := 13 } : Room).slots) := by
  refine MetFree.of_bodySF (plainFor_of_name pn_1) hisR ?_
  intro p e s m args below meth c s₁ Bd hml0 hP hK
  obtain ⟨rfl, hZ, hh⟩ := hP
  have hx := Bd.exec
  have hby := Bd.bytes
  have hml : c.maxLocals = 3 := hml0
  have hown : s.vm.findClass "com/example/rematch/rematch/ArrivalIsFreePinLaw" = some m.cls := findClass_of_methodNamed Bd.named
  have hnm := (name_of_methodNamed Bd.named Bd.method).1
  have X0 : Stand p l e ({ frames := 1, cells := 0, slots := 0, locals := 13 } : Room) s m #[(.int p1), (.int p2), (.int p3)] below meth c s₁ [] 0 0 := Stand.of_body Bd
  have e0 : s₁.heap = h0 := by rw [← hh, Bd.state]; rfl
  have N0 := Fr.nil n0
  have pre0 : ∀ t, Steps p.tables e below (s₁.setTop (mkF m 0 #[.val (.int p1), .val (.int p2), .val (.int p3)] [])) t → Steps p.tables e below (s₁.setTop (entryFrame m #[(.int p1), (.int p2), (.int p3)] 3)) t := fun t k => castTop (ef_1 m p1 p2 p3) k
  obtain ⟨_, _, ⟨T4, L4, k4, n4⟩, -, X4, ⟨Lc4, hQ4, l4, y4, z4⟩, st4⟩ := Jvm.LawKit.callS X0 hx (y := (⟨"com/example/rematch/rematch/ArrivalIsFreePinLaw", "held", "(II)Z"⟩ : MethodName)) hown (mvT hZ (hw _ (List.mem_of_getElem? (i := 5) rfl))) (mvT hZ (hw _ (List.mem_of_getElem? (i := 6) rfl))) (mvT hZ (hw _ (List.mem_of_getElem? (i := 3) rfl))) (mvT hZ (hw _ (List.mem_of_getElem? (i := 7) rfl))) (by decide) (backOf (W := 0) (rm2 l Z a0 hw [] p1 p2 h0 n0 Z0) hZ (hw _ (List.mem_of_getElem? (i := 7) rfl)) (hw _ (List.mem_of_getElem? (i := 3) rfl)) (by decide) (by decide)) (g := (mkF m 2 #[.val (.int p1), .val (.int p2), .val (.int p3)] [(.int p2), (.int p1)])) rfl (by rw [hml]; rfl) (argsL := [(.int p1), (.int p2)]) (rest := []) (lenOf pd_1_1 rfl) rfl (by show 2 * 0 + _ ≤ _; exact Nat.le_of_eq rfl) (hb hby d1_2) (fun _ _ => ⟨rfl, e0, (by decide : 0 + 0 ≤ _), (by decide : 0 + 0 ≤ _)⟩)
  dsimp only [Pt.U, Pt.locs, Pt.cells, Pt.slots] at X4 l4 y4 z4 st4 hQ4
  subst l4 y4 z4
  obtain ⟨rfl, N4q, e4⟩ := hQ4
  have N4 := Fr.app N0 N4q
  obtain ⟨fs, hr, hrun, hended, hW, hsame⟩ := X4.leave (v := some (.int (-1 : Int32))) (fun h => by rw [Bd.returns] at h; cases h)
  refine ⟨_, _, pre0 _ ?_, hrun, hended, _, _, rfl, ?_, ⟨_, rfl⟩, hW, hsame.mono (by decide) (by decide)⟩
  · show Steps p.tables e below (s₁.setTop (mkF m 0 #[.val (.int p1), .val (.int p2), .val (.int p3)] [])) _
    refine XS.iloadN X0.here hx rfl (hb hby d1_0) rfl ?_
    show Steps p.tables e below (s₁.setTop (mkF m 1 #[.val (.int p1), .val (.int p2), .val (.int p3)] [(.int p1)])) _
    refine XS.iloadN X0.here hx rfl (hb hby d1_1) rfl ?_
    show Steps p.tables e below (s₁.setTop (mkF m 2 #[.val (.int p1), .val (.int p2), .val (.int p3)] [(.int p2), (.int p1)])) _
    refine st4 _ ?_
    show Steps p.tables e below (T4.setTop (mkF m 5 #[.val (.int p1), .val (.int p2), .val (.int p3)] [(.int (own_held p1 p2))])) _
    refine XS.ifYes X4.here hx rfl (pc0 := 5) (pc' := 15) rfl (hb hby d1_5) rfl ((if0 _ _).trans (teq (hHH : (own_held p1 p2) = (0 : Int32))).1) (by decide) (by decide) ?_
    show Steps p.tables e below (T4.setTop (mkF m 15 #[.val (.int p1), .val (.int p2), .val (.int p3)] [])) _
    refine XS.iconst X4.here hx rfl (hb hby d1_15) ?_
    show Steps p.tables e below (T4.setTop (mkF m 16 #[.val (.int p1), .val (.int p2), .val (.int p3)] [(.int (-1 : Int32))])) _
    exact retI X4 hx Bd.returns (hb hby d1_16) hr      -- retI stands in the head ('lawwalk <made dir>' prints it)
  · show Qrm1 Z p1 p2 p3 h0 n0 _ T4.heap _
    exact ⟨by rw [own_entry, if_pos hHH], N4, e4⟩
theorem d1_8 : decode method_3_code 8 = .ok (.iload_n 2, 1) := by decide +kernel
theorem d1_9 : decode method_3_code 9 = .ok (.ldc 13, 2) := by decide +kernel
theorem d1_11 : decode method_3_code 11 = .ok (.iand, 1) := by decide +kernel
theorem d1_12 : decode method_3_code 12 = .ok (.goto 4, 3) := by decide +kernel
set_option maxRecDepth 65536 in
set_option maxHeartbeats 40000000 in
theorem rm1b (l : Launch) (Z : State) (a0 : Array Value) (hw : ∀ d ∈ tables_1, d.before a0 Z = true) (ws : List Jvm.Cond) (p1 : Int32) (p2 : Int32) (p3 : Int32) (h0 : Heap) (n0 : Nat) (Z0 : n0 ≤ h0.size) (hHH : ¬ (own_held p1 p2 = 0)) :
    MetFree l (⟨"com/example/rematch/rematch/ArrivalIsFreePinLaw", "entry", "(III)I"⟩ : MethodName) (head1 (Jvm.Cond.code (⟨"com/example/rematch/rematch/ArrivalIsFreePinLaw", "entry", "(III)I"⟩ : MethodName) method_3_code 3 (some .int) :: ws) ({ frames := 1, cells := 0, slots := 0, locals := 13 } : Room)) (fun a U => a = #[(.int p1), (.int p2), (.int p3)] ∧ Z.Warmed39 U.vm ∧ U.heap = h0) (fun _ _ _ _ _ => True) (fun _ U o U' => ∃ v L, o = .returned v ∧ Qrm1 Z p1 p2 p3 h0 n0 v U'.heap L ∧ FrameEnd U o U' L ({ frames := 1, cells := 0, slots := 0, locals := 13 } : Room).cells ({ frames := 1, cells := 0, slots := 0, locals := 13 } : Room).slots) := by
  refine MetFree.of_bodySF (plainFor_of_name pn_1) hisR ?_
  intro p e s m args below meth c s₁ Bd hml0 hP hK
  obtain ⟨rfl, hZ, hh⟩ := hP
  have hx := Bd.exec
  have hby := Bd.bytes
  have hml : c.maxLocals = 3 := hml0
  have hown : s.vm.findClass "com/example/rematch/rematch/ArrivalIsFreePinLaw" = some m.cls := findClass_of_methodNamed Bd.named
  have hnm := (name_of_methodNamed Bd.named Bd.method).1
  have X0 : Stand p l e ({ frames := 1, cells := 0, slots := 0, locals := 13 } : Room) s m #[(.int p1), (.int p2), (.int p3)] below meth c s₁ [] 0 0 := Stand.of_body Bd
  have e0 : s₁.heap = h0 := by rw [← hh, Bd.state]; rfl
  have N0 := Fr.nil n0
  have pre0 : ∀ t, Steps p.tables e below (s₁.setTop (mkF m 0 #[.val (.int p1), .val (.int p2), .val (.int p3)] [])) t → Steps p.tables e below (s₁.setTop (entryFrame m #[(.int p1), (.int p2), (.int p3)] 3)) t := fun t k => castTop (ef_1 m p1 p2 p3) k
  obtain ⟨_, _, ⟨T4, L4, k4, n4⟩, -, X4, ⟨Lc4, hQ4, l4, y4, z4⟩, st4⟩ := Jvm.LawKit.callS X0 hx (y := (⟨"com/example/rematch/rematch/ArrivalIsFreePinLaw", "held", "(II)Z"⟩ : MethodName)) hown (mvT hZ (hw _ (List.mem_of_getElem? (i := 5) rfl))) (mvT hZ (hw _ (List.mem_of_getElem? (i := 6) rfl))) (mvT hZ (hw _ (List.mem_of_getElem? (i := 3) rfl))) (mvT hZ (hw _ (List.mem_of_getElem? (i := 7) rfl))) (by decide) (backOf (W := 0) (rm2 l Z a0 hw [] p1 p2 h0 n0 Z0) hZ (hw _ (List.mem_of_getElem? (i := 7) rfl)) (hw _ (List.mem_of_getElem? (i := 3) rfl)) (by decide) (by decide)) (g := (mkF m 2 #[.val (.int p1), .val (.int p2), .val (.int p3)] [(.int p2), (.int p1)])) rfl (by rw [hml]; rfl) (argsL := [(.int p1), (.int p2)]) (rest := []) (lenOf pd_1_1 rfl) rfl (by show 2 * 0 + _ ≤ _; exact Nat.le_of_eq rfl) (hb hby d1_2) (fun _ _ => ⟨rfl, e0, (by decide : 0 + 0 ≤ _), (by decide : 0 + 0 ≤ _)⟩)
  dsimp only [Pt.U, Pt.locs, Pt.cells, Pt.slots] at X4 l4 y4 z4 st4 hQ4
  subst l4 y4 z4
  obtain ⟨rfl, N4q, e4⟩ := hQ4
  have N4 := Fr.app N0 N4q
  obtain ⟨fs, hr, hrun, hended, hW, hsame⟩ := X4.leave (v := some (.int (p3 &&& (2147483647 : Int32)))) (fun h => by rw [Bd.returns] at h; cases h)
  refine ⟨_, _, pre0 _ ?_, hrun, hended, _, _, rfl, ?_, ⟨_, rfl⟩, hW, hsame.mono (by decide) (by decide)⟩
  · show Steps p.tables e below (s₁.setTop (mkF m 0 #[.val (.int p1), .val (.int p2), .val (.int p3)] [])) _
    refine XS.iloadN X0.here hx rfl (hb hby d1_0) rfl ?_
    show Steps p.tables e below (s₁.setTop (mkF m 1 #[.val (.int p1), .val (.int p2), .val (.int p3)] [(.int p1)])) _
    refine XS.iloadN X0.here hx rfl (hb hby d1_1) rfl ?_
    show Steps p.tables e below (s₁.setTop (mkF m 2 #[.val (.int p1), .val (.int p2), .val (.int p3)] [(.int p2), (.int p1)])) _
    refine st4 _ ?_
    show Steps p.tables e below (T4.setTop (mkF m 5 #[.val (.int p1), .val (.int p2), .val (.int p3)] [(.int (own_held p1 p2))])) _
    refine XS.ifNo X4.here hx rfl (hb hby d1_5) rfl ((if0 _ _).trans (feq (hHH : ¬ ((own_held p1 p2) = (0 : Int32)))).1) ?_
    show Steps p.tables e below (T4.setTop (mkF m 8 #[.val (.int p1), .val (.int p2), .val (.int p3)] [])) _
    refine XS.iloadN X4.here hx rfl (hb hby d1_8) rfl ?_
    show Steps p.tables e below (T4.setTop (mkF m 9 #[.val (.int p1), .val (.int p2), .val (.int p3)] [(.int p3)])) _
    refine X4.ldcInt hx hown (mvT hZ (hw _ (List.mem_of_getElem? (i := 192) rfl))) (g := (mkF m 9 #[.val (.int p1), .val (.int p2), .val (.int p3)] [(.int p3)])) rfl (hb hby d1_9) _ ?_
    show Steps p.tables e below (T4.setTop (mkF m 11 #[.val (.int p1), .val (.int p2), .val (.int p3)] [(.int (2147483647 : Int32)), (.int p3)])) _
    refine XS.iand X4.here hx rfl (hb hby d1_11) rfl ?_
    show Steps p.tables e below (T4.setTop (mkF m 12 #[.val (.int p1), .val (.int p2), .val (.int p3)] [(.int (p3 &&& (2147483647 : Int32)))])) _
    refine XS.goto X4.here hx rfl (pc0 := 12) (pc' := 16) rfl (hb hby d1_12) (by decide) (by decide) ?_
    show Steps p.tables e below (T4.setTop (mkF m 16 #[.val (.int p1), .val (.int p2), .val (.int p3)] [(.int (p3 &&& (2147483647 : Int32)))])) _
    exact retI X4 hx Bd.returns (hb hby d1_16) hr      -- retI stands in the head ('lawwalk <made dir>' prints it)
  · show Qrm1 Z p1 p2 p3 h0 n0 _ T4.heap _
    exact ⟨by rw [own_entry, if_neg hHH], N4, e4⟩
theorem rm1 (l : Launch) (Z : State) (a0 : Array Value) (hw : ∀ d ∈ tables_1, d.before a0 Z = true) (ws : List Jvm.Cond) (p1 : Int32) (p2 : Int32) (p3 : Int32) (h0 : Heap) (n0 : Nat) (Z0 : n0 ≤ h0.size) :
    MetFree l (⟨"com/example/rematch/rematch/ArrivalIsFreePinLaw", "entry", "(III)I"⟩ : MethodName) (head1 (Jvm.Cond.code (⟨"com/example/rematch/rematch/ArrivalIsFreePinLaw", "entry", "(III)I"⟩ : MethodName) method_3_code 3 (some .int) :: ws) ({ frames := 1, cells := 0, slots := 0, locals := 13 } : Room)) (fun a U => a = #[(.int p1), (.int p2), (.int p3)] ∧ Z.Warmed39 U.vm ∧ U.heap = h0) (fun _ _ _ _ _ => True) (fun _ U o U' => ∃ v L, o = .returned v ∧ Qrm1 Z p1 p2 p3 h0 n0 v U'.heap L ∧ FrameEnd U o U' L ({ frames := 1, cells := 0, slots := 0, locals := 13 } : Room).cells ({ frames := 1, cells := 0, slots := 0, locals := 13 } : Room).slots) := by
  by_cases hcase : own_held p1 p2 = 0
  · exact rm1a l Z a0 hw ws p1 p2 p3 h0 n0 Z0 hcase
  · exact rm1b l Z a0 hw ws p1 p2 p3 h0 n0 Z0 hcase
theorem d5_0 : decode jdk_22_method_1_code 0 = .ok (.aload_n 0, 1) := by decide +kernel
theorem d5_1 : decode jdk_22_method_1_code 1 = .ok (.invokespecial 1, 3) := by decide +kernel
theorem d5_4 : decode jdk_22_method_1_code 4 = .ok (.return_, 1) := by decide +kernel
theorem pn_5 : plainName "java/util/AbstractCollection" = true := by first | (simp [plainName, overriddenIn]; done) | decide +kernel
theorem ef_5 (m : MethodId) (x0 : Addr) : entryFrame m #[(.ref x0)] 1 = mkF m 0 #[.val (.ref x0)] [] := by first | (simp [entryFrame, mkF, argsToLocals, Value.category]; done) | rfl
def Qrm5 (Z : State) (a1 : Addr) (h0 : Heap) (n0 : Nat) (v : Option Value) (h : Heap) (L : List Loc) : Prop := v = none ∧ Fr n0 L ∧ h = h0
set_option maxRecDepth 65536 in
set_option maxHeartbeats 40000000 in
theorem rm5 (l : Launch) (Z : State) (a0 : Array Value) (hw : ∀ d ∈ tables_1, d.before a0 Z = true) (ws : List Jvm.Cond) (a1 : Addr) (h0 : Heap) (n0 : Nat) (Z0 : n0 ≤ h0.size) :
    MetFree l (⟨"java/util/AbstractCollection", "<init>", "()V"⟩ : MethodName) (head1 (Jvm.Cond.code (⟨"java/util/AbstractCollection", "<init>", "()V"⟩ : MethodName) jdk_22_method_1_code 1 none :: ws) ({ frames := 1, cells := 0, slots := 0, locals := 12 } : Room)) (fun a U => a = #[(.ref a1)] ∧ Z.Warmed39 U.vm ∧ U.heap = h0) (fun _ _ _ _ _ => True) (fun _ U o U' => ∃ v L, o = .returned v ∧ Qrm5 Z a1 h0 n0 v U'.heap L ∧ FrameEnd U o U' L ({ frames := 1, cells := 0, slots := 0, locals := 12 } : Room).cells ({ frames := 1, cells := 0, slots := 0, locals := 12 } : Room).slots) := by
  refine MetFree.of_bodySF (plainFor_of_name pn_5) hisR ?_
  intro p e s m args below meth c s₁ Bd hml0 hP hK
  obtain ⟨rfl, hZ, hh⟩ := hP
  have hx := Bd.exec
  have hby := Bd.bytes
  have hml : c.maxLocals = 1 := hml0
  have hown : s.vm.findClass "java/util/AbstractCollection" = some m.cls := findClass_of_methodNamed Bd.named
  have hnm := (name_of_methodNamed Bd.named Bd.method).1
  have X0 : Stand p l e ({ frames := 1, cells := 0, slots := 0, locals := 12 } : Room) s m #[(.ref a1)] below meth c s₁ [] 0 0 := Stand.of_body Bd
  have e0 : s₁.heap = h0 := by rw [← hh, Bd.state]; rfl
  have N0 := Fr.nil n0
  have pre0 : ∀ t, Steps p.tables e below (s₁.setTop (mkF m 0 #[.val (.ref a1)] [])) t → Steps p.tables e below (s₁.setTop (entryFrame m #[(.ref a1)] 1)) t := fun t k => castTop (ef_5 m a1) k
  obtain ⟨T2, X2, e2, st2⟩ := initO X0 hx hZ hown (hw _ (List.mem_of_getElem? (i := 32) rfl)) (hw _ (List.mem_of_getElem? (i := 33) rfl)) (hw _ (List.mem_of_getElem? (i := 34) rfl)) e0 (g := (mkF m 1 #[.val (.ref a1)] [(.ref a1)])) rfl (by rw [hml]; rfl) rfl (hb hby d5_1) (by decide) (W := 0) (by show 2 * 0 + _ ≤ _; exact Nat.le_of_eq rfl) (by decide)
  obtain ⟨fs, hr, hrun, hended, hW, hsame⟩ := X2.leave (v := none) (fun _ => rfl)
  refine ⟨_, _, pre0 _ ?_, hrun, hended, _, _, rfl, ?_, ⟨_, rfl⟩, hW, hsame.mono (by decide) (by decide)⟩
  · show Steps p.tables e below (s₁.setTop (mkF m 0 #[.val (.ref a1)] [])) _
    refine XS.aloadN X0.here hx rfl (hb hby d5_0) rfl rfl ?_
    show Steps p.tables e below (s₁.setTop (mkF m 1 #[.val (.ref a1)] [(.ref a1)])) _
    refine st2 _ ?_
    show Steps p.tables e below (T2.setTop (mkF m 4 #[.val (.ref a1)] [])) _
    exact X2.returnOut hx Bd.returns (hb hby d5_4) hr
  · show Qrm5 Z a1 h0 n0 _ T2.heap _
    rw [e2]
    exact ⟨rfl, N0, rfl⟩
theorem d4_0 : decode jdk_39_method_1_code 0 = .ok (.aload_n 0, 1) := by decide +kernel
theorem d4_1 : decode jdk_39_method_1_code 1 = .ok (.invokespecial 1, 3) := by decide +kernel
theorem d4_4 : decode jdk_39_method_1_code 4 = .ok (.aload_n 0, 1) := by decide +kernel
theorem d4_5 : decode jdk_39_method_1_code 5 = .ok (.iconst 0, 1) := by decide +kernel
theorem d4_6 : decode jdk_39_method_1_code 6 = .ok (.putfield 7, 3) := by decide +kernel
theorem d4_9 : decode jdk_39_method_1_code 9 = .ok (.return_, 1) := by decide +kernel
theorem pn_4 : plainName "java/util/AbstractList" = true := by first | (simp [plainName, overriddenIn]; done) | decide +kernel
theorem pd_4_2 : parseMethodDescriptor "()V" = some ⟨[], none⟩ := by decide +kernel
theorem ef_4 (m : MethodId) (x0 : Addr) : entryFrame m #[(.ref x0)] 1 = mkF m 0 #[.val (.ref x0)] [] := by first | (simp [entryFrame, mkF, argsToLocals, Value.category]; done) | rfl
def Qrm4 (Z : State) (a1 : Addr) (u_modCount_a1 uE uS : Value) (h0 : Heap) (n0 : Nat) (v : Option Value) (h : Heap) (L : List Loc) : Prop := v = none ∧ Fr n0 L ∧ Keep h0 h [a1] ∧ Exa Z h a1 "java/util/ArrayList" ∧ Fld Z h a1 "java/util/ArrayList" "elementData" "[Ljava/lang/Object;" uE ∧ Fld Z h a1 "java/util/ArrayList" "size" "I" uS
set_option maxRecDepth 65536 in
set_option maxHeartbeats 40000000 in
theorem rm4 (l : Launch) (Z : State) (a0 : Array Value) (hw : ∀ d ∈ tables_1, d.before a0 Z = true) (ws : List Jvm.Cond) (a1 : Addr) (u_modCount_a1 uE uS : Value) (h0 : Heap) (n0 : Nat) (Z0 : n0 ≤ h0.size) (Fe : Fld Z h0 a1 "java/util/ArrayList" "elementData" "[Ljava/lang/Object;" uE) (Fs : Fld Z h0 a1 "java/util/ArrayList" "size" "I" uS) (E_a1 : Exa Z h0 a1 "java/util/ArrayList") (F_modCount_a1 : Fld Z h0 a1 "java/util/AbstractList" "modCount" "I" u_modCount_a1) (g_a1 : n0 ≤ a1) :
    MetFree l (⟨"java/util/AbstractList", "<init>", "()V"⟩ : MethodName) (head1 (Jvm.Cond.code (⟨"java/util/AbstractList", "<init>", "()V"⟩ : MethodName) jdk_39_method_1_code 1 none :: ws) ({ frames := 2, cells := 0, slots := 0, locals := 24 } : Room)) (fun a U => a = #[(.ref a1)] ∧ Z.Warmed39 U.vm ∧ U.heap = h0) (fun _ _ _ _ _ => True) (fun _ U o U' => ∃ v L, o = .returned v ∧ Qrm4 Z a1 u_modCount_a1 uE uS h0 n0 v U'.heap L ∧ FrameEnd U o U' L ({ frames := 2, cells := 0, slots := 0, locals := 24 } : Room).cells ({ frames := 2, cells := 0, slots := 0, locals := 24 } : Room).slots) := by
  refine MetFree.of_bodySF (plainFor_of_name pn_4) hisR ?_
  intro p e s m args below meth c s₁ Bd hml0 hP hK
  obtain ⟨rfl, hZ, hh⟩ := hP
  have hx := Bd.exec
  have hby := Bd.bytes
  have hml : c.maxLocals = 1 := hml0
  have hown : s.vm.findClass "java/util/AbstractList" = some m.cls := findClass_of_methodNamed Bd.named
  have hnm := (name_of_methodNamed Bd.named Bd.method).1
  have X0 : Stand p l e ({ frames := 2, cells := 0, slots := 0, locals := 24 } : Room) s m #[(.ref a1)] below meth c s₁ [] 0 0 := Stand.of_body Bd
  have e0 : s₁.heap = h0 := by rw [← hh, Bd.state]; rfl
  have N0 := Fr.nil n0
  have pre0 : ∀ t, Steps p.tables e below (s₁.setTop (mkF m 0 #[.val (.ref a1)] [])) t → Steps p.tables e below (s₁.setTop (entryFrame m #[(.ref a1)] 1)) t := fun t k => castTop (ef_4 m a1) k
  obtain ⟨_, _, ⟨T2, L2, k2, n2⟩, -, X2, ⟨Lc2, hQ2, l2, y2, z2⟩, st2⟩ := X0.specialBack hx (y := (⟨"java/util/AbstractCollection", "<init>", "()V"⟩ : MethodName)) rfl hown (mvT hZ (hw _ (List.mem_of_getElem? (i := 26) rfl))) (mvT hZ (hw _ (List.mem_of_getElem? (i := 27) rfl))) (mvT hZ (hw _ (List.mem_of_getElem? (i := 31) rfl))) (by decide) (backOf (W := 0) (rm5 l Z a0 hw [] a1 h0 n0 Z0) hZ (hw _ (List.mem_of_getElem? (i := 31) rfl)) (hw _ (List.mem_of_getElem? (i := 30) rfl)) (by decide) (by decide)) (g := (mkF m 1 #[.val (.ref a1)] [(.ref a1)])) rfl (by rw [hml]; rfl) (Steps.refl _) (a := a1) (argsL := []) (rest := []) (lenOf pd_4_2 rfl) rfl (by show 2 * 0 + _ ≤ _; exact Nat.le_of_eq rfl) (hb hby d4_1) (fun _ _ => ⟨rfl, e0, (by decide : 0 + 0 ≤ _), (by decide : 0 + 0 ≤ _)⟩)
  dsimp only [Pt.U, Pt.locs, Pt.cells, Pt.slots] at X2 l2 y2 z2 st2 hQ2
  subst l2 y2 z2
  obtain ⟨rfl, N2q, e2⟩ := hQ2
  have N2 := Fr.app N0 N2q
  obtain ⟨T3, h3, X3, e3, W3, st3⟩ := putF X2 hx hZ hown (host := "") (Or.inl (hw _ (List.mem_of_getElem? (i := 35) rfl))) Via.refl e2 F_modCount_a1 E_a1 (Or.inl (hw _ (List.mem_of_getElem? (i := 36) rfl))) (hw _ (List.mem_of_getElem? (i := 15) rfl)) (ty := .int) (by decide) rfl rfl (g := (mkF m 6 #[.val (.ref a1)] [(.int (0 : Int32)), (.ref a1)])) rfl rfl (hb hby d4_6)
  have Fw3 := F_modCount_a1.same W3      -- the field now holds (.int (0 : Int32))
  have K3 : Keep h0 h3 [a1] := (Keep.refl h0 _).wr W3 (Or.inl (List.mem_of_getElem? (i := 0) rfl))
  have N3 := Fr.snoc X3 N2 g_a1
  obtain ⟨fs, hr, hrun, hended, hW, hsame⟩ := X3.leave (v := none) (fun _ => rfl)
  refine ⟨_, _, pre0 _ ?_, hrun, hended, _, _, rfl, ?_, ⟨_, rfl⟩, hW, hsame.mono (by decide) (by decide)⟩
  · show Steps p.tables e below (s₁.setTop (mkF m 0 #[.val (.ref a1)] [])) _
    refine XS.aloadN X0.here hx rfl (hb hby d4_0) rfl rfl ?_
    show Steps p.tables e below (s₁.setTop (mkF m 1 #[.val (.ref a1)] [(.ref a1)])) _
    refine st2.trans ?_
    show Steps p.tables e below (T2.setTop (mkF m 4 #[.val (.ref a1)] [])) _
    refine XS.aloadN X2.here hx rfl (hb hby d4_4) rfl rfl ?_
    show Steps p.tables e below (T2.setTop (mkF m 5 #[.val (.ref a1)] [(.ref a1)])) _
    refine XS.iconst X2.here hx rfl (hb hby d4_5) ?_
    show Steps p.tables e below (T2.setTop (mkF m 6 #[.val (.ref a1)] [(.int (0 : Int32)), (.ref a1)])) _
    refine st3 _ ?_
    show Steps p.tables e below (T3.setTop (mkF m 9 #[.val (.ref a1)] [])) _
    exact X3.returnOut hx Bd.returns (hb hby d4_9) hr
  · show Qrm4 Z a1 u_modCount_a1 uE uS h0 n0 _ T3.heap _
    rw [e3]
    exact ⟨rfl, N3, K3, E_a1.wr W3, Fe.other W3 (Or.inr (slot_ne (Or.inl (hw _ (List.mem_of_getElem? (i := 39) rfl))) (Or.inl (hw _ (List.mem_of_getElem? (i := 36) rfl))) (by decide) (t := (.array (.object "java/lang/Object"))) (t' := .int) (by decide) (by decide))), Fs.other W3 (Or.inr (slot_ne (Or.inl (hw _ (List.mem_of_getElem? (i := 61) rfl))) (Or.inl (hw _ (List.mem_of_getElem? (i := 36) rfl))) (by decide) (t := .int) (t' := .int) (by decide) (by decide)))⟩
theorem d3_0 : decode jdk_38_method_2_code 0 = .ok (.aload_n 0, 1) := by decide +kernel
theorem d3_1 : decode jdk_38_method_2_code 1 = .ok (.invokespecial 1, 3) := by decide +kernel
theorem d3_4 : decode jdk_38_method_2_code 4 = .ok (.aload_n 0, 1) := by decide +kernel
theorem d3_5 : decode jdk_38_method_2_code 5 = .ok (.getstatic 39, 3) := by decide +kernel
theorem d3_8 : decode jdk_38_method_2_code 8 = .ok (.putfield 9, 3) := by decide +kernel
theorem d3_11 : decode jdk_38_method_2_code 11 = .ok (.return_, 1) := by decide +kernel
theorem pn_3 : plainName "java/util/ArrayList" = true := by first | (simp [plainName, overriddenIn]; done) | decide +kernel
theorem pd_3_2 : parseMethodDescriptor "()V" = some ⟨[], none⟩ := by decide +kernel
theorem ef_3 (m : MethodId) (x0 : Addr) : entryFrame m #[(.ref x0)] 1 = mkF m 0 #[.val (.ref x0)] [] := by first | (simp [entryFrame, mkF, argsToLocals, Value.category]; done) | rfl
def Qrm3 (Z : State) (a1 : Addr) (w3 : Addr) (u_elementData_a1 : Value) (h0 : Heap) (n0 : Nat) (v : Option Value) (h : Heap) (L : List Loc) : Prop := v = none ∧ Fr n0 L ∧ Keep h0 h [a1] ∧ Exa Z h a1 "java/util/ArrayList" ∧ Fld Z h a1 "java/util/ArrayList" "size" "I" (.int (0 : Int32))
set_option maxRecDepth 65536 in
set_option maxHeartbeats 40000000 in
theorem rm3 (l : Launch) (Z : State) (a0 : Array Value) (hw : ∀ d ∈ tables_1, d.before a0 Z = true) (ws : List Jvm.Cond) (a1 : Addr) (w3 : Addr) (u_elementData_a1 : Value) (h0 : Heap) (n0 : Nat) (Z0 : n0 ≤ h0.size) (u_modCount_a1 : Value) (Fm : Fld Z h0 a1 "java/util/AbstractList" "modCount" "I" u_modCount_a1) (Fs : Fld Z h0 a1 "java/util/ArrayList" "size" "I" (.int (0 : Int32))) (S_DEFAULTCAPACITY_EMPTY_ELEMENTDATA : Sta Z h0 "java/util/ArrayList" "DEFAULTCAPACITY_EMPTY_ELEMENTDATA" "[Ljava/lang/Object;" (.ref w3)) (E_a1 : Exa Z h0 a1 "java/util/ArrayList") (F_elementData_a1 : Fld Z h0 a1 "java/util/ArrayList" "elementData" "[Ljava/lang/Object;" u_elementData_a1) (g_a1 : n0 ≤ a1) :
    MetFree l (⟨"java/util/ArrayList", "<init>", "()V"⟩ : MethodName) (head1 (Jvm.Cond.code (⟨"java/util/ArrayList", "<init>", "()V"⟩ : MethodName) jdk_38_method_2_code 1 none :: ws) ({ frames := 3, cells := 0, slots := 0, locals := 36 } : Room)) (fun a U => a = #[(.ref a1)] ∧ Z.Warmed39 U.vm ∧ U.heap = h0) (fun _ _ _ _ _ => True) (fun _ U o U' => ∃ v L, o = .returned v ∧ Qrm3 Z a1 w3 u_elementData_a1 h0 n0 v U'.heap L ∧ FrameEnd U o U' L ({ frames := 3, cells := 0, slots := 0, locals := 36 } : Room).cells ({ frames := 3, cells := 0, slots := 0, locals := 36 } : Room).slots) := by
  refine MetFree.of_bodySF (plainFor_of_name pn_3) hisR ?_
  intro p e s m args below meth c s₁ Bd hml0 hP hK
  obtain ⟨rfl, hZ, hh⟩ := hP
  have hx := Bd.exec
  have hby := Bd.bytes
  have hml : c.maxLocals = 1 := hml0
  have hown : s.vm.findClass "java/util/ArrayList" = some m.cls := findClass_of_methodNamed Bd.named
  have hnm := (name_of_methodNamed Bd.named Bd.method).1
  have X0 : Stand p l e ({ frames := 3, cells := 0, slots := 0, locals := 36 } : Room) s m #[(.ref a1)] below meth c s₁ [] 0 0 := Stand.of_body Bd
  have e0 : s₁.heap = h0 := by rw [← hh, Bd.state]; rfl
  have N0 := Fr.nil n0
  have pre0 : ∀ t, Steps p.tables e below (s₁.setTop (mkF m 0 #[.val (.ref a1)] [])) t → Steps p.tables e below (s₁.setTop (entryFrame m #[(.ref a1)] 1)) t := fun t k => castTop (ef_3 m a1) k
  obtain ⟨_, _, ⟨T2, L2, k2, n2⟩, -, X2, ⟨Lc2, hQ2, l2, y2, z2⟩, st2⟩ := X0.specialBack hx (y := (⟨"java/util/AbstractList", "<init>", "()V"⟩ : MethodName)) rfl hown (mvT hZ (hw _ (List.mem_of_getElem? (i := 20) rfl))) (mvT hZ (hw _ (List.mem_of_getElem? (i := 21) rfl))) (mvT hZ (hw _ (List.mem_of_getElem? (i := 25) rfl))) (by decide) (backOf (W := 0) (rm4 l Z a0 hw [] a1 u_modCount_a1 u_elementData_a1 (.int (0 : Int32)) h0 n0 Z0 F_elementData_a1 Fs E_a1 Fm g_a1) hZ (hw _ (List.mem_of_getElem? (i := 25) rfl)) (hw _ (List.mem_of_getElem? (i := 24) rfl)) (by decide) (by decide)) (g := (mkF m 1 #[.val (.ref a1)] [(.ref a1)])) rfl (by rw [hml]; rfl) (Steps.refl _) (a := a1) (argsL := []) (rest := []) (lenOf pd_3_2 rfl) rfl (by show 2 * 0 + _ ≤ _; exact Nat.le_of_eq rfl) (hb hby d3_1) (fun _ _ => ⟨rfl, e0, (by decide : 0 + 0 ≤ _), (by decide : 0 + 0 ≤ _)⟩)
  dsimp only [Pt.U, Pt.locs, Pt.cells, Pt.slots] at X2 l2 y2 z2 st2 hQ2
  subst l2 y2 z2
  obtain ⟨rfl, N2q, K2, E2, Fe2, Fs2⟩ := hQ2
  have S2 := own_sta S_DEFAULTCAPACITY_EMPTY_ELEMENTDATA K2 (allS (own_plain E_a1) all0)
  have N2 := Fr.app N0 N2q
  obtain ⟨T4, X4, e4, st4⟩ := getS2 X2 hx hZ hown (host := "") (Or.inl (hw _ (List.mem_of_getElem? (i := 37) rfl))) Via.refl rfl S2 (g := (mkF m 5 #[.val (.ref a1)] [(.ref a1)])) rfl (hb hby d3_5)
  obtain ⟨T5, h5, X5, e5, W5, st5⟩ := putF X4 hx hZ hown (host := "") (Or.inl (hw _ (List.mem_of_getElem? (i := 38) rfl))) Via.refl e4 Fe2 E2 (Or.inl (hw _ (List.mem_of_getElem? (i := 39) rfl))) (hw _ (List.mem_of_getElem? (i := 15) rfl)) (ty := (.array (.object "java/lang/Object"))) (by decide) rfl rfl (g := (mkF m 8 #[.val (.ref a1)] [(.ref w3), (.ref a1)])) rfl rfl (hb hby d3_8)
  have Fw5 := Fe2.same W5      -- the field now holds (.ref w3)
  have K5 : Keep h0 h5 [a1] := K2.wr W5 (Or.inl (List.mem_of_getElem? (i := 0) rfl))
  have N5 := Fr.snoc X5 N2 g_a1
  obtain ⟨fs, hr, hrun, hended, hW, hsame⟩ := X5.leave (v := none) (fun _ => rfl)
  refine ⟨_, _, pre0 _ ?_, hrun, hended, _, _, rfl, ?_, ⟨_, rfl⟩, hW, hsame.mono (by decide) (by decide)⟩
  · show Steps p.tables e below (s₁.setTop (mkF m 0 #[.val (.ref a1)] [])) _
    refine XS.aloadN X0.here hx rfl (hb hby d3_0) rfl rfl ?_
    show Steps p.tables e below (s₁.setTop (mkF m 1 #[.val (.ref a1)] [(.ref a1)])) _
    refine st2.trans ?_
    show Steps p.tables e below (T2.setTop (mkF m 4 #[.val (.ref a1)] [])) _
    refine XS.aloadN X2.here hx rfl (hb hby d3_4) rfl rfl ?_
    show Steps p.tables e below (T2.setTop (mkF m 5 #[.val (.ref a1)] [(.ref a1)])) _
    refine st4 _ ?_
    show Steps p.tables e below (T4.setTop (mkF m 8 #[.val (.ref a1)] [(.ref w3), (.ref a1)])) _
    refine st5 _ ?_
    show Steps p.tables e below (T5.setTop (mkF m 11 #[.val (.ref a1)] [])) _
    exact X5.returnOut hx Bd.returns (hb hby d3_11) hr
  · show Qrm3 Z a1 w3 u_elementData_a1 h0 n0 _ T5.heap _
    rw [e5]
    exact ⟨rfl, N5, K5, E2.wr W5, Fs2.other W5 (Or.inr (slot_ne (Or.inl (hw _ (List.mem_of_getElem? (i := 61) rfl))) (Or.inl (hw _ (List.mem_of_getElem? (i := 39) rfl))) (by decide) (t := .int) (t' := (.array (.object "java/lang/Object"))) (by decide) (by decide)))⟩
theorem d9_0 : decode jdk_38_method_8_code 0 = .ok (.aload_n 0, 1) := by decide +kernel
theorem d9_1 : decode jdk_38_method_8_code 1 = .ok (.getfield 48, 3) := by decide +kernel
theorem d9_4 : decode jdk_38_method_8_code 4 = .ok (.ireturn, 1) := by decide +kernel
theorem pn_9 : plainName "java/util/ArrayList" = true := by first | (simp [plainName, overriddenIn]; done) | decide +kernel
theorem ef_9 (m : MethodId) (x0 : Addr) : entryFrame m #[(.ref x0)] 1 = mkF m 0 #[.val (.ref x0)] [] := by first | (simp [entryFrame, mkF, argsToLocals, Value.category]; done) | rfl
def Qrm9 (Z : State) (a1 : Addr) (w2 : Int32) (h0 : Heap) (n0 : Nat) (v : Option Value) (h : Heap) (L : List Loc) : Prop := v = some (.int w2) ∧ Fr n0 L ∧ h = h0
set_option maxRecDepth 65536 in
set_option maxHeartbeats 40000000 in
theorem rm9 (l : Launch) (Z : State) (a0 : Array Value) (hw : ∀ d ∈ tables_1, d.before a0 Z = true) (ws : List Jvm.Cond) (a1 : Addr) (w2 : Int32) (h0 : Heap) (n0 : Nat) (Z0 : n0 ≤ h0.size) (F_size_a1 : Fld Z h0 a1 "java/util/ArrayList" "size" "I" (.int w2)) :
    MetFree l (⟨"java/util/ArrayList", "size", "()I"⟩ : MethodName) (head1 (Jvm.Cond.code (⟨"java/util/ArrayList", "size", "()I"⟩ : MethodName) jdk_38_method_8_code 1 (some .int) :: ws) ({ frames := 0, cells := 0, slots := 0, locals := 0 } : Room)) (fun a U => a = #[(.ref a1)] ∧ Z.Warmed39 U.vm ∧ U.heap = h0) (fun _ _ _ _ _ => True) (fun _ U o U' => ∃ v L, o = .returned v ∧ Qrm9 Z a1 w2 h0 n0 v U'.heap L ∧ FrameEnd U o U' L ({ frames := 0, cells := 0, slots := 0, locals := 0 } : Room).cells ({ frames := 0, cells := 0, slots := 0, locals := 0 } : Room).slots) := by
  refine MetFree.of_bodySF (plainFor_of_name pn_9) hisR ?_
  intro p e s m args below meth c s₁ Bd hml0 hP hK
  obtain ⟨rfl, hZ, hh⟩ := hP
  have hx := Bd.exec
  have hby := Bd.bytes
  have hml : c.maxLocals = 1 := hml0
  have hown : s.vm.findClass "java/util/ArrayList" = some m.cls := findClass_of_methodNamed Bd.named
  have hnm := (name_of_methodNamed Bd.named Bd.method).1
  have X0 : Stand p l e ({ frames := 0, cells := 0, slots := 0, locals := 0 } : Room) s m #[(.ref a1)] below meth c s₁ [] 0 0 := Stand.of_body Bd
  have e0 : s₁.heap = h0 := by rw [← hh, Bd.state]; rfl
  have N0 := Fr.nil n0
  have pre0 : ∀ t, Steps p.tables e below (s₁.setTop (mkF m 0 #[.val (.ref a1)] [])) t → Steps p.tables e below (s₁.setTop (entryFrame m #[(.ref a1)] 1)) t := fun t k => castTop (ef_9 m a1) k
  obtain ⟨T3, X3, e3, st3⟩ := getF X0 hx hZ hown (host := "") (Or.inl (hw _ (List.mem_of_getElem? (i := 60) rfl))) Via.refl e0 F_size_a1 (g := (mkF m 1 #[.val (.ref a1)] [(.ref a1)])) rfl rfl (hb hby d9_1)
  obtain ⟨fs, hr, hrun, hended, hW, hsame⟩ := X3.leave (v := some (.int w2)) (fun h => by rw [Bd.returns] at h; cases h)
  refine ⟨_, _, pre0 _ ?_, hrun, hended, _, _, rfl, ?_, ⟨_, rfl⟩, hW, hsame.mono (by decide) (by decide)⟩
  · show Steps p.tables e below (s₁.setTop (mkF m 0 #[.val (.ref a1)] [])) _
    refine XS.aloadN X0.here hx rfl (hb hby d9_0) rfl rfl ?_
    show Steps p.tables e below (s₁.setTop (mkF m 1 #[.val (.ref a1)] [(.ref a1)])) _
    refine st3 _ ?_
    show Steps p.tables e below (T3.setTop (mkF m 4 #[.val (.ref a1)] [(.int w2)])) _
    exact retI X3 hx Bd.returns (hb hby d9_4) hr      -- retI stands in the head ('lawwalk <made dir>' prints it)
  · show Qrm9 Z a1 w2 h0 n0 _ T3.heap _
    rw [e3]
    exact ⟨rfl, N0, rfl⟩
theorem d12_0 : decode prog_11_method_6_code 0 = .ok (.aload_n 0, 1) := by decide +kernel
theorem d12_1 : decode prog_11_method_6_code 1 = .ok (.getfield 36, 3) := by decide +kernel
theorem d12_4 : decode prog_11_method_6_code 4 = .ok (.arraylength, 1) := by decide +kernel
theorem d12_5 : decode prog_11_method_6_code 5 = .ok (.ireturn, 1) := by decide +kernel
theorem pn_12 : plainName "com/example/rematch/rematch/Metric" = true := by first | (simp [plainName, overriddenIn]; done) | decide +kernel
theorem ef_12 (m : MethodId) (x0 : Addr) : entryFrame m #[(.ref x0)] 1 = mkF m 0 #[.val (.ref x0)] [] := by first | (simp [entryFrame, mkF, argsToLocals, Value.category]; done) | rfl
def Qrm12 (Z : State) (a1 : Addr) (w2 : Addr) (cl_w2 : Cell) (z_w2 : Int32) (h0 : Heap) (n0 : Nat) (v : Option Value) (h : Heap) (L : List Loc) : Prop := v = some (.int z_w2) ∧ Fr n0 L ∧ h = h0
set_option maxRecDepth 65536 in
set_option maxHeartbeats 40000000 in
theorem rm12 (l : Launch) (Z : State) (a0 : Array Value) (hw : ∀ d ∈ tables_1, d.before a0 Z = true) (ws : List Jvm.Cond) (a1 : Addr) (w2 : Addr) (cl_w2 : Cell) (z_w2 : Int32) (h0 : Heap) (n0 : Nat) (Z0 : n0 ≤ h0.size) (F_axes_a1 : Fld Z h0 a1 "com/example/rematch/rematch/Metric" "axes" "[Lcom/example/rematch/rematch/Metric$Axis;" (.ref w2)) (Ar_w2 : Arr Z h0 w2 cl_w2 (.object "com/example/rematch/rematch/Metric$Axis")) (S_w2 : cl_w2.slots.size = z_w2.toNatClampNeg) (N_w2 : ¬ z_w2 < 0) :
    MetFree l (⟨"com/example/rematch/rematch/Metric", "dimensions", "()I"⟩ : MethodName) (head1 (Jvm.Cond.code (⟨"com/example/rematch/rematch/Metric", "dimensions", "()I"⟩ : MethodName) prog_11_method_6_code 1 (some .int) :: ws) ({ frames := 0, cells := 0, slots := 0, locals := 0 } : Room)) (fun a U => a = #[(.ref a1)] ∧ Z.Warmed39 U.vm ∧ U.heap = h0) (fun _ _ _ _ _ => True) (fun _ U o U' => ∃ v L, o = .returned v ∧ Qrm12 Z a1 w2 cl_w2 z_w2 h0 n0 v U'.heap L ∧ FrameEnd U o U' L ({ frames := 0, cells := 0, slots := 0, locals := 0 } : Room).cells ({ frames := 0, cells := 0, slots := 0, locals := 0 } : Room).slots) := by
  refine MetFree.of_bodySF (plainFor_of_name pn_12) hisR ?_
  intro p e s m args below meth c s₁ Bd hml0 hP hK
  obtain ⟨rfl, hZ, hh⟩ := hP
  have hx := Bd.exec
  have hby := Bd.bytes
  have hml : c.maxLocals = 1 := hml0
  have hown : s.vm.findClass "com/example/rematch/rematch/Metric" = some m.cls := findClass_of_methodNamed Bd.named
  have hnm := (name_of_methodNamed Bd.named Bd.method).1
  have X0 : Stand p l e ({ frames := 0, cells := 0, slots := 0, locals := 0 } : Room) s m #[(.ref a1)] below meth c s₁ [] 0 0 := Stand.of_body Bd
  have e0 : s₁.heap = h0 := by rw [← hh, Bd.state]; rfl
  have N0 := Fr.nil n0
  have pre0 : ∀ t, Steps p.tables e below (s₁.setTop (mkF m 0 #[.val (.ref a1)] [])) t → Steps p.tables e below (s₁.setTop (entryFrame m #[(.ref a1)] 1)) t := fun t k => castTop (ef_12 m a1) k
  obtain ⟨T3, X3, e3, st3⟩ := getF X0 hx hZ hown (host := "") (Or.inl (hw _ (List.mem_of_getElem? (i := 83) rfl))) Via.refl e0 F_axes_a1 (g := (mkF m 1 #[.val (.ref a1)] [(.ref a1)])) rfl rfl (hb hby d12_1)
  obtain ⟨fs, hr, hrun, hended, hW, hsame⟩ := X3.leave (v := some (.int z_w2)) (fun h => by rw [Bd.returns] at h; cases h)
  refine ⟨_, _, pre0 _ ?_, hrun, hended, _, _, rfl, ?_, ⟨_, rfl⟩, hW, hsame.mono (by decide) (by decide)⟩
  · show Steps p.tables e below (s₁.setTop (mkF m 0 #[.val (.ref a1)] [])) _
    refine XS.aloadN X0.here hx rfl (hb hby d12_0) rfl rfl ?_
    show Steps p.tables e below (s₁.setTop (mkF m 1 #[.val (.ref a1)] [(.ref a1)])) _
    refine st3 _ ?_
    show Steps p.tables e below (T3.setTop (mkF m 4 #[.val (.ref a1)] [(.ref w2)])) _
    refine X3.arraylength hx (by rw [e3]; exact Ar_w2.1) (State.isArrayOf_alike hZ.alike Ar_w2.2.1) (g := (mkF m 4 #[.val (.ref a1)] [(.ref w2)])) rfl rfl (hb hby d12_4) _ ?_
    rw [len_of S_w2 N_w2]
    show Steps p.tables e below (T3.setTop (mkF m 5 #[.val (.ref a1)] [(.int z_w2)])) _
    exact retI X3 hx Bd.returns (hb hby d12_5) hr      -- retI stands in the head ('lawwalk <made dir>' prints it)
  · show Qrm12 Z a1 w2 cl_w2 z_w2 h0 n0 _ T3.heap _
    rw [e3]
    exact ⟨rfl, N0, rfl⟩
theorem d13_0 : decode jdk_65_method_113_code 0 = .ok (.iconst 0, 1) := by decide +kernel
theorem d13_1 : decode jdk_65_method_113_code 1 = .ok (.istore_n 3, 1) := by decide +kernel
theorem d13_2 : decode jdk_65_method_113_code 2 = .ok (.aload_n 0, 1) := by decide +kernel
theorem d13_3 : decode jdk_65_method_113_code 3 = .ok (.arraylength, 1) := by decide +kernel
theorem d13_4 : decode jdk_65_method_113_code 4 = .ok (.istore 4, 2) := by decide +kernel
theorem d13_6 : decode jdk_65_method_113_code 6 = .ok (.iload_n 3, 1) := by decide +kernel
theorem d13_7 : decode jdk_65_method_113_code 7 = .ok (.iload 4, 2) := by decide +kernel
theorem d13_9 : decode jdk_65_method_113_code 9 = .ok (.if_icmp .ge 13, 3) := by decide +kernel
theorem d13_12 : decode jdk_65_method_113_code 12 = .ok (.aload_n 0, 1) := by decide +kernel
theorem d13_13 : decode jdk_65_method_113_code 13 = .ok (.iload_n 3, 1) := by decide +kernel
theorem d13_14 : decode jdk_65_method_113_code 14 = .ok (.dload_n 1, 1) := by decide +kernel
theorem d13_15 : decode jdk_65_method_113_code 15 = .ok (.dastore, 1) := by decide +kernel
theorem d13_16 : decode jdk_65_method_113_code 16 = .ok (.iinc 3 1, 3) := by decide +kernel
theorem d13_19 : decode jdk_65_method_113_code 19 = .ok (.goto (-13), 3) := by decide +kernel
theorem d13_22 : decode jdk_65_method_113_code 22 = .ok (.return_, 1) := by decide +kernel
theorem pn_13 : plainName "java/util/Arrays" = true := by first | (simp [plainName, overriddenIn]; done) | decide +kernel
theorem ef_13 (m : MethodId) (x0 : Addr) (x1 : UInt64) : entryFrame m #[(.ref x0), (.double x1)] 5 = mkF m 0 #[.val (.ref x0), .val (.double x1), .second, .unset, .unset] [] := by first | (simp [entryFrame, mkF, argsToLocals, Value.category]; done) | rfl
def Qrm13 (Z : State) (a1 : Addr) (f2 : UInt64) (cl_a1 : Cell) (z_a1 : Int32) (h0 : Heap) (n0 : Nat) (v : Option Value) (h : Heap) (L : List Loc) : Prop := v = none ∧ Fr n0 L ∧ Keep h0 h [a1]
set_option maxRecDepth 65536 in
set_option maxHeartbeats 40000000 in
theorem rm13 (l : Launch) (Z : State) (a0 : Array Value) (hw : ∀ d ∈ tables_1, d.before a0 Z = true) (ws : List Jvm.Cond) (a1 : Addr) (f2 : UInt64) (cl_a1 : Cell) (z_a1 : Int32) (h0 : Heap) (n0 : Nat) (Z0 : n0 ≤ h0.size) (Ar_a1 : Arr Z h0 a1 cl_a1 .double) (S_a1 : cl_a1.slots.size = z_a1.toNatClampNeg) (N_a1 : ¬ z_a1 < 0) (hin15 : ¬ ((0 : Int32) < 0 ∨ cl_a1.slots.size ≤ ((0 : Int32)).toNatClampNeg)) (g_a1 : n0 ≤ a1) (hc9a : (0 : Int32) < z_a1) (hc9 : ¬ (((0 : Int32) + (1 : Int32)) < z_a1)) :
    MetFree l (⟨"java/util/Arrays", "fill", "([DD)V"⟩ : MethodName) (head1 (Jvm.Cond.code (⟨"java/util/Arrays", "fill", "([DD)V"⟩ : MethodName) jdk_65_method_113_code 5 none :: ws) ({ frames := 0, cells := 0, slots := 0, locals := 0 } : Room)) (fun a U => a = #[(.ref a1), (.double f2)] ∧ Z.Warmed39 U.vm ∧ U.heap = h0) (fun _ _ _ _ _ => True) (fun _ U o U' => ∃ v L, o = .returned v ∧ Qrm13 Z a1 f2 cl_a1 z_a1 h0 n0 v U'.heap L ∧ FrameEnd U o U' L ({ frames := 0, cells := 0, slots := 0, locals := 0 } : Room).cells ({ frames := 0, cells := 0, slots := 0, locals := 0 } : Room).slots) := by
  refine MetFree.of_bodySF (plainFor_of_name pn_13) hisR ?_
  intro p e s m args below meth c s₁ Bd hml0 hP hK
  obtain ⟨rfl, hZ, hh⟩ := hP
  have hx := Bd.exec
  have hby := Bd.bytes
  have hml : c.maxLocals = 5 := hml0
  have hown : s.vm.findClass "java/util/Arrays" = some m.cls := findClass_of_methodNamed Bd.named
  have hnm := (name_of_methodNamed Bd.named Bd.method).1
  have X0 : Stand p l e ({ frames := 0, cells := 0, slots := 0, locals := 0 } : Room) s m #[(.ref a1), (.double f2)] below meth c s₁ [] 0 0 := Stand.of_body Bd
  have e0 : s₁.heap = h0 := by rw [← hh, Bd.state]; rfl
  have N0 := Fr.nil n0
  have pre0 : ∀ t, Steps p.tables e below (s₁.setTop (mkF m 0 #[.val (.ref a1), .val (.double f2), .second, .unset, .unset] [])) t → Steps p.tables e below (s₁.setTop (entryFrame m #[(.ref a1), (.double f2)] 5)) t := fun t k => castTop (ef_13 m a1 f2) k
  obtain ⟨T3, h3, X3, e3, W3, st3⟩ := stD X0 hx hZ e0 Ar_a1 (j := (0 : Int32)) hin15 (g := (mkF m 15 #[.val (.ref a1), .val (.double f2), .second, .val (.int (0 : Int32)), .val (.int z_a1)] [(.double f2), (.int (0 : Int32)), (.ref a1)])) rfl rfl (hb hby d13_15)
  have N3 := Fr.snoc X3 N0 g_a1
  have K3 : Keep h0 h3 [a1] := (Keep.refl h0 [a1]).wr W3 (Or.inl (List.mem_of_getElem? (i := 0) rfl))
  obtain ⟨fs, hr, hrun, hended, hW, hsame⟩ := X3.leave (v := none) (fun _ => rfl)
  refine ⟨_, _, pre0 _ ?_, hrun, hended, _, _, rfl, ?_, ⟨_, rfl⟩, hW, hsame.mono (by decide) (by decide)⟩
  · show Steps p.tables e below (s₁.setTop (mkF m 0 #[.val (.ref a1), .val (.double f2), .second, .unset, .unset] [])) _
    refine XS.iconst X0.here hx rfl (hb hby d13_0) ?_
    show Steps p.tables e below (s₁.setTop (mkF m 1 #[.val (.ref a1), .val (.double f2), .second, .unset, .unset] [(.int (0 : Int32))])) _
    refine XS.istoreN X0.here hx rfl (hb hby d13_1) rfl (l' := #[.val (.ref a1), .val (.double f2), .second, .val (.int (0 : Int32)), .unset]) rfl ?_
    show Steps p.tables e below (s₁.setTop (mkF m 2 #[.val (.ref a1), .val (.double f2), .second, .val (.int (0 : Int32)), .unset] [])) _
    refine XS.aloadN X0.here hx rfl (hb hby d13_2) rfl rfl ?_
    show Steps p.tables e below (s₁.setTop (mkF m 3 #[.val (.ref a1), .val (.double f2), .second, .val (.int (0 : Int32)), .unset] [(.ref a1)])) _
    refine X0.arraylength hx (by rw [e0]; exact Ar_a1.1) (State.isArrayOf_alike hZ.alike Ar_a1.2.1) (g := (mkF m 3 #[.val (.ref a1), .val (.double f2), .second, .val (.int (0 : Int32)), .unset] [(.ref a1)])) rfl rfl (hb hby d13_3) _ ?_
    rw [len_of S_a1 N_a1]
    show Steps p.tables e below (s₁.setTop (mkF m 4 #[.val (.ref a1), .val (.double f2), .second, .val (.int (0 : Int32)), .unset] [(.int z_a1)])) _
    refine XS.istore X0.here hx rfl (hb hby d13_4) rfl (l' := #[.val (.ref a1), .val (.double f2), .second, .val (.int (0 : Int32)), .val (.int z_a1)]) rfl ?_
    show Steps p.tables e below (s₁.setTop (mkF m 6 #[.val (.ref a1), .val (.double f2), .second, .val (.int (0 : Int32)), .val (.int z_a1)] [])) _
    refine XS.iloadN X0.here hx rfl (hb hby d13_6) rfl ?_
    show Steps p.tables e below (s₁.setTop (mkF m 7 #[.val (.ref a1), .val (.double f2), .second, .val (.int (0 : Int32)), .val (.int z_a1)] [(.int (0 : Int32))])) _
    refine XS.iload X0.here hx rfl (hb hby d13_7) rfl ?_
    show Steps p.tables e below (s₁.setTop (mkF m 9 #[.val (.ref a1), .val (.double f2), .second, .val (.int (0 : Int32)), .val (.int z_a1)] [(.int z_a1), (.int (0 : Int32))])) _
    refine XS.icmpNo X0.here hx rfl (hb hby d13_9) rfl (tlt hc9a).2.1 ?_
    show Steps p.tables e below (s₁.setTop (mkF m 12 #[.val (.ref a1), .val (.double f2), .second, .val (.int (0 : Int32)), .val (.int z_a1)] [])) _
    refine XS.aloadN X0.here hx rfl (hb hby d13_12) rfl rfl ?_
    show Steps p.tables e below (s₁.setTop (mkF m 13 #[.val (.ref a1), .val (.double f2), .second, .val (.int (0 : Int32)), .val (.int z_a1)] [(.ref a1)])) _
    refine XS.iloadN X0.here hx rfl (hb hby d13_13) rfl ?_
    show Steps p.tables e below (s₁.setTop (mkF m 14 #[.val (.ref a1), .val (.double f2), .second, .val (.int (0 : Int32)), .val (.int z_a1)] [(.int (0 : Int32)), (.ref a1)])) _
    refine XS.dloadN X0.here hx rfl (hb hby d13_14) rfl ?_
    show Steps p.tables e below (s₁.setTop (mkF m 15 #[.val (.ref a1), .val (.double f2), .second, .val (.int (0 : Int32)), .val (.int z_a1)] [(.double f2), (.int (0 : Int32)), (.ref a1)])) _
    refine st3 _ ?_
    show Steps p.tables e below (T3.setTop (mkF m 16 #[.val (.ref a1), .val (.double f2), .second, .val (.int (0 : Int32)), .val (.int z_a1)] [])) _
    refine XS.iinc X3.here hx rfl (hb hby d13_16) rfl (l' := #[.val (.ref a1), .val (.double f2), .second, .val (.int ((0 : Int32) + (1 : Int32))), .val (.int z_a1)]) rfl ?_
    show Steps p.tables e below (T3.setTop (mkF m 19 #[.val (.ref a1), .val (.double f2), .second, .val (.int ((0 : Int32) + (1 : Int32))), .val (.int z_a1)] [])) _
    refine XS.goto X3.here hx rfl (pc0 := 19) (pc' := 6) rfl (hb hby d13_19) (by decide) (by decide) ?_
    show Steps p.tables e below (T3.setTop (mkF m 6 #[.val (.ref a1), .val (.double f2), .second, .val (.int ((0 : Int32) + (1 : Int32))), .val (.int z_a1)] [])) _
    refine XS.iloadN X3.here hx rfl (hb hby d13_6) rfl ?_
    show Steps p.tables e below (T3.setTop (mkF m 7 #[.val (.ref a1), .val (.double f2), .second, .val (.int ((0 : Int32) + (1 : Int32))), .val (.int z_a1)] [(.int ((0 : Int32) + (1 : Int32)))])) _
    refine XS.iload X3.here hx rfl (hb hby d13_7) rfl ?_
    show Steps p.tables e below (T3.setTop (mkF m 9 #[.val (.ref a1), .val (.double f2), .second, .val (.int ((0 : Int32) + (1 : Int32))), .val (.int z_a1)] [(.int z_a1), (.int ((0 : Int32) + (1 : Int32)))])) _
    refine XS.icmpYes X3.here hx rfl (pc0 := 9) (pc' := 22) rfl (hb hby d13_9) rfl (flt hc9).2.1 (by decide) (by decide) ?_
    show Steps p.tables e below (T3.setTop (mkF m 22 #[.val (.ref a1), .val (.double f2), .second, .val (.int ((0 : Int32) + (1 : Int32))), .val (.int z_a1)] [])) _
    exact X3.returnOut hx Bd.returns (hb hby d13_22) hr
  · show Qrm13 Z a1 f2 cl_a1 z_a1 h0 n0 _ T3.heap _
    rw [e3]
    exact ⟨rfl, N3, K3⟩
theorem d11_0 : decode prog_6_method_7_code 0 = .ok (.aload_n 0, 1) := by decide +kernel
theorem d11_1 : decode prog_6_method_7_code 1 = .ok (.invokevirtual 104, 3) := by decide +kernel
theorem d11_4 : decode prog_6_method_7_code 4 = .ok (.newarray .double, 2) := by decide +kernel
theorem d11_6 : decode prog_6_method_7_code 6 = .ok (.astore_n 3, 1) := by decide +kernel
theorem d11_7 : decode prog_6_method_7_code 7 = .ok (.aload_n 3, 1) := by decide +kernel
theorem d11_8 : decode prog_6_method_7_code 8 = .ok (.dload_n 1, 1) := by decide +kernel
theorem d11_9 : decode prog_6_method_7_code 9 = .ok (.invokestatic 108, 3) := by decide +kernel
theorem d11_12 : decode prog_6_method_7_code 12 = .ok (.aload_n 3, 1) := by decide +kernel
theorem d11_13 : decode prog_6_method_7_code 13 = .ok (.areturn, 1) := by decide +kernel
theorem pn_11 : plainName "com/example/rematch/rematch/Extent" = true := by first | (simp [plainName, overriddenIn]; done) | decide +kernel
theorem pd_11_4 : parseMethodDescriptor "()I" = some ⟨[], some .int⟩ := by decide +kernel
theorem pd_11_7 : parseMethodDescriptor "([DD)V" = some ⟨[(.array .double), .double], none⟩ := by decide +kernel
theorem ef_11 (m : MethodId) (x0 : Addr) (x1 : UInt64) : entryFrame m #[(.ref x0), (.double x1)] 4 = mkF m 0 #[.val (.ref x0), .val (.double x1), .second, .unset] [] := by first | (simp [entryFrame, mkF, argsToLocals, Value.category]; done) | rfl
def Qrm11 (Z : State) (a1 : Addr) (f2 : UInt64) (h0 : Heap) (n0 : Nat) (v : Option Value) (h : Heap) (L : List Loc) : Prop := ∃ b, v = some (.ref b) ∧ Fr n0 L ∧ Keep h0 h []
set_option maxRecDepth 65536 in
set_option maxHeartbeats 40000000 in
theorem rm11 (l : Launch) (Z : State) (a0 : Array Value) (hw : ∀ d ∈ tables_1, d.before a0 Z = true) (ws : List Jvm.Cond) (a1 : Addr) (f2 : UInt64) (h0 : Heap) (n0 : Nat) (Z0 : n0 ≤ h0.size) (wA : Addr) (clA : Cell) (FA : Fld Z h0 a1 "com/example/rematch/rematch/Metric" "axes" "[Lcom/example/rematch/rematch/Metric$Axis;" (.ref wA)) (ArA : Arr Z h0 wA clA (.object "com/example/rematch/rematch/Metric$Axis")) (SA : clA.slots.size = (1 : Int32).toNatClampNeg) (E_a1 : Exa Z h0 a1 "com/example/rematch/rematch/Metric$1") :
    MetFree l (⟨"com/example/rematch/rematch/Extent", "filled", "(Lcom/example/rematch/rematch/Metric;D)[D"⟩ : MethodName) (head1 (Jvm.Cond.code (⟨"com/example/rematch/rematch/Extent", "filled", "(Lcom/example/rematch/rematch/Metric;D)[D"⟩ : MethodName) prog_6_method_7_code 4 (some (.array .double)) :: ws) ({ frames := 1, cells := 1, slots := 1, locals := 16 } : Room)) (fun a U => a = #[(.ref a1), (.double f2)] ∧ Z.Warmed39 U.vm ∧ U.heap = h0) (fun _ _ _ _ _ => True) (fun _ U o U' => ∃ v L, o = .returned v ∧ Qrm11 Z a1 f2 h0 n0 v U'.heap L ∧ FrameEnd U o U' L ({ frames := 1, cells := 1, slots := 1, locals := 16 } : Room).cells ({ frames := 1, cells := 1, slots := 1, locals := 16 } : Room).slots) := by
  refine MetFree.of_bodySF (plainFor_of_name pn_11) hisR ?_
  intro p e s m args below meth c s₁ Bd hml0 hP hK
  obtain ⟨rfl, hZ, hh⟩ := hP
  have hx := Bd.exec
  have hby := Bd.bytes
  have hml : c.maxLocals = 4 := hml0
  have hown : s.vm.findClass "com/example/rematch/rematch/Extent" = some m.cls := findClass_of_methodNamed Bd.named
  have hnm := (name_of_methodNamed Bd.named Bd.method).1
  have X0 : Stand p l e ({ frames := 1, cells := 1, slots := 1, locals := 16 } : Room) s m #[(.ref a1), (.double f2)] below meth c s₁ [] 0 0 := Stand.of_body Bd
  have e0 : s₁.heap = h0 := by rw [← hh, Bd.state]; rfl
  have N0 := Fr.nil n0
  have pre0 : ∀ t, Steps p.tables e below (s₁.setTop (mkF m 0 #[.val (.ref a1), .val (.double f2), .second, .unset] [])) t → Steps p.tables e below (s₁.setTop (entryFrame m #[(.ref a1), (.double f2)] 4)) t := fun t k => castTop (ef_11 m a1 f2) k
  obtain ⟨cq3, kq3, q3a, q3b, q3c⟩ := isOf hZ e0 E_a1
  obtain ⟨_, _, ⟨T3, L3, k3, n3⟩, -, X3, ⟨Lc3, hQ3, l3, y3, z3⟩, st3⟩ := X0.virtualBack hx (y := (⟨"com/example/rematch/rematch/Metric", "dimensions", "()I"⟩ : MethodName)) (z := (⟨"com/example/rematch/rematch/Metric", "dimensions", "()I"⟩ : MethodName)) hown (mvT hZ (hw _ (List.mem_of_getElem? (i := 78) rfl))) (mvT hZ (hw _ (List.mem_of_getElem? (i := 79) rfl))) (notFace_of_selects (args := #[]) (mvT hZ (hw _ (List.mem_of_getElem? (i := 81) rfl)))) (mvT hZ (hw _ (List.mem_of_getElem? (i := 81) rfl))) (mvT hZ (hw _ (List.mem_of_getElem? (i := 80) rfl))) (by decide) (backOf (W := 0) (rm12 l Z a0 hw [] a1 wA clA (1 : Int32) h0 n0 Z0 FA ArA SA (by decide)) hZ (hw _ (List.mem_of_getElem? (i := 82) rfl)) (hw _ (List.mem_of_getElem? (i := 12) rfl)) (by decide) (by decide)) q3a q3c (g := (mkF m 1 #[.val (.ref a1), .val (.double f2), .second, .unset] [(.ref a1)])) rfl (by rw [hml]; rfl) (Steps.refl _) (argsL := []) (rest := []) (lenOf pd_11_4 rfl) rfl (by show 2 * 0 + _ ≤ _; exact Nat.le_of_eq rfl) (hb hby d11_1) (fun _ _ => ⟨rfl, e0, (by decide : 0 + 0 ≤ _), (by decide : 0 + 0 ≤ _)⟩)
  dsimp only [Pt.U, Pt.locs, Pt.cells, Pt.slots] at X3 l3 y3 z3 st3 hQ3
  subst l3 y3 z3
  obtain ⟨rfl, N3q, e3⟩ := hQ3
  have N3 := Fr.app N0 N3q
  obtain ⟨T4, h4, k4, X4, e4, E4, A4, st4⟩ := newP X3 hx hZ (hw _ (List.mem_of_getElem? (i := 85) rfl)) e3 (g := (mkF m 4 #[.val (.ref a1), .val (.double f2), .second, .unset] [(.int (1 : Int32))])) rfl (hb hby d11_4) rfl (by decide) (cap := 1) (by decide) (by decide) (by decide) (by decide)
  obtain ⟨b4, g4⟩ : ∃ z, z = h0.size := ⟨_, rfl⟩      -- the fresh array's address
  rw [← g4] at A4 st4
  have V_b4 := Arv.new A4 (by decide)      -- Arv Z h4 b4 k4 .double (1 : Int32) [] (its first value); a place must be in the list before it's written: Arv.pad with pad_rep
  have g_b4 : n0 ≤ b4 := Nat.le_trans (Nat.le_trans Z0 (Nat.le_refl _)) (Nat.le_of_eq g4.symm)
  have sz_b4 : h0.size ≤ b4 := (Nat.le_trans (Nat.le_refl h0.size) (Nat.le_of_eq g4.symm))
  have K4 : Keep h0 h4 [] := (Keep.refl h0 _).ext E4
  obtain ⟨_, _, ⟨T5, L5, k5, n5⟩, -, X5, ⟨Lc5, hQ5, l5, y5, z5⟩, st5⟩ := Jvm.LawKit.callS X4 hx (y := (⟨"java/util/Arrays", "fill", "([DD)V"⟩ : MethodName)) hown (mvT hZ (hw _ (List.mem_of_getElem? (i := 86) rfl))) (mvT hZ (hw _ (List.mem_of_getElem? (i := 87) rfl))) (mvT hZ (hw _ (List.mem_of_getElem? (i := 88) rfl))) (mvT hZ (hw _ (List.mem_of_getElem? (i := 89) rfl))) (by decide) (backOf (W := 0) (rm13 l Z a0 hw [] b4 f2 _ (1 : Int32) h4 n0 (Nat.le_trans Z0 E4.1) A4 (sz_new _ _ _) (by decide) (inb_of (sz_new _ _ _) (by decide)) g_b4 (by decide) (by decide)) hZ (hw _ (List.mem_of_getElem? (i := 89) rfl)) (hw _ (List.mem_of_getElem? (i := 88) rfl)) (by decide) (by decide)) (g := (mkF m 9 #[.val (.ref a1), .val (.double f2), .second, .val (.ref b4)] [(.double f2), (.ref b4)])) rfl (by rw [hml]; rfl) (argsL := [(.ref b4), (.double f2)]) (rest := []) (lenOf pd_11_7 rfl) rfl (by show 2 * 0 + _ ≤ _; exact Nat.le_of_eq rfl) (hb hby d11_9) (fun _ _ => ⟨rfl, e4, (by decide : 1 + 0 ≤ _), (by decide : 1 + 0 ≤ _)⟩)
  dsimp only [Pt.U, Pt.locs, Pt.cells, Pt.slots] at X5 l5 y5 z5 st5 hQ5
  subst l5 y5 z5
  obtain ⟨rfl, N5q, K5⟩ := hQ5
  have N5 := Fr.app N3 N5q
  obtain ⟨fs, hr, hrun, hended, hW, hsame⟩ := X5.leave (v := some (.ref b4)) (fun h => by rw [Bd.returns] at h; cases h)
  refine ⟨_, _, pre0 _ ?_, hrun, hended, _, _, rfl, ?_, ⟨_, rfl⟩, hW, hsame.mono (by decide) (by decide)⟩
  · show Steps p.tables e below (s₁.setTop (mkF m 0 #[.val (.ref a1), .val (.double f2), .second, .unset] [])) _
    refine XS.aloadN X0.here hx rfl (hb hby d11_0) rfl rfl ?_
    show Steps p.tables e below (s₁.setTop (mkF m 1 #[.val (.ref a1), .val (.double f2), .second, .unset] [(.ref a1)])) _
    refine st3.trans ?_
    show Steps p.tables e below (T3.setTop (mkF m 4 #[.val (.ref a1), .val (.double f2), .second, .unset] [(.int (1 : Int32))])) _
    refine st4 _ ?_
    show Steps p.tables e below (T4.setTop (mkF m 6 #[.val (.ref a1), .val (.double f2), .second, .unset] [(.ref b4)])) _
    refine XS.astoreN X4.here hx rfl (hb hby d11_6) rfl rfl (l' := #[.val (.ref a1), .val (.double f2), .second, .val (.ref b4)]) rfl ?_
    show Steps p.tables e below (T4.setTop (mkF m 7 #[.val (.ref a1), .val (.double f2), .second, .val (.ref b4)] [])) _
    refine XS.aloadN X4.here hx rfl (hb hby d11_7) rfl rfl ?_
    show Steps p.tables e below (T4.setTop (mkF m 8 #[.val (.ref a1), .val (.double f2), .second, .val (.ref b4)] [(.ref b4)])) _
    refine XS.dloadN X4.here hx rfl (hb hby d11_8) rfl ?_
    show Steps p.tables e below (T4.setTop (mkF m 9 #[.val (.ref a1), .val (.double f2), .second, .val (.ref b4)] [(.double f2), (.ref b4)])) _
    refine st5 _ ?_
    show Steps p.tables e below (T5.setTop (mkF m 12 #[.val (.ref a1), .val (.double f2), .second, .val (.ref b4)] [])) _
    refine XS.aloadN X5.here hx rfl (hb hby d11_12) rfl rfl ?_
    show Steps p.tables e below (T5.setTop (mkF m 13 #[.val (.ref a1), .val (.double f2), .second, .val (.ref b4)] [(.ref b4)])) _
    jvm_step X5.here [X5.here.top, hx, (hb hby d11_13), X5.method', Bd.returns, Value.isRef, FieldType.isReference]
    first | (intro acts; rw [hr _ acts rfl rfl rfl]) | rw [hr _ _ rfl rfl rfl]
    exact Steps.refl _
  · show Qrm11 Z a1 f2 h0 n0 _ T5.heap _
    exact ⟨b4, rfl, N5, K4.trans K5 (allS (Or.inr sz_b4) all0)⟩
theorem d14_0 : decode prog_6_method_2_code 0 = .ok (.aload_n 0, 1) := by decide +kernel
theorem d14_1 : decode prog_6_method_2_code 1 = .ok (.invokespecial 17, 3) := by decide +kernel
theorem d14_4 : decode prog_6_method_2_code 4 = .ok (.aload_n 0, 1) := by decide +kernel
theorem d14_5 : decode prog_6_method_2_code 5 = .ok (.aload_n 1, 1) := by decide +kernel
theorem d14_6 : decode prog_6_method_2_code 6 = .ok (.putfield 22, 3) := by decide +kernel
theorem d14_9 : decode prog_6_method_2_code 9 = .ok (.aload_n 0, 1) := by decide +kernel
theorem d14_10 : decode prog_6_method_2_code 10 = .ok (.aload_n 2, 1) := by decide +kernel
theorem d14_11 : decode prog_6_method_2_code 11 = .ok (.putfield 26, 3) := by decide +kernel
theorem d14_14 : decode prog_6_method_2_code 14 = .ok (.aload_n 0, 1) := by decide +kernel
theorem d14_15 : decode prog_6_method_2_code 15 = .ok (.aload_n 3, 1) := by decide +kernel
theorem d14_16 : decode prog_6_method_2_code 16 = .ok (.putfield 30, 3) := by decide +kernel
theorem d14_19 : decode prog_6_method_2_code 19 = .ok (.aload_n 0, 1) := by decide +kernel
theorem d14_20 : decode prog_6_method_2_code 20 = .ok (.dload 4, 2) := by decide +kernel
theorem d14_22 : decode prog_6_method_2_code 22 = .ok (.putfield 33, 3) := by decide +kernel
theorem d14_25 : decode prog_6_method_2_code 25 = .ok (.aload_n 0, 1) := by decide +kernel
theorem d14_26 : decode prog_6_method_2_code 26 = .ok (.iload 6, 2) := by decide +kernel
theorem d14_28 : decode prog_6_method_2_code 28 = .ok (.putfield 37, 3) := by decide +kernel
theorem d14_31 : decode prog_6_method_2_code 31 = .ok (.return_, 1) := by decide +kernel
theorem pn_14 : plainName "com/example/rematch/rematch/Extent" = true := by first | (simp [plainName, overriddenIn]; done) | decide +kernel
theorem ef_14 (m : MethodId) (x0 : Addr) (x1 : Addr) (x2 : Addr) (x3 : Addr) (x4 : UInt64) (x5 : Int32) : entryFrame m #[(.ref x0), (.ref x1), (.ref x2), (.ref x3), (.double x4), (.int x5)] 7 = mkF m 0 #[.val (.ref x0), .val (.ref x1), .val (.ref x2), .val (.ref x3), .val (.double x4), .second, .val (.int x5)] [] := by first | (simp [entryFrame, mkF, argsToLocals, Value.category]; done) | rfl
def Qrm14 (Z : State) (a1 : Addr) (a2 : Addr) (a3 : Addr) (a4 : Addr) (f5 : UInt64) (p6 : Int32) (u_metric_a1 : Value) (u_low_a1 : Value) (u_high_a1 : Value) (u_latestTime_a1 : Value) (u_summed_a1 : Value) (h0 : Heap) (n0 : Nat) (v : Option Value) (h : Heap) (L : List Loc) : Prop := v = none ∧ Fr n0 L ∧ Keep h0 h [a1]
set_option maxRecDepth 65536 in
set_option maxHeartbeats 40000000 in
theorem rm14 (l : Launch) (Z : State) (a0 : Array Value) (hw : ∀ d ∈ tables_1, d.before a0 Z = true) (ws : List Jvm.Cond) (a1 : Addr) (a2 : Addr) (a3 : Addr) (a4 : Addr) (f5 : UInt64) (p6 : Int32) (u_metric_a1 : Value) (u_low_a1 : Value) (u_high_a1 : Value) (u_latestTime_a1 : Value) (u_summed_a1 : Value) (h0 : Heap) (n0 : Nat) (Z0 : n0 ≤ h0.size) (E_a1 : Exa Z h0 a1 "com/example/rematch/rematch/Extent") (F_metric_a1 : Fld Z h0 a1 "com/example/rematch/rematch/Extent" "metric" "Lcom/example/rematch/rematch/Metric;" u_metric_a1) (g_a1 : n0 ≤ a1) (F_low_a1 : Fld Z h0 a1 "com/example/rematch/rematch/Extent" "low" "[D" u_low_a1) (F_high_a1 : Fld Z h0 a1 "com/example/rematch/rematch/Extent" "high" "[D" u_high_a1) (F_latestTime_a1 : Fld Z h0 a1 "com/example/rematch/rematch/Extent" "latestTime" "D" u_latestTime_a1) (F_summed_a1 : Fld Z h0 a1 "com/example/rematch/rematch/Extent" "summed" "I" u_summed_a1) :
    MetFree l (⟨"com/example/rematch/rematch/Extent", "<init>", "(Lcom/example/rematch/rematch/Metric;[D[DDI)V"⟩ : MethodName) (head1 (Jvm.Cond.code (⟨"com/example/rematch/rematch/Extent", "<init>", "(Lcom/example/rematch/rematch/Metric;[D[DDI)V"⟩ : MethodName) prog_6_method_2_code 7 none :: ws) ({ frames := 1, cells := 0, slots := 0, locals := 12 } : Room)) (fun a U => a = #[(.ref a1), (.ref a2), (.ref a3), (.ref a4), (.double f5), (.int p6)] ∧ Z.Warmed39 U.vm ∧ U.heap = h0) (fun _ _ _ _ _ => True) (fun _ U o U' => ∃ v L, o = .returned v ∧ Qrm14 Z a1 a2 a3 a4 f5 p6 u_metric_a1 u_low_a1 u_high_a1 u_latestTime_a1 u_summed_a1 h0 n0 v U'.heap L ∧ FrameEnd U o U' L ({ frames := 1, cells := 0, slots := 0, locals := 12 } : Room).cells ({ frames := 1, cells := 0, slots := 0, locals := 12 } : Room).slots) := by
  refine MetFree.of_bodySF (plainFor_of_name pn_14) hisR ?_
  intro p e s m args below meth c s₁ Bd hml0 hP hK
  obtain ⟨rfl, hZ, hh⟩ := hP
  have hx := Bd.exec
  have hby := Bd.bytes
  have hml : c.maxLocals = 7 := hml0
  have hown : s.vm.findClass "com/example/rematch/rematch/Extent" = some m.cls := findClass_of_methodNamed Bd.named
  have hnm := (name_of_methodNamed Bd.named Bd.method).1
  have X0 : Stand p l e ({ frames := 1, cells := 0, slots := 0, locals := 12 } : Room) s m #[(.ref a1), (.ref a2), (.ref a3), (.ref a4), (.double f5), (.int p6)] below meth c s₁ [] 0 0 := Stand.of_body Bd
  have e0 : s₁.heap = h0 := by rw [← hh, Bd.state]; rfl
  have N0 := Fr.nil n0
  have pre0 : ∀ t, Steps p.tables e below (s₁.setTop (mkF m 0 #[.val (.ref a1), .val (.ref a2), .val (.ref a3), .val (.ref a4), .val (.double f5), .second, .val (.int p6)] [])) t → Steps p.tables e below (s₁.setTop (entryFrame m #[(.ref a1), (.ref a2), (.ref a3), (.ref a4), (.double f5), (.int p6)] 7)) t := fun t k => castTop (ef_14 m a1 a2 a3 a4 f5 p6) k
  obtain ⟨T7, X7, e7, st7⟩ := initO X0 hx hZ hown (hw _ (List.mem_of_getElem? (i := 94) rfl)) (hw _ (List.mem_of_getElem? (i := 33) rfl)) (hw _ (List.mem_of_getElem? (i := 34) rfl)) e0 (g := (mkF m 1 #[.val (.ref a1), .val (.ref a2), .val (.ref a3), .val (.ref a4), .val (.double f5), .second, .val (.int p6)] [(.ref a1)])) rfl (by rw [hml]; rfl) rfl (hb hby d14_1) (by decide) (W := 0) (by show 2 * 0 + _ ≤ _; exact Nat.le_of_eq rfl) (by decide)
  obtain ⟨T8, h8, X8, e8, W8, st8⟩ := putF X7 hx hZ hown (host := "") (Or.inl (hw _ (List.mem_of_getElem? (i := 95) rfl))) Via.refl e7 F_metric_a1 E_a1 (Or.inr ⟨(hw _ (List.mem_of_getElem? (i := 96) rfl)), rfl, hnm⟩) (hw _ (List.mem_of_getElem? (i := 69) rfl)) (ty := (.object "com/example/rematch/rematch/Metric")) (by decide) rfl rfl (g := (mkF m 6 #[.val (.ref a1), .val (.ref a2), .val (.ref a3), .val (.ref a4), .val (.double f5), .second, .val (.int p6)] [(.ref a2), (.ref a1)])) rfl rfl (hb hby d14_6)
  have Fw8 := F_metric_a1.same W8      -- the field now holds (.ref a2)
  have K8 : Keep h0 h8 [a1] := (Keep.refl h0 [a1]).wr W8 (Or.inl (List.mem_of_getElem? (i := 0) rfl))
  have N8 := Fr.snoc X8 N0 g_a1
  obtain ⟨T9, h9, X9, e9, W9, st9⟩ := putF X8 hx hZ hown (host := "") (Or.inl (hw _ (List.mem_of_getElem? (i := 97) rfl))) Via.refl e8 (F_low_a1.other W8 (Or.inr (slot_ne (Or.inr (hw _ (List.mem_of_getElem? (i := 98) rfl))) (Or.inr (hw _ (List.mem_of_getElem? (i := 96) rfl))) (by decide) (t := (.array .double)) (t' := (.object "com/example/rematch/rematch/Metric")) (by decide) (by decide)))) (E_a1.wr W8) (Or.inr ⟨(hw _ (List.mem_of_getElem? (i := 98) rfl)), rfl, hnm⟩) (hw _ (List.mem_of_getElem? (i := 69) rfl)) (ty := (.array .double)) (by decide) rfl rfl (g := (mkF m 11 #[.val (.ref a1), .val (.ref a2), .val (.ref a3), .val (.ref a4), .val (.double f5), .second, .val (.int p6)] [(.ref a3), (.ref a1)])) rfl rfl (hb hby d14_11)
  have Fw9 := (F_low_a1.other W8 (Or.inr (slot_ne (Or.inr (hw _ (List.mem_of_getElem? (i := 98) rfl))) (Or.inr (hw _ (List.mem_of_getElem? (i := 96) rfl))) (by decide) (t := (.array .double)) (t' := (.object "com/example/rematch/rematch/Metric")) (by decide) (by decide)))).same W9      -- the field now holds (.ref a3)
  have K9 : Keep h0 h9 [a1] := K8.wr W9 (Or.inl (List.mem_of_getElem? (i := 0) rfl))
  have N9 := Fr.snoc X9 N8 g_a1
  obtain ⟨T10, h10, X10, e10, W10, st10⟩ := putF X9 hx hZ hown (host := "") (Or.inl (hw _ (List.mem_of_getElem? (i := 99) rfl))) Via.refl e9 ((F_high_a1.other W8 (Or.inr (slot_ne (Or.inr (hw _ (List.mem_of_getElem? (i := 100) rfl))) (Or.inr (hw _ (List.mem_of_getElem? (i := 96) rfl))) (by decide) (t := (.array .double)) (t' := (.object "com/example/rematch/rematch/Metric")) (by decide) (by decide)))).other W9 (Or.inr (slot_ne (Or.inr (hw _ (List.mem_of_getElem? (i := 100) rfl))) (Or.inr (hw _ (List.mem_of_getElem? (i := 98) rfl))) (by decide) (t := (.array .double)) (t' := (.array .double)) (by decide) (by decide)))) ((E_a1.wr W8).wr W9) (Or.inr ⟨(hw _ (List.mem_of_getElem? (i := 100) rfl)), rfl, hnm⟩) (hw _ (List.mem_of_getElem? (i := 69) rfl)) (ty := (.array .double)) (by decide) rfl rfl (g := (mkF m 16 #[.val (.ref a1), .val (.ref a2), .val (.ref a3), .val (.ref a4), .val (.double f5), .second, .val (.int p6)] [(.ref a4), (.ref a1)])) rfl rfl (hb hby d14_16)
  have Fw10 := ((F_high_a1.other W8 (Or.inr (slot_ne (Or.inr (hw _ (List.mem_of_getElem? (i := 100) rfl))) (Or.inr (hw _ (List.mem_of_getElem? (i := 96) rfl))) (by decide) (t := (.array .double)) (t' := (.object "com/example/rematch/rematch/Metric")) (by decide) (by decide)))).other W9 (Or.inr (slot_ne (Or.inr (hw _ (List.mem_of_getElem? (i := 100) rfl))) (Or.inr (hw _ (List.mem_of_getElem? (i := 98) rfl))) (by decide) (t := (.array .double)) (t' := (.array .double)) (by decide) (by decide)))).same W10      -- the field now holds (.ref a4)
  have K10 : Keep h0 h10 [a1] := K9.wr W10 (Or.inl (List.mem_of_getElem? (i := 0) rfl))
  have N10 := Fr.snoc X10 N9 g_a1
  obtain ⟨T11, h11, X11, e11, W11, st11⟩ := putF X10 hx hZ hown (host := "") (Or.inl (hw _ (List.mem_of_getElem? (i := 101) rfl))) Via.refl e10 (((F_latestTime_a1.other W8 (Or.inr (slot_ne (Or.inr (hw _ (List.mem_of_getElem? (i := 102) rfl))) (Or.inr (hw _ (List.mem_of_getElem? (i := 96) rfl))) (by decide) (t := .double) (t' := (.object "com/example/rematch/rematch/Metric")) (by decide) (by decide)))).other W9 (Or.inr (slot_ne (Or.inr (hw _ (List.mem_of_getElem? (i := 102) rfl))) (Or.inr (hw _ (List.mem_of_getElem? (i := 98) rfl))) (by decide) (t := .double) (t' := (.array .double)) (by decide) (by decide)))).other W10 (Or.inr (slot_ne (Or.inr (hw _ (List.mem_of_getElem? (i := 102) rfl))) (Or.inr (hw _ (List.mem_of_getElem? (i := 100) rfl))) (by decide) (t := .double) (t' := (.array .double)) (by decide) (by decide)))) (((E_a1.wr W8).wr W9).wr W10) (Or.inr ⟨(hw _ (List.mem_of_getElem? (i := 102) rfl)), rfl, hnm⟩) (hw _ (List.mem_of_getElem? (i := 69) rfl)) (ty := .double) (by decide) rfl rfl (g := (mkF m 22 #[.val (.ref a1), .val (.ref a2), .val (.ref a3), .val (.ref a4), .val (.double f5), .second, .val (.int p6)] [(.double f5), (.ref a1)])) rfl rfl (hb hby d14_22)
  have Fw11 := (((F_latestTime_a1.other W8 (Or.inr (slot_ne (Or.inr (hw _ (List.mem_of_getElem? (i := 102) rfl))) (Or.inr (hw _ (List.mem_of_getElem? (i := 96) rfl))) (by decide) (t := .double) (t' := (.object "com/example/rematch/rematch/Metric")) (by decide) (by decide)))).other W9 (Or.inr (slot_ne (Or.inr (hw _ (List.mem_of_getElem? (i := 102) rfl))) (Or.inr (hw _ (List.mem_of_getElem? (i := 98) rfl))) (by decide) (t := .double) (t' := (.array .double)) (by decide) (by decide)))).other W10 (Or.inr (slot_ne (Or.inr (hw _ (List.mem_of_getElem? (i := 102) rfl))) (Or.inr (hw _ (List.mem_of_getElem? (i := 100) rfl))) (by decide) (t := .double) (t' := (.array .double)) (by decide) (by decide)))).same W11      -- the field now holds (.double f5)
  have K11 : Keep h0 h11 [a1] := K10.wr W11 (Or.inl (List.mem_of_getElem? (i := 0) rfl))
  have N11 := Fr.snoc X11 N10 g_a1
  obtain ⟨T12, h12, X12, e12, W12, st12⟩ := putF X11 hx hZ hown (host := "") (Or.inl (hw _ (List.mem_of_getElem? (i := 103) rfl))) Via.refl e11 ((((F_summed_a1.other W8 (Or.inr (slot_ne (Or.inr (hw _ (List.mem_of_getElem? (i := 104) rfl))) (Or.inr (hw _ (List.mem_of_getElem? (i := 96) rfl))) (by decide) (t := .int) (t' := (.object "com/example/rematch/rematch/Metric")) (by decide) (by decide)))).other W9 (Or.inr (slot_ne (Or.inr (hw _ (List.mem_of_getElem? (i := 104) rfl))) (Or.inr (hw _ (List.mem_of_getElem? (i := 98) rfl))) (by decide) (t := .int) (t' := (.array .double)) (by decide) (by decide)))).other W10 (Or.inr (slot_ne (Or.inr (hw _ (List.mem_of_getElem? (i := 104) rfl))) (Or.inr (hw _ (List.mem_of_getElem? (i := 100) rfl))) (by decide) (t := .int) (t' := (.array .double)) (by decide) (by decide)))).other W11 (Or.inr (slot_ne (Or.inr (hw _ (List.mem_of_getElem? (i := 104) rfl))) (Or.inr (hw _ (List.mem_of_getElem? (i := 102) rfl))) (by decide) (t := .int) (t' := .double) (by decide) (by decide)))) ((((E_a1.wr W8).wr W9).wr W10).wr W11) (Or.inr ⟨(hw _ (List.mem_of_getElem? (i := 104) rfl)), rfl, hnm⟩) (hw _ (List.mem_of_getElem? (i := 69) rfl)) (ty := .int) (by decide) rfl rfl (g := (mkF m 28 #[.val (.ref a1), .val (.ref a2), .val (.ref a3), .val (.ref a4), .val (.double f5), .second, .val (.int p6)] [(.int p6), (.ref a1)])) rfl rfl (hb hby d14_28)
  have Fw12 := ((((F_summed_a1.other W8 (Or.inr (slot_ne (Or.inr (hw _ (List.mem_of_getElem? (i := 104) rfl))) (Or.inr (hw _ (List.mem_of_getElem? (i := 96) rfl))) (by decide) (t := .int) (t' := (.object "com/example/rematch/rematch/Metric")) (by decide) (by decide)))).other W9 (Or.inr (slot_ne (Or.inr (hw _ (List.mem_of_getElem? (i := 104) rfl))) (Or.inr (hw _ (List.mem_of_getElem? (i := 98) rfl))) (by decide) (t := .int) (t' := (.array .double)) (by decide) (by decide)))).other W10 (Or.inr (slot_ne (Or.inr (hw _ (List.mem_of_getElem? (i := 104) rfl))) (Or.inr (hw _ (List.mem_of_getElem? (i := 100) rfl))) (by decide) (t := .int) (t' := (.array .double)) (by decide) (by decide)))).other W11 (Or.inr (slot_ne (Or.inr (hw _ (List.mem_of_getElem? (i := 104) rfl))) (Or.inr (hw _ (List.mem_of_getElem? (i := 102) rfl))) (by decide) (t := .int) (t' := .double) (by decide) (by decide)))).same W12      -- the field now holds (.int p6)
  have K12 : Keep h0 h12 [a1] := K11.wr W12 (Or.inl (List.mem_of_getElem? (i := 0) rfl))
  have N12 := Fr.snoc X12 N11 g_a1
  obtain ⟨fs, hr, hrun, hended, hW, hsame⟩ := X12.leave (v := none) (fun _ => rfl)
  refine ⟨_, _, pre0 _ ?_, hrun, hended, _, _, rfl, ?_, ⟨_, rfl⟩, hW, hsame.mono (by decide) (by decide)⟩
  · show Steps p.tables e below (s₁.setTop (mkF m 0 #[.val (.ref a1), .val (.ref a2), .val (.ref a3), .val (.ref a4), .val (.double f5), .second, .val (.int p6)] [])) _
    refine XS.aloadN X0.here hx rfl (hb hby d14_0) rfl rfl ?_
    show Steps p.tables e below (s₁.setTop (mkF m 1 #[.val (.ref a1), .val (.ref a2), .val (.ref a3), .val (.ref a4), .val (.double f5), .second, .val (.int p6)] [(.ref a1)])) _
    refine st7 _ ?_
    show Steps p.tables e below (T7.setTop (mkF m 4 #[.val (.ref a1), .val (.ref a2), .val (.ref a3), .val (.ref a4), .val (.double f5), .second, .val (.int p6)] [])) _
    refine XS.aloadN X7.here hx rfl (hb hby d14_4) rfl rfl ?_
    show Steps p.tables e below (T7.setTop (mkF m 5 #[.val (.ref a1), .val (.ref a2), .val (.ref a3), .val (.ref a4), .val (.double f5), .second, .val (.int p6)] [(.ref a1)])) _
    refine XS.aloadN X7.here hx rfl (hb hby d14_5) rfl rfl ?_
    show Steps p.tables e below (T7.setTop (mkF m 6 #[.val (.ref a1), .val (.ref a2), .val (.ref a3), .val (.ref a4), .val (.double f5), .second, .val (.int p6)] [(.ref a2), (.ref a1)])) _
    refine st8 _ ?_
    show Steps p.tables e below (T8.setTop (mkF m 9 #[.val (.ref a1), .val (.ref a2), .val (.ref a3), .val (.ref a4), .val (.double f5), .second, .val (.int p6)] [])) _
    refine XS.aloadN X8.here hx rfl (hb hby d14_9) rfl rfl ?_
    show Steps p.tables e below (T8.setTop (mkF m 10 #[.val (.ref a1), .val (.ref a2), .val (.ref a3), .val (.ref a4), .val (.double f5), .second, .val (.int p6)] [(.ref a1)])) _
    refine XS.aloadN X8.here hx rfl (hb hby d14_10) rfl rfl ?_
    show Steps p.tables e below (T8.setTop (mkF m 11 #[.val (.ref a1), .val (.ref a2), .val (.ref a3), .val (.ref a4), .val (.double f5), .second, .val (.int p6)] [(.ref a3), (.ref a1)])) _
    refine st9 _ ?_
    show Steps p.tables e below (T9.setTop (mkF m 14 #[.val (.ref a1), .val (.ref a2), .val (.ref a3), .val (.ref a4), .val (.double f5), .second, .val (.int p6)] [])) _
    refine XS.aloadN X9.here hx rfl (hb hby d14_14) rfl rfl ?_
    show Steps p.tables e below (T9.setTop (mkF m 15 #[.val (.ref a1), .val (.ref a2), .val (.ref a3), .val (.ref a4), .val (.double f5), .second, .val (.int p6)] [(.ref a1)])) _
    refine XS.aloadN X9.here hx rfl (hb hby d14_15) rfl rfl ?_
    show Steps p.tables e below (T9.setTop (mkF m 16 #[.val (.ref a1), .val (.ref a2), .val (.ref a3), .val (.ref a4), .val (.double f5), .second, .val (.int p6)] [(.ref a4), (.ref a1)])) _
    refine st10 _ ?_
    show Steps p.tables e below (T10.setTop (mkF m 19 #[.val (.ref a1), .val (.ref a2), .val (.ref a3), .val (.ref a4), .val (.double f5), .second, .val (.int p6)] [])) _
    refine XS.aloadN X10.here hx rfl (hb hby d14_19) rfl rfl ?_
    show Steps p.tables e below (T10.setTop (mkF m 20 #[.val (.ref a1), .val (.ref a2), .val (.ref a3), .val (.ref a4), .val (.double f5), .second, .val (.int p6)] [(.ref a1)])) _
    refine XS.dload X10.here hx rfl (hb hby d14_20) rfl ?_
    show Steps p.tables e below (T10.setTop (mkF m 22 #[.val (.ref a1), .val (.ref a2), .val (.ref a3), .val (.ref a4), .val (.double f5), .second, .val (.int p6)] [(.double f5), (.ref a1)])) _
    refine st11 _ ?_
    show Steps p.tables e below (T11.setTop (mkF m 25 #[.val (.ref a1), .val (.ref a2), .val (.ref a3), .val (.ref a4), .val (.double f5), .second, .val (.int p6)] [])) _
    refine XS.aloadN X11.here hx rfl (hb hby d14_25) rfl rfl ?_
    show Steps p.tables e below (T11.setTop (mkF m 26 #[.val (.ref a1), .val (.ref a2), .val (.ref a3), .val (.ref a4), .val (.double f5), .second, .val (.int p6)] [(.ref a1)])) _
    refine XS.iload X11.here hx rfl (hb hby d14_26) rfl ?_
    show Steps p.tables e below (T11.setTop (mkF m 28 #[.val (.ref a1), .val (.ref a2), .val (.ref a3), .val (.ref a4), .val (.double f5), .second, .val (.int p6)] [(.int p6), (.ref a1)])) _
    refine st12 _ ?_
    show Steps p.tables e below (T12.setTop (mkF m 31 #[.val (.ref a1), .val (.ref a2), .val (.ref a3), .val (.ref a4), .val (.double f5), .second, .val (.int p6)] [])) _
    exact X12.returnOut hx Bd.returns (hb hby d14_31) hr
  · show Qrm14 Z a1 a2 a3 a4 f5 p6 u_metric_a1 u_low_a1 u_high_a1 u_latestTime_a1 u_summed_a1 h0 n0 _ T12.heap _
    rw [e12]
    exact ⟨rfl, N12, K12⟩
theorem d10_0 : decode prog_6_method_1_code 0 = .ok (.aload_n 0, 1) := by decide +kernel
theorem d10_1 : decode prog_6_method_1_code 1 = .ok (.aload_n 1, 1) := by decide +kernel
theorem d10_2 : decode prog_6_method_1_code 2 = .ok (.aload_n 1, 1) := by decide +kernel
theorem d10_3 : decode prog_6_method_1_code 3 = .ok (.ldc2_w 3, 3) := by decide +kernel
theorem d10_6 : decode prog_6_method_1_code 6 = .ok (.invokestatic 5, 3) := by decide +kernel
theorem d10_9 : decode prog_6_method_1_code 9 = .ok (.aload_n 1, 1) := by decide +kernel
theorem d10_10 : decode prog_6_method_1_code 10 = .ok (.ldc2_w 11, 3) := by decide +kernel
theorem d10_13 : decode prog_6_method_1_code 13 = .ok (.invokestatic 5, 3) := by decide +kernel
theorem d10_16 : decode prog_6_method_1_code 16 = .ok (.dconst 0, 1) := by decide +kernel
theorem d10_17 : decode prog_6_method_1_code 17 = .ok (.iconst 0, 1) := by decide +kernel
theorem d10_18 : decode prog_6_method_1_code 18 = .ok (.invokespecial 13, 3) := by decide +kernel
theorem d10_21 : decode prog_6_method_1_code 21 = .ok (.return_, 1) := by decide +kernel
theorem pn_10 : plainName "com/example/rematch/rematch/Extent" = true := by first | (simp [plainName, overriddenIn]; done) | decide +kernel
theorem pd_10_6 : parseMethodDescriptor "(Lcom/example/rematch/rematch/Metric;D)[D" = some ⟨[(.object "com/example/rematch/rematch/Metric"), .double], some (.array .double)⟩ := by decide +kernel
theorem pd_10_8 : parseMethodDescriptor "(Lcom/example/rematch/rematch/Metric;[D[DDI)V" = some ⟨[(.object "com/example/rematch/rematch/Metric"), (.array .double), (.array .double), .double, .int], none⟩ := by decide +kernel
theorem ef_10 (m : MethodId) (x0 : Addr) (x1 : Addr) : entryFrame m #[(.ref x0), (.ref x1)] 2 = mkF m 0 #[.val (.ref x0), .val (.ref x1)] [] := by first | (simp [entryFrame, mkF, argsToLocals, Value.category]; done) | rfl
def Qrm10 (Z : State) (a1 : Addr) (a2 : Addr) (h0 : Heap) (n0 : Nat) (v : Option Value) (h : Heap) (L : List Loc) : Prop := v = none ∧ Fr n0 L ∧ Keep h0 h [a1]
set_option maxRecDepth 65536 in
set_option maxHeartbeats 40000000 in
theorem rm10 (l : Launch) (Z : State) (a0 : Array Value) (hw : ∀ d ∈ tables_1, d.before a0 Z = true) (ws : List Jvm.Cond) (a1 : Addr) (a2 : Addr) (h0 : Heap) (n0 : Nat) (Z0 : n0 ≤ h0.size) (E_a1 : Exa Z h0 a1 "com/example/rematch/rematch/Extent") (g_a1 : n0 ≤ a1) (E_a2 : Exa Z h0 a2 "com/example/rematch/rematch/Metric$1") (F_metric : Fld Z h0 a1 "com/example/rematch/rematch/Extent" "metric" "Lcom/example/rematch/rematch/Metric;" .null) (F_low : Fld Z h0 a1 "com/example/rematch/rematch/Extent" "low" "[D" .null) (F_high : Fld Z h0 a1 "com/example/rematch/rematch/Extent" "high" "[D" .null) (F_latestTime : Fld Z h0 a1 "com/example/rematch/rematch/Extent" "latestTime" "D" (.double (0 : UInt64))) (F_summed : Fld Z h0 a1 "com/example/rematch/rematch/Extent" "summed" "I" (.int (0 : Int32))) (wA : Addr) (clA : Cell) (FA : Fld Z h0 a2 "com/example/rematch/rematch/Metric" "axes" "[Lcom/example/rematch/rematch/Metric$Axis;" (.ref wA)) (ArA : Arr Z h0 wA clA (.object "com/example/rematch/rematch/Metric$Axis")) (SA : clA.slots.size = (1 : Int32).toNatClampNeg) :
    MetFree l (⟨"com/example/rematch/rematch/Extent", "<init>", "(Lcom/example/rematch/rematch/Metric;)V"⟩ : MethodName) (head1 (Jvm.Cond.code (⟨"com/example/rematch/rematch/Extent", "<init>", "(Lcom/example/rematch/rematch/Metric;)V"⟩ : MethodName) prog_6_method_1_code 2 none :: ws) ({ frames := 2, cells := 2, slots := 2, locals := 34 } : Room)) (fun a U => a = #[(.ref a1), (.ref a2)] ∧ Z.Warmed39 U.vm ∧ U.heap = h0) (fun _ _ _ _ _ => True) (fun _ U o U' => ∃ v L, o = .returned v ∧ Qrm10 Z a1 a2 h0 n0 v U'.heap L ∧ FrameEnd U o U' L ({ frames := 2, cells := 2, slots := 2, locals := 34 } : Room).cells ({ frames := 2, cells := 2, slots := 2, locals := 34 } : Room).slots) := by
  refine MetFree.of_bodySF (plainFor_of_name pn_10) hisR ?_
  intro p e s m args below meth c s₁ Bd hml0 hP hK
  obtain ⟨rfl, hZ, hh⟩ := hP
  have hx := Bd.exec
  have hby := Bd.bytes
  have hml : c.maxLocals = 2 := hml0
  have hown : s.vm.findClass "com/example/rematch/rematch/Extent" = some m.cls := findClass_of_methodNamed Bd.named
  have hnm := (name_of_methodNamed Bd.named Bd.method).1
  have X0 : Stand p l e ({ frames := 2, cells := 2, slots := 2, locals := 34 } : Room) s m #[(.ref a1), (.ref a2)] below meth c s₁ [] 0 0 := Stand.of_body Bd
  have e0 : s₁.heap = h0 := by rw [← hh, Bd.state]; rfl
  have N0 := Fr.nil n0
  have pre0 : ∀ t, Steps p.tables e below (s₁.setTop (mkF m 0 #[.val (.ref a1), .val (.ref a2)] [])) t → Steps p.tables e below (s₁.setTop (entryFrame m #[(.ref a1), (.ref a2)] 2)) t := fun t k => castTop (ef_10 m a1 a2) k
  obtain ⟨_, _, ⟨T3, L3, k3, n3⟩, -, X3, ⟨Lc3, hQ3, l3, y3, z3⟩, st3⟩ := Jvm.LawKit.callS X0 hx (y := (⟨"com/example/rematch/rematch/Extent", "filled", "(Lcom/example/rematch/rematch/Metric;D)[D"⟩ : MethodName)) hown (mvT hZ (hw _ (List.mem_of_getElem? (i := 75) rfl))) (mvT hZ (hw _ (List.mem_of_getElem? (i := 76) rfl))) (mvT hZ (hw _ (List.mem_of_getElem? (i := 70) rfl))) (mvT hZ (hw _ (List.mem_of_getElem? (i := 77) rfl))) (by decide) (backOf (W := 2) (rm11 l Z a0 hw [] a2 (9218868437227405312 : UInt64) h0 n0 Z0 wA clA FA ArA SA E_a2) hZ (hw _ (List.mem_of_getElem? (i := 77) rfl)) (hw _ (List.mem_of_getElem? (i := 70) rfl)) (by decide) (by decide)) (g := (mkF m 6 #[.val (.ref a1), .val (.ref a2)] [(.double (9218868437227405312 : UInt64)), (.ref a2), (.ref a2), (.ref a1)])) rfl (by rw [hml]; rfl) (argsL := [(.ref a2), (.double (9218868437227405312 : UInt64))]) (rest := [(.ref a2), (.ref a1)]) (lenOf pd_10_6 rfl) rfl (by show 2 * 0 + _ ≤ _; exact Nat.le_of_eq rfl) (hb hby d10_6) (fun _ _ => ⟨rfl, e0, (by decide : 0 + 1 ≤ _), (by decide : 0 + 1 ≤ _)⟩)
  dsimp only [Pt.U, Pt.locs, Pt.cells, Pt.slots] at X3 l3 y3 z3 st3 hQ3
  subst l3 y3 z3
  obtain ⟨x3, rfl, N3q, K3⟩ := hQ3
  have y3 := own_ext K3
  have N3 := Fr.app N0 N3q
  obtain ⟨_, _, ⟨T4, L4, k4, n4⟩, -, X4, ⟨Lc4, hQ4, l4, y4, z4⟩, st4⟩ := Jvm.LawKit.callS X3 hx (y := (⟨"com/example/rematch/rematch/Extent", "filled", "(Lcom/example/rematch/rematch/Metric;D)[D"⟩ : MethodName)) hown (mvT hZ (hw _ (List.mem_of_getElem? (i := 75) rfl))) (mvT hZ (hw _ (List.mem_of_getElem? (i := 76) rfl))) (mvT hZ (hw _ (List.mem_of_getElem? (i := 70) rfl))) (mvT hZ (hw _ (List.mem_of_getElem? (i := 77) rfl))) (by decide) (backOf (W := 3) (rm11 l Z a0 hw [] a2 (18442240474082181120 : UInt64) T3.heap n0 (Nat.le_trans Z0 K3.1) wA clA (FA.ext y3) (ArA.ext y3) SA (E_a2.ext y3)) hZ (hw _ (List.mem_of_getElem? (i := 77) rfl)) (hw _ (List.mem_of_getElem? (i := 70) rfl)) (by decide) (by decide)) (g := (mkF m 13 #[.val (.ref a1), .val (.ref a2)] [(.double (18442240474082181120 : UInt64)), (.ref a2), (.ref x3), (.ref a2), (.ref a1)])) rfl (by rw [hml]; rfl) (argsL := [(.ref a2), (.double (18442240474082181120 : UInt64))]) (rest := [(.ref x3), (.ref a2), (.ref a1)]) (lenOf pd_10_6 rfl) rfl (by show 2 * 0 + _ ≤ _; exact Nat.le_of_eq rfl) (hb hby d10_13) (fun _ _ => ⟨rfl, rfl, (by decide : 1 + 1 ≤ _), (by decide : 1 + 1 ≤ _)⟩)
  dsimp only [Pt.U, Pt.locs, Pt.cells, Pt.slots] at X4 l4 y4 z4 st4 hQ4
  subst l4 y4 z4
  obtain ⟨x4, rfl, N4q, K4⟩ := hQ4
  have y4 := own_ext K4
  have P4 : Keep h0 T4.heap [] := K3.trans K4 all0
  have Y4 := own_ext P4
  have N4 := Fr.app N3 N4q
  obtain ⟨_, _, ⟨T5, L5, k5, n5⟩, -, X5, ⟨Lc5, hQ5, l5, y5, z5⟩, st5⟩ := X4.specialBack hx (y := (⟨"com/example/rematch/rematch/Extent", "<init>", "(Lcom/example/rematch/rematch/Metric;[D[DDI)V"⟩ : MethodName)) rfl hown (mvT hZ (hw _ (List.mem_of_getElem? (i := 91) rfl))) (mvT hZ (hw _ (List.mem_of_getElem? (i := 92) rfl))) (mvT hZ (hw _ (List.mem_of_getElem? (i := 93) rfl))) (by decide) (backOf (W := 0) (rm14 l Z a0 hw [] a1 a2 x3 x4 FP.dconst0 (0 : Int32) .null .null .null (.double (0 : UInt64)) (.int (0 : Int32)) T4.heap n0 (Nat.le_trans Z0 P4.1) (E_a1.ext Y4) (F_metric.ext Y4) g_a1 (F_low.ext Y4) (F_high.ext Y4) (F_latestTime.ext Y4) (F_summed.ext Y4)) hZ (hw _ (List.mem_of_getElem? (i := 93) rfl)) (hw _ (List.mem_of_getElem? (i := 70) rfl)) (by decide) (by decide)) (g := (mkF m 18 #[.val (.ref a1), .val (.ref a2)] [(.int (0 : Int32)), (.double FP.dconst0), (.ref x4), (.ref x3), (.ref a2), (.ref a1)])) rfl (by rw [hml]; rfl) (Steps.refl _) (a := a1) (argsL := [(.ref a2), (.ref x3), (.ref x4), (.double FP.dconst0), (.int (0 : Int32))]) (rest := []) (lenOf pd_10_8 rfl) rfl (by show 2 * 0 + _ ≤ _; exact Nat.le_of_eq rfl) (hb hby d10_18) (fun _ _ => ⟨rfl, rfl, (by decide : 2 + 0 ≤ _), (by decide : 2 + 0 ≤ _)⟩)
  dsimp only [Pt.U, Pt.locs, Pt.cells, Pt.slots] at X5 l5 y5 z5 st5 hQ5
  subst l5 y5 z5
  obtain ⟨rfl, N5q, K5⟩ := hQ5
  have N5 := Fr.app N4 N5q
  obtain ⟨fs, hr, hrun, hended, hW, hsame⟩ := X5.leave (v := none) (fun _ => rfl)
  refine ⟨_, _, pre0 _ ?_, hrun, hended, _, _, rfl, ?_, ⟨_, rfl⟩, hW, hsame.mono (by decide) (by decide)⟩
  · show Steps p.tables e below (s₁.setTop (mkF m 0 #[.val (.ref a1), .val (.ref a2)] [])) _
    refine XS.aloadN X0.here hx rfl (hb hby d10_0) rfl rfl ?_
    show Steps p.tables e below (s₁.setTop (mkF m 1 #[.val (.ref a1), .val (.ref a2)] [(.ref a1)])) _
    refine XS.aloadN X0.here hx rfl (hb hby d10_1) rfl rfl ?_
    show Steps p.tables e below (s₁.setTop (mkF m 2 #[.val (.ref a1), .val (.ref a2)] [(.ref a2), (.ref a1)])) _
    refine XS.aloadN X0.here hx rfl (hb hby d10_2) rfl rfl ?_
    show Steps p.tables e below (s₁.setTop (mkF m 3 #[.val (.ref a1), .val (.ref a2)] [(.ref a2), (.ref a2), (.ref a1)])) _
    refine X0.ldc2DoubleC hx hown (mvT hZ (hw _ (List.mem_of_getElem? (i := 74) rfl))) (g := (mkF m 3 #[.val (.ref a1), .val (.ref a2)] [(.ref a2), (.ref a2), (.ref a1)])) rfl (hb hby d10_3) _ ?_
    show Steps p.tables e below (s₁.setTop (mkF m 6 #[.val (.ref a1), .val (.ref a2)] [(.double (9218868437227405312 : UInt64)), (.ref a2), (.ref a2), (.ref a1)])) _
    refine st3 _ ?_
    show Steps p.tables e below (T3.setTop (mkF m 9 #[.val (.ref a1), .val (.ref a2)] [(.ref x3), (.ref a2), (.ref a1)])) _
    refine XS.aloadN X3.here hx rfl (hb hby d10_9) rfl rfl ?_
    show Steps p.tables e below (T3.setTop (mkF m 10 #[.val (.ref a1), .val (.ref a2)] [(.ref a2), (.ref x3), (.ref a2), (.ref a1)])) _
    refine X3.ldc2DoubleC hx hown (mvT hZ (hw _ (List.mem_of_getElem? (i := 90) rfl))) (g := (mkF m 10 #[.val (.ref a1), .val (.ref a2)] [(.ref a2), (.ref x3), (.ref a2), (.ref a1)])) rfl (hb hby d10_10) _ ?_
    show Steps p.tables e below (T3.setTop (mkF m 13 #[.val (.ref a1), .val (.ref a2)] [(.double (18442240474082181120 : UInt64)), (.ref a2), (.ref x3), (.ref a2), (.ref a1)])) _
    refine st4 _ ?_
    show Steps p.tables e below (T4.setTop (mkF m 16 #[.val (.ref a1), .val (.ref a2)] [(.ref x4), (.ref x3), (.ref a2), (.ref a1)])) _
    refine XS.dconst0 X4.here hx rfl (hb hby d10_16) (v := FP.dconst0) rfl ?_
    show Steps p.tables e below (T4.setTop (mkF m 17 #[.val (.ref a1), .val (.ref a2)] [(.double FP.dconst0), (.ref x4), (.ref x3), (.ref a2), (.ref a1)])) _
    refine XS.iconst X4.here hx rfl (hb hby d10_17) ?_
    show Steps p.tables e below (T4.setTop (mkF m 18 #[.val (.ref a1), .val (.ref a2)] [(.int (0 : Int32)), (.double FP.dconst0), (.ref x4), (.ref x3), (.ref a2), (.ref a1)])) _
    refine st5.trans ?_
    show Steps p.tables e below (T5.setTop (mkF m 21 #[.val (.ref a1), .val (.ref a2)] [])) _
    exact X5.returnOut hx Bd.returns (hb hby d10_21) hr
  · show Qrm10 Z a1 a2 h0 n0 _ T5.heap _
    exact ⟨rfl, N5, ((Keep.refl h0 [a1]).ext Y4).trans K5 (fun x hx => Or.inl hx)⟩
theorem d8_0 : decode prog_4_method_1_code 0 = .ok (.aload_n 0, 1) := by decide +kernel
theorem d8_1 : decode prog_4_method_1_code 1 = .ok (.invokespecial 1, 3) := by decide +kernel
theorem d8_4 : decode prog_4_method_1_code 4 = .ok (.aload_n 2, 1) := by decide +kernel
theorem d8_5 : decode prog_4_method_1_code 5 = .ok (.invokeinterface 7 1, 5) := by decide +kernel
theorem d8_10 : decode prog_4_method_1_code 10 = .ok (.istore_n 3, 1) := by decide +kernel
theorem d8_11 : decode prog_4_method_1_code 11 = .ok (.aload_n 0, 1) := by decide +kernel
theorem d8_12 : decode prog_4_method_1_code 12 = .ok (.aload_n 1, 1) := by decide +kernel
theorem d8_13 : decode prog_4_method_1_code 13 = .ok (.putfield 13, 3) := by decide +kernel
theorem d8_16 : decode prog_4_method_1_code 16 = .ok (.aload_n 0, 1) := by decide +kernel
theorem d8_17 : decode prog_4_method_1_code 17 = .ok (.iload_n 3, 1) := by decide +kernel
theorem d8_18 : decode prog_4_method_1_code 18 = .ok (.anewarray 19, 3) := by decide +kernel
theorem d8_21 : decode prog_4_method_1_code 21 = .ok (.putfield 21, 3) := by decide +kernel
theorem d8_24 : decode prog_4_method_1_code 24 = .ok (.aload_n 0, 1) := by decide +kernel
theorem d8_25 : decode prog_4_method_1_code 25 = .ok (.new 25, 3) := by decide +kernel
theorem d8_28 : decode prog_4_method_1_code 28 = .ok (.dup, 1) := by decide +kernel
theorem d8_29 : decode prog_4_method_1_code 29 = .ok (.aload_n 1, 1) := by decide +kernel
theorem d8_30 : decode prog_4_method_1_code 30 = .ok (.invokespecial 27, 3) := by decide +kernel
theorem d8_33 : decode prog_4_method_1_code 33 = .ok (.putfield 30, 3) := by decide +kernel
theorem d8_36 : decode prog_4_method_1_code 36 = .ok (.iconst 0, 1) := by decide +kernel
theorem d8_37 : decode prog_4_method_1_code 37 = .ok (.istore 4, 2) := by decide +kernel
theorem d8_39 : decode prog_4_method_1_code 39 = .ok (.iload 4, 2) := by decide +kernel
theorem d8_41 : decode prog_4_method_1_code 41 = .ok (.iload_n 3, 1) := by decide +kernel
theorem d8_42 : decode prog_4_method_1_code 42 = .ok (.if_icmp .ge 53, 3) := by decide +kernel
theorem d8_95 : decode prog_4_method_1_code 95 = .ok (.aload_n 0, 1) := by decide +kernel
theorem d8_96 : decode prog_4_method_1_code 96 = .ok (.iload_n 3, 1) := by decide +kernel
theorem d8_97 : decode prog_4_method_1_code 97 = .ok (.anewarray 19, 3) := by decide +kernel
theorem d8_100 : decode prog_4_method_1_code 100 = .ok (.putfield 48, 3) := by decide +kernel
theorem d8_103 : decode prog_4_method_1_code 103 = .ok (.aload_n 0, 1) := by decide +kernel
theorem d8_104 : decode prog_4_method_1_code 104 = .ok (.iload_n 3, 1) := by decide +kernel
theorem d8_105 : decode prog_4_method_1_code 105 = .ok (.anewarray 19, 3) := by decide +kernel
theorem d8_108 : decode prog_4_method_1_code 108 = .ok (.putfield 51, 3) := by decide +kernel
theorem d8_111 : decode prog_4_method_1_code 111 = .ok (.aload_n 0, 1) := by decide +kernel
theorem d8_112 : decode prog_4_method_1_code 112 = .ok (.iload_n 3, 1) := by decide +kernel
theorem d8_113 : decode prog_4_method_1_code 113 = .ok (.anewarray 54, 3) := by decide +kernel
theorem d8_116 : decode prog_4_method_1_code 116 = .ok (.putfield 56, 3) := by decide +kernel
theorem d8_119 : decode prog_4_method_1_code 119 = .ok (.aload_n 0, 1) := by decide +kernel
theorem d8_120 : decode prog_4_method_1_code 120 = .ok (.iload_n 3, 1) := by decide +kernel
theorem d8_121 : decode prog_4_method_1_code 121 = .ok (.newarray .int, 2) := by decide +kernel
theorem d8_123 : decode prog_4_method_1_code 123 = .ok (.putfield 60, 3) := by decide +kernel
theorem d8_126 : decode prog_4_method_1_code 126 = .ok (.return_, 1) := by decide +kernel
theorem pn_8 : plainName "com/example/rematch/rematch/Distances" = true := by first | (simp [plainName, overriddenIn]; done) | decide +kernel
theorem pd_8_4 : parseMethodDescriptor "()I" = some ⟨[], some .int⟩ := by decide +kernel
theorem pd_8_5 : parseMethodDescriptor "(Lcom/example/rematch/rematch/Metric;)V" = some ⟨[(.object "com/example/rematch/rematch/Metric")], none⟩ := by decide +kernel
theorem ef_8 (m : MethodId) (x0 : Addr) (x1 : Addr) (x2 : Addr) : entryFrame m #[(.ref x0), (.ref x1), (.ref x2)] 5 = mkF m 0 #[.val (.ref x0), .val (.ref x1), .val (.ref x2), .unset, .unset] [] := by first | (simp [entryFrame, mkF, argsToLocals, Value.category]; done) | rfl
def Qrm8 (Z : State) (a1 : Addr) (a2 : Addr) (a3 : Addr) (u_metric_a1 : Value) (u_serverAt_a1 : Value) (u_extent_a1 : Value) (u_clientAt_a1 : Value) (u_distanceRow_a1 : Value) (u_slopeRow_a1 : Value) (u_noSlopes_a1 : Value) (h0 : Heap) (n0 : Nat) (v : Option Value) (h : Heap) (L : List Loc) : Prop := v = none ∧ Fr n0 L ∧ Keep h0 h [a1]
set_option maxRecDepth 65536 in
set_option maxHeartbeats 40000000 in
theorem rm8 (l : Launch) (Z : State) (a0 : Array Value) (hw : ∀ d ∈ tables_1, d.before a0 Z = true) (ws : List Jvm.Cond) (a1 : Addr) (a2 : Addr) (a3 : Addr) (u_metric_a1 : Value) (u_serverAt_a1 : Value) (u_extent_a1 : Value) (u_clientAt_a1 : Value) (u_distanceRow_a1 : Value) (u_slopeRow_a1 : Value) (u_noSlopes_a1 : Value) (h0 : Heap) (n0 : Nat) (Z0 : n0 ≤ h0.size) (Fs : Fld Z h0 a3 "java/util/ArrayList" "size" "I" (.int (0 : Int32))) (E_a2 : Exa Z h0 a2 "com/example/rematch/rematch/Metric$1") (wA : Addr) (clA : Cell) (FA : Fld Z h0 a2 "com/example/rematch/rematch/Metric" "axes" "[Lcom/example/rematch/rematch/Metric$Axis;" (.ref wA)) (ArA : Arr Z h0 wA clA (.object "com/example/rematch/rematch/Metric$Axis")) (SA : clA.slots.size = (1 : Int32).toNatClampNeg) (E_a3 : Exa Z h0 a3 "java/util/ArrayList") (E_a1 : Exa Z h0 a1 "com/example/rematch/rematch/Distances") (F_metric_a1 : Fld Z h0 a1 "com/example/rematch/rematch/Distances" "metric" "Lcom/example/rematch/rematch/Metric;" u_metric_a1) (g_a1 : n0 ≤ a1) (F_serverAt_a1 : Fld Z h0 a1 "com/example/rematch/rematch/Distances" "serverAt" "[[D" u_serverAt_a1) (F_extent_a1 : Fld Z h0 a1 "com/example/rematch/rematch/Distances" "extent" "Lcom/example/rematch/rematch/Extent;" u_extent_a1) (F_clientAt_a1 : Fld Z h0 a1 "com/example/rematch/rematch/Distances" "clientAt" "[[D" u_clientAt_a1) (F_distanceRow_a1 : Fld Z h0 a1 "com/example/rematch/rematch/Distances" "distanceRow" "[[D" u_distanceRow_a1) (F_slopeRow_a1 : Fld Z h0 a1 "com/example/rematch/rematch/Distances" "slopeRow" "[[I" u_slopeRow_a1) (F_noSlopes_a1 : Fld Z h0 a1 "com/example/rematch/rematch/Distances" "noSlopes" "[I" u_noSlopes_a1) :
    MetFree l (⟨"com/example/rematch/rematch/Distances", "<init>", "(Lcom/example/rematch/rematch/Metric;Ljava/util/List;)V"⟩ : MethodName) (head1 (Jvm.Cond.code (⟨"com/example/rematch/rematch/Distances", "<init>", "(Lcom/example/rematch/rematch/Metric;Ljava/util/List;)V"⟩ : MethodName) prog_4_method_1_code 5 none :: ws) ({ frames := 3, cells := 8, slots := 7, locals := 49 } : Room)) (fun a U => a = #[(.ref a1), (.ref a2), (.ref a3)] ∧ Z.Warmed39 U.vm ∧ U.heap = h0) (fun _ _ _ _ _ => True) (fun _ U o U' => ∃ v L, o = .returned v ∧ Qrm8 Z a1 a2 a3 u_metric_a1 u_serverAt_a1 u_extent_a1 u_clientAt_a1 u_distanceRow_a1 u_slopeRow_a1 u_noSlopes_a1 h0 n0 v U'.heap L ∧ FrameEnd U o U' L ({ frames := 3, cells := 8, slots := 7, locals := 49 } : Room).cells ({ frames := 3, cells := 8, slots := 7, locals := 49 } : Room).slots) := by
  refine MetFree.of_bodySF (plainFor_of_name pn_8) hisR ?_
  intro p e s m args below meth c s₁ Bd hml0 hP hK
  obtain ⟨rfl, hZ, hh⟩ := hP
  have hx := Bd.exec
  have hby := Bd.bytes
  have hml : c.maxLocals = 5 := hml0
  have hown : s.vm.findClass "com/example/rematch/rematch/Distances" = some m.cls := findClass_of_methodNamed Bd.named
  have hnm := (name_of_methodNamed Bd.named Bd.method).1
  have X0 : Stand p l e ({ frames := 3, cells := 8, slots := 7, locals := 49 } : Room) s m #[(.ref a1), (.ref a2), (.ref a3)] below meth c s₁ [] 0 0 := Stand.of_body Bd
  have e0 : s₁.heap = h0 := by rw [← hh, Bd.state]; rfl
  have N0 := Fr.nil n0
  have pre0 : ∀ t, Steps p.tables e below (s₁.setTop (mkF m 0 #[.val (.ref a1), .val (.ref a2), .val (.ref a3), .unset, .unset] [])) t → Steps p.tables e below (s₁.setTop (entryFrame m #[(.ref a1), (.ref a2), (.ref a3)] 5)) t := fun t k => castTop (ef_8 m a1 a2 a3) k
  obtain ⟨T4, X4, e4, st4⟩ := initO X0 hx hZ hown (hw _ (List.mem_of_getElem? (i := 50) rfl)) (hw _ (List.mem_of_getElem? (i := 33) rfl)) (hw _ (List.mem_of_getElem? (i := 34) rfl)) e0 (g := (mkF m 1 #[.val (.ref a1), .val (.ref a2), .val (.ref a3), .unset, .unset] [(.ref a1)])) rfl (by rw [hml]; rfl) rfl (hb hby d8_1) (by decide) (W := 0) (by show 2 * 0 + _ ≤ _; exact Nat.le_of_eq rfl) (by decide)
  obtain ⟨cq5, kq5, q5a, q5b, q5c⟩ := isOf hZ e4 E_a3
  obtain ⟨_, _, ⟨T5, L5, k5, n5⟩, -, X5, ⟨Lc5, hQ5, l5, y5, z5⟩, st5⟩ := X4.interfaceBack hx (xi := (⟨"java/util/List", "size", "()I"⟩ : MethodName)) (y := (⟨"java/util/ArrayList", "size", "()I"⟩ : MethodName)) hown (mvT hZ (hw _ (List.mem_of_getElem? (i := 51) rfl))) (mvT hZ (hw _ (List.mem_of_getElem? (i := 52) rfl))) (mvT hZ (hw _ (List.mem_of_getElem? (i := 53) rfl))) (mvT hZ (hw _ (List.mem_of_getElem? (i := 54) rfl))) (mvT hZ (hw _ (List.mem_of_getElem? (i := 55) rfl))) (mvT hZ (hw _ (List.mem_of_getElem? (i := 56) rfl))) (mvT hZ (hw _ (List.mem_of_getElem? (i := 57) rfl))) (mvT hZ (hw _ (List.mem_of_getElem? (i := 58) rfl))) (by decide) (backOf (W := 0) (rm9 l Z a0 hw [] a3 (0 : Int32) h0 n0 Z0 Fs) hZ (hw _ (List.mem_of_getElem? (i := 59) rfl)) (hw _ (List.mem_of_getElem? (i := 16) rfl)) (by decide) (by decide)) q5a q5b q5c (g := (mkF m 5 #[.val (.ref a1), .val (.ref a2), .val (.ref a3), .unset, .unset] [(.ref a3)])) rfl (by rw [hml]; rfl) (Steps.refl _) (argsL := []) (rest := []) (lenOf pd_8_4 rfl) rfl (by show 2 * 0 + _ ≤ _; exact Nat.le_of_eq rfl) (hb hby d8_5) (fun _ _ => ⟨rfl, e4, (by decide : 0 + 0 ≤ _), (by decide : 0 + 0 ≤ _)⟩)
  dsimp only [Pt.U, Pt.locs, Pt.cells, Pt.slots] at X5 l5 y5 z5 st5 hQ5
  subst l5 y5 z5
  obtain ⟨rfl, N5q, e5⟩ := hQ5
  have N5 := Fr.app N0 N5q
  obtain ⟨T6, h6, X6, e6, W6, st6⟩ := putF X5 hx hZ hown (host := "") (Or.inl (hw _ (List.mem_of_getElem? (i := 62) rfl))) Via.refl e5 F_metric_a1 E_a1 (Or.inr ⟨(hw _ (List.mem_of_getElem? (i := 63) rfl)), rfl, hnm⟩) (hw _ (List.mem_of_getElem? (i := 45) rfl)) (ty := (.object "com/example/rematch/rematch/Metric")) (by decide) rfl rfl (g := (mkF m 13 #[.val (.ref a1), .val (.ref a2), .val (.ref a3), .val (.int (0 : Int32)), .unset] [(.ref a2), (.ref a1)])) rfl rfl (hb hby d8_13)
  have Fw6 := F_metric_a1.same W6      -- the field now holds (.ref a2)
  have K6 : Keep h0 h6 [a1] := (Keep.refl h0 _).wr W6 (Or.inl (List.mem_of_getElem? (i := 0) rfl))
  have N6 := Fr.snoc X6 N5 g_a1
  obtain ⟨T7, h7, k7, X7, e7, E7, A7, Y7, O7, st7⟩ := newRA X6 hx hZ (ty := .double) hown (C := "[D") (by decide) (hw _ (List.mem_of_getElem? (i := 64) rfl)) (hw _ (List.mem_of_getElem? (i := 65) rfl)) e6 (g := (mkF m 18 #[.val (.ref a1), .val (.ref a2), .val (.ref a3), .val (.int (0 : Int32)), .unset] [(.int (0 : Int32)), (.ref a1)])) rfl (hb hby d8_18) rfl (by decide) (cap := 0) (by decide) (by decide) (by decide) (by decide) (ad := "[[D") (by decide)
  obtain ⟨b7, g7⟩ : ∃ z, z = h6.size := ⟨_, rfl⟩      -- the fresh array's address
  rw [← g7] at A7 st7
  have V_b7 := Arv.new A7 (by decide)
  have g_b7 : n0 ≤ b7 := Nat.le_trans (Nat.le_trans (Nat.le_trans Z0 (Nat.le_refl _)) (Keep.of_wr W6).1) (Nat.le_of_eq g7.symm)
  have sz_b7 : h0.size ≤ b7 := (Nat.le_trans K6.1 (Nat.le_of_eq g7.symm))
  have K7 : Keep h0 h7 [a1] := K6.ext E7
  obtain ⟨T8, h8, X8, e8, W8, st8⟩ := putF X7 hx hZ hown (host := "") (Or.inl (hw _ (List.mem_of_getElem? (i := 66) rfl))) Via.refl e7 ((F_serverAt_a1.other W6 (Or.inr (slot_ne (Or.inr (hw _ (List.mem_of_getElem? (i := 67) rfl))) (Or.inr (hw _ (List.mem_of_getElem? (i := 63) rfl))) (by decide) (t := (.array (.array .double))) (t' := (.object "com/example/rematch/rematch/Metric")) (by decide) (by decide)))).ext E7) ((E_a1.wr W6).ext E7) (Or.inr ⟨(hw _ (List.mem_of_getElem? (i := 67) rfl)), rfl, hnm⟩) (hw _ (List.mem_of_getElem? (i := 45) rfl)) (ty := (.array (.array .double))) (by decide) rfl rfl (g := (mkF m 21 #[.val (.ref a1), .val (.ref a2), .val (.ref a3), .val (.int (0 : Int32)), .unset] [(.ref b7), (.ref a1)])) rfl rfl (hb hby d8_21)
  have Fw8 := ((F_serverAt_a1.other W6 (Or.inr (slot_ne (Or.inr (hw _ (List.mem_of_getElem? (i := 67) rfl))) (Or.inr (hw _ (List.mem_of_getElem? (i := 63) rfl))) (by decide) (t := (.array (.array .double))) (t' := (.object "com/example/rematch/rematch/Metric")) (by decide) (by decide)))).ext E7).same W8      -- the field now holds (.ref b7)
  have K8 : Keep h0 h8 [a1] := K7.wr W8 (Or.inl (List.mem_of_getElem? (i := 0) rfl))
  have N8 := Fr.snoc X8 N6 g_a1
  obtain ⟨T9, h9, X9, e9, E9, A9, D9, -, st9⟩ := newO X8 hx hZ hown (hw _ (List.mem_of_getElem? (i := 68) rfl)) (hw _ (List.mem_of_getElem? (i := 69) rfl)) (hw _ (List.mem_of_getElem? (i := 70) rfl)) e8 (g := (mkF m 25 #[.val (.ref a1), .val (.ref a2), .val (.ref a3), .val (.int (0 : Int32)), .unset] [(.ref a1)])) rfl (hb hby d8_25) (by decide) (by decide)
  obtain ⟨b9, g9⟩ : ∃ z, z = h8.size := ⟨_, rfl⟩      -- the fresh object's address
  rw [← g9] at A9 D9 st9      -- A9 : Exa Z h9 b9 "com/example/rematch/rematch/Extent"; E9 : Ext h8 h9 (carries every older fact: .ext E9)
  have F_metric_b9 : Fld Z h9 b9 "com/example/rematch/rematch/Extent" "metric" "Lcom/example/rematch/rematch/Metric;" .null := D9 (Or.inr (hw _ (List.mem_of_getElem? (i := 96) rfl))) (ty := (.object "com/example/rematch/rematch/Metric")) (by decide)
  have F_low_b9 : Fld Z h9 b9 "com/example/rematch/rematch/Extent" "low" "[D" .null := D9 (Or.inr (hw _ (List.mem_of_getElem? (i := 98) rfl))) (ty := (.array .double)) (by decide)
  have F_high_b9 : Fld Z h9 b9 "com/example/rematch/rematch/Extent" "high" "[D" .null := D9 (Or.inr (hw _ (List.mem_of_getElem? (i := 100) rfl))) (ty := (.array .double)) (by decide)
  have F_latestTime_b9 : Fld Z h9 b9 "com/example/rematch/rematch/Extent" "latestTime" "D" (.double (0 : UInt64)) := D9 (Or.inr (hw _ (List.mem_of_getElem? (i := 102) rfl))) (ty := .double) (by decide)
  have F_summed_b9 : Fld Z h9 b9 "com/example/rematch/rematch/Extent" "summed" "I" (.int (0 : Int32)) := D9 (Or.inr (hw _ (List.mem_of_getElem? (i := 104) rfl))) (ty := .int) (by decide)
  have E_b9 := A9
  have g_b9 : n0 ≤ b9 := Nat.le_trans (Nat.le_trans (Nat.le_trans (Nat.le_trans (Nat.le_trans Z0 (Nat.le_refl _)) (Keep.of_wr W6).1) E7.1) (Keep.of_wr W8).1) (Nat.le_of_eq g9.symm)
  have sz_b9 : h0.size ≤ b9 := (Nat.le_trans K8.1 (Nat.le_of_eq g9.symm))
  have K9 : Keep h0 h9 [a1] := K8.ext E9
  have neM : a2 ≠ a1 := ne_exa E_a2 E_a1 (by decide)
  have neA : wA ≠ a1 := (ne_arr E_a1 (hw _ (List.mem_of_getElem? (i := 45) rfl)) ArA).symm
  have EM9 := (((E_a2.wr W6).ext E7).wr W8).ext E9
  have FA9 := (((FA.other W6 (Or.inl neM)).ext E7).other W8 (Or.inl neM)).ext E9
  have ArA9 := (((ArA.other W6 neA).ext E7).other W8 neA).ext E9
  obtain ⟨_, _, ⟨T10, L10, k10, n10⟩, -, X10, ⟨Lc10, hQ10, l10, y10, z10⟩, st10⟩ := X9.specialBack hx (y := (⟨"com/example/rematch/rematch/Extent", "<init>", "(Lcom/example/rematch/rematch/Metric;)V"⟩ : MethodName)) rfl hown (mvT hZ (hw _ (List.mem_of_getElem? (i := 71) rfl))) (mvT hZ (hw _ (List.mem_of_getElem? (i := 72) rfl))) (mvT hZ (hw _ (List.mem_of_getElem? (i := 73) rfl))) (by decide) (backOf (W := 2) (rm10 l Z a0 hw [] b9 a2 h9 n0 (Nat.le_trans Z0 K9.1) E_b9 g_b9 EM9 F_metric_b9 F_low_b9 F_high_b9 F_latestTime_b9 F_summed_b9 wA clA FA9 ArA9 SA) hZ (hw _ (List.mem_of_getElem? (i := 73) rfl)) (hw _ (List.mem_of_getElem? (i := 70) rfl)) (by decide) (by decide)) (g := (mkF m 30 #[.val (.ref a1), .val (.ref a2), .val (.ref a3), .val (.int (0 : Int32)), .unset] [(.ref a2), (.ref b9), (.ref b9), (.ref a1)])) rfl (by rw [hml]; rfl) (Steps.refl _) (a := b9) (argsL := [(.ref a2)]) (rest := [(.ref b9), (.ref a1)]) (lenOf pd_8_5 rfl) rfl (by show 2 * 0 + _ ≤ _; exact Nat.le_of_eq rfl) (hb hby d8_30) (fun _ _ => ⟨rfl, e9, (by decide : 2 + 2 ≤ _), (by decide : 5 + 2 ≤ _)⟩)
  dsimp only [Pt.U, Pt.locs, Pt.cells, Pt.slots] at X10 l10 y10 z10 st10 hQ10
  subst l10 y10 z10
  obtain ⟨rfl, N10q, K10⟩ := hQ10
  have P10 : Keep h0 T10.heap [a1] := K9.trans K10 (allS (Or.inr sz_b9) all0)
  have N10 := Fr.app N8 N10q
  obtain ⟨T11, h11, X11, e11, W11, st11⟩ := putF X10 hx hZ hown (host := "") (Or.inl (hw _ (List.mem_of_getElem? (i := 105) rfl))) Via.refl rfl (((((F_extent_a1.other W6 (Or.inr (slot_ne (Or.inl (hw _ (List.mem_of_getElem? (i := 106) rfl))) (Or.inr (hw _ (List.mem_of_getElem? (i := 63) rfl))) (by decide) (t := (.object "com/example/rematch/rematch/Extent")) (t' := (.object "com/example/rematch/rematch/Metric")) (by decide) (by decide)))).ext E7).other W8 (Or.inr (slot_ne (Or.inl (hw _ (List.mem_of_getElem? (i := 106) rfl))) (Or.inr (hw _ (List.mem_of_getElem? (i := 67) rfl))) (by decide) (t := (.object "com/example/rematch/rematch/Extent")) (t' := (.array (.array .double))) (by decide) (by decide)))).ext E9).keep K10 (own_nin (Nat.lt_of_lt_of_le E_a1.lt sz_b9))) (((((E_a1.wr W6).ext E7).wr W8).ext E9).keep K10) (Or.inl (hw _ (List.mem_of_getElem? (i := 106) rfl))) (hw _ (List.mem_of_getElem? (i := 45) rfl)) (ty := (.object "com/example/rematch/rematch/Extent")) (by decide) rfl rfl (g := (mkF m 33 #[.val (.ref a1), .val (.ref a2), .val (.ref a3), .val (.int (0 : Int32)), .unset] [(.ref b9), (.ref a1)])) rfl rfl (hb hby d8_33)
  have Fw11 := (((((F_extent_a1.other W6 (Or.inr (slot_ne (Or.inl (hw _ (List.mem_of_getElem? (i := 106) rfl))) (Or.inr (hw _ (List.mem_of_getElem? (i := 63) rfl))) (by decide) (t := (.object "com/example/rematch/rematch/Extent")) (t' := (.object "com/example/rematch/rematch/Metric")) (by decide) (by decide)))).ext E7).other W8 (Or.inr (slot_ne (Or.inl (hw _ (List.mem_of_getElem? (i := 106) rfl))) (Or.inr (hw _ (List.mem_of_getElem? (i := 67) rfl))) (by decide) (t := (.object "com/example/rematch/rematch/Extent")) (t' := (.array (.array .double))) (by decide) (by decide)))).ext E9).keep K10 (own_nin (Nat.lt_of_lt_of_le E_a1.lt sz_b9))).same W11      -- the field now holds (.ref b9)
  have K11 : Keep h0 h11 [a1] := P10.wr W11 (Or.inl (List.mem_of_getElem? (i := 0) rfl))
  have N11 := Fr.snoc X11 N10 g_a1
  obtain ⟨T12, h12, k12, X12, e12, E12, A12, Y12, O12, st12⟩ := newRA X11 hx hZ (ty := .double) hown (C := "[D") (by decide) (hw _ (List.mem_of_getElem? (i := 64) rfl)) (hw _ (List.mem_of_getElem? (i := 65) rfl)) e11 (g := (mkF m 97 #[.val (.ref a1), .val (.ref a2), .val (.ref a3), .val (.int (0 : Int32)), .val (.int (0 : Int32))] [(.int (0 : Int32)), (.ref a1)])) rfl (hb hby d8_97) rfl (by decide) (cap := 0) (by decide) (by decide) (by decide) (by decide) (ad := "[[D") (by decide)
  obtain ⟨b12, g12⟩ : ∃ z, z = h11.size := ⟨_, rfl⟩      -- the fresh array's address
  rw [← g12] at A12 st12
  have V_b12 := Arv.new A12 (by decide)
  have g_b12 : n0 ≤ b12 := Nat.le_trans (Nat.le_trans (Nat.le_trans (Nat.le_trans (Nat.le_trans (Nat.le_trans (Nat.le_trans (Nat.le_trans Z0 (Nat.le_refl _)) (Keep.of_wr W6).1) E7.1) (Keep.of_wr W8).1) E9.1) K10.1) (Keep.of_wr W11).1) (Nat.le_of_eq g12.symm)
  have sz_b12 : h0.size ≤ b12 := (Nat.le_trans K11.1 (Nat.le_of_eq g12.symm))
  have K12 : Keep h0 h12 [a1] := K11.ext E12
  obtain ⟨T13, h13, X13, e13, W13, st13⟩ := putF X12 hx hZ hown (host := "") (Or.inl (hw _ (List.mem_of_getElem? (i := 107) rfl))) Via.refl e12 (((((((F_clientAt_a1.other W6 (Or.inr (slot_ne (Or.inr (hw _ (List.mem_of_getElem? (i := 108) rfl))) (Or.inr (hw _ (List.mem_of_getElem? (i := 63) rfl))) (by decide) (t := (.array (.array .double))) (t' := (.object "com/example/rematch/rematch/Metric")) (by decide) (by decide)))).ext E7).other W8 (Or.inr (slot_ne (Or.inr (hw _ (List.mem_of_getElem? (i := 108) rfl))) (Or.inr (hw _ (List.mem_of_getElem? (i := 67) rfl))) (by decide) (t := (.array (.array .double))) (t' := (.array (.array .double))) (by decide) (by decide)))).ext E9).keep K10 (own_nin (Nat.lt_of_lt_of_le E_a1.lt sz_b9))).other W11 (Or.inr (slot_ne (Or.inr (hw _ (List.mem_of_getElem? (i := 108) rfl))) (Or.inl (hw _ (List.mem_of_getElem? (i := 106) rfl))) (by decide) (t := (.array (.array .double))) (t' := (.object "com/example/rematch/rematch/Extent")) (by decide) (by decide)))).ext E12) (((((((E_a1.wr W6).ext E7).wr W8).ext E9).keep K10).wr W11).ext E12) (Or.inr ⟨(hw _ (List.mem_of_getElem? (i := 108) rfl)), rfl, hnm⟩) (hw _ (List.mem_of_getElem? (i := 45) rfl)) (ty := (.array (.array .double))) (by decide) rfl rfl (g := (mkF m 100 #[.val (.ref a1), .val (.ref a2), .val (.ref a3), .val (.int (0 : Int32)), .val (.int (0 : Int32))] [(.ref b12), (.ref a1)])) rfl rfl (hb hby d8_100)
  have Fw13 := (((((((F_clientAt_a1.other W6 (Or.inr (slot_ne (Or.inr (hw _ (List.mem_of_getElem? (i := 108) rfl))) (Or.inr (hw _ (List.mem_of_getElem? (i := 63) rfl))) (by decide) (t := (.array (.array .double))) (t' := (.object "com/example/rematch/rematch/Metric")) (by decide) (by decide)))).ext E7).other W8 (Or.inr (slot_ne (Or.inr (hw _ (List.mem_of_getElem? (i := 108) rfl))) (Or.inr (hw _ (List.mem_of_getElem? (i := 67) rfl))) (by decide) (t := (.array (.array .double))) (t' := (.array (.array .double))) (by decide) (by decide)))).ext E9).keep K10 (own_nin (Nat.lt_of_lt_of_le E_a1.lt sz_b9))).other W11 (Or.inr (slot_ne (Or.inr (hw _ (List.mem_of_getElem? (i := 108) rfl))) (Or.inl (hw _ (List.mem_of_getElem? (i := 106) rfl))) (by decide) (t := (.array (.array .double))) (t' := (.object "com/example/rematch/rematch/Extent")) (by decide) (by decide)))).ext E12).same W13      -- the field now holds (.ref b12)
  have K13 : Keep h0 h13 [a1] := K12.wr W13 (Or.inl (List.mem_of_getElem? (i := 0) rfl))
  have N13 := Fr.snoc X13 N11 g_a1
  obtain ⟨T14, h14, k14, X14, e14, E14, A14, Y14, O14, st14⟩ := newRA X13 hx hZ (ty := .double) hown (C := "[D") (by decide) (hw _ (List.mem_of_getElem? (i := 64) rfl)) (hw _ (List.mem_of_getElem? (i := 65) rfl)) e13 (g := (mkF m 105 #[.val (.ref a1), .val (.ref a2), .val (.ref a3), .val (.int (0 : Int32)), .val (.int (0 : Int32))] [(.int (0 : Int32)), (.ref a1)])) rfl (hb hby d8_105) rfl (by decide) (cap := 0) (by decide) (by decide) (by decide) (by decide) (ad := "[[D") (by decide)
  obtain ⟨b14, g14⟩ : ∃ z, z = h13.size := ⟨_, rfl⟩      -- the fresh array's address
  rw [← g14] at A14 st14
  have V_b14 := Arv.new A14 (by decide)
  have g_b14 : n0 ≤ b14 := Nat.le_trans (Nat.le_trans (Nat.le_trans (Nat.le_trans (Nat.le_trans (Nat.le_trans (Nat.le_trans (Nat.le_trans (Nat.le_trans (Nat.le_trans Z0 (Nat.le_refl _)) (Keep.of_wr W6).1) E7.1) (Keep.of_wr W8).1) E9.1) K10.1) (Keep.of_wr W11).1) E12.1) (Keep.of_wr W13).1) (Nat.le_of_eq g14.symm)
  have sz_b14 : h0.size ≤ b14 := (Nat.le_trans K13.1 (Nat.le_of_eq g14.symm))
  have K14 : Keep h0 h14 [a1] := K13.ext E14
  obtain ⟨T15, h15, X15, e15, W15, st15⟩ := putF X14 hx hZ hown (host := "") (Or.inl (hw _ (List.mem_of_getElem? (i := 109) rfl))) Via.refl e14 (((((((((F_distanceRow_a1.other W6 (Or.inr (slot_ne (Or.inr (hw _ (List.mem_of_getElem? (i := 110) rfl))) (Or.inr (hw _ (List.mem_of_getElem? (i := 63) rfl))) (by decide) (t := (.array (.array .double))) (t' := (.object "com/example/rematch/rematch/Metric")) (by decide) (by decide)))).ext E7).other W8 (Or.inr (slot_ne (Or.inr (hw _ (List.mem_of_getElem? (i := 110) rfl))) (Or.inr (hw _ (List.mem_of_getElem? (i := 67) rfl))) (by decide) (t := (.array (.array .double))) (t' := (.array (.array .double))) (by decide) (by decide)))).ext E9).keep K10 (own_nin (Nat.lt_of_lt_of_le E_a1.lt sz_b9))).other W11 (Or.inr (slot_ne (Or.inr (hw _ (List.mem_of_getElem? (i := 110) rfl))) (Or.inl (hw _ (List.mem_of_getElem? (i := 106) rfl))) (by decide) (t := (.array (.array .double))) (t' := (.object "com/example/rematch/rematch/Extent")) (by decide) (by decide)))).ext E12).other W13 (Or.inr (slot_ne (Or.inr (hw _ (List.mem_of_getElem? (i := 110) rfl))) (Or.inr (hw _ (List.mem_of_getElem? (i := 108) rfl))) (by decide) (t := (.array (.array .double))) (t' := (.array (.array .double))) (by decide) (by decide)))).ext E14) (((((((((E_a1.wr W6).ext E7).wr W8).ext E9).keep K10).wr W11).ext E12).wr W13).ext E14) (Or.inr ⟨(hw _ (List.mem_of_getElem? (i := 110) rfl)), rfl, hnm⟩) (hw _ (List.mem_of_getElem? (i := 45) rfl)) (ty := (.array (.array .double))) (by decide) rfl rfl (g := (mkF m 108 #[.val (.ref a1), .val (.ref a2), .val (.ref a3), .val (.int (0 : Int32)), .val (.int (0 : Int32))] [(.ref b14), (.ref a1)])) rfl rfl (hb hby d8_108)
  have Fw15 := (((((((((F_distanceRow_a1.other W6 (Or.inr (slot_ne (Or.inr (hw _ (List.mem_of_getElem? (i := 110) rfl))) (Or.inr (hw _ (List.mem_of_getElem? (i := 63) rfl))) (by decide) (t := (.array (.array .double))) (t' := (.object "com/example/rematch/rematch/Metric")) (by decide) (by decide)))).ext E7).other W8 (Or.inr (slot_ne (Or.inr (hw _ (List.mem_of_getElem? (i := 110) rfl))) (Or.inr (hw _ (List.mem_of_getElem? (i := 67) rfl))) (by decide) (t := (.array (.array .double))) (t' := (.array (.array .double))) (by decide) (by decide)))).ext E9).keep K10 (own_nin (Nat.lt_of_lt_of_le E_a1.lt sz_b9))).other W11 (Or.inr (slot_ne (Or.inr (hw _ (List.mem_of_getElem? (i := 110) rfl))) (Or.inl (hw _ (List.mem_of_getElem? (i := 106) rfl))) (by decide) (t := (.array (.array .double))) (t' := (.object "com/example/rematch/rematch/Extent")) (by decide) (by decide)))).ext E12).other W13 (Or.inr (slot_ne (Or.inr (hw _ (List.mem_of_getElem? (i := 110) rfl))) (Or.inr (hw _ (List.mem_of_getElem? (i := 108) rfl))) (by decide) (t := (.array (.array .double))) (t' := (.array (.array .double))) (by decide) (by decide)))).ext E14).same W15      -- the field now holds (.ref b14)
  have K15 : Keep h0 h15 [a1] := K14.wr W15 (Or.inl (List.mem_of_getElem? (i := 0) rfl))
  have N15 := Fr.snoc X15 N13 g_a1
  obtain ⟨T16, h16, k16, X16, e16, E16, A16, Y16, O16, st16⟩ := newRA X15 hx hZ (ty := .int) hown (C := "[I") (by decide) (hw _ (List.mem_of_getElem? (i := 111) rfl)) (hw _ (List.mem_of_getElem? (i := 112) rfl)) e15 (g := (mkF m 113 #[.val (.ref a1), .val (.ref a2), .val (.ref a3), .val (.int (0 : Int32)), .val (.int (0 : Int32))] [(.int (0 : Int32)), (.ref a1)])) rfl (hb hby d8_113) rfl (by decide) (cap := 0) (by decide) (by decide) (by decide) (by decide) (ad := "[[I") (by decide)
  obtain ⟨b16, g16⟩ : ∃ z, z = h15.size := ⟨_, rfl⟩      -- the fresh array's address
  rw [← g16] at A16 st16
  have V_b16 := Arv.new A16 (by decide)
  have g_b16 : n0 ≤ b16 := Nat.le_trans (Nat.le_trans (Nat.le_trans (Nat.le_trans (Nat.le_trans (Nat.le_trans (Nat.le_trans (Nat.le_trans (Nat.le_trans (Nat.le_trans (Nat.le_trans (Nat.le_trans Z0 (Nat.le_refl _)) (Keep.of_wr W6).1) E7.1) (Keep.of_wr W8).1) E9.1) K10.1) (Keep.of_wr W11).1) E12.1) (Keep.of_wr W13).1) E14.1) (Keep.of_wr W15).1) (Nat.le_of_eq g16.symm)
  have sz_b16 : h0.size ≤ b16 := (Nat.le_trans K15.1 (Nat.le_of_eq g16.symm))
  have K16 : Keep h0 h16 [a1] := K15.ext E16
  obtain ⟨T17, h17, X17, e17, W17, st17⟩ := putF X16 hx hZ hown (host := "") (Or.inl (hw _ (List.mem_of_getElem? (i := 113) rfl))) Via.refl e16 (((((((((((F_slopeRow_a1.other W6 (Or.inr (slot_ne (Or.inr (hw _ (List.mem_of_getElem? (i := 114) rfl))) (Or.inr (hw _ (List.mem_of_getElem? (i := 63) rfl))) (by decide) (t := (.array (.array .int))) (t' := (.object "com/example/rematch/rematch/Metric")) (by decide) (by decide)))).ext E7).other W8 (Or.inr (slot_ne (Or.inr (hw _ (List.mem_of_getElem? (i := 114) rfl))) (Or.inr (hw _ (List.mem_of_getElem? (i := 67) rfl))) (by decide) (t := (.array (.array .int))) (t' := (.array (.array .double))) (by decide) (by decide)))).ext E9).keep K10 (own_nin (Nat.lt_of_lt_of_le E_a1.lt sz_b9))).other W11 (Or.inr (slot_ne (Or.inr (hw _ (List.mem_of_getElem? (i := 114) rfl))) (Or.inl (hw _ (List.mem_of_getElem? (i := 106) rfl))) (by decide) (t := (.array (.array .int))) (t' := (.object "com/example/rematch/rematch/Extent")) (by decide) (by decide)))).ext E12).other W13 (Or.inr (slot_ne (Or.inr (hw _ (List.mem_of_getElem? (i := 114) rfl))) (Or.inr (hw _ (List.mem_of_getElem? (i := 108) rfl))) (by decide) (t := (.array (.array .int))) (t' := (.array (.array .double))) (by decide) (by decide)))).ext E14).other W15 (Or.inr (slot_ne (Or.inr (hw _ (List.mem_of_getElem? (i := 114) rfl))) (Or.inr (hw _ (List.mem_of_getElem? (i := 110) rfl))) (by decide) (t := (.array (.array .int))) (t' := (.array (.array .double))) (by decide) (by decide)))).ext E16) (((((((((((E_a1.wr W6).ext E7).wr W8).ext E9).keep K10).wr W11).ext E12).wr W13).ext E14).wr W15).ext E16) (Or.inr ⟨(hw _ (List.mem_of_getElem? (i := 114) rfl)), rfl, hnm⟩) (hw _ (List.mem_of_getElem? (i := 45) rfl)) (ty := (.array (.array .int))) (by decide) rfl rfl (g := (mkF m 116 #[.val (.ref a1), .val (.ref a2), .val (.ref a3), .val (.int (0 : Int32)), .val (.int (0 : Int32))] [(.ref b16), (.ref a1)])) rfl rfl (hb hby d8_116)
  have Fw17 := (((((((((((F_slopeRow_a1.other W6 (Or.inr (slot_ne (Or.inr (hw _ (List.mem_of_getElem? (i := 114) rfl))) (Or.inr (hw _ (List.mem_of_getElem? (i := 63) rfl))) (by decide) (t := (.array (.array .int))) (t' := (.object "com/example/rematch/rematch/Metric")) (by decide) (by decide)))).ext E7).other W8 (Or.inr (slot_ne (Or.inr (hw _ (List.mem_of_getElem? (i := 114) rfl))) (Or.inr (hw _ (List.mem_of_getElem? (i := 67) rfl))) (by decide) (t := (.array (.array .int))) (t' := (.array (.array .double))) (by decide) (by decide)))).ext E9).keep K10 (own_nin (Nat.lt_of_lt_of_le E_a1.lt sz_b9))).other W11 (Or.inr (slot_ne (Or.inr (hw _ (List.mem_of_getElem? (i := 114) rfl))) (Or.inl (hw _ (List.mem_of_getElem? (i := 106) rfl))) (by decide) (t := (.array (.array .int))) (t' := (.object "com/example/rematch/rematch/Extent")) (by decide) (by decide)))).ext E12).other W13 (Or.inr (slot_ne (Or.inr (hw _ (List.mem_of_getElem? (i := 114) rfl))) (Or.inr (hw _ (List.mem_of_getElem? (i := 108) rfl))) (by decide) (t := (.array (.array .int))) (t' := (.array (.array .double))) (by decide) (by decide)))).ext E14).other W15 (Or.inr (slot_ne (Or.inr (hw _ (List.mem_of_getElem? (i := 114) rfl))) (Or.inr (hw _ (List.mem_of_getElem? (i := 110) rfl))) (by decide) (t := (.array (.array .int))) (t' := (.array (.array .double))) (by decide) (by decide)))).ext E16).same W17      -- the field now holds (.ref b16)
  have K17 : Keep h0 h17 [a1] := K16.wr W17 (Or.inl (List.mem_of_getElem? (i := 0) rfl))
  have N17 := Fr.snoc X17 N15 g_a1
  obtain ⟨T18, h18, k18, X18, e18, E18, A18, st18⟩ := newP X17 hx hZ (hw _ (List.mem_of_getElem? (i := 0) rfl)) e17 (g := (mkF m 121 #[.val (.ref a1), .val (.ref a2), .val (.ref a3), .val (.int (0 : Int32)), .val (.int (0 : Int32))] [(.int (0 : Int32)), (.ref a1)])) rfl (hb hby d8_121) rfl (by decide) (cap := 0) (by decide) (by decide) (by decide) (by decide)
  obtain ⟨b18, g18⟩ : ∃ z, z = h17.size := ⟨_, rfl⟩      -- the fresh array's address
  rw [← g18] at A18 st18
  have V_b18 := Arv.new A18 (by decide)      -- Arv Z h18 b18 k18 .int (0 : Int32) [] (its first value); a place must be in the list before it's written: Arv.pad with pad_rep
  have g_b18 : n0 ≤ b18 := Nat.le_trans (Nat.le_trans (Nat.le_trans (Nat.le_trans (Nat.le_trans (Nat.le_trans (Nat.le_trans (Nat.le_trans (Nat.le_trans (Nat.le_trans (Nat.le_trans (Nat.le_trans (Nat.le_trans (Nat.le_trans Z0 (Nat.le_refl _)) (Keep.of_wr W6).1) E7.1) (Keep.of_wr W8).1) E9.1) K10.1) (Keep.of_wr W11).1) E12.1) (Keep.of_wr W13).1) E14.1) (Keep.of_wr W15).1) E16.1) (Keep.of_wr W17).1) (Nat.le_of_eq g18.symm)
  have sz_b18 : h0.size ≤ b18 := (Nat.le_trans K17.1 (Nat.le_of_eq g18.symm))
  have K18 : Keep h0 h18 [a1] := K17.ext E18
  obtain ⟨T19, h19, X19, e19, W19, st19⟩ := putF X18 hx hZ hown (host := "") (Or.inl (hw _ (List.mem_of_getElem? (i := 115) rfl))) Via.refl e18 (((((((((((((F_noSlopes_a1.other W6 (Or.inr (slot_ne (Or.inr (hw _ (List.mem_of_getElem? (i := 116) rfl))) (Or.inr (hw _ (List.mem_of_getElem? (i := 63) rfl))) (by decide) (t := (.array .int)) (t' := (.object "com/example/rematch/rematch/Metric")) (by decide) (by decide)))).ext E7).other W8 (Or.inr (slot_ne (Or.inr (hw _ (List.mem_of_getElem? (i := 116) rfl))) (Or.inr (hw _ (List.mem_of_getElem? (i := 67) rfl))) (by decide) (t := (.array .int)) (t' := (.array (.array .double))) (by decide) (by decide)))).ext E9).keep K10 (own_nin (Nat.lt_of_lt_of_le E_a1.lt sz_b9))).other W11 (Or.inr (slot_ne (Or.inr (hw _ (List.mem_of_getElem? (i := 116) rfl))) (Or.inl (hw _ (List.mem_of_getElem? (i := 106) rfl))) (by decide) (t := (.array .int)) (t' := (.object "com/example/rematch/rematch/Extent")) (by decide) (by decide)))).ext E12).other W13 (Or.inr (slot_ne (Or.inr (hw _ (List.mem_of_getElem? (i := 116) rfl))) (Or.inr (hw _ (List.mem_of_getElem? (i := 108) rfl))) (by decide) (t := (.array .int)) (t' := (.array (.array .double))) (by decide) (by decide)))).ext E14).other W15 (Or.inr (slot_ne (Or.inr (hw _ (List.mem_of_getElem? (i := 116) rfl))) (Or.inr (hw _ (List.mem_of_getElem? (i := 110) rfl))) (by decide) (t := (.array .int)) (t' := (.array (.array .double))) (by decide) (by decide)))).ext E16).other W17 (Or.inr (slot_ne (Or.inr (hw _ (List.mem_of_getElem? (i := 116) rfl))) (Or.inr (hw _ (List.mem_of_getElem? (i := 114) rfl))) (by decide) (t := (.array .int)) (t' := (.array (.array .int))) (by decide) (by decide)))).ext E18) (((((((((((((E_a1.wr W6).ext E7).wr W8).ext E9).keep K10).wr W11).ext E12).wr W13).ext E14).wr W15).ext E16).wr W17).ext E18) (Or.inr ⟨(hw _ (List.mem_of_getElem? (i := 116) rfl)), rfl, hnm⟩) (hw _ (List.mem_of_getElem? (i := 45) rfl)) (ty := (.array .int)) (by decide) rfl rfl (g := (mkF m 123 #[.val (.ref a1), .val (.ref a2), .val (.ref a3), .val (.int (0 : Int32)), .val (.int (0 : Int32))] [(.ref b18), (.ref a1)])) rfl rfl (hb hby d8_123)
  have Fw19 := (((((((((((((F_noSlopes_a1.other W6 (Or.inr (slot_ne (Or.inr (hw _ (List.mem_of_getElem? (i := 116) rfl))) (Or.inr (hw _ (List.mem_of_getElem? (i := 63) rfl))) (by decide) (t := (.array .int)) (t' := (.object "com/example/rematch/rematch/Metric")) (by decide) (by decide)))).ext E7).other W8 (Or.inr (slot_ne (Or.inr (hw _ (List.mem_of_getElem? (i := 116) rfl))) (Or.inr (hw _ (List.mem_of_getElem? (i := 67) rfl))) (by decide) (t := (.array .int)) (t' := (.array (.array .double))) (by decide) (by decide)))).ext E9).keep K10 (own_nin (Nat.lt_of_lt_of_le E_a1.lt sz_b9))).other W11 (Or.inr (slot_ne (Or.inr (hw _ (List.mem_of_getElem? (i := 116) rfl))) (Or.inl (hw _ (List.mem_of_getElem? (i := 106) rfl))) (by decide) (t := (.array .int)) (t' := (.object "com/example/rematch/rematch/Extent")) (by decide) (by decide)))).ext E12).other W13 (Or.inr (slot_ne (Or.inr (hw _ (List.mem_of_getElem? (i := 116) rfl))) (Or.inr (hw _ (List.mem_of_getElem? (i := 108) rfl))) (by decide) (t := (.array .int)) (t' := (.array (.array .double))) (by decide) (by decide)))).ext E14).other W15 (Or.inr (slot_ne (Or.inr (hw _ (List.mem_of_getElem? (i := 116) rfl))) (Or.inr (hw _ (List.mem_of_getElem? (i := 110) rfl))) (by decide) (t := (.array .int)) (t' := (.array (.array .double))) (by decide) (by decide)))).ext E16).other W17 (Or.inr (slot_ne (Or.inr (hw _ (List.mem_of_getElem? (i := 116) rfl))) (Or.inr (hw _ (List.mem_of_getElem? (i := 114) rfl))) (by decide) (t := (.array .int)) (t' := (.array (.array .int))) (by decide) (by decide)))).ext E18).same W19      -- the field now holds (.ref b18)
  have K19 : Keep h0 h19 [a1] := K18.wr W19 (Or.inl (List.mem_of_getElem? (i := 0) rfl))
  have N19 := Fr.snoc X19 N17 g_a1
  obtain ⟨fs, hr, hrun, hended, hW, hsame⟩ := X19.leave (v := none) (fun _ => rfl)
  refine ⟨_, _, pre0 _ ?_, hrun, hended, _, _, rfl, ?_, ⟨_, rfl⟩, hW, hsame.mono (by decide) (by decide)⟩
  · show Steps p.tables e below (s₁.setTop (mkF m 0 #[.val (.ref a1), .val (.ref a2), .val (.ref a3), .unset, .unset] [])) _
    refine XS.aloadN X0.here hx rfl (hb hby d8_0) rfl rfl ?_
    show Steps p.tables e below (s₁.setTop (mkF m 1 #[.val (.ref a1), .val (.ref a2), .val (.ref a3), .unset, .unset] [(.ref a1)])) _
    refine st4 _ ?_
    show Steps p.tables e below (T4.setTop (mkF m 4 #[.val (.ref a1), .val (.ref a2), .val (.ref a3), .unset, .unset] [])) _
    refine XS.aloadN X4.here hx rfl (hb hby d8_4) rfl rfl ?_
    show Steps p.tables e below (T4.setTop (mkF m 5 #[.val (.ref a1), .val (.ref a2), .val (.ref a3), .unset, .unset] [(.ref a3)])) _
    refine st5.trans ?_
    show Steps p.tables e below (T5.setTop (mkF m 10 #[.val (.ref a1), .val (.ref a2), .val (.ref a3), .unset, .unset] [(.int (0 : Int32))])) _
    refine XS.istoreN X5.here hx rfl (hb hby d8_10) rfl (l' := #[.val (.ref a1), .val (.ref a2), .val (.ref a3), .val (.int (0 : Int32)), .unset]) rfl ?_
    show Steps p.tables e below (T5.setTop (mkF m 11 #[.val (.ref a1), .val (.ref a2), .val (.ref a3), .val (.int (0 : Int32)), .unset] [])) _
    refine XS.aloadN X5.here hx rfl (hb hby d8_11) rfl rfl ?_
    show Steps p.tables e below (T5.setTop (mkF m 12 #[.val (.ref a1), .val (.ref a2), .val (.ref a3), .val (.int (0 : Int32)), .unset] [(.ref a1)])) _
    refine XS.aloadN X5.here hx rfl (hb hby d8_12) rfl rfl ?_
    show Steps p.tables e below (T5.setTop (mkF m 13 #[.val (.ref a1), .val (.ref a2), .val (.ref a3), .val (.int (0 : Int32)), .unset] [(.ref a2), (.ref a1)])) _
    refine st6 _ ?_
    show Steps p.tables e below (T6.setTop (mkF m 16 #[.val (.ref a1), .val (.ref a2), .val (.ref a3), .val (.int (0 : Int32)), .unset] [])) _
    refine XS.aloadN X6.here hx rfl (hb hby d8_16) rfl rfl ?_
    show Steps p.tables e below (T6.setTop (mkF m 17 #[.val (.ref a1), .val (.ref a2), .val (.ref a3), .val (.int (0 : Int32)), .unset] [(.ref a1)])) _
    refine XS.iloadN X6.here hx rfl (hb hby d8_17) rfl ?_
    show Steps p.tables e below (T6.setTop (mkF m 18 #[.val (.ref a1), .val (.ref a2), .val (.ref a3), .val (.int (0 : Int32)), .unset] [(.int (0 : Int32)), (.ref a1)])) _
    refine st7 _ ?_
    show Steps p.tables e below (T7.setTop (mkF m 21 #[.val (.ref a1), .val (.ref a2), .val (.ref a3), .val (.int (0 : Int32)), .unset] [(.ref b7), (.ref a1)])) _
    refine st8 _ ?_
    show Steps p.tables e below (T8.setTop (mkF m 24 #[.val (.ref a1), .val (.ref a2), .val (.ref a3), .val (.int (0 : Int32)), .unset] [])) _
    refine XS.aloadN X8.here hx rfl (hb hby d8_24) rfl rfl ?_
    show Steps p.tables e below (T8.setTop (mkF m 25 #[.val (.ref a1), .val (.ref a2), .val (.ref a3), .val (.int (0 : Int32)), .unset] [(.ref a1)])) _
    refine st9 _ ?_
    show Steps p.tables e below (T9.setTop (mkF m 28 #[.val (.ref a1), .val (.ref a2), .val (.ref a3), .val (.int (0 : Int32)), .unset] [(.ref b9), (.ref a1)])) _
    refine XS.dup X9.here hx rfl (hb hby d8_28) rfl rfl ?_
    show Steps p.tables e below (T9.setTop (mkF m 29 #[.val (.ref a1), .val (.ref a2), .val (.ref a3), .val (.int (0 : Int32)), .unset] [(.ref b9), (.ref b9), (.ref a1)])) _
    refine XS.aloadN X9.here hx rfl (hb hby d8_29) rfl rfl ?_
    show Steps p.tables e below (T9.setTop (mkF m 30 #[.val (.ref a1), .val (.ref a2), .val (.ref a3), .val (.int (0 : Int32)), .unset] [(.ref a2), (.ref b9), (.ref b9), (.ref a1)])) _
    refine st10.trans ?_
    show Steps p.tables e below (T10.setTop (mkF m 33 #[.val (.ref a1), .val (.ref a2), .val (.ref a3), .val (.int (0 : Int32)), .unset] [(.ref b9), (.ref a1)])) _
    refine st11 _ ?_
    show Steps p.tables e below (T11.setTop (mkF m 36 #[.val (.ref a1), .val (.ref a2), .val (.ref a3), .val (.int (0 : Int32)), .unset] [])) _
    refine XS.iconst X11.here hx rfl (hb hby d8_36) ?_
    show Steps p.tables e below (T11.setTop (mkF m 37 #[.val (.ref a1), .val (.ref a2), .val (.ref a3), .val (.int (0 : Int32)), .unset] [(.int (0 : Int32))])) _
    refine XS.istore X11.here hx rfl (hb hby d8_37) rfl (l' := #[.val (.ref a1), .val (.ref a2), .val (.ref a3), .val (.int (0 : Int32)), .val (.int (0 : Int32))]) rfl ?_
    show Steps p.tables e below (T11.setTop (mkF m 39 #[.val (.ref a1), .val (.ref a2), .val (.ref a3), .val (.int (0 : Int32)), .val (.int (0 : Int32))] [])) _
    refine XS.iload X11.here hx rfl (hb hby d8_39) rfl ?_
    show Steps p.tables e below (T11.setTop (mkF m 41 #[.val (.ref a1), .val (.ref a2), .val (.ref a3), .val (.int (0 : Int32)), .val (.int (0 : Int32))] [(.int (0 : Int32))])) _
    refine XS.iloadN X11.here hx rfl (hb hby d8_41) rfl ?_
    show Steps p.tables e below (T11.setTop (mkF m 42 #[.val (.ref a1), .val (.ref a2), .val (.ref a3), .val (.int (0 : Int32)), .val (.int (0 : Int32))] [(.int (0 : Int32)), (.int (0 : Int32))])) _
    refine XS.icmpYes X11.here hx rfl (pc0 := 42) (pc' := 95) rfl (hb hby d8_42) rfl (flt (by decide : ¬ ((0 : Int32) < (0 : Int32)))).2.1 (by decide) (by decide) ?_
    show Steps p.tables e below (T11.setTop (mkF m 95 #[.val (.ref a1), .val (.ref a2), .val (.ref a3), .val (.int (0 : Int32)), .val (.int (0 : Int32))] [])) _
    refine XS.aloadN X11.here hx rfl (hb hby d8_95) rfl rfl ?_
    show Steps p.tables e below (T11.setTop (mkF m 96 #[.val (.ref a1), .val (.ref a2), .val (.ref a3), .val (.int (0 : Int32)), .val (.int (0 : Int32))] [(.ref a1)])) _
    refine XS.iloadN X11.here hx rfl (hb hby d8_96) rfl ?_
    show Steps p.tables e below (T11.setTop (mkF m 97 #[.val (.ref a1), .val (.ref a2), .val (.ref a3), .val (.int (0 : Int32)), .val (.int (0 : Int32))] [(.int (0 : Int32)), (.ref a1)])) _
    refine st12 _ ?_
    show Steps p.tables e below (T12.setTop (mkF m 100 #[.val (.ref a1), .val (.ref a2), .val (.ref a3), .val (.int (0 : Int32)), .val (.int (0 : Int32))] [(.ref b12), (.ref a1)])) _
    refine st13 _ ?_
    show Steps p.tables e below (T13.setTop (mkF m 103 #[.val (.ref a1), .val (.ref a2), .val (.ref a3), .val (.int (0 : Int32)), .val (.int (0 : Int32))] [])) _
    refine XS.aloadN X13.here hx rfl (hb hby d8_103) rfl rfl ?_
    show Steps p.tables e below (T13.setTop (mkF m 104 #[.val (.ref a1), .val (.ref a2), .val (.ref a3), .val (.int (0 : Int32)), .val (.int (0 : Int32))] [(.ref a1)])) _
    refine XS.iloadN X13.here hx rfl (hb hby d8_104) rfl ?_
    show Steps p.tables e below (T13.setTop (mkF m 105 #[.val (.ref a1), .val (.ref a2), .val (.ref a3), .val (.int (0 : Int32)), .val (.int (0 : Int32))] [(.int (0 : Int32)), (.ref a1)])) _
    refine st14 _ ?_
    show Steps p.tables e below (T14.setTop (mkF m 108 #[.val (.ref a1), .val (.ref a2), .val (.ref a3), .val (.int (0 : Int32)), .val (.int (0 : Int32))] [(.ref b14), (.ref a1)])) _
    refine st15 _ ?_
    show Steps p.tables e below (T15.setTop (mkF m 111 #[.val (.ref a1), .val (.ref a2), .val (.ref a3), .val (.int (0 : Int32)), .val (.int (0 : Int32))] [])) _
    refine XS.aloadN X15.here hx rfl (hb hby d8_111) rfl rfl ?_
    show Steps p.tables e below (T15.setTop (mkF m 112 #[.val (.ref a1), .val (.ref a2), .val (.ref a3), .val (.int (0 : Int32)), .val (.int (0 : Int32))] [(.ref a1)])) _
    refine XS.iloadN X15.here hx rfl (hb hby d8_112) rfl ?_
    show Steps p.tables e below (T15.setTop (mkF m 113 #[.val (.ref a1), .val (.ref a2), .val (.ref a3), .val (.int (0 : Int32)), .val (.int (0 : Int32))] [(.int (0 : Int32)), (.ref a1)])) _
    refine st16 _ ?_
    show Steps p.tables e below (T16.setTop (mkF m 116 #[.val (.ref a1), .val (.ref a2), .val (.ref a3), .val (.int (0 : Int32)), .val (.int (0 : Int32))] [(.ref b16), (.ref a1)])) _
    refine st17 _ ?_
    show Steps p.tables e below (T17.setTop (mkF m 119 #[.val (.ref a1), .val (.ref a2), .val (.ref a3), .val (.int (0 : Int32)), .val (.int (0 : Int32))] [])) _
    refine XS.aloadN X17.here hx rfl (hb hby d8_119) rfl rfl ?_
    show Steps p.tables e below (T17.setTop (mkF m 120 #[.val (.ref a1), .val (.ref a2), .val (.ref a3), .val (.int (0 : Int32)), .val (.int (0 : Int32))] [(.ref a1)])) _
    refine XS.iloadN X17.here hx rfl (hb hby d8_120) rfl ?_
    show Steps p.tables e below (T17.setTop (mkF m 121 #[.val (.ref a1), .val (.ref a2), .val (.ref a3), .val (.int (0 : Int32)), .val (.int (0 : Int32))] [(.int (0 : Int32)), (.ref a1)])) _
    refine st18 _ ?_
    show Steps p.tables e below (T18.setTop (mkF m 123 #[.val (.ref a1), .val (.ref a2), .val (.ref a3), .val (.int (0 : Int32)), .val (.int (0 : Int32))] [(.ref b18), (.ref a1)])) _
    refine st19 _ ?_
    show Steps p.tables e below (T19.setTop (mkF m 126 #[.val (.ref a1), .val (.ref a2), .val (.ref a3), .val (.int (0 : Int32)), .val (.int (0 : Int32))] [])) _
    exact X19.returnOut hx Bd.returns (hb hby d8_126) hr
  · show Qrm8 Z a1 a2 a3 u_metric_a1 u_serverAt_a1 u_extent_a1 u_clientAt_a1 u_distanceRow_a1 u_slopeRow_a1 u_noSlopes_a1 h0 n0 _ T19.heap _
    rw [e19]
    exact ⟨rfl, N19, K19⟩
theorem d17_0 : decode jdk_65_method_103_code 0 = .ok (.iconst 0, 1) := by decide +kernel
theorem d17_1 : decode jdk_65_method_103_code 1 = .ok (.istore_n 2, 1) := by decide +kernel
theorem d17_2 : decode jdk_65_method_103_code 2 = .ok (.aload_n 0, 1) := by decide +kernel
theorem d17_3 : decode jdk_65_method_103_code 3 = .ok (.arraylength, 1) := by decide +kernel
theorem d17_4 : decode jdk_65_method_103_code 4 = .ok (.istore_n 3, 1) := by decide +kernel
theorem d17_5 : decode jdk_65_method_103_code 5 = .ok (.iload_n 2, 1) := by decide +kernel
theorem d17_6 : decode jdk_65_method_103_code 6 = .ok (.iload_n 3, 1) := by decide +kernel
theorem d17_7 : decode jdk_65_method_103_code 7 = .ok (.if_icmp .ge 13, 3) := by decide +kernel
theorem d17_20 : decode jdk_65_method_103_code 20 = .ok (.return_, 1) := by decide +kernel
theorem pn_17 : plainName "java/util/Arrays" = true := by first | (simp [plainName, overriddenIn]; done) | decide +kernel
theorem ef_17 (m : MethodId) (x0 : Addr) (x1 : Int32) : entryFrame m #[(.ref x0), (.int x1)] 4 = mkF m 0 #[.val (.ref x0), .val (.int x1), .unset, .unset] [] := by first | (simp [entryFrame, mkF, argsToLocals, Value.category]; done) | rfl
def Qrm17 (Z : State) (a1 : Addr) (p2 : Int32) (cl_a1 : Cell) (z_a1 : Int32) (h0 : Heap) (n0 : Nat) (v : Option Value) (h : Heap) (L : List Loc) : Prop := v = none ∧ Fr n0 L ∧ h = h0
set_option maxRecDepth 65536 in
set_option maxHeartbeats 40000000 in
theorem rm17 (l : Launch) (Z : State) (a0 : Array Value) (hw : ∀ d ∈ tables_1, d.before a0 Z = true) (ws : List Jvm.Cond) (a1 : Addr) (p2 : Int32) (cl_a1 : Cell) (z_a1 : Int32) (h0 : Heap) (n0 : Nat) (Z0 : n0 ≤ h0.size) (Ar_a1 : Arr Z h0 a1 cl_a1 .int) (S_a1 : cl_a1.slots.size = z_a1.toNatClampNeg) (N_a1 : ¬ z_a1 < 0) (hc7 : ¬ ((0 : Int32) < z_a1)) :
    MetFree l (⟨"java/util/Arrays", "fill", "([II)V"⟩ : MethodName) (head1 (Jvm.Cond.code (⟨"java/util/Arrays", "fill", "([II)V"⟩ : MethodName) jdk_65_method_103_code 4 none :: ws) ({ frames := 0, cells := 0, slots := 0, locals := 0 } : Room)) (fun a U => a = #[(.ref a1), (.int p2)] ∧ Z.Warmed39 U.vm ∧ U.heap = h0) (fun _ _ _ _ _ => True) (fun _ U o U' => ∃ v L, o = .returned v ∧ Qrm17 Z a1 p2 cl_a1 z_a1 h0 n0 v U'.heap L ∧ FrameEnd U o U' L ({ frames := 0, cells := 0, slots := 0, locals := 0 } : Room).cells ({ frames := 0, cells := 0, slots := 0, locals := 0 } : Room).slots) := by
  refine MetFree.of_bodySF (plainFor_of_name pn_17) hisR ?_
  intro p e s m args below meth c s₁ Bd hml0 hP hK
  obtain ⟨rfl, hZ, hh⟩ := hP
  have hx := Bd.exec
  have hby := Bd.bytes
  have hml : c.maxLocals = 4 := hml0
  have hown : s.vm.findClass "java/util/Arrays" = some m.cls := findClass_of_methodNamed Bd.named
  have hnm := (name_of_methodNamed Bd.named Bd.method).1
  have X0 : Stand p l e ({ frames := 0, cells := 0, slots := 0, locals := 0 } : Room) s m #[(.ref a1), (.int p2)] below meth c s₁ [] 0 0 := Stand.of_body Bd
  have e0 : s₁.heap = h0 := by rw [← hh, Bd.state]; rfl
  have N0 := Fr.nil n0
  have pre0 : ∀ t, Steps p.tables e below (s₁.setTop (mkF m 0 #[.val (.ref a1), .val (.int p2), .unset, .unset] [])) t → Steps p.tables e below (s₁.setTop (entryFrame m #[(.ref a1), (.int p2)] 4)) t := fun t k => castTop (ef_17 m a1 p2) k
  obtain ⟨fs, hr, hrun, hended, hW, hsame⟩ := X0.leave (v := none) (fun _ => rfl)
  refine ⟨_, _, pre0 _ ?_, hrun, hended, _, _, rfl, ?_, ⟨_, rfl⟩, hW, hsame.mono (by decide) (by decide)⟩
  · show Steps p.tables e below (s₁.setTop (mkF m 0 #[.val (.ref a1), .val (.int p2), .unset, .unset] [])) _
    refine XS.iconst X0.here hx rfl (hb hby d17_0) ?_
    show Steps p.tables e below (s₁.setTop (mkF m 1 #[.val (.ref a1), .val (.int p2), .unset, .unset] [(.int (0 : Int32))])) _
    refine XS.istoreN X0.here hx rfl (hb hby d17_1) rfl (l' := #[.val (.ref a1), .val (.int p2), .val (.int (0 : Int32)), .unset]) rfl ?_
    show Steps p.tables e below (s₁.setTop (mkF m 2 #[.val (.ref a1), .val (.int p2), .val (.int (0 : Int32)), .unset] [])) _
    refine XS.aloadN X0.here hx rfl (hb hby d17_2) rfl rfl ?_
    show Steps p.tables e below (s₁.setTop (mkF m 3 #[.val (.ref a1), .val (.int p2), .val (.int (0 : Int32)), .unset] [(.ref a1)])) _
    refine X0.arraylength hx (by rw [e0]; exact Ar_a1.1) (State.isArrayOf_alike hZ.alike Ar_a1.2.1) (g := (mkF m 3 #[.val (.ref a1), .val (.int p2), .val (.int (0 : Int32)), .unset] [(.ref a1)])) rfl rfl (hb hby d17_3) _ ?_
    rw [len_of S_a1 N_a1]
    show Steps p.tables e below (s₁.setTop (mkF m 4 #[.val (.ref a1), .val (.int p2), .val (.int (0 : Int32)), .unset] [(.int z_a1)])) _
    refine XS.istoreN X0.here hx rfl (hb hby d17_4) rfl (l' := #[.val (.ref a1), .val (.int p2), .val (.int (0 : Int32)), .val (.int z_a1)]) rfl ?_
    show Steps p.tables e below (s₁.setTop (mkF m 5 #[.val (.ref a1), .val (.int p2), .val (.int (0 : Int32)), .val (.int z_a1)] [])) _
    refine XS.iloadN X0.here hx rfl (hb hby d17_5) rfl ?_
    show Steps p.tables e below (s₁.setTop (mkF m 6 #[.val (.ref a1), .val (.int p2), .val (.int (0 : Int32)), .val (.int z_a1)] [(.int (0 : Int32))])) _
    refine XS.iloadN X0.here hx rfl (hb hby d17_6) rfl ?_
    show Steps p.tables e below (s₁.setTop (mkF m 7 #[.val (.ref a1), .val (.int p2), .val (.int (0 : Int32)), .val (.int z_a1)] [(.int z_a1), (.int (0 : Int32))])) _
    refine XS.icmpYes X0.here hx rfl (pc0 := 7) (pc' := 20) rfl (hb hby d17_7) rfl (flt hc7).2.1 (by decide) (by decide) ?_
    show Steps p.tables e below (s₁.setTop (mkF m 20 #[.val (.ref a1), .val (.int p2), .val (.int (0 : Int32)), .val (.int z_a1)] [])) _
    exact X0.returnOut hx Bd.returns (hb hby d17_20) hr
  · show Qrm17 Z a1 p2 cl_a1 z_a1 h0 n0 _ s₁.heap _
    rw [e0]
    exact ⟨rfl, N0, rfl⟩
theorem d16_0 : decode prog_20_method_2_code 0 = .ok (.aload_n 0, 1) := by decide +kernel
theorem d16_1 : decode prog_20_method_2_code 1 = .ok (.invokespecial 7, 3) := by decide +kernel
theorem d16_4 : decode prog_20_method_2_code 4 = .ok (.aload_n 1, 1) := by decide +kernel
theorem d16_5 : decode prog_20_method_2_code 5 = .ok (.arraylength, 1) := by decide +kernel
theorem d16_6 : decode prog_20_method_2_code 6 = .ok (.istore_n 2, 1) := by decide +kernel
theorem d16_7 : decode prog_20_method_2_code 7 = .ok (.aload_n 0, 1) := by decide +kernel
theorem d16_8 : decode prog_20_method_2_code 8 = .ok (.iload_n 2, 1) := by decide +kernel
theorem d16_9 : decode prog_20_method_2_code 9 = .ok (.putfield 12, 3) := by decide +kernel
theorem d16_12 : decode prog_20_method_2_code 12 = .ok (.aload_n 0, 1) := by decide +kernel
theorem d16_13 : decode prog_20_method_2_code 13 = .ok (.iload_n 2, 1) := by decide +kernel
theorem d16_14 : decode prog_20_method_2_code 14 = .ok (.anewarray 16, 3) := by decide +kernel
theorem d16_17 : decode prog_20_method_2_code 17 = .ok (.putfield 18, 3) := by decide +kernel
theorem d16_20 : decode prog_20_method_2_code 20 = .ok (.aload_n 0, 1) := by decide +kernel
theorem d16_21 : decode prog_20_method_2_code 21 = .ok (.iload_n 2, 1) := by decide +kernel
theorem d16_22 : decode prog_20_method_2_code 22 = .ok (.anewarray 22, 3) := by decide +kernel
theorem d16_25 : decode prog_20_method_2_code 25 = .ok (.putfield 24, 3) := by decide +kernel
theorem d16_28 : decode prog_20_method_2_code 28 = .ok (.aload_n 0, 1) := by decide +kernel
theorem d16_29 : decode prog_20_method_2_code 29 = .ok (.iload_n 2, 1) := by decide +kernel
theorem d16_30 : decode prog_20_method_2_code 30 = .ok (.newarray .int, 2) := by decide +kernel
theorem d16_32 : decode prog_20_method_2_code 32 = .ok (.putfield 28, 3) := by decide +kernel
theorem d16_35 : decode prog_20_method_2_code 35 = .ok (.aload_n 0, 1) := by decide +kernel
theorem d16_36 : decode prog_20_method_2_code 36 = .ok (.iload_n 2, 1) := by decide +kernel
theorem d16_37 : decode prog_20_method_2_code 37 = .ok (.newarray .int, 2) := by decide +kernel
theorem d16_39 : decode prog_20_method_2_code 39 = .ok (.putfield 31, 3) := by decide +kernel
theorem d16_42 : decode prog_20_method_2_code 42 = .ok (.aload_n 0, 1) := by decide +kernel
theorem d16_43 : decode prog_20_method_2_code 43 = .ok (.getfield 31, 3) := by decide +kernel
theorem d16_46 : decode prog_20_method_2_code 46 = .ok (.iconst (-1), 1) := by decide +kernel
theorem d16_47 : decode prog_20_method_2_code 47 = .ok (.invokestatic 34, 3) := by decide +kernel
theorem d16_50 : decode prog_20_method_2_code 50 = .ok (.aload_n 0, 1) := by decide +kernel
theorem d16_51 : decode prog_20_method_2_code 51 = .ok (.iload_n 2, 1) := by decide +kernel
theorem d16_52 : decode prog_20_method_2_code 52 = .ok (.newarray .double, 2) := by decide +kernel
theorem d16_54 : decode prog_20_method_2_code 54 = .ok (.putfield 40, 3) := by decide +kernel
theorem d16_57 : decode prog_20_method_2_code 57 = .ok (.aload_n 0, 1) := by decide +kernel
theorem d16_58 : decode prog_20_method_2_code 58 = .ok (.iload_n 2, 1) := by decide +kernel
theorem d16_59 : decode prog_20_method_2_code 59 = .ok (.newarray .long, 2) := by decide +kernel
theorem d16_61 : decode prog_20_method_2_code 61 = .ok (.putfield 43, 3) := by decide +kernel
theorem d16_64 : decode prog_20_method_2_code 64 = .ok (.aload_n 0, 1) := by decide +kernel
theorem d16_65 : decode prog_20_method_2_code 65 = .ok (.aload_n 1, 1) := by decide +kernel
theorem d16_66 : decode prog_20_method_2_code 66 = .ok (.putfield 47, 3) := by decide +kernel
theorem d16_69 : decode prog_20_method_2_code 69 = .ok (.aload_n 0, 1) := by decide +kernel
theorem d16_70 : decode prog_20_method_2_code 70 = .ok (.iload_n 2, 1) := by decide +kernel
theorem d16_71 : decode prog_20_method_2_code 71 = .ok (.newarray .long, 2) := by decide +kernel
theorem d16_73 : decode prog_20_method_2_code 73 = .ok (.putfield 50, 3) := by decide +kernel
theorem d16_76 : decode prog_20_method_2_code 76 = .ok (.aload_n 0, 1) := by decide +kernel
theorem d16_77 : decode prog_20_method_2_code 77 = .ok (.iload_n 2, 1) := by decide +kernel
theorem d16_78 : decode prog_20_method_2_code 78 = .ok (.newarray .double, 2) := by decide +kernel
theorem d16_80 : decode prog_20_method_2_code 80 = .ok (.putfield 53, 3) := by decide +kernel
theorem d16_83 : decode prog_20_method_2_code 83 = .ok (.aload_n 0, 1) := by decide +kernel
theorem d16_84 : decode prog_20_method_2_code 84 = .ok (.iload_n 2, 1) := by decide +kernel
theorem d16_85 : decode prog_20_method_2_code 85 = .ok (.newarray .long, 2) := by decide +kernel
theorem d16_87 : decode prog_20_method_2_code 87 = .ok (.putfield 56, 3) := by decide +kernel
theorem d16_90 : decode prog_20_method_2_code 90 = .ok (.aload_n 0, 1) := by decide +kernel
theorem d16_91 : decode prog_20_method_2_code 91 = .ok (.iload_n 2, 1) := by decide +kernel
theorem d16_92 : decode prog_20_method_2_code 92 = .ok (.newarray .int, 2) := by decide +kernel
theorem d16_94 : decode prog_20_method_2_code 94 = .ok (.putfield 59, 3) := by decide +kernel
theorem d16_97 : decode prog_20_method_2_code 97 = .ok (.aload_n 0, 1) := by decide +kernel
theorem d16_98 : decode prog_20_method_2_code 98 = .ok (.iload_n 2, 1) := by decide +kernel
theorem d16_99 : decode prog_20_method_2_code 99 = .ok (.newarray .boolean, 2) := by decide +kernel
theorem d16_101 : decode prog_20_method_2_code 101 = .ok (.putfield 62, 3) := by decide +kernel
theorem d16_104 : decode prog_20_method_2_code 104 = .ok (.return_, 1) := by decide +kernel
theorem pn_16 : plainName "com/example/rematch/rematch/OptimalAssignment" = true := by first | (simp [plainName, overriddenIn]; done) | decide +kernel
theorem pd_16_11 : parseMethodDescriptor "([II)V" = some ⟨[(.array .int), .int], none⟩ := by decide +kernel
theorem ef_16 (m : MethodId) (x0 : Addr) (x1 : Addr) : entryFrame m #[(.ref x0), (.ref x1)] 3 = mkF m 0 #[.val (.ref x0), .val (.ref x1), .unset] [] := by first | (simp [entryFrame, mkF, argsToLocals, Value.category]; done) | rfl
def Qrm16 (Z : State) (a1 : Addr) (a2 : Addr) (cl_a2 : Cell) (u_columnCount_a1 : Value) (u_costsOfRow_a1 : Value) (u_slopesOfRow_a1 : Value) (u_columnOfRow_a1 : Value) (u_rowOfColumn_a1 : Value) (u_rowPotential_a1 : Value) (u_rowSlope_a1 : Value) (u_columnPotential_a1 : Value) (u_columnSlope_a1 : Value) (u_pathLength_a1 : Value) (u_pathSlope_a1 : Value) (u_via_a1 : Value) (u_settled_a1 : Value) (h0 : Heap) (n0 : Nat) (v : Option Value) (h : Heap) (L : List Loc) : Prop := v = none ∧ Fr n0 L ∧ Keep h0 h [a1]
set_option maxRecDepth 65536 in
set_option maxHeartbeats 40000000 in
theorem rm16 (l : Launch) (Z : State) (a0 : Array Value) (hw : ∀ d ∈ tables_1, d.before a0 Z = true) (ws : List Jvm.Cond) (a1 : Addr) (a2 : Addr) (cl_a2 : Cell) (u_columnCount_a1 : Value) (u_costsOfRow_a1 : Value) (u_slopesOfRow_a1 : Value) (u_columnOfRow_a1 : Value) (u_rowOfColumn_a1 : Value) (u_rowPotential_a1 : Value) (u_rowSlope_a1 : Value) (u_columnPotential_a1 : Value) (u_columnSlope_a1 : Value) (u_pathLength_a1 : Value) (u_pathSlope_a1 : Value) (u_via_a1 : Value) (u_settled_a1 : Value) (h0 : Heap) (n0 : Nat) (Z0 : n0 ≤ h0.size) (Ar_a2 : Arr Z h0 a2 cl_a2 .double) (S_a2 : cl_a2.slots.size = (0 : Int32).toNatClampNeg) (N_a2 : ¬ (0 : Int32) < 0) (E_a1 : Exa Z h0 a1 "com/example/rematch/rematch/OptimalAssignment") (F_columnCount_a1 : Fld Z h0 a1 "com/example/rematch/rematch/OptimalAssignment" "columnCount" "I" u_columnCount_a1) (g_a1 : n0 ≤ a1) (F_costsOfRow_a1 : Fld Z h0 a1 "com/example/rematch/rematch/OptimalAssignment" "costsOfRow" "[[D" u_costsOfRow_a1) (F_slopesOfRow_a1 : Fld Z h0 a1 "com/example/rematch/rematch/OptimalAssignment" "slopesOfRow" "[[I" u_slopesOfRow_a1) (F_columnOfRow_a1 : Fld Z h0 a1 "com/example/rematch/rematch/OptimalAssignment" "columnOfRow" "[I" u_columnOfRow_a1) (F_rowOfColumn_a1 : Fld Z h0 a1 "com/example/rematch/rematch/OptimalAssignment" "rowOfColumn" "[I" u_rowOfColumn_a1) (F_rowPotential_a1 : Fld Z h0 a1 "com/example/rematch/rematch/OptimalAssignment" "rowPotential" "[D" u_rowPotential_a1) (F_rowSlope_a1 : Fld Z h0 a1 "com/example/rematch/rematch/OptimalAssignment" "rowSlope" "[J" u_rowSlope_a1) (F_columnPotential_a1 : Fld Z h0 a1 "com/example/rematch/rematch/OptimalAssignment" "columnPotential" "[D" u_columnPotential_a1) (F_columnSlope_a1 : Fld Z h0 a1 "com/example/rematch/rematch/OptimalAssignment" "columnSlope" "[J" u_columnSlope_a1) (F_pathLength_a1 : Fld Z h0 a1 "com/example/rematch/rematch/OptimalAssignment" "pathLength" "[D" u_pathLength_a1) (F_pathSlope_a1 : Fld Z h0 a1 "com/example/rematch/rematch/OptimalAssignment" "pathSlope" "[J" u_pathSlope_a1) (F_via_a1 : Fld Z h0 a1 "com/example/rematch/rematch/OptimalAssignment" "via" "[I" u_via_a1) (F_settled_a1 : Fld Z h0 a1 "com/example/rematch/rematch/OptimalAssignment" "settled" "[Z" u_settled_a1) :
    MetFree l (⟨"com/example/rematch/rematch/OptimalAssignment", "<init>", "([D)V"⟩ : MethodName) (head1 (Jvm.Cond.code (⟨"com/example/rematch/rematch/OptimalAssignment", "<init>", "([D)V"⟩ : MethodName) prog_20_method_2_code 3 none :: ws) ({ frames := 1, cells := 11, slots := 0, locals := 15 } : Room)) (fun a U => a = #[(.ref a1), (.ref a2)] ∧ Z.Warmed39 U.vm ∧ U.heap = h0) (fun _ _ _ _ _ => True) (fun _ U o U' => ∃ v L, o = .returned v ∧ Qrm16 Z a1 a2 cl_a2 u_columnCount_a1 u_costsOfRow_a1 u_slopesOfRow_a1 u_columnOfRow_a1 u_rowOfColumn_a1 u_rowPotential_a1 u_rowSlope_a1 u_columnPotential_a1 u_columnSlope_a1 u_pathLength_a1 u_pathSlope_a1 u_via_a1 u_settled_a1 h0 n0 v U'.heap L ∧ FrameEnd U o U' L ({ frames := 1, cells := 11, slots := 0, locals := 15 } : Room).cells ({ frames := 1, cells := 11, slots := 0, locals := 15 } : Room).slots) := by
  refine MetFree.of_bodySF (plainFor_of_name pn_16) hisR ?_
  intro p e s m args below meth c s₁ Bd hml0 hP hK
  obtain ⟨rfl, hZ, hh⟩ := hP
  have hx := Bd.exec
  have hby := Bd.bytes
  have hml : c.maxLocals = 3 := hml0
  have hown : s.vm.findClass "com/example/rematch/rematch/OptimalAssignment" = some m.cls := findClass_of_methodNamed Bd.named
  have hnm := (name_of_methodNamed Bd.named Bd.method).1
  have X0 : Stand p l e ({ frames := 1, cells := 11, slots := 0, locals := 15 } : Room) s m #[(.ref a1), (.ref a2)] below meth c s₁ [] 0 0 := Stand.of_body Bd
  have e0 : s₁.heap = h0 := by rw [← hh, Bd.state]; rfl
  have N0 := Fr.nil n0
  have pre0 : ∀ t, Steps p.tables e below (s₁.setTop (mkF m 0 #[.val (.ref a1), .val (.ref a2), .unset] [])) t → Steps p.tables e below (s₁.setTop (entryFrame m #[(.ref a1), (.ref a2)] 3)) t := fun t k => castTop (ef_16 m a1 a2) k
  obtain ⟨T3, X3, e3, st3⟩ := initO X0 hx hZ hown (hw _ (List.mem_of_getElem? (i := 129) rfl)) (hw _ (List.mem_of_getElem? (i := 33) rfl)) (hw _ (List.mem_of_getElem? (i := 34) rfl)) e0 (g := (mkF m 1 #[.val (.ref a1), .val (.ref a2), .unset] [(.ref a1)])) rfl (by rw [hml]; rfl) rfl (hb hby d16_1) (by decide) (W := 0) (by show 2 * 0 + _ ≤ _; exact Nat.le_of_eq rfl) (by decide)
  obtain ⟨T4, h4, X4, e4, W4, st4⟩ := putF X3 hx hZ hown (host := "") (Or.inl (hw _ (List.mem_of_getElem? (i := 130) rfl))) Via.refl e3 F_columnCount_a1 E_a1 (Or.inr ⟨(hw _ (List.mem_of_getElem? (i := 131) rfl)), rfl, hnm⟩) (hw _ (List.mem_of_getElem? (i := 120) rfl)) (ty := .int) (by decide) rfl rfl (g := (mkF m 9 #[.val (.ref a1), .val (.ref a2), .val (.int (0 : Int32))] [(.int (0 : Int32)), (.ref a1)])) rfl rfl (hb hby d16_9)
  have Fw4 := F_columnCount_a1.same W4      -- the field now holds (.int (0 : Int32))
  have K4 : Keep h0 h4 [a1] := (Keep.refl h0 [a1]).wr W4 (Or.inl (List.mem_of_getElem? (i := 0) rfl))
  have N4 := Fr.snoc X4 N0 g_a1
  obtain ⟨T5, h5, k5, X5, e5, E5, A5, Y5, O5, st5⟩ := newRA X4 hx hZ (ty := .double) hown (C := "[D") (by decide) (hw _ (List.mem_of_getElem? (i := 132) rfl)) (hw _ (List.mem_of_getElem? (i := 65) rfl)) e4 (g := (mkF m 14 #[.val (.ref a1), .val (.ref a2), .val (.int (0 : Int32))] [(.int (0 : Int32)), (.ref a1)])) rfl (hb hby d16_14) rfl (by decide) (cap := 0) (by decide) (by decide) (by decide) (by decide) (ad := "[[D") (by decide)
  obtain ⟨b5, g5⟩ : ∃ z, z = h4.size := ⟨_, rfl⟩      -- the fresh array's address
  rw [← g5] at A5 st5
  have V_b5 := Arv.new A5 (by decide)
  have g_b5 : n0 ≤ b5 := Nat.le_trans (Nat.le_trans Z0 (Keep.of_wr W4).1) (Nat.le_of_eq g5.symm)
  have sz_b5 : h0.size ≤ b5 := (Nat.le_trans K4.1 (Nat.le_of_eq g5.symm))
  have K5 : Keep h0 h5 [a1] := K4.ext E5
  obtain ⟨T6, h6, X6, e6, W6, st6⟩ := putF X5 hx hZ hown (host := "") (Or.inl (hw _ (List.mem_of_getElem? (i := 133) rfl))) Via.refl e5 ((F_costsOfRow_a1.other W4 (Or.inr (slot_ne (Or.inr (hw _ (List.mem_of_getElem? (i := 134) rfl))) (Or.inr (hw _ (List.mem_of_getElem? (i := 131) rfl))) (by decide) (t := (.array (.array .double))) (t' := .int) (by decide) (by decide)))).ext E5) ((E_a1.wr W4).ext E5) (Or.inr ⟨(hw _ (List.mem_of_getElem? (i := 134) rfl)), rfl, hnm⟩) (hw _ (List.mem_of_getElem? (i := 120) rfl)) (ty := (.array (.array .double))) (by decide) rfl rfl (g := (mkF m 17 #[.val (.ref a1), .val (.ref a2), .val (.int (0 : Int32))] [(.ref b5), (.ref a1)])) rfl rfl (hb hby d16_17)
  have Fw6 := ((F_costsOfRow_a1.other W4 (Or.inr (slot_ne (Or.inr (hw _ (List.mem_of_getElem? (i := 134) rfl))) (Or.inr (hw _ (List.mem_of_getElem? (i := 131) rfl))) (by decide) (t := (.array (.array .double))) (t' := .int) (by decide) (by decide)))).ext E5).same W6      -- the field now holds (.ref b5)
  have K6 : Keep h0 h6 [a1] := K5.wr W6 (Or.inl (List.mem_of_getElem? (i := 0) rfl))
  have N6 := Fr.snoc X6 N4 g_a1
  obtain ⟨T7, h7, k7, X7, e7, E7, A7, Y7, O7, st7⟩ := newRA X6 hx hZ (ty := .int) hown (C := "[I") (by decide) (hw _ (List.mem_of_getElem? (i := 135) rfl)) (hw _ (List.mem_of_getElem? (i := 112) rfl)) e6 (g := (mkF m 22 #[.val (.ref a1), .val (.ref a2), .val (.int (0 : Int32))] [(.int (0 : Int32)), (.ref a1)])) rfl (hb hby d16_22) rfl (by decide) (cap := 0) (by decide) (by decide) (by decide) (by decide) (ad := "[[I") (by decide)
  obtain ⟨b7, g7⟩ : ∃ z, z = h6.size := ⟨_, rfl⟩      -- the fresh array's address
  rw [← g7] at A7 st7
  have V_b7 := Arv.new A7 (by decide)
  have g_b7 : n0 ≤ b7 := Nat.le_trans (Nat.le_trans (Nat.le_trans (Nat.le_trans Z0 (Keep.of_wr W4).1) E5.1) (Keep.of_wr W6).1) (Nat.le_of_eq g7.symm)
  have sz_b7 : h0.size ≤ b7 := (Nat.le_trans K6.1 (Nat.le_of_eq g7.symm))
  have K7 : Keep h0 h7 [a1] := K6.ext E7
  obtain ⟨T8, h8, X8, e8, W8, st8⟩ := putF X7 hx hZ hown (host := "") (Or.inl (hw _ (List.mem_of_getElem? (i := 136) rfl))) Via.refl e7 ((((F_slopesOfRow_a1.other W4 (Or.inr (slot_ne (Or.inr (hw _ (List.mem_of_getElem? (i := 137) rfl))) (Or.inr (hw _ (List.mem_of_getElem? (i := 131) rfl))) (by decide) (t := (.array (.array .int))) (t' := .int) (by decide) (by decide)))).ext E5).other W6 (Or.inr (slot_ne (Or.inr (hw _ (List.mem_of_getElem? (i := 137) rfl))) (Or.inr (hw _ (List.mem_of_getElem? (i := 134) rfl))) (by decide) (t := (.array (.array .int))) (t' := (.array (.array .double))) (by decide) (by decide)))).ext E7) ((((E_a1.wr W4).ext E5).wr W6).ext E7) (Or.inr ⟨(hw _ (List.mem_of_getElem? (i := 137) rfl)), rfl, hnm⟩) (hw _ (List.mem_of_getElem? (i := 120) rfl)) (ty := (.array (.array .int))) (by decide) rfl rfl (g := (mkF m 25 #[.val (.ref a1), .val (.ref a2), .val (.int (0 : Int32))] [(.ref b7), (.ref a1)])) rfl rfl (hb hby d16_25)
  have Fw8 := ((((F_slopesOfRow_a1.other W4 (Or.inr (slot_ne (Or.inr (hw _ (List.mem_of_getElem? (i := 137) rfl))) (Or.inr (hw _ (List.mem_of_getElem? (i := 131) rfl))) (by decide) (t := (.array (.array .int))) (t' := .int) (by decide) (by decide)))).ext E5).other W6 (Or.inr (slot_ne (Or.inr (hw _ (List.mem_of_getElem? (i := 137) rfl))) (Or.inr (hw _ (List.mem_of_getElem? (i := 134) rfl))) (by decide) (t := (.array (.array .int))) (t' := (.array (.array .double))) (by decide) (by decide)))).ext E7).same W8      -- the field now holds (.ref b7)
  have K8 : Keep h0 h8 [a1] := K7.wr W8 (Or.inl (List.mem_of_getElem? (i := 0) rfl))
  have N8 := Fr.snoc X8 N6 g_a1
  obtain ⟨T9, h9, k9, X9, e9, E9, A9, st9⟩ := newP X8 hx hZ (hw _ (List.mem_of_getElem? (i := 0) rfl)) e8 (g := (mkF m 30 #[.val (.ref a1), .val (.ref a2), .val (.int (0 : Int32))] [(.int (0 : Int32)), (.ref a1)])) rfl (hb hby d16_30) rfl (by decide) (cap := 0) (by decide) (by decide) (by decide) (by decide)
  obtain ⟨b9, g9⟩ : ∃ z, z = h8.size := ⟨_, rfl⟩      -- the fresh array's address
  rw [← g9] at A9 st9
  have V_b9 := Arv.new A9 (by decide)      -- Arv Z h9 b9 k9 .int (0 : Int32) [] (its first value); a place must be in the list before it's written: Arv.pad with pad_rep
  have g_b9 : n0 ≤ b9 := Nat.le_trans (Nat.le_trans (Nat.le_trans (Nat.le_trans (Nat.le_trans (Nat.le_trans Z0 (Keep.of_wr W4).1) E5.1) (Keep.of_wr W6).1) E7.1) (Keep.of_wr W8).1) (Nat.le_of_eq g9.symm)
  have sz_b9 : h0.size ≤ b9 := (Nat.le_trans K8.1 (Nat.le_of_eq g9.symm))
  have K9 : Keep h0 h9 [a1] := K8.ext E9
  obtain ⟨T10, h10, X10, e10, W10, st10⟩ := putF X9 hx hZ hown (host := "") (Or.inl (hw _ (List.mem_of_getElem? (i := 138) rfl))) Via.refl e9 ((((((F_columnOfRow_a1.other W4 (Or.inr (slot_ne (Or.inr (hw _ (List.mem_of_getElem? (i := 139) rfl))) (Or.inr (hw _ (List.mem_of_getElem? (i := 131) rfl))) (by decide) (t := (.array .int)) (t' := .int) (by decide) (by decide)))).ext E5).other W6 (Or.inr (slot_ne (Or.inr (hw _ (List.mem_of_getElem? (i := 139) rfl))) (Or.inr (hw _ (List.mem_of_getElem? (i := 134) rfl))) (by decide) (t := (.array .int)) (t' := (.array (.array .double))) (by decide) (by decide)))).ext E7).other W8 (Or.inr (slot_ne (Or.inr (hw _ (List.mem_of_getElem? (i := 139) rfl))) (Or.inr (hw _ (List.mem_of_getElem? (i := 137) rfl))) (by decide) (t := (.array .int)) (t' := (.array (.array .int))) (by decide) (by decide)))).ext E9) ((((((E_a1.wr W4).ext E5).wr W6).ext E7).wr W8).ext E9) (Or.inr ⟨(hw _ (List.mem_of_getElem? (i := 139) rfl)), rfl, hnm⟩) (hw _ (List.mem_of_getElem? (i := 120) rfl)) (ty := (.array .int)) (by decide) rfl rfl (g := (mkF m 32 #[.val (.ref a1), .val (.ref a2), .val (.int (0 : Int32))] [(.ref b9), (.ref a1)])) rfl rfl (hb hby d16_32)
  have Fw10 := ((((((F_columnOfRow_a1.other W4 (Or.inr (slot_ne (Or.inr (hw _ (List.mem_of_getElem? (i := 139) rfl))) (Or.inr (hw _ (List.mem_of_getElem? (i := 131) rfl))) (by decide) (t := (.array .int)) (t' := .int) (by decide) (by decide)))).ext E5).other W6 (Or.inr (slot_ne (Or.inr (hw _ (List.mem_of_getElem? (i := 139) rfl))) (Or.inr (hw _ (List.mem_of_getElem? (i := 134) rfl))) (by decide) (t := (.array .int)) (t' := (.array (.array .double))) (by decide) (by decide)))).ext E7).other W8 (Or.inr (slot_ne (Or.inr (hw _ (List.mem_of_getElem? (i := 139) rfl))) (Or.inr (hw _ (List.mem_of_getElem? (i := 137) rfl))) (by decide) (t := (.array .int)) (t' := (.array (.array .int))) (by decide) (by decide)))).ext E9).same W10      -- the field now holds (.ref b9)
  have K10 : Keep h0 h10 [a1] := K9.wr W10 (Or.inl (List.mem_of_getElem? (i := 0) rfl))
  have N10 := Fr.snoc X10 N8 g_a1
  obtain ⟨T11, h11, k11, X11, e11, E11, A11, st11⟩ := newP X10 hx hZ (hw _ (List.mem_of_getElem? (i := 0) rfl)) e10 (g := (mkF m 37 #[.val (.ref a1), .val (.ref a2), .val (.int (0 : Int32))] [(.int (0 : Int32)), (.ref a1)])) rfl (hb hby d16_37) rfl (by decide) (cap := 0) (by decide) (by decide) (by decide) (by decide)
  obtain ⟨b11, g11⟩ : ∃ z, z = h10.size := ⟨_, rfl⟩      -- the fresh array's address
  rw [← g11] at A11 st11
  have V_b11 := Arv.new A11 (by decide)      -- Arv Z h11 b11 k11 .int (0 : Int32) [] (its first value); a place must be in the list before it's written: Arv.pad with pad_rep
  have g_b11 : n0 ≤ b11 := Nat.le_trans (Nat.le_trans (Nat.le_trans (Nat.le_trans (Nat.le_trans (Nat.le_trans (Nat.le_trans (Nat.le_trans Z0 (Keep.of_wr W4).1) E5.1) (Keep.of_wr W6).1) E7.1) (Keep.of_wr W8).1) E9.1) (Keep.of_wr W10).1) (Nat.le_of_eq g11.symm)
  have sz_b11 : h0.size ≤ b11 := (Nat.le_trans K10.1 (Nat.le_of_eq g11.symm))
  have K11 : Keep h0 h11 [a1] := K10.ext E11
  obtain ⟨T12, h12, X12, e12, W12, st12⟩ := putF X11 hx hZ hown (host := "") (Or.inl (hw _ (List.mem_of_getElem? (i := 140) rfl))) Via.refl e11 ((((((((F_rowOfColumn_a1.other W4 (Or.inr (slot_ne (Or.inr (hw _ (List.mem_of_getElem? (i := 141) rfl))) (Or.inr (hw _ (List.mem_of_getElem? (i := 131) rfl))) (by decide) (t := (.array .int)) (t' := .int) (by decide) (by decide)))).ext E5).other W6 (Or.inr (slot_ne (Or.inr (hw _ (List.mem_of_getElem? (i := 141) rfl))) (Or.inr (hw _ (List.mem_of_getElem? (i := 134) rfl))) (by decide) (t := (.array .int)) (t' := (.array (.array .double))) (by decide) (by decide)))).ext E7).other W8 (Or.inr (slot_ne (Or.inr (hw _ (List.mem_of_getElem? (i := 141) rfl))) (Or.inr (hw _ (List.mem_of_getElem? (i := 137) rfl))) (by decide) (t := (.array .int)) (t' := (.array (.array .int))) (by decide) (by decide)))).ext E9).other W10 (Or.inr (slot_ne (Or.inr (hw _ (List.mem_of_getElem? (i := 141) rfl))) (Or.inr (hw _ (List.mem_of_getElem? (i := 139) rfl))) (by decide) (t := (.array .int)) (t' := (.array .int)) (by decide) (by decide)))).ext E11) ((((((((E_a1.wr W4).ext E5).wr W6).ext E7).wr W8).ext E9).wr W10).ext E11) (Or.inr ⟨(hw _ (List.mem_of_getElem? (i := 141) rfl)), rfl, hnm⟩) (hw _ (List.mem_of_getElem? (i := 120) rfl)) (ty := (.array .int)) (by decide) rfl rfl (g := (mkF m 39 #[.val (.ref a1), .val (.ref a2), .val (.int (0 : Int32))] [(.ref b11), (.ref a1)])) rfl rfl (hb hby d16_39)
  have Fw12 := ((((((((F_rowOfColumn_a1.other W4 (Or.inr (slot_ne (Or.inr (hw _ (List.mem_of_getElem? (i := 141) rfl))) (Or.inr (hw _ (List.mem_of_getElem? (i := 131) rfl))) (by decide) (t := (.array .int)) (t' := .int) (by decide) (by decide)))).ext E5).other W6 (Or.inr (slot_ne (Or.inr (hw _ (List.mem_of_getElem? (i := 141) rfl))) (Or.inr (hw _ (List.mem_of_getElem? (i := 134) rfl))) (by decide) (t := (.array .int)) (t' := (.array (.array .double))) (by decide) (by decide)))).ext E7).other W8 (Or.inr (slot_ne (Or.inr (hw _ (List.mem_of_getElem? (i := 141) rfl))) (Or.inr (hw _ (List.mem_of_getElem? (i := 137) rfl))) (by decide) (t := (.array .int)) (t' := (.array (.array .int))) (by decide) (by decide)))).ext E9).other W10 (Or.inr (slot_ne (Or.inr (hw _ (List.mem_of_getElem? (i := 141) rfl))) (Or.inr (hw _ (List.mem_of_getElem? (i := 139) rfl))) (by decide) (t := (.array .int)) (t' := (.array .int)) (by decide) (by decide)))).ext E11).same W12      -- the field now holds (.ref b11)
  have K12 : Keep h0 h12 [a1] := K11.wr W12 (Or.inl (List.mem_of_getElem? (i := 0) rfl))
  have N12 := Fr.snoc X12 N10 g_a1
  obtain ⟨T13, X13, e13, st13⟩ := getF X12 hx hZ hown (host := "") (Or.inl (hw _ (List.mem_of_getElem? (i := 140) rfl))) Via.refl e12 Fw12 (g := (mkF m 43 #[.val (.ref a1), .val (.ref a2), .val (.int (0 : Int32))] [(.ref a1)])) rfl rfl (hb hby d16_43)
  obtain ⟨_, _, ⟨T14, L14, k14, n14⟩, -, X14, ⟨Lc14, hQ14, l14, y14, z14⟩, st14⟩ := Jvm.LawKit.callS X13 hx (y := (⟨"java/util/Arrays", "fill", "([II)V"⟩ : MethodName)) hown (mvT hZ (hw _ (List.mem_of_getElem? (i := 142) rfl))) (mvT hZ (hw _ (List.mem_of_getElem? (i := 143) rfl))) (mvT hZ (hw _ (List.mem_of_getElem? (i := 88) rfl))) (mvT hZ (hw _ (List.mem_of_getElem? (i := 144) rfl))) (by decide) (backOf (W := 0) (rm17 l Z a0 hw [] b11 (-1 : Int32) _ (0 : Int32) h12 n0 (Nat.le_trans Z0 K12.1) (A11.other W12 (Nat.ne_of_gt (Nat.lt_of_lt_of_le E_a1.lt sz_b11))) (sz_new _ _ _) (by decide) (by decide)) hZ (hw _ (List.mem_of_getElem? (i := 144) rfl)) (hw _ (List.mem_of_getElem? (i := 88) rfl)) (by decide) (by decide)) (g := (mkF m 47 #[.val (.ref a1), .val (.ref a2), .val (.int (0 : Int32))] [(.int (-1 : Int32)), (.ref b11)])) rfl (by rw [hml]; rfl) (argsL := [(.ref b11), (.int (-1 : Int32))]) (rest := []) (lenOf pd_16_11 rfl) rfl (by show 2 * 0 + _ ≤ _; exact Nat.le_of_eq rfl) (hb hby d16_47) (fun _ _ => ⟨rfl, e13, (by decide : 4 + 0 ≤ _), (by decide : 0 + 0 ≤ _)⟩)
  dsimp only [Pt.U, Pt.locs, Pt.cells, Pt.slots] at X14 l14 y14 z14 st14 hQ14
  subst l14 y14 z14
  obtain ⟨rfl, N14q, e14⟩ := hQ14
  have N14 := Fr.app N12 N14q
  obtain ⟨T15, h15, k15, X15, e15, E15, A15, st15⟩ := newP X14 hx hZ (hw _ (List.mem_of_getElem? (i := 85) rfl)) e14 (g := (mkF m 52 #[.val (.ref a1), .val (.ref a2), .val (.int (0 : Int32))] [(.int (0 : Int32)), (.ref a1)])) rfl (hb hby d16_52) rfl (by decide) (cap := 0) (by decide) (by decide) (by decide) (by decide)
  obtain ⟨b15, g15⟩ : ∃ z, z = h12.size := ⟨_, rfl⟩      -- the fresh array's address
  rw [← g15] at A15 st15
  have V_b15 := Arv.new A15 (by decide)      -- Arv Z h15 b15 k15 .double (0 : Int32) [] (its first value); a place must be in the list before it's written: Arv.pad with pad_rep
  have g_b15 : n0 ≤ b15 := Nat.le_trans (Nat.le_trans (Nat.le_trans (Nat.le_trans (Nat.le_trans (Nat.le_trans (Nat.le_trans (Nat.le_trans (Nat.le_trans (Nat.le_trans (Nat.le_trans Z0 (Keep.of_wr W4).1) E5.1) (Keep.of_wr W6).1) E7.1) (Keep.of_wr W8).1) E9.1) (Keep.of_wr W10).1) E11.1) (Keep.of_wr W12).1) (Nat.le_refl _)) (Nat.le_of_eq g15.symm)
  have sz_b15 : h0.size ≤ b15 := (Nat.le_trans K12.1 (Nat.le_of_eq g15.symm))
  have K15 : Keep h0 h15 [a1] := K12.ext E15
  obtain ⟨T16, h16, X16, e16, W16, st16⟩ := putF X15 hx hZ hown (host := "") (Or.inl (hw _ (List.mem_of_getElem? (i := 145) rfl))) Via.refl e15 (((((((((((F_rowPotential_a1.other W4 (Or.inr (slot_ne (Or.inr (hw _ (List.mem_of_getElem? (i := 146) rfl))) (Or.inr (hw _ (List.mem_of_getElem? (i := 131) rfl))) (by decide) (t := (.array .double)) (t' := .int) (by decide) (by decide)))).ext E5).other W6 (Or.inr (slot_ne (Or.inr (hw _ (List.mem_of_getElem? (i := 146) rfl))) (Or.inr (hw _ (List.mem_of_getElem? (i := 134) rfl))) (by decide) (t := (.array .double)) (t' := (.array (.array .double))) (by decide) (by decide)))).ext E7).other W8 (Or.inr (slot_ne (Or.inr (hw _ (List.mem_of_getElem? (i := 146) rfl))) (Or.inr (hw _ (List.mem_of_getElem? (i := 137) rfl))) (by decide) (t := (.array .double)) (t' := (.array (.array .int))) (by decide) (by decide)))).ext E9).other W10 (Or.inr (slot_ne (Or.inr (hw _ (List.mem_of_getElem? (i := 146) rfl))) (Or.inr (hw _ (List.mem_of_getElem? (i := 139) rfl))) (by decide) (t := (.array .double)) (t' := (.array .int)) (by decide) (by decide)))).ext E11).other W12 (Or.inr (slot_ne (Or.inr (hw _ (List.mem_of_getElem? (i := 146) rfl))) (Or.inr (hw _ (List.mem_of_getElem? (i := 141) rfl))) (by decide) (t := (.array .double)) (t' := (.array .int)) (by decide) (by decide))))).ext E15) (((((((((((E_a1.wr W4).ext E5).wr W6).ext E7).wr W8).ext E9).wr W10).ext E11).wr W12)).ext E15) (Or.inr ⟨(hw _ (List.mem_of_getElem? (i := 146) rfl)), rfl, hnm⟩) (hw _ (List.mem_of_getElem? (i := 120) rfl)) (ty := (.array .double)) (by decide) rfl rfl (g := (mkF m 54 #[.val (.ref a1), .val (.ref a2), .val (.int (0 : Int32))] [(.ref b15), (.ref a1)])) rfl rfl (hb hby d16_54)
  have Fw16 := (((((((((((F_rowPotential_a1.other W4 (Or.inr (slot_ne (Or.inr (hw _ (List.mem_of_getElem? (i := 146) rfl))) (Or.inr (hw _ (List.mem_of_getElem? (i := 131) rfl))) (by decide) (t := (.array .double)) (t' := .int) (by decide) (by decide)))).ext E5).other W6 (Or.inr (slot_ne (Or.inr (hw _ (List.mem_of_getElem? (i := 146) rfl))) (Or.inr (hw _ (List.mem_of_getElem? (i := 134) rfl))) (by decide) (t := (.array .double)) (t' := (.array (.array .double))) (by decide) (by decide)))).ext E7).other W8 (Or.inr (slot_ne (Or.inr (hw _ (List.mem_of_getElem? (i := 146) rfl))) (Or.inr (hw _ (List.mem_of_getElem? (i := 137) rfl))) (by decide) (t := (.array .double)) (t' := (.array (.array .int))) (by decide) (by decide)))).ext E9).other W10 (Or.inr (slot_ne (Or.inr (hw _ (List.mem_of_getElem? (i := 146) rfl))) (Or.inr (hw _ (List.mem_of_getElem? (i := 139) rfl))) (by decide) (t := (.array .double)) (t' := (.array .int)) (by decide) (by decide)))).ext E11).other W12 (Or.inr (slot_ne (Or.inr (hw _ (List.mem_of_getElem? (i := 146) rfl))) (Or.inr (hw _ (List.mem_of_getElem? (i := 141) rfl))) (by decide) (t := (.array .double)) (t' := (.array .int)) (by decide) (by decide))))).ext E15).same W16      -- the field now holds (.ref b15)
  have K16 : Keep h0 h16 [a1] := K15.wr W16 (Or.inl (List.mem_of_getElem? (i := 0) rfl))
  have N16 := Fr.snoc X16 N14 g_a1
  obtain ⟨T17, h17, k17, X17, e17, E17, A17, st17⟩ := newP X16 hx hZ (hw _ (List.mem_of_getElem? (i := 147) rfl)) e16 (g := (mkF m 59 #[.val (.ref a1), .val (.ref a2), .val (.int (0 : Int32))] [(.int (0 : Int32)), (.ref a1)])) rfl (hb hby d16_59) rfl (by decide) (cap := 0) (by decide) (by decide) (by decide) (by decide)
  obtain ⟨b17, g17⟩ : ∃ z, z = h16.size := ⟨_, rfl⟩      -- the fresh array's address
  rw [← g17] at A17 st17
  have V_b17 := Arv.new A17 (by decide)      -- Arv Z h17 b17 k17 .long (0 : Int32) [] (its first value); a place must be in the list before it's written: Arv.pad with pad_rep
  have g_b17 : n0 ≤ b17 := Nat.le_trans (Nat.le_trans (Nat.le_trans (Nat.le_trans (Nat.le_trans (Nat.le_trans (Nat.le_trans (Nat.le_trans (Nat.le_trans (Nat.le_trans (Nat.le_trans (Nat.le_trans (Nat.le_trans Z0 (Keep.of_wr W4).1) E5.1) (Keep.of_wr W6).1) E7.1) (Keep.of_wr W8).1) E9.1) (Keep.of_wr W10).1) E11.1) (Keep.of_wr W12).1) (Nat.le_refl _)) E15.1) (Keep.of_wr W16).1) (Nat.le_of_eq g17.symm)
  have sz_b17 : h0.size ≤ b17 := (Nat.le_trans K16.1 (Nat.le_of_eq g17.symm))
  have K17 : Keep h0 h17 [a1] := K16.ext E17
  obtain ⟨T18, h18, X18, e18, W18, st18⟩ := putF X17 hx hZ hown (host := "") (Or.inl (hw _ (List.mem_of_getElem? (i := 148) rfl))) Via.refl e17 (((((((((((((F_rowSlope_a1.other W4 (Or.inr (slot_ne (Or.inr (hw _ (List.mem_of_getElem? (i := 149) rfl))) (Or.inr (hw _ (List.mem_of_getElem? (i := 131) rfl))) (by decide) (t := (.array .long)) (t' := .int) (by decide) (by decide)))).ext E5).other W6 (Or.inr (slot_ne (Or.inr (hw _ (List.mem_of_getElem? (i := 149) rfl))) (Or.inr (hw _ (List.mem_of_getElem? (i := 134) rfl))) (by decide) (t := (.array .long)) (t' := (.array (.array .double))) (by decide) (by decide)))).ext E7).other W8 (Or.inr (slot_ne (Or.inr (hw _ (List.mem_of_getElem? (i := 149) rfl))) (Or.inr (hw _ (List.mem_of_getElem? (i := 137) rfl))) (by decide) (t := (.array .long)) (t' := (.array (.array .int))) (by decide) (by decide)))).ext E9).other W10 (Or.inr (slot_ne (Or.inr (hw _ (List.mem_of_getElem? (i := 149) rfl))) (Or.inr (hw _ (List.mem_of_getElem? (i := 139) rfl))) (by decide) (t := (.array .long)) (t' := (.array .int)) (by decide) (by decide)))).ext E11).other W12 (Or.inr (slot_ne (Or.inr (hw _ (List.mem_of_getElem? (i := 149) rfl))) (Or.inr (hw _ (List.mem_of_getElem? (i := 141) rfl))) (by decide) (t := (.array .long)) (t' := (.array .int)) (by decide) (by decide))))).ext E15).other W16 (Or.inr (slot_ne (Or.inr (hw _ (List.mem_of_getElem? (i := 149) rfl))) (Or.inr (hw _ (List.mem_of_getElem? (i := 146) rfl))) (by decide) (t := (.array .long)) (t' := (.array .double)) (by decide) (by decide)))).ext E17) (((((((((((((E_a1.wr W4).ext E5).wr W6).ext E7).wr W8).ext E9).wr W10).ext E11).wr W12)).ext E15).wr W16).ext E17) (Or.inr ⟨(hw _ (List.mem_of_getElem? (i := 149) rfl)), rfl, hnm⟩) (hw _ (List.mem_of_getElem? (i := 120) rfl)) (ty := (.array .long)) (by decide) rfl rfl (g := (mkF m 61 #[.val (.ref a1), .val (.ref a2), .val (.int (0 : Int32))] [(.ref b17), (.ref a1)])) rfl rfl (hb hby d16_61)
  have Fw18 := (((((((((((((F_rowSlope_a1.other W4 (Or.inr (slot_ne (Or.inr (hw _ (List.mem_of_getElem? (i := 149) rfl))) (Or.inr (hw _ (List.mem_of_getElem? (i := 131) rfl))) (by decide) (t := (.array .long)) (t' := .int) (by decide) (by decide)))).ext E5).other W6 (Or.inr (slot_ne (Or.inr (hw _ (List.mem_of_getElem? (i := 149) rfl))) (Or.inr (hw _ (List.mem_of_getElem? (i := 134) rfl))) (by decide) (t := (.array .long)) (t' := (.array (.array .double))) (by decide) (by decide)))).ext E7).other W8 (Or.inr (slot_ne (Or.inr (hw _ (List.mem_of_getElem? (i := 149) rfl))) (Or.inr (hw _ (List.mem_of_getElem? (i := 137) rfl))) (by decide) (t := (.array .long)) (t' := (.array (.array .int))) (by decide) (by decide)))).ext E9).other W10 (Or.inr (slot_ne (Or.inr (hw _ (List.mem_of_getElem? (i := 149) rfl))) (Or.inr (hw _ (List.mem_of_getElem? (i := 139) rfl))) (by decide) (t := (.array .long)) (t' := (.array .int)) (by decide) (by decide)))).ext E11).other W12 (Or.inr (slot_ne (Or.inr (hw _ (List.mem_of_getElem? (i := 149) rfl))) (Or.inr (hw _ (List.mem_of_getElem? (i := 141) rfl))) (by decide) (t := (.array .long)) (t' := (.array .int)) (by decide) (by decide))))).ext E15).other W16 (Or.inr (slot_ne (Or.inr (hw _ (List.mem_of_getElem? (i := 149) rfl))) (Or.inr (hw _ (List.mem_of_getElem? (i := 146) rfl))) (by decide) (t := (.array .long)) (t' := (.array .double)) (by decide) (by decide)))).ext E17).same W18      -- the field now holds (.ref b17)
  have K18 : Keep h0 h18 [a1] := K17.wr W18 (Or.inl (List.mem_of_getElem? (i := 0) rfl))
  have N18 := Fr.snoc X18 N16 g_a1
  obtain ⟨T19, h19, X19, e19, W19, st19⟩ := putF X18 hx hZ hown (host := "") (Or.inl (hw _ (List.mem_of_getElem? (i := 150) rfl))) Via.refl e18 ((((((((((((((F_columnPotential_a1.other W4 (Or.inr (slot_ne (Or.inr (hw _ (List.mem_of_getElem? (i := 151) rfl))) (Or.inr (hw _ (List.mem_of_getElem? (i := 131) rfl))) (by decide) (t := (.array .double)) (t' := .int) (by decide) (by decide)))).ext E5).other W6 (Or.inr (slot_ne (Or.inr (hw _ (List.mem_of_getElem? (i := 151) rfl))) (Or.inr (hw _ (List.mem_of_getElem? (i := 134) rfl))) (by decide) (t := (.array .double)) (t' := (.array (.array .double))) (by decide) (by decide)))).ext E7).other W8 (Or.inr (slot_ne (Or.inr (hw _ (List.mem_of_getElem? (i := 151) rfl))) (Or.inr (hw _ (List.mem_of_getElem? (i := 137) rfl))) (by decide) (t := (.array .double)) (t' := (.array (.array .int))) (by decide) (by decide)))).ext E9).other W10 (Or.inr (slot_ne (Or.inr (hw _ (List.mem_of_getElem? (i := 151) rfl))) (Or.inr (hw _ (List.mem_of_getElem? (i := 139) rfl))) (by decide) (t := (.array .double)) (t' := (.array .int)) (by decide) (by decide)))).ext E11).other W12 (Or.inr (slot_ne (Or.inr (hw _ (List.mem_of_getElem? (i := 151) rfl))) (Or.inr (hw _ (List.mem_of_getElem? (i := 141) rfl))) (by decide) (t := (.array .double)) (t' := (.array .int)) (by decide) (by decide))))).ext E15).other W16 (Or.inr (slot_ne (Or.inr (hw _ (List.mem_of_getElem? (i := 151) rfl))) (Or.inr (hw _ (List.mem_of_getElem? (i := 146) rfl))) (by decide) (t := (.array .double)) (t' := (.array .double)) (by decide) (by decide)))).ext E17).other W18 (Or.inr (slot_ne (Or.inr (hw _ (List.mem_of_getElem? (i := 151) rfl))) (Or.inr (hw _ (List.mem_of_getElem? (i := 149) rfl))) (by decide) (t := (.array .double)) (t' := (.array .long)) (by decide) (by decide)))) ((((((((((((((E_a1.wr W4).ext E5).wr W6).ext E7).wr W8).ext E9).wr W10).ext E11).wr W12)).ext E15).wr W16).ext E17).wr W18) (Or.inr ⟨(hw _ (List.mem_of_getElem? (i := 151) rfl)), rfl, hnm⟩) (hw _ (List.mem_of_getElem? (i := 120) rfl)) (ty := (.array .double)) (by decide) rfl rfl (g := (mkF m 66 #[.val (.ref a1), .val (.ref a2), .val (.int (0 : Int32))] [(.ref a2), (.ref a1)])) rfl rfl (hb hby d16_66)
  have Fw19 := ((((((((((((((F_columnPotential_a1.other W4 (Or.inr (slot_ne (Or.inr (hw _ (List.mem_of_getElem? (i := 151) rfl))) (Or.inr (hw _ (List.mem_of_getElem? (i := 131) rfl))) (by decide) (t := (.array .double)) (t' := .int) (by decide) (by decide)))).ext E5).other W6 (Or.inr (slot_ne (Or.inr (hw _ (List.mem_of_getElem? (i := 151) rfl))) (Or.inr (hw _ (List.mem_of_getElem? (i := 134) rfl))) (by decide) (t := (.array .double)) (t' := (.array (.array .double))) (by decide) (by decide)))).ext E7).other W8 (Or.inr (slot_ne (Or.inr (hw _ (List.mem_of_getElem? (i := 151) rfl))) (Or.inr (hw _ (List.mem_of_getElem? (i := 137) rfl))) (by decide) (t := (.array .double)) (t' := (.array (.array .int))) (by decide) (by decide)))).ext E9).other W10 (Or.inr (slot_ne (Or.inr (hw _ (List.mem_of_getElem? (i := 151) rfl))) (Or.inr (hw _ (List.mem_of_getElem? (i := 139) rfl))) (by decide) (t := (.array .double)) (t' := (.array .int)) (by decide) (by decide)))).ext E11).other W12 (Or.inr (slot_ne (Or.inr (hw _ (List.mem_of_getElem? (i := 151) rfl))) (Or.inr (hw _ (List.mem_of_getElem? (i := 141) rfl))) (by decide) (t := (.array .double)) (t' := (.array .int)) (by decide) (by decide))))).ext E15).other W16 (Or.inr (slot_ne (Or.inr (hw _ (List.mem_of_getElem? (i := 151) rfl))) (Or.inr (hw _ (List.mem_of_getElem? (i := 146) rfl))) (by decide) (t := (.array .double)) (t' := (.array .double)) (by decide) (by decide)))).ext E17).other W18 (Or.inr (slot_ne (Or.inr (hw _ (List.mem_of_getElem? (i := 151) rfl))) (Or.inr (hw _ (List.mem_of_getElem? (i := 149) rfl))) (by decide) (t := (.array .double)) (t' := (.array .long)) (by decide) (by decide)))).same W19      -- the field now holds (.ref a2)
  have K19 : Keep h0 h19 [a1] := K18.wr W19 (Or.inl (List.mem_of_getElem? (i := 0) rfl))
  have N19 := Fr.snoc X19 N18 g_a1
  obtain ⟨T20, h20, k20, X20, e20, E20, A20, st20⟩ := newP X19 hx hZ (hw _ (List.mem_of_getElem? (i := 147) rfl)) e19 (g := (mkF m 71 #[.val (.ref a1), .val (.ref a2), .val (.int (0 : Int32))] [(.int (0 : Int32)), (.ref a1)])) rfl (hb hby d16_71) rfl (by decide) (cap := 0) (by decide) (by decide) (by decide) (by decide)
  obtain ⟨b20, g20⟩ : ∃ z, z = h19.size := ⟨_, rfl⟩      -- the fresh array's address
  rw [← g20] at A20 st20
  have V_b20 := Arv.new A20 (by decide)      -- Arv Z h20 b20 k20 .long (0 : Int32) [] (its first value); a place must be in the list before it's written: Arv.pad with pad_rep
  have g_b20 : n0 ≤ b20 := Nat.le_trans (Nat.le_trans (Nat.le_trans (Nat.le_trans (Nat.le_trans (Nat.le_trans (Nat.le_trans (Nat.le_trans (Nat.le_trans (Nat.le_trans (Nat.le_trans (Nat.le_trans (Nat.le_trans (Nat.le_trans (Nat.le_trans (Nat.le_trans Z0 (Keep.of_wr W4).1) E5.1) (Keep.of_wr W6).1) E7.1) (Keep.of_wr W8).1) E9.1) (Keep.of_wr W10).1) E11.1) (Keep.of_wr W12).1) (Nat.le_refl _)) E15.1) (Keep.of_wr W16).1) E17.1) (Keep.of_wr W18).1) (Keep.of_wr W19).1) (Nat.le_of_eq g20.symm)
  have sz_b20 : h0.size ≤ b20 := (Nat.le_trans K19.1 (Nat.le_of_eq g20.symm))
  have K20 : Keep h0 h20 [a1] := K19.ext E20
  obtain ⟨T21, h21, X21, e21, W21, st21⟩ := putF X20 hx hZ hown (host := "") (Or.inl (hw _ (List.mem_of_getElem? (i := 152) rfl))) Via.refl e20 ((((((((((((((((F_columnSlope_a1.other W4 (Or.inr (slot_ne (Or.inr (hw _ (List.mem_of_getElem? (i := 153) rfl))) (Or.inr (hw _ (List.mem_of_getElem? (i := 131) rfl))) (by decide) (t := (.array .long)) (t' := .int) (by decide) (by decide)))).ext E5).other W6 (Or.inr (slot_ne (Or.inr (hw _ (List.mem_of_getElem? (i := 153) rfl))) (Or.inr (hw _ (List.mem_of_getElem? (i := 134) rfl))) (by decide) (t := (.array .long)) (t' := (.array (.array .double))) (by decide) (by decide)))).ext E7).other W8 (Or.inr (slot_ne (Or.inr (hw _ (List.mem_of_getElem? (i := 153) rfl))) (Or.inr (hw _ (List.mem_of_getElem? (i := 137) rfl))) (by decide) (t := (.array .long)) (t' := (.array (.array .int))) (by decide) (by decide)))).ext E9).other W10 (Or.inr (slot_ne (Or.inr (hw _ (List.mem_of_getElem? (i := 153) rfl))) (Or.inr (hw _ (List.mem_of_getElem? (i := 139) rfl))) (by decide) (t := (.array .long)) (t' := (.array .int)) (by decide) (by decide)))).ext E11).other W12 (Or.inr (slot_ne (Or.inr (hw _ (List.mem_of_getElem? (i := 153) rfl))) (Or.inr (hw _ (List.mem_of_getElem? (i := 141) rfl))) (by decide) (t := (.array .long)) (t' := (.array .int)) (by decide) (by decide))))).ext E15).other W16 (Or.inr (slot_ne (Or.inr (hw _ (List.mem_of_getElem? (i := 153) rfl))) (Or.inr (hw _ (List.mem_of_getElem? (i := 146) rfl))) (by decide) (t := (.array .long)) (t' := (.array .double)) (by decide) (by decide)))).ext E17).other W18 (Or.inr (slot_ne (Or.inr (hw _ (List.mem_of_getElem? (i := 153) rfl))) (Or.inr (hw _ (List.mem_of_getElem? (i := 149) rfl))) (by decide) (t := (.array .long)) (t' := (.array .long)) (by decide) (by decide)))).other W19 (Or.inr (slot_ne (Or.inr (hw _ (List.mem_of_getElem? (i := 153) rfl))) (Or.inr (hw _ (List.mem_of_getElem? (i := 151) rfl))) (by decide) (t := (.array .long)) (t' := (.array .double)) (by decide) (by decide)))).ext E20) ((((((((((((((((E_a1.wr W4).ext E5).wr W6).ext E7).wr W8).ext E9).wr W10).ext E11).wr W12)).ext E15).wr W16).ext E17).wr W18).wr W19).ext E20) (Or.inr ⟨(hw _ (List.mem_of_getElem? (i := 153) rfl)), rfl, hnm⟩) (hw _ (List.mem_of_getElem? (i := 120) rfl)) (ty := (.array .long)) (by decide) rfl rfl (g := (mkF m 73 #[.val (.ref a1), .val (.ref a2), .val (.int (0 : Int32))] [(.ref b20), (.ref a1)])) rfl rfl (hb hby d16_73)
  have Fw21 := ((((((((((((((((F_columnSlope_a1.other W4 (Or.inr (slot_ne (Or.inr (hw _ (List.mem_of_getElem? (i := 153) rfl))) (Or.inr (hw _ (List.mem_of_getElem? (i := 131) rfl))) (by decide) (t := (.array .long)) (t' := .int) (by decide) (by decide)))).ext E5).other W6 (Or.inr (slot_ne (Or.inr (hw _ (List.mem_of_getElem? (i := 153) rfl))) (Or.inr (hw _ (List.mem_of_getElem? (i := 134) rfl))) (by decide) (t := (.array .long)) (t' := (.array (.array .double))) (by decide) (by decide)))).ext E7).other W8 (Or.inr (slot_ne (Or.inr (hw _ (List.mem_of_getElem? (i := 153) rfl))) (Or.inr (hw _ (List.mem_of_getElem? (i := 137) rfl))) (by decide) (t := (.array .long)) (t' := (.array (.array .int))) (by decide) (by decide)))).ext E9).other W10 (Or.inr (slot_ne (Or.inr (hw _ (List.mem_of_getElem? (i := 153) rfl))) (Or.inr (hw _ (List.mem_of_getElem? (i := 139) rfl))) (by decide) (t := (.array .long)) (t' := (.array .int)) (by decide) (by decide)))).ext E11).other W12 (Or.inr (slot_ne (Or.inr (hw _ (List.mem_of_getElem? (i := 153) rfl))) (Or.inr (hw _ (List.mem_of_getElem? (i := 141) rfl))) (by decide) (t := (.array .long)) (t' := (.array .int)) (by decide) (by decide))))).ext E15).other W16 (Or.inr (slot_ne (Or.inr (hw _ (List.mem_of_getElem? (i := 153) rfl))) (Or.inr (hw _ (List.mem_of_getElem? (i := 146) rfl))) (by decide) (t := (.array .long)) (t' := (.array .double)) (by decide) (by decide)))).ext E17).other W18 (Or.inr (slot_ne (Or.inr (hw _ (List.mem_of_getElem? (i := 153) rfl))) (Or.inr (hw _ (List.mem_of_getElem? (i := 149) rfl))) (by decide) (t := (.array .long)) (t' := (.array .long)) (by decide) (by decide)))).other W19 (Or.inr (slot_ne (Or.inr (hw _ (List.mem_of_getElem? (i := 153) rfl))) (Or.inr (hw _ (List.mem_of_getElem? (i := 151) rfl))) (by decide) (t := (.array .long)) (t' := (.array .double)) (by decide) (by decide)))).ext E20).same W21      -- the field now holds (.ref b20)
  have K21 : Keep h0 h21 [a1] := K20.wr W21 (Or.inl (List.mem_of_getElem? (i := 0) rfl))
  have N21 := Fr.snoc X21 N19 g_a1
  obtain ⟨T22, h22, k22, X22, e22, E22, A22, st22⟩ := newP X21 hx hZ (hw _ (List.mem_of_getElem? (i := 85) rfl)) e21 (g := (mkF m 78 #[.val (.ref a1), .val (.ref a2), .val (.int (0 : Int32))] [(.int (0 : Int32)), (.ref a1)])) rfl (hb hby d16_78) rfl (by decide) (cap := 0) (by decide) (by decide) (by decide) (by decide)
  obtain ⟨b22, g22⟩ : ∃ z, z = h21.size := ⟨_, rfl⟩      -- the fresh array's address
  rw [← g22] at A22 st22
  have V_b22 := Arv.new A22 (by decide)      -- Arv Z h22 b22 k22 .double (0 : Int32) [] (its first value); a place must be in the list before it's written: Arv.pad with pad_rep
  have g_b22 : n0 ≤ b22 := Nat.le_trans (Nat.le_trans (Nat.le_trans (Nat.le_trans (Nat.le_trans (Nat.le_trans (Nat.le_trans (Nat.le_trans (Nat.le_trans (Nat.le_trans (Nat.le_trans (Nat.le_trans (Nat.le_trans (Nat.le_trans (Nat.le_trans (Nat.le_trans (Nat.le_trans (Nat.le_trans Z0 (Keep.of_wr W4).1) E5.1) (Keep.of_wr W6).1) E7.1) (Keep.of_wr W8).1) E9.1) (Keep.of_wr W10).1) E11.1) (Keep.of_wr W12).1) (Nat.le_refl _)) E15.1) (Keep.of_wr W16).1) E17.1) (Keep.of_wr W18).1) (Keep.of_wr W19).1) E20.1) (Keep.of_wr W21).1) (Nat.le_of_eq g22.symm)
  have sz_b22 : h0.size ≤ b22 := (Nat.le_trans K21.1 (Nat.le_of_eq g22.symm))
  have K22 : Keep h0 h22 [a1] := K21.ext E22
  obtain ⟨T23, h23, X23, e23, W23, st23⟩ := putF X22 hx hZ hown (host := "") (Or.inl (hw _ (List.mem_of_getElem? (i := 154) rfl))) Via.refl e22 ((((((((((((((((((F_pathLength_a1.other W4 (Or.inr (slot_ne (Or.inr (hw _ (List.mem_of_getElem? (i := 155) rfl))) (Or.inr (hw _ (List.mem_of_getElem? (i := 131) rfl))) (by decide) (t := (.array .double)) (t' := .int) (by decide) (by decide)))).ext E5).other W6 (Or.inr (slot_ne (Or.inr (hw _ (List.mem_of_getElem? (i := 155) rfl))) (Or.inr (hw _ (List.mem_of_getElem? (i := 134) rfl))) (by decide) (t := (.array .double)) (t' := (.array (.array .double))) (by decide) (by decide)))).ext E7).other W8 (Or.inr (slot_ne (Or.inr (hw _ (List.mem_of_getElem? (i := 155) rfl))) (Or.inr (hw _ (List.mem_of_getElem? (i := 137) rfl))) (by decide) (t := (.array .double)) (t' := (.array (.array .int))) (by decide) (by decide)))).ext E9).other W10 (Or.inr (slot_ne (Or.inr (hw _ (List.mem_of_getElem? (i := 155) rfl))) (Or.inr (hw _ (List.mem_of_getElem? (i := 139) rfl))) (by decide) (t := (.array .double)) (t' := (.array .int)) (by decide) (by decide)))).ext E11).other W12 (Or.inr (slot_ne (Or.inr (hw _ (List.mem_of_getElem? (i := 155) rfl))) (Or.inr (hw _ (List.mem_of_getElem? (i := 141) rfl))) (by decide) (t := (.array .double)) (t' := (.array .int)) (by decide) (by decide))))).ext E15).other W16 (Or.inr (slot_ne (Or.inr (hw _ (List.mem_of_getElem? (i := 155) rfl))) (Or.inr (hw _ (List.mem_of_getElem? (i := 146) rfl))) (by decide) (t := (.array .double)) (t' := (.array .double)) (by decide) (by decide)))).ext E17).other W18 (Or.inr (slot_ne (Or.inr (hw _ (List.mem_of_getElem? (i := 155) rfl))) (Or.inr (hw _ (List.mem_of_getElem? (i := 149) rfl))) (by decide) (t := (.array .double)) (t' := (.array .long)) (by decide) (by decide)))).other W19 (Or.inr (slot_ne (Or.inr (hw _ (List.mem_of_getElem? (i := 155) rfl))) (Or.inr (hw _ (List.mem_of_getElem? (i := 151) rfl))) (by decide) (t := (.array .double)) (t' := (.array .double)) (by decide) (by decide)))).ext E20).other W21 (Or.inr (slot_ne (Or.inr (hw _ (List.mem_of_getElem? (i := 155) rfl))) (Or.inr (hw _ (List.mem_of_getElem? (i := 153) rfl))) (by decide) (t := (.array .double)) (t' := (.array .long)) (by decide) (by decide)))).ext E22) ((((((((((((((((((E_a1.wr W4).ext E5).wr W6).ext E7).wr W8).ext E9).wr W10).ext E11).wr W12)).ext E15).wr W16).ext E17).wr W18).wr W19).ext E20).wr W21).ext E22) (Or.inr ⟨(hw _ (List.mem_of_getElem? (i := 155) rfl)), rfl, hnm⟩) (hw _ (List.mem_of_getElem? (i := 120) rfl)) (ty := (.array .double)) (by decide) rfl rfl (g := (mkF m 80 #[.val (.ref a1), .val (.ref a2), .val (.int (0 : Int32))] [(.ref b22), (.ref a1)])) rfl rfl (hb hby d16_80)
  have Fw23 := ((((((((((((((((((F_pathLength_a1.other W4 (Or.inr (slot_ne (Or.inr (hw _ (List.mem_of_getElem? (i := 155) rfl))) (Or.inr (hw _ (List.mem_of_getElem? (i := 131) rfl))) (by decide) (t := (.array .double)) (t' := .int) (by decide) (by decide)))).ext E5).other W6 (Or.inr (slot_ne (Or.inr (hw _ (List.mem_of_getElem? (i := 155) rfl))) (Or.inr (hw _ (List.mem_of_getElem? (i := 134) rfl))) (by decide) (t := (.array .double)) (t' := (.array (.array .double))) (by decide) (by decide)))).ext E7).other W8 (Or.inr (slot_ne (Or.inr (hw _ (List.mem_of_getElem? (i := 155) rfl))) (Or.inr (hw _ (List.mem_of_getElem? (i := 137) rfl))) (by decide) (t := (.array .double)) (t' := (.array (.array .int))) (by decide) (by decide)))).ext E9).other W10 (Or.inr (slot_ne (Or.inr (hw _ (List.mem_of_getElem? (i := 155) rfl))) (Or.inr (hw _ (List.mem_of_getElem? (i := 139) rfl))) (by decide) (t := (.array .double)) (t' := (.array .int)) (by decide) (by decide)))).ext E11).other W12 (Or.inr (slot_ne (Or.inr (hw _ (List.mem_of_getElem? (i := 155) rfl))) (Or.inr (hw _ (List.mem_of_getElem? (i := 141) rfl))) (by decide) (t := (.array .double)) (t' := (.array .int)) (by decide) (by decide))))).ext E15).other W16 (Or.inr (slot_ne (Or.inr (hw _ (List.mem_of_getElem? (i := 155) rfl))) (Or.inr (hw _ (List.mem_of_getElem? (i := 146) rfl))) (by decide) (t := (.array .double)) (t' := (.array .double)) (by decide) (by decide)))).ext E17).other W18 (Or.inr (slot_ne (Or.inr (hw _ (List.mem_of_getElem? (i := 155) rfl))) (Or.inr (hw _ (List.mem_of_getElem? (i := 149) rfl))) (by decide) (t := (.array .double)) (t' := (.array .long)) (by decide) (by decide)))).other W19 (Or.inr (slot_ne (Or.inr (hw _ (List.mem_of_getElem? (i := 155) rfl))) (Or.inr (hw _ (List.mem_of_getElem? (i := 151) rfl))) (by decide) (t := (.array .double)) (t' := (.array .double)) (by decide) (by decide)))).ext E20).other W21 (Or.inr (slot_ne (Or.inr (hw _ (List.mem_of_getElem? (i := 155) rfl))) (Or.inr (hw _ (List.mem_of_getElem? (i := 153) rfl))) (by decide) (t := (.array .double)) (t' := (.array .long)) (by decide) (by decide)))).ext E22).same W23      -- the field now holds (.ref b22)
  have K23 : Keep h0 h23 [a1] := K22.wr W23 (Or.inl (List.mem_of_getElem? (i := 0) rfl))
  have N23 := Fr.snoc X23 N21 g_a1
  obtain ⟨T24, h24, k24, X24, e24, E24, A24, st24⟩ := newP X23 hx hZ (hw _ (List.mem_of_getElem? (i := 147) rfl)) e23 (g := (mkF m 85 #[.val (.ref a1), .val (.ref a2), .val (.int (0 : Int32))] [(.int (0 : Int32)), (.ref a1)])) rfl (hb hby d16_85) rfl (by decide) (cap := 0) (by decide) (by decide) (by decide) (by decide)
  obtain ⟨b24, g24⟩ : ∃ z, z = h23.size := ⟨_, rfl⟩      -- the fresh array's address
  rw [← g24] at A24 st24
  have V_b24 := Arv.new A24 (by decide)      -- Arv Z h24 b24 k24 .long (0 : Int32) [] (its first value); a place must be in the list before it's written: Arv.pad with pad_rep
  have g_b24 : n0 ≤ b24 := Nat.le_trans (Nat.le_trans (Nat.le_trans (Nat.le_trans (Nat.le_trans (Nat.le_trans (Nat.le_trans (Nat.le_trans (Nat.le_trans (Nat.le_trans (Nat.le_trans (Nat.le_trans (Nat.le_trans (Nat.le_trans (Nat.le_trans (Nat.le_trans (Nat.le_trans (Nat.le_trans (Nat.le_trans (Nat.le_trans Z0 (Keep.of_wr W4).1) E5.1) (Keep.of_wr W6).1) E7.1) (Keep.of_wr W8).1) E9.1) (Keep.of_wr W10).1) E11.1) (Keep.of_wr W12).1) (Nat.le_refl _)) E15.1) (Keep.of_wr W16).1) E17.1) (Keep.of_wr W18).1) (Keep.of_wr W19).1) E20.1) (Keep.of_wr W21).1) E22.1) (Keep.of_wr W23).1) (Nat.le_of_eq g24.symm)
  have sz_b24 : h0.size ≤ b24 := (Nat.le_trans K23.1 (Nat.le_of_eq g24.symm))
  have K24 : Keep h0 h24 [a1] := K23.ext E24
  obtain ⟨T25, h25, X25, e25, W25, st25⟩ := putF X24 hx hZ hown (host := "") (Or.inl (hw _ (List.mem_of_getElem? (i := 156) rfl))) Via.refl e24 ((((((((((((((((((((F_pathSlope_a1.other W4 (Or.inr (slot_ne (Or.inr (hw _ (List.mem_of_getElem? (i := 157) rfl))) (Or.inr (hw _ (List.mem_of_getElem? (i := 131) rfl))) (by decide) (t := (.array .long)) (t' := .int) (by decide) (by decide)))).ext E5).other W6 (Or.inr (slot_ne (Or.inr (hw _ (List.mem_of_getElem? (i := 157) rfl))) (Or.inr (hw _ (List.mem_of_getElem? (i := 134) rfl))) (by decide) (t := (.array .long)) (t' := (.array (.array .double))) (by decide) (by decide)))).ext E7).other W8 (Or.inr (slot_ne (Or.inr (hw _ (List.mem_of_getElem? (i := 157) rfl))) (Or.inr (hw _ (List.mem_of_getElem? (i := 137) rfl))) (by decide) (t := (.array .long)) (t' := (.array (.array .int))) (by decide) (by decide)))).ext E9).other W10 (Or.inr (slot_ne (Or.inr (hw _ (List.mem_of_getElem? (i := 157) rfl))) (Or.inr (hw _ (List.mem_of_getElem? (i := 139) rfl))) (by decide) (t := (.array .long)) (t' := (.array .int)) (by decide) (by decide)))).ext E11).other W12 (Or.inr (slot_ne (Or.inr (hw _ (List.mem_of_getElem? (i := 157) rfl))) (Or.inr (hw _ (List.mem_of_getElem? (i := 141) rfl))) (by decide) (t := (.array .long)) (t' := (.array .int)) (by decide) (by decide))))).ext E15).other W16 (Or.inr (slot_ne (Or.inr (hw _ (List.mem_of_getElem? (i := 157) rfl))) (Or.inr (hw _ (List.mem_of_getElem? (i := 146) rfl))) (by decide) (t := (.array .long)) (t' := (.array .double)) (by decide) (by decide)))).ext E17).other W18 (Or.inr (slot_ne (Or.inr (hw _ (List.mem_of_getElem? (i := 157) rfl))) (Or.inr (hw _ (List.mem_of_getElem? (i := 149) rfl))) (by decide) (t := (.array .long)) (t' := (.array .long)) (by decide) (by decide)))).other W19 (Or.inr (slot_ne (Or.inr (hw _ (List.mem_of_getElem? (i := 157) rfl))) (Or.inr (hw _ (List.mem_of_getElem? (i := 151) rfl))) (by decide) (t := (.array .long)) (t' := (.array .double)) (by decide) (by decide)))).ext E20).other W21 (Or.inr (slot_ne (Or.inr (hw _ (List.mem_of_getElem? (i := 157) rfl))) (Or.inr (hw _ (List.mem_of_getElem? (i := 153) rfl))) (by decide) (t := (.array .long)) (t' := (.array .long)) (by decide) (by decide)))).ext E22).other W23 (Or.inr (slot_ne (Or.inr (hw _ (List.mem_of_getElem? (i := 157) rfl))) (Or.inr (hw _ (List.mem_of_getElem? (i := 155) rfl))) (by decide) (t := (.array .long)) (t' := (.array .double)) (by decide) (by decide)))).ext E24) ((((((((((((((((((((E_a1.wr W4).ext E5).wr W6).ext E7).wr W8).ext E9).wr W10).ext E11).wr W12)).ext E15).wr W16).ext E17).wr W18).wr W19).ext E20).wr W21).ext E22).wr W23).ext E24) (Or.inr ⟨(hw _ (List.mem_of_getElem? (i := 157) rfl)), rfl, hnm⟩) (hw _ (List.mem_of_getElem? (i := 120) rfl)) (ty := (.array .long)) (by decide) rfl rfl (g := (mkF m 87 #[.val (.ref a1), .val (.ref a2), .val (.int (0 : Int32))] [(.ref b24), (.ref a1)])) rfl rfl (hb hby d16_87)
  have Fw25 := ((((((((((((((((((((F_pathSlope_a1.other W4 (Or.inr (slot_ne (Or.inr (hw _ (List.mem_of_getElem? (i := 157) rfl))) (Or.inr (hw _ (List.mem_of_getElem? (i := 131) rfl))) (by decide) (t := (.array .long)) (t' := .int) (by decide) (by decide)))).ext E5).other W6 (Or.inr (slot_ne (Or.inr (hw _ (List.mem_of_getElem? (i := 157) rfl))) (Or.inr (hw _ (List.mem_of_getElem? (i := 134) rfl))) (by decide) (t := (.array .long)) (t' := (.array (.array .double))) (by decide) (by decide)))).ext E7).other W8 (Or.inr (slot_ne (Or.inr (hw _ (List.mem_of_getElem? (i := 157) rfl))) (Or.inr (hw _ (List.mem_of_getElem? (i := 137) rfl))) (by decide) (t := (.array .long)) (t' := (.array (.array .int))) (by decide) (by decide)))).ext E9).other W10 (Or.inr (slot_ne (Or.inr (hw _ (List.mem_of_getElem? (i := 157) rfl))) (Or.inr (hw _ (List.mem_of_getElem? (i := 139) rfl))) (by decide) (t := (.array .long)) (t' := (.array .int)) (by decide) (by decide)))).ext E11).other W12 (Or.inr (slot_ne (Or.inr (hw _ (List.mem_of_getElem? (i := 157) rfl))) (Or.inr (hw _ (List.mem_of_getElem? (i := 141) rfl))) (by decide) (t := (.array .long)) (t' := (.array .int)) (by decide) (by decide))))).ext E15).other W16 (Or.inr (slot_ne (Or.inr (hw _ (List.mem_of_getElem? (i := 157) rfl))) (Or.inr (hw _ (List.mem_of_getElem? (i := 146) rfl))) (by decide) (t := (.array .long)) (t' := (.array .double)) (by decide) (by decide)))).ext E17).other W18 (Or.inr (slot_ne (Or.inr (hw _ (List.mem_of_getElem? (i := 157) rfl))) (Or.inr (hw _ (List.mem_of_getElem? (i := 149) rfl))) (by decide) (t := (.array .long)) (t' := (.array .long)) (by decide) (by decide)))).other W19 (Or.inr (slot_ne (Or.inr (hw _ (List.mem_of_getElem? (i := 157) rfl))) (Or.inr (hw _ (List.mem_of_getElem? (i := 151) rfl))) (by decide) (t := (.array .long)) (t' := (.array .double)) (by decide) (by decide)))).ext E20).other W21 (Or.inr (slot_ne (Or.inr (hw _ (List.mem_of_getElem? (i := 157) rfl))) (Or.inr (hw _ (List.mem_of_getElem? (i := 153) rfl))) (by decide) (t := (.array .long)) (t' := (.array .long)) (by decide) (by decide)))).ext E22).other W23 (Or.inr (slot_ne (Or.inr (hw _ (List.mem_of_getElem? (i := 157) rfl))) (Or.inr (hw _ (List.mem_of_getElem? (i := 155) rfl))) (by decide) (t := (.array .long)) (t' := (.array .double)) (by decide) (by decide)))).ext E24).same W25      -- the field now holds (.ref b24)
  have K25 : Keep h0 h25 [a1] := K24.wr W25 (Or.inl (List.mem_of_getElem? (i := 0) rfl))
  have N25 := Fr.snoc X25 N23 g_a1
  obtain ⟨T26, h26, k26, X26, e26, E26, A26, st26⟩ := newP X25 hx hZ (hw _ (List.mem_of_getElem? (i := 0) rfl)) e25 (g := (mkF m 92 #[.val (.ref a1), .val (.ref a2), .val (.int (0 : Int32))] [(.int (0 : Int32)), (.ref a1)])) rfl (hb hby d16_92) rfl (by decide) (cap := 0) (by decide) (by decide) (by decide) (by decide)
  obtain ⟨b26, g26⟩ : ∃ z, z = h25.size := ⟨_, rfl⟩      -- the fresh array's address
  rw [← g26] at A26 st26
  have V_b26 := Arv.new A26 (by decide)      -- Arv Z h26 b26 k26 .int (0 : Int32) [] (its first value); a place must be in the list before it's written: Arv.pad with pad_rep
  have g_b26 : n0 ≤ b26 := Nat.le_trans (Nat.le_trans (Nat.le_trans (Nat.le_trans (Nat.le_trans (Nat.le_trans (Nat.le_trans (Nat.le_trans (Nat.le_trans (Nat.le_trans (Nat.le_trans (Nat.le_trans (Nat.le_trans (Nat.le_trans (Nat.le_trans (Nat.le_trans (Nat.le_trans (Nat.le_trans (Nat.le_trans (Nat.le_trans (Nat.le_trans (Nat.le_trans Z0 (Keep.of_wr W4).1) E5.1) (Keep.of_wr W6).1) E7.1) (Keep.of_wr W8).1) E9.1) (Keep.of_wr W10).1) E11.1) (Keep.of_wr W12).1) (Nat.le_refl _)) E15.1) (Keep.of_wr W16).1) E17.1) (Keep.of_wr W18).1) (Keep.of_wr W19).1) E20.1) (Keep.of_wr W21).1) E22.1) (Keep.of_wr W23).1) E24.1) (Keep.of_wr W25).1) (Nat.le_of_eq g26.symm)
  have sz_b26 : h0.size ≤ b26 := (Nat.le_trans K25.1 (Nat.le_of_eq g26.symm))
  have K26 : Keep h0 h26 [a1] := K25.ext E26
  obtain ⟨T27, h27, X27, e27, W27, st27⟩ := putF X26 hx hZ hown (host := "") (Or.inl (hw _ (List.mem_of_getElem? (i := 158) rfl))) Via.refl e26 ((((((((((((((((((((((F_via_a1.other W4 (Or.inr (slot_ne (Or.inr (hw _ (List.mem_of_getElem? (i := 159) rfl))) (Or.inr (hw _ (List.mem_of_getElem? (i := 131) rfl))) (by decide) (t := (.array .int)) (t' := .int) (by decide) (by decide)))).ext E5).other W6 (Or.inr (slot_ne (Or.inr (hw _ (List.mem_of_getElem? (i := 159) rfl))) (Or.inr (hw _ (List.mem_of_getElem? (i := 134) rfl))) (by decide) (t := (.array .int)) (t' := (.array (.array .double))) (by decide) (by decide)))).ext E7).other W8 (Or.inr (slot_ne (Or.inr (hw _ (List.mem_of_getElem? (i := 159) rfl))) (Or.inr (hw _ (List.mem_of_getElem? (i := 137) rfl))) (by decide) (t := (.array .int)) (t' := (.array (.array .int))) (by decide) (by decide)))).ext E9).other W10 (Or.inr (slot_ne (Or.inr (hw _ (List.mem_of_getElem? (i := 159) rfl))) (Or.inr (hw _ (List.mem_of_getElem? (i := 139) rfl))) (by decide) (t := (.array .int)) (t' := (.array .int)) (by decide) (by decide)))).ext E11).other W12 (Or.inr (slot_ne (Or.inr (hw _ (List.mem_of_getElem? (i := 159) rfl))) (Or.inr (hw _ (List.mem_of_getElem? (i := 141) rfl))) (by decide) (t := (.array .int)) (t' := (.array .int)) (by decide) (by decide))))).ext E15).other W16 (Or.inr (slot_ne (Or.inr (hw _ (List.mem_of_getElem? (i := 159) rfl))) (Or.inr (hw _ (List.mem_of_getElem? (i := 146) rfl))) (by decide) (t := (.array .int)) (t' := (.array .double)) (by decide) (by decide)))).ext E17).other W18 (Or.inr (slot_ne (Or.inr (hw _ (List.mem_of_getElem? (i := 159) rfl))) (Or.inr (hw _ (List.mem_of_getElem? (i := 149) rfl))) (by decide) (t := (.array .int)) (t' := (.array .long)) (by decide) (by decide)))).other W19 (Or.inr (slot_ne (Or.inr (hw _ (List.mem_of_getElem? (i := 159) rfl))) (Or.inr (hw _ (List.mem_of_getElem? (i := 151) rfl))) (by decide) (t := (.array .int)) (t' := (.array .double)) (by decide) (by decide)))).ext E20).other W21 (Or.inr (slot_ne (Or.inr (hw _ (List.mem_of_getElem? (i := 159) rfl))) (Or.inr (hw _ (List.mem_of_getElem? (i := 153) rfl))) (by decide) (t := (.array .int)) (t' := (.array .long)) (by decide) (by decide)))).ext E22).other W23 (Or.inr (slot_ne (Or.inr (hw _ (List.mem_of_getElem? (i := 159) rfl))) (Or.inr (hw _ (List.mem_of_getElem? (i := 155) rfl))) (by decide) (t := (.array .int)) (t' := (.array .double)) (by decide) (by decide)))).ext E24).other W25 (Or.inr (slot_ne (Or.inr (hw _ (List.mem_of_getElem? (i := 159) rfl))) (Or.inr (hw _ (List.mem_of_getElem? (i := 157) rfl))) (by decide) (t := (.array .int)) (t' := (.array .long)) (by decide) (by decide)))).ext E26) ((((((((((((((((((((((E_a1.wr W4).ext E5).wr W6).ext E7).wr W8).ext E9).wr W10).ext E11).wr W12)).ext E15).wr W16).ext E17).wr W18).wr W19).ext E20).wr W21).ext E22).wr W23).ext E24).wr W25).ext E26) (Or.inr ⟨(hw _ (List.mem_of_getElem? (i := 159) rfl)), rfl, hnm⟩) (hw _ (List.mem_of_getElem? (i := 120) rfl)) (ty := (.array .int)) (by decide) rfl rfl (g := (mkF m 94 #[.val (.ref a1), .val (.ref a2), .val (.int (0 : Int32))] [(.ref b26), (.ref a1)])) rfl rfl (hb hby d16_94)
  have Fw27 := ((((((((((((((((((((((F_via_a1.other W4 (Or.inr (slot_ne (Or.inr (hw _ (List.mem_of_getElem? (i := 159) rfl))) (Or.inr (hw _ (List.mem_of_getElem? (i := 131) rfl))) (by decide) (t := (.array .int)) (t' := .int) (by decide) (by decide)))).ext E5).other W6 (Or.inr (slot_ne (Or.inr (hw _ (List.mem_of_getElem? (i := 159) rfl))) (Or.inr (hw _ (List.mem_of_getElem? (i := 134) rfl))) (by decide) (t := (.array .int)) (t' := (.array (.array .double))) (by decide) (by decide)))).ext E7).other W8 (Or.inr (slot_ne (Or.inr (hw _ (List.mem_of_getElem? (i := 159) rfl))) (Or.inr (hw _ (List.mem_of_getElem? (i := 137) rfl))) (by decide) (t := (.array .int)) (t' := (.array (.array .int))) (by decide) (by decide)))).ext E9).other W10 (Or.inr (slot_ne (Or.inr (hw _ (List.mem_of_getElem? (i := 159) rfl))) (Or.inr (hw _ (List.mem_of_getElem? (i := 139) rfl))) (by decide) (t := (.array .int)) (t' := (.array .int)) (by decide) (by decide)))).ext E11).other W12 (Or.inr (slot_ne (Or.inr (hw _ (List.mem_of_getElem? (i := 159) rfl))) (Or.inr (hw _ (List.mem_of_getElem? (i := 141) rfl))) (by decide) (t := (.array .int)) (t' := (.array .int)) (by decide) (by decide))))).ext E15).other W16 (Or.inr (slot_ne (Or.inr (hw _ (List.mem_of_getElem? (i := 159) rfl))) (Or.inr (hw _ (List.mem_of_getElem? (i := 146) rfl))) (by decide) (t := (.array .int)) (t' := (.array .double)) (by decide) (by decide)))).ext E17).other W18 (Or.inr (slot_ne (Or.inr (hw _ (List.mem_of_getElem? (i := 159) rfl))) (Or.inr (hw _ (List.mem_of_getElem? (i := 149) rfl))) (by decide) (t := (.array .int)) (t' := (.array .long)) (by decide) (by decide)))).other W19 (Or.inr (slot_ne (Or.inr (hw _ (List.mem_of_getElem? (i := 159) rfl))) (Or.inr (hw _ (List.mem_of_getElem? (i := 151) rfl))) (by decide) (t := (.array .int)) (t' := (.array .double)) (by decide) (by decide)))).ext E20).other W21 (Or.inr (slot_ne (Or.inr (hw _ (List.mem_of_getElem? (i := 159) rfl))) (Or.inr (hw _ (List.mem_of_getElem? (i := 153) rfl))) (by decide) (t := (.array .int)) (t' := (.array .long)) (by decide) (by decide)))).ext E22).other W23 (Or.inr (slot_ne (Or.inr (hw _ (List.mem_of_getElem? (i := 159) rfl))) (Or.inr (hw _ (List.mem_of_getElem? (i := 155) rfl))) (by decide) (t := (.array .int)) (t' := (.array .double)) (by decide) (by decide)))).ext E24).other W25 (Or.inr (slot_ne (Or.inr (hw _ (List.mem_of_getElem? (i := 159) rfl))) (Or.inr (hw _ (List.mem_of_getElem? (i := 157) rfl))) (by decide) (t := (.array .int)) (t' := (.array .long)) (by decide) (by decide)))).ext E26).same W27      -- the field now holds (.ref b26)
  have K27 : Keep h0 h27 [a1] := K26.wr W27 (Or.inl (List.mem_of_getElem? (i := 0) rfl))
  have N27 := Fr.snoc X27 N25 g_a1
  obtain ⟨T28, h28, k28, X28, e28, E28, A28, st28⟩ := newP X27 hx hZ (hw _ (List.mem_of_getElem? (i := 160) rfl)) e27 (g := (mkF m 99 #[.val (.ref a1), .val (.ref a2), .val (.int (0 : Int32))] [(.int (0 : Int32)), (.ref a1)])) rfl (hb hby d16_99) rfl (by decide) (cap := 0) (by decide) (by decide) (by decide) (by decide)
  obtain ⟨b28, g28⟩ : ∃ z, z = h27.size := ⟨_, rfl⟩      -- the fresh array's address
  rw [← g28] at A28 st28
  have V_b28 := Arv.new A28 (by decide)      -- Arv Z h28 b28 k28 .boolean (0 : Int32) [] (its first value); a place must be in the list before it's written: Arv.pad with pad_rep
  have g_b28 : n0 ≤ b28 := Nat.le_trans (Nat.le_trans (Nat.le_trans (Nat.le_trans (Nat.le_trans (Nat.le_trans (Nat.le_trans (Nat.le_trans (Nat.le_trans (Nat.le_trans (Nat.le_trans (Nat.le_trans (Nat.le_trans (Nat.le_trans (Nat.le_trans (Nat.le_trans (Nat.le_trans (Nat.le_trans (Nat.le_trans (Nat.le_trans (Nat.le_trans (Nat.le_trans (Nat.le_trans (Nat.le_trans Z0 (Keep.of_wr W4).1) E5.1) (Keep.of_wr W6).1) E7.1) (Keep.of_wr W8).1) E9.1) (Keep.of_wr W10).1) E11.1) (Keep.of_wr W12).1) (Nat.le_refl _)) E15.1) (Keep.of_wr W16).1) E17.1) (Keep.of_wr W18).1) (Keep.of_wr W19).1) E20.1) (Keep.of_wr W21).1) E22.1) (Keep.of_wr W23).1) E24.1) (Keep.of_wr W25).1) E26.1) (Keep.of_wr W27).1) (Nat.le_of_eq g28.symm)
  have sz_b28 : h0.size ≤ b28 := (Nat.le_trans K27.1 (Nat.le_of_eq g28.symm))
  have K28 : Keep h0 h28 [a1] := K27.ext E28
  obtain ⟨T29, h29, X29, e29, W29, st29⟩ := putF X28 hx hZ hown (host := "") (Or.inl (hw _ (List.mem_of_getElem? (i := 161) rfl))) Via.refl e28 ((((((((((((((((((((((((F_settled_a1.other W4 (Or.inr (slot_ne (Or.inr (hw _ (List.mem_of_getElem? (i := 162) rfl))) (Or.inr (hw _ (List.mem_of_getElem? (i := 131) rfl))) (by decide) (t := (.array .boolean)) (t' := .int) (by decide) (by decide)))).ext E5).other W6 (Or.inr (slot_ne (Or.inr (hw _ (List.mem_of_getElem? (i := 162) rfl))) (Or.inr (hw _ (List.mem_of_getElem? (i := 134) rfl))) (by decide) (t := (.array .boolean)) (t' := (.array (.array .double))) (by decide) (by decide)))).ext E7).other W8 (Or.inr (slot_ne (Or.inr (hw _ (List.mem_of_getElem? (i := 162) rfl))) (Or.inr (hw _ (List.mem_of_getElem? (i := 137) rfl))) (by decide) (t := (.array .boolean)) (t' := (.array (.array .int))) (by decide) (by decide)))).ext E9).other W10 (Or.inr (slot_ne (Or.inr (hw _ (List.mem_of_getElem? (i := 162) rfl))) (Or.inr (hw _ (List.mem_of_getElem? (i := 139) rfl))) (by decide) (t := (.array .boolean)) (t' := (.array .int)) (by decide) (by decide)))).ext E11).other W12 (Or.inr (slot_ne (Or.inr (hw _ (List.mem_of_getElem? (i := 162) rfl))) (Or.inr (hw _ (List.mem_of_getElem? (i := 141) rfl))) (by decide) (t := (.array .boolean)) (t' := (.array .int)) (by decide) (by decide))))).ext E15).other W16 (Or.inr (slot_ne (Or.inr (hw _ (List.mem_of_getElem? (i := 162) rfl))) (Or.inr (hw _ (List.mem_of_getElem? (i := 146) rfl))) (by decide) (t := (.array .boolean)) (t' := (.array .double)) (by decide) (by decide)))).ext E17).other W18 (Or.inr (slot_ne (Or.inr (hw _ (List.mem_of_getElem? (i := 162) rfl))) (Or.inr (hw _ (List.mem_of_getElem? (i := 149) rfl))) (by decide) (t := (.array .boolean)) (t' := (.array .long)) (by decide) (by decide)))).other W19 (Or.inr (slot_ne (Or.inr (hw _ (List.mem_of_getElem? (i := 162) rfl))) (Or.inr (hw _ (List.mem_of_getElem? (i := 151) rfl))) (by decide) (t := (.array .boolean)) (t' := (.array .double)) (by decide) (by decide)))).ext E20).other W21 (Or.inr (slot_ne (Or.inr (hw _ (List.mem_of_getElem? (i := 162) rfl))) (Or.inr (hw _ (List.mem_of_getElem? (i := 153) rfl))) (by decide) (t := (.array .boolean)) (t' := (.array .long)) (by decide) (by decide)))).ext E22).other W23 (Or.inr (slot_ne (Or.inr (hw _ (List.mem_of_getElem? (i := 162) rfl))) (Or.inr (hw _ (List.mem_of_getElem? (i := 155) rfl))) (by decide) (t := (.array .boolean)) (t' := (.array .double)) (by decide) (by decide)))).ext E24).other W25 (Or.inr (slot_ne (Or.inr (hw _ (List.mem_of_getElem? (i := 162) rfl))) (Or.inr (hw _ (List.mem_of_getElem? (i := 157) rfl))) (by decide) (t := (.array .boolean)) (t' := (.array .long)) (by decide) (by decide)))).ext E26).other W27 (Or.inr (slot_ne (Or.inr (hw _ (List.mem_of_getElem? (i := 162) rfl))) (Or.inr (hw _ (List.mem_of_getElem? (i := 159) rfl))) (by decide) (t := (.array .boolean)) (t' := (.array .int)) (by decide) (by decide)))).ext E28) ((((((((((((((((((((((((E_a1.wr W4).ext E5).wr W6).ext E7).wr W8).ext E9).wr W10).ext E11).wr W12)).ext E15).wr W16).ext E17).wr W18).wr W19).ext E20).wr W21).ext E22).wr W23).ext E24).wr W25).ext E26).wr W27).ext E28) (Or.inr ⟨(hw _ (List.mem_of_getElem? (i := 162) rfl)), rfl, hnm⟩) (hw _ (List.mem_of_getElem? (i := 120) rfl)) (ty := (.array .boolean)) (by decide) rfl rfl (g := (mkF m 101 #[.val (.ref a1), .val (.ref a2), .val (.int (0 : Int32))] [(.ref b28), (.ref a1)])) rfl rfl (hb hby d16_101)
  have Fw29 := ((((((((((((((((((((((((F_settled_a1.other W4 (Or.inr (slot_ne (Or.inr (hw _ (List.mem_of_getElem? (i := 162) rfl))) (Or.inr (hw _ (List.mem_of_getElem? (i := 131) rfl))) (by decide) (t := (.array .boolean)) (t' := .int) (by decide) (by decide)))).ext E5).other W6 (Or.inr (slot_ne (Or.inr (hw _ (List.mem_of_getElem? (i := 162) rfl))) (Or.inr (hw _ (List.mem_of_getElem? (i := 134) rfl))) (by decide) (t := (.array .boolean)) (t' := (.array (.array .double))) (by decide) (by decide)))).ext E7).other W8 (Or.inr (slot_ne (Or.inr (hw _ (List.mem_of_getElem? (i := 162) rfl))) (Or.inr (hw _ (List.mem_of_getElem? (i := 137) rfl))) (by decide) (t := (.array .boolean)) (t' := (.array (.array .int))) (by decide) (by decide)))).ext E9).other W10 (Or.inr (slot_ne (Or.inr (hw _ (List.mem_of_getElem? (i := 162) rfl))) (Or.inr (hw _ (List.mem_of_getElem? (i := 139) rfl))) (by decide) (t := (.array .boolean)) (t' := (.array .int)) (by decide) (by decide)))).ext E11).other W12 (Or.inr (slot_ne (Or.inr (hw _ (List.mem_of_getElem? (i := 162) rfl))) (Or.inr (hw _ (List.mem_of_getElem? (i := 141) rfl))) (by decide) (t := (.array .boolean)) (t' := (.array .int)) (by decide) (by decide))))).ext E15).other W16 (Or.inr (slot_ne (Or.inr (hw _ (List.mem_of_getElem? (i := 162) rfl))) (Or.inr (hw _ (List.mem_of_getElem? (i := 146) rfl))) (by decide) (t := (.array .boolean)) (t' := (.array .double)) (by decide) (by decide)))).ext E17).other W18 (Or.inr (slot_ne (Or.inr (hw _ (List.mem_of_getElem? (i := 162) rfl))) (Or.inr (hw _ (List.mem_of_getElem? (i := 149) rfl))) (by decide) (t := (.array .boolean)) (t' := (.array .long)) (by decide) (by decide)))).other W19 (Or.inr (slot_ne (Or.inr (hw _ (List.mem_of_getElem? (i := 162) rfl))) (Or.inr (hw _ (List.mem_of_getElem? (i := 151) rfl))) (by decide) (t := (.array .boolean)) (t' := (.array .double)) (by decide) (by decide)))).ext E20).other W21 (Or.inr (slot_ne (Or.inr (hw _ (List.mem_of_getElem? (i := 162) rfl))) (Or.inr (hw _ (List.mem_of_getElem? (i := 153) rfl))) (by decide) (t := (.array .boolean)) (t' := (.array .long)) (by decide) (by decide)))).ext E22).other W23 (Or.inr (slot_ne (Or.inr (hw _ (List.mem_of_getElem? (i := 162) rfl))) (Or.inr (hw _ (List.mem_of_getElem? (i := 155) rfl))) (by decide) (t := (.array .boolean)) (t' := (.array .double)) (by decide) (by decide)))).ext E24).other W25 (Or.inr (slot_ne (Or.inr (hw _ (List.mem_of_getElem? (i := 162) rfl))) (Or.inr (hw _ (List.mem_of_getElem? (i := 157) rfl))) (by decide) (t := (.array .boolean)) (t' := (.array .long)) (by decide) (by decide)))).ext E26).other W27 (Or.inr (slot_ne (Or.inr (hw _ (List.mem_of_getElem? (i := 162) rfl))) (Or.inr (hw _ (List.mem_of_getElem? (i := 159) rfl))) (by decide) (t := (.array .boolean)) (t' := (.array .int)) (by decide) (by decide)))).ext E28).same W29      -- the field now holds (.ref b28)
  have K29 : Keep h0 h29 [a1] := K28.wr W29 (Or.inl (List.mem_of_getElem? (i := 0) rfl))
  have N29 := Fr.snoc X29 N27 g_a1
  obtain ⟨fs, hr, hrun, hended, hW, hsame⟩ := X29.leave (v := none) (fun _ => rfl)
  refine ⟨_, _, pre0 _ ?_, hrun, hended, _, _, rfl, ?_, ⟨_, rfl⟩, hW, hsame.mono (by decide) (by decide)⟩
  · show Steps p.tables e below (s₁.setTop (mkF m 0 #[.val (.ref a1), .val (.ref a2), .unset] [])) _
    refine XS.aloadN X0.here hx rfl (hb hby d16_0) rfl rfl ?_
    show Steps p.tables e below (s₁.setTop (mkF m 1 #[.val (.ref a1), .val (.ref a2), .unset] [(.ref a1)])) _
    refine st3 _ ?_
    show Steps p.tables e below (T3.setTop (mkF m 4 #[.val (.ref a1), .val (.ref a2), .unset] [])) _
    refine XS.aloadN X3.here hx rfl (hb hby d16_4) rfl rfl ?_
    show Steps p.tables e below (T3.setTop (mkF m 5 #[.val (.ref a1), .val (.ref a2), .unset] [(.ref a2)])) _
    refine X3.arraylength hx (by rw [e3]; exact Ar_a2.1) (State.isArrayOf_alike hZ.alike Ar_a2.2.1) (g := (mkF m 5 #[.val (.ref a1), .val (.ref a2), .unset] [(.ref a2)])) rfl rfl (hb hby d16_5) _ ?_
    rw [len_of S_a2 N_a2]
    show Steps p.tables e below (T3.setTop (mkF m 6 #[.val (.ref a1), .val (.ref a2), .unset] [(.int (0 : Int32))])) _
    refine XS.istoreN X3.here hx rfl (hb hby d16_6) rfl (l' := #[.val (.ref a1), .val (.ref a2), .val (.int (0 : Int32))]) rfl ?_
    show Steps p.tables e below (T3.setTop (mkF m 7 #[.val (.ref a1), .val (.ref a2), .val (.int (0 : Int32))] [])) _
    refine XS.aloadN X3.here hx rfl (hb hby d16_7) rfl rfl ?_
    show Steps p.tables e below (T3.setTop (mkF m 8 #[.val (.ref a1), .val (.ref a2), .val (.int (0 : Int32))] [(.ref a1)])) _
    refine XS.iloadN X3.here hx rfl (hb hby d16_8) rfl ?_
    show Steps p.tables e below (T3.setTop (mkF m 9 #[.val (.ref a1), .val (.ref a2), .val (.int (0 : Int32))] [(.int (0 : Int32)), (.ref a1)])) _
    refine st4 _ ?_
    show Steps p.tables e below (T4.setTop (mkF m 12 #[.val (.ref a1), .val (.ref a2), .val (.int (0 : Int32))] [])) _
    refine XS.aloadN X4.here hx rfl (hb hby d16_12) rfl rfl ?_
    show Steps p.tables e below (T4.setTop (mkF m 13 #[.val (.ref a1), .val (.ref a2), .val (.int (0 : Int32))] [(.ref a1)])) _
    refine XS.iloadN X4.here hx rfl (hb hby d16_13) rfl ?_
    show Steps p.tables e below (T4.setTop (mkF m 14 #[.val (.ref a1), .val (.ref a2), .val (.int (0 : Int32))] [(.int (0 : Int32)), (.ref a1)])) _
    refine st5 _ ?_
    show Steps p.tables e below (T5.setTop (mkF m 17 #[.val (.ref a1), .val (.ref a2), .val (.int (0 : Int32))] [(.ref b5), (.ref a1)])) _
    refine st6 _ ?_
    show Steps p.tables e below (T6.setTop (mkF m 20 #[.val (.ref a1), .val (.ref a2), .val (.int (0 : Int32))] [])) _
    refine XS.aloadN X6.here hx rfl (hb hby d16_20) rfl rfl ?_
    show Steps p.tables e below (T6.setTop (mkF m 21 #[.val (.ref a1), .val (.ref a2), .val (.int (0 : Int32))] [(.ref a1)])) _
    refine XS.iloadN X6.here hx rfl (hb hby d16_21) rfl ?_
    show Steps p.tables e below (T6.setTop (mkF m 22 #[.val (.ref a1), .val (.ref a2), .val (.int (0 : Int32))] [(.int (0 : Int32)), (.ref a1)])) _
    refine st7 _ ?_
    show Steps p.tables e below (T7.setTop (mkF m 25 #[.val (.ref a1), .val (.ref a2), .val (.int (0 : Int32))] [(.ref b7), (.ref a1)])) _
    refine st8 _ ?_
    show Steps p.tables e below (T8.setTop (mkF m 28 #[.val (.ref a1), .val (.ref a2), .val (.int (0 : Int32))] [])) _
    refine XS.aloadN X8.here hx rfl (hb hby d16_28) rfl rfl ?_
    show Steps p.tables e below (T8.setTop (mkF m 29 #[.val (.ref a1), .val (.ref a2), .val (.int (0 : Int32))] [(.ref a1)])) _
    refine XS.iloadN X8.here hx rfl (hb hby d16_29) rfl ?_
    show Steps p.tables e below (T8.setTop (mkF m 30 #[.val (.ref a1), .val (.ref a2), .val (.int (0 : Int32))] [(.int (0 : Int32)), (.ref a1)])) _
    refine st9 _ ?_
    show Steps p.tables e below (T9.setTop (mkF m 32 #[.val (.ref a1), .val (.ref a2), .val (.int (0 : Int32))] [(.ref b9), (.ref a1)])) _
    refine st10 _ ?_
    show Steps p.tables e below (T10.setTop (mkF m 35 #[.val (.ref a1), .val (.ref a2), .val (.int (0 : Int32))] [])) _
    refine XS.aloadN X10.here hx rfl (hb hby d16_35) rfl rfl ?_
    show Steps p.tables e below (T10.setTop (mkF m 36 #[.val (.ref a1), .val (.ref a2), .val (.int (0 : Int32))] [(.ref a1)])) _
    refine XS.iloadN X10.here hx rfl (hb hby d16_36) rfl ?_
    show Steps p.tables e below (T10.setTop (mkF m 37 #[.val (.ref a1), .val (.ref a2), .val (.int (0 : Int32))] [(.int (0 : Int32)), (.ref a1)])) _
    refine st11 _ ?_
    show Steps p.tables e below (T11.setTop (mkF m 39 #[.val (.ref a1), .val (.ref a2), .val (.int (0 : Int32))] [(.ref b11), (.ref a1)])) _
    refine st12 _ ?_
    show Steps p.tables e below (T12.setTop (mkF m 42 #[.val (.ref a1), .val (.ref a2), .val (.int (0 : Int32))] [])) _
    refine XS.aloadN X12.here hx rfl (hb hby d16_42) rfl rfl ?_
    show Steps p.tables e below (T12.setTop (mkF m 43 #[.val (.ref a1), .val (.ref a2), .val (.int (0 : Int32))] [(.ref a1)])) _
    refine st13 _ ?_
    show Steps p.tables e below (T13.setTop (mkF m 46 #[.val (.ref a1), .val (.ref a2), .val (.int (0 : Int32))] [(.ref b11)])) _
    refine XS.iconst X13.here hx rfl (hb hby d16_46) ?_
    show Steps p.tables e below (T13.setTop (mkF m 47 #[.val (.ref a1), .val (.ref a2), .val (.int (0 : Int32))] [(.int (-1 : Int32)), (.ref b11)])) _
    refine st14 _ ?_
    show Steps p.tables e below (T14.setTop (mkF m 50 #[.val (.ref a1), .val (.ref a2), .val (.int (0 : Int32))] [])) _
    refine XS.aloadN X14.here hx rfl (hb hby d16_50) rfl rfl ?_
    show Steps p.tables e below (T14.setTop (mkF m 51 #[.val (.ref a1), .val (.ref a2), .val (.int (0 : Int32))] [(.ref a1)])) _
    refine XS.iloadN X14.here hx rfl (hb hby d16_51) rfl ?_
    show Steps p.tables e below (T14.setTop (mkF m 52 #[.val (.ref a1), .val (.ref a2), .val (.int (0 : Int32))] [(.int (0 : Int32)), (.ref a1)])) _
    refine st15 _ ?_
    show Steps p.tables e below (T15.setTop (mkF m 54 #[.val (.ref a1), .val (.ref a2), .val (.int (0 : Int32))] [(.ref b15), (.ref a1)])) _
    refine st16 _ ?_
    show Steps p.tables e below (T16.setTop (mkF m 57 #[.val (.ref a1), .val (.ref a2), .val (.int (0 : Int32))] [])) _
    refine XS.aloadN X16.here hx rfl (hb hby d16_57) rfl rfl ?_
    show Steps p.tables e below (T16.setTop (mkF m 58 #[.val (.ref a1), .val (.ref a2), .val (.int (0 : Int32))] [(.ref a1)])) _
    refine XS.iloadN X16.here hx rfl (hb hby d16_58) rfl ?_
    show Steps p.tables e below (T16.setTop (mkF m 59 #[.val (.ref a1), .val (.ref a2), .val (.int (0 : Int32))] [(.int (0 : Int32)), (.ref a1)])) _
    refine st17 _ ?_
    show Steps p.tables e below (T17.setTop (mkF m 61 #[.val (.ref a1), .val (.ref a2), .val (.int (0 : Int32))] [(.ref b17), (.ref a1)])) _
    refine st18 _ ?_
    show Steps p.tables e below (T18.setTop (mkF m 64 #[.val (.ref a1), .val (.ref a2), .val (.int (0 : Int32))] [])) _
    refine XS.aloadN X18.here hx rfl (hb hby d16_64) rfl rfl ?_
    show Steps p.tables e below (T18.setTop (mkF m 65 #[.val (.ref a1), .val (.ref a2), .val (.int (0 : Int32))] [(.ref a1)])) _
    refine XS.aloadN X18.here hx rfl (hb hby d16_65) rfl rfl ?_
    show Steps p.tables e below (T18.setTop (mkF m 66 #[.val (.ref a1), .val (.ref a2), .val (.int (0 : Int32))] [(.ref a2), (.ref a1)])) _
    refine st19 _ ?_
    show Steps p.tables e below (T19.setTop (mkF m 69 #[.val (.ref a1), .val (.ref a2), .val (.int (0 : Int32))] [])) _
    refine XS.aloadN X19.here hx rfl (hb hby d16_69) rfl rfl ?_
    show Steps p.tables e below (T19.setTop (mkF m 70 #[.val (.ref a1), .val (.ref a2), .val (.int (0 : Int32))] [(.ref a1)])) _
    refine XS.iloadN X19.here hx rfl (hb hby d16_70) rfl ?_
    show Steps p.tables e below (T19.setTop (mkF m 71 #[.val (.ref a1), .val (.ref a2), .val (.int (0 : Int32))] [(.int (0 : Int32)), (.ref a1)])) _
    refine st20 _ ?_
    show Steps p.tables e below (T20.setTop (mkF m 73 #[.val (.ref a1), .val (.ref a2), .val (.int (0 : Int32))] [(.ref b20), (.ref a1)])) _
    refine st21 _ ?_
    show Steps p.tables e below (T21.setTop (mkF m 76 #[.val (.ref a1), .val (.ref a2), .val (.int (0 : Int32))] [])) _
    refine XS.aloadN X21.here hx rfl (hb hby d16_76) rfl rfl ?_
    show Steps p.tables e below (T21.setTop (mkF m 77 #[.val (.ref a1), .val (.ref a2), .val (.int (0 : Int32))] [(.ref a1)])) _
    refine XS.iloadN X21.here hx rfl (hb hby d16_77) rfl ?_
    show Steps p.tables e below (T21.setTop (mkF m 78 #[.val (.ref a1), .val (.ref a2), .val (.int (0 : Int32))] [(.int (0 : Int32)), (.ref a1)])) _
    refine st22 _ ?_
    show Steps p.tables e below (T22.setTop (mkF m 80 #[.val (.ref a1), .val (.ref a2), .val (.int (0 : Int32))] [(.ref b22), (.ref a1)])) _
    refine st23 _ ?_
    show Steps p.tables e below (T23.setTop (mkF m 83 #[.val (.ref a1), .val (.ref a2), .val (.int (0 : Int32))] [])) _
    refine XS.aloadN X23.here hx rfl (hb hby d16_83) rfl rfl ?_
    show Steps p.tables e below (T23.setTop (mkF m 84 #[.val (.ref a1), .val (.ref a2), .val (.int (0 : Int32))] [(.ref a1)])) _
    refine XS.iloadN X23.here hx rfl (hb hby d16_84) rfl ?_
    show Steps p.tables e below (T23.setTop (mkF m 85 #[.val (.ref a1), .val (.ref a2), .val (.int (0 : Int32))] [(.int (0 : Int32)), (.ref a1)])) _
    refine st24 _ ?_
    show Steps p.tables e below (T24.setTop (mkF m 87 #[.val (.ref a1), .val (.ref a2), .val (.int (0 : Int32))] [(.ref b24), (.ref a1)])) _
    refine st25 _ ?_
    show Steps p.tables e below (T25.setTop (mkF m 90 #[.val (.ref a1), .val (.ref a2), .val (.int (0 : Int32))] [])) _
    refine XS.aloadN X25.here hx rfl (hb hby d16_90) rfl rfl ?_
    show Steps p.tables e below (T25.setTop (mkF m 91 #[.val (.ref a1), .val (.ref a2), .val (.int (0 : Int32))] [(.ref a1)])) _
    refine XS.iloadN X25.here hx rfl (hb hby d16_91) rfl ?_
    show Steps p.tables e below (T25.setTop (mkF m 92 #[.val (.ref a1), .val (.ref a2), .val (.int (0 : Int32))] [(.int (0 : Int32)), (.ref a1)])) _
    refine st26 _ ?_
    show Steps p.tables e below (T26.setTop (mkF m 94 #[.val (.ref a1), .val (.ref a2), .val (.int (0 : Int32))] [(.ref b26), (.ref a1)])) _
    refine st27 _ ?_
    show Steps p.tables e below (T27.setTop (mkF m 97 #[.val (.ref a1), .val (.ref a2), .val (.int (0 : Int32))] [])) _
    refine XS.aloadN X27.here hx rfl (hb hby d16_97) rfl rfl ?_
    show Steps p.tables e below (T27.setTop (mkF m 98 #[.val (.ref a1), .val (.ref a2), .val (.int (0 : Int32))] [(.ref a1)])) _
    refine XS.iloadN X27.here hx rfl (hb hby d16_98) rfl ?_
    show Steps p.tables e below (T27.setTop (mkF m 99 #[.val (.ref a1), .val (.ref a2), .val (.int (0 : Int32))] [(.int (0 : Int32)), (.ref a1)])) _
    refine st28 _ ?_
    show Steps p.tables e below (T28.setTop (mkF m 101 #[.val (.ref a1), .val (.ref a2), .val (.int (0 : Int32))] [(.ref b28), (.ref a1)])) _
    refine st29 _ ?_
    show Steps p.tables e below (T29.setTop (mkF m 104 #[.val (.ref a1), .val (.ref a2), .val (.int (0 : Int32))] [])) _
    exact X29.returnOut hx Bd.returns (hb hby d16_104) hr
  · show Qrm16 Z a1 a2 cl_a2 u_columnCount_a1 u_costsOfRow_a1 u_slopesOfRow_a1 u_columnOfRow_a1 u_rowOfColumn_a1 u_rowPotential_a1 u_rowSlope_a1 u_columnPotential_a1 u_columnSlope_a1 u_pathLength_a1 u_pathSlope_a1 u_via_a1 u_settled_a1 h0 n0 _ T29.heap _
    rw [e29]
    exact ⟨rfl, N29, K29⟩
theorem d15_0 : decode prog_20_method_1_code 0 = .ok (.aload_n 0, 1) := by decide +kernel
theorem d15_1 : decode prog_20_method_1_code 1 = .ok (.iload_n 1, 1) := by decide +kernel
theorem d15_2 : decode prog_20_method_1_code 2 = .ok (.newarray .double, 2) := by decide +kernel
theorem d15_4 : decode prog_20_method_1_code 4 = .ok (.invokespecial 1, 3) := by decide +kernel
theorem d15_7 : decode prog_20_method_1_code 7 = .ok (.return_, 1) := by decide +kernel
theorem pn_15 : plainName "com/example/rematch/rematch/OptimalAssignment" = true := by first | (simp [plainName, overriddenIn]; done) | decide +kernel
theorem pd_15_10 : parseMethodDescriptor "([D)V" = some ⟨[(.array .double)], none⟩ := by decide +kernel
theorem ef_15 (m : MethodId) (x0 : Addr) (x1 : Int32) : entryFrame m #[(.ref x0), (.int x1)] 2 = mkF m 0 #[.val (.ref x0), .val (.int x1)] [] := by first | (simp [entryFrame, mkF, argsToLocals, Value.category]; done) | rfl
def Qrm15 (Z : State) (a1 : Addr) (h0 : Heap) (n0 : Nat) (v : Option Value) (h : Heap) (L : List Loc) : Prop := v = none ∧ Fr n0 L ∧ Keep h0 h [a1]
set_option maxRecDepth 65536 in
set_option maxHeartbeats 40000000 in
theorem rm15 (l : Launch) (Z : State) (a0 : Array Value) (hw : ∀ d ∈ tables_1, d.before a0 Z = true) (ws : List Jvm.Cond) (a1 : Addr) (h0 : Heap) (n0 : Nat) (Z0 : n0 ≤ h0.size) (E_a1 : Exa Z h0 a1 "com/example/rematch/rematch/OptimalAssignment") (g_a1 : n0 ≤ a1) (F_columnCount : Fld Z h0 a1 "com/example/rematch/rematch/OptimalAssignment" "columnCount" "I" (.int (0 : Int32))) (F_costsOfRow : Fld Z h0 a1 "com/example/rematch/rematch/OptimalAssignment" "costsOfRow" "[[D" .null) (F_slopesOfRow : Fld Z h0 a1 "com/example/rematch/rematch/OptimalAssignment" "slopesOfRow" "[[I" .null) (F_columnOfRow : Fld Z h0 a1 "com/example/rematch/rematch/OptimalAssignment" "columnOfRow" "[I" .null) (F_rowOfColumn : Fld Z h0 a1 "com/example/rematch/rematch/OptimalAssignment" "rowOfColumn" "[I" .null) (F_rowPotential : Fld Z h0 a1 "com/example/rematch/rematch/OptimalAssignment" "rowPotential" "[D" .null) (F_rowSlope : Fld Z h0 a1 "com/example/rematch/rematch/OptimalAssignment" "rowSlope" "[J" .null) (F_columnPotential : Fld Z h0 a1 "com/example/rematch/rematch/OptimalAssignment" "columnPotential" "[D" .null) (F_columnSlope : Fld Z h0 a1 "com/example/rematch/rematch/OptimalAssignment" "columnSlope" "[J" .null) (F_pathLength : Fld Z h0 a1 "com/example/rematch/rematch/OptimalAssignment" "pathLength" "[D" .null) (F_pathSlope : Fld Z h0 a1 "com/example/rematch/rematch/OptimalAssignment" "pathSlope" "[J" .null) (F_via : Fld Z h0 a1 "com/example/rematch/rematch/OptimalAssignment" "via" "[I" .null) (F_settled : Fld Z h0 a1 "com/example/rematch/rematch/OptimalAssignment" "settled" "[Z" .null) :
    MetFree l (⟨"com/example/rematch/rematch/OptimalAssignment", "<init>", "(I)V"⟩ : MethodName) (head1 (Jvm.Cond.code (⟨"com/example/rematch/rematch/OptimalAssignment", "<init>", "(I)V"⟩ : MethodName) prog_20_method_1_code 2 none :: ws) ({ frames := 2, cells := 12, slots := 0, locals := 29 } : Room)) (fun a U => a = #[(.ref a1), (.int (0 : Int32))] ∧ Z.Warmed39 U.vm ∧ U.heap = h0) (fun _ _ _ _ _ => True) (fun _ U o U' => ∃ v L, o = .returned v ∧ Qrm15 Z a1 h0 n0 v U'.heap L ∧ FrameEnd U o U' L ({ frames := 2, cells := 12, slots := 0, locals := 29 } : Room).cells ({ frames := 2, cells := 12, slots := 0, locals := 29 } : Room).slots) := by
  refine MetFree.of_bodySF (plainFor_of_name pn_15) hisR ?_
  intro p e s m args below meth c s₁ Bd hml0 hP hK
  obtain ⟨rfl, hZ, hh⟩ := hP
  have hx := Bd.exec
  have hby := Bd.bytes
  have hml : c.maxLocals = 2 := hml0
  have hown : s.vm.findClass "com/example/rematch/rematch/OptimalAssignment" = some m.cls := findClass_of_methodNamed Bd.named
  have hnm := (name_of_methodNamed Bd.named Bd.method).1
  have X0 : Stand p l e ({ frames := 2, cells := 12, slots := 0, locals := 29 } : Room) s m #[(.ref a1), (.int (0 : Int32))] below meth c s₁ [] 0 0 := Stand.of_body Bd
  have e0 : s₁.heap = h0 := by rw [← hh, Bd.state]; rfl
  have N0 := Fr.nil n0
  have pre0 : ∀ t, Steps p.tables e below (s₁.setTop (mkF m 0 #[.val (.ref a1), .val (.int (0 : Int32))] [])) t → Steps p.tables e below (s₁.setTop (entryFrame m #[(.ref a1), (.int (0 : Int32))] 2)) t := fun t k => castTop (ef_15 m a1 (0 : Int32)) k
  obtain ⟨T3, h3, k3, X3, e3, E3, A3, st3⟩ := newP X0 hx hZ (hw _ (List.mem_of_getElem? (i := 85) rfl)) e0 (g := (mkF m 2 #[.val (.ref a1), .val (.int (0 : Int32))] [(.int (0 : Int32)), (.ref a1)])) rfl (hb hby d15_2) rfl (by decide) (cap := 0) (by decide) (by decide) (by decide) (by decide)
  obtain ⟨b3, g3⟩ : ∃ z, z = h0.size := ⟨_, rfl⟩      -- the fresh array's address
  rw [← g3] at A3 st3
  have V_b3 := Arv.new A3 (by decide)      -- Arv Z h3 b3 k3 .double (0 : Int32) [] (its first value); a place must be in the list before it's written: Arv.pad with pad_rep
  have g_b3 : n0 ≤ b3 := Nat.le_trans Z0 (Nat.le_of_eq g3.symm)
  have sz_b3 : h0.size ≤ b3 := (Nat.le_trans (Keep.refl h0 []).1 (Nat.le_of_eq g3.symm))
  have K3 : Keep h0 h3 [] := (Keep.refl h0 []).ext E3
  obtain ⟨_, _, ⟨T4, L4, k4, n4⟩, -, X4, ⟨Lc4, hQ4, l4, y4, z4⟩, st4⟩ := X3.specialBack hx (y := (⟨"com/example/rematch/rematch/OptimalAssignment", "<init>", "([D)V"⟩ : MethodName)) rfl hown (mvT hZ (hw _ (List.mem_of_getElem? (i := 126) rfl))) (mvT hZ (hw _ (List.mem_of_getElem? (i := 127) rfl))) (mvT hZ (hw _ (List.mem_of_getElem? (i := 128) rfl))) (by decide) (backOf (W := 0) (rm16 l Z a0 hw [] a1 b3 _ (.int (0 : Int32)) .null .null .null .null .null .null .null .null .null .null .null .null h3 n0 (Nat.le_trans Z0 E3.1) A3 (sz_new _ _ _) (by decide) (E_a1.ext E3) (F_columnCount.ext E3) g_a1 (F_costsOfRow.ext E3) (F_slopesOfRow.ext E3) (F_columnOfRow.ext E3) (F_rowOfColumn.ext E3) (F_rowPotential.ext E3) (F_rowSlope.ext E3) (F_columnPotential.ext E3) (F_columnSlope.ext E3) (F_pathLength.ext E3) (F_pathSlope.ext E3) (F_via.ext E3) (F_settled.ext E3)) hZ (hw _ (List.mem_of_getElem? (i := 128) rfl)) (hw _ (List.mem_of_getElem? (i := 121) rfl)) (by decide) (by decide)) (g := (mkF m 4 #[.val (.ref a1), .val (.int (0 : Int32))] [(.ref b3), (.ref a1)])) rfl (by rw [hml]; rfl) (Steps.refl _) (a := a1) (argsL := [(.ref b3)]) (rest := []) (lenOf pd_15_10 rfl) rfl (by show 2 * 0 + _ ≤ _; exact Nat.le_of_eq rfl) (hb hby d15_4) (fun _ _ => ⟨rfl, e3, (by decide : 1 + 11 ≤ _), (by decide : 0 + 0 ≤ _)⟩)
  dsimp only [Pt.U, Pt.locs, Pt.cells, Pt.slots] at X4 l4 y4 z4 st4 hQ4
  subst l4 y4 z4
  obtain ⟨rfl, N4q, K4⟩ := hQ4
  have N4 := Fr.app N0 N4q
  obtain ⟨fs, hr, hrun, hended, hW, hsame⟩ := X4.leave (v := none) (fun _ => rfl)
  refine ⟨_, _, pre0 _ ?_, hrun, hended, _, _, rfl, ?_, ⟨_, rfl⟩, hW, hsame.mono (by decide) (by decide)⟩
  · show Steps p.tables e below (s₁.setTop (mkF m 0 #[.val (.ref a1), .val (.int (0 : Int32))] [])) _
    refine XS.aloadN X0.here hx rfl (hb hby d15_0) rfl rfl ?_
    show Steps p.tables e below (s₁.setTop (mkF m 1 #[.val (.ref a1), .val (.int (0 : Int32))] [(.ref a1)])) _
    refine XS.iloadN X0.here hx rfl (hb hby d15_1) rfl ?_
    show Steps p.tables e below (s₁.setTop (mkF m 2 #[.val (.ref a1), .val (.int (0 : Int32))] [(.int (0 : Int32)), (.ref a1)])) _
    refine st3 _ ?_
    show Steps p.tables e below (T3.setTop (mkF m 4 #[.val (.ref a1), .val (.int (0 : Int32))] [(.ref b3), (.ref a1)])) _
    refine st4.trans ?_
    show Steps p.tables e below (T4.setTop (mkF m 7 #[.val (.ref a1), .val (.int (0 : Int32))] [])) _
    exact X4.returnOut hx Bd.returns (hb hby d15_7) hr
  · show Qrm15 Z a1 h0 n0 _ T4.heap _
    exact ⟨rfl, N4, ((Keep.refl h0 [a1]).ext E3).trans K4 (fun x hx => Or.inl hx)⟩
theorem d7_0 : decode prog_10_method_1_code 0 = .ok (.aload_n 0, 1) := by decide +kernel
theorem d7_1 : decode prog_10_method_1_code 1 = .ok (.invokespecial 1, 3) := by decide +kernel
theorem d7_4 : decode prog_10_method_1_code 4 = .ok (.aload_n 0, 1) := by decide +kernel
theorem d7_5 : decode prog_10_method_1_code 5 = .ok (.new 7, 3) := by decide +kernel
theorem d7_8 : decode prog_10_method_1_code 8 = .ok (.dup, 1) := by decide +kernel
theorem d7_9 : decode prog_10_method_1_code 9 = .ok (.aload_n 1, 1) := by decide +kernel
theorem d7_10 : decode prog_10_method_1_code 10 = .ok (.aload_n 2, 1) := by decide +kernel
theorem d7_11 : decode prog_10_method_1_code 11 = .ok (.invokespecial 9, 3) := by decide +kernel
theorem d7_14 : decode prog_10_method_1_code 14 = .ok (.putfield 12, 3) := by decide +kernel
theorem d7_17 : decode prog_10_method_1_code 17 = .ok (.aload_n 0, 1) := by decide +kernel
theorem d7_18 : decode prog_10_method_1_code 18 = .ok (.new 18, 3) := by decide +kernel
theorem d7_21 : decode prog_10_method_1_code 21 = .ok (.dup, 1) := by decide +kernel
theorem d7_22 : decode prog_10_method_1_code 22 = .ok (.aload_n 2, 1) := by decide +kernel
theorem d7_23 : decode prog_10_method_1_code 23 = .ok (.invokeinterface 20 1, 5) := by decide +kernel
theorem d7_28 : decode prog_10_method_1_code 28 = .ok (.invokespecial 26, 3) := by decide +kernel
theorem d7_31 : decode prog_10_method_1_code 31 = .ok (.putfield 29, 3) := by decide +kernel
theorem d7_34 : decode prog_10_method_1_code 34 = .ok (.return_, 1) := by decide +kernel
theorem pn_7 : plainName "com/example/rematch/rematch/HindsightOptimum" = true := by first | (simp [plainName, overriddenIn]; done) | decide +kernel
theorem pd_7_3 : parseMethodDescriptor "(Lcom/example/rematch/rematch/Metric;Ljava/util/List;)V" = some ⟨[(.object "com/example/rematch/rematch/Metric"), (.object "java/util/List")], none⟩ := by decide +kernel
theorem pd_7_4 : parseMethodDescriptor "()I" = some ⟨[], some .int⟩ := by decide +kernel
theorem pd_7_9 : parseMethodDescriptor "(I)V" = some ⟨[.int], none⟩ := by decide +kernel
theorem ef_7 (m : MethodId) (x0 : Addr) (x1 : Addr) (x2 : Addr) : entryFrame m #[(.ref x0), (.ref x1), (.ref x2)] 3 = mkF m 0 #[.val (.ref x0), .val (.ref x1), .val (.ref x2)] [] := by first | (simp [entryFrame, mkF, argsToLocals, Value.category]; done) | rfl
def Qrm7 (Z : State) (a1 : Addr) (a2 : Addr) (a3 : Addr) (u_distances_a1 : Value) (u_assignment_a1 : Value) (h0 : Heap) (n0 : Nat) (v : Option Value) (h : Heap) (L : List Loc) : Prop := v = none ∧ Fr n0 L ∧ Keep h0 h [a1] ∧ Exa Z h a1 "com/example/rematch/rematch/HindsightOptimum" ∧ ∃ d, Fld Z h a1 "com/example/rematch/rematch/HindsightOptimum" "distances" "Lcom/example/rematch/rematch/Distances;" (.ref d)
set_option maxRecDepth 65536 in
set_option maxHeartbeats 40000000 in
theorem rm7 (l : Launch) (Z : State) (a0 : Array Value) (hw : ∀ d ∈ tables_1, d.before a0 Z = true) (ws : List Jvm.Cond) (a1 : Addr) (a2 : Addr) (a3 : Addr) (u_distances_a1 : Value) (u_assignment_a1 : Value) (h0 : Heap) (n0 : Nat) (Z0 : n0 ≤ h0.size) (Fs : Fld Z h0 a3 "java/util/ArrayList" "size" "I" (.int (0 : Int32))) (E_a2 : Exa Z h0 a2 "com/example/rematch/rematch/Metric$1") (wA : Addr) (clA : Cell) (FA : Fld Z h0 a2 "com/example/rematch/rematch/Metric" "axes" "[Lcom/example/rematch/rematch/Metric$Axis;" (.ref wA)) (ArA : Arr Z h0 wA clA (.object "com/example/rematch/rematch/Metric$Axis")) (SA : clA.slots.size = (1 : Int32).toNatClampNeg) (E_a1 : Exa Z h0 a1 "com/example/rematch/rematch/HindsightOptimum") (F_distances_a1 : Fld Z h0 a1 "com/example/rematch/rematch/HindsightOptimum" "distances" "Lcom/example/rematch/rematch/Distances;" u_distances_a1) (g_a1 : n0 ≤ a1) (E_a3 : Exa Z h0 a3 "java/util/ArrayList") (F_assignment_a1 : Fld Z h0 a1 "com/example/rematch/rematch/HindsightOptimum" "assignment" "Lcom/example/rematch/rematch/OptimalAssignment;" u_assignment_a1) :
    MetFree l (⟨"com/example/rematch/rematch/HindsightOptimum", "<init>", "(Lcom/example/rematch/rematch/Metric;Ljava/util/List;)V"⟩ : MethodName) (head1 (Jvm.Cond.code (⟨"com/example/rematch/rematch/HindsightOptimum", "<init>", "(Lcom/example/rematch/rematch/Metric;Ljava/util/List;)V"⟩ : MethodName) prog_10_method_1_code 3 none :: ws) ({ frames := 4, cells := 22, slots := 29, locals := 67 } : Room)) (fun a U => a = #[(.ref a1), (.ref a2), (.ref a3)] ∧ Z.Warmed39 U.vm ∧ U.heap = h0) (fun _ _ _ _ _ => True) (fun _ U o U' => ∃ v L, o = .returned v ∧ Qrm7 Z a1 a2 a3 u_distances_a1 u_assignment_a1 h0 n0 v U'.heap L ∧ FrameEnd U o U' L ({ frames := 4, cells := 22, slots := 29, locals := 67 } : Room).cells ({ frames := 4, cells := 22, slots := 29, locals := 67 } : Room).slots) := by
  refine MetFree.of_bodySF (plainFor_of_name pn_7) hisR ?_
  intro p e s m args below meth c s₁ Bd hml0 hP hK
  obtain ⟨rfl, hZ, hh⟩ := hP
  have hx := Bd.exec
  have hby := Bd.bytes
  have hml : c.maxLocals = 3 := hml0
  have hown : s.vm.findClass "com/example/rematch/rematch/HindsightOptimum" = some m.cls := findClass_of_methodNamed Bd.named
  have hnm := (name_of_methodNamed Bd.named Bd.method).1
  have X0 : Stand p l e ({ frames := 4, cells := 22, slots := 29, locals := 67 } : Room) s m #[(.ref a1), (.ref a2), (.ref a3)] below meth c s₁ [] 0 0 := Stand.of_body Bd
  have e0 : s₁.heap = h0 := by rw [← hh, Bd.state]; rfl
  have N0 := Fr.nil n0
  have pre0 : ∀ t, Steps p.tables e below (s₁.setTop (mkF m 0 #[.val (.ref a1), .val (.ref a2), .val (.ref a3)] [])) t → Steps p.tables e below (s₁.setTop (entryFrame m #[(.ref a1), (.ref a2), (.ref a3)] 3)) t := fun t k => castTop (ef_7 m a1 a2 a3) k
  obtain ⟨T4, X4, e4, st4⟩ := initO X0 hx hZ hown (hw _ (List.mem_of_getElem? (i := 43) rfl)) (hw _ (List.mem_of_getElem? (i := 33) rfl)) (hw _ (List.mem_of_getElem? (i := 34) rfl)) e0 (g := (mkF m 1 #[.val (.ref a1), .val (.ref a2), .val (.ref a3)] [(.ref a1)])) rfl (by rw [hml]; rfl) rfl (hb hby d7_1) (by decide) (W := 0) (by show 2 * 0 + _ ≤ _; exact Nat.le_of_eq rfl) (by decide)
  obtain ⟨T5, h5, X5, e5, E5, A5, D5, -, st5⟩ := newO X4 hx hZ hown (hw _ (List.mem_of_getElem? (i := 44) rfl)) (hw _ (List.mem_of_getElem? (i := 45) rfl)) (hw _ (List.mem_of_getElem? (i := 46) rfl)) e4 (g := (mkF m 5 #[.val (.ref a1), .val (.ref a2), .val (.ref a3)] [(.ref a1)])) rfl (hb hby d7_5) (by decide) (by decide)
  obtain ⟨b5, g5⟩ : ∃ z, z = h0.size := ⟨_, rfl⟩      -- the fresh object's address
  rw [← g5] at A5 D5 st5      -- A5 : Exa Z h5 b5 "com/example/rematch/rematch/Distances"; E5 : Ext h0 h5 (carries every older fact: .ext E5)
  have F_metric_b5 : Fld Z h5 b5 "com/example/rematch/rematch/Distances" "metric" "Lcom/example/rematch/rematch/Metric;" .null := D5 (Or.inr (hw _ (List.mem_of_getElem? (i := 63) rfl))) (ty := (.object "com/example/rematch/rematch/Metric")) (by decide)
  have F_serverAt_b5 : Fld Z h5 b5 "com/example/rematch/rematch/Distances" "serverAt" "[[D" .null := D5 (Or.inr (hw _ (List.mem_of_getElem? (i := 67) rfl))) (ty := (.array (.array .double))) (by decide)
  have F_extent_b5 : Fld Z h5 b5 "com/example/rematch/rematch/Distances" "extent" "Lcom/example/rematch/rematch/Extent;" .null := D5 (Or.inl (hw _ (List.mem_of_getElem? (i := 106) rfl))) (ty := (.object "com/example/rematch/rematch/Extent")) (by decide)
  have F_clientAt_b5 : Fld Z h5 b5 "com/example/rematch/rematch/Distances" "clientAt" "[[D" .null := D5 (Or.inr (hw _ (List.mem_of_getElem? (i := 108) rfl))) (ty := (.array (.array .double))) (by decide)
  have F_distanceRow_b5 : Fld Z h5 b5 "com/example/rematch/rematch/Distances" "distanceRow" "[[D" .null := D5 (Or.inr (hw _ (List.mem_of_getElem? (i := 110) rfl))) (ty := (.array (.array .double))) (by decide)
  have F_slopeRow_b5 : Fld Z h5 b5 "com/example/rematch/rematch/Distances" "slopeRow" "[[I" .null := D5 (Or.inr (hw _ (List.mem_of_getElem? (i := 114) rfl))) (ty := (.array (.array .int))) (by decide)
  have F_noSlopes_b5 : Fld Z h5 b5 "com/example/rematch/rematch/Distances" "noSlopes" "[I" .null := D5 (Or.inr (hw _ (List.mem_of_getElem? (i := 116) rfl))) (ty := (.array .int)) (by decide)
  have E_b5 := A5
  have g_b5 : n0 ≤ b5 := Nat.le_trans Z0 (Nat.le_of_eq g5.symm)
  have sz_b5 : h0.size ≤ b5 := (Nat.le_trans (Keep.refl h0 [a1]).1 (Nat.le_of_eq g5.symm))
  have K5 : Keep h0 h5 [a1] := (Keep.refl h0 [a1]).ext E5
  obtain ⟨_, _, ⟨T6, L6, k6, n6⟩, -, X6, ⟨Lc6, hQ6, l6, y6, z6⟩, st6⟩ := X5.specialBack hx (y := (⟨"com/example/rematch/rematch/Distances", "<init>", "(Lcom/example/rematch/rematch/Metric;Ljava/util/List;)V"⟩ : MethodName)) rfl hown (mvT hZ (hw _ (List.mem_of_getElem? (i := 47) rfl))) (mvT hZ (hw _ (List.mem_of_getElem? (i := 48) rfl))) (mvT hZ (hw _ (List.mem_of_getElem? (i := 49) rfl))) (by decide) (backOf (W := 2) (rm8 l Z a0 hw [] b5 a2 a3 .null .null .null .null .null .null .null h5 n0 (Nat.le_trans Z0 E5.1) (Fs.ext E5) (E_a2.ext E5) wA clA (FA.ext E5) (ArA.ext E5) SA (E_a3.ext E5) E_b5 F_metric_b5 g_b5 F_serverAt_b5 F_extent_b5 F_clientAt_b5 F_distanceRow_b5 F_slopeRow_b5 F_noSlopes_b5) hZ (hw _ (List.mem_of_getElem? (i := 49) rfl)) (hw _ (List.mem_of_getElem? (i := 46) rfl)) (by decide) (by decide)) (g := (mkF m 11 #[.val (.ref a1), .val (.ref a2), .val (.ref a3)] [(.ref a3), (.ref a2), (.ref b5), (.ref b5), (.ref a1)])) rfl (by rw [hml]; rfl) (Steps.refl _) (a := b5) (argsL := [(.ref a2), (.ref a3)]) (rest := [(.ref b5), (.ref a1)]) (lenOf pd_7_3 rfl) rfl (by show 2 * 0 + _ ≤ _; exact Nat.le_of_eq rfl) (hb hby d7_11) (fun _ _ => ⟨rfl, e5, (by decide : 1 + 8 ≤ _), (by decide : 8 + 7 ≤ _)⟩)
  dsimp only [Pt.U, Pt.locs, Pt.cells, Pt.slots] at X6 l6 y6 z6 st6 hQ6
  subst l6 y6 z6
  obtain ⟨rfl, N6q, K6⟩ := hQ6
  have P6 : Keep h0 T6.heap [a1] := K5.trans K6 (allS (Or.inr sz_b5) all0)
  have N6 := Fr.app N0 N6q
  obtain ⟨T7, h7, X7, e7, W7, st7⟩ := putF X6 hx hZ hown (host := "") (Or.inl (hw _ (List.mem_of_getElem? (i := 117) rfl))) Via.refl rfl ((F_distances_a1.ext E5).keep K6 (own_nin (Nat.lt_of_lt_of_le E_a1.lt sz_b5))) ((E_a1.ext E5).keep K6) (Or.inr ⟨(hw _ (List.mem_of_getElem? (i := 118) rfl)), rfl, hnm⟩) (hw _ (List.mem_of_getElem? (i := 9) rfl)) (ty := (.object "com/example/rematch/rematch/Distances")) (by decide) rfl rfl (g := (mkF m 14 #[.val (.ref a1), .val (.ref a2), .val (.ref a3)] [(.ref b5), (.ref a1)])) rfl rfl (hb hby d7_14)
  have Fw7 := ((F_distances_a1.ext E5).keep K6 (own_nin (Nat.lt_of_lt_of_le E_a1.lt sz_b5))).same W7      -- the field now holds (.ref b5)
  have K7 : Keep h0 h7 [a1] := P6.wr W7 (Or.inl (List.mem_of_getElem? (i := 0) rfl))
  have N7 := Fr.snoc X7 N6 g_a1
  obtain ⟨T8, h8, X8, e8, E8, A8, D8, -, st8⟩ := newO X7 hx hZ hown (hw _ (List.mem_of_getElem? (i := 119) rfl)) (hw _ (List.mem_of_getElem? (i := 120) rfl)) (hw _ (List.mem_of_getElem? (i := 121) rfl)) e7 (g := (mkF m 18 #[.val (.ref a1), .val (.ref a2), .val (.ref a3)] [(.ref a1)])) rfl (hb hby d7_18) (by decide) (by decide)
  obtain ⟨b8, g8⟩ : ∃ z, z = h7.size := ⟨_, rfl⟩      -- the fresh object's address
  rw [← g8] at A8 D8 st8      -- A8 : Exa Z h8 b8 "com/example/rematch/rematch/OptimalAssignment"; E8 : Ext h7 h8 (carries every older fact: .ext E8)
  have F_columnCount_b8 : Fld Z h8 b8 "com/example/rematch/rematch/OptimalAssignment" "columnCount" "I" (.int (0 : Int32)) := D8 (Or.inr (hw _ (List.mem_of_getElem? (i := 131) rfl))) (ty := .int) (by decide)
  have F_costsOfRow_b8 : Fld Z h8 b8 "com/example/rematch/rematch/OptimalAssignment" "costsOfRow" "[[D" .null := D8 (Or.inr (hw _ (List.mem_of_getElem? (i := 134) rfl))) (ty := (.array (.array .double))) (by decide)
  have F_slopesOfRow_b8 : Fld Z h8 b8 "com/example/rematch/rematch/OptimalAssignment" "slopesOfRow" "[[I" .null := D8 (Or.inr (hw _ (List.mem_of_getElem? (i := 137) rfl))) (ty := (.array (.array .int))) (by decide)
  have F_columnOfRow_b8 : Fld Z h8 b8 "com/example/rematch/rematch/OptimalAssignment" "columnOfRow" "[I" .null := D8 (Or.inr (hw _ (List.mem_of_getElem? (i := 139) rfl))) (ty := (.array .int)) (by decide)
  have F_rowOfColumn_b8 : Fld Z h8 b8 "com/example/rematch/rematch/OptimalAssignment" "rowOfColumn" "[I" .null := D8 (Or.inr (hw _ (List.mem_of_getElem? (i := 141) rfl))) (ty := (.array .int)) (by decide)
  have F_rowPotential_b8 : Fld Z h8 b8 "com/example/rematch/rematch/OptimalAssignment" "rowPotential" "[D" .null := D8 (Or.inr (hw _ (List.mem_of_getElem? (i := 146) rfl))) (ty := (.array .double)) (by decide)
  have F_rowSlope_b8 : Fld Z h8 b8 "com/example/rematch/rematch/OptimalAssignment" "rowSlope" "[J" .null := D8 (Or.inr (hw _ (List.mem_of_getElem? (i := 149) rfl))) (ty := (.array .long)) (by decide)
  have F_columnPotential_b8 : Fld Z h8 b8 "com/example/rematch/rematch/OptimalAssignment" "columnPotential" "[D" .null := D8 (Or.inr (hw _ (List.mem_of_getElem? (i := 151) rfl))) (ty := (.array .double)) (by decide)
  have F_columnSlope_b8 : Fld Z h8 b8 "com/example/rematch/rematch/OptimalAssignment" "columnSlope" "[J" .null := D8 (Or.inr (hw _ (List.mem_of_getElem? (i := 153) rfl))) (ty := (.array .long)) (by decide)
  have F_pathLength_b8 : Fld Z h8 b8 "com/example/rematch/rematch/OptimalAssignment" "pathLength" "[D" .null := D8 (Or.inr (hw _ (List.mem_of_getElem? (i := 155) rfl))) (ty := (.array .double)) (by decide)
  have F_pathSlope_b8 : Fld Z h8 b8 "com/example/rematch/rematch/OptimalAssignment" "pathSlope" "[J" .null := D8 (Or.inr (hw _ (List.mem_of_getElem? (i := 157) rfl))) (ty := (.array .long)) (by decide)
  have F_via_b8 : Fld Z h8 b8 "com/example/rematch/rematch/OptimalAssignment" "via" "[I" .null := D8 (Or.inr (hw _ (List.mem_of_getElem? (i := 159) rfl))) (ty := (.array .int)) (by decide)
  have F_settled_b8 : Fld Z h8 b8 "com/example/rematch/rematch/OptimalAssignment" "settled" "[Z" .null := D8 (Or.inr (hw _ (List.mem_of_getElem? (i := 162) rfl))) (ty := (.array .boolean)) (by decide)
  have E_b8 := A8
  have g_b8 : n0 ≤ b8 := Nat.le_trans (Nat.le_trans (Nat.le_trans (Nat.le_trans Z0 E5.1) K6.1) (Keep.of_wr W7).1) (Nat.le_of_eq g8.symm)
  have sz_b8 : h0.size ≤ b8 := (Nat.le_trans K7.1 (Nat.le_of_eq g8.symm))
  have K8 : Keep h0 h8 [a1] := K7.ext E8
  obtain ⟨cq9, kq9, q9a, q9b, q9c⟩ := isOf hZ e8 ((((E_a3.ext E5).keep K6).wr W7).ext E8)
  obtain ⟨_, _, ⟨T9, L9, k9, n9⟩, -, X9, ⟨Lc9, hQ9, l9, y9, z9⟩, st9⟩ := X8.interfaceBack hx (xi := (⟨"java/util/List", "size", "()I"⟩ : MethodName)) (y := (⟨"java/util/ArrayList", "size", "()I"⟩ : MethodName)) hown (mvT hZ (hw _ (List.mem_of_getElem? (i := 122) rfl))) (mvT hZ (hw _ (List.mem_of_getElem? (i := 52) rfl))) (mvT hZ (hw _ (List.mem_of_getElem? (i := 53) rfl))) (mvT hZ (hw _ (List.mem_of_getElem? (i := 54) rfl))) (mvT hZ (hw _ (List.mem_of_getElem? (i := 55) rfl))) (mvT hZ (hw _ (List.mem_of_getElem? (i := 56) rfl))) (mvT hZ (hw _ (List.mem_of_getElem? (i := 57) rfl))) (mvT hZ (hw _ (List.mem_of_getElem? (i := 58) rfl))) (by decide) (backOf (W := 3) (rm9 l Z a0 hw [] a3 (0 : Int32) h8 n0 (Nat.le_trans Z0 K8.1) ((((Fs.ext E5).keep K6 (own_nin (Nat.lt_of_lt_of_le E_a3.lt sz_b5))).other W7 (Or.inl (ne_exa E_a3 E_a1 (by decide)))).ext E8)) hZ (hw _ (List.mem_of_getElem? (i := 59) rfl)) (hw _ (List.mem_of_getElem? (i := 16) rfl)) (by decide) (by decide)) q9a q9b q9c (g := (mkF m 23 #[.val (.ref a1), .val (.ref a2), .val (.ref a3)] [(.ref a3), (.ref b8), (.ref b8), (.ref a1)])) rfl (by rw [hml]; rfl) (Steps.refl _) (argsL := []) (rest := [(.ref b8), (.ref b8), (.ref a1)]) (lenOf pd_7_4 rfl) rfl (by show 2 * 0 + _ ≤ _; exact Nat.le_of_eq rfl) (hb hby d7_23) (fun _ _ => ⟨rfl, e8, (by decide : 10 + 0 ≤ _), (by decide : 29 + 0 ≤ _)⟩)
  dsimp only [Pt.U, Pt.locs, Pt.cells, Pt.slots] at X9 l9 y9 z9 st9 hQ9
  subst l9 y9 z9
  obtain ⟨rfl, N9q, e9⟩ := hQ9
  have N9 := Fr.app N7 N9q
  obtain ⟨_, _, ⟨T10, L10, k10, n10⟩, -, X10, ⟨Lc10, hQ10, l10, y10, z10⟩, st10⟩ := X9.specialBack hx (y := (⟨"com/example/rematch/rematch/OptimalAssignment", "<init>", "(I)V"⟩ : MethodName)) rfl hown (mvT hZ (hw _ (List.mem_of_getElem? (i := 123) rfl))) (mvT hZ (hw _ (List.mem_of_getElem? (i := 124) rfl))) (mvT hZ (hw _ (List.mem_of_getElem? (i := 125) rfl))) (by decide) (backOf (W := 2) (rm15 l Z a0 hw [] b8 h8 n0 (Nat.le_trans Z0 K8.1) E_b8 g_b8 F_columnCount_b8 F_costsOfRow_b8 F_slopesOfRow_b8 F_columnOfRow_b8 F_rowOfColumn_b8 F_rowPotential_b8 F_rowSlope_b8 F_columnPotential_b8 F_columnSlope_b8 F_pathLength_b8 F_pathSlope_b8 F_via_b8 F_settled_b8) hZ (hw _ (List.mem_of_getElem? (i := 125) rfl)) (hw _ (List.mem_of_getElem? (i := 121) rfl)) (by decide) (by decide)) (g := (mkF m 28 #[.val (.ref a1), .val (.ref a2), .val (.ref a3)] [(.int (0 : Int32)), (.ref b8), (.ref b8), (.ref a1)])) rfl (by rw [hml]; rfl) (Steps.refl _) (a := b8) (argsL := [(.int (0 : Int32))]) (rest := [(.ref b8), (.ref a1)]) (lenOf pd_7_9 rfl) rfl (by show 2 * 0 + _ ≤ _; exact Nat.le_of_eq rfl) (hb hby d7_28) (fun _ _ => ⟨rfl, e9, (by decide : 10 + 12 ≤ _), (by decide : 29 + 0 ≤ _)⟩)
  dsimp only [Pt.U, Pt.locs, Pt.cells, Pt.slots] at X10 l10 y10 z10 st10 hQ10
  subst l10 y10 z10
  obtain ⟨rfl, N10q, K10⟩ := hQ10
  have P10 : Keep h0 T10.heap [a1] := K8.trans K10 (allS (Or.inr sz_b8) all0)
  have N10 := Fr.app N9 N10q
  obtain ⟨T11, h11, X11, e11, W11, st11⟩ := putF X10 hx hZ hown (host := "") (Or.inl (hw _ (List.mem_of_getElem? (i := 163) rfl))) Via.refl rfl ((((((F_assignment_a1.ext E5).keep K6 (own_nin (Nat.lt_of_lt_of_le E_a1.lt sz_b5))).other W7 (Or.inr (slot_ne (Or.inr (hw _ (List.mem_of_getElem? (i := 164) rfl))) (Or.inr (hw _ (List.mem_of_getElem? (i := 118) rfl))) (by decide) (t := (.object "com/example/rematch/rematch/OptimalAssignment")) (t' := (.object "com/example/rematch/rematch/Distances")) (by decide) (by decide)))).ext E8)).keep K10 (own_nin (Nat.lt_of_lt_of_le E_a1.lt sz_b8))) ((((((E_a1.ext E5).keep K6).wr W7).ext E8)).keep K10) (Or.inr ⟨(hw _ (List.mem_of_getElem? (i := 164) rfl)), rfl, hnm⟩) (hw _ (List.mem_of_getElem? (i := 9) rfl)) (ty := (.object "com/example/rematch/rematch/OptimalAssignment")) (by decide) rfl rfl (g := (mkF m 31 #[.val (.ref a1), .val (.ref a2), .val (.ref a3)] [(.ref b8), (.ref a1)])) rfl rfl (hb hby d7_31)
  have Fw11 := ((((((F_assignment_a1.ext E5).keep K6 (own_nin (Nat.lt_of_lt_of_le E_a1.lt sz_b5))).other W7 (Or.inr (slot_ne (Or.inr (hw _ (List.mem_of_getElem? (i := 164) rfl))) (Or.inr (hw _ (List.mem_of_getElem? (i := 118) rfl))) (by decide) (t := (.object "com/example/rematch/rematch/OptimalAssignment")) (t' := (.object "com/example/rematch/rematch/Distances")) (by decide) (by decide)))).ext E8)).keep K10 (own_nin (Nat.lt_of_lt_of_le E_a1.lt sz_b8))).same W11      -- the field now holds (.ref b8)
  have K11 : Keep h0 h11 [a1] := P10.wr W11 (Or.inl (List.mem_of_getElem? (i := 0) rfl))
  have N11 := Fr.snoc X11 N10 g_a1
  obtain ⟨fs, hr, hrun, hended, hW, hsame⟩ := X11.leave (v := none) (fun _ => rfl)
  refine ⟨_, _, pre0 _ ?_, hrun, hended, _, _, rfl, ?_, ⟨_, rfl⟩, hW, hsame.mono (by decide) (by decide)⟩
  · show Steps p.tables e below (s₁.setTop (mkF m 0 #[.val (.ref a1), .val (.ref a2), .val (.ref a3)] [])) _
    refine XS.aloadN X0.here hx rfl (hb hby d7_0) rfl rfl ?_
    show Steps p.tables e below (s₁.setTop (mkF m 1 #[.val (.ref a1), .val (.ref a2), .val (.ref a3)] [(.ref a1)])) _
    refine st4 _ ?_
    show Steps p.tables e below (T4.setTop (mkF m 4 #[.val (.ref a1), .val (.ref a2), .val (.ref a3)] [])) _
    refine XS.aloadN X4.here hx rfl (hb hby d7_4) rfl rfl ?_
    show Steps p.tables e below (T4.setTop (mkF m 5 #[.val (.ref a1), .val (.ref a2), .val (.ref a3)] [(.ref a1)])) _
    refine st5 _ ?_
    show Steps p.tables e below (T5.setTop (mkF m 8 #[.val (.ref a1), .val (.ref a2), .val (.ref a3)] [(.ref b5), (.ref a1)])) _
    refine XS.dup X5.here hx rfl (hb hby d7_8) rfl rfl ?_
    show Steps p.tables e below (T5.setTop (mkF m 9 #[.val (.ref a1), .val (.ref a2), .val (.ref a3)] [(.ref b5), (.ref b5), (.ref a1)])) _
    refine XS.aloadN X5.here hx rfl (hb hby d7_9) rfl rfl ?_
    show Steps p.tables e below (T5.setTop (mkF m 10 #[.val (.ref a1), .val (.ref a2), .val (.ref a3)] [(.ref a2), (.ref b5), (.ref b5), (.ref a1)])) _
    refine XS.aloadN X5.here hx rfl (hb hby d7_10) rfl rfl ?_
    show Steps p.tables e below (T5.setTop (mkF m 11 #[.val (.ref a1), .val (.ref a2), .val (.ref a3)] [(.ref a3), (.ref a2), (.ref b5), (.ref b5), (.ref a1)])) _
    refine st6.trans ?_
    show Steps p.tables e below (T6.setTop (mkF m 14 #[.val (.ref a1), .val (.ref a2), .val (.ref a3)] [(.ref b5), (.ref a1)])) _
    refine st7 _ ?_
    show Steps p.tables e below (T7.setTop (mkF m 17 #[.val (.ref a1), .val (.ref a2), .val (.ref a3)] [])) _
    refine XS.aloadN X7.here hx rfl (hb hby d7_17) rfl rfl ?_
    show Steps p.tables e below (T7.setTop (mkF m 18 #[.val (.ref a1), .val (.ref a2), .val (.ref a3)] [(.ref a1)])) _
    refine st8 _ ?_
    show Steps p.tables e below (T8.setTop (mkF m 21 #[.val (.ref a1), .val (.ref a2), .val (.ref a3)] [(.ref b8), (.ref a1)])) _
    refine XS.dup X8.here hx rfl (hb hby d7_21) rfl rfl ?_
    show Steps p.tables e below (T8.setTop (mkF m 22 #[.val (.ref a1), .val (.ref a2), .val (.ref a3)] [(.ref b8), (.ref b8), (.ref a1)])) _
    refine XS.aloadN X8.here hx rfl (hb hby d7_22) rfl rfl ?_
    show Steps p.tables e below (T8.setTop (mkF m 23 #[.val (.ref a1), .val (.ref a2), .val (.ref a3)] [(.ref a3), (.ref b8), (.ref b8), (.ref a1)])) _
    refine st9.trans ?_
    show Steps p.tables e below (T9.setTop (mkF m 28 #[.val (.ref a1), .val (.ref a2), .val (.ref a3)] [(.int (0 : Int32)), (.ref b8), (.ref b8), (.ref a1)])) _
    refine st10.trans ?_
    show Steps p.tables e below (T10.setTop (mkF m 31 #[.val (.ref a1), .val (.ref a2), .val (.ref a3)] [(.ref b8), (.ref a1)])) _
    refine st11 _ ?_
    show Steps p.tables e below (T11.setTop (mkF m 34 #[.val (.ref a1), .val (.ref a2), .val (.ref a3)] [])) _
    exact X11.returnOut hx Bd.returns (hb hby d7_34) hr
  · show Qrm7 Z a1 a2 a3 u_distances_a1 u_assignment_a1 h0 n0 _ T11.heap _
    rw [e11]
    exact ⟨rfl, N11, K11, ((((((E_a1.ext E5).keep K6).wr W7).ext E8)).keep K10).wr W11, b5, ((Fw7.ext E8).keep K10 (own_nin (Nat.lt_of_lt_of_le E_a1.lt sz_b8))).other W11 (Or.inr (slot_ne (Or.inr (hw _ (List.mem_of_getElem? (i := 118) rfl))) (Or.inr (hw _ (List.mem_of_getElem? (i := 164) rfl))) (by decide) (t := (.object "com/example/rematch/rematch/Distances")) (t' := (.object "com/example/rematch/rematch/OptimalAssignment")) (by decide) (by decide)))⟩
theorem d19_0 : decode prog_10_method_5_code 0 = .ok (.aload_n 0, 1) := by decide +kernel
theorem d19_1 : decode prog_10_method_5_code 1 = .ok (.getfield 12, 3) := by decide +kernel
theorem d19_4 : decode prog_10_method_5_code 4 = .ok (.areturn, 1) := by decide +kernel
theorem pn_19 : plainName "com/example/rematch/rematch/HindsightOptimum" = true := by first | (simp [plainName, overriddenIn]; done) | decide +kernel
theorem ef_19 (m : MethodId) (x0 : Addr) : entryFrame m #[(.ref x0)] 1 = mkF m 0 #[.val (.ref x0)] [] := by first | (simp [entryFrame, mkF, argsToLocals, Value.category]; done) | rfl
def Qrm19 (Z : State) (a1 : Addr) (w2 : Addr) (h0 : Heap) (n0 : Nat) (v : Option Value) (h : Heap) (L : List Loc) : Prop := v = some (.ref w2) ∧ Fr n0 L ∧ h = h0
set_option maxRecDepth 65536 in
set_option maxHeartbeats 40000000 in
theorem rm19 (l : Launch) (Z : State) (a0 : Array Value) (hw : ∀ d ∈ tables_1, d.before a0 Z = true) (ws : List Jvm.Cond) (a1 : Addr) (w2 : Addr) (h0 : Heap) (n0 : Nat) (Z0 : n0 ≤ h0.size) (F_distances_a1 : Fld Z h0 a1 "com/example/rematch/rematch/HindsightOptimum" "distances" "Lcom/example/rematch/rematch/Distances;" (.ref w2)) :
    MetFree l (⟨"com/example/rematch/rematch/HindsightOptimum", "distances", "()Lcom/example/rematch/rematch/Distances;"⟩ : MethodName) (head1 (Jvm.Cond.code (⟨"com/example/rematch/rematch/HindsightOptimum", "distances", "()Lcom/example/rematch/rematch/Distances;"⟩ : MethodName) prog_10_method_5_code 1 (some (.object "com/example/rematch/rematch/Distances")) :: ws) ({ frames := 0, cells := 0, slots := 0, locals := 0 } : Room)) (fun a U => a = #[(.ref a1)] ∧ Z.Warmed39 U.vm ∧ U.heap = h0) (fun _ _ _ _ _ => True) (fun _ U o U' => ∃ v L, o = .returned v ∧ Qrm19 Z a1 w2 h0 n0 v U'.heap L ∧ FrameEnd U o U' L ({ frames := 0, cells := 0, slots := 0, locals := 0 } : Room).cells ({ frames := 0, cells := 0, slots := 0, locals := 0 } : Room).slots) := by
  refine MetFree.of_bodySF (plainFor_of_name pn_19) hisR ?_
  intro p e s m args below meth c s₁ Bd hml0 hP hK
  obtain ⟨rfl, hZ, hh⟩ := hP
  have hx := Bd.exec
  have hby := Bd.bytes
  have hml : c.maxLocals = 1 := hml0
  have hown : s.vm.findClass "com/example/rematch/rematch/HindsightOptimum" = some m.cls := findClass_of_methodNamed Bd.named
  have hnm := (name_of_methodNamed Bd.named Bd.method).1
  have X0 : Stand p l e ({ frames := 0, cells := 0, slots := 0, locals := 0 } : Room) s m #[(.ref a1)] below meth c s₁ [] 0 0 := Stand.of_body Bd
  have e0 : s₁.heap = h0 := by rw [← hh, Bd.state]; rfl
  have N0 := Fr.nil n0
  have pre0 : ∀ t, Steps p.tables e below (s₁.setTop (mkF m 0 #[.val (.ref a1)] [])) t → Steps p.tables e below (s₁.setTop (entryFrame m #[(.ref a1)] 1)) t := fun t k => castTop (ef_19 m a1) k
  obtain ⟨T3, X3, e3, st3⟩ := getF X0 hx hZ hown (host := "") (Or.inl (hw _ (List.mem_of_getElem? (i := 117) rfl))) Via.refl e0 F_distances_a1 (g := (mkF m 1 #[.val (.ref a1)] [(.ref a1)])) rfl rfl (hb hby d19_1)
  obtain ⟨fs, hr, hrun, hended, hW, hsame⟩ := X3.leave (v := some (.ref w2)) (fun h => by rw [Bd.returns] at h; cases h)
  refine ⟨_, _, pre0 _ ?_, hrun, hended, _, _, rfl, ?_, ⟨_, rfl⟩, hW, hsame.mono (by decide) (by decide)⟩
  · show Steps p.tables e below (s₁.setTop (mkF m 0 #[.val (.ref a1)] [])) _
    refine XS.aloadN X0.here hx rfl (hb hby d19_0) rfl rfl ?_
    show Steps p.tables e below (s₁.setTop (mkF m 1 #[.val (.ref a1)] [(.ref a1)])) _
    refine st3 _ ?_
    show Steps p.tables e below (T3.setTop (mkF m 4 #[.val (.ref a1)] [(.ref w2)])) _
    jvm_step X3.here [X3.here.top, hx, (hb hby d19_4), X3.method', Bd.returns, Value.isRef, FieldType.isReference]
    first | (intro acts; rw [hr _ acts rfl rfl rfl]) | rw [hr _ _ rfl rfl rfl]
    exact Steps.refl _
  · show Qrm19 Z a1 w2 h0 n0 _ T3.heap _
    rw [e3]
    exact ⟨rfl, N0, rfl⟩
theorem d18_0 : decode prog_1_method_1_code 0 = .ok (.aload_n 0, 1) := by decide +kernel
theorem d18_1 : decode prog_1_method_1_code 1 = .ok (.invokespecial 1, 3) := by decide +kernel
theorem d18_4 : decode prog_1_method_1_code 4 = .ok (.aload_n 0, 1) := by decide +kernel
theorem d18_5 : decode prog_1_method_1_code 5 = .ok (.aload_n 1, 1) := by decide +kernel
theorem d18_6 : decode prog_1_method_1_code 6 = .ok (.putfield 7, 3) := by decide +kernel
theorem d18_9 : decode prog_1_method_1_code 9 = .ok (.aload_n 0, 1) := by decide +kernel
theorem d18_10 : decode prog_1_method_1_code 10 = .ok (.aload_n 1, 1) := by decide +kernel
theorem d18_11 : decode prog_1_method_1_code 11 = .ok (.invokevirtual 13, 3) := by decide +kernel
theorem d18_14 : decode prog_1_method_1_code 14 = .ok (.putfield 19, 3) := by decide +kernel
theorem d18_17 : decode prog_1_method_1_code 17 = .ok (.aload_n 0, 1) := by decide +kernel
theorem d18_18 : decode prog_1_method_1_code 18 = .ok (.aload_n 2, 1) := by decide +kernel
theorem d18_19 : decode prog_1_method_1_code 19 = .ok (.putfield 22, 3) := by decide +kernel
theorem d18_22 : decode prog_1_method_1_code 22 = .ok (.aload_n 0, 1) := by decide +kernel
theorem d18_23 : decode prog_1_method_1_code 23 = .ok (.aload_n 3, 1) := by decide +kernel
theorem d18_24 : decode prog_1_method_1_code 24 = .ok (.putfield 26, 3) := by decide +kernel
theorem d18_27 : decode prog_1_method_1_code 27 = .ok (.aload_n 0, 1) := by decide +kernel
theorem d18_28 : decode prog_1_method_1_code 28 = .ok (.iload 4, 2) := by decide +kernel
theorem d18_30 : decode prog_1_method_1_code 30 = .ok (.putfield 29, 3) := by decide +kernel
theorem d18_33 : decode prog_1_method_1_code 33 = .ok (.return_, 1) := by decide +kernel
theorem pn_18 : plainName "com/example/rematch/rematch/Arrival" = true := by first | (simp [plainName, overriddenIn]; done) | decide +kernel
theorem pd_18_13 : parseMethodDescriptor "()Lcom/example/rematch/rematch/Distances;" = some ⟨[], some (.object "com/example/rematch/rematch/Distances")⟩ := by decide +kernel
theorem ef_18 (m : MethodId) (x0 : Addr) (x1 : Addr) (x2 : Addr) (x3 : Addr) (x4 : Int32) : entryFrame m #[(.ref x0), (.ref x1), (.ref x2), (.ref x3), (.int x4)] 5 = mkF m 0 #[.val (.ref x0), .val (.ref x1), .val (.ref x2), .val (.ref x3), .val (.int x4)] [] := by first | (simp [entryFrame, mkF, argsToLocals, Value.category]; done) | rfl
def Qrm18 (Z : State) (a1 : Addr) (a2 : Addr) (a3 : Addr) (a4 : Addr) (p5 : Int32) (u_optimum_a1 : Value) (u_distances_a1 : Value) (u_serverOfClient_a1 : Value) (u_clientOfServer_a1 : Value) (u_addedServer_a1 : Value) (h0 : Heap) (n0 : Nat) (v : Option Value) (h : Heap) (L : List Loc) : Prop := v = none ∧ Fr n0 L ∧ Keep h0 h [a1] ∧ Exa Z h a1 "com/example/rematch/rematch/Arrival" ∧ Fld Z h a1 "com/example/rematch/rematch/Arrival" "clientOfServer" "[I" (.ref a4)
set_option maxRecDepth 65536 in
set_option maxHeartbeats 40000000 in
theorem rm18 (l : Launch) (Z : State) (a0 : Array Value) (hw : ∀ d ∈ tables_1, d.before a0 Z = true) (ws : List Jvm.Cond) (a1 : Addr) (a2 : Addr) (a3 : Addr) (a4 : Addr) (p5 : Int32) (u_optimum_a1 : Value) (u_distances_a1 : Value) (u_serverOfClient_a1 : Value) (u_clientOfServer_a1 : Value) (u_addedServer_a1 : Value) (h0 : Heap) (n0 : Nat) (Z0 : n0 ≤ h0.size) (dd : Addr) (Fd : Fld Z h0 a2 "com/example/rematch/rematch/HindsightOptimum" "distances" "Lcom/example/rematch/rematch/Distances;" (.ref dd)) (E_a1 : Exa Z h0 a1 "com/example/rematch/rematch/Arrival") (F_optimum_a1 : Fld Z h0 a1 "com/example/rematch/rematch/Arrival" "optimum" "Lcom/example/rematch/rematch/HindsightOptimum;" u_optimum_a1) (g_a1 : n0 ≤ a1) (E_a2 : Exa Z h0 a2 "com/example/rematch/rematch/HindsightOptimum") (F_distances_a1 : Fld Z h0 a1 "com/example/rematch/rematch/Arrival" "distances" "Lcom/example/rematch/rematch/Distances;" u_distances_a1) (F_serverOfClient_a1 : Fld Z h0 a1 "com/example/rematch/rematch/Arrival" "serverOfClient" "[I" u_serverOfClient_a1) (F_clientOfServer_a1 : Fld Z h0 a1 "com/example/rematch/rematch/Arrival" "clientOfServer" "[I" u_clientOfServer_a1) (F_addedServer_a1 : Fld Z h0 a1 "com/example/rematch/rematch/Arrival" "addedServer" "I" u_addedServer_a1) :
    MetFree l (⟨"com/example/rematch/rematch/Arrival", "<init>", "(Lcom/example/rematch/rematch/HindsightOptimum;[I[II)V"⟩ : MethodName) (head1 (Jvm.Cond.code (⟨"com/example/rematch/rematch/Arrival", "<init>", "(Lcom/example/rematch/rematch/HindsightOptimum;[I[II)V"⟩ : MethodName) prog_1_method_1_code 5 none :: ws) ({ frames := 1, cells := 0, slots := 0, locals := 13 } : Room)) (fun a U => a = #[(.ref a1), (.ref a2), (.ref a3), (.ref a4), (.int p5)] ∧ Z.Warmed39 U.vm ∧ U.heap = h0) (fun _ _ _ _ _ => True) (fun _ U o U' => ∃ v L, o = .returned v ∧ Qrm18 Z a1 a2 a3 a4 p5 u_optimum_a1 u_distances_a1 u_serverOfClient_a1 u_clientOfServer_a1 u_addedServer_a1 h0 n0 v U'.heap L ∧ FrameEnd U o U' L ({ frames := 1, cells := 0, slots := 0, locals := 13 } : Room).cells ({ frames := 1, cells := 0, slots := 0, locals := 13 } : Room).slots) := by
  refine MetFree.of_bodySF (plainFor_of_name pn_18) hisR ?_
  intro p e s m args below meth c s₁ Bd hml0 hP hK
  obtain ⟨rfl, hZ, hh⟩ := hP
  have hx := Bd.exec
  have hby := Bd.bytes
  have hml : c.maxLocals = 5 := hml0
  have hown : s.vm.findClass "com/example/rematch/rematch/Arrival" = some m.cls := findClass_of_methodNamed Bd.named
  have hnm := (name_of_methodNamed Bd.named Bd.method).1
  have X0 : Stand p l e ({ frames := 1, cells := 0, slots := 0, locals := 13 } : Room) s m #[(.ref a1), (.ref a2), (.ref a3), (.ref a4), (.int p5)] below meth c s₁ [] 0 0 := Stand.of_body Bd
  have e0 : s₁.heap = h0 := by rw [← hh, Bd.state]; rfl
  have N0 := Fr.nil n0
  have pre0 : ∀ t, Steps p.tables e below (s₁.setTop (mkF m 0 #[.val (.ref a1), .val (.ref a2), .val (.ref a3), .val (.ref a4), .val (.int p5)] [])) t → Steps p.tables e below (s₁.setTop (entryFrame m #[(.ref a1), (.ref a2), (.ref a3), (.ref a4), (.int p5)] 5)) t := fun t k => castTop (ef_18 m a1 a2 a3 a4 p5) k
  obtain ⟨T6, X6, e6, st6⟩ := initO X0 hx hZ hown (hw _ (List.mem_of_getElem? (i := 171) rfl)) (hw _ (List.mem_of_getElem? (i := 33) rfl)) (hw _ (List.mem_of_getElem? (i := 34) rfl)) e0 (g := (mkF m 1 #[.val (.ref a1), .val (.ref a2), .val (.ref a3), .val (.ref a4), .val (.int p5)] [(.ref a1)])) rfl (by rw [hml]; rfl) rfl (hb hby d18_1) (by decide) (W := 0) (by show 2 * 0 + _ ≤ _; exact Nat.le_of_eq rfl) (by decide)
  obtain ⟨T7, h7, X7, e7, W7, st7⟩ := putF X6 hx hZ hown (host := "") (Or.inl (hw _ (List.mem_of_getElem? (i := 172) rfl))) Via.refl e6 F_optimum_a1 E_a1 (Or.inr ⟨(hw _ (List.mem_of_getElem? (i := 173) rfl)), rfl, hnm⟩) (hw _ (List.mem_of_getElem? (i := 166) rfl)) (ty := (.object "com/example/rematch/rematch/HindsightOptimum")) (by decide) rfl rfl (g := (mkF m 6 #[.val (.ref a1), .val (.ref a2), .val (.ref a3), .val (.ref a4), .val (.int p5)] [(.ref a2), (.ref a1)])) rfl rfl (hb hby d18_6)
  have Fw7 := F_optimum_a1.same W7      -- the field now holds (.ref a2)
  have K7 : Keep h0 h7 [a1] := (Keep.refl h0 [a1]).wr W7 (Or.inl (List.mem_of_getElem? (i := 0) rfl))
  have N7 := Fr.snoc X7 N0 g_a1
  obtain ⟨cq8, kq8, q8a, q8b, q8c⟩ := isOf hZ e7 (E_a2.wr W7)
  obtain ⟨_, _, ⟨T8, L8, k8, n8⟩, -, X8, ⟨Lc8, hQ8, l8, y8, z8⟩, st8⟩ := X7.virtualBack hx (y := (⟨"com/example/rematch/rematch/HindsightOptimum", "distances", "()Lcom/example/rematch/rematch/Distances;"⟩ : MethodName)) (z := (⟨"com/example/rematch/rematch/HindsightOptimum", "distances", "()Lcom/example/rematch/rematch/Distances;"⟩ : MethodName)) hown (mvT hZ (hw _ (List.mem_of_getElem? (i := 174) rfl))) (mvT hZ (hw _ (List.mem_of_getElem? (i := 175) rfl))) (notFace_of_selects (args := #[]) (mvT hZ (hw _ (List.mem_of_getElem? (i := 177) rfl)))) (mvT hZ (hw _ (List.mem_of_getElem? (i := 177) rfl))) (mvT hZ (hw _ (List.mem_of_getElem? (i := 176) rfl))) (by decide) (backOf (W := 1) (rm19 l Z a0 hw [] a2 dd h7 n0 (Nat.le_trans Z0 K7.1) (Fd.other W7 (Or.inl (ne_exa E_a2 E_a1 (by decide))))) hZ (hw _ (List.mem_of_getElem? (i := 178) rfl)) (hw _ (List.mem_of_getElem? (i := 10) rfl)) (by decide) (by decide)) q8a q8c (g := (mkF m 11 #[.val (.ref a1), .val (.ref a2), .val (.ref a3), .val (.ref a4), .val (.int p5)] [(.ref a2), (.ref a1)])) rfl (by rw [hml]; rfl) (Steps.refl _) (argsL := []) (rest := [(.ref a1)]) (lenOf pd_18_13 rfl) rfl (by show 2 * 0 + _ ≤ _; exact Nat.le_of_eq rfl) (hb hby d18_11) (fun _ _ => ⟨rfl, e7, (by decide : 0 + 0 ≤ _), (by decide : 0 + 0 ≤ _)⟩)
  dsimp only [Pt.U, Pt.locs, Pt.cells, Pt.slots] at X8 l8 y8 z8 st8 hQ8
  subst l8 y8 z8
  obtain ⟨rfl, N8q, e8⟩ := hQ8
  have N8 := Fr.app N7 N8q
  obtain ⟨T9, h9, X9, e9, W9, st9⟩ := putF X8 hx hZ hown (host := "") (Or.inl (hw _ (List.mem_of_getElem? (i := 179) rfl))) Via.refl e8 ((F_distances_a1.other W7 (Or.inr (slot_ne (Or.inr (hw _ (List.mem_of_getElem? (i := 180) rfl))) (Or.inr (hw _ (List.mem_of_getElem? (i := 173) rfl))) (by decide) (t := (.object "com/example/rematch/rematch/Distances")) (t' := (.object "com/example/rematch/rematch/HindsightOptimum")) (by decide) (by decide))))) ((E_a1.wr W7)) (Or.inr ⟨(hw _ (List.mem_of_getElem? (i := 180) rfl)), rfl, hnm⟩) (hw _ (List.mem_of_getElem? (i := 166) rfl)) (ty := (.object "com/example/rematch/rematch/Distances")) (by decide) rfl rfl (g := (mkF m 14 #[.val (.ref a1), .val (.ref a2), .val (.ref a3), .val (.ref a4), .val (.int p5)] [(.ref dd), (.ref a1)])) rfl rfl (hb hby d18_14)
  have Fw9 := ((F_distances_a1.other W7 (Or.inr (slot_ne (Or.inr (hw _ (List.mem_of_getElem? (i := 180) rfl))) (Or.inr (hw _ (List.mem_of_getElem? (i := 173) rfl))) (by decide) (t := (.object "com/example/rematch/rematch/Distances")) (t' := (.object "com/example/rematch/rematch/HindsightOptimum")) (by decide) (by decide))))).same W9      -- the field now holds (.ref dd)
  have K9 : Keep h0 h9 [a1] := K7.wr W9 (Or.inl (List.mem_of_getElem? (i := 0) rfl))
  have N9 := Fr.snoc X9 N8 g_a1
  obtain ⟨T10, h10, X10, e10, W10, st10⟩ := putF X9 hx hZ hown (host := "") (Or.inl (hw _ (List.mem_of_getElem? (i := 181) rfl))) Via.refl e9 (((F_serverOfClient_a1.other W7 (Or.inr (slot_ne (Or.inr (hw _ (List.mem_of_getElem? (i := 182) rfl))) (Or.inr (hw _ (List.mem_of_getElem? (i := 173) rfl))) (by decide) (t := (.array .int)) (t' := (.object "com/example/rematch/rematch/HindsightOptimum")) (by decide) (by decide))))).other W9 (Or.inr (slot_ne (Or.inr (hw _ (List.mem_of_getElem? (i := 182) rfl))) (Or.inr (hw _ (List.mem_of_getElem? (i := 180) rfl))) (by decide) (t := (.array .int)) (t' := (.object "com/example/rematch/rematch/Distances")) (by decide) (by decide)))) (((E_a1.wr W7)).wr W9) (Or.inr ⟨(hw _ (List.mem_of_getElem? (i := 182) rfl)), rfl, hnm⟩) (hw _ (List.mem_of_getElem? (i := 166) rfl)) (ty := (.array .int)) (by decide) rfl rfl (g := (mkF m 19 #[.val (.ref a1), .val (.ref a2), .val (.ref a3), .val (.ref a4), .val (.int p5)] [(.ref a3), (.ref a1)])) rfl rfl (hb hby d18_19)
  have Fw10 := (((F_serverOfClient_a1.other W7 (Or.inr (slot_ne (Or.inr (hw _ (List.mem_of_getElem? (i := 182) rfl))) (Or.inr (hw _ (List.mem_of_getElem? (i := 173) rfl))) (by decide) (t := (.array .int)) (t' := (.object "com/example/rematch/rematch/HindsightOptimum")) (by decide) (by decide))))).other W9 (Or.inr (slot_ne (Or.inr (hw _ (List.mem_of_getElem? (i := 182) rfl))) (Or.inr (hw _ (List.mem_of_getElem? (i := 180) rfl))) (by decide) (t := (.array .int)) (t' := (.object "com/example/rematch/rematch/Distances")) (by decide) (by decide)))).same W10      -- the field now holds (.ref a3)
  have K10 : Keep h0 h10 [a1] := K9.wr W10 (Or.inl (List.mem_of_getElem? (i := 0) rfl))
  have N10 := Fr.snoc X10 N9 g_a1
  obtain ⟨T11, h11, X11, e11, W11, st11⟩ := putF X10 hx hZ hown (host := "") (Or.inl (hw _ (List.mem_of_getElem? (i := 183) rfl))) Via.refl e10 ((((F_clientOfServer_a1.other W7 (Or.inr (slot_ne (Or.inr (hw _ (List.mem_of_getElem? (i := 184) rfl))) (Or.inr (hw _ (List.mem_of_getElem? (i := 173) rfl))) (by decide) (t := (.array .int)) (t' := (.object "com/example/rematch/rematch/HindsightOptimum")) (by decide) (by decide))))).other W9 (Or.inr (slot_ne (Or.inr (hw _ (List.mem_of_getElem? (i := 184) rfl))) (Or.inr (hw _ (List.mem_of_getElem? (i := 180) rfl))) (by decide) (t := (.array .int)) (t' := (.object "com/example/rematch/rematch/Distances")) (by decide) (by decide)))).other W10 (Or.inr (slot_ne (Or.inr (hw _ (List.mem_of_getElem? (i := 184) rfl))) (Or.inr (hw _ (List.mem_of_getElem? (i := 182) rfl))) (by decide) (t := (.array .int)) (t' := (.array .int)) (by decide) (by decide)))) ((((E_a1.wr W7)).wr W9).wr W10) (Or.inr ⟨(hw _ (List.mem_of_getElem? (i := 184) rfl)), rfl, hnm⟩) (hw _ (List.mem_of_getElem? (i := 166) rfl)) (ty := (.array .int)) (by decide) rfl rfl (g := (mkF m 24 #[.val (.ref a1), .val (.ref a2), .val (.ref a3), .val (.ref a4), .val (.int p5)] [(.ref a4), (.ref a1)])) rfl rfl (hb hby d18_24)
  have Fw11 := ((((F_clientOfServer_a1.other W7 (Or.inr (slot_ne (Or.inr (hw _ (List.mem_of_getElem? (i := 184) rfl))) (Or.inr (hw _ (List.mem_of_getElem? (i := 173) rfl))) (by decide) (t := (.array .int)) (t' := (.object "com/example/rematch/rematch/HindsightOptimum")) (by decide) (by decide))))).other W9 (Or.inr (slot_ne (Or.inr (hw _ (List.mem_of_getElem? (i := 184) rfl))) (Or.inr (hw _ (List.mem_of_getElem? (i := 180) rfl))) (by decide) (t := (.array .int)) (t' := (.object "com/example/rematch/rematch/Distances")) (by decide) (by decide)))).other W10 (Or.inr (slot_ne (Or.inr (hw _ (List.mem_of_getElem? (i := 184) rfl))) (Or.inr (hw _ (List.mem_of_getElem? (i := 182) rfl))) (by decide) (t := (.array .int)) (t' := (.array .int)) (by decide) (by decide)))).same W11      -- the field now holds (.ref a4)
  have K11 : Keep h0 h11 [a1] := K10.wr W11 (Or.inl (List.mem_of_getElem? (i := 0) rfl))
  have N11 := Fr.snoc X11 N10 g_a1
  obtain ⟨T12, h12, X12, e12, W12, st12⟩ := putF X11 hx hZ hown (host := "") (Or.inl (hw _ (List.mem_of_getElem? (i := 185) rfl))) Via.refl e11 (((((F_addedServer_a1.other W7 (Or.inr (slot_ne (Or.inr (hw _ (List.mem_of_getElem? (i := 186) rfl))) (Or.inr (hw _ (List.mem_of_getElem? (i := 173) rfl))) (by decide) (t := .int) (t' := (.object "com/example/rematch/rematch/HindsightOptimum")) (by decide) (by decide))))).other W9 (Or.inr (slot_ne (Or.inr (hw _ (List.mem_of_getElem? (i := 186) rfl))) (Or.inr (hw _ (List.mem_of_getElem? (i := 180) rfl))) (by decide) (t := .int) (t' := (.object "com/example/rematch/rematch/Distances")) (by decide) (by decide)))).other W10 (Or.inr (slot_ne (Or.inr (hw _ (List.mem_of_getElem? (i := 186) rfl))) (Or.inr (hw _ (List.mem_of_getElem? (i := 182) rfl))) (by decide) (t := .int) (t' := (.array .int)) (by decide) (by decide)))).other W11 (Or.inr (slot_ne (Or.inr (hw _ (List.mem_of_getElem? (i := 186) rfl))) (Or.inr (hw _ (List.mem_of_getElem? (i := 184) rfl))) (by decide) (t := .int) (t' := (.array .int)) (by decide) (by decide)))) (((((E_a1.wr W7)).wr W9).wr W10).wr W11) (Or.inr ⟨(hw _ (List.mem_of_getElem? (i := 186) rfl)), rfl, hnm⟩) (hw _ (List.mem_of_getElem? (i := 166) rfl)) (ty := .int) (by decide) rfl rfl (g := (mkF m 30 #[.val (.ref a1), .val (.ref a2), .val (.ref a3), .val (.ref a4), .val (.int p5)] [(.int p5), (.ref a1)])) rfl rfl (hb hby d18_30)
  have Fw12 := (((((F_addedServer_a1.other W7 (Or.inr (slot_ne (Or.inr (hw _ (List.mem_of_getElem? (i := 186) rfl))) (Or.inr (hw _ (List.mem_of_getElem? (i := 173) rfl))) (by decide) (t := .int) (t' := (.object "com/example/rematch/rematch/HindsightOptimum")) (by decide) (by decide))))).other W9 (Or.inr (slot_ne (Or.inr (hw _ (List.mem_of_getElem? (i := 186) rfl))) (Or.inr (hw _ (List.mem_of_getElem? (i := 180) rfl))) (by decide) (t := .int) (t' := (.object "com/example/rematch/rematch/Distances")) (by decide) (by decide)))).other W10 (Or.inr (slot_ne (Or.inr (hw _ (List.mem_of_getElem? (i := 186) rfl))) (Or.inr (hw _ (List.mem_of_getElem? (i := 182) rfl))) (by decide) (t := .int) (t' := (.array .int)) (by decide) (by decide)))).other W11 (Or.inr (slot_ne (Or.inr (hw _ (List.mem_of_getElem? (i := 186) rfl))) (Or.inr (hw _ (List.mem_of_getElem? (i := 184) rfl))) (by decide) (t := .int) (t' := (.array .int)) (by decide) (by decide)))).same W12      -- the field now holds (.int p5)
  have K12 : Keep h0 h12 [a1] := K11.wr W12 (Or.inl (List.mem_of_getElem? (i := 0) rfl))
  have N12 := Fr.snoc X12 N11 g_a1
  obtain ⟨fs, hr, hrun, hended, hW, hsame⟩ := X12.leave (v := none) (fun _ => rfl)
  refine ⟨_, _, pre0 _ ?_, hrun, hended, _, _, rfl, ?_, ⟨_, rfl⟩, hW, hsame.mono (by decide) (by decide)⟩
  · show Steps p.tables e below (s₁.setTop (mkF m 0 #[.val (.ref a1), .val (.ref a2), .val (.ref a3), .val (.ref a4), .val (.int p5)] [])) _
    refine XS.aloadN X0.here hx rfl (hb hby d18_0) rfl rfl ?_
    show Steps p.tables e below (s₁.setTop (mkF m 1 #[.val (.ref a1), .val (.ref a2), .val (.ref a3), .val (.ref a4), .val (.int p5)] [(.ref a1)])) _
    refine st6 _ ?_
    show Steps p.tables e below (T6.setTop (mkF m 4 #[.val (.ref a1), .val (.ref a2), .val (.ref a3), .val (.ref a4), .val (.int p5)] [])) _
    refine XS.aloadN X6.here hx rfl (hb hby d18_4) rfl rfl ?_
    show Steps p.tables e below (T6.setTop (mkF m 5 #[.val (.ref a1), .val (.ref a2), .val (.ref a3), .val (.ref a4), .val (.int p5)] [(.ref a1)])) _
    refine XS.aloadN X6.here hx rfl (hb hby d18_5) rfl rfl ?_
    show Steps p.tables e below (T6.setTop (mkF m 6 #[.val (.ref a1), .val (.ref a2), .val (.ref a3), .val (.ref a4), .val (.int p5)] [(.ref a2), (.ref a1)])) _
    refine st7 _ ?_
    show Steps p.tables e below (T7.setTop (mkF m 9 #[.val (.ref a1), .val (.ref a2), .val (.ref a3), .val (.ref a4), .val (.int p5)] [])) _
    refine XS.aloadN X7.here hx rfl (hb hby d18_9) rfl rfl ?_
    show Steps p.tables e below (T7.setTop (mkF m 10 #[.val (.ref a1), .val (.ref a2), .val (.ref a3), .val (.ref a4), .val (.int p5)] [(.ref a1)])) _
    refine XS.aloadN X7.here hx rfl (hb hby d18_10) rfl rfl ?_
    show Steps p.tables e below (T7.setTop (mkF m 11 #[.val (.ref a1), .val (.ref a2), .val (.ref a3), .val (.ref a4), .val (.int p5)] [(.ref a2), (.ref a1)])) _
    refine st8.trans ?_
    show Steps p.tables e below (T8.setTop (mkF m 14 #[.val (.ref a1), .val (.ref a2), .val (.ref a3), .val (.ref a4), .val (.int p5)] [(.ref dd), (.ref a1)])) _
    refine st9 _ ?_
    show Steps p.tables e below (T9.setTop (mkF m 17 #[.val (.ref a1), .val (.ref a2), .val (.ref a3), .val (.ref a4), .val (.int p5)] [])) _
    refine XS.aloadN X9.here hx rfl (hb hby d18_17) rfl rfl ?_
    show Steps p.tables e below (T9.setTop (mkF m 18 #[.val (.ref a1), .val (.ref a2), .val (.ref a3), .val (.ref a4), .val (.int p5)] [(.ref a1)])) _
    refine XS.aloadN X9.here hx rfl (hb hby d18_18) rfl rfl ?_
    show Steps p.tables e below (T9.setTop (mkF m 19 #[.val (.ref a1), .val (.ref a2), .val (.ref a3), .val (.ref a4), .val (.int p5)] [(.ref a3), (.ref a1)])) _
    refine st10 _ ?_
    show Steps p.tables e below (T10.setTop (mkF m 22 #[.val (.ref a1), .val (.ref a2), .val (.ref a3), .val (.ref a4), .val (.int p5)] [])) _
    refine XS.aloadN X10.here hx rfl (hb hby d18_22) rfl rfl ?_
    show Steps p.tables e below (T10.setTop (mkF m 23 #[.val (.ref a1), .val (.ref a2), .val (.ref a3), .val (.ref a4), .val (.int p5)] [(.ref a1)])) _
    refine XS.aloadN X10.here hx rfl (hb hby d18_23) rfl rfl ?_
    show Steps p.tables e below (T10.setTop (mkF m 24 #[.val (.ref a1), .val (.ref a2), .val (.ref a3), .val (.ref a4), .val (.int p5)] [(.ref a4), (.ref a1)])) _
    refine st11 _ ?_
    show Steps p.tables e below (T11.setTop (mkF m 27 #[.val (.ref a1), .val (.ref a2), .val (.ref a3), .val (.ref a4), .val (.int p5)] [])) _
    refine XS.aloadN X11.here hx rfl (hb hby d18_27) rfl rfl ?_
    show Steps p.tables e below (T11.setTop (mkF m 28 #[.val (.ref a1), .val (.ref a2), .val (.ref a3), .val (.ref a4), .val (.int p5)] [(.ref a1)])) _
    refine XS.iload X11.here hx rfl (hb hby d18_28) rfl ?_
    show Steps p.tables e below (T11.setTop (mkF m 30 #[.val (.ref a1), .val (.ref a2), .val (.ref a3), .val (.ref a4), .val (.int p5)] [(.int p5), (.ref a1)])) _
    refine st12 _ ?_
    show Steps p.tables e below (T12.setTop (mkF m 33 #[.val (.ref a1), .val (.ref a2), .val (.ref a3), .val (.ref a4), .val (.int p5)] [])) _
    exact X12.returnOut hx Bd.returns (hb hby d18_33) hr
  · show Qrm18 Z a1 a2 a3 a4 p5 u_optimum_a1 u_distances_a1 u_serverOfClient_a1 u_clientOfServer_a1 u_addedServer_a1 h0 n0 _ T12.heap _
    rw [e12]
    exact ⟨rfl, N12, K12, ((((E_a1.wr W7).wr W9).wr W10).wr W11).wr W12, Fw11.other W12 (Or.inr (slot_ne (Or.inr (hw _ (List.mem_of_getElem? (i := 184) rfl))) (Or.inr (hw _ (List.mem_of_getElem? (i := 186) rfl))) (by decide) (t := (.array .int)) (t' := .int) (by decide) (by decide)))⟩
theorem d20_0 : decode prog_1_method_6_code 0 = .ok (.aload_n 0, 1) := by decide +kernel
theorem d20_1 : decode prog_1_method_6_code 1 = .ok (.getfield 26, 3) := by decide +kernel
theorem d20_4 : decode prog_1_method_6_code 4 = .ok (.iload_n 1, 1) := by decide +kernel
theorem d20_5 : decode prog_1_method_6_code 5 = .ok (.iaload, 1) := by decide +kernel
theorem d20_6 : decode prog_1_method_6_code 6 = .ok (.iconst (-1), 1) := by decide +kernel
theorem d20_7 : decode prog_1_method_6_code 7 = .ok (.if_icmp .ne 7, 3) := by decide +kernel
theorem d20_10 : decode prog_1_method_6_code 10 = .ok (.iconst 1, 1) := by decide +kernel
theorem d20_11 : decode prog_1_method_6_code 11 = .ok (.goto 4, 3) := by decide +kernel
theorem d20_15 : decode prog_1_method_6_code 15 = .ok (.ireturn, 1) := by decide +kernel
theorem pn_20 : plainName "com/example/rematch/rematch/Arrival" = true := by first | (simp [plainName, overriddenIn]; done) | decide +kernel
theorem ef_20 (m : MethodId) (x0 : Addr) (x1 : Int32) : entryFrame m #[(.ref x0), (.int x1)] 2 = mkF m 0 #[.val (.ref x0), .val (.int x1)] [] := by first | (simp [entryFrame, mkF, argsToLocals, Value.category]; done) | rfl
def Qrm20 (Z : State) (a1 : Addr) (p2 : Int32) (w3 : Addr) (w5 : Int32) (cl_w3 : Cell) (h0 : Heap) (n0 : Nat) (v : Option Value) (h : Heap) (L : List Loc) : Prop := v = some (.int (own_free w5)) ∧ Fr n0 L ∧ h = h0
set_option maxRecDepth 65536 in
set_option maxHeartbeats 40000000 in
theorem rm20a (l : Launch) (Z : State) (a0 : Array Value) (hw : ∀ d ∈ tables_1, d.before a0 Z = true) (ws : List Jvm.Cond) (a1 : Addr) (p2 : Int32) (w3 : Addr) (w5 : Int32) (cl_w3 : Cell) (h0 : Heap) (n0 : Nat) (Z0 : n0 ≤ h0.size) (F_clientOfServer_a1 : Fld Z h0 a1 "com/example/rematch/rematch/Arrival" "clientOfServer" "[I" (.ref w3)) (Ar_w3 : Arr Z h0 w3 cl_w3 .int) (hin5 : ¬ (p2 < 0 ∨ cl_w3.slots.size ≤ (p2).toNatClampNeg)) (hat5 : cl_w3.slots[(p2).toNatClampNeg]? = some (.int w5)) (hc7 : w5 = (-1 : Int32)) :
    MetFree l (⟨"com/example/rematch/rematch/Arrival", "isFree", "(I)Z"⟩ : MethodName) (head1 (Jvm.Cond.code (⟨"com/example/rematch/rematch/Arrival", "isFree", "(I)Z"⟩ : MethodName) prog_1_method_6_code 2 (some .boolean) :: ws) ({ frames := 0, cells := 0, slots := 0, locals := 0 } : Room)) (fun a U => a = #[(.ref a1), (.int p2)] ∧ Z.Warmed39 U.vm ∧ U.heap = h0) (fun _ _ _ _ _ => True) (fun _ U o U' => ∃ v L, o = .returned v ∧ Qrm20 Z a1 p2 w3 w5 cl_w3 h0 n0 v U'.heap L ∧ FrameEnd U o U' L ({ frames := 0, cells := 0, slots := 0, locals := 0 } : Room).cells ({ frames := 0, cells := 0, slots := 0, locals := 0 } : Room).slots) := by
  refine MetFree.of_bodySF (plainFor_of_name pn_20) hisR ?_
  intro p e s m args below meth c s₁ Bd hml0 hP hK
  obtain ⟨rfl, hZ, hh⟩ := hP
  have hx := Bd.exec
  have hby := Bd.bytes
  have hml : c.maxLocals = 2 := hml0
  have hown : s.vm.findClass "com/example/rematch/rematch/Arrival" = some m.cls := findClass_of_methodNamed Bd.named
  have hnm := (name_of_methodNamed Bd.named Bd.method).1
  have X0 : Stand p l e ({ frames := 0, cells := 0, slots := 0, locals := 0 } : Room) s m #[(.ref a1), (.int p2)] below meth c s₁ [] 0 0 := Stand.of_body Bd
  have e0 : s₁.heap = h0 := by rw [← hh, Bd.state]; rfl
  have N0 := Fr.nil n0
  have pre0 : ∀ t, Steps p.tables e below (s₁.setTop (mkF m 0 #[.val (.ref a1), .val (.int p2)] [])) t → Steps p.tables e below (s₁.setTop (entryFrame m #[(.ref a1), (.int p2)] 2)) t := fun t k => castTop (ef_20 m a1 p2) k
  obtain ⟨T4, X4, e4, st4⟩ := getF X0 hx hZ hown (host := "") (Or.inl (hw _ (List.mem_of_getElem? (i := 183) rfl))) Via.refl e0 F_clientOfServer_a1 (g := (mkF m 1 #[.val (.ref a1), .val (.int p2)] [(.ref a1)])) rfl rfl (hb hby d20_1)
  obtain ⟨fs, hr, hrun, hended, hW, hsame⟩ := X4.leave (v := some (.int (1 : Int32))) (fun h => by rw [Bd.returns] at h; cases h)
  refine ⟨_, _, pre0 _ ?_, hrun, hended, _, _, rfl, ?_, ⟨_, rfl⟩, hW, hsame.mono (by decide) (by decide)⟩
  · show Steps p.tables e below (s₁.setTop (mkF m 0 #[.val (.ref a1), .val (.int p2)] [])) _
    refine XS.aloadN X0.here hx rfl (hb hby d20_0) rfl rfl ?_
    show Steps p.tables e below (s₁.setTop (mkF m 1 #[.val (.ref a1), .val (.int p2)] [(.ref a1)])) _
    refine st4 _ ?_
    show Steps p.tables e below (T4.setTop (mkF m 4 #[.val (.ref a1), .val (.int p2)] [(.ref w3)])) _
    refine XS.iloadN X4.here hx rfl (hb hby d20_4) rfl ?_
    show Steps p.tables e below (T4.setTop (mkF m 5 #[.val (.ref a1), .val (.int p2)] [(.int p2), (.ref w3)])) _
    refine X4.iaload hx (j := p2) (v := (.int w5)) (by rw [e4]; exact Ar_w3.1) (State.isArrayOf_alike hZ.alike Ar_w3.2.1) Ar_w3.2.2 hin5 hat5 (g := (mkF m 5 #[.val (.ref a1), .val (.int p2)] [(.int p2), (.ref w3)])) rfl rfl (hb hby d20_5) _ ?_
    show Steps p.tables e below (T4.setTop (mkF m 6 #[.val (.ref a1), .val (.int p2)] [(.int w5)])) _
    refine XS.iconst X4.here hx rfl (hb hby d20_6) ?_
    show Steps p.tables e below (T4.setTop (mkF m 7 #[.val (.ref a1), .val (.int p2)] [(.int (-1 : Int32)), (.int w5)])) _
    refine XS.icmpNo X4.here hx rfl (hb hby d20_7) rfl (teq hc7).2 ?_
    show Steps p.tables e below (T4.setTop (mkF m 10 #[.val (.ref a1), .val (.int p2)] [])) _
    refine XS.iconst X4.here hx rfl (hb hby d20_10) ?_
    show Steps p.tables e below (T4.setTop (mkF m 11 #[.val (.ref a1), .val (.int p2)] [(.int (1 : Int32))])) _
    refine XS.goto X4.here hx rfl (pc0 := 11) (pc' := 15) rfl (hb hby d20_11) (by decide) (by decide) ?_
    show Steps p.tables e below (T4.setTop (mkF m 15 #[.val (.ref a1), .val (.int p2)] [(.int (1 : Int32))])) _
    exact retN X4 hx (t := .boolean) Bd.returns (by simp) (hb hby d20_15) hr
  · show Qrm20 Z a1 p2 w3 w5 cl_w3 h0 n0 _ T4.heap _
    rw [e4]
    exact ⟨by rw [own_free, if_pos hc7], N0, rfl⟩
theorem d20_14 : decode prog_1_method_6_code 14 = .ok (.iconst 0, 1) := by decide +kernel
set_option maxRecDepth 65536 in
set_option maxHeartbeats 40000000 in
theorem rm20b (l : Launch) (Z : State) (a0 : Array Value) (hw : ∀ d ∈ tables_1, d.before a0 Z = true) (ws : List Jvm.Cond) (a1 : Addr) (p2 : Int32) (w3 : Addr) (w5 : Int32) (cl_w3 : Cell) (h0 : Heap) (n0 : Nat) (Z0 : n0 ≤ h0.size) (F_clientOfServer_a1 : Fld Z h0 a1 "com/example/rematch/rematch/Arrival" "clientOfServer" "[I" (.ref w3)) (Ar_w3 : Arr Z h0 w3 cl_w3 .int) (hin5 : ¬ (p2 < 0 ∨ cl_w3.slots.size ≤ (p2).toNatClampNeg)) (hat5 : cl_w3.slots[(p2).toNatClampNeg]? = some (.int w5)) (hc7 : ¬ (w5 = (-1 : Int32))) :
    MetFree l (⟨"com/example/rematch/rematch/Arrival", "isFree", "(I)Z"⟩ : MethodName) (head1 (Jvm.Cond.code (⟨"com/example/rematch/rematch/Arrival", "isFree", "(I)Z"⟩ : MethodName) prog_1_method_6_code 2 (some .boolean) :: ws) ({ frames := 0, cells := 0, slots := 0, locals := 0 } : Room)) (fun a U => a = #[(.ref a1), (.int p2)] ∧ Z.Warmed39 U.vm ∧ U.heap = h0) (fun _ _ _ _ _ => True) (fun _ U o U' => ∃ v L, o = .returned v ∧ Qrm20 Z a1 p2 w3 w5 cl_w3 h0 n0 v U'.heap L ∧ FrameEnd U o U' L ({ frames := 0, cells := 0, slots := 0, locals := 0 } : Room).cells ({ frames := 0, cells := 0, slots := 0, locals := 0 } : Room).slots) := by
  refine MetFree.of_bodySF (plainFor_of_name pn_20) hisR ?_
  intro p e s m args below meth c s₁ Bd hml0 hP hK
  obtain ⟨rfl, hZ, hh⟩ := hP
  have hx := Bd.exec
  have hby := Bd.bytes
  have hml : c.maxLocals = 2 := hml0
  have hown : s.vm.findClass "com/example/rematch/rematch/Arrival" = some m.cls := findClass_of_methodNamed Bd.named
  have hnm := (name_of_methodNamed Bd.named Bd.method).1
  have X0 : Stand p l e ({ frames := 0, cells := 0, slots := 0, locals := 0 } : Room) s m #[(.ref a1), (.int p2)] below meth c s₁ [] 0 0 := Stand.of_body Bd
  have e0 : s₁.heap = h0 := by rw [← hh, Bd.state]; rfl
  have N0 := Fr.nil n0
  have pre0 : ∀ t, Steps p.tables e below (s₁.setTop (mkF m 0 #[.val (.ref a1), .val (.int p2)] [])) t → Steps p.tables e below (s₁.setTop (entryFrame m #[(.ref a1), (.int p2)] 2)) t := fun t k => castTop (ef_20 m a1 p2) k
  obtain ⟨T4, X4, e4, st4⟩ := getF X0 hx hZ hown (host := "") (Or.inl (hw _ (List.mem_of_getElem? (i := 183) rfl))) Via.refl e0 F_clientOfServer_a1 (g := (mkF m 1 #[.val (.ref a1), .val (.int p2)] [(.ref a1)])) rfl rfl (hb hby d20_1)
  obtain ⟨fs, hr, hrun, hended, hW, hsame⟩ := X4.leave (v := some (.int (0 : Int32))) (fun h => by rw [Bd.returns] at h; cases h)
  refine ⟨_, _, pre0 _ ?_, hrun, hended, _, _, rfl, ?_, ⟨_, rfl⟩, hW, hsame.mono (by decide) (by decide)⟩
  · show Steps p.tables e below (s₁.setTop (mkF m 0 #[.val (.ref a1), .val (.int p2)] [])) _
    refine XS.aloadN X0.here hx rfl (hb hby d20_0) rfl rfl ?_
    show Steps p.tables e below (s₁.setTop (mkF m 1 #[.val (.ref a1), .val (.int p2)] [(.ref a1)])) _
    refine st4 _ ?_
    show Steps p.tables e below (T4.setTop (mkF m 4 #[.val (.ref a1), .val (.int p2)] [(.ref w3)])) _
    refine XS.iloadN X4.here hx rfl (hb hby d20_4) rfl ?_
    show Steps p.tables e below (T4.setTop (mkF m 5 #[.val (.ref a1), .val (.int p2)] [(.int p2), (.ref w3)])) _
    refine X4.iaload hx (j := p2) (v := (.int w5)) (by rw [e4]; exact Ar_w3.1) (State.isArrayOf_alike hZ.alike Ar_w3.2.1) Ar_w3.2.2 hin5 hat5 (g := (mkF m 5 #[.val (.ref a1), .val (.int p2)] [(.int p2), (.ref w3)])) rfl rfl (hb hby d20_5) _ ?_
    show Steps p.tables e below (T4.setTop (mkF m 6 #[.val (.ref a1), .val (.int p2)] [(.int w5)])) _
    refine XS.iconst X4.here hx rfl (hb hby d20_6) ?_
    show Steps p.tables e below (T4.setTop (mkF m 7 #[.val (.ref a1), .val (.int p2)] [(.int (-1 : Int32)), (.int w5)])) _
    refine XS.icmpYes X4.here hx rfl (pc0 := 7) (pc' := 14) rfl (hb hby d20_7) rfl (feq hc7).2 (by decide) (by decide) ?_
    show Steps p.tables e below (T4.setTop (mkF m 14 #[.val (.ref a1), .val (.int p2)] [])) _
    refine XS.iconst X4.here hx rfl (hb hby d20_14) ?_
    show Steps p.tables e below (T4.setTop (mkF m 15 #[.val (.ref a1), .val (.int p2)] [(.int (0 : Int32))])) _
    exact retN X4 hx (t := .boolean) Bd.returns (by simp) (hb hby d20_15) hr
  · show Qrm20 Z a1 p2 w3 w5 cl_w3 h0 n0 _ T4.heap _
    rw [e4]
    exact ⟨by rw [own_free, if_neg hc7], N0, rfl⟩
theorem rm20 (l : Launch) (Z : State) (a0 : Array Value) (hw : ∀ d ∈ tables_1, d.before a0 Z = true) (ws : List Jvm.Cond) (a1 : Addr) (p2 : Int32) (w3 : Addr) (w5 : Int32) (cl_w3 : Cell) (h0 : Heap) (n0 : Nat) (Z0 : n0 ≤ h0.size) (F_clientOfServer_a1 : Fld Z h0 a1 "com/example/rematch/rematch/Arrival" "clientOfServer" "[I" (.ref w3)) (Ar_w3 : Arr Z h0 w3 cl_w3 .int) (hin5 : ¬ (p2 < 0 ∨ cl_w3.slots.size ≤ (p2).toNatClampNeg)) (hat5 : cl_w3.slots[(p2).toNatClampNeg]? = some (.int w5)) :
    MetFree l (⟨"com/example/rematch/rematch/Arrival", "isFree", "(I)Z"⟩ : MethodName) (head1 (Jvm.Cond.code (⟨"com/example/rematch/rematch/Arrival", "isFree", "(I)Z"⟩ : MethodName) prog_1_method_6_code 2 (some .boolean) :: ws) ({ frames := 0, cells := 0, slots := 0, locals := 0 } : Room)) (fun a U => a = #[(.ref a1), (.int p2)] ∧ Z.Warmed39 U.vm ∧ U.heap = h0) (fun _ _ _ _ _ => True) (fun _ U o U' => ∃ v L, o = .returned v ∧ Qrm20 Z a1 p2 w3 w5 cl_w3 h0 n0 v U'.heap L ∧ FrameEnd U o U' L ({ frames := 0, cells := 0, slots := 0, locals := 0 } : Room).cells ({ frames := 0, cells := 0, slots := 0, locals := 0 } : Room).slots) := by
  by_cases hcase : w5 = (-1 : Int32)
  · exact rm20a l Z a0 hw ws a1 p2 w3 w5 cl_w3 h0 n0 Z0 F_clientOfServer_a1 Ar_w3 hin5 hat5 hcase
  · exact rm20b l Z a0 hw ws a1 p2 w3 w5 cl_w3 h0 n0 Z0 F_clientOfServer_a1 Ar_w3 hin5 hat5 hcase
theorem own_not152 {p : Program} {l : Launch} {e : Env} {R : Room} {s : State} {m : MethodId} {args : Array Value} {below : List Frame} {meth : Method} {c : Code} {T : State} {locs : List Loc} {cells slots : Nat} (X : Stand p l e R s m args below meth c T locs cells slots) (hx : p.tables.exec = Jvm.exec) (hby : c.code = code) {Ls : Array Slot} {v : Int32} {rest : List Value} {target : State} (hr : Steps p.tables e below (T.setTop (mkF m 160 Ls (.int (own_not v) :: rest))) target) : Steps p.tables e below (T.setTop (mkF m 152 Ls (.int v :: rest))) target := by
  by_cases hv : v = 0
  · rw [own_not, if_pos hv] at hr
    refine XS.ifNo X.here hx rfl (hb hby at_152) rfl ((if0 _ _).trans (teq hv).2) ?_
    show Steps p.tables e below (T.setTop (mkF m 155 Ls rest)) _
    refine XS.iconst X.here hx rfl (hb hby at_155) ?_
    show Steps p.tables e below (T.setTop (mkF m 156 Ls (.int (1 : Int32) :: rest))) _
    exact XS.goto X.here hx rfl (pc0 := 156) (pc' := 160) rfl (hb hby at_156) (by decide) (by decide) hr
  · rw [own_not, if_neg hv] at hr
    refine XS.ifYes X.here hx rfl (pc0 := 152) (pc' := 159) rfl (hb hby at_152) rfl ((if0 _ _).trans (feq hv).2) (by decide) (by decide) ?_
    show Steps p.tables e below (T.setTop (mkF m 159 Ls rest)) _
    exact XS.iconst X.here hx rfl (hb hby at_159) hr
theorem own_not170 {p : Program} {l : Launch} {e : Env} {R : Room} {s : State} {m : MethodId} {args : Array Value} {below : List Frame} {meth : Method} {c : Code} {T : State} {locs : List Loc} {cells slots : Nat} (X : Stand p l e R s m args below meth c T locs cells slots) (hx : p.tables.exec = Jvm.exec) (hby : c.code = code) {Ls : Array Slot} {v : Int32} {rest : List Value} {target : State} (hr : Steps p.tables e below (T.setTop (mkF m 178 Ls (.int (own_not v) :: rest))) target) : Steps p.tables e below (T.setTop (mkF m 170 Ls (.int v :: rest))) target := by
  by_cases hv : v = 0
  · rw [own_not, if_pos hv] at hr
    refine XS.ifNo X.here hx rfl (hb hby at_170) rfl ((if0 _ _).trans (teq hv).2) ?_
    show Steps p.tables e below (T.setTop (mkF m 173 Ls rest)) _
    refine XS.iconst X.here hx rfl (hb hby at_173) ?_
    show Steps p.tables e below (T.setTop (mkF m 174 Ls (.int (1 : Int32) :: rest))) _
    exact XS.goto X.here hx rfl (pc0 := 174) (pc' := 178) rfl (hb hby at_174) (by decide) (by decide) hr
  · rw [own_not, if_neg hv] at hr
    refine XS.ifYes X.here hx rfl (pc0 := 170) (pc' := 177) rfl (hb hby at_170) rfl ((if0 _ _).trans (feq hv).2) (by decide) (by decide) ?_
    show Steps p.tables e below (T.setTop (mkF m 177 Ls rest)) _
    exact XS.iconst X.here hx rfl (hb hby at_177) hr
theorem own_not188 {p : Program} {l : Launch} {e : Env} {R : Room} {s : State} {m : MethodId} {args : Array Value} {below : List Frame} {meth : Method} {c : Code} {T : State} {locs : List Loc} {cells slots : Nat} (X : Stand p l e R s m args below meth c T locs cells slots) (hx : p.tables.exec = Jvm.exec) (hby : c.code = code) {Ls : Array Slot} {v : Int32} {rest : List Value} {target : State} (hr : Steps p.tables e below (T.setTop (mkF m 196 Ls (.int (own_not v) :: rest))) target) : Steps p.tables e below (T.setTop (mkF m 188 Ls (.int v :: rest))) target := by
  by_cases hv : v = 0
  · rw [own_not, if_pos hv] at hr
    refine XS.ifNo X.here hx rfl (hb hby at_188) rfl ((if0 _ _).trans (teq hv).2) ?_
    show Steps p.tables e below (T.setTop (mkF m 191 Ls rest)) _
    refine XS.iconst X.here hx rfl (hb hby at_191) ?_
    show Steps p.tables e below (T.setTop (mkF m 192 Ls (.int (1 : Int32) :: rest))) _
    exact XS.goto X.here hx rfl (pc0 := 192) (pc' := 196) rfl (hb hby at_192) (by decide) (by decide) hr
  · rw [own_not, if_neg hv] at hr
    refine XS.ifYes X.here hx rfl (pc0 := 188) (pc' := 195) rfl (hb hby at_188) rfl ((if0 _ _).trans (feq hv).2) (by decide) (by decide) ?_
    show Steps p.tables e below (T.setTop (mkF m 195 Ls rest)) _
    exact XS.iconst X.here hx rfl (hb hby at_195) hr
theorem own_not206 {p : Program} {l : Launch} {e : Env} {R : Room} {s : State} {m : MethodId} {args : Array Value} {below : List Frame} {meth : Method} {c : Code} {T : State} {locs : List Loc} {cells slots : Nat} (X : Stand p l e R s m args below meth c T locs cells slots) (hx : p.tables.exec = Jvm.exec) (hby : c.code = code) {Ls : Array Slot} {v : Int32} {rest : List Value} {target : State} (hr : Steps p.tables e below (T.setTop (mkF m 214 Ls (.int (own_not v) :: rest))) target) : Steps p.tables e below (T.setTop (mkF m 206 Ls (.int v :: rest))) target := by
  by_cases hv : v = 0
  · rw [own_not, if_pos hv] at hr
    refine XS.ifNo X.here hx rfl (hb hby at_206) rfl ((if0 _ _).trans (teq hv).2) ?_
    show Steps p.tables e below (T.setTop (mkF m 209 Ls rest)) _
    refine XS.iconst X.here hx rfl (hb hby at_209) ?_
    show Steps p.tables e below (T.setTop (mkF m 210 Ls (.int (1 : Int32) :: rest))) _
    exact XS.goto X.here hx rfl (pc0 := 210) (pc' := 214) rfl (hb hby at_210) (by decide) (by decide) hr
  · rw [own_not, if_neg hv] at hr
    refine XS.ifYes X.here hx rfl (pc0 := 206) (pc' := 213) rfl (hb hby at_206) rfl ((if0 _ _).trans (feq hv).2) (by decide) (by decide) ?_
    show Steps p.tables e below (T.setTop (mkF m 213 Ls rest)) _
    exact XS.iconst X.here hx rfl (hb hby at_213) hr
theorem pn_0 : plainName "com/example/rematch/rematch/ArrivalIsFreePinLaw" = true := by first | (simp [plainName, overriddenIn]; done) | decide +kernel
theorem pd_0_0 : parseMethodDescriptor "(III)I" = some ⟨[.int, .int, .int], some .int⟩ := by decide +kernel
theorem pd_0_2 : parseMethodDescriptor "()V" = some ⟨[], none⟩ := by decide +kernel
theorem pd_0_3 : parseMethodDescriptor "(Lcom/example/rematch/rematch/Metric;Ljava/util/List;)V" = some ⟨[(.object "com/example/rematch/rematch/Metric"), (.object "java/util/List")], none⟩ := by decide +kernel
theorem pd_0_12 : parseMethodDescriptor "(Lcom/example/rematch/rematch/HindsightOptimum;[I[II)V" = some ⟨[(.object "com/example/rematch/rematch/HindsightOptimum"), (.array .int), (.array .int), .int], none⟩ := by decide +kernel
theorem pd_0_14 : parseMethodDescriptor "(I)Z" = some ⟨[.int], some .boolean⟩ := by decide +kernel
theorem pd_0_1 : parseMethodDescriptor "(II)Z" = some ⟨[.int, .int], some .boolean⟩ := by decide +kernel
theorem ef_0 (m : MethodId) (x0 : Int32) (x1 : Int32) (x2 : Int32) (x3 : Int32) (x4 : Int32) (x5 : Int32) : entryFrame m #[(.int x0), (.int x1), (.int x2), (.int x3), (.int x4), (.int x5)] maxLocals = mkF m 0 #[.val (.int x0), .val (.int x1), .val (.int x2), .val (.int x3), .val (.int x4), .val (.int x5), .unset, .unset, .unset, .unset, .unset, .unset, .unset, .unset, .unset, .unset, .unset, .unset, .unset, .unset] [] := by first | (simp [entryFrame, mkF, argsToLocals, Value.category, maxLocals]; done) | rfl
def Qrm0 (Z : State) (p1 : Int32) (p2 : Int32) (p3 : Int32) (p4 : Int32) (p5 : Int32) (p6 : Int32) (w22 : Addr) (h0 : Heap) (n0 : Nat) (v : Option Value) (h : Heap) (L : List Loc) : Prop := v = some (.int (1 : Int32)) ∧ Fr n0 L
set_option maxRecDepth 65536 in
set_option maxHeartbeats 40000000 in
theorem rm0 (l : Launch) (Z : State) (a0 : Array Value) (hw : ∀ d ∈ tables_1, d.before a0 Z = true) (ws : List Jvm.Cond) (p1 : Int32) (p2 : Int32) (p3 : Int32) (p4 : Int32) (p5 : Int32) (p6 : Int32) (w22 : Addr) (h0 : Heap) (n0 : Nat) (Z0 : n0 ≤ h0.size) (wD : Addr) (SD : Sta Z h0 "java/util/ArrayList" "DEFAULTCAPACITY_EMPTY_ELEMENTDATA" "[Ljava/lang/Object;" (.ref wD)) (EM : Exa Z h0 w22 "com/example/rematch/rematch/Metric$1") (wA : Addr) (clA : Cell) (FA : Fld Z h0 w22 "com/example/rematch/rematch/Metric" "axes" "[Lcom/example/rematch/rematch/Metric$Axis;" (.ref wA)) (ArA : Arr Z h0 wA clA (.object "com/example/rematch/rematch/Metric$Axis")) (SA : clA.slots.size = (1 : Int32).toNatClampNeg) (S_LINE : Sta Z h0 "com/example/rematch/rematch/Metric" "LINE" "Lcom/example/rematch/rematch/Metric;" (.ref w22)) (hc269 : ¬ ((1 : Int32) = (0 : Int32))) (hc274 : ¬ ((1 : Int32) = (0 : Int32))) :
    MetFree l x (head1 (Jvm.Cond.code x code maxLocals ret :: ws) room_1) (fun a U => a = #[(.int p1), (.int p2), (.int p3), (.int p4), (.int p5), (.int p6)] ∧ Z.Warmed39 U.vm ∧ U.heap = h0) (fun _ _ _ _ _ => True) (fun _ U o U' => ∃ v L, o = .returned v ∧ Qrm0 Z p1 p2 p3 p4 p5 p6 w22 h0 n0 v U'.heap L ∧ FrameEnd U o U' L room_1.cells room_1.slots) := by
  refine MetFree.of_bodySF (plainFor_of_name pn_0) hisR ?_
  intro p e s m args below meth c s₁ Bd hml0 hP hK
  obtain ⟨rfl, hZ, hh⟩ := hP
  have hx := Bd.exec
  have hby := Bd.bytes
  have hml : c.maxLocals = 20 := hml0
  have hown : s.vm.findClass "com/example/rematch/rematch/ArrivalIsFreePinLaw" = some m.cls := findClass_of_methodNamed Bd.named
  have hnm := (name_of_methodNamed Bd.named Bd.method).1
  have X0 : Stand p l e room_1 s m #[(.int p1), (.int p2), (.int p3), (.int p4), (.int p5), (.int p6)] below meth c s₁ [] 0 0 := Stand.of_body Bd
  have e0 : s₁.heap = h0 := by rw [← hh, Bd.state]; rfl
  have N0 := Fr.nil n0
  have pre0 : ∀ t, Steps p.tables e below (s₁.setTop (mkF m 0 #[.val (.int p1), .val (.int p2), .val (.int p3), .val (.int p4), .val (.int p5), .val (.int p6), .unset, .unset, .unset, .unset, .unset, .unset, .unset, .unset, .unset, .unset, .unset, .unset, .unset, .unset] [])) t → Steps p.tables e below (s₁.setTop (entryFrame m #[(.int p1), (.int p2), (.int p3), (.int p4), (.int p5), (.int p6)] maxLocals)) t := fun t k => castTop (ef_0 m p1 p2 p3 p4 p5 p6) k
  obtain ⟨T7, h7, k7, X7, e7, E7, A7, st7⟩ := newP X0 hx hZ (hw _ (List.mem_of_getElem? (i := 0) rfl)) e0 (g := (mkF m 1 #[.val (.int p1), .val (.int p2), .val (.int p3), .val (.int p4), .val (.int p5), .val (.int p6), .unset, .unset, .unset, .unset, .unset, .unset, .unset, .unset, .unset, .unset, .unset, .unset, .unset, .unset] [(.int (4 : Int32))])) rfl (hb hby at_1) rfl (by decide) (cap := 4) (by decide) (by decide) (by decide) (by decide)
  obtain ⟨b7, g7⟩ : ∃ z, z = h0.size := ⟨_, rfl⟩      -- the fresh array's address
  rw [← g7] at A7 st7
  have V_b7 : Arv Z h7 b7 k7 .int (4 : Int32) [(.int (0 : Int32)), (.int (0 : Int32)), (.int (0 : Int32)), (.int (0 : Int32))] (.int (0 : Int32)) := (Arv.new A7 (by decide)).pad (pad_rep [] (.int (0 : Int32)) 4)
  have g_b7 : n0 ≤ b7 := Nat.le_trans Z0 (Nat.le_of_eq g7.symm)
  have sz_b7 : h0.size ≤ b7 := (Nat.le_trans (Keep.refl h0 []).1 (Nat.le_of_eq g7.symm))
  have K7 : Keep h0 h7 [] := (Keep.refl h0 []).ext E7
  obtain ⟨_, _, ⟨T8, L8, k8, n8⟩, -, X8, ⟨Lc8, hQ8, l8, y8, z8⟩, st8⟩ := Jvm.LawKit.callS X7 hx (y := (⟨"com/example/rematch/rematch/ArrivalIsFreePinLaw", "entry", "(III)I"⟩ : MethodName)) hown (mvT hZ (hw _ (List.mem_of_getElem? (i := 1) rfl))) (mvT hZ (hw _ (List.mem_of_getElem? (i := 2) rfl))) (mvT hZ (hw _ (List.mem_of_getElem? (i := 3) rfl))) (mvT hZ (hw _ (List.mem_of_getElem? (i := 4) rfl))) (by decide) (backOf (W := 2) (rm1 l Z a0 hw [] p1 (0 : Int32) p2 h7 n0 (Nat.le_trans Z0 K7.1)) hZ (hw _ (List.mem_of_getElem? (i := 4) rfl)) (hw _ (List.mem_of_getElem? (i := 3) rfl)) (by decide) (by decide)) (g := (mkF m 11 #[.val (.int p1), .val (.int p2), .val (.int p3), .val (.int p4), .val (.int p5), .val (.int p6), .val (.ref b7), .unset, .unset, .unset, .unset, .unset, .unset, .unset, .unset, .unset, .unset, .unset, .unset, .unset] [(.int p2), (.int (0 : Int32)), (.int p1), (.int (0 : Int32)), (.ref b7)])) rfl (by rw [hml]; rfl) (argsL := [(.int p1), (.int (0 : Int32)), (.int p2)]) (rest := [(.int (0 : Int32)), (.ref b7)]) (lenOf pd_0_0 rfl) rfl (by show 2 * 0 + _ ≤ _; exact Nat.le_of_eq rfl) (hb hby at_11) (fun _ _ => ⟨rfl, e7, (by decide : 1 + 0 ≤ _), (by decide : 4 + 0 ≤ _)⟩)
  dsimp only [Pt.U, Pt.locs, Pt.cells, Pt.slots] at X8 l8 y8 z8 st8 hQ8
  subst l8 y8 z8
  obtain ⟨rfl, N8q, e8⟩ := hQ8
  have N8 := Fr.app N0 N8q
  obtain ⟨cl_b7_14, Ar_b7, q_b7, S_b7, N_b7, H_b7, G_b7⟩ := V_b7      -- open the array's fact as it stands now (its cell, kind, length, elements)
  have hin14 : ¬ ((0 : Int32) < 0 ∨ cl_b7_14.slots.size ≤ ((0 : Int32)).toNatClampNeg) := inb_of S_b7 ⟨by decide, by decide⟩
  obtain ⟨T9, h9, X9, e9, W9, st9⟩ := stI X8 hx hZ e8 Ar_b7 (j := (0 : Int32)) hin14 (g := (mkF m 14 #[.val (.int p1), .val (.int p2), .val (.int p3), .val (.int p4), .val (.int p5), .val (.int p6), .val (.ref b7), .unset, .unset, .unset, .unset, .unset, .unset, .unset, .unset, .unset, .unset, .unset, .unset, .unset] [(.int (own_entry p1 (0 : Int32) p2)), (.int (0 : Int32)), (.ref b7)])) rfl rfl (hb hby at_14)
  have V_b7_9 := Arv.set Ar_b7 q_b7 S_b7 N_b7 H_b7 G_b7 rfl W9 0 rfl (Nat.le_of_ble_eq_true rfl)      -- the array as it stands now (the place must lie among its first values: Arv.pad with pad_rep lengthens them)
  have K9 : Keep h0 h9 [] := K7.wr W9 (Or.inr sz_b7)
  have N9 := Fr.snoc X9 N8 g_b7
  obtain ⟨_, _, ⟨T10, L10, k10, n10⟩, -, X10, ⟨Lc10, hQ10, l10, y10, z10⟩, st10⟩ := Jvm.LawKit.callS X9 hx (y := (⟨"com/example/rematch/rematch/ArrivalIsFreePinLaw", "entry", "(III)I"⟩ : MethodName)) hown (mvT hZ (hw _ (List.mem_of_getElem? (i := 1) rfl))) (mvT hZ (hw _ (List.mem_of_getElem? (i := 2) rfl))) (mvT hZ (hw _ (List.mem_of_getElem? (i := 3) rfl))) (mvT hZ (hw _ (List.mem_of_getElem? (i := 4) rfl))) (by decide) (backOf (W := 2) (rm1 l Z a0 hw [] p1 (1 : Int32) p3 h9 n0 (Nat.le_trans Z0 K9.1)) hZ (hw _ (List.mem_of_getElem? (i := 4) rfl)) (hw _ (List.mem_of_getElem? (i := 3) rfl)) (by decide) (by decide)) (g := (mkF m 21 #[.val (.int p1), .val (.int p2), .val (.int p3), .val (.int p4), .val (.int p5), .val (.int p6), .val (.ref b7), .unset, .unset, .unset, .unset, .unset, .unset, .unset, .unset, .unset, .unset, .unset, .unset, .unset] [(.int p3), (.int (1 : Int32)), (.int p1), (.int (1 : Int32)), (.ref b7)])) rfl (by rw [hml]; rfl) (argsL := [(.int p1), (.int (1 : Int32)), (.int p3)]) (rest := [(.int (1 : Int32)), (.ref b7)]) (lenOf pd_0_0 rfl) rfl (by show 2 * 0 + _ ≤ _; exact Nat.le_of_eq rfl) (hb hby at_21) (fun _ _ => ⟨rfl, e9, (by decide : 1 + 0 ≤ _), (by decide : 4 + 0 ≤ _)⟩)
  dsimp only [Pt.U, Pt.locs, Pt.cells, Pt.slots] at X10 l10 y10 z10 st10 hQ10
  subst l10 y10 z10
  obtain ⟨rfl, N10q, e10⟩ := hQ10
  have N10 := Fr.app N9 N10q
  obtain ⟨cl_b7_24, Ar_b7, q_b7, S_b7, N_b7, H_b7, G_b7⟩ := V_b7_9      -- open the array's fact as it stands now (its cell, kind, length, elements)
  have hin24 : ¬ ((1 : Int32) < 0 ∨ cl_b7_24.slots.size ≤ ((1 : Int32)).toNatClampNeg) := inb_of S_b7 ⟨by decide, by decide⟩
  obtain ⟨T11, h11, X11, e11, W11, st11⟩ := stI X10 hx hZ e10 Ar_b7 (j := (1 : Int32)) hin24 (g := (mkF m 24 #[.val (.int p1), .val (.int p2), .val (.int p3), .val (.int p4), .val (.int p5), .val (.int p6), .val (.ref b7), .unset, .unset, .unset, .unset, .unset, .unset, .unset, .unset, .unset, .unset, .unset, .unset, .unset] [(.int (own_entry p1 (1 : Int32) p3)), (.int (1 : Int32)), (.ref b7)])) rfl rfl (hb hby at_24)
  have V_b7_11 := Arv.set Ar_b7 q_b7 S_b7 N_b7 H_b7 G_b7 rfl W11 1 rfl (Nat.le_of_ble_eq_true rfl)      -- the array as it stands now (the place must lie among its first values: Arv.pad with pad_rep lengthens them)
  have K11 : Keep h0 h11 [] := K9.wr W11 (Or.inr sz_b7)
  have N11 := Fr.snoc X11 N10 g_b7
  obtain ⟨_, _, ⟨T12, L12, k12, n12⟩, -, X12, ⟨Lc12, hQ12, l12, y12, z12⟩, st12⟩ := Jvm.LawKit.callS X11 hx (y := (⟨"com/example/rematch/rematch/ArrivalIsFreePinLaw", "entry", "(III)I"⟩ : MethodName)) hown (mvT hZ (hw _ (List.mem_of_getElem? (i := 1) rfl))) (mvT hZ (hw _ (List.mem_of_getElem? (i := 2) rfl))) (mvT hZ (hw _ (List.mem_of_getElem? (i := 3) rfl))) (mvT hZ (hw _ (List.mem_of_getElem? (i := 4) rfl))) (by decide) (backOf (W := 2) (rm1 l Z a0 hw [] p1 (2 : Int32) p4 h11 n0 (Nat.le_trans Z0 K11.1)) hZ (hw _ (List.mem_of_getElem? (i := 4) rfl)) (hw _ (List.mem_of_getElem? (i := 3) rfl)) (by decide) (by decide)) (g := (mkF m 31 #[.val (.int p1), .val (.int p2), .val (.int p3), .val (.int p4), .val (.int p5), .val (.int p6), .val (.ref b7), .unset, .unset, .unset, .unset, .unset, .unset, .unset, .unset, .unset, .unset, .unset, .unset, .unset] [(.int p4), (.int (2 : Int32)), (.int p1), (.int (2 : Int32)), (.ref b7)])) rfl (by rw [hml]; rfl) (argsL := [(.int p1), (.int (2 : Int32)), (.int p4)]) (rest := [(.int (2 : Int32)), (.ref b7)]) (lenOf pd_0_0 rfl) rfl (by show 2 * 0 + _ ≤ _; exact Nat.le_of_eq rfl) (hb hby at_31) (fun _ _ => ⟨rfl, e11, (by decide : 1 + 0 ≤ _), (by decide : 4 + 0 ≤ _)⟩)
  dsimp only [Pt.U, Pt.locs, Pt.cells, Pt.slots] at X12 l12 y12 z12 st12 hQ12
  subst l12 y12 z12
  obtain ⟨rfl, N12q, e12⟩ := hQ12
  have N12 := Fr.app N11 N12q
  obtain ⟨cl_b7_34, Ar_b7, q_b7, S_b7, N_b7, H_b7, G_b7⟩ := V_b7_11      -- open the array's fact as it stands now (its cell, kind, length, elements)
  have hin34 : ¬ ((2 : Int32) < 0 ∨ cl_b7_34.slots.size ≤ ((2 : Int32)).toNatClampNeg) := inb_of S_b7 ⟨by decide, by decide⟩
  obtain ⟨T13, h13, X13, e13, W13, st13⟩ := stI X12 hx hZ e12 Ar_b7 (j := (2 : Int32)) hin34 (g := (mkF m 34 #[.val (.int p1), .val (.int p2), .val (.int p3), .val (.int p4), .val (.int p5), .val (.int p6), .val (.ref b7), .unset, .unset, .unset, .unset, .unset, .unset, .unset, .unset, .unset, .unset, .unset, .unset, .unset] [(.int (own_entry p1 (2 : Int32) p4)), (.int (2 : Int32)), (.ref b7)])) rfl rfl (hb hby at_34)
  have V_b7_13 := Arv.set Ar_b7 q_b7 S_b7 N_b7 H_b7 G_b7 rfl W13 2 rfl (Nat.le_of_ble_eq_true rfl)      -- the array as it stands now (the place must lie among its first values: Arv.pad with pad_rep lengthens them)
  have K13 : Keep h0 h13 [] := K11.wr W13 (Or.inr sz_b7)
  have N13 := Fr.snoc X13 N12 g_b7
  obtain ⟨_, _, ⟨T14, L14, k14, n14⟩, -, X14, ⟨Lc14, hQ14, l14, y14, z14⟩, st14⟩ := Jvm.LawKit.callS X13 hx (y := (⟨"com/example/rematch/rematch/ArrivalIsFreePinLaw", "entry", "(III)I"⟩ : MethodName)) hown (mvT hZ (hw _ (List.mem_of_getElem? (i := 1) rfl))) (mvT hZ (hw _ (List.mem_of_getElem? (i := 2) rfl))) (mvT hZ (hw _ (List.mem_of_getElem? (i := 3) rfl))) (mvT hZ (hw _ (List.mem_of_getElem? (i := 4) rfl))) (by decide) (backOf (W := 2) (rm1 l Z a0 hw [] p1 (3 : Int32) p5 h13 n0 (Nat.le_trans Z0 K13.1)) hZ (hw _ (List.mem_of_getElem? (i := 4) rfl)) (hw _ (List.mem_of_getElem? (i := 3) rfl)) (by decide) (by decide)) (g := (mkF m 42 #[.val (.int p1), .val (.int p2), .val (.int p3), .val (.int p4), .val (.int p5), .val (.int p6), .val (.ref b7), .unset, .unset, .unset, .unset, .unset, .unset, .unset, .unset, .unset, .unset, .unset, .unset, .unset] [(.int p5), (.int (3 : Int32)), (.int p1), (.int (3 : Int32)), (.ref b7)])) rfl (by rw [hml]; rfl) (argsL := [(.int p1), (.int (3 : Int32)), (.int p5)]) (rest := [(.int (3 : Int32)), (.ref b7)]) (lenOf pd_0_0 rfl) rfl (by show 2 * 0 + _ ≤ _; exact Nat.le_of_eq rfl) (hb hby at_42) (fun _ _ => ⟨rfl, e13, (by decide : 1 + 0 ≤ _), (by decide : 4 + 0 ≤ _)⟩)
  dsimp only [Pt.U, Pt.locs, Pt.cells, Pt.slots] at X14 l14 y14 z14 st14 hQ14
  subst l14 y14 z14
  obtain ⟨rfl, N14q, e14⟩ := hQ14
  have N14 := Fr.app N13 N14q
  obtain ⟨cl_b7_45, Ar_b7, q_b7, S_b7, N_b7, H_b7, G_b7⟩ := V_b7_13      -- open the array's fact as it stands now (its cell, kind, length, elements)
  have hin45 : ¬ ((3 : Int32) < 0 ∨ cl_b7_45.slots.size ≤ ((3 : Int32)).toNatClampNeg) := inb_of S_b7 ⟨by decide, by decide⟩
  obtain ⟨T15, h15, X15, e15, W15, st15⟩ := stI X14 hx hZ e14 Ar_b7 (j := (3 : Int32)) hin45 (g := (mkF m 45 #[.val (.int p1), .val (.int p2), .val (.int p3), .val (.int p4), .val (.int p5), .val (.int p6), .val (.ref b7), .unset, .unset, .unset, .unset, .unset, .unset, .unset, .unset, .unset, .unset, .unset, .unset, .unset] [(.int (own_entry p1 (3 : Int32) p5)), (.int (3 : Int32)), (.ref b7)])) rfl rfl (hb hby at_45)
  have V_b7_15 := Arv.set Ar_b7 q_b7 S_b7 N_b7 H_b7 G_b7 rfl W15 3 rfl (Nat.le_of_ble_eq_true rfl)      -- the array as it stands now (the place must lie among its first values: Arv.pad with pad_rep lengthens them)
  obtain ⟨clS, ArS, qS, SS, NNS, HS, GS⟩ := V_b7_15
  have hin49 : ¬ ((0 : Int32) < 0 ∨ clS.slots.size ≤ ((0 : Int32)).toNatClampNeg) := inb_of SS ⟨by decide, by decide⟩
  have hat49 : clS.slots[((0 : Int32)).toNatClampNeg]? = some (.int (own_entry p1 (0 : Int32) p2)) := HS.at hin49 rfl
  have hin55 : ¬ ((1 : Int32) < 0 ∨ clS.slots.size ≤ ((1 : Int32)).toNatClampNeg) := inb_of SS ⟨by decide, by decide⟩
  have hat55 : clS.slots[((1 : Int32)).toNatClampNeg]? = some (.int (own_entry p1 (1 : Int32) p3)) := HS.at hin55 rfl
  have hin61 : ¬ ((2 : Int32) < 0 ∨ clS.slots.size ≤ ((2 : Int32)).toNatClampNeg) := inb_of SS ⟨by decide, by decide⟩
  have hat61 : clS.slots[((2 : Int32)).toNatClampNeg]? = some (.int (own_entry p1 (2 : Int32) p4)) := HS.at hin61 rfl
  have hin67 : ¬ ((3 : Int32) < 0 ∨ clS.slots.size ≤ ((3 : Int32)).toNatClampNeg) := inb_of SS ⟨by decide, by decide⟩
  have hat67 : clS.slots[((3 : Int32)).toNatClampNeg]? = some (.int (own_entry p1 (3 : Int32) p5)) := HS.at hin67 rfl
  have K15 : Keep h0 h15 [] := K13.wr W15 (Or.inr sz_b7)
  have N15 := Fr.snoc X15 N14 g_b7
  obtain ⟨T20, h20, k20, X20, e20, E20, A20, st20⟩ := newP X15 hx hZ (hw _ (List.mem_of_getElem? (i := 0) rfl)) e15 (g := (mkF m 71 #[.val (.int p1), .val (.int p2), .val (.int p3), .val (.int p4), .val (.int p5), .val (.int p6), .val (.ref b7), .val (.int (own_entry p1 (0 : Int32) p2)), .val (.int (own_entry p1 (1 : Int32) p3)), .val (.int (own_entry p1 (2 : Int32) p4)), .val (.int (own_entry p1 (3 : Int32) p5)), .unset, .unset, .unset, .unset, .unset, .unset, .unset, .unset, .unset] [(.int (4 : Int32))])) rfl (hb hby at_71) rfl (by decide) (cap := 4) (by decide) (by decide) (by decide) (by decide)
  obtain ⟨b20, g20⟩ : ∃ z, z = h15.size := ⟨_, rfl⟩      -- the fresh array's address
  rw [← g20] at A20 st20
  have V_b20 : Arv Z h20 b20 k20 .int (4 : Int32) [(.int (0 : Int32)), (.int (0 : Int32)), (.int (0 : Int32)), (.int (0 : Int32))] (.int (0 : Int32)) := (Arv.new A20 (by decide)).pad (pad_rep [] (.int (0 : Int32)) 4)
  have g_b20 : n0 ≤ b20 := Nat.le_trans (Nat.le_trans (Nat.le_trans (Nat.le_trans (Nat.le_trans (Nat.le_trans (Nat.le_trans (Nat.le_trans (Nat.le_trans (Nat.le_trans Z0 E7.1) (Nat.le_refl _)) (Keep.of_wr W9).1) (Nat.le_refl _)) (Keep.of_wr W11).1) (Nat.le_refl _)) (Keep.of_wr W13).1) (Nat.le_refl _)) (Keep.of_wr W15).1) (Nat.le_of_eq g20.symm)
  have sz_b20 : h0.size ≤ b20 := (Nat.le_trans K15.1 (Nat.le_of_eq g20.symm))
  have K20 : Keep h0 h20 [] := K15.ext E20
  obtain ⟨T21, h21, X21, e21, E21, A21, D21, -, st21⟩ := newO X20 hx hZ hown (hw _ (List.mem_of_getElem? (i := 8) rfl)) (hw _ (List.mem_of_getElem? (i := 9) rfl)) (hw _ (List.mem_of_getElem? (i := 10) rfl)) e20 (g := (mkF m 75 #[.val (.int p1), .val (.int p2), .val (.int p3), .val (.int p4), .val (.int p5), .val (.int p6), .val (.ref b7), .val (.int (own_entry p1 (0 : Int32) p2)), .val (.int (own_entry p1 (1 : Int32) p3)), .val (.int (own_entry p1 (2 : Int32) p4)), .val (.int (own_entry p1 (3 : Int32) p5)), .val (.ref b20), .unset, .unset, .unset, .unset, .unset, .unset, .unset, .unset] [])) rfl (hb hby at_75) (by decide) (by decide)
  obtain ⟨b21, g21⟩ : ∃ z, z = h20.size := ⟨_, rfl⟩      -- the fresh object's address
  rw [← g21] at A21 D21 st21      -- A21 : Exa Z h21 b21 "com/example/rematch/rematch/HindsightOptimum"; E21 : Ext h20 h21 (carries every older fact: .ext E21)
  have F_distances_b21 : Fld Z h21 b21 "com/example/rematch/rematch/HindsightOptimum" "distances" "Lcom/example/rematch/rematch/Distances;" .null := D21 (Or.inr (hw _ (List.mem_of_getElem? (i := 118) rfl))) (ty := (.object "com/example/rematch/rematch/Distances")) (by decide)
  have F_assignment_b21 : Fld Z h21 b21 "com/example/rematch/rematch/HindsightOptimum" "assignment" "Lcom/example/rematch/rematch/OptimalAssignment;" .null := D21 (Or.inr (hw _ (List.mem_of_getElem? (i := 164) rfl))) (ty := (.object "com/example/rematch/rematch/OptimalAssignment")) (by decide)
  have E_b21 := A21
  have g_b21 : n0 ≤ b21 := Nat.le_trans (Nat.le_trans (Nat.le_trans (Nat.le_trans (Nat.le_trans (Nat.le_trans (Nat.le_trans (Nat.le_trans (Nat.le_trans (Nat.le_trans (Nat.le_trans Z0 E7.1) (Nat.le_refl _)) (Keep.of_wr W9).1) (Nat.le_refl _)) (Keep.of_wr W11).1) (Nat.le_refl _)) (Keep.of_wr W13).1) (Nat.le_refl _)) (Keep.of_wr W15).1) E20.1) (Nat.le_of_eq g21.symm)
  have sz_b21 : h0.size ≤ b21 := (Nat.le_trans K20.1 (Nat.le_of_eq g21.symm))
  have K21 : Keep h0 h21 [] := K20.ext E21
  obtain ⟨T23, X23, e23, st23⟩ := getS2 X21 hx hZ hown (host := "") (Or.inl (hw _ (List.mem_of_getElem? (i := 11) rfl))) Via.refl e21 (S_LINE.ext (own_ext K21)) (g := (mkF m 79 #[.val (.int p1), .val (.int p2), .val (.int p3), .val (.int p4), .val (.int p5), .val (.int p6), .val (.ref b7), .val (.int (own_entry p1 (0 : Int32) p2)), .val (.int (own_entry p1 (1 : Int32) p3)), .val (.int (own_entry p1 (2 : Int32) p4)), .val (.int (own_entry p1 (3 : Int32) p5)), .val (.ref b20), .unset, .unset, .unset, .unset, .unset, .unset, .unset, .unset] [(.ref b21), (.ref b21)])) rfl (hb hby at_79)
  obtain ⟨T24, h24, X24, e24, E24, A24, D24, -, st24⟩ := newO X23 hx hZ hown (hw _ (List.mem_of_getElem? (i := 14) rfl)) (hw _ (List.mem_of_getElem? (i := 15) rfl)) (hw _ (List.mem_of_getElem? (i := 16) rfl)) e23 (g := (mkF m 82 #[.val (.int p1), .val (.int p2), .val (.int p3), .val (.int p4), .val (.int p5), .val (.int p6), .val (.ref b7), .val (.int (own_entry p1 (0 : Int32) p2)), .val (.int (own_entry p1 (1 : Int32) p3)), .val (.int (own_entry p1 (2 : Int32) p4)), .val (.int (own_entry p1 (3 : Int32) p5)), .val (.ref b20), .unset, .unset, .unset, .unset, .unset, .unset, .unset, .unset] [(.ref w22), (.ref b21), (.ref b21)])) rfl (hb hby at_82) (by decide) (by decide)
  obtain ⟨b24, g24⟩ : ∃ z, z = h21.size := ⟨_, rfl⟩      -- the fresh object's address
  rw [← g24] at A24 D24 st24      -- A24 : Exa Z h24 b24 "java/util/ArrayList"; E24 : Ext h21 h24 (carries every older fact: .ext E24)
  have F_modCount_b24 : Fld Z h24 b24 "java/util/AbstractList" "modCount" "I" (.int (0 : Int32)) := D24 (Or.inl (hw _ (List.mem_of_getElem? (i := 36) rfl))) (ty := .int) (by decide)
  have F_elementData_b24 : Fld Z h24 b24 "java/util/ArrayList" "elementData" "[Ljava/lang/Object;" .null := D24 (Or.inl (hw _ (List.mem_of_getElem? (i := 39) rfl))) (ty := (.array (.object "java/lang/Object"))) (by decide)
  have F_size_b24 : Fld Z h24 b24 "java/util/ArrayList" "size" "I" (.int (0 : Int32)) := D24 (Or.inl (hw _ (List.mem_of_getElem? (i := 61) rfl))) (ty := .int) (by decide)
  have E_b24 := A24
  have g_b24 : n0 ≤ b24 := Nat.le_trans (Nat.le_trans (Nat.le_trans (Nat.le_trans (Nat.le_trans (Nat.le_trans (Nat.le_trans (Nat.le_trans (Nat.le_trans (Nat.le_trans (Nat.le_trans (Nat.le_trans Z0 E7.1) (Nat.le_refl _)) (Keep.of_wr W9).1) (Nat.le_refl _)) (Keep.of_wr W11).1) (Nat.le_refl _)) (Keep.of_wr W13).1) (Nat.le_refl _)) (Keep.of_wr W15).1) E20.1) E21.1) (Nat.le_of_eq g24.symm)
  have sz_b24 : h0.size ≤ b24 := (Nat.le_trans K21.1 (Nat.le_of_eq g24.symm))
  have K24 : Keep h0 h24 [] := K21.ext E24
  obtain ⟨_, _, ⟨T25, L25, k25, n25⟩, -, X25, ⟨Lc25, hQ25, l25, y25, z25⟩, st25⟩ := X24.specialBack hx (y := (⟨"java/util/ArrayList", "<init>", "()V"⟩ : MethodName)) rfl hown (mvT hZ (hw _ (List.mem_of_getElem? (i := 17) rfl))) (mvT hZ (hw _ (List.mem_of_getElem? (i := 18) rfl))) (mvT hZ (hw _ (List.mem_of_getElem? (i := 19) rfl))) (by decide) (backOf (W := 4) (rm3 l Z a0 hw [] b24 wD .null h24 n0 (Nat.le_trans Z0 K24.1) (.int (0 : Int32)) F_modCount_b24 F_size_b24 (SD.ext (own_ext K24)) E_b24 F_elementData_b24 g_b24) hZ (hw _ (List.mem_of_getElem? (i := 19) rfl)) (hw _ (List.mem_of_getElem? (i := 16) rfl)) (by decide) (by decide)) (g := (mkF m 86 #[.val (.int p1), .val (.int p2), .val (.int p3), .val (.int p4), .val (.int p5), .val (.int p6), .val (.ref b7), .val (.int (own_entry p1 (0 : Int32) p2)), .val (.int (own_entry p1 (1 : Int32) p3)), .val (.int (own_entry p1 (2 : Int32) p4)), .val (.int (own_entry p1 (3 : Int32) p5)), .val (.ref b20), .unset, .unset, .unset, .unset, .unset, .unset, .unset, .unset] [(.ref b24), (.ref b24), (.ref w22), (.ref b21), (.ref b21)])) rfl (by rw [hml]; rfl) (Steps.refl _) (a := b24) (argsL := []) (rest := [(.ref b24), (.ref w22), (.ref b21), (.ref b21)]) (lenOf pd_0_2 rfl) rfl (by show 2 * 0 + _ ≤ _; exact Nat.le_of_eq rfl) (hb hby at_86) (fun _ _ => ⟨rfl, e24, (by decide : 4 + 0 ≤ _), (by decide : 14 + 0 ≤ _)⟩)
  dsimp only [Pt.U, Pt.locs, Pt.cells, Pt.slots] at X25 l25 y25 z25 st25 hQ25
  subst l25 y25 z25
  obtain ⟨rfl, N25q, K25, E25, Fs25⟩ := hQ25
  have P25 : Keep h0 T25.heap [] := K24.trans K25 (allS (Or.inr sz_b24) all0)
  have Y25 := own_ext P25
  have nin25 := own_nin (Nat.lt_of_lt_of_le A21.lt (Nat.le_of_eq g24.symm))
  have N25 := Fr.app N15 N25q
  obtain ⟨_, _, ⟨T26, L26, k26, n26⟩, -, X26, ⟨Lc26, hQ26, l26, y26, z26⟩, st26⟩ := X25.specialBack hx (y := (⟨"com/example/rematch/rematch/HindsightOptimum", "<init>", "(Lcom/example/rematch/rematch/Metric;Ljava/util/List;)V"⟩ : MethodName)) rfl hown (mvT hZ (hw _ (List.mem_of_getElem? (i := 40) rfl))) (mvT hZ (hw _ (List.mem_of_getElem? (i := 41) rfl))) (mvT hZ (hw _ (List.mem_of_getElem? (i := 42) rfl))) (by decide) (backOf (W := 1) (rm7 l Z a0 hw [] b21 w22 b24 .null .null T25.heap n0 (Nat.le_trans Z0 P25.1) Fs25 (EM.ext Y25) wA clA (FA.ext Y25) (ArA.ext Y25) SA ((E_b21.ext E24).keep K25) ((F_distances_b21.ext E24).keep K25 nin25) g_b21 E25 ((F_assignment_b21.ext E24).keep K25 nin25)) hZ (hw _ (List.mem_of_getElem? (i := 42) rfl)) (hw _ (List.mem_of_getElem? (i := 10) rfl)) (by decide) (by decide)) (g := (mkF m 89 #[.val (.int p1), .val (.int p2), .val (.int p3), .val (.int p4), .val (.int p5), .val (.int p6), .val (.ref b7), .val (.int (own_entry p1 (0 : Int32) p2)), .val (.int (own_entry p1 (1 : Int32) p3)), .val (.int (own_entry p1 (2 : Int32) p4)), .val (.int (own_entry p1 (3 : Int32) p5)), .val (.ref b20), .unset, .unset, .unset, .unset, .unset, .unset, .unset, .unset] [(.ref b24), (.ref w22), (.ref b21), (.ref b21)])) rfl (by rw [hml]; rfl) (Steps.refl _) (a := b21) (argsL := [(.ref w22), (.ref b24)]) (rest := [(.ref b21)]) (lenOf pd_0_3 rfl) rfl (by show 2 * 0 + _ ≤ _; exact Nat.le_of_eq rfl) (hb hby at_89) (fun _ _ => ⟨rfl, rfl, (by decide : 4 + 22 ≤ _), (by decide : 14 + 29 ≤ _)⟩)
  dsimp only [Pt.U, Pt.locs, Pt.cells, Pt.slots] at X26 l26 y26 z26 st26 hQ26
  subst l26 y26 z26
  obtain ⟨rfl, N26q, K26, E26, dd, Fd26⟩ := hQ26
  have P26 : Keep h0 T26.heap [] := P25.trans K26 (allS (Or.inr sz_b21) all0)
  have N26 := Fr.app N25 N26q
  obtain ⟨T27, h27, X27, e27, E27, A27, D27, -, st27⟩ := newO X26 hx hZ hown (hw _ (List.mem_of_getElem? (i := 165) rfl)) (hw _ (List.mem_of_getElem? (i := 166) rfl)) (hw _ (List.mem_of_getElem? (i := 167) rfl)) rfl (g := (mkF m 94 #[.val (.int p1), .val (.int p2), .val (.int p3), .val (.int p4), .val (.int p5), .val (.int p6), .val (.ref b7), .val (.int (own_entry p1 (0 : Int32) p2)), .val (.int (own_entry p1 (1 : Int32) p3)), .val (.int (own_entry p1 (2 : Int32) p4)), .val (.int (own_entry p1 (3 : Int32) p5)), .val (.ref b20), .val (.ref b21), .unset, .unset, .unset, .unset, .unset, .unset, .unset] [])) rfl (hb hby at_94) (by decide) (by decide)
  obtain ⟨b27, g27⟩ : ∃ z, z = T26.heap.size := ⟨_, rfl⟩      -- the fresh object's address
  rw [← g27] at A27 D27 st27      -- A27 : Exa Z h27 b27 "com/example/rematch/rematch/Arrival"; E27 : Ext T26.heap h27 (carries every older fact: .ext E27)
  have F_optimum_b27 : Fld Z h27 b27 "com/example/rematch/rematch/Arrival" "optimum" "Lcom/example/rematch/rematch/HindsightOptimum;" .null := D27 (Or.inr (hw _ (List.mem_of_getElem? (i := 173) rfl))) (ty := (.object "com/example/rematch/rematch/HindsightOptimum")) (by decide)
  have F_distances_b27 : Fld Z h27 b27 "com/example/rematch/rematch/Arrival" "distances" "Lcom/example/rematch/rematch/Distances;" .null := D27 (Or.inr (hw _ (List.mem_of_getElem? (i := 180) rfl))) (ty := (.object "com/example/rematch/rematch/Distances")) (by decide)
  have F_serverOfClient_b27 : Fld Z h27 b27 "com/example/rematch/rematch/Arrival" "serverOfClient" "[I" .null := D27 (Or.inr (hw _ (List.mem_of_getElem? (i := 182) rfl))) (ty := (.array .int)) (by decide)
  have F_clientOfServer_b27 : Fld Z h27 b27 "com/example/rematch/rematch/Arrival" "clientOfServer" "[I" .null := D27 (Or.inr (hw _ (List.mem_of_getElem? (i := 184) rfl))) (ty := (.array .int)) (by decide)
  have F_addedServer_b27 : Fld Z h27 b27 "com/example/rematch/rematch/Arrival" "addedServer" "I" (.int (0 : Int32)) := D27 (Or.inr (hw _ (List.mem_of_getElem? (i := 186) rfl))) (ty := .int) (by decide)
  have E_b27 := A27
  have g_b27 : n0 ≤ b27 := Nat.le_trans (Nat.le_trans (Nat.le_trans (Nat.le_trans (Nat.le_trans (Nat.le_trans (Nat.le_trans (Nat.le_trans (Nat.le_trans (Nat.le_trans (Nat.le_trans (Nat.le_trans (Nat.le_trans (Nat.le_trans (Nat.le_trans Z0 E7.1) (Nat.le_refl _)) (Keep.of_wr W9).1) (Nat.le_refl _)) (Keep.of_wr W11).1) (Nat.le_refl _)) (Keep.of_wr W13).1) (Nat.le_refl _)) (Keep.of_wr W15).1) E20.1) E21.1) E24.1) K25.1) K26.1) (Nat.le_of_eq g27.symm)
  have sz_b27 : h0.size ≤ b27 := (Nat.le_trans P26.1 (Nat.le_of_eq g27.symm))
  have K27 : Keep h0 h27 [] := P26.ext E27
  obtain ⟨_, _, ⟨T28, L28, k28, n28⟩, -, X28, ⟨Lc28, hQ28, l28, y28, z28⟩, st28⟩ := X27.specialBack hx (y := (⟨"com/example/rematch/rematch/Arrival", "<init>", "(Lcom/example/rematch/rematch/HindsightOptimum;[I[II)V"⟩ : MethodName)) rfl hown (mvT hZ (hw _ (List.mem_of_getElem? (i := 168) rfl))) (mvT hZ (hw _ (List.mem_of_getElem? (i := 169) rfl))) (mvT hZ (hw _ (List.mem_of_getElem? (i := 170) rfl))) (by decide) (backOf (W := 1) (rm18 l Z a0 hw [] b27 b21 b20 b7 (p6 &&& (3 : Int32)) .null .null .null .null (.int (0 : Int32)) h27 n0 (Nat.le_trans Z0 K27.1) dd (Fd26.ext E27) E_b27 F_optimum_b27 g_b27 (E26.ext E27) F_distances_b27 F_serverOfClient_b27 F_clientOfServer_b27 F_addedServer_b27) hZ (hw _ (List.mem_of_getElem? (i := 170) rfl)) (hw _ (List.mem_of_getElem? (i := 167) rfl)) (by decide) (by decide)) (g := (mkF m 108 #[.val (.int p1), .val (.int p2), .val (.int p3), .val (.int p4), .val (.int p5), .val (.int p6), .val (.ref b7), .val (.int (own_entry p1 (0 : Int32) p2)), .val (.int (own_entry p1 (1 : Int32) p3)), .val (.int (own_entry p1 (2 : Int32) p4)), .val (.int (own_entry p1 (3 : Int32) p5)), .val (.ref b20), .val (.ref b21), .unset, .unset, .unset, .unset, .unset, .unset, .unset] [(.int (p6 &&& (3 : Int32))), (.ref b7), (.ref b20), (.ref b21), (.ref b27), (.ref b27)])) rfl (by rw [hml]; rfl) (Steps.refl _) (a := b27) (argsL := [(.ref b21), (.ref b20), (.ref b7), (.int (p6 &&& (3 : Int32)))]) (rest := [(.ref b27)]) (lenOf pd_0_12 rfl) rfl (by show 2 * 0 + _ ≤ _; exact Nat.le_of_eq rfl) (hb hby at_108) (fun _ _ => ⟨rfl, e27, (by decide : 27 + 0 ≤ _), (by decide : 48 + 0 ≤ _)⟩)
  dsimp only [Pt.U, Pt.locs, Pt.cells, Pt.slots] at X28 l28 y28 z28 st28 hQ28
  subst l28 y28 z28
  obtain ⟨rfl, N28q, K28, E28, Fc28⟩ := hQ28
  have P28 : Keep h0 T28.heap [] := K27.trans K28 (allS (Or.inr sz_b27) all0)
  have RS25 : Keep h15 T25.heap [] := ((((Keep.refl h15 []).ext E20).ext E21).ext E24).trans K25 (allS (Or.inr (Nat.le_trans (Nat.le_trans E20.1 E21.1) (Nat.le_of_eq g24.symm))) all0)
  have RS26 : Keep h15 T26.heap [] := RS25.trans K26 (allS (Or.inr (Nat.le_trans E20.1 (Nat.le_of_eq g21.symm))) all0)
  have RS28 : Keep h15 T28.heap [] := (RS26.ext E27).trans K28 (allS (Or.inr (Nat.le_trans RS26.1 (Nat.le_of_eq g27.symm))) all0)
  have ArZ := ArS.ext (own_ext RS28)
  have ZH := Nat.le_trans Z0 P28.1
  have N28 := Fr.app N26 N28q
  obtain ⟨cq29, kq29, q29a, q29b, q29c⟩ := isOf hZ rfl E28
  obtain ⟨_, _, ⟨T29, L29, k29, n29⟩, -, X29, ⟨Lc29, hQ29, l29, y29, z29⟩, st29⟩ := X28.virtualBack hx (y := (⟨"com/example/rematch/rematch/Arrival", "isFree", "(I)Z"⟩ : MethodName)) (z := (⟨"com/example/rematch/rematch/Arrival", "isFree", "(I)Z"⟩ : MethodName)) hown (mvT hZ (hw _ (List.mem_of_getElem? (i := 187) rfl))) (mvT hZ (hw _ (List.mem_of_getElem? (i := 188) rfl))) (notFace_of_selects (args := #[]) (mvT hZ (hw _ (List.mem_of_getElem? (i := 190) rfl)))) (mvT hZ (hw _ (List.mem_of_getElem? (i := 190) rfl))) (mvT hZ (hw _ (List.mem_of_getElem? (i := 189) rfl))) (by decide) (backOf (W := 0) (rm20 l Z a0 hw [] b27 (0 : Int32) b7 (own_entry p1 (0 : Int32) p2) clS T28.heap n0 ZH Fc28 ArZ hin49 hat49) hZ (hw _ (List.mem_of_getElem? (i := 191) rfl)) (hw _ (List.mem_of_getElem? (i := 167) rfl)) (by decide) (by decide)) q29a q29c (g := (mkF m 116 #[.val (.int p1), .val (.int p2), .val (.int p3), .val (.int p4), .val (.int p5), .val (.int p6), .val (.ref b7), .val (.int (own_entry p1 (0 : Int32) p2)), .val (.int (own_entry p1 (1 : Int32) p3)), .val (.int (own_entry p1 (2 : Int32) p4)), .val (.int (own_entry p1 (3 : Int32) p5)), .val (.ref b20), .val (.ref b21), .val (.ref b27), .unset, .unset, .unset, .unset, .unset, .unset] [(.int (0 : Int32)), (.ref b27)])) rfl (by rw [hml]; rfl) (Steps.refl _) (argsL := [(.int (0 : Int32))]) (rest := []) (lenOf pd_0_14 rfl) rfl (by show 2 * 0 + _ ≤ _; exact Nat.le_of_eq rfl) (hb hby at_116) (fun _ _ => ⟨rfl, rfl, (by decide : 27 + 0 ≤ _), (by decide : 48 + 0 ≤ _)⟩)
  dsimp only [Pt.U, Pt.locs, Pt.cells, Pt.slots] at X29 l29 y29 z29 st29 hQ29
  subst l29 y29 z29
  obtain ⟨rfl, N29q, e29⟩ := hQ29
  have N29 := Fr.app N28 N29q
  obtain ⟨cq30, kq30, q30a, q30b, q30c⟩ := isOf hZ e29 E28
  obtain ⟨_, _, ⟨T30, L30, k30, n30⟩, -, X30, ⟨Lc30, hQ30, l30, y30, z30⟩, st30⟩ := X29.virtualBack hx (y := (⟨"com/example/rematch/rematch/Arrival", "isFree", "(I)Z"⟩ : MethodName)) (z := (⟨"com/example/rematch/rematch/Arrival", "isFree", "(I)Z"⟩ : MethodName)) hown (mvT hZ (hw _ (List.mem_of_getElem? (i := 187) rfl))) (mvT hZ (hw _ (List.mem_of_getElem? (i := 188) rfl))) (notFace_of_selects (args := #[]) (mvT hZ (hw _ (List.mem_of_getElem? (i := 190) rfl)))) (mvT hZ (hw _ (List.mem_of_getElem? (i := 190) rfl))) (mvT hZ (hw _ (List.mem_of_getElem? (i := 189) rfl))) (by decide) (backOf (W := 0) (rm20 l Z a0 hw [] b27 (1 : Int32) b7 (own_entry p1 (1 : Int32) p3) clS T28.heap n0 ZH Fc28 ArZ hin55 hat55) hZ (hw _ (List.mem_of_getElem? (i := 191) rfl)) (hw _ (List.mem_of_getElem? (i := 167) rfl)) (by decide) (by decide)) q30a q30c (g := (mkF m 124 #[.val (.int p1), .val (.int p2), .val (.int p3), .val (.int p4), .val (.int p5), .val (.int p6), .val (.ref b7), .val (.int (own_entry p1 (0 : Int32) p2)), .val (.int (own_entry p1 (1 : Int32) p3)), .val (.int (own_entry p1 (2 : Int32) p4)), .val (.int (own_entry p1 (3 : Int32) p5)), .val (.ref b20), .val (.ref b21), .val (.ref b27), .val (.int (own_free (own_entry p1 (0 : Int32) p2))), .unset, .unset, .unset, .unset, .unset] [(.int (1 : Int32)), (.ref b27)])) rfl (by rw [hml]; rfl) (Steps.refl _) (argsL := [(.int (1 : Int32))]) (rest := []) (lenOf pd_0_14 rfl) rfl (by show 2 * 0 + _ ≤ _; exact Nat.le_of_eq rfl) (hb hby at_124) (fun _ _ => ⟨rfl, e29, (by decide : 27 + 0 ≤ _), (by decide : 48 + 0 ≤ _)⟩)
  dsimp only [Pt.U, Pt.locs, Pt.cells, Pt.slots] at X30 l30 y30 z30 st30 hQ30
  subst l30 y30 z30
  obtain ⟨rfl, N30q, e30⟩ := hQ30
  have N30 := Fr.app N29 N30q
  obtain ⟨cq31, kq31, q31a, q31b, q31c⟩ := isOf hZ e30 E28
  obtain ⟨_, _, ⟨T31, L31, k31, n31⟩, -, X31, ⟨Lc31, hQ31, l31, y31, z31⟩, st31⟩ := X30.virtualBack hx (y := (⟨"com/example/rematch/rematch/Arrival", "isFree", "(I)Z"⟩ : MethodName)) (z := (⟨"com/example/rematch/rematch/Arrival", "isFree", "(I)Z"⟩ : MethodName)) hown (mvT hZ (hw _ (List.mem_of_getElem? (i := 187) rfl))) (mvT hZ (hw _ (List.mem_of_getElem? (i := 188) rfl))) (notFace_of_selects (args := #[]) (mvT hZ (hw _ (List.mem_of_getElem? (i := 190) rfl)))) (mvT hZ (hw _ (List.mem_of_getElem? (i := 190) rfl))) (mvT hZ (hw _ (List.mem_of_getElem? (i := 189) rfl))) (by decide) (backOf (W := 0) (rm20 l Z a0 hw [] b27 (2 : Int32) b7 (own_entry p1 (2 : Int32) p4) clS T28.heap n0 ZH Fc28 ArZ hin61 hat61) hZ (hw _ (List.mem_of_getElem? (i := 191) rfl)) (hw _ (List.mem_of_getElem? (i := 167) rfl)) (by decide) (by decide)) q31a q31c (g := (mkF m 132 #[.val (.int p1), .val (.int p2), .val (.int p3), .val (.int p4), .val (.int p5), .val (.int p6), .val (.ref b7), .val (.int (own_entry p1 (0 : Int32) p2)), .val (.int (own_entry p1 (1 : Int32) p3)), .val (.int (own_entry p1 (2 : Int32) p4)), .val (.int (own_entry p1 (3 : Int32) p5)), .val (.ref b20), .val (.ref b21), .val (.ref b27), .val (.int (own_free (own_entry p1 (0 : Int32) p2))), .val (.int (own_free (own_entry p1 (1 : Int32) p3))), .unset, .unset, .unset, .unset] [(.int (2 : Int32)), (.ref b27)])) rfl (by rw [hml]; rfl) (Steps.refl _) (argsL := [(.int (2 : Int32))]) (rest := []) (lenOf pd_0_14 rfl) rfl (by show 2 * 0 + _ ≤ _; exact Nat.le_of_eq rfl) (hb hby at_132) (fun _ _ => ⟨rfl, e30, (by decide : 27 + 0 ≤ _), (by decide : 48 + 0 ≤ _)⟩)
  dsimp only [Pt.U, Pt.locs, Pt.cells, Pt.slots] at X31 l31 y31 z31 st31 hQ31
  subst l31 y31 z31
  obtain ⟨rfl, N31q, e31⟩ := hQ31
  have N31 := Fr.app N30 N31q
  obtain ⟨cq32, kq32, q32a, q32b, q32c⟩ := isOf hZ e31 E28
  obtain ⟨_, _, ⟨T32, L32, k32, n32⟩, -, X32, ⟨Lc32, hQ32, l32, y32, z32⟩, st32⟩ := X31.virtualBack hx (y := (⟨"com/example/rematch/rematch/Arrival", "isFree", "(I)Z"⟩ : MethodName)) (z := (⟨"com/example/rematch/rematch/Arrival", "isFree", "(I)Z"⟩ : MethodName)) hown (mvT hZ (hw _ (List.mem_of_getElem? (i := 187) rfl))) (mvT hZ (hw _ (List.mem_of_getElem? (i := 188) rfl))) (notFace_of_selects (args := #[]) (mvT hZ (hw _ (List.mem_of_getElem? (i := 190) rfl)))) (mvT hZ (hw _ (List.mem_of_getElem? (i := 190) rfl))) (mvT hZ (hw _ (List.mem_of_getElem? (i := 189) rfl))) (by decide) (backOf (W := 0) (rm20 l Z a0 hw [] b27 (3 : Int32) b7 (own_entry p1 (3 : Int32) p5) clS T28.heap n0 ZH Fc28 ArZ hin67 hat67) hZ (hw _ (List.mem_of_getElem? (i := 191) rfl)) (hw _ (List.mem_of_getElem? (i := 167) rfl)) (by decide) (by decide)) q32a q32c (g := (mkF m 140 #[.val (.int p1), .val (.int p2), .val (.int p3), .val (.int p4), .val (.int p5), .val (.int p6), .val (.ref b7), .val (.int (own_entry p1 (0 : Int32) p2)), .val (.int (own_entry p1 (1 : Int32) p3)), .val (.int (own_entry p1 (2 : Int32) p4)), .val (.int (own_entry p1 (3 : Int32) p5)), .val (.ref b20), .val (.ref b21), .val (.ref b27), .val (.int (own_free (own_entry p1 (0 : Int32) p2))), .val (.int (own_free (own_entry p1 (1 : Int32) p3))), .val (.int (own_free (own_entry p1 (2 : Int32) p4))), .unset, .unset, .unset] [(.int (3 : Int32)), (.ref b27)])) rfl (by rw [hml]; rfl) (Steps.refl _) (argsL := [(.int (3 : Int32))]) (rest := []) (lenOf pd_0_14 rfl) rfl (by show 2 * 0 + _ ≤ _; exact Nat.le_of_eq rfl) (hb hby at_140) (fun _ _ => ⟨rfl, e31, (by decide : 27 + 0 ≤ _), (by decide : 48 + 0 ≤ _)⟩)
  dsimp only [Pt.U, Pt.locs, Pt.cells, Pt.slots] at X32 l32 y32 z32 st32 hQ32
  subst l32 y32 z32
  obtain ⟨rfl, N32q, e32⟩ := hQ32
  have N32 := Fr.app N31 N32q
  obtain ⟨_, _, ⟨T33, L33, k33, n33⟩, -, X33, ⟨Lc33, hQ33, l33, y33, z33⟩, st33⟩ := Jvm.LawKit.callS X32 hx (y := (⟨"com/example/rematch/rematch/ArrivalIsFreePinLaw", "held", "(II)Z"⟩ : MethodName)) hown (mvT hZ (hw _ (List.mem_of_getElem? (i := 5) rfl))) (mvT hZ (hw _ (List.mem_of_getElem? (i := 6) rfl))) (mvT hZ (hw _ (List.mem_of_getElem? (i := 3) rfl))) (mvT hZ (hw _ (List.mem_of_getElem? (i := 7) rfl))) (by decide) (backOf (W := 1) (rm2 l Z a0 hw [] p1 (0 : Int32) T28.heap n0 ZH) hZ (hw _ (List.mem_of_getElem? (i := 7) rfl)) (hw _ (List.mem_of_getElem? (i := 3) rfl)) (by decide) (by decide)) (g := (mkF m 149 #[.val (.int p1), .val (.int p2), .val (.int p3), .val (.int p4), .val (.int p5), .val (.int p6), .val (.ref b7), .val (.int (own_entry p1 (0 : Int32) p2)), .val (.int (own_entry p1 (1 : Int32) p3)), .val (.int (own_entry p1 (2 : Int32) p4)), .val (.int (own_entry p1 (3 : Int32) p5)), .val (.ref b20), .val (.ref b21), .val (.ref b27), .val (.int (own_free (own_entry p1 (0 : Int32) p2))), .val (.int (own_free (own_entry p1 (1 : Int32) p3))), .val (.int (own_free (own_entry p1 (2 : Int32) p4))), .val (.int (own_free (own_entry p1 (3 : Int32) p5))), .unset, .unset] [(.int (0 : Int32)), (.int p1), (.int (own_free (own_entry p1 (0 : Int32) p2)))])) rfl (by rw [hml]; rfl) (argsL := [(.int p1), (.int (0 : Int32))]) (rest := [(.int (own_free (own_entry p1 (0 : Int32) p2)))]) (lenOf pd_0_1 rfl) rfl (by show 2 * 0 + _ ≤ _; exact Nat.le_of_eq rfl) (hb hby at_149) (fun _ _ => ⟨rfl, e32, (by decide : 27 + 0 ≤ _), (by decide : 48 + 0 ≤ _)⟩)
  dsimp only [Pt.U, Pt.locs, Pt.cells, Pt.slots] at X33 l33 y33 z33 st33 hQ33
  subst l33 y33 z33
  obtain ⟨rfl, N33q, e33⟩ := hQ33
  have N33 := Fr.app N32 N33q
  obtain ⟨_, _, ⟨T34, L34, k34, n34⟩, -, X34, ⟨Lc34, hQ34, l34, y34, z34⟩, st34⟩ := Jvm.LawKit.callS X33 hx (y := (⟨"com/example/rematch/rematch/ArrivalIsFreePinLaw", "held", "(II)Z"⟩ : MethodName)) hown (mvT hZ (hw _ (List.mem_of_getElem? (i := 5) rfl))) (mvT hZ (hw _ (List.mem_of_getElem? (i := 6) rfl))) (mvT hZ (hw _ (List.mem_of_getElem? (i := 3) rfl))) (mvT hZ (hw _ (List.mem_of_getElem? (i := 7) rfl))) (by decide) (backOf (W := 1) (rm2 l Z a0 hw [] p1 (1 : Int32) T28.heap n0 ZH) hZ (hw _ (List.mem_of_getElem? (i := 7) rfl)) (hw _ (List.mem_of_getElem? (i := 3) rfl)) (by decide) (by decide)) (g := (mkF m 167 #[.val (.int p1), .val (.int p2), .val (.int p3), .val (.int p4), .val (.int p5), .val (.int p6), .val (.ref b7), .val (.int (own_entry p1 (0 : Int32) p2)), .val (.int (own_entry p1 (1 : Int32) p3)), .val (.int (own_entry p1 (2 : Int32) p4)), .val (.int (own_entry p1 (3 : Int32) p5)), .val (.ref b20), .val (.ref b21), .val (.ref b27), .val (.int (own_free (own_entry p1 (0 : Int32) p2))), .val (.int (own_free (own_entry p1 (1 : Int32) p3))), .val (.int (own_free (own_entry p1 (2 : Int32) p4))), .val (.int (own_free (own_entry p1 (3 : Int32) p5))), .unset, .unset] [(.int (1 : Int32)), (.int p1), (.int (own_free (own_entry p1 (1 : Int32) p3)))])) rfl (by rw [hml]; rfl) (argsL := [(.int p1), (.int (1 : Int32))]) (rest := [(.int (own_free (own_entry p1 (1 : Int32) p3)))]) (lenOf pd_0_1 rfl) rfl (by show 2 * 0 + _ ≤ _; exact Nat.le_of_eq rfl) (hb hby at_167) (fun _ _ => ⟨rfl, e33, (by decide : 27 + 0 ≤ _), (by decide : 48 + 0 ≤ _)⟩)
  dsimp only [Pt.U, Pt.locs, Pt.cells, Pt.slots] at X34 l34 y34 z34 st34 hQ34
  subst l34 y34 z34
  obtain ⟨rfl, N34q, e34⟩ := hQ34
  have N34 := Fr.app N33 N34q
  obtain ⟨_, _, ⟨T35, L35, k35, n35⟩, -, X35, ⟨Lc35, hQ35, l35, y35, z35⟩, st35⟩ := Jvm.LawKit.callS X34 hx (y := (⟨"com/example/rematch/rematch/ArrivalIsFreePinLaw", "held", "(II)Z"⟩ : MethodName)) hown (mvT hZ (hw _ (List.mem_of_getElem? (i := 5) rfl))) (mvT hZ (hw _ (List.mem_of_getElem? (i := 6) rfl))) (mvT hZ (hw _ (List.mem_of_getElem? (i := 3) rfl))) (mvT hZ (hw _ (List.mem_of_getElem? (i := 7) rfl))) (by decide) (backOf (W := 1) (rm2 l Z a0 hw [] p1 (2 : Int32) T28.heap n0 ZH) hZ (hw _ (List.mem_of_getElem? (i := 7) rfl)) (hw _ (List.mem_of_getElem? (i := 3) rfl)) (by decide) (by decide)) (g := (mkF m 185 #[.val (.int p1), .val (.int p2), .val (.int p3), .val (.int p4), .val (.int p5), .val (.int p6), .val (.ref b7), .val (.int (own_entry p1 (0 : Int32) p2)), .val (.int (own_entry p1 (1 : Int32) p3)), .val (.int (own_entry p1 (2 : Int32) p4)), .val (.int (own_entry p1 (3 : Int32) p5)), .val (.ref b20), .val (.ref b21), .val (.ref b27), .val (.int (own_free (own_entry p1 (0 : Int32) p2))), .val (.int (own_free (own_entry p1 (1 : Int32) p3))), .val (.int (own_free (own_entry p1 (2 : Int32) p4))), .val (.int (own_free (own_entry p1 (3 : Int32) p5))), .unset, .unset] [(.int (2 : Int32)), (.int p1), (.int (own_free (own_entry p1 (2 : Int32) p4)))])) rfl (by rw [hml]; rfl) (argsL := [(.int p1), (.int (2 : Int32))]) (rest := [(.int (own_free (own_entry p1 (2 : Int32) p4)))]) (lenOf pd_0_1 rfl) rfl (by show 2 * 0 + _ ≤ _; exact Nat.le_of_eq rfl) (hb hby at_185) (fun _ _ => ⟨rfl, e34, (by decide : 27 + 0 ≤ _), (by decide : 48 + 0 ≤ _)⟩)
  dsimp only [Pt.U, Pt.locs, Pt.cells, Pt.slots] at X35 l35 y35 z35 st35 hQ35
  subst l35 y35 z35
  obtain ⟨rfl, N35q, e35⟩ := hQ35
  have N35 := Fr.app N34 N35q
  obtain ⟨_, _, ⟨T36, L36, k36, n36⟩, -, X36, ⟨Lc36, hQ36, l36, y36, z36⟩, st36⟩ := Jvm.LawKit.callS X35 hx (y := (⟨"com/example/rematch/rematch/ArrivalIsFreePinLaw", "held", "(II)Z"⟩ : MethodName)) hown (mvT hZ (hw _ (List.mem_of_getElem? (i := 5) rfl))) (mvT hZ (hw _ (List.mem_of_getElem? (i := 6) rfl))) (mvT hZ (hw _ (List.mem_of_getElem? (i := 3) rfl))) (mvT hZ (hw _ (List.mem_of_getElem? (i := 7) rfl))) (by decide) (backOf (W := 1) (rm2 l Z a0 hw [] p1 (3 : Int32) T28.heap n0 ZH) hZ (hw _ (List.mem_of_getElem? (i := 7) rfl)) (hw _ (List.mem_of_getElem? (i := 3) rfl)) (by decide) (by decide)) (g := (mkF m 203 #[.val (.int p1), .val (.int p2), .val (.int p3), .val (.int p4), .val (.int p5), .val (.int p6), .val (.ref b7), .val (.int (own_entry p1 (0 : Int32) p2)), .val (.int (own_entry p1 (1 : Int32) p3)), .val (.int (own_entry p1 (2 : Int32) p4)), .val (.int (own_entry p1 (3 : Int32) p5)), .val (.ref b20), .val (.ref b21), .val (.ref b27), .val (.int (own_free (own_entry p1 (0 : Int32) p2))), .val (.int (own_free (own_entry p1 (1 : Int32) p3))), .val (.int (own_free (own_entry p1 (2 : Int32) p4))), .val (.int (own_free (own_entry p1 (3 : Int32) p5))), .unset, .unset] [(.int (3 : Int32)), (.int p1), (.int (own_free (own_entry p1 (3 : Int32) p5)))])) rfl (by rw [hml]; rfl) (argsL := [(.int p1), (.int (3 : Int32))]) (rest := [(.int (own_free (own_entry p1 (3 : Int32) p5)))]) (lenOf pd_0_1 rfl) rfl (by show 2 * 0 + _ ≤ _; exact Nat.le_of_eq rfl) (hb hby at_203) (fun _ _ => ⟨rfl, e35, (by decide : 27 + 0 ≤ _), (by decide : 48 + 0 ≤ _)⟩)
  dsimp only [Pt.U, Pt.locs, Pt.cells, Pt.slots] at X36 l36 y36 z36 st36 hQ36
  subst l36 y36 z36
  obtain ⟨rfl, N36q, e36⟩ := hQ36
  have N36 := Fr.app N35 N36q
  obtain ⟨fs, hr, hrun, hended, hW, hsame⟩ := X36.leave (v := some (.int (1 : Int32))) (fun h => by rw [Bd.returns] at h; cases h)
  refine ⟨_, _, pre0 _ ?_, hrun, hended, _, _, rfl, ?_, ⟨_, rfl⟩, hW, hsame.mono (by decide) (by decide)⟩
  · show Steps p.tables e below (s₁.setTop (mkF m 0 #[.val (.int p1), .val (.int p2), .val (.int p3), .val (.int p4), .val (.int p5), .val (.int p6), .unset, .unset, .unset, .unset, .unset, .unset, .unset, .unset, .unset, .unset, .unset, .unset, .unset, .unset] [])) _
    refine XS.iconst X0.here hx rfl (hb hby at_0) ?_
    show Steps p.tables e below (s₁.setTop (mkF m 1 #[.val (.int p1), .val (.int p2), .val (.int p3), .val (.int p4), .val (.int p5), .val (.int p6), .unset, .unset, .unset, .unset, .unset, .unset, .unset, .unset, .unset, .unset, .unset, .unset, .unset, .unset] [(.int (4 : Int32))])) _
    refine st7 _ ?_
    show Steps p.tables e below (T7.setTop (mkF m 3 #[.val (.int p1), .val (.int p2), .val (.int p3), .val (.int p4), .val (.int p5), .val (.int p6), .unset, .unset, .unset, .unset, .unset, .unset, .unset, .unset, .unset, .unset, .unset, .unset, .unset, .unset] [(.ref b7)])) _
    refine XS.astore X7.here hx rfl (hb hby at_3) rfl rfl (l' := #[.val (.int p1), .val (.int p2), .val (.int p3), .val (.int p4), .val (.int p5), .val (.int p6), .val (.ref b7), .unset, .unset, .unset, .unset, .unset, .unset, .unset, .unset, .unset, .unset, .unset, .unset, .unset]) rfl ?_
    show Steps p.tables e below (T7.setTop (mkF m 5 #[.val (.int p1), .val (.int p2), .val (.int p3), .val (.int p4), .val (.int p5), .val (.int p6), .val (.ref b7), .unset, .unset, .unset, .unset, .unset, .unset, .unset, .unset, .unset, .unset, .unset, .unset, .unset] [])) _
    refine XS.aload X7.here hx rfl (hb hby at_5) rfl rfl ?_
    show Steps p.tables e below (T7.setTop (mkF m 7 #[.val (.int p1), .val (.int p2), .val (.int p3), .val (.int p4), .val (.int p5), .val (.int p6), .val (.ref b7), .unset, .unset, .unset, .unset, .unset, .unset, .unset, .unset, .unset, .unset, .unset, .unset, .unset] [(.ref b7)])) _
    refine XS.iconst X7.here hx rfl (hb hby at_7) ?_
    show Steps p.tables e below (T7.setTop (mkF m 8 #[.val (.int p1), .val (.int p2), .val (.int p3), .val (.int p4), .val (.int p5), .val (.int p6), .val (.ref b7), .unset, .unset, .unset, .unset, .unset, .unset, .unset, .unset, .unset, .unset, .unset, .unset, .unset] [(.int (0 : Int32)), (.ref b7)])) _
    refine XS.iloadN X7.here hx rfl (hb hby at_8) rfl ?_
    show Steps p.tables e below (T7.setTop (mkF m 9 #[.val (.int p1), .val (.int p2), .val (.int p3), .val (.int p4), .val (.int p5), .val (.int p6), .val (.ref b7), .unset, .unset, .unset, .unset, .unset, .unset, .unset, .unset, .unset, .unset, .unset, .unset, .unset] [(.int p1), (.int (0 : Int32)), (.ref b7)])) _
    refine XS.iconst X7.here hx rfl (hb hby at_9) ?_
    show Steps p.tables e below (T7.setTop (mkF m 10 #[.val (.int p1), .val (.int p2), .val (.int p3), .val (.int p4), .val (.int p5), .val (.int p6), .val (.ref b7), .unset, .unset, .unset, .unset, .unset, .unset, .unset, .unset, .unset, .unset, .unset, .unset, .unset] [(.int (0 : Int32)), (.int p1), (.int (0 : Int32)), (.ref b7)])) _
    refine XS.iloadN X7.here hx rfl (hb hby at_10) rfl ?_
    show Steps p.tables e below (T7.setTop (mkF m 11 #[.val (.int p1), .val (.int p2), .val (.int p3), .val (.int p4), .val (.int p5), .val (.int p6), .val (.ref b7), .unset, .unset, .unset, .unset, .unset, .unset, .unset, .unset, .unset, .unset, .unset, .unset, .unset] [(.int p2), (.int (0 : Int32)), (.int p1), (.int (0 : Int32)), (.ref b7)])) _
    refine st8 _ ?_
    show Steps p.tables e below (T8.setTop (mkF m 14 #[.val (.int p1), .val (.int p2), .val (.int p3), .val (.int p4), .val (.int p5), .val (.int p6), .val (.ref b7), .unset, .unset, .unset, .unset, .unset, .unset, .unset, .unset, .unset, .unset, .unset, .unset, .unset] [(.int (own_entry p1 (0 : Int32) p2)), (.int (0 : Int32)), (.ref b7)])) _
    refine st9 _ ?_
    show Steps p.tables e below (T9.setTop (mkF m 15 #[.val (.int p1), .val (.int p2), .val (.int p3), .val (.int p4), .val (.int p5), .val (.int p6), .val (.ref b7), .unset, .unset, .unset, .unset, .unset, .unset, .unset, .unset, .unset, .unset, .unset, .unset, .unset] [])) _
    refine XS.aload X9.here hx rfl (hb hby at_15) rfl rfl ?_
    show Steps p.tables e below (T9.setTop (mkF m 17 #[.val (.int p1), .val (.int p2), .val (.int p3), .val (.int p4), .val (.int p5), .val (.int p6), .val (.ref b7), .unset, .unset, .unset, .unset, .unset, .unset, .unset, .unset, .unset, .unset, .unset, .unset, .unset] [(.ref b7)])) _
    refine XS.iconst X9.here hx rfl (hb hby at_17) ?_
    show Steps p.tables e below (T9.setTop (mkF m 18 #[.val (.int p1), .val (.int p2), .val (.int p3), .val (.int p4), .val (.int p5), .val (.int p6), .val (.ref b7), .unset, .unset, .unset, .unset, .unset, .unset, .unset, .unset, .unset, .unset, .unset, .unset, .unset] [(.int (1 : Int32)), (.ref b7)])) _
    refine XS.iloadN X9.here hx rfl (hb hby at_18) rfl ?_
    show Steps p.tables e below (T9.setTop (mkF m 19 #[.val (.int p1), .val (.int p2), .val (.int p3), .val (.int p4), .val (.int p5), .val (.int p6), .val (.ref b7), .unset, .unset, .unset, .unset, .unset, .unset, .unset, .unset, .unset, .unset, .unset, .unset, .unset] [(.int p1), (.int (1 : Int32)), (.ref b7)])) _
    refine XS.iconst X9.here hx rfl (hb hby at_19) ?_
    show Steps p.tables e below (T9.setTop (mkF m 20 #[.val (.int p1), .val (.int p2), .val (.int p3), .val (.int p4), .val (.int p5), .val (.int p6), .val (.ref b7), .unset, .unset, .unset, .unset, .unset, .unset, .unset, .unset, .unset, .unset, .unset, .unset, .unset] [(.int (1 : Int32)), (.int p1), (.int (1 : Int32)), (.ref b7)])) _
    refine XS.iloadN X9.here hx rfl (hb hby at_20) rfl ?_
    show Steps p.tables e below (T9.setTop (mkF m 21 #[.val (.int p1), .val (.int p2), .val (.int p3), .val (.int p4), .val (.int p5), .val (.int p6), .val (.ref b7), .unset, .unset, .unset, .unset, .unset, .unset, .unset, .unset, .unset, .unset, .unset, .unset, .unset] [(.int p3), (.int (1 : Int32)), (.int p1), (.int (1 : Int32)), (.ref b7)])) _
    refine st10 _ ?_
    show Steps p.tables e below (T10.setTop (mkF m 24 #[.val (.int p1), .val (.int p2), .val (.int p3), .val (.int p4), .val (.int p5), .val (.int p6), .val (.ref b7), .unset, .unset, .unset, .unset, .unset, .unset, .unset, .unset, .unset, .unset, .unset, .unset, .unset] [(.int (own_entry p1 (1 : Int32) p3)), (.int (1 : Int32)), (.ref b7)])) _
    refine st11 _ ?_
    show Steps p.tables e below (T11.setTop (mkF m 25 #[.val (.int p1), .val (.int p2), .val (.int p3), .val (.int p4), .val (.int p5), .val (.int p6), .val (.ref b7), .unset, .unset, .unset, .unset, .unset, .unset, .unset, .unset, .unset, .unset, .unset, .unset, .unset] [])) _
    refine XS.aload X11.here hx rfl (hb hby at_25) rfl rfl ?_
    show Steps p.tables e below (T11.setTop (mkF m 27 #[.val (.int p1), .val (.int p2), .val (.int p3), .val (.int p4), .val (.int p5), .val (.int p6), .val (.ref b7), .unset, .unset, .unset, .unset, .unset, .unset, .unset, .unset, .unset, .unset, .unset, .unset, .unset] [(.ref b7)])) _
    refine XS.iconst X11.here hx rfl (hb hby at_27) ?_
    show Steps p.tables e below (T11.setTop (mkF m 28 #[.val (.int p1), .val (.int p2), .val (.int p3), .val (.int p4), .val (.int p5), .val (.int p6), .val (.ref b7), .unset, .unset, .unset, .unset, .unset, .unset, .unset, .unset, .unset, .unset, .unset, .unset, .unset] [(.int (2 : Int32)), (.ref b7)])) _
    refine XS.iloadN X11.here hx rfl (hb hby at_28) rfl ?_
    show Steps p.tables e below (T11.setTop (mkF m 29 #[.val (.int p1), .val (.int p2), .val (.int p3), .val (.int p4), .val (.int p5), .val (.int p6), .val (.ref b7), .unset, .unset, .unset, .unset, .unset, .unset, .unset, .unset, .unset, .unset, .unset, .unset, .unset] [(.int p1), (.int (2 : Int32)), (.ref b7)])) _
    refine XS.iconst X11.here hx rfl (hb hby at_29) ?_
    show Steps p.tables e below (T11.setTop (mkF m 30 #[.val (.int p1), .val (.int p2), .val (.int p3), .val (.int p4), .val (.int p5), .val (.int p6), .val (.ref b7), .unset, .unset, .unset, .unset, .unset, .unset, .unset, .unset, .unset, .unset, .unset, .unset, .unset] [(.int (2 : Int32)), (.int p1), (.int (2 : Int32)), (.ref b7)])) _
    refine XS.iloadN X11.here hx rfl (hb hby at_30) rfl ?_
    show Steps p.tables e below (T11.setTop (mkF m 31 #[.val (.int p1), .val (.int p2), .val (.int p3), .val (.int p4), .val (.int p5), .val (.int p6), .val (.ref b7), .unset, .unset, .unset, .unset, .unset, .unset, .unset, .unset, .unset, .unset, .unset, .unset, .unset] [(.int p4), (.int (2 : Int32)), (.int p1), (.int (2 : Int32)), (.ref b7)])) _
    refine st12 _ ?_
    show Steps p.tables e below (T12.setTop (mkF m 34 #[.val (.int p1), .val (.int p2), .val (.int p3), .val (.int p4), .val (.int p5), .val (.int p6), .val (.ref b7), .unset, .unset, .unset, .unset, .unset, .unset, .unset, .unset, .unset, .unset, .unset, .unset, .unset] [(.int (own_entry p1 (2 : Int32) p4)), (.int (2 : Int32)), (.ref b7)])) _
    refine st13 _ ?_
    show Steps p.tables e below (T13.setTop (mkF m 35 #[.val (.int p1), .val (.int p2), .val (.int p3), .val (.int p4), .val (.int p5), .val (.int p6), .val (.ref b7), .unset, .unset, .unset, .unset, .unset, .unset, .unset, .unset, .unset, .unset, .unset, .unset, .unset] [])) _
    refine XS.aload X13.here hx rfl (hb hby at_35) rfl rfl ?_
    show Steps p.tables e below (T13.setTop (mkF m 37 #[.val (.int p1), .val (.int p2), .val (.int p3), .val (.int p4), .val (.int p5), .val (.int p6), .val (.ref b7), .unset, .unset, .unset, .unset, .unset, .unset, .unset, .unset, .unset, .unset, .unset, .unset, .unset] [(.ref b7)])) _
    refine XS.iconst X13.here hx rfl (hb hby at_37) ?_
    show Steps p.tables e below (T13.setTop (mkF m 38 #[.val (.int p1), .val (.int p2), .val (.int p3), .val (.int p4), .val (.int p5), .val (.int p6), .val (.ref b7), .unset, .unset, .unset, .unset, .unset, .unset, .unset, .unset, .unset, .unset, .unset, .unset, .unset] [(.int (3 : Int32)), (.ref b7)])) _
    refine XS.iloadN X13.here hx rfl (hb hby at_38) rfl ?_
    show Steps p.tables e below (T13.setTop (mkF m 39 #[.val (.int p1), .val (.int p2), .val (.int p3), .val (.int p4), .val (.int p5), .val (.int p6), .val (.ref b7), .unset, .unset, .unset, .unset, .unset, .unset, .unset, .unset, .unset, .unset, .unset, .unset, .unset] [(.int p1), (.int (3 : Int32)), (.ref b7)])) _
    refine XS.iconst X13.here hx rfl (hb hby at_39) ?_
    show Steps p.tables e below (T13.setTop (mkF m 40 #[.val (.int p1), .val (.int p2), .val (.int p3), .val (.int p4), .val (.int p5), .val (.int p6), .val (.ref b7), .unset, .unset, .unset, .unset, .unset, .unset, .unset, .unset, .unset, .unset, .unset, .unset, .unset] [(.int (3 : Int32)), (.int p1), (.int (3 : Int32)), (.ref b7)])) _
    refine XS.iload X13.here hx rfl (hb hby at_40) rfl ?_
    show Steps p.tables e below (T13.setTop (mkF m 42 #[.val (.int p1), .val (.int p2), .val (.int p3), .val (.int p4), .val (.int p5), .val (.int p6), .val (.ref b7), .unset, .unset, .unset, .unset, .unset, .unset, .unset, .unset, .unset, .unset, .unset, .unset, .unset] [(.int p5), (.int (3 : Int32)), (.int p1), (.int (3 : Int32)), (.ref b7)])) _
    refine st14 _ ?_
    show Steps p.tables e below (T14.setTop (mkF m 45 #[.val (.int p1), .val (.int p2), .val (.int p3), .val (.int p4), .val (.int p5), .val (.int p6), .val (.ref b7), .unset, .unset, .unset, .unset, .unset, .unset, .unset, .unset, .unset, .unset, .unset, .unset, .unset] [(.int (own_entry p1 (3 : Int32) p5)), (.int (3 : Int32)), (.ref b7)])) _
    refine st15 _ ?_
    show Steps p.tables e below (T15.setTop (mkF m 46 #[.val (.int p1), .val (.int p2), .val (.int p3), .val (.int p4), .val (.int p5), .val (.int p6), .val (.ref b7), .unset, .unset, .unset, .unset, .unset, .unset, .unset, .unset, .unset, .unset, .unset, .unset, .unset] [])) _
    refine XS.aload X15.here hx rfl (hb hby at_46) rfl rfl ?_
    show Steps p.tables e below (T15.setTop (mkF m 48 #[.val (.int p1), .val (.int p2), .val (.int p3), .val (.int p4), .val (.int p5), .val (.int p6), .val (.ref b7), .unset, .unset, .unset, .unset, .unset, .unset, .unset, .unset, .unset, .unset, .unset, .unset, .unset] [(.ref b7)])) _
    refine XS.iconst X15.here hx rfl (hb hby at_48) ?_
    show Steps p.tables e below (T15.setTop (mkF m 49 #[.val (.int p1), .val (.int p2), .val (.int p3), .val (.int p4), .val (.int p5), .val (.int p6), .val (.ref b7), .unset, .unset, .unset, .unset, .unset, .unset, .unset, .unset, .unset, .unset, .unset, .unset, .unset] [(.int (0 : Int32)), (.ref b7)])) _
    refine X15.iaload hx (j := (0 : Int32)) (v := (.int (own_entry p1 (0 : Int32) p2))) (by rw [e15]; exact ArS.1) (State.isArrayOf_alike hZ.alike ArS.2.1) ArS.2.2 hin49 hat49 (g := (mkF m 49 #[.val (.int p1), .val (.int p2), .val (.int p3), .val (.int p4), .val (.int p5), .val (.int p6), .val (.ref b7), .unset, .unset, .unset, .unset, .unset, .unset, .unset, .unset, .unset, .unset, .unset, .unset, .unset] [(.int (0 : Int32)), (.ref b7)])) rfl rfl (hb hby at_49) _ ?_
    show Steps p.tables e below (T15.setTop (mkF m 50 #[.val (.int p1), .val (.int p2), .val (.int p3), .val (.int p4), .val (.int p5), .val (.int p6), .val (.ref b7), .unset, .unset, .unset, .unset, .unset, .unset, .unset, .unset, .unset, .unset, .unset, .unset, .unset] [(.int (own_entry p1 (0 : Int32) p2))])) _
    refine XS.istore X15.here hx rfl (hb hby at_50) rfl (l' := #[.val (.int p1), .val (.int p2), .val (.int p3), .val (.int p4), .val (.int p5), .val (.int p6), .val (.ref b7), .val (.int (own_entry p1 (0 : Int32) p2)), .unset, .unset, .unset, .unset, .unset, .unset, .unset, .unset, .unset, .unset, .unset, .unset]) rfl ?_
    show Steps p.tables e below (T15.setTop (mkF m 52 #[.val (.int p1), .val (.int p2), .val (.int p3), .val (.int p4), .val (.int p5), .val (.int p6), .val (.ref b7), .val (.int (own_entry p1 (0 : Int32) p2)), .unset, .unset, .unset, .unset, .unset, .unset, .unset, .unset, .unset, .unset, .unset, .unset] [])) _
    refine XS.aload X15.here hx rfl (hb hby at_52) rfl rfl ?_
    show Steps p.tables e below (T15.setTop (mkF m 54 #[.val (.int p1), .val (.int p2), .val (.int p3), .val (.int p4), .val (.int p5), .val (.int p6), .val (.ref b7), .val (.int (own_entry p1 (0 : Int32) p2)), .unset, .unset, .unset, .unset, .unset, .unset, .unset, .unset, .unset, .unset, .unset, .unset] [(.ref b7)])) _
    refine XS.iconst X15.here hx rfl (hb hby at_54) ?_
    show Steps p.tables e below (T15.setTop (mkF m 55 #[.val (.int p1), .val (.int p2), .val (.int p3), .val (.int p4), .val (.int p5), .val (.int p6), .val (.ref b7), .val (.int (own_entry p1 (0 : Int32) p2)), .unset, .unset, .unset, .unset, .unset, .unset, .unset, .unset, .unset, .unset, .unset, .unset] [(.int (1 : Int32)), (.ref b7)])) _
    refine X15.iaload hx (j := (1 : Int32)) (v := (.int (own_entry p1 (1 : Int32) p3))) (by rw [e15]; exact ArS.1) (State.isArrayOf_alike hZ.alike ArS.2.1) ArS.2.2 hin55 hat55 (g := (mkF m 55 #[.val (.int p1), .val (.int p2), .val (.int p3), .val (.int p4), .val (.int p5), .val (.int p6), .val (.ref b7), .val (.int (own_entry p1 (0 : Int32) p2)), .unset, .unset, .unset, .unset, .unset, .unset, .unset, .unset, .unset, .unset, .unset, .unset] [(.int (1 : Int32)), (.ref b7)])) rfl rfl (hb hby at_55) _ ?_
    show Steps p.tables e below (T15.setTop (mkF m 56 #[.val (.int p1), .val (.int p2), .val (.int p3), .val (.int p4), .val (.int p5), .val (.int p6), .val (.ref b7), .val (.int (own_entry p1 (0 : Int32) p2)), .unset, .unset, .unset, .unset, .unset, .unset, .unset, .unset, .unset, .unset, .unset, .unset] [(.int (own_entry p1 (1 : Int32) p3))])) _
    refine XS.istore X15.here hx rfl (hb hby at_56) rfl (l' := #[.val (.int p1), .val (.int p2), .val (.int p3), .val (.int p4), .val (.int p5), .val (.int p6), .val (.ref b7), .val (.int (own_entry p1 (0 : Int32) p2)), .val (.int (own_entry p1 (1 : Int32) p3)), .unset, .unset, .unset, .unset, .unset, .unset, .unset, .unset, .unset, .unset, .unset]) rfl ?_
    show Steps p.tables e below (T15.setTop (mkF m 58 #[.val (.int p1), .val (.int p2), .val (.int p3), .val (.int p4), .val (.int p5), .val (.int p6), .val (.ref b7), .val (.int (own_entry p1 (0 : Int32) p2)), .val (.int (own_entry p1 (1 : Int32) p3)), .unset, .unset, .unset, .unset, .unset, .unset, .unset, .unset, .unset, .unset, .unset] [])) _
    refine XS.aload X15.here hx rfl (hb hby at_58) rfl rfl ?_
    show Steps p.tables e below (T15.setTop (mkF m 60 #[.val (.int p1), .val (.int p2), .val (.int p3), .val (.int p4), .val (.int p5), .val (.int p6), .val (.ref b7), .val (.int (own_entry p1 (0 : Int32) p2)), .val (.int (own_entry p1 (1 : Int32) p3)), .unset, .unset, .unset, .unset, .unset, .unset, .unset, .unset, .unset, .unset, .unset] [(.ref b7)])) _
    refine XS.iconst X15.here hx rfl (hb hby at_60) ?_
    show Steps p.tables e below (T15.setTop (mkF m 61 #[.val (.int p1), .val (.int p2), .val (.int p3), .val (.int p4), .val (.int p5), .val (.int p6), .val (.ref b7), .val (.int (own_entry p1 (0 : Int32) p2)), .val (.int (own_entry p1 (1 : Int32) p3)), .unset, .unset, .unset, .unset, .unset, .unset, .unset, .unset, .unset, .unset, .unset] [(.int (2 : Int32)), (.ref b7)])) _
    refine X15.iaload hx (j := (2 : Int32)) (v := (.int (own_entry p1 (2 : Int32) p4))) (by rw [e15]; exact ArS.1) (State.isArrayOf_alike hZ.alike ArS.2.1) ArS.2.2 hin61 hat61 (g := (mkF m 61 #[.val (.int p1), .val (.int p2), .val (.int p3), .val (.int p4), .val (.int p5), .val (.int p6), .val (.ref b7), .val (.int (own_entry p1 (0 : Int32) p2)), .val (.int (own_entry p1 (1 : Int32) p3)), .unset, .unset, .unset, .unset, .unset, .unset, .unset, .unset, .unset, .unset, .unset] [(.int (2 : Int32)), (.ref b7)])) rfl rfl (hb hby at_61) _ ?_
    show Steps p.tables e below (T15.setTop (mkF m 62 #[.val (.int p1), .val (.int p2), .val (.int p3), .val (.int p4), .val (.int p5), .val (.int p6), .val (.ref b7), .val (.int (own_entry p1 (0 : Int32) p2)), .val (.int (own_entry p1 (1 : Int32) p3)), .unset, .unset, .unset, .unset, .unset, .unset, .unset, .unset, .unset, .unset, .unset] [(.int (own_entry p1 (2 : Int32) p4))])) _
    refine XS.istore X15.here hx rfl (hb hby at_62) rfl (l' := #[.val (.int p1), .val (.int p2), .val (.int p3), .val (.int p4), .val (.int p5), .val (.int p6), .val (.ref b7), .val (.int (own_entry p1 (0 : Int32) p2)), .val (.int (own_entry p1 (1 : Int32) p3)), .val (.int (own_entry p1 (2 : Int32) p4)), .unset, .unset, .unset, .unset, .unset, .unset, .unset, .unset, .unset, .unset]) rfl ?_
    show Steps p.tables e below (T15.setTop (mkF m 64 #[.val (.int p1), .val (.int p2), .val (.int p3), .val (.int p4), .val (.int p5), .val (.int p6), .val (.ref b7), .val (.int (own_entry p1 (0 : Int32) p2)), .val (.int (own_entry p1 (1 : Int32) p3)), .val (.int (own_entry p1 (2 : Int32) p4)), .unset, .unset, .unset, .unset, .unset, .unset, .unset, .unset, .unset, .unset] [])) _
    refine XS.aload X15.here hx rfl (hb hby at_64) rfl rfl ?_
    show Steps p.tables e below (T15.setTop (mkF m 66 #[.val (.int p1), .val (.int p2), .val (.int p3), .val (.int p4), .val (.int p5), .val (.int p6), .val (.ref b7), .val (.int (own_entry p1 (0 : Int32) p2)), .val (.int (own_entry p1 (1 : Int32) p3)), .val (.int (own_entry p1 (2 : Int32) p4)), .unset, .unset, .unset, .unset, .unset, .unset, .unset, .unset, .unset, .unset] [(.ref b7)])) _
    refine XS.iconst X15.here hx rfl (hb hby at_66) ?_
    show Steps p.tables e below (T15.setTop (mkF m 67 #[.val (.int p1), .val (.int p2), .val (.int p3), .val (.int p4), .val (.int p5), .val (.int p6), .val (.ref b7), .val (.int (own_entry p1 (0 : Int32) p2)), .val (.int (own_entry p1 (1 : Int32) p3)), .val (.int (own_entry p1 (2 : Int32) p4)), .unset, .unset, .unset, .unset, .unset, .unset, .unset, .unset, .unset, .unset] [(.int (3 : Int32)), (.ref b7)])) _
    refine X15.iaload hx (j := (3 : Int32)) (v := (.int (own_entry p1 (3 : Int32) p5))) (by rw [e15]; exact ArS.1) (State.isArrayOf_alike hZ.alike ArS.2.1) ArS.2.2 hin67 hat67 (g := (mkF m 67 #[.val (.int p1), .val (.int p2), .val (.int p3), .val (.int p4), .val (.int p5), .val (.int p6), .val (.ref b7), .val (.int (own_entry p1 (0 : Int32) p2)), .val (.int (own_entry p1 (1 : Int32) p3)), .val (.int (own_entry p1 (2 : Int32) p4)), .unset, .unset, .unset, .unset, .unset, .unset, .unset, .unset, .unset, .unset] [(.int (3 : Int32)), (.ref b7)])) rfl rfl (hb hby at_67) _ ?_
    show Steps p.tables e below (T15.setTop (mkF m 68 #[.val (.int p1), .val (.int p2), .val (.int p3), .val (.int p4), .val (.int p5), .val (.int p6), .val (.ref b7), .val (.int (own_entry p1 (0 : Int32) p2)), .val (.int (own_entry p1 (1 : Int32) p3)), .val (.int (own_entry p1 (2 : Int32) p4)), .unset, .unset, .unset, .unset, .unset, .unset, .unset, .unset, .unset, .unset] [(.int (own_entry p1 (3 : Int32) p5))])) _
    refine XS.istore X15.here hx rfl (hb hby at_68) rfl (l' := #[.val (.int p1), .val (.int p2), .val (.int p3), .val (.int p4), .val (.int p5), .val (.int p6), .val (.ref b7), .val (.int (own_entry p1 (0 : Int32) p2)), .val (.int (own_entry p1 (1 : Int32) p3)), .val (.int (own_entry p1 (2 : Int32) p4)), .val (.int (own_entry p1 (3 : Int32) p5)), .unset, .unset, .unset, .unset, .unset, .unset, .unset, .unset, .unset]) rfl ?_
    show Steps p.tables e below (T15.setTop (mkF m 70 #[.val (.int p1), .val (.int p2), .val (.int p3), .val (.int p4), .val (.int p5), .val (.int p6), .val (.ref b7), .val (.int (own_entry p1 (0 : Int32) p2)), .val (.int (own_entry p1 (1 : Int32) p3)), .val (.int (own_entry p1 (2 : Int32) p4)), .val (.int (own_entry p1 (3 : Int32) p5)), .unset, .unset, .unset, .unset, .unset, .unset, .unset, .unset, .unset] [])) _
    refine XS.iconst X15.here hx rfl (hb hby at_70) ?_
    show Steps p.tables e below (T15.setTop (mkF m 71 #[.val (.int p1), .val (.int p2), .val (.int p3), .val (.int p4), .val (.int p5), .val (.int p6), .val (.ref b7), .val (.int (own_entry p1 (0 : Int32) p2)), .val (.int (own_entry p1 (1 : Int32) p3)), .val (.int (own_entry p1 (2 : Int32) p4)), .val (.int (own_entry p1 (3 : Int32) p5)), .unset, .unset, .unset, .unset, .unset, .unset, .unset, .unset, .unset] [(.int (4 : Int32))])) _
    refine st20 _ ?_
    show Steps p.tables e below (T20.setTop (mkF m 73 #[.val (.int p1), .val (.int p2), .val (.int p3), .val (.int p4), .val (.int p5), .val (.int p6), .val (.ref b7), .val (.int (own_entry p1 (0 : Int32) p2)), .val (.int (own_entry p1 (1 : Int32) p3)), .val (.int (own_entry p1 (2 : Int32) p4)), .val (.int (own_entry p1 (3 : Int32) p5)), .unset, .unset, .unset, .unset, .unset, .unset, .unset, .unset, .unset] [(.ref b20)])) _
    refine XS.astore X20.here hx rfl (hb hby at_73) rfl rfl (l' := #[.val (.int p1), .val (.int p2), .val (.int p3), .val (.int p4), .val (.int p5), .val (.int p6), .val (.ref b7), .val (.int (own_entry p1 (0 : Int32) p2)), .val (.int (own_entry p1 (1 : Int32) p3)), .val (.int (own_entry p1 (2 : Int32) p4)), .val (.int (own_entry p1 (3 : Int32) p5)), .val (.ref b20), .unset, .unset, .unset, .unset, .unset, .unset, .unset, .unset]) rfl ?_
    show Steps p.tables e below (T20.setTop (mkF m 75 #[.val (.int p1), .val (.int p2), .val (.int p3), .val (.int p4), .val (.int p5), .val (.int p6), .val (.ref b7), .val (.int (own_entry p1 (0 : Int32) p2)), .val (.int (own_entry p1 (1 : Int32) p3)), .val (.int (own_entry p1 (2 : Int32) p4)), .val (.int (own_entry p1 (3 : Int32) p5)), .val (.ref b20), .unset, .unset, .unset, .unset, .unset, .unset, .unset, .unset] [])) _
    refine st21 _ ?_
    show Steps p.tables e below (T21.setTop (mkF m 78 #[.val (.int p1), .val (.int p2), .val (.int p3), .val (.int p4), .val (.int p5), .val (.int p6), .val (.ref b7), .val (.int (own_entry p1 (0 : Int32) p2)), .val (.int (own_entry p1 (1 : Int32) p3)), .val (.int (own_entry p1 (2 : Int32) p4)), .val (.int (own_entry p1 (3 : Int32) p5)), .val (.ref b20), .unset, .unset, .unset, .unset, .unset, .unset, .unset, .unset] [(.ref b21)])) _
    refine XS.dup X21.here hx rfl (hb hby at_78) rfl rfl ?_
    show Steps p.tables e below (T21.setTop (mkF m 79 #[.val (.int p1), .val (.int p2), .val (.int p3), .val (.int p4), .val (.int p5), .val (.int p6), .val (.ref b7), .val (.int (own_entry p1 (0 : Int32) p2)), .val (.int (own_entry p1 (1 : Int32) p3)), .val (.int (own_entry p1 (2 : Int32) p4)), .val (.int (own_entry p1 (3 : Int32) p5)), .val (.ref b20), .unset, .unset, .unset, .unset, .unset, .unset, .unset, .unset] [(.ref b21), (.ref b21)])) _
    refine st23 _ ?_
    show Steps p.tables e below (T23.setTop (mkF m 82 #[.val (.int p1), .val (.int p2), .val (.int p3), .val (.int p4), .val (.int p5), .val (.int p6), .val (.ref b7), .val (.int (own_entry p1 (0 : Int32) p2)), .val (.int (own_entry p1 (1 : Int32) p3)), .val (.int (own_entry p1 (2 : Int32) p4)), .val (.int (own_entry p1 (3 : Int32) p5)), .val (.ref b20), .unset, .unset, .unset, .unset, .unset, .unset, .unset, .unset] [(.ref w22), (.ref b21), (.ref b21)])) _
    refine st24 _ ?_
    show Steps p.tables e below (T24.setTop (mkF m 85 #[.val (.int p1), .val (.int p2), .val (.int p3), .val (.int p4), .val (.int p5), .val (.int p6), .val (.ref b7), .val (.int (own_entry p1 (0 : Int32) p2)), .val (.int (own_entry p1 (1 : Int32) p3)), .val (.int (own_entry p1 (2 : Int32) p4)), .val (.int (own_entry p1 (3 : Int32) p5)), .val (.ref b20), .unset, .unset, .unset, .unset, .unset, .unset, .unset, .unset] [(.ref b24), (.ref w22), (.ref b21), (.ref b21)])) _
    refine XS.dup X24.here hx rfl (hb hby at_85) rfl rfl ?_
    show Steps p.tables e below (T24.setTop (mkF m 86 #[.val (.int p1), .val (.int p2), .val (.int p3), .val (.int p4), .val (.int p5), .val (.int p6), .val (.ref b7), .val (.int (own_entry p1 (0 : Int32) p2)), .val (.int (own_entry p1 (1 : Int32) p3)), .val (.int (own_entry p1 (2 : Int32) p4)), .val (.int (own_entry p1 (3 : Int32) p5)), .val (.ref b20), .unset, .unset, .unset, .unset, .unset, .unset, .unset, .unset] [(.ref b24), (.ref b24), (.ref w22), (.ref b21), (.ref b21)])) _
    refine st25.trans ?_
    show Steps p.tables e below (T25.setTop (mkF m 89 #[.val (.int p1), .val (.int p2), .val (.int p3), .val (.int p4), .val (.int p5), .val (.int p6), .val (.ref b7), .val (.int (own_entry p1 (0 : Int32) p2)), .val (.int (own_entry p1 (1 : Int32) p3)), .val (.int (own_entry p1 (2 : Int32) p4)), .val (.int (own_entry p1 (3 : Int32) p5)), .val (.ref b20), .unset, .unset, .unset, .unset, .unset, .unset, .unset, .unset] [(.ref b24), (.ref w22), (.ref b21), (.ref b21)])) _
    refine st26.trans ?_
    show Steps p.tables e below (T26.setTop (mkF m 92 #[.val (.int p1), .val (.int p2), .val (.int p3), .val (.int p4), .val (.int p5), .val (.int p6), .val (.ref b7), .val (.int (own_entry p1 (0 : Int32) p2)), .val (.int (own_entry p1 (1 : Int32) p3)), .val (.int (own_entry p1 (2 : Int32) p4)), .val (.int (own_entry p1 (3 : Int32) p5)), .val (.ref b20), .unset, .unset, .unset, .unset, .unset, .unset, .unset, .unset] [(.ref b21)])) _
    refine XS.astore X26.here hx rfl (hb hby at_92) rfl rfl (l' := #[.val (.int p1), .val (.int p2), .val (.int p3), .val (.int p4), .val (.int p5), .val (.int p6), .val (.ref b7), .val (.int (own_entry p1 (0 : Int32) p2)), .val (.int (own_entry p1 (1 : Int32) p3)), .val (.int (own_entry p1 (2 : Int32) p4)), .val (.int (own_entry p1 (3 : Int32) p5)), .val (.ref b20), .val (.ref b21), .unset, .unset, .unset, .unset, .unset, .unset, .unset]) rfl ?_
    show Steps p.tables e below (T26.setTop (mkF m 94 #[.val (.int p1), .val (.int p2), .val (.int p3), .val (.int p4), .val (.int p5), .val (.int p6), .val (.ref b7), .val (.int (own_entry p1 (0 : Int32) p2)), .val (.int (own_entry p1 (1 : Int32) p3)), .val (.int (own_entry p1 (2 : Int32) p4)), .val (.int (own_entry p1 (3 : Int32) p5)), .val (.ref b20), .val (.ref b21), .unset, .unset, .unset, .unset, .unset, .unset, .unset] [])) _
    refine st27 _ ?_
    show Steps p.tables e below (T27.setTop (mkF m 97 #[.val (.int p1), .val (.int p2), .val (.int p3), .val (.int p4), .val (.int p5), .val (.int p6), .val (.ref b7), .val (.int (own_entry p1 (0 : Int32) p2)), .val (.int (own_entry p1 (1 : Int32) p3)), .val (.int (own_entry p1 (2 : Int32) p4)), .val (.int (own_entry p1 (3 : Int32) p5)), .val (.ref b20), .val (.ref b21), .unset, .unset, .unset, .unset, .unset, .unset, .unset] [(.ref b27)])) _
    refine XS.dup X27.here hx rfl (hb hby at_97) rfl rfl ?_
    show Steps p.tables e below (T27.setTop (mkF m 98 #[.val (.int p1), .val (.int p2), .val (.int p3), .val (.int p4), .val (.int p5), .val (.int p6), .val (.ref b7), .val (.int (own_entry p1 (0 : Int32) p2)), .val (.int (own_entry p1 (1 : Int32) p3)), .val (.int (own_entry p1 (2 : Int32) p4)), .val (.int (own_entry p1 (3 : Int32) p5)), .val (.ref b20), .val (.ref b21), .unset, .unset, .unset, .unset, .unset, .unset, .unset] [(.ref b27), (.ref b27)])) _
    refine XS.aload X27.here hx rfl (hb hby at_98) rfl rfl ?_
    show Steps p.tables e below (T27.setTop (mkF m 100 #[.val (.int p1), .val (.int p2), .val (.int p3), .val (.int p4), .val (.int p5), .val (.int p6), .val (.ref b7), .val (.int (own_entry p1 (0 : Int32) p2)), .val (.int (own_entry p1 (1 : Int32) p3)), .val (.int (own_entry p1 (2 : Int32) p4)), .val (.int (own_entry p1 (3 : Int32) p5)), .val (.ref b20), .val (.ref b21), .unset, .unset, .unset, .unset, .unset, .unset, .unset] [(.ref b21), (.ref b27), (.ref b27)])) _
    refine XS.aload X27.here hx rfl (hb hby at_100) rfl rfl ?_
    show Steps p.tables e below (T27.setTop (mkF m 102 #[.val (.int p1), .val (.int p2), .val (.int p3), .val (.int p4), .val (.int p5), .val (.int p6), .val (.ref b7), .val (.int (own_entry p1 (0 : Int32) p2)), .val (.int (own_entry p1 (1 : Int32) p3)), .val (.int (own_entry p1 (2 : Int32) p4)), .val (.int (own_entry p1 (3 : Int32) p5)), .val (.ref b20), .val (.ref b21), .unset, .unset, .unset, .unset, .unset, .unset, .unset] [(.ref b20), (.ref b21), (.ref b27), (.ref b27)])) _
    refine XS.aload X27.here hx rfl (hb hby at_102) rfl rfl ?_
    show Steps p.tables e below (T27.setTop (mkF m 104 #[.val (.int p1), .val (.int p2), .val (.int p3), .val (.int p4), .val (.int p5), .val (.int p6), .val (.ref b7), .val (.int (own_entry p1 (0 : Int32) p2)), .val (.int (own_entry p1 (1 : Int32) p3)), .val (.int (own_entry p1 (2 : Int32) p4)), .val (.int (own_entry p1 (3 : Int32) p5)), .val (.ref b20), .val (.ref b21), .unset, .unset, .unset, .unset, .unset, .unset, .unset] [(.ref b7), (.ref b20), (.ref b21), (.ref b27), (.ref b27)])) _
    refine XS.iload X27.here hx rfl (hb hby at_104) rfl ?_
    show Steps p.tables e below (T27.setTop (mkF m 106 #[.val (.int p1), .val (.int p2), .val (.int p3), .val (.int p4), .val (.int p5), .val (.int p6), .val (.ref b7), .val (.int (own_entry p1 (0 : Int32) p2)), .val (.int (own_entry p1 (1 : Int32) p3)), .val (.int (own_entry p1 (2 : Int32) p4)), .val (.int (own_entry p1 (3 : Int32) p5)), .val (.ref b20), .val (.ref b21), .unset, .unset, .unset, .unset, .unset, .unset, .unset] [(.int p6), (.ref b7), (.ref b20), (.ref b21), (.ref b27), (.ref b27)])) _
    refine XS.iconst X27.here hx rfl (hb hby at_106) ?_
    show Steps p.tables e below (T27.setTop (mkF m 107 #[.val (.int p1), .val (.int p2), .val (.int p3), .val (.int p4), .val (.int p5), .val (.int p6), .val (.ref b7), .val (.int (own_entry p1 (0 : Int32) p2)), .val (.int (own_entry p1 (1 : Int32) p3)), .val (.int (own_entry p1 (2 : Int32) p4)), .val (.int (own_entry p1 (3 : Int32) p5)), .val (.ref b20), .val (.ref b21), .unset, .unset, .unset, .unset, .unset, .unset, .unset] [(.int (3 : Int32)), (.int p6), (.ref b7), (.ref b20), (.ref b21), (.ref b27), (.ref b27)])) _
    refine XS.iand X27.here hx rfl (hb hby at_107) rfl ?_
    show Steps p.tables e below (T27.setTop (mkF m 108 #[.val (.int p1), .val (.int p2), .val (.int p3), .val (.int p4), .val (.int p5), .val (.int p6), .val (.ref b7), .val (.int (own_entry p1 (0 : Int32) p2)), .val (.int (own_entry p1 (1 : Int32) p3)), .val (.int (own_entry p1 (2 : Int32) p4)), .val (.int (own_entry p1 (3 : Int32) p5)), .val (.ref b20), .val (.ref b21), .unset, .unset, .unset, .unset, .unset, .unset, .unset] [(.int (p6 &&& (3 : Int32))), (.ref b7), (.ref b20), (.ref b21), (.ref b27), (.ref b27)])) _
    refine st28.trans ?_
    show Steps p.tables e below (T28.setTop (mkF m 111 #[.val (.int p1), .val (.int p2), .val (.int p3), .val (.int p4), .val (.int p5), .val (.int p6), .val (.ref b7), .val (.int (own_entry p1 (0 : Int32) p2)), .val (.int (own_entry p1 (1 : Int32) p3)), .val (.int (own_entry p1 (2 : Int32) p4)), .val (.int (own_entry p1 (3 : Int32) p5)), .val (.ref b20), .val (.ref b21), .unset, .unset, .unset, .unset, .unset, .unset, .unset] [(.ref b27)])) _
    refine XS.astore X28.here hx rfl (hb hby at_111) rfl rfl (l' := #[.val (.int p1), .val (.int p2), .val (.int p3), .val (.int p4), .val (.int p5), .val (.int p6), .val (.ref b7), .val (.int (own_entry p1 (0 : Int32) p2)), .val (.int (own_entry p1 (1 : Int32) p3)), .val (.int (own_entry p1 (2 : Int32) p4)), .val (.int (own_entry p1 (3 : Int32) p5)), .val (.ref b20), .val (.ref b21), .val (.ref b27), .unset, .unset, .unset, .unset, .unset, .unset]) rfl ?_
    show Steps p.tables e below (T28.setTop (mkF m 113 #[.val (.int p1), .val (.int p2), .val (.int p3), .val (.int p4), .val (.int p5), .val (.int p6), .val (.ref b7), .val (.int (own_entry p1 (0 : Int32) p2)), .val (.int (own_entry p1 (1 : Int32) p3)), .val (.int (own_entry p1 (2 : Int32) p4)), .val (.int (own_entry p1 (3 : Int32) p5)), .val (.ref b20), .val (.ref b21), .val (.ref b27), .unset, .unset, .unset, .unset, .unset, .unset] [])) _
    refine XS.aload X28.here hx rfl (hb hby at_113) rfl rfl ?_
    show Steps p.tables e below (T28.setTop (mkF m 115 #[.val (.int p1), .val (.int p2), .val (.int p3), .val (.int p4), .val (.int p5), .val (.int p6), .val (.ref b7), .val (.int (own_entry p1 (0 : Int32) p2)), .val (.int (own_entry p1 (1 : Int32) p3)), .val (.int (own_entry p1 (2 : Int32) p4)), .val (.int (own_entry p1 (3 : Int32) p5)), .val (.ref b20), .val (.ref b21), .val (.ref b27), .unset, .unset, .unset, .unset, .unset, .unset] [(.ref b27)])) _
    refine XS.iconst X28.here hx rfl (hb hby at_115) ?_
    show Steps p.tables e below (T28.setTop (mkF m 116 #[.val (.int p1), .val (.int p2), .val (.int p3), .val (.int p4), .val (.int p5), .val (.int p6), .val (.ref b7), .val (.int (own_entry p1 (0 : Int32) p2)), .val (.int (own_entry p1 (1 : Int32) p3)), .val (.int (own_entry p1 (2 : Int32) p4)), .val (.int (own_entry p1 (3 : Int32) p5)), .val (.ref b20), .val (.ref b21), .val (.ref b27), .unset, .unset, .unset, .unset, .unset, .unset] [(.int (0 : Int32)), (.ref b27)])) _
    refine st29.trans ?_
    show Steps p.tables e below (T29.setTop (mkF m 119 #[.val (.int p1), .val (.int p2), .val (.int p3), .val (.int p4), .val (.int p5), .val (.int p6), .val (.ref b7), .val (.int (own_entry p1 (0 : Int32) p2)), .val (.int (own_entry p1 (1 : Int32) p3)), .val (.int (own_entry p1 (2 : Int32) p4)), .val (.int (own_entry p1 (3 : Int32) p5)), .val (.ref b20), .val (.ref b21), .val (.ref b27), .unset, .unset, .unset, .unset, .unset, .unset] [(.int (own_free (own_entry p1 (0 : Int32) p2)))])) _
    refine XS.istore X29.here hx rfl (hb hby at_119) rfl (l' := #[.val (.int p1), .val (.int p2), .val (.int p3), .val (.int p4), .val (.int p5), .val (.int p6), .val (.ref b7), .val (.int (own_entry p1 (0 : Int32) p2)), .val (.int (own_entry p1 (1 : Int32) p3)), .val (.int (own_entry p1 (2 : Int32) p4)), .val (.int (own_entry p1 (3 : Int32) p5)), .val (.ref b20), .val (.ref b21), .val (.ref b27), .val (.int (own_free (own_entry p1 (0 : Int32) p2))), .unset, .unset, .unset, .unset, .unset]) rfl ?_
    show Steps p.tables e below (T29.setTop (mkF m 121 #[.val (.int p1), .val (.int p2), .val (.int p3), .val (.int p4), .val (.int p5), .val (.int p6), .val (.ref b7), .val (.int (own_entry p1 (0 : Int32) p2)), .val (.int (own_entry p1 (1 : Int32) p3)), .val (.int (own_entry p1 (2 : Int32) p4)), .val (.int (own_entry p1 (3 : Int32) p5)), .val (.ref b20), .val (.ref b21), .val (.ref b27), .val (.int (own_free (own_entry p1 (0 : Int32) p2))), .unset, .unset, .unset, .unset, .unset] [])) _
    refine XS.aload X29.here hx rfl (hb hby at_121) rfl rfl ?_
    show Steps p.tables e below (T29.setTop (mkF m 123 #[.val (.int p1), .val (.int p2), .val (.int p3), .val (.int p4), .val (.int p5), .val (.int p6), .val (.ref b7), .val (.int (own_entry p1 (0 : Int32) p2)), .val (.int (own_entry p1 (1 : Int32) p3)), .val (.int (own_entry p1 (2 : Int32) p4)), .val (.int (own_entry p1 (3 : Int32) p5)), .val (.ref b20), .val (.ref b21), .val (.ref b27), .val (.int (own_free (own_entry p1 (0 : Int32) p2))), .unset, .unset, .unset, .unset, .unset] [(.ref b27)])) _
    refine XS.iconst X29.here hx rfl (hb hby at_123) ?_
    show Steps p.tables e below (T29.setTop (mkF m 124 #[.val (.int p1), .val (.int p2), .val (.int p3), .val (.int p4), .val (.int p5), .val (.int p6), .val (.ref b7), .val (.int (own_entry p1 (0 : Int32) p2)), .val (.int (own_entry p1 (1 : Int32) p3)), .val (.int (own_entry p1 (2 : Int32) p4)), .val (.int (own_entry p1 (3 : Int32) p5)), .val (.ref b20), .val (.ref b21), .val (.ref b27), .val (.int (own_free (own_entry p1 (0 : Int32) p2))), .unset, .unset, .unset, .unset, .unset] [(.int (1 : Int32)), (.ref b27)])) _
    refine st30.trans ?_
    show Steps p.tables e below (T30.setTop (mkF m 127 #[.val (.int p1), .val (.int p2), .val (.int p3), .val (.int p4), .val (.int p5), .val (.int p6), .val (.ref b7), .val (.int (own_entry p1 (0 : Int32) p2)), .val (.int (own_entry p1 (1 : Int32) p3)), .val (.int (own_entry p1 (2 : Int32) p4)), .val (.int (own_entry p1 (3 : Int32) p5)), .val (.ref b20), .val (.ref b21), .val (.ref b27), .val (.int (own_free (own_entry p1 (0 : Int32) p2))), .unset, .unset, .unset, .unset, .unset] [(.int (own_free (own_entry p1 (1 : Int32) p3)))])) _
    refine XS.istore X30.here hx rfl (hb hby at_127) rfl (l' := #[.val (.int p1), .val (.int p2), .val (.int p3), .val (.int p4), .val (.int p5), .val (.int p6), .val (.ref b7), .val (.int (own_entry p1 (0 : Int32) p2)), .val (.int (own_entry p1 (1 : Int32) p3)), .val (.int (own_entry p1 (2 : Int32) p4)), .val (.int (own_entry p1 (3 : Int32) p5)), .val (.ref b20), .val (.ref b21), .val (.ref b27), .val (.int (own_free (own_entry p1 (0 : Int32) p2))), .val (.int (own_free (own_entry p1 (1 : Int32) p3))), .unset, .unset, .unset, .unset]) rfl ?_
    show Steps p.tables e below (T30.setTop (mkF m 129 #[.val (.int p1), .val (.int p2), .val (.int p3), .val (.int p4), .val (.int p5), .val (.int p6), .val (.ref b7), .val (.int (own_entry p1 (0 : Int32) p2)), .val (.int (own_entry p1 (1 : Int32) p3)), .val (.int (own_entry p1 (2 : Int32) p4)), .val (.int (own_entry p1 (3 : Int32) p5)), .val (.ref b20), .val (.ref b21), .val (.ref b27), .val (.int (own_free (own_entry p1 (0 : Int32) p2))), .val (.int (own_free (own_entry p1 (1 : Int32) p3))), .unset, .unset, .unset, .unset] [])) _
    refine XS.aload X30.here hx rfl (hb hby at_129) rfl rfl ?_
    show Steps p.tables e below (T30.setTop (mkF m 131 #[.val (.int p1), .val (.int p2), .val (.int p3), .val (.int p4), .val (.int p5), .val (.int p6), .val (.ref b7), .val (.int (own_entry p1 (0 : Int32) p2)), .val (.int (own_entry p1 (1 : Int32) p3)), .val (.int (own_entry p1 (2 : Int32) p4)), .val (.int (own_entry p1 (3 : Int32) p5)), .val (.ref b20), .val (.ref b21), .val (.ref b27), .val (.int (own_free (own_entry p1 (0 : Int32) p2))), .val (.int (own_free (own_entry p1 (1 : Int32) p3))), .unset, .unset, .unset, .unset] [(.ref b27)])) _
    refine XS.iconst X30.here hx rfl (hb hby at_131) ?_
    show Steps p.tables e below (T30.setTop (mkF m 132 #[.val (.int p1), .val (.int p2), .val (.int p3), .val (.int p4), .val (.int p5), .val (.int p6), .val (.ref b7), .val (.int (own_entry p1 (0 : Int32) p2)), .val (.int (own_entry p1 (1 : Int32) p3)), .val (.int (own_entry p1 (2 : Int32) p4)), .val (.int (own_entry p1 (3 : Int32) p5)), .val (.ref b20), .val (.ref b21), .val (.ref b27), .val (.int (own_free (own_entry p1 (0 : Int32) p2))), .val (.int (own_free (own_entry p1 (1 : Int32) p3))), .unset, .unset, .unset, .unset] [(.int (2 : Int32)), (.ref b27)])) _
    refine st31.trans ?_
    show Steps p.tables e below (T31.setTop (mkF m 135 #[.val (.int p1), .val (.int p2), .val (.int p3), .val (.int p4), .val (.int p5), .val (.int p6), .val (.ref b7), .val (.int (own_entry p1 (0 : Int32) p2)), .val (.int (own_entry p1 (1 : Int32) p3)), .val (.int (own_entry p1 (2 : Int32) p4)), .val (.int (own_entry p1 (3 : Int32) p5)), .val (.ref b20), .val (.ref b21), .val (.ref b27), .val (.int (own_free (own_entry p1 (0 : Int32) p2))), .val (.int (own_free (own_entry p1 (1 : Int32) p3))), .unset, .unset, .unset, .unset] [(.int (own_free (own_entry p1 (2 : Int32) p4)))])) _
    refine XS.istore X31.here hx rfl (hb hby at_135) rfl (l' := #[.val (.int p1), .val (.int p2), .val (.int p3), .val (.int p4), .val (.int p5), .val (.int p6), .val (.ref b7), .val (.int (own_entry p1 (0 : Int32) p2)), .val (.int (own_entry p1 (1 : Int32) p3)), .val (.int (own_entry p1 (2 : Int32) p4)), .val (.int (own_entry p1 (3 : Int32) p5)), .val (.ref b20), .val (.ref b21), .val (.ref b27), .val (.int (own_free (own_entry p1 (0 : Int32) p2))), .val (.int (own_free (own_entry p1 (1 : Int32) p3))), .val (.int (own_free (own_entry p1 (2 : Int32) p4))), .unset, .unset, .unset]) rfl ?_
    show Steps p.tables e below (T31.setTop (mkF m 137 #[.val (.int p1), .val (.int p2), .val (.int p3), .val (.int p4), .val (.int p5), .val (.int p6), .val (.ref b7), .val (.int (own_entry p1 (0 : Int32) p2)), .val (.int (own_entry p1 (1 : Int32) p3)), .val (.int (own_entry p1 (2 : Int32) p4)), .val (.int (own_entry p1 (3 : Int32) p5)), .val (.ref b20), .val (.ref b21), .val (.ref b27), .val (.int (own_free (own_entry p1 (0 : Int32) p2))), .val (.int (own_free (own_entry p1 (1 : Int32) p3))), .val (.int (own_free (own_entry p1 (2 : Int32) p4))), .unset, .unset, .unset] [])) _
    refine XS.aload X31.here hx rfl (hb hby at_137) rfl rfl ?_
    show Steps p.tables e below (T31.setTop (mkF m 139 #[.val (.int p1), .val (.int p2), .val (.int p3), .val (.int p4), .val (.int p5), .val (.int p6), .val (.ref b7), .val (.int (own_entry p1 (0 : Int32) p2)), .val (.int (own_entry p1 (1 : Int32) p3)), .val (.int (own_entry p1 (2 : Int32) p4)), .val (.int (own_entry p1 (3 : Int32) p5)), .val (.ref b20), .val (.ref b21), .val (.ref b27), .val (.int (own_free (own_entry p1 (0 : Int32) p2))), .val (.int (own_free (own_entry p1 (1 : Int32) p3))), .val (.int (own_free (own_entry p1 (2 : Int32) p4))), .unset, .unset, .unset] [(.ref b27)])) _
    refine XS.iconst X31.here hx rfl (hb hby at_139) ?_
    show Steps p.tables e below (T31.setTop (mkF m 140 #[.val (.int p1), .val (.int p2), .val (.int p3), .val (.int p4), .val (.int p5), .val (.int p6), .val (.ref b7), .val (.int (own_entry p1 (0 : Int32) p2)), .val (.int (own_entry p1 (1 : Int32) p3)), .val (.int (own_entry p1 (2 : Int32) p4)), .val (.int (own_entry p1 (3 : Int32) p5)), .val (.ref b20), .val (.ref b21), .val (.ref b27), .val (.int (own_free (own_entry p1 (0 : Int32) p2))), .val (.int (own_free (own_entry p1 (1 : Int32) p3))), .val (.int (own_free (own_entry p1 (2 : Int32) p4))), .unset, .unset, .unset] [(.int (3 : Int32)), (.ref b27)])) _
    refine st32.trans ?_
    show Steps p.tables e below (T32.setTop (mkF m 143 #[.val (.int p1), .val (.int p2), .val (.int p3), .val (.int p4), .val (.int p5), .val (.int p6), .val (.ref b7), .val (.int (own_entry p1 (0 : Int32) p2)), .val (.int (own_entry p1 (1 : Int32) p3)), .val (.int (own_entry p1 (2 : Int32) p4)), .val (.int (own_entry p1 (3 : Int32) p5)), .val (.ref b20), .val (.ref b21), .val (.ref b27), .val (.int (own_free (own_entry p1 (0 : Int32) p2))), .val (.int (own_free (own_entry p1 (1 : Int32) p3))), .val (.int (own_free (own_entry p1 (2 : Int32) p4))), .unset, .unset, .unset] [(.int (own_free (own_entry p1 (3 : Int32) p5)))])) _
    refine XS.istore X32.here hx rfl (hb hby at_143) rfl (l' := #[.val (.int p1), .val (.int p2), .val (.int p3), .val (.int p4), .val (.int p5), .val (.int p6), .val (.ref b7), .val (.int (own_entry p1 (0 : Int32) p2)), .val (.int (own_entry p1 (1 : Int32) p3)), .val (.int (own_entry p1 (2 : Int32) p4)), .val (.int (own_entry p1 (3 : Int32) p5)), .val (.ref b20), .val (.ref b21), .val (.ref b27), .val (.int (own_free (own_entry p1 (0 : Int32) p2))), .val (.int (own_free (own_entry p1 (1 : Int32) p3))), .val (.int (own_free (own_entry p1 (2 : Int32) p4))), .val (.int (own_free (own_entry p1 (3 : Int32) p5))), .unset, .unset]) rfl ?_
    show Steps p.tables e below (T32.setTop (mkF m 145 #[.val (.int p1), .val (.int p2), .val (.int p3), .val (.int p4), .val (.int p5), .val (.int p6), .val (.ref b7), .val (.int (own_entry p1 (0 : Int32) p2)), .val (.int (own_entry p1 (1 : Int32) p3)), .val (.int (own_entry p1 (2 : Int32) p4)), .val (.int (own_entry p1 (3 : Int32) p5)), .val (.ref b20), .val (.ref b21), .val (.ref b27), .val (.int (own_free (own_entry p1 (0 : Int32) p2))), .val (.int (own_free (own_entry p1 (1 : Int32) p3))), .val (.int (own_free (own_entry p1 (2 : Int32) p4))), .val (.int (own_free (own_entry p1 (3 : Int32) p5))), .unset, .unset] [])) _
    refine XS.iload X32.here hx rfl (hb hby at_145) rfl ?_
    show Steps p.tables e below (T32.setTop (mkF m 147 #[.val (.int p1), .val (.int p2), .val (.int p3), .val (.int p4), .val (.int p5), .val (.int p6), .val (.ref b7), .val (.int (own_entry p1 (0 : Int32) p2)), .val (.int (own_entry p1 (1 : Int32) p3)), .val (.int (own_entry p1 (2 : Int32) p4)), .val (.int (own_entry p1 (3 : Int32) p5)), .val (.ref b20), .val (.ref b21), .val (.ref b27), .val (.int (own_free (own_entry p1 (0 : Int32) p2))), .val (.int (own_free (own_entry p1 (1 : Int32) p3))), .val (.int (own_free (own_entry p1 (2 : Int32) p4))), .val (.int (own_free (own_entry p1 (3 : Int32) p5))), .unset, .unset] [(.int (own_free (own_entry p1 (0 : Int32) p2)))])) _
    refine XS.iloadN X32.here hx rfl (hb hby at_147) rfl ?_
    show Steps p.tables e below (T32.setTop (mkF m 148 #[.val (.int p1), .val (.int p2), .val (.int p3), .val (.int p4), .val (.int p5), .val (.int p6), .val (.ref b7), .val (.int (own_entry p1 (0 : Int32) p2)), .val (.int (own_entry p1 (1 : Int32) p3)), .val (.int (own_entry p1 (2 : Int32) p4)), .val (.int (own_entry p1 (3 : Int32) p5)), .val (.ref b20), .val (.ref b21), .val (.ref b27), .val (.int (own_free (own_entry p1 (0 : Int32) p2))), .val (.int (own_free (own_entry p1 (1 : Int32) p3))), .val (.int (own_free (own_entry p1 (2 : Int32) p4))), .val (.int (own_free (own_entry p1 (3 : Int32) p5))), .unset, .unset] [(.int p1), (.int (own_free (own_entry p1 (0 : Int32) p2)))])) _
    refine XS.iconst X32.here hx rfl (hb hby at_148) ?_
    show Steps p.tables e below (T32.setTop (mkF m 149 #[.val (.int p1), .val (.int p2), .val (.int p3), .val (.int p4), .val (.int p5), .val (.int p6), .val (.ref b7), .val (.int (own_entry p1 (0 : Int32) p2)), .val (.int (own_entry p1 (1 : Int32) p3)), .val (.int (own_entry p1 (2 : Int32) p4)), .val (.int (own_entry p1 (3 : Int32) p5)), .val (.ref b20), .val (.ref b21), .val (.ref b27), .val (.int (own_free (own_entry p1 (0 : Int32) p2))), .val (.int (own_free (own_entry p1 (1 : Int32) p3))), .val (.int (own_free (own_entry p1 (2 : Int32) p4))), .val (.int (own_free (own_entry p1 (3 : Int32) p5))), .unset, .unset] [(.int (0 : Int32)), (.int p1), (.int (own_free (own_entry p1 (0 : Int32) p2)))])) _
    refine st33 _ ?_
    show Steps p.tables e below (T33.setTop (mkF m 152 #[.val (.int p1), .val (.int p2), .val (.int p3), .val (.int p4), .val (.int p5), .val (.int p6), .val (.ref b7), .val (.int (own_entry p1 (0 : Int32) p2)), .val (.int (own_entry p1 (1 : Int32) p3)), .val (.int (own_entry p1 (2 : Int32) p4)), .val (.int (own_entry p1 (3 : Int32) p5)), .val (.ref b20), .val (.ref b21), .val (.ref b27), .val (.int (own_free (own_entry p1 (0 : Int32) p2))), .val (.int (own_free (own_entry p1 (1 : Int32) p3))), .val (.int (own_free (own_entry p1 (2 : Int32) p4))), .val (.int (own_free (own_entry p1 (3 : Int32) p5))), .unset, .unset] [(.int (own_held p1 (0 : Int32))), (.int (own_free (own_entry p1 (0 : Int32) p2)))])) _
    refine own_not152 X33 hx hby ?_
    show Steps p.tables e below (T33.setTop (mkF m 160 #[.val (.int p1), .val (.int p2), .val (.int p3), .val (.int p4), .val (.int p5), .val (.int p6), .val (.ref b7), .val (.int (own_entry p1 (0 : Int32) p2)), .val (.int (own_entry p1 (1 : Int32) p3)), .val (.int (own_entry p1 (2 : Int32) p4)), .val (.int (own_entry p1 (3 : Int32) p5)), .val (.ref b20), .val (.ref b21), .val (.ref b27), .val (.int (own_free (own_entry p1 (0 : Int32) p2))), .val (.int (own_free (own_entry p1 (1 : Int32) p3))), .val (.int (own_free (own_entry p1 (2 : Int32) p4))), .val (.int (own_free (own_entry p1 (3 : Int32) p5))), .unset, .unset] [(.int (own_not (own_held p1 (0 : Int32)))), (.int (own_free (own_entry p1 (0 : Int32) p2)))])) _
    refine XS.icmpNo X33.here hx rfl (hb hby at_160) rfl (teq (own_eq p1 (0 : Int32) p2)).2 ?_
    show Steps p.tables e below (T33.setTop (mkF m 163 #[.val (.int p1), .val (.int p2), .val (.int p3), .val (.int p4), .val (.int p5), .val (.int p6), .val (.ref b7), .val (.int (own_entry p1 (0 : Int32) p2)), .val (.int (own_entry p1 (1 : Int32) p3)), .val (.int (own_entry p1 (2 : Int32) p4)), .val (.int (own_entry p1 (3 : Int32) p5)), .val (.ref b20), .val (.ref b21), .val (.ref b27), .val (.int (own_free (own_entry p1 (0 : Int32) p2))), .val (.int (own_free (own_entry p1 (1 : Int32) p3))), .val (.int (own_free (own_entry p1 (2 : Int32) p4))), .val (.int (own_free (own_entry p1 (3 : Int32) p5))), .unset, .unset] [])) _
    refine XS.iload X33.here hx rfl (hb hby at_163) rfl ?_
    show Steps p.tables e below (T33.setTop (mkF m 165 #[.val (.int p1), .val (.int p2), .val (.int p3), .val (.int p4), .val (.int p5), .val (.int p6), .val (.ref b7), .val (.int (own_entry p1 (0 : Int32) p2)), .val (.int (own_entry p1 (1 : Int32) p3)), .val (.int (own_entry p1 (2 : Int32) p4)), .val (.int (own_entry p1 (3 : Int32) p5)), .val (.ref b20), .val (.ref b21), .val (.ref b27), .val (.int (own_free (own_entry p1 (0 : Int32) p2))), .val (.int (own_free (own_entry p1 (1 : Int32) p3))), .val (.int (own_free (own_entry p1 (2 : Int32) p4))), .val (.int (own_free (own_entry p1 (3 : Int32) p5))), .unset, .unset] [(.int (own_free (own_entry p1 (1 : Int32) p3)))])) _
    refine XS.iloadN X33.here hx rfl (hb hby at_165) rfl ?_
    show Steps p.tables e below (T33.setTop (mkF m 166 #[.val (.int p1), .val (.int p2), .val (.int p3), .val (.int p4), .val (.int p5), .val (.int p6), .val (.ref b7), .val (.int (own_entry p1 (0 : Int32) p2)), .val (.int (own_entry p1 (1 : Int32) p3)), .val (.int (own_entry p1 (2 : Int32) p4)), .val (.int (own_entry p1 (3 : Int32) p5)), .val (.ref b20), .val (.ref b21), .val (.ref b27), .val (.int (own_free (own_entry p1 (0 : Int32) p2))), .val (.int (own_free (own_entry p1 (1 : Int32) p3))), .val (.int (own_free (own_entry p1 (2 : Int32) p4))), .val (.int (own_free (own_entry p1 (3 : Int32) p5))), .unset, .unset] [(.int p1), (.int (own_free (own_entry p1 (1 : Int32) p3)))])) _
    refine XS.iconst X33.here hx rfl (hb hby at_166) ?_
    show Steps p.tables e below (T33.setTop (mkF m 167 #[.val (.int p1), .val (.int p2), .val (.int p3), .val (.int p4), .val (.int p5), .val (.int p6), .val (.ref b7), .val (.int (own_entry p1 (0 : Int32) p2)), .val (.int (own_entry p1 (1 : Int32) p3)), .val (.int (own_entry p1 (2 : Int32) p4)), .val (.int (own_entry p1 (3 : Int32) p5)), .val (.ref b20), .val (.ref b21), .val (.ref b27), .val (.int (own_free (own_entry p1 (0 : Int32) p2))), .val (.int (own_free (own_entry p1 (1 : Int32) p3))), .val (.int (own_free (own_entry p1 (2 : Int32) p4))), .val (.int (own_free (own_entry p1 (3 : Int32) p5))), .unset, .unset] [(.int (1 : Int32)), (.int p1), (.int (own_free (own_entry p1 (1 : Int32) p3)))])) _
    refine st34 _ ?_
    show Steps p.tables e below (T34.setTop (mkF m 170 #[.val (.int p1), .val (.int p2), .val (.int p3), .val (.int p4), .val (.int p5), .val (.int p6), .val (.ref b7), .val (.int (own_entry p1 (0 : Int32) p2)), .val (.int (own_entry p1 (1 : Int32) p3)), .val (.int (own_entry p1 (2 : Int32) p4)), .val (.int (own_entry p1 (3 : Int32) p5)), .val (.ref b20), .val (.ref b21), .val (.ref b27), .val (.int (own_free (own_entry p1 (0 : Int32) p2))), .val (.int (own_free (own_entry p1 (1 : Int32) p3))), .val (.int (own_free (own_entry p1 (2 : Int32) p4))), .val (.int (own_free (own_entry p1 (3 : Int32) p5))), .unset, .unset] [(.int (own_held p1 (1 : Int32))), (.int (own_free (own_entry p1 (1 : Int32) p3)))])) _
    refine own_not170 X34 hx hby ?_
    show Steps p.tables e below (T34.setTop (mkF m 178 #[.val (.int p1), .val (.int p2), .val (.int p3), .val (.int p4), .val (.int p5), .val (.int p6), .val (.ref b7), .val (.int (own_entry p1 (0 : Int32) p2)), .val (.int (own_entry p1 (1 : Int32) p3)), .val (.int (own_entry p1 (2 : Int32) p4)), .val (.int (own_entry p1 (3 : Int32) p5)), .val (.ref b20), .val (.ref b21), .val (.ref b27), .val (.int (own_free (own_entry p1 (0 : Int32) p2))), .val (.int (own_free (own_entry p1 (1 : Int32) p3))), .val (.int (own_free (own_entry p1 (2 : Int32) p4))), .val (.int (own_free (own_entry p1 (3 : Int32) p5))), .unset, .unset] [(.int (own_not (own_held p1 (1 : Int32)))), (.int (own_free (own_entry p1 (1 : Int32) p3)))])) _
    refine XS.icmpNo X34.here hx rfl (hb hby at_178) rfl (teq (own_eq p1 (1 : Int32) p3)).2 ?_
    show Steps p.tables e below (T34.setTop (mkF m 181 #[.val (.int p1), .val (.int p2), .val (.int p3), .val (.int p4), .val (.int p5), .val (.int p6), .val (.ref b7), .val (.int (own_entry p1 (0 : Int32) p2)), .val (.int (own_entry p1 (1 : Int32) p3)), .val (.int (own_entry p1 (2 : Int32) p4)), .val (.int (own_entry p1 (3 : Int32) p5)), .val (.ref b20), .val (.ref b21), .val (.ref b27), .val (.int (own_free (own_entry p1 (0 : Int32) p2))), .val (.int (own_free (own_entry p1 (1 : Int32) p3))), .val (.int (own_free (own_entry p1 (2 : Int32) p4))), .val (.int (own_free (own_entry p1 (3 : Int32) p5))), .unset, .unset] [])) _
    refine XS.iload X34.here hx rfl (hb hby at_181) rfl ?_
    show Steps p.tables e below (T34.setTop (mkF m 183 #[.val (.int p1), .val (.int p2), .val (.int p3), .val (.int p4), .val (.int p5), .val (.int p6), .val (.ref b7), .val (.int (own_entry p1 (0 : Int32) p2)), .val (.int (own_entry p1 (1 : Int32) p3)), .val (.int (own_entry p1 (2 : Int32) p4)), .val (.int (own_entry p1 (3 : Int32) p5)), .val (.ref b20), .val (.ref b21), .val (.ref b27), .val (.int (own_free (own_entry p1 (0 : Int32) p2))), .val (.int (own_free (own_entry p1 (1 : Int32) p3))), .val (.int (own_free (own_entry p1 (2 : Int32) p4))), .val (.int (own_free (own_entry p1 (3 : Int32) p5))), .unset, .unset] [(.int (own_free (own_entry p1 (2 : Int32) p4)))])) _
    refine XS.iloadN X34.here hx rfl (hb hby at_183) rfl ?_
    show Steps p.tables e below (T34.setTop (mkF m 184 #[.val (.int p1), .val (.int p2), .val (.int p3), .val (.int p4), .val (.int p5), .val (.int p6), .val (.ref b7), .val (.int (own_entry p1 (0 : Int32) p2)), .val (.int (own_entry p1 (1 : Int32) p3)), .val (.int (own_entry p1 (2 : Int32) p4)), .val (.int (own_entry p1 (3 : Int32) p5)), .val (.ref b20), .val (.ref b21), .val (.ref b27), .val (.int (own_free (own_entry p1 (0 : Int32) p2))), .val (.int (own_free (own_entry p1 (1 : Int32) p3))), .val (.int (own_free (own_entry p1 (2 : Int32) p4))), .val (.int (own_free (own_entry p1 (3 : Int32) p5))), .unset, .unset] [(.int p1), (.int (own_free (own_entry p1 (2 : Int32) p4)))])) _
    refine XS.iconst X34.here hx rfl (hb hby at_184) ?_
    show Steps p.tables e below (T34.setTop (mkF m 185 #[.val (.int p1), .val (.int p2), .val (.int p3), .val (.int p4), .val (.int p5), .val (.int p6), .val (.ref b7), .val (.int (own_entry p1 (0 : Int32) p2)), .val (.int (own_entry p1 (1 : Int32) p3)), .val (.int (own_entry p1 (2 : Int32) p4)), .val (.int (own_entry p1 (3 : Int32) p5)), .val (.ref b20), .val (.ref b21), .val (.ref b27), .val (.int (own_free (own_entry p1 (0 : Int32) p2))), .val (.int (own_free (own_entry p1 (1 : Int32) p3))), .val (.int (own_free (own_entry p1 (2 : Int32) p4))), .val (.int (own_free (own_entry p1 (3 : Int32) p5))), .unset, .unset] [(.int (2 : Int32)), (.int p1), (.int (own_free (own_entry p1 (2 : Int32) p4)))])) _
    refine st35 _ ?_
    show Steps p.tables e below (T35.setTop (mkF m 188 #[.val (.int p1), .val (.int p2), .val (.int p3), .val (.int p4), .val (.int p5), .val (.int p6), .val (.ref b7), .val (.int (own_entry p1 (0 : Int32) p2)), .val (.int (own_entry p1 (1 : Int32) p3)), .val (.int (own_entry p1 (2 : Int32) p4)), .val (.int (own_entry p1 (3 : Int32) p5)), .val (.ref b20), .val (.ref b21), .val (.ref b27), .val (.int (own_free (own_entry p1 (0 : Int32) p2))), .val (.int (own_free (own_entry p1 (1 : Int32) p3))), .val (.int (own_free (own_entry p1 (2 : Int32) p4))), .val (.int (own_free (own_entry p1 (3 : Int32) p5))), .unset, .unset] [(.int (own_held p1 (2 : Int32))), (.int (own_free (own_entry p1 (2 : Int32) p4)))])) _
    refine own_not188 X35 hx hby ?_
    show Steps p.tables e below (T35.setTop (mkF m 196 #[.val (.int p1), .val (.int p2), .val (.int p3), .val (.int p4), .val (.int p5), .val (.int p6), .val (.ref b7), .val (.int (own_entry p1 (0 : Int32) p2)), .val (.int (own_entry p1 (1 : Int32) p3)), .val (.int (own_entry p1 (2 : Int32) p4)), .val (.int (own_entry p1 (3 : Int32) p5)), .val (.ref b20), .val (.ref b21), .val (.ref b27), .val (.int (own_free (own_entry p1 (0 : Int32) p2))), .val (.int (own_free (own_entry p1 (1 : Int32) p3))), .val (.int (own_free (own_entry p1 (2 : Int32) p4))), .val (.int (own_free (own_entry p1 (3 : Int32) p5))), .unset, .unset] [(.int (own_not (own_held p1 (2 : Int32)))), (.int (own_free (own_entry p1 (2 : Int32) p4)))])) _
    refine XS.icmpNo X35.here hx rfl (hb hby at_196) rfl (teq (own_eq p1 (2 : Int32) p4)).2 ?_
    show Steps p.tables e below (T35.setTop (mkF m 199 #[.val (.int p1), .val (.int p2), .val (.int p3), .val (.int p4), .val (.int p5), .val (.int p6), .val (.ref b7), .val (.int (own_entry p1 (0 : Int32) p2)), .val (.int (own_entry p1 (1 : Int32) p3)), .val (.int (own_entry p1 (2 : Int32) p4)), .val (.int (own_entry p1 (3 : Int32) p5)), .val (.ref b20), .val (.ref b21), .val (.ref b27), .val (.int (own_free (own_entry p1 (0 : Int32) p2))), .val (.int (own_free (own_entry p1 (1 : Int32) p3))), .val (.int (own_free (own_entry p1 (2 : Int32) p4))), .val (.int (own_free (own_entry p1 (3 : Int32) p5))), .unset, .unset] [])) _
    refine XS.iload X35.here hx rfl (hb hby at_199) rfl ?_
    show Steps p.tables e below (T35.setTop (mkF m 201 #[.val (.int p1), .val (.int p2), .val (.int p3), .val (.int p4), .val (.int p5), .val (.int p6), .val (.ref b7), .val (.int (own_entry p1 (0 : Int32) p2)), .val (.int (own_entry p1 (1 : Int32) p3)), .val (.int (own_entry p1 (2 : Int32) p4)), .val (.int (own_entry p1 (3 : Int32) p5)), .val (.ref b20), .val (.ref b21), .val (.ref b27), .val (.int (own_free (own_entry p1 (0 : Int32) p2))), .val (.int (own_free (own_entry p1 (1 : Int32) p3))), .val (.int (own_free (own_entry p1 (2 : Int32) p4))), .val (.int (own_free (own_entry p1 (3 : Int32) p5))), .unset, .unset] [(.int (own_free (own_entry p1 (3 : Int32) p5)))])) _
    refine XS.iloadN X35.here hx rfl (hb hby at_201) rfl ?_
    show Steps p.tables e below (T35.setTop (mkF m 202 #[.val (.int p1), .val (.int p2), .val (.int p3), .val (.int p4), .val (.int p5), .val (.int p6), .val (.ref b7), .val (.int (own_entry p1 (0 : Int32) p2)), .val (.int (own_entry p1 (1 : Int32) p3)), .val (.int (own_entry p1 (2 : Int32) p4)), .val (.int (own_entry p1 (3 : Int32) p5)), .val (.ref b20), .val (.ref b21), .val (.ref b27), .val (.int (own_free (own_entry p1 (0 : Int32) p2))), .val (.int (own_free (own_entry p1 (1 : Int32) p3))), .val (.int (own_free (own_entry p1 (2 : Int32) p4))), .val (.int (own_free (own_entry p1 (3 : Int32) p5))), .unset, .unset] [(.int p1), (.int (own_free (own_entry p1 (3 : Int32) p5)))])) _
    refine XS.iconst X35.here hx rfl (hb hby at_202) ?_
    show Steps p.tables e below (T35.setTop (mkF m 203 #[.val (.int p1), .val (.int p2), .val (.int p3), .val (.int p4), .val (.int p5), .val (.int p6), .val (.ref b7), .val (.int (own_entry p1 (0 : Int32) p2)), .val (.int (own_entry p1 (1 : Int32) p3)), .val (.int (own_entry p1 (2 : Int32) p4)), .val (.int (own_entry p1 (3 : Int32) p5)), .val (.ref b20), .val (.ref b21), .val (.ref b27), .val (.int (own_free (own_entry p1 (0 : Int32) p2))), .val (.int (own_free (own_entry p1 (1 : Int32) p3))), .val (.int (own_free (own_entry p1 (2 : Int32) p4))), .val (.int (own_free (own_entry p1 (3 : Int32) p5))), .unset, .unset] [(.int (3 : Int32)), (.int p1), (.int (own_free (own_entry p1 (3 : Int32) p5)))])) _
    refine st36 _ ?_
    show Steps p.tables e below (T36.setTop (mkF m 206 #[.val (.int p1), .val (.int p2), .val (.int p3), .val (.int p4), .val (.int p5), .val (.int p6), .val (.ref b7), .val (.int (own_entry p1 (0 : Int32) p2)), .val (.int (own_entry p1 (1 : Int32) p3)), .val (.int (own_entry p1 (2 : Int32) p4)), .val (.int (own_entry p1 (3 : Int32) p5)), .val (.ref b20), .val (.ref b21), .val (.ref b27), .val (.int (own_free (own_entry p1 (0 : Int32) p2))), .val (.int (own_free (own_entry p1 (1 : Int32) p3))), .val (.int (own_free (own_entry p1 (2 : Int32) p4))), .val (.int (own_free (own_entry p1 (3 : Int32) p5))), .unset, .unset] [(.int (own_held p1 (3 : Int32))), (.int (own_free (own_entry p1 (3 : Int32) p5)))])) _
    refine own_not206 X36 hx hby ?_
    show Steps p.tables e below (T36.setTop (mkF m 214 #[.val (.int p1), .val (.int p2), .val (.int p3), .val (.int p4), .val (.int p5), .val (.int p6), .val (.ref b7), .val (.int (own_entry p1 (0 : Int32) p2)), .val (.int (own_entry p1 (1 : Int32) p3)), .val (.int (own_entry p1 (2 : Int32) p4)), .val (.int (own_entry p1 (3 : Int32) p5)), .val (.ref b20), .val (.ref b21), .val (.ref b27), .val (.int (own_free (own_entry p1 (0 : Int32) p2))), .val (.int (own_free (own_entry p1 (1 : Int32) p3))), .val (.int (own_free (own_entry p1 (2 : Int32) p4))), .val (.int (own_free (own_entry p1 (3 : Int32) p5))), .unset, .unset] [(.int (own_not (own_held p1 (3 : Int32)))), (.int (own_free (own_entry p1 (3 : Int32) p5)))])) _
    refine XS.icmpNo X36.here hx rfl (hb hby at_214) rfl (teq (own_eq p1 (3 : Int32) p5)).2 ?_
    show Steps p.tables e below (T36.setTop (mkF m 217 #[.val (.int p1), .val (.int p2), .val (.int p3), .val (.int p4), .val (.int p5), .val (.int p6), .val (.ref b7), .val (.int (own_entry p1 (0 : Int32) p2)), .val (.int (own_entry p1 (1 : Int32) p3)), .val (.int (own_entry p1 (2 : Int32) p4)), .val (.int (own_entry p1 (3 : Int32) p5)), .val (.ref b20), .val (.ref b21), .val (.ref b27), .val (.int (own_free (own_entry p1 (0 : Int32) p2))), .val (.int (own_free (own_entry p1 (1 : Int32) p3))), .val (.int (own_free (own_entry p1 (2 : Int32) p4))), .val (.int (own_free (own_entry p1 (3 : Int32) p5))), .unset, .unset] [])) _
    refine XS.iconst X36.here hx rfl (hb hby at_217) ?_
    show Steps p.tables e below (T36.setTop (mkF m 218 #[.val (.int p1), .val (.int p2), .val (.int p3), .val (.int p4), .val (.int p5), .val (.int p6), .val (.ref b7), .val (.int (own_entry p1 (0 : Int32) p2)), .val (.int (own_entry p1 (1 : Int32) p3)), .val (.int (own_entry p1 (2 : Int32) p4)), .val (.int (own_entry p1 (3 : Int32) p5)), .val (.ref b20), .val (.ref b21), .val (.ref b27), .val (.int (own_free (own_entry p1 (0 : Int32) p2))), .val (.int (own_free (own_entry p1 (1 : Int32) p3))), .val (.int (own_free (own_entry p1 (2 : Int32) p4))), .val (.int (own_free (own_entry p1 (3 : Int32) p5))), .unset, .unset] [(.int (1 : Int32))])) _
    refine XS.goto X36.here hx rfl (pc0 := 218) (pc' := 222) rfl (hb hby at_218) (by decide) (by decide) ?_
    show Steps p.tables e below (T36.setTop (mkF m 222 #[.val (.int p1), .val (.int p2), .val (.int p3), .val (.int p4), .val (.int p5), .val (.int p6), .val (.ref b7), .val (.int (own_entry p1 (0 : Int32) p2)), .val (.int (own_entry p1 (1 : Int32) p3)), .val (.int (own_entry p1 (2 : Int32) p4)), .val (.int (own_entry p1 (3 : Int32) p5)), .val (.ref b20), .val (.ref b21), .val (.ref b27), .val (.int (own_free (own_entry p1 (0 : Int32) p2))), .val (.int (own_free (own_entry p1 (1 : Int32) p3))), .val (.int (own_free (own_entry p1 (2 : Int32) p4))), .val (.int (own_free (own_entry p1 (3 : Int32) p5))), .unset, .unset] [(.int (1 : Int32))])) _
    refine XS.istore X36.here hx rfl (hb hby at_222) rfl (l' := #[.val (.int p1), .val (.int p2), .val (.int p3), .val (.int p4), .val (.int p5), .val (.int p6), .val (.ref b7), .val (.int (own_entry p1 (0 : Int32) p2)), .val (.int (own_entry p1 (1 : Int32) p3)), .val (.int (own_entry p1 (2 : Int32) p4)), .val (.int (own_entry p1 (3 : Int32) p5)), .val (.ref b20), .val (.ref b21), .val (.ref b27), .val (.int (own_free (own_entry p1 (0 : Int32) p2))), .val (.int (own_free (own_entry p1 (1 : Int32) p3))), .val (.int (own_free (own_entry p1 (2 : Int32) p4))), .val (.int (own_free (own_entry p1 (3 : Int32) p5))), .val (.int (1 : Int32)), .unset]) rfl ?_
    show Steps p.tables e below (T36.setTop (mkF m 224 #[.val (.int p1), .val (.int p2), .val (.int p3), .val (.int p4), .val (.int p5), .val (.int p6), .val (.ref b7), .val (.int (own_entry p1 (0 : Int32) p2)), .val (.int (own_entry p1 (1 : Int32) p3)), .val (.int (own_entry p1 (2 : Int32) p4)), .val (.int (own_entry p1 (3 : Int32) p5)), .val (.ref b20), .val (.ref b21), .val (.ref b27), .val (.int (own_free (own_entry p1 (0 : Int32) p2))), .val (.int (own_free (own_entry p1 (1 : Int32) p3))), .val (.int (own_free (own_entry p1 (2 : Int32) p4))), .val (.int (own_free (own_entry p1 (3 : Int32) p5))), .val (.int (1 : Int32)), .unset] [])) _
    refine XS.aload X36.here hx rfl (hb hby at_224) rfl rfl ?_
    show Steps p.tables e below (T36.setTop (mkF m 226 #[.val (.int p1), .val (.int p2), .val (.int p3), .val (.int p4), .val (.int p5), .val (.int p6), .val (.ref b7), .val (.int (own_entry p1 (0 : Int32) p2)), .val (.int (own_entry p1 (1 : Int32) p3)), .val (.int (own_entry p1 (2 : Int32) p4)), .val (.int (own_entry p1 (3 : Int32) p5)), .val (.ref b20), .val (.ref b21), .val (.ref b27), .val (.int (own_free (own_entry p1 (0 : Int32) p2))), .val (.int (own_free (own_entry p1 (1 : Int32) p3))), .val (.int (own_free (own_entry p1 (2 : Int32) p4))), .val (.int (own_free (own_entry p1 (3 : Int32) p5))), .val (.int (1 : Int32)), .unset] [(.ref b7)])) _
    refine XS.iconst X36.here hx rfl (hb hby at_226) ?_
    show Steps p.tables e below (T36.setTop (mkF m 227 #[.val (.int p1), .val (.int p2), .val (.int p3), .val (.int p4), .val (.int p5), .val (.int p6), .val (.ref b7), .val (.int (own_entry p1 (0 : Int32) p2)), .val (.int (own_entry p1 (1 : Int32) p3)), .val (.int (own_entry p1 (2 : Int32) p4)), .val (.int (own_entry p1 (3 : Int32) p5)), .val (.ref b20), .val (.ref b21), .val (.ref b27), .val (.int (own_free (own_entry p1 (0 : Int32) p2))), .val (.int (own_free (own_entry p1 (1 : Int32) p3))), .val (.int (own_free (own_entry p1 (2 : Int32) p4))), .val (.int (own_free (own_entry p1 (3 : Int32) p5))), .val (.int (1 : Int32)), .unset] [(.int (0 : Int32)), (.ref b7)])) _
    refine X36.iaload hx (j := (0 : Int32)) (v := (.int (own_entry p1 (0 : Int32) p2))) (by rw [e36]; exact ArZ.1) (State.isArrayOf_alike hZ.alike ArZ.2.1) ArZ.2.2 hin49 hat49 (g := (mkF m 227 #[.val (.int p1), .val (.int p2), .val (.int p3), .val (.int p4), .val (.int p5), .val (.int p6), .val (.ref b7), .val (.int (own_entry p1 (0 : Int32) p2)), .val (.int (own_entry p1 (1 : Int32) p3)), .val (.int (own_entry p1 (2 : Int32) p4)), .val (.int (own_entry p1 (3 : Int32) p5)), .val (.ref b20), .val (.ref b21), .val (.ref b27), .val (.int (own_free (own_entry p1 (0 : Int32) p2))), .val (.int (own_free (own_entry p1 (1 : Int32) p3))), .val (.int (own_free (own_entry p1 (2 : Int32) p4))), .val (.int (own_free (own_entry p1 (3 : Int32) p5))), .val (.int (1 : Int32)), .unset] [(.int (0 : Int32)), (.ref b7)])) rfl rfl (hb hby at_227) _ ?_
    show Steps p.tables e below (T36.setTop (mkF m 228 #[.val (.int p1), .val (.int p2), .val (.int p3), .val (.int p4), .val (.int p5), .val (.int p6), .val (.ref b7), .val (.int (own_entry p1 (0 : Int32) p2)), .val (.int (own_entry p1 (1 : Int32) p3)), .val (.int (own_entry p1 (2 : Int32) p4)), .val (.int (own_entry p1 (3 : Int32) p5)), .val (.ref b20), .val (.ref b21), .val (.ref b27), .val (.int (own_free (own_entry p1 (0 : Int32) p2))), .val (.int (own_free (own_entry p1 (1 : Int32) p3))), .val (.int (own_free (own_entry p1 (2 : Int32) p4))), .val (.int (own_free (own_entry p1 (3 : Int32) p5))), .val (.int (1 : Int32)), .unset] [(.int (own_entry p1 (0 : Int32) p2))])) _
    refine XS.iload X36.here hx rfl (hb hby at_228) rfl ?_
    show Steps p.tables e below (T36.setTop (mkF m 230 #[.val (.int p1), .val (.int p2), .val (.int p3), .val (.int p4), .val (.int p5), .val (.int p6), .val (.ref b7), .val (.int (own_entry p1 (0 : Int32) p2)), .val (.int (own_entry p1 (1 : Int32) p3)), .val (.int (own_entry p1 (2 : Int32) p4)), .val (.int (own_entry p1 (3 : Int32) p5)), .val (.ref b20), .val (.ref b21), .val (.ref b27), .val (.int (own_free (own_entry p1 (0 : Int32) p2))), .val (.int (own_free (own_entry p1 (1 : Int32) p3))), .val (.int (own_free (own_entry p1 (2 : Int32) p4))), .val (.int (own_free (own_entry p1 (3 : Int32) p5))), .val (.int (1 : Int32)), .unset] [(.int (own_entry p1 (0 : Int32) p2)), (.int (own_entry p1 (0 : Int32) p2))])) _
    refine XS.icmpNo X36.here hx rfl (hb hby at_230) rfl (teq rfl).2 ?_
    show Steps p.tables e below (T36.setTop (mkF m 233 #[.val (.int p1), .val (.int p2), .val (.int p3), .val (.int p4), .val (.int p5), .val (.int p6), .val (.ref b7), .val (.int (own_entry p1 (0 : Int32) p2)), .val (.int (own_entry p1 (1 : Int32) p3)), .val (.int (own_entry p1 (2 : Int32) p4)), .val (.int (own_entry p1 (3 : Int32) p5)), .val (.ref b20), .val (.ref b21), .val (.ref b27), .val (.int (own_free (own_entry p1 (0 : Int32) p2))), .val (.int (own_free (own_entry p1 (1 : Int32) p3))), .val (.int (own_free (own_entry p1 (2 : Int32) p4))), .val (.int (own_free (own_entry p1 (3 : Int32) p5))), .val (.int (1 : Int32)), .unset] [])) _
    refine XS.aload X36.here hx rfl (hb hby at_233) rfl rfl ?_
    show Steps p.tables e below (T36.setTop (mkF m 235 #[.val (.int p1), .val (.int p2), .val (.int p3), .val (.int p4), .val (.int p5), .val (.int p6), .val (.ref b7), .val (.int (own_entry p1 (0 : Int32) p2)), .val (.int (own_entry p1 (1 : Int32) p3)), .val (.int (own_entry p1 (2 : Int32) p4)), .val (.int (own_entry p1 (3 : Int32) p5)), .val (.ref b20), .val (.ref b21), .val (.ref b27), .val (.int (own_free (own_entry p1 (0 : Int32) p2))), .val (.int (own_free (own_entry p1 (1 : Int32) p3))), .val (.int (own_free (own_entry p1 (2 : Int32) p4))), .val (.int (own_free (own_entry p1 (3 : Int32) p5))), .val (.int (1 : Int32)), .unset] [(.ref b7)])) _
    refine XS.iconst X36.here hx rfl (hb hby at_235) ?_
    show Steps p.tables e below (T36.setTop (mkF m 236 #[.val (.int p1), .val (.int p2), .val (.int p3), .val (.int p4), .val (.int p5), .val (.int p6), .val (.ref b7), .val (.int (own_entry p1 (0 : Int32) p2)), .val (.int (own_entry p1 (1 : Int32) p3)), .val (.int (own_entry p1 (2 : Int32) p4)), .val (.int (own_entry p1 (3 : Int32) p5)), .val (.ref b20), .val (.ref b21), .val (.ref b27), .val (.int (own_free (own_entry p1 (0 : Int32) p2))), .val (.int (own_free (own_entry p1 (1 : Int32) p3))), .val (.int (own_free (own_entry p1 (2 : Int32) p4))), .val (.int (own_free (own_entry p1 (3 : Int32) p5))), .val (.int (1 : Int32)), .unset] [(.int (1 : Int32)), (.ref b7)])) _
    refine X36.iaload hx (j := (1 : Int32)) (v := (.int (own_entry p1 (1 : Int32) p3))) (by rw [e36]; exact ArZ.1) (State.isArrayOf_alike hZ.alike ArZ.2.1) ArZ.2.2 hin55 hat55 (g := (mkF m 236 #[.val (.int p1), .val (.int p2), .val (.int p3), .val (.int p4), .val (.int p5), .val (.int p6), .val (.ref b7), .val (.int (own_entry p1 (0 : Int32) p2)), .val (.int (own_entry p1 (1 : Int32) p3)), .val (.int (own_entry p1 (2 : Int32) p4)), .val (.int (own_entry p1 (3 : Int32) p5)), .val (.ref b20), .val (.ref b21), .val (.ref b27), .val (.int (own_free (own_entry p1 (0 : Int32) p2))), .val (.int (own_free (own_entry p1 (1 : Int32) p3))), .val (.int (own_free (own_entry p1 (2 : Int32) p4))), .val (.int (own_free (own_entry p1 (3 : Int32) p5))), .val (.int (1 : Int32)), .unset] [(.int (1 : Int32)), (.ref b7)])) rfl rfl (hb hby at_236) _ ?_
    show Steps p.tables e below (T36.setTop (mkF m 237 #[.val (.int p1), .val (.int p2), .val (.int p3), .val (.int p4), .val (.int p5), .val (.int p6), .val (.ref b7), .val (.int (own_entry p1 (0 : Int32) p2)), .val (.int (own_entry p1 (1 : Int32) p3)), .val (.int (own_entry p1 (2 : Int32) p4)), .val (.int (own_entry p1 (3 : Int32) p5)), .val (.ref b20), .val (.ref b21), .val (.ref b27), .val (.int (own_free (own_entry p1 (0 : Int32) p2))), .val (.int (own_free (own_entry p1 (1 : Int32) p3))), .val (.int (own_free (own_entry p1 (2 : Int32) p4))), .val (.int (own_free (own_entry p1 (3 : Int32) p5))), .val (.int (1 : Int32)), .unset] [(.int (own_entry p1 (1 : Int32) p3))])) _
    refine XS.iload X36.here hx rfl (hb hby at_237) rfl ?_
    show Steps p.tables e below (T36.setTop (mkF m 239 #[.val (.int p1), .val (.int p2), .val (.int p3), .val (.int p4), .val (.int p5), .val (.int p6), .val (.ref b7), .val (.int (own_entry p1 (0 : Int32) p2)), .val (.int (own_entry p1 (1 : Int32) p3)), .val (.int (own_entry p1 (2 : Int32) p4)), .val (.int (own_entry p1 (3 : Int32) p5)), .val (.ref b20), .val (.ref b21), .val (.ref b27), .val (.int (own_free (own_entry p1 (0 : Int32) p2))), .val (.int (own_free (own_entry p1 (1 : Int32) p3))), .val (.int (own_free (own_entry p1 (2 : Int32) p4))), .val (.int (own_free (own_entry p1 (3 : Int32) p5))), .val (.int (1 : Int32)), .unset] [(.int (own_entry p1 (1 : Int32) p3)), (.int (own_entry p1 (1 : Int32) p3))])) _
    refine XS.icmpNo X36.here hx rfl (hb hby at_239) rfl (teq rfl).2 ?_
    show Steps p.tables e below (T36.setTop (mkF m 242 #[.val (.int p1), .val (.int p2), .val (.int p3), .val (.int p4), .val (.int p5), .val (.int p6), .val (.ref b7), .val (.int (own_entry p1 (0 : Int32) p2)), .val (.int (own_entry p1 (1 : Int32) p3)), .val (.int (own_entry p1 (2 : Int32) p4)), .val (.int (own_entry p1 (3 : Int32) p5)), .val (.ref b20), .val (.ref b21), .val (.ref b27), .val (.int (own_free (own_entry p1 (0 : Int32) p2))), .val (.int (own_free (own_entry p1 (1 : Int32) p3))), .val (.int (own_free (own_entry p1 (2 : Int32) p4))), .val (.int (own_free (own_entry p1 (3 : Int32) p5))), .val (.int (1 : Int32)), .unset] [])) _
    refine XS.aload X36.here hx rfl (hb hby at_242) rfl rfl ?_
    show Steps p.tables e below (T36.setTop (mkF m 244 #[.val (.int p1), .val (.int p2), .val (.int p3), .val (.int p4), .val (.int p5), .val (.int p6), .val (.ref b7), .val (.int (own_entry p1 (0 : Int32) p2)), .val (.int (own_entry p1 (1 : Int32) p3)), .val (.int (own_entry p1 (2 : Int32) p4)), .val (.int (own_entry p1 (3 : Int32) p5)), .val (.ref b20), .val (.ref b21), .val (.ref b27), .val (.int (own_free (own_entry p1 (0 : Int32) p2))), .val (.int (own_free (own_entry p1 (1 : Int32) p3))), .val (.int (own_free (own_entry p1 (2 : Int32) p4))), .val (.int (own_free (own_entry p1 (3 : Int32) p5))), .val (.int (1 : Int32)), .unset] [(.ref b7)])) _
    refine XS.iconst X36.here hx rfl (hb hby at_244) ?_
    show Steps p.tables e below (T36.setTop (mkF m 245 #[.val (.int p1), .val (.int p2), .val (.int p3), .val (.int p4), .val (.int p5), .val (.int p6), .val (.ref b7), .val (.int (own_entry p1 (0 : Int32) p2)), .val (.int (own_entry p1 (1 : Int32) p3)), .val (.int (own_entry p1 (2 : Int32) p4)), .val (.int (own_entry p1 (3 : Int32) p5)), .val (.ref b20), .val (.ref b21), .val (.ref b27), .val (.int (own_free (own_entry p1 (0 : Int32) p2))), .val (.int (own_free (own_entry p1 (1 : Int32) p3))), .val (.int (own_free (own_entry p1 (2 : Int32) p4))), .val (.int (own_free (own_entry p1 (3 : Int32) p5))), .val (.int (1 : Int32)), .unset] [(.int (2 : Int32)), (.ref b7)])) _
    refine X36.iaload hx (j := (2 : Int32)) (v := (.int (own_entry p1 (2 : Int32) p4))) (by rw [e36]; exact ArZ.1) (State.isArrayOf_alike hZ.alike ArZ.2.1) ArZ.2.2 hin61 hat61 (g := (mkF m 245 #[.val (.int p1), .val (.int p2), .val (.int p3), .val (.int p4), .val (.int p5), .val (.int p6), .val (.ref b7), .val (.int (own_entry p1 (0 : Int32) p2)), .val (.int (own_entry p1 (1 : Int32) p3)), .val (.int (own_entry p1 (2 : Int32) p4)), .val (.int (own_entry p1 (3 : Int32) p5)), .val (.ref b20), .val (.ref b21), .val (.ref b27), .val (.int (own_free (own_entry p1 (0 : Int32) p2))), .val (.int (own_free (own_entry p1 (1 : Int32) p3))), .val (.int (own_free (own_entry p1 (2 : Int32) p4))), .val (.int (own_free (own_entry p1 (3 : Int32) p5))), .val (.int (1 : Int32)), .unset] [(.int (2 : Int32)), (.ref b7)])) rfl rfl (hb hby at_245) _ ?_
    show Steps p.tables e below (T36.setTop (mkF m 246 #[.val (.int p1), .val (.int p2), .val (.int p3), .val (.int p4), .val (.int p5), .val (.int p6), .val (.ref b7), .val (.int (own_entry p1 (0 : Int32) p2)), .val (.int (own_entry p1 (1 : Int32) p3)), .val (.int (own_entry p1 (2 : Int32) p4)), .val (.int (own_entry p1 (3 : Int32) p5)), .val (.ref b20), .val (.ref b21), .val (.ref b27), .val (.int (own_free (own_entry p1 (0 : Int32) p2))), .val (.int (own_free (own_entry p1 (1 : Int32) p3))), .val (.int (own_free (own_entry p1 (2 : Int32) p4))), .val (.int (own_free (own_entry p1 (3 : Int32) p5))), .val (.int (1 : Int32)), .unset] [(.int (own_entry p1 (2 : Int32) p4))])) _
    refine XS.iload X36.here hx rfl (hb hby at_246) rfl ?_
    show Steps p.tables e below (T36.setTop (mkF m 248 #[.val (.int p1), .val (.int p2), .val (.int p3), .val (.int p4), .val (.int p5), .val (.int p6), .val (.ref b7), .val (.int (own_entry p1 (0 : Int32) p2)), .val (.int (own_entry p1 (1 : Int32) p3)), .val (.int (own_entry p1 (2 : Int32) p4)), .val (.int (own_entry p1 (3 : Int32) p5)), .val (.ref b20), .val (.ref b21), .val (.ref b27), .val (.int (own_free (own_entry p1 (0 : Int32) p2))), .val (.int (own_free (own_entry p1 (1 : Int32) p3))), .val (.int (own_free (own_entry p1 (2 : Int32) p4))), .val (.int (own_free (own_entry p1 (3 : Int32) p5))), .val (.int (1 : Int32)), .unset] [(.int (own_entry p1 (2 : Int32) p4)), (.int (own_entry p1 (2 : Int32) p4))])) _
    refine XS.icmpNo X36.here hx rfl (hb hby at_248) rfl (teq rfl).2 ?_
    show Steps p.tables e below (T36.setTop (mkF m 251 #[.val (.int p1), .val (.int p2), .val (.int p3), .val (.int p4), .val (.int p5), .val (.int p6), .val (.ref b7), .val (.int (own_entry p1 (0 : Int32) p2)), .val (.int (own_entry p1 (1 : Int32) p3)), .val (.int (own_entry p1 (2 : Int32) p4)), .val (.int (own_entry p1 (3 : Int32) p5)), .val (.ref b20), .val (.ref b21), .val (.ref b27), .val (.int (own_free (own_entry p1 (0 : Int32) p2))), .val (.int (own_free (own_entry p1 (1 : Int32) p3))), .val (.int (own_free (own_entry p1 (2 : Int32) p4))), .val (.int (own_free (own_entry p1 (3 : Int32) p5))), .val (.int (1 : Int32)), .unset] [])) _
    refine XS.aload X36.here hx rfl (hb hby at_251) rfl rfl ?_
    show Steps p.tables e below (T36.setTop (mkF m 253 #[.val (.int p1), .val (.int p2), .val (.int p3), .val (.int p4), .val (.int p5), .val (.int p6), .val (.ref b7), .val (.int (own_entry p1 (0 : Int32) p2)), .val (.int (own_entry p1 (1 : Int32) p3)), .val (.int (own_entry p1 (2 : Int32) p4)), .val (.int (own_entry p1 (3 : Int32) p5)), .val (.ref b20), .val (.ref b21), .val (.ref b27), .val (.int (own_free (own_entry p1 (0 : Int32) p2))), .val (.int (own_free (own_entry p1 (1 : Int32) p3))), .val (.int (own_free (own_entry p1 (2 : Int32) p4))), .val (.int (own_free (own_entry p1 (3 : Int32) p5))), .val (.int (1 : Int32)), .unset] [(.ref b7)])) _
    refine XS.iconst X36.here hx rfl (hb hby at_253) ?_
    show Steps p.tables e below (T36.setTop (mkF m 254 #[.val (.int p1), .val (.int p2), .val (.int p3), .val (.int p4), .val (.int p5), .val (.int p6), .val (.ref b7), .val (.int (own_entry p1 (0 : Int32) p2)), .val (.int (own_entry p1 (1 : Int32) p3)), .val (.int (own_entry p1 (2 : Int32) p4)), .val (.int (own_entry p1 (3 : Int32) p5)), .val (.ref b20), .val (.ref b21), .val (.ref b27), .val (.int (own_free (own_entry p1 (0 : Int32) p2))), .val (.int (own_free (own_entry p1 (1 : Int32) p3))), .val (.int (own_free (own_entry p1 (2 : Int32) p4))), .val (.int (own_free (own_entry p1 (3 : Int32) p5))), .val (.int (1 : Int32)), .unset] [(.int (3 : Int32)), (.ref b7)])) _
    refine X36.iaload hx (j := (3 : Int32)) (v := (.int (own_entry p1 (3 : Int32) p5))) (by rw [e36]; exact ArZ.1) (State.isArrayOf_alike hZ.alike ArZ.2.1) ArZ.2.2 hin67 hat67 (g := (mkF m 254 #[.val (.int p1), .val (.int p2), .val (.int p3), .val (.int p4), .val (.int p5), .val (.int p6), .val (.ref b7), .val (.int (own_entry p1 (0 : Int32) p2)), .val (.int (own_entry p1 (1 : Int32) p3)), .val (.int (own_entry p1 (2 : Int32) p4)), .val (.int (own_entry p1 (3 : Int32) p5)), .val (.ref b20), .val (.ref b21), .val (.ref b27), .val (.int (own_free (own_entry p1 (0 : Int32) p2))), .val (.int (own_free (own_entry p1 (1 : Int32) p3))), .val (.int (own_free (own_entry p1 (2 : Int32) p4))), .val (.int (own_free (own_entry p1 (3 : Int32) p5))), .val (.int (1 : Int32)), .unset] [(.int (3 : Int32)), (.ref b7)])) rfl rfl (hb hby at_254) _ ?_
    show Steps p.tables e below (T36.setTop (mkF m 255 #[.val (.int p1), .val (.int p2), .val (.int p3), .val (.int p4), .val (.int p5), .val (.int p6), .val (.ref b7), .val (.int (own_entry p1 (0 : Int32) p2)), .val (.int (own_entry p1 (1 : Int32) p3)), .val (.int (own_entry p1 (2 : Int32) p4)), .val (.int (own_entry p1 (3 : Int32) p5)), .val (.ref b20), .val (.ref b21), .val (.ref b27), .val (.int (own_free (own_entry p1 (0 : Int32) p2))), .val (.int (own_free (own_entry p1 (1 : Int32) p3))), .val (.int (own_free (own_entry p1 (2 : Int32) p4))), .val (.int (own_free (own_entry p1 (3 : Int32) p5))), .val (.int (1 : Int32)), .unset] [(.int (own_entry p1 (3 : Int32) p5))])) _
    refine XS.iload X36.here hx rfl (hb hby at_255) rfl ?_
    show Steps p.tables e below (T36.setTop (mkF m 257 #[.val (.int p1), .val (.int p2), .val (.int p3), .val (.int p4), .val (.int p5), .val (.int p6), .val (.ref b7), .val (.int (own_entry p1 (0 : Int32) p2)), .val (.int (own_entry p1 (1 : Int32) p3)), .val (.int (own_entry p1 (2 : Int32) p4)), .val (.int (own_entry p1 (3 : Int32) p5)), .val (.ref b20), .val (.ref b21), .val (.ref b27), .val (.int (own_free (own_entry p1 (0 : Int32) p2))), .val (.int (own_free (own_entry p1 (1 : Int32) p3))), .val (.int (own_free (own_entry p1 (2 : Int32) p4))), .val (.int (own_free (own_entry p1 (3 : Int32) p5))), .val (.int (1 : Int32)), .unset] [(.int (own_entry p1 (3 : Int32) p5)), (.int (own_entry p1 (3 : Int32) p5))])) _
    refine XS.icmpNo X36.here hx rfl (hb hby at_257) rfl (teq rfl).2 ?_
    show Steps p.tables e below (T36.setTop (mkF m 260 #[.val (.int p1), .val (.int p2), .val (.int p3), .val (.int p4), .val (.int p5), .val (.int p6), .val (.ref b7), .val (.int (own_entry p1 (0 : Int32) p2)), .val (.int (own_entry p1 (1 : Int32) p3)), .val (.int (own_entry p1 (2 : Int32) p4)), .val (.int (own_entry p1 (3 : Int32) p5)), .val (.ref b20), .val (.ref b21), .val (.ref b27), .val (.int (own_free (own_entry p1 (0 : Int32) p2))), .val (.int (own_free (own_entry p1 (1 : Int32) p3))), .val (.int (own_free (own_entry p1 (2 : Int32) p4))), .val (.int (own_free (own_entry p1 (3 : Int32) p5))), .val (.int (1 : Int32)), .unset] [])) _
    refine XS.iconst X36.here hx rfl (hb hby at_260) ?_
    show Steps p.tables e below (T36.setTop (mkF m 261 #[.val (.int p1), .val (.int p2), .val (.int p3), .val (.int p4), .val (.int p5), .val (.int p6), .val (.ref b7), .val (.int (own_entry p1 (0 : Int32) p2)), .val (.int (own_entry p1 (1 : Int32) p3)), .val (.int (own_entry p1 (2 : Int32) p4)), .val (.int (own_entry p1 (3 : Int32) p5)), .val (.ref b20), .val (.ref b21), .val (.ref b27), .val (.int (own_free (own_entry p1 (0 : Int32) p2))), .val (.int (own_free (own_entry p1 (1 : Int32) p3))), .val (.int (own_free (own_entry p1 (2 : Int32) p4))), .val (.int (own_free (own_entry p1 (3 : Int32) p5))), .val (.int (1 : Int32)), .unset] [(.int (1 : Int32))])) _
    refine XS.goto X36.here hx rfl (pc0 := 261) (pc' := 265) rfl (hb hby at_261) (by decide) (by decide) ?_
    show Steps p.tables e below (T36.setTop (mkF m 265 #[.val (.int p1), .val (.int p2), .val (.int p3), .val (.int p4), .val (.int p5), .val (.int p6), .val (.ref b7), .val (.int (own_entry p1 (0 : Int32) p2)), .val (.int (own_entry p1 (1 : Int32) p3)), .val (.int (own_entry p1 (2 : Int32) p4)), .val (.int (own_entry p1 (3 : Int32) p5)), .val (.ref b20), .val (.ref b21), .val (.ref b27), .val (.int (own_free (own_entry p1 (0 : Int32) p2))), .val (.int (own_free (own_entry p1 (1 : Int32) p3))), .val (.int (own_free (own_entry p1 (2 : Int32) p4))), .val (.int (own_free (own_entry p1 (3 : Int32) p5))), .val (.int (1 : Int32)), .unset] [(.int (1 : Int32))])) _
    refine XS.istore X36.here hx rfl (hb hby at_265) rfl (l' := #[.val (.int p1), .val (.int p2), .val (.int p3), .val (.int p4), .val (.int p5), .val (.int p6), .val (.ref b7), .val (.int (own_entry p1 (0 : Int32) p2)), .val (.int (own_entry p1 (1 : Int32) p3)), .val (.int (own_entry p1 (2 : Int32) p4)), .val (.int (own_entry p1 (3 : Int32) p5)), .val (.ref b20), .val (.ref b21), .val (.ref b27), .val (.int (own_free (own_entry p1 (0 : Int32) p2))), .val (.int (own_free (own_entry p1 (1 : Int32) p3))), .val (.int (own_free (own_entry p1 (2 : Int32) p4))), .val (.int (own_free (own_entry p1 (3 : Int32) p5))), .val (.int (1 : Int32)), .val (.int (1 : Int32))]) rfl ?_
    show Steps p.tables e below (T36.setTop (mkF m 267 #[.val (.int p1), .val (.int p2), .val (.int p3), .val (.int p4), .val (.int p5), .val (.int p6), .val (.ref b7), .val (.int (own_entry p1 (0 : Int32) p2)), .val (.int (own_entry p1 (1 : Int32) p3)), .val (.int (own_entry p1 (2 : Int32) p4)), .val (.int (own_entry p1 (3 : Int32) p5)), .val (.ref b20), .val (.ref b21), .val (.ref b27), .val (.int (own_free (own_entry p1 (0 : Int32) p2))), .val (.int (own_free (own_entry p1 (1 : Int32) p3))), .val (.int (own_free (own_entry p1 (2 : Int32) p4))), .val (.int (own_free (own_entry p1 (3 : Int32) p5))), .val (.int (1 : Int32)), .val (.int (1 : Int32))] [])) _
    refine XS.iload X36.here hx rfl (hb hby at_267) rfl ?_
    show Steps p.tables e below (T36.setTop (mkF m 269 #[.val (.int p1), .val (.int p2), .val (.int p3), .val (.int p4), .val (.int p5), .val (.int p6), .val (.ref b7), .val (.int (own_entry p1 (0 : Int32) p2)), .val (.int (own_entry p1 (1 : Int32) p3)), .val (.int (own_entry p1 (2 : Int32) p4)), .val (.int (own_entry p1 (3 : Int32) p5)), .val (.ref b20), .val (.ref b21), .val (.ref b27), .val (.int (own_free (own_entry p1 (0 : Int32) p2))), .val (.int (own_free (own_entry p1 (1 : Int32) p3))), .val (.int (own_free (own_entry p1 (2 : Int32) p4))), .val (.int (own_free (own_entry p1 (3 : Int32) p5))), .val (.int (1 : Int32)), .val (.int (1 : Int32))] [(.int (1 : Int32))])) _
    refine XS.ifNo X36.here hx rfl (hb hby at_269) rfl ((if0 _ _).trans (feq hc269).1) ?_
    show Steps p.tables e below (T36.setTop (mkF m 272 #[.val (.int p1), .val (.int p2), .val (.int p3), .val (.int p4), .val (.int p5), .val (.int p6), .val (.ref b7), .val (.int (own_entry p1 (0 : Int32) p2)), .val (.int (own_entry p1 (1 : Int32) p3)), .val (.int (own_entry p1 (2 : Int32) p4)), .val (.int (own_entry p1 (3 : Int32) p5)), .val (.ref b20), .val (.ref b21), .val (.ref b27), .val (.int (own_free (own_entry p1 (0 : Int32) p2))), .val (.int (own_free (own_entry p1 (1 : Int32) p3))), .val (.int (own_free (own_entry p1 (2 : Int32) p4))), .val (.int (own_free (own_entry p1 (3 : Int32) p5))), .val (.int (1 : Int32)), .val (.int (1 : Int32))] [])) _
    refine XS.iload X36.here hx rfl (hb hby at_272) rfl ?_
    show Steps p.tables e below (T36.setTop (mkF m 274 #[.val (.int p1), .val (.int p2), .val (.int p3), .val (.int p4), .val (.int p5), .val (.int p6), .val (.ref b7), .val (.int (own_entry p1 (0 : Int32) p2)), .val (.int (own_entry p1 (1 : Int32) p3)), .val (.int (own_entry p1 (2 : Int32) p4)), .val (.int (own_entry p1 (3 : Int32) p5)), .val (.ref b20), .val (.ref b21), .val (.ref b27), .val (.int (own_free (own_entry p1 (0 : Int32) p2))), .val (.int (own_free (own_entry p1 (1 : Int32) p3))), .val (.int (own_free (own_entry p1 (2 : Int32) p4))), .val (.int (own_free (own_entry p1 (3 : Int32) p5))), .val (.int (1 : Int32)), .val (.int (1 : Int32))] [(.int (1 : Int32))])) _
    refine XS.ifNo X36.here hx rfl (hb hby at_274) rfl ((if0 _ _).trans (feq hc274).1) ?_
    show Steps p.tables e below (T36.setTop (mkF m 277 #[.val (.int p1), .val (.int p2), .val (.int p3), .val (.int p4), .val (.int p5), .val (.int p6), .val (.ref b7), .val (.int (own_entry p1 (0 : Int32) p2)), .val (.int (own_entry p1 (1 : Int32) p3)), .val (.int (own_entry p1 (2 : Int32) p4)), .val (.int (own_entry p1 (3 : Int32) p5)), .val (.ref b20), .val (.ref b21), .val (.ref b27), .val (.int (own_free (own_entry p1 (0 : Int32) p2))), .val (.int (own_free (own_entry p1 (1 : Int32) p3))), .val (.int (own_free (own_entry p1 (2 : Int32) p4))), .val (.int (own_free (own_entry p1 (3 : Int32) p5))), .val (.int (1 : Int32)), .val (.int (1 : Int32))] [])) _
    refine XS.iconst X36.here hx rfl (hb hby at_277) ?_
    show Steps p.tables e below (T36.setTop (mkF m 278 #[.val (.int p1), .val (.int p2), .val (.int p3), .val (.int p4), .val (.int p5), .val (.int p6), .val (.ref b7), .val (.int (own_entry p1 (0 : Int32) p2)), .val (.int (own_entry p1 (1 : Int32) p3)), .val (.int (own_entry p1 (2 : Int32) p4)), .val (.int (own_entry p1 (3 : Int32) p5)), .val (.ref b20), .val (.ref b21), .val (.ref b27), .val (.int (own_free (own_entry p1 (0 : Int32) p2))), .val (.int (own_free (own_entry p1 (1 : Int32) p3))), .val (.int (own_free (own_entry p1 (2 : Int32) p4))), .val (.int (own_free (own_entry p1 (3 : Int32) p5))), .val (.int (1 : Int32)), .val (.int (1 : Int32))] [(.int (1 : Int32))])) _
    refine XS.goto X36.here hx rfl (pc0 := 278) (pc' := 282) rfl (hb hby at_278) (by decide) (by decide) ?_
    show Steps p.tables e below (T36.setTop (mkF m 282 #[.val (.int p1), .val (.int p2), .val (.int p3), .val (.int p4), .val (.int p5), .val (.int p6), .val (.ref b7), .val (.int (own_entry p1 (0 : Int32) p2)), .val (.int (own_entry p1 (1 : Int32) p3)), .val (.int (own_entry p1 (2 : Int32) p4)), .val (.int (own_entry p1 (3 : Int32) p5)), .val (.ref b20), .val (.ref b21), .val (.ref b27), .val (.int (own_free (own_entry p1 (0 : Int32) p2))), .val (.int (own_free (own_entry p1 (1 : Int32) p3))), .val (.int (own_free (own_entry p1 (2 : Int32) p4))), .val (.int (own_free (own_entry p1 (3 : Int32) p5))), .val (.int (1 : Int32)), .val (.int (1 : Int32))] [(.int (1 : Int32))])) _
    exact retN X36 hx (t := .boolean) Bd.returns (by simp) (hb hby at_282) hr
  · show Qrm0 Z p1 p2 p3 p4 p5 p6 w22 h0 n0 _ T36.heap _
    exact ⟨rfl, N36⟩
set_option maxRecDepth 65536 in
set_option maxHeartbeats 40000000 in
theorem comes_1 {Post : Tables → Env → Array Value → State → Outcome → State → Prop} (hpost : ∀ tb e args s v u, (limb_1_1.after args s (.returned v) u = true ∧ limb_1_2.after args s (.returned v) u = true ∧ True) → FrameEnd s (.returned v) u (Jvm.fieldLocs frame_1_writes args s ++ Jvm.arrayLocs frame_1_arrays args s ++ Jvm.staticLocs frame_1_statics s) 64 192 → Post tb e args s (.returned v) u) :
    ArmFor flags0 classFile x code maxLocals ret World_1 tables_1 room_1 Calls_1 rest_1 Pre_1 Post := by
  intro l hfl _ _ p e ha hc hk s m args below hf hA hF happ hP
  obtain ⟨hcalls, hrest, hpre⟩ := hP
  obtain ⟨-, -, -, hnamed, -, -, -, hat⟩ := (Spec.applies_iff hf).mp happ
  obtain ⟨hg, hn⟩ := and_e (Cond.before_iff.mp (show (Jvm.Cond.and given_1 narrow_1).before args s = true from hpre))
  obtain ⟨g41, g42⟩ := and_e hg
  obtain ⟨g43, g44⟩ := and_e g42
  obtain ⟨g45, g46⟩ := and_e g44
  obtain ⟨g47, g48⟩ := and_e g46
  obtain ⟨g49, g50⟩ := and_e g48
  obtain ⟨g51, g52⟩ := and_e g50
  obtain ⟨w0, w1, w2, w3, w4, w5, rfl⟩ : ∃ w0 w1 w2 w3 w4 w5 : Value, args = #[w0, w1, w2, w3, w4, w5] := by
    have hs : args.size = 6 := by simpa [Cond.value, given_1] using g41
    obtain ⟨L⟩ := args
    match L, hs with
    | [w0, w1, w2, w3, w4, w5], _ => exact ⟨w0, w1, w2, w3, w4, w5, rfl⟩
  have hw := fun d (hd : d ∈ tables_1) => atoms_spec (ws := Jvm.Cond.code x code maxLocals ret :: tables_1) hat d (List.mem_cons_of_mem _ hd)
  have hfit : Fit s := fun {y c} hc i hi => by
    obtain ⟨ha, rfl⟩ := Array.getElem?_eq_some_iff.mp hc
    have q := List.all_eq_true.mp ((Array.all_eq_true_iff_forall_mem.mp hF) _ (Array.getElem_mem ha)) i (List.mem_range.mpr hi)
    simpa [Array.getElem?_eq_getElem hi] using q
  -- the named sets: hsets indexes jdkStatics_1 (Statement.lean): (hsets _ (List.mem_of_getElem? (i := n) rfl)) is its n-th word, before the call
  obtain ⟨hsets, hown0⟩ := atoms_of _ (rest_1_c_eq ▸ (show rest_1_c.before _ s = true from hrest))
  have hr0 := Cond.before_iff.mp hown0
  obtain ⟨i0, ei0⟩ := is_v g43
  obtain rfl : w0 = (.int i0) := Option.some.inj ei0
  obtain ⟨i1, ei1⟩ := is_v g45
  obtain rfl : w1 = (.int i1) := Option.some.inj ei1
  obtain ⟨i2, ei2⟩ := is_v g47
  obtain rfl : w2 = (.int i2) := Option.some.inj ei2
  obtain ⟨i3, ei3⟩ := is_v g49
  obtain rfl : w3 = (.int i3) := Option.some.inj ei3
  obtain ⟨i4, ei4⟩ := is_v g51
  obtain rfl : w4 = (.int i4) := Option.some.inj ei4
  obtain ⟨i5, ei5⟩ := is_v g52
  obtain rfl : w5 = (.int i5) := Option.some.inj ei5
  obtain ⟨nn0, hn0⟩ := and_e hn
  obtain ⟨nn1, nn2⟩ := and_e hn0
  obtain ⟨wL, ev_L⟩ := exa_v nn0
  have EM : Exa s s.heap wL "com/example/rematch/rematch/Metric$1" := Exa.start ev_L nn0
  have SL : Sta s s.heap "com/example/rematch/rematch/Metric" "LINE" "Lcom/example/rematch/rematch/Metric;" (.ref wL) := Sta.start ev_L (Or.inr ⟨(hw _ (List.mem_of_getElem? (i := 12) rfl)), (hw _ (List.mem_of_getElem? (i := 13) rfl))⟩)
  obtain ⟨wA, ev_A⟩ := arr_v nn1
  have FA := Fld.start ((fld_at ev_L).symm.trans ev_A)
  obtain ⟨clA, ArA⟩ := Arr.start ev_A nn1
  have SA := own_len ev_A ArA nn2
  obtain ⟨wD, ev_D⟩ := arr_v (Cond.before_iff.mp (hsets _ (List.mem_of_getElem? (i := 6) rfl)))
  have SD : Sta s s.heap "java/util/ArrayList" "DEFAULTCAPACITY_EMPTY_ELEMENTDATA" "[Ljava/lang/Object;" (.ref wD) := Sta.start ev_D (Or.inr ⟨(hw _ (List.mem_of_getElem? (i := 16) rfl)), (hsets _ (List.mem_of_getElem? (i := 2) rfl))⟩)
  obtain ⟨n, o, h1, h2, h3, _, L, rfl, ⟨rfl, N⟩, hq⟩ := rm0 l s _ hw tables_1 i0 i1 i2 i3 i4 i5 wL s.heap s.heap.size (Nat.le_refl _) wD SD EM wA clA FA ArA SA SL (by decide) (by decide) p e ha hc hk s m _ below hf ((Spec.applies_iff_loose hf).mp happ).1 ⟨rfl, State.Warmed39.refl s, rfl⟩ trivial
  refine ⟨n, _, h1, h2, h3, hpost _ _ _ _ _ _ ⟨Cond.after_iff.mpr rfl, Cond.after_iff.mpr (eq_i res_at (Term.int_eval (1)) rfl), trivial⟩ ⟨hq.1, hq.2.1, (hq.2.2.sift fun y hy => Or.inr (N y hy)).mono (by decide) (by decide)⟩⟩
theorem main_1_1 : Claimed_1_1 := comes_1 fun _ _ _ _ _ _ h hF => ⟨h.1, hF⟩
theorem main_1_2 : Claimed_1_2 := comes_1 fun _ _ _ _ _ _ h hF => ⟨h.2.1, hF⟩
end Jvm.Pilot.@@N@@
namespace Jvm.Pilot.@@N@@
open Jvm Jvm.ClassFile Sem Op Lib Jvm.Free Jvm.Stand Jvm.Pilot.@@N@@.Jvm.D
/-! MADE BY PROGRAM (witnessworld.py) out of the Statement's table words and the real class files: 39 classes; the members and pool entries that the words name. The judged class is class 1, her method 3. -/
namespace start1
open Jvm.ClassFile
def u (s : String) : CpInfo := .utf8 (stringToUtf16 s)
/-- a pool by its gaps: so many unusable entries, then the entry; so many at the end -/
def gap : Nat → List CpInfo → List CpInfo
  | 0, r => r
  | n + 1, r => .unusable :: gap n r
def poolList (es : List (Nat × CpInfo)) (last : Nat) : List CpInfo := es.foldr (fun e r => gap e.1 (e.2 :: r)) (gap last [])
def pool (es : List (Nat × CpInfo)) (last : Nat) : Array CpInfo := ⟨poolList es last⟩
def fileOf (pool : Array CpInfo) (this : Nat) (attrs : Array Attribute := #[]) (ms : Array MethodInfo := #[]) (fl : Nat := 33) (sup : Nat := 0) (ifs : Array Nat := #[]) (fds : Array FieldInfo := #[]) : ClassFile where
  minorVersion := 0
  majorVersion := 65
  constantPool := pool
  accessFlags := fl
  thisClass := this
  superClass := sup
  interfaces := ifs
  fields := fds
  methods := ms
  attributes := attrs
def plain (name : String) (sup : Option ClassId) : Class where
  name := name
  kind := .ordinary
  loader := none
  accessFlags := 33
  super := sup
  interfaces := #[]
  cf := none
  fields := #[]
  methods := #[]
  instanceTypes := #[]
  staticTypes := #[]
  resolved := #[]
  callSites := []
  init := .initialized
  statics := none
  mirror := none

def pool0 : Array CpInfo := pool [(5, u "<init>"), (0, u "()V"), (1, .class_ 10), (1, u "java/lang/Object")] 113

def k0c0 : Code := { maxStack := 0, maxLocals := 1, code := object_method_1_code, exceptionTable := #[], attributes := #[] }
def k0m0 : Method := { name := "<init>", desc := "()V", sig := { parameters := [], returnType := none }, accessFlags := 1, code := some k0c0 }
/-- java/lang/Object -/
def k0 : Class := { plain "java/lang/Object" none with
  accessFlags := 33
  interfaces := #[]
  cf := some (fileOf pool0 8 #[] #[{ accessFlags := 1, nameIndex := 5, descriptorIndex := 6, attributes := #[] }] 33 0 #[] #[])
  fields := #[]
  methods := #[k0m0]
  instanceTypes := #[]
  staticTypes := #[]
  resolved := Array.replicate 124 none
  statics := none }

def pool1 : Array CpInfo := pool [(2, .class_ 4), (0, .nameAndType 5 6), (0, u "java/lang/Object"), (0, u "<init>"), (0, u "()V"), (0, .methodref 8 9), (0, .class_ 10), (0, .nameAndType 11 12), (0, u "com/example/rematch/rematch/ArrivalIsFreePinLaw"), (0, u "held"), (0, u "(II)Z"), (0, .integer 2147483647), (0, .methodref 8 15), (0, .nameAndType 16 17), (0, u "entry"), (0, u "(III)I"), (0, .class_ 19), (0, u "com/example/rematch/rematch/HindsightOptimum"), (0, .fieldref 21 22), (0, .class_ 23), (0, .nameAndType 24 25), (0, u "com/example/rematch/rematch/Metric"), (0, u "LINE"), (0, u "Lcom/example/rematch/rematch/Metric;"), (0, .class_ 27), (0, u "java/util/ArrayList"), (0, .methodref 26 3), (0, .methodref 18 30), (0, .nameAndType 5 31), (0, u "(Lcom/example/rematch/rematch/Metric;Ljava/util/List;)V"), (0, .class_ 33), (0, u "com/example/rematch/rematch/Arrival"), (0, .methodref 32 35), (0, .nameAndType 5 36), (0, u "(Lcom/example/rematch/rematch/HindsightOptimum;[I[II)V"), (0, .methodref 32 38), (0, .nameAndType 39 40), (0, u "isFree"), (0, u "(I)Z"), (3, u "law"), (0, u "(IIIIII)Z")] 4

def k1m0 : Method := { name := "<init>", desc := "()V", sig := { parameters := [], returnType := none }, accessFlags := 2, code := none }
def k1c1 : Code := { maxStack := 2, maxLocals := 2, code := method_2_code, exceptionTable := #[], attributes := #[] }
def k1m1 : Method := { name := "held", desc := "(II)Z", sig := { parameters := [.int, .int], returnType := some .boolean }, accessFlags := 10, code := some k1c1 }
def k1c2 : Code := { maxStack := 2, maxLocals := 3, code := method_3_code, exceptionTable := #[], attributes := #[] }
def k1m2 : Method := { name := "entry", desc := "(III)I", sig := { parameters := [.int, .int, .int], returnType := some .int }, accessFlags := 10, code := some k1c2 }
def k1c3 : Code := { maxStack := 7, maxLocals := 20, code := code, exceptionTable := #[], attributes := #[] }
def k1m3 : Method := { name := "law", desc := "(IIIIII)Z", sig := { parameters := [.int, .int, .int, .int, .int, .int], returnType := some .boolean }, accessFlags := 9, code := some k1c3 }
/-- com/example/rematch/rematch/ArrivalIsFreePinLaw -/
def k1 : Class := { plain "com/example/rematch/rematch/ArrivalIsFreePinLaw" (some 0) with
  accessFlags := 49
  interfaces := #[]
  cf := some (fileOf pool1 8 #[] #[{ accessFlags := 2, nameIndex := 5, descriptorIndex := 6, attributes := #[] }, { accessFlags := 10, nameIndex := 11, descriptorIndex := 12, attributes := #[] }, { accessFlags := 10, nameIndex := 16, descriptorIndex := 17, attributes := #[] }, { accessFlags := 9, nameIndex := 44, descriptorIndex := 45, attributes := #[] }] 49 2 #[] #[])
  fields := #[]
  methods := #[k1m0, k1m1, k1m2, k1m3]
  instanceTypes := #[]
  staticTypes := #[]
  resolved := Array.replicate 50 none
  statics := none }

def pool2 : Array CpInfo := pool [(1, .methodref 2 3), (0, .class_ 4), (0, .nameAndType 5 6), (0, u "java/lang/Object"), (0, u "<init>"), (0, u "()V"), (0, .class_ 8), (0, u "com/example/rematch/rematch/Distances"), (0, .methodref 7 10), (0, .nameAndType 5 11), (0, u "(Lcom/example/rematch/rematch/Metric;Ljava/util/List;)V"), (0, .fieldref 13 14), (0, .class_ 15), (0, .nameAndType 16 17), (0, u "com/example/rematch/rematch/HindsightOptimum"), (0, u "distances"), (0, u "Lcom/example/rematch/rematch/Distances;"), (0, .class_ 19), (0, u "com/example/rematch/rematch/OptimalAssignment"), (0, .interfaceMethodref 21 22), (0, .class_ 23), (0, .nameAndType 24 25), (0, u "java/util/List"), (0, u "size"), (0, u "()I"), (0, .methodref 18 27), (0, .nameAndType 5 28), (0, u "(I)V"), (0, .fieldref 13 30), (0, .nameAndType 31 32), (0, u "assignment"), (0, u "Lcom/example/rematch/rematch/OptimalAssignment;"), (24, u "value"), (0, u "D"), (10, u "()Lcom/example/rematch/rematch/Distances;")] 2

def k2c0 : Code := { maxStack := 5, maxLocals := 3, code := prog_10_method_1_code, exceptionTable := #[], attributes := #[] }
def k2m0 : Method := { name := "<init>", desc := "(Lcom/example/rematch/rematch/Metric;Ljava/util/List;)V", sig := { parameters := [(.object "com/example/rematch/rematch/Metric"), (.object "java/util/List")], returnType := none }, accessFlags := 1, code := some k2c0 }
def k2c1 : Code := { maxStack := 1, maxLocals := 1, code := prog_10_method_5_code, exceptionTable := #[], attributes := #[] }
def k2m1 : Method := { name := "distances", desc := "()Lcom/example/rematch/rematch/Distances;", sig := { parameters := [], returnType := some (.object "com/example/rematch/rematch/Distances") }, accessFlags := 0, code := some k2c1 }
/-- com/example/rematch/rematch/HindsightOptimum -/
def k2 : Class := { plain "com/example/rematch/rematch/HindsightOptimum" (some 0) with
  accessFlags := 49
  interfaces := #[]
  cf := some (fileOf pool2 13 #[] #[{ accessFlags := 1, nameIndex := 5, descriptorIndex := 11, attributes := #[] }, { accessFlags := 0, nameIndex := 16, descriptorIndex := 69, attributes := #[] }] 49 2 #[] #[{ accessFlags := 18, nameIndex := 16, descriptorIndex := 17, attributes := #[] }, { accessFlags := 18, nameIndex := 31, descriptorIndex := 32, attributes := #[] }, { accessFlags := 2, nameIndex := 57, descriptorIndex := 58, attributes := #[] }])
  fields := #[{ name := "distances", type := (.object "com/example/rematch/rematch/Distances"), accessFlags := 18, slot := 0, constantValue := 0 }, { name := "assignment", type := (.object "com/example/rematch/rematch/OptimalAssignment"), accessFlags := 18, slot := 1, constantValue := 0 }, { name := "value", type := .double, accessFlags := 2, slot := 2, constantValue := 0 }]
  methods := #[k2m0, k2m1]
  instanceTypes := #[(.object "com/example/rematch/rematch/Distances"), (.object "com/example/rematch/rematch/OptimalAssignment"), .double]
  staticTypes := #[]
  resolved := Array.replicate 72 none
  statics := none }

def pool3 : Array CpInfo := pool [(1, .class_ 2), (0, u "java/lang/constant/Constable"), (0, .class_ 4), (0, u "java/lang/Object")] 6

/-- java/lang/constant/Constable -/
def k3 : Class := { plain "java/lang/constant/Constable" (some 0) with
  accessFlags := 1537
  interfaces := #[]
  cf := some (fileOf pool3 1 #[] #[] 1537 3 #[] #[])
  fields := #[]
  methods := #[]
  instanceTypes := #[]
  staticTypes := #[]
  resolved := Array.replicate 11 none
  statics := none }

def pool4 : Array CpInfo := pool [(1, .class_ 2), (0, u "java/lang/Comparable"), (0, .class_ 4), (0, u "java/lang/Object")] 7

/-- java/lang/Comparable -/
def k4 : Class := { plain "java/lang/Comparable" (some 0) with
  accessFlags := 1537
  interfaces := #[]
  cf := some (fileOf pool4 1 #[] #[] 1537 3 #[] #[])
  fields := #[]
  methods := #[]
  instanceTypes := #[]
  staticTypes := #[]
  resolved := Array.replicate 12 none
  statics := none }

def pool5 : Array CpInfo := pool [(1, .class_ 2), (0, u "java/io/Serializable"), (0, .class_ 4), (0, u "java/lang/Object")] 2

/-- java/io/Serializable -/
def k5 : Class := { plain "java/io/Serializable" (some 0) with
  accessFlags := 1537
  interfaces := #[]
  cf := some (fileOf pool5 1 #[] #[] 1537 3 #[] #[])
  fields := #[]
  methods := #[]
  instanceTypes := #[]
  staticTypes := #[]
  resolved := Array.replicate 7 none
  statics := none }

def pool6 : Array CpInfo := pool [(2, .class_ 4), (1, u "java/lang/Enum"), (0, u "name"), (0, u "Ljava/lang/String;"), (2, u "ordinal"), (0, u "I"), (1, .class_ 14), (1, u "java/lang/Object"), (4, u "hash"), (86, .class_ 108), (1, u "java/lang/Enum$EnumDesc"), (2, .class_ 112), (0, u "java/lang/constant/Constable"), (0, .class_ 114), (0, u "java/lang/Comparable"), (0, .class_ 116), (0, u "java/io/Serializable")] 87

/-- java/lang/Enum -/
def k6 : Class := { plain "java/lang/Enum" (some 0) with
  accessFlags := 1057
  interfaces := #[3, 4, 5]
  cf := some (fileOf pool6 2 #[.nestMembers #[106]] #[] 1057 12 #[111, 113, 115] #[{ accessFlags := 18, nameIndex := 5, descriptorIndex := 6, attributes := #[] }, { accessFlags := 18, nameIndex := 9, descriptorIndex := 10, attributes := #[] }, { accessFlags := 2, nameIndex := 19, descriptorIndex := 10, attributes := #[] }])
  fields := #[{ name := "name", type := (.object "java/lang/String"), accessFlags := 18, slot := 0, constantValue := 0 }, { name := "ordinal", type := .int, accessFlags := 18, slot := 1, constantValue := 0 }, { name := "hash", type := .int, accessFlags := 2, slot := 2, constantValue := 0 }]
  methods := #[]
  instanceTypes := #[(.object "java/lang/String"), .int, .int]
  staticTypes := #[]
  resolved := Array.replicate 204 none
  statics := none }

def pool7 : Array CpInfo := pool [(1, .class_ 2), (0, u "com/example/rematch/rematch/Metric"), (2, u "LINE"), (0, u "Lcom/example/rematch/rematch/Metric;"), (2, u "EUCLIDEAN"), (2, u "SPHERE"), (2, u "$VALUES"), (0, u "[Lcom/example/rematch/rematch/Metric;"), (6, .class_ 25), (1, u "java/lang/Enum"), (8, u "keyword"), (0, u "Ljava/lang/String;"), (0, .fieldref 1 37), (0, .nameAndType 38 39), (0, u "axes"), (0, u "[Lcom/example/rematch/rematch/Metric$Axis;"), (40, .class_ 82), (1, u "com/example/rematch/rematch/Metric$Axis"), (15, .class_ 99), (0, u "com/example/rematch/rematch/Metric$1"), (12, .class_ 113), (0, u "com/example/rematch/rematch/Metric$2"), (6, .class_ 121), (0, u "com/example/rematch/rematch/Metric$3"), (22, u "EARTH_RADIUS_KM"), (0, u "D"), (13, u "dimensions"), (0, u "()I")] 32

def k7c0 : Code := { maxStack := 1, maxLocals := 1, code := prog_11_method_6_code, exceptionTable := #[], attributes := #[] }
def k7m0 : Method := { name := "dimensions", desc := "()I", sig := { parameters := [], returnType := some .int }, accessFlags := 1, code := some k7c0 }
/-- com/example/rematch/rematch/Metric -/
def k7 : Class := { plain "com/example/rematch/rematch/Metric" (some 6) with
  accessFlags := 17441
  interfaces := #[]
  cf := some (fileOf pool7 1 #[.nestMembers #[80, 120, 112, 98]] #[{ accessFlags := 1, nameIndex := 159, descriptorIndex := 160, attributes := #[] }] 17441 23 #[] #[{ accessFlags := 16409, nameIndex := 5, descriptorIndex := 6, attributes := #[] }, { accessFlags := 16409, nameIndex := 9, descriptorIndex := 6, attributes := #[] }, { accessFlags := 16409, nameIndex := 12, descriptorIndex := 6, attributes := #[] }, { accessFlags := 26, nameIndex := 144, descriptorIndex := 145, attributes := #[] }, { accessFlags := 18, nameIndex := 34, descriptorIndex := 35, attributes := #[] }, { accessFlags := 18, nameIndex := 38, descriptorIndex := 39, attributes := #[] }, { accessFlags := 4122, nameIndex := 15, descriptorIndex := 16, attributes := #[] }])
  fields := #[{ name := "LINE", type := (.object "com/example/rematch/rematch/Metric"), accessFlags := 16409, slot := 0, constantValue := 0 }, { name := "EUCLIDEAN", type := (.object "com/example/rematch/rematch/Metric"), accessFlags := 16409, slot := 1, constantValue := 0 }, { name := "SPHERE", type := (.object "com/example/rematch/rematch/Metric"), accessFlags := 16409, slot := 2, constantValue := 0 }, { name := "EARTH_RADIUS_KM", type := .double, accessFlags := 26, slot := 3, constantValue := 0 }, { name := "keyword", type := (.object "java/lang/String"), accessFlags := 18, slot := 3, constantValue := 0 }, { name := "axes", type := (.array (.object "com/example/rematch/rematch/Metric$Axis")), accessFlags := 18, slot := 4, constantValue := 0 }, { name := "$VALUES", type := (.array (.object "com/example/rematch/rematch/Metric")), accessFlags := 4122, slot := 4, constantValue := 0 }]
  methods := #[k7m0]
  instanceTypes := #[(.object "java/lang/String"), .int, .int, (.object "java/lang/String"), (.array (.object "com/example/rematch/rematch/Metric$Axis"))]
  staticTypes := #[(.object "com/example/rematch/rematch/Metric"), (.object "com/example/rematch/rematch/Metric"), (.object "com/example/rematch/rematch/Metric"), .double, (.array (.object "com/example/rematch/rematch/Metric"))]
  resolved := Array.replicate 193 none
  statics := some 0 }

def pool8 : Array CpInfo := pool [(8, .class_ 10), (1, u "java/lang/Iterable"), (24, .class_ 36), (0, u "java/lang/Object")] 25

/-- java/lang/Iterable -/
def k8 : Class := { plain "java/lang/Iterable" (some 0) with
  accessFlags := 1537
  interfaces := #[]
  cf := some (fileOf pool8 8 #[] #[] 1537 35 #[] #[])
  fields := #[]
  methods := #[]
  instanceTypes := #[]
  staticTypes := #[]
  resolved := Array.replicate 62 none
  statics := none }

def pool9 : Array CpInfo := pool [(10, .class_ 12), (1, u "java/util/Collection"), (47, .class_ 61), (0, u "java/lang/Object"), (0, .class_ 63), (0, u "java/lang/Iterable")] 51

/-- java/util/Collection -/
def k9 : Class := { plain "java/util/Collection" (some 0) with
  accessFlags := 1537
  interfaces := #[8]
  cf := some (fileOf pool9 10 #[] #[] 1537 60 #[62] #[])
  fields := #[]
  methods := #[]
  instanceTypes := #[]
  staticTypes := #[]
  resolved := Array.replicate 115 none
  statics := none }

def pool10 : Array CpInfo := pool [(1, .methodref 2 3), (0, .class_ 4), (0, .nameAndType 5 6), (0, u "java/lang/Object"), (0, u "<init>"), (0, u "()V"), (1, .class_ 10), (1, u "java/util/AbstractCollection"), (66, .class_ 78), (0, u "java/util/Collection")] 81

def k10c0 : Code := { maxStack := 1, maxLocals := 1, code := jdk_22_method_1_code, exceptionTable := #[], attributes := #[] }
def k10m0 : Method := { name := "<init>", desc := "()V", sig := { parameters := [], returnType := none }, accessFlags := 4, code := some k10c0 }
/-- java/util/AbstractCollection -/
def k10 : Class := { plain "java/util/AbstractCollection" (some 0) with
  accessFlags := 1057
  interfaces := #[9]
  cf := some (fileOf pool10 8 #[] #[{ accessFlags := 4, nameIndex := 5, descriptorIndex := 6, attributes := #[] }] 1057 2 #[77] #[])
  fields := #[]
  methods := #[k10m0]
  instanceTypes := #[]
  staticTypes := #[]
  resolved := Array.replicate 160 none
  statics := none }

def pool11 : Array CpInfo := pool [(8, .class_ 10), (1, u "java/util/SequencedCollection"), (15, .class_ 27), (0, u "java/lang/Object"), (0, .class_ 29), (0, u "java/util/Collection")] 27

/-- java/util/SequencedCollection -/
def k11 : Class := { plain "java/util/SequencedCollection" (some 0) with
  accessFlags := 1537
  interfaces := #[9]
  cf := some (fileOf pool11 8 #[] #[] 1537 26 #[28] #[])
  fields := #[]
  methods := #[]
  instanceTypes := #[]
  staticTypes := #[]
  resolved := Array.replicate 57 none
  statics := none }

def pool12 : Array CpInfo := pool [(8, .class_ 10), (1, u "java/util/List"), (68, u "size"), (0, u "()I"), (22, .class_ 104), (0, u "java/lang/Object"), (15, .class_ 121), (0, u "java/util/SequencedCollection")] 129

def k12m0 : Method := { name := "size", desc := "()I", sig := { parameters := [], returnType := some .int }, accessFlags := 1025, code := none }
/-- java/util/List -/
def k12 : Class := { plain "java/util/List" (some 0) with
  accessFlags := 1537
  interfaces := #[11]
  cf := some (fileOf pool12 8 #[] #[{ accessFlags := 1025, nameIndex := 79, descriptorIndex := 80, attributes := #[] }] 1537 103 #[120] #[])
  fields := #[]
  methods := #[k12m0]
  instanceTypes := #[]
  staticTypes := #[]
  resolved := Array.replicate 251 none
  statics := none }

def pool13 : Array CpInfo := pool [(1, .methodref 2 3), (0, .class_ 4), (0, .nameAndType 5 6), (0, u "java/util/AbstractCollection"), (0, u "<init>"), (0, u "()V"), (0, .fieldref 8 9), (0, .class_ 10), (0, .nameAndType 11 12), (0, u "java/util/AbstractList"), (0, u "modCount"), (0, u "I"), (64, .class_ 78), (0, u "java/util/AbstractList$Itr"), (3, .class_ 83), (0, u "java/util/AbstractList$ListItr"), (9, .class_ 94), (0, u "java/util/AbstractList$RandomAccessSubList"), (3, .class_ 99), (0, u "java/util/AbstractList$SubList"), (33, .class_ 134), (0, u "java/util/List"), (73, .class_ 209), (0, u "java/util/AbstractList$SubList$1"), (0, .class_ 211), (0, u "java/util/AbstractList$RandomAccessSpliterator")] 6

def k13c0 : Code := { maxStack := 2, maxLocals := 1, code := jdk_39_method_1_code, exceptionTable := #[], attributes := #[] }
def k13m0 : Method := { name := "<init>", desc := "()V", sig := { parameters := [], returnType := none }, accessFlags := 4, code := some k13c0 }
/-- java/util/AbstractList -/
def k13 : Class := { plain "java/util/AbstractList" (some 10) with
  accessFlags := 1057
  interfaces := #[12]
  cf := some (fileOf pool13 8 #[.nestMembers #[93, 98, 208, 210, 82, 77]] #[{ accessFlags := 4, nameIndex := 5, descriptorIndex := 6, attributes := #[] }] 1057 2 #[133] #[{ accessFlags := 132, nameIndex := 11, descriptorIndex := 12, attributes := #[] }])
  fields := #[{ name := "modCount", type := .int, accessFlags := 132, slot := 0, constantValue := 0 }]
  methods := #[k13m0]
  instanceTypes := #[.int]
  staticTypes := #[]
  resolved := Array.replicate 218 none
  statics := none }

def pool14 : Array CpInfo := pool [(1, .class_ 2), (0, u "java/util/RandomAccess"), (0, .class_ 4), (0, u "java/lang/Object")] 2

/-- java/util/RandomAccess -/
def k14 : Class := { plain "java/util/RandomAccess" (some 0) with
  accessFlags := 1537
  interfaces := #[]
  cf := some (fileOf pool14 1 #[] #[] 1537 3 #[] #[])
  fields := #[]
  methods := #[]
  instanceTypes := #[]
  staticTypes := #[]
  resolved := Array.replicate 7 none
  statics := none }

def pool15 : Array CpInfo := pool [(1, .class_ 2), (0, u "java/lang/Cloneable"), (0, .class_ 4), (0, u "java/lang/Object")] 2

/-- java/lang/Cloneable -/
def k15 : Class := { plain "java/lang/Cloneable" (some 0) with
  accessFlags := 1537
  interfaces := #[]
  cf := some (fileOf pool15 1 #[] #[] 1537 3 #[] #[])
  fields := #[]
  methods := #[]
  instanceTypes := #[]
  staticTypes := #[]
  resolved := Array.replicate 7 none
  statics := none }

def pool16 : Array CpInfo := pool [(1, .methodref 2 3), (0, .class_ 4), (0, .nameAndType 5 6), (0, u "java/util/AbstractList"), (0, u "<init>"), (0, u "()V"), (2, .fieldref 10 11), (0, .class_ 12), (0, .nameAndType 13 14), (0, u "java/util/ArrayList"), (0, u "elementData"), (0, u "[Ljava/lang/Object;"), (2, u "EMPTY_ELEMENTDATA"), (21, .fieldref 10 40), (0, .nameAndType 41 14), (0, u "DEFAULTCAPACITY_EMPTY_ELEMENTDATA"), (6, .fieldref 10 49), (0, .nameAndType 50 51), (0, u "size"), (0, u "I"), (96, .class_ 149), (0, u "java/util/List"), (36, u "()I"), (75, .class_ 263), (0, u "java/util/ArrayList$ListItr"), (3, .class_ 268), (0, u "java/util/ArrayList$Itr"), (7, .class_ 277), (0, u "java/util/ArrayList$SubList"), (12, .class_ 291), (0, u "java/util/ArrayList$ArrayListSpliterator"), (37, .class_ 330), (0, u "java/util/RandomAccess"), (0, .class_ 332), (0, u "java/lang/Cloneable"), (0, .class_ 334), (0, u "java/io/Serializable"), (0, u "serialVersionUID"), (0, u "J"), (3, u "DEFAULT_CAPACITY"), (159, .class_ 501), (0, u "java/util/ArrayList$SubList$2"), (0, .class_ 503), (0, u "java/util/ArrayList$SubList$1")] 5

def k16c0 : Code := { maxStack := 2, maxLocals := 1, code := jdk_38_method_2_code, exceptionTable := #[], attributes := #[] }
def k16m0 : Method := { name := "<init>", desc := "()V", sig := { parameters := [], returnType := none }, accessFlags := 1, code := some k16c0 }
def k16c1 : Code := { maxStack := 1, maxLocals := 1, code := jdk_38_method_8_code, exceptionTable := #[], attributes := #[] }
def k16m1 : Method := { name := "size", desc := "()I", sig := { parameters := [], returnType := some .int }, accessFlags := 1, code := some k16c1 }
/-- java/util/ArrayList -/
def k16 : Class := { plain "java/util/ArrayList" (some 13) with
  accessFlags := 33
  interfaces := #[12, 14, 15, 5]
  cf := some (fileOf pool16 10 #[.nestMembers #[290, 276, 500, 502, 262, 267]] #[{ accessFlags := 1, nameIndex := 5, descriptorIndex := 6, attributes := #[] }, { accessFlags := 1, nameIndex := 50, descriptorIndex := 186, attributes := #[] }] 33 2 #[148, 329, 331, 333] #[{ accessFlags := 26, nameIndex := 335, descriptorIndex := 336, attributes := #[] }, { accessFlags := 26, nameIndex := 340, descriptorIndex := 51, attributes := #[] }, { accessFlags := 26, nameIndex := 17, descriptorIndex := 14, attributes := #[] }, { accessFlags := 26, nameIndex := 41, descriptorIndex := 14, attributes := #[] }, { accessFlags := 128, nameIndex := 13, descriptorIndex := 14, attributes := #[] }, { accessFlags := 2, nameIndex := 50, descriptorIndex := 51, attributes := #[] }])
  fields := #[{ name := "serialVersionUID", type := .long, accessFlags := 26, slot := 0, constantValue := 0 }, { name := "DEFAULT_CAPACITY", type := .int, accessFlags := 26, slot := 1, constantValue := 0 }, { name := "EMPTY_ELEMENTDATA", type := (.array (.object "java/lang/Object")), accessFlags := 26, slot := 2, constantValue := 0 }, { name := "DEFAULTCAPACITY_EMPTY_ELEMENTDATA", type := (.array (.object "java/lang/Object")), accessFlags := 26, slot := 3, constantValue := 0 }, { name := "elementData", type := (.array (.object "java/lang/Object")), accessFlags := 128, slot := 1, constantValue := 0 }, { name := "size", type := .int, accessFlags := 2, slot := 2, constantValue := 0 }]
  methods := #[k16m0, k16m1]
  instanceTypes := #[.int, (.array (.object "java/lang/Object")), .int]
  staticTypes := #[.long, .int, (.array (.object "java/lang/Object")), (.array (.object "java/lang/Object"))]
  resolved := Array.replicate 509 none
  statics := some 1 }

def pool17 : Array CpInfo := pool [(1, .methodref 2 3), (0, .class_ 4), (0, .nameAndType 5 6), (0, u "java/lang/Object"), (0, u "<init>"), (0, u "()V"), (0, .interfaceMethodref 8 9), (0, .class_ 10), (0, .nameAndType 11 12), (0, u "java/util/List"), (0, u "size"), (0, u "()I"), (0, .fieldref 14 15), (0, .class_ 16), (0, .nameAndType 17 18), (0, u "com/example/rematch/rematch/Distances"), (0, u "metric"), (0, u "Lcom/example/rematch/rematch/Metric;"), (0, .class_ 20), (0, u "[D"), (0, .fieldref 14 22), (0, .nameAndType 23 24), (0, u "serverAt"), (0, u "[[D"), (0, .class_ 26), (0, u "com/example/rematch/rematch/Extent"), (0, .methodref 25 28), (0, .nameAndType 5 29), (0, u "(Lcom/example/rematch/rematch/Metric;)V"), (0, .fieldref 14 31), (0, .nameAndType 32 33), (0, u "extent"), (0, u "Lcom/example/rematch/rematch/Extent;"), (14, .fieldref 14 49), (0, .nameAndType 50 24), (0, u "clientAt"), (0, .fieldref 14 52), (0, .nameAndType 53 24), (0, u "distanceRow"), (0, .class_ 55), (0, u "[I"), (0, .fieldref 14 57), (0, .nameAndType 58 59), (0, u "slopeRow"), (0, u "[[I"), (0, .fieldref 14 61), (0, .nameAndType 62 55), (0, u "noSlopes"), (2, u "clients"), (0, u "I"), (44, u "(Lcom/example/rematch/rematch/Metric;Ljava/util/List;)V")] 33

def k17c0 : Code := { maxStack := 5, maxLocals := 5, code := prog_4_method_1_code, exceptionTable := #[], attributes := #[] }
def k17m0 : Method := { name := "<init>", desc := "(Lcom/example/rematch/rematch/Metric;Ljava/util/List;)V", sig := { parameters := [(.object "com/example/rematch/rematch/Metric"), (.object "java/util/List")], returnType := none }, accessFlags := 0, code := some k17c0 }
/-- com/example/rematch/rematch/Distances -/
def k17 : Class := { plain "com/example/rematch/rematch/Distances" (some 0) with
  accessFlags := 48
  interfaces := #[]
  cf := some (fileOf pool17 14 #[] #[{ accessFlags := 0, nameIndex := 5, descriptorIndex := 111, attributes := #[] }] 48 2 #[] #[{ accessFlags := 18, nameIndex := 17, descriptorIndex := 18, attributes := #[] }, { accessFlags := 18, nameIndex := 23, descriptorIndex := 24, attributes := #[] }, { accessFlags := 18, nameIndex := 50, descriptorIndex := 24, attributes := #[] }, { accessFlags := 18, nameIndex := 53, descriptorIndex := 24, attributes := #[] }, { accessFlags := 18, nameIndex := 58, descriptorIndex := 59, attributes := #[] }, { accessFlags := 18, nameIndex := 62, descriptorIndex := 55, attributes := #[] }, { accessFlags := 2, nameIndex := 32, descriptorIndex := 33, attributes := #[] }, { accessFlags := 2, nameIndex := 65, descriptorIndex := 66, attributes := #[] }])
  fields := #[{ name := "metric", type := (.object "com/example/rematch/rematch/Metric"), accessFlags := 18, slot := 0, constantValue := 0 }, { name := "serverAt", type := (.array (.array .double)), accessFlags := 18, slot := 1, constantValue := 0 }, { name := "clientAt", type := (.array (.array .double)), accessFlags := 18, slot := 2, constantValue := 0 }, { name := "distanceRow", type := (.array (.array .double)), accessFlags := 18, slot := 3, constantValue := 0 }, { name := "slopeRow", type := (.array (.array .int)), accessFlags := 18, slot := 4, constantValue := 0 }, { name := "noSlopes", type := (.array .int), accessFlags := 18, slot := 5, constantValue := 0 }, { name := "extent", type := (.object "com/example/rematch/rematch/Extent"), accessFlags := 2, slot := 6, constantValue := 0 }, { name := "clients", type := .int, accessFlags := 2, slot := 7, constantValue := 0 }]
  methods := #[k17m0]
  instanceTypes := #[(.object "com/example/rematch/rematch/Metric"), (.array (.array .double)), (.array (.array .double)), (.array (.array .double)), (.array (.array .int)), (.array .int), (.object "com/example/rematch/rematch/Extent"), .int]
  staticTypes := #[]
  resolved := Array.replicate 145 none
  statics := none }

def pool18 : Array CpInfo := pool [(3, .double 9218868437227405312), (1, .methodref 6 7), (0, .class_ 8), (0, .nameAndType 9 10), (0, u "com/example/rematch/rematch/Extent"), (0, u "filled"), (0, u "(Lcom/example/rematch/rematch/Metric;D)[D"), (0, .double 18442240474082181120), (1, .methodref 6 14), (0, .nameAndType 15 16), (0, u "<init>"), (0, u "(Lcom/example/rematch/rematch/Metric;[D[DDI)V"), (0, .methodref 18 19), (0, .class_ 20), (0, .nameAndType 15 21), (0, u "java/lang/Object"), (0, u "()V"), (0, .fieldref 6 23), (0, .nameAndType 24 25), (0, u "metric"), (0, u "Lcom/example/rematch/rematch/Metric;"), (0, .fieldref 6 27), (0, .nameAndType 28 29), (0, u "low"), (0, u "[D"), (0, .fieldref 6 31), (0, .nameAndType 32 29), (0, u "high"), (0, .fieldref 6 34), (0, .nameAndType 35 36), (0, u "latestTime"), (0, u "D"), (0, .fieldref 6 38), (0, .nameAndType 39 40), (0, u "summed"), (0, u "I"), (39, .class_ 82), (1, u "com/example/rematch/rematch/Metric"), (21, .methodref 80 105), (0, .nameAndType 106 107), (0, u "dimensions"), (0, u "()I"), (0, .methodref 109 110), (0, .class_ 111), (0, .nameAndType 112 113), (0, u "java/util/Arrays"), (0, u "fill"), (0, u "([DD)V"), (0, u "MARGIN"), (2, u "(Lcom/example/rematch/rematch/Metric;)V")] 27

def k18c0 : Code := { maxStack := 7, maxLocals := 2, code := prog_6_method_1_code, exceptionTable := #[], attributes := #[] }
def k18m0 : Method := { name := "<init>", desc := "(Lcom/example/rematch/rematch/Metric;)V", sig := { parameters := [(.object "com/example/rematch/rematch/Metric")], returnType := none }, accessFlags := 0, code := some k18c0 }
def k18c1 : Code := { maxStack := 3, maxLocals := 7, code := prog_6_method_2_code, exceptionTable := #[], attributes := #[] }
def k18m1 : Method := { name := "<init>", desc := "(Lcom/example/rematch/rematch/Metric;[D[DDI)V", sig := { parameters := [(.object "com/example/rematch/rematch/Metric"), (.array .double), (.array .double), .double, .int], returnType := none }, accessFlags := 2, code := some k18c1 }
def k18c2 : Code := { maxStack := 3, maxLocals := 4, code := prog_6_method_7_code, exceptionTable := #[], attributes := #[] }
def k18m2 : Method := { name := "filled", desc := "(Lcom/example/rematch/rematch/Metric;D)[D", sig := { parameters := [(.object "com/example/rematch/rematch/Metric"), .double], returnType := some (.array .double) }, accessFlags := 10, code := some k18c2 }
/-- com/example/rematch/rematch/Extent -/
def k18 : Class := { plain "com/example/rematch/rematch/Extent" (some 0) with
  accessFlags := 48
  interfaces := #[]
  cf := some (fileOf pool18 6 #[] #[{ accessFlags := 0, nameIndex := 15, descriptorIndex := 117, attributes := #[] }, { accessFlags := 2, nameIndex := 15, descriptorIndex := 16, attributes := #[] }, { accessFlags := 10, nameIndex := 9, descriptorIndex := 10, attributes := #[] }] 48 18 #[] #[{ accessFlags := 26, nameIndex := 114, descriptorIndex := 40, attributes := #[] }, { accessFlags := 18, nameIndex := 24, descriptorIndex := 25, attributes := #[] }, { accessFlags := 18, nameIndex := 28, descriptorIndex := 29, attributes := #[] }, { accessFlags := 18, nameIndex := 32, descriptorIndex := 29, attributes := #[] }, { accessFlags := 18, nameIndex := 35, descriptorIndex := 36, attributes := #[] }, { accessFlags := 18, nameIndex := 39, descriptorIndex := 40, attributes := #[] }])
  fields := #[{ name := "MARGIN", type := .int, accessFlags := 26, slot := 0, constantValue := 0 }, { name := "metric", type := (.object "com/example/rematch/rematch/Metric"), accessFlags := 18, slot := 0, constantValue := 0 }, { name := "low", type := (.array .double), accessFlags := 18, slot := 1, constantValue := 0 }, { name := "high", type := (.array .double), accessFlags := 18, slot := 2, constantValue := 0 }, { name := "latestTime", type := .double, accessFlags := 18, slot := 3, constantValue := 0 }, { name := "summed", type := .int, accessFlags := 18, slot := 4, constantValue := 0 }]
  methods := #[k18m0, k18m1, k18m2]
  instanceTypes := #[(.object "com/example/rematch/rematch/Metric"), (.array .double), (.array .double), .double, .int]
  staticTypes := #[.int]
  resolved := Array.replicate 145 none
  statics := none }

def pool19 : Array CpInfo := pool [(2, .class_ 4), (1, u "com/example/rematch/rematch/Metric"), (8, .class_ 14), (0, u "com/example/rematch/rematch/Metric$1")] 16

/-- com/example/rematch/rematch/Metric$1 -/
def k19 : Class := { plain "com/example/rematch/rematch/Metric$1" (some 7) with
  accessFlags := 16432
  interfaces := #[]
  cf := some (fileOf pool19 13 #[.nestHost 2] #[] 16432 2 #[] #[])
  fields := #[]
  methods := #[]
  instanceTypes := #[(.object "java/lang/String"), .int, .int, (.object "java/lang/String"), (.array (.object "com/example/rematch/rematch/Metric$Axis"))]
  staticTypes := #[]
  resolved := Array.replicate 31 none
  statics := none }

def pool20 : Array CpInfo := pool [(2, .class_ 4), (1, u "java/lang/Object"), (0, u "<init>"), (0, u "()V"), (7, .class_ 16), (1, u "java/util/Arrays"), (57, .class_ 76), (1, u "java/util/Arrays$NaturalOrder"), (36, .class_ 115), (1, u "java/util/Arrays$LegacyMergeSort"), (1, u "Z"), (257, .class_ 376), (0, u "java/util/Arrays$ArrayList"), (68, u "$assertionsDisabled"), (269, u "MIN_ARRAY_SORT_GRAN"), (0, u "I"), (2, u "INSERTIONSORT_THRESHOLD"), (120, u "fill"), (4, u "([II)V"), (8, u "([DD)V"), (120, .class_ 976), (0, u "java/util/Arrays$ArrayItr")] 52

def k20m0 : Method := { name := "<init>", desc := "()V", sig := { parameters := [], returnType := none }, accessFlags := 2, code := none }
def k20c1 : Code := { maxStack := 3, maxLocals := 4, code := jdk_65_method_103_code, exceptionTable := #[], attributes := #[] }
def k20m1 : Method := { name := "fill", desc := "([II)V", sig := { parameters := [(.array .int), .int], returnType := none }, accessFlags := 9, code := some k20c1 }
def k20c2 : Code := { maxStack := 4, maxLocals := 5, code := jdk_65_method_113_code, exceptionTable := #[], attributes := #[] }
def k20m2 : Method := { name := "fill", desc := "([DD)V", sig := { parameters := [(.array .double), .double], returnType := none }, accessFlags := 9, code := some k20c2 }
/-- java/util/Arrays -/
def k20 : Class := { plain "java/util/Arrays" (some 0) with
  accessFlags := 49
  interfaces := #[]
  cf := some (fileOf pool20 14 #[.nestMembers #[975, 375, 113, 74]] #[{ accessFlags := 2, nameIndex := 5, descriptorIndex := 6, attributes := #[] }, { accessFlags := 9, nameIndex := 840, descriptorIndex := 845, attributes := #[] }, { accessFlags := 9, nameIndex := 840, descriptorIndex := 854, attributes := #[] }] 49 2 #[] #[{ accessFlags := 26, nameIndex := 715, descriptorIndex := 716, attributes := #[] }, { accessFlags := 26, nameIndex := 719, descriptorIndex := 716, attributes := #[] }, { accessFlags := 4120, nameIndex := 445, descriptorIndex := 117, attributes := #[] }])
  fields := #[{ name := "MIN_ARRAY_SORT_GRAN", type := .int, accessFlags := 26, slot := 0, constantValue := 0 }, { name := "INSERTIONSORT_THRESHOLD", type := .int, accessFlags := 26, slot := 1, constantValue := 0 }, { name := "$assertionsDisabled", type := .boolean, accessFlags := 4120, slot := 2, constantValue := 0 }]
  methods := #[k20m0, k20m1, k20m2]
  instanceTypes := #[]
  staticTypes := #[.int, .int, .boolean]
  resolved := Array.replicate 1029 none
  statics := none }

def pool21 : Array CpInfo := pool [(1, .methodref 2 3), (0, .class_ 4), (0, .nameAndType 5 6), (0, u "com/example/rematch/rematch/OptimalAssignment"), (0, u "<init>"), (0, u "([D)V"), (0, .methodref 8 9), (0, .class_ 10), (0, .nameAndType 5 11), (0, u "java/lang/Object"), (0, u "()V"), (0, .fieldref 2 13), (0, .nameAndType 14 15), (0, u "columnCount"), (0, u "I"), (0, .class_ 17), (0, u "[D"), (0, .fieldref 2 19), (0, .nameAndType 20 21), (0, u "costsOfRow"), (0, u "[[D"), (0, .class_ 23), (0, u "[I"), (0, .fieldref 2 25), (0, .nameAndType 26 27), (0, u "slopesOfRow"), (0, u "[[I"), (0, .fieldref 2 29), (0, .nameAndType 30 23), (0, u "columnOfRow"), (0, .fieldref 2 32), (0, .nameAndType 33 23), (0, u "rowOfColumn"), (0, .methodref 35 36), (0, .class_ 37), (0, .nameAndType 38 39), (0, u "java/util/Arrays"), (0, u "fill"), (0, u "([II)V"), (0, .fieldref 2 41), (0, .nameAndType 42 17), (0, u "rowPotential"), (0, .fieldref 2 44), (0, .nameAndType 45 46), (0, u "rowSlope"), (0, u "[J"), (0, .fieldref 2 48), (0, .nameAndType 49 17), (0, u "columnPotential"), (0, .fieldref 2 51), (0, .nameAndType 52 46), (0, u "columnSlope"), (0, .fieldref 2 54), (0, .nameAndType 55 17), (0, u "pathLength"), (0, .fieldref 2 57), (0, .nameAndType 58 46), (0, u "pathSlope"), (0, .fieldref 2 60), (0, .nameAndType 61 23), (0, u "via"), (0, .fieldref 2 63), (0, .nameAndType 64 65), (0, u "settled"), (0, u "[Z"), (11, u "rows"), (36, u "FREE"), (2, u "(I)V")] 27

def k21c0 : Code := { maxStack := 2, maxLocals := 2, code := prog_20_method_1_code, exceptionTable := #[], attributes := #[] }
def k21m0 : Method := { name := "<init>", desc := "(I)V", sig := { parameters := [.int], returnType := none }, accessFlags := 0, code := some k21c0 }
def k21c1 : Code := { maxStack := 2, maxLocals := 3, code := prog_20_method_2_code, exceptionTable := #[], attributes := #[] }
def k21m1 : Method := { name := "<init>", desc := "([D)V", sig := { parameters := [(.array .double)], returnType := none }, accessFlags := 2, code := some k21c1 }
/-- com/example/rematch/rematch/OptimalAssignment -/
def k21 : Class := { plain "com/example/rematch/rematch/OptimalAssignment" (some 0) with
  accessFlags := 48
  interfaces := #[]
  cf := some (fileOf pool21 2 #[] #[{ accessFlags := 0, nameIndex := 5, descriptorIndex := 117, attributes := #[] }, { accessFlags := 2, nameIndex := 5, descriptorIndex := 6, attributes := #[] }] 48 8 #[] #[{ accessFlags := 26, nameIndex := 114, descriptorIndex := 15, attributes := #[] }, { accessFlags := 18, nameIndex := 14, descriptorIndex := 15, attributes := #[] }, { accessFlags := 18, nameIndex := 20, descriptorIndex := 21, attributes := #[] }, { accessFlags := 18, nameIndex := 26, descriptorIndex := 27, attributes := #[] }, { accessFlags := 18, nameIndex := 30, descriptorIndex := 23, attributes := #[] }, { accessFlags := 18, nameIndex := 33, descriptorIndex := 23, attributes := #[] }, { accessFlags := 18, nameIndex := 42, descriptorIndex := 17, attributes := #[] }, { accessFlags := 18, nameIndex := 45, descriptorIndex := 46, attributes := #[] }, { accessFlags := 18, nameIndex := 49, descriptorIndex := 17, attributes := #[] }, { accessFlags := 18, nameIndex := 52, descriptorIndex := 46, attributes := #[] }, { accessFlags := 2, nameIndex := 77, descriptorIndex := 15, attributes := #[] }, { accessFlags := 18, nameIndex := 55, descriptorIndex := 17, attributes := #[] }, { accessFlags := 18, nameIndex := 58, descriptorIndex := 46, attributes := #[] }, { accessFlags := 18, nameIndex := 61, descriptorIndex := 23, attributes := #[] }, { accessFlags := 18, nameIndex := 64, descriptorIndex := 65, attributes := #[] }])
  fields := #[{ name := "FREE", type := .int, accessFlags := 26, slot := 0, constantValue := 0 }, { name := "columnCount", type := .int, accessFlags := 18, slot := 0, constantValue := 0 }, { name := "costsOfRow", type := (.array (.array .double)), accessFlags := 18, slot := 1, constantValue := 0 }, { name := "slopesOfRow", type := (.array (.array .int)), accessFlags := 18, slot := 2, constantValue := 0 }, { name := "columnOfRow", type := (.array .int), accessFlags := 18, slot := 3, constantValue := 0 }, { name := "rowOfColumn", type := (.array .int), accessFlags := 18, slot := 4, constantValue := 0 }, { name := "rowPotential", type := (.array .double), accessFlags := 18, slot := 5, constantValue := 0 }, { name := "rowSlope", type := (.array .long), accessFlags := 18, slot := 6, constantValue := 0 }, { name := "columnPotential", type := (.array .double), accessFlags := 18, slot := 7, constantValue := 0 }, { name := "columnSlope", type := (.array .long), accessFlags := 18, slot := 8, constantValue := 0 }, { name := "rows", type := .int, accessFlags := 2, slot := 9, constantValue := 0 }, { name := "pathLength", type := (.array .double), accessFlags := 18, slot := 10, constantValue := 0 }, { name := "pathSlope", type := (.array .long), accessFlags := 18, slot := 11, constantValue := 0 }, { name := "via", type := (.array .int), accessFlags := 18, slot := 12, constantValue := 0 }, { name := "settled", type := (.array .boolean), accessFlags := 18, slot := 13, constantValue := 0 }]
  methods := #[k21m0, k21m1]
  instanceTypes := #[.int, (.array (.array .double)), (.array (.array .int)), (.array .int), (.array .int), (.array .double), (.array .long), (.array .double), (.array .long), .int, (.array .double), (.array .long), (.array .int), (.array .boolean)]
  staticTypes := #[.int]
  resolved := Array.replicate 145 none
  statics := none }

def pool22 : Array CpInfo := pool [(1, .methodref 2 3), (0, .class_ 4), (0, .nameAndType 5 6), (0, u "java/lang/Object"), (0, u "<init>"), (0, u "()V"), (0, .fieldref 8 9), (0, .class_ 10), (0, .nameAndType 11 12), (0, u "com/example/rematch/rematch/Arrival"), (0, u "optimum"), (0, u "Lcom/example/rematch/rematch/HindsightOptimum;"), (0, .methodref 14 15), (0, .class_ 16), (0, .nameAndType 17 18), (0, u "com/example/rematch/rematch/HindsightOptimum"), (0, u "distances"), (0, u "()Lcom/example/rematch/rematch/Distances;"), (0, .fieldref 8 20), (0, .nameAndType 17 21), (0, u "Lcom/example/rematch/rematch/Distances;"), (0, .fieldref 8 23), (0, .nameAndType 24 25), (0, u "serverOfClient"), (0, u "[I"), (0, .fieldref 8 27), (0, .nameAndType 28 25), (0, u "clientOfServer"), (0, .fieldref 8 30), (0, .nameAndType 31 32), (0, u "addedServer"), (0, u "I"), (47, u "(Lcom/example/rematch/rematch/HindsightOptimum;[I[II)V"), (4, u "isFree"), (0, u "(I)Z")] 6

def k22c0 : Code := { maxStack := 2, maxLocals := 5, code := prog_1_method_1_code, exceptionTable := #[], attributes := #[] }
def k22m0 : Method := { name := "<init>", desc := "(Lcom/example/rematch/rematch/HindsightOptimum;[I[II)V", sig := { parameters := [(.object "com/example/rematch/rematch/HindsightOptimum"), (.array .int), (.array .int), .int], returnType := none }, accessFlags := 0, code := some k22c0 }
def k22c1 : Code := { maxStack := 2, maxLocals := 2, code := prog_1_method_6_code, exceptionTable := #[], attributes := #[] }
def k22m1 : Method := { name := "isFree", desc := "(I)Z", sig := { parameters := [.int], returnType := some .boolean }, accessFlags := 1, code := some k22c1 }
/-- com/example/rematch/rematch/Arrival -/
def k22 : Class := { plain "com/example/rematch/rematch/Arrival" (some 0) with
  accessFlags := 49
  interfaces := #[]
  cf := some (fileOf pool22 8 #[] #[{ accessFlags := 0, nameIndex := 5, descriptorIndex := 80, attributes := #[] }, { accessFlags := 1, nameIndex := 85, descriptorIndex := 86, attributes := #[] }] 49 2 #[] #[{ accessFlags := 18, nameIndex := 11, descriptorIndex := 12, attributes := #[] }, { accessFlags := 18, nameIndex := 17, descriptorIndex := 21, attributes := #[] }, { accessFlags := 18, nameIndex := 24, descriptorIndex := 25, attributes := #[] }, { accessFlags := 18, nameIndex := 28, descriptorIndex := 25, attributes := #[] }, { accessFlags := 18, nameIndex := 31, descriptorIndex := 32, attributes := #[] }])
  fields := #[{ name := "optimum", type := (.object "com/example/rematch/rematch/HindsightOptimum"), accessFlags := 18, slot := 0, constantValue := 0 }, { name := "distances", type := (.object "com/example/rematch/rematch/Distances"), accessFlags := 18, slot := 1, constantValue := 0 }, { name := "serverOfClient", type := (.array .int), accessFlags := 18, slot := 2, constantValue := 0 }, { name := "clientOfServer", type := (.array .int), accessFlags := 18, slot := 3, constantValue := 0 }, { name := "addedServer", type := .int, accessFlags := 18, slot := 4, constantValue := 0 }]
  methods := #[k22m0, k22m1]
  instanceTypes := #[(.object "com/example/rematch/rematch/HindsightOptimum"), (.object "com/example/rematch/rematch/Distances"), (.array .int), (.array .int), .int]
  staticTypes := #[]
  resolved := Array.replicate 93 none
  statics := none }

def pool23 : Array CpInfo := pool [(2, .class_ 4), (1, u "java/lang/Object"), (0, u "<init>"), (0, u "()V"), (0, .class_ 8), (0, u "java/lang/Record")] 13

def k23m0 : Method := { name := "<init>", desc := "()V", sig := { parameters := [], returnType := none }, accessFlags := 4, code := none }
/-- java/lang/Record -/
def k23 : Class := { plain "java/lang/Record" (some 0) with
  accessFlags := 1057
  interfaces := #[]
  cf := some (fileOf pool23 7 #[] #[{ accessFlags := 4, nameIndex := 5, descriptorIndex := 6, attributes := #[] }] 1057 2 #[] #[])
  fields := #[]
  methods := #[k23m0]
  instanceTypes := #[]
  staticTypes := #[]
  resolved := Array.replicate 22 none
  statics := none }

def pool24 : Array CpInfo := pool [(2, .class_ 4), (1, u "java/lang/Record"), (3, .class_ 10), (1, u "com/example/rematch/rematch/Metric$Axis"), (0, u "name"), (0, u "Ljava/lang/String;"), (2, u "min"), (0, u "D"), (2, u "max"), (33, .class_ 54), (0, u "com/example/rematch/rematch/Metric")] 21

/-- com/example/rematch/rematch/Metric$Axis -/
def k24 : Class := { plain "com/example/rematch/rematch/Metric$Axis" (some 23) with
  accessFlags := 48
  interfaces := #[]
  cf := some (fileOf pool24 8 #[.nestHost 53] #[] 48 2 #[] #[{ accessFlags := 18, nameIndex := 11, descriptorIndex := 12, attributes := #[] }, { accessFlags := 18, nameIndex := 15, descriptorIndex := 16, attributes := #[] }, { accessFlags := 18, nameIndex := 19, descriptorIndex := 16, attributes := #[] }])
  fields := #[{ name := "name", type := (.object "java/lang/String"), accessFlags := 18, slot := 0, constantValue := 0 }, { name := "min", type := .double, accessFlags := 18, slot := 1, constantValue := 0 }, { name := "max", type := .double, accessFlags := 18, slot := 2, constantValue := 0 }]
  methods := #[]
  instanceTypes := #[(.object "java/lang/String"), .double, .double]
  staticTypes := #[]
  resolved := Array.replicate 76 none
  statics := none }

/-- the primitive boolean -/
def k25 : Class := { plain "boolean" none with kind := .primitive 'Z', accessFlags := 0x411 }
/-- [Z -/
def k26 : Class := { plain "[Z" (some 0) with kind := .array 25 .boolean, interfaces := #[15, 5], accessFlags := 1041 }

/-- the primitive byte -/
def k27 : Class := { plain "byte" none with kind := .primitive 'B', accessFlags := 0x411 }
/-- [B -/
def k28 : Class := { plain "[B" (some 0) with kind := .array 27 .byte, interfaces := #[15, 5], accessFlags := 1041 }

/-- the primitive double -/
def k29 : Class := { plain "double" none with kind := .primitive 'D', accessFlags := 0x411 }
/-- [D -/
def k30 : Class := { plain "[D" (some 0) with kind := .array 29 .double, interfaces := #[15, 5], accessFlags := 1041 }

/-- the primitive int -/
def k31 : Class := { plain "int" none with kind := .primitive 'I', accessFlags := 0x411 }
/-- [I -/
def k32 : Class := { plain "[I" (some 0) with kind := .array 31 .int, interfaces := #[15, 5], accessFlags := 1041 }

/-- the primitive long -/
def k33 : Class := { plain "long" none with kind := .primitive 'J', accessFlags := 0x411 }
/-- [J -/
def k34 : Class := { plain "[J" (some 0) with kind := .array 33 .long, interfaces := #[15, 5], accessFlags := 1041 }

/-- [Lcom/example/rematch/rematch/Metric$Axis; -/
def k35 : Class := { plain "[Lcom/example/rematch/rematch/Metric$Axis;" (some 0) with kind := .array 24 (.object "com/example/rematch/rematch/Metric$Axis"), interfaces := #[15, 5], accessFlags := 1041 }

/-- [Ljava/lang/Object; -/
def k36 : Class := { plain "[Ljava/lang/Object;" (some 0) with kind := .array 0 (.object "java/lang/Object"), interfaces := #[15, 5], accessFlags := 1041 }

/-- [[D -/
def k37 : Class := { plain "[[D" (some 0) with kind := .array 30 (.array .double), interfaces := #[15, 5], accessFlags := 1041 }

/-- [[I -/
def k38 : Class := { plain "[[I" (some 0) with kind := .array 32 (.array .int), interfaces := #[15, 5], accessFlags := 1041 }

def heap : Heap := #[{ cls := 7, slots := #[.ref 3, .null, .null, .double 0, .null], vm := .statics 7 },
  { cls := 16, slots := #[.long 0, .int 0, .ref 4, .ref 5], vm := .statics 16 },
  { cls := 35, slots := #[.null], vm := .none },
  { cls := 19, slots := #[.null, .int 0, .int 0, .null, .ref 2], vm := .none },
  { cls := 36, slots := #[], vm := .none },
  { cls := 36, slots := #[], vm := .none }]
def classes : Array Class := #[k0, k1, k2, k3, k4, k5, k6, k7, k8, k9, k10, k11, k12, k13, k14, k15, k16, k17, k18, k19, k20, k21, k22, k23, k24, k25, k26, k27, k28, k29, k30, k31, k32, k33, k34, k35, k36, k37, k38]
def interned : List (Array UInt16 × Addr) := []
def slotsUsed : Nat := 15
def theMethod : MethodId := ⟨1, 3⟩
def args0 : Array Value := #[.int 5, .int 6, .int 65, .int 66, .int 3, .int 1]
def aboutOver (below : List Frame) : State where
  vm := { classes := classes, interned := interned.toArray }
  heap := heap
  slotsUsed := slotsUsed
  threads := #[{ frames := .invoking theMethod args0 :: below }]
def below0 : List Frame := [.native { method := ⟨0, 0⟩, args := #[] }]
def about1 : State := aboutOver below0
def p0 : Program := .bare "" "" ""
def e0 : Env := launch0.env 0 0 0
theorem w_frames : about1.frames = Frame.invoking theMethod args0 :: below0 := rfl
set_option maxRecDepth 65536 in
theorem w_args : argsFit about1.vm theMethod args0 = true := by decide +kernel
set_option maxRecDepth 65536 in
theorem w_heap : heapFits about1 = true := by decide +kernel
set_option maxRecDepth 65536 in
theorem w_runnable : about1.curStatus? = some .runnable := by decide +kernel
set_option maxRecDepth 65536 in
theorem w_alone : about1.alone = true := by decide +kernel
set_option maxRecDepth 65536 in
theorem w_named : about1.methodNamed? x = some theMethod := by decide +kernel
set_option maxRecDepth 65536 in
theorem w_hears : about1.hears theMethod below0 = true := by decide +kernel
set_option maxRecDepth 65536 in
theorem w_ripe : about1.ripe theMethod args0 below0 = true := by decide +kernel
theorem w_running : about1.status = .running := rfl
set_option maxRecDepth 65536 in
theorem w_room : about1.hasRoom e0.platform room_1 = true :=
  launch0.hasRoom_least _ room_1 (by decide +kernel) (by decide +kernel) (by decide +kernel) (by decide +kernel) (by decide +kernel) (by decide +kernel)
theorem allAtoms_all (ts : List Jvm.Cond) (a : Array Jvm.Value) (st : Jvm.State) : (allAtoms ts).before a st = ts.all (fun c => c.before a st) := by
  induction ts with
  | nil => rfl
  | cons c t ih =>
    show (Jvm.Cond.and c (allAtoms t)).before a st = _
    rw [Jvm.Cond.before_and, ih, List.all_cons]
def words1 : List Jvm.Cond := Jvm.Cond.code x code maxLocals ret :: tables_1
/-- a 'code' word, met by the world's own term for the bytes: nothing is compared byte by byte -/
theorem code_word {y : MethodName} {bytes : ByteArray} {mx : Nat} {rt : Option FieldType} {a : Array Value} {s : State} {m : MethodId} {meth : Method} {c : Code} (h1 : s.methodNamed? y = some m) (h2 : s.vm.method? m = some meth) (h3 : meth.code = some c) (h4 : c.code = bytes)
    (h5 : (c.maxLocals == mx && c.exceptionTable.isEmpty && decide (c.maxStack ≤ mostOperands) && decide (meth.sig.returnType = rt) && !meth.locks && decide (parseMethodDescriptor y.desc = some meth.sig)) = true) : (Jvm.Cond.code y bytes mx rt).before a s = true := by
  simp only [Bool.and_eq_true, beq_iff_eq, Bool.not_eq_true', decide_eq_true_eq] at h5
  obtain ⟨⟨⟨⟨⟨g1, g2⟩, g3⟩, g4⟩, g5⟩, g6⟩ := h5
  simp [Cond.before, Cond.holds, Cond.value, h1, h2, h3, h4, g1, g2, g3, g4, g5, g6]
def isCode : Jvm.Cond → Bool
  | .code _ _ _ _ => true
  | _ => false
theorem all_split {L : List Jvm.Cond} {P : Jvm.Cond → Bool} (h1 : L.all (fun c => isCode c || P c) = true) (h2 : ∀ c ∈ L.filter isCode, P c = true) : L.all P = true := by
  refine List.all_eq_true.mpr fun c hc => ?_
  have h := List.all_eq_true.mp h1 c hc
  rcases Bool.eq_false_or_eq_true (isCode c) with hi | hi
  · exact h2 c (List.mem_filter.mpr ⟨hc, hi⟩)
  · simpa [hi] using h
set_option maxRecDepth 65536 in
theorem w_c0 : (Jvm.Cond.code x code maxLocals ret).before args0 about1 = true := code_word (m := ⟨1, 3⟩) (meth := k1m3) (c := k1c3) (by decide +kernel) rfl rfl rfl (by decide +kernel)
set_option maxRecDepth 65536 in
theorem w_c1 : (Jvm.Cond.code ({ cls := "com/example/rematch/rematch/ArrivalIsFreePinLaw", name := "entry", desc := "(III)I" } : Jvm.MethodName) method_3_code (3 : Nat) (Option.some Jvm.ClassFile.FieldType.int)).before args0 about1 = true := code_word (m := ⟨1, 2⟩) (meth := k1m2) (c := k1c2) (by decide +kernel) rfl rfl rfl (by decide +kernel)
set_option maxRecDepth 65536 in
theorem w_c2 : (Jvm.Cond.code ({ cls := "com/example/rematch/rematch/ArrivalIsFreePinLaw", name := "held", desc := "(II)Z" } : Jvm.MethodName) method_2_code (2 : Nat) (Option.some Jvm.ClassFile.FieldType.boolean)).before args0 about1 = true := code_word (m := ⟨1, 1⟩) (meth := k1m1) (c := k1c1) (by decide +kernel) rfl rfl rfl (by decide +kernel)
set_option maxRecDepth 65536 in
theorem w_c3 : (Jvm.Cond.code ({ cls := "java/util/ArrayList", name := "<init>", desc := "()V" } : Jvm.MethodName) jdk_38_method_2_code (1 : Nat) (Option.none : Option Jvm.ClassFile.FieldType)).before args0 about1 = true := code_word (m := ⟨16, 0⟩) (meth := k16m0) (c := k16c0) (by decide +kernel) rfl rfl rfl (by decide +kernel)
set_option maxRecDepth 65536 in
theorem w_c4 : (Jvm.Cond.code ({ cls := "java/util/AbstractList", name := "<init>", desc := "()V" } : Jvm.MethodName) jdk_39_method_1_code (1 : Nat) (Option.none : Option Jvm.ClassFile.FieldType)).before args0 about1 = true := code_word (m := ⟨13, 0⟩) (meth := k13m0) (c := k13c0) (by decide +kernel) rfl rfl rfl (by decide +kernel)
set_option maxRecDepth 65536 in
theorem w_c5 : (Jvm.Cond.code ({ cls := "java/util/AbstractCollection", name := "<init>", desc := "()V" } : Jvm.MethodName) jdk_22_method_1_code (1 : Nat) (Option.none : Option Jvm.ClassFile.FieldType)).before args0 about1 = true := code_word (m := ⟨10, 0⟩) (meth := k10m0) (c := k10c0) (by decide +kernel) rfl rfl rfl (by decide +kernel)
set_option maxRecDepth 65536 in
theorem w_c6 : (Jvm.Cond.code ({ cls := "java/lang/Object", name := "<init>", desc := "()V" } : Jvm.MethodName) object_method_1_code (1 : Nat) (Option.none : Option Jvm.ClassFile.FieldType)).before args0 about1 = true := code_word (m := ⟨0, 0⟩) (meth := k0m0) (c := k0c0) (by decide +kernel) rfl rfl rfl (by decide +kernel)
set_option maxRecDepth 65536 in
theorem w_c7 : (Jvm.Cond.code ({ cls := "com/example/rematch/rematch/HindsightOptimum", name := "<init>", desc := "(Lcom/example/rematch/rematch/Metric;Ljava/util/List;)V" } : Jvm.MethodName) prog_10_method_1_code (3 : Nat) (Option.none : Option Jvm.ClassFile.FieldType)).before args0 about1 = true := code_word (m := ⟨2, 0⟩) (meth := k2m0) (c := k2c0) (by decide +kernel) rfl rfl rfl (by decide +kernel)
set_option maxRecDepth 65536 in
theorem w_c8 : (Jvm.Cond.code ({ cls := "com/example/rematch/rematch/Distances", name := "<init>", desc := "(Lcom/example/rematch/rematch/Metric;Ljava/util/List;)V" } : Jvm.MethodName) prog_4_method_1_code (5 : Nat) (Option.none : Option Jvm.ClassFile.FieldType)).before args0 about1 = true := code_word (m := ⟨17, 0⟩) (meth := k17m0) (c := k17c0) (by decide +kernel) rfl rfl rfl (by decide +kernel)
set_option maxRecDepth 65536 in
theorem w_c9 : (Jvm.Cond.code ({ cls := "java/util/ArrayList", name := "size", desc := "()I" } : Jvm.MethodName) jdk_38_method_8_code (1 : Nat) (Option.some Jvm.ClassFile.FieldType.int)).before args0 about1 = true := code_word (m := ⟨16, 1⟩) (meth := k16m1) (c := k16c1) (by decide +kernel) rfl rfl rfl (by decide +kernel)
set_option maxRecDepth 65536 in
theorem w_c10 : (Jvm.Cond.code ({ cls := "com/example/rematch/rematch/Extent", name := "<init>", desc := "(Lcom/example/rematch/rematch/Metric;)V" } : Jvm.MethodName) prog_6_method_1_code (2 : Nat) (Option.none : Option Jvm.ClassFile.FieldType)).before args0 about1 = true := code_word (m := ⟨18, 0⟩) (meth := k18m0) (c := k18c0) (by decide +kernel) rfl rfl rfl (by decide +kernel)
set_option maxRecDepth 65536 in
theorem w_c11 : (Jvm.Cond.code ({ cls := "com/example/rematch/rematch/Extent", name := "filled", desc := "(Lcom/example/rematch/rematch/Metric;D)[D" } : Jvm.MethodName) prog_6_method_7_code (4 : Nat) (Option.some (Jvm.ClassFile.FieldType.array Jvm.ClassFile.FieldType.double))).before args0 about1 = true := code_word (m := ⟨18, 2⟩) (meth := k18m2) (c := k18c2) (by decide +kernel) rfl rfl rfl (by decide +kernel)
set_option maxRecDepth 65536 in
theorem w_c12 : (Jvm.Cond.code ({ cls := "com/example/rematch/rematch/Metric", name := "dimensions", desc := "()I" } : Jvm.MethodName) prog_11_method_6_code (1 : Nat) (Option.some Jvm.ClassFile.FieldType.int)).before args0 about1 = true := code_word (m := ⟨7, 0⟩) (meth := k7m0) (c := k7c0) (by decide +kernel) rfl rfl rfl (by decide +kernel)
set_option maxRecDepth 65536 in
theorem w_c13 : (Jvm.Cond.code ({ cls := "java/util/Arrays", name := "fill", desc := "([DD)V" } : Jvm.MethodName) jdk_65_method_113_code (5 : Nat) (Option.none : Option Jvm.ClassFile.FieldType)).before args0 about1 = true := code_word (m := ⟨20, 2⟩) (meth := k20m2) (c := k20c2) (by decide +kernel) rfl rfl rfl (by decide +kernel)
set_option maxRecDepth 65536 in
theorem w_c14 : (Jvm.Cond.code ({ cls := "com/example/rematch/rematch/Extent", name := "<init>", desc := "(Lcom/example/rematch/rematch/Metric;[D[DDI)V" } : Jvm.MethodName) prog_6_method_2_code (7 : Nat) (Option.none : Option Jvm.ClassFile.FieldType)).before args0 about1 = true := code_word (m := ⟨18, 1⟩) (meth := k18m1) (c := k18c1) (by decide +kernel) rfl rfl rfl (by decide +kernel)
set_option maxRecDepth 65536 in
theorem w_c15 : (Jvm.Cond.code ({ cls := "com/example/rematch/rematch/OptimalAssignment", name := "<init>", desc := "(I)V" } : Jvm.MethodName) prog_20_method_1_code (2 : Nat) (Option.none : Option Jvm.ClassFile.FieldType)).before args0 about1 = true := code_word (m := ⟨21, 0⟩) (meth := k21m0) (c := k21c0) (by decide +kernel) rfl rfl rfl (by decide +kernel)
set_option maxRecDepth 65536 in
theorem w_c16 : (Jvm.Cond.code ({ cls := "com/example/rematch/rematch/OptimalAssignment", name := "<init>", desc := "([D)V" } : Jvm.MethodName) prog_20_method_2_code (3 : Nat) (Option.none : Option Jvm.ClassFile.FieldType)).before args0 about1 = true := code_word (m := ⟨21, 1⟩) (meth := k21m1) (c := k21c1) (by decide +kernel) rfl rfl rfl (by decide +kernel)
set_option maxRecDepth 65536 in
theorem w_c17 : (Jvm.Cond.code ({ cls := "java/util/Arrays", name := "fill", desc := "([II)V" } : Jvm.MethodName) jdk_65_method_103_code (4 : Nat) (Option.none : Option Jvm.ClassFile.FieldType)).before args0 about1 = true := code_word (m := ⟨20, 1⟩) (meth := k20m1) (c := k20c1) (by decide +kernel) rfl rfl rfl (by decide +kernel)
set_option maxRecDepth 65536 in
theorem w_c18 : (Jvm.Cond.code ({ cls := "com/example/rematch/rematch/Arrival", name := "<init>", desc := "(Lcom/example/rematch/rematch/HindsightOptimum;[I[II)V" } : Jvm.MethodName) prog_1_method_1_code (5 : Nat) (Option.none : Option Jvm.ClassFile.FieldType)).before args0 about1 = true := code_word (m := ⟨22, 0⟩) (meth := k22m0) (c := k22c0) (by decide +kernel) rfl rfl rfl (by decide +kernel)
set_option maxRecDepth 65536 in
theorem w_c19 : (Jvm.Cond.code ({ cls := "com/example/rematch/rematch/HindsightOptimum", name := "distances", desc := "()Lcom/example/rematch/rematch/Distances;" } : Jvm.MethodName) prog_10_method_5_code (1 : Nat) (Option.some (Jvm.ClassFile.FieldType.object "com/example/rematch/rematch/Distances"))).before args0 about1 = true := code_word (m := ⟨2, 1⟩) (meth := k2m1) (c := k2c1) (by decide +kernel) rfl rfl rfl (by decide +kernel)
set_option maxRecDepth 65536 in
theorem w_c20 : (Jvm.Cond.code ({ cls := "com/example/rematch/rematch/Arrival", name := "isFree", desc := "(I)Z" } : Jvm.MethodName) prog_1_method_6_code (2 : Nat) (Option.some Jvm.ClassFile.FieldType.boolean)).before args0 about1 = true := code_word (m := ⟨22, 1⟩) (meth := k22m1) (c := k22c1) (by decide +kernel) rfl rfl rfl (by decide +kernel)
def codes1 : List Jvm.Cond := [Jvm.Cond.code x code maxLocals ret, Jvm.Cond.code ({ cls := "com/example/rematch/rematch/ArrivalIsFreePinLaw", name := "entry", desc := "(III)I" } : Jvm.MethodName) method_3_code (3 : Nat) (Option.some Jvm.ClassFile.FieldType.int), Jvm.Cond.code ({ cls := "com/example/rematch/rematch/ArrivalIsFreePinLaw", name := "held", desc := "(II)Z" } : Jvm.MethodName) method_2_code (2 : Nat) (Option.some Jvm.ClassFile.FieldType.boolean), Jvm.Cond.code ({ cls := "java/util/ArrayList", name := "<init>", desc := "()V" } : Jvm.MethodName) jdk_38_method_2_code (1 : Nat) (Option.none : Option Jvm.ClassFile.FieldType), Jvm.Cond.code ({ cls := "java/util/AbstractList", name := "<init>", desc := "()V" } : Jvm.MethodName) jdk_39_method_1_code (1 : Nat) (Option.none : Option Jvm.ClassFile.FieldType), Jvm.Cond.code ({ cls := "java/util/AbstractCollection", name := "<init>", desc := "()V" } : Jvm.MethodName) jdk_22_method_1_code (1 : Nat) (Option.none : Option Jvm.ClassFile.FieldType), Jvm.Cond.code ({ cls := "java/lang/Object", name := "<init>", desc := "()V" } : Jvm.MethodName) object_method_1_code (1 : Nat) (Option.none : Option Jvm.ClassFile.FieldType), Jvm.Cond.code ({ cls := "com/example/rematch/rematch/HindsightOptimum", name := "<init>", desc := "(Lcom/example/rematch/rematch/Metric;Ljava/util/List;)V" } : Jvm.MethodName) prog_10_method_1_code (3 : Nat) (Option.none : Option Jvm.ClassFile.FieldType), Jvm.Cond.code ({ cls := "com/example/rematch/rematch/Distances", name := "<init>", desc := "(Lcom/example/rematch/rematch/Metric;Ljava/util/List;)V" } : Jvm.MethodName) prog_4_method_1_code (5 : Nat) (Option.none : Option Jvm.ClassFile.FieldType), Jvm.Cond.code ({ cls := "java/util/ArrayList", name := "size", desc := "()I" } : Jvm.MethodName) jdk_38_method_8_code (1 : Nat) (Option.some Jvm.ClassFile.FieldType.int), Jvm.Cond.code ({ cls := "com/example/rematch/rematch/Extent", name := "<init>", desc := "(Lcom/example/rematch/rematch/Metric;)V" } : Jvm.MethodName) prog_6_method_1_code (2 : Nat) (Option.none : Option Jvm.ClassFile.FieldType), Jvm.Cond.code ({ cls := "com/example/rematch/rematch/Extent", name := "filled", desc := "(Lcom/example/rematch/rematch/Metric;D)[D" } : Jvm.MethodName) prog_6_method_7_code (4 : Nat) (Option.some (Jvm.ClassFile.FieldType.array Jvm.ClassFile.FieldType.double)), Jvm.Cond.code ({ cls := "com/example/rematch/rematch/Metric", name := "dimensions", desc := "()I" } : Jvm.MethodName) prog_11_method_6_code (1 : Nat) (Option.some Jvm.ClassFile.FieldType.int), Jvm.Cond.code ({ cls := "java/util/Arrays", name := "fill", desc := "([DD)V" } : Jvm.MethodName) jdk_65_method_113_code (5 : Nat) (Option.none : Option Jvm.ClassFile.FieldType), Jvm.Cond.code ({ cls := "com/example/rematch/rematch/Extent", name := "<init>", desc := "(Lcom/example/rematch/rematch/Metric;[D[DDI)V" } : Jvm.MethodName) prog_6_method_2_code (7 : Nat) (Option.none : Option Jvm.ClassFile.FieldType), Jvm.Cond.code ({ cls := "com/example/rematch/rematch/OptimalAssignment", name := "<init>", desc := "(I)V" } : Jvm.MethodName) prog_20_method_1_code (2 : Nat) (Option.none : Option Jvm.ClassFile.FieldType), Jvm.Cond.code ({ cls := "com/example/rematch/rematch/OptimalAssignment", name := "<init>", desc := "([D)V" } : Jvm.MethodName) prog_20_method_2_code (3 : Nat) (Option.none : Option Jvm.ClassFile.FieldType), Jvm.Cond.code ({ cls := "java/util/Arrays", name := "fill", desc := "([II)V" } : Jvm.MethodName) jdk_65_method_103_code (4 : Nat) (Option.none : Option Jvm.ClassFile.FieldType), Jvm.Cond.code ({ cls := "com/example/rematch/rematch/Arrival", name := "<init>", desc := "(Lcom/example/rematch/rematch/HindsightOptimum;[I[II)V" } : Jvm.MethodName) prog_1_method_1_code (5 : Nat) (Option.none : Option Jvm.ClassFile.FieldType), Jvm.Cond.code ({ cls := "com/example/rematch/rematch/HindsightOptimum", name := "distances", desc := "()Lcom/example/rematch/rematch/Distances;" } : Jvm.MethodName) prog_10_method_5_code (1 : Nat) (Option.some (Jvm.ClassFile.FieldType.object "com/example/rematch/rematch/Distances")), Jvm.Cond.code ({ cls := "com/example/rematch/rematch/Arrival", name := "isFree", desc := "(I)Z" } : Jvm.MethodName) prog_1_method_6_code (2 : Nat) (Option.some Jvm.ClassFile.FieldType.boolean)]
set_option maxRecDepth 65536 in
theorem codes_eq : words1.filter isCode = codes1 := rfl
theorem w_codes : ∀ c ∈ words1.filter isCode, c.before args0 about1 = true := by
  rw [codes_eq]
  intro c hc
  simp only [codes1, List.mem_cons, List.not_mem_nil, or_false] at hc
  rcases hc with rfl | rfl | rfl | rfl | rfl | rfl | rfl | rfl | rfl | rfl | rfl | rfl | rfl | rfl | rfl | rfl | rfl | rfl | rfl | rfl | rfl
  · exact w_c0
  · exact w_c1
  · exact w_c2
  · exact w_c3
  · exact w_c4
  · exact w_c5
  · exact w_c6
  · exact w_c7
  · exact w_c8
  · exact w_c9
  · exact w_c10
  · exact w_c11
  · exact w_c12
  · exact w_c13
  · exact w_c14
  · exact w_c15
  · exact w_c16
  · exact w_c17
  · exact w_c18
  · exact w_c19
  · exact w_c20
set_option maxRecDepth 65536 in
theorem w_t1 : (words1.take 24).all (fun c => isCode c || c.before args0 about1) = true := by decide +kernel
set_option maxRecDepth 65536 in
theorem w_t2 : ((words1.drop 24).take 24).all (fun c => isCode c || c.before args0 about1) = true := by decide +kernel
set_option maxRecDepth 65536 in
theorem w_t3 : (((words1.drop 24).drop 24).take 24).all (fun c => isCode c || c.before args0 about1) = true := by decide +kernel
set_option maxRecDepth 65536 in
theorem w_t4 : ((((words1.drop 24).drop 24).drop 24).take 24).all (fun c => isCode c || c.before args0 about1) = true := by decide +kernel
set_option maxRecDepth 65536 in
theorem w_t5 : (((((words1.drop 24).drop 24).drop 24).drop 24).take 24).all (fun c => isCode c || c.before args0 about1) = true := by decide +kernel
set_option maxRecDepth 65536 in
theorem w_t6 : ((((((words1.drop 24).drop 24).drop 24).drop 24).drop 24).take 24).all (fun c => isCode c || c.before args0 about1) = true := by decide +kernel
set_option maxRecDepth 65536 in
theorem w_t7 : (((((((words1.drop 24).drop 24).drop 24).drop 24).drop 24).drop 24).take 24).all (fun c => isCode c || c.before args0 about1) = true := by decide +kernel
set_option maxRecDepth 65536 in
theorem w_t8 : ((((((((words1.drop 24).drop 24).drop 24).drop 24).drop 24).drop 24).drop 24).take 24).all (fun c => isCode c || c.before args0 about1) = true := by decide +kernel
set_option maxRecDepth 65536 in
theorem w_t9 : ((((((((words1.drop 24).drop 24).drop 24).drop 24).drop 24).drop 24).drop 24).drop 24).all (fun c => isCode c || c.before args0 about1) = true := by decide +kernel
theorem w_tables : (allAtoms (Jvm.Cond.code x code maxLocals ret :: tables_1)).before args0 about1 = true := by
  rw [allAtoms_all]
  show words1.all (fun c => c.before args0 about1) = true
  refine all_split ?_ w_codes
  rw [← List.take_append_drop 24 words1, List.all_append, w_t1, ← List.take_append_drop 24 (words1.drop 24), List.all_append, w_t2, ← List.take_append_drop 24 ((words1.drop 24).drop 24), List.all_append, w_t3, ← List.take_append_drop 24 (((words1.drop 24).drop 24).drop 24), List.all_append, w_t4, ← List.take_append_drop 24 ((((words1.drop 24).drop 24).drop 24).drop 24), List.all_append, w_t5, ← List.take_append_drop 24 (((((words1.drop 24).drop 24).drop 24).drop 24).drop 24), List.all_append, w_t6, ← List.take_append_drop 24 ((((((words1.drop 24).drop 24).drop 24).drop 24).drop 24).drop 24), List.all_append, w_t7, ← List.take_append_drop 24 (((((((words1.drop 24).drop 24).drop 24).drop 24).drop 24).drop 24).drop 24), List.all_append, w_t8, w_t9]
  rfl
set_option maxRecDepth 65536 in
theorem w_rest : rest_1_c.before args0 about1 = true := by decide +kernel
set_option maxRecDepth 65536 in
theorem w_case : (Jvm.Cond.and given_1 narrow_1).before args0 about1 = true := by decide +kernel
theorem w_applies : (headSpec (Jvm.Cond.code x code maxLocals ret :: tables_1) room_1).applies x e0.platform about1 = true :=
  (Spec.applies_iff w_frames).mpr ⟨w_running, w_runnable, w_alone, w_named, w_hears, w_ripe, w_room, w_tables⟩
theorem atStart : AtStart classFile x code maxLocals ret World_1 tables_1 room_1 Calls_1 rest_1 Pre_1 launch0 p0 e0 about1 theMethod args0 below0 :=
  ⟨lists_1, trivial, launch0.admits_env _ _ _, launch0.least_env, fairChoices_fair.cas, fairChoices_fair.clock, w_frames, w_args, w_heap, w_applies, trivial, w_rest, w_case⟩
end start1
theorem witness_1 : WitnessClaimed_1 := ⟨start1.p0, start1.e0, start1.about1, start1.theMethod, start1.args0, start1.below0, start1.atStart⟩
end Jvm.Pilot.@@N@@
