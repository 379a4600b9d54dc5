import JvmDerived
import JvmDerived.Pilot.@@N@@Statement
import JvmDerived.Pilot.@@N@@Code
set_option linter.unusedVariables false
set_option linter.unusedSimpArgs false
namespace Jvm.RoadKit
open Sem ClassFile Op Lib Jvm.Stand Jvm.Free Jvm.LawKit
section New
variable {p : Program} {l : Launch} {e : Env} {R : Room} {s : State} {m : MethodId} {args : Array Value} {below : List Frame} {meth : Method} {c : Code} {T : State} {locs : List Loc} {cells slots : Nat}
theorem retI (X : Stand p l e R s m args below meth c T locs cells slots) (hx : p.tables.exec = Jvm.exec) {pc : Nat} {Ls : Array Slot} {z : Int32} {rest : List Value} (hret : meth.sig.returnType = some .int) (hd : decode c.code pc = .ok (.ireturn, 1)) {fs : List Frame}
    (hl : ∀ (f : JFrame) (acts : List Action), f.method = m → f.locked = none → f.entered = [] → (doReturn e (T.setTop f) acts (some (.int z))).1 = T.setFrames fs) : Steps p.tables e below (T.setTop (mkF m pc Ls (.int z :: rest))) (T.setFrames fs) := by
  have hm' : T.vm.method? m = some meth := X.method'
  have hn : narrow .int (.int z) = .int z := rfl
  show Steps p.tables e below (T.setTop { method := m, pc := pc, locals := Ls, stack := _ :: rest, locked := none }) _
  jvm_step X.here [X.here.top, hx, hd, hm', hret, hn]
  first | (intro acts; rw [hl _ acts rfl rfl rfl]) | rw [hl _ _ rfl rfl rfl]
  exact Steps.refl _
end New
end Jvm.RoadKit
namespace Jvm.Pilot.@@N@@
open Jvm Jvm.ClassFile Sem Op Lib Jvm.Free Jvm.Stand Jvm.LawKit Jvm.RoadKit Bundle Jvm.Pilot.@@N@@.Jvm.D

theorem own_sta {Z : State} {h h' : Heap} {C n d : String} {w : Value} (K : Keep h h' []) (F : Sta Z h C n d w) : Sta Z h' C n d w := by
  obtain ⟨cf, i, k, f, st, cell, h1, h2, h3, h4, h5, r⟩ := F
  exact ⟨cf, i, k, f, st, cell, h1, h2, h3, h4, K.2.1 _ _ h5 nin0, r⟩
theorem own_idx (x : Int32) : (¬ ((x &&& (2147483647 : Int32)) % (14 : Int32)) < 0 ∧ ((x &&& (2147483647 : Int32)) % (14 : Int32)) < 14) ∧ ((x &&& (2147483647 : Int32)) % (14 : Int32)).toNatClampNeg < 14 := by
  have h1 := (c_and x 2147483647 (by decide)).1
  have h2 := (c_iremV (x &&& (2147483647 : Int32)) 14).1 h1 (by decide)
  have h3 : (14 : Int32).toInt = 14 := rfl
  have h4 : (0 : Int32).toInt = 0 := rfl
  generalize (x &&& (2147483647 : Int32)) % (14 : Int32) = j at *
  have h5 : ¬ j < 0 := by rw [Int32.lt_iff_toInt_lt]; omega
  refine ⟨⟨h5, by rw [Int32.lt_iff_toInt_lt]; omega⟩, ?_⟩
  have h6 := nat_of h5
  omega
theorem d1_0 : decode prog_11_method_8_code 0 = .ok (.aload_n 0, 1) := by decide +kernel
theorem d1_1 : decode prog_11_method_8_code 1 = .ok (.getfield 75, 3) := by decide +kernel
theorem d1_4 : decode prog_11_method_8_code 4 = .ok (.aload_n 0, 1) := by decide +kernel
theorem d1_5 : decode prog_11_method_8_code 5 = .ok (.getfield 72, 3) := by decide +kernel
theorem d1_8 : decode prog_11_method_8_code 8 = .ok (.if_icmp .gt 15, 3) := by decide +kernel
theorem d1_23 : decode prog_11_method_8_code 23 = .ok (.iconst 0, 1) := by decide +kernel
theorem d1_24 : decode prog_11_method_8_code 24 = .ok (.ireturn, 1) := by decide +kernel
theorem pn_1 : plainName "com/example/wherry/wherry/protocol/ApiKey" = true := by first | (simp [plainName, overriddenIn]; done) | decide +kernel
theorem ef_1 (m : MethodId) (x0 : Addr) (x1 : Int32) : entryFrame m #[(.ref x0), (.int x1)] 2 = mkF m 0 #[.val (.ref x0), .val (.int x1)] [] := by first | (simp [entryFrame, mkF, argsToLocals, Value.category]; done) | rfl
def Q1t (Z : State) (a1 : Addr) (p2 : Int32) (w3 : Int32) (w5 : Int32) (h0 : Heap) (n0 : Nat) (v : Option Value) (h : Heap) (L : List Loc) : Prop := v = some (.int (0 : Int32)) ∧ Fr n0 L ∧ h = h0
set_option maxRecDepth 65536 in
set_option maxHeartbeats 40000000 in
theorem rm1t (l : Launch) (Z : State) (a0 : Array Value) (hw : ∀ d ∈ tables_1, d.before a0 Z = true) (ws : List Jvm.Cond) (a1 : Addr) (p2 : Int32) (w3 : Int32) (w5 : Int32) (h0 : Heap) (n0 : Nat) (Z0 : n0 ≤ h0.size) (F_firstFlexibleVersion_a1 : Fld Z h0 a1 "com/example/wherry/wherry/protocol/ApiKey" "firstFlexibleVersion" "S" (.int w3)) (F_maxVersion_a1 : Fld Z h0 a1 "com/example/wherry/wherry/protocol/ApiKey" "maxVersion" "S" (.int w5)) (hc8 : w5 < w3) :
    MetFree l (⟨"com/example/wherry/wherry/protocol/ApiKey", "isFlexible", "(S)Z"⟩ : MethodName) (head1 (Jvm.Cond.code (⟨"com/example/wherry/wherry/protocol/ApiKey", "isFlexible", "(S)Z"⟩ : MethodName) prog_11_method_8_code 2 (some .boolean) :: ws) ({ frames := 0, cells := 0, slots := 0, locals := 0 } : Room)) (fun a U => a = #[(.ref a1), (.int p2)] ∧ Z.Warmed39 U.vm ∧ U.heap = h0) (fun _ _ _ _ _ => True) (fun _ U o U' => ∃ v L, o = .returned v ∧ Q1t Z a1 p2 w3 w5 h0 n0 v U'.heap L ∧ FrameEnd U o U' L ({ frames := 0, cells := 0, slots := 0, locals := 0 } : Room).cells ({ frames := 0, cells := 0, slots := 0, locals := 0 } : Room).slots) := by
  refine MetFree.of_bodySF (plainFor_of_name pn_1) hisR ?_
  intro p e s m args below meth c s₁ Bd hml0 hP hK
  obtain ⟨rfl, hZ, hh⟩ := hP
  have hx := Bd.exec
  have hby := Bd.bytes
  have hml : c.maxLocals = 2 := hml0
  have hown : s.vm.findClass "com/example/wherry/wherry/protocol/ApiKey" = some m.cls := findClass_of_methodNamed Bd.named
  have hnm := (name_of_methodNamed Bd.named Bd.method).1
  have X0 : Stand p l e ({ frames := 0, cells := 0, slots := 0, locals := 0 } : Room) s m #[(.ref a1), (.int p2)] below meth c s₁ [] 0 0 := Stand.of_body Bd
  have e0 : s₁.heap = h0 := by rw [← hh, Bd.state]; rfl
  have N0 := Fr.nil n0
  have pre0 : ∀ t, Steps p.tables e below (s₁.setTop (mkF m 0 #[.val (.ref a1), .val (.int p2)] [])) t → Steps p.tables e below (s₁.setTop (entryFrame m #[(.ref a1), (.int p2)] 2)) t := fun t k => castTop (ef_1 m a1 p2) k
  obtain ⟨T4, X4, e4, st4⟩ := getF X0 hx hZ hown (host := "") (Or.inl (hw _ (List.mem_of_getElem? (i := 38) rfl))) Via.refl e0 F_firstFlexibleVersion_a1 (g := (mkF m 1 #[.val (.ref a1), .val (.int p2)] [(.ref a1)])) rfl rfl (hb hby d1_1)
  obtain ⟨T6, X6, e6, st6⟩ := getF X4 hx hZ hown (host := "") (Or.inl (hw _ (List.mem_of_getElem? (i := 40) rfl))) Via.refl e4 F_maxVersion_a1 (g := (mkF m 5 #[.val (.ref a1), .val (.int p2)] [(.ref a1), (.int w3)])) rfl rfl (hb hby d1_5)
  obtain ⟨fs, hr, hrun, hended, hW, hsame⟩ := X6.leave (v := some (.int (0 : Int32))) (fun h => by rw [Bd.returns] at h; cases h)
  refine ⟨_, _, pre0 _ ?_, hrun, hended, _, _, rfl, ?_, ⟨_, rfl⟩, hW, hsame.mono (by decide) (by decide)⟩
  · show Steps p.tables e below (s₁.setTop (mkF m 0 #[.val (.ref a1), .val (.int p2)] [])) _
    refine XS.aloadN X0.here hx rfl (hb hby d1_0) rfl rfl ?_
    show Steps p.tables e below (s₁.setTop (mkF m 1 #[.val (.ref a1), .val (.int p2)] [(.ref a1)])) _
    refine st4 _ ?_
    show Steps p.tables e below (T4.setTop (mkF m 4 #[.val (.ref a1), .val (.int p2)] [(.int w3)])) _
    refine XS.aloadN X4.here hx rfl (hb hby d1_4) rfl rfl ?_
    show Steps p.tables e below (T4.setTop (mkF m 5 #[.val (.ref a1), .val (.int p2)] [(.ref a1), (.int w3)])) _
    refine st6 _ ?_
    show Steps p.tables e below (T6.setTop (mkF m 8 #[.val (.ref a1), .val (.int p2)] [(.int w5), (.int w3)])) _
    refine XS.icmpYes X6.here hx rfl (pc0 := 8) (pc' := 23) rfl (hb hby d1_8) rfl (tlt hc8).2.2.1 (by decide) (by decide) ?_
    show Steps p.tables e below (T6.setTop (mkF m 23 #[.val (.ref a1), .val (.int p2)] [])) _
    refine XS.iconst X6.here hx rfl (hb hby d1_23) ?_
    show Steps p.tables e below (T6.setTop (mkF m 24 #[.val (.ref a1), .val (.int p2)] [(.int (0 : Int32))])) _
    exact retN X6 hx (t := .boolean) Bd.returns (by simp) (hb hby d1_24) hr
  · show Q1t Z a1 p2 w3 w5 h0 n0 _ T6.heap _
    rw [e6]
    exact ⟨rfl, N0, rfl⟩
theorem d1_11 : decode prog_11_method_8_code 11 = .ok (.iload_n 1, 1) := by decide +kernel
theorem d1_12 : decode prog_11_method_8_code 12 = .ok (.aload_n 0, 1) := by decide +kernel
theorem d1_13 : decode prog_11_method_8_code 13 = .ok (.getfield 75, 3) := by decide +kernel
theorem d1_16 : decode prog_11_method_8_code 16 = .ok (.if_icmp .lt 7, 3) := by decide +kernel
def Q1ft (Z : State) (a1 : Addr) (p2 : Int32) (w3 : Int32) (w5 : Int32) (h0 : Heap) (n0 : Nat) (v : Option Value) (h : Heap) (L : List Loc) : Prop := v = some (.int (0 : Int32)) ∧ Fr n0 L ∧ h = h0
set_option maxRecDepth 65536 in
set_option maxHeartbeats 40000000 in
theorem rm1ft (l : Launch) (Z : State) (a0 : Array Value) (hw : ∀ d ∈ tables_1, d.before a0 Z = true) (ws : List Jvm.Cond) (a1 : Addr) (p2 : Int32) (w3 : Int32) (w5 : Int32) (h0 : Heap) (n0 : Nat) (Z0 : n0 ≤ h0.size) (F_firstFlexibleVersion_a1 : Fld Z h0 a1 "com/example/wherry/wherry/protocol/ApiKey" "firstFlexibleVersion" "S" (.int w3)) (F_maxVersion_a1 : Fld Z h0 a1 "com/example/wherry/wherry/protocol/ApiKey" "maxVersion" "S" (.int w5)) (hc8 : ¬ (w5 < w3)) (hc16 : p2 < w3) :
    MetFree l (⟨"com/example/wherry/wherry/protocol/ApiKey", "isFlexible", "(S)Z"⟩ : MethodName) (head1 (Jvm.Cond.code (⟨"com/example/wherry/wherry/protocol/ApiKey", "isFlexible", "(S)Z"⟩ : MethodName) prog_11_method_8_code 2 (some .boolean) :: ws) ({ frames := 0, cells := 0, slots := 0, locals := 0 } : Room)) (fun a U => a = #[(.ref a1), (.int p2)] ∧ Z.Warmed39 U.vm ∧ U.heap = h0) (fun _ _ _ _ _ => True) (fun _ U o U' => ∃ v L, o = .returned v ∧ Q1ft Z a1 p2 w3 w5 h0 n0 v U'.heap L ∧ FrameEnd U o U' L ({ frames := 0, cells := 0, slots := 0, locals := 0 } : Room).cells ({ frames := 0, cells := 0, slots := 0, locals := 0 } : Room).slots) := by
  refine MetFree.of_bodySF (plainFor_of_name pn_1) hisR ?_
  intro p e s m args below meth c s₁ Bd hml0 hP hK
  obtain ⟨rfl, hZ, hh⟩ := hP
  have hx := Bd.exec
  have hby := Bd.bytes
  have hml : c.maxLocals = 2 := hml0
  have hown : s.vm.findClass "com/example/wherry/wherry/protocol/ApiKey" = some m.cls := findClass_of_methodNamed Bd.named
  have hnm := (name_of_methodNamed Bd.named Bd.method).1
  have X0 : Stand p l e ({ frames := 0, cells := 0, slots := 0, locals := 0 } : Room) s m #[(.ref a1), (.int p2)] below meth c s₁ [] 0 0 := Stand.of_body Bd
  have e0 : s₁.heap = h0 := by rw [← hh, Bd.state]; rfl
  have N0 := Fr.nil n0
  have pre0 : ∀ t, Steps p.tables e below (s₁.setTop (mkF m 0 #[.val (.ref a1), .val (.int p2)] [])) t → Steps p.tables e below (s₁.setTop (entryFrame m #[(.ref a1), (.int p2)] 2)) t := fun t k => castTop (ef_1 m a1 p2) k
  obtain ⟨T4, X4, e4, st4⟩ := getF X0 hx hZ hown (host := "") (Or.inl (hw _ (List.mem_of_getElem? (i := 38) rfl))) Via.refl e0 F_firstFlexibleVersion_a1 (g := (mkF m 1 #[.val (.ref a1), .val (.int p2)] [(.ref a1)])) rfl rfl (hb hby d1_1)
  obtain ⟨T6, X6, e6, st6⟩ := getF X4 hx hZ hown (host := "") (Or.inl (hw _ (List.mem_of_getElem? (i := 40) rfl))) Via.refl e4 F_maxVersion_a1 (g := (mkF m 5 #[.val (.ref a1), .val (.int p2)] [(.ref a1), (.int w3)])) rfl rfl (hb hby d1_5)
  obtain ⟨T7, X7, e7, st7⟩ := getF X6 hx hZ hown (host := "") (Or.inl (hw _ (List.mem_of_getElem? (i := 38) rfl))) Via.refl e6 F_firstFlexibleVersion_a1 (g := (mkF m 13 #[.val (.ref a1), .val (.int p2)] [(.ref a1), (.int p2)])) rfl rfl (hb hby d1_13)
  obtain ⟨fs, hr, hrun, hended, hW, hsame⟩ := X7.leave (v := some (.int (0 : Int32))) (fun h => by rw [Bd.returns] at h; cases h)
  refine ⟨_, _, pre0 _ ?_, hrun, hended, _, _, rfl, ?_, ⟨_, rfl⟩, hW, hsame.mono (by decide) (by decide)⟩
  · show Steps p.tables e below (s₁.setTop (mkF m 0 #[.val (.ref a1), .val (.int p2)] [])) _
    refine XS.aloadN X0.here hx rfl (hb hby d1_0) rfl rfl ?_
    show Steps p.tables e below (s₁.setTop (mkF m 1 #[.val (.ref a1), .val (.int p2)] [(.ref a1)])) _
    refine st4 _ ?_
    show Steps p.tables e below (T4.setTop (mkF m 4 #[.val (.ref a1), .val (.int p2)] [(.int w3)])) _
    refine XS.aloadN X4.here hx rfl (hb hby d1_4) rfl rfl ?_
    show Steps p.tables e below (T4.setTop (mkF m 5 #[.val (.ref a1), .val (.int p2)] [(.ref a1), (.int w3)])) _
    refine st6 _ ?_
    show Steps p.tables e below (T6.setTop (mkF m 8 #[.val (.ref a1), .val (.int p2)] [(.int w5), (.int w3)])) _
    refine XS.icmpNo X6.here hx rfl (hb hby d1_8) rfl (flt hc8).2.2.1 ?_
    show Steps p.tables e below (T6.setTop (mkF m 11 #[.val (.ref a1), .val (.int p2)] [])) _
    refine XS.iloadN X6.here hx rfl (hb hby d1_11) rfl ?_
    show Steps p.tables e below (T6.setTop (mkF m 12 #[.val (.ref a1), .val (.int p2)] [(.int p2)])) _
    refine XS.aloadN X6.here hx rfl (hb hby d1_12) rfl rfl ?_
    show Steps p.tables e below (T6.setTop (mkF m 13 #[.val (.ref a1), .val (.int p2)] [(.ref a1), (.int p2)])) _
    refine st7 _ ?_
    show Steps p.tables e below (T7.setTop (mkF m 16 #[.val (.ref a1), .val (.int p2)] [(.int w3), (.int p2)])) _
    refine XS.icmpYes X7.here hx rfl (pc0 := 16) (pc' := 23) rfl (hb hby d1_16) rfl (tlt hc16).1 (by decide) (by decide) ?_
    show Steps p.tables e below (T7.setTop (mkF m 23 #[.val (.ref a1), .val (.int p2)] [])) _
    refine XS.iconst X7.here hx rfl (hb hby d1_23) ?_
    show Steps p.tables e below (T7.setTop (mkF m 24 #[.val (.ref a1), .val (.int p2)] [(.int (0 : Int32))])) _
    exact retN X7 hx (t := .boolean) Bd.returns (by simp) (hb hby d1_24) hr
  · show Q1ft Z a1 p2 w3 w5 h0 n0 _ T7.heap _
    rw [e7]
    exact ⟨rfl, N0, rfl⟩
theorem d1_19 : decode prog_11_method_8_code 19 = .ok (.iconst 1, 1) := by decide +kernel
theorem d1_20 : decode prog_11_method_8_code 20 = .ok (.goto 4, 3) := by decide +kernel
def Q1ff (Z : State) (a1 : Addr) (p2 : Int32) (w3 : Int32) (w5 : Int32) (h0 : Heap) (n0 : Nat) (v : Option Value) (h : Heap) (L : List Loc) : Prop := v = some (.int (1 : Int32)) ∧ Fr n0 L ∧ h = h0
set_option maxRecDepth 65536 in
set_option maxHeartbeats 40000000 in
theorem rm1ff (l : Launch) (Z : State) (a0 : Array Value) (hw : ∀ d ∈ tables_1, d.before a0 Z = true) (ws : List Jvm.Cond) (a1 : Addr) (p2 : Int32) (w3 : Int32) (w5 : Int32) (h0 : Heap) (n0 : Nat) (Z0 : n0 ≤ h0.size) (F_firstFlexibleVersion_a1 : Fld Z h0 a1 "com/example/wherry/wherry/protocol/ApiKey" "firstFlexibleVersion" "S" (.int w3)) (F_maxVersion_a1 : Fld Z h0 a1 "com/example/wherry/wherry/protocol/ApiKey" "maxVersion" "S" (.int w5)) (hc8 : ¬ (w5 < w3)) (hc16 : ¬ (p2 < w3)) :
    MetFree l (⟨"com/example/wherry/wherry/protocol/ApiKey", "isFlexible", "(S)Z"⟩ : MethodName) (head1 (Jvm.Cond.code (⟨"com/example/wherry/wherry/protocol/ApiKey", "isFlexible", "(S)Z"⟩ : MethodName) prog_11_method_8_code 2 (some .boolean) :: ws) ({ frames := 0, cells := 0, slots := 0, locals := 0 } : Room)) (fun a U => a = #[(.ref a1), (.int p2)] ∧ Z.Warmed39 U.vm ∧ U.heap = h0) (fun _ _ _ _ _ => True) (fun _ U o U' => ∃ v L, o = .returned v ∧ Q1ff Z a1 p2 w3 w5 h0 n0 v U'.heap L ∧ FrameEnd U o U' L ({ frames := 0, cells := 0, slots := 0, locals := 0 } : Room).cells ({ frames := 0, cells := 0, slots := 0, locals := 0 } : Room).slots) := by
  refine MetFree.of_bodySF (plainFor_of_name pn_1) hisR ?_
  intro p e s m args below meth c s₁ Bd hml0 hP hK
  obtain ⟨rfl, hZ, hh⟩ := hP
  have hx := Bd.exec
  have hby := Bd.bytes
  have hml : c.maxLocals = 2 := hml0
  have hown : s.vm.findClass "com/example/wherry/wherry/protocol/ApiKey" = some m.cls := findClass_of_methodNamed Bd.named
  have hnm := (name_of_methodNamed Bd.named Bd.method).1
  have X0 : Stand p l e ({ frames := 0, cells := 0, slots := 0, locals := 0 } : Room) s m #[(.ref a1), (.int p2)] below meth c s₁ [] 0 0 := Stand.of_body Bd
  have e0 : s₁.heap = h0 := by rw [← hh, Bd.state]; rfl
  have N0 := Fr.nil n0
  have pre0 : ∀ t, Steps p.tables e below (s₁.setTop (mkF m 0 #[.val (.ref a1), .val (.int p2)] [])) t → Steps p.tables e below (s₁.setTop (entryFrame m #[(.ref a1), (.int p2)] 2)) t := fun t k => castTop (ef_1 m a1 p2) k
  obtain ⟨T4, X4, e4, st4⟩ := getF X0 hx hZ hown (host := "") (Or.inl (hw _ (List.mem_of_getElem? (i := 38) rfl))) Via.refl e0 F_firstFlexibleVersion_a1 (g := (mkF m 1 #[.val (.ref a1), .val (.int p2)] [(.ref a1)])) rfl rfl (hb hby d1_1)
  obtain ⟨T6, X6, e6, st6⟩ := getF X4 hx hZ hown (host := "") (Or.inl (hw _ (List.mem_of_getElem? (i := 40) rfl))) Via.refl e4 F_maxVersion_a1 (g := (mkF m 5 #[.val (.ref a1), .val (.int p2)] [(.ref a1), (.int w3)])) rfl rfl (hb hby d1_5)
  obtain ⟨T7, X7, e7, st7⟩ := getF X6 hx hZ hown (host := "") (Or.inl (hw _ (List.mem_of_getElem? (i := 38) rfl))) Via.refl e6 F_firstFlexibleVersion_a1 (g := (mkF m 13 #[.val (.ref a1), .val (.int p2)] [(.ref a1), (.int p2)])) rfl rfl (hb hby d1_13)
  obtain ⟨fs, hr, hrun, hended, hW, hsame⟩ := X7.leave (v := some (.int (1 : Int32))) (fun h => by rw [Bd.returns] at h; cases h)
  refine ⟨_, _, pre0 _ ?_, hrun, hended, _, _, rfl, ?_, ⟨_, rfl⟩, hW, hsame.mono (by decide) (by decide)⟩
  · show Steps p.tables e below (s₁.setTop (mkF m 0 #[.val (.ref a1), .val (.int p2)] [])) _
    refine XS.aloadN X0.here hx rfl (hb hby d1_0) rfl rfl ?_
    show Steps p.tables e below (s₁.setTop (mkF m 1 #[.val (.ref a1), .val (.int p2)] [(.ref a1)])) _
    refine st4 _ ?_
    show Steps p.tables e below (T4.setTop (mkF m 4 #[.val (.ref a1), .val (.int p2)] [(.int w3)])) _
    refine XS.aloadN X4.here hx rfl (hb hby d1_4) rfl rfl ?_
    show Steps p.tables e below (T4.setTop (mkF m 5 #[.val (.ref a1), .val (.int p2)] [(.ref a1), (.int w3)])) _
    refine st6 _ ?_
    show Steps p.tables e below (T6.setTop (mkF m 8 #[.val (.ref a1), .val (.int p2)] [(.int w5), (.int w3)])) _
    refine XS.icmpNo X6.here hx rfl (hb hby d1_8) rfl (flt hc8).2.2.1 ?_
    show Steps p.tables e below (T6.setTop (mkF m 11 #[.val (.ref a1), .val (.int p2)] [])) _
    refine XS.iloadN X6.here hx rfl (hb hby d1_11) rfl ?_
    show Steps p.tables e below (T6.setTop (mkF m 12 #[.val (.ref a1), .val (.int p2)] [(.int p2)])) _
    refine XS.aloadN X6.here hx rfl (hb hby d1_12) rfl rfl ?_
    show Steps p.tables e below (T6.setTop (mkF m 13 #[.val (.ref a1), .val (.int p2)] [(.ref a1), (.int p2)])) _
    refine st7 _ ?_
    show Steps p.tables e below (T7.setTop (mkF m 16 #[.val (.ref a1), .val (.int p2)] [(.int w3), (.int p2)])) _
    refine XS.icmpNo X7.here hx rfl (hb hby d1_16) rfl (flt hc16).1 ?_
    show Steps p.tables e below (T7.setTop (mkF m 19 #[.val (.ref a1), .val (.int p2)] [])) _
    refine XS.iconst X7.here hx rfl (hb hby d1_19) ?_
    show Steps p.tables e below (T7.setTop (mkF m 20 #[.val (.ref a1), .val (.int p2)] [(.int (1 : Int32))])) _
    refine XS.goto X7.here hx rfl (pc0 := 20) (pc' := 24) rfl (hb hby d1_20) (by decide) (by decide) ?_
    show Steps p.tables e below (T7.setTop (mkF m 24 #[.val (.ref a1), .val (.int p2)] [(.int (1 : Int32))])) _
    exact retN X7 hx (t := .boolean) Bd.returns (by simp) (hb hby d1_24) hr
  · show Q1ff Z a1 p2 w3 w5 h0 n0 _ T7.heap _
    rw [e7]
    exact ⟨rfl, N0, rfl⟩
theorem pn_0 : plainName "com/example/wherry/wherry/protocol/ApiKeyIsFlexiblePinLaw" = true := by first | (simp [plainName, overriddenIn]; done) | decide +kernel
theorem pda_0_0 : parseMethodDescriptor "(S)Z" = some ⟨[.short], some .boolean⟩ := by decide +kernel
theorem ef_0 (m : MethodId) (x0 : Int32) (x1 : Int32) : entryFrame m #[(.int x0), (.int x1)] maxLocals = mkF m 0 #[.val (.int x0), .val (.int x1), .unset, .unset, .unset, .unset] [] := by first | (simp [entryFrame, mkF, argsToLocals, Value.category, maxLocals]; done) | rfl
def Q0a (Z : State) (p1 : Int32) (p2 : Int32) (w4 : Addr) (w7 : Addr) (w10 : Addr) (w13 : Addr) (w16 : Addr) (w19 : Addr) (w22 : Addr) (w25 : Addr) (w28 : Addr) (w31 : Addr) (w34 : Addr) (w37 : Addr) (w40 : Addr) (w43 : Addr) (w46 : Addr) (h0 : Heap) (n0 : Nat) (v : Option Value) (h : Heap) (L : List Loc) : Prop := v = some (.int (1 : Int32)) ∧ Fr n0 L
set_option maxRecDepth 65536 in
set_option maxHeartbeats 40000000 in
theorem rm0a (l : Launch) (Z : State) (a0 : Array Value) (hw : ∀ d ∈ tables_1, d.before a0 Z = true) (ws : List Jvm.Cond) (p1 : Int32) (p2 : Int32) (w4 : Addr) (w7 : Addr) (w10 : Addr) (w13 : Addr) (w16 : Addr) (w19 : Addr) (w22 : Addr) (w25 : Addr) (w28 : Addr) (w31 : Addr) (w34 : Addr) (w37 : Addr) (w40 : Addr) (w43 : Addr) (w46 : Addr) (f7 : Int32) (m7 : Int32) (h0 : Heap) (n0 : Nat) (Z0 : n0 ≤ h0.size) (S_PRODUCE : Sta Z h0 "com/example/wherry/wherry/protocol/ApiKey" "PRODUCE" "Lcom/example/wherry/wherry/protocol/ApiKey;" (.ref w4)) (E_w4 : Exa Z h0 w4 "com/example/wherry/wherry/protocol/ApiKey") (S_FETCH : Sta Z h0 "com/example/wherry/wherry/protocol/ApiKey" "FETCH" "Lcom/example/wherry/wherry/protocol/ApiKey;" (.ref w7)) (E_w7 : Exa Z h0 w7 "com/example/wherry/wherry/protocol/ApiKey") (S_OFFSETS : Sta Z h0 "com/example/wherry/wherry/protocol/ApiKey" "OFFSETS" "Lcom/example/wherry/wherry/protocol/ApiKey;" (.ref w10)) (E_w10 : Exa Z h0 w10 "com/example/wherry/wherry/protocol/ApiKey") (S_METADATA : Sta Z h0 "com/example/wherry/wherry/protocol/ApiKey" "METADATA" "Lcom/example/wherry/wherry/protocol/ApiKey;" (.ref w13)) (E_w13 : Exa Z h0 w13 "com/example/wherry/wherry/protocol/ApiKey") (S_OFFSET_COMMIT : Sta Z h0 "com/example/wherry/wherry/protocol/ApiKey" "OFFSET_COMMIT" "Lcom/example/wherry/wherry/protocol/ApiKey;" (.ref w16)) (E_w16 : Exa Z h0 w16 "com/example/wherry/wherry/protocol/ApiKey") (S_OFFSET_FETCH : Sta Z h0 "com/example/wherry/wherry/protocol/ApiKey" "OFFSET_FETCH" "Lcom/example/wherry/wherry/protocol/ApiKey;" (.ref w19)) (E_w19 : Exa Z h0 w19 "com/example/wherry/wherry/protocol/ApiKey") (S_GROUP_COORDINATOR : Sta Z h0 "com/example/wherry/wherry/protocol/ApiKey" "GROUP_COORDINATOR" "Lcom/example/wherry/wherry/protocol/ApiKey;" (.ref w22)) (E_w22 : Exa Z h0 w22 "com/example/wherry/wherry/protocol/ApiKey") (S_JOIN_GROUP : Sta Z h0 "com/example/wherry/wherry/protocol/ApiKey" "JOIN_GROUP" "Lcom/example/wherry/wherry/protocol/ApiKey;" (.ref w25)) (E_w25 : Exa Z h0 w25 "com/example/wherry/wherry/protocol/ApiKey") (S_HEARTBEAT : Sta Z h0 "com/example/wherry/wherry/protocol/ApiKey" "HEARTBEAT" "Lcom/example/wherry/wherry/protocol/ApiKey;" (.ref w28)) (E_w28 : Exa Z h0 w28 "com/example/wherry/wherry/protocol/ApiKey") (S_LEAVE_GROUP : Sta Z h0 "com/example/wherry/wherry/protocol/ApiKey" "LEAVE_GROUP" "Lcom/example/wherry/wherry/protocol/ApiKey;" (.ref w31)) (E_w31 : Exa Z h0 w31 "com/example/wherry/wherry/protocol/ApiKey") (S_SYNC_GROUP : Sta Z h0 "com/example/wherry/wherry/protocol/ApiKey" "SYNC_GROUP" "Lcom/example/wherry/wherry/protocol/ApiKey;" (.ref w34)) (E_w34 : Exa Z h0 w34 "com/example/wherry/wherry/protocol/ApiKey") (S_DESCRIBE_GROUPS : Sta Z h0 "com/example/wherry/wherry/protocol/ApiKey" "DESCRIBE_GROUPS" "Lcom/example/wherry/wherry/protocol/ApiKey;" (.ref w37)) (E_w37 : Exa Z h0 w37 "com/example/wherry/wherry/protocol/ApiKey") (S_LIST_GROUPS : Sta Z h0 "com/example/wherry/wherry/protocol/ApiKey" "LIST_GROUPS" "Lcom/example/wherry/wherry/protocol/ApiKey;" (.ref w40)) (E_w40 : Exa Z h0 w40 "com/example/wherry/wherry/protocol/ApiKey") (S_API_VERSIONS : Sta Z h0 "com/example/wherry/wherry/protocol/ApiKey" "API_VERSIONS" "Lcom/example/wherry/wherry/protocol/ApiKey;" (.ref w43)) (E_w43 : Exa Z h0 w43 "com/example/wherry/wherry/protocol/ApiKey") (hj : ¬ ((p1 &&& (2147483647 : Int32)) % (14 : Int32)) < 0 ∧ ((p1 &&& (2147483647 : Int32)) % (14 : Int32)) < 14) (hget : ([(.ref w4), (.ref w7), (.ref w10), (.ref w13), (.ref w16), (.ref w19), (.ref w22), (.ref w25), (.ref w28), (.ref w31), (.ref w34), (.ref w37), (.ref w40), (.ref w43)] : List Value).getD ((p1 &&& (2147483647 : Int32)) % (14 : Int32)).toNatClampNeg .null = .ref w46) (Ff : Fld Z h0 w46 "com/example/wherry/wherry/protocol/ApiKey" "firstFlexibleVersion" "S" (.int f7)) (Fm : Fld Z h0 w46 "com/example/wherry/wherry/protocol/ApiKey" "maxVersion" "S" (.int m7)) (hmf : m7 < f7) (E_w46 : Exa Z h0 w46 "com/example/wherry/wherry/protocol/ApiKey") (ha116 : ¬ (w46 = w43)) :
    MetFree l x (head1 (Jvm.Cond.code x code maxLocals ret :: ws) room_1) (fun a U => a = #[(.int p1), (.int p2)] ∧ Z.Warmed39 U.vm ∧ U.heap = h0) (fun _ _ _ _ _ => True) (fun _ U o U' => ∃ v L, o = .returned v ∧ Q0a Z p1 p2 w4 w7 w10 w13 w16 w19 w22 w25 w28 w31 w34 w37 w40 w43 w46 h0 n0 v U'.heap L ∧ FrameEnd U o U' L room_1.cells room_1.slots) := by
  refine MetFree.of_bodySF (plainFor_of_name pn_0) hisR ?_
  intro p e s m args below meth c s₁ Bd hml0 hP hK
  obtain ⟨rfl, hZ, hh⟩ := hP
  have hx := Bd.exec
  have hby := Bd.bytes
  have hml : c.maxLocals = 6 := hml0
  have hown : s.vm.findClass "com/example/wherry/wherry/protocol/ApiKeyIsFlexiblePinLaw" = some m.cls := findClass_of_methodNamed Bd.named
  have hnm := (name_of_methodNamed Bd.named Bd.method).1
  have X0 : Stand p l e room_1 s m #[(.int p1), (.int p2)] below meth c s₁ [] 0 0 := Stand.of_body Bd
  have e0 : s₁.heap = h0 := by rw [← hh, Bd.state]; rfl
  have N0 := Fr.nil n0
  have pre0 : ∀ t, Steps p.tables e below (s₁.setTop (mkF m 0 #[.val (.int p1), .val (.int p2), .unset, .unset, .unset, .unset] [])) t → Steps p.tables e below (s₁.setTop (entryFrame m #[(.int p1), (.int p2)] maxLocals)) t := fun t k => castTop (ef_0 m p1 p2) k
  obtain ⟨T3, h3, k3, X3, e3, E3, A3, O3, st3⟩ := newR X0 hx hZ hown (hw _ (List.mem_of_getElem? (i := 0) rfl)) (hw _ (List.mem_of_getElem? (i := 1) rfl)) e0 (g := (mkF m 2 #[.val (.int p1), .val (.int p2), .unset, .unset, .unset, .unset] [(.int (14 : Int32))])) rfl (hb hby at_2) rfl (by decide) (cap := 14) (by decide) (by decide) (by decide) (by decide)
  obtain ⟨b3, g3⟩ : ∃ z, z = h0.size := ⟨_, rfl⟩
  rw [← g3] at A3 st3
  have V3 : Arv Z h3 b3 k3 (.object "com/example/wherry/wherry/protocol/ApiKey") (14 : Int32) [.null, .null, .null, .null, .null, .null, .null, .null, .null, .null, .null, .null, .null, .null] .null := (Arv.new A3 (by decide)).pad (pad_rep [] .null 14)
  have g_b3 : n0 ≤ b3 := Nat.le_trans Z0 (Nat.le_of_eq g3.symm)
  have sz_b3 : h0.size ≤ b3 := (Nat.le_trans (Keep.refl h0 []).1 (Nat.le_of_eq g3.symm))
  have K3 : Keep h0 h3 [] := (Keep.refl h0 []).ext E3
  obtain ⟨T5, X5, e5, st5⟩ := getS2 X3 hx hZ hown (host := "") (Or.inl (hw _ (List.mem_of_getElem? (i := 2) rfl))) Via.refl e3 (own_sta K3 S_PRODUCE) (g := (mkF m 7 #[.val (.int p1), .val (.int p2), .unset, .unset, .unset, .unset] [(.int (0 : Int32)), (.ref b3), (.ref b3)])) rfl (hb hby at_7)
  obtain ⟨cl6, Ar6, q6, S6, Z6, H6, G6⟩ := V3
  obtain ⟨T6, h6, X6, e6, W6, st6⟩ := stR X5 hx hZ e5 Ar6 (j := (0 : Int32)) (inb_of S6 ⟨by decide, by decide⟩) rfl (Sto.ofV Ar6 q6 O3 (Ins.self (E_w4.keep K3))) (g := (mkF m 10 #[.val (.int p1), .val (.int p2), .unset, .unset, .unset, .unset] [(.ref w4), (.int (0 : Int32)), (.ref b3), (.ref b3)])) rfl rfl (hb hby at_10)
  have V6 : Arv Z h6 b3 k3 (.object "com/example/wherry/wherry/protocol/ApiKey") (14 : Int32) [(.ref w4), .null, .null, .null, .null, .null, .null, .null, .null, .null, .null, .null, .null, .null] .null := Arv.set Ar6 q6 S6 Z6 H6 G6 (v := .ref w4) rfl W6 0 rfl (by show 0 < 14; decide)
  have N6 := Fr.snoc X6 N0 g_b3
  have K6 : Keep h0 h6 [] := K3.wr W6 (Or.inr sz_b3)
  obtain ⟨T8, X8, e8, st8⟩ := getS2 X6 hx hZ hown (host := "") (Or.inl (hw _ (List.mem_of_getElem? (i := 6) rfl))) Via.refl e6 (own_sta K6 S_FETCH) (g := (mkF m 13 #[.val (.int p1), .val (.int p2), .unset, .unset, .unset, .unset] [(.int (1 : Int32)), (.ref b3), (.ref b3)])) rfl (hb hby at_13)
  obtain ⟨cl9, Ar9, q9, S9, Z9, H9, G9⟩ := V6
  obtain ⟨T9, h9, X9, e9, W9, st9⟩ := stR X8 hx hZ e8 Ar9 (j := (1 : Int32)) (inb_of S9 ⟨by decide, by decide⟩) rfl (Sto.ofV Ar9 q9 O3 (Ins.self (E_w7.keep K6))) (g := (mkF m 16 #[.val (.int p1), .val (.int p2), .unset, .unset, .unset, .unset] [(.ref w7), (.int (1 : Int32)), (.ref b3), (.ref b3)])) rfl rfl (hb hby at_16)
  have V9 : Arv Z h9 b3 k3 (.object "com/example/wherry/wherry/protocol/ApiKey") (14 : Int32) [(.ref w4), (.ref w7), .null, .null, .null, .null, .null, .null, .null, .null, .null, .null, .null, .null] .null := Arv.set Ar9 q9 S9 Z9 H9 G9 (v := .ref w7) rfl W9 1 rfl (by show 1 < 14; decide)
  have N9 := Fr.snoc X9 N6 g_b3
  have K9 : Keep h0 h9 [] := K6.wr W9 (Or.inr sz_b3)
  obtain ⟨T11, X11, e11, st11⟩ := getS2 X9 hx hZ hown (host := "") (Or.inl (hw _ (List.mem_of_getElem? (i := 8) rfl))) Via.refl e9 (own_sta K9 S_OFFSETS) (g := (mkF m 19 #[.val (.int p1), .val (.int p2), .unset, .unset, .unset, .unset] [(.int (2 : Int32)), (.ref b3), (.ref b3)])) rfl (hb hby at_19)
  obtain ⟨cl12, Ar12, q12, S12, Z12, H12, G12⟩ := V9
  obtain ⟨T12, h12, X12, e12, W12, st12⟩ := stR X11 hx hZ e11 Ar12 (j := (2 : Int32)) (inb_of S12 ⟨by decide, by decide⟩) rfl (Sto.ofV Ar12 q12 O3 (Ins.self (E_w10.keep K9))) (g := (mkF m 22 #[.val (.int p1), .val (.int p2), .unset, .unset, .unset, .unset] [(.ref w10), (.int (2 : Int32)), (.ref b3), (.ref b3)])) rfl rfl (hb hby at_22)
  have V12 : Arv Z h12 b3 k3 (.object "com/example/wherry/wherry/protocol/ApiKey") (14 : Int32) [(.ref w4), (.ref w7), (.ref w10), .null, .null, .null, .null, .null, .null, .null, .null, .null, .null, .null] .null := Arv.set Ar12 q12 S12 Z12 H12 G12 (v := .ref w10) rfl W12 2 rfl (by show 2 < 14; decide)
  have N12 := Fr.snoc X12 N9 g_b3
  have K12 : Keep h0 h12 [] := K9.wr W12 (Or.inr sz_b3)
  obtain ⟨T14, X14, e14, st14⟩ := getS2 X12 hx hZ hown (host := "") (Or.inl (hw _ (List.mem_of_getElem? (i := 10) rfl))) Via.refl e12 (own_sta K12 S_METADATA) (g := (mkF m 25 #[.val (.int p1), .val (.int p2), .unset, .unset, .unset, .unset] [(.int (3 : Int32)), (.ref b3), (.ref b3)])) rfl (hb hby at_25)
  obtain ⟨cl15, Ar15, q15, S15, Z15, H15, G15⟩ := V12
  obtain ⟨T15, h15, X15, e15, W15, st15⟩ := stR X14 hx hZ e14 Ar15 (j := (3 : Int32)) (inb_of S15 ⟨by decide, by decide⟩) rfl (Sto.ofV Ar15 q15 O3 (Ins.self (E_w13.keep K12))) (g := (mkF m 28 #[.val (.int p1), .val (.int p2), .unset, .unset, .unset, .unset] [(.ref w13), (.int (3 : Int32)), (.ref b3), (.ref b3)])) rfl rfl (hb hby at_28)
  have V15 : Arv Z h15 b3 k3 (.object "com/example/wherry/wherry/protocol/ApiKey") (14 : Int32) [(.ref w4), (.ref w7), (.ref w10), (.ref w13), .null, .null, .null, .null, .null, .null, .null, .null, .null, .null] .null := Arv.set Ar15 q15 S15 Z15 H15 G15 (v := .ref w13) rfl W15 3 rfl (by show 3 < 14; decide)
  have N15 := Fr.snoc X15 N12 g_b3
  have K15 : Keep h0 h15 [] := K12.wr W15 (Or.inr sz_b3)
  obtain ⟨T17, X17, e17, st17⟩ := getS2 X15 hx hZ hown (host := "") (Or.inl (hw _ (List.mem_of_getElem? (i := 12) rfl))) Via.refl e15 (own_sta K15 S_OFFSET_COMMIT) (g := (mkF m 31 #[.val (.int p1), .val (.int p2), .unset, .unset, .unset, .unset] [(.int (4 : Int32)), (.ref b3), (.ref b3)])) rfl (hb hby at_31)
  obtain ⟨cl18, Ar18, q18, S18, Z18, H18, G18⟩ := V15
  obtain ⟨T18, h18, X18, e18, W18, st18⟩ := stR X17 hx hZ e17 Ar18 (j := (4 : Int32)) (inb_of S18 ⟨by decide, by decide⟩) rfl (Sto.ofV Ar18 q18 O3 (Ins.self (E_w16.keep K15))) (g := (mkF m 34 #[.val (.int p1), .val (.int p2), .unset, .unset, .unset, .unset] [(.ref w16), (.int (4 : Int32)), (.ref b3), (.ref b3)])) rfl rfl (hb hby at_34)
  have V18 : Arv Z h18 b3 k3 (.object "com/example/wherry/wherry/protocol/ApiKey") (14 : Int32) [(.ref w4), (.ref w7), (.ref w10), (.ref w13), (.ref w16), .null, .null, .null, .null, .null, .null, .null, .null, .null] .null := Arv.set Ar18 q18 S18 Z18 H18 G18 (v := .ref w16) rfl W18 4 rfl (by show 4 < 14; decide)
  have N18 := Fr.snoc X18 N15 g_b3
  have K18 : Keep h0 h18 [] := K15.wr W18 (Or.inr sz_b3)
  obtain ⟨T20, X20, e20, st20⟩ := getS2 X18 hx hZ hown (host := "") (Or.inl (hw _ (List.mem_of_getElem? (i := 14) rfl))) Via.refl e18 (own_sta K18 S_OFFSET_FETCH) (g := (mkF m 37 #[.val (.int p1), .val (.int p2), .unset, .unset, .unset, .unset] [(.int (5 : Int32)), (.ref b3), (.ref b3)])) rfl (hb hby at_37)
  obtain ⟨cl21, Ar21, q21, S21, Z21, H21, G21⟩ := V18
  obtain ⟨T21, h21, X21, e21, W21, st21⟩ := stR X20 hx hZ e20 Ar21 (j := (5 : Int32)) (inb_of S21 ⟨by decide, by decide⟩) rfl (Sto.ofV Ar21 q21 O3 (Ins.self (E_w19.keep K18))) (g := (mkF m 40 #[.val (.int p1), .val (.int p2), .unset, .unset, .unset, .unset] [(.ref w19), (.int (5 : Int32)), (.ref b3), (.ref b3)])) rfl rfl (hb hby at_40)
  have V21 : Arv Z h21 b3 k3 (.object "com/example/wherry/wherry/protocol/ApiKey") (14 : Int32) [(.ref w4), (.ref w7), (.ref w10), (.ref w13), (.ref w16), (.ref w19), .null, .null, .null, .null, .null, .null, .null, .null] .null := Arv.set Ar21 q21 S21 Z21 H21 G21 (v := .ref w19) rfl W21 5 rfl (by show 5 < 14; decide)
  have N21 := Fr.snoc X21 N18 g_b3
  have K21 : Keep h0 h21 [] := K18.wr W21 (Or.inr sz_b3)
  obtain ⟨T23, X23, e23, st23⟩ := getS2 X21 hx hZ hown (host := "") (Or.inl (hw _ (List.mem_of_getElem? (i := 16) rfl))) Via.refl e21 (own_sta K21 S_GROUP_COORDINATOR) (g := (mkF m 44 #[.val (.int p1), .val (.int p2), .unset, .unset, .unset, .unset] [(.int (6 : Int32)), (.ref b3), (.ref b3)])) rfl (hb hby at_44)
  obtain ⟨cl24, Ar24, q24, S24, Z24, H24, G24⟩ := V21
  obtain ⟨T24, h24, X24, e24, W24, st24⟩ := stR X23 hx hZ e23 Ar24 (j := (6 : Int32)) (inb_of S24 ⟨by decide, by decide⟩) rfl (Sto.ofV Ar24 q24 O3 (Ins.self (E_w22.keep K21))) (g := (mkF m 47 #[.val (.int p1), .val (.int p2), .unset, .unset, .unset, .unset] [(.ref w22), (.int (6 : Int32)), (.ref b3), (.ref b3)])) rfl rfl (hb hby at_47)
  have V24 : Arv Z h24 b3 k3 (.object "com/example/wherry/wherry/protocol/ApiKey") (14 : Int32) [(.ref w4), (.ref w7), (.ref w10), (.ref w13), (.ref w16), (.ref w19), (.ref w22), .null, .null, .null, .null, .null, .null, .null] .null := Arv.set Ar24 q24 S24 Z24 H24 G24 (v := .ref w22) rfl W24 6 rfl (by show 6 < 14; decide)
  have N24 := Fr.snoc X24 N21 g_b3
  have K24 : Keep h0 h24 [] := K21.wr W24 (Or.inr sz_b3)
  obtain ⟨T26, X26, e26, st26⟩ := getS2 X24 hx hZ hown (host := "") (Or.inl (hw _ (List.mem_of_getElem? (i := 18) rfl))) Via.refl e24 (own_sta K24 S_JOIN_GROUP) (g := (mkF m 51 #[.val (.int p1), .val (.int p2), .unset, .unset, .unset, .unset] [(.int (7 : Int32)), (.ref b3), (.ref b3)])) rfl (hb hby at_51)
  obtain ⟨cl27, Ar27, q27, S27, Z27, H27, G27⟩ := V24
  obtain ⟨T27, h27, X27, e27, W27, st27⟩ := stR X26 hx hZ e26 Ar27 (j := (7 : Int32)) (inb_of S27 ⟨by decide, by decide⟩) rfl (Sto.ofV Ar27 q27 O3 (Ins.self (E_w25.keep K24))) (g := (mkF m 54 #[.val (.int p1), .val (.int p2), .unset, .unset, .unset, .unset] [(.ref w25), (.int (7 : Int32)), (.ref b3), (.ref b3)])) rfl rfl (hb hby at_54)
  have V27 : Arv Z h27 b3 k3 (.object "com/example/wherry/wherry/protocol/ApiKey") (14 : Int32) [(.ref w4), (.ref w7), (.ref w10), (.ref w13), (.ref w16), (.ref w19), (.ref w22), (.ref w25), .null, .null, .null, .null, .null, .null] .null := Arv.set Ar27 q27 S27 Z27 H27 G27 (v := .ref w25) rfl W27 7 rfl (by show 7 < 14; decide)
  have N27 := Fr.snoc X27 N24 g_b3
  have K27 : Keep h0 h27 [] := K24.wr W27 (Or.inr sz_b3)
  obtain ⟨T29, X29, e29, st29⟩ := getS2 X27 hx hZ hown (host := "") (Or.inl (hw _ (List.mem_of_getElem? (i := 20) rfl))) Via.refl e27 (own_sta K27 S_HEARTBEAT) (g := (mkF m 58 #[.val (.int p1), .val (.int p2), .unset, .unset, .unset, .unset] [(.int (8 : Int32)), (.ref b3), (.ref b3)])) rfl (hb hby at_58)
  obtain ⟨cl30, Ar30, q30, S30, Z30, H30, G30⟩ := V27
  obtain ⟨T30, h30, X30, e30, W30, st30⟩ := stR X29 hx hZ e29 Ar30 (j := (8 : Int32)) (inb_of S30 ⟨by decide, by decide⟩) rfl (Sto.ofV Ar30 q30 O3 (Ins.self (E_w28.keep K27))) (g := (mkF m 61 #[.val (.int p1), .val (.int p2), .unset, .unset, .unset, .unset] [(.ref w28), (.int (8 : Int32)), (.ref b3), (.ref b3)])) rfl rfl (hb hby at_61)
  have V30 : Arv Z h30 b3 k3 (.object "com/example/wherry/wherry/protocol/ApiKey") (14 : Int32) [(.ref w4), (.ref w7), (.ref w10), (.ref w13), (.ref w16), (.ref w19), (.ref w22), (.ref w25), (.ref w28), .null, .null, .null, .null, .null] .null := Arv.set Ar30 q30 S30 Z30 H30 G30 (v := .ref w28) rfl W30 8 rfl (by show 8 < 14; decide)
  have N30 := Fr.snoc X30 N27 g_b3
  have K30 : Keep h0 h30 [] := K27.wr W30 (Or.inr sz_b3)
  obtain ⟨T32, X32, e32, st32⟩ := getS2 X30 hx hZ hown (host := "") (Or.inl (hw _ (List.mem_of_getElem? (i := 22) rfl))) Via.refl e30 (own_sta K30 S_LEAVE_GROUP) (g := (mkF m 65 #[.val (.int p1), .val (.int p2), .unset, .unset, .unset, .unset] [(.int (9 : Int32)), (.ref b3), (.ref b3)])) rfl (hb hby at_65)
  obtain ⟨cl33, Ar33, q33, S33, Z33, H33, G33⟩ := V30
  obtain ⟨T33, h33, X33, e33, W33, st33⟩ := stR X32 hx hZ e32 Ar33 (j := (9 : Int32)) (inb_of S33 ⟨by decide, by decide⟩) rfl (Sto.ofV Ar33 q33 O3 (Ins.self (E_w31.keep K30))) (g := (mkF m 68 #[.val (.int p1), .val (.int p2), .unset, .unset, .unset, .unset] [(.ref w31), (.int (9 : Int32)), (.ref b3), (.ref b3)])) rfl rfl (hb hby at_68)
  have V33 : Arv Z h33 b3 k3 (.object "com/example/wherry/wherry/protocol/ApiKey") (14 : Int32) [(.ref w4), (.ref w7), (.ref w10), (.ref w13), (.ref w16), (.ref w19), (.ref w22), (.ref w25), (.ref w28), (.ref w31), .null, .null, .null, .null] .null := Arv.set Ar33 q33 S33 Z33 H33 G33 (v := .ref w31) rfl W33 9 rfl (by show 9 < 14; decide)
  have N33 := Fr.snoc X33 N30 g_b3
  have K33 : Keep h0 h33 [] := K30.wr W33 (Or.inr sz_b3)
  obtain ⟨T35, X35, e35, st35⟩ := getS2 X33 hx hZ hown (host := "") (Or.inl (hw _ (List.mem_of_getElem? (i := 24) rfl))) Via.refl e33 (own_sta K33 S_SYNC_GROUP) (g := (mkF m 72 #[.val (.int p1), .val (.int p2), .unset, .unset, .unset, .unset] [(.int (10 : Int32)), (.ref b3), (.ref b3)])) rfl (hb hby at_72)
  obtain ⟨cl36, Ar36, q36, S36, Z36, H36, G36⟩ := V33
  obtain ⟨T36, h36, X36, e36, W36, st36⟩ := stR X35 hx hZ e35 Ar36 (j := (10 : Int32)) (inb_of S36 ⟨by decide, by decide⟩) rfl (Sto.ofV Ar36 q36 O3 (Ins.self (E_w34.keep K33))) (g := (mkF m 75 #[.val (.int p1), .val (.int p2), .unset, .unset, .unset, .unset] [(.ref w34), (.int (10 : Int32)), (.ref b3), (.ref b3)])) rfl rfl (hb hby at_75)
  have V36 : Arv Z h36 b3 k3 (.object "com/example/wherry/wherry/protocol/ApiKey") (14 : Int32) [(.ref w4), (.ref w7), (.ref w10), (.ref w13), (.ref w16), (.ref w19), (.ref w22), (.ref w25), (.ref w28), (.ref w31), (.ref w34), .null, .null, .null] .null := Arv.set Ar36 q36 S36 Z36 H36 G36 (v := .ref w34) rfl W36 10 rfl (by show 10 < 14; decide)
  have N36 := Fr.snoc X36 N33 g_b3
  have K36 : Keep h0 h36 [] := K33.wr W36 (Or.inr sz_b3)
  obtain ⟨T38, X38, e38, st38⟩ := getS2 X36 hx hZ hown (host := "") (Or.inl (hw _ (List.mem_of_getElem? (i := 26) rfl))) Via.refl e36 (own_sta K36 S_DESCRIBE_GROUPS) (g := (mkF m 79 #[.val (.int p1), .val (.int p2), .unset, .unset, .unset, .unset] [(.int (11 : Int32)), (.ref b3), (.ref b3)])) rfl (hb hby at_79)
  obtain ⟨cl39, Ar39, q39, S39, Z39, H39, G39⟩ := V36
  obtain ⟨T39, h39, X39, e39, W39, st39⟩ := stR X38 hx hZ e38 Ar39 (j := (11 : Int32)) (inb_of S39 ⟨by decide, by decide⟩) rfl (Sto.ofV Ar39 q39 O3 (Ins.self (E_w37.keep K36))) (g := (mkF m 82 #[.val (.int p1), .val (.int p2), .unset, .unset, .unset, .unset] [(.ref w37), (.int (11 : Int32)), (.ref b3), (.ref b3)])) rfl rfl (hb hby at_82)
  have V39 : Arv Z h39 b3 k3 (.object "com/example/wherry/wherry/protocol/ApiKey") (14 : Int32) [(.ref w4), (.ref w7), (.ref w10), (.ref w13), (.ref w16), (.ref w19), (.ref w22), (.ref w25), (.ref w28), (.ref w31), (.ref w34), (.ref w37), .null, .null] .null := Arv.set Ar39 q39 S39 Z39 H39 G39 (v := .ref w37) rfl W39 11 rfl (by show 11 < 14; decide)
  have N39 := Fr.snoc X39 N36 g_b3
  have K39 : Keep h0 h39 [] := K36.wr W39 (Or.inr sz_b3)
  obtain ⟨T41, X41, e41, st41⟩ := getS2 X39 hx hZ hown (host := "") (Or.inl (hw _ (List.mem_of_getElem? (i := 28) rfl))) Via.refl e39 (own_sta K39 S_LIST_GROUPS) (g := (mkF m 86 #[.val (.int p1), .val (.int p2), .unset, .unset, .unset, .unset] [(.int (12 : Int32)), (.ref b3), (.ref b3)])) rfl (hb hby at_86)
  obtain ⟨cl42, Ar42, q42, S42, Z42, H42, G42⟩ := V39
  obtain ⟨T42, h42, X42, e42, W42, st42⟩ := stR X41 hx hZ e41 Ar42 (j := (12 : Int32)) (inb_of S42 ⟨by decide, by decide⟩) rfl (Sto.ofV Ar42 q42 O3 (Ins.self (E_w40.keep K39))) (g := (mkF m 89 #[.val (.int p1), .val (.int p2), .unset, .unset, .unset, .unset] [(.ref w40), (.int (12 : Int32)), (.ref b3), (.ref b3)])) rfl rfl (hb hby at_89)
  have V42 : Arv Z h42 b3 k3 (.object "com/example/wherry/wherry/protocol/ApiKey") (14 : Int32) [(.ref w4), (.ref w7), (.ref w10), (.ref w13), (.ref w16), (.ref w19), (.ref w22), (.ref w25), (.ref w28), (.ref w31), (.ref w34), (.ref w37), (.ref w40), .null] .null := Arv.set Ar42 q42 S42 Z42 H42 G42 (v := .ref w40) rfl W42 12 rfl (by show 12 < 14; decide)
  have N42 := Fr.snoc X42 N39 g_b3
  have K42 : Keep h0 h42 [] := K39.wr W42 (Or.inr sz_b3)
  obtain ⟨T44, X44, e44, st44⟩ := getS2 X42 hx hZ hown (host := "") (Or.inl (hw _ (List.mem_of_getElem? (i := 30) rfl))) Via.refl e42 (own_sta K42 S_API_VERSIONS) (g := (mkF m 93 #[.val (.int p1), .val (.int p2), .unset, .unset, .unset, .unset] [(.int (13 : Int32)), (.ref b3), (.ref b3)])) rfl (hb hby at_93)
  obtain ⟨cl45, Ar45, q45, S45, Z45, H45, G45⟩ := V42
  obtain ⟨T45, h45, X45, e45, W45, st45⟩ := stR X44 hx hZ e44 Ar45 (j := (13 : Int32)) (inb_of S45 ⟨by decide, by decide⟩) rfl (Sto.ofV Ar45 q45 O3 (Ins.self (E_w43.keep K42))) (g := (mkF m 96 #[.val (.int p1), .val (.int p2), .unset, .unset, .unset, .unset] [(.ref w43), (.int (13 : Int32)), (.ref b3), (.ref b3)])) rfl rfl (hb hby at_96)
  have V45 : Arv Z h45 b3 k3 (.object "com/example/wherry/wherry/protocol/ApiKey") (14 : Int32) [(.ref w4), (.ref w7), (.ref w10), (.ref w13), (.ref w16), (.ref w19), (.ref w22), (.ref w25), (.ref w28), (.ref w31), (.ref w34), (.ref w37), (.ref w40), (.ref w43)] .null := Arv.set Ar45 q45 S45 Z45 H45 G45 (v := .ref w43) rfl W45 13 rfl (by show 13 < 14; decide)
  have N45 := Fr.snoc X45 N42 g_b3
  have K45 : Keep h0 h45 [] := K42.wr W45 (Or.inr sz_b3)
  obtain ⟨cl_b3, Ar_b3, q_b3, S_b3, Z_b3, H_b3, G_b3⟩ := V45
  have hin106 := inb_of S_b3 hj
  have hat106 := H_b3.at hin106 hget
  obtain ⟨T47, X47, e47, st47⟩ := getS2 X45 hx hZ hown (host := "") (Or.inl (hw _ (List.mem_of_getElem? (i := 30) rfl))) Via.refl e45 (own_sta K45 S_API_VERSIONS) (g := (mkF m 113 #[.val (.int p1), .val (.int p2), .val (.ref b3), .val (.ref w46), .val (.int (p2.toInt16.toInt32)), .unset] [(.ref w46)])) rfl (hb hby at_113)
  obtain ⟨cq48, kq48, q48a, q48b, q48c⟩ := isOf hZ e47 (((((((((((((((E_w46.ext E3).wr W6).wr W9).wr W12).wr W15).wr W18).wr W21).wr W24).wr W27).wr W30).wr W33).wr W36).wr W39).wr W42).wr W45)
  obtain ⟨_, _, ⟨T48, L48, k48, n48⟩, -, X48, ⟨Lc48, hQ48, l48, y48, z48⟩, st48⟩ := X47.virtualBack hx (y := (⟨"com/example/wherry/wherry/protocol/ApiKey", "isFlexible", "(S)Z"⟩ : MethodName)) (z := (⟨"com/example/wherry/wherry/protocol/ApiKey", "isFlexible", "(S)Z"⟩ : MethodName)) hown (mvT hZ (hw _ (List.mem_of_getElem? (i := 33) rfl))) (mvT hZ (hw _ (List.mem_of_getElem? (i := 34) rfl))) (notFace_of_selects (args := #[]) (mvT hZ (hw _ (List.mem_of_getElem? (i := 36) rfl)))) (mvT hZ (hw _ (List.mem_of_getElem? (i := 36) rfl))) (mvT hZ (hw _ (List.mem_of_getElem? (i := 35) rfl))) (by decide) (backOf (W := 0) (rm1t l Z a0 hw [] w46 (p2.toInt16.toInt32) f7 m7 h45 n0 (Nat.le_trans Z0 K45.1) (Ff.keep K45 nin0) (Fm.keep K45 nin0) hmf) hZ (hw _ (List.mem_of_getElem? (i := 37) rfl)) (hw _ (List.mem_of_getElem? (i := 3) rfl)) (by decide) (by decide)) q48a q48c (g := (mkF m 135 #[.val (.int p1), .val (.int p2), .val (.ref b3), .val (.ref w46), .val (.int (p2.toInt16.toInt32)), .val (.int (0 : Int32))] [(.int (p2.toInt16.toInt32)), (.ref w46)])) rfl (by rw [hml]; rfl) (Steps.refl _) (argsL := [(.int (p2.toInt16.toInt32))]) (rest := []) (lenOf pda_0_0 rfl) rfl (by show 2 * 0 + _ ≤ _; exact Nat.le_of_eq rfl) (hb hby at_135) (fun _ _ => ⟨rfl, e47, (by decide : 1 + 0 ≤ _), (by decide : 14 + 0 ≤ _)⟩)
  dsimp only [Pt.U, Pt.locs, Pt.cells, Pt.slots] at X48 l48 y48 z48 st48 hQ48
  subst l48 y48 z48
  obtain ⟨rfl, N48q, eh48⟩ := hQ48
  have N48 := Fr.app N45 N48q
  obtain ⟨fs, hr, hrun, hended, hW, hsame⟩ := X48.leave (v := some (.int (1 : Int32))) (fun h => by rw [Bd.returns] at h; cases h)
  refine ⟨_, _, pre0 _ ?_, hrun, hended, _, _, rfl, ?_, ⟨_, rfl⟩, hW, hsame.mono (by decide) (by decide)⟩
  · show Steps p.tables e below (s₁.setTop (mkF m 0 #[.val (.int p1), .val (.int p2), .unset, .unset, .unset, .unset] [])) _
    refine XS.bipush X0.here hx rfl (hb hby at_0) ?_
    show Steps p.tables e below (s₁.setTop (mkF m 2 #[.val (.int p1), .val (.int p2), .unset, .unset, .unset, .unset] [(.int (14 : Int32))])) _
    refine st3 _ ?_
    show Steps p.tables e below (T3.setTop (mkF m 5 #[.val (.int p1), .val (.int p2), .unset, .unset, .unset, .unset] [(.ref b3)])) _
    refine XS.dup X3.here hx rfl (hb hby at_5) rfl rfl ?_
    show Steps p.tables e below (T3.setTop (mkF m 6 #[.val (.int p1), .val (.int p2), .unset, .unset, .unset, .unset] [(.ref b3), (.ref b3)])) _
    refine XS.iconst X3.here hx rfl (hb hby at_6) ?_
    show Steps p.tables e below (T3.setTop (mkF m 7 #[.val (.int p1), .val (.int p2), .unset, .unset, .unset, .unset] [(.int (0 : Int32)), (.ref b3), (.ref b3)])) _
    refine st5 _ ?_
    show Steps p.tables e below (T5.setTop (mkF m 10 #[.val (.int p1), .val (.int p2), .unset, .unset, .unset, .unset] [(.ref w4), (.int (0 : Int32)), (.ref b3), (.ref b3)])) _
    refine st6 _ ?_
    show Steps p.tables e below (T6.setTop (mkF m 11 #[.val (.int p1), .val (.int p2), .unset, .unset, .unset, .unset] [(.ref b3)])) _
    refine XS.dup X6.here hx rfl (hb hby at_11) rfl rfl ?_
    show Steps p.tables e below (T6.setTop (mkF m 12 #[.val (.int p1), .val (.int p2), .unset, .unset, .unset, .unset] [(.ref b3), (.ref b3)])) _
    refine XS.iconst X6.here hx rfl (hb hby at_12) ?_
    show Steps p.tables e below (T6.setTop (mkF m 13 #[.val (.int p1), .val (.int p2), .unset, .unset, .unset, .unset] [(.int (1 : Int32)), (.ref b3), (.ref b3)])) _
    refine st8 _ ?_
    show Steps p.tables e below (T8.setTop (mkF m 16 #[.val (.int p1), .val (.int p2), .unset, .unset, .unset, .unset] [(.ref w7), (.int (1 : Int32)), (.ref b3), (.ref b3)])) _
    refine st9 _ ?_
    show Steps p.tables e below (T9.setTop (mkF m 17 #[.val (.int p1), .val (.int p2), .unset, .unset, .unset, .unset] [(.ref b3)])) _
    refine XS.dup X9.here hx rfl (hb hby at_17) rfl rfl ?_
    show Steps p.tables e below (T9.setTop (mkF m 18 #[.val (.int p1), .val (.int p2), .unset, .unset, .unset, .unset] [(.ref b3), (.ref b3)])) _
    refine XS.iconst X9.here hx rfl (hb hby at_18) ?_
    show Steps p.tables e below (T9.setTop (mkF m 19 #[.val (.int p1), .val (.int p2), .unset, .unset, .unset, .unset] [(.int (2 : Int32)), (.ref b3), (.ref b3)])) _
    refine st11 _ ?_
    show Steps p.tables e below (T11.setTop (mkF m 22 #[.val (.int p1), .val (.int p2), .unset, .unset, .unset, .unset] [(.ref w10), (.int (2 : Int32)), (.ref b3), (.ref b3)])) _
    refine st12 _ ?_
    show Steps p.tables e below (T12.setTop (mkF m 23 #[.val (.int p1), .val (.int p2), .unset, .unset, .unset, .unset] [(.ref b3)])) _
    refine XS.dup X12.here hx rfl (hb hby at_23) rfl rfl ?_
    show Steps p.tables e below (T12.setTop (mkF m 24 #[.val (.int p1), .val (.int p2), .unset, .unset, .unset, .unset] [(.ref b3), (.ref b3)])) _
    refine XS.iconst X12.here hx rfl (hb hby at_24) ?_
    show Steps p.tables e below (T12.setTop (mkF m 25 #[.val (.int p1), .val (.int p2), .unset, .unset, .unset, .unset] [(.int (3 : Int32)), (.ref b3), (.ref b3)])) _
    refine st14 _ ?_
    show Steps p.tables e below (T14.setTop (mkF m 28 #[.val (.int p1), .val (.int p2), .unset, .unset, .unset, .unset] [(.ref w13), (.int (3 : Int32)), (.ref b3), (.ref b3)])) _
    refine st15 _ ?_
    show Steps p.tables e below (T15.setTop (mkF m 29 #[.val (.int p1), .val (.int p2), .unset, .unset, .unset, .unset] [(.ref b3)])) _
    refine XS.dup X15.here hx rfl (hb hby at_29) rfl rfl ?_
    show Steps p.tables e below (T15.setTop (mkF m 30 #[.val (.int p1), .val (.int p2), .unset, .unset, .unset, .unset] [(.ref b3), (.ref b3)])) _
    refine XS.iconst X15.here hx rfl (hb hby at_30) ?_
    show Steps p.tables e below (T15.setTop (mkF m 31 #[.val (.int p1), .val (.int p2), .unset, .unset, .unset, .unset] [(.int (4 : Int32)), (.ref b3), (.ref b3)])) _
    refine st17 _ ?_
    show Steps p.tables e below (T17.setTop (mkF m 34 #[.val (.int p1), .val (.int p2), .unset, .unset, .unset, .unset] [(.ref w16), (.int (4 : Int32)), (.ref b3), (.ref b3)])) _
    refine st18 _ ?_
    show Steps p.tables e below (T18.setTop (mkF m 35 #[.val (.int p1), .val (.int p2), .unset, .unset, .unset, .unset] [(.ref b3)])) _
    refine XS.dup X18.here hx rfl (hb hby at_35) rfl rfl ?_
    show Steps p.tables e below (T18.setTop (mkF m 36 #[.val (.int p1), .val (.int p2), .unset, .unset, .unset, .unset] [(.ref b3), (.ref b3)])) _
    refine XS.iconst X18.here hx rfl (hb hby at_36) ?_
    show Steps p.tables e below (T18.setTop (mkF m 37 #[.val (.int p1), .val (.int p2), .unset, .unset, .unset, .unset] [(.int (5 : Int32)), (.ref b3), (.ref b3)])) _
    refine st20 _ ?_
    show Steps p.tables e below (T20.setTop (mkF m 40 #[.val (.int p1), .val (.int p2), .unset, .unset, .unset, .unset] [(.ref w19), (.int (5 : Int32)), (.ref b3), (.ref b3)])) _
    refine st21 _ ?_
    show Steps p.tables e below (T21.setTop (mkF m 41 #[.val (.int p1), .val (.int p2), .unset, .unset, .unset, .unset] [(.ref b3)])) _
    refine XS.dup X21.here hx rfl (hb hby at_41) rfl rfl ?_
    show Steps p.tables e below (T21.setTop (mkF m 42 #[.val (.int p1), .val (.int p2), .unset, .unset, .unset, .unset] [(.ref b3), (.ref b3)])) _
    refine XS.bipush X21.here hx rfl (hb hby at_42) ?_
    show Steps p.tables e below (T21.setTop (mkF m 44 #[.val (.int p1), .val (.int p2), .unset, .unset, .unset, .unset] [(.int (6 : Int32)), (.ref b3), (.ref b3)])) _
    refine st23 _ ?_
    show Steps p.tables e below (T23.setTop (mkF m 47 #[.val (.int p1), .val (.int p2), .unset, .unset, .unset, .unset] [(.ref w22), (.int (6 : Int32)), (.ref b3), (.ref b3)])) _
    refine st24 _ ?_
    show Steps p.tables e below (T24.setTop (mkF m 48 #[.val (.int p1), .val (.int p2), .unset, .unset, .unset, .unset] [(.ref b3)])) _
    refine XS.dup X24.here hx rfl (hb hby at_48) rfl rfl ?_
    show Steps p.tables e below (T24.setTop (mkF m 49 #[.val (.int p1), .val (.int p2), .unset, .unset, .unset, .unset] [(.ref b3), (.ref b3)])) _
    refine XS.bipush X24.here hx rfl (hb hby at_49) ?_
    show Steps p.tables e below (T24.setTop (mkF m 51 #[.val (.int p1), .val (.int p2), .unset, .unset, .unset, .unset] [(.int (7 : Int32)), (.ref b3), (.ref b3)])) _
    refine st26 _ ?_
    show Steps p.tables e below (T26.setTop (mkF m 54 #[.val (.int p1), .val (.int p2), .unset, .unset, .unset, .unset] [(.ref w25), (.int (7 : Int32)), (.ref b3), (.ref b3)])) _
    refine st27 _ ?_
    show Steps p.tables e below (T27.setTop (mkF m 55 #[.val (.int p1), .val (.int p2), .unset, .unset, .unset, .unset] [(.ref b3)])) _
    refine XS.dup X27.here hx rfl (hb hby at_55) rfl rfl ?_
    show Steps p.tables e below (T27.setTop (mkF m 56 #[.val (.int p1), .val (.int p2), .unset, .unset, .unset, .unset] [(.ref b3), (.ref b3)])) _
    refine XS.bipush X27.here hx rfl (hb hby at_56) ?_
    show Steps p.tables e below (T27.setTop (mkF m 58 #[.val (.int p1), .val (.int p2), .unset, .unset, .unset, .unset] [(.int (8 : Int32)), (.ref b3), (.ref b3)])) _
    refine st29 _ ?_
    show Steps p.tables e below (T29.setTop (mkF m 61 #[.val (.int p1), .val (.int p2), .unset, .unset, .unset, .unset] [(.ref w28), (.int (8 : Int32)), (.ref b3), (.ref b3)])) _
    refine st30 _ ?_
    show Steps p.tables e below (T30.setTop (mkF m 62 #[.val (.int p1), .val (.int p2), .unset, .unset, .unset, .unset] [(.ref b3)])) _
    refine XS.dup X30.here hx rfl (hb hby at_62) rfl rfl ?_
    show Steps p.tables e below (T30.setTop (mkF m 63 #[.val (.int p1), .val (.int p2), .unset, .unset, .unset, .unset] [(.ref b3), (.ref b3)])) _
    refine XS.bipush X30.here hx rfl (hb hby at_63) ?_
    show Steps p.tables e below (T30.setTop (mkF m 65 #[.val (.int p1), .val (.int p2), .unset, .unset, .unset, .unset] [(.int (9 : Int32)), (.ref b3), (.ref b3)])) _
    refine st32 _ ?_
    show Steps p.tables e below (T32.setTop (mkF m 68 #[.val (.int p1), .val (.int p2), .unset, .unset, .unset, .unset] [(.ref w31), (.int (9 : Int32)), (.ref b3), (.ref b3)])) _
    refine st33 _ ?_
    show Steps p.tables e below (T33.setTop (mkF m 69 #[.val (.int p1), .val (.int p2), .unset, .unset, .unset, .unset] [(.ref b3)])) _
    refine XS.dup X33.here hx rfl (hb hby at_69) rfl rfl ?_
    show Steps p.tables e below (T33.setTop (mkF m 70 #[.val (.int p1), .val (.int p2), .unset, .unset, .unset, .unset] [(.ref b3), (.ref b3)])) _
    refine XS.bipush X33.here hx rfl (hb hby at_70) ?_
    show Steps p.tables e below (T33.setTop (mkF m 72 #[.val (.int p1), .val (.int p2), .unset, .unset, .unset, .unset] [(.int (10 : Int32)), (.ref b3), (.ref b3)])) _
    refine st35 _ ?_
    show Steps p.tables e below (T35.setTop (mkF m 75 #[.val (.int p1), .val (.int p2), .unset, .unset, .unset, .unset] [(.ref w34), (.int (10 : Int32)), (.ref b3), (.ref b3)])) _
    refine st36 _ ?_
    show Steps p.tables e below (T36.setTop (mkF m 76 #[.val (.int p1), .val (.int p2), .unset, .unset, .unset, .unset] [(.ref b3)])) _
    refine XS.dup X36.here hx rfl (hb hby at_76) rfl rfl ?_
    show Steps p.tables e below (T36.setTop (mkF m 77 #[.val (.int p1), .val (.int p2), .unset, .unset, .unset, .unset] [(.ref b3), (.ref b3)])) _
    refine XS.bipush X36.here hx rfl (hb hby at_77) ?_
    show Steps p.tables e below (T36.setTop (mkF m 79 #[.val (.int p1), .val (.int p2), .unset, .unset, .unset, .unset] [(.int (11 : Int32)), (.ref b3), (.ref b3)])) _
    refine st38 _ ?_
    show Steps p.tables e below (T38.setTop (mkF m 82 #[.val (.int p1), .val (.int p2), .unset, .unset, .unset, .unset] [(.ref w37), (.int (11 : Int32)), (.ref b3), (.ref b3)])) _
    refine st39 _ ?_
    show Steps p.tables e below (T39.setTop (mkF m 83 #[.val (.int p1), .val (.int p2), .unset, .unset, .unset, .unset] [(.ref b3)])) _
    refine XS.dup X39.here hx rfl (hb hby at_83) rfl rfl ?_
    show Steps p.tables e below (T39.setTop (mkF m 84 #[.val (.int p1), .val (.int p2), .unset, .unset, .unset, .unset] [(.ref b3), (.ref b3)])) _
    refine XS.bipush X39.here hx rfl (hb hby at_84) ?_
    show Steps p.tables e below (T39.setTop (mkF m 86 #[.val (.int p1), .val (.int p2), .unset, .unset, .unset, .unset] [(.int (12 : Int32)), (.ref b3), (.ref b3)])) _
    refine st41 _ ?_
    show Steps p.tables e below (T41.setTop (mkF m 89 #[.val (.int p1), .val (.int p2), .unset, .unset, .unset, .unset] [(.ref w40), (.int (12 : Int32)), (.ref b3), (.ref b3)])) _
    refine st42 _ ?_
    show Steps p.tables e below (T42.setTop (mkF m 90 #[.val (.int p1), .val (.int p2), .unset, .unset, .unset, .unset] [(.ref b3)])) _
    refine XS.dup X42.here hx rfl (hb hby at_90) rfl rfl ?_
    show Steps p.tables e below (T42.setTop (mkF m 91 #[.val (.int p1), .val (.int p2), .unset, .unset, .unset, .unset] [(.ref b3), (.ref b3)])) _
    refine XS.bipush X42.here hx rfl (hb hby at_91) ?_
    show Steps p.tables e below (T42.setTop (mkF m 93 #[.val (.int p1), .val (.int p2), .unset, .unset, .unset, .unset] [(.int (13 : Int32)), (.ref b3), (.ref b3)])) _
    refine st44 _ ?_
    show Steps p.tables e below (T44.setTop (mkF m 96 #[.val (.int p1), .val (.int p2), .unset, .unset, .unset, .unset] [(.ref w43), (.int (13 : Int32)), (.ref b3), (.ref b3)])) _
    refine st45 _ ?_
    show Steps p.tables e below (T45.setTop (mkF m 97 #[.val (.int p1), .val (.int p2), .unset, .unset, .unset, .unset] [(.ref b3)])) _
    refine XS.astoreN X45.here hx rfl (hb hby at_97) rfl rfl (l' := #[.val (.int p1), .val (.int p2), .val (.ref b3), .unset, .unset, .unset]) rfl ?_
    show Steps p.tables e below (T45.setTop (mkF m 98 #[.val (.int p1), .val (.int p2), .val (.ref b3), .unset, .unset, .unset] [])) _
    refine XS.aloadN X45.here hx rfl (hb hby at_98) rfl rfl ?_
    show Steps p.tables e below (T45.setTop (mkF m 99 #[.val (.int p1), .val (.int p2), .val (.ref b3), .unset, .unset, .unset] [(.ref b3)])) _
    refine XS.iloadN X45.here hx rfl (hb hby at_99) rfl ?_
    show Steps p.tables e below (T45.setTop (mkF m 100 #[.val (.int p1), .val (.int p2), .val (.ref b3), .unset, .unset, .unset] [(.int p1), (.ref b3)])) _
    refine X45.ldcInt hx hown (mvT hZ (hw _ (List.mem_of_getElem? (i := 32) rfl))) (g := (mkF m 100 #[.val (.int p1), .val (.int p2), .val (.ref b3), .unset, .unset, .unset] [(.int p1), (.ref b3)])) rfl (hb hby at_100) _ ?_
    show Steps p.tables e below (T45.setTop (mkF m 102 #[.val (.int p1), .val (.int p2), .val (.ref b3), .unset, .unset, .unset] [(.int (2147483647 : Int32)), (.int p1), (.ref b3)])) _
    refine XS.iand X45.here hx rfl (hb hby at_102) rfl ?_
    show Steps p.tables e below (T45.setTop (mkF m 103 #[.val (.int p1), .val (.int p2), .val (.ref b3), .unset, .unset, .unset] [(.int (p1 &&& (2147483647 : Int32))), (.ref b3)])) _
    refine XS.bipush X45.here hx rfl (hb hby at_103) ?_
    show Steps p.tables e below (T45.setTop (mkF m 105 #[.val (.int p1), .val (.int p2), .val (.ref b3), .unset, .unset, .unset] [(.int (14 : Int32)), (.int (p1 &&& (2147483647 : Int32))), (.ref b3)])) _
    refine iremM X45 hx rfl (hb hby at_105) rfl (by decide) ?_
    show Steps p.tables e below (T45.setTop (mkF m 106 #[.val (.int p1), .val (.int p2), .val (.ref b3), .unset, .unset, .unset] [(.int ((p1 &&& (2147483647 : Int32)) % (14 : Int32))), (.ref b3)])) _
    refine X45.aaload hx (j := ((p1 &&& (2147483647 : Int32)) % (14 : Int32))) (v := (.ref w46)) (by rw [e45]; exact Ar_b3.1) (State.isArrayOf_alike hZ.alike Ar_b3.2.1) rfl Ar_b3.2.2 hin106 hat106 (g := (mkF m 106 #[.val (.int p1), .val (.int p2), .val (.ref b3), .unset, .unset, .unset] [(.int ((p1 &&& (2147483647 : Int32)) % (14 : Int32))), (.ref b3)])) rfl rfl (hb hby at_106) _ ?_
    show Steps p.tables e below (T45.setTop (mkF m 107 #[.val (.int p1), .val (.int p2), .val (.ref b3), .unset, .unset, .unset] [(.ref w46)])) _
    refine XS.astoreN X45.here hx rfl (hb hby at_107) rfl rfl (l' := #[.val (.int p1), .val (.int p2), .val (.ref b3), .val (.ref w46), .unset, .unset]) rfl ?_
    show Steps p.tables e below (T45.setTop (mkF m 108 #[.val (.int p1), .val (.int p2), .val (.ref b3), .val (.ref w46), .unset, .unset] [])) _
    refine XS.iloadN X45.here hx rfl (hb hby at_108) rfl ?_
    show Steps p.tables e below (T45.setTop (mkF m 109 #[.val (.int p1), .val (.int p2), .val (.ref b3), .val (.ref w46), .unset, .unset] [(.int p2)])) _
    refine XS.i2s X45.here hx rfl (hb hby at_109) rfl ?_
    show Steps p.tables e below (T45.setTop (mkF m 110 #[.val (.int p1), .val (.int p2), .val (.ref b3), .val (.ref w46), .unset, .unset] [(.int (p2.toInt16.toInt32))])) _
    refine XS.istore X45.here hx rfl (hb hby at_110) rfl (l' := #[.val (.int p1), .val (.int p2), .val (.ref b3), .val (.ref w46), .val (.int (p2.toInt16.toInt32)), .unset]) rfl ?_
    show Steps p.tables e below (T45.setTop (mkF m 112 #[.val (.int p1), .val (.int p2), .val (.ref b3), .val (.ref w46), .val (.int (p2.toInt16.toInt32)), .unset] [])) _
    refine XS.aloadN X45.here hx rfl (hb hby at_112) rfl rfl ?_
    show Steps p.tables e below (T45.setTop (mkF m 113 #[.val (.int p1), .val (.int p2), .val (.ref b3), .val (.ref w46), .val (.int (p2.toInt16.toInt32)), .unset] [(.ref w46)])) _
    refine st47 _ ?_
    show Steps p.tables e below (T47.setTop (mkF m 116 #[.val (.int p1), .val (.int p2), .val (.ref b3), .val (.ref w46), .val (.int (p2.toInt16.toInt32)), .unset] [(.ref w43), (.ref w46)])) _
    refine Jvm.RoadKit.acmp (g := (mkF m 116 #[.val (.int p1), .val (.int p2), .val (.ref b3), .val (.ref w46), .val (.int (p2.toInt16.toInt32)), .unset] [(.ref w43), (.ref w46)])) X47 hx rfl rfl rfl (pc0 := 116) (pc' := 129) (same := false) rfl (hb hby at_116) rfl (decide_eq_false fun q => ha116 (Value.ref.inj q)) (by decide) (by decide) ?_
    show Steps p.tables e below (T47.setTop (mkF m 129 #[.val (.int p1), .val (.int p2), .val (.ref b3), .val (.ref w46), .val (.int (p2.toInt16.toInt32)), .unset] [])) _
    refine XS.iconst X47.here hx rfl (hb hby at_129) ?_
    show Steps p.tables e below (T47.setTop (mkF m 130 #[.val (.int p1), .val (.int p2), .val (.ref b3), .val (.ref w46), .val (.int (p2.toInt16.toInt32)), .unset] [(.int (0 : Int32))])) _
    refine XS.istore X47.here hx rfl (hb hby at_130) rfl (l' := #[.val (.int p1), .val (.int p2), .val (.ref b3), .val (.ref w46), .val (.int (p2.toInt16.toInt32)), .val (.int (0 : Int32))]) rfl ?_
    show Steps p.tables e below (T47.setTop (mkF m 132 #[.val (.int p1), .val (.int p2), .val (.ref b3), .val (.ref w46), .val (.int (p2.toInt16.toInt32)), .val (.int (0 : Int32))] [])) _
    refine XS.aloadN X47.here hx rfl (hb hby at_132) rfl rfl ?_
    show Steps p.tables e below (T47.setTop (mkF m 133 #[.val (.int p1), .val (.int p2), .val (.ref b3), .val (.ref w46), .val (.int (p2.toInt16.toInt32)), .val (.int (0 : Int32))] [(.ref w46)])) _
    refine XS.iload X47.here hx rfl (hb hby at_133) rfl ?_
    show Steps p.tables e below (T47.setTop (mkF m 135 #[.val (.int p1), .val (.int p2), .val (.ref b3), .val (.ref w46), .val (.int (p2.toInt16.toInt32)), .val (.int (0 : Int32))] [(.int (p2.toInt16.toInt32)), (.ref w46)])) _
    refine st48.trans ?_
    show Steps p.tables e below (T48.setTop (mkF m 138 #[.val (.int p1), .val (.int p2), .val (.ref b3), .val (.ref w46), .val (.int (p2.toInt16.toInt32)), .val (.int (0 : Int32))] [(.int (0 : Int32))])) _
    refine XS.iload X48.here hx rfl (hb hby at_138) rfl ?_
    show Steps p.tables e below (T48.setTop (mkF m 140 #[.val (.int p1), .val (.int p2), .val (.ref b3), .val (.ref w46), .val (.int (p2.toInt16.toInt32)), .val (.int (0 : Int32))] [(.int (0 : Int32)), (.int (0 : Int32))])) _
    refine XS.icmpNo X48.here hx rfl (hb hby at_140) rfl (teq (rfl : (0 : Int32) = (0 : Int32))).2 ?_
    show Steps p.tables e below (T48.setTop (mkF m 143 #[.val (.int p1), .val (.int p2), .val (.ref b3), .val (.ref w46), .val (.int (p2.toInt16.toInt32)), .val (.int (0 : Int32))] [])) _
    refine XS.iconst X48.here hx rfl (hb hby at_143) ?_
    show Steps p.tables e below (T48.setTop (mkF m 144 #[.val (.int p1), .val (.int p2), .val (.ref b3), .val (.ref w46), .val (.int (p2.toInt16.toInt32)), .val (.int (0 : Int32))] [(.int (1 : Int32))])) _
    refine XS.goto X48.here hx rfl (pc0 := 144) (pc' := 148) rfl (hb hby at_144) (by decide) (by decide) ?_
    show Steps p.tables e below (T48.setTop (mkF m 148 #[.val (.int p1), .val (.int p2), .val (.ref b3), .val (.ref w46), .val (.int (p2.toInt16.toInt32)), .val (.int (0 : Int32))] [(.int (1 : Int32))])) _
    exact retN X48 hx (t := .boolean) Bd.returns (by simp) (hb hby at_148) hr
  · show Q0a Z p1 p2 w4 w7 w10 w13 w16 w19 w22 w25 w28 w31 w34 w37 w40 w43 w46 h0 n0 _ T48.heap _
    exact ⟨rfl, N48⟩
theorem pdb_0_0 : parseMethodDescriptor "(S)Z" = some ⟨[.short], some .boolean⟩ := by decide +kernel
def Q0b (Z : State) (p1 : Int32) (p2 : Int32) (w4 : Addr) (w7 : Addr) (w10 : Addr) (w13 : Addr) (w16 : Addr) (w19 : Addr) (w22 : Addr) (w25 : Addr) (w28 : Addr) (w31 : Addr) (w34 : Addr) (w37 : Addr) (w40 : Addr) (w43 : Addr) (w46 : Addr) (h0 : Heap) (n0 : Nat) (v : Option Value) (h : Heap) (L : List Loc) : Prop := v = some (.int (1 : Int32)) ∧ Fr n0 L
set_option maxRecDepth 65536 in
set_option maxHeartbeats 40000000 in
theorem rm0b (l : Launch) (Z : State) (a0 : Array Value) (hw : ∀ d ∈ tables_1, d.before a0 Z = true) (ws : List Jvm.Cond) (p1 : Int32) (p2 : Int32) (w4 : Addr) (w7 : Addr) (w10 : Addr) (w13 : Addr) (w16 : Addr) (w19 : Addr) (w22 : Addr) (w25 : Addr) (w28 : Addr) (w31 : Addr) (w34 : Addr) (w37 : Addr) (w40 : Addr) (w43 : Addr) (w46 : Addr) (h0 : Heap) (n0 : Nat) (Z0 : n0 ≤ h0.size) (S_PRODUCE : Sta Z h0 "com/example/wherry/wherry/protocol/ApiKey" "PRODUCE" "Lcom/example/wherry/wherry/protocol/ApiKey;" (.ref w4)) (E_w4 : Exa Z h0 w4 "com/example/wherry/wherry/protocol/ApiKey") (S_FETCH : Sta Z h0 "com/example/wherry/wherry/protocol/ApiKey" "FETCH" "Lcom/example/wherry/wherry/protocol/ApiKey;" (.ref w7)) (E_w7 : Exa Z h0 w7 "com/example/wherry/wherry/protocol/ApiKey") (S_OFFSETS : Sta Z h0 "com/example/wherry/wherry/protocol/ApiKey" "OFFSETS" "Lcom/example/wherry/wherry/protocol/ApiKey;" (.ref w10)) (E_w10 : Exa Z h0 w10 "com/example/wherry/wherry/protocol/ApiKey") (S_METADATA : Sta Z h0 "com/example/wherry/wherry/protocol/ApiKey" "METADATA" "Lcom/example/wherry/wherry/protocol/ApiKey;" (.ref w13)) (E_w13 : Exa Z h0 w13 "com/example/wherry/wherry/protocol/ApiKey") (S_OFFSET_COMMIT : Sta Z h0 "com/example/wherry/wherry/protocol/ApiKey" "OFFSET_COMMIT" "Lcom/example/wherry/wherry/protocol/ApiKey;" (.ref w16)) (E_w16 : Exa Z h0 w16 "com/example/wherry/wherry/protocol/ApiKey") (S_OFFSET_FETCH : Sta Z h0 "com/example/wherry/wherry/protocol/ApiKey" "OFFSET_FETCH" "Lcom/example/wherry/wherry/protocol/ApiKey;" (.ref w19)) (E_w19 : Exa Z h0 w19 "com/example/wherry/wherry/protocol/ApiKey") (S_GROUP_COORDINATOR : Sta Z h0 "com/example/wherry/wherry/protocol/ApiKey" "GROUP_COORDINATOR" "Lcom/example/wherry/wherry/protocol/ApiKey;" (.ref w22)) (E_w22 : Exa Z h0 w22 "com/example/wherry/wherry/protocol/ApiKey") (S_JOIN_GROUP : Sta Z h0 "com/example/wherry/wherry/protocol/ApiKey" "JOIN_GROUP" "Lcom/example/wherry/wherry/protocol/ApiKey;" (.ref w25)) (E_w25 : Exa Z h0 w25 "com/example/wherry/wherry/protocol/ApiKey") (S_HEARTBEAT : Sta Z h0 "com/example/wherry/wherry/protocol/ApiKey" "HEARTBEAT" "Lcom/example/wherry/wherry/protocol/ApiKey;" (.ref w28)) (E_w28 : Exa Z h0 w28 "com/example/wherry/wherry/protocol/ApiKey") (S_LEAVE_GROUP : Sta Z h0 "com/example/wherry/wherry/protocol/ApiKey" "LEAVE_GROUP" "Lcom/example/wherry/wherry/protocol/ApiKey;" (.ref w31)) (E_w31 : Exa Z h0 w31 "com/example/wherry/wherry/protocol/ApiKey") (S_SYNC_GROUP : Sta Z h0 "com/example/wherry/wherry/protocol/ApiKey" "SYNC_GROUP" "Lcom/example/wherry/wherry/protocol/ApiKey;" (.ref w34)) (E_w34 : Exa Z h0 w34 "com/example/wherry/wherry/protocol/ApiKey") (S_DESCRIBE_GROUPS : Sta Z h0 "com/example/wherry/wherry/protocol/ApiKey" "DESCRIBE_GROUPS" "Lcom/example/wherry/wherry/protocol/ApiKey;" (.ref w37)) (E_w37 : Exa Z h0 w37 "com/example/wherry/wherry/protocol/ApiKey") (S_LIST_GROUPS : Sta Z h0 "com/example/wherry/wherry/protocol/ApiKey" "LIST_GROUPS" "Lcom/example/wherry/wherry/protocol/ApiKey;" (.ref w40)) (E_w40 : Exa Z h0 w40 "com/example/wherry/wherry/protocol/ApiKey") (S_API_VERSIONS : Sta Z h0 "com/example/wherry/wherry/protocol/ApiKey" "API_VERSIONS" "Lcom/example/wherry/wherry/protocol/ApiKey;" (.ref w43)) (E_w43 : Exa Z h0 w43 "com/example/wherry/wherry/protocol/ApiKey") (hj : ¬ ((p1 &&& (2147483647 : Int32)) % (14 : Int32)) < 0 ∧ ((p1 &&& (2147483647 : Int32)) % (14 : Int32)) < 14) (hget : ([(.ref w4), (.ref w7), (.ref w10), (.ref w13), (.ref w16), (.ref w19), (.ref w22), (.ref w25), (.ref w28), (.ref w31), (.ref w34), (.ref w37), (.ref w40), (.ref w43)] : List Value).getD ((p1 &&& (2147483647 : Int32)) % (14 : Int32)).toNatClampNeg .null = .ref w46) (Ff : Fld Z h0 w46 "com/example/wherry/wherry/protocol/ApiKey" "firstFlexibleVersion" "S" (.int (3 : Int32))) (Fm : Fld Z h0 w46 "com/example/wherry/wherry/protocol/ApiKey" "maxVersion" "S" (.int (3 : Int32))) (E_w46 : Exa Z h0 w46 "com/example/wherry/wherry/protocol/ApiKey") (ha116 : w46 = w43) (hc122 : (p2.toInt16.toInt32) < (3 : Int32)) :
    MetFree l x (head1 (Jvm.Cond.code x code maxLocals ret :: ws) room_1) (fun a U => a = #[(.int p1), (.int p2)] ∧ Z.Warmed39 U.vm ∧ U.heap = h0) (fun _ _ _ _ _ => True) (fun _ U o U' => ∃ v L, o = .returned v ∧ Q0b Z p1 p2 w4 w7 w10 w13 w16 w19 w22 w25 w28 w31 w34 w37 w40 w43 w46 h0 n0 v U'.heap L ∧ FrameEnd U o U' L room_1.cells room_1.slots) := by
  refine MetFree.of_bodySF (plainFor_of_name pn_0) hisR ?_
  intro p e s m args below meth c s₁ Bd hml0 hP hK
  obtain ⟨rfl, hZ, hh⟩ := hP
  have hx := Bd.exec
  have hby := Bd.bytes
  have hml : c.maxLocals = 6 := hml0
  have hown : s.vm.findClass "com/example/wherry/wherry/protocol/ApiKeyIsFlexiblePinLaw" = some m.cls := findClass_of_methodNamed Bd.named
  have hnm := (name_of_methodNamed Bd.named Bd.method).1
  have X0 : Stand p l e room_1 s m #[(.int p1), (.int p2)] below meth c s₁ [] 0 0 := Stand.of_body Bd
  have e0 : s₁.heap = h0 := by rw [← hh, Bd.state]; rfl
  have N0 := Fr.nil n0
  have pre0 : ∀ t, Steps p.tables e below (s₁.setTop (mkF m 0 #[.val (.int p1), .val (.int p2), .unset, .unset, .unset, .unset] [])) t → Steps p.tables e below (s₁.setTop (entryFrame m #[(.int p1), (.int p2)] maxLocals)) t := fun t k => castTop (ef_0 m p1 p2) k
  obtain ⟨T3, h3, k3, X3, e3, E3, A3, O3, st3⟩ := newR X0 hx hZ hown (hw _ (List.mem_of_getElem? (i := 0) rfl)) (hw _ (List.mem_of_getElem? (i := 1) rfl)) e0 (g := (mkF m 2 #[.val (.int p1), .val (.int p2), .unset, .unset, .unset, .unset] [(.int (14 : Int32))])) rfl (hb hby at_2) rfl (by decide) (cap := 14) (by decide) (by decide) (by decide) (by decide)
  obtain ⟨b3, g3⟩ : ∃ z, z = h0.size := ⟨_, rfl⟩
  rw [← g3] at A3 st3
  have V3 : Arv Z h3 b3 k3 (.object "com/example/wherry/wherry/protocol/ApiKey") (14 : Int32) [.null, .null, .null, .null, .null, .null, .null, .null, .null, .null, .null, .null, .null, .null] .null := (Arv.new A3 (by decide)).pad (pad_rep [] .null 14)
  have g_b3 : n0 ≤ b3 := Nat.le_trans Z0 (Nat.le_of_eq g3.symm)
  have sz_b3 : h0.size ≤ b3 := (Nat.le_trans (Keep.refl h0 []).1 (Nat.le_of_eq g3.symm))
  have K3 : Keep h0 h3 [] := (Keep.refl h0 []).ext E3
  obtain ⟨T5, X5, e5, st5⟩ := getS2 X3 hx hZ hown (host := "") (Or.inl (hw _ (List.mem_of_getElem? (i := 2) rfl))) Via.refl e3 (own_sta K3 S_PRODUCE) (g := (mkF m 7 #[.val (.int p1), .val (.int p2), .unset, .unset, .unset, .unset] [(.int (0 : Int32)), (.ref b3), (.ref b3)])) rfl (hb hby at_7)
  obtain ⟨cl6, Ar6, q6, S6, Z6, H6, G6⟩ := V3
  obtain ⟨T6, h6, X6, e6, W6, st6⟩ := stR X5 hx hZ e5 Ar6 (j := (0 : Int32)) (inb_of S6 ⟨by decide, by decide⟩) rfl (Sto.ofV Ar6 q6 O3 (Ins.self (E_w4.keep K3))) (g := (mkF m 10 #[.val (.int p1), .val (.int p2), .unset, .unset, .unset, .unset] [(.ref w4), (.int (0 : Int32)), (.ref b3), (.ref b3)])) rfl rfl (hb hby at_10)
  have V6 : Arv Z h6 b3 k3 (.object "com/example/wherry/wherry/protocol/ApiKey") (14 : Int32) [(.ref w4), .null, .null, .null, .null, .null, .null, .null, .null, .null, .null, .null, .null, .null] .null := Arv.set Ar6 q6 S6 Z6 H6 G6 (v := .ref w4) rfl W6 0 rfl (by show 0 < 14; decide)
  have N6 := Fr.snoc X6 N0 g_b3
  have K6 : Keep h0 h6 [] := K3.wr W6 (Or.inr sz_b3)
  obtain ⟨T8, X8, e8, st8⟩ := getS2 X6 hx hZ hown (host := "") (Or.inl (hw _ (List.mem_of_getElem? (i := 6) rfl))) Via.refl e6 (own_sta K6 S_FETCH) (g := (mkF m 13 #[.val (.int p1), .val (.int p2), .unset, .unset, .unset, .unset] [(.int (1 : Int32)), (.ref b3), (.ref b3)])) rfl (hb hby at_13)
  obtain ⟨cl9, Ar9, q9, S9, Z9, H9, G9⟩ := V6
  obtain ⟨T9, h9, X9, e9, W9, st9⟩ := stR X8 hx hZ e8 Ar9 (j := (1 : Int32)) (inb_of S9 ⟨by decide, by decide⟩) rfl (Sto.ofV Ar9 q9 O3 (Ins.self (E_w7.keep K6))) (g := (mkF m 16 #[.val (.int p1), .val (.int p2), .unset, .unset, .unset, .unset] [(.ref w7), (.int (1 : Int32)), (.ref b3), (.ref b3)])) rfl rfl (hb hby at_16)
  have V9 : Arv Z h9 b3 k3 (.object "com/example/wherry/wherry/protocol/ApiKey") (14 : Int32) [(.ref w4), (.ref w7), .null, .null, .null, .null, .null, .null, .null, .null, .null, .null, .null, .null] .null := Arv.set Ar9 q9 S9 Z9 H9 G9 (v := .ref w7) rfl W9 1 rfl (by show 1 < 14; decide)
  have N9 := Fr.snoc X9 N6 g_b3
  have K9 : Keep h0 h9 [] := K6.wr W9 (Or.inr sz_b3)
  obtain ⟨T11, X11, e11, st11⟩ := getS2 X9 hx hZ hown (host := "") (Or.inl (hw _ (List.mem_of_getElem? (i := 8) rfl))) Via.refl e9 (own_sta K9 S_OFFSETS) (g := (mkF m 19 #[.val (.int p1), .val (.int p2), .unset, .unset, .unset, .unset] [(.int (2 : Int32)), (.ref b3), (.ref b3)])) rfl (hb hby at_19)
  obtain ⟨cl12, Ar12, q12, S12, Z12, H12, G12⟩ := V9
  obtain ⟨T12, h12, X12, e12, W12, st12⟩ := stR X11 hx hZ e11 Ar12 (j := (2 : Int32)) (inb_of S12 ⟨by decide, by decide⟩) rfl (Sto.ofV Ar12 q12 O3 (Ins.self (E_w10.keep K9))) (g := (mkF m 22 #[.val (.int p1), .val (.int p2), .unset, .unset, .unset, .unset] [(.ref w10), (.int (2 : Int32)), (.ref b3), (.ref b3)])) rfl rfl (hb hby at_22)
  have V12 : Arv Z h12 b3 k3 (.object "com/example/wherry/wherry/protocol/ApiKey") (14 : Int32) [(.ref w4), (.ref w7), (.ref w10), .null, .null, .null, .null, .null, .null, .null, .null, .null, .null, .null] .null := Arv.set Ar12 q12 S12 Z12 H12 G12 (v := .ref w10) rfl W12 2 rfl (by show 2 < 14; decide)
  have N12 := Fr.snoc X12 N9 g_b3
  have K12 : Keep h0 h12 [] := K9.wr W12 (Or.inr sz_b3)
  obtain ⟨T14, X14, e14, st14⟩ := getS2 X12 hx hZ hown (host := "") (Or.inl (hw _ (List.mem_of_getElem? (i := 10) rfl))) Via.refl e12 (own_sta K12 S_METADATA) (g := (mkF m 25 #[.val (.int p1), .val (.int p2), .unset, .unset, .unset, .unset] [(.int (3 : Int32)), (.ref b3), (.ref b3)])) rfl (hb hby at_25)
  obtain ⟨cl15, Ar15, q15, S15, Z15, H15, G15⟩ := V12
  obtain ⟨T15, h15, X15, e15, W15, st15⟩ := stR X14 hx hZ e14 Ar15 (j := (3 : Int32)) (inb_of S15 ⟨by decide, by decide⟩) rfl (Sto.ofV Ar15 q15 O3 (Ins.self (E_w13.keep K12))) (g := (mkF m 28 #[.val (.int p1), .val (.int p2), .unset, .unset, .unset, .unset] [(.ref w13), (.int (3 : Int32)), (.ref b3), (.ref b3)])) rfl rfl (hb hby at_28)
  have V15 : Arv Z h15 b3 k3 (.object "com/example/wherry/wherry/protocol/ApiKey") (14 : Int32) [(.ref w4), (.ref w7), (.ref w10), (.ref w13), .null, .null, .null, .null, .null, .null, .null, .null, .null, .null] .null := Arv.set Ar15 q15 S15 Z15 H15 G15 (v := .ref w13) rfl W15 3 rfl (by show 3 < 14; decide)
  have N15 := Fr.snoc X15 N12 g_b3
  have K15 : Keep h0 h15 [] := K12.wr W15 (Or.inr sz_b3)
  obtain ⟨T17, X17, e17, st17⟩ := getS2 X15 hx hZ hown (host := "") (Or.inl (hw _ (List.mem_of_getElem? (i := 12) rfl))) Via.refl e15 (own_sta K15 S_OFFSET_COMMIT) (g := (mkF m 31 #[.val (.int p1), .val (.int p2), .unset, .unset, .unset, .unset] [(.int (4 : Int32)), (.ref b3), (.ref b3)])) rfl (hb hby at_31)
  obtain ⟨cl18, Ar18, q18, S18, Z18, H18, G18⟩ := V15
  obtain ⟨T18, h18, X18, e18, W18, st18⟩ := stR X17 hx hZ e17 Ar18 (j := (4 : Int32)) (inb_of S18 ⟨by decide, by decide⟩) rfl (Sto.ofV Ar18 q18 O3 (Ins.self (E_w16.keep K15))) (g := (mkF m 34 #[.val (.int p1), .val (.int p2), .unset, .unset, .unset, .unset] [(.ref w16), (.int (4 : Int32)), (.ref b3), (.ref b3)])) rfl rfl (hb hby at_34)
  have V18 : Arv Z h18 b3 k3 (.object "com/example/wherry/wherry/protocol/ApiKey") (14 : Int32) [(.ref w4), (.ref w7), (.ref w10), (.ref w13), (.ref w16), .null, .null, .null, .null, .null, .null, .null, .null, .null] .null := Arv.set Ar18 q18 S18 Z18 H18 G18 (v := .ref w16) rfl W18 4 rfl (by show 4 < 14; decide)
  have N18 := Fr.snoc X18 N15 g_b3
  have K18 : Keep h0 h18 [] := K15.wr W18 (Or.inr sz_b3)
  obtain ⟨T20, X20, e20, st20⟩ := getS2 X18 hx hZ hown (host := "") (Or.inl (hw _ (List.mem_of_getElem? (i := 14) rfl))) Via.refl e18 (own_sta K18 S_OFFSET_FETCH) (g := (mkF m 37 #[.val (.int p1), .val (.int p2), .unset, .unset, .unset, .unset] [(.int (5 : Int32)), (.ref b3), (.ref b3)])) rfl (hb hby at_37)
  obtain ⟨cl21, Ar21, q21, S21, Z21, H21, G21⟩ := V18
  obtain ⟨T21, h21, X21, e21, W21, st21⟩ := stR X20 hx hZ e20 Ar21 (j := (5 : Int32)) (inb_of S21 ⟨by decide, by decide⟩) rfl (Sto.ofV Ar21 q21 O3 (Ins.self (E_w19.keep K18))) (g := (mkF m 40 #[.val (.int p1), .val (.int p2), .unset, .unset, .unset, .unset] [(.ref w19), (.int (5 : Int32)), (.ref b3), (.ref b3)])) rfl rfl (hb hby at_40)
  have V21 : Arv Z h21 b3 k3 (.object "com/example/wherry/wherry/protocol/ApiKey") (14 : Int32) [(.ref w4), (.ref w7), (.ref w10), (.ref w13), (.ref w16), (.ref w19), .null, .null, .null, .null, .null, .null, .null, .null] .null := Arv.set Ar21 q21 S21 Z21 H21 G21 (v := .ref w19) rfl W21 5 rfl (by show 5 < 14; decide)
  have N21 := Fr.snoc X21 N18 g_b3
  have K21 : Keep h0 h21 [] := K18.wr W21 (Or.inr sz_b3)
  obtain ⟨T23, X23, e23, st23⟩ := getS2 X21 hx hZ hown (host := "") (Or.inl (hw _ (List.mem_of_getElem? (i := 16) rfl))) Via.refl e21 (own_sta K21 S_GROUP_COORDINATOR) (g := (mkF m 44 #[.val (.int p1), .val (.int p2), .unset, .unset, .unset, .unset] [(.int (6 : Int32)), (.ref b3), (.ref b3)])) rfl (hb hby at_44)
  obtain ⟨cl24, Ar24, q24, S24, Z24, H24, G24⟩ := V21
  obtain ⟨T24, h24, X24, e24, W24, st24⟩ := stR X23 hx hZ e23 Ar24 (j := (6 : Int32)) (inb_of S24 ⟨by decide, by decide⟩) rfl (Sto.ofV Ar24 q24 O3 (Ins.self (E_w22.keep K21))) (g := (mkF m 47 #[.val (.int p1), .val (.int p2), .unset, .unset, .unset, .unset] [(.ref w22), (.int (6 : Int32)), (.ref b3), (.ref b3)])) rfl rfl (hb hby at_47)
  have V24 : Arv Z h24 b3 k3 (.object "com/example/wherry/wherry/protocol/ApiKey") (14 : Int32) [(.ref w4), (.ref w7), (.ref w10), (.ref w13), (.ref w16), (.ref w19), (.ref w22), .null, .null, .null, .null, .null, .null, .null] .null := Arv.set Ar24 q24 S24 Z24 H24 G24 (v := .ref w22) rfl W24 6 rfl (by show 6 < 14; decide)
  have N24 := Fr.snoc X24 N21 g_b3
  have K24 : Keep h0 h24 [] := K21.wr W24 (Or.inr sz_b3)
  obtain ⟨T26, X26, e26, st26⟩ := getS2 X24 hx hZ hown (host := "") (Or.inl (hw _ (List.mem_of_getElem? (i := 18) rfl))) Via.refl e24 (own_sta K24 S_JOIN_GROUP) (g := (mkF m 51 #[.val (.int p1), .val (.int p2), .unset, .unset, .unset, .unset] [(.int (7 : Int32)), (.ref b3), (.ref b3)])) rfl (hb hby at_51)
  obtain ⟨cl27, Ar27, q27, S27, Z27, H27, G27⟩ := V24
  obtain ⟨T27, h27, X27, e27, W27, st27⟩ := stR X26 hx hZ e26 Ar27 (j := (7 : Int32)) (inb_of S27 ⟨by decide, by decide⟩) rfl (Sto.ofV Ar27 q27 O3 (Ins.self (E_w25.keep K24))) (g := (mkF m 54 #[.val (.int p1), .val (.int p2), .unset, .unset, .unset, .unset] [(.ref w25), (.int (7 : Int32)), (.ref b3), (.ref b3)])) rfl rfl (hb hby at_54)
  have V27 : Arv Z h27 b3 k3 (.object "com/example/wherry/wherry/protocol/ApiKey") (14 : Int32) [(.ref w4), (.ref w7), (.ref w10), (.ref w13), (.ref w16), (.ref w19), (.ref w22), (.ref w25), .null, .null, .null, .null, .null, .null] .null := Arv.set Ar27 q27 S27 Z27 H27 G27 (v := .ref w25) rfl W27 7 rfl (by show 7 < 14; decide)
  have N27 := Fr.snoc X27 N24 g_b3
  have K27 : Keep h0 h27 [] := K24.wr W27 (Or.inr sz_b3)
  obtain ⟨T29, X29, e29, st29⟩ := getS2 X27 hx hZ hown (host := "") (Or.inl (hw _ (List.mem_of_getElem? (i := 20) rfl))) Via.refl e27 (own_sta K27 S_HEARTBEAT) (g := (mkF m 58 #[.val (.int p1), .val (.int p2), .unset, .unset, .unset, .unset] [(.int (8 : Int32)), (.ref b3), (.ref b3)])) rfl (hb hby at_58)
  obtain ⟨cl30, Ar30, q30, S30, Z30, H30, G30⟩ := V27
  obtain ⟨T30, h30, X30, e30, W30, st30⟩ := stR X29 hx hZ e29 Ar30 (j := (8 : Int32)) (inb_of S30 ⟨by decide, by decide⟩) rfl (Sto.ofV Ar30 q30 O3 (Ins.self (E_w28.keep K27))) (g := (mkF m 61 #[.val (.int p1), .val (.int p2), .unset, .unset, .unset, .unset] [(.ref w28), (.int (8 : Int32)), (.ref b3), (.ref b3)])) rfl rfl (hb hby at_61)
  have V30 : Arv Z h30 b3 k3 (.object "com/example/wherry/wherry/protocol/ApiKey") (14 : Int32) [(.ref w4), (.ref w7), (.ref w10), (.ref w13), (.ref w16), (.ref w19), (.ref w22), (.ref w25), (.ref w28), .null, .null, .null, .null, .null] .null := Arv.set Ar30 q30 S30 Z30 H30 G30 (v := .ref w28) rfl W30 8 rfl (by show 8 < 14; decide)
  have N30 := Fr.snoc X30 N27 g_b3
  have K30 : Keep h0 h30 [] := K27.wr W30 (Or.inr sz_b3)
  obtain ⟨T32, X32, e32, st32⟩ := getS2 X30 hx hZ hown (host := "") (Or.inl (hw _ (List.mem_of_getElem? (i := 22) rfl))) Via.refl e30 (own_sta K30 S_LEAVE_GROUP) (g := (mkF m 65 #[.val (.int p1), .val (.int p2), .unset, .unset, .unset, .unset] [(.int (9 : Int32)), (.ref b3), (.ref b3)])) rfl (hb hby at_65)
  obtain ⟨cl33, Ar33, q33, S33, Z33, H33, G33⟩ := V30
  obtain ⟨T33, h33, X33, e33, W33, st33⟩ := stR X32 hx hZ e32 Ar33 (j := (9 : Int32)) (inb_of S33 ⟨by decide, by decide⟩) rfl (Sto.ofV Ar33 q33 O3 (Ins.self (E_w31.keep K30))) (g := (mkF m 68 #[.val (.int p1), .val (.int p2), .unset, .unset, .unset, .unset] [(.ref w31), (.int (9 : Int32)), (.ref b3), (.ref b3)])) rfl rfl (hb hby at_68)
  have V33 : Arv Z h33 b3 k3 (.object "com/example/wherry/wherry/protocol/ApiKey") (14 : Int32) [(.ref w4), (.ref w7), (.ref w10), (.ref w13), (.ref w16), (.ref w19), (.ref w22), (.ref w25), (.ref w28), (.ref w31), .null, .null, .null, .null] .null := Arv.set Ar33 q33 S33 Z33 H33 G33 (v := .ref w31) rfl W33 9 rfl (by show 9 < 14; decide)
  have N33 := Fr.snoc X33 N30 g_b3
  have K33 : Keep h0 h33 [] := K30.wr W33 (Or.inr sz_b3)
  obtain ⟨T35, X35, e35, st35⟩ := getS2 X33 hx hZ hown (host := "") (Or.inl (hw _ (List.mem_of_getElem? (i := 24) rfl))) Via.refl e33 (own_sta K33 S_SYNC_GROUP) (g := (mkF m 72 #[.val (.int p1), .val (.int p2), .unset, .unset, .unset, .unset] [(.int (10 : Int32)), (.ref b3), (.ref b3)])) rfl (hb hby at_72)
  obtain ⟨cl36, Ar36, q36, S36, Z36, H36, G36⟩ := V33
  obtain ⟨T36, h36, X36, e36, W36, st36⟩ := stR X35 hx hZ e35 Ar36 (j := (10 : Int32)) (inb_of S36 ⟨by decide, by decide⟩) rfl (Sto.ofV Ar36 q36 O3 (Ins.self (E_w34.keep K33))) (g := (mkF m 75 #[.val (.int p1), .val (.int p2), .unset, .unset, .unset, .unset] [(.ref w34), (.int (10 : Int32)), (.ref b3), (.ref b3)])) rfl rfl (hb hby at_75)
  have V36 : Arv Z h36 b3 k3 (.object "com/example/wherry/wherry/protocol/ApiKey") (14 : Int32) [(.ref w4), (.ref w7), (.ref w10), (.ref w13), (.ref w16), (.ref w19), (.ref w22), (.ref w25), (.ref w28), (.ref w31), (.ref w34), .null, .null, .null] .null := Arv.set Ar36 q36 S36 Z36 H36 G36 (v := .ref w34) rfl W36 10 rfl (by show 10 < 14; decide)
  have N36 := Fr.snoc X36 N33 g_b3
  have K36 : Keep h0 h36 [] := K33.wr W36 (Or.inr sz_b3)
  obtain ⟨T38, X38, e38, st38⟩ := getS2 X36 hx hZ hown (host := "") (Or.inl (hw _ (List.mem_of_getElem? (i := 26) rfl))) Via.refl e36 (own_sta K36 S_DESCRIBE_GROUPS) (g := (mkF m 79 #[.val (.int p1), .val (.int p2), .unset, .unset, .unset, .unset] [(.int (11 : Int32)), (.ref b3), (.ref b3)])) rfl (hb hby at_79)
  obtain ⟨cl39, Ar39, q39, S39, Z39, H39, G39⟩ := V36
  obtain ⟨T39, h39, X39, e39, W39, st39⟩ := stR X38 hx hZ e38 Ar39 (j := (11 : Int32)) (inb_of S39 ⟨by decide, by decide⟩) rfl (Sto.ofV Ar39 q39 O3 (Ins.self (E_w37.keep K36))) (g := (mkF m 82 #[.val (.int p1), .val (.int p2), .unset, .unset, .unset, .unset] [(.ref w37), (.int (11 : Int32)), (.ref b3), (.ref b3)])) rfl rfl (hb hby at_82)
  have V39 : Arv Z h39 b3 k3 (.object "com/example/wherry/wherry/protocol/ApiKey") (14 : Int32) [(.ref w4), (.ref w7), (.ref w10), (.ref w13), (.ref w16), (.ref w19), (.ref w22), (.ref w25), (.ref w28), (.ref w31), (.ref w34), (.ref w37), .null, .null] .null := Arv.set Ar39 q39 S39 Z39 H39 G39 (v := .ref w37) rfl W39 11 rfl (by show 11 < 14; decide)
  have N39 := Fr.snoc X39 N36 g_b3
  have K39 : Keep h0 h39 [] := K36.wr W39 (Or.inr sz_b3)
  obtain ⟨T41, X41, e41, st41⟩ := getS2 X39 hx hZ hown (host := "") (Or.inl (hw _ (List.mem_of_getElem? (i := 28) rfl))) Via.refl e39 (own_sta K39 S_LIST_GROUPS) (g := (mkF m 86 #[.val (.int p1), .val (.int p2), .unset, .unset, .unset, .unset] [(.int (12 : Int32)), (.ref b3), (.ref b3)])) rfl (hb hby at_86)
  obtain ⟨cl42, Ar42, q42, S42, Z42, H42, G42⟩ := V39
  obtain ⟨T42, h42, X42, e42, W42, st42⟩ := stR X41 hx hZ e41 Ar42 (j := (12 : Int32)) (inb_of S42 ⟨by decide, by decide⟩) rfl (Sto.ofV Ar42 q42 O3 (Ins.self (E_w40.keep K39))) (g := (mkF m 89 #[.val (.int p1), .val (.int p2), .unset, .unset, .unset, .unset] [(.ref w40), (.int (12 : Int32)), (.ref b3), (.ref b3)])) rfl rfl (hb hby at_89)
  have V42 : Arv Z h42 b3 k3 (.object "com/example/wherry/wherry/protocol/ApiKey") (14 : Int32) [(.ref w4), (.ref w7), (.ref w10), (.ref w13), (.ref w16), (.ref w19), (.ref w22), (.ref w25), (.ref w28), (.ref w31), (.ref w34), (.ref w37), (.ref w40), .null] .null := Arv.set Ar42 q42 S42 Z42 H42 G42 (v := .ref w40) rfl W42 12 rfl (by show 12 < 14; decide)
  have N42 := Fr.snoc X42 N39 g_b3
  have K42 : Keep h0 h42 [] := K39.wr W42 (Or.inr sz_b3)
  obtain ⟨T44, X44, e44, st44⟩ := getS2 X42 hx hZ hown (host := "") (Or.inl (hw _ (List.mem_of_getElem? (i := 30) rfl))) Via.refl e42 (own_sta K42 S_API_VERSIONS) (g := (mkF m 93 #[.val (.int p1), .val (.int p2), .unset, .unset, .unset, .unset] [(.int (13 : Int32)), (.ref b3), (.ref b3)])) rfl (hb hby at_93)
  obtain ⟨cl45, Ar45, q45, S45, Z45, H45, G45⟩ := V42
  obtain ⟨T45, h45, X45, e45, W45, st45⟩ := stR X44 hx hZ e44 Ar45 (j := (13 : Int32)) (inb_of S45 ⟨by decide, by decide⟩) rfl (Sto.ofV Ar45 q45 O3 (Ins.self (E_w43.keep K42))) (g := (mkF m 96 #[.val (.int p1), .val (.int p2), .unset, .unset, .unset, .unset] [(.ref w43), (.int (13 : Int32)), (.ref b3), (.ref b3)])) rfl rfl (hb hby at_96)
  have V45 : Arv Z h45 b3 k3 (.object "com/example/wherry/wherry/protocol/ApiKey") (14 : Int32) [(.ref w4), (.ref w7), (.ref w10), (.ref w13), (.ref w16), (.ref w19), (.ref w22), (.ref w25), (.ref w28), (.ref w31), (.ref w34), (.ref w37), (.ref w40), (.ref w43)] .null := Arv.set Ar45 q45 S45 Z45 H45 G45 (v := .ref w43) rfl W45 13 rfl (by show 13 < 14; decide)
  have N45 := Fr.snoc X45 N42 g_b3
  have K45 : Keep h0 h45 [] := K42.wr W45 (Or.inr sz_b3)
  obtain ⟨cl_b3, Ar_b3, q_b3, S_b3, Z_b3, H_b3, G_b3⟩ := V45
  have hin106 := inb_of S_b3 hj
  have hat106 := H_b3.at hin106 hget
  obtain ⟨T47, X47, e47, st47⟩ := getS2 X45 hx hZ hown (host := "") (Or.inl (hw _ (List.mem_of_getElem? (i := 30) rfl))) Via.refl e45 (own_sta K45 S_API_VERSIONS) (g := (mkF m 113 #[.val (.int p1), .val (.int p2), .val (.ref b3), .val (.ref w46), .val (.int (p2.toInt16.toInt32)), .unset] [(.ref w46)])) rfl (hb hby at_113)
  obtain ⟨cq48, kq48, q48a, q48b, q48c⟩ := isOf hZ e47 (((((((((((((((E_w46.ext E3).wr W6).wr W9).wr W12).wr W15).wr W18).wr W21).wr W24).wr W27).wr W30).wr W33).wr W36).wr W39).wr W42).wr W45)
  obtain ⟨_, _, ⟨T48, L48, k48, n48⟩, -, X48, ⟨Lc48, hQ48, l48, y48, z48⟩, st48⟩ := X47.virtualBack hx (y := (⟨"com/example/wherry/wherry/protocol/ApiKey", "isFlexible", "(S)Z"⟩ : MethodName)) (z := (⟨"com/example/wherry/wherry/protocol/ApiKey", "isFlexible", "(S)Z"⟩ : MethodName)) hown (mvT hZ (hw _ (List.mem_of_getElem? (i := 33) rfl))) (mvT hZ (hw _ (List.mem_of_getElem? (i := 34) rfl))) (notFace_of_selects (args := #[]) (mvT hZ (hw _ (List.mem_of_getElem? (i := 36) rfl)))) (mvT hZ (hw _ (List.mem_of_getElem? (i := 36) rfl))) (mvT hZ (hw _ (List.mem_of_getElem? (i := 35) rfl))) (by decide) (backOf (W := 0) (rm1ft l Z a0 hw [] w46 (p2.toInt16.toInt32) (3 : Int32) (3 : Int32) h45 n0 (Nat.le_trans Z0 K45.1) (Ff.keep K45 nin0) (Fm.keep K45 nin0) (by decide) hc122) hZ (hw _ (List.mem_of_getElem? (i := 37) rfl)) (hw _ (List.mem_of_getElem? (i := 3) rfl)) (by decide) (by decide)) q48a q48c (g := (mkF m 135 #[.val (.int p1), .val (.int p2), .val (.ref b3), .val (.ref w46), .val (.int (p2.toInt16.toInt32)), .val (.int (0 : Int32))] [(.int (p2.toInt16.toInt32)), (.ref w46)])) rfl (by rw [hml]; rfl) (Steps.refl _) (argsL := [(.int (p2.toInt16.toInt32))]) (rest := []) (lenOf pdb_0_0 rfl) rfl (by show 2 * 0 + _ ≤ _; exact Nat.le_of_eq rfl) (hb hby at_135) (fun _ _ => ⟨rfl, e47, (by decide : 1 + 0 ≤ _), (by decide : 14 + 0 ≤ _)⟩)
  dsimp only [Pt.U, Pt.locs, Pt.cells, Pt.slots] at X48 l48 y48 z48 st48 hQ48
  subst l48 y48 z48
  obtain ⟨rfl, N48q, eh48⟩ := hQ48
  have N48 := Fr.app N45 N48q
  obtain ⟨fs, hr, hrun, hended, hW, hsame⟩ := X48.leave (v := some (.int (1 : Int32))) (fun h => by rw [Bd.returns] at h; cases h)
  refine ⟨_, _, pre0 _ ?_, hrun, hended, _, _, rfl, ?_, ⟨_, rfl⟩, hW, hsame.mono (by decide) (by decide)⟩
  · show Steps p.tables e below (s₁.setTop (mkF m 0 #[.val (.int p1), .val (.int p2), .unset, .unset, .unset, .unset] [])) _
    refine XS.bipush X0.here hx rfl (hb hby at_0) ?_
    show Steps p.tables e below (s₁.setTop (mkF m 2 #[.val (.int p1), .val (.int p2), .unset, .unset, .unset, .unset] [(.int (14 : Int32))])) _
    refine st3 _ ?_
    show Steps p.tables e below (T3.setTop (mkF m 5 #[.val (.int p1), .val (.int p2), .unset, .unset, .unset, .unset] [(.ref b3)])) _
    refine XS.dup X3.here hx rfl (hb hby at_5) rfl rfl ?_
    show Steps p.tables e below (T3.setTop (mkF m 6 #[.val (.int p1), .val (.int p2), .unset, .unset, .unset, .unset] [(.ref b3), (.ref b3)])) _
    refine XS.iconst X3.here hx rfl (hb hby at_6) ?_
    show Steps p.tables e below (T3.setTop (mkF m 7 #[.val (.int p1), .val (.int p2), .unset, .unset, .unset, .unset] [(.int (0 : Int32)), (.ref b3), (.ref b3)])) _
    refine st5 _ ?_
    show Steps p.tables e below (T5.setTop (mkF m 10 #[.val (.int p1), .val (.int p2), .unset, .unset, .unset, .unset] [(.ref w4), (.int (0 : Int32)), (.ref b3), (.ref b3)])) _
    refine st6 _ ?_
    show Steps p.tables e below (T6.setTop (mkF m 11 #[.val (.int p1), .val (.int p2), .unset, .unset, .unset, .unset] [(.ref b3)])) _
    refine XS.dup X6.here hx rfl (hb hby at_11) rfl rfl ?_
    show Steps p.tables e below (T6.setTop (mkF m 12 #[.val (.int p1), .val (.int p2), .unset, .unset, .unset, .unset] [(.ref b3), (.ref b3)])) _
    refine XS.iconst X6.here hx rfl (hb hby at_12) ?_
    show Steps p.tables e below (T6.setTop (mkF m 13 #[.val (.int p1), .val (.int p2), .unset, .unset, .unset, .unset] [(.int (1 : Int32)), (.ref b3), (.ref b3)])) _
    refine st8 _ ?_
    show Steps p.tables e below (T8.setTop (mkF m 16 #[.val (.int p1), .val (.int p2), .unset, .unset, .unset, .unset] [(.ref w7), (.int (1 : Int32)), (.ref b3), (.ref b3)])) _
    refine st9 _ ?_
    show Steps p.tables e below (T9.setTop (mkF m 17 #[.val (.int p1), .val (.int p2), .unset, .unset, .unset, .unset] [(.ref b3)])) _
    refine XS.dup X9.here hx rfl (hb hby at_17) rfl rfl ?_
    show Steps p.tables e below (T9.setTop (mkF m 18 #[.val (.int p1), .val (.int p2), .unset, .unset, .unset, .unset] [(.ref b3), (.ref b3)])) _
    refine XS.iconst X9.here hx rfl (hb hby at_18) ?_
    show Steps p.tables e below (T9.setTop (mkF m 19 #[.val (.int p1), .val (.int p2), .unset, .unset, .unset, .unset] [(.int (2 : Int32)), (.ref b3), (.ref b3)])) _
    refine st11 _ ?_
    show Steps p.tables e below (T11.setTop (mkF m 22 #[.val (.int p1), .val (.int p2), .unset, .unset, .unset, .unset] [(.ref w10), (.int (2 : Int32)), (.ref b3), (.ref b3)])) _
    refine st12 _ ?_
    show Steps p.tables e below (T12.setTop (mkF m 23 #[.val (.int p1), .val (.int p2), .unset, .unset, .unset, .unset] [(.ref b3)])) _
    refine XS.dup X12.here hx rfl (hb hby at_23) rfl rfl ?_
    show Steps p.tables e below (T12.setTop (mkF m 24 #[.val (.int p1), .val (.int p2), .unset, .unset, .unset, .unset] [(.ref b3), (.ref b3)])) _
    refine XS.iconst X12.here hx rfl (hb hby at_24) ?_
    show Steps p.tables e below (T12.setTop (mkF m 25 #[.val (.int p1), .val (.int p2), .unset, .unset, .unset, .unset] [(.int (3 : Int32)), (.ref b3), (.ref b3)])) _
    refine st14 _ ?_
    show Steps p.tables e below (T14.setTop (mkF m 28 #[.val (.int p1), .val (.int p2), .unset, .unset, .unset, .unset] [(.ref w13), (.int (3 : Int32)), (.ref b3), (.ref b3)])) _
    refine st15 _ ?_
    show Steps p.tables e below (T15.setTop (mkF m 29 #[.val (.int p1), .val (.int p2), .unset, .unset, .unset, .unset] [(.ref b3)])) _
    refine XS.dup X15.here hx rfl (hb hby at_29) rfl rfl ?_
    show Steps p.tables e below (T15.setTop (mkF m 30 #[.val (.int p1), .val (.int p2), .unset, .unset, .unset, .unset] [(.ref b3), (.ref b3)])) _
    refine XS.iconst X15.here hx rfl (hb hby at_30) ?_
    show Steps p.tables e below (T15.setTop (mkF m 31 #[.val (.int p1), .val (.int p2), .unset, .unset, .unset, .unset] [(.int (4 : Int32)), (.ref b3), (.ref b3)])) _
    refine st17 _ ?_
    show Steps p.tables e below (T17.setTop (mkF m 34 #[.val (.int p1), .val (.int p2), .unset, .unset, .unset, .unset] [(.ref w16), (.int (4 : Int32)), (.ref b3), (.ref b3)])) _
    refine st18 _ ?_
    show Steps p.tables e below (T18.setTop (mkF m 35 #[.val (.int p1), .val (.int p2), .unset, .unset, .unset, .unset] [(.ref b3)])) _
    refine XS.dup X18.here hx rfl (hb hby at_35) rfl rfl ?_
    show Steps p.tables e below (T18.setTop (mkF m 36 #[.val (.int p1), .val (.int p2), .unset, .unset, .unset, .unset] [(.ref b3), (.ref b3)])) _
    refine XS.iconst X18.here hx rfl (hb hby at_36) ?_
    show Steps p.tables e below (T18.setTop (mkF m 37 #[.val (.int p1), .val (.int p2), .unset, .unset, .unset, .unset] [(.int (5 : Int32)), (.ref b3), (.ref b3)])) _
    refine st20 _ ?_
    show Steps p.tables e below (T20.setTop (mkF m 40 #[.val (.int p1), .val (.int p2), .unset, .unset, .unset, .unset] [(.ref w19), (.int (5 : Int32)), (.ref b3), (.ref b3)])) _
    refine st21 _ ?_
    show Steps p.tables e below (T21.setTop (mkF m 41 #[.val (.int p1), .val (.int p2), .unset, .unset, .unset, .unset] [(.ref b3)])) _
    refine XS.dup X21.here hx rfl (hb hby at_41) rfl rfl ?_
    show Steps p.tables e below (T21.setTop (mkF m 42 #[.val (.int p1), .val (.int p2), .unset, .unset, .unset, .unset] [(.ref b3), (.ref b3)])) _
    refine XS.bipush X21.here hx rfl (hb hby at_42) ?_
    show Steps p.tables e below (T21.setTop (mkF m 44 #[.val (.int p1), .val (.int p2), .unset, .unset, .unset, .unset] [(.int (6 : Int32)), (.ref b3), (.ref b3)])) _
    refine st23 _ ?_
    show Steps p.tables e below (T23.setTop (mkF m 47 #[.val (.int p1), .val (.int p2), .unset, .unset, .unset, .unset] [(.ref w22), (.int (6 : Int32)), (.ref b3), (.ref b3)])) _
    refine st24 _ ?_
    show Steps p.tables e below (T24.setTop (mkF m 48 #[.val (.int p1), .val (.int p2), .unset, .unset, .unset, .unset] [(.ref b3)])) _
    refine XS.dup X24.here hx rfl (hb hby at_48) rfl rfl ?_
    show Steps p.tables e below (T24.setTop (mkF m 49 #[.val (.int p1), .val (.int p2), .unset, .unset, .unset, .unset] [(.ref b3), (.ref b3)])) _
    refine XS.bipush X24.here hx rfl (hb hby at_49) ?_
    show Steps p.tables e below (T24.setTop (mkF m 51 #[.val (.int p1), .val (.int p2), .unset, .unset, .unset, .unset] [(.int (7 : Int32)), (.ref b3), (.ref b3)])) _
    refine st26 _ ?_
    show Steps p.tables e below (T26.setTop (mkF m 54 #[.val (.int p1), .val (.int p2), .unset, .unset, .unset, .unset] [(.ref w25), (.int (7 : Int32)), (.ref b3), (.ref b3)])) _
    refine st27 _ ?_
    show Steps p.tables e below (T27.setTop (mkF m 55 #[.val (.int p1), .val (.int p2), .unset, .unset, .unset, .unset] [(.ref b3)])) _
    refine XS.dup X27.here hx rfl (hb hby at_55) rfl rfl ?_
    show Steps p.tables e below (T27.setTop (mkF m 56 #[.val (.int p1), .val (.int p2), .unset, .unset, .unset, .unset] [(.ref b3), (.ref b3)])) _
    refine XS.bipush X27.here hx rfl (hb hby at_56) ?_
    show Steps p.tables e below (T27.setTop (mkF m 58 #[.val (.int p1), .val (.int p2), .unset, .unset, .unset, .unset] [(.int (8 : Int32)), (.ref b3), (.ref b3)])) _
    refine st29 _ ?_
    show Steps p.tables e below (T29.setTop (mkF m 61 #[.val (.int p1), .val (.int p2), .unset, .unset, .unset, .unset] [(.ref w28), (.int (8 : Int32)), (.ref b3), (.ref b3)])) _
    refine st30 _ ?_
    show Steps p.tables e below (T30.setTop (mkF m 62 #[.val (.int p1), .val (.int p2), .unset, .unset, .unset, .unset] [(.ref b3)])) _
    refine XS.dup X30.here hx rfl (hb hby at_62) rfl rfl ?_
    show Steps p.tables e below (T30.setTop (mkF m 63 #[.val (.int p1), .val (.int p2), .unset, .unset, .unset, .unset] [(.ref b3), (.ref b3)])) _
    refine XS.bipush X30.here hx rfl (hb hby at_63) ?_
    show Steps p.tables e below (T30.setTop (mkF m 65 #[.val (.int p1), .val (.int p2), .unset, .unset, .unset, .unset] [(.int (9 : Int32)), (.ref b3), (.ref b3)])) _
    refine st32 _ ?_
    show Steps p.tables e below (T32.setTop (mkF m 68 #[.val (.int p1), .val (.int p2), .unset, .unset, .unset, .unset] [(.ref w31), (.int (9 : Int32)), (.ref b3), (.ref b3)])) _
    refine st33 _ ?_
    show Steps p.tables e below (T33.setTop (mkF m 69 #[.val (.int p1), .val (.int p2), .unset, .unset, .unset, .unset] [(.ref b3)])) _
    refine XS.dup X33.here hx rfl (hb hby at_69) rfl rfl ?_
    show Steps p.tables e below (T33.setTop (mkF m 70 #[.val (.int p1), .val (.int p2), .unset, .unset, .unset, .unset] [(.ref b3), (.ref b3)])) _
    refine XS.bipush X33.here hx rfl (hb hby at_70) ?_
    show Steps p.tables e below (T33.setTop (mkF m 72 #[.val (.int p1), .val (.int p2), .unset, .unset, .unset, .unset] [(.int (10 : Int32)), (.ref b3), (.ref b3)])) _
    refine st35 _ ?_
    show Steps p.tables e below (T35.setTop (mkF m 75 #[.val (.int p1), .val (.int p2), .unset, .unset, .unset, .unset] [(.ref w34), (.int (10 : Int32)), (.ref b3), (.ref b3)])) _
    refine st36 _ ?_
    show Steps p.tables e below (T36.setTop (mkF m 76 #[.val (.int p1), .val (.int p2), .unset, .unset, .unset, .unset] [(.ref b3)])) _
    refine XS.dup X36.here hx rfl (hb hby at_76) rfl rfl ?_
    show Steps p.tables e below (T36.setTop (mkF m 77 #[.val (.int p1), .val (.int p2), .unset, .unset, .unset, .unset] [(.ref b3), (.ref b3)])) _
    refine XS.bipush X36.here hx rfl (hb hby at_77) ?_
    show Steps p.tables e below (T36.setTop (mkF m 79 #[.val (.int p1), .val (.int p2), .unset, .unset, .unset, .unset] [(.int (11 : Int32)), (.ref b3), (.ref b3)])) _
    refine st38 _ ?_
    show Steps p.tables e below (T38.setTop (mkF m 82 #[.val (.int p1), .val (.int p2), .unset, .unset, .unset, .unset] [(.ref w37), (.int (11 : Int32)), (.ref b3), (.ref b3)])) _
    refine st39 _ ?_
    show Steps p.tables e below (T39.setTop (mkF m 83 #[.val (.int p1), .val (.int p2), .unset, .unset, .unset, .unset] [(.ref b3)])) _
    refine XS.dup X39.here hx rfl (hb hby at_83) rfl rfl ?_
    show Steps p.tables e below (T39.setTop (mkF m 84 #[.val (.int p1), .val (.int p2), .unset, .unset, .unset, .unset] [(.ref b3), (.ref b3)])) _
    refine XS.bipush X39.here hx rfl (hb hby at_84) ?_
    show Steps p.tables e below (T39.setTop (mkF m 86 #[.val (.int p1), .val (.int p2), .unset, .unset, .unset, .unset] [(.int (12 : Int32)), (.ref b3), (.ref b3)])) _
    refine st41 _ ?_
    show Steps p.tables e below (T41.setTop (mkF m 89 #[.val (.int p1), .val (.int p2), .unset, .unset, .unset, .unset] [(.ref w40), (.int (12 : Int32)), (.ref b3), (.ref b3)])) _
    refine st42 _ ?_
    show Steps p.tables e below (T42.setTop (mkF m 90 #[.val (.int p1), .val (.int p2), .unset, .unset, .unset, .unset] [(.ref b3)])) _
    refine XS.dup X42.here hx rfl (hb hby at_90) rfl rfl ?_
    show Steps p.tables e below (T42.setTop (mkF m 91 #[.val (.int p1), .val (.int p2), .unset, .unset, .unset, .unset] [(.ref b3), (.ref b3)])) _
    refine XS.bipush X42.here hx rfl (hb hby at_91) ?_
    show Steps p.tables e below (T42.setTop (mkF m 93 #[.val (.int p1), .val (.int p2), .unset, .unset, .unset, .unset] [(.int (13 : Int32)), (.ref b3), (.ref b3)])) _
    refine st44 _ ?_
    show Steps p.tables e below (T44.setTop (mkF m 96 #[.val (.int p1), .val (.int p2), .unset, .unset, .unset, .unset] [(.ref w43), (.int (13 : Int32)), (.ref b3), (.ref b3)])) _
    refine st45 _ ?_
    show Steps p.tables e below (T45.setTop (mkF m 97 #[.val (.int p1), .val (.int p2), .unset, .unset, .unset, .unset] [(.ref b3)])) _
    refine XS.astoreN X45.here hx rfl (hb hby at_97) rfl rfl (l' := #[.val (.int p1), .val (.int p2), .val (.ref b3), .unset, .unset, .unset]) rfl ?_
    show Steps p.tables e below (T45.setTop (mkF m 98 #[.val (.int p1), .val (.int p2), .val (.ref b3), .unset, .unset, .unset] [])) _
    refine XS.aloadN X45.here hx rfl (hb hby at_98) rfl rfl ?_
    show Steps p.tables e below (T45.setTop (mkF m 99 #[.val (.int p1), .val (.int p2), .val (.ref b3), .unset, .unset, .unset] [(.ref b3)])) _
    refine XS.iloadN X45.here hx rfl (hb hby at_99) rfl ?_
    show Steps p.tables e below (T45.setTop (mkF m 100 #[.val (.int p1), .val (.int p2), .val (.ref b3), .unset, .unset, .unset] [(.int p1), (.ref b3)])) _
    refine X45.ldcInt hx hown (mvT hZ (hw _ (List.mem_of_getElem? (i := 32) rfl))) (g := (mkF m 100 #[.val (.int p1), .val (.int p2), .val (.ref b3), .unset, .unset, .unset] [(.int p1), (.ref b3)])) rfl (hb hby at_100) _ ?_
    show Steps p.tables e below (T45.setTop (mkF m 102 #[.val (.int p1), .val (.int p2), .val (.ref b3), .unset, .unset, .unset] [(.int (2147483647 : Int32)), (.int p1), (.ref b3)])) _
    refine XS.iand X45.here hx rfl (hb hby at_102) rfl ?_
    show Steps p.tables e below (T45.setTop (mkF m 103 #[.val (.int p1), .val (.int p2), .val (.ref b3), .unset, .unset, .unset] [(.int (p1 &&& (2147483647 : Int32))), (.ref b3)])) _
    refine XS.bipush X45.here hx rfl (hb hby at_103) ?_
    show Steps p.tables e below (T45.setTop (mkF m 105 #[.val (.int p1), .val (.int p2), .val (.ref b3), .unset, .unset, .unset] [(.int (14 : Int32)), (.int (p1 &&& (2147483647 : Int32))), (.ref b3)])) _
    refine iremM X45 hx rfl (hb hby at_105) rfl (by decide) ?_
    show Steps p.tables e below (T45.setTop (mkF m 106 #[.val (.int p1), .val (.int p2), .val (.ref b3), .unset, .unset, .unset] [(.int ((p1 &&& (2147483647 : Int32)) % (14 : Int32))), (.ref b3)])) _
    refine X45.aaload hx (j := ((p1 &&& (2147483647 : Int32)) % (14 : Int32))) (v := (.ref w46)) (by rw [e45]; exact Ar_b3.1) (State.isArrayOf_alike hZ.alike Ar_b3.2.1) rfl Ar_b3.2.2 hin106 hat106 (g := (mkF m 106 #[.val (.int p1), .val (.int p2), .val (.ref b3), .unset, .unset, .unset] [(.int ((p1 &&& (2147483647 : Int32)) % (14 : Int32))), (.ref b3)])) rfl rfl (hb hby at_106) _ ?_
    show Steps p.tables e below (T45.setTop (mkF m 107 #[.val (.int p1), .val (.int p2), .val (.ref b3), .unset, .unset, .unset] [(.ref w46)])) _
    refine XS.astoreN X45.here hx rfl (hb hby at_107) rfl rfl (l' := #[.val (.int p1), .val (.int p2), .val (.ref b3), .val (.ref w46), .unset, .unset]) rfl ?_
    show Steps p.tables e below (T45.setTop (mkF m 108 #[.val (.int p1), .val (.int p2), .val (.ref b3), .val (.ref w46), .unset, .unset] [])) _
    refine XS.iloadN X45.here hx rfl (hb hby at_108) rfl ?_
    show Steps p.tables e below (T45.setTop (mkF m 109 #[.val (.int p1), .val (.int p2), .val (.ref b3), .val (.ref w46), .unset, .unset] [(.int p2)])) _
    refine XS.i2s X45.here hx rfl (hb hby at_109) rfl ?_
    show Steps p.tables e below (T45.setTop (mkF m 110 #[.val (.int p1), .val (.int p2), .val (.ref b3), .val (.ref w46), .unset, .unset] [(.int (p2.toInt16.toInt32))])) _
    refine XS.istore X45.here hx rfl (hb hby at_110) rfl (l' := #[.val (.int p1), .val (.int p2), .val (.ref b3), .val (.ref w46), .val (.int (p2.toInt16.toInt32)), .unset]) rfl ?_
    show Steps p.tables e below (T45.setTop (mkF m 112 #[.val (.int p1), .val (.int p2), .val (.ref b3), .val (.ref w46), .val (.int (p2.toInt16.toInt32)), .unset] [])) _
    refine XS.aloadN X45.here hx rfl (hb hby at_112) rfl rfl ?_
    show Steps p.tables e below (T45.setTop (mkF m 113 #[.val (.int p1), .val (.int p2), .val (.ref b3), .val (.ref w46), .val (.int (p2.toInt16.toInt32)), .unset] [(.ref w46)])) _
    refine st47 _ ?_
    show Steps p.tables e below (T47.setTop (mkF m 116 #[.val (.int p1), .val (.int p2), .val (.ref b3), .val (.ref w46), .val (.int (p2.toInt16.toInt32)), .unset] [(.ref w43), (.ref w46)])) _
    refine Jvm.RoadKit.acmp (g := (mkF m 116 #[.val (.int p1), .val (.int p2), .val (.ref b3), .val (.ref w46), .val (.int (p2.toInt16.toInt32)), .unset] [(.ref w43), (.ref w46)])) X47 hx rfl rfl rfl (pc0 := 116) (pc' := 119) (same := true) rfl (hb hby at_116) rfl (decide_eq_true (congrArg Value.ref ha116)) (by decide) (by decide) ?_
    show Steps p.tables e below (T47.setTop (mkF m 119 #[.val (.int p1), .val (.int p2), .val (.ref b3), .val (.ref w46), .val (.int (p2.toInt16.toInt32)), .unset] [])) _
    refine XS.iload X47.here hx rfl (hb hby at_119) rfl ?_
    show Steps p.tables e below (T47.setTop (mkF m 121 #[.val (.int p1), .val (.int p2), .val (.ref b3), .val (.ref w46), .val (.int (p2.toInt16.toInt32)), .unset] [(.int (p2.toInt16.toInt32))])) _
    refine XS.iconst X47.here hx rfl (hb hby at_121) ?_
    show Steps p.tables e below (T47.setTop (mkF m 122 #[.val (.int p1), .val (.int p2), .val (.ref b3), .val (.ref w46), .val (.int (p2.toInt16.toInt32)), .unset] [(.int (3 : Int32)), (.int (p2.toInt16.toInt32))])) _
    refine XS.icmpYes X47.here hx rfl (pc0 := 122) (pc' := 129) rfl (hb hby at_122) rfl (tlt hc122).1 (by decide) (by decide) ?_
    show Steps p.tables e below (T47.setTop (mkF m 129 #[.val (.int p1), .val (.int p2), .val (.ref b3), .val (.ref w46), .val (.int (p2.toInt16.toInt32)), .unset] [])) _
    refine XS.iconst X47.here hx rfl (hb hby at_129) ?_
    show Steps p.tables e below (T47.setTop (mkF m 130 #[.val (.int p1), .val (.int p2), .val (.ref b3), .val (.ref w46), .val (.int (p2.toInt16.toInt32)), .unset] [(.int (0 : Int32))])) _
    refine XS.istore X47.here hx rfl (hb hby at_130) rfl (l' := #[.val (.int p1), .val (.int p2), .val (.ref b3), .val (.ref w46), .val (.int (p2.toInt16.toInt32)), .val (.int (0 : Int32))]) rfl ?_
    show Steps p.tables e below (T47.setTop (mkF m 132 #[.val (.int p1), .val (.int p2), .val (.ref b3), .val (.ref w46), .val (.int (p2.toInt16.toInt32)), .val (.int (0 : Int32))] [])) _
    refine XS.aloadN X47.here hx rfl (hb hby at_132) rfl rfl ?_
    show Steps p.tables e below (T47.setTop (mkF m 133 #[.val (.int p1), .val (.int p2), .val (.ref b3), .val (.ref w46), .val (.int (p2.toInt16.toInt32)), .val (.int (0 : Int32))] [(.ref w46)])) _
    refine XS.iload X47.here hx rfl (hb hby at_133) rfl ?_
    show Steps p.tables e below (T47.setTop (mkF m 135 #[.val (.int p1), .val (.int p2), .val (.ref b3), .val (.ref w46), .val (.int (p2.toInt16.toInt32)), .val (.int (0 : Int32))] [(.int (p2.toInt16.toInt32)), (.ref w46)])) _
    refine st48.trans ?_
    show Steps p.tables e below (T48.setTop (mkF m 138 #[.val (.int p1), .val (.int p2), .val (.ref b3), .val (.ref w46), .val (.int (p2.toInt16.toInt32)), .val (.int (0 : Int32))] [(.int (0 : Int32))])) _
    refine XS.iload X48.here hx rfl (hb hby at_138) rfl ?_
    show Steps p.tables e below (T48.setTop (mkF m 140 #[.val (.int p1), .val (.int p2), .val (.ref b3), .val (.ref w46), .val (.int (p2.toInt16.toInt32)), .val (.int (0 : Int32))] [(.int (0 : Int32)), (.int (0 : Int32))])) _
    refine XS.icmpNo X48.here hx rfl (hb hby at_140) rfl (teq (rfl : (0 : Int32) = (0 : Int32))).2 ?_
    show Steps p.tables e below (T48.setTop (mkF m 143 #[.val (.int p1), .val (.int p2), .val (.ref b3), .val (.ref w46), .val (.int (p2.toInt16.toInt32)), .val (.int (0 : Int32))] [])) _
    refine XS.iconst X48.here hx rfl (hb hby at_143) ?_
    show Steps p.tables e below (T48.setTop (mkF m 144 #[.val (.int p1), .val (.int p2), .val (.ref b3), .val (.ref w46), .val (.int (p2.toInt16.toInt32)), .val (.int (0 : Int32))] [(.int (1 : Int32))])) _
    refine XS.goto X48.here hx rfl (pc0 := 144) (pc' := 148) rfl (hb hby at_144) (by decide) (by decide) ?_
    show Steps p.tables e below (T48.setTop (mkF m 148 #[.val (.int p1), .val (.int p2), .val (.ref b3), .val (.ref w46), .val (.int (p2.toInt16.toInt32)), .val (.int (0 : Int32))] [(.int (1 : Int32))])) _
    exact retN X48 hx (t := .boolean) Bd.returns (by simp) (hb hby at_148) hr
  · show Q0b Z p1 p2 w4 w7 w10 w13 w16 w19 w22 w25 w28 w31 w34 w37 w40 w43 w46 h0 n0 _ T48.heap _
    exact ⟨rfl, N48⟩
theorem pdc_0_0 : parseMethodDescriptor "(S)Z" = some ⟨[.short], some .boolean⟩ := by decide +kernel
def Q0c (Z : State) (p1 : Int32) (p2 : Int32) (w4 : Addr) (w7 : Addr) (w10 : Addr) (w13 : Addr) (w16 : Addr) (w19 : Addr) (w22 : Addr) (w25 : Addr) (w28 : Addr) (w31 : Addr) (w34 : Addr) (w37 : Addr) (w40 : Addr) (w43 : Addr) (w46 : Addr) (h0 : Heap) (n0 : Nat) (v : Option Value) (h : Heap) (L : List Loc) : Prop := v = some (.int (1 : Int32)) ∧ Fr n0 L
set_option maxRecDepth 65536 in
set_option maxHeartbeats 40000000 in
theorem rm0c (l : Launch) (Z : State) (a0 : Array Value) (hw : ∀ d ∈ tables_1, d.before a0 Z = true) (ws : List Jvm.Cond) (p1 : Int32) (p2 : Int32) (w4 : Addr) (w7 : Addr) (w10 : Addr) (w13 : Addr) (w16 : Addr) (w19 : Addr) (w22 : Addr) (w25 : Addr) (w28 : Addr) (w31 : Addr) (w34 : Addr) (w37 : Addr) (w40 : Addr) (w43 : Addr) (w46 : Addr) (h0 : Heap) (n0 : Nat) (Z0 : n0 ≤ h0.size) (S_PRODUCE : Sta Z h0 "com/example/wherry/wherry/protocol/ApiKey" "PRODUCE" "Lcom/example/wherry/wherry/protocol/ApiKey;" (.ref w4)) (E_w4 : Exa Z h0 w4 "com/example/wherry/wherry/protocol/ApiKey") (S_FETCH : Sta Z h0 "com/example/wherry/wherry/protocol/ApiKey" "FETCH" "Lcom/example/wherry/wherry/protocol/ApiKey;" (.ref w7)) (E_w7 : Exa Z h0 w7 "com/example/wherry/wherry/protocol/ApiKey") (S_OFFSETS : Sta Z h0 "com/example/wherry/wherry/protocol/ApiKey" "OFFSETS" "Lcom/example/wherry/wherry/protocol/ApiKey;" (.ref w10)) (E_w10 : Exa Z h0 w10 "com/example/wherry/wherry/protocol/ApiKey") (S_METADATA : Sta Z h0 "com/example/wherry/wherry/protocol/ApiKey" "METADATA" "Lcom/example/wherry/wherry/protocol/ApiKey;" (.ref w13)) (E_w13 : Exa Z h0 w13 "com/example/wherry/wherry/protocol/ApiKey") (S_OFFSET_COMMIT : Sta Z h0 "com/example/wherry/wherry/protocol/ApiKey" "OFFSET_COMMIT" "Lcom/example/wherry/wherry/protocol/ApiKey;" (.ref w16)) (E_w16 : Exa Z h0 w16 "com/example/wherry/wherry/protocol/ApiKey") (S_OFFSET_FETCH : Sta Z h0 "com/example/wherry/wherry/protocol/ApiKey" "OFFSET_FETCH" "Lcom/example/wherry/wherry/protocol/ApiKey;" (.ref w19)) (E_w19 : Exa Z h0 w19 "com/example/wherry/wherry/protocol/ApiKey") (S_GROUP_COORDINATOR : Sta Z h0 "com/example/wherry/wherry/protocol/ApiKey" "GROUP_COORDINATOR" "Lcom/example/wherry/wherry/protocol/ApiKey;" (.ref w22)) (E_w22 : Exa Z h0 w22 "com/example/wherry/wherry/protocol/ApiKey") (S_JOIN_GROUP : Sta Z h0 "com/example/wherry/wherry/protocol/ApiKey" "JOIN_GROUP" "Lcom/example/wherry/wherry/protocol/ApiKey;" (.ref w25)) (E_w25 : Exa Z h0 w25 "com/example/wherry/wherry/protocol/ApiKey") (S_HEARTBEAT : Sta Z h0 "com/example/wherry/wherry/protocol/ApiKey" "HEARTBEAT" "Lcom/example/wherry/wherry/protocol/ApiKey;" (.ref w28)) (E_w28 : Exa Z h0 w28 "com/example/wherry/wherry/protocol/ApiKey") (S_LEAVE_GROUP : Sta Z h0 "com/example/wherry/wherry/protocol/ApiKey" "LEAVE_GROUP" "Lcom/example/wherry/wherry/protocol/ApiKey;" (.ref w31)) (E_w31 : Exa Z h0 w31 "com/example/wherry/wherry/protocol/ApiKey") (S_SYNC_GROUP : Sta Z h0 "com/example/wherry/wherry/protocol/ApiKey" "SYNC_GROUP" "Lcom/example/wherry/wherry/protocol/ApiKey;" (.ref w34)) (E_w34 : Exa Z h0 w34 "com/example/wherry/wherry/protocol/ApiKey") (S_DESCRIBE_GROUPS : Sta Z h0 "com/example/wherry/wherry/protocol/ApiKey" "DESCRIBE_GROUPS" "Lcom/example/wherry/wherry/protocol/ApiKey;" (.ref w37)) (E_w37 : Exa Z h0 w37 "com/example/wherry/wherry/protocol/ApiKey") (S_LIST_GROUPS : Sta Z h0 "com/example/wherry/wherry/protocol/ApiKey" "LIST_GROUPS" "Lcom/example/wherry/wherry/protocol/ApiKey;" (.ref w40)) (E_w40 : Exa Z h0 w40 "com/example/wherry/wherry/protocol/ApiKey") (S_API_VERSIONS : Sta Z h0 "com/example/wherry/wherry/protocol/ApiKey" "API_VERSIONS" "Lcom/example/wherry/wherry/protocol/ApiKey;" (.ref w43)) (E_w43 : Exa Z h0 w43 "com/example/wherry/wherry/protocol/ApiKey") (hj : ¬ ((p1 &&& (2147483647 : Int32)) % (14 : Int32)) < 0 ∧ ((p1 &&& (2147483647 : Int32)) % (14 : Int32)) < 14) (hget : ([(.ref w4), (.ref w7), (.ref w10), (.ref w13), (.ref w16), (.ref w19), (.ref w22), (.ref w25), (.ref w28), (.ref w31), (.ref w34), (.ref w37), (.ref w40), (.ref w43)] : List Value).getD ((p1 &&& (2147483647 : Int32)) % (14 : Int32)).toNatClampNeg .null = .ref w46) (Ff : Fld Z h0 w46 "com/example/wherry/wherry/protocol/ApiKey" "firstFlexibleVersion" "S" (.int (3 : Int32))) (Fm : Fld Z h0 w46 "com/example/wherry/wherry/protocol/ApiKey" "maxVersion" "S" (.int (3 : Int32))) (E_w46 : Exa Z h0 w46 "com/example/wherry/wherry/protocol/ApiKey") (ha116 : w46 = w43) (hc122 : ¬ ((p2.toInt16.toInt32) < (3 : Int32))) :
    MetFree l x (head1 (Jvm.Cond.code x code maxLocals ret :: ws) room_1) (fun a U => a = #[(.int p1), (.int p2)] ∧ Z.Warmed39 U.vm ∧ U.heap = h0) (fun _ _ _ _ _ => True) (fun _ U o U' => ∃ v L, o = .returned v ∧ Q0c Z p1 p2 w4 w7 w10 w13 w16 w19 w22 w25 w28 w31 w34 w37 w40 w43 w46 h0 n0 v U'.heap L ∧ FrameEnd U o U' L room_1.cells room_1.slots) := by
  refine MetFree.of_bodySF (plainFor_of_name pn_0) hisR ?_
  intro p e s m args below meth c s₁ Bd hml0 hP hK
  obtain ⟨rfl, hZ, hh⟩ := hP
  have hx := Bd.exec
  have hby := Bd.bytes
  have hml : c.maxLocals = 6 := hml0
  have hown : s.vm.findClass "com/example/wherry/wherry/protocol/ApiKeyIsFlexiblePinLaw" = some m.cls := findClass_of_methodNamed Bd.named
  have hnm := (name_of_methodNamed Bd.named Bd.method).1
  have X0 : Stand p l e room_1 s m #[(.int p1), (.int p2)] below meth c s₁ [] 0 0 := Stand.of_body Bd
  have e0 : s₁.heap = h0 := by rw [← hh, Bd.state]; rfl
  have N0 := Fr.nil n0
  have pre0 : ∀ t, Steps p.tables e below (s₁.setTop (mkF m 0 #[.val (.int p1), .val (.int p2), .unset, .unset, .unset, .unset] [])) t → Steps p.tables e below (s₁.setTop (entryFrame m #[(.int p1), (.int p2)] maxLocals)) t := fun t k => castTop (ef_0 m p1 p2) k
  obtain ⟨T3, h3, k3, X3, e3, E3, A3, O3, st3⟩ := newR X0 hx hZ hown (hw _ (List.mem_of_getElem? (i := 0) rfl)) (hw _ (List.mem_of_getElem? (i := 1) rfl)) e0 (g := (mkF m 2 #[.val (.int p1), .val (.int p2), .unset, .unset, .unset, .unset] [(.int (14 : Int32))])) rfl (hb hby at_2) rfl (by decide) (cap := 14) (by decide) (by decide) (by decide) (by decide)
  obtain ⟨b3, g3⟩ : ∃ z, z = h0.size := ⟨_, rfl⟩
  rw [← g3] at A3 st3
  have V3 : Arv Z h3 b3 k3 (.object "com/example/wherry/wherry/protocol/ApiKey") (14 : Int32) [.null, .null, .null, .null, .null, .null, .null, .null, .null, .null, .null, .null, .null, .null] .null := (Arv.new A3 (by decide)).pad (pad_rep [] .null 14)
  have g_b3 : n0 ≤ b3 := Nat.le_trans Z0 (Nat.le_of_eq g3.symm)
  have sz_b3 : h0.size ≤ b3 := (Nat.le_trans (Keep.refl h0 []).1 (Nat.le_of_eq g3.symm))
  have K3 : Keep h0 h3 [] := (Keep.refl h0 []).ext E3
  obtain ⟨T5, X5, e5, st5⟩ := getS2 X3 hx hZ hown (host := "") (Or.inl (hw _ (List.mem_of_getElem? (i := 2) rfl))) Via.refl e3 (own_sta K3 S_PRODUCE) (g := (mkF m 7 #[.val (.int p1), .val (.int p2), .unset, .unset, .unset, .unset] [(.int (0 : Int32)), (.ref b3), (.ref b3)])) rfl (hb hby at_7)
  obtain ⟨cl6, Ar6, q6, S6, Z6, H6, G6⟩ := V3
  obtain ⟨T6, h6, X6, e6, W6, st6⟩ := stR X5 hx hZ e5 Ar6 (j := (0 : Int32)) (inb_of S6 ⟨by decide, by decide⟩) rfl (Sto.ofV Ar6 q6 O3 (Ins.self (E_w4.keep K3))) (g := (mkF m 10 #[.val (.int p1), .val (.int p2), .unset, .unset, .unset, .unset] [(.ref w4), (.int (0 : Int32)), (.ref b3), (.ref b3)])) rfl rfl (hb hby at_10)
  have V6 : Arv Z h6 b3 k3 (.object "com/example/wherry/wherry/protocol/ApiKey") (14 : Int32) [(.ref w4), .null, .null, .null, .null, .null, .null, .null, .null, .null, .null, .null, .null, .null] .null := Arv.set Ar6 q6 S6 Z6 H6 G6 (v := .ref w4) rfl W6 0 rfl (by show 0 < 14; decide)
  have N6 := Fr.snoc X6 N0 g_b3
  have K6 : Keep h0 h6 [] := K3.wr W6 (Or.inr sz_b3)
  obtain ⟨T8, X8, e8, st8⟩ := getS2 X6 hx hZ hown (host := "") (Or.inl (hw _ (List.mem_of_getElem? (i := 6) rfl))) Via.refl e6 (own_sta K6 S_FETCH) (g := (mkF m 13 #[.val (.int p1), .val (.int p2), .unset, .unset, .unset, .unset] [(.int (1 : Int32)), (.ref b3), (.ref b3)])) rfl (hb hby at_13)
  obtain ⟨cl9, Ar9, q9, S9, Z9, H9, G9⟩ := V6
  obtain ⟨T9, h9, X9, e9, W9, st9⟩ := stR X8 hx hZ e8 Ar9 (j := (1 : Int32)) (inb_of S9 ⟨by decide, by decide⟩) rfl (Sto.ofV Ar9 q9 O3 (Ins.self (E_w7.keep K6))) (g := (mkF m 16 #[.val (.int p1), .val (.int p2), .unset, .unset, .unset, .unset] [(.ref w7), (.int (1 : Int32)), (.ref b3), (.ref b3)])) rfl rfl (hb hby at_16)
  have V9 : Arv Z h9 b3 k3 (.object "com/example/wherry/wherry/protocol/ApiKey") (14 : Int32) [(.ref w4), (.ref w7), .null, .null, .null, .null, .null, .null, .null, .null, .null, .null, .null, .null] .null := Arv.set Ar9 q9 S9 Z9 H9 G9 (v := .ref w7) rfl W9 1 rfl (by show 1 < 14; decide)
  have N9 := Fr.snoc X9 N6 g_b3
  have K9 : Keep h0 h9 [] := K6.wr W9 (Or.inr sz_b3)
  obtain ⟨T11, X11, e11, st11⟩ := getS2 X9 hx hZ hown (host := "") (Or.inl (hw _ (List.mem_of_getElem? (i := 8) rfl))) Via.refl e9 (own_sta K9 S_OFFSETS) (g := (mkF m 19 #[.val (.int p1), .val (.int p2), .unset, .unset, .unset, .unset] [(.int (2 : Int32)), (.ref b3), (.ref b3)])) rfl (hb hby at_19)
  obtain ⟨cl12, Ar12, q12, S12, Z12, H12, G12⟩ := V9
  obtain ⟨T12, h12, X12, e12, W12, st12⟩ := stR X11 hx hZ e11 Ar12 (j := (2 : Int32)) (inb_of S12 ⟨by decide, by decide⟩) rfl (Sto.ofV Ar12 q12 O3 (Ins.self (E_w10.keep K9))) (g := (mkF m 22 #[.val (.int p1), .val (.int p2), .unset, .unset, .unset, .unset] [(.ref w10), (.int (2 : Int32)), (.ref b3), (.ref b3)])) rfl rfl (hb hby at_22)
  have V12 : Arv Z h12 b3 k3 (.object "com/example/wherry/wherry/protocol/ApiKey") (14 : Int32) [(.ref w4), (.ref w7), (.ref w10), .null, .null, .null, .null, .null, .null, .null, .null, .null, .null, .null] .null := Arv.set Ar12 q12 S12 Z12 H12 G12 (v := .ref w10) rfl W12 2 rfl (by show 2 < 14; decide)
  have N12 := Fr.snoc X12 N9 g_b3
  have K12 : Keep h0 h12 [] := K9.wr W12 (Or.inr sz_b3)
  obtain ⟨T14, X14, e14, st14⟩ := getS2 X12 hx hZ hown (host := "") (Or.inl (hw _ (List.mem_of_getElem? (i := 10) rfl))) Via.refl e12 (own_sta K12 S_METADATA) (g := (mkF m 25 #[.val (.int p1), .val (.int p2), .unset, .unset, .unset, .unset] [(.int (3 : Int32)), (.ref b3), (.ref b3)])) rfl (hb hby at_25)
  obtain ⟨cl15, Ar15, q15, S15, Z15, H15, G15⟩ := V12
  obtain ⟨T15, h15, X15, e15, W15, st15⟩ := stR X14 hx hZ e14 Ar15 (j := (3 : Int32)) (inb_of S15 ⟨by decide, by decide⟩) rfl (Sto.ofV Ar15 q15 O3 (Ins.self (E_w13.keep K12))) (g := (mkF m 28 #[.val (.int p1), .val (.int p2), .unset, .unset, .unset, .unset] [(.ref w13), (.int (3 : Int32)), (.ref b3), (.ref b3)])) rfl rfl (hb hby at_28)
  have V15 : Arv Z h15 b3 k3 (.object "com/example/wherry/wherry/protocol/ApiKey") (14 : Int32) [(.ref w4), (.ref w7), (.ref w10), (.ref w13), .null, .null, .null, .null, .null, .null, .null, .null, .null, .null] .null := Arv.set Ar15 q15 S15 Z15 H15 G15 (v := .ref w13) rfl W15 3 rfl (by show 3 < 14; decide)
  have N15 := Fr.snoc X15 N12 g_b3
  have K15 : Keep h0 h15 [] := K12.wr W15 (Or.inr sz_b3)
  obtain ⟨T17, X17, e17, st17⟩ := getS2 X15 hx hZ hown (host := "") (Or.inl (hw _ (List.mem_of_getElem? (i := 12) rfl))) Via.refl e15 (own_sta K15 S_OFFSET_COMMIT) (g := (mkF m 31 #[.val (.int p1), .val (.int p2), .unset, .unset, .unset, .unset] [(.int (4 : Int32)), (.ref b3), (.ref b3)])) rfl (hb hby at_31)
  obtain ⟨cl18, Ar18, q18, S18, Z18, H18, G18⟩ := V15
  obtain ⟨T18, h18, X18, e18, W18, st18⟩ := stR X17 hx hZ e17 Ar18 (j := (4 : Int32)) (inb_of S18 ⟨by decide, by decide⟩) rfl (Sto.ofV Ar18 q18 O3 (Ins.self (E_w16.keep K15))) (g := (mkF m 34 #[.val (.int p1), .val (.int p2), .unset, .unset, .unset, .unset] [(.ref w16), (.int (4 : Int32)), (.ref b3), (.ref b3)])) rfl rfl (hb hby at_34)
  have V18 : Arv Z h18 b3 k3 (.object "com/example/wherry/wherry/protocol/ApiKey") (14 : Int32) [(.ref w4), (.ref w7), (.ref w10), (.ref w13), (.ref w16), .null, .null, .null, .null, .null, .null, .null, .null, .null] .null := Arv.set Ar18 q18 S18 Z18 H18 G18 (v := .ref w16) rfl W18 4 rfl (by show 4 < 14; decide)
  have N18 := Fr.snoc X18 N15 g_b3
  have K18 : Keep h0 h18 [] := K15.wr W18 (Or.inr sz_b3)
  obtain ⟨T20, X20, e20, st20⟩ := getS2 X18 hx hZ hown (host := "") (Or.inl (hw _ (List.mem_of_getElem? (i := 14) rfl))) Via.refl e18 (own_sta K18 S_OFFSET_FETCH) (g := (mkF m 37 #[.val (.int p1), .val (.int p2), .unset, .unset, .unset, .unset] [(.int (5 : Int32)), (.ref b3), (.ref b3)])) rfl (hb hby at_37)
  obtain ⟨cl21, Ar21, q21, S21, Z21, H21, G21⟩ := V18
  obtain ⟨T21, h21, X21, e21, W21, st21⟩ := stR X20 hx hZ e20 Ar21 (j := (5 : Int32)) (inb_of S21 ⟨by decide, by decide⟩) rfl (Sto.ofV Ar21 q21 O3 (Ins.self (E_w19.keep K18))) (g := (mkF m 40 #[.val (.int p1), .val (.int p2), .unset, .unset, .unset, .unset] [(.ref w19), (.int (5 : Int32)), (.ref b3), (.ref b3)])) rfl rfl (hb hby at_40)
  have V21 : Arv Z h21 b3 k3 (.object "com/example/wherry/wherry/protocol/ApiKey") (14 : Int32) [(.ref w4), (.ref w7), (.ref w10), (.ref w13), (.ref w16), (.ref w19), .null, .null, .null, .null, .null, .null, .null, .null] .null := Arv.set Ar21 q21 S21 Z21 H21 G21 (v := .ref w19) rfl W21 5 rfl (by show 5 < 14; decide)
  have N21 := Fr.snoc X21 N18 g_b3
  have K21 : Keep h0 h21 [] := K18.wr W21 (Or.inr sz_b3)
  obtain ⟨T23, X23, e23, st23⟩ := getS2 X21 hx hZ hown (host := "") (Or.inl (hw _ (List.mem_of_getElem? (i := 16) rfl))) Via.refl e21 (own_sta K21 S_GROUP_COORDINATOR) (g := (mkF m 44 #[.val (.int p1), .val (.int p2), .unset, .unset, .unset, .unset] [(.int (6 : Int32)), (.ref b3), (.ref b3)])) rfl (hb hby at_44)
  obtain ⟨cl24, Ar24, q24, S24, Z24, H24, G24⟩ := V21
  obtain ⟨T24, h24, X24, e24, W24, st24⟩ := stR X23 hx hZ e23 Ar24 (j := (6 : Int32)) (inb_of S24 ⟨by decide, by decide⟩) rfl (Sto.ofV Ar24 q24 O3 (Ins.self (E_w22.keep K21))) (g := (mkF m 47 #[.val (.int p1), .val (.int p2), .unset, .unset, .unset, .unset] [(.ref w22), (.int (6 : Int32)), (.ref b3), (.ref b3)])) rfl rfl (hb hby at_47)
  have V24 : Arv Z h24 b3 k3 (.object "com/example/wherry/wherry/protocol/ApiKey") (14 : Int32) [(.ref w4), (.ref w7), (.ref w10), (.ref w13), (.ref w16), (.ref w19), (.ref w22), .null, .null, .null, .null, .null, .null, .null] .null := Arv.set Ar24 q24 S24 Z24 H24 G24 (v := .ref w22) rfl W24 6 rfl (by show 6 < 14; decide)
  have N24 := Fr.snoc X24 N21 g_b3
  have K24 : Keep h0 h24 [] := K21.wr W24 (Or.inr sz_b3)
  obtain ⟨T26, X26, e26, st26⟩ := getS2 X24 hx hZ hown (host := "") (Or.inl (hw _ (List.mem_of_getElem? (i := 18) rfl))) Via.refl e24 (own_sta K24 S_JOIN_GROUP) (g := (mkF m 51 #[.val (.int p1), .val (.int p2), .unset, .unset, .unset, .unset] [(.int (7 : Int32)), (.ref b3), (.ref b3)])) rfl (hb hby at_51)
  obtain ⟨cl27, Ar27, q27, S27, Z27, H27, G27⟩ := V24
  obtain ⟨T27, h27, X27, e27, W27, st27⟩ := stR X26 hx hZ e26 Ar27 (j := (7 : Int32)) (inb_of S27 ⟨by decide, by decide⟩) rfl (Sto.ofV Ar27 q27 O3 (Ins.self (E_w25.keep K24))) (g := (mkF m 54 #[.val (.int p1), .val (.int p2), .unset, .unset, .unset, .unset] [(.ref w25), (.int (7 : Int32)), (.ref b3), (.ref b3)])) rfl rfl (hb hby at_54)
  have V27 : Arv Z h27 b3 k3 (.object "com/example/wherry/wherry/protocol/ApiKey") (14 : Int32) [(.ref w4), (.ref w7), (.ref w10), (.ref w13), (.ref w16), (.ref w19), (.ref w22), (.ref w25), .null, .null, .null, .null, .null, .null] .null := Arv.set Ar27 q27 S27 Z27 H27 G27 (v := .ref w25) rfl W27 7 rfl (by show 7 < 14; decide)
  have N27 := Fr.snoc X27 N24 g_b3
  have K27 : Keep h0 h27 [] := K24.wr W27 (Or.inr sz_b3)
  obtain ⟨T29, X29, e29, st29⟩ := getS2 X27 hx hZ hown (host := "") (Or.inl (hw _ (List.mem_of_getElem? (i := 20) rfl))) Via.refl e27 (own_sta K27 S_HEARTBEAT) (g := (mkF m 58 #[.val (.int p1), .val (.int p2), .unset, .unset, .unset, .unset] [(.int (8 : Int32)), (.ref b3), (.ref b3)])) rfl (hb hby at_58)
  obtain ⟨cl30, Ar30, q30, S30, Z30, H30, G30⟩ := V27
  obtain ⟨T30, h30, X30, e30, W30, st30⟩ := stR X29 hx hZ e29 Ar30 (j := (8 : Int32)) (inb_of S30 ⟨by decide, by decide⟩) rfl (Sto.ofV Ar30 q30 O3 (Ins.self (E_w28.keep K27))) (g := (mkF m 61 #[.val (.int p1), .val (.int p2), .unset, .unset, .unset, .unset] [(.ref w28), (.int (8 : Int32)), (.ref b3), (.ref b3)])) rfl rfl (hb hby at_61)
  have V30 : Arv Z h30 b3 k3 (.object "com/example/wherry/wherry/protocol/ApiKey") (14 : Int32) [(.ref w4), (.ref w7), (.ref w10), (.ref w13), (.ref w16), (.ref w19), (.ref w22), (.ref w25), (.ref w28), .null, .null, .null, .null, .null] .null := Arv.set Ar30 q30 S30 Z30 H30 G30 (v := .ref w28) rfl W30 8 rfl (by show 8 < 14; decide)
  have N30 := Fr.snoc X30 N27 g_b3
  have K30 : Keep h0 h30 [] := K27.wr W30 (Or.inr sz_b3)
  obtain ⟨T32, X32, e32, st32⟩ := getS2 X30 hx hZ hown (host := "") (Or.inl (hw _ (List.mem_of_getElem? (i := 22) rfl))) Via.refl e30 (own_sta K30 S_LEAVE_GROUP) (g := (mkF m 65 #[.val (.int p1), .val (.int p2), .unset, .unset, .unset, .unset] [(.int (9 : Int32)), (.ref b3), (.ref b3)])) rfl (hb hby at_65)
  obtain ⟨cl33, Ar33, q33, S33, Z33, H33, G33⟩ := V30
  obtain ⟨T33, h33, X33, e33, W33, st33⟩ := stR X32 hx hZ e32 Ar33 (j := (9 : Int32)) (inb_of S33 ⟨by decide, by decide⟩) rfl (Sto.ofV Ar33 q33 O3 (Ins.self (E_w31.keep K30))) (g := (mkF m 68 #[.val (.int p1), .val (.int p2), .unset, .unset, .unset, .unset] [(.ref w31), (.int (9 : Int32)), (.ref b3), (.ref b3)])) rfl rfl (hb hby at_68)
  have V33 : Arv Z h33 b3 k3 (.object "com/example/wherry/wherry/protocol/ApiKey") (14 : Int32) [(.ref w4), (.ref w7), (.ref w10), (.ref w13), (.ref w16), (.ref w19), (.ref w22), (.ref w25), (.ref w28), (.ref w31), .null, .null, .null, .null] .null := Arv.set Ar33 q33 S33 Z33 H33 G33 (v := .ref w31) rfl W33 9 rfl (by show 9 < 14; decide)
  have N33 := Fr.snoc X33 N30 g_b3
  have K33 : Keep h0 h33 [] := K30.wr W33 (Or.inr sz_b3)
  obtain ⟨T35, X35, e35, st35⟩ := getS2 X33 hx hZ hown (host := "") (Or.inl (hw _ (List.mem_of_getElem? (i := 24) rfl))) Via.refl e33 (own_sta K33 S_SYNC_GROUP) (g := (mkF m 72 #[.val (.int p1), .val (.int p2), .unset, .unset, .unset, .unset] [(.int (10 : Int32)), (.ref b3), (.ref b3)])) rfl (hb hby at_72)
  obtain ⟨cl36, Ar36, q36, S36, Z36, H36, G36⟩ := V33
  obtain ⟨T36, h36, X36, e36, W36, st36⟩ := stR X35 hx hZ e35 Ar36 (j := (10 : Int32)) (inb_of S36 ⟨by decide, by decide⟩) rfl (Sto.ofV Ar36 q36 O3 (Ins.self (E_w34.keep K33))) (g := (mkF m 75 #[.val (.int p1), .val (.int p2), .unset, .unset, .unset, .unset] [(.ref w34), (.int (10 : Int32)), (.ref b3), (.ref b3)])) rfl rfl (hb hby at_75)
  have V36 : Arv Z h36 b3 k3 (.object "com/example/wherry/wherry/protocol/ApiKey") (14 : Int32) [(.ref w4), (.ref w7), (.ref w10), (.ref w13), (.ref w16), (.ref w19), (.ref w22), (.ref w25), (.ref w28), (.ref w31), (.ref w34), .null, .null, .null] .null := Arv.set Ar36 q36 S36 Z36 H36 G36 (v := .ref w34) rfl W36 10 rfl (by show 10 < 14; decide)
  have N36 := Fr.snoc X36 N33 g_b3
  have K36 : Keep h0 h36 [] := K33.wr W36 (Or.inr sz_b3)
  obtain ⟨T38, X38, e38, st38⟩ := getS2 X36 hx hZ hown (host := "") (Or.inl (hw _ (List.mem_of_getElem? (i := 26) rfl))) Via.refl e36 (own_sta K36 S_DESCRIBE_GROUPS) (g := (mkF m 79 #[.val (.int p1), .val (.int p2), .unset, .unset, .unset, .unset] [(.int (11 : Int32)), (.ref b3), (.ref b3)])) rfl (hb hby at_79)
  obtain ⟨cl39, Ar39, q39, S39, Z39, H39, G39⟩ := V36
  obtain ⟨T39, h39, X39, e39, W39, st39⟩ := stR X38 hx hZ e38 Ar39 (j := (11 : Int32)) (inb_of S39 ⟨by decide, by decide⟩) rfl (Sto.ofV Ar39 q39 O3 (Ins.self (E_w37.keep K36))) (g := (mkF m 82 #[.val (.int p1), .val (.int p2), .unset, .unset, .unset, .unset] [(.ref w37), (.int (11 : Int32)), (.ref b3), (.ref b3)])) rfl rfl (hb hby at_82)
  have V39 : Arv Z h39 b3 k3 (.object "com/example/wherry/wherry/protocol/ApiKey") (14 : Int32) [(.ref w4), (.ref w7), (.ref w10), (.ref w13), (.ref w16), (.ref w19), (.ref w22), (.ref w25), (.ref w28), (.ref w31), (.ref w34), (.ref w37), .null, .null] .null := Arv.set Ar39 q39 S39 Z39 H39 G39 (v := .ref w37) rfl W39 11 rfl (by show 11 < 14; decide)
  have N39 := Fr.snoc X39 N36 g_b3
  have K39 : Keep h0 h39 [] := K36.wr W39 (Or.inr sz_b3)
  obtain ⟨T41, X41, e41, st41⟩ := getS2 X39 hx hZ hown (host := "") (Or.inl (hw _ (List.mem_of_getElem? (i := 28) rfl))) Via.refl e39 (own_sta K39 S_LIST_GROUPS) (g := (mkF m 86 #[.val (.int p1), .val (.int p2), .unset, .unset, .unset, .unset] [(.int (12 : Int32)), (.ref b3), (.ref b3)])) rfl (hb hby at_86)
  obtain ⟨cl42, Ar42, q42, S42, Z42, H42, G42⟩ := V39
  obtain ⟨T42, h42, X42, e42, W42, st42⟩ := stR X41 hx hZ e41 Ar42 (j := (12 : Int32)) (inb_of S42 ⟨by decide, by decide⟩) rfl (Sto.ofV Ar42 q42 O3 (Ins.self (E_w40.keep K39))) (g := (mkF m 89 #[.val (.int p1), .val (.int p2), .unset, .unset, .unset, .unset] [(.ref w40), (.int (12 : Int32)), (.ref b3), (.ref b3)])) rfl rfl (hb hby at_89)
  have V42 : Arv Z h42 b3 k3 (.object "com/example/wherry/wherry/protocol/ApiKey") (14 : Int32) [(.ref w4), (.ref w7), (.ref w10), (.ref w13), (.ref w16), (.ref w19), (.ref w22), (.ref w25), (.ref w28), (.ref w31), (.ref w34), (.ref w37), (.ref w40), .null] .null := Arv.set Ar42 q42 S42 Z42 H42 G42 (v := .ref w40) rfl W42 12 rfl (by show 12 < 14; decide)
  have N42 := Fr.snoc X42 N39 g_b3
  have K42 : Keep h0 h42 [] := K39.wr W42 (Or.inr sz_b3)
  obtain ⟨T44, X44, e44, st44⟩ := getS2 X42 hx hZ hown (host := "") (Or.inl (hw _ (List.mem_of_getElem? (i := 30) rfl))) Via.refl e42 (own_sta K42 S_API_VERSIONS) (g := (mkF m 93 #[.val (.int p1), .val (.int p2), .unset, .unset, .unset, .unset] [(.int (13 : Int32)), (.ref b3), (.ref b3)])) rfl (hb hby at_93)
  obtain ⟨cl45, Ar45, q45, S45, Z45, H45, G45⟩ := V42
  obtain ⟨T45, h45, X45, e45, W45, st45⟩ := stR X44 hx hZ e44 Ar45 (j := (13 : Int32)) (inb_of S45 ⟨by decide, by decide⟩) rfl (Sto.ofV Ar45 q45 O3 (Ins.self (E_w43.keep K42))) (g := (mkF m 96 #[.val (.int p1), .val (.int p2), .unset, .unset, .unset, .unset] [(.ref w43), (.int (13 : Int32)), (.ref b3), (.ref b3)])) rfl rfl (hb hby at_96)
  have V45 : Arv Z h45 b3 k3 (.object "com/example/wherry/wherry/protocol/ApiKey") (14 : Int32) [(.ref w4), (.ref w7), (.ref w10), (.ref w13), (.ref w16), (.ref w19), (.ref w22), (.ref w25), (.ref w28), (.ref w31), (.ref w34), (.ref w37), (.ref w40), (.ref w43)] .null := Arv.set Ar45 q45 S45 Z45 H45 G45 (v := .ref w43) rfl W45 13 rfl (by show 13 < 14; decide)
  have N45 := Fr.snoc X45 N42 g_b3
  have K45 : Keep h0 h45 [] := K42.wr W45 (Or.inr sz_b3)
  obtain ⟨cl_b3, Ar_b3, q_b3, S_b3, Z_b3, H_b3, G_b3⟩ := V45
  have hin106 := inb_of S_b3 hj
  have hat106 := H_b3.at hin106 hget
  obtain ⟨T47, X47, e47, st47⟩ := getS2 X45 hx hZ hown (host := "") (Or.inl (hw _ (List.mem_of_getElem? (i := 30) rfl))) Via.refl e45 (own_sta K45 S_API_VERSIONS) (g := (mkF m 113 #[.val (.int p1), .val (.int p2), .val (.ref b3), .val (.ref w46), .val (.int (p2.toInt16.toInt32)), .unset] [(.ref w46)])) rfl (hb hby at_113)
  obtain ⟨cq48, kq48, q48a, q48b, q48c⟩ := isOf hZ e47 (((((((((((((((E_w46.ext E3).wr W6).wr W9).wr W12).wr W15).wr W18).wr W21).wr W24).wr W27).wr W30).wr W33).wr W36).wr W39).wr W42).wr W45)
  obtain ⟨_, _, ⟨T48, L48, k48, n48⟩, -, X48, ⟨Lc48, hQ48, l48, y48, z48⟩, st48⟩ := X47.virtualBack hx (y := (⟨"com/example/wherry/wherry/protocol/ApiKey", "isFlexible", "(S)Z"⟩ : MethodName)) (z := (⟨"com/example/wherry/wherry/protocol/ApiKey", "isFlexible", "(S)Z"⟩ : MethodName)) hown (mvT hZ (hw _ (List.mem_of_getElem? (i := 33) rfl))) (mvT hZ (hw _ (List.mem_of_getElem? (i := 34) rfl))) (notFace_of_selects (args := #[]) (mvT hZ (hw _ (List.mem_of_getElem? (i := 36) rfl)))) (mvT hZ (hw _ (List.mem_of_getElem? (i := 36) rfl))) (mvT hZ (hw _ (List.mem_of_getElem? (i := 35) rfl))) (by decide) (backOf (W := 0) (rm1ff l Z a0 hw [] w46 (p2.toInt16.toInt32) (3 : Int32) (3 : Int32) h45 n0 (Nat.le_trans Z0 K45.1) (Ff.keep K45 nin0) (Fm.keep K45 nin0) (by decide) hc122) hZ (hw _ (List.mem_of_getElem? (i := 37) rfl)) (hw _ (List.mem_of_getElem? (i := 3) rfl)) (by decide) (by decide)) q48a q48c (g := (mkF m 135 #[.val (.int p1), .val (.int p2), .val (.ref b3), .val (.ref w46), .val (.int (p2.toInt16.toInt32)), .val (.int (1 : Int32))] [(.int (p2.toInt16.toInt32)), (.ref w46)])) rfl (by rw [hml]; rfl) (Steps.refl _) (argsL := [(.int (p2.toInt16.toInt32))]) (rest := []) (lenOf pdc_0_0 rfl) rfl (by show 2 * 0 + _ ≤ _; exact Nat.le_of_eq rfl) (hb hby at_135) (fun _ _ => ⟨rfl, e47, (by decide : 1 + 0 ≤ _), (by decide : 14 + 0 ≤ _)⟩)
  dsimp only [Pt.U, Pt.locs, Pt.cells, Pt.slots] at X48 l48 y48 z48 st48 hQ48
  subst l48 y48 z48
  obtain ⟨rfl, N48q, eh48⟩ := hQ48
  have N48 := Fr.app N45 N48q
  obtain ⟨fs, hr, hrun, hended, hW, hsame⟩ := X48.leave (v := some (.int (1 : Int32))) (fun h => by rw [Bd.returns] at h; cases h)
  refine ⟨_, _, pre0 _ ?_, hrun, hended, _, _, rfl, ?_, ⟨_, rfl⟩, hW, hsame.mono (by decide) (by decide)⟩
  · show Steps p.tables e below (s₁.setTop (mkF m 0 #[.val (.int p1), .val (.int p2), .unset, .unset, .unset, .unset] [])) _
    refine XS.bipush X0.here hx rfl (hb hby at_0) ?_
    show Steps p.tables e below (s₁.setTop (mkF m 2 #[.val (.int p1), .val (.int p2), .unset, .unset, .unset, .unset] [(.int (14 : Int32))])) _
    refine st3 _ ?_
    show Steps p.tables e below (T3.setTop (mkF m 5 #[.val (.int p1), .val (.int p2), .unset, .unset, .unset, .unset] [(.ref b3)])) _
    refine XS.dup X3.here hx rfl (hb hby at_5) rfl rfl ?_
    show Steps p.tables e below (T3.setTop (mkF m 6 #[.val (.int p1), .val (.int p2), .unset, .unset, .unset, .unset] [(.ref b3), (.ref b3)])) _
    refine XS.iconst X3.here hx rfl (hb hby at_6) ?_
    show Steps p.tables e below (T3.setTop (mkF m 7 #[.val (.int p1), .val (.int p2), .unset, .unset, .unset, .unset] [(.int (0 : Int32)), (.ref b3), (.ref b3)])) _
    refine st5 _ ?_
    show Steps p.tables e below (T5.setTop (mkF m 10 #[.val (.int p1), .val (.int p2), .unset, .unset, .unset, .unset] [(.ref w4), (.int (0 : Int32)), (.ref b3), (.ref b3)])) _
    refine st6 _ ?_
    show Steps p.tables e below (T6.setTop (mkF m 11 #[.val (.int p1), .val (.int p2), .unset, .unset, .unset, .unset] [(.ref b3)])) _
    refine XS.dup X6.here hx rfl (hb hby at_11) rfl rfl ?_
    show Steps p.tables e below (T6.setTop (mkF m 12 #[.val (.int p1), .val (.int p2), .unset, .unset, .unset, .unset] [(.ref b3), (.ref b3)])) _
    refine XS.iconst X6.here hx rfl (hb hby at_12) ?_
    show Steps p.tables e below (T6.setTop (mkF m 13 #[.val (.int p1), .val (.int p2), .unset, .unset, .unset, .unset] [(.int (1 : Int32)), (.ref b3), (.ref b3)])) _
    refine st8 _ ?_
    show Steps p.tables e below (T8.setTop (mkF m 16 #[.val (.int p1), .val (.int p2), .unset, .unset, .unset, .unset] [(.ref w7), (.int (1 : Int32)), (.ref b3), (.ref b3)])) _
    refine st9 _ ?_
    show Steps p.tables e below (T9.setTop (mkF m 17 #[.val (.int p1), .val (.int p2), .unset, .unset, .unset, .unset] [(.ref b3)])) _
    refine XS.dup X9.here hx rfl (hb hby at_17) rfl rfl ?_
    show Steps p.tables e below (T9.setTop (mkF m 18 #[.val (.int p1), .val (.int p2), .unset, .unset, .unset, .unset] [(.ref b3), (.ref b3)])) _
    refine XS.iconst X9.here hx rfl (hb hby at_18) ?_
    show Steps p.tables e below (T9.setTop (mkF m 19 #[.val (.int p1), .val (.int p2), .unset, .unset, .unset, .unset] [(.int (2 : Int32)), (.ref b3), (.ref b3)])) _
    refine st11 _ ?_
    show Steps p.tables e below (T11.setTop (mkF m 22 #[.val (.int p1), .val (.int p2), .unset, .unset, .unset, .unset] [(.ref w10), (.int (2 : Int32)), (.ref b3), (.ref b3)])) _
    refine st12 _ ?_
    show Steps p.tables e below (T12.setTop (mkF m 23 #[.val (.int p1), .val (.int p2), .unset, .unset, .unset, .unset] [(.ref b3)])) _
    refine XS.dup X12.here hx rfl (hb hby at_23) rfl rfl ?_
    show Steps p.tables e below (T12.setTop (mkF m 24 #[.val (.int p1), .val (.int p2), .unset, .unset, .unset, .unset] [(.ref b3), (.ref b3)])) _
    refine XS.iconst X12.here hx rfl (hb hby at_24) ?_
    show Steps p.tables e below (T12.setTop (mkF m 25 #[.val (.int p1), .val (.int p2), .unset, .unset, .unset, .unset] [(.int (3 : Int32)), (.ref b3), (.ref b3)])) _
    refine st14 _ ?_
    show Steps p.tables e below (T14.setTop (mkF m 28 #[.val (.int p1), .val (.int p2), .unset, .unset, .unset, .unset] [(.ref w13), (.int (3 : Int32)), (.ref b3), (.ref b3)])) _
    refine st15 _ ?_
    show Steps p.tables e below (T15.setTop (mkF m 29 #[.val (.int p1), .val (.int p2), .unset, .unset, .unset, .unset] [(.ref b3)])) _
    refine XS.dup X15.here hx rfl (hb hby at_29) rfl rfl ?_
    show Steps p.tables e below (T15.setTop (mkF m 30 #[.val (.int p1), .val (.int p2), .unset, .unset, .unset, .unset] [(.ref b3), (.ref b3)])) _
    refine XS.iconst X15.here hx rfl (hb hby at_30) ?_
    show Steps p.tables e below (T15.setTop (mkF m 31 #[.val (.int p1), .val (.int p2), .unset, .unset, .unset, .unset] [(.int (4 : Int32)), (.ref b3), (.ref b3)])) _
    refine st17 _ ?_
    show Steps p.tables e below (T17.setTop (mkF m 34 #[.val (.int p1), .val (.int p2), .unset, .unset, .unset, .unset] [(.ref w16), (.int (4 : Int32)), (.ref b3), (.ref b3)])) _
    refine st18 _ ?_
    show Steps p.tables e below (T18.setTop (mkF m 35 #[.val (.int p1), .val (.int p2), .unset, .unset, .unset, .unset] [(.ref b3)])) _
    refine XS.dup X18.here hx rfl (hb hby at_35) rfl rfl ?_
    show Steps p.tables e below (T18.setTop (mkF m 36 #[.val (.int p1), .val (.int p2), .unset, .unset, .unset, .unset] [(.ref b3), (.ref b3)])) _
    refine XS.iconst X18.here hx rfl (hb hby at_36) ?_
    show Steps p.tables e below (T18.setTop (mkF m 37 #[.val (.int p1), .val (.int p2), .unset, .unset, .unset, .unset] [(.int (5 : Int32)), (.ref b3), (.ref b3)])) _
    refine st20 _ ?_
    show Steps p.tables e below (T20.setTop (mkF m 40 #[.val (.int p1), .val (.int p2), .unset, .unset, .unset, .unset] [(.ref w19), (.int (5 : Int32)), (.ref b3), (.ref b3)])) _
    refine st21 _ ?_
    show Steps p.tables e below (T21.setTop (mkF m 41 #[.val (.int p1), .val (.int p2), .unset, .unset, .unset, .unset] [(.ref b3)])) _
    refine XS.dup X21.here hx rfl (hb hby at_41) rfl rfl ?_
    show Steps p.tables e below (T21.setTop (mkF m 42 #[.val (.int p1), .val (.int p2), .unset, .unset, .unset, .unset] [(.ref b3), (.ref b3)])) _
    refine XS.bipush X21.here hx rfl (hb hby at_42) ?_
    show Steps p.tables e below (T21.setTop (mkF m 44 #[.val (.int p1), .val (.int p2), .unset, .unset, .unset, .unset] [(.int (6 : Int32)), (.ref b3), (.ref b3)])) _
    refine st23 _ ?_
    show Steps p.tables e below (T23.setTop (mkF m 47 #[.val (.int p1), .val (.int p2), .unset, .unset, .unset, .unset] [(.ref w22), (.int (6 : Int32)), (.ref b3), (.ref b3)])) _
    refine st24 _ ?_
    show Steps p.tables e below (T24.setTop (mkF m 48 #[.val (.int p1), .val (.int p2), .unset, .unset, .unset, .unset] [(.ref b3)])) _
    refine XS.dup X24.here hx rfl (hb hby at_48) rfl rfl ?_
    show Steps p.tables e below (T24.setTop (mkF m 49 #[.val (.int p1), .val (.int p2), .unset, .unset, .unset, .unset] [(.ref b3), (.ref b3)])) _
    refine XS.bipush X24.here hx rfl (hb hby at_49) ?_
    show Steps p.tables e below (T24.setTop (mkF m 51 #[.val (.int p1), .val (.int p2), .unset, .unset, .unset, .unset] [(.int (7 : Int32)), (.ref b3), (.ref b3)])) _
    refine st26 _ ?_
    show Steps p.tables e below (T26.setTop (mkF m 54 #[.val (.int p1), .val (.int p2), .unset, .unset, .unset, .unset] [(.ref w25), (.int (7 : Int32)), (.ref b3), (.ref b3)])) _
    refine st27 _ ?_
    show Steps p.tables e below (T27.setTop (mkF m 55 #[.val (.int p1), .val (.int p2), .unset, .unset, .unset, .unset] [(.ref b3)])) _
    refine XS.dup X27.here hx rfl (hb hby at_55) rfl rfl ?_
    show Steps p.tables e below (T27.setTop (mkF m 56 #[.val (.int p1), .val (.int p2), .unset, .unset, .unset, .unset] [(.ref b3), (.ref b3)])) _
    refine XS.bipush X27.here hx rfl (hb hby at_56) ?_
    show Steps p.tables e below (T27.setTop (mkF m 58 #[.val (.int p1), .val (.int p2), .unset, .unset, .unset, .unset] [(.int (8 : Int32)), (.ref b3), (.ref b3)])) _
    refine st29 _ ?_
    show Steps p.tables e below (T29.setTop (mkF m 61 #[.val (.int p1), .val (.int p2), .unset, .unset, .unset, .unset] [(.ref w28), (.int (8 : Int32)), (.ref b3), (.ref b3)])) _
    refine st30 _ ?_
    show Steps p.tables e below (T30.setTop (mkF m 62 #[.val (.int p1), .val (.int p2), .unset, .unset, .unset, .unset] [(.ref b3)])) _
    refine XS.dup X30.here hx rfl (hb hby at_62) rfl rfl ?_
    show Steps p.tables e below (T30.setTop (mkF m 63 #[.val (.int p1), .val (.int p2), .unset, .unset, .unset, .unset] [(.ref b3), (.ref b3)])) _
    refine XS.bipush X30.here hx rfl (hb hby at_63) ?_
    show Steps p.tables e below (T30.setTop (mkF m 65 #[.val (.int p1), .val (.int p2), .unset, .unset, .unset, .unset] [(.int (9 : Int32)), (.ref b3), (.ref b3)])) _
    refine st32 _ ?_
    show Steps p.tables e below (T32.setTop (mkF m 68 #[.val (.int p1), .val (.int p2), .unset, .unset, .unset, .unset] [(.ref w31), (.int (9 : Int32)), (.ref b3), (.ref b3)])) _
    refine st33 _ ?_
    show Steps p.tables e below (T33.setTop (mkF m 69 #[.val (.int p1), .val (.int p2), .unset, .unset, .unset, .unset] [(.ref b3)])) _
    refine XS.dup X33.here hx rfl (hb hby at_69) rfl rfl ?_
    show Steps p.tables e below (T33.setTop (mkF m 70 #[.val (.int p1), .val (.int p2), .unset, .unset, .unset, .unset] [(.ref b3), (.ref b3)])) _
    refine XS.bipush X33.here hx rfl (hb hby at_70) ?_
    show Steps p.tables e below (T33.setTop (mkF m 72 #[.val (.int p1), .val (.int p2), .unset, .unset, .unset, .unset] [(.int (10 : Int32)), (.ref b3), (.ref b3)])) _
    refine st35 _ ?_
    show Steps p.tables e below (T35.setTop (mkF m 75 #[.val (.int p1), .val (.int p2), .unset, .unset, .unset, .unset] [(.ref w34), (.int (10 : Int32)), (.ref b3), (.ref b3)])) _
    refine st36 _ ?_
    show Steps p.tables e below (T36.setTop (mkF m 76 #[.val (.int p1), .val (.int p2), .unset, .unset, .unset, .unset] [(.ref b3)])) _
    refine XS.dup X36.here hx rfl (hb hby at_76) rfl rfl ?_
    show Steps p.tables e below (T36.setTop (mkF m 77 #[.val (.int p1), .val (.int p2), .unset, .unset, .unset, .unset] [(.ref b3), (.ref b3)])) _
    refine XS.bipush X36.here hx rfl (hb hby at_77) ?_
    show Steps p.tables e below (T36.setTop (mkF m 79 #[.val (.int p1), .val (.int p2), .unset, .unset, .unset, .unset] [(.int (11 : Int32)), (.ref b3), (.ref b3)])) _
    refine st38 _ ?_
    show Steps p.tables e below (T38.setTop (mkF m 82 #[.val (.int p1), .val (.int p2), .unset, .unset, .unset, .unset] [(.ref w37), (.int (11 : Int32)), (.ref b3), (.ref b3)])) _
    refine st39 _ ?_
    show Steps p.tables e below (T39.setTop (mkF m 83 #[.val (.int p1), .val (.int p2), .unset, .unset, .unset, .unset] [(.ref b3)])) _
    refine XS.dup X39.here hx rfl (hb hby at_83) rfl rfl ?_
    show Steps p.tables e below (T39.setTop (mkF m 84 #[.val (.int p1), .val (.int p2), .unset, .unset, .unset, .unset] [(.ref b3), (.ref b3)])) _
    refine XS.bipush X39.here hx rfl (hb hby at_84) ?_
    show Steps p.tables e below (T39.setTop (mkF m 86 #[.val (.int p1), .val (.int p2), .unset, .unset, .unset, .unset] [(.int (12 : Int32)), (.ref b3), (.ref b3)])) _
    refine st41 _ ?_
    show Steps p.tables e below (T41.setTop (mkF m 89 #[.val (.int p1), .val (.int p2), .unset, .unset, .unset, .unset] [(.ref w40), (.int (12 : Int32)), (.ref b3), (.ref b3)])) _
    refine st42 _ ?_
    show Steps p.tables e below (T42.setTop (mkF m 90 #[.val (.int p1), .val (.int p2), .unset, .unset, .unset, .unset] [(.ref b3)])) _
    refine XS.dup X42.here hx rfl (hb hby at_90) rfl rfl ?_
    show Steps p.tables e below (T42.setTop (mkF m 91 #[.val (.int p1), .val (.int p2), .unset, .unset, .unset, .unset] [(.ref b3), (.ref b3)])) _
    refine XS.bipush X42.here hx rfl (hb hby at_91) ?_
    show Steps p.tables e below (T42.setTop (mkF m 93 #[.val (.int p1), .val (.int p2), .unset, .unset, .unset, .unset] [(.int (13 : Int32)), (.ref b3), (.ref b3)])) _
    refine st44 _ ?_
    show Steps p.tables e below (T44.setTop (mkF m 96 #[.val (.int p1), .val (.int p2), .unset, .unset, .unset, .unset] [(.ref w43), (.int (13 : Int32)), (.ref b3), (.ref b3)])) _
    refine st45 _ ?_
    show Steps p.tables e below (T45.setTop (mkF m 97 #[.val (.int p1), .val (.int p2), .unset, .unset, .unset, .unset] [(.ref b3)])) _
    refine XS.astoreN X45.here hx rfl (hb hby at_97) rfl rfl (l' := #[.val (.int p1), .val (.int p2), .val (.ref b3), .unset, .unset, .unset]) rfl ?_
    show Steps p.tables e below (T45.setTop (mkF m 98 #[.val (.int p1), .val (.int p2), .val (.ref b3), .unset, .unset, .unset] [])) _
    refine XS.aloadN X45.here hx rfl (hb hby at_98) rfl rfl ?_
    show Steps p.tables e below (T45.setTop (mkF m 99 #[.val (.int p1), .val (.int p2), .val (.ref b3), .unset, .unset, .unset] [(.ref b3)])) _
    refine XS.iloadN X45.here hx rfl (hb hby at_99) rfl ?_
    show Steps p.tables e below (T45.setTop (mkF m 100 #[.val (.int p1), .val (.int p2), .val (.ref b3), .unset, .unset, .unset] [(.int p1), (.ref b3)])) _
    refine X45.ldcInt hx hown (mvT hZ (hw _ (List.mem_of_getElem? (i := 32) rfl))) (g := (mkF m 100 #[.val (.int p1), .val (.int p2), .val (.ref b3), .unset, .unset, .unset] [(.int p1), (.ref b3)])) rfl (hb hby at_100) _ ?_
    show Steps p.tables e below (T45.setTop (mkF m 102 #[.val (.int p1), .val (.int p2), .val (.ref b3), .unset, .unset, .unset] [(.int (2147483647 : Int32)), (.int p1), (.ref b3)])) _
    refine XS.iand X45.here hx rfl (hb hby at_102) rfl ?_
    show Steps p.tables e below (T45.setTop (mkF m 103 #[.val (.int p1), .val (.int p2), .val (.ref b3), .unset, .unset, .unset] [(.int (p1 &&& (2147483647 : Int32))), (.ref b3)])) _
    refine XS.bipush X45.here hx rfl (hb hby at_103) ?_
    show Steps p.tables e below (T45.setTop (mkF m 105 #[.val (.int p1), .val (.int p2), .val (.ref b3), .unset, .unset, .unset] [(.int (14 : Int32)), (.int (p1 &&& (2147483647 : Int32))), (.ref b3)])) _
    refine iremM X45 hx rfl (hb hby at_105) rfl (by decide) ?_
    show Steps p.tables e below (T45.setTop (mkF m 106 #[.val (.int p1), .val (.int p2), .val (.ref b3), .unset, .unset, .unset] [(.int ((p1 &&& (2147483647 : Int32)) % (14 : Int32))), (.ref b3)])) _
    refine X45.aaload hx (j := ((p1 &&& (2147483647 : Int32)) % (14 : Int32))) (v := (.ref w46)) (by rw [e45]; exact Ar_b3.1) (State.isArrayOf_alike hZ.alike Ar_b3.2.1) rfl Ar_b3.2.2 hin106 hat106 (g := (mkF m 106 #[.val (.int p1), .val (.int p2), .val (.ref b3), .unset, .unset, .unset] [(.int ((p1 &&& (2147483647 : Int32)) % (14 : Int32))), (.ref b3)])) rfl rfl (hb hby at_106) _ ?_
    show Steps p.tables e below (T45.setTop (mkF m 107 #[.val (.int p1), .val (.int p2), .val (.ref b3), .unset, .unset, .unset] [(.ref w46)])) _
    refine XS.astoreN X45.here hx rfl (hb hby at_107) rfl rfl (l' := #[.val (.int p1), .val (.int p2), .val (.ref b3), .val (.ref w46), .unset, .unset]) rfl ?_
    show Steps p.tables e below (T45.setTop (mkF m 108 #[.val (.int p1), .val (.int p2), .val (.ref b3), .val (.ref w46), .unset, .unset] [])) _
    refine XS.iloadN X45.here hx rfl (hb hby at_108) rfl ?_
    show Steps p.tables e below (T45.setTop (mkF m 109 #[.val (.int p1), .val (.int p2), .val (.ref b3), .val (.ref w46), .unset, .unset] [(.int p2)])) _
    refine XS.i2s X45.here hx rfl (hb hby at_109) rfl ?_
    show Steps p.tables e below (T45.setTop (mkF m 110 #[.val (.int p1), .val (.int p2), .val (.ref b3), .val (.ref w46), .unset, .unset] [(.int (p2.toInt16.toInt32))])) _
    refine XS.istore X45.here hx rfl (hb hby at_110) rfl (l' := #[.val (.int p1), .val (.int p2), .val (.ref b3), .val (.ref w46), .val (.int (p2.toInt16.toInt32)), .unset]) rfl ?_
    show Steps p.tables e below (T45.setTop (mkF m 112 #[.val (.int p1), .val (.int p2), .val (.ref b3), .val (.ref w46), .val (.int (p2.toInt16.toInt32)), .unset] [])) _
    refine XS.aloadN X45.here hx rfl (hb hby at_112) rfl rfl ?_
    show Steps p.tables e below (T45.setTop (mkF m 113 #[.val (.int p1), .val (.int p2), .val (.ref b3), .val (.ref w46), .val (.int (p2.toInt16.toInt32)), .unset] [(.ref w46)])) _
    refine st47 _ ?_
    show Steps p.tables e below (T47.setTop (mkF m 116 #[.val (.int p1), .val (.int p2), .val (.ref b3), .val (.ref w46), .val (.int (p2.toInt16.toInt32)), .unset] [(.ref w43), (.ref w46)])) _
    refine Jvm.RoadKit.acmp (g := (mkF m 116 #[.val (.int p1), .val (.int p2), .val (.ref b3), .val (.ref w46), .val (.int (p2.toInt16.toInt32)), .unset] [(.ref w43), (.ref w46)])) X47 hx rfl rfl rfl (pc0 := 116) (pc' := 119) (same := true) rfl (hb hby at_116) rfl (decide_eq_true (congrArg Value.ref ha116)) (by decide) (by decide) ?_
    show Steps p.tables e below (T47.setTop (mkF m 119 #[.val (.int p1), .val (.int p2), .val (.ref b3), .val (.ref w46), .val (.int (p2.toInt16.toInt32)), .unset] [])) _
    refine XS.iload X47.here hx rfl (hb hby at_119) rfl ?_
    show Steps p.tables e below (T47.setTop (mkF m 121 #[.val (.int p1), .val (.int p2), .val (.ref b3), .val (.ref w46), .val (.int (p2.toInt16.toInt32)), .unset] [(.int (p2.toInt16.toInt32))])) _
    refine XS.iconst X47.here hx rfl (hb hby at_121) ?_
    show Steps p.tables e below (T47.setTop (mkF m 122 #[.val (.int p1), .val (.int p2), .val (.ref b3), .val (.ref w46), .val (.int (p2.toInt16.toInt32)), .unset] [(.int (3 : Int32)), (.int (p2.toInt16.toInt32))])) _
    refine XS.icmpNo X47.here hx rfl (hb hby at_122) rfl (flt hc122).1 ?_
    show Steps p.tables e below (T47.setTop (mkF m 125 #[.val (.int p1), .val (.int p2), .val (.ref b3), .val (.ref w46), .val (.int (p2.toInt16.toInt32)), .unset] [])) _
    refine XS.iconst X47.here hx rfl (hb hby at_125) ?_
    show Steps p.tables e below (T47.setTop (mkF m 126 #[.val (.int p1), .val (.int p2), .val (.ref b3), .val (.ref w46), .val (.int (p2.toInt16.toInt32)), .unset] [(.int (1 : Int32))])) _
    refine XS.goto X47.here hx rfl (pc0 := 126) (pc' := 130) rfl (hb hby at_126) (by decide) (by decide) ?_
    show Steps p.tables e below (T47.setTop (mkF m 130 #[.val (.int p1), .val (.int p2), .val (.ref b3), .val (.ref w46), .val (.int (p2.toInt16.toInt32)), .unset] [(.int (1 : Int32))])) _
    refine XS.istore X47.here hx rfl (hb hby at_130) rfl (l' := #[.val (.int p1), .val (.int p2), .val (.ref b3), .val (.ref w46), .val (.int (p2.toInt16.toInt32)), .val (.int (1 : Int32))]) rfl ?_
    show Steps p.tables e below (T47.setTop (mkF m 132 #[.val (.int p1), .val (.int p2), .val (.ref b3), .val (.ref w46), .val (.int (p2.toInt16.toInt32)), .val (.int (1 : Int32))] [])) _
    refine XS.aloadN X47.here hx rfl (hb hby at_132) rfl rfl ?_
    show Steps p.tables e below (T47.setTop (mkF m 133 #[.val (.int p1), .val (.int p2), .val (.ref b3), .val (.ref w46), .val (.int (p2.toInt16.toInt32)), .val (.int (1 : Int32))] [(.ref w46)])) _
    refine XS.iload X47.here hx rfl (hb hby at_133) rfl ?_
    show Steps p.tables e below (T47.setTop (mkF m 135 #[.val (.int p1), .val (.int p2), .val (.ref b3), .val (.ref w46), .val (.int (p2.toInt16.toInt32)), .val (.int (1 : Int32))] [(.int (p2.toInt16.toInt32)), (.ref w46)])) _
    refine st48.trans ?_
    show Steps p.tables e below (T48.setTop (mkF m 138 #[.val (.int p1), .val (.int p2), .val (.ref b3), .val (.ref w46), .val (.int (p2.toInt16.toInt32)), .val (.int (1 : Int32))] [(.int (1 : Int32))])) _
    refine XS.iload X48.here hx rfl (hb hby at_138) rfl ?_
    show Steps p.tables e below (T48.setTop (mkF m 140 #[.val (.int p1), .val (.int p2), .val (.ref b3), .val (.ref w46), .val (.int (p2.toInt16.toInt32)), .val (.int (1 : Int32))] [(.int (1 : Int32)), (.int (1 : Int32))])) _
    refine XS.icmpNo X48.here hx rfl (hb hby at_140) rfl (teq (rfl : (1 : Int32) = (1 : Int32))).2 ?_
    show Steps p.tables e below (T48.setTop (mkF m 143 #[.val (.int p1), .val (.int p2), .val (.ref b3), .val (.ref w46), .val (.int (p2.toInt16.toInt32)), .val (.int (1 : Int32))] [])) _
    refine XS.iconst X48.here hx rfl (hb hby at_143) ?_
    show Steps p.tables e below (T48.setTop (mkF m 144 #[.val (.int p1), .val (.int p2), .val (.ref b3), .val (.ref w46), .val (.int (p2.toInt16.toInt32)), .val (.int (1 : Int32))] [(.int (1 : Int32))])) _
    refine XS.goto X48.here hx rfl (pc0 := 144) (pc' := 148) rfl (hb hby at_144) (by decide) (by decide) ?_
    show Steps p.tables e below (T48.setTop (mkF m 148 #[.val (.int p1), .val (.int p2), .val (.ref b3), .val (.ref w46), .val (.int (p2.toInt16.toInt32)), .val (.int (1 : Int32))] [(.int (1 : Int32))])) _
    exact retN X48 hx (t := .boolean) Bd.returns (by simp) (hb hby at_148) hr
  · show Q0c Z p1 p2 w4 w7 w10 w13 w16 w19 w22 w25 w28 w31 w34 w37 w40 w43 w46 h0 n0 _ T48.heap _
    exact ⟨rfl, N48⟩

theorem own_num {args : Array Value} {s : State} {t : Term} {a : Addr} {C n d : String} {k : Int32} (ht : t.eval args s none [] s = some (.ref a)) (h : (Jvm.Cond.eq (.field t C n d) (.int k)).value args s none s [] = some true) : Fld s s.heap a C n d (.int k) :=
  Fld.start ((fld_at ht).symm.trans (eqv_i (Term.int_eval k) h))

set_option maxRecDepth 65536 in
set_option maxHeartbeats 40000000 in
theorem comes_1 {Post : Tables → Env → Array Value → State → Outcome → State → Prop} (hpost : ∀ tb e args s v u, (limb_1_1.after args s (.returned v) u = true ∧ limb_1_2.after args s (.returned v) u = true ∧ True) → FrameEnd s (.returned v) u (Jvm.fieldLocs frame_1_writes args s ++ Jvm.arrayLocs frame_1_arrays args s ++ Jvm.staticLocs frame_1_statics s) 16 128 → Post tb e args s (.returned v) u) :
    ArmFor flags0 classFile x code maxLocals ret World_1 tables_1 room_1 Calls_1 rest_1 Pre_1 Post := by
  intro l hfl _ _ p e ha hc hk s m args below hf hA hF happ hP
  obtain ⟨hcalls, hrest, hpre⟩ := hP
  obtain ⟨-, -, -, hnamed, -, -, -, hat⟩ := (Spec.applies_iff hf).mp happ
  obtain ⟨hg, hn⟩ := and_e (Cond.before_iff.mp (show (Jvm.Cond.and given_1 narrow_1).before args s = true from hpre))
  obtain ⟨g49, g50⟩ := and_e hg
  obtain ⟨g51, g52⟩ := and_e g50
  obtain ⟨w0, w1, rfl⟩ : ∃ w0 w1 : Value, args = #[w0, w1] := by
    have hs : args.size = 2 := by simpa [Cond.value, given_1] using g49
    obtain ⟨L⟩ := args
    match L, hs with
    | [w0, w1], _ => exact ⟨w0, w1, rfl⟩
  have hw := fun d (hd : d ∈ tables_1) => atoms_spec (ws := Jvm.Cond.code x code maxLocals ret :: tables_1) hat d (List.mem_cons_of_mem _ hd)
  have hfit : Fit s := fun {y c} hc i hi => by
    obtain ⟨ha, rfl⟩ := Array.getElem?_eq_some_iff.mp hc
    have q := List.all_eq_true.mp ((Array.all_eq_true_iff_forall_mem.mp hF) _ (Array.getElem_mem ha)) i (List.mem_range.mpr hi)
    simpa [Array.getElem?_eq_getElem hi] using q
  obtain ⟨i0, ei0⟩ := is_v g51
  obtain rfl : w0 = (.int i0) := Option.some.inj ei0
  obtain ⟨i1, ei1⟩ := is_v g52
  obtain rfl : w1 = (.int i1) := Option.some.inj ei1
  obtain ⟨n1, hn⟩ := and_e hn
  obtain ⟨n2, hn⟩ := and_e hn
  obtain ⟨n3, hn⟩ := and_e hn
  obtain ⟨n4, hn⟩ := and_e hn
  obtain ⟨n5, hn⟩ := and_e hn
  obtain ⟨n6, hn⟩ := and_e hn
  obtain ⟨n7, hn⟩ := and_e hn
  obtain ⟨n8, hn⟩ := and_e hn
  obtain ⟨n9, hn⟩ := and_e hn
  obtain ⟨n10, hn⟩ := and_e hn
  obtain ⟨n11, hn⟩ := and_e hn
  obtain ⟨n12, hn⟩ := and_e hn
  obtain ⟨n13, hn⟩ := and_e hn
  obtain ⟨n14, hn⟩ := and_e hn
  obtain ⟨n15, hn⟩ := and_e hn
  obtain ⟨n16, hn⟩ := and_e hn
  obtain ⟨n17, hn⟩ := and_e hn
  obtain ⟨n18, hn⟩ := and_e hn
  obtain ⟨n19, hn⟩ := and_e hn
  obtain ⟨n20, hn⟩ := and_e hn
  obtain ⟨n21, hn⟩ := and_e hn
  obtain ⟨n22, hn⟩ := and_e hn
  obtain ⟨n23, hn⟩ := and_e hn
  obtain ⟨n24, hn⟩ := and_e hn
  obtain ⟨n25, hn⟩ := and_e hn
  obtain ⟨n26, hn⟩ := and_e hn
  obtain ⟨n27, hn⟩ := and_e hn
  obtain ⟨n28, hn⟩ := and_e hn
  obtain ⟨n29, hn⟩ := and_e hn
  obtain ⟨n30, hn⟩ := and_e hn
  obtain ⟨n31, hn⟩ := and_e hn
  obtain ⟨n32, hn⟩ := and_e hn
  obtain ⟨n33, hn⟩ := and_e hn
  obtain ⟨n34, hn⟩ := and_e hn
  obtain ⟨n35, hn⟩ := and_e hn
  obtain ⟨n36, hn⟩ := and_e hn
  obtain ⟨n37, hn⟩ := and_e hn
  obtain ⟨n38, hn⟩ := and_e hn
  obtain ⟨n39, hn⟩ := and_e hn
  obtain ⟨n40, hn⟩ := and_e hn
  obtain ⟨n41, hn⟩ := and_e hn
  obtain ⟨n42, hn⟩ := and_e hn
  obtain ⟨n43, hn⟩ := and_e hn
  obtain ⟨n44, hn⟩ := and_e hn
  obtain ⟨n45, hn⟩ := and_e hn
  obtain ⟨n46, hn⟩ := and_e hn
  obtain ⟨n47, hn⟩ := and_e hn
  obtain ⟨n48, hn⟩ := and_e hn
  obtain ⟨n49, hn⟩ := and_e hn
  obtain ⟨n50, hn⟩ := and_e hn
  obtain ⟨n51, hn⟩ := and_e hn
  obtain ⟨n52, hn⟩ := and_e hn
  obtain ⟨n53, hn⟩ := and_e hn
  obtain ⟨n54, hn⟩ := and_e hn
  obtain ⟨n55, n56⟩ := and_e hn
  obtain ⟨w_PRODUCE, ev_PRODUCE⟩ := exa_v n1
  have S_PRODUCE := Sta.start ev_PRODUCE (Or.inr ⟨(hw _ (List.mem_of_getElem? (i := 3) rfl)), (hw _ (List.mem_of_getElem? (i := 4) rfl))⟩)
  have E_PRODUCE := Exa.start ev_PRODUCE n1
  obtain ⟨w_FETCH, ev_FETCH⟩ := exa_v n2
  have S_FETCH := Sta.start ev_FETCH (Or.inr ⟨(hw _ (List.mem_of_getElem? (i := 3) rfl)), (hw _ (List.mem_of_getElem? (i := 7) rfl))⟩)
  have E_FETCH := Exa.start ev_FETCH n2
  obtain ⟨w_OFFSETS, ev_OFFSETS⟩ := exa_v n3
  have S_OFFSETS := Sta.start ev_OFFSETS (Or.inr ⟨(hw _ (List.mem_of_getElem? (i := 3) rfl)), (hw _ (List.mem_of_getElem? (i := 9) rfl))⟩)
  have E_OFFSETS := Exa.start ev_OFFSETS n3
  obtain ⟨w_METADATA, ev_METADATA⟩ := exa_v n4
  have S_METADATA := Sta.start ev_METADATA (Or.inr ⟨(hw _ (List.mem_of_getElem? (i := 3) rfl)), (hw _ (List.mem_of_getElem? (i := 11) rfl))⟩)
  have E_METADATA := Exa.start ev_METADATA n4
  obtain ⟨w_OFFSET_COMMIT, ev_OFFSET_COMMIT⟩ := exa_v n5
  have S_OFFSET_COMMIT := Sta.start ev_OFFSET_COMMIT (Or.inr ⟨(hw _ (List.mem_of_getElem? (i := 3) rfl)), (hw _ (List.mem_of_getElem? (i := 13) rfl))⟩)
  have E_OFFSET_COMMIT := Exa.start ev_OFFSET_COMMIT n5
  obtain ⟨w_OFFSET_FETCH, ev_OFFSET_FETCH⟩ := exa_v n6
  have S_OFFSET_FETCH := Sta.start ev_OFFSET_FETCH (Or.inr ⟨(hw _ (List.mem_of_getElem? (i := 3) rfl)), (hw _ (List.mem_of_getElem? (i := 15) rfl))⟩)
  have E_OFFSET_FETCH := Exa.start ev_OFFSET_FETCH n6
  obtain ⟨w_GROUP_COORDINATOR, ev_GROUP_COORDINATOR⟩ := exa_v n7
  have S_GROUP_COORDINATOR := Sta.start ev_GROUP_COORDINATOR (Or.inr ⟨(hw _ (List.mem_of_getElem? (i := 3) rfl)), (hw _ (List.mem_of_getElem? (i := 17) rfl))⟩)
  have E_GROUP_COORDINATOR := Exa.start ev_GROUP_COORDINATOR n7
  obtain ⟨w_JOIN_GROUP, ev_JOIN_GROUP⟩ := exa_v n8
  have S_JOIN_GROUP := Sta.start ev_JOIN_GROUP (Or.inr ⟨(hw _ (List.mem_of_getElem? (i := 3) rfl)), (hw _ (List.mem_of_getElem? (i := 19) rfl))⟩)
  have E_JOIN_GROUP := Exa.start ev_JOIN_GROUP n8
  obtain ⟨w_HEARTBEAT, ev_HEARTBEAT⟩ := exa_v n9
  have S_HEARTBEAT := Sta.start ev_HEARTBEAT (Or.inr ⟨(hw _ (List.mem_of_getElem? (i := 3) rfl)), (hw _ (List.mem_of_getElem? (i := 21) rfl))⟩)
  have E_HEARTBEAT := Exa.start ev_HEARTBEAT n9
  obtain ⟨w_LEAVE_GROUP, ev_LEAVE_GROUP⟩ := exa_v n10
  have S_LEAVE_GROUP := Sta.start ev_LEAVE_GROUP (Or.inr ⟨(hw _ (List.mem_of_getElem? (i := 3) rfl)), (hw _ (List.mem_of_getElem? (i := 23) rfl))⟩)
  have E_LEAVE_GROUP := Exa.start ev_LEAVE_GROUP n10
  obtain ⟨w_SYNC_GROUP, ev_SYNC_GROUP⟩ := exa_v n11
  have S_SYNC_GROUP := Sta.start ev_SYNC_GROUP (Or.inr ⟨(hw _ (List.mem_of_getElem? (i := 3) rfl)), (hw _ (List.mem_of_getElem? (i := 25) rfl))⟩)
  have E_SYNC_GROUP := Exa.start ev_SYNC_GROUP n11
  obtain ⟨w_DESCRIBE_GROUPS, ev_DESCRIBE_GROUPS⟩ := exa_v n12
  have S_DESCRIBE_GROUPS := Sta.start ev_DESCRIBE_GROUPS (Or.inr ⟨(hw _ (List.mem_of_getElem? (i := 3) rfl)), (hw _ (List.mem_of_getElem? (i := 27) rfl))⟩)
  have E_DESCRIBE_GROUPS := Exa.start ev_DESCRIBE_GROUPS n12
  obtain ⟨w_LIST_GROUPS, ev_LIST_GROUPS⟩ := exa_v n13
  have S_LIST_GROUPS := Sta.start ev_LIST_GROUPS (Or.inr ⟨(hw _ (List.mem_of_getElem? (i := 3) rfl)), (hw _ (List.mem_of_getElem? (i := 29) rfl))⟩)
  have E_LIST_GROUPS := Exa.start ev_LIST_GROUPS n13
  obtain ⟨w_API_VERSIONS, ev_API_VERSIONS⟩ := exa_v n14
  have S_API_VERSIONS := Sta.start ev_API_VERSIONS (Or.inr ⟨(hw _ (List.mem_of_getElem? (i := 3) rfl)), (hw _ (List.mem_of_getElem? (i := 31) rfl))⟩)
  have E_API_VERSIONS := Exa.start ev_API_VERSIONS n14
  have Fo_PRODUCE := own_num ev_PRODUCE n15
  have Fo_API_VERSIONS := own_num ev_API_VERSIONS n16
  have Ff_PRODUCE := own_num ev_PRODUCE n17
  have Fm_PRODUCE := own_num ev_PRODUCE n18
  have Fo_SYNC_GROUP := own_num ev_SYNC_GROUP n19
  have Ff_SYNC_GROUP := own_num ev_SYNC_GROUP n20
  have Fm_SYNC_GROUP := own_num ev_SYNC_GROUP n21
  have Fo_HEARTBEAT := own_num ev_HEARTBEAT n22
  have Ff_HEARTBEAT := own_num ev_HEARTBEAT n23
  have Fm_HEARTBEAT := own_num ev_HEARTBEAT n24
  have Fo_OFFSET_COMMIT := own_num ev_OFFSET_COMMIT n25
  have Ff_OFFSET_COMMIT := own_num ev_OFFSET_COMMIT n26
  have Fm_OFFSET_COMMIT := own_num ev_OFFSET_COMMIT n27
  have Fo_DESCRIBE_GROUPS := own_num ev_DESCRIBE_GROUPS n28
  have Ff_DESCRIBE_GROUPS := own_num ev_DESCRIBE_GROUPS n29
  have Fm_DESCRIBE_GROUPS := own_num ev_DESCRIBE_GROUPS n30
  have Fo_GROUP_COORDINATOR := own_num ev_GROUP_COORDINATOR n31
  have Ff_GROUP_COORDINATOR := own_num ev_GROUP_COORDINATOR n32
  have Fm_GROUP_COORDINATOR := own_num ev_GROUP_COORDINATOR n33
  have Fo_LIST_GROUPS := own_num ev_LIST_GROUPS n34
  have Ff_LIST_GROUPS := own_num ev_LIST_GROUPS n35
  have Fm_LIST_GROUPS := own_num ev_LIST_GROUPS n36
  have Fo_JOIN_GROUP := own_num ev_JOIN_GROUP n37
  have Ff_JOIN_GROUP := own_num ev_JOIN_GROUP n38
  have Fm_JOIN_GROUP := own_num ev_JOIN_GROUP n39
  have Fo_METADATA := own_num ev_METADATA n40
  have Ff_METADATA := own_num ev_METADATA n41
  have Fm_METADATA := own_num ev_METADATA n42
  have Fo_OFFSET_FETCH := own_num ev_OFFSET_FETCH n43
  have Ff_OFFSET_FETCH := own_num ev_OFFSET_FETCH n44
  have Fm_OFFSET_FETCH := own_num ev_OFFSET_FETCH n45
  have Fo_FETCH := own_num ev_FETCH n46
  have Ff_FETCH := own_num ev_FETCH n47
  have Fm_FETCH := own_num ev_FETCH n48
  have Fo_OFFSETS := own_num ev_OFFSETS n49
  have Ff_OFFSETS := own_num ev_OFFSETS n50
  have Fm_OFFSETS := own_num ev_OFFSETS n51
  have Ff_API_VERSIONS := own_num ev_API_VERSIONS n52
  have Fm_API_VERSIONS := own_num ev_API_VERSIONS n53
  have Fo_LEAVE_GROUP := own_num ev_LEAVE_GROUP n54
  have Ff_LEAVE_GROUP := own_num ev_LEAVE_GROUP n55
  have Fm_LEAVE_GROUP := own_num ev_LEAVE_GROUP n56
  obtain ⟨hj, hN⟩ := own_idx i0
  have hcase : ∀ k, ((i0 &&& (2147483647 : Int32)) % (14 : Int32)).toNatClampNeg = k → k < 14 → k = 0 ∨ k = 1 ∨ k = 2 ∨ k = 3 ∨ k = 4 ∨ k = 5 ∨ k = 6 ∨ k = 7 ∨ k = 8 ∨ k = 9 ∨ k = 10 ∨ k = 11 ∨ k = 12 ∨ k = 13 := fun k _ _ => by omega
  rcases hcase _ rfl hN with hidx | hidx | hidx | hidx | hidx | hidx | hidx | hidx | hidx | hidx | hidx | hidx | hidx | hidx
  · obtain ⟨n, o, h1, h2, h3, _, L, rfl, ⟨rfl, N⟩, hq⟩ := rm0a l s _ hw tables_1 i0 i1 w_PRODUCE w_FETCH w_OFFSETS w_METADATA w_OFFSET_COMMIT w_OFFSET_FETCH w_GROUP_COORDINATOR w_JOIN_GROUP w_HEARTBEAT w_LEAVE_GROUP w_SYNC_GROUP w_DESCRIBE_GROUPS w_LIST_GROUPS w_API_VERSIONS w_PRODUCE (3 : Int32) (2 : Int32) s.heap s.heap.size (Nat.le_refl _) S_PRODUCE E_PRODUCE S_FETCH E_FETCH S_OFFSETS E_OFFSETS S_METADATA E_METADATA S_OFFSET_COMMIT E_OFFSET_COMMIT S_OFFSET_FETCH E_OFFSET_FETCH S_GROUP_COORDINATOR E_GROUP_COORDINATOR S_JOIN_GROUP E_JOIN_GROUP S_HEARTBEAT E_HEARTBEAT S_LEAVE_GROUP E_LEAVE_GROUP S_SYNC_GROUP E_SYNC_GROUP S_DESCRIBE_GROUPS E_DESCRIBE_GROUPS S_LIST_GROUPS E_LIST_GROUPS S_API_VERSIONS E_API_VERSIONS hj (by rw [hidx]; rfl) Ff_PRODUCE Fm_PRODUCE (by decide) E_PRODUCE (Fld.ne Fo_PRODUCE Fo_API_VERSIONS (by decide)) p e ha hc hk s m _ below hf ((Spec.applies_iff_loose hf).mp happ).1 ⟨rfl, State.Warmed39.refl s, rfl⟩ trivial
    refine ⟨n, _, h1, h2, h3, hpost _ _ _ _ _ _ ⟨Cond.after_iff.mpr rfl, Cond.after_iff.mpr (eq_i res_at (Term.int_eval (1)) rfl), trivial⟩ ⟨hq.1, hq.2.1, (hq.2.2.sift fun y hy => Or.inr (N y hy)).mono (by decide) (by decide)⟩⟩
  · obtain ⟨n, o, h1, h2, h3, _, L, rfl, ⟨rfl, N⟩, hq⟩ := rm0a l s _ hw tables_1 i0 i1 w_PRODUCE w_FETCH w_OFFSETS w_METADATA w_OFFSET_COMMIT w_OFFSET_FETCH w_GROUP_COORDINATOR w_JOIN_GROUP w_HEARTBEAT w_LEAVE_GROUP w_SYNC_GROUP w_DESCRIBE_GROUPS w_LIST_GROUPS w_API_VERSIONS w_FETCH (4 : Int32) (3 : Int32) s.heap s.heap.size (Nat.le_refl _) S_PRODUCE E_PRODUCE S_FETCH E_FETCH S_OFFSETS E_OFFSETS S_METADATA E_METADATA S_OFFSET_COMMIT E_OFFSET_COMMIT S_OFFSET_FETCH E_OFFSET_FETCH S_GROUP_COORDINATOR E_GROUP_COORDINATOR S_JOIN_GROUP E_JOIN_GROUP S_HEARTBEAT E_HEARTBEAT S_LEAVE_GROUP E_LEAVE_GROUP S_SYNC_GROUP E_SYNC_GROUP S_DESCRIBE_GROUPS E_DESCRIBE_GROUPS S_LIST_GROUPS E_LIST_GROUPS S_API_VERSIONS E_API_VERSIONS hj (by rw [hidx]; rfl) Ff_FETCH Fm_FETCH (by decide) E_FETCH (Fld.ne Fo_FETCH Fo_API_VERSIONS (by decide)) p e ha hc hk s m _ below hf ((Spec.applies_iff_loose hf).mp happ).1 ⟨rfl, State.Warmed39.refl s, rfl⟩ trivial
    refine ⟨n, _, h1, h2, h3, hpost _ _ _ _ _ _ ⟨Cond.after_iff.mpr rfl, Cond.after_iff.mpr (eq_i res_at (Term.int_eval (1)) rfl), trivial⟩ ⟨hq.1, hq.2.1, (hq.2.2.sift fun y hy => Or.inr (N y hy)).mono (by decide) (by decide)⟩⟩
  · obtain ⟨n, o, h1, h2, h3, _, L, rfl, ⟨rfl, N⟩, hq⟩ := rm0a l s _ hw tables_1 i0 i1 w_PRODUCE w_FETCH w_OFFSETS w_METADATA w_OFFSET_COMMIT w_OFFSET_FETCH w_GROUP_COORDINATOR w_JOIN_GROUP w_HEARTBEAT w_LEAVE_GROUP w_SYNC_GROUP w_DESCRIBE_GROUPS w_LIST_GROUPS w_API_VERSIONS w_OFFSETS (2 : Int32) (1 : Int32) s.heap s.heap.size (Nat.le_refl _) S_PRODUCE E_PRODUCE S_FETCH E_FETCH S_OFFSETS E_OFFSETS S_METADATA E_METADATA S_OFFSET_COMMIT E_OFFSET_COMMIT S_OFFSET_FETCH E_OFFSET_FETCH S_GROUP_COORDINATOR E_GROUP_COORDINATOR S_JOIN_GROUP E_JOIN_GROUP S_HEARTBEAT E_HEARTBEAT S_LEAVE_GROUP E_LEAVE_GROUP S_SYNC_GROUP E_SYNC_GROUP S_DESCRIBE_GROUPS E_DESCRIBE_GROUPS S_LIST_GROUPS E_LIST_GROUPS S_API_VERSIONS E_API_VERSIONS hj (by rw [hidx]; rfl) Ff_OFFSETS Fm_OFFSETS (by decide) E_OFFSETS (Fld.ne Fo_OFFSETS Fo_API_VERSIONS (by decide)) p e ha hc hk s m _ below hf ((Spec.applies_iff_loose hf).mp happ).1 ⟨rfl, State.Warmed39.refl s, rfl⟩ trivial
    refine ⟨n, _, h1, h2, h3, hpost _ _ _ _ _ _ ⟨Cond.after_iff.mpr rfl, Cond.after_iff.mpr (eq_i res_at (Term.int_eval (1)) rfl), trivial⟩ ⟨hq.1, hq.2.1, (hq.2.2.sift fun y hy => Or.inr (N y hy)).mono (by decide) (by decide)⟩⟩
  · obtain ⟨n, o, h1, h2, h3, _, L, rfl, ⟨rfl, N⟩, hq⟩ := rm0a l s _ hw tables_1 i0 i1 w_PRODUCE w_FETCH w_OFFSETS w_METADATA w_OFFSET_COMMIT w_OFFSET_FETCH w_GROUP_COORDINATOR w_JOIN_GROUP w_HEARTBEAT w_LEAVE_GROUP w_SYNC_GROUP w_DESCRIBE_GROUPS w_LIST_GROUPS w_API_VERSIONS w_METADATA (2 : Int32) (1 : Int32) s.heap s.heap.size (Nat.le_refl _) S_PRODUCE E_PRODUCE S_FETCH E_FETCH S_OFFSETS E_OFFSETS S_METADATA E_METADATA S_OFFSET_COMMIT E_OFFSET_COMMIT S_OFFSET_FETCH E_OFFSET_FETCH S_GROUP_COORDINATOR E_GROUP_COORDINATOR S_JOIN_GROUP E_JOIN_GROUP S_HEARTBEAT E_HEARTBEAT S_LEAVE_GROUP E_LEAVE_GROUP S_SYNC_GROUP E_SYNC_GROUP S_DESCRIBE_GROUPS E_DESCRIBE_GROUPS S_LIST_GROUPS E_LIST_GROUPS S_API_VERSIONS E_API_VERSIONS hj (by rw [hidx]; rfl) Ff_METADATA Fm_METADATA (by decide) E_METADATA (Fld.ne Fo_METADATA Fo_API_VERSIONS (by decide)) p e ha hc hk s m _ below hf ((Spec.applies_iff_loose hf).mp happ).1 ⟨rfl, State.Warmed39.refl s, rfl⟩ trivial
    refine ⟨n, _, h1, h2, h3, hpost _ _ _ _ _ _ ⟨Cond.after_iff.mpr rfl, Cond.after_iff.mpr (eq_i res_at (Term.int_eval (1)) rfl), trivial⟩ ⟨hq.1, hq.2.1, (hq.2.2.sift fun y hy => Or.inr (N y hy)).mono (by decide) (by decide)⟩⟩
  · obtain ⟨n, o, h1, h2, h3, _, L, rfl, ⟨rfl, N⟩, hq⟩ := rm0a l s _ hw tables_1 i0 i1 w_PRODUCE w_FETCH w_OFFSETS w_METADATA w_OFFSET_COMMIT w_OFFSET_FETCH w_GROUP_COORDINATOR w_JOIN_GROUP w_HEARTBEAT w_LEAVE_GROUP w_SYNC_GROUP w_DESCRIBE_GROUPS w_LIST_GROUPS w_API_VERSIONS w_OFFSET_COMMIT (3 : Int32) (2 : Int32) s.heap s.heap.size (Nat.le_refl _) S_PRODUCE E_PRODUCE S_FETCH E_FETCH S_OFFSETS E_OFFSETS S_METADATA E_METADATA S_OFFSET_COMMIT E_OFFSET_COMMIT S_OFFSET_FETCH E_OFFSET_FETCH S_GROUP_COORDINATOR E_GROUP_COORDINATOR S_JOIN_GROUP E_JOIN_GROUP S_HEARTBEAT E_HEARTBEAT S_LEAVE_GROUP E_LEAVE_GROUP S_SYNC_GROUP E_SYNC_GROUP S_DESCRIBE_GROUPS E_DESCRIBE_GROUPS S_LIST_GROUPS E_LIST_GROUPS S_API_VERSIONS E_API_VERSIONS hj (by rw [hidx]; rfl) Ff_OFFSET_COMMIT Fm_OFFSET_COMMIT (by decide) E_OFFSET_COMMIT (Fld.ne Fo_OFFSET_COMMIT Fo_API_VERSIONS (by decide)) p e ha hc hk s m _ below hf ((Spec.applies_iff_loose hf).mp happ).1 ⟨rfl, State.Warmed39.refl s, rfl⟩ trivial
    refine ⟨n, _, h1, h2, h3, hpost _ _ _ _ _ _ ⟨Cond.after_iff.mpr rfl, Cond.after_iff.mpr (eq_i res_at (Term.int_eval (1)) rfl), trivial⟩ ⟨hq.1, hq.2.1, (hq.2.2.sift fun y hy => Or.inr (N y hy)).mono (by decide) (by decide)⟩⟩
  · obtain ⟨n, o, h1, h2, h3, _, L, rfl, ⟨rfl, N⟩, hq⟩ := rm0a l s _ hw tables_1 i0 i1 w_PRODUCE w_FETCH w_OFFSETS w_METADATA w_OFFSET_COMMIT w_OFFSET_FETCH w_GROUP_COORDINATOR w_JOIN_GROUP w_HEARTBEAT w_LEAVE_GROUP w_SYNC_GROUP w_DESCRIBE_GROUPS w_LIST_GROUPS w_API_VERSIONS w_OFFSET_FETCH (3 : Int32) (2 : Int32) s.heap s.heap.size (Nat.le_refl _) S_PRODUCE E_PRODUCE S_FETCH E_FETCH S_OFFSETS E_OFFSETS S_METADATA E_METADATA S_OFFSET_COMMIT E_OFFSET_COMMIT S_OFFSET_FETCH E_OFFSET_FETCH S_GROUP_COORDINATOR E_GROUP_COORDINATOR S_JOIN_GROUP E_JOIN_GROUP S_HEARTBEAT E_HEARTBEAT S_LEAVE_GROUP E_LEAVE_GROUP S_SYNC_GROUP E_SYNC_GROUP S_DESCRIBE_GROUPS E_DESCRIBE_GROUPS S_LIST_GROUPS E_LIST_GROUPS S_API_VERSIONS E_API_VERSIONS hj (by rw [hidx]; rfl) Ff_OFFSET_FETCH Fm_OFFSET_FETCH (by decide) E_OFFSET_FETCH (Fld.ne Fo_OFFSET_FETCH Fo_API_VERSIONS (by decide)) p e ha hc hk s m _ below hf ((Spec.applies_iff_loose hf).mp happ).1 ⟨rfl, State.Warmed39.refl s, rfl⟩ trivial
    refine ⟨n, _, h1, h2, h3, hpost _ _ _ _ _ _ ⟨Cond.after_iff.mpr rfl, Cond.after_iff.mpr (eq_i res_at (Term.int_eval (1)) rfl), trivial⟩ ⟨hq.1, hq.2.1, (hq.2.2.sift fun y hy => Or.inr (N y hy)).mono (by decide) (by decide)⟩⟩
  · obtain ⟨n, o, h1, h2, h3, _, L, rfl, ⟨rfl, N⟩, hq⟩ := rm0a l s _ hw tables_1 i0 i1 w_PRODUCE w_FETCH w_OFFSETS w_METADATA w_OFFSET_COMMIT w_OFFSET_FETCH w_GROUP_COORDINATOR w_JOIN_GROUP w_HEARTBEAT w_LEAVE_GROUP w_SYNC_GROUP w_DESCRIBE_GROUPS w_LIST_GROUPS w_API_VERSIONS w_GROUP_COORDINATOR (1 : Int32) (0 : Int32) s.heap s.heap.size (Nat.le_refl _) S_PRODUCE E_PRODUCE S_FETCH E_FETCH S_OFFSETS E_OFFSETS S_METADATA E_METADATA S_OFFSET_COMMIT E_OFFSET_COMMIT S_OFFSET_FETCH E_OFFSET_FETCH S_GROUP_COORDINATOR E_GROUP_COORDINATOR S_JOIN_GROUP E_JOIN_GROUP S_HEARTBEAT E_HEARTBEAT S_LEAVE_GROUP E_LEAVE_GROUP S_SYNC_GROUP E_SYNC_GROUP S_DESCRIBE_GROUPS E_DESCRIBE_GROUPS S_LIST_GROUPS E_LIST_GROUPS S_API_VERSIONS E_API_VERSIONS hj (by rw [hidx]; rfl) Ff_GROUP_COORDINATOR Fm_GROUP_COORDINATOR (by decide) E_GROUP_COORDINATOR (Fld.ne Fo_GROUP_COORDINATOR Fo_API_VERSIONS (by decide)) p e ha hc hk s m _ below hf ((Spec.applies_iff_loose hf).mp happ).1 ⟨rfl, State.Warmed39.refl s, rfl⟩ trivial
    refine ⟨n, _, h1, h2, h3, hpost _ _ _ _ _ _ ⟨Cond.after_iff.mpr rfl, Cond.after_iff.mpr (eq_i res_at (Term.int_eval (1)) rfl), trivial⟩ ⟨hq.1, hq.2.1, (hq.2.2.sift fun y hy => Or.inr (N y hy)).mono (by decide) (by decide)⟩⟩
  · obtain ⟨n, o, h1, h2, h3, _, L, rfl, ⟨rfl, N⟩, hq⟩ := rm0a l s _ hw tables_1 i0 i1 w_PRODUCE w_FETCH w_OFFSETS w_METADATA w_OFFSET_COMMIT w_OFFSET_FETCH w_GROUP_COORDINATOR w_JOIN_GROUP w_HEARTBEAT w_LEAVE_GROUP w_SYNC_GROUP w_DESCRIBE_GROUPS w_LIST_GROUPS w_API_VERSIONS w_JOIN_GROUP (2 : Int32) (1 : Int32) s.heap s.heap.size (Nat.le_refl _) S_PRODUCE E_PRODUCE S_FETCH E_FETCH S_OFFSETS E_OFFSETS S_METADATA E_METADATA S_OFFSET_COMMIT E_OFFSET_COMMIT S_OFFSET_FETCH E_OFFSET_FETCH S_GROUP_COORDINATOR E_GROUP_COORDINATOR S_JOIN_GROUP E_JOIN_GROUP S_HEARTBEAT E_HEARTBEAT S_LEAVE_GROUP E_LEAVE_GROUP S_SYNC_GROUP E_SYNC_GROUP S_DESCRIBE_GROUPS E_DESCRIBE_GROUPS S_LIST_GROUPS E_LIST_GROUPS S_API_VERSIONS E_API_VERSIONS hj (by rw [hidx]; rfl) Ff_JOIN_GROUP Fm_JOIN_GROUP (by decide) E_JOIN_GROUP (Fld.ne Fo_JOIN_GROUP Fo_API_VERSIONS (by decide)) p e ha hc hk s m _ below hf ((Spec.applies_iff_loose hf).mp happ).1 ⟨rfl, State.Warmed39.refl s, rfl⟩ trivial
    refine ⟨n, _, h1, h2, h3, hpost _ _ _ _ _ _ ⟨Cond.after_iff.mpr rfl, Cond.after_iff.mpr (eq_i res_at (Term.int_eval (1)) rfl), trivial⟩ ⟨hq.1, hq.2.1, (hq.2.2.sift fun y hy => Or.inr (N y hy)).mono (by decide) (by decide)⟩⟩
  · obtain ⟨n, o, h1, h2, h3, _, L, rfl, ⟨rfl, N⟩, hq⟩ := rm0a l s _ hw tables_1 i0 i1 w_PRODUCE w_FETCH w_OFFSETS w_METADATA w_OFFSET_COMMIT w_OFFSET_FETCH w_GROUP_COORDINATOR w_JOIN_GROUP w_HEARTBEAT w_LEAVE_GROUP w_SYNC_GROUP w_DESCRIBE_GROUPS w_LIST_GROUPS w_API_VERSIONS w_HEARTBEAT (1 : Int32) (0 : Int32) s.heap s.heap.size (Nat.le_refl _) S_PRODUCE E_PRODUCE S_FETCH E_FETCH S_OFFSETS E_OFFSETS S_METADATA E_METADATA S_OFFSET_COMMIT E_OFFSET_COMMIT S_OFFSET_FETCH E_OFFSET_FETCH S_GROUP_COORDINATOR E_GROUP_COORDINATOR S_JOIN_GROUP E_JOIN_GROUP S_HEARTBEAT E_HEARTBEAT S_LEAVE_GROUP E_LEAVE_GROUP S_SYNC_GROUP E_SYNC_GROUP S_DESCRIBE_GROUPS E_DESCRIBE_GROUPS S_LIST_GROUPS E_LIST_GROUPS S_API_VERSIONS E_API_VERSIONS hj (by rw [hidx]; rfl) Ff_HEARTBEAT Fm_HEARTBEAT (by decide) E_HEARTBEAT (Fld.ne Fo_HEARTBEAT Fo_API_VERSIONS (by decide)) p e ha hc hk s m _ below hf ((Spec.applies_iff_loose hf).mp happ).1 ⟨rfl, State.Warmed39.refl s, rfl⟩ trivial
    refine ⟨n, _, h1, h2, h3, hpost _ _ _ _ _ _ ⟨Cond.after_iff.mpr rfl, Cond.after_iff.mpr (eq_i res_at (Term.int_eval (1)) rfl), trivial⟩ ⟨hq.1, hq.2.1, (hq.2.2.sift fun y hy => Or.inr (N y hy)).mono (by decide) (by decide)⟩⟩
  · obtain ⟨n, o, h1, h2, h3, _, L, rfl, ⟨rfl, N⟩, hq⟩ := rm0a l s _ hw tables_1 i0 i1 w_PRODUCE w_FETCH w_OFFSETS w_METADATA w_OFFSET_COMMIT w_OFFSET_FETCH w_GROUP_COORDINATOR w_JOIN_GROUP w_HEARTBEAT w_LEAVE_GROUP w_SYNC_GROUP w_DESCRIBE_GROUPS w_LIST_GROUPS w_API_VERSIONS w_LEAVE_GROUP (1 : Int32) (0 : Int32) s.heap s.heap.size (Nat.le_refl _) S_PRODUCE E_PRODUCE S_FETCH E_FETCH S_OFFSETS E_OFFSETS S_METADATA E_METADATA S_OFFSET_COMMIT E_OFFSET_COMMIT S_OFFSET_FETCH E_OFFSET_FETCH S_GROUP_COORDINATOR E_GROUP_COORDINATOR S_JOIN_GROUP E_JOIN_GROUP S_HEARTBEAT E_HEARTBEAT S_LEAVE_GROUP E_LEAVE_GROUP S_SYNC_GROUP E_SYNC_GROUP S_DESCRIBE_GROUPS E_DESCRIBE_GROUPS S_LIST_GROUPS E_LIST_GROUPS S_API_VERSIONS E_API_VERSIONS hj (by rw [hidx]; rfl) Ff_LEAVE_GROUP Fm_LEAVE_GROUP (by decide) E_LEAVE_GROUP (Fld.ne Fo_LEAVE_GROUP Fo_API_VERSIONS (by decide)) p e ha hc hk s m _ below hf ((Spec.applies_iff_loose hf).mp happ).1 ⟨rfl, State.Warmed39.refl s, rfl⟩ trivial
    refine ⟨n, _, h1, h2, h3, hpost _ _ _ _ _ _ ⟨Cond.after_iff.mpr rfl, Cond.after_iff.mpr (eq_i res_at (Term.int_eval (1)) rfl), trivial⟩ ⟨hq.1, hq.2.1, (hq.2.2.sift fun y hy => Or.inr (N y hy)).mono (by decide) (by decide)⟩⟩
  · obtain ⟨n, o, h1, h2, h3, _, L, rfl, ⟨rfl, N⟩, hq⟩ := rm0a l s _ hw tables_1 i0 i1 w_PRODUCE w_FETCH w_OFFSETS w_METADATA w_OFFSET_COMMIT w_OFFSET_FETCH w_GROUP_COORDINATOR w_JOIN_GROUP w_HEARTBEAT w_LEAVE_GROUP w_SYNC_GROUP w_DESCRIBE_GROUPS w_LIST_GROUPS w_API_VERSIONS w_SYNC_GROUP (1 : Int32) (0 : Int32) s.heap s.heap.size (Nat.le_refl _) S_PRODUCE E_PRODUCE S_FETCH E_FETCH S_OFFSETS E_OFFSETS S_METADATA E_METADATA S_OFFSET_COMMIT E_OFFSET_COMMIT S_OFFSET_FETCH E_OFFSET_FETCH S_GROUP_COORDINATOR E_GROUP_COORDINATOR S_JOIN_GROUP E_JOIN_GROUP S_HEARTBEAT E_HEARTBEAT S_LEAVE_GROUP E_LEAVE_GROUP S_SYNC_GROUP E_SYNC_GROUP S_DESCRIBE_GROUPS E_DESCRIBE_GROUPS S_LIST_GROUPS E_LIST_GROUPS S_API_VERSIONS E_API_VERSIONS hj (by rw [hidx]; rfl) Ff_SYNC_GROUP Fm_SYNC_GROUP (by decide) E_SYNC_GROUP (Fld.ne Fo_SYNC_GROUP Fo_API_VERSIONS (by decide)) p e ha hc hk s m _ below hf ((Spec.applies_iff_loose hf).mp happ).1 ⟨rfl, State.Warmed39.refl s, rfl⟩ trivial
    refine ⟨n, _, h1, h2, h3, hpost _ _ _ _ _ _ ⟨Cond.after_iff.mpr rfl, Cond.after_iff.mpr (eq_i res_at (Term.int_eval (1)) rfl), trivial⟩ ⟨hq.1, hq.2.1, (hq.2.2.sift fun y hy => Or.inr (N y hy)).mono (by decide) (by decide)⟩⟩
  · obtain ⟨n, o, h1, h2, h3, _, L, rfl, ⟨rfl, N⟩, hq⟩ := rm0a l s _ hw tables_1 i0 i1 w_PRODUCE w_FETCH w_OFFSETS w_METADATA w_OFFSET_COMMIT w_OFFSET_FETCH w_GROUP_COORDINATOR w_JOIN_GROUP w_HEARTBEAT w_LEAVE_GROUP w_SYNC_GROUP w_DESCRIBE_GROUPS w_LIST_GROUPS w_API_VERSIONS w_DESCRIBE_GROUPS (1 : Int32) (0 : Int32) s.heap s.heap.size (Nat.le_refl _) S_PRODUCE E_PRODUCE S_FETCH E_FETCH S_OFFSETS E_OFFSETS S_METADATA E_METADATA S_OFFSET_COMMIT E_OFFSET_COMMIT S_OFFSET_FETCH E_OFFSET_FETCH S_GROUP_COORDINATOR E_GROUP_COORDINATOR S_JOIN_GROUP E_JOIN_GROUP S_HEARTBEAT E_HEARTBEAT S_LEAVE_GROUP E_LEAVE_GROUP S_SYNC_GROUP E_SYNC_GROUP S_DESCRIBE_GROUPS E_DESCRIBE_GROUPS S_LIST_GROUPS E_LIST_GROUPS S_API_VERSIONS E_API_VERSIONS hj (by rw [hidx]; rfl) Ff_DESCRIBE_GROUPS Fm_DESCRIBE_GROUPS (by decide) E_DESCRIBE_GROUPS (Fld.ne Fo_DESCRIBE_GROUPS Fo_API_VERSIONS (by decide)) p e ha hc hk s m _ below hf ((Spec.applies_iff_loose hf).mp happ).1 ⟨rfl, State.Warmed39.refl s, rfl⟩ trivial
    refine ⟨n, _, h1, h2, h3, hpost _ _ _ _ _ _ ⟨Cond.after_iff.mpr rfl, Cond.after_iff.mpr (eq_i res_at (Term.int_eval (1)) rfl), trivial⟩ ⟨hq.1, hq.2.1, (hq.2.2.sift fun y hy => Or.inr (N y hy)).mono (by decide) (by decide)⟩⟩
  · obtain ⟨n, o, h1, h2, h3, _, L, rfl, ⟨rfl, N⟩, hq⟩ := rm0a l s _ hw tables_1 i0 i1 w_PRODUCE w_FETCH w_OFFSETS w_METADATA w_OFFSET_COMMIT w_OFFSET_FETCH w_GROUP_COORDINATOR w_JOIN_GROUP w_HEARTBEAT w_LEAVE_GROUP w_SYNC_GROUP w_DESCRIBE_GROUPS w_LIST_GROUPS w_API_VERSIONS w_LIST_GROUPS (1 : Int32) (0 : Int32) s.heap s.heap.size (Nat.le_refl _) S_PRODUCE E_PRODUCE S_FETCH E_FETCH S_OFFSETS E_OFFSETS S_METADATA E_METADATA S_OFFSET_COMMIT E_OFFSET_COMMIT S_OFFSET_FETCH E_OFFSET_FETCH S_GROUP_COORDINATOR E_GROUP_COORDINATOR S_JOIN_GROUP E_JOIN_GROUP S_HEARTBEAT E_HEARTBEAT S_LEAVE_GROUP E_LEAVE_GROUP S_SYNC_GROUP E_SYNC_GROUP S_DESCRIBE_GROUPS E_DESCRIBE_GROUPS S_LIST_GROUPS E_LIST_GROUPS S_API_VERSIONS E_API_VERSIONS hj (by rw [hidx]; rfl) Ff_LIST_GROUPS Fm_LIST_GROUPS (by decide) E_LIST_GROUPS (Fld.ne Fo_LIST_GROUPS Fo_API_VERSIONS (by decide)) p e ha hc hk s m _ below hf ((Spec.applies_iff_loose hf).mp happ).1 ⟨rfl, State.Warmed39.refl s, rfl⟩ trivial
    refine ⟨n, _, h1, h2, h3, hpost _ _ _ _ _ _ ⟨Cond.after_iff.mpr rfl, Cond.after_iff.mpr (eq_i res_at (Term.int_eval (1)) rfl), trivial⟩ ⟨hq.1, hq.2.1, (hq.2.2.sift fun y hy => Or.inr (N y hy)).mono (by decide) (by decide)⟩⟩
  · by_cases hv : i1.toInt16.toInt32 < (3 : Int32)
    · obtain ⟨n, o, h1, h2, h3, _, L, rfl, ⟨rfl, N⟩, hq⟩ := rm0b l s _ hw tables_1 i0 i1 w_PRODUCE w_FETCH w_OFFSETS w_METADATA w_OFFSET_COMMIT w_OFFSET_FETCH w_GROUP_COORDINATOR w_JOIN_GROUP w_HEARTBEAT w_LEAVE_GROUP w_SYNC_GROUP w_DESCRIBE_GROUPS w_LIST_GROUPS w_API_VERSIONS w_API_VERSIONS s.heap s.heap.size (Nat.le_refl _) S_PRODUCE E_PRODUCE S_FETCH E_FETCH S_OFFSETS E_OFFSETS S_METADATA E_METADATA S_OFFSET_COMMIT E_OFFSET_COMMIT S_OFFSET_FETCH E_OFFSET_FETCH S_GROUP_COORDINATOR E_GROUP_COORDINATOR S_JOIN_GROUP E_JOIN_GROUP S_HEARTBEAT E_HEARTBEAT S_LEAVE_GROUP E_LEAVE_GROUP S_SYNC_GROUP E_SYNC_GROUP S_DESCRIBE_GROUPS E_DESCRIBE_GROUPS S_LIST_GROUPS E_LIST_GROUPS S_API_VERSIONS E_API_VERSIONS hj (by rw [hidx]; rfl) Ff_API_VERSIONS Fm_API_VERSIONS E_API_VERSIONS rfl hv p e ha hc hk s m _ below hf ((Spec.applies_iff_loose hf).mp happ).1 ⟨rfl, State.Warmed39.refl s, rfl⟩ trivial
      refine ⟨n, _, h1, h2, h3, hpost _ _ _ _ _ _ ⟨Cond.after_iff.mpr rfl, Cond.after_iff.mpr (eq_i res_at (Term.int_eval (1)) rfl), trivial⟩ ⟨hq.1, hq.2.1, (hq.2.2.sift fun y hy => Or.inr (N y hy)).mono (by decide) (by decide)⟩⟩
    · obtain ⟨n, o, h1, h2, h3, _, L, rfl, ⟨rfl, N⟩, hq⟩ := rm0c l s _ hw tables_1 i0 i1 w_PRODUCE w_FETCH w_OFFSETS w_METADATA w_OFFSET_COMMIT w_OFFSET_FETCH w_GROUP_COORDINATOR w_JOIN_GROUP w_HEARTBEAT w_LEAVE_GROUP w_SYNC_GROUP w_DESCRIBE_GROUPS w_LIST_GROUPS w_API_VERSIONS w_API_VERSIONS s.heap s.heap.size (Nat.le_refl _) S_PRODUCE E_PRODUCE S_FETCH E_FETCH S_OFFSETS E_OFFSETS S_METADATA E_METADATA S_OFFSET_COMMIT E_OFFSET_COMMIT S_OFFSET_FETCH E_OFFSET_FETCH S_GROUP_COORDINATOR E_GROUP_COORDINATOR S_JOIN_GROUP E_JOIN_GROUP S_HEARTBEAT E_HEARTBEAT S_LEAVE_GROUP E_LEAVE_GROUP S_SYNC_GROUP E_SYNC_GROUP S_DESCRIBE_GROUPS E_DESCRIBE_GROUPS S_LIST_GROUPS E_LIST_GROUPS S_API_VERSIONS E_API_VERSIONS hj (by rw [hidx]; rfl) Ff_API_VERSIONS Fm_API_VERSIONS E_API_VERSIONS rfl hv p e ha hc hk s m _ below hf ((Spec.applies_iff_loose hf).mp happ).1 ⟨rfl, State.Warmed39.refl s, rfl⟩ trivial
      refine ⟨n, _, h1, h2, h3, hpost _ _ _ _ _ _ ⟨Cond.after_iff.mpr rfl, Cond.after_iff.mpr (eq_i res_at (Term.int_eval (1)) rfl), trivial⟩ ⟨hq.1, hq.2.1, (hq.2.2.sift fun y hy => Or.inr (N y hy)).mono (by decide) (by decide)⟩⟩
theorem main_1_1 : Claimed_1_1 := comes_1 fun _ _ _ _ _ _ h hF => ⟨h.1, hF⟩
theorem main_1_2 : Claimed_1_2 := comes_1 fun _ _ _ _ _ _ h hF => ⟨h.2.1, hF⟩

end Jvm.Pilot.@@N@@
namespace Jvm.Pilot.@@N@@
open Jvm Jvm.ClassFile Sem Op Lib Jvm.Free Jvm.Stand Jvm.Pilot.@@N@@.Jvm.D
/-! MADE BY PROGRAM (witnessworld.py) out of the Statement's table words and the real class files: 13 classes; the members and pool entries that the words name. The judged class is class 1, her method 1. -/
namespace start1
open Jvm.ClassFile
def u (s : String) : CpInfo := .utf8 (stringToUtf16 s)
/-- a pool by its gaps: so many unusable entries, then the entry; so many at the end -/
def gap : Nat → List CpInfo → List CpInfo
  | 0, r => r
  | n + 1, r => .unusable :: gap n r
def poolList (es : List (Nat × CpInfo)) (last : Nat) : List CpInfo := es.foldr (fun e r => gap e.1 (e.2 :: r)) (gap last [])
def pool (es : List (Nat × CpInfo)) (last : Nat) : Array CpInfo := ⟨poolList es last⟩
def fileOf (pool : Array CpInfo) (this : Nat) (attrs : Array Attribute := #[]) (ms : Array MethodInfo := #[]) (fl : Nat := 33) (sup : Nat := 0) (ifs : Array Nat := #[]) (fds : Array FieldInfo := #[]) : ClassFile where
  minorVersion := 0
  majorVersion := 65
  constantPool := pool
  accessFlags := fl
  thisClass := this
  superClass := sup
  interfaces := ifs
  fields := fds
  methods := ms
  attributes := attrs
def plain (name : String) (sup : Option ClassId) : Class where
  name := name
  kind := .ordinary
  loader := none
  accessFlags := 33
  super := sup
  interfaces := #[]
  cf := none
  fields := #[]
  methods := #[]
  instanceTypes := #[]
  staticTypes := #[]
  resolved := #[]
  callSites := []
  init := .initialized
  statics := none
  mirror := none

def pool0 : Array CpInfo := pool [(5, u "<init>"), (0, u "()V"), (1, .class_ 10), (1, u "java/lang/Object")] 113

def k0m0 : Method := { name := "<init>", desc := "()V", sig := { parameters := [], returnType := none }, accessFlags := 1, code := none }
/-- java/lang/Object -/
def k0 : Class := { plain "java/lang/Object" none with
  accessFlags := 33
  interfaces := #[]
  cf := some (fileOf pool0 8 #[] #[{ accessFlags := 1, nameIndex := 5, descriptorIndex := 6, attributes := #[] }] 33 0 #[] #[])
  fields := #[]
  methods := #[k0m0]
  instanceTypes := #[]
  staticTypes := #[]
  resolved := Array.replicate 124 none
  statics := none }

def pool1 : Array CpInfo := pool [(2, .class_ 4), (1, u "java/lang/Object"), (0, u "<init>"), (0, u "()V"), (0, .class_ 8), (0, u "com/example/wherry/wherry/protocol/ApiKey"), (0, .fieldref 7 10), (0, .nameAndType 11 12), (0, u "PRODUCE"), (0, u "Lcom/example/wherry/wherry/protocol/ApiKey;"), (0, .fieldref 7 14), (0, .nameAndType 15 12), (0, u "FETCH"), (0, .fieldref 7 17), (0, .nameAndType 18 12), (0, u "OFFSETS"), (0, .fieldref 7 20), (0, .nameAndType 21 12), (0, u "METADATA"), (0, .fieldref 7 23), (0, .nameAndType 24 12), (0, u "OFFSET_COMMIT"), (0, .fieldref 7 26), (0, .nameAndType 27 12), (0, u "OFFSET_FETCH"), (0, .fieldref 7 29), (0, .nameAndType 30 12), (0, u "GROUP_COORDINATOR"), (0, .fieldref 7 32), (0, .nameAndType 33 12), (0, u "JOIN_GROUP"), (0, .fieldref 7 35), (0, .nameAndType 36 12), (0, u "HEARTBEAT"), (0, .fieldref 7 38), (0, .nameAndType 39 12), (0, u "LEAVE_GROUP"), (0, .fieldref 7 41), (0, .nameAndType 42 12), (0, u "SYNC_GROUP"), (0, .fieldref 7 44), (0, .nameAndType 45 12), (0, u "DESCRIBE_GROUPS"), (0, .fieldref 7 47), (0, .nameAndType 48 12), (0, u "LIST_GROUPS"), (0, .fieldref 7 50), (0, .nameAndType 51 12), (0, u "API_VERSIONS"), (0, .integer 2147483647), (0, .methodref 7 54), (0, .nameAndType 55 56), (0, u "isFlexible"), (0, u "(S)Z"), (0, .class_ 58), (0, u "com/example/wherry/wherry/protocol/ApiKeyIsFlexiblePinLaw"), (2, u "law"), (0, u "(II)Z")] 5

def k1m0 : Method := { name := "<init>", desc := "()V", sig := { parameters := [], returnType := none }, accessFlags := 1, code := none }
def k1c1 : Code := { maxStack := 4, maxLocals := 6, code := code, exceptionTable := #[], attributes := #[] }
def k1m1 : Method := { name := "law", desc := "(II)Z", sig := { parameters := [.int, .int], returnType := some .boolean }, accessFlags := 9, code := some k1c1 }
/-- com/example/wherry/wherry/protocol/ApiKeyIsFlexiblePinLaw -/
def k1 : Class := { plain "com/example/wherry/wherry/protocol/ApiKeyIsFlexiblePinLaw" (some 0) with
  accessFlags := 49
  interfaces := #[]
  cf := some (fileOf pool1 57 #[] #[{ accessFlags := 1, nameIndex := 5, descriptorIndex := 6, attributes := #[] }, { accessFlags := 9, nameIndex := 61, descriptorIndex := 62, attributes := #[] }] 49 2 #[] #[])
  fields := #[]
  methods := #[k1m0, k1m1]
  instanceTypes := #[]
  staticTypes := #[]
  resolved := Array.replicate 68 none
  statics := none }

def pool2 : Array CpInfo := pool [(1, .class_ 2), (0, u "java/lang/constant/Constable"), (0, .class_ 4), (0, u "java/lang/Object")] 6

/-- java/lang/constant/Constable -/
def k2 : Class := { plain "java/lang/constant/Constable" (some 0) with
  accessFlags := 1537
  interfaces := #[]
  cf := some (fileOf pool2 1 #[] #[] 1537 3 #[] #[])
  fields := #[]
  methods := #[]
  instanceTypes := #[]
  staticTypes := #[]
  resolved := Array.replicate 11 none
  statics := none }

def pool3 : Array CpInfo := pool [(1, .class_ 2), (0, u "java/lang/Comparable"), (0, .class_ 4), (0, u "java/lang/Object")] 7

/-- java/lang/Comparable -/
def k3 : Class := { plain "java/lang/Comparable" (some 0) with
  accessFlags := 1537
  interfaces := #[]
  cf := some (fileOf pool3 1 #[] #[] 1537 3 #[] #[])
  fields := #[]
  methods := #[]
  instanceTypes := #[]
  staticTypes := #[]
  resolved := Array.replicate 12 none
  statics := none }

def pool4 : Array CpInfo := pool [(1, .class_ 2), (0, u "java/io/Serializable"), (0, .class_ 4), (0, u "java/lang/Object")] 2

/-- java/io/Serializable -/
def k4 : Class := { plain "java/io/Serializable" (some 0) with
  accessFlags := 1537
  interfaces := #[]
  cf := some (fileOf pool4 1 #[] #[] 1537 3 #[] #[])
  fields := #[]
  methods := #[]
  instanceTypes := #[]
  staticTypes := #[]
  resolved := Array.replicate 7 none
  statics := none }

def pool5 : Array CpInfo := pool [(2, .class_ 4), (1, u "java/lang/Enum"), (0, u "name"), (0, u "Ljava/lang/String;"), (2, u "ordinal"), (0, u "I"), (1, .class_ 14), (1, u "java/lang/Object"), (4, u "hash"), (86, .class_ 108), (1, u "java/lang/Enum$EnumDesc"), (2, .class_ 112), (0, u "java/lang/constant/Constable"), (0, .class_ 114), (0, u "java/lang/Comparable"), (0, .class_ 116), (0, u "java/io/Serializable")] 87

/-- java/lang/Enum -/
def k5 : Class := { plain "java/lang/Enum" (some 0) with
  accessFlags := 1057
  interfaces := #[2, 3, 4]
  cf := some (fileOf pool5 2 #[.nestMembers #[106]] #[] 1057 12 #[111, 113, 115] #[{ accessFlags := 18, nameIndex := 5, descriptorIndex := 6, attributes := #[] }, { accessFlags := 18, nameIndex := 9, descriptorIndex := 10, attributes := #[] }, { accessFlags := 2, nameIndex := 19, descriptorIndex := 10, attributes := #[] }])
  fields := #[{ name := "name", type := (.object "java/lang/String"), accessFlags := 18, slot := 0, constantValue := 0 }, { name := "ordinal", type := .int, accessFlags := 18, slot := 1, constantValue := 0 }, { name := "hash", type := .int, accessFlags := 2, slot := 2, constantValue := 0 }]
  methods := #[]
  instanceTypes := #[(.object "java/lang/String"), .int, .int]
  staticTypes := #[]
  resolved := Array.replicate 204 none
  statics := none }

def pool6 : Array CpInfo := pool [(1, .class_ 2), (0, u "com/example/wherry/wherry/protocol/ApiKey"), (2, u "PRODUCE"), (0, u "Lcom/example/wherry/wherry/protocol/ApiKey;"), (2, u "FETCH"), (2, u "OFFSETS"), (2, u "METADATA"), (2, u "OFFSET_COMMIT"), (2, u "OFFSET_FETCH"), (2, u "GROUP_COORDINATOR"), (2, u "JOIN_GROUP"), (2, u "HEARTBEAT"), (2, u "LEAVE_GROUP"), (2, u "SYNC_GROUP"), (2, u "DESCRIBE_GROUPS"), (2, u "LIST_GROUPS"), (2, u "API_VERSIONS"), (2, u "$VALUES"), (0, u "[Lcom/example/wherry/wherry/protocol/ApiKey;"), (6, .class_ 58), (1, u "java/lang/Enum"), (11, u "code"), (0, u "S"), (0, .fieldref 1 73), (0, .nameAndType 74 71), (0, u "maxVersion"), (0, .fieldref 1 76), (0, .nameAndType 77 71), (0, u "firstFlexibleVersion"), (49, u "isFlexible"), (0, u "(S)Z")] 23

def k6c0 : Code := { maxStack := 2, maxLocals := 2, code := prog_11_method_8_code, exceptionTable := #[], attributes := #[] }
def k6m0 : Method := { name := "isFlexible", desc := "(S)Z", sig := { parameters := [.short], returnType := some .boolean }, accessFlags := 1, code := some k6c0 }
/-- com/example/wherry/wherry/protocol/ApiKey -/
def k6 : Class := { plain "com/example/wherry/wherry/protocol/ApiKey" (some 5) with
  accessFlags := 16433
  interfaces := #[]
  cf := some (fileOf pool6 1 #[] #[{ accessFlags := 1, nameIndex := 127, descriptorIndex := 128, attributes := #[] }] 16433 56 #[] #[{ accessFlags := 16409, nameIndex := 5, descriptorIndex := 6, attributes := #[] }, { accessFlags := 16409, nameIndex := 9, descriptorIndex := 6, attributes := #[] }, { accessFlags := 16409, nameIndex := 12, descriptorIndex := 6, attributes := #[] }, { accessFlags := 16409, nameIndex := 15, descriptorIndex := 6, attributes := #[] }, { accessFlags := 16409, nameIndex := 18, descriptorIndex := 6, attributes := #[] }, { accessFlags := 16409, nameIndex := 21, descriptorIndex := 6, attributes := #[] }, { accessFlags := 16409, nameIndex := 24, descriptorIndex := 6, attributes := #[] }, { accessFlags := 16409, nameIndex := 27, descriptorIndex := 6, attributes := #[] }, { accessFlags := 16409, nameIndex := 30, descriptorIndex := 6, attributes := #[] }, { accessFlags := 16409, nameIndex := 33, descriptorIndex := 6, attributes := #[] }, { accessFlags := 16409, nameIndex := 36, descriptorIndex := 6, attributes := #[] }, { accessFlags := 16409, nameIndex := 39, descriptorIndex := 6, attributes := #[] }, { accessFlags := 16409, nameIndex := 42, descriptorIndex := 6, attributes := #[] }, { accessFlags := 16409, nameIndex := 45, descriptorIndex := 6, attributes := #[] }, { accessFlags := 18, nameIndex := 70, descriptorIndex := 71, attributes := #[] }, { accessFlags := 18, nameIndex := 74, descriptorIndex := 71, attributes := #[] }, { accessFlags := 18, nameIndex := 77, descriptorIndex := 71, attributes := #[] }, { accessFlags := 4122, nameIndex := 48, descriptorIndex := 49, attributes := #[] }])
  fields := #[{ name := "PRODUCE", type := (.object "com/example/wherry/wherry/protocol/ApiKey"), accessFlags := 16409, slot := 0, constantValue := 0 }, { name := "FETCH", type := (.object "com/example/wherry/wherry/protocol/ApiKey"), accessFlags := 16409, slot := 1, constantValue := 0 }, { name := "OFFSETS", type := (.object "com/example/wherry/wherry/protocol/ApiKey"), accessFlags := 16409, slot := 2, constantValue := 0 }, { name := "METADATA", type := (.object "com/example/wherry/wherry/protocol/ApiKey"), accessFlags := 16409, slot := 3, constantValue := 0 }, { name := "OFFSET_COMMIT", type := (.object "com/example/wherry/wherry/protocol/ApiKey"), accessFlags := 16409, slot := 4, constantValue := 0 }, { name := "OFFSET_FETCH", type := (.object "com/example/wherry/wherry/protocol/ApiKey"), accessFlags := 16409, slot := 5, constantValue := 0 }, { name := "GROUP_COORDINATOR", type := (.object "com/example/wherry/wherry/protocol/ApiKey"), accessFlags := 16409, slot := 6, constantValue := 0 }, { name := "JOIN_GROUP", type := (.object "com/example/wherry/wherry/protocol/ApiKey"), accessFlags := 16409, slot := 7, constantValue := 0 }, { name := "HEARTBEAT", type := (.object "com/example/wherry/wherry/protocol/ApiKey"), accessFlags := 16409, slot := 8, constantValue := 0 }, { name := "LEAVE_GROUP", type := (.object "com/example/wherry/wherry/protocol/ApiKey"), accessFlags := 16409, slot := 9, constantValue := 0 }, { name := "SYNC_GROUP", type := (.object "com/example/wherry/wherry/protocol/ApiKey"), accessFlags := 16409, slot := 10, constantValue := 0 }, { name := "DESCRIBE_GROUPS", type := (.object "com/example/wherry/wherry/protocol/ApiKey"), accessFlags := 16409, slot := 11, constantValue := 0 }, { name := "LIST_GROUPS", type := (.object "com/example/wherry/wherry/protocol/ApiKey"), accessFlags := 16409, slot := 12, constantValue := 0 }, { name := "API_VERSIONS", type := (.object "com/example/wherry/wherry/protocol/ApiKey"), accessFlags := 16409, slot := 13, constantValue := 0 }, { name := "code", type := .short, accessFlags := 18, slot := 3, constantValue := 0 }, { name := "maxVersion", type := .short, accessFlags := 18, slot := 4, constantValue := 0 }, { name := "firstFlexibleVersion", type := .short, accessFlags := 18, slot := 5, constantValue := 0 }, { name := "$VALUES", type := (.array (.object "com/example/wherry/wherry/protocol/ApiKey")), accessFlags := 4122, slot := 14, constantValue := 0 }]
  methods := #[k6m0]
  instanceTypes := #[(.object "java/lang/String"), .int, .int, .short, .short, .short]
  staticTypes := #[(.object "com/example/wherry/wherry/protocol/ApiKey"), (.object "com/example/wherry/wherry/protocol/ApiKey"), (.object "com/example/wherry/wherry/protocol/ApiKey"), (.object "com/example/wherry/wherry/protocol/ApiKey"), (.object "com/example/wherry/wherry/protocol/ApiKey"), (.object "com/example/wherry/wherry/protocol/ApiKey"), (.object "com/example/wherry/wherry/protocol/ApiKey"), (.object "com/example/wherry/wherry/protocol/ApiKey"), (.object "com/example/wherry/wherry/protocol/ApiKey"), (.object "com/example/wherry/wherry/protocol/ApiKey"), (.object "com/example/wherry/wherry/protocol/ApiKey"), (.object "com/example/wherry/wherry/protocol/ApiKey"), (.object "com/example/wherry/wherry/protocol/ApiKey"), (.object "com/example/wherry/wherry/protocol/ApiKey"), (.array (.object "com/example/wherry/wherry/protocol/ApiKey"))]
  resolved := Array.replicate 152 none
  statics := some 0 }

def pool7 : Array CpInfo := pool [(1, u "java/lang/Cloneable"), (0, .class_ 1), (0, u "java/lang/Object"), (0, .class_ 3)] 3

/-- java/lang/Cloneable -/
def k7 : Class := { plain "java/lang/Cloneable" (some 0) with
  accessFlags := 1537
  interfaces := #[]
  cf := some (fileOf pool7 2 #[] #[] 1537 4 #[] #[])
  fields := #[]
  methods := #[]
  instanceTypes := #[]
  staticTypes := #[]
  resolved := Array.replicate 8 none
  statics := none }

/-- the primitive byte -/
def k8 : Class := { plain "byte" none with kind := .primitive 'B', accessFlags := 0x411 }
/-- [B -/
def k9 : Class := { plain "[B" (some 0) with kind := .array 8 .byte, interfaces := #[7, 4], accessFlags := 1041 }

/-- the primitive int -/
def k10 : Class := { plain "int" none with kind := .primitive 'I', accessFlags := 0x411 }
/-- [I -/
def k11 : Class := { plain "[I" (some 0) with kind := .array 10 .int, interfaces := #[7, 4], accessFlags := 1041 }

/-- [Lcom/example/wherry/wherry/protocol/ApiKey; -/
def k12 : Class := { plain "[Lcom/example/wherry/wherry/protocol/ApiKey;" (some 0) with kind := .array 6 (.object "com/example/wherry/wherry/protocol/ApiKey"), interfaces := #[7, 4], accessFlags := 1041 }

def heap : Heap := #[{ cls := 6, slots := #[.ref 1, .ref 2, .ref 3, .ref 4, .ref 5, .ref 6, .ref 7, .ref 8, .ref 9, .ref 10, .ref 11, .ref 12, .ref 13, .ref 14, .null], vm := .statics 6 },
  { cls := 6, slots := #[.null, .int 0, .int 0, .int 0, .int 2, .int 3], vm := .none },
  { cls := 6, slots := #[.null, .int 1, .int 0, .int 1, .int 3, .int 4], vm := .none },
  { cls := 6, slots := #[.null, .int 2, .int 0, .int 2, .int 1, .int 2], vm := .none },
  { cls := 6, slots := #[.null, .int 3, .int 0, .int 3, .int 1, .int 2], vm := .none },
  { cls := 6, slots := #[.null, .int 4, .int 0, .int 4, .int 2, .int 3], vm := .none },
  { cls := 6, slots := #[.null, .int 5, .int 0, .int 5, .int 2, .int 3], vm := .none },
  { cls := 6, slots := #[.null, .int 6, .int 0, .int 6, .int 0, .int 1], vm := .none },
  { cls := 6, slots := #[.null, .int 7, .int 0, .int 7, .int 1, .int 2], vm := .none },
  { cls := 6, slots := #[.null, .int 8, .int 0, .int 8, .int 0, .int 1], vm := .none },
  { cls := 6, slots := #[.null, .int 9, .int 0, .int 9, .int 0, .int 1], vm := .none },
  { cls := 6, slots := #[.null, .int 10, .int 0, .int 10, .int 0, .int 1], vm := .none },
  { cls := 6, slots := #[.null, .int 11, .int 0, .int 11, .int 0, .int 1], vm := .none },
  { cls := 6, slots := #[.null, .int 12, .int 0, .int 12, .int 0, .int 1], vm := .none },
  { cls := 6, slots := #[.null, .int 13, .int 0, .int 13, .int 3, .int 3], vm := .none }]
def classes : Array Class := #[k0, k1, k2, k3, k4, k5, k6, k7, k8, k9, k10, k11, k12]
def interned : List (Array UInt16 × Addr) := []
def slotsUsed : Nat := 99
def theMethod : MethodId := ⟨1, 1⟩
def args0 : Array Value := #[.int 5, .int 3]
def aboutOver (below : List Frame) : State where
  vm := { classes := classes, interned := interned.toArray }
  heap := heap
  slotsUsed := slotsUsed
  threads := #[{ frames := .invoking theMethod args0 :: below }]
def below0 : List Frame := [.native { method := ⟨0, 0⟩, args := #[] }]
def about1 : State := aboutOver below0
def p0 : Program := .bare "" "" ""
def e0 : Env := launch0.env 0 0 0
theorem w_frames : about1.frames = Frame.invoking theMethod args0 :: below0 := rfl
set_option maxRecDepth 65536 in
theorem w_args : argsFit about1.vm theMethod args0 = true := by decide +kernel
set_option maxRecDepth 65536 in
theorem w_heap : heapFits about1 = true := by decide +kernel
set_option maxRecDepth 65536 in
theorem w_runnable : about1.curStatus? = some .runnable := by decide +kernel
set_option maxRecDepth 65536 in
theorem w_alone : about1.alone = true := by decide +kernel
set_option maxRecDepth 65536 in
theorem w_named : about1.methodNamed? x = some theMethod := by decide +kernel
set_option maxRecDepth 65536 in
theorem w_hears : about1.hears theMethod below0 = true := by decide +kernel
set_option maxRecDepth 65536 in
theorem w_ripe : about1.ripe theMethod args0 below0 = true := by decide +kernel
theorem w_running : about1.status = .running := rfl
set_option maxRecDepth 65536 in
theorem w_room : about1.hasRoom e0.platform room_1 = true :=
  launch0.hasRoom_least _ room_1 (by decide +kernel) (by decide +kernel) (by decide +kernel) (by decide +kernel) (by decide +kernel) (by decide +kernel)
theorem allAtoms_all (ts : List Jvm.Cond) (a : Array Jvm.Value) (st : Jvm.State) : (allAtoms ts).before a st = ts.all (fun c => c.before a st) := by
  induction ts with
  | nil => rfl
  | cons c t ih =>
    show (Jvm.Cond.and c (allAtoms t)).before a st = _
    rw [Jvm.Cond.before_and, ih, List.all_cons]
def words1 : List Jvm.Cond := Jvm.Cond.code x code maxLocals ret :: tables_1
/-- a 'code' word, met by the world's own term for the bytes: nothing is compared byte by byte -/
theorem code_word {y : MethodName} {bytes : ByteArray} {mx : Nat} {rt : Option FieldType} {a : Array Value} {s : State} {m : MethodId} {meth : Method} {c : Code} (h1 : s.methodNamed? y = some m) (h2 : s.vm.method? m = some meth) (h3 : meth.code = some c) (h4 : c.code = bytes)
    (h5 : (c.maxLocals == mx && c.exceptionTable.isEmpty && decide (c.maxStack ≤ mostOperands) && decide (meth.sig.returnType = rt) && !meth.locks && decide (parseMethodDescriptor y.desc = some meth.sig)) = true) : (Jvm.Cond.code y bytes mx rt).before a s = true := by
  simp only [Bool.and_eq_true, beq_iff_eq, Bool.not_eq_true', decide_eq_true_eq] at h5
  obtain ⟨⟨⟨⟨⟨g1, g2⟩, g3⟩, g4⟩, g5⟩, g6⟩ := h5
  simp [Cond.before, Cond.holds, Cond.value, h1, h2, h3, h4, g1, g2, g3, g4, g5, g6]
def isCode : Jvm.Cond → Bool
  | .code _ _ _ _ => true
  | _ => false
theorem all_split {L : List Jvm.Cond} {P : Jvm.Cond → Bool} (h1 : L.all (fun c => isCode c || P c) = true) (h2 : ∀ c ∈ L.filter isCode, P c = true) : L.all P = true := by
  refine List.all_eq_true.mpr fun c hc => ?_
  have h := List.all_eq_true.mp h1 c hc
  rcases Bool.eq_false_or_eq_true (isCode c) with hi | hi
  · exact h2 c (List.mem_filter.mpr ⟨hc, hi⟩)
  · simpa [hi] using h
set_option maxRecDepth 65536 in
theorem w_c0 : (Jvm.Cond.code x code maxLocals ret).before args0 about1 = true := code_word (m := ⟨1, 1⟩) (meth := k1m1) (c := k1c1) (by decide +kernel) rfl rfl rfl (by decide +kernel)
set_option maxRecDepth 65536 in
theorem w_c1 : (Jvm.Cond.code ({ cls := "com/example/wherry/wherry/protocol/ApiKey", name := "isFlexible", desc := "(S)Z" } : Jvm.MethodName) prog_11_method_8_code (2 : Nat) (Option.some Jvm.ClassFile.FieldType.boolean)).before args0 about1 = true := code_word (m := ⟨6, 0⟩) (meth := k6m0) (c := k6c0) (by decide +kernel) rfl rfl rfl (by decide +kernel)
def codes1 : List Jvm.Cond := [Jvm.Cond.code x code maxLocals ret, Jvm.Cond.code ({ cls := "com/example/wherry/wherry/protocol/ApiKey", name := "isFlexible", desc := "(S)Z" } : Jvm.MethodName) prog_11_method_8_code (2 : Nat) (Option.some Jvm.ClassFile.FieldType.boolean)]
set_option maxRecDepth 65536 in
theorem codes_eq : words1.filter isCode = codes1 := rfl
theorem w_codes : ∀ c ∈ words1.filter isCode, c.before args0 about1 = true := by
  rw [codes_eq]
  intro c hc
  simp only [codes1, List.mem_cons, List.not_mem_nil, or_false] at hc
  rcases hc with rfl | rfl
  · exact w_c0
  · exact w_c1
set_option maxRecDepth 65536 in
theorem w_t1 : (words1.take 24).all (fun c => isCode c || c.before args0 about1) = true := by decide +kernel
set_option maxRecDepth 65536 in
theorem w_t2 : (words1.drop 24).all (fun c => isCode c || c.before args0 about1) = true := by decide +kernel
theorem w_tables : (allAtoms (Jvm.Cond.code x code maxLocals ret :: tables_1)).before args0 about1 = true := by
  rw [allAtoms_all]
  show words1.all (fun c => c.before args0 about1) = true
  refine all_split ?_ w_codes
  rw [← List.take_append_drop 24 words1, List.all_append, w_t1, w_t2]
  rfl
set_option maxRecDepth 65536 in
theorem w_case : (Jvm.Cond.and given_1 narrow_1).before args0 about1 = true := by decide +kernel
theorem w_applies : (headSpec (Jvm.Cond.code x code maxLocals ret :: tables_1) room_1).applies x e0.platform about1 = true :=
  (Spec.applies_iff w_frames).mpr ⟨w_running, w_runnable, w_alone, w_named, w_hears, w_ripe, w_room, w_tables⟩
theorem atStart : AtStart classFile x code maxLocals ret World_1 tables_1 room_1 Calls_1 rest_1 Pre_1 launch0 p0 e0 about1 theMethod args0 below0 :=
  ⟨lists_1, trivial, launch0.admits_env _ _ _, launch0.least_env, fairChoices_fair.cas, fairChoices_fair.clock, w_frames, w_args, w_heap, w_applies, trivial, trivial, w_case⟩
end start1
theorem witness_1 : WitnessClaimed_1 := ⟨start1.p0, start1.e0, start1.about1, start1.theMethod, start1.args0, start1.below0, start1.atStart⟩
end Jvm.Pilot.@@N@@
