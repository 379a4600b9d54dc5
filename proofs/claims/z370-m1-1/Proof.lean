import JvmDerived
import JvmDerived.Pilot.@@N@@Statement
import JvmDerived.Pilot.@@N@@Code
set_option linter.unusedVariables false
set_option linter.unusedSimpArgs false
namespace Jvm.RoadKit
open Sem ClassFile Op Lib Jvm.Stand Jvm.Free Jvm.LawKit
section New
variable {p : Program} {l : Launch} {e : Env} {R : Room} {s : State} {m : MethodId} {args : Array Value} {below : List Frame} {meth : Method} {c : Code} {T : State} {locs : List Loc} {cells slots : Nat}
theorem retI (X : Stand p l e R s m args below meth c T locs cells slots) (hx : p.tables.exec = Jvm.exec) {pc : Nat} {Ls : Array Slot} {z : Int32} {rest : List Value} (hret : meth.sig.returnType = some .int) (hd : decode c.code pc = .ok (.ireturn, 1)) {fs : List Frame}
    (hl : ∀ (f : JFrame) (acts : List Action), f.method = m → f.locked = none → f.entered = [] → (doReturn e (T.setTop f) acts (some (.int z))).1 = T.setFrames fs) : Steps p.tables e below (T.setTop (mkF m pc Ls (.int z :: rest))) (T.setFrames fs) := by
  have hm' : T.vm.method? m = some meth := X.method'
  have hn : narrow .int (.int z) = .int z := rfl
  show Steps p.tables e below (T.setTop { method := m, pc := pc, locals := Ls, stack := _ :: rest, locked := none }) _
  jvm_step X.here [X.here.top, hx, hd, hm', hret, hn]
  first | (intro acts; rw [hl _ acts rfl rfl rfl]) | rw [hl _ _ rfl rfl rfl]
  exact Steps.refl _
end New
end Jvm.RoadKit
namespace Jvm.Pilot.@@N@@
open Jvm Jvm.ClassFile Sem Op Lib Jvm.Free Jvm.Stand Jvm.LawKit Jvm.RoadKit Bundle Jvm.Pilot.@@N@@.Jvm.D

theorem own_hit {c : Cell} {v : Value} (h : 0 < c.slots.size) : (c.setSlot 0 v).slots[0]? = some v := by simp [Cell.setSlot, h]
theorem own_c0 {c : Cell} {a b d f : Value} (h : c.slots.size = 65536) : ((((c.setSlot 0 a).setSlot 1 b).setSlot 2 d).setSlot 3 f).slots[0]? = some a := by simp [Cell.setSlot, Array.getElem?_setIfInBounds, h]
theorem own_c1 {c : Cell} {a b d f : Value} (h : c.slots.size = 65536) : ((((c.setSlot 0 a).setSlot 1 b).setSlot 2 d).setSlot 3 f).slots[1]? = some b := by simp [Cell.setSlot, Array.getElem?_setIfInBounds, h]
theorem own_c2 {c : Cell} {a b d f : Value} (h : c.slots.size = 65536) : ((((c.setSlot 0 a).setSlot 1 b).setSlot 2 d).setSlot 3 f).slots[2]? = some d := by simp [Cell.setSlot, Array.getElem?_setIfInBounds, h]
theorem own_c3 {c : Cell} {a b d f : Value} (h : c.slots.size = 65536) : ((((c.setSlot 0 a).setSlot 1 b).setSlot 2 d).setSlot 3 f).slots[3]? = some f := by simp [Cell.setSlot, Array.getElem?_setIfInBounds, h]
theorem d1_0 : decode prog_5_method_1_code 0 = .ok (.aload_n 0, 1) := by decide +kernel
theorem d1_1 : decode prog_5_method_1_code 1 = .ok (.invokespecial 3, 3) := by decide +kernel
theorem d1_4 : decode prog_5_method_1_code 4 = .ok (.aload_n 0, 1) := by decide +kernel
theorem d1_5 : decode prog_5_method_1_code 5 = .ok (.bipush 8, 2) := by decide +kernel
theorem d1_7 : decode prog_5_method_1_code 7 = .ok (.anewarray 9, 3) := by decide +kernel
theorem d1_10 : decode prog_5_method_1_code 10 = .ok (.putfield 11, 3) := by decide +kernel
theorem d1_13 : decode prog_5_method_1_code 13 = .ok (.return_, 1) := by decide +kernel
theorem pn_1 : plainName "com/example/hydrate_captions/hydratecaptions/ChunkedInts" = true := by first | (simp [plainName, overriddenIn]; done) | decide +kernel
theorem ef_1 (m : MethodId) (x0 : Addr) : entryFrame m #[(.ref x0)] 1 = mkF m 0 #[.val (.ref x0)] [] := by first | (simp [entryFrame, mkF, argsToLocals, Value.category]; done) | rfl
def Q1 (Z : State) (a1 : Addr) (u_chunks_a1 : Value) (h0 : Heap) (n0 : Nat) (v : Option Value) (h : Heap) (L : List Loc) : Prop := v = none ∧ Fr n0 L ∧ Keep h0 h [a1] ∧ Exa Z h a1 "com/example/hydrate_captions/hydratecaptions/ChunkedInts" ∧ Fld Z h a1 "com/example/hydrate_captions/hydratecaptions/ChunkedInts" "chunks" "[[I" (.ref h0.size) ∧ Fld Z h a1 "com/example/hydrate_captions/hydratecaptions/ChunkedInts" "size" "J" (.long (0 : Int64)) ∧ ∃ clA : Cell, Arr Z h h0.size clA (.array .int) ∧ clA.slots.size = 8 ∧ clA.slots[0]? = some .null ∧ OvrA Z clA.cls .int "[I"
set_option maxRecDepth 65536 in
set_option maxHeartbeats 40000000 in
theorem rm1 (l : Launch) (Z : State) (a0 : Array Value) (hw : ∀ d ∈ tables_1, d.before a0 Z = true) (ws : List Jvm.Cond) (a1 : Addr) (u_chunks_a1 : Value) (h0 : Heap) (n0 : Nat) (Z0 : n0 ≤ h0.size) (E_a1 : Exa Z h0 a1 "com/example/hydrate_captions/hydratecaptions/ChunkedInts") (F_chunks_a1 : Fld Z h0 a1 "com/example/hydrate_captions/hydratecaptions/ChunkedInts" "chunks" "[[I" u_chunks_a1) (g_a1 : n0 ≤ a1) (F_size_a1 : Fld Z h0 a1 "com/example/hydrate_captions/hydratecaptions/ChunkedInts" "size" "J" (.long (0 : Int64))) :
    MetFree l (⟨"com/example/hydrate_captions/hydratecaptions/ChunkedInts", "<init>", "()V"⟩ : MethodName) (head1 (Jvm.Cond.code (⟨"com/example/hydrate_captions/hydratecaptions/ChunkedInts", "<init>", "()V"⟩ : MethodName) prog_5_method_1_code 1 none :: ws) ({ frames := 1, cells := 1, slots := 8, locals := 12 } : Room)) (fun a U => a = #[(.ref a1)] ∧ Z.Warmed39 U.vm ∧ U.heap = h0) (fun _ _ _ _ _ => True) (fun _ U o U' => ∃ v L, o = .returned v ∧ Q1 Z a1 u_chunks_a1 h0 n0 v U'.heap L ∧ FrameEnd U o U' L ({ frames := 1, cells := 1, slots := 8, locals := 12 } : Room).cells ({ frames := 1, cells := 1, slots := 8, locals := 12 } : Room).slots) := by
  refine MetFree.of_bodySF (plainFor_of_name pn_1) hisR ?_
  intro p e s m args below meth c s₁ Bd hml0 hP hK
  obtain ⟨rfl, hZ, hh⟩ := hP
  have hx := Bd.exec
  have hby := Bd.bytes
  have hml : c.maxLocals = 1 := hml0
  have hown : s.vm.findClass "com/example/hydrate_captions/hydratecaptions/ChunkedInts" = some m.cls := findClass_of_methodNamed Bd.named
  have hnm := (name_of_methodNamed Bd.named Bd.method).1
  have X0 : Stand p l e ({ frames := 1, cells := 1, slots := 8, locals := 12 } : Room) s m #[(.ref a1)] below meth c s₁ [] 0 0 := Stand.of_body Bd
  have e0 : s₁.heap = h0 := by rw [← hh, Bd.state]; rfl
  have N0 := Fr.nil n0
  have pre0 : ∀ t, Steps p.tables e below (s₁.setTop (mkF m 0 #[.val (.ref a1)] [])) t → Steps p.tables e below (s₁.setTop (entryFrame m #[(.ref a1)] 1)) t := fun t k => castTop (ef_1 m a1) k
  obtain ⟨T2, X2, e2, st2⟩ := initO X0 hx hZ hown (hw _ (List.mem_of_getElem? (i := 6) rfl)) (hw _ (List.mem_of_getElem? (i := 7) rfl)) (hw _ (List.mem_of_getElem? (i := 8) rfl)) e0 (g := (mkF m 1 #[.val (.ref a1)] [(.ref a1)])) rfl (by rw [hml]; rfl) rfl (hb hby d1_1) (by decide) (W := 0) (by show 2 * 0 + _ ≤ _; exact Nat.le_of_eq rfl) (by decide)
  obtain ⟨T3, h3, k3, X3, e3, E3, A3, Ex3, O3, st3⟩ := newRA X2 hx hZ hown (C := "[I") (by decide) (hw _ (List.mem_of_getElem? (i := 9) rfl)) (hw _ (List.mem_of_getElem? (i := 10) rfl)) e2 (g := (mkF m 7 #[.val (.ref a1)] [(.int (8 : Int32)), (.ref a1)])) rfl (hb hby d1_7) rfl (by decide) (cap := 8) (by decide) (by decide) (by decide) (by decide) (ad := "[[I") (by decide)
  obtain ⟨b3, g3⟩ : ∃ z, z = h0.size := ⟨_, rfl⟩
  rw [← g3] at A3 Ex3 st3
  have g_b3 : n0 ≤ b3 := Nat.le_trans Z0 (Nat.le_of_eq g3.symm)
  have sz_b3 : h0.size ≤ b3 := (Nat.le_trans (Keep.refl h0 [a1]).1 (Nat.le_of_eq g3.symm))
  have K3 : Keep h0 h3 [a1] := (Keep.refl h0 [a1]).ext E3
  obtain ⟨T4, h4, X4, e4, W4, st4⟩ := putF X3 hx hZ hown (host := "") (Or.inl (hw _ (List.mem_of_getElem? (i := 11) rfl))) Via.refl e3 (F_chunks_a1.ext E3) (E_a1.ext E3) (Or.inl (hw _ (List.mem_of_getElem? (i := 12) rfl))) (hw _ (List.mem_of_getElem? (i := 1) rfl)) (ty := (.array (.array .int))) (by decide) rfl rfl (g := (mkF m 10 #[.val (.ref a1)] [(.ref b3), (.ref a1)])) rfl rfl (hb hby d1_10)
  have Fw4 := (F_chunks_a1.ext E3).same W4
  have K4 : Keep h0 h4 [a1] := K3.wr W4 (Or.inl (List.mem_of_getElem? (i := 0) rfl))
  have N4 := Fr.snoc X4 N0 g_a1
  obtain ⟨fs, hr, hrun, hended, hW, hsame⟩ := X4.leave (v := none) (fun _ => rfl)
  refine ⟨_, _, pre0 _ ?_, hrun, hended, _, _, rfl, ?_, ⟨_, rfl⟩, hW, hsame.mono (by decide) (by decide)⟩
  · show Steps p.tables e below (s₁.setTop (mkF m 0 #[.val (.ref a1)] [])) _
    refine XS.aloadN X0.here hx rfl (hb hby d1_0) rfl rfl ?_
    show Steps p.tables e below (s₁.setTop (mkF m 1 #[.val (.ref a1)] [(.ref a1)])) _
    refine st2 _ ?_
    show Steps p.tables e below (T2.setTop (mkF m 4 #[.val (.ref a1)] [])) _
    refine XS.aloadN X2.here hx rfl (hb hby d1_4) rfl rfl ?_
    show Steps p.tables e below (T2.setTop (mkF m 5 #[.val (.ref a1)] [(.ref a1)])) _
    refine XS.bipush X2.here hx rfl (hb hby d1_5) ?_
    show Steps p.tables e below (T2.setTop (mkF m 7 #[.val (.ref a1)] [(.int (8 : Int32)), (.ref a1)])) _
    refine st3 _ ?_
    show Steps p.tables e below (T3.setTop (mkF m 10 #[.val (.ref a1)] [(.ref b3), (.ref a1)])) _
    refine st4 _ ?_
    show Steps p.tables e below (T4.setTop (mkF m 13 #[.val (.ref a1)] [])) _
    exact X4.returnOut hx Bd.returns (hb hby d1_13) hr
  · show Q1 Z a1 u_chunks_a1 h0 n0 _ T4.heap _
    rw [e4]
    have hne : b3 ≠ a1 := Ne.symm (Nat.ne_of_lt (Nat.lt_of_lt_of_le E_a1.lt (Nat.le_of_eq g3.symm)))
    have FS := ((F_size_a1.ext E3).other W4 (Or.inr (slot_ne (Or.inl (hw _ (List.mem_of_getElem? (i := 19) rfl))) (Or.inl (hw _ (List.mem_of_getElem? (i := 12) rfl))) (by decide) (t := .long) (t' := (.array (.array .int))) (by decide) (by decide))))
    have AR := A3.other W4 hne
    subst g3
    exact ⟨rfl, N4, K4, ((E_a1.ext E3).wr W4), Fw4, FS, _, AR, sz_new _ _ _, get_new (k := 0) (by decide), O3⟩
theorem d3_0 : decode prog_5_method_4_code 0 = .ok (.aload_n 0, 1) := by decide +kernel
theorem d3_1 : decode prog_5_method_4_code 1 = .ok (.getfield 15, 3) := by decide +kernel
theorem d3_4 : decode prog_5_method_4_code 4 = .ok (.bipush 16, 2) := by decide +kernel
theorem d3_6 : decode prog_5_method_4_code 6 = .ok (.lushr, 1) := by decide +kernel
theorem d3_7 : decode prog_5_method_4_code 7 = .ok (.l2i, 1) := by decide +kernel
theorem d3_8 : decode prog_5_method_4_code 8 = .ok (.istore_n 2, 1) := by decide +kernel
theorem d3_9 : decode prog_5_method_4_code 9 = .ok (.iload_n 2, 1) := by decide +kernel
theorem d3_10 : decode prog_5_method_4_code 10 = .ok (.aload_n 0, 1) := by decide +kernel
theorem d3_11 : decode prog_5_method_4_code 11 = .ok (.getfield 11, 3) := by decide +kernel
theorem d3_14 : decode prog_5_method_4_code 14 = .ok (.arraylength, 1) := by decide +kernel
theorem d3_15 : decode prog_5_method_4_code 15 = .ok (.if_icmp .ne 24, 3) := by decide +kernel
theorem d3_39 : decode prog_5_method_4_code 39 = .ok (.aload_n 0, 1) := by decide +kernel
theorem d3_40 : decode prog_5_method_4_code 40 = .ok (.getfield 11, 3) := by decide +kernel
theorem d3_43 : decode prog_5_method_4_code 43 = .ok (.iload_n 2, 1) := by decide +kernel
theorem d3_44 : decode prog_5_method_4_code 44 = .ok (.aaload, 1) := by decide +kernel
theorem d3_45 : decode prog_5_method_4_code 45 = .ok (.ifnonnull 13, 3) := by decide +kernel
theorem d3_48 : decode prog_5_method_4_code 48 = .ok (.aload_n 0, 1) := by decide +kernel
theorem d3_49 : decode prog_5_method_4_code 49 = .ok (.getfield 11, 3) := by decide +kernel
theorem d3_52 : decode prog_5_method_4_code 52 = .ok (.iload_n 2, 1) := by decide +kernel
theorem d3_53 : decode prog_5_method_4_code 53 = .ok (.ldc 27, 2) := by decide +kernel
theorem d3_55 : decode prog_5_method_4_code 55 = .ok (.newarray .int, 2) := by decide +kernel
theorem d3_57 : decode prog_5_method_4_code 57 = .ok (.aastore, 1) := by decide +kernel
theorem d3_58 : decode prog_5_method_4_code 58 = .ok (.aload_n 0, 1) := by decide +kernel
theorem d3_59 : decode prog_5_method_4_code 59 = .ok (.getfield 11, 3) := by decide +kernel
theorem d3_62 : decode prog_5_method_4_code 62 = .ok (.iload_n 2, 1) := by decide +kernel
theorem d3_63 : decode prog_5_method_4_code 63 = .ok (.aaload, 1) := by decide +kernel
theorem d3_64 : decode prog_5_method_4_code 64 = .ok (.aload_n 0, 1) := by decide +kernel
theorem d3_65 : decode prog_5_method_4_code 65 = .ok (.getfield 15, 3) := by decide +kernel
theorem d3_68 : decode prog_5_method_4_code 68 = .ok (.l2i, 1) := by decide +kernel
theorem d3_69 : decode prog_5_method_4_code 69 = .ok (.ldc 19, 2) := by decide +kernel
theorem d3_71 : decode prog_5_method_4_code 71 = .ok (.iand, 1) := by decide +kernel
theorem d3_72 : decode prog_5_method_4_code 72 = .ok (.iload_n 1, 1) := by decide +kernel
theorem d3_73 : decode prog_5_method_4_code 73 = .ok (.iastore, 1) := by decide +kernel
theorem d3_74 : decode prog_5_method_4_code 74 = .ok (.aload_n 0, 1) := by decide +kernel
theorem d3_75 : decode prog_5_method_4_code 75 = .ok (.dup, 1) := by decide +kernel
theorem d3_76 : decode prog_5_method_4_code 76 = .ok (.getfield 15, 3) := by decide +kernel
theorem d3_79 : decode prog_5_method_4_code 79 = .ok (.lconst 1, 1) := by decide +kernel
theorem d3_80 : decode prog_5_method_4_code 80 = .ok (.ladd, 1) := by decide +kernel
theorem d3_81 : decode prog_5_method_4_code 81 = .ok (.putfield 15, 3) := by decide +kernel
theorem d3_84 : decode prog_5_method_4_code 84 = .ok (.return_, 1) := by decide +kernel
theorem pn_3 : plainName "com/example/hydrate_captions/hydratecaptions/ChunkedInts" = true := by first | (simp [plainName, overriddenIn]; done) | decide +kernel
theorem ef_3 (m : MethodId) (x0 : Addr) (x1 : Int32) : entryFrame m #[(.ref x0), (.int x1)] 3 = mkF m 0 #[.val (.ref x0), .val (.int x1), .unset] [] := by first | (simp [entryFrame, mkF, argsToLocals, Value.category]; done) | rfl
def Q3a (Z : State) (a1 : Addr) (p2 : Int32) (w3 : Int64) (w5 : Addr) (cl_w5 : Cell) (jn : Nat) (h0 : Heap) (n0 : Nat) (v : Option Value) (h : Heap) (L : List Loc) : Prop := v = none ∧ Fr n0 L ∧ Keep h0 h [w5, a1] ∧ Exa Z h a1 "com/example/hydrate_captions/hydratecaptions/ChunkedInts" ∧ Fld Z h a1 "com/example/hydrate_captions/hydratecaptions/ChunkedInts" "size" "J" (.long (w3 + (1 : Int64))) ∧ Fld Z h a1 "com/example/hydrate_captions/hydratecaptions/ChunkedInts" "chunks" "[[I" (.ref w5) ∧ Arr Z h w5 (cl_w5.setSlot 0 (.ref h0.size)) (.array .int) ∧ ∃ clB : Cell, Arr Z h h0.size (clB.setSlot jn (.int p2)) .int ∧ clB.slots.size = 65536
set_option maxRecDepth 65536 in
set_option maxHeartbeats 40000000 in
theorem rm3a (l : Launch) (Z : State) (a0 : Array Value) (hw : ∀ d ∈ tables_1, d.before a0 Z = true) (ws : List Jvm.Cond) (a1 : Addr) (p2 : Int32) (w3 : Int64) (w5 : Addr) (cl_w5 : Cell) (jn : Nat) (h0 : Heap) (n0 : Nat) (Z0 : n0 ≤ h0.size) (F_size_a1 : Fld Z h0 a1 "com/example/hydrate_captions/hydratecaptions/ChunkedInts" "size" "J" (.long w3)) (F_chunks_a1 : Fld Z h0 a1 "com/example/hydrate_captions/hydratecaptions/ChunkedInts" "chunks" "[[I" (.ref w5)) (Ar_w5 : Arr Z h0 w5 cl_w5 (.array .int)) (S5 : cl_w5.slots.size = 8) (h50 : cl_w5.slots[0]? = some .null) (O5 : OvrA Z cl_w5.cls .int "[I") (g_w5 : n0 ≤ w5) (hne5 : a1 ≠ w5) (E_a1 : Exa Z h0 a1 "com/example/hydrate_captions/hydratecaptions/ChunkedInts") (g_a1 : n0 ≤ a1) (hJ : (((w3.toUInt64 >>> ((16 : Int32) &&& 0x3f).toInt64.toUInt64).toInt64).toInt32) = (0 : Int32)) (hj : ((w3.toInt32) &&& (65535 : Int32)).toNatClampNeg = jn ∧ ¬ ((w3.toInt32) &&& (65535 : Int32)) < 0 ∧ jn < 65536) :
    MetFree l (⟨"com/example/hydrate_captions/hydratecaptions/ChunkedInts", "add", "(I)V"⟩ : MethodName) (head1 (Jvm.Cond.code (⟨"com/example/hydrate_captions/hydratecaptions/ChunkedInts", "add", "(I)V"⟩ : MethodName) prog_5_method_4_code 3 none :: ws) ({ frames := 0, cells := 1, slots := 65536, locals := 0 } : Room)) (fun a U => a = #[(.ref a1), (.int p2)] ∧ Z.Warmed39 U.vm ∧ U.heap = h0) (fun _ _ _ _ _ => True) (fun _ U o U' => ∃ v L, o = .returned v ∧ Q3a Z a1 p2 w3 w5 cl_w5 jn h0 n0 v U'.heap L ∧ FrameEnd U o U' L ({ frames := 0, cells := 1, slots := 65536, locals := 0 } : Room).cells ({ frames := 0, cells := 1, slots := 65536, locals := 0 } : Room).slots) := by
  refine MetFree.of_bodySF (plainFor_of_name pn_3) hisR ?_
  intro p e s m args below meth c s₁ Bd hml0 hP hK
  obtain ⟨rfl, hZ, hh⟩ := hP
  have S_w5 : cl_w5.slots.size = (8 : Int32).toNatClampNeg := S5
  have N_w5 : ¬ (8 : Int32) < 0 := by decide
  have hin44 : ¬ ((((w3.toUInt64 >>> ((16 : Int32) &&& 0x3f).toInt64.toUInt64).toInt64).toInt32) < 0 ∨ cl_w5.slots.size ≤ ((((w3.toUInt64 >>> ((16 : Int32) &&& 0x3f).toInt64.toUInt64).toInt64).toInt32)).toNatClampNeg) := by rw [hJ, S5]; decide
  have hat44 : cl_w5.slots[((((w3.toUInt64 >>> ((16 : Int32) &&& 0x3f).toInt64.toUInt64).toInt64).toInt32)).toNatClampNeg]? = some .null := by rw [hJ]; exact h50
  have hc15 : ¬ ((((w3.toUInt64 >>> ((16 : Int32) &&& 0x3f).toInt64.toUInt64).toInt64).toInt32) = (8 : Int32)) := by rw [hJ]; decide
  have hin57 := hin44
  have hx := Bd.exec
  have hby := Bd.bytes
  have hml : c.maxLocals = 3 := hml0
  have hown : s.vm.findClass "com/example/hydrate_captions/hydratecaptions/ChunkedInts" = some m.cls := findClass_of_methodNamed Bd.named
  have hnm := (name_of_methodNamed Bd.named Bd.method).1
  have X0 : Stand p l e ({ frames := 0, cells := 1, slots := 65536, locals := 0 } : Room) s m #[(.ref a1), (.int p2)] below meth c s₁ [] 0 0 := Stand.of_body Bd
  have e0 : s₁.heap = h0 := by rw [← hh, Bd.state]; rfl
  have N0 := Fr.nil n0
  have pre0 : ∀ t, Steps p.tables e below (s₁.setTop (mkF m 0 #[.val (.ref a1), .val (.int p2), .unset] [])) t → Steps p.tables e below (s₁.setTop (entryFrame m #[(.ref a1), (.int p2)] 3)) t := fun t k => castTop (ef_3 m a1 p2) k
  obtain ⟨T4, X4, e4, st4⟩ := getF X0 hx hZ hown (host := "") (Or.inl (hw _ (List.mem_of_getElem? (i := 18) rfl))) Via.refl e0 F_size_a1 (g := (mkF m 1 #[.val (.ref a1), .val (.int p2), .unset] [(.ref a1)])) rfl rfl (hb hby d3_1)
  obtain ⟨T6, X6, e6, st6⟩ := getF X4 hx hZ hown (host := "") (Or.inl (hw _ (List.mem_of_getElem? (i := 11) rfl))) Via.refl e4 F_chunks_a1 (g := (mkF m 11 #[.val (.ref a1), .val (.int p2), .val (.int (((w3.toUInt64 >>> ((16 : Int32) &&& 0x3f).toInt64.toUInt64).toInt64).toInt32))] [(.ref a1), (.int (((w3.toUInt64 >>> ((16 : Int32) &&& 0x3f).toInt64.toUInt64).toInt64).toInt32))])) rfl rfl (hb hby d3_11)
  obtain ⟨T7, X7, e7, st7⟩ := getF X6 hx hZ hown (host := "") (Or.inl (hw _ (List.mem_of_getElem? (i := 11) rfl))) Via.refl e6 F_chunks_a1 (g := (mkF m 40 #[.val (.ref a1), .val (.int p2), .val (.int (((w3.toUInt64 >>> ((16 : Int32) &&& 0x3f).toInt64.toUInt64).toInt64).toInt32))] [(.ref a1)])) rfl rfl (hb hby d3_40)
  obtain ⟨T8, X8, e8, st8⟩ := getF X7 hx hZ hown (host := "") (Or.inl (hw _ (List.mem_of_getElem? (i := 11) rfl))) Via.refl e7 F_chunks_a1 (g := (mkF m 49 #[.val (.ref a1), .val (.int p2), .val (.int (((w3.toUInt64 >>> ((16 : Int32) &&& 0x3f).toInt64.toUInt64).toInt64).toInt32))] [(.ref a1)])) rfl rfl (hb hby d3_49)
  obtain ⟨T9, h9, k9, X9, e9, E9, A9, Ex9, st9⟩ := newPE X8 hx hZ (hw _ (List.mem_of_getElem? (i := 21) rfl)) e8 (g := (mkF m 55 #[.val (.ref a1), .val (.int p2), .val (.int (((w3.toUInt64 >>> ((16 : Int32) &&& 0x3f).toInt64.toUInt64).toInt64).toInt32))] [(.int (65536 : Int32)), (.int (((w3.toUInt64 >>> ((16 : Int32) &&& 0x3f).toInt64.toUInt64).toInt64).toInt32)), (.ref w5)])) rfl (hb hby d3_55) rfl (by decide) (cap := 65536) (by decide) (by decide) (by decide) (by decide) (ad := "[I") (by decide)
  obtain ⟨b9, g9⟩ : ∃ z, z = h0.size := ⟨_, rfl⟩
  rw [← g9] at A9 Ex9 st9
  have g_b9 : n0 ≤ b9 := Nat.le_trans Z0 (Nat.le_of_eq g9.symm)
  have sz_b9 : h0.size ≤ b9 := (Nat.le_trans (Keep.refl h0 [w5, a1]).1 (Nat.le_of_eq g9.symm))
  have K9 : Keep h0 h9 [w5, a1] := (Keep.refl h0 [w5, a1]).ext E9
  obtain ⟨T10, h10, X10, e10, W10, st10⟩ := stR X9 hx hZ e9 (Ar_w5.ext E9) (j := (((w3.toUInt64 >>> ((16 : Int32) &&& 0x3f).toInt64.toUInt64).toInt64).toInt32)) hin57 rfl (Sto.ofVA (Ar_w5.ext E9) rfl O5 (Ins.self Ex9)) (g := (mkF m 57 #[.val (.ref a1), .val (.int p2), .val (.int (((w3.toUInt64 >>> ((16 : Int32) &&& 0x3f).toInt64.toUInt64).toInt64).toInt32))] [(.ref b9), (.int (((w3.toUInt64 >>> ((16 : Int32) &&& 0x3f).toInt64.toUInt64).toInt64).toInt32)), (.ref w5)])) rfl rfl (hb hby d3_57)
  have N10 := Fr.snoc X10 N0 g_w5
  have hB1 : a1 ≠ b9 := Nat.ne_of_lt (Nat.lt_of_lt_of_le E_a1.lt (Nat.le_of_eq g9.symm))
  have hB5 : w5 ≠ b9 := Nat.ne_of_lt (Nat.lt_of_lt_of_le Ar_w5.lt (Nat.le_of_eq g9.symm))
  have Ar_v5 := (Ar_w5.ext E9).same W10
  have hin63 : ¬ ((((w3.toUInt64 >>> ((16 : Int32) &&& 0x3f).toInt64.toUInt64).toInt64).toInt32) < 0 ∨ (cl_w5.setSlot ((((w3.toUInt64 >>> ((16 : Int32) &&& 0x3f).toInt64.toUInt64).toInt64).toInt32)).toNatClampNeg (.ref b9)).slots.size ≤ ((((w3.toUInt64 >>> ((16 : Int32) &&& 0x3f).toInt64.toUInt64).toInt64).toInt32)).toNatClampNeg) := by rw [sz_set]; exact hin57
  have hat63 : (cl_w5.setSlot ((((w3.toUInt64 >>> ((16 : Int32) &&& 0x3f).toInt64.toUInt64).toInt64).toInt32)).toNatClampNeg (.ref b9)).slots[((((w3.toUInt64 >>> ((16 : Int32) &&& 0x3f).toInt64.toUInt64).toInt64).toInt32)).toNatClampNeg]? = some (.ref b9) := get_hit hin57 rfl
  have Ar_b9 : Arr Z h10 b9 (newA k9 .int (65536 : Int32)) .int := A9.other W10 (Ne.symm hB5)
  have sB : (newA k9 .int (65536 : Int32)).slots.size = 65536 := (sz_new _ _ _).trans (by decide)
  have hin73 : ¬ (((w3.toInt32) &&& (65535 : Int32)) < 0 ∨ (newA k9 .int (65536 : Int32)).slots.size ≤ (((w3.toInt32) &&& (65535 : Int32))).toNatClampNeg) := fun q => q.elim hj.2.1 fun q => by rw [hj.1, sB] at q; omega
  have K10 : Keep h0 h10 [w5, a1] := K9.wr W10 (Or.inl (List.mem_of_getElem? (i := 0) rfl))
  obtain ⟨T11, X11, e11, st11⟩ := getF X10 hx hZ hown (host := "") (Or.inl (hw _ (List.mem_of_getElem? (i := 11) rfl))) Via.refl e10 ((F_chunks_a1.ext E9).other W10 (Or.inl hne5)) (g := (mkF m 59 #[.val (.ref a1), .val (.int p2), .val (.int (((w3.toUInt64 >>> ((16 : Int32) &&& 0x3f).toInt64.toUInt64).toInt64).toInt32))] [(.ref a1)])) rfl rfl (hb hby d3_59)
  obtain ⟨T13, X13, e13, st13⟩ := getF X11 hx hZ hown (host := "") (Or.inl (hw _ (List.mem_of_getElem? (i := 18) rfl))) Via.refl e11 ((F_size_a1.ext E9).other W10 (Or.inl hne5)) (g := (mkF m 65 #[.val (.ref a1), .val (.int p2), .val (.int (((w3.toUInt64 >>> ((16 : Int32) &&& 0x3f).toInt64.toUInt64).toInt64).toInt32))] [(.ref a1), (.ref b9)])) rfl rfl (hb hby d3_65)
  obtain ⟨T14, h14, X14, e14, W14, st14⟩ := stI X13 hx hZ e13 Ar_b9 (j := ((w3.toInt32) &&& (65535 : Int32))) hin73 (g := (mkF m 73 #[.val (.ref a1), .val (.int p2), .val (.int (((w3.toUInt64 >>> ((16 : Int32) &&& 0x3f).toInt64.toUInt64).toInt64).toInt32))] [(.int p2), (.int ((w3.toInt32) &&& (65535 : Int32))), (.ref b9)])) rfl rfl (hb hby d3_73)
  have N14 := Fr.snoc X14 N10 g_b9
  have K14 : Keep h0 h14 [w5, a1] := K10.wr W14 (Or.inr sz_b9)
  obtain ⟨T15, X15, e15, st15⟩ := getF X14 hx hZ hown (host := "") (Or.inl (hw _ (List.mem_of_getElem? (i := 18) rfl))) Via.refl e14 (((F_size_a1.ext E9).other W10 (Or.inl hne5)).other W14 (Or.inl hB1)) (g := (mkF m 76 #[.val (.ref a1), .val (.int p2), .val (.int (((w3.toUInt64 >>> ((16 : Int32) &&& 0x3f).toInt64.toUInt64).toInt64).toInt32))] [(.ref a1), (.ref a1)])) rfl rfl (hb hby d3_76)
  obtain ⟨T16, h16, X16, e16, W16, st16⟩ := putF X15 hx hZ hown (host := "") (Or.inl (hw _ (List.mem_of_getElem? (i := 18) rfl))) Via.refl e15 (((F_size_a1.ext E9).other W10 (Or.inl hne5)).other W14 (Or.inl hB1)) (((E_a1.ext E9).wr W10).wr W14) (Or.inl (hw _ (List.mem_of_getElem? (i := 19) rfl))) (hw _ (List.mem_of_getElem? (i := 1) rfl)) (ty := .long) (by decide) rfl rfl (g := (mkF m 81 #[.val (.ref a1), .val (.int p2), .val (.int (((w3.toUInt64 >>> ((16 : Int32) &&& 0x3f).toInt64.toUInt64).toInt64).toInt32))] [(.long (w3 + (1 : Int64))), (.ref a1)])) rfl rfl (hb hby d3_81)
  have Fw16 := (((F_size_a1.ext E9).other W10 (Or.inl hne5)).other W14 (Or.inl hB1)).same W16
  have K16 : Keep h0 h16 [w5, a1] := K14.wr W16 (Or.inl (List.mem_of_getElem? (i := 1) rfl))
  have N16 := Fr.snoc X16 N14 g_a1
  obtain ⟨fs, hr, hrun, hended, hW, hsame⟩ := X16.leave (v := none) (fun _ => rfl)
  refine ⟨_, _, pre0 _ ?_, hrun, hended, _, _, rfl, ?_, ⟨_, rfl⟩, hW, hsame.mono (by decide) (by decide)⟩
  · show Steps p.tables e below (s₁.setTop (mkF m 0 #[.val (.ref a1), .val (.int p2), .unset] [])) _
    refine XS.aloadN X0.here hx rfl (hb hby d3_0) rfl rfl ?_
    show Steps p.tables e below (s₁.setTop (mkF m 1 #[.val (.ref a1), .val (.int p2), .unset] [(.ref a1)])) _
    refine st4 _ ?_
    show Steps p.tables e below (T4.setTop (mkF m 4 #[.val (.ref a1), .val (.int p2), .unset] [(.long w3)])) _
    refine XS.bipush X4.here hx rfl (hb hby d3_4) ?_
    show Steps p.tables e below (T4.setTop (mkF m 6 #[.val (.ref a1), .val (.int p2), .unset] [(.int (16 : Int32)), (.long w3)])) _
    refine XS.lushr X4.here hx rfl (hb hby d3_6) rfl ?_
    show Steps p.tables e below (T4.setTop (mkF m 7 #[.val (.ref a1), .val (.int p2), .unset] [(.long ((w3.toUInt64 >>> ((16 : Int32) &&& 0x3f).toInt64.toUInt64).toInt64))])) _
    refine XS.l2i X4.here hx rfl (hb hby d3_7) rfl ?_
    show Steps p.tables e below (T4.setTop (mkF m 8 #[.val (.ref a1), .val (.int p2), .unset] [(.int (((w3.toUInt64 >>> ((16 : Int32) &&& 0x3f).toInt64.toUInt64).toInt64).toInt32))])) _
    refine XS.istoreN X4.here hx rfl (hb hby d3_8) rfl (l' := #[.val (.ref a1), .val (.int p2), .val (.int (((w3.toUInt64 >>> ((16 : Int32) &&& 0x3f).toInt64.toUInt64).toInt64).toInt32))]) rfl ?_
    show Steps p.tables e below (T4.setTop (mkF m 9 #[.val (.ref a1), .val (.int p2), .val (.int (((w3.toUInt64 >>> ((16 : Int32) &&& 0x3f).toInt64.toUInt64).toInt64).toInt32))] [])) _
    refine XS.iloadN X4.here hx rfl (hb hby d3_9) rfl ?_
    show Steps p.tables e below (T4.setTop (mkF m 10 #[.val (.ref a1), .val (.int p2), .val (.int (((w3.toUInt64 >>> ((16 : Int32) &&& 0x3f).toInt64.toUInt64).toInt64).toInt32))] [(.int (((w3.toUInt64 >>> ((16 : Int32) &&& 0x3f).toInt64.toUInt64).toInt64).toInt32))])) _
    refine XS.aloadN X4.here hx rfl (hb hby d3_10) rfl rfl ?_
    show Steps p.tables e below (T4.setTop (mkF m 11 #[.val (.ref a1), .val (.int p2), .val (.int (((w3.toUInt64 >>> ((16 : Int32) &&& 0x3f).toInt64.toUInt64).toInt64).toInt32))] [(.ref a1), (.int (((w3.toUInt64 >>> ((16 : Int32) &&& 0x3f).toInt64.toUInt64).toInt64).toInt32))])) _
    refine st6 _ ?_
    show Steps p.tables e below (T6.setTop (mkF m 14 #[.val (.ref a1), .val (.int p2), .val (.int (((w3.toUInt64 >>> ((16 : Int32) &&& 0x3f).toInt64.toUInt64).toInt64).toInt32))] [(.ref w5), (.int (((w3.toUInt64 >>> ((16 : Int32) &&& 0x3f).toInt64.toUInt64).toInt64).toInt32))])) _
    refine X6.arraylength hx (by rw [e6]; exact Ar_w5.1) (State.isArrayOf_alike hZ.alike Ar_w5.2.1) (g := (mkF m 14 #[.val (.ref a1), .val (.int p2), .val (.int (((w3.toUInt64 >>> ((16 : Int32) &&& 0x3f).toInt64.toUInt64).toInt64).toInt32))] [(.ref w5), (.int (((w3.toUInt64 >>> ((16 : Int32) &&& 0x3f).toInt64.toUInt64).toInt64).toInt32))])) rfl rfl (hb hby d3_14) _ ?_
    rw [len_of S_w5 N_w5]
    show Steps p.tables e below (T6.setTop (mkF m 15 #[.val (.ref a1), .val (.int p2), .val (.int (((w3.toUInt64 >>> ((16 : Int32) &&& 0x3f).toInt64.toUInt64).toInt64).toInt32))] [(.int (8 : Int32)), (.int (((w3.toUInt64 >>> ((16 : Int32) &&& 0x3f).toInt64.toUInt64).toInt64).toInt32))])) _
    refine XS.icmpYes X6.here hx rfl (pc0 := 15) (pc' := 39) rfl (hb hby d3_15) rfl (feq hc15).2 (by decide) (by decide) ?_
    show Steps p.tables e below (T6.setTop (mkF m 39 #[.val (.ref a1), .val (.int p2), .val (.int (((w3.toUInt64 >>> ((16 : Int32) &&& 0x3f).toInt64.toUInt64).toInt64).toInt32))] [])) _
    refine XS.aloadN X6.here hx rfl (hb hby d3_39) rfl rfl ?_
    show Steps p.tables e below (T6.setTop (mkF m 40 #[.val (.ref a1), .val (.int p2), .val (.int (((w3.toUInt64 >>> ((16 : Int32) &&& 0x3f).toInt64.toUInt64).toInt64).toInt32))] [(.ref a1)])) _
    refine st7 _ ?_
    show Steps p.tables e below (T7.setTop (mkF m 43 #[.val (.ref a1), .val (.int p2), .val (.int (((w3.toUInt64 >>> ((16 : Int32) &&& 0x3f).toInt64.toUInt64).toInt64).toInt32))] [(.ref w5)])) _
    refine XS.iloadN X7.here hx rfl (hb hby d3_43) rfl ?_
    show Steps p.tables e below (T7.setTop (mkF m 44 #[.val (.ref a1), .val (.int p2), .val (.int (((w3.toUInt64 >>> ((16 : Int32) &&& 0x3f).toInt64.toUInt64).toInt64).toInt32))] [(.int (((w3.toUInt64 >>> ((16 : Int32) &&& 0x3f).toInt64.toUInt64).toInt64).toInt32)), (.ref w5)])) _
    refine X7.aaload hx (j := (((w3.toUInt64 >>> ((16 : Int32) &&& 0x3f).toInt64.toUInt64).toInt64).toInt32)) (v := .null) (by rw [e7]; exact Ar_w5.1) (State.isArrayOf_alike hZ.alike Ar_w5.2.1) rfl Ar_w5.2.2 hin44 hat44 (g := (mkF m 44 #[.val (.ref a1), .val (.int p2), .val (.int (((w3.toUInt64 >>> ((16 : Int32) &&& 0x3f).toInt64.toUInt64).toInt64).toInt32))] [(.int (((w3.toUInt64 >>> ((16 : Int32) &&& 0x3f).toInt64.toUInt64).toInt64).toInt32)), (.ref w5)])) rfl rfl (hb hby d3_44) _ ?_
    show Steps p.tables e below (T7.setTop (mkF m 45 #[.val (.ref a1), .val (.int p2), .val (.int (((w3.toUInt64 >>> ((16 : Int32) &&& 0x3f).toInt64.toUInt64).toInt64).toInt32))] [.null])) _
    refine XS.ifnonnullNo X7.here hx rfl (hb hby d3_45) rfl ?_
    show Steps p.tables e below (T7.setTop (mkF m 48 #[.val (.ref a1), .val (.int p2), .val (.int (((w3.toUInt64 >>> ((16 : Int32) &&& 0x3f).toInt64.toUInt64).toInt64).toInt32))] [])) _
    refine XS.aloadN X7.here hx rfl (hb hby d3_48) rfl rfl ?_
    show Steps p.tables e below (T7.setTop (mkF m 49 #[.val (.ref a1), .val (.int p2), .val (.int (((w3.toUInt64 >>> ((16 : Int32) &&& 0x3f).toInt64.toUInt64).toInt64).toInt32))] [(.ref a1)])) _
    refine st8 _ ?_
    show Steps p.tables e below (T8.setTop (mkF m 52 #[.val (.ref a1), .val (.int p2), .val (.int (((w3.toUInt64 >>> ((16 : Int32) &&& 0x3f).toInt64.toUInt64).toInt64).toInt32))] [(.ref w5)])) _
    refine XS.iloadN X8.here hx rfl (hb hby d3_52) rfl ?_
    show Steps p.tables e below (T8.setTop (mkF m 53 #[.val (.ref a1), .val (.int p2), .val (.int (((w3.toUInt64 >>> ((16 : Int32) &&& 0x3f).toInt64.toUInt64).toInt64).toInt32))] [(.int (((w3.toUInt64 >>> ((16 : Int32) &&& 0x3f).toInt64.toUInt64).toInt64).toInt32)), (.ref w5)])) _
    refine X8.ldcInt hx hown (mvT hZ (hw _ (List.mem_of_getElem? (i := 20) rfl))) (g := (mkF m 53 #[.val (.ref a1), .val (.int p2), .val (.int (((w3.toUInt64 >>> ((16 : Int32) &&& 0x3f).toInt64.toUInt64).toInt64).toInt32))] [(.int (((w3.toUInt64 >>> ((16 : Int32) &&& 0x3f).toInt64.toUInt64).toInt64).toInt32)), (.ref w5)])) rfl (hb hby d3_53) _ ?_
    show Steps p.tables e below (T8.setTop (mkF m 55 #[.val (.ref a1), .val (.int p2), .val (.int (((w3.toUInt64 >>> ((16 : Int32) &&& 0x3f).toInt64.toUInt64).toInt64).toInt32))] [(.int (65536 : Int32)), (.int (((w3.toUInt64 >>> ((16 : Int32) &&& 0x3f).toInt64.toUInt64).toInt64).toInt32)), (.ref w5)])) _
    refine st9 _ ?_
    show Steps p.tables e below (T9.setTop (mkF m 57 #[.val (.ref a1), .val (.int p2), .val (.int (((w3.toUInt64 >>> ((16 : Int32) &&& 0x3f).toInt64.toUInt64).toInt64).toInt32))] [(.ref b9), (.int (((w3.toUInt64 >>> ((16 : Int32) &&& 0x3f).toInt64.toUInt64).toInt64).toInt32)), (.ref w5)])) _
    refine st10 _ ?_
    show Steps p.tables e below (T10.setTop (mkF m 58 #[.val (.ref a1), .val (.int p2), .val (.int (((w3.toUInt64 >>> ((16 : Int32) &&& 0x3f).toInt64.toUInt64).toInt64).toInt32))] [])) _
    refine XS.aloadN X10.here hx rfl (hb hby d3_58) rfl rfl ?_
    show Steps p.tables e below (T10.setTop (mkF m 59 #[.val (.ref a1), .val (.int p2), .val (.int (((w3.toUInt64 >>> ((16 : Int32) &&& 0x3f).toInt64.toUInt64).toInt64).toInt32))] [(.ref a1)])) _
    refine st11 _ ?_
    show Steps p.tables e below (T11.setTop (mkF m 62 #[.val (.ref a1), .val (.int p2), .val (.int (((w3.toUInt64 >>> ((16 : Int32) &&& 0x3f).toInt64.toUInt64).toInt64).toInt32))] [(.ref w5)])) _
    refine XS.iloadN X11.here hx rfl (hb hby d3_62) rfl ?_
    show Steps p.tables e below (T11.setTop (mkF m 63 #[.val (.ref a1), .val (.int p2), .val (.int (((w3.toUInt64 >>> ((16 : Int32) &&& 0x3f).toInt64.toUInt64).toInt64).toInt32))] [(.int (((w3.toUInt64 >>> ((16 : Int32) &&& 0x3f).toInt64.toUInt64).toInt64).toInt32)), (.ref w5)])) _
    refine X11.aaload hx (j := (((w3.toUInt64 >>> ((16 : Int32) &&& 0x3f).toInt64.toUInt64).toInt64).toInt32)) (v := (.ref b9)) (by rw [e11]; exact Ar_v5.1) (State.isArrayOf_alike hZ.alike Ar_v5.2.1) rfl Ar_v5.2.2 hin63 hat63 (g := (mkF m 63 #[.val (.ref a1), .val (.int p2), .val (.int (((w3.toUInt64 >>> ((16 : Int32) &&& 0x3f).toInt64.toUInt64).toInt64).toInt32))] [(.int (((w3.toUInt64 >>> ((16 : Int32) &&& 0x3f).toInt64.toUInt64).toInt64).toInt32)), (.ref w5)])) rfl rfl (hb hby d3_63) _ ?_
    show Steps p.tables e below (T11.setTop (mkF m 64 #[.val (.ref a1), .val (.int p2), .val (.int (((w3.toUInt64 >>> ((16 : Int32) &&& 0x3f).toInt64.toUInt64).toInt64).toInt32))] [(.ref b9)])) _
    refine XS.aloadN X11.here hx rfl (hb hby d3_64) rfl rfl ?_
    show Steps p.tables e below (T11.setTop (mkF m 65 #[.val (.ref a1), .val (.int p2), .val (.int (((w3.toUInt64 >>> ((16 : Int32) &&& 0x3f).toInt64.toUInt64).toInt64).toInt32))] [(.ref a1), (.ref b9)])) _
    refine st13 _ ?_
    show Steps p.tables e below (T13.setTop (mkF m 68 #[.val (.ref a1), .val (.int p2), .val (.int (((w3.toUInt64 >>> ((16 : Int32) &&& 0x3f).toInt64.toUInt64).toInt64).toInt32))] [(.long w3), (.ref b9)])) _
    refine XS.l2i X13.here hx rfl (hb hby d3_68) rfl ?_
    show Steps p.tables e below (T13.setTop (mkF m 69 #[.val (.ref a1), .val (.int p2), .val (.int (((w3.toUInt64 >>> ((16 : Int32) &&& 0x3f).toInt64.toUInt64).toInt64).toInt32))] [(.int (w3.toInt32)), (.ref b9)])) _
    refine X13.ldcInt hx hown (mvT hZ (hw _ (List.mem_of_getElem? (i := 23) rfl))) (g := (mkF m 69 #[.val (.ref a1), .val (.int p2), .val (.int (((w3.toUInt64 >>> ((16 : Int32) &&& 0x3f).toInt64.toUInt64).toInt64).toInt32))] [(.int (w3.toInt32)), (.ref b9)])) rfl (hb hby d3_69) _ ?_
    show Steps p.tables e below (T13.setTop (mkF m 71 #[.val (.ref a1), .val (.int p2), .val (.int (((w3.toUInt64 >>> ((16 : Int32) &&& 0x3f).toInt64.toUInt64).toInt64).toInt32))] [(.int (65535 : Int32)), (.int (w3.toInt32)), (.ref b9)])) _
    refine XS.iand X13.here hx rfl (hb hby d3_71) rfl ?_
    show Steps p.tables e below (T13.setTop (mkF m 72 #[.val (.ref a1), .val (.int p2), .val (.int (((w3.toUInt64 >>> ((16 : Int32) &&& 0x3f).toInt64.toUInt64).toInt64).toInt32))] [(.int ((w3.toInt32) &&& (65535 : Int32))), (.ref b9)])) _
    refine XS.iloadN X13.here hx rfl (hb hby d3_72) rfl ?_
    show Steps p.tables e below (T13.setTop (mkF m 73 #[.val (.ref a1), .val (.int p2), .val (.int (((w3.toUInt64 >>> ((16 : Int32) &&& 0x3f).toInt64.toUInt64).toInt64).toInt32))] [(.int p2), (.int ((w3.toInt32) &&& (65535 : Int32))), (.ref b9)])) _
    refine st14 _ ?_
    show Steps p.tables e below (T14.setTop (mkF m 74 #[.val (.ref a1), .val (.int p2), .val (.int (((w3.toUInt64 >>> ((16 : Int32) &&& 0x3f).toInt64.toUInt64).toInt64).toInt32))] [])) _
    refine XS.aloadN X14.here hx rfl (hb hby d3_74) rfl rfl ?_
    show Steps p.tables e below (T14.setTop (mkF m 75 #[.val (.ref a1), .val (.int p2), .val (.int (((w3.toUInt64 >>> ((16 : Int32) &&& 0x3f).toInt64.toUInt64).toInt64).toInt32))] [(.ref a1)])) _
    refine XS.dup X14.here hx rfl (hb hby d3_75) rfl rfl ?_
    show Steps p.tables e below (T14.setTop (mkF m 76 #[.val (.ref a1), .val (.int p2), .val (.int (((w3.toUInt64 >>> ((16 : Int32) &&& 0x3f).toInt64.toUInt64).toInt64).toInt32))] [(.ref a1), (.ref a1)])) _
    refine st15 _ ?_
    show Steps p.tables e below (T15.setTop (mkF m 79 #[.val (.ref a1), .val (.int p2), .val (.int (((w3.toUInt64 >>> ((16 : Int32) &&& 0x3f).toInt64.toUInt64).toInt64).toInt32))] [(.long w3), (.ref a1)])) _
    refine XS.lconst X15.here hx rfl (hb hby d3_79) ?_
    show Steps p.tables e below (T15.setTop (mkF m 80 #[.val (.ref a1), .val (.int p2), .val (.int (((w3.toUInt64 >>> ((16 : Int32) &&& 0x3f).toInt64.toUInt64).toInt64).toInt32))] [(.long (1 : Int64)), (.long w3), (.ref a1)])) _
    refine XS.ladd X15.here hx rfl (hb hby d3_80) rfl ?_
    show Steps p.tables e below (T15.setTop (mkF m 81 #[.val (.ref a1), .val (.int p2), .val (.int (((w3.toUInt64 >>> ((16 : Int32) &&& 0x3f).toInt64.toUInt64).toInt64).toInt32))] [(.long (w3 + (1 : Int64))), (.ref a1)])) _
    refine st16 _ ?_
    show Steps p.tables e below (T16.setTop (mkF m 84 #[.val (.ref a1), .val (.int p2), .val (.int (((w3.toUInt64 >>> ((16 : Int32) &&& 0x3f).toInt64.toUInt64).toInt64).toInt32))] [])) _
    exact X16.returnOut hx Bd.returns (hb hby d3_84) hr
  · show Q3a Z a1 p2 w3 w5 cl_w5 jn h0 n0 _ T16.heap _
    rw [e16]
    have FC := ((((F_chunks_a1.ext E9).other W10 (Or.inl hne5)).other W14 (Or.inl hB1)).other W16 (Or.inr (slot_ne (Or.inl (hw _ (List.mem_of_getElem? (i := 12) rfl))) (Or.inl (hw _ (List.mem_of_getElem? (i := 19) rfl))) (by decide) (t := (.array (.array .int))) (t' := .long) (by decide) (by decide))))
    have A5 := (Ar_v5.other W14 hB5).other W16 (Ne.symm hne5)
    have AB := (Ar_b9.same W14).other W16 (Ne.symm hB1)
    rw [hj.1] at AB
    rw [hJ] at A5
    subst g9
    exact ⟨rfl, N16, K16, (((E_a1.ext E9).wr W10).wr W14).wr W16, Fw16, FC, A5, _, AB, sB⟩
def Q3b (Z : State) (a1 : Addr) (p2 : Int32) (w3 : Int64) (w5 : Addr) (w10 : Addr) (cl_w10 : Cell) (jn : Nat) (h0 : Heap) (n0 : Nat) (v : Option Value) (h : Heap) (L : List Loc) : Prop := v = none ∧ Fr n0 L ∧ Keep h0 h [w10, a1] ∧ Exa Z h a1 "com/example/hydrate_captions/hydratecaptions/ChunkedInts" ∧ Fld Z h a1 "com/example/hydrate_captions/hydratecaptions/ChunkedInts" "size" "J" (.long (w3 + (1 : Int64))) ∧ Fld Z h a1 "com/example/hydrate_captions/hydratecaptions/ChunkedInts" "chunks" "[[I" (.ref w5) ∧ Arr Z h w10 (cl_w10.setSlot jn (.int p2)) .int
set_option maxRecDepth 65536 in
set_option maxHeartbeats 40000000 in
theorem rm3b (l : Launch) (Z : State) (a0 : Array Value) (hw : ∀ d ∈ tables_1, d.before a0 Z = true) (ws : List Jvm.Cond) (a1 : Addr) (p2 : Int32) (w3 : Int64) (w5 : Addr) (cl_w5 : Cell) (w10 : Addr) (cl_w10 : Cell) (jn : Nat) (h0 : Heap) (n0 : Nat) (Z0 : n0 ≤ h0.size) (F_size_a1 : Fld Z h0 a1 "com/example/hydrate_captions/hydratecaptions/ChunkedInts" "size" "J" (.long w3)) (F_chunks_a1 : Fld Z h0 a1 "com/example/hydrate_captions/hydratecaptions/ChunkedInts" "chunks" "[[I" (.ref w5)) (Ar_w5 : Arr Z h0 w5 cl_w5 (.array .int)) (S5 : cl_w5.slots.size = 8) (h50 : cl_w5.slots[0]? = some (.ref w10)) (Ar_w10 : Arr Z h0 w10 cl_w10 .int) (S10 : cl_w10.slots.size = 65536) (g_w10 : n0 ≤ w10) (hne : a1 ≠ w10) (E_a1 : Exa Z h0 a1 "com/example/hydrate_captions/hydratecaptions/ChunkedInts") (g_a1 : n0 ≤ a1) (hJ : (((w3.toUInt64 >>> ((16 : Int32) &&& 0x3f).toInt64.toUInt64).toInt64).toInt32) = (0 : Int32)) (hj : ((w3.toInt32) &&& (65535 : Int32)).toNatClampNeg = jn ∧ ¬ ((w3.toInt32) &&& (65535 : Int32)) < 0 ∧ jn < 65536) :
    MetFree l (⟨"com/example/hydrate_captions/hydratecaptions/ChunkedInts", "add", "(I)V"⟩ : MethodName) (head1 (Jvm.Cond.code (⟨"com/example/hydrate_captions/hydratecaptions/ChunkedInts", "add", "(I)V"⟩ : MethodName) prog_5_method_4_code 3 none :: ws) ({ frames := 0, cells := 0, slots := 0, locals := 0 } : Room)) (fun a U => a = #[(.ref a1), (.int p2)] ∧ Z.Warmed39 U.vm ∧ U.heap = h0) (fun _ _ _ _ _ => True) (fun _ U o U' => ∃ v L, o = .returned v ∧ Q3b Z a1 p2 w3 w5 w10 cl_w10 jn h0 n0 v U'.heap L ∧ FrameEnd U o U' L ({ frames := 0, cells := 0, slots := 0, locals := 0 } : Room).cells ({ frames := 0, cells := 0, slots := 0, locals := 0 } : Room).slots) := by
  refine MetFree.of_bodySF (plainFor_of_name pn_3) hisR ?_
  intro p e s m args below meth c s₁ Bd hml0 hP hK
  obtain ⟨rfl, hZ, hh⟩ := hP
  have S_w5 : cl_w5.slots.size = (8 : Int32).toNatClampNeg := S5
  have N_w5 : ¬ (8 : Int32) < 0 := by decide
  have hin44 : ¬ ((((w3.toUInt64 >>> ((16 : Int32) &&& 0x3f).toInt64.toUInt64).toInt64).toInt32) < 0 ∨ cl_w5.slots.size ≤ ((((w3.toUInt64 >>> ((16 : Int32) &&& 0x3f).toInt64.toUInt64).toInt64).toInt32)).toNatClampNeg) := by rw [hJ, S5]; decide
  have hat44 : cl_w5.slots[((((w3.toUInt64 >>> ((16 : Int32) &&& 0x3f).toInt64.toUInt64).toInt64).toInt32)).toNatClampNeg]? = some (.ref w10) := by rw [hJ]; exact h50
  have hc15 : ¬ ((((w3.toUInt64 >>> ((16 : Int32) &&& 0x3f).toInt64.toUInt64).toInt64).toInt32) = (8 : Int32)) := by rw [hJ]; decide
  have hin63 := hin44
  have hat63 := hat44
  have hin73 : ¬ (((w3.toInt32) &&& (65535 : Int32)) < 0 ∨ cl_w10.slots.size ≤ (((w3.toInt32) &&& (65535 : Int32))).toNatClampNeg) := fun q => q.elim hj.2.1 fun q => by rw [hj.1, S10] at q; omega
  have hx := Bd.exec
  have hby := Bd.bytes
  have hml : c.maxLocals = 3 := hml0
  have hown : s.vm.findClass "com/example/hydrate_captions/hydratecaptions/ChunkedInts" = some m.cls := findClass_of_methodNamed Bd.named
  have hnm := (name_of_methodNamed Bd.named Bd.method).1
  have X0 : Stand p l e ({ frames := 0, cells := 0, slots := 0, locals := 0 } : Room) s m #[(.ref a1), (.int p2)] below meth c s₁ [] 0 0 := Stand.of_body Bd
  have e0 : s₁.heap = h0 := by rw [← hh, Bd.state]; rfl
  have N0 := Fr.nil n0
  have pre0 : ∀ t, Steps p.tables e below (s₁.setTop (mkF m 0 #[.val (.ref a1), .val (.int p2), .unset] [])) t → Steps p.tables e below (s₁.setTop (entryFrame m #[(.ref a1), (.int p2)] 3)) t := fun t k => castTop (ef_3 m a1 p2) k
  obtain ⟨T4, X4, e4, st4⟩ := getF X0 hx hZ hown (host := "") (Or.inl (hw _ (List.mem_of_getElem? (i := 18) rfl))) Via.refl e0 F_size_a1 (g := (mkF m 1 #[.val (.ref a1), .val (.int p2), .unset] [(.ref a1)])) rfl rfl (hb hby d3_1)
  obtain ⟨T6, X6, e6, st6⟩ := getF X4 hx hZ hown (host := "") (Or.inl (hw _ (List.mem_of_getElem? (i := 11) rfl))) Via.refl e4 F_chunks_a1 (g := (mkF m 11 #[.val (.ref a1), .val (.int p2), .val (.int (((w3.toUInt64 >>> ((16 : Int32) &&& 0x3f).toInt64.toUInt64).toInt64).toInt32))] [(.ref a1), (.int (((w3.toUInt64 >>> ((16 : Int32) &&& 0x3f).toInt64.toUInt64).toInt64).toInt32))])) rfl rfl (hb hby d3_11)
  obtain ⟨T7, X7, e7, st7⟩ := getF X6 hx hZ hown (host := "") (Or.inl (hw _ (List.mem_of_getElem? (i := 11) rfl))) Via.refl e6 F_chunks_a1 (g := (mkF m 40 #[.val (.ref a1), .val (.int p2), .val (.int (((w3.toUInt64 >>> ((16 : Int32) &&& 0x3f).toInt64.toUInt64).toInt64).toInt32))] [(.ref a1)])) rfl rfl (hb hby d3_40)
  obtain ⟨T9, X9, e9, st9⟩ := getF X7 hx hZ hown (host := "") (Or.inl (hw _ (List.mem_of_getElem? (i := 11) rfl))) Via.refl e7 F_chunks_a1 (g := (mkF m 59 #[.val (.ref a1), .val (.int p2), .val (.int (((w3.toUInt64 >>> ((16 : Int32) &&& 0x3f).toInt64.toUInt64).toInt64).toInt32))] [(.ref a1)])) rfl rfl (hb hby d3_59)
  obtain ⟨T11, X11, e11, st11⟩ := getF X9 hx hZ hown (host := "") (Or.inl (hw _ (List.mem_of_getElem? (i := 18) rfl))) Via.refl e9 F_size_a1 (g := (mkF m 65 #[.val (.ref a1), .val (.int p2), .val (.int (((w3.toUInt64 >>> ((16 : Int32) &&& 0x3f).toInt64.toUInt64).toInt64).toInt32))] [(.ref a1), (.ref w10)])) rfl rfl (hb hby d3_65)
  obtain ⟨T12, h12, X12, e12, W12, st12⟩ := stI X11 hx hZ e11 Ar_w10 (j := ((w3.toInt32) &&& (65535 : Int32))) hin73 (g := (mkF m 73 #[.val (.ref a1), .val (.int p2), .val (.int (((w3.toUInt64 >>> ((16 : Int32) &&& 0x3f).toInt64.toUInt64).toInt64).toInt32))] [(.int p2), (.int ((w3.toInt32) &&& (65535 : Int32))), (.ref w10)])) rfl rfl (hb hby d3_73)
  have N12 := Fr.snoc X12 N0 g_w10
  have K12 : Keep h0 h12 [w10, a1] := (Keep.refl h0 [w10, a1]).wr W12 (Or.inl (List.mem_of_getElem? (i := 0) rfl))
  obtain ⟨T13, X13, e13, st13⟩ := getF X12 hx hZ hown (host := "") (Or.inl (hw _ (List.mem_of_getElem? (i := 18) rfl))) Via.refl e12 (F_size_a1.other W12 (Or.inl hne)) (g := (mkF m 76 #[.val (.ref a1), .val (.int p2), .val (.int (((w3.toUInt64 >>> ((16 : Int32) &&& 0x3f).toInt64.toUInt64).toInt64).toInt32))] [(.ref a1), (.ref a1)])) rfl rfl (hb hby d3_76)
  obtain ⟨T14, h14, X14, e14, W14, st14⟩ := putF X13 hx hZ hown (host := "") (Or.inl (hw _ (List.mem_of_getElem? (i := 18) rfl))) Via.refl e13 (F_size_a1.other W12 (Or.inl hne)) (E_a1.wr W12) (Or.inl (hw _ (List.mem_of_getElem? (i := 19) rfl))) (hw _ (List.mem_of_getElem? (i := 1) rfl)) (ty := .long) (by decide) rfl rfl (g := (mkF m 81 #[.val (.ref a1), .val (.int p2), .val (.int (((w3.toUInt64 >>> ((16 : Int32) &&& 0x3f).toInt64.toUInt64).toInt64).toInt32))] [(.long (w3 + (1 : Int64))), (.ref a1)])) rfl rfl (hb hby d3_81)
  have Fw14 := (F_size_a1.other W12 (Or.inl hne)).same W14
  have K14 : Keep h0 h14 [w10, a1] := K12.wr W14 (Or.inl (List.mem_of_getElem? (i := 1) rfl))
  have N14 := Fr.snoc X14 N12 g_a1
  obtain ⟨fs, hr, hrun, hended, hW, hsame⟩ := X14.leave (v := none) (fun _ => rfl)
  refine ⟨_, _, pre0 _ ?_, hrun, hended, _, _, rfl, ?_, ⟨_, rfl⟩, hW, hsame.mono (by decide) (by decide)⟩
  · show Steps p.tables e below (s₁.setTop (mkF m 0 #[.val (.ref a1), .val (.int p2), .unset] [])) _
    refine XS.aloadN X0.here hx rfl (hb hby d3_0) rfl rfl ?_
    show Steps p.tables e below (s₁.setTop (mkF m 1 #[.val (.ref a1), .val (.int p2), .unset] [(.ref a1)])) _
    refine st4 _ ?_
    show Steps p.tables e below (T4.setTop (mkF m 4 #[.val (.ref a1), .val (.int p2), .unset] [(.long w3)])) _
    refine XS.bipush X4.here hx rfl (hb hby d3_4) ?_
    show Steps p.tables e below (T4.setTop (mkF m 6 #[.val (.ref a1), .val (.int p2), .unset] [(.int (16 : Int32)), (.long w3)])) _
    refine XS.lushr X4.here hx rfl (hb hby d3_6) rfl ?_
    show Steps p.tables e below (T4.setTop (mkF m 7 #[.val (.ref a1), .val (.int p2), .unset] [(.long ((w3.toUInt64 >>> ((16 : Int32) &&& 0x3f).toInt64.toUInt64).toInt64))])) _
    refine XS.l2i X4.here hx rfl (hb hby d3_7) rfl ?_
    show Steps p.tables e below (T4.setTop (mkF m 8 #[.val (.ref a1), .val (.int p2), .unset] [(.int (((w3.toUInt64 >>> ((16 : Int32) &&& 0x3f).toInt64.toUInt64).toInt64).toInt32))])) _
    refine XS.istoreN X4.here hx rfl (hb hby d3_8) rfl (l' := #[.val (.ref a1), .val (.int p2), .val (.int (((w3.toUInt64 >>> ((16 : Int32) &&& 0x3f).toInt64.toUInt64).toInt64).toInt32))]) rfl ?_
    show Steps p.tables e below (T4.setTop (mkF m 9 #[.val (.ref a1), .val (.int p2), .val (.int (((w3.toUInt64 >>> ((16 : Int32) &&& 0x3f).toInt64.toUInt64).toInt64).toInt32))] [])) _
    refine XS.iloadN X4.here hx rfl (hb hby d3_9) rfl ?_
    show Steps p.tables e below (T4.setTop (mkF m 10 #[.val (.ref a1), .val (.int p2), .val (.int (((w3.toUInt64 >>> ((16 : Int32) &&& 0x3f).toInt64.toUInt64).toInt64).toInt32))] [(.int (((w3.toUInt64 >>> ((16 : Int32) &&& 0x3f).toInt64.toUInt64).toInt64).toInt32))])) _
    refine XS.aloadN X4.here hx rfl (hb hby d3_10) rfl rfl ?_
    show Steps p.tables e below (T4.setTop (mkF m 11 #[.val (.ref a1), .val (.int p2), .val (.int (((w3.toUInt64 >>> ((16 : Int32) &&& 0x3f).toInt64.toUInt64).toInt64).toInt32))] [(.ref a1), (.int (((w3.toUInt64 >>> ((16 : Int32) &&& 0x3f).toInt64.toUInt64).toInt64).toInt32))])) _
    refine st6 _ ?_
    show Steps p.tables e below (T6.setTop (mkF m 14 #[.val (.ref a1), .val (.int p2), .val (.int (((w3.toUInt64 >>> ((16 : Int32) &&& 0x3f).toInt64.toUInt64).toInt64).toInt32))] [(.ref w5), (.int (((w3.toUInt64 >>> ((16 : Int32) &&& 0x3f).toInt64.toUInt64).toInt64).toInt32))])) _
    refine X6.arraylength hx (by rw [e6]; exact Ar_w5.1) (State.isArrayOf_alike hZ.alike Ar_w5.2.1) (g := (mkF m 14 #[.val (.ref a1), .val (.int p2), .val (.int (((w3.toUInt64 >>> ((16 : Int32) &&& 0x3f).toInt64.toUInt64).toInt64).toInt32))] [(.ref w5), (.int (((w3.toUInt64 >>> ((16 : Int32) &&& 0x3f).toInt64.toUInt64).toInt64).toInt32))])) rfl rfl (hb hby d3_14) _ ?_
    rw [len_of S_w5 N_w5]
    show Steps p.tables e below (T6.setTop (mkF m 15 #[.val (.ref a1), .val (.int p2), .val (.int (((w3.toUInt64 >>> ((16 : Int32) &&& 0x3f).toInt64.toUInt64).toInt64).toInt32))] [(.int (8 : Int32)), (.int (((w3.toUInt64 >>> ((16 : Int32) &&& 0x3f).toInt64.toUInt64).toInt64).toInt32))])) _
    refine XS.icmpYes X6.here hx rfl (pc0 := 15) (pc' := 39) rfl (hb hby d3_15) rfl (feq hc15).2 (by decide) (by decide) ?_
    show Steps p.tables e below (T6.setTop (mkF m 39 #[.val (.ref a1), .val (.int p2), .val (.int (((w3.toUInt64 >>> ((16 : Int32) &&& 0x3f).toInt64.toUInt64).toInt64).toInt32))] [])) _
    refine XS.aloadN X6.here hx rfl (hb hby d3_39) rfl rfl ?_
    show Steps p.tables e below (T6.setTop (mkF m 40 #[.val (.ref a1), .val (.int p2), .val (.int (((w3.toUInt64 >>> ((16 : Int32) &&& 0x3f).toInt64.toUInt64).toInt64).toInt32))] [(.ref a1)])) _
    refine st7 _ ?_
    show Steps p.tables e below (T7.setTop (mkF m 43 #[.val (.ref a1), .val (.int p2), .val (.int (((w3.toUInt64 >>> ((16 : Int32) &&& 0x3f).toInt64.toUInt64).toInt64).toInt32))] [(.ref w5)])) _
    refine XS.iloadN X7.here hx rfl (hb hby d3_43) rfl ?_
    show Steps p.tables e below (T7.setTop (mkF m 44 #[.val (.ref a1), .val (.int p2), .val (.int (((w3.toUInt64 >>> ((16 : Int32) &&& 0x3f).toInt64.toUInt64).toInt64).toInt32))] [(.int (((w3.toUInt64 >>> ((16 : Int32) &&& 0x3f).toInt64.toUInt64).toInt64).toInt32)), (.ref w5)])) _
    refine X7.aaload hx (j := (((w3.toUInt64 >>> ((16 : Int32) &&& 0x3f).toInt64.toUInt64).toInt64).toInt32)) (v := (.ref w10)) (by rw [e7]; exact Ar_w5.1) (State.isArrayOf_alike hZ.alike Ar_w5.2.1) rfl Ar_w5.2.2 hin44 hat44 (g := (mkF m 44 #[.val (.ref a1), .val (.int p2), .val (.int (((w3.toUInt64 >>> ((16 : Int32) &&& 0x3f).toInt64.toUInt64).toInt64).toInt32))] [(.int (((w3.toUInt64 >>> ((16 : Int32) &&& 0x3f).toInt64.toUInt64).toInt64).toInt32)), (.ref w5)])) rfl rfl (hb hby d3_44) _ ?_
    show Steps p.tables e below (T7.setTop (mkF m 45 #[.val (.ref a1), .val (.int p2), .val (.int (((w3.toUInt64 >>> ((16 : Int32) &&& 0x3f).toInt64.toUInt64).toInt64).toInt32))] [(.ref w10)])) _
    refine XS.ifnonnullYes X7.here hx rfl (pc0 := 45) (pc' := 58) rfl (hb hby d3_45) rfl (by decide) (by decide) ?_
    show Steps p.tables e below (T7.setTop (mkF m 58 #[.val (.ref a1), .val (.int p2), .val (.int (((w3.toUInt64 >>> ((16 : Int32) &&& 0x3f).toInt64.toUInt64).toInt64).toInt32))] [])) _
    refine XS.aloadN X7.here hx rfl (hb hby d3_58) rfl rfl ?_
    show Steps p.tables e below (T7.setTop (mkF m 59 #[.val (.ref a1), .val (.int p2), .val (.int (((w3.toUInt64 >>> ((16 : Int32) &&& 0x3f).toInt64.toUInt64).toInt64).toInt32))] [(.ref a1)])) _
    refine st9 _ ?_
    show Steps p.tables e below (T9.setTop (mkF m 62 #[.val (.ref a1), .val (.int p2), .val (.int (((w3.toUInt64 >>> ((16 : Int32) &&& 0x3f).toInt64.toUInt64).toInt64).toInt32))] [(.ref w5)])) _
    refine XS.iloadN X9.here hx rfl (hb hby d3_62) rfl ?_
    show Steps p.tables e below (T9.setTop (mkF m 63 #[.val (.ref a1), .val (.int p2), .val (.int (((w3.toUInt64 >>> ((16 : Int32) &&& 0x3f).toInt64.toUInt64).toInt64).toInt32))] [(.int (((w3.toUInt64 >>> ((16 : Int32) &&& 0x3f).toInt64.toUInt64).toInt64).toInt32)), (.ref w5)])) _
    refine X9.aaload hx (j := (((w3.toUInt64 >>> ((16 : Int32) &&& 0x3f).toInt64.toUInt64).toInt64).toInt32)) (v := (.ref w10)) (by rw [e9]; exact Ar_w5.1) (State.isArrayOf_alike hZ.alike Ar_w5.2.1) rfl Ar_w5.2.2 hin63 hat63 (g := (mkF m 63 #[.val (.ref a1), .val (.int p2), .val (.int (((w3.toUInt64 >>> ((16 : Int32) &&& 0x3f).toInt64.toUInt64).toInt64).toInt32))] [(.int (((w3.toUInt64 >>> ((16 : Int32) &&& 0x3f).toInt64.toUInt64).toInt64).toInt32)), (.ref w5)])) rfl rfl (hb hby d3_63) _ ?_
    show Steps p.tables e below (T9.setTop (mkF m 64 #[.val (.ref a1), .val (.int p2), .val (.int (((w3.toUInt64 >>> ((16 : Int32) &&& 0x3f).toInt64.toUInt64).toInt64).toInt32))] [(.ref w10)])) _
    refine XS.aloadN X9.here hx rfl (hb hby d3_64) rfl rfl ?_
    show Steps p.tables e below (T9.setTop (mkF m 65 #[.val (.ref a1), .val (.int p2), .val (.int (((w3.toUInt64 >>> ((16 : Int32) &&& 0x3f).toInt64.toUInt64).toInt64).toInt32))] [(.ref a1), (.ref w10)])) _
    refine st11 _ ?_
    show Steps p.tables e below (T11.setTop (mkF m 68 #[.val (.ref a1), .val (.int p2), .val (.int (((w3.toUInt64 >>> ((16 : Int32) &&& 0x3f).toInt64.toUInt64).toInt64).toInt32))] [(.long w3), (.ref w10)])) _
    refine XS.l2i X11.here hx rfl (hb hby d3_68) rfl ?_
    show Steps p.tables e below (T11.setTop (mkF m 69 #[.val (.ref a1), .val (.int p2), .val (.int (((w3.toUInt64 >>> ((16 : Int32) &&& 0x3f).toInt64.toUInt64).toInt64).toInt32))] [(.int (w3.toInt32)), (.ref w10)])) _
    refine X11.ldcInt hx hown (mvT hZ (hw _ (List.mem_of_getElem? (i := 23) rfl))) (g := (mkF m 69 #[.val (.ref a1), .val (.int p2), .val (.int (((w3.toUInt64 >>> ((16 : Int32) &&& 0x3f).toInt64.toUInt64).toInt64).toInt32))] [(.int (w3.toInt32)), (.ref w10)])) rfl (hb hby d3_69) _ ?_
    show Steps p.tables e below (T11.setTop (mkF m 71 #[.val (.ref a1), .val (.int p2), .val (.int (((w3.toUInt64 >>> ((16 : Int32) &&& 0x3f).toInt64.toUInt64).toInt64).toInt32))] [(.int (65535 : Int32)), (.int (w3.toInt32)), (.ref w10)])) _
    refine XS.iand X11.here hx rfl (hb hby d3_71) rfl ?_
    show Steps p.tables e below (T11.setTop (mkF m 72 #[.val (.ref a1), .val (.int p2), .val (.int (((w3.toUInt64 >>> ((16 : Int32) &&& 0x3f).toInt64.toUInt64).toInt64).toInt32))] [(.int ((w3.toInt32) &&& (65535 : Int32))), (.ref w10)])) _
    refine XS.iloadN X11.here hx rfl (hb hby d3_72) rfl ?_
    show Steps p.tables e below (T11.setTop (mkF m 73 #[.val (.ref a1), .val (.int p2), .val (.int (((w3.toUInt64 >>> ((16 : Int32) &&& 0x3f).toInt64.toUInt64).toInt64).toInt32))] [(.int p2), (.int ((w3.toInt32) &&& (65535 : Int32))), (.ref w10)])) _
    refine st12 _ ?_
    show Steps p.tables e below (T12.setTop (mkF m 74 #[.val (.ref a1), .val (.int p2), .val (.int (((w3.toUInt64 >>> ((16 : Int32) &&& 0x3f).toInt64.toUInt64).toInt64).toInt32))] [])) _
    refine XS.aloadN X12.here hx rfl (hb hby d3_74) rfl rfl ?_
    show Steps p.tables e below (T12.setTop (mkF m 75 #[.val (.ref a1), .val (.int p2), .val (.int (((w3.toUInt64 >>> ((16 : Int32) &&& 0x3f).toInt64.toUInt64).toInt64).toInt32))] [(.ref a1)])) _
    refine XS.dup X12.here hx rfl (hb hby d3_75) rfl rfl ?_
    show Steps p.tables e below (T12.setTop (mkF m 76 #[.val (.ref a1), .val (.int p2), .val (.int (((w3.toUInt64 >>> ((16 : Int32) &&& 0x3f).toInt64.toUInt64).toInt64).toInt32))] [(.ref a1), (.ref a1)])) _
    refine st13 _ ?_
    show Steps p.tables e below (T13.setTop (mkF m 79 #[.val (.ref a1), .val (.int p2), .val (.int (((w3.toUInt64 >>> ((16 : Int32) &&& 0x3f).toInt64.toUInt64).toInt64).toInt32))] [(.long w3), (.ref a1)])) _
    refine XS.lconst X13.here hx rfl (hb hby d3_79) ?_
    show Steps p.tables e below (T13.setTop (mkF m 80 #[.val (.ref a1), .val (.int p2), .val (.int (((w3.toUInt64 >>> ((16 : Int32) &&& 0x3f).toInt64.toUInt64).toInt64).toInt32))] [(.long (1 : Int64)), (.long w3), (.ref a1)])) _
    refine XS.ladd X13.here hx rfl (hb hby d3_80) rfl ?_
    show Steps p.tables e below (T13.setTop (mkF m 81 #[.val (.ref a1), .val (.int p2), .val (.int (((w3.toUInt64 >>> ((16 : Int32) &&& 0x3f).toInt64.toUInt64).toInt64).toInt32))] [(.long (w3 + (1 : Int64))), (.ref a1)])) _
    refine st14 _ ?_
    show Steps p.tables e below (T14.setTop (mkF m 84 #[.val (.ref a1), .val (.int p2), .val (.int (((w3.toUInt64 >>> ((16 : Int32) &&& 0x3f).toInt64.toUInt64).toInt64).toInt32))] [])) _
    exact X14.returnOut hx Bd.returns (hb hby d3_84) hr
  · show Q3b Z a1 p2 w3 w5 w10 cl_w10 jn h0 n0 _ T14.heap _
    rw [e14]
    have AB := (Ar_w10.same W12).other W14 (Ne.symm hne)
    rw [hj.1] at AB
    exact ⟨rfl, N14, K14, (E_a1.wr W12).wr W14, Fw14, ((F_chunks_a1.other W12 (Or.inl hne)).other W14 (Or.inr (slot_ne (Or.inl (hw _ (List.mem_of_getElem? (i := 12) rfl))) (Or.inl (hw _ (List.mem_of_getElem? (i := 19) rfl))) (by decide) (t := (.array (.array .int))) (t' := .long) (by decide) (by decide)))), AB⟩
theorem d4_0 : decode prog_5_method_3_code 0 = .ok (.aload_n 0, 1) := by decide +kernel
theorem d4_1 : decode prog_5_method_3_code 1 = .ok (.getfield 11, 3) := by decide +kernel
theorem d4_4 : decode prog_5_method_3_code 4 = .ok (.lload_n 1, 1) := by decide +kernel
theorem d4_5 : decode prog_5_method_3_code 5 = .ok (.bipush 16, 2) := by decide +kernel
theorem d4_7 : decode prog_5_method_3_code 7 = .ok (.lushr, 1) := by decide +kernel
theorem d4_8 : decode prog_5_method_3_code 8 = .ok (.l2i, 1) := by decide +kernel
theorem d4_9 : decode prog_5_method_3_code 9 = .ok (.aaload, 1) := by decide +kernel
theorem d4_10 : decode prog_5_method_3_code 10 = .ok (.lload_n 1, 1) := by decide +kernel
theorem d4_11 : decode prog_5_method_3_code 11 = .ok (.l2i, 1) := by decide +kernel
theorem d4_12 : decode prog_5_method_3_code 12 = .ok (.ldc 19, 2) := by decide +kernel
theorem d4_14 : decode prog_5_method_3_code 14 = .ok (.iand, 1) := by decide +kernel
theorem d4_15 : decode prog_5_method_3_code 15 = .ok (.iaload, 1) := by decide +kernel
theorem d4_16 : decode prog_5_method_3_code 16 = .ok (.ireturn, 1) := by decide +kernel
theorem pn_4 : plainName "com/example/hydrate_captions/hydratecaptions/ChunkedInts" = true := by first | (simp [plainName, overriddenIn]; done) | decide +kernel
theorem ef_4 (m : MethodId) (x0 : Addr) (x1 : Int64) : entryFrame m #[(.ref x0), (.long x1)] 3 = mkF m 0 #[.val (.ref x0), .val (.long x1), .second] [] := by first | (simp [entryFrame, mkF, argsToLocals, Value.category]; done) | rfl
def Q4 (Z : State) (a1 : Addr) (q2 : Int64) (w3 : Addr) (w5 : Addr) (cl_w3 : Cell) (w6 : Int32) (cl_w5 : Cell) (h0 : Heap) (n0 : Nat) (v : Option Value) (h : Heap) (L : List Loc) : Prop := v = some (.int w6) ∧ Fr n0 L ∧ h = h0
set_option maxRecDepth 65536 in
set_option maxHeartbeats 40000000 in
theorem rm4 (l : Launch) (Z : State) (a0 : Array Value) (hw : ∀ d ∈ tables_1, d.before a0 Z = true) (ws : List Jvm.Cond) (a1 : Addr) (q2 : Int64) (w3 : Addr) (w5 : Addr) (cl_w3 : Cell) (w6 : Int32) (cl_w5 : Cell) (jn : Nat) (h0 : Heap) (n0 : Nat) (Z0 : n0 ≤ h0.size) (F_chunks_a1 : Fld Z h0 a1 "com/example/hydrate_captions/hydratecaptions/ChunkedInts" "chunks" "[[I" (.ref w3)) (Ar_w3 : Arr Z h0 w3 cl_w3 (.array .int)) (S3 : cl_w3.slots.size = 8) (h30 : cl_w3.slots[0]? = some (.ref w5)) (Ar_w5 : Arr Z h0 w5 cl_w5 .int) (S5 : cl_w5.slots.size = 65536) (hJ : (((q2.toUInt64 >>> ((16 : Int32) &&& 0x3f).toInt64.toUInt64).toInt64).toInt32) = (0 : Int32)) (hj : ((q2.toInt32) &&& (65535 : Int32)).toNatClampNeg = jn ∧ ¬ ((q2.toInt32) &&& (65535 : Int32)) < 0 ∧ jn < 65536) (hat : cl_w5.slots[jn]? = some (.int w6)) :
    MetFree l (⟨"com/example/hydrate_captions/hydratecaptions/ChunkedInts", "get", "(J)I"⟩ : MethodName) (head1 (Jvm.Cond.code (⟨"com/example/hydrate_captions/hydratecaptions/ChunkedInts", "get", "(J)I"⟩ : MethodName) prog_5_method_3_code 3 (some .int) :: ws) ({ frames := 0, cells := 0, slots := 0, locals := 0 } : Room)) (fun a U => a = #[(.ref a1), (.long q2)] ∧ Z.Warmed39 U.vm ∧ U.heap = h0) (fun _ _ _ _ _ => True) (fun _ U o U' => ∃ v L, o = .returned v ∧ Q4 Z a1 q2 w3 w5 cl_w3 w6 cl_w5 h0 n0 v U'.heap L ∧ FrameEnd U o U' L ({ frames := 0, cells := 0, slots := 0, locals := 0 } : Room).cells ({ frames := 0, cells := 0, slots := 0, locals := 0 } : Room).slots) := by
  refine MetFree.of_bodySF (plainFor_of_name pn_4) hisR ?_
  intro p e s m args below meth c s₁ Bd hml0 hP hK
  obtain ⟨rfl, hZ, hh⟩ := hP
  have hin9 : ¬ ((((q2.toUInt64 >>> ((16 : Int32) &&& 0x3f).toInt64.toUInt64).toInt64).toInt32) < 0 ∨ cl_w3.slots.size ≤ ((((q2.toUInt64 >>> ((16 : Int32) &&& 0x3f).toInt64.toUInt64).toInt64).toInt32)).toNatClampNeg) := by rw [hJ, S3]; decide
  have hat9 : cl_w3.slots[((((q2.toUInt64 >>> ((16 : Int32) &&& 0x3f).toInt64.toUInt64).toInt64).toInt32)).toNatClampNeg]? = some (.ref w5) := by rw [hJ]; exact h30
  have hin15 : ¬ (((q2.toInt32) &&& (65535 : Int32)) < 0 ∨ cl_w5.slots.size ≤ (((q2.toInt32) &&& (65535 : Int32))).toNatClampNeg) := fun q => q.elim hj.2.1 fun q => by rw [hj.1, S5] at q; omega
  have hat15 : cl_w5.slots[(((q2.toInt32) &&& (65535 : Int32))).toNatClampNeg]? = some (.int w6) := by rw [hj.1]; exact hat
  have hx := Bd.exec
  have hby := Bd.bytes
  have hml : c.maxLocals = 3 := hml0
  have hown : s.vm.findClass "com/example/hydrate_captions/hydratecaptions/ChunkedInts" = some m.cls := findClass_of_methodNamed Bd.named
  have hnm := (name_of_methodNamed Bd.named Bd.method).1
  have X0 : Stand p l e ({ frames := 0, cells := 0, slots := 0, locals := 0 } : Room) s m #[(.ref a1), (.long q2)] below meth c s₁ [] 0 0 := Stand.of_body Bd
  have e0 : s₁.heap = h0 := by rw [← hh, Bd.state]; rfl
  have N0 := Fr.nil n0
  have pre0 : ∀ t, Steps p.tables e below (s₁.setTop (mkF m 0 #[.val (.ref a1), .val (.long q2), .second] [])) t → Steps p.tables e below (s₁.setTop (entryFrame m #[(.ref a1), (.long q2)] 3)) t := fun t k => castTop (ef_4 m a1 q2) k
  obtain ⟨T4, X4, e4, st4⟩ := getF X0 hx hZ hown (host := "") (Or.inl (hw _ (List.mem_of_getElem? (i := 11) rfl))) Via.refl e0 F_chunks_a1 (g := (mkF m 1 #[.val (.ref a1), .val (.long q2), .second] [(.ref a1)])) rfl rfl (hb hby d4_1)
  obtain ⟨fs, hr, hrun, hended, hW, hsame⟩ := X4.leave (v := some (.int w6)) (fun h => by rw [Bd.returns] at h; cases h)
  refine ⟨_, _, pre0 _ ?_, hrun, hended, _, _, rfl, ?_, ⟨_, rfl⟩, hW, hsame.mono (by decide) (by decide)⟩
  · show Steps p.tables e below (s₁.setTop (mkF m 0 #[.val (.ref a1), .val (.long q2), .second] [])) _
    refine XS.aloadN X0.here hx rfl (hb hby d4_0) rfl rfl ?_
    show Steps p.tables e below (s₁.setTop (mkF m 1 #[.val (.ref a1), .val (.long q2), .second] [(.ref a1)])) _
    refine st4 _ ?_
    show Steps p.tables e below (T4.setTop (mkF m 4 #[.val (.ref a1), .val (.long q2), .second] [(.ref w3)])) _
    refine XS.lloadN X4.here hx rfl (hb hby d4_4) rfl ?_
    show Steps p.tables e below (T4.setTop (mkF m 5 #[.val (.ref a1), .val (.long q2), .second] [(.long q2), (.ref w3)])) _
    refine XS.bipush X4.here hx rfl (hb hby d4_5) ?_
    show Steps p.tables e below (T4.setTop (mkF m 7 #[.val (.ref a1), .val (.long q2), .second] [(.int (16 : Int32)), (.long q2), (.ref w3)])) _
    refine XS.lushr X4.here hx rfl (hb hby d4_7) rfl ?_
    show Steps p.tables e below (T4.setTop (mkF m 8 #[.val (.ref a1), .val (.long q2), .second] [(.long ((q2.toUInt64 >>> ((16 : Int32) &&& 0x3f).toInt64.toUInt64).toInt64)), (.ref w3)])) _
    refine XS.l2i X4.here hx rfl (hb hby d4_8) rfl ?_
    show Steps p.tables e below (T4.setTop (mkF m 9 #[.val (.ref a1), .val (.long q2), .second] [(.int (((q2.toUInt64 >>> ((16 : Int32) &&& 0x3f).toInt64.toUInt64).toInt64).toInt32)), (.ref w3)])) _
    refine X4.aaload hx (j := (((q2.toUInt64 >>> ((16 : Int32) &&& 0x3f).toInt64.toUInt64).toInt64).toInt32)) (v := (.ref w5)) (by rw [e4]; exact Ar_w3.1) (State.isArrayOf_alike hZ.alike Ar_w3.2.1) rfl Ar_w3.2.2 hin9 hat9 (g := (mkF m 9 #[.val (.ref a1), .val (.long q2), .second] [(.int (((q2.toUInt64 >>> ((16 : Int32) &&& 0x3f).toInt64.toUInt64).toInt64).toInt32)), (.ref w3)])) rfl rfl (hb hby d4_9) _ ?_
    show Steps p.tables e below (T4.setTop (mkF m 10 #[.val (.ref a1), .val (.long q2), .second] [(.ref w5)])) _
    refine XS.lloadN X4.here hx rfl (hb hby d4_10) rfl ?_
    show Steps p.tables e below (T4.setTop (mkF m 11 #[.val (.ref a1), .val (.long q2), .second] [(.long q2), (.ref w5)])) _
    refine XS.l2i X4.here hx rfl (hb hby d4_11) rfl ?_
    show Steps p.tables e below (T4.setTop (mkF m 12 #[.val (.ref a1), .val (.long q2), .second] [(.int (q2.toInt32)), (.ref w5)])) _
    refine X4.ldcInt hx hown (mvT hZ (hw _ (List.mem_of_getElem? (i := 23) rfl))) (g := (mkF m 12 #[.val (.ref a1), .val (.long q2), .second] [(.int (q2.toInt32)), (.ref w5)])) rfl (hb hby d4_12) _ ?_
    show Steps p.tables e below (T4.setTop (mkF m 14 #[.val (.ref a1), .val (.long q2), .second] [(.int (65535 : Int32)), (.int (q2.toInt32)), (.ref w5)])) _
    refine XS.iand X4.here hx rfl (hb hby d4_14) rfl ?_
    show Steps p.tables e below (T4.setTop (mkF m 15 #[.val (.ref a1), .val (.long q2), .second] [(.int ((q2.toInt32) &&& (65535 : Int32))), (.ref w5)])) _
    refine X4.iaload hx (j := ((q2.toInt32) &&& (65535 : Int32))) (v := (.int w6)) (by rw [e4]; exact Ar_w5.1) (State.isArrayOf_alike hZ.alike Ar_w5.2.1) Ar_w5.2.2 hin15 hat15 (g := (mkF m 15 #[.val (.ref a1), .val (.long q2), .second] [(.int ((q2.toInt32) &&& (65535 : Int32))), (.ref w5)])) rfl rfl (hb hby d4_15) _ ?_
    show Steps p.tables e below (T4.setTop (mkF m 16 #[.val (.ref a1), .val (.long q2), .second] [(.int w6)])) _
    exact retI X4 hx Bd.returns (hb hby d4_16) hr
  · show Q4 Z a1 q2 w3 w5 cl_w3 w6 cl_w5 h0 n0 _ T4.heap _
    rw [e4]
    exact ⟨rfl, N0, rfl⟩
theorem pn_0 : plainName "com/example/hydrate_captions/hydratecaptions/ChunkedIntsGetPinLaw" = true := by first | (simp [plainName, overriddenIn]; done) | decide +kernel
theorem pd_0_0 : parseMethodDescriptor "()V" = some ⟨[], none⟩ := by decide +kernel
theorem pd_0_1 : parseMethodDescriptor "(I)V" = some ⟨[.int], none⟩ := by decide +kernel
theorem pd_0_2 : parseMethodDescriptor "(J)I" = some ⟨[.long], some .int⟩ := by decide +kernel
theorem ef_0 (m : MethodId) (x0 : Int32) (x1 : Int32) (x2 : Int32) (x3 : Int32) : entryFrame m #[(.int x0), (.int x1), (.int x2), (.int x3)] maxLocals = mkF m 0 #[.val (.int x0), .val (.int x1), .val (.int x2), .val (.int x3), .unset, .unset, .unset, .unset, .unset] [] := by first | (simp [entryFrame, mkF, argsToLocals, Value.category, maxLocals]; done) | rfl
def Q0 (Z : State) (p1 : Int32) (p2 : Int32) (p3 : Int32) (p4 : Int32) (h0 : Heap) (n0 : Nat) (v : Option Value) (h : Heap) (L : List Loc) : Prop := v = some (.int (1 : Int32)) ∧ Fr n0 L
set_option maxRecDepth 65536 in
set_option maxHeartbeats 40000000 in
theorem rm0 (l : Launch) (Z : State) (a0 : Array Value) (hw : ∀ d ∈ tables_1, d.before a0 Z = true) (ws : List Jvm.Cond) (p1 : Int32) (p2 : Int32) (p3 : Int32) (p4 : Int32) (h0 : Heap) (n0 : Nat) (Z0 : n0 ≤ h0.size) (hc107 : ¬ ((1 : Int32) = (0 : Int32))) (hc112 : ¬ ((1 : Int32) = (0 : Int32))) (hc117 : ¬ ((1 : Int32) = (0 : Int32))) (hc122 : ¬ ((1 : Int32) = (0 : Int32))) :
    MetFree l x (head1 (Jvm.Cond.code x code maxLocals ret :: ws) room_1) (fun a U => a = #[(.int p1), (.int p2), (.int p3), (.int p4)] ∧ Z.Warmed39 U.vm ∧ U.heap = h0) (fun _ _ _ _ _ => True) (fun _ U o U' => ∃ v L, o = .returned v ∧ Q0 Z p1 p2 p3 p4 h0 n0 v U'.heap L ∧ FrameEnd U o U' L room_1.cells room_1.slots) := by
  refine MetFree.of_bodySF (plainFor_of_name pn_0) hisR ?_
  intro p e s m args below meth c s₁ Bd hml0 hP hK
  obtain ⟨rfl, hZ, hh⟩ := hP
  have hx := Bd.exec
  have hby := Bd.bytes
  have hml : c.maxLocals = 9 := hml0
  have hown : s.vm.findClass "com/example/hydrate_captions/hydratecaptions/ChunkedIntsGetPinLaw" = some m.cls := findClass_of_methodNamed Bd.named
  have hnm := (name_of_methodNamed Bd.named Bd.method).1
  have X0 : Stand p l e room_1 s m #[(.int p1), (.int p2), (.int p3), (.int p4)] below meth c s₁ [] 0 0 := Stand.of_body Bd
  have e0 : s₁.heap = h0 := by rw [← hh, Bd.state]; rfl
  have N0 := Fr.nil n0
  have pre0 : ∀ t, Steps p.tables e below (s₁.setTop (mkF m 0 #[.val (.int p1), .val (.int p2), .val (.int p3), .val (.int p4), .unset, .unset, .unset, .unset, .unset] [])) t → Steps p.tables e below (s₁.setTop (entryFrame m #[(.int p1), (.int p2), (.int p3), (.int p4)] maxLocals)) t := fun t k => castTop (ef_0 m p1 p2 p3 p4) k
  obtain ⟨T5, h5, X5, e5, E5, A5, D5, -, st5⟩ := newO X0 hx hZ hown (hw _ (List.mem_of_getElem? (i := 0) rfl)) (hw _ (List.mem_of_getElem? (i := 1) rfl)) (hw _ (List.mem_of_getElem? (i := 2) rfl)) e0 (g := (mkF m 0 #[.val (.int p1), .val (.int p2), .val (.int p3), .val (.int p4), .unset, .unset, .unset, .unset, .unset] [])) rfl (hb hby at_0) (by decide) (by decide)
  obtain ⟨b5, g5⟩ : ∃ z, z = h0.size := ⟨_, rfl⟩
  rw [← g5] at A5 D5 st5
  have F_chunks_b5 : Fld Z h5 b5 "com/example/hydrate_captions/hydratecaptions/ChunkedInts" "chunks" "[[I" .null := D5 (Or.inl (hw _ (List.mem_of_getElem? (i := 12) rfl))) (ty := (.array (.array .int))) (by decide)
  have F_size_b5 : Fld Z h5 b5 "com/example/hydrate_captions/hydratecaptions/ChunkedInts" "size" "J" (.long (0 : Int64)) := D5 (Or.inl (hw _ (List.mem_of_getElem? (i := 19) rfl))) (ty := .long) (by decide)
  have E_b5 := A5
  have g_b5 : n0 ≤ b5 := Nat.le_trans Z0 (Nat.le_of_eq g5.symm)
  have sz_b5 : h0.size ≤ b5 := (Nat.le_trans (Keep.refl h0 []).1 (Nat.le_of_eq g5.symm))
  have K5 : Keep h0 h5 [] := (Keep.refl h0 []).ext E5
  obtain ⟨_, _, ⟨T6, L6, k6, n6⟩, -, X6, ⟨Lc6, hQ6, l6, y6, z6⟩, st6⟩ := X5.specialBack hx (y := (⟨"com/example/hydrate_captions/hydratecaptions/ChunkedInts", "<init>", "()V"⟩ : MethodName)) rfl hown (mvT hZ (hw _ (List.mem_of_getElem? (i := 3) rfl))) (mvT hZ (hw _ (List.mem_of_getElem? (i := 4) rfl))) (mvT hZ (hw _ (List.mem_of_getElem? (i := 5) rfl))) (by decide) (backOf (W := 1) (rm1 l Z a0 hw [] b5 .null h5 n0 (Nat.le_trans Z0 E5.1) E_b5 F_chunks_b5 g_b5 F_size_b5) hZ (hw _ (List.mem_of_getElem? (i := 5) rfl)) (hw _ (List.mem_of_getElem? (i := 2) rfl)) (by decide) (by decide)) (g := (mkF m 4 #[.val (.int p1), .val (.int p2), .val (.int p3), .val (.int p4), .unset, .unset, .unset, .unset, .unset] [(.ref b5), (.ref b5)])) rfl (by rw [hml]; rfl) (Steps.refl _) (a := b5) (argsL := []) (rest := [(.ref b5)]) (lenOf pd_0_0 rfl) rfl (by show 2 * 0 + _ ≤ _; exact Nat.le_of_eq rfl) (hb hby at_4) (fun _ _ => ⟨rfl, e5, (by decide : 1 + 1 ≤ _), (by decide : 2 + 8 ≤ _)⟩)
  dsimp only [Pt.U, Pt.locs, Pt.cells, Pt.slots] at X6 l6 y6 z6 st6 hQ6
  subst l6 y6 z6
  obtain ⟨rfl, N6q, K6, E6, Fc6, Fs6, clA, AA6, SA, NA, OA⟩ := hQ6
  have Z6 : n0 ≤ T6.heap.size := Nat.le_trans (Nat.le_trans Z0 E5.1) K6.1
  have gA : n0 ≤ h5.size := Nat.le_trans Z0 E5.1
  have hbA : b5 ≠ h5.size := Nat.ne_of_lt E_b5.lt
  have hbB : b5 ≠ T6.heap.size := Nat.ne_of_lt E6.lt
  have hAB : h5.size ≠ T6.heap.size := Nat.ne_of_lt AA6.lt
  have N6 := Fr.app N0 N6q
  obtain ⟨cq7, kq7, q7a, q7b, q7c⟩ := isOf hZ rfl E6
  obtain ⟨_, _, ⟨T7, L7, k7, n7⟩, -, X7, ⟨Lc7, hQ7, l7, y7, z7⟩, st7⟩ := X6.virtualBack hx (y := (⟨"com/example/hydrate_captions/hydratecaptions/ChunkedInts", "add", "(I)V"⟩ : MethodName)) (z := (⟨"com/example/hydrate_captions/hydratecaptions/ChunkedInts", "add", "(I)V"⟩ : MethodName)) hown (mvT hZ (hw _ (List.mem_of_getElem? (i := 13) rfl))) (mvT hZ (hw _ (List.mem_of_getElem? (i := 14) rfl))) (notFace_of_selects (args := #[]) (mvT hZ (hw _ (List.mem_of_getElem? (i := 16) rfl)))) (mvT hZ (hw _ (List.mem_of_getElem? (i := 16) rfl))) (mvT hZ (hw _ (List.mem_of_getElem? (i := 15) rfl))) (by decide) (backOf (W := 0) (rm3a l Z a0 hw [] b5 p1 (0 : Int64) h5.size clA 0 T6.heap n0 Z6 Fs6 Fc6 AA6 SA NA OA gA hbA E6 g_b5 (by decide) ⟨by decide, by decide, by decide⟩) hZ (hw _ (List.mem_of_getElem? (i := 17) rfl)) (hw _ (List.mem_of_getElem? (i := 2) rfl)) (by decide) (by decide)) q7a q7c (g := (mkF m 12 #[.val (.int p1), .val (.int p2), .val (.int p3), .val (.int p4), .val (.ref b5), .unset, .unset, .unset, .unset] [(.int p1), (.ref b5)])) rfl (by rw [hml]; rfl) (Steps.refl _) (argsL := [(.int p1)]) (rest := []) (lenOf pd_0_1 rfl) rfl (by show 2 * 0 + _ ≤ _; exact Nat.le_of_eq rfl) (hb hby at_12) (fun _ _ => ⟨rfl, rfl, (by decide : 1 + 1 + 1 ≤ _), (by decide : 2 + 8 + 65536 ≤ _)⟩)
  dsimp only [Pt.U, Pt.locs, Pt.cells, Pt.slots] at X7 l7 y7 z7 st7 hQ7
  subst l7 y7 z7
  obtain ⟨rfl, N7q, K7, E7, Fs7, Fc7, AA7, clB, AB7, SB⟩ := hQ7
  have Z7 : n0 ≤ T7.heap.size := Nat.le_trans Z6 K7.1
  have SA' : (clA.setSlot 0 (.ref T6.heap.size)).slots.size = 8 := (sz_set _ _ _).trans SA
  have NA' : (clA.setSlot 0 (.ref T6.heap.size)).slots[0]? = some (.ref T6.heap.size) := own_hit (by rw [SA]; decide)
  have SB7 : ((clB).setSlot 0 (.int p1)).slots.size = 65536 := (sz_set _ _ _).trans SB
  have N7 := Fr.app N6 N7q
  obtain ⟨cq8, kq8, q8a, q8b, q8c⟩ := isOf hZ rfl E7
  obtain ⟨_, _, ⟨T8, L8, k8, n8⟩, -, X8, ⟨Lc8, hQ8, l8, y8, z8⟩, st8⟩ := X7.virtualBack hx (y := (⟨"com/example/hydrate_captions/hydratecaptions/ChunkedInts", "add", "(I)V"⟩ : MethodName)) (z := (⟨"com/example/hydrate_captions/hydratecaptions/ChunkedInts", "add", "(I)V"⟩ : MethodName)) hown (mvT hZ (hw _ (List.mem_of_getElem? (i := 13) rfl))) (mvT hZ (hw _ (List.mem_of_getElem? (i := 14) rfl))) (notFace_of_selects (args := #[]) (mvT hZ (hw _ (List.mem_of_getElem? (i := 16) rfl)))) (mvT hZ (hw _ (List.mem_of_getElem? (i := 16) rfl))) (mvT hZ (hw _ (List.mem_of_getElem? (i := 15) rfl))) (by decide) (backOf (W := 0) (rm3b l Z a0 hw [] b5 p2 ((0 : Int64) + (1 : Int64)) h5.size (clA.setSlot 0 (.ref T6.heap.size)) T6.heap.size ((clB).setSlot 0 (.int p1)) 1 T7.heap n0 Z7 Fs7 Fc7 AA7 SA' NA' AB7 SB7 Z6 hbB E7 g_b5 (by decide) ⟨by decide, by decide, by decide⟩) hZ (hw _ (List.mem_of_getElem? (i := 17) rfl)) (hw _ (List.mem_of_getElem? (i := 2) rfl)) (by decide) (by decide)) q8a q8c (g := (mkF m 18 #[.val (.int p1), .val (.int p2), .val (.int p3), .val (.int p4), .val (.ref b5), .unset, .unset, .unset, .unset] [(.int p2), (.ref b5)])) rfl (by rw [hml]; rfl) (Steps.refl _) (argsL := [(.int p2)]) (rest := []) (lenOf pd_0_1 rfl) rfl (by show 2 * 0 + _ ≤ _; exact Nat.le_of_eq rfl) (hb hby at_18) (fun _ _ => ⟨rfl, rfl, (by decide : 1 + 1 + 1 + 0 ≤ _), (by decide : 2 + 8 + 65536 + 0 ≤ _)⟩)
  dsimp only [Pt.U, Pt.locs, Pt.cells, Pt.slots] at X8 l8 y8 z8 st8 hQ8
  subst l8 y8 z8
  obtain ⟨rfl, N8q, K8, E8, Fs8, Fc8, AB8⟩ := hQ8
  have Z8 : n0 ≤ T8.heap.size := Nat.le_trans Z7 K8.1
  have AA8 : Arr Z T8.heap h5.size (clA.setSlot 0 (.ref T6.heap.size)) (.array .int) := ⟨K8.2.1 _ _ AA7.1 (ninS hAB (ninS (Ne.symm hbA) nin0)), AA7.2⟩
  have SB8 : ((((clB).setSlot 0 (.int p1))).setSlot 1 (.int p2)).slots.size = 65536 := (sz_set _ _ _).trans SB7
  have N8 := Fr.app N7 N8q
  obtain ⟨cq9, kq9, q9a, q9b, q9c⟩ := isOf hZ rfl E8
  obtain ⟨_, _, ⟨T9, L9, k9, n9⟩, -, X9, ⟨Lc9, hQ9, l9, y9, z9⟩, st9⟩ := X8.virtualBack hx (y := (⟨"com/example/hydrate_captions/hydratecaptions/ChunkedInts", "add", "(I)V"⟩ : MethodName)) (z := (⟨"com/example/hydrate_captions/hydratecaptions/ChunkedInts", "add", "(I)V"⟩ : MethodName)) hown (mvT hZ (hw _ (List.mem_of_getElem? (i := 13) rfl))) (mvT hZ (hw _ (List.mem_of_getElem? (i := 14) rfl))) (notFace_of_selects (args := #[]) (mvT hZ (hw _ (List.mem_of_getElem? (i := 16) rfl)))) (mvT hZ (hw _ (List.mem_of_getElem? (i := 16) rfl))) (mvT hZ (hw _ (List.mem_of_getElem? (i := 15) rfl))) (by decide) (backOf (W := 0) (rm3b l Z a0 hw [] b5 p3 (((0 : Int64) + (1 : Int64)) + (1 : Int64)) h5.size (clA.setSlot 0 (.ref T6.heap.size)) T6.heap.size ((((clB).setSlot 0 (.int p1))).setSlot 1 (.int p2)) 2 T8.heap n0 Z8 Fs8 Fc8 AA8 SA' NA' AB8 SB8 Z6 hbB E8 g_b5 (by decide) ⟨by decide, by decide, by decide⟩) hZ (hw _ (List.mem_of_getElem? (i := 17) rfl)) (hw _ (List.mem_of_getElem? (i := 2) rfl)) (by decide) (by decide)) q9a q9c (g := (mkF m 24 #[.val (.int p1), .val (.int p2), .val (.int p3), .val (.int p4), .val (.ref b5), .unset, .unset, .unset, .unset] [(.int p3), (.ref b5)])) rfl (by rw [hml]; rfl) (Steps.refl _) (argsL := [(.int p3)]) (rest := []) (lenOf pd_0_1 rfl) rfl (by show 2 * 0 + _ ≤ _; exact Nat.le_of_eq rfl) (hb hby at_24) (fun _ _ => ⟨rfl, rfl, (by decide : 1 + 1 + 1 + 0 ≤ _), (by decide : 2 + 8 + 65536 + 0 ≤ _)⟩)
  dsimp only [Pt.U, Pt.locs, Pt.cells, Pt.slots] at X9 l9 y9 z9 st9 hQ9
  subst l9 y9 z9
  obtain ⟨rfl, N9q, K9, E9, Fs9, Fc9, AB9⟩ := hQ9
  have Z9 : n0 ≤ T9.heap.size := Nat.le_trans Z8 K9.1
  have AA9 : Arr Z T9.heap h5.size (clA.setSlot 0 (.ref T6.heap.size)) (.array .int) := ⟨K9.2.1 _ _ AA8.1 (ninS hAB (ninS (Ne.symm hbA) nin0)), AA8.2⟩
  have SB9 : ((((((clB).setSlot 0 (.int p1))).setSlot 1 (.int p2))).setSlot 2 (.int p3)).slots.size = 65536 := (sz_set _ _ _).trans SB8
  have N9 := Fr.app N8 N9q
  obtain ⟨cq10, kq10, q10a, q10b, q10c⟩ := isOf hZ rfl E9
  obtain ⟨_, _, ⟨T10, L10, k10, n10⟩, -, X10, ⟨Lc10, hQ10, l10, y10, z10⟩, st10⟩ := X9.virtualBack hx (y := (⟨"com/example/hydrate_captions/hydratecaptions/ChunkedInts", "add", "(I)V"⟩ : MethodName)) (z := (⟨"com/example/hydrate_captions/hydratecaptions/ChunkedInts", "add", "(I)V"⟩ : MethodName)) hown (mvT hZ (hw _ (List.mem_of_getElem? (i := 13) rfl))) (mvT hZ (hw _ (List.mem_of_getElem? (i := 14) rfl))) (notFace_of_selects (args := #[]) (mvT hZ (hw _ (List.mem_of_getElem? (i := 16) rfl)))) (mvT hZ (hw _ (List.mem_of_getElem? (i := 16) rfl))) (mvT hZ (hw _ (List.mem_of_getElem? (i := 15) rfl))) (by decide) (backOf (W := 0) (rm3b l Z a0 hw [] b5 p4 ((((0 : Int64) + (1 : Int64)) + (1 : Int64)) + (1 : Int64)) h5.size (clA.setSlot 0 (.ref T6.heap.size)) T6.heap.size ((((((clB).setSlot 0 (.int p1))).setSlot 1 (.int p2))).setSlot 2 (.int p3)) 3 T9.heap n0 Z9 Fs9 Fc9 AA9 SA' NA' AB9 SB9 Z6 hbB E9 g_b5 (by decide) ⟨by decide, by decide, by decide⟩) hZ (hw _ (List.mem_of_getElem? (i := 17) rfl)) (hw _ (List.mem_of_getElem? (i := 2) rfl)) (by decide) (by decide)) q10a q10c (g := (mkF m 30 #[.val (.int p1), .val (.int p2), .val (.int p3), .val (.int p4), .val (.ref b5), .unset, .unset, .unset, .unset] [(.int p4), (.ref b5)])) rfl (by rw [hml]; rfl) (Steps.refl _) (argsL := [(.int p4)]) (rest := []) (lenOf pd_0_1 rfl) rfl (by show 2 * 0 + _ ≤ _; exact Nat.le_of_eq rfl) (hb hby at_30) (fun _ _ => ⟨rfl, rfl, (by decide : 1 + 1 + 1 + 0 ≤ _), (by decide : 2 + 8 + 65536 + 0 ≤ _)⟩)
  dsimp only [Pt.U, Pt.locs, Pt.cells, Pt.slots] at X10 l10 y10 z10 st10 hQ10
  subst l10 y10 z10
  obtain ⟨rfl, N10q, K10, E10, Fs10, Fc10, AB10⟩ := hQ10
  have Z10 : n0 ≤ T10.heap.size := Nat.le_trans Z9 K10.1
  have AA10 : Arr Z T10.heap h5.size (clA.setSlot 0 (.ref T6.heap.size)) (.array .int) := ⟨K10.2.1 _ _ AA9.1 (ninS hAB (ninS (Ne.symm hbA) nin0)), AA9.2⟩
  have SB10 : ((((((((clB).setSlot 0 (.int p1))).setSlot 1 (.int p2))).setSlot 2 (.int p3))).setSlot 3 (.int p4)).slots.size = 65536 := (sz_set _ _ _).trans SB9
  have N10 := Fr.app N9 N10q
  obtain ⟨cq11, kq11, q11a, q11b, q11c⟩ := isOf hZ rfl E10
  obtain ⟨_, _, ⟨T11, L11, k11, n11⟩, -, X11, ⟨Lc11, hQ11, l11, y11, z11⟩, st11⟩ := X10.virtualBack hx (y := (⟨"com/example/hydrate_captions/hydratecaptions/ChunkedInts", "get", "(J)I"⟩ : MethodName)) (z := (⟨"com/example/hydrate_captions/hydratecaptions/ChunkedInts", "get", "(J)I"⟩ : MethodName)) hown (mvT hZ (hw _ (List.mem_of_getElem? (i := 24) rfl))) (mvT hZ (hw _ (List.mem_of_getElem? (i := 25) rfl))) (notFace_of_selects (args := #[]) (mvT hZ (hw _ (List.mem_of_getElem? (i := 27) rfl)))) (mvT hZ (hw _ (List.mem_of_getElem? (i := 27) rfl))) (mvT hZ (hw _ (List.mem_of_getElem? (i := 26) rfl))) (by decide) (backOf (W := 0) (rm4 l Z a0 hw [] b5 (0 : Int64) h5.size T6.heap.size (clA.setSlot 0 (.ref T6.heap.size)) p1 ((((((((clB).setSlot 0 (.int p1))).setSlot 1 (.int p2))).setSlot 2 (.int p3))).setSlot 3 (.int p4)) 0 T10.heap n0 Z10 Fc10 AA10 SA' NA' AB10 SB10 (by decide) ⟨by decide, by decide, by decide⟩ (own_c0 SB)) hZ (hw _ (List.mem_of_getElem? (i := 28) rfl)) (hw _ (List.mem_of_getElem? (i := 2) rfl)) (by decide) (by decide)) q11a q11c (g := (mkF m 36 #[.val (.int p1), .val (.int p2), .val (.int p3), .val (.int p4), .val (.ref b5), .unset, .unset, .unset, .unset] [(.long (0 : Int64)), (.ref b5)])) rfl (by rw [hml]; rfl) (Steps.refl _) (argsL := [(.long (0 : Int64))]) (rest := []) (lenOf pd_0_2 rfl) rfl (by show 2 * 0 + _ ≤ _; exact Nat.le_of_eq rfl) (hb hby at_36) (fun _ _ => ⟨rfl, rfl, (by decide : 1 + 1 + 1 + 0 ≤ _), (by decide : 2 + 8 + 65536 + 0 ≤ _)⟩)
  dsimp only [Pt.U, Pt.locs, Pt.cells, Pt.slots] at X11 l11 y11 z11 st11 hQ11
  subst l11 y11 z11
  obtain ⟨rfl, N11q, eh11⟩ := hQ11
  have N11 := Fr.app N10 N11q
  obtain ⟨cq12, kq12, q12a, q12b, q12c⟩ := isOf hZ eh11 E10
  obtain ⟨_, _, ⟨T12, L12, k12, n12⟩, -, X12, ⟨Lc12, hQ12, l12, y12, z12⟩, st12⟩ := X11.virtualBack hx (y := (⟨"com/example/hydrate_captions/hydratecaptions/ChunkedInts", "get", "(J)I"⟩ : MethodName)) (z := (⟨"com/example/hydrate_captions/hydratecaptions/ChunkedInts", "get", "(J)I"⟩ : MethodName)) hown (mvT hZ (hw _ (List.mem_of_getElem? (i := 24) rfl))) (mvT hZ (hw _ (List.mem_of_getElem? (i := 25) rfl))) (notFace_of_selects (args := #[]) (mvT hZ (hw _ (List.mem_of_getElem? (i := 27) rfl)))) (mvT hZ (hw _ (List.mem_of_getElem? (i := 27) rfl))) (mvT hZ (hw _ (List.mem_of_getElem? (i := 26) rfl))) (by decide) (backOf (W := 0) (rm4 l Z a0 hw [] b5 (1 : Int64) h5.size T6.heap.size (clA.setSlot 0 (.ref T6.heap.size)) p2 ((((((((clB).setSlot 0 (.int p1))).setSlot 1 (.int p2))).setSlot 2 (.int p3))).setSlot 3 (.int p4)) 1 T10.heap n0 Z10 Fc10 AA10 SA' NA' AB10 SB10 (by decide) ⟨by decide, by decide, by decide⟩ (own_c1 SB)) hZ (hw _ (List.mem_of_getElem? (i := 28) rfl)) (hw _ (List.mem_of_getElem? (i := 2) rfl)) (by decide) (by decide)) q12a q12c (g := (mkF m 53 #[.val (.int p1), .val (.int p2), .val (.int p3), .val (.int p4), .val (.ref b5), .val (.int (1 : Int32)), .unset, .unset, .unset] [(.long (1 : Int64)), (.ref b5)])) rfl (by rw [hml]; rfl) (Steps.refl _) (argsL := [(.long (1 : Int64))]) (rest := []) (lenOf pd_0_2 rfl) rfl (by show 2 * 0 + _ ≤ _; exact Nat.le_of_eq rfl) (hb hby at_53) (fun _ _ => ⟨rfl, eh11, (by decide : 1 + 1 + 1 + 0 ≤ _), (by decide : 2 + 8 + 65536 + 0 ≤ _)⟩)
  dsimp only [Pt.U, Pt.locs, Pt.cells, Pt.slots] at X12 l12 y12 z12 st12 hQ12
  subst l12 y12 z12
  obtain ⟨rfl, N12q, eh12⟩ := hQ12
  have N12 := Fr.app N11 N12q
  obtain ⟨cq13, kq13, q13a, q13b, q13c⟩ := isOf hZ eh12 E10
  obtain ⟨_, _, ⟨T13, L13, k13, n13⟩, -, X13, ⟨Lc13, hQ13, l13, y13, z13⟩, st13⟩ := X12.virtualBack hx (y := (⟨"com/example/hydrate_captions/hydratecaptions/ChunkedInts", "get", "(J)I"⟩ : MethodName)) (z := (⟨"com/example/hydrate_captions/hydratecaptions/ChunkedInts", "get", "(J)I"⟩ : MethodName)) hown (mvT hZ (hw _ (List.mem_of_getElem? (i := 24) rfl))) (mvT hZ (hw _ (List.mem_of_getElem? (i := 25) rfl))) (notFace_of_selects (args := #[]) (mvT hZ (hw _ (List.mem_of_getElem? (i := 27) rfl)))) (mvT hZ (hw _ (List.mem_of_getElem? (i := 27) rfl))) (mvT hZ (hw _ (List.mem_of_getElem? (i := 26) rfl))) (by decide) (backOf (W := 0) (rm4 l Z a0 hw [] b5 (2 : Int64) h5.size T6.heap.size (clA.setSlot 0 (.ref T6.heap.size)) p3 ((((((((clB).setSlot 0 (.int p1))).setSlot 1 (.int p2))).setSlot 2 (.int p3))).setSlot 3 (.int p4)) 2 T10.heap n0 Z10 Fc10 AA10 SA' NA' AB10 SB10 (by decide) ⟨by decide, by decide, by decide⟩ (own_c2 SB)) hZ (hw _ (List.mem_of_getElem? (i := 28) rfl)) (hw _ (List.mem_of_getElem? (i := 2) rfl)) (by decide) (by decide)) q13a q13c (g := (mkF m 72 #[.val (.int p1), .val (.int p2), .val (.int p3), .val (.int p4), .val (.ref b5), .val (.int (1 : Int32)), .val (.int (1 : Int32)), .unset, .unset] [(.long (2 : Int64)), (.ref b5)])) rfl (by rw [hml]; rfl) (Steps.refl _) (argsL := [(.long (2 : Int64))]) (rest := []) (lenOf pd_0_2 rfl) rfl (by show 2 * 0 + _ ≤ _; exact Nat.le_of_eq rfl) (hb hby at_72) (fun _ _ => ⟨rfl, eh12, (by decide : 1 + 1 + 1 + 0 ≤ _), (by decide : 2 + 8 + 65536 + 0 ≤ _)⟩)
  dsimp only [Pt.U, Pt.locs, Pt.cells, Pt.slots] at X13 l13 y13 z13 st13 hQ13
  subst l13 y13 z13
  obtain ⟨rfl, N13q, eh13⟩ := hQ13
  have N13 := Fr.app N12 N13q
  obtain ⟨cq14, kq14, q14a, q14b, q14c⟩ := isOf hZ eh13 E10
  obtain ⟨_, _, ⟨T14, L14, k14, n14⟩, -, X14, ⟨Lc14, hQ14, l14, y14, z14⟩, st14⟩ := X13.virtualBack hx (y := (⟨"com/example/hydrate_captions/hydratecaptions/ChunkedInts", "get", "(J)I"⟩ : MethodName)) (z := (⟨"com/example/hydrate_captions/hydratecaptions/ChunkedInts", "get", "(J)I"⟩ : MethodName)) hown (mvT hZ (hw _ (List.mem_of_getElem? (i := 24) rfl))) (mvT hZ (hw _ (List.mem_of_getElem? (i := 25) rfl))) (notFace_of_selects (args := #[]) (mvT hZ (hw _ (List.mem_of_getElem? (i := 27) rfl)))) (mvT hZ (hw _ (List.mem_of_getElem? (i := 27) rfl))) (mvT hZ (hw _ (List.mem_of_getElem? (i := 26) rfl))) (by decide) (backOf (W := 0) (rm4 l Z a0 hw [] b5 (3 : Int64) h5.size T6.heap.size (clA.setSlot 0 (.ref T6.heap.size)) p4 ((((((((clB).setSlot 0 (.int p1))).setSlot 1 (.int p2))).setSlot 2 (.int p3))).setSlot 3 (.int p4)) 3 T10.heap n0 Z10 Fc10 AA10 SA' NA' AB10 SB10 (by decide) ⟨by decide, by decide, by decide⟩ (own_c3 SB)) hZ (hw _ (List.mem_of_getElem? (i := 28) rfl)) (hw _ (List.mem_of_getElem? (i := 2) rfl)) (by decide) (by decide)) q14a q14c (g := (mkF m 91 #[.val (.int p1), .val (.int p2), .val (.int p3), .val (.int p4), .val (.ref b5), .val (.int (1 : Int32)), .val (.int (1 : Int32)), .val (.int (1 : Int32)), .unset] [(.long (3 : Int64)), (.ref b5)])) rfl (by rw [hml]; rfl) (Steps.refl _) (argsL := [(.long (3 : Int64))]) (rest := []) (lenOf pd_0_2 rfl) rfl (by show 2 * 0 + _ ≤ _; exact Nat.le_of_eq rfl) (hb hby at_91) (fun _ _ => ⟨rfl, eh13, (by decide : 1 + 1 + 1 + 0 ≤ _), (by decide : 2 + 8 + 65536 + 0 ≤ _)⟩)
  dsimp only [Pt.U, Pt.locs, Pt.cells, Pt.slots] at X14 l14 y14 z14 st14 hQ14
  subst l14 y14 z14
  obtain ⟨rfl, N14q, eh14⟩ := hQ14
  have N14 := Fr.app N13 N14q
  obtain ⟨fs, hr, hrun, hended, hW, hsame⟩ := X14.leave (v := some (.int (1 : Int32))) (fun h => by rw [Bd.returns] at h; cases h)
  refine ⟨_, _, pre0 _ ?_, hrun, hended, _, _, rfl, ?_, ⟨_, rfl⟩, hW, hsame.mono (by decide) (by decide)⟩
  · show Steps p.tables e below (s₁.setTop (mkF m 0 #[.val (.int p1), .val (.int p2), .val (.int p3), .val (.int p4), .unset, .unset, .unset, .unset, .unset] [])) _
    refine st5 _ ?_
    show Steps p.tables e below (T5.setTop (mkF m 3 #[.val (.int p1), .val (.int p2), .val (.int p3), .val (.int p4), .unset, .unset, .unset, .unset, .unset] [(.ref b5)])) _
    refine XS.dup X5.here hx rfl (hb hby at_3) rfl rfl ?_
    show Steps p.tables e below (T5.setTop (mkF m 4 #[.val (.int p1), .val (.int p2), .val (.int p3), .val (.int p4), .unset, .unset, .unset, .unset, .unset] [(.ref b5), (.ref b5)])) _
    refine st6.trans ?_
    show Steps p.tables e below (T6.setTop (mkF m 7 #[.val (.int p1), .val (.int p2), .val (.int p3), .val (.int p4), .unset, .unset, .unset, .unset, .unset] [(.ref b5)])) _
    refine XS.astore X6.here hx rfl (hb hby at_7) rfl rfl (l' := #[.val (.int p1), .val (.int p2), .val (.int p3), .val (.int p4), .val (.ref b5), .unset, .unset, .unset, .unset]) rfl ?_
    show Steps p.tables e below (T6.setTop (mkF m 9 #[.val (.int p1), .val (.int p2), .val (.int p3), .val (.int p4), .val (.ref b5), .unset, .unset, .unset, .unset] [])) _
    refine XS.aload X6.here hx rfl (hb hby at_9) rfl rfl ?_
    show Steps p.tables e below (T6.setTop (mkF m 11 #[.val (.int p1), .val (.int p2), .val (.int p3), .val (.int p4), .val (.ref b5), .unset, .unset, .unset, .unset] [(.ref b5)])) _
    refine XS.iloadN X6.here hx rfl (hb hby at_11) rfl ?_
    show Steps p.tables e below (T6.setTop (mkF m 12 #[.val (.int p1), .val (.int p2), .val (.int p3), .val (.int p4), .val (.ref b5), .unset, .unset, .unset, .unset] [(.int p1), (.ref b5)])) _
    refine st7.trans ?_
    show Steps p.tables e below (T7.setTop (mkF m 15 #[.val (.int p1), .val (.int p2), .val (.int p3), .val (.int p4), .val (.ref b5), .unset, .unset, .unset, .unset] [])) _
    refine XS.aload X7.here hx rfl (hb hby at_15) rfl rfl ?_
    show Steps p.tables e below (T7.setTop (mkF m 17 #[.val (.int p1), .val (.int p2), .val (.int p3), .val (.int p4), .val (.ref b5), .unset, .unset, .unset, .unset] [(.ref b5)])) _
    refine XS.iloadN X7.here hx rfl (hb hby at_17) rfl ?_
    show Steps p.tables e below (T7.setTop (mkF m 18 #[.val (.int p1), .val (.int p2), .val (.int p3), .val (.int p4), .val (.ref b5), .unset, .unset, .unset, .unset] [(.int p2), (.ref b5)])) _
    refine st8.trans ?_
    show Steps p.tables e below (T8.setTop (mkF m 21 #[.val (.int p1), .val (.int p2), .val (.int p3), .val (.int p4), .val (.ref b5), .unset, .unset, .unset, .unset] [])) _
    refine XS.aload X8.here hx rfl (hb hby at_21) rfl rfl ?_
    show Steps p.tables e below (T8.setTop (mkF m 23 #[.val (.int p1), .val (.int p2), .val (.int p3), .val (.int p4), .val (.ref b5), .unset, .unset, .unset, .unset] [(.ref b5)])) _
    refine XS.iloadN X8.here hx rfl (hb hby at_23) rfl ?_
    show Steps p.tables e below (T8.setTop (mkF m 24 #[.val (.int p1), .val (.int p2), .val (.int p3), .val (.int p4), .val (.ref b5), .unset, .unset, .unset, .unset] [(.int p3), (.ref b5)])) _
    refine st9.trans ?_
    show Steps p.tables e below (T9.setTop (mkF m 27 #[.val (.int p1), .val (.int p2), .val (.int p3), .val (.int p4), .val (.ref b5), .unset, .unset, .unset, .unset] [])) _
    refine XS.aload X9.here hx rfl (hb hby at_27) rfl rfl ?_
    show Steps p.tables e below (T9.setTop (mkF m 29 #[.val (.int p1), .val (.int p2), .val (.int p3), .val (.int p4), .val (.ref b5), .unset, .unset, .unset, .unset] [(.ref b5)])) _
    refine XS.iloadN X9.here hx rfl (hb hby at_29) rfl ?_
    show Steps p.tables e below (T9.setTop (mkF m 30 #[.val (.int p1), .val (.int p2), .val (.int p3), .val (.int p4), .val (.ref b5), .unset, .unset, .unset, .unset] [(.int p4), (.ref b5)])) _
    refine st10.trans ?_
    show Steps p.tables e below (T10.setTop (mkF m 33 #[.val (.int p1), .val (.int p2), .val (.int p3), .val (.int p4), .val (.ref b5), .unset, .unset, .unset, .unset] [])) _
    refine XS.aload X10.here hx rfl (hb hby at_33) rfl rfl ?_
    show Steps p.tables e below (T10.setTop (mkF m 35 #[.val (.int p1), .val (.int p2), .val (.int p3), .val (.int p4), .val (.ref b5), .unset, .unset, .unset, .unset] [(.ref b5)])) _
    refine XS.lconst X10.here hx rfl (hb hby at_35) ?_
    show Steps p.tables e below (T10.setTop (mkF m 36 #[.val (.int p1), .val (.int p2), .val (.int p3), .val (.int p4), .val (.ref b5), .unset, .unset, .unset, .unset] [(.long (0 : Int64)), (.ref b5)])) _
    refine st11.trans ?_
    show Steps p.tables e below (T11.setTop (mkF m 39 #[.val (.int p1), .val (.int p2), .val (.int p3), .val (.int p4), .val (.ref b5), .unset, .unset, .unset, .unset] [(.int p1)])) _
    refine XS.iloadN X11.here hx rfl (hb hby at_39) rfl ?_
    show Steps p.tables e below (T11.setTop (mkF m 40 #[.val (.int p1), .val (.int p2), .val (.int p3), .val (.int p4), .val (.ref b5), .unset, .unset, .unset, .unset] [(.int p1), (.int p1)])) _
    refine XS.icmpNo X11.here hx rfl (hb hby at_40) rfl (teq (rfl : p1 = p1)).2 ?_
    show Steps p.tables e below (T11.setTop (mkF m 43 #[.val (.int p1), .val (.int p2), .val (.int p3), .val (.int p4), .val (.ref b5), .unset, .unset, .unset, .unset] [])) _
    refine XS.iconst X11.here hx rfl (hb hby at_43) ?_
    show Steps p.tables e below (T11.setTop (mkF m 44 #[.val (.int p1), .val (.int p2), .val (.int p3), .val (.int p4), .val (.ref b5), .unset, .unset, .unset, .unset] [(.int (1 : Int32))])) _
    refine XS.goto X11.here hx rfl (pc0 := 44) (pc' := 48) rfl (hb hby at_44) (by decide) (by decide) ?_
    show Steps p.tables e below (T11.setTop (mkF m 48 #[.val (.int p1), .val (.int p2), .val (.int p3), .val (.int p4), .val (.ref b5), .unset, .unset, .unset, .unset] [(.int (1 : Int32))])) _
    refine XS.istore X11.here hx rfl (hb hby at_48) rfl (l' := #[.val (.int p1), .val (.int p2), .val (.int p3), .val (.int p4), .val (.ref b5), .val (.int (1 : Int32)), .unset, .unset, .unset]) rfl ?_
    show Steps p.tables e below (T11.setTop (mkF m 50 #[.val (.int p1), .val (.int p2), .val (.int p3), .val (.int p4), .val (.ref b5), .val (.int (1 : Int32)), .unset, .unset, .unset] [])) _
    refine XS.aload X11.here hx rfl (hb hby at_50) rfl rfl ?_
    show Steps p.tables e below (T11.setTop (mkF m 52 #[.val (.int p1), .val (.int p2), .val (.int p3), .val (.int p4), .val (.ref b5), .val (.int (1 : Int32)), .unset, .unset, .unset] [(.ref b5)])) _
    refine XS.lconst X11.here hx rfl (hb hby at_52) ?_
    show Steps p.tables e below (T11.setTop (mkF m 53 #[.val (.int p1), .val (.int p2), .val (.int p3), .val (.int p4), .val (.ref b5), .val (.int (1 : Int32)), .unset, .unset, .unset] [(.long (1 : Int64)), (.ref b5)])) _
    refine st12.trans ?_
    show Steps p.tables e below (T12.setTop (mkF m 56 #[.val (.int p1), .val (.int p2), .val (.int p3), .val (.int p4), .val (.ref b5), .val (.int (1 : Int32)), .unset, .unset, .unset] [(.int p2)])) _
    refine XS.iloadN X12.here hx rfl (hb hby at_56) rfl ?_
    show Steps p.tables e below (T12.setTop (mkF m 57 #[.val (.int p1), .val (.int p2), .val (.int p3), .val (.int p4), .val (.ref b5), .val (.int (1 : Int32)), .unset, .unset, .unset] [(.int p2), (.int p2)])) _
    refine XS.icmpNo X12.here hx rfl (hb hby at_57) rfl (teq (rfl : p2 = p2)).2 ?_
    show Steps p.tables e below (T12.setTop (mkF m 60 #[.val (.int p1), .val (.int p2), .val (.int p3), .val (.int p4), .val (.ref b5), .val (.int (1 : Int32)), .unset, .unset, .unset] [])) _
    refine XS.iconst X12.here hx rfl (hb hby at_60) ?_
    show Steps p.tables e below (T12.setTop (mkF m 61 #[.val (.int p1), .val (.int p2), .val (.int p3), .val (.int p4), .val (.ref b5), .val (.int (1 : Int32)), .unset, .unset, .unset] [(.int (1 : Int32))])) _
    refine XS.goto X12.here hx rfl (pc0 := 61) (pc' := 65) rfl (hb hby at_61) (by decide) (by decide) ?_
    show Steps p.tables e below (T12.setTop (mkF m 65 #[.val (.int p1), .val (.int p2), .val (.int p3), .val (.int p4), .val (.ref b5), .val (.int (1 : Int32)), .unset, .unset, .unset] [(.int (1 : Int32))])) _
    refine XS.istore X12.here hx rfl (hb hby at_65) rfl (l' := #[.val (.int p1), .val (.int p2), .val (.int p3), .val (.int p4), .val (.ref b5), .val (.int (1 : Int32)), .val (.int (1 : Int32)), .unset, .unset]) rfl ?_
    show Steps p.tables e below (T12.setTop (mkF m 67 #[.val (.int p1), .val (.int p2), .val (.int p3), .val (.int p4), .val (.ref b5), .val (.int (1 : Int32)), .val (.int (1 : Int32)), .unset, .unset] [])) _
    refine XS.aload X12.here hx rfl (hb hby at_67) rfl rfl ?_
    show Steps p.tables e below (T12.setTop (mkF m 69 #[.val (.int p1), .val (.int p2), .val (.int p3), .val (.int p4), .val (.ref b5), .val (.int (1 : Int32)), .val (.int (1 : Int32)), .unset, .unset] [(.ref b5)])) _
    refine X12.ldc2Long hx hown (mvT hZ (hw _ (List.mem_of_getElem? (i := 29) rfl))) (g := (mkF m 69 #[.val (.int p1), .val (.int p2), .val (.int p3), .val (.int p4), .val (.ref b5), .val (.int (1 : Int32)), .val (.int (1 : Int32)), .unset, .unset] [(.ref b5)])) rfl (hb hby at_69) _ ?_
    show Steps p.tables e below (T12.setTop (mkF m 72 #[.val (.int p1), .val (.int p2), .val (.int p3), .val (.int p4), .val (.ref b5), .val (.int (1 : Int32)), .val (.int (1 : Int32)), .unset, .unset] [(.long (2 : Int64)), (.ref b5)])) _
    refine st13.trans ?_
    show Steps p.tables e below (T13.setTop (mkF m 75 #[.val (.int p1), .val (.int p2), .val (.int p3), .val (.int p4), .val (.ref b5), .val (.int (1 : Int32)), .val (.int (1 : Int32)), .unset, .unset] [(.int p3)])) _
    refine XS.iloadN X13.here hx rfl (hb hby at_75) rfl ?_
    show Steps p.tables e below (T13.setTop (mkF m 76 #[.val (.int p1), .val (.int p2), .val (.int p3), .val (.int p4), .val (.ref b5), .val (.int (1 : Int32)), .val (.int (1 : Int32)), .unset, .unset] [(.int p3), (.int p3)])) _
    refine XS.icmpNo X13.here hx rfl (hb hby at_76) rfl (teq (rfl : p3 = p3)).2 ?_
    show Steps p.tables e below (T13.setTop (mkF m 79 #[.val (.int p1), .val (.int p2), .val (.int p3), .val (.int p4), .val (.ref b5), .val (.int (1 : Int32)), .val (.int (1 : Int32)), .unset, .unset] [])) _
    refine XS.iconst X13.here hx rfl (hb hby at_79) ?_
    show Steps p.tables e below (T13.setTop (mkF m 80 #[.val (.int p1), .val (.int p2), .val (.int p3), .val (.int p4), .val (.ref b5), .val (.int (1 : Int32)), .val (.int (1 : Int32)), .unset, .unset] [(.int (1 : Int32))])) _
    refine XS.goto X13.here hx rfl (pc0 := 80) (pc' := 84) rfl (hb hby at_80) (by decide) (by decide) ?_
    show Steps p.tables e below (T13.setTop (mkF m 84 #[.val (.int p1), .val (.int p2), .val (.int p3), .val (.int p4), .val (.ref b5), .val (.int (1 : Int32)), .val (.int (1 : Int32)), .unset, .unset] [(.int (1 : Int32))])) _
    refine XS.istore X13.here hx rfl (hb hby at_84) rfl (l' := #[.val (.int p1), .val (.int p2), .val (.int p3), .val (.int p4), .val (.ref b5), .val (.int (1 : Int32)), .val (.int (1 : Int32)), .val (.int (1 : Int32)), .unset]) rfl ?_
    show Steps p.tables e below (T13.setTop (mkF m 86 #[.val (.int p1), .val (.int p2), .val (.int p3), .val (.int p4), .val (.ref b5), .val (.int (1 : Int32)), .val (.int (1 : Int32)), .val (.int (1 : Int32)), .unset] [])) _
    refine XS.aload X13.here hx rfl (hb hby at_86) rfl rfl ?_
    show Steps p.tables e below (T13.setTop (mkF m 88 #[.val (.int p1), .val (.int p2), .val (.int p3), .val (.int p4), .val (.ref b5), .val (.int (1 : Int32)), .val (.int (1 : Int32)), .val (.int (1 : Int32)), .unset] [(.ref b5)])) _
    refine X13.ldc2Long hx hown (mvT hZ (hw _ (List.mem_of_getElem? (i := 30) rfl))) (g := (mkF m 88 #[.val (.int p1), .val (.int p2), .val (.int p3), .val (.int p4), .val (.ref b5), .val (.int (1 : Int32)), .val (.int (1 : Int32)), .val (.int (1 : Int32)), .unset] [(.ref b5)])) rfl (hb hby at_88) _ ?_
    show Steps p.tables e below (T13.setTop (mkF m 91 #[.val (.int p1), .val (.int p2), .val (.int p3), .val (.int p4), .val (.ref b5), .val (.int (1 : Int32)), .val (.int (1 : Int32)), .val (.int (1 : Int32)), .unset] [(.long (3 : Int64)), (.ref b5)])) _
    refine st14.trans ?_
    show Steps p.tables e below (T14.setTop (mkF m 94 #[.val (.int p1), .val (.int p2), .val (.int p3), .val (.int p4), .val (.ref b5), .val (.int (1 : Int32)), .val (.int (1 : Int32)), .val (.int (1 : Int32)), .unset] [(.int p4)])) _
    refine XS.iloadN X14.here hx rfl (hb hby at_94) rfl ?_
    show Steps p.tables e below (T14.setTop (mkF m 95 #[.val (.int p1), .val (.int p2), .val (.int p3), .val (.int p4), .val (.ref b5), .val (.int (1 : Int32)), .val (.int (1 : Int32)), .val (.int (1 : Int32)), .unset] [(.int p4), (.int p4)])) _
    refine XS.icmpNo X14.here hx rfl (hb hby at_95) rfl (teq (rfl : p4 = p4)).2 ?_
    show Steps p.tables e below (T14.setTop (mkF m 98 #[.val (.int p1), .val (.int p2), .val (.int p3), .val (.int p4), .val (.ref b5), .val (.int (1 : Int32)), .val (.int (1 : Int32)), .val (.int (1 : Int32)), .unset] [])) _
    refine XS.iconst X14.here hx rfl (hb hby at_98) ?_
    show Steps p.tables e below (T14.setTop (mkF m 99 #[.val (.int p1), .val (.int p2), .val (.int p3), .val (.int p4), .val (.ref b5), .val (.int (1 : Int32)), .val (.int (1 : Int32)), .val (.int (1 : Int32)), .unset] [(.int (1 : Int32))])) _
    refine XS.goto X14.here hx rfl (pc0 := 99) (pc' := 103) rfl (hb hby at_99) (by decide) (by decide) ?_
    show Steps p.tables e below (T14.setTop (mkF m 103 #[.val (.int p1), .val (.int p2), .val (.int p3), .val (.int p4), .val (.ref b5), .val (.int (1 : Int32)), .val (.int (1 : Int32)), .val (.int (1 : Int32)), .unset] [(.int (1 : Int32))])) _
    refine XS.istore X14.here hx rfl (hb hby at_103) rfl (l' := #[.val (.int p1), .val (.int p2), .val (.int p3), .val (.int p4), .val (.ref b5), .val (.int (1 : Int32)), .val (.int (1 : Int32)), .val (.int (1 : Int32)), .val (.int (1 : Int32))]) rfl ?_
    show Steps p.tables e below (T14.setTop (mkF m 105 #[.val (.int p1), .val (.int p2), .val (.int p3), .val (.int p4), .val (.ref b5), .val (.int (1 : Int32)), .val (.int (1 : Int32)), .val (.int (1 : Int32)), .val (.int (1 : Int32))] [])) _
    refine XS.iload X14.here hx rfl (hb hby at_105) rfl ?_
    show Steps p.tables e below (T14.setTop (mkF m 107 #[.val (.int p1), .val (.int p2), .val (.int p3), .val (.int p4), .val (.ref b5), .val (.int (1 : Int32)), .val (.int (1 : Int32)), .val (.int (1 : Int32)), .val (.int (1 : Int32))] [(.int (1 : Int32))])) _
    refine XS.ifNo X14.here hx rfl (hb hby at_107) rfl ((if0 _ _).trans (feq hc107).1) ?_
    show Steps p.tables e below (T14.setTop (mkF m 110 #[.val (.int p1), .val (.int p2), .val (.int p3), .val (.int p4), .val (.ref b5), .val (.int (1 : Int32)), .val (.int (1 : Int32)), .val (.int (1 : Int32)), .val (.int (1 : Int32))] [])) _
    refine XS.iload X14.here hx rfl (hb hby at_110) rfl ?_
    show Steps p.tables e below (T14.setTop (mkF m 112 #[.val (.int p1), .val (.int p2), .val (.int p3), .val (.int p4), .val (.ref b5), .val (.int (1 : Int32)), .val (.int (1 : Int32)), .val (.int (1 : Int32)), .val (.int (1 : Int32))] [(.int (1 : Int32))])) _
    refine XS.ifNo X14.here hx rfl (hb hby at_112) rfl ((if0 _ _).trans (feq hc112).1) ?_
    show Steps p.tables e below (T14.setTop (mkF m 115 #[.val (.int p1), .val (.int p2), .val (.int p3), .val (.int p4), .val (.ref b5), .val (.int (1 : Int32)), .val (.int (1 : Int32)), .val (.int (1 : Int32)), .val (.int (1 : Int32))] [])) _
    refine XS.iload X14.here hx rfl (hb hby at_115) rfl ?_
    show Steps p.tables e below (T14.setTop (mkF m 117 #[.val (.int p1), .val (.int p2), .val (.int p3), .val (.int p4), .val (.ref b5), .val (.int (1 : Int32)), .val (.int (1 : Int32)), .val (.int (1 : Int32)), .val (.int (1 : Int32))] [(.int (1 : Int32))])) _
    refine XS.ifNo X14.here hx rfl (hb hby at_117) rfl ((if0 _ _).trans (feq hc117).1) ?_
    show Steps p.tables e below (T14.setTop (mkF m 120 #[.val (.int p1), .val (.int p2), .val (.int p3), .val (.int p4), .val (.ref b5), .val (.int (1 : Int32)), .val (.int (1 : Int32)), .val (.int (1 : Int32)), .val (.int (1 : Int32))] [])) _
    refine XS.iload X14.here hx rfl (hb hby at_120) rfl ?_
    show Steps p.tables e below (T14.setTop (mkF m 122 #[.val (.int p1), .val (.int p2), .val (.int p3), .val (.int p4), .val (.ref b5), .val (.int (1 : Int32)), .val (.int (1 : Int32)), .val (.int (1 : Int32)), .val (.int (1 : Int32))] [(.int (1 : Int32))])) _
    refine XS.ifNo X14.here hx rfl (hb hby at_122) rfl ((if0 _ _).trans (feq hc122).1) ?_
    show Steps p.tables e below (T14.setTop (mkF m 125 #[.val (.int p1), .val (.int p2), .val (.int p3), .val (.int p4), .val (.ref b5), .val (.int (1 : Int32)), .val (.int (1 : Int32)), .val (.int (1 : Int32)), .val (.int (1 : Int32))] [])) _
    refine XS.iconst X14.here hx rfl (hb hby at_125) ?_
    show Steps p.tables e below (T14.setTop (mkF m 126 #[.val (.int p1), .val (.int p2), .val (.int p3), .val (.int p4), .val (.ref b5), .val (.int (1 : Int32)), .val (.int (1 : Int32)), .val (.int (1 : Int32)), .val (.int (1 : Int32))] [(.int (1 : Int32))])) _
    refine XS.goto X14.here hx rfl (pc0 := 126) (pc' := 130) rfl (hb hby at_126) (by decide) (by decide) ?_
    show Steps p.tables e below (T14.setTop (mkF m 130 #[.val (.int p1), .val (.int p2), .val (.int p3), .val (.int p4), .val (.ref b5), .val (.int (1 : Int32)), .val (.int (1 : Int32)), .val (.int (1 : Int32)), .val (.int (1 : Int32))] [(.int (1 : Int32))])) _
    exact retN X14 hx (t := .boolean) Bd.returns (by simp) (hb hby at_130) hr
  · show Q0 Z p1 p2 p3 p4 h0 n0 _ T14.heap _
    exact ⟨rfl, N14⟩
set_option maxRecDepth 65536 in
set_option maxHeartbeats 40000000 in
theorem comes_1 {Post : Tables → Env → Array Value → State → Outcome → State → Prop} (hpost : ∀ tb e args s v u, (limb_1_1.after args s (.returned v) u = true ∧ limb_1_2.after args s (.returned v) u = true ∧ True) → FrameEnd s (.returned v) u (Jvm.fieldLocs frame_1_writes args s ++ Jvm.arrayLocs frame_1_arrays args s ++ Jvm.staticLocs frame_1_statics s) 16 131200 → Post tb e args s (.returned v) u) :
    ArmFor flags0 classFile x code maxLocals ret World_1 tables_1 room_1 Calls_1 rest_1 Pre_1 Post := by
  intro l hfl _ _ p e ha hc hk s m args below hf hA hF happ hP
  obtain ⟨hcalls, hrest, hpre⟩ := hP
  obtain ⟨-, -, -, hnamed, -, -, -, hat⟩ := (Spec.applies_iff hf).mp happ
  obtain ⟨hg, hn⟩ := and_e (Cond.before_iff.mp (show (Jvm.Cond.and given_1 narrow_1).before args s = true from hpre))
  obtain ⟨g15, g16⟩ := and_e hg
  obtain ⟨g17, g18⟩ := and_e g16
  obtain ⟨g19, g20⟩ := and_e g18
  obtain ⟨g21, g22⟩ := and_e g20
  obtain ⟨w0, w1, w2, w3, rfl⟩ : ∃ w0 w1 w2 w3 : Value, args = #[w0, w1, w2, w3] := by
    have hs : args.size = 4 := by simpa [Cond.value, given_1] using g15
    obtain ⟨L⟩ := args
    match L, hs with
    | [w0, w1, w2, w3], _ => exact ⟨w0, w1, w2, w3, rfl⟩
  have hw := fun d (hd : d ∈ tables_1) => atoms_spec (ws := Jvm.Cond.code x code maxLocals ret :: tables_1) hat d (List.mem_cons_of_mem _ hd)
  have hfit : Fit s := fun {y c} hc i hi => by
    obtain ⟨ha, rfl⟩ := Array.getElem?_eq_some_iff.mp hc
    have q := List.all_eq_true.mp ((Array.all_eq_true_iff_forall_mem.mp hF) _ (Array.getElem_mem ha)) i (List.mem_range.mpr hi)
    simpa [Array.getElem?_eq_getElem hi] using q
  obtain ⟨i0, ei0⟩ := is_v g17
  obtain rfl : w0 = (.int i0) := Option.some.inj ei0
  obtain ⟨i1, ei1⟩ := is_v g19
  obtain rfl : w1 = (.int i1) := Option.some.inj ei1
  obtain ⟨i2, ei2⟩ := is_v g21
  obtain rfl : w2 = (.int i2) := Option.some.inj ei2
  obtain ⟨i3, ei3⟩ := is_v g22
  obtain rfl : w3 = (.int i3) := Option.some.inj ei3
  obtain ⟨n, o, h1, h2, h3, _, L, rfl, ⟨rfl, N⟩, hq⟩ := rm0 l s _ hw tables_1 i0 i1 i2 i3  s.heap s.heap.size (Nat.le_refl _) (by decide) (by decide) (by decide) (by decide) p e ha hc hk s m _ below hf ((Spec.applies_iff_loose hf).mp happ).1 ⟨rfl, State.Warmed39.refl s, rfl⟩ trivial
  refine ⟨n, _, h1, h2, h3, hpost _ _ _ _ _ _ ⟨Cond.after_iff.mpr rfl, Cond.after_iff.mpr (eq_i res_at (Term.int_eval (1)) rfl), trivial⟩ ⟨hq.1, hq.2.1, (hq.2.2.sift fun y hy => Or.inr (N y hy)).mono (by decide) (by decide)⟩⟩
theorem main_1_1 : Claimed_1_1 := comes_1 fun _ _ _ _ _ _ h hF => ⟨h.1, hF⟩
theorem main_1_2 : Claimed_1_2 := comes_1 fun _ _ _ _ _ _ h hF => ⟨h.2.1, hF⟩

end Jvm.Pilot.@@N@@
namespace Jvm.Pilot.@@N@@
open Jvm Jvm.ClassFile Sem Op Lib Jvm.Free Jvm.Stand Jvm.Pilot.@@N@@.Jvm.D
/-! MADE BY PROGRAM (witnessworld.py) out of the Statement's table words and the real class files: 9 classes; the members and pool entries that the words name. The judged class is class 1, her method 1. -/
namespace start1
open Jvm.ClassFile
def u (s : String) : CpInfo := .utf8 (stringToUtf16 s)
/-- a pool by its gaps: so many unusable entries, then the entry; so many at the end -/
def gap : Nat → List CpInfo → List CpInfo
  | 0, r => r
  | n + 1, r => .unusable :: gap n r
def poolList (es : List (Nat × CpInfo)) (last : Nat) : List CpInfo := es.foldr (fun e r => gap e.1 (e.2 :: r)) (gap last [])
def pool (es : List (Nat × CpInfo)) (last : Nat) : Array CpInfo := ⟨poolList es last⟩
def fileOf (pool : Array CpInfo) (this : Nat) (attrs : Array Attribute := #[]) (ms : Array MethodInfo := #[]) (fl : Nat := 33) (sup : Nat := 0) (ifs : Array Nat := #[]) (fds : Array FieldInfo := #[]) : ClassFile where
  minorVersion := 0
  majorVersion := 65
  constantPool := pool
  accessFlags := fl
  thisClass := this
  superClass := sup
  interfaces := ifs
  fields := fds
  methods := ms
  attributes := attrs
def plain (name : String) (sup : Option ClassId) : Class where
  name := name
  kind := .ordinary
  loader := none
  accessFlags := 33
  super := sup
  interfaces := #[]
  cf := none
  fields := #[]
  methods := #[]
  instanceTypes := #[]
  staticTypes := #[]
  resolved := #[]
  callSites := []
  init := .initialized
  statics := none
  mirror := none

def pool0 : Array CpInfo := pool [(5, u "<init>"), (0, u "()V"), (1, .class_ 10), (1, u "java/lang/Object")] 113

def k0c0 : Code := { maxStack := 0, maxLocals := 1, code := object_method_1_code, exceptionTable := #[], attributes := #[] }
def k0m0 : Method := { name := "<init>", desc := "()V", sig := { parameters := [], returnType := none }, accessFlags := 1, code := some k0c0 }
/-- java/lang/Object -/
def k0 : Class := { plain "java/lang/Object" none with
  accessFlags := 33
  interfaces := #[]
  cf := some (fileOf pool0 8 #[] #[{ accessFlags := 1, nameIndex := 5, descriptorIndex := 6, attributes := #[] }] 33 0 #[] #[])
  fields := #[]
  methods := #[k0m0]
  instanceTypes := #[]
  staticTypes := #[]
  resolved := Array.replicate 124 none
  statics := none }

def pool1 : Array CpInfo := pool [(2, .class_ 4), (0, .nameAndType 5 6), (0, u "java/lang/Object"), (0, u "<init>"), (0, u "()V"), (0, .class_ 8), (0, u "com/example/hydrate_captions/hydratecaptions/ChunkedInts"), (0, .methodref 7 3), (0, .methodref 7 11), (0, .nameAndType 12 13), (0, u "add"), (0, u "(I)V"), (0, .methodref 7 15), (0, .nameAndType 16 17), (0, u "get"), (0, u "(J)I"), (0, .long 2), (1, .long 3), (1, .class_ 23), (0, u "com/example/hydrate_captions/hydratecaptions/ChunkedIntsGetPinLaw"), (2, u "law"), (0, u "(IIII)Z")] 3

def k1m0 : Method := { name := "<init>", desc := "()V", sig := { parameters := [], returnType := none }, accessFlags := 1, code := none }
def k1c1 : Code := { maxStack := 3, maxLocals := 9, code := code, exceptionTable := #[], attributes := #[] }
def k1m1 : Method := { name := "law", desc := "(IIII)Z", sig := { parameters := [.int, .int, .int, .int], returnType := some .boolean }, accessFlags := 9, code := some k1c1 }
/-- com/example/hydrate_captions/hydratecaptions/ChunkedIntsGetPinLaw -/
def k1 : Class := { plain "com/example/hydrate_captions/hydratecaptions/ChunkedIntsGetPinLaw" (some 0) with
  accessFlags := 49
  interfaces := #[]
  cf := some (fileOf pool1 22 #[] #[{ accessFlags := 1, nameIndex := 5, descriptorIndex := 6, attributes := #[] }, { accessFlags := 9, nameIndex := 26, descriptorIndex := 27, attributes := #[] }] 49 2 #[] #[])
  fields := #[]
  methods := #[k1m0, k1m1]
  instanceTypes := #[]
  staticTypes := #[]
  resolved := Array.replicate 31 none
  statics := none }

def pool2 : Array CpInfo := pool [(1, .class_ 2), (0, u "com/example/hydrate_captions/hydratecaptions/ChunkedInts"), (0, .methodref 4 5), (0, .class_ 6), (0, .nameAndType 7 8), (0, u "java/lang/Object"), (0, u "<init>"), (0, u "()V"), (0, .class_ 10), (0, u "[I"), (0, .fieldref 1 12), (0, .nameAndType 13 14), (0, u "chunks"), (0, u "[[I"), (0, .fieldref 1 16), (0, .nameAndType 17 18), (0, u "size"), (0, u "J"), (0, .integer 65535), (7, .integer 65536), (0, u "CHUNK_BITS"), (0, u "I"), (2, u "CHUNK_SIZE"), (0, u "IN_CHUNK"), (3, u "get"), (0, u "(J)I"), (0, u "add"), (0, u "(I)V")] 3

def k2c0 : Code := { maxStack := 2, maxLocals := 1, code := prog_5_method_1_code, exceptionTable := #[], attributes := #[] }
def k2m0 : Method := { name := "<init>", desc := "()V", sig := { parameters := [], returnType := none }, accessFlags := 0, code := some k2c0 }
def k2c1 : Code := { maxStack := 4, maxLocals := 3, code := prog_5_method_3_code, exceptionTable := #[], attributes := #[] }
def k2m1 : Method := { name := "get", desc := "(J)I", sig := { parameters := [.long], returnType := some .int }, accessFlags := 0, code := some k2c1 }
def k2c2 : Code := { maxStack := 5, maxLocals := 3, code := prog_5_method_4_code, exceptionTable := #[], attributes := #[] }
def k2m2 : Method := { name := "add", desc := "(I)V", sig := { parameters := [.int], returnType := none }, accessFlags := 0, code := some k2c2 }
/-- com/example/hydrate_captions/hydratecaptions/ChunkedInts -/
def k2 : Class := { plain "com/example/hydrate_captions/hydratecaptions/ChunkedInts" (some 0) with
  accessFlags := 48
  interfaces := #[]
  cf := some (fileOf pool2 1 #[] #[{ accessFlags := 0, nameIndex := 7, descriptorIndex := 8, attributes := #[] }, { accessFlags := 0, nameIndex := 37, descriptorIndex := 38, attributes := #[] }, { accessFlags := 0, nameIndex := 39, descriptorIndex := 40, attributes := #[] }] 48 4 #[] #[{ accessFlags := 26, nameIndex := 28, descriptorIndex := 29, attributes := #[] }, { accessFlags := 26, nameIndex := 32, descriptorIndex := 29, attributes := #[] }, { accessFlags := 26, nameIndex := 33, descriptorIndex := 29, attributes := #[] }, { accessFlags := 2, nameIndex := 13, descriptorIndex := 14, attributes := #[] }, { accessFlags := 2, nameIndex := 17, descriptorIndex := 18, attributes := #[] }])
  fields := #[{ name := "CHUNK_BITS", type := .int, accessFlags := 26, slot := 0, constantValue := 0 }, { name := "CHUNK_SIZE", type := .int, accessFlags := 26, slot := 1, constantValue := 0 }, { name := "IN_CHUNK", type := .int, accessFlags := 26, slot := 2, constantValue := 0 }, { name := "chunks", type := (.array (.array .int)), accessFlags := 2, slot := 0, constantValue := 0 }, { name := "size", type := .long, accessFlags := 2, slot := 1, constantValue := 0 }]
  methods := #[k2m0, k2m1, k2m2]
  instanceTypes := #[(.array (.array .int)), .long]
  staticTypes := #[.int, .int, .int]
  resolved := Array.replicate 44 none
  statics := none }

def pool3 : Array CpInfo := pool [(1, u "java/lang/Cloneable"), (0, .class_ 1), (0, u "java/lang/Object"), (0, .class_ 3)] 3

/-- java/lang/Cloneable -/
def k3 : Class := { plain "java/lang/Cloneable" (some 0) with
  accessFlags := 1537
  interfaces := #[]
  cf := some (fileOf pool3 2 #[] #[] 1537 4 #[] #[])
  fields := #[]
  methods := #[]
  instanceTypes := #[]
  staticTypes := #[]
  resolved := Array.replicate 8 none
  statics := none }

def pool4 : Array CpInfo := pool [(1, u "java/io/Serializable"), (0, .class_ 1), (0, u "java/lang/Object"), (0, .class_ 3)] 3

/-- java/io/Serializable -/
def k4 : Class := { plain "java/io/Serializable" (some 0) with
  accessFlags := 1537
  interfaces := #[]
  cf := some (fileOf pool4 2 #[] #[] 1537 4 #[] #[])
  fields := #[]
  methods := #[]
  instanceTypes := #[]
  staticTypes := #[]
  resolved := Array.replicate 8 none
  statics := none }

/-- the primitive byte -/
def k5 : Class := { plain "byte" none with kind := .primitive 'B', accessFlags := 0x411 }
/-- [B -/
def k6 : Class := { plain "[B" (some 0) with kind := .array 5 .byte, interfaces := #[3, 4], accessFlags := 1041 }

/-- the primitive int -/
def k7 : Class := { plain "int" none with kind := .primitive 'I', accessFlags := 0x411 }
/-- [I -/
def k8 : Class := { plain "[I" (some 0) with kind := .array 7 .int, interfaces := #[3, 4], accessFlags := 1041 }

/-- [[I -/
def k9 : Class := { plain "[[I" (some 0) with kind := .array 8 (.array .int), interfaces := #[3, 4], accessFlags := 1041 }

def heap : Heap := #[]
def classes : Array Class := #[k0, k1, k2, k3, k4, k5, k6, k7, k8, k9]
def interned : List (Array UInt16 × Addr) := []
def slotsUsed : Nat := 0
def theMethod : MethodId := ⟨1, 1⟩
def args0 : Array Value := #[.int 5, .int 6, .int 7, .int 8]
def aboutOver (below : List Frame) : State where
  vm := { classes := classes, interned := interned.toArray }
  heap := heap
  slotsUsed := slotsUsed
  threads := #[{ frames := .invoking theMethod args0 :: below }]
def below0 : List Frame := [.native { method := ⟨0, 0⟩, args := #[] }]
def about1 : State := aboutOver below0
def p0 : Program := .bare "" "" ""
def e0 : Env := launch0.env 0 0 0
theorem w_frames : about1.frames = Frame.invoking theMethod args0 :: below0 := rfl
set_option maxRecDepth 65536 in
theorem w_args : argsFit about1.vm theMethod args0 = true := by decide +kernel
set_option maxRecDepth 65536 in
theorem w_heap : heapFits about1 = true := by decide +kernel
set_option maxRecDepth 65536 in
theorem w_runnable : about1.curStatus? = some .runnable := by decide +kernel
set_option maxRecDepth 65536 in
theorem w_alone : about1.alone = true := by decide +kernel
set_option maxRecDepth 65536 in
theorem w_named : about1.methodNamed? x = some theMethod := by decide +kernel
set_option maxRecDepth 65536 in
theorem w_hears : about1.hears theMethod below0 = true := by decide +kernel
set_option maxRecDepth 65536 in
theorem w_ripe : about1.ripe theMethod args0 below0 = true := by decide +kernel
theorem w_running : about1.status = .running := rfl
set_option maxRecDepth 65536 in
theorem w_room : about1.hasRoom e0.platform room_1 = true :=
  launch0.hasRoom_least _ room_1 (by decide +kernel) (by decide +kernel) (by decide +kernel) (by decide +kernel) (by decide +kernel) (by decide +kernel)
theorem allAtoms_all (ts : List Jvm.Cond) (a : Array Jvm.Value) (st : Jvm.State) : (allAtoms ts).before a st = ts.all (fun c => c.before a st) := by
  induction ts with
  | nil => rfl
  | cons c t ih =>
    show (Jvm.Cond.and c (allAtoms t)).before a st = _
    rw [Jvm.Cond.before_and, ih, List.all_cons]
def words1 : List Jvm.Cond := Jvm.Cond.code x code maxLocals ret :: tables_1
/-- a 'code' word, met by the world's own term for the bytes: nothing is compared byte by byte -/
theorem code_word {y : MethodName} {bytes : ByteArray} {mx : Nat} {rt : Option FieldType} {a : Array Value} {s : State} {m : MethodId} {meth : Method} {c : Code} (h1 : s.methodNamed? y = some m) (h2 : s.vm.method? m = some meth) (h3 : meth.code = some c) (h4 : c.code = bytes)
    (h5 : (c.maxLocals == mx && c.exceptionTable.isEmpty && decide (c.maxStack ≤ mostOperands) && decide (meth.sig.returnType = rt) && !meth.locks && decide (parseMethodDescriptor y.desc = some meth.sig)) = true) : (Jvm.Cond.code y bytes mx rt).before a s = true := by
  simp only [Bool.and_eq_true, beq_iff_eq, Bool.not_eq_true', decide_eq_true_eq] at h5
  obtain ⟨⟨⟨⟨⟨g1, g2⟩, g3⟩, g4⟩, g5⟩, g6⟩ := h5
  simp [Cond.before, Cond.holds, Cond.value, h1, h2, h3, h4, g1, g2, g3, g4, g5, g6]
def isCode : Jvm.Cond → Bool
  | .code _ _ _ _ => true
  | _ => false
theorem all_split {L : List Jvm.Cond} {P : Jvm.Cond → Bool} (h1 : L.all (fun c => isCode c || P c) = true) (h2 : ∀ c ∈ L.filter isCode, P c = true) : L.all P = true := by
  refine List.all_eq_true.mpr fun c hc => ?_
  have h := List.all_eq_true.mp h1 c hc
  rcases Bool.eq_false_or_eq_true (isCode c) with hi | hi
  · exact h2 c (List.mem_filter.mpr ⟨hc, hi⟩)
  · simpa [hi] using h
set_option maxRecDepth 65536 in
theorem w_c0 : (Jvm.Cond.code x code maxLocals ret).before args0 about1 = true := code_word (m := ⟨1, 1⟩) (meth := k1m1) (c := k1c1) (by decide +kernel) rfl rfl rfl (by decide +kernel)
set_option maxRecDepth 65536 in
theorem w_c1 : (Jvm.Cond.code ({ cls := "com/example/hydrate_captions/hydratecaptions/ChunkedInts", name := "<init>", desc := "()V" } : Jvm.MethodName) prog_5_method_1_code (1 : Nat) (Option.none : Option Jvm.ClassFile.FieldType)).before args0 about1 = true := code_word (m := ⟨2, 0⟩) (meth := k2m0) (c := k2c0) (by decide +kernel) rfl rfl rfl (by decide +kernel)
set_option maxRecDepth 65536 in
theorem w_c2 : (Jvm.Cond.code ({ cls := "java/lang/Object", name := "<init>", desc := "()V" } : Jvm.MethodName) object_method_1_code (1 : Nat) (Option.none : Option Jvm.ClassFile.FieldType)).before args0 about1 = true := code_word (m := ⟨0, 0⟩) (meth := k0m0) (c := k0c0) (by decide +kernel) rfl rfl rfl (by decide +kernel)
set_option maxRecDepth 65536 in
theorem w_c3 : (Jvm.Cond.code ({ cls := "com/example/hydrate_captions/hydratecaptions/ChunkedInts", name := "add", desc := "(I)V" } : Jvm.MethodName) prog_5_method_4_code (3 : Nat) (Option.none : Option Jvm.ClassFile.FieldType)).before args0 about1 = true := code_word (m := ⟨2, 2⟩) (meth := k2m2) (c := k2c2) (by decide +kernel) rfl rfl rfl (by decide +kernel)
set_option maxRecDepth 65536 in
theorem w_c4 : (Jvm.Cond.code ({ cls := "com/example/hydrate_captions/hydratecaptions/ChunkedInts", name := "get", desc := "(J)I" } : Jvm.MethodName) prog_5_method_3_code (3 : Nat) (Option.some Jvm.ClassFile.FieldType.int)).before args0 about1 = true := code_word (m := ⟨2, 1⟩) (meth := k2m1) (c := k2c1) (by decide +kernel) rfl rfl rfl (by decide +kernel)
def codes1 : List Jvm.Cond := [Jvm.Cond.code x code maxLocals ret, Jvm.Cond.code ({ cls := "com/example/hydrate_captions/hydratecaptions/ChunkedInts", name := "<init>", desc := "()V" } : Jvm.MethodName) prog_5_method_1_code (1 : Nat) (Option.none : Option Jvm.ClassFile.FieldType), Jvm.Cond.code ({ cls := "java/lang/Object", name := "<init>", desc := "()V" } : Jvm.MethodName) object_method_1_code (1 : Nat) (Option.none : Option Jvm.ClassFile.FieldType), Jvm.Cond.code ({ cls := "com/example/hydrate_captions/hydratecaptions/ChunkedInts", name := "add", desc := "(I)V" } : Jvm.MethodName) prog_5_method_4_code (3 : Nat) (Option.none : Option Jvm.ClassFile.FieldType), Jvm.Cond.code ({ cls := "com/example/hydrate_captions/hydratecaptions/ChunkedInts", name := "get", desc := "(J)I" } : Jvm.MethodName) prog_5_method_3_code (3 : Nat) (Option.some Jvm.ClassFile.FieldType.int)]
set_option maxRecDepth 65536 in
theorem codes_eq : words1.filter isCode = codes1 := rfl
theorem w_codes : ∀ c ∈ words1.filter isCode, c.before args0 about1 = true := by
  rw [codes_eq]
  intro c hc
  simp only [codes1, List.mem_cons, List.not_mem_nil, or_false] at hc
  rcases hc with rfl | rfl | rfl | rfl | rfl
  · exact w_c0
  · exact w_c1
  · exact w_c2
  · exact w_c3
  · exact w_c4
set_option maxRecDepth 65536 in
theorem w_t1 : (words1.take 24).all (fun c => isCode c || c.before args0 about1) = true := by decide +kernel
set_option maxRecDepth 65536 in
theorem w_t2 : (words1.drop 24).all (fun c => isCode c || c.before args0 about1) = true := by decide +kernel
theorem w_tables : (allAtoms (Jvm.Cond.code x code maxLocals ret :: tables_1)).before args0 about1 = true := by
  rw [allAtoms_all]
  show words1.all (fun c => c.before args0 about1) = true
  refine all_split ?_ w_codes
  rw [← List.take_append_drop 24 words1, List.all_append, w_t1, w_t2]
  rfl
set_option maxRecDepth 65536 in
theorem w_case : (Jvm.Cond.and given_1 narrow_1).before args0 about1 = true := by decide +kernel
theorem w_applies : (headSpec (Jvm.Cond.code x code maxLocals ret :: tables_1) room_1).applies x e0.platform about1 = true :=
  (Spec.applies_iff w_frames).mpr ⟨w_running, w_runnable, w_alone, w_named, w_hears, w_ripe, w_room, w_tables⟩
theorem atStart : AtStart classFile x code maxLocals ret World_1 tables_1 room_1 Calls_1 rest_1 Pre_1 launch0 p0 e0 about1 theMethod args0 below0 :=
  ⟨lists_1, trivial, launch0.admits_env _ _ _, launch0.least_env, fairChoices_fair.cas, fairChoices_fair.clock, w_frames, w_args, w_heap, w_applies, trivial, trivial, w_case⟩
end start1
theorem witness_1 : WitnessClaimed_1 := ⟨start1.p0, start1.e0, start1.about1, start1.theMethod, start1.args0, start1.below0, start1.atStart⟩
end Jvm.Pilot.@@N@@
