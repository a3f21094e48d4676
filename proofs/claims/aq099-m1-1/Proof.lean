import JvmDerived
import JvmDerived.Pilot.@@N@@Statement
import JvmDerived.Pilot.@@N@@Code
set_option linter.unusedVariables false
set_option linter.unusedSimpArgs false
namespace Jvm.RoadKit
open Sem ClassFile Op Lib Jvm.Stand Jvm.Free Jvm.LawKit
section New
variable {p : Program} {l : Launch} {e : Env} {R : Room} {s : State} {m : MethodId} {args : Array Value} {below : List Frame} {meth : Method} {c : Code} {T : State} {locs : List Loc} {cells slots : Nat}
theorem retI (X : Stand p l e R s m args below meth c T locs cells slots) (hx : p.tables.exec = Jvm.exec) {pc : Nat} {Ls : Array Slot} {z : Int32} {rest : List Value} (hret : meth.sig.returnType = some .int) (hd : decode c.code pc = .ok (.ireturn, 1)) {fs : List Frame}
    (hl : ∀ (f : JFrame) (acts : List Action), f.method = m → f.locked = none → f.entered = [] → (doReturn e (T.setTop f) acts (some (.int z))).1 = T.setFrames fs) : Steps p.tables e below (T.setTop (mkF m pc Ls (.int z :: rest))) (T.setFrames fs) := by
  have hm' : T.vm.method? m = some meth := X.method'
  have hn : narrow .int (.int z) = .int z := rfl
  show Steps p.tables e below (T.setTop { method := m, pc := pc, locals := Ls, stack := _ :: rest, locked := none }) _
  jvm_step X.here [X.here.top, hx, hd, hm', hret, hn]
  first | (intro acts; rw [hl _ acts rfl rfl rfl]) | rw [hl _ _ rfl rfl rfl]
  exact Steps.refl _
end New
end Jvm.RoadKit
namespace Jvm.Pilot.@@N@@
open Jvm Jvm.ClassFile Sem Op Lib Jvm.Free Jvm.Stand Jvm.LawKit Jvm.RoadKit Bundle Jvm.Pilot.@@N@@.Jvm.D
theorem own_lc {x y : Int64} (h : x = y) : lcmpW x y = (0 : Int32) := (lw_eq x y).mpr h
def own_g (w : Int64) : Int32 := if (0 : Int32) < (lcmpW w (0 : Int64)) then 1 else 0
def Q11 (Z : State) (r : Int32) (h0 : Heap) (n0 : Nat) (v : Option Value) (h : Heap) (L : List Loc) : Prop := v = some (.int r) ∧ Fr n0 L ∧ h = h0
theorem d3_0 : decode jdk_30_method_1_code 0 = .ok (.aload_n 0, 1) := by decide +kernel
theorem d3_1 : decode jdk_30_method_1_code 1 = .ok (.invokespecial 1, 3) := by decide +kernel
theorem d3_4 : decode jdk_30_method_1_code 4 = .ok (.return_, 1) := by decide +kernel
theorem pn_3 : plainName "java/lang/Record" = true := by first | (simp [plainName, overriddenIn]; done) | decide +kernel
theorem ef_3 (m : MethodId) (x0 : Addr) : entryFrame m #[(.ref x0)] 1 = mkF m 0 #[.val (.ref x0)] [] := by first | (simp [entryFrame, mkF, argsToLocals, Value.category]; done) | rfl
def Q3 (Z : State) (a1 : Addr) (h0 : Heap) (n0 : Nat) (v : Option Value) (h : Heap) (L : List Loc) : Prop := v = none ∧ Fr n0 L ∧ h = h0
set_option maxRecDepth 65536 in
set_option maxHeartbeats 40000000 in
theorem rm3 (l : Launch) (Z : State) (a0 : Array Value) (hw : ∀ d ∈ tables_1, d.before a0 Z = true) (ws : List Jvm.Cond) (a1 : Addr) (h0 : Heap) (n0 : Nat) (Z0 : n0 ≤ h0.size) :
    MetFree l (⟨"java/lang/Record", "<init>", "()V"⟩ : MethodName) (head1 (Jvm.Cond.code (⟨"java/lang/Record", "<init>", "()V"⟩ : MethodName) jdk_30_method_1_code 1 none :: ws) ({ frames := 1, cells := 0, slots := 0, locals := 12 } : Room)) (fun a U => a = #[(.ref a1)] ∧ Z.Warmed39 U.vm ∧ U.heap = h0) (fun _ _ _ _ _ => True) (fun _ U o U' => ∃ v L, o = .returned v ∧ Q3 Z a1 h0 n0 v U'.heap L ∧ FrameEnd U o U' L ({ frames := 1, cells := 0, slots := 0, locals := 12 } : Room).cells ({ frames := 1, cells := 0, slots := 0, locals := 12 } : Room).slots) := by
  refine MetFree.of_bodySF (plainFor_of_name pn_3) hisR ?_
  intro p e s m args below meth c s₁ Bd hml0 hP hK
  obtain ⟨rfl, hZ, hh⟩ := hP
  have hx := Bd.exec
  have hby := Bd.bytes
  have hml : c.maxLocals = 1 := hml0
  have hown : s.vm.findClass "java/lang/Record" = some m.cls := findClass_of_methodNamed Bd.named
  have hnm := (name_of_methodNamed Bd.named Bd.method).1
  have X0 : Stand p l e ({ frames := 1, cells := 0, slots := 0, locals := 12 } : Room) s m #[(.ref a1)] below meth c s₁ [] 0 0 := Stand.of_body Bd
  have e0 : s₁.heap = h0 := by rw [← hh, Bd.state]; rfl
  have N0 := Fr.nil n0
  have pre0 : ∀ t, Steps p.tables e below (s₁.setTop (mkF m 0 #[.val (.ref a1)] [])) t → Steps p.tables e below (s₁.setTop (entryFrame m #[(.ref a1)] 1)) t := fun t k => castTop (ef_3 m a1) k
  obtain ⟨T2, X2, e2, st2⟩ := initO X0 hx hZ hown (hw _ (List.mem_of_getElem? (i := 14) rfl)) (hw _ (List.mem_of_getElem? (i := 15) rfl)) (hw _ (List.mem_of_getElem? (i := 16) rfl)) e0 (g := (mkF m 1 #[.val (.ref a1)] [(.ref a1)])) rfl (by rw [hml]; rfl) rfl (hb hby d3_1) (by decide) (W := 0) (by show 2 * 0 + _ ≤ _; exact Nat.le_of_eq rfl) (by decide)
  obtain ⟨fs, hr, hrun, hended, hW, hsame⟩ := X2.leave (v := none) (fun _ => rfl)
  refine ⟨_, _, pre0 _ ?_, hrun, hended, _, _, rfl, ?_, ⟨_, rfl⟩, hW, hsame.mono (by decide) (by decide)⟩
  · show Steps p.tables e below (s₁.setTop (mkF m 0 #[.val (.ref a1)] [])) _
    refine XS.aloadN X0.here hx rfl (hb hby d3_0) rfl rfl ?_
    show Steps p.tables e below (s₁.setTop (mkF m 1 #[.val (.ref a1)] [(.ref a1)])) _
    refine st2 _ ?_
    show Steps p.tables e below (T2.setTop (mkF m 4 #[.val (.ref a1)] [])) _
    exact X2.returnOut hx Bd.returns (hb hby d3_4) hr
  · show Q3 Z a1 h0 n0 _ T2.heap _
    rw [e2]
    exact ⟨rfl, N0, rfl⟩
theorem d2_0 : decode prog_1_method_1_code 0 = .ok (.aload_n 0, 1) := by decide +kernel
theorem d2_1 : decode prog_1_method_1_code 1 = .ok (.invokespecial 1, 3) := by decide +kernel
theorem d2_4 : decode prog_1_method_1_code 4 = .ok (.aload_n 0, 1) := by decide +kernel
theorem d2_5 : decode prog_1_method_1_code 5 = .ok (.lload_n 1, 1) := by decide +kernel
theorem d2_6 : decode prog_1_method_1_code 6 = .ok (.putfield 7, 3) := by decide +kernel
theorem d2_9 : decode prog_1_method_1_code 9 = .ok (.aload_n 0, 1) := by decide +kernel
theorem d2_10 : decode prog_1_method_1_code 10 = .ok (.lload_n 3, 1) := by decide +kernel
theorem d2_11 : decode prog_1_method_1_code 11 = .ok (.putfield 13, 3) := by decide +kernel
theorem d2_14 : decode prog_1_method_1_code 14 = .ok (.aload_n 0, 1) := by decide +kernel
theorem d2_15 : decode prog_1_method_1_code 15 = .ok (.aload 5, 2) := by decide +kernel
theorem d2_17 : decode prog_1_method_1_code 17 = .ok (.putfield 16, 3) := by decide +kernel
theorem d2_20 : decode prog_1_method_1_code 20 = .ok (.aload_n 0, 1) := by decide +kernel
theorem d2_21 : decode prog_1_method_1_code 21 = .ok (.aload 6, 2) := by decide +kernel
theorem d2_23 : decode prog_1_method_1_code 23 = .ok (.putfield 20, 3) := by decide +kernel
theorem d2_26 : decode prog_1_method_1_code 26 = .ok (.aload_n 0, 1) := by decide +kernel
theorem d2_27 : decode prog_1_method_1_code 27 = .ok (.aload 7, 2) := by decide +kernel
theorem d2_29 : decode prog_1_method_1_code 29 = .ok (.putfield 24, 3) := by decide +kernel
theorem d2_32 : decode prog_1_method_1_code 32 = .ok (.aload_n 0, 1) := by decide +kernel
theorem d2_33 : decode prog_1_method_1_code 33 = .ok (.iload 8, 2) := by decide +kernel
theorem d2_35 : decode prog_1_method_1_code 35 = .ok (.putfield 28, 3) := by decide +kernel
theorem d2_38 : decode prog_1_method_1_code 38 = .ok (.return_, 1) := by decide +kernel
theorem pn_2 : plainName "com/example/sole_holder/soleholder/Attempt" = true := by first | (simp [plainName, overriddenIn]; done) | decide +kernel
theorem pd_2_2 : parseMethodDescriptor "()V" = some ⟨[], none⟩ := by decide +kernel
theorem ef_2 (m : MethodId) (x0 : Addr) (x1 : Int64) (x2 : Int64) (x6 : Int32) : entryFrame m #[(.ref x0), (.long x1), (.long x2), .null, .null, .null, (.int x6)] 9 = mkF m 0 #[.val (.ref x0), .val (.long x1), .second, .val (.long x2), .second, .val .null, .val .null, .val .null, .val (.int x6)] [] := by first | (simp [entryFrame, mkF, argsToLocals, Value.category]; done) | rfl
def Q2 (Z : State) (a1 : Addr) (q2 : Int64) (q3 : Int64) (p4 : Int32) (u_takes_a1 : Value) (u_token_a1 : Value) (u_holder_a1 : Value) (u_leaseLeft_a1 : Value) (u_refusal_a1 : Value) (u_queued_a1 : Value) (h0 : Heap) (n0 : Nat) (v : Option Value) (h : Heap) (L : List Loc) : Prop := v = none ∧ Fr n0 L ∧ Keep h0 h [a1] ∧ Exa Z h a1 "com/example/sole_holder/soleholder/Attempt" ∧ Fld Z h a1 "com/example/sole_holder/soleholder/Attempt" "takes" "J" (.long q2) ∧ Fld Z h a1 "com/example/sole_holder/soleholder/Attempt" "token" "J" (.long q3) ∧ Fld Z h a1 "com/example/sole_holder/soleholder/Attempt" "holder" "Ljava/lang/String;" .null ∧ Fld Z h a1 "com/example/sole_holder/soleholder/Attempt" "leaseLeft" "Ljava/time/Duration;" .null ∧ Fld Z h a1 "com/example/sole_holder/soleholder/Attempt" "refusal" "Lcom/example/sole_holder/soleholder/Attempt$Refusal;" .null ∧ Fld Z h a1 "com/example/sole_holder/soleholder/Attempt" "queued" "Z" (.int (nar .boolean p4))
set_option maxRecDepth 65536 in
set_option maxHeartbeats 40000000 in
theorem rm2 (l : Launch) (Z : State) (a0 : Array Value) (hw : ∀ d ∈ tables_1, d.before a0 Z = true) (ws : List Jvm.Cond) (a1 : Addr) (q2 : Int64) (q3 : Int64) (p4 : Int32) (u_takes_a1 : Value) (u_token_a1 : Value) (u_holder_a1 : Value) (u_leaseLeft_a1 : Value) (u_refusal_a1 : Value) (u_queued_a1 : Value) (h0 : Heap) (n0 : Nat) (Z0 : n0 ≤ h0.size) (E_a1 : Exa Z h0 a1 "com/example/sole_holder/soleholder/Attempt") (F_takes_a1 : Fld Z h0 a1 "com/example/sole_holder/soleholder/Attempt" "takes" "J" u_takes_a1) (g_a1 : n0 ≤ a1) (F_token_a1 : Fld Z h0 a1 "com/example/sole_holder/soleholder/Attempt" "token" "J" u_token_a1) (F_holder_a1 : Fld Z h0 a1 "com/example/sole_holder/soleholder/Attempt" "holder" "Ljava/lang/String;" u_holder_a1) (F_leaseLeft_a1 : Fld Z h0 a1 "com/example/sole_holder/soleholder/Attempt" "leaseLeft" "Ljava/time/Duration;" u_leaseLeft_a1) (F_refusal_a1 : Fld Z h0 a1 "com/example/sole_holder/soleholder/Attempt" "refusal" "Lcom/example/sole_holder/soleholder/Attempt$Refusal;" u_refusal_a1) (F_queued_a1 : Fld Z h0 a1 "com/example/sole_holder/soleholder/Attempt" "queued" "Z" u_queued_a1) :
    MetFree l (⟨"com/example/sole_holder/soleholder/Attempt", "<init>", "(JJLjava/lang/String;Ljava/time/Duration;Lcom/example/sole_holder/soleholder/Attempt$Refusal;Z)V"⟩ : MethodName) (head1 (Jvm.Cond.code (⟨"com/example/sole_holder/soleholder/Attempt", "<init>", "(JJLjava/lang/String;Ljava/time/Duration;Lcom/example/sole_holder/soleholder/Attempt$Refusal;Z)V"⟩ : MethodName) prog_1_method_1_code 9 none :: ws) ({ frames := 2, cells := 0, slots := 0, locals := 24 } : Room)) (fun a U => a = #[(.ref a1), (.long q2), (.long q3), .null, .null, .null, (.int p4)] ∧ Z.Warmed39 U.vm ∧ U.heap = h0) (fun _ _ _ _ _ => True) (fun _ U o U' => ∃ v L, o = .returned v ∧ Q2 Z a1 q2 q3 p4 u_takes_a1 u_token_a1 u_holder_a1 u_leaseLeft_a1 u_refusal_a1 u_queued_a1 h0 n0 v U'.heap L ∧ FrameEnd U o U' L ({ frames := 2, cells := 0, slots := 0, locals := 24 } : Room).cells ({ frames := 2, cells := 0, slots := 0, locals := 24 } : Room).slots) := by
  refine MetFree.of_bodySF (plainFor_of_name pn_2) hisR ?_
  intro p e s m args below meth c s₁ Bd hml0 hP hK
  obtain ⟨rfl, hZ, hh⟩ := hP
  have hx := Bd.exec
  have hby := Bd.bytes
  have hml : c.maxLocals = 9 := hml0
  have hown : s.vm.findClass "com/example/sole_holder/soleholder/Attempt" = some m.cls := findClass_of_methodNamed Bd.named
  have hnm := (name_of_methodNamed Bd.named Bd.method).1
  have X0 : Stand p l e ({ frames := 2, cells := 0, slots := 0, locals := 24 } : Room) s m #[(.ref a1), (.long q2), (.long q3), .null, .null, .null, (.int p4)] below meth c s₁ [] 0 0 := Stand.of_body Bd
  have e0 : s₁.heap = h0 := by rw [← hh, Bd.state]; rfl
  have N0 := Fr.nil n0
  have pre0 : ∀ t, Steps p.tables e below (s₁.setTop (mkF m 0 #[.val (.ref a1), .val (.long q2), .second, .val (.long q3), .second, .val .null, .val .null, .val .null, .val (.int p4)] [])) t → Steps p.tables e below (s₁.setTop (entryFrame m #[(.ref a1), (.long q2), (.long q3), .null, .null, .null, (.int p4)] 9)) t := fun t k => castTop (ef_2 m a1 q2 q3 p4) k
  obtain ⟨_, _, ⟨T5, L5, k5, n5⟩, -, X5, ⟨Lc5, hQ5, l5, y5, z5⟩, st5⟩ := X0.specialBack hx (y := (⟨"java/lang/Record", "<init>", "()V"⟩ : MethodName)) rfl hown (mvT hZ (hw _ (List.mem_of_getElem? (i := 9) rfl))) (mvT hZ (hw _ (List.mem_of_getElem? (i := 10) rfl))) (mvT hZ (hw _ (List.mem_of_getElem? (i := 13) rfl))) (by decide) (backOf (W := 0) (rm3 l Z a0 hw [] a1 h0 n0 Z0) hZ (hw _ (List.mem_of_getElem? (i := 13) rfl)) (hw _ (List.mem_of_getElem? (i := 12) rfl)) (by decide) (by decide)) (g := (mkF m 1 #[.val (.ref a1), .val (.long q2), .second, .val (.long q3), .second, .val .null, .val .null, .val .null, .val (.int p4)] [(.ref a1)])) rfl (by rw [hml]; rfl) (Steps.refl _) (a := a1) (argsL := []) (rest := []) (lenOf pd_2_2 rfl) rfl (by show 2 * 0 + _ ≤ _; exact Nat.le_of_eq rfl) (hb hby d2_1) (fun _ _ => ⟨rfl, e0, (by decide : 0 + 0 ≤ _), (by decide : 0 + 0 ≤ _)⟩)
  dsimp only [Pt.U, Pt.locs, Pt.cells, Pt.slots] at X5 l5 y5 z5 st5 hQ5
  subst l5 y5 z5
  obtain ⟨rfl, N5q, e5⟩ := hQ5
  have KC5 : Keep h0 T5.heap [] := by rw [e5]; exact Keep.refl _ _
  have KD5 : Keep h0 T5.heap [a1] := by rw [e5]; exact Keep.refl _ _
  have N5 := Fr.app N0 N5q
  obtain ⟨T6, h6, X6, e6, W6, st6⟩ := putF X5 hx hZ hown (host := "") (Or.inl (hw _ (List.mem_of_getElem? (i := 17) rfl))) Via.refl rfl (F_takes_a1.keep KC5 (by simp)) (E_a1.keep KC5) (Or.inr ⟨(hw _ (List.mem_of_getElem? (i := 18) rfl)), rfl, hnm⟩) (hw _ (List.mem_of_getElem? (i := 5) rfl)) (ty := .long) (by decide) rfl rfl (g := (mkF m 6 #[.val (.ref a1), .val (.long q2), .second, .val (.long q3), .second, .val .null, .val .null, .val .null, .val (.int p4)] [(.long q2), (.ref a1)])) rfl rfl (hb hby d2_6)
  have Fw6 := (F_takes_a1.keep KC5 (by simp)).same W6
  have K6 : Keep h0 h6 [a1] := KD5.wr W6 (Or.inl (List.mem_of_getElem? (i := 0) rfl))
  have N6 := Fr.snoc X6 N5 g_a1
  obtain ⟨T7, h7, X7, e7, W7, st7⟩ := putF X6 hx hZ hown (host := "") (Or.inl (hw _ (List.mem_of_getElem? (i := 19) rfl))) Via.refl e6 ((F_token_a1.keep KC5 (by simp)).other W6 (Or.inr (slot_ne (Or.inr (hw _ (List.mem_of_getElem? (i := 20) rfl))) (Or.inr (hw _ (List.mem_of_getElem? (i := 18) rfl))) (by decide) (t := .long) (t' := .long) (by decide) (by decide)))) ((E_a1.keep KC5).wr W6) (Or.inr ⟨(hw _ (List.mem_of_getElem? (i := 20) rfl)), rfl, hnm⟩) (hw _ (List.mem_of_getElem? (i := 5) rfl)) (ty := .long) (by decide) rfl rfl (g := (mkF m 11 #[.val (.ref a1), .val (.long q2), .second, .val (.long q3), .second, .val .null, .val .null, .val .null, .val (.int p4)] [(.long q3), (.ref a1)])) rfl rfl (hb hby d2_11)
  have Fw7 := ((F_token_a1.keep KC5 (by simp)).other W6 (Or.inr (slot_ne (Or.inr (hw _ (List.mem_of_getElem? (i := 20) rfl))) (Or.inr (hw _ (List.mem_of_getElem? (i := 18) rfl))) (by decide) (t := .long) (t' := .long) (by decide) (by decide)))).same W7
  have K7 : Keep h0 h7 [a1] := K6.wr W7 (Or.inl (List.mem_of_getElem? (i := 0) rfl))
  have N7 := Fr.snoc X7 N6 g_a1
  obtain ⟨T8, h8, X8, e8, W8, st8⟩ := putF X7 hx hZ hown (host := "") (Or.inl (hw _ (List.mem_of_getElem? (i := 21) rfl))) Via.refl e7 (((F_holder_a1.keep KC5 (by simp)).other W6 (Or.inr (slot_ne (Or.inr (hw _ (List.mem_of_getElem? (i := 22) rfl))) (Or.inr (hw _ (List.mem_of_getElem? (i := 18) rfl))) (by decide) (t := (.object "java/lang/String")) (t' := .long) (by decide) (by decide)))).other W7 (Or.inr (slot_ne (Or.inr (hw _ (List.mem_of_getElem? (i := 22) rfl))) (Or.inr (hw _ (List.mem_of_getElem? (i := 20) rfl))) (by decide) (t := (.object "java/lang/String")) (t' := .long) (by decide) (by decide)))) (((E_a1.keep KC5).wr W6).wr W7) (Or.inr ⟨(hw _ (List.mem_of_getElem? (i := 22) rfl)), rfl, hnm⟩) (hw _ (List.mem_of_getElem? (i := 5) rfl)) (ty := (.object "java/lang/String")) (by decide) rfl rfl (g := (mkF m 17 #[.val (.ref a1), .val (.long q2), .second, .val (.long q3), .second, .val .null, .val .null, .val .null, .val (.int p4)] [.null, (.ref a1)])) rfl rfl (hb hby d2_17)
  have Fw8 := (((F_holder_a1.keep KC5 (by simp)).other W6 (Or.inr (slot_ne (Or.inr (hw _ (List.mem_of_getElem? (i := 22) rfl))) (Or.inr (hw _ (List.mem_of_getElem? (i := 18) rfl))) (by decide) (t := (.object "java/lang/String")) (t' := .long) (by decide) (by decide)))).other W7 (Or.inr (slot_ne (Or.inr (hw _ (List.mem_of_getElem? (i := 22) rfl))) (Or.inr (hw _ (List.mem_of_getElem? (i := 20) rfl))) (by decide) (t := (.object "java/lang/String")) (t' := .long) (by decide) (by decide)))).same W8
  have K8 : Keep h0 h8 [a1] := K7.wr W8 (Or.inl (List.mem_of_getElem? (i := 0) rfl))
  have N8 := Fr.snoc X8 N7 g_a1
  obtain ⟨T9, h9, X9, e9, W9, st9⟩ := putF X8 hx hZ hown (host := "") (Or.inl (hw _ (List.mem_of_getElem? (i := 23) rfl))) Via.refl e8 ((((F_leaseLeft_a1.keep KC5 (by simp)).other W6 (Or.inr (slot_ne (Or.inr (hw _ (List.mem_of_getElem? (i := 24) rfl))) (Or.inr (hw _ (List.mem_of_getElem? (i := 18) rfl))) (by decide) (t := (.object "java/time/Duration")) (t' := .long) (by decide) (by decide)))).other W7 (Or.inr (slot_ne (Or.inr (hw _ (List.mem_of_getElem? (i := 24) rfl))) (Or.inr (hw _ (List.mem_of_getElem? (i := 20) rfl))) (by decide) (t := (.object "java/time/Duration")) (t' := .long) (by decide) (by decide)))).other W8 (Or.inr (slot_ne (Or.inr (hw _ (List.mem_of_getElem? (i := 24) rfl))) (Or.inr (hw _ (List.mem_of_getElem? (i := 22) rfl))) (by decide) (t := (.object "java/time/Duration")) (t' := (.object "java/lang/String")) (by decide) (by decide)))) ((((E_a1.keep KC5).wr W6).wr W7).wr W8) (Or.inr ⟨(hw _ (List.mem_of_getElem? (i := 24) rfl)), rfl, hnm⟩) (hw _ (List.mem_of_getElem? (i := 5) rfl)) (ty := (.object "java/time/Duration")) (by decide) rfl rfl (g := (mkF m 23 #[.val (.ref a1), .val (.long q2), .second, .val (.long q3), .second, .val .null, .val .null, .val .null, .val (.int p4)] [.null, (.ref a1)])) rfl rfl (hb hby d2_23)
  have Fw9 := ((((F_leaseLeft_a1.keep KC5 (by simp)).other W6 (Or.inr (slot_ne (Or.inr (hw _ (List.mem_of_getElem? (i := 24) rfl))) (Or.inr (hw _ (List.mem_of_getElem? (i := 18) rfl))) (by decide) (t := (.object "java/time/Duration")) (t' := .long) (by decide) (by decide)))).other W7 (Or.inr (slot_ne (Or.inr (hw _ (List.mem_of_getElem? (i := 24) rfl))) (Or.inr (hw _ (List.mem_of_getElem? (i := 20) rfl))) (by decide) (t := (.object "java/time/Duration")) (t' := .long) (by decide) (by decide)))).other W8 (Or.inr (slot_ne (Or.inr (hw _ (List.mem_of_getElem? (i := 24) rfl))) (Or.inr (hw _ (List.mem_of_getElem? (i := 22) rfl))) (by decide) (t := (.object "java/time/Duration")) (t' := (.object "java/lang/String")) (by decide) (by decide)))).same W9
  have K9 : Keep h0 h9 [a1] := K8.wr W9 (Or.inl (List.mem_of_getElem? (i := 0) rfl))
  have N9 := Fr.snoc X9 N8 g_a1
  obtain ⟨T10, h10, X10, e10, W10, st10⟩ := putF X9 hx hZ hown (host := "") (Or.inl (hw _ (List.mem_of_getElem? (i := 25) rfl))) Via.refl e9 (((((F_refusal_a1.keep KC5 (by simp)).other W6 (Or.inr (slot_ne (Or.inr (hw _ (List.mem_of_getElem? (i := 26) rfl))) (Or.inr (hw _ (List.mem_of_getElem? (i := 18) rfl))) (by decide) (t := (.object "com/example/sole_holder/soleholder/Attempt$Refusal")) (t' := .long) (by decide) (by decide)))).other W7 (Or.inr (slot_ne (Or.inr (hw _ (List.mem_of_getElem? (i := 26) rfl))) (Or.inr (hw _ (List.mem_of_getElem? (i := 20) rfl))) (by decide) (t := (.object "com/example/sole_holder/soleholder/Attempt$Refusal")) (t' := .long) (by decide) (by decide)))).other W8 (Or.inr (slot_ne (Or.inr (hw _ (List.mem_of_getElem? (i := 26) rfl))) (Or.inr (hw _ (List.mem_of_getElem? (i := 22) rfl))) (by decide) (t := (.object "com/example/sole_holder/soleholder/Attempt$Refusal")) (t' := (.object "java/lang/String")) (by decide) (by decide)))).other W9 (Or.inr (slot_ne (Or.inr (hw _ (List.mem_of_getElem? (i := 26) rfl))) (Or.inr (hw _ (List.mem_of_getElem? (i := 24) rfl))) (by decide) (t := (.object "com/example/sole_holder/soleholder/Attempt$Refusal")) (t' := (.object "java/time/Duration")) (by decide) (by decide)))) (((((E_a1.keep KC5).wr W6).wr W7).wr W8).wr W9) (Or.inr ⟨(hw _ (List.mem_of_getElem? (i := 26) rfl)), rfl, hnm⟩) (hw _ (List.mem_of_getElem? (i := 5) rfl)) (ty := (.object "com/example/sole_holder/soleholder/Attempt$Refusal")) (by decide) rfl rfl (g := (mkF m 29 #[.val (.ref a1), .val (.long q2), .second, .val (.long q3), .second, .val .null, .val .null, .val .null, .val (.int p4)] [.null, (.ref a1)])) rfl rfl (hb hby d2_29)
  have Fw10 := (((((F_refusal_a1.keep KC5 (by simp)).other W6 (Or.inr (slot_ne (Or.inr (hw _ (List.mem_of_getElem? (i := 26) rfl))) (Or.inr (hw _ (List.mem_of_getElem? (i := 18) rfl))) (by decide) (t := (.object "com/example/sole_holder/soleholder/Attempt$Refusal")) (t' := .long) (by decide) (by decide)))).other W7 (Or.inr (slot_ne (Or.inr (hw _ (List.mem_of_getElem? (i := 26) rfl))) (Or.inr (hw _ (List.mem_of_getElem? (i := 20) rfl))) (by decide) (t := (.object "com/example/sole_holder/soleholder/Attempt$Refusal")) (t' := .long) (by decide) (by decide)))).other W8 (Or.inr (slot_ne (Or.inr (hw _ (List.mem_of_getElem? (i := 26) rfl))) (Or.inr (hw _ (List.mem_of_getElem? (i := 22) rfl))) (by decide) (t := (.object "com/example/sole_holder/soleholder/Attempt$Refusal")) (t' := (.object "java/lang/String")) (by decide) (by decide)))).other W9 (Or.inr (slot_ne (Or.inr (hw _ (List.mem_of_getElem? (i := 26) rfl))) (Or.inr (hw _ (List.mem_of_getElem? (i := 24) rfl))) (by decide) (t := (.object "com/example/sole_holder/soleholder/Attempt$Refusal")) (t' := (.object "java/time/Duration")) (by decide) (by decide)))).same W10
  have K10 : Keep h0 h10 [a1] := K9.wr W10 (Or.inl (List.mem_of_getElem? (i := 0) rfl))
  have N10 := Fr.snoc X10 N9 g_a1
  obtain ⟨T11, h11, X11, e11, W11, st11⟩ := putFN X10 hx hZ hown (hw _ (List.mem_of_getElem? (i := 27) rfl)) Via.refl e10 ((((((F_queued_a1.keep KC5 (by simp)).other W6 (Or.inr (slot_ne (Or.inr (hw _ (List.mem_of_getElem? (i := 28) rfl))) (Or.inr (hw _ (List.mem_of_getElem? (i := 18) rfl))) (by decide) (t := .boolean) (t' := .long) (by decide) (by decide)))).other W7 (Or.inr (slot_ne (Or.inr (hw _ (List.mem_of_getElem? (i := 28) rfl))) (Or.inr (hw _ (List.mem_of_getElem? (i := 20) rfl))) (by decide) (t := .boolean) (t' := .long) (by decide) (by decide)))).other W8 (Or.inr (slot_ne (Or.inr (hw _ (List.mem_of_getElem? (i := 28) rfl))) (Or.inr (hw _ (List.mem_of_getElem? (i := 22) rfl))) (by decide) (t := .boolean) (t' := (.object "java/lang/String")) (by decide) (by decide)))).other W9 (Or.inr (slot_ne (Or.inr (hw _ (List.mem_of_getElem? (i := 28) rfl))) (Or.inr (hw _ (List.mem_of_getElem? (i := 24) rfl))) (by decide) (t := .boolean) (t' := (.object "java/time/Duration")) (by decide) (by decide)))).other W10 (Or.inr (slot_ne (Or.inr (hw _ (List.mem_of_getElem? (i := 28) rfl))) (Or.inr (hw _ (List.mem_of_getElem? (i := 26) rfl))) (by decide) (t := .boolean) (t' := (.object "com/example/sole_holder/soleholder/Attempt$Refusal")) (by decide) (by decide)))) ((((((E_a1.keep KC5).wr W6).wr W7).wr W8).wr W9).wr W10) (Or.inr ⟨(hw _ (List.mem_of_getElem? (i := 28) rfl)), rfl, hnm⟩) (hw _ (List.mem_of_getElem? (i := 5) rfl)) (ty := .boolean) (v' := (.int (nar .boolean p4))) (by decide) rfl (fits_nar_bool _) (g := (mkF m 35 #[.val (.ref a1), .val (.long q2), .second, .val (.long q3), .second, .val .null, .val .null, .val .null, .val (.int p4)] [(.int p4), (.ref a1)])) rfl rfl (hb hby d2_35)
  have Fw11 := ((((((F_queued_a1.keep KC5 (by simp)).other W6 (Or.inr (slot_ne (Or.inr (hw _ (List.mem_of_getElem? (i := 28) rfl))) (Or.inr (hw _ (List.mem_of_getElem? (i := 18) rfl))) (by decide) (t := .boolean) (t' := .long) (by decide) (by decide)))).other W7 (Or.inr (slot_ne (Or.inr (hw _ (List.mem_of_getElem? (i := 28) rfl))) (Or.inr (hw _ (List.mem_of_getElem? (i := 20) rfl))) (by decide) (t := .boolean) (t' := .long) (by decide) (by decide)))).other W8 (Or.inr (slot_ne (Or.inr (hw _ (List.mem_of_getElem? (i := 28) rfl))) (Or.inr (hw _ (List.mem_of_getElem? (i := 22) rfl))) (by decide) (t := .boolean) (t' := (.object "java/lang/String")) (by decide) (by decide)))).other W9 (Or.inr (slot_ne (Or.inr (hw _ (List.mem_of_getElem? (i := 28) rfl))) (Or.inr (hw _ (List.mem_of_getElem? (i := 24) rfl))) (by decide) (t := .boolean) (t' := (.object "java/time/Duration")) (by decide) (by decide)))).other W10 (Or.inr (slot_ne (Or.inr (hw _ (List.mem_of_getElem? (i := 28) rfl))) (Or.inr (hw _ (List.mem_of_getElem? (i := 26) rfl))) (by decide) (t := .boolean) (t' := (.object "com/example/sole_holder/soleholder/Attempt$Refusal")) (by decide) (by decide)))).same W11
  have K11 : Keep h0 h11 [a1] := K10.wr W11 (Or.inl (List.mem_of_getElem? (i := 0) rfl))
  have N11 := Fr.snoc X11 N10 g_a1
  have V0 : Fld Z h11 a1 "com/example/sole_holder/soleholder/Attempt" "takes" "J" (.long q2) := (((((Fw6.other W7 (Or.inr (slot_ne (Or.inr (hw _ (List.mem_of_getElem? (i := 18) rfl))) (Or.inr (hw _ (List.mem_of_getElem? (i := 20) rfl))) (by decide) (t := .long) (t' := .long) (by decide) (by decide)))).other W8 (Or.inr (slot_ne (Or.inr (hw _ (List.mem_of_getElem? (i := 18) rfl))) (Or.inr (hw _ (List.mem_of_getElem? (i := 22) rfl))) (by decide) (t := .long) (t' := (.object "java/lang/String")) (by decide) (by decide)))).other W9 (Or.inr (slot_ne (Or.inr (hw _ (List.mem_of_getElem? (i := 18) rfl))) (Or.inr (hw _ (List.mem_of_getElem? (i := 24) rfl))) (by decide) (t := .long) (t' := (.object "java/time/Duration")) (by decide) (by decide)))).other W10 (Or.inr (slot_ne (Or.inr (hw _ (List.mem_of_getElem? (i := 18) rfl))) (Or.inr (hw _ (List.mem_of_getElem? (i := 26) rfl))) (by decide) (t := .long) (t' := (.object "com/example/sole_holder/soleholder/Attempt$Refusal")) (by decide) (by decide)))).other W11 (Or.inr (slot_ne (Or.inr (hw _ (List.mem_of_getElem? (i := 18) rfl))) (Or.inr (hw _ (List.mem_of_getElem? (i := 28) rfl))) (by decide) (t := .long) (t' := .boolean) (by decide) (by decide))))
  have V1 : Fld Z h11 a1 "com/example/sole_holder/soleholder/Attempt" "token" "J" (.long q3) := ((((Fw7.other W8 (Or.inr (slot_ne (Or.inr (hw _ (List.mem_of_getElem? (i := 20) rfl))) (Or.inr (hw _ (List.mem_of_getElem? (i := 22) rfl))) (by decide) (t := .long) (t' := (.object "java/lang/String")) (by decide) (by decide)))).other W9 (Or.inr (slot_ne (Or.inr (hw _ (List.mem_of_getElem? (i := 20) rfl))) (Or.inr (hw _ (List.mem_of_getElem? (i := 24) rfl))) (by decide) (t := .long) (t' := (.object "java/time/Duration")) (by decide) (by decide)))).other W10 (Or.inr (slot_ne (Or.inr (hw _ (List.mem_of_getElem? (i := 20) rfl))) (Or.inr (hw _ (List.mem_of_getElem? (i := 26) rfl))) (by decide) (t := .long) (t' := (.object "com/example/sole_holder/soleholder/Attempt$Refusal")) (by decide) (by decide)))).other W11 (Or.inr (slot_ne (Or.inr (hw _ (List.mem_of_getElem? (i := 20) rfl))) (Or.inr (hw _ (List.mem_of_getElem? (i := 28) rfl))) (by decide) (t := .long) (t' := .boolean) (by decide) (by decide))))
  have V2 : Fld Z h11 a1 "com/example/sole_holder/soleholder/Attempt" "holder" "Ljava/lang/String;" .null := (((Fw8.other W9 (Or.inr (slot_ne (Or.inr (hw _ (List.mem_of_getElem? (i := 22) rfl))) (Or.inr (hw _ (List.mem_of_getElem? (i := 24) rfl))) (by decide) (t := (.object "java/lang/String")) (t' := (.object "java/time/Duration")) (by decide) (by decide)))).other W10 (Or.inr (slot_ne (Or.inr (hw _ (List.mem_of_getElem? (i := 22) rfl))) (Or.inr (hw _ (List.mem_of_getElem? (i := 26) rfl))) (by decide) (t := (.object "java/lang/String")) (t' := (.object "com/example/sole_holder/soleholder/Attempt$Refusal")) (by decide) (by decide)))).other W11 (Or.inr (slot_ne (Or.inr (hw _ (List.mem_of_getElem? (i := 22) rfl))) (Or.inr (hw _ (List.mem_of_getElem? (i := 28) rfl))) (by decide) (t := (.object "java/lang/String")) (t' := .boolean) (by decide) (by decide))))
  have V3 : Fld Z h11 a1 "com/example/sole_holder/soleholder/Attempt" "leaseLeft" "Ljava/time/Duration;" .null := ((Fw9.other W10 (Or.inr (slot_ne (Or.inr (hw _ (List.mem_of_getElem? (i := 24) rfl))) (Or.inr (hw _ (List.mem_of_getElem? (i := 26) rfl))) (by decide) (t := (.object "java/time/Duration")) (t' := (.object "com/example/sole_holder/soleholder/Attempt$Refusal")) (by decide) (by decide)))).other W11 (Or.inr (slot_ne (Or.inr (hw _ (List.mem_of_getElem? (i := 24) rfl))) (Or.inr (hw _ (List.mem_of_getElem? (i := 28) rfl))) (by decide) (t := (.object "java/time/Duration")) (t' := .boolean) (by decide) (by decide))))
  have V4 : Fld Z h11 a1 "com/example/sole_holder/soleholder/Attempt" "refusal" "Lcom/example/sole_holder/soleholder/Attempt$Refusal;" .null := (Fw10.other W11 (Or.inr (slot_ne (Or.inr (hw _ (List.mem_of_getElem? (i := 26) rfl))) (Or.inr (hw _ (List.mem_of_getElem? (i := 28) rfl))) (by decide) (t := (.object "com/example/sole_holder/soleholder/Attempt$Refusal")) (t' := .boolean) (by decide) (by decide))))
  have V5 : Fld Z h11 a1 "com/example/sole_holder/soleholder/Attempt" "queued" "Z" (.int (nar .boolean p4)) := Fw11
  have VE : Exa Z h11 a1 "com/example/sole_holder/soleholder/Attempt" := ((((((E_a1.keep KC5).wr W6).wr W7).wr W8).wr W9).wr W10).wr W11
  obtain ⟨fs, hr, hrun, hended, hW, hsame⟩ := X11.leave (v := none) (fun _ => rfl)
  refine ⟨_, _, pre0 _ ?_, hrun, hended, _, _, rfl, ?_, ⟨_, rfl⟩, hW, hsame.mono (by decide) (by decide)⟩
  · show Steps p.tables e below (s₁.setTop (mkF m 0 #[.val (.ref a1), .val (.long q2), .second, .val (.long q3), .second, .val .null, .val .null, .val .null, .val (.int p4)] [])) _
    refine XS.aloadN X0.here hx rfl (hb hby d2_0) rfl rfl ?_
    show Steps p.tables e below (s₁.setTop (mkF m 1 #[.val (.ref a1), .val (.long q2), .second, .val (.long q3), .second, .val .null, .val .null, .val .null, .val (.int p4)] [(.ref a1)])) _
    refine st5.trans ?_
    show Steps p.tables e below (T5.setTop (mkF m 4 #[.val (.ref a1), .val (.long q2), .second, .val (.long q3), .second, .val .null, .val .null, .val .null, .val (.int p4)] [])) _
    refine XS.aloadN X5.here hx rfl (hb hby d2_4) rfl rfl ?_
    show Steps p.tables e below (T5.setTop (mkF m 5 #[.val (.ref a1), .val (.long q2), .second, .val (.long q3), .second, .val .null, .val .null, .val .null, .val (.int p4)] [(.ref a1)])) _
    refine XS.lloadN X5.here hx rfl (hb hby d2_5) rfl ?_
    show Steps p.tables e below (T5.setTop (mkF m 6 #[.val (.ref a1), .val (.long q2), .second, .val (.long q3), .second, .val .null, .val .null, .val .null, .val (.int p4)] [(.long q2), (.ref a1)])) _
    refine st6 _ ?_
    show Steps p.tables e below (T6.setTop (mkF m 9 #[.val (.ref a1), .val (.long q2), .second, .val (.long q3), .second, .val .null, .val .null, .val .null, .val (.int p4)] [])) _
    refine XS.aloadN X6.here hx rfl (hb hby d2_9) rfl rfl ?_
    show Steps p.tables e below (T6.setTop (mkF m 10 #[.val (.ref a1), .val (.long q2), .second, .val (.long q3), .second, .val .null, .val .null, .val .null, .val (.int p4)] [(.ref a1)])) _
    refine XS.lloadN X6.here hx rfl (hb hby d2_10) rfl ?_
    show Steps p.tables e below (T6.setTop (mkF m 11 #[.val (.ref a1), .val (.long q2), .second, .val (.long q3), .second, .val .null, .val .null, .val .null, .val (.int p4)] [(.long q3), (.ref a1)])) _
    refine st7 _ ?_
    show Steps p.tables e below (T7.setTop (mkF m 14 #[.val (.ref a1), .val (.long q2), .second, .val (.long q3), .second, .val .null, .val .null, .val .null, .val (.int p4)] [])) _
    refine XS.aloadN X7.here hx rfl (hb hby d2_14) rfl rfl ?_
    show Steps p.tables e below (T7.setTop (mkF m 15 #[.val (.ref a1), .val (.long q2), .second, .val (.long q3), .second, .val .null, .val .null, .val .null, .val (.int p4)] [(.ref a1)])) _
    refine XS.aload X7.here hx rfl (hb hby d2_15) rfl rfl ?_
    show Steps p.tables e below (T7.setTop (mkF m 17 #[.val (.ref a1), .val (.long q2), .second, .val (.long q3), .second, .val .null, .val .null, .val .null, .val (.int p4)] [.null, (.ref a1)])) _
    refine st8 _ ?_
    show Steps p.tables e below (T8.setTop (mkF m 20 #[.val (.ref a1), .val (.long q2), .second, .val (.long q3), .second, .val .null, .val .null, .val .null, .val (.int p4)] [])) _
    refine XS.aloadN X8.here hx rfl (hb hby d2_20) rfl rfl ?_
    show Steps p.tables e below (T8.setTop (mkF m 21 #[.val (.ref a1), .val (.long q2), .second, .val (.long q3), .second, .val .null, .val .null, .val .null, .val (.int p4)] [(.ref a1)])) _
    refine XS.aload X8.here hx rfl (hb hby d2_21) rfl rfl ?_
    show Steps p.tables e below (T8.setTop (mkF m 23 #[.val (.ref a1), .val (.long q2), .second, .val (.long q3), .second, .val .null, .val .null, .val .null, .val (.int p4)] [.null, (.ref a1)])) _
    refine st9 _ ?_
    show Steps p.tables e below (T9.setTop (mkF m 26 #[.val (.ref a1), .val (.long q2), .second, .val (.long q3), .second, .val .null, .val .null, .val .null, .val (.int p4)] [])) _
    refine XS.aloadN X9.here hx rfl (hb hby d2_26) rfl rfl ?_
    show Steps p.tables e below (T9.setTop (mkF m 27 #[.val (.ref a1), .val (.long q2), .second, .val (.long q3), .second, .val .null, .val .null, .val .null, .val (.int p4)] [(.ref a1)])) _
    refine XS.aload X9.here hx rfl (hb hby d2_27) rfl rfl ?_
    show Steps p.tables e below (T9.setTop (mkF m 29 #[.val (.ref a1), .val (.long q2), .second, .val (.long q3), .second, .val .null, .val .null, .val .null, .val (.int p4)] [.null, (.ref a1)])) _
    refine st10 _ ?_
    show Steps p.tables e below (T10.setTop (mkF m 32 #[.val (.ref a1), .val (.long q2), .second, .val (.long q3), .second, .val .null, .val .null, .val .null, .val (.int p4)] [])) _
    refine XS.aloadN X10.here hx rfl (hb hby d2_32) rfl rfl ?_
    show Steps p.tables e below (T10.setTop (mkF m 33 #[.val (.ref a1), .val (.long q2), .second, .val (.long q3), .second, .val .null, .val .null, .val .null, .val (.int p4)] [(.ref a1)])) _
    refine XS.iload X10.here hx rfl (hb hby d2_33) rfl ?_
    show Steps p.tables e below (T10.setTop (mkF m 35 #[.val (.ref a1), .val (.long q2), .second, .val (.long q3), .second, .val .null, .val .null, .val .null, .val (.int p4)] [(.int p4), (.ref a1)])) _
    refine st11 _ ?_
    show Steps p.tables e below (T11.setTop (mkF m 38 #[.val (.ref a1), .val (.long q2), .second, .val (.long q3), .second, .val .null, .val .null, .val .null, .val (.int p4)] [])) _
    exact X11.returnOut hx Bd.returns (hb hby d2_38) hr
  · show Q2 Z a1 q2 q3 p4 u_takes_a1 u_token_a1 u_holder_a1 u_leaseLeft_a1 u_refusal_a1 u_queued_a1 h0 n0 _ T11.heap _
    rw [e11]
    exact ⟨rfl, N11, K11, VE, V0, V1, V2, V3, V4, V5⟩
theorem d1_0 : decode prog_1_method_2_code 0 = .ok (.new 8, 3) := by decide +kernel
theorem d1_3 : decode prog_1_method_2_code 3 = .ok (.dup, 1) := by decide +kernel
theorem d1_4 : decode prog_1_method_2_code 4 = .ok (.lload_n 0, 1) := by decide +kernel
theorem d1_5 : decode prog_1_method_2_code 5 = .ok (.lload_n 2, 1) := by decide +kernel
theorem d1_6 : decode prog_1_method_2_code 6 = .ok (.aconst_null, 1) := by decide +kernel
theorem d1_7 : decode prog_1_method_2_code 7 = .ok (.aconst_null, 1) := by decide +kernel
theorem d1_8 : decode prog_1_method_2_code 8 = .ok (.aconst_null, 1) := by decide +kernel
theorem d1_9 : decode prog_1_method_2_code 9 = .ok (.iconst 0, 1) := by decide +kernel
theorem d1_10 : decode prog_1_method_2_code 10 = .ok (.invokespecial 32, 3) := by decide +kernel
theorem d1_13 : decode prog_1_method_2_code 13 = .ok (.areturn, 1) := by decide +kernel
theorem pn_1 : plainName "com/example/sole_holder/soleholder/Attempt" = true := by first | (simp [plainName, overriddenIn]; done) | decide +kernel
theorem pd_1_1 : parseMethodDescriptor "(JJLjava/lang/String;Ljava/time/Duration;Lcom/example/sole_holder/soleholder/Attempt$Refusal;Z)V" = some ⟨[.long, .long, (.object "java/lang/String"), (.object "java/time/Duration"), (.object "com/example/sole_holder/soleholder/Attempt$Refusal"), .boolean], none⟩ := by decide +kernel
theorem ef_1 (m : MethodId) (x0 : Int64) (x1 : Int64) : entryFrame m #[(.long x0), (.long x1)] 4 = mkF m 0 #[.val (.long x0), .second, .val (.long x1), .second] [] := by first | (simp [entryFrame, mkF, argsToLocals, Value.category]; done) | rfl
def Q1 (Z : State) (q1 : Int64) (q2 : Int64) (h0 : Heap) (n0 : Nat) (v : Option Value) (h : Heap) (L : List Loc) : Prop := ∃ b : Addr, v = some (.ref b) ∧ Fr n0 L ∧ h0.size ≤ h.size ∧ Exa Z h b "com/example/sole_holder/soleholder/Attempt" ∧ Fld Z h b "com/example/sole_holder/soleholder/Attempt" "takes" "J" (.long q1) ∧ Fld Z h b "com/example/sole_holder/soleholder/Attempt" "token" "J" (.long q2) ∧ Fld Z h b "com/example/sole_holder/soleholder/Attempt" "holder" "Ljava/lang/String;" .null ∧ Fld Z h b "com/example/sole_holder/soleholder/Attempt" "leaseLeft" "Ljava/time/Duration;" .null ∧ Fld Z h b "com/example/sole_holder/soleholder/Attempt" "refusal" "Lcom/example/sole_holder/soleholder/Attempt$Refusal;" .null ∧ Fld Z h b "com/example/sole_holder/soleholder/Attempt" "queued" "Z" (.int (0 : Int32))
set_option maxRecDepth 65536 in
set_option maxHeartbeats 40000000 in
theorem rm1 (l : Launch) (Z : State) (a0 : Array Value) (hw : ∀ d ∈ tables_1, d.before a0 Z = true) (ws : List Jvm.Cond) (q1 : Int64) (q2 : Int64) (h0 : Heap) (n0 : Nat) (Z0 : n0 ≤ h0.size) :
    MetFree l (⟨"com/example/sole_holder/soleholder/Attempt", "granted", "(JJ)Lcom/example/sole_holder/soleholder/Attempt;"⟩ : MethodName) (head1 (Jvm.Cond.code (⟨"com/example/sole_holder/soleholder/Attempt", "granted", "(JJ)Lcom/example/sole_holder/soleholder/Attempt;"⟩ : MethodName) prog_1_method_2_code 4 (some (.object "com/example/sole_holder/soleholder/Attempt")) :: ws) ({ frames := 3, cells := 1, slots := 6, locals := 45 } : Room)) (fun a U => a = #[(.long q1), (.long q2)] ∧ Z.Warmed39 U.vm ∧ U.heap = h0) (fun _ _ _ _ _ => True) (fun _ U o U' => ∃ v L, o = .returned v ∧ Q1 Z q1 q2 h0 n0 v U'.heap L ∧ FrameEnd U o U' L ({ frames := 3, cells := 1, slots := 6, locals := 45 } : Room).cells ({ frames := 3, cells := 1, slots := 6, locals := 45 } : Room).slots) := by
  refine MetFree.of_bodySF (plainFor_of_name pn_1) hisR ?_
  intro p e s m args below meth c s₁ Bd hml0 hP hK
  obtain ⟨rfl, hZ, hh⟩ := hP
  have hx := Bd.exec
  have hby := Bd.bytes
  have hml : c.maxLocals = 4 := hml0
  have hown : s.vm.findClass "com/example/sole_holder/soleholder/Attempt" = some m.cls := findClass_of_methodNamed Bd.named
  have hnm := (name_of_methodNamed Bd.named Bd.method).1
  have X0 : Stand p l e ({ frames := 3, cells := 1, slots := 6, locals := 45 } : Room) s m #[(.long q1), (.long q2)] below meth c s₁ [] 0 0 := Stand.of_body Bd
  have e0 : s₁.heap = h0 := by rw [← hh, Bd.state]; rfl
  have N0 := Fr.nil n0
  have pre0 : ∀ t, Steps p.tables e below (s₁.setTop (mkF m 0 #[.val (.long q1), .second, .val (.long q2), .second] [])) t → Steps p.tables e below (s₁.setTop (entryFrame m #[(.long q1), (.long q2)] 4)) t := fun t k => castTop (ef_1 m q1 q2) k
  obtain ⟨T3, h3, X3, e3, E3, A3, D3, -, st3⟩ := newO X0 hx hZ hown (hw _ (List.mem_of_getElem? (i := 4) rfl)) (hw _ (List.mem_of_getElem? (i := 5) rfl)) (hw _ (List.mem_of_getElem? (i := 2) rfl)) e0 (g := (mkF m 0 #[.val (.long q1), .second, .val (.long q2), .second] [])) rfl (hb hby d1_0) (by decide) (by decide)
  obtain ⟨b3, g3⟩ : ∃ z, z = h0.size := ⟨_, rfl⟩
  rw [← g3] at A3 D3 st3
  have F_takes_b3 : Fld Z h3 b3 "com/example/sole_holder/soleholder/Attempt" "takes" "J" (.long (0 : Int64)) := D3 (Or.inr (hw _ (List.mem_of_getElem? (i := 18) rfl))) (ty := .long) (by decide)
  have F_token_b3 : Fld Z h3 b3 "com/example/sole_holder/soleholder/Attempt" "token" "J" (.long (0 : Int64)) := D3 (Or.inr (hw _ (List.mem_of_getElem? (i := 20) rfl))) (ty := .long) (by decide)
  have F_holder_b3 : Fld Z h3 b3 "com/example/sole_holder/soleholder/Attempt" "holder" "Ljava/lang/String;" .null := D3 (Or.inr (hw _ (List.mem_of_getElem? (i := 22) rfl))) (ty := (.object "java/lang/String")) (by decide)
  have F_leaseLeft_b3 : Fld Z h3 b3 "com/example/sole_holder/soleholder/Attempt" "leaseLeft" "Ljava/time/Duration;" .null := D3 (Or.inr (hw _ (List.mem_of_getElem? (i := 24) rfl))) (ty := (.object "java/time/Duration")) (by decide)
  have F_refusal_b3 : Fld Z h3 b3 "com/example/sole_holder/soleholder/Attempt" "refusal" "Lcom/example/sole_holder/soleholder/Attempt$Refusal;" .null := D3 (Or.inr (hw _ (List.mem_of_getElem? (i := 26) rfl))) (ty := (.object "com/example/sole_holder/soleholder/Attempt$Refusal")) (by decide)
  have F_queued_b3 : Fld Z h3 b3 "com/example/sole_holder/soleholder/Attempt" "queued" "Z" (.int (0 : Int32)) := D3 (Or.inr (hw _ (List.mem_of_getElem? (i := 28) rfl))) (ty := .boolean) (by decide)
  have E_b3 := A3
  have g_b3 : n0 ≤ b3 := Nat.le_trans Z0 (Nat.le_of_eq g3.symm)
  have sz_b3 : h0.size ≤ b3 := (Nat.le_trans (Keep.refl h0 []).1 (Nat.le_of_eq g3.symm))
  have K3 : Keep h0 h3 [] := (Keep.refl h0 []).ext E3
  obtain ⟨_, _, ⟨T4, L4, k4, n4⟩, -, X4, ⟨Lc4, hQ4, l4, y4, z4⟩, st4⟩ := X3.specialBack hx (y := (⟨"com/example/sole_holder/soleholder/Attempt", "<init>", "(JJLjava/lang/String;Ljava/time/Duration;Lcom/example/sole_holder/soleholder/Attempt$Refusal;Z)V"⟩ : MethodName)) rfl hown (mvT hZ (hw _ (List.mem_of_getElem? (i := 6) rfl))) (mvT hZ (hw _ (List.mem_of_getElem? (i := 7) rfl))) (mvT hZ (hw _ (List.mem_of_getElem? (i := 8) rfl))) (by decide) (backOf (W := 1) (rm2 l Z a0 hw [] b3 q1 q2 (0 : Int32) (.long (0 : Int64)) (.long (0 : Int64)) .null .null .null (.int (0 : Int32)) h3 n0 (Nat.le_trans Z0 E3.1) E_b3 F_takes_b3 g_b3 F_token_b3 F_holder_b3 F_leaseLeft_b3 F_refusal_b3 F_queued_b3) hZ (hw _ (List.mem_of_getElem? (i := 8) rfl)) (hw _ (List.mem_of_getElem? (i := 2) rfl)) (by decide) (by decide)) (g := (mkF m 10 #[.val (.long q1), .second, .val (.long q2), .second] [(.int (0 : Int32)), .null, .null, .null, (.long q2), (.long q1), (.ref b3), (.ref b3)])) rfl (by rw [hml]; rfl) (Steps.refl _) (a := b3) (argsL := [(.long q1), (.long q2), .null, .null, .null, (.int (0 : Int32))]) (rest := [(.ref b3)]) (lenOf pd_1_1 rfl) rfl (by show 2 * 0 + _ ≤ _; exact Nat.le_of_eq rfl) (hb hby d1_10) (fun _ _ => ⟨rfl, e3, (by decide : 1 + 0 ≤ _), (by decide : 6 + 0 ≤ _)⟩)
  dsimp only [Pt.U, Pt.locs, Pt.cells, Pt.slots] at X4 l4 y4 z4 st4 hQ4
  subst l4 y4 z4
  obtain ⟨rfl, N4q, K4, EX4, V0, V1, V2, V3, V4, V5⟩ := hQ4
  rw [show nar .boolean (0 : Int32) = (0 : Int32) by decide] at V5
  have N4 := Fr.app N0 N4q
  obtain ⟨fs, hr, hrun, hended, hW, hsame⟩ := X4.leave (v := some (.ref b3)) (fun h => by rw [Bd.returns] at h; cases h)
  refine ⟨_, _, pre0 _ ?_, hrun, hended, _, _, rfl, ?_, ⟨_, rfl⟩, hW, hsame.mono (by decide) (by decide)⟩
  · show Steps p.tables e below (s₁.setTop (mkF m 0 #[.val (.long q1), .second, .val (.long q2), .second] [])) _
    refine st3 _ ?_
    show Steps p.tables e below (T3.setTop (mkF m 3 #[.val (.long q1), .second, .val (.long q2), .second] [(.ref b3)])) _
    refine XS.dup X3.here hx rfl (hb hby d1_3) rfl rfl ?_
    show Steps p.tables e below (T3.setTop (mkF m 4 #[.val (.long q1), .second, .val (.long q2), .second] [(.ref b3), (.ref b3)])) _
    refine XS.lloadN X3.here hx rfl (hb hby d1_4) rfl ?_
    show Steps p.tables e below (T3.setTop (mkF m 5 #[.val (.long q1), .second, .val (.long q2), .second] [(.long q1), (.ref b3), (.ref b3)])) _
    refine XS.lloadN X3.here hx rfl (hb hby d1_5) rfl ?_
    show Steps p.tables e below (T3.setTop (mkF m 6 #[.val (.long q1), .second, .val (.long q2), .second] [(.long q2), (.long q1), (.ref b3), (.ref b3)])) _
    refine XS.aconstNull X3.here hx rfl (hb hby d1_6) ?_
    show Steps p.tables e below (T3.setTop (mkF m 7 #[.val (.long q1), .second, .val (.long q2), .second] [.null, (.long q2), (.long q1), (.ref b3), (.ref b3)])) _
    refine XS.aconstNull X3.here hx rfl (hb hby d1_7) ?_
    show Steps p.tables e below (T3.setTop (mkF m 8 #[.val (.long q1), .second, .val (.long q2), .second] [.null, .null, (.long q2), (.long q1), (.ref b3), (.ref b3)])) _
    refine XS.aconstNull X3.here hx rfl (hb hby d1_8) ?_
    show Steps p.tables e below (T3.setTop (mkF m 9 #[.val (.long q1), .second, .val (.long q2), .second] [.null, .null, .null, (.long q2), (.long q1), (.ref b3), (.ref b3)])) _
    refine XS.iconst X3.here hx rfl (hb hby d1_9) ?_
    show Steps p.tables e below (T3.setTop (mkF m 10 #[.val (.long q1), .second, .val (.long q2), .second] [(.int (0 : Int32)), .null, .null, .null, (.long q2), (.long q1), (.ref b3), (.ref b3)])) _
    refine st4.trans ?_
    show Steps p.tables e below (T4.setTop (mkF m 13 #[.val (.long q1), .second, .val (.long q2), .second] [(.ref b3)])) _
    jvm_step X4.here [X4.here.top, hx, (hb hby d1_13), X4.method', Bd.returns, Value.isRef, FieldType.isReference]
    first | (intro acts; rw [hr _ acts rfl rfl rfl]) | rw [hr _ _ rfl rfl rfl]
    exact Steps.refl _
  · show Q1 Z q1 q2 h0 n0 _ T4.heap _
    exact ⟨b3, rfl, N4, Nat.le_trans E3.1 K4.1, EX4, V0, V1, V2, V3, V4, V5⟩
theorem d5_0 : decode prog_1_method_9_code 0 = .ok (.aload_n 0, 1) := by decide +kernel
theorem d5_1 : decode prog_1_method_9_code 1 = .ok (.getfield 7, 3) := by decide +kernel
theorem d5_4 : decode prog_1_method_9_code 4 = .ok (.lreturn, 1) := by decide +kernel
theorem pn_5 : plainName "com/example/sole_holder/soleholder/Attempt" = true := by first | (simp [plainName, overriddenIn]; done) | decide +kernel
theorem ef_5 (m : MethodId) (x0 : Addr) : entryFrame m #[(.ref x0)] 1 = mkF m 0 #[.val (.ref x0)] [] := by first | (simp [entryFrame, mkF, argsToLocals, Value.category]; done) | rfl
def Q5 (Z : State) (a1 : Addr) (w2 : Int64) (h0 : Heap) (n0 : Nat) (v : Option Value) (h : Heap) (L : List Loc) : Prop := v = some (.long w2) ∧ Fr n0 L ∧ h = h0
set_option maxRecDepth 65536 in
set_option maxHeartbeats 40000000 in
theorem rm5 (l : Launch) (Z : State) (a0 : Array Value) (hw : ∀ d ∈ tables_1, d.before a0 Z = true) (ws : List Jvm.Cond) (a1 : Addr) (w2 : Int64) (h0 : Heap) (n0 : Nat) (Z0 : n0 ≤ h0.size) (F_takes_a1 : Fld Z h0 a1 "com/example/sole_holder/soleholder/Attempt" "takes" "J" (.long w2)) :
    MetFree l (⟨"com/example/sole_holder/soleholder/Attempt", "takes", "()J"⟩ : MethodName) (head1 (Jvm.Cond.code (⟨"com/example/sole_holder/soleholder/Attempt", "takes", "()J"⟩ : MethodName) prog_1_method_9_code 1 (some .long) :: ws) ({ frames := 0, cells := 0, slots := 0, locals := 0 } : Room)) (fun a U => a = #[(.ref a1)] ∧ Z.Warmed39 U.vm ∧ U.heap = h0) (fun _ _ _ _ _ => True) (fun _ U o U' => ∃ v L, o = .returned v ∧ Q5 Z a1 w2 h0 n0 v U'.heap L ∧ FrameEnd U o U' L ({ frames := 0, cells := 0, slots := 0, locals := 0 } : Room).cells ({ frames := 0, cells := 0, slots := 0, locals := 0 } : Room).slots) := by
  refine MetFree.of_bodySF (plainFor_of_name pn_5) hisR ?_
  intro p e s m args below meth c s₁ Bd hml0 hP hK
  obtain ⟨rfl, hZ, hh⟩ := hP
  have hx := Bd.exec
  have hby := Bd.bytes
  have hml : c.maxLocals = 1 := hml0
  have hown : s.vm.findClass "com/example/sole_holder/soleholder/Attempt" = some m.cls := findClass_of_methodNamed Bd.named
  have hnm := (name_of_methodNamed Bd.named Bd.method).1
  have X0 : Stand p l e ({ frames := 0, cells := 0, slots := 0, locals := 0 } : Room) s m #[(.ref a1)] below meth c s₁ [] 0 0 := Stand.of_body Bd
  have e0 : s₁.heap = h0 := by rw [← hh, Bd.state]; rfl
  have N0 := Fr.nil n0
  have pre0 : ∀ t, Steps p.tables e below (s₁.setTop (mkF m 0 #[.val (.ref a1)] [])) t → Steps p.tables e below (s₁.setTop (entryFrame m #[(.ref a1)] 1)) t := fun t k => castTop (ef_5 m a1) k
  obtain ⟨T3, X3, e3, st3⟩ := getF X0 hx hZ hown (host := "") (Or.inl (hw _ (List.mem_of_getElem? (i := 17) rfl))) Via.refl e0 F_takes_a1 (g := (mkF m 1 #[.val (.ref a1)] [(.ref a1)])) rfl rfl (hb hby d5_1)
  obtain ⟨fs, hr, hrun, hended, hW, hsame⟩ := X3.leave (v := some (.long w2)) (fun h => by rw [Bd.returns] at h; cases h)
  refine ⟨_, _, pre0 _ ?_, hrun, hended, _, _, rfl, ?_, ⟨_, rfl⟩, hW, hsame.mono (by decide) (by decide)⟩
  · show Steps p.tables e below (s₁.setTop (mkF m 0 #[.val (.ref a1)] [])) _
    refine XS.aloadN X0.here hx rfl (hb hby d5_0) rfl rfl ?_
    show Steps p.tables e below (s₁.setTop (mkF m 1 #[.val (.ref a1)] [(.ref a1)])) _
    refine st3 _ ?_
    show Steps p.tables e below (T3.setTop (mkF m 4 #[.val (.ref a1)] [(.long w2)])) _
    jvm_step X3.here [X3.here.top, hx, (hb hby d5_4), X3.method', Bd.returns, narrow]
    first | (intro acts; rw [hr _ acts rfl rfl rfl]) | rw [hr _ _ rfl rfl rfl]
    exact Steps.refl _
  · show Q5 Z a1 w2 h0 n0 _ T3.heap _
    rw [e3]
    exact ⟨rfl, N0, rfl⟩
theorem d6_0 : decode prog_1_method_10_code 0 = .ok (.aload_n 0, 1) := by decide +kernel
theorem d6_1 : decode prog_1_method_10_code 1 = .ok (.getfield 13, 3) := by decide +kernel
theorem d6_4 : decode prog_1_method_10_code 4 = .ok (.lreturn, 1) := by decide +kernel
theorem pn_6 : plainName "com/example/sole_holder/soleholder/Attempt" = true := by first | (simp [plainName, overriddenIn]; done) | decide +kernel
theorem ef_6 (m : MethodId) (x0 : Addr) : entryFrame m #[(.ref x0)] 1 = mkF m 0 #[.val (.ref x0)] [] := by first | (simp [entryFrame, mkF, argsToLocals, Value.category]; done) | rfl
def Q6 (Z : State) (a1 : Addr) (w2 : Int64) (h0 : Heap) (n0 : Nat) (v : Option Value) (h : Heap) (L : List Loc) : Prop := v = some (.long w2) ∧ Fr n0 L ∧ h = h0
set_option maxRecDepth 65536 in
set_option maxHeartbeats 40000000 in
theorem rm6 (l : Launch) (Z : State) (a0 : Array Value) (hw : ∀ d ∈ tables_1, d.before a0 Z = true) (ws : List Jvm.Cond) (a1 : Addr) (w2 : Int64) (h0 : Heap) (n0 : Nat) (Z0 : n0 ≤ h0.size) (F_token_a1 : Fld Z h0 a1 "com/example/sole_holder/soleholder/Attempt" "token" "J" (.long w2)) :
    MetFree l (⟨"com/example/sole_holder/soleholder/Attempt", "token", "()J"⟩ : MethodName) (head1 (Jvm.Cond.code (⟨"com/example/sole_holder/soleholder/Attempt", "token", "()J"⟩ : MethodName) prog_1_method_10_code 1 (some .long) :: ws) ({ frames := 0, cells := 0, slots := 0, locals := 0 } : Room)) (fun a U => a = #[(.ref a1)] ∧ Z.Warmed39 U.vm ∧ U.heap = h0) (fun _ _ _ _ _ => True) (fun _ U o U' => ∃ v L, o = .returned v ∧ Q6 Z a1 w2 h0 n0 v U'.heap L ∧ FrameEnd U o U' L ({ frames := 0, cells := 0, slots := 0, locals := 0 } : Room).cells ({ frames := 0, cells := 0, slots := 0, locals := 0 } : Room).slots) := by
  refine MetFree.of_bodySF (plainFor_of_name pn_6) hisR ?_
  intro p e s m args below meth c s₁ Bd hml0 hP hK
  obtain ⟨rfl, hZ, hh⟩ := hP
  have hx := Bd.exec
  have hby := Bd.bytes
  have hml : c.maxLocals = 1 := hml0
  have hown : s.vm.findClass "com/example/sole_holder/soleholder/Attempt" = some m.cls := findClass_of_methodNamed Bd.named
  have hnm := (name_of_methodNamed Bd.named Bd.method).1
  have X0 : Stand p l e ({ frames := 0, cells := 0, slots := 0, locals := 0 } : Room) s m #[(.ref a1)] below meth c s₁ [] 0 0 := Stand.of_body Bd
  have e0 : s₁.heap = h0 := by rw [← hh, Bd.state]; rfl
  have N0 := Fr.nil n0
  have pre0 : ∀ t, Steps p.tables e below (s₁.setTop (mkF m 0 #[.val (.ref a1)] [])) t → Steps p.tables e below (s₁.setTop (entryFrame m #[(.ref a1)] 1)) t := fun t k => castTop (ef_6 m a1) k
  obtain ⟨T3, X3, e3, st3⟩ := getF X0 hx hZ hown (host := "") (Or.inl (hw _ (List.mem_of_getElem? (i := 19) rfl))) Via.refl e0 F_token_a1 (g := (mkF m 1 #[.val (.ref a1)] [(.ref a1)])) rfl rfl (hb hby d6_1)
  obtain ⟨fs, hr, hrun, hended, hW, hsame⟩ := X3.leave (v := some (.long w2)) (fun h => by rw [Bd.returns] at h; cases h)
  refine ⟨_, _, pre0 _ ?_, hrun, hended, _, _, rfl, ?_, ⟨_, rfl⟩, hW, hsame.mono (by decide) (by decide)⟩
  · show Steps p.tables e below (s₁.setTop (mkF m 0 #[.val (.ref a1)] [])) _
    refine XS.aloadN X0.here hx rfl (hb hby d6_0) rfl rfl ?_
    show Steps p.tables e below (s₁.setTop (mkF m 1 #[.val (.ref a1)] [(.ref a1)])) _
    refine st3 _ ?_
    show Steps p.tables e below (T3.setTop (mkF m 4 #[.val (.ref a1)] [(.long w2)])) _
    jvm_step X3.here [X3.here.top, hx, (hb hby d6_4), X3.method', Bd.returns, narrow]
    first | (intro acts; rw [hr _ acts rfl rfl rfl]) | rw [hr _ _ rfl rfl rfl]
    exact Steps.refl _
  · show Q6 Z a1 w2 h0 n0 _ T3.heap _
    rw [e3]
    exact ⟨rfl, N0, rfl⟩
theorem d10_0 : decode prog_1_method_14_code 0 = .ok (.aload_n 0, 1) := by decide +kernel
theorem d10_1 : decode prog_1_method_14_code 1 = .ok (.getfield 28, 3) := by decide +kernel
theorem d10_4 : decode prog_1_method_14_code 4 = .ok (.ireturn, 1) := by decide +kernel
theorem pn_10 : plainName "com/example/sole_holder/soleholder/Attempt" = true := by first | (simp [plainName, overriddenIn]; done) | decide +kernel
theorem ef_10 (m : MethodId) (x0 : Addr) : entryFrame m #[(.ref x0)] 1 = mkF m 0 #[.val (.ref x0)] [] := by first | (simp [entryFrame, mkF, argsToLocals, Value.category]; done) | rfl
def Q10 (Z : State) (a1 : Addr) (h0 : Heap) (n0 : Nat) (v : Option Value) (h : Heap) (L : List Loc) : Prop := v = some (.int (0 : Int32)) ∧ Fr n0 L ∧ h = h0
set_option maxRecDepth 65536 in
set_option maxHeartbeats 40000000 in
theorem rm10 (l : Launch) (Z : State) (a0 : Array Value) (hw : ∀ d ∈ tables_1, d.before a0 Z = true) (ws : List Jvm.Cond) (a1 : Addr) (h0 : Heap) (n0 : Nat) (Z0 : n0 ≤ h0.size) (F_queued_a1 : Fld Z h0 a1 "com/example/sole_holder/soleholder/Attempt" "queued" "Z" (.int (0 : Int32))) :
    MetFree l (⟨"com/example/sole_holder/soleholder/Attempt", "queued", "()Z"⟩ : MethodName) (head1 (Jvm.Cond.code (⟨"com/example/sole_holder/soleholder/Attempt", "queued", "()Z"⟩ : MethodName) prog_1_method_14_code 1 (some .boolean) :: ws) ({ frames := 0, cells := 0, slots := 0, locals := 0 } : Room)) (fun a U => a = #[(.ref a1)] ∧ Z.Warmed39 U.vm ∧ U.heap = h0) (fun _ _ _ _ _ => True) (fun _ U o U' => ∃ v L, o = .returned v ∧ Q10 Z a1 h0 n0 v U'.heap L ∧ FrameEnd U o U' L ({ frames := 0, cells := 0, slots := 0, locals := 0 } : Room).cells ({ frames := 0, cells := 0, slots := 0, locals := 0 } : Room).slots) := by
  refine MetFree.of_bodySF (plainFor_of_name pn_10) hisR ?_
  intro p e s m args below meth c s₁ Bd hml0 hP hK
  obtain ⟨rfl, hZ, hh⟩ := hP
  have hx := Bd.exec
  have hby := Bd.bytes
  have hml : c.maxLocals = 1 := hml0
  have hown : s.vm.findClass "com/example/sole_holder/soleholder/Attempt" = some m.cls := findClass_of_methodNamed Bd.named
  have hnm := (name_of_methodNamed Bd.named Bd.method).1
  have X0 : Stand p l e ({ frames := 0, cells := 0, slots := 0, locals := 0 } : Room) s m #[(.ref a1)] below meth c s₁ [] 0 0 := Stand.of_body Bd
  have e0 : s₁.heap = h0 := by rw [← hh, Bd.state]; rfl
  have N0 := Fr.nil n0
  have pre0 : ∀ t, Steps p.tables e below (s₁.setTop (mkF m 0 #[.val (.ref a1)] [])) t → Steps p.tables e below (s₁.setTop (entryFrame m #[(.ref a1)] 1)) t := fun t k => castTop (ef_10 m a1) k
  obtain ⟨T3, X3, e3, st3⟩ := getF X0 hx hZ hown (host := "") (Or.inl (hw _ (List.mem_of_getElem? (i := 27) rfl))) Via.refl e0 F_queued_a1 (g := (mkF m 1 #[.val (.ref a1)] [(.ref a1)])) rfl rfl (hb hby d10_1)
  obtain ⟨fs, hr, hrun, hended, hW, hsame⟩ := X3.leave (v := some (.int (0 : Int32))) (fun h => by rw [Bd.returns] at h; cases h)
  refine ⟨_, _, pre0 _ ?_, hrun, hended, _, _, rfl, ?_, ⟨_, rfl⟩, hW, hsame.mono (by decide) (by decide)⟩
  · show Steps p.tables e below (s₁.setTop (mkF m 0 #[.val (.ref a1)] [])) _
    refine XS.aloadN X0.here hx rfl (hb hby d10_0) rfl rfl ?_
    show Steps p.tables e below (s₁.setTop (mkF m 1 #[.val (.ref a1)] [(.ref a1)])) _
    refine st3 _ ?_
    show Steps p.tables e below (T3.setTop (mkF m 4 #[.val (.ref a1)] [(.int (0 : Int32))])) _
    exact retN X3 hx (t := .boolean) Bd.returns (by simp) (hb hby d10_4) hr
  · show Q10 Z a1 h0 n0 _ T3.heap _
    rw [e3]
    exact ⟨rfl, N0, rfl⟩
theorem d7_0 : decode prog_1_method_11_code 0 = .ok (.aload_n 0, 1) := by decide +kernel
theorem d7_1 : decode prog_1_method_11_code 1 = .ok (.getfield 16, 3) := by decide +kernel
theorem d7_4 : decode prog_1_method_11_code 4 = .ok (.areturn, 1) := by decide +kernel
theorem pn_7 : plainName "com/example/sole_holder/soleholder/Attempt" = true := by first | (simp [plainName, overriddenIn]; done) | decide +kernel
theorem ef_7 (m : MethodId) (x0 : Addr) : entryFrame m #[(.ref x0)] 1 = mkF m 0 #[.val (.ref x0)] [] := by first | (simp [entryFrame, mkF, argsToLocals, Value.category]; done) | rfl
def Q7 (Z : State) (a1 : Addr) (h0 : Heap) (n0 : Nat) (v : Option Value) (h : Heap) (L : List Loc) : Prop := v = some .null ∧ Fr n0 L ∧ h = h0
set_option maxRecDepth 65536 in
set_option maxHeartbeats 40000000 in
theorem rm7 (l : Launch) (Z : State) (a0 : Array Value) (hw : ∀ d ∈ tables_1, d.before a0 Z = true) (ws : List Jvm.Cond) (a1 : Addr) (h0 : Heap) (n0 : Nat) (Z0 : n0 ≤ h0.size) (F_holder_a1 : Fld Z h0 a1 "com/example/sole_holder/soleholder/Attempt" "holder" "Ljava/lang/String;" .null) :
    MetFree l (⟨"com/example/sole_holder/soleholder/Attempt", "holder", "()Ljava/lang/String;"⟩ : MethodName) (head1 (Jvm.Cond.code (⟨"com/example/sole_holder/soleholder/Attempt", "holder", "()Ljava/lang/String;"⟩ : MethodName) prog_1_method_11_code 1 (some (.object "java/lang/String")) :: ws) ({ frames := 0, cells := 0, slots := 0, locals := 0 } : Room)) (fun a U => a = #[(.ref a1)] ∧ Z.Warmed39 U.vm ∧ U.heap = h0) (fun _ _ _ _ _ => True) (fun _ U o U' => ∃ v L, o = .returned v ∧ Q7 Z a1 h0 n0 v U'.heap L ∧ FrameEnd U o U' L ({ frames := 0, cells := 0, slots := 0, locals := 0 } : Room).cells ({ frames := 0, cells := 0, slots := 0, locals := 0 } : Room).slots) := by
  refine MetFree.of_bodySF (plainFor_of_name pn_7) hisR ?_
  intro p e s m args below meth c s₁ Bd hml0 hP hK
  obtain ⟨rfl, hZ, hh⟩ := hP
  have hx := Bd.exec
  have hby := Bd.bytes
  have hml : c.maxLocals = 1 := hml0
  have hown : s.vm.findClass "com/example/sole_holder/soleholder/Attempt" = some m.cls := findClass_of_methodNamed Bd.named
  have hnm := (name_of_methodNamed Bd.named Bd.method).1
  have X0 : Stand p l e ({ frames := 0, cells := 0, slots := 0, locals := 0 } : Room) s m #[(.ref a1)] below meth c s₁ [] 0 0 := Stand.of_body Bd
  have e0 : s₁.heap = h0 := by rw [← hh, Bd.state]; rfl
  have N0 := Fr.nil n0
  have pre0 : ∀ t, Steps p.tables e below (s₁.setTop (mkF m 0 #[.val (.ref a1)] [])) t → Steps p.tables e below (s₁.setTop (entryFrame m #[(.ref a1)] 1)) t := fun t k => castTop (ef_7 m a1) k
  obtain ⟨T3, X3, e3, st3⟩ := getF X0 hx hZ hown (host := "") (Or.inl (hw _ (List.mem_of_getElem? (i := 21) rfl))) Via.refl e0 F_holder_a1 (g := (mkF m 1 #[.val (.ref a1)] [(.ref a1)])) rfl rfl (hb hby d7_1)
  obtain ⟨fs, hr, hrun, hended, hW, hsame⟩ := X3.leave (v := some .null) (fun h => by rw [Bd.returns] at h; cases h)
  refine ⟨_, _, pre0 _ ?_, hrun, hended, _, _, rfl, ?_, ⟨_, rfl⟩, hW, hsame.mono (by decide) (by decide)⟩
  · show Steps p.tables e below (s₁.setTop (mkF m 0 #[.val (.ref a1)] [])) _
    refine XS.aloadN X0.here hx rfl (hb hby d7_0) rfl rfl ?_
    show Steps p.tables e below (s₁.setTop (mkF m 1 #[.val (.ref a1)] [(.ref a1)])) _
    refine st3 _ ?_
    show Steps p.tables e below (T3.setTop (mkF m 4 #[.val (.ref a1)] [.null])) _
    jvm_step X3.here [X3.here.top, hx, (hb hby d7_4), X3.method', Bd.returns, Value.isRef, FieldType.isReference]
    first | (intro acts; rw [hr _ acts rfl rfl rfl]) | rw [hr _ _ rfl rfl rfl]
    exact Steps.refl _
  · show Q7 Z a1 h0 n0 _ T3.heap _
    rw [e3]
    exact ⟨rfl, N0, rfl⟩
theorem d8_0 : decode prog_1_method_12_code 0 = .ok (.aload_n 0, 1) := by decide +kernel
theorem d8_1 : decode prog_1_method_12_code 1 = .ok (.getfield 20, 3) := by decide +kernel
theorem d8_4 : decode prog_1_method_12_code 4 = .ok (.areturn, 1) := by decide +kernel
theorem pn_8 : plainName "com/example/sole_holder/soleholder/Attempt" = true := by first | (simp [plainName, overriddenIn]; done) | decide +kernel
theorem ef_8 (m : MethodId) (x0 : Addr) : entryFrame m #[(.ref x0)] 1 = mkF m 0 #[.val (.ref x0)] [] := by first | (simp [entryFrame, mkF, argsToLocals, Value.category]; done) | rfl
def Q8 (Z : State) (a1 : Addr) (h0 : Heap) (n0 : Nat) (v : Option Value) (h : Heap) (L : List Loc) : Prop := v = some .null ∧ Fr n0 L ∧ h = h0
set_option maxRecDepth 65536 in
set_option maxHeartbeats 40000000 in
theorem rm8 (l : Launch) (Z : State) (a0 : Array Value) (hw : ∀ d ∈ tables_1, d.before a0 Z = true) (ws : List Jvm.Cond) (a1 : Addr) (h0 : Heap) (n0 : Nat) (Z0 : n0 ≤ h0.size) (F_leaseLeft_a1 : Fld Z h0 a1 "com/example/sole_holder/soleholder/Attempt" "leaseLeft" "Ljava/time/Duration;" .null) :
    MetFree l (⟨"com/example/sole_holder/soleholder/Attempt", "leaseLeft", "()Ljava/time/Duration;"⟩ : MethodName) (head1 (Jvm.Cond.code (⟨"com/example/sole_holder/soleholder/Attempt", "leaseLeft", "()Ljava/time/Duration;"⟩ : MethodName) prog_1_method_12_code 1 (some (.object "java/time/Duration")) :: ws) ({ frames := 0, cells := 0, slots := 0, locals := 0 } : Room)) (fun a U => a = #[(.ref a1)] ∧ Z.Warmed39 U.vm ∧ U.heap = h0) (fun _ _ _ _ _ => True) (fun _ U o U' => ∃ v L, o = .returned v ∧ Q8 Z a1 h0 n0 v U'.heap L ∧ FrameEnd U o U' L ({ frames := 0, cells := 0, slots := 0, locals := 0 } : Room).cells ({ frames := 0, cells := 0, slots := 0, locals := 0 } : Room).slots) := by
  refine MetFree.of_bodySF (plainFor_of_name pn_8) hisR ?_
  intro p e s m args below meth c s₁ Bd hml0 hP hK
  obtain ⟨rfl, hZ, hh⟩ := hP
  have hx := Bd.exec
  have hby := Bd.bytes
  have hml : c.maxLocals = 1 := hml0
  have hown : s.vm.findClass "com/example/sole_holder/soleholder/Attempt" = some m.cls := findClass_of_methodNamed Bd.named
  have hnm := (name_of_methodNamed Bd.named Bd.method).1
  have X0 : Stand p l e ({ frames := 0, cells := 0, slots := 0, locals := 0 } : Room) s m #[(.ref a1)] below meth c s₁ [] 0 0 := Stand.of_body Bd
  have e0 : s₁.heap = h0 := by rw [← hh, Bd.state]; rfl
  have N0 := Fr.nil n0
  have pre0 : ∀ t, Steps p.tables e below (s₁.setTop (mkF m 0 #[.val (.ref a1)] [])) t → Steps p.tables e below (s₁.setTop (entryFrame m #[(.ref a1)] 1)) t := fun t k => castTop (ef_8 m a1) k
  obtain ⟨T3, X3, e3, st3⟩ := getF X0 hx hZ hown (host := "") (Or.inl (hw _ (List.mem_of_getElem? (i := 23) rfl))) Via.refl e0 F_leaseLeft_a1 (g := (mkF m 1 #[.val (.ref a1)] [(.ref a1)])) rfl rfl (hb hby d8_1)
  obtain ⟨fs, hr, hrun, hended, hW, hsame⟩ := X3.leave (v := some .null) (fun h => by rw [Bd.returns] at h; cases h)
  refine ⟨_, _, pre0 _ ?_, hrun, hended, _, _, rfl, ?_, ⟨_, rfl⟩, hW, hsame.mono (by decide) (by decide)⟩
  · show Steps p.tables e below (s₁.setTop (mkF m 0 #[.val (.ref a1)] [])) _
    refine XS.aloadN X0.here hx rfl (hb hby d8_0) rfl rfl ?_
    show Steps p.tables e below (s₁.setTop (mkF m 1 #[.val (.ref a1)] [(.ref a1)])) _
    refine st3 _ ?_
    show Steps p.tables e below (T3.setTop (mkF m 4 #[.val (.ref a1)] [.null])) _
    jvm_step X3.here [X3.here.top, hx, (hb hby d8_4), X3.method', Bd.returns, Value.isRef, FieldType.isReference]
    first | (intro acts; rw [hr _ acts rfl rfl rfl]) | rw [hr _ _ rfl rfl rfl]
    exact Steps.refl _
  · show Q8 Z a1 h0 n0 _ T3.heap _
    rw [e3]
    exact ⟨rfl, N0, rfl⟩
theorem d9_0 : decode prog_1_method_13_code 0 = .ok (.aload_n 0, 1) := by decide +kernel
theorem d9_1 : decode prog_1_method_13_code 1 = .ok (.getfield 24, 3) := by decide +kernel
theorem d9_4 : decode prog_1_method_13_code 4 = .ok (.areturn, 1) := by decide +kernel
theorem pn_9 : plainName "com/example/sole_holder/soleholder/Attempt" = true := by first | (simp [plainName, overriddenIn]; done) | decide +kernel
theorem ef_9 (m : MethodId) (x0 : Addr) : entryFrame m #[(.ref x0)] 1 = mkF m 0 #[.val (.ref x0)] [] := by first | (simp [entryFrame, mkF, argsToLocals, Value.category]; done) | rfl
def Q9 (Z : State) (a1 : Addr) (h0 : Heap) (n0 : Nat) (v : Option Value) (h : Heap) (L : List Loc) : Prop := v = some .null ∧ Fr n0 L ∧ h = h0
set_option maxRecDepth 65536 in
set_option maxHeartbeats 40000000 in
theorem rm9 (l : Launch) (Z : State) (a0 : Array Value) (hw : ∀ d ∈ tables_1, d.before a0 Z = true) (ws : List Jvm.Cond) (a1 : Addr) (h0 : Heap) (n0 : Nat) (Z0 : n0 ≤ h0.size) (F_refusal_a1 : Fld Z h0 a1 "com/example/sole_holder/soleholder/Attempt" "refusal" "Lcom/example/sole_holder/soleholder/Attempt$Refusal;" .null) :
    MetFree l (⟨"com/example/sole_holder/soleholder/Attempt", "refusal", "()Lcom/example/sole_holder/soleholder/Attempt$Refusal;"⟩ : MethodName) (head1 (Jvm.Cond.code (⟨"com/example/sole_holder/soleholder/Attempt", "refusal", "()Lcom/example/sole_holder/soleholder/Attempt$Refusal;"⟩ : MethodName) prog_1_method_13_code 1 (some (.object "com/example/sole_holder/soleholder/Attempt$Refusal")) :: ws) ({ frames := 0, cells := 0, slots := 0, locals := 0 } : Room)) (fun a U => a = #[(.ref a1)] ∧ Z.Warmed39 U.vm ∧ U.heap = h0) (fun _ _ _ _ _ => True) (fun _ U o U' => ∃ v L, o = .returned v ∧ Q9 Z a1 h0 n0 v U'.heap L ∧ FrameEnd U o U' L ({ frames := 0, cells := 0, slots := 0, locals := 0 } : Room).cells ({ frames := 0, cells := 0, slots := 0, locals := 0 } : Room).slots) := by
  refine MetFree.of_bodySF (plainFor_of_name pn_9) hisR ?_
  intro p e s m args below meth c s₁ Bd hml0 hP hK
  obtain ⟨rfl, hZ, hh⟩ := hP
  have hx := Bd.exec
  have hby := Bd.bytes
  have hml : c.maxLocals = 1 := hml0
  have hown : s.vm.findClass "com/example/sole_holder/soleholder/Attempt" = some m.cls := findClass_of_methodNamed Bd.named
  have hnm := (name_of_methodNamed Bd.named Bd.method).1
  have X0 : Stand p l e ({ frames := 0, cells := 0, slots := 0, locals := 0 } : Room) s m #[(.ref a1)] below meth c s₁ [] 0 0 := Stand.of_body Bd
  have e0 : s₁.heap = h0 := by rw [← hh, Bd.state]; rfl
  have N0 := Fr.nil n0
  have pre0 : ∀ t, Steps p.tables e below (s₁.setTop (mkF m 0 #[.val (.ref a1)] [])) t → Steps p.tables e below (s₁.setTop (entryFrame m #[(.ref a1)] 1)) t := fun t k => castTop (ef_9 m a1) k
  obtain ⟨T3, X3, e3, st3⟩ := getF X0 hx hZ hown (host := "") (Or.inl (hw _ (List.mem_of_getElem? (i := 25) rfl))) Via.refl e0 F_refusal_a1 (g := (mkF m 1 #[.val (.ref a1)] [(.ref a1)])) rfl rfl (hb hby d9_1)
  obtain ⟨fs, hr, hrun, hended, hW, hsame⟩ := X3.leave (v := some .null) (fun h => by rw [Bd.returns] at h; cases h)
  refine ⟨_, _, pre0 _ ?_, hrun, hended, _, _, rfl, ?_, ⟨_, rfl⟩, hW, hsame.mono (by decide) (by decide)⟩
  · show Steps p.tables e below (s₁.setTop (mkF m 0 #[.val (.ref a1)] [])) _
    refine XS.aloadN X0.here hx rfl (hb hby d9_0) rfl rfl ?_
    show Steps p.tables e below (s₁.setTop (mkF m 1 #[.val (.ref a1)] [(.ref a1)])) _
    refine st3 _ ?_
    show Steps p.tables e below (T3.setTop (mkF m 4 #[.val (.ref a1)] [.null])) _
    jvm_step X3.here [X3.here.top, hx, (hb hby d9_4), X3.method', Bd.returns, Value.isRef, FieldType.isReference]
    first | (intro acts; rw [hr _ acts rfl rfl rfl]) | rw [hr _ _ rfl rfl rfl]
    exact Steps.refl _
  · show Q9 Z a1 h0 n0 _ T3.heap _
    rw [e3]
    exact ⟨rfl, N0, rfl⟩
theorem d11_0 : decode prog_1_method_4_code 0 = .ok (.aload_n 0, 1) := by decide +kernel
theorem d11_1 : decode prog_1_method_4_code 1 = .ok (.getfield 7, 3) := by decide +kernel
theorem d11_4 : decode prog_1_method_4_code 4 = .ok (.lconst 0, 1) := by decide +kernel
theorem d11_5 : decode prog_1_method_4_code 5 = .ok (.lcmp, 1) := by decide +kernel
theorem d11_6 : decode prog_1_method_4_code 6 = .ok (.ifCond .le 7, 3) := by decide +kernel
theorem d11_13 : decode prog_1_method_4_code 13 = .ok (.iconst 0, 1) := by decide +kernel
theorem d11_14 : decode prog_1_method_4_code 14 = .ok (.ireturn, 1) := by decide +kernel
theorem pn_11 : plainName "com/example/sole_holder/soleholder/Attempt" = true := by first | (simp [plainName, overriddenIn]; done) | decide +kernel
theorem ef_11 (m : MethodId) (x0 : Addr) : entryFrame m #[(.ref x0)] 1 = mkF m 0 #[.val (.ref x0)] [] := by first | (simp [entryFrame, mkF, argsToLocals, Value.category]; done) | rfl
set_option maxRecDepth 65536 in
set_option maxHeartbeats 40000000 in
theorem rm11t (l : Launch) (Z : State) (a0 : Array Value) (hw : ∀ d ∈ tables_1, d.before a0 Z = true) (ws : List Jvm.Cond) (a1 : Addr) (w2 : Int64) (h0 : Heap) (n0 : Nat) (Z0 : n0 ≤ h0.size) (F_takes_a1 : Fld Z h0 a1 "com/example/sole_holder/soleholder/Attempt" "takes" "J" (.long w2)) (hc6 : ¬ ((0 : Int32) < (lcmpW w2 (0 : Int64)))) :
    MetFree l (⟨"com/example/sole_holder/soleholder/Attempt", "granted", "()Z"⟩ : MethodName) (head1 (Jvm.Cond.code (⟨"com/example/sole_holder/soleholder/Attempt", "granted", "()Z"⟩ : MethodName) prog_1_method_4_code 1 (some .boolean) :: ws) ({ frames := 0, cells := 0, slots := 0, locals := 0 } : Room)) (fun a U => a = #[(.ref a1)] ∧ Z.Warmed39 U.vm ∧ U.heap = h0) (fun _ _ _ _ _ => True) (fun _ U o U' => ∃ v L, o = .returned v ∧ Q11 Z (0 : Int32) h0 n0 v U'.heap L ∧ FrameEnd U o U' L ({ frames := 0, cells := 0, slots := 0, locals := 0 } : Room).cells ({ frames := 0, cells := 0, slots := 0, locals := 0 } : Room).slots) := by
  refine MetFree.of_bodySF (plainFor_of_name pn_11) hisR ?_
  intro p e s m args below meth c s₁ Bd hml0 hP hK
  obtain ⟨rfl, hZ, hh⟩ := hP
  have hx := Bd.exec
  have hby := Bd.bytes
  have hml : c.maxLocals = 1 := hml0
  have hown : s.vm.findClass "com/example/sole_holder/soleholder/Attempt" = some m.cls := findClass_of_methodNamed Bd.named
  have hnm := (name_of_methodNamed Bd.named Bd.method).1
  have X0 : Stand p l e ({ frames := 0, cells := 0, slots := 0, locals := 0 } : Room) s m #[(.ref a1)] below meth c s₁ [] 0 0 := Stand.of_body Bd
  have e0 : s₁.heap = h0 := by rw [← hh, Bd.state]; rfl
  have N0 := Fr.nil n0
  have pre0 : ∀ t, Steps p.tables e below (s₁.setTop (mkF m 0 #[.val (.ref a1)] [])) t → Steps p.tables e below (s₁.setTop (entryFrame m #[(.ref a1)] 1)) t := fun t k => castTop (ef_11 m a1) k
  obtain ⟨T3, X3, e3, st3⟩ := getF X0 hx hZ hown (host := "") (Or.inl (hw _ (List.mem_of_getElem? (i := 17) rfl))) Via.refl e0 F_takes_a1 (g := (mkF m 1 #[.val (.ref a1)] [(.ref a1)])) rfl rfl (hb hby d11_1)
  obtain ⟨fs, hr, hrun, hended, hW, hsame⟩ := X3.leave (v := some (.int (0 : Int32))) (fun h => by rw [Bd.returns] at h; cases h)
  refine ⟨_, _, pre0 _ ?_, hrun, hended, _, _, rfl, ?_, ⟨_, rfl⟩, hW, hsame.mono (by decide) (by decide)⟩
  · show Steps p.tables e below (s₁.setTop (mkF m 0 #[.val (.ref a1)] [])) _
    refine XS.aloadN X0.here hx rfl (hb hby d11_0) rfl rfl ?_
    show Steps p.tables e below (s₁.setTop (mkF m 1 #[.val (.ref a1)] [(.ref a1)])) _
    refine st3 _ ?_
    show Steps p.tables e below (T3.setTop (mkF m 4 #[.val (.ref a1)] [(.long w2)])) _
    refine XS.lconst X3.here hx rfl (hb hby d11_4) ?_
    show Steps p.tables e below (T3.setTop (mkF m 5 #[.val (.ref a1)] [(.long (0 : Int64)), (.long w2)])) _
    refine XS.lcmp X3.here hx rfl (hb hby d11_5) rfl ?_
    show Steps p.tables e below (T3.setTop (mkF m 6 #[.val (.ref a1)] [(.int (lcmpW w2 (0 : Int64)))])) _
    refine XS.ifYes X3.here hx rfl (pc0 := 6) (pc' := 13) rfl (hb hby d11_6) rfl ((if0 _ _).trans (flt hc6).2.2.2) (by decide) (by decide) ?_
    show Steps p.tables e below (T3.setTop (mkF m 13 #[.val (.ref a1)] [])) _
    refine XS.iconst X3.here hx rfl (hb hby d11_13) ?_
    show Steps p.tables e below (T3.setTop (mkF m 14 #[.val (.ref a1)] [(.int (0 : Int32))])) _
    exact retN X3 hx (t := .boolean) Bd.returns (by simp) (hb hby d11_14) hr
  · show Q11 Z (0 : Int32) h0 n0 _ T3.heap _
    rw [e3]
    exact ⟨rfl, N0, rfl⟩
theorem d11_9 : decode prog_1_method_4_code 9 = .ok (.iconst 1, 1) := by decide +kernel
theorem d11_10 : decode prog_1_method_4_code 10 = .ok (.goto 4, 3) := by decide +kernel
set_option maxRecDepth 65536 in
set_option maxHeartbeats 40000000 in
theorem rm11f (l : Launch) (Z : State) (a0 : Array Value) (hw : ∀ d ∈ tables_1, d.before a0 Z = true) (ws : List Jvm.Cond) (a1 : Addr) (w2 : Int64) (h0 : Heap) (n0 : Nat) (Z0 : n0 ≤ h0.size) (F_takes_a1 : Fld Z h0 a1 "com/example/sole_holder/soleholder/Attempt" "takes" "J" (.long w2)) (hc6 : (0 : Int32) < (lcmpW w2 (0 : Int64))) :
    MetFree l (⟨"com/example/sole_holder/soleholder/Attempt", "granted", "()Z"⟩ : MethodName) (head1 (Jvm.Cond.code (⟨"com/example/sole_holder/soleholder/Attempt", "granted", "()Z"⟩ : MethodName) prog_1_method_4_code 1 (some .boolean) :: ws) ({ frames := 0, cells := 0, slots := 0, locals := 0 } : Room)) (fun a U => a = #[(.ref a1)] ∧ Z.Warmed39 U.vm ∧ U.heap = h0) (fun _ _ _ _ _ => True) (fun _ U o U' => ∃ v L, o = .returned v ∧ Q11 Z (1 : Int32) h0 n0 v U'.heap L ∧ FrameEnd U o U' L ({ frames := 0, cells := 0, slots := 0, locals := 0 } : Room).cells ({ frames := 0, cells := 0, slots := 0, locals := 0 } : Room).slots) := by
  refine MetFree.of_bodySF (plainFor_of_name pn_11) hisR ?_
  intro p e s m args below meth c s₁ Bd hml0 hP hK
  obtain ⟨rfl, hZ, hh⟩ := hP
  have hx := Bd.exec
  have hby := Bd.bytes
  have hml : c.maxLocals = 1 := hml0
  have hown : s.vm.findClass "com/example/sole_holder/soleholder/Attempt" = some m.cls := findClass_of_methodNamed Bd.named
  have hnm := (name_of_methodNamed Bd.named Bd.method).1
  have X0 : Stand p l e ({ frames := 0, cells := 0, slots := 0, locals := 0 } : Room) s m #[(.ref a1)] below meth c s₁ [] 0 0 := Stand.of_body Bd
  have e0 : s₁.heap = h0 := by rw [← hh, Bd.state]; rfl
  have N0 := Fr.nil n0
  have pre0 : ∀ t, Steps p.tables e below (s₁.setTop (mkF m 0 #[.val (.ref a1)] [])) t → Steps p.tables e below (s₁.setTop (entryFrame m #[(.ref a1)] 1)) t := fun t k => castTop (ef_11 m a1) k
  obtain ⟨T3, X3, e3, st3⟩ := getF X0 hx hZ hown (host := "") (Or.inl (hw _ (List.mem_of_getElem? (i := 17) rfl))) Via.refl e0 F_takes_a1 (g := (mkF m 1 #[.val (.ref a1)] [(.ref a1)])) rfl rfl (hb hby d11_1)
  obtain ⟨fs, hr, hrun, hended, hW, hsame⟩ := X3.leave (v := some (.int (1 : Int32))) (fun h => by rw [Bd.returns] at h; cases h)
  refine ⟨_, _, pre0 _ ?_, hrun, hended, _, _, rfl, ?_, ⟨_, rfl⟩, hW, hsame.mono (by decide) (by decide)⟩
  · show Steps p.tables e below (s₁.setTop (mkF m 0 #[.val (.ref a1)] [])) _
    refine XS.aloadN X0.here hx rfl (hb hby d11_0) rfl rfl ?_
    show Steps p.tables e below (s₁.setTop (mkF m 1 #[.val (.ref a1)] [(.ref a1)])) _
    refine st3 _ ?_
    show Steps p.tables e below (T3.setTop (mkF m 4 #[.val (.ref a1)] [(.long w2)])) _
    refine XS.lconst X3.here hx rfl (hb hby d11_4) ?_
    show Steps p.tables e below (T3.setTop (mkF m 5 #[.val (.ref a1)] [(.long (0 : Int64)), (.long w2)])) _
    refine XS.lcmp X3.here hx rfl (hb hby d11_5) rfl ?_
    show Steps p.tables e below (T3.setTop (mkF m 6 #[.val (.ref a1)] [(.int (lcmpW w2 (0 : Int64)))])) _
    refine XS.ifNo X3.here hx rfl (hb hby d11_6) rfl ((if0 _ _).trans (tlt hc6).2.2.2) ?_
    show Steps p.tables e below (T3.setTop (mkF m 9 #[.val (.ref a1)] [])) _
    refine XS.iconst X3.here hx rfl (hb hby d11_9) ?_
    show Steps p.tables e below (T3.setTop (mkF m 10 #[.val (.ref a1)] [(.int (1 : Int32))])) _
    refine XS.goto X3.here hx rfl (pc0 := 10) (pc' := 14) rfl (hb hby d11_10) (by decide) (by decide) ?_
    show Steps p.tables e below (T3.setTop (mkF m 14 #[.val (.ref a1)] [(.int (1 : Int32))])) _
    exact retN X3 hx (t := .boolean) Bd.returns (by simp) (hb hby d11_14) hr
  · show Q11 Z (1 : Int32) h0 n0 _ T3.heap _
    rw [e3]
    exact ⟨rfl, N0, rfl⟩
theorem rm11 (l : Launch) (Z : State) (a0 : Array Value) (hw : ∀ d ∈ tables_1, d.before a0 Z = true) (ws : List Jvm.Cond) (a1 : Addr) (w2 : Int64) (h0 : Heap) (n0 : Nat) (Z0 : n0 ≤ h0.size) (F_takes_a1 : Fld Z h0 a1 "com/example/sole_holder/soleholder/Attempt" "takes" "J" (.long w2)) :
    MetFree l (⟨"com/example/sole_holder/soleholder/Attempt", "granted", "()Z"⟩ : MethodName) (head1 (Jvm.Cond.code (⟨"com/example/sole_holder/soleholder/Attempt", "granted", "()Z"⟩ : MethodName) prog_1_method_4_code 1 (some .boolean) :: ws) ({ frames := 0, cells := 0, slots := 0, locals := 0 } : Room)) (fun a U => a = #[(.ref a1)] ∧ Z.Warmed39 U.vm ∧ U.heap = h0) (fun _ _ _ _ _ => True) (fun _ U o U' => ∃ v L, o = .returned v ∧ Q11 Z (own_g w2) h0 n0 v U'.heap L ∧ FrameEnd U o U' L ({ frames := 0, cells := 0, slots := 0, locals := 0 } : Room).cells ({ frames := 0, cells := 0, slots := 0, locals := 0 } : Room).slots) := by
  unfold own_g
  by_cases hc : (0 : Int32) < (lcmpW w2 (0 : Int64))
  · rw [if_pos hc]; exact rm11f l Z a0 hw ws a1 w2 h0 n0 Z0 F_takes_a1 hc
  · rw [if_neg hc]; exact rm11t l Z a0 hw ws a1 w2 h0 n0 Z0 F_takes_a1 hc
theorem pn_0 : plainName "com/example/sole_holder/soleholder/AttemptGrantedPinLaw" = true := by first | (simp [plainName, overriddenIn]; done) | decide +kernel
theorem pd_0_0 : parseMethodDescriptor "(JJ)Lcom/example/sole_holder/soleholder/Attempt;" = some ⟨[.long, .long], some (.object "com/example/sole_holder/soleholder/Attempt")⟩ := by decide +kernel
theorem pd_0_3 : parseMethodDescriptor "()J" = some ⟨[], some .long⟩ := by decide +kernel
theorem pd_0_4 : parseMethodDescriptor "()Ljava/lang/String;" = some ⟨[], some (.object "java/lang/String")⟩ := by decide +kernel
theorem pd_0_5 : parseMethodDescriptor "()Ljava/time/Duration;" = some ⟨[], some (.object "java/time/Duration")⟩ := by decide +kernel
theorem pd_0_6 : parseMethodDescriptor "()Lcom/example/sole_holder/soleholder/Attempt$Refusal;" = some ⟨[], some (.object "com/example/sole_holder/soleholder/Attempt$Refusal")⟩ := by decide +kernel
theorem pd_0_7 : parseMethodDescriptor "()Z" = some ⟨[], some .boolean⟩ := by decide +kernel
theorem ef_0 (m : MethodId) (x0 : Int64) (x1 : Int64) : entryFrame m #[(.long x0), (.long x1)] maxLocals = mkF m 0 #[.val (.long x0), .second, .val (.long x1), .second, .unset, .unset, .unset, .unset] [] := by first | (simp [entryFrame, mkF, argsToLocals, Value.category, maxLocals]; done) | rfl
def Q0 (Z : State) (q1 : Int64) (q2 : Int64) (h0 : Heap) (n0 : Nat) (v : Option Value) (h : Heap) (L : List Loc) : Prop := v = some (.int (1 : Int32)) ∧ Fr n0 L
set_option maxRecDepth 65536 in
set_option maxHeartbeats 40000000 in
theorem rm0_p (l : Launch) (Z : State) (a0 : Array Value) (hw : ∀ d ∈ tables_1, d.before a0 Z = true) (ws : List Jvm.Cond) (q1 : Int64) (q2 : Int64) (h0 : Heap) (n0 : Nat) (Z0 : n0 ≤ h0.size) (hc81 : (0 : Int32) < (lcmpW q1 (0 : Int64))) (hc101 : ¬ ((1 : Int32) = (0 : Int32))) (hc106 : ¬ ((1 : Int32) = (0 : Int32))) (hc111 : ¬ ((1 : Int32) = (0 : Int32))) :
    MetFree l x (head1 (Jvm.Cond.code x code maxLocals ret :: ws) room_1) (fun a U => a = #[(.long q1), (.long q2)] ∧ Z.Warmed39 U.vm ∧ U.heap = h0) (fun _ _ _ _ _ => True) (fun _ U o U' => ∃ v L, o = .returned v ∧ Q0 Z q1 q2 h0 n0 v U'.heap L ∧ FrameEnd U o U' L room_1.cells room_1.slots) := by
  refine MetFree.of_bodySF (plainFor_of_name pn_0) hisR ?_
  intro p e s m args below meth c s₁ Bd hml0 hP hK
  obtain ⟨rfl, hZ, hh⟩ := hP
  have hx := Bd.exec
  have hby := Bd.bytes
  have hml : c.maxLocals = 8 := hml0
  have hown : s.vm.findClass "com/example/sole_holder/soleholder/AttemptGrantedPinLaw" = some m.cls := findClass_of_methodNamed Bd.named
  have hnm := (name_of_methodNamed Bd.named Bd.method).1
  have X0 : Stand p l e room_1 s m #[(.long q1), (.long q2)] below meth c s₁ [] 0 0 := Stand.of_body Bd
  have e0 : s₁.heap = h0 := by rw [← hh, Bd.state]; rfl
  have N0 := Fr.nil n0
  have pre0 : ∀ t, Steps p.tables e below (s₁.setTop (mkF m 0 #[.val (.long q1), .second, .val (.long q2), .second, .unset, .unset, .unset, .unset] [])) t → Steps p.tables e below (s₁.setTop (entryFrame m #[(.long q1), (.long q2)] maxLocals)) t := fun t k => castTop (ef_0 m q1 q2) k
  obtain ⟨_, _, ⟨T3, L3, k3, n3⟩, -, X3, ⟨Lc3, hQ3, l3, y3, z3⟩, st3⟩ := Jvm.LawKit.callS X0 hx (y := (⟨"com/example/sole_holder/soleholder/Attempt", "granted", "(JJ)Lcom/example/sole_holder/soleholder/Attempt;"⟩ : MethodName)) hown (mvT hZ (hw _ (List.mem_of_getElem? (i := 0) rfl))) (mvT hZ (hw _ (List.mem_of_getElem? (i := 1) rfl))) (mvT hZ (hw _ (List.mem_of_getElem? (i := 2) rfl))) (mvT hZ (hw _ (List.mem_of_getElem? (i := 3) rfl))) (by decide) (backOf (W := 0) (rm1 l Z a0 hw [] q1 q2 h0 n0 Z0) hZ (hw _ (List.mem_of_getElem? (i := 3) rfl)) (hw _ (List.mem_of_getElem? (i := 2) rfl)) (by decide) (by decide)) (g := (mkF m 2 #[.val (.long q1), .second, .val (.long q2), .second, .unset, .unset, .unset, .unset] [(.long q2), (.long q1)])) rfl (by rw [hml]; rfl) (argsL := [(.long q1), (.long q2)]) (rest := []) (lenOf pd_0_0 rfl) rfl (by show 2 * 0 + _ ≤ _; exact Nat.le_of_eq rfl) (hb hby at_2) (fun _ _ => ⟨rfl, e0, (by decide : 0 + 1 ≤ _), (by decide : 0 + 6 ≤ _)⟩)
  dsimp only [Pt.U, Pt.locs, Pt.cells, Pt.slots] at X3 l3 y3 z3 st3 hQ3
  subst l3 y3 z3
  obtain ⟨b, rfl, N3q, hs3, EX3, G3_0, G3_1, G3_2, G3_3, G3_4, G3_5⟩ := hQ3
  have Z3 : n0 ≤ T3.heap.size := Nat.le_trans Z0 hs3
  have N3 := Fr.app N0 N3q
  obtain ⟨cq4, kq4, q4a, q4b, q4c⟩ := isOf hZ rfl EX3
  obtain ⟨_, _, ⟨T4, L4, k4, n4⟩, -, X4, ⟨Lc4, hQ4, l4, y4, z4⟩, st4⟩ := X3.virtualBack hx (y := (⟨"com/example/sole_holder/soleholder/Attempt", "takes", "()J"⟩ : MethodName)) (z := (⟨"com/example/sole_holder/soleholder/Attempt", "takes", "()J"⟩ : MethodName)) hown (mvT hZ (hw _ (List.mem_of_getElem? (i := 29) rfl))) (mvT hZ (hw _ (List.mem_of_getElem? (i := 30) rfl))) (notFace_of_selects (args := #[]) (mvT hZ (hw _ (List.mem_of_getElem? (i := 32) rfl)))) (mvT hZ (hw _ (List.mem_of_getElem? (i := 32) rfl))) (mvT hZ (hw _ (List.mem_of_getElem? (i := 31) rfl))) (by decide) (backOf (W := 0) (rm5 l Z a0 hw [] b q1 T3.heap n0 Z3 G3_0) hZ (hw _ (List.mem_of_getElem? (i := 33) rfl)) (hw _ (List.mem_of_getElem? (i := 2) rfl)) (by decide) (by decide)) q4a q4c (g := (mkF m 9 #[.val (.long q1), .second, .val (.long q2), .second, .val (.ref b), .unset, .unset, .unset] [(.ref b)])) rfl (by rw [hml]; rfl) (Steps.refl _) (argsL := []) (rest := []) (lenOf pd_0_3 rfl) rfl (by show 2 * 0 + _ ≤ _; exact Nat.le_of_eq rfl) (hb hby at_9) (fun _ _ => ⟨rfl, rfl, (by decide : 1 + 0 ≤ _), (by decide : 6 + 0 ≤ _)⟩)
  dsimp only [Pt.U, Pt.locs, Pt.cells, Pt.slots] at X4 l4 y4 z4 st4 hQ4
  subst l4 y4 z4
  obtain ⟨rfl, N4q, e4⟩ := hQ4
  have Z4 : n0 ≤ T4.heap.size := by rw [e4]; exact Z3
  have EX4 : Exa Z T4.heap b "com/example/sole_holder/soleholder/Attempt" := by rw [e4]; exact EX3
  have G4_0 : Fld Z T4.heap b "com/example/sole_holder/soleholder/Attempt" "takes" "J" (.long q1) := by rw [e4]; exact G3_0
  have G4_1 : Fld Z T4.heap b "com/example/sole_holder/soleholder/Attempt" "token" "J" (.long q2) := by rw [e4]; exact G3_1
  have G4_2 : Fld Z T4.heap b "com/example/sole_holder/soleholder/Attempt" "holder" "Ljava/lang/String;" .null := by rw [e4]; exact G3_2
  have G4_3 : Fld Z T4.heap b "com/example/sole_holder/soleholder/Attempt" "leaseLeft" "Ljava/time/Duration;" .null := by rw [e4]; exact G3_3
  have G4_4 : Fld Z T4.heap b "com/example/sole_holder/soleholder/Attempt" "refusal" "Lcom/example/sole_holder/soleholder/Attempt$Refusal;" .null := by rw [e4]; exact G3_4
  have G4_5 : Fld Z T4.heap b "com/example/sole_holder/soleholder/Attempt" "queued" "Z" (.int (0 : Int32)) := by rw [e4]; exact G3_5
  have N4 := Fr.app N3 N4q
  obtain ⟨cq5, kq5, q5a, q5b, q5c⟩ := isOf hZ rfl EX4
  obtain ⟨_, _, ⟨T5, L5, k5, n5⟩, -, X5, ⟨Lc5, hQ5, l5, y5, z5⟩, st5⟩ := X4.virtualBack hx (y := (⟨"com/example/sole_holder/soleholder/Attempt", "token", "()J"⟩ : MethodName)) (z := (⟨"com/example/sole_holder/soleholder/Attempt", "token", "()J"⟩ : MethodName)) hown (mvT hZ (hw _ (List.mem_of_getElem? (i := 34) rfl))) (mvT hZ (hw _ (List.mem_of_getElem? (i := 35) rfl))) (notFace_of_selects (args := #[]) (mvT hZ (hw _ (List.mem_of_getElem? (i := 37) rfl)))) (mvT hZ (hw _ (List.mem_of_getElem? (i := 37) rfl))) (mvT hZ (hw _ (List.mem_of_getElem? (i := 36) rfl))) (by decide) (backOf (W := 0) (rm6 l Z a0 hw [] b q2 T4.heap n0 Z4 G4_1) hZ (hw _ (List.mem_of_getElem? (i := 38) rfl)) (hw _ (List.mem_of_getElem? (i := 2) rfl)) (by decide) (by decide)) q5a q5c (g := (mkF m 19 #[.val (.long q1), .second, .val (.long q2), .second, .val (.ref b), .unset, .unset, .unset] [(.ref b)])) rfl (by rw [hml]; rfl) (Steps.refl _) (argsL := []) (rest := []) (lenOf pd_0_3 rfl) rfl (by show 2 * 0 + _ ≤ _; exact Nat.le_of_eq rfl) (hb hby at_19) (fun _ _ => ⟨rfl, rfl, (by decide : 1 + 0 ≤ _), (by decide : 6 + 0 ≤ _)⟩)
  dsimp only [Pt.U, Pt.locs, Pt.cells, Pt.slots] at X5 l5 y5 z5 st5 hQ5
  subst l5 y5 z5
  obtain ⟨rfl, N5q, e5⟩ := hQ5
  have Z5 : n0 ≤ T5.heap.size := by rw [e5]; exact Z4
  have EX5 : Exa Z T5.heap b "com/example/sole_holder/soleholder/Attempt" := by rw [e5]; exact EX4
  have G5_0 : Fld Z T5.heap b "com/example/sole_holder/soleholder/Attempt" "takes" "J" (.long q1) := by rw [e5]; exact G4_0
  have G5_1 : Fld Z T5.heap b "com/example/sole_holder/soleholder/Attempt" "token" "J" (.long q2) := by rw [e5]; exact G4_1
  have G5_2 : Fld Z T5.heap b "com/example/sole_holder/soleholder/Attempt" "holder" "Ljava/lang/String;" .null := by rw [e5]; exact G4_2
  have G5_3 : Fld Z T5.heap b "com/example/sole_holder/soleholder/Attempt" "leaseLeft" "Ljava/time/Duration;" .null := by rw [e5]; exact G4_3
  have G5_4 : Fld Z T5.heap b "com/example/sole_holder/soleholder/Attempt" "refusal" "Lcom/example/sole_holder/soleholder/Attempt$Refusal;" .null := by rw [e5]; exact G4_4
  have G5_5 : Fld Z T5.heap b "com/example/sole_holder/soleholder/Attempt" "queued" "Z" (.int (0 : Int32)) := by rw [e5]; exact G4_5
  have N5 := Fr.app N4 N5q
  obtain ⟨cq6, kq6, q6a, q6b, q6c⟩ := isOf hZ rfl EX5
  obtain ⟨_, _, ⟨T6, L6, k6, n6⟩, -, X6, ⟨Lc6, hQ6, l6, y6, z6⟩, st6⟩ := X5.virtualBack hx (y := (⟨"com/example/sole_holder/soleholder/Attempt", "holder", "()Ljava/lang/String;"⟩ : MethodName)) (z := (⟨"com/example/sole_holder/soleholder/Attempt", "holder", "()Ljava/lang/String;"⟩ : MethodName)) hown (mvT hZ (hw _ (List.mem_of_getElem? (i := 39) rfl))) (mvT hZ (hw _ (List.mem_of_getElem? (i := 40) rfl))) (notFace_of_selects (args := #[]) (mvT hZ (hw _ (List.mem_of_getElem? (i := 42) rfl)))) (mvT hZ (hw _ (List.mem_of_getElem? (i := 42) rfl))) (mvT hZ (hw _ (List.mem_of_getElem? (i := 41) rfl))) (by decide) (backOf (W := 0) (rm7 l Z a0 hw [] b T5.heap n0 Z5 G5_2) hZ (hw _ (List.mem_of_getElem? (i := 43) rfl)) (hw _ (List.mem_of_getElem? (i := 2) rfl)) (by decide) (by decide)) q6a q6c (g := (mkF m 36 #[.val (.long q1), .second, .val (.long q2), .second, .val (.ref b), .val (.int (1 : Int32)), .unset, .unset] [(.ref b)])) rfl (by rw [hml]; rfl) (Steps.refl _) (argsL := []) (rest := []) (lenOf pd_0_4 rfl) rfl (by show 2 * 0 + _ ≤ _; exact Nat.le_of_eq rfl) (hb hby at_36) (fun _ _ => ⟨rfl, rfl, (by decide : 1 + 0 ≤ _), (by decide : 6 + 0 ≤ _)⟩)
  dsimp only [Pt.U, Pt.locs, Pt.cells, Pt.slots] at X6 l6 y6 z6 st6 hQ6
  subst l6 y6 z6
  obtain ⟨rfl, N6q, e6⟩ := hQ6
  have Z6 : n0 ≤ T6.heap.size := by rw [e6]; exact Z5
  have EX6 : Exa Z T6.heap b "com/example/sole_holder/soleholder/Attempt" := by rw [e6]; exact EX5
  have G6_0 : Fld Z T6.heap b "com/example/sole_holder/soleholder/Attempt" "takes" "J" (.long q1) := by rw [e6]; exact G5_0
  have G6_1 : Fld Z T6.heap b "com/example/sole_holder/soleholder/Attempt" "token" "J" (.long q2) := by rw [e6]; exact G5_1
  have G6_2 : Fld Z T6.heap b "com/example/sole_holder/soleholder/Attempt" "holder" "Ljava/lang/String;" .null := by rw [e6]; exact G5_2
  have G6_3 : Fld Z T6.heap b "com/example/sole_holder/soleholder/Attempt" "leaseLeft" "Ljava/time/Duration;" .null := by rw [e6]; exact G5_3
  have G6_4 : Fld Z T6.heap b "com/example/sole_holder/soleholder/Attempt" "refusal" "Lcom/example/sole_holder/soleholder/Attempt$Refusal;" .null := by rw [e6]; exact G5_4
  have G6_5 : Fld Z T6.heap b "com/example/sole_holder/soleholder/Attempt" "queued" "Z" (.int (0 : Int32)) := by rw [e6]; exact G5_5
  have N6 := Fr.app N5 N6q
  obtain ⟨cq7, kq7, q7a, q7b, q7c⟩ := isOf hZ rfl EX6
  obtain ⟨_, _, ⟨T7, L7, k7, n7⟩, -, X7, ⟨Lc7, hQ7, l7, y7, z7⟩, st7⟩ := X6.virtualBack hx (y := (⟨"com/example/sole_holder/soleholder/Attempt", "leaseLeft", "()Ljava/time/Duration;"⟩ : MethodName)) (z := (⟨"com/example/sole_holder/soleholder/Attempt", "leaseLeft", "()Ljava/time/Duration;"⟩ : MethodName)) hown (mvT hZ (hw _ (List.mem_of_getElem? (i := 44) rfl))) (mvT hZ (hw _ (List.mem_of_getElem? (i := 45) rfl))) (notFace_of_selects (args := #[]) (mvT hZ (hw _ (List.mem_of_getElem? (i := 47) rfl)))) (mvT hZ (hw _ (List.mem_of_getElem? (i := 47) rfl))) (mvT hZ (hw _ (List.mem_of_getElem? (i := 46) rfl))) (by decide) (backOf (W := 0) (rm8 l Z a0 hw [] b T6.heap n0 Z6 G6_3) hZ (hw _ (List.mem_of_getElem? (i := 48) rfl)) (hw _ (List.mem_of_getElem? (i := 2) rfl)) (by decide) (by decide)) q7a q7c (g := (mkF m 44 #[.val (.long q1), .second, .val (.long q2), .second, .val (.ref b), .val (.int (1 : Int32)), .unset, .unset] [(.ref b)])) rfl (by rw [hml]; rfl) (Steps.refl _) (argsL := []) (rest := []) (lenOf pd_0_5 rfl) rfl (by show 2 * 0 + _ ≤ _; exact Nat.le_of_eq rfl) (hb hby at_44) (fun _ _ => ⟨rfl, rfl, (by decide : 1 + 0 ≤ _), (by decide : 6 + 0 ≤ _)⟩)
  dsimp only [Pt.U, Pt.locs, Pt.cells, Pt.slots] at X7 l7 y7 z7 st7 hQ7
  subst l7 y7 z7
  obtain ⟨rfl, N7q, e7⟩ := hQ7
  have Z7 : n0 ≤ T7.heap.size := by rw [e7]; exact Z6
  have EX7 : Exa Z T7.heap b "com/example/sole_holder/soleholder/Attempt" := by rw [e7]; exact EX6
  have G7_0 : Fld Z T7.heap b "com/example/sole_holder/soleholder/Attempt" "takes" "J" (.long q1) := by rw [e7]; exact G6_0
  have G7_1 : Fld Z T7.heap b "com/example/sole_holder/soleholder/Attempt" "token" "J" (.long q2) := by rw [e7]; exact G6_1
  have G7_2 : Fld Z T7.heap b "com/example/sole_holder/soleholder/Attempt" "holder" "Ljava/lang/String;" .null := by rw [e7]; exact G6_2
  have G7_3 : Fld Z T7.heap b "com/example/sole_holder/soleholder/Attempt" "leaseLeft" "Ljava/time/Duration;" .null := by rw [e7]; exact G6_3
  have G7_4 : Fld Z T7.heap b "com/example/sole_holder/soleholder/Attempt" "refusal" "Lcom/example/sole_holder/soleholder/Attempt$Refusal;" .null := by rw [e7]; exact G6_4
  have G7_5 : Fld Z T7.heap b "com/example/sole_holder/soleholder/Attempt" "queued" "Z" (.int (0 : Int32)) := by rw [e7]; exact G6_5
  have N7 := Fr.app N6 N7q
  obtain ⟨cq8, kq8, q8a, q8b, q8c⟩ := isOf hZ rfl EX7
  obtain ⟨_, _, ⟨T8, L8, k8, n8⟩, -, X8, ⟨Lc8, hQ8, l8, y8, z8⟩, st8⟩ := X7.virtualBack hx (y := (⟨"com/example/sole_holder/soleholder/Attempt", "refusal", "()Lcom/example/sole_holder/soleholder/Attempt$Refusal;"⟩ : MethodName)) (z := (⟨"com/example/sole_holder/soleholder/Attempt", "refusal", "()Lcom/example/sole_holder/soleholder/Attempt$Refusal;"⟩ : MethodName)) hown (mvT hZ (hw _ (List.mem_of_getElem? (i := 49) rfl))) (mvT hZ (hw _ (List.mem_of_getElem? (i := 50) rfl))) (notFace_of_selects (args := #[]) (mvT hZ (hw _ (List.mem_of_getElem? (i := 52) rfl)))) (mvT hZ (hw _ (List.mem_of_getElem? (i := 52) rfl))) (mvT hZ (hw _ (List.mem_of_getElem? (i := 51) rfl))) (by decide) (backOf (W := 0) (rm9 l Z a0 hw [] b T7.heap n0 Z7 G7_4) hZ (hw _ (List.mem_of_getElem? (i := 53) rfl)) (hw _ (List.mem_of_getElem? (i := 2) rfl)) (by decide) (by decide)) q8a q8c (g := (mkF m 52 #[.val (.long q1), .second, .val (.long q2), .second, .val (.ref b), .val (.int (1 : Int32)), .unset, .unset] [(.ref b)])) rfl (by rw [hml]; rfl) (Steps.refl _) (argsL := []) (rest := []) (lenOf pd_0_6 rfl) rfl (by show 2 * 0 + _ ≤ _; exact Nat.le_of_eq rfl) (hb hby at_52) (fun _ _ => ⟨rfl, rfl, (by decide : 1 + 0 ≤ _), (by decide : 6 + 0 ≤ _)⟩)
  dsimp only [Pt.U, Pt.locs, Pt.cells, Pt.slots] at X8 l8 y8 z8 st8 hQ8
  subst l8 y8 z8
  obtain ⟨rfl, N8q, e8⟩ := hQ8
  have Z8 : n0 ≤ T8.heap.size := by rw [e8]; exact Z7
  have EX8 : Exa Z T8.heap b "com/example/sole_holder/soleholder/Attempt" := by rw [e8]; exact EX7
  have G8_0 : Fld Z T8.heap b "com/example/sole_holder/soleholder/Attempt" "takes" "J" (.long q1) := by rw [e8]; exact G7_0
  have G8_1 : Fld Z T8.heap b "com/example/sole_holder/soleholder/Attempt" "token" "J" (.long q2) := by rw [e8]; exact G7_1
  have G8_2 : Fld Z T8.heap b "com/example/sole_holder/soleholder/Attempt" "holder" "Ljava/lang/String;" .null := by rw [e8]; exact G7_2
  have G8_3 : Fld Z T8.heap b "com/example/sole_holder/soleholder/Attempt" "leaseLeft" "Ljava/time/Duration;" .null := by rw [e8]; exact G7_3
  have G8_4 : Fld Z T8.heap b "com/example/sole_holder/soleholder/Attempt" "refusal" "Lcom/example/sole_holder/soleholder/Attempt$Refusal;" .null := by rw [e8]; exact G7_4
  have G8_5 : Fld Z T8.heap b "com/example/sole_holder/soleholder/Attempt" "queued" "Z" (.int (0 : Int32)) := by rw [e8]; exact G7_5
  have N8 := Fr.app N7 N8q
  obtain ⟨cq9, kq9, q9a, q9b, q9c⟩ := isOf hZ rfl EX8
  obtain ⟨_, _, ⟨T9, L9, k9, n9⟩, -, X9, ⟨Lc9, hQ9, l9, y9, z9⟩, st9⟩ := X8.virtualBack hx (y := (⟨"com/example/sole_holder/soleholder/Attempt", "queued", "()Z"⟩ : MethodName)) (z := (⟨"com/example/sole_holder/soleholder/Attempt", "queued", "()Z"⟩ : MethodName)) hown (mvT hZ (hw _ (List.mem_of_getElem? (i := 54) rfl))) (mvT hZ (hw _ (List.mem_of_getElem? (i := 55) rfl))) (notFace_of_selects (args := #[]) (mvT hZ (hw _ (List.mem_of_getElem? (i := 57) rfl)))) (mvT hZ (hw _ (List.mem_of_getElem? (i := 57) rfl))) (mvT hZ (hw _ (List.mem_of_getElem? (i := 56) rfl))) (by decide) (backOf (W := 0) (rm10 l Z a0 hw [] b T8.heap n0 Z8 G8_5) hZ (hw _ (List.mem_of_getElem? (i := 58) rfl)) (hw _ (List.mem_of_getElem? (i := 2) rfl)) (by decide) (by decide)) q9a q9c (g := (mkF m 60 #[.val (.long q1), .second, .val (.long q2), .second, .val (.ref b), .val (.int (1 : Int32)), .unset, .unset] [(.ref b)])) rfl (by rw [hml]; rfl) (Steps.refl _) (argsL := []) (rest := []) (lenOf pd_0_7 rfl) rfl (by show 2 * 0 + _ ≤ _; exact Nat.le_of_eq rfl) (hb hby at_60) (fun _ _ => ⟨rfl, rfl, (by decide : 1 + 0 ≤ _), (by decide : 6 + 0 ≤ _)⟩)
  dsimp only [Pt.U, Pt.locs, Pt.cells, Pt.slots] at X9 l9 y9 z9 st9 hQ9
  subst l9 y9 z9
  obtain ⟨rfl, N9q, e9⟩ := hQ9
  have Z9 : n0 ≤ T9.heap.size := by rw [e9]; exact Z8
  have EX9 : Exa Z T9.heap b "com/example/sole_holder/soleholder/Attempt" := by rw [e9]; exact EX8
  have G9_0 : Fld Z T9.heap b "com/example/sole_holder/soleholder/Attempt" "takes" "J" (.long q1) := by rw [e9]; exact G8_0
  have G9_1 : Fld Z T9.heap b "com/example/sole_holder/soleholder/Attempt" "token" "J" (.long q2) := by rw [e9]; exact G8_1
  have G9_2 : Fld Z T9.heap b "com/example/sole_holder/soleholder/Attempt" "holder" "Ljava/lang/String;" .null := by rw [e9]; exact G8_2
  have G9_3 : Fld Z T9.heap b "com/example/sole_holder/soleholder/Attempt" "leaseLeft" "Ljava/time/Duration;" .null := by rw [e9]; exact G8_3
  have G9_4 : Fld Z T9.heap b "com/example/sole_holder/soleholder/Attempt" "refusal" "Lcom/example/sole_holder/soleholder/Attempt$Refusal;" .null := by rw [e9]; exact G8_4
  have G9_5 : Fld Z T9.heap b "com/example/sole_holder/soleholder/Attempt" "queued" "Z" (.int (0 : Int32)) := by rw [e9]; exact G8_5
  have N9 := Fr.app N8 N9q
  obtain ⟨cq10, kq10, q10a, q10b, q10c⟩ := isOf hZ rfl EX9
  obtain ⟨_, _, ⟨T10, L10, k10, n10⟩, -, X10, ⟨Lc10, hQ10, l10, y10, z10⟩, st10⟩ := X9.virtualBack hx (y := (⟨"com/example/sole_holder/soleholder/Attempt", "granted", "()Z"⟩ : MethodName)) (z := (⟨"com/example/sole_holder/soleholder/Attempt", "granted", "()Z"⟩ : MethodName)) hown (mvT hZ (hw _ (List.mem_of_getElem? (i := 59) rfl))) (mvT hZ (hw _ (List.mem_of_getElem? (i := 60) rfl))) (notFace_of_selects (args := #[]) (mvT hZ (hw _ (List.mem_of_getElem? (i := 62) rfl)))) (mvT hZ (hw _ (List.mem_of_getElem? (i := 62) rfl))) (mvT hZ (hw _ (List.mem_of_getElem? (i := 61) rfl))) (by decide) (backOf (W := 0) (rm11 l Z a0 hw [] b q1 T9.heap n0 Z9 G9_0) hZ (hw _ (List.mem_of_getElem? (i := 63) rfl)) (hw _ (List.mem_of_getElem? (i := 2) rfl)) (by decide) (by decide)) q10a q10c (g := (mkF m 75 #[.val (.long q1), .second, .val (.long q2), .second, .val (.ref b), .val (.int (1 : Int32)), .val (.int (1 : Int32)), .unset] [(.ref b)])) rfl (by rw [hml]; rfl) (Steps.refl _) (argsL := []) (rest := []) (lenOf pd_0_7 rfl) rfl (by show 2 * 0 + _ ≤ _; exact Nat.le_of_eq rfl) (hb hby at_75) (fun _ _ => ⟨rfl, rfl, (by decide : 1 + 0 ≤ _), (by decide : 6 + 0 ≤ _)⟩)
  dsimp only [Pt.U, Pt.locs, Pt.cells, Pt.slots] at X10 l10 y10 z10 st10 hQ10
  subst l10 y10 z10
  obtain ⟨rfl, N10q, e10⟩ := hQ10
  have Z10 : n0 ≤ T10.heap.size := by rw [e10]; exact Z9
  have EX10 : Exa Z T10.heap b "com/example/sole_holder/soleholder/Attempt" := by rw [e10]; exact EX9
  have G10_0 : Fld Z T10.heap b "com/example/sole_holder/soleholder/Attempt" "takes" "J" (.long q1) := by rw [e10]; exact G9_0
  have G10_1 : Fld Z T10.heap b "com/example/sole_holder/soleholder/Attempt" "token" "J" (.long q2) := by rw [e10]; exact G9_1
  have G10_2 : Fld Z T10.heap b "com/example/sole_holder/soleholder/Attempt" "holder" "Ljava/lang/String;" .null := by rw [e10]; exact G9_2
  have G10_3 : Fld Z T10.heap b "com/example/sole_holder/soleholder/Attempt" "leaseLeft" "Ljava/time/Duration;" .null := by rw [e10]; exact G9_3
  have G10_4 : Fld Z T10.heap b "com/example/sole_holder/soleholder/Attempt" "refusal" "Lcom/example/sole_holder/soleholder/Attempt$Refusal;" .null := by rw [e10]; exact G9_4
  have G10_5 : Fld Z T10.heap b "com/example/sole_holder/soleholder/Attempt" "queued" "Z" (.int (0 : Int32)) := by rw [e10]; exact G9_5
  have N10 := Fr.app N9 N10q
  obtain ⟨fs, hr, hrun, hended, hW, hsame⟩ := X10.leave (v := some (.int (1 : Int32))) (fun h => by rw [Bd.returns] at h; cases h)
  refine ⟨_, _, pre0 _ ?_, hrun, hended, _, _, rfl, ?_, ⟨_, rfl⟩, hW, hsame.mono (by decide) (by decide)⟩
  · show Steps p.tables e below (s₁.setTop (mkF m 0 #[.val (.long q1), .second, .val (.long q2), .second, .unset, .unset, .unset, .unset] [])) _
    refine XS.lloadN X0.here hx rfl (hb hby at_0) rfl ?_
    show Steps p.tables e below (s₁.setTop (mkF m 1 #[.val (.long q1), .second, .val (.long q2), .second, .unset, .unset, .unset, .unset] [(.long q1)])) _
    refine XS.lloadN X0.here hx rfl (hb hby at_1) rfl ?_
    show Steps p.tables e below (s₁.setTop (mkF m 2 #[.val (.long q1), .second, .val (.long q2), .second, .unset, .unset, .unset, .unset] [(.long q2), (.long q1)])) _
    refine st3 _ ?_
    show Steps p.tables e below (T3.setTop (mkF m 5 #[.val (.long q1), .second, .val (.long q2), .second, .unset, .unset, .unset, .unset] [(.ref b)])) _
    refine XS.astore X3.here hx rfl (hb hby at_5) rfl rfl (l' := #[.val (.long q1), .second, .val (.long q2), .second, .val (.ref b), .unset, .unset, .unset]) rfl ?_
    show Steps p.tables e below (T3.setTop (mkF m 7 #[.val (.long q1), .second, .val (.long q2), .second, .val (.ref b), .unset, .unset, .unset] [])) _
    refine XS.aload X3.here hx rfl (hb hby at_7) rfl rfl ?_
    show Steps p.tables e below (T3.setTop (mkF m 9 #[.val (.long q1), .second, .val (.long q2), .second, .val (.ref b), .unset, .unset, .unset] [(.ref b)])) _
    refine st4.trans ?_
    show Steps p.tables e below (T4.setTop (mkF m 12 #[.val (.long q1), .second, .val (.long q2), .second, .val (.ref b), .unset, .unset, .unset] [(.long q1)])) _
    refine XS.lloadN X4.here hx rfl (hb hby at_12) rfl ?_
    show Steps p.tables e below (T4.setTop (mkF m 13 #[.val (.long q1), .second, .val (.long q2), .second, .val (.ref b), .unset, .unset, .unset] [(.long q1), (.long q1)])) _
    refine XS.lcmp X4.here hx rfl (hb hby at_13) rfl ?_
    show Steps p.tables e below (T4.setTop (mkF m 14 #[.val (.long q1), .second, .val (.long q2), .second, .val (.ref b), .unset, .unset, .unset] [(.int (lcmpW q1 q1))])) _
    refine XS.ifNo X4.here hx rfl (hb hby at_14) rfl ((if0 _ _).trans (teq (own_lc rfl : (lcmpW q1 q1) = (0 : Int32))).2) ?_
    show Steps p.tables e below (T4.setTop (mkF m 17 #[.val (.long q1), .second, .val (.long q2), .second, .val (.ref b), .unset, .unset, .unset] [])) _
    refine XS.aload X4.here hx rfl (hb hby at_17) rfl rfl ?_
    show Steps p.tables e below (T4.setTop (mkF m 19 #[.val (.long q1), .second, .val (.long q2), .second, .val (.ref b), .unset, .unset, .unset] [(.ref b)])) _
    refine st5.trans ?_
    show Steps p.tables e below (T5.setTop (mkF m 22 #[.val (.long q1), .second, .val (.long q2), .second, .val (.ref b), .unset, .unset, .unset] [(.long q2)])) _
    refine XS.lloadN X5.here hx rfl (hb hby at_22) rfl ?_
    show Steps p.tables e below (T5.setTop (mkF m 23 #[.val (.long q1), .second, .val (.long q2), .second, .val (.ref b), .unset, .unset, .unset] [(.long q2), (.long q2)])) _
    refine XS.lcmp X5.here hx rfl (hb hby at_23) rfl ?_
    show Steps p.tables e below (T5.setTop (mkF m 24 #[.val (.long q1), .second, .val (.long q2), .second, .val (.ref b), .unset, .unset, .unset] [(.int (lcmpW q2 q2))])) _
    refine XS.ifNo X5.here hx rfl (hb hby at_24) rfl ((if0 _ _).trans (teq (own_lc rfl : (lcmpW q2 q2) = (0 : Int32))).2) ?_
    show Steps p.tables e below (T5.setTop (mkF m 27 #[.val (.long q1), .second, .val (.long q2), .second, .val (.ref b), .unset, .unset, .unset] [])) _
    refine XS.iconst X5.here hx rfl (hb hby at_27) ?_
    show Steps p.tables e below (T5.setTop (mkF m 28 #[.val (.long q1), .second, .val (.long q2), .second, .val (.ref b), .unset, .unset, .unset] [(.int (1 : Int32))])) _
    refine XS.goto X5.here hx rfl (pc0 := 28) (pc' := 32) rfl (hb hby at_28) (by decide) (by decide) ?_
    show Steps p.tables e below (T5.setTop (mkF m 32 #[.val (.long q1), .second, .val (.long q2), .second, .val (.ref b), .unset, .unset, .unset] [(.int (1 : Int32))])) _
    refine XS.istore X5.here hx rfl (hb hby at_32) rfl (l' := #[.val (.long q1), .second, .val (.long q2), .second, .val (.ref b), .val (.int (1 : Int32)), .unset, .unset]) rfl ?_
    show Steps p.tables e below (T5.setTop (mkF m 34 #[.val (.long q1), .second, .val (.long q2), .second, .val (.ref b), .val (.int (1 : Int32)), .unset, .unset] [])) _
    refine XS.aload X5.here hx rfl (hb hby at_34) rfl rfl ?_
    show Steps p.tables e below (T5.setTop (mkF m 36 #[.val (.long q1), .second, .val (.long q2), .second, .val (.ref b), .val (.int (1 : Int32)), .unset, .unset] [(.ref b)])) _
    refine st6.trans ?_
    show Steps p.tables e below (T6.setTop (mkF m 39 #[.val (.long q1), .second, .val (.long q2), .second, .val (.ref b), .val (.int (1 : Int32)), .unset, .unset] [.null])) _
    refine XS.ifnonnullNo X6.here hx rfl (hb hby at_39) rfl ?_
    show Steps p.tables e below (T6.setTop (mkF m 42 #[.val (.long q1), .second, .val (.long q2), .second, .val (.ref b), .val (.int (1 : Int32)), .unset, .unset] [])) _
    refine XS.aload X6.here hx rfl (hb hby at_42) rfl rfl ?_
    show Steps p.tables e below (T6.setTop (mkF m 44 #[.val (.long q1), .second, .val (.long q2), .second, .val (.ref b), .val (.int (1 : Int32)), .unset, .unset] [(.ref b)])) _
    refine st7.trans ?_
    show Steps p.tables e below (T7.setTop (mkF m 47 #[.val (.long q1), .second, .val (.long q2), .second, .val (.ref b), .val (.int (1 : Int32)), .unset, .unset] [.null])) _
    refine XS.ifnonnullNo X7.here hx rfl (hb hby at_47) rfl ?_
    show Steps p.tables e below (T7.setTop (mkF m 50 #[.val (.long q1), .second, .val (.long q2), .second, .val (.ref b), .val (.int (1 : Int32)), .unset, .unset] [])) _
    refine XS.aload X7.here hx rfl (hb hby at_50) rfl rfl ?_
    show Steps p.tables e below (T7.setTop (mkF m 52 #[.val (.long q1), .second, .val (.long q2), .second, .val (.ref b), .val (.int (1 : Int32)), .unset, .unset] [(.ref b)])) _
    refine st8.trans ?_
    show Steps p.tables e below (T8.setTop (mkF m 55 #[.val (.long q1), .second, .val (.long q2), .second, .val (.ref b), .val (.int (1 : Int32)), .unset, .unset] [.null])) _
    refine XS.ifnonnullNo X8.here hx rfl (hb hby at_55) rfl ?_
    show Steps p.tables e below (T8.setTop (mkF m 58 #[.val (.long q1), .second, .val (.long q2), .second, .val (.ref b), .val (.int (1 : Int32)), .unset, .unset] [])) _
    refine XS.aload X8.here hx rfl (hb hby at_58) rfl rfl ?_
    show Steps p.tables e below (T8.setTop (mkF m 60 #[.val (.long q1), .second, .val (.long q2), .second, .val (.ref b), .val (.int (1 : Int32)), .unset, .unset] [(.ref b)])) _
    refine st9.trans ?_
    show Steps p.tables e below (T9.setTop (mkF m 63 #[.val (.long q1), .second, .val (.long q2), .second, .val (.ref b), .val (.int (1 : Int32)), .unset, .unset] [(.int (0 : Int32))])) _
    refine XS.ifNo X9.here hx rfl (hb hby at_63) rfl ((if0 _ _).trans (teq (rfl : (0 : Int32) = (0 : Int32))).2) ?_
    show Steps p.tables e below (T9.setTop (mkF m 66 #[.val (.long q1), .second, .val (.long q2), .second, .val (.ref b), .val (.int (1 : Int32)), .unset, .unset] [])) _
    refine XS.iconst X9.here hx rfl (hb hby at_66) ?_
    show Steps p.tables e below (T9.setTop (mkF m 67 #[.val (.long q1), .second, .val (.long q2), .second, .val (.ref b), .val (.int (1 : Int32)), .unset, .unset] [(.int (1 : Int32))])) _
    refine XS.goto X9.here hx rfl (pc0 := 67) (pc' := 71) rfl (hb hby at_67) (by decide) (by decide) ?_
    show Steps p.tables e below (T9.setTop (mkF m 71 #[.val (.long q1), .second, .val (.long q2), .second, .val (.ref b), .val (.int (1 : Int32)), .unset, .unset] [(.int (1 : Int32))])) _
    refine XS.istore X9.here hx rfl (hb hby at_71) rfl (l' := #[.val (.long q1), .second, .val (.long q2), .second, .val (.ref b), .val (.int (1 : Int32)), .val (.int (1 : Int32)), .unset]) rfl ?_
    show Steps p.tables e below (T9.setTop (mkF m 73 #[.val (.long q1), .second, .val (.long q2), .second, .val (.ref b), .val (.int (1 : Int32)), .val (.int (1 : Int32)), .unset] [])) _
    refine XS.aload X9.here hx rfl (hb hby at_73) rfl rfl ?_
    show Steps p.tables e below (T9.setTop (mkF m 75 #[.val (.long q1), .second, .val (.long q2), .second, .val (.ref b), .val (.int (1 : Int32)), .val (.int (1 : Int32)), .unset] [(.ref b)])) _
    refine st10.trans ?_
    show Steps p.tables e below (T10.setTop (mkF m 78 #[.val (.long q1), .second, .val (.long q2), .second, .val (.ref b), .val (.int (1 : Int32)), .val (.int (1 : Int32)), .unset] [(.int (own_g q1))])) _
    refine XS.lloadN X10.here hx rfl (hb hby at_78) rfl ?_
    show Steps p.tables e below (T10.setTop (mkF m 79 #[.val (.long q1), .second, .val (.long q2), .second, .val (.ref b), .val (.int (1 : Int32)), .val (.int (1 : Int32)), .unset] [(.long q1), (.int (own_g q1))])) _
    refine XS.lconst X10.here hx rfl (hb hby at_79) ?_
    show Steps p.tables e below (T10.setTop (mkF m 80 #[.val (.long q1), .second, .val (.long q2), .second, .val (.ref b), .val (.int (1 : Int32)), .val (.int (1 : Int32)), .unset] [(.long (0 : Int64)), (.long q1), (.int (own_g q1))])) _
    refine XS.lcmp X10.here hx rfl (hb hby at_80) rfl ?_
    show Steps p.tables e below (T10.setTop (mkF m 81 #[.val (.long q1), .second, .val (.long q2), .second, .val (.ref b), .val (.int (1 : Int32)), .val (.int (1 : Int32)), .unset] [(.int (lcmpW q1 (0 : Int64))), (.int (own_g q1))])) _
    refine XS.ifNo X10.here hx rfl (hb hby at_81) rfl ((if0 _ _).trans (tlt hc81).2.2.2) ?_
    show Steps p.tables e below (T10.setTop (mkF m 84 #[.val (.long q1), .second, .val (.long q2), .second, .val (.ref b), .val (.int (1 : Int32)), .val (.int (1 : Int32)), .unset] [(.int (own_g q1))])) _
    refine XS.iconst X10.here hx rfl (hb hby at_84) ?_
    show Steps p.tables e below (T10.setTop (mkF m 85 #[.val (.long q1), .second, .val (.long q2), .second, .val (.ref b), .val (.int (1 : Int32)), .val (.int (1 : Int32)), .unset] [(.int (1 : Int32)), (.int (own_g q1))])) _
    refine XS.goto X10.here hx rfl (pc0 := 85) (pc' := 89) rfl (hb hby at_85) (by decide) (by decide) ?_
    show Steps p.tables e below (T10.setTop (mkF m 89 #[.val (.long q1), .second, .val (.long q2), .second, .val (.ref b), .val (.int (1 : Int32)), .val (.int (1 : Int32)), .unset] [(.int (1 : Int32)), (.int (own_g q1))])) _
    refine XS.icmpNo X10.here hx rfl (hb hby at_89) rfl (teq (if_pos hc81 : (own_g q1) = (1 : Int32))).2 ?_
    show Steps p.tables e below (T10.setTop (mkF m 92 #[.val (.long q1), .second, .val (.long q2), .second, .val (.ref b), .val (.int (1 : Int32)), .val (.int (1 : Int32)), .unset] [])) _
    refine XS.iconst X10.here hx rfl (hb hby at_92) ?_
    show Steps p.tables e below (T10.setTop (mkF m 93 #[.val (.long q1), .second, .val (.long q2), .second, .val (.ref b), .val (.int (1 : Int32)), .val (.int (1 : Int32)), .unset] [(.int (1 : Int32))])) _
    refine XS.goto X10.here hx rfl (pc0 := 93) (pc' := 97) rfl (hb hby at_93) (by decide) (by decide) ?_
    show Steps p.tables e below (T10.setTop (mkF m 97 #[.val (.long q1), .second, .val (.long q2), .second, .val (.ref b), .val (.int (1 : Int32)), .val (.int (1 : Int32)), .unset] [(.int (1 : Int32))])) _
    refine XS.istore X10.here hx rfl (hb hby at_97) rfl (l' := #[.val (.long q1), .second, .val (.long q2), .second, .val (.ref b), .val (.int (1 : Int32)), .val (.int (1 : Int32)), .val (.int (1 : Int32))]) rfl ?_
    show Steps p.tables e below (T10.setTop (mkF m 99 #[.val (.long q1), .second, .val (.long q2), .second, .val (.ref b), .val (.int (1 : Int32)), .val (.int (1 : Int32)), .val (.int (1 : Int32))] [])) _
    refine XS.iload X10.here hx rfl (hb hby at_99) rfl ?_
    show Steps p.tables e below (T10.setTop (mkF m 101 #[.val (.long q1), .second, .val (.long q2), .second, .val (.ref b), .val (.int (1 : Int32)), .val (.int (1 : Int32)), .val (.int (1 : Int32))] [(.int (1 : Int32))])) _
    refine XS.ifNo X10.here hx rfl (hb hby at_101) rfl ((if0 _ _).trans (feq hc101).1) ?_
    show Steps p.tables e below (T10.setTop (mkF m 104 #[.val (.long q1), .second, .val (.long q2), .second, .val (.ref b), .val (.int (1 : Int32)), .val (.int (1 : Int32)), .val (.int (1 : Int32))] [])) _
    refine XS.iload X10.here hx rfl (hb hby at_104) rfl ?_
    show Steps p.tables e below (T10.setTop (mkF m 106 #[.val (.long q1), .second, .val (.long q2), .second, .val (.ref b), .val (.int (1 : Int32)), .val (.int (1 : Int32)), .val (.int (1 : Int32))] [(.int (1 : Int32))])) _
    refine XS.ifNo X10.here hx rfl (hb hby at_106) rfl ((if0 _ _).trans (feq hc106).1) ?_
    show Steps p.tables e below (T10.setTop (mkF m 109 #[.val (.long q1), .second, .val (.long q2), .second, .val (.ref b), .val (.int (1 : Int32)), .val (.int (1 : Int32)), .val (.int (1 : Int32))] [])) _
    refine XS.iload X10.here hx rfl (hb hby at_109) rfl ?_
    show Steps p.tables e below (T10.setTop (mkF m 111 #[.val (.long q1), .second, .val (.long q2), .second, .val (.ref b), .val (.int (1 : Int32)), .val (.int (1 : Int32)), .val (.int (1 : Int32))] [(.int (1 : Int32))])) _
    refine XS.ifNo X10.here hx rfl (hb hby at_111) rfl ((if0 _ _).trans (feq hc111).1) ?_
    show Steps p.tables e below (T10.setTop (mkF m 114 #[.val (.long q1), .second, .val (.long q2), .second, .val (.ref b), .val (.int (1 : Int32)), .val (.int (1 : Int32)), .val (.int (1 : Int32))] [])) _
    refine XS.iconst X10.here hx rfl (hb hby at_114) ?_
    show Steps p.tables e below (T10.setTop (mkF m 115 #[.val (.long q1), .second, .val (.long q2), .second, .val (.ref b), .val (.int (1 : Int32)), .val (.int (1 : Int32)), .val (.int (1 : Int32))] [(.int (1 : Int32))])) _
    refine XS.goto X10.here hx rfl (pc0 := 115) (pc' := 119) rfl (hb hby at_115) (by decide) (by decide) ?_
    show Steps p.tables e below (T10.setTop (mkF m 119 #[.val (.long q1), .second, .val (.long q2), .second, .val (.ref b), .val (.int (1 : Int32)), .val (.int (1 : Int32)), .val (.int (1 : Int32))] [(.int (1 : Int32))])) _
    exact retN X10 hx (t := .boolean) Bd.returns (by simp) (hb hby at_119) hr
  · show Q0 Z q1 q2 h0 n0 _ T10.heap _
    exact ⟨rfl, N10⟩
set_option maxRecDepth 65536 in
set_option maxHeartbeats 40000000 in
theorem rm0_n (l : Launch) (Z : State) (a0 : Array Value) (hw : ∀ d ∈ tables_1, d.before a0 Z = true) (ws : List Jvm.Cond) (q1 : Int64) (q2 : Int64) (h0 : Heap) (n0 : Nat) (Z0 : n0 ≤ h0.size) (hc81 : ¬ ((0 : Int32) < (lcmpW q1 (0 : Int64)))) (hc101 : ¬ ((1 : Int32) = (0 : Int32))) (hc106 : ¬ ((1 : Int32) = (0 : Int32))) (hc111 : ¬ ((1 : Int32) = (0 : Int32))) :
    MetFree l x (head1 (Jvm.Cond.code x code maxLocals ret :: ws) room_1) (fun a U => a = #[(.long q1), (.long q2)] ∧ Z.Warmed39 U.vm ∧ U.heap = h0) (fun _ _ _ _ _ => True) (fun _ U o U' => ∃ v L, o = .returned v ∧ Q0 Z q1 q2 h0 n0 v U'.heap L ∧ FrameEnd U o U' L room_1.cells room_1.slots) := by
  refine MetFree.of_bodySF (plainFor_of_name pn_0) hisR ?_
  intro p e s m args below meth c s₁ Bd hml0 hP hK
  obtain ⟨rfl, hZ, hh⟩ := hP
  have hx := Bd.exec
  have hby := Bd.bytes
  have hml : c.maxLocals = 8 := hml0
  have hown : s.vm.findClass "com/example/sole_holder/soleholder/AttemptGrantedPinLaw" = some m.cls := findClass_of_methodNamed Bd.named
  have hnm := (name_of_methodNamed Bd.named Bd.method).1
  have X0 : Stand p l e room_1 s m #[(.long q1), (.long q2)] below meth c s₁ [] 0 0 := Stand.of_body Bd
  have e0 : s₁.heap = h0 := by rw [← hh, Bd.state]; rfl
  have N0 := Fr.nil n0
  have pre0 : ∀ t, Steps p.tables e below (s₁.setTop (mkF m 0 #[.val (.long q1), .second, .val (.long q2), .second, .unset, .unset, .unset, .unset] [])) t → Steps p.tables e below (s₁.setTop (entryFrame m #[(.long q1), (.long q2)] maxLocals)) t := fun t k => castTop (ef_0 m q1 q2) k
  obtain ⟨_, _, ⟨T3, L3, k3, n3⟩, -, X3, ⟨Lc3, hQ3, l3, y3, z3⟩, st3⟩ := Jvm.LawKit.callS X0 hx (y := (⟨"com/example/sole_holder/soleholder/Attempt", "granted", "(JJ)Lcom/example/sole_holder/soleholder/Attempt;"⟩ : MethodName)) hown (mvT hZ (hw _ (List.mem_of_getElem? (i := 0) rfl))) (mvT hZ (hw _ (List.mem_of_getElem? (i := 1) rfl))) (mvT hZ (hw _ (List.mem_of_getElem? (i := 2) rfl))) (mvT hZ (hw _ (List.mem_of_getElem? (i := 3) rfl))) (by decide) (backOf (W := 0) (rm1 l Z a0 hw [] q1 q2 h0 n0 Z0) hZ (hw _ (List.mem_of_getElem? (i := 3) rfl)) (hw _ (List.mem_of_getElem? (i := 2) rfl)) (by decide) (by decide)) (g := (mkF m 2 #[.val (.long q1), .second, .val (.long q2), .second, .unset, .unset, .unset, .unset] [(.long q2), (.long q1)])) rfl (by rw [hml]; rfl) (argsL := [(.long q1), (.long q2)]) (rest := []) (lenOf pd_0_0 rfl) rfl (by show 2 * 0 + _ ≤ _; exact Nat.le_of_eq rfl) (hb hby at_2) (fun _ _ => ⟨rfl, e0, (by decide : 0 + 1 ≤ _), (by decide : 0 + 6 ≤ _)⟩)
  dsimp only [Pt.U, Pt.locs, Pt.cells, Pt.slots] at X3 l3 y3 z3 st3 hQ3
  subst l3 y3 z3
  obtain ⟨b, rfl, N3q, hs3, EX3, G3_0, G3_1, G3_2, G3_3, G3_4, G3_5⟩ := hQ3
  have Z3 : n0 ≤ T3.heap.size := Nat.le_trans Z0 hs3
  have N3 := Fr.app N0 N3q
  obtain ⟨cq4, kq4, q4a, q4b, q4c⟩ := isOf hZ rfl EX3
  obtain ⟨_, _, ⟨T4, L4, k4, n4⟩, -, X4, ⟨Lc4, hQ4, l4, y4, z4⟩, st4⟩ := X3.virtualBack hx (y := (⟨"com/example/sole_holder/soleholder/Attempt", "takes", "()J"⟩ : MethodName)) (z := (⟨"com/example/sole_holder/soleholder/Attempt", "takes", "()J"⟩ : MethodName)) hown (mvT hZ (hw _ (List.mem_of_getElem? (i := 29) rfl))) (mvT hZ (hw _ (List.mem_of_getElem? (i := 30) rfl))) (notFace_of_selects (args := #[]) (mvT hZ (hw _ (List.mem_of_getElem? (i := 32) rfl)))) (mvT hZ (hw _ (List.mem_of_getElem? (i := 32) rfl))) (mvT hZ (hw _ (List.mem_of_getElem? (i := 31) rfl))) (by decide) (backOf (W := 0) (rm5 l Z a0 hw [] b q1 T3.heap n0 Z3 G3_0) hZ (hw _ (List.mem_of_getElem? (i := 33) rfl)) (hw _ (List.mem_of_getElem? (i := 2) rfl)) (by decide) (by decide)) q4a q4c (g := (mkF m 9 #[.val (.long q1), .second, .val (.long q2), .second, .val (.ref b), .unset, .unset, .unset] [(.ref b)])) rfl (by rw [hml]; rfl) (Steps.refl _) (argsL := []) (rest := []) (lenOf pd_0_3 rfl) rfl (by show 2 * 0 + _ ≤ _; exact Nat.le_of_eq rfl) (hb hby at_9) (fun _ _ => ⟨rfl, rfl, (by decide : 1 + 0 ≤ _), (by decide : 6 + 0 ≤ _)⟩)
  dsimp only [Pt.U, Pt.locs, Pt.cells, Pt.slots] at X4 l4 y4 z4 st4 hQ4
  subst l4 y4 z4
  obtain ⟨rfl, N4q, e4⟩ := hQ4
  have Z4 : n0 ≤ T4.heap.size := by rw [e4]; exact Z3
  have EX4 : Exa Z T4.heap b "com/example/sole_holder/soleholder/Attempt" := by rw [e4]; exact EX3
  have G4_0 : Fld Z T4.heap b "com/example/sole_holder/soleholder/Attempt" "takes" "J" (.long q1) := by rw [e4]; exact G3_0
  have G4_1 : Fld Z T4.heap b "com/example/sole_holder/soleholder/Attempt" "token" "J" (.long q2) := by rw [e4]; exact G3_1
  have G4_2 : Fld Z T4.heap b "com/example/sole_holder/soleholder/Attempt" "holder" "Ljava/lang/String;" .null := by rw [e4]; exact G3_2
  have G4_3 : Fld Z T4.heap b "com/example/sole_holder/soleholder/Attempt" "leaseLeft" "Ljava/time/Duration;" .null := by rw [e4]; exact G3_3
  have G4_4 : Fld Z T4.heap b "com/example/sole_holder/soleholder/Attempt" "refusal" "Lcom/example/sole_holder/soleholder/Attempt$Refusal;" .null := by rw [e4]; exact G3_4
  have G4_5 : Fld Z T4.heap b "com/example/sole_holder/soleholder/Attempt" "queued" "Z" (.int (0 : Int32)) := by rw [e4]; exact G3_5
  have N4 := Fr.app N3 N4q
  obtain ⟨cq5, kq5, q5a, q5b, q5c⟩ := isOf hZ rfl EX4
  obtain ⟨_, _, ⟨T5, L5, k5, n5⟩, -, X5, ⟨Lc5, hQ5, l5, y5, z5⟩, st5⟩ := X4.virtualBack hx (y := (⟨"com/example/sole_holder/soleholder/Attempt", "token", "()J"⟩ : MethodName)) (z := (⟨"com/example/sole_holder/soleholder/Attempt", "token", "()J"⟩ : MethodName)) hown (mvT hZ (hw _ (List.mem_of_getElem? (i := 34) rfl))) (mvT hZ (hw _ (List.mem_of_getElem? (i := 35) rfl))) (notFace_of_selects (args := #[]) (mvT hZ (hw _ (List.mem_of_getElem? (i := 37) rfl)))) (mvT hZ (hw _ (List.mem_of_getElem? (i := 37) rfl))) (mvT hZ (hw _ (List.mem_of_getElem? (i := 36) rfl))) (by decide) (backOf (W := 0) (rm6 l Z a0 hw [] b q2 T4.heap n0 Z4 G4_1) hZ (hw _ (List.mem_of_getElem? (i := 38) rfl)) (hw _ (List.mem_of_getElem? (i := 2) rfl)) (by decide) (by decide)) q5a q5c (g := (mkF m 19 #[.val (.long q1), .second, .val (.long q2), .second, .val (.ref b), .unset, .unset, .unset] [(.ref b)])) rfl (by rw [hml]; rfl) (Steps.refl _) (argsL := []) (rest := []) (lenOf pd_0_3 rfl) rfl (by show 2 * 0 + _ ≤ _; exact Nat.le_of_eq rfl) (hb hby at_19) (fun _ _ => ⟨rfl, rfl, (by decide : 1 + 0 ≤ _), (by decide : 6 + 0 ≤ _)⟩)
  dsimp only [Pt.U, Pt.locs, Pt.cells, Pt.slots] at X5 l5 y5 z5 st5 hQ5
  subst l5 y5 z5
  obtain ⟨rfl, N5q, e5⟩ := hQ5
  have Z5 : n0 ≤ T5.heap.size := by rw [e5]; exact Z4
  have EX5 : Exa Z T5.heap b "com/example/sole_holder/soleholder/Attempt" := by rw [e5]; exact EX4
  have G5_0 : Fld Z T5.heap b "com/example/sole_holder/soleholder/Attempt" "takes" "J" (.long q1) := by rw [e5]; exact G4_0
  have G5_1 : Fld Z T5.heap b "com/example/sole_holder/soleholder/Attempt" "token" "J" (.long q2) := by rw [e5]; exact G4_1
  have G5_2 : Fld Z T5.heap b "com/example/sole_holder/soleholder/Attempt" "holder" "Ljava/lang/String;" .null := by rw [e5]; exact G4_2
  have G5_3 : Fld Z T5.heap b "com/example/sole_holder/soleholder/Attempt" "leaseLeft" "Ljava/time/Duration;" .null := by rw [e5]; exact G4_3
  have G5_4 : Fld Z T5.heap b "com/example/sole_holder/soleholder/Attempt" "refusal" "Lcom/example/sole_holder/soleholder/Attempt$Refusal;" .null := by rw [e5]; exact G4_4
  have G5_5 : Fld Z T5.heap b "com/example/sole_holder/soleholder/Attempt" "queued" "Z" (.int (0 : Int32)) := by rw [e5]; exact G4_5
  have N5 := Fr.app N4 N5q
  obtain ⟨cq6, kq6, q6a, q6b, q6c⟩ := isOf hZ rfl EX5
  obtain ⟨_, _, ⟨T6, L6, k6, n6⟩, -, X6, ⟨Lc6, hQ6, l6, y6, z6⟩, st6⟩ := X5.virtualBack hx (y := (⟨"com/example/sole_holder/soleholder/Attempt", "holder", "()Ljava/lang/String;"⟩ : MethodName)) (z := (⟨"com/example/sole_holder/soleholder/Attempt", "holder", "()Ljava/lang/String;"⟩ : MethodName)) hown (mvT hZ (hw _ (List.mem_of_getElem? (i := 39) rfl))) (mvT hZ (hw _ (List.mem_of_getElem? (i := 40) rfl))) (notFace_of_selects (args := #[]) (mvT hZ (hw _ (List.mem_of_getElem? (i := 42) rfl)))) (mvT hZ (hw _ (List.mem_of_getElem? (i := 42) rfl))) (mvT hZ (hw _ (List.mem_of_getElem? (i := 41) rfl))) (by decide) (backOf (W := 0) (rm7 l Z a0 hw [] b T5.heap n0 Z5 G5_2) hZ (hw _ (List.mem_of_getElem? (i := 43) rfl)) (hw _ (List.mem_of_getElem? (i := 2) rfl)) (by decide) (by decide)) q6a q6c (g := (mkF m 36 #[.val (.long q1), .second, .val (.long q2), .second, .val (.ref b), .val (.int (1 : Int32)), .unset, .unset] [(.ref b)])) rfl (by rw [hml]; rfl) (Steps.refl _) (argsL := []) (rest := []) (lenOf pd_0_4 rfl) rfl (by show 2 * 0 + _ ≤ _; exact Nat.le_of_eq rfl) (hb hby at_36) (fun _ _ => ⟨rfl, rfl, (by decide : 1 + 0 ≤ _), (by decide : 6 + 0 ≤ _)⟩)
  dsimp only [Pt.U, Pt.locs, Pt.cells, Pt.slots] at X6 l6 y6 z6 st6 hQ6
  subst l6 y6 z6
  obtain ⟨rfl, N6q, e6⟩ := hQ6
  have Z6 : n0 ≤ T6.heap.size := by rw [e6]; exact Z5
  have EX6 : Exa Z T6.heap b "com/example/sole_holder/soleholder/Attempt" := by rw [e6]; exact EX5
  have G6_0 : Fld Z T6.heap b "com/example/sole_holder/soleholder/Attempt" "takes" "J" (.long q1) := by rw [e6]; exact G5_0
  have G6_1 : Fld Z T6.heap b "com/example/sole_holder/soleholder/Attempt" "token" "J" (.long q2) := by rw [e6]; exact G5_1
  have G6_2 : Fld Z T6.heap b "com/example/sole_holder/soleholder/Attempt" "holder" "Ljava/lang/String;" .null := by rw [e6]; exact G5_2
  have G6_3 : Fld Z T6.heap b "com/example/sole_holder/soleholder/Attempt" "leaseLeft" "Ljava/time/Duration;" .null := by rw [e6]; exact G5_3
  have G6_4 : Fld Z T6.heap b "com/example/sole_holder/soleholder/Attempt" "refusal" "Lcom/example/sole_holder/soleholder/Attempt$Refusal;" .null := by rw [e6]; exact G5_4
  have G6_5 : Fld Z T6.heap b "com/example/sole_holder/soleholder/Attempt" "queued" "Z" (.int (0 : Int32)) := by rw [e6]; exact G5_5
  have N6 := Fr.app N5 N6q
  obtain ⟨cq7, kq7, q7a, q7b, q7c⟩ := isOf hZ rfl EX6
  obtain ⟨_, _, ⟨T7, L7, k7, n7⟩, -, X7, ⟨Lc7, hQ7, l7, y7, z7⟩, st7⟩ := X6.virtualBack hx (y := (⟨"com/example/sole_holder/soleholder/Attempt", "leaseLeft", "()Ljava/time/Duration;"⟩ : MethodName)) (z := (⟨"com/example/sole_holder/soleholder/Attempt", "leaseLeft", "()Ljava/time/Duration;"⟩ : MethodName)) hown (mvT hZ (hw _ (List.mem_of_getElem? (i := 44) rfl))) (mvT hZ (hw _ (List.mem_of_getElem? (i := 45) rfl))) (notFace_of_selects (args := #[]) (mvT hZ (hw _ (List.mem_of_getElem? (i := 47) rfl)))) (mvT hZ (hw _ (List.mem_of_getElem? (i := 47) rfl))) (mvT hZ (hw _ (List.mem_of_getElem? (i := 46) rfl))) (by decide) (backOf (W := 0) (rm8 l Z a0 hw [] b T6.heap n0 Z6 G6_3) hZ (hw _ (List.mem_of_getElem? (i := 48) rfl)) (hw _ (List.mem_of_getElem? (i := 2) rfl)) (by decide) (by decide)) q7a q7c (g := (mkF m 44 #[.val (.long q1), .second, .val (.long q2), .second, .val (.ref b), .val (.int (1 : Int32)), .unset, .unset] [(.ref b)])) rfl (by rw [hml]; rfl) (Steps.refl _) (argsL := []) (rest := []) (lenOf pd_0_5 rfl) rfl (by show 2 * 0 + _ ≤ _; exact Nat.le_of_eq rfl) (hb hby at_44) (fun _ _ => ⟨rfl, rfl, (by decide : 1 + 0 ≤ _), (by decide : 6 + 0 ≤ _)⟩)
  dsimp only [Pt.U, Pt.locs, Pt.cells, Pt.slots] at X7 l7 y7 z7 st7 hQ7
  subst l7 y7 z7
  obtain ⟨rfl, N7q, e7⟩ := hQ7
  have Z7 : n0 ≤ T7.heap.size := by rw [e7]; exact Z6
  have EX7 : Exa Z T7.heap b "com/example/sole_holder/soleholder/Attempt" := by rw [e7]; exact EX6
  have G7_0 : Fld Z T7.heap b "com/example/sole_holder/soleholder/Attempt" "takes" "J" (.long q1) := by rw [e7]; exact G6_0
  have G7_1 : Fld Z T7.heap b "com/example/sole_holder/soleholder/Attempt" "token" "J" (.long q2) := by rw [e7]; exact G6_1
  have G7_2 : Fld Z T7.heap b "com/example/sole_holder/soleholder/Attempt" "holder" "Ljava/lang/String;" .null := by rw [e7]; exact G6_2
  have G7_3 : Fld Z T7.heap b "com/example/sole_holder/soleholder/Attempt" "leaseLeft" "Ljava/time/Duration;" .null := by rw [e7]; exact G6_3
  have G7_4 : Fld Z T7.heap b "com/example/sole_holder/soleholder/Attempt" "refusal" "Lcom/example/sole_holder/soleholder/Attempt$Refusal;" .null := by rw [e7]; exact G6_4
  have G7_5 : Fld Z T7.heap b "com/example/sole_holder/soleholder/Attempt" "queued" "Z" (.int (0 : Int32)) := by rw [e7]; exact G6_5
  have N7 := Fr.app N6 N7q
  obtain ⟨cq8, kq8, q8a, q8b, q8c⟩ := isOf hZ rfl EX7
  obtain ⟨_, _, ⟨T8, L8, k8, n8⟩, -, X8, ⟨Lc8, hQ8, l8, y8, z8⟩, st8⟩ := X7.virtualBack hx (y := (⟨"com/example/sole_holder/soleholder/Attempt", "refusal", "()Lcom/example/sole_holder/soleholder/Attempt$Refusal;"⟩ : MethodName)) (z := (⟨"com/example/sole_holder/soleholder/Attempt", "refusal", "()Lcom/example/sole_holder/soleholder/Attempt$Refusal;"⟩ : MethodName)) hown (mvT hZ (hw _ (List.mem_of_getElem? (i := 49) rfl))) (mvT hZ (hw _ (List.mem_of_getElem? (i := 50) rfl))) (notFace_of_selects (args := #[]) (mvT hZ (hw _ (List.mem_of_getElem? (i := 52) rfl)))) (mvT hZ (hw _ (List.mem_of_getElem? (i := 52) rfl))) (mvT hZ (hw _ (List.mem_of_getElem? (i := 51) rfl))) (by decide) (backOf (W := 0) (rm9 l Z a0 hw [] b T7.heap n0 Z7 G7_4) hZ (hw _ (List.mem_of_getElem? (i := 53) rfl)) (hw _ (List.mem_of_getElem? (i := 2) rfl)) (by decide) (by decide)) q8a q8c (g := (mkF m 52 #[.val (.long q1), .second, .val (.long q2), .second, .val (.ref b), .val (.int (1 : Int32)), .unset, .unset] [(.ref b)])) rfl (by rw [hml]; rfl) (Steps.refl _) (argsL := []) (rest := []) (lenOf pd_0_6 rfl) rfl (by show 2 * 0 + _ ≤ _; exact Nat.le_of_eq rfl) (hb hby at_52) (fun _ _ => ⟨rfl, rfl, (by decide : 1 + 0 ≤ _), (by decide : 6 + 0 ≤ _)⟩)
  dsimp only [Pt.U, Pt.locs, Pt.cells, Pt.slots] at X8 l8 y8 z8 st8 hQ8
  subst l8 y8 z8
  obtain ⟨rfl, N8q, e8⟩ := hQ8
  have Z8 : n0 ≤ T8.heap.size := by rw [e8]; exact Z7
  have EX8 : Exa Z T8.heap b "com/example/sole_holder/soleholder/Attempt" := by rw [e8]; exact EX7
  have G8_0 : Fld Z T8.heap b "com/example/sole_holder/soleholder/Attempt" "takes" "J" (.long q1) := by rw [e8]; exact G7_0
  have G8_1 : Fld Z T8.heap b "com/example/sole_holder/soleholder/Attempt" "token" "J" (.long q2) := by rw [e8]; exact G7_1
  have G8_2 : Fld Z T8.heap b "com/example/sole_holder/soleholder/Attempt" "holder" "Ljava/lang/String;" .null := by rw [e8]; exact G7_2
  have G8_3 : Fld Z T8.heap b "com/example/sole_holder/soleholder/Attempt" "leaseLeft" "Ljava/time/Duration;" .null := by rw [e8]; exact G7_3
  have G8_4 : Fld Z T8.heap b "com/example/sole_holder/soleholder/Attempt" "refusal" "Lcom/example/sole_holder/soleholder/Attempt$Refusal;" .null := by rw [e8]; exact G7_4
  have G8_5 : Fld Z T8.heap b "com/example/sole_holder/soleholder/Attempt" "queued" "Z" (.int (0 : Int32)) := by rw [e8]; exact G7_5
  have N8 := Fr.app N7 N8q
  obtain ⟨cq9, kq9, q9a, q9b, q9c⟩ := isOf hZ rfl EX8
  obtain ⟨_, _, ⟨T9, L9, k9, n9⟩, -, X9, ⟨Lc9, hQ9, l9, y9, z9⟩, st9⟩ := X8.virtualBack hx (y := (⟨"com/example/sole_holder/soleholder/Attempt", "queued", "()Z"⟩ : MethodName)) (z := (⟨"com/example/sole_holder/soleholder/Attempt", "queued", "()Z"⟩ : MethodName)) hown (mvT hZ (hw _ (List.mem_of_getElem? (i := 54) rfl))) (mvT hZ (hw _ (List.mem_of_getElem? (i := 55) rfl))) (notFace_of_selects (args := #[]) (mvT hZ (hw _ (List.mem_of_getElem? (i := 57) rfl)))) (mvT hZ (hw _ (List.mem_of_getElem? (i := 57) rfl))) (mvT hZ (hw _ (List.mem_of_getElem? (i := 56) rfl))) (by decide) (backOf (W := 0) (rm10 l Z a0 hw [] b T8.heap n0 Z8 G8_5) hZ (hw _ (List.mem_of_getElem? (i := 58) rfl)) (hw _ (List.mem_of_getElem? (i := 2) rfl)) (by decide) (by decide)) q9a q9c (g := (mkF m 60 #[.val (.long q1), .second, .val (.long q2), .second, .val (.ref b), .val (.int (1 : Int32)), .unset, .unset] [(.ref b)])) rfl (by rw [hml]; rfl) (Steps.refl _) (argsL := []) (rest := []) (lenOf pd_0_7 rfl) rfl (by show 2 * 0 + _ ≤ _; exact Nat.le_of_eq rfl) (hb hby at_60) (fun _ _ => ⟨rfl, rfl, (by decide : 1 + 0 ≤ _), (by decide : 6 + 0 ≤ _)⟩)
  dsimp only [Pt.U, Pt.locs, Pt.cells, Pt.slots] at X9 l9 y9 z9 st9 hQ9
  subst l9 y9 z9
  obtain ⟨rfl, N9q, e9⟩ := hQ9
  have Z9 : n0 ≤ T9.heap.size := by rw [e9]; exact Z8
  have EX9 : Exa Z T9.heap b "com/example/sole_holder/soleholder/Attempt" := by rw [e9]; exact EX8
  have G9_0 : Fld Z T9.heap b "com/example/sole_holder/soleholder/Attempt" "takes" "J" (.long q1) := by rw [e9]; exact G8_0
  have G9_1 : Fld Z T9.heap b "com/example/sole_holder/soleholder/Attempt" "token" "J" (.long q2) := by rw [e9]; exact G8_1
  have G9_2 : Fld Z T9.heap b "com/example/sole_holder/soleholder/Attempt" "holder" "Ljava/lang/String;" .null := by rw [e9]; exact G8_2
  have G9_3 : Fld Z T9.heap b "com/example/sole_holder/soleholder/Attempt" "leaseLeft" "Ljava/time/Duration;" .null := by rw [e9]; exact G8_3
  have G9_4 : Fld Z T9.heap b "com/example/sole_holder/soleholder/Attempt" "refusal" "Lcom/example/sole_holder/soleholder/Attempt$Refusal;" .null := by rw [e9]; exact G8_4
  have G9_5 : Fld Z T9.heap b "com/example/sole_holder/soleholder/Attempt" "queued" "Z" (.int (0 : Int32)) := by rw [e9]; exact G8_5
  have N9 := Fr.app N8 N9q
  obtain ⟨cq10, kq10, q10a, q10b, q10c⟩ := isOf hZ rfl EX9
  obtain ⟨_, _, ⟨T10, L10, k10, n10⟩, -, X10, ⟨Lc10, hQ10, l10, y10, z10⟩, st10⟩ := X9.virtualBack hx (y := (⟨"com/example/sole_holder/soleholder/Attempt", "granted", "()Z"⟩ : MethodName)) (z := (⟨"com/example/sole_holder/soleholder/Attempt", "granted", "()Z"⟩ : MethodName)) hown (mvT hZ (hw _ (List.mem_of_getElem? (i := 59) rfl))) (mvT hZ (hw _ (List.mem_of_getElem? (i := 60) rfl))) (notFace_of_selects (args := #[]) (mvT hZ (hw _ (List.mem_of_getElem? (i := 62) rfl)))) (mvT hZ (hw _ (List.mem_of_getElem? (i := 62) rfl))) (mvT hZ (hw _ (List.mem_of_getElem? (i := 61) rfl))) (by decide) (backOf (W := 0) (rm11 l Z a0 hw [] b q1 T9.heap n0 Z9 G9_0) hZ (hw _ (List.mem_of_getElem? (i := 63) rfl)) (hw _ (List.mem_of_getElem? (i := 2) rfl)) (by decide) (by decide)) q10a q10c (g := (mkF m 75 #[.val (.long q1), .second, .val (.long q2), .second, .val (.ref b), .val (.int (1 : Int32)), .val (.int (1 : Int32)), .unset] [(.ref b)])) rfl (by rw [hml]; rfl) (Steps.refl _) (argsL := []) (rest := []) (lenOf pd_0_7 rfl) rfl (by show 2 * 0 + _ ≤ _; exact Nat.le_of_eq rfl) (hb hby at_75) (fun _ _ => ⟨rfl, rfl, (by decide : 1 + 0 ≤ _), (by decide : 6 + 0 ≤ _)⟩)
  dsimp only [Pt.U, Pt.locs, Pt.cells, Pt.slots] at X10 l10 y10 z10 st10 hQ10
  subst l10 y10 z10
  obtain ⟨rfl, N10q, e10⟩ := hQ10
  have Z10 : n0 ≤ T10.heap.size := by rw [e10]; exact Z9
  have EX10 : Exa Z T10.heap b "com/example/sole_holder/soleholder/Attempt" := by rw [e10]; exact EX9
  have G10_0 : Fld Z T10.heap b "com/example/sole_holder/soleholder/Attempt" "takes" "J" (.long q1) := by rw [e10]; exact G9_0
  have G10_1 : Fld Z T10.heap b "com/example/sole_holder/soleholder/Attempt" "token" "J" (.long q2) := by rw [e10]; exact G9_1
  have G10_2 : Fld Z T10.heap b "com/example/sole_holder/soleholder/Attempt" "holder" "Ljava/lang/String;" .null := by rw [e10]; exact G9_2
  have G10_3 : Fld Z T10.heap b "com/example/sole_holder/soleholder/Attempt" "leaseLeft" "Ljava/time/Duration;" .null := by rw [e10]; exact G9_3
  have G10_4 : Fld Z T10.heap b "com/example/sole_holder/soleholder/Attempt" "refusal" "Lcom/example/sole_holder/soleholder/Attempt$Refusal;" .null := by rw [e10]; exact G9_4
  have G10_5 : Fld Z T10.heap b "com/example/sole_holder/soleholder/Attempt" "queued" "Z" (.int (0 : Int32)) := by rw [e10]; exact G9_5
  have N10 := Fr.app N9 N10q
  obtain ⟨fs, hr, hrun, hended, hW, hsame⟩ := X10.leave (v := some (.int (1 : Int32))) (fun h => by rw [Bd.returns] at h; cases h)
  refine ⟨_, _, pre0 _ ?_, hrun, hended, _, _, rfl, ?_, ⟨_, rfl⟩, hW, hsame.mono (by decide) (by decide)⟩
  · show Steps p.tables e below (s₁.setTop (mkF m 0 #[.val (.long q1), .second, .val (.long q2), .second, .unset, .unset, .unset, .unset] [])) _
    refine XS.lloadN X0.here hx rfl (hb hby at_0) rfl ?_
    show Steps p.tables e below (s₁.setTop (mkF m 1 #[.val (.long q1), .second, .val (.long q2), .second, .unset, .unset, .unset, .unset] [(.long q1)])) _
    refine XS.lloadN X0.here hx rfl (hb hby at_1) rfl ?_
    show Steps p.tables e below (s₁.setTop (mkF m 2 #[.val (.long q1), .second, .val (.long q2), .second, .unset, .unset, .unset, .unset] [(.long q2), (.long q1)])) _
    refine st3 _ ?_
    show Steps p.tables e below (T3.setTop (mkF m 5 #[.val (.long q1), .second, .val (.long q2), .second, .unset, .unset, .unset, .unset] [(.ref b)])) _
    refine XS.astore X3.here hx rfl (hb hby at_5) rfl rfl (l' := #[.val (.long q1), .second, .val (.long q2), .second, .val (.ref b), .unset, .unset, .unset]) rfl ?_
    show Steps p.tables e below (T3.setTop (mkF m 7 #[.val (.long q1), .second, .val (.long q2), .second, .val (.ref b), .unset, .unset, .unset] [])) _
    refine XS.aload X3.here hx rfl (hb hby at_7) rfl rfl ?_
    show Steps p.tables e below (T3.setTop (mkF m 9 #[.val (.long q1), .second, .val (.long q2), .second, .val (.ref b), .unset, .unset, .unset] [(.ref b)])) _
    refine st4.trans ?_
    show Steps p.tables e below (T4.setTop (mkF m 12 #[.val (.long q1), .second, .val (.long q2), .second, .val (.ref b), .unset, .unset, .unset] [(.long q1)])) _
    refine XS.lloadN X4.here hx rfl (hb hby at_12) rfl ?_
    show Steps p.tables e below (T4.setTop (mkF m 13 #[.val (.long q1), .second, .val (.long q2), .second, .val (.ref b), .unset, .unset, .unset] [(.long q1), (.long q1)])) _
    refine XS.lcmp X4.here hx rfl (hb hby at_13) rfl ?_
    show Steps p.tables e below (T4.setTop (mkF m 14 #[.val (.long q1), .second, .val (.long q2), .second, .val (.ref b), .unset, .unset, .unset] [(.int (lcmpW q1 q1))])) _
    refine XS.ifNo X4.here hx rfl (hb hby at_14) rfl ((if0 _ _).trans (teq (own_lc rfl : (lcmpW q1 q1) = (0 : Int32))).2) ?_
    show Steps p.tables e below (T4.setTop (mkF m 17 #[.val (.long q1), .second, .val (.long q2), .second, .val (.ref b), .unset, .unset, .unset] [])) _
    refine XS.aload X4.here hx rfl (hb hby at_17) rfl rfl ?_
    show Steps p.tables e below (T4.setTop (mkF m 19 #[.val (.long q1), .second, .val (.long q2), .second, .val (.ref b), .unset, .unset, .unset] [(.ref b)])) _
    refine st5.trans ?_
    show Steps p.tables e below (T5.setTop (mkF m 22 #[.val (.long q1), .second, .val (.long q2), .second, .val (.ref b), .unset, .unset, .unset] [(.long q2)])) _
    refine XS.lloadN X5.here hx rfl (hb hby at_22) rfl ?_
    show Steps p.tables e below (T5.setTop (mkF m 23 #[.val (.long q1), .second, .val (.long q2), .second, .val (.ref b), .unset, .unset, .unset] [(.long q2), (.long q2)])) _
    refine XS.lcmp X5.here hx rfl (hb hby at_23) rfl ?_
    show Steps p.tables e below (T5.setTop (mkF m 24 #[.val (.long q1), .second, .val (.long q2), .second, .val (.ref b), .unset, .unset, .unset] [(.int (lcmpW q2 q2))])) _
    refine XS.ifNo X5.here hx rfl (hb hby at_24) rfl ((if0 _ _).trans (teq (own_lc rfl : (lcmpW q2 q2) = (0 : Int32))).2) ?_
    show Steps p.tables e below (T5.setTop (mkF m 27 #[.val (.long q1), .second, .val (.long q2), .second, .val (.ref b), .unset, .unset, .unset] [])) _
    refine XS.iconst X5.here hx rfl (hb hby at_27) ?_
    show Steps p.tables e below (T5.setTop (mkF m 28 #[.val (.long q1), .second, .val (.long q2), .second, .val (.ref b), .unset, .unset, .unset] [(.int (1 : Int32))])) _
    refine XS.goto X5.here hx rfl (pc0 := 28) (pc' := 32) rfl (hb hby at_28) (by decide) (by decide) ?_
    show Steps p.tables e below (T5.setTop (mkF m 32 #[.val (.long q1), .second, .val (.long q2), .second, .val (.ref b), .unset, .unset, .unset] [(.int (1 : Int32))])) _
    refine XS.istore X5.here hx rfl (hb hby at_32) rfl (l' := #[.val (.long q1), .second, .val (.long q2), .second, .val (.ref b), .val (.int (1 : Int32)), .unset, .unset]) rfl ?_
    show Steps p.tables e below (T5.setTop (mkF m 34 #[.val (.long q1), .second, .val (.long q2), .second, .val (.ref b), .val (.int (1 : Int32)), .unset, .unset] [])) _
    refine XS.aload X5.here hx rfl (hb hby at_34) rfl rfl ?_
    show Steps p.tables e below (T5.setTop (mkF m 36 #[.val (.long q1), .second, .val (.long q2), .second, .val (.ref b), .val (.int (1 : Int32)), .unset, .unset] [(.ref b)])) _
    refine st6.trans ?_
    show Steps p.tables e below (T6.setTop (mkF m 39 #[.val (.long q1), .second, .val (.long q2), .second, .val (.ref b), .val (.int (1 : Int32)), .unset, .unset] [.null])) _
    refine XS.ifnonnullNo X6.here hx rfl (hb hby at_39) rfl ?_
    show Steps p.tables e below (T6.setTop (mkF m 42 #[.val (.long q1), .second, .val (.long q2), .second, .val (.ref b), .val (.int (1 : Int32)), .unset, .unset] [])) _
    refine XS.aload X6.here hx rfl (hb hby at_42) rfl rfl ?_
    show Steps p.tables e below (T6.setTop (mkF m 44 #[.val (.long q1), .second, .val (.long q2), .second, .val (.ref b), .val (.int (1 : Int32)), .unset, .unset] [(.ref b)])) _
    refine st7.trans ?_
    show Steps p.tables e below (T7.setTop (mkF m 47 #[.val (.long q1), .second, .val (.long q2), .second, .val (.ref b), .val (.int (1 : Int32)), .unset, .unset] [.null])) _
    refine XS.ifnonnullNo X7.here hx rfl (hb hby at_47) rfl ?_
    show Steps p.tables e below (T7.setTop (mkF m 50 #[.val (.long q1), .second, .val (.long q2), .second, .val (.ref b), .val (.int (1 : Int32)), .unset, .unset] [])) _
    refine XS.aload X7.here hx rfl (hb hby at_50) rfl rfl ?_
    show Steps p.tables e below (T7.setTop (mkF m 52 #[.val (.long q1), .second, .val (.long q2), .second, .val (.ref b), .val (.int (1 : Int32)), .unset, .unset] [(.ref b)])) _
    refine st8.trans ?_
    show Steps p.tables e below (T8.setTop (mkF m 55 #[.val (.long q1), .second, .val (.long q2), .second, .val (.ref b), .val (.int (1 : Int32)), .unset, .unset] [.null])) _
    refine XS.ifnonnullNo X8.here hx rfl (hb hby at_55) rfl ?_
    show Steps p.tables e below (T8.setTop (mkF m 58 #[.val (.long q1), .second, .val (.long q2), .second, .val (.ref b), .val (.int (1 : Int32)), .unset, .unset] [])) _
    refine XS.aload X8.here hx rfl (hb hby at_58) rfl rfl ?_
    show Steps p.tables e below (T8.setTop (mkF m 60 #[.val (.long q1), .second, .val (.long q2), .second, .val (.ref b), .val (.int (1 : Int32)), .unset, .unset] [(.ref b)])) _
    refine st9.trans ?_
    show Steps p.tables e below (T9.setTop (mkF m 63 #[.val (.long q1), .second, .val (.long q2), .second, .val (.ref b), .val (.int (1 : Int32)), .unset, .unset] [(.int (0 : Int32))])) _
    refine XS.ifNo X9.here hx rfl (hb hby at_63) rfl ((if0 _ _).trans (teq (rfl : (0 : Int32) = (0 : Int32))).2) ?_
    show Steps p.tables e below (T9.setTop (mkF m 66 #[.val (.long q1), .second, .val (.long q2), .second, .val (.ref b), .val (.int (1 : Int32)), .unset, .unset] [])) _
    refine XS.iconst X9.here hx rfl (hb hby at_66) ?_
    show Steps p.tables e below (T9.setTop (mkF m 67 #[.val (.long q1), .second, .val (.long q2), .second, .val (.ref b), .val (.int (1 : Int32)), .unset, .unset] [(.int (1 : Int32))])) _
    refine XS.goto X9.here hx rfl (pc0 := 67) (pc' := 71) rfl (hb hby at_67) (by decide) (by decide) ?_
    show Steps p.tables e below (T9.setTop (mkF m 71 #[.val (.long q1), .second, .val (.long q2), .second, .val (.ref b), .val (.int (1 : Int32)), .unset, .unset] [(.int (1 : Int32))])) _
    refine XS.istore X9.here hx rfl (hb hby at_71) rfl (l' := #[.val (.long q1), .second, .val (.long q2), .second, .val (.ref b), .val (.int (1 : Int32)), .val (.int (1 : Int32)), .unset]) rfl ?_
    show Steps p.tables e below (T9.setTop (mkF m 73 #[.val (.long q1), .second, .val (.long q2), .second, .val (.ref b), .val (.int (1 : Int32)), .val (.int (1 : Int32)), .unset] [])) _
    refine XS.aload X9.here hx rfl (hb hby at_73) rfl rfl ?_
    show Steps p.tables e below (T9.setTop (mkF m 75 #[.val (.long q1), .second, .val (.long q2), .second, .val (.ref b), .val (.int (1 : Int32)), .val (.int (1 : Int32)), .unset] [(.ref b)])) _
    refine st10.trans ?_
    show Steps p.tables e below (T10.setTop (mkF m 78 #[.val (.long q1), .second, .val (.long q2), .second, .val (.ref b), .val (.int (1 : Int32)), .val (.int (1 : Int32)), .unset] [(.int (own_g q1))])) _
    refine XS.lloadN X10.here hx rfl (hb hby at_78) rfl ?_
    show Steps p.tables e below (T10.setTop (mkF m 79 #[.val (.long q1), .second, .val (.long q2), .second, .val (.ref b), .val (.int (1 : Int32)), .val (.int (1 : Int32)), .unset] [(.long q1), (.int (own_g q1))])) _
    refine XS.lconst X10.here hx rfl (hb hby at_79) ?_
    show Steps p.tables e below (T10.setTop (mkF m 80 #[.val (.long q1), .second, .val (.long q2), .second, .val (.ref b), .val (.int (1 : Int32)), .val (.int (1 : Int32)), .unset] [(.long (0 : Int64)), (.long q1), (.int (own_g q1))])) _
    refine XS.lcmp X10.here hx rfl (hb hby at_80) rfl ?_
    show Steps p.tables e below (T10.setTop (mkF m 81 #[.val (.long q1), .second, .val (.long q2), .second, .val (.ref b), .val (.int (1 : Int32)), .val (.int (1 : Int32)), .unset] [(.int (lcmpW q1 (0 : Int64))), (.int (own_g q1))])) _
    refine XS.ifYes X10.here hx rfl (pc0 := 81) (pc' := 88) rfl (hb hby at_81) rfl ((if0 _ _).trans (flt hc81).2.2.2) (by decide) (by decide) ?_
    show Steps p.tables e below (T10.setTop (mkF m 88 #[.val (.long q1), .second, .val (.long q2), .second, .val (.ref b), .val (.int (1 : Int32)), .val (.int (1 : Int32)), .unset] [(.int (own_g q1))])) _
    refine XS.iconst X10.here hx rfl (hb hby at_88) ?_
    show Steps p.tables e below (T10.setTop (mkF m 89 #[.val (.long q1), .second, .val (.long q2), .second, .val (.ref b), .val (.int (1 : Int32)), .val (.int (1 : Int32)), .unset] [(.int (0 : Int32)), (.int (own_g q1))])) _
    refine XS.icmpNo X10.here hx rfl (hb hby at_89) rfl (teq (if_neg hc81 : (own_g q1) = (0 : Int32))).2 ?_
    show Steps p.tables e below (T10.setTop (mkF m 92 #[.val (.long q1), .second, .val (.long q2), .second, .val (.ref b), .val (.int (1 : Int32)), .val (.int (1 : Int32)), .unset] [])) _
    refine XS.iconst X10.here hx rfl (hb hby at_92) ?_
    show Steps p.tables e below (T10.setTop (mkF m 93 #[.val (.long q1), .second, .val (.long q2), .second, .val (.ref b), .val (.int (1 : Int32)), .val (.int (1 : Int32)), .unset] [(.int (1 : Int32))])) _
    refine XS.goto X10.here hx rfl (pc0 := 93) (pc' := 97) rfl (hb hby at_93) (by decide) (by decide) ?_
    show Steps p.tables e below (T10.setTop (mkF m 97 #[.val (.long q1), .second, .val (.long q2), .second, .val (.ref b), .val (.int (1 : Int32)), .val (.int (1 : Int32)), .unset] [(.int (1 : Int32))])) _
    refine XS.istore X10.here hx rfl (hb hby at_97) rfl (l' := #[.val (.long q1), .second, .val (.long q2), .second, .val (.ref b), .val (.int (1 : Int32)), .val (.int (1 : Int32)), .val (.int (1 : Int32))]) rfl ?_
    show Steps p.tables e below (T10.setTop (mkF m 99 #[.val (.long q1), .second, .val (.long q2), .second, .val (.ref b), .val (.int (1 : Int32)), .val (.int (1 : Int32)), .val (.int (1 : Int32))] [])) _
    refine XS.iload X10.here hx rfl (hb hby at_99) rfl ?_
    show Steps p.tables e below (T10.setTop (mkF m 101 #[.val (.long q1), .second, .val (.long q2), .second, .val (.ref b), .val (.int (1 : Int32)), .val (.int (1 : Int32)), .val (.int (1 : Int32))] [(.int (1 : Int32))])) _
    refine XS.ifNo X10.here hx rfl (hb hby at_101) rfl ((if0 _ _).trans (feq hc101).1) ?_
    show Steps p.tables e below (T10.setTop (mkF m 104 #[.val (.long q1), .second, .val (.long q2), .second, .val (.ref b), .val (.int (1 : Int32)), .val (.int (1 : Int32)), .val (.int (1 : Int32))] [])) _
    refine XS.iload X10.here hx rfl (hb hby at_104) rfl ?_
    show Steps p.tables e below (T10.setTop (mkF m 106 #[.val (.long q1), .second, .val (.long q2), .second, .val (.ref b), .val (.int (1 : Int32)), .val (.int (1 : Int32)), .val (.int (1 : Int32))] [(.int (1 : Int32))])) _
    refine XS.ifNo X10.here hx rfl (hb hby at_106) rfl ((if0 _ _).trans (feq hc106).1) ?_
    show Steps p.tables e below (T10.setTop (mkF m 109 #[.val (.long q1), .second, .val (.long q2), .second, .val (.ref b), .val (.int (1 : Int32)), .val (.int (1 : Int32)), .val (.int (1 : Int32))] [])) _
    refine XS.iload X10.here hx rfl (hb hby at_109) rfl ?_
    show Steps p.tables e below (T10.setTop (mkF m 111 #[.val (.long q1), .second, .val (.long q2), .second, .val (.ref b), .val (.int (1 : Int32)), .val (.int (1 : Int32)), .val (.int (1 : Int32))] [(.int (1 : Int32))])) _
    refine XS.ifNo X10.here hx rfl (hb hby at_111) rfl ((if0 _ _).trans (feq hc111).1) ?_
    show Steps p.tables e below (T10.setTop (mkF m 114 #[.val (.long q1), .second, .val (.long q2), .second, .val (.ref b), .val (.int (1 : Int32)), .val (.int (1 : Int32)), .val (.int (1 : Int32))] [])) _
    refine XS.iconst X10.here hx rfl (hb hby at_114) ?_
    show Steps p.tables e below (T10.setTop (mkF m 115 #[.val (.long q1), .second, .val (.long q2), .second, .val (.ref b), .val (.int (1 : Int32)), .val (.int (1 : Int32)), .val (.int (1 : Int32))] [(.int (1 : Int32))])) _
    refine XS.goto X10.here hx rfl (pc0 := 115) (pc' := 119) rfl (hb hby at_115) (by decide) (by decide) ?_
    show Steps p.tables e below (T10.setTop (mkF m 119 #[.val (.long q1), .second, .val (.long q2), .second, .val (.ref b), .val (.int (1 : Int32)), .val (.int (1 : Int32)), .val (.int (1 : Int32))] [(.int (1 : Int32))])) _
    exact retN X10 hx (t := .boolean) Bd.returns (by simp) (hb hby at_119) hr
  · show Q0 Z q1 q2 h0 n0 _ T10.heap _
    exact ⟨rfl, N10⟩
theorem rm0 (l : Launch) (Z : State) (a0 : Array Value) (hw : ∀ d ∈ tables_1, d.before a0 Z = true) (ws : List Jvm.Cond) (q1 : Int64) (q2 : Int64) (h0 : Heap) (n0 : Nat) (Z0 : n0 ≤ h0.size) :
    MetFree l x (head1 (Jvm.Cond.code x code maxLocals ret :: ws) room_1) (fun a U => a = #[(.long q1), (.long q2)] ∧ Z.Warmed39 U.vm ∧ U.heap = h0) (fun _ _ _ _ _ => True) (fun _ U o U' => ∃ v L, o = .returned v ∧ Q0 Z q1 q2 h0 n0 v U'.heap L ∧ FrameEnd U o U' L room_1.cells room_1.slots) := by
  by_cases hc : (0 : Int32) < (lcmpW q1 (0 : Int64))
  · exact rm0_p l Z a0 hw ws q1 q2 h0 n0 Z0 hc (by decide) (by decide) (by decide)
  · exact rm0_n l Z a0 hw ws q1 q2 h0 n0 Z0 hc (by decide) (by decide) (by decide)
set_option maxRecDepth 65536 in
set_option maxHeartbeats 40000000 in
theorem comes_1 {Post : Tables → Env → Array Value → State → Outcome → State → Prop} (hpost : ∀ tb e args s v u, (limb_1_1.after args s (.returned v) u = true ∧ limb_1_2.after args s (.returned v) u = true ∧ True) → FrameEnd s (.returned v) u (Jvm.fieldLocs frame_1_writes args s ++ Jvm.arrayLocs frame_1_arrays args s ++ Jvm.staticLocs frame_1_statics s) 16 128 → Post tb e args s (.returned v) u) :
    ArmFor flags0 classFile x code maxLocals ret World_1 tables_1 room_1 Calls_1 rest_1 Pre_1 Post := by
  intro l hfl _ _ p e ha hc hk s m args below hf hA hF happ hP
  obtain ⟨hcalls, hrest, hpre⟩ := hP
  obtain ⟨-, -, -, hnamed, -, -, -, hat⟩ := (Spec.applies_iff hf).mp happ
  obtain ⟨hg, hn⟩ := and_e (Cond.before_iff.mp (show (Jvm.Cond.and given_1 narrow_1).before args s = true from hpre))
  obtain ⟨g11, g12⟩ := and_e hg
  obtain ⟨g13, g14⟩ := and_e g12
  obtain ⟨w0, w1, rfl⟩ : ∃ w0 w1 : Value, args = #[w0, w1] := by
    have hs : args.size = 2 := by simpa [Cond.value, given_1] using g11
    obtain ⟨L⟩ := args
    match L, hs with
    | [w0, w1], _ => exact ⟨w0, w1, rfl⟩
  have hw := fun d (hd : d ∈ tables_1) => atoms_spec (ws := Jvm.Cond.code x code maxLocals ret :: tables_1) hat d (List.mem_cons_of_mem _ hd)
  have hfit : Fit s := fun {y c} hc i hi => by
    obtain ⟨ha, rfl⟩ := Array.getElem?_eq_some_iff.mp hc
    have q := List.all_eq_true.mp ((Array.all_eq_true_iff_forall_mem.mp hF) _ (Array.getElem_mem ha)) i (List.mem_range.mpr hi)
    simpa [Array.getElem?_eq_getElem hi] using q
  obtain ⟨i0, ei0⟩ := isL_v g13
  obtain rfl : w0 = (.long i0) := Option.some.inj ei0
  obtain ⟨i1, ei1⟩ := isL_v g14
  obtain rfl : w1 = (.long i1) := Option.some.inj ei1
  obtain ⟨n, o, h1, h2, h3, _, L, rfl, ⟨rfl, N⟩, hq⟩ := rm0 l s _ hw tables_1 i0 i1 s.heap s.heap.size (Nat.le_refl _) p e ha hc hk s m _ below hf ((Spec.applies_iff_loose hf).mp happ).1 ⟨rfl, State.Warmed39.refl s, rfl⟩ trivial
  refine ⟨n, _, h1, h2, h3, hpost _ _ _ _ _ _ ⟨Cond.after_iff.mpr rfl, Cond.after_iff.mpr (eq_i res_at (Term.int_eval (1)) rfl), trivial⟩ ⟨hq.1, hq.2.1, (hq.2.2.sift fun y hy => Or.inr (N y hy)).mono (by decide) (by decide)⟩⟩
theorem main_1_1 : Claimed_1_1 := comes_1 fun _ _ _ _ _ _ h hF => ⟨h.1, hF⟩
theorem main_1_2 : Claimed_1_2 := comes_1 fun _ _ _ _ _ _ h hF => ⟨h.2.1, hF⟩
end Jvm.Pilot.@@N@@
namespace Jvm.Pilot.@@N@@
open Jvm Jvm.ClassFile Sem Op Lib Jvm.Free Jvm.Stand Jvm.Pilot.@@N@@.Jvm.D
/-! MADE BY PROGRAM (witnessworld.py) out of the Statement's table words and the real class files: 10 classes; the members and pool entries that the words name. The judged class is class 1, her method 1. -/
namespace start1
open Jvm.ClassFile
def u (s : String) : CpInfo := .utf8 (stringToUtf16 s)
/-- a pool by its gaps: so many unusable entries, then the entry; so many at the end -/
def gap : Nat → List CpInfo → List CpInfo
  | 0, r => r
  | n + 1, r => .unusable :: gap n r
def poolList (es : List (Nat × CpInfo)) (last : Nat) : List CpInfo := es.foldr (fun e r => gap e.1 (e.2 :: r)) (gap last [])
def pool (es : List (Nat × CpInfo)) (last : Nat) : Array CpInfo := ⟨poolList es last⟩
def fileOf (pool : Array CpInfo) (this : Nat) (attrs : Array Attribute := #[]) (ms : Array MethodInfo := #[]) (fl : Nat := 33) (sup : Nat := 0) (ifs : Array Nat := #[]) (fds : Array FieldInfo := #[]) : ClassFile where
  minorVersion := 0
  majorVersion := 65
  constantPool := pool
  accessFlags := fl
  thisClass := this
  superClass := sup
  interfaces := ifs
  fields := fds
  methods := ms
  attributes := attrs
def plain (name : String) (sup : Option ClassId) : Class where
  name := name
  kind := .ordinary
  loader := none
  accessFlags := 33
  super := sup
  interfaces := #[]
  cf := none
  fields := #[]
  methods := #[]
  instanceTypes := #[]
  staticTypes := #[]
  resolved := #[]
  callSites := []
  init := .initialized
  statics := none
  mirror := none

def pool0 : Array CpInfo := pool [(5, u "<init>"), (0, u "()V"), (1, .class_ 10), (1, u "java/lang/Object")] 113

def k0c0 : Code := { maxStack := 0, maxLocals := 1, code := object_method_1_code, exceptionTable := #[], attributes := #[] }
def k0m0 : Method := { name := "<init>", desc := "()V", sig := { parameters := [], returnType := none }, accessFlags := 1, code := some k0c0 }
/-- java/lang/Object -/
def k0 : Class := { plain "java/lang/Object" none with
  accessFlags := 33
  interfaces := #[]
  cf := some (fileOf pool0 8 #[] #[{ accessFlags := 1, nameIndex := 5, descriptorIndex := 6, attributes := #[] }] 33 0 #[] #[])
  fields := #[]
  methods := #[k0m0]
  instanceTypes := #[]
  staticTypes := #[]
  resolved := Array.replicate 124 none
  statics := none }

def pool1 : Array CpInfo := pool [(2, .class_ 4), (1, u "java/lang/Object"), (0, u "<init>"), (0, u "()V"), (0, .methodref 8 9), (0, .class_ 10), (0, .nameAndType 11 12), (0, u "com/example/sole_holder/soleholder/Attempt"), (0, u "granted"), (0, u "(JJ)Lcom/example/sole_holder/soleholder/Attempt;"), (0, .methodref 8 14), (0, .nameAndType 15 16), (0, u "takes"), (0, u "()J"), (0, .methodref 8 18), (0, .nameAndType 19 16), (0, u "token"), (0, .methodref 8 21), (0, .nameAndType 22 23), (0, u "holder"), (0, u "()Ljava/lang/String;"), (0, .methodref 8 25), (0, .nameAndType 26 27), (0, u "leaseLeft"), (0, u "()Ljava/time/Duration;"), (0, .methodref 8 29), (0, .nameAndType 30 31), (0, u "refusal"), (0, u "()Lcom/example/sole_holder/soleholder/Attempt$Refusal;"), (0, .methodref 8 33), (0, .nameAndType 34 35), (0, u "queued"), (0, u "()Z"), (0, .methodref 8 37), (0, .nameAndType 11 35), (0, .class_ 39), (0, u "com/example/sole_holder/soleholder/AttemptGrantedPinLaw"), (2, u "law"), (0, u "(JJ)Z")] 7

def k1m0 : Method := { name := "<init>", desc := "()V", sig := { parameters := [], returnType := none }, accessFlags := 2, code := none }
def k1c1 : Code := { maxStack := 5, maxLocals := 8, code := code, exceptionTable := #[], attributes := #[] }
def k1m1 : Method := { name := "law", desc := "(JJ)Z", sig := { parameters := [.long, .long], returnType := some .boolean }, accessFlags := 9, code := some k1c1 }
/-- com/example/sole_holder/soleholder/AttemptGrantedPinLaw -/
def k1 : Class := { plain "com/example/sole_holder/soleholder/AttemptGrantedPinLaw" (some 0) with
  accessFlags := 49
  interfaces := #[]
  cf := some (fileOf pool1 38 #[] #[{ accessFlags := 2, nameIndex := 5, descriptorIndex := 6, attributes := #[] }, { accessFlags := 9, nameIndex := 42, descriptorIndex := 43, attributes := #[] }] 49 2 #[] #[])
  fields := #[]
  methods := #[k1m0, k1m1]
  instanceTypes := #[]
  staticTypes := #[]
  resolved := Array.replicate 51 none
  statics := none }

def pool2 : Array CpInfo := pool [(1, .methodref 2 3), (0, .class_ 4), (0, .nameAndType 5 6), (0, u "java/lang/Object"), (0, u "<init>"), (0, u "()V"), (0, .class_ 8), (0, u "java/lang/Record")] 13

def k2c0 : Code := { maxStack := 1, maxLocals := 1, code := jdk_30_method_1_code, exceptionTable := #[], attributes := #[] }
def k2m0 : Method := { name := "<init>", desc := "()V", sig := { parameters := [], returnType := none }, accessFlags := 4, code := some k2c0 }
/-- java/lang/Record -/
def k2 : Class := { plain "java/lang/Record" (some 0) with
  accessFlags := 1057
  interfaces := #[]
  cf := some (fileOf pool2 7 #[] #[{ accessFlags := 4, nameIndex := 5, descriptorIndex := 6, attributes := #[] }] 1057 2 #[] #[])
  fields := #[]
  methods := #[k2m0]
  instanceTypes := #[]
  staticTypes := #[]
  resolved := Array.replicate 22 none
  statics := none }

def pool3 : Array CpInfo := pool [(1, .methodref 2 3), (0, .class_ 4), (0, .nameAndType 5 6), (0, u "java/lang/Record"), (0, u "<init>"), (0, u "()V"), (0, .fieldref 8 9), (0, .class_ 10), (0, .nameAndType 11 12), (0, u "com/example/sole_holder/soleholder/Attempt"), (0, u "takes"), (0, u "J"), (0, .fieldref 8 14), (0, .nameAndType 15 12), (0, u "token"), (0, .fieldref 8 17), (0, .nameAndType 18 19), (0, u "holder"), (0, u "Ljava/lang/String;"), (0, .fieldref 8 21), (0, .nameAndType 22 23), (0, u "leaseLeft"), (0, u "Ljava/time/Duration;"), (0, .fieldref 8 25), (0, .nameAndType 26 27), (0, u "refusal"), (0, u "Lcom/example/sole_holder/soleholder/Attempt$Refusal;"), (0, .fieldref 8 29), (0, .nameAndType 30 31), (0, u "queued"), (0, u "Z"), (0, .methodref 8 33), (0, .nameAndType 5 34), (0, u "(JJLjava/lang/String;Ljava/time/Duration;Lcom/example/sole_holder/soleholder/Attempt$Refusal;Z)V"), (2, u "granted"), (0, u "()Z"), (5, u "()Ljava/lang/String;"), (5, .class_ 52), (1, u "com/example/sole_holder/soleholder/Attempt$Refusal"), (24, u "(JJ)Lcom/example/sole_holder/soleholder/Attempt;"), (9, u "()J"), (0, u "()Ljava/time/Duration;"), (0, u "()Lcom/example/sole_holder/soleholder/Attempt$Refusal;")] 41

def k3c0 : Code := { maxStack := 3, maxLocals := 9, code := prog_1_method_1_code, exceptionTable := #[], attributes := #[] }
def k3m0 : Method := { name := "<init>", desc := "(JJLjava/lang/String;Ljava/time/Duration;Lcom/example/sole_holder/soleholder/Attempt$Refusal;Z)V", sig := { parameters := [.long, .long, (.object "java/lang/String"), (.object "java/time/Duration"), (.object "com/example/sole_holder/soleholder/Attempt$Refusal"), .boolean], returnType := none }, accessFlags := 0, code := some k3c0 }
def k3c1 : Code := { maxStack := 10, maxLocals := 4, code := prog_1_method_2_code, exceptionTable := #[], attributes := #[] }
def k3m1 : Method := { name := "granted", desc := "(JJ)Lcom/example/sole_holder/soleholder/Attempt;", sig := { parameters := [.long, .long], returnType := some (.object "com/example/sole_holder/soleholder/Attempt") }, accessFlags := 8, code := some k3c1 }
def k3c2 : Code := { maxStack := 4, maxLocals := 1, code := prog_1_method_4_code, exceptionTable := #[], attributes := #[] }
def k3m2 : Method := { name := "granted", desc := "()Z", sig := { parameters := [], returnType := some .boolean }, accessFlags := 0, code := some k3c2 }
def k3c3 : Code := { maxStack := 2, maxLocals := 1, code := prog_1_method_9_code, exceptionTable := #[], attributes := #[] }
def k3m3 : Method := { name := "takes", desc := "()J", sig := { parameters := [], returnType := some .long }, accessFlags := 1, code := some k3c3 }
def k3c4 : Code := { maxStack := 2, maxLocals := 1, code := prog_1_method_10_code, exceptionTable := #[], attributes := #[] }
def k3m4 : Method := { name := "token", desc := "()J", sig := { parameters := [], returnType := some .long }, accessFlags := 1, code := some k3c4 }
def k3c5 : Code := { maxStack := 1, maxLocals := 1, code := prog_1_method_11_code, exceptionTable := #[], attributes := #[] }
def k3m5 : Method := { name := "holder", desc := "()Ljava/lang/String;", sig := { parameters := [], returnType := some (.object "java/lang/String") }, accessFlags := 1, code := some k3c5 }
def k3c6 : Code := { maxStack := 1, maxLocals := 1, code := prog_1_method_12_code, exceptionTable := #[], attributes := #[] }
def k3m6 : Method := { name := "leaseLeft", desc := "()Ljava/time/Duration;", sig := { parameters := [], returnType := some (.object "java/time/Duration") }, accessFlags := 1, code := some k3c6 }
def k3c7 : Code := { maxStack := 1, maxLocals := 1, code := prog_1_method_13_code, exceptionTable := #[], attributes := #[] }
def k3m7 : Method := { name := "refusal", desc := "()Lcom/example/sole_holder/soleholder/Attempt$Refusal;", sig := { parameters := [], returnType := some (.object "com/example/sole_holder/soleholder/Attempt$Refusal") }, accessFlags := 1, code := some k3c7 }
def k3c8 : Code := { maxStack := 1, maxLocals := 1, code := prog_1_method_14_code, exceptionTable := #[], attributes := #[] }
def k3m8 : Method := { name := "queued", desc := "()Z", sig := { parameters := [], returnType := some .boolean }, accessFlags := 1, code := some k3c8 }
/-- com/example/sole_holder/soleholder/Attempt -/
def k3 : Class := { plain "com/example/sole_holder/soleholder/Attempt" (some 2) with
  accessFlags := 48
  interfaces := #[]
  cf := some (fileOf pool3 8 #[.nestMembers #[50]] #[{ accessFlags := 0, nameIndex := 5, descriptorIndex := 34, attributes := #[] }, { accessFlags := 8, nameIndex := 37, descriptorIndex := 77, attributes := #[] }, { accessFlags := 0, nameIndex := 37, descriptorIndex := 38, attributes := #[] }, { accessFlags := 1, nameIndex := 11, descriptorIndex := 87, attributes := #[] }, { accessFlags := 1, nameIndex := 15, descriptorIndex := 87, attributes := #[] }, { accessFlags := 1, nameIndex := 18, descriptorIndex := 44, attributes := #[] }, { accessFlags := 1, nameIndex := 22, descriptorIndex := 88, attributes := #[] }, { accessFlags := 1, nameIndex := 26, descriptorIndex := 89, attributes := #[] }, { accessFlags := 1, nameIndex := 30, descriptorIndex := 38, attributes := #[] }] 48 2 #[] #[{ accessFlags := 18, nameIndex := 11, descriptorIndex := 12, attributes := #[] }, { accessFlags := 18, nameIndex := 15, descriptorIndex := 12, attributes := #[] }, { accessFlags := 18, nameIndex := 18, descriptorIndex := 19, attributes := #[] }, { accessFlags := 18, nameIndex := 22, descriptorIndex := 23, attributes := #[] }, { accessFlags := 18, nameIndex := 26, descriptorIndex := 27, attributes := #[] }, { accessFlags := 18, nameIndex := 30, descriptorIndex := 31, attributes := #[] }])
  fields := #[{ name := "takes", type := .long, accessFlags := 18, slot := 0, constantValue := 0 }, { name := "token", type := .long, accessFlags := 18, slot := 1, constantValue := 0 }, { name := "holder", type := (.object "java/lang/String"), accessFlags := 18, slot := 2, constantValue := 0 }, { name := "leaseLeft", type := (.object "java/time/Duration"), accessFlags := 18, slot := 3, constantValue := 0 }, { name := "refusal", type := (.object "com/example/sole_holder/soleholder/Attempt$Refusal"), accessFlags := 18, slot := 4, constantValue := 0 }, { name := "queued", type := .boolean, accessFlags := 18, slot := 5, constantValue := 0 }]
  methods := #[k3m0, k3m1, k3m2, k3m3, k3m4, k3m5, k3m6, k3m7, k3m8]
  instanceTypes := #[.long, .long, (.object "java/lang/String"), (.object "java/time/Duration"), (.object "com/example/sole_holder/soleholder/Attempt$Refusal"), .boolean]
  staticTypes := #[]
  resolved := Array.replicate 131 none
  statics := none }

def pool4 : Array CpInfo := pool [(1, u "java/lang/Cloneable"), (0, .class_ 1), (0, u "java/lang/Object"), (0, .class_ 3)] 3

/-- java/lang/Cloneable -/
def k4 : Class := { plain "java/lang/Cloneable" (some 0) with
  accessFlags := 1537
  interfaces := #[]
  cf := some (fileOf pool4 2 #[] #[] 1537 4 #[] #[])
  fields := #[]
  methods := #[]
  instanceTypes := #[]
  staticTypes := #[]
  resolved := Array.replicate 8 none
  statics := none }

def pool5 : Array CpInfo := pool [(1, u "java/io/Serializable"), (0, .class_ 1), (0, u "java/lang/Object"), (0, .class_ 3)] 3

/-- java/io/Serializable -/
def k5 : Class := { plain "java/io/Serializable" (some 0) with
  accessFlags := 1537
  interfaces := #[]
  cf := some (fileOf pool5 2 #[] #[] 1537 4 #[] #[])
  fields := #[]
  methods := #[]
  instanceTypes := #[]
  staticTypes := #[]
  resolved := Array.replicate 8 none
  statics := none }

/-- the primitive byte -/
def k6 : Class := { plain "byte" none with kind := .primitive 'B', accessFlags := 0x411 }
/-- [B -/
def k7 : Class := { plain "[B" (some 0) with kind := .array 6 .byte, interfaces := #[4, 5], accessFlags := 1041 }

/-- the primitive int -/
def k8 : Class := { plain "int" none with kind := .primitive 'I', accessFlags := 0x411 }
/-- [I -/
def k9 : Class := { plain "[I" (some 0) with kind := .array 8 .int, interfaces := #[4, 5], accessFlags := 1041 }

def heap : Heap := #[]
def classes : Array Class := #[k0, k1, k2, k3, k4, k5, k6, k7, k8, k9]
def interned : List (Array UInt16 × Addr) := []
def slotsUsed : Nat := 0
def theMethod : MethodId := ⟨1, 1⟩
def args0 : Array Value := #[.long 5, .long 6]
def aboutOver (below : List Frame) : State where
  vm := { classes := classes, interned := interned.toArray }
  heap := heap
  slotsUsed := slotsUsed
  threads := #[{ frames := .invoking theMethod args0 :: below }]
def below0 : List Frame := [.native { method := ⟨0, 0⟩, args := #[] }]
def about1 : State := aboutOver below0
def p0 : Program := .bare "" "" ""
def e0 : Env := launch0.env 0 0 0
theorem w_frames : about1.frames = Frame.invoking theMethod args0 :: below0 := rfl
set_option maxRecDepth 65536 in
theorem w_args : argsFit about1.vm theMethod args0 = true := by decide +kernel
set_option maxRecDepth 65536 in
theorem w_heap : heapFits about1 = true := by decide +kernel
set_option maxRecDepth 65536 in
theorem w_runnable : about1.curStatus? = some .runnable := by decide +kernel
set_option maxRecDepth 65536 in
theorem w_alone : about1.alone = true := by decide +kernel
set_option maxRecDepth 65536 in
theorem w_named : about1.methodNamed? x = some theMethod := by decide +kernel
set_option maxRecDepth 65536 in
theorem w_hears : about1.hears theMethod below0 = true := by decide +kernel
set_option maxRecDepth 65536 in
theorem w_ripe : about1.ripe theMethod args0 below0 = true := by decide +kernel
theorem w_running : about1.status = .running := rfl
set_option maxRecDepth 65536 in
theorem w_room : about1.hasRoom e0.platform room_1 = true :=
  launch0.hasRoom_least _ room_1 (by decide +kernel) (by decide +kernel) (by decide +kernel) (by decide +kernel) (by decide +kernel) (by decide +kernel)
theorem allAtoms_all (ts : List Jvm.Cond) (a : Array Jvm.Value) (st : Jvm.State) : (allAtoms ts).before a st = ts.all (fun c => c.before a st) := by
  induction ts with
  | nil => rfl
  | cons c t ih =>
    show (Jvm.Cond.and c (allAtoms t)).before a st = _
    rw [Jvm.Cond.before_and, ih, List.all_cons]
def words1 : List Jvm.Cond := Jvm.Cond.code x code maxLocals ret :: tables_1
/-- a 'code' word, met by the world's own term for the bytes: nothing is compared byte by byte -/
theorem code_word {y : MethodName} {bytes : ByteArray} {mx : Nat} {rt : Option FieldType} {a : Array Value} {s : State} {m : MethodId} {meth : Method} {c : Code} (h1 : s.methodNamed? y = some m) (h2 : s.vm.method? m = some meth) (h3 : meth.code = some c) (h4 : c.code = bytes)
    (h5 : (c.maxLocals == mx && c.exceptionTable.isEmpty && decide (c.maxStack ≤ mostOperands) && decide (meth.sig.returnType = rt) && !meth.locks && decide (parseMethodDescriptor y.desc = some meth.sig)) = true) : (Jvm.Cond.code y bytes mx rt).before a s = true := by
  simp only [Bool.and_eq_true, beq_iff_eq, Bool.not_eq_true', decide_eq_true_eq] at h5
  obtain ⟨⟨⟨⟨⟨g1, g2⟩, g3⟩, g4⟩, g5⟩, g6⟩ := h5
  simp [Cond.before, Cond.holds, Cond.value, h1, h2, h3, h4, g1, g2, g3, g4, g5, g6]
def isCode : Jvm.Cond → Bool
  | .code _ _ _ _ => true
  | _ => false
theorem all_split {L : List Jvm.Cond} {P : Jvm.Cond → Bool} (h1 : L.all (fun c => isCode c || P c) = true) (h2 : ∀ c ∈ L.filter isCode, P c = true) : L.all P = true := by
  refine List.all_eq_true.mpr fun c hc => ?_
  have h := List.all_eq_true.mp h1 c hc
  rcases Bool.eq_false_or_eq_true (isCode c) with hi | hi
  · exact h2 c (List.mem_filter.mpr ⟨hc, hi⟩)
  · simpa [hi] using h
set_option maxRecDepth 65536 in
theorem w_c0 : (Jvm.Cond.code x code maxLocals ret).before args0 about1 = true := code_word (m := ⟨1, 1⟩) (meth := k1m1) (c := k1c1) (by decide +kernel) rfl rfl rfl (by decide +kernel)
set_option maxRecDepth 65536 in
theorem w_c1 : (Jvm.Cond.code ({ cls := "com/example/sole_holder/soleholder/Attempt", name := "granted", desc := "(JJ)Lcom/example/sole_holder/soleholder/Attempt;" } : Jvm.MethodName) prog_1_method_2_code (4 : Nat) (Option.some (Jvm.ClassFile.FieldType.object "com/example/sole_holder/soleholder/Attempt"))).before args0 about1 = true := code_word (m := ⟨3, 1⟩) (meth := k3m1) (c := k3c1) (by decide +kernel) rfl rfl rfl (by decide +kernel)
set_option maxRecDepth 65536 in
theorem w_c2 : (Jvm.Cond.code ({ cls := "com/example/sole_holder/soleholder/Attempt", name := "<init>", desc := "(JJLjava/lang/String;Ljava/time/Duration;Lcom/example/sole_holder/soleholder/Attempt$Refusal;Z)V" } : Jvm.MethodName) prog_1_method_1_code (9 : Nat) (Option.none : Option Jvm.ClassFile.FieldType)).before args0 about1 = true := code_word (m := ⟨3, 0⟩) (meth := k3m0) (c := k3c0) (by decide +kernel) rfl rfl rfl (by decide +kernel)
set_option maxRecDepth 65536 in
theorem w_c3 : (Jvm.Cond.code ({ cls := "java/lang/Record", name := "<init>", desc := "()V" } : Jvm.MethodName) jdk_30_method_1_code (1 : Nat) (Option.none : Option Jvm.ClassFile.FieldType)).before args0 about1 = true := code_word (m := ⟨2, 0⟩) (meth := k2m0) (c := k2c0) (by decide +kernel) rfl rfl rfl (by decide +kernel)
set_option maxRecDepth 65536 in
theorem w_c4 : (Jvm.Cond.code ({ cls := "java/lang/Object", name := "<init>", desc := "()V" } : Jvm.MethodName) object_method_1_code (1 : Nat) (Option.none : Option Jvm.ClassFile.FieldType)).before args0 about1 = true := code_word (m := ⟨0, 0⟩) (meth := k0m0) (c := k0c0) (by decide +kernel) rfl rfl rfl (by decide +kernel)
set_option maxRecDepth 65536 in
theorem w_c5 : (Jvm.Cond.code ({ cls := "com/example/sole_holder/soleholder/Attempt", name := "takes", desc := "()J" } : Jvm.MethodName) prog_1_method_9_code (1 : Nat) (Option.some Jvm.ClassFile.FieldType.long)).before args0 about1 = true := code_word (m := ⟨3, 3⟩) (meth := k3m3) (c := k3c3) (by decide +kernel) rfl rfl rfl (by decide +kernel)
set_option maxRecDepth 65536 in
theorem w_c6 : (Jvm.Cond.code ({ cls := "com/example/sole_holder/soleholder/Attempt", name := "token", desc := "()J" } : Jvm.MethodName) prog_1_method_10_code (1 : Nat) (Option.some Jvm.ClassFile.FieldType.long)).before args0 about1 = true := code_word (m := ⟨3, 4⟩) (meth := k3m4) (c := k3c4) (by decide +kernel) rfl rfl rfl (by decide +kernel)
set_option maxRecDepth 65536 in
theorem w_c7 : (Jvm.Cond.code ({ cls := "com/example/sole_holder/soleholder/Attempt", name := "holder", desc := "()Ljava/lang/String;" } : Jvm.MethodName) prog_1_method_11_code (1 : Nat) (Option.some (Jvm.ClassFile.FieldType.object "java/lang/String"))).before args0 about1 = true := code_word (m := ⟨3, 5⟩) (meth := k3m5) (c := k3c5) (by decide +kernel) rfl rfl rfl (by decide +kernel)
set_option maxRecDepth 65536 in
theorem w_c8 : (Jvm.Cond.code ({ cls := "com/example/sole_holder/soleholder/Attempt", name := "leaseLeft", desc := "()Ljava/time/Duration;" } : Jvm.MethodName) prog_1_method_12_code (1 : Nat) (Option.some (Jvm.ClassFile.FieldType.object "java/time/Duration"))).before args0 about1 = true := code_word (m := ⟨3, 6⟩) (meth := k3m6) (c := k3c6) (by decide +kernel) rfl rfl rfl (by decide +kernel)
set_option maxRecDepth 65536 in
theorem w_c9 : (Jvm.Cond.code ({ cls := "com/example/sole_holder/soleholder/Attempt", name := "refusal", desc := "()Lcom/example/sole_holder/soleholder/Attempt$Refusal;" } : Jvm.MethodName) prog_1_method_13_code (1 : Nat) (Option.some (Jvm.ClassFile.FieldType.object "com/example/sole_holder/soleholder/Attempt$Refusal"))).before args0 about1 = true := code_word (m := ⟨3, 7⟩) (meth := k3m7) (c := k3c7) (by decide +kernel) rfl rfl rfl (by decide +kernel)
set_option maxRecDepth 65536 in
theorem w_c10 : (Jvm.Cond.code ({ cls := "com/example/sole_holder/soleholder/Attempt", name := "queued", desc := "()Z" } : Jvm.MethodName) prog_1_method_14_code (1 : Nat) (Option.some Jvm.ClassFile.FieldType.boolean)).before args0 about1 = true := code_word (m := ⟨3, 8⟩) (meth := k3m8) (c := k3c8) (by decide +kernel) rfl rfl rfl (by decide +kernel)
set_option maxRecDepth 65536 in
theorem w_c11 : (Jvm.Cond.code ({ cls := "com/example/sole_holder/soleholder/Attempt", name := "granted", desc := "()Z" } : Jvm.MethodName) prog_1_method_4_code (1 : Nat) (Option.some Jvm.ClassFile.FieldType.boolean)).before args0 about1 = true := code_word (m := ⟨3, 2⟩) (meth := k3m2) (c := k3c2) (by decide +kernel) rfl rfl rfl (by decide +kernel)
def codes1 : List Jvm.Cond := [Jvm.Cond.code x code maxLocals ret, Jvm.Cond.code ({ cls := "com/example/sole_holder/soleholder/Attempt", name := "granted", desc := "(JJ)Lcom/example/sole_holder/soleholder/Attempt;" } : Jvm.MethodName) prog_1_method_2_code (4 : Nat) (Option.some (Jvm.ClassFile.FieldType.object "com/example/sole_holder/soleholder/Attempt")), Jvm.Cond.code ({ cls := "com/example/sole_holder/soleholder/Attempt", name := "<init>", desc := "(JJLjava/lang/String;Ljava/time/Duration;Lcom/example/sole_holder/soleholder/Attempt$Refusal;Z)V" } : Jvm.MethodName) prog_1_method_1_code (9 : Nat) (Option.none : Option Jvm.ClassFile.FieldType), Jvm.Cond.code ({ cls := "java/lang/Record", name := "<init>", desc := "()V" } : Jvm.MethodName) jdk_30_method_1_code (1 : Nat) (Option.none : Option Jvm.ClassFile.FieldType), Jvm.Cond.code ({ cls := "java/lang/Object", name := "<init>", desc := "()V" } : Jvm.MethodName) object_method_1_code (1 : Nat) (Option.none : Option Jvm.ClassFile.FieldType), Jvm.Cond.code ({ cls := "com/example/sole_holder/soleholder/Attempt", name := "takes", desc := "()J" } : Jvm.MethodName) prog_1_method_9_code (1 : Nat) (Option.some Jvm.ClassFile.FieldType.long), Jvm.Cond.code ({ cls := "com/example/sole_holder/soleholder/Attempt", name := "token", desc := "()J" } : Jvm.MethodName) prog_1_method_10_code (1 : Nat) (Option.some Jvm.ClassFile.FieldType.long), Jvm.Cond.code ({ cls := "com/example/sole_holder/soleholder/Attempt", name := "holder", desc := "()Ljava/lang/String;" } : Jvm.MethodName) prog_1_method_11_code (1 : Nat) (Option.some (Jvm.ClassFile.FieldType.object "java/lang/String")), Jvm.Cond.code ({ cls := "com/example/sole_holder/soleholder/Attempt", name := "leaseLeft", desc := "()Ljava/time/Duration;" } : Jvm.MethodName) prog_1_method_12_code (1 : Nat) (Option.some (Jvm.ClassFile.FieldType.object "java/time/Duration")), Jvm.Cond.code ({ cls := "com/example/sole_holder/soleholder/Attempt", name := "refusal", desc := "()Lcom/example/sole_holder/soleholder/Attempt$Refusal;" } : Jvm.MethodName) prog_1_method_13_code (1 : Nat) (Option.some (Jvm.ClassFile.FieldType.object "com/example/sole_holder/soleholder/Attempt$Refusal")), Jvm.Cond.code ({ cls := "com/example/sole_holder/soleholder/Attempt", name := "queued", desc := "()Z" } : Jvm.MethodName) prog_1_method_14_code (1 : Nat) (Option.some Jvm.ClassFile.FieldType.boolean), Jvm.Cond.code ({ cls := "com/example/sole_holder/soleholder/Attempt", name := "granted", desc := "()Z" } : Jvm.MethodName) prog_1_method_4_code (1 : Nat) (Option.some Jvm.ClassFile.FieldType.boolean)]
set_option maxRecDepth 65536 in
theorem codes_eq : words1.filter isCode = codes1 := rfl
theorem w_codes : ∀ c ∈ words1.filter isCode, c.before args0 about1 = true := by
  rw [codes_eq]
  intro c hc
  simp only [codes1, List.mem_cons, List.not_mem_nil, or_false] at hc
  rcases hc with rfl | rfl | rfl | rfl | rfl | rfl | rfl | rfl | rfl | rfl | rfl | rfl
  · exact w_c0
  · exact w_c1
  · exact w_c2
  · exact w_c3
  · exact w_c4
  · exact w_c5
  · exact w_c6
  · exact w_c7
  · exact w_c8
  · exact w_c9
  · exact w_c10
  · exact w_c11
set_option maxRecDepth 65536 in
theorem w_t1 : (words1.take 24).all (fun c => isCode c || c.before args0 about1) = true := by decide +kernel
set_option maxRecDepth 65536 in
theorem w_t2 : ((words1.drop 24).take 24).all (fun c => isCode c || c.before args0 about1) = true := by decide +kernel
set_option maxRecDepth 65536 in
theorem w_t3 : ((words1.drop 24).drop 24).all (fun c => isCode c || c.before args0 about1) = true := by decide +kernel
theorem w_tables : (allAtoms (Jvm.Cond.code x code maxLocals ret :: tables_1)).before args0 about1 = true := by
  rw [allAtoms_all]
  show words1.all (fun c => c.before args0 about1) = true
  refine all_split ?_ w_codes
  rw [← List.take_append_drop 24 words1, List.all_append, w_t1, ← List.take_append_drop 24 (words1.drop 24), List.all_append, w_t2, w_t3]
  rfl
set_option maxRecDepth 65536 in
theorem w_case : (Jvm.Cond.and given_1 narrow_1).before args0 about1 = true := by decide +kernel
theorem w_applies : (headSpec (Jvm.Cond.code x code maxLocals ret :: tables_1) room_1).applies x e0.platform about1 = true :=
  (Spec.applies_iff w_frames).mpr ⟨w_running, w_runnable, w_alone, w_named, w_hears, w_ripe, w_room, w_tables⟩
theorem atStart : AtStart classFile x code maxLocals ret World_1 tables_1 room_1 Calls_1 rest_1 Pre_1 launch0 p0 e0 about1 theMethod args0 below0 :=
  ⟨lists_1, trivial, launch0.admits_env _ _ _, launch0.least_env, fairChoices_fair.cas, fairChoices_fair.clock, w_frames, w_args, w_heap, w_applies, trivial, trivial, w_case⟩
end start1
theorem witness_1 : WitnessClaimed_1 := ⟨start1.p0, start1.e0, start1.about1, start1.theMethod, start1.args0, start1.below0, start1.atStart⟩
end Jvm.Pilot.@@N@@
