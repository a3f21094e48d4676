import JvmDerived
import JvmDerived.Pilot.@@N@@Statement
import JvmDerived.Pilot.@@N@@Code
set_option linter.unusedVariables false
set_option linter.unusedSimpArgs false
namespace Jvm.RoadKit
open Sem ClassFile Op Lib Jvm.Stand Jvm.Free Jvm.LawKit
section New
variable {p : Program} {l : Launch} {e : Env} {R : Room} {s : State} {m : MethodId} {args : Array Value} {below : List Frame} {meth : Method} {c : Code} {T : State} {locs : List Loc} {cells slots : Nat}
theorem retI (X : Stand p l e R s m args below meth c T locs cells slots) (hx : p.tables.exec = Jvm.exec) {pc : Nat} {Ls : Array Slot} {z : Int32} {rest : List Value} (hret : meth.sig.returnType = some .int) (hd : decode c.code pc = .ok (.ireturn, 1)) {fs : List Frame}
    (hl : ∀ (f : JFrame) (acts : List Action), f.method = m → f.locked = none → f.entered = [] → (doReturn e (T.setTop f) acts (some (.int z))).1 = T.setFrames fs) : Steps p.tables e below (T.setTop (mkF m pc Ls (.int z :: rest))) (T.setFrames fs) := by
  have hm' : T.vm.method? m = some meth := X.method'
  have hn : narrow .int (.int z) = .int z := rfl
  show Steps p.tables e below (T.setTop { method := m, pc := pc, locals := Ls, stack := _ :: rest, locked := none }) _
  jvm_step X.here [X.here.top, hx, hd, hm', hret, hn]
  first | (intro acts; rw [hl _ acts rfl rfl rfl]) | rw [hl _ _ rfl rfl rfl]
  exact Steps.refl _
end New
end Jvm.RoadKit
namespace Jvm.Pilot.@@N@@
open Jvm Jvm.ClassFile Sem Op Lib Jvm.Free Jvm.Stand Jvm.LawKit Jvm.RoadKit Bundle Jvm.Pilot.@@N@@.Jvm.D
def own_b0 (q : Int64) : Int32 := (((q >>> ((16 : Int32) &&& 0x3f).toInt64).toInt32).toInt8.toInt32).toInt8.toInt32
def own_b1 (q : Int64) : Int32 := (((q >>> ((8 : Int32) &&& 0x3f).toInt64).toInt32).toInt8.toInt32).toInt8.toInt32
def own_b2 (q : Int64) : Int32 := ((q.toInt32).toInt8.toInt32).toInt8.toInt32
theorem own_low (x : Int32) : ((x.toInt8.toInt32).toInt8.toInt32 &&& (255 : Int32)).toInt = x.toInt % 256 := by
  have h1 := c_i2b x
  have h2 := c_i2b x.toInt8.toInt32
  have h3 := c_mask (x.toInt8.toInt32).toInt8.toInt32 255 8 (by decide) (by decide)
  omega
theorem own_law (q : Int64) : lcmpW (((((own_b0 (q &&& (16777215 : Int64)) &&& (255 : Int32)).toInt64) * (65536 : Int64)) + (((own_b1 (q &&& (16777215 : Int64)) &&& (255 : Int32)).toInt64) * (256 : Int64))) + ((own_b2 (q &&& (16777215 : Int64)) &&& (255 : Int32)).toInt64)) (q &&& (16777215 : Int64)) = (0 : Int32) := by
  have hv := c_maskL q (16777215 : Int64) 24 (by decide) (by decide)
  generalize (q &&& (16777215 : Int64)) = v at *
  have s16 := c_lshr v (16 : Int32) 16 (by decide)
  have s8 := c_lshr v (8 : Int32) 8 (by decide)
  have l16 := c_l2i (v >>> ((16 : Int32) &&& 0x3f).toInt64)
  have l8 := c_l2i (v >>> ((8 : Int32) &&& 0x3f).toInt64)
  have l0 := c_l2i v
  have b0 : (own_b0 v &&& (255 : Int32)).toInt64.toInt = ((v >>> ((16 : Int32) &&& 0x3f).toInt64).toInt32).toInt % 256 := by rw [c_i2l]; exact own_low _
  have b1 : (own_b1 v &&& (255 : Int32)).toInt64.toInt = ((v >>> ((8 : Int32) &&& 0x3f).toInt64).toInt32).toInt % 256 := by rw [c_i2l]; exact own_low _
  have b2 : (own_b2 v &&& (255 : Int32)).toInt64.toInt = (v.toInt32).toInt % 256 := by rw [c_i2l]; exact own_low _
  generalize (own_b0 v &&& (255 : Int32)).toInt64 = B0 at *
  generalize (own_b1 v &&& (255 : Int32)).toInt64 = B1 at *
  generalize (own_b2 v &&& (255 : Int32)).toInt64 = B2 at *
  have m0 := c_lmul B0 (65536 : Int64)
  have m1 := c_lmul B1 (256 : Int64)
  have a0 := c_ladd (B0 * (65536 : Int64)) (B1 * (256 : Int64))
  have a1 := c_ladd (B0 * (65536 : Int64) + B1 * (256 : Int64)) B2
  have r0 := rng64 (B0 * (65536 : Int64))
  have r1 := rng64 (B1 * (256 : Int64))
  have r2 := rng64 (B0 * (65536 : Int64) + B1 * (256 : Int64))
  have r3 := rng64 (B0 * (65536 : Int64) + B1 * (256 : Int64) + B2)
  rw [show (65536 : Int64).toInt = 65536 by decide] at m0
  rw [show (256 : Int64).toInt = 256 by decide] at m1
  rw [lw_eq]
  apply Int64.toInt_inj.mp
  omega
theorem d1_0 : decode prog_42_method_12_code 0 = .ok (.iconst 3, 1) := by decide +kernel
theorem d1_1 : decode prog_42_method_12_code 1 = .ok (.newarray .byte, 2) := by decide +kernel
theorem d1_3 : decode prog_42_method_12_code 3 = .ok (.dup, 1) := by decide +kernel
theorem d1_4 : decode prog_42_method_12_code 4 = .ok (.iconst 0, 1) := by decide +kernel
theorem d1_5 : decode prog_42_method_12_code 5 = .ok (.lload_n 0, 1) := by decide +kernel
theorem d1_6 : decode prog_42_method_12_code 6 = .ok (.bipush 16, 2) := by decide +kernel
theorem d1_8 : decode prog_42_method_12_code 8 = .ok (.lshr, 1) := by decide +kernel
theorem d1_9 : decode prog_42_method_12_code 9 = .ok (.l2i, 1) := by decide +kernel
theorem d1_10 : decode prog_42_method_12_code 10 = .ok (.i2b, 1) := by decide +kernel
theorem d1_11 : decode prog_42_method_12_code 11 = .ok (.bastore, 1) := by decide +kernel
theorem d1_12 : decode prog_42_method_12_code 12 = .ok (.dup, 1) := by decide +kernel
theorem d1_13 : decode prog_42_method_12_code 13 = .ok (.iconst 1, 1) := by decide +kernel
theorem d1_14 : decode prog_42_method_12_code 14 = .ok (.lload_n 0, 1) := by decide +kernel
theorem d1_15 : decode prog_42_method_12_code 15 = .ok (.bipush 8, 2) := by decide +kernel
theorem d1_17 : decode prog_42_method_12_code 17 = .ok (.lshr, 1) := by decide +kernel
theorem d1_18 : decode prog_42_method_12_code 18 = .ok (.l2i, 1) := by decide +kernel
theorem d1_19 : decode prog_42_method_12_code 19 = .ok (.i2b, 1) := by decide +kernel
theorem d1_20 : decode prog_42_method_12_code 20 = .ok (.bastore, 1) := by decide +kernel
theorem d1_21 : decode prog_42_method_12_code 21 = .ok (.dup, 1) := by decide +kernel
theorem d1_22 : decode prog_42_method_12_code 22 = .ok (.iconst 2, 1) := by decide +kernel
theorem d1_23 : decode prog_42_method_12_code 23 = .ok (.lload_n 0, 1) := by decide +kernel
theorem d1_24 : decode prog_42_method_12_code 24 = .ok (.l2i, 1) := by decide +kernel
theorem d1_25 : decode prog_42_method_12_code 25 = .ok (.i2b, 1) := by decide +kernel
theorem d1_26 : decode prog_42_method_12_code 26 = .ok (.bastore, 1) := by decide +kernel
theorem d1_27 : decode prog_42_method_12_code 27 = .ok (.areturn, 1) := by decide +kernel
theorem pn_1 : plainName "com/example/chipfare/chipfare/card/Transaction" = true := by first | (simp [plainName, overriddenIn]; done) | decide +kernel
theorem ef_1 (m : MethodId) (x0 : Int64) : entryFrame m #[(.long x0)] 2 = mkF m 0 #[.val (.long x0), .second] [] := by first | (simp [entryFrame, mkF, argsToLocals, Value.category]; done) | rfl
def Q1 (Z : State) (q1 : Int64) (h0 : Heap) (n0 : Nat) (v : Option Value) (h : Heap) (L : List Loc) : Prop := ∃ (b : Addr) (k : ClassId), v = some (.ref b) ∧ Fr n0 L ∧ Keep h0 h [] ∧ Arv Z h b k .byte (3 : Int32) [(.int (own_b0 q1)), (.int (own_b1 q1)), (.int (own_b2 q1))] (.int (0 : Int32))
set_option maxRecDepth 65536 in
set_option maxHeartbeats 40000000 in
theorem rm1 (l : Launch) (Z : State) (a0 : Array Value) (hw : ∀ d ∈ tables_1, d.before a0 Z = true) (ws : List Jvm.Cond) (q1 : Int64) (h0 : Heap) (n0 : Nat) (Z0 : n0 ≤ h0.size) :
    MetFree l (⟨"com/example/chipfare/chipfare/card/Transaction", "threeBytes", "(J)[B"⟩ : MethodName) (head1 (Jvm.Cond.code (⟨"com/example/chipfare/chipfare/card/Transaction", "threeBytes", "(J)[B"⟩ : MethodName) prog_42_method_12_code 2 (some (.array .byte)) :: ws) ({ frames := 0, cells := 1, slots := 3, locals := 0 } : Room)) (fun a U => a = #[(.long q1)] ∧ Z.Warmed39 U.vm ∧ U.heap = h0) (fun _ _ _ _ _ => True) (fun _ U o U' => ∃ v L, o = .returned v ∧ Q1 Z q1 h0 n0 v U'.heap L ∧ FrameEnd U o U' L ({ frames := 0, cells := 1, slots := 3, locals := 0 } : Room).cells ({ frames := 0, cells := 1, slots := 3, locals := 0 } : Room).slots) := by
  refine MetFree.of_bodySF (plainFor_of_name pn_1) hisR ?_
  intro p e s m args below meth c s₁ Bd hml0 hP hK
  obtain ⟨rfl, hZ, hh⟩ := hP
  have hx := Bd.exec
  have hby := Bd.bytes
  have hml : c.maxLocals = 2 := hml0
  have hown : s.vm.findClass "com/example/chipfare/chipfare/card/Transaction" = some m.cls := findClass_of_methodNamed Bd.named
  have hnm := (name_of_methodNamed Bd.named Bd.method).1
  have X0 : Stand p l e ({ frames := 0, cells := 1, slots := 3, locals := 0 } : Room) s m #[(.long q1)] below meth c s₁ [] 0 0 := Stand.of_body Bd
  have e0 : s₁.heap = h0 := by rw [← hh, Bd.state]; rfl
  have N0 := Fr.nil n0
  have pre0 : ∀ t, Steps p.tables e below (s₁.setTop (mkF m 0 #[.val (.long q1), .second] [])) t → Steps p.tables e below (s₁.setTop (entryFrame m #[(.long q1)] 2)) t := fun t k => castTop (ef_1 m q1) k
  obtain ⟨T2, h2, k2, X2, e2, E2, A2, st2⟩ := newP X0 hx hZ (hw _ (List.mem_of_getElem? (i := 5) rfl)) e0 (g := (mkF m 1 #[.val (.long q1), .second] [(.int (3 : Int32))])) rfl (hb hby d1_1) rfl (by decide) (cap := 3) (by decide) (by decide) (by decide) (by decide)
  obtain ⟨b2, g2⟩ : ∃ z, z = h0.size := ⟨_, rfl⟩
  rw [← g2] at A2 st2
  have V_b2 : Arv Z h2 b2 k2 .byte (3 : Int32) [(.int (0 : Int32)), (.int (0 : Int32)), (.int (0 : Int32))] (.int (0 : Int32)) := (Arv.new A2 (by decide)).pad (pad_rep [] (.int (0 : Int32)) 3)
  have g_b2 : n0 ≤ b2 := Nat.le_trans Z0 (Nat.le_of_eq g2.symm)
  have sz_b2 : h0.size ≤ b2 := (Nat.le_trans (Keep.refl h0 []).1 (Nat.le_of_eq g2.symm))
  have K2 : Keep h0 h2 [] := (Keep.refl h0 []).ext E2
  obtain ⟨cl_b2_11, Ar_b2, q_b2, S_b2, N_b2, H_b2, G_b2⟩ := V_b2
  have hin11 : ¬ ((0 : Int32) < 0 ∨ cl_b2_11.slots.size ≤ ((0 : Int32)).toNatClampNeg) := inb_of S_b2 ⟨by decide, by decide⟩
  obtain ⟨T3, h3, X3, e3, W3, st3⟩ := stB X2 hx hZ e2 Ar_b2 (j := (0 : Int32)) hin11 (g := (mkF m 11 #[.val (.long q1), .second] [(.int (((q1 >>> ((16 : Int32) &&& 0x3f).toInt64).toInt32).toInt8.toInt32)), (.int (0 : Int32)), (.ref b2), (.ref b2)])) rfl rfl (hb hby d1_11)
  have V_b2_3 := Arv.set Ar_b2 q_b2 S_b2 N_b2 H_b2 G_b2 (fits_nar_byte _) W3 0 rfl (Nat.le_of_ble_eq_true rfl)
  have K3 : Keep h0 h3 [] := K2.wr W3 (Or.inr sz_b2)
  have N3 := Fr.snoc X3 N0 g_b2
  obtain ⟨cl_b2_20, Ar_b2, q_b2, S_b2, N_b2, H_b2, G_b2⟩ := V_b2_3
  have hin20 : ¬ ((1 : Int32) < 0 ∨ cl_b2_20.slots.size ≤ ((1 : Int32)).toNatClampNeg) := inb_of S_b2 ⟨by decide, by decide⟩
  obtain ⟨T4, h4, X4, e4, W4, st4⟩ := stB X3 hx hZ e3 Ar_b2 (j := (1 : Int32)) hin20 (g := (mkF m 20 #[.val (.long q1), .second] [(.int (((q1 >>> ((8 : Int32) &&& 0x3f).toInt64).toInt32).toInt8.toInt32)), (.int (1 : Int32)), (.ref b2), (.ref b2)])) rfl rfl (hb hby d1_20)
  have V_b2_4 := Arv.set Ar_b2 q_b2 S_b2 N_b2 H_b2 G_b2 (fits_nar_byte _) W4 1 rfl (Nat.le_of_ble_eq_true rfl)
  have K4 : Keep h0 h4 [] := K3.wr W4 (Or.inr sz_b2)
  have N4 := Fr.snoc X4 N3 g_b2
  obtain ⟨cl_b2_26, Ar_b2, q_b2, S_b2, N_b2, H_b2, G_b2⟩ := V_b2_4
  have hin26 : ¬ ((2 : Int32) < 0 ∨ cl_b2_26.slots.size ≤ ((2 : Int32)).toNatClampNeg) := inb_of S_b2 ⟨by decide, by decide⟩
  obtain ⟨T5, h5, X5, e5, W5, st5⟩ := stB X4 hx hZ e4 Ar_b2 (j := (2 : Int32)) hin26 (g := (mkF m 26 #[.val (.long q1), .second] [(.int ((q1.toInt32).toInt8.toInt32)), (.int (2 : Int32)), (.ref b2), (.ref b2)])) rfl rfl (hb hby d1_26)
  have V_b2_5 := Arv.set Ar_b2 q_b2 S_b2 N_b2 H_b2 G_b2 (fits_nar_byte _) W5 2 rfl (Nat.le_of_ble_eq_true rfl)
  have K5 : Keep h0 h5 [] := K4.wr W5 (Or.inr sz_b2)
  have N5 := Fr.snoc X5 N4 g_b2
  obtain ⟨fs, hr, hrun, hended, hW, hsame⟩ := X5.leave (v := some (.ref b2)) (fun h => by rw [Bd.returns] at h; cases h)
  refine ⟨_, _, pre0 _ ?_, hrun, hended, _, _, rfl, ?_, ⟨_, rfl⟩, hW, hsame.mono (by decide) (by decide)⟩
  · show Steps p.tables e below (s₁.setTop (mkF m 0 #[.val (.long q1), .second] [])) _
    refine XS.iconst X0.here hx rfl (hb hby d1_0) ?_
    show Steps p.tables e below (s₁.setTop (mkF m 1 #[.val (.long q1), .second] [(.int (3 : Int32))])) _
    refine st2 _ ?_
    show Steps p.tables e below (T2.setTop (mkF m 3 #[.val (.long q1), .second] [(.ref b2)])) _
    refine XS.dup X2.here hx rfl (hb hby d1_3) rfl rfl ?_
    show Steps p.tables e below (T2.setTop (mkF m 4 #[.val (.long q1), .second] [(.ref b2), (.ref b2)])) _
    refine XS.iconst X2.here hx rfl (hb hby d1_4) ?_
    show Steps p.tables e below (T2.setTop (mkF m 5 #[.val (.long q1), .second] [(.int (0 : Int32)), (.ref b2), (.ref b2)])) _
    refine XS.lloadN X2.here hx rfl (hb hby d1_5) rfl ?_
    show Steps p.tables e below (T2.setTop (mkF m 6 #[.val (.long q1), .second] [(.long q1), (.int (0 : Int32)), (.ref b2), (.ref b2)])) _
    refine XS.bipush X2.here hx rfl (hb hby d1_6) ?_
    show Steps p.tables e below (T2.setTop (mkF m 8 #[.val (.long q1), .second] [(.int (16 : Int32)), (.long q1), (.int (0 : Int32)), (.ref b2), (.ref b2)])) _
    refine XS.lshr X2.here hx rfl (hb hby d1_8) rfl ?_
    show Steps p.tables e below (T2.setTop (mkF m 9 #[.val (.long q1), .second] [(.long (q1 >>> ((16 : Int32) &&& 0x3f).toInt64)), (.int (0 : Int32)), (.ref b2), (.ref b2)])) _
    refine XS.l2i X2.here hx rfl (hb hby d1_9) rfl ?_
    show Steps p.tables e below (T2.setTop (mkF m 10 #[.val (.long q1), .second] [(.int ((q1 >>> ((16 : Int32) &&& 0x3f).toInt64).toInt32)), (.int (0 : Int32)), (.ref b2), (.ref b2)])) _
    refine XS.i2b X2.here hx rfl (hb hby d1_10) rfl ?_
    show Steps p.tables e below (T2.setTop (mkF m 11 #[.val (.long q1), .second] [(.int (((q1 >>> ((16 : Int32) &&& 0x3f).toInt64).toInt32).toInt8.toInt32)), (.int (0 : Int32)), (.ref b2), (.ref b2)])) _
    refine st3 _ ?_
    show Steps p.tables e below (T3.setTop (mkF m 12 #[.val (.long q1), .second] [(.ref b2)])) _
    refine XS.dup X3.here hx rfl (hb hby d1_12) rfl rfl ?_
    show Steps p.tables e below (T3.setTop (mkF m 13 #[.val (.long q1), .second] [(.ref b2), (.ref b2)])) _
    refine XS.iconst X3.here hx rfl (hb hby d1_13) ?_
    show Steps p.tables e below (T3.setTop (mkF m 14 #[.val (.long q1), .second] [(.int (1 : Int32)), (.ref b2), (.ref b2)])) _
    refine XS.lloadN X3.here hx rfl (hb hby d1_14) rfl ?_
    show Steps p.tables e below (T3.setTop (mkF m 15 #[.val (.long q1), .second] [(.long q1), (.int (1 : Int32)), (.ref b2), (.ref b2)])) _
    refine XS.bipush X3.here hx rfl (hb hby d1_15) ?_
    show Steps p.tables e below (T3.setTop (mkF m 17 #[.val (.long q1), .second] [(.int (8 : Int32)), (.long q1), (.int (1 : Int32)), (.ref b2), (.ref b2)])) _
    refine XS.lshr X3.here hx rfl (hb hby d1_17) rfl ?_
    show Steps p.tables e below (T3.setTop (mkF m 18 #[.val (.long q1), .second] [(.long (q1 >>> ((8 : Int32) &&& 0x3f).toInt64)), (.int (1 : Int32)), (.ref b2), (.ref b2)])) _
    refine XS.l2i X3.here hx rfl (hb hby d1_18) rfl ?_
    show Steps p.tables e below (T3.setTop (mkF m 19 #[.val (.long q1), .second] [(.int ((q1 >>> ((8 : Int32) &&& 0x3f).toInt64).toInt32)), (.int (1 : Int32)), (.ref b2), (.ref b2)])) _
    refine XS.i2b X3.here hx rfl (hb hby d1_19) rfl ?_
    show Steps p.tables e below (T3.setTop (mkF m 20 #[.val (.long q1), .second] [(.int (((q1 >>> ((8 : Int32) &&& 0x3f).toInt64).toInt32).toInt8.toInt32)), (.int (1 : Int32)), (.ref b2), (.ref b2)])) _
    refine st4 _ ?_
    show Steps p.tables e below (T4.setTop (mkF m 21 #[.val (.long q1), .second] [(.ref b2)])) _
    refine XS.dup X4.here hx rfl (hb hby d1_21) rfl rfl ?_
    show Steps p.tables e below (T4.setTop (mkF m 22 #[.val (.long q1), .second] [(.ref b2), (.ref b2)])) _
    refine XS.iconst X4.here hx rfl (hb hby d1_22) ?_
    show Steps p.tables e below (T4.setTop (mkF m 23 #[.val (.long q1), .second] [(.int (2 : Int32)), (.ref b2), (.ref b2)])) _
    refine XS.lloadN X4.here hx rfl (hb hby d1_23) rfl ?_
    show Steps p.tables e below (T4.setTop (mkF m 24 #[.val (.long q1), .second] [(.long q1), (.int (2 : Int32)), (.ref b2), (.ref b2)])) _
    refine XS.l2i X4.here hx rfl (hb hby d1_24) rfl ?_
    show Steps p.tables e below (T4.setTop (mkF m 25 #[.val (.long q1), .second] [(.int (q1.toInt32)), (.int (2 : Int32)), (.ref b2), (.ref b2)])) _
    refine XS.i2b X4.here hx rfl (hb hby d1_25) rfl ?_
    show Steps p.tables e below (T4.setTop (mkF m 26 #[.val (.long q1), .second] [(.int ((q1.toInt32).toInt8.toInt32)), (.int (2 : Int32)), (.ref b2), (.ref b2)])) _
    refine st5 _ ?_
    show Steps p.tables e below (T5.setTop (mkF m 27 #[.val (.long q1), .second] [(.ref b2)])) _
    jvm_step X5.here [X5.here.top, hx, (hb hby d1_27), X5.method', Bd.returns, Value.isRef, FieldType.isReference]
    first | (intro acts; rw [hr _ acts rfl rfl rfl]) | rw [hr _ _ rfl rfl rfl]
    exact Steps.refl _
  · show Q1 Z q1 h0 n0 _ T5.heap _
    rw [e5]
    exact ⟨b2, k2, rfl, N5, K5, V_b2_5⟩
theorem pn_0 : plainName "com/example/chipfare/chipfare/card/TransactionThreeBytesPinLaw" = true := by first | (simp [plainName, overriddenIn]; done) | decide +kernel
theorem pd_0_0 : parseMethodDescriptor "(J)[B" = some ⟨[.long], some (.array .byte)⟩ := by decide +kernel
theorem ef_0 (m : MethodId) (x0 : Int64) : entryFrame m #[(.long x0)] maxLocals = mkF m 0 #[.val (.long x0), .second, .unset, .unset, .unset, .unset, .unset, .unset, .unset, .unset, .unset, .unset, .unset] [] := by first | (simp [entryFrame, mkF, argsToLocals, Value.category, maxLocals]; done) | rfl
def Q0 (Z : State) (q1 : Int64) (h0 : Heap) (n0 : Nat) (v : Option Value) (h : Heap) (L : List Loc) : Prop := v = some (.int (1 : Int32)) ∧ Fr n0 L
set_option maxRecDepth 65536 in
set_option maxHeartbeats 40000000 in
theorem rm0 (l : Launch) (Z : State) (a0 : Array Value) (hw : ∀ d ∈ tables_1, d.before a0 Z = true) (ws : List Jvm.Cond) (q1 : Int64) (h0 : Heap) (n0 : Nat) (Z0 : n0 ≤ h0.size) :
    MetFree l x (head1 (Jvm.Cond.code x code maxLocals ret :: ws) room_1) (fun a U => a = #[(.long q1)] ∧ Z.Warmed39 U.vm ∧ U.heap = h0) (fun _ _ _ _ _ => True) (fun _ U o U' => ∃ v L, o = .returned v ∧ Q0 Z q1 h0 n0 v U'.heap L ∧ FrameEnd U o U' L room_1.cells room_1.slots) := by
  refine MetFree.of_bodySF (plainFor_of_name pn_0) hisR ?_
  intro p e s m args below meth c s₁ Bd hml0 hP hK
  obtain ⟨rfl, hZ, hh⟩ := hP
  have hx := Bd.exec
  have hby := Bd.bytes
  have hml : c.maxLocals = 13 := hml0
  have hown : s.vm.findClass "com/example/chipfare/chipfare/card/TransactionThreeBytesPinLaw" = some m.cls := findClass_of_methodNamed Bd.named
  have hnm := (name_of_methodNamed Bd.named Bd.method).1
  have X0 : Stand p l e room_1 s m #[(.long q1)] below meth c s₁ [] 0 0 := Stand.of_body Bd
  have e0 : s₁.heap = h0 := by rw [← hh, Bd.state]; rfl
  have N0 := Fr.nil n0
  have pre0 : ∀ t, Steps p.tables e below (s₁.setTop (mkF m 0 #[.val (.long q1), .second, .unset, .unset, .unset, .unset, .unset, .unset, .unset, .unset, .unset, .unset, .unset] [])) t → Steps p.tables e below (s₁.setTop (entryFrame m #[(.long q1)] maxLocals)) t := fun t k => castTop (ef_0 m q1) k
  obtain ⟨_, _, ⟨T2, L2, k2, n2⟩, -, X2, ⟨Lc2, hQ2, l2, y2, z2⟩, st2⟩ := Jvm.LawKit.callS X0 hx (y := (⟨"com/example/chipfare/chipfare/card/Transaction", "threeBytes", "(J)[B"⟩ : MethodName)) hown (mvT hZ (hw _ (List.mem_of_getElem? (i := 1) rfl))) (mvT hZ (hw _ (List.mem_of_getElem? (i := 2) rfl))) (mvT hZ (hw _ (List.mem_of_getElem? (i := 3) rfl))) (mvT hZ (hw _ (List.mem_of_getElem? (i := 4) rfl))) (by decide) (backOf (W := 0) (rm1 l Z a0 hw [] (q1 &&& (16777215 : Int64)) h0 n0 Z0) hZ (hw _ (List.mem_of_getElem? (i := 4) rfl)) (hw _ (List.mem_of_getElem? (i := 3) rfl)) (by decide) (by decide)) (g := (mkF m 7 #[.val (.long q1), .second, .val (.long (q1 &&& (16777215 : Int64))), .second, .unset, .unset, .unset, .unset, .unset, .unset, .unset, .unset, .unset] [(.long (q1 &&& (16777215 : Int64)))])) rfl (by rw [hml]; rfl) (argsL := [(.long (q1 &&& (16777215 : Int64)))]) (rest := []) (lenOf pd_0_0 rfl) rfl (by show 2 * 0 + _ ≤ _; exact Nat.le_of_eq rfl) (hb hby at_7) (fun _ _ => ⟨rfl, e0, (by decide : 0 + 1 ≤ _), (by decide : 0 + 3 ≤ _)⟩)
  dsimp only [Pt.U, Pt.locs, Pt.cells, Pt.slots] at X2 l2 y2 z2 st2 hQ2
  subst l2 y2 z2
  obtain ⟨b, kb, rfl, N2q, K2, V2⟩ := hQ2
  obtain ⟨cl, Ar_b, -, S_b, N_b, H_b, -⟩ := V2
  have hin24 : ¬ ((0 : Int32) < 0 ∨ cl.slots.size ≤ ((0 : Int32)).toNatClampNeg) := inb_of S_b ⟨by decide, by decide⟩
  have hin35 : ¬ ((1 : Int32) < 0 ∨ cl.slots.size ≤ ((1 : Int32)).toNatClampNeg) := inb_of S_b ⟨by decide, by decide⟩
  have hin46 : ¬ ((2 : Int32) < 0 ∨ cl.slots.size ≤ ((2 : Int32)).toNatClampNeg) := inb_of S_b ⟨by decide, by decide⟩
  have hat24 : cl.slots[((0 : Int32)).toNatClampNeg]? = some (.int (own_b0 (q1 &&& (16777215 : Int64)))) := H_b.at hin24 rfl
  have hat35 : cl.slots[((1 : Int32)).toNatClampNeg]? = some (.int (own_b1 (q1 &&& (16777215 : Int64)))) := H_b.at hin35 rfl
  have hat46 : cl.slots[((2 : Int32)).toNatClampNeg]? = some (.int (own_b2 (q1 &&& (16777215 : Int64)))) := H_b.at hin46 rfl
  have hc76 := own_law q1
  have N2 := Fr.app N0 N2q
  obtain ⟨fs, hr, hrun, hended, hW, hsame⟩ := X2.leave (v := some (.int (1 : Int32))) (fun h => by rw [Bd.returns] at h; cases h)
  refine ⟨_, _, pre0 _ ?_, hrun, hended, _, _, rfl, ?_, ⟨_, rfl⟩, hW, hsame.mono (by decide) (by decide)⟩
  · show Steps p.tables e below (s₁.setTop (mkF m 0 #[.val (.long q1), .second, .unset, .unset, .unset, .unset, .unset, .unset, .unset, .unset, .unset, .unset, .unset] [])) _
    refine XS.lloadN X0.here hx rfl (hb hby at_0) rfl ?_
    show Steps p.tables e below (s₁.setTop (mkF m 1 #[.val (.long q1), .second, .unset, .unset, .unset, .unset, .unset, .unset, .unset, .unset, .unset, .unset, .unset] [(.long q1)])) _
    refine X0.ldc2Long hx hown (mvT hZ (hw _ (List.mem_of_getElem? (i := 0) rfl))) (g := (mkF m 1 #[.val (.long q1), .second, .unset, .unset, .unset, .unset, .unset, .unset, .unset, .unset, .unset, .unset, .unset] [(.long q1)])) rfl (hb hby at_1) _ ?_
    show Steps p.tables e below (s₁.setTop (mkF m 4 #[.val (.long q1), .second, .unset, .unset, .unset, .unset, .unset, .unset, .unset, .unset, .unset, .unset, .unset] [(.long (16777215 : Int64)), (.long q1)])) _
    refine XS.land X0.here hx rfl (hb hby at_4) rfl ?_
    show Steps p.tables e below (s₁.setTop (mkF m 5 #[.val (.long q1), .second, .unset, .unset, .unset, .unset, .unset, .unset, .unset, .unset, .unset, .unset, .unset] [(.long (q1 &&& (16777215 : Int64)))])) _
    refine XS.lstoreN X0.here hx rfl (hb hby at_5) rfl (l' := #[.val (.long q1), .second, .val (.long (q1 &&& (16777215 : Int64))), .second, .unset, .unset, .unset, .unset, .unset, .unset, .unset, .unset, .unset]) rfl ?_
    show Steps p.tables e below (s₁.setTop (mkF m 6 #[.val (.long q1), .second, .val (.long (q1 &&& (16777215 : Int64))), .second, .unset, .unset, .unset, .unset, .unset, .unset, .unset, .unset, .unset] [])) _
    refine XS.lloadN X0.here hx rfl (hb hby at_6) rfl ?_
    show Steps p.tables e below (s₁.setTop (mkF m 7 #[.val (.long q1), .second, .val (.long (q1 &&& (16777215 : Int64))), .second, .unset, .unset, .unset, .unset, .unset, .unset, .unset, .unset, .unset] [(.long (q1 &&& (16777215 : Int64)))])) _
    refine st2 _ ?_
    show Steps p.tables e below (T2.setTop (mkF m 10 #[.val (.long q1), .second, .val (.long (q1 &&& (16777215 : Int64))), .second, .unset, .unset, .unset, .unset, .unset, .unset, .unset, .unset, .unset] [(.ref b)])) _
    refine XS.astore X2.here hx rfl (hb hby at_10) rfl rfl (l' := #[.val (.long q1), .second, .val (.long (q1 &&& (16777215 : Int64))), .second, .val (.ref b), .unset, .unset, .unset, .unset, .unset, .unset, .unset, .unset]) rfl ?_
    show Steps p.tables e below (T2.setTop (mkF m 12 #[.val (.long q1), .second, .val (.long (q1 &&& (16777215 : Int64))), .second, .val (.ref b), .unset, .unset, .unset, .unset, .unset, .unset, .unset, .unset] [])) _
    refine XS.aload X2.here hx rfl (hb hby at_12) rfl rfl ?_
    show Steps p.tables e below (T2.setTop (mkF m 14 #[.val (.long q1), .second, .val (.long (q1 &&& (16777215 : Int64))), .second, .val (.ref b), .unset, .unset, .unset, .unset, .unset, .unset, .unset, .unset] [(.ref b)])) _
    refine X2.arraylength hx Ar_b.1 (State.isArrayOf_alike hZ.alike Ar_b.2.1) (g := (mkF m 14 #[.val (.long q1), .second, .val (.long (q1 &&& (16777215 : Int64))), .second, .val (.ref b), .unset, .unset, .unset, .unset, .unset, .unset, .unset, .unset] [(.ref b)])) rfl rfl (hb hby at_14) _ ?_
    rw [len_of S_b N_b]
    show Steps p.tables e below (T2.setTop (mkF m 15 #[.val (.long q1), .second, .val (.long (q1 &&& (16777215 : Int64))), .second, .val (.ref b), .unset, .unset, .unset, .unset, .unset, .unset, .unset, .unset] [(.int (3 : Int32))])) _
    refine XS.iconst X2.here hx rfl (hb hby at_15) ?_
    show Steps p.tables e below (T2.setTop (mkF m 16 #[.val (.long q1), .second, .val (.long (q1 &&& (16777215 : Int64))), .second, .val (.ref b), .unset, .unset, .unset, .unset, .unset, .unset, .unset, .unset] [(.int (3 : Int32)), (.int (3 : Int32))])) _
    refine XS.icmpYes X2.here hx rfl (pc0 := 16) (pc' := 21) rfl (hb hby at_16) rfl (teq (rfl : (3 : Int32) = (3 : Int32))).1 (by decide) (by decide) ?_
    show Steps p.tables e below (T2.setTop (mkF m 21 #[.val (.long q1), .second, .val (.long (q1 &&& (16777215 : Int64))), .second, .val (.ref b), .unset, .unset, .unset, .unset, .unset, .unset, .unset, .unset] [])) _
    refine XS.aload X2.here hx rfl (hb hby at_21) rfl rfl ?_
    show Steps p.tables e below (T2.setTop (mkF m 23 #[.val (.long q1), .second, .val (.long (q1 &&& (16777215 : Int64))), .second, .val (.ref b), .unset, .unset, .unset, .unset, .unset, .unset, .unset, .unset] [(.ref b)])) _
    refine XS.iconst X2.here hx rfl (hb hby at_23) ?_
    show Steps p.tables e below (T2.setTop (mkF m 24 #[.val (.long q1), .second, .val (.long (q1 &&& (16777215 : Int64))), .second, .val (.ref b), .unset, .unset, .unset, .unset, .unset, .unset, .unset, .unset] [(.int (0 : Int32)), (.ref b)])) _
    refine X2.baloadBytes hx (j := (0 : Int32)) (v := (.int (own_b0 (q1 &&& (16777215 : Int64))))) Ar_b.1 (State.isArrayOf_alike hZ.alike Ar_b.2.1) Ar_b.2.2 hin24 hat24 (g := (mkF m 24 #[.val (.long q1), .second, .val (.long (q1 &&& (16777215 : Int64))), .second, .val (.ref b), .unset, .unset, .unset, .unset, .unset, .unset, .unset, .unset] [(.int (0 : Int32)), (.ref b)])) rfl rfl (hb hby at_24) _ ?_
    show Steps p.tables e below (T2.setTop (mkF m 25 #[.val (.long q1), .second, .val (.long (q1 &&& (16777215 : Int64))), .second, .val (.ref b), .unset, .unset, .unset, .unset, .unset, .unset, .unset, .unset] [(.int (own_b0 (q1 &&& (16777215 : Int64))))])) _
    refine XS.sipush X2.here hx rfl (hb hby at_25) ?_
    show Steps p.tables e below (T2.setTop (mkF m 28 #[.val (.long q1), .second, .val (.long (q1 &&& (16777215 : Int64))), .second, .val (.ref b), .unset, .unset, .unset, .unset, .unset, .unset, .unset, .unset] [(.int (255 : Int32)), (.int (own_b0 (q1 &&& (16777215 : Int64))))])) _
    refine XS.iand X2.here hx rfl (hb hby at_28) rfl ?_
    show Steps p.tables e below (T2.setTop (mkF m 29 #[.val (.long q1), .second, .val (.long (q1 &&& (16777215 : Int64))), .second, .val (.ref b), .unset, .unset, .unset, .unset, .unset, .unset, .unset, .unset] [(.int ((own_b0 (q1 &&& (16777215 : Int64))) &&& (255 : Int32)))])) _
    refine XS.i2l X2.here hx rfl (hb hby at_29) rfl ?_
    show Steps p.tables e below (T2.setTop (mkF m 30 #[.val (.long q1), .second, .val (.long (q1 &&& (16777215 : Int64))), .second, .val (.ref b), .unset, .unset, .unset, .unset, .unset, .unset, .unset, .unset] [(.long (((own_b0 (q1 &&& (16777215 : Int64))) &&& (255 : Int32)).toInt64))])) _
    refine XS.lstore X2.here hx rfl (hb hby at_30) rfl (l' := #[.val (.long q1), .second, .val (.long (q1 &&& (16777215 : Int64))), .second, .val (.ref b), .val (.long (((own_b0 (q1 &&& (16777215 : Int64))) &&& (255 : Int32)).toInt64)), .second, .unset, .unset, .unset, .unset, .unset, .unset]) rfl ?_
    show Steps p.tables e below (T2.setTop (mkF m 32 #[.val (.long q1), .second, .val (.long (q1 &&& (16777215 : Int64))), .second, .val (.ref b), .val (.long (((own_b0 (q1 &&& (16777215 : Int64))) &&& (255 : Int32)).toInt64)), .second, .unset, .unset, .unset, .unset, .unset, .unset] [])) _
    refine XS.aload X2.here hx rfl (hb hby at_32) rfl rfl ?_
    show Steps p.tables e below (T2.setTop (mkF m 34 #[.val (.long q1), .second, .val (.long (q1 &&& (16777215 : Int64))), .second, .val (.ref b), .val (.long (((own_b0 (q1 &&& (16777215 : Int64))) &&& (255 : Int32)).toInt64)), .second, .unset, .unset, .unset, .unset, .unset, .unset] [(.ref b)])) _
    refine XS.iconst X2.here hx rfl (hb hby at_34) ?_
    show Steps p.tables e below (T2.setTop (mkF m 35 #[.val (.long q1), .second, .val (.long (q1 &&& (16777215 : Int64))), .second, .val (.ref b), .val (.long (((own_b0 (q1 &&& (16777215 : Int64))) &&& (255 : Int32)).toInt64)), .second, .unset, .unset, .unset, .unset, .unset, .unset] [(.int (1 : Int32)), (.ref b)])) _
    refine X2.baloadBytes hx (j := (1 : Int32)) (v := (.int (own_b1 (q1 &&& (16777215 : Int64))))) Ar_b.1 (State.isArrayOf_alike hZ.alike Ar_b.2.1) Ar_b.2.2 hin35 hat35 (g := (mkF m 35 #[.val (.long q1), .second, .val (.long (q1 &&& (16777215 : Int64))), .second, .val (.ref b), .val (.long (((own_b0 (q1 &&& (16777215 : Int64))) &&& (255 : Int32)).toInt64)), .second, .unset, .unset, .unset, .unset, .unset, .unset] [(.int (1 : Int32)), (.ref b)])) rfl rfl (hb hby at_35) _ ?_
    show Steps p.tables e below (T2.setTop (mkF m 36 #[.val (.long q1), .second, .val (.long (q1 &&& (16777215 : Int64))), .second, .val (.ref b), .val (.long (((own_b0 (q1 &&& (16777215 : Int64))) &&& (255 : Int32)).toInt64)), .second, .unset, .unset, .unset, .unset, .unset, .unset] [(.int (own_b1 (q1 &&& (16777215 : Int64))))])) _
    refine XS.sipush X2.here hx rfl (hb hby at_36) ?_
    show Steps p.tables e below (T2.setTop (mkF m 39 #[.val (.long q1), .second, .val (.long (q1 &&& (16777215 : Int64))), .second, .val (.ref b), .val (.long (((own_b0 (q1 &&& (16777215 : Int64))) &&& (255 : Int32)).toInt64)), .second, .unset, .unset, .unset, .unset, .unset, .unset] [(.int (255 : Int32)), (.int (own_b1 (q1 &&& (16777215 : Int64))))])) _
    refine XS.iand X2.here hx rfl (hb hby at_39) rfl ?_
    show Steps p.tables e below (T2.setTop (mkF m 40 #[.val (.long q1), .second, .val (.long (q1 &&& (16777215 : Int64))), .second, .val (.ref b), .val (.long (((own_b0 (q1 &&& (16777215 : Int64))) &&& (255 : Int32)).toInt64)), .second, .unset, .unset, .unset, .unset, .unset, .unset] [(.int ((own_b1 (q1 &&& (16777215 : Int64))) &&& (255 : Int32)))])) _
    refine XS.i2l X2.here hx rfl (hb hby at_40) rfl ?_
    show Steps p.tables e below (T2.setTop (mkF m 41 #[.val (.long q1), .second, .val (.long (q1 &&& (16777215 : Int64))), .second, .val (.ref b), .val (.long (((own_b0 (q1 &&& (16777215 : Int64))) &&& (255 : Int32)).toInt64)), .second, .unset, .unset, .unset, .unset, .unset, .unset] [(.long (((own_b1 (q1 &&& (16777215 : Int64))) &&& (255 : Int32)).toInt64))])) _
    refine XS.lstore X2.here hx rfl (hb hby at_41) rfl (l' := #[.val (.long q1), .second, .val (.long (q1 &&& (16777215 : Int64))), .second, .val (.ref b), .val (.long (((own_b0 (q1 &&& (16777215 : Int64))) &&& (255 : Int32)).toInt64)), .second, .val (.long (((own_b1 (q1 &&& (16777215 : Int64))) &&& (255 : Int32)).toInt64)), .second, .unset, .unset, .unset, .unset]) rfl ?_
    show Steps p.tables e below (T2.setTop (mkF m 43 #[.val (.long q1), .second, .val (.long (q1 &&& (16777215 : Int64))), .second, .val (.ref b), .val (.long (((own_b0 (q1 &&& (16777215 : Int64))) &&& (255 : Int32)).toInt64)), .second, .val (.long (((own_b1 (q1 &&& (16777215 : Int64))) &&& (255 : Int32)).toInt64)), .second, .unset, .unset, .unset, .unset] [])) _
    refine XS.aload X2.here hx rfl (hb hby at_43) rfl rfl ?_
    show Steps p.tables e below (T2.setTop (mkF m 45 #[.val (.long q1), .second, .val (.long (q1 &&& (16777215 : Int64))), .second, .val (.ref b), .val (.long (((own_b0 (q1 &&& (16777215 : Int64))) &&& (255 : Int32)).toInt64)), .second, .val (.long (((own_b1 (q1 &&& (16777215 : Int64))) &&& (255 : Int32)).toInt64)), .second, .unset, .unset, .unset, .unset] [(.ref b)])) _
    refine XS.iconst X2.here hx rfl (hb hby at_45) ?_
    show Steps p.tables e below (T2.setTop (mkF m 46 #[.val (.long q1), .second, .val (.long (q1 &&& (16777215 : Int64))), .second, .val (.ref b), .val (.long (((own_b0 (q1 &&& (16777215 : Int64))) &&& (255 : Int32)).toInt64)), .second, .val (.long (((own_b1 (q1 &&& (16777215 : Int64))) &&& (255 : Int32)).toInt64)), .second, .unset, .unset, .unset, .unset] [(.int (2 : Int32)), (.ref b)])) _
    refine X2.baloadBytes hx (j := (2 : Int32)) (v := (.int (own_b2 (q1 &&& (16777215 : Int64))))) Ar_b.1 (State.isArrayOf_alike hZ.alike Ar_b.2.1) Ar_b.2.2 hin46 hat46 (g := (mkF m 46 #[.val (.long q1), .second, .val (.long (q1 &&& (16777215 : Int64))), .second, .val (.ref b), .val (.long (((own_b0 (q1 &&& (16777215 : Int64))) &&& (255 : Int32)).toInt64)), .second, .val (.long (((own_b1 (q1 &&& (16777215 : Int64))) &&& (255 : Int32)).toInt64)), .second, .unset, .unset, .unset, .unset] [(.int (2 : Int32)), (.ref b)])) rfl rfl (hb hby at_46) _ ?_
    show Steps p.tables e below (T2.setTop (mkF m 47 #[.val (.long q1), .second, .val (.long (q1 &&& (16777215 : Int64))), .second, .val (.ref b), .val (.long (((own_b0 (q1 &&& (16777215 : Int64))) &&& (255 : Int32)).toInt64)), .second, .val (.long (((own_b1 (q1 &&& (16777215 : Int64))) &&& (255 : Int32)).toInt64)), .second, .unset, .unset, .unset, .unset] [(.int (own_b2 (q1 &&& (16777215 : Int64))))])) _
    refine XS.sipush X2.here hx rfl (hb hby at_47) ?_
    show Steps p.tables e below (T2.setTop (mkF m 50 #[.val (.long q1), .second, .val (.long (q1 &&& (16777215 : Int64))), .second, .val (.ref b), .val (.long (((own_b0 (q1 &&& (16777215 : Int64))) &&& (255 : Int32)).toInt64)), .second, .val (.long (((own_b1 (q1 &&& (16777215 : Int64))) &&& (255 : Int32)).toInt64)), .second, .unset, .unset, .unset, .unset] [(.int (255 : Int32)), (.int (own_b2 (q1 &&& (16777215 : Int64))))])) _
    refine XS.iand X2.here hx rfl (hb hby at_50) rfl ?_
    show Steps p.tables e below (T2.setTop (mkF m 51 #[.val (.long q1), .second, .val (.long (q1 &&& (16777215 : Int64))), .second, .val (.ref b), .val (.long (((own_b0 (q1 &&& (16777215 : Int64))) &&& (255 : Int32)).toInt64)), .second, .val (.long (((own_b1 (q1 &&& (16777215 : Int64))) &&& (255 : Int32)).toInt64)), .second, .unset, .unset, .unset, .unset] [(.int ((own_b2 (q1 &&& (16777215 : Int64))) &&& (255 : Int32)))])) _
    refine XS.i2l X2.here hx rfl (hb hby at_51) rfl ?_
    show Steps p.tables e below (T2.setTop (mkF m 52 #[.val (.long q1), .second, .val (.long (q1 &&& (16777215 : Int64))), .second, .val (.ref b), .val (.long (((own_b0 (q1 &&& (16777215 : Int64))) &&& (255 : Int32)).toInt64)), .second, .val (.long (((own_b1 (q1 &&& (16777215 : Int64))) &&& (255 : Int32)).toInt64)), .second, .unset, .unset, .unset, .unset] [(.long (((own_b2 (q1 &&& (16777215 : Int64))) &&& (255 : Int32)).toInt64))])) _
    refine XS.lstore X2.here hx rfl (hb hby at_52) rfl (l' := #[.val (.long q1), .second, .val (.long (q1 &&& (16777215 : Int64))), .second, .val (.ref b), .val (.long (((own_b0 (q1 &&& (16777215 : Int64))) &&& (255 : Int32)).toInt64)), .second, .val (.long (((own_b1 (q1 &&& (16777215 : Int64))) &&& (255 : Int32)).toInt64)), .second, .val (.long (((own_b2 (q1 &&& (16777215 : Int64))) &&& (255 : Int32)).toInt64)), .second, .unset, .unset]) rfl ?_
    show Steps p.tables e below (T2.setTop (mkF m 54 #[.val (.long q1), .second, .val (.long (q1 &&& (16777215 : Int64))), .second, .val (.ref b), .val (.long (((own_b0 (q1 &&& (16777215 : Int64))) &&& (255 : Int32)).toInt64)), .second, .val (.long (((own_b1 (q1 &&& (16777215 : Int64))) &&& (255 : Int32)).toInt64)), .second, .val (.long (((own_b2 (q1 &&& (16777215 : Int64))) &&& (255 : Int32)).toInt64)), .second, .unset, .unset] [])) _
    refine XS.lload X2.here hx rfl (hb hby at_54) rfl ?_
    show Steps p.tables e below (T2.setTop (mkF m 56 #[.val (.long q1), .second, .val (.long (q1 &&& (16777215 : Int64))), .second, .val (.ref b), .val (.long (((own_b0 (q1 &&& (16777215 : Int64))) &&& (255 : Int32)).toInt64)), .second, .val (.long (((own_b1 (q1 &&& (16777215 : Int64))) &&& (255 : Int32)).toInt64)), .second, .val (.long (((own_b2 (q1 &&& (16777215 : Int64))) &&& (255 : Int32)).toInt64)), .second, .unset, .unset] [(.long (((own_b0 (q1 &&& (16777215 : Int64))) &&& (255 : Int32)).toInt64))])) _
    refine X2.ldc2Long hx hown (mvT hZ (hw _ (List.mem_of_getElem? (i := 6) rfl))) (g := (mkF m 56 #[.val (.long q1), .second, .val (.long (q1 &&& (16777215 : Int64))), .second, .val (.ref b), .val (.long (((own_b0 (q1 &&& (16777215 : Int64))) &&& (255 : Int32)).toInt64)), .second, .val (.long (((own_b1 (q1 &&& (16777215 : Int64))) &&& (255 : Int32)).toInt64)), .second, .val (.long (((own_b2 (q1 &&& (16777215 : Int64))) &&& (255 : Int32)).toInt64)), .second, .unset, .unset] [(.long (((own_b0 (q1 &&& (16777215 : Int64))) &&& (255 : Int32)).toInt64))])) rfl (hb hby at_56) _ ?_
    show Steps p.tables e below (T2.setTop (mkF m 59 #[.val (.long q1), .second, .val (.long (q1 &&& (16777215 : Int64))), .second, .val (.ref b), .val (.long (((own_b0 (q1 &&& (16777215 : Int64))) &&& (255 : Int32)).toInt64)), .second, .val (.long (((own_b1 (q1 &&& (16777215 : Int64))) &&& (255 : Int32)).toInt64)), .second, .val (.long (((own_b2 (q1 &&& (16777215 : Int64))) &&& (255 : Int32)).toInt64)), .second, .unset, .unset] [(.long (65536 : Int64)), (.long (((own_b0 (q1 &&& (16777215 : Int64))) &&& (255 : Int32)).toInt64))])) _
    refine XS.lmul X2.here hx rfl (hb hby at_59) rfl ?_
    show Steps p.tables e below (T2.setTop (mkF m 60 #[.val (.long q1), .second, .val (.long (q1 &&& (16777215 : Int64))), .second, .val (.ref b), .val (.long (((own_b0 (q1 &&& (16777215 : Int64))) &&& (255 : Int32)).toInt64)), .second, .val (.long (((own_b1 (q1 &&& (16777215 : Int64))) &&& (255 : Int32)).toInt64)), .second, .val (.long (((own_b2 (q1 &&& (16777215 : Int64))) &&& (255 : Int32)).toInt64)), .second, .unset, .unset] [(.long ((((own_b0 (q1 &&& (16777215 : Int64))) &&& (255 : Int32)).toInt64) * (65536 : Int64)))])) _
    refine XS.lload X2.here hx rfl (hb hby at_60) rfl ?_
    show Steps p.tables e below (T2.setTop (mkF m 62 #[.val (.long q1), .second, .val (.long (q1 &&& (16777215 : Int64))), .second, .val (.ref b), .val (.long (((own_b0 (q1 &&& (16777215 : Int64))) &&& (255 : Int32)).toInt64)), .second, .val (.long (((own_b1 (q1 &&& (16777215 : Int64))) &&& (255 : Int32)).toInt64)), .second, .val (.long (((own_b2 (q1 &&& (16777215 : Int64))) &&& (255 : Int32)).toInt64)), .second, .unset, .unset] [(.long (((own_b1 (q1 &&& (16777215 : Int64))) &&& (255 : Int32)).toInt64)), (.long ((((own_b0 (q1 &&& (16777215 : Int64))) &&& (255 : Int32)).toInt64) * (65536 : Int64)))])) _
    refine X2.ldc2Long hx hown (mvT hZ (hw _ (List.mem_of_getElem? (i := 7) rfl))) (g := (mkF m 62 #[.val (.long q1), .second, .val (.long (q1 &&& (16777215 : Int64))), .second, .val (.ref b), .val (.long (((own_b0 (q1 &&& (16777215 : Int64))) &&& (255 : Int32)).toInt64)), .second, .val (.long (((own_b1 (q1 &&& (16777215 : Int64))) &&& (255 : Int32)).toInt64)), .second, .val (.long (((own_b2 (q1 &&& (16777215 : Int64))) &&& (255 : Int32)).toInt64)), .second, .unset, .unset] [(.long (((own_b1 (q1 &&& (16777215 : Int64))) &&& (255 : Int32)).toInt64)), (.long ((((own_b0 (q1 &&& (16777215 : Int64))) &&& (255 : Int32)).toInt64) * (65536 : Int64)))])) rfl (hb hby at_62) _ ?_
    show Steps p.tables e below (T2.setTop (mkF m 65 #[.val (.long q1), .second, .val (.long (q1 &&& (16777215 : Int64))), .second, .val (.ref b), .val (.long (((own_b0 (q1 &&& (16777215 : Int64))) &&& (255 : Int32)).toInt64)), .second, .val (.long (((own_b1 (q1 &&& (16777215 : Int64))) &&& (255 : Int32)).toInt64)), .second, .val (.long (((own_b2 (q1 &&& (16777215 : Int64))) &&& (255 : Int32)).toInt64)), .second, .unset, .unset] [(.long (256 : Int64)), (.long (((own_b1 (q1 &&& (16777215 : Int64))) &&& (255 : Int32)).toInt64)), (.long ((((own_b0 (q1 &&& (16777215 : Int64))) &&& (255 : Int32)).toInt64) * (65536 : Int64)))])) _
    refine XS.lmul X2.here hx rfl (hb hby at_65) rfl ?_
    show Steps p.tables e below (T2.setTop (mkF m 66 #[.val (.long q1), .second, .val (.long (q1 &&& (16777215 : Int64))), .second, .val (.ref b), .val (.long (((own_b0 (q1 &&& (16777215 : Int64))) &&& (255 : Int32)).toInt64)), .second, .val (.long (((own_b1 (q1 &&& (16777215 : Int64))) &&& (255 : Int32)).toInt64)), .second, .val (.long (((own_b2 (q1 &&& (16777215 : Int64))) &&& (255 : Int32)).toInt64)), .second, .unset, .unset] [(.long ((((own_b1 (q1 &&& (16777215 : Int64))) &&& (255 : Int32)).toInt64) * (256 : Int64))), (.long ((((own_b0 (q1 &&& (16777215 : Int64))) &&& (255 : Int32)).toInt64) * (65536 : Int64)))])) _
    refine XS.ladd X2.here hx rfl (hb hby at_66) rfl ?_
    show Steps p.tables e below (T2.setTop (mkF m 67 #[.val (.long q1), .second, .val (.long (q1 &&& (16777215 : Int64))), .second, .val (.ref b), .val (.long (((own_b0 (q1 &&& (16777215 : Int64))) &&& (255 : Int32)).toInt64)), .second, .val (.long (((own_b1 (q1 &&& (16777215 : Int64))) &&& (255 : Int32)).toInt64)), .second, .val (.long (((own_b2 (q1 &&& (16777215 : Int64))) &&& (255 : Int32)).toInt64)), .second, .unset, .unset] [(.long (((((own_b0 (q1 &&& (16777215 : Int64))) &&& (255 : Int32)).toInt64) * (65536 : Int64)) + ((((own_b1 (q1 &&& (16777215 : Int64))) &&& (255 : Int32)).toInt64) * (256 : Int64))))])) _
    refine XS.lload X2.here hx rfl (hb hby at_67) rfl ?_
    show Steps p.tables e below (T2.setTop (mkF m 69 #[.val (.long q1), .second, .val (.long (q1 &&& (16777215 : Int64))), .second, .val (.ref b), .val (.long (((own_b0 (q1 &&& (16777215 : Int64))) &&& (255 : Int32)).toInt64)), .second, .val (.long (((own_b1 (q1 &&& (16777215 : Int64))) &&& (255 : Int32)).toInt64)), .second, .val (.long (((own_b2 (q1 &&& (16777215 : Int64))) &&& (255 : Int32)).toInt64)), .second, .unset, .unset] [(.long (((own_b2 (q1 &&& (16777215 : Int64))) &&& (255 : Int32)).toInt64)), (.long (((((own_b0 (q1 &&& (16777215 : Int64))) &&& (255 : Int32)).toInt64) * (65536 : Int64)) + ((((own_b1 (q1 &&& (16777215 : Int64))) &&& (255 : Int32)).toInt64) * (256 : Int64))))])) _
    refine XS.ladd X2.here hx rfl (hb hby at_69) rfl ?_
    show Steps p.tables e below (T2.setTop (mkF m 70 #[.val (.long q1), .second, .val (.long (q1 &&& (16777215 : Int64))), .second, .val (.ref b), .val (.long (((own_b0 (q1 &&& (16777215 : Int64))) &&& (255 : Int32)).toInt64)), .second, .val (.long (((own_b1 (q1 &&& (16777215 : Int64))) &&& (255 : Int32)).toInt64)), .second, .val (.long (((own_b2 (q1 &&& (16777215 : Int64))) &&& (255 : Int32)).toInt64)), .second, .unset, .unset] [(.long ((((((own_b0 (q1 &&& (16777215 : Int64))) &&& (255 : Int32)).toInt64) * (65536 : Int64)) + ((((own_b1 (q1 &&& (16777215 : Int64))) &&& (255 : Int32)).toInt64) * (256 : Int64))) + (((own_b2 (q1 &&& (16777215 : Int64))) &&& (255 : Int32)).toInt64)))])) _
    refine XS.lstore X2.here hx rfl (hb hby at_70) rfl (l' := #[.val (.long q1), .second, .val (.long (q1 &&& (16777215 : Int64))), .second, .val (.ref b), .val (.long (((own_b0 (q1 &&& (16777215 : Int64))) &&& (255 : Int32)).toInt64)), .second, .val (.long (((own_b1 (q1 &&& (16777215 : Int64))) &&& (255 : Int32)).toInt64)), .second, .val (.long (((own_b2 (q1 &&& (16777215 : Int64))) &&& (255 : Int32)).toInt64)), .second, .val (.long ((((((own_b0 (q1 &&& (16777215 : Int64))) &&& (255 : Int32)).toInt64) * (65536 : Int64)) + ((((own_b1 (q1 &&& (16777215 : Int64))) &&& (255 : Int32)).toInt64) * (256 : Int64))) + (((own_b2 (q1 &&& (16777215 : Int64))) &&& (255 : Int32)).toInt64))), .second]) rfl ?_
    show Steps p.tables e below (T2.setTop (mkF m 72 #[.val (.long q1), .second, .val (.long (q1 &&& (16777215 : Int64))), .second, .val (.ref b), .val (.long (((own_b0 (q1 &&& (16777215 : Int64))) &&& (255 : Int32)).toInt64)), .second, .val (.long (((own_b1 (q1 &&& (16777215 : Int64))) &&& (255 : Int32)).toInt64)), .second, .val (.long (((own_b2 (q1 &&& (16777215 : Int64))) &&& (255 : Int32)).toInt64)), .second, .val (.long ((((((own_b0 (q1 &&& (16777215 : Int64))) &&& (255 : Int32)).toInt64) * (65536 : Int64)) + ((((own_b1 (q1 &&& (16777215 : Int64))) &&& (255 : Int32)).toInt64) * (256 : Int64))) + (((own_b2 (q1 &&& (16777215 : Int64))) &&& (255 : Int32)).toInt64))), .second] [])) _
    refine XS.lload X2.here hx rfl (hb hby at_72) rfl ?_
    show Steps p.tables e below (T2.setTop (mkF m 74 #[.val (.long q1), .second, .val (.long (q1 &&& (16777215 : Int64))), .second, .val (.ref b), .val (.long (((own_b0 (q1 &&& (16777215 : Int64))) &&& (255 : Int32)).toInt64)), .second, .val (.long (((own_b1 (q1 &&& (16777215 : Int64))) &&& (255 : Int32)).toInt64)), .second, .val (.long (((own_b2 (q1 &&& (16777215 : Int64))) &&& (255 : Int32)).toInt64)), .second, .val (.long ((((((own_b0 (q1 &&& (16777215 : Int64))) &&& (255 : Int32)).toInt64) * (65536 : Int64)) + ((((own_b1 (q1 &&& (16777215 : Int64))) &&& (255 : Int32)).toInt64) * (256 : Int64))) + (((own_b2 (q1 &&& (16777215 : Int64))) &&& (255 : Int32)).toInt64))), .second] [(.long ((((((own_b0 (q1 &&& (16777215 : Int64))) &&& (255 : Int32)).toInt64) * (65536 : Int64)) + ((((own_b1 (q1 &&& (16777215 : Int64))) &&& (255 : Int32)).toInt64) * (256 : Int64))) + (((own_b2 (q1 &&& (16777215 : Int64))) &&& (255 : Int32)).toInt64)))])) _
    refine XS.lloadN X2.here hx rfl (hb hby at_74) rfl ?_
    show Steps p.tables e below (T2.setTop (mkF m 75 #[.val (.long q1), .second, .val (.long (q1 &&& (16777215 : Int64))), .second, .val (.ref b), .val (.long (((own_b0 (q1 &&& (16777215 : Int64))) &&& (255 : Int32)).toInt64)), .second, .val (.long (((own_b1 (q1 &&& (16777215 : Int64))) &&& (255 : Int32)).toInt64)), .second, .val (.long (((own_b2 (q1 &&& (16777215 : Int64))) &&& (255 : Int32)).toInt64)), .second, .val (.long ((((((own_b0 (q1 &&& (16777215 : Int64))) &&& (255 : Int32)).toInt64) * (65536 : Int64)) + ((((own_b1 (q1 &&& (16777215 : Int64))) &&& (255 : Int32)).toInt64) * (256 : Int64))) + (((own_b2 (q1 &&& (16777215 : Int64))) &&& (255 : Int32)).toInt64))), .second] [(.long (q1 &&& (16777215 : Int64))), (.long ((((((own_b0 (q1 &&& (16777215 : Int64))) &&& (255 : Int32)).toInt64) * (65536 : Int64)) + ((((own_b1 (q1 &&& (16777215 : Int64))) &&& (255 : Int32)).toInt64) * (256 : Int64))) + (((own_b2 (q1 &&& (16777215 : Int64))) &&& (255 : Int32)).toInt64)))])) _
    refine XS.lcmp X2.here hx rfl (hb hby at_75) rfl ?_
    show Steps p.tables e below (T2.setTop (mkF m 76 #[.val (.long q1), .second, .val (.long (q1 &&& (16777215 : Int64))), .second, .val (.ref b), .val (.long (((own_b0 (q1 &&& (16777215 : Int64))) &&& (255 : Int32)).toInt64)), .second, .val (.long (((own_b1 (q1 &&& (16777215 : Int64))) &&& (255 : Int32)).toInt64)), .second, .val (.long (((own_b2 (q1 &&& (16777215 : Int64))) &&& (255 : Int32)).toInt64)), .second, .val (.long ((((((own_b0 (q1 &&& (16777215 : Int64))) &&& (255 : Int32)).toInt64) * (65536 : Int64)) + ((((own_b1 (q1 &&& (16777215 : Int64))) &&& (255 : Int32)).toInt64) * (256 : Int64))) + (((own_b2 (q1 &&& (16777215 : Int64))) &&& (255 : Int32)).toInt64))), .second] [(.int (lcmpW ((((((own_b0 (q1 &&& (16777215 : Int64))) &&& (255 : Int32)).toInt64) * (65536 : Int64)) + ((((own_b1 (q1 &&& (16777215 : Int64))) &&& (255 : Int32)).toInt64) * (256 : Int64))) + (((own_b2 (q1 &&& (16777215 : Int64))) &&& (255 : Int32)).toInt64)) (q1 &&& (16777215 : Int64))))])) _
    refine XS.ifNo X2.here hx rfl (hb hby at_76) rfl ((if0 _ _).trans (teq hc76).2) ?_
    show Steps p.tables e below (T2.setTop (mkF m 79 #[.val (.long q1), .second, .val (.long (q1 &&& (16777215 : Int64))), .second, .val (.ref b), .val (.long (((own_b0 (q1 &&& (16777215 : Int64))) &&& (255 : Int32)).toInt64)), .second, .val (.long (((own_b1 (q1 &&& (16777215 : Int64))) &&& (255 : Int32)).toInt64)), .second, .val (.long (((own_b2 (q1 &&& (16777215 : Int64))) &&& (255 : Int32)).toInt64)), .second, .val (.long ((((((own_b0 (q1 &&& (16777215 : Int64))) &&& (255 : Int32)).toInt64) * (65536 : Int64)) + ((((own_b1 (q1 &&& (16777215 : Int64))) &&& (255 : Int32)).toInt64) * (256 : Int64))) + (((own_b2 (q1 &&& (16777215 : Int64))) &&& (255 : Int32)).toInt64))), .second] [])) _
    refine XS.iconst X2.here hx rfl (hb hby at_79) ?_
    show Steps p.tables e below (T2.setTop (mkF m 80 #[.val (.long q1), .second, .val (.long (q1 &&& (16777215 : Int64))), .second, .val (.ref b), .val (.long (((own_b0 (q1 &&& (16777215 : Int64))) &&& (255 : Int32)).toInt64)), .second, .val (.long (((own_b1 (q1 &&& (16777215 : Int64))) &&& (255 : Int32)).toInt64)), .second, .val (.long (((own_b2 (q1 &&& (16777215 : Int64))) &&& (255 : Int32)).toInt64)), .second, .val (.long ((((((own_b0 (q1 &&& (16777215 : Int64))) &&& (255 : Int32)).toInt64) * (65536 : Int64)) + ((((own_b1 (q1 &&& (16777215 : Int64))) &&& (255 : Int32)).toInt64) * (256 : Int64))) + (((own_b2 (q1 &&& (16777215 : Int64))) &&& (255 : Int32)).toInt64))), .second] [(.int (1 : Int32))])) _
    refine XS.goto X2.here hx rfl (pc0 := 80) (pc' := 84) rfl (hb hby at_80) (by decide) (by decide) ?_
    show Steps p.tables e below (T2.setTop (mkF m 84 #[.val (.long q1), .second, .val (.long (q1 &&& (16777215 : Int64))), .second, .val (.ref b), .val (.long (((own_b0 (q1 &&& (16777215 : Int64))) &&& (255 : Int32)).toInt64)), .second, .val (.long (((own_b1 (q1 &&& (16777215 : Int64))) &&& (255 : Int32)).toInt64)), .second, .val (.long (((own_b2 (q1 &&& (16777215 : Int64))) &&& (255 : Int32)).toInt64)), .second, .val (.long ((((((own_b0 (q1 &&& (16777215 : Int64))) &&& (255 : Int32)).toInt64) * (65536 : Int64)) + ((((own_b1 (q1 &&& (16777215 : Int64))) &&& (255 : Int32)).toInt64) * (256 : Int64))) + (((own_b2 (q1 &&& (16777215 : Int64))) &&& (255 : Int32)).toInt64))), .second] [(.int (1 : Int32))])) _
    exact retN X2 hx (t := .boolean) Bd.returns (by simp) (hb hby at_84) hr
  · show Q0 Z q1 h0 n0 _ T2.heap _
    exact ⟨rfl, N2⟩
set_option maxRecDepth 65536 in
set_option maxHeartbeats 40000000 in
theorem comes_1 {Post : Tables → Env → Array Value → State → Outcome → State → Prop} (hpost : ∀ tb e args s v u, (limb_1_1.after args s (.returned v) u = true ∧ limb_1_2.after args s (.returned v) u = true ∧ True) → FrameEnd s (.returned v) u (Jvm.fieldLocs frame_1_writes args s ++ Jvm.arrayLocs frame_1_arrays args s ++ Jvm.staticLocs frame_1_statics s) 16 128 → Post tb e args s (.returned v) u) :
    ArmFor flags0 classFile x code maxLocals ret World_1 tables_1 room_1 Calls_1 rest_1 Pre_1 Post := by
  intro l hfl _ _ p e ha hc hk s m args below hf hA hF happ hP
  obtain ⟨hcalls, hrest, hpre⟩ := hP
  obtain ⟨-, -, -, hnamed, -, -, -, hat⟩ := (Spec.applies_iff hf).mp happ
  obtain ⟨hg, hn⟩ := and_e (Cond.before_iff.mp (show (Jvm.Cond.and given_1 narrow_1).before args s = true from hpre))
  obtain ⟨g6, g7⟩ := and_e hg
  obtain ⟨w0, rfl⟩ : ∃ w0 : Value, args = #[w0] := by
    have hs : args.size = 1 := by simpa [Cond.value, given_1] using g6
    obtain ⟨L⟩ := args
    match L, hs with
    | [w0], _ => exact ⟨w0, rfl⟩
  have hw := fun d (hd : d ∈ tables_1) => atoms_spec (ws := Jvm.Cond.code x code maxLocals ret :: tables_1) hat d (List.mem_cons_of_mem _ hd)
  have hfit : Fit s := fun {y c} hc i hi => by
    obtain ⟨ha, rfl⟩ := Array.getElem?_eq_some_iff.mp hc
    have q := List.all_eq_true.mp ((Array.all_eq_true_iff_forall_mem.mp hF) _ (Array.getElem_mem ha)) i (List.mem_range.mpr hi)
    simpa [Array.getElem?_eq_getElem hi] using q
  obtain ⟨i0, ei0⟩ := isL_v g7
  obtain rfl : w0 = (.long i0) := Option.some.inj ei0
  obtain ⟨n, o, h1, h2, h3, _, L, rfl, ⟨rfl, N⟩, hq⟩ := rm0 l s _ hw tables_1 i0 s.heap s.heap.size (Nat.le_refl _) p e ha hc hk s m _ below hf ((Spec.applies_iff_loose hf).mp happ).1 ⟨rfl, State.Warmed39.refl s, rfl⟩ trivial
  refine ⟨n, _, h1, h2, h3, hpost _ _ _ _ _ _ ⟨Cond.after_iff.mpr rfl, Cond.after_iff.mpr (eq_i res_at (Term.int_eval (1)) rfl), trivial⟩ ⟨hq.1, hq.2.1, (hq.2.2.sift fun y hy => Or.inr (N y hy)).mono (by decide) (by decide)⟩⟩
theorem main_1_1 : Claimed_1_1 := comes_1 fun _ _ _ _ _ _ h hF => ⟨h.1, hF⟩
theorem main_1_2 : Claimed_1_2 := comes_1 fun _ _ _ _ _ _ h hF => ⟨h.2.1, hF⟩
end Jvm.Pilot.@@N@@
namespace Jvm.Pilot.@@N@@
open Jvm Jvm.ClassFile Sem Op Lib Jvm.Free Jvm.Stand Jvm.Pilot.@@N@@.Jvm.D
/-! MADE BY PROGRAM (witnessworld.py) out of the Statement's table words and the real class files: 9 classes; the members and pool entries that the words name. The judged class is class 1, her method 1. -/
namespace start1
open Jvm.ClassFile
def u (s : String) : CpInfo := .utf8 (stringToUtf16 s)
/-- a pool by its gaps: so many unusable entries, then the entry; so many at the end -/
def gap : Nat → List CpInfo → List CpInfo
  | 0, r => r
  | n + 1, r => .unusable :: gap n r
def poolList (es : List (Nat × CpInfo)) (last : Nat) : List CpInfo := es.foldr (fun e r => gap e.1 (e.2 :: r)) (gap last [])
def pool (es : List (Nat × CpInfo)) (last : Nat) : Array CpInfo := ⟨poolList es last⟩
def fileOf (pool : Array CpInfo) (this : Nat) (attrs : Array Attribute := #[]) (ms : Array MethodInfo := #[]) (fl : Nat := 33) (sup : Nat := 0) (ifs : Array Nat := #[]) (fds : Array FieldInfo := #[]) : ClassFile where
  minorVersion := 0
  majorVersion := 65
  constantPool := pool
  accessFlags := fl
  thisClass := this
  superClass := sup
  interfaces := ifs
  fields := fds
  methods := ms
  attributes := attrs
def plain (name : String) (sup : Option ClassId) : Class where
  name := name
  kind := .ordinary
  loader := none
  accessFlags := 33
  super := sup
  interfaces := #[]
  cf := none
  fields := #[]
  methods := #[]
  instanceTypes := #[]
  staticTypes := #[]
  resolved := #[]
  callSites := []
  init := .initialized
  statics := none
  mirror := none

def pool0 : Array CpInfo := pool [(5, u "<init>"), (0, u "()V"), (1, .class_ 10), (1, u "java/lang/Object")] 113

def k0m0 : Method := { name := "<init>", desc := "()V", sig := { parameters := [], returnType := none }, accessFlags := 1, code := none }
/-- java/lang/Object -/
def k0 : Class := { plain "java/lang/Object" none with
  accessFlags := 33
  interfaces := #[]
  cf := some (fileOf pool0 8 #[] #[{ accessFlags := 1, nameIndex := 5, descriptorIndex := 6, attributes := #[] }] 33 0 #[] #[])
  fields := #[]
  methods := #[k0m0]
  instanceTypes := #[]
  staticTypes := #[]
  resolved := Array.replicate 124 none
  statics := none }

def pool1 : Array CpInfo := pool [(2, .class_ 4), (1, u "java/lang/Object"), (0, u "<init>"), (0, u "()V"), (0, .long 16777215), (1, .interfaceMethodref 10 11), (0, .class_ 12), (0, .nameAndType 13 14), (0, u "com/example/chipfare/chipfare/card/Transaction"), (0, u "threeBytes"), (0, u "(J)[B"), (0, .long 65536), (1, .long 256), (1, .class_ 20), (0, u "com/example/chipfare/chipfare/card/TransactionThreeBytesPinLaw"), (2, u "law"), (0, u "(J)Z")] 5

def k1m0 : Method := { name := "<init>", desc := "()V", sig := { parameters := [], returnType := none }, accessFlags := 1, code := none }
def k1c1 : Code := { maxStack := 6, maxLocals := 13, code := code, exceptionTable := #[], attributes := #[] }
def k1m1 : Method := { name := "law", desc := "(J)Z", sig := { parameters := [.long], returnType := some .boolean }, accessFlags := 9, code := some k1c1 }
/-- com/example/chipfare/chipfare/card/TransactionThreeBytesPinLaw -/
def k1 : Class := { plain "com/example/chipfare/chipfare/card/TransactionThreeBytesPinLaw" (some 0) with
  accessFlags := 49
  interfaces := #[]
  cf := some (fileOf pool1 19 #[] #[{ accessFlags := 1, nameIndex := 5, descriptorIndex := 6, attributes := #[] }, { accessFlags := 9, nameIndex := 23, descriptorIndex := 24, attributes := #[] }] 49 2 #[] #[])
  fields := #[]
  methods := #[k1m0, k1m1]
  instanceTypes := #[]
  staticTypes := #[]
  resolved := Array.replicate 30 none
  statics := none }

def pool2 : Array CpInfo := pool [(20, .class_ 22), (1, u "com/example/chipfare/chipfare/card/Transaction"), (3, .class_ 28), (1, u "com/example/chipfare/chipfare/card/Transaction$Kind"), (7, .class_ 38), (1, u "com/example/chipfare/chipfare/card/Transaction$Opening"), (48, u "threeBytes"), (0, u "(J)[B"), (0, .class_ 90), (0, u "java/lang/Object"), (18, .class_ 110), (0, u "com/example/chipfare/chipfare/card/Transaction$Finishing"), (0, .class_ 112), (0, u "com/example/chipfare/chipfare/card/Transaction$Stamp"), (0, .class_ 114), (0, u "com/example/chipfare/chipfare/card/Transaction$FinishingCommand"), (0, .class_ 116), (0, u "com/example/chipfare/chipfare/card/Transaction$Keys")] 8

def k2c0 : Code := { maxStack := 6, maxLocals := 2, code := prog_42_method_12_code, exceptionTable := #[], attributes := #[] }
def k2m0 : Method := { name := "threeBytes", desc := "(J)[B", sig := { parameters := [.long], returnType := some (.array .byte) }, accessFlags := 9, code := some k2c0 }
/-- com/example/chipfare/chipfare/card/Transaction -/
def k2 : Class := { plain "com/example/chipfare/chipfare/card/Transaction" (some 0) with
  accessFlags := 1536
  interfaces := #[]
  cf := some (fileOf pool2 20 #[.nestMembers #[109, 111, 113, 36, 115, 26]] #[{ accessFlags := 9, nameIndex := 87, descriptorIndex := 88, attributes := #[] }] 1536 89 #[] #[])
  fields := #[]
  methods := #[k2m0]
  instanceTypes := #[]
  staticTypes := #[]
  resolved := Array.replicate 125 none
  statics := none }

def pool3 : Array CpInfo := pool [(1, u "java/lang/Cloneable"), (0, .class_ 1), (0, u "java/lang/Object"), (0, .class_ 3)] 3

/-- java/lang/Cloneable -/
def k3 : Class := { plain "java/lang/Cloneable" (some 0) with
  accessFlags := 1537
  interfaces := #[]
  cf := some (fileOf pool3 2 #[] #[] 1537 4 #[] #[])
  fields := #[]
  methods := #[]
  instanceTypes := #[]
  staticTypes := #[]
  resolved := Array.replicate 8 none
  statics := none }

def pool4 : Array CpInfo := pool [(1, u "java/io/Serializable"), (0, .class_ 1), (0, u "java/lang/Object"), (0, .class_ 3)] 3

/-- java/io/Serializable -/
def k4 : Class := { plain "java/io/Serializable" (some 0) with
  accessFlags := 1537
  interfaces := #[]
  cf := some (fileOf pool4 2 #[] #[] 1537 4 #[] #[])
  fields := #[]
  methods := #[]
  instanceTypes := #[]
  staticTypes := #[]
  resolved := Array.replicate 8 none
  statics := none }

/-- the primitive byte -/
def k5 : Class := { plain "byte" none with kind := .primitive 'B', accessFlags := 0x411 }
/-- [B -/
def k6 : Class := { plain "[B" (some 0) with kind := .array 5 .byte, interfaces := #[3, 4], accessFlags := 1041 }

/-- the primitive int -/
def k7 : Class := { plain "int" none with kind := .primitive 'I', accessFlags := 0x411 }
/-- [I -/
def k8 : Class := { plain "[I" (some 0) with kind := .array 7 .int, interfaces := #[3, 4], accessFlags := 1041 }

def heap : Heap := #[]
def classes : Array Class := #[k0, k1, k2, k3, k4, k5, k6, k7, k8]
def interned : List (Array UInt16 × Addr) := []
def slotsUsed : Nat := 0
def theMethod : MethodId := ⟨1, 1⟩
def args0 : Array Value := #[.long 5]
def aboutOver (below : List Frame) : State where
  vm := { classes := classes, interned := interned.toArray }
  heap := heap
  slotsUsed := slotsUsed
  threads := #[{ frames := .invoking theMethod args0 :: below }]
def below0 : List Frame := [.native { method := ⟨0, 0⟩, args := #[] }]
def about1 : State := aboutOver below0
def p0 : Program := .bare "" "" ""
def e0 : Env := launch0.env 0 0 0
theorem w_frames : about1.frames = Frame.invoking theMethod args0 :: below0 := rfl
set_option maxRecDepth 65536 in
theorem w_args : argsFit about1.vm theMethod args0 = true := by decide +kernel
set_option maxRecDepth 65536 in
theorem w_heap : heapFits about1 = true := by decide +kernel
set_option maxRecDepth 65536 in
theorem w_runnable : about1.curStatus? = some .runnable := by decide +kernel
set_option maxRecDepth 65536 in
theorem w_alone : about1.alone = true := by decide +kernel
set_option maxRecDepth 65536 in
theorem w_named : about1.methodNamed? x = some theMethod := by decide +kernel
set_option maxRecDepth 65536 in
theorem w_hears : about1.hears theMethod below0 = true := by decide +kernel
set_option maxRecDepth 65536 in
theorem w_ripe : about1.ripe theMethod args0 below0 = true := by decide +kernel
theorem w_running : about1.status = .running := rfl
set_option maxRecDepth 65536 in
theorem w_room : about1.hasRoom e0.platform room_1 = true :=
  launch0.hasRoom_least _ room_1 (by decide +kernel) (by decide +kernel) (by decide +kernel) (by decide +kernel) (by decide +kernel) (by decide +kernel)
theorem allAtoms_all (ts : List Jvm.Cond) (a : Array Jvm.Value) (st : Jvm.State) : (allAtoms ts).before a st = ts.all (fun c => c.before a st) := by
  induction ts with
  | nil => rfl
  | cons c t ih =>
    show (Jvm.Cond.and c (allAtoms t)).before a st = _
    rw [Jvm.Cond.before_and, ih, List.all_cons]
def words1 : List Jvm.Cond := Jvm.Cond.code x code maxLocals ret :: tables_1
/-- a 'code' word, met by the world's own term for the bytes: nothing is compared byte by byte -/
theorem code_word {y : MethodName} {bytes : ByteArray} {mx : Nat} {rt : Option FieldType} {a : Array Value} {s : State} {m : MethodId} {meth : Method} {c : Code} (h1 : s.methodNamed? y = some m) (h2 : s.vm.method? m = some meth) (h3 : meth.code = some c) (h4 : c.code = bytes)
    (h5 : (c.maxLocals == mx && c.exceptionTable.isEmpty && decide (c.maxStack ≤ mostOperands) && decide (meth.sig.returnType = rt) && !meth.locks && decide (parseMethodDescriptor y.desc = some meth.sig)) = true) : (Jvm.Cond.code y bytes mx rt).before a s = true := by
  simp only [Bool.and_eq_true, beq_iff_eq, Bool.not_eq_true', decide_eq_true_eq] at h5
  obtain ⟨⟨⟨⟨⟨g1, g2⟩, g3⟩, g4⟩, g5⟩, g6⟩ := h5
  simp [Cond.before, Cond.holds, Cond.value, h1, h2, h3, h4, g1, g2, g3, g4, g5, g6]
def isCode : Jvm.Cond → Bool
  | .code _ _ _ _ => true
  | _ => false
theorem all_split {L : List Jvm.Cond} {P : Jvm.Cond → Bool} (h1 : L.all (fun c => isCode c || P c) = true) (h2 : ∀ c ∈ L.filter isCode, P c = true) : L.all P = true := by
  refine List.all_eq_true.mpr fun c hc => ?_
  have h := List.all_eq_true.mp h1 c hc
  rcases Bool.eq_false_or_eq_true (isCode c) with hi | hi
  · exact h2 c (List.mem_filter.mpr ⟨hc, hi⟩)
  · simpa [hi] using h
set_option maxRecDepth 65536 in
theorem w_c0 : (Jvm.Cond.code x code maxLocals ret).before args0 about1 = true := code_word (m := ⟨1, 1⟩) (meth := k1m1) (c := k1c1) (by decide +kernel) rfl rfl rfl (by decide +kernel)
set_option maxRecDepth 65536 in
theorem w_c1 : (Jvm.Cond.code ({ cls := "com/example/chipfare/chipfare/card/Transaction", name := "threeBytes", desc := "(J)[B" } : Jvm.MethodName) prog_42_method_12_code (2 : Nat) (Option.some (Jvm.ClassFile.FieldType.array Jvm.ClassFile.FieldType.byte))).before args0 about1 = true := code_word (m := ⟨2, 0⟩) (meth := k2m0) (c := k2c0) (by decide +kernel) rfl rfl rfl (by decide +kernel)
def codes1 : List Jvm.Cond := [Jvm.Cond.code x code maxLocals ret, Jvm.Cond.code ({ cls := "com/example/chipfare/chipfare/card/Transaction", name := "threeBytes", desc := "(J)[B" } : Jvm.MethodName) prog_42_method_12_code (2 : Nat) (Option.some (Jvm.ClassFile.FieldType.array Jvm.ClassFile.FieldType.byte))]
set_option maxRecDepth 65536 in
theorem codes_eq : words1.filter isCode = codes1 := rfl
theorem w_codes : ∀ c ∈ words1.filter isCode, c.before args0 about1 = true := by
  rw [codes_eq]
  intro c hc
  simp only [codes1, List.mem_cons, List.not_mem_nil, or_false] at hc
  rcases hc with rfl | rfl
  · exact w_c0
  · exact w_c1
set_option maxRecDepth 65536 in
theorem w_t1 : words1.all (fun c => isCode c || c.before args0 about1) = true := by decide +kernel
theorem w_tables : (allAtoms (Jvm.Cond.code x code maxLocals ret :: tables_1)).before args0 about1 = true := by
  rw [allAtoms_all]
  show words1.all (fun c => c.before args0 about1) = true
  refine all_split ?_ w_codes
  rw [w_t1]
set_option maxRecDepth 65536 in
theorem w_case : (Jvm.Cond.and given_1 narrow_1).before args0 about1 = true := by decide +kernel
theorem w_applies : (headSpec (Jvm.Cond.code x code maxLocals ret :: tables_1) room_1).applies x e0.platform about1 = true :=
  (Spec.applies_iff w_frames).mpr ⟨w_running, w_runnable, w_alone, w_named, w_hears, w_ripe, w_room, w_tables⟩
theorem atStart : AtStart classFile x code maxLocals ret World_1 tables_1 room_1 Calls_1 rest_1 Pre_1 launch0 p0 e0 about1 theMethod args0 below0 :=
  ⟨lists_1, trivial, launch0.admits_env _ _ _, launch0.least_env, fairChoices_fair.cas, fairChoices_fair.clock, w_frames, w_args, w_heap, w_applies, trivial, trivial, w_case⟩
end start1
theorem witness_1 : WitnessClaimed_1 := ⟨start1.p0, start1.e0, start1.about1, start1.theMethod, start1.args0, start1.below0, start1.atStart⟩
end Jvm.Pilot.@@N@@
