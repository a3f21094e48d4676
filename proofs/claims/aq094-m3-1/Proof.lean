import JvmDerived
import JvmDerived.Pilot.@@N@@Statement
import JvmDerived.Pilot.@@N@@Code
set_option linter.unusedVariables false
set_option linter.unusedSimpArgs false
namespace Jvm.RoadKit
open Sem ClassFile Op Lib Jvm.Stand Jvm.Free Jvm.LawKit
section New
variable {p : Program} {l : Launch} {e : Env} {R : Room} {s : State} {m : MethodId} {args : Array Value} {below : List Frame} {meth : Method} {c : Code} {T : State} {locs : List Loc} {cells slots : Nat}
theorem retI (X : Stand p l e R s m args below meth c T locs cells slots) (hx : p.tables.exec = Jvm.exec) {pc : Nat} {Ls : Array Slot} {z : Int32} {rest : List Value} (hret : meth.sig.returnType = some .int) (hd : decode c.code pc = .ok (.ireturn, 1)) {fs : List Frame}
    (hl : ∀ (f : JFrame) (acts : List Action), f.method = m → f.locked = none → f.entered = [] → (doReturn e (T.setTop f) acts (some (.int z))).1 = T.setFrames fs) : Steps p.tables e below (T.setTop (mkF m pc Ls (.int z :: rest))) (T.setFrames fs) := by
  have hm' : T.vm.method? m = some meth := X.method'
  have hn : narrow .int (.int z) = .int z := rfl
  show Steps p.tables e below (T.setTop { method := m, pc := pc, locals := Ls, stack := _ :: rest, locked := none }) _
  jvm_step X.here [X.here.top, hx, hd, hm', hret, hn]
  first | (intro acts; rw [hl _ acts rfl rfl rfl]) | rw [hl _ _ rfl rfl rfl]
  exact Steps.refl _
end New
end Jvm.RoadKit
namespace Jvm.Pilot.@@N@@
open Jvm Jvm.ClassFile Sem Op Lib Jvm.Free Jvm.Stand Jvm.LawKit Jvm.RoadKit Bundle Jvm.Pilot.@@N@@.Jvm.D
def NP (Z : State) (h : Heap) (n0 : Nat) (o : Addr) (f e : Int32) (VL VC VB : List Value) : Prop :=
  ∃ (ln cl lb : Addr) (kl kc kb : ClassId), Exa Z h o "overmark/NotedPlaces" ∧ Fld Z h o "overmark/NotedPlaces" "lines" "[I" (.ref ln) ∧ Fld Z h o "overmark/NotedPlaces" "columns" "[I" (.ref cl) ∧ Fld Z h o "overmark/NotedPlaces" "labels" "[Ljava/lang/String;" (.ref lb) ∧
    Fld Z h o "overmark/NotedPlaces" "first" "I" (.int f) ∧ Fld Z h o "overmark/NotedPlaces" "end" "I" (.int e) ∧ Arv Z h ln kl .int (1024 : Int32) VL (.int (0 : Int32)) ∧ Arv Z h cl kc .int (1024 : Int32) VC (.int (0 : Int32)) ∧ Arv Z h lb kb (.object "java/lang/String") (1024 : Int32) VB .null ∧
    n0 ≤ o ∧ n0 ≤ ln ∧ n0 ≤ cl ∧ n0 ≤ lb ∧ o ≠ ln ∧ o ≠ cl ∧ o ≠ lb ∧ ln ≠ cl ∧ ln ≠ lb ∧ cl ≠ lb
theorem own_exa {Z : State} {h : Heap} {n0 : Nat} {o : Addr} {f e : Int32} {VL VC VB : List Value} (N : NP Z h n0 o f e VL VC VB) : Exa Z h o "overmark/NotedPlaces" := by
  obtain ⟨_, _, _, _, _, _, E, -⟩ := N
  exact E
def own_fb (f e x y p q : Int32) : Int32 := if f < e then (if x < p then 1 else if x = p then (if y < q then 1 else 0) else 0) else 0
def own_key (a b : Int32) : Int64 := ((a.toInt64) <<< ((32 : Int32) &&& 0x3f).toInt64) + ((b.toInt64) + (2147483648 : Int64))
theorem own_key_int (a b : Int32) : (own_key a b).toInt = a.toInt * 4294967296 + (b.toInt + 2147483648) := by
  unfold own_key
  have h1 := c_lshl a.toInt64 (32 : Int32) 32 (by decide)
  have h2 := c_ladd b.toInt64 (2147483648 : Int64)
  have h3 := c_ladd ((a.toInt64) <<< ((32 : Int32) &&& 0x3f).toInt64) ((b.toInt64) + (2147483648 : Int64))
  have r1 := rng64 ((a.toInt64) <<< ((32 : Int32) &&& 0x3f).toInt64)
  have r2 := rng64 ((b.toInt64) + (2147483648 : Int64))
  have r3 := rng64 (((a.toInt64) <<< ((32 : Int32) &&& 0x3f).toInt64) + ((b.toInt64) + (2147483648 : Int64)))
  have ra := rng32 a
  have rb := rng32 b
  rw [c_i2l] at h1 h2
  rw [show (2147483648 : Int64).toInt = 2147483648 by decide] at h2
  omega
theorem own_key_lt (a b c d : Int32) : lcmpW (own_key a b) (own_key c d) < (0 : Int32) ↔ (a < c ∨ (a = c ∧ b < d)) := by
  rw [lw_lt, Int64.lt_iff_toInt_lt, own_key_int, own_key_int, Int32.lt_iff_toInt_lt, Int32.lt_iff_toInt_lt, ← Int32.toInt_inj]
  have rb := rng32 b
  have rd := rng32 d
  have ra := rng32 a
  have rc := rng32 c
  omega
theorem own_yes {f e x y p q : Int32} (hf : f < e) (h : lcmpW (own_key x y) (own_key p q) < (0 : Int32)) : own_fb f e x y p q = (1 : Int32) := by
  unfold own_fb
  rw [if_pos hf]
  rcases (own_key_lt x y p q).mp h with h1 | ⟨h1, h2⟩
  · rw [if_pos h1]
  · rw [if_pos h1, if_pos h2]
    split <;> rfl
theorem own_no {f e x y p q : Int32} (hf : f < e) (h : ¬ lcmpW (own_key x y) (own_key p q) < (0 : Int32)) : own_fb f e x y p q = (0 : Int32) := by
  have h0 := fun k => h ((own_key_lt x y p q).mpr k)
  unfold own_fb
  rw [if_pos hf, if_neg (fun k => h0 (Or.inl k))]
  by_cases h1 : x = p
  · rw [if_pos h1, if_neg (fun k => h0 (Or.inr ⟨h1, k⟩))]
  · rw [if_neg h1]
theorem own_none {f e x y p q : Int32} (hf : ¬ f < e) : own_fb f e x y p q = (0 : Int32) := if_neg hf
theorem own_m8 (p : Int32) : (p &&& (7 : Int32)) = 0 ∨ (p &&& (7 : Int32)) = 1 ∨ (p &&& (7 : Int32)) = 2 ∨ (p &&& (7 : Int32)) = 3 ∨ (p &&& (7 : Int32)) = 4 ∨ (p &&& (7 : Int32)) = 5 ∨ (p &&& (7 : Int32)) = 6 ∨ (p &&& (7 : Int32)) = 7 := by
  have h := c_mask p (7 : Int32) 3 (by decide) (by decide)
  generalize (p &&& (7 : Int32)) = m at *
  simp only [← Int32.toInt_inj]
  rw [show (0 : Int32).toInt = 0 by decide, show (1 : Int32).toInt = 1 by decide, show (2 : Int32).toInt = 2 by decide, show (3 : Int32).toInt = 3 by decide, show (4 : Int32).toInt = 4 by decide, show (5 : Int32).toInt = 5 by decide, show (6 : Int32).toInt = 6 by decide, show (7 : Int32).toInt = 7 by decide]
  omega
theorem d1_0 : decode prog_54_method_1_code 0 = .ok (.aload_n 0, 1) := by decide +kernel
theorem d1_1 : decode prog_54_method_1_code 1 = .ok (.invokespecial 3, 3) := by decide +kernel
theorem d1_4 : decode prog_54_method_1_code 4 = .ok (.aload_n 0, 1) := by decide +kernel
theorem d1_5 : decode prog_54_method_1_code 5 = .ok (.sipush 1024, 3) := by decide +kernel
theorem d1_8 : decode prog_54_method_1_code 8 = .ok (.newarray .int, 2) := by decide +kernel
theorem d1_10 : decode prog_54_method_1_code 10 = .ok (.putfield 9, 3) := by decide +kernel
theorem d1_13 : decode prog_54_method_1_code 13 = .ok (.aload_n 0, 1) := by decide +kernel
theorem d1_14 : decode prog_54_method_1_code 14 = .ok (.sipush 1024, 3) := by decide +kernel
theorem d1_17 : decode prog_54_method_1_code 17 = .ok (.newarray .int, 2) := by decide +kernel
theorem d1_19 : decode prog_54_method_1_code 19 = .ok (.putfield 13, 3) := by decide +kernel
theorem d1_22 : decode prog_54_method_1_code 22 = .ok (.aload_n 0, 1) := by decide +kernel
theorem d1_23 : decode prog_54_method_1_code 23 = .ok (.sipush 1024, 3) := by decide +kernel
theorem d1_26 : decode prog_54_method_1_code 26 = .ok (.anewarray 16, 3) := by decide +kernel
theorem d1_29 : decode prog_54_method_1_code 29 = .ok (.putfield 18, 3) := by decide +kernel
theorem d1_32 : decode prog_54_method_1_code 32 = .ok (.return_, 1) := by decide +kernel
theorem pn_1 : plainName "overmark/NotedPlaces" = true := by first | (simp [plainName, overriddenIn]; done) | decide +kernel
theorem ef_1 (m : MethodId) (x0 : Addr) : entryFrame m #[(.ref x0)] 1 = mkF m 0 #[.val (.ref x0)] [] := by first | (simp [entryFrame, mkF, argsToLocals, Value.category]; done) | rfl
def Q1 (Z : State) (a1 : Addr) (u_lines_a1 : Value) (u_columns_a1 : Value) (u_labels_a1 : Value) (h0 : Heap) (n0 : Nat) (v : Option Value) (h : Heap) (L : List Loc) : Prop := v = none ∧ Fr n0 L ∧ h0.size ≤ h.size ∧ NP Z h n0 a1 0 0 [(.int (0 : Int32)), (.int (0 : Int32)), (.int (0 : Int32))] [(.int (0 : Int32)), (.int (0 : Int32)), (.int (0 : Int32))] [.null, .null, .null]
set_option maxRecDepth 65536 in
set_option maxHeartbeats 40000000 in
theorem rm1 (l : Launch) (Z : State) (a0 : Array Value) (hw : ∀ d ∈ tables_1, d.before a0 Z = true) (ws : List Jvm.Cond) (a1 : Addr) (u_lines_a1 : Value) (u_columns_a1 : Value) (u_labels_a1 : Value) (h0 : Heap) (n0 : Nat) (Z0 : n0 ≤ h0.size) (E_a1 : Exa Z h0 a1 "overmark/NotedPlaces") (F_lines_a1 : Fld Z h0 a1 "overmark/NotedPlaces" "lines" "[I" u_lines_a1) (g_a1 : n0 ≤ a1) (F_columns_a1 : Fld Z h0 a1 "overmark/NotedPlaces" "columns" "[I" u_columns_a1) (F_labels_a1 : Fld Z h0 a1 "overmark/NotedPlaces" "labels" "[Ljava/lang/String;" u_labels_a1) (F_first_a1 : Fld Z h0 a1 "overmark/NotedPlaces" "first" "I" (.int (0 : Int32))) (F_end_a1 : Fld Z h0 a1 "overmark/NotedPlaces" "end" "I" (.int (0 : Int32))) :
    MetFree l (⟨"overmark/NotedPlaces", "<init>", "()V"⟩ : MethodName) (head1 (Jvm.Cond.code (⟨"overmark/NotedPlaces", "<init>", "()V"⟩ : MethodName) prog_54_method_1_code 1 none :: ws) ({ frames := 1, cells := 3, slots := 3072, locals := 12 } : Room)) (fun a U => a = #[(.ref a1)] ∧ Z.Warmed39 U.vm ∧ U.heap = h0) (fun _ _ _ _ _ => True) (fun _ U o U' => ∃ v L, o = .returned v ∧ Q1 Z a1 u_lines_a1 u_columns_a1 u_labels_a1 h0 n0 v U'.heap L ∧ FrameEnd U o U' L ({ frames := 1, cells := 3, slots := 3072, locals := 12 } : Room).cells ({ frames := 1, cells := 3, slots := 3072, locals := 12 } : Room).slots) := by
  refine MetFree.of_bodySF (plainFor_of_name pn_1) hisR ?_
  intro p e s m args below meth c s₁ Bd hml0 hP hK
  obtain ⟨rfl, hZ, hh⟩ := hP
  have hx := Bd.exec
  have hby := Bd.bytes
  have hml : c.maxLocals = 1 := hml0
  have hown : s.vm.findClass "overmark/NotedPlaces" = some m.cls := findClass_of_methodNamed Bd.named
  have hnm := (name_of_methodNamed Bd.named Bd.method).1
  have X0 : Stand p l e ({ frames := 1, cells := 3, slots := 3072, locals := 12 } : Room) s m #[(.ref a1)] below meth c s₁ [] 0 0 := Stand.of_body Bd
  have e0 : s₁.heap = h0 := by rw [← hh, Bd.state]; rfl
  have N0 := Fr.nil n0
  have pre0 : ∀ t, Steps p.tables e below (s₁.setTop (mkF m 0 #[.val (.ref a1)] [])) t → Steps p.tables e below (s₁.setTop (entryFrame m #[(.ref a1)] 1)) t := fun t k => castTop (ef_1 m a1) k
  obtain ⟨T2, X2, e2, st2⟩ := initO X0 hx hZ hown (hw _ (List.mem_of_getElem? (i := 6) rfl)) (hw _ (List.mem_of_getElem? (i := 7) rfl)) (hw _ (List.mem_of_getElem? (i := 8) rfl)) e0 (g := (mkF m 1 #[.val (.ref a1)] [(.ref a1)])) rfl (by rw [hml]; rfl) rfl (hb hby d1_1) (by decide) (W := 0) (by show 2 * 0 + _ ≤ _; exact Nat.le_of_eq rfl) (by decide)
  obtain ⟨T3, h3, k3, X3, e3, E3, A3, st3⟩ := newP X2 hx hZ (hw _ (List.mem_of_getElem? (i := 9) rfl)) e2 (g := (mkF m 8 #[.val (.ref a1)] [(.int (1024 : Int32)), (.ref a1)])) rfl (hb hby d1_8) rfl (by decide) (cap := 1024) (by decide) (by decide) (by decide) (by decide)
  obtain ⟨b3, g3⟩ : ∃ z, z = h0.size := ⟨_, rfl⟩
  rw [← g3] at A3 st3
  have V_b3 : Arv Z h3 b3 k3 .int (1024 : Int32) [(.int (0 : Int32)), (.int (0 : Int32)), (.int (0 : Int32))] (.int (0 : Int32)) := (Arv.new A3 (by decide)).pad (pad_rep [] (.int (0 : Int32)) 3)
  have g_b3 : n0 ≤ b3 := Nat.le_trans Z0 (Nat.le_of_eq g3.symm)
  have sz_b3 : h0.size ≤ b3 := (Nat.le_trans (Keep.refl h0 [a1]).1 (Nat.le_of_eq g3.symm))
  have K3 : Keep h0 h3 [a1] := (Keep.refl h0 [a1]).ext E3
  obtain ⟨T4, h4, X4, e4, W4, st4⟩ := putF X3 hx hZ hown (host := "") (Or.inl (hw _ (List.mem_of_getElem? (i := 10) rfl))) Via.refl e3 (F_lines_a1.ext E3) (E_a1.ext E3) (Or.inl (hw _ (List.mem_of_getElem? (i := 11) rfl))) (hw _ (List.mem_of_getElem? (i := 1) rfl)) (ty := (.array .int)) (by decide) rfl rfl (g := (mkF m 10 #[.val (.ref a1)] [(.ref b3), (.ref a1)])) rfl rfl (hb hby d1_10)
  have Fw4 := (F_lines_a1.ext E3).same W4
  have K4 : Keep h0 h4 [a1] := K3.wr W4 (Or.inl (List.mem_of_getElem? (i := 0) rfl))
  have N4 := Fr.snoc X4 N0 g_a1
  obtain ⟨T5, h5, k5, X5, e5, E5, A5, st5⟩ := newP X4 hx hZ (hw _ (List.mem_of_getElem? (i := 9) rfl)) e4 (g := (mkF m 17 #[.val (.ref a1)] [(.int (1024 : Int32)), (.ref a1)])) rfl (hb hby d1_17) rfl (by decide) (cap := 1024) (by decide) (by decide) (by decide) (by decide)
  obtain ⟨b5, g5⟩ : ∃ z, z = h4.size := ⟨_, rfl⟩
  rw [← g5] at A5 st5
  have V_b5 : Arv Z h5 b5 k5 .int (1024 : Int32) [(.int (0 : Int32)), (.int (0 : Int32)), (.int (0 : Int32))] (.int (0 : Int32)) := (Arv.new A5 (by decide)).pad (pad_rep [] (.int (0 : Int32)) 3)
  have g_b5 : n0 ≤ b5 := Nat.le_trans (Nat.le_trans (Nat.le_trans Z0 E3.1) (Keep.of_wr W4).1) (Nat.le_of_eq g5.symm)
  have sz_b5 : h0.size ≤ b5 := (Nat.le_trans K4.1 (Nat.le_of_eq g5.symm))
  have K5 : Keep h0 h5 [a1] := K4.ext E5
  obtain ⟨T6, h6, X6, e6, W6, st6⟩ := putF X5 hx hZ hown (host := "") (Or.inl (hw _ (List.mem_of_getElem? (i := 12) rfl))) Via.refl e5 (((F_columns_a1.ext E3).other W4 (Or.inr (slot_ne (Or.inl (hw _ (List.mem_of_getElem? (i := 13) rfl))) (Or.inl (hw _ (List.mem_of_getElem? (i := 11) rfl))) (by decide) (t := (.array .int)) (t' := (.array .int)) (by decide) (by decide)))).ext E5) (((E_a1.ext E3).wr W4).ext E5) (Or.inl (hw _ (List.mem_of_getElem? (i := 13) rfl))) (hw _ (List.mem_of_getElem? (i := 1) rfl)) (ty := (.array .int)) (by decide) rfl rfl (g := (mkF m 19 #[.val (.ref a1)] [(.ref b5), (.ref a1)])) rfl rfl (hb hby d1_19)
  have Fw6 := (((F_columns_a1.ext E3).other W4 (Or.inr (slot_ne (Or.inl (hw _ (List.mem_of_getElem? (i := 13) rfl))) (Or.inl (hw _ (List.mem_of_getElem? (i := 11) rfl))) (by decide) (t := (.array .int)) (t' := (.array .int)) (by decide) (by decide)))).ext E5).same W6
  have K6 : Keep h0 h6 [a1] := K5.wr W6 (Or.inl (List.mem_of_getElem? (i := 0) rfl))
  have N6 := Fr.snoc X6 N4 g_a1
  obtain ⟨T7, h7, k7, X7, e7, E7, A7, O7, st7⟩ := newR X6 hx hZ hown (hw _ (List.mem_of_getElem? (i := 14) rfl)) (hw _ (List.mem_of_getElem? (i := 15) rfl)) e6 (g := (mkF m 26 #[.val (.ref a1)] [(.int (1024 : Int32)), (.ref a1)])) rfl (hb hby d1_26) rfl (by decide) (cap := 1024) (by decide) (by decide) (by decide) (by decide)
  obtain ⟨b7, g7⟩ : ∃ z, z = h6.size := ⟨_, rfl⟩
  rw [← g7] at A7 st7
  have V_b7 : Arv Z h7 b7 k7 (.object "java/lang/String") (1024 : Int32) [.null, .null, .null] .null := (Arv.new A7 (by decide)).pad (pad_rep [] .null 3)
  have g_b7 : n0 ≤ b7 := Nat.le_trans (Nat.le_trans (Nat.le_trans (Nat.le_trans (Nat.le_trans Z0 E3.1) (Keep.of_wr W4).1) E5.1) (Keep.of_wr W6).1) (Nat.le_of_eq g7.symm)
  have sz_b7 : h0.size ≤ b7 := (Nat.le_trans K6.1 (Nat.le_of_eq g7.symm))
  have K7 : Keep h0 h7 [a1] := K6.ext E7
  obtain ⟨T8, h8, X8, e8, W8, st8⟩ := putF X7 hx hZ hown (host := "") (Or.inl (hw _ (List.mem_of_getElem? (i := 16) rfl))) Via.refl e7 (((((F_labels_a1.ext E3).other W4 (Or.inr (slot_ne (Or.inl (hw _ (List.mem_of_getElem? (i := 17) rfl))) (Or.inl (hw _ (List.mem_of_getElem? (i := 11) rfl))) (by decide) (t := (.array (.object "java/lang/String"))) (t' := (.array .int)) (by decide) (by decide)))).ext E5).other W6 (Or.inr (slot_ne (Or.inl (hw _ (List.mem_of_getElem? (i := 17) rfl))) (Or.inl (hw _ (List.mem_of_getElem? (i := 13) rfl))) (by decide) (t := (.array (.object "java/lang/String"))) (t' := (.array .int)) (by decide) (by decide)))).ext E7) (((((E_a1.ext E3).wr W4).ext E5).wr W6).ext E7) (Or.inl (hw _ (List.mem_of_getElem? (i := 17) rfl))) (hw _ (List.mem_of_getElem? (i := 1) rfl)) (ty := (.array (.object "java/lang/String"))) (by decide) rfl rfl (g := (mkF m 29 #[.val (.ref a1)] [(.ref b7), (.ref a1)])) rfl rfl (hb hby d1_29)
  have Fw8 := (((((F_labels_a1.ext E3).other W4 (Or.inr (slot_ne (Or.inl (hw _ (List.mem_of_getElem? (i := 17) rfl))) (Or.inl (hw _ (List.mem_of_getElem? (i := 11) rfl))) (by decide) (t := (.array (.object "java/lang/String"))) (t' := (.array .int)) (by decide) (by decide)))).ext E5).other W6 (Or.inr (slot_ne (Or.inl (hw _ (List.mem_of_getElem? (i := 17) rfl))) (Or.inl (hw _ (List.mem_of_getElem? (i := 13) rfl))) (by decide) (t := (.array (.object "java/lang/String"))) (t' := (.array .int)) (by decide) (by decide)))).ext E7).same W8
  have K8 : Keep h0 h8 [a1] := K7.wr W8 (Or.inl (List.mem_of_getElem? (i := 0) rfl))
  have N8 := Fr.snoc X8 N6 g_a1
  have o3 : a1 < b3 := by rw [g3]; exact E_a1.lt
  have o5 : b3 < b5 := by rw [g5]; exact (V_b3.other W4 (Nat.ne_of_gt o3)).lt
  have o7 : b5 < b7 := by rw [g7]; exact (V_b5.other W6 (Nat.ne_of_gt (Nat.lt_trans o3 o5))).lt
  have n3 : b3 ≠ a1 := Nat.ne_of_gt o3
  have n5 : b5 ≠ a1 := Nat.ne_of_gt (Nat.lt_trans o3 o5)
  have n7 : b7 ≠ a1 := Nat.ne_of_gt (Nat.lt_trans (Nat.lt_trans o3 o5) o7)
  have Y3 := ((((V_b3.other W4 n3).ext E5).other W6 n3).ext E7).other W8 n3
  have Y5 := ((V_b5.other W6 n5).ext E7).other W8 n5
  have Y7 := V_b7.other W8 n7
  have G_lines := ((((Fw4.ext E5).other W6 (Or.inr (slot_ne (Or.inl (hw _ (List.mem_of_getElem? (i := 11) rfl))) (Or.inl (hw _ (List.mem_of_getElem? (i := 13) rfl))) (by decide) (t := (.array .int)) (t' := (.array .int)) (by decide) (by decide)))).ext E7).other W8 (Or.inr (slot_ne (Or.inl (hw _ (List.mem_of_getElem? (i := 11) rfl))) (Or.inl (hw _ (List.mem_of_getElem? (i := 17) rfl))) (by decide) (t := (.array .int)) (t' := (.array (.object "java/lang/String"))) (by decide) (by decide))))
  have G_columns := ((Fw6.ext E7).other W8 (Or.inr (slot_ne (Or.inl (hw _ (List.mem_of_getElem? (i := 13) rfl))) (Or.inl (hw _ (List.mem_of_getElem? (i := 17) rfl))) (by decide) (t := (.array .int)) (t' := (.array (.object "java/lang/String"))) (by decide) (by decide))))
  have G_labels := Fw8
  have G_first := ((((((F_first_a1.ext E3).other W4 (Or.inr (slot_ne (Or.inl (hw _ (List.mem_of_getElem? (i := 24) rfl))) (Or.inl (hw _ (List.mem_of_getElem? (i := 11) rfl))) (by decide) (t := .int) (t' := (.array .int)) (by decide) (by decide)))).ext E5).other W6 (Or.inr (slot_ne (Or.inl (hw _ (List.mem_of_getElem? (i := 24) rfl))) (Or.inl (hw _ (List.mem_of_getElem? (i := 13) rfl))) (by decide) (t := .int) (t' := (.array .int)) (by decide) (by decide)))).ext E7).other W8 (Or.inr (slot_ne (Or.inl (hw _ (List.mem_of_getElem? (i := 24) rfl))) (Or.inl (hw _ (List.mem_of_getElem? (i := 17) rfl))) (by decide) (t := .int) (t' := (.array (.object "java/lang/String"))) (by decide) (by decide))))
  have G_end := ((((((F_end_a1.ext E3).other W4 (Or.inr (slot_ne (Or.inl (hw _ (List.mem_of_getElem? (i := 26) rfl))) (Or.inl (hw _ (List.mem_of_getElem? (i := 11) rfl))) (by decide) (t := .int) (t' := (.array .int)) (by decide) (by decide)))).ext E5).other W6 (Or.inr (slot_ne (Or.inl (hw _ (List.mem_of_getElem? (i := 26) rfl))) (Or.inl (hw _ (List.mem_of_getElem? (i := 13) rfl))) (by decide) (t := .int) (t' := (.array .int)) (by decide) (by decide)))).ext E7).other W8 (Or.inr (slot_ne (Or.inl (hw _ (List.mem_of_getElem? (i := 26) rfl))) (Or.inl (hw _ (List.mem_of_getElem? (i := 17) rfl))) (by decide) (t := .int) (t' := (.array (.object "java/lang/String"))) (by decide) (by decide))))
  have G_E := (((((E_a1.ext E3).wr W4).ext E5).wr W6).ext E7).wr W8
  obtain ⟨fs, hr, hrun, hended, hW, hsame⟩ := X8.leave (v := none) (fun _ => rfl)
  refine ⟨_, _, pre0 _ ?_, hrun, hended, _, _, rfl, ?_, ⟨_, rfl⟩, hW, hsame.mono (by decide) (by decide)⟩
  · show Steps p.tables e below (s₁.setTop (mkF m 0 #[.val (.ref a1)] [])) _
    refine XS.aloadN X0.here hx rfl (hb hby d1_0) rfl rfl ?_
    show Steps p.tables e below (s₁.setTop (mkF m 1 #[.val (.ref a1)] [(.ref a1)])) _
    refine st2 _ ?_
    show Steps p.tables e below (T2.setTop (mkF m 4 #[.val (.ref a1)] [])) _
    refine XS.aloadN X2.here hx rfl (hb hby d1_4) rfl rfl ?_
    show Steps p.tables e below (T2.setTop (mkF m 5 #[.val (.ref a1)] [(.ref a1)])) _
    refine XS.sipush X2.here hx rfl (hb hby d1_5) ?_
    show Steps p.tables e below (T2.setTop (mkF m 8 #[.val (.ref a1)] [(.int (1024 : Int32)), (.ref a1)])) _
    refine st3 _ ?_
    show Steps p.tables e below (T3.setTop (mkF m 10 #[.val (.ref a1)] [(.ref b3), (.ref a1)])) _
    refine st4 _ ?_
    show Steps p.tables e below (T4.setTop (mkF m 13 #[.val (.ref a1)] [])) _
    refine XS.aloadN X4.here hx rfl (hb hby d1_13) rfl rfl ?_
    show Steps p.tables e below (T4.setTop (mkF m 14 #[.val (.ref a1)] [(.ref a1)])) _
    refine XS.sipush X4.here hx rfl (hb hby d1_14) ?_
    show Steps p.tables e below (T4.setTop (mkF m 17 #[.val (.ref a1)] [(.int (1024 : Int32)), (.ref a1)])) _
    refine st5 _ ?_
    show Steps p.tables e below (T5.setTop (mkF m 19 #[.val (.ref a1)] [(.ref b5), (.ref a1)])) _
    refine st6 _ ?_
    show Steps p.tables e below (T6.setTop (mkF m 22 #[.val (.ref a1)] [])) _
    refine XS.aloadN X6.here hx rfl (hb hby d1_22) rfl rfl ?_
    show Steps p.tables e below (T6.setTop (mkF m 23 #[.val (.ref a1)] [(.ref a1)])) _
    refine XS.sipush X6.here hx rfl (hb hby d1_23) ?_
    show Steps p.tables e below (T6.setTop (mkF m 26 #[.val (.ref a1)] [(.int (1024 : Int32)), (.ref a1)])) _
    refine st7 _ ?_
    show Steps p.tables e below (T7.setTop (mkF m 29 #[.val (.ref a1)] [(.ref b7), (.ref a1)])) _
    refine st8 _ ?_
    show Steps p.tables e below (T8.setTop (mkF m 32 #[.val (.ref a1)] [])) _
    exact X8.returnOut hx Bd.returns (hb hby d1_32) hr
  · show Q1 Z a1 u_lines_a1 u_columns_a1 u_labels_a1 h0 n0 _ T8.heap _
    rw [e8]
    exact ⟨rfl, N8, K8.1, b3, b5, b7, k3, k5, k7, G_E, G_lines, G_columns, G_labels, G_first, G_end, Y3, Y5, Y7, g_a1, g_b3, g_b5, g_b7, n3.symm, n5.symm, n7.symm, Nat.ne_of_lt o5, Nat.ne_of_lt (Nat.lt_trans o5 o7), Nat.ne_of_lt o7⟩
theorem d4_0 : decode prog_54_method_10_code 0 = .ok (.aload_n 0, 1) := by decide +kernel
theorem d4_1 : decode prog_54_method_10_code 1 = .ok (.getfield 22, 3) := by decide +kernel
theorem d4_4 : decode prog_54_method_10_code 4 = .ok (.aload_n 0, 1) := by decide +kernel
theorem d4_5 : decode prog_54_method_10_code 5 = .ok (.getfield 9, 3) := by decide +kernel
theorem d4_8 : decode prog_54_method_10_code 8 = .ok (.arraylength, 1) := by decide +kernel
theorem d4_9 : decode prog_54_method_10_code 9 = .ok (.if_icmp .ne 99, 3) := by decide +kernel
theorem d4_108 : decode prog_54_method_10_code 108 = .ok (.aload_n 0, 1) := by decide +kernel
theorem d4_109 : decode prog_54_method_10_code 109 = .ok (.getfield 9, 3) := by decide +kernel
theorem d4_112 : decode prog_54_method_10_code 112 = .ok (.aload_n 0, 1) := by decide +kernel
theorem d4_113 : decode prog_54_method_10_code 113 = .ok (.getfield 22, 3) := by decide +kernel
theorem d4_116 : decode prog_54_method_10_code 116 = .ok (.iload_n 1, 1) := by decide +kernel
theorem d4_117 : decode prog_54_method_10_code 117 = .ok (.iastore, 1) := by decide +kernel
theorem d4_118 : decode prog_54_method_10_code 118 = .ok (.aload_n 0, 1) := by decide +kernel
theorem d4_119 : decode prog_54_method_10_code 119 = .ok (.getfield 13, 3) := by decide +kernel
theorem d4_122 : decode prog_54_method_10_code 122 = .ok (.aload_n 0, 1) := by decide +kernel
theorem d4_123 : decode prog_54_method_10_code 123 = .ok (.getfield 22, 3) := by decide +kernel
theorem d4_126 : decode prog_54_method_10_code 126 = .ok (.iload_n 2, 1) := by decide +kernel
theorem d4_127 : decode prog_54_method_10_code 127 = .ok (.iastore, 1) := by decide +kernel
theorem d4_128 : decode prog_54_method_10_code 128 = .ok (.aload_n 0, 1) := by decide +kernel
theorem d4_129 : decode prog_54_method_10_code 129 = .ok (.getfield 18, 3) := by decide +kernel
theorem d4_132 : decode prog_54_method_10_code 132 = .ok (.aload_n 0, 1) := by decide +kernel
theorem d4_133 : decode prog_54_method_10_code 133 = .ok (.getfield 22, 3) := by decide +kernel
theorem d4_136 : decode prog_54_method_10_code 136 = .ok (.aconst_null, 1) := by decide +kernel
theorem d4_137 : decode prog_54_method_10_code 137 = .ok (.aastore, 1) := by decide +kernel
theorem d4_138 : decode prog_54_method_10_code 138 = .ok (.aload_n 0, 1) := by decide +kernel
theorem d4_139 : decode prog_54_method_10_code 139 = .ok (.dup, 1) := by decide +kernel
theorem d4_140 : decode prog_54_method_10_code 140 = .ok (.getfield 22, 3) := by decide +kernel
theorem d4_143 : decode prog_54_method_10_code 143 = .ok (.iconst 1, 1) := by decide +kernel
theorem d4_144 : decode prog_54_method_10_code 144 = .ok (.iadd, 1) := by decide +kernel
theorem d4_145 : decode prog_54_method_10_code 145 = .ok (.putfield 22, 3) := by decide +kernel
theorem d4_148 : decode prog_54_method_10_code 148 = .ok (.return_, 1) := by decide +kernel
theorem pn_4 : plainName "overmark/NotedPlaces" = true := by first | (simp [plainName, overriddenIn]; done) | decide +kernel
theorem ef_4 (m : MethodId) (x0 : Addr) (x1 : Int32) (x2 : Int32) : entryFrame m #[(.ref x0), (.int x1), (.int x2)] 5 = mkF m 0 #[.val (.ref x0), .val (.int x1), .val (.int x2), .unset, .unset] [] := by first | (simp [entryFrame, mkF, argsToLocals, Value.category]; done) | rfl
def Q4 (Z : State) (a1 : Addr) (f e' : Int32) (VL VC VB : List Value) (h0 : Heap) (n0 : Nat) (v : Option Value) (h : Heap) (L : List Loc) : Prop := v = none ∧ Fr n0 L ∧ h0.size ≤ h.size ∧ NP Z h n0 a1 f e' VL VC VB
set_option maxRecDepth 65536 in
set_option maxHeartbeats 40000000 in
theorem rm4 (l : Launch) (Z : State) (a0 : Array Value) (hw : ∀ d ∈ tables_1, d.before a0 Z = true) (ws : List Jvm.Cond) (a1 : Addr) (p2 p3 f ee e' : Int32) (i : Nat) (VL VC VB : List Value) (h0 : Heap) (n0 : Nat) (Z0 : n0 ≤ h0.size) (H : NP Z h0 n0 a1 f ee VL VC VB) (hi : ee.toNatClampNeg = i) (he0 : ¬ ee < 0) (he1 : ee < (1024 : Int32)) (he : ee + (1 : Int32) = e') (hVL : i < VL.length) (hVC : i < VC.length) (hVB : i < VB.length) :
    MetFree l (⟨"overmark/NotedPlaces", "note", "(II)V"⟩ : MethodName) (head1 (Jvm.Cond.code (⟨"overmark/NotedPlaces", "note", "(II)V"⟩ : MethodName) prog_54_method_10_code 5 none :: ws) ({ frames := 0, cells := 0, slots := 0, locals := 0 } : Room)) (fun a U => a = #[(.ref a1), (.int p2), (.int p3)] ∧ Z.Warmed39 U.vm ∧ U.heap = h0) (fun _ _ _ _ _ => True) (fun _ U o U' => ∃ v L, o = .returned v ∧ Q4 Z a1 f e' (VL.set i (.int p2)) (VC.set i (.int p3)) (VB.set i .null) h0 n0 v U'.heap L ∧ FrameEnd U o U' L ({ frames := 0, cells := 0, slots := 0, locals := 0 } : Room).cells ({ frames := 0, cells := 0, slots := 0, locals := 0 } : Room).slots) := by
  refine MetFree.of_bodySF (plainFor_of_name pn_4) hisR ?_
  intro p e s m args below meth c s₁ Bd hml0 hP hK
  obtain ⟨rfl, hZ, hh⟩ := hP
  have hx := Bd.exec
  have hby := Bd.bytes
  have hml : c.maxLocals = 5 := hml0
  have hown : s.vm.findClass "overmark/NotedPlaces" = some m.cls := findClass_of_methodNamed Bd.named
  have hnm := (name_of_methodNamed Bd.named Bd.method).1
  have X0 : Stand p l e ({ frames := 0, cells := 0, slots := 0, locals := 0 } : Room) s m #[(.ref a1), (.int p2), (.int p3)] below meth c s₁ [] 0 0 := Stand.of_body Bd
  have e0 : s₁.heap = h0 := by rw [← hh, Bd.state]; rfl
  have N0 := Fr.nil n0
  obtain ⟨w6, w11, w15, kl, kc, kb, E_a1, F_lines_a1, F_columns_a1, F_labels_a1, F_first_a1, F_end_a1, V6, V11, V15, g_a1, g_w6, g_w11, g_w15, ne1, ne2, ne3, ne4, ne5, ne6⟩ := H
  obtain ⟨cl_w6, Ar_w6, q6, S_w6, N_w6, H6, G6⟩ := V6
  obtain ⟨cl_w11, Ar_w11, q11, S_w11, N_w11, H11, G11⟩ := V11
  obtain ⟨cl_w15, Ar_w15, q15, S_w15, N_w15, H15, G15⟩ := V15
  have hin117 : ¬ (ee < 0 ∨ cl_w6.slots.size ≤ (ee).toNatClampNeg) := inb_of S_w6 ⟨he0, he1⟩
  have hin127 : ¬ (ee < 0 ∨ cl_w11.slots.size ≤ (ee).toNatClampNeg) := inb_of S_w11 ⟨he0, he1⟩
  have hin137 : ¬ (ee < 0 ∨ cl_w15.slots.size ≤ (ee).toNatClampNeg) := inb_of S_w15 ⟨he0, he1⟩
  have hc9 : ¬ (ee = (1024 : Int32)) := fun k => by rw [k] at he1; exact absurd he1 (by decide)
  have pre0 : ∀ t, Steps p.tables e below (s₁.setTop (mkF m 0 #[.val (.ref a1), .val (.int p2), .val (.int p3), .unset, .unset] [])) t → Steps p.tables e below (s₁.setTop (entryFrame m #[(.ref a1), (.int p2), (.int p3)] 5)) t := fun t k => castTop (ef_4 m a1 p2 p3) k
  obtain ⟨T5, X5, e5, st5⟩ := getF X0 hx hZ hown (host := "") (Or.inl (hw _ (List.mem_of_getElem? (i := 25) rfl))) Via.refl e0 F_end_a1 (g := (mkF m 1 #[.val (.ref a1), .val (.int p2), .val (.int p3), .unset, .unset] [(.ref a1)])) rfl rfl (hb hby d4_1)
  obtain ⟨T7, X7, e7, st7⟩ := getF X5 hx hZ hown (host := "") (Or.inl (hw _ (List.mem_of_getElem? (i := 10) rfl))) Via.refl e5 F_lines_a1 (g := (mkF m 5 #[.val (.ref a1), .val (.int p2), .val (.int p3), .unset, .unset] [(.ref a1), (.int ee)])) rfl rfl (hb hby d4_5)
  obtain ⟨T8, X8, e8, st8⟩ := getF X7 hx hZ hown (host := "") (Or.inl (hw _ (List.mem_of_getElem? (i := 10) rfl))) Via.refl e7 F_lines_a1 (g := (mkF m 109 #[.val (.ref a1), .val (.int p2), .val (.int p3), .unset, .unset] [(.ref a1)])) rfl rfl (hb hby d4_109)
  obtain ⟨T9, X9, e9, st9⟩ := getF X8 hx hZ hown (host := "") (Or.inl (hw _ (List.mem_of_getElem? (i := 25) rfl))) Via.refl e8 F_end_a1 (g := (mkF m 113 #[.val (.ref a1), .val (.int p2), .val (.int p3), .unset, .unset] [(.ref a1), (.ref w6)])) rfl rfl (hb hby d4_113)
  obtain ⟨T10, h10, X10, e10, W10, st10⟩ := stI X9 hx hZ e9 Ar_w6 (j := ee) hin117 (g := (mkF m 117 #[.val (.ref a1), .val (.int p2), .val (.int p3), .unset, .unset] [(.int p2), (.int ee), (.ref w6)])) rfl rfl (hb hby d4_117)
  have N10 := Fr.snoc X10 N0 g_w6
  have K10 : Keep h0 h10 [w6, w11, w15, a1] := (Keep.refl h0 [w6, w11, w15, a1]).wr W10 (Or.inl (List.mem_of_getElem? (i := 0) rfl))
  obtain ⟨T12, X12, e12, st12⟩ := getF X10 hx hZ hown (host := "") (Or.inl (hw _ (List.mem_of_getElem? (i := 12) rfl))) Via.refl e10 (F_columns_a1.other W10 (Or.inl ne1)) (g := (mkF m 119 #[.val (.ref a1), .val (.int p2), .val (.int p3), .unset, .unset] [(.ref a1)])) rfl rfl (hb hby d4_119)
  obtain ⟨T13, X13, e13, st13⟩ := getF X12 hx hZ hown (host := "") (Or.inl (hw _ (List.mem_of_getElem? (i := 25) rfl))) Via.refl e12 (F_end_a1.other W10 (Or.inl ne1)) (g := (mkF m 123 #[.val (.ref a1), .val (.int p2), .val (.int p3), .unset, .unset] [(.ref a1), (.ref w11)])) rfl rfl (hb hby d4_123)
  obtain ⟨T14, h14, X14, e14, W14, st14⟩ := stI X13 hx hZ e13 (Ar_w11.other W10 ne4.symm) (j := ee) hin127 (g := (mkF m 127 #[.val (.ref a1), .val (.int p2), .val (.int p3), .unset, .unset] [(.int p3), (.int ee), (.ref w11)])) rfl rfl (hb hby d4_127)
  have N14 := Fr.snoc X14 N10 g_w11
  have K14 : Keep h0 h14 [w6, w11, w15, a1] := K10.wr W14 (Or.inl (List.mem_of_getElem? (i := 1) rfl))
  obtain ⟨T16, X16, e16, st16⟩ := getF X14 hx hZ hown (host := "") (Or.inl (hw _ (List.mem_of_getElem? (i := 16) rfl))) Via.refl e14 ((F_labels_a1.other W10 (Or.inl ne1)).other W14 (Or.inl ne2)) (g := (mkF m 129 #[.val (.ref a1), .val (.int p2), .val (.int p3), .unset, .unset] [(.ref a1)])) rfl rfl (hb hby d4_129)
  obtain ⟨T17, X17, e17, st17⟩ := getF X16 hx hZ hown (host := "") (Or.inl (hw _ (List.mem_of_getElem? (i := 25) rfl))) Via.refl e16 ((F_end_a1.other W10 (Or.inl ne1)).other W14 (Or.inl ne2)) (g := (mkF m 133 #[.val (.ref a1), .val (.int p2), .val (.int p3), .unset, .unset] [(.ref a1), (.ref w15)])) rfl rfl (hb hby d4_133)
  obtain ⟨T18, h18, X18, e18, W18, st18⟩ := stR X17 hx hZ e17 ((Ar_w15.other W10 ne5.symm).other W14 ne6.symm) (j := ee) hin137 rfl (Or.inl rfl) (g := (mkF m 137 #[.val (.ref a1), .val (.int p2), .val (.int p3), .unset, .unset] [.null, (.int ee), (.ref w15)])) rfl rfl (hb hby d4_137)
  have N18 := Fr.snoc X18 N14 g_w15
  have K18 : Keep h0 h18 [w6, w11, w15, a1] := K14.wr W18 (Or.inl (List.mem_of_getElem? (i := 2) rfl))
  obtain ⟨T19, X19, e19, st19⟩ := getF X18 hx hZ hown (host := "") (Or.inl (hw _ (List.mem_of_getElem? (i := 25) rfl))) Via.refl e18 (((F_end_a1.other W10 (Or.inl ne1)).other W14 (Or.inl ne2)).other W18 (Or.inl ne3)) (g := (mkF m 140 #[.val (.ref a1), .val (.int p2), .val (.int p3), .unset, .unset] [(.ref a1), (.ref a1)])) rfl rfl (hb hby d4_140)
  obtain ⟨T20, h20, X20, e20, W20, st20⟩ := putF X19 hx hZ hown (host := "") (Or.inl (hw _ (List.mem_of_getElem? (i := 25) rfl))) Via.refl e19 (((F_end_a1.other W10 (Or.inl ne1)).other W14 (Or.inl ne2)).other W18 (Or.inl ne3)) (((E_a1.wr W10).wr W14).wr W18) (Or.inl (hw _ (List.mem_of_getElem? (i := 26) rfl))) (hw _ (List.mem_of_getElem? (i := 1) rfl)) (ty := .int) (by decide) rfl rfl (g := (mkF m 145 #[.val (.ref a1), .val (.int p2), .val (.int p3), .unset, .unset] [(.int (ee + (1 : Int32))), (.ref a1)])) rfl rfl (hb hby d4_145)
  have Fw20 := (((F_end_a1.other W10 (Or.inl ne1)).other W14 (Or.inl ne2)).other W18 (Or.inl ne3)).same W20
  have K20 : Keep h0 h20 [w6, w11, w15, a1] := K18.wr W20 (Or.inl (List.mem_of_getElem? (i := 3) rfl))
  have N20 := Fr.snoc X20 N18 g_a1
  have Y6 := (((Arv.set Ar_w6 q6 S_w6 N_w6 H6 G6 (v := .int p2) rfl W10 i hi hVL).other W14 ne4).other W18 ne5).other W20 ne1.symm
  have Y11 := ((Arv.set (Ar_w11.other W10 ne4.symm) q11 S_w11 N_w11 H11 G11 (v := .int p3) rfl W14 i hi hVC).other W18 ne6).other W20 ne2.symm
  have Y15 := (Arv.set ((Ar_w15.other W10 ne5.symm).other W14 ne6.symm) q15 S_w15 N_w15 H15 G15 (v := .null) rfl W18 i hi hVB).other W20 ne3.symm
  have G_lines := ((((F_lines_a1.other W10 (Or.inl ne1)).other W14 (Or.inl ne2)).other W18 (Or.inl ne3)).other W20 (Or.inr (slot_ne (Or.inl (hw _ (List.mem_of_getElem? (i := 11) rfl))) (Or.inl (hw _ (List.mem_of_getElem? (i := 26) rfl))) (by decide) (t := (.array .int)) (t' := .int) (by decide) (by decide))))
  have G_columns := ((((F_columns_a1.other W10 (Or.inl ne1)).other W14 (Or.inl ne2)).other W18 (Or.inl ne3)).other W20 (Or.inr (slot_ne (Or.inl (hw _ (List.mem_of_getElem? (i := 13) rfl))) (Or.inl (hw _ (List.mem_of_getElem? (i := 26) rfl))) (by decide) (t := (.array .int)) (t' := .int) (by decide) (by decide))))
  have G_labels := ((((F_labels_a1.other W10 (Or.inl ne1)).other W14 (Or.inl ne2)).other W18 (Or.inl ne3)).other W20 (Or.inr (slot_ne (Or.inl (hw _ (List.mem_of_getElem? (i := 17) rfl))) (Or.inl (hw _ (List.mem_of_getElem? (i := 26) rfl))) (by decide) (t := (.array (.object "java/lang/String"))) (t' := .int) (by decide) (by decide))))
  have G_first := ((((F_first_a1.other W10 (Or.inl ne1)).other W14 (Or.inl ne2)).other W18 (Or.inl ne3)).other W20 (Or.inr (slot_ne (Or.inl (hw _ (List.mem_of_getElem? (i := 24) rfl))) (Or.inl (hw _ (List.mem_of_getElem? (i := 26) rfl))) (by decide) (t := .int) (t' := .int) (by decide) (by decide))))
  have G_E := (((E_a1.wr W10).wr W14).wr W18).wr W20
  rw [he] at Fw20
  obtain ⟨fs, hr, hrun, hended, hW, hsame⟩ := X20.leave (v := none) (fun _ => rfl)
  refine ⟨_, _, pre0 _ ?_, hrun, hended, _, _, rfl, ?_, ⟨_, rfl⟩, hW, hsame.mono (by decide) (by decide)⟩
  · show Steps p.tables e below (s₁.setTop (mkF m 0 #[.val (.ref a1), .val (.int p2), .val (.int p3), .unset, .unset] [])) _
    refine XS.aloadN X0.here hx rfl (hb hby d4_0) rfl rfl ?_
    show Steps p.tables e below (s₁.setTop (mkF m 1 #[.val (.ref a1), .val (.int p2), .val (.int p3), .unset, .unset] [(.ref a1)])) _
    refine st5 _ ?_
    show Steps p.tables e below (T5.setTop (mkF m 4 #[.val (.ref a1), .val (.int p2), .val (.int p3), .unset, .unset] [(.int ee)])) _
    refine XS.aloadN X5.here hx rfl (hb hby d4_4) rfl rfl ?_
    show Steps p.tables e below (T5.setTop (mkF m 5 #[.val (.ref a1), .val (.int p2), .val (.int p3), .unset, .unset] [(.ref a1), (.int ee)])) _
    refine st7 _ ?_
    show Steps p.tables e below (T7.setTop (mkF m 8 #[.val (.ref a1), .val (.int p2), .val (.int p3), .unset, .unset] [(.ref w6), (.int ee)])) _
    refine X7.arraylength hx (by rw [e7]; exact Ar_w6.1) (State.isArrayOf_alike hZ.alike Ar_w6.2.1) (g := (mkF m 8 #[.val (.ref a1), .val (.int p2), .val (.int p3), .unset, .unset] [(.ref w6), (.int ee)])) rfl rfl (hb hby d4_8) _ ?_
    rw [len_of S_w6 N_w6]
    show Steps p.tables e below (T7.setTop (mkF m 9 #[.val (.ref a1), .val (.int p2), .val (.int p3), .unset, .unset] [(.int (1024 : Int32)), (.int ee)])) _
    refine XS.icmpYes X7.here hx rfl (pc0 := 9) (pc' := 108) rfl (hb hby d4_9) rfl (feq hc9).2 (by decide) (by decide) ?_
    show Steps p.tables e below (T7.setTop (mkF m 108 #[.val (.ref a1), .val (.int p2), .val (.int p3), .unset, .unset] [])) _
    refine XS.aloadN X7.here hx rfl (hb hby d4_108) rfl rfl ?_
    show Steps p.tables e below (T7.setTop (mkF m 109 #[.val (.ref a1), .val (.int p2), .val (.int p3), .unset, .unset] [(.ref a1)])) _
    refine st8 _ ?_
    show Steps p.tables e below (T8.setTop (mkF m 112 #[.val (.ref a1), .val (.int p2), .val (.int p3), .unset, .unset] [(.ref w6)])) _
    refine XS.aloadN X8.here hx rfl (hb hby d4_112) rfl rfl ?_
    show Steps p.tables e below (T8.setTop (mkF m 113 #[.val (.ref a1), .val (.int p2), .val (.int p3), .unset, .unset] [(.ref a1), (.ref w6)])) _
    refine st9 _ ?_
    show Steps p.tables e below (T9.setTop (mkF m 116 #[.val (.ref a1), .val (.int p2), .val (.int p3), .unset, .unset] [(.int ee), (.ref w6)])) _
    refine XS.iloadN X9.here hx rfl (hb hby d4_116) rfl ?_
    show Steps p.tables e below (T9.setTop (mkF m 117 #[.val (.ref a1), .val (.int p2), .val (.int p3), .unset, .unset] [(.int p2), (.int ee), (.ref w6)])) _
    refine st10 _ ?_
    show Steps p.tables e below (T10.setTop (mkF m 118 #[.val (.ref a1), .val (.int p2), .val (.int p3), .unset, .unset] [])) _
    refine XS.aloadN X10.here hx rfl (hb hby d4_118) rfl rfl ?_
    show Steps p.tables e below (T10.setTop (mkF m 119 #[.val (.ref a1), .val (.int p2), .val (.int p3), .unset, .unset] [(.ref a1)])) _
    refine st12 _ ?_
    show Steps p.tables e below (T12.setTop (mkF m 122 #[.val (.ref a1), .val (.int p2), .val (.int p3), .unset, .unset] [(.ref w11)])) _
    refine XS.aloadN X12.here hx rfl (hb hby d4_122) rfl rfl ?_
    show Steps p.tables e below (T12.setTop (mkF m 123 #[.val (.ref a1), .val (.int p2), .val (.int p3), .unset, .unset] [(.ref a1), (.ref w11)])) _
    refine st13 _ ?_
    show Steps p.tables e below (T13.setTop (mkF m 126 #[.val (.ref a1), .val (.int p2), .val (.int p3), .unset, .unset] [(.int ee), (.ref w11)])) _
    refine XS.iloadN X13.here hx rfl (hb hby d4_126) rfl ?_
    show Steps p.tables e below (T13.setTop (mkF m 127 #[.val (.ref a1), .val (.int p2), .val (.int p3), .unset, .unset] [(.int p3), (.int ee), (.ref w11)])) _
    refine st14 _ ?_
    show Steps p.tables e below (T14.setTop (mkF m 128 #[.val (.ref a1), .val (.int p2), .val (.int p3), .unset, .unset] [])) _
    refine XS.aloadN X14.here hx rfl (hb hby d4_128) rfl rfl ?_
    show Steps p.tables e below (T14.setTop (mkF m 129 #[.val (.ref a1), .val (.int p2), .val (.int p3), .unset, .unset] [(.ref a1)])) _
    refine st16 _ ?_
    show Steps p.tables e below (T16.setTop (mkF m 132 #[.val (.ref a1), .val (.int p2), .val (.int p3), .unset, .unset] [(.ref w15)])) _
    refine XS.aloadN X16.here hx rfl (hb hby d4_132) rfl rfl ?_
    show Steps p.tables e below (T16.setTop (mkF m 133 #[.val (.ref a1), .val (.int p2), .val (.int p3), .unset, .unset] [(.ref a1), (.ref w15)])) _
    refine st17 _ ?_
    show Steps p.tables e below (T17.setTop (mkF m 136 #[.val (.ref a1), .val (.int p2), .val (.int p3), .unset, .unset] [(.int ee), (.ref w15)])) _
    refine XS.aconstNull X17.here hx rfl (hb hby d4_136) ?_
    show Steps p.tables e below (T17.setTop (mkF m 137 #[.val (.ref a1), .val (.int p2), .val (.int p3), .unset, .unset] [.null, (.int ee), (.ref w15)])) _
    refine st18 _ ?_
    show Steps p.tables e below (T18.setTop (mkF m 138 #[.val (.ref a1), .val (.int p2), .val (.int p3), .unset, .unset] [])) _
    refine XS.aloadN X18.here hx rfl (hb hby d4_138) rfl rfl ?_
    show Steps p.tables e below (T18.setTop (mkF m 139 #[.val (.ref a1), .val (.int p2), .val (.int p3), .unset, .unset] [(.ref a1)])) _
    refine XS.dup X18.here hx rfl (hb hby d4_139) rfl rfl ?_
    show Steps p.tables e below (T18.setTop (mkF m 140 #[.val (.ref a1), .val (.int p2), .val (.int p3), .unset, .unset] [(.ref a1), (.ref a1)])) _
    refine st19 _ ?_
    show Steps p.tables e below (T19.setTop (mkF m 143 #[.val (.ref a1), .val (.int p2), .val (.int p3), .unset, .unset] [(.int ee), (.ref a1)])) _
    refine XS.iconst X19.here hx rfl (hb hby d4_143) ?_
    show Steps p.tables e below (T19.setTop (mkF m 144 #[.val (.ref a1), .val (.int p2), .val (.int p3), .unset, .unset] [(.int (1 : Int32)), (.int ee), (.ref a1)])) _
    refine XS.iadd X19.here hx rfl (hb hby d4_144) rfl ?_
    show Steps p.tables e below (T19.setTop (mkF m 145 #[.val (.ref a1), .val (.int p2), .val (.int p3), .unset, .unset] [(.int (ee + (1 : Int32))), (.ref a1)])) _
    refine st20 _ ?_
    show Steps p.tables e below (T20.setTop (mkF m 148 #[.val (.ref a1), .val (.int p2), .val (.int p3), .unset, .unset] [])) _
    exact X20.returnOut hx Bd.returns (hb hby d4_148) hr
  · show Q4 Z a1 f e' (VL.set i (.int p2)) (VC.set i (.int p3)) (VB.set i .null) h0 n0 _ T20.heap _
    rw [e20]
    exact ⟨rfl, N20, K20.1, w6, w11, w15, kl, kc, kb, G_E, G_lines, G_columns, G_labels, G_first, Fw20, Y6, Y11, Y15, g_a1, g_w6, g_w11, g_w15, ne1, ne2, ne3, ne4, ne5, ne6⟩
def Q5 (Z : State) (a1 : Addr) (f' e' : Int32) (VL VC VB : List Value) (h0 : Heap) (n0 : Nat) (v : Option Value) (h : Heap) (L : List Loc) : Prop := v = none ∧ Fr n0 L ∧ h0.size ≤ h.size ∧ NP Z h n0 a1 f' e' VL VC VB
theorem d5_0 : decode prog_54_method_9_code 0 = .ok (.aload_n 0, 1) := by decide +kernel
theorem d5_1 : decode prog_54_method_9_code 1 = .ok (.dup, 1) := by decide +kernel
theorem d5_2 : decode prog_54_method_9_code 2 = .ok (.getfield 26, 3) := by decide +kernel
theorem d5_5 : decode prog_54_method_9_code 5 = .ok (.iconst 1, 1) := by decide +kernel
theorem d5_6 : decode prog_54_method_9_code 6 = .ok (.iadd, 1) := by decide +kernel
theorem d5_7 : decode prog_54_method_9_code 7 = .ok (.putfield 26, 3) := by decide +kernel
theorem d5_10 : decode prog_54_method_9_code 10 = .ok (.aload_n 0, 1) := by decide +kernel
theorem d5_11 : decode prog_54_method_9_code 11 = .ok (.getfield 26, 3) := by decide +kernel
theorem d5_14 : decode prog_54_method_9_code 14 = .ok (.aload_n 0, 1) := by decide +kernel
theorem d5_15 : decode prog_54_method_9_code 15 = .ok (.getfield 22, 3) := by decide +kernel
theorem d5_18 : decode prog_54_method_9_code 18 = .ok (.if_icmp .ne 52, 3) := by decide +kernel
theorem d5_70 : decode prog_54_method_9_code 70 = .ok (.return_, 1) := by decide +kernel
theorem pn_5 : plainName "overmark/NotedPlaces" = true := by first | (simp [plainName, overriddenIn]; done) | decide +kernel
theorem ef_5 (m : MethodId) (x0 : Addr) : entryFrame m #[(.ref x0)] 1 = mkF m 0 #[.val (.ref x0)] [] := by first | (simp [entryFrame, mkF, argsToLocals, Value.category]; done) | rfl
set_option maxRecDepth 65536 in
set_option maxHeartbeats 40000000 in
theorem rm5t (l : Launch) (Z : State) (a0 : Array Value) (hw : ∀ d ∈ tables_1, d.before a0 Z = true) (ws : List Jvm.Cond) (a1 : Addr) (w2 w6 f' : Int32) (VL VC VB : List Value) (h0 : Heap) (n0 : Nat) (Z0 : n0 ≤ h0.size) (H : NP Z h0 n0 a1 w2 w6 VL VC VB) (hf : w2 + (1 : Int32) = f') (hc18 : ¬ ((w2 + (1 : Int32)) = w6)) :
    MetFree l (⟨"overmark/NotedPlaces", "letGoFirst", "()V"⟩ : MethodName) (head1 (Jvm.Cond.code (⟨"overmark/NotedPlaces", "letGoFirst", "()V"⟩ : MethodName) prog_54_method_9_code 1 none :: ws) ({ frames := 0, cells := 0, slots := 0, locals := 0 } : Room)) (fun a U => a = #[(.ref a1)] ∧ Z.Warmed39 U.vm ∧ U.heap = h0) (fun _ _ _ _ _ => True) (fun _ U o U' => ∃ v L, o = .returned v ∧ Q5 Z a1 f' w6 VL VC VB h0 n0 v U'.heap L ∧ FrameEnd U o U' L ({ frames := 0, cells := 0, slots := 0, locals := 0 } : Room).cells ({ frames := 0, cells := 0, slots := 0, locals := 0 } : Room).slots) := by
  refine MetFree.of_bodySF (plainFor_of_name pn_5) hisR ?_
  intro p e s m args below meth c s₁ Bd hml0 hP hK
  obtain ⟨rfl, hZ, hh⟩ := hP
  have hx := Bd.exec
  have hby := Bd.bytes
  have hml : c.maxLocals = 1 := hml0
  have hown : s.vm.findClass "overmark/NotedPlaces" = some m.cls := findClass_of_methodNamed Bd.named
  have hnm := (name_of_methodNamed Bd.named Bd.method).1
  have X0 : Stand p l e ({ frames := 0, cells := 0, slots := 0, locals := 0 } : Room) s m #[(.ref a1)] below meth c s₁ [] 0 0 := Stand.of_body Bd
  have e0 : s₁.heap = h0 := by rw [← hh, Bd.state]; rfl
  have N0 := Fr.nil n0
  obtain ⟨w10, w11, w15, kl, kc, kb, E_a1, F_lines_a1, F_columns_a1, F_labels_a1, F_first_a1, F_end_a1, V10, V11, V15, g_a1, g_w10, g_w11, g_w15, ne1, ne2, ne3, ne4, ne5, ne6⟩ := H
  have pre0 : ∀ t, Steps p.tables e below (s₁.setTop (mkF m 0 #[.val (.ref a1)] [])) t → Steps p.tables e below (s₁.setTop (entryFrame m #[(.ref a1)] 1)) t := fun t k => castTop (ef_5 m a1) k
  obtain ⟨T3, X3, e3, st3⟩ := getF X0 hx hZ hown (host := "") (Or.inl (hw _ (List.mem_of_getElem? (i := 23) rfl))) Via.refl e0 F_first_a1 (g := (mkF m 2 #[.val (.ref a1)] [(.ref a1), (.ref a1)])) rfl rfl (hb hby d5_2)
  obtain ⟨T4, h4, X4, e4, W4, st4⟩ := putF X3 hx hZ hown (host := "") (Or.inl (hw _ (List.mem_of_getElem? (i := 23) rfl))) Via.refl e3 F_first_a1 E_a1 (Or.inl (hw _ (List.mem_of_getElem? (i := 24) rfl))) (hw _ (List.mem_of_getElem? (i := 1) rfl)) (ty := .int) (by decide) rfl rfl (g := (mkF m 7 #[.val (.ref a1)] [(.int (w2 + (1 : Int32))), (.ref a1)])) rfl rfl (hb hby d5_7)
  have Fw4 := F_first_a1.same W4
  have K4 : Keep h0 h4 [a1] := (Keep.refl h0 [a1]).wr W4 (Or.inl (List.mem_of_getElem? (i := 0) rfl))
  have N4 := Fr.snoc X4 N0 g_a1
  have G_lines := (F_lines_a1.other W4 (Or.inr (slot_ne (Or.inl (hw _ (List.mem_of_getElem? (i := 11) rfl))) (Or.inl (hw _ (List.mem_of_getElem? (i := 24) rfl))) (by decide) (t := (.array .int)) (t' := .int) (by decide) (by decide))))
  have G_columns := (F_columns_a1.other W4 (Or.inr (slot_ne (Or.inl (hw _ (List.mem_of_getElem? (i := 13) rfl))) (Or.inl (hw _ (List.mem_of_getElem? (i := 24) rfl))) (by decide) (t := (.array .int)) (t' := .int) (by decide) (by decide))))
  have G_labels := (F_labels_a1.other W4 (Or.inr (slot_ne (Or.inl (hw _ (List.mem_of_getElem? (i := 17) rfl))) (Or.inl (hw _ (List.mem_of_getElem? (i := 24) rfl))) (by decide) (t := (.array (.object "java/lang/String"))) (t' := .int) (by decide) (by decide))))
  have G_end := (F_end_a1.other W4 (Or.inr (slot_ne (Or.inl (hw _ (List.mem_of_getElem? (i := 26) rfl))) (Or.inl (hw _ (List.mem_of_getElem? (i := 24) rfl))) (by decide) (t := .int) (t' := .int) (by decide) (by decide))))
  have Y10 := (V10.other W4 ne1.symm)
  have Y11 := (V11.other W4 ne2.symm)
  have Y15 := (V15.other W4 ne3.symm)
  have G_E := (E_a1.wr W4)
  have Fw4' := Fw4
  rw [hf] at Fw4'
  obtain ⟨T5, X5, e5, st5⟩ := getF X4 hx hZ hown (host := "") (Or.inl (hw _ (List.mem_of_getElem? (i := 23) rfl))) Via.refl e4 Fw4 (g := (mkF m 11 #[.val (.ref a1)] [(.ref a1)])) rfl rfl (hb hby d5_11)
  obtain ⟨T7, X7, e7, st7⟩ := getF X5 hx hZ hown (host := "") (Or.inl (hw _ (List.mem_of_getElem? (i := 25) rfl))) Via.refl e5 (F_end_a1.other W4 (Or.inr (slot_ne (Or.inl (hw _ (List.mem_of_getElem? (i := 26) rfl))) (Or.inl (hw _ (List.mem_of_getElem? (i := 24) rfl))) (by decide) (t := .int) (t' := .int) (by decide) (by decide)))) (g := (mkF m 15 #[.val (.ref a1)] [(.ref a1), (.int (w2 + (1 : Int32)))])) rfl rfl (hb hby d5_15)
  obtain ⟨fs, hr, hrun, hended, hW, hsame⟩ := X7.leave (v := none) (fun _ => rfl)
  refine ⟨_, _, pre0 _ ?_, hrun, hended, _, _, rfl, ?_, ⟨_, rfl⟩, hW, hsame.mono (by decide) (by decide)⟩
  · show Steps p.tables e below (s₁.setTop (mkF m 0 #[.val (.ref a1)] [])) _
    refine XS.aloadN X0.here hx rfl (hb hby d5_0) rfl rfl ?_
    show Steps p.tables e below (s₁.setTop (mkF m 1 #[.val (.ref a1)] [(.ref a1)])) _
    refine XS.dup X0.here hx rfl (hb hby d5_1) rfl rfl ?_
    show Steps p.tables e below (s₁.setTop (mkF m 2 #[.val (.ref a1)] [(.ref a1), (.ref a1)])) _
    refine st3 _ ?_
    show Steps p.tables e below (T3.setTop (mkF m 5 #[.val (.ref a1)] [(.int w2), (.ref a1)])) _
    refine XS.iconst X3.here hx rfl (hb hby d5_5) ?_
    show Steps p.tables e below (T3.setTop (mkF m 6 #[.val (.ref a1)] [(.int (1 : Int32)), (.int w2), (.ref a1)])) _
    refine XS.iadd X3.here hx rfl (hb hby d5_6) rfl ?_
    show Steps p.tables e below (T3.setTop (mkF m 7 #[.val (.ref a1)] [(.int (w2 + (1 : Int32))), (.ref a1)])) _
    refine st4 _ ?_
    show Steps p.tables e below (T4.setTop (mkF m 10 #[.val (.ref a1)] [])) _
    refine XS.aloadN X4.here hx rfl (hb hby d5_10) rfl rfl ?_
    show Steps p.tables e below (T4.setTop (mkF m 11 #[.val (.ref a1)] [(.ref a1)])) _
    refine st5 _ ?_
    show Steps p.tables e below (T5.setTop (mkF m 14 #[.val (.ref a1)] [(.int (w2 + (1 : Int32)))])) _
    refine XS.aloadN X5.here hx rfl (hb hby d5_14) rfl rfl ?_
    show Steps p.tables e below (T5.setTop (mkF m 15 #[.val (.ref a1)] [(.ref a1), (.int (w2 + (1 : Int32)))])) _
    refine st7 _ ?_
    show Steps p.tables e below (T7.setTop (mkF m 18 #[.val (.ref a1)] [(.int w6), (.int (w2 + (1 : Int32)))])) _
    refine XS.icmpYes X7.here hx rfl (pc0 := 18) (pc' := 70) rfl (hb hby d5_18) rfl (feq hc18).2 (by decide) (by decide) ?_
    show Steps p.tables e below (T7.setTop (mkF m 70 #[.val (.ref a1)] [])) _
    exact X7.returnOut hx Bd.returns (hb hby d5_70) hr
  · show Q5 Z a1 f' w6 VL VC VB h0 n0 _ T7.heap _
    rw [e7]
    exact ⟨rfl, N4, K4.1, w10, w11, w15, kl, kc, kb, G_E, G_lines, G_columns, G_labels, Fw4', G_end, Y10, Y11, Y15, g_a1, g_w10, g_w11, g_w15, ne1, ne2, ne3, ne4, ne5, ne6⟩
theorem d5_21 : decode prog_54_method_9_code 21 = .ok (.aload_n 0, 1) := by decide +kernel
theorem d5_22 : decode prog_54_method_9_code 22 = .ok (.iconst 0, 1) := by decide +kernel
theorem d5_23 : decode prog_54_method_9_code 23 = .ok (.putfield 26, 3) := by decide +kernel
theorem d5_26 : decode prog_54_method_9_code 26 = .ok (.aload_n 0, 1) := by decide +kernel
theorem d5_27 : decode prog_54_method_9_code 27 = .ok (.iconst 0, 1) := by decide +kernel
theorem d5_28 : decode prog_54_method_9_code 28 = .ok (.putfield 22, 3) := by decide +kernel
theorem d5_31 : decode prog_54_method_9_code 31 = .ok (.aload_n 0, 1) := by decide +kernel
theorem d5_32 : decode prog_54_method_9_code 32 = .ok (.getfield 9, 3) := by decide +kernel
theorem d5_35 : decode prog_54_method_9_code 35 = .ok (.arraylength, 1) := by decide +kernel
theorem d5_36 : decode prog_54_method_9_code 36 = .ok (.sipush 1024, 3) := by decide +kernel
theorem d5_39 : decode prog_54_method_9_code 39 = .ok (.if_icmp .le 31, 3) := by decide +kernel
set_option maxRecDepth 65536 in
set_option maxHeartbeats 40000000 in
theorem rm5f (l : Launch) (Z : State) (a0 : Array Value) (hw : ∀ d ∈ tables_1, d.before a0 Z = true) (ws : List Jvm.Cond) (a1 : Addr) (w2 w6 : Int32) (VL VC VB : List Value) (h0 : Heap) (n0 : Nat) (Z0 : n0 ≤ h0.size) (H : NP Z h0 n0 a1 w2 w6 VL VC VB) (hc18 : (w2 + (1 : Int32)) = w6) :
    MetFree l (⟨"overmark/NotedPlaces", "letGoFirst", "()V"⟩ : MethodName) (head1 (Jvm.Cond.code (⟨"overmark/NotedPlaces", "letGoFirst", "()V"⟩ : MethodName) prog_54_method_9_code 1 none :: ws) ({ frames := 0, cells := 0, slots := 0, locals := 0 } : Room)) (fun a U => a = #[(.ref a1)] ∧ Z.Warmed39 U.vm ∧ U.heap = h0) (fun _ _ _ _ _ => True) (fun _ U o U' => ∃ v L, o = .returned v ∧ Q5 Z a1 0 0 VL VC VB h0 n0 v U'.heap L ∧ FrameEnd U o U' L ({ frames := 0, cells := 0, slots := 0, locals := 0 } : Room).cells ({ frames := 0, cells := 0, slots := 0, locals := 0 } : Room).slots) := by
  refine MetFree.of_bodySF (plainFor_of_name pn_5) hisR ?_
  intro p e s m args below meth c s₁ Bd hml0 hP hK
  obtain ⟨rfl, hZ, hh⟩ := hP
  have hx := Bd.exec
  have hby := Bd.bytes
  have hml : c.maxLocals = 1 := hml0
  have hown : s.vm.findClass "overmark/NotedPlaces" = some m.cls := findClass_of_methodNamed Bd.named
  have hnm := (name_of_methodNamed Bd.named Bd.method).1
  have X0 : Stand p l e ({ frames := 0, cells := 0, slots := 0, locals := 0 } : Room) s m #[(.ref a1)] below meth c s₁ [] 0 0 := Stand.of_body Bd
  have e0 : s₁.heap = h0 := by rw [← hh, Bd.state]; rfl
  have N0 := Fr.nil n0
  obtain ⟨w10, w11, w15, kl, kc, kb, E_a1, F_lines_a1, F_columns_a1, F_labels_a1, F_first_a1, F_end_a1, V10, V11, V15, g_a1, g_w10, g_w11, g_w15, ne1, ne2, ne3, ne4, ne5, ne6⟩ := H
  have V10' := V10
  obtain ⟨cl_w10, Ar_w10, -, S_w10, N_w10, -, -⟩ := V10'
  have hc39 : ¬ ((1024 : Int32) < (1024 : Int32)) := by decide
  have pre0 : ∀ t, Steps p.tables e below (s₁.setTop (mkF m 0 #[.val (.ref a1)] [])) t → Steps p.tables e below (s₁.setTop (entryFrame m #[(.ref a1)] 1)) t := fun t k => castTop (ef_5 m a1) k
  obtain ⟨T3, X3, e3, st3⟩ := getF X0 hx hZ hown (host := "") (Or.inl (hw _ (List.mem_of_getElem? (i := 23) rfl))) Via.refl e0 F_first_a1 (g := (mkF m 2 #[.val (.ref a1)] [(.ref a1), (.ref a1)])) rfl rfl (hb hby d5_2)
  obtain ⟨T4, h4, X4, e4, W4, st4⟩ := putF X3 hx hZ hown (host := "") (Or.inl (hw _ (List.mem_of_getElem? (i := 23) rfl))) Via.refl e3 F_first_a1 E_a1 (Or.inl (hw _ (List.mem_of_getElem? (i := 24) rfl))) (hw _ (List.mem_of_getElem? (i := 1) rfl)) (ty := .int) (by decide) rfl rfl (g := (mkF m 7 #[.val (.ref a1)] [(.int (w2 + (1 : Int32))), (.ref a1)])) rfl rfl (hb hby d5_7)
  have Fw4 := F_first_a1.same W4
  have K4 : Keep h0 h4 [a1] := (Keep.refl h0 [a1]).wr W4 (Or.inl (List.mem_of_getElem? (i := 0) rfl))
  have N4 := Fr.snoc X4 N0 g_a1
  obtain ⟨T5, X5, e5, st5⟩ := getF X4 hx hZ hown (host := "") (Or.inl (hw _ (List.mem_of_getElem? (i := 23) rfl))) Via.refl e4 Fw4 (g := (mkF m 11 #[.val (.ref a1)] [(.ref a1)])) rfl rfl (hb hby d5_11)
  obtain ⟨T7, X7, e7, st7⟩ := getF X5 hx hZ hown (host := "") (Or.inl (hw _ (List.mem_of_getElem? (i := 25) rfl))) Via.refl e5 (F_end_a1.other W4 (Or.inr (slot_ne (Or.inl (hw _ (List.mem_of_getElem? (i := 26) rfl))) (Or.inl (hw _ (List.mem_of_getElem? (i := 24) rfl))) (by decide) (t := .int) (t' := .int) (by decide) (by decide)))) (g := (mkF m 15 #[.val (.ref a1)] [(.ref a1), (.int (w2 + (1 : Int32)))])) rfl rfl (hb hby d5_15)
  obtain ⟨T8, h8, X8, e8, W8, st8⟩ := putF X7 hx hZ hown (host := "") (Or.inl (hw _ (List.mem_of_getElem? (i := 23) rfl))) Via.refl e7 Fw4 (E_a1.wr W4) (Or.inl (hw _ (List.mem_of_getElem? (i := 24) rfl))) (hw _ (List.mem_of_getElem? (i := 1) rfl)) (ty := .int) (by decide) rfl rfl (g := (mkF m 23 #[.val (.ref a1)] [(.int (0 : Int32)), (.ref a1)])) rfl rfl (hb hby d5_23)
  have Fw8 := Fw4.same W8
  have K8 : Keep h0 h8 [a1] := K4.wr W8 (Or.inl (List.mem_of_getElem? (i := 0) rfl))
  have N8 := Fr.snoc X8 N4 g_a1
  obtain ⟨T9, h9, X9, e9, W9, st9⟩ := putF X8 hx hZ hown (host := "") (Or.inl (hw _ (List.mem_of_getElem? (i := 25) rfl))) Via.refl e8 ((F_end_a1.other W4 (Or.inr (slot_ne (Or.inl (hw _ (List.mem_of_getElem? (i := 26) rfl))) (Or.inl (hw _ (List.mem_of_getElem? (i := 24) rfl))) (by decide) (t := .int) (t' := .int) (by decide) (by decide)))).other W8 (Or.inr (slot_ne (Or.inl (hw _ (List.mem_of_getElem? (i := 26) rfl))) (Or.inl (hw _ (List.mem_of_getElem? (i := 24) rfl))) (by decide) (t := .int) (t' := .int) (by decide) (by decide)))) ((E_a1.wr W4).wr W8) (Or.inl (hw _ (List.mem_of_getElem? (i := 26) rfl))) (hw _ (List.mem_of_getElem? (i := 1) rfl)) (ty := .int) (by decide) rfl rfl (g := (mkF m 28 #[.val (.ref a1)] [(.int (0 : Int32)), (.ref a1)])) rfl rfl (hb hby d5_28)
  have Fw9 := ((F_end_a1.other W4 (Or.inr (slot_ne (Or.inl (hw _ (List.mem_of_getElem? (i := 26) rfl))) (Or.inl (hw _ (List.mem_of_getElem? (i := 24) rfl))) (by decide) (t := .int) (t' := .int) (by decide) (by decide)))).other W8 (Or.inr (slot_ne (Or.inl (hw _ (List.mem_of_getElem? (i := 26) rfl))) (Or.inl (hw _ (List.mem_of_getElem? (i := 24) rfl))) (by decide) (t := .int) (t' := .int) (by decide) (by decide)))).same W9
  have K9 : Keep h0 h9 [a1] := K8.wr W9 (Or.inl (List.mem_of_getElem? (i := 0) rfl))
  have N9 := Fr.snoc X9 N8 g_a1
  have G_lines := (((F_lines_a1.other W4 (Or.inr (slot_ne (Or.inl (hw _ (List.mem_of_getElem? (i := 11) rfl))) (Or.inl (hw _ (List.mem_of_getElem? (i := 24) rfl))) (by decide) (t := (.array .int)) (t' := .int) (by decide) (by decide)))).other W8 (Or.inr (slot_ne (Or.inl (hw _ (List.mem_of_getElem? (i := 11) rfl))) (Or.inl (hw _ (List.mem_of_getElem? (i := 24) rfl))) (by decide) (t := (.array .int)) (t' := .int) (by decide) (by decide)))).other W9 (Or.inr (slot_ne (Or.inl (hw _ (List.mem_of_getElem? (i := 11) rfl))) (Or.inl (hw _ (List.mem_of_getElem? (i := 26) rfl))) (by decide) (t := (.array .int)) (t' := .int) (by decide) (by decide))))
  have G_columns := (((F_columns_a1.other W4 (Or.inr (slot_ne (Or.inl (hw _ (List.mem_of_getElem? (i := 13) rfl))) (Or.inl (hw _ (List.mem_of_getElem? (i := 24) rfl))) (by decide) (t := (.array .int)) (t' := .int) (by decide) (by decide)))).other W8 (Or.inr (slot_ne (Or.inl (hw _ (List.mem_of_getElem? (i := 13) rfl))) (Or.inl (hw _ (List.mem_of_getElem? (i := 24) rfl))) (by decide) (t := (.array .int)) (t' := .int) (by decide) (by decide)))).other W9 (Or.inr (slot_ne (Or.inl (hw _ (List.mem_of_getElem? (i := 13) rfl))) (Or.inl (hw _ (List.mem_of_getElem? (i := 26) rfl))) (by decide) (t := (.array .int)) (t' := .int) (by decide) (by decide))))
  have G_labels := (((F_labels_a1.other W4 (Or.inr (slot_ne (Or.inl (hw _ (List.mem_of_getElem? (i := 17) rfl))) (Or.inl (hw _ (List.mem_of_getElem? (i := 24) rfl))) (by decide) (t := (.array (.object "java/lang/String"))) (t' := .int) (by decide) (by decide)))).other W8 (Or.inr (slot_ne (Or.inl (hw _ (List.mem_of_getElem? (i := 17) rfl))) (Or.inl (hw _ (List.mem_of_getElem? (i := 24) rfl))) (by decide) (t := (.array (.object "java/lang/String"))) (t' := .int) (by decide) (by decide)))).other W9 (Or.inr (slot_ne (Or.inl (hw _ (List.mem_of_getElem? (i := 17) rfl))) (Or.inl (hw _ (List.mem_of_getElem? (i := 26) rfl))) (by decide) (t := (.array (.object "java/lang/String"))) (t' := .int) (by decide) (by decide))))
  have Y10 := (((V10.other W4 ne1.symm).other W8 ne1.symm).other W9 ne1.symm)
  have Y11 := (((V11.other W4 ne2.symm).other W8 ne2.symm).other W9 ne2.symm)
  have Y15 := (((V15.other W4 ne3.symm).other W8 ne3.symm).other W9 ne3.symm)
  have G_E := (((E_a1.wr W4).wr W8).wr W9)
  have G_first := (Fw8.other W9 (Or.inr (slot_ne (Or.inl (hw _ (List.mem_of_getElem? (i := 24) rfl))) (Or.inl (hw _ (List.mem_of_getElem? (i := 26) rfl))) (by decide) (t := .int) (t' := .int) (by decide) (by decide))))
  obtain ⟨T11, X11, e11, st11⟩ := getF X9 hx hZ hown (host := "") (Or.inl (hw _ (List.mem_of_getElem? (i := 10) rfl))) Via.refl e9 (((F_lines_a1.other W4 (Or.inr (slot_ne (Or.inl (hw _ (List.mem_of_getElem? (i := 11) rfl))) (Or.inl (hw _ (List.mem_of_getElem? (i := 24) rfl))) (by decide) (t := (.array .int)) (t' := .int) (by decide) (by decide)))).other W8 (Or.inr (slot_ne (Or.inl (hw _ (List.mem_of_getElem? (i := 11) rfl))) (Or.inl (hw _ (List.mem_of_getElem? (i := 24) rfl))) (by decide) (t := (.array .int)) (t' := .int) (by decide) (by decide)))).other W9 (Or.inr (slot_ne (Or.inl (hw _ (List.mem_of_getElem? (i := 11) rfl))) (Or.inl (hw _ (List.mem_of_getElem? (i := 26) rfl))) (by decide) (t := (.array .int)) (t' := .int) (by decide) (by decide)))) (g := (mkF m 32 #[.val (.ref a1)] [(.ref a1)])) rfl rfl (hb hby d5_32)
  obtain ⟨fs, hr, hrun, hended, hW, hsame⟩ := X11.leave (v := none) (fun _ => rfl)
  refine ⟨_, _, pre0 _ ?_, hrun, hended, _, _, rfl, ?_, ⟨_, rfl⟩, hW, hsame.mono (by decide) (by decide)⟩
  · show Steps p.tables e below (s₁.setTop (mkF m 0 #[.val (.ref a1)] [])) _
    refine XS.aloadN X0.here hx rfl (hb hby d5_0) rfl rfl ?_
    show Steps p.tables e below (s₁.setTop (mkF m 1 #[.val (.ref a1)] [(.ref a1)])) _
    refine XS.dup X0.here hx rfl (hb hby d5_1) rfl rfl ?_
    show Steps p.tables e below (s₁.setTop (mkF m 2 #[.val (.ref a1)] [(.ref a1), (.ref a1)])) _
    refine st3 _ ?_
    show Steps p.tables e below (T3.setTop (mkF m 5 #[.val (.ref a1)] [(.int w2), (.ref a1)])) _
    refine XS.iconst X3.here hx rfl (hb hby d5_5) ?_
    show Steps p.tables e below (T3.setTop (mkF m 6 #[.val (.ref a1)] [(.int (1 : Int32)), (.int w2), (.ref a1)])) _
    refine XS.iadd X3.here hx rfl (hb hby d5_6) rfl ?_
    show Steps p.tables e below (T3.setTop (mkF m 7 #[.val (.ref a1)] [(.int (w2 + (1 : Int32))), (.ref a1)])) _
    refine st4 _ ?_
    show Steps p.tables e below (T4.setTop (mkF m 10 #[.val (.ref a1)] [])) _
    refine XS.aloadN X4.here hx rfl (hb hby d5_10) rfl rfl ?_
    show Steps p.tables e below (T4.setTop (mkF m 11 #[.val (.ref a1)] [(.ref a1)])) _
    refine st5 _ ?_
    show Steps p.tables e below (T5.setTop (mkF m 14 #[.val (.ref a1)] [(.int (w2 + (1 : Int32)))])) _
    refine XS.aloadN X5.here hx rfl (hb hby d5_14) rfl rfl ?_
    show Steps p.tables e below (T5.setTop (mkF m 15 #[.val (.ref a1)] [(.ref a1), (.int (w2 + (1 : Int32)))])) _
    refine st7 _ ?_
    show Steps p.tables e below (T7.setTop (mkF m 18 #[.val (.ref a1)] [(.int w6), (.int (w2 + (1 : Int32)))])) _
    refine XS.icmpNo X7.here hx rfl (hb hby d5_18) rfl (teq hc18).2 ?_
    show Steps p.tables e below (T7.setTop (mkF m 21 #[.val (.ref a1)] [])) _
    refine XS.aloadN X7.here hx rfl (hb hby d5_21) rfl rfl ?_
    show Steps p.tables e below (T7.setTop (mkF m 22 #[.val (.ref a1)] [(.ref a1)])) _
    refine XS.iconst X7.here hx rfl (hb hby d5_22) ?_
    show Steps p.tables e below (T7.setTop (mkF m 23 #[.val (.ref a1)] [(.int (0 : Int32)), (.ref a1)])) _
    refine st8 _ ?_
    show Steps p.tables e below (T8.setTop (mkF m 26 #[.val (.ref a1)] [])) _
    refine XS.aloadN X8.here hx rfl (hb hby d5_26) rfl rfl ?_
    show Steps p.tables e below (T8.setTop (mkF m 27 #[.val (.ref a1)] [(.ref a1)])) _
    refine XS.iconst X8.here hx rfl (hb hby d5_27) ?_
    show Steps p.tables e below (T8.setTop (mkF m 28 #[.val (.ref a1)] [(.int (0 : Int32)), (.ref a1)])) _
    refine st9 _ ?_
    show Steps p.tables e below (T9.setTop (mkF m 31 #[.val (.ref a1)] [])) _
    refine XS.aloadN X9.here hx rfl (hb hby d5_31) rfl rfl ?_
    show Steps p.tables e below (T9.setTop (mkF m 32 #[.val (.ref a1)] [(.ref a1)])) _
    refine st11 _ ?_
    show Steps p.tables e below (T11.setTop (mkF m 35 #[.val (.ref a1)] [(.ref w10)])) _
    refine X11.arraylength hx (by rw [e11]; exact (((Ar_w10.other W4 ne1.symm).other W8 ne1.symm).other W9 ne1.symm).1) (State.isArrayOf_alike hZ.alike Ar_w10.2.1) (g := (mkF m 35 #[.val (.ref a1)] [(.ref w10)])) rfl rfl (hb hby d5_35) _ ?_
    rw [len_of S_w10 N_w10]
    show Steps p.tables e below (T11.setTop (mkF m 36 #[.val (.ref a1)] [(.int (1024 : Int32))])) _
    refine XS.sipush X11.here hx rfl (hb hby d5_36) ?_
    show Steps p.tables e below (T11.setTop (mkF m 39 #[.val (.ref a1)] [(.int (1024 : Int32)), (.int (1024 : Int32))])) _
    refine XS.icmpYes X11.here hx rfl (pc0 := 39) (pc' := 70) rfl (hb hby d5_39) rfl (flt hc39).2.2.2 (by decide) (by decide) ?_
    show Steps p.tables e below (T11.setTop (mkF m 70 #[.val (.ref a1)] [])) _
    exact X11.returnOut hx Bd.returns (hb hby d5_70) hr
  · show Q5 Z a1 0 0 VL VC VB h0 n0 _ T11.heap _
    rw [e11]
    exact ⟨rfl, N9, K9.1, w10, w11, w15, kl, kc, kb, G_E, G_lines, G_columns, G_labels, G_first, Fw9, Y10, Y11, Y15, g_a1, g_w10, g_w11, g_w15, ne1, ne2, ne3, ne4, ne5, ne6⟩
def Q3 (Z : State) (r : Int32) (h0 : Heap) (n0 : Nat) (v : Option Value) (h : Heap) (L : List Loc) : Prop := v = some (.int r) ∧ Fr n0 L ∧ h = h0
theorem d3_0 : decode prog_54_method_3_code 0 = .ok (.aload_n 0, 1) := by decide +kernel
theorem d3_1 : decode prog_54_method_3_code 1 = .ok (.getfield 26, 3) := by decide +kernel
theorem d3_4 : decode prog_54_method_3_code 4 = .ok (.aload_n 0, 1) := by decide +kernel
theorem d3_5 : decode prog_54_method_3_code 5 = .ok (.getfield 22, 3) := by decide +kernel
theorem d3_8 : decode prog_54_method_3_code 8 = .ok (.if_icmp .ge 46, 3) := by decide +kernel
theorem d3_54 : decode prog_54_method_3_code 54 = .ok (.iconst 0, 1) := by decide +kernel
theorem d3_55 : decode prog_54_method_3_code 55 = .ok (.ireturn, 1) := by decide +kernel
theorem pn_3 : plainName "overmark/NotedPlaces" = true := by first | (simp [plainName, overriddenIn]; done) | decide +kernel
theorem ef_3 (m : MethodId) (x0 : Addr) (x1 : Int32) (x2 : Int32) : entryFrame m #[(.ref x0), (.int x1), (.int x2)] 3 = mkF m 0 #[.val (.ref x0), .val (.int x1), .val (.int x2)] [] := by first | (simp [entryFrame, mkF, argsToLocals, Value.category]; done) | rfl
set_option maxRecDepth 65536 in
set_option maxHeartbeats 40000000 in
theorem rm3a (l : Launch) (Z : State) (a0 : Array Value) (hw : ∀ d ∈ tables_1, d.before a0 Z = true) (ws : List Jvm.Cond) (a1 : Addr) (p2 p3 w4 w6 xx yy : Int32) (i : Nat) (VL VC VB : List Value) (h0 : Heap) (n0 : Nat) (Z0 : n0 ≤ h0.size) (H : NP Z h0 n0 a1 w4 w6 VL VC VB) (hi : w4.toNatClampNeg = i) (he0 : ¬ w4 < 0) (he1 : w4 < (1024 : Int32)) (hxx : VL.getD i (.int (0 : Int32)) = .int xx) (hyy : VC.getD i (.int (0 : Int32)) = .int yy) (hc8 : ¬ (w4 < w6)) :
    MetFree l (⟨"overmark/NotedPlaces", "firstBefore", "(II)Z"⟩ : MethodName) (head1 (Jvm.Cond.code (⟨"overmark/NotedPlaces", "firstBefore", "(II)Z"⟩ : MethodName) prog_54_method_3_code 3 (some .boolean) :: ws) ({ frames := 0, cells := 0, slots := 0, locals := 0 } : Room)) (fun a U => a = #[(.ref a1), (.int p2), (.int p3)] ∧ Z.Warmed39 U.vm ∧ U.heap = h0) (fun _ _ _ _ _ => True) (fun _ U o U' => ∃ v L, o = .returned v ∧ Q3 Z 0 h0 n0 v U'.heap L ∧ FrameEnd U o U' L ({ frames := 0, cells := 0, slots := 0, locals := 0 } : Room).cells ({ frames := 0, cells := 0, slots := 0, locals := 0 } : Room).slots) := by
  refine MetFree.of_bodySF (plainFor_of_name pn_3) hisR ?_
  intro p e s m args below meth c s₁ Bd hml0 hP hK
  obtain ⟨rfl, hZ, hh⟩ := hP
  have hx := Bd.exec
  have hby := Bd.bytes
  have hml : c.maxLocals = 3 := hml0
  have hown : s.vm.findClass "overmark/NotedPlaces" = some m.cls := findClass_of_methodNamed Bd.named
  have hnm := (name_of_methodNamed Bd.named Bd.method).1
  have X0 : Stand p l e ({ frames := 0, cells := 0, slots := 0, locals := 0 } : Room) s m #[(.ref a1), (.int p2), (.int p3)] below meth c s₁ [] 0 0 := Stand.of_body Bd
  have e0 : s₁.heap = h0 := by rw [← hh, Bd.state]; rfl
  have N0 := Fr.nil n0
  obtain ⟨rl, rc, rb, kl, kc, kb, E_a1, F_lines_a1, F_columns_a1, F_labels_a1, F_first_a1, F_end_a1, V10, V11, V15, g_a1, g_w10, g_w11, g_w15, ne1, ne2, ne3, ne4, ne5, ne6⟩ := H
  obtain ⟨cl_rl, Ar_rl, q6, S_rl, N_rl, H6, G6⟩ := V10
  obtain ⟨cl_rc, Ar_rc, q11, S_rc, N_rc, H11, G11⟩ := V11
  have hin19 : ¬ (w4 < 0 ∨ cl_rl.slots.size ≤ (w4).toNatClampNeg) := inb_of S_rl ⟨he0, he1⟩
  have hin32 := hin19
  have hin45 : ¬ (w4 < 0 ∨ cl_rc.slots.size ≤ (w4).toNatClampNeg) := inb_of S_rc ⟨he0, he1⟩
  have hat19 : cl_rl.slots[(w4).toNatClampNeg]? = some (.int xx) := H6.at hin19 (by rw [hi]; exact hxx)
  have hat32 := hat19
  have hat45 : cl_rc.slots[(w4).toNatClampNeg]? = some (.int yy) := H11.at hin45 (by rw [hi]; exact hyy)
  have pre0 : ∀ t, Steps p.tables e below (s₁.setTop (mkF m 0 #[.val (.ref a1), .val (.int p2), .val (.int p3)] [])) t → Steps p.tables e below (s₁.setTop (entryFrame m #[(.ref a1), (.int p2), (.int p3)] 3)) t := fun t k => castTop (ef_3 m a1 p2 p3) k
  obtain ⟨T5, X5, e5, st5⟩ := getF X0 hx hZ hown (host := "") (Or.inl (hw _ (List.mem_of_getElem? (i := 23) rfl))) Via.refl e0 F_first_a1 (g := (mkF m 1 #[.val (.ref a1), .val (.int p2), .val (.int p3)] [(.ref a1)])) rfl rfl (hb hby d3_1)
  obtain ⟨T7, X7, e7, st7⟩ := getF X5 hx hZ hown (host := "") (Or.inl (hw _ (List.mem_of_getElem? (i := 25) rfl))) Via.refl e5 F_end_a1 (g := (mkF m 5 #[.val (.ref a1), .val (.int p2), .val (.int p3)] [(.ref a1), (.int w4)])) rfl rfl (hb hby d3_5)
  obtain ⟨fs, hr, hrun, hended, hW, hsame⟩ := X7.leave (v := some (.int (0 : Int32))) (fun h => by rw [Bd.returns] at h; cases h)
  refine ⟨_, _, pre0 _ ?_, hrun, hended, _, _, rfl, ?_, ⟨_, rfl⟩, hW, hsame.mono (by decide) (by decide)⟩
  · show Steps p.tables e below (s₁.setTop (mkF m 0 #[.val (.ref a1), .val (.int p2), .val (.int p3)] [])) _
    refine XS.aloadN X0.here hx rfl (hb hby d3_0) rfl rfl ?_
    show Steps p.tables e below (s₁.setTop (mkF m 1 #[.val (.ref a1), .val (.int p2), .val (.int p3)] [(.ref a1)])) _
    refine st5 _ ?_
    show Steps p.tables e below (T5.setTop (mkF m 4 #[.val (.ref a1), .val (.int p2), .val (.int p3)] [(.int w4)])) _
    refine XS.aloadN X5.here hx rfl (hb hby d3_4) rfl rfl ?_
    show Steps p.tables e below (T5.setTop (mkF m 5 #[.val (.ref a1), .val (.int p2), .val (.int p3)] [(.ref a1), (.int w4)])) _
    refine st7 _ ?_
    show Steps p.tables e below (T7.setTop (mkF m 8 #[.val (.ref a1), .val (.int p2), .val (.int p3)] [(.int w6), (.int w4)])) _
    refine XS.icmpYes X7.here hx rfl (pc0 := 8) (pc' := 54) rfl (hb hby d3_8) rfl (flt hc8).2.1 (by decide) (by decide) ?_
    show Steps p.tables e below (T7.setTop (mkF m 54 #[.val (.ref a1), .val (.int p2), .val (.int p3)] [])) _
    refine XS.iconst X7.here hx rfl (hb hby d3_54) ?_
    show Steps p.tables e below (T7.setTop (mkF m 55 #[.val (.ref a1), .val (.int p2), .val (.int p3)] [(.int (0 : Int32))])) _
    exact retN X7 hx (t := .boolean) Bd.returns (by simp) (hb hby d3_55) hr
  · show Q3 Z 0 h0 n0 _ T7.heap _
    rw [e7]
    exact ⟨rfl, N0, rfl⟩
theorem d3_11 : decode prog_54_method_3_code 11 = .ok (.aload_n 0, 1) := by decide +kernel
theorem d3_12 : decode prog_54_method_3_code 12 = .ok (.getfield 9, 3) := by decide +kernel
theorem d3_15 : decode prog_54_method_3_code 15 = .ok (.aload_n 0, 1) := by decide +kernel
theorem d3_16 : decode prog_54_method_3_code 16 = .ok (.getfield 26, 3) := by decide +kernel
theorem d3_19 : decode prog_54_method_3_code 19 = .ok (.iaload, 1) := by decide +kernel
theorem d3_20 : decode prog_54_method_3_code 20 = .ok (.iload_n 1, 1) := by decide +kernel
theorem d3_21 : decode prog_54_method_3_code 21 = .ok (.if_icmp .lt 29, 3) := by decide +kernel
theorem d3_50 : decode prog_54_method_3_code 50 = .ok (.iconst 1, 1) := by decide +kernel
theorem d3_51 : decode prog_54_method_3_code 51 = .ok (.goto 4, 3) := by decide +kernel
set_option maxRecDepth 65536 in
set_option maxHeartbeats 40000000 in
theorem rm3b (l : Launch) (Z : State) (a0 : Array Value) (hw : ∀ d ∈ tables_1, d.before a0 Z = true) (ws : List Jvm.Cond) (a1 : Addr) (p2 p3 w4 w6 xx yy : Int32) (i : Nat) (VL VC VB : List Value) (h0 : Heap) (n0 : Nat) (Z0 : n0 ≤ h0.size) (H : NP Z h0 n0 a1 w4 w6 VL VC VB) (hi : w4.toNatClampNeg = i) (he0 : ¬ w4 < 0) (he1 : w4 < (1024 : Int32)) (hxx : VL.getD i (.int (0 : Int32)) = .int xx) (hyy : VC.getD i (.int (0 : Int32)) = .int yy) (hc8 : w4 < w6) (hc21 : xx < p2) :
    MetFree l (⟨"overmark/NotedPlaces", "firstBefore", "(II)Z"⟩ : MethodName) (head1 (Jvm.Cond.code (⟨"overmark/NotedPlaces", "firstBefore", "(II)Z"⟩ : MethodName) prog_54_method_3_code 3 (some .boolean) :: ws) ({ frames := 0, cells := 0, slots := 0, locals := 0 } : Room)) (fun a U => a = #[(.ref a1), (.int p2), (.int p3)] ∧ Z.Warmed39 U.vm ∧ U.heap = h0) (fun _ _ _ _ _ => True) (fun _ U o U' => ∃ v L, o = .returned v ∧ Q3 Z 1 h0 n0 v U'.heap L ∧ FrameEnd U o U' L ({ frames := 0, cells := 0, slots := 0, locals := 0 } : Room).cells ({ frames := 0, cells := 0, slots := 0, locals := 0 } : Room).slots) := by
  refine MetFree.of_bodySF (plainFor_of_name pn_3) hisR ?_
  intro p e s m args below meth c s₁ Bd hml0 hP hK
  obtain ⟨rfl, hZ, hh⟩ := hP
  have hx := Bd.exec
  have hby := Bd.bytes
  have hml : c.maxLocals = 3 := hml0
  have hown : s.vm.findClass "overmark/NotedPlaces" = some m.cls := findClass_of_methodNamed Bd.named
  have hnm := (name_of_methodNamed Bd.named Bd.method).1
  have X0 : Stand p l e ({ frames := 0, cells := 0, slots := 0, locals := 0 } : Room) s m #[(.ref a1), (.int p2), (.int p3)] below meth c s₁ [] 0 0 := Stand.of_body Bd
  have e0 : s₁.heap = h0 := by rw [← hh, Bd.state]; rfl
  have N0 := Fr.nil n0
  obtain ⟨rl, rc, rb, kl, kc, kb, E_a1, F_lines_a1, F_columns_a1, F_labels_a1, F_first_a1, F_end_a1, V10, V11, V15, g_a1, g_w10, g_w11, g_w15, ne1, ne2, ne3, ne4, ne5, ne6⟩ := H
  obtain ⟨cl_rl, Ar_rl, q6, S_rl, N_rl, H6, G6⟩ := V10
  obtain ⟨cl_rc, Ar_rc, q11, S_rc, N_rc, H11, G11⟩ := V11
  have hin19 : ¬ (w4 < 0 ∨ cl_rl.slots.size ≤ (w4).toNatClampNeg) := inb_of S_rl ⟨he0, he1⟩
  have hin32 := hin19
  have hin45 : ¬ (w4 < 0 ∨ cl_rc.slots.size ≤ (w4).toNatClampNeg) := inb_of S_rc ⟨he0, he1⟩
  have hat19 : cl_rl.slots[(w4).toNatClampNeg]? = some (.int xx) := H6.at hin19 (by rw [hi]; exact hxx)
  have hat32 := hat19
  have hat45 : cl_rc.slots[(w4).toNatClampNeg]? = some (.int yy) := H11.at hin45 (by rw [hi]; exact hyy)
  have pre0 : ∀ t, Steps p.tables e below (s₁.setTop (mkF m 0 #[.val (.ref a1), .val (.int p2), .val (.int p3)] [])) t → Steps p.tables e below (s₁.setTop (entryFrame m #[(.ref a1), (.int p2), (.int p3)] 3)) t := fun t k => castTop (ef_3 m a1 p2 p3) k
  obtain ⟨T5, X5, e5, st5⟩ := getF X0 hx hZ hown (host := "") (Or.inl (hw _ (List.mem_of_getElem? (i := 23) rfl))) Via.refl e0 F_first_a1 (g := (mkF m 1 #[.val (.ref a1), .val (.int p2), .val (.int p3)] [(.ref a1)])) rfl rfl (hb hby d3_1)
  obtain ⟨T7, X7, e7, st7⟩ := getF X5 hx hZ hown (host := "") (Or.inl (hw _ (List.mem_of_getElem? (i := 25) rfl))) Via.refl e5 F_end_a1 (g := (mkF m 5 #[.val (.ref a1), .val (.int p2), .val (.int p3)] [(.ref a1), (.int w4)])) rfl rfl (hb hby d3_5)
  obtain ⟨T9, X9, e9, st9⟩ := getF X7 hx hZ hown (host := "") (Or.inl (hw _ (List.mem_of_getElem? (i := 10) rfl))) Via.refl e7 F_lines_a1 (g := (mkF m 12 #[.val (.ref a1), .val (.int p2), .val (.int p3)] [(.ref a1)])) rfl rfl (hb hby d3_12)
  obtain ⟨T10, X10, e10, st10⟩ := getF X9 hx hZ hown (host := "") (Or.inl (hw _ (List.mem_of_getElem? (i := 23) rfl))) Via.refl e9 F_first_a1 (g := (mkF m 16 #[.val (.ref a1), .val (.int p2), .val (.int p3)] [(.ref a1), (.ref rl)])) rfl rfl (hb hby d3_16)
  obtain ⟨fs, hr, hrun, hended, hW, hsame⟩ := X10.leave (v := some (.int (1 : Int32))) (fun h => by rw [Bd.returns] at h; cases h)
  refine ⟨_, _, pre0 _ ?_, hrun, hended, _, _, rfl, ?_, ⟨_, rfl⟩, hW, hsame.mono (by decide) (by decide)⟩
  · show Steps p.tables e below (s₁.setTop (mkF m 0 #[.val (.ref a1), .val (.int p2), .val (.int p3)] [])) _
    refine XS.aloadN X0.here hx rfl (hb hby d3_0) rfl rfl ?_
    show Steps p.tables e below (s₁.setTop (mkF m 1 #[.val (.ref a1), .val (.int p2), .val (.int p3)] [(.ref a1)])) _
    refine st5 _ ?_
    show Steps p.tables e below (T5.setTop (mkF m 4 #[.val (.ref a1), .val (.int p2), .val (.int p3)] [(.int w4)])) _
    refine XS.aloadN X5.here hx rfl (hb hby d3_4) rfl rfl ?_
    show Steps p.tables e below (T5.setTop (mkF m 5 #[.val (.ref a1), .val (.int p2), .val (.int p3)] [(.ref a1), (.int w4)])) _
    refine st7 _ ?_
    show Steps p.tables e below (T7.setTop (mkF m 8 #[.val (.ref a1), .val (.int p2), .val (.int p3)] [(.int w6), (.int w4)])) _
    refine XS.icmpNo X7.here hx rfl (hb hby d3_8) rfl (tlt hc8).2.1 ?_
    show Steps p.tables e below (T7.setTop (mkF m 11 #[.val (.ref a1), .val (.int p2), .val (.int p3)] [])) _
    refine XS.aloadN X7.here hx rfl (hb hby d3_11) rfl rfl ?_
    show Steps p.tables e below (T7.setTop (mkF m 12 #[.val (.ref a1), .val (.int p2), .val (.int p3)] [(.ref a1)])) _
    refine st9 _ ?_
    show Steps p.tables e below (T9.setTop (mkF m 15 #[.val (.ref a1), .val (.int p2), .val (.int p3)] [(.ref rl)])) _
    refine XS.aloadN X9.here hx rfl (hb hby d3_15) rfl rfl ?_
    show Steps p.tables e below (T9.setTop (mkF m 16 #[.val (.ref a1), .val (.int p2), .val (.int p3)] [(.ref a1), (.ref rl)])) _
    refine st10 _ ?_
    show Steps p.tables e below (T10.setTop (mkF m 19 #[.val (.ref a1), .val (.int p2), .val (.int p3)] [(.int w4), (.ref rl)])) _
    refine X10.iaload hx (j := w4) (v := (.int xx)) (by rw [e10]; exact Ar_rl.1) (State.isArrayOf_alike hZ.alike Ar_rl.2.1) Ar_rl.2.2 hin19 hat19 (g := (mkF m 19 #[.val (.ref a1), .val (.int p2), .val (.int p3)] [(.int w4), (.ref rl)])) rfl rfl (hb hby d3_19) _ ?_
    show Steps p.tables e below (T10.setTop (mkF m 20 #[.val (.ref a1), .val (.int p2), .val (.int p3)] [(.int xx)])) _
    refine XS.iloadN X10.here hx rfl (hb hby d3_20) rfl ?_
    show Steps p.tables e below (T10.setTop (mkF m 21 #[.val (.ref a1), .val (.int p2), .val (.int p3)] [(.int p2), (.int xx)])) _
    refine XS.icmpYes X10.here hx rfl (pc0 := 21) (pc' := 50) rfl (hb hby d3_21) rfl (tlt hc21).1 (by decide) (by decide) ?_
    show Steps p.tables e below (T10.setTop (mkF m 50 #[.val (.ref a1), .val (.int p2), .val (.int p3)] [])) _
    refine XS.iconst X10.here hx rfl (hb hby d3_50) ?_
    show Steps p.tables e below (T10.setTop (mkF m 51 #[.val (.ref a1), .val (.int p2), .val (.int p3)] [(.int (1 : Int32))])) _
    refine XS.goto X10.here hx rfl (pc0 := 51) (pc' := 55) rfl (hb hby d3_51) (by decide) (by decide) ?_
    show Steps p.tables e below (T10.setTop (mkF m 55 #[.val (.ref a1), .val (.int p2), .val (.int p3)] [(.int (1 : Int32))])) _
    exact retN X10 hx (t := .boolean) Bd.returns (by simp) (hb hby d3_55) hr
  · show Q3 Z 1 h0 n0 _ T10.heap _
    rw [e10]
    exact ⟨rfl, N0, rfl⟩
theorem d3_24 : decode prog_54_method_3_code 24 = .ok (.aload_n 0, 1) := by decide +kernel
theorem d3_25 : decode prog_54_method_3_code 25 = .ok (.getfield 9, 3) := by decide +kernel
theorem d3_28 : decode prog_54_method_3_code 28 = .ok (.aload_n 0, 1) := by decide +kernel
theorem d3_29 : decode prog_54_method_3_code 29 = .ok (.getfield 26, 3) := by decide +kernel
theorem d3_32 : decode prog_54_method_3_code 32 = .ok (.iaload, 1) := by decide +kernel
theorem d3_33 : decode prog_54_method_3_code 33 = .ok (.iload_n 1, 1) := by decide +kernel
theorem d3_34 : decode prog_54_method_3_code 34 = .ok (.if_icmp .ne 20, 3) := by decide +kernel
set_option maxRecDepth 65536 in
set_option maxHeartbeats 40000000 in
theorem rm3c (l : Launch) (Z : State) (a0 : Array Value) (hw : ∀ d ∈ tables_1, d.before a0 Z = true) (ws : List Jvm.Cond) (a1 : Addr) (p2 p3 w4 w6 xx yy : Int32) (i : Nat) (VL VC VB : List Value) (h0 : Heap) (n0 : Nat) (Z0 : n0 ≤ h0.size) (H : NP Z h0 n0 a1 w4 w6 VL VC VB) (hi : w4.toNatClampNeg = i) (he0 : ¬ w4 < 0) (he1 : w4 < (1024 : Int32)) (hxx : VL.getD i (.int (0 : Int32)) = .int xx) (hyy : VC.getD i (.int (0 : Int32)) = .int yy) (hc8 : w4 < w6) (hc21 : ¬ (xx < p2)) (hc34 : ¬ (xx = p2)) :
    MetFree l (⟨"overmark/NotedPlaces", "firstBefore", "(II)Z"⟩ : MethodName) (head1 (Jvm.Cond.code (⟨"overmark/NotedPlaces", "firstBefore", "(II)Z"⟩ : MethodName) prog_54_method_3_code 3 (some .boolean) :: ws) ({ frames := 0, cells := 0, slots := 0, locals := 0 } : Room)) (fun a U => a = #[(.ref a1), (.int p2), (.int p3)] ∧ Z.Warmed39 U.vm ∧ U.heap = h0) (fun _ _ _ _ _ => True) (fun _ U o U' => ∃ v L, o = .returned v ∧ Q3 Z 0 h0 n0 v U'.heap L ∧ FrameEnd U o U' L ({ frames := 0, cells := 0, slots := 0, locals := 0 } : Room).cells ({ frames := 0, cells := 0, slots := 0, locals := 0 } : Room).slots) := by
  refine MetFree.of_bodySF (plainFor_of_name pn_3) hisR ?_
  intro p e s m args below meth c s₁ Bd hml0 hP hK
  obtain ⟨rfl, hZ, hh⟩ := hP
  have hx := Bd.exec
  have hby := Bd.bytes
  have hml : c.maxLocals = 3 := hml0
  have hown : s.vm.findClass "overmark/NotedPlaces" = some m.cls := findClass_of_methodNamed Bd.named
  have hnm := (name_of_methodNamed Bd.named Bd.method).1
  have X0 : Stand p l e ({ frames := 0, cells := 0, slots := 0, locals := 0 } : Room) s m #[(.ref a1), (.int p2), (.int p3)] below meth c s₁ [] 0 0 := Stand.of_body Bd
  have e0 : s₁.heap = h0 := by rw [← hh, Bd.state]; rfl
  have N0 := Fr.nil n0
  obtain ⟨rl, rc, rb, kl, kc, kb, E_a1, F_lines_a1, F_columns_a1, F_labels_a1, F_first_a1, F_end_a1, V10, V11, V15, g_a1, g_w10, g_w11, g_w15, ne1, ne2, ne3, ne4, ne5, ne6⟩ := H
  obtain ⟨cl_rl, Ar_rl, q6, S_rl, N_rl, H6, G6⟩ := V10
  obtain ⟨cl_rc, Ar_rc, q11, S_rc, N_rc, H11, G11⟩ := V11
  have hin19 : ¬ (w4 < 0 ∨ cl_rl.slots.size ≤ (w4).toNatClampNeg) := inb_of S_rl ⟨he0, he1⟩
  have hin32 := hin19
  have hin45 : ¬ (w4 < 0 ∨ cl_rc.slots.size ≤ (w4).toNatClampNeg) := inb_of S_rc ⟨he0, he1⟩
  have hat19 : cl_rl.slots[(w4).toNatClampNeg]? = some (.int xx) := H6.at hin19 (by rw [hi]; exact hxx)
  have hat32 := hat19
  have hat45 : cl_rc.slots[(w4).toNatClampNeg]? = some (.int yy) := H11.at hin45 (by rw [hi]; exact hyy)
  have pre0 : ∀ t, Steps p.tables e below (s₁.setTop (mkF m 0 #[.val (.ref a1), .val (.int p2), .val (.int p3)] [])) t → Steps p.tables e below (s₁.setTop (entryFrame m #[(.ref a1), (.int p2), (.int p3)] 3)) t := fun t k => castTop (ef_3 m a1 p2 p3) k
  obtain ⟨T5, X5, e5, st5⟩ := getF X0 hx hZ hown (host := "") (Or.inl (hw _ (List.mem_of_getElem? (i := 23) rfl))) Via.refl e0 F_first_a1 (g := (mkF m 1 #[.val (.ref a1), .val (.int p2), .val (.int p3)] [(.ref a1)])) rfl rfl (hb hby d3_1)
  obtain ⟨T7, X7, e7, st7⟩ := getF X5 hx hZ hown (host := "") (Or.inl (hw _ (List.mem_of_getElem? (i := 25) rfl))) Via.refl e5 F_end_a1 (g := (mkF m 5 #[.val (.ref a1), .val (.int p2), .val (.int p3)] [(.ref a1), (.int w4)])) rfl rfl (hb hby d3_5)
  obtain ⟨T9, X9, e9, st9⟩ := getF X7 hx hZ hown (host := "") (Or.inl (hw _ (List.mem_of_getElem? (i := 10) rfl))) Via.refl e7 F_lines_a1 (g := (mkF m 12 #[.val (.ref a1), .val (.int p2), .val (.int p3)] [(.ref a1)])) rfl rfl (hb hby d3_12)
  obtain ⟨T10, X10, e10, st10⟩ := getF X9 hx hZ hown (host := "") (Or.inl (hw _ (List.mem_of_getElem? (i := 23) rfl))) Via.refl e9 F_first_a1 (g := (mkF m 16 #[.val (.ref a1), .val (.int p2), .val (.int p3)] [(.ref a1), (.ref rl)])) rfl rfl (hb hby d3_16)
  obtain ⟨T12, X12, e12, st12⟩ := getF X10 hx hZ hown (host := "") (Or.inl (hw _ (List.mem_of_getElem? (i := 10) rfl))) Via.refl e10 F_lines_a1 (g := (mkF m 25 #[.val (.ref a1), .val (.int p2), .val (.int p3)] [(.ref a1)])) rfl rfl (hb hby d3_25)
  obtain ⟨T13, X13, e13, st13⟩ := getF X12 hx hZ hown (host := "") (Or.inl (hw _ (List.mem_of_getElem? (i := 23) rfl))) Via.refl e12 F_first_a1 (g := (mkF m 29 #[.val (.ref a1), .val (.int p2), .val (.int p3)] [(.ref a1), (.ref rl)])) rfl rfl (hb hby d3_29)
  obtain ⟨fs, hr, hrun, hended, hW, hsame⟩ := X13.leave (v := some (.int (0 : Int32))) (fun h => by rw [Bd.returns] at h; cases h)
  refine ⟨_, _, pre0 _ ?_, hrun, hended, _, _, rfl, ?_, ⟨_, rfl⟩, hW, hsame.mono (by decide) (by decide)⟩
  · show Steps p.tables e below (s₁.setTop (mkF m 0 #[.val (.ref a1), .val (.int p2), .val (.int p3)] [])) _
    refine XS.aloadN X0.here hx rfl (hb hby d3_0) rfl rfl ?_
    show Steps p.tables e below (s₁.setTop (mkF m 1 #[.val (.ref a1), .val (.int p2), .val (.int p3)] [(.ref a1)])) _
    refine st5 _ ?_
    show Steps p.tables e below (T5.setTop (mkF m 4 #[.val (.ref a1), .val (.int p2), .val (.int p3)] [(.int w4)])) _
    refine XS.aloadN X5.here hx rfl (hb hby d3_4) rfl rfl ?_
    show Steps p.tables e below (T5.setTop (mkF m 5 #[.val (.ref a1), .val (.int p2), .val (.int p3)] [(.ref a1), (.int w4)])) _
    refine st7 _ ?_
    show Steps p.tables e below (T7.setTop (mkF m 8 #[.val (.ref a1), .val (.int p2), .val (.int p3)] [(.int w6), (.int w4)])) _
    refine XS.icmpNo X7.here hx rfl (hb hby d3_8) rfl (tlt hc8).2.1 ?_
    show Steps p.tables e below (T7.setTop (mkF m 11 #[.val (.ref a1), .val (.int p2), .val (.int p3)] [])) _
    refine XS.aloadN X7.here hx rfl (hb hby d3_11) rfl rfl ?_
    show Steps p.tables e below (T7.setTop (mkF m 12 #[.val (.ref a1), .val (.int p2), .val (.int p3)] [(.ref a1)])) _
    refine st9 _ ?_
    show Steps p.tables e below (T9.setTop (mkF m 15 #[.val (.ref a1), .val (.int p2), .val (.int p3)] [(.ref rl)])) _
    refine XS.aloadN X9.here hx rfl (hb hby d3_15) rfl rfl ?_
    show Steps p.tables e below (T9.setTop (mkF m 16 #[.val (.ref a1), .val (.int p2), .val (.int p3)] [(.ref a1), (.ref rl)])) _
    refine st10 _ ?_
    show Steps p.tables e below (T10.setTop (mkF m 19 #[.val (.ref a1), .val (.int p2), .val (.int p3)] [(.int w4), (.ref rl)])) _
    refine X10.iaload hx (j := w4) (v := (.int xx)) (by rw [e10]; exact Ar_rl.1) (State.isArrayOf_alike hZ.alike Ar_rl.2.1) Ar_rl.2.2 hin19 hat19 (g := (mkF m 19 #[.val (.ref a1), .val (.int p2), .val (.int p3)] [(.int w4), (.ref rl)])) rfl rfl (hb hby d3_19) _ ?_
    show Steps p.tables e below (T10.setTop (mkF m 20 #[.val (.ref a1), .val (.int p2), .val (.int p3)] [(.int xx)])) _
    refine XS.iloadN X10.here hx rfl (hb hby d3_20) rfl ?_
    show Steps p.tables e below (T10.setTop (mkF m 21 #[.val (.ref a1), .val (.int p2), .val (.int p3)] [(.int p2), (.int xx)])) _
    refine XS.icmpNo X10.here hx rfl (hb hby d3_21) rfl (flt hc21).1 ?_
    show Steps p.tables e below (T10.setTop (mkF m 24 #[.val (.ref a1), .val (.int p2), .val (.int p3)] [])) _
    refine XS.aloadN X10.here hx rfl (hb hby d3_24) rfl rfl ?_
    show Steps p.tables e below (T10.setTop (mkF m 25 #[.val (.ref a1), .val (.int p2), .val (.int p3)] [(.ref a1)])) _
    refine st12 _ ?_
    show Steps p.tables e below (T12.setTop (mkF m 28 #[.val (.ref a1), .val (.int p2), .val (.int p3)] [(.ref rl)])) _
    refine XS.aloadN X12.here hx rfl (hb hby d3_28) rfl rfl ?_
    show Steps p.tables e below (T12.setTop (mkF m 29 #[.val (.ref a1), .val (.int p2), .val (.int p3)] [(.ref a1), (.ref rl)])) _
    refine st13 _ ?_
    show Steps p.tables e below (T13.setTop (mkF m 32 #[.val (.ref a1), .val (.int p2), .val (.int p3)] [(.int w4), (.ref rl)])) _
    refine X13.iaload hx (j := w4) (v := (.int xx)) (by rw [e13]; exact Ar_rl.1) (State.isArrayOf_alike hZ.alike Ar_rl.2.1) Ar_rl.2.2 hin32 hat32 (g := (mkF m 32 #[.val (.ref a1), .val (.int p2), .val (.int p3)] [(.int w4), (.ref rl)])) rfl rfl (hb hby d3_32) _ ?_
    show Steps p.tables e below (T13.setTop (mkF m 33 #[.val (.ref a1), .val (.int p2), .val (.int p3)] [(.int xx)])) _
    refine XS.iloadN X13.here hx rfl (hb hby d3_33) rfl ?_
    show Steps p.tables e below (T13.setTop (mkF m 34 #[.val (.ref a1), .val (.int p2), .val (.int p3)] [(.int p2), (.int xx)])) _
    refine XS.icmpYes X13.here hx rfl (pc0 := 34) (pc' := 54) rfl (hb hby d3_34) rfl (feq hc34).2 (by decide) (by decide) ?_
    show Steps p.tables e below (T13.setTop (mkF m 54 #[.val (.ref a1), .val (.int p2), .val (.int p3)] [])) _
    refine XS.iconst X13.here hx rfl (hb hby d3_54) ?_
    show Steps p.tables e below (T13.setTop (mkF m 55 #[.val (.ref a1), .val (.int p2), .val (.int p3)] [(.int (0 : Int32))])) _
    exact retN X13 hx (t := .boolean) Bd.returns (by simp) (hb hby d3_55) hr
  · show Q3 Z 0 h0 n0 _ T13.heap _
    rw [e13]
    exact ⟨rfl, N0, rfl⟩
theorem d3_37 : decode prog_54_method_3_code 37 = .ok (.aload_n 0, 1) := by decide +kernel
theorem d3_38 : decode prog_54_method_3_code 38 = .ok (.getfield 13, 3) := by decide +kernel
theorem d3_41 : decode prog_54_method_3_code 41 = .ok (.aload_n 0, 1) := by decide +kernel
theorem d3_42 : decode prog_54_method_3_code 42 = .ok (.getfield 26, 3) := by decide +kernel
theorem d3_45 : decode prog_54_method_3_code 45 = .ok (.iaload, 1) := by decide +kernel
theorem d3_46 : decode prog_54_method_3_code 46 = .ok (.iload_n 2, 1) := by decide +kernel
theorem d3_47 : decode prog_54_method_3_code 47 = .ok (.if_icmp .ge 7, 3) := by decide +kernel
set_option maxRecDepth 65536 in
set_option maxHeartbeats 40000000 in
theorem rm3d (l : Launch) (Z : State) (a0 : Array Value) (hw : ∀ d ∈ tables_1, d.before a0 Z = true) (ws : List Jvm.Cond) (a1 : Addr) (p2 p3 w4 w6 xx yy : Int32) (i : Nat) (VL VC VB : List Value) (h0 : Heap) (n0 : Nat) (Z0 : n0 ≤ h0.size) (H : NP Z h0 n0 a1 w4 w6 VL VC VB) (hi : w4.toNatClampNeg = i) (he0 : ¬ w4 < 0) (he1 : w4 < (1024 : Int32)) (hxx : VL.getD i (.int (0 : Int32)) = .int xx) (hyy : VC.getD i (.int (0 : Int32)) = .int yy) (hc8 : w4 < w6) (hc21 : ¬ (xx < p2)) (hc34 : xx = p2) (hc47 : ¬ (yy < p3)) :
    MetFree l (⟨"overmark/NotedPlaces", "firstBefore", "(II)Z"⟩ : MethodName) (head1 (Jvm.Cond.code (⟨"overmark/NotedPlaces", "firstBefore", "(II)Z"⟩ : MethodName) prog_54_method_3_code 3 (some .boolean) :: ws) ({ frames := 0, cells := 0, slots := 0, locals := 0 } : Room)) (fun a U => a = #[(.ref a1), (.int p2), (.int p3)] ∧ Z.Warmed39 U.vm ∧ U.heap = h0) (fun _ _ _ _ _ => True) (fun _ U o U' => ∃ v L, o = .returned v ∧ Q3 Z 0 h0 n0 v U'.heap L ∧ FrameEnd U o U' L ({ frames := 0, cells := 0, slots := 0, locals := 0 } : Room).cells ({ frames := 0, cells := 0, slots := 0, locals := 0 } : Room).slots) := by
  refine MetFree.of_bodySF (plainFor_of_name pn_3) hisR ?_
  intro p e s m args below meth c s₁ Bd hml0 hP hK
  obtain ⟨rfl, hZ, hh⟩ := hP
  have hx := Bd.exec
  have hby := Bd.bytes
  have hml : c.maxLocals = 3 := hml0
  have hown : s.vm.findClass "overmark/NotedPlaces" = some m.cls := findClass_of_methodNamed Bd.named
  have hnm := (name_of_methodNamed Bd.named Bd.method).1
  have X0 : Stand p l e ({ frames := 0, cells := 0, slots := 0, locals := 0 } : Room) s m #[(.ref a1), (.int p2), (.int p3)] below meth c s₁ [] 0 0 := Stand.of_body Bd
  have e0 : s₁.heap = h0 := by rw [← hh, Bd.state]; rfl
  have N0 := Fr.nil n0
  obtain ⟨rl, rc, rb, kl, kc, kb, E_a1, F_lines_a1, F_columns_a1, F_labels_a1, F_first_a1, F_end_a1, V10, V11, V15, g_a1, g_w10, g_w11, g_w15, ne1, ne2, ne3, ne4, ne5, ne6⟩ := H
  obtain ⟨cl_rl, Ar_rl, q6, S_rl, N_rl, H6, G6⟩ := V10
  obtain ⟨cl_rc, Ar_rc, q11, S_rc, N_rc, H11, G11⟩ := V11
  have hin19 : ¬ (w4 < 0 ∨ cl_rl.slots.size ≤ (w4).toNatClampNeg) := inb_of S_rl ⟨he0, he1⟩
  have hin32 := hin19
  have hin45 : ¬ (w4 < 0 ∨ cl_rc.slots.size ≤ (w4).toNatClampNeg) := inb_of S_rc ⟨he0, he1⟩
  have hat19 : cl_rl.slots[(w4).toNatClampNeg]? = some (.int xx) := H6.at hin19 (by rw [hi]; exact hxx)
  have hat32 := hat19
  have hat45 : cl_rc.slots[(w4).toNatClampNeg]? = some (.int yy) := H11.at hin45 (by rw [hi]; exact hyy)
  have pre0 : ∀ t, Steps p.tables e below (s₁.setTop (mkF m 0 #[.val (.ref a1), .val (.int p2), .val (.int p3)] [])) t → Steps p.tables e below (s₁.setTop (entryFrame m #[(.ref a1), (.int p2), (.int p3)] 3)) t := fun t k => castTop (ef_3 m a1 p2 p3) k
  obtain ⟨T5, X5, e5, st5⟩ := getF X0 hx hZ hown (host := "") (Or.inl (hw _ (List.mem_of_getElem? (i := 23) rfl))) Via.refl e0 F_first_a1 (g := (mkF m 1 #[.val (.ref a1), .val (.int p2), .val (.int p3)] [(.ref a1)])) rfl rfl (hb hby d3_1)
  obtain ⟨T7, X7, e7, st7⟩ := getF X5 hx hZ hown (host := "") (Or.inl (hw _ (List.mem_of_getElem? (i := 25) rfl))) Via.refl e5 F_end_a1 (g := (mkF m 5 #[.val (.ref a1), .val (.int p2), .val (.int p3)] [(.ref a1), (.int w4)])) rfl rfl (hb hby d3_5)
  obtain ⟨T9, X9, e9, st9⟩ := getF X7 hx hZ hown (host := "") (Or.inl (hw _ (List.mem_of_getElem? (i := 10) rfl))) Via.refl e7 F_lines_a1 (g := (mkF m 12 #[.val (.ref a1), .val (.int p2), .val (.int p3)] [(.ref a1)])) rfl rfl (hb hby d3_12)
  obtain ⟨T10, X10, e10, st10⟩ := getF X9 hx hZ hown (host := "") (Or.inl (hw _ (List.mem_of_getElem? (i := 23) rfl))) Via.refl e9 F_first_a1 (g := (mkF m 16 #[.val (.ref a1), .val (.int p2), .val (.int p3)] [(.ref a1), (.ref rl)])) rfl rfl (hb hby d3_16)
  obtain ⟨T12, X12, e12, st12⟩ := getF X10 hx hZ hown (host := "") (Or.inl (hw _ (List.mem_of_getElem? (i := 10) rfl))) Via.refl e10 F_lines_a1 (g := (mkF m 25 #[.val (.ref a1), .val (.int p2), .val (.int p3)] [(.ref a1)])) rfl rfl (hb hby d3_25)
  obtain ⟨T13, X13, e13, st13⟩ := getF X12 hx hZ hown (host := "") (Or.inl (hw _ (List.mem_of_getElem? (i := 23) rfl))) Via.refl e12 F_first_a1 (g := (mkF m 29 #[.val (.ref a1), .val (.int p2), .val (.int p3)] [(.ref a1), (.ref rl)])) rfl rfl (hb hby d3_29)
  obtain ⟨T16, X16, e16, st16⟩ := getF X13 hx hZ hown (host := "") (Or.inl (hw _ (List.mem_of_getElem? (i := 12) rfl))) Via.refl e13 F_columns_a1 (g := (mkF m 38 #[.val (.ref a1), .val (.int p2), .val (.int p3)] [(.ref a1)])) rfl rfl (hb hby d3_38)
  obtain ⟨T17, X17, e17, st17⟩ := getF X16 hx hZ hown (host := "") (Or.inl (hw _ (List.mem_of_getElem? (i := 23) rfl))) Via.refl e16 F_first_a1 (g := (mkF m 42 #[.val (.ref a1), .val (.int p2), .val (.int p3)] [(.ref a1), (.ref rc)])) rfl rfl (hb hby d3_42)
  obtain ⟨fs, hr, hrun, hended, hW, hsame⟩ := X17.leave (v := some (.int (0 : Int32))) (fun h => by rw [Bd.returns] at h; cases h)
  refine ⟨_, _, pre0 _ ?_, hrun, hended, _, _, rfl, ?_, ⟨_, rfl⟩, hW, hsame.mono (by decide) (by decide)⟩
  · show Steps p.tables e below (s₁.setTop (mkF m 0 #[.val (.ref a1), .val (.int p2), .val (.int p3)] [])) _
    refine XS.aloadN X0.here hx rfl (hb hby d3_0) rfl rfl ?_
    show Steps p.tables e below (s₁.setTop (mkF m 1 #[.val (.ref a1), .val (.int p2), .val (.int p3)] [(.ref a1)])) _
    refine st5 _ ?_
    show Steps p.tables e below (T5.setTop (mkF m 4 #[.val (.ref a1), .val (.int p2), .val (.int p3)] [(.int w4)])) _
    refine XS.aloadN X5.here hx rfl (hb hby d3_4) rfl rfl ?_
    show Steps p.tables e below (T5.setTop (mkF m 5 #[.val (.ref a1), .val (.int p2), .val (.int p3)] [(.ref a1), (.int w4)])) _
    refine st7 _ ?_
    show Steps p.tables e below (T7.setTop (mkF m 8 #[.val (.ref a1), .val (.int p2), .val (.int p3)] [(.int w6), (.int w4)])) _
    refine XS.icmpNo X7.here hx rfl (hb hby d3_8) rfl (tlt hc8).2.1 ?_
    show Steps p.tables e below (T7.setTop (mkF m 11 #[.val (.ref a1), .val (.int p2), .val (.int p3)] [])) _
    refine XS.aloadN X7.here hx rfl (hb hby d3_11) rfl rfl ?_
    show Steps p.tables e below (T7.setTop (mkF m 12 #[.val (.ref a1), .val (.int p2), .val (.int p3)] [(.ref a1)])) _
    refine st9 _ ?_
    show Steps p.tables e below (T9.setTop (mkF m 15 #[.val (.ref a1), .val (.int p2), .val (.int p3)] [(.ref rl)])) _
    refine XS.aloadN X9.here hx rfl (hb hby d3_15) rfl rfl ?_
    show Steps p.tables e below (T9.setTop (mkF m 16 #[.val (.ref a1), .val (.int p2), .val (.int p3)] [(.ref a1), (.ref rl)])) _
    refine st10 _ ?_
    show Steps p.tables e below (T10.setTop (mkF m 19 #[.val (.ref a1), .val (.int p2), .val (.int p3)] [(.int w4), (.ref rl)])) _
    refine X10.iaload hx (j := w4) (v := (.int xx)) (by rw [e10]; exact Ar_rl.1) (State.isArrayOf_alike hZ.alike Ar_rl.2.1) Ar_rl.2.2 hin19 hat19 (g := (mkF m 19 #[.val (.ref a1), .val (.int p2), .val (.int p3)] [(.int w4), (.ref rl)])) rfl rfl (hb hby d3_19) _ ?_
    show Steps p.tables e below (T10.setTop (mkF m 20 #[.val (.ref a1), .val (.int p2), .val (.int p3)] [(.int xx)])) _
    refine XS.iloadN X10.here hx rfl (hb hby d3_20) rfl ?_
    show Steps p.tables e below (T10.setTop (mkF m 21 #[.val (.ref a1), .val (.int p2), .val (.int p3)] [(.int p2), (.int xx)])) _
    refine XS.icmpNo X10.here hx rfl (hb hby d3_21) rfl (flt hc21).1 ?_
    show Steps p.tables e below (T10.setTop (mkF m 24 #[.val (.ref a1), .val (.int p2), .val (.int p3)] [])) _
    refine XS.aloadN X10.here hx rfl (hb hby d3_24) rfl rfl ?_
    show Steps p.tables e below (T10.setTop (mkF m 25 #[.val (.ref a1), .val (.int p2), .val (.int p3)] [(.ref a1)])) _
    refine st12 _ ?_
    show Steps p.tables e below (T12.setTop (mkF m 28 #[.val (.ref a1), .val (.int p2), .val (.int p3)] [(.ref rl)])) _
    refine XS.aloadN X12.here hx rfl (hb hby d3_28) rfl rfl ?_
    show Steps p.tables e below (T12.setTop (mkF m 29 #[.val (.ref a1), .val (.int p2), .val (.int p3)] [(.ref a1), (.ref rl)])) _
    refine st13 _ ?_
    show Steps p.tables e below (T13.setTop (mkF m 32 #[.val (.ref a1), .val (.int p2), .val (.int p3)] [(.int w4), (.ref rl)])) _
    refine X13.iaload hx (j := w4) (v := (.int xx)) (by rw [e13]; exact Ar_rl.1) (State.isArrayOf_alike hZ.alike Ar_rl.2.1) Ar_rl.2.2 hin32 hat32 (g := (mkF m 32 #[.val (.ref a1), .val (.int p2), .val (.int p3)] [(.int w4), (.ref rl)])) rfl rfl (hb hby d3_32) _ ?_
    show Steps p.tables e below (T13.setTop (mkF m 33 #[.val (.ref a1), .val (.int p2), .val (.int p3)] [(.int xx)])) _
    refine XS.iloadN X13.here hx rfl (hb hby d3_33) rfl ?_
    show Steps p.tables e below (T13.setTop (mkF m 34 #[.val (.ref a1), .val (.int p2), .val (.int p3)] [(.int p2), (.int xx)])) _
    refine XS.icmpNo X13.here hx rfl (hb hby d3_34) rfl (teq hc34).2 ?_
    show Steps p.tables e below (T13.setTop (mkF m 37 #[.val (.ref a1), .val (.int p2), .val (.int p3)] [])) _
    refine XS.aloadN X13.here hx rfl (hb hby d3_37) rfl rfl ?_
    show Steps p.tables e below (T13.setTop (mkF m 38 #[.val (.ref a1), .val (.int p2), .val (.int p3)] [(.ref a1)])) _
    refine st16 _ ?_
    show Steps p.tables e below (T16.setTop (mkF m 41 #[.val (.ref a1), .val (.int p2), .val (.int p3)] [(.ref rc)])) _
    refine XS.aloadN X16.here hx rfl (hb hby d3_41) rfl rfl ?_
    show Steps p.tables e below (T16.setTop (mkF m 42 #[.val (.ref a1), .val (.int p2), .val (.int p3)] [(.ref a1), (.ref rc)])) _
    refine st17 _ ?_
    show Steps p.tables e below (T17.setTop (mkF m 45 #[.val (.ref a1), .val (.int p2), .val (.int p3)] [(.int w4), (.ref rc)])) _
    refine X17.iaload hx (j := w4) (v := (.int yy)) (by rw [e17]; exact Ar_rc.1) (State.isArrayOf_alike hZ.alike Ar_rc.2.1) Ar_rc.2.2 hin45 hat45 (g := (mkF m 45 #[.val (.ref a1), .val (.int p2), .val (.int p3)] [(.int w4), (.ref rc)])) rfl rfl (hb hby d3_45) _ ?_
    show Steps p.tables e below (T17.setTop (mkF m 46 #[.val (.ref a1), .val (.int p2), .val (.int p3)] [(.int yy)])) _
    refine XS.iloadN X17.here hx rfl (hb hby d3_46) rfl ?_
    show Steps p.tables e below (T17.setTop (mkF m 47 #[.val (.ref a1), .val (.int p2), .val (.int p3)] [(.int p3), (.int yy)])) _
    refine XS.icmpYes X17.here hx rfl (pc0 := 47) (pc' := 54) rfl (hb hby d3_47) rfl (flt hc47).2.1 (by decide) (by decide) ?_
    show Steps p.tables e below (T17.setTop (mkF m 54 #[.val (.ref a1), .val (.int p2), .val (.int p3)] [])) _
    refine XS.iconst X17.here hx rfl (hb hby d3_54) ?_
    show Steps p.tables e below (T17.setTop (mkF m 55 #[.val (.ref a1), .val (.int p2), .val (.int p3)] [(.int (0 : Int32))])) _
    exact retN X17 hx (t := .boolean) Bd.returns (by simp) (hb hby d3_55) hr
  · show Q3 Z 0 h0 n0 _ T17.heap _
    rw [e17]
    exact ⟨rfl, N0, rfl⟩
set_option maxRecDepth 65536 in
set_option maxHeartbeats 40000000 in
theorem rm3e (l : Launch) (Z : State) (a0 : Array Value) (hw : ∀ d ∈ tables_1, d.before a0 Z = true) (ws : List Jvm.Cond) (a1 : Addr) (p2 p3 w4 w6 xx yy : Int32) (i : Nat) (VL VC VB : List Value) (h0 : Heap) (n0 : Nat) (Z0 : n0 ≤ h0.size) (H : NP Z h0 n0 a1 w4 w6 VL VC VB) (hi : w4.toNatClampNeg = i) (he0 : ¬ w4 < 0) (he1 : w4 < (1024 : Int32)) (hxx : VL.getD i (.int (0 : Int32)) = .int xx) (hyy : VC.getD i (.int (0 : Int32)) = .int yy) (hc8 : w4 < w6) (hc21 : ¬ (xx < p2)) (hc34 : xx = p2) (hc47 : yy < p3) :
    MetFree l (⟨"overmark/NotedPlaces", "firstBefore", "(II)Z"⟩ : MethodName) (head1 (Jvm.Cond.code (⟨"overmark/NotedPlaces", "firstBefore", "(II)Z"⟩ : MethodName) prog_54_method_3_code 3 (some .boolean) :: ws) ({ frames := 0, cells := 0, slots := 0, locals := 0 } : Room)) (fun a U => a = #[(.ref a1), (.int p2), (.int p3)] ∧ Z.Warmed39 U.vm ∧ U.heap = h0) (fun _ _ _ _ _ => True) (fun _ U o U' => ∃ v L, o = .returned v ∧ Q3 Z 1 h0 n0 v U'.heap L ∧ FrameEnd U o U' L ({ frames := 0, cells := 0, slots := 0, locals := 0 } : Room).cells ({ frames := 0, cells := 0, slots := 0, locals := 0 } : Room).slots) := by
  refine MetFree.of_bodySF (plainFor_of_name pn_3) hisR ?_
  intro p e s m args below meth c s₁ Bd hml0 hP hK
  obtain ⟨rfl, hZ, hh⟩ := hP
  have hx := Bd.exec
  have hby := Bd.bytes
  have hml : c.maxLocals = 3 := hml0
  have hown : s.vm.findClass "overmark/NotedPlaces" = some m.cls := findClass_of_methodNamed Bd.named
  have hnm := (name_of_methodNamed Bd.named Bd.method).1
  have X0 : Stand p l e ({ frames := 0, cells := 0, slots := 0, locals := 0 } : Room) s m #[(.ref a1), (.int p2), (.int p3)] below meth c s₁ [] 0 0 := Stand.of_body Bd
  have e0 : s₁.heap = h0 := by rw [← hh, Bd.state]; rfl
  have N0 := Fr.nil n0
  obtain ⟨rl, rc, rb, kl, kc, kb, E_a1, F_lines_a1, F_columns_a1, F_labels_a1, F_first_a1, F_end_a1, V10, V11, V15, g_a1, g_w10, g_w11, g_w15, ne1, ne2, ne3, ne4, ne5, ne6⟩ := H
  obtain ⟨cl_rl, Ar_rl, q6, S_rl, N_rl, H6, G6⟩ := V10
  obtain ⟨cl_rc, Ar_rc, q11, S_rc, N_rc, H11, G11⟩ := V11
  have hin19 : ¬ (w4 < 0 ∨ cl_rl.slots.size ≤ (w4).toNatClampNeg) := inb_of S_rl ⟨he0, he1⟩
  have hin32 := hin19
  have hin45 : ¬ (w4 < 0 ∨ cl_rc.slots.size ≤ (w4).toNatClampNeg) := inb_of S_rc ⟨he0, he1⟩
  have hat19 : cl_rl.slots[(w4).toNatClampNeg]? = some (.int xx) := H6.at hin19 (by rw [hi]; exact hxx)
  have hat32 := hat19
  have hat45 : cl_rc.slots[(w4).toNatClampNeg]? = some (.int yy) := H11.at hin45 (by rw [hi]; exact hyy)
  have pre0 : ∀ t, Steps p.tables e below (s₁.setTop (mkF m 0 #[.val (.ref a1), .val (.int p2), .val (.int p3)] [])) t → Steps p.tables e below (s₁.setTop (entryFrame m #[(.ref a1), (.int p2), (.int p3)] 3)) t := fun t k => castTop (ef_3 m a1 p2 p3) k
  obtain ⟨T5, X5, e5, st5⟩ := getF X0 hx hZ hown (host := "") (Or.inl (hw _ (List.mem_of_getElem? (i := 23) rfl))) Via.refl e0 F_first_a1 (g := (mkF m 1 #[.val (.ref a1), .val (.int p2), .val (.int p3)] [(.ref a1)])) rfl rfl (hb hby d3_1)
  obtain ⟨T7, X7, e7, st7⟩ := getF X5 hx hZ hown (host := "") (Or.inl (hw _ (List.mem_of_getElem? (i := 25) rfl))) Via.refl e5 F_end_a1 (g := (mkF m 5 #[.val (.ref a1), .val (.int p2), .val (.int p3)] [(.ref a1), (.int w4)])) rfl rfl (hb hby d3_5)
  obtain ⟨T9, X9, e9, st9⟩ := getF X7 hx hZ hown (host := "") (Or.inl (hw _ (List.mem_of_getElem? (i := 10) rfl))) Via.refl e7 F_lines_a1 (g := (mkF m 12 #[.val (.ref a1), .val (.int p2), .val (.int p3)] [(.ref a1)])) rfl rfl (hb hby d3_12)
  obtain ⟨T10, X10, e10, st10⟩ := getF X9 hx hZ hown (host := "") (Or.inl (hw _ (List.mem_of_getElem? (i := 23) rfl))) Via.refl e9 F_first_a1 (g := (mkF m 16 #[.val (.ref a1), .val (.int p2), .val (.int p3)] [(.ref a1), (.ref rl)])) rfl rfl (hb hby d3_16)
  obtain ⟨T12, X12, e12, st12⟩ := getF X10 hx hZ hown (host := "") (Or.inl (hw _ (List.mem_of_getElem? (i := 10) rfl))) Via.refl e10 F_lines_a1 (g := (mkF m 25 #[.val (.ref a1), .val (.int p2), .val (.int p3)] [(.ref a1)])) rfl rfl (hb hby d3_25)
  obtain ⟨T13, X13, e13, st13⟩ := getF X12 hx hZ hown (host := "") (Or.inl (hw _ (List.mem_of_getElem? (i := 23) rfl))) Via.refl e12 F_first_a1 (g := (mkF m 29 #[.val (.ref a1), .val (.int p2), .val (.int p3)] [(.ref a1), (.ref rl)])) rfl rfl (hb hby d3_29)
  obtain ⟨T16, X16, e16, st16⟩ := getF X13 hx hZ hown (host := "") (Or.inl (hw _ (List.mem_of_getElem? (i := 12) rfl))) Via.refl e13 F_columns_a1 (g := (mkF m 38 #[.val (.ref a1), .val (.int p2), .val (.int p3)] [(.ref a1)])) rfl rfl (hb hby d3_38)
  obtain ⟨T17, X17, e17, st17⟩ := getF X16 hx hZ hown (host := "") (Or.inl (hw _ (List.mem_of_getElem? (i := 23) rfl))) Via.refl e16 F_first_a1 (g := (mkF m 42 #[.val (.ref a1), .val (.int p2), .val (.int p3)] [(.ref a1), (.ref rc)])) rfl rfl (hb hby d3_42)
  obtain ⟨fs, hr, hrun, hended, hW, hsame⟩ := X17.leave (v := some (.int (1 : Int32))) (fun h => by rw [Bd.returns] at h; cases h)
  refine ⟨_, _, pre0 _ ?_, hrun, hended, _, _, rfl, ?_, ⟨_, rfl⟩, hW, hsame.mono (by decide) (by decide)⟩
  · show Steps p.tables e below (s₁.setTop (mkF m 0 #[.val (.ref a1), .val (.int p2), .val (.int p3)] [])) _
    refine XS.aloadN X0.here hx rfl (hb hby d3_0) rfl rfl ?_
    show Steps p.tables e below (s₁.setTop (mkF m 1 #[.val (.ref a1), .val (.int p2), .val (.int p3)] [(.ref a1)])) _
    refine st5 _ ?_
    show Steps p.tables e below (T5.setTop (mkF m 4 #[.val (.ref a1), .val (.int p2), .val (.int p3)] [(.int w4)])) _
    refine XS.aloadN X5.here hx rfl (hb hby d3_4) rfl rfl ?_
    show Steps p.tables e below (T5.setTop (mkF m 5 #[.val (.ref a1), .val (.int p2), .val (.int p3)] [(.ref a1), (.int w4)])) _
    refine st7 _ ?_
    show Steps p.tables e below (T7.setTop (mkF m 8 #[.val (.ref a1), .val (.int p2), .val (.int p3)] [(.int w6), (.int w4)])) _
    refine XS.icmpNo X7.here hx rfl (hb hby d3_8) rfl (tlt hc8).2.1 ?_
    show Steps p.tables e below (T7.setTop (mkF m 11 #[.val (.ref a1), .val (.int p2), .val (.int p3)] [])) _
    refine XS.aloadN X7.here hx rfl (hb hby d3_11) rfl rfl ?_
    show Steps p.tables e below (T7.setTop (mkF m 12 #[.val (.ref a1), .val (.int p2), .val (.int p3)] [(.ref a1)])) _
    refine st9 _ ?_
    show Steps p.tables e below (T9.setTop (mkF m 15 #[.val (.ref a1), .val (.int p2), .val (.int p3)] [(.ref rl)])) _
    refine XS.aloadN X9.here hx rfl (hb hby d3_15) rfl rfl ?_
    show Steps p.tables e below (T9.setTop (mkF m 16 #[.val (.ref a1), .val (.int p2), .val (.int p3)] [(.ref a1), (.ref rl)])) _
    refine st10 _ ?_
    show Steps p.tables e below (T10.setTop (mkF m 19 #[.val (.ref a1), .val (.int p2), .val (.int p3)] [(.int w4), (.ref rl)])) _
    refine X10.iaload hx (j := w4) (v := (.int xx)) (by rw [e10]; exact Ar_rl.1) (State.isArrayOf_alike hZ.alike Ar_rl.2.1) Ar_rl.2.2 hin19 hat19 (g := (mkF m 19 #[.val (.ref a1), .val (.int p2), .val (.int p3)] [(.int w4), (.ref rl)])) rfl rfl (hb hby d3_19) _ ?_
    show Steps p.tables e below (T10.setTop (mkF m 20 #[.val (.ref a1), .val (.int p2), .val (.int p3)] [(.int xx)])) _
    refine XS.iloadN X10.here hx rfl (hb hby d3_20) rfl ?_
    show Steps p.tables e below (T10.setTop (mkF m 21 #[.val (.ref a1), .val (.int p2), .val (.int p3)] [(.int p2), (.int xx)])) _
    refine XS.icmpNo X10.here hx rfl (hb hby d3_21) rfl (flt hc21).1 ?_
    show Steps p.tables e below (T10.setTop (mkF m 24 #[.val (.ref a1), .val (.int p2), .val (.int p3)] [])) _
    refine XS.aloadN X10.here hx rfl (hb hby d3_24) rfl rfl ?_
    show Steps p.tables e below (T10.setTop (mkF m 25 #[.val (.ref a1), .val (.int p2), .val (.int p3)] [(.ref a1)])) _
    refine st12 _ ?_
    show Steps p.tables e below (T12.setTop (mkF m 28 #[.val (.ref a1), .val (.int p2), .val (.int p3)] [(.ref rl)])) _
    refine XS.aloadN X12.here hx rfl (hb hby d3_28) rfl rfl ?_
    show Steps p.tables e below (T12.setTop (mkF m 29 #[.val (.ref a1), .val (.int p2), .val (.int p3)] [(.ref a1), (.ref rl)])) _
    refine st13 _ ?_
    show Steps p.tables e below (T13.setTop (mkF m 32 #[.val (.ref a1), .val (.int p2), .val (.int p3)] [(.int w4), (.ref rl)])) _
    refine X13.iaload hx (j := w4) (v := (.int xx)) (by rw [e13]; exact Ar_rl.1) (State.isArrayOf_alike hZ.alike Ar_rl.2.1) Ar_rl.2.2 hin32 hat32 (g := (mkF m 32 #[.val (.ref a1), .val (.int p2), .val (.int p3)] [(.int w4), (.ref rl)])) rfl rfl (hb hby d3_32) _ ?_
    show Steps p.tables e below (T13.setTop (mkF m 33 #[.val (.ref a1), .val (.int p2), .val (.int p3)] [(.int xx)])) _
    refine XS.iloadN X13.here hx rfl (hb hby d3_33) rfl ?_
    show Steps p.tables e below (T13.setTop (mkF m 34 #[.val (.ref a1), .val (.int p2), .val (.int p3)] [(.int p2), (.int xx)])) _
    refine XS.icmpNo X13.here hx rfl (hb hby d3_34) rfl (teq hc34).2 ?_
    show Steps p.tables e below (T13.setTop (mkF m 37 #[.val (.ref a1), .val (.int p2), .val (.int p3)] [])) _
    refine XS.aloadN X13.here hx rfl (hb hby d3_37) rfl rfl ?_
    show Steps p.tables e below (T13.setTop (mkF m 38 #[.val (.ref a1), .val (.int p2), .val (.int p3)] [(.ref a1)])) _
    refine st16 _ ?_
    show Steps p.tables e below (T16.setTop (mkF m 41 #[.val (.ref a1), .val (.int p2), .val (.int p3)] [(.ref rc)])) _
    refine XS.aloadN X16.here hx rfl (hb hby d3_41) rfl rfl ?_
    show Steps p.tables e below (T16.setTop (mkF m 42 #[.val (.ref a1), .val (.int p2), .val (.int p3)] [(.ref a1), (.ref rc)])) _
    refine st17 _ ?_
    show Steps p.tables e below (T17.setTop (mkF m 45 #[.val (.ref a1), .val (.int p2), .val (.int p3)] [(.int w4), (.ref rc)])) _
    refine X17.iaload hx (j := w4) (v := (.int yy)) (by rw [e17]; exact Ar_rc.1) (State.isArrayOf_alike hZ.alike Ar_rc.2.1) Ar_rc.2.2 hin45 hat45 (g := (mkF m 45 #[.val (.ref a1), .val (.int p2), .val (.int p3)] [(.int w4), (.ref rc)])) rfl rfl (hb hby d3_45) _ ?_
    show Steps p.tables e below (T17.setTop (mkF m 46 #[.val (.ref a1), .val (.int p2), .val (.int p3)] [(.int yy)])) _
    refine XS.iloadN X17.here hx rfl (hb hby d3_46) rfl ?_
    show Steps p.tables e below (T17.setTop (mkF m 47 #[.val (.ref a1), .val (.int p2), .val (.int p3)] [(.int p3), (.int yy)])) _
    refine XS.icmpNo X17.here hx rfl (hb hby d3_47) rfl (tlt hc47).2.1 ?_
    show Steps p.tables e below (T17.setTop (mkF m 50 #[.val (.ref a1), .val (.int p2), .val (.int p3)] [])) _
    refine XS.iconst X17.here hx rfl (hb hby d3_50) ?_
    show Steps p.tables e below (T17.setTop (mkF m 51 #[.val (.ref a1), .val (.int p2), .val (.int p3)] [(.int (1 : Int32))])) _
    refine XS.goto X17.here hx rfl (pc0 := 51) (pc' := 55) rfl (hb hby d3_51) (by decide) (by decide) ?_
    show Steps p.tables e below (T17.setTop (mkF m 55 #[.val (.ref a1), .val (.int p2), .val (.int p3)] [(.int (1 : Int32))])) _
    exact retN X17 hx (t := .boolean) Bd.returns (by simp) (hb hby d3_55) hr
  · show Q3 Z 1 h0 n0 _ T17.heap _
    rw [e17]
    exact ⟨rfl, N0, rfl⟩
theorem rm3 (l : Launch) (Z : State) (a0 : Array Value) (hw : ∀ d ∈ tables_1, d.before a0 Z = true) (ws : List Jvm.Cond) (a1 : Addr) (p2 p3 w4 w6 xx yy : Int32) (i : Nat) (VL VC VB : List Value) (h0 : Heap) (n0 : Nat) (Z0 : n0 ≤ h0.size) (H : NP Z h0 n0 a1 w4 w6 VL VC VB) (hi : w4.toNatClampNeg = i) (he0 : ¬ w4 < 0) (he1 : w4 < (1024 : Int32)) (hxx : VL.getD i (.int (0 : Int32)) = .int xx) (hyy : VC.getD i (.int (0 : Int32)) = .int yy) :
    MetFree l (⟨"overmark/NotedPlaces", "firstBefore", "(II)Z"⟩ : MethodName) (head1 (Jvm.Cond.code (⟨"overmark/NotedPlaces", "firstBefore", "(II)Z"⟩ : MethodName) prog_54_method_3_code 3 (some .boolean) :: ws) ({ frames := 0, cells := 0, slots := 0, locals := 0 } : Room)) (fun a U => a = #[(.ref a1), (.int p2), (.int p3)] ∧ Z.Warmed39 U.vm ∧ U.heap = h0) (fun _ _ _ _ _ => True) (fun _ U o U' => ∃ v L, o = .returned v ∧ Q3 Z (own_fb w4 w6 xx yy p2 p3) h0 n0 v U'.heap L ∧ FrameEnd U o U' L ({ frames := 0, cells := 0, slots := 0, locals := 0 } : Room).cells ({ frames := 0, cells := 0, slots := 0, locals := 0 } : Room).slots) := by
  unfold own_fb
  by_cases h8 : w4 < w6
  · rw [if_pos h8]
    by_cases h21 : xx < p2
    · rw [if_pos h21]; exact rm3b l Z a0 hw ws a1 p2 p3 w4 w6 xx yy i VL VC VB h0 n0 Z0 H hi he0 he1 hxx hyy h8 h21
    · rw [if_neg h21]
      by_cases h34 : xx = p2
      · rw [if_pos h34]
        by_cases h47 : yy < p3
        · rw [if_pos h47]; exact rm3e l Z a0 hw ws a1 p2 p3 w4 w6 xx yy i VL VC VB h0 n0 Z0 H hi he0 he1 hxx hyy h8 h21 h34 h47
        · rw [if_neg h47]; exact rm3d l Z a0 hw ws a1 p2 p3 w4 w6 xx yy i VL VC VB h0 n0 Z0 H hi he0 he1 hxx hyy h8 h21 h34 h47
      · rw [if_neg h34]; exact rm3c l Z a0 hw ws a1 p2 p3 w4 w6 xx yy i VL VC VB h0 n0 Z0 H hi he0 he1 hxx hyy h8 h21 h34
  · rw [if_neg h8]; exact rm3a l Z a0 hw ws a1 p2 p3 w4 w6 xx yy i VL VC VB h0 n0 Z0 H hi he0 he1 hxx hyy h8
theorem d6_0 : decode method_2_code 0 = .ok (.iload_n 0, 1) := by decide +kernel
theorem d6_1 : decode method_2_code 1 = .ok (.i2l, 1) := by decide +kernel
theorem d6_2 : decode method_2_code 2 = .ok (.bipush 32, 2) := by decide +kernel
theorem d6_4 : decode method_2_code 4 = .ok (.lshl, 1) := by decide +kernel
theorem d6_5 : decode method_2_code 5 = .ok (.iload_n 1, 1) := by decide +kernel
theorem d6_6 : decode method_2_code 6 = .ok (.i2l, 1) := by decide +kernel
theorem d6_7 : decode method_2_code 7 = .ok (.ldc2_w 7, 3) := by decide +kernel
theorem d6_10 : decode method_2_code 10 = .ok (.ladd, 1) := by decide +kernel
theorem d6_11 : decode method_2_code 11 = .ok (.ladd, 1) := by decide +kernel
theorem d6_12 : decode method_2_code 12 = .ok (.lreturn, 1) := by decide +kernel
theorem pn_6 : plainName "overmark/NotedPlacesFirstBeforePinLaw" = true := by first | (simp [plainName, overriddenIn]; done) | decide +kernel
theorem ef_6 (m : MethodId) (x0 : Int32) (x1 : Int32) : entryFrame m #[(.int x0), (.int x1)] 2 = mkF m 0 #[.val (.int x0), .val (.int x1)] [] := by first | (simp [entryFrame, mkF, argsToLocals, Value.category]; done) | rfl
def Q6 (Z : State) (p1 : Int32) (p2 : Int32) (h0 : Heap) (n0 : Nat) (v : Option Value) (h : Heap) (L : List Loc) : Prop := v = some (.long (own_key p1 p2)) ∧ Fr n0 L ∧ h = h0
set_option maxRecDepth 65536 in
set_option maxHeartbeats 40000000 in
theorem rm6 (l : Launch) (Z : State) (a0 : Array Value) (hw : ∀ d ∈ tables_1, d.before a0 Z = true) (ws : List Jvm.Cond) (p1 : Int32) (p2 : Int32) (h0 : Heap) (n0 : Nat) (Z0 : n0 ≤ h0.size) :
    MetFree l (⟨"overmark/NotedPlacesFirstBeforePinLaw", "key", "(II)J"⟩ : MethodName) (head1 (Jvm.Cond.code (⟨"overmark/NotedPlacesFirstBeforePinLaw", "key", "(II)J"⟩ : MethodName) method_2_code 2 (some .long) :: ws) ({ frames := 0, cells := 0, slots := 0, locals := 0 } : Room)) (fun a U => a = #[(.int p1), (.int p2)] ∧ Z.Warmed39 U.vm ∧ U.heap = h0) (fun _ _ _ _ _ => True) (fun _ U o U' => ∃ v L, o = .returned v ∧ Q6 Z p1 p2 h0 n0 v U'.heap L ∧ FrameEnd U o U' L ({ frames := 0, cells := 0, slots := 0, locals := 0 } : Room).cells ({ frames := 0, cells := 0, slots := 0, locals := 0 } : Room).slots) := by
  refine MetFree.of_bodySF (plainFor_of_name pn_6) hisR ?_
  intro p e s m args below meth c s₁ Bd hml0 hP hK
  obtain ⟨rfl, hZ, hh⟩ := hP
  have hx := Bd.exec
  have hby := Bd.bytes
  have hml : c.maxLocals = 2 := hml0
  have hown : s.vm.findClass "overmark/NotedPlacesFirstBeforePinLaw" = some m.cls := findClass_of_methodNamed Bd.named
  have hnm := (name_of_methodNamed Bd.named Bd.method).1
  have X0 : Stand p l e ({ frames := 0, cells := 0, slots := 0, locals := 0 } : Room) s m #[(.int p1), (.int p2)] below meth c s₁ [] 0 0 := Stand.of_body Bd
  have e0 : s₁.heap = h0 := by rw [← hh, Bd.state]; rfl
  have N0 := Fr.nil n0
  have pre0 : ∀ t, Steps p.tables e below (s₁.setTop (mkF m 0 #[.val (.int p1), .val (.int p2)] [])) t → Steps p.tables e below (s₁.setTop (entryFrame m #[(.int p1), (.int p2)] 2)) t := fun t k => castTop (ef_6 m p1 p2) k
  obtain ⟨fs, hr, hrun, hended, hW, hsame⟩ := X0.leave (v := some (.long (own_key p1 p2))) (fun h => by rw [Bd.returns] at h; cases h)
  refine ⟨_, _, pre0 _ ?_, hrun, hended, _, _, rfl, ?_, ⟨_, rfl⟩, hW, hsame.mono (by decide) (by decide)⟩
  · show Steps p.tables e below (s₁.setTop (mkF m 0 #[.val (.int p1), .val (.int p2)] [])) _
    refine XS.iloadN X0.here hx rfl (hb hby d6_0) rfl ?_
    show Steps p.tables e below (s₁.setTop (mkF m 1 #[.val (.int p1), .val (.int p2)] [(.int p1)])) _
    refine XS.i2l X0.here hx rfl (hb hby d6_1) rfl ?_
    show Steps p.tables e below (s₁.setTop (mkF m 2 #[.val (.int p1), .val (.int p2)] [(.long (p1.toInt64))])) _
    refine XS.bipush X0.here hx rfl (hb hby d6_2) ?_
    show Steps p.tables e below (s₁.setTop (mkF m 4 #[.val (.int p1), .val (.int p2)] [(.int (32 : Int32)), (.long (p1.toInt64))])) _
    refine XS.lshl X0.here hx rfl (hb hby d6_4) rfl ?_
    show Steps p.tables e below (s₁.setTop (mkF m 5 #[.val (.int p1), .val (.int p2)] [(.long ((p1.toInt64) <<< ((32 : Int32) &&& 0x3f).toInt64))])) _
    refine XS.iloadN X0.here hx rfl (hb hby d6_5) rfl ?_
    show Steps p.tables e below (s₁.setTop (mkF m 6 #[.val (.int p1), .val (.int p2)] [(.int p2), (.long ((p1.toInt64) <<< ((32 : Int32) &&& 0x3f).toInt64))])) _
    refine XS.i2l X0.here hx rfl (hb hby d6_6) rfl ?_
    show Steps p.tables e below (s₁.setTop (mkF m 7 #[.val (.int p1), .val (.int p2)] [(.long (p2.toInt64)), (.long ((p1.toInt64) <<< ((32 : Int32) &&& 0x3f).toInt64))])) _
    refine X0.ldc2Long hx hown (mvT hZ (hw _ (List.mem_of_getElem? (i := 41) rfl))) (g := (mkF m 7 #[.val (.int p1), .val (.int p2)] [(.long (p2.toInt64)), (.long ((p1.toInt64) <<< ((32 : Int32) &&& 0x3f).toInt64))])) rfl (hb hby d6_7) _ ?_
    show Steps p.tables e below (s₁.setTop (mkF m 10 #[.val (.int p1), .val (.int p2)] [(.long (2147483648 : Int64)), (.long (p2.toInt64)), (.long ((p1.toInt64) <<< ((32 : Int32) &&& 0x3f).toInt64))])) _
    refine XS.ladd X0.here hx rfl (hb hby d6_10) rfl ?_
    show Steps p.tables e below (s₁.setTop (mkF m 11 #[.val (.int p1), .val (.int p2)] [(.long ((p2.toInt64) + (2147483648 : Int64))), (.long ((p1.toInt64) <<< ((32 : Int32) &&& 0x3f).toInt64))])) _
    refine XS.ladd X0.here hx rfl (hb hby d6_11) rfl ?_
    show Steps p.tables e below (s₁.setTop (mkF m 12 #[.val (.int p1), .val (.int p2)] [(.long (own_key p1 p2))])) _
    jvm_step X0.here [X0.here.top, hx, (hb hby d6_12), X0.method', Bd.returns, narrow]
    first | (intro acts; rw [hr _ acts rfl rfl rfl]) | rw [hr _ _ rfl rfl rfl]
    exact Steps.refl _
  · show Q6 Z p1 p2 h0 n0 _ s₁.heap _
    rw [e0]
    exact ⟨rfl, N0, rfl⟩
theorem pn_0 : plainName "overmark/NotedPlacesFirstBeforePinLaw" = true := by first | (simp [plainName, overriddenIn]; done) | decide +kernel
theorem pd_0_0 : parseMethodDescriptor "()V" = some ⟨[], none⟩ := by decide +kernel
theorem pd_0_1 : parseMethodDescriptor "(II)Z" = some ⟨[.int, .int], some .boolean⟩ := by decide +kernel
theorem ef_0 (m : MethodId) (x0 : Int32) (x1 : Int32) (x2 : Int32) (x3 : Int32) (x4 : Int32) (x5 : Int32) : entryFrame m #[(.int x0), (.int x1), (.int x2), (.int x3), (.int x4), (.int x5)] maxLocals = mkF m 0 #[.val (.int x0), .val (.int x1), .val (.int x2), .val (.int x3), .val (.int x4), .val (.int x5), .unset, .unset, .unset, .unset, .unset, .unset, .unset, .unset] [] := by first | (simp [entryFrame, mkF, argsToLocals, Value.category, maxLocals]; done) | rfl
def Q0 (Z : State) (p1 : Int32) (p2 : Int32) (p3 : Int32) (p4 : Int32) (p5 : Int32) (p6 : Int32) (h0 : Heap) (n0 : Nat) (v : Option Value) (h : Heap) (L : List Loc) : Prop := v = some (.int (1 : Int32)) ∧ Fr n0 L
set_option maxRecDepth 65536 in
set_option maxHeartbeats 40000000 in
theorem rm0_0 (l : Launch) (Z : State) (a0 : Array Value) (hw : ∀ d ∈ tables_1, d.before a0 Z = true) (ws : List Jvm.Cond) (p1 : Int32) (p2 : Int32) (p3 : Int32) (p4 : Int32) (p5 : Int32) (p6 : Int32) (h0 : Heap) (n0 : Nat) (Z0 : n0 ≤ h0.size) (hc31 : (p1 &&& (7 : Int32)) = (0 : Int32)) :
    MetFree l x (head1 (Jvm.Cond.code x code maxLocals ret :: ws) room_1) (fun a U => a = #[(.int p1), (.int p2), (.int p3), (.int p4), (.int p5), (.int p6)] ∧ Z.Warmed39 U.vm ∧ U.heap = h0) (fun _ _ _ _ _ => True) (fun _ U o U' => ∃ v L, o = .returned v ∧ Q0 Z p1 p2 p3 p4 p5 p6 h0 n0 v U'.heap L ∧ FrameEnd U o U' L room_1.cells room_1.slots) := by
  refine MetFree.of_bodySF (plainFor_of_name pn_0) hisR ?_
  intro p e s m args below meth c s₁ Bd hml0 hP hK
  obtain ⟨rfl, hZ, hh⟩ := hP
  have hx := Bd.exec
  have hby := Bd.bytes
  have hml : c.maxLocals = 14 := hml0
  have hown : s.vm.findClass "overmark/NotedPlacesFirstBeforePinLaw" = some m.cls := findClass_of_methodNamed Bd.named
  have hnm := (name_of_methodNamed Bd.named Bd.method).1
  have X0 : Stand p l e room_1 s m #[(.int p1), (.int p2), (.int p3), (.int p4), (.int p5), (.int p6)] below meth c s₁ [] 0 0 := Stand.of_body Bd
  have e0 : s₁.heap = h0 := by rw [← hh, Bd.state]; rfl
  have N0 := Fr.nil n0
  have pre0 : ∀ t, Steps p.tables e below (s₁.setTop (mkF m 0 #[.val (.int p1), .val (.int p2), .val (.int p3), .val (.int p4), .val (.int p5), .val (.int p6), .unset, .unset, .unset, .unset, .unset, .unset, .unset, .unset] [])) t → Steps p.tables e below (s₁.setTop (entryFrame m #[(.int p1), (.int p2), (.int p3), (.int p4), (.int p5), (.int p6)] maxLocals)) t := fun t k => castTop (ef_0 m p1 p2 p3 p4 p5 p6) k
  obtain ⟨T7, h7, X7, e7, E7, A7, D7, -, st7⟩ := newO X0 hx hZ hown (hw _ (List.mem_of_getElem? (i := 0) rfl)) (hw _ (List.mem_of_getElem? (i := 1) rfl)) (hw _ (List.mem_of_getElem? (i := 2) rfl)) e0 (g := (mkF m 11 #[.val (.int p1), .val (.int p2), .val (.int p3), .val (.int p4), .val (.int p5), .val (.int p6), .val (.int (p3 ^^^ p4)), .val (.int (p1 &&& (7 : Int32))), .unset, .unset, .unset, .unset, .unset, .unset] [])) rfl (hb hby at_11) (by decide) (by decide)
  obtain ⟨b7, g7⟩ : ∃ z, z = h0.size := ⟨_, rfl⟩
  rw [← g7] at A7 D7 st7
  have F_lines_b7 : Fld Z h7 b7 "overmark/NotedPlaces" "lines" "[I" .null := D7 (Or.inl (hw _ (List.mem_of_getElem? (i := 11) rfl))) (ty := (.array .int)) (by decide)
  have F_columns_b7 : Fld Z h7 b7 "overmark/NotedPlaces" "columns" "[I" .null := D7 (Or.inl (hw _ (List.mem_of_getElem? (i := 13) rfl))) (ty := (.array .int)) (by decide)
  have F_labels_b7 : Fld Z h7 b7 "overmark/NotedPlaces" "labels" "[Ljava/lang/String;" .null := D7 (Or.inl (hw _ (List.mem_of_getElem? (i := 17) rfl))) (ty := (.array (.object "java/lang/String"))) (by decide)
  have F_first_b7 : Fld Z h7 b7 "overmark/NotedPlaces" "first" "I" (.int (0 : Int32)) := D7 (Or.inl (hw _ (List.mem_of_getElem? (i := 24) rfl))) (ty := .int) (by decide)
  have F_end_b7 : Fld Z h7 b7 "overmark/NotedPlaces" "end" "I" (.int (0 : Int32)) := D7 (Or.inl (hw _ (List.mem_of_getElem? (i := 26) rfl))) (ty := .int) (by decide)
  have E_b7 := A7
  have g_b7 : n0 ≤ b7 := Nat.le_trans Z0 (Nat.le_of_eq g7.symm)
  have sz_b7 : h0.size ≤ b7 := (Nat.le_trans (Keep.refl h0 []).1 (Nat.le_of_eq g7.symm))
  have K7 : Keep h0 h7 [] := (Keep.refl h0 []).ext E7
  obtain ⟨_, _, ⟨T8, L8, k8, n8⟩, -, X8, ⟨Lc8, hQ8, l8, y8, z8⟩, st8⟩ := X7.specialBack hx (y := (⟨"overmark/NotedPlaces", "<init>", "()V"⟩ : MethodName)) rfl hown (mvT hZ (hw _ (List.mem_of_getElem? (i := 3) rfl))) (mvT hZ (hw _ (List.mem_of_getElem? (i := 4) rfl))) (mvT hZ (hw _ (List.mem_of_getElem? (i := 5) rfl))) (by decide) (backOf (W := 1) (rm1 l Z a0 hw [] b7 .null .null .null h7 n0 (Nat.le_trans Z0 E7.1) E_b7 F_lines_b7 g_b7 F_columns_b7 F_labels_b7 F_first_b7 F_end_b7) hZ (hw _ (List.mem_of_getElem? (i := 5) rfl)) (hw _ (List.mem_of_getElem? (i := 2) rfl)) (by decide) (by decide)) (g := (mkF m 15 #[.val (.int p1), .val (.int p2), .val (.int p3), .val (.int p4), .val (.int p5), .val (.int p6), .val (.int (p3 ^^^ p4)), .val (.int (p1 &&& (7 : Int32))), .unset, .unset, .unset, .unset, .unset, .unset] [(.ref b7), (.ref b7)])) rfl (by rw [hml]; rfl) (Steps.refl _) (a := b7) (argsL := []) (rest := [(.ref b7)]) (lenOf pd_0_0 rfl) rfl (by show 2 * 0 + _ ≤ _; exact Nat.le_of_eq rfl) (hb hby at_15) (fun _ _ => ⟨rfl, e7, (by decide : 1 + 3 ≤ _), (by decide : 5 + 3072 ≤ _)⟩)
  dsimp only [Pt.U, Pt.locs, Pt.cells, Pt.slots] at X8 l8 y8 z8 st8 hQ8
  subst l8 y8 z8
  obtain ⟨rfl, N8q, hs8, np8⟩ := hQ8
  have Z8 : n0 ≤ T8.heap.size := Nat.le_trans (Nat.le_trans Z0 E7.1) hs8
  have N8 := Fr.app N0 N8q
  obtain ⟨cq9, kq9, q9a, q9b, q9c⟩ := isOf hZ rfl (own_exa np8)
  obtain ⟨_, _, ⟨T9, L9, k9, n9⟩, -, X9, ⟨Lc9, hQ9, l9, y9, z9⟩, st9⟩ := X8.virtualBack hx (y := (⟨"overmark/NotedPlaces", "firstBefore", "(II)Z"⟩ : MethodName)) (z := (⟨"overmark/NotedPlaces", "firstBefore", "(II)Z"⟩ : MethodName)) hown (mvT hZ (hw _ (List.mem_of_getElem? (i := 18) rfl))) (mvT hZ (hw _ (List.mem_of_getElem? (i := 19) rfl))) (notFace_of_selects (args := #[]) (mvT hZ (hw _ (List.mem_of_getElem? (i := 21) rfl)))) (mvT hZ (hw _ (List.mem_of_getElem? (i := 21) rfl))) (mvT hZ (hw _ (List.mem_of_getElem? (i := 20) rfl))) (by decide) (backOf (W := 0) (rm3 l Z a0 hw [] b7 p5 p6 (0 : Int32) (0 : Int32) (0 : Int32) (0 : Int32) 0 [(.int (0 : Int32)), (.int (0 : Int32)), (.int (0 : Int32))] [(.int (0 : Int32)), (.int (0 : Int32)), (.int (0 : Int32))] [.null, .null, .null] T8.heap n0 Z8 np8 rfl (by decide) (by decide) rfl rfl) hZ (hw _ (List.mem_of_getElem? (i := 22) rfl)) (hw _ (List.mem_of_getElem? (i := 2) rfl)) (by decide) (by decide)) q9a q9c (g := (mkF m 281 #[.val (.int p1), .val (.int p2), .val (.int p3), .val (.int p4), .val (.int p5), .val (.int p6), .val (.int (p3 ^^^ p4)), .val (.int (p1 &&& (7 : Int32))), .val (.ref b7), .val (.int (0 : Int32)), .val (.int (0 : Int32)), .val (.int (0 : Int32)), .unset, .unset] [(.int p6), (.int p5), (.ref b7)])) rfl (by rw [hml]; rfl) (Steps.refl _) (argsL := [(.int p5), (.int p6)]) (rest := []) (lenOf pd_0_1 rfl) rfl (by show 2 * 0 + _ ≤ _; exact Nat.le_of_eq rfl) (hb hby at_281) (fun _ _ => ⟨rfl, rfl, (by decide : 4 + 0 ≤ _), (by decide : 3077 + 0 ≤ _)⟩)
  dsimp only [Pt.U, Pt.locs, Pt.cells, Pt.slots] at X9 l9 y9 z9 st9 hQ9
  subst l9 y9 z9
  obtain ⟨rfl, N9q, e9⟩ := hQ9
  have Z9 : n0 ≤ T9.heap.size := by rw [e9]; exact Z8
  have N9 := Fr.app N8 N9q
  obtain ⟨fs, hr, hrun, hended, hW, hsame⟩ := X9.leave (v := some (.int (1 : Int32))) (fun h => by rw [Bd.returns] at h; cases h)
  refine ⟨_, _, pre0 _ ?_, hrun, hended, _, _, rfl, ?_, ⟨_, rfl⟩, hW, hsame.mono (by decide) (by decide)⟩
  · show Steps p.tables e below (s₁.setTop (mkF m 0 #[.val (.int p1), .val (.int p2), .val (.int p3), .val (.int p4), .val (.int p5), .val (.int p6), .unset, .unset, .unset, .unset, .unset, .unset, .unset, .unset] [])) _
    refine XS.iloadN X0.here hx rfl (hb hby at_0) rfl ?_
    show Steps p.tables e below (s₁.setTop (mkF m 1 #[.val (.int p1), .val (.int p2), .val (.int p3), .val (.int p4), .val (.int p5), .val (.int p6), .unset, .unset, .unset, .unset, .unset, .unset, .unset, .unset] [(.int p3)])) _
    refine XS.iloadN X0.here hx rfl (hb hby at_1) rfl ?_
    show Steps p.tables e below (s₁.setTop (mkF m 2 #[.val (.int p1), .val (.int p2), .val (.int p3), .val (.int p4), .val (.int p5), .val (.int p6), .unset, .unset, .unset, .unset, .unset, .unset, .unset, .unset] [(.int p4), (.int p3)])) _
    refine XS.ixor X0.here hx rfl (hb hby at_2) rfl ?_
    show Steps p.tables e below (s₁.setTop (mkF m 3 #[.val (.int p1), .val (.int p2), .val (.int p3), .val (.int p4), .val (.int p5), .val (.int p6), .unset, .unset, .unset, .unset, .unset, .unset, .unset, .unset] [(.int (p3 ^^^ p4))])) _
    refine XS.istore X0.here hx rfl (hb hby at_3) rfl (l' := #[.val (.int p1), .val (.int p2), .val (.int p3), .val (.int p4), .val (.int p5), .val (.int p6), .val (.int (p3 ^^^ p4)), .unset, .unset, .unset, .unset, .unset, .unset, .unset]) rfl ?_
    show Steps p.tables e below (s₁.setTop (mkF m 5 #[.val (.int p1), .val (.int p2), .val (.int p3), .val (.int p4), .val (.int p5), .val (.int p6), .val (.int (p3 ^^^ p4)), .unset, .unset, .unset, .unset, .unset, .unset, .unset] [])) _
    refine XS.iloadN X0.here hx rfl (hb hby at_5) rfl ?_
    show Steps p.tables e below (s₁.setTop (mkF m 6 #[.val (.int p1), .val (.int p2), .val (.int p3), .val (.int p4), .val (.int p5), .val (.int p6), .val (.int (p3 ^^^ p4)), .unset, .unset, .unset, .unset, .unset, .unset, .unset] [(.int p1)])) _
    refine XS.bipush X0.here hx rfl (hb hby at_6) ?_
    show Steps p.tables e below (s₁.setTop (mkF m 8 #[.val (.int p1), .val (.int p2), .val (.int p3), .val (.int p4), .val (.int p5), .val (.int p6), .val (.int (p3 ^^^ p4)), .unset, .unset, .unset, .unset, .unset, .unset, .unset] [(.int (7 : Int32)), (.int p1)])) _
    refine XS.iand X0.here hx rfl (hb hby at_8) rfl ?_
    show Steps p.tables e below (s₁.setTop (mkF m 9 #[.val (.int p1), .val (.int p2), .val (.int p3), .val (.int p4), .val (.int p5), .val (.int p6), .val (.int (p3 ^^^ p4)), .unset, .unset, .unset, .unset, .unset, .unset, .unset] [(.int (p1 &&& (7 : Int32)))])) _
    refine XS.istore X0.here hx rfl (hb hby at_9) rfl (l' := #[.val (.int p1), .val (.int p2), .val (.int p3), .val (.int p4), .val (.int p5), .val (.int p6), .val (.int (p3 ^^^ p4)), .val (.int (p1 &&& (7 : Int32))), .unset, .unset, .unset, .unset, .unset, .unset]) rfl ?_
    show Steps p.tables e below (s₁.setTop (mkF m 11 #[.val (.int p1), .val (.int p2), .val (.int p3), .val (.int p4), .val (.int p5), .val (.int p6), .val (.int (p3 ^^^ p4)), .val (.int (p1 &&& (7 : Int32))), .unset, .unset, .unset, .unset, .unset, .unset] [])) _
    refine st7 _ ?_
    show Steps p.tables e below (T7.setTop (mkF m 14 #[.val (.int p1), .val (.int p2), .val (.int p3), .val (.int p4), .val (.int p5), .val (.int p6), .val (.int (p3 ^^^ p4)), .val (.int (p1 &&& (7 : Int32))), .unset, .unset, .unset, .unset, .unset, .unset] [(.ref b7)])) _
    refine XS.dup X7.here hx rfl (hb hby at_14) rfl rfl ?_
    show Steps p.tables e below (T7.setTop (mkF m 15 #[.val (.int p1), .val (.int p2), .val (.int p3), .val (.int p4), .val (.int p5), .val (.int p6), .val (.int (p3 ^^^ p4)), .val (.int (p1 &&& (7 : Int32))), .unset, .unset, .unset, .unset, .unset, .unset] [(.ref b7), (.ref b7)])) _
    refine st8.trans ?_
    show Steps p.tables e below (T8.setTop (mkF m 18 #[.val (.int p1), .val (.int p2), .val (.int p3), .val (.int p4), .val (.int p5), .val (.int p6), .val (.int (p3 ^^^ p4)), .val (.int (p1 &&& (7 : Int32))), .unset, .unset, .unset, .unset, .unset, .unset] [(.ref b7)])) _
    refine XS.astore X8.here hx rfl (hb hby at_18) rfl rfl (l' := #[.val (.int p1), .val (.int p2), .val (.int p3), .val (.int p4), .val (.int p5), .val (.int p6), .val (.int (p3 ^^^ p4)), .val (.int (p1 &&& (7 : Int32))), .val (.ref b7), .unset, .unset, .unset, .unset, .unset]) rfl ?_
    show Steps p.tables e below (T8.setTop (mkF m 20 #[.val (.int p1), .val (.int p2), .val (.int p3), .val (.int p4), .val (.int p5), .val (.int p6), .val (.int (p3 ^^^ p4)), .val (.int (p1 &&& (7 : Int32))), .val (.ref b7), .unset, .unset, .unset, .unset, .unset] [])) _
    refine XS.iconst X8.here hx rfl (hb hby at_20) ?_
    show Steps p.tables e below (T8.setTop (mkF m 21 #[.val (.int p1), .val (.int p2), .val (.int p3), .val (.int p4), .val (.int p5), .val (.int p6), .val (.int (p3 ^^^ p4)), .val (.int (p1 &&& (7 : Int32))), .val (.ref b7), .unset, .unset, .unset, .unset, .unset] [(.int (0 : Int32))])) _
    refine XS.istore X8.here hx rfl (hb hby at_21) rfl (l' := #[.val (.int p1), .val (.int p2), .val (.int p3), .val (.int p4), .val (.int p5), .val (.int p6), .val (.int (p3 ^^^ p4)), .val (.int (p1 &&& (7 : Int32))), .val (.ref b7), .val (.int (0 : Int32)), .unset, .unset, .unset, .unset]) rfl ?_
    show Steps p.tables e below (T8.setTop (mkF m 23 #[.val (.int p1), .val (.int p2), .val (.int p3), .val (.int p4), .val (.int p5), .val (.int p6), .val (.int (p3 ^^^ p4)), .val (.int (p1 &&& (7 : Int32))), .val (.ref b7), .val (.int (0 : Int32)), .unset, .unset, .unset, .unset] [])) _
    refine XS.iconst X8.here hx rfl (hb hby at_23) ?_
    show Steps p.tables e below (T8.setTop (mkF m 24 #[.val (.int p1), .val (.int p2), .val (.int p3), .val (.int p4), .val (.int p5), .val (.int p6), .val (.int (p3 ^^^ p4)), .val (.int (p1 &&& (7 : Int32))), .val (.ref b7), .val (.int (0 : Int32)), .unset, .unset, .unset, .unset] [(.int (0 : Int32))])) _
    refine XS.istore X8.here hx rfl (hb hby at_24) rfl (l' := #[.val (.int p1), .val (.int p2), .val (.int p3), .val (.int p4), .val (.int p5), .val (.int p6), .val (.int (p3 ^^^ p4)), .val (.int (p1 &&& (7 : Int32))), .val (.ref b7), .val (.int (0 : Int32)), .val (.int (0 : Int32)), .unset, .unset, .unset]) rfl ?_
    show Steps p.tables e below (T8.setTop (mkF m 26 #[.val (.int p1), .val (.int p2), .val (.int p3), .val (.int p4), .val (.int p5), .val (.int p6), .val (.int (p3 ^^^ p4)), .val (.int (p1 &&& (7 : Int32))), .val (.ref b7), .val (.int (0 : Int32)), .val (.int (0 : Int32)), .unset, .unset, .unset] [])) _
    refine XS.iconst X8.here hx rfl (hb hby at_26) ?_
    show Steps p.tables e below (T8.setTop (mkF m 27 #[.val (.int p1), .val (.int p2), .val (.int p3), .val (.int p4), .val (.int p5), .val (.int p6), .val (.int (p3 ^^^ p4)), .val (.int (p1 &&& (7 : Int32))), .val (.ref b7), .val (.int (0 : Int32)), .val (.int (0 : Int32)), .unset, .unset, .unset] [(.int (0 : Int32))])) _
    refine XS.istore X8.here hx rfl (hb hby at_27) rfl (l' := #[.val (.int p1), .val (.int p2), .val (.int p3), .val (.int p4), .val (.int p5), .val (.int p6), .val (.int (p3 ^^^ p4)), .val (.int (p1 &&& (7 : Int32))), .val (.ref b7), .val (.int (0 : Int32)), .val (.int (0 : Int32)), .val (.int (0 : Int32)), .unset, .unset]) rfl ?_
    show Steps p.tables e below (T8.setTop (mkF m 29 #[.val (.int p1), .val (.int p2), .val (.int p3), .val (.int p4), .val (.int p5), .val (.int p6), .val (.int (p3 ^^^ p4)), .val (.int (p1 &&& (7 : Int32))), .val (.ref b7), .val (.int (0 : Int32)), .val (.int (0 : Int32)), .val (.int (0 : Int32)), .unset, .unset] [])) _
    refine XS.iload X8.here hx rfl (hb hby at_29) rfl ?_
    show Steps p.tables e below (T8.setTop (mkF m 31 #[.val (.int p1), .val (.int p2), .val (.int p3), .val (.int p4), .val (.int p5), .val (.int p6), .val (.int (p3 ^^^ p4)), .val (.int (p1 &&& (7 : Int32))), .val (.ref b7), .val (.int (0 : Int32)), .val (.int (0 : Int32)), .val (.int (0 : Int32)), .unset, .unset] [(.int (p1 &&& (7 : Int32)))])) _
    refine XS.ifNo X8.here hx rfl (hb hby at_31) rfl ((if0 _ _).trans (teq hc31).2) ?_
    show Steps p.tables e below (T8.setTop (mkF m 34 #[.val (.int p1), .val (.int p2), .val (.int p3), .val (.int p4), .val (.int p5), .val (.int p6), .val (.int (p3 ^^^ p4)), .val (.int (p1 &&& (7 : Int32))), .val (.ref b7), .val (.int (0 : Int32)), .val (.int (0 : Int32)), .val (.int (0 : Int32)), .unset, .unset] [])) _
    refine XS.iconst X8.here hx rfl (hb hby at_34) ?_
    show Steps p.tables e below (T8.setTop (mkF m 35 #[.val (.int p1), .val (.int p2), .val (.int p3), .val (.int p4), .val (.int p5), .val (.int p6), .val (.int (p3 ^^^ p4)), .val (.int (p1 &&& (7 : Int32))), .val (.ref b7), .val (.int (0 : Int32)), .val (.int (0 : Int32)), .val (.int (0 : Int32)), .unset, .unset] [(.int (0 : Int32))])) _
    refine XS.istore X8.here hx rfl (hb hby at_35) rfl (l' := #[.val (.int p1), .val (.int p2), .val (.int p3), .val (.int p4), .val (.int p5), .val (.int p6), .val (.int (p3 ^^^ p4)), .val (.int (p1 &&& (7 : Int32))), .val (.ref b7), .val (.int (0 : Int32)), .val (.int (0 : Int32)), .val (.int (0 : Int32)), .unset, .unset]) rfl ?_
    show Steps p.tables e below (T8.setTop (mkF m 37 #[.val (.int p1), .val (.int p2), .val (.int p3), .val (.int p4), .val (.int p5), .val (.int p6), .val (.int (p3 ^^^ p4)), .val (.int (p1 &&& (7 : Int32))), .val (.ref b7), .val (.int (0 : Int32)), .val (.int (0 : Int32)), .val (.int (0 : Int32)), .unset, .unset] [])) _
    refine XS.goto X8.here hx rfl (pc0 := 37) (pc' := 275) rfl (hb hby at_37) (by decide) (by decide) ?_
    show Steps p.tables e below (T8.setTop (mkF m 275 #[.val (.int p1), .val (.int p2), .val (.int p3), .val (.int p4), .val (.int p5), .val (.int p6), .val (.int (p3 ^^^ p4)), .val (.int (p1 &&& (7 : Int32))), .val (.ref b7), .val (.int (0 : Int32)), .val (.int (0 : Int32)), .val (.int (0 : Int32)), .unset, .unset] [])) _
    refine XS.aload X8.here hx rfl (hb hby at_275) rfl rfl ?_
    show Steps p.tables e below (T8.setTop (mkF m 277 #[.val (.int p1), .val (.int p2), .val (.int p3), .val (.int p4), .val (.int p5), .val (.int p6), .val (.int (p3 ^^^ p4)), .val (.int (p1 &&& (7 : Int32))), .val (.ref b7), .val (.int (0 : Int32)), .val (.int (0 : Int32)), .val (.int (0 : Int32)), .unset, .unset] [(.ref b7)])) _
    refine XS.iload X8.here hx rfl (hb hby at_277) rfl ?_
    show Steps p.tables e below (T8.setTop (mkF m 279 #[.val (.int p1), .val (.int p2), .val (.int p3), .val (.int p4), .val (.int p5), .val (.int p6), .val (.int (p3 ^^^ p4)), .val (.int (p1 &&& (7 : Int32))), .val (.ref b7), .val (.int (0 : Int32)), .val (.int (0 : Int32)), .val (.int (0 : Int32)), .unset, .unset] [(.int p5), (.ref b7)])) _
    refine XS.iload X8.here hx rfl (hb hby at_279) rfl ?_
    show Steps p.tables e below (T8.setTop (mkF m 281 #[.val (.int p1), .val (.int p2), .val (.int p3), .val (.int p4), .val (.int p5), .val (.int p6), .val (.int (p3 ^^^ p4)), .val (.int (p1 &&& (7 : Int32))), .val (.ref b7), .val (.int (0 : Int32)), .val (.int (0 : Int32)), .val (.int (0 : Int32)), .unset, .unset] [(.int p6), (.int p5), (.ref b7)])) _
    refine st9.trans ?_
    show Steps p.tables e below (T9.setTop (mkF m 284 #[.val (.int p1), .val (.int p2), .val (.int p3), .val (.int p4), .val (.int p5), .val (.int p6), .val (.int (p3 ^^^ p4)), .val (.int (p1 &&& (7 : Int32))), .val (.ref b7), .val (.int (0 : Int32)), .val (.int (0 : Int32)), .val (.int (0 : Int32)), .unset, .unset] [(.int (own_fb (0 : Int32) (0 : Int32) (0 : Int32) (0 : Int32) p5 p6))])) _
    refine XS.istore X9.here hx rfl (hb hby at_284) rfl (l' := #[.val (.int p1), .val (.int p2), .val (.int p3), .val (.int p4), .val (.int p5), .val (.int p6), .val (.int (p3 ^^^ p4)), .val (.int (p1 &&& (7 : Int32))), .val (.ref b7), .val (.int (0 : Int32)), .val (.int (0 : Int32)), .val (.int (0 : Int32)), .val (.int (own_fb (0 : Int32) (0 : Int32) (0 : Int32) (0 : Int32) p5 p6)), .unset]) rfl ?_
    show Steps p.tables e below (T9.setTop (mkF m 286 #[.val (.int p1), .val (.int p2), .val (.int p3), .val (.int p4), .val (.int p5), .val (.int p6), .val (.int (p3 ^^^ p4)), .val (.int (p1 &&& (7 : Int32))), .val (.ref b7), .val (.int (0 : Int32)), .val (.int (0 : Int32)), .val (.int (0 : Int32)), .val (.int (own_fb (0 : Int32) (0 : Int32) (0 : Int32) (0 : Int32) p5 p6)), .unset] [])) _
    refine XS.iload X9.here hx rfl (hb hby at_286) rfl ?_
    show Steps p.tables e below (T9.setTop (mkF m 288 #[.val (.int p1), .val (.int p2), .val (.int p3), .val (.int p4), .val (.int p5), .val (.int p6), .val (.int (p3 ^^^ p4)), .val (.int (p1 &&& (7 : Int32))), .val (.ref b7), .val (.int (0 : Int32)), .val (.int (0 : Int32)), .val (.int (0 : Int32)), .val (.int (own_fb (0 : Int32) (0 : Int32) (0 : Int32) (0 : Int32) p5 p6)), .unset] [(.int (0 : Int32))])) _
    refine XS.ifYes X9.here hx rfl (pc0 := 288) (pc' := 313) rfl (hb hby at_288) rfl ((if0 _ _).trans (teq (rfl : (0 : Int32) = (0 : Int32))).1) (by decide) (by decide) ?_
    show Steps p.tables e below (T9.setTop (mkF m 313 #[.val (.int p1), .val (.int p2), .val (.int p3), .val (.int p4), .val (.int p5), .val (.int p6), .val (.int (p3 ^^^ p4)), .val (.int (p1 &&& (7 : Int32))), .val (.ref b7), .val (.int (0 : Int32)), .val (.int (0 : Int32)), .val (.int (0 : Int32)), .val (.int (own_fb (0 : Int32) (0 : Int32) (0 : Int32) (0 : Int32) p5 p6)), .unset] [])) _
    refine XS.iconst X9.here hx rfl (hb hby at_313) ?_
    show Steps p.tables e below (T9.setTop (mkF m 314 #[.val (.int p1), .val (.int p2), .val (.int p3), .val (.int p4), .val (.int p5), .val (.int p6), .val (.int (p3 ^^^ p4)), .val (.int (p1 &&& (7 : Int32))), .val (.ref b7), .val (.int (0 : Int32)), .val (.int (0 : Int32)), .val (.int (0 : Int32)), .val (.int (own_fb (0 : Int32) (0 : Int32) (0 : Int32) (0 : Int32) p5 p6)), .unset] [(.int (0 : Int32))])) _
    refine XS.istore X9.here hx rfl (hb hby at_314) rfl (l' := #[.val (.int p1), .val (.int p2), .val (.int p3), .val (.int p4), .val (.int p5), .val (.int p6), .val (.int (p3 ^^^ p4)), .val (.int (p1 &&& (7 : Int32))), .val (.ref b7), .val (.int (0 : Int32)), .val (.int (0 : Int32)), .val (.int (0 : Int32)), .val (.int (own_fb (0 : Int32) (0 : Int32) (0 : Int32) (0 : Int32) p5 p6)), .val (.int (0 : Int32))]) rfl ?_
    show Steps p.tables e below (T9.setTop (mkF m 316 #[.val (.int p1), .val (.int p2), .val (.int p3), .val (.int p4), .val (.int p5), .val (.int p6), .val (.int (p3 ^^^ p4)), .val (.int (p1 &&& (7 : Int32))), .val (.ref b7), .val (.int (0 : Int32)), .val (.int (0 : Int32)), .val (.int (0 : Int32)), .val (.int (own_fb (0 : Int32) (0 : Int32) (0 : Int32) (0 : Int32) p5 p6)), .val (.int (0 : Int32))] [])) _
    refine XS.iload X9.here hx rfl (hb hby at_316) rfl ?_
    show Steps p.tables e below (T9.setTop (mkF m 318 #[.val (.int p1), .val (.int p2), .val (.int p3), .val (.int p4), .val (.int p5), .val (.int p6), .val (.int (p3 ^^^ p4)), .val (.int (p1 &&& (7 : Int32))), .val (.ref b7), .val (.int (0 : Int32)), .val (.int (0 : Int32)), .val (.int (0 : Int32)), .val (.int (own_fb (0 : Int32) (0 : Int32) (0 : Int32) (0 : Int32) p5 p6)), .val (.int (0 : Int32))] [(.int (own_fb (0 : Int32) (0 : Int32) (0 : Int32) (0 : Int32) p5 p6))])) _
    refine XS.iload X9.here hx rfl (hb hby at_318) rfl ?_
    show Steps p.tables e below (T9.setTop (mkF m 320 #[.val (.int p1), .val (.int p2), .val (.int p3), .val (.int p4), .val (.int p5), .val (.int p6), .val (.int (p3 ^^^ p4)), .val (.int (p1 &&& (7 : Int32))), .val (.ref b7), .val (.int (0 : Int32)), .val (.int (0 : Int32)), .val (.int (0 : Int32)), .val (.int (own_fb (0 : Int32) (0 : Int32) (0 : Int32) (0 : Int32) p5 p6)), .val (.int (0 : Int32))] [(.int (0 : Int32)), (.int (own_fb (0 : Int32) (0 : Int32) (0 : Int32) (0 : Int32) p5 p6))])) _
    refine XS.icmpNo X9.here hx rfl (hb hby at_320) rfl (teq (own_none (by decide) : (own_fb (0 : Int32) (0 : Int32) (0 : Int32) (0 : Int32) p5 p6) = (0 : Int32))).2 ?_
    show Steps p.tables e below (T9.setTop (mkF m 323 #[.val (.int p1), .val (.int p2), .val (.int p3), .val (.int p4), .val (.int p5), .val (.int p6), .val (.int (p3 ^^^ p4)), .val (.int (p1 &&& (7 : Int32))), .val (.ref b7), .val (.int (0 : Int32)), .val (.int (0 : Int32)), .val (.int (0 : Int32)), .val (.int (own_fb (0 : Int32) (0 : Int32) (0 : Int32) (0 : Int32) p5 p6)), .val (.int (0 : Int32))] [])) _
    refine XS.iconst X9.here hx rfl (hb hby at_323) ?_
    show Steps p.tables e below (T9.setTop (mkF m 324 #[.val (.int p1), .val (.int p2), .val (.int p3), .val (.int p4), .val (.int p5), .val (.int p6), .val (.int (p3 ^^^ p4)), .val (.int (p1 &&& (7 : Int32))), .val (.ref b7), .val (.int (0 : Int32)), .val (.int (0 : Int32)), .val (.int (0 : Int32)), .val (.int (own_fb (0 : Int32) (0 : Int32) (0 : Int32) (0 : Int32) p5 p6)), .val (.int (0 : Int32))] [(.int (1 : Int32))])) _
    refine XS.goto X9.here hx rfl (pc0 := 324) (pc' := 328) rfl (hb hby at_324) (by decide) (by decide) ?_
    show Steps p.tables e below (T9.setTop (mkF m 328 #[.val (.int p1), .val (.int p2), .val (.int p3), .val (.int p4), .val (.int p5), .val (.int p6), .val (.int (p3 ^^^ p4)), .val (.int (p1 &&& (7 : Int32))), .val (.ref b7), .val (.int (0 : Int32)), .val (.int (0 : Int32)), .val (.int (0 : Int32)), .val (.int (own_fb (0 : Int32) (0 : Int32) (0 : Int32) (0 : Int32) p5 p6)), .val (.int (0 : Int32))] [(.int (1 : Int32))])) _
    exact retN X9 hx (t := .boolean) Bd.returns (by simp) (hb hby at_328) hr
  · show Q0 Z p1 p2 p3 p4 p5 p6 h0 n0 _ T9.heap _
    exact ⟨rfl, N9⟩
theorem pd_0_2 : parseMethodDescriptor "(II)V" = some ⟨[.int, .int], none⟩ := by decide +kernel
theorem pd_0_3 : parseMethodDescriptor "(II)J" = some ⟨[.int, .int], some .long⟩ := by decide +kernel
set_option maxRecDepth 65536 in
set_option maxHeartbeats 40000000 in
theorem rm0_1 (l : Launch) (Z : State) (a0 : Array Value) (hw : ∀ d ∈ tables_1, d.before a0 Z = true) (ws : List Jvm.Cond) (p1 : Int32) (p2 : Int32) (p3 : Int32) (p4 : Int32) (p5 : Int32) (p6 : Int32) (h0 : Heap) (n0 : Nat) (Z0 : n0 ≤ h0.size) (hc31 : ¬ ((p1 &&& (7 : Int32)) = (0 : Int32))) (hc43 : (p1 &&& (7 : Int32)) = (1 : Int32)) (hc288 : ¬ ((1 : Int32) = (0 : Int32))) :
    MetFree l x (head1 (Jvm.Cond.code x code maxLocals ret :: ws) room_1) (fun a U => a = #[(.int p1), (.int p2), (.int p3), (.int p4), (.int p5), (.int p6)] ∧ Z.Warmed39 U.vm ∧ U.heap = h0) (fun _ _ _ _ _ => True) (fun _ U o U' => ∃ v L, o = .returned v ∧ Q0 Z p1 p2 p3 p4 p5 p6 h0 n0 v U'.heap L ∧ FrameEnd U o U' L room_1.cells room_1.slots) := by
  refine MetFree.of_bodySF (plainFor_of_name pn_0) hisR ?_
  intro p e s m args below meth c s₁ Bd hml0 hP hK
  obtain ⟨rfl, hZ, hh⟩ := hP
  have hx := Bd.exec
  have hby := Bd.bytes
  have hml : c.maxLocals = 14 := hml0
  have hown : s.vm.findClass "overmark/NotedPlacesFirstBeforePinLaw" = some m.cls := findClass_of_methodNamed Bd.named
  have hnm := (name_of_methodNamed Bd.named Bd.method).1
  have X0 : Stand p l e room_1 s m #[(.int p1), (.int p2), (.int p3), (.int p4), (.int p5), (.int p6)] below meth c s₁ [] 0 0 := Stand.of_body Bd
  have e0 : s₁.heap = h0 := by rw [← hh, Bd.state]; rfl
  have N0 := Fr.nil n0
  have pre0 : ∀ t, Steps p.tables e below (s₁.setTop (mkF m 0 #[.val (.int p1), .val (.int p2), .val (.int p3), .val (.int p4), .val (.int p5), .val (.int p6), .unset, .unset, .unset, .unset, .unset, .unset, .unset, .unset] [])) t → Steps p.tables e below (s₁.setTop (entryFrame m #[(.int p1), (.int p2), (.int p3), (.int p4), (.int p5), (.int p6)] maxLocals)) t := fun t k => castTop (ef_0 m p1 p2 p3 p4 p5 p6) k
  obtain ⟨T7, h7, X7, e7, E7, A7, D7, -, st7⟩ := newO X0 hx hZ hown (hw _ (List.mem_of_getElem? (i := 0) rfl)) (hw _ (List.mem_of_getElem? (i := 1) rfl)) (hw _ (List.mem_of_getElem? (i := 2) rfl)) e0 (g := (mkF m 11 #[.val (.int p1), .val (.int p2), .val (.int p3), .val (.int p4), .val (.int p5), .val (.int p6), .val (.int (p3 ^^^ p4)), .val (.int (p1 &&& (7 : Int32))), .unset, .unset, .unset, .unset, .unset, .unset] [])) rfl (hb hby at_11) (by decide) (by decide)
  obtain ⟨b7, g7⟩ : ∃ z, z = h0.size := ⟨_, rfl⟩
  rw [← g7] at A7 D7 st7
  have F_lines_b7 : Fld Z h7 b7 "overmark/NotedPlaces" "lines" "[I" .null := D7 (Or.inl (hw _ (List.mem_of_getElem? (i := 11) rfl))) (ty := (.array .int)) (by decide)
  have F_columns_b7 : Fld Z h7 b7 "overmark/NotedPlaces" "columns" "[I" .null := D7 (Or.inl (hw _ (List.mem_of_getElem? (i := 13) rfl))) (ty := (.array .int)) (by decide)
  have F_labels_b7 : Fld Z h7 b7 "overmark/NotedPlaces" "labels" "[Ljava/lang/String;" .null := D7 (Or.inl (hw _ (List.mem_of_getElem? (i := 17) rfl))) (ty := (.array (.object "java/lang/String"))) (by decide)
  have F_first_b7 : Fld Z h7 b7 "overmark/NotedPlaces" "first" "I" (.int (0 : Int32)) := D7 (Or.inl (hw _ (List.mem_of_getElem? (i := 24) rfl))) (ty := .int) (by decide)
  have F_end_b7 : Fld Z h7 b7 "overmark/NotedPlaces" "end" "I" (.int (0 : Int32)) := D7 (Or.inl (hw _ (List.mem_of_getElem? (i := 26) rfl))) (ty := .int) (by decide)
  have E_b7 := A7
  have g_b7 : n0 ≤ b7 := Nat.le_trans Z0 (Nat.le_of_eq g7.symm)
  have sz_b7 : h0.size ≤ b7 := (Nat.le_trans (Keep.refl h0 []).1 (Nat.le_of_eq g7.symm))
  have K7 : Keep h0 h7 [] := (Keep.refl h0 []).ext E7
  obtain ⟨_, _, ⟨T8, L8, k8, n8⟩, -, X8, ⟨Lc8, hQ8, l8, y8, z8⟩, st8⟩ := X7.specialBack hx (y := (⟨"overmark/NotedPlaces", "<init>", "()V"⟩ : MethodName)) rfl hown (mvT hZ (hw _ (List.mem_of_getElem? (i := 3) rfl))) (mvT hZ (hw _ (List.mem_of_getElem? (i := 4) rfl))) (mvT hZ (hw _ (List.mem_of_getElem? (i := 5) rfl))) (by decide) (backOf (W := 1) (rm1 l Z a0 hw [] b7 .null .null .null h7 n0 (Nat.le_trans Z0 E7.1) E_b7 F_lines_b7 g_b7 F_columns_b7 F_labels_b7 F_first_b7 F_end_b7) hZ (hw _ (List.mem_of_getElem? (i := 5) rfl)) (hw _ (List.mem_of_getElem? (i := 2) rfl)) (by decide) (by decide)) (g := (mkF m 15 #[.val (.int p1), .val (.int p2), .val (.int p3), .val (.int p4), .val (.int p5), .val (.int p6), .val (.int (p3 ^^^ p4)), .val (.int (p1 &&& (7 : Int32))), .unset, .unset, .unset, .unset, .unset, .unset] [(.ref b7), (.ref b7)])) rfl (by rw [hml]; rfl) (Steps.refl _) (a := b7) (argsL := []) (rest := [(.ref b7)]) (lenOf pd_0_0 rfl) rfl (by show 2 * 0 + _ ≤ _; exact Nat.le_of_eq rfl) (hb hby at_15) (fun _ _ => ⟨rfl, e7, (by decide : 1 + 3 ≤ _), (by decide : 5 + 3072 ≤ _)⟩)
  dsimp only [Pt.U, Pt.locs, Pt.cells, Pt.slots] at X8 l8 y8 z8 st8 hQ8
  subst l8 y8 z8
  obtain ⟨rfl, N8q, hs8, np8⟩ := hQ8
  have Z8 : n0 ≤ T8.heap.size := Nat.le_trans (Nat.le_trans Z0 E7.1) hs8
  have N8 := Fr.app N0 N8q
  obtain ⟨cq9, kq9, q9a, q9b, q9c⟩ := isOf hZ rfl (own_exa np8)
  obtain ⟨_, _, ⟨T9, L9, k9, n9⟩, -, X9, ⟨Lc9, hQ9, l9, y9, z9⟩, st9⟩ := X8.virtualBack hx (y := (⟨"overmark/NotedPlaces", "note", "(II)V"⟩ : MethodName)) (z := (⟨"overmark/NotedPlaces", "note", "(II)V"⟩ : MethodName)) hown (mvT hZ (hw _ (List.mem_of_getElem? (i := 27) rfl))) (mvT hZ (hw _ (List.mem_of_getElem? (i := 28) rfl))) (notFace_of_selects (args := #[]) (mvT hZ (hw _ (List.mem_of_getElem? (i := 30) rfl)))) (mvT hZ (hw _ (List.mem_of_getElem? (i := 30) rfl))) (mvT hZ (hw _ (List.mem_of_getElem? (i := 29) rfl))) (by decide) (backOf (W := 0) (rm4 l Z a0 hw [] b7 p2 p3 (0 : Int32) (0 : Int32) (1 : Int32) 0 [(.int (0 : Int32)), (.int (0 : Int32)), (.int (0 : Int32))] [(.int (0 : Int32)), (.int (0 : Int32)), (.int (0 : Int32))] [.null, .null, .null] T8.heap n0 Z8 np8 rfl (by decide) (by decide) (by decide) (Nat.le_of_ble_eq_true rfl) (Nat.le_of_ble_eq_true rfl) (Nat.le_of_ble_eq_true rfl)) hZ (hw _ (List.mem_of_getElem? (i := 31) rfl)) (hw _ (List.mem_of_getElem? (i := 2) rfl)) (by decide) (by decide)) q9a q9c (g := (mkF m 50 #[.val (.int p1), .val (.int p2), .val (.int p3), .val (.int p4), .val (.int p5), .val (.int p6), .val (.int (p3 ^^^ p4)), .val (.int (p1 &&& (7 : Int32))), .val (.ref b7), .val (.int (0 : Int32)), .val (.int (0 : Int32)), .val (.int (0 : Int32)), .unset, .unset] [(.int p3), (.int p2), (.ref b7)])) rfl (by rw [hml]; rfl) (Steps.refl _) (argsL := [(.int p2), (.int p3)]) (rest := []) (lenOf pd_0_2 rfl) rfl (by show 2 * 0 + _ ≤ _; exact Nat.le_of_eq rfl) (hb hby at_50) (fun _ _ => ⟨rfl, rfl, (by decide : 4 + 0 ≤ _), (by decide : 3077 + 0 ≤ _)⟩)
  dsimp only [Pt.U, Pt.locs, Pt.cells, Pt.slots] at X9 l9 y9 z9 st9 hQ9
  subst l9 y9 z9
  obtain ⟨rfl, N9q, hs9, nq9⟩ := hQ9
  have Z9 : n0 ≤ T9.heap.size := Nat.le_trans Z8 hs9
  have np9 : NP Z T9.heap n0 b7 (0 : Int32) (1 : Int32) [(.int p2), (.int (0 : Int32)), (.int (0 : Int32))] [(.int p3), (.int (0 : Int32)), (.int (0 : Int32))] [.null, .null, .null] := nq9
  have N9 := Fr.app N8 N9q
  obtain ⟨cq10, kq10, q10a, q10b, q10c⟩ := isOf hZ rfl (own_exa np9)
  obtain ⟨_, _, ⟨T10, L10, k10, n10⟩, -, X10, ⟨Lc10, hQ10, l10, y10, z10⟩, st10⟩ := X9.virtualBack hx (y := (⟨"overmark/NotedPlaces", "firstBefore", "(II)Z"⟩ : MethodName)) (z := (⟨"overmark/NotedPlaces", "firstBefore", "(II)Z"⟩ : MethodName)) hown (mvT hZ (hw _ (List.mem_of_getElem? (i := 18) rfl))) (mvT hZ (hw _ (List.mem_of_getElem? (i := 19) rfl))) (notFace_of_selects (args := #[]) (mvT hZ (hw _ (List.mem_of_getElem? (i := 21) rfl)))) (mvT hZ (hw _ (List.mem_of_getElem? (i := 21) rfl))) (mvT hZ (hw _ (List.mem_of_getElem? (i := 20) rfl))) (by decide) (backOf (W := 0) (rm3 l Z a0 hw [] b7 p5 p6 (0 : Int32) (1 : Int32) p2 p3 0 [(.int p2), (.int (0 : Int32)), (.int (0 : Int32))] [(.int p3), (.int (0 : Int32)), (.int (0 : Int32))] [.null, .null, .null] T9.heap n0 Z9 np9 rfl (by decide) (by decide) rfl rfl) hZ (hw _ (List.mem_of_getElem? (i := 22) rfl)) (hw _ (List.mem_of_getElem? (i := 2) rfl)) (by decide) (by decide)) q10a q10c (g := (mkF m 281 #[.val (.int p1), .val (.int p2), .val (.int p3), .val (.int p4), .val (.int p5), .val (.int p6), .val (.int (p3 ^^^ p4)), .val (.int (p1 &&& (7 : Int32))), .val (.ref b7), .val (.int (1 : Int32)), .val (.int p2), .val (.int p3), .unset, .unset] [(.int p6), (.int p5), (.ref b7)])) rfl (by rw [hml]; rfl) (Steps.refl _) (argsL := [(.int p5), (.int p6)]) (rest := []) (lenOf pd_0_1 rfl) rfl (by show 2 * 0 + _ ≤ _; exact Nat.le_of_eq rfl) (hb hby at_281) (fun _ _ => ⟨rfl, rfl, (by decide : 4 + 0 ≤ _), (by decide : 3077 + 0 ≤ _)⟩)
  dsimp only [Pt.U, Pt.locs, Pt.cells, Pt.slots] at X10 l10 y10 z10 st10 hQ10
  subst l10 y10 z10
  obtain ⟨rfl, N10q, e10⟩ := hQ10
  have Z10 : n0 ≤ T10.heap.size := by rw [e10]; exact Z9
  have N10 := Fr.app N9 N10q
  obtain ⟨_, _, ⟨T11, L11, k11, n11⟩, -, X11, ⟨Lc11, hQ11, l11, y11, z11⟩, st11⟩ := Jvm.LawKit.callS X10 hx (y := (⟨"overmark/NotedPlacesFirstBeforePinLaw", "key", "(II)J"⟩ : MethodName)) hown (mvT hZ (hw _ (List.mem_of_getElem? (i := 37) rfl))) (mvT hZ (hw _ (List.mem_of_getElem? (i := 38) rfl))) (mvT hZ (hw _ (List.mem_of_getElem? (i := 39) rfl))) (mvT hZ (hw _ (List.mem_of_getElem? (i := 40) rfl))) (by decide) (backOf (W := 0) (rm6 l Z a0 hw [] p2 p3 T10.heap n0 Z10) hZ (hw _ (List.mem_of_getElem? (i := 40) rfl)) (hw _ (List.mem_of_getElem? (i := 39) rfl)) (by decide) (by decide)) (g := (mkF m 295 #[.val (.int p1), .val (.int p2), .val (.int p3), .val (.int p4), .val (.int p5), .val (.int p6), .val (.int (p3 ^^^ p4)), .val (.int (p1 &&& (7 : Int32))), .val (.ref b7), .val (.int (1 : Int32)), .val (.int p2), .val (.int p3), .val (.int (own_fb (0 : Int32) (1 : Int32) p2 p3 p5 p6)), .unset] [(.int p3), (.int p2)])) rfl (by rw [hml]; rfl) (argsL := [(.int p2), (.int p3)]) (rest := []) (lenOf pd_0_3 rfl) rfl (by show 2 * 0 + _ ≤ _; exact Nat.le_of_eq rfl) (hb hby at_295) (fun _ _ => ⟨rfl, rfl, (by decide : 4 + 0 ≤ _), (by decide : 3077 + 0 ≤ _)⟩)
  dsimp only [Pt.U, Pt.locs, Pt.cells, Pt.slots] at X11 l11 y11 z11 st11 hQ11
  subst l11 y11 z11
  obtain ⟨rfl, N11q, e11⟩ := hQ11
  have Z11 : n0 ≤ T11.heap.size := by rw [e11]; exact Z10
  have N11 := Fr.app N10 N11q
  obtain ⟨_, _, ⟨T12, L12, k12, n12⟩, -, X12, ⟨Lc12, hQ12, l12, y12, z12⟩, st12⟩ := Jvm.LawKit.callS X11 hx (y := (⟨"overmark/NotedPlacesFirstBeforePinLaw", "key", "(II)J"⟩ : MethodName)) hown (mvT hZ (hw _ (List.mem_of_getElem? (i := 37) rfl))) (mvT hZ (hw _ (List.mem_of_getElem? (i := 38) rfl))) (mvT hZ (hw _ (List.mem_of_getElem? (i := 39) rfl))) (mvT hZ (hw _ (List.mem_of_getElem? (i := 40) rfl))) (by decide) (backOf (W := 2) (rm6 l Z a0 hw [] p5 p6 T11.heap n0 Z11) hZ (hw _ (List.mem_of_getElem? (i := 40) rfl)) (hw _ (List.mem_of_getElem? (i := 39) rfl)) (by decide) (by decide)) (g := (mkF m 302 #[.val (.int p1), .val (.int p2), .val (.int p3), .val (.int p4), .val (.int p5), .val (.int p6), .val (.int (p3 ^^^ p4)), .val (.int (p1 &&& (7 : Int32))), .val (.ref b7), .val (.int (1 : Int32)), .val (.int p2), .val (.int p3), .val (.int (own_fb (0 : Int32) (1 : Int32) p2 p3 p5 p6)), .unset] [(.int p6), (.int p5), (.long (own_key p2 p3))])) rfl (by rw [hml]; rfl) (argsL := [(.int p5), (.int p6)]) (rest := [(.long (own_key p2 p3))]) (lenOf pd_0_3 rfl) rfl (by show 2 * 0 + _ ≤ _; exact Nat.le_of_eq rfl) (hb hby at_302) (fun _ _ => ⟨rfl, rfl, (by decide : 4 + 0 ≤ _), (by decide : 3077 + 0 ≤ _)⟩)
  dsimp only [Pt.U, Pt.locs, Pt.cells, Pt.slots] at X12 l12 y12 z12 st12 hQ12
  subst l12 y12 z12
  obtain ⟨rfl, N12q, e12⟩ := hQ12
  have Z12 : n0 ≤ T12.heap.size := by rw [e12]; exact Z11
  have N12 := Fr.app N11 N12q
  obtain ⟨fs, hr, hrun, hended, hW, hsame⟩ := X12.leave (v := some (.int (1 : Int32))) (fun h => by rw [Bd.returns] at h; cases h)
  refine ⟨_, _, pre0 _ ?_, hrun, hended, _, _, rfl, ?_, ⟨_, rfl⟩, hW, hsame.mono (by decide) (by decide)⟩
  · show Steps p.tables e below (s₁.setTop (mkF m 0 #[.val (.int p1), .val (.int p2), .val (.int p3), .val (.int p4), .val (.int p5), .val (.int p6), .unset, .unset, .unset, .unset, .unset, .unset, .unset, .unset] [])) _
    refine XS.iloadN X0.here hx rfl (hb hby at_0) rfl ?_
    show Steps p.tables e below (s₁.setTop (mkF m 1 #[.val (.int p1), .val (.int p2), .val (.int p3), .val (.int p4), .val (.int p5), .val (.int p6), .unset, .unset, .unset, .unset, .unset, .unset, .unset, .unset] [(.int p3)])) _
    refine XS.iloadN X0.here hx rfl (hb hby at_1) rfl ?_
    show Steps p.tables e below (s₁.setTop (mkF m 2 #[.val (.int p1), .val (.int p2), .val (.int p3), .val (.int p4), .val (.int p5), .val (.int p6), .unset, .unset, .unset, .unset, .unset, .unset, .unset, .unset] [(.int p4), (.int p3)])) _
    refine XS.ixor X0.here hx rfl (hb hby at_2) rfl ?_
    show Steps p.tables e below (s₁.setTop (mkF m 3 #[.val (.int p1), .val (.int p2), .val (.int p3), .val (.int p4), .val (.int p5), .val (.int p6), .unset, .unset, .unset, .unset, .unset, .unset, .unset, .unset] [(.int (p3 ^^^ p4))])) _
    refine XS.istore X0.here hx rfl (hb hby at_3) rfl (l' := #[.val (.int p1), .val (.int p2), .val (.int p3), .val (.int p4), .val (.int p5), .val (.int p6), .val (.int (p3 ^^^ p4)), .unset, .unset, .unset, .unset, .unset, .unset, .unset]) rfl ?_
    show Steps p.tables e below (s₁.setTop (mkF m 5 #[.val (.int p1), .val (.int p2), .val (.int p3), .val (.int p4), .val (.int p5), .val (.int p6), .val (.int (p3 ^^^ p4)), .unset, .unset, .unset, .unset, .unset, .unset, .unset] [])) _
    refine XS.iloadN X0.here hx rfl (hb hby at_5) rfl ?_
    show Steps p.tables e below (s₁.setTop (mkF m 6 #[.val (.int p1), .val (.int p2), .val (.int p3), .val (.int p4), .val (.int p5), .val (.int p6), .val (.int (p3 ^^^ p4)), .unset, .unset, .unset, .unset, .unset, .unset, .unset] [(.int p1)])) _
    refine XS.bipush X0.here hx rfl (hb hby at_6) ?_
    show Steps p.tables e below (s₁.setTop (mkF m 8 #[.val (.int p1), .val (.int p2), .val (.int p3), .val (.int p4), .val (.int p5), .val (.int p6), .val (.int (p3 ^^^ p4)), .unset, .unset, .unset, .unset, .unset, .unset, .unset] [(.int (7 : Int32)), (.int p1)])) _
    refine XS.iand X0.here hx rfl (hb hby at_8) rfl ?_
    show Steps p.tables e below (s₁.setTop (mkF m 9 #[.val (.int p1), .val (.int p2), .val (.int p3), .val (.int p4), .val (.int p5), .val (.int p6), .val (.int (p3 ^^^ p4)), .unset, .unset, .unset, .unset, .unset, .unset, .unset] [(.int (p1 &&& (7 : Int32)))])) _
    refine XS.istore X0.here hx rfl (hb hby at_9) rfl (l' := #[.val (.int p1), .val (.int p2), .val (.int p3), .val (.int p4), .val (.int p5), .val (.int p6), .val (.int (p3 ^^^ p4)), .val (.int (p1 &&& (7 : Int32))), .unset, .unset, .unset, .unset, .unset, .unset]) rfl ?_
    show Steps p.tables e below (s₁.setTop (mkF m 11 #[.val (.int p1), .val (.int p2), .val (.int p3), .val (.int p4), .val (.int p5), .val (.int p6), .val (.int (p3 ^^^ p4)), .val (.int (p1 &&& (7 : Int32))), .unset, .unset, .unset, .unset, .unset, .unset] [])) _
    refine st7 _ ?_
    show Steps p.tables e below (T7.setTop (mkF m 14 #[.val (.int p1), .val (.int p2), .val (.int p3), .val (.int p4), .val (.int p5), .val (.int p6), .val (.int (p3 ^^^ p4)), .val (.int (p1 &&& (7 : Int32))), .unset, .unset, .unset, .unset, .unset, .unset] [(.ref b7)])) _
    refine XS.dup X7.here hx rfl (hb hby at_14) rfl rfl ?_
    show Steps p.tables e below (T7.setTop (mkF m 15 #[.val (.int p1), .val (.int p2), .val (.int p3), .val (.int p4), .val (.int p5), .val (.int p6), .val (.int (p3 ^^^ p4)), .val (.int (p1 &&& (7 : Int32))), .unset, .unset, .unset, .unset, .unset, .unset] [(.ref b7), (.ref b7)])) _
    refine st8.trans ?_
    show Steps p.tables e below (T8.setTop (mkF m 18 #[.val (.int p1), .val (.int p2), .val (.int p3), .val (.int p4), .val (.int p5), .val (.int p6), .val (.int (p3 ^^^ p4)), .val (.int (p1 &&& (7 : Int32))), .unset, .unset, .unset, .unset, .unset, .unset] [(.ref b7)])) _
    refine XS.astore X8.here hx rfl (hb hby at_18) rfl rfl (l' := #[.val (.int p1), .val (.int p2), .val (.int p3), .val (.int p4), .val (.int p5), .val (.int p6), .val (.int (p3 ^^^ p4)), .val (.int (p1 &&& (7 : Int32))), .val (.ref b7), .unset, .unset, .unset, .unset, .unset]) rfl ?_
    show Steps p.tables e below (T8.setTop (mkF m 20 #[.val (.int p1), .val (.int p2), .val (.int p3), .val (.int p4), .val (.int p5), .val (.int p6), .val (.int (p3 ^^^ p4)), .val (.int (p1 &&& (7 : Int32))), .val (.ref b7), .unset, .unset, .unset, .unset, .unset] [])) _
    refine XS.iconst X8.here hx rfl (hb hby at_20) ?_
    show Steps p.tables e below (T8.setTop (mkF m 21 #[.val (.int p1), .val (.int p2), .val (.int p3), .val (.int p4), .val (.int p5), .val (.int p6), .val (.int (p3 ^^^ p4)), .val (.int (p1 &&& (7 : Int32))), .val (.ref b7), .unset, .unset, .unset, .unset, .unset] [(.int (0 : Int32))])) _
    refine XS.istore X8.here hx rfl (hb hby at_21) rfl (l' := #[.val (.int p1), .val (.int p2), .val (.int p3), .val (.int p4), .val (.int p5), .val (.int p6), .val (.int (p3 ^^^ p4)), .val (.int (p1 &&& (7 : Int32))), .val (.ref b7), .val (.int (0 : Int32)), .unset, .unset, .unset, .unset]) rfl ?_
    show Steps p.tables e below (T8.setTop (mkF m 23 #[.val (.int p1), .val (.int p2), .val (.int p3), .val (.int p4), .val (.int p5), .val (.int p6), .val (.int (p3 ^^^ p4)), .val (.int (p1 &&& (7 : Int32))), .val (.ref b7), .val (.int (0 : Int32)), .unset, .unset, .unset, .unset] [])) _
    refine XS.iconst X8.here hx rfl (hb hby at_23) ?_
    show Steps p.tables e below (T8.setTop (mkF m 24 #[.val (.int p1), .val (.int p2), .val (.int p3), .val (.int p4), .val (.int p5), .val (.int p6), .val (.int (p3 ^^^ p4)), .val (.int (p1 &&& (7 : Int32))), .val (.ref b7), .val (.int (0 : Int32)), .unset, .unset, .unset, .unset] [(.int (0 : Int32))])) _
    refine XS.istore X8.here hx rfl (hb hby at_24) rfl (l' := #[.val (.int p1), .val (.int p2), .val (.int p3), .val (.int p4), .val (.int p5), .val (.int p6), .val (.int (p3 ^^^ p4)), .val (.int (p1 &&& (7 : Int32))), .val (.ref b7), .val (.int (0 : Int32)), .val (.int (0 : Int32)), .unset, .unset, .unset]) rfl ?_
    show Steps p.tables e below (T8.setTop (mkF m 26 #[.val (.int p1), .val (.int p2), .val (.int p3), .val (.int p4), .val (.int p5), .val (.int p6), .val (.int (p3 ^^^ p4)), .val (.int (p1 &&& (7 : Int32))), .val (.ref b7), .val (.int (0 : Int32)), .val (.int (0 : Int32)), .unset, .unset, .unset] [])) _
    refine XS.iconst X8.here hx rfl (hb hby at_26) ?_
    show Steps p.tables e below (T8.setTop (mkF m 27 #[.val (.int p1), .val (.int p2), .val (.int p3), .val (.int p4), .val (.int p5), .val (.int p6), .val (.int (p3 ^^^ p4)), .val (.int (p1 &&& (7 : Int32))), .val (.ref b7), .val (.int (0 : Int32)), .val (.int (0 : Int32)), .unset, .unset, .unset] [(.int (0 : Int32))])) _
    refine XS.istore X8.here hx rfl (hb hby at_27) rfl (l' := #[.val (.int p1), .val (.int p2), .val (.int p3), .val (.int p4), .val (.int p5), .val (.int p6), .val (.int (p3 ^^^ p4)), .val (.int (p1 &&& (7 : Int32))), .val (.ref b7), .val (.int (0 : Int32)), .val (.int (0 : Int32)), .val (.int (0 : Int32)), .unset, .unset]) rfl ?_
    show Steps p.tables e below (T8.setTop (mkF m 29 #[.val (.int p1), .val (.int p2), .val (.int p3), .val (.int p4), .val (.int p5), .val (.int p6), .val (.int (p3 ^^^ p4)), .val (.int (p1 &&& (7 : Int32))), .val (.ref b7), .val (.int (0 : Int32)), .val (.int (0 : Int32)), .val (.int (0 : Int32)), .unset, .unset] [])) _
    refine XS.iload X8.here hx rfl (hb hby at_29) rfl ?_
    show Steps p.tables e below (T8.setTop (mkF m 31 #[.val (.int p1), .val (.int p2), .val (.int p3), .val (.int p4), .val (.int p5), .val (.int p6), .val (.int (p3 ^^^ p4)), .val (.int (p1 &&& (7 : Int32))), .val (.ref b7), .val (.int (0 : Int32)), .val (.int (0 : Int32)), .val (.int (0 : Int32)), .unset, .unset] [(.int (p1 &&& (7 : Int32)))])) _
    refine XS.ifYes X8.here hx rfl (pc0 := 31) (pc' := 40) rfl (hb hby at_31) rfl ((if0 _ _).trans (feq hc31).2) (by decide) (by decide) ?_
    show Steps p.tables e below (T8.setTop (mkF m 40 #[.val (.int p1), .val (.int p2), .val (.int p3), .val (.int p4), .val (.int p5), .val (.int p6), .val (.int (p3 ^^^ p4)), .val (.int (p1 &&& (7 : Int32))), .val (.ref b7), .val (.int (0 : Int32)), .val (.int (0 : Int32)), .val (.int (0 : Int32)), .unset, .unset] [])) _
    refine XS.iload X8.here hx rfl (hb hby at_40) rfl ?_
    show Steps p.tables e below (T8.setTop (mkF m 42 #[.val (.int p1), .val (.int p2), .val (.int p3), .val (.int p4), .val (.int p5), .val (.int p6), .val (.int (p3 ^^^ p4)), .val (.int (p1 &&& (7 : Int32))), .val (.ref b7), .val (.int (0 : Int32)), .val (.int (0 : Int32)), .val (.int (0 : Int32)), .unset, .unset] [(.int (p1 &&& (7 : Int32)))])) _
    refine XS.iconst X8.here hx rfl (hb hby at_42) ?_
    show Steps p.tables e below (T8.setTop (mkF m 43 #[.val (.int p1), .val (.int p2), .val (.int p3), .val (.int p4), .val (.int p5), .val (.int p6), .val (.int (p3 ^^^ p4)), .val (.int (p1 &&& (7 : Int32))), .val (.ref b7), .val (.int (0 : Int32)), .val (.int (0 : Int32)), .val (.int (0 : Int32)), .unset, .unset] [(.int (1 : Int32)), (.int (p1 &&& (7 : Int32)))])) _
    refine XS.icmpNo X8.here hx rfl (hb hby at_43) rfl (teq hc43).2 ?_
    show Steps p.tables e below (T8.setTop (mkF m 46 #[.val (.int p1), .val (.int p2), .val (.int p3), .val (.int p4), .val (.int p5), .val (.int p6), .val (.int (p3 ^^^ p4)), .val (.int (p1 &&& (7 : Int32))), .val (.ref b7), .val (.int (0 : Int32)), .val (.int (0 : Int32)), .val (.int (0 : Int32)), .unset, .unset] [])) _
    refine XS.aload X8.here hx rfl (hb hby at_46) rfl rfl ?_
    show Steps p.tables e below (T8.setTop (mkF m 48 #[.val (.int p1), .val (.int p2), .val (.int p3), .val (.int p4), .val (.int p5), .val (.int p6), .val (.int (p3 ^^^ p4)), .val (.int (p1 &&& (7 : Int32))), .val (.ref b7), .val (.int (0 : Int32)), .val (.int (0 : Int32)), .val (.int (0 : Int32)), .unset, .unset] [(.ref b7)])) _
    refine XS.iloadN X8.here hx rfl (hb hby at_48) rfl ?_
    show Steps p.tables e below (T8.setTop (mkF m 49 #[.val (.int p1), .val (.int p2), .val (.int p3), .val (.int p4), .val (.int p5), .val (.int p6), .val (.int (p3 ^^^ p4)), .val (.int (p1 &&& (7 : Int32))), .val (.ref b7), .val (.int (0 : Int32)), .val (.int (0 : Int32)), .val (.int (0 : Int32)), .unset, .unset] [(.int p2), (.ref b7)])) _
    refine XS.iloadN X8.here hx rfl (hb hby at_49) rfl ?_
    show Steps p.tables e below (T8.setTop (mkF m 50 #[.val (.int p1), .val (.int p2), .val (.int p3), .val (.int p4), .val (.int p5), .val (.int p6), .val (.int (p3 ^^^ p4)), .val (.int (p1 &&& (7 : Int32))), .val (.ref b7), .val (.int (0 : Int32)), .val (.int (0 : Int32)), .val (.int (0 : Int32)), .unset, .unset] [(.int p3), (.int p2), (.ref b7)])) _
    refine st9.trans ?_
    show Steps p.tables e below (T9.setTop (mkF m 53 #[.val (.int p1), .val (.int p2), .val (.int p3), .val (.int p4), .val (.int p5), .val (.int p6), .val (.int (p3 ^^^ p4)), .val (.int (p1 &&& (7 : Int32))), .val (.ref b7), .val (.int (0 : Int32)), .val (.int (0 : Int32)), .val (.int (0 : Int32)), .unset, .unset] [])) _
    refine XS.iconst X9.here hx rfl (hb hby at_53) ?_
    show Steps p.tables e below (T9.setTop (mkF m 54 #[.val (.int p1), .val (.int p2), .val (.int p3), .val (.int p4), .val (.int p5), .val (.int p6), .val (.int (p3 ^^^ p4)), .val (.int (p1 &&& (7 : Int32))), .val (.ref b7), .val (.int (0 : Int32)), .val (.int (0 : Int32)), .val (.int (0 : Int32)), .unset, .unset] [(.int (1 : Int32))])) _
    refine XS.istore X9.here hx rfl (hb hby at_54) rfl (l' := #[.val (.int p1), .val (.int p2), .val (.int p3), .val (.int p4), .val (.int p5), .val (.int p6), .val (.int (p3 ^^^ p4)), .val (.int (p1 &&& (7 : Int32))), .val (.ref b7), .val (.int (1 : Int32)), .val (.int (0 : Int32)), .val (.int (0 : Int32)), .unset, .unset]) rfl ?_
    show Steps p.tables e below (T9.setTop (mkF m 56 #[.val (.int p1), .val (.int p2), .val (.int p3), .val (.int p4), .val (.int p5), .val (.int p6), .val (.int (p3 ^^^ p4)), .val (.int (p1 &&& (7 : Int32))), .val (.ref b7), .val (.int (1 : Int32)), .val (.int (0 : Int32)), .val (.int (0 : Int32)), .unset, .unset] [])) _
    refine XS.iloadN X9.here hx rfl (hb hby at_56) rfl ?_
    show Steps p.tables e below (T9.setTop (mkF m 57 #[.val (.int p1), .val (.int p2), .val (.int p3), .val (.int p4), .val (.int p5), .val (.int p6), .val (.int (p3 ^^^ p4)), .val (.int (p1 &&& (7 : Int32))), .val (.ref b7), .val (.int (1 : Int32)), .val (.int (0 : Int32)), .val (.int (0 : Int32)), .unset, .unset] [(.int p2)])) _
    refine XS.istore X9.here hx rfl (hb hby at_57) rfl (l' := #[.val (.int p1), .val (.int p2), .val (.int p3), .val (.int p4), .val (.int p5), .val (.int p6), .val (.int (p3 ^^^ p4)), .val (.int (p1 &&& (7 : Int32))), .val (.ref b7), .val (.int (1 : Int32)), .val (.int p2), .val (.int (0 : Int32)), .unset, .unset]) rfl ?_
    show Steps p.tables e below (T9.setTop (mkF m 59 #[.val (.int p1), .val (.int p2), .val (.int p3), .val (.int p4), .val (.int p5), .val (.int p6), .val (.int (p3 ^^^ p4)), .val (.int (p1 &&& (7 : Int32))), .val (.ref b7), .val (.int (1 : Int32)), .val (.int p2), .val (.int (0 : Int32)), .unset, .unset] [])) _
    refine XS.iloadN X9.here hx rfl (hb hby at_59) rfl ?_
    show Steps p.tables e below (T9.setTop (mkF m 60 #[.val (.int p1), .val (.int p2), .val (.int p3), .val (.int p4), .val (.int p5), .val (.int p6), .val (.int (p3 ^^^ p4)), .val (.int (p1 &&& (7 : Int32))), .val (.ref b7), .val (.int (1 : Int32)), .val (.int p2), .val (.int (0 : Int32)), .unset, .unset] [(.int p3)])) _
    refine XS.istore X9.here hx rfl (hb hby at_60) rfl (l' := #[.val (.int p1), .val (.int p2), .val (.int p3), .val (.int p4), .val (.int p5), .val (.int p6), .val (.int (p3 ^^^ p4)), .val (.int (p1 &&& (7 : Int32))), .val (.ref b7), .val (.int (1 : Int32)), .val (.int p2), .val (.int p3), .unset, .unset]) rfl ?_
    show Steps p.tables e below (T9.setTop (mkF m 62 #[.val (.int p1), .val (.int p2), .val (.int p3), .val (.int p4), .val (.int p5), .val (.int p6), .val (.int (p3 ^^^ p4)), .val (.int (p1 &&& (7 : Int32))), .val (.ref b7), .val (.int (1 : Int32)), .val (.int p2), .val (.int p3), .unset, .unset] [])) _
    refine XS.goto X9.here hx rfl (pc0 := 62) (pc' := 275) rfl (hb hby at_62) (by decide) (by decide) ?_
    show Steps p.tables e below (T9.setTop (mkF m 275 #[.val (.int p1), .val (.int p2), .val (.int p3), .val (.int p4), .val (.int p5), .val (.int p6), .val (.int (p3 ^^^ p4)), .val (.int (p1 &&& (7 : Int32))), .val (.ref b7), .val (.int (1 : Int32)), .val (.int p2), .val (.int p3), .unset, .unset] [])) _
    refine XS.aload X9.here hx rfl (hb hby at_275) rfl rfl ?_
    show Steps p.tables e below (T9.setTop (mkF m 277 #[.val (.int p1), .val (.int p2), .val (.int p3), .val (.int p4), .val (.int p5), .val (.int p6), .val (.int (p3 ^^^ p4)), .val (.int (p1 &&& (7 : Int32))), .val (.ref b7), .val (.int (1 : Int32)), .val (.int p2), .val (.int p3), .unset, .unset] [(.ref b7)])) _
    refine XS.iload X9.here hx rfl (hb hby at_277) rfl ?_
    show Steps p.tables e below (T9.setTop (mkF m 279 #[.val (.int p1), .val (.int p2), .val (.int p3), .val (.int p4), .val (.int p5), .val (.int p6), .val (.int (p3 ^^^ p4)), .val (.int (p1 &&& (7 : Int32))), .val (.ref b7), .val (.int (1 : Int32)), .val (.int p2), .val (.int p3), .unset, .unset] [(.int p5), (.ref b7)])) _
    refine XS.iload X9.here hx rfl (hb hby at_279) rfl ?_
    show Steps p.tables e below (T9.setTop (mkF m 281 #[.val (.int p1), .val (.int p2), .val (.int p3), .val (.int p4), .val (.int p5), .val (.int p6), .val (.int (p3 ^^^ p4)), .val (.int (p1 &&& (7 : Int32))), .val (.ref b7), .val (.int (1 : Int32)), .val (.int p2), .val (.int p3), .unset, .unset] [(.int p6), (.int p5), (.ref b7)])) _
    refine st10.trans ?_
    show Steps p.tables e below (T10.setTop (mkF m 284 #[.val (.int p1), .val (.int p2), .val (.int p3), .val (.int p4), .val (.int p5), .val (.int p6), .val (.int (p3 ^^^ p4)), .val (.int (p1 &&& (7 : Int32))), .val (.ref b7), .val (.int (1 : Int32)), .val (.int p2), .val (.int p3), .unset, .unset] [(.int (own_fb (0 : Int32) (1 : Int32) p2 p3 p5 p6))])) _
    refine XS.istore X10.here hx rfl (hb hby at_284) rfl (l' := #[.val (.int p1), .val (.int p2), .val (.int p3), .val (.int p4), .val (.int p5), .val (.int p6), .val (.int (p3 ^^^ p4)), .val (.int (p1 &&& (7 : Int32))), .val (.ref b7), .val (.int (1 : Int32)), .val (.int p2), .val (.int p3), .val (.int (own_fb (0 : Int32) (1 : Int32) p2 p3 p5 p6)), .unset]) rfl ?_
    show Steps p.tables e below (T10.setTop (mkF m 286 #[.val (.int p1), .val (.int p2), .val (.int p3), .val (.int p4), .val (.int p5), .val (.int p6), .val (.int (p3 ^^^ p4)), .val (.int (p1 &&& (7 : Int32))), .val (.ref b7), .val (.int (1 : Int32)), .val (.int p2), .val (.int p3), .val (.int (own_fb (0 : Int32) (1 : Int32) p2 p3 p5 p6)), .unset] [])) _
    refine XS.iload X10.here hx rfl (hb hby at_286) rfl ?_
    show Steps p.tables e below (T10.setTop (mkF m 288 #[.val (.int p1), .val (.int p2), .val (.int p3), .val (.int p4), .val (.int p5), .val (.int p6), .val (.int (p3 ^^^ p4)), .val (.int (p1 &&& (7 : Int32))), .val (.ref b7), .val (.int (1 : Int32)), .val (.int p2), .val (.int p3), .val (.int (own_fb (0 : Int32) (1 : Int32) p2 p3 p5 p6)), .unset] [(.int (1 : Int32))])) _
    refine XS.ifNo X10.here hx rfl (hb hby at_288) rfl ((if0 _ _).trans (feq hc288).1) ?_
    show Steps p.tables e below (T10.setTop (mkF m 291 #[.val (.int p1), .val (.int p2), .val (.int p3), .val (.int p4), .val (.int p5), .val (.int p6), .val (.int (p3 ^^^ p4)), .val (.int (p1 &&& (7 : Int32))), .val (.ref b7), .val (.int (1 : Int32)), .val (.int p2), .val (.int p3), .val (.int (own_fb (0 : Int32) (1 : Int32) p2 p3 p5 p6)), .unset] [])) _
    refine XS.iload X10.here hx rfl (hb hby at_291) rfl ?_
    show Steps p.tables e below (T10.setTop (mkF m 293 #[.val (.int p1), .val (.int p2), .val (.int p3), .val (.int p4), .val (.int p5), .val (.int p6), .val (.int (p3 ^^^ p4)), .val (.int (p1 &&& (7 : Int32))), .val (.ref b7), .val (.int (1 : Int32)), .val (.int p2), .val (.int p3), .val (.int (own_fb (0 : Int32) (1 : Int32) p2 p3 p5 p6)), .unset] [(.int p2)])) _
    refine XS.iload X10.here hx rfl (hb hby at_293) rfl ?_
    show Steps p.tables e below (T10.setTop (mkF m 295 #[.val (.int p1), .val (.int p2), .val (.int p3), .val (.int p4), .val (.int p5), .val (.int p6), .val (.int (p3 ^^^ p4)), .val (.int (p1 &&& (7 : Int32))), .val (.ref b7), .val (.int (1 : Int32)), .val (.int p2), .val (.int p3), .val (.int (own_fb (0 : Int32) (1 : Int32) p2 p3 p5 p6)), .unset] [(.int p3), (.int p2)])) _
    refine st11 _ ?_
    show Steps p.tables e below (T11.setTop (mkF m 298 #[.val (.int p1), .val (.int p2), .val (.int p3), .val (.int p4), .val (.int p5), .val (.int p6), .val (.int (p3 ^^^ p4)), .val (.int (p1 &&& (7 : Int32))), .val (.ref b7), .val (.int (1 : Int32)), .val (.int p2), .val (.int p3), .val (.int (own_fb (0 : Int32) (1 : Int32) p2 p3 p5 p6)), .unset] [(.long (own_key p2 p3))])) _
    refine XS.iload X11.here hx rfl (hb hby at_298) rfl ?_
    show Steps p.tables e below (T11.setTop (mkF m 300 #[.val (.int p1), .val (.int p2), .val (.int p3), .val (.int p4), .val (.int p5), .val (.int p6), .val (.int (p3 ^^^ p4)), .val (.int (p1 &&& (7 : Int32))), .val (.ref b7), .val (.int (1 : Int32)), .val (.int p2), .val (.int p3), .val (.int (own_fb (0 : Int32) (1 : Int32) p2 p3 p5 p6)), .unset] [(.int p5), (.long (own_key p2 p3))])) _
    refine XS.iload X11.here hx rfl (hb hby at_300) rfl ?_
    show Steps p.tables e below (T11.setTop (mkF m 302 #[.val (.int p1), .val (.int p2), .val (.int p3), .val (.int p4), .val (.int p5), .val (.int p6), .val (.int (p3 ^^^ p4)), .val (.int (p1 &&& (7 : Int32))), .val (.ref b7), .val (.int (1 : Int32)), .val (.int p2), .val (.int p3), .val (.int (own_fb (0 : Int32) (1 : Int32) p2 p3 p5 p6)), .unset] [(.int p6), (.int p5), (.long (own_key p2 p3))])) _
    refine st12 _ ?_
    show Steps p.tables e below (T12.setTop (mkF m 305 #[.val (.int p1), .val (.int p2), .val (.int p3), .val (.int p4), .val (.int p5), .val (.int p6), .val (.int (p3 ^^^ p4)), .val (.int (p1 &&& (7 : Int32))), .val (.ref b7), .val (.int (1 : Int32)), .val (.int p2), .val (.int p3), .val (.int (own_fb (0 : Int32) (1 : Int32) p2 p3 p5 p6)), .unset] [(.long (own_key p5 p6)), (.long (own_key p2 p3))])) _
    refine XS.lcmp X12.here hx rfl (hb hby at_305) rfl ?_
    show Steps p.tables e below (T12.setTop (mkF m 306 #[.val (.int p1), .val (.int p2), .val (.int p3), .val (.int p4), .val (.int p5), .val (.int p6), .val (.int (p3 ^^^ p4)), .val (.int (p1 &&& (7 : Int32))), .val (.ref b7), .val (.int (1 : Int32)), .val (.int p2), .val (.int p3), .val (.int (own_fb (0 : Int32) (1 : Int32) p2 p3 p5 p6)), .unset] [(.int (lcmpW (own_key p2 p3) (own_key p5 p6)))])) _
    by_cases hlt : (lcmpW (own_key p2 p3) (own_key p5 p6)) < (0 : Int32)
    · refine XS.ifNo X12.here hx rfl (hb hby at_306) rfl ((if0 _ _).trans (tlt (hlt : (lcmpW (own_key p2 p3) (own_key p5 p6)) < (0 : Int32))).2.1) ?_
      show Steps p.tables e below (T12.setTop (mkF m 309 #[.val (.int p1), .val (.int p2), .val (.int p3), .val (.int p4), .val (.int p5), .val (.int p6), .val (.int (p3 ^^^ p4)), .val (.int (p1 &&& (7 : Int32))), .val (.ref b7), .val (.int (1 : Int32)), .val (.int p2), .val (.int p3), .val (.int (own_fb (0 : Int32) (1 : Int32) p2 p3 p5 p6)), .unset] [])) _
      refine XS.iconst X12.here hx rfl (hb hby at_309) ?_
      show Steps p.tables e below (T12.setTop (mkF m 310 #[.val (.int p1), .val (.int p2), .val (.int p3), .val (.int p4), .val (.int p5), .val (.int p6), .val (.int (p3 ^^^ p4)), .val (.int (p1 &&& (7 : Int32))), .val (.ref b7), .val (.int (1 : Int32)), .val (.int p2), .val (.int p3), .val (.int (own_fb (0 : Int32) (1 : Int32) p2 p3 p5 p6)), .unset] [(.int (1 : Int32))])) _
      refine XS.goto X12.here hx rfl (pc0 := 310) (pc' := 314) rfl (hb hby at_310) (by decide) (by decide) ?_
      show Steps p.tables e below (T12.setTop (mkF m 314 #[.val (.int p1), .val (.int p2), .val (.int p3), .val (.int p4), .val (.int p5), .val (.int p6), .val (.int (p3 ^^^ p4)), .val (.int (p1 &&& (7 : Int32))), .val (.ref b7), .val (.int (1 : Int32)), .val (.int p2), .val (.int p3), .val (.int (own_fb (0 : Int32) (1 : Int32) p2 p3 p5 p6)), .unset] [(.int (1 : Int32))])) _
      refine XS.istore X12.here hx rfl (hb hby at_314) rfl (l' := #[.val (.int p1), .val (.int p2), .val (.int p3), .val (.int p4), .val (.int p5), .val (.int p6), .val (.int (p3 ^^^ p4)), .val (.int (p1 &&& (7 : Int32))), .val (.ref b7), .val (.int (1 : Int32)), .val (.int p2), .val (.int p3), .val (.int (own_fb (0 : Int32) (1 : Int32) p2 p3 p5 p6)), .val (.int (1 : Int32))]) rfl ?_
      show Steps p.tables e below (T12.setTop (mkF m 316 #[.val (.int p1), .val (.int p2), .val (.int p3), .val (.int p4), .val (.int p5), .val (.int p6), .val (.int (p3 ^^^ p4)), .val (.int (p1 &&& (7 : Int32))), .val (.ref b7), .val (.int (1 : Int32)), .val (.int p2), .val (.int p3), .val (.int (own_fb (0 : Int32) (1 : Int32) p2 p3 p5 p6)), .val (.int (1 : Int32))] [])) _
      refine XS.iload X12.here hx rfl (hb hby at_316) rfl ?_
      show Steps p.tables e below (T12.setTop (mkF m 318 #[.val (.int p1), .val (.int p2), .val (.int p3), .val (.int p4), .val (.int p5), .val (.int p6), .val (.int (p3 ^^^ p4)), .val (.int (p1 &&& (7 : Int32))), .val (.ref b7), .val (.int (1 : Int32)), .val (.int p2), .val (.int p3), .val (.int (own_fb (0 : Int32) (1 : Int32) p2 p3 p5 p6)), .val (.int (1 : Int32))] [(.int (own_fb (0 : Int32) (1 : Int32) p2 p3 p5 p6))])) _
      refine XS.iload X12.here hx rfl (hb hby at_318) rfl ?_
      show Steps p.tables e below (T12.setTop (mkF m 320 #[.val (.int p1), .val (.int p2), .val (.int p3), .val (.int p4), .val (.int p5), .val (.int p6), .val (.int (p3 ^^^ p4)), .val (.int (p1 &&& (7 : Int32))), .val (.ref b7), .val (.int (1 : Int32)), .val (.int p2), .val (.int p3), .val (.int (own_fb (0 : Int32) (1 : Int32) p2 p3 p5 p6)), .val (.int (1 : Int32))] [(.int (1 : Int32)), (.int (own_fb (0 : Int32) (1 : Int32) p2 p3 p5 p6))])) _
      refine XS.icmpNo X12.here hx rfl (hb hby at_320) rfl (teq (own_yes (by decide) hlt : (own_fb (0 : Int32) (1 : Int32) p2 p3 p5 p6) = (1 : Int32))).2 ?_
      show Steps p.tables e below (T12.setTop (mkF m 323 #[.val (.int p1), .val (.int p2), .val (.int p3), .val (.int p4), .val (.int p5), .val (.int p6), .val (.int (p3 ^^^ p4)), .val (.int (p1 &&& (7 : Int32))), .val (.ref b7), .val (.int (1 : Int32)), .val (.int p2), .val (.int p3), .val (.int (own_fb (0 : Int32) (1 : Int32) p2 p3 p5 p6)), .val (.int (1 : Int32))] [])) _
      refine XS.iconst X12.here hx rfl (hb hby at_323) ?_
      show Steps p.tables e below (T12.setTop (mkF m 324 #[.val (.int p1), .val (.int p2), .val (.int p3), .val (.int p4), .val (.int p5), .val (.int p6), .val (.int (p3 ^^^ p4)), .val (.int (p1 &&& (7 : Int32))), .val (.ref b7), .val (.int (1 : Int32)), .val (.int p2), .val (.int p3), .val (.int (own_fb (0 : Int32) (1 : Int32) p2 p3 p5 p6)), .val (.int (1 : Int32))] [(.int (1 : Int32))])) _
      refine XS.goto X12.here hx rfl (pc0 := 324) (pc' := 328) rfl (hb hby at_324) (by decide) (by decide) ?_
      show Steps p.tables e below (T12.setTop (mkF m 328 #[.val (.int p1), .val (.int p2), .val (.int p3), .val (.int p4), .val (.int p5), .val (.int p6), .val (.int (p3 ^^^ p4)), .val (.int (p1 &&& (7 : Int32))), .val (.ref b7), .val (.int (1 : Int32)), .val (.int p2), .val (.int p3), .val (.int (own_fb (0 : Int32) (1 : Int32) p2 p3 p5 p6)), .val (.int (1 : Int32))] [(.int (1 : Int32))])) _
      exact retN X12 hx (t := .boolean) Bd.returns (by simp) (hb hby at_328) hr
    · refine XS.ifYes X12.here hx rfl (pc0 := 306) (pc' := 313) rfl (hb hby at_306) rfl ((if0 _ _).trans (flt (hlt : ¬ ((lcmpW (own_key p2 p3) (own_key p5 p6)) < (0 : Int32)))).2.1) (by decide) (by decide) ?_
      show Steps p.tables e below (T12.setTop (mkF m 313 #[.val (.int p1), .val (.int p2), .val (.int p3), .val (.int p4), .val (.int p5), .val (.int p6), .val (.int (p3 ^^^ p4)), .val (.int (p1 &&& (7 : Int32))), .val (.ref b7), .val (.int (1 : Int32)), .val (.int p2), .val (.int p3), .val (.int (own_fb (0 : Int32) (1 : Int32) p2 p3 p5 p6)), .unset] [])) _
      refine XS.iconst X12.here hx rfl (hb hby at_313) ?_
      show Steps p.tables e below (T12.setTop (mkF m 314 #[.val (.int p1), .val (.int p2), .val (.int p3), .val (.int p4), .val (.int p5), .val (.int p6), .val (.int (p3 ^^^ p4)), .val (.int (p1 &&& (7 : Int32))), .val (.ref b7), .val (.int (1 : Int32)), .val (.int p2), .val (.int p3), .val (.int (own_fb (0 : Int32) (1 : Int32) p2 p3 p5 p6)), .unset] [(.int (0 : Int32))])) _
      refine XS.istore X12.here hx rfl (hb hby at_314) rfl (l' := #[.val (.int p1), .val (.int p2), .val (.int p3), .val (.int p4), .val (.int p5), .val (.int p6), .val (.int (p3 ^^^ p4)), .val (.int (p1 &&& (7 : Int32))), .val (.ref b7), .val (.int (1 : Int32)), .val (.int p2), .val (.int p3), .val (.int (own_fb (0 : Int32) (1 : Int32) p2 p3 p5 p6)), .val (.int (0 : Int32))]) rfl ?_
      show Steps p.tables e below (T12.setTop (mkF m 316 #[.val (.int p1), .val (.int p2), .val (.int p3), .val (.int p4), .val (.int p5), .val (.int p6), .val (.int (p3 ^^^ p4)), .val (.int (p1 &&& (7 : Int32))), .val (.ref b7), .val (.int (1 : Int32)), .val (.int p2), .val (.int p3), .val (.int (own_fb (0 : Int32) (1 : Int32) p2 p3 p5 p6)), .val (.int (0 : Int32))] [])) _
      refine XS.iload X12.here hx rfl (hb hby at_316) rfl ?_
      show Steps p.tables e below (T12.setTop (mkF m 318 #[.val (.int p1), .val (.int p2), .val (.int p3), .val (.int p4), .val (.int p5), .val (.int p6), .val (.int (p3 ^^^ p4)), .val (.int (p1 &&& (7 : Int32))), .val (.ref b7), .val (.int (1 : Int32)), .val (.int p2), .val (.int p3), .val (.int (own_fb (0 : Int32) (1 : Int32) p2 p3 p5 p6)), .val (.int (0 : Int32))] [(.int (own_fb (0 : Int32) (1 : Int32) p2 p3 p5 p6))])) _
      refine XS.iload X12.here hx rfl (hb hby at_318) rfl ?_
      show Steps p.tables e below (T12.setTop (mkF m 320 #[.val (.int p1), .val (.int p2), .val (.int p3), .val (.int p4), .val (.int p5), .val (.int p6), .val (.int (p3 ^^^ p4)), .val (.int (p1 &&& (7 : Int32))), .val (.ref b7), .val (.int (1 : Int32)), .val (.int p2), .val (.int p3), .val (.int (own_fb (0 : Int32) (1 : Int32) p2 p3 p5 p6)), .val (.int (0 : Int32))] [(.int (0 : Int32)), (.int (own_fb (0 : Int32) (1 : Int32) p2 p3 p5 p6))])) _
      refine XS.icmpNo X12.here hx rfl (hb hby at_320) rfl (teq (own_no (by decide) hlt : (own_fb (0 : Int32) (1 : Int32) p2 p3 p5 p6) = (0 : Int32))).2 ?_
      show Steps p.tables e below (T12.setTop (mkF m 323 #[.val (.int p1), .val (.int p2), .val (.int p3), .val (.int p4), .val (.int p5), .val (.int p6), .val (.int (p3 ^^^ p4)), .val (.int (p1 &&& (7 : Int32))), .val (.ref b7), .val (.int (1 : Int32)), .val (.int p2), .val (.int p3), .val (.int (own_fb (0 : Int32) (1 : Int32) p2 p3 p5 p6)), .val (.int (0 : Int32))] [])) _
      refine XS.iconst X12.here hx rfl (hb hby at_323) ?_
      show Steps p.tables e below (T12.setTop (mkF m 324 #[.val (.int p1), .val (.int p2), .val (.int p3), .val (.int p4), .val (.int p5), .val (.int p6), .val (.int (p3 ^^^ p4)), .val (.int (p1 &&& (7 : Int32))), .val (.ref b7), .val (.int (1 : Int32)), .val (.int p2), .val (.int p3), .val (.int (own_fb (0 : Int32) (1 : Int32) p2 p3 p5 p6)), .val (.int (0 : Int32))] [(.int (1 : Int32))])) _
      refine XS.goto X12.here hx rfl (pc0 := 324) (pc' := 328) rfl (hb hby at_324) (by decide) (by decide) ?_
      show Steps p.tables e below (T12.setTop (mkF m 328 #[.val (.int p1), .val (.int p2), .val (.int p3), .val (.int p4), .val (.int p5), .val (.int p6), .val (.int (p3 ^^^ p4)), .val (.int (p1 &&& (7 : Int32))), .val (.ref b7), .val (.int (1 : Int32)), .val (.int p2), .val (.int p3), .val (.int (own_fb (0 : Int32) (1 : Int32) p2 p3 p5 p6)), .val (.int (0 : Int32))] [(.int (1 : Int32))])) _
      exact retN X12 hx (t := .boolean) Bd.returns (by simp) (hb hby at_328) hr
  · show Q0 Z p1 p2 p3 p4 p5 p6 h0 n0 _ T12.heap _
    exact ⟨rfl, N12⟩
set_option maxRecDepth 65536 in
set_option maxHeartbeats 40000000 in
theorem rm0_2 (l : Launch) (Z : State) (a0 : Array Value) (hw : ∀ d ∈ tables_1, d.before a0 Z = true) (ws : List Jvm.Cond) (p1 : Int32) (p2 : Int32) (p3 : Int32) (p4 : Int32) (p5 : Int32) (p6 : Int32) (h0 : Heap) (n0 : Nat) (Z0 : n0 ≤ h0.size) (hc31 : ¬ ((p1 &&& (7 : Int32)) = (0 : Int32))) (hc43 : ¬ ((p1 &&& (7 : Int32)) = (1 : Int32))) (hc68 : (p1 &&& (7 : Int32)) = (2 : Int32)) (hc288 : ¬ ((1 : Int32) = (0 : Int32))) :
    MetFree l x (head1 (Jvm.Cond.code x code maxLocals ret :: ws) room_1) (fun a U => a = #[(.int p1), (.int p2), (.int p3), (.int p4), (.int p5), (.int p6)] ∧ Z.Warmed39 U.vm ∧ U.heap = h0) (fun _ _ _ _ _ => True) (fun _ U o U' => ∃ v L, o = .returned v ∧ Q0 Z p1 p2 p3 p4 p5 p6 h0 n0 v U'.heap L ∧ FrameEnd U o U' L room_1.cells room_1.slots) := by
  refine MetFree.of_bodySF (plainFor_of_name pn_0) hisR ?_
  intro p e s m args below meth c s₁ Bd hml0 hP hK
  obtain ⟨rfl, hZ, hh⟩ := hP
  have hx := Bd.exec
  have hby := Bd.bytes
  have hml : c.maxLocals = 14 := hml0
  have hown : s.vm.findClass "overmark/NotedPlacesFirstBeforePinLaw" = some m.cls := findClass_of_methodNamed Bd.named
  have hnm := (name_of_methodNamed Bd.named Bd.method).1
  have X0 : Stand p l e room_1 s m #[(.int p1), (.int p2), (.int p3), (.int p4), (.int p5), (.int p6)] below meth c s₁ [] 0 0 := Stand.of_body Bd
  have e0 : s₁.heap = h0 := by rw [← hh, Bd.state]; rfl
  have N0 := Fr.nil n0
  have pre0 : ∀ t, Steps p.tables e below (s₁.setTop (mkF m 0 #[.val (.int p1), .val (.int p2), .val (.int p3), .val (.int p4), .val (.int p5), .val (.int p6), .unset, .unset, .unset, .unset, .unset, .unset, .unset, .unset] [])) t → Steps p.tables e below (s₁.setTop (entryFrame m #[(.int p1), (.int p2), (.int p3), (.int p4), (.int p5), (.int p6)] maxLocals)) t := fun t k => castTop (ef_0 m p1 p2 p3 p4 p5 p6) k
  obtain ⟨T7, h7, X7, e7, E7, A7, D7, -, st7⟩ := newO X0 hx hZ hown (hw _ (List.mem_of_getElem? (i := 0) rfl)) (hw _ (List.mem_of_getElem? (i := 1) rfl)) (hw _ (List.mem_of_getElem? (i := 2) rfl)) e0 (g := (mkF m 11 #[.val (.int p1), .val (.int p2), .val (.int p3), .val (.int p4), .val (.int p5), .val (.int p6), .val (.int (p3 ^^^ p4)), .val (.int (p1 &&& (7 : Int32))), .unset, .unset, .unset, .unset, .unset, .unset] [])) rfl (hb hby at_11) (by decide) (by decide)
  obtain ⟨b7, g7⟩ : ∃ z, z = h0.size := ⟨_, rfl⟩
  rw [← g7] at A7 D7 st7
  have F_lines_b7 : Fld Z h7 b7 "overmark/NotedPlaces" "lines" "[I" .null := D7 (Or.inl (hw _ (List.mem_of_getElem? (i := 11) rfl))) (ty := (.array .int)) (by decide)
  have F_columns_b7 : Fld Z h7 b7 "overmark/NotedPlaces" "columns" "[I" .null := D7 (Or.inl (hw _ (List.mem_of_getElem? (i := 13) rfl))) (ty := (.array .int)) (by decide)
  have F_labels_b7 : Fld Z h7 b7 "overmark/NotedPlaces" "labels" "[Ljava/lang/String;" .null := D7 (Or.inl (hw _ (List.mem_of_getElem? (i := 17) rfl))) (ty := (.array (.object "java/lang/String"))) (by decide)
  have F_first_b7 : Fld Z h7 b7 "overmark/NotedPlaces" "first" "I" (.int (0 : Int32)) := D7 (Or.inl (hw _ (List.mem_of_getElem? (i := 24) rfl))) (ty := .int) (by decide)
  have F_end_b7 : Fld Z h7 b7 "overmark/NotedPlaces" "end" "I" (.int (0 : Int32)) := D7 (Or.inl (hw _ (List.mem_of_getElem? (i := 26) rfl))) (ty := .int) (by decide)
  have E_b7 := A7
  have g_b7 : n0 ≤ b7 := Nat.le_trans Z0 (Nat.le_of_eq g7.symm)
  have sz_b7 : h0.size ≤ b7 := (Nat.le_trans (Keep.refl h0 []).1 (Nat.le_of_eq g7.symm))
  have K7 : Keep h0 h7 [] := (Keep.refl h0 []).ext E7
  obtain ⟨_, _, ⟨T8, L8, k8, n8⟩, -, X8, ⟨Lc8, hQ8, l8, y8, z8⟩, st8⟩ := X7.specialBack hx (y := (⟨"overmark/NotedPlaces", "<init>", "()V"⟩ : MethodName)) rfl hown (mvT hZ (hw _ (List.mem_of_getElem? (i := 3) rfl))) (mvT hZ (hw _ (List.mem_of_getElem? (i := 4) rfl))) (mvT hZ (hw _ (List.mem_of_getElem? (i := 5) rfl))) (by decide) (backOf (W := 1) (rm1 l Z a0 hw [] b7 .null .null .null h7 n0 (Nat.le_trans Z0 E7.1) E_b7 F_lines_b7 g_b7 F_columns_b7 F_labels_b7 F_first_b7 F_end_b7) hZ (hw _ (List.mem_of_getElem? (i := 5) rfl)) (hw _ (List.mem_of_getElem? (i := 2) rfl)) (by decide) (by decide)) (g := (mkF m 15 #[.val (.int p1), .val (.int p2), .val (.int p3), .val (.int p4), .val (.int p5), .val (.int p6), .val (.int (p3 ^^^ p4)), .val (.int (p1 &&& (7 : Int32))), .unset, .unset, .unset, .unset, .unset, .unset] [(.ref b7), (.ref b7)])) rfl (by rw [hml]; rfl) (Steps.refl _) (a := b7) (argsL := []) (rest := [(.ref b7)]) (lenOf pd_0_0 rfl) rfl (by show 2 * 0 + _ ≤ _; exact Nat.le_of_eq rfl) (hb hby at_15) (fun _ _ => ⟨rfl, e7, (by decide : 1 + 3 ≤ _), (by decide : 5 + 3072 ≤ _)⟩)
  dsimp only [Pt.U, Pt.locs, Pt.cells, Pt.slots] at X8 l8 y8 z8 st8 hQ8
  subst l8 y8 z8
  obtain ⟨rfl, N8q, hs8, np8⟩ := hQ8
  have Z8 : n0 ≤ T8.heap.size := Nat.le_trans (Nat.le_trans Z0 E7.1) hs8
  have N8 := Fr.app N0 N8q
  obtain ⟨cq9, kq9, q9a, q9b, q9c⟩ := isOf hZ rfl (own_exa np8)
  obtain ⟨_, _, ⟨T9, L9, k9, n9⟩, -, X9, ⟨Lc9, hQ9, l9, y9, z9⟩, st9⟩ := X8.virtualBack hx (y := (⟨"overmark/NotedPlaces", "note", "(II)V"⟩ : MethodName)) (z := (⟨"overmark/NotedPlaces", "note", "(II)V"⟩ : MethodName)) hown (mvT hZ (hw _ (List.mem_of_getElem? (i := 27) rfl))) (mvT hZ (hw _ (List.mem_of_getElem? (i := 28) rfl))) (notFace_of_selects (args := #[]) (mvT hZ (hw _ (List.mem_of_getElem? (i := 30) rfl)))) (mvT hZ (hw _ (List.mem_of_getElem? (i := 30) rfl))) (mvT hZ (hw _ (List.mem_of_getElem? (i := 29) rfl))) (by decide) (backOf (W := 0) (rm4 l Z a0 hw [] b7 p2 p3 (0 : Int32) (0 : Int32) (1 : Int32) 0 [(.int (0 : Int32)), (.int (0 : Int32)), (.int (0 : Int32))] [(.int (0 : Int32)), (.int (0 : Int32)), (.int (0 : Int32))] [.null, .null, .null] T8.heap n0 Z8 np8 rfl (by decide) (by decide) (by decide) (Nat.le_of_ble_eq_true rfl) (Nat.le_of_ble_eq_true rfl) (Nat.le_of_ble_eq_true rfl)) hZ (hw _ (List.mem_of_getElem? (i := 31) rfl)) (hw _ (List.mem_of_getElem? (i := 2) rfl)) (by decide) (by decide)) q9a q9c (g := (mkF m 75 #[.val (.int p1), .val (.int p2), .val (.int p3), .val (.int p4), .val (.int p5), .val (.int p6), .val (.int (p3 ^^^ p4)), .val (.int (p1 &&& (7 : Int32))), .val (.ref b7), .val (.int (0 : Int32)), .val (.int (0 : Int32)), .val (.int (0 : Int32)), .unset, .unset] [(.int p3), (.int p2), (.ref b7)])) rfl (by rw [hml]; rfl) (Steps.refl _) (argsL := [(.int p2), (.int p3)]) (rest := []) (lenOf pd_0_2 rfl) rfl (by show 2 * 0 + _ ≤ _; exact Nat.le_of_eq rfl) (hb hby at_75) (fun _ _ => ⟨rfl, rfl, (by decide : 4 + 0 ≤ _), (by decide : 3077 + 0 ≤ _)⟩)
  dsimp only [Pt.U, Pt.locs, Pt.cells, Pt.slots] at X9 l9 y9 z9 st9 hQ9
  subst l9 y9 z9
  obtain ⟨rfl, N9q, hs9, nq9⟩ := hQ9
  have Z9 : n0 ≤ T9.heap.size := Nat.le_trans Z8 hs9
  have np9 : NP Z T9.heap n0 b7 (0 : Int32) (1 : Int32) [(.int p2), (.int (0 : Int32)), (.int (0 : Int32))] [(.int p3), (.int (0 : Int32)), (.int (0 : Int32))] [.null, .null, .null] := nq9
  have N9 := Fr.app N8 N9q
  obtain ⟨cq10, kq10, q10a, q10b, q10c⟩ := isOf hZ rfl (own_exa np9)
  obtain ⟨_, _, ⟨T10, L10, k10, n10⟩, -, X10, ⟨Lc10, hQ10, l10, y10, z10⟩, st10⟩ := X9.virtualBack hx (y := (⟨"overmark/NotedPlaces", "note", "(II)V"⟩ : MethodName)) (z := (⟨"overmark/NotedPlaces", "note", "(II)V"⟩ : MethodName)) hown (mvT hZ (hw _ (List.mem_of_getElem? (i := 27) rfl))) (mvT hZ (hw _ (List.mem_of_getElem? (i := 28) rfl))) (notFace_of_selects (args := #[]) (mvT hZ (hw _ (List.mem_of_getElem? (i := 30) rfl)))) (mvT hZ (hw _ (List.mem_of_getElem? (i := 30) rfl))) (mvT hZ (hw _ (List.mem_of_getElem? (i := 29) rfl))) (by decide) (backOf (W := 0) (rm4 l Z a0 hw [] b7 p4 (p3 ^^^ p4) (0 : Int32) (1 : Int32) (2 : Int32) 1 [(.int p2), (.int (0 : Int32)), (.int (0 : Int32))] [(.int p3), (.int (0 : Int32)), (.int (0 : Int32))] [.null, .null, .null] T9.heap n0 Z9 np9 rfl (by decide) (by decide) (by decide) (Nat.le_of_ble_eq_true rfl) (Nat.le_of_ble_eq_true rfl) (Nat.le_of_ble_eq_true rfl)) hZ (hw _ (List.mem_of_getElem? (i := 31) rfl)) (hw _ (List.mem_of_getElem? (i := 2) rfl)) (by decide) (by decide)) q10a q10c (g := (mkF m 83 #[.val (.int p1), .val (.int p2), .val (.int p3), .val (.int p4), .val (.int p5), .val (.int p6), .val (.int (p3 ^^^ p4)), .val (.int (p1 &&& (7 : Int32))), .val (.ref b7), .val (.int (0 : Int32)), .val (.int (0 : Int32)), .val (.int (0 : Int32)), .unset, .unset] [(.int (p3 ^^^ p4)), (.int p4), (.ref b7)])) rfl (by rw [hml]; rfl) (Steps.refl _) (argsL := [(.int p4), (.int (p3 ^^^ p4))]) (rest := []) (lenOf pd_0_2 rfl) rfl (by show 2 * 0 + _ ≤ _; exact Nat.le_of_eq rfl) (hb hby at_83) (fun _ _ => ⟨rfl, rfl, (by decide : 4 + 0 ≤ _), (by decide : 3077 + 0 ≤ _)⟩)
  dsimp only [Pt.U, Pt.locs, Pt.cells, Pt.slots] at X10 l10 y10 z10 st10 hQ10
  subst l10 y10 z10
  obtain ⟨rfl, N10q, hs10, nq10⟩ := hQ10
  have Z10 : n0 ≤ T10.heap.size := Nat.le_trans Z9 hs10
  have np10 : NP Z T10.heap n0 b7 (0 : Int32) (2 : Int32) [(.int p2), (.int p4), (.int (0 : Int32))] [(.int p3), (.int (p3 ^^^ p4)), (.int (0 : Int32))] [.null, .null, .null] := nq10
  have N10 := Fr.app N9 N10q
  obtain ⟨cq11, kq11, q11a, q11b, q11c⟩ := isOf hZ rfl (own_exa np10)
  obtain ⟨_, _, ⟨T11, L11, k11, n11⟩, -, X11, ⟨Lc11, hQ11, l11, y11, z11⟩, st11⟩ := X10.virtualBack hx (y := (⟨"overmark/NotedPlaces", "firstBefore", "(II)Z"⟩ : MethodName)) (z := (⟨"overmark/NotedPlaces", "firstBefore", "(II)Z"⟩ : MethodName)) hown (mvT hZ (hw _ (List.mem_of_getElem? (i := 18) rfl))) (mvT hZ (hw _ (List.mem_of_getElem? (i := 19) rfl))) (notFace_of_selects (args := #[]) (mvT hZ (hw _ (List.mem_of_getElem? (i := 21) rfl)))) (mvT hZ (hw _ (List.mem_of_getElem? (i := 21) rfl))) (mvT hZ (hw _ (List.mem_of_getElem? (i := 20) rfl))) (by decide) (backOf (W := 0) (rm3 l Z a0 hw [] b7 p5 p6 (0 : Int32) (2 : Int32) p2 p3 0 [(.int p2), (.int p4), (.int (0 : Int32))] [(.int p3), (.int (p3 ^^^ p4)), (.int (0 : Int32))] [.null, .null, .null] T10.heap n0 Z10 np10 rfl (by decide) (by decide) rfl rfl) hZ (hw _ (List.mem_of_getElem? (i := 22) rfl)) (hw _ (List.mem_of_getElem? (i := 2) rfl)) (by decide) (by decide)) q11a q11c (g := (mkF m 281 #[.val (.int p1), .val (.int p2), .val (.int p3), .val (.int p4), .val (.int p5), .val (.int p6), .val (.int (p3 ^^^ p4)), .val (.int (p1 &&& (7 : Int32))), .val (.ref b7), .val (.int (1 : Int32)), .val (.int p2), .val (.int p3), .unset, .unset] [(.int p6), (.int p5), (.ref b7)])) rfl (by rw [hml]; rfl) (Steps.refl _) (argsL := [(.int p5), (.int p6)]) (rest := []) (lenOf pd_0_1 rfl) rfl (by show 2 * 0 + _ ≤ _; exact Nat.le_of_eq rfl) (hb hby at_281) (fun _ _ => ⟨rfl, rfl, (by decide : 4 + 0 ≤ _), (by decide : 3077 + 0 ≤ _)⟩)
  dsimp only [Pt.U, Pt.locs, Pt.cells, Pt.slots] at X11 l11 y11 z11 st11 hQ11
  subst l11 y11 z11
  obtain ⟨rfl, N11q, e11⟩ := hQ11
  have Z11 : n0 ≤ T11.heap.size := by rw [e11]; exact Z10
  have N11 := Fr.app N10 N11q
  obtain ⟨_, _, ⟨T12, L12, k12, n12⟩, -, X12, ⟨Lc12, hQ12, l12, y12, z12⟩, st12⟩ := Jvm.LawKit.callS X11 hx (y := (⟨"overmark/NotedPlacesFirstBeforePinLaw", "key", "(II)J"⟩ : MethodName)) hown (mvT hZ (hw _ (List.mem_of_getElem? (i := 37) rfl))) (mvT hZ (hw _ (List.mem_of_getElem? (i := 38) rfl))) (mvT hZ (hw _ (List.mem_of_getElem? (i := 39) rfl))) (mvT hZ (hw _ (List.mem_of_getElem? (i := 40) rfl))) (by decide) (backOf (W := 0) (rm6 l Z a0 hw [] p2 p3 T11.heap n0 Z11) hZ (hw _ (List.mem_of_getElem? (i := 40) rfl)) (hw _ (List.mem_of_getElem? (i := 39) rfl)) (by decide) (by decide)) (g := (mkF m 295 #[.val (.int p1), .val (.int p2), .val (.int p3), .val (.int p4), .val (.int p5), .val (.int p6), .val (.int (p3 ^^^ p4)), .val (.int (p1 &&& (7 : Int32))), .val (.ref b7), .val (.int (1 : Int32)), .val (.int p2), .val (.int p3), .val (.int (own_fb (0 : Int32) (2 : Int32) p2 p3 p5 p6)), .unset] [(.int p3), (.int p2)])) rfl (by rw [hml]; rfl) (argsL := [(.int p2), (.int p3)]) (rest := []) (lenOf pd_0_3 rfl) rfl (by show 2 * 0 + _ ≤ _; exact Nat.le_of_eq rfl) (hb hby at_295) (fun _ _ => ⟨rfl, rfl, (by decide : 4 + 0 ≤ _), (by decide : 3077 + 0 ≤ _)⟩)
  dsimp only [Pt.U, Pt.locs, Pt.cells, Pt.slots] at X12 l12 y12 z12 st12 hQ12
  subst l12 y12 z12
  obtain ⟨rfl, N12q, e12⟩ := hQ12
  have Z12 : n0 ≤ T12.heap.size := by rw [e12]; exact Z11
  have N12 := Fr.app N11 N12q
  obtain ⟨_, _, ⟨T13, L13, k13, n13⟩, -, X13, ⟨Lc13, hQ13, l13, y13, z13⟩, st13⟩ := Jvm.LawKit.callS X12 hx (y := (⟨"overmark/NotedPlacesFirstBeforePinLaw", "key", "(II)J"⟩ : MethodName)) hown (mvT hZ (hw _ (List.mem_of_getElem? (i := 37) rfl))) (mvT hZ (hw _ (List.mem_of_getElem? (i := 38) rfl))) (mvT hZ (hw _ (List.mem_of_getElem? (i := 39) rfl))) (mvT hZ (hw _ (List.mem_of_getElem? (i := 40) rfl))) (by decide) (backOf (W := 2) (rm6 l Z a0 hw [] p5 p6 T12.heap n0 Z12) hZ (hw _ (List.mem_of_getElem? (i := 40) rfl)) (hw _ (List.mem_of_getElem? (i := 39) rfl)) (by decide) (by decide)) (g := (mkF m 302 #[.val (.int p1), .val (.int p2), .val (.int p3), .val (.int p4), .val (.int p5), .val (.int p6), .val (.int (p3 ^^^ p4)), .val (.int (p1 &&& (7 : Int32))), .val (.ref b7), .val (.int (1 : Int32)), .val (.int p2), .val (.int p3), .val (.int (own_fb (0 : Int32) (2 : Int32) p2 p3 p5 p6)), .unset] [(.int p6), (.int p5), (.long (own_key p2 p3))])) rfl (by rw [hml]; rfl) (argsL := [(.int p5), (.int p6)]) (rest := [(.long (own_key p2 p3))]) (lenOf pd_0_3 rfl) rfl (by show 2 * 0 + _ ≤ _; exact Nat.le_of_eq rfl) (hb hby at_302) (fun _ _ => ⟨rfl, rfl, (by decide : 4 + 0 ≤ _), (by decide : 3077 + 0 ≤ _)⟩)
  dsimp only [Pt.U, Pt.locs, Pt.cells, Pt.slots] at X13 l13 y13 z13 st13 hQ13
  subst l13 y13 z13
  obtain ⟨rfl, N13q, e13⟩ := hQ13
  have Z13 : n0 ≤ T13.heap.size := by rw [e13]; exact Z12
  have N13 := Fr.app N12 N13q
  obtain ⟨fs, hr, hrun, hended, hW, hsame⟩ := X13.leave (v := some (.int (1 : Int32))) (fun h => by rw [Bd.returns] at h; cases h)
  refine ⟨_, _, pre0 _ ?_, hrun, hended, _, _, rfl, ?_, ⟨_, rfl⟩, hW, hsame.mono (by decide) (by decide)⟩
  · show Steps p.tables e below (s₁.setTop (mkF m 0 #[.val (.int p1), .val (.int p2), .val (.int p3), .val (.int p4), .val (.int p5), .val (.int p6), .unset, .unset, .unset, .unset, .unset, .unset, .unset, .unset] [])) _
    refine XS.iloadN X0.here hx rfl (hb hby at_0) rfl ?_
    show Steps p.tables e below (s₁.setTop (mkF m 1 #[.val (.int p1), .val (.int p2), .val (.int p3), .val (.int p4), .val (.int p5), .val (.int p6), .unset, .unset, .unset, .unset, .unset, .unset, .unset, .unset] [(.int p3)])) _
    refine XS.iloadN X0.here hx rfl (hb hby at_1) rfl ?_
    show Steps p.tables e below (s₁.setTop (mkF m 2 #[.val (.int p1), .val (.int p2), .val (.int p3), .val (.int p4), .val (.int p5), .val (.int p6), .unset, .unset, .unset, .unset, .unset, .unset, .unset, .unset] [(.int p4), (.int p3)])) _
    refine XS.ixor X0.here hx rfl (hb hby at_2) rfl ?_
    show Steps p.tables e below (s₁.setTop (mkF m 3 #[.val (.int p1), .val (.int p2), .val (.int p3), .val (.int p4), .val (.int p5), .val (.int p6), .unset, .unset, .unset, .unset, .unset, .unset, .unset, .unset] [(.int (p3 ^^^ p4))])) _
    refine XS.istore X0.here hx rfl (hb hby at_3) rfl (l' := #[.val (.int p1), .val (.int p2), .val (.int p3), .val (.int p4), .val (.int p5), .val (.int p6), .val (.int (p3 ^^^ p4)), .unset, .unset, .unset, .unset, .unset, .unset, .unset]) rfl ?_
    show Steps p.tables e below (s₁.setTop (mkF m 5 #[.val (.int p1), .val (.int p2), .val (.int p3), .val (.int p4), .val (.int p5), .val (.int p6), .val (.int (p3 ^^^ p4)), .unset, .unset, .unset, .unset, .unset, .unset, .unset] [])) _
    refine XS.iloadN X0.here hx rfl (hb hby at_5) rfl ?_
    show Steps p.tables e below (s₁.setTop (mkF m 6 #[.val (.int p1), .val (.int p2), .val (.int p3), .val (.int p4), .val (.int p5), .val (.int p6), .val (.int (p3 ^^^ p4)), .unset, .unset, .unset, .unset, .unset, .unset, .unset] [(.int p1)])) _
    refine XS.bipush X0.here hx rfl (hb hby at_6) ?_
    show Steps p.tables e below (s₁.setTop (mkF m 8 #[.val (.int p1), .val (.int p2), .val (.int p3), .val (.int p4), .val (.int p5), .val (.int p6), .val (.int (p3 ^^^ p4)), .unset, .unset, .unset, .unset, .unset, .unset, .unset] [(.int (7 : Int32)), (.int p1)])) _
    refine XS.iand X0.here hx rfl (hb hby at_8) rfl ?_
    show Steps p.tables e below (s₁.setTop (mkF m 9 #[.val (.int p1), .val (.int p2), .val (.int p3), .val (.int p4), .val (.int p5), .val (.int p6), .val (.int (p3 ^^^ p4)), .unset, .unset, .unset, .unset, .unset, .unset, .unset] [(.int (p1 &&& (7 : Int32)))])) _
    refine XS.istore X0.here hx rfl (hb hby at_9) rfl (l' := #[.val (.int p1), .val (.int p2), .val (.int p3), .val (.int p4), .val (.int p5), .val (.int p6), .val (.int (p3 ^^^ p4)), .val (.int (p1 &&& (7 : Int32))), .unset, .unset, .unset, .unset, .unset, .unset]) rfl ?_
    show Steps p.tables e below (s₁.setTop (mkF m 11 #[.val (.int p1), .val (.int p2), .val (.int p3), .val (.int p4), .val (.int p5), .val (.int p6), .val (.int (p3 ^^^ p4)), .val (.int (p1 &&& (7 : Int32))), .unset, .unset, .unset, .unset, .unset, .unset] [])) _
    refine st7 _ ?_
    show Steps p.tables e below (T7.setTop (mkF m 14 #[.val (.int p1), .val (.int p2), .val (.int p3), .val (.int p4), .val (.int p5), .val (.int p6), .val (.int (p3 ^^^ p4)), .val (.int (p1 &&& (7 : Int32))), .unset, .unset, .unset, .unset, .unset, .unset] [(.ref b7)])) _
    refine XS.dup X7.here hx rfl (hb hby at_14) rfl rfl ?_
    show Steps p.tables e below (T7.setTop (mkF m 15 #[.val (.int p1), .val (.int p2), .val (.int p3), .val (.int p4), .val (.int p5), .val (.int p6), .val (.int (p3 ^^^ p4)), .val (.int (p1 &&& (7 : Int32))), .unset, .unset, .unset, .unset, .unset, .unset] [(.ref b7), (.ref b7)])) _
    refine st8.trans ?_
    show Steps p.tables e below (T8.setTop (mkF m 18 #[.val (.int p1), .val (.int p2), .val (.int p3), .val (.int p4), .val (.int p5), .val (.int p6), .val (.int (p3 ^^^ p4)), .val (.int (p1 &&& (7 : Int32))), .unset, .unset, .unset, .unset, .unset, .unset] [(.ref b7)])) _
    refine XS.astore X8.here hx rfl (hb hby at_18) rfl rfl (l' := #[.val (.int p1), .val (.int p2), .val (.int p3), .val (.int p4), .val (.int p5), .val (.int p6), .val (.int (p3 ^^^ p4)), .val (.int (p1 &&& (7 : Int32))), .val (.ref b7), .unset, .unset, .unset, .unset, .unset]) rfl ?_
    show Steps p.tables e below (T8.setTop (mkF m 20 #[.val (.int p1), .val (.int p2), .val (.int p3), .val (.int p4), .val (.int p5), .val (.int p6), .val (.int (p3 ^^^ p4)), .val (.int (p1 &&& (7 : Int32))), .val (.ref b7), .unset, .unset, .unset, .unset, .unset] [])) _
    refine XS.iconst X8.here hx rfl (hb hby at_20) ?_
    show Steps p.tables e below (T8.setTop (mkF m 21 #[.val (.int p1), .val (.int p2), .val (.int p3), .val (.int p4), .val (.int p5), .val (.int p6), .val (.int (p3 ^^^ p4)), .val (.int (p1 &&& (7 : Int32))), .val (.ref b7), .unset, .unset, .unset, .unset, .unset] [(.int (0 : Int32))])) _
    refine XS.istore X8.here hx rfl (hb hby at_21) rfl (l' := #[.val (.int p1), .val (.int p2), .val (.int p3), .val (.int p4), .val (.int p5), .val (.int p6), .val (.int (p3 ^^^ p4)), .val (.int (p1 &&& (7 : Int32))), .val (.ref b7), .val (.int (0 : Int32)), .unset, .unset, .unset, .unset]) rfl ?_
    show Steps p.tables e below (T8.setTop (mkF m 23 #[.val (.int p1), .val (.int p2), .val (.int p3), .val (.int p4), .val (.int p5), .val (.int p6), .val (.int (p3 ^^^ p4)), .val (.int (p1 &&& (7 : Int32))), .val (.ref b7), .val (.int (0 : Int32)), .unset, .unset, .unset, .unset] [])) _
    refine XS.iconst X8.here hx rfl (hb hby at_23) ?_
    show Steps p.tables e below (T8.setTop (mkF m 24 #[.val (.int p1), .val (.int p2), .val (.int p3), .val (.int p4), .val (.int p5), .val (.int p6), .val (.int (p3 ^^^ p4)), .val (.int (p1 &&& (7 : Int32))), .val (.ref b7), .val (.int (0 : Int32)), .unset, .unset, .unset, .unset] [(.int (0 : Int32))])) _
    refine XS.istore X8.here hx rfl (hb hby at_24) rfl (l' := #[.val (.int p1), .val (.int p2), .val (.int p3), .val (.int p4), .val (.int p5), .val (.int p6), .val (.int (p3 ^^^ p4)), .val (.int (p1 &&& (7 : Int32))), .val (.ref b7), .val (.int (0 : Int32)), .val (.int (0 : Int32)), .unset, .unset, .unset]) rfl ?_
    show Steps p.tables e below (T8.setTop (mkF m 26 #[.val (.int p1), .val (.int p2), .val (.int p3), .val (.int p4), .val (.int p5), .val (.int p6), .val (.int (p3 ^^^ p4)), .val (.int (p1 &&& (7 : Int32))), .val (.ref b7), .val (.int (0 : Int32)), .val (.int (0 : Int32)), .unset, .unset, .unset] [])) _
    refine XS.iconst X8.here hx rfl (hb hby at_26) ?_
    show Steps p.tables e below (T8.setTop (mkF m 27 #[.val (.int p1), .val (.int p2), .val (.int p3), .val (.int p4), .val (.int p5), .val (.int p6), .val (.int (p3 ^^^ p4)), .val (.int (p1 &&& (7 : Int32))), .val (.ref b7), .val (.int (0 : Int32)), .val (.int (0 : Int32)), .unset, .unset, .unset] [(.int (0 : Int32))])) _
    refine XS.istore X8.here hx rfl (hb hby at_27) rfl (l' := #[.val (.int p1), .val (.int p2), .val (.int p3), .val (.int p4), .val (.int p5), .val (.int p6), .val (.int (p3 ^^^ p4)), .val (.int (p1 &&& (7 : Int32))), .val (.ref b7), .val (.int (0 : Int32)), .val (.int (0 : Int32)), .val (.int (0 : Int32)), .unset, .unset]) rfl ?_
    show Steps p.tables e below (T8.setTop (mkF m 29 #[.val (.int p1), .val (.int p2), .val (.int p3), .val (.int p4), .val (.int p5), .val (.int p6), .val (.int (p3 ^^^ p4)), .val (.int (p1 &&& (7 : Int32))), .val (.ref b7), .val (.int (0 : Int32)), .val (.int (0 : Int32)), .val (.int (0 : Int32)), .unset, .unset] [])) _
    refine XS.iload X8.here hx rfl (hb hby at_29) rfl ?_
    show Steps p.tables e below (T8.setTop (mkF m 31 #[.val (.int p1), .val (.int p2), .val (.int p3), .val (.int p4), .val (.int p5), .val (.int p6), .val (.int (p3 ^^^ p4)), .val (.int (p1 &&& (7 : Int32))), .val (.ref b7), .val (.int (0 : Int32)), .val (.int (0 : Int32)), .val (.int (0 : Int32)), .unset, .unset] [(.int (p1 &&& (7 : Int32)))])) _
    refine XS.ifYes X8.here hx rfl (pc0 := 31) (pc' := 40) rfl (hb hby at_31) rfl ((if0 _ _).trans (feq hc31).2) (by decide) (by decide) ?_
    show Steps p.tables e below (T8.setTop (mkF m 40 #[.val (.int p1), .val (.int p2), .val (.int p3), .val (.int p4), .val (.int p5), .val (.int p6), .val (.int (p3 ^^^ p4)), .val (.int (p1 &&& (7 : Int32))), .val (.ref b7), .val (.int (0 : Int32)), .val (.int (0 : Int32)), .val (.int (0 : Int32)), .unset, .unset] [])) _
    refine XS.iload X8.here hx rfl (hb hby at_40) rfl ?_
    show Steps p.tables e below (T8.setTop (mkF m 42 #[.val (.int p1), .val (.int p2), .val (.int p3), .val (.int p4), .val (.int p5), .val (.int p6), .val (.int (p3 ^^^ p4)), .val (.int (p1 &&& (7 : Int32))), .val (.ref b7), .val (.int (0 : Int32)), .val (.int (0 : Int32)), .val (.int (0 : Int32)), .unset, .unset] [(.int (p1 &&& (7 : Int32)))])) _
    refine XS.iconst X8.here hx rfl (hb hby at_42) ?_
    show Steps p.tables e below (T8.setTop (mkF m 43 #[.val (.int p1), .val (.int p2), .val (.int p3), .val (.int p4), .val (.int p5), .val (.int p6), .val (.int (p3 ^^^ p4)), .val (.int (p1 &&& (7 : Int32))), .val (.ref b7), .val (.int (0 : Int32)), .val (.int (0 : Int32)), .val (.int (0 : Int32)), .unset, .unset] [(.int (1 : Int32)), (.int (p1 &&& (7 : Int32)))])) _
    refine XS.icmpYes X8.here hx rfl (pc0 := 43) (pc' := 65) rfl (hb hby at_43) rfl (feq hc43).2 (by decide) (by decide) ?_
    show Steps p.tables e below (T8.setTop (mkF m 65 #[.val (.int p1), .val (.int p2), .val (.int p3), .val (.int p4), .val (.int p5), .val (.int p6), .val (.int (p3 ^^^ p4)), .val (.int (p1 &&& (7 : Int32))), .val (.ref b7), .val (.int (0 : Int32)), .val (.int (0 : Int32)), .val (.int (0 : Int32)), .unset, .unset] [])) _
    refine XS.iload X8.here hx rfl (hb hby at_65) rfl ?_
    show Steps p.tables e below (T8.setTop (mkF m 67 #[.val (.int p1), .val (.int p2), .val (.int p3), .val (.int p4), .val (.int p5), .val (.int p6), .val (.int (p3 ^^^ p4)), .val (.int (p1 &&& (7 : Int32))), .val (.ref b7), .val (.int (0 : Int32)), .val (.int (0 : Int32)), .val (.int (0 : Int32)), .unset, .unset] [(.int (p1 &&& (7 : Int32)))])) _
    refine XS.iconst X8.here hx rfl (hb hby at_67) ?_
    show Steps p.tables e below (T8.setTop (mkF m 68 #[.val (.int p1), .val (.int p2), .val (.int p3), .val (.int p4), .val (.int p5), .val (.int p6), .val (.int (p3 ^^^ p4)), .val (.int (p1 &&& (7 : Int32))), .val (.ref b7), .val (.int (0 : Int32)), .val (.int (0 : Int32)), .val (.int (0 : Int32)), .unset, .unset] [(.int (2 : Int32)), (.int (p1 &&& (7 : Int32)))])) _
    refine XS.icmpNo X8.here hx rfl (hb hby at_68) rfl (teq hc68).2 ?_
    show Steps p.tables e below (T8.setTop (mkF m 71 #[.val (.int p1), .val (.int p2), .val (.int p3), .val (.int p4), .val (.int p5), .val (.int p6), .val (.int (p3 ^^^ p4)), .val (.int (p1 &&& (7 : Int32))), .val (.ref b7), .val (.int (0 : Int32)), .val (.int (0 : Int32)), .val (.int (0 : Int32)), .unset, .unset] [])) _
    refine XS.aload X8.here hx rfl (hb hby at_71) rfl rfl ?_
    show Steps p.tables e below (T8.setTop (mkF m 73 #[.val (.int p1), .val (.int p2), .val (.int p3), .val (.int p4), .val (.int p5), .val (.int p6), .val (.int (p3 ^^^ p4)), .val (.int (p1 &&& (7 : Int32))), .val (.ref b7), .val (.int (0 : Int32)), .val (.int (0 : Int32)), .val (.int (0 : Int32)), .unset, .unset] [(.ref b7)])) _
    refine XS.iloadN X8.here hx rfl (hb hby at_73) rfl ?_
    show Steps p.tables e below (T8.setTop (mkF m 74 #[.val (.int p1), .val (.int p2), .val (.int p3), .val (.int p4), .val (.int p5), .val (.int p6), .val (.int (p3 ^^^ p4)), .val (.int (p1 &&& (7 : Int32))), .val (.ref b7), .val (.int (0 : Int32)), .val (.int (0 : Int32)), .val (.int (0 : Int32)), .unset, .unset] [(.int p2), (.ref b7)])) _
    refine XS.iloadN X8.here hx rfl (hb hby at_74) rfl ?_
    show Steps p.tables e below (T8.setTop (mkF m 75 #[.val (.int p1), .val (.int p2), .val (.int p3), .val (.int p4), .val (.int p5), .val (.int p6), .val (.int (p3 ^^^ p4)), .val (.int (p1 &&& (7 : Int32))), .val (.ref b7), .val (.int (0 : Int32)), .val (.int (0 : Int32)), .val (.int (0 : Int32)), .unset, .unset] [(.int p3), (.int p2), (.ref b7)])) _
    refine st9.trans ?_
    show Steps p.tables e below (T9.setTop (mkF m 78 #[.val (.int p1), .val (.int p2), .val (.int p3), .val (.int p4), .val (.int p5), .val (.int p6), .val (.int (p3 ^^^ p4)), .val (.int (p1 &&& (7 : Int32))), .val (.ref b7), .val (.int (0 : Int32)), .val (.int (0 : Int32)), .val (.int (0 : Int32)), .unset, .unset] [])) _
    refine XS.aload X9.here hx rfl (hb hby at_78) rfl rfl ?_
    show Steps p.tables e below (T9.setTop (mkF m 80 #[.val (.int p1), .val (.int p2), .val (.int p3), .val (.int p4), .val (.int p5), .val (.int p6), .val (.int (p3 ^^^ p4)), .val (.int (p1 &&& (7 : Int32))), .val (.ref b7), .val (.int (0 : Int32)), .val (.int (0 : Int32)), .val (.int (0 : Int32)), .unset, .unset] [(.ref b7)])) _
    refine XS.iloadN X9.here hx rfl (hb hby at_80) rfl ?_
    show Steps p.tables e below (T9.setTop (mkF m 81 #[.val (.int p1), .val (.int p2), .val (.int p3), .val (.int p4), .val (.int p5), .val (.int p6), .val (.int (p3 ^^^ p4)), .val (.int (p1 &&& (7 : Int32))), .val (.ref b7), .val (.int (0 : Int32)), .val (.int (0 : Int32)), .val (.int (0 : Int32)), .unset, .unset] [(.int p4), (.ref b7)])) _
    refine XS.iload X9.here hx rfl (hb hby at_81) rfl ?_
    show Steps p.tables e below (T9.setTop (mkF m 83 #[.val (.int p1), .val (.int p2), .val (.int p3), .val (.int p4), .val (.int p5), .val (.int p6), .val (.int (p3 ^^^ p4)), .val (.int (p1 &&& (7 : Int32))), .val (.ref b7), .val (.int (0 : Int32)), .val (.int (0 : Int32)), .val (.int (0 : Int32)), .unset, .unset] [(.int (p3 ^^^ p4)), (.int p4), (.ref b7)])) _
    refine st10.trans ?_
    show Steps p.tables e below (T10.setTop (mkF m 86 #[.val (.int p1), .val (.int p2), .val (.int p3), .val (.int p4), .val (.int p5), .val (.int p6), .val (.int (p3 ^^^ p4)), .val (.int (p1 &&& (7 : Int32))), .val (.ref b7), .val (.int (0 : Int32)), .val (.int (0 : Int32)), .val (.int (0 : Int32)), .unset, .unset] [])) _
    refine XS.iconst X10.here hx rfl (hb hby at_86) ?_
    show Steps p.tables e below (T10.setTop (mkF m 87 #[.val (.int p1), .val (.int p2), .val (.int p3), .val (.int p4), .val (.int p5), .val (.int p6), .val (.int (p3 ^^^ p4)), .val (.int (p1 &&& (7 : Int32))), .val (.ref b7), .val (.int (0 : Int32)), .val (.int (0 : Int32)), .val (.int (0 : Int32)), .unset, .unset] [(.int (1 : Int32))])) _
    refine XS.istore X10.here hx rfl (hb hby at_87) rfl (l' := #[.val (.int p1), .val (.int p2), .val (.int p3), .val (.int p4), .val (.int p5), .val (.int p6), .val (.int (p3 ^^^ p4)), .val (.int (p1 &&& (7 : Int32))), .val (.ref b7), .val (.int (1 : Int32)), .val (.int (0 : Int32)), .val (.int (0 : Int32)), .unset, .unset]) rfl ?_
    show Steps p.tables e below (T10.setTop (mkF m 89 #[.val (.int p1), .val (.int p2), .val (.int p3), .val (.int p4), .val (.int p5), .val (.int p6), .val (.int (p3 ^^^ p4)), .val (.int (p1 &&& (7 : Int32))), .val (.ref b7), .val (.int (1 : Int32)), .val (.int (0 : Int32)), .val (.int (0 : Int32)), .unset, .unset] [])) _
    refine XS.iloadN X10.here hx rfl (hb hby at_89) rfl ?_
    show Steps p.tables e below (T10.setTop (mkF m 90 #[.val (.int p1), .val (.int p2), .val (.int p3), .val (.int p4), .val (.int p5), .val (.int p6), .val (.int (p3 ^^^ p4)), .val (.int (p1 &&& (7 : Int32))), .val (.ref b7), .val (.int (1 : Int32)), .val (.int (0 : Int32)), .val (.int (0 : Int32)), .unset, .unset] [(.int p2)])) _
    refine XS.istore X10.here hx rfl (hb hby at_90) rfl (l' := #[.val (.int p1), .val (.int p2), .val (.int p3), .val (.int p4), .val (.int p5), .val (.int p6), .val (.int (p3 ^^^ p4)), .val (.int (p1 &&& (7 : Int32))), .val (.ref b7), .val (.int (1 : Int32)), .val (.int p2), .val (.int (0 : Int32)), .unset, .unset]) rfl ?_
    show Steps p.tables e below (T10.setTop (mkF m 92 #[.val (.int p1), .val (.int p2), .val (.int p3), .val (.int p4), .val (.int p5), .val (.int p6), .val (.int (p3 ^^^ p4)), .val (.int (p1 &&& (7 : Int32))), .val (.ref b7), .val (.int (1 : Int32)), .val (.int p2), .val (.int (0 : Int32)), .unset, .unset] [])) _
    refine XS.iloadN X10.here hx rfl (hb hby at_92) rfl ?_
    show Steps p.tables e below (T10.setTop (mkF m 93 #[.val (.int p1), .val (.int p2), .val (.int p3), .val (.int p4), .val (.int p5), .val (.int p6), .val (.int (p3 ^^^ p4)), .val (.int (p1 &&& (7 : Int32))), .val (.ref b7), .val (.int (1 : Int32)), .val (.int p2), .val (.int (0 : Int32)), .unset, .unset] [(.int p3)])) _
    refine XS.istore X10.here hx rfl (hb hby at_93) rfl (l' := #[.val (.int p1), .val (.int p2), .val (.int p3), .val (.int p4), .val (.int p5), .val (.int p6), .val (.int (p3 ^^^ p4)), .val (.int (p1 &&& (7 : Int32))), .val (.ref b7), .val (.int (1 : Int32)), .val (.int p2), .val (.int p3), .unset, .unset]) rfl ?_
    show Steps p.tables e below (T10.setTop (mkF m 95 #[.val (.int p1), .val (.int p2), .val (.int p3), .val (.int p4), .val (.int p5), .val (.int p6), .val (.int (p3 ^^^ p4)), .val (.int (p1 &&& (7 : Int32))), .val (.ref b7), .val (.int (1 : Int32)), .val (.int p2), .val (.int p3), .unset, .unset] [])) _
    refine XS.goto X10.here hx rfl (pc0 := 95) (pc' := 275) rfl (hb hby at_95) (by decide) (by decide) ?_
    show Steps p.tables e below (T10.setTop (mkF m 275 #[.val (.int p1), .val (.int p2), .val (.int p3), .val (.int p4), .val (.int p5), .val (.int p6), .val (.int (p3 ^^^ p4)), .val (.int (p1 &&& (7 : Int32))), .val (.ref b7), .val (.int (1 : Int32)), .val (.int p2), .val (.int p3), .unset, .unset] [])) _
    refine XS.aload X10.here hx rfl (hb hby at_275) rfl rfl ?_
    show Steps p.tables e below (T10.setTop (mkF m 277 #[.val (.int p1), .val (.int p2), .val (.int p3), .val (.int p4), .val (.int p5), .val (.int p6), .val (.int (p3 ^^^ p4)), .val (.int (p1 &&& (7 : Int32))), .val (.ref b7), .val (.int (1 : Int32)), .val (.int p2), .val (.int p3), .unset, .unset] [(.ref b7)])) _
    refine XS.iload X10.here hx rfl (hb hby at_277) rfl ?_
    show Steps p.tables e below (T10.setTop (mkF m 279 #[.val (.int p1), .val (.int p2), .val (.int p3), .val (.int p4), .val (.int p5), .val (.int p6), .val (.int (p3 ^^^ p4)), .val (.int (p1 &&& (7 : Int32))), .val (.ref b7), .val (.int (1 : Int32)), .val (.int p2), .val (.int p3), .unset, .unset] [(.int p5), (.ref b7)])) _
    refine XS.iload X10.here hx rfl (hb hby at_279) rfl ?_
    show Steps p.tables e below (T10.setTop (mkF m 281 #[.val (.int p1), .val (.int p2), .val (.int p3), .val (.int p4), .val (.int p5), .val (.int p6), .val (.int (p3 ^^^ p4)), .val (.int (p1 &&& (7 : Int32))), .val (.ref b7), .val (.int (1 : Int32)), .val (.int p2), .val (.int p3), .unset, .unset] [(.int p6), (.int p5), (.ref b7)])) _
    refine st11.trans ?_
    show Steps p.tables e below (T11.setTop (mkF m 284 #[.val (.int p1), .val (.int p2), .val (.int p3), .val (.int p4), .val (.int p5), .val (.int p6), .val (.int (p3 ^^^ p4)), .val (.int (p1 &&& (7 : Int32))), .val (.ref b7), .val (.int (1 : Int32)), .val (.int p2), .val (.int p3), .unset, .unset] [(.int (own_fb (0 : Int32) (2 : Int32) p2 p3 p5 p6))])) _
    refine XS.istore X11.here hx rfl (hb hby at_284) rfl (l' := #[.val (.int p1), .val (.int p2), .val (.int p3), .val (.int p4), .val (.int p5), .val (.int p6), .val (.int (p3 ^^^ p4)), .val (.int (p1 &&& (7 : Int32))), .val (.ref b7), .val (.int (1 : Int32)), .val (.int p2), .val (.int p3), .val (.int (own_fb (0 : Int32) (2 : Int32) p2 p3 p5 p6)), .unset]) rfl ?_
    show Steps p.tables e below (T11.setTop (mkF m 286 #[.val (.int p1), .val (.int p2), .val (.int p3), .val (.int p4), .val (.int p5), .val (.int p6), .val (.int (p3 ^^^ p4)), .val (.int (p1 &&& (7 : Int32))), .val (.ref b7), .val (.int (1 : Int32)), .val (.int p2), .val (.int p3), .val (.int (own_fb (0 : Int32) (2 : Int32) p2 p3 p5 p6)), .unset] [])) _
    refine XS.iload X11.here hx rfl (hb hby at_286) rfl ?_
    show Steps p.tables e below (T11.setTop (mkF m 288 #[.val (.int p1), .val (.int p2), .val (.int p3), .val (.int p4), .val (.int p5), .val (.int p6), .val (.int (p3 ^^^ p4)), .val (.int (p1 &&& (7 : Int32))), .val (.ref b7), .val (.int (1 : Int32)), .val (.int p2), .val (.int p3), .val (.int (own_fb (0 : Int32) (2 : Int32) p2 p3 p5 p6)), .unset] [(.int (1 : Int32))])) _
    refine XS.ifNo X11.here hx rfl (hb hby at_288) rfl ((if0 _ _).trans (feq hc288).1) ?_
    show Steps p.tables e below (T11.setTop (mkF m 291 #[.val (.int p1), .val (.int p2), .val (.int p3), .val (.int p4), .val (.int p5), .val (.int p6), .val (.int (p3 ^^^ p4)), .val (.int (p1 &&& (7 : Int32))), .val (.ref b7), .val (.int (1 : Int32)), .val (.int p2), .val (.int p3), .val (.int (own_fb (0 : Int32) (2 : Int32) p2 p3 p5 p6)), .unset] [])) _
    refine XS.iload X11.here hx rfl (hb hby at_291) rfl ?_
    show Steps p.tables e below (T11.setTop (mkF m 293 #[.val (.int p1), .val (.int p2), .val (.int p3), .val (.int p4), .val (.int p5), .val (.int p6), .val (.int (p3 ^^^ p4)), .val (.int (p1 &&& (7 : Int32))), .val (.ref b7), .val (.int (1 : Int32)), .val (.int p2), .val (.int p3), .val (.int (own_fb (0 : Int32) (2 : Int32) p2 p3 p5 p6)), .unset] [(.int p2)])) _
    refine XS.iload X11.here hx rfl (hb hby at_293) rfl ?_
    show Steps p.tables e below (T11.setTop (mkF m 295 #[.val (.int p1), .val (.int p2), .val (.int p3), .val (.int p4), .val (.int p5), .val (.int p6), .val (.int (p3 ^^^ p4)), .val (.int (p1 &&& (7 : Int32))), .val (.ref b7), .val (.int (1 : Int32)), .val (.int p2), .val (.int p3), .val (.int (own_fb (0 : Int32) (2 : Int32) p2 p3 p5 p6)), .unset] [(.int p3), (.int p2)])) _
    refine st12 _ ?_
    show Steps p.tables e below (T12.setTop (mkF m 298 #[.val (.int p1), .val (.int p2), .val (.int p3), .val (.int p4), .val (.int p5), .val (.int p6), .val (.int (p3 ^^^ p4)), .val (.int (p1 &&& (7 : Int32))), .val (.ref b7), .val (.int (1 : Int32)), .val (.int p2), .val (.int p3), .val (.int (own_fb (0 : Int32) (2 : Int32) p2 p3 p5 p6)), .unset] [(.long (own_key p2 p3))])) _
    refine XS.iload X12.here hx rfl (hb hby at_298) rfl ?_
    show Steps p.tables e below (T12.setTop (mkF m 300 #[.val (.int p1), .val (.int p2), .val (.int p3), .val (.int p4), .val (.int p5), .val (.int p6), .val (.int (p3 ^^^ p4)), .val (.int (p1 &&& (7 : Int32))), .val (.ref b7), .val (.int (1 : Int32)), .val (.int p2), .val (.int p3), .val (.int (own_fb (0 : Int32) (2 : Int32) p2 p3 p5 p6)), .unset] [(.int p5), (.long (own_key p2 p3))])) _
    refine XS.iload X12.here hx rfl (hb hby at_300) rfl ?_
    show Steps p.tables e below (T12.setTop (mkF m 302 #[.val (.int p1), .val (.int p2), .val (.int p3), .val (.int p4), .val (.int p5), .val (.int p6), .val (.int (p3 ^^^ p4)), .val (.int (p1 &&& (7 : Int32))), .val (.ref b7), .val (.int (1 : Int32)), .val (.int p2), .val (.int p3), .val (.int (own_fb (0 : Int32) (2 : Int32) p2 p3 p5 p6)), .unset] [(.int p6), (.int p5), (.long (own_key p2 p3))])) _
    refine st13 _ ?_
    show Steps p.tables e below (T13.setTop (mkF m 305 #[.val (.int p1), .val (.int p2), .val (.int p3), .val (.int p4), .val (.int p5), .val (.int p6), .val (.int (p3 ^^^ p4)), .val (.int (p1 &&& (7 : Int32))), .val (.ref b7), .val (.int (1 : Int32)), .val (.int p2), .val (.int p3), .val (.int (own_fb (0 : Int32) (2 : Int32) p2 p3 p5 p6)), .unset] [(.long (own_key p5 p6)), (.long (own_key p2 p3))])) _
    refine XS.lcmp X13.here hx rfl (hb hby at_305) rfl ?_
    show Steps p.tables e below (T13.setTop (mkF m 306 #[.val (.int p1), .val (.int p2), .val (.int p3), .val (.int p4), .val (.int p5), .val (.int p6), .val (.int (p3 ^^^ p4)), .val (.int (p1 &&& (7 : Int32))), .val (.ref b7), .val (.int (1 : Int32)), .val (.int p2), .val (.int p3), .val (.int (own_fb (0 : Int32) (2 : Int32) p2 p3 p5 p6)), .unset] [(.int (lcmpW (own_key p2 p3) (own_key p5 p6)))])) _
    by_cases hlt : (lcmpW (own_key p2 p3) (own_key p5 p6)) < (0 : Int32)
    · refine XS.ifNo X13.here hx rfl (hb hby at_306) rfl ((if0 _ _).trans (tlt (hlt : (lcmpW (own_key p2 p3) (own_key p5 p6)) < (0 : Int32))).2.1) ?_
      show Steps p.tables e below (T13.setTop (mkF m 309 #[.val (.int p1), .val (.int p2), .val (.int p3), .val (.int p4), .val (.int p5), .val (.int p6), .val (.int (p3 ^^^ p4)), .val (.int (p1 &&& (7 : Int32))), .val (.ref b7), .val (.int (1 : Int32)), .val (.int p2), .val (.int p3), .val (.int (own_fb (0 : Int32) (2 : Int32) p2 p3 p5 p6)), .unset] [])) _
      refine XS.iconst X13.here hx rfl (hb hby at_309) ?_
      show Steps p.tables e below (T13.setTop (mkF m 310 #[.val (.int p1), .val (.int p2), .val (.int p3), .val (.int p4), .val (.int p5), .val (.int p6), .val (.int (p3 ^^^ p4)), .val (.int (p1 &&& (7 : Int32))), .val (.ref b7), .val (.int (1 : Int32)), .val (.int p2), .val (.int p3), .val (.int (own_fb (0 : Int32) (2 : Int32) p2 p3 p5 p6)), .unset] [(.int (1 : Int32))])) _
      refine XS.goto X13.here hx rfl (pc0 := 310) (pc' := 314) rfl (hb hby at_310) (by decide) (by decide) ?_
      show Steps p.tables e below (T13.setTop (mkF m 314 #[.val (.int p1), .val (.int p2), .val (.int p3), .val (.int p4), .val (.int p5), .val (.int p6), .val (.int (p3 ^^^ p4)), .val (.int (p1 &&& (7 : Int32))), .val (.ref b7), .val (.int (1 : Int32)), .val (.int p2), .val (.int p3), .val (.int (own_fb (0 : Int32) (2 : Int32) p2 p3 p5 p6)), .unset] [(.int (1 : Int32))])) _
      refine XS.istore X13.here hx rfl (hb hby at_314) rfl (l' := #[.val (.int p1), .val (.int p2), .val (.int p3), .val (.int p4), .val (.int p5), .val (.int p6), .val (.int (p3 ^^^ p4)), .val (.int (p1 &&& (7 : Int32))), .val (.ref b7), .val (.int (1 : Int32)), .val (.int p2), .val (.int p3), .val (.int (own_fb (0 : Int32) (2 : Int32) p2 p3 p5 p6)), .val (.int (1 : Int32))]) rfl ?_
      show Steps p.tables e below (T13.setTop (mkF m 316 #[.val (.int p1), .val (.int p2), .val (.int p3), .val (.int p4), .val (.int p5), .val (.int p6), .val (.int (p3 ^^^ p4)), .val (.int (p1 &&& (7 : Int32))), .val (.ref b7), .val (.int (1 : Int32)), .val (.int p2), .val (.int p3), .val (.int (own_fb (0 : Int32) (2 : Int32) p2 p3 p5 p6)), .val (.int (1 : Int32))] [])) _
      refine XS.iload X13.here hx rfl (hb hby at_316) rfl ?_
      show Steps p.tables e below (T13.setTop (mkF m 318 #[.val (.int p1), .val (.int p2), .val (.int p3), .val (.int p4), .val (.int p5), .val (.int p6), .val (.int (p3 ^^^ p4)), .val (.int (p1 &&& (7 : Int32))), .val (.ref b7), .val (.int (1 : Int32)), .val (.int p2), .val (.int p3), .val (.int (own_fb (0 : Int32) (2 : Int32) p2 p3 p5 p6)), .val (.int (1 : Int32))] [(.int (own_fb (0 : Int32) (2 : Int32) p2 p3 p5 p6))])) _
      refine XS.iload X13.here hx rfl (hb hby at_318) rfl ?_
      show Steps p.tables e below (T13.setTop (mkF m 320 #[.val (.int p1), .val (.int p2), .val (.int p3), .val (.int p4), .val (.int p5), .val (.int p6), .val (.int (p3 ^^^ p4)), .val (.int (p1 &&& (7 : Int32))), .val (.ref b7), .val (.int (1 : Int32)), .val (.int p2), .val (.int p3), .val (.int (own_fb (0 : Int32) (2 : Int32) p2 p3 p5 p6)), .val (.int (1 : Int32))] [(.int (1 : Int32)), (.int (own_fb (0 : Int32) (2 : Int32) p2 p3 p5 p6))])) _
      refine XS.icmpNo X13.here hx rfl (hb hby at_320) rfl (teq (own_yes (by decide) hlt : (own_fb (0 : Int32) (2 : Int32) p2 p3 p5 p6) = (1 : Int32))).2 ?_
      show Steps p.tables e below (T13.setTop (mkF m 323 #[.val (.int p1), .val (.int p2), .val (.int p3), .val (.int p4), .val (.int p5), .val (.int p6), .val (.int (p3 ^^^ p4)), .val (.int (p1 &&& (7 : Int32))), .val (.ref b7), .val (.int (1 : Int32)), .val (.int p2), .val (.int p3), .val (.int (own_fb (0 : Int32) (2 : Int32) p2 p3 p5 p6)), .val (.int (1 : Int32))] [])) _
      refine XS.iconst X13.here hx rfl (hb hby at_323) ?_
      show Steps p.tables e below (T13.setTop (mkF m 324 #[.val (.int p1), .val (.int p2), .val (.int p3), .val (.int p4), .val (.int p5), .val (.int p6), .val (.int (p3 ^^^ p4)), .val (.int (p1 &&& (7 : Int32))), .val (.ref b7), .val (.int (1 : Int32)), .val (.int p2), .val (.int p3), .val (.int (own_fb (0 : Int32) (2 : Int32) p2 p3 p5 p6)), .val (.int (1 : Int32))] [(.int (1 : Int32))])) _
      refine XS.goto X13.here hx rfl (pc0 := 324) (pc' := 328) rfl (hb hby at_324) (by decide) (by decide) ?_
      show Steps p.tables e below (T13.setTop (mkF m 328 #[.val (.int p1), .val (.int p2), .val (.int p3), .val (.int p4), .val (.int p5), .val (.int p6), .val (.int (p3 ^^^ p4)), .val (.int (p1 &&& (7 : Int32))), .val (.ref b7), .val (.int (1 : Int32)), .val (.int p2), .val (.int p3), .val (.int (own_fb (0 : Int32) (2 : Int32) p2 p3 p5 p6)), .val (.int (1 : Int32))] [(.int (1 : Int32))])) _
      exact retN X13 hx (t := .boolean) Bd.returns (by simp) (hb hby at_328) hr
    · refine XS.ifYes X13.here hx rfl (pc0 := 306) (pc' := 313) rfl (hb hby at_306) rfl ((if0 _ _).trans (flt (hlt : ¬ ((lcmpW (own_key p2 p3) (own_key p5 p6)) < (0 : Int32)))).2.1) (by decide) (by decide) ?_
      show Steps p.tables e below (T13.setTop (mkF m 313 #[.val (.int p1), .val (.int p2), .val (.int p3), .val (.int p4), .val (.int p5), .val (.int p6), .val (.int (p3 ^^^ p4)), .val (.int (p1 &&& (7 : Int32))), .val (.ref b7), .val (.int (1 : Int32)), .val (.int p2), .val (.int p3), .val (.int (own_fb (0 : Int32) (2 : Int32) p2 p3 p5 p6)), .unset] [])) _
      refine XS.iconst X13.here hx rfl (hb hby at_313) ?_
      show Steps p.tables e below (T13.setTop (mkF m 314 #[.val (.int p1), .val (.int p2), .val (.int p3), .val (.int p4), .val (.int p5), .val (.int p6), .val (.int (p3 ^^^ p4)), .val (.int (p1 &&& (7 : Int32))), .val (.ref b7), .val (.int (1 : Int32)), .val (.int p2), .val (.int p3), .val (.int (own_fb (0 : Int32) (2 : Int32) p2 p3 p5 p6)), .unset] [(.int (0 : Int32))])) _
      refine XS.istore X13.here hx rfl (hb hby at_314) rfl (l' := #[.val (.int p1), .val (.int p2), .val (.int p3), .val (.int p4), .val (.int p5), .val (.int p6), .val (.int (p3 ^^^ p4)), .val (.int (p1 &&& (7 : Int32))), .val (.ref b7), .val (.int (1 : Int32)), .val (.int p2), .val (.int p3), .val (.int (own_fb (0 : Int32) (2 : Int32) p2 p3 p5 p6)), .val (.int (0 : Int32))]) rfl ?_
      show Steps p.tables e below (T13.setTop (mkF m 316 #[.val (.int p1), .val (.int p2), .val (.int p3), .val (.int p4), .val (.int p5), .val (.int p6), .val (.int (p3 ^^^ p4)), .val (.int (p1 &&& (7 : Int32))), .val (.ref b7), .val (.int (1 : Int32)), .val (.int p2), .val (.int p3), .val (.int (own_fb (0 : Int32) (2 : Int32) p2 p3 p5 p6)), .val (.int (0 : Int32))] [])) _
      refine XS.iload X13.here hx rfl (hb hby at_316) rfl ?_
      show Steps p.tables e below (T13.setTop (mkF m 318 #[.val (.int p1), .val (.int p2), .val (.int p3), .val (.int p4), .val (.int p5), .val (.int p6), .val (.int (p3 ^^^ p4)), .val (.int (p1 &&& (7 : Int32))), .val (.ref b7), .val (.int (1 : Int32)), .val (.int p2), .val (.int p3), .val (.int (own_fb (0 : Int32) (2 : Int32) p2 p3 p5 p6)), .val (.int (0 : Int32))] [(.int (own_fb (0 : Int32) (2 : Int32) p2 p3 p5 p6))])) _
      refine XS.iload X13.here hx rfl (hb hby at_318) rfl ?_
      show Steps p.tables e below (T13.setTop (mkF m 320 #[.val (.int p1), .val (.int p2), .val (.int p3), .val (.int p4), .val (.int p5), .val (.int p6), .val (.int (p3 ^^^ p4)), .val (.int (p1 &&& (7 : Int32))), .val (.ref b7), .val (.int (1 : Int32)), .val (.int p2), .val (.int p3), .val (.int (own_fb (0 : Int32) (2 : Int32) p2 p3 p5 p6)), .val (.int (0 : Int32))] [(.int (0 : Int32)), (.int (own_fb (0 : Int32) (2 : Int32) p2 p3 p5 p6))])) _
      refine XS.icmpNo X13.here hx rfl (hb hby at_320) rfl (teq (own_no (by decide) hlt : (own_fb (0 : Int32) (2 : Int32) p2 p3 p5 p6) = (0 : Int32))).2 ?_
      show Steps p.tables e below (T13.setTop (mkF m 323 #[.val (.int p1), .val (.int p2), .val (.int p3), .val (.int p4), .val (.int p5), .val (.int p6), .val (.int (p3 ^^^ p4)), .val (.int (p1 &&& (7 : Int32))), .val (.ref b7), .val (.int (1 : Int32)), .val (.int p2), .val (.int p3), .val (.int (own_fb (0 : Int32) (2 : Int32) p2 p3 p5 p6)), .val (.int (0 : Int32))] [])) _
      refine XS.iconst X13.here hx rfl (hb hby at_323) ?_
      show Steps p.tables e below (T13.setTop (mkF m 324 #[.val (.int p1), .val (.int p2), .val (.int p3), .val (.int p4), .val (.int p5), .val (.int p6), .val (.int (p3 ^^^ p4)), .val (.int (p1 &&& (7 : Int32))), .val (.ref b7), .val (.int (1 : Int32)), .val (.int p2), .val (.int p3), .val (.int (own_fb (0 : Int32) (2 : Int32) p2 p3 p5 p6)), .val (.int (0 : Int32))] [(.int (1 : Int32))])) _
      refine XS.goto X13.here hx rfl (pc0 := 324) (pc' := 328) rfl (hb hby at_324) (by decide) (by decide) ?_
      show Steps p.tables e below (T13.setTop (mkF m 328 #[.val (.int p1), .val (.int p2), .val (.int p3), .val (.int p4), .val (.int p5), .val (.int p6), .val (.int (p3 ^^^ p4)), .val (.int (p1 &&& (7 : Int32))), .val (.ref b7), .val (.int (1 : Int32)), .val (.int p2), .val (.int p3), .val (.int (own_fb (0 : Int32) (2 : Int32) p2 p3 p5 p6)), .val (.int (0 : Int32))] [(.int (1 : Int32))])) _
      exact retN X13 hx (t := .boolean) Bd.returns (by simp) (hb hby at_328) hr
  · show Q0 Z p1 p2 p3 p4 p5 p6 h0 n0 _ T13.heap _
    exact ⟨rfl, N13⟩
set_option maxRecDepth 65536 in
set_option maxHeartbeats 40000000 in
theorem rm0_3 (l : Launch) (Z : State) (a0 : Array Value) (hw : ∀ d ∈ tables_1, d.before a0 Z = true) (ws : List Jvm.Cond) (p1 : Int32) (p2 : Int32) (p3 : Int32) (p4 : Int32) (p5 : Int32) (p6 : Int32) (h0 : Heap) (n0 : Nat) (Z0 : n0 ≤ h0.size) (hc31 : ¬ ((p1 &&& (7 : Int32)) = (0 : Int32))) (hc43 : ¬ ((p1 &&& (7 : Int32)) = (1 : Int32))) (hc68 : ¬ ((p1 &&& (7 : Int32)) = (2 : Int32))) (hc101 : (p1 &&& (7 : Int32)) = (3 : Int32)) (hc288 : ¬ ((1 : Int32) = (0 : Int32))) :
    MetFree l x (head1 (Jvm.Cond.code x code maxLocals ret :: ws) room_1) (fun a U => a = #[(.int p1), (.int p2), (.int p3), (.int p4), (.int p5), (.int p6)] ∧ Z.Warmed39 U.vm ∧ U.heap = h0) (fun _ _ _ _ _ => True) (fun _ U o U' => ∃ v L, o = .returned v ∧ Q0 Z p1 p2 p3 p4 p5 p6 h0 n0 v U'.heap L ∧ FrameEnd U o U' L room_1.cells room_1.slots) := by
  refine MetFree.of_bodySF (plainFor_of_name pn_0) hisR ?_
  intro p e s m args below meth c s₁ Bd hml0 hP hK
  obtain ⟨rfl, hZ, hh⟩ := hP
  have hx := Bd.exec
  have hby := Bd.bytes
  have hml : c.maxLocals = 14 := hml0
  have hown : s.vm.findClass "overmark/NotedPlacesFirstBeforePinLaw" = some m.cls := findClass_of_methodNamed Bd.named
  have hnm := (name_of_methodNamed Bd.named Bd.method).1
  have X0 : Stand p l e room_1 s m #[(.int p1), (.int p2), (.int p3), (.int p4), (.int p5), (.int p6)] below meth c s₁ [] 0 0 := Stand.of_body Bd
  have e0 : s₁.heap = h0 := by rw [← hh, Bd.state]; rfl
  have N0 := Fr.nil n0
  have pre0 : ∀ t, Steps p.tables e below (s₁.setTop (mkF m 0 #[.val (.int p1), .val (.int p2), .val (.int p3), .val (.int p4), .val (.int p5), .val (.int p6), .unset, .unset, .unset, .unset, .unset, .unset, .unset, .unset] [])) t → Steps p.tables e below (s₁.setTop (entryFrame m #[(.int p1), (.int p2), (.int p3), (.int p4), (.int p5), (.int p6)] maxLocals)) t := fun t k => castTop (ef_0 m p1 p2 p3 p4 p5 p6) k
  obtain ⟨T7, h7, X7, e7, E7, A7, D7, -, st7⟩ := newO X0 hx hZ hown (hw _ (List.mem_of_getElem? (i := 0) rfl)) (hw _ (List.mem_of_getElem? (i := 1) rfl)) (hw _ (List.mem_of_getElem? (i := 2) rfl)) e0 (g := (mkF m 11 #[.val (.int p1), .val (.int p2), .val (.int p3), .val (.int p4), .val (.int p5), .val (.int p6), .val (.int (p3 ^^^ p4)), .val (.int (p1 &&& (7 : Int32))), .unset, .unset, .unset, .unset, .unset, .unset] [])) rfl (hb hby at_11) (by decide) (by decide)
  obtain ⟨b7, g7⟩ : ∃ z, z = h0.size := ⟨_, rfl⟩
  rw [← g7] at A7 D7 st7
  have F_lines_b7 : Fld Z h7 b7 "overmark/NotedPlaces" "lines" "[I" .null := D7 (Or.inl (hw _ (List.mem_of_getElem? (i := 11) rfl))) (ty := (.array .int)) (by decide)
  have F_columns_b7 : Fld Z h7 b7 "overmark/NotedPlaces" "columns" "[I" .null := D7 (Or.inl (hw _ (List.mem_of_getElem? (i := 13) rfl))) (ty := (.array .int)) (by decide)
  have F_labels_b7 : Fld Z h7 b7 "overmark/NotedPlaces" "labels" "[Ljava/lang/String;" .null := D7 (Or.inl (hw _ (List.mem_of_getElem? (i := 17) rfl))) (ty := (.array (.object "java/lang/String"))) (by decide)
  have F_first_b7 : Fld Z h7 b7 "overmark/NotedPlaces" "first" "I" (.int (0 : Int32)) := D7 (Or.inl (hw _ (List.mem_of_getElem? (i := 24) rfl))) (ty := .int) (by decide)
  have F_end_b7 : Fld Z h7 b7 "overmark/NotedPlaces" "end" "I" (.int (0 : Int32)) := D7 (Or.inl (hw _ (List.mem_of_getElem? (i := 26) rfl))) (ty := .int) (by decide)
  have E_b7 := A7
  have g_b7 : n0 ≤ b7 := Nat.le_trans Z0 (Nat.le_of_eq g7.symm)
  have sz_b7 : h0.size ≤ b7 := (Nat.le_trans (Keep.refl h0 []).1 (Nat.le_of_eq g7.symm))
  have K7 : Keep h0 h7 [] := (Keep.refl h0 []).ext E7
  obtain ⟨_, _, ⟨T8, L8, k8, n8⟩, -, X8, ⟨Lc8, hQ8, l8, y8, z8⟩, st8⟩ := X7.specialBack hx (y := (⟨"overmark/NotedPlaces", "<init>", "()V"⟩ : MethodName)) rfl hown (mvT hZ (hw _ (List.mem_of_getElem? (i := 3) rfl))) (mvT hZ (hw _ (List.mem_of_getElem? (i := 4) rfl))) (mvT hZ (hw _ (List.mem_of_getElem? (i := 5) rfl))) (by decide) (backOf (W := 1) (rm1 l Z a0 hw [] b7 .null .null .null h7 n0 (Nat.le_trans Z0 E7.1) E_b7 F_lines_b7 g_b7 F_columns_b7 F_labels_b7 F_first_b7 F_end_b7) hZ (hw _ (List.mem_of_getElem? (i := 5) rfl)) (hw _ (List.mem_of_getElem? (i := 2) rfl)) (by decide) (by decide)) (g := (mkF m 15 #[.val (.int p1), .val (.int p2), .val (.int p3), .val (.int p4), .val (.int p5), .val (.int p6), .val (.int (p3 ^^^ p4)), .val (.int (p1 &&& (7 : Int32))), .unset, .unset, .unset, .unset, .unset, .unset] [(.ref b7), (.ref b7)])) rfl (by rw [hml]; rfl) (Steps.refl _) (a := b7) (argsL := []) (rest := [(.ref b7)]) (lenOf pd_0_0 rfl) rfl (by show 2 * 0 + _ ≤ _; exact Nat.le_of_eq rfl) (hb hby at_15) (fun _ _ => ⟨rfl, e7, (by decide : 1 + 3 ≤ _), (by decide : 5 + 3072 ≤ _)⟩)
  dsimp only [Pt.U, Pt.locs, Pt.cells, Pt.slots] at X8 l8 y8 z8 st8 hQ8
  subst l8 y8 z8
  obtain ⟨rfl, N8q, hs8, np8⟩ := hQ8
  have Z8 : n0 ≤ T8.heap.size := Nat.le_trans (Nat.le_trans Z0 E7.1) hs8
  have N8 := Fr.app N0 N8q
  obtain ⟨cq9, kq9, q9a, q9b, q9c⟩ := isOf hZ rfl (own_exa np8)
  obtain ⟨_, _, ⟨T9, L9, k9, n9⟩, -, X9, ⟨Lc9, hQ9, l9, y9, z9⟩, st9⟩ := X8.virtualBack hx (y := (⟨"overmark/NotedPlaces", "note", "(II)V"⟩ : MethodName)) (z := (⟨"overmark/NotedPlaces", "note", "(II)V"⟩ : MethodName)) hown (mvT hZ (hw _ (List.mem_of_getElem? (i := 27) rfl))) (mvT hZ (hw _ (List.mem_of_getElem? (i := 28) rfl))) (notFace_of_selects (args := #[]) (mvT hZ (hw _ (List.mem_of_getElem? (i := 30) rfl)))) (mvT hZ (hw _ (List.mem_of_getElem? (i := 30) rfl))) (mvT hZ (hw _ (List.mem_of_getElem? (i := 29) rfl))) (by decide) (backOf (W := 0) (rm4 l Z a0 hw [] b7 p2 p3 (0 : Int32) (0 : Int32) (1 : Int32) 0 [(.int (0 : Int32)), (.int (0 : Int32)), (.int (0 : Int32))] [(.int (0 : Int32)), (.int (0 : Int32)), (.int (0 : Int32))] [.null, .null, .null] T8.heap n0 Z8 np8 rfl (by decide) (by decide) (by decide) (Nat.le_of_ble_eq_true rfl) (Nat.le_of_ble_eq_true rfl) (Nat.le_of_ble_eq_true rfl)) hZ (hw _ (List.mem_of_getElem? (i := 31) rfl)) (hw _ (List.mem_of_getElem? (i := 2) rfl)) (by decide) (by decide)) q9a q9c (g := (mkF m 108 #[.val (.int p1), .val (.int p2), .val (.int p3), .val (.int p4), .val (.int p5), .val (.int p6), .val (.int (p3 ^^^ p4)), .val (.int (p1 &&& (7 : Int32))), .val (.ref b7), .val (.int (0 : Int32)), .val (.int (0 : Int32)), .val (.int (0 : Int32)), .unset, .unset] [(.int p3), (.int p2), (.ref b7)])) rfl (by rw [hml]; rfl) (Steps.refl _) (argsL := [(.int p2), (.int p3)]) (rest := []) (lenOf pd_0_2 rfl) rfl (by show 2 * 0 + _ ≤ _; exact Nat.le_of_eq rfl) (hb hby at_108) (fun _ _ => ⟨rfl, rfl, (by decide : 4 + 0 ≤ _), (by decide : 3077 + 0 ≤ _)⟩)
  dsimp only [Pt.U, Pt.locs, Pt.cells, Pt.slots] at X9 l9 y9 z9 st9 hQ9
  subst l9 y9 z9
  obtain ⟨rfl, N9q, hs9, nq9⟩ := hQ9
  have Z9 : n0 ≤ T9.heap.size := Nat.le_trans Z8 hs9
  have np9 : NP Z T9.heap n0 b7 (0 : Int32) (1 : Int32) [(.int p2), (.int (0 : Int32)), (.int (0 : Int32))] [(.int p3), (.int (0 : Int32)), (.int (0 : Int32))] [.null, .null, .null] := nq9
  have N9 := Fr.app N8 N9q
  obtain ⟨cq10, kq10, q10a, q10b, q10c⟩ := isOf hZ rfl (own_exa np9)
  obtain ⟨_, _, ⟨T10, L10, k10, n10⟩, -, X10, ⟨Lc10, hQ10, l10, y10, z10⟩, st10⟩ := X9.virtualBack hx (y := (⟨"overmark/NotedPlaces", "note", "(II)V"⟩ : MethodName)) (z := (⟨"overmark/NotedPlaces", "note", "(II)V"⟩ : MethodName)) hown (mvT hZ (hw _ (List.mem_of_getElem? (i := 27) rfl))) (mvT hZ (hw _ (List.mem_of_getElem? (i := 28) rfl))) (notFace_of_selects (args := #[]) (mvT hZ (hw _ (List.mem_of_getElem? (i := 30) rfl)))) (mvT hZ (hw _ (List.mem_of_getElem? (i := 30) rfl))) (mvT hZ (hw _ (List.mem_of_getElem? (i := 29) rfl))) (by decide) (backOf (W := 0) (rm4 l Z a0 hw [] b7 p4 (p3 ^^^ p4) (0 : Int32) (1 : Int32) (2 : Int32) 1 [(.int p2), (.int (0 : Int32)), (.int (0 : Int32))] [(.int p3), (.int (0 : Int32)), (.int (0 : Int32))] [.null, .null, .null] T9.heap n0 Z9 np9 rfl (by decide) (by decide) (by decide) (Nat.le_of_ble_eq_true rfl) (Nat.le_of_ble_eq_true rfl) (Nat.le_of_ble_eq_true rfl)) hZ (hw _ (List.mem_of_getElem? (i := 31) rfl)) (hw _ (List.mem_of_getElem? (i := 2) rfl)) (by decide) (by decide)) q10a q10c (g := (mkF m 116 #[.val (.int p1), .val (.int p2), .val (.int p3), .val (.int p4), .val (.int p5), .val (.int p6), .val (.int (p3 ^^^ p4)), .val (.int (p1 &&& (7 : Int32))), .val (.ref b7), .val (.int (0 : Int32)), .val (.int (0 : Int32)), .val (.int (0 : Int32)), .unset, .unset] [(.int (p3 ^^^ p4)), (.int p4), (.ref b7)])) rfl (by rw [hml]; rfl) (Steps.refl _) (argsL := [(.int p4), (.int (p3 ^^^ p4))]) (rest := []) (lenOf pd_0_2 rfl) rfl (by show 2 * 0 + _ ≤ _; exact Nat.le_of_eq rfl) (hb hby at_116) (fun _ _ => ⟨rfl, rfl, (by decide : 4 + 0 ≤ _), (by decide : 3077 + 0 ≤ _)⟩)
  dsimp only [Pt.U, Pt.locs, Pt.cells, Pt.slots] at X10 l10 y10 z10 st10 hQ10
  subst l10 y10 z10
  obtain ⟨rfl, N10q, hs10, nq10⟩ := hQ10
  have Z10 : n0 ≤ T10.heap.size := Nat.le_trans Z9 hs10
  have np10 : NP Z T10.heap n0 b7 (0 : Int32) (2 : Int32) [(.int p2), (.int p4), (.int (0 : Int32))] [(.int p3), (.int (p3 ^^^ p4)), (.int (0 : Int32))] [.null, .null, .null] := nq10
  have N10 := Fr.app N9 N10q
  obtain ⟨cq11, kq11, q11a, q11b, q11c⟩ := isOf hZ rfl (own_exa np10)
  obtain ⟨_, _, ⟨T11, L11, k11, n11⟩, -, X11, ⟨Lc11, hQ11, l11, y11, z11⟩, st11⟩ := X10.virtualBack hx (y := (⟨"overmark/NotedPlaces", "letGoFirst", "()V"⟩ : MethodName)) (z := (⟨"overmark/NotedPlaces", "letGoFirst", "()V"⟩ : MethodName)) hown (mvT hZ (hw _ (List.mem_of_getElem? (i := 32) rfl))) (mvT hZ (hw _ (List.mem_of_getElem? (i := 33) rfl))) (notFace_of_selects (args := #[]) (mvT hZ (hw _ (List.mem_of_getElem? (i := 35) rfl)))) (mvT hZ (hw _ (List.mem_of_getElem? (i := 35) rfl))) (mvT hZ (hw _ (List.mem_of_getElem? (i := 34) rfl))) (by decide) (backOf (W := 0) (rm5t l Z a0 hw [] b7 (0 : Int32) (2 : Int32) (1 : Int32) [(.int p2), (.int p4), (.int (0 : Int32))] [(.int p3), (.int (p3 ^^^ p4)), (.int (0 : Int32))] [.null, .null, .null] T10.heap n0 Z10 np10 (by decide) (by decide)) hZ (hw _ (List.mem_of_getElem? (i := 36) rfl)) (hw _ (List.mem_of_getElem? (i := 2) rfl)) (by decide) (by decide)) q11a q11c (g := (mkF m 121 #[.val (.int p1), .val (.int p2), .val (.int p3), .val (.int p4), .val (.int p5), .val (.int p6), .val (.int (p3 ^^^ p4)), .val (.int (p1 &&& (7 : Int32))), .val (.ref b7), .val (.int (0 : Int32)), .val (.int (0 : Int32)), .val (.int (0 : Int32)), .unset, .unset] [(.ref b7)])) rfl (by rw [hml]; rfl) (Steps.refl _) (argsL := []) (rest := []) (lenOf pd_0_0 rfl) rfl (by show 2 * 0 + _ ≤ _; exact Nat.le_of_eq rfl) (hb hby at_121) (fun _ _ => ⟨rfl, rfl, (by decide : 4 + 0 ≤ _), (by decide : 3077 + 0 ≤ _)⟩)
  dsimp only [Pt.U, Pt.locs, Pt.cells, Pt.slots] at X11 l11 y11 z11 st11 hQ11
  subst l11 y11 z11
  obtain ⟨rfl, N11q, hs11, nq11⟩ := hQ11
  have Z11 : n0 ≤ T11.heap.size := Nat.le_trans Z10 hs11
  have np11 : NP Z T11.heap n0 b7 (1 : Int32) (2 : Int32) [(.int p2), (.int p4), (.int (0 : Int32))] [(.int p3), (.int (p3 ^^^ p4)), (.int (0 : Int32))] [.null, .null, .null] := nq11
  have N11 := Fr.app N10 N11q
  obtain ⟨cq12, kq12, q12a, q12b, q12c⟩ := isOf hZ rfl (own_exa np11)
  obtain ⟨_, _, ⟨T12, L12, k12, n12⟩, -, X12, ⟨Lc12, hQ12, l12, y12, z12⟩, st12⟩ := X11.virtualBack hx (y := (⟨"overmark/NotedPlaces", "firstBefore", "(II)Z"⟩ : MethodName)) (z := (⟨"overmark/NotedPlaces", "firstBefore", "(II)Z"⟩ : MethodName)) hown (mvT hZ (hw _ (List.mem_of_getElem? (i := 18) rfl))) (mvT hZ (hw _ (List.mem_of_getElem? (i := 19) rfl))) (notFace_of_selects (args := #[]) (mvT hZ (hw _ (List.mem_of_getElem? (i := 21) rfl)))) (mvT hZ (hw _ (List.mem_of_getElem? (i := 21) rfl))) (mvT hZ (hw _ (List.mem_of_getElem? (i := 20) rfl))) (by decide) (backOf (W := 0) (rm3 l Z a0 hw [] b7 p5 p6 (1 : Int32) (2 : Int32) p4 (p3 ^^^ p4) 1 [(.int p2), (.int p4), (.int (0 : Int32))] [(.int p3), (.int (p3 ^^^ p4)), (.int (0 : Int32))] [.null, .null, .null] T11.heap n0 Z11 np11 rfl (by decide) (by decide) rfl rfl) hZ (hw _ (List.mem_of_getElem? (i := 22) rfl)) (hw _ (List.mem_of_getElem? (i := 2) rfl)) (by decide) (by decide)) q12a q12c (g := (mkF m 281 #[.val (.int p1), .val (.int p2), .val (.int p3), .val (.int p4), .val (.int p5), .val (.int p6), .val (.int (p3 ^^^ p4)), .val (.int (p1 &&& (7 : Int32))), .val (.ref b7), .val (.int (1 : Int32)), .val (.int p4), .val (.int (p3 ^^^ p4)), .unset, .unset] [(.int p6), (.int p5), (.ref b7)])) rfl (by rw [hml]; rfl) (Steps.refl _) (argsL := [(.int p5), (.int p6)]) (rest := []) (lenOf pd_0_1 rfl) rfl (by show 2 * 0 + _ ≤ _; exact Nat.le_of_eq rfl) (hb hby at_281) (fun _ _ => ⟨rfl, rfl, (by decide : 4 + 0 ≤ _), (by decide : 3077 + 0 ≤ _)⟩)
  dsimp only [Pt.U, Pt.locs, Pt.cells, Pt.slots] at X12 l12 y12 z12 st12 hQ12
  subst l12 y12 z12
  obtain ⟨rfl, N12q, e12⟩ := hQ12
  have Z12 : n0 ≤ T12.heap.size := by rw [e12]; exact Z11
  have N12 := Fr.app N11 N12q
  obtain ⟨_, _, ⟨T13, L13, k13, n13⟩, -, X13, ⟨Lc13, hQ13, l13, y13, z13⟩, st13⟩ := Jvm.LawKit.callS X12 hx (y := (⟨"overmark/NotedPlacesFirstBeforePinLaw", "key", "(II)J"⟩ : MethodName)) hown (mvT hZ (hw _ (List.mem_of_getElem? (i := 37) rfl))) (mvT hZ (hw _ (List.mem_of_getElem? (i := 38) rfl))) (mvT hZ (hw _ (List.mem_of_getElem? (i := 39) rfl))) (mvT hZ (hw _ (List.mem_of_getElem? (i := 40) rfl))) (by decide) (backOf (W := 0) (rm6 l Z a0 hw [] p4 (p3 ^^^ p4) T12.heap n0 Z12) hZ (hw _ (List.mem_of_getElem? (i := 40) rfl)) (hw _ (List.mem_of_getElem? (i := 39) rfl)) (by decide) (by decide)) (g := (mkF m 295 #[.val (.int p1), .val (.int p2), .val (.int p3), .val (.int p4), .val (.int p5), .val (.int p6), .val (.int (p3 ^^^ p4)), .val (.int (p1 &&& (7 : Int32))), .val (.ref b7), .val (.int (1 : Int32)), .val (.int p4), .val (.int (p3 ^^^ p4)), .val (.int (own_fb (1 : Int32) (2 : Int32) p4 (p3 ^^^ p4) p5 p6)), .unset] [(.int (p3 ^^^ p4)), (.int p4)])) rfl (by rw [hml]; rfl) (argsL := [(.int p4), (.int (p3 ^^^ p4))]) (rest := []) (lenOf pd_0_3 rfl) rfl (by show 2 * 0 + _ ≤ _; exact Nat.le_of_eq rfl) (hb hby at_295) (fun _ _ => ⟨rfl, rfl, (by decide : 4 + 0 ≤ _), (by decide : 3077 + 0 ≤ _)⟩)
  dsimp only [Pt.U, Pt.locs, Pt.cells, Pt.slots] at X13 l13 y13 z13 st13 hQ13
  subst l13 y13 z13
  obtain ⟨rfl, N13q, e13⟩ := hQ13
  have Z13 : n0 ≤ T13.heap.size := by rw [e13]; exact Z12
  have N13 := Fr.app N12 N13q
  obtain ⟨_, _, ⟨T14, L14, k14, n14⟩, -, X14, ⟨Lc14, hQ14, l14, y14, z14⟩, st14⟩ := Jvm.LawKit.callS X13 hx (y := (⟨"overmark/NotedPlacesFirstBeforePinLaw", "key", "(II)J"⟩ : MethodName)) hown (mvT hZ (hw _ (List.mem_of_getElem? (i := 37) rfl))) (mvT hZ (hw _ (List.mem_of_getElem? (i := 38) rfl))) (mvT hZ (hw _ (List.mem_of_getElem? (i := 39) rfl))) (mvT hZ (hw _ (List.mem_of_getElem? (i := 40) rfl))) (by decide) (backOf (W := 2) (rm6 l Z a0 hw [] p5 p6 T13.heap n0 Z13) hZ (hw _ (List.mem_of_getElem? (i := 40) rfl)) (hw _ (List.mem_of_getElem? (i := 39) rfl)) (by decide) (by decide)) (g := (mkF m 302 #[.val (.int p1), .val (.int p2), .val (.int p3), .val (.int p4), .val (.int p5), .val (.int p6), .val (.int (p3 ^^^ p4)), .val (.int (p1 &&& (7 : Int32))), .val (.ref b7), .val (.int (1 : Int32)), .val (.int p4), .val (.int (p3 ^^^ p4)), .val (.int (own_fb (1 : Int32) (2 : Int32) p4 (p3 ^^^ p4) p5 p6)), .unset] [(.int p6), (.int p5), (.long (own_key p4 (p3 ^^^ p4)))])) rfl (by rw [hml]; rfl) (argsL := [(.int p5), (.int p6)]) (rest := [(.long (own_key p4 (p3 ^^^ p4)))]) (lenOf pd_0_3 rfl) rfl (by show 2 * 0 + _ ≤ _; exact Nat.le_of_eq rfl) (hb hby at_302) (fun _ _ => ⟨rfl, rfl, (by decide : 4 + 0 ≤ _), (by decide : 3077 + 0 ≤ _)⟩)
  dsimp only [Pt.U, Pt.locs, Pt.cells, Pt.slots] at X14 l14 y14 z14 st14 hQ14
  subst l14 y14 z14
  obtain ⟨rfl, N14q, e14⟩ := hQ14
  have Z14 : n0 ≤ T14.heap.size := by rw [e14]; exact Z13
  have N14 := Fr.app N13 N14q
  obtain ⟨fs, hr, hrun, hended, hW, hsame⟩ := X14.leave (v := some (.int (1 : Int32))) (fun h => by rw [Bd.returns] at h; cases h)
  refine ⟨_, _, pre0 _ ?_, hrun, hended, _, _, rfl, ?_, ⟨_, rfl⟩, hW, hsame.mono (by decide) (by decide)⟩
  · show Steps p.tables e below (s₁.setTop (mkF m 0 #[.val (.int p1), .val (.int p2), .val (.int p3), .val (.int p4), .val (.int p5), .val (.int p6), .unset, .unset, .unset, .unset, .unset, .unset, .unset, .unset] [])) _
    refine XS.iloadN X0.here hx rfl (hb hby at_0) rfl ?_
    show Steps p.tables e below (s₁.setTop (mkF m 1 #[.val (.int p1), .val (.int p2), .val (.int p3), .val (.int p4), .val (.int p5), .val (.int p6), .unset, .unset, .unset, .unset, .unset, .unset, .unset, .unset] [(.int p3)])) _
    refine XS.iloadN X0.here hx rfl (hb hby at_1) rfl ?_
    show Steps p.tables e below (s₁.setTop (mkF m 2 #[.val (.int p1), .val (.int p2), .val (.int p3), .val (.int p4), .val (.int p5), .val (.int p6), .unset, .unset, .unset, .unset, .unset, .unset, .unset, .unset] [(.int p4), (.int p3)])) _
    refine XS.ixor X0.here hx rfl (hb hby at_2) rfl ?_
    show Steps p.tables e below (s₁.setTop (mkF m 3 #[.val (.int p1), .val (.int p2), .val (.int p3), .val (.int p4), .val (.int p5), .val (.int p6), .unset, .unset, .unset, .unset, .unset, .unset, .unset, .unset] [(.int (p3 ^^^ p4))])) _
    refine XS.istore X0.here hx rfl (hb hby at_3) rfl (l' := #[.val (.int p1), .val (.int p2), .val (.int p3), .val (.int p4), .val (.int p5), .val (.int p6), .val (.int (p3 ^^^ p4)), .unset, .unset, .unset, .unset, .unset, .unset, .unset]) rfl ?_
    show Steps p.tables e below (s₁.setTop (mkF m 5 #[.val (.int p1), .val (.int p2), .val (.int p3), .val (.int p4), .val (.int p5), .val (.int p6), .val (.int (p3 ^^^ p4)), .unset, .unset, .unset, .unset, .unset, .unset, .unset] [])) _
    refine XS.iloadN X0.here hx rfl (hb hby at_5) rfl ?_
    show Steps p.tables e below (s₁.setTop (mkF m 6 #[.val (.int p1), .val (.int p2), .val (.int p3), .val (.int p4), .val (.int p5), .val (.int p6), .val (.int (p3 ^^^ p4)), .unset, .unset, .unset, .unset, .unset, .unset, .unset] [(.int p1)])) _
    refine XS.bipush X0.here hx rfl (hb hby at_6) ?_
    show Steps p.tables e below (s₁.setTop (mkF m 8 #[.val (.int p1), .val (.int p2), .val (.int p3), .val (.int p4), .val (.int p5), .val (.int p6), .val (.int (p3 ^^^ p4)), .unset, .unset, .unset, .unset, .unset, .unset, .unset] [(.int (7 : Int32)), (.int p1)])) _
    refine XS.iand X0.here hx rfl (hb hby at_8) rfl ?_
    show Steps p.tables e below (s₁.setTop (mkF m 9 #[.val (.int p1), .val (.int p2), .val (.int p3), .val (.int p4), .val (.int p5), .val (.int p6), .val (.int (p3 ^^^ p4)), .unset, .unset, .unset, .unset, .unset, .unset, .unset] [(.int (p1 &&& (7 : Int32)))])) _
    refine XS.istore X0.here hx rfl (hb hby at_9) rfl (l' := #[.val (.int p1), .val (.int p2), .val (.int p3), .val (.int p4), .val (.int p5), .val (.int p6), .val (.int (p3 ^^^ p4)), .val (.int (p1 &&& (7 : Int32))), .unset, .unset, .unset, .unset, .unset, .unset]) rfl ?_
    show Steps p.tables e below (s₁.setTop (mkF m 11 #[.val (.int p1), .val (.int p2), .val (.int p3), .val (.int p4), .val (.int p5), .val (.int p6), .val (.int (p3 ^^^ p4)), .val (.int (p1 &&& (7 : Int32))), .unset, .unset, .unset, .unset, .unset, .unset] [])) _
    refine st7 _ ?_
    show Steps p.tables e below (T7.setTop (mkF m 14 #[.val (.int p1), .val (.int p2), .val (.int p3), .val (.int p4), .val (.int p5), .val (.int p6), .val (.int (p3 ^^^ p4)), .val (.int (p1 &&& (7 : Int32))), .unset, .unset, .unset, .unset, .unset, .unset] [(.ref b7)])) _
    refine XS.dup X7.here hx rfl (hb hby at_14) rfl rfl ?_
    show Steps p.tables e below (T7.setTop (mkF m 15 #[.val (.int p1), .val (.int p2), .val (.int p3), .val (.int p4), .val (.int p5), .val (.int p6), .val (.int (p3 ^^^ p4)), .val (.int (p1 &&& (7 : Int32))), .unset, .unset, .unset, .unset, .unset, .unset] [(.ref b7), (.ref b7)])) _
    refine st8.trans ?_
    show Steps p.tables e below (T8.setTop (mkF m 18 #[.val (.int p1), .val (.int p2), .val (.int p3), .val (.int p4), .val (.int p5), .val (.int p6), .val (.int (p3 ^^^ p4)), .val (.int (p1 &&& (7 : Int32))), .unset, .unset, .unset, .unset, .unset, .unset] [(.ref b7)])) _
    refine XS.astore X8.here hx rfl (hb hby at_18) rfl rfl (l' := #[.val (.int p1), .val (.int p2), .val (.int p3), .val (.int p4), .val (.int p5), .val (.int p6), .val (.int (p3 ^^^ p4)), .val (.int (p1 &&& (7 : Int32))), .val (.ref b7), .unset, .unset, .unset, .unset, .unset]) rfl ?_
    show Steps p.tables e below (T8.setTop (mkF m 20 #[.val (.int p1), .val (.int p2), .val (.int p3), .val (.int p4), .val (.int p5), .val (.int p6), .val (.int (p3 ^^^ p4)), .val (.int (p1 &&& (7 : Int32))), .val (.ref b7), .unset, .unset, .unset, .unset, .unset] [])) _
    refine XS.iconst X8.here hx rfl (hb hby at_20) ?_
    show Steps p.tables e below (T8.setTop (mkF m 21 #[.val (.int p1), .val (.int p2), .val (.int p3), .val (.int p4), .val (.int p5), .val (.int p6), .val (.int (p3 ^^^ p4)), .val (.int (p1 &&& (7 : Int32))), .val (.ref b7), .unset, .unset, .unset, .unset, .unset] [(.int (0 : Int32))])) _
    refine XS.istore X8.here hx rfl (hb hby at_21) rfl (l' := #[.val (.int p1), .val (.int p2), .val (.int p3), .val (.int p4), .val (.int p5), .val (.int p6), .val (.int (p3 ^^^ p4)), .val (.int (p1 &&& (7 : Int32))), .val (.ref b7), .val (.int (0 : Int32)), .unset, .unset, .unset, .unset]) rfl ?_
    show Steps p.tables e below (T8.setTop (mkF m 23 #[.val (.int p1), .val (.int p2), .val (.int p3), .val (.int p4), .val (.int p5), .val (.int p6), .val (.int (p3 ^^^ p4)), .val (.int (p1 &&& (7 : Int32))), .val (.ref b7), .val (.int (0 : Int32)), .unset, .unset, .unset, .unset] [])) _
    refine XS.iconst X8.here hx rfl (hb hby at_23) ?_
    show Steps p.tables e below (T8.setTop (mkF m 24 #[.val (.int p1), .val (.int p2), .val (.int p3), .val (.int p4), .val (.int p5), .val (.int p6), .val (.int (p3 ^^^ p4)), .val (.int (p1 &&& (7 : Int32))), .val (.ref b7), .val (.int (0 : Int32)), .unset, .unset, .unset, .unset] [(.int (0 : Int32))])) _
    refine XS.istore X8.here hx rfl (hb hby at_24) rfl (l' := #[.val (.int p1), .val (.int p2), .val (.int p3), .val (.int p4), .val (.int p5), .val (.int p6), .val (.int (p3 ^^^ p4)), .val (.int (p1 &&& (7 : Int32))), .val (.ref b7), .val (.int (0 : Int32)), .val (.int (0 : Int32)), .unset, .unset, .unset]) rfl ?_
    show Steps p.tables e below (T8.setTop (mkF m 26 #[.val (.int p1), .val (.int p2), .val (.int p3), .val (.int p4), .val (.int p5), .val (.int p6), .val (.int (p3 ^^^ p4)), .val (.int (p1 &&& (7 : Int32))), .val (.ref b7), .val (.int (0 : Int32)), .val (.int (0 : Int32)), .unset, .unset, .unset] [])) _
    refine XS.iconst X8.here hx rfl (hb hby at_26) ?_
    show Steps p.tables e below (T8.setTop (mkF m 27 #[.val (.int p1), .val (.int p2), .val (.int p3), .val (.int p4), .val (.int p5), .val (.int p6), .val (.int (p3 ^^^ p4)), .val (.int (p1 &&& (7 : Int32))), .val (.ref b7), .val (.int (0 : Int32)), .val (.int (0 : Int32)), .unset, .unset, .unset] [(.int (0 : Int32))])) _
    refine XS.istore X8.here hx rfl (hb hby at_27) rfl (l' := #[.val (.int p1), .val (.int p2), .val (.int p3), .val (.int p4), .val (.int p5), .val (.int p6), .val (.int (p3 ^^^ p4)), .val (.int (p1 &&& (7 : Int32))), .val (.ref b7), .val (.int (0 : Int32)), .val (.int (0 : Int32)), .val (.int (0 : Int32)), .unset, .unset]) rfl ?_
    show Steps p.tables e below (T8.setTop (mkF m 29 #[.val (.int p1), .val (.int p2), .val (.int p3), .val (.int p4), .val (.int p5), .val (.int p6), .val (.int (p3 ^^^ p4)), .val (.int (p1 &&& (7 : Int32))), .val (.ref b7), .val (.int (0 : Int32)), .val (.int (0 : Int32)), .val (.int (0 : Int32)), .unset, .unset] [])) _
    refine XS.iload X8.here hx rfl (hb hby at_29) rfl ?_
    show Steps p.tables e below (T8.setTop (mkF m 31 #[.val (.int p1), .val (.int p2), .val (.int p3), .val (.int p4), .val (.int p5), .val (.int p6), .val (.int (p3 ^^^ p4)), .val (.int (p1 &&& (7 : Int32))), .val (.ref b7), .val (.int (0 : Int32)), .val (.int (0 : Int32)), .val (.int (0 : Int32)), .unset, .unset] [(.int (p1 &&& (7 : Int32)))])) _
    refine XS.ifYes X8.here hx rfl (pc0 := 31) (pc' := 40) rfl (hb hby at_31) rfl ((if0 _ _).trans (feq hc31).2) (by decide) (by decide) ?_
    show Steps p.tables e below (T8.setTop (mkF m 40 #[.val (.int p1), .val (.int p2), .val (.int p3), .val (.int p4), .val (.int p5), .val (.int p6), .val (.int (p3 ^^^ p4)), .val (.int (p1 &&& (7 : Int32))), .val (.ref b7), .val (.int (0 : Int32)), .val (.int (0 : Int32)), .val (.int (0 : Int32)), .unset, .unset] [])) _
    refine XS.iload X8.here hx rfl (hb hby at_40) rfl ?_
    show Steps p.tables e below (T8.setTop (mkF m 42 #[.val (.int p1), .val (.int p2), .val (.int p3), .val (.int p4), .val (.int p5), .val (.int p6), .val (.int (p3 ^^^ p4)), .val (.int (p1 &&& (7 : Int32))), .val (.ref b7), .val (.int (0 : Int32)), .val (.int (0 : Int32)), .val (.int (0 : Int32)), .unset, .unset] [(.int (p1 &&& (7 : Int32)))])) _
    refine XS.iconst X8.here hx rfl (hb hby at_42) ?_
    show Steps p.tables e below (T8.setTop (mkF m 43 #[.val (.int p1), .val (.int p2), .val (.int p3), .val (.int p4), .val (.int p5), .val (.int p6), .val (.int (p3 ^^^ p4)), .val (.int (p1 &&& (7 : Int32))), .val (.ref b7), .val (.int (0 : Int32)), .val (.int (0 : Int32)), .val (.int (0 : Int32)), .unset, .unset] [(.int (1 : Int32)), (.int (p1 &&& (7 : Int32)))])) _
    refine XS.icmpYes X8.here hx rfl (pc0 := 43) (pc' := 65) rfl (hb hby at_43) rfl (feq hc43).2 (by decide) (by decide) ?_
    show Steps p.tables e below (T8.setTop (mkF m 65 #[.val (.int p1), .val (.int p2), .val (.int p3), .val (.int p4), .val (.int p5), .val (.int p6), .val (.int (p3 ^^^ p4)), .val (.int (p1 &&& (7 : Int32))), .val (.ref b7), .val (.int (0 : Int32)), .val (.int (0 : Int32)), .val (.int (0 : Int32)), .unset, .unset] [])) _
    refine XS.iload X8.here hx rfl (hb hby at_65) rfl ?_
    show Steps p.tables e below (T8.setTop (mkF m 67 #[.val (.int p1), .val (.int p2), .val (.int p3), .val (.int p4), .val (.int p5), .val (.int p6), .val (.int (p3 ^^^ p4)), .val (.int (p1 &&& (7 : Int32))), .val (.ref b7), .val (.int (0 : Int32)), .val (.int (0 : Int32)), .val (.int (0 : Int32)), .unset, .unset] [(.int (p1 &&& (7 : Int32)))])) _
    refine XS.iconst X8.here hx rfl (hb hby at_67) ?_
    show Steps p.tables e below (T8.setTop (mkF m 68 #[.val (.int p1), .val (.int p2), .val (.int p3), .val (.int p4), .val (.int p5), .val (.int p6), .val (.int (p3 ^^^ p4)), .val (.int (p1 &&& (7 : Int32))), .val (.ref b7), .val (.int (0 : Int32)), .val (.int (0 : Int32)), .val (.int (0 : Int32)), .unset, .unset] [(.int (2 : Int32)), (.int (p1 &&& (7 : Int32)))])) _
    refine XS.icmpYes X8.here hx rfl (pc0 := 68) (pc' := 98) rfl (hb hby at_68) rfl (feq hc68).2 (by decide) (by decide) ?_
    show Steps p.tables e below (T8.setTop (mkF m 98 #[.val (.int p1), .val (.int p2), .val (.int p3), .val (.int p4), .val (.int p5), .val (.int p6), .val (.int (p3 ^^^ p4)), .val (.int (p1 &&& (7 : Int32))), .val (.ref b7), .val (.int (0 : Int32)), .val (.int (0 : Int32)), .val (.int (0 : Int32)), .unset, .unset] [])) _
    refine XS.iload X8.here hx rfl (hb hby at_98) rfl ?_
    show Steps p.tables e below (T8.setTop (mkF m 100 #[.val (.int p1), .val (.int p2), .val (.int p3), .val (.int p4), .val (.int p5), .val (.int p6), .val (.int (p3 ^^^ p4)), .val (.int (p1 &&& (7 : Int32))), .val (.ref b7), .val (.int (0 : Int32)), .val (.int (0 : Int32)), .val (.int (0 : Int32)), .unset, .unset] [(.int (p1 &&& (7 : Int32)))])) _
    refine XS.iconst X8.here hx rfl (hb hby at_100) ?_
    show Steps p.tables e below (T8.setTop (mkF m 101 #[.val (.int p1), .val (.int p2), .val (.int p3), .val (.int p4), .val (.int p5), .val (.int p6), .val (.int (p3 ^^^ p4)), .val (.int (p1 &&& (7 : Int32))), .val (.ref b7), .val (.int (0 : Int32)), .val (.int (0 : Int32)), .val (.int (0 : Int32)), .unset, .unset] [(.int (3 : Int32)), (.int (p1 &&& (7 : Int32)))])) _
    refine XS.icmpNo X8.here hx rfl (hb hby at_101) rfl (teq hc101).2 ?_
    show Steps p.tables e below (T8.setTop (mkF m 104 #[.val (.int p1), .val (.int p2), .val (.int p3), .val (.int p4), .val (.int p5), .val (.int p6), .val (.int (p3 ^^^ p4)), .val (.int (p1 &&& (7 : Int32))), .val (.ref b7), .val (.int (0 : Int32)), .val (.int (0 : Int32)), .val (.int (0 : Int32)), .unset, .unset] [])) _
    refine XS.aload X8.here hx rfl (hb hby at_104) rfl rfl ?_
    show Steps p.tables e below (T8.setTop (mkF m 106 #[.val (.int p1), .val (.int p2), .val (.int p3), .val (.int p4), .val (.int p5), .val (.int p6), .val (.int (p3 ^^^ p4)), .val (.int (p1 &&& (7 : Int32))), .val (.ref b7), .val (.int (0 : Int32)), .val (.int (0 : Int32)), .val (.int (0 : Int32)), .unset, .unset] [(.ref b7)])) _
    refine XS.iloadN X8.here hx rfl (hb hby at_106) rfl ?_
    show Steps p.tables e below (T8.setTop (mkF m 107 #[.val (.int p1), .val (.int p2), .val (.int p3), .val (.int p4), .val (.int p5), .val (.int p6), .val (.int (p3 ^^^ p4)), .val (.int (p1 &&& (7 : Int32))), .val (.ref b7), .val (.int (0 : Int32)), .val (.int (0 : Int32)), .val (.int (0 : Int32)), .unset, .unset] [(.int p2), (.ref b7)])) _
    refine XS.iloadN X8.here hx rfl (hb hby at_107) rfl ?_
    show Steps p.tables e below (T8.setTop (mkF m 108 #[.val (.int p1), .val (.int p2), .val (.int p3), .val (.int p4), .val (.int p5), .val (.int p6), .val (.int (p3 ^^^ p4)), .val (.int (p1 &&& (7 : Int32))), .val (.ref b7), .val (.int (0 : Int32)), .val (.int (0 : Int32)), .val (.int (0 : Int32)), .unset, .unset] [(.int p3), (.int p2), (.ref b7)])) _
    refine st9.trans ?_
    show Steps p.tables e below (T9.setTop (mkF m 111 #[.val (.int p1), .val (.int p2), .val (.int p3), .val (.int p4), .val (.int p5), .val (.int p6), .val (.int (p3 ^^^ p4)), .val (.int (p1 &&& (7 : Int32))), .val (.ref b7), .val (.int (0 : Int32)), .val (.int (0 : Int32)), .val (.int (0 : Int32)), .unset, .unset] [])) _
    refine XS.aload X9.here hx rfl (hb hby at_111) rfl rfl ?_
    show Steps p.tables e below (T9.setTop (mkF m 113 #[.val (.int p1), .val (.int p2), .val (.int p3), .val (.int p4), .val (.int p5), .val (.int p6), .val (.int (p3 ^^^ p4)), .val (.int (p1 &&& (7 : Int32))), .val (.ref b7), .val (.int (0 : Int32)), .val (.int (0 : Int32)), .val (.int (0 : Int32)), .unset, .unset] [(.ref b7)])) _
    refine XS.iloadN X9.here hx rfl (hb hby at_113) rfl ?_
    show Steps p.tables e below (T9.setTop (mkF m 114 #[.val (.int p1), .val (.int p2), .val (.int p3), .val (.int p4), .val (.int p5), .val (.int p6), .val (.int (p3 ^^^ p4)), .val (.int (p1 &&& (7 : Int32))), .val (.ref b7), .val (.int (0 : Int32)), .val (.int (0 : Int32)), .val (.int (0 : Int32)), .unset, .unset] [(.int p4), (.ref b7)])) _
    refine XS.iload X9.here hx rfl (hb hby at_114) rfl ?_
    show Steps p.tables e below (T9.setTop (mkF m 116 #[.val (.int p1), .val (.int p2), .val (.int p3), .val (.int p4), .val (.int p5), .val (.int p6), .val (.int (p3 ^^^ p4)), .val (.int (p1 &&& (7 : Int32))), .val (.ref b7), .val (.int (0 : Int32)), .val (.int (0 : Int32)), .val (.int (0 : Int32)), .unset, .unset] [(.int (p3 ^^^ p4)), (.int p4), (.ref b7)])) _
    refine st10.trans ?_
    show Steps p.tables e below (T10.setTop (mkF m 119 #[.val (.int p1), .val (.int p2), .val (.int p3), .val (.int p4), .val (.int p5), .val (.int p6), .val (.int (p3 ^^^ p4)), .val (.int (p1 &&& (7 : Int32))), .val (.ref b7), .val (.int (0 : Int32)), .val (.int (0 : Int32)), .val (.int (0 : Int32)), .unset, .unset] [])) _
    refine XS.aload X10.here hx rfl (hb hby at_119) rfl rfl ?_
    show Steps p.tables e below (T10.setTop (mkF m 121 #[.val (.int p1), .val (.int p2), .val (.int p3), .val (.int p4), .val (.int p5), .val (.int p6), .val (.int (p3 ^^^ p4)), .val (.int (p1 &&& (7 : Int32))), .val (.ref b7), .val (.int (0 : Int32)), .val (.int (0 : Int32)), .val (.int (0 : Int32)), .unset, .unset] [(.ref b7)])) _
    refine st11.trans ?_
    show Steps p.tables e below (T11.setTop (mkF m 124 #[.val (.int p1), .val (.int p2), .val (.int p3), .val (.int p4), .val (.int p5), .val (.int p6), .val (.int (p3 ^^^ p4)), .val (.int (p1 &&& (7 : Int32))), .val (.ref b7), .val (.int (0 : Int32)), .val (.int (0 : Int32)), .val (.int (0 : Int32)), .unset, .unset] [])) _
    refine XS.iconst X11.here hx rfl (hb hby at_124) ?_
    show Steps p.tables e below (T11.setTop (mkF m 125 #[.val (.int p1), .val (.int p2), .val (.int p3), .val (.int p4), .val (.int p5), .val (.int p6), .val (.int (p3 ^^^ p4)), .val (.int (p1 &&& (7 : Int32))), .val (.ref b7), .val (.int (0 : Int32)), .val (.int (0 : Int32)), .val (.int (0 : Int32)), .unset, .unset] [(.int (1 : Int32))])) _
    refine XS.istore X11.here hx rfl (hb hby at_125) rfl (l' := #[.val (.int p1), .val (.int p2), .val (.int p3), .val (.int p4), .val (.int p5), .val (.int p6), .val (.int (p3 ^^^ p4)), .val (.int (p1 &&& (7 : Int32))), .val (.ref b7), .val (.int (1 : Int32)), .val (.int (0 : Int32)), .val (.int (0 : Int32)), .unset, .unset]) rfl ?_
    show Steps p.tables e below (T11.setTop (mkF m 127 #[.val (.int p1), .val (.int p2), .val (.int p3), .val (.int p4), .val (.int p5), .val (.int p6), .val (.int (p3 ^^^ p4)), .val (.int (p1 &&& (7 : Int32))), .val (.ref b7), .val (.int (1 : Int32)), .val (.int (0 : Int32)), .val (.int (0 : Int32)), .unset, .unset] [])) _
    refine XS.iloadN X11.here hx rfl (hb hby at_127) rfl ?_
    show Steps p.tables e below (T11.setTop (mkF m 128 #[.val (.int p1), .val (.int p2), .val (.int p3), .val (.int p4), .val (.int p5), .val (.int p6), .val (.int (p3 ^^^ p4)), .val (.int (p1 &&& (7 : Int32))), .val (.ref b7), .val (.int (1 : Int32)), .val (.int (0 : Int32)), .val (.int (0 : Int32)), .unset, .unset] [(.int p4)])) _
    refine XS.istore X11.here hx rfl (hb hby at_128) rfl (l' := #[.val (.int p1), .val (.int p2), .val (.int p3), .val (.int p4), .val (.int p5), .val (.int p6), .val (.int (p3 ^^^ p4)), .val (.int (p1 &&& (7 : Int32))), .val (.ref b7), .val (.int (1 : Int32)), .val (.int p4), .val (.int (0 : Int32)), .unset, .unset]) rfl ?_
    show Steps p.tables e below (T11.setTop (mkF m 130 #[.val (.int p1), .val (.int p2), .val (.int p3), .val (.int p4), .val (.int p5), .val (.int p6), .val (.int (p3 ^^^ p4)), .val (.int (p1 &&& (7 : Int32))), .val (.ref b7), .val (.int (1 : Int32)), .val (.int p4), .val (.int (0 : Int32)), .unset, .unset] [])) _
    refine XS.iload X11.here hx rfl (hb hby at_130) rfl ?_
    show Steps p.tables e below (T11.setTop (mkF m 132 #[.val (.int p1), .val (.int p2), .val (.int p3), .val (.int p4), .val (.int p5), .val (.int p6), .val (.int (p3 ^^^ p4)), .val (.int (p1 &&& (7 : Int32))), .val (.ref b7), .val (.int (1 : Int32)), .val (.int p4), .val (.int (0 : Int32)), .unset, .unset] [(.int (p3 ^^^ p4))])) _
    refine XS.istore X11.here hx rfl (hb hby at_132) rfl (l' := #[.val (.int p1), .val (.int p2), .val (.int p3), .val (.int p4), .val (.int p5), .val (.int p6), .val (.int (p3 ^^^ p4)), .val (.int (p1 &&& (7 : Int32))), .val (.ref b7), .val (.int (1 : Int32)), .val (.int p4), .val (.int (p3 ^^^ p4)), .unset, .unset]) rfl ?_
    show Steps p.tables e below (T11.setTop (mkF m 134 #[.val (.int p1), .val (.int p2), .val (.int p3), .val (.int p4), .val (.int p5), .val (.int p6), .val (.int (p3 ^^^ p4)), .val (.int (p1 &&& (7 : Int32))), .val (.ref b7), .val (.int (1 : Int32)), .val (.int p4), .val (.int (p3 ^^^ p4)), .unset, .unset] [])) _
    refine XS.goto X11.here hx rfl (pc0 := 134) (pc' := 275) rfl (hb hby at_134) (by decide) (by decide) ?_
    show Steps p.tables e below (T11.setTop (mkF m 275 #[.val (.int p1), .val (.int p2), .val (.int p3), .val (.int p4), .val (.int p5), .val (.int p6), .val (.int (p3 ^^^ p4)), .val (.int (p1 &&& (7 : Int32))), .val (.ref b7), .val (.int (1 : Int32)), .val (.int p4), .val (.int (p3 ^^^ p4)), .unset, .unset] [])) _
    refine XS.aload X11.here hx rfl (hb hby at_275) rfl rfl ?_
    show Steps p.tables e below (T11.setTop (mkF m 277 #[.val (.int p1), .val (.int p2), .val (.int p3), .val (.int p4), .val (.int p5), .val (.int p6), .val (.int (p3 ^^^ p4)), .val (.int (p1 &&& (7 : Int32))), .val (.ref b7), .val (.int (1 : Int32)), .val (.int p4), .val (.int (p3 ^^^ p4)), .unset, .unset] [(.ref b7)])) _
    refine XS.iload X11.here hx rfl (hb hby at_277) rfl ?_
    show Steps p.tables e below (T11.setTop (mkF m 279 #[.val (.int p1), .val (.int p2), .val (.int p3), .val (.int p4), .val (.int p5), .val (.int p6), .val (.int (p3 ^^^ p4)), .val (.int (p1 &&& (7 : Int32))), .val (.ref b7), .val (.int (1 : Int32)), .val (.int p4), .val (.int (p3 ^^^ p4)), .unset, .unset] [(.int p5), (.ref b7)])) _
    refine XS.iload X11.here hx rfl (hb hby at_279) rfl ?_
    show Steps p.tables e below (T11.setTop (mkF m 281 #[.val (.int p1), .val (.int p2), .val (.int p3), .val (.int p4), .val (.int p5), .val (.int p6), .val (.int (p3 ^^^ p4)), .val (.int (p1 &&& (7 : Int32))), .val (.ref b7), .val (.int (1 : Int32)), .val (.int p4), .val (.int (p3 ^^^ p4)), .unset, .unset] [(.int p6), (.int p5), (.ref b7)])) _
    refine st12.trans ?_
    show Steps p.tables e below (T12.setTop (mkF m 284 #[.val (.int p1), .val (.int p2), .val (.int p3), .val (.int p4), .val (.int p5), .val (.int p6), .val (.int (p3 ^^^ p4)), .val (.int (p1 &&& (7 : Int32))), .val (.ref b7), .val (.int (1 : Int32)), .val (.int p4), .val (.int (p3 ^^^ p4)), .unset, .unset] [(.int (own_fb (1 : Int32) (2 : Int32) p4 (p3 ^^^ p4) p5 p6))])) _
    refine XS.istore X12.here hx rfl (hb hby at_284) rfl (l' := #[.val (.int p1), .val (.int p2), .val (.int p3), .val (.int p4), .val (.int p5), .val (.int p6), .val (.int (p3 ^^^ p4)), .val (.int (p1 &&& (7 : Int32))), .val (.ref b7), .val (.int (1 : Int32)), .val (.int p4), .val (.int (p3 ^^^ p4)), .val (.int (own_fb (1 : Int32) (2 : Int32) p4 (p3 ^^^ p4) p5 p6)), .unset]) rfl ?_
    show Steps p.tables e below (T12.setTop (mkF m 286 #[.val (.int p1), .val (.int p2), .val (.int p3), .val (.int p4), .val (.int p5), .val (.int p6), .val (.int (p3 ^^^ p4)), .val (.int (p1 &&& (7 : Int32))), .val (.ref b7), .val (.int (1 : Int32)), .val (.int p4), .val (.int (p3 ^^^ p4)), .val (.int (own_fb (1 : Int32) (2 : Int32) p4 (p3 ^^^ p4) p5 p6)), .unset] [])) _
    refine XS.iload X12.here hx rfl (hb hby at_286) rfl ?_
    show Steps p.tables e below (T12.setTop (mkF m 288 #[.val (.int p1), .val (.int p2), .val (.int p3), .val (.int p4), .val (.int p5), .val (.int p6), .val (.int (p3 ^^^ p4)), .val (.int (p1 &&& (7 : Int32))), .val (.ref b7), .val (.int (1 : Int32)), .val (.int p4), .val (.int (p3 ^^^ p4)), .val (.int (own_fb (1 : Int32) (2 : Int32) p4 (p3 ^^^ p4) p5 p6)), .unset] [(.int (1 : Int32))])) _
    refine XS.ifNo X12.here hx rfl (hb hby at_288) rfl ((if0 _ _).trans (feq hc288).1) ?_
    show Steps p.tables e below (T12.setTop (mkF m 291 #[.val (.int p1), .val (.int p2), .val (.int p3), .val (.int p4), .val (.int p5), .val (.int p6), .val (.int (p3 ^^^ p4)), .val (.int (p1 &&& (7 : Int32))), .val (.ref b7), .val (.int (1 : Int32)), .val (.int p4), .val (.int (p3 ^^^ p4)), .val (.int (own_fb (1 : Int32) (2 : Int32) p4 (p3 ^^^ p4) p5 p6)), .unset] [])) _
    refine XS.iload X12.here hx rfl (hb hby at_291) rfl ?_
    show Steps p.tables e below (T12.setTop (mkF m 293 #[.val (.int p1), .val (.int p2), .val (.int p3), .val (.int p4), .val (.int p5), .val (.int p6), .val (.int (p3 ^^^ p4)), .val (.int (p1 &&& (7 : Int32))), .val (.ref b7), .val (.int (1 : Int32)), .val (.int p4), .val (.int (p3 ^^^ p4)), .val (.int (own_fb (1 : Int32) (2 : Int32) p4 (p3 ^^^ p4) p5 p6)), .unset] [(.int p4)])) _
    refine XS.iload X12.here hx rfl (hb hby at_293) rfl ?_
    show Steps p.tables e below (T12.setTop (mkF m 295 #[.val (.int p1), .val (.int p2), .val (.int p3), .val (.int p4), .val (.int p5), .val (.int p6), .val (.int (p3 ^^^ p4)), .val (.int (p1 &&& (7 : Int32))), .val (.ref b7), .val (.int (1 : Int32)), .val (.int p4), .val (.int (p3 ^^^ p4)), .val (.int (own_fb (1 : Int32) (2 : Int32) p4 (p3 ^^^ p4) p5 p6)), .unset] [(.int (p3 ^^^ p4)), (.int p4)])) _
    refine st13 _ ?_
    show Steps p.tables e below (T13.setTop (mkF m 298 #[.val (.int p1), .val (.int p2), .val (.int p3), .val (.int p4), .val (.int p5), .val (.int p6), .val (.int (p3 ^^^ p4)), .val (.int (p1 &&& (7 : Int32))), .val (.ref b7), .val (.int (1 : Int32)), .val (.int p4), .val (.int (p3 ^^^ p4)), .val (.int (own_fb (1 : Int32) (2 : Int32) p4 (p3 ^^^ p4) p5 p6)), .unset] [(.long (own_key p4 (p3 ^^^ p4)))])) _
    refine XS.iload X13.here hx rfl (hb hby at_298) rfl ?_
    show Steps p.tables e below (T13.setTop (mkF m 300 #[.val (.int p1), .val (.int p2), .val (.int p3), .val (.int p4), .val (.int p5), .val (.int p6), .val (.int (p3 ^^^ p4)), .val (.int (p1 &&& (7 : Int32))), .val (.ref b7), .val (.int (1 : Int32)), .val (.int p4), .val (.int (p3 ^^^ p4)), .val (.int (own_fb (1 : Int32) (2 : Int32) p4 (p3 ^^^ p4) p5 p6)), .unset] [(.int p5), (.long (own_key p4 (p3 ^^^ p4)))])) _
    refine XS.iload X13.here hx rfl (hb hby at_300) rfl ?_
    show Steps p.tables e below (T13.setTop (mkF m 302 #[.val (.int p1), .val (.int p2), .val (.int p3), .val (.int p4), .val (.int p5), .val (.int p6), .val (.int (p3 ^^^ p4)), .val (.int (p1 &&& (7 : Int32))), .val (.ref b7), .val (.int (1 : Int32)), .val (.int p4), .val (.int (p3 ^^^ p4)), .val (.int (own_fb (1 : Int32) (2 : Int32) p4 (p3 ^^^ p4) p5 p6)), .unset] [(.int p6), (.int p5), (.long (own_key p4 (p3 ^^^ p4)))])) _
    refine st14 _ ?_
    show Steps p.tables e below (T14.setTop (mkF m 305 #[.val (.int p1), .val (.int p2), .val (.int p3), .val (.int p4), .val (.int p5), .val (.int p6), .val (.int (p3 ^^^ p4)), .val (.int (p1 &&& (7 : Int32))), .val (.ref b7), .val (.int (1 : Int32)), .val (.int p4), .val (.int (p3 ^^^ p4)), .val (.int (own_fb (1 : Int32) (2 : Int32) p4 (p3 ^^^ p4) p5 p6)), .unset] [(.long (own_key p5 p6)), (.long (own_key p4 (p3 ^^^ p4)))])) _
    refine XS.lcmp X14.here hx rfl (hb hby at_305) rfl ?_
    show Steps p.tables e below (T14.setTop (mkF m 306 #[.val (.int p1), .val (.int p2), .val (.int p3), .val (.int p4), .val (.int p5), .val (.int p6), .val (.int (p3 ^^^ p4)), .val (.int (p1 &&& (7 : Int32))), .val (.ref b7), .val (.int (1 : Int32)), .val (.int p4), .val (.int (p3 ^^^ p4)), .val (.int (own_fb (1 : Int32) (2 : Int32) p4 (p3 ^^^ p4) p5 p6)), .unset] [(.int (lcmpW (own_key p4 (p3 ^^^ p4)) (own_key p5 p6)))])) _
    by_cases hlt : (lcmpW (own_key p4 (p3 ^^^ p4)) (own_key p5 p6)) < (0 : Int32)
    · refine XS.ifNo X14.here hx rfl (hb hby at_306) rfl ((if0 _ _).trans (tlt (hlt : (lcmpW (own_key p4 (p3 ^^^ p4)) (own_key p5 p6)) < (0 : Int32))).2.1) ?_
      show Steps p.tables e below (T14.setTop (mkF m 309 #[.val (.int p1), .val (.int p2), .val (.int p3), .val (.int p4), .val (.int p5), .val (.int p6), .val (.int (p3 ^^^ p4)), .val (.int (p1 &&& (7 : Int32))), .val (.ref b7), .val (.int (1 : Int32)), .val (.int p4), .val (.int (p3 ^^^ p4)), .val (.int (own_fb (1 : Int32) (2 : Int32) p4 (p3 ^^^ p4) p5 p6)), .unset] [])) _
      refine XS.iconst X14.here hx rfl (hb hby at_309) ?_
      show Steps p.tables e below (T14.setTop (mkF m 310 #[.val (.int p1), .val (.int p2), .val (.int p3), .val (.int p4), .val (.int p5), .val (.int p6), .val (.int (p3 ^^^ p4)), .val (.int (p1 &&& (7 : Int32))), .val (.ref b7), .val (.int (1 : Int32)), .val (.int p4), .val (.int (p3 ^^^ p4)), .val (.int (own_fb (1 : Int32) (2 : Int32) p4 (p3 ^^^ p4) p5 p6)), .unset] [(.int (1 : Int32))])) _
      refine XS.goto X14.here hx rfl (pc0 := 310) (pc' := 314) rfl (hb hby at_310) (by decide) (by decide) ?_
      show Steps p.tables e below (T14.setTop (mkF m 314 #[.val (.int p1), .val (.int p2), .val (.int p3), .val (.int p4), .val (.int p5), .val (.int p6), .val (.int (p3 ^^^ p4)), .val (.int (p1 &&& (7 : Int32))), .val (.ref b7), .val (.int (1 : Int32)), .val (.int p4), .val (.int (p3 ^^^ p4)), .val (.int (own_fb (1 : Int32) (2 : Int32) p4 (p3 ^^^ p4) p5 p6)), .unset] [(.int (1 : Int32))])) _
      refine XS.istore X14.here hx rfl (hb hby at_314) rfl (l' := #[.val (.int p1), .val (.int p2), .val (.int p3), .val (.int p4), .val (.int p5), .val (.int p6), .val (.int (p3 ^^^ p4)), .val (.int (p1 &&& (7 : Int32))), .val (.ref b7), .val (.int (1 : Int32)), .val (.int p4), .val (.int (p3 ^^^ p4)), .val (.int (own_fb (1 : Int32) (2 : Int32) p4 (p3 ^^^ p4) p5 p6)), .val (.int (1 : Int32))]) rfl ?_
      show Steps p.tables e below (T14.setTop (mkF m 316 #[.val (.int p1), .val (.int p2), .val (.int p3), .val (.int p4), .val (.int p5), .val (.int p6), .val (.int (p3 ^^^ p4)), .val (.int (p1 &&& (7 : Int32))), .val (.ref b7), .val (.int (1 : Int32)), .val (.int p4), .val (.int (p3 ^^^ p4)), .val (.int (own_fb (1 : Int32) (2 : Int32) p4 (p3 ^^^ p4) p5 p6)), .val (.int (1 : Int32))] [])) _
      refine XS.iload X14.here hx rfl (hb hby at_316) rfl ?_
      show Steps p.tables e below (T14.setTop (mkF m 318 #[.val (.int p1), .val (.int p2), .val (.int p3), .val (.int p4), .val (.int p5), .val (.int p6), .val (.int (p3 ^^^ p4)), .val (.int (p1 &&& (7 : Int32))), .val (.ref b7), .val (.int (1 : Int32)), .val (.int p4), .val (.int (p3 ^^^ p4)), .val (.int (own_fb (1 : Int32) (2 : Int32) p4 (p3 ^^^ p4) p5 p6)), .val (.int (1 : Int32))] [(.int (own_fb (1 : Int32) (2 : Int32) p4 (p3 ^^^ p4) p5 p6))])) _
      refine XS.iload X14.here hx rfl (hb hby at_318) rfl ?_
      show Steps p.tables e below (T14.setTop (mkF m 320 #[.val (.int p1), .val (.int p2), .val (.int p3), .val (.int p4), .val (.int p5), .val (.int p6), .val (.int (p3 ^^^ p4)), .val (.int (p1 &&& (7 : Int32))), .val (.ref b7), .val (.int (1 : Int32)), .val (.int p4), .val (.int (p3 ^^^ p4)), .val (.int (own_fb (1 : Int32) (2 : Int32) p4 (p3 ^^^ p4) p5 p6)), .val (.int (1 : Int32))] [(.int (1 : Int32)), (.int (own_fb (1 : Int32) (2 : Int32) p4 (p3 ^^^ p4) p5 p6))])) _
      refine XS.icmpNo X14.here hx rfl (hb hby at_320) rfl (teq (own_yes (by decide) hlt : (own_fb (1 : Int32) (2 : Int32) p4 (p3 ^^^ p4) p5 p6) = (1 : Int32))).2 ?_
      show Steps p.tables e below (T14.setTop (mkF m 323 #[.val (.int p1), .val (.int p2), .val (.int p3), .val (.int p4), .val (.int p5), .val (.int p6), .val (.int (p3 ^^^ p4)), .val (.int (p1 &&& (7 : Int32))), .val (.ref b7), .val (.int (1 : Int32)), .val (.int p4), .val (.int (p3 ^^^ p4)), .val (.int (own_fb (1 : Int32) (2 : Int32) p4 (p3 ^^^ p4) p5 p6)), .val (.int (1 : Int32))] [])) _
      refine XS.iconst X14.here hx rfl (hb hby at_323) ?_
      show Steps p.tables e below (T14.setTop (mkF m 324 #[.val (.int p1), .val (.int p2), .val (.int p3), .val (.int p4), .val (.int p5), .val (.int p6), .val (.int (p3 ^^^ p4)), .val (.int (p1 &&& (7 : Int32))), .val (.ref b7), .val (.int (1 : Int32)), .val (.int p4), .val (.int (p3 ^^^ p4)), .val (.int (own_fb (1 : Int32) (2 : Int32) p4 (p3 ^^^ p4) p5 p6)), .val (.int (1 : Int32))] [(.int (1 : Int32))])) _
      refine XS.goto X14.here hx rfl (pc0 := 324) (pc' := 328) rfl (hb hby at_324) (by decide) (by decide) ?_
      show Steps p.tables e below (T14.setTop (mkF m 328 #[.val (.int p1), .val (.int p2), .val (.int p3), .val (.int p4), .val (.int p5), .val (.int p6), .val (.int (p3 ^^^ p4)), .val (.int (p1 &&& (7 : Int32))), .val (.ref b7), .val (.int (1 : Int32)), .val (.int p4), .val (.int (p3 ^^^ p4)), .val (.int (own_fb (1 : Int32) (2 : Int32) p4 (p3 ^^^ p4) p5 p6)), .val (.int (1 : Int32))] [(.int (1 : Int32))])) _
      exact retN X14 hx (t := .boolean) Bd.returns (by simp) (hb hby at_328) hr
    · refine XS.ifYes X14.here hx rfl (pc0 := 306) (pc' := 313) rfl (hb hby at_306) rfl ((if0 _ _).trans (flt (hlt : ¬ ((lcmpW (own_key p4 (p3 ^^^ p4)) (own_key p5 p6)) < (0 : Int32)))).2.1) (by decide) (by decide) ?_
      show Steps p.tables e below (T14.setTop (mkF m 313 #[.val (.int p1), .val (.int p2), .val (.int p3), .val (.int p4), .val (.int p5), .val (.int p6), .val (.int (p3 ^^^ p4)), .val (.int (p1 &&& (7 : Int32))), .val (.ref b7), .val (.int (1 : Int32)), .val (.int p4), .val (.int (p3 ^^^ p4)), .val (.int (own_fb (1 : Int32) (2 : Int32) p4 (p3 ^^^ p4) p5 p6)), .unset] [])) _
      refine XS.iconst X14.here hx rfl (hb hby at_313) ?_
      show Steps p.tables e below (T14.setTop (mkF m 314 #[.val (.int p1), .val (.int p2), .val (.int p3), .val (.int p4), .val (.int p5), .val (.int p6), .val (.int (p3 ^^^ p4)), .val (.int (p1 &&& (7 : Int32))), .val (.ref b7), .val (.int (1 : Int32)), .val (.int p4), .val (.int (p3 ^^^ p4)), .val (.int (own_fb (1 : Int32) (2 : Int32) p4 (p3 ^^^ p4) p5 p6)), .unset] [(.int (0 : Int32))])) _
      refine XS.istore X14.here hx rfl (hb hby at_314) rfl (l' := #[.val (.int p1), .val (.int p2), .val (.int p3), .val (.int p4), .val (.int p5), .val (.int p6), .val (.int (p3 ^^^ p4)), .val (.int (p1 &&& (7 : Int32))), .val (.ref b7), .val (.int (1 : Int32)), .val (.int p4), .val (.int (p3 ^^^ p4)), .val (.int (own_fb (1 : Int32) (2 : Int32) p4 (p3 ^^^ p4) p5 p6)), .val (.int (0 : Int32))]) rfl ?_
      show Steps p.tables e below (T14.setTop (mkF m 316 #[.val (.int p1), .val (.int p2), .val (.int p3), .val (.int p4), .val (.int p5), .val (.int p6), .val (.int (p3 ^^^ p4)), .val (.int (p1 &&& (7 : Int32))), .val (.ref b7), .val (.int (1 : Int32)), .val (.int p4), .val (.int (p3 ^^^ p4)), .val (.int (own_fb (1 : Int32) (2 : Int32) p4 (p3 ^^^ p4) p5 p6)), .val (.int (0 : Int32))] [])) _
      refine XS.iload X14.here hx rfl (hb hby at_316) rfl ?_
      show Steps p.tables e below (T14.setTop (mkF m 318 #[.val (.int p1), .val (.int p2), .val (.int p3), .val (.int p4), .val (.int p5), .val (.int p6), .val (.int (p3 ^^^ p4)), .val (.int (p1 &&& (7 : Int32))), .val (.ref b7), .val (.int (1 : Int32)), .val (.int p4), .val (.int (p3 ^^^ p4)), .val (.int (own_fb (1 : Int32) (2 : Int32) p4 (p3 ^^^ p4) p5 p6)), .val (.int (0 : Int32))] [(.int (own_fb (1 : Int32) (2 : Int32) p4 (p3 ^^^ p4) p5 p6))])) _
      refine XS.iload X14.here hx rfl (hb hby at_318) rfl ?_
      show Steps p.tables e below (T14.setTop (mkF m 320 #[.val (.int p1), .val (.int p2), .val (.int p3), .val (.int p4), .val (.int p5), .val (.int p6), .val (.int (p3 ^^^ p4)), .val (.int (p1 &&& (7 : Int32))), .val (.ref b7), .val (.int (1 : Int32)), .val (.int p4), .val (.int (p3 ^^^ p4)), .val (.int (own_fb (1 : Int32) (2 : Int32) p4 (p3 ^^^ p4) p5 p6)), .val (.int (0 : Int32))] [(.int (0 : Int32)), (.int (own_fb (1 : Int32) (2 : Int32) p4 (p3 ^^^ p4) p5 p6))])) _
      refine XS.icmpNo X14.here hx rfl (hb hby at_320) rfl (teq (own_no (by decide) hlt : (own_fb (1 : Int32) (2 : Int32) p4 (p3 ^^^ p4) p5 p6) = (0 : Int32))).2 ?_
      show Steps p.tables e below (T14.setTop (mkF m 323 #[.val (.int p1), .val (.int p2), .val (.int p3), .val (.int p4), .val (.int p5), .val (.int p6), .val (.int (p3 ^^^ p4)), .val (.int (p1 &&& (7 : Int32))), .val (.ref b7), .val (.int (1 : Int32)), .val (.int p4), .val (.int (p3 ^^^ p4)), .val (.int (own_fb (1 : Int32) (2 : Int32) p4 (p3 ^^^ p4) p5 p6)), .val (.int (0 : Int32))] [])) _
      refine XS.iconst X14.here hx rfl (hb hby at_323) ?_
      show Steps p.tables e below (T14.setTop (mkF m 324 #[.val (.int p1), .val (.int p2), .val (.int p3), .val (.int p4), .val (.int p5), .val (.int p6), .val (.int (p3 ^^^ p4)), .val (.int (p1 &&& (7 : Int32))), .val (.ref b7), .val (.int (1 : Int32)), .val (.int p4), .val (.int (p3 ^^^ p4)), .val (.int (own_fb (1 : Int32) (2 : Int32) p4 (p3 ^^^ p4) p5 p6)), .val (.int (0 : Int32))] [(.int (1 : Int32))])) _
      refine XS.goto X14.here hx rfl (pc0 := 324) (pc' := 328) rfl (hb hby at_324) (by decide) (by decide) ?_
      show Steps p.tables e below (T14.setTop (mkF m 328 #[.val (.int p1), .val (.int p2), .val (.int p3), .val (.int p4), .val (.int p5), .val (.int p6), .val (.int (p3 ^^^ p4)), .val (.int (p1 &&& (7 : Int32))), .val (.ref b7), .val (.int (1 : Int32)), .val (.int p4), .val (.int (p3 ^^^ p4)), .val (.int (own_fb (1 : Int32) (2 : Int32) p4 (p3 ^^^ p4) p5 p6)), .val (.int (0 : Int32))] [(.int (1 : Int32))])) _
      exact retN X14 hx (t := .boolean) Bd.returns (by simp) (hb hby at_328) hr
  · show Q0 Z p1 p2 p3 p4 p5 p6 h0 n0 _ T14.heap _
    exact ⟨rfl, N14⟩
set_option maxRecDepth 65536 in
set_option maxHeartbeats 40000000 in
theorem rm0_4 (l : Launch) (Z : State) (a0 : Array Value) (hw : ∀ d ∈ tables_1, d.before a0 Z = true) (ws : List Jvm.Cond) (p1 : Int32) (p2 : Int32) (p3 : Int32) (p4 : Int32) (p5 : Int32) (p6 : Int32) (h0 : Heap) (n0 : Nat) (Z0 : n0 ≤ h0.size) (hc31 : ¬ ((p1 &&& (7 : Int32)) = (0 : Int32))) (hc43 : ¬ ((p1 &&& (7 : Int32)) = (1 : Int32))) (hc68 : ¬ ((p1 &&& (7 : Int32)) = (2 : Int32))) (hc101 : ¬ ((p1 &&& (7 : Int32)) = (3 : Int32))) (hc140 : (p1 &&& (7 : Int32)) = (4 : Int32)) :
    MetFree l x (head1 (Jvm.Cond.code x code maxLocals ret :: ws) room_1) (fun a U => a = #[(.int p1), (.int p2), (.int p3), (.int p4), (.int p5), (.int p6)] ∧ Z.Warmed39 U.vm ∧ U.heap = h0) (fun _ _ _ _ _ => True) (fun _ U o U' => ∃ v L, o = .returned v ∧ Q0 Z p1 p2 p3 p4 p5 p6 h0 n0 v U'.heap L ∧ FrameEnd U o U' L room_1.cells room_1.slots) := by
  refine MetFree.of_bodySF (plainFor_of_name pn_0) hisR ?_
  intro p e s m args below meth c s₁ Bd hml0 hP hK
  obtain ⟨rfl, hZ, hh⟩ := hP
  have hx := Bd.exec
  have hby := Bd.bytes
  have hml : c.maxLocals = 14 := hml0
  have hown : s.vm.findClass "overmark/NotedPlacesFirstBeforePinLaw" = some m.cls := findClass_of_methodNamed Bd.named
  have hnm := (name_of_methodNamed Bd.named Bd.method).1
  have X0 : Stand p l e room_1 s m #[(.int p1), (.int p2), (.int p3), (.int p4), (.int p5), (.int p6)] below meth c s₁ [] 0 0 := Stand.of_body Bd
  have e0 : s₁.heap = h0 := by rw [← hh, Bd.state]; rfl
  have N0 := Fr.nil n0
  have pre0 : ∀ t, Steps p.tables e below (s₁.setTop (mkF m 0 #[.val (.int p1), .val (.int p2), .val (.int p3), .val (.int p4), .val (.int p5), .val (.int p6), .unset, .unset, .unset, .unset, .unset, .unset, .unset, .unset] [])) t → Steps p.tables e below (s₁.setTop (entryFrame m #[(.int p1), (.int p2), (.int p3), (.int p4), (.int p5), (.int p6)] maxLocals)) t := fun t k => castTop (ef_0 m p1 p2 p3 p4 p5 p6) k
  obtain ⟨T7, h7, X7, e7, E7, A7, D7, -, st7⟩ := newO X0 hx hZ hown (hw _ (List.mem_of_getElem? (i := 0) rfl)) (hw _ (List.mem_of_getElem? (i := 1) rfl)) (hw _ (List.mem_of_getElem? (i := 2) rfl)) e0 (g := (mkF m 11 #[.val (.int p1), .val (.int p2), .val (.int p3), .val (.int p4), .val (.int p5), .val (.int p6), .val (.int (p3 ^^^ p4)), .val (.int (p1 &&& (7 : Int32))), .unset, .unset, .unset, .unset, .unset, .unset] [])) rfl (hb hby at_11) (by decide) (by decide)
  obtain ⟨b7, g7⟩ : ∃ z, z = h0.size := ⟨_, rfl⟩
  rw [← g7] at A7 D7 st7
  have F_lines_b7 : Fld Z h7 b7 "overmark/NotedPlaces" "lines" "[I" .null := D7 (Or.inl (hw _ (List.mem_of_getElem? (i := 11) rfl))) (ty := (.array .int)) (by decide)
  have F_columns_b7 : Fld Z h7 b7 "overmark/NotedPlaces" "columns" "[I" .null := D7 (Or.inl (hw _ (List.mem_of_getElem? (i := 13) rfl))) (ty := (.array .int)) (by decide)
  have F_labels_b7 : Fld Z h7 b7 "overmark/NotedPlaces" "labels" "[Ljava/lang/String;" .null := D7 (Or.inl (hw _ (List.mem_of_getElem? (i := 17) rfl))) (ty := (.array (.object "java/lang/String"))) (by decide)
  have F_first_b7 : Fld Z h7 b7 "overmark/NotedPlaces" "first" "I" (.int (0 : Int32)) := D7 (Or.inl (hw _ (List.mem_of_getElem? (i := 24) rfl))) (ty := .int) (by decide)
  have F_end_b7 : Fld Z h7 b7 "overmark/NotedPlaces" "end" "I" (.int (0 : Int32)) := D7 (Or.inl (hw _ (List.mem_of_getElem? (i := 26) rfl))) (ty := .int) (by decide)
  have E_b7 := A7
  have g_b7 : n0 ≤ b7 := Nat.le_trans Z0 (Nat.le_of_eq g7.symm)
  have sz_b7 : h0.size ≤ b7 := (Nat.le_trans (Keep.refl h0 []).1 (Nat.le_of_eq g7.symm))
  have K7 : Keep h0 h7 [] := (Keep.refl h0 []).ext E7
  obtain ⟨_, _, ⟨T8, L8, k8, n8⟩, -, X8, ⟨Lc8, hQ8, l8, y8, z8⟩, st8⟩ := X7.specialBack hx (y := (⟨"overmark/NotedPlaces", "<init>", "()V"⟩ : MethodName)) rfl hown (mvT hZ (hw _ (List.mem_of_getElem? (i := 3) rfl))) (mvT hZ (hw _ (List.mem_of_getElem? (i := 4) rfl))) (mvT hZ (hw _ (List.mem_of_getElem? (i := 5) rfl))) (by decide) (backOf (W := 1) (rm1 l Z a0 hw [] b7 .null .null .null h7 n0 (Nat.le_trans Z0 E7.1) E_b7 F_lines_b7 g_b7 F_columns_b7 F_labels_b7 F_first_b7 F_end_b7) hZ (hw _ (List.mem_of_getElem? (i := 5) rfl)) (hw _ (List.mem_of_getElem? (i := 2) rfl)) (by decide) (by decide)) (g := (mkF m 15 #[.val (.int p1), .val (.int p2), .val (.int p3), .val (.int p4), .val (.int p5), .val (.int p6), .val (.int (p3 ^^^ p4)), .val (.int (p1 &&& (7 : Int32))), .unset, .unset, .unset, .unset, .unset, .unset] [(.ref b7), (.ref b7)])) rfl (by rw [hml]; rfl) (Steps.refl _) (a := b7) (argsL := []) (rest := [(.ref b7)]) (lenOf pd_0_0 rfl) rfl (by show 2 * 0 + _ ≤ _; exact Nat.le_of_eq rfl) (hb hby at_15) (fun _ _ => ⟨rfl, e7, (by decide : 1 + 3 ≤ _), (by decide : 5 + 3072 ≤ _)⟩)
  dsimp only [Pt.U, Pt.locs, Pt.cells, Pt.slots] at X8 l8 y8 z8 st8 hQ8
  subst l8 y8 z8
  obtain ⟨rfl, N8q, hs8, np8⟩ := hQ8
  have Z8 : n0 ≤ T8.heap.size := Nat.le_trans (Nat.le_trans Z0 E7.1) hs8
  have N8 := Fr.app N0 N8q
  obtain ⟨cq9, kq9, q9a, q9b, q9c⟩ := isOf hZ rfl (own_exa np8)
  obtain ⟨_, _, ⟨T9, L9, k9, n9⟩, -, X9, ⟨Lc9, hQ9, l9, y9, z9⟩, st9⟩ := X8.virtualBack hx (y := (⟨"overmark/NotedPlaces", "note", "(II)V"⟩ : MethodName)) (z := (⟨"overmark/NotedPlaces", "note", "(II)V"⟩ : MethodName)) hown (mvT hZ (hw _ (List.mem_of_getElem? (i := 27) rfl))) (mvT hZ (hw _ (List.mem_of_getElem? (i := 28) rfl))) (notFace_of_selects (args := #[]) (mvT hZ (hw _ (List.mem_of_getElem? (i := 30) rfl)))) (mvT hZ (hw _ (List.mem_of_getElem? (i := 30) rfl))) (mvT hZ (hw _ (List.mem_of_getElem? (i := 29) rfl))) (by decide) (backOf (W := 0) (rm4 l Z a0 hw [] b7 p2 p3 (0 : Int32) (0 : Int32) (1 : Int32) 0 [(.int (0 : Int32)), (.int (0 : Int32)), (.int (0 : Int32))] [(.int (0 : Int32)), (.int (0 : Int32)), (.int (0 : Int32))] [.null, .null, .null] T8.heap n0 Z8 np8 rfl (by decide) (by decide) (by decide) (Nat.le_of_ble_eq_true rfl) (Nat.le_of_ble_eq_true rfl) (Nat.le_of_ble_eq_true rfl)) hZ (hw _ (List.mem_of_getElem? (i := 31) rfl)) (hw _ (List.mem_of_getElem? (i := 2) rfl)) (by decide) (by decide)) q9a q9c (g := (mkF m 147 #[.val (.int p1), .val (.int p2), .val (.int p3), .val (.int p4), .val (.int p5), .val (.int p6), .val (.int (p3 ^^^ p4)), .val (.int (p1 &&& (7 : Int32))), .val (.ref b7), .val (.int (0 : Int32)), .val (.int (0 : Int32)), .val (.int (0 : Int32)), .unset, .unset] [(.int p3), (.int p2), (.ref b7)])) rfl (by rw [hml]; rfl) (Steps.refl _) (argsL := [(.int p2), (.int p3)]) (rest := []) (lenOf pd_0_2 rfl) rfl (by show 2 * 0 + _ ≤ _; exact Nat.le_of_eq rfl) (hb hby at_147) (fun _ _ => ⟨rfl, rfl, (by decide : 4 + 0 ≤ _), (by decide : 3077 + 0 ≤ _)⟩)
  dsimp only [Pt.U, Pt.locs, Pt.cells, Pt.slots] at X9 l9 y9 z9 st9 hQ9
  subst l9 y9 z9
  obtain ⟨rfl, N9q, hs9, nq9⟩ := hQ9
  have Z9 : n0 ≤ T9.heap.size := Nat.le_trans Z8 hs9
  have np9 : NP Z T9.heap n0 b7 (0 : Int32) (1 : Int32) [(.int p2), (.int (0 : Int32)), (.int (0 : Int32))] [(.int p3), (.int (0 : Int32)), (.int (0 : Int32))] [.null, .null, .null] := nq9
  have N9 := Fr.app N8 N9q
  obtain ⟨cq10, kq10, q10a, q10b, q10c⟩ := isOf hZ rfl (own_exa np9)
  obtain ⟨_, _, ⟨T10, L10, k10, n10⟩, -, X10, ⟨Lc10, hQ10, l10, y10, z10⟩, st10⟩ := X9.virtualBack hx (y := (⟨"overmark/NotedPlaces", "letGoFirst", "()V"⟩ : MethodName)) (z := (⟨"overmark/NotedPlaces", "letGoFirst", "()V"⟩ : MethodName)) hown (mvT hZ (hw _ (List.mem_of_getElem? (i := 32) rfl))) (mvT hZ (hw _ (List.mem_of_getElem? (i := 33) rfl))) (notFace_of_selects (args := #[]) (mvT hZ (hw _ (List.mem_of_getElem? (i := 35) rfl)))) (mvT hZ (hw _ (List.mem_of_getElem? (i := 35) rfl))) (mvT hZ (hw _ (List.mem_of_getElem? (i := 34) rfl))) (by decide) (backOf (W := 0) (rm5f l Z a0 hw [] b7 (0 : Int32) (1 : Int32) [(.int p2), (.int (0 : Int32)), (.int (0 : Int32))] [(.int p3), (.int (0 : Int32)), (.int (0 : Int32))] [.null, .null, .null] T9.heap n0 Z9 np9 (by decide)) hZ (hw _ (List.mem_of_getElem? (i := 36) rfl)) (hw _ (List.mem_of_getElem? (i := 2) rfl)) (by decide) (by decide)) q10a q10c (g := (mkF m 152 #[.val (.int p1), .val (.int p2), .val (.int p3), .val (.int p4), .val (.int p5), .val (.int p6), .val (.int (p3 ^^^ p4)), .val (.int (p1 &&& (7 : Int32))), .val (.ref b7), .val (.int (0 : Int32)), .val (.int (0 : Int32)), .val (.int (0 : Int32)), .unset, .unset] [(.ref b7)])) rfl (by rw [hml]; rfl) (Steps.refl _) (argsL := []) (rest := []) (lenOf pd_0_0 rfl) rfl (by show 2 * 0 + _ ≤ _; exact Nat.le_of_eq rfl) (hb hby at_152) (fun _ _ => ⟨rfl, rfl, (by decide : 4 + 0 ≤ _), (by decide : 3077 + 0 ≤ _)⟩)
  dsimp only [Pt.U, Pt.locs, Pt.cells, Pt.slots] at X10 l10 y10 z10 st10 hQ10
  subst l10 y10 z10
  obtain ⟨rfl, N10q, hs10, nq10⟩ := hQ10
  have Z10 : n0 ≤ T10.heap.size := Nat.le_trans Z9 hs10
  have np10 : NP Z T10.heap n0 b7 (0 : Int32) (0 : Int32) [(.int p2), (.int (0 : Int32)), (.int (0 : Int32))] [(.int p3), (.int (0 : Int32)), (.int (0 : Int32))] [.null, .null, .null] := nq10
  have N10 := Fr.app N9 N10q
  obtain ⟨cq11, kq11, q11a, q11b, q11c⟩ := isOf hZ rfl (own_exa np10)
  obtain ⟨_, _, ⟨T11, L11, k11, n11⟩, -, X11, ⟨Lc11, hQ11, l11, y11, z11⟩, st11⟩ := X10.virtualBack hx (y := (⟨"overmark/NotedPlaces", "firstBefore", "(II)Z"⟩ : MethodName)) (z := (⟨"overmark/NotedPlaces", "firstBefore", "(II)Z"⟩ : MethodName)) hown (mvT hZ (hw _ (List.mem_of_getElem? (i := 18) rfl))) (mvT hZ (hw _ (List.mem_of_getElem? (i := 19) rfl))) (notFace_of_selects (args := #[]) (mvT hZ (hw _ (List.mem_of_getElem? (i := 21) rfl)))) (mvT hZ (hw _ (List.mem_of_getElem? (i := 21) rfl))) (mvT hZ (hw _ (List.mem_of_getElem? (i := 20) rfl))) (by decide) (backOf (W := 0) (rm3 l Z a0 hw [] b7 p5 p6 (0 : Int32) (0 : Int32) p2 p3 0 [(.int p2), (.int (0 : Int32)), (.int (0 : Int32))] [(.int p3), (.int (0 : Int32)), (.int (0 : Int32))] [.null, .null, .null] T10.heap n0 Z10 np10 rfl (by decide) (by decide) rfl rfl) hZ (hw _ (List.mem_of_getElem? (i := 22) rfl)) (hw _ (List.mem_of_getElem? (i := 2) rfl)) (by decide) (by decide)) q11a q11c (g := (mkF m 281 #[.val (.int p1), .val (.int p2), .val (.int p3), .val (.int p4), .val (.int p5), .val (.int p6), .val (.int (p3 ^^^ p4)), .val (.int (p1 &&& (7 : Int32))), .val (.ref b7), .val (.int (0 : Int32)), .val (.int (0 : Int32)), .val (.int (0 : Int32)), .unset, .unset] [(.int p6), (.int p5), (.ref b7)])) rfl (by rw [hml]; rfl) (Steps.refl _) (argsL := [(.int p5), (.int p6)]) (rest := []) (lenOf pd_0_1 rfl) rfl (by show 2 * 0 + _ ≤ _; exact Nat.le_of_eq rfl) (hb hby at_281) (fun _ _ => ⟨rfl, rfl, (by decide : 4 + 0 ≤ _), (by decide : 3077 + 0 ≤ _)⟩)
  dsimp only [Pt.U, Pt.locs, Pt.cells, Pt.slots] at X11 l11 y11 z11 st11 hQ11
  subst l11 y11 z11
  obtain ⟨rfl, N11q, e11⟩ := hQ11
  have Z11 : n0 ≤ T11.heap.size := by rw [e11]; exact Z10
  have N11 := Fr.app N10 N11q
  obtain ⟨fs, hr, hrun, hended, hW, hsame⟩ := X11.leave (v := some (.int (1 : Int32))) (fun h => by rw [Bd.returns] at h; cases h)
  refine ⟨_, _, pre0 _ ?_, hrun, hended, _, _, rfl, ?_, ⟨_, rfl⟩, hW, hsame.mono (by decide) (by decide)⟩
  · show Steps p.tables e below (s₁.setTop (mkF m 0 #[.val (.int p1), .val (.int p2), .val (.int p3), .val (.int p4), .val (.int p5), .val (.int p6), .unset, .unset, .unset, .unset, .unset, .unset, .unset, .unset] [])) _
    refine XS.iloadN X0.here hx rfl (hb hby at_0) rfl ?_
    show Steps p.tables e below (s₁.setTop (mkF m 1 #[.val (.int p1), .val (.int p2), .val (.int p3), .val (.int p4), .val (.int p5), .val (.int p6), .unset, .unset, .unset, .unset, .unset, .unset, .unset, .unset] [(.int p3)])) _
    refine XS.iloadN X0.here hx rfl (hb hby at_1) rfl ?_
    show Steps p.tables e below (s₁.setTop (mkF m 2 #[.val (.int p1), .val (.int p2), .val (.int p3), .val (.int p4), .val (.int p5), .val (.int p6), .unset, .unset, .unset, .unset, .unset, .unset, .unset, .unset] [(.int p4), (.int p3)])) _
    refine XS.ixor X0.here hx rfl (hb hby at_2) rfl ?_
    show Steps p.tables e below (s₁.setTop (mkF m 3 #[.val (.int p1), .val (.int p2), .val (.int p3), .val (.int p4), .val (.int p5), .val (.int p6), .unset, .unset, .unset, .unset, .unset, .unset, .unset, .unset] [(.int (p3 ^^^ p4))])) _
    refine XS.istore X0.here hx rfl (hb hby at_3) rfl (l' := #[.val (.int p1), .val (.int p2), .val (.int p3), .val (.int p4), .val (.int p5), .val (.int p6), .val (.int (p3 ^^^ p4)), .unset, .unset, .unset, .unset, .unset, .unset, .unset]) rfl ?_
    show Steps p.tables e below (s₁.setTop (mkF m 5 #[.val (.int p1), .val (.int p2), .val (.int p3), .val (.int p4), .val (.int p5), .val (.int p6), .val (.int (p3 ^^^ p4)), .unset, .unset, .unset, .unset, .unset, .unset, .unset] [])) _
    refine XS.iloadN X0.here hx rfl (hb hby at_5) rfl ?_
    show Steps p.tables e below (s₁.setTop (mkF m 6 #[.val (.int p1), .val (.int p2), .val (.int p3), .val (.int p4), .val (.int p5), .val (.int p6), .val (.int (p3 ^^^ p4)), .unset, .unset, .unset, .unset, .unset, .unset, .unset] [(.int p1)])) _
    refine XS.bipush X0.here hx rfl (hb hby at_6) ?_
    show Steps p.tables e below (s₁.setTop (mkF m 8 #[.val (.int p1), .val (.int p2), .val (.int p3), .val (.int p4), .val (.int p5), .val (.int p6), .val (.int (p3 ^^^ p4)), .unset, .unset, .unset, .unset, .unset, .unset, .unset] [(.int (7 : Int32)), (.int p1)])) _
    refine XS.iand X0.here hx rfl (hb hby at_8) rfl ?_
    show Steps p.tables e below (s₁.setTop (mkF m 9 #[.val (.int p1), .val (.int p2), .val (.int p3), .val (.int p4), .val (.int p5), .val (.int p6), .val (.int (p3 ^^^ p4)), .unset, .unset, .unset, .unset, .unset, .unset, .unset] [(.int (p1 &&& (7 : Int32)))])) _
    refine XS.istore X0.here hx rfl (hb hby at_9) rfl (l' := #[.val (.int p1), .val (.int p2), .val (.int p3), .val (.int p4), .val (.int p5), .val (.int p6), .val (.int (p3 ^^^ p4)), .val (.int (p1 &&& (7 : Int32))), .unset, .unset, .unset, .unset, .unset, .unset]) rfl ?_
    show Steps p.tables e below (s₁.setTop (mkF m 11 #[.val (.int p1), .val (.int p2), .val (.int p3), .val (.int p4), .val (.int p5), .val (.int p6), .val (.int (p3 ^^^ p4)), .val (.int (p1 &&& (7 : Int32))), .unset, .unset, .unset, .unset, .unset, .unset] [])) _
    refine st7 _ ?_
    show Steps p.tables e below (T7.setTop (mkF m 14 #[.val (.int p1), .val (.int p2), .val (.int p3), .val (.int p4), .val (.int p5), .val (.int p6), .val (.int (p3 ^^^ p4)), .val (.int (p1 &&& (7 : Int32))), .unset, .unset, .unset, .unset, .unset, .unset] [(.ref b7)])) _
    refine XS.dup X7.here hx rfl (hb hby at_14) rfl rfl ?_
    show Steps p.tables e below (T7.setTop (mkF m 15 #[.val (.int p1), .val (.int p2), .val (.int p3), .val (.int p4), .val (.int p5), .val (.int p6), .val (.int (p3 ^^^ p4)), .val (.int (p1 &&& (7 : Int32))), .unset, .unset, .unset, .unset, .unset, .unset] [(.ref b7), (.ref b7)])) _
    refine st8.trans ?_
    show Steps p.tables e below (T8.setTop (mkF m 18 #[.val (.int p1), .val (.int p2), .val (.int p3), .val (.int p4), .val (.int p5), .val (.int p6), .val (.int (p3 ^^^ p4)), .val (.int (p1 &&& (7 : Int32))), .unset, .unset, .unset, .unset, .unset, .unset] [(.ref b7)])) _
    refine XS.astore X8.here hx rfl (hb hby at_18) rfl rfl (l' := #[.val (.int p1), .val (.int p2), .val (.int p3), .val (.int p4), .val (.int p5), .val (.int p6), .val (.int (p3 ^^^ p4)), .val (.int (p1 &&& (7 : Int32))), .val (.ref b7), .unset, .unset, .unset, .unset, .unset]) rfl ?_
    show Steps p.tables e below (T8.setTop (mkF m 20 #[.val (.int p1), .val (.int p2), .val (.int p3), .val (.int p4), .val (.int p5), .val (.int p6), .val (.int (p3 ^^^ p4)), .val (.int (p1 &&& (7 : Int32))), .val (.ref b7), .unset, .unset, .unset, .unset, .unset] [])) _
    refine XS.iconst X8.here hx rfl (hb hby at_20) ?_
    show Steps p.tables e below (T8.setTop (mkF m 21 #[.val (.int p1), .val (.int p2), .val (.int p3), .val (.int p4), .val (.int p5), .val (.int p6), .val (.int (p3 ^^^ p4)), .val (.int (p1 &&& (7 : Int32))), .val (.ref b7), .unset, .unset, .unset, .unset, .unset] [(.int (0 : Int32))])) _
    refine XS.istore X8.here hx rfl (hb hby at_21) rfl (l' := #[.val (.int p1), .val (.int p2), .val (.int p3), .val (.int p4), .val (.int p5), .val (.int p6), .val (.int (p3 ^^^ p4)), .val (.int (p1 &&& (7 : Int32))), .val (.ref b7), .val (.int (0 : Int32)), .unset, .unset, .unset, .unset]) rfl ?_
    show Steps p.tables e below (T8.setTop (mkF m 23 #[.val (.int p1), .val (.int p2), .val (.int p3), .val (.int p4), .val (.int p5), .val (.int p6), .val (.int (p3 ^^^ p4)), .val (.int (p1 &&& (7 : Int32))), .val (.ref b7), .val (.int (0 : Int32)), .unset, .unset, .unset, .unset] [])) _
    refine XS.iconst X8.here hx rfl (hb hby at_23) ?_
    show Steps p.tables e below (T8.setTop (mkF m 24 #[.val (.int p1), .val (.int p2), .val (.int p3), .val (.int p4), .val (.int p5), .val (.int p6), .val (.int (p3 ^^^ p4)), .val (.int (p1 &&& (7 : Int32))), .val (.ref b7), .val (.int (0 : Int32)), .unset, .unset, .unset, .unset] [(.int (0 : Int32))])) _
    refine XS.istore X8.here hx rfl (hb hby at_24) rfl (l' := #[.val (.int p1), .val (.int p2), .val (.int p3), .val (.int p4), .val (.int p5), .val (.int p6), .val (.int (p3 ^^^ p4)), .val (.int (p1 &&& (7 : Int32))), .val (.ref b7), .val (.int (0 : Int32)), .val (.int (0 : Int32)), .unset, .unset, .unset]) rfl ?_
    show Steps p.tables e below (T8.setTop (mkF m 26 #[.val (.int p1), .val (.int p2), .val (.int p3), .val (.int p4), .val (.int p5), .val (.int p6), .val (.int (p3 ^^^ p4)), .val (.int (p1 &&& (7 : Int32))), .val (.ref b7), .val (.int (0 : Int32)), .val (.int (0 : Int32)), .unset, .unset, .unset] [])) _
    refine XS.iconst X8.here hx rfl (hb hby at_26) ?_
    show Steps p.tables e below (T8.setTop (mkF m 27 #[.val (.int p1), .val (.int p2), .val (.int p3), .val (.int p4), .val (.int p5), .val (.int p6), .val (.int (p3 ^^^ p4)), .val (.int (p1 &&& (7 : Int32))), .val (.ref b7), .val (.int (0 : Int32)), .val (.int (0 : Int32)), .unset, .unset, .unset] [(.int (0 : Int32))])) _
    refine XS.istore X8.here hx rfl (hb hby at_27) rfl (l' := #[.val (.int p1), .val (.int p2), .val (.int p3), .val (.int p4), .val (.int p5), .val (.int p6), .val (.int (p3 ^^^ p4)), .val (.int (p1 &&& (7 : Int32))), .val (.ref b7), .val (.int (0 : Int32)), .val (.int (0 : Int32)), .val (.int (0 : Int32)), .unset, .unset]) rfl ?_
    show Steps p.tables e below (T8.setTop (mkF m 29 #[.val (.int p1), .val (.int p2), .val (.int p3), .val (.int p4), .val (.int p5), .val (.int p6), .val (.int (p3 ^^^ p4)), .val (.int (p1 &&& (7 : Int32))), .val (.ref b7), .val (.int (0 : Int32)), .val (.int (0 : Int32)), .val (.int (0 : Int32)), .unset, .unset] [])) _
    refine XS.iload X8.here hx rfl (hb hby at_29) rfl ?_
    show Steps p.tables e below (T8.setTop (mkF m 31 #[.val (.int p1), .val (.int p2), .val (.int p3), .val (.int p4), .val (.int p5), .val (.int p6), .val (.int (p3 ^^^ p4)), .val (.int (p1 &&& (7 : Int32))), .val (.ref b7), .val (.int (0 : Int32)), .val (.int (0 : Int32)), .val (.int (0 : Int32)), .unset, .unset] [(.int (p1 &&& (7 : Int32)))])) _
    refine XS.ifYes X8.here hx rfl (pc0 := 31) (pc' := 40) rfl (hb hby at_31) rfl ((if0 _ _).trans (feq hc31).2) (by decide) (by decide) ?_
    show Steps p.tables e below (T8.setTop (mkF m 40 #[.val (.int p1), .val (.int p2), .val (.int p3), .val (.int p4), .val (.int p5), .val (.int p6), .val (.int (p3 ^^^ p4)), .val (.int (p1 &&& (7 : Int32))), .val (.ref b7), .val (.int (0 : Int32)), .val (.int (0 : Int32)), .val (.int (0 : Int32)), .unset, .unset] [])) _
    refine XS.iload X8.here hx rfl (hb hby at_40) rfl ?_
    show Steps p.tables e below (T8.setTop (mkF m 42 #[.val (.int p1), .val (.int p2), .val (.int p3), .val (.int p4), .val (.int p5), .val (.int p6), .val (.int (p3 ^^^ p4)), .val (.int (p1 &&& (7 : Int32))), .val (.ref b7), .val (.int (0 : Int32)), .val (.int (0 : Int32)), .val (.int (0 : Int32)), .unset, .unset] [(.int (p1 &&& (7 : Int32)))])) _
    refine XS.iconst X8.here hx rfl (hb hby at_42) ?_
    show Steps p.tables e below (T8.setTop (mkF m 43 #[.val (.int p1), .val (.int p2), .val (.int p3), .val (.int p4), .val (.int p5), .val (.int p6), .val (.int (p3 ^^^ p4)), .val (.int (p1 &&& (7 : Int32))), .val (.ref b7), .val (.int (0 : Int32)), .val (.int (0 : Int32)), .val (.int (0 : Int32)), .unset, .unset] [(.int (1 : Int32)), (.int (p1 &&& (7 : Int32)))])) _
    refine XS.icmpYes X8.here hx rfl (pc0 := 43) (pc' := 65) rfl (hb hby at_43) rfl (feq hc43).2 (by decide) (by decide) ?_
    show Steps p.tables e below (T8.setTop (mkF m 65 #[.val (.int p1), .val (.int p2), .val (.int p3), .val (.int p4), .val (.int p5), .val (.int p6), .val (.int (p3 ^^^ p4)), .val (.int (p1 &&& (7 : Int32))), .val (.ref b7), .val (.int (0 : Int32)), .val (.int (0 : Int32)), .val (.int (0 : Int32)), .unset, .unset] [])) _
    refine XS.iload X8.here hx rfl (hb hby at_65) rfl ?_
    show Steps p.tables e below (T8.setTop (mkF m 67 #[.val (.int p1), .val (.int p2), .val (.int p3), .val (.int p4), .val (.int p5), .val (.int p6), .val (.int (p3 ^^^ p4)), .val (.int (p1 &&& (7 : Int32))), .val (.ref b7), .val (.int (0 : Int32)), .val (.int (0 : Int32)), .val (.int (0 : Int32)), .unset, .unset] [(.int (p1 &&& (7 : Int32)))])) _
    refine XS.iconst X8.here hx rfl (hb hby at_67) ?_
    show Steps p.tables e below (T8.setTop (mkF m 68 #[.val (.int p1), .val (.int p2), .val (.int p3), .val (.int p4), .val (.int p5), .val (.int p6), .val (.int (p3 ^^^ p4)), .val (.int (p1 &&& (7 : Int32))), .val (.ref b7), .val (.int (0 : Int32)), .val (.int (0 : Int32)), .val (.int (0 : Int32)), .unset, .unset] [(.int (2 : Int32)), (.int (p1 &&& (7 : Int32)))])) _
    refine XS.icmpYes X8.here hx rfl (pc0 := 68) (pc' := 98) rfl (hb hby at_68) rfl (feq hc68).2 (by decide) (by decide) ?_
    show Steps p.tables e below (T8.setTop (mkF m 98 #[.val (.int p1), .val (.int p2), .val (.int p3), .val (.int p4), .val (.int p5), .val (.int p6), .val (.int (p3 ^^^ p4)), .val (.int (p1 &&& (7 : Int32))), .val (.ref b7), .val (.int (0 : Int32)), .val (.int (0 : Int32)), .val (.int (0 : Int32)), .unset, .unset] [])) _
    refine XS.iload X8.here hx rfl (hb hby at_98) rfl ?_
    show Steps p.tables e below (T8.setTop (mkF m 100 #[.val (.int p1), .val (.int p2), .val (.int p3), .val (.int p4), .val (.int p5), .val (.int p6), .val (.int (p3 ^^^ p4)), .val (.int (p1 &&& (7 : Int32))), .val (.ref b7), .val (.int (0 : Int32)), .val (.int (0 : Int32)), .val (.int (0 : Int32)), .unset, .unset] [(.int (p1 &&& (7 : Int32)))])) _
    refine XS.iconst X8.here hx rfl (hb hby at_100) ?_
    show Steps p.tables e below (T8.setTop (mkF m 101 #[.val (.int p1), .val (.int p2), .val (.int p3), .val (.int p4), .val (.int p5), .val (.int p6), .val (.int (p3 ^^^ p4)), .val (.int (p1 &&& (7 : Int32))), .val (.ref b7), .val (.int (0 : Int32)), .val (.int (0 : Int32)), .val (.int (0 : Int32)), .unset, .unset] [(.int (3 : Int32)), (.int (p1 &&& (7 : Int32)))])) _
    refine XS.icmpYes X8.here hx rfl (pc0 := 101) (pc' := 137) rfl (hb hby at_101) rfl (feq hc101).2 (by decide) (by decide) ?_
    show Steps p.tables e below (T8.setTop (mkF m 137 #[.val (.int p1), .val (.int p2), .val (.int p3), .val (.int p4), .val (.int p5), .val (.int p6), .val (.int (p3 ^^^ p4)), .val (.int (p1 &&& (7 : Int32))), .val (.ref b7), .val (.int (0 : Int32)), .val (.int (0 : Int32)), .val (.int (0 : Int32)), .unset, .unset] [])) _
    refine XS.iload X8.here hx rfl (hb hby at_137) rfl ?_
    show Steps p.tables e below (T8.setTop (mkF m 139 #[.val (.int p1), .val (.int p2), .val (.int p3), .val (.int p4), .val (.int p5), .val (.int p6), .val (.int (p3 ^^^ p4)), .val (.int (p1 &&& (7 : Int32))), .val (.ref b7), .val (.int (0 : Int32)), .val (.int (0 : Int32)), .val (.int (0 : Int32)), .unset, .unset] [(.int (p1 &&& (7 : Int32)))])) _
    refine XS.iconst X8.here hx rfl (hb hby at_139) ?_
    show Steps p.tables e below (T8.setTop (mkF m 140 #[.val (.int p1), .val (.int p2), .val (.int p3), .val (.int p4), .val (.int p5), .val (.int p6), .val (.int (p3 ^^^ p4)), .val (.int (p1 &&& (7 : Int32))), .val (.ref b7), .val (.int (0 : Int32)), .val (.int (0 : Int32)), .val (.int (0 : Int32)), .unset, .unset] [(.int (4 : Int32)), (.int (p1 &&& (7 : Int32)))])) _
    refine XS.icmpNo X8.here hx rfl (hb hby at_140) rfl (teq hc140).2 ?_
    show Steps p.tables e below (T8.setTop (mkF m 143 #[.val (.int p1), .val (.int p2), .val (.int p3), .val (.int p4), .val (.int p5), .val (.int p6), .val (.int (p3 ^^^ p4)), .val (.int (p1 &&& (7 : Int32))), .val (.ref b7), .val (.int (0 : Int32)), .val (.int (0 : Int32)), .val (.int (0 : Int32)), .unset, .unset] [])) _
    refine XS.aload X8.here hx rfl (hb hby at_143) rfl rfl ?_
    show Steps p.tables e below (T8.setTop (mkF m 145 #[.val (.int p1), .val (.int p2), .val (.int p3), .val (.int p4), .val (.int p5), .val (.int p6), .val (.int (p3 ^^^ p4)), .val (.int (p1 &&& (7 : Int32))), .val (.ref b7), .val (.int (0 : Int32)), .val (.int (0 : Int32)), .val (.int (0 : Int32)), .unset, .unset] [(.ref b7)])) _
    refine XS.iloadN X8.here hx rfl (hb hby at_145) rfl ?_
    show Steps p.tables e below (T8.setTop (mkF m 146 #[.val (.int p1), .val (.int p2), .val (.int p3), .val (.int p4), .val (.int p5), .val (.int p6), .val (.int (p3 ^^^ p4)), .val (.int (p1 &&& (7 : Int32))), .val (.ref b7), .val (.int (0 : Int32)), .val (.int (0 : Int32)), .val (.int (0 : Int32)), .unset, .unset] [(.int p2), (.ref b7)])) _
    refine XS.iloadN X8.here hx rfl (hb hby at_146) rfl ?_
    show Steps p.tables e below (T8.setTop (mkF m 147 #[.val (.int p1), .val (.int p2), .val (.int p3), .val (.int p4), .val (.int p5), .val (.int p6), .val (.int (p3 ^^^ p4)), .val (.int (p1 &&& (7 : Int32))), .val (.ref b7), .val (.int (0 : Int32)), .val (.int (0 : Int32)), .val (.int (0 : Int32)), .unset, .unset] [(.int p3), (.int p2), (.ref b7)])) _
    refine st9.trans ?_
    show Steps p.tables e below (T9.setTop (mkF m 150 #[.val (.int p1), .val (.int p2), .val (.int p3), .val (.int p4), .val (.int p5), .val (.int p6), .val (.int (p3 ^^^ p4)), .val (.int (p1 &&& (7 : Int32))), .val (.ref b7), .val (.int (0 : Int32)), .val (.int (0 : Int32)), .val (.int (0 : Int32)), .unset, .unset] [])) _
    refine XS.aload X9.here hx rfl (hb hby at_150) rfl rfl ?_
    show Steps p.tables e below (T9.setTop (mkF m 152 #[.val (.int p1), .val (.int p2), .val (.int p3), .val (.int p4), .val (.int p5), .val (.int p6), .val (.int (p3 ^^^ p4)), .val (.int (p1 &&& (7 : Int32))), .val (.ref b7), .val (.int (0 : Int32)), .val (.int (0 : Int32)), .val (.int (0 : Int32)), .unset, .unset] [(.ref b7)])) _
    refine st10.trans ?_
    show Steps p.tables e below (T10.setTop (mkF m 155 #[.val (.int p1), .val (.int p2), .val (.int p3), .val (.int p4), .val (.int p5), .val (.int p6), .val (.int (p3 ^^^ p4)), .val (.int (p1 &&& (7 : Int32))), .val (.ref b7), .val (.int (0 : Int32)), .val (.int (0 : Int32)), .val (.int (0 : Int32)), .unset, .unset] [])) _
    refine XS.iconst X10.here hx rfl (hb hby at_155) ?_
    show Steps p.tables e below (T10.setTop (mkF m 156 #[.val (.int p1), .val (.int p2), .val (.int p3), .val (.int p4), .val (.int p5), .val (.int p6), .val (.int (p3 ^^^ p4)), .val (.int (p1 &&& (7 : Int32))), .val (.ref b7), .val (.int (0 : Int32)), .val (.int (0 : Int32)), .val (.int (0 : Int32)), .unset, .unset] [(.int (0 : Int32))])) _
    refine XS.istore X10.here hx rfl (hb hby at_156) rfl (l' := #[.val (.int p1), .val (.int p2), .val (.int p3), .val (.int p4), .val (.int p5), .val (.int p6), .val (.int (p3 ^^^ p4)), .val (.int (p1 &&& (7 : Int32))), .val (.ref b7), .val (.int (0 : Int32)), .val (.int (0 : Int32)), .val (.int (0 : Int32)), .unset, .unset]) rfl ?_
    show Steps p.tables e below (T10.setTop (mkF m 158 #[.val (.int p1), .val (.int p2), .val (.int p3), .val (.int p4), .val (.int p5), .val (.int p6), .val (.int (p3 ^^^ p4)), .val (.int (p1 &&& (7 : Int32))), .val (.ref b7), .val (.int (0 : Int32)), .val (.int (0 : Int32)), .val (.int (0 : Int32)), .unset, .unset] [])) _
    refine XS.goto X10.here hx rfl (pc0 := 158) (pc' := 275) rfl (hb hby at_158) (by decide) (by decide) ?_
    show Steps p.tables e below (T10.setTop (mkF m 275 #[.val (.int p1), .val (.int p2), .val (.int p3), .val (.int p4), .val (.int p5), .val (.int p6), .val (.int (p3 ^^^ p4)), .val (.int (p1 &&& (7 : Int32))), .val (.ref b7), .val (.int (0 : Int32)), .val (.int (0 : Int32)), .val (.int (0 : Int32)), .unset, .unset] [])) _
    refine XS.aload X10.here hx rfl (hb hby at_275) rfl rfl ?_
    show Steps p.tables e below (T10.setTop (mkF m 277 #[.val (.int p1), .val (.int p2), .val (.int p3), .val (.int p4), .val (.int p5), .val (.int p6), .val (.int (p3 ^^^ p4)), .val (.int (p1 &&& (7 : Int32))), .val (.ref b7), .val (.int (0 : Int32)), .val (.int (0 : Int32)), .val (.int (0 : Int32)), .unset, .unset] [(.ref b7)])) _
    refine XS.iload X10.here hx rfl (hb hby at_277) rfl ?_
    show Steps p.tables e below (T10.setTop (mkF m 279 #[.val (.int p1), .val (.int p2), .val (.int p3), .val (.int p4), .val (.int p5), .val (.int p6), .val (.int (p3 ^^^ p4)), .val (.int (p1 &&& (7 : Int32))), .val (.ref b7), .val (.int (0 : Int32)), .val (.int (0 : Int32)), .val (.int (0 : Int32)), .unset, .unset] [(.int p5), (.ref b7)])) _
    refine XS.iload X10.here hx rfl (hb hby at_279) rfl ?_
    show Steps p.tables e below (T10.setTop (mkF m 281 #[.val (.int p1), .val (.int p2), .val (.int p3), .val (.int p4), .val (.int p5), .val (.int p6), .val (.int (p3 ^^^ p4)), .val (.int (p1 &&& (7 : Int32))), .val (.ref b7), .val (.int (0 : Int32)), .val (.int (0 : Int32)), .val (.int (0 : Int32)), .unset, .unset] [(.int p6), (.int p5), (.ref b7)])) _
    refine st11.trans ?_
    show Steps p.tables e below (T11.setTop (mkF m 284 #[.val (.int p1), .val (.int p2), .val (.int p3), .val (.int p4), .val (.int p5), .val (.int p6), .val (.int (p3 ^^^ p4)), .val (.int (p1 &&& (7 : Int32))), .val (.ref b7), .val (.int (0 : Int32)), .val (.int (0 : Int32)), .val (.int (0 : Int32)), .unset, .unset] [(.int (own_fb (0 : Int32) (0 : Int32) p2 p3 p5 p6))])) _
    refine XS.istore X11.here hx rfl (hb hby at_284) rfl (l' := #[.val (.int p1), .val (.int p2), .val (.int p3), .val (.int p4), .val (.int p5), .val (.int p6), .val (.int (p3 ^^^ p4)), .val (.int (p1 &&& (7 : Int32))), .val (.ref b7), .val (.int (0 : Int32)), .val (.int (0 : Int32)), .val (.int (0 : Int32)), .val (.int (own_fb (0 : Int32) (0 : Int32) p2 p3 p5 p6)), .unset]) rfl ?_
    show Steps p.tables e below (T11.setTop (mkF m 286 #[.val (.int p1), .val (.int p2), .val (.int p3), .val (.int p4), .val (.int p5), .val (.int p6), .val (.int (p3 ^^^ p4)), .val (.int (p1 &&& (7 : Int32))), .val (.ref b7), .val (.int (0 : Int32)), .val (.int (0 : Int32)), .val (.int (0 : Int32)), .val (.int (own_fb (0 : Int32) (0 : Int32) p2 p3 p5 p6)), .unset] [])) _
    refine XS.iload X11.here hx rfl (hb hby at_286) rfl ?_
    show Steps p.tables e below (T11.setTop (mkF m 288 #[.val (.int p1), .val (.int p2), .val (.int p3), .val (.int p4), .val (.int p5), .val (.int p6), .val (.int (p3 ^^^ p4)), .val (.int (p1 &&& (7 : Int32))), .val (.ref b7), .val (.int (0 : Int32)), .val (.int (0 : Int32)), .val (.int (0 : Int32)), .val (.int (own_fb (0 : Int32) (0 : Int32) p2 p3 p5 p6)), .unset] [(.int (0 : Int32))])) _
    refine XS.ifYes X11.here hx rfl (pc0 := 288) (pc' := 313) rfl (hb hby at_288) rfl ((if0 _ _).trans (teq (rfl : (0 : Int32) = (0 : Int32))).1) (by decide) (by decide) ?_
    show Steps p.tables e below (T11.setTop (mkF m 313 #[.val (.int p1), .val (.int p2), .val (.int p3), .val (.int p4), .val (.int p5), .val (.int p6), .val (.int (p3 ^^^ p4)), .val (.int (p1 &&& (7 : Int32))), .val (.ref b7), .val (.int (0 : Int32)), .val (.int (0 : Int32)), .val (.int (0 : Int32)), .val (.int (own_fb (0 : Int32) (0 : Int32) p2 p3 p5 p6)), .unset] [])) _
    refine XS.iconst X11.here hx rfl (hb hby at_313) ?_
    show Steps p.tables e below (T11.setTop (mkF m 314 #[.val (.int p1), .val (.int p2), .val (.int p3), .val (.int p4), .val (.int p5), .val (.int p6), .val (.int (p3 ^^^ p4)), .val (.int (p1 &&& (7 : Int32))), .val (.ref b7), .val (.int (0 : Int32)), .val (.int (0 : Int32)), .val (.int (0 : Int32)), .val (.int (own_fb (0 : Int32) (0 : Int32) p2 p3 p5 p6)), .unset] [(.int (0 : Int32))])) _
    refine XS.istore X11.here hx rfl (hb hby at_314) rfl (l' := #[.val (.int p1), .val (.int p2), .val (.int p3), .val (.int p4), .val (.int p5), .val (.int p6), .val (.int (p3 ^^^ p4)), .val (.int (p1 &&& (7 : Int32))), .val (.ref b7), .val (.int (0 : Int32)), .val (.int (0 : Int32)), .val (.int (0 : Int32)), .val (.int (own_fb (0 : Int32) (0 : Int32) p2 p3 p5 p6)), .val (.int (0 : Int32))]) rfl ?_
    show Steps p.tables e below (T11.setTop (mkF m 316 #[.val (.int p1), .val (.int p2), .val (.int p3), .val (.int p4), .val (.int p5), .val (.int p6), .val (.int (p3 ^^^ p4)), .val (.int (p1 &&& (7 : Int32))), .val (.ref b7), .val (.int (0 : Int32)), .val (.int (0 : Int32)), .val (.int (0 : Int32)), .val (.int (own_fb (0 : Int32) (0 : Int32) p2 p3 p5 p6)), .val (.int (0 : Int32))] [])) _
    refine XS.iload X11.here hx rfl (hb hby at_316) rfl ?_
    show Steps p.tables e below (T11.setTop (mkF m 318 #[.val (.int p1), .val (.int p2), .val (.int p3), .val (.int p4), .val (.int p5), .val (.int p6), .val (.int (p3 ^^^ p4)), .val (.int (p1 &&& (7 : Int32))), .val (.ref b7), .val (.int (0 : Int32)), .val (.int (0 : Int32)), .val (.int (0 : Int32)), .val (.int (own_fb (0 : Int32) (0 : Int32) p2 p3 p5 p6)), .val (.int (0 : Int32))] [(.int (own_fb (0 : Int32) (0 : Int32) p2 p3 p5 p6))])) _
    refine XS.iload X11.here hx rfl (hb hby at_318) rfl ?_
    show Steps p.tables e below (T11.setTop (mkF m 320 #[.val (.int p1), .val (.int p2), .val (.int p3), .val (.int p4), .val (.int p5), .val (.int p6), .val (.int (p3 ^^^ p4)), .val (.int (p1 &&& (7 : Int32))), .val (.ref b7), .val (.int (0 : Int32)), .val (.int (0 : Int32)), .val (.int (0 : Int32)), .val (.int (own_fb (0 : Int32) (0 : Int32) p2 p3 p5 p6)), .val (.int (0 : Int32))] [(.int (0 : Int32)), (.int (own_fb (0 : Int32) (0 : Int32) p2 p3 p5 p6))])) _
    refine XS.icmpNo X11.here hx rfl (hb hby at_320) rfl (teq (own_none (by decide) : (own_fb (0 : Int32) (0 : Int32) p2 p3 p5 p6) = (0 : Int32))).2 ?_
    show Steps p.tables e below (T11.setTop (mkF m 323 #[.val (.int p1), .val (.int p2), .val (.int p3), .val (.int p4), .val (.int p5), .val (.int p6), .val (.int (p3 ^^^ p4)), .val (.int (p1 &&& (7 : Int32))), .val (.ref b7), .val (.int (0 : Int32)), .val (.int (0 : Int32)), .val (.int (0 : Int32)), .val (.int (own_fb (0 : Int32) (0 : Int32) p2 p3 p5 p6)), .val (.int (0 : Int32))] [])) _
    refine XS.iconst X11.here hx rfl (hb hby at_323) ?_
    show Steps p.tables e below (T11.setTop (mkF m 324 #[.val (.int p1), .val (.int p2), .val (.int p3), .val (.int p4), .val (.int p5), .val (.int p6), .val (.int (p3 ^^^ p4)), .val (.int (p1 &&& (7 : Int32))), .val (.ref b7), .val (.int (0 : Int32)), .val (.int (0 : Int32)), .val (.int (0 : Int32)), .val (.int (own_fb (0 : Int32) (0 : Int32) p2 p3 p5 p6)), .val (.int (0 : Int32))] [(.int (1 : Int32))])) _
    refine XS.goto X11.here hx rfl (pc0 := 324) (pc' := 328) rfl (hb hby at_324) (by decide) (by decide) ?_
    show Steps p.tables e below (T11.setTop (mkF m 328 #[.val (.int p1), .val (.int p2), .val (.int p3), .val (.int p4), .val (.int p5), .val (.int p6), .val (.int (p3 ^^^ p4)), .val (.int (p1 &&& (7 : Int32))), .val (.ref b7), .val (.int (0 : Int32)), .val (.int (0 : Int32)), .val (.int (0 : Int32)), .val (.int (own_fb (0 : Int32) (0 : Int32) p2 p3 p5 p6)), .val (.int (0 : Int32))] [(.int (1 : Int32))])) _
    exact retN X11 hx (t := .boolean) Bd.returns (by simp) (hb hby at_328) hr
  · show Q0 Z p1 p2 p3 p4 p5 p6 h0 n0 _ T11.heap _
    exact ⟨rfl, N11⟩
set_option maxRecDepth 65536 in
set_option maxHeartbeats 40000000 in
theorem rm0_5 (l : Launch) (Z : State) (a0 : Array Value) (hw : ∀ d ∈ tables_1, d.before a0 Z = true) (ws : List Jvm.Cond) (p1 : Int32) (p2 : Int32) (p3 : Int32) (p4 : Int32) (p5 : Int32) (p6 : Int32) (h0 : Heap) (n0 : Nat) (Z0 : n0 ≤ h0.size) (hc31 : ¬ ((p1 &&& (7 : Int32)) = (0 : Int32))) (hc43 : ¬ ((p1 &&& (7 : Int32)) = (1 : Int32))) (hc68 : ¬ ((p1 &&& (7 : Int32)) = (2 : Int32))) (hc101 : ¬ ((p1 &&& (7 : Int32)) = (3 : Int32))) (hc140 : ¬ ((p1 &&& (7 : Int32)) = (4 : Int32))) (hc164 : (p1 &&& (7 : Int32)) = (5 : Int32)) (hc288 : ¬ ((1 : Int32) = (0 : Int32))) :
    MetFree l x (head1 (Jvm.Cond.code x code maxLocals ret :: ws) room_1) (fun a U => a = #[(.int p1), (.int p2), (.int p3), (.int p4), (.int p5), (.int p6)] ∧ Z.Warmed39 U.vm ∧ U.heap = h0) (fun _ _ _ _ _ => True) (fun _ U o U' => ∃ v L, o = .returned v ∧ Q0 Z p1 p2 p3 p4 p5 p6 h0 n0 v U'.heap L ∧ FrameEnd U o U' L room_1.cells room_1.slots) := by
  refine MetFree.of_bodySF (plainFor_of_name pn_0) hisR ?_
  intro p e s m args below meth c s₁ Bd hml0 hP hK
  obtain ⟨rfl, hZ, hh⟩ := hP
  have hx := Bd.exec
  have hby := Bd.bytes
  have hml : c.maxLocals = 14 := hml0
  have hown : s.vm.findClass "overmark/NotedPlacesFirstBeforePinLaw" = some m.cls := findClass_of_methodNamed Bd.named
  have hnm := (name_of_methodNamed Bd.named Bd.method).1
  have X0 : Stand p l e room_1 s m #[(.int p1), (.int p2), (.int p3), (.int p4), (.int p5), (.int p6)] below meth c s₁ [] 0 0 := Stand.of_body Bd
  have e0 : s₁.heap = h0 := by rw [← hh, Bd.state]; rfl
  have N0 := Fr.nil n0
  have pre0 : ∀ t, Steps p.tables e below (s₁.setTop (mkF m 0 #[.val (.int p1), .val (.int p2), .val (.int p3), .val (.int p4), .val (.int p5), .val (.int p6), .unset, .unset, .unset, .unset, .unset, .unset, .unset, .unset] [])) t → Steps p.tables e below (s₁.setTop (entryFrame m #[(.int p1), (.int p2), (.int p3), (.int p4), (.int p5), (.int p6)] maxLocals)) t := fun t k => castTop (ef_0 m p1 p2 p3 p4 p5 p6) k
  obtain ⟨T7, h7, X7, e7, E7, A7, D7, -, st7⟩ := newO X0 hx hZ hown (hw _ (List.mem_of_getElem? (i := 0) rfl)) (hw _ (List.mem_of_getElem? (i := 1) rfl)) (hw _ (List.mem_of_getElem? (i := 2) rfl)) e0 (g := (mkF m 11 #[.val (.int p1), .val (.int p2), .val (.int p3), .val (.int p4), .val (.int p5), .val (.int p6), .val (.int (p3 ^^^ p4)), .val (.int (p1 &&& (7 : Int32))), .unset, .unset, .unset, .unset, .unset, .unset] [])) rfl (hb hby at_11) (by decide) (by decide)
  obtain ⟨b7, g7⟩ : ∃ z, z = h0.size := ⟨_, rfl⟩
  rw [← g7] at A7 D7 st7
  have F_lines_b7 : Fld Z h7 b7 "overmark/NotedPlaces" "lines" "[I" .null := D7 (Or.inl (hw _ (List.mem_of_getElem? (i := 11) rfl))) (ty := (.array .int)) (by decide)
  have F_columns_b7 : Fld Z h7 b7 "overmark/NotedPlaces" "columns" "[I" .null := D7 (Or.inl (hw _ (List.mem_of_getElem? (i := 13) rfl))) (ty := (.array .int)) (by decide)
  have F_labels_b7 : Fld Z h7 b7 "overmark/NotedPlaces" "labels" "[Ljava/lang/String;" .null := D7 (Or.inl (hw _ (List.mem_of_getElem? (i := 17) rfl))) (ty := (.array (.object "java/lang/String"))) (by decide)
  have F_first_b7 : Fld Z h7 b7 "overmark/NotedPlaces" "first" "I" (.int (0 : Int32)) := D7 (Or.inl (hw _ (List.mem_of_getElem? (i := 24) rfl))) (ty := .int) (by decide)
  have F_end_b7 : Fld Z h7 b7 "overmark/NotedPlaces" "end" "I" (.int (0 : Int32)) := D7 (Or.inl (hw _ (List.mem_of_getElem? (i := 26) rfl))) (ty := .int) (by decide)
  have E_b7 := A7
  have g_b7 : n0 ≤ b7 := Nat.le_trans Z0 (Nat.le_of_eq g7.symm)
  have sz_b7 : h0.size ≤ b7 := (Nat.le_trans (Keep.refl h0 []).1 (Nat.le_of_eq g7.symm))
  have K7 : Keep h0 h7 [] := (Keep.refl h0 []).ext E7
  obtain ⟨_, _, ⟨T8, L8, k8, n8⟩, -, X8, ⟨Lc8, hQ8, l8, y8, z8⟩, st8⟩ := X7.specialBack hx (y := (⟨"overmark/NotedPlaces", "<init>", "()V"⟩ : MethodName)) rfl hown (mvT hZ (hw _ (List.mem_of_getElem? (i := 3) rfl))) (mvT hZ (hw _ (List.mem_of_getElem? (i := 4) rfl))) (mvT hZ (hw _ (List.mem_of_getElem? (i := 5) rfl))) (by decide) (backOf (W := 1) (rm1 l Z a0 hw [] b7 .null .null .null h7 n0 (Nat.le_trans Z0 E7.1) E_b7 F_lines_b7 g_b7 F_columns_b7 F_labels_b7 F_first_b7 F_end_b7) hZ (hw _ (List.mem_of_getElem? (i := 5) rfl)) (hw _ (List.mem_of_getElem? (i := 2) rfl)) (by decide) (by decide)) (g := (mkF m 15 #[.val (.int p1), .val (.int p2), .val (.int p3), .val (.int p4), .val (.int p5), .val (.int p6), .val (.int (p3 ^^^ p4)), .val (.int (p1 &&& (7 : Int32))), .unset, .unset, .unset, .unset, .unset, .unset] [(.ref b7), (.ref b7)])) rfl (by rw [hml]; rfl) (Steps.refl _) (a := b7) (argsL := []) (rest := [(.ref b7)]) (lenOf pd_0_0 rfl) rfl (by show 2 * 0 + _ ≤ _; exact Nat.le_of_eq rfl) (hb hby at_15) (fun _ _ => ⟨rfl, e7, (by decide : 1 + 3 ≤ _), (by decide : 5 + 3072 ≤ _)⟩)
  dsimp only [Pt.U, Pt.locs, Pt.cells, Pt.slots] at X8 l8 y8 z8 st8 hQ8
  subst l8 y8 z8
  obtain ⟨rfl, N8q, hs8, np8⟩ := hQ8
  have Z8 : n0 ≤ T8.heap.size := Nat.le_trans (Nat.le_trans Z0 E7.1) hs8
  have N8 := Fr.app N0 N8q
  obtain ⟨cq9, kq9, q9a, q9b, q9c⟩ := isOf hZ rfl (own_exa np8)
  obtain ⟨_, _, ⟨T9, L9, k9, n9⟩, -, X9, ⟨Lc9, hQ9, l9, y9, z9⟩, st9⟩ := X8.virtualBack hx (y := (⟨"overmark/NotedPlaces", "note", "(II)V"⟩ : MethodName)) (z := (⟨"overmark/NotedPlaces", "note", "(II)V"⟩ : MethodName)) hown (mvT hZ (hw _ (List.mem_of_getElem? (i := 27) rfl))) (mvT hZ (hw _ (List.mem_of_getElem? (i := 28) rfl))) (notFace_of_selects (args := #[]) (mvT hZ (hw _ (List.mem_of_getElem? (i := 30) rfl)))) (mvT hZ (hw _ (List.mem_of_getElem? (i := 30) rfl))) (mvT hZ (hw _ (List.mem_of_getElem? (i := 29) rfl))) (by decide) (backOf (W := 0) (rm4 l Z a0 hw [] b7 p2 p3 (0 : Int32) (0 : Int32) (1 : Int32) 0 [(.int (0 : Int32)), (.int (0 : Int32)), (.int (0 : Int32))] [(.int (0 : Int32)), (.int (0 : Int32)), (.int (0 : Int32))] [.null, .null, .null] T8.heap n0 Z8 np8 rfl (by decide) (by decide) (by decide) (Nat.le_of_ble_eq_true rfl) (Nat.le_of_ble_eq_true rfl) (Nat.le_of_ble_eq_true rfl)) hZ (hw _ (List.mem_of_getElem? (i := 31) rfl)) (hw _ (List.mem_of_getElem? (i := 2) rfl)) (by decide) (by decide)) q9a q9c (g := (mkF m 171 #[.val (.int p1), .val (.int p2), .val (.int p3), .val (.int p4), .val (.int p5), .val (.int p6), .val (.int (p3 ^^^ p4)), .val (.int (p1 &&& (7 : Int32))), .val (.ref b7), .val (.int (0 : Int32)), .val (.int (0 : Int32)), .val (.int (0 : Int32)), .unset, .unset] [(.int p3), (.int p2), (.ref b7)])) rfl (by rw [hml]; rfl) (Steps.refl _) (argsL := [(.int p2), (.int p3)]) (rest := []) (lenOf pd_0_2 rfl) rfl (by show 2 * 0 + _ ≤ _; exact Nat.le_of_eq rfl) (hb hby at_171) (fun _ _ => ⟨rfl, rfl, (by decide : 4 + 0 ≤ _), (by decide : 3077 + 0 ≤ _)⟩)
  dsimp only [Pt.U, Pt.locs, Pt.cells, Pt.slots] at X9 l9 y9 z9 st9 hQ9
  subst l9 y9 z9
  obtain ⟨rfl, N9q, hs9, nq9⟩ := hQ9
  have Z9 : n0 ≤ T9.heap.size := Nat.le_trans Z8 hs9
  have np9 : NP Z T9.heap n0 b7 (0 : Int32) (1 : Int32) [(.int p2), (.int (0 : Int32)), (.int (0 : Int32))] [(.int p3), (.int (0 : Int32)), (.int (0 : Int32))] [.null, .null, .null] := nq9
  have N9 := Fr.app N8 N9q
  obtain ⟨cq10, kq10, q10a, q10b, q10c⟩ := isOf hZ rfl (own_exa np9)
  obtain ⟨_, _, ⟨T10, L10, k10, n10⟩, -, X10, ⟨Lc10, hQ10, l10, y10, z10⟩, st10⟩ := X9.virtualBack hx (y := (⟨"overmark/NotedPlaces", "letGoFirst", "()V"⟩ : MethodName)) (z := (⟨"overmark/NotedPlaces", "letGoFirst", "()V"⟩ : MethodName)) hown (mvT hZ (hw _ (List.mem_of_getElem? (i := 32) rfl))) (mvT hZ (hw _ (List.mem_of_getElem? (i := 33) rfl))) (notFace_of_selects (args := #[]) (mvT hZ (hw _ (List.mem_of_getElem? (i := 35) rfl)))) (mvT hZ (hw _ (List.mem_of_getElem? (i := 35) rfl))) (mvT hZ (hw _ (List.mem_of_getElem? (i := 34) rfl))) (by decide) (backOf (W := 0) (rm5f l Z a0 hw [] b7 (0 : Int32) (1 : Int32) [(.int p2), (.int (0 : Int32)), (.int (0 : Int32))] [(.int p3), (.int (0 : Int32)), (.int (0 : Int32))] [.null, .null, .null] T9.heap n0 Z9 np9 (by decide)) hZ (hw _ (List.mem_of_getElem? (i := 36) rfl)) (hw _ (List.mem_of_getElem? (i := 2) rfl)) (by decide) (by decide)) q10a q10c (g := (mkF m 176 #[.val (.int p1), .val (.int p2), .val (.int p3), .val (.int p4), .val (.int p5), .val (.int p6), .val (.int (p3 ^^^ p4)), .val (.int (p1 &&& (7 : Int32))), .val (.ref b7), .val (.int (0 : Int32)), .val (.int (0 : Int32)), .val (.int (0 : Int32)), .unset, .unset] [(.ref b7)])) rfl (by rw [hml]; rfl) (Steps.refl _) (argsL := []) (rest := []) (lenOf pd_0_0 rfl) rfl (by show 2 * 0 + _ ≤ _; exact Nat.le_of_eq rfl) (hb hby at_176) (fun _ _ => ⟨rfl, rfl, (by decide : 4 + 0 ≤ _), (by decide : 3077 + 0 ≤ _)⟩)
  dsimp only [Pt.U, Pt.locs, Pt.cells, Pt.slots] at X10 l10 y10 z10 st10 hQ10
  subst l10 y10 z10
  obtain ⟨rfl, N10q, hs10, nq10⟩ := hQ10
  have Z10 : n0 ≤ T10.heap.size := Nat.le_trans Z9 hs10
  have np10 : NP Z T10.heap n0 b7 (0 : Int32) (0 : Int32) [(.int p2), (.int (0 : Int32)), (.int (0 : Int32))] [(.int p3), (.int (0 : Int32)), (.int (0 : Int32))] [.null, .null, .null] := nq10
  have N10 := Fr.app N9 N10q
  obtain ⟨cq11, kq11, q11a, q11b, q11c⟩ := isOf hZ rfl (own_exa np10)
  obtain ⟨_, _, ⟨T11, L11, k11, n11⟩, -, X11, ⟨Lc11, hQ11, l11, y11, z11⟩, st11⟩ := X10.virtualBack hx (y := (⟨"overmark/NotedPlaces", "note", "(II)V"⟩ : MethodName)) (z := (⟨"overmark/NotedPlaces", "note", "(II)V"⟩ : MethodName)) hown (mvT hZ (hw _ (List.mem_of_getElem? (i := 27) rfl))) (mvT hZ (hw _ (List.mem_of_getElem? (i := 28) rfl))) (notFace_of_selects (args := #[]) (mvT hZ (hw _ (List.mem_of_getElem? (i := 30) rfl)))) (mvT hZ (hw _ (List.mem_of_getElem? (i := 30) rfl))) (mvT hZ (hw _ (List.mem_of_getElem? (i := 29) rfl))) (by decide) (backOf (W := 0) (rm4 l Z a0 hw [] b7 p4 (p3 ^^^ p4) (0 : Int32) (0 : Int32) (1 : Int32) 0 [(.int p2), (.int (0 : Int32)), (.int (0 : Int32))] [(.int p3), (.int (0 : Int32)), (.int (0 : Int32))] [.null, .null, .null] T10.heap n0 Z10 np10 rfl (by decide) (by decide) (by decide) (Nat.le_of_ble_eq_true rfl) (Nat.le_of_ble_eq_true rfl) (Nat.le_of_ble_eq_true rfl)) hZ (hw _ (List.mem_of_getElem? (i := 31) rfl)) (hw _ (List.mem_of_getElem? (i := 2) rfl)) (by decide) (by decide)) q11a q11c (g := (mkF m 184 #[.val (.int p1), .val (.int p2), .val (.int p3), .val (.int p4), .val (.int p5), .val (.int p6), .val (.int (p3 ^^^ p4)), .val (.int (p1 &&& (7 : Int32))), .val (.ref b7), .val (.int (0 : Int32)), .val (.int (0 : Int32)), .val (.int (0 : Int32)), .unset, .unset] [(.int (p3 ^^^ p4)), (.int p4), (.ref b7)])) rfl (by rw [hml]; rfl) (Steps.refl _) (argsL := [(.int p4), (.int (p3 ^^^ p4))]) (rest := []) (lenOf pd_0_2 rfl) rfl (by show 2 * 0 + _ ≤ _; exact Nat.le_of_eq rfl) (hb hby at_184) (fun _ _ => ⟨rfl, rfl, (by decide : 4 + 0 ≤ _), (by decide : 3077 + 0 ≤ _)⟩)
  dsimp only [Pt.U, Pt.locs, Pt.cells, Pt.slots] at X11 l11 y11 z11 st11 hQ11
  subst l11 y11 z11
  obtain ⟨rfl, N11q, hs11, nq11⟩ := hQ11
  have Z11 : n0 ≤ T11.heap.size := Nat.le_trans Z10 hs11
  have np11 : NP Z T11.heap n0 b7 (0 : Int32) (1 : Int32) [(.int p4), (.int (0 : Int32)), (.int (0 : Int32))] [(.int (p3 ^^^ p4)), (.int (0 : Int32)), (.int (0 : Int32))] [.null, .null, .null] := nq11
  have N11 := Fr.app N10 N11q
  obtain ⟨cq12, kq12, q12a, q12b, q12c⟩ := isOf hZ rfl (own_exa np11)
  obtain ⟨_, _, ⟨T12, L12, k12, n12⟩, -, X12, ⟨Lc12, hQ12, l12, y12, z12⟩, st12⟩ := X11.virtualBack hx (y := (⟨"overmark/NotedPlaces", "firstBefore", "(II)Z"⟩ : MethodName)) (z := (⟨"overmark/NotedPlaces", "firstBefore", "(II)Z"⟩ : MethodName)) hown (mvT hZ (hw _ (List.mem_of_getElem? (i := 18) rfl))) (mvT hZ (hw _ (List.mem_of_getElem? (i := 19) rfl))) (notFace_of_selects (args := #[]) (mvT hZ (hw _ (List.mem_of_getElem? (i := 21) rfl)))) (mvT hZ (hw _ (List.mem_of_getElem? (i := 21) rfl))) (mvT hZ (hw _ (List.mem_of_getElem? (i := 20) rfl))) (by decide) (backOf (W := 0) (rm3 l Z a0 hw [] b7 p5 p6 (0 : Int32) (1 : Int32) p4 (p3 ^^^ p4) 0 [(.int p4), (.int (0 : Int32)), (.int (0 : Int32))] [(.int (p3 ^^^ p4)), (.int (0 : Int32)), (.int (0 : Int32))] [.null, .null, .null] T11.heap n0 Z11 np11 rfl (by decide) (by decide) rfl rfl) hZ (hw _ (List.mem_of_getElem? (i := 22) rfl)) (hw _ (List.mem_of_getElem? (i := 2) rfl)) (by decide) (by decide)) q12a q12c (g := (mkF m 281 #[.val (.int p1), .val (.int p2), .val (.int p3), .val (.int p4), .val (.int p5), .val (.int p6), .val (.int (p3 ^^^ p4)), .val (.int (p1 &&& (7 : Int32))), .val (.ref b7), .val (.int (1 : Int32)), .val (.int p4), .val (.int (p3 ^^^ p4)), .unset, .unset] [(.int p6), (.int p5), (.ref b7)])) rfl (by rw [hml]; rfl) (Steps.refl _) (argsL := [(.int p5), (.int p6)]) (rest := []) (lenOf pd_0_1 rfl) rfl (by show 2 * 0 + _ ≤ _; exact Nat.le_of_eq rfl) (hb hby at_281) (fun _ _ => ⟨rfl, rfl, (by decide : 4 + 0 ≤ _), (by decide : 3077 + 0 ≤ _)⟩)
  dsimp only [Pt.U, Pt.locs, Pt.cells, Pt.slots] at X12 l12 y12 z12 st12 hQ12
  subst l12 y12 z12
  obtain ⟨rfl, N12q, e12⟩ := hQ12
  have Z12 : n0 ≤ T12.heap.size := by rw [e12]; exact Z11
  have N12 := Fr.app N11 N12q
  obtain ⟨_, _, ⟨T13, L13, k13, n13⟩, -, X13, ⟨Lc13, hQ13, l13, y13, z13⟩, st13⟩ := Jvm.LawKit.callS X12 hx (y := (⟨"overmark/NotedPlacesFirstBeforePinLaw", "key", "(II)J"⟩ : MethodName)) hown (mvT hZ (hw _ (List.mem_of_getElem? (i := 37) rfl))) (mvT hZ (hw _ (List.mem_of_getElem? (i := 38) rfl))) (mvT hZ (hw _ (List.mem_of_getElem? (i := 39) rfl))) (mvT hZ (hw _ (List.mem_of_getElem? (i := 40) rfl))) (by decide) (backOf (W := 0) (rm6 l Z a0 hw [] p4 (p3 ^^^ p4) T12.heap n0 Z12) hZ (hw _ (List.mem_of_getElem? (i := 40) rfl)) (hw _ (List.mem_of_getElem? (i := 39) rfl)) (by decide) (by decide)) (g := (mkF m 295 #[.val (.int p1), .val (.int p2), .val (.int p3), .val (.int p4), .val (.int p5), .val (.int p6), .val (.int (p3 ^^^ p4)), .val (.int (p1 &&& (7 : Int32))), .val (.ref b7), .val (.int (1 : Int32)), .val (.int p4), .val (.int (p3 ^^^ p4)), .val (.int (own_fb (0 : Int32) (1 : Int32) p4 (p3 ^^^ p4) p5 p6)), .unset] [(.int (p3 ^^^ p4)), (.int p4)])) rfl (by rw [hml]; rfl) (argsL := [(.int p4), (.int (p3 ^^^ p4))]) (rest := []) (lenOf pd_0_3 rfl) rfl (by show 2 * 0 + _ ≤ _; exact Nat.le_of_eq rfl) (hb hby at_295) (fun _ _ => ⟨rfl, rfl, (by decide : 4 + 0 ≤ _), (by decide : 3077 + 0 ≤ _)⟩)
  dsimp only [Pt.U, Pt.locs, Pt.cells, Pt.slots] at X13 l13 y13 z13 st13 hQ13
  subst l13 y13 z13
  obtain ⟨rfl, N13q, e13⟩ := hQ13
  have Z13 : n0 ≤ T13.heap.size := by rw [e13]; exact Z12
  have N13 := Fr.app N12 N13q
  obtain ⟨_, _, ⟨T14, L14, k14, n14⟩, -, X14, ⟨Lc14, hQ14, l14, y14, z14⟩, st14⟩ := Jvm.LawKit.callS X13 hx (y := (⟨"overmark/NotedPlacesFirstBeforePinLaw", "key", "(II)J"⟩ : MethodName)) hown (mvT hZ (hw _ (List.mem_of_getElem? (i := 37) rfl))) (mvT hZ (hw _ (List.mem_of_getElem? (i := 38) rfl))) (mvT hZ (hw _ (List.mem_of_getElem? (i := 39) rfl))) (mvT hZ (hw _ (List.mem_of_getElem? (i := 40) rfl))) (by decide) (backOf (W := 2) (rm6 l Z a0 hw [] p5 p6 T13.heap n0 Z13) hZ (hw _ (List.mem_of_getElem? (i := 40) rfl)) (hw _ (List.mem_of_getElem? (i := 39) rfl)) (by decide) (by decide)) (g := (mkF m 302 #[.val (.int p1), .val (.int p2), .val (.int p3), .val (.int p4), .val (.int p5), .val (.int p6), .val (.int (p3 ^^^ p4)), .val (.int (p1 &&& (7 : Int32))), .val (.ref b7), .val (.int (1 : Int32)), .val (.int p4), .val (.int (p3 ^^^ p4)), .val (.int (own_fb (0 : Int32) (1 : Int32) p4 (p3 ^^^ p4) p5 p6)), .unset] [(.int p6), (.int p5), (.long (own_key p4 (p3 ^^^ p4)))])) rfl (by rw [hml]; rfl) (argsL := [(.int p5), (.int p6)]) (rest := [(.long (own_key p4 (p3 ^^^ p4)))]) (lenOf pd_0_3 rfl) rfl (by show 2 * 0 + _ ≤ _; exact Nat.le_of_eq rfl) (hb hby at_302) (fun _ _ => ⟨rfl, rfl, (by decide : 4 + 0 ≤ _), (by decide : 3077 + 0 ≤ _)⟩)
  dsimp only [Pt.U, Pt.locs, Pt.cells, Pt.slots] at X14 l14 y14 z14 st14 hQ14
  subst l14 y14 z14
  obtain ⟨rfl, N14q, e14⟩ := hQ14
  have Z14 : n0 ≤ T14.heap.size := by rw [e14]; exact Z13
  have N14 := Fr.app N13 N14q
  obtain ⟨fs, hr, hrun, hended, hW, hsame⟩ := X14.leave (v := some (.int (1 : Int32))) (fun h => by rw [Bd.returns] at h; cases h)
  refine ⟨_, _, pre0 _ ?_, hrun, hended, _, _, rfl, ?_, ⟨_, rfl⟩, hW, hsame.mono (by decide) (by decide)⟩
  · show Steps p.tables e below (s₁.setTop (mkF m 0 #[.val (.int p1), .val (.int p2), .val (.int p3), .val (.int p4), .val (.int p5), .val (.int p6), .unset, .unset, .unset, .unset, .unset, .unset, .unset, .unset] [])) _
    refine XS.iloadN X0.here hx rfl (hb hby at_0) rfl ?_
    show Steps p.tables e below (s₁.setTop (mkF m 1 #[.val (.int p1), .val (.int p2), .val (.int p3), .val (.int p4), .val (.int p5), .val (.int p6), .unset, .unset, .unset, .unset, .unset, .unset, .unset, .unset] [(.int p3)])) _
    refine XS.iloadN X0.here hx rfl (hb hby at_1) rfl ?_
    show Steps p.tables e below (s₁.setTop (mkF m 2 #[.val (.int p1), .val (.int p2), .val (.int p3), .val (.int p4), .val (.int p5), .val (.int p6), .unset, .unset, .unset, .unset, .unset, .unset, .unset, .unset] [(.int p4), (.int p3)])) _
    refine XS.ixor X0.here hx rfl (hb hby at_2) rfl ?_
    show Steps p.tables e below (s₁.setTop (mkF m 3 #[.val (.int p1), .val (.int p2), .val (.int p3), .val (.int p4), .val (.int p5), .val (.int p6), .unset, .unset, .unset, .unset, .unset, .unset, .unset, .unset] [(.int (p3 ^^^ p4))])) _
    refine XS.istore X0.here hx rfl (hb hby at_3) rfl (l' := #[.val (.int p1), .val (.int p2), .val (.int p3), .val (.int p4), .val (.int p5), .val (.int p6), .val (.int (p3 ^^^ p4)), .unset, .unset, .unset, .unset, .unset, .unset, .unset]) rfl ?_
    show Steps p.tables e below (s₁.setTop (mkF m 5 #[.val (.int p1), .val (.int p2), .val (.int p3), .val (.int p4), .val (.int p5), .val (.int p6), .val (.int (p3 ^^^ p4)), .unset, .unset, .unset, .unset, .unset, .unset, .unset] [])) _
    refine XS.iloadN X0.here hx rfl (hb hby at_5) rfl ?_
    show Steps p.tables e below (s₁.setTop (mkF m 6 #[.val (.int p1), .val (.int p2), .val (.int p3), .val (.int p4), .val (.int p5), .val (.int p6), .val (.int (p3 ^^^ p4)), .unset, .unset, .unset, .unset, .unset, .unset, .unset] [(.int p1)])) _
    refine XS.bipush X0.here hx rfl (hb hby at_6) ?_
    show Steps p.tables e below (s₁.setTop (mkF m 8 #[.val (.int p1), .val (.int p2), .val (.int p3), .val (.int p4), .val (.int p5), .val (.int p6), .val (.int (p3 ^^^ p4)), .unset, .unset, .unset, .unset, .unset, .unset, .unset] [(.int (7 : Int32)), (.int p1)])) _
    refine XS.iand X0.here hx rfl (hb hby at_8) rfl ?_
    show Steps p.tables e below (s₁.setTop (mkF m 9 #[.val (.int p1), .val (.int p2), .val (.int p3), .val (.int p4), .val (.int p5), .val (.int p6), .val (.int (p3 ^^^ p4)), .unset, .unset, .unset, .unset, .unset, .unset, .unset] [(.int (p1 &&& (7 : Int32)))])) _
    refine XS.istore X0.here hx rfl (hb hby at_9) rfl (l' := #[.val (.int p1), .val (.int p2), .val (.int p3), .val (.int p4), .val (.int p5), .val (.int p6), .val (.int (p3 ^^^ p4)), .val (.int (p1 &&& (7 : Int32))), .unset, .unset, .unset, .unset, .unset, .unset]) rfl ?_
    show Steps p.tables e below (s₁.setTop (mkF m 11 #[.val (.int p1), .val (.int p2), .val (.int p3), .val (.int p4), .val (.int p5), .val (.int p6), .val (.int (p3 ^^^ p4)), .val (.int (p1 &&& (7 : Int32))), .unset, .unset, .unset, .unset, .unset, .unset] [])) _
    refine st7 _ ?_
    show Steps p.tables e below (T7.setTop (mkF m 14 #[.val (.int p1), .val (.int p2), .val (.int p3), .val (.int p4), .val (.int p5), .val (.int p6), .val (.int (p3 ^^^ p4)), .val (.int (p1 &&& (7 : Int32))), .unset, .unset, .unset, .unset, .unset, .unset] [(.ref b7)])) _
    refine XS.dup X7.here hx rfl (hb hby at_14) rfl rfl ?_
    show Steps p.tables e below (T7.setTop (mkF m 15 #[.val (.int p1), .val (.int p2), .val (.int p3), .val (.int p4), .val (.int p5), .val (.int p6), .val (.int (p3 ^^^ p4)), .val (.int (p1 &&& (7 : Int32))), .unset, .unset, .unset, .unset, .unset, .unset] [(.ref b7), (.ref b7)])) _
    refine st8.trans ?_
    show Steps p.tables e below (T8.setTop (mkF m 18 #[.val (.int p1), .val (.int p2), .val (.int p3), .val (.int p4), .val (.int p5), .val (.int p6), .val (.int (p3 ^^^ p4)), .val (.int (p1 &&& (7 : Int32))), .unset, .unset, .unset, .unset, .unset, .unset] [(.ref b7)])) _
    refine XS.astore X8.here hx rfl (hb hby at_18) rfl rfl (l' := #[.val (.int p1), .val (.int p2), .val (.int p3), .val (.int p4), .val (.int p5), .val (.int p6), .val (.int (p3 ^^^ p4)), .val (.int (p1 &&& (7 : Int32))), .val (.ref b7), .unset, .unset, .unset, .unset, .unset]) rfl ?_
    show Steps p.tables e below (T8.setTop (mkF m 20 #[.val (.int p1), .val (.int p2), .val (.int p3), .val (.int p4), .val (.int p5), .val (.int p6), .val (.int (p3 ^^^ p4)), .val (.int (p1 &&& (7 : Int32))), .val (.ref b7), .unset, .unset, .unset, .unset, .unset] [])) _
    refine XS.iconst X8.here hx rfl (hb hby at_20) ?_
    show Steps p.tables e below (T8.setTop (mkF m 21 #[.val (.int p1), .val (.int p2), .val (.int p3), .val (.int p4), .val (.int p5), .val (.int p6), .val (.int (p3 ^^^ p4)), .val (.int (p1 &&& (7 : Int32))), .val (.ref b7), .unset, .unset, .unset, .unset, .unset] [(.int (0 : Int32))])) _
    refine XS.istore X8.here hx rfl (hb hby at_21) rfl (l' := #[.val (.int p1), .val (.int p2), .val (.int p3), .val (.int p4), .val (.int p5), .val (.int p6), .val (.int (p3 ^^^ p4)), .val (.int (p1 &&& (7 : Int32))), .val (.ref b7), .val (.int (0 : Int32)), .unset, .unset, .unset, .unset]) rfl ?_
    show Steps p.tables e below (T8.setTop (mkF m 23 #[.val (.int p1), .val (.int p2), .val (.int p3), .val (.int p4), .val (.int p5), .val (.int p6), .val (.int (p3 ^^^ p4)), .val (.int (p1 &&& (7 : Int32))), .val (.ref b7), .val (.int (0 : Int32)), .unset, .unset, .unset, .unset] [])) _
    refine XS.iconst X8.here hx rfl (hb hby at_23) ?_
    show Steps p.tables e below (T8.setTop (mkF m 24 #[.val (.int p1), .val (.int p2), .val (.int p3), .val (.int p4), .val (.int p5), .val (.int p6), .val (.int (p3 ^^^ p4)), .val (.int (p1 &&& (7 : Int32))), .val (.ref b7), .val (.int (0 : Int32)), .unset, .unset, .unset, .unset] [(.int (0 : Int32))])) _
    refine XS.istore X8.here hx rfl (hb hby at_24) rfl (l' := #[.val (.int p1), .val (.int p2), .val (.int p3), .val (.int p4), .val (.int p5), .val (.int p6), .val (.int (p3 ^^^ p4)), .val (.int (p1 &&& (7 : Int32))), .val (.ref b7), .val (.int (0 : Int32)), .val (.int (0 : Int32)), .unset, .unset, .unset]) rfl ?_
    show Steps p.tables e below (T8.setTop (mkF m 26 #[.val (.int p1), .val (.int p2), .val (.int p3), .val (.int p4), .val (.int p5), .val (.int p6), .val (.int (p3 ^^^ p4)), .val (.int (p1 &&& (7 : Int32))), .val (.ref b7), .val (.int (0 : Int32)), .val (.int (0 : Int32)), .unset, .unset, .unset] [])) _
    refine XS.iconst X8.here hx rfl (hb hby at_26) ?_
    show Steps p.tables e below (T8.setTop (mkF m 27 #[.val (.int p1), .val (.int p2), .val (.int p3), .val (.int p4), .val (.int p5), .val (.int p6), .val (.int (p3 ^^^ p4)), .val (.int (p1 &&& (7 : Int32))), .val (.ref b7), .val (.int (0 : Int32)), .val (.int (0 : Int32)), .unset, .unset, .unset] [(.int (0 : Int32))])) _
    refine XS.istore X8.here hx rfl (hb hby at_27) rfl (l' := #[.val (.int p1), .val (.int p2), .val (.int p3), .val (.int p4), .val (.int p5), .val (.int p6), .val (.int (p3 ^^^ p4)), .val (.int (p1 &&& (7 : Int32))), .val (.ref b7), .val (.int (0 : Int32)), .val (.int (0 : Int32)), .val (.int (0 : Int32)), .unset, .unset]) rfl ?_
    show Steps p.tables e below (T8.setTop (mkF m 29 #[.val (.int p1), .val (.int p2), .val (.int p3), .val (.int p4), .val (.int p5), .val (.int p6), .val (.int (p3 ^^^ p4)), .val (.int (p1 &&& (7 : Int32))), .val (.ref b7), .val (.int (0 : Int32)), .val (.int (0 : Int32)), .val (.int (0 : Int32)), .unset, .unset] [])) _
    refine XS.iload X8.here hx rfl (hb hby at_29) rfl ?_
    show Steps p.tables e below (T8.setTop (mkF m 31 #[.val (.int p1), .val (.int p2), .val (.int p3), .val (.int p4), .val (.int p5), .val (.int p6), .val (.int (p3 ^^^ p4)), .val (.int (p1 &&& (7 : Int32))), .val (.ref b7), .val (.int (0 : Int32)), .val (.int (0 : Int32)), .val (.int (0 : Int32)), .unset, .unset] [(.int (p1 &&& (7 : Int32)))])) _
    refine XS.ifYes X8.here hx rfl (pc0 := 31) (pc' := 40) rfl (hb hby at_31) rfl ((if0 _ _).trans (feq hc31).2) (by decide) (by decide) ?_
    show Steps p.tables e below (T8.setTop (mkF m 40 #[.val (.int p1), .val (.int p2), .val (.int p3), .val (.int p4), .val (.int p5), .val (.int p6), .val (.int (p3 ^^^ p4)), .val (.int (p1 &&& (7 : Int32))), .val (.ref b7), .val (.int (0 : Int32)), .val (.int (0 : Int32)), .val (.int (0 : Int32)), .unset, .unset] [])) _
    refine XS.iload X8.here hx rfl (hb hby at_40) rfl ?_
    show Steps p.tables e below (T8.setTop (mkF m 42 #[.val (.int p1), .val (.int p2), .val (.int p3), .val (.int p4), .val (.int p5), .val (.int p6), .val (.int (p3 ^^^ p4)), .val (.int (p1 &&& (7 : Int32))), .val (.ref b7), .val (.int (0 : Int32)), .val (.int (0 : Int32)), .val (.int (0 : Int32)), .unset, .unset] [(.int (p1 &&& (7 : Int32)))])) _
    refine XS.iconst X8.here hx rfl (hb hby at_42) ?_
    show Steps p.tables e below (T8.setTop (mkF m 43 #[.val (.int p1), .val (.int p2), .val (.int p3), .val (.int p4), .val (.int p5), .val (.int p6), .val (.int (p3 ^^^ p4)), .val (.int (p1 &&& (7 : Int32))), .val (.ref b7), .val (.int (0 : Int32)), .val (.int (0 : Int32)), .val (.int (0 : Int32)), .unset, .unset] [(.int (1 : Int32)), (.int (p1 &&& (7 : Int32)))])) _
    refine XS.icmpYes X8.here hx rfl (pc0 := 43) (pc' := 65) rfl (hb hby at_43) rfl (feq hc43).2 (by decide) (by decide) ?_
    show Steps p.tables e below (T8.setTop (mkF m 65 #[.val (.int p1), .val (.int p2), .val (.int p3), .val (.int p4), .val (.int p5), .val (.int p6), .val (.int (p3 ^^^ p4)), .val (.int (p1 &&& (7 : Int32))), .val (.ref b7), .val (.int (0 : Int32)), .val (.int (0 : Int32)), .val (.int (0 : Int32)), .unset, .unset] [])) _
    refine XS.iload X8.here hx rfl (hb hby at_65) rfl ?_
    show Steps p.tables e below (T8.setTop (mkF m 67 #[.val (.int p1), .val (.int p2), .val (.int p3), .val (.int p4), .val (.int p5), .val (.int p6), .val (.int (p3 ^^^ p4)), .val (.int (p1 &&& (7 : Int32))), .val (.ref b7), .val (.int (0 : Int32)), .val (.int (0 : Int32)), .val (.int (0 : Int32)), .unset, .unset] [(.int (p1 &&& (7 : Int32)))])) _
    refine XS.iconst X8.here hx rfl (hb hby at_67) ?_
    show Steps p.tables e below (T8.setTop (mkF m 68 #[.val (.int p1), .val (.int p2), .val (.int p3), .val (.int p4), .val (.int p5), .val (.int p6), .val (.int (p3 ^^^ p4)), .val (.int (p1 &&& (7 : Int32))), .val (.ref b7), .val (.int (0 : Int32)), .val (.int (0 : Int32)), .val (.int (0 : Int32)), .unset, .unset] [(.int (2 : Int32)), (.int (p1 &&& (7 : Int32)))])) _
    refine XS.icmpYes X8.here hx rfl (pc0 := 68) (pc' := 98) rfl (hb hby at_68) rfl (feq hc68).2 (by decide) (by decide) ?_
    show Steps p.tables e below (T8.setTop (mkF m 98 #[.val (.int p1), .val (.int p2), .val (.int p3), .val (.int p4), .val (.int p5), .val (.int p6), .val (.int (p3 ^^^ p4)), .val (.int (p1 &&& (7 : Int32))), .val (.ref b7), .val (.int (0 : Int32)), .val (.int (0 : Int32)), .val (.int (0 : Int32)), .unset, .unset] [])) _
    refine XS.iload X8.here hx rfl (hb hby at_98) rfl ?_
    show Steps p.tables e below (T8.setTop (mkF m 100 #[.val (.int p1), .val (.int p2), .val (.int p3), .val (.int p4), .val (.int p5), .val (.int p6), .val (.int (p3 ^^^ p4)), .val (.int (p1 &&& (7 : Int32))), .val (.ref b7), .val (.int (0 : Int32)), .val (.int (0 : Int32)), .val (.int (0 : Int32)), .unset, .unset] [(.int (p1 &&& (7 : Int32)))])) _
    refine XS.iconst X8.here hx rfl (hb hby at_100) ?_
    show Steps p.tables e below (T8.setTop (mkF m 101 #[.val (.int p1), .val (.int p2), .val (.int p3), .val (.int p4), .val (.int p5), .val (.int p6), .val (.int (p3 ^^^ p4)), .val (.int (p1 &&& (7 : Int32))), .val (.ref b7), .val (.int (0 : Int32)), .val (.int (0 : Int32)), .val (.int (0 : Int32)), .unset, .unset] [(.int (3 : Int32)), (.int (p1 &&& (7 : Int32)))])) _
    refine XS.icmpYes X8.here hx rfl (pc0 := 101) (pc' := 137) rfl (hb hby at_101) rfl (feq hc101).2 (by decide) (by decide) ?_
    show Steps p.tables e below (T8.setTop (mkF m 137 #[.val (.int p1), .val (.int p2), .val (.int p3), .val (.int p4), .val (.int p5), .val (.int p6), .val (.int (p3 ^^^ p4)), .val (.int (p1 &&& (7 : Int32))), .val (.ref b7), .val (.int (0 : Int32)), .val (.int (0 : Int32)), .val (.int (0 : Int32)), .unset, .unset] [])) _
    refine XS.iload X8.here hx rfl (hb hby at_137) rfl ?_
    show Steps p.tables e below (T8.setTop (mkF m 139 #[.val (.int p1), .val (.int p2), .val (.int p3), .val (.int p4), .val (.int p5), .val (.int p6), .val (.int (p3 ^^^ p4)), .val (.int (p1 &&& (7 : Int32))), .val (.ref b7), .val (.int (0 : Int32)), .val (.int (0 : Int32)), .val (.int (0 : Int32)), .unset, .unset] [(.int (p1 &&& (7 : Int32)))])) _
    refine XS.iconst X8.here hx rfl (hb hby at_139) ?_
    show Steps p.tables e below (T8.setTop (mkF m 140 #[.val (.int p1), .val (.int p2), .val (.int p3), .val (.int p4), .val (.int p5), .val (.int p6), .val (.int (p3 ^^^ p4)), .val (.int (p1 &&& (7 : Int32))), .val (.ref b7), .val (.int (0 : Int32)), .val (.int (0 : Int32)), .val (.int (0 : Int32)), .unset, .unset] [(.int (4 : Int32)), (.int (p1 &&& (7 : Int32)))])) _
    refine XS.icmpYes X8.here hx rfl (pc0 := 140) (pc' := 161) rfl (hb hby at_140) rfl (feq hc140).2 (by decide) (by decide) ?_
    show Steps p.tables e below (T8.setTop (mkF m 161 #[.val (.int p1), .val (.int p2), .val (.int p3), .val (.int p4), .val (.int p5), .val (.int p6), .val (.int (p3 ^^^ p4)), .val (.int (p1 &&& (7 : Int32))), .val (.ref b7), .val (.int (0 : Int32)), .val (.int (0 : Int32)), .val (.int (0 : Int32)), .unset, .unset] [])) _
    refine XS.iload X8.here hx rfl (hb hby at_161) rfl ?_
    show Steps p.tables e below (T8.setTop (mkF m 163 #[.val (.int p1), .val (.int p2), .val (.int p3), .val (.int p4), .val (.int p5), .val (.int p6), .val (.int (p3 ^^^ p4)), .val (.int (p1 &&& (7 : Int32))), .val (.ref b7), .val (.int (0 : Int32)), .val (.int (0 : Int32)), .val (.int (0 : Int32)), .unset, .unset] [(.int (p1 &&& (7 : Int32)))])) _
    refine XS.iconst X8.here hx rfl (hb hby at_163) ?_
    show Steps p.tables e below (T8.setTop (mkF m 164 #[.val (.int p1), .val (.int p2), .val (.int p3), .val (.int p4), .val (.int p5), .val (.int p6), .val (.int (p3 ^^^ p4)), .val (.int (p1 &&& (7 : Int32))), .val (.ref b7), .val (.int (0 : Int32)), .val (.int (0 : Int32)), .val (.int (0 : Int32)), .unset, .unset] [(.int (5 : Int32)), (.int (p1 &&& (7 : Int32)))])) _
    refine XS.icmpNo X8.here hx rfl (hb hby at_164) rfl (teq hc164).2 ?_
    show Steps p.tables e below (T8.setTop (mkF m 167 #[.val (.int p1), .val (.int p2), .val (.int p3), .val (.int p4), .val (.int p5), .val (.int p6), .val (.int (p3 ^^^ p4)), .val (.int (p1 &&& (7 : Int32))), .val (.ref b7), .val (.int (0 : Int32)), .val (.int (0 : Int32)), .val (.int (0 : Int32)), .unset, .unset] [])) _
    refine XS.aload X8.here hx rfl (hb hby at_167) rfl rfl ?_
    show Steps p.tables e below (T8.setTop (mkF m 169 #[.val (.int p1), .val (.int p2), .val (.int p3), .val (.int p4), .val (.int p5), .val (.int p6), .val (.int (p3 ^^^ p4)), .val (.int (p1 &&& (7 : Int32))), .val (.ref b7), .val (.int (0 : Int32)), .val (.int (0 : Int32)), .val (.int (0 : Int32)), .unset, .unset] [(.ref b7)])) _
    refine XS.iloadN X8.here hx rfl (hb hby at_169) rfl ?_
    show Steps p.tables e below (T8.setTop (mkF m 170 #[.val (.int p1), .val (.int p2), .val (.int p3), .val (.int p4), .val (.int p5), .val (.int p6), .val (.int (p3 ^^^ p4)), .val (.int (p1 &&& (7 : Int32))), .val (.ref b7), .val (.int (0 : Int32)), .val (.int (0 : Int32)), .val (.int (0 : Int32)), .unset, .unset] [(.int p2), (.ref b7)])) _
    refine XS.iloadN X8.here hx rfl (hb hby at_170) rfl ?_
    show Steps p.tables e below (T8.setTop (mkF m 171 #[.val (.int p1), .val (.int p2), .val (.int p3), .val (.int p4), .val (.int p5), .val (.int p6), .val (.int (p3 ^^^ p4)), .val (.int (p1 &&& (7 : Int32))), .val (.ref b7), .val (.int (0 : Int32)), .val (.int (0 : Int32)), .val (.int (0 : Int32)), .unset, .unset] [(.int p3), (.int p2), (.ref b7)])) _
    refine st9.trans ?_
    show Steps p.tables e below (T9.setTop (mkF m 174 #[.val (.int p1), .val (.int p2), .val (.int p3), .val (.int p4), .val (.int p5), .val (.int p6), .val (.int (p3 ^^^ p4)), .val (.int (p1 &&& (7 : Int32))), .val (.ref b7), .val (.int (0 : Int32)), .val (.int (0 : Int32)), .val (.int (0 : Int32)), .unset, .unset] [])) _
    refine XS.aload X9.here hx rfl (hb hby at_174) rfl rfl ?_
    show Steps p.tables e below (T9.setTop (mkF m 176 #[.val (.int p1), .val (.int p2), .val (.int p3), .val (.int p4), .val (.int p5), .val (.int p6), .val (.int (p3 ^^^ p4)), .val (.int (p1 &&& (7 : Int32))), .val (.ref b7), .val (.int (0 : Int32)), .val (.int (0 : Int32)), .val (.int (0 : Int32)), .unset, .unset] [(.ref b7)])) _
    refine st10.trans ?_
    show Steps p.tables e below (T10.setTop (mkF m 179 #[.val (.int p1), .val (.int p2), .val (.int p3), .val (.int p4), .val (.int p5), .val (.int p6), .val (.int (p3 ^^^ p4)), .val (.int (p1 &&& (7 : Int32))), .val (.ref b7), .val (.int (0 : Int32)), .val (.int (0 : Int32)), .val (.int (0 : Int32)), .unset, .unset] [])) _
    refine XS.aload X10.here hx rfl (hb hby at_179) rfl rfl ?_
    show Steps p.tables e below (T10.setTop (mkF m 181 #[.val (.int p1), .val (.int p2), .val (.int p3), .val (.int p4), .val (.int p5), .val (.int p6), .val (.int (p3 ^^^ p4)), .val (.int (p1 &&& (7 : Int32))), .val (.ref b7), .val (.int (0 : Int32)), .val (.int (0 : Int32)), .val (.int (0 : Int32)), .unset, .unset] [(.ref b7)])) _
    refine XS.iloadN X10.here hx rfl (hb hby at_181) rfl ?_
    show Steps p.tables e below (T10.setTop (mkF m 182 #[.val (.int p1), .val (.int p2), .val (.int p3), .val (.int p4), .val (.int p5), .val (.int p6), .val (.int (p3 ^^^ p4)), .val (.int (p1 &&& (7 : Int32))), .val (.ref b7), .val (.int (0 : Int32)), .val (.int (0 : Int32)), .val (.int (0 : Int32)), .unset, .unset] [(.int p4), (.ref b7)])) _
    refine XS.iload X10.here hx rfl (hb hby at_182) rfl ?_
    show Steps p.tables e below (T10.setTop (mkF m 184 #[.val (.int p1), .val (.int p2), .val (.int p3), .val (.int p4), .val (.int p5), .val (.int p6), .val (.int (p3 ^^^ p4)), .val (.int (p1 &&& (7 : Int32))), .val (.ref b7), .val (.int (0 : Int32)), .val (.int (0 : Int32)), .val (.int (0 : Int32)), .unset, .unset] [(.int (p3 ^^^ p4)), (.int p4), (.ref b7)])) _
    refine st11.trans ?_
    show Steps p.tables e below (T11.setTop (mkF m 187 #[.val (.int p1), .val (.int p2), .val (.int p3), .val (.int p4), .val (.int p5), .val (.int p6), .val (.int (p3 ^^^ p4)), .val (.int (p1 &&& (7 : Int32))), .val (.ref b7), .val (.int (0 : Int32)), .val (.int (0 : Int32)), .val (.int (0 : Int32)), .unset, .unset] [])) _
    refine XS.iconst X11.here hx rfl (hb hby at_187) ?_
    show Steps p.tables e below (T11.setTop (mkF m 188 #[.val (.int p1), .val (.int p2), .val (.int p3), .val (.int p4), .val (.int p5), .val (.int p6), .val (.int (p3 ^^^ p4)), .val (.int (p1 &&& (7 : Int32))), .val (.ref b7), .val (.int (0 : Int32)), .val (.int (0 : Int32)), .val (.int (0 : Int32)), .unset, .unset] [(.int (1 : Int32))])) _
    refine XS.istore X11.here hx rfl (hb hby at_188) rfl (l' := #[.val (.int p1), .val (.int p2), .val (.int p3), .val (.int p4), .val (.int p5), .val (.int p6), .val (.int (p3 ^^^ p4)), .val (.int (p1 &&& (7 : Int32))), .val (.ref b7), .val (.int (1 : Int32)), .val (.int (0 : Int32)), .val (.int (0 : Int32)), .unset, .unset]) rfl ?_
    show Steps p.tables e below (T11.setTop (mkF m 190 #[.val (.int p1), .val (.int p2), .val (.int p3), .val (.int p4), .val (.int p5), .val (.int p6), .val (.int (p3 ^^^ p4)), .val (.int (p1 &&& (7 : Int32))), .val (.ref b7), .val (.int (1 : Int32)), .val (.int (0 : Int32)), .val (.int (0 : Int32)), .unset, .unset] [])) _
    refine XS.iloadN X11.here hx rfl (hb hby at_190) rfl ?_
    show Steps p.tables e below (T11.setTop (mkF m 191 #[.val (.int p1), .val (.int p2), .val (.int p3), .val (.int p4), .val (.int p5), .val (.int p6), .val (.int (p3 ^^^ p4)), .val (.int (p1 &&& (7 : Int32))), .val (.ref b7), .val (.int (1 : Int32)), .val (.int (0 : Int32)), .val (.int (0 : Int32)), .unset, .unset] [(.int p4)])) _
    refine XS.istore X11.here hx rfl (hb hby at_191) rfl (l' := #[.val (.int p1), .val (.int p2), .val (.int p3), .val (.int p4), .val (.int p5), .val (.int p6), .val (.int (p3 ^^^ p4)), .val (.int (p1 &&& (7 : Int32))), .val (.ref b7), .val (.int (1 : Int32)), .val (.int p4), .val (.int (0 : Int32)), .unset, .unset]) rfl ?_
    show Steps p.tables e below (T11.setTop (mkF m 193 #[.val (.int p1), .val (.int p2), .val (.int p3), .val (.int p4), .val (.int p5), .val (.int p6), .val (.int (p3 ^^^ p4)), .val (.int (p1 &&& (7 : Int32))), .val (.ref b7), .val (.int (1 : Int32)), .val (.int p4), .val (.int (0 : Int32)), .unset, .unset] [])) _
    refine XS.iload X11.here hx rfl (hb hby at_193) rfl ?_
    show Steps p.tables e below (T11.setTop (mkF m 195 #[.val (.int p1), .val (.int p2), .val (.int p3), .val (.int p4), .val (.int p5), .val (.int p6), .val (.int (p3 ^^^ p4)), .val (.int (p1 &&& (7 : Int32))), .val (.ref b7), .val (.int (1 : Int32)), .val (.int p4), .val (.int (0 : Int32)), .unset, .unset] [(.int (p3 ^^^ p4))])) _
    refine XS.istore X11.here hx rfl (hb hby at_195) rfl (l' := #[.val (.int p1), .val (.int p2), .val (.int p3), .val (.int p4), .val (.int p5), .val (.int p6), .val (.int (p3 ^^^ p4)), .val (.int (p1 &&& (7 : Int32))), .val (.ref b7), .val (.int (1 : Int32)), .val (.int p4), .val (.int (p3 ^^^ p4)), .unset, .unset]) rfl ?_
    show Steps p.tables e below (T11.setTop (mkF m 197 #[.val (.int p1), .val (.int p2), .val (.int p3), .val (.int p4), .val (.int p5), .val (.int p6), .val (.int (p3 ^^^ p4)), .val (.int (p1 &&& (7 : Int32))), .val (.ref b7), .val (.int (1 : Int32)), .val (.int p4), .val (.int (p3 ^^^ p4)), .unset, .unset] [])) _
    refine XS.goto X11.here hx rfl (pc0 := 197) (pc' := 275) rfl (hb hby at_197) (by decide) (by decide) ?_
    show Steps p.tables e below (T11.setTop (mkF m 275 #[.val (.int p1), .val (.int p2), .val (.int p3), .val (.int p4), .val (.int p5), .val (.int p6), .val (.int (p3 ^^^ p4)), .val (.int (p1 &&& (7 : Int32))), .val (.ref b7), .val (.int (1 : Int32)), .val (.int p4), .val (.int (p3 ^^^ p4)), .unset, .unset] [])) _
    refine XS.aload X11.here hx rfl (hb hby at_275) rfl rfl ?_
    show Steps p.tables e below (T11.setTop (mkF m 277 #[.val (.int p1), .val (.int p2), .val (.int p3), .val (.int p4), .val (.int p5), .val (.int p6), .val (.int (p3 ^^^ p4)), .val (.int (p1 &&& (7 : Int32))), .val (.ref b7), .val (.int (1 : Int32)), .val (.int p4), .val (.int (p3 ^^^ p4)), .unset, .unset] [(.ref b7)])) _
    refine XS.iload X11.here hx rfl (hb hby at_277) rfl ?_
    show Steps p.tables e below (T11.setTop (mkF m 279 #[.val (.int p1), .val (.int p2), .val (.int p3), .val (.int p4), .val (.int p5), .val (.int p6), .val (.int (p3 ^^^ p4)), .val (.int (p1 &&& (7 : Int32))), .val (.ref b7), .val (.int (1 : Int32)), .val (.int p4), .val (.int (p3 ^^^ p4)), .unset, .unset] [(.int p5), (.ref b7)])) _
    refine XS.iload X11.here hx rfl (hb hby at_279) rfl ?_
    show Steps p.tables e below (T11.setTop (mkF m 281 #[.val (.int p1), .val (.int p2), .val (.int p3), .val (.int p4), .val (.int p5), .val (.int p6), .val (.int (p3 ^^^ p4)), .val (.int (p1 &&& (7 : Int32))), .val (.ref b7), .val (.int (1 : Int32)), .val (.int p4), .val (.int (p3 ^^^ p4)), .unset, .unset] [(.int p6), (.int p5), (.ref b7)])) _
    refine st12.trans ?_
    show Steps p.tables e below (T12.setTop (mkF m 284 #[.val (.int p1), .val (.int p2), .val (.int p3), .val (.int p4), .val (.int p5), .val (.int p6), .val (.int (p3 ^^^ p4)), .val (.int (p1 &&& (7 : Int32))), .val (.ref b7), .val (.int (1 : Int32)), .val (.int p4), .val (.int (p3 ^^^ p4)), .unset, .unset] [(.int (own_fb (0 : Int32) (1 : Int32) p4 (p3 ^^^ p4) p5 p6))])) _
    refine XS.istore X12.here hx rfl (hb hby at_284) rfl (l' := #[.val (.int p1), .val (.int p2), .val (.int p3), .val (.int p4), .val (.int p5), .val (.int p6), .val (.int (p3 ^^^ p4)), .val (.int (p1 &&& (7 : Int32))), .val (.ref b7), .val (.int (1 : Int32)), .val (.int p4), .val (.int (p3 ^^^ p4)), .val (.int (own_fb (0 : Int32) (1 : Int32) p4 (p3 ^^^ p4) p5 p6)), .unset]) rfl ?_
    show Steps p.tables e below (T12.setTop (mkF m 286 #[.val (.int p1), .val (.int p2), .val (.int p3), .val (.int p4), .val (.int p5), .val (.int p6), .val (.int (p3 ^^^ p4)), .val (.int (p1 &&& (7 : Int32))), .val (.ref b7), .val (.int (1 : Int32)), .val (.int p4), .val (.int (p3 ^^^ p4)), .val (.int (own_fb (0 : Int32) (1 : Int32) p4 (p3 ^^^ p4) p5 p6)), .unset] [])) _
    refine XS.iload X12.here hx rfl (hb hby at_286) rfl ?_
    show Steps p.tables e below (T12.setTop (mkF m 288 #[.val (.int p1), .val (.int p2), .val (.int p3), .val (.int p4), .val (.int p5), .val (.int p6), .val (.int (p3 ^^^ p4)), .val (.int (p1 &&& (7 : Int32))), .val (.ref b7), .val (.int (1 : Int32)), .val (.int p4), .val (.int (p3 ^^^ p4)), .val (.int (own_fb (0 : Int32) (1 : Int32) p4 (p3 ^^^ p4) p5 p6)), .unset] [(.int (1 : Int32))])) _
    refine XS.ifNo X12.here hx rfl (hb hby at_288) rfl ((if0 _ _).trans (feq hc288).1) ?_
    show Steps p.tables e below (T12.setTop (mkF m 291 #[.val (.int p1), .val (.int p2), .val (.int p3), .val (.int p4), .val (.int p5), .val (.int p6), .val (.int (p3 ^^^ p4)), .val (.int (p1 &&& (7 : Int32))), .val (.ref b7), .val (.int (1 : Int32)), .val (.int p4), .val (.int (p3 ^^^ p4)), .val (.int (own_fb (0 : Int32) (1 : Int32) p4 (p3 ^^^ p4) p5 p6)), .unset] [])) _
    refine XS.iload X12.here hx rfl (hb hby at_291) rfl ?_
    show Steps p.tables e below (T12.setTop (mkF m 293 #[.val (.int p1), .val (.int p2), .val (.int p3), .val (.int p4), .val (.int p5), .val (.int p6), .val (.int (p3 ^^^ p4)), .val (.int (p1 &&& (7 : Int32))), .val (.ref b7), .val (.int (1 : Int32)), .val (.int p4), .val (.int (p3 ^^^ p4)), .val (.int (own_fb (0 : Int32) (1 : Int32) p4 (p3 ^^^ p4) p5 p6)), .unset] [(.int p4)])) _
    refine XS.iload X12.here hx rfl (hb hby at_293) rfl ?_
    show Steps p.tables e below (T12.setTop (mkF m 295 #[.val (.int p1), .val (.int p2), .val (.int p3), .val (.int p4), .val (.int p5), .val (.int p6), .val (.int (p3 ^^^ p4)), .val (.int (p1 &&& (7 : Int32))), .val (.ref b7), .val (.int (1 : Int32)), .val (.int p4), .val (.int (p3 ^^^ p4)), .val (.int (own_fb (0 : Int32) (1 : Int32) p4 (p3 ^^^ p4) p5 p6)), .unset] [(.int (p3 ^^^ p4)), (.int p4)])) _
    refine st13 _ ?_
    show Steps p.tables e below (T13.setTop (mkF m 298 #[.val (.int p1), .val (.int p2), .val (.int p3), .val (.int p4), .val (.int p5), .val (.int p6), .val (.int (p3 ^^^ p4)), .val (.int (p1 &&& (7 : Int32))), .val (.ref b7), .val (.int (1 : Int32)), .val (.int p4), .val (.int (p3 ^^^ p4)), .val (.int (own_fb (0 : Int32) (1 : Int32) p4 (p3 ^^^ p4) p5 p6)), .unset] [(.long (own_key p4 (p3 ^^^ p4)))])) _
    refine XS.iload X13.here hx rfl (hb hby at_298) rfl ?_
    show Steps p.tables e below (T13.setTop (mkF m 300 #[.val (.int p1), .val (.int p2), .val (.int p3), .val (.int p4), .val (.int p5), .val (.int p6), .val (.int (p3 ^^^ p4)), .val (.int (p1 &&& (7 : Int32))), .val (.ref b7), .val (.int (1 : Int32)), .val (.int p4), .val (.int (p3 ^^^ p4)), .val (.int (own_fb (0 : Int32) (1 : Int32) p4 (p3 ^^^ p4) p5 p6)), .unset] [(.int p5), (.long (own_key p4 (p3 ^^^ p4)))])) _
    refine XS.iload X13.here hx rfl (hb hby at_300) rfl ?_
    show Steps p.tables e below (T13.setTop (mkF m 302 #[.val (.int p1), .val (.int p2), .val (.int p3), .val (.int p4), .val (.int p5), .val (.int p6), .val (.int (p3 ^^^ p4)), .val (.int (p1 &&& (7 : Int32))), .val (.ref b7), .val (.int (1 : Int32)), .val (.int p4), .val (.int (p3 ^^^ p4)), .val (.int (own_fb (0 : Int32) (1 : Int32) p4 (p3 ^^^ p4) p5 p6)), .unset] [(.int p6), (.int p5), (.long (own_key p4 (p3 ^^^ p4)))])) _
    refine st14 _ ?_
    show Steps p.tables e below (T14.setTop (mkF m 305 #[.val (.int p1), .val (.int p2), .val (.int p3), .val (.int p4), .val (.int p5), .val (.int p6), .val (.int (p3 ^^^ p4)), .val (.int (p1 &&& (7 : Int32))), .val (.ref b7), .val (.int (1 : Int32)), .val (.int p4), .val (.int (p3 ^^^ p4)), .val (.int (own_fb (0 : Int32) (1 : Int32) p4 (p3 ^^^ p4) p5 p6)), .unset] [(.long (own_key p5 p6)), (.long (own_key p4 (p3 ^^^ p4)))])) _
    refine XS.lcmp X14.here hx rfl (hb hby at_305) rfl ?_
    show Steps p.tables e below (T14.setTop (mkF m 306 #[.val (.int p1), .val (.int p2), .val (.int p3), .val (.int p4), .val (.int p5), .val (.int p6), .val (.int (p3 ^^^ p4)), .val (.int (p1 &&& (7 : Int32))), .val (.ref b7), .val (.int (1 : Int32)), .val (.int p4), .val (.int (p3 ^^^ p4)), .val (.int (own_fb (0 : Int32) (1 : Int32) p4 (p3 ^^^ p4) p5 p6)), .unset] [(.int (lcmpW (own_key p4 (p3 ^^^ p4)) (own_key p5 p6)))])) _
    by_cases hlt : (lcmpW (own_key p4 (p3 ^^^ p4)) (own_key p5 p6)) < (0 : Int32)
    · refine XS.ifNo X14.here hx rfl (hb hby at_306) rfl ((if0 _ _).trans (tlt (hlt : (lcmpW (own_key p4 (p3 ^^^ p4)) (own_key p5 p6)) < (0 : Int32))).2.1) ?_
      show Steps p.tables e below (T14.setTop (mkF m 309 #[.val (.int p1), .val (.int p2), .val (.int p3), .val (.int p4), .val (.int p5), .val (.int p6), .val (.int (p3 ^^^ p4)), .val (.int (p1 &&& (7 : Int32))), .val (.ref b7), .val (.int (1 : Int32)), .val (.int p4), .val (.int (p3 ^^^ p4)), .val (.int (own_fb (0 : Int32) (1 : Int32) p4 (p3 ^^^ p4) p5 p6)), .unset] [])) _
      refine XS.iconst X14.here hx rfl (hb hby at_309) ?_
      show Steps p.tables e below (T14.setTop (mkF m 310 #[.val (.int p1), .val (.int p2), .val (.int p3), .val (.int p4), .val (.int p5), .val (.int p6), .val (.int (p3 ^^^ p4)), .val (.int (p1 &&& (7 : Int32))), .val (.ref b7), .val (.int (1 : Int32)), .val (.int p4), .val (.int (p3 ^^^ p4)), .val (.int (own_fb (0 : Int32) (1 : Int32) p4 (p3 ^^^ p4) p5 p6)), .unset] [(.int (1 : Int32))])) _
      refine XS.goto X14.here hx rfl (pc0 := 310) (pc' := 314) rfl (hb hby at_310) (by decide) (by decide) ?_
      show Steps p.tables e below (T14.setTop (mkF m 314 #[.val (.int p1), .val (.int p2), .val (.int p3), .val (.int p4), .val (.int p5), .val (.int p6), .val (.int (p3 ^^^ p4)), .val (.int (p1 &&& (7 : Int32))), .val (.ref b7), .val (.int (1 : Int32)), .val (.int p4), .val (.int (p3 ^^^ p4)), .val (.int (own_fb (0 : Int32) (1 : Int32) p4 (p3 ^^^ p4) p5 p6)), .unset] [(.int (1 : Int32))])) _
      refine XS.istore X14.here hx rfl (hb hby at_314) rfl (l' := #[.val (.int p1), .val (.int p2), .val (.int p3), .val (.int p4), .val (.int p5), .val (.int p6), .val (.int (p3 ^^^ p4)), .val (.int (p1 &&& (7 : Int32))), .val (.ref b7), .val (.int (1 : Int32)), .val (.int p4), .val (.int (p3 ^^^ p4)), .val (.int (own_fb (0 : Int32) (1 : Int32) p4 (p3 ^^^ p4) p5 p6)), .val (.int (1 : Int32))]) rfl ?_
      show Steps p.tables e below (T14.setTop (mkF m 316 #[.val (.int p1), .val (.int p2), .val (.int p3), .val (.int p4), .val (.int p5), .val (.int p6), .val (.int (p3 ^^^ p4)), .val (.int (p1 &&& (7 : Int32))), .val (.ref b7), .val (.int (1 : Int32)), .val (.int p4), .val (.int (p3 ^^^ p4)), .val (.int (own_fb (0 : Int32) (1 : Int32) p4 (p3 ^^^ p4) p5 p6)), .val (.int (1 : Int32))] [])) _
      refine XS.iload X14.here hx rfl (hb hby at_316) rfl ?_
      show Steps p.tables e below (T14.setTop (mkF m 318 #[.val (.int p1), .val (.int p2), .val (.int p3), .val (.int p4), .val (.int p5), .val (.int p6), .val (.int (p3 ^^^ p4)), .val (.int (p1 &&& (7 : Int32))), .val (.ref b7), .val (.int (1 : Int32)), .val (.int p4), .val (.int (p3 ^^^ p4)), .val (.int (own_fb (0 : Int32) (1 : Int32) p4 (p3 ^^^ p4) p5 p6)), .val (.int (1 : Int32))] [(.int (own_fb (0 : Int32) (1 : Int32) p4 (p3 ^^^ p4) p5 p6))])) _
      refine XS.iload X14.here hx rfl (hb hby at_318) rfl ?_
      show Steps p.tables e below (T14.setTop (mkF m 320 #[.val (.int p1), .val (.int p2), .val (.int p3), .val (.int p4), .val (.int p5), .val (.int p6), .val (.int (p3 ^^^ p4)), .val (.int (p1 &&& (7 : Int32))), .val (.ref b7), .val (.int (1 : Int32)), .val (.int p4), .val (.int (p3 ^^^ p4)), .val (.int (own_fb (0 : Int32) (1 : Int32) p4 (p3 ^^^ p4) p5 p6)), .val (.int (1 : Int32))] [(.int (1 : Int32)), (.int (own_fb (0 : Int32) (1 : Int32) p4 (p3 ^^^ p4) p5 p6))])) _
      refine XS.icmpNo X14.here hx rfl (hb hby at_320) rfl (teq (own_yes (by decide) hlt : (own_fb (0 : Int32) (1 : Int32) p4 (p3 ^^^ p4) p5 p6) = (1 : Int32))).2 ?_
      show Steps p.tables e below (T14.setTop (mkF m 323 #[.val (.int p1), .val (.int p2), .val (.int p3), .val (.int p4), .val (.int p5), .val (.int p6), .val (.int (p3 ^^^ p4)), .val (.int (p1 &&& (7 : Int32))), .val (.ref b7), .val (.int (1 : Int32)), .val (.int p4), .val (.int (p3 ^^^ p4)), .val (.int (own_fb (0 : Int32) (1 : Int32) p4 (p3 ^^^ p4) p5 p6)), .val (.int (1 : Int32))] [])) _
      refine XS.iconst X14.here hx rfl (hb hby at_323) ?_
      show Steps p.tables e below (T14.setTop (mkF m 324 #[.val (.int p1), .val (.int p2), .val (.int p3), .val (.int p4), .val (.int p5), .val (.int p6), .val (.int (p3 ^^^ p4)), .val (.int (p1 &&& (7 : Int32))), .val (.ref b7), .val (.int (1 : Int32)), .val (.int p4), .val (.int (p3 ^^^ p4)), .val (.int (own_fb (0 : Int32) (1 : Int32) p4 (p3 ^^^ p4) p5 p6)), .val (.int (1 : Int32))] [(.int (1 : Int32))])) _
      refine XS.goto X14.here hx rfl (pc0 := 324) (pc' := 328) rfl (hb hby at_324) (by decide) (by decide) ?_
      show Steps p.tables e below (T14.setTop (mkF m 328 #[.val (.int p1), .val (.int p2), .val (.int p3), .val (.int p4), .val (.int p5), .val (.int p6), .val (.int (p3 ^^^ p4)), .val (.int (p1 &&& (7 : Int32))), .val (.ref b7), .val (.int (1 : Int32)), .val (.int p4), .val (.int (p3 ^^^ p4)), .val (.int (own_fb (0 : Int32) (1 : Int32) p4 (p3 ^^^ p4) p5 p6)), .val (.int (1 : Int32))] [(.int (1 : Int32))])) _
      exact retN X14 hx (t := .boolean) Bd.returns (by simp) (hb hby at_328) hr
    · refine XS.ifYes X14.here hx rfl (pc0 := 306) (pc' := 313) rfl (hb hby at_306) rfl ((if0 _ _).trans (flt (hlt : ¬ ((lcmpW (own_key p4 (p3 ^^^ p4)) (own_key p5 p6)) < (0 : Int32)))).2.1) (by decide) (by decide) ?_
      show Steps p.tables e below (T14.setTop (mkF m 313 #[.val (.int p1), .val (.int p2), .val (.int p3), .val (.int p4), .val (.int p5), .val (.int p6), .val (.int (p3 ^^^ p4)), .val (.int (p1 &&& (7 : Int32))), .val (.ref b7), .val (.int (1 : Int32)), .val (.int p4), .val (.int (p3 ^^^ p4)), .val (.int (own_fb (0 : Int32) (1 : Int32) p4 (p3 ^^^ p4) p5 p6)), .unset] [])) _
      refine XS.iconst X14.here hx rfl (hb hby at_313) ?_
      show Steps p.tables e below (T14.setTop (mkF m 314 #[.val (.int p1), .val (.int p2), .val (.int p3), .val (.int p4), .val (.int p5), .val (.int p6), .val (.int (p3 ^^^ p4)), .val (.int (p1 &&& (7 : Int32))), .val (.ref b7), .val (.int (1 : Int32)), .val (.int p4), .val (.int (p3 ^^^ p4)), .val (.int (own_fb (0 : Int32) (1 : Int32) p4 (p3 ^^^ p4) p5 p6)), .unset] [(.int (0 : Int32))])) _
      refine XS.istore X14.here hx rfl (hb hby at_314) rfl (l' := #[.val (.int p1), .val (.int p2), .val (.int p3), .val (.int p4), .val (.int p5), .val (.int p6), .val (.int (p3 ^^^ p4)), .val (.int (p1 &&& (7 : Int32))), .val (.ref b7), .val (.int (1 : Int32)), .val (.int p4), .val (.int (p3 ^^^ p4)), .val (.int (own_fb (0 : Int32) (1 : Int32) p4 (p3 ^^^ p4) p5 p6)), .val (.int (0 : Int32))]) rfl ?_
      show Steps p.tables e below (T14.setTop (mkF m 316 #[.val (.int p1), .val (.int p2), .val (.int p3), .val (.int p4), .val (.int p5), .val (.int p6), .val (.int (p3 ^^^ p4)), .val (.int (p1 &&& (7 : Int32))), .val (.ref b7), .val (.int (1 : Int32)), .val (.int p4), .val (.int (p3 ^^^ p4)), .val (.int (own_fb (0 : Int32) (1 : Int32) p4 (p3 ^^^ p4) p5 p6)), .val (.int (0 : Int32))] [])) _
      refine XS.iload X14.here hx rfl (hb hby at_316) rfl ?_
      show Steps p.tables e below (T14.setTop (mkF m 318 #[.val (.int p1), .val (.int p2), .val (.int p3), .val (.int p4), .val (.int p5), .val (.int p6), .val (.int (p3 ^^^ p4)), .val (.int (p1 &&& (7 : Int32))), .val (.ref b7), .val (.int (1 : Int32)), .val (.int p4), .val (.int (p3 ^^^ p4)), .val (.int (own_fb (0 : Int32) (1 : Int32) p4 (p3 ^^^ p4) p5 p6)), .val (.int (0 : Int32))] [(.int (own_fb (0 : Int32) (1 : Int32) p4 (p3 ^^^ p4) p5 p6))])) _
      refine XS.iload X14.here hx rfl (hb hby at_318) rfl ?_
      show Steps p.tables e below (T14.setTop (mkF m 320 #[.val (.int p1), .val (.int p2), .val (.int p3), .val (.int p4), .val (.int p5), .val (.int p6), .val (.int (p3 ^^^ p4)), .val (.int (p1 &&& (7 : Int32))), .val (.ref b7), .val (.int (1 : Int32)), .val (.int p4), .val (.int (p3 ^^^ p4)), .val (.int (own_fb (0 : Int32) (1 : Int32) p4 (p3 ^^^ p4) p5 p6)), .val (.int (0 : Int32))] [(.int (0 : Int32)), (.int (own_fb (0 : Int32) (1 : Int32) p4 (p3 ^^^ p4) p5 p6))])) _
      refine XS.icmpNo X14.here hx rfl (hb hby at_320) rfl (teq (own_no (by decide) hlt : (own_fb (0 : Int32) (1 : Int32) p4 (p3 ^^^ p4) p5 p6) = (0 : Int32))).2 ?_
      show Steps p.tables e below (T14.setTop (mkF m 323 #[.val (.int p1), .val (.int p2), .val (.int p3), .val (.int p4), .val (.int p5), .val (.int p6), .val (.int (p3 ^^^ p4)), .val (.int (p1 &&& (7 : Int32))), .val (.ref b7), .val (.int (1 : Int32)), .val (.int p4), .val (.int (p3 ^^^ p4)), .val (.int (own_fb (0 : Int32) (1 : Int32) p4 (p3 ^^^ p4) p5 p6)), .val (.int (0 : Int32))] [])) _
      refine XS.iconst X14.here hx rfl (hb hby at_323) ?_
      show Steps p.tables e below (T14.setTop (mkF m 324 #[.val (.int p1), .val (.int p2), .val (.int p3), .val (.int p4), .val (.int p5), .val (.int p6), .val (.int (p3 ^^^ p4)), .val (.int (p1 &&& (7 : Int32))), .val (.ref b7), .val (.int (1 : Int32)), .val (.int p4), .val (.int (p3 ^^^ p4)), .val (.int (own_fb (0 : Int32) (1 : Int32) p4 (p3 ^^^ p4) p5 p6)), .val (.int (0 : Int32))] [(.int (1 : Int32))])) _
      refine XS.goto X14.here hx rfl (pc0 := 324) (pc' := 328) rfl (hb hby at_324) (by decide) (by decide) ?_
      show Steps p.tables e below (T14.setTop (mkF m 328 #[.val (.int p1), .val (.int p2), .val (.int p3), .val (.int p4), .val (.int p5), .val (.int p6), .val (.int (p3 ^^^ p4)), .val (.int (p1 &&& (7 : Int32))), .val (.ref b7), .val (.int (1 : Int32)), .val (.int p4), .val (.int (p3 ^^^ p4)), .val (.int (own_fb (0 : Int32) (1 : Int32) p4 (p3 ^^^ p4) p5 p6)), .val (.int (0 : Int32))] [(.int (1 : Int32))])) _
      exact retN X14 hx (t := .boolean) Bd.returns (by simp) (hb hby at_328) hr
  · show Q0 Z p1 p2 p3 p4 p5 p6 h0 n0 _ T14.heap _
    exact ⟨rfl, N14⟩
set_option maxRecDepth 65536 in
set_option maxHeartbeats 40000000 in
theorem rm0_6 (l : Launch) (Z : State) (a0 : Array Value) (hw : ∀ d ∈ tables_1, d.before a0 Z = true) (ws : List Jvm.Cond) (p1 : Int32) (p2 : Int32) (p3 : Int32) (p4 : Int32) (p5 : Int32) (p6 : Int32) (h0 : Heap) (n0 : Nat) (Z0 : n0 ≤ h0.size) (hc31 : ¬ ((p1 &&& (7 : Int32)) = (0 : Int32))) (hc43 : ¬ ((p1 &&& (7 : Int32)) = (1 : Int32))) (hc68 : ¬ ((p1 &&& (7 : Int32)) = (2 : Int32))) (hc101 : ¬ ((p1 &&& (7 : Int32)) = (3 : Int32))) (hc140 : ¬ ((p1 &&& (7 : Int32)) = (4 : Int32))) (hc164 : ¬ ((p1 &&& (7 : Int32)) = (5 : Int32))) (hc204 : (p1 &&& (7 : Int32)) = (6 : Int32)) :
    MetFree l x (head1 (Jvm.Cond.code x code maxLocals ret :: ws) room_1) (fun a U => a = #[(.int p1), (.int p2), (.int p3), (.int p4), (.int p5), (.int p6)] ∧ Z.Warmed39 U.vm ∧ U.heap = h0) (fun _ _ _ _ _ => True) (fun _ U o U' => ∃ v L, o = .returned v ∧ Q0 Z p1 p2 p3 p4 p5 p6 h0 n0 v U'.heap L ∧ FrameEnd U o U' L room_1.cells room_1.slots) := by
  refine MetFree.of_bodySF (plainFor_of_name pn_0) hisR ?_
  intro p e s m args below meth c s₁ Bd hml0 hP hK
  obtain ⟨rfl, hZ, hh⟩ := hP
  have hx := Bd.exec
  have hby := Bd.bytes
  have hml : c.maxLocals = 14 := hml0
  have hown : s.vm.findClass "overmark/NotedPlacesFirstBeforePinLaw" = some m.cls := findClass_of_methodNamed Bd.named
  have hnm := (name_of_methodNamed Bd.named Bd.method).1
  have X0 : Stand p l e room_1 s m #[(.int p1), (.int p2), (.int p3), (.int p4), (.int p5), (.int p6)] below meth c s₁ [] 0 0 := Stand.of_body Bd
  have e0 : s₁.heap = h0 := by rw [← hh, Bd.state]; rfl
  have N0 := Fr.nil n0
  have pre0 : ∀ t, Steps p.tables e below (s₁.setTop (mkF m 0 #[.val (.int p1), .val (.int p2), .val (.int p3), .val (.int p4), .val (.int p5), .val (.int p6), .unset, .unset, .unset, .unset, .unset, .unset, .unset, .unset] [])) t → Steps p.tables e below (s₁.setTop (entryFrame m #[(.int p1), (.int p2), (.int p3), (.int p4), (.int p5), (.int p6)] maxLocals)) t := fun t k => castTop (ef_0 m p1 p2 p3 p4 p5 p6) k
  obtain ⟨T7, h7, X7, e7, E7, A7, D7, -, st7⟩ := newO X0 hx hZ hown (hw _ (List.mem_of_getElem? (i := 0) rfl)) (hw _ (List.mem_of_getElem? (i := 1) rfl)) (hw _ (List.mem_of_getElem? (i := 2) rfl)) e0 (g := (mkF m 11 #[.val (.int p1), .val (.int p2), .val (.int p3), .val (.int p4), .val (.int p5), .val (.int p6), .val (.int (p3 ^^^ p4)), .val (.int (p1 &&& (7 : Int32))), .unset, .unset, .unset, .unset, .unset, .unset] [])) rfl (hb hby at_11) (by decide) (by decide)
  obtain ⟨b7, g7⟩ : ∃ z, z = h0.size := ⟨_, rfl⟩
  rw [← g7] at A7 D7 st7
  have F_lines_b7 : Fld Z h7 b7 "overmark/NotedPlaces" "lines" "[I" .null := D7 (Or.inl (hw _ (List.mem_of_getElem? (i := 11) rfl))) (ty := (.array .int)) (by decide)
  have F_columns_b7 : Fld Z h7 b7 "overmark/NotedPlaces" "columns" "[I" .null := D7 (Or.inl (hw _ (List.mem_of_getElem? (i := 13) rfl))) (ty := (.array .int)) (by decide)
  have F_labels_b7 : Fld Z h7 b7 "overmark/NotedPlaces" "labels" "[Ljava/lang/String;" .null := D7 (Or.inl (hw _ (List.mem_of_getElem? (i := 17) rfl))) (ty := (.array (.object "java/lang/String"))) (by decide)
  have F_first_b7 : Fld Z h7 b7 "overmark/NotedPlaces" "first" "I" (.int (0 : Int32)) := D7 (Or.inl (hw _ (List.mem_of_getElem? (i := 24) rfl))) (ty := .int) (by decide)
  have F_end_b7 : Fld Z h7 b7 "overmark/NotedPlaces" "end" "I" (.int (0 : Int32)) := D7 (Or.inl (hw _ (List.mem_of_getElem? (i := 26) rfl))) (ty := .int) (by decide)
  have E_b7 := A7
  have g_b7 : n0 ≤ b7 := Nat.le_trans Z0 (Nat.le_of_eq g7.symm)
  have sz_b7 : h0.size ≤ b7 := (Nat.le_trans (Keep.refl h0 []).1 (Nat.le_of_eq g7.symm))
  have K7 : Keep h0 h7 [] := (Keep.refl h0 []).ext E7
  obtain ⟨_, _, ⟨T8, L8, k8, n8⟩, -, X8, ⟨Lc8, hQ8, l8, y8, z8⟩, st8⟩ := X7.specialBack hx (y := (⟨"overmark/NotedPlaces", "<init>", "()V"⟩ : MethodName)) rfl hown (mvT hZ (hw _ (List.mem_of_getElem? (i := 3) rfl))) (mvT hZ (hw _ (List.mem_of_getElem? (i := 4) rfl))) (mvT hZ (hw _ (List.mem_of_getElem? (i := 5) rfl))) (by decide) (backOf (W := 1) (rm1 l Z a0 hw [] b7 .null .null .null h7 n0 (Nat.le_trans Z0 E7.1) E_b7 F_lines_b7 g_b7 F_columns_b7 F_labels_b7 F_first_b7 F_end_b7) hZ (hw _ (List.mem_of_getElem? (i := 5) rfl)) (hw _ (List.mem_of_getElem? (i := 2) rfl)) (by decide) (by decide)) (g := (mkF m 15 #[.val (.int p1), .val (.int p2), .val (.int p3), .val (.int p4), .val (.int p5), .val (.int p6), .val (.int (p3 ^^^ p4)), .val (.int (p1 &&& (7 : Int32))), .unset, .unset, .unset, .unset, .unset, .unset] [(.ref b7), (.ref b7)])) rfl (by rw [hml]; rfl) (Steps.refl _) (a := b7) (argsL := []) (rest := [(.ref b7)]) (lenOf pd_0_0 rfl) rfl (by show 2 * 0 + _ ≤ _; exact Nat.le_of_eq rfl) (hb hby at_15) (fun _ _ => ⟨rfl, e7, (by decide : 1 + 3 ≤ _), (by decide : 5 + 3072 ≤ _)⟩)
  dsimp only [Pt.U, Pt.locs, Pt.cells, Pt.slots] at X8 l8 y8 z8 st8 hQ8
  subst l8 y8 z8
  obtain ⟨rfl, N8q, hs8, np8⟩ := hQ8
  have Z8 : n0 ≤ T8.heap.size := Nat.le_trans (Nat.le_trans Z0 E7.1) hs8
  have N8 := Fr.app N0 N8q
  obtain ⟨cq9, kq9, q9a, q9b, q9c⟩ := isOf hZ rfl (own_exa np8)
  obtain ⟨_, _, ⟨T9, L9, k9, n9⟩, -, X9, ⟨Lc9, hQ9, l9, y9, z9⟩, st9⟩ := X8.virtualBack hx (y := (⟨"overmark/NotedPlaces", "note", "(II)V"⟩ : MethodName)) (z := (⟨"overmark/NotedPlaces", "note", "(II)V"⟩ : MethodName)) hown (mvT hZ (hw _ (List.mem_of_getElem? (i := 27) rfl))) (mvT hZ (hw _ (List.mem_of_getElem? (i := 28) rfl))) (notFace_of_selects (args := #[]) (mvT hZ (hw _ (List.mem_of_getElem? (i := 30) rfl)))) (mvT hZ (hw _ (List.mem_of_getElem? (i := 30) rfl))) (mvT hZ (hw _ (List.mem_of_getElem? (i := 29) rfl))) (by decide) (backOf (W := 0) (rm4 l Z a0 hw [] b7 p2 p3 (0 : Int32) (0 : Int32) (1 : Int32) 0 [(.int (0 : Int32)), (.int (0 : Int32)), (.int (0 : Int32))] [(.int (0 : Int32)), (.int (0 : Int32)), (.int (0 : Int32))] [.null, .null, .null] T8.heap n0 Z8 np8 rfl (by decide) (by decide) (by decide) (Nat.le_of_ble_eq_true rfl) (Nat.le_of_ble_eq_true rfl) (Nat.le_of_ble_eq_true rfl)) hZ (hw _ (List.mem_of_getElem? (i := 31) rfl)) (hw _ (List.mem_of_getElem? (i := 2) rfl)) (by decide) (by decide)) q9a q9c (g := (mkF m 211 #[.val (.int p1), .val (.int p2), .val (.int p3), .val (.int p4), .val (.int p5), .val (.int p6), .val (.int (p3 ^^^ p4)), .val (.int (p1 &&& (7 : Int32))), .val (.ref b7), .val (.int (0 : Int32)), .val (.int (0 : Int32)), .val (.int (0 : Int32)), .unset, .unset] [(.int p3), (.int p2), (.ref b7)])) rfl (by rw [hml]; rfl) (Steps.refl _) (argsL := [(.int p2), (.int p3)]) (rest := []) (lenOf pd_0_2 rfl) rfl (by show 2 * 0 + _ ≤ _; exact Nat.le_of_eq rfl) (hb hby at_211) (fun _ _ => ⟨rfl, rfl, (by decide : 4 + 0 ≤ _), (by decide : 3077 + 0 ≤ _)⟩)
  dsimp only [Pt.U, Pt.locs, Pt.cells, Pt.slots] at X9 l9 y9 z9 st9 hQ9
  subst l9 y9 z9
  obtain ⟨rfl, N9q, hs9, nq9⟩ := hQ9
  have Z9 : n0 ≤ T9.heap.size := Nat.le_trans Z8 hs9
  have np9 : NP Z T9.heap n0 b7 (0 : Int32) (1 : Int32) [(.int p2), (.int (0 : Int32)), (.int (0 : Int32))] [(.int p3), (.int (0 : Int32)), (.int (0 : Int32))] [.null, .null, .null] := nq9
  have N9 := Fr.app N8 N9q
  obtain ⟨cq10, kq10, q10a, q10b, q10c⟩ := isOf hZ rfl (own_exa np9)
  obtain ⟨_, _, ⟨T10, L10, k10, n10⟩, -, X10, ⟨Lc10, hQ10, l10, y10, z10⟩, st10⟩ := X9.virtualBack hx (y := (⟨"overmark/NotedPlaces", "note", "(II)V"⟩ : MethodName)) (z := (⟨"overmark/NotedPlaces", "note", "(II)V"⟩ : MethodName)) hown (mvT hZ (hw _ (List.mem_of_getElem? (i := 27) rfl))) (mvT hZ (hw _ (List.mem_of_getElem? (i := 28) rfl))) (notFace_of_selects (args := #[]) (mvT hZ (hw _ (List.mem_of_getElem? (i := 30) rfl)))) (mvT hZ (hw _ (List.mem_of_getElem? (i := 30) rfl))) (mvT hZ (hw _ (List.mem_of_getElem? (i := 29) rfl))) (by decide) (backOf (W := 0) (rm4 l Z a0 hw [] b7 p4 (p3 ^^^ p4) (0 : Int32) (1 : Int32) (2 : Int32) 1 [(.int p2), (.int (0 : Int32)), (.int (0 : Int32))] [(.int p3), (.int (0 : Int32)), (.int (0 : Int32))] [.null, .null, .null] T9.heap n0 Z9 np9 rfl (by decide) (by decide) (by decide) (Nat.le_of_ble_eq_true rfl) (Nat.le_of_ble_eq_true rfl) (Nat.le_of_ble_eq_true rfl)) hZ (hw _ (List.mem_of_getElem? (i := 31) rfl)) (hw _ (List.mem_of_getElem? (i := 2) rfl)) (by decide) (by decide)) q10a q10c (g := (mkF m 219 #[.val (.int p1), .val (.int p2), .val (.int p3), .val (.int p4), .val (.int p5), .val (.int p6), .val (.int (p3 ^^^ p4)), .val (.int (p1 &&& (7 : Int32))), .val (.ref b7), .val (.int (0 : Int32)), .val (.int (0 : Int32)), .val (.int (0 : Int32)), .unset, .unset] [(.int (p3 ^^^ p4)), (.int p4), (.ref b7)])) rfl (by rw [hml]; rfl) (Steps.refl _) (argsL := [(.int p4), (.int (p3 ^^^ p4))]) (rest := []) (lenOf pd_0_2 rfl) rfl (by show 2 * 0 + _ ≤ _; exact Nat.le_of_eq rfl) (hb hby at_219) (fun _ _ => ⟨rfl, rfl, (by decide : 4 + 0 ≤ _), (by decide : 3077 + 0 ≤ _)⟩)
  dsimp only [Pt.U, Pt.locs, Pt.cells, Pt.slots] at X10 l10 y10 z10 st10 hQ10
  subst l10 y10 z10
  obtain ⟨rfl, N10q, hs10, nq10⟩ := hQ10
  have Z10 : n0 ≤ T10.heap.size := Nat.le_trans Z9 hs10
  have np10 : NP Z T10.heap n0 b7 (0 : Int32) (2 : Int32) [(.int p2), (.int p4), (.int (0 : Int32))] [(.int p3), (.int (p3 ^^^ p4)), (.int (0 : Int32))] [.null, .null, .null] := nq10
  have N10 := Fr.app N9 N10q
  obtain ⟨cq11, kq11, q11a, q11b, q11c⟩ := isOf hZ rfl (own_exa np10)
  obtain ⟨_, _, ⟨T11, L11, k11, n11⟩, -, X11, ⟨Lc11, hQ11, l11, y11, z11⟩, st11⟩ := X10.virtualBack hx (y := (⟨"overmark/NotedPlaces", "letGoFirst", "()V"⟩ : MethodName)) (z := (⟨"overmark/NotedPlaces", "letGoFirst", "()V"⟩ : MethodName)) hown (mvT hZ (hw _ (List.mem_of_getElem? (i := 32) rfl))) (mvT hZ (hw _ (List.mem_of_getElem? (i := 33) rfl))) (notFace_of_selects (args := #[]) (mvT hZ (hw _ (List.mem_of_getElem? (i := 35) rfl)))) (mvT hZ (hw _ (List.mem_of_getElem? (i := 35) rfl))) (mvT hZ (hw _ (List.mem_of_getElem? (i := 34) rfl))) (by decide) (backOf (W := 0) (rm5t l Z a0 hw [] b7 (0 : Int32) (2 : Int32) (1 : Int32) [(.int p2), (.int p4), (.int (0 : Int32))] [(.int p3), (.int (p3 ^^^ p4)), (.int (0 : Int32))] [.null, .null, .null] T10.heap n0 Z10 np10 (by decide) (by decide)) hZ (hw _ (List.mem_of_getElem? (i := 36) rfl)) (hw _ (List.mem_of_getElem? (i := 2) rfl)) (by decide) (by decide)) q11a q11c (g := (mkF m 224 #[.val (.int p1), .val (.int p2), .val (.int p3), .val (.int p4), .val (.int p5), .val (.int p6), .val (.int (p3 ^^^ p4)), .val (.int (p1 &&& (7 : Int32))), .val (.ref b7), .val (.int (0 : Int32)), .val (.int (0 : Int32)), .val (.int (0 : Int32)), .unset, .unset] [(.ref b7)])) rfl (by rw [hml]; rfl) (Steps.refl _) (argsL := []) (rest := []) (lenOf pd_0_0 rfl) rfl (by show 2 * 0 + _ ≤ _; exact Nat.le_of_eq rfl) (hb hby at_224) (fun _ _ => ⟨rfl, rfl, (by decide : 4 + 0 ≤ _), (by decide : 3077 + 0 ≤ _)⟩)
  dsimp only [Pt.U, Pt.locs, Pt.cells, Pt.slots] at X11 l11 y11 z11 st11 hQ11
  subst l11 y11 z11
  obtain ⟨rfl, N11q, hs11, nq11⟩ := hQ11
  have Z11 : n0 ≤ T11.heap.size := Nat.le_trans Z10 hs11
  have np11 : NP Z T11.heap n0 b7 (1 : Int32) (2 : Int32) [(.int p2), (.int p4), (.int (0 : Int32))] [(.int p3), (.int (p3 ^^^ p4)), (.int (0 : Int32))] [.null, .null, .null] := nq11
  have N11 := Fr.app N10 N11q
  obtain ⟨cq12, kq12, q12a, q12b, q12c⟩ := isOf hZ rfl (own_exa np11)
  obtain ⟨_, _, ⟨T12, L12, k12, n12⟩, -, X12, ⟨Lc12, hQ12, l12, y12, z12⟩, st12⟩ := X11.virtualBack hx (y := (⟨"overmark/NotedPlaces", "letGoFirst", "()V"⟩ : MethodName)) (z := (⟨"overmark/NotedPlaces", "letGoFirst", "()V"⟩ : MethodName)) hown (mvT hZ (hw _ (List.mem_of_getElem? (i := 32) rfl))) (mvT hZ (hw _ (List.mem_of_getElem? (i := 33) rfl))) (notFace_of_selects (args := #[]) (mvT hZ (hw _ (List.mem_of_getElem? (i := 35) rfl)))) (mvT hZ (hw _ (List.mem_of_getElem? (i := 35) rfl))) (mvT hZ (hw _ (List.mem_of_getElem? (i := 34) rfl))) (by decide) (backOf (W := 0) (rm5f l Z a0 hw [] b7 (1 : Int32) (2 : Int32) [(.int p2), (.int p4), (.int (0 : Int32))] [(.int p3), (.int (p3 ^^^ p4)), (.int (0 : Int32))] [.null, .null, .null] T11.heap n0 Z11 np11 (by decide)) hZ (hw _ (List.mem_of_getElem? (i := 36) rfl)) (hw _ (List.mem_of_getElem? (i := 2) rfl)) (by decide) (by decide)) q12a q12c (g := (mkF m 229 #[.val (.int p1), .val (.int p2), .val (.int p3), .val (.int p4), .val (.int p5), .val (.int p6), .val (.int (p3 ^^^ p4)), .val (.int (p1 &&& (7 : Int32))), .val (.ref b7), .val (.int (0 : Int32)), .val (.int (0 : Int32)), .val (.int (0 : Int32)), .unset, .unset] [(.ref b7)])) rfl (by rw [hml]; rfl) (Steps.refl _) (argsL := []) (rest := []) (lenOf pd_0_0 rfl) rfl (by show 2 * 0 + _ ≤ _; exact Nat.le_of_eq rfl) (hb hby at_229) (fun _ _ => ⟨rfl, rfl, (by decide : 4 + 0 ≤ _), (by decide : 3077 + 0 ≤ _)⟩)
  dsimp only [Pt.U, Pt.locs, Pt.cells, Pt.slots] at X12 l12 y12 z12 st12 hQ12
  subst l12 y12 z12
  obtain ⟨rfl, N12q, hs12, nq12⟩ := hQ12
  have Z12 : n0 ≤ T12.heap.size := Nat.le_trans Z11 hs12
  have np12 : NP Z T12.heap n0 b7 (0 : Int32) (0 : Int32) [(.int p2), (.int p4), (.int (0 : Int32))] [(.int p3), (.int (p3 ^^^ p4)), (.int (0 : Int32))] [.null, .null, .null] := nq12
  have N12 := Fr.app N11 N12q
  obtain ⟨cq13, kq13, q13a, q13b, q13c⟩ := isOf hZ rfl (own_exa np12)
  obtain ⟨_, _, ⟨T13, L13, k13, n13⟩, -, X13, ⟨Lc13, hQ13, l13, y13, z13⟩, st13⟩ := X12.virtualBack hx (y := (⟨"overmark/NotedPlaces", "firstBefore", "(II)Z"⟩ : MethodName)) (z := (⟨"overmark/NotedPlaces", "firstBefore", "(II)Z"⟩ : MethodName)) hown (mvT hZ (hw _ (List.mem_of_getElem? (i := 18) rfl))) (mvT hZ (hw _ (List.mem_of_getElem? (i := 19) rfl))) (notFace_of_selects (args := #[]) (mvT hZ (hw _ (List.mem_of_getElem? (i := 21) rfl)))) (mvT hZ (hw _ (List.mem_of_getElem? (i := 21) rfl))) (mvT hZ (hw _ (List.mem_of_getElem? (i := 20) rfl))) (by decide) (backOf (W := 0) (rm3 l Z a0 hw [] b7 p5 p6 (0 : Int32) (0 : Int32) p2 p3 0 [(.int p2), (.int p4), (.int (0 : Int32))] [(.int p3), (.int (p3 ^^^ p4)), (.int (0 : Int32))] [.null, .null, .null] T12.heap n0 Z12 np12 rfl (by decide) (by decide) rfl rfl) hZ (hw _ (List.mem_of_getElem? (i := 22) rfl)) (hw _ (List.mem_of_getElem? (i := 2) rfl)) (by decide) (by decide)) q13a q13c (g := (mkF m 281 #[.val (.int p1), .val (.int p2), .val (.int p3), .val (.int p4), .val (.int p5), .val (.int p6), .val (.int (p3 ^^^ p4)), .val (.int (p1 &&& (7 : Int32))), .val (.ref b7), .val (.int (0 : Int32)), .val (.int (0 : Int32)), .val (.int (0 : Int32)), .unset, .unset] [(.int p6), (.int p5), (.ref b7)])) rfl (by rw [hml]; rfl) (Steps.refl _) (argsL := [(.int p5), (.int p6)]) (rest := []) (lenOf pd_0_1 rfl) rfl (by show 2 * 0 + _ ≤ _; exact Nat.le_of_eq rfl) (hb hby at_281) (fun _ _ => ⟨rfl, rfl, (by decide : 4 + 0 ≤ _), (by decide : 3077 + 0 ≤ _)⟩)
  dsimp only [Pt.U, Pt.locs, Pt.cells, Pt.slots] at X13 l13 y13 z13 st13 hQ13
  subst l13 y13 z13
  obtain ⟨rfl, N13q, e13⟩ := hQ13
  have Z13 : n0 ≤ T13.heap.size := by rw [e13]; exact Z12
  have N13 := Fr.app N12 N13q
  obtain ⟨fs, hr, hrun, hended, hW, hsame⟩ := X13.leave (v := some (.int (1 : Int32))) (fun h => by rw [Bd.returns] at h; cases h)
  refine ⟨_, _, pre0 _ ?_, hrun, hended, _, _, rfl, ?_, ⟨_, rfl⟩, hW, hsame.mono (by decide) (by decide)⟩
  · show Steps p.tables e below (s₁.setTop (mkF m 0 #[.val (.int p1), .val (.int p2), .val (.int p3), .val (.int p4), .val (.int p5), .val (.int p6), .unset, .unset, .unset, .unset, .unset, .unset, .unset, .unset] [])) _
    refine XS.iloadN X0.here hx rfl (hb hby at_0) rfl ?_
    show Steps p.tables e below (s₁.setTop (mkF m 1 #[.val (.int p1), .val (.int p2), .val (.int p3), .val (.int p4), .val (.int p5), .val (.int p6), .unset, .unset, .unset, .unset, .unset, .unset, .unset, .unset] [(.int p3)])) _
    refine XS.iloadN X0.here hx rfl (hb hby at_1) rfl ?_
    show Steps p.tables e below (s₁.setTop (mkF m 2 #[.val (.int p1), .val (.int p2), .val (.int p3), .val (.int p4), .val (.int p5), .val (.int p6), .unset, .unset, .unset, .unset, .unset, .unset, .unset, .unset] [(.int p4), (.int p3)])) _
    refine XS.ixor X0.here hx rfl (hb hby at_2) rfl ?_
    show Steps p.tables e below (s₁.setTop (mkF m 3 #[.val (.int p1), .val (.int p2), .val (.int p3), .val (.int p4), .val (.int p5), .val (.int p6), .unset, .unset, .unset, .unset, .unset, .unset, .unset, .unset] [(.int (p3 ^^^ p4))])) _
    refine XS.istore X0.here hx rfl (hb hby at_3) rfl (l' := #[.val (.int p1), .val (.int p2), .val (.int p3), .val (.int p4), .val (.int p5), .val (.int p6), .val (.int (p3 ^^^ p4)), .unset, .unset, .unset, .unset, .unset, .unset, .unset]) rfl ?_
    show Steps p.tables e below (s₁.setTop (mkF m 5 #[.val (.int p1), .val (.int p2), .val (.int p3), .val (.int p4), .val (.int p5), .val (.int p6), .val (.int (p3 ^^^ p4)), .unset, .unset, .unset, .unset, .unset, .unset, .unset] [])) _
    refine XS.iloadN X0.here hx rfl (hb hby at_5) rfl ?_
    show Steps p.tables e below (s₁.setTop (mkF m 6 #[.val (.int p1), .val (.int p2), .val (.int p3), .val (.int p4), .val (.int p5), .val (.int p6), .val (.int (p3 ^^^ p4)), .unset, .unset, .unset, .unset, .unset, .unset, .unset] [(.int p1)])) _
    refine XS.bipush X0.here hx rfl (hb hby at_6) ?_
    show Steps p.tables e below (s₁.setTop (mkF m 8 #[.val (.int p1), .val (.int p2), .val (.int p3), .val (.int p4), .val (.int p5), .val (.int p6), .val (.int (p3 ^^^ p4)), .unset, .unset, .unset, .unset, .unset, .unset, .unset] [(.int (7 : Int32)), (.int p1)])) _
    refine XS.iand X0.here hx rfl (hb hby at_8) rfl ?_
    show Steps p.tables e below (s₁.setTop (mkF m 9 #[.val (.int p1), .val (.int p2), .val (.int p3), .val (.int p4), .val (.int p5), .val (.int p6), .val (.int (p3 ^^^ p4)), .unset, .unset, .unset, .unset, .unset, .unset, .unset] [(.int (p1 &&& (7 : Int32)))])) _
    refine XS.istore X0.here hx rfl (hb hby at_9) rfl (l' := #[.val (.int p1), .val (.int p2), .val (.int p3), .val (.int p4), .val (.int p5), .val (.int p6), .val (.int (p3 ^^^ p4)), .val (.int (p1 &&& (7 : Int32))), .unset, .unset, .unset, .unset, .unset, .unset]) rfl ?_
    show Steps p.tables e below (s₁.setTop (mkF m 11 #[.val (.int p1), .val (.int p2), .val (.int p3), .val (.int p4), .val (.int p5), .val (.int p6), .val (.int (p3 ^^^ p4)), .val (.int (p1 &&& (7 : Int32))), .unset, .unset, .unset, .unset, .unset, .unset] [])) _
    refine st7 _ ?_
    show Steps p.tables e below (T7.setTop (mkF m 14 #[.val (.int p1), .val (.int p2), .val (.int p3), .val (.int p4), .val (.int p5), .val (.int p6), .val (.int (p3 ^^^ p4)), .val (.int (p1 &&& (7 : Int32))), .unset, .unset, .unset, .unset, .unset, .unset] [(.ref b7)])) _
    refine XS.dup X7.here hx rfl (hb hby at_14) rfl rfl ?_
    show Steps p.tables e below (T7.setTop (mkF m 15 #[.val (.int p1), .val (.int p2), .val (.int p3), .val (.int p4), .val (.int p5), .val (.int p6), .val (.int (p3 ^^^ p4)), .val (.int (p1 &&& (7 : Int32))), .unset, .unset, .unset, .unset, .unset, .unset] [(.ref b7), (.ref b7)])) _
    refine st8.trans ?_
    show Steps p.tables e below (T8.setTop (mkF m 18 #[.val (.int p1), .val (.int p2), .val (.int p3), .val (.int p4), .val (.int p5), .val (.int p6), .val (.int (p3 ^^^ p4)), .val (.int (p1 &&& (7 : Int32))), .unset, .unset, .unset, .unset, .unset, .unset] [(.ref b7)])) _
    refine XS.astore X8.here hx rfl (hb hby at_18) rfl rfl (l' := #[.val (.int p1), .val (.int p2), .val (.int p3), .val (.int p4), .val (.int p5), .val (.int p6), .val (.int (p3 ^^^ p4)), .val (.int (p1 &&& (7 : Int32))), .val (.ref b7), .unset, .unset, .unset, .unset, .unset]) rfl ?_
    show Steps p.tables e below (T8.setTop (mkF m 20 #[.val (.int p1), .val (.int p2), .val (.int p3), .val (.int p4), .val (.int p5), .val (.int p6), .val (.int (p3 ^^^ p4)), .val (.int (p1 &&& (7 : Int32))), .val (.ref b7), .unset, .unset, .unset, .unset, .unset] [])) _
    refine XS.iconst X8.here hx rfl (hb hby at_20) ?_
    show Steps p.tables e below (T8.setTop (mkF m 21 #[.val (.int p1), .val (.int p2), .val (.int p3), .val (.int p4), .val (.int p5), .val (.int p6), .val (.int (p3 ^^^ p4)), .val (.int (p1 &&& (7 : Int32))), .val (.ref b7), .unset, .unset, .unset, .unset, .unset] [(.int (0 : Int32))])) _
    refine XS.istore X8.here hx rfl (hb hby at_21) rfl (l' := #[.val (.int p1), .val (.int p2), .val (.int p3), .val (.int p4), .val (.int p5), .val (.int p6), .val (.int (p3 ^^^ p4)), .val (.int (p1 &&& (7 : Int32))), .val (.ref b7), .val (.int (0 : Int32)), .unset, .unset, .unset, .unset]) rfl ?_
    show Steps p.tables e below (T8.setTop (mkF m 23 #[.val (.int p1), .val (.int p2), .val (.int p3), .val (.int p4), .val (.int p5), .val (.int p6), .val (.int (p3 ^^^ p4)), .val (.int (p1 &&& (7 : Int32))), .val (.ref b7), .val (.int (0 : Int32)), .unset, .unset, .unset, .unset] [])) _
    refine XS.iconst X8.here hx rfl (hb hby at_23) ?_
    show Steps p.tables e below (T8.setTop (mkF m 24 #[.val (.int p1), .val (.int p2), .val (.int p3), .val (.int p4), .val (.int p5), .val (.int p6), .val (.int (p3 ^^^ p4)), .val (.int (p1 &&& (7 : Int32))), .val (.ref b7), .val (.int (0 : Int32)), .unset, .unset, .unset, .unset] [(.int (0 : Int32))])) _
    refine XS.istore X8.here hx rfl (hb hby at_24) rfl (l' := #[.val (.int p1), .val (.int p2), .val (.int p3), .val (.int p4), .val (.int p5), .val (.int p6), .val (.int (p3 ^^^ p4)), .val (.int (p1 &&& (7 : Int32))), .val (.ref b7), .val (.int (0 : Int32)), .val (.int (0 : Int32)), .unset, .unset, .unset]) rfl ?_
    show Steps p.tables e below (T8.setTop (mkF m 26 #[.val (.int p1), .val (.int p2), .val (.int p3), .val (.int p4), .val (.int p5), .val (.int p6), .val (.int (p3 ^^^ p4)), .val (.int (p1 &&& (7 : Int32))), .val (.ref b7), .val (.int (0 : Int32)), .val (.int (0 : Int32)), .unset, .unset, .unset] [])) _
    refine XS.iconst X8.here hx rfl (hb hby at_26) ?_
    show Steps p.tables e below (T8.setTop (mkF m 27 #[.val (.int p1), .val (.int p2), .val (.int p3), .val (.int p4), .val (.int p5), .val (.int p6), .val (.int (p3 ^^^ p4)), .val (.int (p1 &&& (7 : Int32))), .val (.ref b7), .val (.int (0 : Int32)), .val (.int (0 : Int32)), .unset, .unset, .unset] [(.int (0 : Int32))])) _
    refine XS.istore X8.here hx rfl (hb hby at_27) rfl (l' := #[.val (.int p1), .val (.int p2), .val (.int p3), .val (.int p4), .val (.int p5), .val (.int p6), .val (.int (p3 ^^^ p4)), .val (.int (p1 &&& (7 : Int32))), .val (.ref b7), .val (.int (0 : Int32)), .val (.int (0 : Int32)), .val (.int (0 : Int32)), .unset, .unset]) rfl ?_
    show Steps p.tables e below (T8.setTop (mkF m 29 #[.val (.int p1), .val (.int p2), .val (.int p3), .val (.int p4), .val (.int p5), .val (.int p6), .val (.int (p3 ^^^ p4)), .val (.int (p1 &&& (7 : Int32))), .val (.ref b7), .val (.int (0 : Int32)), .val (.int (0 : Int32)), .val (.int (0 : Int32)), .unset, .unset] [])) _
    refine XS.iload X8.here hx rfl (hb hby at_29) rfl ?_
    show Steps p.tables e below (T8.setTop (mkF m 31 #[.val (.int p1), .val (.int p2), .val (.int p3), .val (.int p4), .val (.int p5), .val (.int p6), .val (.int (p3 ^^^ p4)), .val (.int (p1 &&& (7 : Int32))), .val (.ref b7), .val (.int (0 : Int32)), .val (.int (0 : Int32)), .val (.int (0 : Int32)), .unset, .unset] [(.int (p1 &&& (7 : Int32)))])) _
    refine XS.ifYes X8.here hx rfl (pc0 := 31) (pc' := 40) rfl (hb hby at_31) rfl ((if0 _ _).trans (feq hc31).2) (by decide) (by decide) ?_
    show Steps p.tables e below (T8.setTop (mkF m 40 #[.val (.int p1), .val (.int p2), .val (.int p3), .val (.int p4), .val (.int p5), .val (.int p6), .val (.int (p3 ^^^ p4)), .val (.int (p1 &&& (7 : Int32))), .val (.ref b7), .val (.int (0 : Int32)), .val (.int (0 : Int32)), .val (.int (0 : Int32)), .unset, .unset] [])) _
    refine XS.iload X8.here hx rfl (hb hby at_40) rfl ?_
    show Steps p.tables e below (T8.setTop (mkF m 42 #[.val (.int p1), .val (.int p2), .val (.int p3), .val (.int p4), .val (.int p5), .val (.int p6), .val (.int (p3 ^^^ p4)), .val (.int (p1 &&& (7 : Int32))), .val (.ref b7), .val (.int (0 : Int32)), .val (.int (0 : Int32)), .val (.int (0 : Int32)), .unset, .unset] [(.int (p1 &&& (7 : Int32)))])) _
    refine XS.iconst X8.here hx rfl (hb hby at_42) ?_
    show Steps p.tables e below (T8.setTop (mkF m 43 #[.val (.int p1), .val (.int p2), .val (.int p3), .val (.int p4), .val (.int p5), .val (.int p6), .val (.int (p3 ^^^ p4)), .val (.int (p1 &&& (7 : Int32))), .val (.ref b7), .val (.int (0 : Int32)), .val (.int (0 : Int32)), .val (.int (0 : Int32)), .unset, .unset] [(.int (1 : Int32)), (.int (p1 &&& (7 : Int32)))])) _
    refine XS.icmpYes X8.here hx rfl (pc0 := 43) (pc' := 65) rfl (hb hby at_43) rfl (feq hc43).2 (by decide) (by decide) ?_
    show Steps p.tables e below (T8.setTop (mkF m 65 #[.val (.int p1), .val (.int p2), .val (.int p3), .val (.int p4), .val (.int p5), .val (.int p6), .val (.int (p3 ^^^ p4)), .val (.int (p1 &&& (7 : Int32))), .val (.ref b7), .val (.int (0 : Int32)), .val (.int (0 : Int32)), .val (.int (0 : Int32)), .unset, .unset] [])) _
    refine XS.iload X8.here hx rfl (hb hby at_65) rfl ?_
    show Steps p.tables e below (T8.setTop (mkF m 67 #[.val (.int p1), .val (.int p2), .val (.int p3), .val (.int p4), .val (.int p5), .val (.int p6), .val (.int (p3 ^^^ p4)), .val (.int (p1 &&& (7 : Int32))), .val (.ref b7), .val (.int (0 : Int32)), .val (.int (0 : Int32)), .val (.int (0 : Int32)), .unset, .unset] [(.int (p1 &&& (7 : Int32)))])) _
    refine XS.iconst X8.here hx rfl (hb hby at_67) ?_
    show Steps p.tables e below (T8.setTop (mkF m 68 #[.val (.int p1), .val (.int p2), .val (.int p3), .val (.int p4), .val (.int p5), .val (.int p6), .val (.int (p3 ^^^ p4)), .val (.int (p1 &&& (7 : Int32))), .val (.ref b7), .val (.int (0 : Int32)), .val (.int (0 : Int32)), .val (.int (0 : Int32)), .unset, .unset] [(.int (2 : Int32)), (.int (p1 &&& (7 : Int32)))])) _
    refine XS.icmpYes X8.here hx rfl (pc0 := 68) (pc' := 98) rfl (hb hby at_68) rfl (feq hc68).2 (by decide) (by decide) ?_
    show Steps p.tables e below (T8.setTop (mkF m 98 #[.val (.int p1), .val (.int p2), .val (.int p3), .val (.int p4), .val (.int p5), .val (.int p6), .val (.int (p3 ^^^ p4)), .val (.int (p1 &&& (7 : Int32))), .val (.ref b7), .val (.int (0 : Int32)), .val (.int (0 : Int32)), .val (.int (0 : Int32)), .unset, .unset] [])) _
    refine XS.iload X8.here hx rfl (hb hby at_98) rfl ?_
    show Steps p.tables e below (T8.setTop (mkF m 100 #[.val (.int p1), .val (.int p2), .val (.int p3), .val (.int p4), .val (.int p5), .val (.int p6), .val (.int (p3 ^^^ p4)), .val (.int (p1 &&& (7 : Int32))), .val (.ref b7), .val (.int (0 : Int32)), .val (.int (0 : Int32)), .val (.int (0 : Int32)), .unset, .unset] [(.int (p1 &&& (7 : Int32)))])) _
    refine XS.iconst X8.here hx rfl (hb hby at_100) ?_
    show Steps p.tables e below (T8.setTop (mkF m 101 #[.val (.int p1), .val (.int p2), .val (.int p3), .val (.int p4), .val (.int p5), .val (.int p6), .val (.int (p3 ^^^ p4)), .val (.int (p1 &&& (7 : Int32))), .val (.ref b7), .val (.int (0 : Int32)), .val (.int (0 : Int32)), .val (.int (0 : Int32)), .unset, .unset] [(.int (3 : Int32)), (.int (p1 &&& (7 : Int32)))])) _
    refine XS.icmpYes X8.here hx rfl (pc0 := 101) (pc' := 137) rfl (hb hby at_101) rfl (feq hc101).2 (by decide) (by decide) ?_
    show Steps p.tables e below (T8.setTop (mkF m 137 #[.val (.int p1), .val (.int p2), .val (.int p3), .val (.int p4), .val (.int p5), .val (.int p6), .val (.int (p3 ^^^ p4)), .val (.int (p1 &&& (7 : Int32))), .val (.ref b7), .val (.int (0 : Int32)), .val (.int (0 : Int32)), .val (.int (0 : Int32)), .unset, .unset] [])) _
    refine XS.iload X8.here hx rfl (hb hby at_137) rfl ?_
    show Steps p.tables e below (T8.setTop (mkF m 139 #[.val (.int p1), .val (.int p2), .val (.int p3), .val (.int p4), .val (.int p5), .val (.int p6), .val (.int (p3 ^^^ p4)), .val (.int (p1 &&& (7 : Int32))), .val (.ref b7), .val (.int (0 : Int32)), .val (.int (0 : Int32)), .val (.int (0 : Int32)), .unset, .unset] [(.int (p1 &&& (7 : Int32)))])) _
    refine XS.iconst X8.here hx rfl (hb hby at_139) ?_
    show Steps p.tables e below (T8.setTop (mkF m 140 #[.val (.int p1), .val (.int p2), .val (.int p3), .val (.int p4), .val (.int p5), .val (.int p6), .val (.int (p3 ^^^ p4)), .val (.int (p1 &&& (7 : Int32))), .val (.ref b7), .val (.int (0 : Int32)), .val (.int (0 : Int32)), .val (.int (0 : Int32)), .unset, .unset] [(.int (4 : Int32)), (.int (p1 &&& (7 : Int32)))])) _
    refine XS.icmpYes X8.here hx rfl (pc0 := 140) (pc' := 161) rfl (hb hby at_140) rfl (feq hc140).2 (by decide) (by decide) ?_
    show Steps p.tables e below (T8.setTop (mkF m 161 #[.val (.int p1), .val (.int p2), .val (.int p3), .val (.int p4), .val (.int p5), .val (.int p6), .val (.int (p3 ^^^ p4)), .val (.int (p1 &&& (7 : Int32))), .val (.ref b7), .val (.int (0 : Int32)), .val (.int (0 : Int32)), .val (.int (0 : Int32)), .unset, .unset] [])) _
    refine XS.iload X8.here hx rfl (hb hby at_161) rfl ?_
    show Steps p.tables e below (T8.setTop (mkF m 163 #[.val (.int p1), .val (.int p2), .val (.int p3), .val (.int p4), .val (.int p5), .val (.int p6), .val (.int (p3 ^^^ p4)), .val (.int (p1 &&& (7 : Int32))), .val (.ref b7), .val (.int (0 : Int32)), .val (.int (0 : Int32)), .val (.int (0 : Int32)), .unset, .unset] [(.int (p1 &&& (7 : Int32)))])) _
    refine XS.iconst X8.here hx rfl (hb hby at_163) ?_
    show Steps p.tables e below (T8.setTop (mkF m 164 #[.val (.int p1), .val (.int p2), .val (.int p3), .val (.int p4), .val (.int p5), .val (.int p6), .val (.int (p3 ^^^ p4)), .val (.int (p1 &&& (7 : Int32))), .val (.ref b7), .val (.int (0 : Int32)), .val (.int (0 : Int32)), .val (.int (0 : Int32)), .unset, .unset] [(.int (5 : Int32)), (.int (p1 &&& (7 : Int32)))])) _
    refine XS.icmpYes X8.here hx rfl (pc0 := 164) (pc' := 200) rfl (hb hby at_164) rfl (feq hc164).2 (by decide) (by decide) ?_
    show Steps p.tables e below (T8.setTop (mkF m 200 #[.val (.int p1), .val (.int p2), .val (.int p3), .val (.int p4), .val (.int p5), .val (.int p6), .val (.int (p3 ^^^ p4)), .val (.int (p1 &&& (7 : Int32))), .val (.ref b7), .val (.int (0 : Int32)), .val (.int (0 : Int32)), .val (.int (0 : Int32)), .unset, .unset] [])) _
    refine XS.iload X8.here hx rfl (hb hby at_200) rfl ?_
    show Steps p.tables e below (T8.setTop (mkF m 202 #[.val (.int p1), .val (.int p2), .val (.int p3), .val (.int p4), .val (.int p5), .val (.int p6), .val (.int (p3 ^^^ p4)), .val (.int (p1 &&& (7 : Int32))), .val (.ref b7), .val (.int (0 : Int32)), .val (.int (0 : Int32)), .val (.int (0 : Int32)), .unset, .unset] [(.int (p1 &&& (7 : Int32)))])) _
    refine XS.bipush X8.here hx rfl (hb hby at_202) ?_
    show Steps p.tables e below (T8.setTop (mkF m 204 #[.val (.int p1), .val (.int p2), .val (.int p3), .val (.int p4), .val (.int p5), .val (.int p6), .val (.int (p3 ^^^ p4)), .val (.int (p1 &&& (7 : Int32))), .val (.ref b7), .val (.int (0 : Int32)), .val (.int (0 : Int32)), .val (.int (0 : Int32)), .unset, .unset] [(.int (6 : Int32)), (.int (p1 &&& (7 : Int32)))])) _
    refine XS.icmpNo X8.here hx rfl (hb hby at_204) rfl (teq hc204).2 ?_
    show Steps p.tables e below (T8.setTop (mkF m 207 #[.val (.int p1), .val (.int p2), .val (.int p3), .val (.int p4), .val (.int p5), .val (.int p6), .val (.int (p3 ^^^ p4)), .val (.int (p1 &&& (7 : Int32))), .val (.ref b7), .val (.int (0 : Int32)), .val (.int (0 : Int32)), .val (.int (0 : Int32)), .unset, .unset] [])) _
    refine XS.aload X8.here hx rfl (hb hby at_207) rfl rfl ?_
    show Steps p.tables e below (T8.setTop (mkF m 209 #[.val (.int p1), .val (.int p2), .val (.int p3), .val (.int p4), .val (.int p5), .val (.int p6), .val (.int (p3 ^^^ p4)), .val (.int (p1 &&& (7 : Int32))), .val (.ref b7), .val (.int (0 : Int32)), .val (.int (0 : Int32)), .val (.int (0 : Int32)), .unset, .unset] [(.ref b7)])) _
    refine XS.iloadN X8.here hx rfl (hb hby at_209) rfl ?_
    show Steps p.tables e below (T8.setTop (mkF m 210 #[.val (.int p1), .val (.int p2), .val (.int p3), .val (.int p4), .val (.int p5), .val (.int p6), .val (.int (p3 ^^^ p4)), .val (.int (p1 &&& (7 : Int32))), .val (.ref b7), .val (.int (0 : Int32)), .val (.int (0 : Int32)), .val (.int (0 : Int32)), .unset, .unset] [(.int p2), (.ref b7)])) _
    refine XS.iloadN X8.here hx rfl (hb hby at_210) rfl ?_
    show Steps p.tables e below (T8.setTop (mkF m 211 #[.val (.int p1), .val (.int p2), .val (.int p3), .val (.int p4), .val (.int p5), .val (.int p6), .val (.int (p3 ^^^ p4)), .val (.int (p1 &&& (7 : Int32))), .val (.ref b7), .val (.int (0 : Int32)), .val (.int (0 : Int32)), .val (.int (0 : Int32)), .unset, .unset] [(.int p3), (.int p2), (.ref b7)])) _
    refine st9.trans ?_
    show Steps p.tables e below (T9.setTop (mkF m 214 #[.val (.int p1), .val (.int p2), .val (.int p3), .val (.int p4), .val (.int p5), .val (.int p6), .val (.int (p3 ^^^ p4)), .val (.int (p1 &&& (7 : Int32))), .val (.ref b7), .val (.int (0 : Int32)), .val (.int (0 : Int32)), .val (.int (0 : Int32)), .unset, .unset] [])) _
    refine XS.aload X9.here hx rfl (hb hby at_214) rfl rfl ?_
    show Steps p.tables e below (T9.setTop (mkF m 216 #[.val (.int p1), .val (.int p2), .val (.int p3), .val (.int p4), .val (.int p5), .val (.int p6), .val (.int (p3 ^^^ p4)), .val (.int (p1 &&& (7 : Int32))), .val (.ref b7), .val (.int (0 : Int32)), .val (.int (0 : Int32)), .val (.int (0 : Int32)), .unset, .unset] [(.ref b7)])) _
    refine XS.iloadN X9.here hx rfl (hb hby at_216) rfl ?_
    show Steps p.tables e below (T9.setTop (mkF m 217 #[.val (.int p1), .val (.int p2), .val (.int p3), .val (.int p4), .val (.int p5), .val (.int p6), .val (.int (p3 ^^^ p4)), .val (.int (p1 &&& (7 : Int32))), .val (.ref b7), .val (.int (0 : Int32)), .val (.int (0 : Int32)), .val (.int (0 : Int32)), .unset, .unset] [(.int p4), (.ref b7)])) _
    refine XS.iload X9.here hx rfl (hb hby at_217) rfl ?_
    show Steps p.tables e below (T9.setTop (mkF m 219 #[.val (.int p1), .val (.int p2), .val (.int p3), .val (.int p4), .val (.int p5), .val (.int p6), .val (.int (p3 ^^^ p4)), .val (.int (p1 &&& (7 : Int32))), .val (.ref b7), .val (.int (0 : Int32)), .val (.int (0 : Int32)), .val (.int (0 : Int32)), .unset, .unset] [(.int (p3 ^^^ p4)), (.int p4), (.ref b7)])) _
    refine st10.trans ?_
    show Steps p.tables e below (T10.setTop (mkF m 222 #[.val (.int p1), .val (.int p2), .val (.int p3), .val (.int p4), .val (.int p5), .val (.int p6), .val (.int (p3 ^^^ p4)), .val (.int (p1 &&& (7 : Int32))), .val (.ref b7), .val (.int (0 : Int32)), .val (.int (0 : Int32)), .val (.int (0 : Int32)), .unset, .unset] [])) _
    refine XS.aload X10.here hx rfl (hb hby at_222) rfl rfl ?_
    show Steps p.tables e below (T10.setTop (mkF m 224 #[.val (.int p1), .val (.int p2), .val (.int p3), .val (.int p4), .val (.int p5), .val (.int p6), .val (.int (p3 ^^^ p4)), .val (.int (p1 &&& (7 : Int32))), .val (.ref b7), .val (.int (0 : Int32)), .val (.int (0 : Int32)), .val (.int (0 : Int32)), .unset, .unset] [(.ref b7)])) _
    refine st11.trans ?_
    show Steps p.tables e below (T11.setTop (mkF m 227 #[.val (.int p1), .val (.int p2), .val (.int p3), .val (.int p4), .val (.int p5), .val (.int p6), .val (.int (p3 ^^^ p4)), .val (.int (p1 &&& (7 : Int32))), .val (.ref b7), .val (.int (0 : Int32)), .val (.int (0 : Int32)), .val (.int (0 : Int32)), .unset, .unset] [])) _
    refine XS.aload X11.here hx rfl (hb hby at_227) rfl rfl ?_
    show Steps p.tables e below (T11.setTop (mkF m 229 #[.val (.int p1), .val (.int p2), .val (.int p3), .val (.int p4), .val (.int p5), .val (.int p6), .val (.int (p3 ^^^ p4)), .val (.int (p1 &&& (7 : Int32))), .val (.ref b7), .val (.int (0 : Int32)), .val (.int (0 : Int32)), .val (.int (0 : Int32)), .unset, .unset] [(.ref b7)])) _
    refine st12.trans ?_
    show Steps p.tables e below (T12.setTop (mkF m 232 #[.val (.int p1), .val (.int p2), .val (.int p3), .val (.int p4), .val (.int p5), .val (.int p6), .val (.int (p3 ^^^ p4)), .val (.int (p1 &&& (7 : Int32))), .val (.ref b7), .val (.int (0 : Int32)), .val (.int (0 : Int32)), .val (.int (0 : Int32)), .unset, .unset] [])) _
    refine XS.iconst X12.here hx rfl (hb hby at_232) ?_
    show Steps p.tables e below (T12.setTop (mkF m 233 #[.val (.int p1), .val (.int p2), .val (.int p3), .val (.int p4), .val (.int p5), .val (.int p6), .val (.int (p3 ^^^ p4)), .val (.int (p1 &&& (7 : Int32))), .val (.ref b7), .val (.int (0 : Int32)), .val (.int (0 : Int32)), .val (.int (0 : Int32)), .unset, .unset] [(.int (0 : Int32))])) _
    refine XS.istore X12.here hx rfl (hb hby at_233) rfl (l' := #[.val (.int p1), .val (.int p2), .val (.int p3), .val (.int p4), .val (.int p5), .val (.int p6), .val (.int (p3 ^^^ p4)), .val (.int (p1 &&& (7 : Int32))), .val (.ref b7), .val (.int (0 : Int32)), .val (.int (0 : Int32)), .val (.int (0 : Int32)), .unset, .unset]) rfl ?_
    show Steps p.tables e below (T12.setTop (mkF m 235 #[.val (.int p1), .val (.int p2), .val (.int p3), .val (.int p4), .val (.int p5), .val (.int p6), .val (.int (p3 ^^^ p4)), .val (.int (p1 &&& (7 : Int32))), .val (.ref b7), .val (.int (0 : Int32)), .val (.int (0 : Int32)), .val (.int (0 : Int32)), .unset, .unset] [])) _
    refine XS.goto X12.here hx rfl (pc0 := 235) (pc' := 275) rfl (hb hby at_235) (by decide) (by decide) ?_
    show Steps p.tables e below (T12.setTop (mkF m 275 #[.val (.int p1), .val (.int p2), .val (.int p3), .val (.int p4), .val (.int p5), .val (.int p6), .val (.int (p3 ^^^ p4)), .val (.int (p1 &&& (7 : Int32))), .val (.ref b7), .val (.int (0 : Int32)), .val (.int (0 : Int32)), .val (.int (0 : Int32)), .unset, .unset] [])) _
    refine XS.aload X12.here hx rfl (hb hby at_275) rfl rfl ?_
    show Steps p.tables e below (T12.setTop (mkF m 277 #[.val (.int p1), .val (.int p2), .val (.int p3), .val (.int p4), .val (.int p5), .val (.int p6), .val (.int (p3 ^^^ p4)), .val (.int (p1 &&& (7 : Int32))), .val (.ref b7), .val (.int (0 : Int32)), .val (.int (0 : Int32)), .val (.int (0 : Int32)), .unset, .unset] [(.ref b7)])) _
    refine XS.iload X12.here hx rfl (hb hby at_277) rfl ?_
    show Steps p.tables e below (T12.setTop (mkF m 279 #[.val (.int p1), .val (.int p2), .val (.int p3), .val (.int p4), .val (.int p5), .val (.int p6), .val (.int (p3 ^^^ p4)), .val (.int (p1 &&& (7 : Int32))), .val (.ref b7), .val (.int (0 : Int32)), .val (.int (0 : Int32)), .val (.int (0 : Int32)), .unset, .unset] [(.int p5), (.ref b7)])) _
    refine XS.iload X12.here hx rfl (hb hby at_279) rfl ?_
    show Steps p.tables e below (T12.setTop (mkF m 281 #[.val (.int p1), .val (.int p2), .val (.int p3), .val (.int p4), .val (.int p5), .val (.int p6), .val (.int (p3 ^^^ p4)), .val (.int (p1 &&& (7 : Int32))), .val (.ref b7), .val (.int (0 : Int32)), .val (.int (0 : Int32)), .val (.int (0 : Int32)), .unset, .unset] [(.int p6), (.int p5), (.ref b7)])) _
    refine st13.trans ?_
    show Steps p.tables e below (T13.setTop (mkF m 284 #[.val (.int p1), .val (.int p2), .val (.int p3), .val (.int p4), .val (.int p5), .val (.int p6), .val (.int (p3 ^^^ p4)), .val (.int (p1 &&& (7 : Int32))), .val (.ref b7), .val (.int (0 : Int32)), .val (.int (0 : Int32)), .val (.int (0 : Int32)), .unset, .unset] [(.int (own_fb (0 : Int32) (0 : Int32) p2 p3 p5 p6))])) _
    refine XS.istore X13.here hx rfl (hb hby at_284) rfl (l' := #[.val (.int p1), .val (.int p2), .val (.int p3), .val (.int p4), .val (.int p5), .val (.int p6), .val (.int (p3 ^^^ p4)), .val (.int (p1 &&& (7 : Int32))), .val (.ref b7), .val (.int (0 : Int32)), .val (.int (0 : Int32)), .val (.int (0 : Int32)), .val (.int (own_fb (0 : Int32) (0 : Int32) p2 p3 p5 p6)), .unset]) rfl ?_
    show Steps p.tables e below (T13.setTop (mkF m 286 #[.val (.int p1), .val (.int p2), .val (.int p3), .val (.int p4), .val (.int p5), .val (.int p6), .val (.int (p3 ^^^ p4)), .val (.int (p1 &&& (7 : Int32))), .val (.ref b7), .val (.int (0 : Int32)), .val (.int (0 : Int32)), .val (.int (0 : Int32)), .val (.int (own_fb (0 : Int32) (0 : Int32) p2 p3 p5 p6)), .unset] [])) _
    refine XS.iload X13.here hx rfl (hb hby at_286) rfl ?_
    show Steps p.tables e below (T13.setTop (mkF m 288 #[.val (.int p1), .val (.int p2), .val (.int p3), .val (.int p4), .val (.int p5), .val (.int p6), .val (.int (p3 ^^^ p4)), .val (.int (p1 &&& (7 : Int32))), .val (.ref b7), .val (.int (0 : Int32)), .val (.int (0 : Int32)), .val (.int (0 : Int32)), .val (.int (own_fb (0 : Int32) (0 : Int32) p2 p3 p5 p6)), .unset] [(.int (0 : Int32))])) _
    refine XS.ifYes X13.here hx rfl (pc0 := 288) (pc' := 313) rfl (hb hby at_288) rfl ((if0 _ _).trans (teq (rfl : (0 : Int32) = (0 : Int32))).1) (by decide) (by decide) ?_
    show Steps p.tables e below (T13.setTop (mkF m 313 #[.val (.int p1), .val (.int p2), .val (.int p3), .val (.int p4), .val (.int p5), .val (.int p6), .val (.int (p3 ^^^ p4)), .val (.int (p1 &&& (7 : Int32))), .val (.ref b7), .val (.int (0 : Int32)), .val (.int (0 : Int32)), .val (.int (0 : Int32)), .val (.int (own_fb (0 : Int32) (0 : Int32) p2 p3 p5 p6)), .unset] [])) _
    refine XS.iconst X13.here hx rfl (hb hby at_313) ?_
    show Steps p.tables e below (T13.setTop (mkF m 314 #[.val (.int p1), .val (.int p2), .val (.int p3), .val (.int p4), .val (.int p5), .val (.int p6), .val (.int (p3 ^^^ p4)), .val (.int (p1 &&& (7 : Int32))), .val (.ref b7), .val (.int (0 : Int32)), .val (.int (0 : Int32)), .val (.int (0 : Int32)), .val (.int (own_fb (0 : Int32) (0 : Int32) p2 p3 p5 p6)), .unset] [(.int (0 : Int32))])) _
    refine XS.istore X13.here hx rfl (hb hby at_314) rfl (l' := #[.val (.int p1), .val (.int p2), .val (.int p3), .val (.int p4), .val (.int p5), .val (.int p6), .val (.int (p3 ^^^ p4)), .val (.int (p1 &&& (7 : Int32))), .val (.ref b7), .val (.int (0 : Int32)), .val (.int (0 : Int32)), .val (.int (0 : Int32)), .val (.int (own_fb (0 : Int32) (0 : Int32) p2 p3 p5 p6)), .val (.int (0 : Int32))]) rfl ?_
    show Steps p.tables e below (T13.setTop (mkF m 316 #[.val (.int p1), .val (.int p2), .val (.int p3), .val (.int p4), .val (.int p5), .val (.int p6), .val (.int (p3 ^^^ p4)), .val (.int (p1 &&& (7 : Int32))), .val (.ref b7), .val (.int (0 : Int32)), .val (.int (0 : Int32)), .val (.int (0 : Int32)), .val (.int (own_fb (0 : Int32) (0 : Int32) p2 p3 p5 p6)), .val (.int (0 : Int32))] [])) _
    refine XS.iload X13.here hx rfl (hb hby at_316) rfl ?_
    show Steps p.tables e below (T13.setTop (mkF m 318 #[.val (.int p1), .val (.int p2), .val (.int p3), .val (.int p4), .val (.int p5), .val (.int p6), .val (.int (p3 ^^^ p4)), .val (.int (p1 &&& (7 : Int32))), .val (.ref b7), .val (.int (0 : Int32)), .val (.int (0 : Int32)), .val (.int (0 : Int32)), .val (.int (own_fb (0 : Int32) (0 : Int32) p2 p3 p5 p6)), .val (.int (0 : Int32))] [(.int (own_fb (0 : Int32) (0 : Int32) p2 p3 p5 p6))])) _
    refine XS.iload X13.here hx rfl (hb hby at_318) rfl ?_
    show Steps p.tables e below (T13.setTop (mkF m 320 #[.val (.int p1), .val (.int p2), .val (.int p3), .val (.int p4), .val (.int p5), .val (.int p6), .val (.int (p3 ^^^ p4)), .val (.int (p1 &&& (7 : Int32))), .val (.ref b7), .val (.int (0 : Int32)), .val (.int (0 : Int32)), .val (.int (0 : Int32)), .val (.int (own_fb (0 : Int32) (0 : Int32) p2 p3 p5 p6)), .val (.int (0 : Int32))] [(.int (0 : Int32)), (.int (own_fb (0 : Int32) (0 : Int32) p2 p3 p5 p6))])) _
    refine XS.icmpNo X13.here hx rfl (hb hby at_320) rfl (teq (own_none (by decide) : (own_fb (0 : Int32) (0 : Int32) p2 p3 p5 p6) = (0 : Int32))).2 ?_
    show Steps p.tables e below (T13.setTop (mkF m 323 #[.val (.int p1), .val (.int p2), .val (.int p3), .val (.int p4), .val (.int p5), .val (.int p6), .val (.int (p3 ^^^ p4)), .val (.int (p1 &&& (7 : Int32))), .val (.ref b7), .val (.int (0 : Int32)), .val (.int (0 : Int32)), .val (.int (0 : Int32)), .val (.int (own_fb (0 : Int32) (0 : Int32) p2 p3 p5 p6)), .val (.int (0 : Int32))] [])) _
    refine XS.iconst X13.here hx rfl (hb hby at_323) ?_
    show Steps p.tables e below (T13.setTop (mkF m 324 #[.val (.int p1), .val (.int p2), .val (.int p3), .val (.int p4), .val (.int p5), .val (.int p6), .val (.int (p3 ^^^ p4)), .val (.int (p1 &&& (7 : Int32))), .val (.ref b7), .val (.int (0 : Int32)), .val (.int (0 : Int32)), .val (.int (0 : Int32)), .val (.int (own_fb (0 : Int32) (0 : Int32) p2 p3 p5 p6)), .val (.int (0 : Int32))] [(.int (1 : Int32))])) _
    refine XS.goto X13.here hx rfl (pc0 := 324) (pc' := 328) rfl (hb hby at_324) (by decide) (by decide) ?_
    show Steps p.tables e below (T13.setTop (mkF m 328 #[.val (.int p1), .val (.int p2), .val (.int p3), .val (.int p4), .val (.int p5), .val (.int p6), .val (.int (p3 ^^^ p4)), .val (.int (p1 &&& (7 : Int32))), .val (.ref b7), .val (.int (0 : Int32)), .val (.int (0 : Int32)), .val (.int (0 : Int32)), .val (.int (own_fb (0 : Int32) (0 : Int32) p2 p3 p5 p6)), .val (.int (0 : Int32))] [(.int (1 : Int32))])) _
    exact retN X13 hx (t := .boolean) Bd.returns (by simp) (hb hby at_328) hr
  · show Q0 Z p1 p2 p3 p4 p5 p6 h0 n0 _ T13.heap _
    exact ⟨rfl, N13⟩
set_option maxRecDepth 65536 in
set_option maxHeartbeats 40000000 in
theorem rm0_7 (l : Launch) (Z : State) (a0 : Array Value) (hw : ∀ d ∈ tables_1, d.before a0 Z = true) (ws : List Jvm.Cond) (p1 : Int32) (p2 : Int32) (p3 : Int32) (p4 : Int32) (p5 : Int32) (p6 : Int32) (h0 : Heap) (n0 : Nat) (Z0 : n0 ≤ h0.size) (hc31 : ¬ ((p1 &&& (7 : Int32)) = (0 : Int32))) (hc43 : ¬ ((p1 &&& (7 : Int32)) = (1 : Int32))) (hc68 : ¬ ((p1 &&& (7 : Int32)) = (2 : Int32))) (hc101 : ¬ ((p1 &&& (7 : Int32)) = (3 : Int32))) (hc140 : ¬ ((p1 &&& (7 : Int32)) = (4 : Int32))) (hc164 : ¬ ((p1 &&& (7 : Int32)) = (5 : Int32))) (hc204 : ¬ ((p1 &&& (7 : Int32)) = (6 : Int32))) (hc288 : ¬ ((1 : Int32) = (0 : Int32))) :
    MetFree l x (head1 (Jvm.Cond.code x code maxLocals ret :: ws) room_1) (fun a U => a = #[(.int p1), (.int p2), (.int p3), (.int p4), (.int p5), (.int p6)] ∧ Z.Warmed39 U.vm ∧ U.heap = h0) (fun _ _ _ _ _ => True) (fun _ U o U' => ∃ v L, o = .returned v ∧ Q0 Z p1 p2 p3 p4 p5 p6 h0 n0 v U'.heap L ∧ FrameEnd U o U' L room_1.cells room_1.slots) := by
  refine MetFree.of_bodySF (plainFor_of_name pn_0) hisR ?_
  intro p e s m args below meth c s₁ Bd hml0 hP hK
  obtain ⟨rfl, hZ, hh⟩ := hP
  have hx := Bd.exec
  have hby := Bd.bytes
  have hml : c.maxLocals = 14 := hml0
  have hown : s.vm.findClass "overmark/NotedPlacesFirstBeforePinLaw" = some m.cls := findClass_of_methodNamed Bd.named
  have hnm := (name_of_methodNamed Bd.named Bd.method).1
  have X0 : Stand p l e room_1 s m #[(.int p1), (.int p2), (.int p3), (.int p4), (.int p5), (.int p6)] below meth c s₁ [] 0 0 := Stand.of_body Bd
  have e0 : s₁.heap = h0 := by rw [← hh, Bd.state]; rfl
  have N0 := Fr.nil n0
  have pre0 : ∀ t, Steps p.tables e below (s₁.setTop (mkF m 0 #[.val (.int p1), .val (.int p2), .val (.int p3), .val (.int p4), .val (.int p5), .val (.int p6), .unset, .unset, .unset, .unset, .unset, .unset, .unset, .unset] [])) t → Steps p.tables e below (s₁.setTop (entryFrame m #[(.int p1), (.int p2), (.int p3), (.int p4), (.int p5), (.int p6)] maxLocals)) t := fun t k => castTop (ef_0 m p1 p2 p3 p4 p5 p6) k
  obtain ⟨T7, h7, X7, e7, E7, A7, D7, -, st7⟩ := newO X0 hx hZ hown (hw _ (List.mem_of_getElem? (i := 0) rfl)) (hw _ (List.mem_of_getElem? (i := 1) rfl)) (hw _ (List.mem_of_getElem? (i := 2) rfl)) e0 (g := (mkF m 11 #[.val (.int p1), .val (.int p2), .val (.int p3), .val (.int p4), .val (.int p5), .val (.int p6), .val (.int (p3 ^^^ p4)), .val (.int (p1 &&& (7 : Int32))), .unset, .unset, .unset, .unset, .unset, .unset] [])) rfl (hb hby at_11) (by decide) (by decide)
  obtain ⟨b7, g7⟩ : ∃ z, z = h0.size := ⟨_, rfl⟩
  rw [← g7] at A7 D7 st7
  have F_lines_b7 : Fld Z h7 b7 "overmark/NotedPlaces" "lines" "[I" .null := D7 (Or.inl (hw _ (List.mem_of_getElem? (i := 11) rfl))) (ty := (.array .int)) (by decide)
  have F_columns_b7 : Fld Z h7 b7 "overmark/NotedPlaces" "columns" "[I" .null := D7 (Or.inl (hw _ (List.mem_of_getElem? (i := 13) rfl))) (ty := (.array .int)) (by decide)
  have F_labels_b7 : Fld Z h7 b7 "overmark/NotedPlaces" "labels" "[Ljava/lang/String;" .null := D7 (Or.inl (hw _ (List.mem_of_getElem? (i := 17) rfl))) (ty := (.array (.object "java/lang/String"))) (by decide)
  have F_first_b7 : Fld Z h7 b7 "overmark/NotedPlaces" "first" "I" (.int (0 : Int32)) := D7 (Or.inl (hw _ (List.mem_of_getElem? (i := 24) rfl))) (ty := .int) (by decide)
  have F_end_b7 : Fld Z h7 b7 "overmark/NotedPlaces" "end" "I" (.int (0 : Int32)) := D7 (Or.inl (hw _ (List.mem_of_getElem? (i := 26) rfl))) (ty := .int) (by decide)
  have E_b7 := A7
  have g_b7 : n0 ≤ b7 := Nat.le_trans Z0 (Nat.le_of_eq g7.symm)
  have sz_b7 : h0.size ≤ b7 := (Nat.le_trans (Keep.refl h0 []).1 (Nat.le_of_eq g7.symm))
  have K7 : Keep h0 h7 [] := (Keep.refl h0 []).ext E7
  obtain ⟨_, _, ⟨T8, L8, k8, n8⟩, -, X8, ⟨Lc8, hQ8, l8, y8, z8⟩, st8⟩ := X7.specialBack hx (y := (⟨"overmark/NotedPlaces", "<init>", "()V"⟩ : MethodName)) rfl hown (mvT hZ (hw _ (List.mem_of_getElem? (i := 3) rfl))) (mvT hZ (hw _ (List.mem_of_getElem? (i := 4) rfl))) (mvT hZ (hw _ (List.mem_of_getElem? (i := 5) rfl))) (by decide) (backOf (W := 1) (rm1 l Z a0 hw [] b7 .null .null .null h7 n0 (Nat.le_trans Z0 E7.1) E_b7 F_lines_b7 g_b7 F_columns_b7 F_labels_b7 F_first_b7 F_end_b7) hZ (hw _ (List.mem_of_getElem? (i := 5) rfl)) (hw _ (List.mem_of_getElem? (i := 2) rfl)) (by decide) (by decide)) (g := (mkF m 15 #[.val (.int p1), .val (.int p2), .val (.int p3), .val (.int p4), .val (.int p5), .val (.int p6), .val (.int (p3 ^^^ p4)), .val (.int (p1 &&& (7 : Int32))), .unset, .unset, .unset, .unset, .unset, .unset] [(.ref b7), (.ref b7)])) rfl (by rw [hml]; rfl) (Steps.refl _) (a := b7) (argsL := []) (rest := [(.ref b7)]) (lenOf pd_0_0 rfl) rfl (by show 2 * 0 + _ ≤ _; exact Nat.le_of_eq rfl) (hb hby at_15) (fun _ _ => ⟨rfl, e7, (by decide : 1 + 3 ≤ _), (by decide : 5 + 3072 ≤ _)⟩)
  dsimp only [Pt.U, Pt.locs, Pt.cells, Pt.slots] at X8 l8 y8 z8 st8 hQ8
  subst l8 y8 z8
  obtain ⟨rfl, N8q, hs8, np8⟩ := hQ8
  have Z8 : n0 ≤ T8.heap.size := Nat.le_trans (Nat.le_trans Z0 E7.1) hs8
  have N8 := Fr.app N0 N8q
  obtain ⟨cq9, kq9, q9a, q9b, q9c⟩ := isOf hZ rfl (own_exa np8)
  obtain ⟨_, _, ⟨T9, L9, k9, n9⟩, -, X9, ⟨Lc9, hQ9, l9, y9, z9⟩, st9⟩ := X8.virtualBack hx (y := (⟨"overmark/NotedPlaces", "note", "(II)V"⟩ : MethodName)) (z := (⟨"overmark/NotedPlaces", "note", "(II)V"⟩ : MethodName)) hown (mvT hZ (hw _ (List.mem_of_getElem? (i := 27) rfl))) (mvT hZ (hw _ (List.mem_of_getElem? (i := 28) rfl))) (notFace_of_selects (args := #[]) (mvT hZ (hw _ (List.mem_of_getElem? (i := 30) rfl)))) (mvT hZ (hw _ (List.mem_of_getElem? (i := 30) rfl))) (mvT hZ (hw _ (List.mem_of_getElem? (i := 29) rfl))) (by decide) (backOf (W := 0) (rm4 l Z a0 hw [] b7 p2 p3 (0 : Int32) (0 : Int32) (1 : Int32) 0 [(.int (0 : Int32)), (.int (0 : Int32)), (.int (0 : Int32))] [(.int (0 : Int32)), (.int (0 : Int32)), (.int (0 : Int32))] [.null, .null, .null] T8.heap n0 Z8 np8 rfl (by decide) (by decide) (by decide) (Nat.le_of_ble_eq_true rfl) (Nat.le_of_ble_eq_true rfl) (Nat.le_of_ble_eq_true rfl)) hZ (hw _ (List.mem_of_getElem? (i := 31) rfl)) (hw _ (List.mem_of_getElem? (i := 2) rfl)) (by decide) (by decide)) q9a q9c (g := (mkF m 242 #[.val (.int p1), .val (.int p2), .val (.int p3), .val (.int p4), .val (.int p5), .val (.int p6), .val (.int (p3 ^^^ p4)), .val (.int (p1 &&& (7 : Int32))), .val (.ref b7), .val (.int (0 : Int32)), .val (.int (0 : Int32)), .val (.int (0 : Int32)), .unset, .unset] [(.int p3), (.int p2), (.ref b7)])) rfl (by rw [hml]; rfl) (Steps.refl _) (argsL := [(.int p2), (.int p3)]) (rest := []) (lenOf pd_0_2 rfl) rfl (by show 2 * 0 + _ ≤ _; exact Nat.le_of_eq rfl) (hb hby at_242) (fun _ _ => ⟨rfl, rfl, (by decide : 4 + 0 ≤ _), (by decide : 3077 + 0 ≤ _)⟩)
  dsimp only [Pt.U, Pt.locs, Pt.cells, Pt.slots] at X9 l9 y9 z9 st9 hQ9
  subst l9 y9 z9
  obtain ⟨rfl, N9q, hs9, nq9⟩ := hQ9
  have Z9 : n0 ≤ T9.heap.size := Nat.le_trans Z8 hs9
  have np9 : NP Z T9.heap n0 b7 (0 : Int32) (1 : Int32) [(.int p2), (.int (0 : Int32)), (.int (0 : Int32))] [(.int p3), (.int (0 : Int32)), (.int (0 : Int32))] [.null, .null, .null] := nq9
  have N9 := Fr.app N8 N9q
  obtain ⟨cq10, kq10, q10a, q10b, q10c⟩ := isOf hZ rfl (own_exa np9)
  obtain ⟨_, _, ⟨T10, L10, k10, n10⟩, -, X10, ⟨Lc10, hQ10, l10, y10, z10⟩, st10⟩ := X9.virtualBack hx (y := (⟨"overmark/NotedPlaces", "note", "(II)V"⟩ : MethodName)) (z := (⟨"overmark/NotedPlaces", "note", "(II)V"⟩ : MethodName)) hown (mvT hZ (hw _ (List.mem_of_getElem? (i := 27) rfl))) (mvT hZ (hw _ (List.mem_of_getElem? (i := 28) rfl))) (notFace_of_selects (args := #[]) (mvT hZ (hw _ (List.mem_of_getElem? (i := 30) rfl)))) (mvT hZ (hw _ (List.mem_of_getElem? (i := 30) rfl))) (mvT hZ (hw _ (List.mem_of_getElem? (i := 29) rfl))) (by decide) (backOf (W := 0) (rm4 l Z a0 hw [] b7 p4 (p3 ^^^ p4) (0 : Int32) (1 : Int32) (2 : Int32) 1 [(.int p2), (.int (0 : Int32)), (.int (0 : Int32))] [(.int p3), (.int (0 : Int32)), (.int (0 : Int32))] [.null, .null, .null] T9.heap n0 Z9 np9 rfl (by decide) (by decide) (by decide) (Nat.le_of_ble_eq_true rfl) (Nat.le_of_ble_eq_true rfl) (Nat.le_of_ble_eq_true rfl)) hZ (hw _ (List.mem_of_getElem? (i := 31) rfl)) (hw _ (List.mem_of_getElem? (i := 2) rfl)) (by decide) (by decide)) q10a q10c (g := (mkF m 250 #[.val (.int p1), .val (.int p2), .val (.int p3), .val (.int p4), .val (.int p5), .val (.int p6), .val (.int (p3 ^^^ p4)), .val (.int (p1 &&& (7 : Int32))), .val (.ref b7), .val (.int (0 : Int32)), .val (.int (0 : Int32)), .val (.int (0 : Int32)), .unset, .unset] [(.int (p3 ^^^ p4)), (.int p4), (.ref b7)])) rfl (by rw [hml]; rfl) (Steps.refl _) (argsL := [(.int p4), (.int (p3 ^^^ p4))]) (rest := []) (lenOf pd_0_2 rfl) rfl (by show 2 * 0 + _ ≤ _; exact Nat.le_of_eq rfl) (hb hby at_250) (fun _ _ => ⟨rfl, rfl, (by decide : 4 + 0 ≤ _), (by decide : 3077 + 0 ≤ _)⟩)
  dsimp only [Pt.U, Pt.locs, Pt.cells, Pt.slots] at X10 l10 y10 z10 st10 hQ10
  subst l10 y10 z10
  obtain ⟨rfl, N10q, hs10, nq10⟩ := hQ10
  have Z10 : n0 ≤ T10.heap.size := Nat.le_trans Z9 hs10
  have np10 : NP Z T10.heap n0 b7 (0 : Int32) (2 : Int32) [(.int p2), (.int p4), (.int (0 : Int32))] [(.int p3), (.int (p3 ^^^ p4)), (.int (0 : Int32))] [.null, .null, .null] := nq10
  have N10 := Fr.app N9 N10q
  obtain ⟨cq11, kq11, q11a, q11b, q11c⟩ := isOf hZ rfl (own_exa np10)
  obtain ⟨_, _, ⟨T11, L11, k11, n11⟩, -, X11, ⟨Lc11, hQ11, l11, y11, z11⟩, st11⟩ := X10.virtualBack hx (y := (⟨"overmark/NotedPlaces", "letGoFirst", "()V"⟩ : MethodName)) (z := (⟨"overmark/NotedPlaces", "letGoFirst", "()V"⟩ : MethodName)) hown (mvT hZ (hw _ (List.mem_of_getElem? (i := 32) rfl))) (mvT hZ (hw _ (List.mem_of_getElem? (i := 33) rfl))) (notFace_of_selects (args := #[]) (mvT hZ (hw _ (List.mem_of_getElem? (i := 35) rfl)))) (mvT hZ (hw _ (List.mem_of_getElem? (i := 35) rfl))) (mvT hZ (hw _ (List.mem_of_getElem? (i := 34) rfl))) (by decide) (backOf (W := 0) (rm5t l Z a0 hw [] b7 (0 : Int32) (2 : Int32) (1 : Int32) [(.int p2), (.int p4), (.int (0 : Int32))] [(.int p3), (.int (p3 ^^^ p4)), (.int (0 : Int32))] [.null, .null, .null] T10.heap n0 Z10 np10 (by decide) (by decide)) hZ (hw _ (List.mem_of_getElem? (i := 36) rfl)) (hw _ (List.mem_of_getElem? (i := 2) rfl)) (by decide) (by decide)) q11a q11c (g := (mkF m 255 #[.val (.int p1), .val (.int p2), .val (.int p3), .val (.int p4), .val (.int p5), .val (.int p6), .val (.int (p3 ^^^ p4)), .val (.int (p1 &&& (7 : Int32))), .val (.ref b7), .val (.int (0 : Int32)), .val (.int (0 : Int32)), .val (.int (0 : Int32)), .unset, .unset] [(.ref b7)])) rfl (by rw [hml]; rfl) (Steps.refl _) (argsL := []) (rest := []) (lenOf pd_0_0 rfl) rfl (by show 2 * 0 + _ ≤ _; exact Nat.le_of_eq rfl) (hb hby at_255) (fun _ _ => ⟨rfl, rfl, (by decide : 4 + 0 ≤ _), (by decide : 3077 + 0 ≤ _)⟩)
  dsimp only [Pt.U, Pt.locs, Pt.cells, Pt.slots] at X11 l11 y11 z11 st11 hQ11
  subst l11 y11 z11
  obtain ⟨rfl, N11q, hs11, nq11⟩ := hQ11
  have Z11 : n0 ≤ T11.heap.size := Nat.le_trans Z10 hs11
  have np11 : NP Z T11.heap n0 b7 (1 : Int32) (2 : Int32) [(.int p2), (.int p4), (.int (0 : Int32))] [(.int p3), (.int (p3 ^^^ p4)), (.int (0 : Int32))] [.null, .null, .null] := nq11
  have N11 := Fr.app N10 N11q
  obtain ⟨cq12, kq12, q12a, q12b, q12c⟩ := isOf hZ rfl (own_exa np11)
  obtain ⟨_, _, ⟨T12, L12, k12, n12⟩, -, X12, ⟨Lc12, hQ12, l12, y12, z12⟩, st12⟩ := X11.virtualBack hx (y := (⟨"overmark/NotedPlaces", "note", "(II)V"⟩ : MethodName)) (z := (⟨"overmark/NotedPlaces", "note", "(II)V"⟩ : MethodName)) hown (mvT hZ (hw _ (List.mem_of_getElem? (i := 27) rfl))) (mvT hZ (hw _ (List.mem_of_getElem? (i := 28) rfl))) (notFace_of_selects (args := #[]) (mvT hZ (hw _ (List.mem_of_getElem? (i := 30) rfl)))) (mvT hZ (hw _ (List.mem_of_getElem? (i := 30) rfl))) (mvT hZ (hw _ (List.mem_of_getElem? (i := 29) rfl))) (by decide) (backOf (W := 0) (rm4 l Z a0 hw [] b7 p2 p3 (1 : Int32) (2 : Int32) (3 : Int32) 2 [(.int p2), (.int p4), (.int (0 : Int32))] [(.int p3), (.int (p3 ^^^ p4)), (.int (0 : Int32))] [.null, .null, .null] T11.heap n0 Z11 np11 rfl (by decide) (by decide) (by decide) (Nat.le_of_ble_eq_true rfl) (Nat.le_of_ble_eq_true rfl) (Nat.le_of_ble_eq_true rfl)) hZ (hw _ (List.mem_of_getElem? (i := 31) rfl)) (hw _ (List.mem_of_getElem? (i := 2) rfl)) (by decide) (by decide)) q12a q12c (g := (mkF m 262 #[.val (.int p1), .val (.int p2), .val (.int p3), .val (.int p4), .val (.int p5), .val (.int p6), .val (.int (p3 ^^^ p4)), .val (.int (p1 &&& (7 : Int32))), .val (.ref b7), .val (.int (0 : Int32)), .val (.int (0 : Int32)), .val (.int (0 : Int32)), .unset, .unset] [(.int p3), (.int p2), (.ref b7)])) rfl (by rw [hml]; rfl) (Steps.refl _) (argsL := [(.int p2), (.int p3)]) (rest := []) (lenOf pd_0_2 rfl) rfl (by show 2 * 0 + _ ≤ _; exact Nat.le_of_eq rfl) (hb hby at_262) (fun _ _ => ⟨rfl, rfl, (by decide : 4 + 0 ≤ _), (by decide : 3077 + 0 ≤ _)⟩)
  dsimp only [Pt.U, Pt.locs, Pt.cells, Pt.slots] at X12 l12 y12 z12 st12 hQ12
  subst l12 y12 z12
  obtain ⟨rfl, N12q, hs12, nq12⟩ := hQ12
  have Z12 : n0 ≤ T12.heap.size := Nat.le_trans Z11 hs12
  have np12 : NP Z T12.heap n0 b7 (1 : Int32) (3 : Int32) [(.int p2), (.int p4), (.int p2)] [(.int p3), (.int (p3 ^^^ p4)), (.int p3)] [.null, .null, .null] := nq12
  have N12 := Fr.app N11 N12q
  obtain ⟨cq13, kq13, q13a, q13b, q13c⟩ := isOf hZ rfl (own_exa np12)
  obtain ⟨_, _, ⟨T13, L13, k13, n13⟩, -, X13, ⟨Lc13, hQ13, l13, y13, z13⟩, st13⟩ := X12.virtualBack hx (y := (⟨"overmark/NotedPlaces", "firstBefore", "(II)Z"⟩ : MethodName)) (z := (⟨"overmark/NotedPlaces", "firstBefore", "(II)Z"⟩ : MethodName)) hown (mvT hZ (hw _ (List.mem_of_getElem? (i := 18) rfl))) (mvT hZ (hw _ (List.mem_of_getElem? (i := 19) rfl))) (notFace_of_selects (args := #[]) (mvT hZ (hw _ (List.mem_of_getElem? (i := 21) rfl)))) (mvT hZ (hw _ (List.mem_of_getElem? (i := 21) rfl))) (mvT hZ (hw _ (List.mem_of_getElem? (i := 20) rfl))) (by decide) (backOf (W := 0) (rm3 l Z a0 hw [] b7 p5 p6 (1 : Int32) (3 : Int32) p4 (p3 ^^^ p4) 1 [(.int p2), (.int p4), (.int p2)] [(.int p3), (.int (p3 ^^^ p4)), (.int p3)] [.null, .null, .null] T12.heap n0 Z12 np12 rfl (by decide) (by decide) rfl rfl) hZ (hw _ (List.mem_of_getElem? (i := 22) rfl)) (hw _ (List.mem_of_getElem? (i := 2) rfl)) (by decide) (by decide)) q13a q13c (g := (mkF m 281 #[.val (.int p1), .val (.int p2), .val (.int p3), .val (.int p4), .val (.int p5), .val (.int p6), .val (.int (p3 ^^^ p4)), .val (.int (p1 &&& (7 : Int32))), .val (.ref b7), .val (.int (1 : Int32)), .val (.int p4), .val (.int (p3 ^^^ p4)), .unset, .unset] [(.int p6), (.int p5), (.ref b7)])) rfl (by rw [hml]; rfl) (Steps.refl _) (argsL := [(.int p5), (.int p6)]) (rest := []) (lenOf pd_0_1 rfl) rfl (by show 2 * 0 + _ ≤ _; exact Nat.le_of_eq rfl) (hb hby at_281) (fun _ _ => ⟨rfl, rfl, (by decide : 4 + 0 ≤ _), (by decide : 3077 + 0 ≤ _)⟩)
  dsimp only [Pt.U, Pt.locs, Pt.cells, Pt.slots] at X13 l13 y13 z13 st13 hQ13
  subst l13 y13 z13
  obtain ⟨rfl, N13q, e13⟩ := hQ13
  have Z13 : n0 ≤ T13.heap.size := by rw [e13]; exact Z12
  have N13 := Fr.app N12 N13q
  obtain ⟨_, _, ⟨T14, L14, k14, n14⟩, -, X14, ⟨Lc14, hQ14, l14, y14, z14⟩, st14⟩ := Jvm.LawKit.callS X13 hx (y := (⟨"overmark/NotedPlacesFirstBeforePinLaw", "key", "(II)J"⟩ : MethodName)) hown (mvT hZ (hw _ (List.mem_of_getElem? (i := 37) rfl))) (mvT hZ (hw _ (List.mem_of_getElem? (i := 38) rfl))) (mvT hZ (hw _ (List.mem_of_getElem? (i := 39) rfl))) (mvT hZ (hw _ (List.mem_of_getElem? (i := 40) rfl))) (by decide) (backOf (W := 0) (rm6 l Z a0 hw [] p4 (p3 ^^^ p4) T13.heap n0 Z13) hZ (hw _ (List.mem_of_getElem? (i := 40) rfl)) (hw _ (List.mem_of_getElem? (i := 39) rfl)) (by decide) (by decide)) (g := (mkF m 295 #[.val (.int p1), .val (.int p2), .val (.int p3), .val (.int p4), .val (.int p5), .val (.int p6), .val (.int (p3 ^^^ p4)), .val (.int (p1 &&& (7 : Int32))), .val (.ref b7), .val (.int (1 : Int32)), .val (.int p4), .val (.int (p3 ^^^ p4)), .val (.int (own_fb (1 : Int32) (3 : Int32) p4 (p3 ^^^ p4) p5 p6)), .unset] [(.int (p3 ^^^ p4)), (.int p4)])) rfl (by rw [hml]; rfl) (argsL := [(.int p4), (.int (p3 ^^^ p4))]) (rest := []) (lenOf pd_0_3 rfl) rfl (by show 2 * 0 + _ ≤ _; exact Nat.le_of_eq rfl) (hb hby at_295) (fun _ _ => ⟨rfl, rfl, (by decide : 4 + 0 ≤ _), (by decide : 3077 + 0 ≤ _)⟩)
  dsimp only [Pt.U, Pt.locs, Pt.cells, Pt.slots] at X14 l14 y14 z14 st14 hQ14
  subst l14 y14 z14
  obtain ⟨rfl, N14q, e14⟩ := hQ14
  have Z14 : n0 ≤ T14.heap.size := by rw [e14]; exact Z13
  have N14 := Fr.app N13 N14q
  obtain ⟨_, _, ⟨T15, L15, k15, n15⟩, -, X15, ⟨Lc15, hQ15, l15, y15, z15⟩, st15⟩ := Jvm.LawKit.callS X14 hx (y := (⟨"overmark/NotedPlacesFirstBeforePinLaw", "key", "(II)J"⟩ : MethodName)) hown (mvT hZ (hw _ (List.mem_of_getElem? (i := 37) rfl))) (mvT hZ (hw _ (List.mem_of_getElem? (i := 38) rfl))) (mvT hZ (hw _ (List.mem_of_getElem? (i := 39) rfl))) (mvT hZ (hw _ (List.mem_of_getElem? (i := 40) rfl))) (by decide) (backOf (W := 2) (rm6 l Z a0 hw [] p5 p6 T14.heap n0 Z14) hZ (hw _ (List.mem_of_getElem? (i := 40) rfl)) (hw _ (List.mem_of_getElem? (i := 39) rfl)) (by decide) (by decide)) (g := (mkF m 302 #[.val (.int p1), .val (.int p2), .val (.int p3), .val (.int p4), .val (.int p5), .val (.int p6), .val (.int (p3 ^^^ p4)), .val (.int (p1 &&& (7 : Int32))), .val (.ref b7), .val (.int (1 : Int32)), .val (.int p4), .val (.int (p3 ^^^ p4)), .val (.int (own_fb (1 : Int32) (3 : Int32) p4 (p3 ^^^ p4) p5 p6)), .unset] [(.int p6), (.int p5), (.long (own_key p4 (p3 ^^^ p4)))])) rfl (by rw [hml]; rfl) (argsL := [(.int p5), (.int p6)]) (rest := [(.long (own_key p4 (p3 ^^^ p4)))]) (lenOf pd_0_3 rfl) rfl (by show 2 * 0 + _ ≤ _; exact Nat.le_of_eq rfl) (hb hby at_302) (fun _ _ => ⟨rfl, rfl, (by decide : 4 + 0 ≤ _), (by decide : 3077 + 0 ≤ _)⟩)
  dsimp only [Pt.U, Pt.locs, Pt.cells, Pt.slots] at X15 l15 y15 z15 st15 hQ15
  subst l15 y15 z15
  obtain ⟨rfl, N15q, e15⟩ := hQ15
  have Z15 : n0 ≤ T15.heap.size := by rw [e15]; exact Z14
  have N15 := Fr.app N14 N15q
  obtain ⟨fs, hr, hrun, hended, hW, hsame⟩ := X15.leave (v := some (.int (1 : Int32))) (fun h => by rw [Bd.returns] at h; cases h)
  refine ⟨_, _, pre0 _ ?_, hrun, hended, _, _, rfl, ?_, ⟨_, rfl⟩, hW, hsame.mono (by decide) (by decide)⟩
  · show Steps p.tables e below (s₁.setTop (mkF m 0 #[.val (.int p1), .val (.int p2), .val (.int p3), .val (.int p4), .val (.int p5), .val (.int p6), .unset, .unset, .unset, .unset, .unset, .unset, .unset, .unset] [])) _
    refine XS.iloadN X0.here hx rfl (hb hby at_0) rfl ?_
    show Steps p.tables e below (s₁.setTop (mkF m 1 #[.val (.int p1), .val (.int p2), .val (.int p3), .val (.int p4), .val (.int p5), .val (.int p6), .unset, .unset, .unset, .unset, .unset, .unset, .unset, .unset] [(.int p3)])) _
    refine XS.iloadN X0.here hx rfl (hb hby at_1) rfl ?_
    show Steps p.tables e below (s₁.setTop (mkF m 2 #[.val (.int p1), .val (.int p2), .val (.int p3), .val (.int p4), .val (.int p5), .val (.int p6), .unset, .unset, .unset, .unset, .unset, .unset, .unset, .unset] [(.int p4), (.int p3)])) _
    refine XS.ixor X0.here hx rfl (hb hby at_2) rfl ?_
    show Steps p.tables e below (s₁.setTop (mkF m 3 #[.val (.int p1), .val (.int p2), .val (.int p3), .val (.int p4), .val (.int p5), .val (.int p6), .unset, .unset, .unset, .unset, .unset, .unset, .unset, .unset] [(.int (p3 ^^^ p4))])) _
    refine XS.istore X0.here hx rfl (hb hby at_3) rfl (l' := #[.val (.int p1), .val (.int p2), .val (.int p3), .val (.int p4), .val (.int p5), .val (.int p6), .val (.int (p3 ^^^ p4)), .unset, .unset, .unset, .unset, .unset, .unset, .unset]) rfl ?_
    show Steps p.tables e below (s₁.setTop (mkF m 5 #[.val (.int p1), .val (.int p2), .val (.int p3), .val (.int p4), .val (.int p5), .val (.int p6), .val (.int (p3 ^^^ p4)), .unset, .unset, .unset, .unset, .unset, .unset, .unset] [])) _
    refine XS.iloadN X0.here hx rfl (hb hby at_5) rfl ?_
    show Steps p.tables e below (s₁.setTop (mkF m 6 #[.val (.int p1), .val (.int p2), .val (.int p3), .val (.int p4), .val (.int p5), .val (.int p6), .val (.int (p3 ^^^ p4)), .unset, .unset, .unset, .unset, .unset, .unset, .unset] [(.int p1)])) _
    refine XS.bipush X0.here hx rfl (hb hby at_6) ?_
    show Steps p.tables e below (s₁.setTop (mkF m 8 #[.val (.int p1), .val (.int p2), .val (.int p3), .val (.int p4), .val (.int p5), .val (.int p6), .val (.int (p3 ^^^ p4)), .unset, .unset, .unset, .unset, .unset, .unset, .unset] [(.int (7 : Int32)), (.int p1)])) _
    refine XS.iand X0.here hx rfl (hb hby at_8) rfl ?_
    show Steps p.tables e below (s₁.setTop (mkF m 9 #[.val (.int p1), .val (.int p2), .val (.int p3), .val (.int p4), .val (.int p5), .val (.int p6), .val (.int (p3 ^^^ p4)), .unset, .unset, .unset, .unset, .unset, .unset, .unset] [(.int (p1 &&& (7 : Int32)))])) _
    refine XS.istore X0.here hx rfl (hb hby at_9) rfl (l' := #[.val (.int p1), .val (.int p2), .val (.int p3), .val (.int p4), .val (.int p5), .val (.int p6), .val (.int (p3 ^^^ p4)), .val (.int (p1 &&& (7 : Int32))), .unset, .unset, .unset, .unset, .unset, .unset]) rfl ?_
    show Steps p.tables e below (s₁.setTop (mkF m 11 #[.val (.int p1), .val (.int p2), .val (.int p3), .val (.int p4), .val (.int p5), .val (.int p6), .val (.int (p3 ^^^ p4)), .val (.int (p1 &&& (7 : Int32))), .unset, .unset, .unset, .unset, .unset, .unset] [])) _
    refine st7 _ ?_
    show Steps p.tables e below (T7.setTop (mkF m 14 #[.val (.int p1), .val (.int p2), .val (.int p3), .val (.int p4), .val (.int p5), .val (.int p6), .val (.int (p3 ^^^ p4)), .val (.int (p1 &&& (7 : Int32))), .unset, .unset, .unset, .unset, .unset, .unset] [(.ref b7)])) _
    refine XS.dup X7.here hx rfl (hb hby at_14) rfl rfl ?_
    show Steps p.tables e below (T7.setTop (mkF m 15 #[.val (.int p1), .val (.int p2), .val (.int p3), .val (.int p4), .val (.int p5), .val (.int p6), .val (.int (p3 ^^^ p4)), .val (.int (p1 &&& (7 : Int32))), .unset, .unset, .unset, .unset, .unset, .unset] [(.ref b7), (.ref b7)])) _
    refine st8.trans ?_
    show Steps p.tables e below (T8.setTop (mkF m 18 #[.val (.int p1), .val (.int p2), .val (.int p3), .val (.int p4), .val (.int p5), .val (.int p6), .val (.int (p3 ^^^ p4)), .val (.int (p1 &&& (7 : Int32))), .unset, .unset, .unset, .unset, .unset, .unset] [(.ref b7)])) _
    refine XS.astore X8.here hx rfl (hb hby at_18) rfl rfl (l' := #[.val (.int p1), .val (.int p2), .val (.int p3), .val (.int p4), .val (.int p5), .val (.int p6), .val (.int (p3 ^^^ p4)), .val (.int (p1 &&& (7 : Int32))), .val (.ref b7), .unset, .unset, .unset, .unset, .unset]) rfl ?_
    show Steps p.tables e below (T8.setTop (mkF m 20 #[.val (.int p1), .val (.int p2), .val (.int p3), .val (.int p4), .val (.int p5), .val (.int p6), .val (.int (p3 ^^^ p4)), .val (.int (p1 &&& (7 : Int32))), .val (.ref b7), .unset, .unset, .unset, .unset, .unset] [])) _
    refine XS.iconst X8.here hx rfl (hb hby at_20) ?_
    show Steps p.tables e below (T8.setTop (mkF m 21 #[.val (.int p1), .val (.int p2), .val (.int p3), .val (.int p4), .val (.int p5), .val (.int p6), .val (.int (p3 ^^^ p4)), .val (.int (p1 &&& (7 : Int32))), .val (.ref b7), .unset, .unset, .unset, .unset, .unset] [(.int (0 : Int32))])) _
    refine XS.istore X8.here hx rfl (hb hby at_21) rfl (l' := #[.val (.int p1), .val (.int p2), .val (.int p3), .val (.int p4), .val (.int p5), .val (.int p6), .val (.int (p3 ^^^ p4)), .val (.int (p1 &&& (7 : Int32))), .val (.ref b7), .val (.int (0 : Int32)), .unset, .unset, .unset, .unset]) rfl ?_
    show Steps p.tables e below (T8.setTop (mkF m 23 #[.val (.int p1), .val (.int p2), .val (.int p3), .val (.int p4), .val (.int p5), .val (.int p6), .val (.int (p3 ^^^ p4)), .val (.int (p1 &&& (7 : Int32))), .val (.ref b7), .val (.int (0 : Int32)), .unset, .unset, .unset, .unset] [])) _
    refine XS.iconst X8.here hx rfl (hb hby at_23) ?_
    show Steps p.tables e below (T8.setTop (mkF m 24 #[.val (.int p1), .val (.int p2), .val (.int p3), .val (.int p4), .val (.int p5), .val (.int p6), .val (.int (p3 ^^^ p4)), .val (.int (p1 &&& (7 : Int32))), .val (.ref b7), .val (.int (0 : Int32)), .unset, .unset, .unset, .unset] [(.int (0 : Int32))])) _
    refine XS.istore X8.here hx rfl (hb hby at_24) rfl (l' := #[.val (.int p1), .val (.int p2), .val (.int p3), .val (.int p4), .val (.int p5), .val (.int p6), .val (.int (p3 ^^^ p4)), .val (.int (p1 &&& (7 : Int32))), .val (.ref b7), .val (.int (0 : Int32)), .val (.int (0 : Int32)), .unset, .unset, .unset]) rfl ?_
    show Steps p.tables e below (T8.setTop (mkF m 26 #[.val (.int p1), .val (.int p2), .val (.int p3), .val (.int p4), .val (.int p5), .val (.int p6), .val (.int (p3 ^^^ p4)), .val (.int (p1 &&& (7 : Int32))), .val (.ref b7), .val (.int (0 : Int32)), .val (.int (0 : Int32)), .unset, .unset, .unset] [])) _
    refine XS.iconst X8.here hx rfl (hb hby at_26) ?_
    show Steps p.tables e below (T8.setTop (mkF m 27 #[.val (.int p1), .val (.int p2), .val (.int p3), .val (.int p4), .val (.int p5), .val (.int p6), .val (.int (p3 ^^^ p4)), .val (.int (p1 &&& (7 : Int32))), .val (.ref b7), .val (.int (0 : Int32)), .val (.int (0 : Int32)), .unset, .unset, .unset] [(.int (0 : Int32))])) _
    refine XS.istore X8.here hx rfl (hb hby at_27) rfl (l' := #[.val (.int p1), .val (.int p2), .val (.int p3), .val (.int p4), .val (.int p5), .val (.int p6), .val (.int (p3 ^^^ p4)), .val (.int (p1 &&& (7 : Int32))), .val (.ref b7), .val (.int (0 : Int32)), .val (.int (0 : Int32)), .val (.int (0 : Int32)), .unset, .unset]) rfl ?_
    show Steps p.tables e below (T8.setTop (mkF m 29 #[.val (.int p1), .val (.int p2), .val (.int p3), .val (.int p4), .val (.int p5), .val (.int p6), .val (.int (p3 ^^^ p4)), .val (.int (p1 &&& (7 : Int32))), .val (.ref b7), .val (.int (0 : Int32)), .val (.int (0 : Int32)), .val (.int (0 : Int32)), .unset, .unset] [])) _
    refine XS.iload X8.here hx rfl (hb hby at_29) rfl ?_
    show Steps p.tables e below (T8.setTop (mkF m 31 #[.val (.int p1), .val (.int p2), .val (.int p3), .val (.int p4), .val (.int p5), .val (.int p6), .val (.int (p3 ^^^ p4)), .val (.int (p1 &&& (7 : Int32))), .val (.ref b7), .val (.int (0 : Int32)), .val (.int (0 : Int32)), .val (.int (0 : Int32)), .unset, .unset] [(.int (p1 &&& (7 : Int32)))])) _
    refine XS.ifYes X8.here hx rfl (pc0 := 31) (pc' := 40) rfl (hb hby at_31) rfl ((if0 _ _).trans (feq hc31).2) (by decide) (by decide) ?_
    show Steps p.tables e below (T8.setTop (mkF m 40 #[.val (.int p1), .val (.int p2), .val (.int p3), .val (.int p4), .val (.int p5), .val (.int p6), .val (.int (p3 ^^^ p4)), .val (.int (p1 &&& (7 : Int32))), .val (.ref b7), .val (.int (0 : Int32)), .val (.int (0 : Int32)), .val (.int (0 : Int32)), .unset, .unset] [])) _
    refine XS.iload X8.here hx rfl (hb hby at_40) rfl ?_
    show Steps p.tables e below (T8.setTop (mkF m 42 #[.val (.int p1), .val (.int p2), .val (.int p3), .val (.int p4), .val (.int p5), .val (.int p6), .val (.int (p3 ^^^ p4)), .val (.int (p1 &&& (7 : Int32))), .val (.ref b7), .val (.int (0 : Int32)), .val (.int (0 : Int32)), .val (.int (0 : Int32)), .unset, .unset] [(.int (p1 &&& (7 : Int32)))])) _
    refine XS.iconst X8.here hx rfl (hb hby at_42) ?_
    show Steps p.tables e below (T8.setTop (mkF m 43 #[.val (.int p1), .val (.int p2), .val (.int p3), .val (.int p4), .val (.int p5), .val (.int p6), .val (.int (p3 ^^^ p4)), .val (.int (p1 &&& (7 : Int32))), .val (.ref b7), .val (.int (0 : Int32)), .val (.int (0 : Int32)), .val (.int (0 : Int32)), .unset, .unset] [(.int (1 : Int32)), (.int (p1 &&& (7 : Int32)))])) _
    refine XS.icmpYes X8.here hx rfl (pc0 := 43) (pc' := 65) rfl (hb hby at_43) rfl (feq hc43).2 (by decide) (by decide) ?_
    show Steps p.tables e below (T8.setTop (mkF m 65 #[.val (.int p1), .val (.int p2), .val (.int p3), .val (.int p4), .val (.int p5), .val (.int p6), .val (.int (p3 ^^^ p4)), .val (.int (p1 &&& (7 : Int32))), .val (.ref b7), .val (.int (0 : Int32)), .val (.int (0 : Int32)), .val (.int (0 : Int32)), .unset, .unset] [])) _
    refine XS.iload X8.here hx rfl (hb hby at_65) rfl ?_
    show Steps p.tables e below (T8.setTop (mkF m 67 #[.val (.int p1), .val (.int p2), .val (.int p3), .val (.int p4), .val (.int p5), .val (.int p6), .val (.int (p3 ^^^ p4)), .val (.int (p1 &&& (7 : Int32))), .val (.ref b7), .val (.int (0 : Int32)), .val (.int (0 : Int32)), .val (.int (0 : Int32)), .unset, .unset] [(.int (p1 &&& (7 : Int32)))])) _
    refine XS.iconst X8.here hx rfl (hb hby at_67) ?_
    show Steps p.tables e below (T8.setTop (mkF m 68 #[.val (.int p1), .val (.int p2), .val (.int p3), .val (.int p4), .val (.int p5), .val (.int p6), .val (.int (p3 ^^^ p4)), .val (.int (p1 &&& (7 : Int32))), .val (.ref b7), .val (.int (0 : Int32)), .val (.int (0 : Int32)), .val (.int (0 : Int32)), .unset, .unset] [(.int (2 : Int32)), (.int (p1 &&& (7 : Int32)))])) _
    refine XS.icmpYes X8.here hx rfl (pc0 := 68) (pc' := 98) rfl (hb hby at_68) rfl (feq hc68).2 (by decide) (by decide) ?_
    show Steps p.tables e below (T8.setTop (mkF m 98 #[.val (.int p1), .val (.int p2), .val (.int p3), .val (.int p4), .val (.int p5), .val (.int p6), .val (.int (p3 ^^^ p4)), .val (.int (p1 &&& (7 : Int32))), .val (.ref b7), .val (.int (0 : Int32)), .val (.int (0 : Int32)), .val (.int (0 : Int32)), .unset, .unset] [])) _
    refine XS.iload X8.here hx rfl (hb hby at_98) rfl ?_
    show Steps p.tables e below (T8.setTop (mkF m 100 #[.val (.int p1), .val (.int p2), .val (.int p3), .val (.int p4), .val (.int p5), .val (.int p6), .val (.int (p3 ^^^ p4)), .val (.int (p1 &&& (7 : Int32))), .val (.ref b7), .val (.int (0 : Int32)), .val (.int (0 : Int32)), .val (.int (0 : Int32)), .unset, .unset] [(.int (p1 &&& (7 : Int32)))])) _
    refine XS.iconst X8.here hx rfl (hb hby at_100) ?_
    show Steps p.tables e below (T8.setTop (mkF m 101 #[.val (.int p1), .val (.int p2), .val (.int p3), .val (.int p4), .val (.int p5), .val (.int p6), .val (.int (p3 ^^^ p4)), .val (.int (p1 &&& (7 : Int32))), .val (.ref b7), .val (.int (0 : Int32)), .val (.int (0 : Int32)), .val (.int (0 : Int32)), .unset, .unset] [(.int (3 : Int32)), (.int (p1 &&& (7 : Int32)))])) _
    refine XS.icmpYes X8.here hx rfl (pc0 := 101) (pc' := 137) rfl (hb hby at_101) rfl (feq hc101).2 (by decide) (by decide) ?_
    show Steps p.tables e below (T8.setTop (mkF m 137 #[.val (.int p1), .val (.int p2), .val (.int p3), .val (.int p4), .val (.int p5), .val (.int p6), .val (.int (p3 ^^^ p4)), .val (.int (p1 &&& (7 : Int32))), .val (.ref b7), .val (.int (0 : Int32)), .val (.int (0 : Int32)), .val (.int (0 : Int32)), .unset, .unset] [])) _
    refine XS.iload X8.here hx rfl (hb hby at_137) rfl ?_
    show Steps p.tables e below (T8.setTop (mkF m 139 #[.val (.int p1), .val (.int p2), .val (.int p3), .val (.int p4), .val (.int p5), .val (.int p6), .val (.int (p3 ^^^ p4)), .val (.int (p1 &&& (7 : Int32))), .val (.ref b7), .val (.int (0 : Int32)), .val (.int (0 : Int32)), .val (.int (0 : Int32)), .unset, .unset] [(.int (p1 &&& (7 : Int32)))])) _
    refine XS.iconst X8.here hx rfl (hb hby at_139) ?_
    show Steps p.tables e below (T8.setTop (mkF m 140 #[.val (.int p1), .val (.int p2), .val (.int p3), .val (.int p4), .val (.int p5), .val (.int p6), .val (.int (p3 ^^^ p4)), .val (.int (p1 &&& (7 : Int32))), .val (.ref b7), .val (.int (0 : Int32)), .val (.int (0 : Int32)), .val (.int (0 : Int32)), .unset, .unset] [(.int (4 : Int32)), (.int (p1 &&& (7 : Int32)))])) _
    refine XS.icmpYes X8.here hx rfl (pc0 := 140) (pc' := 161) rfl (hb hby at_140) rfl (feq hc140).2 (by decide) (by decide) ?_
    show Steps p.tables e below (T8.setTop (mkF m 161 #[.val (.int p1), .val (.int p2), .val (.int p3), .val (.int p4), .val (.int p5), .val (.int p6), .val (.int (p3 ^^^ p4)), .val (.int (p1 &&& (7 : Int32))), .val (.ref b7), .val (.int (0 : Int32)), .val (.int (0 : Int32)), .val (.int (0 : Int32)), .unset, .unset] [])) _
    refine XS.iload X8.here hx rfl (hb hby at_161) rfl ?_
    show Steps p.tables e below (T8.setTop (mkF m 163 #[.val (.int p1), .val (.int p2), .val (.int p3), .val (.int p4), .val (.int p5), .val (.int p6), .val (.int (p3 ^^^ p4)), .val (.int (p1 &&& (7 : Int32))), .val (.ref b7), .val (.int (0 : Int32)), .val (.int (0 : Int32)), .val (.int (0 : Int32)), .unset, .unset] [(.int (p1 &&& (7 : Int32)))])) _
    refine XS.iconst X8.here hx rfl (hb hby at_163) ?_
    show Steps p.tables e below (T8.setTop (mkF m 164 #[.val (.int p1), .val (.int p2), .val (.int p3), .val (.int p4), .val (.int p5), .val (.int p6), .val (.int (p3 ^^^ p4)), .val (.int (p1 &&& (7 : Int32))), .val (.ref b7), .val (.int (0 : Int32)), .val (.int (0 : Int32)), .val (.int (0 : Int32)), .unset, .unset] [(.int (5 : Int32)), (.int (p1 &&& (7 : Int32)))])) _
    refine XS.icmpYes X8.here hx rfl (pc0 := 164) (pc' := 200) rfl (hb hby at_164) rfl (feq hc164).2 (by decide) (by decide) ?_
    show Steps p.tables e below (T8.setTop (mkF m 200 #[.val (.int p1), .val (.int p2), .val (.int p3), .val (.int p4), .val (.int p5), .val (.int p6), .val (.int (p3 ^^^ p4)), .val (.int (p1 &&& (7 : Int32))), .val (.ref b7), .val (.int (0 : Int32)), .val (.int (0 : Int32)), .val (.int (0 : Int32)), .unset, .unset] [])) _
    refine XS.iload X8.here hx rfl (hb hby at_200) rfl ?_
    show Steps p.tables e below (T8.setTop (mkF m 202 #[.val (.int p1), .val (.int p2), .val (.int p3), .val (.int p4), .val (.int p5), .val (.int p6), .val (.int (p3 ^^^ p4)), .val (.int (p1 &&& (7 : Int32))), .val (.ref b7), .val (.int (0 : Int32)), .val (.int (0 : Int32)), .val (.int (0 : Int32)), .unset, .unset] [(.int (p1 &&& (7 : Int32)))])) _
    refine XS.bipush X8.here hx rfl (hb hby at_202) ?_
    show Steps p.tables e below (T8.setTop (mkF m 204 #[.val (.int p1), .val (.int p2), .val (.int p3), .val (.int p4), .val (.int p5), .val (.int p6), .val (.int (p3 ^^^ p4)), .val (.int (p1 &&& (7 : Int32))), .val (.ref b7), .val (.int (0 : Int32)), .val (.int (0 : Int32)), .val (.int (0 : Int32)), .unset, .unset] [(.int (6 : Int32)), (.int (p1 &&& (7 : Int32)))])) _
    refine XS.icmpYes X8.here hx rfl (pc0 := 204) (pc' := 238) rfl (hb hby at_204) rfl (feq hc204).2 (by decide) (by decide) ?_
    show Steps p.tables e below (T8.setTop (mkF m 238 #[.val (.int p1), .val (.int p2), .val (.int p3), .val (.int p4), .val (.int p5), .val (.int p6), .val (.int (p3 ^^^ p4)), .val (.int (p1 &&& (7 : Int32))), .val (.ref b7), .val (.int (0 : Int32)), .val (.int (0 : Int32)), .val (.int (0 : Int32)), .unset, .unset] [])) _
    refine XS.aload X8.here hx rfl (hb hby at_238) rfl rfl ?_
    show Steps p.tables e below (T8.setTop (mkF m 240 #[.val (.int p1), .val (.int p2), .val (.int p3), .val (.int p4), .val (.int p5), .val (.int p6), .val (.int (p3 ^^^ p4)), .val (.int (p1 &&& (7 : Int32))), .val (.ref b7), .val (.int (0 : Int32)), .val (.int (0 : Int32)), .val (.int (0 : Int32)), .unset, .unset] [(.ref b7)])) _
    refine XS.iloadN X8.here hx rfl (hb hby at_240) rfl ?_
    show Steps p.tables e below (T8.setTop (mkF m 241 #[.val (.int p1), .val (.int p2), .val (.int p3), .val (.int p4), .val (.int p5), .val (.int p6), .val (.int (p3 ^^^ p4)), .val (.int (p1 &&& (7 : Int32))), .val (.ref b7), .val (.int (0 : Int32)), .val (.int (0 : Int32)), .val (.int (0 : Int32)), .unset, .unset] [(.int p2), (.ref b7)])) _
    refine XS.iloadN X8.here hx rfl (hb hby at_241) rfl ?_
    show Steps p.tables e below (T8.setTop (mkF m 242 #[.val (.int p1), .val (.int p2), .val (.int p3), .val (.int p4), .val (.int p5), .val (.int p6), .val (.int (p3 ^^^ p4)), .val (.int (p1 &&& (7 : Int32))), .val (.ref b7), .val (.int (0 : Int32)), .val (.int (0 : Int32)), .val (.int (0 : Int32)), .unset, .unset] [(.int p3), (.int p2), (.ref b7)])) _
    refine st9.trans ?_
    show Steps p.tables e below (T9.setTop (mkF m 245 #[.val (.int p1), .val (.int p2), .val (.int p3), .val (.int p4), .val (.int p5), .val (.int p6), .val (.int (p3 ^^^ p4)), .val (.int (p1 &&& (7 : Int32))), .val (.ref b7), .val (.int (0 : Int32)), .val (.int (0 : Int32)), .val (.int (0 : Int32)), .unset, .unset] [])) _
    refine XS.aload X9.here hx rfl (hb hby at_245) rfl rfl ?_
    show Steps p.tables e below (T9.setTop (mkF m 247 #[.val (.int p1), .val (.int p2), .val (.int p3), .val (.int p4), .val (.int p5), .val (.int p6), .val (.int (p3 ^^^ p4)), .val (.int (p1 &&& (7 : Int32))), .val (.ref b7), .val (.int (0 : Int32)), .val (.int (0 : Int32)), .val (.int (0 : Int32)), .unset, .unset] [(.ref b7)])) _
    refine XS.iloadN X9.here hx rfl (hb hby at_247) rfl ?_
    show Steps p.tables e below (T9.setTop (mkF m 248 #[.val (.int p1), .val (.int p2), .val (.int p3), .val (.int p4), .val (.int p5), .val (.int p6), .val (.int (p3 ^^^ p4)), .val (.int (p1 &&& (7 : Int32))), .val (.ref b7), .val (.int (0 : Int32)), .val (.int (0 : Int32)), .val (.int (0 : Int32)), .unset, .unset] [(.int p4), (.ref b7)])) _
    refine XS.iload X9.here hx rfl (hb hby at_248) rfl ?_
    show Steps p.tables e below (T9.setTop (mkF m 250 #[.val (.int p1), .val (.int p2), .val (.int p3), .val (.int p4), .val (.int p5), .val (.int p6), .val (.int (p3 ^^^ p4)), .val (.int (p1 &&& (7 : Int32))), .val (.ref b7), .val (.int (0 : Int32)), .val (.int (0 : Int32)), .val (.int (0 : Int32)), .unset, .unset] [(.int (p3 ^^^ p4)), (.int p4), (.ref b7)])) _
    refine st10.trans ?_
    show Steps p.tables e below (T10.setTop (mkF m 253 #[.val (.int p1), .val (.int p2), .val (.int p3), .val (.int p4), .val (.int p5), .val (.int p6), .val (.int (p3 ^^^ p4)), .val (.int (p1 &&& (7 : Int32))), .val (.ref b7), .val (.int (0 : Int32)), .val (.int (0 : Int32)), .val (.int (0 : Int32)), .unset, .unset] [])) _
    refine XS.aload X10.here hx rfl (hb hby at_253) rfl rfl ?_
    show Steps p.tables e below (T10.setTop (mkF m 255 #[.val (.int p1), .val (.int p2), .val (.int p3), .val (.int p4), .val (.int p5), .val (.int p6), .val (.int (p3 ^^^ p4)), .val (.int (p1 &&& (7 : Int32))), .val (.ref b7), .val (.int (0 : Int32)), .val (.int (0 : Int32)), .val (.int (0 : Int32)), .unset, .unset] [(.ref b7)])) _
    refine st11.trans ?_
    show Steps p.tables e below (T11.setTop (mkF m 258 #[.val (.int p1), .val (.int p2), .val (.int p3), .val (.int p4), .val (.int p5), .val (.int p6), .val (.int (p3 ^^^ p4)), .val (.int (p1 &&& (7 : Int32))), .val (.ref b7), .val (.int (0 : Int32)), .val (.int (0 : Int32)), .val (.int (0 : Int32)), .unset, .unset] [])) _
    refine XS.aload X11.here hx rfl (hb hby at_258) rfl rfl ?_
    show Steps p.tables e below (T11.setTop (mkF m 260 #[.val (.int p1), .val (.int p2), .val (.int p3), .val (.int p4), .val (.int p5), .val (.int p6), .val (.int (p3 ^^^ p4)), .val (.int (p1 &&& (7 : Int32))), .val (.ref b7), .val (.int (0 : Int32)), .val (.int (0 : Int32)), .val (.int (0 : Int32)), .unset, .unset] [(.ref b7)])) _
    refine XS.iloadN X11.here hx rfl (hb hby at_260) rfl ?_
    show Steps p.tables e below (T11.setTop (mkF m 261 #[.val (.int p1), .val (.int p2), .val (.int p3), .val (.int p4), .val (.int p5), .val (.int p6), .val (.int (p3 ^^^ p4)), .val (.int (p1 &&& (7 : Int32))), .val (.ref b7), .val (.int (0 : Int32)), .val (.int (0 : Int32)), .val (.int (0 : Int32)), .unset, .unset] [(.int p2), (.ref b7)])) _
    refine XS.iloadN X11.here hx rfl (hb hby at_261) rfl ?_
    show Steps p.tables e below (T11.setTop (mkF m 262 #[.val (.int p1), .val (.int p2), .val (.int p3), .val (.int p4), .val (.int p5), .val (.int p6), .val (.int (p3 ^^^ p4)), .val (.int (p1 &&& (7 : Int32))), .val (.ref b7), .val (.int (0 : Int32)), .val (.int (0 : Int32)), .val (.int (0 : Int32)), .unset, .unset] [(.int p3), (.int p2), (.ref b7)])) _
    refine st12.trans ?_
    show Steps p.tables e below (T12.setTop (mkF m 265 #[.val (.int p1), .val (.int p2), .val (.int p3), .val (.int p4), .val (.int p5), .val (.int p6), .val (.int (p3 ^^^ p4)), .val (.int (p1 &&& (7 : Int32))), .val (.ref b7), .val (.int (0 : Int32)), .val (.int (0 : Int32)), .val (.int (0 : Int32)), .unset, .unset] [])) _
    refine XS.iconst X12.here hx rfl (hb hby at_265) ?_
    show Steps p.tables e below (T12.setTop (mkF m 266 #[.val (.int p1), .val (.int p2), .val (.int p3), .val (.int p4), .val (.int p5), .val (.int p6), .val (.int (p3 ^^^ p4)), .val (.int (p1 &&& (7 : Int32))), .val (.ref b7), .val (.int (0 : Int32)), .val (.int (0 : Int32)), .val (.int (0 : Int32)), .unset, .unset] [(.int (1 : Int32))])) _
    refine XS.istore X12.here hx rfl (hb hby at_266) rfl (l' := #[.val (.int p1), .val (.int p2), .val (.int p3), .val (.int p4), .val (.int p5), .val (.int p6), .val (.int (p3 ^^^ p4)), .val (.int (p1 &&& (7 : Int32))), .val (.ref b7), .val (.int (1 : Int32)), .val (.int (0 : Int32)), .val (.int (0 : Int32)), .unset, .unset]) rfl ?_
    show Steps p.tables e below (T12.setTop (mkF m 268 #[.val (.int p1), .val (.int p2), .val (.int p3), .val (.int p4), .val (.int p5), .val (.int p6), .val (.int (p3 ^^^ p4)), .val (.int (p1 &&& (7 : Int32))), .val (.ref b7), .val (.int (1 : Int32)), .val (.int (0 : Int32)), .val (.int (0 : Int32)), .unset, .unset] [])) _
    refine XS.iloadN X12.here hx rfl (hb hby at_268) rfl ?_
    show Steps p.tables e below (T12.setTop (mkF m 269 #[.val (.int p1), .val (.int p2), .val (.int p3), .val (.int p4), .val (.int p5), .val (.int p6), .val (.int (p3 ^^^ p4)), .val (.int (p1 &&& (7 : Int32))), .val (.ref b7), .val (.int (1 : Int32)), .val (.int (0 : Int32)), .val (.int (0 : Int32)), .unset, .unset] [(.int p4)])) _
    refine XS.istore X12.here hx rfl (hb hby at_269) rfl (l' := #[.val (.int p1), .val (.int p2), .val (.int p3), .val (.int p4), .val (.int p5), .val (.int p6), .val (.int (p3 ^^^ p4)), .val (.int (p1 &&& (7 : Int32))), .val (.ref b7), .val (.int (1 : Int32)), .val (.int p4), .val (.int (0 : Int32)), .unset, .unset]) rfl ?_
    show Steps p.tables e below (T12.setTop (mkF m 271 #[.val (.int p1), .val (.int p2), .val (.int p3), .val (.int p4), .val (.int p5), .val (.int p6), .val (.int (p3 ^^^ p4)), .val (.int (p1 &&& (7 : Int32))), .val (.ref b7), .val (.int (1 : Int32)), .val (.int p4), .val (.int (0 : Int32)), .unset, .unset] [])) _
    refine XS.iload X12.here hx rfl (hb hby at_271) rfl ?_
    show Steps p.tables e below (T12.setTop (mkF m 273 #[.val (.int p1), .val (.int p2), .val (.int p3), .val (.int p4), .val (.int p5), .val (.int p6), .val (.int (p3 ^^^ p4)), .val (.int (p1 &&& (7 : Int32))), .val (.ref b7), .val (.int (1 : Int32)), .val (.int p4), .val (.int (0 : Int32)), .unset, .unset] [(.int (p3 ^^^ p4))])) _
    refine XS.istore X12.here hx rfl (hb hby at_273) rfl (l' := #[.val (.int p1), .val (.int p2), .val (.int p3), .val (.int p4), .val (.int p5), .val (.int p6), .val (.int (p3 ^^^ p4)), .val (.int (p1 &&& (7 : Int32))), .val (.ref b7), .val (.int (1 : Int32)), .val (.int p4), .val (.int (p3 ^^^ p4)), .unset, .unset]) rfl ?_
    show Steps p.tables e below (T12.setTop (mkF m 275 #[.val (.int p1), .val (.int p2), .val (.int p3), .val (.int p4), .val (.int p5), .val (.int p6), .val (.int (p3 ^^^ p4)), .val (.int (p1 &&& (7 : Int32))), .val (.ref b7), .val (.int (1 : Int32)), .val (.int p4), .val (.int (p3 ^^^ p4)), .unset, .unset] [])) _
    refine XS.aload X12.here hx rfl (hb hby at_275) rfl rfl ?_
    show Steps p.tables e below (T12.setTop (mkF m 277 #[.val (.int p1), .val (.int p2), .val (.int p3), .val (.int p4), .val (.int p5), .val (.int p6), .val (.int (p3 ^^^ p4)), .val (.int (p1 &&& (7 : Int32))), .val (.ref b7), .val (.int (1 : Int32)), .val (.int p4), .val (.int (p3 ^^^ p4)), .unset, .unset] [(.ref b7)])) _
    refine XS.iload X12.here hx rfl (hb hby at_277) rfl ?_
    show Steps p.tables e below (T12.setTop (mkF m 279 #[.val (.int p1), .val (.int p2), .val (.int p3), .val (.int p4), .val (.int p5), .val (.int p6), .val (.int (p3 ^^^ p4)), .val (.int (p1 &&& (7 : Int32))), .val (.ref b7), .val (.int (1 : Int32)), .val (.int p4), .val (.int (p3 ^^^ p4)), .unset, .unset] [(.int p5), (.ref b7)])) _
    refine XS.iload X12.here hx rfl (hb hby at_279) rfl ?_
    show Steps p.tables e below (T12.setTop (mkF m 281 #[.val (.int p1), .val (.int p2), .val (.int p3), .val (.int p4), .val (.int p5), .val (.int p6), .val (.int (p3 ^^^ p4)), .val (.int (p1 &&& (7 : Int32))), .val (.ref b7), .val (.int (1 : Int32)), .val (.int p4), .val (.int (p3 ^^^ p4)), .unset, .unset] [(.int p6), (.int p5), (.ref b7)])) _
    refine st13.trans ?_
    show Steps p.tables e below (T13.setTop (mkF m 284 #[.val (.int p1), .val (.int p2), .val (.int p3), .val (.int p4), .val (.int p5), .val (.int p6), .val (.int (p3 ^^^ p4)), .val (.int (p1 &&& (7 : Int32))), .val (.ref b7), .val (.int (1 : Int32)), .val (.int p4), .val (.int (p3 ^^^ p4)), .unset, .unset] [(.int (own_fb (1 : Int32) (3 : Int32) p4 (p3 ^^^ p4) p5 p6))])) _
    refine XS.istore X13.here hx rfl (hb hby at_284) rfl (l' := #[.val (.int p1), .val (.int p2), .val (.int p3), .val (.int p4), .val (.int p5), .val (.int p6), .val (.int (p3 ^^^ p4)), .val (.int (p1 &&& (7 : Int32))), .val (.ref b7), .val (.int (1 : Int32)), .val (.int p4), .val (.int (p3 ^^^ p4)), .val (.int (own_fb (1 : Int32) (3 : Int32) p4 (p3 ^^^ p4) p5 p6)), .unset]) rfl ?_
    show Steps p.tables e below (T13.setTop (mkF m 286 #[.val (.int p1), .val (.int p2), .val (.int p3), .val (.int p4), .val (.int p5), .val (.int p6), .val (.int (p3 ^^^ p4)), .val (.int (p1 &&& (7 : Int32))), .val (.ref b7), .val (.int (1 : Int32)), .val (.int p4), .val (.int (p3 ^^^ p4)), .val (.int (own_fb (1 : Int32) (3 : Int32) p4 (p3 ^^^ p4) p5 p6)), .unset] [])) _
    refine XS.iload X13.here hx rfl (hb hby at_286) rfl ?_
    show Steps p.tables e below (T13.setTop (mkF m 288 #[.val (.int p1), .val (.int p2), .val (.int p3), .val (.int p4), .val (.int p5), .val (.int p6), .val (.int (p3 ^^^ p4)), .val (.int (p1 &&& (7 : Int32))), .val (.ref b7), .val (.int (1 : Int32)), .val (.int p4), .val (.int (p3 ^^^ p4)), .val (.int (own_fb (1 : Int32) (3 : Int32) p4 (p3 ^^^ p4) p5 p6)), .unset] [(.int (1 : Int32))])) _
    refine XS.ifNo X13.here hx rfl (hb hby at_288) rfl ((if0 _ _).trans (feq hc288).1) ?_
    show Steps p.tables e below (T13.setTop (mkF m 291 #[.val (.int p1), .val (.int p2), .val (.int p3), .val (.int p4), .val (.int p5), .val (.int p6), .val (.int (p3 ^^^ p4)), .val (.int (p1 &&& (7 : Int32))), .val (.ref b7), .val (.int (1 : Int32)), .val (.int p4), .val (.int (p3 ^^^ p4)), .val (.int (own_fb (1 : Int32) (3 : Int32) p4 (p3 ^^^ p4) p5 p6)), .unset] [])) _
    refine XS.iload X13.here hx rfl (hb hby at_291) rfl ?_
    show Steps p.tables e below (T13.setTop (mkF m 293 #[.val (.int p1), .val (.int p2), .val (.int p3), .val (.int p4), .val (.int p5), .val (.int p6), .val (.int (p3 ^^^ p4)), .val (.int (p1 &&& (7 : Int32))), .val (.ref b7), .val (.int (1 : Int32)), .val (.int p4), .val (.int (p3 ^^^ p4)), .val (.int (own_fb (1 : Int32) (3 : Int32) p4 (p3 ^^^ p4) p5 p6)), .unset] [(.int p4)])) _
    refine XS.iload X13.here hx rfl (hb hby at_293) rfl ?_
    show Steps p.tables e below (T13.setTop (mkF m 295 #[.val (.int p1), .val (.int p2), .val (.int p3), .val (.int p4), .val (.int p5), .val (.int p6), .val (.int (p3 ^^^ p4)), .val (.int (p1 &&& (7 : Int32))), .val (.ref b7), .val (.int (1 : Int32)), .val (.int p4), .val (.int (p3 ^^^ p4)), .val (.int (own_fb (1 : Int32) (3 : Int32) p4 (p3 ^^^ p4) p5 p6)), .unset] [(.int (p3 ^^^ p4)), (.int p4)])) _
    refine st14 _ ?_
    show Steps p.tables e below (T14.setTop (mkF m 298 #[.val (.int p1), .val (.int p2), .val (.int p3), .val (.int p4), .val (.int p5), .val (.int p6), .val (.int (p3 ^^^ p4)), .val (.int (p1 &&& (7 : Int32))), .val (.ref b7), .val (.int (1 : Int32)), .val (.int p4), .val (.int (p3 ^^^ p4)), .val (.int (own_fb (1 : Int32) (3 : Int32) p4 (p3 ^^^ p4) p5 p6)), .unset] [(.long (own_key p4 (p3 ^^^ p4)))])) _
    refine XS.iload X14.here hx rfl (hb hby at_298) rfl ?_
    show Steps p.tables e below (T14.setTop (mkF m 300 #[.val (.int p1), .val (.int p2), .val (.int p3), .val (.int p4), .val (.int p5), .val (.int p6), .val (.int (p3 ^^^ p4)), .val (.int (p1 &&& (7 : Int32))), .val (.ref b7), .val (.int (1 : Int32)), .val (.int p4), .val (.int (p3 ^^^ p4)), .val (.int (own_fb (1 : Int32) (3 : Int32) p4 (p3 ^^^ p4) p5 p6)), .unset] [(.int p5), (.long (own_key p4 (p3 ^^^ p4)))])) _
    refine XS.iload X14.here hx rfl (hb hby at_300) rfl ?_
    show Steps p.tables e below (T14.setTop (mkF m 302 #[.val (.int p1), .val (.int p2), .val (.int p3), .val (.int p4), .val (.int p5), .val (.int p6), .val (.int (p3 ^^^ p4)), .val (.int (p1 &&& (7 : Int32))), .val (.ref b7), .val (.int (1 : Int32)), .val (.int p4), .val (.int (p3 ^^^ p4)), .val (.int (own_fb (1 : Int32) (3 : Int32) p4 (p3 ^^^ p4) p5 p6)), .unset] [(.int p6), (.int p5), (.long (own_key p4 (p3 ^^^ p4)))])) _
    refine st15 _ ?_
    show Steps p.tables e below (T15.setTop (mkF m 305 #[.val (.int p1), .val (.int p2), .val (.int p3), .val (.int p4), .val (.int p5), .val (.int p6), .val (.int (p3 ^^^ p4)), .val (.int (p1 &&& (7 : Int32))), .val (.ref b7), .val (.int (1 : Int32)), .val (.int p4), .val (.int (p3 ^^^ p4)), .val (.int (own_fb (1 : Int32) (3 : Int32) p4 (p3 ^^^ p4) p5 p6)), .unset] [(.long (own_key p5 p6)), (.long (own_key p4 (p3 ^^^ p4)))])) _
    refine XS.lcmp X15.here hx rfl (hb hby at_305) rfl ?_
    show Steps p.tables e below (T15.setTop (mkF m 306 #[.val (.int p1), .val (.int p2), .val (.int p3), .val (.int p4), .val (.int p5), .val (.int p6), .val (.int (p3 ^^^ p4)), .val (.int (p1 &&& (7 : Int32))), .val (.ref b7), .val (.int (1 : Int32)), .val (.int p4), .val (.int (p3 ^^^ p4)), .val (.int (own_fb (1 : Int32) (3 : Int32) p4 (p3 ^^^ p4) p5 p6)), .unset] [(.int (lcmpW (own_key p4 (p3 ^^^ p4)) (own_key p5 p6)))])) _
    by_cases hlt : (lcmpW (own_key p4 (p3 ^^^ p4)) (own_key p5 p6)) < (0 : Int32)
    · refine XS.ifNo X15.here hx rfl (hb hby at_306) rfl ((if0 _ _).trans (tlt (hlt : (lcmpW (own_key p4 (p3 ^^^ p4)) (own_key p5 p6)) < (0 : Int32))).2.1) ?_
      show Steps p.tables e below (T15.setTop (mkF m 309 #[.val (.int p1), .val (.int p2), .val (.int p3), .val (.int p4), .val (.int p5), .val (.int p6), .val (.int (p3 ^^^ p4)), .val (.int (p1 &&& (7 : Int32))), .val (.ref b7), .val (.int (1 : Int32)), .val (.int p4), .val (.int (p3 ^^^ p4)), .val (.int (own_fb (1 : Int32) (3 : Int32) p4 (p3 ^^^ p4) p5 p6)), .unset] [])) _
      refine XS.iconst X15.here hx rfl (hb hby at_309) ?_
      show Steps p.tables e below (T15.setTop (mkF m 310 #[.val (.int p1), .val (.int p2), .val (.int p3), .val (.int p4), .val (.int p5), .val (.int p6), .val (.int (p3 ^^^ p4)), .val (.int (p1 &&& (7 : Int32))), .val (.ref b7), .val (.int (1 : Int32)), .val (.int p4), .val (.int (p3 ^^^ p4)), .val (.int (own_fb (1 : Int32) (3 : Int32) p4 (p3 ^^^ p4) p5 p6)), .unset] [(.int (1 : Int32))])) _
      refine XS.goto X15.here hx rfl (pc0 := 310) (pc' := 314) rfl (hb hby at_310) (by decide) (by decide) ?_
      show Steps p.tables e below (T15.setTop (mkF m 314 #[.val (.int p1), .val (.int p2), .val (.int p3), .val (.int p4), .val (.int p5), .val (.int p6), .val (.int (p3 ^^^ p4)), .val (.int (p1 &&& (7 : Int32))), .val (.ref b7), .val (.int (1 : Int32)), .val (.int p4), .val (.int (p3 ^^^ p4)), .val (.int (own_fb (1 : Int32) (3 : Int32) p4 (p3 ^^^ p4) p5 p6)), .unset] [(.int (1 : Int32))])) _
      refine XS.istore X15.here hx rfl (hb hby at_314) rfl (l' := #[.val (.int p1), .val (.int p2), .val (.int p3), .val (.int p4), .val (.int p5), .val (.int p6), .val (.int (p3 ^^^ p4)), .val (.int (p1 &&& (7 : Int32))), .val (.ref b7), .val (.int (1 : Int32)), .val (.int p4), .val (.int (p3 ^^^ p4)), .val (.int (own_fb (1 : Int32) (3 : Int32) p4 (p3 ^^^ p4) p5 p6)), .val (.int (1 : Int32))]) rfl ?_
      show Steps p.tables e below (T15.setTop (mkF m 316 #[.val (.int p1), .val (.int p2), .val (.int p3), .val (.int p4), .val (.int p5), .val (.int p6), .val (.int (p3 ^^^ p4)), .val (.int (p1 &&& (7 : Int32))), .val (.ref b7), .val (.int (1 : Int32)), .val (.int p4), .val (.int (p3 ^^^ p4)), .val (.int (own_fb (1 : Int32) (3 : Int32) p4 (p3 ^^^ p4) p5 p6)), .val (.int (1 : Int32))] [])) _
      refine XS.iload X15.here hx rfl (hb hby at_316) rfl ?_
      show Steps p.tables e below (T15.setTop (mkF m 318 #[.val (.int p1), .val (.int p2), .val (.int p3), .val (.int p4), .val (.int p5), .val (.int p6), .val (.int (p3 ^^^ p4)), .val (.int (p1 &&& (7 : Int32))), .val (.ref b7), .val (.int (1 : Int32)), .val (.int p4), .val (.int (p3 ^^^ p4)), .val (.int (own_fb (1 : Int32) (3 : Int32) p4 (p3 ^^^ p4) p5 p6)), .val (.int (1 : Int32))] [(.int (own_fb (1 : Int32) (3 : Int32) p4 (p3 ^^^ p4) p5 p6))])) _
      refine XS.iload X15.here hx rfl (hb hby at_318) rfl ?_
      show Steps p.tables e below (T15.setTop (mkF m 320 #[.val (.int p1), .val (.int p2), .val (.int p3), .val (.int p4), .val (.int p5), .val (.int p6), .val (.int (p3 ^^^ p4)), .val (.int (p1 &&& (7 : Int32))), .val (.ref b7), .val (.int (1 : Int32)), .val (.int p4), .val (.int (p3 ^^^ p4)), .val (.int (own_fb (1 : Int32) (3 : Int32) p4 (p3 ^^^ p4) p5 p6)), .val (.int (1 : Int32))] [(.int (1 : Int32)), (.int (own_fb (1 : Int32) (3 : Int32) p4 (p3 ^^^ p4) p5 p6))])) _
      refine XS.icmpNo X15.here hx rfl (hb hby at_320) rfl (teq (own_yes (by decide) hlt : (own_fb (1 : Int32) (3 : Int32) p4 (p3 ^^^ p4) p5 p6) = (1 : Int32))).2 ?_
      show Steps p.tables e below (T15.setTop (mkF m 323 #[.val (.int p1), .val (.int p2), .val (.int p3), .val (.int p4), .val (.int p5), .val (.int p6), .val (.int (p3 ^^^ p4)), .val (.int (p1 &&& (7 : Int32))), .val (.ref b7), .val (.int (1 : Int32)), .val (.int p4), .val (.int (p3 ^^^ p4)), .val (.int (own_fb (1 : Int32) (3 : Int32) p4 (p3 ^^^ p4) p5 p6)), .val (.int (1 : Int32))] [])) _
      refine XS.iconst X15.here hx rfl (hb hby at_323) ?_
      show Steps p.tables e below (T15.setTop (mkF m 324 #[.val (.int p1), .val (.int p2), .val (.int p3), .val (.int p4), .val (.int p5), .val (.int p6), .val (.int (p3 ^^^ p4)), .val (.int (p1 &&& (7 : Int32))), .val (.ref b7), .val (.int (1 : Int32)), .val (.int p4), .val (.int (p3 ^^^ p4)), .val (.int (own_fb (1 : Int32) (3 : Int32) p4 (p3 ^^^ p4) p5 p6)), .val (.int (1 : Int32))] [(.int (1 : Int32))])) _
      refine XS.goto X15.here hx rfl (pc0 := 324) (pc' := 328) rfl (hb hby at_324) (by decide) (by decide) ?_
      show Steps p.tables e below (T15.setTop (mkF m 328 #[.val (.int p1), .val (.int p2), .val (.int p3), .val (.int p4), .val (.int p5), .val (.int p6), .val (.int (p3 ^^^ p4)), .val (.int (p1 &&& (7 : Int32))), .val (.ref b7), .val (.int (1 : Int32)), .val (.int p4), .val (.int (p3 ^^^ p4)), .val (.int (own_fb (1 : Int32) (3 : Int32) p4 (p3 ^^^ p4) p5 p6)), .val (.int (1 : Int32))] [(.int (1 : Int32))])) _
      exact retN X15 hx (t := .boolean) Bd.returns (by simp) (hb hby at_328) hr
    · refine XS.ifYes X15.here hx rfl (pc0 := 306) (pc' := 313) rfl (hb hby at_306) rfl ((if0 _ _).trans (flt (hlt : ¬ ((lcmpW (own_key p4 (p3 ^^^ p4)) (own_key p5 p6)) < (0 : Int32)))).2.1) (by decide) (by decide) ?_
      show Steps p.tables e below (T15.setTop (mkF m 313 #[.val (.int p1), .val (.int p2), .val (.int p3), .val (.int p4), .val (.int p5), .val (.int p6), .val (.int (p3 ^^^ p4)), .val (.int (p1 &&& (7 : Int32))), .val (.ref b7), .val (.int (1 : Int32)), .val (.int p4), .val (.int (p3 ^^^ p4)), .val (.int (own_fb (1 : Int32) (3 : Int32) p4 (p3 ^^^ p4) p5 p6)), .unset] [])) _
      refine XS.iconst X15.here hx rfl (hb hby at_313) ?_
      show Steps p.tables e below (T15.setTop (mkF m 314 #[.val (.int p1), .val (.int p2), .val (.int p3), .val (.int p4), .val (.int p5), .val (.int p6), .val (.int (p3 ^^^ p4)), .val (.int (p1 &&& (7 : Int32))), .val (.ref b7), .val (.int (1 : Int32)), .val (.int p4), .val (.int (p3 ^^^ p4)), .val (.int (own_fb (1 : Int32) (3 : Int32) p4 (p3 ^^^ p4) p5 p6)), .unset] [(.int (0 : Int32))])) _
      refine XS.istore X15.here hx rfl (hb hby at_314) rfl (l' := #[.val (.int p1), .val (.int p2), .val (.int p3), .val (.int p4), .val (.int p5), .val (.int p6), .val (.int (p3 ^^^ p4)), .val (.int (p1 &&& (7 : Int32))), .val (.ref b7), .val (.int (1 : Int32)), .val (.int p4), .val (.int (p3 ^^^ p4)), .val (.int (own_fb (1 : Int32) (3 : Int32) p4 (p3 ^^^ p4) p5 p6)), .val (.int (0 : Int32))]) rfl ?_
      show Steps p.tables e below (T15.setTop (mkF m 316 #[.val (.int p1), .val (.int p2), .val (.int p3), .val (.int p4), .val (.int p5), .val (.int p6), .val (.int (p3 ^^^ p4)), .val (.int (p1 &&& (7 : Int32))), .val (.ref b7), .val (.int (1 : Int32)), .val (.int p4), .val (.int (p3 ^^^ p4)), .val (.int (own_fb (1 : Int32) (3 : Int32) p4 (p3 ^^^ p4) p5 p6)), .val (.int (0 : Int32))] [])) _
      refine XS.iload X15.here hx rfl (hb hby at_316) rfl ?_
      show Steps p.tables e below (T15.setTop (mkF m 318 #[.val (.int p1), .val (.int p2), .val (.int p3), .val (.int p4), .val (.int p5), .val (.int p6), .val (.int (p3 ^^^ p4)), .val (.int (p1 &&& (7 : Int32))), .val (.ref b7), .val (.int (1 : Int32)), .val (.int p4), .val (.int (p3 ^^^ p4)), .val (.int (own_fb (1 : Int32) (3 : Int32) p4 (p3 ^^^ p4) p5 p6)), .val (.int (0 : Int32))] [(.int (own_fb (1 : Int32) (3 : Int32) p4 (p3 ^^^ p4) p5 p6))])) _
      refine XS.iload X15.here hx rfl (hb hby at_318) rfl ?_
      show Steps p.tables e below (T15.setTop (mkF m 320 #[.val (.int p1), .val (.int p2), .val (.int p3), .val (.int p4), .val (.int p5), .val (.int p6), .val (.int (p3 ^^^ p4)), .val (.int (p1 &&& (7 : Int32))), .val (.ref b7), .val (.int (1 : Int32)), .val (.int p4), .val (.int (p3 ^^^ p4)), .val (.int (own_fb (1 : Int32) (3 : Int32) p4 (p3 ^^^ p4) p5 p6)), .val (.int (0 : Int32))] [(.int (0 : Int32)), (.int (own_fb (1 : Int32) (3 : Int32) p4 (p3 ^^^ p4) p5 p6))])) _
      refine XS.icmpNo X15.here hx rfl (hb hby at_320) rfl (teq (own_no (by decide) hlt : (own_fb (1 : Int32) (3 : Int32) p4 (p3 ^^^ p4) p5 p6) = (0 : Int32))).2 ?_
      show Steps p.tables e below (T15.setTop (mkF m 323 #[.val (.int p1), .val (.int p2), .val (.int p3), .val (.int p4), .val (.int p5), .val (.int p6), .val (.int (p3 ^^^ p4)), .val (.int (p1 &&& (7 : Int32))), .val (.ref b7), .val (.int (1 : Int32)), .val (.int p4), .val (.int (p3 ^^^ p4)), .val (.int (own_fb (1 : Int32) (3 : Int32) p4 (p3 ^^^ p4) p5 p6)), .val (.int (0 : Int32))] [])) _
      refine XS.iconst X15.here hx rfl (hb hby at_323) ?_
      show Steps p.tables e below (T15.setTop (mkF m 324 #[.val (.int p1), .val (.int p2), .val (.int p3), .val (.int p4), .val (.int p5), .val (.int p6), .val (.int (p3 ^^^ p4)), .val (.int (p1 &&& (7 : Int32))), .val (.ref b7), .val (.int (1 : Int32)), .val (.int p4), .val (.int (p3 ^^^ p4)), .val (.int (own_fb (1 : Int32) (3 : Int32) p4 (p3 ^^^ p4) p5 p6)), .val (.int (0 : Int32))] [(.int (1 : Int32))])) _
      refine XS.goto X15.here hx rfl (pc0 := 324) (pc' := 328) rfl (hb hby at_324) (by decide) (by decide) ?_
      show Steps p.tables e below (T15.setTop (mkF m 328 #[.val (.int p1), .val (.int p2), .val (.int p3), .val (.int p4), .val (.int p5), .val (.int p6), .val (.int (p3 ^^^ p4)), .val (.int (p1 &&& (7 : Int32))), .val (.ref b7), .val (.int (1 : Int32)), .val (.int p4), .val (.int (p3 ^^^ p4)), .val (.int (own_fb (1 : Int32) (3 : Int32) p4 (p3 ^^^ p4) p5 p6)), .val (.int (0 : Int32))] [(.int (1 : Int32))])) _
      exact retN X15 hx (t := .boolean) Bd.returns (by simp) (hb hby at_328) hr
  · show Q0 Z p1 p2 p3 p4 p5 p6 h0 n0 _ T15.heap _
    exact ⟨rfl, N15⟩
theorem rm0 (l : Launch) (Z : State) (a0 : Array Value) (hw : ∀ d ∈ tables_1, d.before a0 Z = true) (ws : List Jvm.Cond) (p1 : Int32) (p2 : Int32) (p3 : Int32) (p4 : Int32) (p5 : Int32) (p6 : Int32) (h0 : Heap) (n0 : Nat) (Z0 : n0 ≤ h0.size) :
    MetFree l x (head1 (Jvm.Cond.code x code maxLocals ret :: ws) room_1) (fun a U => a = #[(.int p1), (.int p2), (.int p3), (.int p4), (.int p5), (.int p6)] ∧ Z.Warmed39 U.vm ∧ U.heap = h0) (fun _ _ _ _ _ => True) (fun _ U o U' => ∃ v L, o = .returned v ∧ Q0 Z p1 p2 p3 p4 p5 p6 h0 n0 v U'.heap L ∧ FrameEnd U o U' L room_1.cells room_1.slots) := by
  rcases own_m8 p1 with hm | hm | hm | hm | hm | hm | hm | hm
  · exact rm0_0 l Z a0 hw ws p1 p2 p3 p4 p5 p6 h0 n0 Z0 (by first | exact hm | (rw [hm]; decide))
  · exact rm0_1 l Z a0 hw ws p1 p2 p3 p4 p5 p6 h0 n0 Z0 (by first | exact hm | (rw [hm]; decide)) (by first | exact hm | (rw [hm]; decide)) (by decide)
  · exact rm0_2 l Z a0 hw ws p1 p2 p3 p4 p5 p6 h0 n0 Z0 (by first | exact hm | (rw [hm]; decide)) (by first | exact hm | (rw [hm]; decide)) (by first | exact hm | (rw [hm]; decide)) (by decide)
  · exact rm0_3 l Z a0 hw ws p1 p2 p3 p4 p5 p6 h0 n0 Z0 (by first | exact hm | (rw [hm]; decide)) (by first | exact hm | (rw [hm]; decide)) (by first | exact hm | (rw [hm]; decide)) (by first | exact hm | (rw [hm]; decide)) (by decide)
  · exact rm0_4 l Z a0 hw ws p1 p2 p3 p4 p5 p6 h0 n0 Z0 (by first | exact hm | (rw [hm]; decide)) (by first | exact hm | (rw [hm]; decide)) (by first | exact hm | (rw [hm]; decide)) (by first | exact hm | (rw [hm]; decide)) (by first | exact hm | (rw [hm]; decide))
  · exact rm0_5 l Z a0 hw ws p1 p2 p3 p4 p5 p6 h0 n0 Z0 (by first | exact hm | (rw [hm]; decide)) (by first | exact hm | (rw [hm]; decide)) (by first | exact hm | (rw [hm]; decide)) (by first | exact hm | (rw [hm]; decide)) (by first | exact hm | (rw [hm]; decide)) (by first | exact hm | (rw [hm]; decide)) (by decide)
  · exact rm0_6 l Z a0 hw ws p1 p2 p3 p4 p5 p6 h0 n0 Z0 (by first | exact hm | (rw [hm]; decide)) (by first | exact hm | (rw [hm]; decide)) (by first | exact hm | (rw [hm]; decide)) (by first | exact hm | (rw [hm]; decide)) (by first | exact hm | (rw [hm]; decide)) (by first | exact hm | (rw [hm]; decide)) (by first | exact hm | (rw [hm]; decide))
  · exact rm0_7 l Z a0 hw ws p1 p2 p3 p4 p5 p6 h0 n0 Z0 (by first | exact hm | (rw [hm]; decide)) (by first | exact hm | (rw [hm]; decide)) (by first | exact hm | (rw [hm]; decide)) (by first | exact hm | (rw [hm]; decide)) (by first | exact hm | (rw [hm]; decide)) (by first | exact hm | (rw [hm]; decide)) (by first | exact hm | (rw [hm]; decide)) (by decide)
set_option maxRecDepth 65536 in
set_option maxHeartbeats 40000000 in
theorem comes_1 {Post : Tables → Env → Array Value → State → Outcome → State → Prop} (hpost : ∀ tb e args s v u, (limb_1_1.after args s (.returned v) u = true ∧ limb_1_2.after args s (.returned v) u = true ∧ True) → FrameEnd s (.returned v) u (Jvm.fieldLocs frame_1_writes args s ++ Jvm.arrayLocs frame_1_arrays args s ++ Jvm.staticLocs frame_1_statics s) 16 6272 → Post tb e args s (.returned v) u) :
    ArmFor flags0 classFile x code maxLocals ret World_1 tables_1 room_1 Calls_1 rest_1 Pre_1 Post := by
  intro l hfl _ _ p e ha hc hk s m args below hf hA hF happ hP
  obtain ⟨hcalls, hrest, hpre⟩ := hP
  obtain ⟨-, -, -, hnamed, -, -, -, hat⟩ := (Spec.applies_iff hf).mp happ
  obtain ⟨hg, hn⟩ := and_e (Cond.before_iff.mp (show (Jvm.Cond.and given_1 narrow_1).before args s = true from hpre))
  obtain ⟨g16, g17⟩ := and_e hg
  obtain ⟨g18, g19⟩ := and_e g17
  obtain ⟨g20, g21⟩ := and_e g19
  obtain ⟨g22, g23⟩ := and_e g21
  obtain ⟨g24, g25⟩ := and_e g23
  obtain ⟨g26, g27⟩ := and_e g25
  obtain ⟨w0, w1, w2, w3, w4, w5, rfl⟩ : ∃ w0 w1 w2 w3 w4 w5 : Value, args = #[w0, w1, w2, w3, w4, w5] := by
    have hs : args.size = 6 := by simpa [Cond.value, given_1] using g16
    obtain ⟨L⟩ := args
    match L, hs with
    | [w0, w1, w2, w3, w4, w5], _ => exact ⟨w0, w1, w2, w3, w4, w5, rfl⟩
  have hw := fun d (hd : d ∈ tables_1) => atoms_spec (ws := Jvm.Cond.code x code maxLocals ret :: tables_1) hat d (List.mem_cons_of_mem _ hd)
  have hfit : Fit s := fun {y c} hc i hi => by
    obtain ⟨ha, rfl⟩ := Array.getElem?_eq_some_iff.mp hc
    have q := List.all_eq_true.mp ((Array.all_eq_true_iff_forall_mem.mp hF) _ (Array.getElem_mem ha)) i (List.mem_range.mpr hi)
    simpa [Array.getElem?_eq_getElem hi] using q
  obtain ⟨i0, ei0⟩ := is_v g18
  obtain rfl : w0 = (.int i0) := Option.some.inj ei0
  obtain ⟨i1, ei1⟩ := is_v g20
  obtain rfl : w1 = (.int i1) := Option.some.inj ei1
  obtain ⟨i2, ei2⟩ := is_v g22
  obtain rfl : w2 = (.int i2) := Option.some.inj ei2
  obtain ⟨i3, ei3⟩ := is_v g24
  obtain rfl : w3 = (.int i3) := Option.some.inj ei3
  obtain ⟨i4, ei4⟩ := is_v g26
  obtain rfl : w4 = (.int i4) := Option.some.inj ei4
  obtain ⟨i5, ei5⟩ := is_v g27
  obtain rfl : w5 = (.int i5) := Option.some.inj ei5
  obtain ⟨n, o, h1, h2, h3, _, L, rfl, ⟨rfl, N⟩, hq⟩ := rm0 l s _ hw tables_1 i0 i1 i2 i3 i4 i5 s.heap s.heap.size (Nat.le_refl _) p e ha hc hk s m _ below hf ((Spec.applies_iff_loose hf).mp happ).1 ⟨rfl, State.Warmed39.refl s, rfl⟩ trivial
  refine ⟨n, _, h1, h2, h3, hpost _ _ _ _ _ _ ⟨Cond.after_iff.mpr rfl, Cond.after_iff.mpr (eq_i res_at (Term.int_eval (1)) rfl), trivial⟩ ⟨hq.1, hq.2.1, (hq.2.2.sift fun y hy => Or.inr (N y hy)).mono (by decide) (by decide)⟩⟩
theorem main_1_1 : Claimed_1_1 := comes_1 fun _ _ _ _ _ _ h hF => ⟨h.1, hF⟩
theorem main_1_2 : Claimed_1_2 := comes_1 fun _ _ _ _ _ _ h hF => ⟨h.2.1, hF⟩
end Jvm.Pilot.@@N@@
namespace Jvm.Pilot.@@N@@
open Jvm Jvm.ClassFile Sem Op Lib Jvm.Free Jvm.Stand Jvm.Pilot.@@N@@.Jvm.D
/-! MADE BY PROGRAM (witnessworld.py) out of the Statement's table words and the real class files: 15 classes; the members and pool entries that the words name. The judged class is class 1, her method 2. -/
namespace start1
open Jvm.ClassFile
def u (s : String) : CpInfo := .utf8 (stringToUtf16 s)
/-- a pool by its gaps: so many unusable entries, then the entry; so many at the end -/
def gap : Nat → List CpInfo → List CpInfo
  | 0, r => r
  | n + 1, r => .unusable :: gap n r
def poolList (es : List (Nat × CpInfo)) (last : Nat) : List CpInfo := es.foldr (fun e r => gap e.1 (e.2 :: r)) (gap last [])
def pool (es : List (Nat × CpInfo)) (last : Nat) : Array CpInfo := ⟨poolList es last⟩
def fileOf (pool : Array CpInfo) (this : Nat) (attrs : Array Attribute := #[]) (ms : Array MethodInfo := #[]) (fl : Nat := 33) (sup : Nat := 0) (ifs : Array Nat := #[]) (fds : Array FieldInfo := #[]) : ClassFile where
  minorVersion := 0
  majorVersion := 65
  constantPool := pool
  accessFlags := fl
  thisClass := this
  superClass := sup
  interfaces := ifs
  fields := fds
  methods := ms
  attributes := attrs
def plain (name : String) (sup : Option ClassId) : Class where
  name := name
  kind := .ordinary
  loader := none
  accessFlags := 33
  super := sup
  interfaces := #[]
  cf := none
  fields := #[]
  methods := #[]
  instanceTypes := #[]
  staticTypes := #[]
  resolved := #[]
  callSites := []
  init := .initialized
  statics := none
  mirror := none

def pool0 : Array CpInfo := pool [(5, u "<init>"), (0, u "()V"), (1, .class_ 10), (1, u "java/lang/Object")] 113

def k0c0 : Code := { maxStack := 0, maxLocals := 1, code := object_method_1_code, exceptionTable := #[], attributes := #[] }
def k0m0 : Method := { name := "<init>", desc := "()V", sig := { parameters := [], returnType := none }, accessFlags := 1, code := some k0c0 }
/-- java/lang/Object -/
def k0 : Class := { plain "java/lang/Object" none with
  accessFlags := 33
  interfaces := #[]
  cf := some (fileOf pool0 8 #[] #[{ accessFlags := 1, nameIndex := 5, descriptorIndex := 6, attributes := #[] }] 33 0 #[] #[])
  fields := #[]
  methods := #[k0m0]
  instanceTypes := #[]
  staticTypes := #[]
  resolved := Array.replicate 124 none
  statics := none }

def pool1 : Array CpInfo := pool [(2, .class_ 4), (0, .nameAndType 5 6), (0, u "java/lang/Object"), (0, u "<init>"), (0, u "()V"), (0, .long 2147483648), (1, .class_ 10), (0, u "overmark/NotedPlaces"), (0, .methodref 9 3), (0, .methodref 9 13), (0, .nameAndType 14 15), (0, u "note"), (0, u "(II)V"), (0, .methodref 9 17), (0, .nameAndType 18 6), (0, u "letGoFirst"), (0, .methodref 9 20), (0, .nameAndType 21 22), (0, u "firstBefore"), (0, u "(II)Z"), (0, .methodref 24 25), (0, .class_ 26), (0, .nameAndType 27 28), (0, u "overmark/NotedPlacesFirstBeforePinLaw"), (0, u "key"), (0, u "(II)J"), (2, u "law"), (0, u "(IIIIII)Z")] 3

def k1m0 : Method := { name := "<init>", desc := "()V", sig := { parameters := [], returnType := none }, accessFlags := 1, code := none }
def k1c1 : Code := { maxStack := 6, maxLocals := 2, code := method_2_code, exceptionTable := #[], attributes := #[] }
def k1m1 : Method := { name := "key", desc := "(II)J", sig := { parameters := [.int, .int], returnType := some .long }, accessFlags := 10, code := some k1c1 }
def k1c2 : Code := { maxStack := 4, maxLocals := 14, code := code, exceptionTable := #[], attributes := #[] }
def k1m2 : Method := { name := "law", desc := "(IIIIII)Z", sig := { parameters := [.int, .int, .int, .int, .int, .int], returnType := some .boolean }, accessFlags := 9, code := some k1c2 }
/-- overmark/NotedPlacesFirstBeforePinLaw -/
def k1 : Class := { plain "overmark/NotedPlacesFirstBeforePinLaw" (some 0) with
  accessFlags := 49
  interfaces := #[]
  cf := some (fileOf pool1 24 #[] #[{ accessFlags := 1, nameIndex := 5, descriptorIndex := 6, attributes := #[] }, { accessFlags := 10, nameIndex := 27, descriptorIndex := 28, attributes := #[] }, { accessFlags := 9, nameIndex := 31, descriptorIndex := 32, attributes := #[] }] 49 2 #[] #[])
  fields := #[]
  methods := #[k1m0, k1m1, k1m2]
  instanceTypes := #[]
  staticTypes := #[]
  resolved := Array.replicate 36 none
  statics := none }

def pool2 : Array CpInfo := pool [(1, .class_ 2), (0, u "overmark/NotedPlaces"), (0, .methodref 4 5), (0, .class_ 6), (0, .nameAndType 7 8), (0, u "java/lang/Object"), (0, u "<init>"), (0, u "()V"), (0, .fieldref 1 10), (0, .nameAndType 11 12), (0, u "lines"), (0, u "[I"), (0, .fieldref 1 14), (0, .nameAndType 15 12), (0, u "columns"), (0, .class_ 17), (0, u "java/lang/String"), (0, .fieldref 1 19), (0, .nameAndType 20 21), (0, u "labels"), (0, u "[Ljava/lang/String;"), (0, .fieldref 1 23), (0, .nameAndType 24 25), (0, u "end"), (0, u "I"), (0, .fieldref 1 27), (0, .nameAndType 28 25), (0, u "first"), (4, u "(II)V"), (13, u "PLACES"), (2, u "MANY"), (6, u "firstBefore"), (0, u "(II)Z"), (7, u "letGoFirst"), (0, u "note")] 6

def k2c0 : Code := { maxStack := 2, maxLocals := 1, code := prog_54_method_1_code, exceptionTable := #[], attributes := #[] }
def k2m0 : Method := { name := "<init>", desc := "()V", sig := { parameters := [], returnType := none }, accessFlags := 0, code := some k2c0 }
def k2c1 : Code := { maxStack := 2, maxLocals := 3, code := prog_54_method_3_code, exceptionTable := #[], attributes := #[] }
def k2m1 : Method := { name := "firstBefore", desc := "(II)Z", sig := { parameters := [.int, .int], returnType := some .boolean }, accessFlags := 0, code := some k2c1 }
def k2c2 : Code := { maxStack := 3, maxLocals := 1, code := prog_54_method_9_code, exceptionTable := #[], attributes := #[] }
def k2m2 : Method := { name := "letGoFirst", desc := "()V", sig := { parameters := [], returnType := none }, accessFlags := 0, code := some k2c2 }
def k2c3 : Code := { maxStack := 4, maxLocals := 5, code := prog_54_method_10_code, exceptionTable := #[], attributes := #[] }
def k2m3 : Method := { name := "note", desc := "(II)V", sig := { parameters := [.int, .int], returnType := none }, accessFlags := 0, code := some k2c3 }
/-- overmark/NotedPlaces -/
def k2 : Class := { plain "overmark/NotedPlaces" (some 0) with
  accessFlags := 48
  interfaces := #[]
  cf := some (fileOf pool2 1 #[] #[{ accessFlags := 0, nameIndex := 7, descriptorIndex := 8, attributes := #[] }, { accessFlags := 0, nameIndex := 57, descriptorIndex := 58, attributes := #[] }, { accessFlags := 0, nameIndex := 66, descriptorIndex := 8, attributes := #[] }, { accessFlags := 0, nameIndex := 67, descriptorIndex := 33, attributes := #[] }] 48 4 #[] #[{ accessFlags := 26, nameIndex := 47, descriptorIndex := 25, attributes := #[] }, { accessFlags := 26, nameIndex := 50, descriptorIndex := 25, attributes := #[] }, { accessFlags := 2, nameIndex := 11, descriptorIndex := 12, attributes := #[] }, { accessFlags := 2, nameIndex := 15, descriptorIndex := 12, attributes := #[] }, { accessFlags := 2, nameIndex := 20, descriptorIndex := 21, attributes := #[] }, { accessFlags := 2, nameIndex := 28, descriptorIndex := 25, attributes := #[] }, { accessFlags := 2, nameIndex := 24, descriptorIndex := 25, attributes := #[] }])
  fields := #[{ name := "PLACES", type := .int, accessFlags := 26, slot := 0, constantValue := 0 }, { name := "MANY", type := .int, accessFlags := 26, slot := 1, constantValue := 0 }, { name := "lines", type := (.array .int), accessFlags := 2, slot := 0, constantValue := 0 }, { name := "columns", type := (.array .int), accessFlags := 2, slot := 1, constantValue := 0 }, { name := "labels", type := (.array (.object "java/lang/String")), accessFlags := 2, slot := 2, constantValue := 0 }, { name := "first", type := .int, accessFlags := 2, slot := 3, constantValue := 0 }, { name := "end", type := .int, accessFlags := 2, slot := 4, constantValue := 0 }]
  methods := #[k2m0, k2m1, k2m2, k2m3]
  instanceTypes := #[(.array .int), (.array .int), (.array (.object "java/lang/String")), .int, .int]
  staticTypes := #[.int, .int]
  resolved := Array.replicate 74 none
  statics := none }

def pool3 : Array CpInfo := pool [(1, .class_ 2), (0, u "java/io/Serializable"), (0, .class_ 4), (0, u "java/lang/Object")] 2

/-- java/io/Serializable -/
def k3 : Class := { plain "java/io/Serializable" (some 0) with
  accessFlags := 1537
  interfaces := #[]
  cf := some (fileOf pool3 1 #[] #[] 1537 3 #[] #[])
  fields := #[]
  methods := #[]
  instanceTypes := #[]
  staticTypes := #[]
  resolved := Array.replicate 7 none
  statics := none }

def pool4 : Array CpInfo := pool [(1, .class_ 2), (0, u "java/lang/Comparable"), (0, .class_ 4), (0, u "java/lang/Object")] 7

/-- java/lang/Comparable -/
def k4 : Class := { plain "java/lang/Comparable" (some 0) with
  accessFlags := 1537
  interfaces := #[]
  cf := some (fileOf pool4 1 #[] #[] 1537 3 #[] #[])
  fields := #[]
  methods := #[]
  instanceTypes := #[]
  staticTypes := #[]
  resolved := Array.replicate 12 none
  statics := none }

def pool5 : Array CpInfo := pool [(2, .class_ 4), (1, u "java/lang/CharSequence"), (42, .class_ 48), (0, u "java/lang/CharSequence$1CodePointIterator"), (10, .class_ 60), (0, u "java/lang/CharSequence$1CharIterator"), (5, .class_ 67), (0, u "java/lang/Object")] 63

/-- java/lang/CharSequence -/
def k5 : Class := { plain "java/lang/CharSequence" (some 0) with
  accessFlags := 1537
  interfaces := #[]
  cf := some (fileOf pool5 2 #[.nestMembers #[47, 59]] #[] 1537 66 #[] #[])
  fields := #[]
  methods := #[]
  instanceTypes := #[]
  staticTypes := #[]
  resolved := Array.replicate 131 none
  statics := none }

def pool6 : Array CpInfo := pool [(1, .class_ 2), (0, u "java/lang/constant/Constable"), (0, .class_ 4), (0, u "java/lang/Object")] 6

/-- java/lang/constant/Constable -/
def k6 : Class := { plain "java/lang/constant/Constable" (some 0) with
  accessFlags := 1537
  interfaces := #[]
  cf := some (fileOf pool6 1 #[] #[] 1537 3 #[] #[])
  fields := #[]
  methods := #[]
  instanceTypes := #[]
  staticTypes := #[]
  resolved := Array.replicate 11 none
  statics := none }

def pool7 : Array CpInfo := pool [(1, .class_ 2), (0, u "java/lang/constant/ConstantDesc"), (0, .class_ 4), (0, u "java/lang/Object")] 32

/-- java/lang/constant/ConstantDesc -/
def k7 : Class := { plain "java/lang/constant/ConstantDesc" (some 0) with
  accessFlags := 1537
  interfaces := #[]
  cf := some (fileOf pool7 1 #[] #[] 1537 3 #[] #[])
  fields := #[]
  methods := #[]
  instanceTypes := #[]
  staticTypes := #[]
  resolved := Array.replicate 37 none
  statics := none }

def pool8 : Array CpInfo := pool [(2, .class_ 4), (1, u "java/lang/Object"), (0, u "<init>"), (0, u "()V"), (3, .class_ 12), (1, u "java/lang/String"), (0, u "value"), (0, u "[B"), (2, u "coder"), (0, u "B"), (2, u "hash"), (0, u "I"), (2, u "hashIsZero"), (0, u "Z"), (13, u "COMPACT_STRINGS"), (534, .class_ 576), (0, u "java/lang/CharSequence"), (22, u "CASE_INSENSITIVE_ORDER"), (0, u "Ljava/util/Comparator;"), (500, u "serialPersistentFields"), (0, u "[Ljava/io/ObjectStreamField;"), (0, .class_ 1104), (0, u "java/lang/String$CaseInsensitiveComparator"), (1, .class_ 1107), (0, u "java/io/Serializable"), (0, .class_ 1109), (0, u "java/lang/Comparable"), (0, .class_ 1111), (0, u "java/lang/constant/Constable"), (0, .class_ 1113), (0, u "java/lang/constant/ConstantDesc"), (2, u "serialVersionUID"), (0, u "J"), (3, u "REPL"), (0, u "C"), (2, u "LATIN1"), (1, u "UTF16")] 323

def k8m0 : Method := { name := "<init>", desc := "()V", sig := { parameters := [], returnType := none }, accessFlags := 1, code := none }
/-- java/lang/String -/
def k8 : Class := { plain "java/lang/String" (some 0) with
  accessFlags := 49
  interfaces := #[3, 4, 5, 6, 7]
  cf := some (fileOf pool8 10 #[.nestMembers #[1103]] #[{ accessFlags := 1, nameIndex := 5, descriptorIndex := 6, attributes := #[] }] 49 2 #[1106, 1108, 575, 1110, 1112] #[{ accessFlags := 18, nameIndex := 13, descriptorIndex := 14, attributes := #[] }, { accessFlags := 18, nameIndex := 17, descriptorIndex := 18, attributes := #[] }, { accessFlags := 2, nameIndex := 21, descriptorIndex := 22, attributes := #[] }, { accessFlags := 2, nameIndex := 25, descriptorIndex := 26, attributes := #[] }, { accessFlags := 26, nameIndex := 1116, descriptorIndex := 1117, attributes := #[] }, { accessFlags := 24, nameIndex := 40, descriptorIndex := 26, attributes := #[] }, { accessFlags := 26, nameIndex := 1101, descriptorIndex := 1102, attributes := #[] }, { accessFlags := 26, nameIndex := 1121, descriptorIndex := 1122, attributes := #[] }, { accessFlags := 25, nameIndex := 599, descriptorIndex := 600, attributes := #[] }, { accessFlags := 24, nameIndex := 1125, descriptorIndex := 18, attributes := #[] }, { accessFlags := 24, nameIndex := 1127, descriptorIndex := 18, attributes := #[] }])
  fields := #[{ name := "value", type := (.array .byte), accessFlags := 18, slot := 0, constantValue := 0 }, { name := "coder", type := .byte, accessFlags := 18, slot := 1, constantValue := 0 }, { name := "hash", type := .int, accessFlags := 2, slot := 2, constantValue := 0 }, { name := "hashIsZero", type := .boolean, accessFlags := 2, slot := 3, constantValue := 0 }, { name := "serialVersionUID", type := .long, accessFlags := 26, slot := 0, constantValue := 0 }, { name := "COMPACT_STRINGS", type := .boolean, accessFlags := 24, slot := 1, constantValue := 0 }, { name := "serialPersistentFields", type := (.array (.object "java/io/ObjectStreamField")), accessFlags := 26, slot := 2, constantValue := 0 }, { name := "REPL", type := .char, accessFlags := 26, slot := 3, constantValue := 0 }, { name := "CASE_INSENSITIVE_ORDER", type := (.object "java/util/Comparator"), accessFlags := 25, slot := 4, constantValue := 0 }, { name := "LATIN1", type := .byte, accessFlags := 24, slot := 5, constantValue := 0 }, { name := "UTF16", type := .byte, accessFlags := 24, slot := 6, constantValue := 0 }]
  methods := #[k8m0]
  instanceTypes := #[(.array .byte), .byte, .int, .boolean]
  staticTypes := #[.long, .boolean, (.array (.object "java/io/ObjectStreamField")), .char, (.object "java/util/Comparator"), .byte, .byte]
  resolved := Array.replicate 1451 none
  statics := none }

def pool9 : Array CpInfo := pool [(1, u "java/lang/Cloneable"), (0, .class_ 1), (0, u "java/lang/Object"), (0, .class_ 3)] 3

/-- java/lang/Cloneable -/
def k9 : Class := { plain "java/lang/Cloneable" (some 0) with
  accessFlags := 1537
  interfaces := #[]
  cf := some (fileOf pool9 2 #[] #[] 1537 4 #[] #[])
  fields := #[]
  methods := #[]
  instanceTypes := #[]
  staticTypes := #[]
  resolved := Array.replicate 8 none
  statics := none }

/-- the primitive byte -/
def k10 : Class := { plain "byte" none with kind := .primitive 'B', accessFlags := 0x411 }
/-- [B -/
def k11 : Class := { plain "[B" (some 0) with kind := .array 10 .byte, interfaces := #[9, 3], accessFlags := 1041 }

/-- the primitive int -/
def k12 : Class := { plain "int" none with kind := .primitive 'I', accessFlags := 0x411 }
/-- [I -/
def k13 : Class := { plain "[I" (some 0) with kind := .array 12 .int, interfaces := #[9, 3], accessFlags := 1041 }

/-- [Ljava/lang/String; -/
def k14 : Class := { plain "[Ljava/lang/String;" (some 0) with kind := .array 8 (.object "java/lang/String"), interfaces := #[9, 3], accessFlags := 1041 }

def heap : Heap := #[]
def classes : Array Class := #[k0, k1, k2, k3, k4, k5, k6, k7, k8, k9, k10, k11, k12, k13, k14]
def interned : List (Array UInt16 × Addr) := []
def slotsUsed : Nat := 0
def theMethod : MethodId := ⟨1, 2⟩
def args0 : Array Value := #[.int 1, .int 2, .int 3, .int 4, .int 5, .int 6]
def aboutOver (below : List Frame) : State where
  vm := { classes := classes, interned := interned.toArray }
  heap := heap
  slotsUsed := slotsUsed
  threads := #[{ frames := .invoking theMethod args0 :: below }]
def below0 : List Frame := [.native { method := ⟨0, 0⟩, args := #[] }]
def about1 : State := aboutOver below0
def p0 : Program := .bare "" "" ""
def e0 : Env := launch0.env 0 0 0
theorem w_frames : about1.frames = Frame.invoking theMethod args0 :: below0 := rfl
set_option maxRecDepth 65536 in
theorem w_args : argsFit about1.vm theMethod args0 = true := by decide +kernel
set_option maxRecDepth 65536 in
theorem w_heap : heapFits about1 = true := by decide +kernel
set_option maxRecDepth 65536 in
theorem w_runnable : about1.curStatus? = some .runnable := by decide +kernel
set_option maxRecDepth 65536 in
theorem w_alone : about1.alone = true := by decide +kernel
set_option maxRecDepth 65536 in
theorem w_named : about1.methodNamed? x = some theMethod := by decide +kernel
set_option maxRecDepth 65536 in
theorem w_hears : about1.hears theMethod below0 = true := by decide +kernel
set_option maxRecDepth 65536 in
theorem w_ripe : about1.ripe theMethod args0 below0 = true := by decide +kernel
theorem w_running : about1.status = .running := rfl
set_option maxRecDepth 65536 in
theorem w_room : about1.hasRoom e0.platform room_1 = true :=
  launch0.hasRoom_least _ room_1 (by decide +kernel) (by decide +kernel) (by decide +kernel) (by decide +kernel) (by decide +kernel) (by decide +kernel)
theorem allAtoms_all (ts : List Jvm.Cond) (a : Array Jvm.Value) (st : Jvm.State) : (allAtoms ts).before a st = ts.all (fun c => c.before a st) := by
  induction ts with
  | nil => rfl
  | cons c t ih =>
    show (Jvm.Cond.and c (allAtoms t)).before a st = _
    rw [Jvm.Cond.before_and, ih, List.all_cons]
def words1 : List Jvm.Cond := Jvm.Cond.code x code maxLocals ret :: tables_1
/-- a 'code' word, met by the world's own term for the bytes: nothing is compared byte by byte -/
theorem code_word {y : MethodName} {bytes : ByteArray} {mx : Nat} {rt : Option FieldType} {a : Array Value} {s : State} {m : MethodId} {meth : Method} {c : Code} (h1 : s.methodNamed? y = some m) (h2 : s.vm.method? m = some meth) (h3 : meth.code = some c) (h4 : c.code = bytes)
    (h5 : (c.maxLocals == mx && c.exceptionTable.isEmpty && decide (c.maxStack ≤ mostOperands) && decide (meth.sig.returnType = rt) && !meth.locks && decide (parseMethodDescriptor y.desc = some meth.sig)) = true) : (Jvm.Cond.code y bytes mx rt).before a s = true := by
  simp only [Bool.and_eq_true, beq_iff_eq, Bool.not_eq_true', decide_eq_true_eq] at h5
  obtain ⟨⟨⟨⟨⟨g1, g2⟩, g3⟩, g4⟩, g5⟩, g6⟩ := h5
  simp [Cond.before, Cond.holds, Cond.value, h1, h2, h3, h4, g1, g2, g3, g4, g5, g6]
def isCode : Jvm.Cond → Bool
  | .code _ _ _ _ => true
  | _ => false
theorem all_split {L : List Jvm.Cond} {P : Jvm.Cond → Bool} (h1 : L.all (fun c => isCode c || P c) = true) (h2 : ∀ c ∈ L.filter isCode, P c = true) : L.all P = true := by
  refine List.all_eq_true.mpr fun c hc => ?_
  have h := List.all_eq_true.mp h1 c hc
  rcases Bool.eq_false_or_eq_true (isCode c) with hi | hi
  · exact h2 c (List.mem_filter.mpr ⟨hc, hi⟩)
  · simpa [hi] using h
set_option maxRecDepth 65536 in
theorem w_c0 : (Jvm.Cond.code x code maxLocals ret).before args0 about1 = true := code_word (m := ⟨1, 2⟩) (meth := k1m2) (c := k1c2) (by decide +kernel) rfl rfl rfl (by decide +kernel)
set_option maxRecDepth 65536 in
theorem w_c1 : (Jvm.Cond.code ({ cls := "overmark/NotedPlaces", name := "<init>", desc := "()V" } : Jvm.MethodName) prog_54_method_1_code (1 : Nat) (Option.none : Option Jvm.ClassFile.FieldType)).before args0 about1 = true := code_word (m := ⟨2, 0⟩) (meth := k2m0) (c := k2c0) (by decide +kernel) rfl rfl rfl (by decide +kernel)
set_option maxRecDepth 65536 in
theorem w_c2 : (Jvm.Cond.code ({ cls := "java/lang/Object", name := "<init>", desc := "()V" } : Jvm.MethodName) object_method_1_code (1 : Nat) (Option.none : Option Jvm.ClassFile.FieldType)).before args0 about1 = true := code_word (m := ⟨0, 0⟩) (meth := k0m0) (c := k0c0) (by decide +kernel) rfl rfl rfl (by decide +kernel)
set_option maxRecDepth 65536 in
theorem w_c3 : (Jvm.Cond.code ({ cls := "overmark/NotedPlaces", name := "firstBefore", desc := "(II)Z" } : Jvm.MethodName) prog_54_method_3_code (3 : Nat) (Option.some Jvm.ClassFile.FieldType.boolean)).before args0 about1 = true := code_word (m := ⟨2, 1⟩) (meth := k2m1) (c := k2c1) (by decide +kernel) rfl rfl rfl (by decide +kernel)
set_option maxRecDepth 65536 in
theorem w_c4 : (Jvm.Cond.code ({ cls := "overmark/NotedPlaces", name := "note", desc := "(II)V" } : Jvm.MethodName) prog_54_method_10_code (5 : Nat) (Option.none : Option Jvm.ClassFile.FieldType)).before args0 about1 = true := code_word (m := ⟨2, 3⟩) (meth := k2m3) (c := k2c3) (by decide +kernel) rfl rfl rfl (by decide +kernel)
set_option maxRecDepth 65536 in
theorem w_c5 : (Jvm.Cond.code ({ cls := "overmark/NotedPlaces", name := "letGoFirst", desc := "()V" } : Jvm.MethodName) prog_54_method_9_code (1 : Nat) (Option.none : Option Jvm.ClassFile.FieldType)).before args0 about1 = true := code_word (m := ⟨2, 2⟩) (meth := k2m2) (c := k2c2) (by decide +kernel) rfl rfl rfl (by decide +kernel)
set_option maxRecDepth 65536 in
theorem w_c6 : (Jvm.Cond.code ({ cls := "overmark/NotedPlacesFirstBeforePinLaw", name := "key", desc := "(II)J" } : Jvm.MethodName) method_2_code (2 : Nat) (Option.some Jvm.ClassFile.FieldType.long)).before args0 about1 = true := code_word (m := ⟨1, 1⟩) (meth := k1m1) (c := k1c1) (by decide +kernel) rfl rfl rfl (by decide +kernel)
def codes1 : List Jvm.Cond := [Jvm.Cond.code x code maxLocals ret, Jvm.Cond.code ({ cls := "overmark/NotedPlaces", name := "<init>", desc := "()V" } : Jvm.MethodName) prog_54_method_1_code (1 : Nat) (Option.none : Option Jvm.ClassFile.FieldType), Jvm.Cond.code ({ cls := "java/lang/Object", name := "<init>", desc := "()V" } : Jvm.MethodName) object_method_1_code (1 : Nat) (Option.none : Option Jvm.ClassFile.FieldType), Jvm.Cond.code ({ cls := "overmark/NotedPlaces", name := "firstBefore", desc := "(II)Z" } : Jvm.MethodName) prog_54_method_3_code (3 : Nat) (Option.some Jvm.ClassFile.FieldType.boolean), Jvm.Cond.code ({ cls := "overmark/NotedPlaces", name := "note", desc := "(II)V" } : Jvm.MethodName) prog_54_method_10_code (5 : Nat) (Option.none : Option Jvm.ClassFile.FieldType), Jvm.Cond.code ({ cls := "overmark/NotedPlaces", name := "letGoFirst", desc := "()V" } : Jvm.MethodName) prog_54_method_9_code (1 : Nat) (Option.none : Option Jvm.ClassFile.FieldType), Jvm.Cond.code ({ cls := "overmark/NotedPlacesFirstBeforePinLaw", name := "key", desc := "(II)J" } : Jvm.MethodName) method_2_code (2 : Nat) (Option.some Jvm.ClassFile.FieldType.long)]
set_option maxRecDepth 65536 in
theorem codes_eq : words1.filter isCode = codes1 := rfl
theorem w_codes : ∀ c ∈ words1.filter isCode, c.before args0 about1 = true := by
  rw [codes_eq]
  intro c hc
  simp only [codes1, List.mem_cons, List.not_mem_nil, or_false] at hc
  rcases hc with rfl | rfl | rfl | rfl | rfl | rfl | rfl
  · exact w_c0
  · exact w_c1
  · exact w_c2
  · exact w_c3
  · exact w_c4
  · exact w_c5
  · exact w_c6
set_option maxRecDepth 65536 in
theorem w_t1 : (words1.take 24).all (fun c => isCode c || c.before args0 about1) = true := by decide +kernel
set_option maxRecDepth 65536 in
theorem w_t2 : (words1.drop 24).all (fun c => isCode c || c.before args0 about1) = true := by decide +kernel
theorem w_tables : (allAtoms (Jvm.Cond.code x code maxLocals ret :: tables_1)).before args0 about1 = true := by
  rw [allAtoms_all]
  show words1.all (fun c => c.before args0 about1) = true
  refine all_split ?_ w_codes
  rw [← List.take_append_drop 24 words1, List.all_append, w_t1, w_t2]
  rfl
set_option maxRecDepth 65536 in
theorem w_case : (Jvm.Cond.and given_1 narrow_1).before args0 about1 = true := by decide +kernel
theorem w_applies : (headSpec (Jvm.Cond.code x code maxLocals ret :: tables_1) room_1).applies x e0.platform about1 = true :=
  (Spec.applies_iff w_frames).mpr ⟨w_running, w_runnable, w_alone, w_named, w_hears, w_ripe, w_room, w_tables⟩
theorem atStart : AtStart classFile x code maxLocals ret World_1 tables_1 room_1 Calls_1 rest_1 Pre_1 launch0 p0 e0 about1 theMethod args0 below0 :=
  ⟨lists_1, trivial, launch0.admits_env _ _ _, launch0.least_env, fairChoices_fair.cas, fairChoices_fair.clock, w_frames, w_args, w_heap, w_applies, trivial, trivial, w_case⟩
end start1
theorem witness_1 : WitnessClaimed_1 := ⟨start1.p0, start1.e0, start1.about1, start1.theMethod, start1.args0, start1.below0, start1.atStart⟩
end Jvm.Pilot.@@N@@
