import JvmDerived
import JvmDerived.Pilot.@@N@@Statement
import JvmDerived.Pilot.@@N@@Code
set_option linter.unusedVariables false
set_option linter.unusedSimpArgs false

namespace Jvm.Pilot.@@N@@
open Jvm Jvm.ClassFile Sem Op Lib Jvm.Free Jvm.Stand Jvm.LawKit Jvm.RoadKit Bundle Jvm.Pilot.@@N@@.Jvm.D
theorem own_fld {args : Array Value} {s : State} {t : Term} {x : Addr} {C n d : String} {k : Int32} (ht : t.eval args s none [] s = some (.ref x)) (h : (Cond.eq (Term.field t C n d) (Term.int k)).value args s none s [] = some true) : Fld s s.heap x C n d (.int k) :=
  Fld.start ((fld_at ht).symm.trans (eqv_i (Term.int_eval (k)) h))
def own_Q (r : Value) (h0 : Heap) (n0 : Nat) (v : Option Value) (h : Heap) (L : List Loc) : Prop := v = some r ∧ Fr n0 L ∧ h = h0
def own_QP (Z : State) (h0 : Heap) (n0 : Nat) (v : Option Value) (h : Heap) (L : List Loc) : Prop := ∃ w, v = some (.ref w) ∧ Fr n0 L ∧ h = h0 ∧ Exa Z h0 w "com/example/persimmon/persimmon/engine/Durability"
def own_QK (o1 : Addr) (h0 : Heap) (n0 : Nat) (v : Option Value) (h : Heap) (L : List Loc) : Prop := v = none ∧ Fr n0 L ∧ Keep h0 h [o1]
def own_QE (h0 : Heap) (n0 : Nat) (v : Option Value) (h : Heap) (L : List Loc) : Prop := ∃ b, v = some (.ref b) ∧ Fr n0 L ∧ Ext h0 h
def own_QI (Z : State) (o1 a1 : Addr) (h0 : Heap) (n0 : Nat) (v : Option Value) (h : Heap) (L : List Loc) : Prop := v = none ∧ Fr n0 L ∧ Keep h0 h [o1] ∧ Exa Z h o1 "com/example/persimmon/persimmon/engine/EnvironmentConfig" ∧ Fld Z h o1 "com/example/persimmon/persimmon/engine/EnvironmentConfig" "durability" "Lcom/example/persimmon/persimmon/engine/Durability;" (.ref a1) ∧ (∃ t1, Fld Z h o1 "com/example/persimmon/persimmon/engine/EnvironmentConfig" "lockTimeout" "Ljava/time/Duration;" (.ref t1)) ∧ Fld Z h o1 "com/example/persimmon/persimmon/engine/EnvironmentConfig" "allowCreate" "Z" (.int (0 : Int32))
def own_QS (Z : State) (o1 d1 t1 : Addr) (al : Int32) (h0 : Heap) (n0 : Nat) (v : Option Value) (h : Heap) (L : List Loc) : Prop := v = some (.ref o1) ∧ Fr n0 L ∧ Keep h0 h [o1] ∧ Exa Z h o1 "com/example/persimmon/persimmon/engine/EnvironmentConfig" ∧ Fld Z h o1 "com/example/persimmon/persimmon/engine/EnvironmentConfig" "durability" "Lcom/example/persimmon/persimmon/engine/Durability;" (.ref d1) ∧ Fld Z h o1 "com/example/persimmon/persimmon/engine/EnvironmentConfig" "lockTimeout" "Ljava/time/Duration;" (.ref t1) ∧ Fld Z h o1 "com/example/persimmon/persimmon/engine/EnvironmentConfig" "allowCreate" "Z" (.int al)
def own_QL (h0 : Heap) (n0 : Nat) (v : Option Value) (h : Heap) (L : List Loc) : Prop := v = some (.int (1 : Int32)) ∧ Fr n0 L ∧ True
theorem own_ext {h0 h1 h2 : Heap} {ws : List Addr} (E : Ext h0 h1) (K : Keep h1 h2 ws) (q : ∀ x ∈ ws, h0.size ≤ x) : Ext h0 h2 :=
  ⟨Nat.le_trans E.1 K.1, fun a c r => K.2.1 a c (E.2 a c r) (fun z => absurd (Array.getElem?_eq_some_iff.mp r).1 (Nat.not_lt.mpr (q a z)))⟩
theorem own_since (s : State) (n : Nat) : s.Since s.vm n := (State.WarmedH.refl s).since n
theorem own_wS {Z : State} {a0 : Array Value} (hw : ∀ d ∈ tables_1, d.before a0 Z = true) : ∀ a ∈ Bundle.stringAtoms, a.before a0 Z = true := fun d hd => by
  simp only [Bundle.stringAtoms, List.mem_cons, List.not_mem_nil, or_false] at hd
  rcases hd with rfl | rfl | rfl | rfl | rfl | rfl | rfl
  · exact hw _ (List.mem_of_getElem? (i := 62) rfl)
  · exact hw _ (List.mem_of_getElem? (i := 63) rfl)
  · exact hw _ (List.mem_of_getElem? (i := 64) rfl)
  · exact hw _ (List.mem_of_getElem? (i := 65) rfl)
  · exact hw _ (List.mem_of_getElem? (i := 66) rfl)
  · exact hw _ (List.mem_of_getElem? (i := 67) rfl)
  · exact hw _ (List.mem_of_getElem? (i := 68) rfl)
theorem own_and1 (p : Int32) : p &&& (1 : Int32) = (0 : Int32) ∨ p &&& (1 : Int32) = (1 : Int32) := by
  have h1 : (p &&& (1 : Int32)).toInt = p.toInt % ((2 ^ 1 : Nat) : Int) := c_mask p 1 1 (by decide) (by decide)
  generalize p &&& (1 : Int32) = i at *
  have h6 : i.toInt = 0 ∨ i.toInt = 1 := by omega
  rcases h6 with q | q
  · exact Or.inl (Int32.toInt_inj.mp (q.trans (by decide)))
  · exact Or.inr (Int32.toInt_inj.mp (q.trans (by decide)))
theorem own_djdk_2316_m16_0 : decode jdk_2316_method_16_code 0 = .ok (.lload_n 0, 1) := by decide +kernel
theorem own_djdk_2316_m16_1 : decode jdk_2316_method_16_code 1 = .ok (.iload_n 2, 1) := by decide +kernel
theorem own_djdk_2316_m16_2 : decode jdk_2316_method_16_code 2 = .ok (.i2l, 1) := by decide +kernel
theorem own_djdk_2316_m16_3 : decode jdk_2316_method_16_code 3 = .ok (.lor, 1) := by decide +kernel
theorem own_djdk_2316_m16_4 : decode jdk_2316_method_16_code 4 = .ok (.lconst 0, 1) := by decide +kernel
theorem own_djdk_2316_m16_5 : decode jdk_2316_method_16_code 5 = .ok (.lcmp, 1) := by decide +kernel
theorem own_djdk_2316_m16_6 : decode jdk_2316_method_16_code 6 = .ok (.ifCond .ne 7, 3) := by decide +kernel
theorem own_djdk_2316_m16_13 : decode jdk_2316_method_16_code 13 = .ok (.new 11, 3) := by decide +kernel
theorem own_djdk_2316_m16_16 : decode jdk_2316_method_16_code 16 = .ok (.dup, 1) := by decide +kernel
theorem own_djdk_2316_m16_17 : decode jdk_2316_method_16_code 17 = .ok (.lload_n 0, 1) := by decide +kernel
theorem own_djdk_2316_m16_18 : decode jdk_2316_method_16_code 18 = .ok (.iload_n 2, 1) := by decide +kernel
theorem own_djdk_2316_m16_19 : decode jdk_2316_method_16_code 19 = .ok (.invokespecial 215, 3) := by decide +kernel
theorem own_djdk_2316_m16_22 : decode jdk_2316_method_16_code 22 = .ok (.areturn, 1) := by decide +kernel
theorem own_djdk_2316_m17_0 : decode jdk_2316_method_17_code 0 = .ok (.aload_n 0, 1) := by decide +kernel
theorem own_djdk_2316_m17_1 : decode jdk_2316_method_17_code 1 = .ok (.invokespecial 218, 3) := by decide +kernel
theorem own_djdk_2316_m17_4 : decode jdk_2316_method_17_code 4 = .ok (.aload_n 0, 1) := by decide +kernel
theorem own_djdk_2316_m17_5 : decode jdk_2316_method_17_code 5 = .ok (.lload_n 1, 1) := by decide +kernel
theorem own_djdk_2316_m17_6 : decode jdk_2316_method_17_code 6 = .ok (.putfield 221, 3) := by decide +kernel
theorem own_djdk_2316_m17_9 : decode jdk_2316_method_17_code 9 = .ok (.aload_n 0, 1) := by decide +kernel
theorem own_djdk_2316_m17_10 : decode jdk_2316_method_17_code 10 = .ok (.iload_n 3, 1) := by decide +kernel
theorem own_djdk_2316_m17_11 : decode jdk_2316_method_17_code 11 = .ok (.putfield 224, 3) := by decide +kernel
theorem own_djdk_2316_m17_14 : decode jdk_2316_method_17_code 14 = .ok (.return_, 1) := by decide +kernel
theorem own_djdk_2316_m6_0 : decode jdk_2316_method_6_code 0 = .ok (.lload_n 0, 1) := by decide +kernel
theorem own_djdk_2316_m6_1 : decode jdk_2316_method_6_code 1 = .ok (.ldc2_w 28, 3) := by decide +kernel
theorem own_djdk_2316_m6_4 : decode jdk_2316_method_6_code 4 = .ok (.ldiv, 1) := by decide +kernel
theorem own_djdk_2316_m6_5 : decode jdk_2316_method_6_code 5 = .ok (.lstore_n 2, 1) := by decide +kernel
theorem own_djdk_2316_m6_6 : decode jdk_2316_method_6_code 6 = .ok (.lload_n 0, 1) := by decide +kernel
theorem own_djdk_2316_m6_7 : decode jdk_2316_method_6_code 7 = .ok (.ldc2_w 28, 3) := by decide +kernel
theorem own_djdk_2316_m6_10 : decode jdk_2316_method_6_code 10 = .ok (.lrem, 1) := by decide +kernel
theorem own_djdk_2316_m6_11 : decode jdk_2316_method_6_code 11 = .ok (.l2i, 1) := by decide +kernel
theorem own_djdk_2316_m6_12 : decode jdk_2316_method_6_code 12 = .ok (.istore 4, 2) := by decide +kernel
theorem own_djdk_2316_m6_14 : decode jdk_2316_method_6_code 14 = .ok (.iload 4, 2) := by decide +kernel
theorem own_djdk_2316_m6_16 : decode jdk_2316_method_6_code 16 = .ok (.ifCond .ge 13, 3) := by decide +kernel
theorem own_djdk_2316_m6_29 : decode jdk_2316_method_6_code 29 = .ok (.lload_n 2, 1) := by decide +kernel
theorem own_djdk_2316_m6_30 : decode jdk_2316_method_6_code 30 = .ok (.iload 4, 2) := by decide +kernel
theorem own_djdk_2316_m6_32 : decode jdk_2316_method_6_code 32 = .ok (.ldc 30, 2) := by decide +kernel
theorem own_djdk_2316_m6_34 : decode jdk_2316_method_6_code 34 = .ok (.imul, 1) := by decide +kernel
theorem own_djdk_2316_m6_35 : decode jdk_2316_method_6_code 35 = .ok (.invokestatic 10, 3) := by decide +kernel
theorem own_djdk_2316_m6_38 : decode jdk_2316_method_6_code 38 = .ok (.areturn, 1) := by decide +kernel
theorem own_djdk_31_m11_0 : decode jdk_31_method_11_code 0 = .ok (.aload_n 0, 1) := by decide +kernel
theorem own_djdk_31_m11_1 : decode jdk_31_method_11_code 1 = .ok (.ifnonnull 12, 3) := by decide +kernel
theorem own_djdk_31_m11_13 : decode jdk_31_method_11_code 13 = .ok (.aload_n 0, 1) := by decide +kernel
theorem own_djdk_31_m11_14 : decode jdk_31_method_11_code 14 = .ok (.areturn, 1) := by decide +kernel
theorem own_dm2_0 : decode method_2_code 0 = .ok (.iload_n 0, 1) := by decide +kernel
theorem own_dm2_1 : decode method_2_code 1 = .ok (.iconst 1, 1) := by decide +kernel
theorem own_dm2_2 : decode method_2_code 2 = .ok (.iand, 1) := by decide +kernel
theorem own_dm2_3 : decode method_2_code 3 = .ok (.ifCond .eq 7, 3) := by decide +kernel
theorem own_dm2_6 : decode method_2_code 6 = .ok (.getstatic 7, 3) := by decide +kernel
theorem own_dm2_9 : decode method_2_code 9 = .ok (.areturn, 1) := by decide +kernel
theorem own_dm2_10 : decode method_2_code 10 = .ok (.getstatic 13, 3) := by decide +kernel
theorem own_dm2_13 : decode method_2_code 13 = .ok (.areturn, 1) := by decide +kernel
theorem own_dprog_82_m1_0 : decode prog_82_method_1_code 0 = .ok (.aload_n 0, 1) := by decide +kernel
theorem own_dprog_82_m1_1 : decode prog_82_method_1_code 1 = .ok (.invokespecial 1, 3) := by decide +kernel
theorem own_dprog_82_m1_4 : decode prog_82_method_1_code 4 = .ok (.aload_n 0, 1) := by decide +kernel
theorem own_dprog_82_m1_5 : decode prog_82_method_1_code 5 = .ok (.getstatic 7, 3) := by decide +kernel
theorem own_dprog_82_m1_8 : decode prog_82_method_1_code 8 = .ok (.putfield 13, 3) := by decide +kernel
theorem own_dprog_82_m1_11 : decode prog_82_method_1_code 11 = .ok (.aload_n 0, 1) := by decide +kernel
theorem own_dprog_82_m1_12 : decode prog_82_method_1_code 12 = .ok (.ldc2_w 18, 3) := by decide +kernel
theorem own_dprog_82_m1_15 : decode prog_82_method_1_code 15 = .ok (.invokestatic 20, 3) := by decide +kernel
theorem own_dprog_82_m1_18 : decode prog_82_method_1_code 18 = .ok (.putfield 26, 3) := by decide +kernel
theorem own_dprog_82_m1_21 : decode prog_82_method_1_code 21 = .ok (.return_, 1) := by decide +kernel
theorem own_dprog_82_m2_0 : decode prog_82_method_2_code 0 = .ok (.aload_n 0, 1) := by decide +kernel
theorem own_dprog_82_m2_1 : decode prog_82_method_2_code 1 = .ok (.iload_n 1, 1) := by decide +kernel
theorem own_dprog_82_m2_2 : decode prog_82_method_2_code 2 = .ok (.putfield 30, 3) := by decide +kernel
theorem own_dprog_82_m2_5 : decode prog_82_method_2_code 5 = .ok (.aload_n 0, 1) := by decide +kernel
theorem own_dprog_82_m2_6 : decode prog_82_method_2_code 6 = .ok (.areturn, 1) := by decide +kernel
theorem own_dprog_82_m3_0 : decode prog_82_method_3_code 0 = .ok (.aload_n 0, 1) := by decide +kernel
theorem own_dprog_82_m3_1 : decode prog_82_method_3_code 1 = .ok (.getfield 30, 3) := by decide +kernel
theorem own_dprog_82_m3_4 : decode prog_82_method_3_code 4 = .ok (.ireturn, 1) := by decide +kernel
theorem own_dprog_82_m4_0 : decode prog_82_method_4_code 0 = .ok (.aload_n 0, 1) := by decide +kernel
theorem own_dprog_82_m4_1 : decode prog_82_method_4_code 1 = .ok (.aload_n 1, 1) := by decide +kernel
theorem own_dprog_82_m4_2 : decode prog_82_method_4_code 2 = .ok (.ldc 34, 2) := by decide +kernel
theorem own_dprog_82_m4_4 : decode prog_82_method_4_code 4 = .ok (.invokestatic 35, 3) := by decide +kernel
theorem own_dprog_82_m4_7 : decode prog_82_method_4_code 7 = .ok (.checkcast 8, 3) := by decide +kernel
theorem own_dprog_82_m4_10 : decode prog_82_method_4_code 10 = .ok (.putfield 13, 3) := by decide +kernel
theorem own_dprog_82_m4_13 : decode prog_82_method_4_code 13 = .ok (.aload_n 0, 1) := by decide +kernel
theorem own_dprog_82_m4_14 : decode prog_82_method_4_code 14 = .ok (.areturn, 1) := by decide +kernel
theorem own_dprog_82_m5_0 : decode prog_82_method_5_code 0 = .ok (.aload_n 0, 1) := by decide +kernel
theorem own_dprog_82_m5_1 : decode prog_82_method_5_code 1 = .ok (.getfield 13, 3) := by decide +kernel
theorem own_dprog_82_m5_4 : decode prog_82_method_5_code 4 = .ok (.areturn, 1) := by decide +kernel
theorem own_dprog_82_m7_0 : decode prog_82_method_7_code 0 = .ok (.aload_n 0, 1) := by decide +kernel
theorem own_dprog_82_m7_1 : decode prog_82_method_7_code 1 = .ok (.getfield 26, 3) := by decide +kernel
theorem own_dprog_82_m7_4 : decode prog_82_method_7_code 4 = .ok (.areturn, 1) := by decide +kernel
theorem own_pn0 : plainName "com/example/persimmon/persimmon/engine/EnvironmentConfigSetDurabilityPinLaw" = true := by first | (simp [plainName, overriddenIn]; done) | decide +kernel
theorem own_pn1 : plainName "java/time/Duration" = true := by first | (simp [plainName, overriddenIn]; done) | decide +kernel
theorem own_pn2 : plainName "com/example/persimmon/persimmon/engine/EnvironmentConfig" = true := by first | (simp [plainName, overriddenIn]; done) | decide +kernel
theorem own_pn3 : plainName "java/util/Objects" = true := by first | (simp [plainName, overriddenIn]; done) | decide +kernel
theorem own_pd0 : parseMethodDescriptor "(JI)V" = some ⟨[.long, .int], none⟩ := by decide +kernel
theorem own_pd1 : parseMethodDescriptor "(JI)Ljava/time/Duration;" = some ⟨[.long, .int], some (.object "java/time/Duration")⟩ := by decide +kernel
theorem own_pd2 : parseMethodDescriptor "(J)Ljava/time/Duration;" = some ⟨[.long], some (.object "java/time/Duration")⟩ := by decide +kernel
theorem own_pd3 : parseMethodDescriptor "(Ljava/lang/Object;Ljava/lang/String;)Ljava/lang/Object;" = some ⟨[(.object "java/lang/Object"), (.object "java/lang/String")], some (.object "java/lang/Object")⟩ := by decide +kernel
theorem own_pd4 : parseMethodDescriptor "(I)Lcom/example/persimmon/persimmon/engine/Durability;" = some ⟨[.int], some (.object "com/example/persimmon/persimmon/engine/Durability")⟩ := by decide +kernel
theorem own_pd5 : parseMethodDescriptor "()V" = some ⟨[], none⟩ := by decide +kernel
theorem own_pd6 : parseMethodDescriptor "(Z)Lcom/example/persimmon/persimmon/engine/EnvironmentConfig;" = some ⟨[.boolean], some (.object "com/example/persimmon/persimmon/engine/EnvironmentConfig")⟩ := by decide +kernel
theorem own_pd7 : parseMethodDescriptor "()Ljava/time/Duration;" = some ⟨[], some (.object "java/time/Duration")⟩ := by decide +kernel
theorem own_pd8 : parseMethodDescriptor "(Lcom/example/persimmon/persimmon/engine/Durability;)Lcom/example/persimmon/persimmon/engine/EnvironmentConfig;" = some ⟨[(.object "com/example/persimmon/persimmon/engine/Durability")], some (.object "com/example/persimmon/persimmon/engine/EnvironmentConfig")⟩ := by decide +kernel
theorem own_pd9 : parseMethodDescriptor "()Lcom/example/persimmon/persimmon/engine/Durability;" = some ⟨[], some (.object "com/example/persimmon/persimmon/engine/Durability")⟩ := by decide +kernel
theorem own_pd10 : parseMethodDescriptor "()Z" = some ⟨[], some .boolean⟩ := by decide +kernel
theorem own_ef_m2 (m : MethodId) (x0 : Int32) : entryFrame m #[(.int x0)] 1 = mkF m 0 #[.val (.int x0)] [] := by first | (simp [entryFrame, mkF, argsToLocals, Value.category]; done) | rfl
theorem own_ef_jdk_2316_m17 (m : MethodId) (x0 : Addr) (x1 : Int64) (x2 : Int32) : entryFrame m #[(.ref x0), (.long x1), (.int x2)] 4 = mkF m 0 #[.val (.ref x0), .val (.long x1), .second, .val (.int x2)] [] := by first | (simp [entryFrame, mkF, argsToLocals, Value.category]; done) | rfl
theorem own_ef_jdk_2316_m16 (m : MethodId) (x0 : Int64) (x1 : Int32) : entryFrame m #[(.long x0), (.int x1)] 3 = mkF m 0 #[.val (.long x0), .second, .val (.int x1)] [] := by first | (simp [entryFrame, mkF, argsToLocals, Value.category]; done) | rfl
theorem own_ef_jdk_2316_m6 (m : MethodId) (x0 : Int64) : entryFrame m #[(.long x0)] 5 = mkF m 0 #[.val (.long x0), .second, .unset, .unset, .unset] [] := by first | (simp [entryFrame, mkF, argsToLocals, Value.category]; done) | rfl
theorem own_ef_prog_82_m1 (m : MethodId) (x0 : Addr) : entryFrame m #[(.ref x0)] 1 = mkF m 0 #[.val (.ref x0)] [] := by first | (simp [entryFrame, mkF, argsToLocals, Value.category]; done) | rfl
theorem own_ef_prog_82_m2 (m : MethodId) (x0 : Addr) (x1 : Int32) : entryFrame m #[(.ref x0), (.int x1)] 2 = mkF m 0 #[.val (.ref x0), .val (.int x1)] [] := by first | (simp [entryFrame, mkF, argsToLocals, Value.category]; done) | rfl
theorem own_ef_prog_82_m3 (m : MethodId) (x0 : Addr) : entryFrame m #[(.ref x0)] 1 = mkF m 0 #[.val (.ref x0)] [] := by first | (simp [entryFrame, mkF, argsToLocals, Value.category]; done) | rfl
theorem own_ef_prog_82_m7 (m : MethodId) (x0 : Addr) : entryFrame m #[(.ref x0)] 1 = mkF m 0 #[.val (.ref x0)] [] := by first | (simp [entryFrame, mkF, argsToLocals, Value.category]; done) | rfl
theorem own_ef_prog_82_m5 (m : MethodId) (x0 : Addr) : entryFrame m #[(.ref x0)] 1 = mkF m 0 #[.val (.ref x0)] [] := by first | (simp [entryFrame, mkF, argsToLocals, Value.category]; done) | rfl
theorem own_ef_jdk_31_m11 (m : MethodId) (x0 : Addr) (x1 : Addr) : entryFrame m #[(.ref x0), (.ref x1)] 2 = mkF m 0 #[.val (.ref x0), .val (.ref x1)] [] := by first | (simp [entryFrame, mkF, argsToLocals, Value.category]; done) | rfl
theorem own_ef_prog_82_m4 (m : MethodId) (x0 : Addr) (x1 : Addr) : entryFrame m #[(.ref x0), (.ref x1)] 2 = mkF m 0 #[.val (.ref x0), .val (.ref x1)] [] := by first | (simp [entryFrame, mkF, argsToLocals, Value.category]; done) | rfl
theorem own_ef_code (m : MethodId) (x0 : Int32) (x1 : Int32) (x2 : Int32) : entryFrame m #[(.int x0), (.int x1), (.int x2)] maxLocals = mkF m 0 #[.val (.int x0), .val (.int x1), .val (.int x2), .unset, .unset, .unset, .unset, .unset, .unset, .unset, .unset, .unset, .unset, .unset] [] := by first | (simp [entryFrame, mkF, argsToLocals, Value.category, maxLocals]; done) | rfl
set_option maxRecDepth 65536 in
set_option maxHeartbeats 40000000 in
theorem own_pick0 (l : Launch) (Z : State) (a0 : Array Value) (hw : ∀ d ∈ tables_1, d.before a0 Z = true) (ws : List Jvm.Cond) (p1 : Int32) (a_SYNC : Addr) (h0 : Heap) (n0 : Nat) (Z0 : n0 ≤ h0.size) (O0 : Old Z n0 h0) (S_SYNC : Sta Z Z.heap "com/example/persimmon/persimmon/engine/Durability" "SYNC" "Lcom/example/persimmon/persimmon/engine/Durability;" (.ref a_SYNC)) (E_SYNC : Exa Z Z.heap a_SYNC "com/example/persimmon/persimmon/engine/Durability") (hf : p1 &&& (1 : Int32) = (0 : Int32)) :
    MetFree l (⟨"com/example/persimmon/persimmon/engine/EnvironmentConfigSetDurabilityPinLaw", "pick", "(I)Lcom/example/persimmon/persimmon/engine/Durability;"⟩ : MethodName) (head1 (Jvm.Cond.code (⟨"com/example/persimmon/persimmon/engine/EnvironmentConfigSetDurabilityPinLaw", "pick", "(I)Lcom/example/persimmon/persimmon/engine/Durability;"⟩ : MethodName) method_2_code 1 (some (.object "com/example/persimmon/persimmon/engine/Durability")) :: ws) ({ frames := 0, cells := 0, slots := 0, locals := 0 } : Room)) (fun a U => a = #[(.int p1)] ∧ Z.Warmed39 U.vm ∧ U.heap = h0) (fun _ _ _ _ _ => True) (fun _ U o U' => ∃ v L, o = .returned v ∧ own_QP Z h0 n0 v U'.heap L ∧ FrameEnd U o U' L ({ frames := 0, cells := 0, slots := 0, locals := 0 } : Room).cells ({ frames := 0, cells := 0, slots := 0, locals := 0 } : Room).slots) := by
  refine MetFree.of_bodySF (plainFor_of_name own_pn0) hisR ?_
  intro p e s m args below meth c s₁ Bd hml0 hP hK
  obtain ⟨rfl, hZ, hh⟩ := hP
  have hx := Bd.exec
  have hby := Bd.bytes
  have hml : c.maxLocals = 1 := hml0
  have hown : s.vm.findClass "com/example/persimmon/persimmon/engine/EnvironmentConfigSetDurabilityPinLaw" = some m.cls := findClass_of_methodNamed Bd.named
  have hnm := (name_of_methodNamed Bd.named Bd.method).1
  have X0 : Stand p l e ({ frames := 0, cells := 0, slots := 0, locals := 0 } : Room) s m #[(.int p1)] below meth c s₁ [] 0 0 := Stand.of_body Bd
  have e0 : s₁.heap = h0 := by rw [← hh, Bd.state]; rfl
  have N0 := Fr.nil n0
  have pre0 : ∀ t, Steps p.tables e below (s₁.setTop (mkF m 0 #[.val (.int p1)] [])) t → Steps p.tables e below (s₁.setTop (entryFrame m #[(.int p1)] 1)) t := fun t k => castTop (own_ef_m2 m p1) k
  obtain ⟨T1, X1, e1, st1⟩ := getS2 X0 hx hZ hown (host := "") (Or.inl (hw _ (List.mem_of_getElem? (i := 4) rfl))) Via.refl e0 (S_SYNC.ext O0.2) (g := (mkF m 10 #[.val (.int p1)] [])) rfl (hb hby own_dm2_10)
  obtain ⟨fs, hr, hrun, hended, hW, hsame⟩ := X1.leave (v := some (.ref a_SYNC)) (fun h => by rw [Bd.returns] at h; cases h)
  refine ⟨_, _, pre0 _ ?_, hrun, hended, _, _, rfl, ?_, ⟨_, rfl⟩, hW, hsame.mono (by decide) (by decide)⟩
  · show Steps p.tables e below (s₁.setTop (mkF m 0 #[.val (.int p1)] [])) _
    refine XS.iloadN X0.here hx rfl (hb hby own_dm2_0) rfl ?_
    show Steps p.tables e below (s₁.setTop (mkF m 1 #[.val (.int p1)] [(.int p1)])) _
    refine XS.iconst X0.here hx rfl (hb hby own_dm2_1) ?_
    show Steps p.tables e below (s₁.setTop (mkF m 2 #[.val (.int p1)] [(.int (1 : Int32)), (.int p1)])) _
    refine XS.iand X0.here hx rfl (hb hby own_dm2_2) rfl ?_
    show Steps p.tables e below (s₁.setTop (mkF m 3 #[.val (.int p1)] [(.int (p1 &&& (1 : Int32)))])) _
    rw [hf]
    show Steps p.tables e below (s₁.setTop (mkF m 3 #[.val (.int p1)] [(.int (0 : Int32))])) _
    refine XS.ifYes X0.here hx rfl (pc0 := 3) (pc' := 10) rfl (hb hby own_dm2_3) rfl (by decide) (by decide) (by decide) ?_
    show Steps p.tables e below (s₁.setTop (mkF m 10 #[.val (.int p1)] [])) _
    refine st1 _ ?_
    show Steps p.tables e below (T1.setTop (mkF m 13 #[.val (.int p1)] [(.ref a_SYNC)])) _
    exact retOut X1 hx Bd.returns rfl (Or.inr (Or.inr (Or.inr (Or.inr ⟨rfl, rfl, rfl⟩)))) (hb hby own_dm2_13) hr
  · show own_QP Z h0 n0 _ T1.heap _
    rw [e1]
    exact ⟨a_SYNC, rfl, N0, rfl, E_SYNC.ext O0.2⟩
set_option maxRecDepth 65536 in
set_option maxHeartbeats 40000000 in
theorem own_pick1 (l : Launch) (Z : State) (a0 : Array Value) (hw : ∀ d ∈ tables_1, d.before a0 Z = true) (ws : List Jvm.Cond) (p1 : Int32) (a_NO_SYNC : Addr) (h0 : Heap) (n0 : Nat) (Z0 : n0 ≤ h0.size) (O0 : Old Z n0 h0) (S_NO_SYNC : Sta Z Z.heap "com/example/persimmon/persimmon/engine/Durability" "NO_SYNC" "Lcom/example/persimmon/persimmon/engine/Durability;" (.ref a_NO_SYNC)) (E_NO_SYNC : Exa Z Z.heap a_NO_SYNC "com/example/persimmon/persimmon/engine/Durability") (hf : p1 &&& (1 : Int32) = (1 : Int32)) :
    MetFree l (⟨"com/example/persimmon/persimmon/engine/EnvironmentConfigSetDurabilityPinLaw", "pick", "(I)Lcom/example/persimmon/persimmon/engine/Durability;"⟩ : MethodName) (head1 (Jvm.Cond.code (⟨"com/example/persimmon/persimmon/engine/EnvironmentConfigSetDurabilityPinLaw", "pick", "(I)Lcom/example/persimmon/persimmon/engine/Durability;"⟩ : MethodName) method_2_code 1 (some (.object "com/example/persimmon/persimmon/engine/Durability")) :: ws) ({ frames := 0, cells := 0, slots := 0, locals := 0 } : Room)) (fun a U => a = #[(.int p1)] ∧ Z.Warmed39 U.vm ∧ U.heap = h0) (fun _ _ _ _ _ => True) (fun _ U o U' => ∃ v L, o = .returned v ∧ own_QP Z h0 n0 v U'.heap L ∧ FrameEnd U o U' L ({ frames := 0, cells := 0, slots := 0, locals := 0 } : Room).cells ({ frames := 0, cells := 0, slots := 0, locals := 0 } : Room).slots) := by
  refine MetFree.of_bodySF (plainFor_of_name own_pn0) hisR ?_
  intro p e s m args below meth c s₁ Bd hml0 hP hK
  obtain ⟨rfl, hZ, hh⟩ := hP
  have hx := Bd.exec
  have hby := Bd.bytes
  have hml : c.maxLocals = 1 := hml0
  have hown : s.vm.findClass "com/example/persimmon/persimmon/engine/EnvironmentConfigSetDurabilityPinLaw" = some m.cls := findClass_of_methodNamed Bd.named
  have hnm := (name_of_methodNamed Bd.named Bd.method).1
  have X0 : Stand p l e ({ frames := 0, cells := 0, slots := 0, locals := 0 } : Room) s m #[(.int p1)] below meth c s₁ [] 0 0 := Stand.of_body Bd
  have e0 : s₁.heap = h0 := by rw [← hh, Bd.state]; rfl
  have N0 := Fr.nil n0
  have pre0 : ∀ t, Steps p.tables e below (s₁.setTop (mkF m 0 #[.val (.int p1)] [])) t → Steps p.tables e below (s₁.setTop (entryFrame m #[(.int p1)] 1)) t := fun t k => castTop (own_ef_m2 m p1) k
  obtain ⟨T1, X1, e1, st1⟩ := getS2 X0 hx hZ hown (host := "") (Or.inl (hw _ (List.mem_of_getElem? (i := 7) rfl))) Via.refl e0 (S_NO_SYNC.ext O0.2) (g := (mkF m 6 #[.val (.int p1)] [])) rfl (hb hby own_dm2_6)
  obtain ⟨fs, hr, hrun, hended, hW, hsame⟩ := X1.leave (v := some (.ref a_NO_SYNC)) (fun h => by rw [Bd.returns] at h; cases h)
  refine ⟨_, _, pre0 _ ?_, hrun, hended, _, _, rfl, ?_, ⟨_, rfl⟩, hW, hsame.mono (by decide) (by decide)⟩
  · show Steps p.tables e below (s₁.setTop (mkF m 0 #[.val (.int p1)] [])) _
    refine XS.iloadN X0.here hx rfl (hb hby own_dm2_0) rfl ?_
    show Steps p.tables e below (s₁.setTop (mkF m 1 #[.val (.int p1)] [(.int p1)])) _
    refine XS.iconst X0.here hx rfl (hb hby own_dm2_1) ?_
    show Steps p.tables e below (s₁.setTop (mkF m 2 #[.val (.int p1)] [(.int (1 : Int32)), (.int p1)])) _
    refine XS.iand X0.here hx rfl (hb hby own_dm2_2) rfl ?_
    show Steps p.tables e below (s₁.setTop (mkF m 3 #[.val (.int p1)] [(.int (p1 &&& (1 : Int32)))])) _
    rw [hf]
    show Steps p.tables e below (s₁.setTop (mkF m 3 #[.val (.int p1)] [(.int (1 : Int32))])) _
    refine XS.ifNo X0.here hx rfl (hb hby own_dm2_3) rfl (by decide) ?_
    show Steps p.tables e below (s₁.setTop (mkF m 6 #[.val (.int p1)] [])) _
    refine st1 _ ?_
    show Steps p.tables e below (T1.setTop (mkF m 9 #[.val (.int p1)] [(.ref a_NO_SYNC)])) _
    exact retOut X1 hx Bd.returns rfl (Or.inr (Or.inr (Or.inr (Or.inr ⟨rfl, rfl, rfl⟩)))) (hb hby own_dm2_9) hr
  · show own_QP Z h0 n0 _ T1.heap _
    rw [e1]
    exact ⟨a_NO_SYNC, rfl, N0, rfl, E_NO_SYNC.ext O0.2⟩
theorem own_pick (l : Launch) (Z : State) (a0 : Array Value) (hw : ∀ d ∈ tables_1, d.before a0 Z = true) (ws : List Jvm.Cond) (p1 : Int32) (a_SYNC a_NO_SYNC : Addr) (h0 : Heap) (n0 : Nat) (Z0 : n0 ≤ h0.size) (O0 : Old Z n0 h0) (S_SYNC : Sta Z Z.heap "com/example/persimmon/persimmon/engine/Durability" "SYNC" "Lcom/example/persimmon/persimmon/engine/Durability;" (.ref a_SYNC)) (S_NO_SYNC : Sta Z Z.heap "com/example/persimmon/persimmon/engine/Durability" "NO_SYNC" "Lcom/example/persimmon/persimmon/engine/Durability;" (.ref a_NO_SYNC)) (E_SYNC : Exa Z Z.heap a_SYNC "com/example/persimmon/persimmon/engine/Durability") (E_NO_SYNC : Exa Z Z.heap a_NO_SYNC "com/example/persimmon/persimmon/engine/Durability") :
    MetFree l (⟨"com/example/persimmon/persimmon/engine/EnvironmentConfigSetDurabilityPinLaw", "pick", "(I)Lcom/example/persimmon/persimmon/engine/Durability;"⟩ : MethodName) (head1 (Jvm.Cond.code (⟨"com/example/persimmon/persimmon/engine/EnvironmentConfigSetDurabilityPinLaw", "pick", "(I)Lcom/example/persimmon/persimmon/engine/Durability;"⟩ : MethodName) method_2_code 1 (some (.object "com/example/persimmon/persimmon/engine/Durability")) :: ws) ({ frames := 0, cells := 0, slots := 0, locals := 0 } : Room)) (fun a U => a = #[(.int p1)] ∧ Z.Warmed39 U.vm ∧ U.heap = h0) (fun _ _ _ _ _ => True) (fun _ U o U' => ∃ v L, o = .returned v ∧ own_QP Z h0 n0 v U'.heap L ∧ FrameEnd U o U' L ({ frames := 0, cells := 0, slots := 0, locals := 0 } : Room).cells ({ frames := 0, cells := 0, slots := 0, locals := 0 } : Room).slots) := by
  rcases own_and1 p1 with hf | hf
  · exact own_pick0 l Z a0 hw ws p1 a_SYNC h0 n0 Z0 O0 S_SYNC E_SYNC hf
  · exact own_pick1 l Z a0 hw ws p1 a_NO_SYNC h0 n0 Z0 O0 S_NO_SYNC E_NO_SYNC hf
set_option maxRecDepth 65536 in
set_option maxHeartbeats 40000000 in
theorem own_durinit (l : Launch) (Z : State) (a0 : Array Value) (hw : ∀ d ∈ tables_1, d.before a0 Z = true) (ws : List Jvm.Cond) (o1 : Addr) (x1 : Int64) (x2 : Int32) (h0 : Heap) (n0 : Nat) (Z0 : n0 ≤ h0.size) (F_s : Fld Z h0 o1 "java/time/Duration" "seconds" "J" (.long (0 : Int64))) (F_n : Fld Z h0 o1 "java/time/Duration" "nanos" "I" (.int (0 : Int32))) (E_o1 : Exa Z h0 o1 "java/time/Duration") (g_o1 : n0 ≤ o1) :
    MetFree l (⟨"java/time/Duration", "<init>", "(JI)V"⟩ : MethodName) (head1 (Jvm.Cond.code (⟨"java/time/Duration", "<init>", "(JI)V"⟩ : MethodName) jdk_2316_method_17_code 4 none :: ws) ({ frames := 1, cells := 0, slots := 0, locals := 12 } : Room)) (fun a U => a = #[(.ref o1), (.long x1), (.int x2)] ∧ Z.Warmed39 U.vm ∧ U.heap = h0) (fun _ _ _ _ _ => True) (fun _ U o U' => ∃ v L, o = .returned v ∧ own_QK o1 h0 n0 v U'.heap L ∧ FrameEnd U o U' L ({ frames := 1, cells := 0, slots := 0, locals := 12 } : Room).cells ({ frames := 1, cells := 0, slots := 0, locals := 12 } : Room).slots) := by
  refine MetFree.of_bodySF (plainFor_of_name own_pn1) hisR ?_
  intro p e s m args below meth c s₁ Bd hml0 hP hK
  obtain ⟨rfl, hZ, hh⟩ := hP
  have hx := Bd.exec
  have hby := Bd.bytes
  have hml : c.maxLocals = 4 := hml0
  have hown : s.vm.findClass "java/time/Duration" = some m.cls := findClass_of_methodNamed Bd.named
  have hnm := (name_of_methodNamed Bd.named Bd.method).1
  have X0 : Stand p l e ({ frames := 1, cells := 0, slots := 0, locals := 12 } : Room) s m #[(.ref o1), (.long x1), (.int x2)] below meth c s₁ [] 0 0 := Stand.of_body Bd
  have e0 : s₁.heap = h0 := by rw [← hh, Bd.state]; rfl
  have N0 := Fr.nil n0
  have pre0 : ∀ t, Steps p.tables e below (s₁.setTop (mkF m 0 #[.val (.ref o1), .val (.long x1), .second, .val (.int x2)] [])) t → Steps p.tables e below (s₁.setTop (entryFrame m #[(.ref o1), (.long x1), (.int x2)] 4)) t := fun t k => castTop (own_ef_jdk_2316_m17 m o1 x1 x2) k
  obtain ⟨T1, X1, e1, st1⟩ := initO X0 hx hZ hown (hw _ (List.mem_of_getElem? (i := 37) rfl)) (hw _ (List.mem_of_getElem? (i := 16) rfl)) (hw _ (List.mem_of_getElem? (i := 17) rfl)) e0 (g := (mkF m 1 #[.val (.ref o1), .val (.long x1), .second, .val (.int x2)] [(.ref o1)])) rfl (by rw [hml]; rfl) rfl (hb hby own_djdk_2316_m17_1) (by decide) (W := 0) (by show 2 * 0 + _ ≤ _; exact Nat.le_of_eq rfl) (by decide)
  obtain ⟨T2, h2, X2, e2, W2, st2⟩ := putF X1 hx hZ hown (host := "") (Or.inl (hw _ (List.mem_of_getElem? (i := 38) rfl))) Via.refl e1 F_s E_o1 (Or.inr ⟨(hw _ (List.mem_of_getElem? (i := 39) rfl)), rfl, hnm⟩) (hw _ (List.mem_of_getElem? (i := 32) rfl)) (ty := .long) (by decide) rfl rfl (g := (mkF m 6 #[.val (.ref o1), .val (.long x1), .second, .val (.int x2)] [(.long x1), (.ref o1)])) rfl rfl (hb hby own_djdk_2316_m17_6)
  have N2 := Fr.snoc X2 N0 g_o1
  have Fn1 := F_n.other W2 (Or.inr (slot_ne (Or.inr (hw _ (List.mem_of_getElem? (i := 41) rfl))) (Or.inr (hw _ (List.mem_of_getElem? (i := 39) rfl))) (by decide) (t := .int) (t' := .long) (by decide) (by decide)))
  have Ex1 := E_o1.wr W2
  have K2 : Keep h0 h2 [o1] := (Keep.refl h0 [o1]).wr W2 (Or.inl (List.mem_of_getElem? (i := 0) rfl))
  obtain ⟨T3, h3, X3, e3, W3, st3⟩ := putF X2 hx hZ hown (host := "") (Or.inl (hw _ (List.mem_of_getElem? (i := 40) rfl))) Via.refl e2 Fn1 Ex1 (Or.inr ⟨(hw _ (List.mem_of_getElem? (i := 41) rfl)), rfl, hnm⟩) (hw _ (List.mem_of_getElem? (i := 32) rfl)) (ty := .int) (by decide) rfl rfl (g := (mkF m 11 #[.val (.ref o1), .val (.long x1), .second, .val (.int x2)] [(.int x2), (.ref o1)])) rfl rfl (hb hby own_djdk_2316_m17_11)
  have N3 := Fr.snoc X3 N2 g_o1
  have K3 : Keep h0 h3 [o1] := K2.wr W3 (Or.inl (List.mem_of_getElem? (i := 0) rfl))
  obtain ⟨fs, hr, hrun, hended, hW, hsame⟩ := X3.leave (v := none) (fun _ => rfl)
  refine ⟨_, _, pre0 _ ?_, hrun, hended, _, _, rfl, ?_, ⟨_, rfl⟩, hW, hsame.mono (by decide) (by decide)⟩
  · show Steps p.tables e below (s₁.setTop (mkF m 0 #[.val (.ref o1), .val (.long x1), .second, .val (.int x2)] [])) _
    refine XS.aloadN X0.here hx rfl (hb hby own_djdk_2316_m17_0) rfl rfl ?_
    show Steps p.tables e below (s₁.setTop (mkF m 1 #[.val (.ref o1), .val (.long x1), .second, .val (.int x2)] [(.ref o1)])) _
    refine st1 _ ?_
    show Steps p.tables e below (T1.setTop (mkF m 4 #[.val (.ref o1), .val (.long x1), .second, .val (.int x2)] [])) _
    refine XS.aloadN X1.here hx rfl (hb hby own_djdk_2316_m17_4) rfl rfl ?_
    show Steps p.tables e below (T1.setTop (mkF m 5 #[.val (.ref o1), .val (.long x1), .second, .val (.int x2)] [(.ref o1)])) _
    refine XS.lloadN X1.here hx rfl (hb hby own_djdk_2316_m17_5) rfl ?_
    show Steps p.tables e below (T1.setTop (mkF m 6 #[.val (.ref o1), .val (.long x1), .second, .val (.int x2)] [(.long x1), (.ref o1)])) _
    refine st2 _ ?_
    show Steps p.tables e below (T2.setTop (mkF m 9 #[.val (.ref o1), .val (.long x1), .second, .val (.int x2)] [])) _
    refine XS.aloadN X2.here hx rfl (hb hby own_djdk_2316_m17_9) rfl rfl ?_
    show Steps p.tables e below (T2.setTop (mkF m 10 #[.val (.ref o1), .val (.long x1), .second, .val (.int x2)] [(.ref o1)])) _
    refine XS.iloadN X2.here hx rfl (hb hby own_djdk_2316_m17_10) rfl ?_
    show Steps p.tables e below (T2.setTop (mkF m 11 #[.val (.ref o1), .val (.long x1), .second, .val (.int x2)] [(.int x2), (.ref o1)])) _
    refine st3 _ ?_
    show Steps p.tables e below (T3.setTop (mkF m 14 #[.val (.ref o1), .val (.long x1), .second, .val (.int x2)] [])) _
    exact X3.returnOut hx Bd.returns (hb hby own_djdk_2316_m17_14) hr
  · show own_QK o1 h0 n0 _ T3.heap _
    rw [e3]
    exact ⟨rfl, N3, K3⟩
set_option maxRecDepth 65536 in
set_option maxHeartbeats 40000000 in
theorem own_create (l : Launch) (Z : State) (a0 : Array Value) (hw : ∀ d ∈ tables_1, d.before a0 Z = true) (ws : List Jvm.Cond)  (h0 : Heap) (n0 : Nat) (Z0 : n0 ≤ h0.size)  :
    MetFree l (⟨"java/time/Duration", "create", "(JI)Ljava/time/Duration;"⟩ : MethodName) (head1 (Jvm.Cond.code (⟨"java/time/Duration", "create", "(JI)Ljava/time/Duration;"⟩ : MethodName) jdk_2316_method_16_code 3 (some (.object "java/time/Duration")) :: ws) ({ frames := 2, cells := 1, slots := 2, locals := 28 } : Room)) (fun a U => a = #[(.long (0 : Int64)), (.int (500000000 : Int32))] ∧ Z.Warmed39 U.vm ∧ U.heap = h0) (fun _ _ _ _ _ => True) (fun _ U o U' => ∃ v L, o = .returned v ∧ own_QE h0 n0 v U'.heap L ∧ FrameEnd U o U' L ({ frames := 2, cells := 1, slots := 2, locals := 28 } : Room).cells ({ frames := 2, cells := 1, slots := 2, locals := 28 } : Room).slots) := by
  refine MetFree.of_bodySF (plainFor_of_name own_pn1) hisR ?_
  intro p e s m args below meth c s₁ Bd hml0 hP hK
  obtain ⟨rfl, hZ, hh⟩ := hP
  have hx := Bd.exec
  have hby := Bd.bytes
  have hml : c.maxLocals = 3 := hml0
  have hown : s.vm.findClass "java/time/Duration" = some m.cls := findClass_of_methodNamed Bd.named
  have hnm := (name_of_methodNamed Bd.named Bd.method).1
  have X0 : Stand p l e ({ frames := 2, cells := 1, slots := 2, locals := 28 } : Room) s m #[(.long (0 : Int64)), (.int (500000000 : Int32))] below meth c s₁ [] 0 0 := Stand.of_body Bd
  have e0 : s₁.heap = h0 := by rw [← hh, Bd.state]; rfl
  have N0 := Fr.nil n0
  have pre0 : ∀ t, Steps p.tables e below (s₁.setTop (mkF m 0 #[.val (.long (0 : Int64)), .second, .val (.int (500000000 : Int32))] [])) t → Steps p.tables e below (s₁.setTop (entryFrame m #[(.long (0 : Int64)), (.int (500000000 : Int32))] 3)) t := fun t k => castTop (own_ef_jdk_2316_m16 m (0 : Int64) (500000000 : Int32)) k
  obtain ⟨T1, h1, X1, e1, E1, A1, D1, -, st1⟩ := newO X0 hx hZ hown (hw _ (List.mem_of_getElem? (i := 31) rfl)) (hw _ (List.mem_of_getElem? (i := 32) rfl)) (hw _ (List.mem_of_getElem? (i := 24) rfl)) e0 (g := (mkF m 13 #[.val (.long (0 : Int64)), .second, .val (.int (500000000 : Int32))] [])) rfl (hb hby own_djdk_2316_m16_13) (by decide) (by decide)
  obtain ⟨b1, g1⟩ : ∃ z, z = h0.size := ⟨_, rfl⟩
  rw [← g1] at A1 D1 st1
  have F_s : Fld Z h1 b1 "java/time/Duration" "seconds" "J" (.long (0 : Int64)) := D1 (Or.inr (hw _ (List.mem_of_getElem? (i := 39) rfl))) (ty := .long) (by decide)
  have F_n : Fld Z h1 b1 "java/time/Duration" "nanos" "I" (.int (0 : Int32)) := D1 (Or.inr (hw _ (List.mem_of_getElem? (i := 41) rfl))) (ty := .int) (by decide)
  have g_b1 : n0 ≤ b1 := Nat.le_trans Z0 (Nat.le_of_eq g1.symm)
  have sz_b1 : h0.size ≤ b1 := Nat.le_of_eq g1.symm
  have Z1 : n0 ≤ h1.size := Nat.le_trans Z0 E1.1
  obtain ⟨_, _, ⟨T2, L2, k2, n2⟩, -, X2, ⟨Lc2, hQ2, l2, y2, z2⟩, st2⟩ := X1.specialBack hx (y := (⟨"java/time/Duration", "<init>", "(JI)V"⟩ : MethodName)) rfl hown (mvT hZ (hw _ (List.mem_of_getElem? (i := 33) rfl))) (mvT hZ (hw _ (List.mem_of_getElem? (i := 34) rfl))) (mvT hZ (hw _ (List.mem_of_getElem? (i := 36) rfl))) (by decide) (backOf (W := 1) (own_durinit l Z a0 hw [] b1 (0 : Int64) (500000000 : Int32) h1 n0 Z1 F_s F_n A1 g_b1) hZ (hw _ (List.mem_of_getElem? (i := 36) rfl)) (hw _ (List.mem_of_getElem? (i := 24) rfl)) (by decide) (by decide)) (g := (mkF m 19 #[.val (.long (0 : Int64)), .second, .val (.int (500000000 : Int32))] [(.int (500000000 : Int32)), (.long (0 : Int64)), (.ref b1), (.ref b1)])) rfl (by rw [hml]; rfl) (Steps.refl _) (a := b1) (argsL := [(.long (0 : Int64)), (.int (500000000 : Int32))]) (rest := [(.ref b1)]) (lenOf own_pd0 rfl) rfl (by show 2 * 0 + _ ≤ _; exact Nat.le_of_eq rfl) (hb hby own_djdk_2316_m16_19) (fun _ _ => ⟨rfl, e1, (by decide : 1 + 0 ≤ _), (by decide : 2 + 0 ≤ _)⟩)
  dsimp only [Pt.U, Pt.locs, Pt.cells, Pt.slots] at X2 l2 y2 z2 st2 hQ2
  subst l2 y2 z2
  obtain ⟨rfl, N2q, K2⟩ := hQ2
  have N2 := Fr.app N0 N2q
  obtain ⟨fs, hr, hrun, hended, hW, hsame⟩ := X2.leave (v := some (.ref b1)) (fun h => by rw [Bd.returns] at h; cases h)
  refine ⟨_, _, pre0 _ ?_, hrun, hended, _, _, rfl, ?_, ⟨_, rfl⟩, hW, hsame.mono (by decide) (by decide)⟩
  · show Steps p.tables e below (s₁.setTop (mkF m 0 #[.val (.long (0 : Int64)), .second, .val (.int (500000000 : Int32))] [])) _
    refine XS.lloadN X0.here hx rfl (hb hby own_djdk_2316_m16_0) rfl ?_
    show Steps p.tables e below (s₁.setTop (mkF m 1 #[.val (.long (0 : Int64)), .second, .val (.int (500000000 : Int32))] [(.long (0 : Int64))])) _
    refine XS.iloadN X0.here hx rfl (hb hby own_djdk_2316_m16_1) rfl ?_
    show Steps p.tables e below (s₁.setTop (mkF m 2 #[.val (.long (0 : Int64)), .second, .val (.int (500000000 : Int32))] [(.int (500000000 : Int32)), (.long (0 : Int64))])) _
    refine XS.i2l X0.here hx rfl (hb hby own_djdk_2316_m16_2) rfl ?_
    show Steps p.tables e below (s₁.setTop (mkF m 3 #[.val (.long (0 : Int64)), .second, .val (.int (500000000 : Int32))] [(.long ((500000000 : Int32).toInt64)), (.long (0 : Int64))])) _
    refine XS.lor X0.here hx rfl (hb hby own_djdk_2316_m16_3) rfl ?_
    show Steps p.tables e below (s₁.setTop (mkF m 4 #[.val (.long (0 : Int64)), .second, .val (.int (500000000 : Int32))] [(.long ((0 : Int64) ||| ((500000000 : Int32).toInt64)))])) _
    refine XS.lconst X0.here hx rfl (hb hby own_djdk_2316_m16_4) ?_
    show Steps p.tables e below (s₁.setTop (mkF m 5 #[.val (.long (0 : Int64)), .second, .val (.int (500000000 : Int32))] [(.long (0 : Int64)), (.long ((0 : Int64) ||| ((500000000 : Int32).toInt64)))])) _
    refine XS.lcmp X0.here hx rfl (hb hby own_djdk_2316_m16_5) rfl ?_
    show Steps p.tables e below (s₁.setTop (mkF m 6 #[.val (.long (0 : Int64)), .second, .val (.int (500000000 : Int32))] [(.int (lcmpW ((0 : Int64) ||| ((500000000 : Int32).toInt64)) (0 : Int64)))])) _
    refine XS.ifYes X0.here hx rfl (pc0 := 6) (pc' := 13) rfl (hb hby own_djdk_2316_m16_6) rfl ((if0 _ _).trans (feq (by decide)).2) (by decide) (by decide) ?_
    show Steps p.tables e below (s₁.setTop (mkF m 13 #[.val (.long (0 : Int64)), .second, .val (.int (500000000 : Int32))] [])) _
    refine st1 _ ?_
    show Steps p.tables e below (T1.setTop (mkF m 16 #[.val (.long (0 : Int64)), .second, .val (.int (500000000 : Int32))] [(.ref b1)])) _
    refine XS.dup X1.here hx rfl (hb hby own_djdk_2316_m16_16) rfl rfl ?_
    show Steps p.tables e below (T1.setTop (mkF m 17 #[.val (.long (0 : Int64)), .second, .val (.int (500000000 : Int32))] [(.ref b1), (.ref b1)])) _
    refine XS.lloadN X1.here hx rfl (hb hby own_djdk_2316_m16_17) rfl ?_
    show Steps p.tables e below (T1.setTop (mkF m 18 #[.val (.long (0 : Int64)), .second, .val (.int (500000000 : Int32))] [(.long (0 : Int64)), (.ref b1), (.ref b1)])) _
    refine XS.iloadN X1.here hx rfl (hb hby own_djdk_2316_m16_18) rfl ?_
    show Steps p.tables e below (T1.setTop (mkF m 19 #[.val (.long (0 : Int64)), .second, .val (.int (500000000 : Int32))] [(.int (500000000 : Int32)), (.long (0 : Int64)), (.ref b1), (.ref b1)])) _
    refine st2.trans ?_
    show Steps p.tables e below (T2.setTop (mkF m 22 #[.val (.long (0 : Int64)), .second, .val (.int (500000000 : Int32))] [(.ref b1)])) _
    exact retOut X2 hx Bd.returns rfl (Or.inr (Or.inr (Or.inr (Or.inr ⟨rfl, rfl, rfl⟩)))) (hb hby own_djdk_2316_m16_22) hr
  · show own_QE h0 n0 _ T2.heap _
    exact ⟨b1, rfl, N2, own_ext E1 K2 (allS sz_b1 all0)⟩
set_option maxRecDepth 65536 in
set_option maxHeartbeats 40000000 in
theorem own_ofm (l : Launch) (Z : State) (a0 : Array Value) (hw : ∀ d ∈ tables_1, d.before a0 Z = true) (ws : List Jvm.Cond)  (h0 : Heap) (n0 : Nat) (Z0 : n0 ≤ h0.size)  :
    MetFree l (⟨"java/time/Duration", "ofMillis", "(J)Ljava/time/Duration;"⟩ : MethodName) (head1 (Jvm.Cond.code (⟨"java/time/Duration", "ofMillis", "(J)Ljava/time/Duration;"⟩ : MethodName) jdk_2316_method_6_code 5 (some (.object "java/time/Duration")) :: ws) ({ frames := 3, cells := 1, slots := 2, locals := 42 } : Room)) (fun a U => a = #[(.long (500 : Int64))] ∧ Z.Warmed39 U.vm ∧ U.heap = h0) (fun _ _ _ _ _ => True) (fun _ U o U' => ∃ v L, o = .returned v ∧ own_QE h0 n0 v U'.heap L ∧ FrameEnd U o U' L ({ frames := 3, cells := 1, slots := 2, locals := 42 } : Room).cells ({ frames := 3, cells := 1, slots := 2, locals := 42 } : Room).slots) := by
  refine MetFree.of_bodySF (plainFor_of_name own_pn1) hisR ?_
  intro p e s m args below meth c s₁ Bd hml0 hP hK
  obtain ⟨rfl, hZ, hh⟩ := hP
  have hx := Bd.exec
  have hby := Bd.bytes
  have hml : c.maxLocals = 5 := hml0
  have hown : s.vm.findClass "java/time/Duration" = some m.cls := findClass_of_methodNamed Bd.named
  have hnm := (name_of_methodNamed Bd.named Bd.method).1
  have X0 : Stand p l e ({ frames := 3, cells := 1, slots := 2, locals := 42 } : Room) s m #[(.long (500 : Int64))] below meth c s₁ [] 0 0 := Stand.of_body Bd
  have e0 : s₁.heap = h0 := by rw [← hh, Bd.state]; rfl
  have N0 := Fr.nil n0
  have pre0 : ∀ t, Steps p.tables e below (s₁.setTop (mkF m 0 #[.val (.long (500 : Int64)), .second, .unset, .unset, .unset] [])) t → Steps p.tables e below (s₁.setTop (entryFrame m #[(.long (500 : Int64))] 5)) t := fun t k => castTop (own_ef_jdk_2316_m6 m (500 : Int64)) k
  obtain ⟨_, _, ⟨T1, L1, k1, n1⟩, -, X1, ⟨Lc1, hQ1, l1, y1, z1⟩, st1⟩ := Jvm.LawKit.callS X0 hx (y := (⟨"java/time/Duration", "create", "(JI)Ljava/time/Duration;"⟩ : MethodName)) hown (mvT hZ (hw _ (List.mem_of_getElem? (i := 28) rfl))) (mvT hZ (hw _ (List.mem_of_getElem? (i := 29) rfl))) (mvT hZ (hw _ (List.mem_of_getElem? (i := 24) rfl))) (mvT hZ (hw _ (List.mem_of_getElem? (i := 30) rfl))) (by decide) (backOf (W := 0) (own_create l Z a0 hw [] h0 n0 Z0) hZ (hw _ (List.mem_of_getElem? (i := 30) rfl)) (hw _ (List.mem_of_getElem? (i := 24) rfl)) (by decide) (by decide)) (g := (mkF m 35 #[.val (.long (500 : Int64)), .second, .val (.long (0 : Int64)), .second, .val (.int (500 : Int32))] [(.int (500000000 : Int32)), (.long (0 : Int64))])) rfl (by rw [hml]; rfl) (argsL := [(.long (0 : Int64)), (.int (500000000 : Int32))]) (rest := []) (lenOf own_pd1 rfl) rfl (by show 2 * 0 + _ ≤ _; exact Nat.le_of_eq rfl) (hb hby own_djdk_2316_m6_35) (fun _ _ => ⟨rfl, e0, (by decide : 0 + 1 ≤ _), (by decide : 0 + 2 ≤ _)⟩)
  dsimp only [Pt.U, Pt.locs, Pt.cells, Pt.slots] at X1 l1 y1 z1 st1 hQ1
  subst l1 y1 z1
  obtain ⟨bt, rfl, N1q, Ec⟩ := hQ1
  have N1 := Fr.app N0 N1q
  obtain ⟨fs, hr, hrun, hended, hW, hsame⟩ := X1.leave (v := some (.ref bt)) (fun h => by rw [Bd.returns] at h; cases h)
  refine ⟨_, _, pre0 _ ?_, hrun, hended, _, _, rfl, ?_, ⟨_, rfl⟩, hW, hsame.mono (by decide) (by decide)⟩
  · show Steps p.tables e below (s₁.setTop (mkF m 0 #[.val (.long (500 : Int64)), .second, .unset, .unset, .unset] [])) _
    refine XS.lloadN X0.here hx rfl (hb hby own_djdk_2316_m6_0) rfl ?_
    show Steps p.tables e below (s₁.setTop (mkF m 1 #[.val (.long (500 : Int64)), .second, .unset, .unset, .unset] [(.long (500 : Int64))])) _
    refine X0.ldc2Long hx hown (mvT hZ (hw _ (List.mem_of_getElem? (i := 26) rfl))) (g := (mkF m 1 #[.val (.long (500 : Int64)), .second, .unset, .unset, .unset] [(.long (500 : Int64))])) rfl (hb hby own_djdk_2316_m6_1) _ ?_
    show Steps p.tables e below (s₁.setTop (mkF m 4 #[.val (.long (500 : Int64)), .second, .unset, .unset, .unset] [(.long (1000 : Int64)), (.long (500 : Int64))])) _
    refine XS.ldiv X0.here hx rfl (hb hby own_djdk_2316_m6_4) rfl (by decide) ?_
    show Steps p.tables e below (s₁.setTop (mkF m 5 #[.val (.long (500 : Int64)), .second, .unset, .unset, .unset] [(.long ((500 : Int64) / (1000 : Int64)))])) _
    rw [show (500 : Int64) / (1000 : Int64) = (0 : Int64) from by decide]
    show Steps p.tables e below (s₁.setTop (mkF m 5 #[.val (.long (500 : Int64)), .second, .unset, .unset, .unset] [(.long (0 : Int64))])) _
    refine XS.lstoreN X0.here hx rfl (hb hby own_djdk_2316_m6_5) rfl (l' := #[.val (.long (500 : Int64)), .second, .val (.long (0 : Int64)), .second, .unset]) rfl ?_
    show Steps p.tables e below (s₁.setTop (mkF m 6 #[.val (.long (500 : Int64)), .second, .val (.long (0 : Int64)), .second, .unset] [])) _
    refine XS.lloadN X0.here hx rfl (hb hby own_djdk_2316_m6_6) rfl ?_
    show Steps p.tables e below (s₁.setTop (mkF m 7 #[.val (.long (500 : Int64)), .second, .val (.long (0 : Int64)), .second, .unset] [(.long (500 : Int64))])) _
    refine X0.ldc2Long hx hown (mvT hZ (hw _ (List.mem_of_getElem? (i := 26) rfl))) (g := (mkF m 7 #[.val (.long (500 : Int64)), .second, .val (.long (0 : Int64)), .second, .unset] [(.long (500 : Int64))])) rfl (hb hby own_djdk_2316_m6_7) _ ?_
    show Steps p.tables e below (s₁.setTop (mkF m 10 #[.val (.long (500 : Int64)), .second, .val (.long (0 : Int64)), .second, .unset] [(.long (1000 : Int64)), (.long (500 : Int64))])) _
    refine XS.lrem X0.here hx rfl (hb hby own_djdk_2316_m6_10) rfl (by decide) ?_
    show Steps p.tables e below (s₁.setTop (mkF m 11 #[.val (.long (500 : Int64)), .second, .val (.long (0 : Int64)), .second, .unset] [(.long ((500 : Int64) - ((500 : Int64) / (1000 : Int64)) * (1000 : Int64)))])) _
    refine XS.l2i X0.here hx rfl (hb hby own_djdk_2316_m6_11) rfl ?_
    show Steps p.tables e below (s₁.setTop (mkF m 12 #[.val (.long (500 : Int64)), .second, .val (.long (0 : Int64)), .second, .unset] [(.int (((500 : Int64) - ((500 : Int64) / (1000 : Int64)) * (1000 : Int64)).toInt32))])) _
    rw [show (((500 : Int64) - ((500 : Int64) / (1000 : Int64)) * (1000 : Int64)).toInt32) = (500 : Int32) from by decide]
    show Steps p.tables e below (s₁.setTop (mkF m 12 #[.val (.long (500 : Int64)), .second, .val (.long (0 : Int64)), .second, .unset] [(.int (500 : Int32))])) _
    refine XS.istore X0.here hx rfl (hb hby own_djdk_2316_m6_12) rfl (l' := #[.val (.long (500 : Int64)), .second, .val (.long (0 : Int64)), .second, .val (.int (500 : Int32))]) rfl ?_
    show Steps p.tables e below (s₁.setTop (mkF m 14 #[.val (.long (500 : Int64)), .second, .val (.long (0 : Int64)), .second, .val (.int (500 : Int32))] [])) _
    refine XS.iload X0.here hx rfl (hb hby own_djdk_2316_m6_14) rfl ?_
    show Steps p.tables e below (s₁.setTop (mkF m 16 #[.val (.long (500 : Int64)), .second, .val (.long (0 : Int64)), .second, .val (.int (500 : Int32))] [(.int (500 : Int32))])) _
    refine XS.ifYes X0.here hx rfl (pc0 := 16) (pc' := 29) rfl (hb hby own_djdk_2316_m6_16) rfl (by decide) (by decide) (by decide) ?_
    show Steps p.tables e below (s₁.setTop (mkF m 29 #[.val (.long (500 : Int64)), .second, .val (.long (0 : Int64)), .second, .val (.int (500 : Int32))] [])) _
    refine XS.lloadN X0.here hx rfl (hb hby own_djdk_2316_m6_29) rfl ?_
    show Steps p.tables e below (s₁.setTop (mkF m 30 #[.val (.long (500 : Int64)), .second, .val (.long (0 : Int64)), .second, .val (.int (500 : Int32))] [(.long (0 : Int64))])) _
    refine XS.iload X0.here hx rfl (hb hby own_djdk_2316_m6_30) rfl ?_
    show Steps p.tables e below (s₁.setTop (mkF m 32 #[.val (.long (500 : Int64)), .second, .val (.long (0 : Int64)), .second, .val (.int (500 : Int32))] [(.int (500 : Int32)), (.long (0 : Int64))])) _
    refine X0.ldcInt hx hown (mvT hZ (hw _ (List.mem_of_getElem? (i := 27) rfl))) (g := (mkF m 32 #[.val (.long (500 : Int64)), .second, .val (.long (0 : Int64)), .second, .val (.int (500 : Int32))] [(.int (500 : Int32)), (.long (0 : Int64))])) rfl (hb hby own_djdk_2316_m6_32) _ ?_
    show Steps p.tables e below (s₁.setTop (mkF m 34 #[.val (.long (500 : Int64)), .second, .val (.long (0 : Int64)), .second, .val (.int (500 : Int32))] [(.int (1000000 : Int32)), (.int (500 : Int32)), (.long (0 : Int64))])) _
    refine XS.imul X0.here hx rfl (hb hby own_djdk_2316_m6_34) rfl ?_
    show Steps p.tables e below (s₁.setTop (mkF m 35 #[.val (.long (500 : Int64)), .second, .val (.long (0 : Int64)), .second, .val (.int (500 : Int32))] [(.int ((500 : Int32) * (1000000 : Int32))), (.long (0 : Int64))])) _
    rw [show ((500 : Int32) * (1000000 : Int32)) = (500000000 : Int32) from by decide]
    show Steps p.tables e below (s₁.setTop (mkF m 35 #[.val (.long (500 : Int64)), .second, .val (.long (0 : Int64)), .second, .val (.int (500 : Int32))] [(.int (500000000 : Int32)), (.long (0 : Int64))])) _
    refine st1 _ ?_
    show Steps p.tables e below (T1.setTop (mkF m 38 #[.val (.long (500 : Int64)), .second, .val (.long (0 : Int64)), .second, .val (.int (500 : Int32))] [(.ref bt)])) _
    exact retOut X1 hx Bd.returns rfl (Or.inr (Or.inr (Or.inr (Or.inr ⟨rfl, rfl, rfl⟩)))) (hb hby own_djdk_2316_m6_38) hr
  · show own_QE h0 n0 _ T1.heap _
    exact ⟨bt, rfl, N1, Ec⟩
set_option maxRecDepth 65536 in
set_option maxHeartbeats 40000000 in
theorem own_ecinit (l : Launch) (Z : State) (a0 : Array Value) (hw : ∀ d ∈ tables_1, d.before a0 Z = true) (ws : List Jvm.Cond) (o1 a_SYNC : Addr) (h0 : Heap) (n0 : Nat) (Z0 : n0 ≤ h0.size) (O0 : Old Z n0 h0) (S_SYNC : Sta Z Z.heap "com/example/persimmon/persimmon/engine/Durability" "SYNC" "Lcom/example/persimmon/persimmon/engine/Durability;" (.ref a_SYNC)) (F_d : Fld Z h0 o1 "com/example/persimmon/persimmon/engine/EnvironmentConfig" "durability" "Lcom/example/persimmon/persimmon/engine/Durability;" .null) (F_l : Fld Z h0 o1 "com/example/persimmon/persimmon/engine/EnvironmentConfig" "lockTimeout" "Ljava/time/Duration;" .null) (F_a : Fld Z h0 o1 "com/example/persimmon/persimmon/engine/EnvironmentConfig" "allowCreate" "Z" (.int (0 : Int32))) (E_o1 : Exa Z h0 o1 "com/example/persimmon/persimmon/engine/EnvironmentConfig") (g_o1 : n0 ≤ o1) :
    MetFree l (⟨"com/example/persimmon/persimmon/engine/EnvironmentConfig", "<init>", "()V"⟩ : MethodName) (head1 (Jvm.Cond.code (⟨"com/example/persimmon/persimmon/engine/EnvironmentConfig", "<init>", "()V"⟩ : MethodName) prog_82_method_1_code 1 none :: ws) ({ frames := 4, cells := 1, slots := 2, locals := 59 } : Room)) (fun a U => a = #[(.ref o1)] ∧ Z.Warmed39 U.vm ∧ U.heap = h0) (fun _ _ _ _ _ => True) (fun _ U o U' => ∃ v L, o = .returned v ∧ own_QI Z o1 a_SYNC h0 n0 v U'.heap L ∧ FrameEnd U o U' L ({ frames := 4, cells := 1, slots := 2, locals := 59 } : Room).cells ({ frames := 4, cells := 1, slots := 2, locals := 59 } : Room).slots) := by
  refine MetFree.of_bodySF (plainFor_of_name own_pn2) hisR ?_
  intro p e s m args below meth c s₁ Bd hml0 hP hK
  obtain ⟨rfl, hZ, hh⟩ := hP
  have hx := Bd.exec
  have hby := Bd.bytes
  have hml : c.maxLocals = 1 := hml0
  have hown : s.vm.findClass "com/example/persimmon/persimmon/engine/EnvironmentConfig" = some m.cls := findClass_of_methodNamed Bd.named
  have hnm := (name_of_methodNamed Bd.named Bd.method).1
  have X0 : Stand p l e ({ frames := 4, cells := 1, slots := 2, locals := 59 } : Room) s m #[(.ref o1)] below meth c s₁ [] 0 0 := Stand.of_body Bd
  have e0 : s₁.heap = h0 := by rw [← hh, Bd.state]; rfl
  have N0 := Fr.nil n0
  have pre0 : ∀ t, Steps p.tables e below (s₁.setTop (mkF m 0 #[.val (.ref o1)] [])) t → Steps p.tables e below (s₁.setTop (entryFrame m #[(.ref o1)] 1)) t := fun t k => castTop (own_ef_prog_82_m1 m o1) k
  obtain ⟨T1, X1, e1, st1⟩ := initO X0 hx hZ hown (hw _ (List.mem_of_getElem? (i := 15) rfl)) (hw _ (List.mem_of_getElem? (i := 16) rfl)) (hw _ (List.mem_of_getElem? (i := 17) rfl)) e0 (g := (mkF m 1 #[.val (.ref o1)] [(.ref o1)])) rfl (by rw [hml]; rfl) rfl (hb hby own_dprog_82_m1_1) (by decide) (W := 0) (by show 2 * 0 + _ ≤ _; exact Nat.le_of_eq rfl) (by decide)
  obtain ⟨T2, X2, e2, st2⟩ := getS2 X1 hx hZ hown (host := "") (Or.inl (hw _ (List.mem_of_getElem? (i := 18) rfl))) Via.refl e1 (S_SYNC.ext O0.2) (g := (mkF m 5 #[.val (.ref o1)] [(.ref o1)])) rfl (hb hby own_dprog_82_m1_5)
  obtain ⟨T3, h3, X3, e3, W3, st3⟩ := putF X2 hx hZ hown (host := "") (Or.inl (hw _ (List.mem_of_getElem? (i := 19) rfl))) Via.refl e2 F_d E_o1 (Or.inl (hw _ (List.mem_of_getElem? (i := 20) rfl))) (hw _ (List.mem_of_getElem? (i := 10) rfl)) (ty := (.object "com/example/persimmon/persimmon/engine/Durability")) (by decide) rfl rfl (g := (mkF m 8 #[.val (.ref o1)] [(.ref a_SYNC), (.ref o1)])) rfl rfl (hb hby own_dprog_82_m1_8)
  have N3 := Fr.snoc X3 N0 g_o1
  have Fd1 := F_d.same W3
  have Fl1 := F_l.other W3 (Or.inr (slot_ne (Or.inl (hw _ (List.mem_of_getElem? (i := 43) rfl))) (Or.inl (hw _ (List.mem_of_getElem? (i := 20) rfl))) (by decide) (t := (.object "java/time/Duration")) (t' := (.object "com/example/persimmon/persimmon/engine/Durability")) (by decide) (by decide)))
  have Fa1 := F_a.other W3 (Or.inr (slot_ne (Or.inl (hw _ (List.mem_of_getElem? (i := 50) rfl))) (Or.inl (hw _ (List.mem_of_getElem? (i := 20) rfl))) (by decide) (t := .boolean) (t' := (.object "com/example/persimmon/persimmon/engine/Durability")) (by decide) (by decide)))
  have Ex1 := E_o1.wr W3
  have Kp1 : Keep h0 h3 [o1] := (Keep.refl h0 [o1]).wr W3 (Or.inl (List.mem_of_getElem? (i := 0) rfl))
  have Zp1 : n0 ≤ h3.size := Nat.le_trans Z0 Kp1.1
  obtain ⟨_, _, ⟨T4, L4, k4, n4⟩, -, X4, ⟨Lc4, hQ4, l4, y4, z4⟩, st4⟩ := Jvm.LawKit.callS X3 hx (y := (⟨"java/time/Duration", "ofMillis", "(J)Ljava/time/Duration;"⟩ : MethodName)) hown (mvT hZ (hw _ (List.mem_of_getElem? (i := 22) rfl))) (mvT hZ (hw _ (List.mem_of_getElem? (i := 23) rfl))) (mvT hZ (hw _ (List.mem_of_getElem? (i := 24) rfl))) (mvT hZ (hw _ (List.mem_of_getElem? (i := 25) rfl))) (by decide) (backOf (W := 1) (own_ofm l Z a0 hw [] h3 n0 Zp1) hZ (hw _ (List.mem_of_getElem? (i := 25) rfl)) (hw _ (List.mem_of_getElem? (i := 24) rfl)) (by decide) (by decide)) (g := (mkF m 15 #[.val (.ref o1)] [(.long (500 : Int64)), (.ref o1)])) rfl (by rw [hml]; rfl) (argsL := [(.long (500 : Int64))]) (rest := [(.ref o1)]) (lenOf own_pd2 rfl) rfl (by show 2 * 0 + _ ≤ _; exact Nat.le_of_eq rfl) (hb hby own_dprog_82_m1_15) (fun _ _ => ⟨rfl, e3, (by decide : 0 + 1 ≤ _), (by decide : 0 + 2 ≤ _)⟩)
  dsimp only [Pt.U, Pt.locs, Pt.cells, Pt.slots] at X4 l4 y4 z4 st4 hQ4
  subst l4 y4 z4
  obtain ⟨bt, rfl, N4q, Eo⟩ := hQ4
  have N4 := Fr.app N3 N4q
  have Fd2 := Fd1.ext Eo
  have Fl2 := Fl1.ext Eo
  have Fa2 := Fa1.ext Eo
  have Ex2 := Ex1.ext Eo
  have Kp2 := Kp1.ext Eo
  obtain ⟨T5, h5, X5, e5, W5, st5⟩ := putF X4 hx hZ hown (host := "") (Or.inl (hw _ (List.mem_of_getElem? (i := 42) rfl))) Via.refl rfl Fl2 Ex2 (Or.inl (hw _ (List.mem_of_getElem? (i := 43) rfl))) (hw _ (List.mem_of_getElem? (i := 10) rfl)) (ty := (.object "java/time/Duration")) (by decide) rfl rfl (g := (mkF m 18 #[.val (.ref o1)] [(.ref bt), (.ref o1)])) rfl rfl (hb hby own_dprog_82_m1_18)
  have N5 := Fr.snoc X5 N4 g_o1
  have Fd3 := Fd2.other W5 (Or.inr (slot_ne (Or.inl (hw _ (List.mem_of_getElem? (i := 20) rfl))) (Or.inl (hw _ (List.mem_of_getElem? (i := 43) rfl))) (by decide) (t := (.object "com/example/persimmon/persimmon/engine/Durability")) (t' := (.object "java/time/Duration")) (by decide) (by decide)))
  have Fl3 := Fl2.same W5
  have Fa3 := Fa2.other W5 (Or.inr (slot_ne (Or.inl (hw _ (List.mem_of_getElem? (i := 50) rfl))) (Or.inl (hw _ (List.mem_of_getElem? (i := 43) rfl))) (by decide) (t := .boolean) (t' := (.object "java/time/Duration")) (by decide) (by decide)))
  have Ex3 := Ex2.wr W5
  have Kp3 := Kp2.wr W5 (Or.inl (List.mem_of_getElem? (i := 0) rfl))
  obtain ⟨fs, hr, hrun, hended, hW, hsame⟩ := X5.leave (v := none) (fun _ => rfl)
  refine ⟨_, _, pre0 _ ?_, hrun, hended, _, _, rfl, ?_, ⟨_, rfl⟩, hW, hsame.mono (by decide) (by decide)⟩
  · show Steps p.tables e below (s₁.setTop (mkF m 0 #[.val (.ref o1)] [])) _
    refine XS.aloadN X0.here hx rfl (hb hby own_dprog_82_m1_0) rfl rfl ?_
    show Steps p.tables e below (s₁.setTop (mkF m 1 #[.val (.ref o1)] [(.ref o1)])) _
    refine st1 _ ?_
    show Steps p.tables e below (T1.setTop (mkF m 4 #[.val (.ref o1)] [])) _
    refine XS.aloadN X1.here hx rfl (hb hby own_dprog_82_m1_4) rfl rfl ?_
    show Steps p.tables e below (T1.setTop (mkF m 5 #[.val (.ref o1)] [(.ref o1)])) _
    refine st2 _ ?_
    show Steps p.tables e below (T2.setTop (mkF m 8 #[.val (.ref o1)] [(.ref a_SYNC), (.ref o1)])) _
    refine st3 _ ?_
    show Steps p.tables e below (T3.setTop (mkF m 11 #[.val (.ref o1)] [])) _
    refine XS.aloadN X3.here hx rfl (hb hby own_dprog_82_m1_11) rfl rfl ?_
    show Steps p.tables e below (T3.setTop (mkF m 12 #[.val (.ref o1)] [(.ref o1)])) _
    refine X3.ldc2Long hx hown (mvT hZ (hw _ (List.mem_of_getElem? (i := 21) rfl))) (g := (mkF m 12 #[.val (.ref o1)] [(.ref o1)])) rfl (hb hby own_dprog_82_m1_12) _ ?_
    show Steps p.tables e below (T3.setTop (mkF m 15 #[.val (.ref o1)] [(.long (500 : Int64)), (.ref o1)])) _
    refine st4 _ ?_
    show Steps p.tables e below (T4.setTop (mkF m 18 #[.val (.ref o1)] [(.ref bt), (.ref o1)])) _
    refine st5 _ ?_
    show Steps p.tables e below (T5.setTop (mkF m 21 #[.val (.ref o1)] [])) _
    exact X5.returnOut hx Bd.returns (hb hby own_dprog_82_m1_21) hr
  · show own_QI Z o1 a_SYNC h0 n0 _ T5.heap _
    rw [e5]
    exact ⟨rfl, N5, Kp3, Ex3, Fd3, ⟨bt, Fl3⟩, Fa3⟩
set_option maxRecDepth 65536 in
set_option maxHeartbeats 40000000 in
theorem own_setA0 (l : Launch) (Z : State) (a0 : Array Value) (hw : ∀ d ∈ tables_1, d.before a0 Z = true) (ws : List Jvm.Cond) (o1 d1 t1 : Addr) (h0 : Heap) (n0 : Nat) (Z0 : n0 ≤ h0.size) (F_d : Fld Z h0 o1 "com/example/persimmon/persimmon/engine/EnvironmentConfig" "durability" "Lcom/example/persimmon/persimmon/engine/Durability;" (.ref d1)) (F_l : Fld Z h0 o1 "com/example/persimmon/persimmon/engine/EnvironmentConfig" "lockTimeout" "Ljava/time/Duration;" (.ref t1)) (F_a : Fld Z h0 o1 "com/example/persimmon/persimmon/engine/EnvironmentConfig" "allowCreate" "Z" (.int (0 : Int32))) (E_o1 : Exa Z h0 o1 "com/example/persimmon/persimmon/engine/EnvironmentConfig") (g_o1 : n0 ≤ o1) :
    MetFree l (⟨"com/example/persimmon/persimmon/engine/EnvironmentConfig", "setAllowCreate", "(Z)Lcom/example/persimmon/persimmon/engine/EnvironmentConfig;"⟩ : MethodName) (head1 (Jvm.Cond.code (⟨"com/example/persimmon/persimmon/engine/EnvironmentConfig", "setAllowCreate", "(Z)Lcom/example/persimmon/persimmon/engine/EnvironmentConfig;"⟩ : MethodName) prog_82_method_2_code 2 (some (.object "com/example/persimmon/persimmon/engine/EnvironmentConfig")) :: ws) ({ frames := 0, cells := 0, slots := 0, locals := 0 } : Room)) (fun a U => a = #[(.ref o1), (.int (0 : Int32))] ∧ Z.Warmed39 U.vm ∧ U.heap = h0) (fun _ _ _ _ _ => True) (fun _ U o U' => ∃ v L, o = .returned v ∧ own_QS Z o1 d1 t1 (0 : Int32) h0 n0 v U'.heap L ∧ FrameEnd U o U' L ({ frames := 0, cells := 0, slots := 0, locals := 0 } : Room).cells ({ frames := 0, cells := 0, slots := 0, locals := 0 } : Room).slots) := by
  refine MetFree.of_bodySF (plainFor_of_name own_pn2) hisR ?_
  intro p e s m args below meth c s₁ Bd hml0 hP hK
  obtain ⟨rfl, hZ, hh⟩ := hP
  have hx := Bd.exec
  have hby := Bd.bytes
  have hml : c.maxLocals = 2 := hml0
  have hown : s.vm.findClass "com/example/persimmon/persimmon/engine/EnvironmentConfig" = some m.cls := findClass_of_methodNamed Bd.named
  have hnm := (name_of_methodNamed Bd.named Bd.method).1
  have X0 : Stand p l e ({ frames := 0, cells := 0, slots := 0, locals := 0 } : Room) s m #[(.ref o1), (.int (0 : Int32))] below meth c s₁ [] 0 0 := Stand.of_body Bd
  have e0 : s₁.heap = h0 := by rw [← hh, Bd.state]; rfl
  have N0 := Fr.nil n0
  have pre0 : ∀ t, Steps p.tables e below (s₁.setTop (mkF m 0 #[.val (.ref o1), .val (.int (0 : Int32))] [])) t → Steps p.tables e below (s₁.setTop (entryFrame m #[(.ref o1), (.int (0 : Int32))] 2)) t := fun t k => castTop (own_ef_prog_82_m2 m o1 (0 : Int32)) k
  obtain ⟨T1, h1, X1, e1, W1, st1⟩ := putFN X0 hx hZ hown (hw _ (List.mem_of_getElem? (i := 49) rfl)) Via.refl e0 F_a E_o1 (Or.inl (hw _ (List.mem_of_getElem? (i := 50) rfl))) (hw _ (List.mem_of_getElem? (i := 10) rfl)) (ty := .boolean) (v' := (.int (0 : Int32))) (by decide) rfl rfl (g := (mkF m 2 #[.val (.ref o1), .val (.int (0 : Int32))] [(.int (0 : Int32)), (.ref o1)])) rfl rfl (hb hby own_dprog_82_m2_2)
  have N1 := Fr.snoc X1 N0 g_o1
  have Fd1 := F_d.other W1 (Or.inr (slot_ne (Or.inl (hw _ (List.mem_of_getElem? (i := 20) rfl))) (Or.inl (hw _ (List.mem_of_getElem? (i := 50) rfl))) (by decide) (t := (.object "com/example/persimmon/persimmon/engine/Durability")) (t' := .boolean) (by decide) (by decide)))
  have Fl1 := F_l.other W1 (Or.inr (slot_ne (Or.inl (hw _ (List.mem_of_getElem? (i := 43) rfl))) (Or.inl (hw _ (List.mem_of_getElem? (i := 50) rfl))) (by decide) (t := (.object "java/time/Duration")) (t' := .boolean) (by decide) (by decide)))
  have Fa1 := F_a.same W1
  have Ex1 := E_o1.wr W1
  have Kp1 : Keep h0 h1 [o1] := (Keep.refl h0 [o1]).wr W1 (Or.inl (List.mem_of_getElem? (i := 0) rfl))
  obtain ⟨fs, hr, hrun, hended, hW, hsame⟩ := X1.leave (v := some (.ref o1)) (fun h => by rw [Bd.returns] at h; cases h)
  refine ⟨_, _, pre0 _ ?_, hrun, hended, _, _, rfl, ?_, ⟨_, rfl⟩, hW, hsame.mono (by decide) (by decide)⟩
  · show Steps p.tables e below (s₁.setTop (mkF m 0 #[.val (.ref o1), .val (.int (0 : Int32))] [])) _
    refine XS.aloadN X0.here hx rfl (hb hby own_dprog_82_m2_0) rfl rfl ?_
    show Steps p.tables e below (s₁.setTop (mkF m 1 #[.val (.ref o1), .val (.int (0 : Int32))] [(.ref o1)])) _
    refine XS.iloadN X0.here hx rfl (hb hby own_dprog_82_m2_1) rfl ?_
    show Steps p.tables e below (s₁.setTop (mkF m 2 #[.val (.ref o1), .val (.int (0 : Int32))] [(.int (0 : Int32)), (.ref o1)])) _
    refine st1 _ ?_
    show Steps p.tables e below (T1.setTop (mkF m 5 #[.val (.ref o1), .val (.int (0 : Int32))] [])) _
    refine XS.aloadN X1.here hx rfl (hb hby own_dprog_82_m2_5) rfl rfl ?_
    show Steps p.tables e below (T1.setTop (mkF m 6 #[.val (.ref o1), .val (.int (0 : Int32))] [(.ref o1)])) _
    exact retOut X1 hx Bd.returns rfl (Or.inr (Or.inr (Or.inr (Or.inr ⟨rfl, rfl, rfl⟩)))) (hb hby own_dprog_82_m2_6) hr
  · show own_QS Z o1 d1 t1 (0 : Int32) h0 n0 _ T1.heap _
    rw [e1]
    exact ⟨rfl, N1, Kp1, Ex1, Fd1, Fl1, Fa1⟩
set_option maxRecDepth 65536 in
set_option maxHeartbeats 40000000 in
theorem own_getA0 (l : Launch) (Z : State) (a0 : Array Value) (hw : ∀ d ∈ tables_1, d.before a0 Z = true) (ws : List Jvm.Cond) (o1 : Addr) (h0 : Heap) (n0 : Nat) (Z0 : n0 ≤ h0.size) (F_a : Fld Z h0 o1 "com/example/persimmon/persimmon/engine/EnvironmentConfig" "allowCreate" "Z" (.int (0 : Int32))) :
    MetFree l (⟨"com/example/persimmon/persimmon/engine/EnvironmentConfig", "getAllowCreate", "()Z"⟩ : MethodName) (head1 (Jvm.Cond.code (⟨"com/example/persimmon/persimmon/engine/EnvironmentConfig", "getAllowCreate", "()Z"⟩ : MethodName) prog_82_method_3_code 1 (some .boolean) :: ws) ({ frames := 0, cells := 0, slots := 0, locals := 0 } : Room)) (fun a U => a = #[(.ref o1)] ∧ Z.Warmed39 U.vm ∧ U.heap = h0) (fun _ _ _ _ _ => True) (fun _ U o U' => ∃ v L, o = .returned v ∧ own_Q (.int (0 : Int32)) h0 n0 v U'.heap L ∧ FrameEnd U o U' L ({ frames := 0, cells := 0, slots := 0, locals := 0 } : Room).cells ({ frames := 0, cells := 0, slots := 0, locals := 0 } : Room).slots) := by
  refine MetFree.of_bodySF (plainFor_of_name own_pn2) hisR ?_
  intro p e s m args below meth c s₁ Bd hml0 hP hK
  obtain ⟨rfl, hZ, hh⟩ := hP
  have hx := Bd.exec
  have hby := Bd.bytes
  have hml : c.maxLocals = 1 := hml0
  have hown : s.vm.findClass "com/example/persimmon/persimmon/engine/EnvironmentConfig" = some m.cls := findClass_of_methodNamed Bd.named
  have hnm := (name_of_methodNamed Bd.named Bd.method).1
  have X0 : Stand p l e ({ frames := 0, cells := 0, slots := 0, locals := 0 } : Room) s m #[(.ref o1)] below meth c s₁ [] 0 0 := Stand.of_body Bd
  have e0 : s₁.heap = h0 := by rw [← hh, Bd.state]; rfl
  have N0 := Fr.nil n0
  have pre0 : ∀ t, Steps p.tables e below (s₁.setTop (mkF m 0 #[.val (.ref o1)] [])) t → Steps p.tables e below (s₁.setTop (entryFrame m #[(.ref o1)] 1)) t := fun t k => castTop (own_ef_prog_82_m3 m o1) k
  obtain ⟨T1, X1, e1, st1⟩ := getF X0 hx hZ hown (host := "") (Or.inl (hw _ (List.mem_of_getElem? (i := 49) rfl))) Via.refl e0 F_a (g := (mkF m 1 #[.val (.ref o1)] [(.ref o1)])) rfl rfl (hb hby own_dprog_82_m3_1)
  obtain ⟨fs, hr, hrun, hended, hW, hsame⟩ := X1.leave (v := some (.int (0 : Int32))) (fun h => by rw [Bd.returns] at h; cases h)
  refine ⟨_, _, pre0 _ ?_, hrun, hended, _, _, rfl, ?_, ⟨_, rfl⟩, hW, hsame.mono (by decide) (by decide)⟩
  · show Steps p.tables e below (s₁.setTop (mkF m 0 #[.val (.ref o1)] [])) _
    refine XS.aloadN X0.here hx rfl (hb hby own_dprog_82_m3_0) rfl rfl ?_
    show Steps p.tables e below (s₁.setTop (mkF m 1 #[.val (.ref o1)] [(.ref o1)])) _
    refine st1 _ ?_
    show Steps p.tables e below (T1.setTop (mkF m 4 #[.val (.ref o1)] [(.int (0 : Int32))])) _
    exact retN X1 hx (t := .boolean) Bd.returns (by simp) (hb hby own_dprog_82_m3_4) hr
  · show own_Q (.int (0 : Int32)) h0 n0 _ T1.heap _
    rw [e1]
    exact ⟨rfl, N0, rfl⟩
set_option maxRecDepth 65536 in
set_option maxHeartbeats 40000000 in
theorem own_setA1 (l : Launch) (Z : State) (a0 : Array Value) (hw : ∀ d ∈ tables_1, d.before a0 Z = true) (ws : List Jvm.Cond) (o1 d1 t1 : Addr) (h0 : Heap) (n0 : Nat) (Z0 : n0 ≤ h0.size) (F_d : Fld Z h0 o1 "com/example/persimmon/persimmon/engine/EnvironmentConfig" "durability" "Lcom/example/persimmon/persimmon/engine/Durability;" (.ref d1)) (F_l : Fld Z h0 o1 "com/example/persimmon/persimmon/engine/EnvironmentConfig" "lockTimeout" "Ljava/time/Duration;" (.ref t1)) (F_a : Fld Z h0 o1 "com/example/persimmon/persimmon/engine/EnvironmentConfig" "allowCreate" "Z" (.int (0 : Int32))) (E_o1 : Exa Z h0 o1 "com/example/persimmon/persimmon/engine/EnvironmentConfig") (g_o1 : n0 ≤ o1) :
    MetFree l (⟨"com/example/persimmon/persimmon/engine/EnvironmentConfig", "setAllowCreate", "(Z)Lcom/example/persimmon/persimmon/engine/EnvironmentConfig;"⟩ : MethodName) (head1 (Jvm.Cond.code (⟨"com/example/persimmon/persimmon/engine/EnvironmentConfig", "setAllowCreate", "(Z)Lcom/example/persimmon/persimmon/engine/EnvironmentConfig;"⟩ : MethodName) prog_82_method_2_code 2 (some (.object "com/example/persimmon/persimmon/engine/EnvironmentConfig")) :: ws) ({ frames := 0, cells := 0, slots := 0, locals := 0 } : Room)) (fun a U => a = #[(.ref o1), (.int (1 : Int32))] ∧ Z.Warmed39 U.vm ∧ U.heap = h0) (fun _ _ _ _ _ => True) (fun _ U o U' => ∃ v L, o = .returned v ∧ own_QS Z o1 d1 t1 (1 : Int32) h0 n0 v U'.heap L ∧ FrameEnd U o U' L ({ frames := 0, cells := 0, slots := 0, locals := 0 } : Room).cells ({ frames := 0, cells := 0, slots := 0, locals := 0 } : Room).slots) := by
  refine MetFree.of_bodySF (plainFor_of_name own_pn2) hisR ?_
  intro p e s m args below meth c s₁ Bd hml0 hP hK
  obtain ⟨rfl, hZ, hh⟩ := hP
  have hx := Bd.exec
  have hby := Bd.bytes
  have hml : c.maxLocals = 2 := hml0
  have hown : s.vm.findClass "com/example/persimmon/persimmon/engine/EnvironmentConfig" = some m.cls := findClass_of_methodNamed Bd.named
  have hnm := (name_of_methodNamed Bd.named Bd.method).1
  have X0 : Stand p l e ({ frames := 0, cells := 0, slots := 0, locals := 0 } : Room) s m #[(.ref o1), (.int (1 : Int32))] below meth c s₁ [] 0 0 := Stand.of_body Bd
  have e0 : s₁.heap = h0 := by rw [← hh, Bd.state]; rfl
  have N0 := Fr.nil n0
  have pre0 : ∀ t, Steps p.tables e below (s₁.setTop (mkF m 0 #[.val (.ref o1), .val (.int (1 : Int32))] [])) t → Steps p.tables e below (s₁.setTop (entryFrame m #[(.ref o1), (.int (1 : Int32))] 2)) t := fun t k => castTop (own_ef_prog_82_m2 m o1 (1 : Int32)) k
  obtain ⟨T1, h1, X1, e1, W1, st1⟩ := putFN X0 hx hZ hown (hw _ (List.mem_of_getElem? (i := 49) rfl)) Via.refl e0 F_a E_o1 (Or.inl (hw _ (List.mem_of_getElem? (i := 50) rfl))) (hw _ (List.mem_of_getElem? (i := 10) rfl)) (ty := .boolean) (v' := (.int (1 : Int32))) (by decide) rfl rfl (g := (mkF m 2 #[.val (.ref o1), .val (.int (1 : Int32))] [(.int (1 : Int32)), (.ref o1)])) rfl rfl (hb hby own_dprog_82_m2_2)
  have N1 := Fr.snoc X1 N0 g_o1
  have Fd1 := F_d.other W1 (Or.inr (slot_ne (Or.inl (hw _ (List.mem_of_getElem? (i := 20) rfl))) (Or.inl (hw _ (List.mem_of_getElem? (i := 50) rfl))) (by decide) (t := (.object "com/example/persimmon/persimmon/engine/Durability")) (t' := .boolean) (by decide) (by decide)))
  have Fl1 := F_l.other W1 (Or.inr (slot_ne (Or.inl (hw _ (List.mem_of_getElem? (i := 43) rfl))) (Or.inl (hw _ (List.mem_of_getElem? (i := 50) rfl))) (by decide) (t := (.object "java/time/Duration")) (t' := .boolean) (by decide) (by decide)))
  have Fa1 := F_a.same W1
  have Ex1 := E_o1.wr W1
  have Kp1 : Keep h0 h1 [o1] := (Keep.refl h0 [o1]).wr W1 (Or.inl (List.mem_of_getElem? (i := 0) rfl))
  obtain ⟨fs, hr, hrun, hended, hW, hsame⟩ := X1.leave (v := some (.ref o1)) (fun h => by rw [Bd.returns] at h; cases h)
  refine ⟨_, _, pre0 _ ?_, hrun, hended, _, _, rfl, ?_, ⟨_, rfl⟩, hW, hsame.mono (by decide) (by decide)⟩
  · show Steps p.tables e below (s₁.setTop (mkF m 0 #[.val (.ref o1), .val (.int (1 : Int32))] [])) _
    refine XS.aloadN X0.here hx rfl (hb hby own_dprog_82_m2_0) rfl rfl ?_
    show Steps p.tables e below (s₁.setTop (mkF m 1 #[.val (.ref o1), .val (.int (1 : Int32))] [(.ref o1)])) _
    refine XS.iloadN X0.here hx rfl (hb hby own_dprog_82_m2_1) rfl ?_
    show Steps p.tables e below (s₁.setTop (mkF m 2 #[.val (.ref o1), .val (.int (1 : Int32))] [(.int (1 : Int32)), (.ref o1)])) _
    refine st1 _ ?_
    show Steps p.tables e below (T1.setTop (mkF m 5 #[.val (.ref o1), .val (.int (1 : Int32))] [])) _
    refine XS.aloadN X1.here hx rfl (hb hby own_dprog_82_m2_5) rfl rfl ?_
    show Steps p.tables e below (T1.setTop (mkF m 6 #[.val (.ref o1), .val (.int (1 : Int32))] [(.ref o1)])) _
    exact retOut X1 hx Bd.returns rfl (Or.inr (Or.inr (Or.inr (Or.inr ⟨rfl, rfl, rfl⟩)))) (hb hby own_dprog_82_m2_6) hr
  · show own_QS Z o1 d1 t1 (1 : Int32) h0 n0 _ T1.heap _
    rw [e1]
    exact ⟨rfl, N1, Kp1, Ex1, Fd1, Fl1, Fa1⟩
set_option maxRecDepth 65536 in
set_option maxHeartbeats 40000000 in
theorem own_getA1 (l : Launch) (Z : State) (a0 : Array Value) (hw : ∀ d ∈ tables_1, d.before a0 Z = true) (ws : List Jvm.Cond) (o1 : Addr) (h0 : Heap) (n0 : Nat) (Z0 : n0 ≤ h0.size) (F_a : Fld Z h0 o1 "com/example/persimmon/persimmon/engine/EnvironmentConfig" "allowCreate" "Z" (.int (1 : Int32))) :
    MetFree l (⟨"com/example/persimmon/persimmon/engine/EnvironmentConfig", "getAllowCreate", "()Z"⟩ : MethodName) (head1 (Jvm.Cond.code (⟨"com/example/persimmon/persimmon/engine/EnvironmentConfig", "getAllowCreate", "()Z"⟩ : MethodName) prog_82_method_3_code 1 (some .boolean) :: ws) ({ frames := 0, cells := 0, slots := 0, locals := 0 } : Room)) (fun a U => a = #[(.ref o1)] ∧ Z.Warmed39 U.vm ∧ U.heap = h0) (fun _ _ _ _ _ => True) (fun _ U o U' => ∃ v L, o = .returned v ∧ own_Q (.int (1 : Int32)) h0 n0 v U'.heap L ∧ FrameEnd U o U' L ({ frames := 0, cells := 0, slots := 0, locals := 0 } : Room).cells ({ frames := 0, cells := 0, slots := 0, locals := 0 } : Room).slots) := by
  refine MetFree.of_bodySF (plainFor_of_name own_pn2) hisR ?_
  intro p e s m args below meth c s₁ Bd hml0 hP hK
  obtain ⟨rfl, hZ, hh⟩ := hP
  have hx := Bd.exec
  have hby := Bd.bytes
  have hml : c.maxLocals = 1 := hml0
  have hown : s.vm.findClass "com/example/persimmon/persimmon/engine/EnvironmentConfig" = some m.cls := findClass_of_methodNamed Bd.named
  have hnm := (name_of_methodNamed Bd.named Bd.method).1
  have X0 : Stand p l e ({ frames := 0, cells := 0, slots := 0, locals := 0 } : Room) s m #[(.ref o1)] below meth c s₁ [] 0 0 := Stand.of_body Bd
  have e0 : s₁.heap = h0 := by rw [← hh, Bd.state]; rfl
  have N0 := Fr.nil n0
  have pre0 : ∀ t, Steps p.tables e below (s₁.setTop (mkF m 0 #[.val (.ref o1)] [])) t → Steps p.tables e below (s₁.setTop (entryFrame m #[(.ref o1)] 1)) t := fun t k => castTop (own_ef_prog_82_m3 m o1) k
  obtain ⟨T1, X1, e1, st1⟩ := getF X0 hx hZ hown (host := "") (Or.inl (hw _ (List.mem_of_getElem? (i := 49) rfl))) Via.refl e0 F_a (g := (mkF m 1 #[.val (.ref o1)] [(.ref o1)])) rfl rfl (hb hby own_dprog_82_m3_1)
  obtain ⟨fs, hr, hrun, hended, hW, hsame⟩ := X1.leave (v := some (.int (1 : Int32))) (fun h => by rw [Bd.returns] at h; cases h)
  refine ⟨_, _, pre0 _ ?_, hrun, hended, _, _, rfl, ?_, ⟨_, rfl⟩, hW, hsame.mono (by decide) (by decide)⟩
  · show Steps p.tables e below (s₁.setTop (mkF m 0 #[.val (.ref o1)] [])) _
    refine XS.aloadN X0.here hx rfl (hb hby own_dprog_82_m3_0) rfl rfl ?_
    show Steps p.tables e below (s₁.setTop (mkF m 1 #[.val (.ref o1)] [(.ref o1)])) _
    refine st1 _ ?_
    show Steps p.tables e below (T1.setTop (mkF m 4 #[.val (.ref o1)] [(.int (1 : Int32))])) _
    exact retN X1 hx (t := .boolean) Bd.returns (by simp) (hb hby own_dprog_82_m3_4) hr
  · show own_Q (.int (1 : Int32)) h0 n0 _ T1.heap _
    rw [e1]
    exact ⟨rfl, N0, rfl⟩
set_option maxRecDepth 65536 in
set_option maxHeartbeats 40000000 in
theorem own_getL (l : Launch) (Z : State) (a0 : Array Value) (hw : ∀ d ∈ tables_1, d.before a0 Z = true) (ws : List Jvm.Cond) (o1 t1 : Addr) (h0 : Heap) (n0 : Nat) (Z0 : n0 ≤ h0.size) (F_l : Fld Z h0 o1 "com/example/persimmon/persimmon/engine/EnvironmentConfig" "lockTimeout" "Ljava/time/Duration;" (.ref t1)) :
    MetFree l (⟨"com/example/persimmon/persimmon/engine/EnvironmentConfig", "getLockTimeout", "()Ljava/time/Duration;"⟩ : MethodName) (head1 (Jvm.Cond.code (⟨"com/example/persimmon/persimmon/engine/EnvironmentConfig", "getLockTimeout", "()Ljava/time/Duration;"⟩ : MethodName) prog_82_method_7_code 1 (some (.object "java/time/Duration")) :: ws) ({ frames := 0, cells := 0, slots := 0, locals := 0 } : Room)) (fun a U => a = #[(.ref o1)] ∧ Z.Warmed39 U.vm ∧ U.heap = h0) (fun _ _ _ _ _ => True) (fun _ U o U' => ∃ v L, o = .returned v ∧ own_Q (.ref t1) h0 n0 v U'.heap L ∧ FrameEnd U o U' L ({ frames := 0, cells := 0, slots := 0, locals := 0 } : Room).cells ({ frames := 0, cells := 0, slots := 0, locals := 0 } : Room).slots) := by
  refine MetFree.of_bodySF (plainFor_of_name own_pn2) hisR ?_
  intro p e s m args below meth c s₁ Bd hml0 hP hK
  obtain ⟨rfl, hZ, hh⟩ := hP
  have hx := Bd.exec
  have hby := Bd.bytes
  have hml : c.maxLocals = 1 := hml0
  have hown : s.vm.findClass "com/example/persimmon/persimmon/engine/EnvironmentConfig" = some m.cls := findClass_of_methodNamed Bd.named
  have hnm := (name_of_methodNamed Bd.named Bd.method).1
  have X0 : Stand p l e ({ frames := 0, cells := 0, slots := 0, locals := 0 } : Room) s m #[(.ref o1)] below meth c s₁ [] 0 0 := Stand.of_body Bd
  have e0 : s₁.heap = h0 := by rw [← hh, Bd.state]; rfl
  have N0 := Fr.nil n0
  have pre0 : ∀ t, Steps p.tables e below (s₁.setTop (mkF m 0 #[.val (.ref o1)] [])) t → Steps p.tables e below (s₁.setTop (entryFrame m #[(.ref o1)] 1)) t := fun t k => castTop (own_ef_prog_82_m7 m o1) k
  obtain ⟨T1, X1, e1, st1⟩ := getF X0 hx hZ hown (host := "") (Or.inl (hw _ (List.mem_of_getElem? (i := 42) rfl))) Via.refl e0 F_l (g := (mkF m 1 #[.val (.ref o1)] [(.ref o1)])) rfl rfl (hb hby own_dprog_82_m7_1)
  obtain ⟨fs, hr, hrun, hended, hW, hsame⟩ := X1.leave (v := some (.ref t1)) (fun h => by rw [Bd.returns] at h; cases h)
  refine ⟨_, _, pre0 _ ?_, hrun, hended, _, _, rfl, ?_, ⟨_, rfl⟩, hW, hsame.mono (by decide) (by decide)⟩
  · show Steps p.tables e below (s₁.setTop (mkF m 0 #[.val (.ref o1)] [])) _
    refine XS.aloadN X0.here hx rfl (hb hby own_dprog_82_m7_0) rfl rfl ?_
    show Steps p.tables e below (s₁.setTop (mkF m 1 #[.val (.ref o1)] [(.ref o1)])) _
    refine st1 _ ?_
    show Steps p.tables e below (T1.setTop (mkF m 4 #[.val (.ref o1)] [(.ref t1)])) _
    exact retOut X1 hx Bd.returns rfl (Or.inr (Or.inr (Or.inr (Or.inr ⟨rfl, rfl, rfl⟩)))) (hb hby own_dprog_82_m7_4) hr
  · show own_Q (.ref t1) h0 n0 _ T1.heap _
    rw [e1]
    exact ⟨rfl, N0, rfl⟩
set_option maxRecDepth 65536 in
set_option maxHeartbeats 40000000 in
theorem own_getD (l : Launch) (Z : State) (a0 : Array Value) (hw : ∀ d ∈ tables_1, d.before a0 Z = true) (ws : List Jvm.Cond) (o1 d1 : Addr) (h0 : Heap) (n0 : Nat) (Z0 : n0 ≤ h0.size) (F_d : Fld Z h0 o1 "com/example/persimmon/persimmon/engine/EnvironmentConfig" "durability" "Lcom/example/persimmon/persimmon/engine/Durability;" (.ref d1)) :
    MetFree l (⟨"com/example/persimmon/persimmon/engine/EnvironmentConfig", "getDurability", "()Lcom/example/persimmon/persimmon/engine/Durability;"⟩ : MethodName) (head1 (Jvm.Cond.code (⟨"com/example/persimmon/persimmon/engine/EnvironmentConfig", "getDurability", "()Lcom/example/persimmon/persimmon/engine/Durability;"⟩ : MethodName) prog_82_method_5_code 1 (some (.object "com/example/persimmon/persimmon/engine/Durability")) :: ws) ({ frames := 0, cells := 0, slots := 0, locals := 0 } : Room)) (fun a U => a = #[(.ref o1)] ∧ Z.Warmed39 U.vm ∧ U.heap = h0) (fun _ _ _ _ _ => True) (fun _ U o U' => ∃ v L, o = .returned v ∧ own_Q (.ref d1) h0 n0 v U'.heap L ∧ FrameEnd U o U' L ({ frames := 0, cells := 0, slots := 0, locals := 0 } : Room).cells ({ frames := 0, cells := 0, slots := 0, locals := 0 } : Room).slots) := by
  refine MetFree.of_bodySF (plainFor_of_name own_pn2) hisR ?_
  intro p e s m args below meth c s₁ Bd hml0 hP hK
  obtain ⟨rfl, hZ, hh⟩ := hP
  have hx := Bd.exec
  have hby := Bd.bytes
  have hml : c.maxLocals = 1 := hml0
  have hown : s.vm.findClass "com/example/persimmon/persimmon/engine/EnvironmentConfig" = some m.cls := findClass_of_methodNamed Bd.named
  have hnm := (name_of_methodNamed Bd.named Bd.method).1
  have X0 : Stand p l e ({ frames := 0, cells := 0, slots := 0, locals := 0 } : Room) s m #[(.ref o1)] below meth c s₁ [] 0 0 := Stand.of_body Bd
  have e0 : s₁.heap = h0 := by rw [← hh, Bd.state]; rfl
  have N0 := Fr.nil n0
  have pre0 : ∀ t, Steps p.tables e below (s₁.setTop (mkF m 0 #[.val (.ref o1)] [])) t → Steps p.tables e below (s₁.setTop (entryFrame m #[(.ref o1)] 1)) t := fun t k => castTop (own_ef_prog_82_m5 m o1) k
  obtain ⟨T1, X1, e1, st1⟩ := getF X0 hx hZ hown (host := "") (Or.inl (hw _ (List.mem_of_getElem? (i := 19) rfl))) Via.refl e0 F_d (g := (mkF m 1 #[.val (.ref o1)] [(.ref o1)])) rfl rfl (hb hby own_dprog_82_m5_1)
  obtain ⟨fs, hr, hrun, hended, hW, hsame⟩ := X1.leave (v := some (.ref d1)) (fun h => by rw [Bd.returns] at h; cases h)
  refine ⟨_, _, pre0 _ ?_, hrun, hended, _, _, rfl, ?_, ⟨_, rfl⟩, hW, hsame.mono (by decide) (by decide)⟩
  · show Steps p.tables e below (s₁.setTop (mkF m 0 #[.val (.ref o1)] [])) _
    refine XS.aloadN X0.here hx rfl (hb hby own_dprog_82_m5_0) rfl rfl ?_
    show Steps p.tables e below (s₁.setTop (mkF m 1 #[.val (.ref o1)] [(.ref o1)])) _
    refine st1 _ ?_
    show Steps p.tables e below (T1.setTop (mkF m 4 #[.val (.ref o1)] [(.ref d1)])) _
    exact retOut X1 hx Bd.returns rfl (Or.inr (Or.inr (Or.inr (Or.inr ⟨rfl, rfl, rfl⟩)))) (hb hby own_dprog_82_m5_4) hr
  · show own_Q (.ref d1) h0 n0 _ T1.heap _
    rw [e1]
    exact ⟨rfl, N0, rfl⟩
set_option maxRecDepth 65536 in
set_option maxHeartbeats 40000000 in
theorem own_rnn (l : Launch) (Z : State) (a0 : Array Value) (hw : ∀ d ∈ tables_1, d.before a0 Z = true) (ws : List Jvm.Cond) (r1 r2 : Addr) (h0 : Heap) (n0 : Nat) (Z0 : n0 ≤ h0.size)  :
    MetFree l (⟨"java/util/Objects", "requireNonNull", "(Ljava/lang/Object;Ljava/lang/String;)Ljava/lang/Object;"⟩ : MethodName) (head1 (Jvm.Cond.code (⟨"java/util/Objects", "requireNonNull", "(Ljava/lang/Object;Ljava/lang/String;)Ljava/lang/Object;"⟩ : MethodName) jdk_31_method_11_code 2 (some (.object "java/lang/Object")) :: ws) ({ frames := 0, cells := 0, slots := 0, locals := 0 } : Room)) (fun a U => a = #[(.ref r1), (.ref r2)] ∧ Z.Warmed39 U.vm ∧ U.heap = h0) (fun _ _ _ _ _ => True) (fun _ U o U' => ∃ v L, o = .returned v ∧ own_Q (.ref r1) h0 n0 v U'.heap L ∧ FrameEnd U o U' L ({ frames := 0, cells := 0, slots := 0, locals := 0 } : Room).cells ({ frames := 0, cells := 0, slots := 0, locals := 0 } : Room).slots) := by
  refine MetFree.of_bodySF (plainFor_of_name own_pn3) hisR ?_
  intro p e s m args below meth c s₁ Bd hml0 hP hK
  obtain ⟨rfl, hZ, hh⟩ := hP
  have hx := Bd.exec
  have hby := Bd.bytes
  have hml : c.maxLocals = 2 := hml0
  have hown : s.vm.findClass "java/util/Objects" = some m.cls := findClass_of_methodNamed Bd.named
  have hnm := (name_of_methodNamed Bd.named Bd.method).1
  have X0 : Stand p l e ({ frames := 0, cells := 0, slots := 0, locals := 0 } : Room) s m #[(.ref r1), (.ref r2)] below meth c s₁ [] 0 0 := Stand.of_body Bd
  have e0 : s₁.heap = h0 := by rw [← hh, Bd.state]; rfl
  have N0 := Fr.nil n0
  have pre0 : ∀ t, Steps p.tables e below (s₁.setTop (mkF m 0 #[.val (.ref r1), .val (.ref r2)] [])) t → Steps p.tables e below (s₁.setTop (entryFrame m #[(.ref r1), (.ref r2)] 2)) t := fun t k => castTop (own_ef_jdk_31_m11 m r1 r2) k
  obtain ⟨fs, hr, hrun, hended, hW, hsame⟩ := X0.leave (v := some (.ref r1)) (fun h => by rw [Bd.returns] at h; cases h)
  refine ⟨_, _, pre0 _ ?_, hrun, hended, _, _, rfl, ?_, ⟨_, rfl⟩, hW, hsame.mono (by decide) (by decide)⟩
  · show Steps p.tables e below (s₁.setTop (mkF m 0 #[.val (.ref r1), .val (.ref r2)] [])) _
    refine XS.aloadN X0.here hx rfl (hb hby own_djdk_31_m11_0) rfl rfl ?_
    show Steps p.tables e below (s₁.setTop (mkF m 1 #[.val (.ref r1), .val (.ref r2)] [(.ref r1)])) _
    refine XS.ifnonnullYes X0.here hx rfl (pc0 := 1) (pc' := 13) rfl (hb hby own_djdk_31_m11_1) rfl (by decide) (by decide) ?_
    show Steps p.tables e below (s₁.setTop (mkF m 13 #[.val (.ref r1), .val (.ref r2)] [])) _
    refine XS.aloadN X0.here hx rfl (hb hby own_djdk_31_m11_13) rfl rfl ?_
    show Steps p.tables e below (s₁.setTop (mkF m 14 #[.val (.ref r1), .val (.ref r2)] [(.ref r1)])) _
    exact retOut X0 hx Bd.returns rfl (Or.inr (Or.inr (Or.inr (Or.inr ⟨rfl, rfl, rfl⟩)))) (hb hby own_djdk_31_m11_14) hr
  · show own_Q (.ref r1) h0 n0 _ s₁.heap _
    rw [e0]
    exact ⟨rfl, N0, rfl⟩
set_option maxRecDepth 65536 in
set_option maxHeartbeats 40000000 in
theorem own_setD (l : Launch) (Z : State) (a0 : Array Value) (hw : ∀ d ∈ tables_1, d.before a0 Z = true) (ws : List Jvm.Cond) (o1 d0 d1 t1 : Addr) (al : Int32) (h0 : Heap) (n0 : Nat) (Z0 : n0 ≤ h0.size) (F_d : Fld Z h0 o1 "com/example/persimmon/persimmon/engine/EnvironmentConfig" "durability" "Lcom/example/persimmon/persimmon/engine/Durability;" (.ref d0)) (F_l : Fld Z h0 o1 "com/example/persimmon/persimmon/engine/EnvironmentConfig" "lockTimeout" "Ljava/time/Duration;" (.ref t1)) (F_a : Fld Z h0 o1 "com/example/persimmon/persimmon/engine/EnvironmentConfig" "allowCreate" "Z" (.int al)) (E_o1 : Exa Z h0 o1 "com/example/persimmon/persimmon/engine/EnvironmentConfig") (E_d1 : Exa Z h0 d1 "com/example/persimmon/persimmon/engine/Durability") (g_o1 : n0 ≤ o1) :
    MetFree l (⟨"com/example/persimmon/persimmon/engine/EnvironmentConfig", "setDurability", "(Lcom/example/persimmon/persimmon/engine/Durability;)Lcom/example/persimmon/persimmon/engine/EnvironmentConfig;"⟩ : MethodName) (head1 (Jvm.Cond.code (⟨"com/example/persimmon/persimmon/engine/EnvironmentConfig", "setDurability", "(Lcom/example/persimmon/persimmon/engine/Durability;)Lcom/example/persimmon/persimmon/engine/EnvironmentConfig;"⟩ : MethodName) prog_82_method_4_code 2 (some (.object "com/example/persimmon/persimmon/engine/EnvironmentConfig")) :: ws) ({ frames := 1, cells := 2, slots := 44, locals := 14 } : Room)) (fun a U => a = #[(.ref o1), (.ref d1)] ∧ Z.Warmed39 U.vm ∧ U.heap = h0) (fun _ _ _ _ _ => True) (fun _ U o U' => ∃ v L, o = .returned v ∧ own_QS Z o1 d1 t1 al h0 n0 v U'.heap L ∧ ReturnedEndW U o U' L ({ frames := 1, cells := 2, slots := 44, locals := 14 } : Room).cells ({ frames := 1, cells := 2, slots := 44, locals := 14 } : Room).slots) := by
  refine MetFree.of_bodySF (plainFor_of_name own_pn2) hisR ?_
  intro p e s m args below meth c s₁ Bd hml0 hP hK
  obtain ⟨rfl, hZ, hh⟩ := hP
  have hx := Bd.exec
  have hby := Bd.bytes
  have hml : c.maxLocals = 2 := hml0
  have hown : s.vm.findClass "com/example/persimmon/persimmon/engine/EnvironmentConfig" = some m.cls := findClass_of_methodNamed Bd.named
  have hnm := (name_of_methodNamed Bd.named Bd.method).1
  have X0 : Stand p l e ({ frames := 1, cells := 2, slots := 44, locals := 14 } : Room) s m #[(.ref o1), (.ref d1)] below meth c s₁ [] 0 0 := Stand.of_body Bd
  have e0 : s₁.heap = h0 := by rw [← hh, Bd.state]; rfl
  have N0 := Fr.nil n0
  have pre0 : ∀ t, Steps p.tables e below (s₁.setTop (mkF m 0 #[.val (.ref o1), .val (.ref d1)] [])) t → Steps p.tables e below (s₁.setTop (entryFrame m #[(.ref o1), (.ref d1)] 2)) t := fun t k => castTop (own_ef_prog_82_m4 m o1 d1) k
  obtain ⟨lit1, T1, h1, k1, X1, e1, E1, hS1, hk1, hZ1, hown1, st1⟩ := ldcS (s := s) (vm0 := s.vm) X0 hx hZ hown (hw _ (List.mem_of_getElem? (i := 61) rfl)) (own_wS hw) e0 (own_since s h0.size) (Nat.le_refl _) (g := (mkF m 2 #[.val (.ref o1), .val (.ref d1)] [(.ref d1), (.ref o1)])) rfl (hb hby own_dprog_82_m4_2) (n := 40) (by decide) (by decide) (by decide) (by decide)
  have Fd1 := F_d.ext E1
  have Fl1 := F_l.ext E1
  have Fa1 := F_a.ext E1
  have Ex1 := E_o1.ext E1
  have Ed1 := E_d1.ext E1
  have Kp1 : Keep h0 h1 [o1] := (Keep.refl h0 [o1]).ext E1
  have Zp1 : n0 ≤ h1.size := Nat.le_trans Z0 Kp1.1
  obtain ⟨_, _, ⟨T2, L2, k2, n2⟩, -, X2, ⟨Lc2, hQ2, l2, y2, z2⟩, st2⟩ := Jvm.LawKit.callS X1 hx (y := (⟨"java/util/Objects", "requireNonNull", "(Ljava/lang/Object;Ljava/lang/String;)Ljava/lang/Object;"⟩ : MethodName)) hown1 (mvT hZ1 (hw _ (List.mem_of_getElem? (i := 69) rfl))) (mvT hZ1 (hw _ (List.mem_of_getElem? (i := 70) rfl))) (mvT hZ1 (hw _ (List.mem_of_getElem? (i := 71) rfl))) (mvT hZ1 (hw _ (List.mem_of_getElem? (i := 72) rfl))) (by decide) (backOf (W := 1) (own_rnn l Z a0 hw [] d1 lit1 h1 n0 Zp1) hZ1 (hw _ (List.mem_of_getElem? (i := 72) rfl)) (hw _ (List.mem_of_getElem? (i := 71) rfl)) (by decide) (by decide)) (g := (mkF m 4 #[.val (.ref o1), .val (.ref d1)] [(.ref lit1), (.ref d1), (.ref o1)])) rfl (by rw [hml]; rfl) (argsL := [(.ref d1), (.ref lit1)]) (rest := [(.ref o1)]) (lenOf own_pd3 rfl) rfl (by show 2 * 0 + _ ≤ _; exact Nat.le_of_eq rfl) (hb hby own_dprog_82_m4_4) (fun _ _ => ⟨rfl, e1, (by decide : 2 + 0 ≤ _), (by decide : 44 + 0 ≤ _)⟩)
  dsimp only [Pt.U, Pt.locs, Pt.cells, Pt.slots] at X2 l2 y2 z2 st2 hQ2
  subst l2 y2 z2
  obtain ⟨rfl, N2q, eh2⟩ := hQ2
  have N2 := Fr.app N0 N2q
  obtain ⟨T3, X3, e3, st3⟩ := castY X2 hx hZ1 hown1 (hw _ (List.mem_of_getElem? (i := 73) rfl)) eh2 (Ins.self Ed1) (g := (mkF m 7 #[.val (.ref o1), .val (.ref d1)] [(.ref d1), (.ref o1)])) rfl rfl (hb hby own_dprog_82_m4_7)
  obtain ⟨T4, h4, X4, e4, W4, st4⟩ := putF X3 hx hZ1 hown1 (host := "") (Or.inl (hw _ (List.mem_of_getElem? (i := 19) rfl))) Via.refl e3 Fd1 Ex1 (Or.inl (hw _ (List.mem_of_getElem? (i := 20) rfl))) (hw _ (List.mem_of_getElem? (i := 10) rfl)) (ty := (.object "com/example/persimmon/persimmon/engine/Durability")) (by decide) rfl rfl (g := (mkF m 10 #[.val (.ref o1), .val (.ref d1)] [(.ref d1), (.ref o1)])) rfl rfl (hb hby own_dprog_82_m4_10)
  have N4 := Fr.snoc X4 N2 g_o1
  have Fd2 := Fd1.same W4
  have Fl2 := Fl1.other W4 (Or.inr (slot_ne (Or.inl (hw _ (List.mem_of_getElem? (i := 43) rfl))) (Or.inl (hw _ (List.mem_of_getElem? (i := 20) rfl))) (by decide) (t := (.object "java/time/Duration")) (t' := (.object "com/example/persimmon/persimmon/engine/Durability")) (by decide) (by decide)))
  have Fa2 := Fa1.other W4 (Or.inr (slot_ne (Or.inl (hw _ (List.mem_of_getElem? (i := 50) rfl))) (Or.inl (hw _ (List.mem_of_getElem? (i := 20) rfl))) (by decide) (t := .boolean) (t' := (.object "com/example/persimmon/persimmon/engine/Durability")) (by decide) (by decide)))
  have Ex2 := Ex1.wr W4
  have Kp2 := Kp1.wr W4 (Or.inl (List.mem_of_getElem? (i := 0) rfl))
  obtain ⟨fs, hr, hrun, hended, -, hW9, hWb, hsame⟩ := X4.leaveW hS1 (by rw [e4, Wr.size W4]; exact hk1) (v := some (.ref o1)) (fun h => by rw [Bd.returns] at h; cases h)
  refine ⟨_, _, pre0 _ ?_, hrun, hended, _, _, rfl, ?_, ⟨_, rfl⟩, hW9, hWb, hsame.mono (by decide) (by decide)⟩
  · show Steps p.tables e below (s₁.setTop (mkF m 0 #[.val (.ref o1), .val (.ref d1)] [])) _
    refine XS.aloadN X0.here hx rfl (hb hby own_dprog_82_m4_0) rfl rfl ?_
    show Steps p.tables e below (s₁.setTop (mkF m 1 #[.val (.ref o1), .val (.ref d1)] [(.ref o1)])) _
    refine XS.aloadN X0.here hx rfl (hb hby own_dprog_82_m4_1) rfl rfl ?_
    show Steps p.tables e below (s₁.setTop (mkF m 2 #[.val (.ref o1), .val (.ref d1)] [(.ref d1), (.ref o1)])) _
    refine st1 _ ?_
    show Steps p.tables e below (T1.setTop (mkF m 4 #[.val (.ref o1), .val (.ref d1)] [(.ref lit1), (.ref d1), (.ref o1)])) _
    refine st2 _ ?_
    show Steps p.tables e below (T2.setTop (mkF m 7 #[.val (.ref o1), .val (.ref d1)] [(.ref d1), (.ref o1)])) _
    refine st3 _ ?_
    show Steps p.tables e below (T3.setTop (mkF m 10 #[.val (.ref o1), .val (.ref d1)] [(.ref d1), (.ref o1)])) _
    refine st4 _ ?_
    show Steps p.tables e below (T4.setTop (mkF m 13 #[.val (.ref o1), .val (.ref d1)] [])) _
    refine XS.aloadN X4.here hx rfl (hb hby own_dprog_82_m4_13) rfl rfl ?_
    show Steps p.tables e below (T4.setTop (mkF m 14 #[.val (.ref o1), .val (.ref d1)] [(.ref o1)])) _
    exact retOut X4 hx Bd.returns rfl (Or.inr (Or.inr (Or.inr (Or.inr ⟨rfl, rfl, rfl⟩)))) (hb hby own_dprog_82_m4_14) hr
  · show own_QS Z o1 d1 t1 al h0 n0 _ T4.heap _
    rw [e4]
    exact ⟨rfl, N4, Kp2, Ex2, Fd2, Fl2, Fa2⟩
set_option maxRecDepth 65536 in
set_option maxHeartbeats 40000000 in
theorem own_law0 (l : Launch) (Z : State) (a0 : Array Value) (hw : ∀ d ∈ tables_1, d.before a0 Z = true) (ws : List Jvm.Cond) (p1 p2 p3 : Int32) (a_SYNC a_NO_SYNC : Addr) (h0 : Heap) (n0 : Nat) (Z0 : n0 ≤ h0.size) (O0 : Old Z n0 h0) (S_SYNC : Sta Z Z.heap "com/example/persimmon/persimmon/engine/Durability" "SYNC" "Lcom/example/persimmon/persimmon/engine/Durability;" (.ref a_SYNC)) (S_NO_SYNC : Sta Z Z.heap "com/example/persimmon/persimmon/engine/Durability" "NO_SYNC" "Lcom/example/persimmon/persimmon/engine/Durability;" (.ref a_NO_SYNC)) (E_SYNC : Exa Z Z.heap a_SYNC "com/example/persimmon/persimmon/engine/Durability") (E_NO_SYNC : Exa Z Z.heap a_NO_SYNC "com/example/persimmon/persimmon/engine/Durability") (hf : p3 &&& (1 : Int32) = (0 : Int32)) :
    MetFree l x (head1 (Jvm.Cond.code x code maxLocals ret :: ws) room_1) (fun a U => a = #[(.int p1), (.int p2), (.int p3)] ∧ Z.Warmed39 U.vm ∧ U.heap = h0) (fun _ _ _ _ _ => True) (fun _ U o U' => ∃ v L, o = .returned v ∧ own_QL h0 n0 v U'.heap L ∧ ReturnedEndW U o U' L room_1.cells room_1.slots) := by
  refine MetFree.of_bodySF (plainFor_of_name own_pn0) hisR ?_
  intro p e s m args below meth c s₁ Bd hml0 hP hK
  obtain ⟨rfl, hZ, hh⟩ := hP
  have hx := Bd.exec
  have hby := Bd.bytes
  have hml : c.maxLocals = 14 := hml0
  have hown : s.vm.findClass "com/example/persimmon/persimmon/engine/EnvironmentConfigSetDurabilityPinLaw" = some m.cls := findClass_of_methodNamed Bd.named
  have hnm := (name_of_methodNamed Bd.named Bd.method).1
  have X0 : Stand p l e room_1 s m #[(.int p1), (.int p2), (.int p3)] below meth c s₁ [] 0 0 := Stand.of_body Bd
  have e0 : s₁.heap = h0 := by rw [← hh, Bd.state]; rfl
  have N0 := Fr.nil n0
  have pre0 : ∀ t, Steps p.tables e below (s₁.setTop (mkF m 0 #[.val (.int p1), .val (.int p2), .val (.int p3), .unset, .unset, .unset, .unset, .unset, .unset, .unset, .unset, .unset, .unset, .unset] [])) t → Steps p.tables e below (s₁.setTop (entryFrame m #[(.int p1), (.int p2), (.int p3)] maxLocals)) t := fun t k => castTop (own_ef_code m p1 p2 p3) k
  obtain ⟨_, _, ⟨T1, L1, k1, n1⟩, -, X1, ⟨Lc1, hQ1, l1, y1, z1⟩, st1⟩ := Jvm.LawKit.callS X0 hx (y := (⟨"com/example/persimmon/persimmon/engine/EnvironmentConfigSetDurabilityPinLaw", "pick", "(I)Lcom/example/persimmon/persimmon/engine/Durability;"⟩ : MethodName)) hown (mvT hZ (hw _ (List.mem_of_getElem? (i := 0) rfl))) (mvT hZ (hw _ (List.mem_of_getElem? (i := 1) rfl))) (mvT hZ (hw _ (List.mem_of_getElem? (i := 2) rfl))) (mvT hZ (hw _ (List.mem_of_getElem? (i := 3) rfl))) (by decide) (backOf (W := 0) (own_pick l Z a0 hw [] p1 a_SYNC a_NO_SYNC h0 n0 Z0 O0 S_SYNC S_NO_SYNC E_SYNC E_NO_SYNC) hZ (hw _ (List.mem_of_getElem? (i := 3) rfl)) (hw _ (List.mem_of_getElem? (i := 2) rfl)) (by decide) (by decide)) (g := (mkF m 13 #[.val (.int p1), .val (.int p2), .val (.int p3), .val (.int (0 : Int32)), .unset, .unset, .unset, .unset, .unset, .unset, .unset, .unset, .unset, .unset] [(.int p1)])) rfl (by rw [hml]; rfl) (argsL := [(.int p1)]) (rest := []) (lenOf own_pd4 rfl) rfl (by show 2 * 0 + _ ≤ _; exact Nat.le_of_eq rfl) (hb hby at_13) (fun _ _ => ⟨rfl, e0, (by decide : 0 + 0 ≤ _), (by decide : 0 + 0 ≤ _)⟩)
  dsimp only [Pt.U, Pt.locs, Pt.cells, Pt.slots] at X1 l1 y1 z1 st1 hQ1
  subst l1 y1 z1
  obtain ⟨d1, rfl, N1q, eh1, E_d1⟩ := hQ1
  have N1 := Fr.app N0 N1q
  obtain ⟨_, _, ⟨T2, L2, k2, n2⟩, -, X2, ⟨Lc2, hQ2, l2, y2, z2⟩, st2⟩ := Jvm.LawKit.callS X1 hx (y := (⟨"com/example/persimmon/persimmon/engine/EnvironmentConfigSetDurabilityPinLaw", "pick", "(I)Lcom/example/persimmon/persimmon/engine/Durability;"⟩ : MethodName)) hown (mvT hZ (hw _ (List.mem_of_getElem? (i := 0) rfl))) (mvT hZ (hw _ (List.mem_of_getElem? (i := 1) rfl))) (mvT hZ (hw _ (List.mem_of_getElem? (i := 2) rfl))) (mvT hZ (hw _ (List.mem_of_getElem? (i := 3) rfl))) (by decide) (backOf (W := 0) (own_pick l Z a0 hw [] p2 a_SYNC a_NO_SYNC h0 n0 Z0 O0 S_SYNC S_NO_SYNC E_SYNC E_NO_SYNC) hZ (hw _ (List.mem_of_getElem? (i := 3) rfl)) (hw _ (List.mem_of_getElem? (i := 2) rfl)) (by decide) (by decide)) (g := (mkF m 19 #[.val (.int p1), .val (.int p2), .val (.int p3), .val (.int (0 : Int32)), .val (.ref d1), .unset, .unset, .unset, .unset, .unset, .unset, .unset, .unset, .unset] [(.int p2)])) rfl (by rw [hml]; rfl) (argsL := [(.int p2)]) (rest := []) (lenOf own_pd4 rfl) rfl (by show 2 * 0 + _ ≤ _; exact Nat.le_of_eq rfl) (hb hby at_19) (fun _ _ => ⟨rfl, eh1, (by decide : 0 + 0 ≤ _), (by decide : 0 + 0 ≤ _)⟩)
  dsimp only [Pt.U, Pt.locs, Pt.cells, Pt.slots] at X2 l2 y2 z2 st2 hQ2
  subst l2 y2 z2
  obtain ⟨d2, rfl, N2q, eh2, E_d2⟩ := hQ2
  have N2 := Fr.app N1 N2q
  obtain ⟨T3, h3, X3, e3, E3, A3, D3, -, st3⟩ := newO X2 hx hZ hown (hw _ (List.mem_of_getElem? (i := 9) rfl)) (hw _ (List.mem_of_getElem? (i := 10) rfl)) (hw _ (List.mem_of_getElem? (i := 11) rfl)) eh2 (g := (mkF m 24 #[.val (.int p1), .val (.int p2), .val (.int p3), .val (.int (0 : Int32)), .val (.ref d1), .val (.ref d2), .unset, .unset, .unset, .unset, .unset, .unset, .unset, .unset] [])) rfl (hb hby at_24) (by decide) (by decide)
  obtain ⟨b3, g3⟩ : ∃ z, z = h0.size := ⟨_, rfl⟩
  rw [← g3] at A3 D3 st3
  have F_d : Fld Z h3 b3 "com/example/persimmon/persimmon/engine/EnvironmentConfig" "durability" "Lcom/example/persimmon/persimmon/engine/Durability;" .null := D3 (Or.inl (hw _ (List.mem_of_getElem? (i := 20) rfl))) (ty := (.object "com/example/persimmon/persimmon/engine/Durability")) (by decide)
  have F_l : Fld Z h3 b3 "com/example/persimmon/persimmon/engine/EnvironmentConfig" "lockTimeout" "Ljava/time/Duration;" .null := D3 (Or.inl (hw _ (List.mem_of_getElem? (i := 43) rfl))) (ty := (.object "java/time/Duration")) (by decide)
  have F_a : Fld Z h3 b3 "com/example/persimmon/persimmon/engine/EnvironmentConfig" "allowCreate" "Z" (.int (0 : Int32)) := D3 (Or.inl (hw _ (List.mem_of_getElem? (i := 50) rfl))) (ty := .boolean) (by decide)
  have g_b : n0 ≤ b3 := Nat.le_trans Z0 (Nat.le_of_eq g3.symm)
  have Zn : n0 ≤ h3.size := Nat.le_trans Z0 E3.1
  have On := O0.ext E3
  have Ed1a := E_d1.ext E3
  have Ed2a := E_d2.ext E3
  obtain ⟨_, _, ⟨T4, L4, k4, n4⟩, -, X4, ⟨Lc4, hQ4, l4, y4, z4⟩, st4⟩ := X3.specialBack hx (y := (⟨"com/example/persimmon/persimmon/engine/EnvironmentConfig", "<init>", "()V"⟩ : MethodName)) rfl hown (mvT hZ (hw _ (List.mem_of_getElem? (i := 12) rfl))) (mvT hZ (hw _ (List.mem_of_getElem? (i := 13) rfl))) (mvT hZ (hw _ (List.mem_of_getElem? (i := 14) rfl))) (by decide) (backOf (W := 1) (own_ecinit l Z a0 hw [] b3 a_SYNC h3 n0 Zn On S_SYNC F_d F_l F_a A3 g_b) hZ (hw _ (List.mem_of_getElem? (i := 14) rfl)) (hw _ (List.mem_of_getElem? (i := 11) rfl)) (by decide) (by decide)) (g := (mkF m 28 #[.val (.int p1), .val (.int p2), .val (.int p3), .val (.int (0 : Int32)), .val (.ref d1), .val (.ref d2), .unset, .unset, .unset, .unset, .unset, .unset, .unset, .unset] [(.ref b3), (.ref b3)])) rfl (by rw [hml]; rfl) (Steps.refl _) (a := b3) (argsL := []) (rest := [(.ref b3)]) (lenOf own_pd5 rfl) rfl (by show 2 * 0 + _ ≤ _; exact Nat.le_of_eq rfl) (hb hby at_28) (fun _ _ => ⟨rfl, e3, (by decide : 1 + 1 ≤ _), (by decide : 3 + 2 ≤ _)⟩)
  dsimp only [Pt.U, Pt.locs, Pt.cells, Pt.slots] at X4 l4 y4 z4 st4 hQ4
  subst l4 y4 z4
  obtain ⟨rfl, N4q, Ki, Exi, Fdi, ⟨t1, Fli⟩, Fai⟩ := hQ4
  have N4 := Fr.app N2 N4q
  have Zi := Nat.le_trans Zn Ki.1
  have Ed1b := Ed1a.keep Ki
  have Ed2b := Ed2a.keep Ki
  obtain ⟨cq5, kq5, q5a, q5b, q5c⟩ := isOf hZ rfl Exi
  obtain ⟨_, _, ⟨T5, L5, k5, n5⟩, -, X5, ⟨Lc5, hQ5, l5, y5, z5⟩, st5⟩ := X4.virtualBack hx (y := (⟨"com/example/persimmon/persimmon/engine/EnvironmentConfig", "setAllowCreate", "(Z)Lcom/example/persimmon/persimmon/engine/EnvironmentConfig;"⟩ : MethodName)) (z := (⟨"com/example/persimmon/persimmon/engine/EnvironmentConfig", "setAllowCreate", "(Z)Lcom/example/persimmon/persimmon/engine/EnvironmentConfig;"⟩ : MethodName)) hown (mvT hZ (hw _ (List.mem_of_getElem? (i := 44) rfl))) (mvT hZ (hw _ (List.mem_of_getElem? (i := 45) rfl))) (notFace_of_selects (args := #[]) (mvT hZ (hw _ (List.mem_of_getElem? (i := 47) rfl)))) (mvT hZ (hw _ (List.mem_of_getElem? (i := 47) rfl))) (mvT hZ (hw _ (List.mem_of_getElem? (i := 46) rfl))) (by decide) (backOf (W := 0) (own_setA0 l Z a0 hw [] b3 a_SYNC t1 T4.heap n0 Zi Fdi Fli Fai Exi g_b) hZ (hw _ (List.mem_of_getElem? (i := 48) rfl)) (hw _ (List.mem_of_getElem? (i := 11) rfl)) (by decide) (by decide)) q5a q5c (g := (mkF m 36 #[.val (.int p1), .val (.int p2), .val (.int p3), .val (.int (0 : Int32)), .val (.ref d1), .val (.ref d2), .val (.ref b3), .unset, .unset, .unset, .unset, .unset, .unset, .unset] [(.int (0 : Int32)), (.ref b3)])) rfl (by rw [hml]; rfl) (Steps.refl _) (argsL := [(.int (0 : Int32))]) (rest := []) (lenOf own_pd6 rfl) rfl (by show 2 * 0 + _ ≤ _; exact Nat.le_of_eq rfl) (hb hby at_36) (fun _ _ => ⟨rfl, rfl, (by decide : 2 + 0 ≤ _), (by decide : 5 + 0 ≤ _)⟩)
  dsimp only [Pt.U, Pt.locs, Pt.cells, Pt.slots] at X5 l5 y5 z5 st5 hQ5
  subst l5 y5 z5
  obtain ⟨rfl, N5q, Ks, Exs, Fds, Fls, Fas⟩ := hQ5
  have N5 := Fr.app N4 N5q
  have Zs := Nat.le_trans Zi Ks.1
  have Ed1c := Ed1b.keep Ks
  have Ed2c := Ed2b.keep Ks
  obtain ⟨cq6, kq6, q6a, q6b, q6c⟩ := isOf hZ rfl Exs
  obtain ⟨_, _, ⟨T6, L6, k6, n6⟩, -, X6, ⟨Lc6, hQ6, l6, y6, z6⟩, st6⟩ := X5.virtualBack hx (y := (⟨"com/example/persimmon/persimmon/engine/EnvironmentConfig", "getLockTimeout", "()Ljava/time/Duration;"⟩ : MethodName)) (z := (⟨"com/example/persimmon/persimmon/engine/EnvironmentConfig", "getLockTimeout", "()Ljava/time/Duration;"⟩ : MethodName)) hown (mvT hZ (hw _ (List.mem_of_getElem? (i := 51) rfl))) (mvT hZ (hw _ (List.mem_of_getElem? (i := 52) rfl))) (notFace_of_selects (args := #[]) (mvT hZ (hw _ (List.mem_of_getElem? (i := 54) rfl)))) (mvT hZ (hw _ (List.mem_of_getElem? (i := 54) rfl))) (mvT hZ (hw _ (List.mem_of_getElem? (i := 53) rfl))) (by decide) (backOf (W := 0) (own_getL l Z a0 hw [] b3 t1 T5.heap n0 Zs Fls) hZ (hw _ (List.mem_of_getElem? (i := 55) rfl)) (hw _ (List.mem_of_getElem? (i := 11) rfl)) (by decide) (by decide)) q6a q6c (g := (mkF m 42 #[.val (.int p1), .val (.int p2), .val (.int p3), .val (.int (0 : Int32)), .val (.ref d1), .val (.ref d2), .val (.ref b3), .unset, .unset, .unset, .unset, .unset, .unset, .unset] [(.ref b3)])) rfl (by rw [hml]; rfl) (Steps.refl _) (argsL := []) (rest := []) (lenOf own_pd7 rfl) rfl (by show 2 * 0 + _ ≤ _; exact Nat.le_of_eq rfl) (hb hby at_42) (fun _ _ => ⟨rfl, rfl, (by decide : 2 + 0 ≤ _), (by decide : 5 + 0 ≤ _)⟩)
  dsimp only [Pt.U, Pt.locs, Pt.cells, Pt.slots] at X6 l6 y6 z6 st6 hQ6
  subst l6 y6 z6
  obtain ⟨rfl, N6q, eh6⟩ := hQ6
  have N6 := Fr.app N5 N6q
  obtain ⟨cq7, kq7, q7a, q7b, q7c⟩ := isOf hZ eh6 Exs
  obtain ⟨_, _, ⟨T7, L7, k7, n7⟩, -, Y7, hs7, hg7, ⟨Lc7, hQ7, l7, y7, z7⟩, st7⟩ := X6.virtualBackS hx (y := (⟨"com/example/persimmon/persimmon/engine/EnvironmentConfig", "setDurability", "(Lcom/example/persimmon/persimmon/engine/Durability;)Lcom/example/persimmon/persimmon/engine/EnvironmentConfig;"⟩ : MethodName)) (z := (⟨"com/example/persimmon/persimmon/engine/EnvironmentConfig", "setDurability", "(Lcom/example/persimmon/persimmon/engine/Durability;)Lcom/example/persimmon/persimmon/engine/EnvironmentConfig;"⟩ : MethodName)) hown (mvT hZ (hw _ (List.mem_of_getElem? (i := 56) rfl))) (mvT hZ (hw _ (List.mem_of_getElem? (i := 57) rfl))) (notFace_of_selects (args := #[]) (mvT hZ (hw _ (List.mem_of_getElem? (i := 59) rfl)))) (mvT hZ (hw _ (List.mem_of_getElem? (i := 59) rfl))) (mvT hZ (hw _ (List.mem_of_getElem? (i := 58) rfl))) (by decide) (backOfS (W := 0) (own_setD l Z a0 hw [] b3 a_SYNC d1 t1 (0 : Int32) T5.heap n0 Zs Fds Fls Fas Exs Ed1c g_b) hZ (hw _ (List.mem_of_getElem? (i := 60) rfl)) (hw _ (List.mem_of_getElem? (i := 11) rfl)) (by decide) (by decide)) q7a q7c (g := (mkF m 51 #[.val (.int p1), .val (.int p2), .val (.int p3), .val (.int (0 : Int32)), .val (.ref d1), .val (.ref d2), .val (.ref b3), .val (.ref t1), .unset, .unset, .unset, .unset, .unset, .unset] [(.ref d1), (.ref b3)])) rfl (by rw [hml]; rfl) (Steps.refl _) (argsL := [(.ref d1)]) (rest := []) (lenOf own_pd8 rfl) rfl (by show 2 * 0 + _ ≤ _; exact Nat.le_of_eq rfl) (hb hby at_51) (fun _ _ => ⟨rfl, eh6, (by decide : 2 + 2 ≤ _), (by decide : 5 + 44 ≤ _)⟩)
  dsimp only [Pt.U, Pt.locs, Pt.cells, Pt.slots] at Y7 l7 y7 z7 st7 hQ7 hs7 hg7
  subst l7 y7 z7
  obtain ⟨rfl, N7q, Ku, Exu, Fdu, Flu, Fau⟩ := hQ7
  have N7 := Fr.app N6 N7q
  obtain ⟨X7, hS7, hZ7, hown7⟩ := rebS (s := s) (vm0 := s.vm) (vm1 := T7.vm) (own_since s 0) (Nat.zero_le _) Y7 hs7 hg7 hZ hown
  have Zu := Nat.le_trans Zs Ku.1
  have Ed2d := Ed2c.keep Ku
  obtain ⟨cq8, kq8, q8a, q8b, q8c⟩ := isOf hZ7 rfl Exu
  obtain ⟨_, _, ⟨T8, L8, k8, n8⟩, -, X8, ⟨Lc8, hQ8, l8, y8, z8⟩, st8⟩ := X7.virtualBack hx (y := (⟨"com/example/persimmon/persimmon/engine/EnvironmentConfig", "getDurability", "()Lcom/example/persimmon/persimmon/engine/Durability;"⟩ : MethodName)) (z := (⟨"com/example/persimmon/persimmon/engine/EnvironmentConfig", "getDurability", "()Lcom/example/persimmon/persimmon/engine/Durability;"⟩ : MethodName)) hown7 (mvT hZ7 (hw _ (List.mem_of_getElem? (i := 75) rfl))) (mvT hZ7 (hw _ (List.mem_of_getElem? (i := 76) rfl))) (notFace_of_selects (args := #[]) (mvT hZ7 (hw _ (List.mem_of_getElem? (i := 78) rfl)))) (mvT hZ7 (hw _ (List.mem_of_getElem? (i := 78) rfl))) (mvT hZ7 (hw _ (List.mem_of_getElem? (i := 77) rfl))) (by decide) (backOf (W := 0) (own_getD l Z a0 hw [] b3 d1 T7.heap n0 Zu Fdu) hZ7 (hw _ (List.mem_of_getElem? (i := 79) rfl)) (hw _ (List.mem_of_getElem? (i := 11) rfl)) (by decide) (by decide)) q8a q8c (g := (mkF m 58 #[.val (.int p1), .val (.int p2), .val (.int p3), .val (.int (0 : Int32)), .val (.ref d1), .val (.ref d2), .val (.ref b3), .val (.ref t1), .val (.ref b3), .unset, .unset, .unset, .unset, .unset] [(.ref b3)])) rfl (by rw [hml]; rfl) (Steps.refl _) (argsL := []) (rest := []) (lenOf own_pd9 rfl) rfl (by show 2 * 0 + _ ≤ _; exact Nat.le_of_eq rfl) (hb hby at_58) (fun _ _ => ⟨rfl, rfl, (by decide : 4 + 0 ≤ _), (by decide : 49 + 0 ≤ _)⟩)
  dsimp only [Pt.U, Pt.locs, Pt.cells, Pt.slots] at X8 l8 y8 z8 st8 hQ8
  subst l8 y8 z8
  obtain ⟨rfl, N8q, eh8⟩ := hQ8
  have N8 := Fr.app N7 N8q
  obtain ⟨cq9, kq9, q9a, q9b, q9c⟩ := isOf hZ7 eh8 Exu
  obtain ⟨_, _, ⟨T9, L9, k9, n9⟩, -, Y9, hs9, hg9, ⟨Lc9, hQ9, l9, y9, z9⟩, st9⟩ := X8.virtualBackS hx (y := (⟨"com/example/persimmon/persimmon/engine/EnvironmentConfig", "setDurability", "(Lcom/example/persimmon/persimmon/engine/Durability;)Lcom/example/persimmon/persimmon/engine/EnvironmentConfig;"⟩ : MethodName)) (z := (⟨"com/example/persimmon/persimmon/engine/EnvironmentConfig", "setDurability", "(Lcom/example/persimmon/persimmon/engine/Durability;)Lcom/example/persimmon/persimmon/engine/EnvironmentConfig;"⟩ : MethodName)) hown7 (mvT hZ7 (hw _ (List.mem_of_getElem? (i := 56) rfl))) (mvT hZ7 (hw _ (List.mem_of_getElem? (i := 57) rfl))) (notFace_of_selects (args := #[]) (mvT hZ7 (hw _ (List.mem_of_getElem? (i := 59) rfl)))) (mvT hZ7 (hw _ (List.mem_of_getElem? (i := 59) rfl))) (mvT hZ7 (hw _ (List.mem_of_getElem? (i := 58) rfl))) (by decide) (backOfS (W := 0) (own_setD l Z a0 hw [] b3 d1 d2 t1 (0 : Int32) T7.heap n0 Zu Fdu Flu Fau Exu Ed2d g_b) hZ7 (hw _ (List.mem_of_getElem? (i := 60) rfl)) (hw _ (List.mem_of_getElem? (i := 11) rfl)) (by decide) (by decide)) q9a q9c (g := (mkF m 67 #[.val (.int p1), .val (.int p2), .val (.int p3), .val (.int (0 : Int32)), .val (.ref d1), .val (.ref d2), .val (.ref b3), .val (.ref t1), .val (.ref b3), .val (.ref d1), .unset, .unset, .unset, .unset] [(.ref d2), (.ref b3)])) rfl (by rw [hml]; rfl) (Steps.refl _) (argsL := [(.ref d2)]) (rest := []) (lenOf own_pd8 rfl) rfl (by show 2 * 0 + _ ≤ _; exact Nat.le_of_eq rfl) (hb hby at_67) (fun _ _ => ⟨rfl, eh8, (by decide : 4 + 2 ≤ _), (by decide : 49 + 44 ≤ _)⟩)
  dsimp only [Pt.U, Pt.locs, Pt.cells, Pt.slots] at Y9 l9 y9 z9 st9 hQ9 hs9 hg9
  subst l9 y9 z9
  obtain ⟨rfl, N9q, Kv, Exv, Fdv, Flv, Fav⟩ := hQ9
  have N9 := Fr.app N8 N9q
  obtain ⟨X9, hS9, hZ9, hown9⟩ := rebS (s := s) (vm0 := T7.vm) (vm1 := T9.vm) hS7 (Nat.le_of_eq (congrArg Array.size eh8.symm)) Y9 hs9 hg9 hZ7 hown7
  have Zv := Nat.le_trans Zu Kv.1
  obtain ⟨cq10, kq10, q10a, q10b, q10c⟩ := isOf hZ9 rfl Exv
  obtain ⟨_, _, ⟨T10, L10, k10, n10⟩, -, X10, ⟨Lc10, hQ10, l10, y10, z10⟩, st10⟩ := X9.virtualBack hx (y := (⟨"com/example/persimmon/persimmon/engine/EnvironmentConfig", "getDurability", "()Lcom/example/persimmon/persimmon/engine/Durability;"⟩ : MethodName)) (z := (⟨"com/example/persimmon/persimmon/engine/EnvironmentConfig", "getDurability", "()Lcom/example/persimmon/persimmon/engine/Durability;"⟩ : MethodName)) hown9 (mvT hZ9 (hw _ (List.mem_of_getElem? (i := 75) rfl))) (mvT hZ9 (hw _ (List.mem_of_getElem? (i := 76) rfl))) (notFace_of_selects (args := #[]) (mvT hZ9 (hw _ (List.mem_of_getElem? (i := 78) rfl)))) (mvT hZ9 (hw _ (List.mem_of_getElem? (i := 78) rfl))) (mvT hZ9 (hw _ (List.mem_of_getElem? (i := 77) rfl))) (by decide) (backOf (W := 0) (own_getD l Z a0 hw [] b3 d2 T9.heap n0 Zv Fdv) hZ9 (hw _ (List.mem_of_getElem? (i := 79) rfl)) (hw _ (List.mem_of_getElem? (i := 11) rfl)) (by decide) (by decide)) q10a q10c (g := (mkF m 74 #[.val (.int p1), .val (.int p2), .val (.int p3), .val (.int (0 : Int32)), .val (.ref d1), .val (.ref d2), .val (.ref b3), .val (.ref t1), .val (.ref b3), .val (.ref d1), .val (.ref b3), .unset, .unset, .unset] [(.ref b3)])) rfl (by rw [hml]; rfl) (Steps.refl _) (argsL := []) (rest := []) (lenOf own_pd9 rfl) rfl (by show 2 * 0 + _ ≤ _; exact Nat.le_of_eq rfl) (hb hby at_74) (fun _ _ => ⟨rfl, rfl, (by decide : 6 + 0 ≤ _), (by decide : 93 + 0 ≤ _)⟩)
  dsimp only [Pt.U, Pt.locs, Pt.cells, Pt.slots] at X10 l10 y10 z10 st10 hQ10
  subst l10 y10 z10
  obtain ⟨rfl, N10q, eh10⟩ := hQ10
  have N10 := Fr.app N9 N10q
  obtain ⟨cq11, kq11, q11a, q11b, q11c⟩ := isOf hZ9 eh10 Exv
  obtain ⟨_, _, ⟨T11, L11, k11, n11⟩, -, X11, ⟨Lc11, hQ11, l11, y11, z11⟩, st11⟩ := X10.virtualBack hx (y := (⟨"com/example/persimmon/persimmon/engine/EnvironmentConfig", "getAllowCreate", "()Z"⟩ : MethodName)) (z := (⟨"com/example/persimmon/persimmon/engine/EnvironmentConfig", "getAllowCreate", "()Z"⟩ : MethodName)) hown9 (mvT hZ9 (hw _ (List.mem_of_getElem? (i := 80) rfl))) (mvT hZ9 (hw _ (List.mem_of_getElem? (i := 81) rfl))) (notFace_of_selects (args := #[]) (mvT hZ9 (hw _ (List.mem_of_getElem? (i := 83) rfl)))) (mvT hZ9 (hw _ (List.mem_of_getElem? (i := 83) rfl))) (mvT hZ9 (hw _ (List.mem_of_getElem? (i := 82) rfl))) (by decide) (backOf (W := 0) (own_getA0 l Z a0 hw [] b3 T9.heap n0 Zv Fav) hZ9 (hw _ (List.mem_of_getElem? (i := 84) rfl)) (hw _ (List.mem_of_getElem? (i := 11) rfl)) (by decide) (by decide)) q11a q11c (g := (mkF m 81 #[.val (.int p1), .val (.int p2), .val (.int p3), .val (.int (0 : Int32)), .val (.ref d1), .val (.ref d2), .val (.ref b3), .val (.ref t1), .val (.ref b3), .val (.ref d1), .val (.ref b3), .val (.ref d2), .unset, .unset] [(.ref b3)])) rfl (by rw [hml]; rfl) (Steps.refl _) (argsL := []) (rest := []) (lenOf own_pd10 rfl) rfl (by show 2 * 0 + _ ≤ _; exact Nat.le_of_eq rfl) (hb hby at_81) (fun _ _ => ⟨rfl, eh10, (by decide : 6 + 0 ≤ _), (by decide : 93 + 0 ≤ _)⟩)
  dsimp only [Pt.U, Pt.locs, Pt.cells, Pt.slots] at X11 l11 y11 z11 st11 hQ11
  subst l11 y11 z11
  obtain ⟨rfl, N11q, eh11⟩ := hQ11
  have N11 := Fr.app N10 N11q
  obtain ⟨cq12, kq12, q12a, q12b, q12c⟩ := isOf hZ9 eh11 Exv
  obtain ⟨_, _, ⟨T12, L12, k12, n12⟩, -, X12, ⟨Lc12, hQ12, l12, y12, z12⟩, st12⟩ := X11.virtualBack hx (y := (⟨"com/example/persimmon/persimmon/engine/EnvironmentConfig", "getLockTimeout", "()Ljava/time/Duration;"⟩ : MethodName)) (z := (⟨"com/example/persimmon/persimmon/engine/EnvironmentConfig", "getLockTimeout", "()Ljava/time/Duration;"⟩ : MethodName)) hown9 (mvT hZ9 (hw _ (List.mem_of_getElem? (i := 51) rfl))) (mvT hZ9 (hw _ (List.mem_of_getElem? (i := 52) rfl))) (notFace_of_selects (args := #[]) (mvT hZ9 (hw _ (List.mem_of_getElem? (i := 54) rfl)))) (mvT hZ9 (hw _ (List.mem_of_getElem? (i := 54) rfl))) (mvT hZ9 (hw _ (List.mem_of_getElem? (i := 53) rfl))) (by decide) (backOf (W := 0) (own_getL l Z a0 hw [] b3 t1 T9.heap n0 Zv Flv) hZ9 (hw _ (List.mem_of_getElem? (i := 55) rfl)) (hw _ (List.mem_of_getElem? (i := 11) rfl)) (by decide) (by decide)) q12a q12c (g := (mkF m 88 #[.val (.int p1), .val (.int p2), .val (.int p3), .val (.int (0 : Int32)), .val (.ref d1), .val (.ref d2), .val (.ref b3), .val (.ref t1), .val (.ref b3), .val (.ref d1), .val (.ref b3), .val (.ref d2), .val (.int (0 : Int32)), .unset] [(.ref b3)])) rfl (by rw [hml]; rfl) (Steps.refl _) (argsL := []) (rest := []) (lenOf own_pd7 rfl) rfl (by show 2 * 0 + _ ≤ _; exact Nat.le_of_eq rfl) (hb hby at_88) (fun _ _ => ⟨rfl, eh11, (by decide : 6 + 0 ≤ _), (by decide : 93 + 0 ≤ _)⟩)
  dsimp only [Pt.U, Pt.locs, Pt.cells, Pt.slots] at X12 l12 y12 z12 st12 hQ12
  subst l12 y12 z12
  obtain ⟨rfl, N12q, eh12⟩ := hQ12
  have N12 := Fr.app N11 N12q
  obtain ⟨fs, hr, hrun, hended, -, hW9, hWb, hsame⟩ := X12.leaveW hS9 (Nat.le_of_eq (congrArg Array.size eh12.symm)) (v := some (.int (1 : Int32))) (fun h => by rw [Bd.returns] at h; cases h)
  refine ⟨_, _, pre0 _ ?_, hrun, hended, _, _, rfl, ?_, ⟨_, rfl⟩, hW9, hWb, hsame.mono (by decide) (by decide)⟩
  · show Steps p.tables e below (s₁.setTop (mkF m 0 #[.val (.int p1), .val (.int p2), .val (.int p3), .unset, .unset, .unset, .unset, .unset, .unset, .unset, .unset, .unset, .unset, .unset] [])) _
    refine XS.iloadN X0.here hx rfl (hb hby at_0) rfl ?_
    show Steps p.tables e below (s₁.setTop (mkF m 1 #[.val (.int p1), .val (.int p2), .val (.int p3), .unset, .unset, .unset, .unset, .unset, .unset, .unset, .unset, .unset, .unset, .unset] [(.int p3)])) _
    refine XS.iconst X0.here hx rfl (hb hby at_1) ?_
    show Steps p.tables e below (s₁.setTop (mkF m 2 #[.val (.int p1), .val (.int p2), .val (.int p3), .unset, .unset, .unset, .unset, .unset, .unset, .unset, .unset, .unset, .unset, .unset] [(.int (1 : Int32)), (.int p3)])) _
    refine XS.iand X0.here hx rfl (hb hby at_2) rfl ?_
    show Steps p.tables e below (s₁.setTop (mkF m 3 #[.val (.int p1), .val (.int p2), .val (.int p3), .unset, .unset, .unset, .unset, .unset, .unset, .unset, .unset, .unset, .unset, .unset] [(.int (p3 &&& (1 : Int32)))])) _
    rw [hf]
    show Steps p.tables e below (s₁.setTop (mkF m 3 #[.val (.int p1), .val (.int p2), .val (.int p3), .unset, .unset, .unset, .unset, .unset, .unset, .unset, .unset, .unset, .unset, .unset] [(.int (0 : Int32))])) _
    refine XS.ifYes X0.here hx rfl (pc0 := 3) (pc' := 10) rfl (hb hby at_3) rfl (by decide) (by decide) (by decide) ?_
    show Steps p.tables e below (s₁.setTop (mkF m 10 #[.val (.int p1), .val (.int p2), .val (.int p3), .unset, .unset, .unset, .unset, .unset, .unset, .unset, .unset, .unset, .unset, .unset] [])) _
    refine XS.iconst X0.here hx rfl (hb hby at_10) ?_
    show Steps p.tables e below (s₁.setTop (mkF m 11 #[.val (.int p1), .val (.int p2), .val (.int p3), .unset, .unset, .unset, .unset, .unset, .unset, .unset, .unset, .unset, .unset, .unset] [(.int (0 : Int32))])) _
    refine XS.istoreN X0.here hx rfl (hb hby at_11) rfl (l' := #[.val (.int p1), .val (.int p2), .val (.int p3), .val (.int (0 : Int32)), .unset, .unset, .unset, .unset, .unset, .unset, .unset, .unset, .unset, .unset]) rfl ?_
    show Steps p.tables e below (s₁.setTop (mkF m 12 #[.val (.int p1), .val (.int p2), .val (.int p3), .val (.int (0 : Int32)), .unset, .unset, .unset, .unset, .unset, .unset, .unset, .unset, .unset, .unset] [])) _
    refine XS.iloadN X0.here hx rfl (hb hby at_12) rfl ?_
    show Steps p.tables e below (s₁.setTop (mkF m 13 #[.val (.int p1), .val (.int p2), .val (.int p3), .val (.int (0 : Int32)), .unset, .unset, .unset, .unset, .unset, .unset, .unset, .unset, .unset, .unset] [(.int p1)])) _
    refine st1 _ ?_
    show Steps p.tables e below (T1.setTop (mkF m 16 #[.val (.int p1), .val (.int p2), .val (.int p3), .val (.int (0 : Int32)), .unset, .unset, .unset, .unset, .unset, .unset, .unset, .unset, .unset, .unset] [(.ref d1)])) _
    refine XS.astore X1.here hx rfl (hb hby at_16) rfl rfl (l' := #[.val (.int p1), .val (.int p2), .val (.int p3), .val (.int (0 : Int32)), .val (.ref d1), .unset, .unset, .unset, .unset, .unset, .unset, .unset, .unset, .unset]) rfl ?_
    show Steps p.tables e below (T1.setTop (mkF m 18 #[.val (.int p1), .val (.int p2), .val (.int p3), .val (.int (0 : Int32)), .val (.ref d1), .unset, .unset, .unset, .unset, .unset, .unset, .unset, .unset, .unset] [])) _
    refine XS.iloadN X1.here hx rfl (hb hby at_18) rfl ?_
    show Steps p.tables e below (T1.setTop (mkF m 19 #[.val (.int p1), .val (.int p2), .val (.int p3), .val (.int (0 : Int32)), .val (.ref d1), .unset, .unset, .unset, .unset, .unset, .unset, .unset, .unset, .unset] [(.int p2)])) _
    refine st2 _ ?_
    show Steps p.tables e below (T2.setTop (mkF m 22 #[.val (.int p1), .val (.int p2), .val (.int p3), .val (.int (0 : Int32)), .val (.ref d1), .unset, .unset, .unset, .unset, .unset, .unset, .unset, .unset, .unset] [(.ref d2)])) _
    refine XS.astore X2.here hx rfl (hb hby at_22) rfl rfl (l' := #[.val (.int p1), .val (.int p2), .val (.int p3), .val (.int (0 : Int32)), .val (.ref d1), .val (.ref d2), .unset, .unset, .unset, .unset, .unset, .unset, .unset, .unset]) rfl ?_
    show Steps p.tables e below (T2.setTop (mkF m 24 #[.val (.int p1), .val (.int p2), .val (.int p3), .val (.int (0 : Int32)), .val (.ref d1), .val (.ref d2), .unset, .unset, .unset, .unset, .unset, .unset, .unset, .unset] [])) _
    refine st3 _ ?_
    show Steps p.tables e below (T3.setTop (mkF m 27 #[.val (.int p1), .val (.int p2), .val (.int p3), .val (.int (0 : Int32)), .val (.ref d1), .val (.ref d2), .unset, .unset, .unset, .unset, .unset, .unset, .unset, .unset] [(.ref b3)])) _
    refine XS.dup X3.here hx rfl (hb hby at_27) rfl rfl ?_
    show Steps p.tables e below (T3.setTop (mkF m 28 #[.val (.int p1), .val (.int p2), .val (.int p3), .val (.int (0 : Int32)), .val (.ref d1), .val (.ref d2), .unset, .unset, .unset, .unset, .unset, .unset, .unset, .unset] [(.ref b3), (.ref b3)])) _
    refine st4.trans ?_
    show Steps p.tables e below (T4.setTop (mkF m 31 #[.val (.int p1), .val (.int p2), .val (.int p3), .val (.int (0 : Int32)), .val (.ref d1), .val (.ref d2), .unset, .unset, .unset, .unset, .unset, .unset, .unset, .unset] [(.ref b3)])) _
    refine XS.astore X4.here hx rfl (hb hby at_31) rfl rfl (l' := #[.val (.int p1), .val (.int p2), .val (.int p3), .val (.int (0 : Int32)), .val (.ref d1), .val (.ref d2), .val (.ref b3), .unset, .unset, .unset, .unset, .unset, .unset, .unset]) rfl ?_
    show Steps p.tables e below (T4.setTop (mkF m 33 #[.val (.int p1), .val (.int p2), .val (.int p3), .val (.int (0 : Int32)), .val (.ref d1), .val (.ref d2), .val (.ref b3), .unset, .unset, .unset, .unset, .unset, .unset, .unset] [])) _
    refine XS.aload X4.here hx rfl (hb hby at_33) rfl rfl ?_
    show Steps p.tables e below (T4.setTop (mkF m 35 #[.val (.int p1), .val (.int p2), .val (.int p3), .val (.int (0 : Int32)), .val (.ref d1), .val (.ref d2), .val (.ref b3), .unset, .unset, .unset, .unset, .unset, .unset, .unset] [(.ref b3)])) _
    refine XS.iloadN X4.here hx rfl (hb hby at_35) rfl ?_
    show Steps p.tables e below (T4.setTop (mkF m 36 #[.val (.int p1), .val (.int p2), .val (.int p3), .val (.int (0 : Int32)), .val (.ref d1), .val (.ref d2), .val (.ref b3), .unset, .unset, .unset, .unset, .unset, .unset, .unset] [(.int (0 : Int32)), (.ref b3)])) _
    refine st5.trans ?_
    show Steps p.tables e below (T5.setTop (mkF m 39 #[.val (.int p1), .val (.int p2), .val (.int p3), .val (.int (0 : Int32)), .val (.ref d1), .val (.ref d2), .val (.ref b3), .unset, .unset, .unset, .unset, .unset, .unset, .unset] [(.ref b3)])) _
    refine XS.pop X5.here hx rfl (hb hby at_39) rfl rfl ?_
    show Steps p.tables e below (T5.setTop (mkF m 40 #[.val (.int p1), .val (.int p2), .val (.int p3), .val (.int (0 : Int32)), .val (.ref d1), .val (.ref d2), .val (.ref b3), .unset, .unset, .unset, .unset, .unset, .unset, .unset] [])) _
    refine XS.aload X5.here hx rfl (hb hby at_40) rfl rfl ?_
    show Steps p.tables e below (T5.setTop (mkF m 42 #[.val (.int p1), .val (.int p2), .val (.int p3), .val (.int (0 : Int32)), .val (.ref d1), .val (.ref d2), .val (.ref b3), .unset, .unset, .unset, .unset, .unset, .unset, .unset] [(.ref b3)])) _
    refine st6.trans ?_
    show Steps p.tables e below (T6.setTop (mkF m 45 #[.val (.int p1), .val (.int p2), .val (.int p3), .val (.int (0 : Int32)), .val (.ref d1), .val (.ref d2), .val (.ref b3), .unset, .unset, .unset, .unset, .unset, .unset, .unset] [(.ref t1)])) _
    refine XS.astore X6.here hx rfl (hb hby at_45) rfl rfl (l' := #[.val (.int p1), .val (.int p2), .val (.int p3), .val (.int (0 : Int32)), .val (.ref d1), .val (.ref d2), .val (.ref b3), .val (.ref t1), .unset, .unset, .unset, .unset, .unset, .unset]) rfl ?_
    show Steps p.tables e below (T6.setTop (mkF m 47 #[.val (.int p1), .val (.int p2), .val (.int p3), .val (.int (0 : Int32)), .val (.ref d1), .val (.ref d2), .val (.ref b3), .val (.ref t1), .unset, .unset, .unset, .unset, .unset, .unset] [])) _
    refine XS.aload X6.here hx rfl (hb hby at_47) rfl rfl ?_
    show Steps p.tables e below (T6.setTop (mkF m 49 #[.val (.int p1), .val (.int p2), .val (.int p3), .val (.int (0 : Int32)), .val (.ref d1), .val (.ref d2), .val (.ref b3), .val (.ref t1), .unset, .unset, .unset, .unset, .unset, .unset] [(.ref b3)])) _
    refine XS.aload X6.here hx rfl (hb hby at_49) rfl rfl ?_
    show Steps p.tables e below (T6.setTop (mkF m 51 #[.val (.int p1), .val (.int p2), .val (.int p3), .val (.int (0 : Int32)), .val (.ref d1), .val (.ref d2), .val (.ref b3), .val (.ref t1), .unset, .unset, .unset, .unset, .unset, .unset] [(.ref d1), (.ref b3)])) _
    refine st7.trans ?_
    show Steps p.tables e below (T7.setTop (mkF m 54 #[.val (.int p1), .val (.int p2), .val (.int p3), .val (.int (0 : Int32)), .val (.ref d1), .val (.ref d2), .val (.ref b3), .val (.ref t1), .unset, .unset, .unset, .unset, .unset, .unset] [(.ref b3)])) _
    refine XS.astore X7.here hx rfl (hb hby at_54) rfl rfl (l' := #[.val (.int p1), .val (.int p2), .val (.int p3), .val (.int (0 : Int32)), .val (.ref d1), .val (.ref d2), .val (.ref b3), .val (.ref t1), .val (.ref b3), .unset, .unset, .unset, .unset, .unset]) rfl ?_
    show Steps p.tables e below (T7.setTop (mkF m 56 #[.val (.int p1), .val (.int p2), .val (.int p3), .val (.int (0 : Int32)), .val (.ref d1), .val (.ref d2), .val (.ref b3), .val (.ref t1), .val (.ref b3), .unset, .unset, .unset, .unset, .unset] [])) _
    refine XS.aload X7.here hx rfl (hb hby at_56) rfl rfl ?_
    show Steps p.tables e below (T7.setTop (mkF m 58 #[.val (.int p1), .val (.int p2), .val (.int p3), .val (.int (0 : Int32)), .val (.ref d1), .val (.ref d2), .val (.ref b3), .val (.ref t1), .val (.ref b3), .unset, .unset, .unset, .unset, .unset] [(.ref b3)])) _
    refine st8.trans ?_
    show Steps p.tables e below (T8.setTop (mkF m 61 #[.val (.int p1), .val (.int p2), .val (.int p3), .val (.int (0 : Int32)), .val (.ref d1), .val (.ref d2), .val (.ref b3), .val (.ref t1), .val (.ref b3), .unset, .unset, .unset, .unset, .unset] [(.ref d1)])) _
    refine XS.astore X8.here hx rfl (hb hby at_61) rfl rfl (l' := #[.val (.int p1), .val (.int p2), .val (.int p3), .val (.int (0 : Int32)), .val (.ref d1), .val (.ref d2), .val (.ref b3), .val (.ref t1), .val (.ref b3), .val (.ref d1), .unset, .unset, .unset, .unset]) rfl ?_
    show Steps p.tables e below (T8.setTop (mkF m 63 #[.val (.int p1), .val (.int p2), .val (.int p3), .val (.int (0 : Int32)), .val (.ref d1), .val (.ref d2), .val (.ref b3), .val (.ref t1), .val (.ref b3), .val (.ref d1), .unset, .unset, .unset, .unset] [])) _
    refine XS.aload X8.here hx rfl (hb hby at_63) rfl rfl ?_
    show Steps p.tables e below (T8.setTop (mkF m 65 #[.val (.int p1), .val (.int p2), .val (.int p3), .val (.int (0 : Int32)), .val (.ref d1), .val (.ref d2), .val (.ref b3), .val (.ref t1), .val (.ref b3), .val (.ref d1), .unset, .unset, .unset, .unset] [(.ref b3)])) _
    refine XS.aload X8.here hx rfl (hb hby at_65) rfl rfl ?_
    show Steps p.tables e below (T8.setTop (mkF m 67 #[.val (.int p1), .val (.int p2), .val (.int p3), .val (.int (0 : Int32)), .val (.ref d1), .val (.ref d2), .val (.ref b3), .val (.ref t1), .val (.ref b3), .val (.ref d1), .unset, .unset, .unset, .unset] [(.ref d2), (.ref b3)])) _
    refine st9.trans ?_
    show Steps p.tables e below (T9.setTop (mkF m 70 #[.val (.int p1), .val (.int p2), .val (.int p3), .val (.int (0 : Int32)), .val (.ref d1), .val (.ref d2), .val (.ref b3), .val (.ref t1), .val (.ref b3), .val (.ref d1), .unset, .unset, .unset, .unset] [(.ref b3)])) _
    refine XS.astore X9.here hx rfl (hb hby at_70) rfl rfl (l' := #[.val (.int p1), .val (.int p2), .val (.int p3), .val (.int (0 : Int32)), .val (.ref d1), .val (.ref d2), .val (.ref b3), .val (.ref t1), .val (.ref b3), .val (.ref d1), .val (.ref b3), .unset, .unset, .unset]) rfl ?_
    show Steps p.tables e below (T9.setTop (mkF m 72 #[.val (.int p1), .val (.int p2), .val (.int p3), .val (.int (0 : Int32)), .val (.ref d1), .val (.ref d2), .val (.ref b3), .val (.ref t1), .val (.ref b3), .val (.ref d1), .val (.ref b3), .unset, .unset, .unset] [])) _
    refine XS.aload X9.here hx rfl (hb hby at_72) rfl rfl ?_
    show Steps p.tables e below (T9.setTop (mkF m 74 #[.val (.int p1), .val (.int p2), .val (.int p3), .val (.int (0 : Int32)), .val (.ref d1), .val (.ref d2), .val (.ref b3), .val (.ref t1), .val (.ref b3), .val (.ref d1), .val (.ref b3), .unset, .unset, .unset] [(.ref b3)])) _
    refine st10.trans ?_
    show Steps p.tables e below (T10.setTop (mkF m 77 #[.val (.int p1), .val (.int p2), .val (.int p3), .val (.int (0 : Int32)), .val (.ref d1), .val (.ref d2), .val (.ref b3), .val (.ref t1), .val (.ref b3), .val (.ref d1), .val (.ref b3), .unset, .unset, .unset] [(.ref d2)])) _
    refine XS.astore X10.here hx rfl (hb hby at_77) rfl rfl (l' := #[.val (.int p1), .val (.int p2), .val (.int p3), .val (.int (0 : Int32)), .val (.ref d1), .val (.ref d2), .val (.ref b3), .val (.ref t1), .val (.ref b3), .val (.ref d1), .val (.ref b3), .val (.ref d2), .unset, .unset]) rfl ?_
    show Steps p.tables e below (T10.setTop (mkF m 79 #[.val (.int p1), .val (.int p2), .val (.int p3), .val (.int (0 : Int32)), .val (.ref d1), .val (.ref d2), .val (.ref b3), .val (.ref t1), .val (.ref b3), .val (.ref d1), .val (.ref b3), .val (.ref d2), .unset, .unset] [])) _
    refine XS.aload X10.here hx rfl (hb hby at_79) rfl rfl ?_
    show Steps p.tables e below (T10.setTop (mkF m 81 #[.val (.int p1), .val (.int p2), .val (.int p3), .val (.int (0 : Int32)), .val (.ref d1), .val (.ref d2), .val (.ref b3), .val (.ref t1), .val (.ref b3), .val (.ref d1), .val (.ref b3), .val (.ref d2), .unset, .unset] [(.ref b3)])) _
    refine st11.trans ?_
    show Steps p.tables e below (T11.setTop (mkF m 84 #[.val (.int p1), .val (.int p2), .val (.int p3), .val (.int (0 : Int32)), .val (.ref d1), .val (.ref d2), .val (.ref b3), .val (.ref t1), .val (.ref b3), .val (.ref d1), .val (.ref b3), .val (.ref d2), .unset, .unset] [(.int (0 : Int32))])) _
    refine XS.istore X11.here hx rfl (hb hby at_84) rfl (l' := #[.val (.int p1), .val (.int p2), .val (.int p3), .val (.int (0 : Int32)), .val (.ref d1), .val (.ref d2), .val (.ref b3), .val (.ref t1), .val (.ref b3), .val (.ref d1), .val (.ref b3), .val (.ref d2), .val (.int (0 : Int32)), .unset]) rfl ?_
    show Steps p.tables e below (T11.setTop (mkF m 86 #[.val (.int p1), .val (.int p2), .val (.int p3), .val (.int (0 : Int32)), .val (.ref d1), .val (.ref d2), .val (.ref b3), .val (.ref t1), .val (.ref b3), .val (.ref d1), .val (.ref b3), .val (.ref d2), .val (.int (0 : Int32)), .unset] [])) _
    refine XS.aload X11.here hx rfl (hb hby at_86) rfl rfl ?_
    show Steps p.tables e below (T11.setTop (mkF m 88 #[.val (.int p1), .val (.int p2), .val (.int p3), .val (.int (0 : Int32)), .val (.ref d1), .val (.ref d2), .val (.ref b3), .val (.ref t1), .val (.ref b3), .val (.ref d1), .val (.ref b3), .val (.ref d2), .val (.int (0 : Int32)), .unset] [(.ref b3)])) _
    refine st12.trans ?_
    show Steps p.tables e below (T12.setTop (mkF m 91 #[.val (.int p1), .val (.int p2), .val (.int p3), .val (.int (0 : Int32)), .val (.ref d1), .val (.ref d2), .val (.ref b3), .val (.ref t1), .val (.ref b3), .val (.ref d1), .val (.ref b3), .val (.ref d2), .val (.int (0 : Int32)), .unset] [(.ref t1)])) _
    refine XS.astore X12.here hx rfl (hb hby at_91) rfl rfl (l' := #[.val (.int p1), .val (.int p2), .val (.int p3), .val (.int (0 : Int32)), .val (.ref d1), .val (.ref d2), .val (.ref b3), .val (.ref t1), .val (.ref b3), .val (.ref d1), .val (.ref b3), .val (.ref d2), .val (.int (0 : Int32)), .val (.ref t1)]) rfl ?_
    show Steps p.tables e below (T12.setTop (mkF m 93 #[.val (.int p1), .val (.int p2), .val (.int p3), .val (.int (0 : Int32)), .val (.ref d1), .val (.ref d2), .val (.ref b3), .val (.ref t1), .val (.ref b3), .val (.ref d1), .val (.ref b3), .val (.ref d2), .val (.int (0 : Int32)), .val (.ref t1)] [])) _
    refine XS.aload X12.here hx rfl (hb hby at_93) rfl rfl ?_
    show Steps p.tables e below (T12.setTop (mkF m 95 #[.val (.int p1), .val (.int p2), .val (.int p3), .val (.int (0 : Int32)), .val (.ref d1), .val (.ref d2), .val (.ref b3), .val (.ref t1), .val (.ref b3), .val (.ref d1), .val (.ref b3), .val (.ref d2), .val (.int (0 : Int32)), .val (.ref t1)] [(.ref b3)])) _
    refine XS.aload X12.here hx rfl (hb hby at_95) rfl rfl ?_
    show Steps p.tables e below (T12.setTop (mkF m 97 #[.val (.int p1), .val (.int p2), .val (.int p3), .val (.int (0 : Int32)), .val (.ref d1), .val (.ref d2), .val (.ref b3), .val (.ref t1), .val (.ref b3), .val (.ref d1), .val (.ref b3), .val (.ref d2), .val (.int (0 : Int32)), .val (.ref t1)] [(.ref b3), (.ref b3)])) _
    refine Jvm.RoadKit.acmp (g := (mkF m 97 #[.val (.int p1), .val (.int p2), .val (.int p3), .val (.int (0 : Int32)), .val (.ref d1), .val (.ref d2), .val (.ref b3), .val (.ref t1), .val (.ref b3), .val (.ref d1), .val (.ref b3), .val (.ref d2), .val (.int (0 : Int32)), .val (.ref t1)] [(.ref b3), (.ref b3)])) X12 hx rfl rfl rfl (pc0 := 97) (pc' := 100) (same := true) rfl (hb hby at_97) rfl (decide_eq_true rfl) (by decide) (by decide) ?_
    show Steps p.tables e below (T12.setTop (mkF m 100 #[.val (.int p1), .val (.int p2), .val (.int p3), .val (.int (0 : Int32)), .val (.ref d1), .val (.ref d2), .val (.ref b3), .val (.ref t1), .val (.ref b3), .val (.ref d1), .val (.ref b3), .val (.ref d2), .val (.int (0 : Int32)), .val (.ref t1)] [])) _
    refine XS.aload X12.here hx rfl (hb hby at_100) rfl rfl ?_
    show Steps p.tables e below (T12.setTop (mkF m 102 #[.val (.int p1), .val (.int p2), .val (.int p3), .val (.int (0 : Int32)), .val (.ref d1), .val (.ref d2), .val (.ref b3), .val (.ref t1), .val (.ref b3), .val (.ref d1), .val (.ref b3), .val (.ref d2), .val (.int (0 : Int32)), .val (.ref t1)] [(.ref b3)])) _
    refine XS.aload X12.here hx rfl (hb hby at_102) rfl rfl ?_
    show Steps p.tables e below (T12.setTop (mkF m 104 #[.val (.int p1), .val (.int p2), .val (.int p3), .val (.int (0 : Int32)), .val (.ref d1), .val (.ref d2), .val (.ref b3), .val (.ref t1), .val (.ref b3), .val (.ref d1), .val (.ref b3), .val (.ref d2), .val (.int (0 : Int32)), .val (.ref t1)] [(.ref b3), (.ref b3)])) _
    refine Jvm.RoadKit.acmp (g := (mkF m 104 #[.val (.int p1), .val (.int p2), .val (.int p3), .val (.int (0 : Int32)), .val (.ref d1), .val (.ref d2), .val (.ref b3), .val (.ref t1), .val (.ref b3), .val (.ref d1), .val (.ref b3), .val (.ref d2), .val (.int (0 : Int32)), .val (.ref t1)] [(.ref b3), (.ref b3)])) X12 hx rfl rfl rfl (pc0 := 104) (pc' := 107) (same := true) rfl (hb hby at_104) rfl (decide_eq_true rfl) (by decide) (by decide) ?_
    show Steps p.tables e below (T12.setTop (mkF m 107 #[.val (.int p1), .val (.int p2), .val (.int p3), .val (.int (0 : Int32)), .val (.ref d1), .val (.ref d2), .val (.ref b3), .val (.ref t1), .val (.ref b3), .val (.ref d1), .val (.ref b3), .val (.ref d2), .val (.int (0 : Int32)), .val (.ref t1)] [])) _
    refine XS.aload X12.here hx rfl (hb hby at_107) rfl rfl ?_
    show Steps p.tables e below (T12.setTop (mkF m 109 #[.val (.int p1), .val (.int p2), .val (.int p3), .val (.int (0 : Int32)), .val (.ref d1), .val (.ref d2), .val (.ref b3), .val (.ref t1), .val (.ref b3), .val (.ref d1), .val (.ref b3), .val (.ref d2), .val (.int (0 : Int32)), .val (.ref t1)] [(.ref d1)])) _
    refine XS.aload X12.here hx rfl (hb hby at_109) rfl rfl ?_
    show Steps p.tables e below (T12.setTop (mkF m 111 #[.val (.int p1), .val (.int p2), .val (.int p3), .val (.int (0 : Int32)), .val (.ref d1), .val (.ref d2), .val (.ref b3), .val (.ref t1), .val (.ref b3), .val (.ref d1), .val (.ref b3), .val (.ref d2), .val (.int (0 : Int32)), .val (.ref t1)] [(.ref d1), (.ref d1)])) _
    refine Jvm.RoadKit.acmp (g := (mkF m 111 #[.val (.int p1), .val (.int p2), .val (.int p3), .val (.int (0 : Int32)), .val (.ref d1), .val (.ref d2), .val (.ref b3), .val (.ref t1), .val (.ref b3), .val (.ref d1), .val (.ref b3), .val (.ref d2), .val (.int (0 : Int32)), .val (.ref t1)] [(.ref d1), (.ref d1)])) X12 hx rfl rfl rfl (pc0 := 111) (pc' := 114) (same := true) rfl (hb hby at_111) rfl (decide_eq_true rfl) (by decide) (by decide) ?_
    show Steps p.tables e below (T12.setTop (mkF m 114 #[.val (.int p1), .val (.int p2), .val (.int p3), .val (.int (0 : Int32)), .val (.ref d1), .val (.ref d2), .val (.ref b3), .val (.ref t1), .val (.ref b3), .val (.ref d1), .val (.ref b3), .val (.ref d2), .val (.int (0 : Int32)), .val (.ref t1)] [])) _
    refine XS.aload X12.here hx rfl (hb hby at_114) rfl rfl ?_
    show Steps p.tables e below (T12.setTop (mkF m 116 #[.val (.int p1), .val (.int p2), .val (.int p3), .val (.int (0 : Int32)), .val (.ref d1), .val (.ref d2), .val (.ref b3), .val (.ref t1), .val (.ref b3), .val (.ref d1), .val (.ref b3), .val (.ref d2), .val (.int (0 : Int32)), .val (.ref t1)] [(.ref d2)])) _
    refine XS.aload X12.here hx rfl (hb hby at_116) rfl rfl ?_
    show Steps p.tables e below (T12.setTop (mkF m 118 #[.val (.int p1), .val (.int p2), .val (.int p3), .val (.int (0 : Int32)), .val (.ref d1), .val (.ref d2), .val (.ref b3), .val (.ref t1), .val (.ref b3), .val (.ref d1), .val (.ref b3), .val (.ref d2), .val (.int (0 : Int32)), .val (.ref t1)] [(.ref d2), (.ref d2)])) _
    refine Jvm.RoadKit.acmp (g := (mkF m 118 #[.val (.int p1), .val (.int p2), .val (.int p3), .val (.int (0 : Int32)), .val (.ref d1), .val (.ref d2), .val (.ref b3), .val (.ref t1), .val (.ref b3), .val (.ref d1), .val (.ref b3), .val (.ref d2), .val (.int (0 : Int32)), .val (.ref t1)] [(.ref d2), (.ref d2)])) X12 hx rfl rfl rfl (pc0 := 118) (pc' := 121) (same := true) rfl (hb hby at_118) rfl (decide_eq_true rfl) (by decide) (by decide) ?_
    show Steps p.tables e below (T12.setTop (mkF m 121 #[.val (.int p1), .val (.int p2), .val (.int p3), .val (.int (0 : Int32)), .val (.ref d1), .val (.ref d2), .val (.ref b3), .val (.ref t1), .val (.ref b3), .val (.ref d1), .val (.ref b3), .val (.ref d2), .val (.int (0 : Int32)), .val (.ref t1)] [])) _
    refine XS.iload X12.here hx rfl (hb hby at_121) rfl ?_
    show Steps p.tables e below (T12.setTop (mkF m 123 #[.val (.int p1), .val (.int p2), .val (.int p3), .val (.int (0 : Int32)), .val (.ref d1), .val (.ref d2), .val (.ref b3), .val (.ref t1), .val (.ref b3), .val (.ref d1), .val (.ref b3), .val (.ref d2), .val (.int (0 : Int32)), .val (.ref t1)] [(.int (0 : Int32))])) _
    refine XS.iloadN X12.here hx rfl (hb hby at_123) rfl ?_
    show Steps p.tables e below (T12.setTop (mkF m 124 #[.val (.int p1), .val (.int p2), .val (.int p3), .val (.int (0 : Int32)), .val (.ref d1), .val (.ref d2), .val (.ref b3), .val (.ref t1), .val (.ref b3), .val (.ref d1), .val (.ref b3), .val (.ref d2), .val (.int (0 : Int32)), .val (.ref t1)] [(.int (0 : Int32)), (.int (0 : Int32))])) _
    refine XS.icmpNo X12.here hx rfl (hb hby at_124) rfl (by decide) ?_
    show Steps p.tables e below (T12.setTop (mkF m 127 #[.val (.int p1), .val (.int p2), .val (.int p3), .val (.int (0 : Int32)), .val (.ref d1), .val (.ref d2), .val (.ref b3), .val (.ref t1), .val (.ref b3), .val (.ref d1), .val (.ref b3), .val (.ref d2), .val (.int (0 : Int32)), .val (.ref t1)] [])) _
    refine XS.aload X12.here hx rfl (hb hby at_127) rfl rfl ?_
    show Steps p.tables e below (T12.setTop (mkF m 129 #[.val (.int p1), .val (.int p2), .val (.int p3), .val (.int (0 : Int32)), .val (.ref d1), .val (.ref d2), .val (.ref b3), .val (.ref t1), .val (.ref b3), .val (.ref d1), .val (.ref b3), .val (.ref d2), .val (.int (0 : Int32)), .val (.ref t1)] [(.ref t1)])) _
    refine XS.aload X12.here hx rfl (hb hby at_129) rfl rfl ?_
    show Steps p.tables e below (T12.setTop (mkF m 131 #[.val (.int p1), .val (.int p2), .val (.int p3), .val (.int (0 : Int32)), .val (.ref d1), .val (.ref d2), .val (.ref b3), .val (.ref t1), .val (.ref b3), .val (.ref d1), .val (.ref b3), .val (.ref d2), .val (.int (0 : Int32)), .val (.ref t1)] [(.ref t1), (.ref t1)])) _
    refine Jvm.RoadKit.acmp (g := (mkF m 131 #[.val (.int p1), .val (.int p2), .val (.int p3), .val (.int (0 : Int32)), .val (.ref d1), .val (.ref d2), .val (.ref b3), .val (.ref t1), .val (.ref b3), .val (.ref d1), .val (.ref b3), .val (.ref d2), .val (.int (0 : Int32)), .val (.ref t1)] [(.ref t1), (.ref t1)])) X12 hx rfl rfl rfl (pc0 := 131) (pc' := 134) (same := true) rfl (hb hby at_131) rfl (decide_eq_true rfl) (by decide) (by decide) ?_
    show Steps p.tables e below (T12.setTop (mkF m 134 #[.val (.int p1), .val (.int p2), .val (.int p3), .val (.int (0 : Int32)), .val (.ref d1), .val (.ref d2), .val (.ref b3), .val (.ref t1), .val (.ref b3), .val (.ref d1), .val (.ref b3), .val (.ref d2), .val (.int (0 : Int32)), .val (.ref t1)] [])) _
    refine XS.iconst X12.here hx rfl (hb hby at_134) ?_
    show Steps p.tables e below (T12.setTop (mkF m 135 #[.val (.int p1), .val (.int p2), .val (.int p3), .val (.int (0 : Int32)), .val (.ref d1), .val (.ref d2), .val (.ref b3), .val (.ref t1), .val (.ref b3), .val (.ref d1), .val (.ref b3), .val (.ref d2), .val (.int (0 : Int32)), .val (.ref t1)] [(.int (1 : Int32))])) _
    refine XS.goto X12.here hx rfl (pc0 := 135) (pc' := 139) rfl (hb hby at_135) (by decide) (by decide) ?_
    show Steps p.tables e below (T12.setTop (mkF m 139 #[.val (.int p1), .val (.int p2), .val (.int p3), .val (.int (0 : Int32)), .val (.ref d1), .val (.ref d2), .val (.ref b3), .val (.ref t1), .val (.ref b3), .val (.ref d1), .val (.ref b3), .val (.ref d2), .val (.int (0 : Int32)), .val (.ref t1)] [(.int (1 : Int32))])) _
    exact retN X12 hx (t := .boolean) Bd.returns (by simp) (hb hby at_139) hr
  · show own_QL h0 n0 _ T12.heap _
    rw [eh12]
    exact ⟨rfl, N12, trivial⟩
set_option maxRecDepth 65536 in
set_option maxHeartbeats 40000000 in
theorem own_law1 (l : Launch) (Z : State) (a0 : Array Value) (hw : ∀ d ∈ tables_1, d.before a0 Z = true) (ws : List Jvm.Cond) (p1 p2 p3 : Int32) (a_SYNC a_NO_SYNC : Addr) (h0 : Heap) (n0 : Nat) (Z0 : n0 ≤ h0.size) (O0 : Old Z n0 h0) (S_SYNC : Sta Z Z.heap "com/example/persimmon/persimmon/engine/Durability" "SYNC" "Lcom/example/persimmon/persimmon/engine/Durability;" (.ref a_SYNC)) (S_NO_SYNC : Sta Z Z.heap "com/example/persimmon/persimmon/engine/Durability" "NO_SYNC" "Lcom/example/persimmon/persimmon/engine/Durability;" (.ref a_NO_SYNC)) (E_SYNC : Exa Z Z.heap a_SYNC "com/example/persimmon/persimmon/engine/Durability") (E_NO_SYNC : Exa Z Z.heap a_NO_SYNC "com/example/persimmon/persimmon/engine/Durability") (hf : p3 &&& (1 : Int32) = (1 : Int32)) :
    MetFree l x (head1 (Jvm.Cond.code x code maxLocals ret :: ws) room_1) (fun a U => a = #[(.int p1), (.int p2), (.int p3)] ∧ Z.Warmed39 U.vm ∧ U.heap = h0) (fun _ _ _ _ _ => True) (fun _ U o U' => ∃ v L, o = .returned v ∧ own_QL h0 n0 v U'.heap L ∧ ReturnedEndW U o U' L room_1.cells room_1.slots) := by
  refine MetFree.of_bodySF (plainFor_of_name own_pn0) hisR ?_
  intro p e s m args below meth c s₁ Bd hml0 hP hK
  obtain ⟨rfl, hZ, hh⟩ := hP
  have hx := Bd.exec
  have hby := Bd.bytes
  have hml : c.maxLocals = 14 := hml0
  have hown : s.vm.findClass "com/example/persimmon/persimmon/engine/EnvironmentConfigSetDurabilityPinLaw" = some m.cls := findClass_of_methodNamed Bd.named
  have hnm := (name_of_methodNamed Bd.named Bd.method).1
  have X0 : Stand p l e room_1 s m #[(.int p1), (.int p2), (.int p3)] below meth c s₁ [] 0 0 := Stand.of_body Bd
  have e0 : s₁.heap = h0 := by rw [← hh, Bd.state]; rfl
  have N0 := Fr.nil n0
  have pre0 : ∀ t, Steps p.tables e below (s₁.setTop (mkF m 0 #[.val (.int p1), .val (.int p2), .val (.int p3), .unset, .unset, .unset, .unset, .unset, .unset, .unset, .unset, .unset, .unset, .unset] [])) t → Steps p.tables e below (s₁.setTop (entryFrame m #[(.int p1), (.int p2), (.int p3)] maxLocals)) t := fun t k => castTop (own_ef_code m p1 p2 p3) k
  obtain ⟨_, _, ⟨T1, L1, k1, n1⟩, -, X1, ⟨Lc1, hQ1, l1, y1, z1⟩, st1⟩ := Jvm.LawKit.callS X0 hx (y := (⟨"com/example/persimmon/persimmon/engine/EnvironmentConfigSetDurabilityPinLaw", "pick", "(I)Lcom/example/persimmon/persimmon/engine/Durability;"⟩ : MethodName)) hown (mvT hZ (hw _ (List.mem_of_getElem? (i := 0) rfl))) (mvT hZ (hw _ (List.mem_of_getElem? (i := 1) rfl))) (mvT hZ (hw _ (List.mem_of_getElem? (i := 2) rfl))) (mvT hZ (hw _ (List.mem_of_getElem? (i := 3) rfl))) (by decide) (backOf (W := 0) (own_pick l Z a0 hw [] p1 a_SYNC a_NO_SYNC h0 n0 Z0 O0 S_SYNC S_NO_SYNC E_SYNC E_NO_SYNC) hZ (hw _ (List.mem_of_getElem? (i := 3) rfl)) (hw _ (List.mem_of_getElem? (i := 2) rfl)) (by decide) (by decide)) (g := (mkF m 13 #[.val (.int p1), .val (.int p2), .val (.int p3), .val (.int (1 : Int32)), .unset, .unset, .unset, .unset, .unset, .unset, .unset, .unset, .unset, .unset] [(.int p1)])) rfl (by rw [hml]; rfl) (argsL := [(.int p1)]) (rest := []) (lenOf own_pd4 rfl) rfl (by show 2 * 0 + _ ≤ _; exact Nat.le_of_eq rfl) (hb hby at_13) (fun _ _ => ⟨rfl, e0, (by decide : 0 + 0 ≤ _), (by decide : 0 + 0 ≤ _)⟩)
  dsimp only [Pt.U, Pt.locs, Pt.cells, Pt.slots] at X1 l1 y1 z1 st1 hQ1
  subst l1 y1 z1
  obtain ⟨d1, rfl, N1q, eh1, E_d1⟩ := hQ1
  have N1 := Fr.app N0 N1q
  obtain ⟨_, _, ⟨T2, L2, k2, n2⟩, -, X2, ⟨Lc2, hQ2, l2, y2, z2⟩, st2⟩ := Jvm.LawKit.callS X1 hx (y := (⟨"com/example/persimmon/persimmon/engine/EnvironmentConfigSetDurabilityPinLaw", "pick", "(I)Lcom/example/persimmon/persimmon/engine/Durability;"⟩ : MethodName)) hown (mvT hZ (hw _ (List.mem_of_getElem? (i := 0) rfl))) (mvT hZ (hw _ (List.mem_of_getElem? (i := 1) rfl))) (mvT hZ (hw _ (List.mem_of_getElem? (i := 2) rfl))) (mvT hZ (hw _ (List.mem_of_getElem? (i := 3) rfl))) (by decide) (backOf (W := 0) (own_pick l Z a0 hw [] p2 a_SYNC a_NO_SYNC h0 n0 Z0 O0 S_SYNC S_NO_SYNC E_SYNC E_NO_SYNC) hZ (hw _ (List.mem_of_getElem? (i := 3) rfl)) (hw _ (List.mem_of_getElem? (i := 2) rfl)) (by decide) (by decide)) (g := (mkF m 19 #[.val (.int p1), .val (.int p2), .val (.int p3), .val (.int (1 : Int32)), .val (.ref d1), .unset, .unset, .unset, .unset, .unset, .unset, .unset, .unset, .unset] [(.int p2)])) rfl (by rw [hml]; rfl) (argsL := [(.int p2)]) (rest := []) (lenOf own_pd4 rfl) rfl (by show 2 * 0 + _ ≤ _; exact Nat.le_of_eq rfl) (hb hby at_19) (fun _ _ => ⟨rfl, eh1, (by decide : 0 + 0 ≤ _), (by decide : 0 + 0 ≤ _)⟩)
  dsimp only [Pt.U, Pt.locs, Pt.cells, Pt.slots] at X2 l2 y2 z2 st2 hQ2
  subst l2 y2 z2
  obtain ⟨d2, rfl, N2q, eh2, E_d2⟩ := hQ2
  have N2 := Fr.app N1 N2q
  obtain ⟨T3, h3, X3, e3, E3, A3, D3, -, st3⟩ := newO X2 hx hZ hown (hw _ (List.mem_of_getElem? (i := 9) rfl)) (hw _ (List.mem_of_getElem? (i := 10) rfl)) (hw _ (List.mem_of_getElem? (i := 11) rfl)) eh2 (g := (mkF m 24 #[.val (.int p1), .val (.int p2), .val (.int p3), .val (.int (1 : Int32)), .val (.ref d1), .val (.ref d2), .unset, .unset, .unset, .unset, .unset, .unset, .unset, .unset] [])) rfl (hb hby at_24) (by decide) (by decide)
  obtain ⟨b3, g3⟩ : ∃ z, z = h0.size := ⟨_, rfl⟩
  rw [← g3] at A3 D3 st3
  have F_d : Fld Z h3 b3 "com/example/persimmon/persimmon/engine/EnvironmentConfig" "durability" "Lcom/example/persimmon/persimmon/engine/Durability;" .null := D3 (Or.inl (hw _ (List.mem_of_getElem? (i := 20) rfl))) (ty := (.object "com/example/persimmon/persimmon/engine/Durability")) (by decide)
  have F_l : Fld Z h3 b3 "com/example/persimmon/persimmon/engine/EnvironmentConfig" "lockTimeout" "Ljava/time/Duration;" .null := D3 (Or.inl (hw _ (List.mem_of_getElem? (i := 43) rfl))) (ty := (.object "java/time/Duration")) (by decide)
  have F_a : Fld Z h3 b3 "com/example/persimmon/persimmon/engine/EnvironmentConfig" "allowCreate" "Z" (.int (0 : Int32)) := D3 (Or.inl (hw _ (List.mem_of_getElem? (i := 50) rfl))) (ty := .boolean) (by decide)
  have g_b : n0 ≤ b3 := Nat.le_trans Z0 (Nat.le_of_eq g3.symm)
  have Zn : n0 ≤ h3.size := Nat.le_trans Z0 E3.1
  have On := O0.ext E3
  have Ed1a := E_d1.ext E3
  have Ed2a := E_d2.ext E3
  obtain ⟨_, _, ⟨T4, L4, k4, n4⟩, -, X4, ⟨Lc4, hQ4, l4, y4, z4⟩, st4⟩ := X3.specialBack hx (y := (⟨"com/example/persimmon/persimmon/engine/EnvironmentConfig", "<init>", "()V"⟩ : MethodName)) rfl hown (mvT hZ (hw _ (List.mem_of_getElem? (i := 12) rfl))) (mvT hZ (hw _ (List.mem_of_getElem? (i := 13) rfl))) (mvT hZ (hw _ (List.mem_of_getElem? (i := 14) rfl))) (by decide) (backOf (W := 1) (own_ecinit l Z a0 hw [] b3 a_SYNC h3 n0 Zn On S_SYNC F_d F_l F_a A3 g_b) hZ (hw _ (List.mem_of_getElem? (i := 14) rfl)) (hw _ (List.mem_of_getElem? (i := 11) rfl)) (by decide) (by decide)) (g := (mkF m 28 #[.val (.int p1), .val (.int p2), .val (.int p3), .val (.int (1 : Int32)), .val (.ref d1), .val (.ref d2), .unset, .unset, .unset, .unset, .unset, .unset, .unset, .unset] [(.ref b3), (.ref b3)])) rfl (by rw [hml]; rfl) (Steps.refl _) (a := b3) (argsL := []) (rest := [(.ref b3)]) (lenOf own_pd5 rfl) rfl (by show 2 * 0 + _ ≤ _; exact Nat.le_of_eq rfl) (hb hby at_28) (fun _ _ => ⟨rfl, e3, (by decide : 1 + 1 ≤ _), (by decide : 3 + 2 ≤ _)⟩)
  dsimp only [Pt.U, Pt.locs, Pt.cells, Pt.slots] at X4 l4 y4 z4 st4 hQ4
  subst l4 y4 z4
  obtain ⟨rfl, N4q, Ki, Exi, Fdi, ⟨t1, Fli⟩, Fai⟩ := hQ4
  have N4 := Fr.app N2 N4q
  have Zi := Nat.le_trans Zn Ki.1
  have Ed1b := Ed1a.keep Ki
  have Ed2b := Ed2a.keep Ki
  obtain ⟨cq5, kq5, q5a, q5b, q5c⟩ := isOf hZ rfl Exi
  obtain ⟨_, _, ⟨T5, L5, k5, n5⟩, -, X5, ⟨Lc5, hQ5, l5, y5, z5⟩, st5⟩ := X4.virtualBack hx (y := (⟨"com/example/persimmon/persimmon/engine/EnvironmentConfig", "setAllowCreate", "(Z)Lcom/example/persimmon/persimmon/engine/EnvironmentConfig;"⟩ : MethodName)) (z := (⟨"com/example/persimmon/persimmon/engine/EnvironmentConfig", "setAllowCreate", "(Z)Lcom/example/persimmon/persimmon/engine/EnvironmentConfig;"⟩ : MethodName)) hown (mvT hZ (hw _ (List.mem_of_getElem? (i := 44) rfl))) (mvT hZ (hw _ (List.mem_of_getElem? (i := 45) rfl))) (notFace_of_selects (args := #[]) (mvT hZ (hw _ (List.mem_of_getElem? (i := 47) rfl)))) (mvT hZ (hw _ (List.mem_of_getElem? (i := 47) rfl))) (mvT hZ (hw _ (List.mem_of_getElem? (i := 46) rfl))) (by decide) (backOf (W := 0) (own_setA1 l Z a0 hw [] b3 a_SYNC t1 T4.heap n0 Zi Fdi Fli Fai Exi g_b) hZ (hw _ (List.mem_of_getElem? (i := 48) rfl)) (hw _ (List.mem_of_getElem? (i := 11) rfl)) (by decide) (by decide)) q5a q5c (g := (mkF m 36 #[.val (.int p1), .val (.int p2), .val (.int p3), .val (.int (1 : Int32)), .val (.ref d1), .val (.ref d2), .val (.ref b3), .unset, .unset, .unset, .unset, .unset, .unset, .unset] [(.int (1 : Int32)), (.ref b3)])) rfl (by rw [hml]; rfl) (Steps.refl _) (argsL := [(.int (1 : Int32))]) (rest := []) (lenOf own_pd6 rfl) rfl (by show 2 * 0 + _ ≤ _; exact Nat.le_of_eq rfl) (hb hby at_36) (fun _ _ => ⟨rfl, rfl, (by decide : 2 + 0 ≤ _), (by decide : 5 + 0 ≤ _)⟩)
  dsimp only [Pt.U, Pt.locs, Pt.cells, Pt.slots] at X5 l5 y5 z5 st5 hQ5
  subst l5 y5 z5
  obtain ⟨rfl, N5q, Ks, Exs, Fds, Fls, Fas⟩ := hQ5
  have N5 := Fr.app N4 N5q
  have Zs := Nat.le_trans Zi Ks.1
  have Ed1c := Ed1b.keep Ks
  have Ed2c := Ed2b.keep Ks
  obtain ⟨cq6, kq6, q6a, q6b, q6c⟩ := isOf hZ rfl Exs
  obtain ⟨_, _, ⟨T6, L6, k6, n6⟩, -, X6, ⟨Lc6, hQ6, l6, y6, z6⟩, st6⟩ := X5.virtualBack hx (y := (⟨"com/example/persimmon/persimmon/engine/EnvironmentConfig", "getLockTimeout", "()Ljava/time/Duration;"⟩ : MethodName)) (z := (⟨"com/example/persimmon/persimmon/engine/EnvironmentConfig", "getLockTimeout", "()Ljava/time/Duration;"⟩ : MethodName)) hown (mvT hZ (hw _ (List.mem_of_getElem? (i := 51) rfl))) (mvT hZ (hw _ (List.mem_of_getElem? (i := 52) rfl))) (notFace_of_selects (args := #[]) (mvT hZ (hw _ (List.mem_of_getElem? (i := 54) rfl)))) (mvT hZ (hw _ (List.mem_of_getElem? (i := 54) rfl))) (mvT hZ (hw _ (List.mem_of_getElem? (i := 53) rfl))) (by decide) (backOf (W := 0) (own_getL l Z a0 hw [] b3 t1 T5.heap n0 Zs Fls) hZ (hw _ (List.mem_of_getElem? (i := 55) rfl)) (hw _ (List.mem_of_getElem? (i := 11) rfl)) (by decide) (by decide)) q6a q6c (g := (mkF m 42 #[.val (.int p1), .val (.int p2), .val (.int p3), .val (.int (1 : Int32)), .val (.ref d1), .val (.ref d2), .val (.ref b3), .unset, .unset, .unset, .unset, .unset, .unset, .unset] [(.ref b3)])) rfl (by rw [hml]; rfl) (Steps.refl _) (argsL := []) (rest := []) (lenOf own_pd7 rfl) rfl (by show 2 * 0 + _ ≤ _; exact Nat.le_of_eq rfl) (hb hby at_42) (fun _ _ => ⟨rfl, rfl, (by decide : 2 + 0 ≤ _), (by decide : 5 + 0 ≤ _)⟩)
  dsimp only [Pt.U, Pt.locs, Pt.cells, Pt.slots] at X6 l6 y6 z6 st6 hQ6
  subst l6 y6 z6
  obtain ⟨rfl, N6q, eh6⟩ := hQ6
  have N6 := Fr.app N5 N6q
  obtain ⟨cq7, kq7, q7a, q7b, q7c⟩ := isOf hZ eh6 Exs
  obtain ⟨_, _, ⟨T7, L7, k7, n7⟩, -, Y7, hs7, hg7, ⟨Lc7, hQ7, l7, y7, z7⟩, st7⟩ := X6.virtualBackS hx (y := (⟨"com/example/persimmon/persimmon/engine/EnvironmentConfig", "setDurability", "(Lcom/example/persimmon/persimmon/engine/Durability;)Lcom/example/persimmon/persimmon/engine/EnvironmentConfig;"⟩ : MethodName)) (z := (⟨"com/example/persimmon/persimmon/engine/EnvironmentConfig", "setDurability", "(Lcom/example/persimmon/persimmon/engine/Durability;)Lcom/example/persimmon/persimmon/engine/EnvironmentConfig;"⟩ : MethodName)) hown (mvT hZ (hw _ (List.mem_of_getElem? (i := 56) rfl))) (mvT hZ (hw _ (List.mem_of_getElem? (i := 57) rfl))) (notFace_of_selects (args := #[]) (mvT hZ (hw _ (List.mem_of_getElem? (i := 59) rfl)))) (mvT hZ (hw _ (List.mem_of_getElem? (i := 59) rfl))) (mvT hZ (hw _ (List.mem_of_getElem? (i := 58) rfl))) (by decide) (backOfS (W := 0) (own_setD l Z a0 hw [] b3 a_SYNC d1 t1 (1 : Int32) T5.heap n0 Zs Fds Fls Fas Exs Ed1c g_b) hZ (hw _ (List.mem_of_getElem? (i := 60) rfl)) (hw _ (List.mem_of_getElem? (i := 11) rfl)) (by decide) (by decide)) q7a q7c (g := (mkF m 51 #[.val (.int p1), .val (.int p2), .val (.int p3), .val (.int (1 : Int32)), .val (.ref d1), .val (.ref d2), .val (.ref b3), .val (.ref t1), .unset, .unset, .unset, .unset, .unset, .unset] [(.ref d1), (.ref b3)])) rfl (by rw [hml]; rfl) (Steps.refl _) (argsL := [(.ref d1)]) (rest := []) (lenOf own_pd8 rfl) rfl (by show 2 * 0 + _ ≤ _; exact Nat.le_of_eq rfl) (hb hby at_51) (fun _ _ => ⟨rfl, eh6, (by decide : 2 + 2 ≤ _), (by decide : 5 + 44 ≤ _)⟩)
  dsimp only [Pt.U, Pt.locs, Pt.cells, Pt.slots] at Y7 l7 y7 z7 st7 hQ7 hs7 hg7
  subst l7 y7 z7
  obtain ⟨rfl, N7q, Ku, Exu, Fdu, Flu, Fau⟩ := hQ7
  have N7 := Fr.app N6 N7q
  obtain ⟨X7, hS7, hZ7, hown7⟩ := rebS (s := s) (vm0 := s.vm) (vm1 := T7.vm) (own_since s 0) (Nat.zero_le _) Y7 hs7 hg7 hZ hown
  have Zu := Nat.le_trans Zs Ku.1
  have Ed2d := Ed2c.keep Ku
  obtain ⟨cq8, kq8, q8a, q8b, q8c⟩ := isOf hZ7 rfl Exu
  obtain ⟨_, _, ⟨T8, L8, k8, n8⟩, -, X8, ⟨Lc8, hQ8, l8, y8, z8⟩, st8⟩ := X7.virtualBack hx (y := (⟨"com/example/persimmon/persimmon/engine/EnvironmentConfig", "getDurability", "()Lcom/example/persimmon/persimmon/engine/Durability;"⟩ : MethodName)) (z := (⟨"com/example/persimmon/persimmon/engine/EnvironmentConfig", "getDurability", "()Lcom/example/persimmon/persimmon/engine/Durability;"⟩ : MethodName)) hown7 (mvT hZ7 (hw _ (List.mem_of_getElem? (i := 75) rfl))) (mvT hZ7 (hw _ (List.mem_of_getElem? (i := 76) rfl))) (notFace_of_selects (args := #[]) (mvT hZ7 (hw _ (List.mem_of_getElem? (i := 78) rfl)))) (mvT hZ7 (hw _ (List.mem_of_getElem? (i := 78) rfl))) (mvT hZ7 (hw _ (List.mem_of_getElem? (i := 77) rfl))) (by decide) (backOf (W := 0) (own_getD l Z a0 hw [] b3 d1 T7.heap n0 Zu Fdu) hZ7 (hw _ (List.mem_of_getElem? (i := 79) rfl)) (hw _ (List.mem_of_getElem? (i := 11) rfl)) (by decide) (by decide)) q8a q8c (g := (mkF m 58 #[.val (.int p1), .val (.int p2), .val (.int p3), .val (.int (1 : Int32)), .val (.ref d1), .val (.ref d2), .val (.ref b3), .val (.ref t1), .val (.ref b3), .unset, .unset, .unset, .unset, .unset] [(.ref b3)])) rfl (by rw [hml]; rfl) (Steps.refl _) (argsL := []) (rest := []) (lenOf own_pd9 rfl) rfl (by show 2 * 0 + _ ≤ _; exact Nat.le_of_eq rfl) (hb hby at_58) (fun _ _ => ⟨rfl, rfl, (by decide : 4 + 0 ≤ _), (by decide : 49 + 0 ≤ _)⟩)
  dsimp only [Pt.U, Pt.locs, Pt.cells, Pt.slots] at X8 l8 y8 z8 st8 hQ8
  subst l8 y8 z8
  obtain ⟨rfl, N8q, eh8⟩ := hQ8
  have N8 := Fr.app N7 N8q
  obtain ⟨cq9, kq9, q9a, q9b, q9c⟩ := isOf hZ7 eh8 Exu
  obtain ⟨_, _, ⟨T9, L9, k9, n9⟩, -, Y9, hs9, hg9, ⟨Lc9, hQ9, l9, y9, z9⟩, st9⟩ := X8.virtualBackS hx (y := (⟨"com/example/persimmon/persimmon/engine/EnvironmentConfig", "setDurability", "(Lcom/example/persimmon/persimmon/engine/Durability;)Lcom/example/persimmon/persimmon/engine/EnvironmentConfig;"⟩ : MethodName)) (z := (⟨"com/example/persimmon/persimmon/engine/EnvironmentConfig", "setDurability", "(Lcom/example/persimmon/persimmon/engine/Durability;)Lcom/example/persimmon/persimmon/engine/EnvironmentConfig;"⟩ : MethodName)) hown7 (mvT hZ7 (hw _ (List.mem_of_getElem? (i := 56) rfl))) (mvT hZ7 (hw _ (List.mem_of_getElem? (i := 57) rfl))) (notFace_of_selects (args := #[]) (mvT hZ7 (hw _ (List.mem_of_getElem? (i := 59) rfl)))) (mvT hZ7 (hw _ (List.mem_of_getElem? (i := 59) rfl))) (mvT hZ7 (hw _ (List.mem_of_getElem? (i := 58) rfl))) (by decide) (backOfS (W := 0) (own_setD l Z a0 hw [] b3 d1 d2 t1 (1 : Int32) T7.heap n0 Zu Fdu Flu Fau Exu Ed2d g_b) hZ7 (hw _ (List.mem_of_getElem? (i := 60) rfl)) (hw _ (List.mem_of_getElem? (i := 11) rfl)) (by decide) (by decide)) q9a q9c (g := (mkF m 67 #[.val (.int p1), .val (.int p2), .val (.int p3), .val (.int (1 : Int32)), .val (.ref d1), .val (.ref d2), .val (.ref b3), .val (.ref t1), .val (.ref b3), .val (.ref d1), .unset, .unset, .unset, .unset] [(.ref d2), (.ref b3)])) rfl (by rw [hml]; rfl) (Steps.refl _) (argsL := [(.ref d2)]) (rest := []) (lenOf own_pd8 rfl) rfl (by show 2 * 0 + _ ≤ _; exact Nat.le_of_eq rfl) (hb hby at_67) (fun _ _ => ⟨rfl, eh8, (by decide : 4 + 2 ≤ _), (by decide : 49 + 44 ≤ _)⟩)
  dsimp only [Pt.U, Pt.locs, Pt.cells, Pt.slots] at Y9 l9 y9 z9 st9 hQ9 hs9 hg9
  subst l9 y9 z9
  obtain ⟨rfl, N9q, Kv, Exv, Fdv, Flv, Fav⟩ := hQ9
  have N9 := Fr.app N8 N9q
  obtain ⟨X9, hS9, hZ9, hown9⟩ := rebS (s := s) (vm0 := T7.vm) (vm1 := T9.vm) hS7 (Nat.le_of_eq (congrArg Array.size eh8.symm)) Y9 hs9 hg9 hZ7 hown7
  have Zv := Nat.le_trans Zu Kv.1
  obtain ⟨cq10, kq10, q10a, q10b, q10c⟩ := isOf hZ9 rfl Exv
  obtain ⟨_, _, ⟨T10, L10, k10, n10⟩, -, X10, ⟨Lc10, hQ10, l10, y10, z10⟩, st10⟩ := X9.virtualBack hx (y := (⟨"com/example/persimmon/persimmon/engine/EnvironmentConfig", "getDurability", "()Lcom/example/persimmon/persimmon/engine/Durability;"⟩ : MethodName)) (z := (⟨"com/example/persimmon/persimmon/engine/EnvironmentConfig", "getDurability", "()Lcom/example/persimmon/persimmon/engine/Durability;"⟩ : MethodName)) hown9 (mvT hZ9 (hw _ (List.mem_of_getElem? (i := 75) rfl))) (mvT hZ9 (hw _ (List.mem_of_getElem? (i := 76) rfl))) (notFace_of_selects (args := #[]) (mvT hZ9 (hw _ (List.mem_of_getElem? (i := 78) rfl)))) (mvT hZ9 (hw _ (List.mem_of_getElem? (i := 78) rfl))) (mvT hZ9 (hw _ (List.mem_of_getElem? (i := 77) rfl))) (by decide) (backOf (W := 0) (own_getD l Z a0 hw [] b3 d2 T9.heap n0 Zv Fdv) hZ9 (hw _ (List.mem_of_getElem? (i := 79) rfl)) (hw _ (List.mem_of_getElem? (i := 11) rfl)) (by decide) (by decide)) q10a q10c (g := (mkF m 74 #[.val (.int p1), .val (.int p2), .val (.int p3), .val (.int (1 : Int32)), .val (.ref d1), .val (.ref d2), .val (.ref b3), .val (.ref t1), .val (.ref b3), .val (.ref d1), .val (.ref b3), .unset, .unset, .unset] [(.ref b3)])) rfl (by rw [hml]; rfl) (Steps.refl _) (argsL := []) (rest := []) (lenOf own_pd9 rfl) rfl (by show 2 * 0 + _ ≤ _; exact Nat.le_of_eq rfl) (hb hby at_74) (fun _ _ => ⟨rfl, rfl, (by decide : 6 + 0 ≤ _), (by decide : 93 + 0 ≤ _)⟩)
  dsimp only [Pt.U, Pt.locs, Pt.cells, Pt.slots] at X10 l10 y10 z10 st10 hQ10
  subst l10 y10 z10
  obtain ⟨rfl, N10q, eh10⟩ := hQ10
  have N10 := Fr.app N9 N10q
  obtain ⟨cq11, kq11, q11a, q11b, q11c⟩ := isOf hZ9 eh10 Exv
  obtain ⟨_, _, ⟨T11, L11, k11, n11⟩, -, X11, ⟨Lc11, hQ11, l11, y11, z11⟩, st11⟩ := X10.virtualBack hx (y := (⟨"com/example/persimmon/persimmon/engine/EnvironmentConfig", "getAllowCreate", "()Z"⟩ : MethodName)) (z := (⟨"com/example/persimmon/persimmon/engine/EnvironmentConfig", "getAllowCreate", "()Z"⟩ : MethodName)) hown9 (mvT hZ9 (hw _ (List.mem_of_getElem? (i := 80) rfl))) (mvT hZ9 (hw _ (List.mem_of_getElem? (i := 81) rfl))) (notFace_of_selects (args := #[]) (mvT hZ9 (hw _ (List.mem_of_getElem? (i := 83) rfl)))) (mvT hZ9 (hw _ (List.mem_of_getElem? (i := 83) rfl))) (mvT hZ9 (hw _ (List.mem_of_getElem? (i := 82) rfl))) (by decide) (backOf (W := 0) (own_getA1 l Z a0 hw [] b3 T9.heap n0 Zv Fav) hZ9 (hw _ (List.mem_of_getElem? (i := 84) rfl)) (hw _ (List.mem_of_getElem? (i := 11) rfl)) (by decide) (by decide)) q11a q11c (g := (mkF m 81 #[.val (.int p1), .val (.int p2), .val (.int p3), .val (.int (1 : Int32)), .val (.ref d1), .val (.ref d2), .val (.ref b3), .val (.ref t1), .val (.ref b3), .val (.ref d1), .val (.ref b3), .val (.ref d2), .unset, .unset] [(.ref b3)])) rfl (by rw [hml]; rfl) (Steps.refl _) (argsL := []) (rest := []) (lenOf own_pd10 rfl) rfl (by show 2 * 0 + _ ≤ _; exact Nat.le_of_eq rfl) (hb hby at_81) (fun _ _ => ⟨rfl, eh10, (by decide : 6 + 0 ≤ _), (by decide : 93 + 0 ≤ _)⟩)
  dsimp only [Pt.U, Pt.locs, Pt.cells, Pt.slots] at X11 l11 y11 z11 st11 hQ11
  subst l11 y11 z11
  obtain ⟨rfl, N11q, eh11⟩ := hQ11
  have N11 := Fr.app N10 N11q
  obtain ⟨cq12, kq12, q12a, q12b, q12c⟩ := isOf hZ9 eh11 Exv
  obtain ⟨_, _, ⟨T12, L12, k12, n12⟩, -, X12, ⟨Lc12, hQ12, l12, y12, z12⟩, st12⟩ := X11.virtualBack hx (y := (⟨"com/example/persimmon/persimmon/engine/EnvironmentConfig", "getLockTimeout", "()Ljava/time/Duration;"⟩ : MethodName)) (z := (⟨"com/example/persimmon/persimmon/engine/EnvironmentConfig", "getLockTimeout", "()Ljava/time/Duration;"⟩ : MethodName)) hown9 (mvT hZ9 (hw _ (List.mem_of_getElem? (i := 51) rfl))) (mvT hZ9 (hw _ (List.mem_of_getElem? (i := 52) rfl))) (notFace_of_selects (args := #[]) (mvT hZ9 (hw _ (List.mem_of_getElem? (i := 54) rfl)))) (mvT hZ9 (hw _ (List.mem_of_getElem? (i := 54) rfl))) (mvT hZ9 (hw _ (List.mem_of_getElem? (i := 53) rfl))) (by decide) (backOf (W := 0) (own_getL l Z a0 hw [] b3 t1 T9.heap n0 Zv Flv) hZ9 (hw _ (List.mem_of_getElem? (i := 55) rfl)) (hw _ (List.mem_of_getElem? (i := 11) rfl)) (by decide) (by decide)) q12a q12c (g := (mkF m 88 #[.val (.int p1), .val (.int p2), .val (.int p3), .val (.int (1 : Int32)), .val (.ref d1), .val (.ref d2), .val (.ref b3), .val (.ref t1), .val (.ref b3), .val (.ref d1), .val (.ref b3), .val (.ref d2), .val (.int (1 : Int32)), .unset] [(.ref b3)])) rfl (by rw [hml]; rfl) (Steps.refl _) (argsL := []) (rest := []) (lenOf own_pd7 rfl) rfl (by show 2 * 0 + _ ≤ _; exact Nat.le_of_eq rfl) (hb hby at_88) (fun _ _ => ⟨rfl, eh11, (by decide : 6 + 0 ≤ _), (by decide : 93 + 0 ≤ _)⟩)
  dsimp only [Pt.U, Pt.locs, Pt.cells, Pt.slots] at X12 l12 y12 z12 st12 hQ12
  subst l12 y12 z12
  obtain ⟨rfl, N12q, eh12⟩ := hQ12
  have N12 := Fr.app N11 N12q
  obtain ⟨fs, hr, hrun, hended, -, hW9, hWb, hsame⟩ := X12.leaveW hS9 (Nat.le_of_eq (congrArg Array.size eh12.symm)) (v := some (.int (1 : Int32))) (fun h => by rw [Bd.returns] at h; cases h)
  refine ⟨_, _, pre0 _ ?_, hrun, hended, _, _, rfl, ?_, ⟨_, rfl⟩, hW9, hWb, hsame.mono (by decide) (by decide)⟩
  · show Steps p.tables e below (s₁.setTop (mkF m 0 #[.val (.int p1), .val (.int p2), .val (.int p3), .unset, .unset, .unset, .unset, .unset, .unset, .unset, .unset, .unset, .unset, .unset] [])) _
    refine XS.iloadN X0.here hx rfl (hb hby at_0) rfl ?_
    show Steps p.tables e below (s₁.setTop (mkF m 1 #[.val (.int p1), .val (.int p2), .val (.int p3), .unset, .unset, .unset, .unset, .unset, .unset, .unset, .unset, .unset, .unset, .unset] [(.int p3)])) _
    refine XS.iconst X0.here hx rfl (hb hby at_1) ?_
    show Steps p.tables e below (s₁.setTop (mkF m 2 #[.val (.int p1), .val (.int p2), .val (.int p3), .unset, .unset, .unset, .unset, .unset, .unset, .unset, .unset, .unset, .unset, .unset] [(.int (1 : Int32)), (.int p3)])) _
    refine XS.iand X0.here hx rfl (hb hby at_2) rfl ?_
    show Steps p.tables e below (s₁.setTop (mkF m 3 #[.val (.int p1), .val (.int p2), .val (.int p3), .unset, .unset, .unset, .unset, .unset, .unset, .unset, .unset, .unset, .unset, .unset] [(.int (p3 &&& (1 : Int32)))])) _
    rw [hf]
    show Steps p.tables e below (s₁.setTop (mkF m 3 #[.val (.int p1), .val (.int p2), .val (.int p3), .unset, .unset, .unset, .unset, .unset, .unset, .unset, .unset, .unset, .unset, .unset] [(.int (1 : Int32))])) _
    refine XS.ifNo X0.here hx rfl (hb hby at_3) rfl (by decide) ?_
    show Steps p.tables e below (s₁.setTop (mkF m 6 #[.val (.int p1), .val (.int p2), .val (.int p3), .unset, .unset, .unset, .unset, .unset, .unset, .unset, .unset, .unset, .unset, .unset] [])) _
    refine XS.iconst X0.here hx rfl (hb hby at_6) ?_
    show Steps p.tables e below (s₁.setTop (mkF m 7 #[.val (.int p1), .val (.int p2), .val (.int p3), .unset, .unset, .unset, .unset, .unset, .unset, .unset, .unset, .unset, .unset, .unset] [(.int (1 : Int32))])) _
    refine XS.goto X0.here hx rfl (pc0 := 7) (pc' := 11) rfl (hb hby at_7) (by decide) (by decide) ?_
    show Steps p.tables e below (s₁.setTop (mkF m 11 #[.val (.int p1), .val (.int p2), .val (.int p3), .unset, .unset, .unset, .unset, .unset, .unset, .unset, .unset, .unset, .unset, .unset] [(.int (1 : Int32))])) _
    refine XS.istoreN X0.here hx rfl (hb hby at_11) rfl (l' := #[.val (.int p1), .val (.int p2), .val (.int p3), .val (.int (1 : Int32)), .unset, .unset, .unset, .unset, .unset, .unset, .unset, .unset, .unset, .unset]) rfl ?_
    show Steps p.tables e below (s₁.setTop (mkF m 12 #[.val (.int p1), .val (.int p2), .val (.int p3), .val (.int (1 : Int32)), .unset, .unset, .unset, .unset, .unset, .unset, .unset, .unset, .unset, .unset] [])) _
    refine XS.iloadN X0.here hx rfl (hb hby at_12) rfl ?_
    show Steps p.tables e below (s₁.setTop (mkF m 13 #[.val (.int p1), .val (.int p2), .val (.int p3), .val (.int (1 : Int32)), .unset, .unset, .unset, .unset, .unset, .unset, .unset, .unset, .unset, .unset] [(.int p1)])) _
    refine st1 _ ?_
    show Steps p.tables e below (T1.setTop (mkF m 16 #[.val (.int p1), .val (.int p2), .val (.int p3), .val (.int (1 : Int32)), .unset, .unset, .unset, .unset, .unset, .unset, .unset, .unset, .unset, .unset] [(.ref d1)])) _
    refine XS.astore X1.here hx rfl (hb hby at_16) rfl rfl (l' := #[.val (.int p1), .val (.int p2), .val (.int p3), .val (.int (1 : Int32)), .val (.ref d1), .unset, .unset, .unset, .unset, .unset, .unset, .unset, .unset, .unset]) rfl ?_
    show Steps p.tables e below (T1.setTop (mkF m 18 #[.val (.int p1), .val (.int p2), .val (.int p3), .val (.int (1 : Int32)), .val (.ref d1), .unset, .unset, .unset, .unset, .unset, .unset, .unset, .unset, .unset] [])) _
    refine XS.iloadN X1.here hx rfl (hb hby at_18) rfl ?_
    show Steps p.tables e below (T1.setTop (mkF m 19 #[.val (.int p1), .val (.int p2), .val (.int p3), .val (.int (1 : Int32)), .val (.ref d1), .unset, .unset, .unset, .unset, .unset, .unset, .unset, .unset, .unset] [(.int p2)])) _
    refine st2 _ ?_
    show Steps p.tables e below (T2.setTop (mkF m 22 #[.val (.int p1), .val (.int p2), .val (.int p3), .val (.int (1 : Int32)), .val (.ref d1), .unset, .unset, .unset, .unset, .unset, .unset, .unset, .unset, .unset] [(.ref d2)])) _
    refine XS.astore X2.here hx rfl (hb hby at_22) rfl rfl (l' := #[.val (.int p1), .val (.int p2), .val (.int p3), .val (.int (1 : Int32)), .val (.ref d1), .val (.ref d2), .unset, .unset, .unset, .unset, .unset, .unset, .unset, .unset]) rfl ?_
    show Steps p.tables e below (T2.setTop (mkF m 24 #[.val (.int p1), .val (.int p2), .val (.int p3), .val (.int (1 : Int32)), .val (.ref d1), .val (.ref d2), .unset, .unset, .unset, .unset, .unset, .unset, .unset, .unset] [])) _
    refine st3 _ ?_
    show Steps p.tables e below (T3.setTop (mkF m 27 #[.val (.int p1), .val (.int p2), .val (.int p3), .val (.int (1 : Int32)), .val (.ref d1), .val (.ref d2), .unset, .unset, .unset, .unset, .unset, .unset, .unset, .unset] [(.ref b3)])) _
    refine XS.dup X3.here hx rfl (hb hby at_27) rfl rfl ?_
    show Steps p.tables e below (T3.setTop (mkF m 28 #[.val (.int p1), .val (.int p2), .val (.int p3), .val (.int (1 : Int32)), .val (.ref d1), .val (.ref d2), .unset, .unset, .unset, .unset, .unset, .unset, .unset, .unset] [(.ref b3), (.ref b3)])) _
    refine st4.trans ?_
    show Steps p.tables e below (T4.setTop (mkF m 31 #[.val (.int p1), .val (.int p2), .val (.int p3), .val (.int (1 : Int32)), .val (.ref d1), .val (.ref d2), .unset, .unset, .unset, .unset, .unset, .unset, .unset, .unset] [(.ref b3)])) _
    refine XS.astore X4.here hx rfl (hb hby at_31) rfl rfl (l' := #[.val (.int p1), .val (.int p2), .val (.int p3), .val (.int (1 : Int32)), .val (.ref d1), .val (.ref d2), .val (.ref b3), .unset, .unset, .unset, .unset, .unset, .unset, .unset]) rfl ?_
    show Steps p.tables e below (T4.setTop (mkF m 33 #[.val (.int p1), .val (.int p2), .val (.int p3), .val (.int (1 : Int32)), .val (.ref d1), .val (.ref d2), .val (.ref b3), .unset, .unset, .unset, .unset, .unset, .unset, .unset] [])) _
    refine XS.aload X4.here hx rfl (hb hby at_33) rfl rfl ?_
    show Steps p.tables e below (T4.setTop (mkF m 35 #[.val (.int p1), .val (.int p2), .val (.int p3), .val (.int (1 : Int32)), .val (.ref d1), .val (.ref d2), .val (.ref b3), .unset, .unset, .unset, .unset, .unset, .unset, .unset] [(.ref b3)])) _
    refine XS.iloadN X4.here hx rfl (hb hby at_35) rfl ?_
    show Steps p.tables e below (T4.setTop (mkF m 36 #[.val (.int p1), .val (.int p2), .val (.int p3), .val (.int (1 : Int32)), .val (.ref d1), .val (.ref d2), .val (.ref b3), .unset, .unset, .unset, .unset, .unset, .unset, .unset] [(.int (1 : Int32)), (.ref b3)])) _
    refine st5.trans ?_
    show Steps p.tables e below (T5.setTop (mkF m 39 #[.val (.int p1), .val (.int p2), .val (.int p3), .val (.int (1 : Int32)), .val (.ref d1), .val (.ref d2), .val (.ref b3), .unset, .unset, .unset, .unset, .unset, .unset, .unset] [(.ref b3)])) _
    refine XS.pop X5.here hx rfl (hb hby at_39) rfl rfl ?_
    show Steps p.tables e below (T5.setTop (mkF m 40 #[.val (.int p1), .val (.int p2), .val (.int p3), .val (.int (1 : Int32)), .val (.ref d1), .val (.ref d2), .val (.ref b3), .unset, .unset, .unset, .unset, .unset, .unset, .unset] [])) _
    refine XS.aload X5.here hx rfl (hb hby at_40) rfl rfl ?_
    show Steps p.tables e below (T5.setTop (mkF m 42 #[.val (.int p1), .val (.int p2), .val (.int p3), .val (.int (1 : Int32)), .val (.ref d1), .val (.ref d2), .val (.ref b3), .unset, .unset, .unset, .unset, .unset, .unset, .unset] [(.ref b3)])) _
    refine st6.trans ?_
    show Steps p.tables e below (T6.setTop (mkF m 45 #[.val (.int p1), .val (.int p2), .val (.int p3), .val (.int (1 : Int32)), .val (.ref d1), .val (.ref d2), .val (.ref b3), .unset, .unset, .unset, .unset, .unset, .unset, .unset] [(.ref t1)])) _
    refine XS.astore X6.here hx rfl (hb hby at_45) rfl rfl (l' := #[.val (.int p1), .val (.int p2), .val (.int p3), .val (.int (1 : Int32)), .val (.ref d1), .val (.ref d2), .val (.ref b3), .val (.ref t1), .unset, .unset, .unset, .unset, .unset, .unset]) rfl ?_
    show Steps p.tables e below (T6.setTop (mkF m 47 #[.val (.int p1), .val (.int p2), .val (.int p3), .val (.int (1 : Int32)), .val (.ref d1), .val (.ref d2), .val (.ref b3), .val (.ref t1), .unset, .unset, .unset, .unset, .unset, .unset] [])) _
    refine XS.aload X6.here hx rfl (hb hby at_47) rfl rfl ?_
    show Steps p.tables e below (T6.setTop (mkF m 49 #[.val (.int p1), .val (.int p2), .val (.int p3), .val (.int (1 : Int32)), .val (.ref d1), .val (.ref d2), .val (.ref b3), .val (.ref t1), .unset, .unset, .unset, .unset, .unset, .unset] [(.ref b3)])) _
    refine XS.aload X6.here hx rfl (hb hby at_49) rfl rfl ?_
    show Steps p.tables e below (T6.setTop (mkF m 51 #[.val (.int p1), .val (.int p2), .val (.int p3), .val (.int (1 : Int32)), .val (.ref d1), .val (.ref d2), .val (.ref b3), .val (.ref t1), .unset, .unset, .unset, .unset, .unset, .unset] [(.ref d1), (.ref b3)])) _
    refine st7.trans ?_
    show Steps p.tables e below (T7.setTop (mkF m 54 #[.val (.int p1), .val (.int p2), .val (.int p3), .val (.int (1 : Int32)), .val (.ref d1), .val (.ref d2), .val (.ref b3), .val (.ref t1), .unset, .unset, .unset, .unset, .unset, .unset] [(.ref b3)])) _
    refine XS.astore X7.here hx rfl (hb hby at_54) rfl rfl (l' := #[.val (.int p1), .val (.int p2), .val (.int p3), .val (.int (1 : Int32)), .val (.ref d1), .val (.ref d2), .val (.ref b3), .val (.ref t1), .val (.ref b3), .unset, .unset, .unset, .unset, .unset]) rfl ?_
    show Steps p.tables e below (T7.setTop (mkF m 56 #[.val (.int p1), .val (.int p2), .val (.int p3), .val (.int (1 : Int32)), .val (.ref d1), .val (.ref d2), .val (.ref b3), .val (.ref t1), .val (.ref b3), .unset, .unset, .unset, .unset, .unset] [])) _
    refine XS.aload X7.here hx rfl (hb hby at_56) rfl rfl ?_
    show Steps p.tables e below (T7.setTop (mkF m 58 #[.val (.int p1), .val (.int p2), .val (.int p3), .val (.int (1 : Int32)), .val (.ref d1), .val (.ref d2), .val (.ref b3), .val (.ref t1), .val (.ref b3), .unset, .unset, .unset, .unset, .unset] [(.ref b3)])) _
    refine st8.trans ?_
    show Steps p.tables e below (T8.setTop (mkF m 61 #[.val (.int p1), .val (.int p2), .val (.int p3), .val (.int (1 : Int32)), .val (.ref d1), .val (.ref d2), .val (.ref b3), .val (.ref t1), .val (.ref b3), .unset, .unset, .unset, .unset, .unset] [(.ref d1)])) _
    refine XS.astore X8.here hx rfl (hb hby at_61) rfl rfl (l' := #[.val (.int p1), .val (.int p2), .val (.int p3), .val (.int (1 : Int32)), .val (.ref d1), .val (.ref d2), .val (.ref b3), .val (.ref t1), .val (.ref b3), .val (.ref d1), .unset, .unset, .unset, .unset]) rfl ?_
    show Steps p.tables e below (T8.setTop (mkF m 63 #[.val (.int p1), .val (.int p2), .val (.int p3), .val (.int (1 : Int32)), .val (.ref d1), .val (.ref d2), .val (.ref b3), .val (.ref t1), .val (.ref b3), .val (.ref d1), .unset, .unset, .unset, .unset] [])) _
    refine XS.aload X8.here hx rfl (hb hby at_63) rfl rfl ?_
    show Steps p.tables e below (T8.setTop (mkF m 65 #[.val (.int p1), .val (.int p2), .val (.int p3), .val (.int (1 : Int32)), .val (.ref d1), .val (.ref d2), .val (.ref b3), .val (.ref t1), .val (.ref b3), .val (.ref d1), .unset, .unset, .unset, .unset] [(.ref b3)])) _
    refine XS.aload X8.here hx rfl (hb hby at_65) rfl rfl ?_
    show Steps p.tables e below (T8.setTop (mkF m 67 #[.val (.int p1), .val (.int p2), .val (.int p3), .val (.int (1 : Int32)), .val (.ref d1), .val (.ref d2), .val (.ref b3), .val (.ref t1), .val (.ref b3), .val (.ref d1), .unset, .unset, .unset, .unset] [(.ref d2), (.ref b3)])) _
    refine st9.trans ?_
    show Steps p.tables e below (T9.setTop (mkF m 70 #[.val (.int p1), .val (.int p2), .val (.int p3), .val (.int (1 : Int32)), .val (.ref d1), .val (.ref d2), .val (.ref b3), .val (.ref t1), .val (.ref b3), .val (.ref d1), .unset, .unset, .unset, .unset] [(.ref b3)])) _
    refine XS.astore X9.here hx rfl (hb hby at_70) rfl rfl (l' := #[.val (.int p1), .val (.int p2), .val (.int p3), .val (.int (1 : Int32)), .val (.ref d1), .val (.ref d2), .val (.ref b3), .val (.ref t1), .val (.ref b3), .val (.ref d1), .val (.ref b3), .unset, .unset, .unset]) rfl ?_
    show Steps p.tables e below (T9.setTop (mkF m 72 #[.val (.int p1), .val (.int p2), .val (.int p3), .val (.int (1 : Int32)), .val (.ref d1), .val (.ref d2), .val (.ref b3), .val (.ref t1), .val (.ref b3), .val (.ref d1), .val (.ref b3), .unset, .unset, .unset] [])) _
    refine XS.aload X9.here hx rfl (hb hby at_72) rfl rfl ?_
    show Steps p.tables e below (T9.setTop (mkF m 74 #[.val (.int p1), .val (.int p2), .val (.int p3), .val (.int (1 : Int32)), .val (.ref d1), .val (.ref d2), .val (.ref b3), .val (.ref t1), .val (.ref b3), .val (.ref d1), .val (.ref b3), .unset, .unset, .unset] [(.ref b3)])) _
    refine st10.trans ?_
    show Steps p.tables e below (T10.setTop (mkF m 77 #[.val (.int p1), .val (.int p2), .val (.int p3), .val (.int (1 : Int32)), .val (.ref d1), .val (.ref d2), .val (.ref b3), .val (.ref t1), .val (.ref b3), .val (.ref d1), .val (.ref b3), .unset, .unset, .unset] [(.ref d2)])) _
    refine XS.astore X10.here hx rfl (hb hby at_77) rfl rfl (l' := #[.val (.int p1), .val (.int p2), .val (.int p3), .val (.int (1 : Int32)), .val (.ref d1), .val (.ref d2), .val (.ref b3), .val (.ref t1), .val (.ref b3), .val (.ref d1), .val (.ref b3), .val (.ref d2), .unset, .unset]) rfl ?_
    show Steps p.tables e below (T10.setTop (mkF m 79 #[.val (.int p1), .val (.int p2), .val (.int p3), .val (.int (1 : Int32)), .val (.ref d1), .val (.ref d2), .val (.ref b3), .val (.ref t1), .val (.ref b3), .val (.ref d1), .val (.ref b3), .val (.ref d2), .unset, .unset] [])) _
    refine XS.aload X10.here hx rfl (hb hby at_79) rfl rfl ?_
    show Steps p.tables e below (T10.setTop (mkF m 81 #[.val (.int p1), .val (.int p2), .val (.int p3), .val (.int (1 : Int32)), .val (.ref d1), .val (.ref d2), .val (.ref b3), .val (.ref t1), .val (.ref b3), .val (.ref d1), .val (.ref b3), .val (.ref d2), .unset, .unset] [(.ref b3)])) _
    refine st11.trans ?_
    show Steps p.tables e below (T11.setTop (mkF m 84 #[.val (.int p1), .val (.int p2), .val (.int p3), .val (.int (1 : Int32)), .val (.ref d1), .val (.ref d2), .val (.ref b3), .val (.ref t1), .val (.ref b3), .val (.ref d1), .val (.ref b3), .val (.ref d2), .unset, .unset] [(.int (1 : Int32))])) _
    refine XS.istore X11.here hx rfl (hb hby at_84) rfl (l' := #[.val (.int p1), .val (.int p2), .val (.int p3), .val (.int (1 : Int32)), .val (.ref d1), .val (.ref d2), .val (.ref b3), .val (.ref t1), .val (.ref b3), .val (.ref d1), .val (.ref b3), .val (.ref d2), .val (.int (1 : Int32)), .unset]) rfl ?_
    show Steps p.tables e below (T11.setTop (mkF m 86 #[.val (.int p1), .val (.int p2), .val (.int p3), .val (.int (1 : Int32)), .val (.ref d1), .val (.ref d2), .val (.ref b3), .val (.ref t1), .val (.ref b3), .val (.ref d1), .val (.ref b3), .val (.ref d2), .val (.int (1 : Int32)), .unset] [])) _
    refine XS.aload X11.here hx rfl (hb hby at_86) rfl rfl ?_
    show Steps p.tables e below (T11.setTop (mkF m 88 #[.val (.int p1), .val (.int p2), .val (.int p3), .val (.int (1 : Int32)), .val (.ref d1), .val (.ref d2), .val (.ref b3), .val (.ref t1), .val (.ref b3), .val (.ref d1), .val (.ref b3), .val (.ref d2), .val (.int (1 : Int32)), .unset] [(.ref b3)])) _
    refine st12.trans ?_
    show Steps p.tables e below (T12.setTop (mkF m 91 #[.val (.int p1), .val (.int p2), .val (.int p3), .val (.int (1 : Int32)), .val (.ref d1), .val (.ref d2), .val (.ref b3), .val (.ref t1), .val (.ref b3), .val (.ref d1), .val (.ref b3), .val (.ref d2), .val (.int (1 : Int32)), .unset] [(.ref t1)])) _
    refine XS.astore X12.here hx rfl (hb hby at_91) rfl rfl (l' := #[.val (.int p1), .val (.int p2), .val (.int p3), .val (.int (1 : Int32)), .val (.ref d1), .val (.ref d2), .val (.ref b3), .val (.ref t1), .val (.ref b3), .val (.ref d1), .val (.ref b3), .val (.ref d2), .val (.int (1 : Int32)), .val (.ref t1)]) rfl ?_
    show Steps p.tables e below (T12.setTop (mkF m 93 #[.val (.int p1), .val (.int p2), .val (.int p3), .val (.int (1 : Int32)), .val (.ref d1), .val (.ref d2), .val (.ref b3), .val (.ref t1), .val (.ref b3), .val (.ref d1), .val (.ref b3), .val (.ref d2), .val (.int (1 : Int32)), .val (.ref t1)] [])) _
    refine XS.aload X12.here hx rfl (hb hby at_93) rfl rfl ?_
    show Steps p.tables e below (T12.setTop (mkF m 95 #[.val (.int p1), .val (.int p2), .val (.int p3), .val (.int (1 : Int32)), .val (.ref d1), .val (.ref d2), .val (.ref b3), .val (.ref t1), .val (.ref b3), .val (.ref d1), .val (.ref b3), .val (.ref d2), .val (.int (1 : Int32)), .val (.ref t1)] [(.ref b3)])) _
    refine XS.aload X12.here hx rfl (hb hby at_95) rfl rfl ?_
    show Steps p.tables e below (T12.setTop (mkF m 97 #[.val (.int p1), .val (.int p2), .val (.int p3), .val (.int (1 : Int32)), .val (.ref d1), .val (.ref d2), .val (.ref b3), .val (.ref t1), .val (.ref b3), .val (.ref d1), .val (.ref b3), .val (.ref d2), .val (.int (1 : Int32)), .val (.ref t1)] [(.ref b3), (.ref b3)])) _
    refine Jvm.RoadKit.acmp (g := (mkF m 97 #[.val (.int p1), .val (.int p2), .val (.int p3), .val (.int (1 : Int32)), .val (.ref d1), .val (.ref d2), .val (.ref b3), .val (.ref t1), .val (.ref b3), .val (.ref d1), .val (.ref b3), .val (.ref d2), .val (.int (1 : Int32)), .val (.ref t1)] [(.ref b3), (.ref b3)])) X12 hx rfl rfl rfl (pc0 := 97) (pc' := 100) (same := true) rfl (hb hby at_97) rfl (decide_eq_true rfl) (by decide) (by decide) ?_
    show Steps p.tables e below (T12.setTop (mkF m 100 #[.val (.int p1), .val (.int p2), .val (.int p3), .val (.int (1 : Int32)), .val (.ref d1), .val (.ref d2), .val (.ref b3), .val (.ref t1), .val (.ref b3), .val (.ref d1), .val (.ref b3), .val (.ref d2), .val (.int (1 : Int32)), .val (.ref t1)] [])) _
    refine XS.aload X12.here hx rfl (hb hby at_100) rfl rfl ?_
    show Steps p.tables e below (T12.setTop (mkF m 102 #[.val (.int p1), .val (.int p2), .val (.int p3), .val (.int (1 : Int32)), .val (.ref d1), .val (.ref d2), .val (.ref b3), .val (.ref t1), .val (.ref b3), .val (.ref d1), .val (.ref b3), .val (.ref d2), .val (.int (1 : Int32)), .val (.ref t1)] [(.ref b3)])) _
    refine XS.aload X12.here hx rfl (hb hby at_102) rfl rfl ?_
    show Steps p.tables e below (T12.setTop (mkF m 104 #[.val (.int p1), .val (.int p2), .val (.int p3), .val (.int (1 : Int32)), .val (.ref d1), .val (.ref d2), .val (.ref b3), .val (.ref t1), .val (.ref b3), .val (.ref d1), .val (.ref b3), .val (.ref d2), .val (.int (1 : Int32)), .val (.ref t1)] [(.ref b3), (.ref b3)])) _
    refine Jvm.RoadKit.acmp (g := (mkF m 104 #[.val (.int p1), .val (.int p2), .val (.int p3), .val (.int (1 : Int32)), .val (.ref d1), .val (.ref d2), .val (.ref b3), .val (.ref t1), .val (.ref b3), .val (.ref d1), .val (.ref b3), .val (.ref d2), .val (.int (1 : Int32)), .val (.ref t1)] [(.ref b3), (.ref b3)])) X12 hx rfl rfl rfl (pc0 := 104) (pc' := 107) (same := true) rfl (hb hby at_104) rfl (decide_eq_true rfl) (by decide) (by decide) ?_
    show Steps p.tables e below (T12.setTop (mkF m 107 #[.val (.int p1), .val (.int p2), .val (.int p3), .val (.int (1 : Int32)), .val (.ref d1), .val (.ref d2), .val (.ref b3), .val (.ref t1), .val (.ref b3), .val (.ref d1), .val (.ref b3), .val (.ref d2), .val (.int (1 : Int32)), .val (.ref t1)] [])) _
    refine XS.aload X12.here hx rfl (hb hby at_107) rfl rfl ?_
    show Steps p.tables e below (T12.setTop (mkF m 109 #[.val (.int p1), .val (.int p2), .val (.int p3), .val (.int (1 : Int32)), .val (.ref d1), .val (.ref d2), .val (.ref b3), .val (.ref t1), .val (.ref b3), .val (.ref d1), .val (.ref b3), .val (.ref d2), .val (.int (1 : Int32)), .val (.ref t1)] [(.ref d1)])) _
    refine XS.aload X12.here hx rfl (hb hby at_109) rfl rfl ?_
    show Steps p.tables e below (T12.setTop (mkF m 111 #[.val (.int p1), .val (.int p2), .val (.int p3), .val (.int (1 : Int32)), .val (.ref d1), .val (.ref d2), .val (.ref b3), .val (.ref t1), .val (.ref b3), .val (.ref d1), .val (.ref b3), .val (.ref d2), .val (.int (1 : Int32)), .val (.ref t1)] [(.ref d1), (.ref d1)])) _
    refine Jvm.RoadKit.acmp (g := (mkF m 111 #[.val (.int p1), .val (.int p2), .val (.int p3), .val (.int (1 : Int32)), .val (.ref d1), .val (.ref d2), .val (.ref b3), .val (.ref t1), .val (.ref b3), .val (.ref d1), .val (.ref b3), .val (.ref d2), .val (.int (1 : Int32)), .val (.ref t1)] [(.ref d1), (.ref d1)])) X12 hx rfl rfl rfl (pc0 := 111) (pc' := 114) (same := true) rfl (hb hby at_111) rfl (decide_eq_true rfl) (by decide) (by decide) ?_
    show Steps p.tables e below (T12.setTop (mkF m 114 #[.val (.int p1), .val (.int p2), .val (.int p3), .val (.int (1 : Int32)), .val (.ref d1), .val (.ref d2), .val (.ref b3), .val (.ref t1), .val (.ref b3), .val (.ref d1), .val (.ref b3), .val (.ref d2), .val (.int (1 : Int32)), .val (.ref t1)] [])) _
    refine XS.aload X12.here hx rfl (hb hby at_114) rfl rfl ?_
    show Steps p.tables e below (T12.setTop (mkF m 116 #[.val (.int p1), .val (.int p2), .val (.int p3), .val (.int (1 : Int32)), .val (.ref d1), .val (.ref d2), .val (.ref b3), .val (.ref t1), .val (.ref b3), .val (.ref d1), .val (.ref b3), .val (.ref d2), .val (.int (1 : Int32)), .val (.ref t1)] [(.ref d2)])) _
    refine XS.aload X12.here hx rfl (hb hby at_116) rfl rfl ?_
    show Steps p.tables e below (T12.setTop (mkF m 118 #[.val (.int p1), .val (.int p2), .val (.int p3), .val (.int (1 : Int32)), .val (.ref d1), .val (.ref d2), .val (.ref b3), .val (.ref t1), .val (.ref b3), .val (.ref d1), .val (.ref b3), .val (.ref d2), .val (.int (1 : Int32)), .val (.ref t1)] [(.ref d2), (.ref d2)])) _
    refine Jvm.RoadKit.acmp (g := (mkF m 118 #[.val (.int p1), .val (.int p2), .val (.int p3), .val (.int (1 : Int32)), .val (.ref d1), .val (.ref d2), .val (.ref b3), .val (.ref t1), .val (.ref b3), .val (.ref d1), .val (.ref b3), .val (.ref d2), .val (.int (1 : Int32)), .val (.ref t1)] [(.ref d2), (.ref d2)])) X12 hx rfl rfl rfl (pc0 := 118) (pc' := 121) (same := true) rfl (hb hby at_118) rfl (decide_eq_true rfl) (by decide) (by decide) ?_
    show Steps p.tables e below (T12.setTop (mkF m 121 #[.val (.int p1), .val (.int p2), .val (.int p3), .val (.int (1 : Int32)), .val (.ref d1), .val (.ref d2), .val (.ref b3), .val (.ref t1), .val (.ref b3), .val (.ref d1), .val (.ref b3), .val (.ref d2), .val (.int (1 : Int32)), .val (.ref t1)] [])) _
    refine XS.iload X12.here hx rfl (hb hby at_121) rfl ?_
    show Steps p.tables e below (T12.setTop (mkF m 123 #[.val (.int p1), .val (.int p2), .val (.int p3), .val (.int (1 : Int32)), .val (.ref d1), .val (.ref d2), .val (.ref b3), .val (.ref t1), .val (.ref b3), .val (.ref d1), .val (.ref b3), .val (.ref d2), .val (.int (1 : Int32)), .val (.ref t1)] [(.int (1 : Int32))])) _
    refine XS.iloadN X12.here hx rfl (hb hby at_123) rfl ?_
    show Steps p.tables e below (T12.setTop (mkF m 124 #[.val (.int p1), .val (.int p2), .val (.int p3), .val (.int (1 : Int32)), .val (.ref d1), .val (.ref d2), .val (.ref b3), .val (.ref t1), .val (.ref b3), .val (.ref d1), .val (.ref b3), .val (.ref d2), .val (.int (1 : Int32)), .val (.ref t1)] [(.int (1 : Int32)), (.int (1 : Int32))])) _
    refine XS.icmpNo X12.here hx rfl (hb hby at_124) rfl (by decide) ?_
    show Steps p.tables e below (T12.setTop (mkF m 127 #[.val (.int p1), .val (.int p2), .val (.int p3), .val (.int (1 : Int32)), .val (.ref d1), .val (.ref d2), .val (.ref b3), .val (.ref t1), .val (.ref b3), .val (.ref d1), .val (.ref b3), .val (.ref d2), .val (.int (1 : Int32)), .val (.ref t1)] [])) _
    refine XS.aload X12.here hx rfl (hb hby at_127) rfl rfl ?_
    show Steps p.tables e below (T12.setTop (mkF m 129 #[.val (.int p1), .val (.int p2), .val (.int p3), .val (.int (1 : Int32)), .val (.ref d1), .val (.ref d2), .val (.ref b3), .val (.ref t1), .val (.ref b3), .val (.ref d1), .val (.ref b3), .val (.ref d2), .val (.int (1 : Int32)), .val (.ref t1)] [(.ref t1)])) _
    refine XS.aload X12.here hx rfl (hb hby at_129) rfl rfl ?_
    show Steps p.tables e below (T12.setTop (mkF m 131 #[.val (.int p1), .val (.int p2), .val (.int p3), .val (.int (1 : Int32)), .val (.ref d1), .val (.ref d2), .val (.ref b3), .val (.ref t1), .val (.ref b3), .val (.ref d1), .val (.ref b3), .val (.ref d2), .val (.int (1 : Int32)), .val (.ref t1)] [(.ref t1), (.ref t1)])) _
    refine Jvm.RoadKit.acmp (g := (mkF m 131 #[.val (.int p1), .val (.int p2), .val (.int p3), .val (.int (1 : Int32)), .val (.ref d1), .val (.ref d2), .val (.ref b3), .val (.ref t1), .val (.ref b3), .val (.ref d1), .val (.ref b3), .val (.ref d2), .val (.int (1 : Int32)), .val (.ref t1)] [(.ref t1), (.ref t1)])) X12 hx rfl rfl rfl (pc0 := 131) (pc' := 134) (same := true) rfl (hb hby at_131) rfl (decide_eq_true rfl) (by decide) (by decide) ?_
    show Steps p.tables e below (T12.setTop (mkF m 134 #[.val (.int p1), .val (.int p2), .val (.int p3), .val (.int (1 : Int32)), .val (.ref d1), .val (.ref d2), .val (.ref b3), .val (.ref t1), .val (.ref b3), .val (.ref d1), .val (.ref b3), .val (.ref d2), .val (.int (1 : Int32)), .val (.ref t1)] [])) _
    refine XS.iconst X12.here hx rfl (hb hby at_134) ?_
    show Steps p.tables e below (T12.setTop (mkF m 135 #[.val (.int p1), .val (.int p2), .val (.int p3), .val (.int (1 : Int32)), .val (.ref d1), .val (.ref d2), .val (.ref b3), .val (.ref t1), .val (.ref b3), .val (.ref d1), .val (.ref b3), .val (.ref d2), .val (.int (1 : Int32)), .val (.ref t1)] [(.int (1 : Int32))])) _
    refine XS.goto X12.here hx rfl (pc0 := 135) (pc' := 139) rfl (hb hby at_135) (by decide) (by decide) ?_
    show Steps p.tables e below (T12.setTop (mkF m 139 #[.val (.int p1), .val (.int p2), .val (.int p3), .val (.int (1 : Int32)), .val (.ref d1), .val (.ref d2), .val (.ref b3), .val (.ref t1), .val (.ref b3), .val (.ref d1), .val (.ref b3), .val (.ref d2), .val (.int (1 : Int32)), .val (.ref t1)] [(.int (1 : Int32))])) _
    exact retN X12 hx (t := .boolean) Bd.returns (by simp) (hb hby at_139) hr
  · show own_QL h0 n0 _ T12.heap _
    rw [eh12]
    exact ⟨rfl, N12, trivial⟩
theorem own_law (l : Launch) (Z : State) (a0 : Array Value) (hw : ∀ d ∈ tables_1, d.before a0 Z = true) (ws : List Jvm.Cond) (p1 p2 p3 : Int32) (a_SYNC a_NO_SYNC : Addr) (h0 : Heap) (n0 : Nat) (Z0 : n0 ≤ h0.size) (O0 : Old Z n0 h0) (S_SYNC : Sta Z Z.heap "com/example/persimmon/persimmon/engine/Durability" "SYNC" "Lcom/example/persimmon/persimmon/engine/Durability;" (.ref a_SYNC)) (S_NO_SYNC : Sta Z Z.heap "com/example/persimmon/persimmon/engine/Durability" "NO_SYNC" "Lcom/example/persimmon/persimmon/engine/Durability;" (.ref a_NO_SYNC)) (E_SYNC : Exa Z Z.heap a_SYNC "com/example/persimmon/persimmon/engine/Durability") (E_NO_SYNC : Exa Z Z.heap a_NO_SYNC "com/example/persimmon/persimmon/engine/Durability") :
    MetFree l x (head1 (Jvm.Cond.code x code maxLocals ret :: ws) room_1) (fun a U => a = #[(.int p1), (.int p2), (.int p3)] ∧ Z.Warmed39 U.vm ∧ U.heap = h0) (fun _ _ _ _ _ => True) (fun _ U o U' => ∃ v L, o = .returned v ∧ own_QL h0 n0 v U'.heap L ∧ ReturnedEndW U o U' L room_1.cells room_1.slots) := by
  rcases own_and1 p3 with hf | hf
  · exact own_law0 l Z a0 hw ws p1 p2 p3 a_SYNC a_NO_SYNC h0 n0 Z0 O0 S_SYNC S_NO_SYNC E_SYNC E_NO_SYNC hf
  · exact own_law1 l Z a0 hw ws p1 p2 p3 a_SYNC a_NO_SYNC h0 n0 Z0 O0 S_SYNC S_NO_SYNC E_SYNC E_NO_SYNC hf
set_option maxRecDepth 65536 in
set_option maxHeartbeats 40000000 in
theorem comes_1 {Post : Tables → Env → Array Value → State → Outcome → State → Prop} (hpost : ∀ tb e args s v u, (limb_1_1.after args s (.returned v) u = true ∧ limb_1_2.after args s (.returned v) u = true ∧ True) → ReturnedEndW s (.returned v) u (Jvm.fieldLocs frame_1_writes args s ++ Jvm.arrayLocs frame_1_arrays args s ++ Jvm.staticLocs frame_1_statics s) 16 1152 → Post tb e args s (.returned v) u) :
    ArmFor flags0 classFile x code maxLocals ret World_1 tables_1 room_1 Calls_1 rest_1 Pre_1 Post := by
  intro l hfl _ _ p e ha hc hk s m args below hf hA hF happ hP
  obtain ⟨hcalls, hrest, hpre⟩ := hP
  obtain ⟨-, -, -, hnamed, -, -, -, hat⟩ := (Spec.applies_iff hf).mp happ
  obtain ⟨hg, hn⟩ := and_e (Cond.before_iff.mp (show (Jvm.Cond.and given_1 narrow_1).before args s = true from hpre))
  obtain ⟨gc0, gr0⟩ := and_e hg
  obtain ⟨gc1, gr1⟩ := and_e gr0
  obtain ⟨gc2, gr2⟩ := and_e gr1
  obtain ⟨w0, w1, w2, rfl⟩ : ∃ w0 w1 w2 : Value, args = #[w0, w1, w2] := by
    have hs : args.size = 3 := by simpa [Cond.value, given_1] using gc0
    obtain ⟨L⟩ := args
    match L, hs with
    | [w0, w1, w2], _ => exact ⟨w0, w1, w2, rfl⟩
  have hw := fun d (hd : d ∈ tables_1) => atoms_spec (ws := Jvm.Cond.code x code maxLocals ret :: tables_1) hat d (List.mem_cons_of_mem _ hd)
  have hfit : Fit s := fun {y c} hc i hi => by
    obtain ⟨ha, rfl⟩ := Array.getElem?_eq_some_iff.mp hc
    have q := List.all_eq_true.mp ((Array.all_eq_true_iff_forall_mem.mp hF) _ (Array.getElem_mem ha)) i (List.mem_range.mpr hi)
    simpa [Array.getElem?_eq_getElem hi] using q
  obtain ⟨i0, ei0⟩ := is_v gc1
  obtain rfl : w0 = (.int i0) := Option.some.inj ei0
  obtain ⟨i1, ei1⟩ := is_v gc2
  obtain rfl : w1 = (.int i1) := Option.some.inj ei1
  obtain ⟨i2, ei2⟩ := is_v gr2
  obtain rfl : w2 = (.int i2) := Option.some.inj ei2
  obtain ⟨nc0, nr0⟩ := and_e hn
  obtain ⟨a_SYNC, v_SYNC⟩ := exa_v nc0
  have E_SYNC : Exa s s.heap a_SYNC "com/example/persimmon/persimmon/engine/Durability" := Exa.start v_SYNC nc0
  have S_SYNC : Sta s s.heap "com/example/persimmon/persimmon/engine/Durability" "SYNC" "Lcom/example/persimmon/persimmon/engine/Durability;" (.ref a_SYNC) := Sta.start v_SYNC (Or.inr ⟨(hw _ (List.mem_of_getElem? (i := 5) rfl)), (hw _ (List.mem_of_getElem? (i := 6) rfl))⟩)
  obtain ⟨a_NO_SYNC, v_NO_SYNC⟩ := exa_v nr0
  have E_NO_SYNC : Exa s s.heap a_NO_SYNC "com/example/persimmon/persimmon/engine/Durability" := Exa.start v_NO_SYNC nr0
  have S_NO_SYNC : Sta s s.heap "com/example/persimmon/persimmon/engine/Durability" "NO_SYNC" "Lcom/example/persimmon/persimmon/engine/Durability;" (.ref a_NO_SYNC) := Sta.start v_NO_SYNC (Or.inr ⟨(hw _ (List.mem_of_getElem? (i := 5) rfl)), (hw _ (List.mem_of_getElem? (i := 8) rfl))⟩)
  obtain ⟨n, o, h1, h2, h3, _, L, rfl, ⟨rfl, N, -⟩, hq⟩ := own_law l s _ hw tables_1 i0 i1 i2 a_SYNC a_NO_SYNC s.heap s.heap.size (Nat.le_refl _) (Old.start s) S_SYNC S_NO_SYNC E_SYNC E_NO_SYNC p e ha hc hk s m _ below hf ((Spec.applies_iff_loose hf).mp happ).1 ⟨rfl, State.Warmed39.refl s, rfl⟩ trivial
  refine ⟨n, _, h1, h2, h3, hpost _ _ _ _ _ _ ⟨Cond.after_iff.mpr rfl, Cond.after_iff.mpr (eq_i res_at (Term.int_eval (1)) rfl), trivial⟩ ⟨hq.1, hq.2.1, hq.2.2.1, (hq.2.2.2.sift fun y hy => Or.inr (N y hy)).mono (by decide) (by decide)⟩⟩
theorem main_1_1 : Claimed_1_1 := comes_1 fun _ _ _ _ _ _ h hF => ⟨h.1, hF⟩
theorem main_1_2 : Claimed_1_2 := comes_1 fun _ _ _ _ _ _ h hF => ⟨h.2.1, hF⟩
end Jvm.Pilot.@@N@@
namespace Jvm.Pilot.@@N@@
open Jvm Jvm.ClassFile Sem Op Lib Jvm.Free Jvm.Stand Jvm.Pilot.@@N@@.Jvm.D
/-! MADE BY PROGRAM (witnessworld.py) out of the Statement's table words and the real class files: 17 classes; the members and pool entries that the words name. The judged class is class 1, her method 2. -/
namespace start1
open Jvm.ClassFile
def u (s : String) : CpInfo := .utf8 (stringToUtf16 s)
/-- a pool by its gaps: so many unusable entries, then the entry; so many at the end -/
def gap : Nat → List CpInfo → List CpInfo
  | 0, r => r
  | n + 1, r => .unusable :: gap n r
def poolList (es : List (Nat × CpInfo)) (last : Nat) : List CpInfo := es.foldr (fun e r => gap e.1 (e.2 :: r)) (gap last [])
def pool (es : List (Nat × CpInfo)) (last : Nat) : Array CpInfo := ⟨poolList es last⟩
def fileOf (pool : Array CpInfo) (this : Nat) (attrs : Array Attribute := #[]) (ms : Array MethodInfo := #[]) (fl : Nat := 33) (sup : Nat := 0) (ifs : Array Nat := #[]) (fds : Array FieldInfo := #[]) : ClassFile where
  minorVersion := 0
  majorVersion := 65
  constantPool := pool
  accessFlags := fl
  thisClass := this
  superClass := sup
  interfaces := ifs
  fields := fds
  methods := ms
  attributes := attrs
def plain (name : String) (sup : Option ClassId) : Class where
  name := name
  kind := .ordinary
  loader := none
  accessFlags := 33
  super := sup
  interfaces := #[]
  cf := none
  fields := #[]
  methods := #[]
  instanceTypes := #[]
  staticTypes := #[]
  resolved := #[]
  callSites := []
  init := .initialized
  statics := none
  mirror := none

def pool0 : Array CpInfo := pool [(5, u "<init>"), (0, u "()V"), (1, .class_ 10), (1, u "java/lang/Object")] 113

def k0c0 : Code := { maxStack := 0, maxLocals := 1, code := object_method_1_code, exceptionTable := #[], attributes := #[] }
def k0m0 : Method := { name := "<init>", desc := "()V", sig := { parameters := [], returnType := none }, accessFlags := 1, code := some k0c0 }
/-- java/lang/Object -/
def k0 : Class := { plain "java/lang/Object" none with
  accessFlags := 33
  interfaces := #[]
  cf := some (fileOf pool0 8 #[] #[{ accessFlags := 1, nameIndex := 5, descriptorIndex := 6, attributes := #[] }] 33 0 #[] #[])
  fields := #[]
  methods := #[k0m0]
  instanceTypes := #[]
  staticTypes := #[]
  resolved := Array.replicate 124 none
  statics := none }

def pool1 : Array CpInfo := pool [(2, .class_ 4), (0, .nameAndType 5 6), (0, u "java/lang/Object"), (0, u "<init>"), (0, u "()V"), (0, .fieldref 8 9), (0, .class_ 10), (0, .nameAndType 11 12), (0, u "com/example/persimmon/persimmon/engine/Durability"), (0, u "NO_SYNC"), (0, u "Lcom/example/persimmon/persimmon/engine/Durability;"), (0, .fieldref 8 14), (0, .nameAndType 15 12), (0, u "SYNC"), (0, .methodref 17 18), (0, .class_ 19), (0, .nameAndType 20 21), (0, u "com/example/persimmon/persimmon/engine/EnvironmentConfigSetDurabilityPinLaw"), (0, u "pick"), (0, u "(I)Lcom/example/persimmon/persimmon/engine/Durability;"), (0, .class_ 23), (0, u "com/example/persimmon/persimmon/engine/EnvironmentConfig"), (0, .methodref 22 3), (0, .methodref 22 26), (0, .nameAndType 27 28), (0, u "setAllowCreate"), (0, u "(Z)Lcom/example/persimmon/persimmon/engine/EnvironmentConfig;"), (0, .methodref 22 30), (0, .nameAndType 31 32), (0, u "getLockTimeout"), (0, u "()Ljava/time/Duration;"), (0, .methodref 22 34), (0, .nameAndType 35 36), (0, u "setDurability"), (0, u "(Lcom/example/persimmon/persimmon/engine/Durability;)Lcom/example/persimmon/persimmon/engine/EnvironmentConfig;"), (0, .methodref 22 38), (0, .nameAndType 39 40), (0, u "getDurability"), (0, u "()Lcom/example/persimmon/persimmon/engine/Durability;"), (0, .methodref 22 42), (0, .nameAndType 43 44), (0, u "getAllowCreate"), (0, u "()Z"), (3, u "law"), (0, u "(III)Z")] 2

def k1m0 : Method := { name := "<init>", desc := "()V", sig := { parameters := [], returnType := none }, accessFlags := 1, code := none }
def k1c1 : Code := { maxStack := 2, maxLocals := 1, code := method_2_code, exceptionTable := #[], attributes := #[] }
def k1m1 : Method := { name := "pick", desc := "(I)Lcom/example/persimmon/persimmon/engine/Durability;", sig := { parameters := [.int], returnType := some (.object "com/example/persimmon/persimmon/engine/Durability") }, accessFlags := 10, code := some k1c1 }
def k1c2 : Code := { maxStack := 2, maxLocals := 14, code := code, exceptionTable := #[], attributes := #[] }
def k1m2 : Method := { name := "law", desc := "(III)Z", sig := { parameters := [.int, .int, .int], returnType := some .boolean }, accessFlags := 9, code := some k1c2 }
/-- com/example/persimmon/persimmon/engine/EnvironmentConfigSetDurabilityPinLaw -/
def k1 : Class := { plain "com/example/persimmon/persimmon/engine/EnvironmentConfigSetDurabilityPinLaw" (some 0) with
  accessFlags := 49
  interfaces := #[]
  cf := some (fileOf pool1 17 #[] #[{ accessFlags := 1, nameIndex := 5, descriptorIndex := 6, attributes := #[] }, { accessFlags := 10, nameIndex := 20, descriptorIndex := 21, attributes := #[] }, { accessFlags := 9, nameIndex := 48, descriptorIndex := 49, attributes := #[] }] 49 2 #[] #[])
  fields := #[]
  methods := #[k1m0, k1m1, k1m2]
  instanceTypes := #[]
  staticTypes := #[]
  resolved := Array.replicate 52 none
  statics := none }

def pool2 : Array CpInfo := pool [(1, .class_ 2), (0, u "java/lang/constant/Constable"), (0, .class_ 4), (0, u "java/lang/Object")] 6

/-- java/lang/constant/Constable -/
def k2 : Class := { plain "java/lang/constant/Constable" (some 0) with
  accessFlags := 1537
  interfaces := #[]
  cf := some (fileOf pool2 1 #[] #[] 1537 3 #[] #[])
  fields := #[]
  methods := #[]
  instanceTypes := #[]
  staticTypes := #[]
  resolved := Array.replicate 11 none
  statics := none }

def pool3 : Array CpInfo := pool [(1, .class_ 2), (0, u "java/lang/Comparable"), (0, .class_ 4), (0, u "java/lang/Object")] 7

/-- java/lang/Comparable -/
def k3 : Class := { plain "java/lang/Comparable" (some 0) with
  accessFlags := 1537
  interfaces := #[]
  cf := some (fileOf pool3 1 #[] #[] 1537 3 #[] #[])
  fields := #[]
  methods := #[]
  instanceTypes := #[]
  staticTypes := #[]
  resolved := Array.replicate 12 none
  statics := none }

def pool4 : Array CpInfo := pool [(1, .class_ 2), (0, u "java/io/Serializable"), (0, .class_ 4), (0, u "java/lang/Object")] 2

/-- java/io/Serializable -/
def k4 : Class := { plain "java/io/Serializable" (some 0) with
  accessFlags := 1537
  interfaces := #[]
  cf := some (fileOf pool4 1 #[] #[] 1537 3 #[] #[])
  fields := #[]
  methods := #[]
  instanceTypes := #[]
  staticTypes := #[]
  resolved := Array.replicate 7 none
  statics := none }

def pool5 : Array CpInfo := pool [(2, .class_ 4), (1, u "java/lang/Enum"), (0, u "name"), (0, u "Ljava/lang/String;"), (2, u "ordinal"), (0, u "I"), (1, .class_ 14), (1, u "java/lang/Object"), (4, u "hash"), (86, .class_ 108), (1, u "java/lang/Enum$EnumDesc"), (2, .class_ 112), (0, u "java/lang/constant/Constable"), (0, .class_ 114), (0, u "java/lang/Comparable"), (0, .class_ 116), (0, u "java/io/Serializable")] 87

/-- java/lang/Enum -/
def k5 : Class := { plain "java/lang/Enum" (some 0) with
  accessFlags := 1057
  interfaces := #[2, 3, 4]
  cf := some (fileOf pool5 2 #[.nestMembers #[106]] #[] 1057 12 #[111, 113, 115] #[{ accessFlags := 18, nameIndex := 5, descriptorIndex := 6, attributes := #[] }, { accessFlags := 18, nameIndex := 9, descriptorIndex := 10, attributes := #[] }, { accessFlags := 2, nameIndex := 19, descriptorIndex := 10, attributes := #[] }])
  fields := #[{ name := "name", type := (.object "java/lang/String"), accessFlags := 18, slot := 0, constantValue := 0 }, { name := "ordinal", type := .int, accessFlags := 18, slot := 1, constantValue := 0 }, { name := "hash", type := .int, accessFlags := 2, slot := 2, constantValue := 0 }]
  methods := #[]
  instanceTypes := #[(.object "java/lang/String"), .int, .int]
  staticTypes := #[]
  resolved := Array.replicate 204 none
  statics := none }

def pool6 : Array CpInfo := pool [(1, .class_ 2), (0, u "com/example/persimmon/persimmon/engine/Durability"), (2, u "SYNC"), (0, u "Lcom/example/persimmon/persimmon/engine/Durability;"), (2, u "NO_SYNC"), (2, u "$VALUES"), (0, u "[Lcom/example/persimmon/persimmon/engine/Durability;"), (6, .class_ 22), (1, u "java/lang/Enum")] 24

/-- com/example/persimmon/persimmon/engine/Durability -/
def k6 : Class := { plain "com/example/persimmon/persimmon/engine/Durability" (some 5) with
  accessFlags := 16433
  interfaces := #[]
  cf := some (fileOf pool6 1 #[] #[] 16433 20 #[] #[{ accessFlags := 16409, nameIndex := 5, descriptorIndex := 6, attributes := #[] }, { accessFlags := 16409, nameIndex := 9, descriptorIndex := 6, attributes := #[] }, { accessFlags := 4122, nameIndex := 12, descriptorIndex := 13, attributes := #[] }])
  fields := #[{ name := "SYNC", type := (.object "com/example/persimmon/persimmon/engine/Durability"), accessFlags := 16409, slot := 0, constantValue := 0 }, { name := "NO_SYNC", type := (.object "com/example/persimmon/persimmon/engine/Durability"), accessFlags := 16409, slot := 1, constantValue := 0 }, { name := "$VALUES", type := (.array (.object "com/example/persimmon/persimmon/engine/Durability")), accessFlags := 4122, slot := 2, constantValue := 0 }]
  methods := #[]
  instanceTypes := #[(.object "java/lang/String"), .int, .int]
  staticTypes := #[(.object "com/example/persimmon/persimmon/engine/Durability"), (.object "com/example/persimmon/persimmon/engine/Durability"), (.array (.object "com/example/persimmon/persimmon/engine/Durability"))]
  resolved := Array.replicate 47 none
  statics := some 0 }

def pool7 : Array CpInfo := pool [(1, .methodref 2 3), (0, .class_ 4), (0, .nameAndType 5 6), (0, u "java/lang/Object"), (0, u "<init>"), (0, u "()V"), (0, .fieldref 8 9), (0, .class_ 10), (0, .nameAndType 11 12), (0, u "com/example/persimmon/persimmon/engine/Durability"), (0, u "SYNC"), (0, u "Lcom/example/persimmon/persimmon/engine/Durability;"), (0, .fieldref 14 15), (0, .class_ 16), (0, .nameAndType 17 12), (0, u "com/example/persimmon/persimmon/engine/EnvironmentConfig"), (0, u "durability"), (0, .long 500), (1, .methodref 21 22), (0, .class_ 23), (0, .nameAndType 24 25), (0, u "java/time/Duration"), (0, u "ofMillis"), (0, u "(J)Ljava/time/Duration;"), (0, .fieldref 14 27), (0, .nameAndType 28 29), (0, u "lockTimeout"), (0, u "Ljava/time/Duration;"), (0, .fieldref 14 31), (0, .nameAndType 32 33), (0, u "allowCreate"), (0, u "Z"), (0, .string 17), (0, .methodref 36 37), (0, .class_ 38), (0, .nameAndType 39 40), (0, u "java/util/Objects"), (0, u "requireNonNull"), (0, u "(Ljava/lang/Object;Ljava/lang/String;)Ljava/lang/Object;"), (4, u "()Z"), (17, u "setAllowCreate"), (0, u "(Z)Lcom/example/persimmon/persimmon/engine/EnvironmentConfig;"), (0, u "getAllowCreate"), (0, u "setDurability"), (0, u "(Lcom/example/persimmon/persimmon/engine/Durability;)Lcom/example/persimmon/persimmon/engine/EnvironmentConfig;"), (0, u "getDurability"), (0, u "()Lcom/example/persimmon/persimmon/engine/Durability;"), (3, u "getLockTimeout"), (0, u "()Ljava/time/Duration;")] 17

def k7c0 : Code := { maxStack := 3, maxLocals := 1, code := prog_82_method_1_code, exceptionTable := #[], attributes := #[] }
def k7m0 : Method := { name := "<init>", desc := "()V", sig := { parameters := [], returnType := none }, accessFlags := 1, code := some k7c0 }
def k7c1 : Code := { maxStack := 2, maxLocals := 2, code := prog_82_method_2_code, exceptionTable := #[], attributes := #[] }
def k7m1 : Method := { name := "setAllowCreate", desc := "(Z)Lcom/example/persimmon/persimmon/engine/EnvironmentConfig;", sig := { parameters := [.boolean], returnType := some (.object "com/example/persimmon/persimmon/engine/EnvironmentConfig") }, accessFlags := 1, code := some k7c1 }
def k7c2 : Code := { maxStack := 1, maxLocals := 1, code := prog_82_method_3_code, exceptionTable := #[], attributes := #[] }
def k7m2 : Method := { name := "getAllowCreate", desc := "()Z", sig := { parameters := [], returnType := some .boolean }, accessFlags := 1, code := some k7c2 }
def k7c3 : Code := { maxStack := 3, maxLocals := 2, code := prog_82_method_4_code, exceptionTable := #[], attributes := #[] }
def k7m3 : Method := { name := "setDurability", desc := "(Lcom/example/persimmon/persimmon/engine/Durability;)Lcom/example/persimmon/persimmon/engine/EnvironmentConfig;", sig := { parameters := [(.object "com/example/persimmon/persimmon/engine/Durability")], returnType := some (.object "com/example/persimmon/persimmon/engine/EnvironmentConfig") }, accessFlags := 1, code := some k7c3 }
def k7c4 : Code := { maxStack := 1, maxLocals := 1, code := prog_82_method_5_code, exceptionTable := #[], attributes := #[] }
def k7m4 : Method := { name := "getDurability", desc := "()Lcom/example/persimmon/persimmon/engine/Durability;", sig := { parameters := [], returnType := some (.object "com/example/persimmon/persimmon/engine/Durability") }, accessFlags := 1, code := some k7c4 }
def k7c5 : Code := { maxStack := 1, maxLocals := 1, code := prog_82_method_7_code, exceptionTable := #[], attributes := #[] }
def k7m5 : Method := { name := "getLockTimeout", desc := "()Ljava/time/Duration;", sig := { parameters := [], returnType := some (.object "java/time/Duration") }, accessFlags := 1, code := some k7c5 }
/-- com/example/persimmon/persimmon/engine/EnvironmentConfig -/
def k7 : Class := { plain "com/example/persimmon/persimmon/engine/EnvironmentConfig" (some 0) with
  accessFlags := 49
  interfaces := #[]
  cf := some (fileOf pool7 14 #[] #[{ accessFlags := 1, nameIndex := 5, descriptorIndex := 6, attributes := #[] }, { accessFlags := 1, nameIndex := 63, descriptorIndex := 64, attributes := #[] }, { accessFlags := 1, nameIndex := 65, descriptorIndex := 45, attributes := #[] }, { accessFlags := 1, nameIndex := 66, descriptorIndex := 67, attributes := #[] }, { accessFlags := 1, nameIndex := 68, descriptorIndex := 69, attributes := #[] }, { accessFlags := 1, nameIndex := 73, descriptorIndex := 74, attributes := #[] }] 49 2 #[] #[{ accessFlags := 2, nameIndex := 32, descriptorIndex := 33, attributes := #[] }, { accessFlags := 2, nameIndex := 17, descriptorIndex := 12, attributes := #[] }, { accessFlags := 2, nameIndex := 28, descriptorIndex := 29, attributes := #[] }])
  fields := #[{ name := "allowCreate", type := .boolean, accessFlags := 2, slot := 0, constantValue := 0 }, { name := "durability", type := (.object "com/example/persimmon/persimmon/engine/Durability"), accessFlags := 2, slot := 1, constantValue := 0 }, { name := "lockTimeout", type := (.object "java/time/Duration"), accessFlags := 2, slot := 2, constantValue := 0 }]
  methods := #[k7m0, k7m1, k7m2, k7m3, k7m4, k7m5]
  instanceTypes := #[.boolean, (.object "com/example/persimmon/persimmon/engine/Durability"), (.object "java/time/Duration")]
  staticTypes := #[]
  resolved := Array.replicate 92 none
  statics := none }

def pool8 : Array CpInfo := pool [(1, .class_ 2), (0, u "java/time/temporal/TemporalAmount"), (0, .class_ 4), (0, u "java/lang/Object")] 11

/-- java/time/temporal/TemporalAmount -/
def k8 : Class := { plain "java/time/temporal/TemporalAmount" (some 0) with
  accessFlags := 1537
  interfaces := #[]
  cf := some (fileOf pool8 1 #[] #[] 1537 3 #[] #[])
  fields := #[]
  methods := #[]
  instanceTypes := #[]
  staticTypes := #[]
  resolved := Array.replicate 16 none
  statics := none }

def pool9 : Array CpInfo := pool [(10, .methodref 11 12), (0, .class_ 13), (0, .nameAndType 14 15), (0, u "java/time/Duration"), (0, u "create"), (0, u "(JI)Ljava/time/Duration;"), (12, .long 1000), (1, .integer 1000000), (3, u "ZERO"), (0, u "Ljava/time/Duration;"), (13, .class_ 51), (1, u "java/time/temporal/TemporalAmount"), (27, .class_ 81), (1, u "java/time/Duration$Lazy"), (35, u "seconds"), (21, u "<init>"), (17, .nameAndType 139 158), (0, u "()V"), (40, u "(J)Ljava/time/Duration;"), (15, .methodref 11 216), (0, .nameAndType 139 217), (0, u "(JI)V"), (0, .methodref 219 157), (0, .class_ 220), (0, u "java/lang/Object"), (0, .fieldref 11 222), (0, .nameAndType 117 223), (0, u "J"), (0, .fieldref 11 225), (0, .nameAndType 226 227), (0, u "nanos"), (0, u "I"), (11, .class_ 241), (1, u "java/time/Duration$DurationUnits"), (27, .class_ 271), (1, u "java/time/Duration$1"), (91, u "BI_NANOS_PER_SECOND"), (0, u "Ljava/math/BigInteger;"), (120, .class_ 486), (0, u "java/lang/Comparable"), (0, .class_ 488), (0, u "java/io/Serializable"), (0, u "serialVersionUID"), (12, u "ofMillis")] 153

def k9c0 : Code := { maxStack := 4, maxLocals := 5, code := jdk_2316_method_6_code, exceptionTable := #[], attributes := #[] }
def k9m0 : Method := { name := "ofMillis", desc := "(J)Ljava/time/Duration;", sig := { parameters := [.long], returnType := some (.object "java/time/Duration") }, accessFlags := 9, code := some k9c0 }
def k9c1 : Code := { maxStack := 5, maxLocals := 3, code := jdk_2316_method_16_code, exceptionTable := #[], attributes := #[] }
def k9m1 : Method := { name := "create", desc := "(JI)Ljava/time/Duration;", sig := { parameters := [.long, .int], returnType := some (.object "java/time/Duration") }, accessFlags := 10, code := some k9c1 }
def k9c2 : Code := { maxStack := 3, maxLocals := 4, code := jdk_2316_method_17_code, exceptionTable := #[], attributes := #[] }
def k9m2 : Method := { name := "<init>", desc := "(JI)V", sig := { parameters := [.long, .int], returnType := none }, accessFlags := 2, code := some k9c2 }
/-- java/time/Duration -/
def k9 : Class := { plain "java/time/Duration" (some 0) with
  accessFlags := 49
  interfaces := #[8, 3, 4]
  cf := some (fileOf pool9 11 #[.nestMembers #[269, 239, 79]] #[{ accessFlags := 9, nameIndex := 502, descriptorIndex := 199, attributes := #[] }, { accessFlags := 10, nameIndex := 14, descriptorIndex := 15, attributes := #[] }, { accessFlags := 2, nameIndex := 139, descriptorIndex := 217, attributes := #[] }] 49 219 #[49, 485, 487] #[{ accessFlags := 25, nameIndex := 34, descriptorIndex := 35, attributes := #[] }, { accessFlags := 26, nameIndex := 489, descriptorIndex := 223, attributes := #[] }, { accessFlags := 26, nameIndex := 363, descriptorIndex := 364, attributes := #[] }, { accessFlags := 18, nameIndex := 117, descriptorIndex := 223, attributes := #[] }, { accessFlags := 18, nameIndex := 226, descriptorIndex := 227, attributes := #[] }])
  fields := #[{ name := "ZERO", type := (.object "java/time/Duration"), accessFlags := 25, slot := 0, constantValue := 0 }, { name := "serialVersionUID", type := .long, accessFlags := 26, slot := 1, constantValue := 0 }, { name := "BI_NANOS_PER_SECOND", type := (.object "java/math/BigInteger"), accessFlags := 26, slot := 2, constantValue := 0 }, { name := "seconds", type := .long, accessFlags := 18, slot := 0, constantValue := 0 }, { name := "nanos", type := .int, accessFlags := 18, slot := 1, constantValue := 0 }]
  methods := #[k9m0, k9m1, k9m2]
  instanceTypes := #[.long, .int]
  staticTypes := #[(.object "java/time/Duration"), .long, (.object "java/math/BigInteger")]
  resolved := Array.replicate 656 none
  statics := none }

def pool10 : Array CpInfo := pool [(2, .class_ 4), (1, u "java/lang/CharSequence"), (42, .class_ 48), (0, u "java/lang/CharSequence$1CodePointIterator"), (10, .class_ 60), (0, u "java/lang/CharSequence$1CharIterator"), (5, .class_ 67), (0, u "java/lang/Object")] 63

/-- java/lang/CharSequence -/
def k10 : Class := { plain "java/lang/CharSequence" (some 0) with
  accessFlags := 1537
  interfaces := #[]
  cf := some (fileOf pool10 2 #[.nestMembers #[47, 59]] #[] 1537 66 #[] #[])
  fields := #[]
  methods := #[]
  instanceTypes := #[]
  staticTypes := #[]
  resolved := Array.replicate 131 none
  statics := none }

def pool11 : Array CpInfo := pool [(1, .class_ 2), (0, u "java/lang/constant/ConstantDesc"), (0, .class_ 4), (0, u "java/lang/Object")] 32

/-- java/lang/constant/ConstantDesc -/
def k11 : Class := { plain "java/lang/constant/ConstantDesc" (some 0) with
  accessFlags := 1537
  interfaces := #[]
  cf := some (fileOf pool11 1 #[] #[] 1537 3 #[] #[])
  fields := #[]
  methods := #[]
  instanceTypes := #[]
  staticTypes := #[]
  resolved := Array.replicate 37 none
  statics := none }

def pool12 : Array CpInfo := pool [(2, .class_ 4), (1, u "java/lang/Object"), (0, u "<init>"), (0, u "()V"), (3, .class_ 12), (1, u "java/lang/String"), (0, u "value"), (0, u "[B"), (2, u "coder"), (0, u "B"), (2, u "hash"), (0, u "I"), (2, u "hashIsZero"), (0, u "Z"), (13, u "COMPACT_STRINGS"), (534, .class_ 576), (0, u "java/lang/CharSequence"), (22, u "CASE_INSENSITIVE_ORDER"), (0, u "Ljava/util/Comparator;"), (500, u "serialPersistentFields"), (0, u "[Ljava/io/ObjectStreamField;"), (0, .class_ 1104), (0, u "java/lang/String$CaseInsensitiveComparator"), (1, .class_ 1107), (0, u "java/io/Serializable"), (0, .class_ 1109), (0, u "java/lang/Comparable"), (0, .class_ 1111), (0, u "java/lang/constant/Constable"), (0, .class_ 1113), (0, u "java/lang/constant/ConstantDesc"), (2, u "serialVersionUID"), (0, u "J"), (3, u "REPL"), (0, u "C"), (2, u "LATIN1"), (1, u "UTF16")] 323

def k12m0 : Method := { name := "<init>", desc := "()V", sig := { parameters := [], returnType := none }, accessFlags := 1, code := none }
/-- java/lang/String -/
def k12 : Class := { plain "java/lang/String" (some 0) with
  accessFlags := 49
  interfaces := #[4, 3, 10, 2, 11]
  cf := some (fileOf pool12 10 #[.nestMembers #[1103]] #[{ accessFlags := 1, nameIndex := 5, descriptorIndex := 6, attributes := #[] }] 49 2 #[1106, 1108, 575, 1110, 1112] #[{ accessFlags := 18, nameIndex := 13, descriptorIndex := 14, attributes := #[] }, { accessFlags := 18, nameIndex := 17, descriptorIndex := 18, attributes := #[] }, { accessFlags := 2, nameIndex := 21, descriptorIndex := 22, attributes := #[] }, { accessFlags := 2, nameIndex := 25, descriptorIndex := 26, attributes := #[] }, { accessFlags := 26, nameIndex := 1116, descriptorIndex := 1117, attributes := #[] }, { accessFlags := 24, nameIndex := 40, descriptorIndex := 26, attributes := #[] }, { accessFlags := 26, nameIndex := 1101, descriptorIndex := 1102, attributes := #[] }, { accessFlags := 26, nameIndex := 1121, descriptorIndex := 1122, attributes := #[] }, { accessFlags := 25, nameIndex := 599, descriptorIndex := 600, attributes := #[] }, { accessFlags := 24, nameIndex := 1125, descriptorIndex := 18, attributes := #[] }, { accessFlags := 24, nameIndex := 1127, descriptorIndex := 18, attributes := #[] }])
  fields := #[{ name := "value", type := (.array .byte), accessFlags := 18, slot := 0, constantValue := 0 }, { name := "coder", type := .byte, accessFlags := 18, slot := 1, constantValue := 0 }, { name := "hash", type := .int, accessFlags := 2, slot := 2, constantValue := 0 }, { name := "hashIsZero", type := .boolean, accessFlags := 2, slot := 3, constantValue := 0 }, { name := "serialVersionUID", type := .long, accessFlags := 26, slot := 0, constantValue := 0 }, { name := "COMPACT_STRINGS", type := .boolean, accessFlags := 24, slot := 1, constantValue := 0 }, { name := "serialPersistentFields", type := (.array (.object "java/io/ObjectStreamField")), accessFlags := 26, slot := 2, constantValue := 0 }, { name := "REPL", type := .char, accessFlags := 26, slot := 3, constantValue := 0 }, { name := "CASE_INSENSITIVE_ORDER", type := (.object "java/util/Comparator"), accessFlags := 25, slot := 4, constantValue := 0 }, { name := "LATIN1", type := .byte, accessFlags := 24, slot := 5, constantValue := 0 }, { name := "UTF16", type := .byte, accessFlags := 24, slot := 6, constantValue := 0 }]
  methods := #[k12m0]
  instanceTypes := #[(.array .byte), .byte, .int, .boolean]
  staticTypes := #[.long, .boolean, (.array (.object "java/io/ObjectStreamField")), .char, (.object "java/util/Comparator"), .byte, .byte]
  resolved := Array.replicate 1451 none
  statics := none }

def pool13 : Array CpInfo := pool [(2, .class_ 4), (1, u "java/lang/Object"), (0, u "<init>"), (0, u "()V"), (35, .class_ 44), (1, u "java/util/Objects"), (0, u "requireNonNull"), (48, u "(Ljava/lang/Object;Ljava/lang/String;)Ljava/lang/Object;")] 89

def k13m0 : Method := { name := "<init>", desc := "()V", sig := { parameters := [], returnType := none }, accessFlags := 2, code := none }
def k13c1 : Code := { maxStack := 3, maxLocals := 2, code := jdk_31_method_11_code, exceptionTable := #[], attributes := #[] }
def k13m1 : Method := { name := "requireNonNull", desc := "(Ljava/lang/Object;Ljava/lang/String;)Ljava/lang/Object;", sig := { parameters := [(.object "java/lang/Object"), (.object "java/lang/String")], returnType := some (.object "java/lang/Object") }, accessFlags := 9, code := some k13c1 }
/-- java/util/Objects -/
def k13 : Class := { plain "java/util/Objects" (some 0) with
  accessFlags := 49
  interfaces := #[]
  cf := some (fileOf pool13 42 #[] #[{ accessFlags := 2, nameIndex := 5, descriptorIndex := 6, attributes := #[] }, { accessFlags := 9, nameIndex := 45, descriptorIndex := 94, attributes := #[] }] 49 2 #[] #[])
  fields := #[]
  methods := #[k13m0, k13m1]
  instanceTypes := #[]
  staticTypes := #[]
  resolved := Array.replicate 184 none
  statics := none }

def pool14 : Array CpInfo := pool [(1, u "java/lang/Cloneable"), (0, .class_ 1), (0, u "java/lang/Object"), (0, .class_ 3)] 3

/-- java/lang/Cloneable -/
def k14 : Class := { plain "java/lang/Cloneable" (some 0) with
  accessFlags := 1537
  interfaces := #[]
  cf := some (fileOf pool14 2 #[] #[] 1537 4 #[] #[])
  fields := #[]
  methods := #[]
  instanceTypes := #[]
  staticTypes := #[]
  resolved := Array.replicate 8 none
  statics := none }

/-- the primitive byte -/
def k15 : Class := { plain "byte" none with kind := .primitive 'B', accessFlags := 0x411 }
/-- [B -/
def k16 : Class := { plain "[B" (some 0) with kind := .array 15 .byte, interfaces := #[14, 4], accessFlags := 1041 }

def heap : Heap := #[{ cls := 6, slots := #[.ref 1, .ref 2, .null], vm := .statics 6 },
  { cls := 6, slots := #[.null, .int 0, .int 0], vm := .none },
  { cls := 6, slots := #[.null, .int 0, .int 0], vm := .none }]
def classes : Array Class := #[k0, k1, k2, k3, k4, k5, k6, k7, k8, k9, k10, k11, k12, k13, k14, k15, k16]
def interned : List (Array UInt16 × Addr) := []
def slotsUsed : Nat := 9
def theMethod : MethodId := ⟨1, 2⟩
def args0 : Array Value := #[.int 5, .int 3, .int 1]
def aboutOver (below : List Frame) : State where
  vm := { classes := classes, interned := interned.toArray }
  heap := heap
  slotsUsed := slotsUsed
  threads := #[{ frames := .invoking theMethod args0 :: below }]
def below0 : List Frame := [.native { method := ⟨0, 0⟩, args := #[] }]
def about1 : State := aboutOver below0
def p0 : Program := .bare "" "" ""
def e0 : Env := launch0.env 0 0 0
theorem w_frames : about1.frames = Frame.invoking theMethod args0 :: below0 := rfl
set_option maxRecDepth 65536 in
theorem w_args : argsFit about1.vm theMethod args0 = true := by decide +kernel
set_option maxRecDepth 65536 in
theorem w_heap : heapFits about1 = true := by decide +kernel
set_option maxRecDepth 65536 in
theorem w_runnable : about1.curStatus? = some .runnable := by decide +kernel
set_option maxRecDepth 65536 in
theorem w_alone : about1.alone = true := by decide +kernel
set_option maxRecDepth 65536 in
theorem w_named : about1.methodNamed? x = some theMethod := by decide +kernel
set_option maxRecDepth 65536 in
theorem w_hears : about1.hears theMethod below0 = true := by decide +kernel
set_option maxRecDepth 65536 in
theorem w_ripe : about1.ripe theMethod args0 below0 = true := by decide +kernel
theorem w_running : about1.status = .running := rfl
set_option maxRecDepth 65536 in
theorem w_room : about1.hasRoom e0.platform room_1 = true :=
  launch0.hasRoom_least _ room_1 (by decide +kernel) (by decide +kernel) (by decide +kernel) (by decide +kernel) (by decide +kernel) (by decide +kernel)
theorem allAtoms_all (ts : List Jvm.Cond) (a : Array Jvm.Value) (st : Jvm.State) : (allAtoms ts).before a st = ts.all (fun c => c.before a st) := by
  induction ts with
  | nil => rfl
  | cons c t ih =>
    show (Jvm.Cond.and c (allAtoms t)).before a st = _
    rw [Jvm.Cond.before_and, ih, List.all_cons]
def words1 : List Jvm.Cond := Jvm.Cond.code x code maxLocals ret :: tables_1
/-- a 'code' word, met by the world's own term for the bytes: nothing is compared byte by byte -/
theorem code_word {y : MethodName} {bytes : ByteArray} {mx : Nat} {rt : Option FieldType} {a : Array Value} {s : State} {m : MethodId} {meth : Method} {c : Code} (h1 : s.methodNamed? y = some m) (h2 : s.vm.method? m = some meth) (h3 : meth.code = some c) (h4 : c.code = bytes)
    (h5 : (c.maxLocals == mx && c.exceptionTable.isEmpty && decide (c.maxStack ≤ mostOperands) && decide (meth.sig.returnType = rt) && !meth.locks && decide (parseMethodDescriptor y.desc = some meth.sig)) = true) : (Jvm.Cond.code y bytes mx rt).before a s = true := by
  simp only [Bool.and_eq_true, beq_iff_eq, Bool.not_eq_true', decide_eq_true_eq] at h5
  obtain ⟨⟨⟨⟨⟨g1, g2⟩, g3⟩, g4⟩, g5⟩, g6⟩ := h5
  simp [Cond.before, Cond.holds, Cond.value, h1, h2, h3, h4, g1, g2, g3, g4, g5, g6]
def isCode : Jvm.Cond → Bool
  | .code _ _ _ _ => true
  | _ => false
theorem all_split {L : List Jvm.Cond} {P : Jvm.Cond → Bool} (h1 : L.all (fun c => isCode c || P c) = true) (h2 : ∀ c ∈ L.filter isCode, P c = true) : L.all P = true := by
  refine List.all_eq_true.mpr fun c hc => ?_
  have h := List.all_eq_true.mp h1 c hc
  rcases Bool.eq_false_or_eq_true (isCode c) with hi | hi
  · exact h2 c (List.mem_filter.mpr ⟨hc, hi⟩)
  · simpa [hi] using h
set_option maxRecDepth 65536 in
theorem w_c0 : (Jvm.Cond.code x code maxLocals ret).before args0 about1 = true := code_word (m := ⟨1, 2⟩) (meth := k1m2) (c := k1c2) (by decide +kernel) rfl rfl rfl (by decide +kernel)
set_option maxRecDepth 65536 in
theorem w_c1 : (Jvm.Cond.code ({ cls := "com/example/persimmon/persimmon/engine/EnvironmentConfigSetDurabilityPinLaw", name := "pick", desc := "(I)Lcom/example/persimmon/persimmon/engine/Durability;" } : Jvm.MethodName) method_2_code (1 : Nat) (Option.some (Jvm.ClassFile.FieldType.object "com/example/persimmon/persimmon/engine/Durability"))).before args0 about1 = true := code_word (m := ⟨1, 1⟩) (meth := k1m1) (c := k1c1) (by decide +kernel) rfl rfl rfl (by decide +kernel)
set_option maxRecDepth 65536 in
theorem w_c2 : (Jvm.Cond.code ({ cls := "com/example/persimmon/persimmon/engine/EnvironmentConfig", name := "<init>", desc := "()V" } : Jvm.MethodName) prog_82_method_1_code (1 : Nat) (Option.none : Option Jvm.ClassFile.FieldType)).before args0 about1 = true := code_word (m := ⟨7, 0⟩) (meth := k7m0) (c := k7c0) (by decide +kernel) rfl rfl rfl (by decide +kernel)
set_option maxRecDepth 65536 in
theorem w_c3 : (Jvm.Cond.code ({ cls := "java/lang/Object", name := "<init>", desc := "()V" } : Jvm.MethodName) object_method_1_code (1 : Nat) (Option.none : Option Jvm.ClassFile.FieldType)).before args0 about1 = true := code_word (m := ⟨0, 0⟩) (meth := k0m0) (c := k0c0) (by decide +kernel) rfl rfl rfl (by decide +kernel)
set_option maxRecDepth 65536 in
theorem w_c4 : (Jvm.Cond.code ({ cls := "java/time/Duration", name := "ofMillis", desc := "(J)Ljava/time/Duration;" } : Jvm.MethodName) jdk_2316_method_6_code (5 : Nat) (Option.some (Jvm.ClassFile.FieldType.object "java/time/Duration"))).before args0 about1 = true := code_word (m := ⟨9, 0⟩) (meth := k9m0) (c := k9c0) (by decide +kernel) rfl rfl rfl (by decide +kernel)
set_option maxRecDepth 65536 in
theorem w_c5 : (Jvm.Cond.code ({ cls := "java/time/Duration", name := "create", desc := "(JI)Ljava/time/Duration;" } : Jvm.MethodName) jdk_2316_method_16_code (3 : Nat) (Option.some (Jvm.ClassFile.FieldType.object "java/time/Duration"))).before args0 about1 = true := code_word (m := ⟨9, 1⟩) (meth := k9m1) (c := k9c1) (by decide +kernel) rfl rfl rfl (by decide +kernel)
set_option maxRecDepth 65536 in
theorem w_c6 : (Jvm.Cond.code ({ cls := "java/time/Duration", name := "<init>", desc := "(JI)V" } : Jvm.MethodName) jdk_2316_method_17_code (4 : Nat) (Option.none : Option Jvm.ClassFile.FieldType)).before args0 about1 = true := code_word (m := ⟨9, 2⟩) (meth := k9m2) (c := k9c2) (by decide +kernel) rfl rfl rfl (by decide +kernel)
set_option maxRecDepth 65536 in
theorem w_c7 : (Jvm.Cond.code ({ cls := "com/example/persimmon/persimmon/engine/EnvironmentConfig", name := "setAllowCreate", desc := "(Z)Lcom/example/persimmon/persimmon/engine/EnvironmentConfig;" } : Jvm.MethodName) prog_82_method_2_code (2 : Nat) (Option.some (Jvm.ClassFile.FieldType.object "com/example/persimmon/persimmon/engine/EnvironmentConfig"))).before args0 about1 = true := code_word (m := ⟨7, 1⟩) (meth := k7m1) (c := k7c1) (by decide +kernel) rfl rfl rfl (by decide +kernel)
set_option maxRecDepth 65536 in
theorem w_c8 : (Jvm.Cond.code ({ cls := "com/example/persimmon/persimmon/engine/EnvironmentConfig", name := "getLockTimeout", desc := "()Ljava/time/Duration;" } : Jvm.MethodName) prog_82_method_7_code (1 : Nat) (Option.some (Jvm.ClassFile.FieldType.object "java/time/Duration"))).before args0 about1 = true := code_word (m := ⟨7, 5⟩) (meth := k7m5) (c := k7c5) (by decide +kernel) rfl rfl rfl (by decide +kernel)
set_option maxRecDepth 65536 in
theorem w_c9 : (Jvm.Cond.code ({ cls := "com/example/persimmon/persimmon/engine/EnvironmentConfig", name := "setDurability", desc := "(Lcom/example/persimmon/persimmon/engine/Durability;)Lcom/example/persimmon/persimmon/engine/EnvironmentConfig;" } : Jvm.MethodName) prog_82_method_4_code (2 : Nat) (Option.some (Jvm.ClassFile.FieldType.object "com/example/persimmon/persimmon/engine/EnvironmentConfig"))).before args0 about1 = true := code_word (m := ⟨7, 3⟩) (meth := k7m3) (c := k7c3) (by decide +kernel) rfl rfl rfl (by decide +kernel)
set_option maxRecDepth 65536 in
theorem w_c10 : (Jvm.Cond.code ({ cls := "java/util/Objects", name := "requireNonNull", desc := "(Ljava/lang/Object;Ljava/lang/String;)Ljava/lang/Object;" } : Jvm.MethodName) jdk_31_method_11_code (2 : Nat) (Option.some (Jvm.ClassFile.FieldType.object "java/lang/Object"))).before args0 about1 = true := code_word (m := ⟨13, 1⟩) (meth := k13m1) (c := k13c1) (by decide +kernel) rfl rfl rfl (by decide +kernel)
set_option maxRecDepth 65536 in
theorem w_c11 : (Jvm.Cond.code ({ cls := "com/example/persimmon/persimmon/engine/EnvironmentConfig", name := "getDurability", desc := "()Lcom/example/persimmon/persimmon/engine/Durability;" } : Jvm.MethodName) prog_82_method_5_code (1 : Nat) (Option.some (Jvm.ClassFile.FieldType.object "com/example/persimmon/persimmon/engine/Durability"))).before args0 about1 = true := code_word (m := ⟨7, 4⟩) (meth := k7m4) (c := k7c4) (by decide +kernel) rfl rfl rfl (by decide +kernel)
set_option maxRecDepth 65536 in
theorem w_c12 : (Jvm.Cond.code ({ cls := "com/example/persimmon/persimmon/engine/EnvironmentConfig", name := "getAllowCreate", desc := "()Z" } : Jvm.MethodName) prog_82_method_3_code (1 : Nat) (Option.some Jvm.ClassFile.FieldType.boolean)).before args0 about1 = true := code_word (m := ⟨7, 2⟩) (meth := k7m2) (c := k7c2) (by decide +kernel) rfl rfl rfl (by decide +kernel)
def codes1 : List Jvm.Cond := [Jvm.Cond.code x code maxLocals ret, Jvm.Cond.code ({ cls := "com/example/persimmon/persimmon/engine/EnvironmentConfigSetDurabilityPinLaw", name := "pick", desc := "(I)Lcom/example/persimmon/persimmon/engine/Durability;" } : Jvm.MethodName) method_2_code (1 : Nat) (Option.some (Jvm.ClassFile.FieldType.object "com/example/persimmon/persimmon/engine/Durability")), Jvm.Cond.code ({ cls := "com/example/persimmon/persimmon/engine/EnvironmentConfig", name := "<init>", desc := "()V" } : Jvm.MethodName) prog_82_method_1_code (1 : Nat) (Option.none : Option Jvm.ClassFile.FieldType), Jvm.Cond.code ({ cls := "java/lang/Object", name := "<init>", desc := "()V" } : Jvm.MethodName) object_method_1_code (1 : Nat) (Option.none : Option Jvm.ClassFile.FieldType), Jvm.Cond.code ({ cls := "java/time/Duration", name := "ofMillis", desc := "(J)Ljava/time/Duration;" } : Jvm.MethodName) jdk_2316_method_6_code (5 : Nat) (Option.some (Jvm.ClassFile.FieldType.object "java/time/Duration")), Jvm.Cond.code ({ cls := "java/time/Duration", name := "create", desc := "(JI)Ljava/time/Duration;" } : Jvm.MethodName) jdk_2316_method_16_code (3 : Nat) (Option.some (Jvm.ClassFile.FieldType.object "java/time/Duration")), Jvm.Cond.code ({ cls := "java/time/Duration", name := "<init>", desc := "(JI)V" } : Jvm.MethodName) jdk_2316_method_17_code (4 : Nat) (Option.none : Option Jvm.ClassFile.FieldType), Jvm.Cond.code ({ cls := "com/example/persimmon/persimmon/engine/EnvironmentConfig", name := "setAllowCreate", desc := "(Z)Lcom/example/persimmon/persimmon/engine/EnvironmentConfig;" } : Jvm.MethodName) prog_82_method_2_code (2 : Nat) (Option.some (Jvm.ClassFile.FieldType.object "com/example/persimmon/persimmon/engine/EnvironmentConfig")), Jvm.Cond.code ({ cls := "com/example/persimmon/persimmon/engine/EnvironmentConfig", name := "getLockTimeout", desc := "()Ljava/time/Duration;" } : Jvm.MethodName) prog_82_method_7_code (1 : Nat) (Option.some (Jvm.ClassFile.FieldType.object "java/time/Duration")), Jvm.Cond.code ({ cls := "com/example/persimmon/persimmon/engine/EnvironmentConfig", name := "setDurability", desc := "(Lcom/example/persimmon/persimmon/engine/Durability;)Lcom/example/persimmon/persimmon/engine/EnvironmentConfig;" } : Jvm.MethodName) prog_82_method_4_code (2 : Nat) (Option.some (Jvm.ClassFile.FieldType.object "com/example/persimmon/persimmon/engine/EnvironmentConfig")), Jvm.Cond.code ({ cls := "java/util/Objects", name := "requireNonNull", desc := "(Ljava/lang/Object;Ljava/lang/String;)Ljava/lang/Object;" } : Jvm.MethodName) jdk_31_method_11_code (2 : Nat) (Option.some (Jvm.ClassFile.FieldType.object "java/lang/Object")), Jvm.Cond.code ({ cls := "com/example/persimmon/persimmon/engine/EnvironmentConfig", name := "getDurability", desc := "()Lcom/example/persimmon/persimmon/engine/Durability;" } : Jvm.MethodName) prog_82_method_5_code (1 : Nat) (Option.some (Jvm.ClassFile.FieldType.object "com/example/persimmon/persimmon/engine/Durability")), Jvm.Cond.code ({ cls := "com/example/persimmon/persimmon/engine/EnvironmentConfig", name := "getAllowCreate", desc := "()Z" } : Jvm.MethodName) prog_82_method_3_code (1 : Nat) (Option.some Jvm.ClassFile.FieldType.boolean)]
set_option maxRecDepth 65536 in
theorem codes_eq : words1.filter isCode = codes1 := rfl
theorem w_codes : ∀ c ∈ words1.filter isCode, c.before args0 about1 = true := by
  rw [codes_eq]
  intro c hc
  simp only [codes1, List.mem_cons, List.not_mem_nil, or_false] at hc
  rcases hc with rfl | rfl | rfl | rfl | rfl | rfl | rfl | rfl | rfl | rfl | rfl | rfl | rfl
  · exact w_c0
  · exact w_c1
  · exact w_c2
  · exact w_c3
  · exact w_c4
  · exact w_c5
  · exact w_c6
  · exact w_c7
  · exact w_c8
  · exact w_c9
  · exact w_c10
  · exact w_c11
  · exact w_c12
set_option maxRecDepth 65536 in
theorem w_t1 : (words1.take 24).all (fun c => isCode c || c.before args0 about1) = true := by decide +kernel
set_option maxRecDepth 65536 in
theorem w_t2 : ((words1.drop 24).take 24).all (fun c => isCode c || c.before args0 about1) = true := by decide +kernel
set_option maxRecDepth 65536 in
theorem w_t3 : (((words1.drop 24).drop 24).take 24).all (fun c => isCode c || c.before args0 about1) = true := by decide +kernel
set_option maxRecDepth 65536 in
theorem w_t4 : (((words1.drop 24).drop 24).drop 24).all (fun c => isCode c || c.before args0 about1) = true := by decide +kernel
theorem w_tables : (allAtoms (Jvm.Cond.code x code maxLocals ret :: tables_1)).before args0 about1 = true := by
  rw [allAtoms_all]
  show words1.all (fun c => c.before args0 about1) = true
  refine all_split ?_ w_codes
  rw [← List.take_append_drop 24 words1, List.all_append, w_t1, ← List.take_append_drop 24 (words1.drop 24), List.all_append, w_t2, ← List.take_append_drop 24 ((words1.drop 24).drop 24), List.all_append, w_t3, w_t4]
  rfl
set_option maxRecDepth 65536 in
theorem w_case : (Jvm.Cond.and given_1 narrow_1).before args0 about1 = true := by decide +kernel
theorem w_applies : (headSpec (Jvm.Cond.code x code maxLocals ret :: tables_1) room_1).applies x e0.platform about1 = true :=
  (Spec.applies_iff w_frames).mpr ⟨w_running, w_runnable, w_alone, w_named, w_hears, w_ripe, w_room, w_tables⟩
theorem atStart : AtStart classFile x code maxLocals ret World_1 tables_1 room_1 Calls_1 rest_1 Pre_1 launch0 p0 e0 about1 theMethod args0 below0 :=
  ⟨lists_1, trivial, launch0.admits_env _ _ _, launch0.least_env, fairChoices_fair.cas, fairChoices_fair.clock, w_frames, w_args, w_heap, w_applies, trivial, trivial, w_case⟩
end start1
theorem witness_1 : WitnessClaimed_1 := ⟨start1.p0, start1.e0, start1.about1, start1.theMethod, start1.args0, start1.below0, start1.atStart⟩
end Jvm.Pilot.@@N@@
