import JvmDerived
import JvmDerived.Pilot.@@N@@Statement
import JvmDerived.Pilot.@@N@@Code
set_option linter.unusedVariables false
set_option linter.unusedSimpArgs false
namespace Jvm.RoadKit
open Sem ClassFile Op Lib Jvm.Stand Jvm.Free Jvm.LawKit
section New
variable {p : Program} {l : Launch} {e : Env} {R : Room} {s : State} {m : MethodId} {args : Array Value} {below : List Frame} {meth : Method} {c : Code} {T : State} {locs : List Loc} {cells slots : Nat}
theorem retI (X : Stand p l e R s m args below meth c T locs cells slots) (hx : p.tables.exec = Jvm.exec) {pc : Nat} {Ls : Array Slot} {z : Int32} {rest : List Value} (hret : meth.sig.returnType = some .int) (hd : decode c.code pc = .ok (.ireturn, 1)) {fs : List Frame}
    (hl : ∀ (f : JFrame) (acts : List Action), f.method = m → f.locked = none → f.entered = [] → (doReturn e (T.setTop f) acts (some (.int z))).1 = T.setFrames fs) : Steps p.tables e below (T.setTop (mkF m pc Ls (.int z :: rest))) (T.setFrames fs) := by
  have hm' : T.vm.method? m = some meth := X.method'
  have hn : narrow .int (.int z) = .int z := rfl
  show Steps p.tables e below (T.setTop { method := m, pc := pc, locals := Ls, stack := _ :: rest, locked := none }) _
  jvm_step X.here [X.here.top, hx, hd, hm', hret, hn]
  first | (intro acts; rw [hl _ acts rfl rfl rfl]) | rw [hl _ _ rfl rfl rfl]
  exact Steps.refl _
end New
end Jvm.RoadKit
namespace Jvm.Pilot.@@N@@
open Jvm Jvm.ClassFile Sem Op Lib Jvm.Free Jvm.Stand Jvm.LawKit Jvm.RoadKit Bundle Jvm.Pilot.@@N@@.Jvm.D
theorem own_strs {Z : State} {a0 : Array Value} (hw : ∀ d ∈ tables_1, d.before a0 Z = true) : ∀ d ∈ Bundle.stringAtoms, d.before a0 Z = true := fun d hd => by
  simp only [Bundle.stringAtoms, List.mem_cons, List.not_mem_nil, or_false] at hd
  rcases hd with rfl | rfl | rfl | rfl | rfl | rfl | rfl
  · exact hw _ (List.mem_of_getElem? (i := 24) rfl)
  · exact hw _ (List.mem_of_getElem? (i := 33) rfl)
  · exact hw _ (List.mem_of_getElem? (i := 25) rfl)
  · exact hw _ (List.mem_of_getElem? (i := 34) rfl)
  · exact hw _ (List.mem_of_getElem? (i := 35) rfl)
  · exact hw _ (List.mem_of_getElem? (i := 36) rfl)
  · exact hw _ (List.mem_of_getElem? (i := 37) rfl)
theorem own_sta_keep {Z : State} {h h' : Heap} {C n d : String} {v : Value} {ws : List Addr} (F : Sta Z h C n d v) (K : Keep h h' ws) (hs : ∀ x ∈ ws, ∀ cell : Cell, h[x]? = some cell → cell.vm.isStatics = false) : Sta Z h' C n d v := by
  obtain ⟨cf, i, k, f, st, cell, h1, h2, h3, h4, h5, h6, h7⟩ := F
  exact ⟨cf, i, k, f, st, cell, h1, h2, h3, h4, K.2.1 st cell h5 (fun q => by have e := hs st q cell h5; rw [e] at h6; cases h6), h6, h7⟩
theorem own_arr_keep {Z : State} {h h' : Heap} {a : Addr} {c : Cell} {ty : FieldType} {ws : List Addr} (A : Arr Z h a c ty) (K : Keep h h' ws) (q : a ∉ ws) : Arr Z h' a c ty := ⟨K.2.1 a c A.1 q, A.2⟩
theorem own_sel {Z s : State} {a0 args : Array Value} {y : MethodName} {k : Nat} (hZ : Z.Warmed39 s.vm) (wi : (Cond.instantiable y.cls k).before a0 Z = true) (wp : (Cond.privateMethod y).before a0 Z = true) (wm : (Cond.instanceMethod y).before a0 Z = true) (hy : y.cls ≠ "java/lang/invoke/MethodHandle" ∧ y.cls ≠ "java/lang/invoke/VarHandle") : (Cond.selects y.cls y y).before args s = true := by
  obtain ⟨c, kk, h1, h2, -, h4, -⟩ := Cond.instantiable_spec (mvT (s := s) (args := args) hZ wi)
  exact selects_self_of_private h1 h2 (Bool.or_eq_false_iff.mp h4).1 (Cond.privateMethod_at (mvP hZ wp (args := args))) (mvT hZ wm) hy
theorem own_shr0 (z : Int32) : (z >>> ((0 : Int32) &&& 31)) = z := by
  have e : ((0 : Int32) &&& 31) = 0 := by decide
  rw [e, Int32.shiftRight_zero]
theorem own_shl0 (z : Int32) : (z <<< ((0 : Int32) &&& 31)) = z := by
  have e : ((0 : Int32) &&& 31) = 0 := by decide
  rw [e, Int32.shiftLeft_zero]
theorem own_shr16 : ((16 : Int32) >>> ((0 : Int32) &&& 31)) = (16 : Int32) := own_shr0 16
theorem own_sub0 (c : Int32) : (c - (0 : Int32)) = c := Int32.sub_zero c
theorem own_nn0 {z : Int32} (hz : ¬ z < 0) : z.toInt = (z.toNatClampNeg : Int) := by
  rw [Int32.lt_iff_toInt_lt] at hz
  have e : (0 : Int32).toInt = 0 := by decide
  simp only [Int32.toNatClampNeg]; omega
theorem own_ofn {z : Int32} {n : Nat} (hz : ¬ z < 0) (h : n ≤ z.toNatClampNeg) : (Int32.ofNat n).toInt = (n : Int) := by
  have h1 := own_nn0 hz
  have h2 := z.toInt_lt
  exact Int32.toInt_ofNat_of_lt (by omega)
theorem own_at {z : Int32} {n : Nat} (hz : ¬ z < 0) (h : n = z.toNatClampNeg) : Int32.ofNat n = z := by
  rw [← Int32.toInt_inj, own_ofn hz (by omega), own_nn0 hz, h]
theorem own_lti {z : Int32} {n : Nat} (hz : ¬ z < 0) (h : n < z.toNatClampNeg) : ¬ Int32.ofNat n < 0 ∧ Int32.ofNat n < z := by
  have h1 := own_nn0 hz
  have h2 := own_ofn hz (Nat.le_of_lt h)
  have e : (0 : Int32).toInt = 0 := by decide
  rw [Int32.lt_iff_toInt_lt, Int32.lt_iff_toInt_lt]; omega
theorem own_clamp {z : Int32} {n : Nat} (hz : ¬ z < 0) (h : n < z.toNatClampNeg) : (Int32.ofNat n).toNatClampNeg = n := by
  have h2 := own_ofn hz (Nat.le_of_lt h)
  simp only [Int32.toNatClampNeg, h2]; omega
theorem own_succ {z : Int32} {n : Nat} (hz : ¬ z < 0) (h : n < z.toNatClampNeg) : Int32.ofNat n + (1 : Int32) = Int32.ofNat (n + 1) := by
  have h1 := own_nn0 hz
  have h2 := own_ofn hz (Nat.le_of_lt h)
  have h3 := own_ofn (n := n + 1) hz h
  have h4 := z.toInt_lt
  have e : (1 : Int32).toInt = 1 := by decide
  rw [← Int32.toInt_inj, Int32.toInt_add, h2, h3, e, Int.bmod_eq_of_le (by omega) (by omega)]; omega
theorem own_nn (p : Int32) : 0 ≤ (p &&& (2147483647 : Int32)).toInt ∧ (p &&& (2147483647 : Int32)).toInt ≤ 2147483647 := by
  have h2 : (p &&& (2147483647 : Int32)).toInt = (p.toBitVec &&& 2147483647#32).toInt := rfl
  rw [h2, BitVec.toInt_eq_toNat_cond, BitVec.toNat_and]
  have h3 : p.toBitVec.toNat &&& (2147483647#32).toNat ≤ 2147483647 := Nat.and_le_right
  omega
theorem own_rem5 (p : Int32) : ((p &&& (2147483647 : Int32)) - (p &&& (2147483647 : Int32)) / (5 : Int32) * (5 : Int32)) = 0 ∨ ((p &&& (2147483647 : Int32)) - (p &&& (2147483647 : Int32)) / (5 : Int32) * (5 : Int32)) = 1 ∨ ((p &&& (2147483647 : Int32)) - (p &&& (2147483647 : Int32)) / (5 : Int32) * (5 : Int32)) = 2 ∨ ((p &&& (2147483647 : Int32)) - (p &&& (2147483647 : Int32)) / (5 : Int32) * (5 : Int32)) = 3 ∨ ((p &&& (2147483647 : Int32)) - (p &&& (2147483647 : Int32)) / (5 : Int32) * (5 : Int32)) = 4 := by
  have h := own_nn p
  have e : ((5 : Int32)).toInt = 5 := by decide
  generalize (p &&& (2147483647 : Int32)) = x at h
  have h1 : (x / (5 : Int32)).toInt = x.toInt / 5 := by
    rw [Int32.toInt_div, e, Int.tdiv_eq_ediv_of_nonneg h.1, Int.bmod_eq_of_le] <;> omega
  have h2 : (x / (5 : Int32) * (5 : Int32)).toInt = x.toInt / 5 * 5 := by
    rw [Int32.toInt_mul, h1, e, Int.bmod_eq_of_le] <;> omega
  have h3 : (x - x / (5 : Int32) * (5 : Int32)).toInt = x.toInt - x.toInt / 5 * 5 := by
    rw [Int32.toInt_sub, h2, Int.bmod_eq_of_le] <;> omega
  have : ((0 : Int32)).toInt = 0 ∧ ((1 : Int32)).toInt = 1 ∧ ((2 : Int32)).toInt = 2 ∧ ((3 : Int32)).toInt = 3 ∧ ((4 : Int32)).toInt = 4 := by decide
  simp only [← Int32.toInt_inj]
  omega
theorem own_n97 : nar .byte (97 : Int32) = (97 : Int32) := by decide
def own_cut (c : Int32) (vs : List Value) : List Value := (([] ++ List.replicate (c).toNatClampNeg (Value.int (0 : Int32))).take ((0 : Int32)).toNatClampNeg ++ ((List.range (c).toNatClampNeg).map fun i => vs.getD ((0 : Int32).toNatClampNeg + i) (.int (0 : Int32))) ++ ([] ++ List.replicate (c).toNatClampNeg (Value.int (0 : Int32))).drop (((0 : Int32)).toNatClampNeg + (c).toNatClampNeg))
def own_isI : Value → Bool
  | .int _ => true
  | _ => false
theorem own_isI_v {v : Value} (h : own_isI v = true) : ∃ x : Int32, v = .int x := by cases v <;> first | exact ⟨_, rfl⟩ | cases h
theorem own_ints (vs : List Value) (i : Nat) (h : vs.all own_isI = true) : ∃ v : Int32, vs.getD i (.int (0 : Int32)) = .int v := by
  refine own_isI_v ?_
  rw [List.getD_eq_getElem?_getD]
  cases hq : vs[i]? with
  | none => rfl
  | some v => exact List.all_eq_true.mp h v (List.mem_of_getElem? hq)
theorem own_nref {a st : Addr} (h : a < st) : ¬ (.ref a : Value) = .ref st := fun q => by cases q; exact Nat.lt_irrefl _ h
theorem own_same {Z : State} {a0 : Array Value} {C : String} {x y : MethodName} (wm : (Cond.instanceMethod y).before a0 Z = true) (ws : (Cond.selects C x x).before a0 Z = true) (hy : y.cls ≠ "java/lang/invoke/MethodHandle" ∧ y.cls ≠ "java/lang/invoke/VarHandle") (hx : x.cls = y.cls) : (Cond.sameMethod y.cls y.cls y.name y.desc).before a0 Z = true := by
  obtain ⟨mk, methM, hnamed, -, -, -⟩ := Cond.instanceMethod_spec wm
  obtain ⟨c2, r2, m2, -, -, q3, -, kP, hkP, hkPi⟩ := Cond.selects_spec ws
  have hfound := State.methodFound?_of_named hnamed hy
  have h1 := findClass_of_methodNamed hnamed
  have h2 := findClass_of_methodNamed q3
  rw [hx, h1] at h2
  have e : mk.cls = m2.cls := Option.some.inj h2
  rw [← e] at hkP
  simp [Cond.before, Cond.holds, Cond.value, h1, hfound, hnamed, hkP, hkPi]
theorem own_sel2 {Z s : State} {a0 args : Array Value} {C : String} {x y : MethodName} (hZ : Z.Warmed39 s.vm) (ws : (Cond.selects C x x).before a0 Z = true) (wp : (Cond.privateMethod y).before a0 Z = true) (wm : (Cond.instanceMethod y).before a0 Z = true) (hy : y.cls ≠ "java/lang/invoke/MethodHandle" ∧ y.cls ≠ "java/lang/invoke/VarHandle") (hx : x.cls = y.cls) : (Cond.selects y.cls y y).before args s = true := by
  have wm' : (Cond.instanceMethod y).before args s = true := mvT hZ wm
  obtain ⟨mk, methM, hnamed, -, -, -⟩ := Cond.instanceMethod_spec wm'
  obtain ⟨c2, r2, m2, -, -, q3, -, kP, hkP, hkPi⟩ := Cond.selects_spec (mvT (s := s) (args := args) hZ ws)
  have h1 := findClass_of_methodNamed hnamed
  have h2 := findClass_of_methodNamed q3
  rw [hx, h1] at h2
  have e : mk.cls = m2.cls := Option.some.inj h2
  rw [← e] at hkP
  exact selects_self_of_private h1 hkP hkPi (Cond.privateMethod_at (mvP hZ wp (args := args))) wm' hy
theorem own_nf {Z s : State} {a0 : Array Value} {C : String} {x y : MethodName} (hZ : Z.Warmed39 s.vm) (ws : (Cond.selects C x x).before a0 Z = true) (wd : (Cond.declares y).before a0 Z = true) (hx : x.cls = y.cls) : NotFace s y := fun r0 h0 => by
  obtain ⟨c2, r2, m2, -, -, q3, -, kP, hkP, hkPi⟩ := Cond.selects_spec (mvT (s := s) (args := #[]) hZ ws)
  have h1 := findClass_of_methodNamed h0
  have h2 := findClass_of_methodNamed q3
  rw [hx, h1] at h2
  have e : r0.cls = m2.cls := Option.some.inj h2
  exact ⟨kP, by rw [e]; exact hkP, hkPi⟩
theorem own_ewl {Z : State} {a0 : Array Value} (hw : ∀ d ∈ tables_1, d.before a0 Z = true) : ∀ p ∈ consts_1, ∃ text : String, (Cond.stringLink p.1 p.2 text).before a0 Z = true ∧ (∀ c ∈ text.toList, c.toNat < 256) ∧ text.toList.length ≠ 16 := fun p hp => by
  simp only [consts_1, List.mem_cons, List.not_mem_nil, or_false] at hp
  rcases hp with rfl | rfl | rfl | rfl | rfl | rfl | rfl
  · exact ⟨_, hw _ (List.mem_of_getElem? (i := 49) rfl), by decide, by decide⟩
  · exact ⟨_, hw _ (List.mem_of_getElem? (i := 32) rfl), by decide, by decide⟩
  · exact ⟨_, hw _ (List.mem_of_getElem? (i := 232) rfl), by decide, by decide⟩
  · exact ⟨_, hw _ (List.mem_of_getElem? (i := 243) rfl), by decide, by decide⟩
  · exact ⟨_, hw _ (List.mem_of_getElem? (i := 184) rfl), by decide, by decide⟩
  · exact ⟨_, hw _ (List.mem_of_getElem? (i := 226) rfl), by decide, by decide⟩
  · exact ⟨_, hw _ (List.mem_of_getElem? (i := 242) rfl), by decide, by decide⟩
theorem own_ew {Z : State} {a0 : Array Value} (hw : ∀ d ∈ tables_1, d.before a0 Z = true) : EW Z a0 consts_1 := fun p hp => by
  obtain ⟨t, w, h, -⟩ := own_ewl hw p hp; exact ⟨t, w, h⟩
theorem own_safe {Z : State} {a0 : Array Value} {vm : Vm} {h : Heap} {b : Addr} {k : ClassId} {vs : List Value} {d : Value} (hw : ∀ d ∈ tables_1, d.before a0 Z = true) (hZ : Z.Warmed39 vm) (V : Arv Z h b k .byte (16 : Int32) vs d) : Safe Z consts_1 vm h b := fun B => by
  have hal := hZ.alike
  obtain ⟨cl, ⟨A1, ⟨-, kA, hkA, compA, hkindA⟩, -⟩, -, hsz, -⟩ := V
  obtain ⟨kA', hkA', ekA⟩ := hal.2.2 _ _ hkA
  obtain ⟨p, hp, u, a, hB, q, -, F, rfl | rfl⟩ := B
  · cases (show h[q.sa]? = some q.sC from F.ha).symm.trans A1
    obtain ⟨cS, ⟨-, -, e⟩, ⟨kS, g1, g2, -⟩, -⟩ := F
    subst e
    cases (show vm.classes[q.sC.cls]? = some kS from g1).symm.trans hkA'
    rw [ekA] at g2
    have := hkindA.symm.trans g2
    cases this
  · cases (show h[q.sd]? = some q.SA from F.hd).symm.trans A1
    obtain ⟨text, w, ht, hl16⟩ := own_ewl hw p hp
    obtain ⟨cc, kk, cf, i, g1, g2, g3, g4, g5, -⟩ := hB
    have w2 : (Cond.stringLink p.1 p.2 text).before a0 (Z.setVm vm) = true := Cond.stringLink_warmed39 hZ w
    obtain ⟨k0', cf', i', units, hkx, hcf, hp', hu, -, htext, -⟩ := Cond.stringLink_spec (s := Z.setVm vm) g1 w2
    cases g2.symm.trans hkx
    cases g3.symm.trans hcf
    cases g4.symm.trans hp'
    cases g5.symm.trans hu
    have hl := Jvm.ClassFile.lat_of_text htext ht
    have e1 := congrArg List.length (Jvm.ClassFile.units_of_text htext ht)
    obtain ⟨cS, -, -, -, hbyt⟩ := F
    have e2 : q.SA.slots.size = u.size := by rw [hbyt, Jvm.Free.SBG.stringBytes_lat hl]; simp
    have e3 : (16 : Int32).toNatClampNeg = 16 := by decide
    simp at e1
    simp at hl16
    omega
theorem d_jdk_68_method_2_0 : decode jdk_68_method_2_code 0 = .ok (.aload_n 0, 1) := by decide +kernel
theorem d_jdk_68_method_2_1 : decode jdk_68_method_2_code 1 = .ok (.invokespecial 3, 3) := by decide +kernel
theorem d_jdk_68_method_2_4 : decode jdk_68_method_2_code 4 = .ok (.getstatic 18, 3) := by decide +kernel
theorem d_jdk_68_method_2_7 : decode jdk_68_method_2_code 7 = .ok (.ifCond .eq 18, 3) := by decide +kernel
theorem d_jdk_68_method_2_10 : decode jdk_68_method_2_code 10 = .ok (.aload_n 0, 1) := by decide +kernel
theorem d_jdk_68_method_2_11 : decode jdk_68_method_2_code 11 = .ok (.iload_n 1, 1) := by decide +kernel
theorem d_jdk_68_method_2_12 : decode jdk_68_method_2_code 12 = .ok (.newarray .byte, 2) := by decide +kernel
theorem d_jdk_68_method_2_14 : decode jdk_68_method_2_code 14 = .ok (.putfield 15, 3) := by decide +kernel
theorem d_jdk_68_method_2_17 : decode jdk_68_method_2_code 17 = .ok (.aload_n 0, 1) := by decide +kernel
theorem d_jdk_68_method_2_18 : decode jdk_68_method_2_code 18 = .ok (.iconst 0, 1) := by decide +kernel
theorem d_jdk_68_method_2_19 : decode jdk_68_method_2_code 19 = .ok (.putfield 22, 3) := by decide +kernel
theorem d_jdk_68_method_2_22 : decode jdk_68_method_2_code 22 = .ok (.goto 16, 3) := by decide +kernel
theorem d_jdk_68_method_2_38 : decode jdk_68_method_2_code 38 = .ok (.return_, 1) := by decide +kernel
theorem pn_java_lang_AbstractStringBuilder : plainName "java/lang/AbstractStringBuilder" = true := by first | (simp [plainName, overriddenIn]; done) | decide +kernel
theorem ef_rmAInit (m : MethodId) (a0 : Addr) : entryFrame m #[(.ref a0), (.int (16 : Int32))] 2 = mkF m 0 #[.val (.ref a0), .val (.int (16 : Int32))] [] := by first | (simp [entryFrame, mkF, argsToLocals, Value.category]; done) | rfl
def Q_rmAInit (Z : State) (a0 : Addr) (u0 : Value) (u1 : Value) (cs : Int32) (h0 : Heap) (n0 : Nat) (v : Option Value) (h : Heap) (L : List Loc) : Prop := ∃ (b : Addr) (k : ClassId), v = none ∧ Fr n0 L ∧ n0 ≤ b ∧ h0.size ≤ b ∧ Keep h0 h [a0] ∧ Exa Z h a0 "java/lang/StringBuilder" ∧ Fld Z h a0 "java/lang/AbstractStringBuilder" "value" "[B" (.ref b) ∧ Fld Z h a0 "java/lang/AbstractStringBuilder" "coder" "B" (.int (0 : Int32)) ∧ Fld Z h a0 "java/lang/AbstractStringBuilder" "count" "I" (.int (0 : Int32)) ∧ Arv Z h b k .byte (16 : Int32) [(.int (0 : Int32)), (.int (0 : Int32)), (.int (0 : Int32)), (.int (0 : Int32)), (.int (0 : Int32)), (.int (0 : Int32)), (.int (0 : Int32)), (.int (0 : Int32)), (.int (0 : Int32)), (.int (0 : Int32)), (.int (0 : Int32)), (.int (0 : Int32)), (.int (0 : Int32)), (.int (0 : Int32)), (.int (0 : Int32)), (.int (0 : Int32))] (.int (0 : Int32))
set_option maxRecDepth 65536 in
set_option maxHeartbeats 40000000 in
theorem rmAInit (l : Launch) (Z : State) (aw : Array Value) (hw : ∀ d ∈ tables_1, d.before aw Z = true) (ws : List Jvm.Cond) (a0 : Addr) (u0 : Value) (u1 : Value) (cs : Int32) (h0 : Heap) (n0 : Nat) (Z0 : n0 ≤ h0.size) (E0 : Exa Z h0 a0 "java/lang/StringBuilder") (g0 : n0 ≤ a0) (Fv : Fld Z h0 a0 "java/lang/AbstractStringBuilder" "value" "[B" u0) (Fk : Fld Z h0 a0 "java/lang/AbstractStringBuilder" "coder" "B" u1) (Fn : Fld Z h0 a0 "java/lang/AbstractStringBuilder" "count" "I" (.int (0 : Int32))) (S0 : Sta Z h0 "java/lang/String" "COMPACT_STRINGS" "Z" (.int cs)) (hcs : ¬ (cs = (0 : Int32))) :
    MetFree l (⟨"java/lang/AbstractStringBuilder", "<init>", "(I)V"⟩ : MethodName) (head1 (Jvm.Cond.code (⟨"java/lang/AbstractStringBuilder", "<init>", "(I)V"⟩ : MethodName) jdk_68_method_2_code 2 none :: ws) ({ frames := 1, cells := 1, slots := 16, locals := 12 } : Room)) (fun a U => a = #[(.ref a0), (.int (16 : Int32))] ∧ Z.Warmed39 U.vm ∧ U.heap = h0) (fun _ _ _ _ _ => True) (fun _ U o U' => ∃ v L, o = .returned v ∧ Q_rmAInit Z a0 u0 u1 cs h0 n0 v U'.heap L ∧ FrameEnd U o U' L ({ frames := 1, cells := 1, slots := 16, locals := 12 } : Room).cells ({ frames := 1, cells := 1, slots := 16, locals := 12 } : Room).slots) := by
  refine MetFree.of_bodySF (plainFor_of_name pn_java_lang_AbstractStringBuilder) hisR ?_
  intro p e s m args below meth cd s₁ Bd hml0 hP hK
  obtain ⟨rfl, hZ, hh⟩ := hP
  have hx := Bd.exec
  have hby := Bd.bytes
  have hml : cd.maxLocals = 2 := hml0
  have hown : s.vm.findClass "java/lang/AbstractStringBuilder" = some m.cls := findClass_of_methodNamed Bd.named
  have hnm := (name_of_methodNamed Bd.named Bd.method).1
  have X0 : Stand p l e ({ frames := 1, cells := 1, slots := 16, locals := 12 } : Room) s m #[(.ref a0), (.int (16 : Int32))] below meth cd s₁ [] 0 0 := Stand.of_body Bd
  have e0 : s₁.heap = h0 := by rw [← hh, Bd.state]; rfl
  have N0 := Fr.nil n0
  have pre0 : ∀ t, Steps p.tables e below (s₁.setTop (mkF m 0 #[.val (.ref a0), .val (.int (16 : Int32))] [])) t → Steps p.tables e below (s₁.setTop (entryFrame m #[(.ref a0), (.int (16 : Int32))] 2)) t := fun t k => castTop (ef_rmAInit m a0) k
  obtain ⟨T1, X1, e1, st1⟩ := initO X0 hx hZ hown (hw _ (List.mem_of_getElem? (i := 22) rfl)) (hw _ (List.mem_of_getElem? (i := 8) rfl)) (hw _ (List.mem_of_getElem? (i := 9) rfl)) e0 (g := (mkF m 1 #[.val (.ref a0), .val (.int (16 : Int32))] [(.ref a0)])) rfl (by rw [hml]; rfl) rfl (hb hby d_jdk_68_method_2_1) (by decide) (W := 0) (by show 2 * 0 + _ ≤ _; exact Nat.le_of_eq rfl) (by decide)
  obtain ⟨T2, X2, e2, st2⟩ := getS2 X1 hx hZ hown (host := "") (Or.inl (hw _ (List.mem_of_getElem? (i := 23) rfl))) Via.refl e1 S0 (g := (mkF m 4 #[.val (.ref a0), .val (.int (16 : Int32))] [])) rfl (hb hby d_jdk_68_method_2_4)
  obtain ⟨T3, h3, k3, X3, e3, E3, A3, st3⟩ := newP X2 hx hZ (hw _ (List.mem_of_getElem? (i := 25) rfl)) e2 (g := (mkF m 12 #[.val (.ref a0), .val (.int (16 : Int32))] [(.int (16 : Int32)), (.ref a0)])) rfl (hb hby d_jdk_68_method_2_12) rfl (by decide) (cap := 16) (by decide) (by decide) (by decide) (by decide)
  obtain ⟨b3, g3⟩ : ∃ z, z = h0.size := ⟨_, rfl⟩
  rw [← g3] at A3 st3
  have ne_a0_b3 : a0 ≠ b3 := Nat.ne_of_lt (Nat.lt_of_lt_of_le E0.lt (Nat.le_of_eq g3.symm))
  have g_b3 : n0 ≤ b3 := Nat.le_trans Z0 (Nat.le_of_eq g3.symm)
  have sz_b3 : h0.size ≤ b3 := Nat.le_trans (Keep.refl h0 [a0]).1 (Nat.le_of_eq g3.symm)
  have S0__3 := S0.ext E3
  have E0__3 := E0.ext E3
  have Fv__3 := Fv.ext E3
  have Fk__3 := Fk.ext E3
  have Fn__3 := Fn.ext E3
  have K3 : Keep h0 h3 [a0] := (Keep.refl h0 [a0]).ext E3
  have Zs3 : n0 ≤ h3.size := Nat.le_trans Z0 E3.1
  have V_b3 : Arv Z h3 b3 k3 .byte (16 : Int32) [(.int (0 : Int32)), (.int (0 : Int32)), (.int (0 : Int32)), (.int (0 : Int32)), (.int (0 : Int32)), (.int (0 : Int32)), (.int (0 : Int32)), (.int (0 : Int32)), (.int (0 : Int32)), (.int (0 : Int32)), (.int (0 : Int32)), (.int (0 : Int32)), (.int (0 : Int32)), (.int (0 : Int32)), (.int (0 : Int32)), (.int (0 : Int32))] (.int (0 : Int32)) := (Arv.new A3 (by decide)).pad (pad_rep [] (.int (0 : Int32)) 16)
  obtain ⟨T4, h4, X4, e4, W4, st4⟩ := putF X3 hx hZ hown (host := "") (Or.inl (hw _ (List.mem_of_getElem? (i := 26) rfl))) Via.refl e3 Fv__3 E0__3 (Or.inl (hw _ (List.mem_of_getElem? (i := 27) rfl))) (hw _ (List.mem_of_getElem? (i := 11) rfl)) (ty := (.array .byte)) (by decide) rfl rfl (g := (mkF m 14 #[.val (.ref a0), .val (.int (16 : Int32))] [(.ref b3), (.ref a0)])) rfl rfl (hb hby d_jdk_68_method_2_14)
  have S0__4 := S0__3.wr W4
  have E0__4 := E0__3.wr W4
  have Fv__4 := Fv__3.same W4
  have Fk__4 := Fk__3.other W4 (Or.inr (slot_ne (Or.inl (hw _ (List.mem_of_getElem? (i := 29) rfl))) (Or.inl (hw _ (List.mem_of_getElem? (i := 27) rfl))) (by decide) (t := .byte) (t' := (.array .byte)) (by decide) (by decide)))
  have Fn__4 := Fn__3.other W4 (Or.inr (slot_ne (Or.inl (hw _ (List.mem_of_getElem? (i := 74) rfl))) (Or.inl (hw _ (List.mem_of_getElem? (i := 27) rfl))) (by decide) (t := .int) (t' := (.array .byte)) (by decide) (by decide)))
  have V_b3__4 := V_b3.other W4 (Ne.symm ne_a0_b3)
  have K4 : Keep h0 h4 [a0] := K3.wr W4 (Or.inl (List.mem_of_getElem? (i := 0) rfl))
  have Zs4 : n0 ≤ h4.size := Nat.le_trans Zs3 (Keep.of_wr W4).1
  have N4 := Fr.snoc X4 N0 g0
  obtain ⟨T5, h5, X5, e5, W5, st5⟩ := putFN X4 hx hZ hown (hw _ (List.mem_of_getElem? (i := 28) rfl)) Via.refl e4 Fk__4 E0__4 (Or.inl (hw _ (List.mem_of_getElem? (i := 29) rfl))) (hw _ (List.mem_of_getElem? (i := 11) rfl)) (ty := .byte) (v' := (.int (0 : Int32))) (by decide) (by decide) (by decide) (g := (mkF m 19 #[.val (.ref a0), .val (.int (16 : Int32))] [(.int (0 : Int32)), (.ref a0)])) rfl rfl (hb hby d_jdk_68_method_2_19)
  have S0__5 := S0__4.wr W5
  have E0__5 := E0__4.wr W5
  have Fv__5 := Fv__4.other W5 (Or.inr (slot_ne (Or.inl (hw _ (List.mem_of_getElem? (i := 27) rfl))) (Or.inl (hw _ (List.mem_of_getElem? (i := 29) rfl))) (by decide) (t := (.array .byte)) (t' := .byte) (by decide) (by decide)))
  have Fk__5 := Fk__4.same W5
  have Fn__5 := Fn__4.other W5 (Or.inr (slot_ne (Or.inl (hw _ (List.mem_of_getElem? (i := 74) rfl))) (Or.inl (hw _ (List.mem_of_getElem? (i := 29) rfl))) (by decide) (t := .int) (t' := .byte) (by decide) (by decide)))
  have V_b3__5 := V_b3__4.other W5 (Ne.symm ne_a0_b3)
  have K5 : Keep h0 h5 [a0] := K4.wr W5 (Or.inl (List.mem_of_getElem? (i := 0) rfl))
  have Zs5 : n0 ≤ h5.size := Nat.le_trans Zs4 (Keep.of_wr W5).1
  have N5 := Fr.snoc X5 N4 g0
  obtain ⟨fs, hr, hrun, hended, hW, hsame⟩ := X5.leave (v := none) (fun _ => rfl)
  refine ⟨_, _, pre0 _ ?_, hrun, hended, _, _, rfl, ?_, ⟨_, rfl⟩, hW, hsame.mono (by decide) (by decide)⟩
  · show Steps p.tables e below (s₁.setTop (mkF m 0 #[.val (.ref a0), .val (.int (16 : Int32))] [])) _
    refine XS.aloadN X0.here hx rfl (hb hby d_jdk_68_method_2_0) rfl rfl ?_
    show Steps p.tables e below (s₁.setTop (mkF m 1 #[.val (.ref a0), .val (.int (16 : Int32))] [(.ref a0)])) _
    refine st1 _ ?_
    show Steps p.tables e below (T1.setTop (mkF m 4 #[.val (.ref a0), .val (.int (16 : Int32))] [])) _
    refine st2 _ ?_
    show Steps p.tables e below (T2.setTop (mkF m 7 #[.val (.ref a0), .val (.int (16 : Int32))] [(.int cs)])) _
    refine XS.ifNo X2.here hx rfl (hb hby d_jdk_68_method_2_7) rfl ((if0 _ _).trans (feq (hcs : ¬ (cs = (0 : Int32)))).1) ?_
    show Steps p.tables e below (T2.setTop (mkF m 10 #[.val (.ref a0), .val (.int (16 : Int32))] [])) _
    refine XS.aloadN X2.here hx rfl (hb hby d_jdk_68_method_2_10) rfl rfl ?_
    show Steps p.tables e below (T2.setTop (mkF m 11 #[.val (.ref a0), .val (.int (16 : Int32))] [(.ref a0)])) _
    refine XS.iloadN X2.here hx rfl (hb hby d_jdk_68_method_2_11) rfl ?_
    show Steps p.tables e below (T2.setTop (mkF m 12 #[.val (.ref a0), .val (.int (16 : Int32))] [(.int (16 : Int32)), (.ref a0)])) _
    refine st3 _ ?_
    show Steps p.tables e below (T3.setTop (mkF m 14 #[.val (.ref a0), .val (.int (16 : Int32))] [(.ref b3), (.ref a0)])) _
    refine st4 _ ?_
    show Steps p.tables e below (T4.setTop (mkF m 17 #[.val (.ref a0), .val (.int (16 : Int32))] [])) _
    refine XS.aloadN X4.here hx rfl (hb hby d_jdk_68_method_2_17) rfl rfl ?_
    show Steps p.tables e below (T4.setTop (mkF m 18 #[.val (.ref a0), .val (.int (16 : Int32))] [(.ref a0)])) _
    refine XS.iconst X4.here hx rfl (hb hby d_jdk_68_method_2_18) ?_
    show Steps p.tables e below (T4.setTop (mkF m 19 #[.val (.ref a0), .val (.int (16 : Int32))] [(.int (0 : Int32)), (.ref a0)])) _
    refine st5 _ ?_
    show Steps p.tables e below (T5.setTop (mkF m 22 #[.val (.ref a0), .val (.int (16 : Int32))] [])) _
    refine XS.goto X5.here hx rfl (pc0 := 22) (pc' := 38) rfl (hb hby d_jdk_68_method_2_22) (by decide) (by decide) ?_
    show Steps p.tables e below (T5.setTop (mkF m 38 #[.val (.ref a0), .val (.int (16 : Int32))] [])) _
    exact X5.returnOut hx Bd.returns (hb hby d_jdk_68_method_2_38) hr
  · show Q_rmAInit Z a0 u0 u1 cs h0 n0 _ T5.heap _
    rw [e5]
    exact ⟨b3, _, rfl, N5, g_b3, sz_b3, K5, E0__5, Fv__5, Fk__5, Fn__5, V_b3__5⟩
theorem d_jdk_67_method_1_0 : decode jdk_67_method_1_code 0 = .ok (.aload_n 0, 1) := by decide +kernel
theorem d_jdk_67_method_1_1 : decode jdk_67_method_1_code 1 = .ok (.bipush 16, 2) := by decide +kernel
theorem d_jdk_67_method_1_3 : decode jdk_67_method_1_code 3 = .ok (.invokespecial 1, 3) := by decide +kernel
theorem d_jdk_67_method_1_6 : decode jdk_67_method_1_code 6 = .ok (.return_, 1) := by decide +kernel
theorem pn_java_lang_StringBuilder : plainName "java/lang/StringBuilder" = true := by first | (simp [plainName, overriddenIn]; done) | decide +kernel
theorem pd__I_V : parseMethodDescriptor "(I)V" = some ⟨[.int], none⟩ := by decide +kernel
theorem ef_rmSInit (m : MethodId) (a0 : Addr) : entryFrame m #[(.ref a0)] 1 = mkF m 0 #[.val (.ref a0)] [] := by first | (simp [entryFrame, mkF, argsToLocals, Value.category]; done) | rfl
def Q_rmSInit (Z : State) (a0 : Addr) (u0 : Value) (u1 : Value) (cs : Int32) (h0 : Heap) (n0 : Nat) (v : Option Value) (h : Heap) (L : List Loc) : Prop := ∃ (b : Addr) (k : ClassId), v = none ∧ Fr n0 L ∧ n0 ≤ b ∧ h0.size ≤ b ∧ Keep h0 h [a0] ∧ Exa Z h a0 "java/lang/StringBuilder" ∧ Fld Z h a0 "java/lang/AbstractStringBuilder" "value" "[B" (.ref b) ∧ Fld Z h a0 "java/lang/AbstractStringBuilder" "coder" "B" (.int (0 : Int32)) ∧ Fld Z h a0 "java/lang/AbstractStringBuilder" "count" "I" (.int (0 : Int32)) ∧ Arv Z h b k .byte (16 : Int32) [(.int (0 : Int32)), (.int (0 : Int32)), (.int (0 : Int32)), (.int (0 : Int32)), (.int (0 : Int32)), (.int (0 : Int32)), (.int (0 : Int32)), (.int (0 : Int32)), (.int (0 : Int32)), (.int (0 : Int32)), (.int (0 : Int32)), (.int (0 : Int32)), (.int (0 : Int32)), (.int (0 : Int32)), (.int (0 : Int32)), (.int (0 : Int32))] (.int (0 : Int32))
set_option maxRecDepth 65536 in
set_option maxHeartbeats 40000000 in
theorem rmSInit (l : Launch) (Z : State) (aw : Array Value) (hw : ∀ d ∈ tables_1, d.before aw Z = true) (ws : List Jvm.Cond) (a0 : Addr) (u0 : Value) (u1 : Value) (cs : Int32) (h0 : Heap) (n0 : Nat) (Z0 : n0 ≤ h0.size) (E0 : Exa Z h0 a0 "java/lang/StringBuilder") (g0 : n0 ≤ a0) (Fv : Fld Z h0 a0 "java/lang/AbstractStringBuilder" "value" "[B" u0) (Fk : Fld Z h0 a0 "java/lang/AbstractStringBuilder" "coder" "B" u1) (Fn : Fld Z h0 a0 "java/lang/AbstractStringBuilder" "count" "I" (.int (0 : Int32))) (S0 : Sta Z h0 "java/lang/String" "COMPACT_STRINGS" "Z" (.int cs)) (hcs : ¬ (cs = (0 : Int32))) :
    MetFree l (⟨"java/lang/StringBuilder", "<init>", "()V"⟩ : MethodName) (head1 (Jvm.Cond.code (⟨"java/lang/StringBuilder", "<init>", "()V"⟩ : MethodName) jdk_67_method_1_code 1 none :: ws) ({ frames := 2, cells := 1, slots := 16, locals := 25 } : Room)) (fun a U => a = #[(.ref a0)] ∧ Z.Warmed39 U.vm ∧ U.heap = h0) (fun _ _ _ _ _ => True) (fun _ U o U' => ∃ v L, o = .returned v ∧ Q_rmSInit Z a0 u0 u1 cs h0 n0 v U'.heap L ∧ FrameEnd U o U' L ({ frames := 2, cells := 1, slots := 16, locals := 25 } : Room).cells ({ frames := 2, cells := 1, slots := 16, locals := 25 } : Room).slots) := by
  refine MetFree.of_bodySF (plainFor_of_name pn_java_lang_StringBuilder) hisR ?_
  intro p e s m args below meth cd s₁ Bd hml0 hP hK
  obtain ⟨rfl, hZ, hh⟩ := hP
  have hx := Bd.exec
  have hby := Bd.bytes
  have hml : cd.maxLocals = 1 := hml0
  have hown : s.vm.findClass "java/lang/StringBuilder" = some m.cls := findClass_of_methodNamed Bd.named
  have hnm := (name_of_methodNamed Bd.named Bd.method).1
  have X0 : Stand p l e ({ frames := 2, cells := 1, slots := 16, locals := 25 } : Room) s m #[(.ref a0)] below meth cd s₁ [] 0 0 := Stand.of_body Bd
  have e0 : s₁.heap = h0 := by rw [← hh, Bd.state]; rfl
  have N0 := Fr.nil n0
  have pre0 : ∀ t, Steps p.tables e below (s₁.setTop (mkF m 0 #[.val (.ref a0)] [])) t → Steps p.tables e below (s₁.setTop (entryFrame m #[(.ref a0)] 1)) t := fun t k => castTop (ef_rmSInit m a0) k
  obtain ⟨_, _, ⟨T1, L1, k1, n1⟩, -, X1, ⟨Lc1, hQ1, l1, y1, z1⟩, st1⟩ := X0.specialBack hx (y := (⟨"java/lang/AbstractStringBuilder", "<init>", "(I)V"⟩ : MethodName)) rfl hown (mvT hZ (hw _ (List.mem_of_getElem? (i := 16) rfl))) (mvT hZ (hw _ (List.mem_of_getElem? (i := 17) rfl))) (mvT hZ (hw _ (List.mem_of_getElem? (i := 21) rfl))) (by decide) (backOf (W := 0) (rmAInit l Z aw hw [] a0 u0 u1 cs h0 n0 Z0 E0 g0 Fv Fk Fn S0 hcs) hZ (hw _ (List.mem_of_getElem? (i := 21) rfl)) (hw _ (List.mem_of_getElem? (i := 20) rfl)) (by decide) (by decide)) (g := (mkF m 3 #[.val (.ref a0)] [(.int (16 : Int32)), (.ref a0)])) rfl (by rw [hml]; rfl) (Steps.refl _) (a := a0) (argsL := [(.int (16 : Int32))]) (rest := []) (lenOf pd__I_V rfl) rfl (by show 2 * 0 + _ ≤ _; exact Nat.le_of_eq rfl) (hb hby d_jdk_67_method_1_3) (fun _ _ => ⟨rfl, e0, (by decide : 0 + 1 ≤ _), (by decide : 0 + 16 ≤ _)⟩)
  dsimp only [Pt.U, Pt.locs, Pt.cells, Pt.slots] at X1 l1 y1 z1 st1 hQ1
  subst l1 y1 z1
  obtain ⟨b, k, rfl, N1q, gb, szb, Kc1, Ec1, Fv1, Fk1, Fn1, Vb1⟩ := hQ1
  have N1 := Fr.app N0 N1q
  have sz_b : h0.size ≤ b := Nat.le_trans (Keep.refl h0 [a0]).1 szb
  have g_b : n0 ≤ b := Nat.le_trans Z0 szb
  have S0__1 := own_sta_keep S0 Kc1 (nsS (E0.nostat) ns0)
  have KK1 : Keep h0 T1.heap [a0] := Keep.trans (Keep.refl h0 [a0]) Kc1 (fun x q => by cases List.mem_singleton.mp q; exact (Or.inl (List.mem_of_getElem? (i := 0) rfl)))
  have Zs1 : n0 ≤ T1.heap.size := Nat.le_trans Z0 Kc1.1
  obtain ⟨fs, hr, hrun, hended, hW, hsame⟩ := X1.leave (v := none) (fun _ => rfl)
  refine ⟨_, _, pre0 _ ?_, hrun, hended, _, _, rfl, ?_, ⟨_, rfl⟩, hW, hsame.mono (by decide) (by decide)⟩
  · show Steps p.tables e below (s₁.setTop (mkF m 0 #[.val (.ref a0)] [])) _
    refine XS.aloadN X0.here hx rfl (hb hby d_jdk_67_method_1_0) rfl rfl ?_
    show Steps p.tables e below (s₁.setTop (mkF m 1 #[.val (.ref a0)] [(.ref a0)])) _
    refine XS.bipush X0.here hx rfl (hb hby d_jdk_67_method_1_1) ?_
    show Steps p.tables e below (s₁.setTop (mkF m 3 #[.val (.ref a0)] [(.int (16 : Int32)), (.ref a0)])) _
    refine st1.trans ?_
    show Steps p.tables e below (T1.setTop (mkF m 6 #[.val (.ref a0)] [])) _
    exact X1.returnOut hx Bd.returns (hb hby d_jdk_67_method_1_6) hr
  · show Q_rmSInit Z a0 u0 u1 cs h0 n0 _ T1.heap _
    exact ⟨b, k, rfl, N1, gb, sz_b, KK1, Ec1, Fv1, Fk1, Fn1, Vb1⟩
theorem d_prog_20_method_1_0 : decode prog_20_method_1_code 0 = .ok (.aload_n 0, 1) := by decide +kernel
theorem d_prog_20_method_1_1 : decode prog_20_method_1_code 1 = .ok (.invokespecial 1, 3) := by decide +kernel
theorem d_prog_20_method_1_4 : decode prog_20_method_1_code 4 = .ok (.aload_n 0, 1) := by decide +kernel
theorem d_prog_20_method_1_5 : decode prog_20_method_1_code 5 = .ok (.new 7, 3) := by decide +kernel
theorem d_prog_20_method_1_8 : decode prog_20_method_1_code 8 = .ok (.dup, 1) := by decide +kernel
theorem d_prog_20_method_1_9 : decode prog_20_method_1_code 9 = .ok (.invokespecial 9, 3) := by decide +kernel
theorem d_prog_20_method_1_12 : decode prog_20_method_1_code 12 = .ok (.putfield 10, 3) := by decide +kernel
theorem d_prog_20_method_1_15 : decode prog_20_method_1_code 15 = .ok (.return_, 1) := by decide +kernel
theorem pn_latentrace_io_JsonWriter : plainName "latentrace/io/JsonWriter" = true := by first | (simp [plainName, overriddenIn]; done) | decide +kernel
theorem pd___V : parseMethodDescriptor "()V" = some ⟨[], none⟩ := by decide +kernel
theorem ef_rmJInit (m : MethodId) (a0 : Addr) : entryFrame m #[(.ref a0)] 1 = mkF m 0 #[.val (.ref a0)] [] := by first | (simp [entryFrame, mkF, argsToLocals, Value.category]; done) | rfl
def Q_rmJInit (Z : State) (a0 : Addr) (u0 : Value) (cs : Int32) (h0 : Heap) (n0 : Nat) (v : Option Value) (h : Heap) (L : List Loc) : Prop := ∃ (sb : Addr) (b : Addr) (k : ClassId), v = none ∧ Fr n0 L ∧ h0.size ≤ sb ∧ h0.size ≤ b ∧ Keep h0 h [a0] ∧ Exa Z h a0 "latentrace/io/JsonWriter" ∧ Fld Z h a0 "latentrace/io/JsonWriter" "text" "Ljava/lang/StringBuilder;" (.ref sb) ∧ Fld Z h a0 "latentrace/io/JsonWriter" "afterValue" "Z" (.int (0 : Int32)) ∧ Exa Z h sb "java/lang/StringBuilder" ∧ Fld Z h sb "java/lang/AbstractStringBuilder" "value" "[B" (.ref b) ∧ Fld Z h sb "java/lang/AbstractStringBuilder" "coder" "B" (.int (0 : Int32)) ∧ Fld Z h sb "java/lang/AbstractStringBuilder" "count" "I" (.int (0 : Int32)) ∧ Arv Z h b k .byte (16 : Int32) [(.int (0 : Int32)), (.int (0 : Int32)), (.int (0 : Int32)), (.int (0 : Int32)), (.int (0 : Int32)), (.int (0 : Int32)), (.int (0 : Int32)), (.int (0 : Int32)), (.int (0 : Int32)), (.int (0 : Int32)), (.int (0 : Int32)), (.int (0 : Int32)), (.int (0 : Int32)), (.int (0 : Int32)), (.int (0 : Int32)), (.int (0 : Int32))] (.int (0 : Int32))
set_option maxRecDepth 65536 in
set_option maxHeartbeats 40000000 in
theorem rmJInit (l : Launch) (Z : State) (aw : Array Value) (hw : ∀ d ∈ tables_1, d.before aw Z = true) (ws : List Jvm.Cond) (a0 : Addr) (u0 : Value) (cs : Int32) (h0 : Heap) (n0 : Nat) (Z0 : n0 ≤ h0.size) (E0 : Exa Z h0 a0 "latentrace/io/JsonWriter") (g0 : n0 ≤ a0) (Ft : Fld Z h0 a0 "latentrace/io/JsonWriter" "text" "Ljava/lang/StringBuilder;" u0) (Fa : Fld Z h0 a0 "latentrace/io/JsonWriter" "afterValue" "Z" (.int (0 : Int32))) (S0 : Sta Z h0 "java/lang/String" "COMPACT_STRINGS" "Z" (.int cs)) (hcs : ¬ (cs = (0 : Int32))) :
    MetFree l (⟨"latentrace/io/JsonWriter", "<init>", "()V"⟩ : MethodName) (head1 (Jvm.Cond.code (⟨"latentrace/io/JsonWriter", "<init>", "()V"⟩ : MethodName) prog_20_method_1_code 1 none :: ws) ({ frames := 3, cells := 2, slots := 20, locals := 39 } : Room)) (fun a U => a = #[(.ref a0)] ∧ Z.Warmed39 U.vm ∧ U.heap = h0) (fun _ _ _ _ _ => True) (fun _ U o U' => ∃ v L, o = .returned v ∧ Q_rmJInit Z a0 u0 cs h0 n0 v U'.heap L ∧ FrameEnd U o U' L ({ frames := 3, cells := 2, slots := 20, locals := 39 } : Room).cells ({ frames := 3, cells := 2, slots := 20, locals := 39 } : Room).slots) := by
  refine MetFree.of_bodySF (plainFor_of_name pn_latentrace_io_JsonWriter) hisR ?_
  intro p e s m args below meth cd s₁ Bd hml0 hP hK
  obtain ⟨rfl, hZ, hh⟩ := hP
  have hx := Bd.exec
  have hby := Bd.bytes
  have hml : cd.maxLocals = 1 := hml0
  have hown : s.vm.findClass "latentrace/io/JsonWriter" = some m.cls := findClass_of_methodNamed Bd.named
  have hnm := (name_of_methodNamed Bd.named Bd.method).1
  have X0 : Stand p l e ({ frames := 3, cells := 2, slots := 20, locals := 39 } : Room) s m #[(.ref a0)] below meth cd s₁ [] 0 0 := Stand.of_body Bd
  have e0 : s₁.heap = h0 := by rw [← hh, Bd.state]; rfl
  have N0 := Fr.nil n0
  have pre0 : ∀ t, Steps p.tables e below (s₁.setTop (mkF m 0 #[.val (.ref a0)] [])) t → Steps p.tables e below (s₁.setTop (entryFrame m #[(.ref a0)] 1)) t := fun t k => castTop (ef_rmJInit m a0) k
  obtain ⟨T1, X1, e1, st1⟩ := initO X0 hx hZ hown (hw _ (List.mem_of_getElem? (i := 7) rfl)) (hw _ (List.mem_of_getElem? (i := 8) rfl)) (hw _ (List.mem_of_getElem? (i := 9) rfl)) e0 (g := (mkF m 1 #[.val (.ref a0)] [(.ref a0)])) rfl (by rw [hml]; rfl) rfl (hb hby d_prog_20_method_1_1) (by decide) (W := 0) (by show 2 * 0 + _ ≤ _; exact Nat.le_of_eq rfl) (by decide)
  obtain ⟨T2, h2, X2, e2, E2, A2, D2, -, st2⟩ := newO X1 hx hZ hown (hw _ (List.mem_of_getElem? (i := 10) rfl)) (hw _ (List.mem_of_getElem? (i := 11) rfl)) (hw _ (List.mem_of_getElem? (i := 12) rfl)) e1 (g := (mkF m 5 #[.val (.ref a0)] [(.ref a0)])) rfl (hb hby d_prog_20_method_1_5) (by decide) (by decide)
  obtain ⟨b2, g2⟩ : ∃ z, z = h0.size := ⟨_, rfl⟩
  rw [← g2] at A2 D2 st2
  have ne_a0_b2 : a0 ≠ b2 := Nat.ne_of_lt (Nat.lt_of_lt_of_le E0.lt (Nat.le_of_eq g2.symm))
  have g_b2 : n0 ≤ b2 := Nat.le_trans Z0 (Nat.le_of_eq g2.symm)
  have sz_b2 : h0.size ≤ b2 := Nat.le_trans (Keep.refl h0 [a0]).1 (Nat.le_of_eq g2.symm)
  have S0__2 := S0.ext E2
  have E0__2 := E0.ext E2
  have Ft__2 := Ft.ext E2
  have Fa__2 := Fa.ext E2
  have K2 : Keep h0 h2 [a0] := (Keep.refl h0 [a0]).ext E2
  have Zs2 : n0 ≤ h2.size := Nat.le_trans Z0 E2.1
  have F_value_b2 : Fld Z h2 b2 "java/lang/AbstractStringBuilder" "value" "[B" .null := D2 (Or.inl (hw _ (List.mem_of_getElem? (i := 27) rfl))) (ty := (.array .byte)) (by decide)
  have F_coder_b2 : Fld Z h2 b2 "java/lang/AbstractStringBuilder" "coder" "B" (.int (0 : Int32)) := D2 (Or.inl (hw _ (List.mem_of_getElem? (i := 29) rfl))) (ty := .byte) (by decide)
  have F_count_b2 : Fld Z h2 b2 "java/lang/AbstractStringBuilder" "count" "I" (.int (0 : Int32)) := D2 (Or.inl (hw _ (List.mem_of_getElem? (i := 74) rfl))) (ty := .int) (by decide)
  obtain ⟨_, _, ⟨T3, L3, k3, n3⟩, -, X3, ⟨Lc3, hQ3, l3, y3, z3⟩, st3⟩ := X2.specialBack hx (y := (⟨"java/lang/StringBuilder", "<init>", "()V"⟩ : MethodName)) rfl hown (mvT hZ (hw _ (List.mem_of_getElem? (i := 13) rfl))) (mvT hZ (hw _ (List.mem_of_getElem? (i := 14) rfl))) (mvT hZ (hw _ (List.mem_of_getElem? (i := 15) rfl))) (by decide) (backOf (W := 2) (rmSInit l Z aw hw [] b2 .null (.int 0) cs h2 n0 Zs2 A2 g_b2 F_value_b2 F_coder_b2 F_count_b2 S0__2 hcs) hZ (hw _ (List.mem_of_getElem? (i := 15) rfl)) (hw _ (List.mem_of_getElem? (i := 12) rfl)) (by decide) (by decide)) (g := (mkF m 9 #[.val (.ref a0)] [(.ref b2), (.ref b2), (.ref a0)])) rfl (by rw [hml]; rfl) (Steps.refl _) (a := b2) (argsL := []) (rest := [(.ref b2), (.ref a0)]) (lenOf pd___V rfl) rfl (by show 2 * 0 + _ ≤ _; exact Nat.le_of_eq rfl) (hb hby d_prog_20_method_1_9) (fun _ _ => ⟨rfl, e2, (by decide : 1 + 1 ≤ _), (by decide : 4 + 16 ≤ _)⟩)
  dsimp only [Pt.U, Pt.locs, Pt.cells, Pt.slots] at X3 l3 y3 z3 st3 hQ3
  subst l3 y3 z3
  obtain ⟨b, k, rfl, N3q, gb, szb, Kc3, Ec3, Fv3, Fk3, Fn3, Vb3⟩ := hQ3
  have N3 := Fr.app N0 N3q
  have sz_b : h0.size ≤ b := Nat.le_trans K2.1 szb
  have g_b : n0 ≤ b := Nat.le_trans Zs2 szb
  have S0__3 := own_sta_keep S0__2 Kc3 (nsS (A2.nostat) ns0)
  have E0__3 := E0__2.keep Kc3
  have Ft__3 := Ft__2.keep Kc3 (fun q => ne_a0_b2 (List.mem_singleton.mp q))
  have Fa__3 := Fa__2.keep Kc3 (fun q => ne_a0_b2 (List.mem_singleton.mp q))
  have KK3 : Keep h0 T3.heap [a0] := Keep.trans K2 Kc3 (fun x q => by cases List.mem_singleton.mp q; exact (Or.inr sz_b2))
  have Zs3 : n0 ≤ T3.heap.size := Nat.le_trans Zs2 Kc3.1
  obtain ⟨T4, h4, X4, e4, W4, st4⟩ := putF X3 hx hZ hown (host := "") (Or.inl (hw _ (List.mem_of_getElem? (i := 30) rfl))) Via.refl rfl Ft__3 E0__3 (Or.inr ⟨(hw _ (List.mem_of_getElem? (i := 31) rfl)), rfl, hnm⟩) (hw _ (List.mem_of_getElem? (i := 2) rfl)) (ty := (.object "java/lang/StringBuilder")) (by decide) rfl rfl (g := (mkF m 12 #[.val (.ref a0)] [(.ref b2), (.ref a0)])) rfl rfl (hb hby d_prog_20_method_1_12)
  have S0__4 := S0__3.wr W4
  have E0__4 := E0__3.wr W4
  have Ft__4 := Ft__3.same W4
  have Fa__4 := Fa__3.other W4 (Or.inr (slot_ne (Or.inl (hw _ (List.mem_of_getElem? (i := 48) rfl))) (Or.inr (hw _ (List.mem_of_getElem? (i := 31) rfl))) (by decide) (t := .boolean) (t' := (.object "java/lang/StringBuilder")) (by decide) (by decide)))
  have Ec3__4 := Ec3.wr W4
  have Fv3__4 := Fv3.other W4 (Or.inl (Ne.symm ne_a0_b2))
  have Fk3__4 := Fk3.other W4 (Or.inl (Ne.symm ne_a0_b2))
  have Fn3__4 := Fn3.other W4 (Or.inl (Ne.symm ne_a0_b2))
  have Vb3__4 := Vb3.other W4 (Ne.symm (E0__3.neArv Vb3 (hw _ (List.mem_of_getElem? (i := 2) rfl))))
  have K4 : Keep h0 h4 [a0] := KK3.wr W4 (Or.inl (List.mem_of_getElem? (i := 0) rfl))
  have Zs4 : n0 ≤ h4.size := Nat.le_trans Zs3 (Keep.of_wr W4).1
  have N4 := Fr.snoc X4 N3 g0
  obtain ⟨fs, hr, hrun, hended, hW, hsame⟩ := X4.leave (v := none) (fun _ => rfl)
  refine ⟨_, _, pre0 _ ?_, hrun, hended, _, _, rfl, ?_, ⟨_, rfl⟩, hW, hsame.mono (by decide) (by decide)⟩
  · show Steps p.tables e below (s₁.setTop (mkF m 0 #[.val (.ref a0)] [])) _
    refine XS.aloadN X0.here hx rfl (hb hby d_prog_20_method_1_0) rfl rfl ?_
    show Steps p.tables e below (s₁.setTop (mkF m 1 #[.val (.ref a0)] [(.ref a0)])) _
    refine st1 _ ?_
    show Steps p.tables e below (T1.setTop (mkF m 4 #[.val (.ref a0)] [])) _
    refine XS.aloadN X1.here hx rfl (hb hby d_prog_20_method_1_4) rfl rfl ?_
    show Steps p.tables e below (T1.setTop (mkF m 5 #[.val (.ref a0)] [(.ref a0)])) _
    refine st2 _ ?_
    show Steps p.tables e below (T2.setTop (mkF m 8 #[.val (.ref a0)] [(.ref b2), (.ref a0)])) _
    refine XS.dup X2.here hx rfl (hb hby d_prog_20_method_1_8) rfl rfl ?_
    show Steps p.tables e below (T2.setTop (mkF m 9 #[.val (.ref a0)] [(.ref b2), (.ref b2), (.ref a0)])) _
    refine st3.trans ?_
    show Steps p.tables e below (T3.setTop (mkF m 12 #[.val (.ref a0)] [(.ref b2), (.ref a0)])) _
    refine st4 _ ?_
    show Steps p.tables e below (T4.setTop (mkF m 15 #[.val (.ref a0)] [])) _
    exact X4.returnOut hx Bd.returns (hb hby d_prog_20_method_1_15) hr
  · show Q_rmJInit Z a0 u0 cs h0 n0 _ T4.heap _
    rw [e4]
    exact ⟨b2, b, k, rfl, N4, sz_b2, sz_b, K4, E0__4, Ft__4, Fa__4, Ec3__4, Fv3__4, Fk3__4, Fn3__4, Vb3__4⟩
theorem d_jdk_68_method_9_0 : decode jdk_68_method_9_code 0 = .ok (.aload_n 0, 1) := by decide +kernel
theorem d_jdk_68_method_9_1 : decode jdk_68_method_9_code 1 = .ok (.getfield 15, 3) := by decide +kernel
theorem d_jdk_68_method_9_4 : decode jdk_68_method_9_code 4 = .ok (.arraylength, 1) := by decide +kernel
theorem d_jdk_68_method_9_5 : decode jdk_68_method_9_code 5 = .ok (.aload_n 0, 1) := by decide +kernel
theorem d_jdk_68_method_9_6 : decode jdk_68_method_9_code 6 = .ok (.getfield 22, 3) := by decide +kernel
theorem d_jdk_68_method_9_9 : decode jdk_68_method_9_code 9 = .ok (.ishr, 1) := by decide +kernel
theorem d_jdk_68_method_9_10 : decode jdk_68_method_9_code 10 = .ok (.istore_n 2, 1) := by decide +kernel
theorem d_jdk_68_method_9_11 : decode jdk_68_method_9_code 11 = .ok (.iload_n 1, 1) := by decide +kernel
theorem d_jdk_68_method_9_12 : decode jdk_68_method_9_code 12 = .ok (.iload_n 2, 1) := by decide +kernel
theorem d_jdk_68_method_9_13 : decode jdk_68_method_9_code 13 = .ok (.isub, 1) := by decide +kernel
theorem d_jdk_68_method_9_14 : decode jdk_68_method_9_code 14 = .ok (.ifCond .le 24, 3) := by decide +kernel
theorem d_jdk_68_method_9_38 : decode jdk_68_method_9_code 38 = .ok (.return_, 1) := by decide +kernel
theorem ef_rmEns (m : MethodId) (a0 : Addr) (p1 : Int32) : entryFrame m #[(.ref a0), (.int p1)] 3 = mkF m 0 #[.val (.ref a0), .val (.int p1), .unset] [] := by first | (simp [entryFrame, mkF, argsToLocals, Value.category]; done) | rfl
def Q_rmEns (Z : State) (a0 : Addr) (p1 : Int32) (b : Addr) (k : ClassId) (c : Int32) (vs : List Value) (h0 : Heap) (n0 : Nat) (v : Option Value) (h : Heap) (L : List Loc) : Prop := v = none ∧ Fr n0 L ∧ h = h0
set_option maxRecDepth 65536 in
set_option maxHeartbeats 40000000 in
theorem rmEns (l : Launch) (Z : State) (aw : Array Value) (hw : ∀ d ∈ tables_1, d.before aw Z = true) (ws : List Jvm.Cond) (a0 : Addr) (p1 : Int32) (b : Addr) (k : ClassId) (c : Int32) (vs : List Value) (h0 : Heap) (n0 : Nat) (Z0 : n0 ≤ h0.size) (Fv : Fld Z h0 a0 "java/lang/AbstractStringBuilder" "value" "[B" (.ref b)) (Fk : Fld Z h0 a0 "java/lang/AbstractStringBuilder" "coder" "B" (.int (0 : Int32))) (V0 : Arv Z h0 b k .byte (16 : Int32) vs (.int (0 : Int32))) (hc14 : ¬ ((0 : Int32) < (p1 - (16 : Int32)))) :
    MetFree l (⟨"java/lang/AbstractStringBuilder", "ensureCapacityInternal", "(I)V"⟩ : MethodName) (head1 (Jvm.Cond.code (⟨"java/lang/AbstractStringBuilder", "ensureCapacityInternal", "(I)V"⟩ : MethodName) jdk_68_method_9_code 3 none :: ws) ({ frames := 0, cells := 0, slots := 0, locals := 0 } : Room)) (fun a U => a = #[(.ref a0), (.int p1)] ∧ Z.Warmed39 U.vm ∧ U.heap = h0) (fun _ _ _ _ _ => True) (fun _ U o U' => ∃ v L, o = .returned v ∧ Q_rmEns Z a0 p1 b k c vs h0 n0 v U'.heap L ∧ FrameEnd U o U' L ({ frames := 0, cells := 0, slots := 0, locals := 0 } : Room).cells ({ frames := 0, cells := 0, slots := 0, locals := 0 } : Room).slots) := by
  refine MetFree.of_bodySF (plainFor_of_name pn_java_lang_AbstractStringBuilder) hisR ?_
  intro p e s m args below meth cd s₁ Bd hml0 hP hK
  obtain ⟨rfl, hZ, hh⟩ := hP
  have hx := Bd.exec
  have hby := Bd.bytes
  have hml : cd.maxLocals = 3 := hml0
  have hown : s.vm.findClass "java/lang/AbstractStringBuilder" = some m.cls := findClass_of_methodNamed Bd.named
  have hnm := (name_of_methodNamed Bd.named Bd.method).1
  have X0 : Stand p l e ({ frames := 0, cells := 0, slots := 0, locals := 0 } : Room) s m #[(.ref a0), (.int p1)] below meth cd s₁ [] 0 0 := Stand.of_body Bd
  have e0 : s₁.heap = h0 := by rw [← hh, Bd.state]; rfl
  have N0 := Fr.nil n0
  have pre0 : ∀ t, Steps p.tables e below (s₁.setTop (mkF m 0 #[.val (.ref a0), .val (.int p1), .unset] [])) t → Steps p.tables e below (s₁.setTop (entryFrame m #[(.ref a0), (.int p1)] 3)) t := fun t k => castTop (ef_rmEns m a0 p1) k
  obtain ⟨T1, X1, e1, st1⟩ := getF X0 hx hZ hown (host := "") (Or.inl (hw _ (List.mem_of_getElem? (i := 26) rfl))) Via.refl e0 Fv (g := (mkF m 1 #[.val (.ref a0), .val (.int p1), .unset] [(.ref a0)])) rfl rfl (hb hby d_jdk_68_method_9_1)
  have Vo2 := V0
  obtain ⟨cl2, Ar2, -, S2, Ng2, -, -⟩ := Vo2
  obtain ⟨T3, X3, e3, st3⟩ := getF X1 hx hZ hown (host := "") (Or.inl (hw _ (List.mem_of_getElem? (i := 28) rfl))) Via.refl e1 Fk (g := (mkF m 6 #[.val (.ref a0), .val (.int p1), .unset] [(.ref a0), (.int (16 : Int32))])) rfl rfl (hb hby d_jdk_68_method_9_6)
  obtain ⟨fs, hr, hrun, hended, hW, hsame⟩ := X3.leave (v := none) (fun _ => rfl)
  refine ⟨_, _, pre0 _ ?_, hrun, hended, _, _, rfl, ?_, ⟨_, rfl⟩, hW, hsame.mono (by decide) (by decide)⟩
  · show Steps p.tables e below (s₁.setTop (mkF m 0 #[.val (.ref a0), .val (.int p1), .unset] [])) _
    refine XS.aloadN X0.here hx rfl (hb hby d_jdk_68_method_9_0) rfl rfl ?_
    show Steps p.tables e below (s₁.setTop (mkF m 1 #[.val (.ref a0), .val (.int p1), .unset] [(.ref a0)])) _
    refine st1 _ ?_
    show Steps p.tables e below (T1.setTop (mkF m 4 #[.val (.ref a0), .val (.int p1), .unset] [(.ref b)])) _
    refine X1.arraylength hx (by rw [e1]; exact Ar2.1) (State.isArrayOf_alike hZ.alike Ar2.2.1) (g := (mkF m 4 #[.val (.ref a0), .val (.int p1), .unset] [(.ref b)])) rfl rfl (hb hby d_jdk_68_method_9_4) _ ?_
    rw [len_of S2 Ng2]
    show Steps p.tables e below (T1.setTop (mkF m 5 #[.val (.ref a0), .val (.int p1), .unset] [(.int (16 : Int32))])) _
    refine XS.aloadN X1.here hx rfl (hb hby d_jdk_68_method_9_5) rfl rfl ?_
    show Steps p.tables e below (T1.setTop (mkF m 6 #[.val (.ref a0), .val (.int p1), .unset] [(.ref a0), (.int (16 : Int32))])) _
    refine st3 _ ?_
    show Steps p.tables e below (T3.setTop (mkF m 9 #[.val (.ref a0), .val (.int p1), .unset] [(.int (0 : Int32)), (.int (16 : Int32))])) _
    refine XS.ishr X3.here hx rfl (hb hby d_jdk_68_method_9_9) rfl ?_
    show Steps p.tables e below (T3.setTop (mkF m 10 #[.val (.ref a0), .val (.int p1), .unset] [(.int ((16 : Int32) >>> ((0 : Int32) &&& 31)))])) _
    rw [own_shr16]
    show Steps p.tables e below (T3.setTop (mkF m 10 #[.val (.ref a0), .val (.int p1), .unset] [(.int (16 : Int32))])) _
    refine XS.istoreN X3.here hx rfl (hb hby d_jdk_68_method_9_10) rfl (l' := #[.val (.ref a0), .val (.int p1), .val (.int (16 : Int32))]) rfl ?_
    show Steps p.tables e below (T3.setTop (mkF m 11 #[.val (.ref a0), .val (.int p1), .val (.int (16 : Int32))] [])) _
    refine XS.iloadN X3.here hx rfl (hb hby d_jdk_68_method_9_11) rfl ?_
    show Steps p.tables e below (T3.setTop (mkF m 12 #[.val (.ref a0), .val (.int p1), .val (.int (16 : Int32))] [(.int p1)])) _
    refine XS.iloadN X3.here hx rfl (hb hby d_jdk_68_method_9_12) rfl ?_
    show Steps p.tables e below (T3.setTop (mkF m 13 #[.val (.ref a0), .val (.int p1), .val (.int (16 : Int32))] [(.int (16 : Int32)), (.int p1)])) _
    refine XS.isub X3.here hx rfl (hb hby d_jdk_68_method_9_13) rfl ?_
    show Steps p.tables e below (T3.setTop (mkF m 14 #[.val (.ref a0), .val (.int p1), .val (.int (16 : Int32))] [(.int (p1 - (16 : Int32)))])) _
    refine XS.ifYes X3.here hx rfl (pc0 := 14) (pc' := 38) rfl (hb hby d_jdk_68_method_9_14) rfl ((if0 _ _).trans (flt hc14).2.2.2) (by decide) (by decide) ?_
    show Steps p.tables e below (T3.setTop (mkF m 38 #[.val (.ref a0), .val (.int p1), .val (.int (16 : Int32))] [])) _
    exact X3.returnOut hx Bd.returns (hb hby d_jdk_68_method_9_38) hr
  · show Q_rmEns Z a0 p1 b k c vs h0 n0 _ T3.heap _
    rw [e3]
    exact ⟨rfl, N0, rfl⟩
theorem d_jdk_68_method_68_0 : decode jdk_68_method_68_code 0 = .ok (.getstatic 18, 3) := by decide +kernel
theorem d_jdk_68_method_68_3 : decode jdk_68_method_68_code 3 = .ok (.ifCond .eq 14, 3) := by decide +kernel
theorem d_jdk_68_method_68_6 : decode jdk_68_method_68_code 6 = .ok (.aload_n 0, 1) := by decide +kernel
theorem d_jdk_68_method_68_7 : decode jdk_68_method_68_code 7 = .ok (.getfield 22, 3) := by decide +kernel
theorem d_jdk_68_method_68_10 : decode jdk_68_method_68_code 10 = .ok (.ifCond .ne 7, 3) := by decide +kernel
theorem d_jdk_68_method_68_13 : decode jdk_68_method_68_code 13 = .ok (.iconst 1, 1) := by decide +kernel
theorem d_jdk_68_method_68_14 : decode jdk_68_method_68_code 14 = .ok (.goto 4, 3) := by decide +kernel
theorem d_jdk_68_method_68_18 : decode jdk_68_method_68_code 18 = .ok (.ireturn, 1) := by decide +kernel
theorem ef_rmILb (m : MethodId) (a0 : Addr) : entryFrame m #[(.ref a0)] 1 = mkF m 0 #[.val (.ref a0)] [] := by first | (simp [entryFrame, mkF, argsToLocals, Value.category]; done) | rfl
def Q_rmILb (Z : State) (a0 : Addr) (cs : Int32) (h0 : Heap) (n0 : Nat) (v : Option Value) (h : Heap) (L : List Loc) : Prop := v = some (.int (1 : Int32)) ∧ Fr n0 L ∧ h = h0
set_option maxRecDepth 65536 in
set_option maxHeartbeats 40000000 in
theorem rmILb (l : Launch) (Z : State) (aw : Array Value) (hw : ∀ d ∈ tables_1, d.before aw Z = true) (ws : List Jvm.Cond) (a0 : Addr) (cs : Int32) (h0 : Heap) (n0 : Nat) (Z0 : n0 ≤ h0.size) (Fk : Fld Z h0 a0 "java/lang/AbstractStringBuilder" "coder" "B" (.int (0 : Int32))) (S0 : Sta Z h0 "java/lang/String" "COMPACT_STRINGS" "Z" (.int cs)) (hcs : ¬ (cs = (0 : Int32))) :
    MetFree l (⟨"java/lang/AbstractStringBuilder", "isLatin1", "()Z"⟩ : MethodName) (head1 (Jvm.Cond.code (⟨"java/lang/AbstractStringBuilder", "isLatin1", "()Z"⟩ : MethodName) jdk_68_method_68_code 1 (some .boolean) :: ws) ({ frames := 0, cells := 0, slots := 0, locals := 0 } : Room)) (fun a U => a = #[(.ref a0)] ∧ Z.Warmed39 U.vm ∧ U.heap = h0) (fun _ _ _ _ _ => True) (fun _ U o U' => ∃ v L, o = .returned v ∧ Q_rmILb Z a0 cs h0 n0 v U'.heap L ∧ FrameEnd U o U' L ({ frames := 0, cells := 0, slots := 0, locals := 0 } : Room).cells ({ frames := 0, cells := 0, slots := 0, locals := 0 } : Room).slots) := by
  refine MetFree.of_bodySF (plainFor_of_name pn_java_lang_AbstractStringBuilder) hisR ?_
  intro p e s m args below meth cd s₁ Bd hml0 hP hK
  obtain ⟨rfl, hZ, hh⟩ := hP
  have hx := Bd.exec
  have hby := Bd.bytes
  have hml : cd.maxLocals = 1 := hml0
  have hown : s.vm.findClass "java/lang/AbstractStringBuilder" = some m.cls := findClass_of_methodNamed Bd.named
  have hnm := (name_of_methodNamed Bd.named Bd.method).1
  have X0 : Stand p l e ({ frames := 0, cells := 0, slots := 0, locals := 0 } : Room) s m #[(.ref a0)] below meth cd s₁ [] 0 0 := Stand.of_body Bd
  have e0 : s₁.heap = h0 := by rw [← hh, Bd.state]; rfl
  have N0 := Fr.nil n0
  have pre0 : ∀ t, Steps p.tables e below (s₁.setTop (mkF m 0 #[.val (.ref a0)] [])) t → Steps p.tables e below (s₁.setTop (entryFrame m #[(.ref a0)] 1)) t := fun t k => castTop (ef_rmILb m a0) k
  obtain ⟨T1, X1, e1, st1⟩ := getS2 X0 hx hZ hown (host := "") (Or.inl (hw _ (List.mem_of_getElem? (i := 23) rfl))) Via.refl e0 S0 (g := (mkF m 0 #[.val (.ref a0)] [])) rfl (hb hby d_jdk_68_method_68_0)
  obtain ⟨T2, X2, e2, st2⟩ := getF X1 hx hZ hown (host := "") (Or.inl (hw _ (List.mem_of_getElem? (i := 28) rfl))) Via.refl e1 Fk (g := (mkF m 7 #[.val (.ref a0)] [(.ref a0)])) rfl rfl (hb hby d_jdk_68_method_68_7)
  obtain ⟨fs, hr, hrun, hended, hW, hsame⟩ := X2.leave (v := some (.int (1 : Int32))) (fun h => by rw [Bd.returns] at h; cases h)
  refine ⟨_, _, pre0 _ ?_, hrun, hended, _, _, rfl, ?_, ⟨_, rfl⟩, hW, hsame.mono (by decide) (by decide)⟩
  · show Steps p.tables e below (s₁.setTop (mkF m 0 #[.val (.ref a0)] [])) _
    refine st1 _ ?_
    show Steps p.tables e below (T1.setTop (mkF m 3 #[.val (.ref a0)] [(.int cs)])) _
    refine XS.ifNo X1.here hx rfl (hb hby d_jdk_68_method_68_3) rfl ((if0 _ _).trans (feq (hcs : ¬ (cs = (0 : Int32)))).1) ?_
    show Steps p.tables e below (T1.setTop (mkF m 6 #[.val (.ref a0)] [])) _
    refine XS.aloadN X1.here hx rfl (hb hby d_jdk_68_method_68_6) rfl rfl ?_
    show Steps p.tables e below (T1.setTop (mkF m 7 #[.val (.ref a0)] [(.ref a0)])) _
    refine st2 _ ?_
    show Steps p.tables e below (T2.setTop (mkF m 10 #[.val (.ref a0)] [(.int (0 : Int32))])) _
    refine XS.ifNo X2.here hx rfl (hb hby d_jdk_68_method_68_10) rfl ((if0 _ _).trans (teq (rfl : (0 : Int32) = (0 : Int32))).2) ?_
    show Steps p.tables e below (T2.setTop (mkF m 13 #[.val (.ref a0)] [])) _
    refine XS.iconst X2.here hx rfl (hb hby d_jdk_68_method_68_13) ?_
    show Steps p.tables e below (T2.setTop (mkF m 14 #[.val (.ref a0)] [(.int (1 : Int32))])) _
    refine XS.goto X2.here hx rfl (pc0 := 14) (pc' := 18) rfl (hb hby d_jdk_68_method_68_14) (by decide) (by decide) ?_
    show Steps p.tables e below (T2.setTop (mkF m 18 #[.val (.ref a0)] [(.int (1 : Int32))])) _
    exact retN X2 hx (t := .boolean) Bd.returns (by simp) (hb hby d_jdk_68_method_68_18) hr
  · show Q_rmILb Z a0 cs h0 n0 _ T2.heap _
    rw [e2]
    exact ⟨rfl, N0, rfl⟩
theorem d_jdk_43_method_3_0 : decode jdk_43_method_3_code 0 = .ok (.iload_n 0, 1) := by decide +kernel
theorem d_jdk_43_method_3_1 : decode jdk_43_method_3_code 1 = .ok (.sipush 255, 3) := by decide +kernel
theorem d_jdk_43_method_3_4 : decode jdk_43_method_3_code 4 = .ok (.if_icmp .gt 7, 3) := by decide +kernel
theorem d_jdk_43_method_3_7 : decode jdk_43_method_3_code 7 = .ok (.iconst 1, 1) := by decide +kernel
theorem d_jdk_43_method_3_8 : decode jdk_43_method_3_code 8 = .ok (.goto 4, 3) := by decide +kernel
theorem d_jdk_43_method_3_12 : decode jdk_43_method_3_code 12 = .ok (.ireturn, 1) := by decide +kernel
theorem pn_java_lang_StringLatin1 : plainName "java/lang/StringLatin1" = true := by first | (simp [plainName, overriddenIn]; done) | decide +kernel
theorem ef_rmCan (m : MethodId) (p0 : Int32) : entryFrame m #[(.int p0)] 1 = mkF m 0 #[.val (.int p0)] [] := by first | (simp [entryFrame, mkF, argsToLocals, Value.category]; done) | rfl
def Q_rmCan (Z : State) (p0 : Int32) (h0 : Heap) (n0 : Nat) (v : Option Value) (h : Heap) (L : List Loc) : Prop := v = some (.int (1 : Int32)) ∧ Fr n0 L ∧ h = h0
set_option maxRecDepth 65536 in
set_option maxHeartbeats 40000000 in
theorem rmCan (l : Launch) (Z : State) (aw : Array Value) (hw : ∀ d ∈ tables_1, d.before aw Z = true) (ws : List Jvm.Cond) (p0 : Int32) (h0 : Heap) (n0 : Nat) (Z0 : n0 ≤ h0.size) (hc4 : ¬ ((255 : Int32) < p0)) :
    MetFree l (⟨"java/lang/StringLatin1", "canEncode", "(C)Z"⟩ : MethodName) (head1 (Jvm.Cond.code (⟨"java/lang/StringLatin1", "canEncode", "(C)Z"⟩ : MethodName) jdk_43_method_3_code 1 (some .boolean) :: ws) ({ frames := 0, cells := 0, slots := 0, locals := 0 } : Room)) (fun a U => a = #[(.int p0)] ∧ Z.Warmed39 U.vm ∧ U.heap = h0) (fun _ _ _ _ _ => True) (fun _ U o U' => ∃ v L, o = .returned v ∧ Q_rmCan Z p0 h0 n0 v U'.heap L ∧ FrameEnd U o U' L ({ frames := 0, cells := 0, slots := 0, locals := 0 } : Room).cells ({ frames := 0, cells := 0, slots := 0, locals := 0 } : Room).slots) := by
  refine MetFree.of_bodySF (plainFor_of_name pn_java_lang_StringLatin1) hisR ?_
  intro p e s m args below meth cd s₁ Bd hml0 hP hK
  obtain ⟨rfl, hZ, hh⟩ := hP
  have hx := Bd.exec
  have hby := Bd.bytes
  have hml : cd.maxLocals = 1 := hml0
  have hown : s.vm.findClass "java/lang/StringLatin1" = some m.cls := findClass_of_methodNamed Bd.named
  have hnm := (name_of_methodNamed Bd.named Bd.method).1
  have X0 : Stand p l e ({ frames := 0, cells := 0, slots := 0, locals := 0 } : Room) s m #[(.int p0)] below meth cd s₁ [] 0 0 := Stand.of_body Bd
  have e0 : s₁.heap = h0 := by rw [← hh, Bd.state]; rfl
  have N0 := Fr.nil n0
  have pre0 : ∀ t, Steps p.tables e below (s₁.setTop (mkF m 0 #[.val (.int p0)] [])) t → Steps p.tables e below (s₁.setTop (entryFrame m #[(.int p0)] 1)) t := fun t k => castTop (ef_rmCan m p0) k
  obtain ⟨fs, hr, hrun, hended, hW, hsame⟩ := X0.leave (v := some (.int (1 : Int32))) (fun h => by rw [Bd.returns] at h; cases h)
  refine ⟨_, _, pre0 _ ?_, hrun, hended, _, _, rfl, ?_, ⟨_, rfl⟩, hW, hsame.mono (by decide) (by decide)⟩
  · show Steps p.tables e below (s₁.setTop (mkF m 0 #[.val (.int p0)] [])) _
    refine XS.iloadN X0.here hx rfl (hb hby d_jdk_43_method_3_0) rfl ?_
    show Steps p.tables e below (s₁.setTop (mkF m 1 #[.val (.int p0)] [(.int p0)])) _
    refine XS.sipush X0.here hx rfl (hb hby d_jdk_43_method_3_1) ?_
    show Steps p.tables e below (s₁.setTop (mkF m 4 #[.val (.int p0)] [(.int (255 : Int32)), (.int p0)])) _
    refine XS.icmpNo X0.here hx rfl (hb hby d_jdk_43_method_3_4) rfl (flt hc4).2.2.1 ?_
    show Steps p.tables e below (s₁.setTop (mkF m 7 #[.val (.int p0)] [])) _
    refine XS.iconst X0.here hx rfl (hb hby d_jdk_43_method_3_7) ?_
    show Steps p.tables e below (s₁.setTop (mkF m 8 #[.val (.int p0)] [(.int (1 : Int32))])) _
    refine XS.goto X0.here hx rfl (pc0 := 8) (pc' := 12) rfl (hb hby d_jdk_43_method_3_8) (by decide) (by decide) ?_
    show Steps p.tables e below (s₁.setTop (mkF m 12 #[.val (.int p0)] [(.int (1 : Int32))])) _
    exact retN X0 hx (t := .boolean) Bd.returns (by simp) (hb hby d_jdk_43_method_3_12) hr
  · show Q_rmCan Z p0 h0 n0 _ s₁.heap _
    rw [e0]
    exact ⟨rfl, N0, rfl⟩
theorem d_jdk_68_method_31_0 : decode jdk_68_method_31_code 0 = .ok (.aload_n 0, 1) := by decide +kernel
theorem d_jdk_68_method_31_1 : decode jdk_68_method_31_code 1 = .ok (.aload_n 0, 1) := by decide +kernel
theorem d_jdk_68_method_31_2 : decode jdk_68_method_31_code 2 = .ok (.getfield 79, 3) := by decide +kernel
theorem d_jdk_68_method_31_5 : decode jdk_68_method_31_code 5 = .ok (.iconst 1, 1) := by decide +kernel
theorem d_jdk_68_method_31_6 : decode jdk_68_method_31_code 6 = .ok (.iadd, 1) := by decide +kernel
theorem d_jdk_68_method_31_7 : decode jdk_68_method_31_code 7 = .ok (.invokevirtual 100, 3) := by decide +kernel
theorem d_jdk_68_method_31_10 : decode jdk_68_method_31_code 10 = .ok (.aload_n 0, 1) := by decide +kernel
theorem d_jdk_68_method_31_11 : decode jdk_68_method_31_code 11 = .ok (.invokevirtual 83, 3) := by decide +kernel
theorem d_jdk_68_method_31_14 : decode jdk_68_method_31_code 14 = .ok (.ifCond .eq 31, 3) := by decide +kernel
theorem d_jdk_68_method_31_17 : decode jdk_68_method_31_code 17 = .ok (.iload_n 1, 1) := by decide +kernel
theorem d_jdk_68_method_31_18 : decode jdk_68_method_31_code 18 = .ok (.invokestatic 191, 3) := by decide +kernel
theorem d_jdk_68_method_31_21 : decode jdk_68_method_31_code 21 = .ok (.ifCond .eq 24, 3) := by decide +kernel
theorem d_jdk_68_method_31_24 : decode jdk_68_method_31_code 24 = .ok (.aload_n 0, 1) := by decide +kernel
theorem d_jdk_68_method_31_25 : decode jdk_68_method_31_code 25 = .ok (.getfield 15, 3) := by decide +kernel
theorem d_jdk_68_method_31_28 : decode jdk_68_method_31_code 28 = .ok (.aload_n 0, 1) := by decide +kernel
theorem d_jdk_68_method_31_29 : decode jdk_68_method_31_code 29 = .ok (.dup, 1) := by decide +kernel
theorem d_jdk_68_method_31_30 : decode jdk_68_method_31_code 30 = .ok (.getfield 79, 3) := by decide +kernel
theorem d_jdk_68_method_31_33 : decode jdk_68_method_31_code 33 = .ok (.dup_x1, 1) := by decide +kernel
theorem d_jdk_68_method_31_34 : decode jdk_68_method_31_code 34 = .ok (.iconst 1, 1) := by decide +kernel
theorem d_jdk_68_method_31_35 : decode jdk_68_method_31_code 35 = .ok (.iadd, 1) := by decide +kernel
theorem d_jdk_68_method_31_36 : decode jdk_68_method_31_code 36 = .ok (.putfield 79, 3) := by decide +kernel
theorem d_jdk_68_method_31_39 : decode jdk_68_method_31_code 39 = .ok (.iload_n 1, 1) := by decide +kernel
theorem d_jdk_68_method_31_40 : decode jdk_68_method_31_code 40 = .ok (.i2b, 1) := by decide +kernel
theorem d_jdk_68_method_31_41 : decode jdk_68_method_31_code 41 = .ok (.bastore, 1) := by decide +kernel
theorem d_jdk_68_method_31_42 : decode jdk_68_method_31_code 42 = .ok (.goto 33, 3) := by decide +kernel
theorem d_jdk_68_method_31_75 : decode jdk_68_method_31_code 75 = .ok (.aload_n 0, 1) := by decide +kernel
theorem d_jdk_68_method_31_76 : decode jdk_68_method_31_code 76 = .ok (.areturn, 1) := by decide +kernel
theorem pd___Z : parseMethodDescriptor "()Z" = some ⟨[], some .boolean⟩ := by decide +kernel
theorem pd__C_Z : parseMethodDescriptor "(C)Z" = some ⟨[.char], some .boolean⟩ := by decide +kernel
theorem ef_rmAC (m : MethodId) (a0 : Addr) (p1 : Int32) : entryFrame m #[(.ref a0), (.int p1)] 2 = mkF m 0 #[.val (.ref a0), .val (.int p1)] [] := by first | (simp [entryFrame, mkF, argsToLocals, Value.category]; done) | rfl
def Q_rmAC (Z : State) (a0 : Addr) (p1 : Int32) (b : Addr) (k : ClassId) (c : Int32) (vs : List Value) (cs : Int32) (h0 : Heap) (n0 : Nat) (v : Option Value) (h : Heap) (L : List Loc) : Prop := v = some (.ref a0) ∧ Fr n0 L ∧ Keep h0 h [a0, b] ∧ Exa Z h a0 "java/lang/StringBuilder" ∧ Fld Z h a0 "java/lang/AbstractStringBuilder" "value" "[B" (.ref b) ∧ Fld Z h a0 "java/lang/AbstractStringBuilder" "coder" "B" (.int (0 : Int32)) ∧ Fld Z h a0 "java/lang/AbstractStringBuilder" "count" "I" (.int (c + (1 : Int32))) ∧ Arv Z h b k .byte (16 : Int32) (vs.set (c).toNatClampNeg (.int (nar .byte (p1.toInt8.toInt32)))) (.int (0 : Int32))
set_option maxRecDepth 65536 in
set_option maxHeartbeats 40000000 in
theorem rmAC (l : Launch) (Z : State) (aw : Array Value) (hw : ∀ d ∈ tables_1, d.before aw Z = true) (ws : List Jvm.Cond) (a0 : Addr) (p1 : Int32) (b : Addr) (k : ClassId) (c : Int32) (vs : List Value) (cs : Int32) (h0 : Heap) (n0 : Nat) (Z0 : n0 ≤ h0.size) (E0 : Exa Z h0 a0 "java/lang/StringBuilder") (g0 : n0 ≤ a0) (Fv : Fld Z h0 a0 "java/lang/AbstractStringBuilder" "value" "[B" (.ref b)) (Fk : Fld Z h0 a0 "java/lang/AbstractStringBuilder" "coder" "B" (.int (0 : Int32))) (Fn : Fld Z h0 a0 "java/lang/AbstractStringBuilder" "count" "I" (.int c)) (V0 : Arv Z h0 b k .byte (16 : Int32) vs (.int (0 : Int32))) (gb : n0 ≤ b) (S0 : Sta Z h0 "java/lang/String" "COMPACT_STRINGS" "Z" (.int cs)) (hcap : ¬ ((0 : Int32) < ((c + (1 : Int32)) - (16 : Int32)))) (hcan : ¬ ((255 : Int32) < p1)) (hc0 : ¬ c < 0 ∧ c < (16 : Int32)) (hlen : c.toNatClampNeg < vs.length) (hcs : ¬ (cs = (0 : Int32))) :
    MetFree l (⟨"java/lang/AbstractStringBuilder", "append", "(C)Ljava/lang/AbstractStringBuilder;"⟩ : MethodName) (head1 (Jvm.Cond.code (⟨"java/lang/AbstractStringBuilder", "append", "(C)Ljava/lang/AbstractStringBuilder;"⟩ : MethodName) jdk_68_method_31_code 2 (some (.object "java/lang/AbstractStringBuilder")) :: ws) ({ frames := 1, cells := 0, slots := 0, locals := 14 } : Room)) (fun a U => a = #[(.ref a0), (.int p1)] ∧ Z.Warmed39 U.vm ∧ U.heap = h0) (fun _ _ _ _ _ => True) (fun _ U o U' => ∃ v L, o = .returned v ∧ Q_rmAC Z a0 p1 b k c vs cs h0 n0 v U'.heap L ∧ FrameEnd U o U' L ({ frames := 1, cells := 0, slots := 0, locals := 14 } : Room).cells ({ frames := 1, cells := 0, slots := 0, locals := 14 } : Room).slots) := by
  refine MetFree.of_bodySF (plainFor_of_name pn_java_lang_AbstractStringBuilder) hisR ?_
  intro p e s m args below meth cd s₁ Bd hml0 hP hK
  obtain ⟨rfl, hZ, hh⟩ := hP
  have hx := Bd.exec
  have hby := Bd.bytes
  have hml : cd.maxLocals = 2 := hml0
  have hown : s.vm.findClass "java/lang/AbstractStringBuilder" = some m.cls := findClass_of_methodNamed Bd.named
  have hnm := (name_of_methodNamed Bd.named Bd.method).1
  have X0 : Stand p l e ({ frames := 1, cells := 0, slots := 0, locals := 14 } : Room) s m #[(.ref a0), (.int p1)] below meth cd s₁ [] 0 0 := Stand.of_body Bd
  have e0 : s₁.heap = h0 := by rw [← hh, Bd.state]; rfl
  have N0 := Fr.nil n0
  have pre0 : ∀ t, Steps p.tables e below (s₁.setTop (mkF m 0 #[.val (.ref a0), .val (.int p1)] [])) t → Steps p.tables e below (s₁.setTop (entryFrame m #[(.ref a0), (.int p1)] 2)) t := fun t k => castTop (ef_rmAC m a0 p1) k
  obtain ⟨T1, X1, e1, st1⟩ := getF X0 hx hZ hown (host := "") (Or.inl (hw _ (List.mem_of_getElem? (i := 73) rfl))) Via.refl e0 Fn (g := (mkF m 2 #[.val (.ref a0), .val (.int p1)] [(.ref a0), (.ref a0)])) rfl rfl (hb hby d_jdk_68_method_31_2)
  obtain ⟨cq2, q2, q2'⟩ := E0.cell
  obtain ⟨_, _, ⟨T2, L2, k2, n2⟩, -, X2, ⟨Lc2, hQ2, l2, y2, z2⟩, st2⟩ := X1.privateBack hx (y := (⟨"java/lang/AbstractStringBuilder", "ensureCapacityInternal", "(I)V"⟩ : MethodName)) hown (mvT hZ (hw _ (List.mem_of_getElem? (i := 75) rfl))) (mvT hZ (hw _ (List.mem_of_getElem? (i := 76) rfl))) (own_sel2 hZ (hw _ (List.mem_of_getElem? (i := 112) rfl)) (hw _ (List.mem_of_getElem? (i := 77) rfl)) (hw _ (List.mem_of_getElem? (i := 76) rfl)) (by decide) rfl) (Cond.privateMethod_at (mvP hZ (hw _ (List.mem_of_getElem? (i := 77) rfl)) (args := #[]))) (mvT hZ (hw _ (List.mem_of_getElem? (i := 79) rfl))) (by decide) (backOf (W := 0) (rmEns l Z aw hw [] a0 (c + (1 : Int32)) b k c vs h0 n0 Z0 Fv Fk V0 hcap) hZ (hw _ (List.mem_of_getElem? (i := 79) rfl)) (hw _ (List.mem_of_getElem? (i := 20) rfl)) (by decide) (by decide)) (g := (mkF m 7 #[.val (.ref a0), .val (.int p1)] [(.int (c + (1 : Int32))), (.ref a0)])) rfl (by rw [hml]; rfl) (Steps.refl _) (a := a0) (by rw [e1]; exact q2) q2' (argsL := [(.int (c + (1 : Int32)))]) (rest := []) (lenOf pd__I_V rfl) rfl (by show 2 * 0 + _ ≤ _; exact Nat.le_of_eq rfl) (hb hby d_jdk_68_method_31_7) (fun _ _ => ⟨rfl, e1, (by decide : 0 + 0 ≤ _), (by decide : 0 + 0 ≤ _)⟩)
  dsimp only [Pt.U, Pt.locs, Pt.cells, Pt.slots] at X2 l2 y2 z2 st2 hQ2
  subst l2 y2 z2
  obtain ⟨rfl, N2q, q2⟩ := hQ2
  have N2 := Fr.app N0 N2q
  obtain ⟨cq3, kq3, q3a, q3b, q3c⟩ := isOf hZ q2 E0
  obtain ⟨_, _, ⟨T3, L3, k3, n3⟩, -, X3, ⟨Lc3, hQ3, l3, y3, z3⟩, st3⟩ := X2.virtualBack hx (y := (⟨"java/lang/AbstractStringBuilder", "isLatin1", "()Z"⟩ : MethodName)) (z := (⟨"java/lang/AbstractStringBuilder", "isLatin1", "()Z"⟩ : MethodName)) hown (mvT hZ (hw _ (List.mem_of_getElem? (i := 109) rfl))) (mvT hZ (hw _ (List.mem_of_getElem? (i := 110) rfl))) (notFace_of_selects (args := #[]) (mvT hZ (hw _ (List.mem_of_getElem? (i := 112) rfl)))) (mvT hZ (hw _ (List.mem_of_getElem? (i := 112) rfl))) (mvT hZ (hw _ (List.mem_of_getElem? (i := 111) rfl))) (by decide) (backOf (W := 0) (rmILb l Z aw hw [] a0 cs h0 n0 Z0 Fk S0 hcs) hZ (hw _ (List.mem_of_getElem? (i := 113) rfl)) (hw _ (List.mem_of_getElem? (i := 20) rfl)) (by decide) (by decide)) q3a q3c (g := (mkF m 11 #[.val (.ref a0), .val (.int p1)] [(.ref a0)])) rfl (by rw [hml]; rfl) (Steps.refl _) (argsL := []) (rest := []) (lenOf pd___Z rfl) rfl (by show 2 * 0 + _ ≤ _; exact Nat.le_of_eq rfl) (hb hby d_jdk_68_method_31_11) (fun _ _ => ⟨rfl, q2, (by decide : 0 + 0 ≤ _), (by decide : 0 + 0 ≤ _)⟩)
  dsimp only [Pt.U, Pt.locs, Pt.cells, Pt.slots] at X3 l3 y3 z3 st3 hQ3
  subst l3 y3 z3
  obtain ⟨rfl, N3q, q3⟩ := hQ3
  have N3 := Fr.app N2 N3q
  obtain ⟨_, _, ⟨T4, L4, k4, n4⟩, -, X4, ⟨Lc4, hQ4, l4, y4, z4⟩, st4⟩ := Jvm.LawKit.callS X3 hx (y := (⟨"java/lang/StringLatin1", "canEncode", "(C)Z"⟩ : MethodName)) hown (mvT hZ (hw _ (List.mem_of_getElem? (i := 114) rfl))) (mvT hZ (hw _ (List.mem_of_getElem? (i := 115) rfl))) (mvT hZ (hw _ (List.mem_of_getElem? (i := 116) rfl))) (mvT hZ (hw _ (List.mem_of_getElem? (i := 117) rfl))) (by decide) (backOf (W := 0) (rmCan l Z aw hw [] p1 h0 n0 Z0 hcan) hZ (hw _ (List.mem_of_getElem? (i := 117) rfl)) (hw _ (List.mem_of_getElem? (i := 116) rfl)) (by decide) (by decide)) (g := (mkF m 18 #[.val (.ref a0), .val (.int p1)] [(.int p1)])) rfl (by rw [hml]; rfl) (argsL := [(.int p1)]) (rest := []) (lenOf pd__C_Z rfl) rfl (by show 2 * 0 + _ ≤ _; exact Nat.le_of_eq rfl) (hb hby d_jdk_68_method_31_18) (fun _ _ => ⟨rfl, q3, (by decide : 0 + 0 ≤ _), (by decide : 0 + 0 ≤ _)⟩)
  dsimp only [Pt.U, Pt.locs, Pt.cells, Pt.slots] at X4 l4 y4 z4 st4 hQ4
  subst l4 y4 z4
  obtain ⟨rfl, N4q, q4⟩ := hQ4
  have N4 := Fr.app N3 N4q
  obtain ⟨T5, X5, e5, st5⟩ := getF X4 hx hZ hown (host := "") (Or.inl (hw _ (List.mem_of_getElem? (i := 26) rfl))) Via.refl q4 Fv (g := (mkF m 25 #[.val (.ref a0), .val (.int p1)] [(.ref a0)])) rfl rfl (hb hby d_jdk_68_method_31_25)
  obtain ⟨T6, X6, e6, st6⟩ := getF X5 hx hZ hown (host := "") (Or.inl (hw _ (List.mem_of_getElem? (i := 73) rfl))) Via.refl e5 Fn (g := (mkF m 30 #[.val (.ref a0), .val (.int p1)] [(.ref a0), (.ref a0), (.ref b)])) rfl rfl (hb hby d_jdk_68_method_31_30)
  obtain ⟨T7, h7, X7, e7, W7, st7⟩ := putF X6 hx hZ hown (host := "") (Or.inl (hw _ (List.mem_of_getElem? (i := 73) rfl))) Via.refl e6 Fn E0 (Or.inl (hw _ (List.mem_of_getElem? (i := 74) rfl))) (hw _ (List.mem_of_getElem? (i := 11) rfl)) (ty := .int) (by decide) rfl rfl (g := (mkF m 36 #[.val (.ref a0), .val (.int p1)] [(.int (c + (1 : Int32))), (.ref a0), (.int c), (.ref b)])) rfl rfl (hb hby d_jdk_68_method_31_36)
  have S0__7 := S0.wr W7
  have E0__7 := E0.wr W7
  have Fv__7 := Fv.other W7 (Or.inr (slot_ne (Or.inl (hw _ (List.mem_of_getElem? (i := 27) rfl))) (Or.inl (hw _ (List.mem_of_getElem? (i := 74) rfl))) (by decide) (t := (.array .byte)) (t' := .int) (by decide) (by decide)))
  have Fk__7 := Fk.other W7 (Or.inr (slot_ne (Or.inl (hw _ (List.mem_of_getElem? (i := 29) rfl))) (Or.inl (hw _ (List.mem_of_getElem? (i := 74) rfl))) (by decide) (t := .byte) (t' := .int) (by decide) (by decide)))
  have Fn__7 := Fn.same W7
  have V0__7 := V0.other W7 (Ne.symm (E0.neArv V0 (hw _ (List.mem_of_getElem? (i := 11) rfl))))
  have K7 : Keep h0 h7 [a0, b] := (Keep.refl h0 [a0, b]).wr W7 (Or.inl (List.mem_of_getElem? (i := 0) rfl))
  have Zs7 : n0 ≤ h7.size := Nat.le_trans Z0 (Keep.of_wr W7).1
  have N7 := Fr.snoc X7 N4 g0
  have Vo8 := V0__7
  obtain ⟨cl8, Ar8, q8, S8, Ng8, Hs8, Gf8⟩ := Vo8
  have hin8 : ¬ (c < 0 ∨ cl8.slots.size ≤ (c).toNatClampNeg) := inb_of S8 hc0
  obtain ⟨T8, h8, X8, e8, W8, st8⟩ := stB X7 hx hZ e7 Ar8 (j := c) hin8 (g := (mkF m 41 #[.val (.ref a0), .val (.int p1)] [(.int (p1.toInt8.toInt32)), (.int c), (.ref b)])) rfl rfl (hb hby d_jdk_68_method_31_41)
  have V_b__8 : Arv Z h8 b k .byte (16 : Int32) (vs.set (c).toNatClampNeg (.int (nar .byte (p1.toInt8.toInt32)))) (.int (0 : Int32)) := Arv.set Ar8 q8 S8 Ng8 Hs8 Gf8 (fits_nar_byte _) W8 _ rfl hlen
  have S0__8 := S0__7.wr W8
  have E0__8 := E0__7.wr W8
  have Fv__8 := Fv__7.other W8 (Or.inl (E0__7.neArv V0__7 (hw _ (List.mem_of_getElem? (i := 11) rfl))))
  have Fk__8 := Fk__7.other W8 (Or.inl (E0__7.neArv V0__7 (hw _ (List.mem_of_getElem? (i := 11) rfl))))
  have Fn__8 := Fn__7.other W8 (Or.inl (E0__7.neArv V0__7 (hw _ (List.mem_of_getElem? (i := 11) rfl))))
  have K8 : Keep h0 h8 [a0, b] := K7.wr W8 (Or.inl (List.mem_of_getElem? (i := 1) rfl))
  have Zs8 : n0 ≤ h8.size := Nat.le_trans Zs7 (Keep.of_wr W8).1
  have N8 := Fr.snoc X8 N7 gb
  obtain ⟨fs, hr, hrun, hended, hW, hsame⟩ := X8.leave (v := some (.ref a0)) (fun h => by rw [Bd.returns] at h; cases h)
  refine ⟨_, _, pre0 _ ?_, hrun, hended, _, _, rfl, ?_, ⟨_, rfl⟩, hW, hsame.mono (by decide) (by decide)⟩
  · show Steps p.tables e below (s₁.setTop (mkF m 0 #[.val (.ref a0), .val (.int p1)] [])) _
    refine XS.aloadN X0.here hx rfl (hb hby d_jdk_68_method_31_0) rfl rfl ?_
    show Steps p.tables e below (s₁.setTop (mkF m 1 #[.val (.ref a0), .val (.int p1)] [(.ref a0)])) _
    refine XS.aloadN X0.here hx rfl (hb hby d_jdk_68_method_31_1) rfl rfl ?_
    show Steps p.tables e below (s₁.setTop (mkF m 2 #[.val (.ref a0), .val (.int p1)] [(.ref a0), (.ref a0)])) _
    refine st1 _ ?_
    show Steps p.tables e below (T1.setTop (mkF m 5 #[.val (.ref a0), .val (.int p1)] [(.int c), (.ref a0)])) _
    refine XS.iconst X1.here hx rfl (hb hby d_jdk_68_method_31_5) ?_
    show Steps p.tables e below (T1.setTop (mkF m 6 #[.val (.ref a0), .val (.int p1)] [(.int (1 : Int32)), (.int c), (.ref a0)])) _
    refine XS.iadd X1.here hx rfl (hb hby d_jdk_68_method_31_6) rfl ?_
    show Steps p.tables e below (T1.setTop (mkF m 7 #[.val (.ref a0), .val (.int p1)] [(.int (c + (1 : Int32))), (.ref a0)])) _
    refine st2.trans ?_
    show Steps p.tables e below (T2.setTop (mkF m 10 #[.val (.ref a0), .val (.int p1)] [])) _
    refine XS.aloadN X2.here hx rfl (hb hby d_jdk_68_method_31_10) rfl rfl ?_
    show Steps p.tables e below (T2.setTop (mkF m 11 #[.val (.ref a0), .val (.int p1)] [(.ref a0)])) _
    refine st3.trans ?_
    show Steps p.tables e below (T3.setTop (mkF m 14 #[.val (.ref a0), .val (.int p1)] [(.int (1 : Int32))])) _
    refine XS.ifNo X3.here hx rfl (hb hby d_jdk_68_method_31_14) rfl ((if0 _ _).trans (feq (by decide : ¬ ((1 : Int32) = (0 : Int32)))).1) ?_
    show Steps p.tables e below (T3.setTop (mkF m 17 #[.val (.ref a0), .val (.int p1)] [])) _
    refine XS.iloadN X3.here hx rfl (hb hby d_jdk_68_method_31_17) rfl ?_
    show Steps p.tables e below (T3.setTop (mkF m 18 #[.val (.ref a0), .val (.int p1)] [(.int p1)])) _
    refine st4 _ ?_
    show Steps p.tables e below (T4.setTop (mkF m 21 #[.val (.ref a0), .val (.int p1)] [(.int (1 : Int32))])) _
    refine XS.ifNo X4.here hx rfl (hb hby d_jdk_68_method_31_21) rfl ((if0 _ _).trans (feq (by decide : ¬ ((1 : Int32) = (0 : Int32)))).1) ?_
    show Steps p.tables e below (T4.setTop (mkF m 24 #[.val (.ref a0), .val (.int p1)] [])) _
    refine XS.aloadN X4.here hx rfl (hb hby d_jdk_68_method_31_24) rfl rfl ?_
    show Steps p.tables e below (T4.setTop (mkF m 25 #[.val (.ref a0), .val (.int p1)] [(.ref a0)])) _
    refine st5 _ ?_
    show Steps p.tables e below (T5.setTop (mkF m 28 #[.val (.ref a0), .val (.int p1)] [(.ref b)])) _
    refine XS.aloadN X5.here hx rfl (hb hby d_jdk_68_method_31_28) rfl rfl ?_
    show Steps p.tables e below (T5.setTop (mkF m 29 #[.val (.ref a0), .val (.int p1)] [(.ref a0), (.ref b)])) _
    refine XS.dup X5.here hx rfl (hb hby d_jdk_68_method_31_29) rfl rfl ?_
    show Steps p.tables e below (T5.setTop (mkF m 30 #[.val (.ref a0), .val (.int p1)] [(.ref a0), (.ref a0), (.ref b)])) _
    refine st6 _ ?_
    show Steps p.tables e below (T6.setTop (mkF m 33 #[.val (.ref a0), .val (.int p1)] [(.int c), (.ref a0), (.ref b)])) _
    refine XS.dupX1 X6.here hx rfl (hb hby d_jdk_68_method_31_33) rfl rfl rfl ?_
    show Steps p.tables e below (T6.setTop (mkF m 34 #[.val (.ref a0), .val (.int p1)] [(.int c), (.ref a0), (.int c), (.ref b)])) _
    refine XS.iconst X6.here hx rfl (hb hby d_jdk_68_method_31_34) ?_
    show Steps p.tables e below (T6.setTop (mkF m 35 #[.val (.ref a0), .val (.int p1)] [(.int (1 : Int32)), (.int c), (.ref a0), (.int c), (.ref b)])) _
    refine XS.iadd X6.here hx rfl (hb hby d_jdk_68_method_31_35) rfl ?_
    show Steps p.tables e below (T6.setTop (mkF m 36 #[.val (.ref a0), .val (.int p1)] [(.int (c + (1 : Int32))), (.ref a0), (.int c), (.ref b)])) _
    refine st7 _ ?_
    show Steps p.tables e below (T7.setTop (mkF m 39 #[.val (.ref a0), .val (.int p1)] [(.int c), (.ref b)])) _
    refine XS.iloadN X7.here hx rfl (hb hby d_jdk_68_method_31_39) rfl ?_
    show Steps p.tables e below (T7.setTop (mkF m 40 #[.val (.ref a0), .val (.int p1)] [(.int p1), (.int c), (.ref b)])) _
    refine XS.i2b X7.here hx rfl (hb hby d_jdk_68_method_31_40) rfl ?_
    show Steps p.tables e below (T7.setTop (mkF m 41 #[.val (.ref a0), .val (.int p1)] [(.int (p1.toInt8.toInt32)), (.int c), (.ref b)])) _
    refine st8 _ ?_
    show Steps p.tables e below (T8.setTop (mkF m 42 #[.val (.ref a0), .val (.int p1)] [])) _
    refine XS.goto X8.here hx rfl (pc0 := 42) (pc' := 75) rfl (hb hby d_jdk_68_method_31_42) (by decide) (by decide) ?_
    show Steps p.tables e below (T8.setTop (mkF m 75 #[.val (.ref a0), .val (.int p1)] [])) _
    refine XS.aloadN X8.here hx rfl (hb hby d_jdk_68_method_31_75) rfl rfl ?_
    show Steps p.tables e below (T8.setTop (mkF m 76 #[.val (.ref a0), .val (.int p1)] [(.ref a0)])) _
    jvm_step X8.here [X8.here.top, hx, (hb hby d_jdk_68_method_31_76), X8.method', Bd.returns, Value.isRef, FieldType.isReference]
    first | (intro acts; rw [hr _ acts rfl rfl rfl]) | rw [hr _ _ rfl rfl rfl]
    exact Steps.refl _
  · show Q_rmAC Z a0 p1 b k c vs cs h0 n0 _ T8.heap _
    rw [e8]
    exact ⟨rfl, N8, K8, E0__8, Fv__8, Fk__8, Fn__8, V_b__8⟩
theorem d_jdk_67_method_14_0 : decode jdk_67_method_14_code 0 = .ok (.aload_n 0, 1) := by decide +kernel
theorem d_jdk_67_method_14_1 : decode jdk_67_method_14_code 1 = .ok (.iload_n 1, 1) := by decide +kernel
theorem d_jdk_67_method_14_2 : decode jdk_67_method_14_code 2 = .ok (.invokespecial 50, 3) := by decide +kernel
theorem d_jdk_67_method_14_5 : decode jdk_67_method_14_code 5 = .ok (.pop, 1) := by decide +kernel
theorem d_jdk_67_method_14_6 : decode jdk_67_method_14_code 6 = .ok (.aload_n 0, 1) := by decide +kernel
theorem d_jdk_67_method_14_7 : decode jdk_67_method_14_code 7 = .ok (.areturn, 1) := by decide +kernel
theorem pd__C_Ljava_lang_AbstractStringBuilder_ : parseMethodDescriptor "(C)Ljava/lang/AbstractStringBuilder;" = some ⟨[.char], some (.object "java/lang/AbstractStringBuilder")⟩ := by decide +kernel
theorem ef_rmSC (m : MethodId) (a0 : Addr) (p1 : Int32) : entryFrame m #[(.ref a0), (.int p1)] 2 = mkF m 0 #[.val (.ref a0), .val (.int p1)] [] := by first | (simp [entryFrame, mkF, argsToLocals, Value.category]; done) | rfl
def Q_rmSC (Z : State) (a0 : Addr) (p1 : Int32) (b : Addr) (k : ClassId) (c : Int32) (vs : List Value) (cs : Int32) (h0 : Heap) (n0 : Nat) (v : Option Value) (h : Heap) (L : List Loc) : Prop := v = some (.ref a0) ∧ Fr n0 L ∧ Keep h0 h [a0, b] ∧ Exa Z h a0 "java/lang/StringBuilder" ∧ Fld Z h a0 "java/lang/AbstractStringBuilder" "value" "[B" (.ref b) ∧ Fld Z h a0 "java/lang/AbstractStringBuilder" "coder" "B" (.int (0 : Int32)) ∧ Fld Z h a0 "java/lang/AbstractStringBuilder" "count" "I" (.int (c + (1 : Int32))) ∧ Arv Z h b k .byte (16 : Int32) (vs.set (c).toNatClampNeg (.int (nar .byte (p1.toInt8.toInt32)))) (.int (0 : Int32))
set_option maxRecDepth 65536 in
set_option maxHeartbeats 40000000 in
theorem rmSC (l : Launch) (Z : State) (aw : Array Value) (hw : ∀ d ∈ tables_1, d.before aw Z = true) (ws : List Jvm.Cond) (a0 : Addr) (p1 : Int32) (b : Addr) (k : ClassId) (c : Int32) (vs : List Value) (cs : Int32) (h0 : Heap) (n0 : Nat) (Z0 : n0 ≤ h0.size) (E0 : Exa Z h0 a0 "java/lang/StringBuilder") (g0 : n0 ≤ a0) (Fv : Fld Z h0 a0 "java/lang/AbstractStringBuilder" "value" "[B" (.ref b)) (Fk : Fld Z h0 a0 "java/lang/AbstractStringBuilder" "coder" "B" (.int (0 : Int32))) (Fn : Fld Z h0 a0 "java/lang/AbstractStringBuilder" "count" "I" (.int c)) (V0 : Arv Z h0 b k .byte (16 : Int32) vs (.int (0 : Int32))) (gb : n0 ≤ b) (S0 : Sta Z h0 "java/lang/String" "COMPACT_STRINGS" "Z" (.int cs)) (hcap : ¬ ((0 : Int32) < ((c + (1 : Int32)) - (16 : Int32)))) (hcan : ¬ ((255 : Int32) < p1)) (hc0 : ¬ c < 0 ∧ c < (16 : Int32)) (hlen : c.toNatClampNeg < vs.length) (hcs : ¬ (cs = (0 : Int32))) :
    MetFree l (⟨"java/lang/StringBuilder", "append", "(C)Ljava/lang/StringBuilder;"⟩ : MethodName) (head1 (Jvm.Cond.code (⟨"java/lang/StringBuilder", "append", "(C)Ljava/lang/StringBuilder;"⟩ : MethodName) jdk_67_method_14_code 2 (some (.object "java/lang/StringBuilder")) :: ws) ({ frames := 2, cells := 0, slots := 0, locals := 27 } : Room)) (fun a U => a = #[(.ref a0), (.int p1)] ∧ Z.Warmed39 U.vm ∧ U.heap = h0) (fun _ _ _ _ _ => True) (fun _ U o U' => ∃ v L, o = .returned v ∧ Q_rmSC Z a0 p1 b k c vs cs h0 n0 v U'.heap L ∧ FrameEnd U o U' L ({ frames := 2, cells := 0, slots := 0, locals := 27 } : Room).cells ({ frames := 2, cells := 0, slots := 0, locals := 27 } : Room).slots) := by
  refine MetFree.of_bodySF (plainFor_of_name pn_java_lang_StringBuilder) hisR ?_
  intro p e s m args below meth cd s₁ Bd hml0 hP hK
  obtain ⟨rfl, hZ, hh⟩ := hP
  have hx := Bd.exec
  have hby := Bd.bytes
  have hml : cd.maxLocals = 2 := hml0
  have hown : s.vm.findClass "java/lang/StringBuilder" = some m.cls := findClass_of_methodNamed Bd.named
  have hnm := (name_of_methodNamed Bd.named Bd.method).1
  have X0 : Stand p l e ({ frames := 2, cells := 0, slots := 0, locals := 27 } : Room) s m #[(.ref a0), (.int p1)] below meth cd s₁ [] 0 0 := Stand.of_body Bd
  have e0 : s₁.heap = h0 := by rw [← hh, Bd.state]; rfl
  have N0 := Fr.nil n0
  have pre0 : ∀ t, Steps p.tables e below (s₁.setTop (mkF m 0 #[.val (.ref a0), .val (.int p1)] [])) t → Steps p.tables e below (s₁.setTop (entryFrame m #[(.ref a0), (.int p1)] 2)) t := fun t k => castTop (ef_rmSC m a0 p1) k
  obtain ⟨_, _, ⟨T1, L1, k1, n1⟩, -, X1, ⟨Lc1, hQ1, l1, y1, z1⟩, st1⟩ := superBack X0 hx hZ (y := (⟨"java/lang/AbstractStringBuilder", "append", "(C)Ljava/lang/AbstractStringBuilder;"⟩ : MethodName)) hown (hw _ (List.mem_of_getElem? (i := 105) rfl)) (own_same (hw _ (List.mem_of_getElem? (i := 106) rfl)) (hw _ (List.mem_of_getElem? (i := 112) rfl)) (by decide) rfl) (hw _ (List.mem_of_getElem? (i := 106) rfl)) (hw _ (List.mem_of_getElem? (i := 57) rfl)) (by decide) (backOf (W := 0) (rmAC l Z aw hw [] a0 p1 b k c vs cs h0 n0 Z0 E0 g0 Fv Fk Fn V0 gb S0 hcap hcan hc0 hlen hcs) hZ (hw _ (List.mem_of_getElem? (i := 108) rfl)) (hw _ (List.mem_of_getElem? (i := 20) rfl)) (by decide) (by decide)) e0 (Ins.self E0) (g := (mkF m 2 #[.val (.ref a0), .val (.int p1)] [(.int p1), (.ref a0)])) rfl (by rw [hml]; rfl) (hw _ (List.mem_of_getElem? (i := 108) rfl)) (argsL := [(.int p1)]) (rest := []) (lenOf pd__C_Ljava_lang_AbstractStringBuilder_ rfl) rfl (by show 2 * 0 + _ ≤ _; exact Nat.le_of_eq rfl) (hb hby d_jdk_67_method_14_2) (fun _ _ => ⟨rfl, e0, (by decide : 0 + 0 ≤ _), (by decide : 0 + 0 ≤ _)⟩)
  dsimp only [Pt.U, Pt.locs, Pt.cells, Pt.slots] at X1 l1 y1 z1 st1 hQ1
  subst l1 y1 z1
  obtain ⟨rfl, N1q, Kc1, Ec1, Fv1, Fk1, Fn1, Vb1⟩ := hQ1
  have N1 := Fr.app N0 N1q
  have S0__1 := own_sta_keep S0 Kc1 (nsS (E0.nostat) (nsS (V0.nostat) ns0))
  have KK1 : Keep h0 T1.heap [a0, b] := Keep.trans (Keep.refl h0 [a0, b]) Kc1 (fun x q => by simp only [List.mem_cons, List.not_mem_nil, or_false] at q; rcases q with rfl | rfl <;> first | exact (Or.inl (List.mem_of_getElem? (i := 0) rfl)) | exact (Or.inl (List.mem_of_getElem? (i := 1) rfl)))
  have Zs1 : n0 ≤ T1.heap.size := Nat.le_trans Z0 Kc1.1
  obtain ⟨fs, hr, hrun, hended, hW, hsame⟩ := X1.leave (v := some (.ref a0)) (fun h => by rw [Bd.returns] at h; cases h)
  refine ⟨_, _, pre0 _ ?_, hrun, hended, _, _, rfl, ?_, ⟨_, rfl⟩, hW, hsame.mono (by decide) (by decide)⟩
  · show Steps p.tables e below (s₁.setTop (mkF m 0 #[.val (.ref a0), .val (.int p1)] [])) _
    refine XS.aloadN X0.here hx rfl (hb hby d_jdk_67_method_14_0) rfl rfl ?_
    show Steps p.tables e below (s₁.setTop (mkF m 1 #[.val (.ref a0), .val (.int p1)] [(.ref a0)])) _
    refine XS.iloadN X0.here hx rfl (hb hby d_jdk_67_method_14_1) rfl ?_
    show Steps p.tables e below (s₁.setTop (mkF m 2 #[.val (.ref a0), .val (.int p1)] [(.int p1), (.ref a0)])) _
    refine st1.trans ?_
    show Steps p.tables e below (T1.setTop (mkF m 5 #[.val (.ref a0), .val (.int p1)] [(.ref a0)])) _
    refine XS.pop X1.here hx rfl (hb hby d_jdk_67_method_14_5) rfl rfl ?_
    show Steps p.tables e below (T1.setTop (mkF m 6 #[.val (.ref a0), .val (.int p1)] [])) _
    refine XS.aloadN X1.here hx rfl (hb hby d_jdk_67_method_14_6) rfl rfl ?_
    show Steps p.tables e below (T1.setTop (mkF m 7 #[.val (.ref a0), .val (.int p1)] [(.ref a0)])) _
    jvm_step X1.here [X1.here.top, hx, (hb hby d_jdk_67_method_14_7), X1.method', Bd.returns, Value.isRef, FieldType.isReference]
    first | (intro acts; rw [hr _ acts rfl rfl rfl]) | rw [hr _ _ rfl rfl rfl]
    exact Steps.refl _
  · show Q_rmSC Z a0 p1 b k c vs cs h0 n0 _ T1.heap _
    exact ⟨rfl, N1, KK1, Ec1, Fv1, Fk1, Fn1, Vb1⟩
theorem d_jdk_42_method_152_0 : decode jdk_42_method_152_code 0 = .ok (.getstatic 38, 3) := by decide +kernel
theorem d_jdk_42_method_152_3 : decode jdk_42_method_152_code 3 = .ok (.ifCond .eq 10, 3) := by decide +kernel
theorem d_jdk_42_method_152_6 : decode jdk_42_method_152_code 6 = .ok (.aload_n 0, 1) := by decide +kernel
theorem d_jdk_42_method_152_7 : decode jdk_42_method_152_code 7 = .ok (.getfield 15, 3) := by decide +kernel
theorem d_jdk_42_method_152_10 : decode jdk_42_method_152_code 10 = .ok (.goto 4, 3) := by decide +kernel
theorem d_jdk_42_method_152_14 : decode jdk_42_method_152_code 14 = .ok (.ireturn, 1) := by decide +kernel
theorem pn_java_lang_String : plainName "java/lang/String" = true := by first | (simp [plainName, overriddenIn]; done) | decide +kernel
theorem ef_rmCo (m : MethodId) (a0 : Addr) : entryFrame m #[(.ref a0)] 1 = mkF m 0 #[.val (.ref a0)] [] := by first | (simp [entryFrame, mkF, argsToLocals, Value.category]; done) | rfl
def Q_rmCo (Z : State) (a0 : Addr) (cs : Int32) (h0 : Heap) (n0 : Nat) (v : Option Value) (h : Heap) (L : List Loc) : Prop := v = some (.int (0 : Int32)) ∧ Fr n0 L ∧ h = h0
set_option maxRecDepth 65536 in
set_option maxHeartbeats 40000000 in
theorem rmCo (l : Launch) (Z : State) (aw : Array Value) (hw : ∀ d ∈ tables_1, d.before aw Z = true) (ws : List Jvm.Cond) (a0 : Addr) (cs : Int32) (h0 : Heap) (n0 : Nat) (Z0 : n0 ≤ h0.size) (Sk : Fld Z h0 a0 "java/lang/String" "coder" "B" (.int (0 : Int32))) (S0 : Sta Z h0 "java/lang/String" "COMPACT_STRINGS" "Z" (.int cs)) (hcs : ¬ (cs = (0 : Int32))) :
    MetFree l (⟨"java/lang/String", "coder", "()B"⟩ : MethodName) (head1 (Jvm.Cond.code (⟨"java/lang/String", "coder", "()B"⟩ : MethodName) jdk_42_method_152_code 1 (some .byte) :: ws) ({ frames := 0, cells := 0, slots := 0, locals := 0 } : Room)) (fun a U => a = #[(.ref a0)] ∧ Z.Warmed39 U.vm ∧ U.heap = h0) (fun _ _ _ _ _ => True) (fun _ U o U' => ∃ v L, o = .returned v ∧ Q_rmCo Z a0 cs h0 n0 v U'.heap L ∧ FrameEnd U o U' L ({ frames := 0, cells := 0, slots := 0, locals := 0 } : Room).cells ({ frames := 0, cells := 0, slots := 0, locals := 0 } : Room).slots) := by
  refine MetFree.of_bodySF (plainFor_of_name pn_java_lang_String) hisR ?_
  intro p e s m args below meth cd s₁ Bd hml0 hP hK
  obtain ⟨rfl, hZ, hh⟩ := hP
  have hx := Bd.exec
  have hby := Bd.bytes
  have hml : cd.maxLocals = 1 := hml0
  have hown : s.vm.findClass "java/lang/String" = some m.cls := findClass_of_methodNamed Bd.named
  have hnm := (name_of_methodNamed Bd.named Bd.method).1
  have X0 : Stand p l e ({ frames := 0, cells := 0, slots := 0, locals := 0 } : Room) s m #[(.ref a0)] below meth cd s₁ [] 0 0 := Stand.of_body Bd
  have e0 : s₁.heap = h0 := by rw [← hh, Bd.state]; rfl
  have N0 := Fr.nil n0
  have pre0 : ∀ t, Steps p.tables e below (s₁.setTop (mkF m 0 #[.val (.ref a0)] [])) t → Steps p.tables e below (s₁.setTop (entryFrame m #[(.ref a0)] 1)) t := fun t k => castTop (ef_rmCo m a0) k
  obtain ⟨T1, X1, e1, st1⟩ := getS2 X0 hx hZ hown (host := "") (Or.inl (hw _ (List.mem_of_getElem? (i := 71) rfl))) Via.refl e0 S0 (g := (mkF m 0 #[.val (.ref a0)] [])) rfl (hb hby d_jdk_42_method_152_0)
  obtain ⟨T2, X2, e2, st2⟩ := getF X1 hx hZ hown (host := "") (Or.inl (hw _ (List.mem_of_getElem? (i := 72) rfl))) Via.refl e1 Sk (g := (mkF m 7 #[.val (.ref a0)] [(.ref a0)])) rfl rfl (hb hby d_jdk_42_method_152_7)
  obtain ⟨fs, hr, hrun, hended, hW, hsame⟩ := X2.leave (v := some (.int (0 : Int32))) (fun h => by rw [Bd.returns] at h; cases h)
  refine ⟨_, _, pre0 _ ?_, hrun, hended, _, _, rfl, ?_, ⟨_, rfl⟩, hW, hsame.mono (by decide) (by decide)⟩
  · show Steps p.tables e below (s₁.setTop (mkF m 0 #[.val (.ref a0)] [])) _
    refine st1 _ ?_
    show Steps p.tables e below (T1.setTop (mkF m 3 #[.val (.ref a0)] [(.int cs)])) _
    refine XS.ifNo X1.here hx rfl (hb hby d_jdk_42_method_152_3) rfl ((if0 _ _).trans (feq (hcs : ¬ (cs = (0 : Int32)))).1) ?_
    show Steps p.tables e below (T1.setTop (mkF m 6 #[.val (.ref a0)] [])) _
    refine XS.aloadN X1.here hx rfl (hb hby d_jdk_42_method_152_6) rfl rfl ?_
    show Steps p.tables e below (T1.setTop (mkF m 7 #[.val (.ref a0)] [(.ref a0)])) _
    refine st2 _ ?_
    show Steps p.tables e below (T2.setTop (mkF m 10 #[.val (.ref a0)] [(.int (0 : Int32))])) _
    refine XS.goto X2.here hx rfl (pc0 := 10) (pc' := 14) rfl (hb hby d_jdk_42_method_152_10) (by decide) (by decide) ?_
    show Steps p.tables e below (T2.setTop (mkF m 14 #[.val (.ref a0)] [(.int (0 : Int32))])) _
    exact retN X2 hx (t := .byte) Bd.returns (by simp) (hb hby d_jdk_42_method_152_14) hr
  · show Q_rmCo Z a0 cs h0 n0 _ T2.heap _
    rw [e2]
    exact ⟨rfl, N0, rfl⟩
theorem d_jdk_42_method_54_0 : decode jdk_42_method_54_code 0 = .ok (.aload_n 0, 1) := by decide +kernel
theorem d_jdk_42_method_54_1 : decode jdk_42_method_54_code 1 = .ok (.getfield 9, 3) := by decide +kernel
theorem d_jdk_42_method_54_4 : decode jdk_42_method_54_code 4 = .ok (.arraylength, 1) := by decide +kernel
theorem d_jdk_42_method_54_5 : decode jdk_42_method_54_code 5 = .ok (.aload_n 0, 1) := by decide +kernel
theorem d_jdk_42_method_54_6 : decode jdk_42_method_54_code 6 = .ok (.invokevirtual 335, 3) := by decide +kernel
theorem d_jdk_42_method_54_9 : decode jdk_42_method_54_code 9 = .ok (.ishr, 1) := by decide +kernel
theorem d_jdk_42_method_54_10 : decode jdk_42_method_54_code 10 = .ok (.ireturn, 1) := by decide +kernel
theorem pd___B : parseMethodDescriptor "()B" = some ⟨[], some .byte⟩ := by decide +kernel
theorem ef_rmLen (m : MethodId) (a0 : Addr) : entryFrame m #[(.ref a0)] 1 = mkF m 0 #[.val (.ref a0)] [] := by first | (simp [entryFrame, mkF, argsToLocals, Value.category]; done) | rfl
def Q_rmLen (Z : State) (a0 : Addr) (d : Addr) (kd : ClassId) (z : Int32) (us : List Value) (cs : Int32) (h0 : Heap) (n0 : Nat) (v : Option Value) (h : Heap) (L : List Loc) : Prop := v = some (.int z) ∧ Fr n0 L ∧ h = h0
set_option maxRecDepth 65536 in
set_option maxHeartbeats 40000000 in
theorem rmLen (l : Launch) (Z : State) (aw : Array Value) (hw : ∀ d ∈ tables_1, d.before aw Z = true) (ws : List Jvm.Cond) (a0 : Addr) (d : Addr) (kd : ClassId) (z : Int32) (us : List Value) (cs : Int32) (h0 : Heap) (n0 : Nat) (Z0 : n0 ≤ h0.size) (Es : Exa Z h0 a0 "java/lang/String") (Sk : Fld Z h0 a0 "java/lang/String" "coder" "B" (.int (0 : Int32))) (Sv : Fld Z h0 a0 "java/lang/String" "value" "[B" (.ref d)) (W0 : Arv Z h0 d kd .byte z us (.int (0 : Int32))) (S0 : Sta Z h0 "java/lang/String" "COMPACT_STRINGS" "Z" (.int cs)) (hcs : ¬ (cs = (0 : Int32))) :
    MetFree l (⟨"java/lang/String", "length", "()I"⟩ : MethodName) (head1 (Jvm.Cond.code (⟨"java/lang/String", "length", "()I"⟩ : MethodName) jdk_42_method_54_code 1 (some .int) :: ws) ({ frames := 1, cells := 0, slots := 0, locals := 13 } : Room)) (fun a U => a = #[(.ref a0)] ∧ Z.Warmed39 U.vm ∧ U.heap = h0) (fun _ _ _ _ _ => True) (fun _ U o U' => ∃ v L, o = .returned v ∧ Q_rmLen Z a0 d kd z us cs h0 n0 v U'.heap L ∧ FrameEnd U o U' L ({ frames := 1, cells := 0, slots := 0, locals := 13 } : Room).cells ({ frames := 1, cells := 0, slots := 0, locals := 13 } : Room).slots) := by
  refine MetFree.of_bodySF (plainFor_of_name pn_java_lang_String) hisR ?_
  intro p e s m args below meth cd s₁ Bd hml0 hP hK
  obtain ⟨rfl, hZ, hh⟩ := hP
  have hx := Bd.exec
  have hby := Bd.bytes
  have hml : cd.maxLocals = 1 := hml0
  have hown : s.vm.findClass "java/lang/String" = some m.cls := findClass_of_methodNamed Bd.named
  have hnm := (name_of_methodNamed Bd.named Bd.method).1
  have X0 : Stand p l e ({ frames := 1, cells := 0, slots := 0, locals := 13 } : Room) s m #[(.ref a0)] below meth cd s₁ [] 0 0 := Stand.of_body Bd
  have e0 : s₁.heap = h0 := by rw [← hh, Bd.state]; rfl
  have N0 := Fr.nil n0
  have pre0 : ∀ t, Steps p.tables e below (s₁.setTop (mkF m 0 #[.val (.ref a0)] [])) t → Steps p.tables e below (s₁.setTop (entryFrame m #[(.ref a0)] 1)) t := fun t k => castTop (ef_rmLen m a0) k
  obtain ⟨T1, X1, e1, st1⟩ := getF X0 hx hZ hown (host := "") (Or.inl (hw _ (List.mem_of_getElem? (i := 65) rfl))) Via.refl e0 Sv (g := (mkF m 1 #[.val (.ref a0)] [(.ref a0)])) rfl rfl (hb hby d_jdk_42_method_54_1)
  have Vo2 := W0
  obtain ⟨cl2, Ar2, -, S2, Ng2, -, -⟩ := Vo2
  obtain ⟨cq3, kq3, q3a, q3b, q3c⟩ := isOf hZ e1 Es
  obtain ⟨_, _, ⟨T3, L3, k3, n3⟩, -, X3, ⟨Lc3, hQ3, l3, y3, z3⟩, st3⟩ := X1.virtualBack hx (y := (⟨"java/lang/String", "coder", "()B"⟩ : MethodName)) (z := (⟨"java/lang/String", "coder", "()B"⟩ : MethodName)) hown (mvT hZ (hw _ (List.mem_of_getElem? (i := 66) rfl))) (mvT hZ (hw _ (List.mem_of_getElem? (i := 67) rfl))) (notFace_of_selects (args := #[]) (mvT hZ (hw _ (List.mem_of_getElem? (i := 69) rfl)))) (mvT hZ (hw _ (List.mem_of_getElem? (i := 69) rfl))) (mvT hZ (hw _ (List.mem_of_getElem? (i := 68) rfl))) (by decide) (backOf (W := 1) (rmCo l Z aw hw [] a0 cs h0 n0 Z0 Sk S0 hcs) hZ (hw _ (List.mem_of_getElem? (i := 70) rfl)) (hw _ (List.mem_of_getElem? (i := 24) rfl)) (by decide) (by decide)) q3a q3c (g := (mkF m 6 #[.val (.ref a0)] [(.ref a0), (.int z)])) rfl (by rw [hml]; rfl) (Steps.refl _) (argsL := []) (rest := [(.int z)]) (lenOf pd___B rfl) rfl (by show 2 * 0 + _ ≤ _; exact Nat.le_of_eq rfl) (hb hby d_jdk_42_method_54_6) (fun _ _ => ⟨rfl, e1, (by decide : 0 + 0 ≤ _), (by decide : 0 + 0 ≤ _)⟩)
  dsimp only [Pt.U, Pt.locs, Pt.cells, Pt.slots] at X3 l3 y3 z3 st3 hQ3
  subst l3 y3 z3
  obtain ⟨rfl, N3q, q3⟩ := hQ3
  have N3 := Fr.app N0 N3q
  obtain ⟨fs, hr, hrun, hended, hW, hsame⟩ := X3.leave (v := some (.int z)) (fun h => by rw [Bd.returns] at h; cases h)
  refine ⟨_, _, pre0 _ ?_, hrun, hended, _, _, rfl, ?_, ⟨_, rfl⟩, hW, hsame.mono (by decide) (by decide)⟩
  · show Steps p.tables e below (s₁.setTop (mkF m 0 #[.val (.ref a0)] [])) _
    refine XS.aloadN X0.here hx rfl (hb hby d_jdk_42_method_54_0) rfl rfl ?_
    show Steps p.tables e below (s₁.setTop (mkF m 1 #[.val (.ref a0)] [(.ref a0)])) _
    refine st1 _ ?_
    show Steps p.tables e below (T1.setTop (mkF m 4 #[.val (.ref a0)] [(.ref d)])) _
    refine X1.arraylength hx (by rw [e1]; exact Ar2.1) (State.isArrayOf_alike hZ.alike Ar2.2.1) (g := (mkF m 4 #[.val (.ref a0)] [(.ref d)])) rfl rfl (hb hby d_jdk_42_method_54_4) _ ?_
    rw [len_of S2 Ng2]
    show Steps p.tables e below (T1.setTop (mkF m 5 #[.val (.ref a0)] [(.int z)])) _
    refine XS.aloadN X1.here hx rfl (hb hby d_jdk_42_method_54_5) rfl rfl ?_
    show Steps p.tables e below (T1.setTop (mkF m 6 #[.val (.ref a0)] [(.ref a0), (.int z)])) _
    refine st3.trans ?_
    show Steps p.tables e below (T3.setTop (mkF m 9 #[.val (.ref a0)] [(.int (0 : Int32)), (.int z)])) _
    refine XS.ishr X3.here hx rfl (hb hby d_jdk_42_method_54_9) rfl ?_
    show Steps p.tables e below (T3.setTop (mkF m 10 #[.val (.ref a0)] [(.int (z >>> ((0 : Int32) &&& 31)))])) _
    rw [(own_shr0 z)]
    show Steps p.tables e below (T3.setTop (mkF m 10 #[.val (.ref a0)] [(.int z)])) _
    exact retI X3 hx Bd.returns (hb hby d_jdk_42_method_54_10) hr
  · show Q_rmLen Z a0 d kd z us cs h0 n0 _ T3.heap _
    rw [q3]
    exact ⟨rfl, N3, rfl⟩
theorem d_jdk_68_method_71_0 : decode jdk_68_method_71_code 0 = .ok (.getstatic 18, 3) := by decide +kernel
theorem d_jdk_68_method_71_3 : decode jdk_68_method_71_code 3 = .ok (.ifCond .eq 18, 3) := by decide +kernel
theorem d_jdk_68_method_71_6 : decode jdk_68_method_71_code 6 = .ok (.aload_n 0, 1) := by decide +kernel
theorem d_jdk_68_method_71_7 : decode jdk_68_method_71_code 7 = .ok (.getfield 22, 3) := by decide +kernel
theorem d_jdk_68_method_71_10 : decode jdk_68_method_71_code 10 = .ok (.aload_n 1, 1) := by decide +kernel
theorem d_jdk_68_method_71_11 : decode jdk_68_method_71_code 11 = .ok (.invokevirtual 40, 3) := by decide +kernel
theorem d_jdk_68_method_71_14 : decode jdk_68_method_71_code 14 = .ok (.if_icmp .eq 7, 3) := by decide +kernel
theorem d_jdk_68_method_71_21 : decode jdk_68_method_71_code 21 = .ok (.return_, 1) := by decide +kernel
theorem ef_rmInf (m : MethodId) (a0 : Addr) (a1 : Addr) : entryFrame m #[(.ref a0), (.ref a1)] 2 = mkF m 0 #[.val (.ref a0), .val (.ref a1)] [] := by first | (simp [entryFrame, mkF, argsToLocals, Value.category]; done) | rfl
def Q_rmInf (Z : State) (a0 : Addr) (a1 : Addr) (cs : Int32) (h0 : Heap) (n0 : Nat) (v : Option Value) (h : Heap) (L : List Loc) : Prop := v = none ∧ Fr n0 L ∧ h = h0
set_option maxRecDepth 65536 in
set_option maxHeartbeats 40000000 in
theorem rmInf (l : Launch) (Z : State) (aw : Array Value) (hw : ∀ d ∈ tables_1, d.before aw Z = true) (ws : List Jvm.Cond) (a0 : Addr) (a1 : Addr) (cs : Int32) (h0 : Heap) (n0 : Nat) (Z0 : n0 ≤ h0.size) (Es : Exa Z h0 a1 "java/lang/String") (Fk : Fld Z h0 a0 "java/lang/AbstractStringBuilder" "coder" "B" (.int (0 : Int32))) (Sk : Fld Z h0 a1 "java/lang/String" "coder" "B" (.int (0 : Int32))) (S0 : Sta Z h0 "java/lang/String" "COMPACT_STRINGS" "Z" (.int cs)) (hcs : ¬ (cs = (0 : Int32))) :
    MetFree l (⟨"java/lang/AbstractStringBuilder", "inflateIfNeededFor", "(Ljava/lang/String;)V"⟩ : MethodName) (head1 (Jvm.Cond.code (⟨"java/lang/AbstractStringBuilder", "inflateIfNeededFor", "(Ljava/lang/String;)V"⟩ : MethodName) jdk_68_method_71_code 2 none :: ws) ({ frames := 1, cells := 0, slots := 0, locals := 13 } : Room)) (fun a U => a = #[(.ref a0), (.ref a1)] ∧ Z.Warmed39 U.vm ∧ U.heap = h0) (fun _ _ _ _ _ => True) (fun _ U o U' => ∃ v L, o = .returned v ∧ Q_rmInf Z a0 a1 cs h0 n0 v U'.heap L ∧ FrameEnd U o U' L ({ frames := 1, cells := 0, slots := 0, locals := 13 } : Room).cells ({ frames := 1, cells := 0, slots := 0, locals := 13 } : Room).slots) := by
  refine MetFree.of_bodySF (plainFor_of_name pn_java_lang_AbstractStringBuilder) hisR ?_
  intro p e s m args below meth cd s₁ Bd hml0 hP hK
  obtain ⟨rfl, hZ, hh⟩ := hP
  have hx := Bd.exec
  have hby := Bd.bytes
  have hml : cd.maxLocals = 2 := hml0
  have hown : s.vm.findClass "java/lang/AbstractStringBuilder" = some m.cls := findClass_of_methodNamed Bd.named
  have hnm := (name_of_methodNamed Bd.named Bd.method).1
  have X0 : Stand p l e ({ frames := 1, cells := 0, slots := 0, locals := 13 } : Room) s m #[(.ref a0), (.ref a1)] below meth cd s₁ [] 0 0 := Stand.of_body Bd
  have e0 : s₁.heap = h0 := by rw [← hh, Bd.state]; rfl
  have N0 := Fr.nil n0
  have pre0 : ∀ t, Steps p.tables e below (s₁.setTop (mkF m 0 #[.val (.ref a0), .val (.ref a1)] [])) t → Steps p.tables e below (s₁.setTop (entryFrame m #[(.ref a0), (.ref a1)] 2)) t := fun t k => castTop (ef_rmInf m a0 a1) k
  obtain ⟨T1, X1, e1, st1⟩ := getS2 X0 hx hZ hown (host := "") (Or.inl (hw _ (List.mem_of_getElem? (i := 23) rfl))) Via.refl e0 S0 (g := (mkF m 0 #[.val (.ref a0), .val (.ref a1)] [])) rfl (hb hby d_jdk_68_method_71_0)
  obtain ⟨T2, X2, e2, st2⟩ := getF X1 hx hZ hown (host := "") (Or.inl (hw _ (List.mem_of_getElem? (i := 28) rfl))) Via.refl e1 Fk (g := (mkF m 7 #[.val (.ref a0), .val (.ref a1)] [(.ref a0)])) rfl rfl (hb hby d_jdk_68_method_71_7)
  obtain ⟨cq3, kq3, q3a, q3b, q3c⟩ := isOf hZ e2 Es
  obtain ⟨_, _, ⟨T3, L3, k3, n3⟩, -, X3, ⟨Lc3, hQ3, l3, y3, z3⟩, st3⟩ := X2.virtualBack hx (y := (⟨"java/lang/String", "coder", "()B"⟩ : MethodName)) (z := (⟨"java/lang/String", "coder", "()B"⟩ : MethodName)) hown (mvT hZ (hw _ (List.mem_of_getElem? (i := 90) rfl))) (mvT hZ (hw _ (List.mem_of_getElem? (i := 67) rfl))) (notFace_of_selects (args := #[]) (mvT hZ (hw _ (List.mem_of_getElem? (i := 69) rfl)))) (mvT hZ (hw _ (List.mem_of_getElem? (i := 69) rfl))) (mvT hZ (hw _ (List.mem_of_getElem? (i := 68) rfl))) (by decide) (backOf (W := 1) (rmCo l Z aw hw [] a1 cs h0 n0 Z0 Sk S0 hcs) hZ (hw _ (List.mem_of_getElem? (i := 70) rfl)) (hw _ (List.mem_of_getElem? (i := 24) rfl)) (by decide) (by decide)) q3a q3c (g := (mkF m 11 #[.val (.ref a0), .val (.ref a1)] [(.ref a1), (.int (0 : Int32))])) rfl (by rw [hml]; rfl) (Steps.refl _) (argsL := []) (rest := [(.int (0 : Int32))]) (lenOf pd___B rfl) rfl (by show 2 * 0 + _ ≤ _; exact Nat.le_of_eq rfl) (hb hby d_jdk_68_method_71_11) (fun _ _ => ⟨rfl, e2, (by decide : 0 + 0 ≤ _), (by decide : 0 + 0 ≤ _)⟩)
  dsimp only [Pt.U, Pt.locs, Pt.cells, Pt.slots] at X3 l3 y3 z3 st3 hQ3
  subst l3 y3 z3
  obtain ⟨rfl, N3q, q3⟩ := hQ3
  have N3 := Fr.app N0 N3q
  obtain ⟨fs, hr, hrun, hended, hW, hsame⟩ := X3.leave (v := none) (fun _ => rfl)
  refine ⟨_, _, pre0 _ ?_, hrun, hended, _, _, rfl, ?_, ⟨_, rfl⟩, hW, hsame.mono (by decide) (by decide)⟩
  · show Steps p.tables e below (s₁.setTop (mkF m 0 #[.val (.ref a0), .val (.ref a1)] [])) _
    refine st1 _ ?_
    show Steps p.tables e below (T1.setTop (mkF m 3 #[.val (.ref a0), .val (.ref a1)] [(.int cs)])) _
    refine XS.ifNo X1.here hx rfl (hb hby d_jdk_68_method_71_3) rfl ((if0 _ _).trans (feq (hcs : ¬ (cs = (0 : Int32)))).1) ?_
    show Steps p.tables e below (T1.setTop (mkF m 6 #[.val (.ref a0), .val (.ref a1)] [])) _
    refine XS.aloadN X1.here hx rfl (hb hby d_jdk_68_method_71_6) rfl rfl ?_
    show Steps p.tables e below (T1.setTop (mkF m 7 #[.val (.ref a0), .val (.ref a1)] [(.ref a0)])) _
    refine st2 _ ?_
    show Steps p.tables e below (T2.setTop (mkF m 10 #[.val (.ref a0), .val (.ref a1)] [(.int (0 : Int32))])) _
    refine XS.aloadN X2.here hx rfl (hb hby d_jdk_68_method_71_10) rfl rfl ?_
    show Steps p.tables e below (T2.setTop (mkF m 11 #[.val (.ref a0), .val (.ref a1)] [(.ref a1), (.int (0 : Int32))])) _
    refine st3.trans ?_
    show Steps p.tables e below (T3.setTop (mkF m 14 #[.val (.ref a0), .val (.ref a1)] [(.int (0 : Int32)), (.int (0 : Int32))])) _
    refine XS.icmpYes X3.here hx rfl (pc0 := 14) (pc' := 21) rfl (hb hby d_jdk_68_method_71_14) rfl (teq (rfl : (0 : Int32) = (0 : Int32))).1 (by decide) (by decide) ?_
    show Steps p.tables e below (T3.setTop (mkF m 21 #[.val (.ref a0), .val (.ref a1)] [])) _
    exact X3.returnOut hx Bd.returns (hb hby d_jdk_68_method_71_21) hr
  · show Q_rmInf Z a0 a1 cs h0 n0 _ T3.heap _
    rw [q3]
    exact ⟨rfl, N3, rfl⟩
theorem d_jdk_42_method_147_0 : decode jdk_42_method_147_code 0 = .ok (.aload_n 0, 1) := by decide +kernel
theorem d_jdk_42_method_147_1 : decode jdk_42_method_147_code 1 = .ok (.invokevirtual 335, 3) := by decide +kernel
theorem d_jdk_42_method_147_4 : decode jdk_42_method_147_code 4 = .ok (.iload_n 3, 1) := by decide +kernel
theorem d_jdk_42_method_147_5 : decode jdk_42_method_147_code 5 = .ok (.if_icmp .ne 23, 3) := by decide +kernel
theorem d_jdk_42_method_147_8 : decode jdk_42_method_147_code 8 = .ok (.aload_n 0, 1) := by decide +kernel
theorem d_jdk_42_method_147_9 : decode jdk_42_method_147_code 9 = .ok (.getfield 9, 3) := by decide +kernel
theorem d_jdk_42_method_147_12 : decode jdk_42_method_147_code 12 = .ok (.iconst 0, 1) := by decide +kernel
theorem d_jdk_42_method_147_13 : decode jdk_42_method_147_code 13 = .ok (.aload_n 1, 1) := by decide +kernel
theorem d_jdk_42_method_147_14 : decode jdk_42_method_147_code 14 = .ok (.iload_n 2, 1) := by decide +kernel
theorem d_jdk_42_method_147_15 : decode jdk_42_method_147_code 15 = .ok (.iload_n 3, 1) := by decide +kernel
theorem d_jdk_42_method_147_16 : decode jdk_42_method_147_code 16 = .ok (.ishl, 1) := by decide +kernel
theorem d_jdk_42_method_147_17 : decode jdk_42_method_147_code 17 = .ok (.aload_n 0, 1) := by decide +kernel
theorem d_jdk_42_method_147_18 : decode jdk_42_method_147_code 18 = .ok (.getfield 9, 3) := by decide +kernel
theorem d_jdk_42_method_147_21 : decode jdk_42_method_147_code 21 = .ok (.arraylength, 1) := by decide +kernel
theorem d_jdk_42_method_147_22 : decode jdk_42_method_147_code 22 = .ok (.invokestatic 212, 3) := by decide +kernel
theorem d_jdk_42_method_147_25 : decode jdk_42_method_147_code 25 = .ok (.goto 18, 3) := by decide +kernel
theorem d_jdk_42_method_147_43 : decode jdk_42_method_147_code 43 = .ok (.return_, 1) := by decide +kernel
theorem ef_rmGB (m : MethodId) (a0 : Addr) (b : Addr) (c : Int32) : entryFrame m #[(.ref a0), (.ref b), (.int c), (.int (0 : Int32))] 4 = mkF m 0 #[.val (.ref a0), .val (.ref b), .val (.int c), .val (.int (0 : Int32))] [] := by first | (simp [entryFrame, mkF, argsToLocals, Value.category]; done) | rfl
def Q_rmGB (Z : State) (a0 : Addr) (b : Addr) (c : Int32) (k : ClassId) (vs : List Value) (d : Addr) (kd : ClassId) (z : Int32) (us : List Value) (cs : Int32) (h0 : Heap) (n0 : Nat) (v : Option Value) (h : Heap) (L : List Loc) : Prop := v = none ∧ Fr n0 L ∧ Keep h0 h [b] ∧ Arv Z h b k .byte (16 : Int32) (vs.take (c).toNatClampNeg ++ us ++ vs.drop ((c).toNatClampNeg + (z).toNatClampNeg)) (.int (0 : Int32))
set_option maxRecDepth 65536 in
set_option maxHeartbeats 40000000 in
theorem rmGB (l : Launch) (Z : State) (aw : Array Value) (hw : ∀ d ∈ tables_1, d.before aw Z = true) (ws : List Jvm.Cond) (a0 : Addr) (b : Addr) (c : Int32) (k : ClassId) (vs : List Value) (d : Addr) (kd : ClassId) (z : Int32) (us : List Value) (cs : Int32) (h0 : Heap) (n0 : Nat) (Z0 : n0 ≤ h0.size) (Es : Exa Z h0 a0 "java/lang/String") (Sk : Fld Z h0 a0 "java/lang/String" "coder" "B" (.int (0 : Int32))) (Sv : Fld Z h0 a0 "java/lang/String" "value" "[B" (.ref d)) (W0 : Arv Z h0 d kd .byte z us (.int (0 : Int32))) (V0 : Arv Z h0 b k .byte (16 : Int32) vs (.int (0 : Int32))) (gb : n0 ≤ b) (S0 : Sta Z h0 "java/lang/String" "COMPACT_STRINGS" "Z" (.int cs)) (hz : ¬ z < 0) (hc0 : ¬ c < 0) (h5 : c.toNatClampNeg + z.toNatClampNeg ≤ (16 : Int32).toNatClampNeg) (hl : c.toNatClampNeg + z.toNatClampNeg ≤ vs.length) (hus : us = (List.range z.toNatClampNeg).map fun i => us.getD ((0 : Int32).toNatClampNeg + i) (.int (0 : Int32))) (hne : d ≠ b) (hcs : ¬ (cs = (0 : Int32))) :
    MetFree l (⟨"java/lang/String", "getBytes", "([BIB)V"⟩ : MethodName) (head1 (Jvm.Cond.code (⟨"java/lang/String", "getBytes", "([BIB)V"⟩ : MethodName) jdk_42_method_147_code 4 none :: ws) ({ frames := 1, cells := 0, slots := 0, locals := 31 } : Room)) (fun a U => a = #[(.ref a0), (.ref b), (.int c), (.int (0 : Int32))] ∧ Z.Warmed39 U.vm ∧ U.heap = h0) (fun _ _ _ _ _ => True) (fun _ U o U' => ∃ v L, o = .returned v ∧ Q_rmGB Z a0 b c k vs d kd z us cs h0 n0 v U'.heap L ∧ FrameEnd U o U' L ({ frames := 1, cells := 0, slots := 0, locals := 31 } : Room).cells ({ frames := 1, cells := 0, slots := 0, locals := 31 } : Room).slots) := by
  refine MetFree.of_bodySF (plainFor_of_name pn_java_lang_String) hisR ?_
  intro p e s m args below meth cd s₁ Bd hml0 hP hK
  obtain ⟨rfl, hZ, hh⟩ := hP
  have hx := Bd.exec
  have hby := Bd.bytes
  have hml : cd.maxLocals = 4 := hml0
  have hown : s.vm.findClass "java/lang/String" = some m.cls := findClass_of_methodNamed Bd.named
  have hnm := (name_of_methodNamed Bd.named Bd.method).1
  have X0 : Stand p l e ({ frames := 1, cells := 0, slots := 0, locals := 31 } : Room) s m #[(.ref a0), (.ref b), (.int c), (.int (0 : Int32))] below meth cd s₁ [] 0 0 := Stand.of_body Bd
  have e0 : s₁.heap = h0 := by rw [← hh, Bd.state]; rfl
  have N0 := Fr.nil n0
  have pre0 : ∀ t, Steps p.tables e below (s₁.setTop (mkF m 0 #[.val (.ref a0), .val (.ref b), .val (.int c), .val (.int (0 : Int32))] [])) t → Steps p.tables e below (s₁.setTop (entryFrame m #[(.ref a0), (.ref b), (.int c), (.int (0 : Int32))] 4)) t := fun t k => castTop (ef_rmGB m a0 b c) k
  obtain ⟨cq1, kq1, q1a, q1b, q1c⟩ := isOf hZ e0 Es
  obtain ⟨_, _, ⟨T1, L1, k1, n1⟩, -, X1, ⟨Lc1, hQ1, l1, y1, z1⟩, st1⟩ := X0.virtualBack hx (y := (⟨"java/lang/String", "coder", "()B"⟩ : MethodName)) (z := (⟨"java/lang/String", "coder", "()B"⟩ : MethodName)) hown (mvT hZ (hw _ (List.mem_of_getElem? (i := 66) rfl))) (mvT hZ (hw _ (List.mem_of_getElem? (i := 67) rfl))) (notFace_of_selects (args := #[]) (mvT hZ (hw _ (List.mem_of_getElem? (i := 69) rfl)))) (mvT hZ (hw _ (List.mem_of_getElem? (i := 69) rfl))) (mvT hZ (hw _ (List.mem_of_getElem? (i := 68) rfl))) (by decide) (backOf (W := 0) (rmCo l Z aw hw [] a0 cs h0 n0 Z0 Sk S0 hcs) hZ (hw _ (List.mem_of_getElem? (i := 70) rfl)) (hw _ (List.mem_of_getElem? (i := 24) rfl)) (by decide) (by decide)) q1a q1c (g := (mkF m 1 #[.val (.ref a0), .val (.ref b), .val (.int c), .val (.int (0 : Int32))] [(.ref a0)])) rfl (by rw [hml]; rfl) (Steps.refl _) (argsL := []) (rest := []) (lenOf pd___B rfl) rfl (by show 2 * 0 + _ ≤ _; exact Nat.le_of_eq rfl) (hb hby d_jdk_42_method_147_1) (fun _ _ => ⟨rfl, e0, (by decide : 0 + 0 ≤ _), (by decide : 0 + 0 ≤ _)⟩)
  dsimp only [Pt.U, Pt.locs, Pt.cells, Pt.slots] at X1 l1 y1 z1 st1 hQ1
  subst l1 y1 z1
  obtain ⟨rfl, N1q, q1⟩ := hQ1
  have N1 := Fr.app N0 N1q
  obtain ⟨T2, X2, e2, st2⟩ := getF X1 hx hZ hown (host := "") (Or.inl (hw _ (List.mem_of_getElem? (i := 65) rfl))) Via.refl q1 Sv (g := (mkF m 9 #[.val (.ref a0), .val (.ref b), .val (.int c), .val (.int (0 : Int32))] [(.ref a0)])) rfl rfl (hb hby d_jdk_42_method_147_9)
  obtain ⟨T3, X3, e3, st3⟩ := getF X2 hx hZ hown (host := "") (Or.inl (hw _ (List.mem_of_getElem? (i := 65) rfl))) Via.refl e2 Sv (g := (mkF m 18 #[.val (.ref a0), .val (.ref b), .val (.int c), .val (.int (0 : Int32))] [(.ref a0), (.int c), (.ref b), (.int (0 : Int32)), (.ref d)])) rfl rfl (hb hby d_jdk_42_method_147_18)
  have Vo4 := W0
  obtain ⟨cl4, Ar4, -, S4, Ng4, -, -⟩ := Vo4
  obtain ⟨T5, h5, L5, X5, e5, N5, Kc5, V_b__5, st5⟩ := cpA X3 hx hZ hown (hw _ (List.mem_of_getElem? (i := 96) rfl)) (hw _ (List.mem_of_getElem? (i := 99) rfl)) (hw _ (List.mem_of_getElem? (i := 97) rfl)) (hw _ (List.mem_of_getElem? (i := 98) rfl)) e3 (us := us) W0 V0 (Or.inl ⟨rfl, rfl⟩) (by decide) hc0 hz (by show 0 + _ ≤ _; omega) h5 hus hl N1 gb (g := (mkF m 22 #[.val (.ref a0), .val (.ref b), .val (.int c), .val (.int (0 : Int32))] [(.int z), (.int c), (.ref b), (.int (0 : Int32)), (.ref d)])) rfl (by rw [hml]; rfl) rfl (hb hby d_jdk_42_method_147_22) (by decide) (W := 0) (by show 2 * 0 + _ ≤ _; exact Nat.le_of_eq rfl) (by decide)
  have S0__5 := own_sta_keep S0 Kc5 (nsS (V0.nostat) ns0)
  have Es__5 := Es.keep Kc5
  have Sk__5 := Sk.keep Kc5 (fun q => (Es.neArv V0 (hw _ (List.mem_of_getElem? (i := 33) rfl))) (List.mem_singleton.mp q))
  have Sv__5 := Sv.keep Kc5 (fun q => (Es.neArv V0 (hw _ (List.mem_of_getElem? (i := 33) rfl))) (List.mem_singleton.mp q))
  have W0__5 := W0.keep Kc5 (fun q => hne (List.mem_singleton.mp q))
  have KK5 : Keep h0 h5 [b] := Keep.trans (Keep.refl h0 [b]) Kc5 (fun x q => by cases List.mem_singleton.mp q; exact (Or.inl (List.mem_of_getElem? (i := 0) rfl)))
  have Zs5 : n0 ≤ h5.size := Nat.le_trans Z0 Kc5.1
  obtain ⟨fs, hr, hrun, hended, hW, hsame⟩ := X5.leave (v := none) (fun _ => rfl)
  refine ⟨_, _, pre0 _ ?_, hrun, hended, _, _, rfl, ?_, ⟨_, rfl⟩, hW, hsame.mono (by decide) (by decide)⟩
  · show Steps p.tables e below (s₁.setTop (mkF m 0 #[.val (.ref a0), .val (.ref b), .val (.int c), .val (.int (0 : Int32))] [])) _
    refine XS.aloadN X0.here hx rfl (hb hby d_jdk_42_method_147_0) rfl rfl ?_
    show Steps p.tables e below (s₁.setTop (mkF m 1 #[.val (.ref a0), .val (.ref b), .val (.int c), .val (.int (0 : Int32))] [(.ref a0)])) _
    refine st1.trans ?_
    show Steps p.tables e below (T1.setTop (mkF m 4 #[.val (.ref a0), .val (.ref b), .val (.int c), .val (.int (0 : Int32))] [(.int (0 : Int32))])) _
    refine XS.iloadN X1.here hx rfl (hb hby d_jdk_42_method_147_4) rfl ?_
    show Steps p.tables e below (T1.setTop (mkF m 5 #[.val (.ref a0), .val (.ref b), .val (.int c), .val (.int (0 : Int32))] [(.int (0 : Int32)), (.int (0 : Int32))])) _
    refine XS.icmpNo X1.here hx rfl (hb hby d_jdk_42_method_147_5) rfl (teq (rfl : (0 : Int32) = (0 : Int32))).2 ?_
    show Steps p.tables e below (T1.setTop (mkF m 8 #[.val (.ref a0), .val (.ref b), .val (.int c), .val (.int (0 : Int32))] [])) _
    refine XS.aloadN X1.here hx rfl (hb hby d_jdk_42_method_147_8) rfl rfl ?_
    show Steps p.tables e below (T1.setTop (mkF m 9 #[.val (.ref a0), .val (.ref b), .val (.int c), .val (.int (0 : Int32))] [(.ref a0)])) _
    refine st2 _ ?_
    show Steps p.tables e below (T2.setTop (mkF m 12 #[.val (.ref a0), .val (.ref b), .val (.int c), .val (.int (0 : Int32))] [(.ref d)])) _
    refine XS.iconst X2.here hx rfl (hb hby d_jdk_42_method_147_12) ?_
    show Steps p.tables e below (T2.setTop (mkF m 13 #[.val (.ref a0), .val (.ref b), .val (.int c), .val (.int (0 : Int32))] [(.int (0 : Int32)), (.ref d)])) _
    refine XS.aloadN X2.here hx rfl (hb hby d_jdk_42_method_147_13) rfl rfl ?_
    show Steps p.tables e below (T2.setTop (mkF m 14 #[.val (.ref a0), .val (.ref b), .val (.int c), .val (.int (0 : Int32))] [(.ref b), (.int (0 : Int32)), (.ref d)])) _
    refine XS.iloadN X2.here hx rfl (hb hby d_jdk_42_method_147_14) rfl ?_
    show Steps p.tables e below (T2.setTop (mkF m 15 #[.val (.ref a0), .val (.ref b), .val (.int c), .val (.int (0 : Int32))] [(.int c), (.ref b), (.int (0 : Int32)), (.ref d)])) _
    refine XS.iloadN X2.here hx rfl (hb hby d_jdk_42_method_147_15) rfl ?_
    show Steps p.tables e below (T2.setTop (mkF m 16 #[.val (.ref a0), .val (.ref b), .val (.int c), .val (.int (0 : Int32))] [(.int (0 : Int32)), (.int c), (.ref b), (.int (0 : Int32)), (.ref d)])) _
    refine XS.ishl X2.here hx rfl (hb hby d_jdk_42_method_147_16) rfl ?_
    show Steps p.tables e below (T2.setTop (mkF m 17 #[.val (.ref a0), .val (.ref b), .val (.int c), .val (.int (0 : Int32))] [(.int (c <<< ((0 : Int32) &&& 31))), (.ref b), (.int (0 : Int32)), (.ref d)])) _
    rw [(own_shl0 c)]
    show Steps p.tables e below (T2.setTop (mkF m 17 #[.val (.ref a0), .val (.ref b), .val (.int c), .val (.int (0 : Int32))] [(.int c), (.ref b), (.int (0 : Int32)), (.ref d)])) _
    refine XS.aloadN X2.here hx rfl (hb hby d_jdk_42_method_147_17) rfl rfl ?_
    show Steps p.tables e below (T2.setTop (mkF m 18 #[.val (.ref a0), .val (.ref b), .val (.int c), .val (.int (0 : Int32))] [(.ref a0), (.int c), (.ref b), (.int (0 : Int32)), (.ref d)])) _
    refine st3 _ ?_
    show Steps p.tables e below (T3.setTop (mkF m 21 #[.val (.ref a0), .val (.ref b), .val (.int c), .val (.int (0 : Int32))] [(.ref d), (.int c), (.ref b), (.int (0 : Int32)), (.ref d)])) _
    refine X3.arraylength hx (by rw [e3]; exact Ar4.1) (State.isArrayOf_alike hZ.alike Ar4.2.1) (g := (mkF m 21 #[.val (.ref a0), .val (.ref b), .val (.int c), .val (.int (0 : Int32))] [(.ref d), (.int c), (.ref b), (.int (0 : Int32)), (.ref d)])) rfl rfl (hb hby d_jdk_42_method_147_21) _ ?_
    rw [len_of S4 Ng4]
    show Steps p.tables e below (T3.setTop (mkF m 22 #[.val (.ref a0), .val (.ref b), .val (.int c), .val (.int (0 : Int32))] [(.int z), (.int c), (.ref b), (.int (0 : Int32)), (.ref d)])) _
    refine st5 _ ?_
    show Steps p.tables e below (T5.setTop (mkF m 25 #[.val (.ref a0), .val (.ref b), .val (.int c), .val (.int (0 : Int32))] [])) _
    refine XS.goto X5.here hx rfl (pc0 := 25) (pc' := 43) rfl (hb hby d_jdk_42_method_147_25) (by decide) (by decide) ?_
    show Steps p.tables e below (T5.setTop (mkF m 43 #[.val (.ref a0), .val (.ref b), .val (.int c), .val (.int (0 : Int32))] [])) _
    exact X5.returnOut hx Bd.returns (hb hby d_jdk_42_method_147_43) hr
  · show Q_rmGB Z a0 b c k vs d kd z us cs h0 n0 _ T5.heap _
    rw [e5]
    exact ⟨rfl, N5, KK5, V_b__5⟩
theorem d_jdk_68_method_73_0 : decode jdk_68_method_73_code 0 = .ok (.aload_n 0, 1) := by decide +kernel
theorem d_jdk_68_method_73_1 : decode jdk_68_method_73_code 1 = .ok (.aload_n 2, 1) := by decide +kernel
theorem d_jdk_68_method_73_2 : decode jdk_68_method_73_code 2 = .ok (.invokevirtual 397, 3) := by decide +kernel
theorem d_jdk_68_method_73_5 : decode jdk_68_method_73_code 5 = .ok (.aload_n 2, 1) := by decide +kernel
theorem d_jdk_68_method_73_6 : decode jdk_68_method_73_code 6 = .ok (.aload_n 0, 1) := by decide +kernel
theorem d_jdk_68_method_73_7 : decode jdk_68_method_73_code 7 = .ok (.getfield 15, 3) := by decide +kernel
theorem d_jdk_68_method_73_10 : decode jdk_68_method_73_code 10 = .ok (.iload_n 1, 1) := by decide +kernel
theorem d_jdk_68_method_73_11 : decode jdk_68_method_73_code 11 = .ok (.aload_n 0, 1) := by decide +kernel
theorem d_jdk_68_method_73_12 : decode jdk_68_method_73_code 12 = .ok (.getfield 22, 3) := by decide +kernel
theorem d_jdk_68_method_73_15 : decode jdk_68_method_73_code 15 = .ok (.invokevirtual 399, 3) := by decide +kernel
theorem d_jdk_68_method_73_18 : decode jdk_68_method_73_code 18 = .ok (.return_, 1) := by decide +kernel
theorem pd__Ljava_lang_String__V : parseMethodDescriptor "(Ljava/lang/String;)V" = some ⟨[(.object "java/lang/String")], none⟩ := by decide +kernel
theorem pd___BIB_V : parseMethodDescriptor "([BIB)V" = some ⟨[(.array .byte), .int, .byte], none⟩ := by decide +kernel
theorem ef_rmPut (m : MethodId) (a0 : Addr) (c : Int32) (a2 : Addr) : entryFrame m #[(.ref a0), (.int c), (.ref a2)] 3 = mkF m 0 #[.val (.ref a0), .val (.int c), .val (.ref a2)] [] := by first | (simp [entryFrame, mkF, argsToLocals, Value.category]; done) | rfl
def Q_rmPut (Z : State) (a0 : Addr) (c : Int32) (a2 : Addr) (b : Addr) (k : ClassId) (vs : List Value) (d : Addr) (kd : ClassId) (z : Int32) (us : List Value) (cs : Int32) (h0 : Heap) (n0 : Nat) (v : Option Value) (h : Heap) (L : List Loc) : Prop := v = none ∧ Fr n0 L ∧ Keep h0 h [a0, b] ∧ Exa Z h a0 "java/lang/StringBuilder" ∧ Fld Z h a0 "java/lang/AbstractStringBuilder" "value" "[B" (.ref b) ∧ Fld Z h a0 "java/lang/AbstractStringBuilder" "coder" "B" (.int (0 : Int32)) ∧ Fld Z h a0 "java/lang/AbstractStringBuilder" "count" "I" (.int c) ∧ Arv Z h b k .byte (16 : Int32) (vs.take (c).toNatClampNeg ++ us ++ vs.drop ((c).toNatClampNeg + (z).toNatClampNeg)) (.int (0 : Int32))
set_option maxRecDepth 65536 in
set_option maxHeartbeats 40000000 in
theorem rmPut (l : Launch) (Z : State) (aw : Array Value) (hw : ∀ d ∈ tables_1, d.before aw Z = true) (ws : List Jvm.Cond) (a0 : Addr) (c : Int32) (a2 : Addr) (b : Addr) (k : ClassId) (vs : List Value) (d : Addr) (kd : ClassId) (z : Int32) (us : List Value) (cs : Int32) (h0 : Heap) (n0 : Nat) (Z0 : n0 ≤ h0.size) (E0 : Exa Z h0 a0 "java/lang/StringBuilder") (g0 : n0 ≤ a0) (Fv : Fld Z h0 a0 "java/lang/AbstractStringBuilder" "value" "[B" (.ref b)) (Fk : Fld Z h0 a0 "java/lang/AbstractStringBuilder" "coder" "B" (.int (0 : Int32))) (Fn : Fld Z h0 a0 "java/lang/AbstractStringBuilder" "count" "I" (.int c)) (V0 : Arv Z h0 b k .byte (16 : Int32) vs (.int (0 : Int32))) (gb : n0 ≤ b) (Es : Exa Z h0 a2 "java/lang/String") (Sk : Fld Z h0 a2 "java/lang/String" "coder" "B" (.int (0 : Int32))) (Sv : Fld Z h0 a2 "java/lang/String" "value" "[B" (.ref d)) (W0 : Arv Z h0 d kd .byte z us (.int (0 : Int32))) (S0 : Sta Z h0 "java/lang/String" "COMPACT_STRINGS" "Z" (.int cs)) (hz : ¬ z < 0) (hc0 : ¬ c < 0) (h5 : c.toNatClampNeg + z.toNatClampNeg ≤ (16 : Int32).toNatClampNeg) (hl : c.toNatClampNeg + z.toNatClampNeg ≤ vs.length) (hus : us = (List.range z.toNatClampNeg).map fun i => us.getD ((0 : Int32).toNatClampNeg + i) (.int (0 : Int32))) (hne : d ≠ b) (hcs : ¬ (cs = (0 : Int32))) :
    MetFree l (⟨"java/lang/AbstractStringBuilder", "putStringAt", "(ILjava/lang/String;)V"⟩ : MethodName) (head1 (Jvm.Cond.code (⟨"java/lang/AbstractStringBuilder", "putStringAt", "(ILjava/lang/String;)V"⟩ : MethodName) jdk_68_method_73_code 3 none :: ws) ({ frames := 2, cells := 0, slots := 0, locals := 46 } : Room)) (fun a U => a = #[(.ref a0), (.int c), (.ref a2)] ∧ Z.Warmed39 U.vm ∧ U.heap = h0) (fun _ _ _ _ _ => True) (fun _ U o U' => ∃ v L, o = .returned v ∧ Q_rmPut Z a0 c a2 b k vs d kd z us cs h0 n0 v U'.heap L ∧ FrameEnd U o U' L ({ frames := 2, cells := 0, slots := 0, locals := 46 } : Room).cells ({ frames := 2, cells := 0, slots := 0, locals := 46 } : Room).slots) := by
  refine MetFree.of_bodySF (plainFor_of_name pn_java_lang_AbstractStringBuilder) hisR ?_
  intro p e s m args below meth cd s₁ Bd hml0 hP hK
  obtain ⟨rfl, hZ, hh⟩ := hP
  have hx := Bd.exec
  have hby := Bd.bytes
  have hml : cd.maxLocals = 3 := hml0
  have hown : s.vm.findClass "java/lang/AbstractStringBuilder" = some m.cls := findClass_of_methodNamed Bd.named
  have hnm := (name_of_methodNamed Bd.named Bd.method).1
  have X0 : Stand p l e ({ frames := 2, cells := 0, slots := 0, locals := 46 } : Room) s m #[(.ref a0), (.int c), (.ref a2)] below meth cd s₁ [] 0 0 := Stand.of_body Bd
  have e0 : s₁.heap = h0 := by rw [← hh, Bd.state]; rfl
  have N0 := Fr.nil n0
  have pre0 : ∀ t, Steps p.tables e below (s₁.setTop (mkF m 0 #[.val (.ref a0), .val (.int c), .val (.ref a2)] [])) t → Steps p.tables e below (s₁.setTop (entryFrame m #[(.ref a0), (.int c), (.ref a2)] 3)) t := fun t k => castTop (ef_rmPut m a0 c a2) k
  obtain ⟨cq1, q1, q1'⟩ := E0.cell
  obtain ⟨_, _, ⟨T1, L1, k1, n1⟩, -, X1, ⟨Lc1, hQ1, l1, y1, z1⟩, st1⟩ := X0.privateBack hx (y := (⟨"java/lang/AbstractStringBuilder", "inflateIfNeededFor", "(Ljava/lang/String;)V"⟩ : MethodName)) hown (mvT hZ (hw _ (List.mem_of_getElem? (i := 85) rfl))) (mvT hZ (hw _ (List.mem_of_getElem? (i := 86) rfl))) (own_sel2 hZ (hw _ (List.mem_of_getElem? (i := 112) rfl)) (hw _ (List.mem_of_getElem? (i := 87) rfl)) (hw _ (List.mem_of_getElem? (i := 86) rfl)) (by decide) rfl) (Cond.privateMethod_at (mvP hZ (hw _ (List.mem_of_getElem? (i := 87) rfl)) (args := #[]))) (mvT hZ (hw _ (List.mem_of_getElem? (i := 89) rfl))) (by decide) (backOf (W := 0) (rmInf l Z aw hw [] a0 a2 cs h0 n0 Z0 Es Fk Sk S0 hcs) hZ (hw _ (List.mem_of_getElem? (i := 89) rfl)) (hw _ (List.mem_of_getElem? (i := 20) rfl)) (by decide) (by decide)) (g := (mkF m 2 #[.val (.ref a0), .val (.int c), .val (.ref a2)] [(.ref a2), (.ref a0)])) rfl (by rw [hml]; rfl) (Steps.refl _) (a := a0) (by rw [e0]; exact q1) q1' (argsL := [(.ref a2)]) (rest := []) (lenOf pd__Ljava_lang_String__V rfl) rfl (by show 2 * 0 + _ ≤ _; exact Nat.le_of_eq rfl) (hb hby d_jdk_68_method_73_2) (fun _ _ => ⟨rfl, e0, (by decide : 0 + 0 ≤ _), (by decide : 0 + 0 ≤ _)⟩)
  dsimp only [Pt.U, Pt.locs, Pt.cells, Pt.slots] at X1 l1 y1 z1 st1 hQ1
  subst l1 y1 z1
  obtain ⟨rfl, N1q, q1⟩ := hQ1
  have N1 := Fr.app N0 N1q
  obtain ⟨T2, X2, e2, st2⟩ := getF X1 hx hZ hown (host := "") (Or.inl (hw _ (List.mem_of_getElem? (i := 26) rfl))) Via.refl q1 Fv (g := (mkF m 7 #[.val (.ref a0), .val (.int c), .val (.ref a2)] [(.ref a0), (.ref a2)])) rfl rfl (hb hby d_jdk_68_method_73_7)
  obtain ⟨T3, X3, e3, st3⟩ := getF X2 hx hZ hown (host := "") (Or.inl (hw _ (List.mem_of_getElem? (i := 28) rfl))) Via.refl e2 Fk (g := (mkF m 12 #[.val (.ref a0), .val (.int c), .val (.ref a2)] [(.ref a0), (.int c), (.ref b), (.ref a2)])) rfl rfl (hb hby d_jdk_68_method_73_12)
  obtain ⟨cq4, kq4, q4a, q4b, q4c⟩ := isOf hZ e3 Es
  obtain ⟨_, _, ⟨T4, L4, k4, n4⟩, -, X4, ⟨Lc4, hQ4, l4, y4, z4⟩, st4⟩ := X3.virtualBack hx (y := (⟨"java/lang/String", "getBytes", "([BIB)V"⟩ : MethodName)) (z := (⟨"java/lang/String", "getBytes", "([BIB)V"⟩ : MethodName)) hown (mvT hZ (hw _ (List.mem_of_getElem? (i := 91) rfl))) (mvT hZ (hw _ (List.mem_of_getElem? (i := 92) rfl))) (notFace_of_selects (args := #[]) (mvT hZ (hw _ (List.mem_of_getElem? (i := 94) rfl)))) (mvT hZ (hw _ (List.mem_of_getElem? (i := 94) rfl))) (mvT hZ (hw _ (List.mem_of_getElem? (i := 93) rfl))) (by decide) (backOf (W := 0) (rmGB l Z aw hw [] a2 b c k vs d kd z us cs h0 n0 Z0 Es Sk Sv W0 V0 gb S0 hz hc0 h5 hl hus hne hcs) hZ (hw _ (List.mem_of_getElem? (i := 95) rfl)) (hw _ (List.mem_of_getElem? (i := 24) rfl)) (by decide) (by decide)) q4a q4c (g := (mkF m 15 #[.val (.ref a0), .val (.int c), .val (.ref a2)] [(.int (0 : Int32)), (.int c), (.ref b), (.ref a2)])) rfl (by rw [hml]; rfl) (Steps.refl _) (argsL := [(.ref b), (.int c), (.int (0 : Int32))]) (rest := []) (lenOf pd___BIB_V rfl) rfl (by show 2 * 0 + _ ≤ _; exact Nat.le_of_eq rfl) (hb hby d_jdk_68_method_73_15) (fun _ _ => ⟨rfl, e3, (by decide : 0 + 0 ≤ _), (by decide : 0 + 0 ≤ _)⟩)
  dsimp only [Pt.U, Pt.locs, Pt.cells, Pt.slots] at X4 l4 y4 z4 st4 hQ4
  subst l4 y4 z4
  obtain ⟨rfl, N4q, Kc4, Vb4⟩ := hQ4
  have N4 := Fr.app N1 N4q
  have S0__4 := own_sta_keep S0 Kc4 (nsS (V0.nostat) ns0)
  have E0__4 := E0.keep Kc4
  have Fv__4 := Fv.keep Kc4 (fun q => (E0.neArv V0 (hw _ (List.mem_of_getElem? (i := 11) rfl))) (List.mem_singleton.mp q))
  have Fk__4 := Fk.keep Kc4 (fun q => (E0.neArv V0 (hw _ (List.mem_of_getElem? (i := 11) rfl))) (List.mem_singleton.mp q))
  have Fn__4 := Fn.keep Kc4 (fun q => (E0.neArv V0 (hw _ (List.mem_of_getElem? (i := 11) rfl))) (List.mem_singleton.mp q))
  have Es__4 := Es.keep Kc4
  have Sk__4 := Sk.keep Kc4 (fun q => (Es.neArv V0 (hw _ (List.mem_of_getElem? (i := 33) rfl))) (List.mem_singleton.mp q))
  have Sv__4 := Sv.keep Kc4 (fun q => (Es.neArv V0 (hw _ (List.mem_of_getElem? (i := 33) rfl))) (List.mem_singleton.mp q))
  have W0__4 := W0.keep Kc4 (fun q => hne (List.mem_singleton.mp q))
  have KK4 : Keep h0 T4.heap [a0, b] := Keep.trans (Keep.refl h0 [a0, b]) Kc4 (fun x q => by cases List.mem_singleton.mp q; exact (Or.inl (List.mem_of_getElem? (i := 1) rfl)))
  have Zs4 : n0 ≤ T4.heap.size := Nat.le_trans Z0 Kc4.1
  obtain ⟨fs, hr, hrun, hended, hW, hsame⟩ := X4.leave (v := none) (fun _ => rfl)
  refine ⟨_, _, pre0 _ ?_, hrun, hended, _, _, rfl, ?_, ⟨_, rfl⟩, hW, hsame.mono (by decide) (by decide)⟩
  · show Steps p.tables e below (s₁.setTop (mkF m 0 #[.val (.ref a0), .val (.int c), .val (.ref a2)] [])) _
    refine XS.aloadN X0.here hx rfl (hb hby d_jdk_68_method_73_0) rfl rfl ?_
    show Steps p.tables e below (s₁.setTop (mkF m 1 #[.val (.ref a0), .val (.int c), .val (.ref a2)] [(.ref a0)])) _
    refine XS.aloadN X0.here hx rfl (hb hby d_jdk_68_method_73_1) rfl rfl ?_
    show Steps p.tables e below (s₁.setTop (mkF m 2 #[.val (.ref a0), .val (.int c), .val (.ref a2)] [(.ref a2), (.ref a0)])) _
    refine st1.trans ?_
    show Steps p.tables e below (T1.setTop (mkF m 5 #[.val (.ref a0), .val (.int c), .val (.ref a2)] [])) _
    refine XS.aloadN X1.here hx rfl (hb hby d_jdk_68_method_73_5) rfl rfl ?_
    show Steps p.tables e below (T1.setTop (mkF m 6 #[.val (.ref a0), .val (.int c), .val (.ref a2)] [(.ref a2)])) _
    refine XS.aloadN X1.here hx rfl (hb hby d_jdk_68_method_73_6) rfl rfl ?_
    show Steps p.tables e below (T1.setTop (mkF m 7 #[.val (.ref a0), .val (.int c), .val (.ref a2)] [(.ref a0), (.ref a2)])) _
    refine st2 _ ?_
    show Steps p.tables e below (T2.setTop (mkF m 10 #[.val (.ref a0), .val (.int c), .val (.ref a2)] [(.ref b), (.ref a2)])) _
    refine XS.iloadN X2.here hx rfl (hb hby d_jdk_68_method_73_10) rfl ?_
    show Steps p.tables e below (T2.setTop (mkF m 11 #[.val (.ref a0), .val (.int c), .val (.ref a2)] [(.int c), (.ref b), (.ref a2)])) _
    refine XS.aloadN X2.here hx rfl (hb hby d_jdk_68_method_73_11) rfl rfl ?_
    show Steps p.tables e below (T2.setTop (mkF m 12 #[.val (.ref a0), .val (.int c), .val (.ref a2)] [(.ref a0), (.int c), (.ref b), (.ref a2)])) _
    refine st3 _ ?_
    show Steps p.tables e below (T3.setTop (mkF m 15 #[.val (.ref a0), .val (.int c), .val (.ref a2)] [(.int (0 : Int32)), (.int c), (.ref b), (.ref a2)])) _
    refine st4.trans ?_
    show Steps p.tables e below (T4.setTop (mkF m 18 #[.val (.ref a0), .val (.int c), .val (.ref a2)] [])) _
    exact X4.returnOut hx Bd.returns (hb hby d_jdk_68_method_73_18) hr
  · show Q_rmPut Z a0 c a2 b k vs d kd z us cs h0 n0 _ T4.heap _
    exact ⟨rfl, N4, KK4, E0__4, Fv__4, Fk__4, Fn__4, Vb4⟩
theorem d_jdk_68_method_22_0 : decode jdk_68_method_22_code 0 = .ok (.aload_n 1, 1) := by decide +kernel
theorem d_jdk_68_method_22_1 : decode jdk_68_method_22_code 1 = .ok (.ifnonnull 8, 3) := by decide +kernel
theorem d_jdk_68_method_22_9 : decode jdk_68_method_22_code 9 = .ok (.aload_n 1, 1) := by decide +kernel
theorem d_jdk_68_method_22_10 : decode jdk_68_method_22_code 10 = .ok (.invokevirtual 32, 3) := by decide +kernel
theorem d_jdk_68_method_22_13 : decode jdk_68_method_22_code 13 = .ok (.istore_n 2, 1) := by decide +kernel
theorem d_jdk_68_method_22_14 : decode jdk_68_method_22_code 14 = .ok (.aload_n 0, 1) := by decide +kernel
theorem d_jdk_68_method_22_15 : decode jdk_68_method_22_code 15 = .ok (.aload_n 0, 1) := by decide +kernel
theorem d_jdk_68_method_22_16 : decode jdk_68_method_22_code 16 = .ok (.getfield 79, 3) := by decide +kernel
theorem d_jdk_68_method_22_19 : decode jdk_68_method_22_code 19 = .ok (.iload_n 2, 1) := by decide +kernel
theorem d_jdk_68_method_22_20 : decode jdk_68_method_22_code 20 = .ok (.iadd, 1) := by decide +kernel
theorem d_jdk_68_method_22_21 : decode jdk_68_method_22_code 21 = .ok (.invokevirtual 100, 3) := by decide +kernel
theorem d_jdk_68_method_22_24 : decode jdk_68_method_22_code 24 = .ok (.aload_n 0, 1) := by decide +kernel
theorem d_jdk_68_method_22_25 : decode jdk_68_method_22_code 25 = .ok (.aload_n 0, 1) := by decide +kernel
theorem d_jdk_68_method_22_26 : decode jdk_68_method_22_code 26 = .ok (.getfield 79, 3) := by decide +kernel
theorem d_jdk_68_method_22_29 : decode jdk_68_method_22_code 29 = .ok (.aload_n 1, 1) := by decide +kernel
theorem d_jdk_68_method_22_30 : decode jdk_68_method_22_code 30 = .ok (.invokevirtual 208, 3) := by decide +kernel
theorem d_jdk_68_method_22_33 : decode jdk_68_method_22_code 33 = .ok (.aload_n 0, 1) := by decide +kernel
theorem d_jdk_68_method_22_34 : decode jdk_68_method_22_code 34 = .ok (.dup, 1) := by decide +kernel
theorem d_jdk_68_method_22_35 : decode jdk_68_method_22_code 35 = .ok (.getfield 79, 3) := by decide +kernel
theorem d_jdk_68_method_22_38 : decode jdk_68_method_22_code 38 = .ok (.iload_n 2, 1) := by decide +kernel
theorem d_jdk_68_method_22_39 : decode jdk_68_method_22_code 39 = .ok (.iadd, 1) := by decide +kernel
theorem d_jdk_68_method_22_40 : decode jdk_68_method_22_code 40 = .ok (.putfield 79, 3) := by decide +kernel
theorem d_jdk_68_method_22_43 : decode jdk_68_method_22_code 43 = .ok (.aload_n 0, 1) := by decide +kernel
theorem d_jdk_68_method_22_44 : decode jdk_68_method_22_code 44 = .ok (.areturn, 1) := by decide +kernel
theorem pd___I : parseMethodDescriptor "()I" = some ⟨[], some .int⟩ := by decide +kernel
theorem pd__ILjava_lang_String__V : parseMethodDescriptor "(ILjava/lang/String;)V" = some ⟨[.int, (.object "java/lang/String")], none⟩ := by decide +kernel
theorem ef_rmAS (m : MethodId) (a0 : Addr) (a1 : Addr) : entryFrame m #[(.ref a0), (.ref a1)] 3 = mkF m 0 #[.val (.ref a0), .val (.ref a1), .unset] [] := by first | (simp [entryFrame, mkF, argsToLocals, Value.category]; done) | rfl
def Q_rmAS (Z : State) (a0 : Addr) (a1 : Addr) (b : Addr) (k : ClassId) (c : Int32) (vs : List Value) (d : Addr) (kd : ClassId) (z : Int32) (us : List Value) (cs : Int32) (h0 : Heap) (n0 : Nat) (v : Option Value) (h : Heap) (L : List Loc) : Prop := v = some (.ref a0) ∧ Fr n0 L ∧ Keep h0 h [a0, b] ∧ Exa Z h a0 "java/lang/StringBuilder" ∧ Fld Z h a0 "java/lang/AbstractStringBuilder" "value" "[B" (.ref b) ∧ Fld Z h a0 "java/lang/AbstractStringBuilder" "coder" "B" (.int (0 : Int32)) ∧ Fld Z h a0 "java/lang/AbstractStringBuilder" "count" "I" (.int (c + z)) ∧ Arv Z h b k .byte (16 : Int32) (vs.take (c).toNatClampNeg ++ us ++ vs.drop ((c).toNatClampNeg + (z).toNatClampNeg)) (.int (0 : Int32))
set_option maxRecDepth 65536 in
set_option maxHeartbeats 40000000 in
theorem rmAS (l : Launch) (Z : State) (aw : Array Value) (hw : ∀ d ∈ tables_1, d.before aw Z = true) (ws : List Jvm.Cond) (a0 : Addr) (a1 : Addr) (b : Addr) (k : ClassId) (c : Int32) (vs : List Value) (d : Addr) (kd : ClassId) (z : Int32) (us : List Value) (cs : Int32) (h0 : Heap) (n0 : Nat) (Z0 : n0 ≤ h0.size) (E0 : Exa Z h0 a0 "java/lang/StringBuilder") (g0 : n0 ≤ a0) (Fv : Fld Z h0 a0 "java/lang/AbstractStringBuilder" "value" "[B" (.ref b)) (Fk : Fld Z h0 a0 "java/lang/AbstractStringBuilder" "coder" "B" (.int (0 : Int32))) (Fn : Fld Z h0 a0 "java/lang/AbstractStringBuilder" "count" "I" (.int c)) (V0 : Arv Z h0 b k .byte (16 : Int32) vs (.int (0 : Int32))) (gb : n0 ≤ b) (Es : Exa Z h0 a1 "java/lang/String") (Sk : Fld Z h0 a1 "java/lang/String" "coder" "B" (.int (0 : Int32))) (Sv : Fld Z h0 a1 "java/lang/String" "value" "[B" (.ref d)) (W0 : Arv Z h0 d kd .byte z us (.int (0 : Int32))) (S0 : Sta Z h0 "java/lang/String" "COMPACT_STRINGS" "Z" (.int cs)) (hz : ¬ z < 0) (hc0 : ¬ c < 0) (h5 : c.toNatClampNeg + z.toNatClampNeg ≤ (16 : Int32).toNatClampNeg) (hl : c.toNatClampNeg + z.toNatClampNeg ≤ vs.length) (hus : us = (List.range z.toNatClampNeg).map fun i => us.getD ((0 : Int32).toNatClampNeg + i) (.int (0 : Int32))) (hne : d ≠ b) (hcap : ¬ ((0 : Int32) < ((c + z) - (16 : Int32)))) (hcs : ¬ (cs = (0 : Int32))) :
    MetFree l (⟨"java/lang/AbstractStringBuilder", "append", "(Ljava/lang/String;)Ljava/lang/AbstractStringBuilder;"⟩ : MethodName) (head1 (Jvm.Cond.code (⟨"java/lang/AbstractStringBuilder", "append", "(Ljava/lang/String;)Ljava/lang/AbstractStringBuilder;"⟩ : MethodName) jdk_68_method_22_code 3 (some (.object "java/lang/AbstractStringBuilder")) :: ws) ({ frames := 3, cells := 0, slots := 0, locals := 60 } : Room)) (fun a U => a = #[(.ref a0), (.ref a1)] ∧ Z.Warmed39 U.vm ∧ U.heap = h0) (fun _ _ _ _ _ => True) (fun _ U o U' => ∃ v L, o = .returned v ∧ Q_rmAS Z a0 a1 b k c vs d kd z us cs h0 n0 v U'.heap L ∧ FrameEnd U o U' L ({ frames := 3, cells := 0, slots := 0, locals := 60 } : Room).cells ({ frames := 3, cells := 0, slots := 0, locals := 60 } : Room).slots) := by
  refine MetFree.of_bodySF (plainFor_of_name pn_java_lang_AbstractStringBuilder) hisR ?_
  intro p e s m args below meth cd s₁ Bd hml0 hP hK
  obtain ⟨rfl, hZ, hh⟩ := hP
  have hx := Bd.exec
  have hby := Bd.bytes
  have hml : cd.maxLocals = 3 := hml0
  have hown : s.vm.findClass "java/lang/AbstractStringBuilder" = some m.cls := findClass_of_methodNamed Bd.named
  have hnm := (name_of_methodNamed Bd.named Bd.method).1
  have X0 : Stand p l e ({ frames := 3, cells := 0, slots := 0, locals := 60 } : Room) s m #[(.ref a0), (.ref a1)] below meth cd s₁ [] 0 0 := Stand.of_body Bd
  have e0 : s₁.heap = h0 := by rw [← hh, Bd.state]; rfl
  have N0 := Fr.nil n0
  have pre0 : ∀ t, Steps p.tables e below (s₁.setTop (mkF m 0 #[.val (.ref a0), .val (.ref a1), .unset] [])) t → Steps p.tables e below (s₁.setTop (entryFrame m #[(.ref a0), (.ref a1)] 3)) t := fun t k => castTop (ef_rmAS m a0 a1) k
  obtain ⟨cq1, kq1, q1a, q1b, q1c⟩ := isOf hZ e0 Es
  obtain ⟨_, _, ⟨T1, L1, k1, n1⟩, -, X1, ⟨Lc1, hQ1, l1, y1, z1⟩, st1⟩ := X0.virtualBack hx (y := (⟨"java/lang/String", "length", "()I"⟩ : MethodName)) (z := (⟨"java/lang/String", "length", "()I"⟩ : MethodName)) hown (mvT hZ (hw _ (List.mem_of_getElem? (i := 60) rfl))) (mvT hZ (hw _ (List.mem_of_getElem? (i := 61) rfl))) (notFace_of_selects (args := #[]) (mvT hZ (hw _ (List.mem_of_getElem? (i := 63) rfl)))) (mvT hZ (hw _ (List.mem_of_getElem? (i := 63) rfl))) (mvT hZ (hw _ (List.mem_of_getElem? (i := 62) rfl))) (by decide) (backOf (W := 0) (rmLen l Z aw hw [] a1 d kd z us cs h0 n0 Z0 Es Sk Sv W0 S0 hcs) hZ (hw _ (List.mem_of_getElem? (i := 64) rfl)) (hw _ (List.mem_of_getElem? (i := 24) rfl)) (by decide) (by decide)) q1a q1c (g := (mkF m 10 #[.val (.ref a0), .val (.ref a1), .unset] [(.ref a1)])) rfl (by rw [hml]; rfl) (Steps.refl _) (argsL := []) (rest := []) (lenOf pd___I rfl) rfl (by show 2 * 0 + _ ≤ _; exact Nat.le_of_eq rfl) (hb hby d_jdk_68_method_22_10) (fun _ _ => ⟨rfl, e0, (by decide : 0 + 0 ≤ _), (by decide : 0 + 0 ≤ _)⟩)
  dsimp only [Pt.U, Pt.locs, Pt.cells, Pt.slots] at X1 l1 y1 z1 st1 hQ1
  subst l1 y1 z1
  obtain ⟨rfl, N1q, q1⟩ := hQ1
  have N1 := Fr.app N0 N1q
  obtain ⟨T2, X2, e2, st2⟩ := getF X1 hx hZ hown (host := "") (Or.inl (hw _ (List.mem_of_getElem? (i := 73) rfl))) Via.refl q1 Fn (g := (mkF m 16 #[.val (.ref a0), .val (.ref a1), .val (.int z)] [(.ref a0), (.ref a0)])) rfl rfl (hb hby d_jdk_68_method_22_16)
  obtain ⟨cq3, q3, q3'⟩ := E0.cell
  obtain ⟨_, _, ⟨T3, L3, k3, n3⟩, -, X3, ⟨Lc3, hQ3, l3, y3, z3⟩, st3⟩ := X2.privateBack hx (y := (⟨"java/lang/AbstractStringBuilder", "ensureCapacityInternal", "(I)V"⟩ : MethodName)) hown (mvT hZ (hw _ (List.mem_of_getElem? (i := 75) rfl))) (mvT hZ (hw _ (List.mem_of_getElem? (i := 76) rfl))) (own_sel2 hZ (hw _ (List.mem_of_getElem? (i := 112) rfl)) (hw _ (List.mem_of_getElem? (i := 77) rfl)) (hw _ (List.mem_of_getElem? (i := 76) rfl)) (by decide) rfl) (Cond.privateMethod_at (mvP hZ (hw _ (List.mem_of_getElem? (i := 77) rfl)) (args := #[]))) (mvT hZ (hw _ (List.mem_of_getElem? (i := 79) rfl))) (by decide) (backOf (W := 0) (rmEns l Z aw hw [] a0 (c + z) b k c vs h0 n0 Z0 Fv Fk V0 hcap) hZ (hw _ (List.mem_of_getElem? (i := 79) rfl)) (hw _ (List.mem_of_getElem? (i := 20) rfl)) (by decide) (by decide)) (g := (mkF m 21 #[.val (.ref a0), .val (.ref a1), .val (.int z)] [(.int (c + z)), (.ref a0)])) rfl (by rw [hml]; rfl) (Steps.refl _) (a := a0) (by rw [e2]; exact q3) q3' (argsL := [(.int (c + z))]) (rest := []) (lenOf pd__I_V rfl) rfl (by show 2 * 0 + _ ≤ _; exact Nat.le_of_eq rfl) (hb hby d_jdk_68_method_22_21) (fun _ _ => ⟨rfl, e2, (by decide : 0 + 0 ≤ _), (by decide : 0 + 0 ≤ _)⟩)
  dsimp only [Pt.U, Pt.locs, Pt.cells, Pt.slots] at X3 l3 y3 z3 st3 hQ3
  subst l3 y3 z3
  obtain ⟨rfl, N3q, q3⟩ := hQ3
  have N3 := Fr.app N1 N3q
  obtain ⟨T4, X4, e4, st4⟩ := getF X3 hx hZ hown (host := "") (Or.inl (hw _ (List.mem_of_getElem? (i := 73) rfl))) Via.refl q3 Fn (g := (mkF m 26 #[.val (.ref a0), .val (.ref a1), .val (.int z)] [(.ref a0), (.ref a0)])) rfl rfl (hb hby d_jdk_68_method_22_26)
  obtain ⟨cq5, q5, q5'⟩ := E0.cell
  obtain ⟨_, _, ⟨T5, L5, k5, n5⟩, -, X5, ⟨Lc5, hQ5, l5, y5, z5⟩, st5⟩ := X4.privateBack hx (y := (⟨"java/lang/AbstractStringBuilder", "putStringAt", "(ILjava/lang/String;)V"⟩ : MethodName)) hown (mvT hZ (hw _ (List.mem_of_getElem? (i := 80) rfl))) (mvT hZ (hw _ (List.mem_of_getElem? (i := 81) rfl))) (own_sel2 hZ (hw _ (List.mem_of_getElem? (i := 112) rfl)) (hw _ (List.mem_of_getElem? (i := 82) rfl)) (hw _ (List.mem_of_getElem? (i := 81) rfl)) (by decide) rfl) (Cond.privateMethod_at (mvP hZ (hw _ (List.mem_of_getElem? (i := 82) rfl)) (args := #[]))) (mvT hZ (hw _ (List.mem_of_getElem? (i := 84) rfl))) (by decide) (backOf (W := 0) (rmPut l Z aw hw [] a0 c a1 b k vs d kd z us cs h0 n0 Z0 E0 g0 Fv Fk Fn V0 gb Es Sk Sv W0 S0 hz hc0 h5 hl hus hne hcs) hZ (hw _ (List.mem_of_getElem? (i := 84) rfl)) (hw _ (List.mem_of_getElem? (i := 20) rfl)) (by decide) (by decide)) (g := (mkF m 30 #[.val (.ref a0), .val (.ref a1), .val (.int z)] [(.ref a1), (.int c), (.ref a0)])) rfl (by rw [hml]; rfl) (Steps.refl _) (a := a0) (by rw [e4]; exact q5) q5' (argsL := [(.int c), (.ref a1)]) (rest := []) (lenOf pd__ILjava_lang_String__V rfl) rfl (by show 2 * 0 + _ ≤ _; exact Nat.le_of_eq rfl) (hb hby d_jdk_68_method_22_30) (fun _ _ => ⟨rfl, e4, (by decide : 0 + 0 ≤ _), (by decide : 0 + 0 ≤ _)⟩)
  dsimp only [Pt.U, Pt.locs, Pt.cells, Pt.slots] at X5 l5 y5 z5 st5 hQ5
  subst l5 y5 z5
  obtain ⟨rfl, N5q, Kc5, Ec5, Fv5, Fk5, Fn5, Vb5⟩ := hQ5
  have N5 := Fr.app N3 N5q
  have S0__5 := own_sta_keep S0 Kc5 (nsS (E0.nostat) (nsS (V0.nostat) ns0))
  have Es__5 := Es.keep Kc5
  have Sk__5 := Sk.keep Kc5 (by simp only [List.mem_cons, List.not_mem_nil, or_false, not_or]; exact ⟨(ne_exa Es E0 (by decide)), (Es.neArv V0 (hw _ (List.mem_of_getElem? (i := 33) rfl)))⟩)
  have Sv__5 := Sv.keep Kc5 (by simp only [List.mem_cons, List.not_mem_nil, or_false, not_or]; exact ⟨(ne_exa Es E0 (by decide)), (Es.neArv V0 (hw _ (List.mem_of_getElem? (i := 33) rfl)))⟩)
  have W0__5 := W0.keep Kc5 (by simp only [List.mem_cons, List.not_mem_nil, or_false, not_or]; exact ⟨(Ne.symm (E0.neArv W0 (hw _ (List.mem_of_getElem? (i := 11) rfl)))), hne⟩)
  have KK5 : Keep h0 T5.heap [a0, b] := Keep.trans (Keep.refl h0 [a0, b]) Kc5 (fun x q => by simp only [List.mem_cons, List.not_mem_nil, or_false] at q; rcases q with rfl | rfl <;> first | exact (Or.inl (List.mem_of_getElem? (i := 0) rfl)) | exact (Or.inl (List.mem_of_getElem? (i := 1) rfl)))
  have Zs5 : n0 ≤ T5.heap.size := Nat.le_trans Z0 Kc5.1
  obtain ⟨T6, X6, e6, st6⟩ := getF X5 hx hZ hown (host := "") (Or.inl (hw _ (List.mem_of_getElem? (i := 73) rfl))) Via.refl rfl Fn5 (g := (mkF m 35 #[.val (.ref a0), .val (.ref a1), .val (.int z)] [(.ref a0), (.ref a0)])) rfl rfl (hb hby d_jdk_68_method_22_35)
  obtain ⟨T7, h7, X7, e7, W7, st7⟩ := putF X6 hx hZ hown (host := "") (Or.inl (hw _ (List.mem_of_getElem? (i := 73) rfl))) Via.refl e6 Fn5 Ec5 (Or.inl (hw _ (List.mem_of_getElem? (i := 74) rfl))) (hw _ (List.mem_of_getElem? (i := 11) rfl)) (ty := .int) (by decide) rfl rfl (g := (mkF m 40 #[.val (.ref a0), .val (.ref a1), .val (.int z)] [(.int (c + z)), (.ref a0)])) rfl rfl (hb hby d_jdk_68_method_22_40)
  have S0__7 := S0__5.wr W7
  have Es__7 := Es__5.wr W7
  have Sk__7 := Sk__5.other W7 (Or.inl (ne_exa Es__5 Ec5 (by decide)))
  have Sv__7 := Sv__5.other W7 (Or.inl (ne_exa Es__5 Ec5 (by decide)))
  have W0__7 := W0__5.other W7 (Ne.symm (Ec5.neArv W0__5 (hw _ (List.mem_of_getElem? (i := 11) rfl))))
  have Ec5__7 := Ec5.wr W7
  have Fv5__7 := Fv5.other W7 (Or.inr (slot_ne (Or.inl (hw _ (List.mem_of_getElem? (i := 27) rfl))) (Or.inl (hw _ (List.mem_of_getElem? (i := 74) rfl))) (by decide) (t := (.array .byte)) (t' := .int) (by decide) (by decide)))
  have Fk5__7 := Fk5.other W7 (Or.inr (slot_ne (Or.inl (hw _ (List.mem_of_getElem? (i := 29) rfl))) (Or.inl (hw _ (List.mem_of_getElem? (i := 74) rfl))) (by decide) (t := .byte) (t' := .int) (by decide) (by decide)))
  have Fn5__7 := Fn5.same W7
  have Vb5__7 := Vb5.other W7 (Ne.symm (Ec5.neArv Vb5 (hw _ (List.mem_of_getElem? (i := 11) rfl))))
  have K7 : Keep h0 h7 [a0, b] := KK5.wr W7 (Or.inl (List.mem_of_getElem? (i := 0) rfl))
  have Zs7 : n0 ≤ h7.size := Nat.le_trans Zs5 (Keep.of_wr W7).1
  have N7 := Fr.snoc X7 N5 g0
  obtain ⟨fs, hr, hrun, hended, hW, hsame⟩ := X7.leave (v := some (.ref a0)) (fun h => by rw [Bd.returns] at h; cases h)
  refine ⟨_, _, pre0 _ ?_, hrun, hended, _, _, rfl, ?_, ⟨_, rfl⟩, hW, hsame.mono (by decide) (by decide)⟩
  · show Steps p.tables e below (s₁.setTop (mkF m 0 #[.val (.ref a0), .val (.ref a1), .unset] [])) _
    refine XS.aloadN X0.here hx rfl (hb hby d_jdk_68_method_22_0) rfl rfl ?_
    show Steps p.tables e below (s₁.setTop (mkF m 1 #[.val (.ref a0), .val (.ref a1), .unset] [(.ref a1)])) _
    refine XS.ifnonnullYes X0.here hx rfl (pc0 := 1) (pc' := 9) rfl (hb hby d_jdk_68_method_22_1) rfl (by decide) (by decide) ?_
    show Steps p.tables e below (s₁.setTop (mkF m 9 #[.val (.ref a0), .val (.ref a1), .unset] [])) _
    refine XS.aloadN X0.here hx rfl (hb hby d_jdk_68_method_22_9) rfl rfl ?_
    show Steps p.tables e below (s₁.setTop (mkF m 10 #[.val (.ref a0), .val (.ref a1), .unset] [(.ref a1)])) _
    refine st1.trans ?_
    show Steps p.tables e below (T1.setTop (mkF m 13 #[.val (.ref a0), .val (.ref a1), .unset] [(.int z)])) _
    refine XS.istoreN X1.here hx rfl (hb hby d_jdk_68_method_22_13) rfl (l' := #[.val (.ref a0), .val (.ref a1), .val (.int z)]) rfl ?_
    show Steps p.tables e below (T1.setTop (mkF m 14 #[.val (.ref a0), .val (.ref a1), .val (.int z)] [])) _
    refine XS.aloadN X1.here hx rfl (hb hby d_jdk_68_method_22_14) rfl rfl ?_
    show Steps p.tables e below (T1.setTop (mkF m 15 #[.val (.ref a0), .val (.ref a1), .val (.int z)] [(.ref a0)])) _
    refine XS.aloadN X1.here hx rfl (hb hby d_jdk_68_method_22_15) rfl rfl ?_
    show Steps p.tables e below (T1.setTop (mkF m 16 #[.val (.ref a0), .val (.ref a1), .val (.int z)] [(.ref a0), (.ref a0)])) _
    refine st2 _ ?_
    show Steps p.tables e below (T2.setTop (mkF m 19 #[.val (.ref a0), .val (.ref a1), .val (.int z)] [(.int c), (.ref a0)])) _
    refine XS.iloadN X2.here hx rfl (hb hby d_jdk_68_method_22_19) rfl ?_
    show Steps p.tables e below (T2.setTop (mkF m 20 #[.val (.ref a0), .val (.ref a1), .val (.int z)] [(.int z), (.int c), (.ref a0)])) _
    refine XS.iadd X2.here hx rfl (hb hby d_jdk_68_method_22_20) rfl ?_
    show Steps p.tables e below (T2.setTop (mkF m 21 #[.val (.ref a0), .val (.ref a1), .val (.int z)] [(.int (c + z)), (.ref a0)])) _
    refine st3.trans ?_
    show Steps p.tables e below (T3.setTop (mkF m 24 #[.val (.ref a0), .val (.ref a1), .val (.int z)] [])) _
    refine XS.aloadN X3.here hx rfl (hb hby d_jdk_68_method_22_24) rfl rfl ?_
    show Steps p.tables e below (T3.setTop (mkF m 25 #[.val (.ref a0), .val (.ref a1), .val (.int z)] [(.ref a0)])) _
    refine XS.aloadN X3.here hx rfl (hb hby d_jdk_68_method_22_25) rfl rfl ?_
    show Steps p.tables e below (T3.setTop (mkF m 26 #[.val (.ref a0), .val (.ref a1), .val (.int z)] [(.ref a0), (.ref a0)])) _
    refine st4 _ ?_
    show Steps p.tables e below (T4.setTop (mkF m 29 #[.val (.ref a0), .val (.ref a1), .val (.int z)] [(.int c), (.ref a0)])) _
    refine XS.aloadN X4.here hx rfl (hb hby d_jdk_68_method_22_29) rfl rfl ?_
    show Steps p.tables e below (T4.setTop (mkF m 30 #[.val (.ref a0), .val (.ref a1), .val (.int z)] [(.ref a1), (.int c), (.ref a0)])) _
    refine st5.trans ?_
    show Steps p.tables e below (T5.setTop (mkF m 33 #[.val (.ref a0), .val (.ref a1), .val (.int z)] [])) _
    refine XS.aloadN X5.here hx rfl (hb hby d_jdk_68_method_22_33) rfl rfl ?_
    show Steps p.tables e below (T5.setTop (mkF m 34 #[.val (.ref a0), .val (.ref a1), .val (.int z)] [(.ref a0)])) _
    refine XS.dup X5.here hx rfl (hb hby d_jdk_68_method_22_34) rfl rfl ?_
    show Steps p.tables e below (T5.setTop (mkF m 35 #[.val (.ref a0), .val (.ref a1), .val (.int z)] [(.ref a0), (.ref a0)])) _
    refine st6 _ ?_
    show Steps p.tables e below (T6.setTop (mkF m 38 #[.val (.ref a0), .val (.ref a1), .val (.int z)] [(.int c), (.ref a0)])) _
    refine XS.iloadN X6.here hx rfl (hb hby d_jdk_68_method_22_38) rfl ?_
    show Steps p.tables e below (T6.setTop (mkF m 39 #[.val (.ref a0), .val (.ref a1), .val (.int z)] [(.int z), (.int c), (.ref a0)])) _
    refine XS.iadd X6.here hx rfl (hb hby d_jdk_68_method_22_39) rfl ?_
    show Steps p.tables e below (T6.setTop (mkF m 40 #[.val (.ref a0), .val (.ref a1), .val (.int z)] [(.int (c + z)), (.ref a0)])) _
    refine st7 _ ?_
    show Steps p.tables e below (T7.setTop (mkF m 43 #[.val (.ref a0), .val (.ref a1), .val (.int z)] [])) _
    refine XS.aloadN X7.here hx rfl (hb hby d_jdk_68_method_22_43) rfl rfl ?_
    show Steps p.tables e below (T7.setTop (mkF m 44 #[.val (.ref a0), .val (.ref a1), .val (.int z)] [(.ref a0)])) _
    jvm_step X7.here [X7.here.top, hx, (hb hby d_jdk_68_method_22_44), X7.method', Bd.returns, Value.isRef, FieldType.isReference]
    first | (intro acts; rw [hr _ acts rfl rfl rfl]) | rw [hr _ _ rfl rfl rfl]
    exact Steps.refl _
  · show Q_rmAS Z a0 a1 b k c vs d kd z us cs h0 n0 _ T7.heap _
    rw [e7]
    exact ⟨rfl, N7, K7, Ec5__7, Fv5__7, Fk5__7, Fn5__7, Vb5__7⟩
theorem d_jdk_67_method_7_0 : decode jdk_67_method_7_code 0 = .ok (.aload_n 0, 1) := by decide +kernel
theorem d_jdk_67_method_7_1 : decode jdk_67_method_7_code 1 = .ok (.aload_n 1, 1) := by decide +kernel
theorem d_jdk_67_method_7_2 : decode jdk_67_method_7_code 2 = .ok (.invokespecial 29, 3) := by decide +kernel
theorem d_jdk_67_method_7_5 : decode jdk_67_method_7_code 5 = .ok (.pop, 1) := by decide +kernel
theorem d_jdk_67_method_7_6 : decode jdk_67_method_7_code 6 = .ok (.aload_n 0, 1) := by decide +kernel
theorem d_jdk_67_method_7_7 : decode jdk_67_method_7_code 7 = .ok (.areturn, 1) := by decide +kernel
theorem pd__Ljava_lang_String__Ljava_lang_AbstractStringBuilder_ : parseMethodDescriptor "(Ljava/lang/String;)Ljava/lang/AbstractStringBuilder;" = some ⟨[(.object "java/lang/String")], some (.object "java/lang/AbstractStringBuilder")⟩ := by decide +kernel
theorem ef_rmSS (m : MethodId) (a0 : Addr) (a1 : Addr) : entryFrame m #[(.ref a0), (.ref a1)] 2 = mkF m 0 #[.val (.ref a0), .val (.ref a1)] [] := by first | (simp [entryFrame, mkF, argsToLocals, Value.category]; done) | rfl
def Q_rmSS (Z : State) (a0 : Addr) (a1 : Addr) (b : Addr) (k : ClassId) (c : Int32) (vs : List Value) (d : Addr) (kd : ClassId) (z : Int32) (us : List Value) (cs : Int32) (h0 : Heap) (n0 : Nat) (v : Option Value) (h : Heap) (L : List Loc) : Prop := v = some (.ref a0) ∧ Fr n0 L ∧ Keep h0 h [a0, b] ∧ Exa Z h a0 "java/lang/StringBuilder" ∧ Fld Z h a0 "java/lang/AbstractStringBuilder" "value" "[B" (.ref b) ∧ Fld Z h a0 "java/lang/AbstractStringBuilder" "coder" "B" (.int (0 : Int32)) ∧ Fld Z h a0 "java/lang/AbstractStringBuilder" "count" "I" (.int (c + z)) ∧ Arv Z h b k .byte (16 : Int32) (vs.take (c).toNatClampNeg ++ us ++ vs.drop ((c).toNatClampNeg + (z).toNatClampNeg)) (.int (0 : Int32))
set_option maxRecDepth 65536 in
set_option maxHeartbeats 40000000 in
theorem rmSS (l : Launch) (Z : State) (aw : Array Value) (hw : ∀ d ∈ tables_1, d.before aw Z = true) (ws : List Jvm.Cond) (a0 : Addr) (a1 : Addr) (b : Addr) (k : ClassId) (c : Int32) (vs : List Value) (d : Addr) (kd : ClassId) (z : Int32) (us : List Value) (cs : Int32) (h0 : Heap) (n0 : Nat) (Z0 : n0 ≤ h0.size) (E0 : Exa Z h0 a0 "java/lang/StringBuilder") (g0 : n0 ≤ a0) (Fv : Fld Z h0 a0 "java/lang/AbstractStringBuilder" "value" "[B" (.ref b)) (Fk : Fld Z h0 a0 "java/lang/AbstractStringBuilder" "coder" "B" (.int (0 : Int32))) (Fn : Fld Z h0 a0 "java/lang/AbstractStringBuilder" "count" "I" (.int c)) (V0 : Arv Z h0 b k .byte (16 : Int32) vs (.int (0 : Int32))) (gb : n0 ≤ b) (Es : Exa Z h0 a1 "java/lang/String") (Sk : Fld Z h0 a1 "java/lang/String" "coder" "B" (.int (0 : Int32))) (Sv : Fld Z h0 a1 "java/lang/String" "value" "[B" (.ref d)) (W0 : Arv Z h0 d kd .byte z us (.int (0 : Int32))) (S0 : Sta Z h0 "java/lang/String" "COMPACT_STRINGS" "Z" (.int cs)) (hz : ¬ z < 0) (hc0 : ¬ c < 0) (h5 : c.toNatClampNeg + z.toNatClampNeg ≤ (16 : Int32).toNatClampNeg) (hl : c.toNatClampNeg + z.toNatClampNeg ≤ vs.length) (hus : us = (List.range z.toNatClampNeg).map fun i => us.getD ((0 : Int32).toNatClampNeg + i) (.int (0 : Int32))) (hne : d ≠ b) (hcap : ¬ ((0 : Int32) < ((c + z) - (16 : Int32)))) (hcs : ¬ (cs = (0 : Int32))) :
    MetFree l (⟨"java/lang/StringBuilder", "append", "(Ljava/lang/String;)Ljava/lang/StringBuilder;"⟩ : MethodName) (head1 (Jvm.Cond.code (⟨"java/lang/StringBuilder", "append", "(Ljava/lang/String;)Ljava/lang/StringBuilder;"⟩ : MethodName) jdk_67_method_7_code 2 (some (.object "java/lang/StringBuilder")) :: ws) ({ frames := 4, cells := 0, slots := 0, locals := 74 } : Room)) (fun a U => a = #[(.ref a0), (.ref a1)] ∧ Z.Warmed39 U.vm ∧ U.heap = h0) (fun _ _ _ _ _ => True) (fun _ U o U' => ∃ v L, o = .returned v ∧ Q_rmSS Z a0 a1 b k c vs d kd z us cs h0 n0 v U'.heap L ∧ FrameEnd U o U' L ({ frames := 4, cells := 0, slots := 0, locals := 74 } : Room).cells ({ frames := 4, cells := 0, slots := 0, locals := 74 } : Room).slots) := by
  refine MetFree.of_bodySF (plainFor_of_name pn_java_lang_StringBuilder) hisR ?_
  intro p e s m args below meth cd s₁ Bd hml0 hP hK
  obtain ⟨rfl, hZ, hh⟩ := hP
  have hx := Bd.exec
  have hby := Bd.bytes
  have hml : cd.maxLocals = 2 := hml0
  have hown : s.vm.findClass "java/lang/StringBuilder" = some m.cls := findClass_of_methodNamed Bd.named
  have hnm := (name_of_methodNamed Bd.named Bd.method).1
  have X0 : Stand p l e ({ frames := 4, cells := 0, slots := 0, locals := 74 } : Room) s m #[(.ref a0), (.ref a1)] below meth cd s₁ [] 0 0 := Stand.of_body Bd
  have e0 : s₁.heap = h0 := by rw [← hh, Bd.state]; rfl
  have N0 := Fr.nil n0
  have pre0 : ∀ t, Steps p.tables e below (s₁.setTop (mkF m 0 #[.val (.ref a0), .val (.ref a1)] [])) t → Steps p.tables e below (s₁.setTop (entryFrame m #[(.ref a0), (.ref a1)] 2)) t := fun t k => castTop (ef_rmSS m a0 a1) k
  obtain ⟨_, _, ⟨T1, L1, k1, n1⟩, -, X1, ⟨Lc1, hQ1, l1, y1, z1⟩, st1⟩ := superBack X0 hx hZ (y := (⟨"java/lang/AbstractStringBuilder", "append", "(Ljava/lang/String;)Ljava/lang/AbstractStringBuilder;"⟩ : MethodName)) hown (hw _ (List.mem_of_getElem? (i := 55) rfl)) (own_same (hw _ (List.mem_of_getElem? (i := 56) rfl)) (hw _ (List.mem_of_getElem? (i := 112) rfl)) (by decide) rfl) (hw _ (List.mem_of_getElem? (i := 56) rfl)) (hw _ (List.mem_of_getElem? (i := 57) rfl)) (by decide) (backOf (W := 0) (rmAS l Z aw hw [] a0 a1 b k c vs d kd z us cs h0 n0 Z0 E0 g0 Fv Fk Fn V0 gb Es Sk Sv W0 S0 hz hc0 h5 hl hus hne hcap hcs) hZ (hw _ (List.mem_of_getElem? (i := 59) rfl)) (hw _ (List.mem_of_getElem? (i := 20) rfl)) (by decide) (by decide)) e0 (Ins.self E0) (g := (mkF m 2 #[.val (.ref a0), .val (.ref a1)] [(.ref a1), (.ref a0)])) rfl (by rw [hml]; rfl) (hw _ (List.mem_of_getElem? (i := 59) rfl)) (argsL := [(.ref a1)]) (rest := []) (lenOf pd__Ljava_lang_String__Ljava_lang_AbstractStringBuilder_ rfl) rfl (by show 2 * 0 + _ ≤ _; exact Nat.le_of_eq rfl) (hb hby d_jdk_67_method_7_2) (fun _ _ => ⟨rfl, e0, (by decide : 0 + 0 ≤ _), (by decide : 0 + 0 ≤ _)⟩)
  dsimp only [Pt.U, Pt.locs, Pt.cells, Pt.slots] at X1 l1 y1 z1 st1 hQ1
  subst l1 y1 z1
  obtain ⟨rfl, N1q, Kc1, Ec1, Fv1, Fk1, Fn1, Vb1⟩ := hQ1
  have N1 := Fr.app N0 N1q
  have S0__1 := own_sta_keep S0 Kc1 (nsS (E0.nostat) (nsS (V0.nostat) ns0))
  have Es__1 := Es.keep Kc1
  have Sk__1 := Sk.keep Kc1 (by simp only [List.mem_cons, List.not_mem_nil, or_false, not_or]; exact ⟨(ne_exa Es E0 (by decide)), (Es.neArv V0 (hw _ (List.mem_of_getElem? (i := 33) rfl)))⟩)
  have Sv__1 := Sv.keep Kc1 (by simp only [List.mem_cons, List.not_mem_nil, or_false, not_or]; exact ⟨(ne_exa Es E0 (by decide)), (Es.neArv V0 (hw _ (List.mem_of_getElem? (i := 33) rfl)))⟩)
  have W0__1 := W0.keep Kc1 (by simp only [List.mem_cons, List.not_mem_nil, or_false, not_or]; exact ⟨(Ne.symm (E0.neArv W0 (hw _ (List.mem_of_getElem? (i := 11) rfl)))), hne⟩)
  have KK1 : Keep h0 T1.heap [a0, b] := Keep.trans (Keep.refl h0 [a0, b]) Kc1 (fun x q => by simp only [List.mem_cons, List.not_mem_nil, or_false] at q; rcases q with rfl | rfl <;> first | exact (Or.inl (List.mem_of_getElem? (i := 0) rfl)) | exact (Or.inl (List.mem_of_getElem? (i := 1) rfl)))
  have Zs1 : n0 ≤ T1.heap.size := Nat.le_trans Z0 Kc1.1
  obtain ⟨fs, hr, hrun, hended, hW, hsame⟩ := X1.leave (v := some (.ref a0)) (fun h => by rw [Bd.returns] at h; cases h)
  refine ⟨_, _, pre0 _ ?_, hrun, hended, _, _, rfl, ?_, ⟨_, rfl⟩, hW, hsame.mono (by decide) (by decide)⟩
  · show Steps p.tables e below (s₁.setTop (mkF m 0 #[.val (.ref a0), .val (.ref a1)] [])) _
    refine XS.aloadN X0.here hx rfl (hb hby d_jdk_67_method_7_0) rfl rfl ?_
    show Steps p.tables e below (s₁.setTop (mkF m 1 #[.val (.ref a0), .val (.ref a1)] [(.ref a0)])) _
    refine XS.aloadN X0.here hx rfl (hb hby d_jdk_67_method_7_1) rfl rfl ?_
    show Steps p.tables e below (s₁.setTop (mkF m 2 #[.val (.ref a0), .val (.ref a1)] [(.ref a1), (.ref a0)])) _
    refine st1.trans ?_
    show Steps p.tables e below (T1.setTop (mkF m 5 #[.val (.ref a0), .val (.ref a1)] [(.ref a0)])) _
    refine XS.pop X1.here hx rfl (hb hby d_jdk_67_method_7_5) rfl rfl ?_
    show Steps p.tables e below (T1.setTop (mkF m 6 #[.val (.ref a0), .val (.ref a1)] [])) _
    refine XS.aloadN X1.here hx rfl (hb hby d_jdk_67_method_7_6) rfl rfl ?_
    show Steps p.tables e below (T1.setTop (mkF m 7 #[.val (.ref a0), .val (.ref a1)] [(.ref a0)])) _
    jvm_step X1.here [X1.here.top, hx, (hb hby d_jdk_67_method_7_7), X1.method', Bd.returns, Value.isRef, FieldType.isReference]
    first | (intro acts; rw [hr _ acts rfl rfl rfl]) | rw [hr _ _ rfl rfl rfl]
    exact Steps.refl _
  · show Q_rmSS Z a0 a1 b k c vs d kd z us cs h0 n0 _ T1.heap _
    exact ⟨rfl, N1, KK1, Ec1, Fv1, Fk1, Fn1, Vb1⟩
theorem d_prog_20_method_15_0 : decode prog_20_method_15_code 0 = .ok (.aload_n 0, 1) := by decide +kernel
theorem d_prog_20_method_15_1 : decode prog_20_method_15_code 1 = .ok (.getfield 34, 3) := by decide +kernel
theorem d_prog_20_method_15_4 : decode prog_20_method_15_code 4 = .ok (.ifCond .eq 13, 3) := by decide +kernel
theorem d_prog_20_method_15_17 : decode prog_20_method_15_code 17 = .ok (.return_, 1) := by decide +kernel
theorem ef_rmSep0 (m : MethodId) (a0 : Addr) : entryFrame m #[(.ref a0)] 1 = mkF m 0 #[.val (.ref a0)] [] := by first | (simp [entryFrame, mkF, argsToLocals, Value.category]; done) | rfl
def Q_rmSep0 (Z : State) (a0 : Addr) (h0 : Heap) (n0 : Nat) (v : Option Value) (h : Heap) (L : List Loc) : Prop := v = none ∧ Fr n0 L ∧ h = h0
set_option maxRecDepth 65536 in
set_option maxHeartbeats 40000000 in
theorem rmSep0 (l : Launch) (Z : State) (aw : Array Value) (hw : ∀ d ∈ tables_1, d.before aw Z = true) (ws : List Jvm.Cond) (a0 : Addr) (h0 : Heap) (n0 : Nat) (Z0 : n0 ≤ h0.size) (Fa : Fld Z h0 a0 "latentrace/io/JsonWriter" "afterValue" "Z" (.int (0 : Int32))) :
    MetFree l (⟨"latentrace/io/JsonWriter", "separate", "()V"⟩ : MethodName) (head1 (Jvm.Cond.code (⟨"latentrace/io/JsonWriter", "separate", "()V"⟩ : MethodName) prog_20_method_15_code 1 none :: ws) ({ frames := 0, cells := 0, slots := 0, locals := 0 } : Room)) (fun a U => a = #[(.ref a0)] ∧ Z.Warmed39 U.vm ∧ U.heap = h0) (fun _ _ _ _ _ => True) (fun _ U o U' => ∃ v L, o = .returned v ∧ Q_rmSep0 Z a0 h0 n0 v U'.heap L ∧ FrameEnd U o U' L ({ frames := 0, cells := 0, slots := 0, locals := 0 } : Room).cells ({ frames := 0, cells := 0, slots := 0, locals := 0 } : Room).slots) := by
  refine MetFree.of_bodySF (plainFor_of_name pn_latentrace_io_JsonWriter) hisR ?_
  intro p e s m args below meth cd s₁ Bd hml0 hP hK
  obtain ⟨rfl, hZ, hh⟩ := hP
  have hx := Bd.exec
  have hby := Bd.bytes
  have hml : cd.maxLocals = 1 := hml0
  have hown : s.vm.findClass "latentrace/io/JsonWriter" = some m.cls := findClass_of_methodNamed Bd.named
  have hnm := (name_of_methodNamed Bd.named Bd.method).1
  have X0 : Stand p l e ({ frames := 0, cells := 0, slots := 0, locals := 0 } : Room) s m #[(.ref a0)] below meth cd s₁ [] 0 0 := Stand.of_body Bd
  have e0 : s₁.heap = h0 := by rw [← hh, Bd.state]; rfl
  have N0 := Fr.nil n0
  have pre0 : ∀ t, Steps p.tables e below (s₁.setTop (mkF m 0 #[.val (.ref a0)] [])) t → Steps p.tables e below (s₁.setTop (entryFrame m #[(.ref a0)] 1)) t := fun t k => castTop (ef_rmSep0 m a0) k
  obtain ⟨T1, X1, e1, st1⟩ := getF X0 hx hZ hown (host := "") (Or.inl (hw _ (List.mem_of_getElem? (i := 47) rfl))) Via.refl e0 Fa (g := (mkF m 1 #[.val (.ref a0)] [(.ref a0)])) rfl rfl (hb hby d_prog_20_method_15_1)
  obtain ⟨fs, hr, hrun, hended, hW, hsame⟩ := X1.leave (v := none) (fun _ => rfl)
  refine ⟨_, _, pre0 _ ?_, hrun, hended, _, _, rfl, ?_, ⟨_, rfl⟩, hW, hsame.mono (by decide) (by decide)⟩
  · show Steps p.tables e below (s₁.setTop (mkF m 0 #[.val (.ref a0)] [])) _
    refine XS.aloadN X0.here hx rfl (hb hby d_prog_20_method_15_0) rfl rfl ?_
    show Steps p.tables e below (s₁.setTop (mkF m 1 #[.val (.ref a0)] [(.ref a0)])) _
    refine st1 _ ?_
    show Steps p.tables e below (T1.setTop (mkF m 4 #[.val (.ref a0)] [(.int (0 : Int32))])) _
    refine XS.ifYes X1.here hx rfl (pc0 := 4) (pc' := 17) rfl (hb hby d_prog_20_method_15_4) rfl ((if0 _ _).trans (teq (rfl : (0 : Int32) = (0 : Int32))).1) (by decide) (by decide) ?_
    show Steps p.tables e below (T1.setTop (mkF m 17 #[.val (.ref a0)] [])) _
    exact X1.returnOut hx Bd.returns (hb hby d_prog_20_method_15_17) hr
  · show Q_rmSep0 Z a0 h0 n0 _ T1.heap _
    rw [e1]
    exact ⟨rfl, N0, rfl⟩
theorem d_prog_20_method_15_7 : decode prog_20_method_15_code 7 = .ok (.aload_n 0, 1) := by decide +kernel
theorem d_prog_20_method_15_8 : decode prog_20_method_15_code 8 = .ok (.getfield 10, 3) := by decide +kernel
theorem d_prog_20_method_15_11 : decode prog_20_method_15_code 11 = .ok (.bipush 44, 2) := by decide +kernel
theorem d_prog_20_method_15_13 : decode prog_20_method_15_code 13 = .ok (.invokevirtual 30, 3) := by decide +kernel
theorem d_prog_20_method_15_16 : decode prog_20_method_15_code 16 = .ok (.pop, 1) := by decide +kernel
theorem pd__C_Ljava_lang_StringBuilder_ : parseMethodDescriptor "(C)Ljava/lang/StringBuilder;" = some ⟨[.char], some (.object "java/lang/StringBuilder")⟩ := by decide +kernel
theorem ef_rmSep1 (m : MethodId) (a0 : Addr) : entryFrame m #[(.ref a0)] 1 = mkF m 0 #[.val (.ref a0)] [] := by first | (simp [entryFrame, mkF, argsToLocals, Value.category]; done) | rfl
def Q_rmSep1 (Z : State) (a0 : Addr) (sb : Addr) (b : Addr) (k : ClassId) (c : Int32) (vs : List Value) (cs : Int32) (h0 : Heap) (n0 : Nat) (v : Option Value) (h : Heap) (L : List Loc) : Prop := v = none ∧ Fr n0 L ∧ Keep h0 h [a0, sb, b] ∧ Exa Z h a0 "latentrace/io/JsonWriter" ∧ Fld Z h a0 "latentrace/io/JsonWriter" "text" "Ljava/lang/StringBuilder;" (.ref sb) ∧ Fld Z h a0 "latentrace/io/JsonWriter" "afterValue" "Z" (.int (1 : Int32)) ∧ Exa Z h sb "java/lang/StringBuilder" ∧ Fld Z h sb "java/lang/AbstractStringBuilder" "value" "[B" (.ref b) ∧ Fld Z h sb "java/lang/AbstractStringBuilder" "coder" "B" (.int (0 : Int32)) ∧ Fld Z h sb "java/lang/AbstractStringBuilder" "count" "I" (.int (c + (1 : Int32))) ∧ Arv Z h b k .byte (16 : Int32) (vs.set (c).toNatClampNeg (.int (nar .byte ((44 : Int32).toInt8.toInt32)))) (.int (0 : Int32))
set_option maxRecDepth 65536 in
set_option maxHeartbeats 40000000 in
theorem rmSep1 (l : Launch) (Z : State) (aw : Array Value) (hw : ∀ d ∈ tables_1, d.before aw Z = true) (ws : List Jvm.Cond) (a0 : Addr) (sb : Addr) (b : Addr) (k : ClassId) (c : Int32) (vs : List Value) (cs : Int32) (h0 : Heap) (n0 : Nat) (Z0 : n0 ≤ h0.size) (EJ : Exa Z h0 a0 "latentrace/io/JsonWriter") (gJ : n0 ≤ a0) (Ft : Fld Z h0 a0 "latentrace/io/JsonWriter" "text" "Ljava/lang/StringBuilder;" (.ref sb)) (Fa : Fld Z h0 a0 "latentrace/io/JsonWriter" "afterValue" "Z" (.int (1 : Int32))) (E0 : Exa Z h0 sb "java/lang/StringBuilder") (g0 : n0 ≤ sb) (Fv : Fld Z h0 sb "java/lang/AbstractStringBuilder" "value" "[B" (.ref b)) (Fk : Fld Z h0 sb "java/lang/AbstractStringBuilder" "coder" "B" (.int (0 : Int32))) (Fn : Fld Z h0 sb "java/lang/AbstractStringBuilder" "count" "I" (.int c)) (V0 : Arv Z h0 b k .byte (16 : Int32) vs (.int (0 : Int32))) (gb : n0 ≤ b) (S0 : Sta Z h0 "java/lang/String" "COMPACT_STRINGS" "Z" (.int cs)) (hcap : ¬ ((0 : Int32) < ((c + (1 : Int32)) - (16 : Int32)))) (hc0 : ¬ c < 0 ∧ c < (16 : Int32)) (hlen : c.toNatClampNeg < vs.length) (hcs : ¬ (cs = (0 : Int32))) :
    MetFree l (⟨"latentrace/io/JsonWriter", "separate", "()V"⟩ : MethodName) (head1 (Jvm.Cond.code (⟨"latentrace/io/JsonWriter", "separate", "()V"⟩ : MethodName) prog_20_method_15_code 1 none :: ws) ({ frames := 3, cells := 0, slots := 0, locals := 40 } : Room)) (fun a U => a = #[(.ref a0)] ∧ Z.Warmed39 U.vm ∧ U.heap = h0) (fun _ _ _ _ _ => True) (fun _ U o U' => ∃ v L, o = .returned v ∧ Q_rmSep1 Z a0 sb b k c vs cs h0 n0 v U'.heap L ∧ FrameEnd U o U' L ({ frames := 3, cells := 0, slots := 0, locals := 40 } : Room).cells ({ frames := 3, cells := 0, slots := 0, locals := 40 } : Room).slots) := by
  refine MetFree.of_bodySF (plainFor_of_name pn_latentrace_io_JsonWriter) hisR ?_
  intro p e s m args below meth cd s₁ Bd hml0 hP hK
  obtain ⟨rfl, hZ, hh⟩ := hP
  have hx := Bd.exec
  have hby := Bd.bytes
  have hml : cd.maxLocals = 1 := hml0
  have hown : s.vm.findClass "latentrace/io/JsonWriter" = some m.cls := findClass_of_methodNamed Bd.named
  have hnm := (name_of_methodNamed Bd.named Bd.method).1
  have X0 : Stand p l e ({ frames := 3, cells := 0, slots := 0, locals := 40 } : Room) s m #[(.ref a0)] below meth cd s₁ [] 0 0 := Stand.of_body Bd
  have e0 : s₁.heap = h0 := by rw [← hh, Bd.state]; rfl
  have N0 := Fr.nil n0
  have pre0 : ∀ t, Steps p.tables e below (s₁.setTop (mkF m 0 #[.val (.ref a0)] [])) t → Steps p.tables e below (s₁.setTop (entryFrame m #[(.ref a0)] 1)) t := fun t k => castTop (ef_rmSep1 m a0) k
  obtain ⟨T1, X1, e1, st1⟩ := getF X0 hx hZ hown (host := "") (Or.inl (hw _ (List.mem_of_getElem? (i := 47) rfl))) Via.refl e0 Fa (g := (mkF m 1 #[.val (.ref a0)] [(.ref a0)])) rfl rfl (hb hby d_prog_20_method_15_1)
  obtain ⟨T2, X2, e2, st2⟩ := getF X1 hx hZ hown (host := "") (Or.inl (hw _ (List.mem_of_getElem? (i := 30) rfl))) Via.refl e1 Ft (g := (mkF m 8 #[.val (.ref a0)] [(.ref a0)])) rfl rfl (hb hby d_prog_20_method_15_8)
  obtain ⟨cq3, kq3, q3a, q3b, q3c⟩ := isOf hZ e2 E0
  obtain ⟨_, _, ⟨T3, L3, k3, n3⟩, -, X3, ⟨Lc3, hQ3, l3, y3, z3⟩, st3⟩ := X2.virtualBack hx (y := (⟨"java/lang/StringBuilder", "append", "(C)Ljava/lang/StringBuilder;"⟩ : MethodName)) (z := (⟨"java/lang/StringBuilder", "append", "(C)Ljava/lang/StringBuilder;"⟩ : MethodName)) hown (mvT hZ (hw _ (List.mem_of_getElem? (i := 100) rfl))) (mvT hZ (hw _ (List.mem_of_getElem? (i := 101) rfl))) (notFace_of_selects (args := #[]) (mvT hZ (hw _ (List.mem_of_getElem? (i := 103) rfl)))) (mvT hZ (hw _ (List.mem_of_getElem? (i := 103) rfl))) (mvT hZ (hw _ (List.mem_of_getElem? (i := 102) rfl))) (by decide) (backOf (W := 0) (rmSC l Z aw hw [] sb (44 : Int32) b k c vs cs h0 n0 Z0 E0 g0 Fv Fk Fn V0 gb S0 hcap (by decide) hc0 hlen hcs) hZ (hw _ (List.mem_of_getElem? (i := 104) rfl)) (hw _ (List.mem_of_getElem? (i := 12) rfl)) (by decide) (by decide)) q3a q3c (g := (mkF m 13 #[.val (.ref a0)] [(.int (44 : Int32)), (.ref sb)])) rfl (by rw [hml]; rfl) (Steps.refl _) (argsL := [(.int (44 : Int32))]) (rest := []) (lenOf pd__C_Ljava_lang_StringBuilder_ rfl) rfl (by show 2 * 0 + _ ≤ _; exact Nat.le_of_eq rfl) (hb hby d_prog_20_method_15_13) (fun _ _ => ⟨rfl, e2, (by decide : 0 + 0 ≤ _), (by decide : 0 + 0 ≤ _)⟩)
  dsimp only [Pt.U, Pt.locs, Pt.cells, Pt.slots] at X3 l3 y3 z3 st3 hQ3
  subst l3 y3 z3
  obtain ⟨rfl, N3q, Kc3, Ec3, Fv3, Fk3, Fn3, Vb3⟩ := hQ3
  have N3 := Fr.app N0 N3q
  have S0__3 := own_sta_keep S0 Kc3 (nsS (E0.nostat) (nsS (V0.nostat) ns0))
  have EJ__3 := EJ.keep Kc3
  have Ft__3 := Ft.keep Kc3 (by simp only [List.mem_cons, List.not_mem_nil, or_false, not_or]; exact ⟨(ne_exa EJ E0 (by decide)), (EJ.neArv V0 (hw _ (List.mem_of_getElem? (i := 2) rfl)))⟩)
  have Fa__3 := Fa.keep Kc3 (by simp only [List.mem_cons, List.not_mem_nil, or_false, not_or]; exact ⟨(ne_exa EJ E0 (by decide)), (EJ.neArv V0 (hw _ (List.mem_of_getElem? (i := 2) rfl)))⟩)
  have KK3 : Keep h0 T3.heap [a0, sb, b] := Keep.trans (Keep.refl h0 [a0, sb, b]) Kc3 (fun x q => by simp only [List.mem_cons, List.not_mem_nil, or_false] at q; rcases q with rfl | rfl <;> first | exact (Or.inl (List.mem_of_getElem? (i := 1) rfl)) | exact (Or.inl (List.mem_of_getElem? (i := 2) rfl)))
  have Zs3 : n0 ≤ T3.heap.size := Nat.le_trans Z0 Kc3.1
  obtain ⟨fs, hr, hrun, hended, hW, hsame⟩ := X3.leave (v := none) (fun _ => rfl)
  refine ⟨_, _, pre0 _ ?_, hrun, hended, _, _, rfl, ?_, ⟨_, rfl⟩, hW, hsame.mono (by decide) (by decide)⟩
  · show Steps p.tables e below (s₁.setTop (mkF m 0 #[.val (.ref a0)] [])) _
    refine XS.aloadN X0.here hx rfl (hb hby d_prog_20_method_15_0) rfl rfl ?_
    show Steps p.tables e below (s₁.setTop (mkF m 1 #[.val (.ref a0)] [(.ref a0)])) _
    refine st1 _ ?_
    show Steps p.tables e below (T1.setTop (mkF m 4 #[.val (.ref a0)] [(.int (1 : Int32))])) _
    refine XS.ifNo X1.here hx rfl (hb hby d_prog_20_method_15_4) rfl ((if0 _ _).trans (feq (by decide : ¬ ((1 : Int32) = (0 : Int32)))).1) ?_
    show Steps p.tables e below (T1.setTop (mkF m 7 #[.val (.ref a0)] [])) _
    refine XS.aloadN X1.here hx rfl (hb hby d_prog_20_method_15_7) rfl rfl ?_
    show Steps p.tables e below (T1.setTop (mkF m 8 #[.val (.ref a0)] [(.ref a0)])) _
    refine st2 _ ?_
    show Steps p.tables e below (T2.setTop (mkF m 11 #[.val (.ref a0)] [(.ref sb)])) _
    refine XS.bipush X2.here hx rfl (hb hby d_prog_20_method_15_11) ?_
    show Steps p.tables e below (T2.setTop (mkF m 13 #[.val (.ref a0)] [(.int (44 : Int32)), (.ref sb)])) _
    refine st3.trans ?_
    show Steps p.tables e below (T3.setTop (mkF m 16 #[.val (.ref a0)] [(.ref sb)])) _
    refine XS.pop X3.here hx rfl (hb hby d_prog_20_method_15_16) rfl rfl ?_
    show Steps p.tables e below (T3.setTop (mkF m 17 #[.val (.ref a0)] [])) _
    exact X3.returnOut hx Bd.returns (hb hby d_prog_20_method_15_17) hr
  · show Q_rmSep1 Z a0 sb b k c vs cs h0 n0 _ T3.heap _
    exact ⟨rfl, N3, KK3, EJ__3, Ft__3, Fa__3, Ec3, Fv3, Fk3, Fn3, Vb3⟩
theorem d_prog_20_method_13_0 : decode prog_20_method_13_code 0 = .ok (.aload_n 0, 1) := by decide +kernel
theorem d_prog_20_method_13_1 : decode prog_20_method_13_code 1 = .ok (.invokevirtual 23, 3) := by decide +kernel
theorem d_prog_20_method_13_4 : decode prog_20_method_13_code 4 = .ok (.aload_n 0, 1) := by decide +kernel
theorem d_prog_20_method_13_5 : decode prog_20_method_13_code 5 = .ok (.getfield 10, 3) := by decide +kernel
theorem d_prog_20_method_13_8 : decode prog_20_method_13_code 8 = .ok (.iload_n 1, 1) := by decide +kernel
theorem d_prog_20_method_13_9 : decode prog_20_method_13_code 9 = .ok (.invokevirtual 30, 3) := by decide +kernel
theorem d_prog_20_method_13_12 : decode prog_20_method_13_code 12 = .ok (.pop, 1) := by decide +kernel
theorem d_prog_20_method_13_13 : decode prog_20_method_13_code 13 = .ok (.aload_n 0, 1) := by decide +kernel
theorem d_prog_20_method_13_14 : decode prog_20_method_13_code 14 = .ok (.iconst 0, 1) := by decide +kernel
theorem d_prog_20_method_13_15 : decode prog_20_method_13_code 15 = .ok (.putfield 34, 3) := by decide +kernel
theorem d_prog_20_method_13_18 : decode prog_20_method_13_code 18 = .ok (.aload_n 0, 1) := by decide +kernel
theorem d_prog_20_method_13_19 : decode prog_20_method_13_code 19 = .ok (.areturn, 1) := by decide +kernel
theorem ef_rmOpen (m : MethodId) (a0 : Addr) (p1 : Int32) : entryFrame m #[(.ref a0), (.int p1)] 2 = mkF m 0 #[.val (.ref a0), .val (.int p1)] [] := by first | (simp [entryFrame, mkF, argsToLocals, Value.category]; done) | rfl
def Q_rmOpen (Z : State) (a0 : Addr) (p1 : Int32) (sb : Addr) (b : Addr) (k : ClassId) (c : Int32) (vs : List Value) (cs : Int32) (h0 : Heap) (n0 : Nat) (v : Option Value) (h : Heap) (L : List Loc) : Prop := v = some (.ref a0) ∧ Fr n0 L ∧ Keep h0 h [a0, sb, b] ∧ Exa Z h a0 "latentrace/io/JsonWriter" ∧ Fld Z h a0 "latentrace/io/JsonWriter" "text" "Ljava/lang/StringBuilder;" (.ref sb) ∧ Fld Z h a0 "latentrace/io/JsonWriter" "afterValue" "Z" (.int (0 : Int32)) ∧ Exa Z h sb "java/lang/StringBuilder" ∧ Fld Z h sb "java/lang/AbstractStringBuilder" "value" "[B" (.ref b) ∧ Fld Z h sb "java/lang/AbstractStringBuilder" "coder" "B" (.int (0 : Int32)) ∧ Fld Z h sb "java/lang/AbstractStringBuilder" "count" "I" (.int (c + (1 : Int32))) ∧ Arv Z h b k .byte (16 : Int32) (vs.set (c).toNatClampNeg (.int (nar .byte (p1.toInt8.toInt32)))) (.int (0 : Int32))
set_option maxRecDepth 65536 in
set_option maxHeartbeats 40000000 in
theorem rmOpen (l : Launch) (Z : State) (aw : Array Value) (hw : ∀ d ∈ tables_1, d.before aw Z = true) (ws : List Jvm.Cond) (a0 : Addr) (p1 : Int32) (sb : Addr) (b : Addr) (k : ClassId) (c : Int32) (vs : List Value) (cs : Int32) (h0 : Heap) (n0 : Nat) (Z0 : n0 ≤ h0.size) (EJ : Exa Z h0 a0 "latentrace/io/JsonWriter") (gJ : n0 ≤ a0) (Ft : Fld Z h0 a0 "latentrace/io/JsonWriter" "text" "Ljava/lang/StringBuilder;" (.ref sb)) (Fa : Fld Z h0 a0 "latentrace/io/JsonWriter" "afterValue" "Z" (.int (0 : Int32))) (E0 : Exa Z h0 sb "java/lang/StringBuilder") (g0 : n0 ≤ sb) (Fv : Fld Z h0 sb "java/lang/AbstractStringBuilder" "value" "[B" (.ref b)) (Fk : Fld Z h0 sb "java/lang/AbstractStringBuilder" "coder" "B" (.int (0 : Int32))) (Fn : Fld Z h0 sb "java/lang/AbstractStringBuilder" "count" "I" (.int c)) (V0 : Arv Z h0 b k .byte (16 : Int32) vs (.int (0 : Int32))) (gb : n0 ≤ b) (S0 : Sta Z h0 "java/lang/String" "COMPACT_STRINGS" "Z" (.int cs)) (hcap : ¬ ((0 : Int32) < ((c + (1 : Int32)) - (16 : Int32)))) (hcan : ¬ ((255 : Int32) < p1)) (hc0 : ¬ c < 0 ∧ c < (16 : Int32)) (hlen : c.toNatClampNeg < vs.length) (hcs : ¬ (cs = (0 : Int32))) :
    MetFree l (⟨"latentrace/io/JsonWriter", "open", "(C)Llatentrace/io/JsonWriter;"⟩ : MethodName) (head1 (Jvm.Cond.code (⟨"latentrace/io/JsonWriter", "open", "(C)Llatentrace/io/JsonWriter;"⟩ : MethodName) prog_20_method_13_code 2 (some (.object "latentrace/io/JsonWriter")) :: ws) ({ frames := 3, cells := 0, slots := 0, locals := 40 } : Room)) (fun a U => a = #[(.ref a0), (.int p1)] ∧ Z.Warmed39 U.vm ∧ U.heap = h0) (fun _ _ _ _ _ => True) (fun _ U o U' => ∃ v L, o = .returned v ∧ Q_rmOpen Z a0 p1 sb b k c vs cs h0 n0 v U'.heap L ∧ FrameEnd U o U' L ({ frames := 3, cells := 0, slots := 0, locals := 40 } : Room).cells ({ frames := 3, cells := 0, slots := 0, locals := 40 } : Room).slots) := by
  refine MetFree.of_bodySF (plainFor_of_name pn_latentrace_io_JsonWriter) hisR ?_
  intro p e s m args below meth cd s₁ Bd hml0 hP hK
  obtain ⟨rfl, hZ, hh⟩ := hP
  have hx := Bd.exec
  have hby := Bd.bytes
  have hml : cd.maxLocals = 2 := hml0
  have hown : s.vm.findClass "latentrace/io/JsonWriter" = some m.cls := findClass_of_methodNamed Bd.named
  have hnm := (name_of_methodNamed Bd.named Bd.method).1
  have X0 : Stand p l e ({ frames := 3, cells := 0, slots := 0, locals := 40 } : Room) s m #[(.ref a0), (.int p1)] below meth cd s₁ [] 0 0 := Stand.of_body Bd
  have e0 : s₁.heap = h0 := by rw [← hh, Bd.state]; rfl
  have N0 := Fr.nil n0
  have pre0 : ∀ t, Steps p.tables e below (s₁.setTop (mkF m 0 #[.val (.ref a0), .val (.int p1)] [])) t → Steps p.tables e below (s₁.setTop (entryFrame m #[(.ref a0), (.int p1)] 2)) t := fun t k => castTop (ef_rmOpen m a0 p1) k
  obtain ⟨cq1, q1, q1'⟩ := EJ.cell
  obtain ⟨_, _, ⟨T1, L1, k1, n1⟩, -, X1, ⟨Lc1, hQ1, l1, y1, z1⟩, st1⟩ := X0.privateBack hx (y := (⟨"latentrace/io/JsonWriter", "separate", "()V"⟩ : MethodName)) hown (mvT hZ (hw _ (List.mem_of_getElem? (i := 43) rfl))) (mvT hZ (hw _ (List.mem_of_getElem? (i := 44) rfl))) (own_sel hZ (hw _ (List.mem_of_getElem? (i := 2) rfl)) (hw _ (List.mem_of_getElem? (i := 45) rfl)) (hw _ (List.mem_of_getElem? (i := 44) rfl)) (by decide)) (Cond.privateMethod_at (mvP hZ (hw _ (List.mem_of_getElem? (i := 45) rfl)) (args := #[]))) (mvT hZ (hw _ (List.mem_of_getElem? (i := 46) rfl))) (by decide) (backOf (W := 0) (rmSep0 l Z aw hw [] a0 h0 n0 Z0 Fa) hZ (hw _ (List.mem_of_getElem? (i := 46) rfl)) (hw _ (List.mem_of_getElem? (i := 3) rfl)) (by decide) (by decide)) (g := (mkF m 1 #[.val (.ref a0), .val (.int p1)] [(.ref a0)])) rfl (by rw [hml]; rfl) (Steps.refl _) (a := a0) (by rw [e0]; exact q1) q1' (argsL := []) (rest := []) (lenOf pd___V rfl) rfl (by show 2 * 0 + _ ≤ _; exact Nat.le_of_eq rfl) (hb hby d_prog_20_method_13_1) (fun _ _ => ⟨rfl, e0, (by decide : 0 + 0 ≤ _), (by decide : 0 + 0 ≤ _)⟩)
  dsimp only [Pt.U, Pt.locs, Pt.cells, Pt.slots] at X1 l1 y1 z1 st1 hQ1
  subst l1 y1 z1
  obtain ⟨rfl, N1q, q1⟩ := hQ1
  have N1 := Fr.app N0 N1q
  obtain ⟨T2, X2, e2, st2⟩ := getF X1 hx hZ hown (host := "") (Or.inl (hw _ (List.mem_of_getElem? (i := 30) rfl))) Via.refl q1 Ft (g := (mkF m 5 #[.val (.ref a0), .val (.int p1)] [(.ref a0)])) rfl rfl (hb hby d_prog_20_method_13_5)
  obtain ⟨cq3, kq3, q3a, q3b, q3c⟩ := isOf hZ e2 E0
  obtain ⟨_, _, ⟨T3, L3, k3, n3⟩, -, X3, ⟨Lc3, hQ3, l3, y3, z3⟩, st3⟩ := X2.virtualBack hx (y := (⟨"java/lang/StringBuilder", "append", "(C)Ljava/lang/StringBuilder;"⟩ : MethodName)) (z := (⟨"java/lang/StringBuilder", "append", "(C)Ljava/lang/StringBuilder;"⟩ : MethodName)) hown (mvT hZ (hw _ (List.mem_of_getElem? (i := 100) rfl))) (mvT hZ (hw _ (List.mem_of_getElem? (i := 101) rfl))) (notFace_of_selects (args := #[]) (mvT hZ (hw _ (List.mem_of_getElem? (i := 103) rfl)))) (mvT hZ (hw _ (List.mem_of_getElem? (i := 103) rfl))) (mvT hZ (hw _ (List.mem_of_getElem? (i := 102) rfl))) (by decide) (backOf (W := 0) (rmSC l Z aw hw [] sb p1 b k c vs cs h0 n0 Z0 E0 g0 Fv Fk Fn V0 gb S0 hcap hcan hc0 hlen hcs) hZ (hw _ (List.mem_of_getElem? (i := 104) rfl)) (hw _ (List.mem_of_getElem? (i := 12) rfl)) (by decide) (by decide)) q3a q3c (g := (mkF m 9 #[.val (.ref a0), .val (.int p1)] [(.int p1), (.ref sb)])) rfl (by rw [hml]; rfl) (Steps.refl _) (argsL := [(.int p1)]) (rest := []) (lenOf pd__C_Ljava_lang_StringBuilder_ rfl) rfl (by show 2 * 0 + _ ≤ _; exact Nat.le_of_eq rfl) (hb hby d_prog_20_method_13_9) (fun _ _ => ⟨rfl, e2, (by decide : 0 + 0 ≤ _), (by decide : 0 + 0 ≤ _)⟩)
  dsimp only [Pt.U, Pt.locs, Pt.cells, Pt.slots] at X3 l3 y3 z3 st3 hQ3
  subst l3 y3 z3
  obtain ⟨rfl, N3q, Kc3, Ec3, Fv3, Fk3, Fn3, Vb3⟩ := hQ3
  have N3 := Fr.app N1 N3q
  have S0__3 := own_sta_keep S0 Kc3 (nsS (E0.nostat) (nsS (V0.nostat) ns0))
  have EJ__3 := EJ.keep Kc3
  have Ft__3 := Ft.keep Kc3 (by simp only [List.mem_cons, List.not_mem_nil, or_false, not_or]; exact ⟨(ne_exa EJ E0 (by decide)), (EJ.neArv V0 (hw _ (List.mem_of_getElem? (i := 2) rfl)))⟩)
  have Fa__3 := Fa.keep Kc3 (by simp only [List.mem_cons, List.not_mem_nil, or_false, not_or]; exact ⟨(ne_exa EJ E0 (by decide)), (EJ.neArv V0 (hw _ (List.mem_of_getElem? (i := 2) rfl)))⟩)
  have KK3 : Keep h0 T3.heap [a0, sb, b] := Keep.trans (Keep.refl h0 [a0, sb, b]) Kc3 (fun x q => by simp only [List.mem_cons, List.not_mem_nil, or_false] at q; rcases q with rfl | rfl <;> first | exact (Or.inl (List.mem_of_getElem? (i := 1) rfl)) | exact (Or.inl (List.mem_of_getElem? (i := 2) rfl)))
  have Zs3 : n0 ≤ T3.heap.size := Nat.le_trans Z0 Kc3.1
  obtain ⟨T4, h4, X4, e4, W4, st4⟩ := putFN X3 hx hZ hown (hw _ (List.mem_of_getElem? (i := 47) rfl)) Via.refl rfl Fa__3 EJ__3 (Or.inl (hw _ (List.mem_of_getElem? (i := 48) rfl))) (hw _ (List.mem_of_getElem? (i := 2) rfl)) (ty := .boolean) (v' := (.int (0 : Int32))) (by decide) (by decide) (by decide) (g := (mkF m 15 #[.val (.ref a0), .val (.int p1)] [(.int (0 : Int32)), (.ref a0)])) rfl rfl (hb hby d_prog_20_method_13_15)
  have S0__4 := S0__3.wr W4
  have EJ__4 := EJ__3.wr W4
  have Ft__4 := Ft__3.other W4 (Or.inr (slot_ne (Or.inr (hw _ (List.mem_of_getElem? (i := 31) rfl))) (Or.inl (hw _ (List.mem_of_getElem? (i := 48) rfl))) (by decide) (t := (.object "java/lang/StringBuilder")) (t' := .boolean) (by decide) (by decide)))
  have Fa__4 := Fa__3.same W4
  have Ec3__4 := Ec3.wr W4
  have Fv3__4 := Fv3.other W4 (Or.inl (ne_exa Ec3 EJ__3 (by decide)))
  have Fk3__4 := Fk3.other W4 (Or.inl (ne_exa Ec3 EJ__3 (by decide)))
  have Fn3__4 := Fn3.other W4 (Or.inl (ne_exa Ec3 EJ__3 (by decide)))
  have Vb3__4 := Vb3.other W4 (Ne.symm (EJ__3.neArv Vb3 (hw _ (List.mem_of_getElem? (i := 2) rfl))))
  have K4 : Keep h0 h4 [a0, sb, b] := KK3.wr W4 (Or.inl (List.mem_of_getElem? (i := 0) rfl))
  have Zs4 : n0 ≤ h4.size := Nat.le_trans Zs3 (Keep.of_wr W4).1
  have N4 := Fr.snoc X4 N3 gJ
  obtain ⟨fs, hr, hrun, hended, hW, hsame⟩ := X4.leave (v := some (.ref a0)) (fun h => by rw [Bd.returns] at h; cases h)
  refine ⟨_, _, pre0 _ ?_, hrun, hended, _, _, rfl, ?_, ⟨_, rfl⟩, hW, hsame.mono (by decide) (by decide)⟩
  · show Steps p.tables e below (s₁.setTop (mkF m 0 #[.val (.ref a0), .val (.int p1)] [])) _
    refine XS.aloadN X0.here hx rfl (hb hby d_prog_20_method_13_0) rfl rfl ?_
    show Steps p.tables e below (s₁.setTop (mkF m 1 #[.val (.ref a0), .val (.int p1)] [(.ref a0)])) _
    refine st1.trans ?_
    show Steps p.tables e below (T1.setTop (mkF m 4 #[.val (.ref a0), .val (.int p1)] [])) _
    refine XS.aloadN X1.here hx rfl (hb hby d_prog_20_method_13_4) rfl rfl ?_
    show Steps p.tables e below (T1.setTop (mkF m 5 #[.val (.ref a0), .val (.int p1)] [(.ref a0)])) _
    refine st2 _ ?_
    show Steps p.tables e below (T2.setTop (mkF m 8 #[.val (.ref a0), .val (.int p1)] [(.ref sb)])) _
    refine XS.iloadN X2.here hx rfl (hb hby d_prog_20_method_13_8) rfl ?_
    show Steps p.tables e below (T2.setTop (mkF m 9 #[.val (.ref a0), .val (.int p1)] [(.int p1), (.ref sb)])) _
    refine st3.trans ?_
    show Steps p.tables e below (T3.setTop (mkF m 12 #[.val (.ref a0), .val (.int p1)] [(.ref sb)])) _
    refine XS.pop X3.here hx rfl (hb hby d_prog_20_method_13_12) rfl rfl ?_
    show Steps p.tables e below (T3.setTop (mkF m 13 #[.val (.ref a0), .val (.int p1)] [])) _
    refine XS.aloadN X3.here hx rfl (hb hby d_prog_20_method_13_13) rfl rfl ?_
    show Steps p.tables e below (T3.setTop (mkF m 14 #[.val (.ref a0), .val (.int p1)] [(.ref a0)])) _
    refine XS.iconst X3.here hx rfl (hb hby d_prog_20_method_13_14) ?_
    show Steps p.tables e below (T3.setTop (mkF m 15 #[.val (.ref a0), .val (.int p1)] [(.int (0 : Int32)), (.ref a0)])) _
    refine st4 _ ?_
    show Steps p.tables e below (T4.setTop (mkF m 18 #[.val (.ref a0), .val (.int p1)] [])) _
    refine XS.aloadN X4.here hx rfl (hb hby d_prog_20_method_13_18) rfl rfl ?_
    show Steps p.tables e below (T4.setTop (mkF m 19 #[.val (.ref a0), .val (.int p1)] [(.ref a0)])) _
    jvm_step X4.here [X4.here.top, hx, (hb hby d_prog_20_method_13_19), X4.method', Bd.returns, Value.isRef, FieldType.isReference]
    first | (intro acts; rw [hr _ acts rfl rfl rfl]) | rw [hr _ _ rfl rfl rfl]
    exact Steps.refl _
  · show Q_rmOpen Z a0 p1 sb b k c vs cs h0 n0 _ T4.heap _
    rw [e4]
    exact ⟨rfl, N4, K4, EJ__4, Ft__4, Fa__4, Ec3__4, Fv3__4, Fk3__4, Fn3__4, Vb3__4⟩
theorem d_prog_20_method_14_0 : decode prog_20_method_14_code 0 = .ok (.aload_n 0, 1) := by decide +kernel
theorem d_prog_20_method_14_1 : decode prog_20_method_14_code 1 = .ok (.getfield 10, 3) := by decide +kernel
theorem d_prog_20_method_14_4 : decode prog_20_method_14_code 4 = .ok (.iload_n 1, 1) := by decide +kernel
theorem d_prog_20_method_14_5 : decode prog_20_method_14_code 5 = .ok (.invokevirtual 30, 3) := by decide +kernel
theorem d_prog_20_method_14_8 : decode prog_20_method_14_code 8 = .ok (.pop, 1) := by decide +kernel
theorem d_prog_20_method_14_9 : decode prog_20_method_14_code 9 = .ok (.aload_n 0, 1) := by decide +kernel
theorem d_prog_20_method_14_10 : decode prog_20_method_14_code 10 = .ok (.iconst 1, 1) := by decide +kernel
theorem d_prog_20_method_14_11 : decode prog_20_method_14_code 11 = .ok (.putfield 34, 3) := by decide +kernel
theorem d_prog_20_method_14_14 : decode prog_20_method_14_code 14 = .ok (.aload_n 0, 1) := by decide +kernel
theorem d_prog_20_method_14_15 : decode prog_20_method_14_code 15 = .ok (.areturn, 1) := by decide +kernel
theorem ef_rmClose (m : MethodId) (a0 : Addr) (p1 : Int32) : entryFrame m #[(.ref a0), (.int p1)] 2 = mkF m 0 #[.val (.ref a0), .val (.int p1)] [] := by first | (simp [entryFrame, mkF, argsToLocals, Value.category]; done) | rfl
def Q_rmClose (Z : State) (a0 : Addr) (p1 : Int32) (sb : Addr) (b : Addr) (k : ClassId) (c : Int32) (vs : List Value) (cs : Int32) (h0 : Heap) (n0 : Nat) (v : Option Value) (h : Heap) (L : List Loc) : Prop := v = some (.ref a0) ∧ Fr n0 L ∧ Keep h0 h [a0, sb, b] ∧ Exa Z h a0 "latentrace/io/JsonWriter" ∧ Fld Z h a0 "latentrace/io/JsonWriter" "text" "Ljava/lang/StringBuilder;" (.ref sb) ∧ Fld Z h a0 "latentrace/io/JsonWriter" "afterValue" "Z" (.int (1 : Int32)) ∧ Exa Z h sb "java/lang/StringBuilder" ∧ Fld Z h sb "java/lang/AbstractStringBuilder" "value" "[B" (.ref b) ∧ Fld Z h sb "java/lang/AbstractStringBuilder" "coder" "B" (.int (0 : Int32)) ∧ Fld Z h sb "java/lang/AbstractStringBuilder" "count" "I" (.int (c + (1 : Int32))) ∧ Arv Z h b k .byte (16 : Int32) (vs.set (c).toNatClampNeg (.int (nar .byte (p1.toInt8.toInt32)))) (.int (0 : Int32))
set_option maxRecDepth 65536 in
set_option maxHeartbeats 40000000 in
theorem rmClose (l : Launch) (Z : State) (aw : Array Value) (hw : ∀ d ∈ tables_1, d.before aw Z = true) (ws : List Jvm.Cond) (a0 : Addr) (p1 : Int32) (sb : Addr) (b : Addr) (k : ClassId) (c : Int32) (vs : List Value) (cs : Int32) (h0 : Heap) (n0 : Nat) (Z0 : n0 ≤ h0.size) (EJ : Exa Z h0 a0 "latentrace/io/JsonWriter") (gJ : n0 ≤ a0) (Ft : Fld Z h0 a0 "latentrace/io/JsonWriter" "text" "Ljava/lang/StringBuilder;" (.ref sb)) (Fa : Fld Z h0 a0 "latentrace/io/JsonWriter" "afterValue" "Z" (.int (0 : Int32))) (E0 : Exa Z h0 sb "java/lang/StringBuilder") (g0 : n0 ≤ sb) (Fv : Fld Z h0 sb "java/lang/AbstractStringBuilder" "value" "[B" (.ref b)) (Fk : Fld Z h0 sb "java/lang/AbstractStringBuilder" "coder" "B" (.int (0 : Int32))) (Fn : Fld Z h0 sb "java/lang/AbstractStringBuilder" "count" "I" (.int c)) (V0 : Arv Z h0 b k .byte (16 : Int32) vs (.int (0 : Int32))) (gb : n0 ≤ b) (S0 : Sta Z h0 "java/lang/String" "COMPACT_STRINGS" "Z" (.int cs)) (hcap : ¬ ((0 : Int32) < ((c + (1 : Int32)) - (16 : Int32)))) (hcan : ¬ ((255 : Int32) < p1)) (hc0 : ¬ c < 0 ∧ c < (16 : Int32)) (hlen : c.toNatClampNeg < vs.length) (hcs : ¬ (cs = (0 : Int32))) :
    MetFree l (⟨"latentrace/io/JsonWriter", "close", "(C)Llatentrace/io/JsonWriter;"⟩ : MethodName) (head1 (Jvm.Cond.code (⟨"latentrace/io/JsonWriter", "close", "(C)Llatentrace/io/JsonWriter;"⟩ : MethodName) prog_20_method_14_code 2 (some (.object "latentrace/io/JsonWriter")) :: ws) ({ frames := 3, cells := 0, slots := 0, locals := 40 } : Room)) (fun a U => a = #[(.ref a0), (.int p1)] ∧ Z.Warmed39 U.vm ∧ U.heap = h0) (fun _ _ _ _ _ => True) (fun _ U o U' => ∃ v L, o = .returned v ∧ Q_rmClose Z a0 p1 sb b k c vs cs h0 n0 v U'.heap L ∧ FrameEnd U o U' L ({ frames := 3, cells := 0, slots := 0, locals := 40 } : Room).cells ({ frames := 3, cells := 0, slots := 0, locals := 40 } : Room).slots) := by
  refine MetFree.of_bodySF (plainFor_of_name pn_latentrace_io_JsonWriter) hisR ?_
  intro p e s m args below meth cd s₁ Bd hml0 hP hK
  obtain ⟨rfl, hZ, hh⟩ := hP
  have hx := Bd.exec
  have hby := Bd.bytes
  have hml : cd.maxLocals = 2 := hml0
  have hown : s.vm.findClass "latentrace/io/JsonWriter" = some m.cls := findClass_of_methodNamed Bd.named
  have hnm := (name_of_methodNamed Bd.named Bd.method).1
  have X0 : Stand p l e ({ frames := 3, cells := 0, slots := 0, locals := 40 } : Room) s m #[(.ref a0), (.int p1)] below meth cd s₁ [] 0 0 := Stand.of_body Bd
  have e0 : s₁.heap = h0 := by rw [← hh, Bd.state]; rfl
  have N0 := Fr.nil n0
  have pre0 : ∀ t, Steps p.tables e below (s₁.setTop (mkF m 0 #[.val (.ref a0), .val (.int p1)] [])) t → Steps p.tables e below (s₁.setTop (entryFrame m #[(.ref a0), (.int p1)] 2)) t := fun t k => castTop (ef_rmClose m a0 p1) k
  obtain ⟨T1, X1, e1, st1⟩ := getF X0 hx hZ hown (host := "") (Or.inl (hw _ (List.mem_of_getElem? (i := 30) rfl))) Via.refl e0 Ft (g := (mkF m 1 #[.val (.ref a0), .val (.int p1)] [(.ref a0)])) rfl rfl (hb hby d_prog_20_method_14_1)
  obtain ⟨cq2, kq2, q2a, q2b, q2c⟩ := isOf hZ e1 E0
  obtain ⟨_, _, ⟨T2, L2, k2, n2⟩, -, X2, ⟨Lc2, hQ2, l2, y2, z2⟩, st2⟩ := X1.virtualBack hx (y := (⟨"java/lang/StringBuilder", "append", "(C)Ljava/lang/StringBuilder;"⟩ : MethodName)) (z := (⟨"java/lang/StringBuilder", "append", "(C)Ljava/lang/StringBuilder;"⟩ : MethodName)) hown (mvT hZ (hw _ (List.mem_of_getElem? (i := 100) rfl))) (mvT hZ (hw _ (List.mem_of_getElem? (i := 101) rfl))) (notFace_of_selects (args := #[]) (mvT hZ (hw _ (List.mem_of_getElem? (i := 103) rfl)))) (mvT hZ (hw _ (List.mem_of_getElem? (i := 103) rfl))) (mvT hZ (hw _ (List.mem_of_getElem? (i := 102) rfl))) (by decide) (backOf (W := 0) (rmSC l Z aw hw [] sb p1 b k c vs cs h0 n0 Z0 E0 g0 Fv Fk Fn V0 gb S0 hcap hcan hc0 hlen hcs) hZ (hw _ (List.mem_of_getElem? (i := 104) rfl)) (hw _ (List.mem_of_getElem? (i := 12) rfl)) (by decide) (by decide)) q2a q2c (g := (mkF m 5 #[.val (.ref a0), .val (.int p1)] [(.int p1), (.ref sb)])) rfl (by rw [hml]; rfl) (Steps.refl _) (argsL := [(.int p1)]) (rest := []) (lenOf pd__C_Ljava_lang_StringBuilder_ rfl) rfl (by show 2 * 0 + _ ≤ _; exact Nat.le_of_eq rfl) (hb hby d_prog_20_method_14_5) (fun _ _ => ⟨rfl, e1, (by decide : 0 + 0 ≤ _), (by decide : 0 + 0 ≤ _)⟩)
  dsimp only [Pt.U, Pt.locs, Pt.cells, Pt.slots] at X2 l2 y2 z2 st2 hQ2
  subst l2 y2 z2
  obtain ⟨rfl, N2q, Kc2, Ec2, Fv2, Fk2, Fn2, Vb2⟩ := hQ2
  have N2 := Fr.app N0 N2q
  have S0__2 := own_sta_keep S0 Kc2 (nsS (E0.nostat) (nsS (V0.nostat) ns0))
  have EJ__2 := EJ.keep Kc2
  have Ft__2 := Ft.keep Kc2 (by simp only [List.mem_cons, List.not_mem_nil, or_false, not_or]; exact ⟨(ne_exa EJ E0 (by decide)), (EJ.neArv V0 (hw _ (List.mem_of_getElem? (i := 2) rfl)))⟩)
  have Fa__2 := Fa.keep Kc2 (by simp only [List.mem_cons, List.not_mem_nil, or_false, not_or]; exact ⟨(ne_exa EJ E0 (by decide)), (EJ.neArv V0 (hw _ (List.mem_of_getElem? (i := 2) rfl)))⟩)
  have KK2 : Keep h0 T2.heap [a0, sb, b] := Keep.trans (Keep.refl h0 [a0, sb, b]) Kc2 (fun x q => by simp only [List.mem_cons, List.not_mem_nil, or_false] at q; rcases q with rfl | rfl <;> first | exact (Or.inl (List.mem_of_getElem? (i := 1) rfl)) | exact (Or.inl (List.mem_of_getElem? (i := 2) rfl)))
  have Zs2 : n0 ≤ T2.heap.size := Nat.le_trans Z0 Kc2.1
  obtain ⟨T3, h3, X3, e3, W3, st3⟩ := putFN X2 hx hZ hown (hw _ (List.mem_of_getElem? (i := 47) rfl)) Via.refl rfl Fa__2 EJ__2 (Or.inl (hw _ (List.mem_of_getElem? (i := 48) rfl))) (hw _ (List.mem_of_getElem? (i := 2) rfl)) (ty := .boolean) (v' := (.int (1 : Int32))) (by decide) (by decide) (by decide) (g := (mkF m 11 #[.val (.ref a0), .val (.int p1)] [(.int (1 : Int32)), (.ref a0)])) rfl rfl (hb hby d_prog_20_method_14_11)
  have S0__3 := S0__2.wr W3
  have EJ__3 := EJ__2.wr W3
  have Ft__3 := Ft__2.other W3 (Or.inr (slot_ne (Or.inr (hw _ (List.mem_of_getElem? (i := 31) rfl))) (Or.inl (hw _ (List.mem_of_getElem? (i := 48) rfl))) (by decide) (t := (.object "java/lang/StringBuilder")) (t' := .boolean) (by decide) (by decide)))
  have Fa__3 := Fa__2.same W3
  have Ec2__3 := Ec2.wr W3
  have Fv2__3 := Fv2.other W3 (Or.inl (ne_exa Ec2 EJ__2 (by decide)))
  have Fk2__3 := Fk2.other W3 (Or.inl (ne_exa Ec2 EJ__2 (by decide)))
  have Fn2__3 := Fn2.other W3 (Or.inl (ne_exa Ec2 EJ__2 (by decide)))
  have Vb2__3 := Vb2.other W3 (Ne.symm (EJ__2.neArv Vb2 (hw _ (List.mem_of_getElem? (i := 2) rfl))))
  have K3 : Keep h0 h3 [a0, sb, b] := KK2.wr W3 (Or.inl (List.mem_of_getElem? (i := 0) rfl))
  have Zs3 : n0 ≤ h3.size := Nat.le_trans Zs2 (Keep.of_wr W3).1
  have N3 := Fr.snoc X3 N2 gJ
  obtain ⟨fs, hr, hrun, hended, hW, hsame⟩ := X3.leave (v := some (.ref a0)) (fun h => by rw [Bd.returns] at h; cases h)
  refine ⟨_, _, pre0 _ ?_, hrun, hended, _, _, rfl, ?_, ⟨_, rfl⟩, hW, hsame.mono (by decide) (by decide)⟩
  · show Steps p.tables e below (s₁.setTop (mkF m 0 #[.val (.ref a0), .val (.int p1)] [])) _
    refine XS.aloadN X0.here hx rfl (hb hby d_prog_20_method_14_0) rfl rfl ?_
    show Steps p.tables e below (s₁.setTop (mkF m 1 #[.val (.ref a0), .val (.int p1)] [(.ref a0)])) _
    refine st1 _ ?_
    show Steps p.tables e below (T1.setTop (mkF m 4 #[.val (.ref a0), .val (.int p1)] [(.ref sb)])) _
    refine XS.iloadN X1.here hx rfl (hb hby d_prog_20_method_14_4) rfl ?_
    show Steps p.tables e below (T1.setTop (mkF m 5 #[.val (.ref a0), .val (.int p1)] [(.int p1), (.ref sb)])) _
    refine st2.trans ?_
    show Steps p.tables e below (T2.setTop (mkF m 8 #[.val (.ref a0), .val (.int p1)] [(.ref sb)])) _
    refine XS.pop X2.here hx rfl (hb hby d_prog_20_method_14_8) rfl rfl ?_
    show Steps p.tables e below (T2.setTop (mkF m 9 #[.val (.ref a0), .val (.int p1)] [])) _
    refine XS.aloadN X2.here hx rfl (hb hby d_prog_20_method_14_9) rfl rfl ?_
    show Steps p.tables e below (T2.setTop (mkF m 10 #[.val (.ref a0), .val (.int p1)] [(.ref a0)])) _
    refine XS.iconst X2.here hx rfl (hb hby d_prog_20_method_14_10) ?_
    show Steps p.tables e below (T2.setTop (mkF m 11 #[.val (.ref a0), .val (.int p1)] [(.int (1 : Int32)), (.ref a0)])) _
    refine st3 _ ?_
    show Steps p.tables e below (T3.setTop (mkF m 14 #[.val (.ref a0), .val (.int p1)] [])) _
    refine XS.aloadN X3.here hx rfl (hb hby d_prog_20_method_14_14) rfl rfl ?_
    show Steps p.tables e below (T3.setTop (mkF m 15 #[.val (.ref a0), .val (.int p1)] [(.ref a0)])) _
    jvm_step X3.here [X3.here.top, hx, (hb hby d_prog_20_method_14_15), X3.method', Bd.returns, Value.isRef, FieldType.isReference]
    first | (intro acts; rw [hr _ acts rfl rfl rfl]) | rw [hr _ _ rfl rfl rfl]
    exact Steps.refl _
  · show Q_rmClose Z a0 p1 sb b k c vs cs h0 n0 _ T3.heap _
    rw [e3]
    exact ⟨rfl, N3, K3, EJ__3, Ft__3, Fa__3, Ec2__3, Fv2__3, Fk2__3, Fn2__3, Vb2__3⟩
theorem d_prog_20_method_4_0 : decode prog_20_method_4_code 0 = .ok (.aload_n 0, 1) := by decide +kernel
theorem d_prog_20_method_4_1 : decode prog_20_method_4_code 1 = .ok (.bipush 91, 2) := by decide +kernel
theorem d_prog_20_method_4_3 : decode prog_20_method_4_code 3 = .ok (.invokevirtual 16, 3) := by decide +kernel
theorem d_prog_20_method_4_6 : decode prog_20_method_4_code 6 = .ok (.areturn, 1) := by decide +kernel
theorem pd__C_Llatentrace_io_JsonWriter_ : parseMethodDescriptor "(C)Llatentrace/io/JsonWriter;" = some ⟨[.char], some (.object "latentrace/io/JsonWriter")⟩ := by decide +kernel
theorem ef_rm_beginArray (m : MethodId) (a0 : Addr) : entryFrame m #[(.ref a0)] 1 = mkF m 0 #[.val (.ref a0)] [] := by first | (simp [entryFrame, mkF, argsToLocals, Value.category]; done) | rfl
def Q_rm_beginArray (Z : State) (a0 : Addr) (sb : Addr) (b : Addr) (k : ClassId) (c : Int32) (vs : List Value) (cs : Int32) (h0 : Heap) (n0 : Nat) (v : Option Value) (h : Heap) (L : List Loc) : Prop := v = some (.ref a0) ∧ Fr n0 L ∧ Keep h0 h [a0, sb, b] ∧ Exa Z h a0 "latentrace/io/JsonWriter" ∧ Fld Z h a0 "latentrace/io/JsonWriter" "text" "Ljava/lang/StringBuilder;" (.ref sb) ∧ Fld Z h a0 "latentrace/io/JsonWriter" "afterValue" "Z" (.int (0 : Int32)) ∧ Exa Z h sb "java/lang/StringBuilder" ∧ Fld Z h sb "java/lang/AbstractStringBuilder" "value" "[B" (.ref b) ∧ Fld Z h sb "java/lang/AbstractStringBuilder" "coder" "B" (.int (0 : Int32)) ∧ Fld Z h sb "java/lang/AbstractStringBuilder" "count" "I" (.int (c + (1 : Int32))) ∧ Arv Z h b k .byte (16 : Int32) (vs.set (c).toNatClampNeg (.int (nar .byte ((91 : Int32).toInt8.toInt32)))) (.int (0 : Int32))
set_option maxRecDepth 65536 in
set_option maxHeartbeats 40000000 in
theorem rm_beginArray (l : Launch) (Z : State) (aw : Array Value) (hw : ∀ d ∈ tables_1, d.before aw Z = true) (ws : List Jvm.Cond) (a0 : Addr) (sb : Addr) (b : Addr) (k : ClassId) (c : Int32) (vs : List Value) (cs : Int32) (h0 : Heap) (n0 : Nat) (Z0 : n0 ≤ h0.size) (EJ : Exa Z h0 a0 "latentrace/io/JsonWriter") (gJ : n0 ≤ a0) (Ft : Fld Z h0 a0 "latentrace/io/JsonWriter" "text" "Ljava/lang/StringBuilder;" (.ref sb)) (Fa : Fld Z h0 a0 "latentrace/io/JsonWriter" "afterValue" "Z" (.int (0 : Int32))) (E0 : Exa Z h0 sb "java/lang/StringBuilder") (g0 : n0 ≤ sb) (Fv : Fld Z h0 sb "java/lang/AbstractStringBuilder" "value" "[B" (.ref b)) (Fk : Fld Z h0 sb "java/lang/AbstractStringBuilder" "coder" "B" (.int (0 : Int32))) (Fn : Fld Z h0 sb "java/lang/AbstractStringBuilder" "count" "I" (.int c)) (V0 : Arv Z h0 b k .byte (16 : Int32) vs (.int (0 : Int32))) (gb : n0 ≤ b) (S0 : Sta Z h0 "java/lang/String" "COMPACT_STRINGS" "Z" (.int cs)) (hcap : ¬ ((0 : Int32) < ((c + (1 : Int32)) - (16 : Int32)))) (hc0 : ¬ c < 0 ∧ c < (16 : Int32)) (hlen : c.toNatClampNeg < vs.length) (hcs : ¬ (cs = (0 : Int32))) :
    MetFree l (⟨"latentrace/io/JsonWriter", "beginArray", "()Llatentrace/io/JsonWriter;"⟩ : MethodName) (head1 (Jvm.Cond.code (⟨"latentrace/io/JsonWriter", "beginArray", "()Llatentrace/io/JsonWriter;"⟩ : MethodName) prog_20_method_4_code 1 (some (.object "latentrace/io/JsonWriter")) :: ws) ({ frames := 4, cells := 0, slots := 0, locals := 53 } : Room)) (fun a U => a = #[(.ref a0)] ∧ Z.Warmed39 U.vm ∧ U.heap = h0) (fun _ _ _ _ _ => True) (fun _ U o U' => ∃ v L, o = .returned v ∧ Q_rm_beginArray Z a0 sb b k c vs cs h0 n0 v U'.heap L ∧ FrameEnd U o U' L ({ frames := 4, cells := 0, slots := 0, locals := 53 } : Room).cells ({ frames := 4, cells := 0, slots := 0, locals := 53 } : Room).slots) := by
  refine MetFree.of_bodySF (plainFor_of_name pn_latentrace_io_JsonWriter) hisR ?_
  intro p e s m args below meth cd s₁ Bd hml0 hP hK
  obtain ⟨rfl, hZ, hh⟩ := hP
  have hx := Bd.exec
  have hby := Bd.bytes
  have hml : cd.maxLocals = 1 := hml0
  have hown : s.vm.findClass "latentrace/io/JsonWriter" = some m.cls := findClass_of_methodNamed Bd.named
  have hnm := (name_of_methodNamed Bd.named Bd.method).1
  have X0 : Stand p l e ({ frames := 4, cells := 0, slots := 0, locals := 53 } : Room) s m #[(.ref a0)] below meth cd s₁ [] 0 0 := Stand.of_body Bd
  have e0 : s₁.heap = h0 := by rw [← hh, Bd.state]; rfl
  have N0 := Fr.nil n0
  have pre0 : ∀ t, Steps p.tables e below (s₁.setTop (mkF m 0 #[.val (.ref a0)] [])) t → Steps p.tables e below (s₁.setTop (entryFrame m #[(.ref a0)] 1)) t := fun t k => castTop (ef_rm_beginArray m a0) k
  obtain ⟨cq1, q1, q1'⟩ := EJ.cell
  obtain ⟨_, _, ⟨T1, L1, k1, n1⟩, -, X1, ⟨Lc1, hQ1, l1, y1, z1⟩, st1⟩ := X0.privateBack hx (y := (⟨"latentrace/io/JsonWriter", "open", "(C)Llatentrace/io/JsonWriter;"⟩ : MethodName)) hown (mvT hZ (hw _ (List.mem_of_getElem? (i := 180) rfl))) (mvT hZ (hw _ (List.mem_of_getElem? (i := 181) rfl))) (own_sel hZ (hw _ (List.mem_of_getElem? (i := 2) rfl)) (hw _ (List.mem_of_getElem? (i := 182) rfl)) (hw _ (List.mem_of_getElem? (i := 181) rfl)) (by decide)) (Cond.privateMethod_at (mvP hZ (hw _ (List.mem_of_getElem? (i := 182) rfl)) (args := #[]))) (mvT hZ (hw _ (List.mem_of_getElem? (i := 183) rfl))) (by decide) (backOf (W := 0) (rmOpen l Z aw hw [] a0 (91 : Int32) sb b k c vs  cs h0 n0 Z0 EJ gJ Ft Fa E0 g0 Fv Fk Fn V0 gb  S0 hcap (by decide) hc0 hlen hcs) hZ (hw _ (List.mem_of_getElem? (i := 183) rfl)) (hw _ (List.mem_of_getElem? (i := 3) rfl)) (by decide) (by decide)) (g := (mkF m 3 #[.val (.ref a0)] [(.int (91 : Int32)), (.ref a0)])) rfl (by rw [hml]; rfl) (Steps.refl _) (a := a0) (by rw [e0]; exact q1) q1' (argsL := [(.int (91 : Int32))]) (rest := []) (lenOf pd__C_Llatentrace_io_JsonWriter_ rfl) rfl (by show 2 * 0 + _ ≤ _; exact Nat.le_of_eq rfl) (hb hby d_prog_20_method_4_3) (fun _ _ => ⟨rfl, e0, (by decide : 0 + 0 ≤ _), (by decide : 0 + 0 ≤ _)⟩)
  dsimp only [Pt.U, Pt.locs, Pt.cells, Pt.slots] at X1 l1 y1 z1 st1 hQ1
  subst l1 y1 z1
  obtain ⟨rfl, N1q, Kc1, Ej1, Ft1, Fa1, Ec1, Fv1, Fk1, Fn1, Vb1⟩ := hQ1
  have N1 := Fr.app N0 N1q
  have S0__1 := own_sta_keep S0 Kc1 (nsS (EJ.nostat) (nsS (E0.nostat) (nsS (V0.nostat) ns0)))
  have KK1 : Keep h0 T1.heap [a0, sb, b] := Keep.trans (Keep.refl h0 [a0, sb, b]) Kc1 (fun x q => by simp only [List.mem_cons, List.not_mem_nil, or_false] at q; rcases q with rfl | rfl | rfl <;> first | exact (Or.inl (List.mem_of_getElem? (i := 0) rfl)) | exact (Or.inl (List.mem_of_getElem? (i := 1) rfl)) | exact (Or.inl (List.mem_of_getElem? (i := 2) rfl)))
  have Zs1 : n0 ≤ T1.heap.size := Nat.le_trans Z0 Kc1.1
  obtain ⟨fs, hr, hrun, hended, hW, hsame⟩ := X1.leave (v := some (.ref a0)) (fun h => by rw [Bd.returns] at h; cases h)
  refine ⟨_, _, pre0 _ ?_, hrun, hended, _, _, rfl, ?_, ⟨_, rfl⟩, hW, hsame.mono (by decide) (by decide)⟩
  · show Steps p.tables e below (s₁.setTop (mkF m 0 #[.val (.ref a0)] [])) _
    refine XS.aloadN X0.here hx rfl (hb hby d_prog_20_method_4_0) rfl rfl ?_
    show Steps p.tables e below (s₁.setTop (mkF m 1 #[.val (.ref a0)] [(.ref a0)])) _
    refine XS.bipush X0.here hx rfl (hb hby d_prog_20_method_4_1) ?_
    show Steps p.tables e below (s₁.setTop (mkF m 3 #[.val (.ref a0)] [(.int (91 : Int32)), (.ref a0)])) _
    refine st1.trans ?_
    show Steps p.tables e below (T1.setTop (mkF m 6 #[.val (.ref a0)] [(.ref a0)])) _
    jvm_step X1.here [X1.here.top, hx, (hb hby d_prog_20_method_4_6), X1.method', Bd.returns, Value.isRef, FieldType.isReference]
    first | (intro acts; rw [hr _ acts rfl rfl rfl]) | rw [hr _ _ rfl rfl rfl]
    exact Steps.refl _
  · show Q_rm_beginArray Z a0 sb b k c vs cs h0 n0 _ T1.heap _
    exact ⟨rfl, N1, KK1, Ej1, Ft1, Fa1, Ec1, Fv1, Fk1, Fn1, Vb1⟩
theorem d_prog_20_method_2_0 : decode prog_20_method_2_code 0 = .ok (.aload_n 0, 1) := by decide +kernel
theorem d_prog_20_method_2_1 : decode prog_20_method_2_code 1 = .ok (.bipush 123, 2) := by decide +kernel
theorem d_prog_20_method_2_3 : decode prog_20_method_2_code 3 = .ok (.invokevirtual 16, 3) := by decide +kernel
theorem d_prog_20_method_2_6 : decode prog_20_method_2_code 6 = .ok (.areturn, 1) := by decide +kernel
theorem ef_rm_beginObject (m : MethodId) (a0 : Addr) : entryFrame m #[(.ref a0)] 1 = mkF m 0 #[.val (.ref a0)] [] := by first | (simp [entryFrame, mkF, argsToLocals, Value.category]; done) | rfl
def Q_rm_beginObject (Z : State) (a0 : Addr) (sb : Addr) (b : Addr) (k : ClassId) (c : Int32) (vs : List Value) (cs : Int32) (h0 : Heap) (n0 : Nat) (v : Option Value) (h : Heap) (L : List Loc) : Prop := v = some (.ref a0) ∧ Fr n0 L ∧ Keep h0 h [a0, sb, b] ∧ Exa Z h a0 "latentrace/io/JsonWriter" ∧ Fld Z h a0 "latentrace/io/JsonWriter" "text" "Ljava/lang/StringBuilder;" (.ref sb) ∧ Fld Z h a0 "latentrace/io/JsonWriter" "afterValue" "Z" (.int (0 : Int32)) ∧ Exa Z h sb "java/lang/StringBuilder" ∧ Fld Z h sb "java/lang/AbstractStringBuilder" "value" "[B" (.ref b) ∧ Fld Z h sb "java/lang/AbstractStringBuilder" "coder" "B" (.int (0 : Int32)) ∧ Fld Z h sb "java/lang/AbstractStringBuilder" "count" "I" (.int (c + (1 : Int32))) ∧ Arv Z h b k .byte (16 : Int32) (vs.set (c).toNatClampNeg (.int (nar .byte ((123 : Int32).toInt8.toInt32)))) (.int (0 : Int32))
set_option maxRecDepth 65536 in
set_option maxHeartbeats 40000000 in
theorem rm_beginObject (l : Launch) (Z : State) (aw : Array Value) (hw : ∀ d ∈ tables_1, d.before aw Z = true) (ws : List Jvm.Cond) (a0 : Addr) (sb : Addr) (b : Addr) (k : ClassId) (c : Int32) (vs : List Value) (cs : Int32) (h0 : Heap) (n0 : Nat) (Z0 : n0 ≤ h0.size) (EJ : Exa Z h0 a0 "latentrace/io/JsonWriter") (gJ : n0 ≤ a0) (Ft : Fld Z h0 a0 "latentrace/io/JsonWriter" "text" "Ljava/lang/StringBuilder;" (.ref sb)) (Fa : Fld Z h0 a0 "latentrace/io/JsonWriter" "afterValue" "Z" (.int (0 : Int32))) (E0 : Exa Z h0 sb "java/lang/StringBuilder") (g0 : n0 ≤ sb) (Fv : Fld Z h0 sb "java/lang/AbstractStringBuilder" "value" "[B" (.ref b)) (Fk : Fld Z h0 sb "java/lang/AbstractStringBuilder" "coder" "B" (.int (0 : Int32))) (Fn : Fld Z h0 sb "java/lang/AbstractStringBuilder" "count" "I" (.int c)) (V0 : Arv Z h0 b k .byte (16 : Int32) vs (.int (0 : Int32))) (gb : n0 ≤ b) (S0 : Sta Z h0 "java/lang/String" "COMPACT_STRINGS" "Z" (.int cs)) (hcap : ¬ ((0 : Int32) < ((c + (1 : Int32)) - (16 : Int32)))) (hc0 : ¬ c < 0 ∧ c < (16 : Int32)) (hlen : c.toNatClampNeg < vs.length) (hcs : ¬ (cs = (0 : Int32))) :
    MetFree l (⟨"latentrace/io/JsonWriter", "beginObject", "()Llatentrace/io/JsonWriter;"⟩ : MethodName) (head1 (Jvm.Cond.code (⟨"latentrace/io/JsonWriter", "beginObject", "()Llatentrace/io/JsonWriter;"⟩ : MethodName) prog_20_method_2_code 1 (some (.object "latentrace/io/JsonWriter")) :: ws) ({ frames := 4, cells := 0, slots := 0, locals := 53 } : Room)) (fun a U => a = #[(.ref a0)] ∧ Z.Warmed39 U.vm ∧ U.heap = h0) (fun _ _ _ _ _ => True) (fun _ U o U' => ∃ v L, o = .returned v ∧ Q_rm_beginObject Z a0 sb b k c vs cs h0 n0 v U'.heap L ∧ FrameEnd U o U' L ({ frames := 4, cells := 0, slots := 0, locals := 53 } : Room).cells ({ frames := 4, cells := 0, slots := 0, locals := 53 } : Room).slots) := by
  refine MetFree.of_bodySF (plainFor_of_name pn_latentrace_io_JsonWriter) hisR ?_
  intro p e s m args below meth cd s₁ Bd hml0 hP hK
  obtain ⟨rfl, hZ, hh⟩ := hP
  have hx := Bd.exec
  have hby := Bd.bytes
  have hml : cd.maxLocals = 1 := hml0
  have hown : s.vm.findClass "latentrace/io/JsonWriter" = some m.cls := findClass_of_methodNamed Bd.named
  have hnm := (name_of_methodNamed Bd.named Bd.method).1
  have X0 : Stand p l e ({ frames := 4, cells := 0, slots := 0, locals := 53 } : Room) s m #[(.ref a0)] below meth cd s₁ [] 0 0 := Stand.of_body Bd
  have e0 : s₁.heap = h0 := by rw [← hh, Bd.state]; rfl
  have N0 := Fr.nil n0
  have pre0 : ∀ t, Steps p.tables e below (s₁.setTop (mkF m 0 #[.val (.ref a0)] [])) t → Steps p.tables e below (s₁.setTop (entryFrame m #[(.ref a0)] 1)) t := fun t k => castTop (ef_rm_beginObject m a0) k
  obtain ⟨cq1, q1, q1'⟩ := EJ.cell
  obtain ⟨_, _, ⟨T1, L1, k1, n1⟩, -, X1, ⟨Lc1, hQ1, l1, y1, z1⟩, st1⟩ := X0.privateBack hx (y := (⟨"latentrace/io/JsonWriter", "open", "(C)Llatentrace/io/JsonWriter;"⟩ : MethodName)) hown (mvT hZ (hw _ (List.mem_of_getElem? (i := 180) rfl))) (mvT hZ (hw _ (List.mem_of_getElem? (i := 181) rfl))) (own_sel hZ (hw _ (List.mem_of_getElem? (i := 2) rfl)) (hw _ (List.mem_of_getElem? (i := 182) rfl)) (hw _ (List.mem_of_getElem? (i := 181) rfl)) (by decide)) (Cond.privateMethod_at (mvP hZ (hw _ (List.mem_of_getElem? (i := 182) rfl)) (args := #[]))) (mvT hZ (hw _ (List.mem_of_getElem? (i := 183) rfl))) (by decide) (backOf (W := 0) (rmOpen l Z aw hw [] a0 (123 : Int32) sb b k c vs  cs h0 n0 Z0 EJ gJ Ft Fa E0 g0 Fv Fk Fn V0 gb  S0 hcap (by decide) hc0 hlen hcs) hZ (hw _ (List.mem_of_getElem? (i := 183) rfl)) (hw _ (List.mem_of_getElem? (i := 3) rfl)) (by decide) (by decide)) (g := (mkF m 3 #[.val (.ref a0)] [(.int (123 : Int32)), (.ref a0)])) rfl (by rw [hml]; rfl) (Steps.refl _) (a := a0) (by rw [e0]; exact q1) q1' (argsL := [(.int (123 : Int32))]) (rest := []) (lenOf pd__C_Llatentrace_io_JsonWriter_ rfl) rfl (by show 2 * 0 + _ ≤ _; exact Nat.le_of_eq rfl) (hb hby d_prog_20_method_2_3) (fun _ _ => ⟨rfl, e0, (by decide : 0 + 0 ≤ _), (by decide : 0 + 0 ≤ _)⟩)
  dsimp only [Pt.U, Pt.locs, Pt.cells, Pt.slots] at X1 l1 y1 z1 st1 hQ1
  subst l1 y1 z1
  obtain ⟨rfl, N1q, Kc1, Ej1, Ft1, Fa1, Ec1, Fv1, Fk1, Fn1, Vb1⟩ := hQ1
  have N1 := Fr.app N0 N1q
  have S0__1 := own_sta_keep S0 Kc1 (nsS (EJ.nostat) (nsS (E0.nostat) (nsS (V0.nostat) ns0)))
  have KK1 : Keep h0 T1.heap [a0, sb, b] := Keep.trans (Keep.refl h0 [a0, sb, b]) Kc1 (fun x q => by simp only [List.mem_cons, List.not_mem_nil, or_false] at q; rcases q with rfl | rfl | rfl <;> first | exact (Or.inl (List.mem_of_getElem? (i := 0) rfl)) | exact (Or.inl (List.mem_of_getElem? (i := 1) rfl)) | exact (Or.inl (List.mem_of_getElem? (i := 2) rfl)))
  have Zs1 : n0 ≤ T1.heap.size := Nat.le_trans Z0 Kc1.1
  obtain ⟨fs, hr, hrun, hended, hW, hsame⟩ := X1.leave (v := some (.ref a0)) (fun h => by rw [Bd.returns] at h; cases h)
  refine ⟨_, _, pre0 _ ?_, hrun, hended, _, _, rfl, ?_, ⟨_, rfl⟩, hW, hsame.mono (by decide) (by decide)⟩
  · show Steps p.tables e below (s₁.setTop (mkF m 0 #[.val (.ref a0)] [])) _
    refine XS.aloadN X0.here hx rfl (hb hby d_prog_20_method_2_0) rfl rfl ?_
    show Steps p.tables e below (s₁.setTop (mkF m 1 #[.val (.ref a0)] [(.ref a0)])) _
    refine XS.bipush X0.here hx rfl (hb hby d_prog_20_method_2_1) ?_
    show Steps p.tables e below (s₁.setTop (mkF m 3 #[.val (.ref a0)] [(.int (123 : Int32)), (.ref a0)])) _
    refine st1.trans ?_
    show Steps p.tables e below (T1.setTop (mkF m 6 #[.val (.ref a0)] [(.ref a0)])) _
    jvm_step X1.here [X1.here.top, hx, (hb hby d_prog_20_method_2_6), X1.method', Bd.returns, Value.isRef, FieldType.isReference]
    first | (intro acts; rw [hr _ acts rfl rfl rfl]) | rw [hr _ _ rfl rfl rfl]
    exact Steps.refl _
  · show Q_rm_beginObject Z a0 sb b k c vs cs h0 n0 _ T1.heap _
    exact ⟨rfl, N1, KK1, Ej1, Ft1, Fa1, Ec1, Fv1, Fk1, Fn1, Vb1⟩
theorem d_prog_20_method_5_0 : decode prog_20_method_5_code 0 = .ok (.aload_n 0, 1) := by decide +kernel
theorem d_prog_20_method_5_1 : decode prog_20_method_5_code 1 = .ok (.bipush 93, 2) := by decide +kernel
theorem d_prog_20_method_5_3 : decode prog_20_method_5_code 3 = .ok (.invokevirtual 20, 3) := by decide +kernel
theorem d_prog_20_method_5_6 : decode prog_20_method_5_code 6 = .ok (.areturn, 1) := by decide +kernel
theorem ef_rm_endArray (m : MethodId) (a0 : Addr) : entryFrame m #[(.ref a0)] 1 = mkF m 0 #[.val (.ref a0)] [] := by first | (simp [entryFrame, mkF, argsToLocals, Value.category]; done) | rfl
def Q_rm_endArray (Z : State) (a0 : Addr) (sb : Addr) (b : Addr) (k : ClassId) (c : Int32) (vs : List Value) (cs : Int32) (h0 : Heap) (n0 : Nat) (v : Option Value) (h : Heap) (L : List Loc) : Prop := v = some (.ref a0) ∧ Fr n0 L ∧ Keep h0 h [a0, sb, b] ∧ Exa Z h a0 "latentrace/io/JsonWriter" ∧ Fld Z h a0 "latentrace/io/JsonWriter" "text" "Ljava/lang/StringBuilder;" (.ref sb) ∧ Fld Z h a0 "latentrace/io/JsonWriter" "afterValue" "Z" (.int (1 : Int32)) ∧ Exa Z h sb "java/lang/StringBuilder" ∧ Fld Z h sb "java/lang/AbstractStringBuilder" "value" "[B" (.ref b) ∧ Fld Z h sb "java/lang/AbstractStringBuilder" "coder" "B" (.int (0 : Int32)) ∧ Fld Z h sb "java/lang/AbstractStringBuilder" "count" "I" (.int (c + (1 : Int32))) ∧ Arv Z h b k .byte (16 : Int32) (vs.set (c).toNatClampNeg (.int (nar .byte ((93 : Int32).toInt8.toInt32)))) (.int (0 : Int32))
set_option maxRecDepth 65536 in
set_option maxHeartbeats 40000000 in
theorem rm_endArray (l : Launch) (Z : State) (aw : Array Value) (hw : ∀ d ∈ tables_1, d.before aw Z = true) (ws : List Jvm.Cond) (a0 : Addr) (sb : Addr) (b : Addr) (k : ClassId) (c : Int32) (vs : List Value) (cs : Int32) (h0 : Heap) (n0 : Nat) (Z0 : n0 ≤ h0.size) (EJ : Exa Z h0 a0 "latentrace/io/JsonWriter") (gJ : n0 ≤ a0) (Ft : Fld Z h0 a0 "latentrace/io/JsonWriter" "text" "Ljava/lang/StringBuilder;" (.ref sb)) (Fa : Fld Z h0 a0 "latentrace/io/JsonWriter" "afterValue" "Z" (.int (0 : Int32))) (E0 : Exa Z h0 sb "java/lang/StringBuilder") (g0 : n0 ≤ sb) (Fv : Fld Z h0 sb "java/lang/AbstractStringBuilder" "value" "[B" (.ref b)) (Fk : Fld Z h0 sb "java/lang/AbstractStringBuilder" "coder" "B" (.int (0 : Int32))) (Fn : Fld Z h0 sb "java/lang/AbstractStringBuilder" "count" "I" (.int c)) (V0 : Arv Z h0 b k .byte (16 : Int32) vs (.int (0 : Int32))) (gb : n0 ≤ b) (S0 : Sta Z h0 "java/lang/String" "COMPACT_STRINGS" "Z" (.int cs)) (hcap : ¬ ((0 : Int32) < ((c + (1 : Int32)) - (16 : Int32)))) (hc0 : ¬ c < 0 ∧ c < (16 : Int32)) (hlen : c.toNatClampNeg < vs.length) (hcs : ¬ (cs = (0 : Int32))) :
    MetFree l (⟨"latentrace/io/JsonWriter", "endArray", "()Llatentrace/io/JsonWriter;"⟩ : MethodName) (head1 (Jvm.Cond.code (⟨"latentrace/io/JsonWriter", "endArray", "()Llatentrace/io/JsonWriter;"⟩ : MethodName) prog_20_method_5_code 1 (some (.object "latentrace/io/JsonWriter")) :: ws) ({ frames := 4, cells := 0, slots := 0, locals := 53 } : Room)) (fun a U => a = #[(.ref a0)] ∧ Z.Warmed39 U.vm ∧ U.heap = h0) (fun _ _ _ _ _ => True) (fun _ U o U' => ∃ v L, o = .returned v ∧ Q_rm_endArray Z a0 sb b k c vs cs h0 n0 v U'.heap L ∧ FrameEnd U o U' L ({ frames := 4, cells := 0, slots := 0, locals := 53 } : Room).cells ({ frames := 4, cells := 0, slots := 0, locals := 53 } : Room).slots) := by
  refine MetFree.of_bodySF (plainFor_of_name pn_latentrace_io_JsonWriter) hisR ?_
  intro p e s m args below meth cd s₁ Bd hml0 hP hK
  obtain ⟨rfl, hZ, hh⟩ := hP
  have hx := Bd.exec
  have hby := Bd.bytes
  have hml : cd.maxLocals = 1 := hml0
  have hown : s.vm.findClass "latentrace/io/JsonWriter" = some m.cls := findClass_of_methodNamed Bd.named
  have hnm := (name_of_methodNamed Bd.named Bd.method).1
  have X0 : Stand p l e ({ frames := 4, cells := 0, slots := 0, locals := 53 } : Room) s m #[(.ref a0)] below meth cd s₁ [] 0 0 := Stand.of_body Bd
  have e0 : s₁.heap = h0 := by rw [← hh, Bd.state]; rfl
  have N0 := Fr.nil n0
  have pre0 : ∀ t, Steps p.tables e below (s₁.setTop (mkF m 0 #[.val (.ref a0)] [])) t → Steps p.tables e below (s₁.setTop (entryFrame m #[(.ref a0)] 1)) t := fun t k => castTop (ef_rm_endArray m a0) k
  obtain ⟨cq1, q1, q1'⟩ := EJ.cell
  obtain ⟨_, _, ⟨T1, L1, k1, n1⟩, -, X1, ⟨Lc1, hQ1, l1, y1, z1⟩, st1⟩ := X0.privateBack hx (y := (⟨"latentrace/io/JsonWriter", "close", "(C)Llatentrace/io/JsonWriter;"⟩ : MethodName)) hown (mvT hZ (hw _ (List.mem_of_getElem? (i := 238) rfl))) (mvT hZ (hw _ (List.mem_of_getElem? (i := 239) rfl))) (own_sel hZ (hw _ (List.mem_of_getElem? (i := 2) rfl)) (hw _ (List.mem_of_getElem? (i := 240) rfl)) (hw _ (List.mem_of_getElem? (i := 239) rfl)) (by decide)) (Cond.privateMethod_at (mvP hZ (hw _ (List.mem_of_getElem? (i := 240) rfl)) (args := #[]))) (mvT hZ (hw _ (List.mem_of_getElem? (i := 241) rfl))) (by decide) (backOf (W := 0) (rmClose l Z aw hw [] a0 (93 : Int32) sb b k c vs  cs h0 n0 Z0 EJ gJ Ft Fa E0 g0 Fv Fk Fn V0 gb  S0 hcap (by decide) hc0 hlen hcs) hZ (hw _ (List.mem_of_getElem? (i := 241) rfl)) (hw _ (List.mem_of_getElem? (i := 3) rfl)) (by decide) (by decide)) (g := (mkF m 3 #[.val (.ref a0)] [(.int (93 : Int32)), (.ref a0)])) rfl (by rw [hml]; rfl) (Steps.refl _) (a := a0) (by rw [e0]; exact q1) q1' (argsL := [(.int (93 : Int32))]) (rest := []) (lenOf pd__C_Llatentrace_io_JsonWriter_ rfl) rfl (by show 2 * 0 + _ ≤ _; exact Nat.le_of_eq rfl) (hb hby d_prog_20_method_5_3) (fun _ _ => ⟨rfl, e0, (by decide : 0 + 0 ≤ _), (by decide : 0 + 0 ≤ _)⟩)
  dsimp only [Pt.U, Pt.locs, Pt.cells, Pt.slots] at X1 l1 y1 z1 st1 hQ1
  subst l1 y1 z1
  obtain ⟨rfl, N1q, Kc1, Ej1, Ft1, Fa1, Ec1, Fv1, Fk1, Fn1, Vb1⟩ := hQ1
  have N1 := Fr.app N0 N1q
  have S0__1 := own_sta_keep S0 Kc1 (nsS (EJ.nostat) (nsS (E0.nostat) (nsS (V0.nostat) ns0)))
  have KK1 : Keep h0 T1.heap [a0, sb, b] := Keep.trans (Keep.refl h0 [a0, sb, b]) Kc1 (fun x q => by simp only [List.mem_cons, List.not_mem_nil, or_false] at q; rcases q with rfl | rfl | rfl <;> first | exact (Or.inl (List.mem_of_getElem? (i := 0) rfl)) | exact (Or.inl (List.mem_of_getElem? (i := 1) rfl)) | exact (Or.inl (List.mem_of_getElem? (i := 2) rfl)))
  have Zs1 : n0 ≤ T1.heap.size := Nat.le_trans Z0 Kc1.1
  obtain ⟨fs, hr, hrun, hended, hW, hsame⟩ := X1.leave (v := some (.ref a0)) (fun h => by rw [Bd.returns] at h; cases h)
  refine ⟨_, _, pre0 _ ?_, hrun, hended, _, _, rfl, ?_, ⟨_, rfl⟩, hW, hsame.mono (by decide) (by decide)⟩
  · show Steps p.tables e below (s₁.setTop (mkF m 0 #[.val (.ref a0)] [])) _
    refine XS.aloadN X0.here hx rfl (hb hby d_prog_20_method_5_0) rfl rfl ?_
    show Steps p.tables e below (s₁.setTop (mkF m 1 #[.val (.ref a0)] [(.ref a0)])) _
    refine XS.bipush X0.here hx rfl (hb hby d_prog_20_method_5_1) ?_
    show Steps p.tables e below (s₁.setTop (mkF m 3 #[.val (.ref a0)] [(.int (93 : Int32)), (.ref a0)])) _
    refine st1.trans ?_
    show Steps p.tables e below (T1.setTop (mkF m 6 #[.val (.ref a0)] [(.ref a0)])) _
    jvm_step X1.here [X1.here.top, hx, (hb hby d_prog_20_method_5_6), X1.method', Bd.returns, Value.isRef, FieldType.isReference]
    first | (intro acts; rw [hr _ acts rfl rfl rfl]) | rw [hr _ _ rfl rfl rfl]
    exact Steps.refl _
  · show Q_rm_endArray Z a0 sb b k c vs cs h0 n0 _ T1.heap _
    exact ⟨rfl, N1, KK1, Ej1, Ft1, Fa1, Ec1, Fv1, Fk1, Fn1, Vb1⟩
theorem d_prog_20_method_11_0 : decode prog_20_method_11_code 0 = .ok (.aload_n 0, 1) := by decide +kernel
theorem d_prog_20_method_11_1 : decode prog_20_method_11_code 1 = .ok (.invokevirtual 23, 3) := by decide +kernel
theorem d_prog_20_method_11_4 : decode prog_20_method_11_code 4 = .ok (.aload_n 0, 1) := by decide +kernel
theorem d_prog_20_method_11_5 : decode prog_20_method_11_code 5 = .ok (.getfield 10, 3) := by decide +kernel
theorem d_prog_20_method_11_8 : decode prog_20_method_11_code 8 = .ok (.ldc 75, 2) := by decide +kernel
theorem d_prog_20_method_11_10 : decode prog_20_method_11_code 10 = .ok (.invokevirtual 77, 3) := by decide +kernel
theorem d_prog_20_method_11_13 : decode prog_20_method_11_code 13 = .ok (.pop, 1) := by decide +kernel
theorem d_prog_20_method_11_14 : decode prog_20_method_11_code 14 = .ok (.aload_n 0, 1) := by decide +kernel
theorem d_prog_20_method_11_15 : decode prog_20_method_11_code 15 = .ok (.iconst 1, 1) := by decide +kernel
theorem d_prog_20_method_11_16 : decode prog_20_method_11_code 16 = .ok (.putfield 34, 3) := by decide +kernel
theorem d_prog_20_method_11_19 : decode prog_20_method_11_code 19 = .ok (.aload_n 0, 1) := by decide +kernel
theorem d_prog_20_method_11_20 : decode prog_20_method_11_code 20 = .ok (.areturn, 1) := by decide +kernel
theorem pd__Ljava_lang_String__Ljava_lang_StringBuilder_ : parseMethodDescriptor "(Ljava/lang/String;)Ljava/lang/StringBuilder;" = some ⟨[(.object "java/lang/String")], some (.object "java/lang/StringBuilder")⟩ := by decide +kernel
theorem ef_rmNull0 (m : MethodId) (a0 : Addr) : entryFrame m #[(.ref a0)] 1 = mkF m 0 #[.val (.ref a0)] [] := by first | (simp [entryFrame, mkF, argsToLocals, Value.category]; done) | rfl
def Q_rmNull0 (Z : State) (a0 : Addr) (sb : Addr) (b : Addr) (k : ClassId) (c : Int32) (vs : List Value) (cs : Int32) (h0 : Heap) (n0 : Nat) (v : Option Value) (h : Heap) (L : List Loc) : Prop := v = some (.ref a0) ∧ Fr n0 L ∧ Keep h0 h [a0, sb, b] ∧ Exa Z h a0 "latentrace/io/JsonWriter" ∧ Fld Z h a0 "latentrace/io/JsonWriter" "text" "Ljava/lang/StringBuilder;" (.ref sb) ∧ Fld Z h a0 "latentrace/io/JsonWriter" "afterValue" "Z" (.int (1 : Int32)) ∧ Exa Z h sb "java/lang/StringBuilder" ∧ Fld Z h sb "java/lang/AbstractStringBuilder" "value" "[B" (.ref b) ∧ Fld Z h sb "java/lang/AbstractStringBuilder" "coder" "B" (.int (0 : Int32)) ∧ Fld Z h sb "java/lang/AbstractStringBuilder" "count" "I" (.int (c + (4 : Int32))) ∧ Arv Z h b k .byte (16 : Int32) (vs.take (c).toNatClampNeg ++ [(.int (110 : Int32)), (.int (117 : Int32)), (.int (108 : Int32)), (.int (108 : Int32))] ++ vs.drop ((c).toNatClampNeg + ((4 : Int32)).toNatClampNeg)) (.int (0 : Int32))
set_option maxRecDepth 65536 in
set_option maxHeartbeats 40000000 in
theorem rmNull0 (l : Launch) (Z : State) (aw : Array Value) (hw : ∀ d ∈ tables_1, d.before aw Z = true) (ws : List Jvm.Cond) (a0 : Addr) (sb : Addr) (b : Addr) (k : ClassId) (c : Int32) (vs : List Value) (cs : Int32) (h0 : Heap) (n0 : Nat) (Z0 : n0 ≤ h0.size) (EJ : Exa Z h0 a0 "latentrace/io/JsonWriter") (gJ : n0 ≤ a0) (Ft : Fld Z h0 a0 "latentrace/io/JsonWriter" "text" "Ljava/lang/StringBuilder;" (.ref sb)) (Fa : Fld Z h0 a0 "latentrace/io/JsonWriter" "afterValue" "Z" (.int (0 : Int32))) (E0 : Exa Z h0 sb "java/lang/StringBuilder") (g0 : n0 ≤ sb) (Fv : Fld Z h0 sb "java/lang/AbstractStringBuilder" "value" "[B" (.ref b)) (Fk : Fld Z h0 sb "java/lang/AbstractStringBuilder" "coder" "B" (.int (0 : Int32))) (Fn : Fld Z h0 sb "java/lang/AbstractStringBuilder" "count" "I" (.int c)) (V0 : Arv Z h0 b k .byte (16 : Int32) vs (.int (0 : Int32))) (gb : n0 ≤ b) (S0 : Sta Z h0 "java/lang/String" "COMPACT_STRINGS" "Z" (.int cs)) (hc0 : ¬ c < 0) (h5 : (c).toNatClampNeg + (4 : Int32).toNatClampNeg ≤ (16 : Int32).toNatClampNeg) (hl : (c).toNatClampNeg + (4 : Int32).toNatClampNeg ≤ vs.length) (hcap : ¬ ((0 : Int32) < ((c + (4 : Int32)) - (16 : Int32)))) (hcs : ¬ (cs = (0 : Int32))) :
    MetFree l (⟨"latentrace/io/JsonWriter", "nullValue", "()Llatentrace/io/JsonWriter;"⟩ : MethodName) (head1 (Jvm.Cond.code (⟨"latentrace/io/JsonWriter", "nullValue", "()Llatentrace/io/JsonWriter;"⟩ : MethodName) prog_20_method_11_code 1 (some (.object "latentrace/io/JsonWriter")) :: ws) ({ frames := 5, cells := 2, slots := 20, locals := 87 } : Room)) (fun a U => a = #[(.ref a0)] ∧ Z.Warmed39 U.vm ∧ U.heap = h0 ∧ CHv Z consts_1 U.vm h0) (fun _ _ _ _ _ => True) (fun _ U o U' => ∃ v L, o = .returned v ∧ Q_rmNull0 Z a0 sb b k c vs cs h0 n0 v U'.heap L ∧ CHr Z consts_1 U.vm U.heap U'.vm U'.heap ∧ ReturnedEndW U o U' L ({ frames := 5, cells := 2, slots := 20, locals := 87 } : Room).cells ({ frames := 5, cells := 2, slots := 20, locals := 87 } : Room).slots) := by
  refine MetFree.of_bodySF (plainFor_of_name pn_latentrace_io_JsonWriter) hisR ?_
  intro p e s m args below meth cd s₁ Bd hml0 hP hK
  obtain ⟨rfl, hZ, hh, hCH⟩ := hP
  have hx := Bd.exec
  have hby := Bd.bytes
  have hml : cd.maxLocals = 1 := hml0
  have hown : s.vm.findClass "latentrace/io/JsonWriter" = some m.cls := findClass_of_methodNamed Bd.named
  have hnm := (name_of_methodNamed Bd.named Bd.method).1
  have X0 : Stand p l e ({ frames := 5, cells := 2, slots := 20, locals := 87 } : Room) (s.setVm s.vm) m #[(.ref a0)] below meth cd s₁ [] 0 0 := Stand.of_body Bd
  have e0 : s₁.heap = h0 := by rw [← hh, Bd.state]; rfl
  have N0 := Fr.nil n0
  have pre0 : ∀ t, Steps p.tables e below (s₁.setTop (mkF m 0 #[.val (.ref a0)] [])) t → Steps p.tables e below (s₁.setTop (entryFrame m #[(.ref a0)] 1)) t := fun t k => castTop (ef_rmNull0 m a0) k
  have hZ_0 := hZ
  have hown_0 := hown
  have hS0 : s.Since s.vm 0 := (State.WarmedH.refl s).since 0
  have hk0 : 0 ≤ h0.size := Nat.zero_le _
  have R0 : CHr Z consts_1 s.vm h0 s.vm h0 := CHr.refl hCH
  obtain ⟨cq1, q1, q1'⟩ := EJ.cell
  obtain ⟨_, _, ⟨T1, L1, k1, n1⟩, -, X1, ⟨Lc1, hQ1, l1, y1, z1⟩, st1⟩ := X0.privateBack hx (y := (⟨"latentrace/io/JsonWriter", "separate", "()V"⟩ : MethodName)) hown (mvT hZ (hw _ (List.mem_of_getElem? (i := 43) rfl))) (mvT hZ (hw _ (List.mem_of_getElem? (i := 44) rfl))) (own_sel hZ (hw _ (List.mem_of_getElem? (i := 2) rfl)) (hw _ (List.mem_of_getElem? (i := 45) rfl)) (hw _ (List.mem_of_getElem? (i := 44) rfl)) (by decide)) (Cond.privateMethod_at (mvP hZ (hw _ (List.mem_of_getElem? (i := 45) rfl)) (args := #[]))) (mvT hZ (hw _ (List.mem_of_getElem? (i := 46) rfl))) (by decide) (backOf (W := 0) (rmSep0 l Z aw hw [] a0 h0 n0 Z0 Fa) hZ (hw _ (List.mem_of_getElem? (i := 46) rfl)) (hw _ (List.mem_of_getElem? (i := 3) rfl)) (by decide) (by decide)) (g := (mkF m 1 #[.val (.ref a0)] [(.ref a0)])) rfl (by rw [hml]; rfl) (Steps.refl _) (a := a0) (by rw [e0]; exact q1) q1' (argsL := []) (rest := []) (lenOf pd___V rfl) rfl (by show 2 * 0 + _ ≤ _; exact Nat.le_of_eq rfl) (hb hby d_prog_20_method_11_1) (fun _ _ => ⟨rfl, e0, (by decide : 0 + 0 ≤ _), (by decide : 0 + 0 ≤ _)⟩)
  dsimp only [Pt.U, Pt.locs, Pt.cells, Pt.slots] at X1 l1 y1 z1 st1 hQ1
  subst l1 y1 z1
  obtain ⟨rfl, N1q, q1⟩ := hQ1
  have N1 := Fr.app N0 N1q
  obtain ⟨T2, X2, e2, st2⟩ := getF X1 hx hZ hown (host := "") (Or.inl (hw _ (List.mem_of_getElem? (i := 30) rfl))) Via.refl q1 Ft (g := (mkF m 5 #[.val (.ref a0)] [(.ref a0)])) rfl rfl (hb hby d_prog_20_method_11_5)
  obtain ⟨a3, T3, h3, k3, d3, kd3, X3, e3, E3, hS3, hk3, hZ, hown, Es3, Sk3, Sv3, W3, la3, lb3, Rl3, -, -, st3⟩ := ldcCH X2 hx hZ hown (hw _ (List.mem_of_getElem? (i := 49) rfl)) (own_strs hw) e2 hS0 hk0 (own_ew hw) (List.mem_of_getElem? (i := 0) rfl) R0.1 (vs := [(.int (110 : Int32)), (.int (117 : Int32)), (.int (108 : Int32)), (.int (108 : Int32))]) (z := (4 : Int32)) ⟨by decide, by rfl⟩ (by decide) (by decide) (g := (mkF m 8 #[.val (.ref a0)] [(.ref sb)])) rfl (hb hby d_prog_20_method_11_8) (n := 16) (by decide) (by decide) (by decide) (by decide)
  have hZ_3 := hZ
  have hown_3 := hown
  have S0__3 := S0.ext E3
  have EJ__3 := EJ.ext E3
  have Ft__3 := Ft.ext E3
  have Fa__3 := Fa.ext E3
  have E0__3 := E0.ext E3
  have Fv__3 := Fv.ext E3
  have Fk__3 := Fk.ext E3
  have Fn__3 := Fn.ext E3
  have V0__3 := V0.ext E3
  have K3 : Keep h0 h3 [a0, sb, b] := (Keep.refl h0 [a0, sb, b]).ext E3
  have Zs3 : n0 ≤ h3.size := Nat.le_trans Z0 E3.1
  have R3 := R0.trans Rl3
  obtain ⟨cq4, kq4, q4a, q4b, q4c⟩ := isOf hZ e3 E0__3
  obtain ⟨_, _, ⟨T4, L4, k4, n4⟩, -, X4, ⟨Lc4, hQ4, l4, y4, z4⟩, st4⟩ := X3.virtualBack hx (y := (⟨"java/lang/StringBuilder", "append", "(Ljava/lang/String;)Ljava/lang/StringBuilder;"⟩ : MethodName)) (z := (⟨"java/lang/StringBuilder", "append", "(Ljava/lang/String;)Ljava/lang/StringBuilder;"⟩ : MethodName)) hown (mvT hZ (hw _ (List.mem_of_getElem? (i := 50) rfl))) (mvT hZ (hw _ (List.mem_of_getElem? (i := 51) rfl))) (notFace_of_selects (args := #[]) (mvT hZ (hw _ (List.mem_of_getElem? (i := 53) rfl)))) (mvT hZ (hw _ (List.mem_of_getElem? (i := 53) rfl))) (mvT hZ (hw _ (List.mem_of_getElem? (i := 52) rfl))) (by decide) (backOf (W := 0) (rmSS l Z aw hw [] sb a3 b k c vs d3 kd3 (4 : Int32) [(.int (110 : Int32)), (.int (117 : Int32)), (.int (108 : Int32)), (.int (108 : Int32))] cs h3 n0 Zs3 E0__3 g0 Fv__3 Fk__3 Fn__3 V0__3 gb Es3 Sk3 Sv3 W3 S0__3 (by decide) hc0 h5 hl (by first | rfl | decide) (arv_ne W3 V0__3 (Or.inl (by decide))) hcap hcs) hZ (hw _ (List.mem_of_getElem? (i := 54) rfl)) (hw _ (List.mem_of_getElem? (i := 12) rfl)) (by decide) (by decide)) q4a q4c (g := (mkF m 10 #[.val (.ref a0)] [(.ref a3), (.ref sb)])) rfl (by rw [hml]; rfl) (Steps.refl _) (argsL := [(.ref a3)]) (rest := []) (lenOf pd__Ljava_lang_String__Ljava_lang_StringBuilder_ rfl) rfl (by show 2 * 0 + _ ≤ _; exact Nat.le_of_eq rfl) (hb hby d_prog_20_method_11_10) (fun _ _ => ⟨rfl, e3, (by decide : 2 + 0 ≤ _), (by decide : 20 + 0 ≤ _)⟩)
  dsimp only [Pt.U, Pt.locs, Pt.cells, Pt.slots] at X4 l4 y4 z4 st4 hQ4
  subst l4 y4 z4
  obtain ⟨rfl, N4q, Kc4, Ec4, Fv4, Fk4, Fn4, Vb4⟩ := hQ4
  have N4 := Fr.app N1 N4q
  have S0__4 := own_sta_keep S0__3 Kc4 (nsS (E0__3.nostat) (nsS (V0__3.nostat) ns0))
  have EJ__4 := EJ__3.keep Kc4
  have Ft__4 := Ft__3.keep Kc4 (by simp only [List.mem_cons, List.not_mem_nil, or_false, not_or]; exact ⟨(ne_exa EJ__3 E0__3 (by decide)), (EJ__3.neArv V0__3 (hw _ (List.mem_of_getElem? (i := 2) rfl)))⟩)
  have Fa__4 := Fa__3.keep Kc4 (by simp only [List.mem_cons, List.not_mem_nil, or_false, not_or]; exact ⟨(ne_exa EJ__3 E0__3 (by decide)), (EJ__3.neArv V0__3 (hw _ (List.mem_of_getElem? (i := 2) rfl)))⟩)
  have Es3__4 := Es3.keep Kc4
  have Sk3__4 := Sk3.keep Kc4 (by simp only [List.mem_cons, List.not_mem_nil, or_false, not_or]; exact ⟨(ne_exa Es3 E0__3 (by decide)), (Es3.neArv V0__3 (hw _ (List.mem_of_getElem? (i := 33) rfl)))⟩)
  have Sv3__4 := Sv3.keep Kc4 (by simp only [List.mem_cons, List.not_mem_nil, or_false, not_or]; exact ⟨(ne_exa Es3 E0__3 (by decide)), (Es3.neArv V0__3 (hw _ (List.mem_of_getElem? (i := 33) rfl)))⟩)
  have W3__4 := W3.keep Kc4 (by simp only [List.mem_cons, List.not_mem_nil, or_false, not_or]; exact ⟨(Ne.symm (E0__3.neArv W3 (hw _ (List.mem_of_getElem? (i := 11) rfl)))), (arv_ne W3 V0__3 (Or.inl (by decide)))⟩)
  have KK4 : Keep h0 T4.heap [a0, sb, b] := Keep.trans K3 Kc4 (fun x q => by simp only [List.mem_cons, List.not_mem_nil, or_false] at q; rcases q with rfl | rfl <;> first | exact (Or.inl (List.mem_of_getElem? (i := 1) rfl)) | exact (Or.inl (List.mem_of_getElem? (i := 2) rfl)))
  have Zs4 : n0 ≤ T4.heap.size := Nat.le_trans Zs3 Kc4.1
  have R4 := R3.trans (CHr.keep Kc4 (sfS (Safe.exa hZ.alike E0__3 (by decide) (by decide)) (sfS (own_safe hw hZ V0__3) sf0)) R3.1)
  have hk4 := Nat.le_trans hk3 Kc4.1
  obtain ⟨T5, h5, X5, e5, W5, st5⟩ := putFN X4 hx hZ hown (hw _ (List.mem_of_getElem? (i := 47) rfl)) Via.refl rfl Fa__4 EJ__4 (Or.inl (hw _ (List.mem_of_getElem? (i := 48) rfl))) (hw _ (List.mem_of_getElem? (i := 2) rfl)) (ty := .boolean) (v' := (.int (1 : Int32))) (by decide) (by decide) (by decide) (g := (mkF m 16 #[.val (.ref a0)] [(.int (1 : Int32)), (.ref a0)])) rfl rfl (hb hby d_prog_20_method_11_16)
  have S0__5 := S0__4.wr W5
  have EJ__5 := EJ__4.wr W5
  have Ft__5 := Ft__4.other W5 (Or.inr (slot_ne (Or.inr (hw _ (List.mem_of_getElem? (i := 31) rfl))) (Or.inl (hw _ (List.mem_of_getElem? (i := 48) rfl))) (by decide) (t := (.object "java/lang/StringBuilder")) (t' := .boolean) (by decide) (by decide)))
  have Fa__5 := Fa__4.same W5
  have Es3__5 := Es3__4.wr W5
  have Sk3__5 := Sk3__4.other W5 (Or.inl (ne_exa Es3__4 EJ__4 (by decide)))
  have Sv3__5 := Sv3__4.other W5 (Or.inl (ne_exa Es3__4 EJ__4 (by decide)))
  have W3__5 := W3__4.other W5 (Ne.symm (EJ__4.neArv W3__4 (hw _ (List.mem_of_getElem? (i := 2) rfl))))
  have Ec4__5 := Ec4.wr W5
  have Fv4__5 := Fv4.other W5 (Or.inl (ne_exa Ec4 EJ__4 (by decide)))
  have Fk4__5 := Fk4.other W5 (Or.inl (ne_exa Ec4 EJ__4 (by decide)))
  have Fn4__5 := Fn4.other W5 (Or.inl (ne_exa Ec4 EJ__4 (by decide)))
  have Vb4__5 := Vb4.other W5 (Ne.symm (EJ__4.neArv Vb4 (hw _ (List.mem_of_getElem? (i := 2) rfl))))
  have K5 : Keep h0 h5 [a0, sb, b] := KK4.wr W5 (Or.inl (List.mem_of_getElem? (i := 0) rfl))
  have Zs5 : n0 ≤ h5.size := Nat.le_trans Zs4 (Keep.of_wr W5).1
  have hk5 := Nat.le_trans hk4 (Keep.of_wr W5).1
  have R5 := R4.trans (CHr.wr W5 (Safe.exa hZ.alike EJ__4 (by decide) (by decide)) R4.1)
  have N5 := Fr.snoc X5 N4 gJ
  obtain ⟨fs, hr, hrun, hended, hRW⟩ := X5.leaveW hS3 (by rw [e5]; exact hk5) (v := some (.ref a0)) (fun h => by rw [Bd.returns] at h; cases h)
  have hRR : CHr Z consts_1 s.vm s.heap (T5.setFrames fs).vm (T5.setFrames fs).heap := by
    rw [hh]
    show CHr Z consts_1 s.vm h0 T5.vm T5.heap
    rw [e5]
    exact R5.trans (CHv.at X5 hZ (own_ew hw) R5.1)
  refine ⟨_, _, pre0 _ ?_, hrun, hended, _, _, rfl, ?_, hRR, hRW.1, hRW.2.1, hRW.2.2.1, hRW.2.2.2.mono (by decide) (by decide)⟩
  · show Steps p.tables e below (s₁.setTop (mkF m 0 #[.val (.ref a0)] [])) _
    refine XS.aloadN X0.here hx rfl (hb hby d_prog_20_method_11_0) rfl rfl ?_
    show Steps p.tables e below (s₁.setTop (mkF m 1 #[.val (.ref a0)] [(.ref a0)])) _
    refine st1.trans ?_
    show Steps p.tables e below (T1.setTop (mkF m 4 #[.val (.ref a0)] [])) _
    refine XS.aloadN X1.here hx rfl (hb hby d_prog_20_method_11_4) rfl rfl ?_
    show Steps p.tables e below (T1.setTop (mkF m 5 #[.val (.ref a0)] [(.ref a0)])) _
    refine st2 _ ?_
    show Steps p.tables e below (T2.setTop (mkF m 8 #[.val (.ref a0)] [(.ref sb)])) _
    refine st3 _ ?_
    show Steps p.tables e below (T3.setTop (mkF m 10 #[.val (.ref a0)] [(.ref a3), (.ref sb)])) _
    refine st4.trans ?_
    show Steps p.tables e below (T4.setTop (mkF m 13 #[.val (.ref a0)] [(.ref sb)])) _
    refine XS.pop X4.here hx rfl (hb hby d_prog_20_method_11_13) rfl rfl ?_
    show Steps p.tables e below (T4.setTop (mkF m 14 #[.val (.ref a0)] [])) _
    refine XS.aloadN X4.here hx rfl (hb hby d_prog_20_method_11_14) rfl rfl ?_
    show Steps p.tables e below (T4.setTop (mkF m 15 #[.val (.ref a0)] [(.ref a0)])) _
    refine XS.iconst X4.here hx rfl (hb hby d_prog_20_method_11_15) ?_
    show Steps p.tables e below (T4.setTop (mkF m 16 #[.val (.ref a0)] [(.int (1 : Int32)), (.ref a0)])) _
    refine st5 _ ?_
    show Steps p.tables e below (T5.setTop (mkF m 19 #[.val (.ref a0)] [])) _
    refine XS.aloadN X5.here hx rfl (hb hby d_prog_20_method_11_19) rfl rfl ?_
    show Steps p.tables e below (T5.setTop (mkF m 20 #[.val (.ref a0)] [(.ref a0)])) _
    jvm_step X5.here [X5.here.top, hx, (hb hby d_prog_20_method_11_20), X5.method', Bd.returns, Value.isRef, FieldType.isReference]
    first | (intro acts; rw [hr _ acts rfl rfl rfl]) | rw [hr _ _ rfl rfl rfl]
    exact Steps.refl _
  · show Q_rmNull0 Z a0 sb b k c vs cs h0 n0 _ T5.heap _
    rw [e5]
    exact ⟨rfl, N5, K5, EJ__5, Ft__5, Fa__5, Ec4__5, Fv4__5, Fk4__5, Fn4__5, Vb4__5⟩
theorem ef_rmNull1 (m : MethodId) (a0 : Addr) : entryFrame m #[(.ref a0)] 1 = mkF m 0 #[.val (.ref a0)] [] := by first | (simp [entryFrame, mkF, argsToLocals, Value.category]; done) | rfl
def Q_rmNull1 (Z : State) (a0 : Addr) (sb : Addr) (b : Addr) (k : ClassId) (c : Int32) (vs : List Value) (cs : Int32) (h0 : Heap) (n0 : Nat) (v : Option Value) (h : Heap) (L : List Loc) : Prop := v = some (.ref a0) ∧ Fr n0 L ∧ Keep h0 h [a0, sb, b] ∧ Exa Z h a0 "latentrace/io/JsonWriter" ∧ Fld Z h a0 "latentrace/io/JsonWriter" "text" "Ljava/lang/StringBuilder;" (.ref sb) ∧ Fld Z h a0 "latentrace/io/JsonWriter" "afterValue" "Z" (.int (1 : Int32)) ∧ Exa Z h sb "java/lang/StringBuilder" ∧ Fld Z h sb "java/lang/AbstractStringBuilder" "value" "[B" (.ref b) ∧ Fld Z h sb "java/lang/AbstractStringBuilder" "coder" "B" (.int (0 : Int32)) ∧ Fld Z h sb "java/lang/AbstractStringBuilder" "count" "I" (.int ((c + (1 : Int32)) + (4 : Int32))) ∧ Arv Z h b k .byte (16 : Int32) ((vs.set (c).toNatClampNeg (.int (nar .byte ((44 : Int32).toInt8.toInt32)))).take ((c + (1 : Int32))).toNatClampNeg ++ [(.int (110 : Int32)), (.int (117 : Int32)), (.int (108 : Int32)), (.int (108 : Int32))] ++ (vs.set (c).toNatClampNeg (.int (nar .byte ((44 : Int32).toInt8.toInt32)))).drop (((c + (1 : Int32))).toNatClampNeg + ((4 : Int32)).toNatClampNeg)) (.int (0 : Int32))
set_option maxRecDepth 65536 in
set_option maxHeartbeats 40000000 in
theorem rmNull1 (l : Launch) (Z : State) (aw : Array Value) (hw : ∀ d ∈ tables_1, d.before aw Z = true) (ws : List Jvm.Cond) (a0 : Addr) (sb : Addr) (b : Addr) (k : ClassId) (c : Int32) (vs : List Value) (cs : Int32) (h0 : Heap) (n0 : Nat) (Z0 : n0 ≤ h0.size) (EJ : Exa Z h0 a0 "latentrace/io/JsonWriter") (gJ : n0 ≤ a0) (Ft : Fld Z h0 a0 "latentrace/io/JsonWriter" "text" "Ljava/lang/StringBuilder;" (.ref sb)) (Fa : Fld Z h0 a0 "latentrace/io/JsonWriter" "afterValue" "Z" (.int (1 : Int32))) (E0 : Exa Z h0 sb "java/lang/StringBuilder") (g0 : n0 ≤ sb) (Fv : Fld Z h0 sb "java/lang/AbstractStringBuilder" "value" "[B" (.ref b)) (Fk : Fld Z h0 sb "java/lang/AbstractStringBuilder" "coder" "B" (.int (0 : Int32))) (Fn : Fld Z h0 sb "java/lang/AbstractStringBuilder" "count" "I" (.int c)) (V0 : Arv Z h0 b k .byte (16 : Int32) vs (.int (0 : Int32))) (gb : n0 ≤ b) (S0 : Sta Z h0 "java/lang/String" "COMPACT_STRINGS" "Z" (.int cs)) (hcap1 : ¬ ((0 : Int32) < ((c + (1 : Int32)) - (16 : Int32)))) (hc01 : ¬ c < 0 ∧ c < (16 : Int32)) (hlen1 : c.toNatClampNeg < vs.length) (hc0 : ¬ (c + (1 : Int32)) < 0) (h5 : ((c + (1 : Int32))).toNatClampNeg + (4 : Int32).toNatClampNeg ≤ (16 : Int32).toNatClampNeg) (hl : ((c + (1 : Int32))).toNatClampNeg + (4 : Int32).toNatClampNeg ≤ (vs.set (c).toNatClampNeg (.int (nar .byte ((44 : Int32).toInt8.toInt32)))).length) (hcap : ¬ ((0 : Int32) < (((c + (1 : Int32)) + (4 : Int32)) - (16 : Int32)))) (hcs : ¬ (cs = (0 : Int32))) :
    MetFree l (⟨"latentrace/io/JsonWriter", "nullValue", "()Llatentrace/io/JsonWriter;"⟩ : MethodName) (head1 (Jvm.Cond.code (⟨"latentrace/io/JsonWriter", "nullValue", "()Llatentrace/io/JsonWriter;"⟩ : MethodName) prog_20_method_11_code 1 (some (.object "latentrace/io/JsonWriter")) :: ws) ({ frames := 5, cells := 2, slots := 20, locals := 87 } : Room)) (fun a U => a = #[(.ref a0)] ∧ Z.Warmed39 U.vm ∧ U.heap = h0 ∧ CHv Z consts_1 U.vm h0) (fun _ _ _ _ _ => True) (fun _ U o U' => ∃ v L, o = .returned v ∧ Q_rmNull1 Z a0 sb b k c vs cs h0 n0 v U'.heap L ∧ CHr Z consts_1 U.vm U.heap U'.vm U'.heap ∧ ReturnedEndW U o U' L ({ frames := 5, cells := 2, slots := 20, locals := 87 } : Room).cells ({ frames := 5, cells := 2, slots := 20, locals := 87 } : Room).slots) := by
  refine MetFree.of_bodySF (plainFor_of_name pn_latentrace_io_JsonWriter) hisR ?_
  intro p e s m args below meth cd s₁ Bd hml0 hP hK
  obtain ⟨rfl, hZ, hh, hCH⟩ := hP
  have hx := Bd.exec
  have hby := Bd.bytes
  have hml : cd.maxLocals = 1 := hml0
  have hown : s.vm.findClass "latentrace/io/JsonWriter" = some m.cls := findClass_of_methodNamed Bd.named
  have hnm := (name_of_methodNamed Bd.named Bd.method).1
  have X0 : Stand p l e ({ frames := 5, cells := 2, slots := 20, locals := 87 } : Room) (s.setVm s.vm) m #[(.ref a0)] below meth cd s₁ [] 0 0 := Stand.of_body Bd
  have e0 : s₁.heap = h0 := by rw [← hh, Bd.state]; rfl
  have N0 := Fr.nil n0
  have pre0 : ∀ t, Steps p.tables e below (s₁.setTop (mkF m 0 #[.val (.ref a0)] [])) t → Steps p.tables e below (s₁.setTop (entryFrame m #[(.ref a0)] 1)) t := fun t k => castTop (ef_rmNull1 m a0) k
  have hZ_0 := hZ
  have hown_0 := hown
  have hS0 : s.Since s.vm 0 := (State.WarmedH.refl s).since 0
  have hk0 : 0 ≤ h0.size := Nat.zero_le _
  have R0 : CHr Z consts_1 s.vm h0 s.vm h0 := CHr.refl hCH
  obtain ⟨cq1, q1, q1'⟩ := EJ.cell
  obtain ⟨_, _, ⟨T1, L1, k1, n1⟩, -, X1, ⟨Lc1, hQ1, l1, y1, z1⟩, st1⟩ := X0.privateBack hx (y := (⟨"latentrace/io/JsonWriter", "separate", "()V"⟩ : MethodName)) hown (mvT hZ (hw _ (List.mem_of_getElem? (i := 43) rfl))) (mvT hZ (hw _ (List.mem_of_getElem? (i := 44) rfl))) (own_sel hZ (hw _ (List.mem_of_getElem? (i := 2) rfl)) (hw _ (List.mem_of_getElem? (i := 45) rfl)) (hw _ (List.mem_of_getElem? (i := 44) rfl)) (by decide)) (Cond.privateMethod_at (mvP hZ (hw _ (List.mem_of_getElem? (i := 45) rfl)) (args := #[]))) (mvT hZ (hw _ (List.mem_of_getElem? (i := 46) rfl))) (by decide) (backOf (W := 0) (rmSep1 l Z aw hw [] a0  sb b k c vs  cs h0 n0 Z0 EJ gJ Ft Fa E0 g0 Fv Fk Fn V0 gb  S0 hcap1 hc01 hlen1 hcs) hZ (hw _ (List.mem_of_getElem? (i := 46) rfl)) (hw _ (List.mem_of_getElem? (i := 3) rfl)) (by decide) (by decide)) (g := (mkF m 1 #[.val (.ref a0)] [(.ref a0)])) rfl (by rw [hml]; rfl) (Steps.refl _) (a := a0) (by rw [e0]; exact q1) q1' (argsL := []) (rest := []) (lenOf pd___V rfl) rfl (by show 2 * 0 + _ ≤ _; exact Nat.le_of_eq rfl) (hb hby d_prog_20_method_11_1) (fun _ _ => ⟨rfl, e0, (by decide : 0 + 0 ≤ _), (by decide : 0 + 0 ≤ _)⟩)
  dsimp only [Pt.U, Pt.locs, Pt.cells, Pt.slots] at X1 l1 y1 z1 st1 hQ1
  subst l1 y1 z1
  obtain ⟨rfl, N1q, Kc1, Ej1, Ft1, Fa1, Ec1, Fv1, Fk1, Fn1, Vb1⟩ := hQ1
  have N1 := Fr.app N0 N1q
  have S0__1 := own_sta_keep S0 Kc1 (nsS (EJ.nostat) (nsS (E0.nostat) (nsS (V0.nostat) ns0)))
  have KK1 : Keep h0 T1.heap [a0, sb, b] := Keep.trans (Keep.refl h0 [a0, sb, b]) Kc1 (fun x q => by simp only [List.mem_cons, List.not_mem_nil, or_false] at q; rcases q with rfl | rfl | rfl <;> first | exact (Or.inl (List.mem_of_getElem? (i := 0) rfl)) | exact (Or.inl (List.mem_of_getElem? (i := 1) rfl)) | exact (Or.inl (List.mem_of_getElem? (i := 2) rfl)))
  have Zs1 : n0 ≤ T1.heap.size := Nat.le_trans Z0 Kc1.1
  have R1 := R0.trans (CHr.keep Kc1 (sfS (Safe.exa hZ.alike EJ (by decide) (by decide)) (sfS (Safe.exa hZ.alike E0 (by decide) (by decide)) (sfS (own_safe hw hZ V0) sf0))) R0.1)
  have hk1 := Nat.le_trans hk0 Kc1.1
  obtain ⟨T2, X2, e2, st2⟩ := getF X1 hx hZ hown (host := "") (Or.inl (hw _ (List.mem_of_getElem? (i := 30) rfl))) Via.refl rfl Ft1 (g := (mkF m 5 #[.val (.ref a0)] [(.ref a0)])) rfl rfl (hb hby d_prog_20_method_11_5)
  obtain ⟨a3, T3, h3, k3, d3, kd3, X3, e3, E3, hS3, hk3, hZ, hown, Es3, Sk3, Sv3, W3, la3, lb3, Rl3, -, -, st3⟩ := ldcCH X2 hx hZ hown (hw _ (List.mem_of_getElem? (i := 49) rfl)) (own_strs hw) e2 hS0 hk1 (own_ew hw) (List.mem_of_getElem? (i := 0) rfl) R1.1 (vs := [(.int (110 : Int32)), (.int (117 : Int32)), (.int (108 : Int32)), (.int (108 : Int32))]) (z := (4 : Int32)) ⟨by decide, by rfl⟩ (by decide) (by decide) (g := (mkF m 8 #[.val (.ref a0)] [(.ref sb)])) rfl (hb hby d_prog_20_method_11_8) (n := 16) (by decide) (by decide) (by decide) (by decide)
  have hZ_3 := hZ
  have hown_3 := hown
  have S0__3 := S0__1.ext E3
  have Ec1__3 := Ec1.ext E3
  have Fv1__3 := Fv1.ext E3
  have Fk1__3 := Fk1.ext E3
  have Fn1__3 := Fn1.ext E3
  have Vb1__3 := Vb1.ext E3
  have Ej1__3 := Ej1.ext E3
  have Ft1__3 := Ft1.ext E3
  have Fa1__3 := Fa1.ext E3
  have K3 : Keep h0 h3 [a0, sb, b] := KK1.ext E3
  have Zs3 : n0 ≤ h3.size := Nat.le_trans Zs1 E3.1
  have R3 := R1.trans Rl3
  obtain ⟨cq4, kq4, q4a, q4b, q4c⟩ := isOf hZ e3 Ec1__3
  obtain ⟨_, _, ⟨T4, L4, k4, n4⟩, -, X4, ⟨Lc4, hQ4, l4, y4, z4⟩, st4⟩ := X3.virtualBack hx (y := (⟨"java/lang/StringBuilder", "append", "(Ljava/lang/String;)Ljava/lang/StringBuilder;"⟩ : MethodName)) (z := (⟨"java/lang/StringBuilder", "append", "(Ljava/lang/String;)Ljava/lang/StringBuilder;"⟩ : MethodName)) hown (mvT hZ (hw _ (List.mem_of_getElem? (i := 50) rfl))) (mvT hZ (hw _ (List.mem_of_getElem? (i := 51) rfl))) (notFace_of_selects (args := #[]) (mvT hZ (hw _ (List.mem_of_getElem? (i := 53) rfl)))) (mvT hZ (hw _ (List.mem_of_getElem? (i := 53) rfl))) (mvT hZ (hw _ (List.mem_of_getElem? (i := 52) rfl))) (by decide) (backOf (W := 0) (rmSS l Z aw hw [] sb a3 b k (c + (1 : Int32)) (vs.set (c).toNatClampNeg (.int (nar .byte ((44 : Int32).toInt8.toInt32)))) d3 kd3 (4 : Int32) [(.int (110 : Int32)), (.int (117 : Int32)), (.int (108 : Int32)), (.int (108 : Int32))] cs h3 n0 Zs3 Ec1__3 g0 Fv1__3 Fk1__3 Fn1__3 Vb1__3 gb Es3 Sk3 Sv3 W3 S0__3 (by decide) hc0 h5 hl (by first | rfl | decide) (arv_ne W3 Vb1__3 (Or.inl (by decide))) hcap hcs) hZ (hw _ (List.mem_of_getElem? (i := 54) rfl)) (hw _ (List.mem_of_getElem? (i := 12) rfl)) (by decide) (by decide)) q4a q4c (g := (mkF m 10 #[.val (.ref a0)] [(.ref a3), (.ref sb)])) rfl (by rw [hml]; rfl) (Steps.refl _) (argsL := [(.ref a3)]) (rest := []) (lenOf pd__Ljava_lang_String__Ljava_lang_StringBuilder_ rfl) rfl (by show 2 * 0 + _ ≤ _; exact Nat.le_of_eq rfl) (hb hby d_prog_20_method_11_10) (fun _ _ => ⟨rfl, e3, (by decide : 2 + 0 ≤ _), (by decide : 20 + 0 ≤ _)⟩)
  dsimp only [Pt.U, Pt.locs, Pt.cells, Pt.slots] at X4 l4 y4 z4 st4 hQ4
  subst l4 y4 z4
  obtain ⟨rfl, N4q, Kc4, Ec4, Fv4, Fk4, Fn4, Vb4⟩ := hQ4
  have N4 := Fr.app N1 N4q
  have S0__4 := own_sta_keep S0__3 Kc4 (nsS (Ec1__3.nostat) (nsS (Vb1__3.nostat) ns0))
  have Ej1__4 := Ej1__3.keep Kc4
  have Ft1__4 := Ft1__3.keep Kc4 (by simp only [List.mem_cons, List.not_mem_nil, or_false, not_or]; exact ⟨(ne_exa Ej1__3 Ec1__3 (by decide)), (Ej1__3.neArv Vb1__3 (hw _ (List.mem_of_getElem? (i := 2) rfl)))⟩)
  have Fa1__4 := Fa1__3.keep Kc4 (by simp only [List.mem_cons, List.not_mem_nil, or_false, not_or]; exact ⟨(ne_exa Ej1__3 Ec1__3 (by decide)), (Ej1__3.neArv Vb1__3 (hw _ (List.mem_of_getElem? (i := 2) rfl)))⟩)
  have Es3__4 := Es3.keep Kc4
  have Sk3__4 := Sk3.keep Kc4 (by simp only [List.mem_cons, List.not_mem_nil, or_false, not_or]; exact ⟨(ne_exa Es3 Ec1__3 (by decide)), (Es3.neArv Vb1__3 (hw _ (List.mem_of_getElem? (i := 33) rfl)))⟩)
  have Sv3__4 := Sv3.keep Kc4 (by simp only [List.mem_cons, List.not_mem_nil, or_false, not_or]; exact ⟨(ne_exa Es3 Ec1__3 (by decide)), (Es3.neArv Vb1__3 (hw _ (List.mem_of_getElem? (i := 33) rfl)))⟩)
  have W3__4 := W3.keep Kc4 (by simp only [List.mem_cons, List.not_mem_nil, or_false, not_or]; exact ⟨(Ne.symm (Ec1__3.neArv W3 (hw _ (List.mem_of_getElem? (i := 11) rfl)))), (arv_ne W3 Vb1__3 (Or.inl (by decide)))⟩)
  have KK4 : Keep h0 T4.heap [a0, sb, b] := Keep.trans K3 Kc4 (fun x q => by simp only [List.mem_cons, List.not_mem_nil, or_false] at q; rcases q with rfl | rfl <;> first | exact (Or.inl (List.mem_of_getElem? (i := 1) rfl)) | exact (Or.inl (List.mem_of_getElem? (i := 2) rfl)))
  have Zs4 : n0 ≤ T4.heap.size := Nat.le_trans Zs3 Kc4.1
  have R4 := R3.trans (CHr.keep Kc4 (sfS (Safe.exa hZ.alike Ec1__3 (by decide) (by decide)) (sfS (own_safe hw hZ Vb1__3) sf0)) R3.1)
  have hk4 := Nat.le_trans hk3 Kc4.1
  obtain ⟨T5, h5, X5, e5, W5, st5⟩ := putFN X4 hx hZ hown (hw _ (List.mem_of_getElem? (i := 47) rfl)) Via.refl rfl Fa1__4 Ej1__4 (Or.inl (hw _ (List.mem_of_getElem? (i := 48) rfl))) (hw _ (List.mem_of_getElem? (i := 2) rfl)) (ty := .boolean) (v' := (.int (1 : Int32))) (by decide) (by decide) (by decide) (g := (mkF m 16 #[.val (.ref a0)] [(.int (1 : Int32)), (.ref a0)])) rfl rfl (hb hby d_prog_20_method_11_16)
  have S0__5 := S0__4.wr W5
  have Ej1__5 := Ej1__4.wr W5
  have Ft1__5 := Ft1__4.other W5 (Or.inr (slot_ne (Or.inr (hw _ (List.mem_of_getElem? (i := 31) rfl))) (Or.inl (hw _ (List.mem_of_getElem? (i := 48) rfl))) (by decide) (t := (.object "java/lang/StringBuilder")) (t' := .boolean) (by decide) (by decide)))
  have Fa1__5 := Fa1__4.same W5
  have Es3__5 := Es3__4.wr W5
  have Sk3__5 := Sk3__4.other W5 (Or.inl (ne_exa Es3__4 Ej1__4 (by decide)))
  have Sv3__5 := Sv3__4.other W5 (Or.inl (ne_exa Es3__4 Ej1__4 (by decide)))
  have W3__5 := W3__4.other W5 (Ne.symm (Ej1__4.neArv W3__4 (hw _ (List.mem_of_getElem? (i := 2) rfl))))
  have Ec4__5 := Ec4.wr W5
  have Fv4__5 := Fv4.other W5 (Or.inl (ne_exa Ec4 Ej1__4 (by decide)))
  have Fk4__5 := Fk4.other W5 (Or.inl (ne_exa Ec4 Ej1__4 (by decide)))
  have Fn4__5 := Fn4.other W5 (Or.inl (ne_exa Ec4 Ej1__4 (by decide)))
  have Vb4__5 := Vb4.other W5 (Ne.symm (Ej1__4.neArv Vb4 (hw _ (List.mem_of_getElem? (i := 2) rfl))))
  have K5 : Keep h0 h5 [a0, sb, b] := KK4.wr W5 (Or.inl (List.mem_of_getElem? (i := 0) rfl))
  have Zs5 : n0 ≤ h5.size := Nat.le_trans Zs4 (Keep.of_wr W5).1
  have hk5 := Nat.le_trans hk4 (Keep.of_wr W5).1
  have R5 := R4.trans (CHr.wr W5 (Safe.exa hZ.alike Ej1__4 (by decide) (by decide)) R4.1)
  have N5 := Fr.snoc X5 N4 gJ
  obtain ⟨fs, hr, hrun, hended, hRW⟩ := X5.leaveW hS3 (by rw [e5]; exact hk5) (v := some (.ref a0)) (fun h => by rw [Bd.returns] at h; cases h)
  have hRR : CHr Z consts_1 s.vm s.heap (T5.setFrames fs).vm (T5.setFrames fs).heap := by
    rw [hh]
    show CHr Z consts_1 s.vm h0 T5.vm T5.heap
    rw [e5]
    exact R5.trans (CHv.at X5 hZ (own_ew hw) R5.1)
  refine ⟨_, _, pre0 _ ?_, hrun, hended, _, _, rfl, ?_, hRR, hRW.1, hRW.2.1, hRW.2.2.1, hRW.2.2.2.mono (by decide) (by decide)⟩
  · show Steps p.tables e below (s₁.setTop (mkF m 0 #[.val (.ref a0)] [])) _
    refine XS.aloadN X0.here hx rfl (hb hby d_prog_20_method_11_0) rfl rfl ?_
    show Steps p.tables e below (s₁.setTop (mkF m 1 #[.val (.ref a0)] [(.ref a0)])) _
    refine st1.trans ?_
    show Steps p.tables e below (T1.setTop (mkF m 4 #[.val (.ref a0)] [])) _
    refine XS.aloadN X1.here hx rfl (hb hby d_prog_20_method_11_4) rfl rfl ?_
    show Steps p.tables e below (T1.setTop (mkF m 5 #[.val (.ref a0)] [(.ref a0)])) _
    refine st2 _ ?_
    show Steps p.tables e below (T2.setTop (mkF m 8 #[.val (.ref a0)] [(.ref sb)])) _
    refine st3 _ ?_
    show Steps p.tables e below (T3.setTop (mkF m 10 #[.val (.ref a0)] [(.ref a3), (.ref sb)])) _
    refine st4.trans ?_
    show Steps p.tables e below (T4.setTop (mkF m 13 #[.val (.ref a0)] [(.ref sb)])) _
    refine XS.pop X4.here hx rfl (hb hby d_prog_20_method_11_13) rfl rfl ?_
    show Steps p.tables e below (T4.setTop (mkF m 14 #[.val (.ref a0)] [])) _
    refine XS.aloadN X4.here hx rfl (hb hby d_prog_20_method_11_14) rfl rfl ?_
    show Steps p.tables e below (T4.setTop (mkF m 15 #[.val (.ref a0)] [(.ref a0)])) _
    refine XS.iconst X4.here hx rfl (hb hby d_prog_20_method_11_15) ?_
    show Steps p.tables e below (T4.setTop (mkF m 16 #[.val (.ref a0)] [(.int (1 : Int32)), (.ref a0)])) _
    refine st5 _ ?_
    show Steps p.tables e below (T5.setTop (mkF m 19 #[.val (.ref a0)] [])) _
    refine XS.aloadN X5.here hx rfl (hb hby d_prog_20_method_11_19) rfl rfl ?_
    show Steps p.tables e below (T5.setTop (mkF m 20 #[.val (.ref a0)] [(.ref a0)])) _
    jvm_step X5.here [X5.here.top, hx, (hb hby d_prog_20_method_11_20), X5.method', Bd.returns, Value.isRef, FieldType.isReference]
    first | (intro acts; rw [hr _ acts rfl rfl rfl]) | rw [hr _ _ rfl rfl rfl]
    exact Steps.refl _
  · show Q_rmNull1 Z a0 sb b k c vs cs h0 n0 _ T5.heap _
    rw [e5]
    exact ⟨rfl, N5, K5, Ej1__5, Ft1__5, Fa1__5, Ec4__5, Fv4__5, Fk4__5, Fn4__5, Vb4__5⟩
theorem d_jdk_41_method_11_0 : decode jdk_41_method_11_code 0 = .ok (.iload_n 0, 1) := by decide +kernel
theorem d_jdk_41_method_11_1 : decode jdk_41_method_11_code 1 = .ok (.ifCond .lt 8, 3) := by decide +kernel
theorem d_jdk_41_method_11_4 : decode jdk_41_method_11_code 4 = .ok (.iload_n 0, 1) := by decide +kernel
theorem d_jdk_41_method_11_5 : decode jdk_41_method_11_code 5 = .ok (.iload_n 1, 1) := by decide +kernel
theorem d_jdk_41_method_11_6 : decode jdk_41_method_11_code 6 = .ok (.if_icmp .lt 10, 3) := by decide +kernel
theorem d_jdk_41_method_11_16 : decode jdk_41_method_11_code 16 = .ok (.iload_n 0, 1) := by decide +kernel
theorem d_jdk_41_method_11_17 : decode jdk_41_method_11_code 17 = .ok (.ireturn, 1) := by decide +kernel
theorem pn_jdk_internal_util_Preconditions : plainName "jdk/internal/util/Preconditions" = true := by first | (simp [plainName, overriddenIn]; done) | decide +kernel
theorem ef_rmPck_n (m : MethodId)  : entryFrame m #[(.int (0 : Int32)), (.int (1 : Int32)), .null] 3 = mkF m 0 #[.val (.int (0 : Int32)), .val (.int (1 : Int32)), .val .null] [] := by first | (simp [entryFrame, mkF, argsToLocals, Value.category]; done) | rfl
def Q_rmPck_n (Z : State)  (h0 : Heap) (n0 : Nat) (v : Option Value) (h : Heap) (L : List Loc) : Prop := v = some (.int (0 : Int32)) ∧ Fr n0 L ∧ h = h0
set_option maxRecDepth 65536 in
set_option maxHeartbeats 40000000 in
theorem rmPck_n (l : Launch) (Z : State) (aw : Array Value) (hw : ∀ d ∈ tables_1, d.before aw Z = true) (ws : List Jvm.Cond)  (h0 : Heap) (n0 : Nat) (Z0 : n0 ≤ h0.size) :
    MetFree l (⟨"jdk/internal/util/Preconditions", "checkIndex", "(IILjava/util/function/BiFunction;)I"⟩ : MethodName) (head1 (Jvm.Cond.code (⟨"jdk/internal/util/Preconditions", "checkIndex", "(IILjava/util/function/BiFunction;)I"⟩ : MethodName) jdk_41_method_11_code 3 (some .int) :: ws) ({ frames := 0, cells := 0, slots := 0, locals := 0 } : Room)) (fun a U => a = #[(.int (0 : Int32)), (.int (1 : Int32)), .null] ∧ Z.Warmed39 U.vm ∧ U.heap = h0) (fun _ _ _ _ _ => True) (fun _ U o U' => ∃ v L, o = .returned v ∧ Q_rmPck_n Z  h0 n0 v U'.heap L ∧ FrameEnd U o U' L ({ frames := 0, cells := 0, slots := 0, locals := 0 } : Room).cells ({ frames := 0, cells := 0, slots := 0, locals := 0 } : Room).slots) := by
  refine MetFree.of_bodySF (plainFor_of_name pn_jdk_internal_util_Preconditions) hisR ?_
  intro p e s m args below meth cd s₁ Bd hml0 hP hK
  obtain ⟨rfl, hZ, hh⟩ := hP
  have hx := Bd.exec
  have hby := Bd.bytes
  have hml : cd.maxLocals = 3 := hml0
  have hown : s.vm.findClass "jdk/internal/util/Preconditions" = some m.cls := findClass_of_methodNamed Bd.named
  have hnm := (name_of_methodNamed Bd.named Bd.method).1
  have X0 : Stand p l e ({ frames := 0, cells := 0, slots := 0, locals := 0 } : Room) s m #[(.int (0 : Int32)), (.int (1 : Int32)), .null] below meth cd s₁ [] 0 0 := Stand.of_body Bd
  have e0 : s₁.heap = h0 := by rw [← hh, Bd.state]; rfl
  have N0 := Fr.nil n0
  have pre0 : ∀ t, Steps p.tables e below (s₁.setTop (mkF m 0 #[.val (.int (0 : Int32)), .val (.int (1 : Int32)), .val .null] [])) t → Steps p.tables e below (s₁.setTop (entryFrame m #[(.int (0 : Int32)), (.int (1 : Int32)), .null] 3)) t := fun t k => castTop (ef_rmPck_n m ) k
  obtain ⟨fs, hr, hrun, hended, hW, hsame⟩ := X0.leave (v := some (.int (0 : Int32))) (fun h => by rw [Bd.returns] at h; cases h)
  refine ⟨_, _, pre0 _ ?_, hrun, hended, _, _, rfl, ?_, ⟨_, rfl⟩, hW, hsame.mono (by decide) (by decide)⟩
  · show Steps p.tables e below (s₁.setTop (mkF m 0 #[.val (.int (0 : Int32)), .val (.int (1 : Int32)), .val .null] [])) _
    refine XS.iloadN X0.here hx rfl (hb hby d_jdk_41_method_11_0) rfl ?_
    show Steps p.tables e below (s₁.setTop (mkF m 1 #[.val (.int (0 : Int32)), .val (.int (1 : Int32)), .val .null] [(.int (0 : Int32))])) _
    refine XS.ifNo X0.here hx rfl (hb hby d_jdk_41_method_11_1) rfl ((if0 _ _).trans (flt (by decide : ¬ ((0 : Int32) < (0 : Int32)))).1) ?_
    show Steps p.tables e below (s₁.setTop (mkF m 4 #[.val (.int (0 : Int32)), .val (.int (1 : Int32)), .val .null] [])) _
    refine XS.iloadN X0.here hx rfl (hb hby d_jdk_41_method_11_4) rfl ?_
    show Steps p.tables e below (s₁.setTop (mkF m 5 #[.val (.int (0 : Int32)), .val (.int (1 : Int32)), .val .null] [(.int (0 : Int32))])) _
    refine XS.iloadN X0.here hx rfl (hb hby d_jdk_41_method_11_5) rfl ?_
    show Steps p.tables e below (s₁.setTop (mkF m 6 #[.val (.int (0 : Int32)), .val (.int (1 : Int32)), .val .null] [(.int (1 : Int32)), (.int (0 : Int32))])) _
    refine XS.icmpYes X0.here hx rfl (pc0 := 6) (pc' := 16) rfl (hb hby d_jdk_41_method_11_6) rfl (tlt (by decide : (0 : Int32) < (1 : Int32))).1 (by decide) (by decide) ?_
    show Steps p.tables e below (s₁.setTop (mkF m 16 #[.val (.int (0 : Int32)), .val (.int (1 : Int32)), .val .null] [])) _
    refine XS.iloadN X0.here hx rfl (hb hby d_jdk_41_method_11_16) rfl ?_
    show Steps p.tables e below (s₁.setTop (mkF m 17 #[.val (.int (0 : Int32)), .val (.int (1 : Int32)), .val .null] [(.int (0 : Int32))])) _
    exact retI X0 hx Bd.returns (hb hby d_jdk_41_method_11_17) hr
  · show Q_rmPck_n Z  h0 n0 _ s₁.heap _
    rw [e0]
    exact ⟨rfl, N0, rfl⟩
theorem ef_rmPck_r (m : MethodId) (a2 : Addr) : entryFrame m #[(.int (0 : Int32)), (.int (1 : Int32)), (.ref a2)] 3 = mkF m 0 #[.val (.int (0 : Int32)), .val (.int (1 : Int32)), .val (.ref a2)] [] := by first | (simp [entryFrame, mkF, argsToLocals, Value.category]; done) | rfl
def Q_rmPck_r (Z : State) (a2 : Addr) (h0 : Heap) (n0 : Nat) (v : Option Value) (h : Heap) (L : List Loc) : Prop := v = some (.int (0 : Int32)) ∧ Fr n0 L ∧ h = h0
set_option maxRecDepth 65536 in
set_option maxHeartbeats 40000000 in
theorem rmPck_r (l : Launch) (Z : State) (aw : Array Value) (hw : ∀ d ∈ tables_1, d.before aw Z = true) (ws : List Jvm.Cond) (a2 : Addr) (h0 : Heap) (n0 : Nat) (Z0 : n0 ≤ h0.size) :
    MetFree l (⟨"jdk/internal/util/Preconditions", "checkIndex", "(IILjava/util/function/BiFunction;)I"⟩ : MethodName) (head1 (Jvm.Cond.code (⟨"jdk/internal/util/Preconditions", "checkIndex", "(IILjava/util/function/BiFunction;)I"⟩ : MethodName) jdk_41_method_11_code 3 (some .int) :: ws) ({ frames := 0, cells := 0, slots := 0, locals := 0 } : Room)) (fun a U => a = #[(.int (0 : Int32)), (.int (1 : Int32)), (.ref a2)] ∧ Z.Warmed39 U.vm ∧ U.heap = h0) (fun _ _ _ _ _ => True) (fun _ U o U' => ∃ v L, o = .returned v ∧ Q_rmPck_r Z a2 h0 n0 v U'.heap L ∧ FrameEnd U o U' L ({ frames := 0, cells := 0, slots := 0, locals := 0 } : Room).cells ({ frames := 0, cells := 0, slots := 0, locals := 0 } : Room).slots) := by
  refine MetFree.of_bodySF (plainFor_of_name pn_jdk_internal_util_Preconditions) hisR ?_
  intro p e s m args below meth cd s₁ Bd hml0 hP hK
  obtain ⟨rfl, hZ, hh⟩ := hP
  have hx := Bd.exec
  have hby := Bd.bytes
  have hml : cd.maxLocals = 3 := hml0
  have hown : s.vm.findClass "jdk/internal/util/Preconditions" = some m.cls := findClass_of_methodNamed Bd.named
  have hnm := (name_of_methodNamed Bd.named Bd.method).1
  have X0 : Stand p l e ({ frames := 0, cells := 0, slots := 0, locals := 0 } : Room) s m #[(.int (0 : Int32)), (.int (1 : Int32)), (.ref a2)] below meth cd s₁ [] 0 0 := Stand.of_body Bd
  have e0 : s₁.heap = h0 := by rw [← hh, Bd.state]; rfl
  have N0 := Fr.nil n0
  have pre0 : ∀ t, Steps p.tables e below (s₁.setTop (mkF m 0 #[.val (.int (0 : Int32)), .val (.int (1 : Int32)), .val (.ref a2)] [])) t → Steps p.tables e below (s₁.setTop (entryFrame m #[(.int (0 : Int32)), (.int (1 : Int32)), (.ref a2)] 3)) t := fun t k => castTop (ef_rmPck_r m a2) k
  obtain ⟨fs, hr, hrun, hended, hW, hsame⟩ := X0.leave (v := some (.int (0 : Int32))) (fun h => by rw [Bd.returns] at h; cases h)
  refine ⟨_, _, pre0 _ ?_, hrun, hended, _, _, rfl, ?_, ⟨_, rfl⟩, hW, hsame.mono (by decide) (by decide)⟩
  · show Steps p.tables e below (s₁.setTop (mkF m 0 #[.val (.int (0 : Int32)), .val (.int (1 : Int32)), .val (.ref a2)] [])) _
    refine XS.iloadN X0.here hx rfl (hb hby d_jdk_41_method_11_0) rfl ?_
    show Steps p.tables e below (s₁.setTop (mkF m 1 #[.val (.int (0 : Int32)), .val (.int (1 : Int32)), .val (.ref a2)] [(.int (0 : Int32))])) _
    refine XS.ifNo X0.here hx rfl (hb hby d_jdk_41_method_11_1) rfl ((if0 _ _).trans (flt (by decide : ¬ ((0 : Int32) < (0 : Int32)))).1) ?_
    show Steps p.tables e below (s₁.setTop (mkF m 4 #[.val (.int (0 : Int32)), .val (.int (1 : Int32)), .val (.ref a2)] [])) _
    refine XS.iloadN X0.here hx rfl (hb hby d_jdk_41_method_11_4) rfl ?_
    show Steps p.tables e below (s₁.setTop (mkF m 5 #[.val (.int (0 : Int32)), .val (.int (1 : Int32)), .val (.ref a2)] [(.int (0 : Int32))])) _
    refine XS.iloadN X0.here hx rfl (hb hby d_jdk_41_method_11_5) rfl ?_
    show Steps p.tables e below (s₁.setTop (mkF m 6 #[.val (.int (0 : Int32)), .val (.int (1 : Int32)), .val (.ref a2)] [(.int (1 : Int32)), (.int (0 : Int32))])) _
    refine XS.icmpYes X0.here hx rfl (pc0 := 6) (pc' := 16) rfl (hb hby d_jdk_41_method_11_6) rfl (tlt (by decide : (0 : Int32) < (1 : Int32))).1 (by decide) (by decide) ?_
    show Steps p.tables e below (s₁.setTop (mkF m 16 #[.val (.int (0 : Int32)), .val (.int (1 : Int32)), .val (.ref a2)] [])) _
    refine XS.iloadN X0.here hx rfl (hb hby d_jdk_41_method_11_16) rfl ?_
    show Steps p.tables e below (s₁.setTop (mkF m 17 #[.val (.int (0 : Int32)), .val (.int (1 : Int32)), .val (.ref a2)] [(.int (0 : Int32))])) _
    exact retI X0 hx Bd.returns (hb hby d_jdk_41_method_11_17) hr
  · show Q_rmPck_r Z a2 h0 n0 _ s₁.heap _
    rw [e0]
    exact ⟨rfl, N0, rfl⟩
theorem d_jdk_42_method_155_0 : decode jdk_42_method_155_code 0 = .ok (.iload_n 0, 1) := by decide +kernel
theorem d_jdk_42_method_155_1 : decode jdk_42_method_155_code 1 = .ok (.iload_n 1, 1) := by decide +kernel
theorem d_jdk_42_method_155_2 : decode jdk_42_method_155_code 2 = .ok (.getstatic 1053, 3) := by decide +kernel
theorem d_jdk_42_method_155_5 : decode jdk_42_method_155_code 5 = .ok (.invokestatic 1059, 3) := by decide +kernel
theorem d_jdk_42_method_155_8 : decode jdk_42_method_155_code 8 = .ok (.pop, 1) := by decide +kernel
theorem d_jdk_42_method_155_9 : decode jdk_42_method_155_code 9 = .ok (.return_, 1) := by decide +kernel
theorem pd__IILjava_util_function_BiFunction__I : parseMethodDescriptor "(IILjava/util/function/BiFunction;)I" = some ⟨[.int, .int, (.object "java/util/function/BiFunction")], some .int⟩ := by decide +kernel
theorem ef_rmSck_n (m : MethodId)  : entryFrame m #[(.int (0 : Int32)), (.int (1 : Int32))] 2 = mkF m 0 #[.val (.int (0 : Int32)), .val (.int (1 : Int32))] [] := by first | (simp [entryFrame, mkF, argsToLocals, Value.category]; done) | rfl
def Q_rmSck_n (Z : State)  (h0 : Heap) (n0 : Nat) (v : Option Value) (h : Heap) (L : List Loc) : Prop := v = none ∧ Fr n0 L ∧ h = h0
set_option maxRecDepth 65536 in
set_option maxHeartbeats 40000000 in
theorem rmSck_n (l : Launch) (Z : State) (aw : Array Value) (hw : ∀ d ∈ tables_1, d.before aw Z = true) (ws : List Jvm.Cond)  (h0 : Heap) (n0 : Nat) (Z0 : n0 ≤ h0.size) (SF : Sta Z h0 "jdk/internal/util/Preconditions" "SIOOBE_FORMATTER" "Ljava/util/function/BiFunction;" .null) :
    MetFree l (⟨"java/lang/String", "checkIndex", "(II)V"⟩ : MethodName) (head1 (Jvm.Cond.code (⟨"java/lang/String", "checkIndex", "(II)V"⟩ : MethodName) jdk_42_method_155_code 2 none :: ws) ({ frames := 1, cells := 0, slots := 0, locals := 14 } : Room)) (fun a U => a = #[(.int (0 : Int32)), (.int (1 : Int32))] ∧ Z.Warmed39 U.vm ∧ U.heap = h0) (fun _ _ _ _ _ => True) (fun _ U o U' => ∃ v L, o = .returned v ∧ Q_rmSck_n Z  h0 n0 v U'.heap L ∧ FrameEnd U o U' L ({ frames := 1, cells := 0, slots := 0, locals := 14 } : Room).cells ({ frames := 1, cells := 0, slots := 0, locals := 14 } : Room).slots) := by
  refine MetFree.of_bodySF (plainFor_of_name pn_java_lang_String) hisR ?_
  intro p e s m args below meth cd s₁ Bd hml0 hP hK
  obtain ⟨rfl, hZ, hh⟩ := hP
  have hx := Bd.exec
  have hby := Bd.bytes
  have hml : cd.maxLocals = 2 := hml0
  have hown : s.vm.findClass "java/lang/String" = some m.cls := findClass_of_methodNamed Bd.named
  have hnm := (name_of_methodNamed Bd.named Bd.method).1
  have X0 : Stand p l e ({ frames := 1, cells := 0, slots := 0, locals := 14 } : Room) s m #[(.int (0 : Int32)), (.int (1 : Int32))] below meth cd s₁ [] 0 0 := Stand.of_body Bd
  have e0 : s₁.heap = h0 := by rw [← hh, Bd.state]; rfl
  have N0 := Fr.nil n0
  have pre0 : ∀ t, Steps p.tables e below (s₁.setTop (mkF m 0 #[.val (.int (0 : Int32)), .val (.int (1 : Int32))] [])) t → Steps p.tables e below (s₁.setTop (entryFrame m #[(.int (0 : Int32)), (.int (1 : Int32))] 2)) t := fun t k => castTop (ef_rmSck_n m ) k
  obtain ⟨T1, X1, e1, st1⟩ := getS2 X0 hx hZ hown (host := "") (Or.inl (hw _ (List.mem_of_getElem? (i := 211) rfl))) Via.refl e0 SF (g := (mkF m 2 #[.val (.int (0 : Int32)), .val (.int (1 : Int32))] [(.int (1 : Int32)), (.int (0 : Int32))])) rfl (hb hby d_jdk_42_method_155_2)
  obtain ⟨_, _, ⟨T2, L2, k2, n2⟩, -, X2, ⟨Lc2, hQ2, l2, y2, z2⟩, st2⟩ := Jvm.LawKit.callS X1 hx (y := (⟨"jdk/internal/util/Preconditions", "checkIndex", "(IILjava/util/function/BiFunction;)I"⟩ : MethodName)) hown (mvT hZ (hw _ (List.mem_of_getElem? (i := 213) rfl))) (mvT hZ (hw _ (List.mem_of_getElem? (i := 214) rfl))) (mvT hZ (hw _ (List.mem_of_getElem? (i := 212) rfl))) (mvT hZ (hw _ (List.mem_of_getElem? (i := 215) rfl))) (by decide) (backOf (W := 0) (rmPck_n l Z aw hw []  h0 n0 Z0) hZ (hw _ (List.mem_of_getElem? (i := 215) rfl)) (hw _ (List.mem_of_getElem? (i := 212) rfl)) (by decide) (by decide)) (g := (mkF m 5 #[.val (.int (0 : Int32)), .val (.int (1 : Int32))] [.null, (.int (1 : Int32)), (.int (0 : Int32))])) rfl (by rw [hml]; rfl) (argsL := [(.int (0 : Int32)), (.int (1 : Int32)), .null]) (rest := []) (lenOf pd__IILjava_util_function_BiFunction__I rfl) rfl (by show 2 * 0 + _ ≤ _; exact Nat.le_of_eq rfl) (hb hby d_jdk_42_method_155_5) (fun _ _ => ⟨rfl, e1, (by decide : 0 + 0 ≤ _), (by decide : 0 + 0 ≤ _)⟩)
  dsimp only [Pt.U, Pt.locs, Pt.cells, Pt.slots] at X2 l2 y2 z2 st2 hQ2
  subst l2 y2 z2
  obtain ⟨rfl, N2q, q2⟩ := hQ2
  have N2 := Fr.app N0 N2q
  obtain ⟨fs, hr, hrun, hended, hW, hsame⟩ := X2.leave (v := none) (fun _ => rfl)
  refine ⟨_, _, pre0 _ ?_, hrun, hended, _, _, rfl, ?_, ⟨_, rfl⟩, hW, hsame.mono (by decide) (by decide)⟩
  · show Steps p.tables e below (s₁.setTop (mkF m 0 #[.val (.int (0 : Int32)), .val (.int (1 : Int32))] [])) _
    refine XS.iloadN X0.here hx rfl (hb hby d_jdk_42_method_155_0) rfl ?_
    show Steps p.tables e below (s₁.setTop (mkF m 1 #[.val (.int (0 : Int32)), .val (.int (1 : Int32))] [(.int (0 : Int32))])) _
    refine XS.iloadN X0.here hx rfl (hb hby d_jdk_42_method_155_1) rfl ?_
    show Steps p.tables e below (s₁.setTop (mkF m 2 #[.val (.int (0 : Int32)), .val (.int (1 : Int32))] [(.int (1 : Int32)), (.int (0 : Int32))])) _
    refine st1 _ ?_
    show Steps p.tables e below (T1.setTop (mkF m 5 #[.val (.int (0 : Int32)), .val (.int (1 : Int32))] [.null, (.int (1 : Int32)), (.int (0 : Int32))])) _
    refine st2 _ ?_
    show Steps p.tables e below (T2.setTop (mkF m 8 #[.val (.int (0 : Int32)), .val (.int (1 : Int32))] [(.int (0 : Int32))])) _
    refine XS.pop X2.here hx rfl (hb hby d_jdk_42_method_155_8) rfl rfl ?_
    show Steps p.tables e below (T2.setTop (mkF m 9 #[.val (.int (0 : Int32)), .val (.int (1 : Int32))] [])) _
    exact X2.returnOut hx Bd.returns (hb hby d_jdk_42_method_155_9) hr
  · show Q_rmSck_n Z  h0 n0 _ T2.heap _
    rw [q2]
    exact ⟨rfl, N2, rfl⟩
theorem ef_rmSck_r (m : MethodId)  : entryFrame m #[(.int (0 : Int32)), (.int (1 : Int32))] 2 = mkF m 0 #[.val (.int (0 : Int32)), .val (.int (1 : Int32))] [] := by first | (simp [entryFrame, mkF, argsToLocals, Value.category]; done) | rfl
def Q_rmSck_r (Z : State) (fm : Addr) (h0 : Heap) (n0 : Nat) (v : Option Value) (h : Heap) (L : List Loc) : Prop := v = none ∧ Fr n0 L ∧ h = h0
set_option maxRecDepth 65536 in
set_option maxHeartbeats 40000000 in
theorem rmSck_r (l : Launch) (Z : State) (aw : Array Value) (hw : ∀ d ∈ tables_1, d.before aw Z = true) (ws : List Jvm.Cond) (fm : Addr) (h0 : Heap) (n0 : Nat) (Z0 : n0 ≤ h0.size) (SF : Sta Z h0 "jdk/internal/util/Preconditions" "SIOOBE_FORMATTER" "Ljava/util/function/BiFunction;" (.ref fm)) :
    MetFree l (⟨"java/lang/String", "checkIndex", "(II)V"⟩ : MethodName) (head1 (Jvm.Cond.code (⟨"java/lang/String", "checkIndex", "(II)V"⟩ : MethodName) jdk_42_method_155_code 2 none :: ws) ({ frames := 1, cells := 0, slots := 0, locals := 14 } : Room)) (fun a U => a = #[(.int (0 : Int32)), (.int (1 : Int32))] ∧ Z.Warmed39 U.vm ∧ U.heap = h0) (fun _ _ _ _ _ => True) (fun _ U o U' => ∃ v L, o = .returned v ∧ Q_rmSck_r Z fm h0 n0 v U'.heap L ∧ FrameEnd U o U' L ({ frames := 1, cells := 0, slots := 0, locals := 14 } : Room).cells ({ frames := 1, cells := 0, slots := 0, locals := 14 } : Room).slots) := by
  refine MetFree.of_bodySF (plainFor_of_name pn_java_lang_String) hisR ?_
  intro p e s m args below meth cd s₁ Bd hml0 hP hK
  obtain ⟨rfl, hZ, hh⟩ := hP
  have hx := Bd.exec
  have hby := Bd.bytes
  have hml : cd.maxLocals = 2 := hml0
  have hown : s.vm.findClass "java/lang/String" = some m.cls := findClass_of_methodNamed Bd.named
  have hnm := (name_of_methodNamed Bd.named Bd.method).1
  have X0 : Stand p l e ({ frames := 1, cells := 0, slots := 0, locals := 14 } : Room) s m #[(.int (0 : Int32)), (.int (1 : Int32))] below meth cd s₁ [] 0 0 := Stand.of_body Bd
  have e0 : s₁.heap = h0 := by rw [← hh, Bd.state]; rfl
  have N0 := Fr.nil n0
  have pre0 : ∀ t, Steps p.tables e below (s₁.setTop (mkF m 0 #[.val (.int (0 : Int32)), .val (.int (1 : Int32))] [])) t → Steps p.tables e below (s₁.setTop (entryFrame m #[(.int (0 : Int32)), (.int (1 : Int32))] 2)) t := fun t k => castTop (ef_rmSck_r m ) k
  obtain ⟨T1, X1, e1, st1⟩ := getS2 X0 hx hZ hown (host := "") (Or.inl (hw _ (List.mem_of_getElem? (i := 211) rfl))) Via.refl e0 SF (g := (mkF m 2 #[.val (.int (0 : Int32)), .val (.int (1 : Int32))] [(.int (1 : Int32)), (.int (0 : Int32))])) rfl (hb hby d_jdk_42_method_155_2)
  obtain ⟨_, _, ⟨T2, L2, k2, n2⟩, -, X2, ⟨Lc2, hQ2, l2, y2, z2⟩, st2⟩ := Jvm.LawKit.callS X1 hx (y := (⟨"jdk/internal/util/Preconditions", "checkIndex", "(IILjava/util/function/BiFunction;)I"⟩ : MethodName)) hown (mvT hZ (hw _ (List.mem_of_getElem? (i := 213) rfl))) (mvT hZ (hw _ (List.mem_of_getElem? (i := 214) rfl))) (mvT hZ (hw _ (List.mem_of_getElem? (i := 212) rfl))) (mvT hZ (hw _ (List.mem_of_getElem? (i := 215) rfl))) (by decide) (backOf (W := 0) (rmPck_r l Z aw hw [] fm h0 n0 Z0) hZ (hw _ (List.mem_of_getElem? (i := 215) rfl)) (hw _ (List.mem_of_getElem? (i := 212) rfl)) (by decide) (by decide)) (g := (mkF m 5 #[.val (.int (0 : Int32)), .val (.int (1 : Int32))] [(.ref fm), (.int (1 : Int32)), (.int (0 : Int32))])) rfl (by rw [hml]; rfl) (argsL := [(.int (0 : Int32)), (.int (1 : Int32)), (.ref fm)]) (rest := []) (lenOf pd__IILjava_util_function_BiFunction__I rfl) rfl (by show 2 * 0 + _ ≤ _; exact Nat.le_of_eq rfl) (hb hby d_jdk_42_method_155_5) (fun _ _ => ⟨rfl, e1, (by decide : 0 + 0 ≤ _), (by decide : 0 + 0 ≤ _)⟩)
  dsimp only [Pt.U, Pt.locs, Pt.cells, Pt.slots] at X2 l2 y2 z2 st2 hQ2
  subst l2 y2 z2
  obtain ⟨rfl, N2q, q2⟩ := hQ2
  have N2 := Fr.app N0 N2q
  obtain ⟨fs, hr, hrun, hended, hW, hsame⟩ := X2.leave (v := none) (fun _ => rfl)
  refine ⟨_, _, pre0 _ ?_, hrun, hended, _, _, rfl, ?_, ⟨_, rfl⟩, hW, hsame.mono (by decide) (by decide)⟩
  · show Steps p.tables e below (s₁.setTop (mkF m 0 #[.val (.int (0 : Int32)), .val (.int (1 : Int32))] [])) _
    refine XS.iloadN X0.here hx rfl (hb hby d_jdk_42_method_155_0) rfl ?_
    show Steps p.tables e below (s₁.setTop (mkF m 1 #[.val (.int (0 : Int32)), .val (.int (1 : Int32))] [(.int (0 : Int32))])) _
    refine XS.iloadN X0.here hx rfl (hb hby d_jdk_42_method_155_1) rfl ?_
    show Steps p.tables e below (s₁.setTop (mkF m 2 #[.val (.int (0 : Int32)), .val (.int (1 : Int32))] [(.int (1 : Int32)), (.int (0 : Int32))])) _
    refine st1 _ ?_
    show Steps p.tables e below (T1.setTop (mkF m 5 #[.val (.int (0 : Int32)), .val (.int (1 : Int32))] [(.ref fm), (.int (1 : Int32)), (.int (0 : Int32))])) _
    refine st2 _ ?_
    show Steps p.tables e below (T2.setTop (mkF m 8 #[.val (.int (0 : Int32)), .val (.int (1 : Int32))] [(.int (0 : Int32))])) _
    refine XS.pop X2.here hx rfl (hb hby d_jdk_42_method_155_8) rfl rfl ?_
    show Steps p.tables e below (T2.setTop (mkF m 9 #[.val (.int (0 : Int32)), .val (.int (1 : Int32))] [])) _
    exact X2.returnOut hx Bd.returns (hb hby d_jdk_42_method_155_9) hr
  · show Q_rmSck_r Z fm h0 n0 _ T2.heap _
    rw [q2]
    exact ⟨rfl, N2, rfl⟩
def Q_rmSck (Z : State) (fm : Value) (h0 : Heap) (n0 : Nat) (v : Option Value) (h : Heap) (L : List Loc) : Prop := v = none ∧ Fr n0 L ∧ h = h0
theorem rmSck (l : Launch) (Z : State) (a0 : Array Value) (hw : ∀ d ∈ tables_1, d.before a0 Z = true) (ws : List Jvm.Cond) (fm : Value) (h0 : Heap) (n0 : Nat) (Z0 : n0 ≤ h0.size) (S1 : Sta Z h0 "jdk/internal/util/Preconditions" "SIOOBE_FORMATTER" "Ljava/util/function/BiFunction;" fm) (hfm : fm.isRef = true) :
    MetFree l (⟨"java/lang/String", "checkIndex", "(II)V"⟩ : MethodName) (head1 (Jvm.Cond.code (⟨"java/lang/String", "checkIndex", "(II)V"⟩ : MethodName) jdk_42_method_155_code 2 none :: ws) ({ frames := 1, cells := 0, slots := 0, locals := 14 } : Room)) (fun a U => a = #[(.int (0 : Int32)), (.int (1 : Int32))] ∧ Z.Warmed39 U.vm ∧ U.heap = h0) (fun _ _ _ _ _ => True) (fun _ U o U' => ∃ v L, o = .returned v ∧ Q_rmSck Z fm h0 n0 v U'.heap L ∧ FrameEnd U o U' L ({ frames := 1, cells := 0, slots := 0, locals := 14 } : Room).cells ({ frames := 1, cells := 0, slots := 0, locals := 14 } : Room).slots) := by
  rcases ref_cases hfm with rfl | ⟨x, rfl⟩
  · exact rmSck_n l Z a0 hw ws h0 n0 Z0 S1
  · exact rmSck_r l Z a0 hw ws x h0 n0 Z0 S1
theorem d_jdk_43_method_2_0 : decode jdk_43_method_2_code 0 = .ok (.iload_n 1, 1) := by decide +kernel
theorem d_jdk_43_method_2_1 : decode jdk_43_method_2_code 1 = .ok (.aload_n 0, 1) := by decide +kernel
theorem d_jdk_43_method_2_2 : decode jdk_43_method_2_code 2 = .ok (.arraylength, 1) := by decide +kernel
theorem d_jdk_43_method_2_3 : decode jdk_43_method_2_code 3 = .ok (.invokestatic 9, 3) := by decide +kernel
theorem d_jdk_43_method_2_6 : decode jdk_43_method_2_code 6 = .ok (.aload_n 0, 1) := by decide +kernel
theorem d_jdk_43_method_2_7 : decode jdk_43_method_2_code 7 = .ok (.iload_n 1, 1) := by decide +kernel
theorem d_jdk_43_method_2_8 : decode jdk_43_method_2_code 8 = .ok (.baload, 1) := by decide +kernel
theorem d_jdk_43_method_2_9 : decode jdk_43_method_2_code 9 = .ok (.sipush 255, 3) := by decide +kernel
theorem d_jdk_43_method_2_12 : decode jdk_43_method_2_code 12 = .ok (.iand, 1) := by decide +kernel
theorem d_jdk_43_method_2_13 : decode jdk_43_method_2_code 13 = .ok (.i2c, 1) := by decide +kernel
theorem d_jdk_43_method_2_14 : decode jdk_43_method_2_code 14 = .ok (.ireturn, 1) := by decide +kernel
theorem pd__II_V : parseMethodDescriptor "(II)V" = some ⟨[.int, .int], none⟩ := by decide +kernel
theorem ef_rmLch (m : MethodId) (d : Addr) : entryFrame m #[(.ref d), (.int (0 : Int32))] 2 = mkF m 0 #[.val (.ref d), .val (.int (0 : Int32))] [] := by first | (simp [entryFrame, mkF, argsToLocals, Value.category]; done) | rfl
def Q_rmLch (Z : State) (d : Addr) (kd : ClassId) (fm : Value) (h0 : Heap) (n0 : Nat) (v : Option Value) (h : Heap) (L : List Loc) : Prop := v = some (.int (97 : Int32)) ∧ Fr n0 L ∧ h = h0
set_option maxRecDepth 65536 in
set_option maxHeartbeats 40000000 in
theorem rmLch (l : Launch) (Z : State) (aw : Array Value) (hw : ∀ d ∈ tables_1, d.before aw Z = true) (ws : List Jvm.Cond) (d : Addr) (kd : ClassId) (fm : Value) (h0 : Heap) (n0 : Nat) (Z0 : n0 ≤ h0.size) (W0 : Arv Z h0 d kd .byte (1 : Int32) [(.int (97 : Int32))] (.int (0 : Int32))) (SF : Sta Z h0 "jdk/internal/util/Preconditions" "SIOOBE_FORMATTER" "Ljava/util/function/BiFunction;" fm) (hfm : fm.isRef = true) :
    MetFree l (⟨"java/lang/StringLatin1", "charAt", "([BI)C"⟩ : MethodName) (head1 (Jvm.Cond.code (⟨"java/lang/StringLatin1", "charAt", "([BI)C"⟩ : MethodName) jdk_43_method_2_code 2 (some .char) :: ws) ({ frames := 2, cells := 0, slots := 0, locals := 27 } : Room)) (fun a U => a = #[(.ref d), (.int (0 : Int32))] ∧ Z.Warmed39 U.vm ∧ U.heap = h0) (fun _ _ _ _ _ => True) (fun _ U o U' => ∃ v L, o = .returned v ∧ Q_rmLch Z d kd fm h0 n0 v U'.heap L ∧ FrameEnd U o U' L ({ frames := 2, cells := 0, slots := 0, locals := 27 } : Room).cells ({ frames := 2, cells := 0, slots := 0, locals := 27 } : Room).slots) := by
  refine MetFree.of_bodySF (plainFor_of_name pn_java_lang_StringLatin1) hisR ?_
  intro p e s m args below meth cd s₁ Bd hml0 hP hK
  obtain ⟨rfl, hZ, hh⟩ := hP
  have hx := Bd.exec
  have hby := Bd.bytes
  have hml : cd.maxLocals = 2 := hml0
  have hown : s.vm.findClass "java/lang/StringLatin1" = some m.cls := findClass_of_methodNamed Bd.named
  have hnm := (name_of_methodNamed Bd.named Bd.method).1
  have X0 : Stand p l e ({ frames := 2, cells := 0, slots := 0, locals := 27 } : Room) s m #[(.ref d), (.int (0 : Int32))] below meth cd s₁ [] 0 0 := Stand.of_body Bd
  have e0 : s₁.heap = h0 := by rw [← hh, Bd.state]; rfl
  have N0 := Fr.nil n0
  have pre0 : ∀ t, Steps p.tables e below (s₁.setTop (mkF m 0 #[.val (.ref d), .val (.int (0 : Int32))] [])) t → Steps p.tables e below (s₁.setTop (entryFrame m #[(.ref d), (.int (0 : Int32))] 2)) t := fun t k => castTop (ef_rmLch m d) k
  have Vo1 := W0
  obtain ⟨cl1, Ar1, -, S1, Ng1, -, -⟩ := Vo1
  obtain ⟨_, _, ⟨T2, L2, k2, n2⟩, -, X2, ⟨Lc2, hQ2, l2, y2, z2⟩, st2⟩ := Jvm.LawKit.callS X0 hx (y := (⟨"java/lang/String", "checkIndex", "(II)V"⟩ : MethodName)) hown (mvT hZ (hw _ (List.mem_of_getElem? (i := 208) rfl))) (mvT hZ (hw _ (List.mem_of_getElem? (i := 209) rfl))) (mvT hZ (hw _ (List.mem_of_getElem? (i := 24) rfl))) (mvT hZ (hw _ (List.mem_of_getElem? (i := 210) rfl))) (by decide) (backOf (W := 0) (rmSck l Z aw hw [] fm h0 n0 Z0 SF hfm) hZ (hw _ (List.mem_of_getElem? (i := 210) rfl)) (hw _ (List.mem_of_getElem? (i := 24) rfl)) (by decide) (by decide)) (g := (mkF m 3 #[.val (.ref d), .val (.int (0 : Int32))] [(.int (1 : Int32)), (.int (0 : Int32))])) rfl (by rw [hml]; rfl) (argsL := [(.int (0 : Int32)), (.int (1 : Int32))]) (rest := []) (lenOf pd__II_V rfl) rfl (by show 2 * 0 + _ ≤ _; exact Nat.le_of_eq rfl) (hb hby d_jdk_43_method_2_3) (fun _ _ => ⟨rfl, e0, (by decide : 0 + 0 ≤ _), (by decide : 0 + 0 ≤ _)⟩)
  dsimp only [Pt.U, Pt.locs, Pt.cells, Pt.slots] at X2 l2 y2 z2 st2 hQ2
  subst l2 y2 z2
  obtain ⟨rfl, N2q, q2⟩ := hQ2
  have N2 := Fr.app N0 N2q
  have Vo3 := W0
  obtain ⟨cl3, Ar3, q3, S3, Ng3, Hs3, Gf3⟩ := Vo3
  have hin3 : ¬ ((0 : Int32) < 0 ∨ cl3.slots.size ≤ ((0 : Int32)).toNatClampNeg) := inb_of S3 ⟨by decide, by decide⟩
  have hat3 : cl3.slots[((0 : Int32)).toNatClampNeg]? = some (.int (97 : Int32)) := Hs3 0 (by rw [S3]; decide)
  obtain ⟨fs, hr, hrun, hended, hW, hsame⟩ := X2.leave (v := some (.int (97 : Int32))) (fun h => by rw [Bd.returns] at h; cases h)
  refine ⟨_, _, pre0 _ ?_, hrun, hended, _, _, rfl, ?_, ⟨_, rfl⟩, hW, hsame.mono (by decide) (by decide)⟩
  · show Steps p.tables e below (s₁.setTop (mkF m 0 #[.val (.ref d), .val (.int (0 : Int32))] [])) _
    refine XS.iloadN X0.here hx rfl (hb hby d_jdk_43_method_2_0) rfl ?_
    show Steps p.tables e below (s₁.setTop (mkF m 1 #[.val (.ref d), .val (.int (0 : Int32))] [(.int (0 : Int32))])) _
    refine XS.aloadN X0.here hx rfl (hb hby d_jdk_43_method_2_1) rfl rfl ?_
    show Steps p.tables e below (s₁.setTop (mkF m 2 #[.val (.ref d), .val (.int (0 : Int32))] [(.ref d), (.int (0 : Int32))])) _
    refine X0.arraylength hx (by rw [e0]; exact Ar1.1) (State.isArrayOf_alike hZ.alike Ar1.2.1) (g := (mkF m 2 #[.val (.ref d), .val (.int (0 : Int32))] [(.ref d), (.int (0 : Int32))])) rfl rfl (hb hby d_jdk_43_method_2_2) _ ?_
    rw [len_of S1 Ng1]
    show Steps p.tables e below (s₁.setTop (mkF m 3 #[.val (.ref d), .val (.int (0 : Int32))] [(.int (1 : Int32)), (.int (0 : Int32))])) _
    refine st2 _ ?_
    show Steps p.tables e below (T2.setTop (mkF m 6 #[.val (.ref d), .val (.int (0 : Int32))] [])) _
    refine XS.aloadN X2.here hx rfl (hb hby d_jdk_43_method_2_6) rfl rfl ?_
    show Steps p.tables e below (T2.setTop (mkF m 7 #[.val (.ref d), .val (.int (0 : Int32))] [(.ref d)])) _
    refine XS.iloadN X2.here hx rfl (hb hby d_jdk_43_method_2_7) rfl ?_
    show Steps p.tables e below (T2.setTop (mkF m 8 #[.val (.ref d), .val (.int (0 : Int32))] [(.int (0 : Int32)), (.ref d)])) _
    refine X2.baloadBytes hx (j := (0 : Int32)) (v := (.int (97 : Int32))) (by rw [q2]; exact Ar3.1) (State.isArrayOf_alike hZ.alike Ar3.2.1) Ar3.2.2 hin3 hat3 (g := (mkF m 8 #[.val (.ref d), .val (.int (0 : Int32))] [(.int (0 : Int32)), (.ref d)])) rfl rfl (hb hby d_jdk_43_method_2_8) _ ?_
    show Steps p.tables e below (T2.setTop (mkF m 9 #[.val (.ref d), .val (.int (0 : Int32))] [(.int (97 : Int32))])) _
    refine XS.sipush X2.here hx rfl (hb hby d_jdk_43_method_2_9) ?_
    show Steps p.tables e below (T2.setTop (mkF m 12 #[.val (.ref d), .val (.int (0 : Int32))] [(.int (255 : Int32)), (.int (97 : Int32))])) _
    refine XS.iand X2.here hx rfl (hb hby d_jdk_43_method_2_12) rfl ?_
    show Steps p.tables e below (T2.setTop (mkF m 13 #[.val (.ref d), .val (.int (0 : Int32))] [(.int ((97 : Int32) &&& (255 : Int32)))])) _
    rw [(by decide : ((97 : Int32) &&& (255 : Int32)) = (97 : Int32))]
    show Steps p.tables e below (T2.setTop (mkF m 13 #[.val (.ref d), .val (.int (0 : Int32))] [(.int (97 : Int32))])) _
    refine XS.i2c X2.here hx rfl (hb hby d_jdk_43_method_2_13) rfl ?_
    show Steps p.tables e below (T2.setTop (mkF m 14 #[.val (.ref d), .val (.int (0 : Int32))] [(.int ((97 : Int32).toUInt32.toUInt16.toUInt32.toInt32))])) _
    rw [(by decide : ((97 : Int32).toUInt32.toUInt16.toUInt32.toInt32) = (97 : Int32))]
    show Steps p.tables e below (T2.setTop (mkF m 14 #[.val (.ref d), .val (.int (0 : Int32))] [(.int (97 : Int32))])) _
    exact retN X2 hx (t := .char) Bd.returns (by simp) (hb hby d_jdk_43_method_2_14) hr
  · show Q_rmLch Z d kd fm h0 n0 _ T2.heap _
    rw [q2]
    exact ⟨rfl, N2, rfl⟩
theorem d_jdk_42_method_154_0 : decode jdk_42_method_154_code 0 = .ok (.getstatic 38, 3) := by decide +kernel
theorem d_jdk_42_method_154_3 : decode jdk_42_method_154_code 3 = .ok (.ifCond .eq 14, 3) := by decide +kernel
theorem d_jdk_42_method_154_6 : decode jdk_42_method_154_code 6 = .ok (.aload_n 0, 1) := by decide +kernel
theorem d_jdk_42_method_154_7 : decode jdk_42_method_154_code 7 = .ok (.getfield 15, 3) := by decide +kernel
theorem d_jdk_42_method_154_10 : decode jdk_42_method_154_code 10 = .ok (.ifCond .ne 7, 3) := by decide +kernel
theorem d_jdk_42_method_154_13 : decode jdk_42_method_154_code 13 = .ok (.iconst 1, 1) := by decide +kernel
theorem d_jdk_42_method_154_14 : decode jdk_42_method_154_code 14 = .ok (.goto 4, 3) := by decide +kernel
theorem d_jdk_42_method_154_18 : decode jdk_42_method_154_code 18 = .ok (.ireturn, 1) := by decide +kernel
theorem ef_rmSIL (m : MethodId) (a0 : Addr) : entryFrame m #[(.ref a0)] 1 = mkF m 0 #[.val (.ref a0)] [] := by first | (simp [entryFrame, mkF, argsToLocals, Value.category]; done) | rfl
def Q_rmSIL (Z : State) (a0 : Addr) (cs : Int32) (h0 : Heap) (n0 : Nat) (v : Option Value) (h : Heap) (L : List Loc) : Prop := v = some (.int (1 : Int32)) ∧ Fr n0 L ∧ h = h0
set_option maxRecDepth 65536 in
set_option maxHeartbeats 40000000 in
theorem rmSIL (l : Launch) (Z : State) (aw : Array Value) (hw : ∀ d ∈ tables_1, d.before aw Z = true) (ws : List Jvm.Cond) (a0 : Addr) (cs : Int32) (h0 : Heap) (n0 : Nat) (Z0 : n0 ≤ h0.size) (Sk : Fld Z h0 a0 "java/lang/String" "coder" "B" (.int (0 : Int32))) (S0 : Sta Z h0 "java/lang/String" "COMPACT_STRINGS" "Z" (.int cs)) (hcs : ¬ (cs = (0 : Int32))) :
    MetFree l (⟨"java/lang/String", "isLatin1", "()Z"⟩ : MethodName) (head1 (Jvm.Cond.code (⟨"java/lang/String", "isLatin1", "()Z"⟩ : MethodName) jdk_42_method_154_code 1 (some .boolean) :: ws) ({ frames := 0, cells := 0, slots := 0, locals := 0 } : Room)) (fun a U => a = #[(.ref a0)] ∧ Z.Warmed39 U.vm ∧ U.heap = h0) (fun _ _ _ _ _ => True) (fun _ U o U' => ∃ v L, o = .returned v ∧ Q_rmSIL Z a0 cs h0 n0 v U'.heap L ∧ FrameEnd U o U' L ({ frames := 0, cells := 0, slots := 0, locals := 0 } : Room).cells ({ frames := 0, cells := 0, slots := 0, locals := 0 } : Room).slots) := by
  refine MetFree.of_bodySF (plainFor_of_name pn_java_lang_String) hisR ?_
  intro p e s m args below meth cd s₁ Bd hml0 hP hK
  obtain ⟨rfl, hZ, hh⟩ := hP
  have hx := Bd.exec
  have hby := Bd.bytes
  have hml : cd.maxLocals = 1 := hml0
  have hown : s.vm.findClass "java/lang/String" = some m.cls := findClass_of_methodNamed Bd.named
  have hnm := (name_of_methodNamed Bd.named Bd.method).1
  have X0 : Stand p l e ({ frames := 0, cells := 0, slots := 0, locals := 0 } : Room) s m #[(.ref a0)] below meth cd s₁ [] 0 0 := Stand.of_body Bd
  have e0 : s₁.heap = h0 := by rw [← hh, Bd.state]; rfl
  have N0 := Fr.nil n0
  have pre0 : ∀ t, Steps p.tables e below (s₁.setTop (mkF m 0 #[.val (.ref a0)] [])) t → Steps p.tables e below (s₁.setTop (entryFrame m #[(.ref a0)] 1)) t := fun t k => castTop (ef_rmSIL m a0) k
  obtain ⟨T1, X1, e1, st1⟩ := getS2 X0 hx hZ hown (host := "") (Or.inl (hw _ (List.mem_of_getElem? (i := 71) rfl))) Via.refl e0 S0 (g := (mkF m 0 #[.val (.ref a0)] [])) rfl (hb hby d_jdk_42_method_154_0)
  obtain ⟨T2, X2, e2, st2⟩ := getF X1 hx hZ hown (host := "") (Or.inl (hw _ (List.mem_of_getElem? (i := 72) rfl))) Via.refl e1 Sk (g := (mkF m 7 #[.val (.ref a0)] [(.ref a0)])) rfl rfl (hb hby d_jdk_42_method_154_7)
  obtain ⟨fs, hr, hrun, hended, hW, hsame⟩ := X2.leave (v := some (.int (1 : Int32))) (fun h => by rw [Bd.returns] at h; cases h)
  refine ⟨_, _, pre0 _ ?_, hrun, hended, _, _, rfl, ?_, ⟨_, rfl⟩, hW, hsame.mono (by decide) (by decide)⟩
  · show Steps p.tables e below (s₁.setTop (mkF m 0 #[.val (.ref a0)] [])) _
    refine st1 _ ?_
    show Steps p.tables e below (T1.setTop (mkF m 3 #[.val (.ref a0)] [(.int cs)])) _
    refine XS.ifNo X1.here hx rfl (hb hby d_jdk_42_method_154_3) rfl ((if0 _ _).trans (feq (hcs : ¬ (cs = (0 : Int32)))).1) ?_
    show Steps p.tables e below (T1.setTop (mkF m 6 #[.val (.ref a0)] [])) _
    refine XS.aloadN X1.here hx rfl (hb hby d_jdk_42_method_154_6) rfl rfl ?_
    show Steps p.tables e below (T1.setTop (mkF m 7 #[.val (.ref a0)] [(.ref a0)])) _
    refine st2 _ ?_
    show Steps p.tables e below (T2.setTop (mkF m 10 #[.val (.ref a0)] [(.int (0 : Int32))])) _
    refine XS.ifNo X2.here hx rfl (hb hby d_jdk_42_method_154_10) rfl ((if0 _ _).trans (teq (rfl : (0 : Int32) = (0 : Int32))).2) ?_
    show Steps p.tables e below (T2.setTop (mkF m 13 #[.val (.ref a0)] [])) _
    refine XS.iconst X2.here hx rfl (hb hby d_jdk_42_method_154_13) ?_
    show Steps p.tables e below (T2.setTop (mkF m 14 #[.val (.ref a0)] [(.int (1 : Int32))])) _
    refine XS.goto X2.here hx rfl (pc0 := 14) (pc' := 18) rfl (hb hby d_jdk_42_method_154_14) (by decide) (by decide) ?_
    show Steps p.tables e below (T2.setTop (mkF m 18 #[.val (.ref a0)] [(.int (1 : Int32))])) _
    exact retN X2 hx (t := .boolean) Bd.returns (by simp) (hb hby d_jdk_42_method_154_18) hr
  · show Q_rmSIL Z a0 cs h0 n0 _ T2.heap _
    rw [e2]
    exact ⟨rfl, N0, rfl⟩
theorem d_jdk_42_method_56_0 : decode jdk_42_method_56_code 0 = .ok (.aload_n 0, 1) := by decide +kernel
theorem d_jdk_42_method_56_1 : decode jdk_42_method_56_code 1 = .ok (.invokevirtual 492, 3) := by decide +kernel
theorem d_jdk_42_method_56_4 : decode jdk_42_method_56_code 4 = .ok (.ifCond .eq 12, 3) := by decide +kernel
theorem d_jdk_42_method_56_7 : decode jdk_42_method_56_code 7 = .ok (.aload_n 0, 1) := by decide +kernel
theorem d_jdk_42_method_56_8 : decode jdk_42_method_56_code 8 = .ok (.getfield 9, 3) := by decide +kernel
theorem d_jdk_42_method_56_11 : decode jdk_42_method_56_code 11 = .ok (.iload_n 1, 1) := by decide +kernel
theorem d_jdk_42_method_56_12 : decode jdk_42_method_56_code 12 = .ok (.invokestatic 495, 3) := by decide +kernel
theorem d_jdk_42_method_56_15 : decode jdk_42_method_56_code 15 = .ok (.ireturn, 1) := by decide +kernel
theorem pd___BI_C : parseMethodDescriptor "([BI)C" = some ⟨[(.array .byte), .int], some .char⟩ := by decide +kernel
theorem ef_rmCh (m : MethodId) (a0 : Addr) : entryFrame m #[(.ref a0), (.int (0 : Int32))] 2 = mkF m 0 #[.val (.ref a0), .val (.int (0 : Int32))] [] := by first | (simp [entryFrame, mkF, argsToLocals, Value.category]; done) | rfl
def Q_rmCh (Z : State) (a0 : Addr) (d : Addr) (kd : ClassId) (fm : Value) (cs : Int32) (h0 : Heap) (n0 : Nat) (v : Option Value) (h : Heap) (L : List Loc) : Prop := v = some (.int (97 : Int32)) ∧ Fr n0 L ∧ h = h0
set_option maxRecDepth 65536 in
set_option maxHeartbeats 40000000 in
theorem rmCh (l : Launch) (Z : State) (aw : Array Value) (hw : ∀ d ∈ tables_1, d.before aw Z = true) (ws : List Jvm.Cond) (a0 : Addr) (d : Addr) (kd : ClassId) (fm : Value) (cs : Int32) (h0 : Heap) (n0 : Nat) (Z0 : n0 ≤ h0.size) (Es : Exa Z h0 a0 "java/lang/String") (Sk : Fld Z h0 a0 "java/lang/String" "coder" "B" (.int (0 : Int32))) (Sv : Fld Z h0 a0 "java/lang/String" "value" "[B" (.ref d)) (W0 : Arv Z h0 d kd .byte (1 : Int32) [(.int (97 : Int32))] (.int (0 : Int32))) (SF : Sta Z h0 "jdk/internal/util/Preconditions" "SIOOBE_FORMATTER" "Ljava/util/function/BiFunction;" fm) (S0 : Sta Z h0 "java/lang/String" "COMPACT_STRINGS" "Z" (.int cs)) (hfm : fm.isRef = true) (hcs : ¬ (cs = (0 : Int32))) :
    MetFree l (⟨"java/lang/String", "charAt", "(I)C"⟩ : MethodName) (head1 (Jvm.Cond.code (⟨"java/lang/String", "charAt", "(I)C"⟩ : MethodName) jdk_42_method_56_code 2 (some .char) :: ws) ({ frames := 3, cells := 0, slots := 0, locals := 40 } : Room)) (fun a U => a = #[(.ref a0), (.int (0 : Int32))] ∧ Z.Warmed39 U.vm ∧ U.heap = h0) (fun _ _ _ _ _ => True) (fun _ U o U' => ∃ v L, o = .returned v ∧ Q_rmCh Z a0 d kd fm cs h0 n0 v U'.heap L ∧ FrameEnd U o U' L ({ frames := 3, cells := 0, slots := 0, locals := 40 } : Room).cells ({ frames := 3, cells := 0, slots := 0, locals := 40 } : Room).slots) := by
  refine MetFree.of_bodySF (plainFor_of_name pn_java_lang_String) hisR ?_
  intro p e s m args below meth cd s₁ Bd hml0 hP hK
  obtain ⟨rfl, hZ, hh⟩ := hP
  have hx := Bd.exec
  have hby := Bd.bytes
  have hml : cd.maxLocals = 2 := hml0
  have hown : s.vm.findClass "java/lang/String" = some m.cls := findClass_of_methodNamed Bd.named
  have hnm := (name_of_methodNamed Bd.named Bd.method).1
  have X0 : Stand p l e ({ frames := 3, cells := 0, slots := 0, locals := 40 } : Room) s m #[(.ref a0), (.int (0 : Int32))] below meth cd s₁ [] 0 0 := Stand.of_body Bd
  have e0 : s₁.heap = h0 := by rw [← hh, Bd.state]; rfl
  have N0 := Fr.nil n0
  have pre0 : ∀ t, Steps p.tables e below (s₁.setTop (mkF m 0 #[.val (.ref a0), .val (.int (0 : Int32))] [])) t → Steps p.tables e below (s₁.setTop (entryFrame m #[(.ref a0), (.int (0 : Int32))] 2)) t := fun t k => castTop (ef_rmCh m a0) k
  obtain ⟨cq1, kq1, q1a, q1b, q1c⟩ := isOf hZ e0 Es
  obtain ⟨_, _, ⟨T1, L1, k1, n1⟩, -, X1, ⟨Lc1, hQ1, l1, y1, z1⟩, st1⟩ := X0.virtualBack hx (y := (⟨"java/lang/String", "isLatin1", "()Z"⟩ : MethodName)) (z := (⟨"java/lang/String", "isLatin1", "()Z"⟩ : MethodName)) hown (mvT hZ (hw _ (List.mem_of_getElem? (i := 200) rfl))) (mvT hZ (hw _ (List.mem_of_getElem? (i := 201) rfl))) (notFace_of_selects (args := #[]) (mvT hZ (hw _ (List.mem_of_getElem? (i := 203) rfl)))) (mvT hZ (hw _ (List.mem_of_getElem? (i := 203) rfl))) (mvT hZ (hw _ (List.mem_of_getElem? (i := 202) rfl))) (by decide) (backOf (W := 0) (rmSIL l Z aw hw [] a0 cs h0 n0 Z0 Sk S0 hcs) hZ (hw _ (List.mem_of_getElem? (i := 204) rfl)) (hw _ (List.mem_of_getElem? (i := 24) rfl)) (by decide) (by decide)) q1a q1c (g := (mkF m 1 #[.val (.ref a0), .val (.int (0 : Int32))] [(.ref a0)])) rfl (by rw [hml]; rfl) (Steps.refl _) (argsL := []) (rest := []) (lenOf pd___Z rfl) rfl (by show 2 * 0 + _ ≤ _; exact Nat.le_of_eq rfl) (hb hby d_jdk_42_method_56_1) (fun _ _ => ⟨rfl, e0, (by decide : 0 + 0 ≤ _), (by decide : 0 + 0 ≤ _)⟩)
  dsimp only [Pt.U, Pt.locs, Pt.cells, Pt.slots] at X1 l1 y1 z1 st1 hQ1
  subst l1 y1 z1
  obtain ⟨rfl, N1q, q1⟩ := hQ1
  have N1 := Fr.app N0 N1q
  obtain ⟨T2, X2, e2, st2⟩ := getF X1 hx hZ hown (host := "") (Or.inl (hw _ (List.mem_of_getElem? (i := 65) rfl))) Via.refl q1 Sv (g := (mkF m 8 #[.val (.ref a0), .val (.int (0 : Int32))] [(.ref a0)])) rfl rfl (hb hby d_jdk_42_method_56_8)
  obtain ⟨_, _, ⟨T3, L3, k3, n3⟩, -, X3, ⟨Lc3, hQ3, l3, y3, z3⟩, st3⟩ := Jvm.LawKit.callS X2 hx (y := (⟨"java/lang/StringLatin1", "charAt", "([BI)C"⟩ : MethodName)) hown (mvT hZ (hw _ (List.mem_of_getElem? (i := 205) rfl))) (mvT hZ (hw _ (List.mem_of_getElem? (i := 206) rfl))) (mvT hZ (hw _ (List.mem_of_getElem? (i := 116) rfl))) (mvT hZ (hw _ (List.mem_of_getElem? (i := 207) rfl))) (by decide) (backOf (W := 0) (rmLch l Z aw hw [] d kd fm h0 n0 Z0 W0 SF hfm) hZ (hw _ (List.mem_of_getElem? (i := 207) rfl)) (hw _ (List.mem_of_getElem? (i := 116) rfl)) (by decide) (by decide)) (g := (mkF m 12 #[.val (.ref a0), .val (.int (0 : Int32))] [(.int (0 : Int32)), (.ref d)])) rfl (by rw [hml]; rfl) (argsL := [(.ref d), (.int (0 : Int32))]) (rest := []) (lenOf pd___BI_C rfl) rfl (by show 2 * 0 + _ ≤ _; exact Nat.le_of_eq rfl) (hb hby d_jdk_42_method_56_12) (fun _ _ => ⟨rfl, e2, (by decide : 0 + 0 ≤ _), (by decide : 0 + 0 ≤ _)⟩)
  dsimp only [Pt.U, Pt.locs, Pt.cells, Pt.slots] at X3 l3 y3 z3 st3 hQ3
  subst l3 y3 z3
  obtain ⟨rfl, N3q, q3⟩ := hQ3
  have N3 := Fr.app N1 N3q
  obtain ⟨fs, hr, hrun, hended, hW, hsame⟩ := X3.leave (v := some (.int (97 : Int32))) (fun h => by rw [Bd.returns] at h; cases h)
  refine ⟨_, _, pre0 _ ?_, hrun, hended, _, _, rfl, ?_, ⟨_, rfl⟩, hW, hsame.mono (by decide) (by decide)⟩
  · show Steps p.tables e below (s₁.setTop (mkF m 0 #[.val (.ref a0), .val (.int (0 : Int32))] [])) _
    refine XS.aloadN X0.here hx rfl (hb hby d_jdk_42_method_56_0) rfl rfl ?_
    show Steps p.tables e below (s₁.setTop (mkF m 1 #[.val (.ref a0), .val (.int (0 : Int32))] [(.ref a0)])) _
    refine st1.trans ?_
    show Steps p.tables e below (T1.setTop (mkF m 4 #[.val (.ref a0), .val (.int (0 : Int32))] [(.int (1 : Int32))])) _
    refine XS.ifNo X1.here hx rfl (hb hby d_jdk_42_method_56_4) rfl ((if0 _ _).trans (feq (by decide : ¬ ((1 : Int32) = (0 : Int32)))).1) ?_
    show Steps p.tables e below (T1.setTop (mkF m 7 #[.val (.ref a0), .val (.int (0 : Int32))] [])) _
    refine XS.aloadN X1.here hx rfl (hb hby d_jdk_42_method_56_7) rfl rfl ?_
    show Steps p.tables e below (T1.setTop (mkF m 8 #[.val (.ref a0), .val (.int (0 : Int32))] [(.ref a0)])) _
    refine st2 _ ?_
    show Steps p.tables e below (T2.setTop (mkF m 11 #[.val (.ref a0), .val (.int (0 : Int32))] [(.ref d)])) _
    refine XS.iloadN X2.here hx rfl (hb hby d_jdk_42_method_56_11) rfl ?_
    show Steps p.tables e below (T2.setTop (mkF m 12 #[.val (.ref a0), .val (.int (0 : Int32))] [(.int (0 : Int32)), (.ref d)])) _
    refine st3 _ ?_
    show Steps p.tables e below (T3.setTop (mkF m 15 #[.val (.ref a0), .val (.int (0 : Int32))] [(.int (97 : Int32))])) _
    exact retN X3 hx (t := .char) Bd.returns (by simp) (hb hby d_jdk_42_method_56_15) hr
  · show Q_rmCh Z a0 d kd fm cs h0 n0 _ T3.heap _
    rw [q3]
    exact ⟨rfl, N3, rfl⟩
theorem d_jdk_43_method_46_0 : decode jdk_43_method_46_code 0 = .ok (.iconst 1, 1) := by decide +kernel
theorem d_jdk_43_method_46_1 : decode jdk_43_method_46_code 1 = .ok (.newarray .byte, 2) := by decide +kernel
theorem d_jdk_43_method_46_3 : decode jdk_43_method_46_code 3 = .ok (.dup, 1) := by decide +kernel
theorem d_jdk_43_method_46_4 : decode jdk_43_method_46_code 4 = .ok (.iconst 0, 1) := by decide +kernel
theorem d_jdk_43_method_46_5 : decode jdk_43_method_46_code 5 = .ok (.iload_n 0, 1) := by decide +kernel
theorem d_jdk_43_method_46_6 : decode jdk_43_method_46_code 6 = .ok (.i2b, 1) := by decide +kernel
theorem d_jdk_43_method_46_7 : decode jdk_43_method_46_code 7 = .ok (.bastore, 1) := by decide +kernel
theorem d_jdk_43_method_46_8 : decode jdk_43_method_46_code 8 = .ok (.areturn, 1) := by decide +kernel
theorem ef_rmTB (m : MethodId)  : entryFrame m #[(.int (97 : Int32))] 1 = mkF m 0 #[.val (.int (97 : Int32))] [] := by first | (simp [entryFrame, mkF, argsToLocals, Value.category]; done) | rfl
def Q_rmTB (Z : State)  (h0 : Heap) (n0 : Nat) (v : Option Value) (h : Heap) (L : List Loc) : Prop := ∃ (d : Addr) (kd : ClassId), v = some (.ref d) ∧ Fr n0 L ∧ n0 ≤ d ∧ h0.size ≤ d ∧ Keep h0 h [] ∧ Arv Z h d kd .byte (1 : Int32) [(.int (97 : Int32))] (.int (0 : Int32))
set_option maxRecDepth 65536 in
set_option maxHeartbeats 40000000 in
theorem rmTB (l : Launch) (Z : State) (aw : Array Value) (hw : ∀ d ∈ tables_1, d.before aw Z = true) (ws : List Jvm.Cond)  (h0 : Heap) (n0 : Nat) (Z0 : n0 ≤ h0.size) :
    MetFree l (⟨"java/lang/StringLatin1", "toBytes", "(C)[B"⟩ : MethodName) (head1 (Jvm.Cond.code (⟨"java/lang/StringLatin1", "toBytes", "(C)[B"⟩ : MethodName) jdk_43_method_46_code 1 (some (.array .byte)) :: ws) ({ frames := 0, cells := 1, slots := 1, locals := 0 } : Room)) (fun a U => a = #[(.int (97 : Int32))] ∧ Z.Warmed39 U.vm ∧ U.heap = h0) (fun _ _ _ _ _ => True) (fun _ U o U' => ∃ v L, o = .returned v ∧ Q_rmTB Z  h0 n0 v U'.heap L ∧ FrameEnd U o U' L ({ frames := 0, cells := 1, slots := 1, locals := 0 } : Room).cells ({ frames := 0, cells := 1, slots := 1, locals := 0 } : Room).slots) := by
  refine MetFree.of_bodySF (plainFor_of_name pn_java_lang_StringLatin1) hisR ?_
  intro p e s m args below meth cd s₁ Bd hml0 hP hK
  obtain ⟨rfl, hZ, hh⟩ := hP
  have hx := Bd.exec
  have hby := Bd.bytes
  have hml : cd.maxLocals = 1 := hml0
  have hown : s.vm.findClass "java/lang/StringLatin1" = some m.cls := findClass_of_methodNamed Bd.named
  have hnm := (name_of_methodNamed Bd.named Bd.method).1
  have X0 : Stand p l e ({ frames := 0, cells := 1, slots := 1, locals := 0 } : Room) s m #[(.int (97 : Int32))] below meth cd s₁ [] 0 0 := Stand.of_body Bd
  have e0 : s₁.heap = h0 := by rw [← hh, Bd.state]; rfl
  have N0 := Fr.nil n0
  have pre0 : ∀ t, Steps p.tables e below (s₁.setTop (mkF m 0 #[.val (.int (97 : Int32))] [])) t → Steps p.tables e below (s₁.setTop (entryFrame m #[(.int (97 : Int32))] 1)) t := fun t k => castTop (ef_rmTB m ) k
  obtain ⟨T1, h1, k1, X1, e1, E1, A1, st1⟩ := newP X0 hx hZ (hw _ (List.mem_of_getElem? (i := 25) rfl)) e0 (g := (mkF m 1 #[.val (.int (97 : Int32))] [(.int (1 : Int32))])) rfl (hb hby d_jdk_43_method_46_1) rfl (by decide) (cap := 1) (by decide) (by decide) (by decide) (by decide)
  obtain ⟨b1, g1⟩ : ∃ z, z = h0.size := ⟨_, rfl⟩
  rw [← g1] at A1 st1
  have g_b1 : n0 ≤ b1 := Nat.le_trans Z0 (Nat.le_of_eq g1.symm)
  have sz_b1 : h0.size ≤ b1 := Nat.le_trans (Keep.refl h0 []).1 (Nat.le_of_eq g1.symm)
  have K1 : Keep h0 h1 [] := (Keep.refl h0 []).ext E1
  have Zs1 : n0 ≤ h1.size := Nat.le_trans Z0 E1.1
  have V_b1 : Arv Z h1 b1 k1 .byte (1 : Int32) [(.int (0 : Int32))] (.int (0 : Int32)) := (Arv.new A1 (by decide)).pad (pad_rep [] (.int (0 : Int32)) 1)
  have Vo2 := V_b1
  obtain ⟨cl2, Ar2, q2, S2, Ng2, Hs2, Gf2⟩ := Vo2
  have hin2 : ¬ ((0 : Int32) < 0 ∨ cl2.slots.size ≤ ((0 : Int32)).toNatClampNeg) := inb_of S2 ⟨by decide, by decide⟩
  obtain ⟨T2, h2, X2, e2, W2, st2⟩ := stB X1 hx hZ e1 Ar2 (j := (0 : Int32)) hin2 (g := (mkF m 7 #[.val (.int (97 : Int32))] [(.int (97 : Int32)), (.int (0 : Int32)), (.ref b1), (.ref b1)])) rfl rfl (hb hby d_jdk_43_method_46_7)
  have V_b1__2 : Arv Z h2 b1 k1 .byte (1 : Int32) [(.int (nar .byte (97 : Int32)))] (.int (0 : Int32)) := Arv.set Ar2 q2 S2 Ng2 Hs2 Gf2 (fits_nar_byte _) W2 0 rfl (Nat.le_of_ble_eq_true rfl)
  rw [own_n97] at V_b1__2
  have K2 : Keep h0 h2 [] := K1.wr W2 (Or.inr sz_b1)
  have Zs2 : n0 ≤ h2.size := Nat.le_trans Zs1 (Keep.of_wr W2).1
  have N2 := Fr.snoc X2 N0 g_b1
  obtain ⟨fs, hr, hrun, hended, hW, hsame⟩ := X2.leave (v := some (.ref b1)) (fun h => by rw [Bd.returns] at h; cases h)
  refine ⟨_, _, pre0 _ ?_, hrun, hended, _, _, rfl, ?_, ⟨_, rfl⟩, hW, hsame.mono (by decide) (by decide)⟩
  · show Steps p.tables e below (s₁.setTop (mkF m 0 #[.val (.int (97 : Int32))] [])) _
    refine XS.iconst X0.here hx rfl (hb hby d_jdk_43_method_46_0) ?_
    show Steps p.tables e below (s₁.setTop (mkF m 1 #[.val (.int (97 : Int32))] [(.int (1 : Int32))])) _
    refine st1 _ ?_
    show Steps p.tables e below (T1.setTop (mkF m 3 #[.val (.int (97 : Int32))] [(.ref b1)])) _
    refine XS.dup X1.here hx rfl (hb hby d_jdk_43_method_46_3) rfl rfl ?_
    show Steps p.tables e below (T1.setTop (mkF m 4 #[.val (.int (97 : Int32))] [(.ref b1), (.ref b1)])) _
    refine XS.iconst X1.here hx rfl (hb hby d_jdk_43_method_46_4) ?_
    show Steps p.tables e below (T1.setTop (mkF m 5 #[.val (.int (97 : Int32))] [(.int (0 : Int32)), (.ref b1), (.ref b1)])) _
    refine XS.iloadN X1.here hx rfl (hb hby d_jdk_43_method_46_5) rfl ?_
    show Steps p.tables e below (T1.setTop (mkF m 6 #[.val (.int (97 : Int32))] [(.int (97 : Int32)), (.int (0 : Int32)), (.ref b1), (.ref b1)])) _
    refine XS.i2b X1.here hx rfl (hb hby d_jdk_43_method_46_6) rfl ?_
    show Steps p.tables e below (T1.setTop (mkF m 7 #[.val (.int (97 : Int32))] [(.int ((97 : Int32).toInt8.toInt32)), (.int (0 : Int32)), (.ref b1), (.ref b1)])) _
    rw [(by decide : ((97 : Int32).toInt8.toInt32) = (97 : Int32))]
    show Steps p.tables e below (T1.setTop (mkF m 7 #[.val (.int (97 : Int32))] [(.int (97 : Int32)), (.int (0 : Int32)), (.ref b1), (.ref b1)])) _
    refine st2 _ ?_
    show Steps p.tables e below (T2.setTop (mkF m 8 #[.val (.int (97 : Int32))] [(.ref b1)])) _
    jvm_step X2.here [X2.here.top, hx, (hb hby d_jdk_43_method_46_8), X2.method', Bd.returns, Value.isRef, FieldType.isReference]
    first | (intro acts; rw [hr _ acts rfl rfl rfl]) | rw [hr _ _ rfl rfl rfl]
    exact Steps.refl _
  · show Q_rmTB Z  h0 n0 _ T2.heap _
    rw [e2]
    exact ⟨b1, _, rfl, N2, g_b1, sz_b1, K2, V_b1__2⟩
theorem d_jdk_42_method_151_0 : decode jdk_42_method_151_code 0 = .ok (.aload_n 0, 1) := by decide +kernel
theorem d_jdk_42_method_151_1 : decode jdk_42_method_151_code 1 = .ok (.invokespecial 1, 3) := by decide +kernel
theorem d_jdk_42_method_151_4 : decode jdk_42_method_151_code 4 = .ok (.aload_n 0, 1) := by decide +kernel
theorem d_jdk_42_method_151_5 : decode jdk_42_method_151_code 5 = .ok (.aload_n 1, 1) := by decide +kernel
theorem d_jdk_42_method_151_6 : decode jdk_42_method_151_code 6 = .ok (.putfield 9, 3) := by decide +kernel
theorem d_jdk_42_method_151_9 : decode jdk_42_method_151_code 9 = .ok (.aload_n 0, 1) := by decide +kernel
theorem d_jdk_42_method_151_10 : decode jdk_42_method_151_code 10 = .ok (.iload_n 2, 1) := by decide +kernel
theorem d_jdk_42_method_151_11 : decode jdk_42_method_151_code 11 = .ok (.putfield 15, 3) := by decide +kernel
theorem d_jdk_42_method_151_14 : decode jdk_42_method_151_code 14 = .ok (.return_, 1) := by decide +kernel
theorem ef_rmSBB (m : MethodId) (a0 : Addr) (a1 : Addr) : entryFrame m #[(.ref a0), (.ref a1), (.int (0 : Int32))] 3 = mkF m 0 #[.val (.ref a0), .val (.ref a1), .val (.int (0 : Int32))] [] := by first | (simp [entryFrame, mkF, argsToLocals, Value.category]; done) | rfl
def Q_rmSBB (Z : State) (a0 : Addr) (a1 : Addr) (u0 : Value) (u1 : Value) (h0 : Heap) (n0 : Nat) (v : Option Value) (h : Heap) (L : List Loc) : Prop := v = none ∧ Fr n0 L ∧ Keep h0 h [a0] ∧ Exa Z h a0 "java/lang/String" ∧ Fld Z h a0 "java/lang/String" "coder" "B" (.int (0 : Int32)) ∧ Fld Z h a0 "java/lang/String" "value" "[B" (.ref a1)
set_option maxRecDepth 65536 in
set_option maxHeartbeats 40000000 in
theorem rmSBB (l : Launch) (Z : State) (aw : Array Value) (hw : ∀ d ∈ tables_1, d.before aw Z = true) (ws : List Jvm.Cond) (a0 : Addr) (a1 : Addr) (u0 : Value) (u1 : Value) (h0 : Heap) (n0 : Nat) (Z0 : n0 ≤ h0.size) (Es : Exa Z h0 a0 "java/lang/String") (g0 : n0 ≤ a0) (Sv : Fld Z h0 a0 "java/lang/String" "value" "[B" u0) (Sk : Fld Z h0 a0 "java/lang/String" "coder" "B" u1) :
    MetFree l (⟨"java/lang/String", "<init>", "([BB)V"⟩ : MethodName) (head1 (Jvm.Cond.code (⟨"java/lang/String", "<init>", "([BB)V"⟩ : MethodName) jdk_42_method_151_code 3 none :: ws) ({ frames := 1, cells := 0, slots := 0, locals := 12 } : Room)) (fun a U => a = #[(.ref a0), (.ref a1), (.int (0 : Int32))] ∧ Z.Warmed39 U.vm ∧ U.heap = h0) (fun _ _ _ _ _ => True) (fun _ U o U' => ∃ v L, o = .returned v ∧ Q_rmSBB Z a0 a1 u0 u1 h0 n0 v U'.heap L ∧ FrameEnd U o U' L ({ frames := 1, cells := 0, slots := 0, locals := 12 } : Room).cells ({ frames := 1, cells := 0, slots := 0, locals := 12 } : Room).slots) := by
  refine MetFree.of_bodySF (plainFor_of_name pn_java_lang_String) hisR ?_
  intro p e s m args below meth cd s₁ Bd hml0 hP hK
  obtain ⟨rfl, hZ, hh⟩ := hP
  have hx := Bd.exec
  have hby := Bd.bytes
  have hml : cd.maxLocals = 3 := hml0
  have hown : s.vm.findClass "java/lang/String" = some m.cls := findClass_of_methodNamed Bd.named
  have hnm := (name_of_methodNamed Bd.named Bd.method).1
  have X0 : Stand p l e ({ frames := 1, cells := 0, slots := 0, locals := 12 } : Room) s m #[(.ref a0), (.ref a1), (.int (0 : Int32))] below meth cd s₁ [] 0 0 := Stand.of_body Bd
  have e0 : s₁.heap = h0 := by rw [← hh, Bd.state]; rfl
  have N0 := Fr.nil n0
  have pre0 : ∀ t, Steps p.tables e below (s₁.setTop (mkF m 0 #[.val (.ref a0), .val (.ref a1), .val (.int (0 : Int32))] [])) t → Steps p.tables e below (s₁.setTop (entryFrame m #[(.ref a0), (.ref a1), (.int (0 : Int32))] 3)) t := fun t k => castTop (ef_rmSBB m a0 a1) k
  obtain ⟨T1, X1, e1, st1⟩ := initO X0 hx hZ hown (hw _ (List.mem_of_getElem? (i := 136) rfl)) (hw _ (List.mem_of_getElem? (i := 8) rfl)) (hw _ (List.mem_of_getElem? (i := 9) rfl)) e0 (g := (mkF m 1 #[.val (.ref a0), .val (.ref a1), .val (.int (0 : Int32))] [(.ref a0)])) rfl (by rw [hml]; rfl) rfl (hb hby d_jdk_42_method_151_1) (by decide) (W := 0) (by show 2 * 0 + _ ≤ _; exact Nat.le_of_eq rfl) (by decide)
  obtain ⟨T2, h2, X2, e2, W2, st2⟩ := putF X1 hx hZ hown (host := "") (Or.inl (hw _ (List.mem_of_getElem? (i := 65) rfl))) Via.refl e1 Sv Es (Or.inr ⟨(hw _ (List.mem_of_getElem? (i := 34) rfl)), rfl, hnm⟩) (hw _ (List.mem_of_getElem? (i := 33) rfl)) (ty := (.array .byte)) (by decide) rfl rfl (g := (mkF m 6 #[.val (.ref a0), .val (.ref a1), .val (.int (0 : Int32))] [(.ref a1), (.ref a0)])) rfl rfl (hb hby d_jdk_42_method_151_6)
  have Es__2 := Es.wr W2
  have Sv__2 := Sv.same W2
  have Sk__2 := Sk.other W2 (Or.inr (slot_ne (Or.inr (hw _ (List.mem_of_getElem? (i := 35) rfl))) (Or.inr (hw _ (List.mem_of_getElem? (i := 34) rfl))) (by decide) (t := .byte) (t' := (.array .byte)) (by decide) (by decide)))
  have K2 : Keep h0 h2 [a0] := (Keep.refl h0 [a0]).wr W2 (Or.inl (List.mem_of_getElem? (i := 0) rfl))
  have Zs2 : n0 ≤ h2.size := Nat.le_trans Z0 (Keep.of_wr W2).1
  have N2 := Fr.snoc X2 N0 g0
  obtain ⟨T3, h3, X3, e3, W3, st3⟩ := putFN X2 hx hZ hown (hw _ (List.mem_of_getElem? (i := 72) rfl)) Via.refl e2 Sk__2 Es__2 (Or.inr ⟨(hw _ (List.mem_of_getElem? (i := 35) rfl)), rfl, hnm⟩) (hw _ (List.mem_of_getElem? (i := 33) rfl)) (ty := .byte) (v' := (.int (0 : Int32))) (by decide) (by decide) (by decide) (g := (mkF m 11 #[.val (.ref a0), .val (.ref a1), .val (.int (0 : Int32))] [(.int (0 : Int32)), (.ref a0)])) rfl rfl (hb hby d_jdk_42_method_151_11)
  have Es__3 := Es__2.wr W3
  have Sv__3 := Sv__2.other W3 (Or.inr (slot_ne (Or.inr (hw _ (List.mem_of_getElem? (i := 34) rfl))) (Or.inr (hw _ (List.mem_of_getElem? (i := 35) rfl))) (by decide) (t := (.array .byte)) (t' := .byte) (by decide) (by decide)))
  have Sk__3 := Sk__2.same W3
  have K3 : Keep h0 h3 [a0] := K2.wr W3 (Or.inl (List.mem_of_getElem? (i := 0) rfl))
  have Zs3 : n0 ≤ h3.size := Nat.le_trans Zs2 (Keep.of_wr W3).1
  have N3 := Fr.snoc X3 N2 g0
  obtain ⟨fs, hr, hrun, hended, hW, hsame⟩ := X3.leave (v := none) (fun _ => rfl)
  refine ⟨_, _, pre0 _ ?_, hrun, hended, _, _, rfl, ?_, ⟨_, rfl⟩, hW, hsame.mono (by decide) (by decide)⟩
  · show Steps p.tables e below (s₁.setTop (mkF m 0 #[.val (.ref a0), .val (.ref a1), .val (.int (0 : Int32))] [])) _
    refine XS.aloadN X0.here hx rfl (hb hby d_jdk_42_method_151_0) rfl rfl ?_
    show Steps p.tables e below (s₁.setTop (mkF m 1 #[.val (.ref a0), .val (.ref a1), .val (.int (0 : Int32))] [(.ref a0)])) _
    refine st1 _ ?_
    show Steps p.tables e below (T1.setTop (mkF m 4 #[.val (.ref a0), .val (.ref a1), .val (.int (0 : Int32))] [])) _
    refine XS.aloadN X1.here hx rfl (hb hby d_jdk_42_method_151_4) rfl rfl ?_
    show Steps p.tables e below (T1.setTop (mkF m 5 #[.val (.ref a0), .val (.ref a1), .val (.int (0 : Int32))] [(.ref a0)])) _
    refine XS.aloadN X1.here hx rfl (hb hby d_jdk_42_method_151_5) rfl rfl ?_
    show Steps p.tables e below (T1.setTop (mkF m 6 #[.val (.ref a0), .val (.ref a1), .val (.int (0 : Int32))] [(.ref a1), (.ref a0)])) _
    refine st2 _ ?_
    show Steps p.tables e below (T2.setTop (mkF m 9 #[.val (.ref a0), .val (.ref a1), .val (.int (0 : Int32))] [])) _
    refine XS.aloadN X2.here hx rfl (hb hby d_jdk_42_method_151_9) rfl rfl ?_
    show Steps p.tables e below (T2.setTop (mkF m 10 #[.val (.ref a0), .val (.ref a1), .val (.int (0 : Int32))] [(.ref a0)])) _
    refine XS.iloadN X2.here hx rfl (hb hby d_jdk_42_method_151_10) rfl ?_
    show Steps p.tables e below (T2.setTop (mkF m 11 #[.val (.ref a0), .val (.ref a1), .val (.int (0 : Int32))] [(.int (0 : Int32)), (.ref a0)])) _
    refine st3 _ ?_
    show Steps p.tables e below (T3.setTop (mkF m 14 #[.val (.ref a0), .val (.ref a1), .val (.int (0 : Int32))] [])) _
    exact X3.returnOut hx Bd.returns (hb hby d_jdk_42_method_151_14) hr
  · show Q_rmSBB Z a0 a1 u0 u1 h0 n0 _ T3.heap _
    rw [e3]
    exact ⟨rfl, N3, K3, Es__3, Sk__3, Sv__3⟩
theorem d_jdk_42_method_139_0 : decode jdk_42_method_139_code 0 = .ok (.getstatic 38, 3) := by decide +kernel
theorem d_jdk_42_method_139_3 : decode jdk_42_method_139_code 3 = .ok (.ifCond .eq 23, 3) := by decide +kernel
theorem d_jdk_42_method_139_6 : decode jdk_42_method_139_code 6 = .ok (.iload_n 0, 1) := by decide +kernel
theorem d_jdk_42_method_139_7 : decode jdk_42_method_139_code 7 = .ok (.invokestatic 1015, 3) := by decide +kernel
theorem d_jdk_42_method_139_10 : decode jdk_42_method_139_code 10 = .ok (.ifCond .eq 16, 3) := by decide +kernel
theorem d_jdk_42_method_139_13 : decode jdk_42_method_139_code 13 = .ok (.new 10, 3) := by decide +kernel
theorem d_jdk_42_method_139_16 : decode jdk_42_method_139_code 16 = .ok (.dup, 1) := by decide +kernel
theorem d_jdk_42_method_139_17 : decode jdk_42_method_139_code 17 = .ok (.iload_n 0, 1) := by decide +kernel
theorem d_jdk_42_method_139_18 : decode jdk_42_method_139_code 18 = .ok (.invokestatic 1018, 3) := by decide +kernel
theorem d_jdk_42_method_139_21 : decode jdk_42_method_139_code 21 = .ok (.iconst 0, 1) := by decide +kernel
theorem d_jdk_42_method_139_22 : decode jdk_42_method_139_code 22 = .ok (.invokespecial 209, 3) := by decide +kernel
theorem d_jdk_42_method_139_25 : decode jdk_42_method_139_code 25 = .ok (.areturn, 1) := by decide +kernel
theorem pd__C__B : parseMethodDescriptor "(C)[B" = some ⟨[.char], some (.array .byte)⟩ := by decide +kernel
theorem pd___BB_V : parseMethodDescriptor "([BB)V" = some ⟨[(.array .byte), .byte], none⟩ := by decide +kernel
theorem ef_rmVO (m : MethodId)  : entryFrame m #[(.int (97 : Int32))] 1 = mkF m 0 #[.val (.int (97 : Int32))] [] := by first | (simp [entryFrame, mkF, argsToLocals, Value.category]; done) | rfl
def Q_rmVO (Z : State) (cs : Int32) (h0 : Heap) (n0 : Nat) (v : Option Value) (h : Heap) (L : List Loc) : Prop := ∃ (st : Addr) (d : Addr) (kd : ClassId), v = some (.ref st) ∧ Fr n0 L ∧ Keep h0 h [] ∧ Exa Z h st "java/lang/String" ∧ Fld Z h st "java/lang/String" "coder" "B" (.int (0 : Int32)) ∧ Fld Z h st "java/lang/String" "value" "[B" (.ref d) ∧ Arv Z h d kd .byte (1 : Int32) [(.int (97 : Int32))] (.int (0 : Int32))
set_option maxRecDepth 65536 in
set_option maxHeartbeats 40000000 in
theorem rmVO (l : Launch) (Z : State) (aw : Array Value) (hw : ∀ d ∈ tables_1, d.before aw Z = true) (ws : List Jvm.Cond) (cs : Int32) (h0 : Heap) (n0 : Nat) (Z0 : n0 ≤ h0.size) (S0 : Sta Z h0 "java/lang/String" "COMPACT_STRINGS" "Z" (.int cs)) (hcs : ¬ (cs = (0 : Int32))) :
    MetFree l (⟨"java/lang/String", "valueOf", "(C)Ljava/lang/String;"⟩ : MethodName) (head1 (Jvm.Cond.code (⟨"java/lang/String", "valueOf", "(C)Ljava/lang/String;"⟩ : MethodName) jdk_42_method_139_code 1 (some (.object "java/lang/String")) :: ws) ({ frames := 2, cells := 2, slots := 5, locals := 27 } : Room)) (fun a U => a = #[(.int (97 : Int32))] ∧ Z.Warmed39 U.vm ∧ U.heap = h0) (fun _ _ _ _ _ => True) (fun _ U o U' => ∃ v L, o = .returned v ∧ Q_rmVO Z cs h0 n0 v U'.heap L ∧ FrameEnd U o U' L ({ frames := 2, cells := 2, slots := 5, locals := 27 } : Room).cells ({ frames := 2, cells := 2, slots := 5, locals := 27 } : Room).slots) := by
  refine MetFree.of_bodySF (plainFor_of_name pn_java_lang_String) hisR ?_
  intro p e s m args below meth cd s₁ Bd hml0 hP hK
  obtain ⟨rfl, hZ, hh⟩ := hP
  have hx := Bd.exec
  have hby := Bd.bytes
  have hml : cd.maxLocals = 1 := hml0
  have hown : s.vm.findClass "java/lang/String" = some m.cls := findClass_of_methodNamed Bd.named
  have hnm := (name_of_methodNamed Bd.named Bd.method).1
  have X0 : Stand p l e ({ frames := 2, cells := 2, slots := 5, locals := 27 } : Room) s m #[(.int (97 : Int32))] below meth cd s₁ [] 0 0 := Stand.of_body Bd
  have e0 : s₁.heap = h0 := by rw [← hh, Bd.state]; rfl
  have N0 := Fr.nil n0
  have pre0 : ∀ t, Steps p.tables e below (s₁.setTop (mkF m 0 #[.val (.int (97 : Int32))] [])) t → Steps p.tables e below (s₁.setTop (entryFrame m #[(.int (97 : Int32))] 1)) t := fun t k => castTop (ef_rmVO m ) k
  obtain ⟨T1, X1, e1, st1⟩ := getS2 X0 hx hZ hown (host := "") (Or.inl (hw _ (List.mem_of_getElem? (i := 71) rfl))) Via.refl e0 S0 (g := (mkF m 0 #[.val (.int (97 : Int32))] [])) rfl (hb hby d_jdk_42_method_139_0)
  obtain ⟨_, _, ⟨T2, L2, k2, n2⟩, -, X2, ⟨Lc2, hQ2, l2, y2, z2⟩, st2⟩ := Jvm.LawKit.callS X1 hx (y := (⟨"java/lang/StringLatin1", "canEncode", "(C)Z"⟩ : MethodName)) hown (mvT hZ (hw _ (List.mem_of_getElem? (i := 219) rfl))) (mvT hZ (hw _ (List.mem_of_getElem? (i := 115) rfl))) (mvT hZ (hw _ (List.mem_of_getElem? (i := 116) rfl))) (mvT hZ (hw _ (List.mem_of_getElem? (i := 117) rfl))) (by decide) (backOf (W := 0) (rmCan l Z aw hw [] (97 : Int32) h0 n0 Z0 (by decide)) hZ (hw _ (List.mem_of_getElem? (i := 117) rfl)) (hw _ (List.mem_of_getElem? (i := 116) rfl)) (by decide) (by decide)) (g := (mkF m 7 #[.val (.int (97 : Int32))] [(.int (97 : Int32))])) rfl (by rw [hml]; rfl) (argsL := [(.int (97 : Int32))]) (rest := []) (lenOf pd__C_Z rfl) rfl (by show 2 * 0 + _ ≤ _; exact Nat.le_of_eq rfl) (hb hby d_jdk_42_method_139_7) (fun _ _ => ⟨rfl, e1, (by decide : 0 + 0 ≤ _), (by decide : 0 + 0 ≤ _)⟩)
  dsimp only [Pt.U, Pt.locs, Pt.cells, Pt.slots] at X2 l2 y2 z2 st2 hQ2
  subst l2 y2 z2
  obtain ⟨rfl, N2q, q2⟩ := hQ2
  have N2 := Fr.app N0 N2q
  obtain ⟨T3, h3, X3, e3, E3, A3, D3, -, st3⟩ := newO X2 hx hZ hown (hw _ (List.mem_of_getElem? (i := 171) rfl)) (hw _ (List.mem_of_getElem? (i := 33) rfl)) (hw _ (List.mem_of_getElem? (i := 24) rfl)) q2 (g := (mkF m 13 #[.val (.int (97 : Int32))] [])) rfl (hb hby d_jdk_42_method_139_13) (by decide) (by decide)
  obtain ⟨b3, g3⟩ : ∃ z, z = h0.size := ⟨_, rfl⟩
  rw [← g3] at A3 D3 st3
  have g_b3 : n0 ≤ b3 := Nat.le_trans Z0 (Nat.le_of_eq g3.symm)
  have sz_b3 : h0.size ≤ b3 := Nat.le_trans (Keep.refl h0 []).1 (Nat.le_of_eq g3.symm)
  have S0__3 := S0.ext E3
  have K3 : Keep h0 h3 [] := (Keep.refl h0 []).ext E3
  have Zs3 : n0 ≤ h3.size := Nat.le_trans Z0 E3.1
  have F_value_b3 : Fld Z h3 b3 "java/lang/String" "value" "[B" .null := D3 (Or.inr (hw _ (List.mem_of_getElem? (i := 34) rfl))) (ty := (.array .byte)) (by decide)
  have F_coder_b3 : Fld Z h3 b3 "java/lang/String" "coder" "B" (.int (0 : Int32)) := D3 (Or.inr (hw _ (List.mem_of_getElem? (i := 35) rfl))) (ty := .byte) (by decide)
  obtain ⟨_, _, ⟨T4, L4, k4, n4⟩, -, X4, ⟨Lc4, hQ4, l4, y4, z4⟩, st4⟩ := Jvm.LawKit.callS X3 hx (y := (⟨"java/lang/StringLatin1", "toBytes", "(C)[B"⟩ : MethodName)) hown (mvT hZ (hw _ (List.mem_of_getElem? (i := 220) rfl))) (mvT hZ (hw _ (List.mem_of_getElem? (i := 221) rfl))) (mvT hZ (hw _ (List.mem_of_getElem? (i := 116) rfl))) (mvT hZ (hw _ (List.mem_of_getElem? (i := 222) rfl))) (by decide) (backOf (W := 2) (rmTB l Z aw hw [] h3 n0 Zs3) hZ (hw _ (List.mem_of_getElem? (i := 222) rfl)) (hw _ (List.mem_of_getElem? (i := 116) rfl)) (by decide) (by decide)) (g := (mkF m 18 #[.val (.int (97 : Int32))] [(.int (97 : Int32)), (.ref b3), (.ref b3)])) rfl (by rw [hml]; rfl) (argsL := [(.int (97 : Int32))]) (rest := [(.ref b3), (.ref b3)]) (lenOf pd__C__B rfl) rfl (by show 2 * 0 + _ ≤ _; exact Nat.le_of_eq rfl) (hb hby d_jdk_42_method_139_18) (fun _ _ => ⟨rfl, e3, (by decide : 1 + 1 ≤ _), (by decide : 4 + 1 ≤ _)⟩)
  dsimp only [Pt.U, Pt.locs, Pt.cells, Pt.slots] at X4 l4 y4 z4 st4 hQ4
  subst l4 y4 z4
  obtain ⟨d, kd, rfl, N4q, gd, szd, Kc4, Vd4⟩ := hQ4
  have N4 := Fr.app N2 N4q
  have S0__4 := own_sta_keep S0__3 Kc4 ns0
  have A3__4 := A3.keep Kc4
  have F_value_b3__4 := F_value_b3.keep Kc4 (fun q => nomatch q)
  have F_coder_b3__4 := F_coder_b3.keep Kc4 (fun q => nomatch q)
  have KK4 : Keep h0 T4.heap [] := Keep.trans K3 Kc4 (fun _ q => nomatch q)
  have Zs4 : n0 ≤ T4.heap.size := Nat.le_trans Zs3 Kc4.1
  obtain ⟨_, _, ⟨T5, L5, k5, n5⟩, -, X5, ⟨Lc5, hQ5, l5, y5, z5⟩, st5⟩ := X4.specialBack hx (y := (⟨"java/lang/String", "<init>", "([BB)V"⟩ : MethodName)) rfl hown (mvT hZ (hw _ (List.mem_of_getElem? (i := 223) rfl))) (mvT hZ (hw _ (List.mem_of_getElem? (i := 224) rfl))) (mvT hZ (hw _ (List.mem_of_getElem? (i := 225) rfl))) (by decide) (backOf (W := 1) (rmSBB l Z aw hw [] b3 d .null (.int 0) T4.heap n0 Zs4 A3__4 g_b3 F_value_b3__4 F_coder_b3__4) hZ (hw _ (List.mem_of_getElem? (i := 225) rfl)) (hw _ (List.mem_of_getElem? (i := 24) rfl)) (by decide) (by decide)) (g := (mkF m 22 #[.val (.int (97 : Int32))] [(.int (0 : Int32)), (.ref d), (.ref b3), (.ref b3)])) rfl (by rw [hml]; rfl) (Steps.refl _) (a := b3) (argsL := [(.ref d), (.int (0 : Int32))]) (rest := [(.ref b3)]) (lenOf pd___BB_V rfl) rfl (by show 2 * 0 + _ ≤ _; exact Nat.le_of_eq rfl) (hb hby d_jdk_42_method_139_22) (fun _ _ => ⟨rfl, rfl, (by decide : 2 + 0 ≤ _), (by decide : 5 + 0 ≤ _)⟩)
  dsimp only [Pt.U, Pt.locs, Pt.cells, Pt.slots] at X5 l5 y5 z5 st5 hQ5
  subst l5 y5 z5
  obtain ⟨rfl, N5q, Kc5, Es5, Sk5, Sv5⟩ := hQ5
  have N5 := Fr.app N4 N5q
  have S0__5 := own_sta_keep S0__4 Kc5 (nsS (A3__4.nostat) ns0)
  have Vd4__5 := Vd4.keep Kc5 (fun q => (Ne.symm (A3__4.neArv Vd4 (hw _ (List.mem_of_getElem? (i := 33) rfl)))) (List.mem_singleton.mp q))
  have KK5 : Keep h0 T5.heap [] := Keep.trans KK4 Kc5 (fun x q => by cases List.mem_singleton.mp q; exact (Or.inr sz_b3))
  have Zs5 : n0 ≤ T5.heap.size := Nat.le_trans Zs4 Kc5.1
  obtain ⟨fs, hr, hrun, hended, hW, hsame⟩ := X5.leave (v := some (.ref b3)) (fun h => by rw [Bd.returns] at h; cases h)
  refine ⟨_, _, pre0 _ ?_, hrun, hended, _, _, rfl, ?_, ⟨_, rfl⟩, hW, hsame.mono (by decide) (by decide)⟩
  · show Steps p.tables e below (s₁.setTop (mkF m 0 #[.val (.int (97 : Int32))] [])) _
    refine st1 _ ?_
    show Steps p.tables e below (T1.setTop (mkF m 3 #[.val (.int (97 : Int32))] [(.int cs)])) _
    refine XS.ifNo X1.here hx rfl (hb hby d_jdk_42_method_139_3) rfl ((if0 _ _).trans (feq (hcs : ¬ (cs = (0 : Int32)))).1) ?_
    show Steps p.tables e below (T1.setTop (mkF m 6 #[.val (.int (97 : Int32))] [])) _
    refine XS.iloadN X1.here hx rfl (hb hby d_jdk_42_method_139_6) rfl ?_
    show Steps p.tables e below (T1.setTop (mkF m 7 #[.val (.int (97 : Int32))] [(.int (97 : Int32))])) _
    refine st2 _ ?_
    show Steps p.tables e below (T2.setTop (mkF m 10 #[.val (.int (97 : Int32))] [(.int (1 : Int32))])) _
    refine XS.ifNo X2.here hx rfl (hb hby d_jdk_42_method_139_10) rfl ((if0 _ _).trans (feq (by decide : ¬ ((1 : Int32) = (0 : Int32)))).1) ?_
    show Steps p.tables e below (T2.setTop (mkF m 13 #[.val (.int (97 : Int32))] [])) _
    refine st3 _ ?_
    show Steps p.tables e below (T3.setTop (mkF m 16 #[.val (.int (97 : Int32))] [(.ref b3)])) _
    refine XS.dup X3.here hx rfl (hb hby d_jdk_42_method_139_16) rfl rfl ?_
    show Steps p.tables e below (T3.setTop (mkF m 17 #[.val (.int (97 : Int32))] [(.ref b3), (.ref b3)])) _
    refine XS.iloadN X3.here hx rfl (hb hby d_jdk_42_method_139_17) rfl ?_
    show Steps p.tables e below (T3.setTop (mkF m 18 #[.val (.int (97 : Int32))] [(.int (97 : Int32)), (.ref b3), (.ref b3)])) _
    refine st4 _ ?_
    show Steps p.tables e below (T4.setTop (mkF m 21 #[.val (.int (97 : Int32))] [(.ref d), (.ref b3), (.ref b3)])) _
    refine XS.iconst X4.here hx rfl (hb hby d_jdk_42_method_139_21) ?_
    show Steps p.tables e below (T4.setTop (mkF m 22 #[.val (.int (97 : Int32))] [(.int (0 : Int32)), (.ref d), (.ref b3), (.ref b3)])) _
    refine st5.trans ?_
    show Steps p.tables e below (T5.setTop (mkF m 25 #[.val (.int (97 : Int32))] [(.ref b3)])) _
    jvm_step X5.here [X5.here.top, hx, (hb hby d_jdk_42_method_139_25), X5.method', Bd.returns, Value.isRef, FieldType.isReference]
    first | (intro acts; rw [hr _ acts rfl rfl rfl]) | rw [hr _ _ rfl rfl rfl]
    exact Steps.refl _
  · show Q_rmVO Z cs h0 n0 _ T5.heap _
    exact ⟨b3, d, kd, rfl, N5, KK5, Es5, Sk5, Sv5, Vd4__5⟩
theorem d_prog_20_method_16_0 : decode prog_20_method_16_code 0 = .ok (.aload_n 0, 1) := by decide +kernel
theorem d_prog_20_method_16_1 : decode prog_20_method_16_code 1 = .ok (.getfield 10, 3) := by decide +kernel
theorem d_prog_20_method_16_4 : decode prog_20_method_16_code 4 = .ok (.bipush 34, 2) := by decide +kernel
theorem d_prog_20_method_16_6 : decode prog_20_method_16_code 6 = .ok (.invokevirtual 30, 3) := by decide +kernel
theorem d_prog_20_method_16_9 : decode prog_20_method_16_code 9 = .ok (.pop, 1) := by decide +kernel
theorem d_prog_20_method_16_10 : decode prog_20_method_16_code 10 = .ok (.iconst 0, 1) := by decide +kernel
theorem d_prog_20_method_16_11 : decode prog_20_method_16_code 11 = .ok (.istore_n 2, 1) := by decide +kernel
theorem d_prog_20_method_16_12 : decode prog_20_method_16_code 12 = .ok (.iload_n 2, 1) := by decide +kernel
theorem d_prog_20_method_16_13 : decode prog_20_method_16_code 13 = .ok (.aload_n 1, 1) := by decide +kernel
theorem d_prog_20_method_16_14 : decode prog_20_method_16_code 14 = .ok (.invokevirtual 84, 3) := by decide +kernel
theorem d_prog_20_method_16_17 : decode prog_20_method_16_code 17 = .ok (.if_icmp .ge 167, 3) := by decide +kernel
theorem d_prog_20_method_16_20 : decode prog_20_method_16_code 20 = .ok (.aload_n 1, 1) := by decide +kernel
theorem d_prog_20_method_16_21 : decode prog_20_method_16_code 21 = .ok (.iload_n 2, 1) := by decide +kernel
theorem d_prog_20_method_16_22 : decode prog_20_method_16_code 22 = .ok (.invokevirtual 90, 3) := by decide +kernel
theorem d_prog_20_method_16_25 : decode prog_20_method_16_code 25 = .ok (.istore_n 3, 1) := by decide +kernel
theorem d_prog_20_method_16_26 : decode prog_20_method_16_code 26 = .ok (.iload_n 3, 1) := by decide +kernel
theorem d_prog_20_method_16_27 : decode prog_20_method_16_code 27 = .ok (.lookupswitch 114 #[(9, 101), (10, 75), (13, 88), (34, 49), (92, 62)], 49) := by decide +kernel
theorem d_prog_20_method_16_141 : decode prog_20_method_16_code 141 = .ok (.aload_n 0, 1) := by decide +kernel
theorem d_prog_20_method_16_142 : decode prog_20_method_16_code 142 = .ok (.getfield 10, 3) := by decide +kernel
theorem d_prog_20_method_16_145 : decode prog_20_method_16_code 145 = .ok (.iload_n 3, 1) := by decide +kernel
theorem d_prog_20_method_16_146 : decode prog_20_method_16_code 146 = .ok (.bipush 32, 2) := by decide +kernel
theorem d_prog_20_method_16_148 : decode prog_20_method_16_code 148 = .ok (.if_icmp .ge 22, 3) := by decide +kernel
theorem d_prog_20_method_16_170 : decode prog_20_method_16_code 170 = .ok (.iload_n 3, 1) := by decide +kernel
theorem d_prog_20_method_16_171 : decode prog_20_method_16_code 171 = .ok (.invokestatic 116, 3) := by decide +kernel
theorem d_prog_20_method_16_174 : decode prog_20_method_16_code 174 = .ok (.invokevirtual 77, 3) := by decide +kernel
theorem d_prog_20_method_16_177 : decode prog_20_method_16_code 177 = .ok (.pop, 1) := by decide +kernel
theorem d_prog_20_method_16_178 : decode prog_20_method_16_code 178 = .ok (.iinc 2 1, 3) := by decide +kernel
theorem d_prog_20_method_16_181 : decode prog_20_method_16_code 181 = .ok (.goto (-169), 3) := by decide +kernel
theorem d_prog_20_method_16_184 : decode prog_20_method_16_code 184 = .ok (.aload_n 0, 1) := by decide +kernel
theorem d_prog_20_method_16_185 : decode prog_20_method_16_code 185 = .ok (.getfield 10, 3) := by decide +kernel
theorem d_prog_20_method_16_188 : decode prog_20_method_16_code 188 = .ok (.bipush 34, 2) := by decide +kernel
theorem d_prog_20_method_16_190 : decode prog_20_method_16_code 190 = .ok (.invokevirtual 30, 3) := by decide +kernel
theorem d_prog_20_method_16_193 : decode prog_20_method_16_code 193 = .ok (.pop, 1) := by decide +kernel
theorem d_prog_20_method_16_194 : decode prog_20_method_16_code 194 = .ok (.return_, 1) := by decide +kernel
theorem pd__I_C : parseMethodDescriptor "(I)C" = some ⟨[.int], some .char⟩ := by decide +kernel
theorem pd__C_Ljava_lang_String_ : parseMethodDescriptor "(C)Ljava/lang/String;" = some ⟨[.char], some (.object "java/lang/String")⟩ := by decide +kernel
theorem ef_rmQ (m : MethodId) (a0 : Addr) (a1 : Addr) : entryFrame m #[(.ref a0), (.ref a1)] 4 = mkF m 0 #[.val (.ref a0), .val (.ref a1), .unset, .unset] [] := by first | (simp [entryFrame, mkF, argsToLocals, Value.category]; done) | rfl
def Q_rmQ (Z : State) (a0 : Addr) (a1 : Addr) (sb : Addr) (b : Addr) (k : ClassId) (d : Addr) (kd : ClassId) (fm : Value) (cs : Int32) (h0 : Heap) (n0 : Nat) (v : Option Value) (h : Heap) (L : List Loc) : Prop := v = none ∧ Fr n0 L ∧ Keep h0 h [a0, sb, b] ∧ Exa Z h a0 "latentrace/io/JsonWriter" ∧ Fld Z h a0 "latentrace/io/JsonWriter" "text" "Ljava/lang/StringBuilder;" (.ref sb) ∧ Fld Z h a0 "latentrace/io/JsonWriter" "afterValue" "Z" (.int (0 : Int32)) ∧ Exa Z h sb "java/lang/StringBuilder" ∧ Fld Z h sb "java/lang/AbstractStringBuilder" "value" "[B" (.ref b) ∧ Fld Z h sb "java/lang/AbstractStringBuilder" "coder" "B" (.int (0 : Int32)) ∧ Fld Z h sb "java/lang/AbstractStringBuilder" "count" "I" (.int (4 : Int32)) ∧ Arv Z h b k .byte (16 : Int32) [(.int (123 : Int32)), (.int (34 : Int32)), (.int (97 : Int32)), (.int (34 : Int32)), (.int (0 : Int32)), (.int (0 : Int32)), (.int (0 : Int32)), (.int (0 : Int32)), (.int (0 : Int32)), (.int (0 : Int32)), (.int (0 : Int32)), (.int (0 : Int32)), (.int (0 : Int32)), (.int (0 : Int32)), (.int (0 : Int32)), (.int (0 : Int32))] (.int (0 : Int32))
set_option maxRecDepth 65536 in
set_option maxHeartbeats 40000000 in
theorem rmQ (l : Launch) (Z : State) (aw : Array Value) (hw : ∀ d ∈ tables_1, d.before aw Z = true) (ws : List Jvm.Cond) (a0 : Addr) (a1 : Addr) (sb : Addr) (b : Addr) (k : ClassId) (d : Addr) (kd : ClassId) (fm : Value) (cs : Int32) (h0 : Heap) (n0 : Nat) (Z0 : n0 ≤ h0.size) (EJ : Exa Z h0 a0 "latentrace/io/JsonWriter") (gJ : n0 ≤ a0) (Ft : Fld Z h0 a0 "latentrace/io/JsonWriter" "text" "Ljava/lang/StringBuilder;" (.ref sb)) (Fa : Fld Z h0 a0 "latentrace/io/JsonWriter" "afterValue" "Z" (.int (0 : Int32))) (E0 : Exa Z h0 sb "java/lang/StringBuilder") (g0 : n0 ≤ sb) (Fv : Fld Z h0 sb "java/lang/AbstractStringBuilder" "value" "[B" (.ref b)) (Fk : Fld Z h0 sb "java/lang/AbstractStringBuilder" "coder" "B" (.int (0 : Int32))) (Fn : Fld Z h0 sb "java/lang/AbstractStringBuilder" "count" "I" (.int (1 : Int32))) (V0 : Arv Z h0 b k .byte (16 : Int32) [(.int (123 : Int32)), (.int (0 : Int32)), (.int (0 : Int32)), (.int (0 : Int32)), (.int (0 : Int32)), (.int (0 : Int32)), (.int (0 : Int32)), (.int (0 : Int32)), (.int (0 : Int32)), (.int (0 : Int32)), (.int (0 : Int32)), (.int (0 : Int32)), (.int (0 : Int32)), (.int (0 : Int32)), (.int (0 : Int32)), (.int (0 : Int32))] (.int (0 : Int32))) (gb : n0 ≤ b) (Es : Exa Z h0 a1 "java/lang/String") (Sk : Fld Z h0 a1 "java/lang/String" "coder" "B" (.int (0 : Int32))) (Sv : Fld Z h0 a1 "java/lang/String" "value" "[B" (.ref d)) (W0 : Arv Z h0 d kd .byte (1 : Int32) [(.int (97 : Int32))] (.int (0 : Int32))) (SF : Sta Z h0 "jdk/internal/util/Preconditions" "SIOOBE_FORMATTER" "Ljava/util/function/BiFunction;" fm) (S0 : Sta Z h0 "java/lang/String" "COMPACT_STRINGS" "Z" (.int cs)) (hfm : fm.isRef = true) (hcs : ¬ (cs = (0 : Int32))) :
    MetFree l (⟨"latentrace/io/JsonWriter", "quote", "(Ljava/lang/String;)V"⟩ : MethodName) (head1 (Jvm.Cond.code (⟨"latentrace/io/JsonWriter", "quote", "(Ljava/lang/String;)V"⟩ : MethodName) prog_20_method_16_code 4 none :: ws) ({ frames := 5, cells := 2, slots := 5, locals := 87 } : Room)) (fun a U => a = #[(.ref a0), (.ref a1)] ∧ Z.Warmed39 U.vm ∧ U.heap = h0) (fun _ _ _ _ _ => True) (fun _ U o U' => ∃ v L, o = .returned v ∧ Q_rmQ Z a0 a1 sb b k d kd fm cs h0 n0 v U'.heap L ∧ FrameEnd U o U' L ({ frames := 5, cells := 2, slots := 5, locals := 87 } : Room).cells ({ frames := 5, cells := 2, slots := 5, locals := 87 } : Room).slots) := by
  refine MetFree.of_bodySF (plainFor_of_name pn_latentrace_io_JsonWriter) hisR ?_
  intro p e s m args below meth cd s₁ Bd hml0 hP hK
  obtain ⟨rfl, hZ, hh⟩ := hP
  have hx := Bd.exec
  have hby := Bd.bytes
  have hml : cd.maxLocals = 4 := hml0
  have hown : s.vm.findClass "latentrace/io/JsonWriter" = some m.cls := findClass_of_methodNamed Bd.named
  have hnm := (name_of_methodNamed Bd.named Bd.method).1
  have X0 : Stand p l e ({ frames := 5, cells := 2, slots := 5, locals := 87 } : Room) s m #[(.ref a0), (.ref a1)] below meth cd s₁ [] 0 0 := Stand.of_body Bd
  have e0 : s₁.heap = h0 := by rw [← hh, Bd.state]; rfl
  have N0 := Fr.nil n0
  have pre0 : ∀ t, Steps p.tables e below (s₁.setTop (mkF m 0 #[.val (.ref a0), .val (.ref a1), .unset, .unset] [])) t → Steps p.tables e below (s₁.setTop (entryFrame m #[(.ref a0), (.ref a1)] 4)) t := fun t k => castTop (ef_rmQ m a0 a1) k
  obtain ⟨T1, X1, e1, st1⟩ := getF X0 hx hZ hown (host := "") (Or.inl (hw _ (List.mem_of_getElem? (i := 30) rfl))) Via.refl e0 Ft (g := (mkF m 1 #[.val (.ref a0), .val (.ref a1), .unset, .unset] [(.ref a0)])) rfl rfl (hb hby d_prog_20_method_16_1)
  obtain ⟨cq2, kq2, q2a, q2b, q2c⟩ := isOf hZ e1 E0
  obtain ⟨_, _, ⟨T2, L2, k2, n2⟩, -, X2, ⟨Lc2, hQ2, l2, y2, z2⟩, st2⟩ := X1.virtualBack hx (y := (⟨"java/lang/StringBuilder", "append", "(C)Ljava/lang/StringBuilder;"⟩ : MethodName)) (z := (⟨"java/lang/StringBuilder", "append", "(C)Ljava/lang/StringBuilder;"⟩ : MethodName)) hown (mvT hZ (hw _ (List.mem_of_getElem? (i := 100) rfl))) (mvT hZ (hw _ (List.mem_of_getElem? (i := 101) rfl))) (notFace_of_selects (args := #[]) (mvT hZ (hw _ (List.mem_of_getElem? (i := 103) rfl)))) (mvT hZ (hw _ (List.mem_of_getElem? (i := 103) rfl))) (mvT hZ (hw _ (List.mem_of_getElem? (i := 102) rfl))) (by decide) (backOf (W := 0) (rmSC l Z aw hw [] sb (34 : Int32) b k (1 : Int32) [(.int (123 : Int32)), (.int (0 : Int32)), (.int (0 : Int32)), (.int (0 : Int32)), (.int (0 : Int32)), (.int (0 : Int32)), (.int (0 : Int32)), (.int (0 : Int32)), (.int (0 : Int32)), (.int (0 : Int32)), (.int (0 : Int32)), (.int (0 : Int32)), (.int (0 : Int32)), (.int (0 : Int32)), (.int (0 : Int32)), (.int (0 : Int32))] cs h0 n0 Z0 E0 g0 Fv Fk Fn V0 gb S0 (by decide) (by decide) (by decide) (by decide) hcs) hZ (hw _ (List.mem_of_getElem? (i := 104) rfl)) (hw _ (List.mem_of_getElem? (i := 12) rfl)) (by decide) (by decide)) q2a q2c (g := (mkF m 6 #[.val (.ref a0), .val (.ref a1), .unset, .unset] [(.int (34 : Int32)), (.ref sb)])) rfl (by rw [hml]; rfl) (Steps.refl _) (argsL := [(.int (34 : Int32))]) (rest := []) (lenOf pd__C_Ljava_lang_StringBuilder_ rfl) rfl (by show 2 * 0 + _ ≤ _; exact Nat.le_of_eq rfl) (hb hby d_prog_20_method_16_6) (fun _ _ => ⟨rfl, e1, (by decide : 0 + 0 ≤ _), (by decide : 0 + 0 ≤ _)⟩)
  dsimp only [Pt.U, Pt.locs, Pt.cells, Pt.slots] at X2 l2 y2 z2 st2 hQ2
  subst l2 y2 z2
  obtain ⟨rfl, N2q, Kc2, Ec2, Fv2, Fk2, Fn2, Vb2⟩ := hQ2
  have N2 := Fr.app N0 N2q
  rw [(by decide : ((1 : Int32) + (1 : Int32)) = (2 : Int32))] at Fn2
  rw [(by first | rfl | decide : (([(.int (123 : Int32)), (.int (0 : Int32)), (.int (0 : Int32)), (.int (0 : Int32)), (.int (0 : Int32)), (.int (0 : Int32)), (.int (0 : Int32)), (.int (0 : Int32)), (.int (0 : Int32)), (.int (0 : Int32)), (.int (0 : Int32)), (.int (0 : Int32)), (.int (0 : Int32)), (.int (0 : Int32)), (.int (0 : Int32)), (.int (0 : Int32))].set ((1 : Int32)).toNatClampNeg (.int (nar .byte ((34 : Int32).toInt8.toInt32)))) : List Value) = [(.int (123 : Int32)), (.int (34 : Int32)), (.int (0 : Int32)), (.int (0 : Int32)), (.int (0 : Int32)), (.int (0 : Int32)), (.int (0 : Int32)), (.int (0 : Int32)), (.int (0 : Int32)), (.int (0 : Int32)), (.int (0 : Int32)), (.int (0 : Int32)), (.int (0 : Int32)), (.int (0 : Int32)), (.int (0 : Int32)), (.int (0 : Int32))])] at Vb2
  have S0__2 := own_sta_keep S0 Kc2 (nsS (E0.nostat) (nsS (V0.nostat) ns0))
  have EJ__2 := EJ.keep Kc2
  have Ft__2 := Ft.keep Kc2 (by simp only [List.mem_cons, List.not_mem_nil, or_false, not_or]; exact ⟨(ne_exa EJ E0 (by decide)), (EJ.neArv V0 (hw _ (List.mem_of_getElem? (i := 2) rfl)))⟩)
  have Fa__2 := Fa.keep Kc2 (by simp only [List.mem_cons, List.not_mem_nil, or_false, not_or]; exact ⟨(ne_exa EJ E0 (by decide)), (EJ.neArv V0 (hw _ (List.mem_of_getElem? (i := 2) rfl)))⟩)
  have Es__2 := Es.keep Kc2
  have Sk__2 := Sk.keep Kc2 (by simp only [List.mem_cons, List.not_mem_nil, or_false, not_or]; exact ⟨(ne_exa Es E0 (by decide)), (Es.neArv V0 (hw _ (List.mem_of_getElem? (i := 33) rfl)))⟩)
  have Sv__2 := Sv.keep Kc2 (by simp only [List.mem_cons, List.not_mem_nil, or_false, not_or]; exact ⟨(ne_exa Es E0 (by decide)), (Es.neArv V0 (hw _ (List.mem_of_getElem? (i := 33) rfl)))⟩)
  have W0__2 := W0.keep Kc2 (by simp only [List.mem_cons, List.not_mem_nil, or_false, not_or]; exact ⟨(Ne.symm (E0.neArv W0 (hw _ (List.mem_of_getElem? (i := 11) rfl)))), (arv_ne W0 V0 (Or.inl (by decide)))⟩)
  have SF__2 := own_sta_keep SF Kc2 (nsS (E0.nostat) (nsS (V0.nostat) ns0))
  have KK2 : Keep h0 T2.heap [a0, sb, b] := Keep.trans (Keep.refl h0 [a0, sb, b]) Kc2 (fun x q => by simp only [List.mem_cons, List.not_mem_nil, or_false] at q; rcases q with rfl | rfl <;> first | exact (Or.inl (List.mem_of_getElem? (i := 1) rfl)) | exact (Or.inl (List.mem_of_getElem? (i := 2) rfl)))
  have Zs2 : n0 ≤ T2.heap.size := Nat.le_trans Z0 Kc2.1
  obtain ⟨cq3, kq3, q3a, q3b, q3c⟩ := isOf hZ rfl Es__2
  obtain ⟨_, _, ⟨T3, L3, k3, n3⟩, -, X3, ⟨Lc3, hQ3, l3, y3, z3⟩, st3⟩ := X2.virtualBack hx (y := (⟨"java/lang/String", "length", "()I"⟩ : MethodName)) (z := (⟨"java/lang/String", "length", "()I"⟩ : MethodName)) hown (mvT hZ (hw _ (List.mem_of_getElem? (i := 194) rfl))) (mvT hZ (hw _ (List.mem_of_getElem? (i := 61) rfl))) (notFace_of_selects (args := #[]) (mvT hZ (hw _ (List.mem_of_getElem? (i := 63) rfl)))) (mvT hZ (hw _ (List.mem_of_getElem? (i := 63) rfl))) (mvT hZ (hw _ (List.mem_of_getElem? (i := 62) rfl))) (by decide) (backOf (W := 1) (rmLen l Z aw hw [] a1 d kd (1 : Int32) [(.int (97 : Int32))] cs T2.heap n0 Zs2 Es__2 Sk__2 Sv__2 W0__2 S0__2 hcs) hZ (hw _ (List.mem_of_getElem? (i := 64) rfl)) (hw _ (List.mem_of_getElem? (i := 24) rfl)) (by decide) (by decide)) q3a q3c (g := (mkF m 14 #[.val (.ref a0), .val (.ref a1), .val (.int (0 : Int32)), .unset] [(.ref a1), (.int (0 : Int32))])) rfl (by rw [hml]; rfl) (Steps.refl _) (argsL := []) (rest := [(.int (0 : Int32))]) (lenOf pd___I rfl) rfl (by show 2 * 0 + _ ≤ _; exact Nat.le_of_eq rfl) (hb hby d_prog_20_method_16_14) (fun _ _ => ⟨rfl, rfl, (by decide : 0 + 0 ≤ _), (by decide : 0 + 0 ≤ _)⟩)
  dsimp only [Pt.U, Pt.locs, Pt.cells, Pt.slots] at X3 l3 y3 z3 st3 hQ3
  subst l3 y3 z3
  obtain ⟨rfl, N3q, q3⟩ := hQ3
  have N3 := Fr.app N2 N3q
  obtain ⟨cq4, kq4, q4a, q4b, q4c⟩ := isOf hZ q3 Es__2
  obtain ⟨_, _, ⟨T4, L4, k4, n4⟩, -, X4, ⟨Lc4, hQ4, l4, y4, z4⟩, st4⟩ := X3.virtualBack hx (y := (⟨"java/lang/String", "charAt", "(I)C"⟩ : MethodName)) (z := (⟨"java/lang/String", "charAt", "(I)C"⟩ : MethodName)) hown (mvT hZ (hw _ (List.mem_of_getElem? (i := 195) rfl))) (mvT hZ (hw _ (List.mem_of_getElem? (i := 196) rfl))) (notFace_of_selects (args := #[]) (mvT hZ (hw _ (List.mem_of_getElem? (i := 198) rfl)))) (mvT hZ (hw _ (List.mem_of_getElem? (i := 198) rfl))) (mvT hZ (hw _ (List.mem_of_getElem? (i := 197) rfl))) (by decide) (backOf (W := 0) (rmCh l Z aw hw [] a1 d kd fm cs T2.heap n0 Zs2 Es__2 Sk__2 Sv__2 W0__2 SF__2 S0__2 hfm hcs) hZ (hw _ (List.mem_of_getElem? (i := 199) rfl)) (hw _ (List.mem_of_getElem? (i := 24) rfl)) (by decide) (by decide)) q4a q4c (g := (mkF m 22 #[.val (.ref a0), .val (.ref a1), .val (.int (0 : Int32)), .unset] [(.int (0 : Int32)), (.ref a1)])) rfl (by rw [hml]; rfl) (Steps.refl _) (argsL := [(.int (0 : Int32))]) (rest := []) (lenOf pd__I_C rfl) rfl (by show 2 * 0 + _ ≤ _; exact Nat.le_of_eq rfl) (hb hby d_prog_20_method_16_22) (fun _ _ => ⟨rfl, q3, (by decide : 0 + 0 ≤ _), (by decide : 0 + 0 ≤ _)⟩)
  dsimp only [Pt.U, Pt.locs, Pt.cells, Pt.slots] at X4 l4 y4 z4 st4 hQ4
  subst l4 y4 z4
  obtain ⟨rfl, N4q, q4⟩ := hQ4
  have N4 := Fr.app N3 N4q
  obtain ⟨T5, X5, e5, st5⟩ := getF X4 hx hZ hown (host := "") (Or.inl (hw _ (List.mem_of_getElem? (i := 30) rfl))) Via.refl q4 Ft__2 (g := (mkF m 142 #[.val (.ref a0), .val (.ref a1), .val (.int (0 : Int32)), .val (.int (97 : Int32))] [(.ref a0)])) rfl rfl (hb hby d_prog_20_method_16_142)
  obtain ⟨_, _, ⟨T6, L6, k6, n6⟩, -, X6, ⟨Lc6, hQ6, l6, y6, z6⟩, st6⟩ := Jvm.LawKit.callS X5 hx (y := (⟨"java/lang/String", "valueOf", "(C)Ljava/lang/String;"⟩ : MethodName)) hown (mvT hZ (hw _ (List.mem_of_getElem? (i := 216) rfl))) (mvT hZ (hw _ (List.mem_of_getElem? (i := 217) rfl))) (mvT hZ (hw _ (List.mem_of_getElem? (i := 24) rfl))) (mvT hZ (hw _ (List.mem_of_getElem? (i := 218) rfl))) (by decide) (backOf (W := 1) (rmVO l Z aw hw [] cs T2.heap n0 Zs2 S0__2 hcs) hZ (hw _ (List.mem_of_getElem? (i := 218) rfl)) (hw _ (List.mem_of_getElem? (i := 24) rfl)) (by decide) (by decide)) (g := (mkF m 171 #[.val (.ref a0), .val (.ref a1), .val (.int (0 : Int32)), .val (.int (97 : Int32))] [(.int (97 : Int32)), (.ref sb)])) rfl (by rw [hml]; rfl) (argsL := [(.int (97 : Int32))]) (rest := [(.ref sb)]) (lenOf pd__C_Ljava_lang_String_ rfl) rfl (by show 2 * 0 + _ ≤ _; exact Nat.le_of_eq rfl) (hb hby d_prog_20_method_16_171) (fun _ _ => ⟨rfl, e5, (by decide : 0 + 2 ≤ _), (by decide : 0 + 5 ≤ _)⟩)
  dsimp only [Pt.U, Pt.locs, Pt.cells, Pt.slots] at X6 l6 y6 z6 st6 hQ6
  subst l6 y6 z6
  obtain ⟨s2, d2, kd2, rfl, N6q, Kc6, Es6, Sk6, Sv6, Vd6⟩ := hQ6
  have N6 := Fr.app N4 N6q
  have S0__6 := own_sta_keep S0__2 Kc6 ns0
  have EJ__6 := EJ__2.keep Kc6
  have Ft__6 := Ft__2.keep Kc6 (fun q => nomatch q)
  have Fa__6 := Fa__2.keep Kc6 (fun q => nomatch q)
  have Es__6 := Es__2.keep Kc6
  have Sk__6 := Sk__2.keep Kc6 (fun q => nomatch q)
  have Sv__6 := Sv__2.keep Kc6 (fun q => nomatch q)
  have W0__6 := W0__2.keep Kc6 (fun q => nomatch q)
  have SF__6 := own_sta_keep SF__2 Kc6 ns0
  have Ec2__6 := Ec2.keep Kc6
  have Fv2__6 := Fv2.keep Kc6 (fun q => nomatch q)
  have Fk2__6 := Fk2.keep Kc6 (fun q => nomatch q)
  have Fn2__6 := Fn2.keep Kc6 (fun q => nomatch q)
  have Vb2__6 := Vb2.keep Kc6 (fun q => nomatch q)
  have KK6 : Keep h0 T6.heap [a0, sb, b] := Keep.trans KK2 Kc6 (fun _ q => nomatch q)
  have Zs6 : n0 ≤ T6.heap.size := Nat.le_trans Zs2 Kc6.1
  obtain ⟨cq7, kq7, q7a, q7b, q7c⟩ := isOf hZ rfl Ec2__6
  obtain ⟨_, _, ⟨T7, L7, k7, n7⟩, -, X7, ⟨Lc7, hQ7, l7, y7, z7⟩, st7⟩ := X6.virtualBack hx (y := (⟨"java/lang/StringBuilder", "append", "(Ljava/lang/String;)Ljava/lang/StringBuilder;"⟩ : MethodName)) (z := (⟨"java/lang/StringBuilder", "append", "(Ljava/lang/String;)Ljava/lang/StringBuilder;"⟩ : MethodName)) hown (mvT hZ (hw _ (List.mem_of_getElem? (i := 50) rfl))) (mvT hZ (hw _ (List.mem_of_getElem? (i := 51) rfl))) (notFace_of_selects (args := #[]) (mvT hZ (hw _ (List.mem_of_getElem? (i := 53) rfl)))) (mvT hZ (hw _ (List.mem_of_getElem? (i := 53) rfl))) (mvT hZ (hw _ (List.mem_of_getElem? (i := 52) rfl))) (by decide) (backOf (W := 0) (rmSS l Z aw hw [] sb s2 b k (2 : Int32) [(.int (123 : Int32)), (.int (34 : Int32)), (.int (0 : Int32)), (.int (0 : Int32)), (.int (0 : Int32)), (.int (0 : Int32)), (.int (0 : Int32)), (.int (0 : Int32)), (.int (0 : Int32)), (.int (0 : Int32)), (.int (0 : Int32)), (.int (0 : Int32)), (.int (0 : Int32)), (.int (0 : Int32)), (.int (0 : Int32)), (.int (0 : Int32))] d2 kd2 (1 : Int32) [(.int (97 : Int32))] cs T6.heap n0 Zs6 Ec2__6 g0 Fv2__6 Fk2__6 Fn2__6 Vb2__6 gb Es6 Sk6 Sv6 Vd6 S0__6 (by decide) (by decide) (by decide) (by decide) (by first | rfl | decide) (arv_ne Vd6 Vb2__6 (Or.inl (by decide))) (by decide) hcs) hZ (hw _ (List.mem_of_getElem? (i := 54) rfl)) (hw _ (List.mem_of_getElem? (i := 12) rfl)) (by decide) (by decide)) q7a q7c (g := (mkF m 174 #[.val (.ref a0), .val (.ref a1), .val (.int (0 : Int32)), .val (.int (97 : Int32))] [(.ref s2), (.ref sb)])) rfl (by rw [hml]; rfl) (Steps.refl _) (argsL := [(.ref s2)]) (rest := []) (lenOf pd__Ljava_lang_String__Ljava_lang_StringBuilder_ rfl) rfl (by show 2 * 0 + _ ≤ _; exact Nat.le_of_eq rfl) (hb hby d_prog_20_method_16_174) (fun _ _ => ⟨rfl, rfl, (by decide : 2 + 0 ≤ _), (by decide : 5 + 0 ≤ _)⟩)
  dsimp only [Pt.U, Pt.locs, Pt.cells, Pt.slots] at X7 l7 y7 z7 st7 hQ7
  subst l7 y7 z7
  obtain ⟨rfl, N7q, Kc7, Ec7, Fv7, Fk7, Fn7, Vb7⟩ := hQ7
  have N7 := Fr.app N6 N7q
  rw [(by decide : ((2 : Int32) + (1 : Int32)) = (3 : Int32))] at Fn7
  rw [(by first | rfl | decide : (([(.int (123 : Int32)), (.int (34 : Int32)), (.int (0 : Int32)), (.int (0 : Int32)), (.int (0 : Int32)), (.int (0 : Int32)), (.int (0 : Int32)), (.int (0 : Int32)), (.int (0 : Int32)), (.int (0 : Int32)), (.int (0 : Int32)), (.int (0 : Int32)), (.int (0 : Int32)), (.int (0 : Int32)), (.int (0 : Int32)), (.int (0 : Int32))].take ((2 : Int32)).toNatClampNeg ++ [(.int (97 : Int32))] ++ [(.int (123 : Int32)), (.int (34 : Int32)), (.int (0 : Int32)), (.int (0 : Int32)), (.int (0 : Int32)), (.int (0 : Int32)), (.int (0 : Int32)), (.int (0 : Int32)), (.int (0 : Int32)), (.int (0 : Int32)), (.int (0 : Int32)), (.int (0 : Int32)), (.int (0 : Int32)), (.int (0 : Int32)), (.int (0 : Int32)), (.int (0 : Int32))].drop (((2 : Int32)).toNatClampNeg + ((1 : Int32)).toNatClampNeg)) : List Value) = [(.int (123 : Int32)), (.int (34 : Int32)), (.int (97 : Int32)), (.int (0 : Int32)), (.int (0 : Int32)), (.int (0 : Int32)), (.int (0 : Int32)), (.int (0 : Int32)), (.int (0 : Int32)), (.int (0 : Int32)), (.int (0 : Int32)), (.int (0 : Int32)), (.int (0 : Int32)), (.int (0 : Int32)), (.int (0 : Int32)), (.int (0 : Int32))])] at Vb7
  have S0__7 := own_sta_keep S0__6 Kc7 (nsS (Ec2__6.nostat) (nsS (Vb2__6.nostat) ns0))
  have EJ__7 := EJ__6.keep Kc7
  have Ft__7 := Ft__6.keep Kc7 (by simp only [List.mem_cons, List.not_mem_nil, or_false, not_or]; exact ⟨(ne_exa EJ__6 Ec2__6 (by decide)), (EJ__6.neArv Vb2__6 (hw _ (List.mem_of_getElem? (i := 2) rfl)))⟩)
  have Fa__7 := Fa__6.keep Kc7 (by simp only [List.mem_cons, List.not_mem_nil, or_false, not_or]; exact ⟨(ne_exa EJ__6 Ec2__6 (by decide)), (EJ__6.neArv Vb2__6 (hw _ (List.mem_of_getElem? (i := 2) rfl)))⟩)
  have Es__7 := Es__6.keep Kc7
  have Sk__7 := Sk__6.keep Kc7 (by simp only [List.mem_cons, List.not_mem_nil, or_false, not_or]; exact ⟨(ne_exa Es__6 Ec2__6 (by decide)), (Es__6.neArv Vb2__6 (hw _ (List.mem_of_getElem? (i := 33) rfl)))⟩)
  have Sv__7 := Sv__6.keep Kc7 (by simp only [List.mem_cons, List.not_mem_nil, or_false, not_or]; exact ⟨(ne_exa Es__6 Ec2__6 (by decide)), (Es__6.neArv Vb2__6 (hw _ (List.mem_of_getElem? (i := 33) rfl)))⟩)
  have W0__7 := W0__6.keep Kc7 (by simp only [List.mem_cons, List.not_mem_nil, or_false, not_or]; exact ⟨(Ne.symm (Ec2__6.neArv W0__6 (hw _ (List.mem_of_getElem? (i := 11) rfl)))), (arv_ne W0__6 Vb2__6 (Or.inl (by decide)))⟩)
  have SF__7 := own_sta_keep SF__6 Kc7 (nsS (Ec2__6.nostat) (nsS (Vb2__6.nostat) ns0))
  have Es6__7 := Es6.keep Kc7
  have Sk6__7 := Sk6.keep Kc7 (by simp only [List.mem_cons, List.not_mem_nil, or_false, not_or]; exact ⟨(ne_exa Es6 Ec2__6 (by decide)), (Es6.neArv Vb2__6 (hw _ (List.mem_of_getElem? (i := 33) rfl)))⟩)
  have Sv6__7 := Sv6.keep Kc7 (by simp only [List.mem_cons, List.not_mem_nil, or_false, not_or]; exact ⟨(ne_exa Es6 Ec2__6 (by decide)), (Es6.neArv Vb2__6 (hw _ (List.mem_of_getElem? (i := 33) rfl)))⟩)
  have Vd6__7 := Vd6.keep Kc7 (by simp only [List.mem_cons, List.not_mem_nil, or_false, not_or]; exact ⟨(Ne.symm (Ec2__6.neArv Vd6 (hw _ (List.mem_of_getElem? (i := 11) rfl)))), (arv_ne Vd6 Vb2__6 (Or.inl (by decide)))⟩)
  have KK7 : Keep h0 T7.heap [a0, sb, b] := Keep.trans KK6 Kc7 (fun x q => by simp only [List.mem_cons, List.not_mem_nil, or_false] at q; rcases q with rfl | rfl <;> first | exact (Or.inl (List.mem_of_getElem? (i := 1) rfl)) | exact (Or.inl (List.mem_of_getElem? (i := 2) rfl)))
  have Zs7 : n0 ≤ T7.heap.size := Nat.le_trans Zs6 Kc7.1
  obtain ⟨cq8, kq8, q8a, q8b, q8c⟩ := isOf hZ rfl Es__7
  obtain ⟨_, _, ⟨T8, L8, k8, n8⟩, -, X8, ⟨Lc8, hQ8, l8, y8, z8⟩, st8⟩ := X7.virtualBack hx (y := (⟨"java/lang/String", "length", "()I"⟩ : MethodName)) (z := (⟨"java/lang/String", "length", "()I"⟩ : MethodName)) hown (mvT hZ (hw _ (List.mem_of_getElem? (i := 194) rfl))) (mvT hZ (hw _ (List.mem_of_getElem? (i := 61) rfl))) (notFace_of_selects (args := #[]) (mvT hZ (hw _ (List.mem_of_getElem? (i := 63) rfl)))) (mvT hZ (hw _ (List.mem_of_getElem? (i := 63) rfl))) (mvT hZ (hw _ (List.mem_of_getElem? (i := 62) rfl))) (by decide) (backOf (W := 1) (rmLen l Z aw hw [] a1 d kd (1 : Int32) [(.int (97 : Int32))] cs T7.heap n0 Zs7 Es__7 Sk__7 Sv__7 W0__7 S0__7 hcs) hZ (hw _ (List.mem_of_getElem? (i := 64) rfl)) (hw _ (List.mem_of_getElem? (i := 24) rfl)) (by decide) (by decide)) q8a q8c (g := (mkF m 14 #[.val (.ref a0), .val (.ref a1), .val (.int (1 : Int32)), .val (.int (97 : Int32))] [(.ref a1), (.int (1 : Int32))])) rfl (by rw [hml]; rfl) (Steps.refl _) (argsL := []) (rest := [(.int (1 : Int32))]) (lenOf pd___I rfl) rfl (by show 2 * 0 + _ ≤ _; exact Nat.le_of_eq rfl) (hb hby d_prog_20_method_16_14) (fun _ _ => ⟨rfl, rfl, (by decide : 2 + 0 ≤ _), (by decide : 5 + 0 ≤ _)⟩)
  dsimp only [Pt.U, Pt.locs, Pt.cells, Pt.slots] at X8 l8 y8 z8 st8 hQ8
  subst l8 y8 z8
  obtain ⟨rfl, N8q, q8⟩ := hQ8
  have N8 := Fr.app N7 N8q
  obtain ⟨T9, X9, e9, st9⟩ := getF X8 hx hZ hown (host := "") (Or.inl (hw _ (List.mem_of_getElem? (i := 30) rfl))) Via.refl q8 Ft__7 (g := (mkF m 185 #[.val (.ref a0), .val (.ref a1), .val (.int (1 : Int32)), .val (.int (97 : Int32))] [(.ref a0)])) rfl rfl (hb hby d_prog_20_method_16_185)
  obtain ⟨cq10, kq10, q10a, q10b, q10c⟩ := isOf hZ e9 Ec7
  obtain ⟨_, _, ⟨T10, L10, k10, n10⟩, -, X10, ⟨Lc10, hQ10, l10, y10, z10⟩, st10⟩ := X9.virtualBack hx (y := (⟨"java/lang/StringBuilder", "append", "(C)Ljava/lang/StringBuilder;"⟩ : MethodName)) (z := (⟨"java/lang/StringBuilder", "append", "(C)Ljava/lang/StringBuilder;"⟩ : MethodName)) hown (mvT hZ (hw _ (List.mem_of_getElem? (i := 100) rfl))) (mvT hZ (hw _ (List.mem_of_getElem? (i := 101) rfl))) (notFace_of_selects (args := #[]) (mvT hZ (hw _ (List.mem_of_getElem? (i := 103) rfl)))) (mvT hZ (hw _ (List.mem_of_getElem? (i := 103) rfl))) (mvT hZ (hw _ (List.mem_of_getElem? (i := 102) rfl))) (by decide) (backOf (W := 0) (rmSC l Z aw hw [] sb (34 : Int32) b k (3 : Int32) [(.int (123 : Int32)), (.int (34 : Int32)), (.int (97 : Int32)), (.int (0 : Int32)), (.int (0 : Int32)), (.int (0 : Int32)), (.int (0 : Int32)), (.int (0 : Int32)), (.int (0 : Int32)), (.int (0 : Int32)), (.int (0 : Int32)), (.int (0 : Int32)), (.int (0 : Int32)), (.int (0 : Int32)), (.int (0 : Int32)), (.int (0 : Int32))] cs T7.heap n0 Zs7 Ec7 g0 Fv7 Fk7 Fn7 Vb7 gb S0__7 (by decide) (by decide) (by decide) (by decide) hcs) hZ (hw _ (List.mem_of_getElem? (i := 104) rfl)) (hw _ (List.mem_of_getElem? (i := 12) rfl)) (by decide) (by decide)) q10a q10c (g := (mkF m 190 #[.val (.ref a0), .val (.ref a1), .val (.int (1 : Int32)), .val (.int (97 : Int32))] [(.int (34 : Int32)), (.ref sb)])) rfl (by rw [hml]; rfl) (Steps.refl _) (argsL := [(.int (34 : Int32))]) (rest := []) (lenOf pd__C_Ljava_lang_StringBuilder_ rfl) rfl (by show 2 * 0 + _ ≤ _; exact Nat.le_of_eq rfl) (hb hby d_prog_20_method_16_190) (fun _ _ => ⟨rfl, e9, (by decide : 2 + 0 ≤ _), (by decide : 5 + 0 ≤ _)⟩)
  dsimp only [Pt.U, Pt.locs, Pt.cells, Pt.slots] at X10 l10 y10 z10 st10 hQ10
  subst l10 y10 z10
  obtain ⟨rfl, N10q, Kc10, Ec10, Fv10, Fk10, Fn10, Vb10⟩ := hQ10
  have N10 := Fr.app N8 N10q
  rw [(by decide : ((3 : Int32) + (1 : Int32)) = (4 : Int32))] at Fn10
  rw [(by first | rfl | decide : (([(.int (123 : Int32)), (.int (34 : Int32)), (.int (97 : Int32)), (.int (0 : Int32)), (.int (0 : Int32)), (.int (0 : Int32)), (.int (0 : Int32)), (.int (0 : Int32)), (.int (0 : Int32)), (.int (0 : Int32)), (.int (0 : Int32)), (.int (0 : Int32)), (.int (0 : Int32)), (.int (0 : Int32)), (.int (0 : Int32)), (.int (0 : Int32))].set ((3 : Int32)).toNatClampNeg (.int (nar .byte ((34 : Int32).toInt8.toInt32)))) : List Value) = [(.int (123 : Int32)), (.int (34 : Int32)), (.int (97 : Int32)), (.int (34 : Int32)), (.int (0 : Int32)), (.int (0 : Int32)), (.int (0 : Int32)), (.int (0 : Int32)), (.int (0 : Int32)), (.int (0 : Int32)), (.int (0 : Int32)), (.int (0 : Int32)), (.int (0 : Int32)), (.int (0 : Int32)), (.int (0 : Int32)), (.int (0 : Int32))])] at Vb10
  have S0__10 := own_sta_keep S0__7 Kc10 (nsS (Ec7.nostat) (nsS (Vb7.nostat) ns0))
  have EJ__10 := EJ__7.keep Kc10
  have Ft__10 := Ft__7.keep Kc10 (by simp only [List.mem_cons, List.not_mem_nil, or_false, not_or]; exact ⟨(ne_exa EJ__7 Ec7 (by decide)), (EJ__7.neArv Vb7 (hw _ (List.mem_of_getElem? (i := 2) rfl)))⟩)
  have Fa__10 := Fa__7.keep Kc10 (by simp only [List.mem_cons, List.not_mem_nil, or_false, not_or]; exact ⟨(ne_exa EJ__7 Ec7 (by decide)), (EJ__7.neArv Vb7 (hw _ (List.mem_of_getElem? (i := 2) rfl)))⟩)
  have Es__10 := Es__7.keep Kc10
  have Sk__10 := Sk__7.keep Kc10 (by simp only [List.mem_cons, List.not_mem_nil, or_false, not_or]; exact ⟨(ne_exa Es__7 Ec7 (by decide)), (Es__7.neArv Vb7 (hw _ (List.mem_of_getElem? (i := 33) rfl)))⟩)
  have Sv__10 := Sv__7.keep Kc10 (by simp only [List.mem_cons, List.not_mem_nil, or_false, not_or]; exact ⟨(ne_exa Es__7 Ec7 (by decide)), (Es__7.neArv Vb7 (hw _ (List.mem_of_getElem? (i := 33) rfl)))⟩)
  have W0__10 := W0__7.keep Kc10 (by simp only [List.mem_cons, List.not_mem_nil, or_false, not_or]; exact ⟨(Ne.symm (Ec7.neArv W0__7 (hw _ (List.mem_of_getElem? (i := 11) rfl)))), (arv_ne W0__7 Vb7 (Or.inl (by decide)))⟩)
  have SF__10 := own_sta_keep SF__7 Kc10 (nsS (Ec7.nostat) (nsS (Vb7.nostat) ns0))
  have Es6__10 := Es6__7.keep Kc10
  have Sk6__10 := Sk6__7.keep Kc10 (by simp only [List.mem_cons, List.not_mem_nil, or_false, not_or]; exact ⟨(ne_exa Es6__7 Ec7 (by decide)), (Es6__7.neArv Vb7 (hw _ (List.mem_of_getElem? (i := 33) rfl)))⟩)
  have Sv6__10 := Sv6__7.keep Kc10 (by simp only [List.mem_cons, List.not_mem_nil, or_false, not_or]; exact ⟨(ne_exa Es6__7 Ec7 (by decide)), (Es6__7.neArv Vb7 (hw _ (List.mem_of_getElem? (i := 33) rfl)))⟩)
  have Vd6__10 := Vd6__7.keep Kc10 (by simp only [List.mem_cons, List.not_mem_nil, or_false, not_or]; exact ⟨(Ne.symm (Ec7.neArv Vd6__7 (hw _ (List.mem_of_getElem? (i := 11) rfl)))), (arv_ne Vd6__7 Vb7 (Or.inl (by decide)))⟩)
  have KK10 : Keep h0 T10.heap [a0, sb, b] := Keep.trans KK7 Kc10 (fun x q => by simp only [List.mem_cons, List.not_mem_nil, or_false] at q; rcases q with rfl | rfl <;> first | exact (Or.inl (List.mem_of_getElem? (i := 1) rfl)) | exact (Or.inl (List.mem_of_getElem? (i := 2) rfl)))
  have Zs10 : n0 ≤ T10.heap.size := Nat.le_trans Zs7 Kc10.1
  obtain ⟨fs, hr, hrun, hended, hW, hsame⟩ := X10.leave (v := none) (fun _ => rfl)
  refine ⟨_, _, pre0 _ ?_, hrun, hended, _, _, rfl, ?_, ⟨_, rfl⟩, hW, hsame.mono (by decide) (by decide)⟩
  · show Steps p.tables e below (s₁.setTop (mkF m 0 #[.val (.ref a0), .val (.ref a1), .unset, .unset] [])) _
    refine XS.aloadN X0.here hx rfl (hb hby d_prog_20_method_16_0) rfl rfl ?_
    show Steps p.tables e below (s₁.setTop (mkF m 1 #[.val (.ref a0), .val (.ref a1), .unset, .unset] [(.ref a0)])) _
    refine st1 _ ?_
    show Steps p.tables e below (T1.setTop (mkF m 4 #[.val (.ref a0), .val (.ref a1), .unset, .unset] [(.ref sb)])) _
    refine XS.bipush X1.here hx rfl (hb hby d_prog_20_method_16_4) ?_
    show Steps p.tables e below (T1.setTop (mkF m 6 #[.val (.ref a0), .val (.ref a1), .unset, .unset] [(.int (34 : Int32)), (.ref sb)])) _
    refine st2.trans ?_
    show Steps p.tables e below (T2.setTop (mkF m 9 #[.val (.ref a0), .val (.ref a1), .unset, .unset] [(.ref sb)])) _
    refine XS.pop X2.here hx rfl (hb hby d_prog_20_method_16_9) rfl rfl ?_
    show Steps p.tables e below (T2.setTop (mkF m 10 #[.val (.ref a0), .val (.ref a1), .unset, .unset] [])) _
    refine XS.iconst X2.here hx rfl (hb hby d_prog_20_method_16_10) ?_
    show Steps p.tables e below (T2.setTop (mkF m 11 #[.val (.ref a0), .val (.ref a1), .unset, .unset] [(.int (0 : Int32))])) _
    refine XS.istoreN X2.here hx rfl (hb hby d_prog_20_method_16_11) rfl (l' := #[.val (.ref a0), .val (.ref a1), .val (.int (0 : Int32)), .unset]) rfl ?_
    show Steps p.tables e below (T2.setTop (mkF m 12 #[.val (.ref a0), .val (.ref a1), .val (.int (0 : Int32)), .unset] [])) _
    refine XS.iloadN X2.here hx rfl (hb hby d_prog_20_method_16_12) rfl ?_
    show Steps p.tables e below (T2.setTop (mkF m 13 #[.val (.ref a0), .val (.ref a1), .val (.int (0 : Int32)), .unset] [(.int (0 : Int32))])) _
    refine XS.aloadN X2.here hx rfl (hb hby d_prog_20_method_16_13) rfl rfl ?_
    show Steps p.tables e below (T2.setTop (mkF m 14 #[.val (.ref a0), .val (.ref a1), .val (.int (0 : Int32)), .unset] [(.ref a1), (.int (0 : Int32))])) _
    refine st3.trans ?_
    show Steps p.tables e below (T3.setTop (mkF m 17 #[.val (.ref a0), .val (.ref a1), .val (.int (0 : Int32)), .unset] [(.int (1 : Int32)), (.int (0 : Int32))])) _
    refine XS.icmpNo X3.here hx rfl (hb hby d_prog_20_method_16_17) rfl (tlt (by decide : (0 : Int32) < (1 : Int32))).2.1 ?_
    show Steps p.tables e below (T3.setTop (mkF m 20 #[.val (.ref a0), .val (.ref a1), .val (.int (0 : Int32)), .unset] [])) _
    refine XS.aloadN X3.here hx rfl (hb hby d_prog_20_method_16_20) rfl rfl ?_
    show Steps p.tables e below (T3.setTop (mkF m 21 #[.val (.ref a0), .val (.ref a1), .val (.int (0 : Int32)), .unset] [(.ref a1)])) _
    refine XS.iloadN X3.here hx rfl (hb hby d_prog_20_method_16_21) rfl ?_
    show Steps p.tables e below (T3.setTop (mkF m 22 #[.val (.ref a0), .val (.ref a1), .val (.int (0 : Int32)), .unset] [(.int (0 : Int32)), (.ref a1)])) _
    refine st4.trans ?_
    show Steps p.tables e below (T4.setTop (mkF m 25 #[.val (.ref a0), .val (.ref a1), .val (.int (0 : Int32)), .unset] [(.int (97 : Int32))])) _
    refine XS.istoreN X4.here hx rfl (hb hby d_prog_20_method_16_25) rfl (l' := #[.val (.ref a0), .val (.ref a1), .val (.int (0 : Int32)), .val (.int (97 : Int32))]) rfl ?_
    show Steps p.tables e below (T4.setTop (mkF m 26 #[.val (.ref a0), .val (.ref a1), .val (.int (0 : Int32)), .val (.int (97 : Int32))] [])) _
    refine XS.iloadN X4.here hx rfl (hb hby d_prog_20_method_16_26) rfl ?_
    show Steps p.tables e below (T4.setTop (mkF m 27 #[.val (.ref a0), .val (.ref a1), .val (.int (0 : Int32)), .val (.int (97 : Int32))] [(.int (97 : Int32))])) _
    refine X4.lookupswitchMiss hx (g := (mkF m 27 #[.val (.ref a0), .val (.ref a1), .val (.int (0 : Int32)), .val (.int (97 : Int32))] [(.int (97 : Int32))])) rfl (k := (97 : Int32)) (rest := []) rfl (hb hby d_prog_20_method_16_27) (by decide) (by decide) (by show (0 : Int) ≤ (27 : Nat) + 114; decide) _ ?_
    show Steps p.tables e below (T4.setTop (mkF m 141 #[.val (.ref a0), .val (.ref a1), .val (.int (0 : Int32)), .val (.int (97 : Int32))] [])) _
    refine XS.aloadN X4.here hx rfl (hb hby d_prog_20_method_16_141) rfl rfl ?_
    show Steps p.tables e below (T4.setTop (mkF m 142 #[.val (.ref a0), .val (.ref a1), .val (.int (0 : Int32)), .val (.int (97 : Int32))] [(.ref a0)])) _
    refine st5 _ ?_
    show Steps p.tables e below (T5.setTop (mkF m 145 #[.val (.ref a0), .val (.ref a1), .val (.int (0 : Int32)), .val (.int (97 : Int32))] [(.ref sb)])) _
    refine XS.iloadN X5.here hx rfl (hb hby d_prog_20_method_16_145) rfl ?_
    show Steps p.tables e below (T5.setTop (mkF m 146 #[.val (.ref a0), .val (.ref a1), .val (.int (0 : Int32)), .val (.int (97 : Int32))] [(.int (97 : Int32)), (.ref sb)])) _
    refine XS.bipush X5.here hx rfl (hb hby d_prog_20_method_16_146) ?_
    show Steps p.tables e below (T5.setTop (mkF m 148 #[.val (.ref a0), .val (.ref a1), .val (.int (0 : Int32)), .val (.int (97 : Int32))] [(.int (32 : Int32)), (.int (97 : Int32)), (.ref sb)])) _
    refine XS.icmpYes X5.here hx rfl (pc0 := 148) (pc' := 170) rfl (hb hby d_prog_20_method_16_148) rfl (flt (by decide : ¬ ((97 : Int32) < (32 : Int32)))).2.1 (by decide) (by decide) ?_
    show Steps p.tables e below (T5.setTop (mkF m 170 #[.val (.ref a0), .val (.ref a1), .val (.int (0 : Int32)), .val (.int (97 : Int32))] [(.ref sb)])) _
    refine XS.iloadN X5.here hx rfl (hb hby d_prog_20_method_16_170) rfl ?_
    show Steps p.tables e below (T5.setTop (mkF m 171 #[.val (.ref a0), .val (.ref a1), .val (.int (0 : Int32)), .val (.int (97 : Int32))] [(.int (97 : Int32)), (.ref sb)])) _
    refine st6 _ ?_
    show Steps p.tables e below (T6.setTop (mkF m 174 #[.val (.ref a0), .val (.ref a1), .val (.int (0 : Int32)), .val (.int (97 : Int32))] [(.ref s2), (.ref sb)])) _
    refine st7.trans ?_
    show Steps p.tables e below (T7.setTop (mkF m 177 #[.val (.ref a0), .val (.ref a1), .val (.int (0 : Int32)), .val (.int (97 : Int32))] [(.ref sb)])) _
    refine XS.pop X7.here hx rfl (hb hby d_prog_20_method_16_177) rfl rfl ?_
    show Steps p.tables e below (T7.setTop (mkF m 178 #[.val (.ref a0), .val (.ref a1), .val (.int (0 : Int32)), .val (.int (97 : Int32))] [])) _
    refine XS.iinc X7.here hx rfl (hb hby d_prog_20_method_16_178) rfl (l' := #[.val (.ref a0), .val (.ref a1), .val (.int ((0 : Int32) + (1 : Int32))), .val (.int (97 : Int32))]) rfl ?_
    show Steps p.tables e below (T7.setTop (mkF m 181 #[.val (.ref a0), .val (.ref a1), .val (.int ((0 : Int32) + (1 : Int32))), .val (.int (97 : Int32))] [])) _
    rw [(by decide : ((0 : Int32) + (1 : Int32)) = (1 : Int32))]
    show Steps p.tables e below (T7.setTop (mkF m 181 #[.val (.ref a0), .val (.ref a1), .val (.int (1 : Int32)), .val (.int (97 : Int32))] [])) _
    refine XS.goto X7.here hx rfl (pc0 := 181) (pc' := 12) rfl (hb hby d_prog_20_method_16_181) (by decide) (by decide) ?_
    show Steps p.tables e below (T7.setTop (mkF m 12 #[.val (.ref a0), .val (.ref a1), .val (.int (1 : Int32)), .val (.int (97 : Int32))] [])) _
    refine XS.iloadN X7.here hx rfl (hb hby d_prog_20_method_16_12) rfl ?_
    show Steps p.tables e below (T7.setTop (mkF m 13 #[.val (.ref a0), .val (.ref a1), .val (.int (1 : Int32)), .val (.int (97 : Int32))] [(.int (1 : Int32))])) _
    refine XS.aloadN X7.here hx rfl (hb hby d_prog_20_method_16_13) rfl rfl ?_
    show Steps p.tables e below (T7.setTop (mkF m 14 #[.val (.ref a0), .val (.ref a1), .val (.int (1 : Int32)), .val (.int (97 : Int32))] [(.ref a1), (.int (1 : Int32))])) _
    refine st8.trans ?_
    show Steps p.tables e below (T8.setTop (mkF m 17 #[.val (.ref a0), .val (.ref a1), .val (.int (1 : Int32)), .val (.int (97 : Int32))] [(.int (1 : Int32)), (.int (1 : Int32))])) _
    refine XS.icmpYes X8.here hx rfl (pc0 := 17) (pc' := 184) rfl (hb hby d_prog_20_method_16_17) rfl (flt (by decide : ¬ ((1 : Int32) < (1 : Int32)))).2.1 (by decide) (by decide) ?_
    show Steps p.tables e below (T8.setTop (mkF m 184 #[.val (.ref a0), .val (.ref a1), .val (.int (1 : Int32)), .val (.int (97 : Int32))] [])) _
    refine XS.aloadN X8.here hx rfl (hb hby d_prog_20_method_16_184) rfl rfl ?_
    show Steps p.tables e below (T8.setTop (mkF m 185 #[.val (.ref a0), .val (.ref a1), .val (.int (1 : Int32)), .val (.int (97 : Int32))] [(.ref a0)])) _
    refine st9 _ ?_
    show Steps p.tables e below (T9.setTop (mkF m 188 #[.val (.ref a0), .val (.ref a1), .val (.int (1 : Int32)), .val (.int (97 : Int32))] [(.ref sb)])) _
    refine XS.bipush X9.here hx rfl (hb hby d_prog_20_method_16_188) ?_
    show Steps p.tables e below (T9.setTop (mkF m 190 #[.val (.ref a0), .val (.ref a1), .val (.int (1 : Int32)), .val (.int (97 : Int32))] [(.int (34 : Int32)), (.ref sb)])) _
    refine st10.trans ?_
    show Steps p.tables e below (T10.setTop (mkF m 193 #[.val (.ref a0), .val (.ref a1), .val (.int (1 : Int32)), .val (.int (97 : Int32))] [(.ref sb)])) _
    refine XS.pop X10.here hx rfl (hb hby d_prog_20_method_16_193) rfl rfl ?_
    show Steps p.tables e below (T10.setTop (mkF m 194 #[.val (.ref a0), .val (.ref a1), .val (.int (1 : Int32)), .val (.int (97 : Int32))] [])) _
    exact X10.returnOut hx Bd.returns (hb hby d_prog_20_method_16_194) hr
  · show Q_rmQ Z a0 a1 sb b k d kd fm cs h0 n0 _ T10.heap _
    exact ⟨rfl, N10, KK10, EJ__10, Ft__10, Fa__10, Ec10, Fv10, Fk10, Fn10, Vb10⟩
theorem d_prog_20_method_6_0 : decode prog_20_method_6_code 0 = .ok (.aload_n 0, 1) := by decide +kernel
theorem d_prog_20_method_6_1 : decode prog_20_method_6_code 1 = .ok (.invokevirtual 23, 3) := by decide +kernel
theorem d_prog_20_method_6_4 : decode prog_20_method_6_code 4 = .ok (.aload_n 0, 1) := by decide +kernel
theorem d_prog_20_method_6_5 : decode prog_20_method_6_code 5 = .ok (.aload_n 1, 1) := by decide +kernel
theorem d_prog_20_method_6_6 : decode prog_20_method_6_code 6 = .ok (.invokevirtual 26, 3) := by decide +kernel
theorem d_prog_20_method_6_9 : decode prog_20_method_6_code 9 = .ok (.aload_n 0, 1) := by decide +kernel
theorem d_prog_20_method_6_10 : decode prog_20_method_6_code 10 = .ok (.getfield 10, 3) := by decide +kernel
theorem d_prog_20_method_6_13 : decode prog_20_method_6_code 13 = .ok (.bipush 58, 2) := by decide +kernel
theorem d_prog_20_method_6_15 : decode prog_20_method_6_code 15 = .ok (.invokevirtual 30, 3) := by decide +kernel
theorem d_prog_20_method_6_18 : decode prog_20_method_6_code 18 = .ok (.pop, 1) := by decide +kernel
theorem d_prog_20_method_6_19 : decode prog_20_method_6_code 19 = .ok (.aload_n 0, 1) := by decide +kernel
theorem d_prog_20_method_6_20 : decode prog_20_method_6_code 20 = .ok (.iconst 0, 1) := by decide +kernel
theorem d_prog_20_method_6_21 : decode prog_20_method_6_code 21 = .ok (.putfield 34, 3) := by decide +kernel
theorem d_prog_20_method_6_24 : decode prog_20_method_6_code 24 = .ok (.aload_n 0, 1) := by decide +kernel
theorem d_prog_20_method_6_25 : decode prog_20_method_6_code 25 = .ok (.areturn, 1) := by decide +kernel
theorem ef_rmName (m : MethodId) (a0 : Addr) (a1 : Addr) : entryFrame m #[(.ref a0), (.ref a1)] 2 = mkF m 0 #[.val (.ref a0), .val (.ref a1)] [] := by first | (simp [entryFrame, mkF, argsToLocals, Value.category]; done) | rfl
def Q_rmName (Z : State) (a0 : Addr) (a1 : Addr) (sb : Addr) (b : Addr) (k : ClassId) (d : Addr) (kd : ClassId) (fm : Value) (cs : Int32) (h0 : Heap) (n0 : Nat) (v : Option Value) (h : Heap) (L : List Loc) : Prop := v = some (.ref a0) ∧ Fr n0 L ∧ Keep h0 h [a0, sb, b] ∧ Exa Z h a0 "latentrace/io/JsonWriter" ∧ Fld Z h a0 "latentrace/io/JsonWriter" "text" "Ljava/lang/StringBuilder;" (.ref sb) ∧ Fld Z h a0 "latentrace/io/JsonWriter" "afterValue" "Z" (.int (0 : Int32)) ∧ Exa Z h sb "java/lang/StringBuilder" ∧ Fld Z h sb "java/lang/AbstractStringBuilder" "value" "[B" (.ref b) ∧ Fld Z h sb "java/lang/AbstractStringBuilder" "coder" "B" (.int (0 : Int32)) ∧ Fld Z h sb "java/lang/AbstractStringBuilder" "count" "I" (.int (5 : Int32)) ∧ Arv Z h b k .byte (16 : Int32) [(.int (123 : Int32)), (.int (34 : Int32)), (.int (97 : Int32)), (.int (34 : Int32)), (.int (58 : Int32)), (.int (0 : Int32)), (.int (0 : Int32)), (.int (0 : Int32)), (.int (0 : Int32)), (.int (0 : Int32)), (.int (0 : Int32)), (.int (0 : Int32)), (.int (0 : Int32)), (.int (0 : Int32)), (.int (0 : Int32)), (.int (0 : Int32))] (.int (0 : Int32))
set_option maxRecDepth 65536 in
set_option maxHeartbeats 40000000 in
theorem rmName (l : Launch) (Z : State) (aw : Array Value) (hw : ∀ d ∈ tables_1, d.before aw Z = true) (ws : List Jvm.Cond) (a0 : Addr) (a1 : Addr) (sb : Addr) (b : Addr) (k : ClassId) (d : Addr) (kd : ClassId) (fm : Value) (cs : Int32) (h0 : Heap) (n0 : Nat) (Z0 : n0 ≤ h0.size) (EJ : Exa Z h0 a0 "latentrace/io/JsonWriter") (gJ : n0 ≤ a0) (Ft : Fld Z h0 a0 "latentrace/io/JsonWriter" "text" "Ljava/lang/StringBuilder;" (.ref sb)) (Fa : Fld Z h0 a0 "latentrace/io/JsonWriter" "afterValue" "Z" (.int (0 : Int32))) (E0 : Exa Z h0 sb "java/lang/StringBuilder") (g0 : n0 ≤ sb) (Fv : Fld Z h0 sb "java/lang/AbstractStringBuilder" "value" "[B" (.ref b)) (Fk : Fld Z h0 sb "java/lang/AbstractStringBuilder" "coder" "B" (.int (0 : Int32))) (Fn : Fld Z h0 sb "java/lang/AbstractStringBuilder" "count" "I" (.int (1 : Int32))) (V0 : Arv Z h0 b k .byte (16 : Int32) [(.int (123 : Int32)), (.int (0 : Int32)), (.int (0 : Int32)), (.int (0 : Int32)), (.int (0 : Int32)), (.int (0 : Int32)), (.int (0 : Int32)), (.int (0 : Int32)), (.int (0 : Int32)), (.int (0 : Int32)), (.int (0 : Int32)), (.int (0 : Int32)), (.int (0 : Int32)), (.int (0 : Int32)), (.int (0 : Int32)), (.int (0 : Int32))] (.int (0 : Int32))) (gb : n0 ≤ b) (Es : Exa Z h0 a1 "java/lang/String") (Sk : Fld Z h0 a1 "java/lang/String" "coder" "B" (.int (0 : Int32))) (Sv : Fld Z h0 a1 "java/lang/String" "value" "[B" (.ref d)) (W0 : Arv Z h0 d kd .byte (1 : Int32) [(.int (97 : Int32))] (.int (0 : Int32))) (SF : Sta Z h0 "jdk/internal/util/Preconditions" "SIOOBE_FORMATTER" "Ljava/util/function/BiFunction;" fm) (S0 : Sta Z h0 "java/lang/String" "COMPACT_STRINGS" "Z" (.int cs)) (hfm : fm.isRef = true) (hcs : ¬ (cs = (0 : Int32))) :
    MetFree l (⟨"latentrace/io/JsonWriter", "name", "(Ljava/lang/String;)Llatentrace/io/JsonWriter;"⟩ : MethodName) (head1 (Jvm.Cond.code (⟨"latentrace/io/JsonWriter", "name", "(Ljava/lang/String;)Llatentrace/io/JsonWriter;"⟩ : MethodName) prog_20_method_6_code 2 (some (.object "latentrace/io/JsonWriter")) :: ws) ({ frames := 6, cells := 2, slots := 5, locals := 102 } : Room)) (fun a U => a = #[(.ref a0), (.ref a1)] ∧ Z.Warmed39 U.vm ∧ U.heap = h0) (fun _ _ _ _ _ => True) (fun _ U o U' => ∃ v L, o = .returned v ∧ Q_rmName Z a0 a1 sb b k d kd fm cs h0 n0 v U'.heap L ∧ FrameEnd U o U' L ({ frames := 6, cells := 2, slots := 5, locals := 102 } : Room).cells ({ frames := 6, cells := 2, slots := 5, locals := 102 } : Room).slots) := by
  refine MetFree.of_bodySF (plainFor_of_name pn_latentrace_io_JsonWriter) hisR ?_
  intro p e s m args below meth cd s₁ Bd hml0 hP hK
  obtain ⟨rfl, hZ, hh⟩ := hP
  have hx := Bd.exec
  have hby := Bd.bytes
  have hml : cd.maxLocals = 2 := hml0
  have hown : s.vm.findClass "latentrace/io/JsonWriter" = some m.cls := findClass_of_methodNamed Bd.named
  have hnm := (name_of_methodNamed Bd.named Bd.method).1
  have X0 : Stand p l e ({ frames := 6, cells := 2, slots := 5, locals := 102 } : Room) s m #[(.ref a0), (.ref a1)] below meth cd s₁ [] 0 0 := Stand.of_body Bd
  have e0 : s₁.heap = h0 := by rw [← hh, Bd.state]; rfl
  have N0 := Fr.nil n0
  have pre0 : ∀ t, Steps p.tables e below (s₁.setTop (mkF m 0 #[.val (.ref a0), .val (.ref a1)] [])) t → Steps p.tables e below (s₁.setTop (entryFrame m #[(.ref a0), (.ref a1)] 2)) t := fun t k => castTop (ef_rmName m a0 a1) k
  obtain ⟨cq1, q1, q1'⟩ := EJ.cell
  obtain ⟨_, _, ⟨T1, L1, k1, n1⟩, -, X1, ⟨Lc1, hQ1, l1, y1, z1⟩, st1⟩ := X0.privateBack hx (y := (⟨"latentrace/io/JsonWriter", "separate", "()V"⟩ : MethodName)) hown (mvT hZ (hw _ (List.mem_of_getElem? (i := 43) rfl))) (mvT hZ (hw _ (List.mem_of_getElem? (i := 44) rfl))) (own_sel hZ (hw _ (List.mem_of_getElem? (i := 2) rfl)) (hw _ (List.mem_of_getElem? (i := 45) rfl)) (hw _ (List.mem_of_getElem? (i := 44) rfl)) (by decide)) (Cond.privateMethod_at (mvP hZ (hw _ (List.mem_of_getElem? (i := 45) rfl)) (args := #[]))) (mvT hZ (hw _ (List.mem_of_getElem? (i := 46) rfl))) (by decide) (backOf (W := 0) (rmSep0 l Z aw hw [] a0 h0 n0 Z0 Fa) hZ (hw _ (List.mem_of_getElem? (i := 46) rfl)) (hw _ (List.mem_of_getElem? (i := 3) rfl)) (by decide) (by decide)) (g := (mkF m 1 #[.val (.ref a0), .val (.ref a1)] [(.ref a0)])) rfl (by rw [hml]; rfl) (Steps.refl _) (a := a0) (by rw [e0]; exact q1) q1' (argsL := []) (rest := []) (lenOf pd___V rfl) rfl (by show 2 * 0 + _ ≤ _; exact Nat.le_of_eq rfl) (hb hby d_prog_20_method_6_1) (fun _ _ => ⟨rfl, e0, (by decide : 0 + 0 ≤ _), (by decide : 0 + 0 ≤ _)⟩)
  dsimp only [Pt.U, Pt.locs, Pt.cells, Pt.slots] at X1 l1 y1 z1 st1 hQ1
  subst l1 y1 z1
  obtain ⟨rfl, N1q, q1⟩ := hQ1
  have N1 := Fr.app N0 N1q
  obtain ⟨cq2, q2, q2'⟩ := EJ.cell
  obtain ⟨_, _, ⟨T2, L2, k2, n2⟩, -, X2, ⟨Lc2, hQ2, l2, y2, z2⟩, st2⟩ := X1.privateBack hx (y := (⟨"latentrace/io/JsonWriter", "quote", "(Ljava/lang/String;)V"⟩ : MethodName)) hown (mvT hZ (hw _ (List.mem_of_getElem? (i := 190) rfl))) (mvT hZ (hw _ (List.mem_of_getElem? (i := 191) rfl))) (own_sel hZ (hw _ (List.mem_of_getElem? (i := 2) rfl)) (hw _ (List.mem_of_getElem? (i := 192) rfl)) (hw _ (List.mem_of_getElem? (i := 191) rfl)) (by decide)) (Cond.privateMethod_at (mvP hZ (hw _ (List.mem_of_getElem? (i := 192) rfl)) (args := #[]))) (mvT hZ (hw _ (List.mem_of_getElem? (i := 193) rfl))) (by decide) (backOf (W := 0) (rmQ l Z aw hw [] a0 a1 sb b k d kd fm cs h0 n0 Z0 EJ gJ Ft Fa E0 g0 Fv Fk Fn V0 gb Es Sk Sv W0 SF S0 hfm hcs) hZ (hw _ (List.mem_of_getElem? (i := 193) rfl)) (hw _ (List.mem_of_getElem? (i := 3) rfl)) (by decide) (by decide)) (g := (mkF m 6 #[.val (.ref a0), .val (.ref a1)] [(.ref a1), (.ref a0)])) rfl (by rw [hml]; rfl) (Steps.refl _) (a := a0) (by rw [q1]; exact q2) q2' (argsL := [(.ref a1)]) (rest := []) (lenOf pd__Ljava_lang_String__V rfl) rfl (by show 2 * 0 + _ ≤ _; exact Nat.le_of_eq rfl) (hb hby d_prog_20_method_6_6) (fun _ _ => ⟨rfl, q1, (by decide : 0 + 2 ≤ _), (by decide : 0 + 5 ≤ _)⟩)
  dsimp only [Pt.U, Pt.locs, Pt.cells, Pt.slots] at X2 l2 y2 z2 st2 hQ2
  subst l2 y2 z2
  obtain ⟨rfl, N2q, Kc2, Ej2, Ft2, Fa2, Ec2, Fv2, Fk2, Fn2, Vb2⟩ := hQ2
  have N2 := Fr.app N1 N2q
  have S0__2 := own_sta_keep S0 Kc2 (nsS (EJ.nostat) (nsS (E0.nostat) (nsS (V0.nostat) ns0)))
  have Es__2 := Es.keep Kc2
  have Sk__2 := Sk.keep Kc2 (by simp only [List.mem_cons, List.not_mem_nil, or_false, not_or]; exact ⟨(ne_exa Es EJ (by decide)), (ne_exa Es E0 (by decide)), (Es.neArv V0 (hw _ (List.mem_of_getElem? (i := 33) rfl)))⟩)
  have Sv__2 := Sv.keep Kc2 (by simp only [List.mem_cons, List.not_mem_nil, or_false, not_or]; exact ⟨(ne_exa Es EJ (by decide)), (ne_exa Es E0 (by decide)), (Es.neArv V0 (hw _ (List.mem_of_getElem? (i := 33) rfl)))⟩)
  have W0__2 := W0.keep Kc2 (by simp only [List.mem_cons, List.not_mem_nil, or_false, not_or]; exact ⟨(Ne.symm (EJ.neArv W0 (hw _ (List.mem_of_getElem? (i := 2) rfl)))), (Ne.symm (E0.neArv W0 (hw _ (List.mem_of_getElem? (i := 11) rfl)))), (arv_ne W0 V0 (Or.inl (by decide)))⟩)
  have SF__2 := own_sta_keep SF Kc2 (nsS (EJ.nostat) (nsS (E0.nostat) (nsS (V0.nostat) ns0)))
  have KK2 : Keep h0 T2.heap [a0, sb, b] := Keep.trans (Keep.refl h0 [a0, sb, b]) Kc2 (fun x q => by simp only [List.mem_cons, List.not_mem_nil, or_false] at q; rcases q with rfl | rfl | rfl <;> first | exact (Or.inl (List.mem_of_getElem? (i := 0) rfl)) | exact (Or.inl (List.mem_of_getElem? (i := 1) rfl)) | exact (Or.inl (List.mem_of_getElem? (i := 2) rfl)))
  have Zs2 : n0 ≤ T2.heap.size := Nat.le_trans Z0 Kc2.1
  obtain ⟨T3, X3, e3, st3⟩ := getF X2 hx hZ hown (host := "") (Or.inl (hw _ (List.mem_of_getElem? (i := 30) rfl))) Via.refl rfl Ft2 (g := (mkF m 10 #[.val (.ref a0), .val (.ref a1)] [(.ref a0)])) rfl rfl (hb hby d_prog_20_method_6_10)
  obtain ⟨cq4, kq4, q4a, q4b, q4c⟩ := isOf hZ e3 Ec2
  obtain ⟨_, _, ⟨T4, L4, k4, n4⟩, -, X4, ⟨Lc4, hQ4, l4, y4, z4⟩, st4⟩ := X3.virtualBack hx (y := (⟨"java/lang/StringBuilder", "append", "(C)Ljava/lang/StringBuilder;"⟩ : MethodName)) (z := (⟨"java/lang/StringBuilder", "append", "(C)Ljava/lang/StringBuilder;"⟩ : MethodName)) hown (mvT hZ (hw _ (List.mem_of_getElem? (i := 100) rfl))) (mvT hZ (hw _ (List.mem_of_getElem? (i := 101) rfl))) (notFace_of_selects (args := #[]) (mvT hZ (hw _ (List.mem_of_getElem? (i := 103) rfl)))) (mvT hZ (hw _ (List.mem_of_getElem? (i := 103) rfl))) (mvT hZ (hw _ (List.mem_of_getElem? (i := 102) rfl))) (by decide) (backOf (W := 0) (rmSC l Z aw hw [] sb (58 : Int32) b k (4 : Int32) [(.int (123 : Int32)), (.int (34 : Int32)), (.int (97 : Int32)), (.int (34 : Int32)), (.int (0 : Int32)), (.int (0 : Int32)), (.int (0 : Int32)), (.int (0 : Int32)), (.int (0 : Int32)), (.int (0 : Int32)), (.int (0 : Int32)), (.int (0 : Int32)), (.int (0 : Int32)), (.int (0 : Int32)), (.int (0 : Int32)), (.int (0 : Int32))] cs T2.heap n0 Zs2 Ec2 g0 Fv2 Fk2 Fn2 Vb2 gb S0__2 (by decide) (by decide) (by decide) (by decide) hcs) hZ (hw _ (List.mem_of_getElem? (i := 104) rfl)) (hw _ (List.mem_of_getElem? (i := 12) rfl)) (by decide) (by decide)) q4a q4c (g := (mkF m 15 #[.val (.ref a0), .val (.ref a1)] [(.int (58 : Int32)), (.ref sb)])) rfl (by rw [hml]; rfl) (Steps.refl _) (argsL := [(.int (58 : Int32))]) (rest := []) (lenOf pd__C_Ljava_lang_StringBuilder_ rfl) rfl (by show 2 * 0 + _ ≤ _; exact Nat.le_of_eq rfl) (hb hby d_prog_20_method_6_15) (fun _ _ => ⟨rfl, e3, (by decide : 2 + 0 ≤ _), (by decide : 5 + 0 ≤ _)⟩)
  dsimp only [Pt.U, Pt.locs, Pt.cells, Pt.slots] at X4 l4 y4 z4 st4 hQ4
  subst l4 y4 z4
  obtain ⟨rfl, N4q, Kc4, Ec4, Fv4, Fk4, Fn4, Vb4⟩ := hQ4
  have N4 := Fr.app N2 N4q
  rw [(by decide : ((4 : Int32) + (1 : Int32)) = (5 : Int32))] at Fn4
  rw [(by first | rfl | decide : (([(.int (123 : Int32)), (.int (34 : Int32)), (.int (97 : Int32)), (.int (34 : Int32)), (.int (0 : Int32)), (.int (0 : Int32)), (.int (0 : Int32)), (.int (0 : Int32)), (.int (0 : Int32)), (.int (0 : Int32)), (.int (0 : Int32)), (.int (0 : Int32)), (.int (0 : Int32)), (.int (0 : Int32)), (.int (0 : Int32)), (.int (0 : Int32))].set ((4 : Int32)).toNatClampNeg (.int (nar .byte ((58 : Int32).toInt8.toInt32)))) : List Value) = [(.int (123 : Int32)), (.int (34 : Int32)), (.int (97 : Int32)), (.int (34 : Int32)), (.int (58 : Int32)), (.int (0 : Int32)), (.int (0 : Int32)), (.int (0 : Int32)), (.int (0 : Int32)), (.int (0 : Int32)), (.int (0 : Int32)), (.int (0 : Int32)), (.int (0 : Int32)), (.int (0 : Int32)), (.int (0 : Int32)), (.int (0 : Int32))])] at Vb4
  have S0__4 := own_sta_keep S0__2 Kc4 (nsS (Ec2.nostat) (nsS (Vb2.nostat) ns0))
  have Es__4 := Es__2.keep Kc4
  have Sk__4 := Sk__2.keep Kc4 (by simp only [List.mem_cons, List.not_mem_nil, or_false, not_or]; exact ⟨(ne_exa Es__2 Ec2 (by decide)), (Es__2.neArv Vb2 (hw _ (List.mem_of_getElem? (i := 33) rfl)))⟩)
  have Sv__4 := Sv__2.keep Kc4 (by simp only [List.mem_cons, List.not_mem_nil, or_false, not_or]; exact ⟨(ne_exa Es__2 Ec2 (by decide)), (Es__2.neArv Vb2 (hw _ (List.mem_of_getElem? (i := 33) rfl)))⟩)
  have W0__4 := W0__2.keep Kc4 (by simp only [List.mem_cons, List.not_mem_nil, or_false, not_or]; exact ⟨(Ne.symm (Ec2.neArv W0__2 (hw _ (List.mem_of_getElem? (i := 11) rfl)))), (arv_ne W0__2 Vb2 (Or.inl (by decide)))⟩)
  have SF__4 := own_sta_keep SF__2 Kc4 (nsS (Ec2.nostat) (nsS (Vb2.nostat) ns0))
  have Ej2__4 := Ej2.keep Kc4
  have Ft2__4 := Ft2.keep Kc4 (by simp only [List.mem_cons, List.not_mem_nil, or_false, not_or]; exact ⟨(ne_exa Ej2 Ec2 (by decide)), (Ej2.neArv Vb2 (hw _ (List.mem_of_getElem? (i := 2) rfl)))⟩)
  have Fa2__4 := Fa2.keep Kc4 (by simp only [List.mem_cons, List.not_mem_nil, or_false, not_or]; exact ⟨(ne_exa Ej2 Ec2 (by decide)), (Ej2.neArv Vb2 (hw _ (List.mem_of_getElem? (i := 2) rfl)))⟩)
  have KK4 : Keep h0 T4.heap [a0, sb, b] := Keep.trans KK2 Kc4 (fun x q => by simp only [List.mem_cons, List.not_mem_nil, or_false] at q; rcases q with rfl | rfl <;> first | exact (Or.inl (List.mem_of_getElem? (i := 1) rfl)) | exact (Or.inl (List.mem_of_getElem? (i := 2) rfl)))
  have Zs4 : n0 ≤ T4.heap.size := Nat.le_trans Zs2 Kc4.1
  obtain ⟨T5, h5, X5, e5, W5, st5⟩ := putFN X4 hx hZ hown (hw _ (List.mem_of_getElem? (i := 47) rfl)) Via.refl rfl Fa2__4 Ej2__4 (Or.inl (hw _ (List.mem_of_getElem? (i := 48) rfl))) (hw _ (List.mem_of_getElem? (i := 2) rfl)) (ty := .boolean) (v' := (.int (0 : Int32))) (by decide) (by decide) (by decide) (g := (mkF m 21 #[.val (.ref a0), .val (.ref a1)] [(.int (0 : Int32)), (.ref a0)])) rfl rfl (hb hby d_prog_20_method_6_21)
  have S0__5 := S0__4.wr W5
  have Es__5 := Es__4.wr W5
  have Sk__5 := Sk__4.other W5 (Or.inl (ne_exa Es__4 Ej2__4 (by decide)))
  have Sv__5 := Sv__4.other W5 (Or.inl (ne_exa Es__4 Ej2__4 (by decide)))
  have W0__5 := W0__4.other W5 (Ne.symm (Ej2__4.neArv W0__4 (hw _ (List.mem_of_getElem? (i := 2) rfl))))
  have SF__5 := SF__4.wr W5
  have Ej2__5 := Ej2__4.wr W5
  have Ft2__5 := Ft2__4.other W5 (Or.inr (slot_ne (Or.inr (hw _ (List.mem_of_getElem? (i := 31) rfl))) (Or.inl (hw _ (List.mem_of_getElem? (i := 48) rfl))) (by decide) (t := (.object "java/lang/StringBuilder")) (t' := .boolean) (by decide) (by decide)))
  have Fa2__5 := Fa2__4.same W5
  have Ec4__5 := Ec4.wr W5
  have Fv4__5 := Fv4.other W5 (Or.inl (ne_exa Ec4 Ej2__4 (by decide)))
  have Fk4__5 := Fk4.other W5 (Or.inl (ne_exa Ec4 Ej2__4 (by decide)))
  have Fn4__5 := Fn4.other W5 (Or.inl (ne_exa Ec4 Ej2__4 (by decide)))
  have Vb4__5 := Vb4.other W5 (Ne.symm (Ej2__4.neArv Vb4 (hw _ (List.mem_of_getElem? (i := 2) rfl))))
  have K5 : Keep h0 h5 [a0, sb, b] := KK4.wr W5 (Or.inl (List.mem_of_getElem? (i := 0) rfl))
  have Zs5 : n0 ≤ h5.size := Nat.le_trans Zs4 (Keep.of_wr W5).1
  have N5 := Fr.snoc X5 N4 gJ
  obtain ⟨fs, hr, hrun, hended, hW, hsame⟩ := X5.leave (v := some (.ref a0)) (fun h => by rw [Bd.returns] at h; cases h)
  refine ⟨_, _, pre0 _ ?_, hrun, hended, _, _, rfl, ?_, ⟨_, rfl⟩, hW, hsame.mono (by decide) (by decide)⟩
  · show Steps p.tables e below (s₁.setTop (mkF m 0 #[.val (.ref a0), .val (.ref a1)] [])) _
    refine XS.aloadN X0.here hx rfl (hb hby d_prog_20_method_6_0) rfl rfl ?_
    show Steps p.tables e below (s₁.setTop (mkF m 1 #[.val (.ref a0), .val (.ref a1)] [(.ref a0)])) _
    refine st1.trans ?_
    show Steps p.tables e below (T1.setTop (mkF m 4 #[.val (.ref a0), .val (.ref a1)] [])) _
    refine XS.aloadN X1.here hx rfl (hb hby d_prog_20_method_6_4) rfl rfl ?_
    show Steps p.tables e below (T1.setTop (mkF m 5 #[.val (.ref a0), .val (.ref a1)] [(.ref a0)])) _
    refine XS.aloadN X1.here hx rfl (hb hby d_prog_20_method_6_5) rfl rfl ?_
    show Steps p.tables e below (T1.setTop (mkF m 6 #[.val (.ref a0), .val (.ref a1)] [(.ref a1), (.ref a0)])) _
    refine st2.trans ?_
    show Steps p.tables e below (T2.setTop (mkF m 9 #[.val (.ref a0), .val (.ref a1)] [])) _
    refine XS.aloadN X2.here hx rfl (hb hby d_prog_20_method_6_9) rfl rfl ?_
    show Steps p.tables e below (T2.setTop (mkF m 10 #[.val (.ref a0), .val (.ref a1)] [(.ref a0)])) _
    refine st3 _ ?_
    show Steps p.tables e below (T3.setTop (mkF m 13 #[.val (.ref a0), .val (.ref a1)] [(.ref sb)])) _
    refine XS.bipush X3.here hx rfl (hb hby d_prog_20_method_6_13) ?_
    show Steps p.tables e below (T3.setTop (mkF m 15 #[.val (.ref a0), .val (.ref a1)] [(.int (58 : Int32)), (.ref sb)])) _
    refine st4.trans ?_
    show Steps p.tables e below (T4.setTop (mkF m 18 #[.val (.ref a0), .val (.ref a1)] [(.ref sb)])) _
    refine XS.pop X4.here hx rfl (hb hby d_prog_20_method_6_18) rfl rfl ?_
    show Steps p.tables e below (T4.setTop (mkF m 19 #[.val (.ref a0), .val (.ref a1)] [])) _
    refine XS.aloadN X4.here hx rfl (hb hby d_prog_20_method_6_19) rfl rfl ?_
    show Steps p.tables e below (T4.setTop (mkF m 20 #[.val (.ref a0), .val (.ref a1)] [(.ref a0)])) _
    refine XS.iconst X4.here hx rfl (hb hby d_prog_20_method_6_20) ?_
    show Steps p.tables e below (T4.setTop (mkF m 21 #[.val (.ref a0), .val (.ref a1)] [(.int (0 : Int32)), (.ref a0)])) _
    refine st5 _ ?_
    show Steps p.tables e below (T5.setTop (mkF m 24 #[.val (.ref a0), .val (.ref a1)] [])) _
    refine XS.aloadN X5.here hx rfl (hb hby d_prog_20_method_6_24) rfl rfl ?_
    show Steps p.tables e below (T5.setTop (mkF m 25 #[.val (.ref a0), .val (.ref a1)] [(.ref a0)])) _
    jvm_step X5.here [X5.here.top, hx, (hb hby d_prog_20_method_6_25), X5.method', Bd.returns, Value.isRef, FieldType.isReference]
    first | (intro acts; rw [hr _ acts rfl rfl rfl]) | rw [hr _ _ rfl rfl rfl]
    exact Steps.refl _
  · show Q_rmName Z a0 a1 sb b k d kd fm cs h0 n0 _ T5.heap _
    rw [e5]
    exact ⟨rfl, N5, K5, Ej2__5, Ft2__5, Fa2__5, Ec4__5, Fv4__5, Fk4__5, Fn4__5, Vb4__5⟩
theorem d_jdk_68_method_64_0 : decode jdk_68_method_64_code 0 = .ok (.aload_n 0, 1) := by decide +kernel
theorem d_jdk_68_method_64_1 : decode jdk_68_method_64_code 1 = .ok (.getfield 15, 3) := by decide +kernel
theorem d_jdk_68_method_64_4 : decode jdk_68_method_64_code 4 = .ok (.areturn, 1) := by decide +kernel
theorem ef_rmGV (m : MethodId) (a0 : Addr) : entryFrame m #[(.ref a0)] 1 = mkF m 0 #[.val (.ref a0)] [] := by first | (simp [entryFrame, mkF, argsToLocals, Value.category]; done) | rfl
def Q_rmGV (Z : State) (a0 : Addr) (b : Addr) (h0 : Heap) (n0 : Nat) (v : Option Value) (h : Heap) (L : List Loc) : Prop := v = some (.ref b) ∧ Fr n0 L ∧ h = h0
set_option maxRecDepth 65536 in
set_option maxHeartbeats 40000000 in
theorem rmGV (l : Launch) (Z : State) (aw : Array Value) (hw : ∀ d ∈ tables_1, d.before aw Z = true) (ws : List Jvm.Cond) (a0 : Addr) (b : Addr) (h0 : Heap) (n0 : Nat) (Z0 : n0 ≤ h0.size) (Fv : Fld Z h0 a0 "java/lang/AbstractStringBuilder" "value" "[B" (.ref b)) :
    MetFree l (⟨"java/lang/AbstractStringBuilder", "getValue", "()[B"⟩ : MethodName) (head1 (Jvm.Cond.code (⟨"java/lang/AbstractStringBuilder", "getValue", "()[B"⟩ : MethodName) jdk_68_method_64_code 1 (some (.array .byte)) :: ws) ({ frames := 0, cells := 0, slots := 0, locals := 0 } : Room)) (fun a U => a = #[(.ref a0)] ∧ Z.Warmed39 U.vm ∧ U.heap = h0) (fun _ _ _ _ _ => True) (fun _ U o U' => ∃ v L, o = .returned v ∧ Q_rmGV Z a0 b h0 n0 v U'.heap L ∧ FrameEnd U o U' L ({ frames := 0, cells := 0, slots := 0, locals := 0 } : Room).cells ({ frames := 0, cells := 0, slots := 0, locals := 0 } : Room).slots) := by
  refine MetFree.of_bodySF (plainFor_of_name pn_java_lang_AbstractStringBuilder) hisR ?_
  intro p e s m args below meth cd s₁ Bd hml0 hP hK
  obtain ⟨rfl, hZ, hh⟩ := hP
  have hx := Bd.exec
  have hby := Bd.bytes
  have hml : cd.maxLocals = 1 := hml0
  have hown : s.vm.findClass "java/lang/AbstractStringBuilder" = some m.cls := findClass_of_methodNamed Bd.named
  have hnm := (name_of_methodNamed Bd.named Bd.method).1
  have X0 : Stand p l e ({ frames := 0, cells := 0, slots := 0, locals := 0 } : Room) s m #[(.ref a0)] below meth cd s₁ [] 0 0 := Stand.of_body Bd
  have e0 : s₁.heap = h0 := by rw [← hh, Bd.state]; rfl
  have N0 := Fr.nil n0
  have pre0 : ∀ t, Steps p.tables e below (s₁.setTop (mkF m 0 #[.val (.ref a0)] [])) t → Steps p.tables e below (s₁.setTop (entryFrame m #[(.ref a0)] 1)) t := fun t k => castTop (ef_rmGV m a0) k
  obtain ⟨T1, X1, e1, st1⟩ := getF X0 hx hZ hown (host := "") (Or.inl (hw _ (List.mem_of_getElem? (i := 26) rfl))) Via.refl e0 Fv (g := (mkF m 1 #[.val (.ref a0)] [(.ref a0)])) rfl rfl (hb hby d_jdk_68_method_64_1)
  obtain ⟨fs, hr, hrun, hended, hW, hsame⟩ := X1.leave (v := some (.ref b)) (fun h => by rw [Bd.returns] at h; cases h)
  refine ⟨_, _, pre0 _ ?_, hrun, hended, _, _, rfl, ?_, ⟨_, rfl⟩, hW, hsame.mono (by decide) (by decide)⟩
  · show Steps p.tables e below (s₁.setTop (mkF m 0 #[.val (.ref a0)] [])) _
    refine XS.aloadN X0.here hx rfl (hb hby d_jdk_68_method_64_0) rfl rfl ?_
    show Steps p.tables e below (s₁.setTop (mkF m 1 #[.val (.ref a0)] [(.ref a0)])) _
    refine st1 _ ?_
    show Steps p.tables e below (T1.setTop (mkF m 4 #[.val (.ref a0)] [(.ref b)])) _
    jvm_step X1.here [X1.here.top, hx, (hb hby d_jdk_68_method_64_4), X1.method', Bd.returns, Value.isRef, FieldType.isReference]
    first | (intro acts; rw [hr _ acts rfl rfl rfl]) | rw [hr _ _ rfl rfl rfl]
    exact Steps.refl _
  · show Q_rmGV Z a0 b h0 n0 _ T1.heap _
    rw [e1]
    exact ⟨rfl, N0, rfl⟩
theorem d_jdk_68_method_6_0 : decode jdk_68_method_6_code 0 = .ok (.aload_n 0, 1) := by decide +kernel
theorem d_jdk_68_method_6_1 : decode jdk_68_method_6_code 1 = .ok (.getfield 79, 3) := by decide +kernel
theorem d_jdk_68_method_6_4 : decode jdk_68_method_6_code 4 = .ok (.ireturn, 1) := by decide +kernel
theorem ef_rmAL (m : MethodId) (a0 : Addr) : entryFrame m #[(.ref a0)] 1 = mkF m 0 #[.val (.ref a0)] [] := by first | (simp [entryFrame, mkF, argsToLocals, Value.category]; done) | rfl
def Q_rmAL (Z : State) (a0 : Addr) (c : Int32) (h0 : Heap) (n0 : Nat) (v : Option Value) (h : Heap) (L : List Loc) : Prop := v = some (.int c) ∧ Fr n0 L ∧ h = h0
set_option maxRecDepth 65536 in
set_option maxHeartbeats 40000000 in
theorem rmAL (l : Launch) (Z : State) (aw : Array Value) (hw : ∀ d ∈ tables_1, d.before aw Z = true) (ws : List Jvm.Cond) (a0 : Addr) (c : Int32) (h0 : Heap) (n0 : Nat) (Z0 : n0 ≤ h0.size) (Fn : Fld Z h0 a0 "java/lang/AbstractStringBuilder" "count" "I" (.int c)) :
    MetFree l (⟨"java/lang/AbstractStringBuilder", "length", "()I"⟩ : MethodName) (head1 (Jvm.Cond.code (⟨"java/lang/AbstractStringBuilder", "length", "()I"⟩ : MethodName) jdk_68_method_6_code 1 (some .int) :: ws) ({ frames := 0, cells := 0, slots := 0, locals := 0 } : Room)) (fun a U => a = #[(.ref a0)] ∧ Z.Warmed39 U.vm ∧ U.heap = h0) (fun _ _ _ _ _ => True) (fun _ U o U' => ∃ v L, o = .returned v ∧ Q_rmAL Z a0 c h0 n0 v U'.heap L ∧ FrameEnd U o U' L ({ frames := 0, cells := 0, slots := 0, locals := 0 } : Room).cells ({ frames := 0, cells := 0, slots := 0, locals := 0 } : Room).slots) := by
  refine MetFree.of_bodySF (plainFor_of_name pn_java_lang_AbstractStringBuilder) hisR ?_
  intro p e s m args below meth cd s₁ Bd hml0 hP hK
  obtain ⟨rfl, hZ, hh⟩ := hP
  have hx := Bd.exec
  have hby := Bd.bytes
  have hml : cd.maxLocals = 1 := hml0
  have hown : s.vm.findClass "java/lang/AbstractStringBuilder" = some m.cls := findClass_of_methodNamed Bd.named
  have hnm := (name_of_methodNamed Bd.named Bd.method).1
  have X0 : Stand p l e ({ frames := 0, cells := 0, slots := 0, locals := 0 } : Room) s m #[(.ref a0)] below meth cd s₁ [] 0 0 := Stand.of_body Bd
  have e0 : s₁.heap = h0 := by rw [← hh, Bd.state]; rfl
  have N0 := Fr.nil n0
  have pre0 : ∀ t, Steps p.tables e below (s₁.setTop (mkF m 0 #[.val (.ref a0)] [])) t → Steps p.tables e below (s₁.setTop (entryFrame m #[(.ref a0)] 1)) t := fun t k => castTop (ef_rmAL m a0) k
  obtain ⟨T1, X1, e1, st1⟩ := getF X0 hx hZ hown (host := "") (Or.inl (hw _ (List.mem_of_getElem? (i := 73) rfl))) Via.refl e0 Fn (g := (mkF m 1 #[.val (.ref a0)] [(.ref a0)])) rfl rfl (hb hby d_jdk_68_method_6_1)
  obtain ⟨fs, hr, hrun, hended, hW, hsame⟩ := X1.leave (v := some (.int c)) (fun h => by rw [Bd.returns] at h; cases h)
  refine ⟨_, _, pre0 _ ?_, hrun, hended, _, _, rfl, ?_, ⟨_, rfl⟩, hW, hsame.mono (by decide) (by decide)⟩
  · show Steps p.tables e below (s₁.setTop (mkF m 0 #[.val (.ref a0)] [])) _
    refine XS.aloadN X0.here hx rfl (hb hby d_jdk_68_method_6_0) rfl rfl ?_
    show Steps p.tables e below (s₁.setTop (mkF m 1 #[.val (.ref a0)] [(.ref a0)])) _
    refine st1 _ ?_
    show Steps p.tables e below (T1.setTop (mkF m 4 #[.val (.ref a0)] [(.int c)])) _
    exact retI X1 hx Bd.returns (hb hby d_jdk_68_method_6_4) hr
  · show Q_rmAL Z a0 c h0 n0 _ T1.heap _
    rw [e1]
    exact ⟨rfl, N0, rfl⟩
theorem d_jdk_67_method_93_0 : decode jdk_67_method_93_code 0 = .ok (.aload_n 0, 1) := by decide +kernel
theorem d_jdk_67_method_93_1 : decode jdk_67_method_93_code 1 = .ok (.invokespecial 343, 3) := by decide +kernel
theorem d_jdk_67_method_93_4 : decode jdk_67_method_93_code 4 = .ok (.ireturn, 1) := by decide +kernel
theorem ef_rmSL (m : MethodId) (a0 : Addr) : entryFrame m #[(.ref a0)] 1 = mkF m 0 #[.val (.ref a0)] [] := by first | (simp [entryFrame, mkF, argsToLocals, Value.category]; done) | rfl
def Q_rmSL (Z : State) (a0 : Addr) (c : Int32) (h0 : Heap) (n0 : Nat) (v : Option Value) (h : Heap) (L : List Loc) : Prop := v = some (.int c) ∧ Fr n0 L ∧ h = h0
set_option maxRecDepth 65536 in
set_option maxHeartbeats 40000000 in
theorem rmSL (l : Launch) (Z : State) (aw : Array Value) (hw : ∀ d ∈ tables_1, d.before aw Z = true) (ws : List Jvm.Cond) (a0 : Addr) (c : Int32) (h0 : Heap) (n0 : Nat) (Z0 : n0 ≤ h0.size) (E0 : Exa Z h0 a0 "java/lang/StringBuilder") (Fn : Fld Z h0 a0 "java/lang/AbstractStringBuilder" "count" "I" (.int c)) :
    MetFree l (⟨"java/lang/StringBuilder", "length", "()I"⟩ : MethodName) (head1 (Jvm.Cond.code (⟨"java/lang/StringBuilder", "length", "()I"⟩ : MethodName) jdk_67_method_93_code 1 (some .int) :: ws) ({ frames := 1, cells := 0, slots := 0, locals := 12 } : Room)) (fun a U => a = #[(.ref a0)] ∧ Z.Warmed39 U.vm ∧ U.heap = h0) (fun _ _ _ _ _ => True) (fun _ U o U' => ∃ v L, o = .returned v ∧ Q_rmSL Z a0 c h0 n0 v U'.heap L ∧ FrameEnd U o U' L ({ frames := 1, cells := 0, slots := 0, locals := 12 } : Room).cells ({ frames := 1, cells := 0, slots := 0, locals := 12 } : Room).slots) := by
  refine MetFree.of_bodySF (plainFor_of_name pn_java_lang_StringBuilder) hisR ?_
  intro p e s m args below meth cd s₁ Bd hml0 hP hK
  obtain ⟨rfl, hZ, hh⟩ := hP
  have hx := Bd.exec
  have hby := Bd.bytes
  have hml : cd.maxLocals = 1 := hml0
  have hown : s.vm.findClass "java/lang/StringBuilder" = some m.cls := findClass_of_methodNamed Bd.named
  have hnm := (name_of_methodNamed Bd.named Bd.method).1
  have X0 : Stand p l e ({ frames := 1, cells := 0, slots := 0, locals := 12 } : Room) s m #[(.ref a0)] below meth cd s₁ [] 0 0 := Stand.of_body Bd
  have e0 : s₁.heap = h0 := by rw [← hh, Bd.state]; rfl
  have N0 := Fr.nil n0
  have pre0 : ∀ t, Steps p.tables e below (s₁.setTop (mkF m 0 #[.val (.ref a0)] [])) t → Steps p.tables e below (s₁.setTop (entryFrame m #[(.ref a0)] 1)) t := fun t k => castTop (ef_rmSL m a0) k
  obtain ⟨_, _, ⟨T1, L1, k1, n1⟩, -, X1, ⟨Lc1, hQ1, l1, y1, z1⟩, st1⟩ := superBack X0 hx hZ (y := (⟨"java/lang/AbstractStringBuilder", "length", "()I"⟩ : MethodName)) hown (hw _ (List.mem_of_getElem? (i := 148) rfl)) (own_same (hw _ (List.mem_of_getElem? (i := 144) rfl)) (hw _ (List.mem_of_getElem? (i := 112) rfl)) (by decide) rfl) (hw _ (List.mem_of_getElem? (i := 144) rfl)) (hw _ (List.mem_of_getElem? (i := 57) rfl)) (by decide) (backOf (W := 0) (rmAL l Z aw hw [] a0 c h0 n0 Z0 Fn) hZ (hw _ (List.mem_of_getElem? (i := 149) rfl)) (hw _ (List.mem_of_getElem? (i := 20) rfl)) (by decide) (by decide)) e0 (Ins.self E0) (g := (mkF m 1 #[.val (.ref a0)] [(.ref a0)])) rfl (by rw [hml]; rfl) (hw _ (List.mem_of_getElem? (i := 149) rfl)) (argsL := []) (rest := []) (lenOf pd___I rfl) rfl (by show 2 * 0 + _ ≤ _; exact Nat.le_of_eq rfl) (hb hby d_jdk_67_method_93_1) (fun _ _ => ⟨rfl, e0, (by decide : 0 + 0 ≤ _), (by decide : 0 + 0 ≤ _)⟩)
  dsimp only [Pt.U, Pt.locs, Pt.cells, Pt.slots] at X1 l1 y1 z1 st1 hQ1
  subst l1 y1 z1
  obtain ⟨rfl, N1q, q1⟩ := hQ1
  have N1 := Fr.app N0 N1q
  obtain ⟨fs, hr, hrun, hended, hW, hsame⟩ := X1.leave (v := some (.int c)) (fun h => by rw [Bd.returns] at h; cases h)
  refine ⟨_, _, pre0 _ ?_, hrun, hended, _, _, rfl, ?_, ⟨_, rfl⟩, hW, hsame.mono (by decide) (by decide)⟩
  · show Steps p.tables e below (s₁.setTop (mkF m 0 #[.val (.ref a0)] [])) _
    refine XS.aloadN X0.here hx rfl (hb hby d_jdk_67_method_93_0) rfl rfl ?_
    show Steps p.tables e below (s₁.setTop (mkF m 1 #[.val (.ref a0)] [(.ref a0)])) _
    refine st1.trans ?_
    show Steps p.tables e below (T1.setTop (mkF m 4 #[.val (.ref a0)] [(.int c)])) _
    exact retI X1 hx Bd.returns (hb hby d_jdk_67_method_93_4) hr
  · show Q_rmSL Z a0 c h0 n0 _ T1.heap _
    rw [q1]
    exact ⟨rfl, N1, rfl⟩
theorem d_jdk_29_method_69_0 : decode jdk_29_method_69_code 0 = .ok (.iload_n 0, 1) := by decide +kernel
theorem d_jdk_29_method_69_1 : decode jdk_29_method_69_code 1 = .ok (.iload_n 1, 1) := by decide +kernel
theorem d_jdk_29_method_69_2 : decode jdk_29_method_69_code 2 = .ok (.if_icmp .gt 7, 3) := by decide +kernel
theorem d_jdk_29_method_69_9 : decode jdk_29_method_69_code 9 = .ok (.iload_n 1, 1) := by decide +kernel
theorem d_jdk_29_method_69_10 : decode jdk_29_method_69_code 10 = .ok (.ireturn, 1) := by decide +kernel
theorem ef_rmMin (m : MethodId) (p0 : Int32) (p1 : Int32) : entryFrame m #[(.int p0), (.int p1)] 2 = mkF m 0 #[.val (.int p0), .val (.int p1)] [] := by first | (simp [entryFrame, mkF, argsToLocals, Value.category]; done) | rfl
def Q_rmMin (Z : State) (p0 : Int32) (p1 : Int32) (h0 : Heap) (n0 : Nat) (v : Option Value) (h : Heap) (L : List Loc) : Prop := v = some (.int p1) ∧ Fr n0 L ∧ h = h0
set_option maxRecDepth 65536 in
set_option maxHeartbeats 40000000 in
theorem rmMin (l : Launch) (Z : State) (aw : Array Value) (hw : ∀ d ∈ tables_1, d.before aw Z = true) (ws : List Jvm.Cond) (p0 : Int32) (p1 : Int32) (h0 : Heap) (n0 : Nat) (Z0 : n0 ≤ h0.size) (hc2 : p1 < p0) :
    MetFree l (⟨"java/lang/Math", "min", "(II)I"⟩ : MethodName) (head1 (Jvm.Cond.code (⟨"java/lang/Math", "min", "(II)I"⟩ : MethodName) jdk_29_method_69_code 2 (some .int) :: ws) ({ frames := 0, cells := 0, slots := 0, locals := 0 } : Room)) (fun a U => a = #[(.int p0), (.int p1)] ∧ Z.Warmed39 U.vm ∧ U.heap = h0) (fun _ _ _ _ _ => True) (fun _ U o U' => ∃ v L, o = .returned v ∧ Q_rmMin Z p0 p1 h0 n0 v U'.heap L ∧ FrameEnd U o U' L ({ frames := 0, cells := 0, slots := 0, locals := 0 } : Room).cells ({ frames := 0, cells := 0, slots := 0, locals := 0 } : Room).slots) := by
  refine MetFree.of_bodySF (Jvm.Free.JP.mathPlain rfl (by decide +kernel)) hisR ?_
  intro p e s m args below meth cd s₁ Bd hml0 hP hK
  obtain ⟨rfl, hZ, hh⟩ := hP
  have hx := Bd.exec
  have hby := Bd.bytes
  have hml : cd.maxLocals = 2 := hml0
  have hown : s.vm.findClass "java/lang/Math" = some m.cls := findClass_of_methodNamed Bd.named
  have hnm := (name_of_methodNamed Bd.named Bd.method).1
  have X0 : Stand p l e ({ frames := 0, cells := 0, slots := 0, locals := 0 } : Room) s m #[(.int p0), (.int p1)] below meth cd s₁ [] 0 0 := Stand.of_body Bd
  have e0 : s₁.heap = h0 := by rw [← hh, Bd.state]; rfl
  have N0 := Fr.nil n0
  have pre0 : ∀ t, Steps p.tables e below (s₁.setTop (mkF m 0 #[.val (.int p0), .val (.int p1)] [])) t → Steps p.tables e below (s₁.setTop (entryFrame m #[(.int p0), (.int p1)] 2)) t := fun t k => castTop (ef_rmMin m p0 p1) k
  obtain ⟨fs, hr, hrun, hended, hW, hsame⟩ := X0.leave (v := some (.int p1)) (fun h => by rw [Bd.returns] at h; cases h)
  refine ⟨_, _, pre0 _ ?_, hrun, hended, _, _, rfl, ?_, ⟨_, rfl⟩, hW, hsame.mono (by decide) (by decide)⟩
  · show Steps p.tables e below (s₁.setTop (mkF m 0 #[.val (.int p0), .val (.int p1)] [])) _
    refine XS.iloadN X0.here hx rfl (hb hby d_jdk_29_method_69_0) rfl ?_
    show Steps p.tables e below (s₁.setTop (mkF m 1 #[.val (.int p0), .val (.int p1)] [(.int p0)])) _
    refine XS.iloadN X0.here hx rfl (hb hby d_jdk_29_method_69_1) rfl ?_
    show Steps p.tables e below (s₁.setTop (mkF m 2 #[.val (.int p0), .val (.int p1)] [(.int p1), (.int p0)])) _
    refine XS.icmpYes X0.here hx rfl (pc0 := 2) (pc' := 9) rfl (hb hby d_jdk_29_method_69_2) rfl (tlt hc2).2.2.1 (by decide) (by decide) ?_
    show Steps p.tables e below (s₁.setTop (mkF m 9 #[.val (.int p0), .val (.int p1)] [])) _
    refine XS.iloadN X0.here hx rfl (hb hby d_jdk_29_method_69_9) rfl ?_
    show Steps p.tables e below (s₁.setTop (mkF m 10 #[.val (.int p0), .val (.int p1)] [(.int p1)])) _
    exact retI X0 hx Bd.returns (hb hby d_jdk_29_method_69_10) hr
  · show Q_rmMin Z p0 p1 h0 n0 _ s₁.heap _
    rw [e0]
    exact ⟨rfl, N0, rfl⟩
theorem d_jdk_65_method_131_0 : decode jdk_65_method_131_code 0 = .ok (.iload_n 1, 1) := by decide +kernel
theorem d_jdk_65_method_131_1 : decode jdk_65_method_131_code 1 = .ok (.iload_n 0, 1) := by decide +kernel
theorem d_jdk_65_method_131_2 : decode jdk_65_method_131_code 2 = .ok (.if_icmp .ge 35, 3) := by decide +kernel
theorem d_jdk_65_method_131_37 : decode jdk_65_method_131_code 37 = .ok (.return_, 1) := by decide +kernel
theorem pn_java_util_Arrays : plainName "java/util/Arrays" = true := by first | (simp [plainName, overriddenIn]; done) | decide +kernel
theorem ef_rmCL (m : MethodId) (p0 : Int32) (p1 : Int32) : entryFrame m #[(.int p0), (.int p1)] 2 = mkF m 0 #[.val (.int p0), .val (.int p1)] [] := by first | (simp [entryFrame, mkF, argsToLocals, Value.category]; done) | rfl
def Q_rmCL (Z : State) (p0 : Int32) (p1 : Int32) (h0 : Heap) (n0 : Nat) (v : Option Value) (h : Heap) (L : List Loc) : Prop := v = none ∧ Fr n0 L ∧ h = h0
set_option maxRecDepth 65536 in
set_option maxHeartbeats 40000000 in
theorem rmCL (l : Launch) (Z : State) (aw : Array Value) (hw : ∀ d ∈ tables_1, d.before aw Z = true) (ws : List Jvm.Cond) (p0 : Int32) (p1 : Int32) (h0 : Heap) (n0 : Nat) (Z0 : n0 ≤ h0.size) (hc2 : ¬ (p1 < p0)) :
    MetFree l (⟨"java/util/Arrays", "checkLength", "(II)V"⟩ : MethodName) (head1 (Jvm.Cond.code (⟨"java/util/Arrays", "checkLength", "(II)V"⟩ : MethodName) jdk_65_method_131_code 2 none :: ws) ({ frames := 0, cells := 0, slots := 0, locals := 0 } : Room)) (fun a U => a = #[(.int p0), (.int p1)] ∧ Z.Warmed39 U.vm ∧ U.heap = h0) (fun _ _ _ _ _ => True) (fun _ U o U' => ∃ v L, o = .returned v ∧ Q_rmCL Z p0 p1 h0 n0 v U'.heap L ∧ FrameEnd U o U' L ({ frames := 0, cells := 0, slots := 0, locals := 0 } : Room).cells ({ frames := 0, cells := 0, slots := 0, locals := 0 } : Room).slots) := by
  refine MetFree.of_bodySF (plainFor_of_name pn_java_util_Arrays) hisR ?_
  intro p e s m args below meth cd s₁ Bd hml0 hP hK
  obtain ⟨rfl, hZ, hh⟩ := hP
  have hx := Bd.exec
  have hby := Bd.bytes
  have hml : cd.maxLocals = 2 := hml0
  have hown : s.vm.findClass "java/util/Arrays" = some m.cls := findClass_of_methodNamed Bd.named
  have hnm := (name_of_methodNamed Bd.named Bd.method).1
  have X0 : Stand p l e ({ frames := 0, cells := 0, slots := 0, locals := 0 } : Room) s m #[(.int p0), (.int p1)] below meth cd s₁ [] 0 0 := Stand.of_body Bd
  have e0 : s₁.heap = h0 := by rw [← hh, Bd.state]; rfl
  have N0 := Fr.nil n0
  have pre0 : ∀ t, Steps p.tables e below (s₁.setTop (mkF m 0 #[.val (.int p0), .val (.int p1)] [])) t → Steps p.tables e below (s₁.setTop (entryFrame m #[(.int p0), (.int p1)] 2)) t := fun t k => castTop (ef_rmCL m p0 p1) k
  obtain ⟨fs, hr, hrun, hended, hW, hsame⟩ := X0.leave (v := none) (fun _ => rfl)
  refine ⟨_, _, pre0 _ ?_, hrun, hended, _, _, rfl, ?_, ⟨_, rfl⟩, hW, hsame.mono (by decide) (by decide)⟩
  · show Steps p.tables e below (s₁.setTop (mkF m 0 #[.val (.int p0), .val (.int p1)] [])) _
    refine XS.iloadN X0.here hx rfl (hb hby d_jdk_65_method_131_0) rfl ?_
    show Steps p.tables e below (s₁.setTop (mkF m 1 #[.val (.int p0), .val (.int p1)] [(.int p1)])) _
    refine XS.iloadN X0.here hx rfl (hb hby d_jdk_65_method_131_1) rfl ?_
    show Steps p.tables e below (s₁.setTop (mkF m 2 #[.val (.int p0), .val (.int p1)] [(.int p0), (.int p1)])) _
    refine XS.icmpYes X0.here hx rfl (pc0 := 2) (pc' := 37) rfl (hb hby d_jdk_65_method_131_2) rfl (flt hc2).2.1 (by decide) (by decide) ?_
    show Steps p.tables e below (s₁.setTop (mkF m 37 #[.val (.int p0), .val (.int p1)] [])) _
    exact X0.returnOut hx Bd.returns (hb hby d_jdk_65_method_131_37) hr
  · show Q_rmCL Z p0 p1 h0 n0 _ s₁.heap _
    rw [e0]
    exact ⟨rfl, N0, rfl⟩
theorem d_jdk_65_method_133_0 : decode jdk_65_method_133_code 0 = .ok (.iload_n 1, 1) := by decide +kernel
theorem d_jdk_65_method_133_1 : decode jdk_65_method_133_code 1 = .ok (.iload_n 2, 1) := by decide +kernel
theorem d_jdk_65_method_133_2 : decode jdk_65_method_133_code 2 = .ok (.invokestatic 343, 3) := by decide +kernel
theorem d_jdk_65_method_133_5 : decode jdk_65_method_133_code 5 = .ok (.iload_n 2, 1) := by decide +kernel
theorem d_jdk_65_method_133_6 : decode jdk_65_method_133_code 6 = .ok (.iload_n 1, 1) := by decide +kernel
theorem d_jdk_65_method_133_7 : decode jdk_65_method_133_code 7 = .ok (.isub, 1) := by decide +kernel
theorem d_jdk_65_method_133_8 : decode jdk_65_method_133_code 8 = .ok (.istore_n 3, 1) := by decide +kernel
theorem d_jdk_65_method_133_9 : decode jdk_65_method_133_code 9 = .ok (.iload_n 3, 1) := by decide +kernel
theorem d_jdk_65_method_133_10 : decode jdk_65_method_133_code 10 = .ok (.newarray .byte, 2) := by decide +kernel
theorem d_jdk_65_method_133_12 : decode jdk_65_method_133_code 12 = .ok (.astore 4, 2) := by decide +kernel
theorem d_jdk_65_method_133_14 : decode jdk_65_method_133_code 14 = .ok (.aload_n 0, 1) := by decide +kernel
theorem d_jdk_65_method_133_15 : decode jdk_65_method_133_code 15 = .ok (.iload_n 1, 1) := by decide +kernel
theorem d_jdk_65_method_133_16 : decode jdk_65_method_133_code 16 = .ok (.aload 4, 2) := by decide +kernel
theorem d_jdk_65_method_133_18 : decode jdk_65_method_133_code 18 = .ok (.iconst 0, 1) := by decide +kernel
theorem d_jdk_65_method_133_19 : decode jdk_65_method_133_code 19 = .ok (.aload_n 0, 1) := by decide +kernel
theorem d_jdk_65_method_133_20 : decode jdk_65_method_133_code 20 = .ok (.arraylength, 1) := by decide +kernel
theorem d_jdk_65_method_133_21 : decode jdk_65_method_133_code 21 = .ok (.iload_n 1, 1) := by decide +kernel
theorem d_jdk_65_method_133_22 : decode jdk_65_method_133_code 22 = .ok (.isub, 1) := by decide +kernel
theorem d_jdk_65_method_133_23 : decode jdk_65_method_133_code 23 = .ok (.iload_n 3, 1) := by decide +kernel
theorem d_jdk_65_method_133_24 : decode jdk_65_method_133_code 24 = .ok (.invokestatic 304, 3) := by decide +kernel
theorem d_jdk_65_method_133_27 : decode jdk_65_method_133_code 27 = .ok (.invokestatic 150, 3) := by decide +kernel
theorem d_jdk_65_method_133_30 : decode jdk_65_method_133_code 30 = .ok (.aload 4, 2) := by decide +kernel
theorem d_jdk_65_method_133_32 : decode jdk_65_method_133_code 32 = .ok (.areturn, 1) := by decide +kernel
theorem pd__II_I : parseMethodDescriptor "(II)I" = some ⟨[.int, .int], some .int⟩ := by decide +kernel
theorem ef_rmCB (m : MethodId) (b : Addr) (c : Int32) : entryFrame m #[(.ref b), (.int (0 : Int32)), (.int c)] 5 = mkF m 0 #[.val (.ref b), .val (.int (0 : Int32)), .val (.int c), .unset, .unset] [] := by first | (simp [entryFrame, mkF, argsToLocals, Value.category]; done) | rfl
def Q_rmCB (Z : State) (b : Addr) (c : Int32) (k : ClassId) (vs : List Value) (h0 : Heap) (n0 : Nat) (v : Option Value) (h : Heap) (L : List Loc) : Prop := ∃ (d : Addr) (kd : ClassId), v = some (.ref d) ∧ Fr n0 L ∧ n0 ≤ d ∧ h0.size ≤ d ∧ Keep h0 h [] ∧ Arv Z h d kd .byte c (own_cut c vs) (.int (0 : Int32))
set_option maxRecDepth 65536 in
set_option maxHeartbeats 40000000 in
theorem rmCB (l : Launch) (Z : State) (aw : Array Value) (hw : ∀ d ∈ tables_1, d.before aw Z = true) (ws : List Jvm.Cond) (b : Addr) (c : Int32) (k : ClassId) (vs : List Value) (h0 : Heap) (n0 : Nat) (Z0 : n0 ≤ h0.size) (V0 : Arv Z h0 b k .byte (16 : Int32) vs (.int (0 : Int32))) (hc0 : ¬ c < 0) (hlt : c < (16 : Int32)) (h16 : (c).toNatClampNeg ≤ 16) :
    MetFree l (⟨"java/util/Arrays", "copyOfRangeByte", "([BII)[B"⟩ : MethodName) (head1 (Jvm.Cond.code (⟨"java/util/Arrays", "copyOfRangeByte", "([BII)[B"⟩ : MethodName) jdk_65_method_133_code 5 (some (.array .byte)) :: ws) ({ frames := 1, cells := 1, slots := 16, locals := 31 } : Room)) (fun a U => a = #[(.ref b), (.int (0 : Int32)), (.int c)] ∧ Z.Warmed39 U.vm ∧ U.heap = h0) (fun _ _ _ _ _ => True) (fun _ U o U' => ∃ v L, o = .returned v ∧ Q_rmCB Z b c k vs h0 n0 v U'.heap L ∧ FrameEnd U o U' L ({ frames := 1, cells := 1, slots := 16, locals := 31 } : Room).cells ({ frames := 1, cells := 1, slots := 16, locals := 31 } : Room).slots) := by
  refine MetFree.of_bodySF (plainFor_of_name pn_java_util_Arrays) hisR ?_
  intro p e s m args below meth cd s₁ Bd hml0 hP hK
  obtain ⟨rfl, hZ, hh⟩ := hP
  have hx := Bd.exec
  have hby := Bd.bytes
  have hml : cd.maxLocals = 5 := hml0
  have hown : s.vm.findClass "java/util/Arrays" = some m.cls := findClass_of_methodNamed Bd.named
  have hnm := (name_of_methodNamed Bd.named Bd.method).1
  have X0 : Stand p l e ({ frames := 1, cells := 1, slots := 16, locals := 31 } : Room) s m #[(.ref b), (.int (0 : Int32)), (.int c)] below meth cd s₁ [] 0 0 := Stand.of_body Bd
  have e0 : s₁.heap = h0 := by rw [← hh, Bd.state]; rfl
  have N0 := Fr.nil n0
  have pre0 : ∀ t, Steps p.tables e below (s₁.setTop (mkF m 0 #[.val (.ref b), .val (.int (0 : Int32)), .val (.int c), .unset, .unset] [])) t → Steps p.tables e below (s₁.setTop (entryFrame m #[(.ref b), (.int (0 : Int32)), (.int c)] 5)) t := fun t k => castTop (ef_rmCB m b c) k
  obtain ⟨_, _, ⟨T1, L1, k1, n1⟩, -, X1, ⟨Lc1, hQ1, l1, y1, z1⟩, st1⟩ := Jvm.LawKit.callS X0 hx (y := (⟨"java/util/Arrays", "checkLength", "(II)V"⟩ : MethodName)) hown (mvT hZ (hw _ (List.mem_of_getElem? (i := 158) rfl))) (mvT hZ (hw _ (List.mem_of_getElem? (i := 159) rfl))) (mvT hZ (hw _ (List.mem_of_getElem? (i := 153) rfl))) (mvT hZ (hw _ (List.mem_of_getElem? (i := 160) rfl))) (by decide) (backOf (W := 0) (rmCL l Z aw hw [] (0 : Int32) c h0 n0 Z0 hc0) hZ (hw _ (List.mem_of_getElem? (i := 160) rfl)) (hw _ (List.mem_of_getElem? (i := 153) rfl)) (by decide) (by decide)) (g := (mkF m 2 #[.val (.ref b), .val (.int (0 : Int32)), .val (.int c), .unset, .unset] [(.int c), (.int (0 : Int32))])) rfl (by rw [hml]; rfl) (argsL := [(.int (0 : Int32)), (.int c)]) (rest := []) (lenOf pd__II_V rfl) rfl (by show 2 * 0 + _ ≤ _; exact Nat.le_of_eq rfl) (hb hby d_jdk_65_method_133_2) (fun _ _ => ⟨rfl, e0, (by decide : 0 + 0 ≤ _), (by decide : 0 + 0 ≤ _)⟩)
  dsimp only [Pt.U, Pt.locs, Pt.cells, Pt.slots] at X1 l1 y1 z1 st1 hQ1
  subst l1 y1 z1
  obtain ⟨rfl, N1q, q1⟩ := hQ1
  have N1 := Fr.app N0 N1q
  obtain ⟨T2, h2, k2, X2, e2, E2, A2, st2⟩ := newP X1 hx hZ (hw _ (List.mem_of_getElem? (i := 25) rfl)) q1 (g := (mkF m 10 #[.val (.ref b), .val (.int (0 : Int32)), .val (.int c), .val (.int c), .unset] [(.int c)])) rfl (hb hby d_jdk_65_method_133_10) rfl hc0 (cap := 16) h16 (by decide) (by decide) (by decide)
  obtain ⟨b2, g2⟩ : ∃ z, z = h0.size := ⟨_, rfl⟩
  rw [← g2] at A2 st2
  have ne_b_b2 : b ≠ b2 := Nat.ne_of_lt (Nat.lt_of_lt_of_le V0.lt (Nat.le_of_eq g2.symm))
  have g_b2 : n0 ≤ b2 := Nat.le_trans Z0 (Nat.le_of_eq g2.symm)
  have sz_b2 : h0.size ≤ b2 := Nat.le_trans (Keep.refl h0 []).1 (Nat.le_of_eq g2.symm)
  have V0__2 := V0.ext E2
  have K2 : Keep h0 h2 [] := (Keep.refl h0 []).ext E2
  have Zs2 : n0 ≤ h2.size := Nat.le_trans Z0 E2.1
  have V_b2 : Arv Z h2 b2 k2 .byte c [] (.int (0 : Int32)) := Arv.new A2 hc0
  have Vo3 := V0__2
  obtain ⟨cl3, Ar3, -, S3, Ng3, -, -⟩ := Vo3
  obtain ⟨_, _, ⟨T4, L4, k4, n4⟩, -, X4, ⟨Lc4, hQ4, l4, y4, z4⟩, st4⟩ := Jvm.LawKit.callS X2 hx (y := (⟨"java/lang/Math", "min", "(II)I"⟩ : MethodName)) hown (mvT hZ (hw _ (List.mem_of_getElem? (i := 161) rfl))) (mvT hZ (hw _ (List.mem_of_getElem? (i := 162) rfl))) (mvT hZ (hw _ (List.mem_of_getElem? (i := 163) rfl))) (mvT hZ (hw _ (List.mem_of_getElem? (i := 164) rfl))) (by decide) (backOf (W := 4) (rmMin l Z aw hw [] (16 : Int32) c h2 n0 Zs2 hlt) hZ (hw _ (List.mem_of_getElem? (i := 164) rfl)) (hw _ (List.mem_of_getElem? (i := 163) rfl)) (by decide) (by decide)) (g := (mkF m 24 #[.val (.ref b), .val (.int (0 : Int32)), .val (.int c), .val (.int c), .val (.ref b2)] [(.int c), (.int (16 : Int32)), (.int (0 : Int32)), (.ref b2), (.int (0 : Int32)), (.ref b)])) rfl (by rw [hml]; rfl) (argsL := [(.int (16 : Int32)), (.int c)]) (rest := [(.int (0 : Int32)), (.ref b2), (.int (0 : Int32)), (.ref b)]) (lenOf pd__II_I rfl) rfl (by show 2 * 0 + _ ≤ _; exact Nat.le_of_eq rfl) (hb hby d_jdk_65_method_133_24) (fun _ _ => ⟨rfl, e2, (by decide : 1 + 0 ≤ _), (by decide : 16 + 0 ≤ _)⟩)
  dsimp only [Pt.U, Pt.locs, Pt.cells, Pt.slots] at X4 l4 y4 z4 st4 hQ4
  subst l4 y4 z4
  obtain ⟨rfl, N4q, q4⟩ := hQ4
  have N4 := Fr.app N1 N4q
  have Bp5 := V_b2.pad (pad_rep [] (Value.int (0 : Int32)) (c).toNatClampNeg)
  obtain ⟨T5, h5, L5, X5, e5, N5, Kc5, V_b2__5, st5⟩ := cpA X4 hx hZ hown (hw _ (List.mem_of_getElem? (i := 165) rfl)) (hw _ (List.mem_of_getElem? (i := 99) rfl)) (hw _ (List.mem_of_getElem? (i := 97) rfl)) (hw _ (List.mem_of_getElem? (i := 98) rfl)) q4 (us := ((List.range (c).toNatClampNeg).map fun i => vs.getD ((0 : Int32).toNatClampNeg + i) (.int (0 : Int32)))) V0__2 Bp5 (Or.inl ⟨rfl, rfl⟩) (by decide) (by decide) hc0 (by show 0 + _ ≤ 16; omega) (by show 0 + _ ≤ _; omega) rfl (by show 0 + _ ≤ _; simp) N4 g_b2 (g := (mkF m 27 #[.val (.ref b), .val (.int (0 : Int32)), .val (.int c), .val (.int c), .val (.ref b2)] [(.int c), (.int (0 : Int32)), (.ref b2), (.int (0 : Int32)), (.ref b)])) rfl (by rw [hml]; rfl) rfl (hb hby d_jdk_65_method_133_27) (by decide) (W := 0) (by show 2 * 0 + _ ≤ _; exact Nat.le_of_eq rfl) (by decide)
  have V0__5 := V0__2.keep Kc5 (fun q => ne_b_b2 (List.mem_singleton.mp q))
  have KK5 : Keep h0 h5 [] := Keep.trans K2 Kc5 (fun x q => by cases List.mem_singleton.mp q; exact (Or.inr sz_b2))
  have Zs5 : n0 ≤ h5.size := Nat.le_trans Zs2 Kc5.1
  obtain ⟨fs, hr, hrun, hended, hW, hsame⟩ := X5.leave (v := some (.ref b2)) (fun h => by rw [Bd.returns] at h; cases h)
  refine ⟨_, _, pre0 _ ?_, hrun, hended, _, _, rfl, ?_, ⟨_, rfl⟩, hW, hsame.mono (by decide) (by decide)⟩
  · show Steps p.tables e below (s₁.setTop (mkF m 0 #[.val (.ref b), .val (.int (0 : Int32)), .val (.int c), .unset, .unset] [])) _
    refine XS.iloadN X0.here hx rfl (hb hby d_jdk_65_method_133_0) rfl ?_
    show Steps p.tables e below (s₁.setTop (mkF m 1 #[.val (.ref b), .val (.int (0 : Int32)), .val (.int c), .unset, .unset] [(.int (0 : Int32))])) _
    refine XS.iloadN X0.here hx rfl (hb hby d_jdk_65_method_133_1) rfl ?_
    show Steps p.tables e below (s₁.setTop (mkF m 2 #[.val (.ref b), .val (.int (0 : Int32)), .val (.int c), .unset, .unset] [(.int c), (.int (0 : Int32))])) _
    refine st1 _ ?_
    show Steps p.tables e below (T1.setTop (mkF m 5 #[.val (.ref b), .val (.int (0 : Int32)), .val (.int c), .unset, .unset] [])) _
    refine XS.iloadN X1.here hx rfl (hb hby d_jdk_65_method_133_5) rfl ?_
    show Steps p.tables e below (T1.setTop (mkF m 6 #[.val (.ref b), .val (.int (0 : Int32)), .val (.int c), .unset, .unset] [(.int c)])) _
    refine XS.iloadN X1.here hx rfl (hb hby d_jdk_65_method_133_6) rfl ?_
    show Steps p.tables e below (T1.setTop (mkF m 7 #[.val (.ref b), .val (.int (0 : Int32)), .val (.int c), .unset, .unset] [(.int (0 : Int32)), (.int c)])) _
    refine XS.isub X1.here hx rfl (hb hby d_jdk_65_method_133_7) rfl ?_
    show Steps p.tables e below (T1.setTop (mkF m 8 #[.val (.ref b), .val (.int (0 : Int32)), .val (.int c), .unset, .unset] [(.int (c - (0 : Int32)))])) _
    rw [(own_sub0 c)]
    show Steps p.tables e below (T1.setTop (mkF m 8 #[.val (.ref b), .val (.int (0 : Int32)), .val (.int c), .unset, .unset] [(.int c)])) _
    refine XS.istoreN X1.here hx rfl (hb hby d_jdk_65_method_133_8) rfl (l' := #[.val (.ref b), .val (.int (0 : Int32)), .val (.int c), .val (.int c), .unset]) rfl ?_
    show Steps p.tables e below (T1.setTop (mkF m 9 #[.val (.ref b), .val (.int (0 : Int32)), .val (.int c), .val (.int c), .unset] [])) _
    refine XS.iloadN X1.here hx rfl (hb hby d_jdk_65_method_133_9) rfl ?_
    show Steps p.tables e below (T1.setTop (mkF m 10 #[.val (.ref b), .val (.int (0 : Int32)), .val (.int c), .val (.int c), .unset] [(.int c)])) _
    refine st2 _ ?_
    show Steps p.tables e below (T2.setTop (mkF m 12 #[.val (.ref b), .val (.int (0 : Int32)), .val (.int c), .val (.int c), .unset] [(.ref b2)])) _
    refine XS.astore X2.here hx rfl (hb hby d_jdk_65_method_133_12) rfl rfl (l' := #[.val (.ref b), .val (.int (0 : Int32)), .val (.int c), .val (.int c), .val (.ref b2)]) rfl ?_
    show Steps p.tables e below (T2.setTop (mkF m 14 #[.val (.ref b), .val (.int (0 : Int32)), .val (.int c), .val (.int c), .val (.ref b2)] [])) _
    refine XS.aloadN X2.here hx rfl (hb hby d_jdk_65_method_133_14) rfl rfl ?_
    show Steps p.tables e below (T2.setTop (mkF m 15 #[.val (.ref b), .val (.int (0 : Int32)), .val (.int c), .val (.int c), .val (.ref b2)] [(.ref b)])) _
    refine XS.iloadN X2.here hx rfl (hb hby d_jdk_65_method_133_15) rfl ?_
    show Steps p.tables e below (T2.setTop (mkF m 16 #[.val (.ref b), .val (.int (0 : Int32)), .val (.int c), .val (.int c), .val (.ref b2)] [(.int (0 : Int32)), (.ref b)])) _
    refine XS.aload X2.here hx rfl (hb hby d_jdk_65_method_133_16) rfl rfl ?_
    show Steps p.tables e below (T2.setTop (mkF m 18 #[.val (.ref b), .val (.int (0 : Int32)), .val (.int c), .val (.int c), .val (.ref b2)] [(.ref b2), (.int (0 : Int32)), (.ref b)])) _
    refine XS.iconst X2.here hx rfl (hb hby d_jdk_65_method_133_18) ?_
    show Steps p.tables e below (T2.setTop (mkF m 19 #[.val (.ref b), .val (.int (0 : Int32)), .val (.int c), .val (.int c), .val (.ref b2)] [(.int (0 : Int32)), (.ref b2), (.int (0 : Int32)), (.ref b)])) _
    refine XS.aloadN X2.here hx rfl (hb hby d_jdk_65_method_133_19) rfl rfl ?_
    show Steps p.tables e below (T2.setTop (mkF m 20 #[.val (.ref b), .val (.int (0 : Int32)), .val (.int c), .val (.int c), .val (.ref b2)] [(.ref b), (.int (0 : Int32)), (.ref b2), (.int (0 : Int32)), (.ref b)])) _
    refine X2.arraylength hx (by rw [e2]; exact Ar3.1) (State.isArrayOf_alike hZ.alike Ar3.2.1) (g := (mkF m 20 #[.val (.ref b), .val (.int (0 : Int32)), .val (.int c), .val (.int c), .val (.ref b2)] [(.ref b), (.int (0 : Int32)), (.ref b2), (.int (0 : Int32)), (.ref b)])) rfl rfl (hb hby d_jdk_65_method_133_20) _ ?_
    rw [len_of S3 Ng3]
    show Steps p.tables e below (T2.setTop (mkF m 21 #[.val (.ref b), .val (.int (0 : Int32)), .val (.int c), .val (.int c), .val (.ref b2)] [(.int (16 : Int32)), (.int (0 : Int32)), (.ref b2), (.int (0 : Int32)), (.ref b)])) _
    refine XS.iloadN X2.here hx rfl (hb hby d_jdk_65_method_133_21) rfl ?_
    show Steps p.tables e below (T2.setTop (mkF m 22 #[.val (.ref b), .val (.int (0 : Int32)), .val (.int c), .val (.int c), .val (.ref b2)] [(.int (0 : Int32)), (.int (16 : Int32)), (.int (0 : Int32)), (.ref b2), (.int (0 : Int32)), (.ref b)])) _
    refine XS.isub X2.here hx rfl (hb hby d_jdk_65_method_133_22) rfl ?_
    show Steps p.tables e below (T2.setTop (mkF m 23 #[.val (.ref b), .val (.int (0 : Int32)), .val (.int c), .val (.int c), .val (.ref b2)] [(.int ((16 : Int32) - (0 : Int32))), (.int (0 : Int32)), (.ref b2), (.int (0 : Int32)), (.ref b)])) _
    rw [(by decide : ((16 : Int32) - (0 : Int32)) = (16 : Int32))]
    show Steps p.tables e below (T2.setTop (mkF m 23 #[.val (.ref b), .val (.int (0 : Int32)), .val (.int c), .val (.int c), .val (.ref b2)] [(.int (16 : Int32)), (.int (0 : Int32)), (.ref b2), (.int (0 : Int32)), (.ref b)])) _
    refine XS.iloadN X2.here hx rfl (hb hby d_jdk_65_method_133_23) rfl ?_
    show Steps p.tables e below (T2.setTop (mkF m 24 #[.val (.ref b), .val (.int (0 : Int32)), .val (.int c), .val (.int c), .val (.ref b2)] [(.int c), (.int (16 : Int32)), (.int (0 : Int32)), (.ref b2), (.int (0 : Int32)), (.ref b)])) _
    refine st4 _ ?_
    show Steps p.tables e below (T4.setTop (mkF m 27 #[.val (.ref b), .val (.int (0 : Int32)), .val (.int c), .val (.int c), .val (.ref b2)] [(.int c), (.int (0 : Int32)), (.ref b2), (.int (0 : Int32)), (.ref b)])) _
    refine st5 _ ?_
    show Steps p.tables e below (T5.setTop (mkF m 30 #[.val (.ref b), .val (.int (0 : Int32)), .val (.int c), .val (.int c), .val (.ref b2)] [])) _
    refine XS.aload X5.here hx rfl (hb hby d_jdk_65_method_133_30) rfl rfl ?_
    show Steps p.tables e below (T5.setTop (mkF m 32 #[.val (.ref b), .val (.int (0 : Int32)), .val (.int c), .val (.int c), .val (.ref b2)] [(.ref b2)])) _
    jvm_step X5.here [X5.here.top, hx, (hb hby d_jdk_65_method_133_32), X5.method', Bd.returns, Value.isRef, FieldType.isReference]
    first | (intro acts; rw [hr _ acts rfl rfl rfl]) | rw [hr _ _ rfl rfl rfl]
    exact Steps.refl _
  · show Q_rmCB Z b c k vs h0 n0 _ T5.heap _
    rw [e5]
    exact ⟨b2, _, rfl, N5, g_b2, sz_b2, KK5, V_b2__5⟩
theorem d_jdk_65_method_132_0 : decode jdk_65_method_132_code 0 = .ok (.iload_n 1, 1) := by decide +kernel
theorem d_jdk_65_method_132_1 : decode jdk_65_method_132_code 1 = .ok (.ifCond .ne 9, 3) := by decide +kernel
theorem d_jdk_65_method_132_4 : decode jdk_65_method_132_code 4 = .ok (.iload_n 2, 1) := by decide +kernel
theorem d_jdk_65_method_132_5 : decode jdk_65_method_132_code 5 = .ok (.aload_n 0, 1) := by decide +kernel
theorem d_jdk_65_method_132_6 : decode jdk_65_method_132_code 6 = .ok (.arraylength, 1) := by decide +kernel
theorem d_jdk_65_method_132_7 : decode jdk_65_method_132_code 7 = .ok (.if_icmp .eq 10, 3) := by decide +kernel
theorem d_jdk_65_method_132_10 : decode jdk_65_method_132_code 10 = .ok (.aload_n 0, 1) := by decide +kernel
theorem d_jdk_65_method_132_11 : decode jdk_65_method_132_code 11 = .ok (.iload_n 1, 1) := by decide +kernel
theorem d_jdk_65_method_132_12 : decode jdk_65_method_132_code 12 = .ok (.iload_n 2, 1) := by decide +kernel
theorem d_jdk_65_method_132_13 : decode jdk_65_method_132_code 13 = .ok (.invokestatic 339, 3) := by decide +kernel
theorem d_jdk_65_method_132_16 : decode jdk_65_method_132_code 16 = .ok (.areturn, 1) := by decide +kernel
theorem pd___BII__B : parseMethodDescriptor "([BII)[B" = some ⟨[(.array .byte), .int, .int], some (.array .byte)⟩ := by decide +kernel
theorem ef_rmCR (m : MethodId) (b : Addr) (c : Int32) : entryFrame m #[(.ref b), (.int (0 : Int32)), (.int c)] 3 = mkF m 0 #[.val (.ref b), .val (.int (0 : Int32)), .val (.int c)] [] := by first | (simp [entryFrame, mkF, argsToLocals, Value.category]; done) | rfl
def Q_rmCR (Z : State) (b : Addr) (c : Int32) (k : ClassId) (vs : List Value) (h0 : Heap) (n0 : Nat) (v : Option Value) (h : Heap) (L : List Loc) : Prop := ∃ (d : Addr) (kd : ClassId), v = some (.ref d) ∧ Fr n0 L ∧ n0 ≤ d ∧ h0.size ≤ d ∧ Keep h0 h [] ∧ Arv Z h d kd .byte c (own_cut c vs) (.int (0 : Int32))
set_option maxRecDepth 65536 in
set_option maxHeartbeats 40000000 in
theorem rmCR (l : Launch) (Z : State) (aw : Array Value) (hw : ∀ d ∈ tables_1, d.before aw Z = true) (ws : List Jvm.Cond) (b : Addr) (c : Int32) (k : ClassId) (vs : List Value) (h0 : Heap) (n0 : Nat) (Z0 : n0 ≤ h0.size) (V0 : Arv Z h0 b k .byte (16 : Int32) vs (.int (0 : Int32))) (hc0 : ¬ c < 0) (hlt : c < (16 : Int32)) (h16 : (c).toNatClampNeg ≤ 16) (hne : ¬ (c = (16 : Int32))) :
    MetFree l (⟨"java/util/Arrays", "copyOfRange", "([BII)[B"⟩ : MethodName) (head1 (Jvm.Cond.code (⟨"java/util/Arrays", "copyOfRange", "([BII)[B"⟩ : MethodName) jdk_65_method_132_code 3 (some (.array .byte)) :: ws) ({ frames := 2, cells := 1, slots := 16, locals := 47 } : Room)) (fun a U => a = #[(.ref b), (.int (0 : Int32)), (.int c)] ∧ Z.Warmed39 U.vm ∧ U.heap = h0) (fun _ _ _ _ _ => True) (fun _ U o U' => ∃ v L, o = .returned v ∧ Q_rmCR Z b c k vs h0 n0 v U'.heap L ∧ FrameEnd U o U' L ({ frames := 2, cells := 1, slots := 16, locals := 47 } : Room).cells ({ frames := 2, cells := 1, slots := 16, locals := 47 } : Room).slots) := by
  refine MetFree.of_bodySF (plainFor_of_name pn_java_util_Arrays) hisR ?_
  intro p e s m args below meth cd s₁ Bd hml0 hP hK
  obtain ⟨rfl, hZ, hh⟩ := hP
  have hx := Bd.exec
  have hby := Bd.bytes
  have hml : cd.maxLocals = 3 := hml0
  have hown : s.vm.findClass "java/util/Arrays" = some m.cls := findClass_of_methodNamed Bd.named
  have hnm := (name_of_methodNamed Bd.named Bd.method).1
  have X0 : Stand p l e ({ frames := 2, cells := 1, slots := 16, locals := 47 } : Room) s m #[(.ref b), (.int (0 : Int32)), (.int c)] below meth cd s₁ [] 0 0 := Stand.of_body Bd
  have e0 : s₁.heap = h0 := by rw [← hh, Bd.state]; rfl
  have N0 := Fr.nil n0
  have pre0 : ∀ t, Steps p.tables e below (s₁.setTop (mkF m 0 #[.val (.ref b), .val (.int (0 : Int32)), .val (.int c)] [])) t → Steps p.tables e below (s₁.setTop (entryFrame m #[(.ref b), (.int (0 : Int32)), (.int c)] 3)) t := fun t k => castTop (ef_rmCR m b c) k
  have Vo1 := V0
  obtain ⟨cl1, Ar1, -, S1, Ng1, -, -⟩ := Vo1
  obtain ⟨_, _, ⟨T2, L2, k2, n2⟩, -, X2, ⟨Lc2, hQ2, l2, y2, z2⟩, st2⟩ := Jvm.LawKit.callS X0 hx (y := (⟨"java/util/Arrays", "copyOfRangeByte", "([BII)[B"⟩ : MethodName)) hown (mvT hZ (hw _ (List.mem_of_getElem? (i := 155) rfl))) (mvT hZ (hw _ (List.mem_of_getElem? (i := 156) rfl))) (mvT hZ (hw _ (List.mem_of_getElem? (i := 153) rfl))) (mvT hZ (hw _ (List.mem_of_getElem? (i := 157) rfl))) (by decide) (backOf (W := 0) (rmCB l Z aw hw [] b c k vs h0 n0 Z0 V0 hc0 hlt h16) hZ (hw _ (List.mem_of_getElem? (i := 157) rfl)) (hw _ (List.mem_of_getElem? (i := 153) rfl)) (by decide) (by decide)) (g := (mkF m 13 #[.val (.ref b), .val (.int (0 : Int32)), .val (.int c)] [(.int c), (.int (0 : Int32)), (.ref b)])) rfl (by rw [hml]; rfl) (argsL := [(.ref b), (.int (0 : Int32)), (.int c)]) (rest := []) (lenOf pd___BII__B rfl) rfl (by show 2 * 0 + _ ≤ _; exact Nat.le_of_eq rfl) (hb hby d_jdk_65_method_132_13) (fun _ _ => ⟨rfl, e0, (by decide : 0 + 1 ≤ _), (by decide : 0 + 16 ≤ _)⟩)
  dsimp only [Pt.U, Pt.locs, Pt.cells, Pt.slots] at X2 l2 y2 z2 st2 hQ2
  subst l2 y2 z2
  obtain ⟨d, kd, rfl, N2q, gd, szd, Kc2, Vd2⟩ := hQ2
  have N2 := Fr.app N0 N2q
  have V0__2 := V0.keep Kc2 (fun q => nomatch q)
  have KK2 : Keep h0 T2.heap [] := Keep.trans (Keep.refl h0 []) Kc2 (fun _ q => nomatch q)
  have Zs2 : n0 ≤ T2.heap.size := Nat.le_trans Z0 Kc2.1
  obtain ⟨fs, hr, hrun, hended, hW, hsame⟩ := X2.leave (v := some (.ref d)) (fun h => by rw [Bd.returns] at h; cases h)
  refine ⟨_, _, pre0 _ ?_, hrun, hended, _, _, rfl, ?_, ⟨_, rfl⟩, hW, hsame.mono (by decide) (by decide)⟩
  · show Steps p.tables e below (s₁.setTop (mkF m 0 #[.val (.ref b), .val (.int (0 : Int32)), .val (.int c)] [])) _
    refine XS.iloadN X0.here hx rfl (hb hby d_jdk_65_method_132_0) rfl ?_
    show Steps p.tables e below (s₁.setTop (mkF m 1 #[.val (.ref b), .val (.int (0 : Int32)), .val (.int c)] [(.int (0 : Int32))])) _
    refine XS.ifNo X0.here hx rfl (hb hby d_jdk_65_method_132_1) rfl ((if0 _ _).trans (teq (rfl : (0 : Int32) = (0 : Int32))).2) ?_
    show Steps p.tables e below (s₁.setTop (mkF m 4 #[.val (.ref b), .val (.int (0 : Int32)), .val (.int c)] [])) _
    refine XS.iloadN X0.here hx rfl (hb hby d_jdk_65_method_132_4) rfl ?_
    show Steps p.tables e below (s₁.setTop (mkF m 5 #[.val (.ref b), .val (.int (0 : Int32)), .val (.int c)] [(.int c)])) _
    refine XS.aloadN X0.here hx rfl (hb hby d_jdk_65_method_132_5) rfl rfl ?_
    show Steps p.tables e below (s₁.setTop (mkF m 6 #[.val (.ref b), .val (.int (0 : Int32)), .val (.int c)] [(.ref b), (.int c)])) _
    refine X0.arraylength hx (by rw [e0]; exact Ar1.1) (State.isArrayOf_alike hZ.alike Ar1.2.1) (g := (mkF m 6 #[.val (.ref b), .val (.int (0 : Int32)), .val (.int c)] [(.ref b), (.int c)])) rfl rfl (hb hby d_jdk_65_method_132_6) _ ?_
    rw [len_of S1 Ng1]
    show Steps p.tables e below (s₁.setTop (mkF m 7 #[.val (.ref b), .val (.int (0 : Int32)), .val (.int c)] [(.int (16 : Int32)), (.int c)])) _
    refine XS.icmpNo X0.here hx rfl (hb hby d_jdk_65_method_132_7) rfl (feq (hne : ¬ (c = (16 : Int32)))).1 ?_
    show Steps p.tables e below (s₁.setTop (mkF m 10 #[.val (.ref b), .val (.int (0 : Int32)), .val (.int c)] [])) _
    refine XS.aloadN X0.here hx rfl (hb hby d_jdk_65_method_132_10) rfl rfl ?_
    show Steps p.tables e below (s₁.setTop (mkF m 11 #[.val (.ref b), .val (.int (0 : Int32)), .val (.int c)] [(.ref b)])) _
    refine XS.iloadN X0.here hx rfl (hb hby d_jdk_65_method_132_11) rfl ?_
    show Steps p.tables e below (s₁.setTop (mkF m 12 #[.val (.ref b), .val (.int (0 : Int32)), .val (.int c)] [(.int (0 : Int32)), (.ref b)])) _
    refine XS.iloadN X0.here hx rfl (hb hby d_jdk_65_method_132_12) rfl ?_
    show Steps p.tables e below (s₁.setTop (mkF m 13 #[.val (.ref b), .val (.int (0 : Int32)), .val (.int c)] [(.int c), (.int (0 : Int32)), (.ref b)])) _
    refine st2 _ ?_
    show Steps p.tables e below (T2.setTop (mkF m 16 #[.val (.ref b), .val (.int (0 : Int32)), .val (.int c)] [(.ref d)])) _
    jvm_step X2.here [X2.here.top, hx, (hb hby d_jdk_65_method_132_16), X2.method', Bd.returns, Value.isRef, FieldType.isReference]
    first | (intro acts; rw [hr _ acts rfl rfl rfl]) | rw [hr _ _ rfl rfl rfl]
    exact Steps.refl _
  · show Q_rmCR Z b c k vs h0 n0 _ T2.heap _
    exact ⟨d, kd, rfl, N2, gd, szd, KK2, Vd2⟩
theorem d_jdk_42_method_150_0 : decode jdk_42_method_150_code 0 = .ok (.aload_n 0, 1) := by decide +kernel
theorem d_jdk_42_method_150_1 : decode jdk_42_method_150_code 1 = .ok (.invokespecial 1, 3) := by decide +kernel
theorem d_jdk_42_method_150_4 : decode jdk_42_method_150_code 4 = .ok (.aload_n 1, 1) := by decide +kernel
theorem d_jdk_42_method_150_5 : decode jdk_42_method_150_code 5 = .ok (.invokevirtual 552, 3) := by decide +kernel
theorem d_jdk_42_method_150_8 : decode jdk_42_method_150_code 8 = .ok (.astore_n 3, 1) := by decide +kernel
theorem d_jdk_42_method_150_9 : decode jdk_42_method_150_code 9 = .ok (.aload_n 1, 1) := by decide +kernel
theorem d_jdk_42_method_150_10 : decode jdk_42_method_150_code 10 = .ok (.invokevirtual 549, 3) := by decide +kernel
theorem d_jdk_42_method_150_13 : decode jdk_42_method_150_code 13 = .ok (.istore 4, 2) := by decide +kernel
theorem d_jdk_42_method_150_15 : decode jdk_42_method_150_code 15 = .ok (.aload_n 1, 1) := by decide +kernel
theorem d_jdk_42_method_150_16 : decode jdk_42_method_150_code 16 = .ok (.invokevirtual 1047, 3) := by decide +kernel
theorem d_jdk_42_method_150_19 : decode jdk_42_method_150_code 19 = .ok (.ifCond .eq 22, 3) := by decide +kernel
theorem d_jdk_42_method_150_22 : decode jdk_42_method_150_code 22 = .ok (.aload_n 0, 1) := by decide +kernel
theorem d_jdk_42_method_150_23 : decode jdk_42_method_150_code 23 = .ok (.iconst 0, 1) := by decide +kernel
theorem d_jdk_42_method_150_24 : decode jdk_42_method_150_code 24 = .ok (.putfield 15, 3) := by decide +kernel
theorem d_jdk_42_method_150_27 : decode jdk_42_method_150_code 27 = .ok (.aload_n 0, 1) := by decide +kernel
theorem d_jdk_42_method_150_28 : decode jdk_42_method_150_code 28 = .ok (.aload_n 3, 1) := by decide +kernel
theorem d_jdk_42_method_150_29 : decode jdk_42_method_150_code 29 = .ok (.iconst 0, 1) := by decide +kernel
theorem d_jdk_42_method_150_30 : decode jdk_42_method_150_code 30 = .ok (.iload 4, 2) := by decide +kernel
theorem d_jdk_42_method_150_32 : decode jdk_42_method_150_code 32 = .ok (.invokestatic 54, 3) := by decide +kernel
theorem d_jdk_42_method_150_35 : decode jdk_42_method_150_code 35 = .ok (.putfield 9, 3) := by decide +kernel
theorem d_jdk_42_method_150_38 : decode jdk_42_method_150_code 38 = .ok (.goto 59, 3) := by decide +kernel
theorem d_jdk_42_method_150_97 : decode jdk_42_method_150_code 97 = .ok (.return_, 1) := by decide +kernel
theorem pd____B : parseMethodDescriptor "()[B" = some ⟨[], some (.array .byte)⟩ := by decide +kernel
theorem ef_rmIA (m : MethodId) (a0 : Addr) (a1 : Addr) : entryFrame m #[(.ref a0), (.ref a1), .null] 5 = mkF m 0 #[.val (.ref a0), .val (.ref a1), .val .null, .unset, .unset] [] := by first | (simp [entryFrame, mkF, argsToLocals, Value.category]; done) | rfl
def Q_rmIA (Z : State) (a0 : Addr) (a1 : Addr) (u0 : Value) (u1 : Value) (b : Addr) (k : ClassId) (c : Int32) (vs : List Value) (cs : Int32) (h0 : Heap) (n0 : Nat) (v : Option Value) (h : Heap) (L : List Loc) : Prop := ∃ (d : Addr) (kd : ClassId), v = none ∧ Fr n0 L ∧ Keep h0 h [a0] ∧ Exa Z h a0 "java/lang/String" ∧ Fld Z h a0 "java/lang/String" "coder" "B" (.int (0 : Int32)) ∧ Fld Z h a0 "java/lang/String" "value" "[B" (.ref d) ∧ Arv Z h d kd .byte c (own_cut c vs) (.int (0 : Int32))
set_option maxRecDepth 65536 in
set_option maxHeartbeats 40000000 in
theorem rmIA (l : Launch) (Z : State) (aw : Array Value) (hw : ∀ d ∈ tables_1, d.before aw Z = true) (ws : List Jvm.Cond) (a0 : Addr) (a1 : Addr) (u0 : Value) (u1 : Value) (b : Addr) (k : ClassId) (c : Int32) (vs : List Value) (cs : Int32) (h0 : Heap) (n0 : Nat) (Z0 : n0 ≤ h0.size) (Es : Exa Z h0 a0 "java/lang/String") (gs : n0 ≤ a0) (Sv : Fld Z h0 a0 "java/lang/String" "value" "[B" u0) (Sk : Fld Z h0 a0 "java/lang/String" "coder" "B" u1) (E0 : Exa Z h0 a1 "java/lang/StringBuilder") (g0 : n0 ≤ a1) (Fv : Fld Z h0 a1 "java/lang/AbstractStringBuilder" "value" "[B" (.ref b)) (Fk : Fld Z h0 a1 "java/lang/AbstractStringBuilder" "coder" "B" (.int (0 : Int32))) (Fn : Fld Z h0 a1 "java/lang/AbstractStringBuilder" "count" "I" (.int c)) (V0 : Arv Z h0 b k .byte (16 : Int32) vs (.int (0 : Int32))) (gb : n0 ≤ b) (S0 : Sta Z h0 "java/lang/String" "COMPACT_STRINGS" "Z" (.int cs)) (hc0 : ¬ c < 0) (hlt : c < (16 : Int32)) (h16 : (c).toNatClampNeg ≤ 16) (hne : ¬ (c = (16 : Int32))) (hcs : ¬ (cs = (0 : Int32))) :
    MetFree l (⟨"java/lang/String", "<init>", "(Ljava/lang/AbstractStringBuilder;Ljava/lang/Void;)V"⟩ : MethodName) (head1 (Jvm.Cond.code (⟨"java/lang/String", "<init>", "(Ljava/lang/AbstractStringBuilder;Ljava/lang/Void;)V"⟩ : MethodName) jdk_42_method_150_code 5 none :: ws) ({ frames := 3, cells := 1, slots := 16, locals := 62 } : Room)) (fun a U => a = #[(.ref a0), (.ref a1), .null] ∧ Z.Warmed39 U.vm ∧ U.heap = h0) (fun _ _ _ _ _ => True) (fun _ U o U' => ∃ v L, o = .returned v ∧ Q_rmIA Z a0 a1 u0 u1 b k c vs cs h0 n0 v U'.heap L ∧ FrameEnd U o U' L ({ frames := 3, cells := 1, slots := 16, locals := 62 } : Room).cells ({ frames := 3, cells := 1, slots := 16, locals := 62 } : Room).slots) := by
  refine MetFree.of_bodySF (plainFor_of_name pn_java_lang_String) hisR ?_
  intro p e s m args below meth cd s₁ Bd hml0 hP hK
  obtain ⟨rfl, hZ, hh⟩ := hP
  have hx := Bd.exec
  have hby := Bd.bytes
  have hml : cd.maxLocals = 5 := hml0
  have hown : s.vm.findClass "java/lang/String" = some m.cls := findClass_of_methodNamed Bd.named
  have hnm := (name_of_methodNamed Bd.named Bd.method).1
  have X0 : Stand p l e ({ frames := 3, cells := 1, slots := 16, locals := 62 } : Room) s m #[(.ref a0), (.ref a1), .null] below meth cd s₁ [] 0 0 := Stand.of_body Bd
  have e0 : s₁.heap = h0 := by rw [← hh, Bd.state]; rfl
  have N0 := Fr.nil n0
  have pre0 : ∀ t, Steps p.tables e below (s₁.setTop (mkF m 0 #[.val (.ref a0), .val (.ref a1), .val .null, .unset, .unset] [])) t → Steps p.tables e below (s₁.setTop (entryFrame m #[(.ref a0), (.ref a1), .null] 5)) t := fun t k => castTop (ef_rmIA m a0 a1) k
  obtain ⟨T1, X1, e1, st1⟩ := initO X0 hx hZ hown (hw _ (List.mem_of_getElem? (i := 136) rfl)) (hw _ (List.mem_of_getElem? (i := 8) rfl)) (hw _ (List.mem_of_getElem? (i := 9) rfl)) e0 (g := (mkF m 1 #[.val (.ref a0), .val (.ref a1), .val .null, .unset, .unset] [(.ref a0)])) rfl (by rw [hml]; rfl) rfl (hb hby d_jdk_42_method_150_1) (by decide) (W := 0) (by show 2 * 0 + _ ≤ _; exact Nat.le_of_eq rfl) (by decide)
  obtain ⟨cq2, kq2, q2a, q2b, q2c⟩ := isOf hZ e1 E0
  obtain ⟨_, _, ⟨T2, L2, k2, n2⟩, -, X2, ⟨Lc2, hQ2, l2, y2, z2⟩, st2⟩ := X1.virtualBack hx (y := (⟨"java/lang/AbstractStringBuilder", "getValue", "()[B"⟩ : MethodName)) (z := (⟨"java/lang/AbstractStringBuilder", "getValue", "()[B"⟩ : MethodName)) hown (mvT hZ (hw _ (List.mem_of_getElem? (i := 137) rfl))) (mvT hZ (hw _ (List.mem_of_getElem? (i := 138) rfl))) (notFace_of_selects (args := #[]) (mvT hZ (hw _ (List.mem_of_getElem? (i := 140) rfl)))) (mvT hZ (hw _ (List.mem_of_getElem? (i := 140) rfl))) (mvT hZ (hw _ (List.mem_of_getElem? (i := 139) rfl))) (by decide) (backOf (W := 0) (rmGV l Z aw hw [] a1 b h0 n0 Z0 Fv) hZ (hw _ (List.mem_of_getElem? (i := 141) rfl)) (hw _ (List.mem_of_getElem? (i := 20) rfl)) (by decide) (by decide)) q2a q2c (g := (mkF m 5 #[.val (.ref a0), .val (.ref a1), .val .null, .unset, .unset] [(.ref a1)])) rfl (by rw [hml]; rfl) (Steps.refl _) (argsL := []) (rest := []) (lenOf pd____B rfl) rfl (by show 2 * 0 + _ ≤ _; exact Nat.le_of_eq rfl) (hb hby d_jdk_42_method_150_5) (fun _ _ => ⟨rfl, e1, (by decide : 0 + 0 ≤ _), (by decide : 0 + 0 ≤ _)⟩)
  dsimp only [Pt.U, Pt.locs, Pt.cells, Pt.slots] at X2 l2 y2 z2 st2 hQ2
  subst l2 y2 z2
  obtain ⟨rfl, N2q, q2⟩ := hQ2
  have N2 := Fr.app N0 N2q
  obtain ⟨cq3, kq3, q3a, q3b, q3c⟩ := isOf hZ q2 E0
  obtain ⟨_, _, ⟨T3, L3, k3, n3⟩, -, X3, ⟨Lc3, hQ3, l3, y3, z3⟩, st3⟩ := X2.virtualBack hx (y := (⟨"java/lang/AbstractStringBuilder", "length", "()I"⟩ : MethodName)) (z := (⟨"java/lang/StringBuilder", "length", "()I"⟩ : MethodName)) hown (mvT hZ (hw _ (List.mem_of_getElem? (i := 142) rfl))) (mvT hZ (hw _ (List.mem_of_getElem? (i := 143) rfl))) (own_nf hZ (hw _ (List.mem_of_getElem? (i := 112) rfl)) (hw _ (List.mem_of_getElem? (i := 143) rfl)) rfl) (mvT hZ (hw _ (List.mem_of_getElem? (i := 145) rfl))) (mvT hZ (hw _ (List.mem_of_getElem? (i := 146) rfl))) (by decide) (backOf (W := 0) (rmSL l Z aw hw [] a1 c h0 n0 Z0 E0 Fn) hZ (hw _ (List.mem_of_getElem? (i := 147) rfl)) (hw _ (List.mem_of_getElem? (i := 12) rfl)) (by decide) (by decide)) q3a q3c (g := (mkF m 10 #[.val (.ref a0), .val (.ref a1), .val .null, .val (.ref b), .unset] [(.ref a1)])) rfl (by rw [hml]; rfl) (Steps.refl _) (argsL := []) (rest := []) (lenOf pd___I rfl) rfl (by show 2 * 0 + _ ≤ _; exact Nat.le_of_eq rfl) (hb hby d_jdk_42_method_150_10) (fun _ _ => ⟨rfl, q2, (by decide : 0 + 0 ≤ _), (by decide : 0 + 0 ≤ _)⟩)
  dsimp only [Pt.U, Pt.locs, Pt.cells, Pt.slots] at X3 l3 y3 z3 st3 hQ3
  subst l3 y3 z3
  obtain ⟨rfl, N3q, q3⟩ := hQ3
  have N3 := Fr.app N2 N3q
  obtain ⟨cq4, kq4, q4a, q4b, q4c⟩ := isOf hZ q3 E0
  obtain ⟨_, _, ⟨T4, L4, k4, n4⟩, -, X4, ⟨Lc4, hQ4, l4, y4, z4⟩, st4⟩ := X3.virtualBack hx (y := (⟨"java/lang/AbstractStringBuilder", "isLatin1", "()Z"⟩ : MethodName)) (z := (⟨"java/lang/AbstractStringBuilder", "isLatin1", "()Z"⟩ : MethodName)) hown (mvT hZ (hw _ (List.mem_of_getElem? (i := 150) rfl))) (mvT hZ (hw _ (List.mem_of_getElem? (i := 110) rfl))) (notFace_of_selects (args := #[]) (mvT hZ (hw _ (List.mem_of_getElem? (i := 112) rfl)))) (mvT hZ (hw _ (List.mem_of_getElem? (i := 112) rfl))) (mvT hZ (hw _ (List.mem_of_getElem? (i := 111) rfl))) (by decide) (backOf (W := 0) (rmILb l Z aw hw [] a1 cs h0 n0 Z0 Fk S0 hcs) hZ (hw _ (List.mem_of_getElem? (i := 113) rfl)) (hw _ (List.mem_of_getElem? (i := 20) rfl)) (by decide) (by decide)) q4a q4c (g := (mkF m 16 #[.val (.ref a0), .val (.ref a1), .val .null, .val (.ref b), .val (.int c)] [(.ref a1)])) rfl (by rw [hml]; rfl) (Steps.refl _) (argsL := []) (rest := []) (lenOf pd___Z rfl) rfl (by show 2 * 0 + _ ≤ _; exact Nat.le_of_eq rfl) (hb hby d_jdk_42_method_150_16) (fun _ _ => ⟨rfl, q3, (by decide : 0 + 0 ≤ _), (by decide : 0 + 0 ≤ _)⟩)
  dsimp only [Pt.U, Pt.locs, Pt.cells, Pt.slots] at X4 l4 y4 z4 st4 hQ4
  subst l4 y4 z4
  obtain ⟨rfl, N4q, q4⟩ := hQ4
  have N4 := Fr.app N3 N4q
  obtain ⟨T5, h5, X5, e5, W5, st5⟩ := putFN X4 hx hZ hown (hw _ (List.mem_of_getElem? (i := 72) rfl)) Via.refl q4 Sk Es (Or.inr ⟨(hw _ (List.mem_of_getElem? (i := 35) rfl)), rfl, hnm⟩) (hw _ (List.mem_of_getElem? (i := 33) rfl)) (ty := .byte) (v' := (.int (0 : Int32))) (by decide) (by decide) (by decide) (g := (mkF m 24 #[.val (.ref a0), .val (.ref a1), .val .null, .val (.ref b), .val (.int c)] [(.int (0 : Int32)), (.ref a0)])) rfl rfl (hb hby d_jdk_42_method_150_24)
  have S0__5 := S0.wr W5
  have Es__5 := Es.wr W5
  have Sv__5 := Sv.other W5 (Or.inr (slot_ne (Or.inr (hw _ (List.mem_of_getElem? (i := 34) rfl))) (Or.inr (hw _ (List.mem_of_getElem? (i := 35) rfl))) (by decide) (t := (.array .byte)) (t' := .byte) (by decide) (by decide)))
  have Sk__5 := Sk.same W5
  have E0__5 := E0.wr W5
  have Fv__5 := Fv.other W5 (Or.inl (ne_exa E0 Es (by decide)))
  have Fk__5 := Fk.other W5 (Or.inl (ne_exa E0 Es (by decide)))
  have Fn__5 := Fn.other W5 (Or.inl (ne_exa E0 Es (by decide)))
  have V0__5 := V0.other W5 (Ne.symm (Es.neArv V0 (hw _ (List.mem_of_getElem? (i := 33) rfl))))
  have K5 : Keep h0 h5 [a0] := (Keep.refl h0 [a0]).wr W5 (Or.inl (List.mem_of_getElem? (i := 0) rfl))
  have Zs5 : n0 ≤ h5.size := Nat.le_trans Z0 (Keep.of_wr W5).1
  have N5 := Fr.snoc X5 N4 gs
  obtain ⟨_, _, ⟨T6, L6, k6, n6⟩, -, X6, ⟨Lc6, hQ6, l6, y6, z6⟩, st6⟩ := Jvm.LawKit.callS X5 hx (y := (⟨"java/util/Arrays", "copyOfRange", "([BII)[B"⟩ : MethodName)) hown (mvT hZ (hw _ (List.mem_of_getElem? (i := 151) rfl))) (mvT hZ (hw _ (List.mem_of_getElem? (i := 152) rfl))) (mvT hZ (hw _ (List.mem_of_getElem? (i := 153) rfl))) (mvT hZ (hw _ (List.mem_of_getElem? (i := 154) rfl))) (by decide) (backOf (W := 1) (rmCR l Z aw hw [] b c k vs h5 n0 Zs5 V0__5 hc0 hlt h16 hne) hZ (hw _ (List.mem_of_getElem? (i := 154) rfl)) (hw _ (List.mem_of_getElem? (i := 153) rfl)) (by decide) (by decide)) (g := (mkF m 32 #[.val (.ref a0), .val (.ref a1), .val .null, .val (.ref b), .val (.int c)] [(.int c), (.int (0 : Int32)), (.ref b), (.ref a0)])) rfl (by rw [hml]; rfl) (argsL := [(.ref b), (.int (0 : Int32)), (.int c)]) (rest := [(.ref a0)]) (lenOf pd___BII__B rfl) rfl (by show 2 * 0 + _ ≤ _; exact Nat.le_of_eq rfl) (hb hby d_jdk_42_method_150_32) (fun _ _ => ⟨rfl, e5, (by decide : 0 + 1 ≤ _), (by decide : 0 + 16 ≤ _)⟩)
  dsimp only [Pt.U, Pt.locs, Pt.cells, Pt.slots] at X6 l6 y6 z6 st6 hQ6
  subst l6 y6 z6
  obtain ⟨d, kd, rfl, N6q, gd, szd, Kc6, Vd6⟩ := hQ6
  have N6 := Fr.app N5 N6q
  have S0__6 := own_sta_keep S0__5 Kc6 ns0
  have Es__6 := Es__5.keep Kc6
  have Sv__6 := Sv__5.keep Kc6 (fun q => nomatch q)
  have Sk__6 := Sk__5.keep Kc6 (fun q => nomatch q)
  have E0__6 := E0__5.keep Kc6
  have Fv__6 := Fv__5.keep Kc6 (fun q => nomatch q)
  have Fk__6 := Fk__5.keep Kc6 (fun q => nomatch q)
  have Fn__6 := Fn__5.keep Kc6 (fun q => nomatch q)
  have V0__6 := V0__5.keep Kc6 (fun q => nomatch q)
  have KK6 : Keep h0 T6.heap [a0] := Keep.trans K5 Kc6 (fun _ q => nomatch q)
  have Zs6 : n0 ≤ T6.heap.size := Nat.le_trans Zs5 Kc6.1
  obtain ⟨T7, h7, X7, e7, W7, st7⟩ := putF X6 hx hZ hown (host := "") (Or.inl (hw _ (List.mem_of_getElem? (i := 65) rfl))) Via.refl rfl Sv__6 Es__6 (Or.inr ⟨(hw _ (List.mem_of_getElem? (i := 34) rfl)), rfl, hnm⟩) (hw _ (List.mem_of_getElem? (i := 33) rfl)) (ty := (.array .byte)) (by decide) rfl rfl (g := (mkF m 35 #[.val (.ref a0), .val (.ref a1), .val .null, .val (.ref b), .val (.int c)] [(.ref d), (.ref a0)])) rfl rfl (hb hby d_jdk_42_method_150_35)
  have S0__7 := S0__6.wr W7
  have Es__7 := Es__6.wr W7
  have Sv__7 := Sv__6.same W7
  have Sk__7 := Sk__6.other W7 (Or.inr (slot_ne (Or.inr (hw _ (List.mem_of_getElem? (i := 35) rfl))) (Or.inr (hw _ (List.mem_of_getElem? (i := 34) rfl))) (by decide) (t := .byte) (t' := (.array .byte)) (by decide) (by decide)))
  have E0__7 := E0__6.wr W7
  have Fv__7 := Fv__6.other W7 (Or.inl (ne_exa E0__6 Es__6 (by decide)))
  have Fk__7 := Fk__6.other W7 (Or.inl (ne_exa E0__6 Es__6 (by decide)))
  have Fn__7 := Fn__6.other W7 (Or.inl (ne_exa E0__6 Es__6 (by decide)))
  have V0__7 := V0__6.other W7 (Ne.symm (Es__6.neArv V0__6 (hw _ (List.mem_of_getElem? (i := 33) rfl))))
  have Vd6__7 := Vd6.other W7 (Ne.symm (Es__6.neArv Vd6 (hw _ (List.mem_of_getElem? (i := 33) rfl))))
  have K7 : Keep h0 h7 [a0] := KK6.wr W7 (Or.inl (List.mem_of_getElem? (i := 0) rfl))
  have Zs7 : n0 ≤ h7.size := Nat.le_trans Zs6 (Keep.of_wr W7).1
  have N7 := Fr.snoc X7 N6 gs
  obtain ⟨fs, hr, hrun, hended, hW, hsame⟩ := X7.leave (v := none) (fun _ => rfl)
  refine ⟨_, _, pre0 _ ?_, hrun, hended, _, _, rfl, ?_, ⟨_, rfl⟩, hW, hsame.mono (by decide) (by decide)⟩
  · show Steps p.tables e below (s₁.setTop (mkF m 0 #[.val (.ref a0), .val (.ref a1), .val .null, .unset, .unset] [])) _
    refine XS.aloadN X0.here hx rfl (hb hby d_jdk_42_method_150_0) rfl rfl ?_
    show Steps p.tables e below (s₁.setTop (mkF m 1 #[.val (.ref a0), .val (.ref a1), .val .null, .unset, .unset] [(.ref a0)])) _
    refine st1 _ ?_
    show Steps p.tables e below (T1.setTop (mkF m 4 #[.val (.ref a0), .val (.ref a1), .val .null, .unset, .unset] [])) _
    refine XS.aloadN X1.here hx rfl (hb hby d_jdk_42_method_150_4) rfl rfl ?_
    show Steps p.tables e below (T1.setTop (mkF m 5 #[.val (.ref a0), .val (.ref a1), .val .null, .unset, .unset] [(.ref a1)])) _
    refine st2.trans ?_
    show Steps p.tables e below (T2.setTop (mkF m 8 #[.val (.ref a0), .val (.ref a1), .val .null, .unset, .unset] [(.ref b)])) _
    refine XS.astoreN X2.here hx rfl (hb hby d_jdk_42_method_150_8) rfl rfl (l' := #[.val (.ref a0), .val (.ref a1), .val .null, .val (.ref b), .unset]) rfl ?_
    show Steps p.tables e below (T2.setTop (mkF m 9 #[.val (.ref a0), .val (.ref a1), .val .null, .val (.ref b), .unset] [])) _
    refine XS.aloadN X2.here hx rfl (hb hby d_jdk_42_method_150_9) rfl rfl ?_
    show Steps p.tables e below (T2.setTop (mkF m 10 #[.val (.ref a0), .val (.ref a1), .val .null, .val (.ref b), .unset] [(.ref a1)])) _
    refine st3.trans ?_
    show Steps p.tables e below (T3.setTop (mkF m 13 #[.val (.ref a0), .val (.ref a1), .val .null, .val (.ref b), .unset] [(.int c)])) _
    refine XS.istore X3.here hx rfl (hb hby d_jdk_42_method_150_13) rfl (l' := #[.val (.ref a0), .val (.ref a1), .val .null, .val (.ref b), .val (.int c)]) rfl ?_
    show Steps p.tables e below (T3.setTop (mkF m 15 #[.val (.ref a0), .val (.ref a1), .val .null, .val (.ref b), .val (.int c)] [])) _
    refine XS.aloadN X3.here hx rfl (hb hby d_jdk_42_method_150_15) rfl rfl ?_
    show Steps p.tables e below (T3.setTop (mkF m 16 #[.val (.ref a0), .val (.ref a1), .val .null, .val (.ref b), .val (.int c)] [(.ref a1)])) _
    refine st4.trans ?_
    show Steps p.tables e below (T4.setTop (mkF m 19 #[.val (.ref a0), .val (.ref a1), .val .null, .val (.ref b), .val (.int c)] [(.int (1 : Int32))])) _
    refine XS.ifNo X4.here hx rfl (hb hby d_jdk_42_method_150_19) rfl ((if0 _ _).trans (feq (by decide : ¬ ((1 : Int32) = (0 : Int32)))).1) ?_
    show Steps p.tables e below (T4.setTop (mkF m 22 #[.val (.ref a0), .val (.ref a1), .val .null, .val (.ref b), .val (.int c)] [])) _
    refine XS.aloadN X4.here hx rfl (hb hby d_jdk_42_method_150_22) rfl rfl ?_
    show Steps p.tables e below (T4.setTop (mkF m 23 #[.val (.ref a0), .val (.ref a1), .val .null, .val (.ref b), .val (.int c)] [(.ref a0)])) _
    refine XS.iconst X4.here hx rfl (hb hby d_jdk_42_method_150_23) ?_
    show Steps p.tables e below (T4.setTop (mkF m 24 #[.val (.ref a0), .val (.ref a1), .val .null, .val (.ref b), .val (.int c)] [(.int (0 : Int32)), (.ref a0)])) _
    refine st5 _ ?_
    show Steps p.tables e below (T5.setTop (mkF m 27 #[.val (.ref a0), .val (.ref a1), .val .null, .val (.ref b), .val (.int c)] [])) _
    refine XS.aloadN X5.here hx rfl (hb hby d_jdk_42_method_150_27) rfl rfl ?_
    show Steps p.tables e below (T5.setTop (mkF m 28 #[.val (.ref a0), .val (.ref a1), .val .null, .val (.ref b), .val (.int c)] [(.ref a0)])) _
    refine XS.aloadN X5.here hx rfl (hb hby d_jdk_42_method_150_28) rfl rfl ?_
    show Steps p.tables e below (T5.setTop (mkF m 29 #[.val (.ref a0), .val (.ref a1), .val .null, .val (.ref b), .val (.int c)] [(.ref b), (.ref a0)])) _
    refine XS.iconst X5.here hx rfl (hb hby d_jdk_42_method_150_29) ?_
    show Steps p.tables e below (T5.setTop (mkF m 30 #[.val (.ref a0), .val (.ref a1), .val .null, .val (.ref b), .val (.int c)] [(.int (0 : Int32)), (.ref b), (.ref a0)])) _
    refine XS.iload X5.here hx rfl (hb hby d_jdk_42_method_150_30) rfl ?_
    show Steps p.tables e below (T5.setTop (mkF m 32 #[.val (.ref a0), .val (.ref a1), .val .null, .val (.ref b), .val (.int c)] [(.int c), (.int (0 : Int32)), (.ref b), (.ref a0)])) _
    refine st6 _ ?_
    show Steps p.tables e below (T6.setTop (mkF m 35 #[.val (.ref a0), .val (.ref a1), .val .null, .val (.ref b), .val (.int c)] [(.ref d), (.ref a0)])) _
    refine st7 _ ?_
    show Steps p.tables e below (T7.setTop (mkF m 38 #[.val (.ref a0), .val (.ref a1), .val .null, .val (.ref b), .val (.int c)] [])) _
    refine XS.goto X7.here hx rfl (pc0 := 38) (pc' := 97) rfl (hb hby d_jdk_42_method_150_38) (by decide) (by decide) ?_
    show Steps p.tables e below (T7.setTop (mkF m 97 #[.val (.ref a0), .val (.ref a1), .val .null, .val (.ref b), .val (.int c)] [])) _
    exact X7.returnOut hx Bd.returns (hb hby d_jdk_42_method_150_97) hr
  · show Q_rmIA Z a0 a1 u0 u1 b k c vs cs h0 n0 _ T7.heap _
    rw [e7]
    exact ⟨d, kd, rfl, N7, K7, Es__7, Sk__7, Sv__7, Vd6__7⟩
theorem d_jdk_42_method_53_0 : decode jdk_42_method_53_code 0 = .ok (.aload_n 0, 1) := by decide +kernel
theorem d_jdk_42_method_53_1 : decode jdk_42_method_53_code 1 = .ok (.aload_n 1, 1) := by decide +kernel
theorem d_jdk_42_method_53_2 : decode jdk_42_method_53_code 2 = .ok (.aconst_null, 1) := by decide +kernel
theorem d_jdk_42_method_53_3 : decode jdk_42_method_53_code 3 = .ok (.invokespecial 489, 3) := by decide +kernel
theorem d_jdk_42_method_53_6 : decode jdk_42_method_53_code 6 = .ok (.return_, 1) := by decide +kernel
theorem pd__Ljava_lang_AbstractStringBuilder_Ljava_lang_Void__V : parseMethodDescriptor "(Ljava/lang/AbstractStringBuilder;Ljava/lang/Void;)V" = some ⟨[(.object "java/lang/AbstractStringBuilder"), (.object "java/lang/Void")], none⟩ := by decide +kernel
theorem ef_rmIS (m : MethodId) (a0 : Addr) (a1 : Addr) : entryFrame m #[(.ref a0), (.ref a1)] 2 = mkF m 0 #[.val (.ref a0), .val (.ref a1)] [] := by first | (simp [entryFrame, mkF, argsToLocals, Value.category]; done) | rfl
def Q_rmIS (Z : State) (a0 : Addr) (a1 : Addr) (u0 : Value) (u1 : Value) (b : Addr) (k : ClassId) (c : Int32) (vs : List Value) (cs : Int32) (h0 : Heap) (n0 : Nat) (v : Option Value) (h : Heap) (L : List Loc) : Prop := ∃ (d : Addr) (kd : ClassId), v = none ∧ Fr n0 L ∧ Keep h0 h [a0] ∧ Exa Z h a0 "java/lang/String" ∧ Fld Z h a0 "java/lang/String" "coder" "B" (.int (0 : Int32)) ∧ Fld Z h a0 "java/lang/String" "value" "[B" (.ref d) ∧ Arv Z h d kd .byte c (own_cut c vs) (.int (0 : Int32))
set_option maxRecDepth 65536 in
set_option maxHeartbeats 40000000 in
theorem rmIS (l : Launch) (Z : State) (aw : Array Value) (hw : ∀ d ∈ tables_1, d.before aw Z = true) (ws : List Jvm.Cond) (a0 : Addr) (a1 : Addr) (u0 : Value) (u1 : Value) (b : Addr) (k : ClassId) (c : Int32) (vs : List Value) (cs : Int32) (h0 : Heap) (n0 : Nat) (Z0 : n0 ≤ h0.size) (Es : Exa Z h0 a0 "java/lang/String") (gs : n0 ≤ a0) (Sv : Fld Z h0 a0 "java/lang/String" "value" "[B" u0) (Sk : Fld Z h0 a0 "java/lang/String" "coder" "B" u1) (E0 : Exa Z h0 a1 "java/lang/StringBuilder") (g0 : n0 ≤ a1) (Fv : Fld Z h0 a1 "java/lang/AbstractStringBuilder" "value" "[B" (.ref b)) (Fk : Fld Z h0 a1 "java/lang/AbstractStringBuilder" "coder" "B" (.int (0 : Int32))) (Fn : Fld Z h0 a1 "java/lang/AbstractStringBuilder" "count" "I" (.int c)) (V0 : Arv Z h0 b k .byte (16 : Int32) vs (.int (0 : Int32))) (gb : n0 ≤ b) (S0 : Sta Z h0 "java/lang/String" "COMPACT_STRINGS" "Z" (.int cs)) (hc0 : ¬ c < 0) (hlt : c < (16 : Int32)) (h16 : (c).toNatClampNeg ≤ 16) (hne : ¬ (c = (16 : Int32))) (hcs : ¬ (cs = (0 : Int32))) :
    MetFree l (⟨"java/lang/String", "<init>", "(Ljava/lang/StringBuilder;)V"⟩ : MethodName) (head1 (Jvm.Cond.code (⟨"java/lang/String", "<init>", "(Ljava/lang/StringBuilder;)V"⟩ : MethodName) jdk_42_method_53_code 2 none :: ws) ({ frames := 4, cells := 1, slots := 16, locals := 78 } : Room)) (fun a U => a = #[(.ref a0), (.ref a1)] ∧ Z.Warmed39 U.vm ∧ U.heap = h0) (fun _ _ _ _ _ => True) (fun _ U o U' => ∃ v L, o = .returned v ∧ Q_rmIS Z a0 a1 u0 u1 b k c vs cs h0 n0 v U'.heap L ∧ FrameEnd U o U' L ({ frames := 4, cells := 1, slots := 16, locals := 78 } : Room).cells ({ frames := 4, cells := 1, slots := 16, locals := 78 } : Room).slots) := by
  refine MetFree.of_bodySF (plainFor_of_name pn_java_lang_String) hisR ?_
  intro p e s m args below meth cd s₁ Bd hml0 hP hK
  obtain ⟨rfl, hZ, hh⟩ := hP
  have hx := Bd.exec
  have hby := Bd.bytes
  have hml : cd.maxLocals = 2 := hml0
  have hown : s.vm.findClass "java/lang/String" = some m.cls := findClass_of_methodNamed Bd.named
  have hnm := (name_of_methodNamed Bd.named Bd.method).1
  have X0 : Stand p l e ({ frames := 4, cells := 1, slots := 16, locals := 78 } : Room) s m #[(.ref a0), (.ref a1)] below meth cd s₁ [] 0 0 := Stand.of_body Bd
  have e0 : s₁.heap = h0 := by rw [← hh, Bd.state]; rfl
  have N0 := Fr.nil n0
  have pre0 : ∀ t, Steps p.tables e below (s₁.setTop (mkF m 0 #[.val (.ref a0), .val (.ref a1)] [])) t → Steps p.tables e below (s₁.setTop (entryFrame m #[(.ref a0), (.ref a1)] 2)) t := fun t k => castTop (ef_rmIS m a0 a1) k
  obtain ⟨_, _, ⟨T1, L1, k1, n1⟩, -, X1, ⟨Lc1, hQ1, l1, y1, z1⟩, st1⟩ := X0.specialBack hx (y := (⟨"java/lang/String", "<init>", "(Ljava/lang/AbstractStringBuilder;Ljava/lang/Void;)V"⟩ : MethodName)) rfl hown (mvT hZ (hw _ (List.mem_of_getElem? (i := 133) rfl))) (mvT hZ (hw _ (List.mem_of_getElem? (i := 134) rfl))) (mvT hZ (hw _ (List.mem_of_getElem? (i := 135) rfl))) (by decide) (backOf (W := 0) (rmIA l Z aw hw [] a0 a1 u0 u1 b k c vs cs h0 n0 Z0 Es gs Sv Sk E0 g0 Fv Fk Fn V0 gb S0 hc0 hlt h16 hne hcs) hZ (hw _ (List.mem_of_getElem? (i := 135) rfl)) (hw _ (List.mem_of_getElem? (i := 24) rfl)) (by decide) (by decide)) (g := (mkF m 3 #[.val (.ref a0), .val (.ref a1)] [.null, (.ref a1), (.ref a0)])) rfl (by rw [hml]; rfl) (Steps.refl _) (a := a0) (argsL := [(.ref a1), .null]) (rest := []) (lenOf pd__Ljava_lang_AbstractStringBuilder_Ljava_lang_Void__V rfl) rfl (by show 2 * 0 + _ ≤ _; exact Nat.le_of_eq rfl) (hb hby d_jdk_42_method_53_3) (fun _ _ => ⟨rfl, e0, (by decide : 0 + 1 ≤ _), (by decide : 0 + 16 ≤ _)⟩)
  dsimp only [Pt.U, Pt.locs, Pt.cells, Pt.slots] at X1 l1 y1 z1 st1 hQ1
  subst l1 y1 z1
  obtain ⟨d, kd, rfl, N1q, Kc1, Es1, Sk1, Sv1, Vd1⟩ := hQ1
  have N1 := Fr.app N0 N1q
  have S0__1 := own_sta_keep S0 Kc1 (nsS (Es.nostat) ns0)
  have E0__1 := E0.keep Kc1
  have Fv__1 := Fv.keep Kc1 (fun q => (ne_exa E0 Es (by decide)) (List.mem_singleton.mp q))
  have Fk__1 := Fk.keep Kc1 (fun q => (ne_exa E0 Es (by decide)) (List.mem_singleton.mp q))
  have Fn__1 := Fn.keep Kc1 (fun q => (ne_exa E0 Es (by decide)) (List.mem_singleton.mp q))
  have V0__1 := V0.keep Kc1 (fun q => (Ne.symm (Es.neArv V0 (hw _ (List.mem_of_getElem? (i := 33) rfl)))) (List.mem_singleton.mp q))
  have KK1 : Keep h0 T1.heap [a0] := Keep.trans (Keep.refl h0 [a0]) Kc1 (fun x q => by cases List.mem_singleton.mp q; exact (Or.inl (List.mem_of_getElem? (i := 0) rfl)))
  have Zs1 : n0 ≤ T1.heap.size := Nat.le_trans Z0 Kc1.1
  obtain ⟨fs, hr, hrun, hended, hW, hsame⟩ := X1.leave (v := none) (fun _ => rfl)
  refine ⟨_, _, pre0 _ ?_, hrun, hended, _, _, rfl, ?_, ⟨_, rfl⟩, hW, hsame.mono (by decide) (by decide)⟩
  · show Steps p.tables e below (s₁.setTop (mkF m 0 #[.val (.ref a0), .val (.ref a1)] [])) _
    refine XS.aloadN X0.here hx rfl (hb hby d_jdk_42_method_53_0) rfl rfl ?_
    show Steps p.tables e below (s₁.setTop (mkF m 1 #[.val (.ref a0), .val (.ref a1)] [(.ref a0)])) _
    refine XS.aloadN X0.here hx rfl (hb hby d_jdk_42_method_53_1) rfl rfl ?_
    show Steps p.tables e below (s₁.setTop (mkF m 2 #[.val (.ref a0), .val (.ref a1)] [(.ref a1), (.ref a0)])) _
    refine XS.aconstNull X0.here hx rfl (hb hby d_jdk_42_method_53_2) ?_
    show Steps p.tables e below (s₁.setTop (mkF m 3 #[.val (.ref a0), .val (.ref a1)] [.null, (.ref a1), (.ref a0)])) _
    refine st1.trans ?_
    show Steps p.tables e below (T1.setTop (mkF m 6 #[.val (.ref a0), .val (.ref a1)] [])) _
    exact X1.returnOut hx Bd.returns (hb hby d_jdk_42_method_53_6) hr
  · show Q_rmIS Z a0 a1 u0 u1 b k c vs cs h0 n0 _ T1.heap _
    exact ⟨d, kd, rfl, N1, KK1, Es1, Sk1, Sv1, Vd1⟩
theorem d_jdk_67_method_42_0 : decode jdk_67_method_42_code 0 = .ok (.new 18, 3) := by decide +kernel
theorem d_jdk_67_method_42_3 : decode jdk_67_method_42_code 3 = .ok (.dup, 1) := by decide +kernel
theorem d_jdk_67_method_42_4 : decode jdk_67_method_42_code 4 = .ok (.aload_n 0, 1) := by decide +kernel
theorem d_jdk_67_method_42_5 : decode jdk_67_method_42_code 5 = .ok (.invokespecial 137, 3) := by decide +kernel
theorem d_jdk_67_method_42_8 : decode jdk_67_method_42_code 8 = .ok (.areturn, 1) := by decide +kernel
theorem pd__Ljava_lang_StringBuilder__V : parseMethodDescriptor "(Ljava/lang/StringBuilder;)V" = some ⟨[(.object "java/lang/StringBuilder")], none⟩ := by decide +kernel
theorem ef_rmTS (m : MethodId) (a0 : Addr) : entryFrame m #[(.ref a0)] 1 = mkF m 0 #[.val (.ref a0)] [] := by first | (simp [entryFrame, mkF, argsToLocals, Value.category]; done) | rfl
def Q_rmTS (Z : State) (a0 : Addr) (b : Addr) (k : ClassId) (c : Int32) (vs : List Value) (cs : Int32) (h0 : Heap) (n0 : Nat) (v : Option Value) (h : Heap) (L : List Loc) : Prop := ∃ (st : Addr) (d : Addr) (kd : ClassId), v = some (.ref st) ∧ Fr n0 L ∧ h0.size ≤ st ∧ Keep h0 h [] ∧ Exa Z h st "java/lang/String" ∧ Fld Z h st "java/lang/String" "coder" "B" (.int (0 : Int32)) ∧ Fld Z h st "java/lang/String" "value" "[B" (.ref d) ∧ Arv Z h d kd .byte c (own_cut c vs) (.int (0 : Int32))
set_option maxRecDepth 65536 in
set_option maxHeartbeats 40000000 in
theorem rmTS (l : Launch) (Z : State) (aw : Array Value) (hw : ∀ d ∈ tables_1, d.before aw Z = true) (ws : List Jvm.Cond) (a0 : Addr) (b : Addr) (k : ClassId) (c : Int32) (vs : List Value) (cs : Int32) (h0 : Heap) (n0 : Nat) (Z0 : n0 ≤ h0.size) (E0 : Exa Z h0 a0 "java/lang/StringBuilder") (g0 : n0 ≤ a0) (Fv : Fld Z h0 a0 "java/lang/AbstractStringBuilder" "value" "[B" (.ref b)) (Fk : Fld Z h0 a0 "java/lang/AbstractStringBuilder" "coder" "B" (.int (0 : Int32))) (Fn : Fld Z h0 a0 "java/lang/AbstractStringBuilder" "count" "I" (.int c)) (V0 : Arv Z h0 b k .byte (16 : Int32) vs (.int (0 : Int32))) (gb : n0 ≤ b) (S0 : Sta Z h0 "java/lang/String" "COMPACT_STRINGS" "Z" (.int cs)) (hc0 : ¬ c < 0) (hlt : c < (16 : Int32)) (h16 : (c).toNatClampNeg ≤ 16) (hne : ¬ (c = (16 : Int32))) (hcs : ¬ (cs = (0 : Int32))) :
    MetFree l (⟨"java/lang/StringBuilder", "toString", "()Ljava/lang/String;"⟩ : MethodName) (head1 (Jvm.Cond.code (⟨"java/lang/StringBuilder", "toString", "()Ljava/lang/String;"⟩ : MethodName) jdk_67_method_42_code 1 (some (.object "java/lang/String")) :: ws) ({ frames := 5, cells := 2, slots := 20, locals := 92 } : Room)) (fun a U => a = #[(.ref a0)] ∧ Z.Warmed39 U.vm ∧ U.heap = h0) (fun _ _ _ _ _ => True) (fun _ U o U' => ∃ v L, o = .returned v ∧ Q_rmTS Z a0 b k c vs cs h0 n0 v U'.heap L ∧ FrameEnd U o U' L ({ frames := 5, cells := 2, slots := 20, locals := 92 } : Room).cells ({ frames := 5, cells := 2, slots := 20, locals := 92 } : Room).slots) := by
  refine MetFree.of_bodySF (plainFor_of_name pn_java_lang_StringBuilder) hisR ?_
  intro p e s m args below meth cd s₁ Bd hml0 hP hK
  obtain ⟨rfl, hZ, hh⟩ := hP
  have hx := Bd.exec
  have hby := Bd.bytes
  have hml : cd.maxLocals = 1 := hml0
  have hown : s.vm.findClass "java/lang/StringBuilder" = some m.cls := findClass_of_methodNamed Bd.named
  have hnm := (name_of_methodNamed Bd.named Bd.method).1
  have X0 : Stand p l e ({ frames := 5, cells := 2, slots := 20, locals := 92 } : Room) s m #[(.ref a0)] below meth cd s₁ [] 0 0 := Stand.of_body Bd
  have e0 : s₁.heap = h0 := by rw [← hh, Bd.state]; rfl
  have N0 := Fr.nil n0
  have pre0 : ∀ t, Steps p.tables e below (s₁.setTop (mkF m 0 #[.val (.ref a0)] [])) t → Steps p.tables e below (s₁.setTop (entryFrame m #[(.ref a0)] 1)) t := fun t k => castTop (ef_rmTS m a0) k
  obtain ⟨T1, h1, X1, e1, E1, A1, D1, -, st1⟩ := newO X0 hx hZ hown (hw _ (List.mem_of_getElem? (i := 128) rfl)) (hw _ (List.mem_of_getElem? (i := 33) rfl)) (hw _ (List.mem_of_getElem? (i := 24) rfl)) e0 (g := (mkF m 0 #[.val (.ref a0)] [])) rfl (hb hby d_jdk_67_method_42_0) (by decide) (by decide)
  obtain ⟨b1, g1⟩ : ∃ z, z = h0.size := ⟨_, rfl⟩
  rw [← g1] at A1 D1 st1
  have ne_a0_b1 : a0 ≠ b1 := Nat.ne_of_lt (Nat.lt_of_lt_of_le E0.lt (Nat.le_of_eq g1.symm))
  have ne_b_b1 : b ≠ b1 := Nat.ne_of_lt (Nat.lt_of_lt_of_le V0.lt (Nat.le_of_eq g1.symm))
  have g_b1 : n0 ≤ b1 := Nat.le_trans Z0 (Nat.le_of_eq g1.symm)
  have sz_b1 : h0.size ≤ b1 := Nat.le_trans (Keep.refl h0 []).1 (Nat.le_of_eq g1.symm)
  have S0__1 := S0.ext E1
  have E0__1 := E0.ext E1
  have Fv__1 := Fv.ext E1
  have Fk__1 := Fk.ext E1
  have Fn__1 := Fn.ext E1
  have V0__1 := V0.ext E1
  have K1 : Keep h0 h1 [] := (Keep.refl h0 []).ext E1
  have Zs1 : n0 ≤ h1.size := Nat.le_trans Z0 E1.1
  have F_value_b1 : Fld Z h1 b1 "java/lang/String" "value" "[B" .null := D1 (Or.inr (hw _ (List.mem_of_getElem? (i := 34) rfl))) (ty := (.array .byte)) (by decide)
  have F_coder_b1 : Fld Z h1 b1 "java/lang/String" "coder" "B" (.int (0 : Int32)) := D1 (Or.inr (hw _ (List.mem_of_getElem? (i := 35) rfl))) (ty := .byte) (by decide)
  obtain ⟨_, _, ⟨T2, L2, k2, n2⟩, -, X2, ⟨Lc2, hQ2, l2, y2, z2⟩, st2⟩ := X1.specialBack hx (y := (⟨"java/lang/String", "<init>", "(Ljava/lang/StringBuilder;)V"⟩ : MethodName)) rfl hown (mvT hZ (hw _ (List.mem_of_getElem? (i := 129) rfl))) (mvT hZ (hw _ (List.mem_of_getElem? (i := 130) rfl))) (mvT hZ (hw _ (List.mem_of_getElem? (i := 132) rfl))) (by decide) (backOf (W := 1) (rmIS l Z aw hw [] b1 a0 .null (.int 0) b k c vs cs h1 n0 Zs1 A1 g_b1 F_value_b1 F_coder_b1 E0__1 g0 Fv__1 Fk__1 Fn__1 V0__1 gb S0__1 hc0 hlt h16 hne hcs) hZ (hw _ (List.mem_of_getElem? (i := 132) rfl)) (hw _ (List.mem_of_getElem? (i := 24) rfl)) (by decide) (by decide)) (g := (mkF m 5 #[.val (.ref a0)] [(.ref a0), (.ref b1), (.ref b1)])) rfl (by rw [hml]; rfl) (Steps.refl _) (a := b1) (argsL := [(.ref a0)]) (rest := [(.ref b1)]) (lenOf pd__Ljava_lang_StringBuilder__V rfl) rfl (by show 2 * 0 + _ ≤ _; exact Nat.le_of_eq rfl) (hb hby d_jdk_67_method_42_5) (fun _ _ => ⟨rfl, e1, (by decide : 1 + 1 ≤ _), (by decide : 4 + 16 ≤ _)⟩)
  dsimp only [Pt.U, Pt.locs, Pt.cells, Pt.slots] at X2 l2 y2 z2 st2 hQ2
  subst l2 y2 z2
  obtain ⟨d, kd, rfl, N2q, Kc2, Es2, Sk2, Sv2, Vd2⟩ := hQ2
  have N2 := Fr.app N0 N2q
  have S0__2 := own_sta_keep S0__1 Kc2 (nsS (A1.nostat) ns0)
  have E0__2 := E0__1.keep Kc2
  have Fv__2 := Fv__1.keep Kc2 (fun q => ne_a0_b1 (List.mem_singleton.mp q))
  have Fk__2 := Fk__1.keep Kc2 (fun q => ne_a0_b1 (List.mem_singleton.mp q))
  have Fn__2 := Fn__1.keep Kc2 (fun q => ne_a0_b1 (List.mem_singleton.mp q))
  have V0__2 := V0__1.keep Kc2 (fun q => ne_b_b1 (List.mem_singleton.mp q))
  have KK2 : Keep h0 T2.heap [] := Keep.trans K1 Kc2 (fun x q => by cases List.mem_singleton.mp q; exact (Or.inr sz_b1))
  have Zs2 : n0 ≤ T2.heap.size := Nat.le_trans Zs1 Kc2.1
  obtain ⟨fs, hr, hrun, hended, hW, hsame⟩ := X2.leave (v := some (.ref b1)) (fun h => by rw [Bd.returns] at h; cases h)
  refine ⟨_, _, pre0 _ ?_, hrun, hended, _, _, rfl, ?_, ⟨_, rfl⟩, hW, hsame.mono (by decide) (by decide)⟩
  · show Steps p.tables e below (s₁.setTop (mkF m 0 #[.val (.ref a0)] [])) _
    refine st1 _ ?_
    show Steps p.tables e below (T1.setTop (mkF m 3 #[.val (.ref a0)] [(.ref b1)])) _
    refine XS.dup X1.here hx rfl (hb hby d_jdk_67_method_42_3) rfl rfl ?_
    show Steps p.tables e below (T1.setTop (mkF m 4 #[.val (.ref a0)] [(.ref b1), (.ref b1)])) _
    refine XS.aloadN X1.here hx rfl (hb hby d_jdk_67_method_42_4) rfl rfl ?_
    show Steps p.tables e below (T1.setTop (mkF m 5 #[.val (.ref a0)] [(.ref a0), (.ref b1), (.ref b1)])) _
    refine st2.trans ?_
    show Steps p.tables e below (T2.setTop (mkF m 8 #[.val (.ref a0)] [(.ref b1)])) _
    jvm_step X2.here [X2.here.top, hx, (hb hby d_jdk_67_method_42_8), X2.method', Bd.returns, Value.isRef, FieldType.isReference]
    first | (intro acts; rw [hr _ acts rfl rfl rfl]) | rw [hr _ _ rfl rfl rfl]
    exact Steps.refl _
  · show Q_rmTS Z a0 b k c vs cs h0 n0 _ T2.heap _
    exact ⟨b1, d, kd, rfl, N2, sz_b1, KK2, Es2, Sk2, Sv2, Vd2⟩
theorem d_prog_20_method_12_0 : decode prog_20_method_12_code 0 = .ok (.aload_n 0, 1) := by decide +kernel
theorem d_prog_20_method_12_1 : decode prog_20_method_12_code 1 = .ok (.getfield 10, 3) := by decide +kernel
theorem d_prog_20_method_12_4 : decode prog_20_method_12_code 4 = .ok (.invokevirtual 80, 3) := by decide +kernel
theorem d_prog_20_method_12_7 : decode prog_20_method_12_code 7 = .ok (.areturn, 1) := by decide +kernel
theorem pd___Ljava_lang_String_ : parseMethodDescriptor "()Ljava/lang/String;" = some ⟨[], some (.object "java/lang/String")⟩ := by decide +kernel
theorem ef_rmJTS (m : MethodId) (a0 : Addr) : entryFrame m #[(.ref a0)] 1 = mkF m 0 #[.val (.ref a0)] [] := by first | (simp [entryFrame, mkF, argsToLocals, Value.category]; done) | rfl
def Q_rmJTS (Z : State) (a0 : Addr) (sb : Addr) (b : Addr) (k : ClassId) (c : Int32) (vs : List Value) (cs : Int32) (h0 : Heap) (n0 : Nat) (v : Option Value) (h : Heap) (L : List Loc) : Prop := ∃ (st : Addr) (d : Addr) (kd : ClassId), v = some (.ref st) ∧ Fr n0 L ∧ h0.size ≤ st ∧ Keep h0 h [] ∧ Exa Z h st "java/lang/String" ∧ Fld Z h st "java/lang/String" "coder" "B" (.int (0 : Int32)) ∧ Fld Z h st "java/lang/String" "value" "[B" (.ref d) ∧ Arv Z h d kd .byte c (own_cut c vs) (.int (0 : Int32))
set_option maxRecDepth 65536 in
set_option maxHeartbeats 40000000 in
theorem rmJTS (l : Launch) (Z : State) (aw : Array Value) (hw : ∀ d ∈ tables_1, d.before aw Z = true) (ws : List Jvm.Cond) (a0 : Addr) (sb : Addr) (b : Addr) (k : ClassId) (c : Int32) (vs : List Value) (cs : Int32) (h0 : Heap) (n0 : Nat) (Z0 : n0 ≤ h0.size) (EJ : Exa Z h0 a0 "latentrace/io/JsonWriter") (gJ : n0 ≤ a0) (Ft : Fld Z h0 a0 "latentrace/io/JsonWriter" "text" "Ljava/lang/StringBuilder;" (.ref sb)) (Fa : Fld Z h0 a0 "latentrace/io/JsonWriter" "afterValue" "Z" (.int (1 : Int32))) (E0 : Exa Z h0 sb "java/lang/StringBuilder") (g0 : n0 ≤ sb) (Fv : Fld Z h0 sb "java/lang/AbstractStringBuilder" "value" "[B" (.ref b)) (Fk : Fld Z h0 sb "java/lang/AbstractStringBuilder" "coder" "B" (.int (0 : Int32))) (Fn : Fld Z h0 sb "java/lang/AbstractStringBuilder" "count" "I" (.int c)) (V0 : Arv Z h0 b k .byte (16 : Int32) vs (.int (0 : Int32))) (gb : n0 ≤ b) (S0 : Sta Z h0 "java/lang/String" "COMPACT_STRINGS" "Z" (.int cs)) (hc0 : ¬ c < 0) (hlt : c < (16 : Int32)) (h16 : (c).toNatClampNeg ≤ 16) (hne : ¬ (c = (16 : Int32))) (hcs : ¬ (cs = (0 : Int32))) :
    MetFree l (⟨"latentrace/io/JsonWriter", "toString", "()Ljava/lang/String;"⟩ : MethodName) (head1 (Jvm.Cond.code (⟨"latentrace/io/JsonWriter", "toString", "()Ljava/lang/String;"⟩ : MethodName) prog_20_method_12_code 1 (some (.object "java/lang/String")) :: ws) ({ frames := 6, cells := 2, slots := 20, locals := 104 } : Room)) (fun a U => a = #[(.ref a0)] ∧ Z.Warmed39 U.vm ∧ U.heap = h0) (fun _ _ _ _ _ => True) (fun _ U o U' => ∃ v L, o = .returned v ∧ Q_rmJTS Z a0 sb b k c vs cs h0 n0 v U'.heap L ∧ FrameEnd U o U' L ({ frames := 6, cells := 2, slots := 20, locals := 104 } : Room).cells ({ frames := 6, cells := 2, slots := 20, locals := 104 } : Room).slots) := by
  refine MetFree.of_bodySF (plainFor_of_name pn_latentrace_io_JsonWriter) hisR ?_
  intro p e s m args below meth cd s₁ Bd hml0 hP hK
  obtain ⟨rfl, hZ, hh⟩ := hP
  have hx := Bd.exec
  have hby := Bd.bytes
  have hml : cd.maxLocals = 1 := hml0
  have hown : s.vm.findClass "latentrace/io/JsonWriter" = some m.cls := findClass_of_methodNamed Bd.named
  have hnm := (name_of_methodNamed Bd.named Bd.method).1
  have X0 : Stand p l e ({ frames := 6, cells := 2, slots := 20, locals := 104 } : Room) s m #[(.ref a0)] below meth cd s₁ [] 0 0 := Stand.of_body Bd
  have e0 : s₁.heap = h0 := by rw [← hh, Bd.state]; rfl
  have N0 := Fr.nil n0
  have pre0 : ∀ t, Steps p.tables e below (s₁.setTop (mkF m 0 #[.val (.ref a0)] [])) t → Steps p.tables e below (s₁.setTop (entryFrame m #[(.ref a0)] 1)) t := fun t k => castTop (ef_rmJTS m a0) k
  obtain ⟨T1, X1, e1, st1⟩ := getF X0 hx hZ hown (host := "") (Or.inl (hw _ (List.mem_of_getElem? (i := 30) rfl))) Via.refl e0 Ft (g := (mkF m 1 #[.val (.ref a0)] [(.ref a0)])) rfl rfl (hb hby d_prog_20_method_12_1)
  obtain ⟨cq2, kq2, q2a, q2b, q2c⟩ := isOf hZ e1 E0
  obtain ⟨_, _, ⟨T2, L2, k2, n2⟩, -, X2, ⟨Lc2, hQ2, l2, y2, z2⟩, st2⟩ := X1.virtualBack hx (y := (⟨"java/lang/StringBuilder", "toString", "()Ljava/lang/String;"⟩ : MethodName)) (z := (⟨"java/lang/StringBuilder", "toString", "()Ljava/lang/String;"⟩ : MethodName)) hown (mvT hZ (hw _ (List.mem_of_getElem? (i := 123) rfl))) (mvT hZ (hw _ (List.mem_of_getElem? (i := 124) rfl))) (notFace_of_selects (args := #[]) (mvT hZ (hw _ (List.mem_of_getElem? (i := 126) rfl)))) (mvT hZ (hw _ (List.mem_of_getElem? (i := 126) rfl))) (mvT hZ (hw _ (List.mem_of_getElem? (i := 125) rfl))) (by decide) (backOf (W := 0) (rmTS l Z aw hw [] sb b k c vs cs h0 n0 Z0 E0 g0 Fv Fk Fn V0 gb S0 hc0 hlt h16 hne hcs) hZ (hw _ (List.mem_of_getElem? (i := 127) rfl)) (hw _ (List.mem_of_getElem? (i := 12) rfl)) (by decide) (by decide)) q2a q2c (g := (mkF m 4 #[.val (.ref a0)] [(.ref sb)])) rfl (by rw [hml]; rfl) (Steps.refl _) (argsL := []) (rest := []) (lenOf pd___Ljava_lang_String_ rfl) rfl (by show 2 * 0 + _ ≤ _; exact Nat.le_of_eq rfl) (hb hby d_prog_20_method_12_4) (fun _ _ => ⟨rfl, e1, (by decide : 0 + 2 ≤ _), (by decide : 0 + 20 ≤ _)⟩)
  dsimp only [Pt.U, Pt.locs, Pt.cells, Pt.slots] at X2 l2 y2 z2 st2 hQ2
  subst l2 y2 z2
  obtain ⟨st, d, kd, rfl, N2q, szt, Kc2, Es2, Sk2, Sv2, Vd2⟩ := hQ2
  have N2 := Fr.app N0 N2q
  have S0__2 := own_sta_keep S0 Kc2 ns0
  have EJ__2 := EJ.keep Kc2
  have Ft__2 := Ft.keep Kc2 (fun q => nomatch q)
  have Fa__2 := Fa.keep Kc2 (fun q => nomatch q)
  have E0__2 := E0.keep Kc2
  have Fv__2 := Fv.keep Kc2 (fun q => nomatch q)
  have Fk__2 := Fk.keep Kc2 (fun q => nomatch q)
  have Fn__2 := Fn.keep Kc2 (fun q => nomatch q)
  have V0__2 := V0.keep Kc2 (fun q => nomatch q)
  have KK2 : Keep h0 T2.heap [] := Keep.trans (Keep.refl h0 []) Kc2 (fun _ q => nomatch q)
  have Zs2 : n0 ≤ T2.heap.size := Nat.le_trans Z0 Kc2.1
  obtain ⟨fs, hr, hrun, hended, hW, hsame⟩ := X2.leave (v := some (.ref st)) (fun h => by rw [Bd.returns] at h; cases h)
  refine ⟨_, _, pre0 _ ?_, hrun, hended, _, _, rfl, ?_, ⟨_, rfl⟩, hW, hsame.mono (by decide) (by decide)⟩
  · show Steps p.tables e below (s₁.setTop (mkF m 0 #[.val (.ref a0)] [])) _
    refine XS.aloadN X0.here hx rfl (hb hby d_prog_20_method_12_0) rfl rfl ?_
    show Steps p.tables e below (s₁.setTop (mkF m 1 #[.val (.ref a0)] [(.ref a0)])) _
    refine st1 _ ?_
    show Steps p.tables e below (T1.setTop (mkF m 4 #[.val (.ref a0)] [(.ref sb)])) _
    refine st2.trans ?_
    show Steps p.tables e below (T2.setTop (mkF m 7 #[.val (.ref a0)] [(.ref st)])) _
    jvm_step X2.here [X2.here.top, hx, (hb hby d_prog_20_method_12_7), X2.method', Bd.returns, Value.isRef, FieldType.isReference]
    first | (intro acts; rw [hr _ acts rfl rfl rfl]) | rw [hr _ _ rfl rfl rfl]
    exact Steps.refl _
  · show Q_rmJTS Z a0 sb b k c vs cs h0 n0 _ T2.heap _
    exact ⟨st, d, kd, rfl, N2, szt, KK2, Es2, Sk2, Sv2, Vd2⟩
theorem d_jdk_43_method_13_9 : decode jdk_43_method_13_code 9 = .ok (.iload_n 2, 1) := by decide +kernel
theorem d_jdk_43_method_13_10 : decode jdk_43_method_13_code 10 = .ok (.aload_n 0, 1) := by decide +kernel
theorem d_jdk_43_method_13_11 : decode jdk_43_method_13_code 11 = .ok (.arraylength, 1) := by decide +kernel
theorem d_jdk_43_method_13_12 : decode jdk_43_method_13_code 12 = .ok (.if_icmp .ge 20, 3) := by decide +kernel
theorem d_jdk_43_method_13_15 : decode jdk_43_method_13_code 15 = .ok (.aload_n 0, 1) := by decide +kernel
theorem d_jdk_43_method_13_16 : decode jdk_43_method_13_code 16 = .ok (.iload_n 2, 1) := by decide +kernel
theorem d_jdk_43_method_13_17 : decode jdk_43_method_13_code 17 = .ok (.baload, 1) := by decide +kernel
theorem d_jdk_43_method_13_18 : decode jdk_43_method_13_code 18 = .ok (.aload_n 1, 1) := by decide +kernel
theorem d_jdk_43_method_13_19 : decode jdk_43_method_13_code 19 = .ok (.iload_n 2, 1) := by decide +kernel
theorem d_jdk_43_method_13_20 : decode jdk_43_method_13_code 20 = .ok (.baload, 1) := by decide +kernel
theorem d_jdk_43_method_13_21 : decode jdk_43_method_13_code 21 = .ok (.if_icmp .eq 5, 3) := by decide +kernel
theorem d_jdk_43_method_13_26 : decode jdk_43_method_13_code 26 = .ok (.iinc 2 1, 3) := by decide +kernel
theorem d_jdk_43_method_13_29 : decode jdk_43_method_13_code 29 = .ok (.goto (-20), 3) := by decide +kernel
set_option maxRecDepth 65536 in
set_option maxHeartbeats 40000000 in
theorem rmLEt {p : Program} {l : Launch} {e : Env} {R : Room} {s : State} {m : MethodId} {args : Array Value} {below : List Frame} {meth : Method} {c : Code} {T0 : State} {locs : List Loc} {cells slots : Nat} {Z : State} {h0 : Heap} {x0 x1 : Addr} {k0 k1 : ClassId} {z : Int32} {vs : List Value} (X0 : Stand p l e R s m args below meth c T0 locs cells slots) (hx : p.tables.exec = Jvm.exec) (hZ : Z.Warmed39 s.vm) (hby : c.code = jdk_43_method_13_code) (e0 : T0.heap = h0) (V0 : Arv Z h0 x0 k0 .byte z vs (.int (0 : Int32))) (V1 : Arv Z h0 x1 k1 .byte z vs (.int (0 : Int32))) {i y : Int32} (hi : ¬ i < 0 ∧ i < z) (hy : vs.getD i.toNatClampNeg (.int (0 : Int32)) = .int y) (target : State) (kt : Steps p.tables e below (T0.setTop (mkF m 9 #[.val (.ref x0), .val (.ref x1), .val (.int (i + (1 : Int32)))] [])) target) : Steps p.tables e below (T0.setTop (mkF m 9 #[.val (.ref x0), .val (.ref x1), .val (.int i)] [])) target := by
  have Vo1 := V0
  obtain ⟨cl1, Ar1, -, S1, Ng1, -, -⟩ := Vo1
  have Vo2 := V0
  obtain ⟨cl2, Ar2, q2, S2, Ng2, Hs2, Gf2⟩ := Vo2
  have hin2 : ¬ (i < 0 ∨ cl2.slots.size ≤ (i).toNatClampNeg) := inb_of S2 hi
  have hat2 : cl2.slots[(i).toNatClampNeg]? = some (.int y) := (Hs2 _ (Nat.lt_of_not_le fun q => hin2 (Or.inr q))).trans (congrArg some hy)
  have Vo3 := V1
  obtain ⟨cl3, Ar3, q3, S3, Ng3, Hs3, Gf3⟩ := Vo3
  have hin3 : ¬ (i < 0 ∨ cl3.slots.size ≤ (i).toNatClampNeg) := inb_of S3 hi
  have hat3 : cl3.slots[(i).toNatClampNeg]? = some (.int y) := (Hs3 _ (Nat.lt_of_not_le fun q => hin3 (Or.inr q))).trans (congrArg some hy)
  show Steps p.tables e below (T0.setTop (mkF m 9 #[.val (.ref x0), .val (.ref x1), .val (.int i)] [])) _
  refine XS.iloadN X0.here hx rfl (hb hby d_jdk_43_method_13_9) rfl ?_
  show Steps p.tables e below (T0.setTop (mkF m 10 #[.val (.ref x0), .val (.ref x1), .val (.int i)] [(.int i)])) _
  refine XS.aloadN X0.here hx rfl (hb hby d_jdk_43_method_13_10) rfl rfl ?_
  show Steps p.tables e below (T0.setTop (mkF m 11 #[.val (.ref x0), .val (.ref x1), .val (.int i)] [(.ref x0), (.int i)])) _
  refine X0.arraylength hx (by rw [e0]; exact Ar1.1) (State.isArrayOf_alike hZ.alike Ar1.2.1) (g := (mkF m 11 #[.val (.ref x0), .val (.ref x1), .val (.int i)] [(.ref x0), (.int i)])) rfl rfl (hb hby d_jdk_43_method_13_11) _ ?_
  rw [len_of S1 Ng1]
  show Steps p.tables e below (T0.setTop (mkF m 12 #[.val (.ref x0), .val (.ref x1), .val (.int i)] [(.int z), (.int i)])) _
  refine XS.icmpNo X0.here hx rfl (hb hby d_jdk_43_method_13_12) rfl (tlt (hi.2 : i < z)).2.1 ?_
  show Steps p.tables e below (T0.setTop (mkF m 15 #[.val (.ref x0), .val (.ref x1), .val (.int i)] [])) _
  refine XS.aloadN X0.here hx rfl (hb hby d_jdk_43_method_13_15) rfl rfl ?_
  show Steps p.tables e below (T0.setTop (mkF m 16 #[.val (.ref x0), .val (.ref x1), .val (.int i)] [(.ref x0)])) _
  refine XS.iloadN X0.here hx rfl (hb hby d_jdk_43_method_13_16) rfl ?_
  show Steps p.tables e below (T0.setTop (mkF m 17 #[.val (.ref x0), .val (.ref x1), .val (.int i)] [(.int i), (.ref x0)])) _
  refine X0.baloadBytes hx (j := i) (v := (.int y)) (by rw [e0]; exact Ar2.1) (State.isArrayOf_alike hZ.alike Ar2.2.1) Ar2.2.2 hin2 hat2 (g := (mkF m 17 #[.val (.ref x0), .val (.ref x1), .val (.int i)] [(.int i), (.ref x0)])) rfl rfl (hb hby d_jdk_43_method_13_17) _ ?_
  show Steps p.tables e below (T0.setTop (mkF m 18 #[.val (.ref x0), .val (.ref x1), .val (.int i)] [(.int y)])) _
  refine XS.aloadN X0.here hx rfl (hb hby d_jdk_43_method_13_18) rfl rfl ?_
  show Steps p.tables e below (T0.setTop (mkF m 19 #[.val (.ref x0), .val (.ref x1), .val (.int i)] [(.ref x1), (.int y)])) _
  refine XS.iloadN X0.here hx rfl (hb hby d_jdk_43_method_13_19) rfl ?_
  show Steps p.tables e below (T0.setTop (mkF m 20 #[.val (.ref x0), .val (.ref x1), .val (.int i)] [(.int i), (.ref x1), (.int y)])) _
  refine X0.baloadBytes hx (j := i) (v := (.int y)) (by rw [e0]; exact Ar3.1) (State.isArrayOf_alike hZ.alike Ar3.2.1) Ar3.2.2 hin3 hat3 (g := (mkF m 20 #[.val (.ref x0), .val (.ref x1), .val (.int i)] [(.int i), (.ref x1), (.int y)])) rfl rfl (hb hby d_jdk_43_method_13_20) _ ?_
  show Steps p.tables e below (T0.setTop (mkF m 21 #[.val (.ref x0), .val (.ref x1), .val (.int i)] [(.int y), (.int y)])) _
  refine XS.icmpYes X0.here hx rfl (pc0 := 21) (pc' := 26) rfl (hb hby d_jdk_43_method_13_21) rfl (teq (rfl : y = y)).1 (by decide) (by decide) ?_
  show Steps p.tables e below (T0.setTop (mkF m 26 #[.val (.ref x0), .val (.ref x1), .val (.int i)] [])) _
  refine XS.iinc X0.here hx rfl (hb hby d_jdk_43_method_13_26) rfl (l' := #[.val (.ref x0), .val (.ref x1), .val (.int (i + (1 : Int32)))]) rfl ?_
  show Steps p.tables e below (T0.setTop (mkF m 29 #[.val (.ref x0), .val (.ref x1), .val (.int (i + (1 : Int32)))] [])) _
  refine XS.goto X0.here hx rfl (pc0 := 29) (pc' := 9) rfl (hb hby d_jdk_43_method_13_29) (by decide) (by decide) ?_
  exact kt
theorem rmLEl {p : Program} {l : Launch} {e : Env} {R : Room} {s : State} {m : MethodId} {args : Array Value} {below : List Frame} {meth : Method} {c : Code} {T0 : State} {locs : List Loc} {cells slots : Nat} {Z : State} {h0 : Heap} {x0 x1 : Addr} {k0 k1 : ClassId} {z : Int32} {vs : List Value} (X0 : Stand p l e R s m args below meth c T0 locs cells slots) (hx : p.tables.exec = Jvm.exec) (hZ : Z.Warmed39 s.vm) (hby : c.code = jdk_43_method_13_code) (e0 : T0.heap = h0) (V0 : Arv Z h0 x0 k0 .byte z vs (.int (0 : Int32))) (V1 : Arv Z h0 x1 k1 .byte z vs (.int (0 : Int32))) (hz : ¬ z < 0) (hall : ∀ i : Nat, i < z.toNatClampNeg → ∃ v : Int32, vs.getD i (.int (0 : Int32)) = .int v) (target : State) (kt : Steps p.tables e below (T0.setTop (mkF m 9 #[.val (.ref x0), .val (.ref x1), .val (.int z)] [])) target) : ∀ (j n : Nat), n + j = z.toNatClampNeg → Steps p.tables e below (T0.setTop (mkF m 9 #[.val (.ref x0), .val (.ref x1), .val (.int (Int32.ofNat n))] [])) target
  | 0, n, h => by rw [own_at hz (by omega)]; exact kt
  | j + 1, n, h => by
    obtain ⟨y, hy⟩ := hall n (by omega)
    refine rmLEt X0 hx hZ hby e0 V0 V1 (own_lti hz (by omega)) (by rw [own_clamp hz (by omega)]; exact hy) target ?_
    rw [own_succ hz (by omega)]
    exact rmLEl X0 hx hZ hby e0 V0 V1 hz hall target kt j (n + 1) (by omega)
theorem d_jdk_43_method_13_0 : decode jdk_43_method_13_code 0 = .ok (.aload_n 0, 1) := by decide +kernel
theorem d_jdk_43_method_13_1 : decode jdk_43_method_13_code 1 = .ok (.arraylength, 1) := by decide +kernel
theorem d_jdk_43_method_13_2 : decode jdk_43_method_13_code 2 = .ok (.aload_n 1, 1) := by decide +kernel
theorem d_jdk_43_method_13_3 : decode jdk_43_method_13_code 3 = .ok (.arraylength, 1) := by decide +kernel
theorem d_jdk_43_method_13_4 : decode jdk_43_method_13_code 4 = .ok (.if_icmp .ne 30, 3) := by decide +kernel
theorem d_jdk_43_method_13_7 : decode jdk_43_method_13_code 7 = .ok (.iconst 0, 1) := by decide +kernel
theorem d_jdk_43_method_13_8 : decode jdk_43_method_13_code 8 = .ok (.istore_n 2, 1) := by decide +kernel
theorem d_jdk_43_method_13_32 : decode jdk_43_method_13_code 32 = .ok (.iconst 1, 1) := by decide +kernel
theorem d_jdk_43_method_13_33 : decode jdk_43_method_13_code 33 = .ok (.ireturn, 1) := by decide +kernel
theorem ef_rmLE (m : MethodId) (x0 : Addr) (x1 : Addr) : entryFrame m #[(.ref x0), (.ref x1)] 3 = mkF m 0 #[.val (.ref x0), .val (.ref x1), .unset] [] := by first | (simp [entryFrame, mkF, argsToLocals, Value.category]; done) | rfl
def Q_rmLE (Z : State) (x0 : Addr) (x1 : Addr) (k0 : ClassId) (k1 : ClassId) (z : Int32) (vs : List Value) (h0 : Heap) (n0 : Nat) (v : Option Value) (h : Heap) (L : List Loc) : Prop := v = some (.int (1 : Int32)) ∧ Fr n0 L ∧ h = h0
set_option maxRecDepth 65536 in
set_option maxHeartbeats 40000000 in
theorem rmLE (l : Launch) (Z : State) (aw : Array Value) (hw : ∀ d ∈ tables_1, d.before aw Z = true) (ws : List Jvm.Cond) (x0 : Addr) (x1 : Addr) (k0 : ClassId) (k1 : ClassId) (z : Int32) (vs : List Value) (h0 : Heap) (n0 : Nat) (Z0 : n0 ≤ h0.size) (V0 : Arv Z h0 x0 k0 .byte z vs (.int (0 : Int32))) (V1 : Arv Z h0 x1 k1 .byte z vs (.int (0 : Int32))) (hz : ¬ z < 0) (hall : ∀ i : Nat, i < z.toNatClampNeg → ∃ v : Int32, vs.getD i (.int (0 : Int32)) = .int v) :
    MetFree l (⟨"java/lang/StringLatin1", "equals", "([B[B)Z"⟩ : MethodName) (head1 (Jvm.Cond.code (⟨"java/lang/StringLatin1", "equals", "([B[B)Z"⟩ : MethodName) jdk_43_method_13_code 3 (some .boolean) :: ws) ({ frames := 0, cells := 0, slots := 0, locals := 0 } : Room)) (fun a U => a = #[(.ref x0), (.ref x1)] ∧ Z.Warmed39 U.vm ∧ U.heap = h0) (fun _ _ _ _ _ => True) (fun _ U o U' => ∃ v L, o = .returned v ∧ Q_rmLE Z x0 x1 k0 k1 z vs h0 n0 v U'.heap L ∧ FrameEnd U o U' L ({ frames := 0, cells := 0, slots := 0, locals := 0 } : Room).cells ({ frames := 0, cells := 0, slots := 0, locals := 0 } : Room).slots) := by
  refine MetFree.of_bodySF (plainFor_of_name pn_java_lang_StringLatin1) hisR ?_
  intro p e s m args below meth cd s₁ Bd hml0 hP hK
  obtain ⟨rfl, hZ, hh⟩ := hP
  have hx := Bd.exec
  have hby := Bd.bytes
  have hml : cd.maxLocals = 3 := hml0
  have hown : s.vm.findClass "java/lang/StringLatin1" = some m.cls := findClass_of_methodNamed Bd.named
  have hnm := (name_of_methodNamed Bd.named Bd.method).1
  have X0 : Stand p l e ({ frames := 0, cells := 0, slots := 0, locals := 0 } : Room) s m #[(.ref x0), (.ref x1)] below meth cd s₁ [] 0 0 := Stand.of_body Bd
  have e0 : s₁.heap = h0 := by rw [← hh, Bd.state]; rfl
  have N0 := Fr.nil n0
  have pre0 : ∀ t, Steps p.tables e below (s₁.setTop (mkF m 0 #[.val (.ref x0), .val (.ref x1), .unset] [])) t → Steps p.tables e below (s₁.setTop (entryFrame m #[(.ref x0), (.ref x1)] 3)) t := fun t k => castTop (ef_rmLE m x0 x1) k
  have Vo1 := V0
  obtain ⟨cl1, Ar1, -, S1, Ng1, -, -⟩ := Vo1
  have Vo2 := V1
  obtain ⟨cl2, Ar2, -, S2, Ng2, -, -⟩ := Vo2
  have Vo3 := V0
  obtain ⟨cl3, Ar3, -, S3, Ng3, -, -⟩ := Vo3
  obtain ⟨fs, hr, hrun, hended, hW, hsame⟩ := X0.leave (v := some (.int (1 : Int32))) (fun h => by rw [Bd.returns] at h; cases h)
  refine ⟨_, _, pre0 _ ?_, hrun, hended, _, _, rfl, ?_, ⟨_, rfl⟩, hW, hsame.mono (by decide) (by decide)⟩
  · show Steps p.tables e below (s₁.setTop (mkF m 0 #[.val (.ref x0), .val (.ref x1), .unset] [])) _
    refine XS.aloadN X0.here hx rfl (hb hby d_jdk_43_method_13_0) rfl rfl ?_
    show Steps p.tables e below (s₁.setTop (mkF m 1 #[.val (.ref x0), .val (.ref x1), .unset] [(.ref x0)])) _
    refine X0.arraylength hx (by rw [e0]; exact Ar1.1) (State.isArrayOf_alike hZ.alike Ar1.2.1) (g := (mkF m 1 #[.val (.ref x0), .val (.ref x1), .unset] [(.ref x0)])) rfl rfl (hb hby d_jdk_43_method_13_1) _ ?_
    rw [len_of S1 Ng1]
    show Steps p.tables e below (s₁.setTop (mkF m 2 #[.val (.ref x0), .val (.ref x1), .unset] [(.int z)])) _
    refine XS.aloadN X0.here hx rfl (hb hby d_jdk_43_method_13_2) rfl rfl ?_
    show Steps p.tables e below (s₁.setTop (mkF m 3 #[.val (.ref x0), .val (.ref x1), .unset] [(.ref x1), (.int z)])) _
    refine X0.arraylength hx (by rw [e0]; exact Ar2.1) (State.isArrayOf_alike hZ.alike Ar2.2.1) (g := (mkF m 3 #[.val (.ref x0), .val (.ref x1), .unset] [(.ref x1), (.int z)])) rfl rfl (hb hby d_jdk_43_method_13_3) _ ?_
    rw [len_of S2 Ng2]
    show Steps p.tables e below (s₁.setTop (mkF m 4 #[.val (.ref x0), .val (.ref x1), .unset] [(.int z), (.int z)])) _
    refine XS.icmpNo X0.here hx rfl (hb hby d_jdk_43_method_13_4) rfl (teq (rfl : z = z)).2 ?_
    show Steps p.tables e below (s₁.setTop (mkF m 7 #[.val (.ref x0), .val (.ref x1), .unset] [])) _
    refine XS.iconst X0.here hx rfl (hb hby d_jdk_43_method_13_7) ?_
    show Steps p.tables e below (s₁.setTop (mkF m 8 #[.val (.ref x0), .val (.ref x1), .unset] [(.int (0 : Int32))])) _
    refine XS.istoreN X0.here hx rfl (hb hby d_jdk_43_method_13_8) rfl (l' := #[.val (.ref x0), .val (.ref x1), .val (.int (0 : Int32))]) rfl ?_
    show Steps p.tables e below (s₁.setTop (mkF m 9 #[.val (.ref x0), .val (.ref x1), .val (.int (0 : Int32))] [])) _
    refine rmLEl X0 hx hZ hby e0 V0 V1 hz hall _ ?_ z.toNatClampNeg 0 (Nat.zero_add _)
    show Steps p.tables e below (s₁.setTop (mkF m 9 #[.val (.ref x0), .val (.ref x1), .val (.int z)] [])) _
    refine XS.iloadN X0.here hx rfl (hb hby d_jdk_43_method_13_9) rfl ?_
    show Steps p.tables e below (s₁.setTop (mkF m 10 #[.val (.ref x0), .val (.ref x1), .val (.int z)] [(.int z)])) _
    refine XS.aloadN X0.here hx rfl (hb hby d_jdk_43_method_13_10) rfl rfl ?_
    show Steps p.tables e below (s₁.setTop (mkF m 11 #[.val (.ref x0), .val (.ref x1), .val (.int z)] [(.ref x0), (.int z)])) _
    refine X0.arraylength hx (by rw [e0]; exact Ar3.1) (State.isArrayOf_alike hZ.alike Ar3.2.1) (g := (mkF m 11 #[.val (.ref x0), .val (.ref x1), .val (.int z)] [(.ref x0), (.int z)])) rfl rfl (hb hby d_jdk_43_method_13_11) _ ?_
    rw [len_of S3 Ng3]
    show Steps p.tables e below (s₁.setTop (mkF m 12 #[.val (.ref x0), .val (.ref x1), .val (.int z)] [(.int z), (.int z)])) _
    refine XS.icmpYes X0.here hx rfl (pc0 := 12) (pc' := 32) rfl (hb hby d_jdk_43_method_13_12) rfl (flt (fun q => Int32.lt_irrefl q : ¬ (z < z))).2.1 (by decide) (by decide) ?_
    show Steps p.tables e below (s₁.setTop (mkF m 32 #[.val (.ref x0), .val (.ref x1), .val (.int z)] [])) _
    refine XS.iconst X0.here hx rfl (hb hby d_jdk_43_method_13_32) ?_
    show Steps p.tables e below (s₁.setTop (mkF m 33 #[.val (.ref x0), .val (.ref x1), .val (.int z)] [(.int (1 : Int32))])) _
    exact retN X0 hx (t := .boolean) Bd.returns (by simp) (hb hby d_jdk_43_method_13_33) hr
  · show Q_rmLE Z x0 x1 k0 k1 z vs h0 n0 _ s₁.heap _
    rw [e0]
    exact ⟨rfl, N0, rfl⟩
theorem d_jdk_42_method_66_0 : decode jdk_42_method_66_code 0 = .ok (.aload_n 0, 1) := by decide +kernel
theorem d_jdk_42_method_66_1 : decode jdk_42_method_66_code 1 = .ok (.aload_n 1, 1) := by decide +kernel
theorem d_jdk_42_method_66_2 : decode jdk_42_method_66_code 2 = .ok (.if_acmp .ne 5, 3) := by decide +kernel
theorem d_jdk_42_method_66_7 : decode jdk_42_method_66_code 7 = .ok (.aload_n 1, 1) := by decide +kernel
theorem d_jdk_42_method_66_8 : decode jdk_42_method_66_code 8 = .ok (.instanceof 10, 3) := by decide +kernel
theorem d_jdk_42_method_66_11 : decode jdk_42_method_66_code 11 = .ok (.ifCond .eq 43, 3) := by decide +kernel
theorem d_jdk_42_method_66_14 : decode jdk_42_method_66_code 14 = .ok (.aload_n 1, 1) := by decide +kernel
theorem d_jdk_42_method_66_15 : decode jdk_42_method_66_code 15 = .ok (.checkcast 10, 3) := by decide +kernel
theorem d_jdk_42_method_66_18 : decode jdk_42_method_66_code 18 = .ok (.astore_n 2, 1) := by decide +kernel
theorem d_jdk_42_method_66_19 : decode jdk_42_method_66_code 19 = .ok (.getstatic 38, 3) := by decide +kernel
theorem d_jdk_42_method_66_22 : decode jdk_42_method_66_code 22 = .ok (.ifCond .eq 14, 3) := by decide +kernel
theorem d_jdk_42_method_66_25 : decode jdk_42_method_66_code 25 = .ok (.aload_n 0, 1) := by decide +kernel
theorem d_jdk_42_method_66_26 : decode jdk_42_method_66_code 26 = .ok (.getfield 15, 3) := by decide +kernel
theorem d_jdk_42_method_66_29 : decode jdk_42_method_66_code 29 = .ok (.aload_n 2, 1) := by decide +kernel
theorem d_jdk_42_method_66_30 : decode jdk_42_method_66_code 30 = .ok (.getfield 15, 3) := by decide +kernel
theorem d_jdk_42_method_66_33 : decode jdk_42_method_66_code 33 = .ok (.if_icmp .ne 21, 3) := by decide +kernel
theorem d_jdk_42_method_66_36 : decode jdk_42_method_66_code 36 = .ok (.aload_n 0, 1) := by decide +kernel
theorem d_jdk_42_method_66_37 : decode jdk_42_method_66_code 37 = .ok (.getfield 9, 3) := by decide +kernel
theorem d_jdk_42_method_66_40 : decode jdk_42_method_66_code 40 = .ok (.aload_n 2, 1) := by decide +kernel
theorem d_jdk_42_method_66_41 : decode jdk_42_method_66_code 41 = .ok (.getfield 9, 3) := by decide +kernel
theorem d_jdk_42_method_66_44 : decode jdk_42_method_66_code 44 = .ok (.invokestatic 541, 3) := by decide +kernel
theorem d_jdk_42_method_66_47 : decode jdk_42_method_66_code 47 = .ok (.ifCond .eq 7, 3) := by decide +kernel
theorem d_jdk_42_method_66_50 : decode jdk_42_method_66_code 50 = .ok (.iconst 1, 1) := by decide +kernel
theorem d_jdk_42_method_66_51 : decode jdk_42_method_66_code 51 = .ok (.goto 4, 3) := by decide +kernel
theorem d_jdk_42_method_66_55 : decode jdk_42_method_66_code 55 = .ok (.ireturn, 1) := by decide +kernel
theorem pd___B_B_Z : parseMethodDescriptor "([B[B)Z" = some ⟨[(.array .byte), (.array .byte)], some .boolean⟩ := by decide +kernel
theorem ef_rmE (m : MethodId) (a0 : Addr) (a1 : Addr) : entryFrame m #[(.ref a0), (.ref a1)] 3 = mkF m 0 #[.val (.ref a0), .val (.ref a1), .unset] [] := by first | (simp [entryFrame, mkF, argsToLocals, Value.category]; done) | rfl
def Q_rmE (Z : State) (a0 : Addr) (a1 : Addr) (x0 : Addr) (x1 : Addr) (k0 : ClassId) (k1 : ClassId) (z : Int32) (vs : List Value) (cs : Int32) (h0 : Heap) (n0 : Nat) (v : Option Value) (h : Heap) (L : List Loc) : Prop := v = some (.int (1 : Int32)) ∧ Fr n0 L ∧ h = h0
set_option maxRecDepth 65536 in
set_option maxHeartbeats 40000000 in
theorem rmE (l : Launch) (Z : State) (aw : Array Value) (hw : ∀ d ∈ tables_1, d.before aw Z = true) (ws : List Jvm.Cond) (a0 : Addr) (a1 : Addr) (x0 : Addr) (x1 : Addr) (k0 : ClassId) (k1 : ClassId) (z : Int32) (vs : List Value) (cs : Int32) (h0 : Heap) (n0 : Nat) (Z0 : n0 ≤ h0.size) (E1 : Exa Z h0 a1 "java/lang/String") (Sk0 : Fld Z h0 a0 "java/lang/String" "coder" "B" (.int (0 : Int32))) (Sk1 : Fld Z h0 a1 "java/lang/String" "coder" "B" (.int (0 : Int32))) (Sv0 : Fld Z h0 a0 "java/lang/String" "value" "[B" (.ref x0)) (Sv1 : Fld Z h0 a1 "java/lang/String" "value" "[B" (.ref x1)) (V0 : Arv Z h0 x0 k0 .byte z vs (.int (0 : Int32))) (V1 : Arv Z h0 x1 k1 .byte z vs (.int (0 : Int32))) (S0 : Sta Z h0 "java/lang/String" "COMPACT_STRINGS" "Z" (.int cs)) (hz : ¬ z < 0) (hall : ∀ i : Nat, i < z.toNatClampNeg → ∃ v : Int32, vs.getD i (.int (0 : Int32)) = .int v) (hna : ¬ (.ref a0 : Value) = .ref a1) (hcs : ¬ (cs = (0 : Int32))) :
    MetFree l (⟨"java/lang/String", "equals", "(Ljava/lang/Object;)Z"⟩ : MethodName) (head1 (Jvm.Cond.code (⟨"java/lang/String", "equals", "(Ljava/lang/Object;)Z"⟩ : MethodName) jdk_42_method_66_code 3 (some .boolean) :: ws) ({ frames := 1, cells := 0, slots := 0, locals := 14 } : Room)) (fun a U => a = #[(.ref a0), (.ref a1)] ∧ Z.Warmed39 U.vm ∧ U.heap = h0) (fun _ _ _ _ _ => True) (fun _ U o U' => ∃ v L, o = .returned v ∧ Q_rmE Z a0 a1 x0 x1 k0 k1 z vs cs h0 n0 v U'.heap L ∧ FrameEnd U o U' L ({ frames := 1, cells := 0, slots := 0, locals := 14 } : Room).cells ({ frames := 1, cells := 0, slots := 0, locals := 14 } : Room).slots) := by
  refine MetFree.of_bodySF (plainFor_of_name pn_java_lang_String) hisR ?_
  intro p e s m args below meth cd s₁ Bd hml0 hP hK
  obtain ⟨rfl, hZ, hh⟩ := hP
  have hx := Bd.exec
  have hby := Bd.bytes
  have hml : cd.maxLocals = 3 := hml0
  have hown : s.vm.findClass "java/lang/String" = some m.cls := findClass_of_methodNamed Bd.named
  have hnm := (name_of_methodNamed Bd.named Bd.method).1
  have X0 : Stand p l e ({ frames := 1, cells := 0, slots := 0, locals := 14 } : Room) s m #[(.ref a0), (.ref a1)] below meth cd s₁ [] 0 0 := Stand.of_body Bd
  have e0 : s₁.heap = h0 := by rw [← hh, Bd.state]; rfl
  have N0 := Fr.nil n0
  have pre0 : ∀ t, Steps p.tables e below (s₁.setTop (mkF m 0 #[.val (.ref a0), .val (.ref a1), .unset] [])) t → Steps p.tables e below (s₁.setTop (entryFrame m #[(.ref a0), (.ref a1)] 3)) t := fun t k => castTop (ef_rmE m a0 a1) k
  obtain ⟨T1, X1, e1, st1⟩ := instY X0 hx hZ hown (hw _ (List.mem_of_getElem? (i := 171) rfl)) e0 (Ins.self E1) (g := (mkF m 8 #[.val (.ref a0), .val (.ref a1), .unset] [(.ref a1)])) rfl rfl (hb hby d_jdk_42_method_66_8)
  obtain ⟨T2, X2, e2, st2⟩ := castY X1 hx hZ hown (hw _ (List.mem_of_getElem? (i := 171) rfl)) e1 (Ins.self E1) (g := (mkF m 15 #[.val (.ref a0), .val (.ref a1), .unset] [(.ref a1)])) rfl rfl (hb hby d_jdk_42_method_66_15)
  obtain ⟨T3, X3, e3, st3⟩ := getS2 X2 hx hZ hown (host := "") (Or.inl (hw _ (List.mem_of_getElem? (i := 71) rfl))) Via.refl e2 S0 (g := (mkF m 19 #[.val (.ref a0), .val (.ref a1), .val (.ref a1)] [])) rfl (hb hby d_jdk_42_method_66_19)
  obtain ⟨T4, X4, e4, st4⟩ := getF X3 hx hZ hown (host := "") (Or.inl (hw _ (List.mem_of_getElem? (i := 72) rfl))) Via.refl e3 Sk0 (g := (mkF m 26 #[.val (.ref a0), .val (.ref a1), .val (.ref a1)] [(.ref a0)])) rfl rfl (hb hby d_jdk_42_method_66_26)
  obtain ⟨T5, X5, e5, st5⟩ := getF X4 hx hZ hown (host := "") (Or.inl (hw _ (List.mem_of_getElem? (i := 72) rfl))) Via.refl e4 Sk1 (g := (mkF m 30 #[.val (.ref a0), .val (.ref a1), .val (.ref a1)] [(.ref a1), (.int (0 : Int32))])) rfl rfl (hb hby d_jdk_42_method_66_30)
  obtain ⟨T6, X6, e6, st6⟩ := getF X5 hx hZ hown (host := "") (Or.inl (hw _ (List.mem_of_getElem? (i := 65) rfl))) Via.refl e5 Sv0 (g := (mkF m 37 #[.val (.ref a0), .val (.ref a1), .val (.ref a1)] [(.ref a0)])) rfl rfl (hb hby d_jdk_42_method_66_37)
  obtain ⟨T7, X7, e7, st7⟩ := getF X6 hx hZ hown (host := "") (Or.inl (hw _ (List.mem_of_getElem? (i := 65) rfl))) Via.refl e6 Sv1 (g := (mkF m 41 #[.val (.ref a0), .val (.ref a1), .val (.ref a1)] [(.ref a1), (.ref x0)])) rfl rfl (hb hby d_jdk_42_method_66_41)
  obtain ⟨_, _, ⟨T8, L8, k8, n8⟩, -, X8, ⟨Lc8, hQ8, l8, y8, z8⟩, st8⟩ := Jvm.LawKit.callS X7 hx (y := (⟨"java/lang/StringLatin1", "equals", "([B[B)Z"⟩ : MethodName)) hown (mvT hZ (hw _ (List.mem_of_getElem? (i := 172) rfl))) (mvT hZ (hw _ (List.mem_of_getElem? (i := 173) rfl))) (mvT hZ (hw _ (List.mem_of_getElem? (i := 116) rfl))) (mvT hZ (hw _ (List.mem_of_getElem? (i := 174) rfl))) (by decide) (backOf (W := 0) (rmLE l Z aw hw [] x0 x1 k0 k1 z vs h0 n0 Z0 V0 V1 hz hall) hZ (hw _ (List.mem_of_getElem? (i := 174) rfl)) (hw _ (List.mem_of_getElem? (i := 116) rfl)) (by decide) (by decide)) (g := (mkF m 44 #[.val (.ref a0), .val (.ref a1), .val (.ref a1)] [(.ref x1), (.ref x0)])) rfl (by rw [hml]; rfl) (argsL := [(.ref x0), (.ref x1)]) (rest := []) (lenOf pd___B_B_Z rfl) rfl (by show 2 * 0 + _ ≤ _; exact Nat.le_of_eq rfl) (hb hby d_jdk_42_method_66_44) (fun _ _ => ⟨rfl, e7, (by decide : 0 + 0 ≤ _), (by decide : 0 + 0 ≤ _)⟩)
  dsimp only [Pt.U, Pt.locs, Pt.cells, Pt.slots] at X8 l8 y8 z8 st8 hQ8
  subst l8 y8 z8
  obtain ⟨rfl, N8q, q8⟩ := hQ8
  have N8 := Fr.app N0 N8q
  obtain ⟨fs, hr, hrun, hended, hW, hsame⟩ := X8.leave (v := some (.int (1 : Int32))) (fun h => by rw [Bd.returns] at h; cases h)
  refine ⟨_, _, pre0 _ ?_, hrun, hended, _, _, rfl, ?_, ⟨_, rfl⟩, hW, hsame.mono (by decide) (by decide)⟩
  · show Steps p.tables e below (s₁.setTop (mkF m 0 #[.val (.ref a0), .val (.ref a1), .unset] [])) _
    refine XS.aloadN X0.here hx rfl (hb hby d_jdk_42_method_66_0) rfl rfl ?_
    show Steps p.tables e below (s₁.setTop (mkF m 1 #[.val (.ref a0), .val (.ref a1), .unset] [(.ref a0)])) _
    refine XS.aloadN X0.here hx rfl (hb hby d_jdk_42_method_66_1) rfl rfl ?_
    show Steps p.tables e below (s₁.setTop (mkF m 2 #[.val (.ref a0), .val (.ref a1), .unset] [(.ref a1), (.ref a0)])) _
    refine Jvm.RoadKit.acmp (g := (mkF m 2 #[.val (.ref a0), .val (.ref a1), .unset] [(.ref a1), (.ref a0)])) X0 hx rfl rfl rfl (pc0 := 2) (pc' := 7) (same := false) rfl (hb hby d_jdk_42_method_66_2) rfl (decide_eq_false (hna : ¬ ((.ref a0) : Value) = (.ref a1))) (by decide) (by decide) ?_
    show Steps p.tables e below (s₁.setTop (mkF m 7 #[.val (.ref a0), .val (.ref a1), .unset] [])) _
    refine XS.aloadN X0.here hx rfl (hb hby d_jdk_42_method_66_7) rfl rfl ?_
    show Steps p.tables e below (s₁.setTop (mkF m 8 #[.val (.ref a0), .val (.ref a1), .unset] [(.ref a1)])) _
    refine st1 _ ?_
    show Steps p.tables e below (T1.setTop (mkF m 11 #[.val (.ref a0), .val (.ref a1), .unset] [(.int (1 : Int32))])) _
    refine XS.ifNo X1.here hx rfl (hb hby d_jdk_42_method_66_11) rfl ((if0 _ _).trans (feq (by decide : ¬ ((1 : Int32) = (0 : Int32)))).1) ?_
    show Steps p.tables e below (T1.setTop (mkF m 14 #[.val (.ref a0), .val (.ref a1), .unset] [])) _
    refine XS.aloadN X1.here hx rfl (hb hby d_jdk_42_method_66_14) rfl rfl ?_
    show Steps p.tables e below (T1.setTop (mkF m 15 #[.val (.ref a0), .val (.ref a1), .unset] [(.ref a1)])) _
    refine st2 _ ?_
    show Steps p.tables e below (T2.setTop (mkF m 18 #[.val (.ref a0), .val (.ref a1), .unset] [(.ref a1)])) _
    refine XS.astoreN X2.here hx rfl (hb hby d_jdk_42_method_66_18) rfl rfl (l' := #[.val (.ref a0), .val (.ref a1), .val (.ref a1)]) rfl ?_
    show Steps p.tables e below (T2.setTop (mkF m 19 #[.val (.ref a0), .val (.ref a1), .val (.ref a1)] [])) _
    refine st3 _ ?_
    show Steps p.tables e below (T3.setTop (mkF m 22 #[.val (.ref a0), .val (.ref a1), .val (.ref a1)] [(.int cs)])) _
    refine XS.ifNo X3.here hx rfl (hb hby d_jdk_42_method_66_22) rfl ((if0 _ _).trans (feq (hcs : ¬ (cs = (0 : Int32)))).1) ?_
    show Steps p.tables e below (T3.setTop (mkF m 25 #[.val (.ref a0), .val (.ref a1), .val (.ref a1)] [])) _
    refine XS.aloadN X3.here hx rfl (hb hby d_jdk_42_method_66_25) rfl rfl ?_
    show Steps p.tables e below (T3.setTop (mkF m 26 #[.val (.ref a0), .val (.ref a1), .val (.ref a1)] [(.ref a0)])) _
    refine st4 _ ?_
    show Steps p.tables e below (T4.setTop (mkF m 29 #[.val (.ref a0), .val (.ref a1), .val (.ref a1)] [(.int (0 : Int32))])) _
    refine XS.aloadN X4.here hx rfl (hb hby d_jdk_42_method_66_29) rfl rfl ?_
    show Steps p.tables e below (T4.setTop (mkF m 30 #[.val (.ref a0), .val (.ref a1), .val (.ref a1)] [(.ref a1), (.int (0 : Int32))])) _
    refine st5 _ ?_
    show Steps p.tables e below (T5.setTop (mkF m 33 #[.val (.ref a0), .val (.ref a1), .val (.ref a1)] [(.int (0 : Int32)), (.int (0 : Int32))])) _
    refine XS.icmpNo X5.here hx rfl (hb hby d_jdk_42_method_66_33) rfl (teq (rfl : (0 : Int32) = (0 : Int32))).2 ?_
    show Steps p.tables e below (T5.setTop (mkF m 36 #[.val (.ref a0), .val (.ref a1), .val (.ref a1)] [])) _
    refine XS.aloadN X5.here hx rfl (hb hby d_jdk_42_method_66_36) rfl rfl ?_
    show Steps p.tables e below (T5.setTop (mkF m 37 #[.val (.ref a0), .val (.ref a1), .val (.ref a1)] [(.ref a0)])) _
    refine st6 _ ?_
    show Steps p.tables e below (T6.setTop (mkF m 40 #[.val (.ref a0), .val (.ref a1), .val (.ref a1)] [(.ref x0)])) _
    refine XS.aloadN X6.here hx rfl (hb hby d_jdk_42_method_66_40) rfl rfl ?_
    show Steps p.tables e below (T6.setTop (mkF m 41 #[.val (.ref a0), .val (.ref a1), .val (.ref a1)] [(.ref a1), (.ref x0)])) _
    refine st7 _ ?_
    show Steps p.tables e below (T7.setTop (mkF m 44 #[.val (.ref a0), .val (.ref a1), .val (.ref a1)] [(.ref x1), (.ref x0)])) _
    refine st8 _ ?_
    show Steps p.tables e below (T8.setTop (mkF m 47 #[.val (.ref a0), .val (.ref a1), .val (.ref a1)] [(.int (1 : Int32))])) _
    refine XS.ifNo X8.here hx rfl (hb hby d_jdk_42_method_66_47) rfl ((if0 _ _).trans (feq (by decide : ¬ ((1 : Int32) = (0 : Int32)))).1) ?_
    show Steps p.tables e below (T8.setTop (mkF m 50 #[.val (.ref a0), .val (.ref a1), .val (.ref a1)] [])) _
    refine XS.iconst X8.here hx rfl (hb hby d_jdk_42_method_66_50) ?_
    show Steps p.tables e below (T8.setTop (mkF m 51 #[.val (.ref a0), .val (.ref a1), .val (.ref a1)] [(.int (1 : Int32))])) _
    refine XS.goto X8.here hx rfl (pc0 := 51) (pc' := 55) rfl (hb hby d_jdk_42_method_66_51) (by decide) (by decide) ?_
    show Steps p.tables e below (T8.setTop (mkF m 55 #[.val (.ref a0), .val (.ref a1), .val (.ref a1)] [(.int (1 : Int32))])) _
    exact retN X8 hx (t := .boolean) Bd.returns (by simp) (hb hby d_jdk_42_method_66_55) hr
  · show Q_rmE Z a0 a1 x0 x1 k0 k1 z vs cs h0 n0 _ T8.heap _
    rw [q8]
    exact ⟨rfl, N8, rfl⟩
theorem own_hall0 : ∀ i : Nat, i < (9 : Int32).toNatClampNeg → ∃ v : Int32, ([(.int (110 : Int32)), (.int (117 : Int32)), (.int (108 : Int32)), (.int (108 : Int32)), (.int (44 : Int32)), (.int (110 : Int32)), (.int (117 : Int32)), (.int (108 : Int32)), (.int (108 : Int32))] : List Value).getD i (.int (0 : Int32)) = .int v := fun i hi => own_ints _ i (by decide)
theorem own_hall1 : ∀ i : Nat, i < (10 : Int32).toNatClampNeg → ∃ v : Int32, ([(.int (91 : Int32)), (.int (110 : Int32)), (.int (117 : Int32)), (.int (108 : Int32)), (.int (108 : Int32)), (.int (44 : Int32)), (.int (110 : Int32)), (.int (117 : Int32)), (.int (108 : Int32)), (.int (108 : Int32))] : List Value).getD i (.int (0 : Int32)) = .int v := fun i hi => own_ints _ i (by decide)
theorem own_hall2 : ∀ i : Nat, i < (12 : Int32).toNatClampNeg → ∃ v : Int32, ([(.int (91 : Int32)), (.int (93 : Int32)), (.int (44 : Int32)), (.int (110 : Int32)), (.int (117 : Int32)), (.int (108 : Int32)), (.int (108 : Int32)), (.int (44 : Int32)), (.int (110 : Int32)), (.int (117 : Int32)), (.int (108 : Int32)), (.int (108 : Int32))] : List Value).getD i (.int (0 : Int32)) = .int v := fun i hi => own_ints _ i (by decide)
theorem own_hall3 : ∀ i : Nat, i < (14 : Int32).toNatClampNeg → ∃ v : Int32, ([(.int (123 : Int32)), (.int (34 : Int32)), (.int (97 : Int32)), (.int (34 : Int32)), (.int (58 : Int32)), (.int (110 : Int32)), (.int (117 : Int32)), (.int (108 : Int32)), (.int (108 : Int32)), (.int (44 : Int32)), (.int (110 : Int32)), (.int (117 : Int32)), (.int (108 : Int32)), (.int (108 : Int32))] : List Value).getD i (.int (0 : Int32)) = .int v := fun i hi => own_ints _ i (by decide)
theorem own_hall4 : ∀ i : Nat, i < (13 : Int32).toNatClampNeg → ∃ v : Int32, ([(.int (91 : Int32)), (.int (91 : Int32)), (.int (93 : Int32)), (.int (44 : Int32)), (.int (110 : Int32)), (.int (117 : Int32)), (.int (108 : Int32)), (.int (108 : Int32)), (.int (44 : Int32)), (.int (110 : Int32)), (.int (117 : Int32)), (.int (108 : Int32)), (.int (108 : Int32))] : List Value).getD i (.int (0 : Int32)) = .int v := fun i hi => own_ints _ i (by decide)
theorem pn_latentrace_io_JsonWriterNullValuePinLaw : plainName "latentrace/io/JsonWriterNullValuePinLaw" = true := by first | (simp [plainName, overriddenIn]; done) | decide +kernel
theorem pd___Llatentrace_io_JsonWriter_ : parseMethodDescriptor "()Llatentrace/io/JsonWriter;" = some ⟨[], some (.object "latentrace/io/JsonWriter")⟩ := by decide +kernel
theorem pd__Ljava_lang_Object__Z : parseMethodDescriptor "(Ljava/lang/Object;)Z" = some ⟨[(.object "java/lang/Object")], some .boolean⟩ := by decide +kernel
theorem ef_rm0_0 (m : MethodId) (p0 : Int32) : entryFrame m #[(.int p0)] maxLocals = mkF m 0 #[.val (.int p0), .unset, .unset, .unset, .unset, .unset] [] := by first | (simp [entryFrame, mkF, argsToLocals, Value.category, maxLocals]; done) | rfl
def Q0_0 (Z : State) (p0 : Int32) (fm : Value) (cs : Int32) (h0 : Heap) (n0 : Nat) (v : Option Value) (h : Heap) (L : List Loc) : Prop := v = some (.int (1 : Int32)) ∧ Fr n0 L
set_option maxRecDepth 65536 in
set_option maxHeartbeats 40000000 in
theorem rm0_0 (l : Launch) (Z : State) (aw : Array Value) (hw : ∀ d ∈ tables_1, d.before aw Z = true) (ws : List Jvm.Cond) (p0 : Int32) (fm : Value) (cs : Int32) (h0 : Heap) (n0 : Nat) (Z0 : n0 ≤ h0.size) (SF : Sta Z h0 "jdk/internal/util/Preconditions" "SIOOBE_FORMATTER" "Ljava/util/function/BiFunction;" fm) (S0 : Sta Z h0 "java/lang/String" "COMPACT_STRINGS" "Z" (.int cs)) (hfm : fm.isRef = true) (hcs : ¬ (cs = (0 : Int32))) (hm : ((p0 &&& (2147483647 : Int32)) - (p0 &&& (2147483647 : Int32)) / (5 : Int32) * (5 : Int32)) = (0 : Int32)) :
    MetFree l x (head1 (Jvm.Cond.code x code maxLocals ret :: ws) room_1) (fun a U => a = #[(.int p0)] ∧ Z.Warmed39 U.vm ∧ U.heap = h0 ∧ CHv Z consts_1 U.vm h0) (fun _ _ _ _ _ => True) (fun _ U o U' => ∃ v L, o = .returned v ∧ Q0_0 Z p0 fm cs h0 n0 v U'.heap L ∧ CHr Z consts_1 U.vm U.heap U'.vm U'.heap ∧ ReturnedEndW U o U' L room_1.cells room_1.slots) := by
  refine MetFree.of_bodySF (plainFor_of_name pn_latentrace_io_JsonWriterNullValuePinLaw) hisR ?_
  intro p e s m args below meth cd s₁ Bd hml0 hP hK
  obtain ⟨rfl, hZ, hh, hCH⟩ := hP
  have hx := Bd.exec
  have hby := Bd.bytes
  have hml : cd.maxLocals = 6 := hml0
  have hown : s.vm.findClass "latentrace/io/JsonWriterNullValuePinLaw" = some m.cls := findClass_of_methodNamed Bd.named
  have hnm := (name_of_methodNamed Bd.named Bd.method).1
  have X0 : Stand p l e room_1 (s.setVm s.vm) m #[(.int p0)] below meth cd s₁ [] 0 0 := Stand.of_body Bd
  have e0 : s₁.heap = h0 := by rw [← hh, Bd.state]; rfl
  have N0 := Fr.nil n0
  have pre0 : ∀ t, Steps p.tables e below (s₁.setTop (mkF m 0 #[.val (.int p0), .unset, .unset, .unset, .unset, .unset] [])) t → Steps p.tables e below (s₁.setTop (entryFrame m #[(.int p0)] maxLocals)) t := fun t k => castTop (ef_rm0_0 m p0) k
  have hZ_0 := hZ
  have hown_0 := hown
  have hS0 : s.Since s.vm 0 := (State.WarmedH.refl s).since 0
  have hk0 : 0 ≤ h0.size := Nat.zero_le _
  have R0 : CHr Z consts_1 s.vm h0 s.vm h0 := CHr.refl hCH
  obtain ⟨T1, h1, X1, e1, E1, A1, D1, -, st1⟩ := newO X0 hx hZ hown (hw _ (List.mem_of_getElem? (i := 1) rfl)) (hw _ (List.mem_of_getElem? (i := 2) rfl)) (hw _ (List.mem_of_getElem? (i := 3) rfl)) e0 (g := (mkF m 7 #[.val (.int p0), .val (.int (0 : Int32)), .unset, .unset, .unset, .unset] [])) rfl (hb hby at_7) (by decide) (by decide)
  obtain ⟨b1, g1⟩ : ∃ z, z = h0.size := ⟨_, rfl⟩
  rw [← g1] at A1 D1 st1
  have g_b1 : n0 ≤ b1 := Nat.le_trans Z0 (Nat.le_of_eq g1.symm)
  have sz_b1 : h0.size ≤ b1 := Nat.le_trans (Keep.refl h0 []).1 (Nat.le_of_eq g1.symm)
  have S0__1 := S0.ext E1
  have SF__1 := SF.ext E1
  have K1 : Keep h0 h1 [] := (Keep.refl h0 []).ext E1
  have Zs1 : n0 ≤ h1.size := Nat.le_trans Z0 E1.1
  have hk1 := Nat.le_trans hk0 E1.1
  have R1 := R0.trans (CHr.ext E1 R0.1)
  have F_text_b1 : Fld Z h1 b1 "latentrace/io/JsonWriter" "text" "Ljava/lang/StringBuilder;" .null := D1 (Or.inr (hw _ (List.mem_of_getElem? (i := 31) rfl))) (ty := (.object "java/lang/StringBuilder")) (by decide)
  have F_afterValue_b1 : Fld Z h1 b1 "latentrace/io/JsonWriter" "afterValue" "Z" (.int (0 : Int32)) := D1 (Or.inl (hw _ (List.mem_of_getElem? (i := 48) rfl))) (ty := .boolean) (by decide)
  obtain ⟨_, _, ⟨T2, L2, k2, n2⟩, -, X2, ⟨Lc2, hQ2, l2, y2, z2⟩, st2⟩ := X1.specialBack hx (y := (⟨"latentrace/io/JsonWriter", "<init>", "()V"⟩ : MethodName)) rfl hown (mvT hZ (hw _ (List.mem_of_getElem? (i := 4) rfl))) (mvT hZ (hw _ (List.mem_of_getElem? (i := 5) rfl))) (mvT hZ (hw _ (List.mem_of_getElem? (i := 6) rfl))) (by decide) (backOf (W := 1) (rmJInit l Z aw hw [] b1 .null cs h1 n0 Zs1 A1 g_b1 F_text_b1 F_afterValue_b1 S0__1 hcs) hZ (hw _ (List.mem_of_getElem? (i := 6) rfl)) (hw _ (List.mem_of_getElem? (i := 3) rfl)) (by decide) (by decide)) (g := (mkF m 11 #[.val (.int p0), .val (.int (0 : Int32)), .unset, .unset, .unset, .unset] [(.ref b1), (.ref b1)])) rfl (by rw [hml]; rfl) (Steps.refl _) (a := b1) (argsL := []) (rest := [(.ref b1)]) (lenOf pd___V rfl) rfl (by show 2 * 0 + _ ≤ _; exact Nat.le_of_eq rfl) (hb hby at_11) (fun _ _ => ⟨rfl, e1, (by decide : 1 + 2 ≤ _), (by decide : 2 + 20 ≤ _)⟩)
  dsimp only [Pt.U, Pt.locs, Pt.cells, Pt.slots] at X2 l2 y2 z2 st2 hQ2
  subst l2 y2 z2
  obtain ⟨sb, b, k, rfl, N2q, gsb, gb, Kc2, Ej2, Ft2, Fa2, Ec2, Fv2, Fk2, Fn2, Vb2⟩ := hQ2
  have N2 := Fr.app N0 N2q
  have sz_sb : h0.size ≤ sb := Nat.le_trans K1.1 gsb
  have g_sb : n0 ≤ sb := Nat.le_trans Zs1 gsb
  have sz_b : h0.size ≤ b := Nat.le_trans K1.1 gb
  have g_b : n0 ≤ b := Nat.le_trans Zs1 gb
  have S0__2 := own_sta_keep S0__1 Kc2 (nsS (A1.nostat) ns0)
  have SF__2 := own_sta_keep SF__1 Kc2 (nsS (A1.nostat) ns0)
  have KK2 : Keep h0 T2.heap [] := Keep.trans K1 Kc2 (fun x q => by cases List.mem_singleton.mp q; exact (Or.inr sz_b1))
  have Zs2 : n0 ≤ T2.heap.size := Nat.le_trans Zs1 Kc2.1
  have R2 := R1.trans (CHr.keep Kc2 (sfS (Safe.exa hZ.alike A1 (by decide) (by decide)) sf0) R1.1)
  have hk2 := Nat.le_trans hk1 Kc2.1
  obtain ⟨a3, T3, h3, k3, d3, kd3, X3, e3, E3, hS3, hk3, hZ, hown, Es3, Sk3, Sv3, W3, la3, lb3, Rl3, -, -, st3⟩ := ldcCH X2 hx hZ hown (hw _ (List.mem_of_getElem? (i := 32) rfl)) (own_strs hw) rfl hS0 hk2 (own_ew hw) (List.mem_of_getElem? (i := 1) rfl) R2.1 (vs := [(.int (110 : Int32)), (.int (117 : Int32)), (.int (108 : Int32)), (.int (108 : Int32)), (.int (44 : Int32)), (.int (110 : Int32)), (.int (117 : Int32)), (.int (108 : Int32)), (.int (108 : Int32))]) (z := (9 : Int32)) ⟨by decide, by rfl⟩ (by decide) (by decide) (g := (mkF m 19 #[.val (.int p0), .val (.int (0 : Int32)), .val (.ref b1), .unset, .unset, .unset] [])) rfl (hb hby at_19) (n := 36) (by decide) (by decide) (by decide) (by decide)
  have hZ_3 := hZ
  have hown_3 := hown
  have S0__3 := S0__2.ext E3
  have SF__3 := SF__2.ext E3
  have Ec2__3 := Ec2.ext E3
  have Fv2__3 := Fv2.ext E3
  have Fk2__3 := Fk2.ext E3
  have Fn2__3 := Fn2.ext E3
  have Vb2__3 := Vb2.ext E3
  have Ej2__3 := Ej2.ext E3
  have Ft2__3 := Ft2.ext E3
  have Fa2__3 := Fa2.ext E3
  have K3 : Keep h0 h3 [] := KK2.ext E3
  have Zs3 : n0 ≤ h3.size := Nat.le_trans Zs2 E3.1
  have R3 := R2.trans Rl3
  obtain ⟨cq4, kq4, q4a, q4b, q4c⟩ := isOf hZ e3 Ej2__3
  obtain ⟨_, _, ⟨T4, L4, k4, n4⟩, -, X4, hs4, hg4, ⟨Lc4, hQ4, l4, y4, z4, Rc4⟩, st4⟩ := X3.virtualBackS hx (y := (⟨"latentrace/io/JsonWriter", "nullValue", "()Llatentrace/io/JsonWriter;"⟩ : MethodName)) (z := (⟨"latentrace/io/JsonWriter", "nullValue", "()Llatentrace/io/JsonWriter;"⟩ : MethodName)) hown (mvT hZ (hw _ (List.mem_of_getElem? (i := 38) rfl))) (mvT hZ (hw _ (List.mem_of_getElem? (i := 39) rfl))) (notFace_of_selects (args := #[]) (mvT hZ (hw _ (List.mem_of_getElem? (i := 41) rfl)))) (mvT hZ (hw _ (List.mem_of_getElem? (i := 41) rfl))) (mvT hZ (hw _ (List.mem_of_getElem? (i := 40) rfl))) (by decide) (backOfSH (W := 0) (rmNull0 l Z aw hw [] b1  sb b k (0 : Int32) [(.int (0 : Int32)), (.int (0 : Int32)), (.int (0 : Int32)), (.int (0 : Int32)), (.int (0 : Int32)), (.int (0 : Int32)), (.int (0 : Int32)), (.int (0 : Int32)), (.int (0 : Int32)), (.int (0 : Int32)), (.int (0 : Int32)), (.int (0 : Int32)), (.int (0 : Int32)), (.int (0 : Int32)), (.int (0 : Int32)), (.int (0 : Int32))]  cs h3 n0 Zs3 Ej2__3 g_b1 Ft2__3 Fa2__3 Ec2__3 g_sb Fv2__3 Fk2__3 Fn2__3 Vb2__3 g_b  S0__3 (by decide) (by decide) (by decide) (by decide) hcs) hZ (hw _ (List.mem_of_getElem? (i := 42) rfl)) (hw _ (List.mem_of_getElem? (i := 3) rfl)) (by decide) (by decide) (own_ew hw) R3.1) q4a q4c (g := (mkF m 104 #[.val (.int p0), .val (.int (0 : Int32)), .val (.ref b1), .val (.ref a3), .unset, .unset] [(.ref b1)])) rfl (by rw [hml]; rfl) (Steps.refl _) (argsL := []) (rest := []) (lenOf pd___Llatentrace_io_JsonWriter_ rfl) rfl (by show 2 * 0 + _ ≤ _; exact Nat.le_of_eq rfl) (hb hby at_104) (fun _ _ => ⟨rfl, e3, (by decide : 5 + 2 ≤ _), (by decide : 62 + 20 ≤ _)⟩)
  dsimp only [Pt.U, Pt.locs, Pt.cells, Pt.slots] at X4 l4 y4 z4 st4 hQ4 hs4 hg4 Rc4
  subst l4 y4 z4
  obtain ⟨X4, hS4, hZ, hown⟩ := rebS hS3 (by rw [e3]; exact hk3) X4 hs4 hg4 hZ hown
  obtain ⟨rfl, N4q, Kc4, Ej4, Ft4, Fa4, Ec4, Fv4, Fk4, Fn4, Vb4⟩ := hQ4
  have N4 := Fr.app N2 N4q
  rw [(by decide : ((0 : Int32) + (4 : Int32)) = (4 : Int32))] at Fn4
  rw [(by first | rfl | decide : (([(.int (0 : Int32)), (.int (0 : Int32)), (.int (0 : Int32)), (.int (0 : Int32)), (.int (0 : Int32)), (.int (0 : Int32)), (.int (0 : Int32)), (.int (0 : Int32)), (.int (0 : Int32)), (.int (0 : Int32)), (.int (0 : Int32)), (.int (0 : Int32)), (.int (0 : Int32)), (.int (0 : Int32)), (.int (0 : Int32)), (.int (0 : Int32))].take ((0 : Int32)).toNatClampNeg ++ [(.int (110 : Int32)), (.int (117 : Int32)), (.int (108 : Int32)), (.int (108 : Int32))] ++ [(.int (0 : Int32)), (.int (0 : Int32)), (.int (0 : Int32)), (.int (0 : Int32)), (.int (0 : Int32)), (.int (0 : Int32)), (.int (0 : Int32)), (.int (0 : Int32)), (.int (0 : Int32)), (.int (0 : Int32)), (.int (0 : Int32)), (.int (0 : Int32)), (.int (0 : Int32)), (.int (0 : Int32)), (.int (0 : Int32)), (.int (0 : Int32))].drop (((0 : Int32)).toNatClampNeg + ((4 : Int32)).toNatClampNeg)) : List Value) = [(.int (110 : Int32)), (.int (117 : Int32)), (.int (108 : Int32)), (.int (108 : Int32)), (.int (0 : Int32)), (.int (0 : Int32)), (.int (0 : Int32)), (.int (0 : Int32)), (.int (0 : Int32)), (.int (0 : Int32)), (.int (0 : Int32)), (.int (0 : Int32)), (.int (0 : Int32)), (.int (0 : Int32)), (.int (0 : Int32)), (.int (0 : Int32))])] at Vb4
  have hZ_4 := hZ
  have hown_4 := hown
  have S0__4 := own_sta_keep S0__3 Kc4 (nsS (Ej2__3.nostat) (nsS (Ec2__3.nostat) (nsS (Vb2__3.nostat) ns0)))
  have SF__4 := own_sta_keep SF__3 Kc4 (nsS (Ej2__3.nostat) (nsS (Ec2__3.nostat) (nsS (Vb2__3.nostat) ns0)))
  have Es3__4 := Es3.keep Kc4
  have Sk3__4 := Sk3.keep Kc4 (by simp only [List.mem_cons, List.not_mem_nil, or_false, not_or]; exact ⟨(ne_exa Es3 Ej2__3 (by decide)), (ne_exa Es3 Ec2__3 (by decide)), (Es3.neArv Vb2__3 (hw _ (List.mem_of_getElem? (i := 33) rfl)))⟩)
  have Sv3__4 := Sv3.keep Kc4 (by simp only [List.mem_cons, List.not_mem_nil, or_false, not_or]; exact ⟨(ne_exa Es3 Ej2__3 (by decide)), (ne_exa Es3 Ec2__3 (by decide)), (Es3.neArv Vb2__3 (hw _ (List.mem_of_getElem? (i := 33) rfl)))⟩)
  have W3__4 := W3.keep Kc4 (by simp only [List.mem_cons, List.not_mem_nil, or_false, not_or]; exact ⟨(Ne.symm (Ej2__3.neArv W3 (hw _ (List.mem_of_getElem? (i := 2) rfl)))), (Ne.symm (Ec2__3.neArv W3 (hw _ (List.mem_of_getElem? (i := 11) rfl)))), (arv_ne W3 Vb2__3 (Or.inl (by decide)))⟩)
  have KK4 : Keep h0 T4.heap [] := Keep.trans K3 Kc4 (fun x q => by simp only [List.mem_cons, List.not_mem_nil, or_false] at q; rcases q with rfl | rfl | rfl <;> first | exact (Or.inr sz_b1) | exact (Or.inr sz_sb) | exact (Or.inr sz_b))
  have Zs4 : n0 ≤ T4.heap.size := Nat.le_trans Zs3 Kc4.1
  have R4 := R3.trans Rc4
  have hk4 : T4.heap.size ≤ T4.heap.size := Nat.le_refl _
  obtain ⟨cq5, kq5, q5a, q5b, q5c⟩ := isOf hZ rfl Ej4
  obtain ⟨_, _, ⟨T5, L5, k5, n5⟩, -, X5, hs5, hg5, ⟨Lc5, hQ5, l5, y5, z5, Rc5⟩, st5⟩ := X4.virtualBackS hx (y := (⟨"latentrace/io/JsonWriter", "nullValue", "()Llatentrace/io/JsonWriter;"⟩ : MethodName)) (z := (⟨"latentrace/io/JsonWriter", "nullValue", "()Llatentrace/io/JsonWriter;"⟩ : MethodName)) hown (mvT hZ (hw _ (List.mem_of_getElem? (i := 38) rfl))) (mvT hZ (hw _ (List.mem_of_getElem? (i := 39) rfl))) (notFace_of_selects (args := #[]) (mvT hZ (hw _ (List.mem_of_getElem? (i := 41) rfl)))) (mvT hZ (hw _ (List.mem_of_getElem? (i := 41) rfl))) (mvT hZ (hw _ (List.mem_of_getElem? (i := 40) rfl))) (by decide) (backOfSH (W := 0) (rmNull1 l Z aw hw [] b1  sb b k (4 : Int32) [(.int (110 : Int32)), (.int (117 : Int32)), (.int (108 : Int32)), (.int (108 : Int32)), (.int (0 : Int32)), (.int (0 : Int32)), (.int (0 : Int32)), (.int (0 : Int32)), (.int (0 : Int32)), (.int (0 : Int32)), (.int (0 : Int32)), (.int (0 : Int32)), (.int (0 : Int32)), (.int (0 : Int32)), (.int (0 : Int32)), (.int (0 : Int32))]  cs T4.heap n0 Zs4 Ej4 g_b1 Ft4 Fa4 Ec4 g_sb Fv4 Fk4 Fn4 Vb4 g_b  S0__4 (by decide) (by decide) (by decide) (by decide) (by decide) (by decide) (by decide) hcs) hZ (hw _ (List.mem_of_getElem? (i := 42) rfl)) (hw _ (List.mem_of_getElem? (i := 3) rfl)) (by decide) (by decide) (own_ew hw) R4.1) q5a q5c (g := (mkF m 110 #[.val (.int p0), .val (.int (0 : Int32)), .val (.ref b1), .val (.ref a3), .val (.ref b1), .unset] [(.ref b1)])) rfl (by rw [hml]; rfl) (Steps.refl _) (argsL := []) (rest := []) (lenOf pd___Llatentrace_io_JsonWriter_ rfl) rfl (by show 2 * 0 + _ ≤ _; exact Nat.le_of_eq rfl) (hb hby at_110) (fun _ _ => ⟨rfl, rfl, (by decide : 7 + 2 ≤ _), (by decide : 82 + 20 ≤ _)⟩)
  dsimp only [Pt.U, Pt.locs, Pt.cells, Pt.slots] at X5 l5 y5 z5 st5 hQ5 hs5 hg5 Rc5
  subst l5 y5 z5
  obtain ⟨X5, hS5, hZ, hown⟩ := rebS hS4 hk4 X5 hs5 hg5 hZ hown
  obtain ⟨rfl, N5q, Kc5, Ej5, Ft5, Fa5, Ec5, Fv5, Fk5, Fn5, Vb5⟩ := hQ5
  have N5 := Fr.app N4 N5q
  rw [(by decide : (((4 : Int32) + (1 : Int32)) + (4 : Int32)) = (9 : Int32))] at Fn5
  rw [(by first | rfl | decide : ((([(.int (110 : Int32)), (.int (117 : Int32)), (.int (108 : Int32)), (.int (108 : Int32)), (.int (0 : Int32)), (.int (0 : Int32)), (.int (0 : Int32)), (.int (0 : Int32)), (.int (0 : Int32)), (.int (0 : Int32)), (.int (0 : Int32)), (.int (0 : Int32)), (.int (0 : Int32)), (.int (0 : Int32)), (.int (0 : Int32)), (.int (0 : Int32))].set ((4 : Int32)).toNatClampNeg (.int (nar .byte ((44 : Int32).toInt8.toInt32)))).take (((4 : Int32) + (1 : Int32))).toNatClampNeg ++ [(.int (110 : Int32)), (.int (117 : Int32)), (.int (108 : Int32)), (.int (108 : Int32))] ++ ([(.int (110 : Int32)), (.int (117 : Int32)), (.int (108 : Int32)), (.int (108 : Int32)), (.int (0 : Int32)), (.int (0 : Int32)), (.int (0 : Int32)), (.int (0 : Int32)), (.int (0 : Int32)), (.int (0 : Int32)), (.int (0 : Int32)), (.int (0 : Int32)), (.int (0 : Int32)), (.int (0 : Int32)), (.int (0 : Int32)), (.int (0 : Int32))].set ((4 : Int32)).toNatClampNeg (.int (nar .byte ((44 : Int32).toInt8.toInt32)))).drop ((((4 : Int32) + (1 : Int32))).toNatClampNeg + ((4 : Int32)).toNatClampNeg)) : List Value) = [(.int (110 : Int32)), (.int (117 : Int32)), (.int (108 : Int32)), (.int (108 : Int32)), (.int (44 : Int32)), (.int (110 : Int32)), (.int (117 : Int32)), (.int (108 : Int32)), (.int (108 : Int32)), (.int (0 : Int32)), (.int (0 : Int32)), (.int (0 : Int32)), (.int (0 : Int32)), (.int (0 : Int32)), (.int (0 : Int32)), (.int (0 : Int32))])] at Vb5
  have hZ_5 := hZ
  have hown_5 := hown
  have S0__5 := own_sta_keep S0__4 Kc5 (nsS (Ej4.nostat) (nsS (Ec4.nostat) (nsS (Vb4.nostat) ns0)))
  have SF__5 := own_sta_keep SF__4 Kc5 (nsS (Ej4.nostat) (nsS (Ec4.nostat) (nsS (Vb4.nostat) ns0)))
  have Es3__5 := Es3__4.keep Kc5
  have Sk3__5 := Sk3__4.keep Kc5 (by simp only [List.mem_cons, List.not_mem_nil, or_false, not_or]; exact ⟨(ne_exa Es3__4 Ej4 (by decide)), (ne_exa Es3__4 Ec4 (by decide)), (Es3__4.neArv Vb4 (hw _ (List.mem_of_getElem? (i := 33) rfl)))⟩)
  have Sv3__5 := Sv3__4.keep Kc5 (by simp only [List.mem_cons, List.not_mem_nil, or_false, not_or]; exact ⟨(ne_exa Es3__4 Ej4 (by decide)), (ne_exa Es3__4 Ec4 (by decide)), (Es3__4.neArv Vb4 (hw _ (List.mem_of_getElem? (i := 33) rfl)))⟩)
  have W3__5 := W3__4.keep Kc5 (by simp only [List.mem_cons, List.not_mem_nil, or_false, not_or]; exact ⟨(Ne.symm (Ej4.neArv W3__4 (hw _ (List.mem_of_getElem? (i := 2) rfl)))), (Ne.symm (Ec4.neArv W3__4 (hw _ (List.mem_of_getElem? (i := 11) rfl)))), (arv_ne W3__4 Vb4 (Or.inl (by decide)))⟩)
  have KK5 : Keep h0 T5.heap [] := Keep.trans KK4 Kc5 (fun x q => by simp only [List.mem_cons, List.not_mem_nil, or_false] at q; rcases q with rfl | rfl | rfl <;> first | exact (Or.inr sz_b1) | exact (Or.inr sz_sb) | exact (Or.inr sz_b))
  have Zs5 : n0 ≤ T5.heap.size := Nat.le_trans Zs4 Kc5.1
  have R5 := R4.trans Rc5
  have hk5 : T5.heap.size ≤ T5.heap.size := Nat.le_refl _
  obtain ⟨cq6, kq6, q6a, q6b, q6c⟩ := isOf hZ rfl Ej5
  obtain ⟨_, _, ⟨T6, L6, k6, n6⟩, -, X6, ⟨Lc6, hQ6, l6, y6, z6⟩, st6⟩ := X5.virtualBack hx (y := (⟨"latentrace/io/JsonWriter", "toString", "()Ljava/lang/String;"⟩ : MethodName)) (z := (⟨"latentrace/io/JsonWriter", "toString", "()Ljava/lang/String;"⟩ : MethodName)) hown (mvT hZ (hw _ (List.mem_of_getElem? (i := 118) rfl))) (mvT hZ (hw _ (List.mem_of_getElem? (i := 119) rfl))) (notFace_of_selects (args := #[]) (mvT hZ (hw _ (List.mem_of_getElem? (i := 121) rfl)))) (mvT hZ (hw _ (List.mem_of_getElem? (i := 121) rfl))) (mvT hZ (hw _ (List.mem_of_getElem? (i := 120) rfl))) (by decide) (backOf (W := 1) (rmJTS l Z aw hw [] b1 sb b k (9 : Int32) [(.int (110 : Int32)), (.int (117 : Int32)), (.int (108 : Int32)), (.int (108 : Int32)), (.int (44 : Int32)), (.int (110 : Int32)), (.int (117 : Int32)), (.int (108 : Int32)), (.int (108 : Int32)), (.int (0 : Int32)), (.int (0 : Int32)), (.int (0 : Int32)), (.int (0 : Int32)), (.int (0 : Int32)), (.int (0 : Int32)), (.int (0 : Int32))] cs T5.heap n0 Zs5 Ej5 g_b1 Ft5 Fa5 Ec5 g_sb Fv5 Fk5 Fn5 Vb5 g_b S0__5 (by decide) (by decide) (by decide) (by decide) hcs) hZ (hw _ (List.mem_of_getElem? (i := 122) rfl)) (hw _ (List.mem_of_getElem? (i := 3) rfl)) (by decide) (by decide)) q6a q6c (g := (mkF m 129 #[.val (.int p0), .val (.int (0 : Int32)), .val (.ref b1), .val (.ref a3), .val (.ref b1), .val (.ref b1)] [(.ref b1), (.ref a3)])) rfl (by rw [hml]; rfl) (Steps.refl _) (argsL := []) (rest := [(.ref a3)]) (lenOf pd___Ljava_lang_String_ rfl) rfl (by show 2 * 0 + _ ≤ _; exact Nat.le_of_eq rfl) (hb hby at_129) (fun _ _ => ⟨rfl, rfl, (by decide : 9 + 2 ≤ _), (by decide : 102 + 20 ≤ _)⟩)
  dsimp only [Pt.U, Pt.locs, Pt.cells, Pt.slots] at X6 l6 y6 z6 st6 hQ6
  subst l6 y6 z6
  obtain ⟨st, d, kd, rfl, N6q, szt, Kc6, Es6, Sk6, Sv6, Vd6⟩ := hQ6
  have N6 := Fr.app N5 N6q
  have hlt_st := Nat.lt_of_lt_of_le Es3__5.lt szt
  rw [(by first | rfl | decide : (own_cut (9 : Int32) [(.int (110 : Int32)), (.int (117 : Int32)), (.int (108 : Int32)), (.int (108 : Int32)), (.int (44 : Int32)), (.int (110 : Int32)), (.int (117 : Int32)), (.int (108 : Int32)), (.int (108 : Int32)), (.int (0 : Int32)), (.int (0 : Int32)), (.int (0 : Int32)), (.int (0 : Int32)), (.int (0 : Int32)), (.int (0 : Int32)), (.int (0 : Int32))]) = [(.int (110 : Int32)), (.int (117 : Int32)), (.int (108 : Int32)), (.int (108 : Int32)), (.int (44 : Int32)), (.int (110 : Int32)), (.int (117 : Int32)), (.int (108 : Int32)), (.int (108 : Int32))])] at Vd6
  have S0__6 := own_sta_keep S0__5 Kc6 ns0
  have SF__6 := own_sta_keep SF__5 Kc6 ns0
  have Es3__6 := Es3__5.keep Kc6
  have Sk3__6 := Sk3__5.keep Kc6 (fun q => nomatch q)
  have Sv3__6 := Sv3__5.keep Kc6 (fun q => nomatch q)
  have W3__6 := W3__5.keep Kc6 (fun q => nomatch q)
  have Ec5__6 := Ec5.keep Kc6
  have Fv5__6 := Fv5.keep Kc6 (fun q => nomatch q)
  have Fk5__6 := Fk5.keep Kc6 (fun q => nomatch q)
  have Fn5__6 := Fn5.keep Kc6 (fun q => nomatch q)
  have Vb5__6 := Vb5.keep Kc6 (fun q => nomatch q)
  have Ej5__6 := Ej5.keep Kc6
  have Ft5__6 := Ft5.keep Kc6 (fun q => nomatch q)
  have Fa5__6 := Fa5.keep Kc6 (fun q => nomatch q)
  have KK6 : Keep h0 T6.heap [] := Keep.trans KK5 Kc6 (fun _ q => nomatch q)
  have Zs6 : n0 ≤ T6.heap.size := Nat.le_trans Zs5 Kc6.1
  have R6 := R5.trans (CHr.keep Kc6 sf0 R5.1)
  have hk6 := Nat.le_trans hk5 Kc6.1
  obtain ⟨cq7, kq7, q7a, q7b, q7c⟩ := isOf hZ rfl Es3__6
  obtain ⟨_, _, ⟨T7, L7, k7, n7⟩, -, X7, ⟨Lc7, hQ7, l7, y7, z7⟩, st7⟩ := X6.virtualBack hx (y := (⟨"java/lang/String", "equals", "(Ljava/lang/Object;)Z"⟩ : MethodName)) (z := (⟨"java/lang/String", "equals", "(Ljava/lang/Object;)Z"⟩ : MethodName)) hown (mvT hZ (hw _ (List.mem_of_getElem? (i := 166) rfl))) (mvT hZ (hw _ (List.mem_of_getElem? (i := 167) rfl))) (notFace_of_selects (args := #[]) (mvT hZ (hw _ (List.mem_of_getElem? (i := 169) rfl)))) (mvT hZ (hw _ (List.mem_of_getElem? (i := 169) rfl))) (mvT hZ (hw _ (List.mem_of_getElem? (i := 168) rfl))) (by decide) (backOf (W := 0) (rmE l Z aw hw [] a3 st d3 d kd3 kd (9 : Int32) [(.int (110 : Int32)), (.int (117 : Int32)), (.int (108 : Int32)), (.int (108 : Int32)), (.int (44 : Int32)), (.int (110 : Int32)), (.int (117 : Int32)), (.int (108 : Int32)), (.int (108 : Int32))] cs T6.heap n0 Zs6 Es6 Sk3__6 Sk6 Sv3__6 Sv6 W3__6 Vd6 S0__6 (by decide) (own_hall0) (own_nref hlt_st) hcs) hZ (hw _ (List.mem_of_getElem? (i := 170) rfl)) (hw _ (List.mem_of_getElem? (i := 24) rfl)) (by decide) (by decide)) q7a q7c (g := (mkF m 132 #[.val (.int p0), .val (.int (0 : Int32)), .val (.ref b1), .val (.ref a3), .val (.ref b1), .val (.ref b1)] [(.ref st), (.ref a3)])) rfl (by rw [hml]; rfl) (Steps.refl _) (argsL := [(.ref st)]) (rest := []) (lenOf pd__Ljava_lang_Object__Z rfl) rfl (by show 2 * 0 + _ ≤ _; exact Nat.le_of_eq rfl) (hb hby at_132) (fun _ _ => ⟨rfl, rfl, (by decide : 11 + 0 ≤ _), (by decide : 122 + 0 ≤ _)⟩)
  dsimp only [Pt.U, Pt.locs, Pt.cells, Pt.slots] at X7 l7 y7 z7 st7 hQ7
  subst l7 y7 z7
  obtain ⟨rfl, N7q, q7⟩ := hQ7
  have N7 := Fr.app N6 N7q
  obtain ⟨fs, hr, hrun, hended, hRW⟩ := X7.leaveW hS5 (by rw [q7]; exact hk6) (v := some (.int (1 : Int32))) (fun h => by rw [Bd.returns] at h; cases h)
  have hRR : CHr Z consts_1 s.vm s.heap (T7.setFrames fs).vm (T7.setFrames fs).heap := by
    rw [hh]
    show CHr Z consts_1 s.vm h0 T7.vm T7.heap
    rw [q7]
    exact R6.trans (CHv.at X7 hZ (own_ew hw) R6.1)
  refine ⟨_, _, pre0 _ ?_, hrun, hended, _, _, rfl, ?_, hRR, hRW.1, hRW.2.1, hRW.2.2.1, hRW.2.2.2.mono (by decide) (by decide)⟩
  · show Steps p.tables e below (s₁.setTop (mkF m 0 #[.val (.int p0), .unset, .unset, .unset, .unset, .unset] [])) _
    refine XS.iloadN X0.here hx rfl (hb hby at_0) rfl ?_
    show Steps p.tables e below (s₁.setTop (mkF m 1 #[.val (.int p0), .unset, .unset, .unset, .unset, .unset] [(.int p0)])) _
    refine X0.ldcInt hx hown_0 (mvT hZ_0 (hw _ (List.mem_of_getElem? (i := 0) rfl))) (g := (mkF m 1 #[.val (.int p0), .unset, .unset, .unset, .unset, .unset] [(.int p0)])) rfl (hb hby at_1) _ ?_
    show Steps p.tables e below (s₁.setTop (mkF m 3 #[.val (.int p0), .unset, .unset, .unset, .unset, .unset] [(.int (2147483647 : Int32)), (.int p0)])) _
    refine XS.iand X0.here hx rfl (hb hby at_3) rfl ?_
    show Steps p.tables e below (s₁.setTop (mkF m 4 #[.val (.int p0), .unset, .unset, .unset, .unset, .unset] [(.int (p0 &&& (2147483647 : Int32)))])) _
    refine XS.iconst X0.here hx rfl (hb hby at_4) ?_
    show Steps p.tables e below (s₁.setTop (mkF m 5 #[.val (.int p0), .unset, .unset, .unset, .unset, .unset] [(.int (5 : Int32)), (.int (p0 &&& (2147483647 : Int32)))])) _
    refine XS.irem X0.here hx rfl (hb hby at_5) rfl (by decide) ?_
    show Steps p.tables e below (s₁.setTop (mkF m 6 #[.val (.int p0), .unset, .unset, .unset, .unset, .unset] [(.int ((p0 &&& (2147483647 : Int32)) - (p0 &&& (2147483647 : Int32)) / (5 : Int32) * (5 : Int32)))])) _
    rw [hm]
    show Steps p.tables e below (s₁.setTop (mkF m 6 #[.val (.int p0), .unset, .unset, .unset, .unset, .unset] [(.int (0 : Int32))])) _
    refine XS.istoreN X0.here hx rfl (hb hby at_6) rfl (l' := #[.val (.int p0), .val (.int (0 : Int32)), .unset, .unset, .unset, .unset]) rfl ?_
    show Steps p.tables e below (s₁.setTop (mkF m 7 #[.val (.int p0), .val (.int (0 : Int32)), .unset, .unset, .unset, .unset] [])) _
    refine st1 _ ?_
    show Steps p.tables e below (T1.setTop (mkF m 10 #[.val (.int p0), .val (.int (0 : Int32)), .unset, .unset, .unset, .unset] [(.ref b1)])) _
    refine XS.dup X1.here hx rfl (hb hby at_10) rfl rfl ?_
    show Steps p.tables e below (T1.setTop (mkF m 11 #[.val (.int p0), .val (.int (0 : Int32)), .unset, .unset, .unset, .unset] [(.ref b1), (.ref b1)])) _
    refine st2.trans ?_
    show Steps p.tables e below (T2.setTop (mkF m 14 #[.val (.int p0), .val (.int (0 : Int32)), .unset, .unset, .unset, .unset] [(.ref b1)])) _
    refine XS.astoreN X2.here hx rfl (hb hby at_14) rfl rfl (l' := #[.val (.int p0), .val (.int (0 : Int32)), .val (.ref b1), .unset, .unset, .unset]) rfl ?_
    show Steps p.tables e below (T2.setTop (mkF m 15 #[.val (.int p0), .val (.int (0 : Int32)), .val (.ref b1), .unset, .unset, .unset] [])) _
    refine XS.iloadN X2.here hx rfl (hb hby at_15) rfl ?_
    show Steps p.tables e below (T2.setTop (mkF m 16 #[.val (.int p0), .val (.int (0 : Int32)), .val (.ref b1), .unset, .unset, .unset] [(.int (0 : Int32))])) _
    refine XS.ifNo X2.here hx rfl (hb hby at_16) rfl ((if0 _ _).trans (teq (rfl : (0 : Int32) = (0 : Int32))).2) ?_
    show Steps p.tables e below (T2.setTop (mkF m 19 #[.val (.int p0), .val (.int (0 : Int32)), .val (.ref b1), .unset, .unset, .unset] [])) _
    refine st3 _ ?_
    show Steps p.tables e below (T3.setTop (mkF m 21 #[.val (.int p0), .val (.int (0 : Int32)), .val (.ref b1), .unset, .unset, .unset] [(.ref a3)])) _
    refine XS.astoreN X3.here hx rfl (hb hby at_21) rfl rfl (l' := #[.val (.int p0), .val (.int (0 : Int32)), .val (.ref b1), .val (.ref a3), .unset, .unset]) rfl ?_
    show Steps p.tables e below (T3.setTop (mkF m 22 #[.val (.int p0), .val (.int (0 : Int32)), .val (.ref b1), .val (.ref a3), .unset, .unset] [])) _
    refine XS.goto X3.here hx rfl (pc0 := 22) (pc' := 103) rfl (hb hby at_22) (by decide) (by decide) ?_
    show Steps p.tables e below (T3.setTop (mkF m 103 #[.val (.int p0), .val (.int (0 : Int32)), .val (.ref b1), .val (.ref a3), .unset, .unset] [])) _
    refine XS.aloadN X3.here hx rfl (hb hby at_103) rfl rfl ?_
    show Steps p.tables e below (T3.setTop (mkF m 104 #[.val (.int p0), .val (.int (0 : Int32)), .val (.ref b1), .val (.ref a3), .unset, .unset] [(.ref b1)])) _
    refine st4.trans ?_
    show Steps p.tables e below (T4.setTop (mkF m 107 #[.val (.int p0), .val (.int (0 : Int32)), .val (.ref b1), .val (.ref a3), .unset, .unset] [(.ref b1)])) _
    refine XS.astore X4.here hx rfl (hb hby at_107) rfl rfl (l' := #[.val (.int p0), .val (.int (0 : Int32)), .val (.ref b1), .val (.ref a3), .val (.ref b1), .unset]) rfl ?_
    show Steps p.tables e below (T4.setTop (mkF m 109 #[.val (.int p0), .val (.int (0 : Int32)), .val (.ref b1), .val (.ref a3), .val (.ref b1), .unset] [])) _
    refine XS.aloadN X4.here hx rfl (hb hby at_109) rfl rfl ?_
    show Steps p.tables e below (T4.setTop (mkF m 110 #[.val (.int p0), .val (.int (0 : Int32)), .val (.ref b1), .val (.ref a3), .val (.ref b1), .unset] [(.ref b1)])) _
    refine st5.trans ?_
    show Steps p.tables e below (T5.setTop (mkF m 113 #[.val (.int p0), .val (.int (0 : Int32)), .val (.ref b1), .val (.ref a3), .val (.ref b1), .unset] [(.ref b1)])) _
    refine XS.astore X5.here hx rfl (hb hby at_113) rfl rfl (l' := #[.val (.int p0), .val (.int (0 : Int32)), .val (.ref b1), .val (.ref a3), .val (.ref b1), .val (.ref b1)]) rfl ?_
    show Steps p.tables e below (T5.setTop (mkF m 115 #[.val (.int p0), .val (.int (0 : Int32)), .val (.ref b1), .val (.ref a3), .val (.ref b1), .val (.ref b1)] [])) _
    refine XS.aload X5.here hx rfl (hb hby at_115) rfl rfl ?_
    show Steps p.tables e below (T5.setTop (mkF m 117 #[.val (.int p0), .val (.int (0 : Int32)), .val (.ref b1), .val (.ref a3), .val (.ref b1), .val (.ref b1)] [(.ref b1)])) _
    refine XS.aloadN X5.here hx rfl (hb hby at_117) rfl rfl ?_
    show Steps p.tables e below (T5.setTop (mkF m 118 #[.val (.int p0), .val (.int (0 : Int32)), .val (.ref b1), .val (.ref a3), .val (.ref b1), .val (.ref b1)] [(.ref b1), (.ref b1)])) _
    refine Jvm.RoadKit.acmp (g := (mkF m 118 #[.val (.int p0), .val (.int (0 : Int32)), .val (.ref b1), .val (.ref a3), .val (.ref b1), .val (.ref b1)] [(.ref b1), (.ref b1)])) X5 hx rfl rfl rfl (pc0 := 118) (pc' := 121) (same := true) rfl (hb hby at_118) rfl (decide_eq_true rfl) (by decide) (by decide) ?_
    show Steps p.tables e below (T5.setTop (mkF m 121 #[.val (.int p0), .val (.int (0 : Int32)), .val (.ref b1), .val (.ref a3), .val (.ref b1), .val (.ref b1)] [])) _
    refine XS.aload X5.here hx rfl (hb hby at_121) rfl rfl ?_
    show Steps p.tables e below (T5.setTop (mkF m 123 #[.val (.int p0), .val (.int (0 : Int32)), .val (.ref b1), .val (.ref a3), .val (.ref b1), .val (.ref b1)] [(.ref b1)])) _
    refine XS.aloadN X5.here hx rfl (hb hby at_123) rfl rfl ?_
    show Steps p.tables e below (T5.setTop (mkF m 124 #[.val (.int p0), .val (.int (0 : Int32)), .val (.ref b1), .val (.ref a3), .val (.ref b1), .val (.ref b1)] [(.ref b1), (.ref b1)])) _
    refine Jvm.RoadKit.acmp (g := (mkF m 124 #[.val (.int p0), .val (.int (0 : Int32)), .val (.ref b1), .val (.ref a3), .val (.ref b1), .val (.ref b1)] [(.ref b1), (.ref b1)])) X5 hx rfl rfl rfl (pc0 := 124) (pc' := 127) (same := true) rfl (hb hby at_124) rfl (decide_eq_true rfl) (by decide) (by decide) ?_
    show Steps p.tables e below (T5.setTop (mkF m 127 #[.val (.int p0), .val (.int (0 : Int32)), .val (.ref b1), .val (.ref a3), .val (.ref b1), .val (.ref b1)] [])) _
    refine XS.aloadN X5.here hx rfl (hb hby at_127) rfl rfl ?_
    show Steps p.tables e below (T5.setTop (mkF m 128 #[.val (.int p0), .val (.int (0 : Int32)), .val (.ref b1), .val (.ref a3), .val (.ref b1), .val (.ref b1)] [(.ref a3)])) _
    refine XS.aloadN X5.here hx rfl (hb hby at_128) rfl rfl ?_
    show Steps p.tables e below (T5.setTop (mkF m 129 #[.val (.int p0), .val (.int (0 : Int32)), .val (.ref b1), .val (.ref a3), .val (.ref b1), .val (.ref b1)] [(.ref b1), (.ref a3)])) _
    refine st6.trans ?_
    show Steps p.tables e below (T6.setTop (mkF m 132 #[.val (.int p0), .val (.int (0 : Int32)), .val (.ref b1), .val (.ref a3), .val (.ref b1), .val (.ref b1)] [(.ref st), (.ref a3)])) _
    refine st7.trans ?_
    show Steps p.tables e below (T7.setTop (mkF m 135 #[.val (.int p0), .val (.int (0 : Int32)), .val (.ref b1), .val (.ref a3), .val (.ref b1), .val (.ref b1)] [(.int (1 : Int32))])) _
    refine XS.ifNo X7.here hx rfl (hb hby at_135) rfl ((if0 _ _).trans (feq (by decide : ¬ ((1 : Int32) = (0 : Int32)))).1) ?_
    show Steps p.tables e below (T7.setTop (mkF m 138 #[.val (.int p0), .val (.int (0 : Int32)), .val (.ref b1), .val (.ref a3), .val (.ref b1), .val (.ref b1)] [])) _
    refine XS.iconst X7.here hx rfl (hb hby at_138) ?_
    show Steps p.tables e below (T7.setTop (mkF m 139 #[.val (.int p0), .val (.int (0 : Int32)), .val (.ref b1), .val (.ref a3), .val (.ref b1), .val (.ref b1)] [(.int (1 : Int32))])) _
    refine XS.goto X7.here hx rfl (pc0 := 139) (pc' := 143) rfl (hb hby at_139) (by decide) (by decide) ?_
    show Steps p.tables e below (T7.setTop (mkF m 143 #[.val (.int p0), .val (.int (0 : Int32)), .val (.ref b1), .val (.ref a3), .val (.ref b1), .val (.ref b1)] [(.int (1 : Int32))])) _
    exact retN X7 hx (t := .boolean) Bd.returns (by simp) (hb hby at_143) hr
  · show Q0_0 Z p0 fm cs h0 n0 _ T7.heap _
    rw [q7]
    exact ⟨rfl, N7⟩
theorem ef_rm0_1 (m : MethodId) (p0 : Int32) : entryFrame m #[(.int p0)] maxLocals = mkF m 0 #[.val (.int p0), .unset, .unset, .unset, .unset, .unset] [] := by first | (simp [entryFrame, mkF, argsToLocals, Value.category, maxLocals]; done) | rfl
def Q0_1 (Z : State) (p0 : Int32) (fm : Value) (cs : Int32) (h0 : Heap) (n0 : Nat) (v : Option Value) (h : Heap) (L : List Loc) : Prop := v = some (.int (1 : Int32)) ∧ Fr n0 L
set_option maxRecDepth 65536 in
set_option maxHeartbeats 40000000 in
theorem rm0_1 (l : Launch) (Z : State) (aw : Array Value) (hw : ∀ d ∈ tables_1, d.before aw Z = true) (ws : List Jvm.Cond) (p0 : Int32) (fm : Value) (cs : Int32) (h0 : Heap) (n0 : Nat) (Z0 : n0 ≤ h0.size) (SF : Sta Z h0 "jdk/internal/util/Preconditions" "SIOOBE_FORMATTER" "Ljava/util/function/BiFunction;" fm) (S0 : Sta Z h0 "java/lang/String" "COMPACT_STRINGS" "Z" (.int cs)) (hfm : fm.isRef = true) (hcs : ¬ (cs = (0 : Int32))) (hm : ((p0 &&& (2147483647 : Int32)) - (p0 &&& (2147483647 : Int32)) / (5 : Int32) * (5 : Int32)) = (1 : Int32)) :
    MetFree l x (head1 (Jvm.Cond.code x code maxLocals ret :: ws) room_1) (fun a U => a = #[(.int p0)] ∧ Z.Warmed39 U.vm ∧ U.heap = h0 ∧ CHv Z consts_1 U.vm h0) (fun _ _ _ _ _ => True) (fun _ U o U' => ∃ v L, o = .returned v ∧ Q0_1 Z p0 fm cs h0 n0 v U'.heap L ∧ CHr Z consts_1 U.vm U.heap U'.vm U'.heap ∧ ReturnedEndW U o U' L room_1.cells room_1.slots) := by
  refine MetFree.of_bodySF (plainFor_of_name pn_latentrace_io_JsonWriterNullValuePinLaw) hisR ?_
  intro p e s m args below meth cd s₁ Bd hml0 hP hK
  obtain ⟨rfl, hZ, hh, hCH⟩ := hP
  have hx := Bd.exec
  have hby := Bd.bytes
  have hml : cd.maxLocals = 6 := hml0
  have hown : s.vm.findClass "latentrace/io/JsonWriterNullValuePinLaw" = some m.cls := findClass_of_methodNamed Bd.named
  have hnm := (name_of_methodNamed Bd.named Bd.method).1
  have X0 : Stand p l e room_1 (s.setVm s.vm) m #[(.int p0)] below meth cd s₁ [] 0 0 := Stand.of_body Bd
  have e0 : s₁.heap = h0 := by rw [← hh, Bd.state]; rfl
  have N0 := Fr.nil n0
  have pre0 : ∀ t, Steps p.tables e below (s₁.setTop (mkF m 0 #[.val (.int p0), .unset, .unset, .unset, .unset, .unset] [])) t → Steps p.tables e below (s₁.setTop (entryFrame m #[(.int p0)] maxLocals)) t := fun t k => castTop (ef_rm0_1 m p0) k
  have hZ_0 := hZ
  have hown_0 := hown
  have hS0 : s.Since s.vm 0 := (State.WarmedH.refl s).since 0
  have hk0 : 0 ≤ h0.size := Nat.zero_le _
  have R0 : CHr Z consts_1 s.vm h0 s.vm h0 := CHr.refl hCH
  obtain ⟨T1, h1, X1, e1, E1, A1, D1, -, st1⟩ := newO X0 hx hZ hown (hw _ (List.mem_of_getElem? (i := 1) rfl)) (hw _ (List.mem_of_getElem? (i := 2) rfl)) (hw _ (List.mem_of_getElem? (i := 3) rfl)) e0 (g := (mkF m 7 #[.val (.int p0), .val (.int (1 : Int32)), .unset, .unset, .unset, .unset] [])) rfl (hb hby at_7) (by decide) (by decide)
  obtain ⟨b1, g1⟩ : ∃ z, z = h0.size := ⟨_, rfl⟩
  rw [← g1] at A1 D1 st1
  have g_b1 : n0 ≤ b1 := Nat.le_trans Z0 (Nat.le_of_eq g1.symm)
  have sz_b1 : h0.size ≤ b1 := Nat.le_trans (Keep.refl h0 []).1 (Nat.le_of_eq g1.symm)
  have S0__1 := S0.ext E1
  have SF__1 := SF.ext E1
  have K1 : Keep h0 h1 [] := (Keep.refl h0 []).ext E1
  have Zs1 : n0 ≤ h1.size := Nat.le_trans Z0 E1.1
  have hk1 := Nat.le_trans hk0 E1.1
  have R1 := R0.trans (CHr.ext E1 R0.1)
  have F_text_b1 : Fld Z h1 b1 "latentrace/io/JsonWriter" "text" "Ljava/lang/StringBuilder;" .null := D1 (Or.inr (hw _ (List.mem_of_getElem? (i := 31) rfl))) (ty := (.object "java/lang/StringBuilder")) (by decide)
  have F_afterValue_b1 : Fld Z h1 b1 "latentrace/io/JsonWriter" "afterValue" "Z" (.int (0 : Int32)) := D1 (Or.inl (hw _ (List.mem_of_getElem? (i := 48) rfl))) (ty := .boolean) (by decide)
  obtain ⟨_, _, ⟨T2, L2, k2, n2⟩, -, X2, ⟨Lc2, hQ2, l2, y2, z2⟩, st2⟩ := X1.specialBack hx (y := (⟨"latentrace/io/JsonWriter", "<init>", "()V"⟩ : MethodName)) rfl hown (mvT hZ (hw _ (List.mem_of_getElem? (i := 4) rfl))) (mvT hZ (hw _ (List.mem_of_getElem? (i := 5) rfl))) (mvT hZ (hw _ (List.mem_of_getElem? (i := 6) rfl))) (by decide) (backOf (W := 1) (rmJInit l Z aw hw [] b1 .null cs h1 n0 Zs1 A1 g_b1 F_text_b1 F_afterValue_b1 S0__1 hcs) hZ (hw _ (List.mem_of_getElem? (i := 6) rfl)) (hw _ (List.mem_of_getElem? (i := 3) rfl)) (by decide) (by decide)) (g := (mkF m 11 #[.val (.int p0), .val (.int (1 : Int32)), .unset, .unset, .unset, .unset] [(.ref b1), (.ref b1)])) rfl (by rw [hml]; rfl) (Steps.refl _) (a := b1) (argsL := []) (rest := [(.ref b1)]) (lenOf pd___V rfl) rfl (by show 2 * 0 + _ ≤ _; exact Nat.le_of_eq rfl) (hb hby at_11) (fun _ _ => ⟨rfl, e1, (by decide : 1 + 2 ≤ _), (by decide : 2 + 20 ≤ _)⟩)
  dsimp only [Pt.U, Pt.locs, Pt.cells, Pt.slots] at X2 l2 y2 z2 st2 hQ2
  subst l2 y2 z2
  obtain ⟨sb, b, k, rfl, N2q, gsb, gb, Kc2, Ej2, Ft2, Fa2, Ec2, Fv2, Fk2, Fn2, Vb2⟩ := hQ2
  have N2 := Fr.app N0 N2q
  have sz_sb : h0.size ≤ sb := Nat.le_trans K1.1 gsb
  have g_sb : n0 ≤ sb := Nat.le_trans Zs1 gsb
  have sz_b : h0.size ≤ b := Nat.le_trans K1.1 gb
  have g_b : n0 ≤ b := Nat.le_trans Zs1 gb
  have S0__2 := own_sta_keep S0__1 Kc2 (nsS (A1.nostat) ns0)
  have SF__2 := own_sta_keep SF__1 Kc2 (nsS (A1.nostat) ns0)
  have KK2 : Keep h0 T2.heap [] := Keep.trans K1 Kc2 (fun x q => by cases List.mem_singleton.mp q; exact (Or.inr sz_b1))
  have Zs2 : n0 ≤ T2.heap.size := Nat.le_trans Zs1 Kc2.1
  have R2 := R1.trans (CHr.keep Kc2 (sfS (Safe.exa hZ.alike A1 (by decide) (by decide)) sf0) R1.1)
  have hk2 := Nat.le_trans hk1 Kc2.1
  obtain ⟨cq3, kq3, q3a, q3b, q3c⟩ := isOf hZ rfl Ej2
  obtain ⟨_, _, ⟨T3, L3, k3, n3⟩, -, X3, ⟨Lc3, hQ3, l3, y3, z3⟩, st3⟩ := X2.virtualBack hx (y := (⟨"latentrace/io/JsonWriter", "beginArray", "()Llatentrace/io/JsonWriter;"⟩ : MethodName)) (z := (⟨"latentrace/io/JsonWriter", "beginArray", "()Llatentrace/io/JsonWriter;"⟩ : MethodName)) hown (mvT hZ (hw _ (List.mem_of_getElem? (i := 227) rfl))) (mvT hZ (hw _ (List.mem_of_getElem? (i := 228) rfl))) (notFace_of_selects (args := #[]) (mvT hZ (hw _ (List.mem_of_getElem? (i := 230) rfl)))) (mvT hZ (hw _ (List.mem_of_getElem? (i := 230) rfl))) (mvT hZ (hw _ (List.mem_of_getElem? (i := 229) rfl))) (by decide) (backOf (W := 0) (rm_beginArray l Z aw hw [] b1  sb b k (0 : Int32) [(.int (0 : Int32)), (.int (0 : Int32)), (.int (0 : Int32)), (.int (0 : Int32)), (.int (0 : Int32)), (.int (0 : Int32)), (.int (0 : Int32)), (.int (0 : Int32)), (.int (0 : Int32)), (.int (0 : Int32)), (.int (0 : Int32)), (.int (0 : Int32)), (.int (0 : Int32)), (.int (0 : Int32)), (.int (0 : Int32)), (.int (0 : Int32))]  cs T2.heap n0 Zs2 Ej2 g_b1 Ft2 Fa2 Ec2 g_sb Fv2 Fk2 Fn2 Vb2 g_b  S0__2 (by decide) (by decide) (by decide) hcs) hZ (hw _ (List.mem_of_getElem? (i := 231) rfl)) (hw _ (List.mem_of_getElem? (i := 3) rfl)) (by decide) (by decide)) q3a q3c (g := (mkF m 31 #[.val (.int p0), .val (.int (1 : Int32)), .val (.ref b1), .unset, .unset, .unset] [(.ref b1)])) rfl (by rw [hml]; rfl) (Steps.refl _) (argsL := []) (rest := []) (lenOf pd___Llatentrace_io_JsonWriter_ rfl) rfl (by show 2 * 0 + _ ≤ _; exact Nat.le_of_eq rfl) (hb hby at_31) (fun _ _ => ⟨rfl, rfl, (by decide : 3 + 0 ≤ _), (by decide : 22 + 0 ≤ _)⟩)
  dsimp only [Pt.U, Pt.locs, Pt.cells, Pt.slots] at X3 l3 y3 z3 st3 hQ3
  subst l3 y3 z3
  obtain ⟨rfl, N3q, Kc3, Ej3, Ft3, Fa3, Ec3, Fv3, Fk3, Fn3, Vb3⟩ := hQ3
  have N3 := Fr.app N2 N3q
  rw [(by decide : ((0 : Int32) + (1 : Int32)) = (1 : Int32))] at Fn3
  rw [(by first | rfl | decide : (([(.int (0 : Int32)), (.int (0 : Int32)), (.int (0 : Int32)), (.int (0 : Int32)), (.int (0 : Int32)), (.int (0 : Int32)), (.int (0 : Int32)), (.int (0 : Int32)), (.int (0 : Int32)), (.int (0 : Int32)), (.int (0 : Int32)), (.int (0 : Int32)), (.int (0 : Int32)), (.int (0 : Int32)), (.int (0 : Int32)), (.int (0 : Int32))].set ((0 : Int32)).toNatClampNeg (.int (nar .byte ((91 : Int32).toInt8.toInt32)))) : List Value) = [(.int (91 : Int32)), (.int (0 : Int32)), (.int (0 : Int32)), (.int (0 : Int32)), (.int (0 : Int32)), (.int (0 : Int32)), (.int (0 : Int32)), (.int (0 : Int32)), (.int (0 : Int32)), (.int (0 : Int32)), (.int (0 : Int32)), (.int (0 : Int32)), (.int (0 : Int32)), (.int (0 : Int32)), (.int (0 : Int32)), (.int (0 : Int32))])] at Vb3
  have S0__3 := own_sta_keep S0__2 Kc3 (nsS (Ej2.nostat) (nsS (Ec2.nostat) (nsS (Vb2.nostat) ns0)))
  have SF__3 := own_sta_keep SF__2 Kc3 (nsS (Ej2.nostat) (nsS (Ec2.nostat) (nsS (Vb2.nostat) ns0)))
  have KK3 : Keep h0 T3.heap [] := Keep.trans KK2 Kc3 (fun x q => by simp only [List.mem_cons, List.not_mem_nil, or_false] at q; rcases q with rfl | rfl | rfl <;> first | exact (Or.inr sz_b1) | exact (Or.inr sz_sb) | exact (Or.inr sz_b))
  have Zs3 : n0 ≤ T3.heap.size := Nat.le_trans Zs2 Kc3.1
  have R3 := R2.trans (CHr.keep Kc3 (sfS (Safe.exa hZ.alike Ej2 (by decide) (by decide)) (sfS (Safe.exa hZ.alike Ec2 (by decide) (by decide)) (sfS (own_safe hw hZ Vb2) sf0))) R2.1)
  have hk3 := Nat.le_trans hk2 Kc3.1
  obtain ⟨a4, T4, h4, k4, d4, kd4, X4, e4, E4, hS4, hk4, hZ, hown, Es4, Sk4, Sv4, W4, la4, lb4, Rl4, -, -, st4⟩ := ldcCH X3 hx hZ hown (hw _ (List.mem_of_getElem? (i := 232) rfl)) (own_strs hw) rfl hS0 hk3 (own_ew hw) (List.mem_of_getElem? (i := 2) rfl) R3.1 (vs := [(.int (91 : Int32)), (.int (110 : Int32)), (.int (117 : Int32)), (.int (108 : Int32)), (.int (108 : Int32)), (.int (44 : Int32)), (.int (110 : Int32)), (.int (117 : Int32)), (.int (108 : Int32)), (.int (108 : Int32))]) (z := (10 : Int32)) ⟨by decide, by rfl⟩ (by decide) (by decide) (g := (mkF m 35 #[.val (.int p0), .val (.int (1 : Int32)), .val (.ref b1), .unset, .unset, .unset] [])) rfl (hb hby at_35) (n := 40) (by decide) (by decide) (by decide) (by decide)
  have hZ_4 := hZ
  have hown_4 := hown
  have S0__4 := S0__3.ext E4
  have SF__4 := SF__3.ext E4
  have Ec3__4 := Ec3.ext E4
  have Fv3__4 := Fv3.ext E4
  have Fk3__4 := Fk3.ext E4
  have Fn3__4 := Fn3.ext E4
  have Vb3__4 := Vb3.ext E4
  have Ej3__4 := Ej3.ext E4
  have Ft3__4 := Ft3.ext E4
  have Fa3__4 := Fa3.ext E4
  have K4 : Keep h0 h4 [] := KK3.ext E4
  have Zs4 : n0 ≤ h4.size := Nat.le_trans Zs3 E4.1
  have R4 := R3.trans Rl4
  obtain ⟨cq5, kq5, q5a, q5b, q5c⟩ := isOf hZ e4 Ej3__4
  obtain ⟨_, _, ⟨T5, L5, k5, n5⟩, -, X5, hs5, hg5, ⟨Lc5, hQ5, l5, y5, z5, Rc5⟩, st5⟩ := X4.virtualBackS hx (y := (⟨"latentrace/io/JsonWriter", "nullValue", "()Llatentrace/io/JsonWriter;"⟩ : MethodName)) (z := (⟨"latentrace/io/JsonWriter", "nullValue", "()Llatentrace/io/JsonWriter;"⟩ : MethodName)) hown (mvT hZ (hw _ (List.mem_of_getElem? (i := 38) rfl))) (mvT hZ (hw _ (List.mem_of_getElem? (i := 39) rfl))) (notFace_of_selects (args := #[]) (mvT hZ (hw _ (List.mem_of_getElem? (i := 41) rfl)))) (mvT hZ (hw _ (List.mem_of_getElem? (i := 41) rfl))) (mvT hZ (hw _ (List.mem_of_getElem? (i := 40) rfl))) (by decide) (backOfSH (W := 0) (rmNull0 l Z aw hw [] b1  sb b k (1 : Int32) [(.int (91 : Int32)), (.int (0 : Int32)), (.int (0 : Int32)), (.int (0 : Int32)), (.int (0 : Int32)), (.int (0 : Int32)), (.int (0 : Int32)), (.int (0 : Int32)), (.int (0 : Int32)), (.int (0 : Int32)), (.int (0 : Int32)), (.int (0 : Int32)), (.int (0 : Int32)), (.int (0 : Int32)), (.int (0 : Int32)), (.int (0 : Int32))]  cs h4 n0 Zs4 Ej3__4 g_b1 Ft3__4 Fa3__4 Ec3__4 g_sb Fv3__4 Fk3__4 Fn3__4 Vb3__4 g_b  S0__4 (by decide) (by decide) (by decide) (by decide) hcs) hZ (hw _ (List.mem_of_getElem? (i := 42) rfl)) (hw _ (List.mem_of_getElem? (i := 3) rfl)) (by decide) (by decide) (own_ew hw) R4.1) q5a q5c (g := (mkF m 104 #[.val (.int p0), .val (.int (1 : Int32)), .val (.ref b1), .val (.ref a4), .unset, .unset] [(.ref b1)])) rfl (by rw [hml]; rfl) (Steps.refl _) (argsL := []) (rest := []) (lenOf pd___Llatentrace_io_JsonWriter_ rfl) rfl (by show 2 * 0 + _ ≤ _; exact Nat.le_of_eq rfl) (hb hby at_104) (fun _ _ => ⟨rfl, e4, (by decide : 5 + 2 ≤ _), (by decide : 66 + 20 ≤ _)⟩)
  dsimp only [Pt.U, Pt.locs, Pt.cells, Pt.slots] at X5 l5 y5 z5 st5 hQ5 hs5 hg5 Rc5
  subst l5 y5 z5
  obtain ⟨X5, hS5, hZ, hown⟩ := rebS hS4 (by rw [e4]; exact hk4) X5 hs5 hg5 hZ hown
  obtain ⟨rfl, N5q, Kc5, Ej5, Ft5, Fa5, Ec5, Fv5, Fk5, Fn5, Vb5⟩ := hQ5
  have N5 := Fr.app N3 N5q
  rw [(by decide : ((1 : Int32) + (4 : Int32)) = (5 : Int32))] at Fn5
  rw [(by first | rfl | decide : (([(.int (91 : Int32)), (.int (0 : Int32)), (.int (0 : Int32)), (.int (0 : Int32)), (.int (0 : Int32)), (.int (0 : Int32)), (.int (0 : Int32)), (.int (0 : Int32)), (.int (0 : Int32)), (.int (0 : Int32)), (.int (0 : Int32)), (.int (0 : Int32)), (.int (0 : Int32)), (.int (0 : Int32)), (.int (0 : Int32)), (.int (0 : Int32))].take ((1 : Int32)).toNatClampNeg ++ [(.int (110 : Int32)), (.int (117 : Int32)), (.int (108 : Int32)), (.int (108 : Int32))] ++ [(.int (91 : Int32)), (.int (0 : Int32)), (.int (0 : Int32)), (.int (0 : Int32)), (.int (0 : Int32)), (.int (0 : Int32)), (.int (0 : Int32)), (.int (0 : Int32)), (.int (0 : Int32)), (.int (0 : Int32)), (.int (0 : Int32)), (.int (0 : Int32)), (.int (0 : Int32)), (.int (0 : Int32)), (.int (0 : Int32)), (.int (0 : Int32))].drop (((1 : Int32)).toNatClampNeg + ((4 : Int32)).toNatClampNeg)) : List Value) = [(.int (91 : Int32)), (.int (110 : Int32)), (.int (117 : Int32)), (.int (108 : Int32)), (.int (108 : Int32)), (.int (0 : Int32)), (.int (0 : Int32)), (.int (0 : Int32)), (.int (0 : Int32)), (.int (0 : Int32)), (.int (0 : Int32)), (.int (0 : Int32)), (.int (0 : Int32)), (.int (0 : Int32)), (.int (0 : Int32)), (.int (0 : Int32))])] at Vb5
  have hZ_5 := hZ
  have hown_5 := hown
  have S0__5 := own_sta_keep S0__4 Kc5 (nsS (Ej3__4.nostat) (nsS (Ec3__4.nostat) (nsS (Vb3__4.nostat) ns0)))
  have SF__5 := own_sta_keep SF__4 Kc5 (nsS (Ej3__4.nostat) (nsS (Ec3__4.nostat) (nsS (Vb3__4.nostat) ns0)))
  have Es4__5 := Es4.keep Kc5
  have Sk4__5 := Sk4.keep Kc5 (by simp only [List.mem_cons, List.not_mem_nil, or_false, not_or]; exact ⟨(ne_exa Es4 Ej3__4 (by decide)), (ne_exa Es4 Ec3__4 (by decide)), (Es4.neArv Vb3__4 (hw _ (List.mem_of_getElem? (i := 33) rfl)))⟩)
  have Sv4__5 := Sv4.keep Kc5 (by simp only [List.mem_cons, List.not_mem_nil, or_false, not_or]; exact ⟨(ne_exa Es4 Ej3__4 (by decide)), (ne_exa Es4 Ec3__4 (by decide)), (Es4.neArv Vb3__4 (hw _ (List.mem_of_getElem? (i := 33) rfl)))⟩)
  have W4__5 := W4.keep Kc5 (by simp only [List.mem_cons, List.not_mem_nil, or_false, not_or]; exact ⟨(Ne.symm (Ej3__4.neArv W4 (hw _ (List.mem_of_getElem? (i := 2) rfl)))), (Ne.symm (Ec3__4.neArv W4 (hw _ (List.mem_of_getElem? (i := 11) rfl)))), (arv_ne W4 Vb3__4 (Or.inl (by decide)))⟩)
  have KK5 : Keep h0 T5.heap [] := Keep.trans K4 Kc5 (fun x q => by simp only [List.mem_cons, List.not_mem_nil, or_false] at q; rcases q with rfl | rfl | rfl <;> first | exact (Or.inr sz_b1) | exact (Or.inr sz_sb) | exact (Or.inr sz_b))
  have Zs5 : n0 ≤ T5.heap.size := Nat.le_trans Zs4 Kc5.1
  have R5 := R4.trans Rc5
  have hk5 : T5.heap.size ≤ T5.heap.size := Nat.le_refl _
  obtain ⟨cq6, kq6, q6a, q6b, q6c⟩ := isOf hZ rfl Ej5
  obtain ⟨_, _, ⟨T6, L6, k6, n6⟩, -, X6, hs6, hg6, ⟨Lc6, hQ6, l6, y6, z6, Rc6⟩, st6⟩ := X5.virtualBackS hx (y := (⟨"latentrace/io/JsonWriter", "nullValue", "()Llatentrace/io/JsonWriter;"⟩ : MethodName)) (z := (⟨"latentrace/io/JsonWriter", "nullValue", "()Llatentrace/io/JsonWriter;"⟩ : MethodName)) hown (mvT hZ (hw _ (List.mem_of_getElem? (i := 38) rfl))) (mvT hZ (hw _ (List.mem_of_getElem? (i := 39) rfl))) (notFace_of_selects (args := #[]) (mvT hZ (hw _ (List.mem_of_getElem? (i := 41) rfl)))) (mvT hZ (hw _ (List.mem_of_getElem? (i := 41) rfl))) (mvT hZ (hw _ (List.mem_of_getElem? (i := 40) rfl))) (by decide) (backOfSH (W := 0) (rmNull1 l Z aw hw [] b1  sb b k (5 : Int32) [(.int (91 : Int32)), (.int (110 : Int32)), (.int (117 : Int32)), (.int (108 : Int32)), (.int (108 : Int32)), (.int (0 : Int32)), (.int (0 : Int32)), (.int (0 : Int32)), (.int (0 : Int32)), (.int (0 : Int32)), (.int (0 : Int32)), (.int (0 : Int32)), (.int (0 : Int32)), (.int (0 : Int32)), (.int (0 : Int32)), (.int (0 : Int32))]  cs T5.heap n0 Zs5 Ej5 g_b1 Ft5 Fa5 Ec5 g_sb Fv5 Fk5 Fn5 Vb5 g_b  S0__5 (by decide) (by decide) (by decide) (by decide) (by decide) (by decide) (by decide) hcs) hZ (hw _ (List.mem_of_getElem? (i := 42) rfl)) (hw _ (List.mem_of_getElem? (i := 3) rfl)) (by decide) (by decide) (own_ew hw) R5.1) q6a q6c (g := (mkF m 110 #[.val (.int p0), .val (.int (1 : Int32)), .val (.ref b1), .val (.ref a4), .val (.ref b1), .unset] [(.ref b1)])) rfl (by rw [hml]; rfl) (Steps.refl _) (argsL := []) (rest := []) (lenOf pd___Llatentrace_io_JsonWriter_ rfl) rfl (by show 2 * 0 + _ ≤ _; exact Nat.le_of_eq rfl) (hb hby at_110) (fun _ _ => ⟨rfl, rfl, (by decide : 7 + 2 ≤ _), (by decide : 86 + 20 ≤ _)⟩)
  dsimp only [Pt.U, Pt.locs, Pt.cells, Pt.slots] at X6 l6 y6 z6 st6 hQ6 hs6 hg6 Rc6
  subst l6 y6 z6
  obtain ⟨X6, hS6, hZ, hown⟩ := rebS hS5 hk5 X6 hs6 hg6 hZ hown
  obtain ⟨rfl, N6q, Kc6, Ej6, Ft6, Fa6, Ec6, Fv6, Fk6, Fn6, Vb6⟩ := hQ6
  have N6 := Fr.app N5 N6q
  rw [(by decide : (((5 : Int32) + (1 : Int32)) + (4 : Int32)) = (10 : Int32))] at Fn6
  rw [(by first | rfl | decide : ((([(.int (91 : Int32)), (.int (110 : Int32)), (.int (117 : Int32)), (.int (108 : Int32)), (.int (108 : Int32)), (.int (0 : Int32)), (.int (0 : Int32)), (.int (0 : Int32)), (.int (0 : Int32)), (.int (0 : Int32)), (.int (0 : Int32)), (.int (0 : Int32)), (.int (0 : Int32)), (.int (0 : Int32)), (.int (0 : Int32)), (.int (0 : Int32))].set ((5 : Int32)).toNatClampNeg (.int (nar .byte ((44 : Int32).toInt8.toInt32)))).take (((5 : Int32) + (1 : Int32))).toNatClampNeg ++ [(.int (110 : Int32)), (.int (117 : Int32)), (.int (108 : Int32)), (.int (108 : Int32))] ++ ([(.int (91 : Int32)), (.int (110 : Int32)), (.int (117 : Int32)), (.int (108 : Int32)), (.int (108 : Int32)), (.int (0 : Int32)), (.int (0 : Int32)), (.int (0 : Int32)), (.int (0 : Int32)), (.int (0 : Int32)), (.int (0 : Int32)), (.int (0 : Int32)), (.int (0 : Int32)), (.int (0 : Int32)), (.int (0 : Int32)), (.int (0 : Int32))].set ((5 : Int32)).toNatClampNeg (.int (nar .byte ((44 : Int32).toInt8.toInt32)))).drop ((((5 : Int32) + (1 : Int32))).toNatClampNeg + ((4 : Int32)).toNatClampNeg)) : List Value) = [(.int (91 : Int32)), (.int (110 : Int32)), (.int (117 : Int32)), (.int (108 : Int32)), (.int (108 : Int32)), (.int (44 : Int32)), (.int (110 : Int32)), (.int (117 : Int32)), (.int (108 : Int32)), (.int (108 : Int32)), (.int (0 : Int32)), (.int (0 : Int32)), (.int (0 : Int32)), (.int (0 : Int32)), (.int (0 : Int32)), (.int (0 : Int32))])] at Vb6
  have hZ_6 := hZ
  have hown_6 := hown
  have S0__6 := own_sta_keep S0__5 Kc6 (nsS (Ej5.nostat) (nsS (Ec5.nostat) (nsS (Vb5.nostat) ns0)))
  have SF__6 := own_sta_keep SF__5 Kc6 (nsS (Ej5.nostat) (nsS (Ec5.nostat) (nsS (Vb5.nostat) ns0)))
  have Es4__6 := Es4__5.keep Kc6
  have Sk4__6 := Sk4__5.keep Kc6 (by simp only [List.mem_cons, List.not_mem_nil, or_false, not_or]; exact ⟨(ne_exa Es4__5 Ej5 (by decide)), (ne_exa Es4__5 Ec5 (by decide)), (Es4__5.neArv Vb5 (hw _ (List.mem_of_getElem? (i := 33) rfl)))⟩)
  have Sv4__6 := Sv4__5.keep Kc6 (by simp only [List.mem_cons, List.not_mem_nil, or_false, not_or]; exact ⟨(ne_exa Es4__5 Ej5 (by decide)), (ne_exa Es4__5 Ec5 (by decide)), (Es4__5.neArv Vb5 (hw _ (List.mem_of_getElem? (i := 33) rfl)))⟩)
  have W4__6 := W4__5.keep Kc6 (by simp only [List.mem_cons, List.not_mem_nil, or_false, not_or]; exact ⟨(Ne.symm (Ej5.neArv W4__5 (hw _ (List.mem_of_getElem? (i := 2) rfl)))), (Ne.symm (Ec5.neArv W4__5 (hw _ (List.mem_of_getElem? (i := 11) rfl)))), (arv_ne W4__5 Vb5 (Or.inl (by decide)))⟩)
  have KK6 : Keep h0 T6.heap [] := Keep.trans KK5 Kc6 (fun x q => by simp only [List.mem_cons, List.not_mem_nil, or_false] at q; rcases q with rfl | rfl | rfl <;> first | exact (Or.inr sz_b1) | exact (Or.inr sz_sb) | exact (Or.inr sz_b))
  have Zs6 : n0 ≤ T6.heap.size := Nat.le_trans Zs5 Kc6.1
  have R6 := R5.trans Rc6
  have hk6 : T6.heap.size ≤ T6.heap.size := Nat.le_refl _
  obtain ⟨cq7, kq7, q7a, q7b, q7c⟩ := isOf hZ rfl Ej6
  obtain ⟨_, _, ⟨T7, L7, k7, n7⟩, -, X7, ⟨Lc7, hQ7, l7, y7, z7⟩, st7⟩ := X6.virtualBack hx (y := (⟨"latentrace/io/JsonWriter", "toString", "()Ljava/lang/String;"⟩ : MethodName)) (z := (⟨"latentrace/io/JsonWriter", "toString", "()Ljava/lang/String;"⟩ : MethodName)) hown (mvT hZ (hw _ (List.mem_of_getElem? (i := 118) rfl))) (mvT hZ (hw _ (List.mem_of_getElem? (i := 119) rfl))) (notFace_of_selects (args := #[]) (mvT hZ (hw _ (List.mem_of_getElem? (i := 121) rfl)))) (mvT hZ (hw _ (List.mem_of_getElem? (i := 121) rfl))) (mvT hZ (hw _ (List.mem_of_getElem? (i := 120) rfl))) (by decide) (backOf (W := 1) (rmJTS l Z aw hw [] b1 sb b k (10 : Int32) [(.int (91 : Int32)), (.int (110 : Int32)), (.int (117 : Int32)), (.int (108 : Int32)), (.int (108 : Int32)), (.int (44 : Int32)), (.int (110 : Int32)), (.int (117 : Int32)), (.int (108 : Int32)), (.int (108 : Int32)), (.int (0 : Int32)), (.int (0 : Int32)), (.int (0 : Int32)), (.int (0 : Int32)), (.int (0 : Int32)), (.int (0 : Int32))] cs T6.heap n0 Zs6 Ej6 g_b1 Ft6 Fa6 Ec6 g_sb Fv6 Fk6 Fn6 Vb6 g_b S0__6 (by decide) (by decide) (by decide) (by decide) hcs) hZ (hw _ (List.mem_of_getElem? (i := 122) rfl)) (hw _ (List.mem_of_getElem? (i := 3) rfl)) (by decide) (by decide)) q7a q7c (g := (mkF m 129 #[.val (.int p0), .val (.int (1 : Int32)), .val (.ref b1), .val (.ref a4), .val (.ref b1), .val (.ref b1)] [(.ref b1), (.ref a4)])) rfl (by rw [hml]; rfl) (Steps.refl _) (argsL := []) (rest := [(.ref a4)]) (lenOf pd___Ljava_lang_String_ rfl) rfl (by show 2 * 0 + _ ≤ _; exact Nat.le_of_eq rfl) (hb hby at_129) (fun _ _ => ⟨rfl, rfl, (by decide : 9 + 2 ≤ _), (by decide : 106 + 20 ≤ _)⟩)
  dsimp only [Pt.U, Pt.locs, Pt.cells, Pt.slots] at X7 l7 y7 z7 st7 hQ7
  subst l7 y7 z7
  obtain ⟨st, d, kd, rfl, N7q, szt, Kc7, Es7, Sk7, Sv7, Vd7⟩ := hQ7
  have N7 := Fr.app N6 N7q
  have hlt_st := Nat.lt_of_lt_of_le Es4__6.lt szt
  rw [(by first | rfl | decide : (own_cut (10 : Int32) [(.int (91 : Int32)), (.int (110 : Int32)), (.int (117 : Int32)), (.int (108 : Int32)), (.int (108 : Int32)), (.int (44 : Int32)), (.int (110 : Int32)), (.int (117 : Int32)), (.int (108 : Int32)), (.int (108 : Int32)), (.int (0 : Int32)), (.int (0 : Int32)), (.int (0 : Int32)), (.int (0 : Int32)), (.int (0 : Int32)), (.int (0 : Int32))]) = [(.int (91 : Int32)), (.int (110 : Int32)), (.int (117 : Int32)), (.int (108 : Int32)), (.int (108 : Int32)), (.int (44 : Int32)), (.int (110 : Int32)), (.int (117 : Int32)), (.int (108 : Int32)), (.int (108 : Int32))])] at Vd7
  have S0__7 := own_sta_keep S0__6 Kc7 ns0
  have SF__7 := own_sta_keep SF__6 Kc7 ns0
  have Es4__7 := Es4__6.keep Kc7
  have Sk4__7 := Sk4__6.keep Kc7 (fun q => nomatch q)
  have Sv4__7 := Sv4__6.keep Kc7 (fun q => nomatch q)
  have W4__7 := W4__6.keep Kc7 (fun q => nomatch q)
  have Ec6__7 := Ec6.keep Kc7
  have Fv6__7 := Fv6.keep Kc7 (fun q => nomatch q)
  have Fk6__7 := Fk6.keep Kc7 (fun q => nomatch q)
  have Fn6__7 := Fn6.keep Kc7 (fun q => nomatch q)
  have Vb6__7 := Vb6.keep Kc7 (fun q => nomatch q)
  have Ej6__7 := Ej6.keep Kc7
  have Ft6__7 := Ft6.keep Kc7 (fun q => nomatch q)
  have Fa6__7 := Fa6.keep Kc7 (fun q => nomatch q)
  have KK7 : Keep h0 T7.heap [] := Keep.trans KK6 Kc7 (fun _ q => nomatch q)
  have Zs7 : n0 ≤ T7.heap.size := Nat.le_trans Zs6 Kc7.1
  have R7 := R6.trans (CHr.keep Kc7 sf0 R6.1)
  have hk7 := Nat.le_trans hk6 Kc7.1
  obtain ⟨cq8, kq8, q8a, q8b, q8c⟩ := isOf hZ rfl Es4__7
  obtain ⟨_, _, ⟨T8, L8, k8, n8⟩, -, X8, ⟨Lc8, hQ8, l8, y8, z8⟩, st8⟩ := X7.virtualBack hx (y := (⟨"java/lang/String", "equals", "(Ljava/lang/Object;)Z"⟩ : MethodName)) (z := (⟨"java/lang/String", "equals", "(Ljava/lang/Object;)Z"⟩ : MethodName)) hown (mvT hZ (hw _ (List.mem_of_getElem? (i := 166) rfl))) (mvT hZ (hw _ (List.mem_of_getElem? (i := 167) rfl))) (notFace_of_selects (args := #[]) (mvT hZ (hw _ (List.mem_of_getElem? (i := 169) rfl)))) (mvT hZ (hw _ (List.mem_of_getElem? (i := 169) rfl))) (mvT hZ (hw _ (List.mem_of_getElem? (i := 168) rfl))) (by decide) (backOf (W := 0) (rmE l Z aw hw [] a4 st d4 d kd4 kd (10 : Int32) [(.int (91 : Int32)), (.int (110 : Int32)), (.int (117 : Int32)), (.int (108 : Int32)), (.int (108 : Int32)), (.int (44 : Int32)), (.int (110 : Int32)), (.int (117 : Int32)), (.int (108 : Int32)), (.int (108 : Int32))] cs T7.heap n0 Zs7 Es7 Sk4__7 Sk7 Sv4__7 Sv7 W4__7 Vd7 S0__7 (by decide) (own_hall1) (own_nref hlt_st) hcs) hZ (hw _ (List.mem_of_getElem? (i := 170) rfl)) (hw _ (List.mem_of_getElem? (i := 24) rfl)) (by decide) (by decide)) q8a q8c (g := (mkF m 132 #[.val (.int p0), .val (.int (1 : Int32)), .val (.ref b1), .val (.ref a4), .val (.ref b1), .val (.ref b1)] [(.ref st), (.ref a4)])) rfl (by rw [hml]; rfl) (Steps.refl _) (argsL := [(.ref st)]) (rest := []) (lenOf pd__Ljava_lang_Object__Z rfl) rfl (by show 2 * 0 + _ ≤ _; exact Nat.le_of_eq rfl) (hb hby at_132) (fun _ _ => ⟨rfl, rfl, (by decide : 11 + 0 ≤ _), (by decide : 126 + 0 ≤ _)⟩)
  dsimp only [Pt.U, Pt.locs, Pt.cells, Pt.slots] at X8 l8 y8 z8 st8 hQ8
  subst l8 y8 z8
  obtain ⟨rfl, N8q, q8⟩ := hQ8
  have N8 := Fr.app N7 N8q
  obtain ⟨fs, hr, hrun, hended, hRW⟩ := X8.leaveW hS6 (by rw [q8]; exact hk7) (v := some (.int (1 : Int32))) (fun h => by rw [Bd.returns] at h; cases h)
  have hRR : CHr Z consts_1 s.vm s.heap (T8.setFrames fs).vm (T8.setFrames fs).heap := by
    rw [hh]
    show CHr Z consts_1 s.vm h0 T8.vm T8.heap
    rw [q8]
    exact R7.trans (CHv.at X8 hZ (own_ew hw) R7.1)
  refine ⟨_, _, pre0 _ ?_, hrun, hended, _, _, rfl, ?_, hRR, hRW.1, hRW.2.1, hRW.2.2.1, hRW.2.2.2.mono (by decide) (by decide)⟩
  · show Steps p.tables e below (s₁.setTop (mkF m 0 #[.val (.int p0), .unset, .unset, .unset, .unset, .unset] [])) _
    refine XS.iloadN X0.here hx rfl (hb hby at_0) rfl ?_
    show Steps p.tables e below (s₁.setTop (mkF m 1 #[.val (.int p0), .unset, .unset, .unset, .unset, .unset] [(.int p0)])) _
    refine X0.ldcInt hx hown_0 (mvT hZ_0 (hw _ (List.mem_of_getElem? (i := 0) rfl))) (g := (mkF m 1 #[.val (.int p0), .unset, .unset, .unset, .unset, .unset] [(.int p0)])) rfl (hb hby at_1) _ ?_
    show Steps p.tables e below (s₁.setTop (mkF m 3 #[.val (.int p0), .unset, .unset, .unset, .unset, .unset] [(.int (2147483647 : Int32)), (.int p0)])) _
    refine XS.iand X0.here hx rfl (hb hby at_3) rfl ?_
    show Steps p.tables e below (s₁.setTop (mkF m 4 #[.val (.int p0), .unset, .unset, .unset, .unset, .unset] [(.int (p0 &&& (2147483647 : Int32)))])) _
    refine XS.iconst X0.here hx rfl (hb hby at_4) ?_
    show Steps p.tables e below (s₁.setTop (mkF m 5 #[.val (.int p0), .unset, .unset, .unset, .unset, .unset] [(.int (5 : Int32)), (.int (p0 &&& (2147483647 : Int32)))])) _
    refine XS.irem X0.here hx rfl (hb hby at_5) rfl (by decide) ?_
    show Steps p.tables e below (s₁.setTop (mkF m 6 #[.val (.int p0), .unset, .unset, .unset, .unset, .unset] [(.int ((p0 &&& (2147483647 : Int32)) - (p0 &&& (2147483647 : Int32)) / (5 : Int32) * (5 : Int32)))])) _
    rw [hm]
    show Steps p.tables e below (s₁.setTop (mkF m 6 #[.val (.int p0), .unset, .unset, .unset, .unset, .unset] [(.int (1 : Int32))])) _
    refine XS.istoreN X0.here hx rfl (hb hby at_6) rfl (l' := #[.val (.int p0), .val (.int (1 : Int32)), .unset, .unset, .unset, .unset]) rfl ?_
    show Steps p.tables e below (s₁.setTop (mkF m 7 #[.val (.int p0), .val (.int (1 : Int32)), .unset, .unset, .unset, .unset] [])) _
    refine st1 _ ?_
    show Steps p.tables e below (T1.setTop (mkF m 10 #[.val (.int p0), .val (.int (1 : Int32)), .unset, .unset, .unset, .unset] [(.ref b1)])) _
    refine XS.dup X1.here hx rfl (hb hby at_10) rfl rfl ?_
    show Steps p.tables e below (T1.setTop (mkF m 11 #[.val (.int p0), .val (.int (1 : Int32)), .unset, .unset, .unset, .unset] [(.ref b1), (.ref b1)])) _
    refine st2.trans ?_
    show Steps p.tables e below (T2.setTop (mkF m 14 #[.val (.int p0), .val (.int (1 : Int32)), .unset, .unset, .unset, .unset] [(.ref b1)])) _
    refine XS.astoreN X2.here hx rfl (hb hby at_14) rfl rfl (l' := #[.val (.int p0), .val (.int (1 : Int32)), .val (.ref b1), .unset, .unset, .unset]) rfl ?_
    show Steps p.tables e below (T2.setTop (mkF m 15 #[.val (.int p0), .val (.int (1 : Int32)), .val (.ref b1), .unset, .unset, .unset] [])) _
    refine XS.iloadN X2.here hx rfl (hb hby at_15) rfl ?_
    show Steps p.tables e below (T2.setTop (mkF m 16 #[.val (.int p0), .val (.int (1 : Int32)), .val (.ref b1), .unset, .unset, .unset] [(.int (1 : Int32))])) _
    refine XS.ifYes X2.here hx rfl (pc0 := 16) (pc' := 25) rfl (hb hby at_16) rfl ((if0 _ _).trans (feq (by decide : ¬ ((1 : Int32) = (0 : Int32)))).2) (by decide) (by decide) ?_
    show Steps p.tables e below (T2.setTop (mkF m 25 #[.val (.int p0), .val (.int (1 : Int32)), .val (.ref b1), .unset, .unset, .unset] [])) _
    refine XS.iloadN X2.here hx rfl (hb hby at_25) rfl ?_
    show Steps p.tables e below (T2.setTop (mkF m 26 #[.val (.int p0), .val (.int (1 : Int32)), .val (.ref b1), .unset, .unset, .unset] [(.int (1 : Int32))])) _
    refine XS.iconst X2.here hx rfl (hb hby at_26) ?_
    show Steps p.tables e below (T2.setTop (mkF m 27 #[.val (.int p0), .val (.int (1 : Int32)), .val (.ref b1), .unset, .unset, .unset] [(.int (1 : Int32)), (.int (1 : Int32))])) _
    refine XS.icmpNo X2.here hx rfl (hb hby at_27) rfl (teq (rfl : (1 : Int32) = (1 : Int32))).2 ?_
    show Steps p.tables e below (T2.setTop (mkF m 30 #[.val (.int p0), .val (.int (1 : Int32)), .val (.ref b1), .unset, .unset, .unset] [])) _
    refine XS.aloadN X2.here hx rfl (hb hby at_30) rfl rfl ?_
    show Steps p.tables e below (T2.setTop (mkF m 31 #[.val (.int p0), .val (.int (1 : Int32)), .val (.ref b1), .unset, .unset, .unset] [(.ref b1)])) _
    refine st3.trans ?_
    show Steps p.tables e below (T3.setTop (mkF m 34 #[.val (.int p0), .val (.int (1 : Int32)), .val (.ref b1), .unset, .unset, .unset] [(.ref b1)])) _
    refine XS.pop X3.here hx rfl (hb hby at_34) rfl rfl ?_
    show Steps p.tables e below (T3.setTop (mkF m 35 #[.val (.int p0), .val (.int (1 : Int32)), .val (.ref b1), .unset, .unset, .unset] [])) _
    refine st4 _ ?_
    show Steps p.tables e below (T4.setTop (mkF m 37 #[.val (.int p0), .val (.int (1 : Int32)), .val (.ref b1), .unset, .unset, .unset] [(.ref a4)])) _
    refine XS.astoreN X4.here hx rfl (hb hby at_37) rfl rfl (l' := #[.val (.int p0), .val (.int (1 : Int32)), .val (.ref b1), .val (.ref a4), .unset, .unset]) rfl ?_
    show Steps p.tables e below (T4.setTop (mkF m 38 #[.val (.int p0), .val (.int (1 : Int32)), .val (.ref b1), .val (.ref a4), .unset, .unset] [])) _
    refine XS.goto X4.here hx rfl (pc0 := 38) (pc' := 103) rfl (hb hby at_38) (by decide) (by decide) ?_
    show Steps p.tables e below (T4.setTop (mkF m 103 #[.val (.int p0), .val (.int (1 : Int32)), .val (.ref b1), .val (.ref a4), .unset, .unset] [])) _
    refine XS.aloadN X4.here hx rfl (hb hby at_103) rfl rfl ?_
    show Steps p.tables e below (T4.setTop (mkF m 104 #[.val (.int p0), .val (.int (1 : Int32)), .val (.ref b1), .val (.ref a4), .unset, .unset] [(.ref b1)])) _
    refine st5.trans ?_
    show Steps p.tables e below (T5.setTop (mkF m 107 #[.val (.int p0), .val (.int (1 : Int32)), .val (.ref b1), .val (.ref a4), .unset, .unset] [(.ref b1)])) _
    refine XS.astore X5.here hx rfl (hb hby at_107) rfl rfl (l' := #[.val (.int p0), .val (.int (1 : Int32)), .val (.ref b1), .val (.ref a4), .val (.ref b1), .unset]) rfl ?_
    show Steps p.tables e below (T5.setTop (mkF m 109 #[.val (.int p0), .val (.int (1 : Int32)), .val (.ref b1), .val (.ref a4), .val (.ref b1), .unset] [])) _
    refine XS.aloadN X5.here hx rfl (hb hby at_109) rfl rfl ?_
    show Steps p.tables e below (T5.setTop (mkF m 110 #[.val (.int p0), .val (.int (1 : Int32)), .val (.ref b1), .val (.ref a4), .val (.ref b1), .unset] [(.ref b1)])) _
    refine st6.trans ?_
    show Steps p.tables e below (T6.setTop (mkF m 113 #[.val (.int p0), .val (.int (1 : Int32)), .val (.ref b1), .val (.ref a4), .val (.ref b1), .unset] [(.ref b1)])) _
    refine XS.astore X6.here hx rfl (hb hby at_113) rfl rfl (l' := #[.val (.int p0), .val (.int (1 : Int32)), .val (.ref b1), .val (.ref a4), .val (.ref b1), .val (.ref b1)]) rfl ?_
    show Steps p.tables e below (T6.setTop (mkF m 115 #[.val (.int p0), .val (.int (1 : Int32)), .val (.ref b1), .val (.ref a4), .val (.ref b1), .val (.ref b1)] [])) _
    refine XS.aload X6.here hx rfl (hb hby at_115) rfl rfl ?_
    show Steps p.tables e below (T6.setTop (mkF m 117 #[.val (.int p0), .val (.int (1 : Int32)), .val (.ref b1), .val (.ref a4), .val (.ref b1), .val (.ref b1)] [(.ref b1)])) _
    refine XS.aloadN X6.here hx rfl (hb hby at_117) rfl rfl ?_
    show Steps p.tables e below (T6.setTop (mkF m 118 #[.val (.int p0), .val (.int (1 : Int32)), .val (.ref b1), .val (.ref a4), .val (.ref b1), .val (.ref b1)] [(.ref b1), (.ref b1)])) _
    refine Jvm.RoadKit.acmp (g := (mkF m 118 #[.val (.int p0), .val (.int (1 : Int32)), .val (.ref b1), .val (.ref a4), .val (.ref b1), .val (.ref b1)] [(.ref b1), (.ref b1)])) X6 hx rfl rfl rfl (pc0 := 118) (pc' := 121) (same := true) rfl (hb hby at_118) rfl (decide_eq_true rfl) (by decide) (by decide) ?_
    show Steps p.tables e below (T6.setTop (mkF m 121 #[.val (.int p0), .val (.int (1 : Int32)), .val (.ref b1), .val (.ref a4), .val (.ref b1), .val (.ref b1)] [])) _
    refine XS.aload X6.here hx rfl (hb hby at_121) rfl rfl ?_
    show Steps p.tables e below (T6.setTop (mkF m 123 #[.val (.int p0), .val (.int (1 : Int32)), .val (.ref b1), .val (.ref a4), .val (.ref b1), .val (.ref b1)] [(.ref b1)])) _
    refine XS.aloadN X6.here hx rfl (hb hby at_123) rfl rfl ?_
    show Steps p.tables e below (T6.setTop (mkF m 124 #[.val (.int p0), .val (.int (1 : Int32)), .val (.ref b1), .val (.ref a4), .val (.ref b1), .val (.ref b1)] [(.ref b1), (.ref b1)])) _
    refine Jvm.RoadKit.acmp (g := (mkF m 124 #[.val (.int p0), .val (.int (1 : Int32)), .val (.ref b1), .val (.ref a4), .val (.ref b1), .val (.ref b1)] [(.ref b1), (.ref b1)])) X6 hx rfl rfl rfl (pc0 := 124) (pc' := 127) (same := true) rfl (hb hby at_124) rfl (decide_eq_true rfl) (by decide) (by decide) ?_
    show Steps p.tables e below (T6.setTop (mkF m 127 #[.val (.int p0), .val (.int (1 : Int32)), .val (.ref b1), .val (.ref a4), .val (.ref b1), .val (.ref b1)] [])) _
    refine XS.aloadN X6.here hx rfl (hb hby at_127) rfl rfl ?_
    show Steps p.tables e below (T6.setTop (mkF m 128 #[.val (.int p0), .val (.int (1 : Int32)), .val (.ref b1), .val (.ref a4), .val (.ref b1), .val (.ref b1)] [(.ref a4)])) _
    refine XS.aloadN X6.here hx rfl (hb hby at_128) rfl rfl ?_
    show Steps p.tables e below (T6.setTop (mkF m 129 #[.val (.int p0), .val (.int (1 : Int32)), .val (.ref b1), .val (.ref a4), .val (.ref b1), .val (.ref b1)] [(.ref b1), (.ref a4)])) _
    refine st7.trans ?_
    show Steps p.tables e below (T7.setTop (mkF m 132 #[.val (.int p0), .val (.int (1 : Int32)), .val (.ref b1), .val (.ref a4), .val (.ref b1), .val (.ref b1)] [(.ref st), (.ref a4)])) _
    refine st8.trans ?_
    show Steps p.tables e below (T8.setTop (mkF m 135 #[.val (.int p0), .val (.int (1 : Int32)), .val (.ref b1), .val (.ref a4), .val (.ref b1), .val (.ref b1)] [(.int (1 : Int32))])) _
    refine XS.ifNo X8.here hx rfl (hb hby at_135) rfl ((if0 _ _).trans (feq (by decide : ¬ ((1 : Int32) = (0 : Int32)))).1) ?_
    show Steps p.tables e below (T8.setTop (mkF m 138 #[.val (.int p0), .val (.int (1 : Int32)), .val (.ref b1), .val (.ref a4), .val (.ref b1), .val (.ref b1)] [])) _
    refine XS.iconst X8.here hx rfl (hb hby at_138) ?_
    show Steps p.tables e below (T8.setTop (mkF m 139 #[.val (.int p0), .val (.int (1 : Int32)), .val (.ref b1), .val (.ref a4), .val (.ref b1), .val (.ref b1)] [(.int (1 : Int32))])) _
    refine XS.goto X8.here hx rfl (pc0 := 139) (pc' := 143) rfl (hb hby at_139) (by decide) (by decide) ?_
    show Steps p.tables e below (T8.setTop (mkF m 143 #[.val (.int p0), .val (.int (1 : Int32)), .val (.ref b1), .val (.ref a4), .val (.ref b1), .val (.ref b1)] [(.int (1 : Int32))])) _
    exact retN X8 hx (t := .boolean) Bd.returns (by simp) (hb hby at_143) hr
  · show Q0_1 Z p0 fm cs h0 n0 _ T8.heap _
    rw [q8]
    exact ⟨rfl, N8⟩
theorem ef_rm0_2 (m : MethodId) (p0 : Int32) : entryFrame m #[(.int p0)] maxLocals = mkF m 0 #[.val (.int p0), .unset, .unset, .unset, .unset, .unset] [] := by first | (simp [entryFrame, mkF, argsToLocals, Value.category, maxLocals]; done) | rfl
def Q0_2 (Z : State) (p0 : Int32) (fm : Value) (cs : Int32) (h0 : Heap) (n0 : Nat) (v : Option Value) (h : Heap) (L : List Loc) : Prop := v = some (.int (1 : Int32)) ∧ Fr n0 L
set_option maxRecDepth 65536 in
set_option maxHeartbeats 40000000 in
theorem rm0_2 (l : Launch) (Z : State) (aw : Array Value) (hw : ∀ d ∈ tables_1, d.before aw Z = true) (ws : List Jvm.Cond) (p0 : Int32) (fm : Value) (cs : Int32) (h0 : Heap) (n0 : Nat) (Z0 : n0 ≤ h0.size) (SF : Sta Z h0 "jdk/internal/util/Preconditions" "SIOOBE_FORMATTER" "Ljava/util/function/BiFunction;" fm) (S0 : Sta Z h0 "java/lang/String" "COMPACT_STRINGS" "Z" (.int cs)) (hfm : fm.isRef = true) (hcs : ¬ (cs = (0 : Int32))) (hm : ((p0 &&& (2147483647 : Int32)) - (p0 &&& (2147483647 : Int32)) / (5 : Int32) * (5 : Int32)) = (2 : Int32)) :
    MetFree l x (head1 (Jvm.Cond.code x code maxLocals ret :: ws) room_1) (fun a U => a = #[(.int p0)] ∧ Z.Warmed39 U.vm ∧ U.heap = h0 ∧ CHv Z consts_1 U.vm h0) (fun _ _ _ _ _ => True) (fun _ U o U' => ∃ v L, o = .returned v ∧ Q0_2 Z p0 fm cs h0 n0 v U'.heap L ∧ CHr Z consts_1 U.vm U.heap U'.vm U'.heap ∧ ReturnedEndW U o U' L room_1.cells room_1.slots) := by
  refine MetFree.of_bodySF (plainFor_of_name pn_latentrace_io_JsonWriterNullValuePinLaw) hisR ?_
  intro p e s m args below meth cd s₁ Bd hml0 hP hK
  obtain ⟨rfl, hZ, hh, hCH⟩ := hP
  have hx := Bd.exec
  have hby := Bd.bytes
  have hml : cd.maxLocals = 6 := hml0
  have hown : s.vm.findClass "latentrace/io/JsonWriterNullValuePinLaw" = some m.cls := findClass_of_methodNamed Bd.named
  have hnm := (name_of_methodNamed Bd.named Bd.method).1
  have X0 : Stand p l e room_1 (s.setVm s.vm) m #[(.int p0)] below meth cd s₁ [] 0 0 := Stand.of_body Bd
  have e0 : s₁.heap = h0 := by rw [← hh, Bd.state]; rfl
  have N0 := Fr.nil n0
  have pre0 : ∀ t, Steps p.tables e below (s₁.setTop (mkF m 0 #[.val (.int p0), .unset, .unset, .unset, .unset, .unset] [])) t → Steps p.tables e below (s₁.setTop (entryFrame m #[(.int p0)] maxLocals)) t := fun t k => castTop (ef_rm0_2 m p0) k
  have hZ_0 := hZ
  have hown_0 := hown
  have hS0 : s.Since s.vm 0 := (State.WarmedH.refl s).since 0
  have hk0 : 0 ≤ h0.size := Nat.zero_le _
  have R0 : CHr Z consts_1 s.vm h0 s.vm h0 := CHr.refl hCH
  obtain ⟨T1, h1, X1, e1, E1, A1, D1, -, st1⟩ := newO X0 hx hZ hown (hw _ (List.mem_of_getElem? (i := 1) rfl)) (hw _ (List.mem_of_getElem? (i := 2) rfl)) (hw _ (List.mem_of_getElem? (i := 3) rfl)) e0 (g := (mkF m 7 #[.val (.int p0), .val (.int (2 : Int32)), .unset, .unset, .unset, .unset] [])) rfl (hb hby at_7) (by decide) (by decide)
  obtain ⟨b1, g1⟩ : ∃ z, z = h0.size := ⟨_, rfl⟩
  rw [← g1] at A1 D1 st1
  have g_b1 : n0 ≤ b1 := Nat.le_trans Z0 (Nat.le_of_eq g1.symm)
  have sz_b1 : h0.size ≤ b1 := Nat.le_trans (Keep.refl h0 []).1 (Nat.le_of_eq g1.symm)
  have S0__1 := S0.ext E1
  have SF__1 := SF.ext E1
  have K1 : Keep h0 h1 [] := (Keep.refl h0 []).ext E1
  have Zs1 : n0 ≤ h1.size := Nat.le_trans Z0 E1.1
  have hk1 := Nat.le_trans hk0 E1.1
  have R1 := R0.trans (CHr.ext E1 R0.1)
  have F_text_b1 : Fld Z h1 b1 "latentrace/io/JsonWriter" "text" "Ljava/lang/StringBuilder;" .null := D1 (Or.inr (hw _ (List.mem_of_getElem? (i := 31) rfl))) (ty := (.object "java/lang/StringBuilder")) (by decide)
  have F_afterValue_b1 : Fld Z h1 b1 "latentrace/io/JsonWriter" "afterValue" "Z" (.int (0 : Int32)) := D1 (Or.inl (hw _ (List.mem_of_getElem? (i := 48) rfl))) (ty := .boolean) (by decide)
  obtain ⟨_, _, ⟨T2, L2, k2, n2⟩, -, X2, ⟨Lc2, hQ2, l2, y2, z2⟩, st2⟩ := X1.specialBack hx (y := (⟨"latentrace/io/JsonWriter", "<init>", "()V"⟩ : MethodName)) rfl hown (mvT hZ (hw _ (List.mem_of_getElem? (i := 4) rfl))) (mvT hZ (hw _ (List.mem_of_getElem? (i := 5) rfl))) (mvT hZ (hw _ (List.mem_of_getElem? (i := 6) rfl))) (by decide) (backOf (W := 1) (rmJInit l Z aw hw [] b1 .null cs h1 n0 Zs1 A1 g_b1 F_text_b1 F_afterValue_b1 S0__1 hcs) hZ (hw _ (List.mem_of_getElem? (i := 6) rfl)) (hw _ (List.mem_of_getElem? (i := 3) rfl)) (by decide) (by decide)) (g := (mkF m 11 #[.val (.int p0), .val (.int (2 : Int32)), .unset, .unset, .unset, .unset] [(.ref b1), (.ref b1)])) rfl (by rw [hml]; rfl) (Steps.refl _) (a := b1) (argsL := []) (rest := [(.ref b1)]) (lenOf pd___V rfl) rfl (by show 2 * 0 + _ ≤ _; exact Nat.le_of_eq rfl) (hb hby at_11) (fun _ _ => ⟨rfl, e1, (by decide : 1 + 2 ≤ _), (by decide : 2 + 20 ≤ _)⟩)
  dsimp only [Pt.U, Pt.locs, Pt.cells, Pt.slots] at X2 l2 y2 z2 st2 hQ2
  subst l2 y2 z2
  obtain ⟨sb, b, k, rfl, N2q, gsb, gb, Kc2, Ej2, Ft2, Fa2, Ec2, Fv2, Fk2, Fn2, Vb2⟩ := hQ2
  have N2 := Fr.app N0 N2q
  have sz_sb : h0.size ≤ sb := Nat.le_trans K1.1 gsb
  have g_sb : n0 ≤ sb := Nat.le_trans Zs1 gsb
  have sz_b : h0.size ≤ b := Nat.le_trans K1.1 gb
  have g_b : n0 ≤ b := Nat.le_trans Zs1 gb
  have S0__2 := own_sta_keep S0__1 Kc2 (nsS (A1.nostat) ns0)
  have SF__2 := own_sta_keep SF__1 Kc2 (nsS (A1.nostat) ns0)
  have KK2 : Keep h0 T2.heap [] := Keep.trans K1 Kc2 (fun x q => by cases List.mem_singleton.mp q; exact (Or.inr sz_b1))
  have Zs2 : n0 ≤ T2.heap.size := Nat.le_trans Zs1 Kc2.1
  have R2 := R1.trans (CHr.keep Kc2 (sfS (Safe.exa hZ.alike A1 (by decide) (by decide)) sf0) R1.1)
  have hk2 := Nat.le_trans hk1 Kc2.1
  obtain ⟨cq3, kq3, q3a, q3b, q3c⟩ := isOf hZ rfl Ej2
  obtain ⟨_, _, ⟨T3, L3, k3, n3⟩, -, X3, ⟨Lc3, hQ3, l3, y3, z3⟩, st3⟩ := X2.virtualBack hx (y := (⟨"latentrace/io/JsonWriter", "beginArray", "()Llatentrace/io/JsonWriter;"⟩ : MethodName)) (z := (⟨"latentrace/io/JsonWriter", "beginArray", "()Llatentrace/io/JsonWriter;"⟩ : MethodName)) hown (mvT hZ (hw _ (List.mem_of_getElem? (i := 227) rfl))) (mvT hZ (hw _ (List.mem_of_getElem? (i := 228) rfl))) (notFace_of_selects (args := #[]) (mvT hZ (hw _ (List.mem_of_getElem? (i := 230) rfl)))) (mvT hZ (hw _ (List.mem_of_getElem? (i := 230) rfl))) (mvT hZ (hw _ (List.mem_of_getElem? (i := 229) rfl))) (by decide) (backOf (W := 0) (rm_beginArray l Z aw hw [] b1  sb b k (0 : Int32) [(.int (0 : Int32)), (.int (0 : Int32)), (.int (0 : Int32)), (.int (0 : Int32)), (.int (0 : Int32)), (.int (0 : Int32)), (.int (0 : Int32)), (.int (0 : Int32)), (.int (0 : Int32)), (.int (0 : Int32)), (.int (0 : Int32)), (.int (0 : Int32)), (.int (0 : Int32)), (.int (0 : Int32)), (.int (0 : Int32)), (.int (0 : Int32))]  cs T2.heap n0 Zs2 Ej2 g_b1 Ft2 Fa2 Ec2 g_sb Fv2 Fk2 Fn2 Vb2 g_b  S0__2 (by decide) (by decide) (by decide) hcs) hZ (hw _ (List.mem_of_getElem? (i := 231) rfl)) (hw _ (List.mem_of_getElem? (i := 3) rfl)) (by decide) (by decide)) q3a q3c (g := (mkF m 47 #[.val (.int p0), .val (.int (2 : Int32)), .val (.ref b1), .unset, .unset, .unset] [(.ref b1)])) rfl (by rw [hml]; rfl) (Steps.refl _) (argsL := []) (rest := []) (lenOf pd___Llatentrace_io_JsonWriter_ rfl) rfl (by show 2 * 0 + _ ≤ _; exact Nat.le_of_eq rfl) (hb hby at_47) (fun _ _ => ⟨rfl, rfl, (by decide : 3 + 0 ≤ _), (by decide : 22 + 0 ≤ _)⟩)
  dsimp only [Pt.U, Pt.locs, Pt.cells, Pt.slots] at X3 l3 y3 z3 st3 hQ3
  subst l3 y3 z3
  obtain ⟨rfl, N3q, Kc3, Ej3, Ft3, Fa3, Ec3, Fv3, Fk3, Fn3, Vb3⟩ := hQ3
  have N3 := Fr.app N2 N3q
  rw [(by decide : ((0 : Int32) + (1 : Int32)) = (1 : Int32))] at Fn3
  rw [(by first | rfl | decide : (([(.int (0 : Int32)), (.int (0 : Int32)), (.int (0 : Int32)), (.int (0 : Int32)), (.int (0 : Int32)), (.int (0 : Int32)), (.int (0 : Int32)), (.int (0 : Int32)), (.int (0 : Int32)), (.int (0 : Int32)), (.int (0 : Int32)), (.int (0 : Int32)), (.int (0 : Int32)), (.int (0 : Int32)), (.int (0 : Int32)), (.int (0 : Int32))].set ((0 : Int32)).toNatClampNeg (.int (nar .byte ((91 : Int32).toInt8.toInt32)))) : List Value) = [(.int (91 : Int32)), (.int (0 : Int32)), (.int (0 : Int32)), (.int (0 : Int32)), (.int (0 : Int32)), (.int (0 : Int32)), (.int (0 : Int32)), (.int (0 : Int32)), (.int (0 : Int32)), (.int (0 : Int32)), (.int (0 : Int32)), (.int (0 : Int32)), (.int (0 : Int32)), (.int (0 : Int32)), (.int (0 : Int32)), (.int (0 : Int32))])] at Vb3
  have S0__3 := own_sta_keep S0__2 Kc3 (nsS (Ej2.nostat) (nsS (Ec2.nostat) (nsS (Vb2.nostat) ns0)))
  have SF__3 := own_sta_keep SF__2 Kc3 (nsS (Ej2.nostat) (nsS (Ec2.nostat) (nsS (Vb2.nostat) ns0)))
  have KK3 : Keep h0 T3.heap [] := Keep.trans KK2 Kc3 (fun x q => by simp only [List.mem_cons, List.not_mem_nil, or_false] at q; rcases q with rfl | rfl | rfl <;> first | exact (Or.inr sz_b1) | exact (Or.inr sz_sb) | exact (Or.inr sz_b))
  have Zs3 : n0 ≤ T3.heap.size := Nat.le_trans Zs2 Kc3.1
  have R3 := R2.trans (CHr.keep Kc3 (sfS (Safe.exa hZ.alike Ej2 (by decide) (by decide)) (sfS (Safe.exa hZ.alike Ec2 (by decide) (by decide)) (sfS (own_safe hw hZ Vb2) sf0))) R2.1)
  have hk3 := Nat.le_trans hk2 Kc3.1
  obtain ⟨cq4, kq4, q4a, q4b, q4c⟩ := isOf hZ rfl Ej3
  obtain ⟨_, _, ⟨T4, L4, k4, n4⟩, -, X4, ⟨Lc4, hQ4, l4, y4, z4⟩, st4⟩ := X3.virtualBack hx (y := (⟨"latentrace/io/JsonWriter", "endArray", "()Llatentrace/io/JsonWriter;"⟩ : MethodName)) (z := (⟨"latentrace/io/JsonWriter", "endArray", "()Llatentrace/io/JsonWriter;"⟩ : MethodName)) hown (mvT hZ (hw _ (List.mem_of_getElem? (i := 233) rfl))) (mvT hZ (hw _ (List.mem_of_getElem? (i := 234) rfl))) (notFace_of_selects (args := #[]) (mvT hZ (hw _ (List.mem_of_getElem? (i := 236) rfl)))) (mvT hZ (hw _ (List.mem_of_getElem? (i := 236) rfl))) (mvT hZ (hw _ (List.mem_of_getElem? (i := 235) rfl))) (by decide) (backOf (W := 0) (rm_endArray l Z aw hw [] b1  sb b k (1 : Int32) [(.int (91 : Int32)), (.int (0 : Int32)), (.int (0 : Int32)), (.int (0 : Int32)), (.int (0 : Int32)), (.int (0 : Int32)), (.int (0 : Int32)), (.int (0 : Int32)), (.int (0 : Int32)), (.int (0 : Int32)), (.int (0 : Int32)), (.int (0 : Int32)), (.int (0 : Int32)), (.int (0 : Int32)), (.int (0 : Int32)), (.int (0 : Int32))]  cs T3.heap n0 Zs3 Ej3 g_b1 Ft3 Fa3 Ec3 g_sb Fv3 Fk3 Fn3 Vb3 g_b  S0__3 (by decide) (by decide) (by decide) hcs) hZ (hw _ (List.mem_of_getElem? (i := 237) rfl)) (hw _ (List.mem_of_getElem? (i := 3) rfl)) (by decide) (by decide)) q4a q4c (g := (mkF m 52 #[.val (.int p0), .val (.int (2 : Int32)), .val (.ref b1), .unset, .unset, .unset] [(.ref b1)])) rfl (by rw [hml]; rfl) (Steps.refl _) (argsL := []) (rest := []) (lenOf pd___Llatentrace_io_JsonWriter_ rfl) rfl (by show 2 * 0 + _ ≤ _; exact Nat.le_of_eq rfl) (hb hby at_52) (fun _ _ => ⟨rfl, rfl, (by decide : 3 + 0 ≤ _), (by decide : 22 + 0 ≤ _)⟩)
  dsimp only [Pt.U, Pt.locs, Pt.cells, Pt.slots] at X4 l4 y4 z4 st4 hQ4
  subst l4 y4 z4
  obtain ⟨rfl, N4q, Kc4, Ej4, Ft4, Fa4, Ec4, Fv4, Fk4, Fn4, Vb4⟩ := hQ4
  have N4 := Fr.app N3 N4q
  rw [(by decide : ((1 : Int32) + (1 : Int32)) = (2 : Int32))] at Fn4
  rw [(by first | rfl | decide : (([(.int (91 : Int32)), (.int (0 : Int32)), (.int (0 : Int32)), (.int (0 : Int32)), (.int (0 : Int32)), (.int (0 : Int32)), (.int (0 : Int32)), (.int (0 : Int32)), (.int (0 : Int32)), (.int (0 : Int32)), (.int (0 : Int32)), (.int (0 : Int32)), (.int (0 : Int32)), (.int (0 : Int32)), (.int (0 : Int32)), (.int (0 : Int32))].set ((1 : Int32)).toNatClampNeg (.int (nar .byte ((93 : Int32).toInt8.toInt32)))) : List Value) = [(.int (91 : Int32)), (.int (93 : Int32)), (.int (0 : Int32)), (.int (0 : Int32)), (.int (0 : Int32)), (.int (0 : Int32)), (.int (0 : Int32)), (.int (0 : Int32)), (.int (0 : Int32)), (.int (0 : Int32)), (.int (0 : Int32)), (.int (0 : Int32)), (.int (0 : Int32)), (.int (0 : Int32)), (.int (0 : Int32)), (.int (0 : Int32))])] at Vb4
  have S0__4 := own_sta_keep S0__3 Kc4 (nsS (Ej3.nostat) (nsS (Ec3.nostat) (nsS (Vb3.nostat) ns0)))
  have SF__4 := own_sta_keep SF__3 Kc4 (nsS (Ej3.nostat) (nsS (Ec3.nostat) (nsS (Vb3.nostat) ns0)))
  have KK4 : Keep h0 T4.heap [] := Keep.trans KK3 Kc4 (fun x q => by simp only [List.mem_cons, List.not_mem_nil, or_false] at q; rcases q with rfl | rfl | rfl <;> first | exact (Or.inr sz_b1) | exact (Or.inr sz_sb) | exact (Or.inr sz_b))
  have Zs4 : n0 ≤ T4.heap.size := Nat.le_trans Zs3 Kc4.1
  have R4 := R3.trans (CHr.keep Kc4 (sfS (Safe.exa hZ.alike Ej3 (by decide) (by decide)) (sfS (Safe.exa hZ.alike Ec3 (by decide) (by decide)) (sfS (own_safe hw hZ Vb3) sf0))) R3.1)
  have hk4 := Nat.le_trans hk3 Kc4.1
  obtain ⟨a5, T5, h5, k5, d5, kd5, X5, e5, E5, hS5, hk5, hZ, hown, Es5, Sk5, Sv5, W5, la5, lb5, Rl5, -, -, st5⟩ := ldcCH X4 hx hZ hown (hw _ (List.mem_of_getElem? (i := 243) rfl)) (own_strs hw) rfl hS0 hk4 (own_ew hw) (List.mem_of_getElem? (i := 3) rfl) R4.1 (vs := [(.int (91 : Int32)), (.int (93 : Int32)), (.int (44 : Int32)), (.int (110 : Int32)), (.int (117 : Int32)), (.int (108 : Int32)), (.int (108 : Int32)), (.int (44 : Int32)), (.int (110 : Int32)), (.int (117 : Int32)), (.int (108 : Int32)), (.int (108 : Int32))]) (z := (12 : Int32)) ⟨by decide, by rfl⟩ (by decide) (by decide) (g := (mkF m 56 #[.val (.int p0), .val (.int (2 : Int32)), .val (.ref b1), .unset, .unset, .unset] [])) rfl (hb hby at_56) (n := 48) (by decide) (by decide) (by decide) (by decide)
  have hZ_5 := hZ
  have hown_5 := hown
  have S0__5 := S0__4.ext E5
  have SF__5 := SF__4.ext E5
  have Ec4__5 := Ec4.ext E5
  have Fv4__5 := Fv4.ext E5
  have Fk4__5 := Fk4.ext E5
  have Fn4__5 := Fn4.ext E5
  have Vb4__5 := Vb4.ext E5
  have Ej4__5 := Ej4.ext E5
  have Ft4__5 := Ft4.ext E5
  have Fa4__5 := Fa4.ext E5
  have K5 : Keep h0 h5 [] := KK4.ext E5
  have Zs5 : n0 ≤ h5.size := Nat.le_trans Zs4 E5.1
  have R5 := R4.trans Rl5
  obtain ⟨cq6, kq6, q6a, q6b, q6c⟩ := isOf hZ e5 Ej4__5
  obtain ⟨_, _, ⟨T6, L6, k6, n6⟩, -, X6, hs6, hg6, ⟨Lc6, hQ6, l6, y6, z6, Rc6⟩, st6⟩ := X5.virtualBackS hx (y := (⟨"latentrace/io/JsonWriter", "nullValue", "()Llatentrace/io/JsonWriter;"⟩ : MethodName)) (z := (⟨"latentrace/io/JsonWriter", "nullValue", "()Llatentrace/io/JsonWriter;"⟩ : MethodName)) hown (mvT hZ (hw _ (List.mem_of_getElem? (i := 38) rfl))) (mvT hZ (hw _ (List.mem_of_getElem? (i := 39) rfl))) (notFace_of_selects (args := #[]) (mvT hZ (hw _ (List.mem_of_getElem? (i := 41) rfl)))) (mvT hZ (hw _ (List.mem_of_getElem? (i := 41) rfl))) (mvT hZ (hw _ (List.mem_of_getElem? (i := 40) rfl))) (by decide) (backOfSH (W := 0) (rmNull1 l Z aw hw [] b1  sb b k (2 : Int32) [(.int (91 : Int32)), (.int (93 : Int32)), (.int (0 : Int32)), (.int (0 : Int32)), (.int (0 : Int32)), (.int (0 : Int32)), (.int (0 : Int32)), (.int (0 : Int32)), (.int (0 : Int32)), (.int (0 : Int32)), (.int (0 : Int32)), (.int (0 : Int32)), (.int (0 : Int32)), (.int (0 : Int32)), (.int (0 : Int32)), (.int (0 : Int32))]  cs h5 n0 Zs5 Ej4__5 g_b1 Ft4__5 Fa4__5 Ec4__5 g_sb Fv4__5 Fk4__5 Fn4__5 Vb4__5 g_b  S0__5 (by decide) (by decide) (by decide) (by decide) (by decide) (by decide) (by decide) hcs) hZ (hw _ (List.mem_of_getElem? (i := 42) rfl)) (hw _ (List.mem_of_getElem? (i := 3) rfl)) (by decide) (by decide) (own_ew hw) R5.1) q6a q6c (g := (mkF m 104 #[.val (.int p0), .val (.int (2 : Int32)), .val (.ref b1), .val (.ref a5), .unset, .unset] [(.ref b1)])) rfl (by rw [hml]; rfl) (Steps.refl _) (argsL := []) (rest := []) (lenOf pd___Llatentrace_io_JsonWriter_ rfl) rfl (by show 2 * 0 + _ ≤ _; exact Nat.le_of_eq rfl) (hb hby at_104) (fun _ _ => ⟨rfl, e5, (by decide : 5 + 2 ≤ _), (by decide : 74 + 20 ≤ _)⟩)
  dsimp only [Pt.U, Pt.locs, Pt.cells, Pt.slots] at X6 l6 y6 z6 st6 hQ6 hs6 hg6 Rc6
  subst l6 y6 z6
  obtain ⟨X6, hS6, hZ, hown⟩ := rebS hS5 (by rw [e5]; exact hk5) X6 hs6 hg6 hZ hown
  obtain ⟨rfl, N6q, Kc6, Ej6, Ft6, Fa6, Ec6, Fv6, Fk6, Fn6, Vb6⟩ := hQ6
  have N6 := Fr.app N4 N6q
  rw [(by decide : (((2 : Int32) + (1 : Int32)) + (4 : Int32)) = (7 : Int32))] at Fn6
  rw [(by first | rfl | decide : ((([(.int (91 : Int32)), (.int (93 : Int32)), (.int (0 : Int32)), (.int (0 : Int32)), (.int (0 : Int32)), (.int (0 : Int32)), (.int (0 : Int32)), (.int (0 : Int32)), (.int (0 : Int32)), (.int (0 : Int32)), (.int (0 : Int32)), (.int (0 : Int32)), (.int (0 : Int32)), (.int (0 : Int32)), (.int (0 : Int32)), (.int (0 : Int32))].set ((2 : Int32)).toNatClampNeg (.int (nar .byte ((44 : Int32).toInt8.toInt32)))).take (((2 : Int32) + (1 : Int32))).toNatClampNeg ++ [(.int (110 : Int32)), (.int (117 : Int32)), (.int (108 : Int32)), (.int (108 : Int32))] ++ ([(.int (91 : Int32)), (.int (93 : Int32)), (.int (0 : Int32)), (.int (0 : Int32)), (.int (0 : Int32)), (.int (0 : Int32)), (.int (0 : Int32)), (.int (0 : Int32)), (.int (0 : Int32)), (.int (0 : Int32)), (.int (0 : Int32)), (.int (0 : Int32)), (.int (0 : Int32)), (.int (0 : Int32)), (.int (0 : Int32)), (.int (0 : Int32))].set ((2 : Int32)).toNatClampNeg (.int (nar .byte ((44 : Int32).toInt8.toInt32)))).drop ((((2 : Int32) + (1 : Int32))).toNatClampNeg + ((4 : Int32)).toNatClampNeg)) : List Value) = [(.int (91 : Int32)), (.int (93 : Int32)), (.int (44 : Int32)), (.int (110 : Int32)), (.int (117 : Int32)), (.int (108 : Int32)), (.int (108 : Int32)), (.int (0 : Int32)), (.int (0 : Int32)), (.int (0 : Int32)), (.int (0 : Int32)), (.int (0 : Int32)), (.int (0 : Int32)), (.int (0 : Int32)), (.int (0 : Int32)), (.int (0 : Int32))])] at Vb6
  have hZ_6 := hZ
  have hown_6 := hown
  have S0__6 := own_sta_keep S0__5 Kc6 (nsS (Ej4__5.nostat) (nsS (Ec4__5.nostat) (nsS (Vb4__5.nostat) ns0)))
  have SF__6 := own_sta_keep SF__5 Kc6 (nsS (Ej4__5.nostat) (nsS (Ec4__5.nostat) (nsS (Vb4__5.nostat) ns0)))
  have Es5__6 := Es5.keep Kc6
  have Sk5__6 := Sk5.keep Kc6 (by simp only [List.mem_cons, List.not_mem_nil, or_false, not_or]; exact ⟨(ne_exa Es5 Ej4__5 (by decide)), (ne_exa Es5 Ec4__5 (by decide)), (Es5.neArv Vb4__5 (hw _ (List.mem_of_getElem? (i := 33) rfl)))⟩)
  have Sv5__6 := Sv5.keep Kc6 (by simp only [List.mem_cons, List.not_mem_nil, or_false, not_or]; exact ⟨(ne_exa Es5 Ej4__5 (by decide)), (ne_exa Es5 Ec4__5 (by decide)), (Es5.neArv Vb4__5 (hw _ (List.mem_of_getElem? (i := 33) rfl)))⟩)
  have W5__6 := W5.keep Kc6 (by simp only [List.mem_cons, List.not_mem_nil, or_false, not_or]; exact ⟨(Ne.symm (Ej4__5.neArv W5 (hw _ (List.mem_of_getElem? (i := 2) rfl)))), (Ne.symm (Ec4__5.neArv W5 (hw _ (List.mem_of_getElem? (i := 11) rfl)))), (arv_ne W5 Vb4__5 (Or.inl (by decide)))⟩)
  have KK6 : Keep h0 T6.heap [] := Keep.trans K5 Kc6 (fun x q => by simp only [List.mem_cons, List.not_mem_nil, or_false] at q; rcases q with rfl | rfl | rfl <;> first | exact (Or.inr sz_b1) | exact (Or.inr sz_sb) | exact (Or.inr sz_b))
  have Zs6 : n0 ≤ T6.heap.size := Nat.le_trans Zs5 Kc6.1
  have R6 := R5.trans Rc6
  have hk6 : T6.heap.size ≤ T6.heap.size := Nat.le_refl _
  obtain ⟨cq7, kq7, q7a, q7b, q7c⟩ := isOf hZ rfl Ej6
  obtain ⟨_, _, ⟨T7, L7, k7, n7⟩, -, X7, hs7, hg7, ⟨Lc7, hQ7, l7, y7, z7, Rc7⟩, st7⟩ := X6.virtualBackS hx (y := (⟨"latentrace/io/JsonWriter", "nullValue", "()Llatentrace/io/JsonWriter;"⟩ : MethodName)) (z := (⟨"latentrace/io/JsonWriter", "nullValue", "()Llatentrace/io/JsonWriter;"⟩ : MethodName)) hown (mvT hZ (hw _ (List.mem_of_getElem? (i := 38) rfl))) (mvT hZ (hw _ (List.mem_of_getElem? (i := 39) rfl))) (notFace_of_selects (args := #[]) (mvT hZ (hw _ (List.mem_of_getElem? (i := 41) rfl)))) (mvT hZ (hw _ (List.mem_of_getElem? (i := 41) rfl))) (mvT hZ (hw _ (List.mem_of_getElem? (i := 40) rfl))) (by decide) (backOfSH (W := 0) (rmNull1 l Z aw hw [] b1  sb b k (7 : Int32) [(.int (91 : Int32)), (.int (93 : Int32)), (.int (44 : Int32)), (.int (110 : Int32)), (.int (117 : Int32)), (.int (108 : Int32)), (.int (108 : Int32)), (.int (0 : Int32)), (.int (0 : Int32)), (.int (0 : Int32)), (.int (0 : Int32)), (.int (0 : Int32)), (.int (0 : Int32)), (.int (0 : Int32)), (.int (0 : Int32)), (.int (0 : Int32))]  cs T6.heap n0 Zs6 Ej6 g_b1 Ft6 Fa6 Ec6 g_sb Fv6 Fk6 Fn6 Vb6 g_b  S0__6 (by decide) (by decide) (by decide) (by decide) (by decide) (by decide) (by decide) hcs) hZ (hw _ (List.mem_of_getElem? (i := 42) rfl)) (hw _ (List.mem_of_getElem? (i := 3) rfl)) (by decide) (by decide) (own_ew hw) R6.1) q7a q7c (g := (mkF m 110 #[.val (.int p0), .val (.int (2 : Int32)), .val (.ref b1), .val (.ref a5), .val (.ref b1), .unset] [(.ref b1)])) rfl (by rw [hml]; rfl) (Steps.refl _) (argsL := []) (rest := []) (lenOf pd___Llatentrace_io_JsonWriter_ rfl) rfl (by show 2 * 0 + _ ≤ _; exact Nat.le_of_eq rfl) (hb hby at_110) (fun _ _ => ⟨rfl, rfl, (by decide : 7 + 2 ≤ _), (by decide : 94 + 20 ≤ _)⟩)
  dsimp only [Pt.U, Pt.locs, Pt.cells, Pt.slots] at X7 l7 y7 z7 st7 hQ7 hs7 hg7 Rc7
  subst l7 y7 z7
  obtain ⟨X7, hS7, hZ, hown⟩ := rebS hS6 hk6 X7 hs7 hg7 hZ hown
  obtain ⟨rfl, N7q, Kc7, Ej7, Ft7, Fa7, Ec7, Fv7, Fk7, Fn7, Vb7⟩ := hQ7
  have N7 := Fr.app N6 N7q
  rw [(by decide : (((7 : Int32) + (1 : Int32)) + (4 : Int32)) = (12 : Int32))] at Fn7
  rw [(by first | rfl | decide : ((([(.int (91 : Int32)), (.int (93 : Int32)), (.int (44 : Int32)), (.int (110 : Int32)), (.int (117 : Int32)), (.int (108 : Int32)), (.int (108 : Int32)), (.int (0 : Int32)), (.int (0 : Int32)), (.int (0 : Int32)), (.int (0 : Int32)), (.int (0 : Int32)), (.int (0 : Int32)), (.int (0 : Int32)), (.int (0 : Int32)), (.int (0 : Int32))].set ((7 : Int32)).toNatClampNeg (.int (nar .byte ((44 : Int32).toInt8.toInt32)))).take (((7 : Int32) + (1 : Int32))).toNatClampNeg ++ [(.int (110 : Int32)), (.int (117 : Int32)), (.int (108 : Int32)), (.int (108 : Int32))] ++ ([(.int (91 : Int32)), (.int (93 : Int32)), (.int (44 : Int32)), (.int (110 : Int32)), (.int (117 : Int32)), (.int (108 : Int32)), (.int (108 : Int32)), (.int (0 : Int32)), (.int (0 : Int32)), (.int (0 : Int32)), (.int (0 : Int32)), (.int (0 : Int32)), (.int (0 : Int32)), (.int (0 : Int32)), (.int (0 : Int32)), (.int (0 : Int32))].set ((7 : Int32)).toNatClampNeg (.int (nar .byte ((44 : Int32).toInt8.toInt32)))).drop ((((7 : Int32) + (1 : Int32))).toNatClampNeg + ((4 : Int32)).toNatClampNeg)) : List Value) = [(.int (91 : Int32)), (.int (93 : Int32)), (.int (44 : Int32)), (.int (110 : Int32)), (.int (117 : Int32)), (.int (108 : Int32)), (.int (108 : Int32)), (.int (44 : Int32)), (.int (110 : Int32)), (.int (117 : Int32)), (.int (108 : Int32)), (.int (108 : Int32)), (.int (0 : Int32)), (.int (0 : Int32)), (.int (0 : Int32)), (.int (0 : Int32))])] at Vb7
  have hZ_7 := hZ
  have hown_7 := hown
  have S0__7 := own_sta_keep S0__6 Kc7 (nsS (Ej6.nostat) (nsS (Ec6.nostat) (nsS (Vb6.nostat) ns0)))
  have SF__7 := own_sta_keep SF__6 Kc7 (nsS (Ej6.nostat) (nsS (Ec6.nostat) (nsS (Vb6.nostat) ns0)))
  have Es5__7 := Es5__6.keep Kc7
  have Sk5__7 := Sk5__6.keep Kc7 (by simp only [List.mem_cons, List.not_mem_nil, or_false, not_or]; exact ⟨(ne_exa Es5__6 Ej6 (by decide)), (ne_exa Es5__6 Ec6 (by decide)), (Es5__6.neArv Vb6 (hw _ (List.mem_of_getElem? (i := 33) rfl)))⟩)
  have Sv5__7 := Sv5__6.keep Kc7 (by simp only [List.mem_cons, List.not_mem_nil, or_false, not_or]; exact ⟨(ne_exa Es5__6 Ej6 (by decide)), (ne_exa Es5__6 Ec6 (by decide)), (Es5__6.neArv Vb6 (hw _ (List.mem_of_getElem? (i := 33) rfl)))⟩)
  have W5__7 := W5__6.keep Kc7 (by simp only [List.mem_cons, List.not_mem_nil, or_false, not_or]; exact ⟨(Ne.symm (Ej6.neArv W5__6 (hw _ (List.mem_of_getElem? (i := 2) rfl)))), (Ne.symm (Ec6.neArv W5__6 (hw _ (List.mem_of_getElem? (i := 11) rfl)))), (arv_ne W5__6 Vb6 (Or.inl (by decide)))⟩)
  have KK7 : Keep h0 T7.heap [] := Keep.trans KK6 Kc7 (fun x q => by simp only [List.mem_cons, List.not_mem_nil, or_false] at q; rcases q with rfl | rfl | rfl <;> first | exact (Or.inr sz_b1) | exact (Or.inr sz_sb) | exact (Or.inr sz_b))
  have Zs7 : n0 ≤ T7.heap.size := Nat.le_trans Zs6 Kc7.1
  have R7 := R6.trans Rc7
  have hk7 : T7.heap.size ≤ T7.heap.size := Nat.le_refl _
  obtain ⟨cq8, kq8, q8a, q8b, q8c⟩ := isOf hZ rfl Ej7
  obtain ⟨_, _, ⟨T8, L8, k8, n8⟩, -, X8, ⟨Lc8, hQ8, l8, y8, z8⟩, st8⟩ := X7.virtualBack hx (y := (⟨"latentrace/io/JsonWriter", "toString", "()Ljava/lang/String;"⟩ : MethodName)) (z := (⟨"latentrace/io/JsonWriter", "toString", "()Ljava/lang/String;"⟩ : MethodName)) hown (mvT hZ (hw _ (List.mem_of_getElem? (i := 118) rfl))) (mvT hZ (hw _ (List.mem_of_getElem? (i := 119) rfl))) (notFace_of_selects (args := #[]) (mvT hZ (hw _ (List.mem_of_getElem? (i := 121) rfl)))) (mvT hZ (hw _ (List.mem_of_getElem? (i := 121) rfl))) (mvT hZ (hw _ (List.mem_of_getElem? (i := 120) rfl))) (by decide) (backOf (W := 1) (rmJTS l Z aw hw [] b1 sb b k (12 : Int32) [(.int (91 : Int32)), (.int (93 : Int32)), (.int (44 : Int32)), (.int (110 : Int32)), (.int (117 : Int32)), (.int (108 : Int32)), (.int (108 : Int32)), (.int (44 : Int32)), (.int (110 : Int32)), (.int (117 : Int32)), (.int (108 : Int32)), (.int (108 : Int32)), (.int (0 : Int32)), (.int (0 : Int32)), (.int (0 : Int32)), (.int (0 : Int32))] cs T7.heap n0 Zs7 Ej7 g_b1 Ft7 Fa7 Ec7 g_sb Fv7 Fk7 Fn7 Vb7 g_b S0__7 (by decide) (by decide) (by decide) (by decide) hcs) hZ (hw _ (List.mem_of_getElem? (i := 122) rfl)) (hw _ (List.mem_of_getElem? (i := 3) rfl)) (by decide) (by decide)) q8a q8c (g := (mkF m 129 #[.val (.int p0), .val (.int (2 : Int32)), .val (.ref b1), .val (.ref a5), .val (.ref b1), .val (.ref b1)] [(.ref b1), (.ref a5)])) rfl (by rw [hml]; rfl) (Steps.refl _) (argsL := []) (rest := [(.ref a5)]) (lenOf pd___Ljava_lang_String_ rfl) rfl (by show 2 * 0 + _ ≤ _; exact Nat.le_of_eq rfl) (hb hby at_129) (fun _ _ => ⟨rfl, rfl, (by decide : 9 + 2 ≤ _), (by decide : 114 + 20 ≤ _)⟩)
  dsimp only [Pt.U, Pt.locs, Pt.cells, Pt.slots] at X8 l8 y8 z8 st8 hQ8
  subst l8 y8 z8
  obtain ⟨st, d, kd, rfl, N8q, szt, Kc8, Es8, Sk8, Sv8, Vd8⟩ := hQ8
  have N8 := Fr.app N7 N8q
  have hlt_st := Nat.lt_of_lt_of_le Es5__7.lt szt
  rw [(by first | rfl | decide : (own_cut (12 : Int32) [(.int (91 : Int32)), (.int (93 : Int32)), (.int (44 : Int32)), (.int (110 : Int32)), (.int (117 : Int32)), (.int (108 : Int32)), (.int (108 : Int32)), (.int (44 : Int32)), (.int (110 : Int32)), (.int (117 : Int32)), (.int (108 : Int32)), (.int (108 : Int32)), (.int (0 : Int32)), (.int (0 : Int32)), (.int (0 : Int32)), (.int (0 : Int32))]) = [(.int (91 : Int32)), (.int (93 : Int32)), (.int (44 : Int32)), (.int (110 : Int32)), (.int (117 : Int32)), (.int (108 : Int32)), (.int (108 : Int32)), (.int (44 : Int32)), (.int (110 : Int32)), (.int (117 : Int32)), (.int (108 : Int32)), (.int (108 : Int32))])] at Vd8
  have S0__8 := own_sta_keep S0__7 Kc8 ns0
  have SF__8 := own_sta_keep SF__7 Kc8 ns0
  have Es5__8 := Es5__7.keep Kc8
  have Sk5__8 := Sk5__7.keep Kc8 (fun q => nomatch q)
  have Sv5__8 := Sv5__7.keep Kc8 (fun q => nomatch q)
  have W5__8 := W5__7.keep Kc8 (fun q => nomatch q)
  have Ec7__8 := Ec7.keep Kc8
  have Fv7__8 := Fv7.keep Kc8 (fun q => nomatch q)
  have Fk7__8 := Fk7.keep Kc8 (fun q => nomatch q)
  have Fn7__8 := Fn7.keep Kc8 (fun q => nomatch q)
  have Vb7__8 := Vb7.keep Kc8 (fun q => nomatch q)
  have Ej7__8 := Ej7.keep Kc8
  have Ft7__8 := Ft7.keep Kc8 (fun q => nomatch q)
  have Fa7__8 := Fa7.keep Kc8 (fun q => nomatch q)
  have KK8 : Keep h0 T8.heap [] := Keep.trans KK7 Kc8 (fun _ q => nomatch q)
  have Zs8 : n0 ≤ T8.heap.size := Nat.le_trans Zs7 Kc8.1
  have R8 := R7.trans (CHr.keep Kc8 sf0 R7.1)
  have hk8 := Nat.le_trans hk7 Kc8.1
  obtain ⟨cq9, kq9, q9a, q9b, q9c⟩ := isOf hZ rfl Es5__8
  obtain ⟨_, _, ⟨T9, L9, k9, n9⟩, -, X9, ⟨Lc9, hQ9, l9, y9, z9⟩, st9⟩ := X8.virtualBack hx (y := (⟨"java/lang/String", "equals", "(Ljava/lang/Object;)Z"⟩ : MethodName)) (z := (⟨"java/lang/String", "equals", "(Ljava/lang/Object;)Z"⟩ : MethodName)) hown (mvT hZ (hw _ (List.mem_of_getElem? (i := 166) rfl))) (mvT hZ (hw _ (List.mem_of_getElem? (i := 167) rfl))) (notFace_of_selects (args := #[]) (mvT hZ (hw _ (List.mem_of_getElem? (i := 169) rfl)))) (mvT hZ (hw _ (List.mem_of_getElem? (i := 169) rfl))) (mvT hZ (hw _ (List.mem_of_getElem? (i := 168) rfl))) (by decide) (backOf (W := 0) (rmE l Z aw hw [] a5 st d5 d kd5 kd (12 : Int32) [(.int (91 : Int32)), (.int (93 : Int32)), (.int (44 : Int32)), (.int (110 : Int32)), (.int (117 : Int32)), (.int (108 : Int32)), (.int (108 : Int32)), (.int (44 : Int32)), (.int (110 : Int32)), (.int (117 : Int32)), (.int (108 : Int32)), (.int (108 : Int32))] cs T8.heap n0 Zs8 Es8 Sk5__8 Sk8 Sv5__8 Sv8 W5__8 Vd8 S0__8 (by decide) (own_hall2) (own_nref hlt_st) hcs) hZ (hw _ (List.mem_of_getElem? (i := 170) rfl)) (hw _ (List.mem_of_getElem? (i := 24) rfl)) (by decide) (by decide)) q9a q9c (g := (mkF m 132 #[.val (.int p0), .val (.int (2 : Int32)), .val (.ref b1), .val (.ref a5), .val (.ref b1), .val (.ref b1)] [(.ref st), (.ref a5)])) rfl (by rw [hml]; rfl) (Steps.refl _) (argsL := [(.ref st)]) (rest := []) (lenOf pd__Ljava_lang_Object__Z rfl) rfl (by show 2 * 0 + _ ≤ _; exact Nat.le_of_eq rfl) (hb hby at_132) (fun _ _ => ⟨rfl, rfl, (by decide : 11 + 0 ≤ _), (by decide : 134 + 0 ≤ _)⟩)
  dsimp only [Pt.U, Pt.locs, Pt.cells, Pt.slots] at X9 l9 y9 z9 st9 hQ9
  subst l9 y9 z9
  obtain ⟨rfl, N9q, q9⟩ := hQ9
  have N9 := Fr.app N8 N9q
  obtain ⟨fs, hr, hrun, hended, hRW⟩ := X9.leaveW hS7 (by rw [q9]; exact hk8) (v := some (.int (1 : Int32))) (fun h => by rw [Bd.returns] at h; cases h)
  have hRR : CHr Z consts_1 s.vm s.heap (T9.setFrames fs).vm (T9.setFrames fs).heap := by
    rw [hh]
    show CHr Z consts_1 s.vm h0 T9.vm T9.heap
    rw [q9]
    exact R8.trans (CHv.at X9 hZ (own_ew hw) R8.1)
  refine ⟨_, _, pre0 _ ?_, hrun, hended, _, _, rfl, ?_, hRR, hRW.1, hRW.2.1, hRW.2.2.1, hRW.2.2.2.mono (by decide) (by decide)⟩
  · show Steps p.tables e below (s₁.setTop (mkF m 0 #[.val (.int p0), .unset, .unset, .unset, .unset, .unset] [])) _
    refine XS.iloadN X0.here hx rfl (hb hby at_0) rfl ?_
    show Steps p.tables e below (s₁.setTop (mkF m 1 #[.val (.int p0), .unset, .unset, .unset, .unset, .unset] [(.int p0)])) _
    refine X0.ldcInt hx hown_0 (mvT hZ_0 (hw _ (List.mem_of_getElem? (i := 0) rfl))) (g := (mkF m 1 #[.val (.int p0), .unset, .unset, .unset, .unset, .unset] [(.int p0)])) rfl (hb hby at_1) _ ?_
    show Steps p.tables e below (s₁.setTop (mkF m 3 #[.val (.int p0), .unset, .unset, .unset, .unset, .unset] [(.int (2147483647 : Int32)), (.int p0)])) _
    refine XS.iand X0.here hx rfl (hb hby at_3) rfl ?_
    show Steps p.tables e below (s₁.setTop (mkF m 4 #[.val (.int p0), .unset, .unset, .unset, .unset, .unset] [(.int (p0 &&& (2147483647 : Int32)))])) _
    refine XS.iconst X0.here hx rfl (hb hby at_4) ?_
    show Steps p.tables e below (s₁.setTop (mkF m 5 #[.val (.int p0), .unset, .unset, .unset, .unset, .unset] [(.int (5 : Int32)), (.int (p0 &&& (2147483647 : Int32)))])) _
    refine XS.irem X0.here hx rfl (hb hby at_5) rfl (by decide) ?_
    show Steps p.tables e below (s₁.setTop (mkF m 6 #[.val (.int p0), .unset, .unset, .unset, .unset, .unset] [(.int ((p0 &&& (2147483647 : Int32)) - (p0 &&& (2147483647 : Int32)) / (5 : Int32) * (5 : Int32)))])) _
    rw [hm]
    show Steps p.tables e below (s₁.setTop (mkF m 6 #[.val (.int p0), .unset, .unset, .unset, .unset, .unset] [(.int (2 : Int32))])) _
    refine XS.istoreN X0.here hx rfl (hb hby at_6) rfl (l' := #[.val (.int p0), .val (.int (2 : Int32)), .unset, .unset, .unset, .unset]) rfl ?_
    show Steps p.tables e below (s₁.setTop (mkF m 7 #[.val (.int p0), .val (.int (2 : Int32)), .unset, .unset, .unset, .unset] [])) _
    refine st1 _ ?_
    show Steps p.tables e below (T1.setTop (mkF m 10 #[.val (.int p0), .val (.int (2 : Int32)), .unset, .unset, .unset, .unset] [(.ref b1)])) _
    refine XS.dup X1.here hx rfl (hb hby at_10) rfl rfl ?_
    show Steps p.tables e below (T1.setTop (mkF m 11 #[.val (.int p0), .val (.int (2 : Int32)), .unset, .unset, .unset, .unset] [(.ref b1), (.ref b1)])) _
    refine st2.trans ?_
    show Steps p.tables e below (T2.setTop (mkF m 14 #[.val (.int p0), .val (.int (2 : Int32)), .unset, .unset, .unset, .unset] [(.ref b1)])) _
    refine XS.astoreN X2.here hx rfl (hb hby at_14) rfl rfl (l' := #[.val (.int p0), .val (.int (2 : Int32)), .val (.ref b1), .unset, .unset, .unset]) rfl ?_
    show Steps p.tables e below (T2.setTop (mkF m 15 #[.val (.int p0), .val (.int (2 : Int32)), .val (.ref b1), .unset, .unset, .unset] [])) _
    refine XS.iloadN X2.here hx rfl (hb hby at_15) rfl ?_
    show Steps p.tables e below (T2.setTop (mkF m 16 #[.val (.int p0), .val (.int (2 : Int32)), .val (.ref b1), .unset, .unset, .unset] [(.int (2 : Int32))])) _
    refine XS.ifYes X2.here hx rfl (pc0 := 16) (pc' := 25) rfl (hb hby at_16) rfl ((if0 _ _).trans (feq (by decide : ¬ ((2 : Int32) = (0 : Int32)))).2) (by decide) (by decide) ?_
    show Steps p.tables e below (T2.setTop (mkF m 25 #[.val (.int p0), .val (.int (2 : Int32)), .val (.ref b1), .unset, .unset, .unset] [])) _
    refine XS.iloadN X2.here hx rfl (hb hby at_25) rfl ?_
    show Steps p.tables e below (T2.setTop (mkF m 26 #[.val (.int p0), .val (.int (2 : Int32)), .val (.ref b1), .unset, .unset, .unset] [(.int (2 : Int32))])) _
    refine XS.iconst X2.here hx rfl (hb hby at_26) ?_
    show Steps p.tables e below (T2.setTop (mkF m 27 #[.val (.int p0), .val (.int (2 : Int32)), .val (.ref b1), .unset, .unset, .unset] [(.int (1 : Int32)), (.int (2 : Int32))])) _
    refine XS.icmpYes X2.here hx rfl (pc0 := 27) (pc' := 41) rfl (hb hby at_27) rfl (feq (by decide : ¬ ((2 : Int32) = (1 : Int32)))).2 (by decide) (by decide) ?_
    show Steps p.tables e below (T2.setTop (mkF m 41 #[.val (.int p0), .val (.int (2 : Int32)), .val (.ref b1), .unset, .unset, .unset] [])) _
    refine XS.iloadN X2.here hx rfl (hb hby at_41) rfl ?_
    show Steps p.tables e below (T2.setTop (mkF m 42 #[.val (.int p0), .val (.int (2 : Int32)), .val (.ref b1), .unset, .unset, .unset] [(.int (2 : Int32))])) _
    refine XS.iconst X2.here hx rfl (hb hby at_42) ?_
    show Steps p.tables e below (T2.setTop (mkF m 43 #[.val (.int p0), .val (.int (2 : Int32)), .val (.ref b1), .unset, .unset, .unset] [(.int (2 : Int32)), (.int (2 : Int32))])) _
    refine XS.icmpNo X2.here hx rfl (hb hby at_43) rfl (teq (rfl : (2 : Int32) = (2 : Int32))).2 ?_
    show Steps p.tables e below (T2.setTop (mkF m 46 #[.val (.int p0), .val (.int (2 : Int32)), .val (.ref b1), .unset, .unset, .unset] [])) _
    refine XS.aloadN X2.here hx rfl (hb hby at_46) rfl rfl ?_
    show Steps p.tables e below (T2.setTop (mkF m 47 #[.val (.int p0), .val (.int (2 : Int32)), .val (.ref b1), .unset, .unset, .unset] [(.ref b1)])) _
    refine st3.trans ?_
    show Steps p.tables e below (T3.setTop (mkF m 50 #[.val (.int p0), .val (.int (2 : Int32)), .val (.ref b1), .unset, .unset, .unset] [(.ref b1)])) _
    refine XS.pop X3.here hx rfl (hb hby at_50) rfl rfl ?_
    show Steps p.tables e below (T3.setTop (mkF m 51 #[.val (.int p0), .val (.int (2 : Int32)), .val (.ref b1), .unset, .unset, .unset] [])) _
    refine XS.aloadN X3.here hx rfl (hb hby at_51) rfl rfl ?_
    show Steps p.tables e below (T3.setTop (mkF m 52 #[.val (.int p0), .val (.int (2 : Int32)), .val (.ref b1), .unset, .unset, .unset] [(.ref b1)])) _
    refine st4.trans ?_
    show Steps p.tables e below (T4.setTop (mkF m 55 #[.val (.int p0), .val (.int (2 : Int32)), .val (.ref b1), .unset, .unset, .unset] [(.ref b1)])) _
    refine XS.pop X4.here hx rfl (hb hby at_55) rfl rfl ?_
    show Steps p.tables e below (T4.setTop (mkF m 56 #[.val (.int p0), .val (.int (2 : Int32)), .val (.ref b1), .unset, .unset, .unset] [])) _
    refine st5 _ ?_
    show Steps p.tables e below (T5.setTop (mkF m 58 #[.val (.int p0), .val (.int (2 : Int32)), .val (.ref b1), .unset, .unset, .unset] [(.ref a5)])) _
    refine XS.astoreN X5.here hx rfl (hb hby at_58) rfl rfl (l' := #[.val (.int p0), .val (.int (2 : Int32)), .val (.ref b1), .val (.ref a5), .unset, .unset]) rfl ?_
    show Steps p.tables e below (T5.setTop (mkF m 59 #[.val (.int p0), .val (.int (2 : Int32)), .val (.ref b1), .val (.ref a5), .unset, .unset] [])) _
    refine XS.goto X5.here hx rfl (pc0 := 59) (pc' := 103) rfl (hb hby at_59) (by decide) (by decide) ?_
    show Steps p.tables e below (T5.setTop (mkF m 103 #[.val (.int p0), .val (.int (2 : Int32)), .val (.ref b1), .val (.ref a5), .unset, .unset] [])) _
    refine XS.aloadN X5.here hx rfl (hb hby at_103) rfl rfl ?_
    show Steps p.tables e below (T5.setTop (mkF m 104 #[.val (.int p0), .val (.int (2 : Int32)), .val (.ref b1), .val (.ref a5), .unset, .unset] [(.ref b1)])) _
    refine st6.trans ?_
    show Steps p.tables e below (T6.setTop (mkF m 107 #[.val (.int p0), .val (.int (2 : Int32)), .val (.ref b1), .val (.ref a5), .unset, .unset] [(.ref b1)])) _
    refine XS.astore X6.here hx rfl (hb hby at_107) rfl rfl (l' := #[.val (.int p0), .val (.int (2 : Int32)), .val (.ref b1), .val (.ref a5), .val (.ref b1), .unset]) rfl ?_
    show Steps p.tables e below (T6.setTop (mkF m 109 #[.val (.int p0), .val (.int (2 : Int32)), .val (.ref b1), .val (.ref a5), .val (.ref b1), .unset] [])) _
    refine XS.aloadN X6.here hx rfl (hb hby at_109) rfl rfl ?_
    show Steps p.tables e below (T6.setTop (mkF m 110 #[.val (.int p0), .val (.int (2 : Int32)), .val (.ref b1), .val (.ref a5), .val (.ref b1), .unset] [(.ref b1)])) _
    refine st7.trans ?_
    show Steps p.tables e below (T7.setTop (mkF m 113 #[.val (.int p0), .val (.int (2 : Int32)), .val (.ref b1), .val (.ref a5), .val (.ref b1), .unset] [(.ref b1)])) _
    refine XS.astore X7.here hx rfl (hb hby at_113) rfl rfl (l' := #[.val (.int p0), .val (.int (2 : Int32)), .val (.ref b1), .val (.ref a5), .val (.ref b1), .val (.ref b1)]) rfl ?_
    show Steps p.tables e below (T7.setTop (mkF m 115 #[.val (.int p0), .val (.int (2 : Int32)), .val (.ref b1), .val (.ref a5), .val (.ref b1), .val (.ref b1)] [])) _
    refine XS.aload X7.here hx rfl (hb hby at_115) rfl rfl ?_
    show Steps p.tables e below (T7.setTop (mkF m 117 #[.val (.int p0), .val (.int (2 : Int32)), .val (.ref b1), .val (.ref a5), .val (.ref b1), .val (.ref b1)] [(.ref b1)])) _
    refine XS.aloadN X7.here hx rfl (hb hby at_117) rfl rfl ?_
    show Steps p.tables e below (T7.setTop (mkF m 118 #[.val (.int p0), .val (.int (2 : Int32)), .val (.ref b1), .val (.ref a5), .val (.ref b1), .val (.ref b1)] [(.ref b1), (.ref b1)])) _
    refine Jvm.RoadKit.acmp (g := (mkF m 118 #[.val (.int p0), .val (.int (2 : Int32)), .val (.ref b1), .val (.ref a5), .val (.ref b1), .val (.ref b1)] [(.ref b1), (.ref b1)])) X7 hx rfl rfl rfl (pc0 := 118) (pc' := 121) (same := true) rfl (hb hby at_118) rfl (decide_eq_true rfl) (by decide) (by decide) ?_
    show Steps p.tables e below (T7.setTop (mkF m 121 #[.val (.int p0), .val (.int (2 : Int32)), .val (.ref b1), .val (.ref a5), .val (.ref b1), .val (.ref b1)] [])) _
    refine XS.aload X7.here hx rfl (hb hby at_121) rfl rfl ?_
    show Steps p.tables e below (T7.setTop (mkF m 123 #[.val (.int p0), .val (.int (2 : Int32)), .val (.ref b1), .val (.ref a5), .val (.ref b1), .val (.ref b1)] [(.ref b1)])) _
    refine XS.aloadN X7.here hx rfl (hb hby at_123) rfl rfl ?_
    show Steps p.tables e below (T7.setTop (mkF m 124 #[.val (.int p0), .val (.int (2 : Int32)), .val (.ref b1), .val (.ref a5), .val (.ref b1), .val (.ref b1)] [(.ref b1), (.ref b1)])) _
    refine Jvm.RoadKit.acmp (g := (mkF m 124 #[.val (.int p0), .val (.int (2 : Int32)), .val (.ref b1), .val (.ref a5), .val (.ref b1), .val (.ref b1)] [(.ref b1), (.ref b1)])) X7 hx rfl rfl rfl (pc0 := 124) (pc' := 127) (same := true) rfl (hb hby at_124) rfl (decide_eq_true rfl) (by decide) (by decide) ?_
    show Steps p.tables e below (T7.setTop (mkF m 127 #[.val (.int p0), .val (.int (2 : Int32)), .val (.ref b1), .val (.ref a5), .val (.ref b1), .val (.ref b1)] [])) _
    refine XS.aloadN X7.here hx rfl (hb hby at_127) rfl rfl ?_
    show Steps p.tables e below (T7.setTop (mkF m 128 #[.val (.int p0), .val (.int (2 : Int32)), .val (.ref b1), .val (.ref a5), .val (.ref b1), .val (.ref b1)] [(.ref a5)])) _
    refine XS.aloadN X7.here hx rfl (hb hby at_128) rfl rfl ?_
    show Steps p.tables e below (T7.setTop (mkF m 129 #[.val (.int p0), .val (.int (2 : Int32)), .val (.ref b1), .val (.ref a5), .val (.ref b1), .val (.ref b1)] [(.ref b1), (.ref a5)])) _
    refine st8.trans ?_
    show Steps p.tables e below (T8.setTop (mkF m 132 #[.val (.int p0), .val (.int (2 : Int32)), .val (.ref b1), .val (.ref a5), .val (.ref b1), .val (.ref b1)] [(.ref st), (.ref a5)])) _
    refine st9.trans ?_
    show Steps p.tables e below (T9.setTop (mkF m 135 #[.val (.int p0), .val (.int (2 : Int32)), .val (.ref b1), .val (.ref a5), .val (.ref b1), .val (.ref b1)] [(.int (1 : Int32))])) _
    refine XS.ifNo X9.here hx rfl (hb hby at_135) rfl ((if0 _ _).trans (feq (by decide : ¬ ((1 : Int32) = (0 : Int32)))).1) ?_
    show Steps p.tables e below (T9.setTop (mkF m 138 #[.val (.int p0), .val (.int (2 : Int32)), .val (.ref b1), .val (.ref a5), .val (.ref b1), .val (.ref b1)] [])) _
    refine XS.iconst X9.here hx rfl (hb hby at_138) ?_
    show Steps p.tables e below (T9.setTop (mkF m 139 #[.val (.int p0), .val (.int (2 : Int32)), .val (.ref b1), .val (.ref a5), .val (.ref b1), .val (.ref b1)] [(.int (1 : Int32))])) _
    refine XS.goto X9.here hx rfl (pc0 := 139) (pc' := 143) rfl (hb hby at_139) (by decide) (by decide) ?_
    show Steps p.tables e below (T9.setTop (mkF m 143 #[.val (.int p0), .val (.int (2 : Int32)), .val (.ref b1), .val (.ref a5), .val (.ref b1), .val (.ref b1)] [(.int (1 : Int32))])) _
    exact retN X9 hx (t := .boolean) Bd.returns (by simp) (hb hby at_143) hr
  · show Q0_2 Z p0 fm cs h0 n0 _ T9.heap _
    rw [q9]
    exact ⟨rfl, N9⟩
theorem pd__Ljava_lang_String__Llatentrace_io_JsonWriter_ : parseMethodDescriptor "(Ljava/lang/String;)Llatentrace/io/JsonWriter;" = some ⟨[(.object "java/lang/String")], some (.object "latentrace/io/JsonWriter")⟩ := by decide +kernel
theorem ef_rm0_3 (m : MethodId) (p0 : Int32) : entryFrame m #[(.int p0)] maxLocals = mkF m 0 #[.val (.int p0), .unset, .unset, .unset, .unset, .unset] [] := by first | (simp [entryFrame, mkF, argsToLocals, Value.category, maxLocals]; done) | rfl
def Q0_3 (Z : State) (p0 : Int32) (fm : Value) (cs : Int32) (h0 : Heap) (n0 : Nat) (v : Option Value) (h : Heap) (L : List Loc) : Prop := v = some (.int (1 : Int32)) ∧ Fr n0 L
set_option maxRecDepth 65536 in
set_option maxHeartbeats 40000000 in
theorem rm0_3 (l : Launch) (Z : State) (aw : Array Value) (hw : ∀ d ∈ tables_1, d.before aw Z = true) (ws : List Jvm.Cond) (p0 : Int32) (fm : Value) (cs : Int32) (h0 : Heap) (n0 : Nat) (Z0 : n0 ≤ h0.size) (SF : Sta Z h0 "jdk/internal/util/Preconditions" "SIOOBE_FORMATTER" "Ljava/util/function/BiFunction;" fm) (S0 : Sta Z h0 "java/lang/String" "COMPACT_STRINGS" "Z" (.int cs)) (hfm : fm.isRef = true) (hcs : ¬ (cs = (0 : Int32))) (hm : ((p0 &&& (2147483647 : Int32)) - (p0 &&& (2147483647 : Int32)) / (5 : Int32) * (5 : Int32)) = (3 : Int32)) :
    MetFree l x (head1 (Jvm.Cond.code x code maxLocals ret :: ws) room_1) (fun a U => a = #[(.int p0)] ∧ Z.Warmed39 U.vm ∧ U.heap = h0 ∧ CHv Z consts_1 U.vm h0) (fun _ _ _ _ _ => True) (fun _ U o U' => ∃ v L, o = .returned v ∧ Q0_3 Z p0 fm cs h0 n0 v U'.heap L ∧ CHr Z consts_1 U.vm U.heap U'.vm U'.heap ∧ ReturnedEndW U o U' L room_1.cells room_1.slots) := by
  refine MetFree.of_bodySF (plainFor_of_name pn_latentrace_io_JsonWriterNullValuePinLaw) hisR ?_
  intro p e s m args below meth cd s₁ Bd hml0 hP hK
  obtain ⟨rfl, hZ, hh, hCH⟩ := hP
  have hx := Bd.exec
  have hby := Bd.bytes
  have hml : cd.maxLocals = 6 := hml0
  have hown : s.vm.findClass "latentrace/io/JsonWriterNullValuePinLaw" = some m.cls := findClass_of_methodNamed Bd.named
  have hnm := (name_of_methodNamed Bd.named Bd.method).1
  have X0 : Stand p l e room_1 (s.setVm s.vm) m #[(.int p0)] below meth cd s₁ [] 0 0 := Stand.of_body Bd
  have e0 : s₁.heap = h0 := by rw [← hh, Bd.state]; rfl
  have N0 := Fr.nil n0
  have pre0 : ∀ t, Steps p.tables e below (s₁.setTop (mkF m 0 #[.val (.int p0), .unset, .unset, .unset, .unset, .unset] [])) t → Steps p.tables e below (s₁.setTop (entryFrame m #[(.int p0)] maxLocals)) t := fun t k => castTop (ef_rm0_3 m p0) k
  have hZ_0 := hZ
  have hown_0 := hown
  have hS0 : s.Since s.vm 0 := (State.WarmedH.refl s).since 0
  have hk0 : 0 ≤ h0.size := Nat.zero_le _
  have R0 : CHr Z consts_1 s.vm h0 s.vm h0 := CHr.refl hCH
  obtain ⟨T1, h1, X1, e1, E1, A1, D1, -, st1⟩ := newO X0 hx hZ hown (hw _ (List.mem_of_getElem? (i := 1) rfl)) (hw _ (List.mem_of_getElem? (i := 2) rfl)) (hw _ (List.mem_of_getElem? (i := 3) rfl)) e0 (g := (mkF m 7 #[.val (.int p0), .val (.int (3 : Int32)), .unset, .unset, .unset, .unset] [])) rfl (hb hby at_7) (by decide) (by decide)
  obtain ⟨b1, g1⟩ : ∃ z, z = h0.size := ⟨_, rfl⟩
  rw [← g1] at A1 D1 st1
  have g_b1 : n0 ≤ b1 := Nat.le_trans Z0 (Nat.le_of_eq g1.symm)
  have sz_b1 : h0.size ≤ b1 := Nat.le_trans (Keep.refl h0 []).1 (Nat.le_of_eq g1.symm)
  have S0__1 := S0.ext E1
  have SF__1 := SF.ext E1
  have K1 : Keep h0 h1 [] := (Keep.refl h0 []).ext E1
  have Zs1 : n0 ≤ h1.size := Nat.le_trans Z0 E1.1
  have hk1 := Nat.le_trans hk0 E1.1
  have R1 := R0.trans (CHr.ext E1 R0.1)
  have F_text_b1 : Fld Z h1 b1 "latentrace/io/JsonWriter" "text" "Ljava/lang/StringBuilder;" .null := D1 (Or.inr (hw _ (List.mem_of_getElem? (i := 31) rfl))) (ty := (.object "java/lang/StringBuilder")) (by decide)
  have F_afterValue_b1 : Fld Z h1 b1 "latentrace/io/JsonWriter" "afterValue" "Z" (.int (0 : Int32)) := D1 (Or.inl (hw _ (List.mem_of_getElem? (i := 48) rfl))) (ty := .boolean) (by decide)
  obtain ⟨_, _, ⟨T2, L2, k2, n2⟩, -, X2, ⟨Lc2, hQ2, l2, y2, z2⟩, st2⟩ := X1.specialBack hx (y := (⟨"latentrace/io/JsonWriter", "<init>", "()V"⟩ : MethodName)) rfl hown (mvT hZ (hw _ (List.mem_of_getElem? (i := 4) rfl))) (mvT hZ (hw _ (List.mem_of_getElem? (i := 5) rfl))) (mvT hZ (hw _ (List.mem_of_getElem? (i := 6) rfl))) (by decide) (backOf (W := 1) (rmJInit l Z aw hw [] b1 .null cs h1 n0 Zs1 A1 g_b1 F_text_b1 F_afterValue_b1 S0__1 hcs) hZ (hw _ (List.mem_of_getElem? (i := 6) rfl)) (hw _ (List.mem_of_getElem? (i := 3) rfl)) (by decide) (by decide)) (g := (mkF m 11 #[.val (.int p0), .val (.int (3 : Int32)), .unset, .unset, .unset, .unset] [(.ref b1), (.ref b1)])) rfl (by rw [hml]; rfl) (Steps.refl _) (a := b1) (argsL := []) (rest := [(.ref b1)]) (lenOf pd___V rfl) rfl (by show 2 * 0 + _ ≤ _; exact Nat.le_of_eq rfl) (hb hby at_11) (fun _ _ => ⟨rfl, e1, (by decide : 1 + 2 ≤ _), (by decide : 2 + 20 ≤ _)⟩)
  dsimp only [Pt.U, Pt.locs, Pt.cells, Pt.slots] at X2 l2 y2 z2 st2 hQ2
  subst l2 y2 z2
  obtain ⟨sb, b, k, rfl, N2q, gsb, gb, Kc2, Ej2, Ft2, Fa2, Ec2, Fv2, Fk2, Fn2, Vb2⟩ := hQ2
  have N2 := Fr.app N0 N2q
  have sz_sb : h0.size ≤ sb := Nat.le_trans K1.1 gsb
  have g_sb : n0 ≤ sb := Nat.le_trans Zs1 gsb
  have sz_b : h0.size ≤ b := Nat.le_trans K1.1 gb
  have g_b : n0 ≤ b := Nat.le_trans Zs1 gb
  have S0__2 := own_sta_keep S0__1 Kc2 (nsS (A1.nostat) ns0)
  have SF__2 := own_sta_keep SF__1 Kc2 (nsS (A1.nostat) ns0)
  have KK2 : Keep h0 T2.heap [] := Keep.trans K1 Kc2 (fun x q => by cases List.mem_singleton.mp q; exact (Or.inr sz_b1))
  have Zs2 : n0 ≤ T2.heap.size := Nat.le_trans Zs1 Kc2.1
  have R2 := R1.trans (CHr.keep Kc2 (sfS (Safe.exa hZ.alike A1 (by decide) (by decide)) sf0) R1.1)
  have hk2 := Nat.le_trans hk1 Kc2.1
  obtain ⟨cq3, kq3, q3a, q3b, q3c⟩ := isOf hZ rfl Ej2
  obtain ⟨_, _, ⟨T3, L3, k3, n3⟩, -, X3, ⟨Lc3, hQ3, l3, y3, z3⟩, st3⟩ := X2.virtualBack hx (y := (⟨"latentrace/io/JsonWriter", "beginObject", "()Llatentrace/io/JsonWriter;"⟩ : MethodName)) (z := (⟨"latentrace/io/JsonWriter", "beginObject", "()Llatentrace/io/JsonWriter;"⟩ : MethodName)) hown (mvT hZ (hw _ (List.mem_of_getElem? (i := 175) rfl))) (mvT hZ (hw _ (List.mem_of_getElem? (i := 176) rfl))) (notFace_of_selects (args := #[]) (mvT hZ (hw _ (List.mem_of_getElem? (i := 178) rfl)))) (mvT hZ (hw _ (List.mem_of_getElem? (i := 178) rfl))) (mvT hZ (hw _ (List.mem_of_getElem? (i := 177) rfl))) (by decide) (backOf (W := 0) (rm_beginObject l Z aw hw [] b1  sb b k (0 : Int32) [(.int (0 : Int32)), (.int (0 : Int32)), (.int (0 : Int32)), (.int (0 : Int32)), (.int (0 : Int32)), (.int (0 : Int32)), (.int (0 : Int32)), (.int (0 : Int32)), (.int (0 : Int32)), (.int (0 : Int32)), (.int (0 : Int32)), (.int (0 : Int32)), (.int (0 : Int32)), (.int (0 : Int32)), (.int (0 : Int32)), (.int (0 : Int32))]  cs T2.heap n0 Zs2 Ej2 g_b1 Ft2 Fa2 Ec2 g_sb Fv2 Fk2 Fn2 Vb2 g_b  S0__2 (by decide) (by decide) (by decide) hcs) hZ (hw _ (List.mem_of_getElem? (i := 179) rfl)) (hw _ (List.mem_of_getElem? (i := 3) rfl)) (by decide) (by decide)) q3a q3c (g := (mkF m 68 #[.val (.int p0), .val (.int (3 : Int32)), .val (.ref b1), .unset, .unset, .unset] [(.ref b1)])) rfl (by rw [hml]; rfl) (Steps.refl _) (argsL := []) (rest := []) (lenOf pd___Llatentrace_io_JsonWriter_ rfl) rfl (by show 2 * 0 + _ ≤ _; exact Nat.le_of_eq rfl) (hb hby at_68) (fun _ _ => ⟨rfl, rfl, (by decide : 3 + 0 ≤ _), (by decide : 22 + 0 ≤ _)⟩)
  dsimp only [Pt.U, Pt.locs, Pt.cells, Pt.slots] at X3 l3 y3 z3 st3 hQ3
  subst l3 y3 z3
  obtain ⟨rfl, N3q, Kc3, Ej3, Ft3, Fa3, Ec3, Fv3, Fk3, Fn3, Vb3⟩ := hQ3
  have N3 := Fr.app N2 N3q
  rw [(by decide : ((0 : Int32) + (1 : Int32)) = (1 : Int32))] at Fn3
  rw [(by first | rfl | decide : (([(.int (0 : Int32)), (.int (0 : Int32)), (.int (0 : Int32)), (.int (0 : Int32)), (.int (0 : Int32)), (.int (0 : Int32)), (.int (0 : Int32)), (.int (0 : Int32)), (.int (0 : Int32)), (.int (0 : Int32)), (.int (0 : Int32)), (.int (0 : Int32)), (.int (0 : Int32)), (.int (0 : Int32)), (.int (0 : Int32)), (.int (0 : Int32))].set ((0 : Int32)).toNatClampNeg (.int (nar .byte ((123 : Int32).toInt8.toInt32)))) : List Value) = [(.int (123 : Int32)), (.int (0 : Int32)), (.int (0 : Int32)), (.int (0 : Int32)), (.int (0 : Int32)), (.int (0 : Int32)), (.int (0 : Int32)), (.int (0 : Int32)), (.int (0 : Int32)), (.int (0 : Int32)), (.int (0 : Int32)), (.int (0 : Int32)), (.int (0 : Int32)), (.int (0 : Int32)), (.int (0 : Int32)), (.int (0 : Int32))])] at Vb3
  have S0__3 := own_sta_keep S0__2 Kc3 (nsS (Ej2.nostat) (nsS (Ec2.nostat) (nsS (Vb2.nostat) ns0)))
  have SF__3 := own_sta_keep SF__2 Kc3 (nsS (Ej2.nostat) (nsS (Ec2.nostat) (nsS (Vb2.nostat) ns0)))
  have KK3 : Keep h0 T3.heap [] := Keep.trans KK2 Kc3 (fun x q => by simp only [List.mem_cons, List.not_mem_nil, or_false] at q; rcases q with rfl | rfl | rfl <;> first | exact (Or.inr sz_b1) | exact (Or.inr sz_sb) | exact (Or.inr sz_b))
  have Zs3 : n0 ≤ T3.heap.size := Nat.le_trans Zs2 Kc3.1
  have R3 := R2.trans (CHr.keep Kc3 (sfS (Safe.exa hZ.alike Ej2 (by decide) (by decide)) (sfS (Safe.exa hZ.alike Ec2 (by decide) (by decide)) (sfS (own_safe hw hZ Vb2) sf0))) R2.1)
  have hk3 := Nat.le_trans hk2 Kc3.1
  obtain ⟨a4, T4, h4, k4, d4, kd4, X4, e4, E4, hS4, hk4, hZ, hown, Es4, Sk4, Sv4, W4, la4, lb4, Rl4, -, -, st4⟩ := ldcCH X3 hx hZ hown (hw _ (List.mem_of_getElem? (i := 184) rfl)) (own_strs hw) rfl hS0 hk3 (own_ew hw) (List.mem_of_getElem? (i := 4) rfl) R3.1 (vs := [(.int (97 : Int32))]) (z := (1 : Int32)) ⟨by decide, by rfl⟩ (by decide) (by decide) (g := (mkF m 73 #[.val (.int p0), .val (.int (3 : Int32)), .val (.ref b1), .unset, .unset, .unset] [(.ref b1)])) rfl (hb hby at_73) (n := 4) (by decide) (by decide) (by decide) (by decide)
  have hZ_4 := hZ
  have hown_4 := hown
  have S0__4 := S0__3.ext E4
  have SF__4 := SF__3.ext E4
  have Ec3__4 := Ec3.ext E4
  have Fv3__4 := Fv3.ext E4
  have Fk3__4 := Fk3.ext E4
  have Fn3__4 := Fn3.ext E4
  have Vb3__4 := Vb3.ext E4
  have Ej3__4 := Ej3.ext E4
  have Ft3__4 := Ft3.ext E4
  have Fa3__4 := Fa3.ext E4
  have K4 : Keep h0 h4 [] := KK3.ext E4
  have Zs4 : n0 ≤ h4.size := Nat.le_trans Zs3 E4.1
  have R4 := R3.trans Rl4
  obtain ⟨cq5, kq5, q5a, q5b, q5c⟩ := isOf hZ e4 Ej3__4
  obtain ⟨_, _, ⟨T5, L5, k5, n5⟩, -, X5, ⟨Lc5, hQ5, l5, y5, z5⟩, st5⟩ := X4.virtualBack hx (y := (⟨"latentrace/io/JsonWriter", "name", "(Ljava/lang/String;)Llatentrace/io/JsonWriter;"⟩ : MethodName)) (z := (⟨"latentrace/io/JsonWriter", "name", "(Ljava/lang/String;)Llatentrace/io/JsonWriter;"⟩ : MethodName)) hown (mvT hZ (hw _ (List.mem_of_getElem? (i := 185) rfl))) (mvT hZ (hw _ (List.mem_of_getElem? (i := 186) rfl))) (notFace_of_selects (args := #[]) (mvT hZ (hw _ (List.mem_of_getElem? (i := 188) rfl)))) (mvT hZ (hw _ (List.mem_of_getElem? (i := 188) rfl))) (mvT hZ (hw _ (List.mem_of_getElem? (i := 187) rfl))) (by decide) (backOf (W := 0) (rmName l Z aw hw [] b1 a4 sb b k d4 kd4 fm cs h4 n0 Zs4 Ej3__4 g_b1 Ft3__4 Fa3__4 Ec3__4 g_sb Fv3__4 Fk3__4 Fn3__4 Vb3__4 g_b Es4 Sk4 Sv4 W4 SF__4 S0__4 hfm hcs) hZ (hw _ (List.mem_of_getElem? (i := 189) rfl)) (hw _ (List.mem_of_getElem? (i := 3) rfl)) (by decide) (by decide)) q5a q5c (g := (mkF m 75 #[.val (.int p0), .val (.int (3 : Int32)), .val (.ref b1), .unset, .unset, .unset] [(.ref a4), (.ref b1)])) rfl (by rw [hml]; rfl) (Steps.refl _) (argsL := [(.ref a4)]) (rest := []) (lenOf pd__Ljava_lang_String__Llatentrace_io_JsonWriter_ rfl) rfl (by show 2 * 0 + _ ≤ _; exact Nat.le_of_eq rfl) (hb hby at_75) (fun _ _ => ⟨rfl, e4, (by decide : 5 + 2 ≤ _), (by decide : 30 + 5 ≤ _)⟩)
  dsimp only [Pt.U, Pt.locs, Pt.cells, Pt.slots] at X5 l5 y5 z5 st5 hQ5
  subst l5 y5 z5
  obtain ⟨rfl, N5q, Kc5, Ej5, Ft5, Fa5, Ec5, Fv5, Fk5, Fn5, Vb5⟩ := hQ5
  have N5 := Fr.app N3 N5q
  have S0__5 := own_sta_keep S0__4 Kc5 (nsS (Ej3__4.nostat) (nsS (Ec3__4.nostat) (nsS (Vb3__4.nostat) ns0)))
  have SF__5 := own_sta_keep SF__4 Kc5 (nsS (Ej3__4.nostat) (nsS (Ec3__4.nostat) (nsS (Vb3__4.nostat) ns0)))
  have Es4__5 := Es4.keep Kc5
  have Sk4__5 := Sk4.keep Kc5 (by simp only [List.mem_cons, List.not_mem_nil, or_false, not_or]; exact ⟨(ne_exa Es4 Ej3__4 (by decide)), (ne_exa Es4 Ec3__4 (by decide)), (Es4.neArv Vb3__4 (hw _ (List.mem_of_getElem? (i := 33) rfl)))⟩)
  have Sv4__5 := Sv4.keep Kc5 (by simp only [List.mem_cons, List.not_mem_nil, or_false, not_or]; exact ⟨(ne_exa Es4 Ej3__4 (by decide)), (ne_exa Es4 Ec3__4 (by decide)), (Es4.neArv Vb3__4 (hw _ (List.mem_of_getElem? (i := 33) rfl)))⟩)
  have W4__5 := W4.keep Kc5 (by simp only [List.mem_cons, List.not_mem_nil, or_false, not_or]; exact ⟨(Ne.symm (Ej3__4.neArv W4 (hw _ (List.mem_of_getElem? (i := 2) rfl)))), (Ne.symm (Ec3__4.neArv W4 (hw _ (List.mem_of_getElem? (i := 11) rfl)))), (arv_ne W4 Vb3__4 (Or.inl (by decide)))⟩)
  have KK5 : Keep h0 T5.heap [] := Keep.trans K4 Kc5 (fun x q => by simp only [List.mem_cons, List.not_mem_nil, or_false] at q; rcases q with rfl | rfl | rfl <;> first | exact (Or.inr sz_b1) | exact (Or.inr sz_sb) | exact (Or.inr sz_b))
  have Zs5 : n0 ≤ T5.heap.size := Nat.le_trans Zs4 Kc5.1
  have R5 := R4.trans (CHr.keep Kc5 (sfS (Safe.exa hZ.alike Ej3__4 (by decide) (by decide)) (sfS (Safe.exa hZ.alike Ec3__4 (by decide) (by decide)) (sfS (own_safe hw hZ Vb3__4) sf0))) R4.1)
  have hk5 := Nat.le_trans hk4 Kc5.1
  obtain ⟨a6, T6, h6, k6, d6, kd6, X6, e6, E6, hS6, hk6, hZ, hown, Es6, Sk6, Sv6, W6, la6, lb6, Rl6, -, -, st6⟩ := ldcCH X5 hx hZ hown (hw _ (List.mem_of_getElem? (i := 226) rfl)) (own_strs hw) rfl hS4 hk5 (own_ew hw) (List.mem_of_getElem? (i := 5) rfl) R5.1 (vs := [(.int (123 : Int32)), (.int (34 : Int32)), (.int (97 : Int32)), (.int (34 : Int32)), (.int (58 : Int32)), (.int (110 : Int32)), (.int (117 : Int32)), (.int (108 : Int32)), (.int (108 : Int32)), (.int (44 : Int32)), (.int (110 : Int32)), (.int (117 : Int32)), (.int (108 : Int32)), (.int (108 : Int32))]) (z := (14 : Int32)) ⟨by decide, by rfl⟩ (by decide) (by decide) (g := (mkF m 79 #[.val (.int p0), .val (.int (3 : Int32)), .val (.ref b1), .unset, .unset, .unset] [])) rfl (hb hby at_79) (n := 56) (by decide) (by decide) (by decide) (by decide)
  have hZ_6 := hZ
  have hown_6 := hown
  have S0__6 := S0__5.ext E6
  have SF__6 := SF__5.ext E6
  have Es4__6 := Es4__5.ext E6
  have Sk4__6 := Sk4__5.ext E6
  have Sv4__6 := Sv4__5.ext E6
  have W4__6 := W4__5.ext E6
  have Ec5__6 := Ec5.ext E6
  have Fv5__6 := Fv5.ext E6
  have Fk5__6 := Fk5.ext E6
  have Fn5__6 := Fn5.ext E6
  have Vb5__6 := Vb5.ext E6
  have Ej5__6 := Ej5.ext E6
  have Ft5__6 := Ft5.ext E6
  have Fa5__6 := Fa5.ext E6
  have K6 : Keep h0 h6 [] := KK5.ext E6
  have Zs6 : n0 ≤ h6.size := Nat.le_trans Zs5 E6.1
  have R6 := R5.trans Rl6
  obtain ⟨cq7, kq7, q7a, q7b, q7c⟩ := isOf hZ e6 Ej5__6
  obtain ⟨_, _, ⟨T7, L7, k7, n7⟩, -, X7, hs7, hg7, ⟨Lc7, hQ7, l7, y7, z7, Rc7⟩, st7⟩ := X6.virtualBackS hx (y := (⟨"latentrace/io/JsonWriter", "nullValue", "()Llatentrace/io/JsonWriter;"⟩ : MethodName)) (z := (⟨"latentrace/io/JsonWriter", "nullValue", "()Llatentrace/io/JsonWriter;"⟩ : MethodName)) hown (mvT hZ (hw _ (List.mem_of_getElem? (i := 38) rfl))) (mvT hZ (hw _ (List.mem_of_getElem? (i := 39) rfl))) (notFace_of_selects (args := #[]) (mvT hZ (hw _ (List.mem_of_getElem? (i := 41) rfl)))) (mvT hZ (hw _ (List.mem_of_getElem? (i := 41) rfl))) (mvT hZ (hw _ (List.mem_of_getElem? (i := 40) rfl))) (by decide) (backOfSH (W := 0) (rmNull0 l Z aw hw [] b1  sb b k (5 : Int32) [(.int (123 : Int32)), (.int (34 : Int32)), (.int (97 : Int32)), (.int (34 : Int32)), (.int (58 : Int32)), (.int (0 : Int32)), (.int (0 : Int32)), (.int (0 : Int32)), (.int (0 : Int32)), (.int (0 : Int32)), (.int (0 : Int32)), (.int (0 : Int32)), (.int (0 : Int32)), (.int (0 : Int32)), (.int (0 : Int32)), (.int (0 : Int32))]  cs h6 n0 Zs6 Ej5__6 g_b1 Ft5__6 Fa5__6 Ec5__6 g_sb Fv5__6 Fk5__6 Fn5__6 Vb5__6 g_b  S0__6 (by decide) (by decide) (by decide) (by decide) hcs) hZ (hw _ (List.mem_of_getElem? (i := 42) rfl)) (hw _ (List.mem_of_getElem? (i := 3) rfl)) (by decide) (by decide) (own_ew hw) R6.1) q7a q7c (g := (mkF m 104 #[.val (.int p0), .val (.int (3 : Int32)), .val (.ref b1), .val (.ref a6), .unset, .unset] [(.ref b1)])) rfl (by rw [hml]; rfl) (Steps.refl _) (argsL := []) (rest := []) (lenOf pd___Llatentrace_io_JsonWriter_ rfl) rfl (by show 2 * 0 + _ ≤ _; exact Nat.le_of_eq rfl) (hb hby at_104) (fun _ _ => ⟨rfl, e6, (by decide : 9 + 2 ≤ _), (by decide : 95 + 20 ≤ _)⟩)
  dsimp only [Pt.U, Pt.locs, Pt.cells, Pt.slots] at X7 l7 y7 z7 st7 hQ7 hs7 hg7 Rc7
  subst l7 y7 z7
  obtain ⟨X7, hS7, hZ, hown⟩ := rebS hS6 (by rw [e6]; exact hk6) X7 hs7 hg7 hZ hown
  obtain ⟨rfl, N7q, Kc7, Ej7, Ft7, Fa7, Ec7, Fv7, Fk7, Fn7, Vb7⟩ := hQ7
  have N7 := Fr.app N5 N7q
  rw [(by decide : ((5 : Int32) + (4 : Int32)) = (9 : Int32))] at Fn7
  rw [(by first | rfl | decide : (([(.int (123 : Int32)), (.int (34 : Int32)), (.int (97 : Int32)), (.int (34 : Int32)), (.int (58 : Int32)), (.int (0 : Int32)), (.int (0 : Int32)), (.int (0 : Int32)), (.int (0 : Int32)), (.int (0 : Int32)), (.int (0 : Int32)), (.int (0 : Int32)), (.int (0 : Int32)), (.int (0 : Int32)), (.int (0 : Int32)), (.int (0 : Int32))].take ((5 : Int32)).toNatClampNeg ++ [(.int (110 : Int32)), (.int (117 : Int32)), (.int (108 : Int32)), (.int (108 : Int32))] ++ [(.int (123 : Int32)), (.int (34 : Int32)), (.int (97 : Int32)), (.int (34 : Int32)), (.int (58 : Int32)), (.int (0 : Int32)), (.int (0 : Int32)), (.int (0 : Int32)), (.int (0 : Int32)), (.int (0 : Int32)), (.int (0 : Int32)), (.int (0 : Int32)), (.int (0 : Int32)), (.int (0 : Int32)), (.int (0 : Int32)), (.int (0 : Int32))].drop (((5 : Int32)).toNatClampNeg + ((4 : Int32)).toNatClampNeg)) : List Value) = [(.int (123 : Int32)), (.int (34 : Int32)), (.int (97 : Int32)), (.int (34 : Int32)), (.int (58 : Int32)), (.int (110 : Int32)), (.int (117 : Int32)), (.int (108 : Int32)), (.int (108 : Int32)), (.int (0 : Int32)), (.int (0 : Int32)), (.int (0 : Int32)), (.int (0 : Int32)), (.int (0 : Int32)), (.int (0 : Int32)), (.int (0 : Int32))])] at Vb7
  have hZ_7 := hZ
  have hown_7 := hown
  have S0__7 := own_sta_keep S0__6 Kc7 (nsS (Ej5__6.nostat) (nsS (Ec5__6.nostat) (nsS (Vb5__6.nostat) ns0)))
  have SF__7 := own_sta_keep SF__6 Kc7 (nsS (Ej5__6.nostat) (nsS (Ec5__6.nostat) (nsS (Vb5__6.nostat) ns0)))
  have Es4__7 := Es4__6.keep Kc7
  have Sk4__7 := Sk4__6.keep Kc7 (by simp only [List.mem_cons, List.not_mem_nil, or_false, not_or]; exact ⟨(ne_exa Es4__6 Ej5__6 (by decide)), (ne_exa Es4__6 Ec5__6 (by decide)), (Es4__6.neArv Vb5__6 (hw _ (List.mem_of_getElem? (i := 33) rfl)))⟩)
  have Sv4__7 := Sv4__6.keep Kc7 (by simp only [List.mem_cons, List.not_mem_nil, or_false, not_or]; exact ⟨(ne_exa Es4__6 Ej5__6 (by decide)), (ne_exa Es4__6 Ec5__6 (by decide)), (Es4__6.neArv Vb5__6 (hw _ (List.mem_of_getElem? (i := 33) rfl)))⟩)
  have W4__7 := W4__6.keep Kc7 (by simp only [List.mem_cons, List.not_mem_nil, or_false, not_or]; exact ⟨(Ne.symm (Ej5__6.neArv W4__6 (hw _ (List.mem_of_getElem? (i := 2) rfl)))), (Ne.symm (Ec5__6.neArv W4__6 (hw _ (List.mem_of_getElem? (i := 11) rfl)))), (arv_ne W4__6 Vb5__6 (Or.inl (by decide)))⟩)
  have Es6__7 := Es6.keep Kc7
  have Sk6__7 := Sk6.keep Kc7 (by simp only [List.mem_cons, List.not_mem_nil, or_false, not_or]; exact ⟨(ne_exa Es6 Ej5__6 (by decide)), (ne_exa Es6 Ec5__6 (by decide)), (Es6.neArv Vb5__6 (hw _ (List.mem_of_getElem? (i := 33) rfl)))⟩)
  have Sv6__7 := Sv6.keep Kc7 (by simp only [List.mem_cons, List.not_mem_nil, or_false, not_or]; exact ⟨(ne_exa Es6 Ej5__6 (by decide)), (ne_exa Es6 Ec5__6 (by decide)), (Es6.neArv Vb5__6 (hw _ (List.mem_of_getElem? (i := 33) rfl)))⟩)
  have W6__7 := W6.keep Kc7 (by simp only [List.mem_cons, List.not_mem_nil, or_false, not_or]; exact ⟨(Ne.symm (Ej5__6.neArv W6 (hw _ (List.mem_of_getElem? (i := 2) rfl)))), (Ne.symm (Ec5__6.neArv W6 (hw _ (List.mem_of_getElem? (i := 11) rfl)))), (arv_ne W6 Vb5__6 (Or.inl (by decide)))⟩)
  have KK7 : Keep h0 T7.heap [] := Keep.trans K6 Kc7 (fun x q => by simp only [List.mem_cons, List.not_mem_nil, or_false] at q; rcases q with rfl | rfl | rfl <;> first | exact (Or.inr sz_b1) | exact (Or.inr sz_sb) | exact (Or.inr sz_b))
  have Zs7 : n0 ≤ T7.heap.size := Nat.le_trans Zs6 Kc7.1
  have R7 := R6.trans Rc7
  have hk7 : T7.heap.size ≤ T7.heap.size := Nat.le_refl _
  obtain ⟨cq8, kq8, q8a, q8b, q8c⟩ := isOf hZ rfl Ej7
  obtain ⟨_, _, ⟨T8, L8, k8, n8⟩, -, X8, hs8, hg8, ⟨Lc8, hQ8, l8, y8, z8, Rc8⟩, st8⟩ := X7.virtualBackS hx (y := (⟨"latentrace/io/JsonWriter", "nullValue", "()Llatentrace/io/JsonWriter;"⟩ : MethodName)) (z := (⟨"latentrace/io/JsonWriter", "nullValue", "()Llatentrace/io/JsonWriter;"⟩ : MethodName)) hown (mvT hZ (hw _ (List.mem_of_getElem? (i := 38) rfl))) (mvT hZ (hw _ (List.mem_of_getElem? (i := 39) rfl))) (notFace_of_selects (args := #[]) (mvT hZ (hw _ (List.mem_of_getElem? (i := 41) rfl)))) (mvT hZ (hw _ (List.mem_of_getElem? (i := 41) rfl))) (mvT hZ (hw _ (List.mem_of_getElem? (i := 40) rfl))) (by decide) (backOfSH (W := 0) (rmNull1 l Z aw hw [] b1  sb b k (9 : Int32) [(.int (123 : Int32)), (.int (34 : Int32)), (.int (97 : Int32)), (.int (34 : Int32)), (.int (58 : Int32)), (.int (110 : Int32)), (.int (117 : Int32)), (.int (108 : Int32)), (.int (108 : Int32)), (.int (0 : Int32)), (.int (0 : Int32)), (.int (0 : Int32)), (.int (0 : Int32)), (.int (0 : Int32)), (.int (0 : Int32)), (.int (0 : Int32))]  cs T7.heap n0 Zs7 Ej7 g_b1 Ft7 Fa7 Ec7 g_sb Fv7 Fk7 Fn7 Vb7 g_b  S0__7 (by decide) (by decide) (by decide) (by decide) (by decide) (by decide) (by decide) hcs) hZ (hw _ (List.mem_of_getElem? (i := 42) rfl)) (hw _ (List.mem_of_getElem? (i := 3) rfl)) (by decide) (by decide) (own_ew hw) R7.1) q8a q8c (g := (mkF m 110 #[.val (.int p0), .val (.int (3 : Int32)), .val (.ref b1), .val (.ref a6), .val (.ref b1), .unset] [(.ref b1)])) rfl (by rw [hml]; rfl) (Steps.refl _) (argsL := []) (rest := []) (lenOf pd___Llatentrace_io_JsonWriter_ rfl) rfl (by show 2 * 0 + _ ≤ _; exact Nat.le_of_eq rfl) (hb hby at_110) (fun _ _ => ⟨rfl, rfl, (by decide : 11 + 2 ≤ _), (by decide : 115 + 20 ≤ _)⟩)
  dsimp only [Pt.U, Pt.locs, Pt.cells, Pt.slots] at X8 l8 y8 z8 st8 hQ8 hs8 hg8 Rc8
  subst l8 y8 z8
  obtain ⟨X8, hS8, hZ, hown⟩ := rebS hS7 hk7 X8 hs8 hg8 hZ hown
  obtain ⟨rfl, N8q, Kc8, Ej8, Ft8, Fa8, Ec8, Fv8, Fk8, Fn8, Vb8⟩ := hQ8
  have N8 := Fr.app N7 N8q
  rw [(by decide : (((9 : Int32) + (1 : Int32)) + (4 : Int32)) = (14 : Int32))] at Fn8
  rw [(by first | rfl | decide : ((([(.int (123 : Int32)), (.int (34 : Int32)), (.int (97 : Int32)), (.int (34 : Int32)), (.int (58 : Int32)), (.int (110 : Int32)), (.int (117 : Int32)), (.int (108 : Int32)), (.int (108 : Int32)), (.int (0 : Int32)), (.int (0 : Int32)), (.int (0 : Int32)), (.int (0 : Int32)), (.int (0 : Int32)), (.int (0 : Int32)), (.int (0 : Int32))].set ((9 : Int32)).toNatClampNeg (.int (nar .byte ((44 : Int32).toInt8.toInt32)))).take (((9 : Int32) + (1 : Int32))).toNatClampNeg ++ [(.int (110 : Int32)), (.int (117 : Int32)), (.int (108 : Int32)), (.int (108 : Int32))] ++ ([(.int (123 : Int32)), (.int (34 : Int32)), (.int (97 : Int32)), (.int (34 : Int32)), (.int (58 : Int32)), (.int (110 : Int32)), (.int (117 : Int32)), (.int (108 : Int32)), (.int (108 : Int32)), (.int (0 : Int32)), (.int (0 : Int32)), (.int (0 : Int32)), (.int (0 : Int32)), (.int (0 : Int32)), (.int (0 : Int32)), (.int (0 : Int32))].set ((9 : Int32)).toNatClampNeg (.int (nar .byte ((44 : Int32).toInt8.toInt32)))).drop ((((9 : Int32) + (1 : Int32))).toNatClampNeg + ((4 : Int32)).toNatClampNeg)) : List Value) = [(.int (123 : Int32)), (.int (34 : Int32)), (.int (97 : Int32)), (.int (34 : Int32)), (.int (58 : Int32)), (.int (110 : Int32)), (.int (117 : Int32)), (.int (108 : Int32)), (.int (108 : Int32)), (.int (44 : Int32)), (.int (110 : Int32)), (.int (117 : Int32)), (.int (108 : Int32)), (.int (108 : Int32)), (.int (0 : Int32)), (.int (0 : Int32))])] at Vb8
  have hZ_8 := hZ
  have hown_8 := hown
  have S0__8 := own_sta_keep S0__7 Kc8 (nsS (Ej7.nostat) (nsS (Ec7.nostat) (nsS (Vb7.nostat) ns0)))
  have SF__8 := own_sta_keep SF__7 Kc8 (nsS (Ej7.nostat) (nsS (Ec7.nostat) (nsS (Vb7.nostat) ns0)))
  have Es4__8 := Es4__7.keep Kc8
  have Sk4__8 := Sk4__7.keep Kc8 (by simp only [List.mem_cons, List.not_mem_nil, or_false, not_or]; exact ⟨(ne_exa Es4__7 Ej7 (by decide)), (ne_exa Es4__7 Ec7 (by decide)), (Es4__7.neArv Vb7 (hw _ (List.mem_of_getElem? (i := 33) rfl)))⟩)
  have Sv4__8 := Sv4__7.keep Kc8 (by simp only [List.mem_cons, List.not_mem_nil, or_false, not_or]; exact ⟨(ne_exa Es4__7 Ej7 (by decide)), (ne_exa Es4__7 Ec7 (by decide)), (Es4__7.neArv Vb7 (hw _ (List.mem_of_getElem? (i := 33) rfl)))⟩)
  have W4__8 := W4__7.keep Kc8 (by simp only [List.mem_cons, List.not_mem_nil, or_false, not_or]; exact ⟨(Ne.symm (Ej7.neArv W4__7 (hw _ (List.mem_of_getElem? (i := 2) rfl)))), (Ne.symm (Ec7.neArv W4__7 (hw _ (List.mem_of_getElem? (i := 11) rfl)))), (arv_ne W4__7 Vb7 (Or.inl (by decide)))⟩)
  have Es6__8 := Es6__7.keep Kc8
  have Sk6__8 := Sk6__7.keep Kc8 (by simp only [List.mem_cons, List.not_mem_nil, or_false, not_or]; exact ⟨(ne_exa Es6__7 Ej7 (by decide)), (ne_exa Es6__7 Ec7 (by decide)), (Es6__7.neArv Vb7 (hw _ (List.mem_of_getElem? (i := 33) rfl)))⟩)
  have Sv6__8 := Sv6__7.keep Kc8 (by simp only [List.mem_cons, List.not_mem_nil, or_false, not_or]; exact ⟨(ne_exa Es6__7 Ej7 (by decide)), (ne_exa Es6__7 Ec7 (by decide)), (Es6__7.neArv Vb7 (hw _ (List.mem_of_getElem? (i := 33) rfl)))⟩)
  have W6__8 := W6__7.keep Kc8 (by simp only [List.mem_cons, List.not_mem_nil, or_false, not_or]; exact ⟨(Ne.symm (Ej7.neArv W6__7 (hw _ (List.mem_of_getElem? (i := 2) rfl)))), (Ne.symm (Ec7.neArv W6__7 (hw _ (List.mem_of_getElem? (i := 11) rfl)))), (arv_ne W6__7 Vb7 (Or.inl (by decide)))⟩)
  have KK8 : Keep h0 T8.heap [] := Keep.trans KK7 Kc8 (fun x q => by simp only [List.mem_cons, List.not_mem_nil, or_false] at q; rcases q with rfl | rfl | rfl <;> first | exact (Or.inr sz_b1) | exact (Or.inr sz_sb) | exact (Or.inr sz_b))
  have Zs8 : n0 ≤ T8.heap.size := Nat.le_trans Zs7 Kc8.1
  have R8 := R7.trans Rc8
  have hk8 : T8.heap.size ≤ T8.heap.size := Nat.le_refl _
  obtain ⟨cq9, kq9, q9a, q9b, q9c⟩ := isOf hZ rfl Ej8
  obtain ⟨_, _, ⟨T9, L9, k9, n9⟩, -, X9, ⟨Lc9, hQ9, l9, y9, z9⟩, st9⟩ := X8.virtualBack hx (y := (⟨"latentrace/io/JsonWriter", "toString", "()Ljava/lang/String;"⟩ : MethodName)) (z := (⟨"latentrace/io/JsonWriter", "toString", "()Ljava/lang/String;"⟩ : MethodName)) hown (mvT hZ (hw _ (List.mem_of_getElem? (i := 118) rfl))) (mvT hZ (hw _ (List.mem_of_getElem? (i := 119) rfl))) (notFace_of_selects (args := #[]) (mvT hZ (hw _ (List.mem_of_getElem? (i := 121) rfl)))) (mvT hZ (hw _ (List.mem_of_getElem? (i := 121) rfl))) (mvT hZ (hw _ (List.mem_of_getElem? (i := 120) rfl))) (by decide) (backOf (W := 1) (rmJTS l Z aw hw [] b1 sb b k (14 : Int32) [(.int (123 : Int32)), (.int (34 : Int32)), (.int (97 : Int32)), (.int (34 : Int32)), (.int (58 : Int32)), (.int (110 : Int32)), (.int (117 : Int32)), (.int (108 : Int32)), (.int (108 : Int32)), (.int (44 : Int32)), (.int (110 : Int32)), (.int (117 : Int32)), (.int (108 : Int32)), (.int (108 : Int32)), (.int (0 : Int32)), (.int (0 : Int32))] cs T8.heap n0 Zs8 Ej8 g_b1 Ft8 Fa8 Ec8 g_sb Fv8 Fk8 Fn8 Vb8 g_b S0__8 (by decide) (by decide) (by decide) (by decide) hcs) hZ (hw _ (List.mem_of_getElem? (i := 122) rfl)) (hw _ (List.mem_of_getElem? (i := 3) rfl)) (by decide) (by decide)) q9a q9c (g := (mkF m 129 #[.val (.int p0), .val (.int (3 : Int32)), .val (.ref b1), .val (.ref a6), .val (.ref b1), .val (.ref b1)] [(.ref b1), (.ref a6)])) rfl (by rw [hml]; rfl) (Steps.refl _) (argsL := []) (rest := [(.ref a6)]) (lenOf pd___Ljava_lang_String_ rfl) rfl (by show 2 * 0 + _ ≤ _; exact Nat.le_of_eq rfl) (hb hby at_129) (fun _ _ => ⟨rfl, rfl, (by decide : 13 + 2 ≤ _), (by decide : 135 + 20 ≤ _)⟩)
  dsimp only [Pt.U, Pt.locs, Pt.cells, Pt.slots] at X9 l9 y9 z9 st9 hQ9
  subst l9 y9 z9
  obtain ⟨st, d, kd, rfl, N9q, szt, Kc9, Es9, Sk9, Sv9, Vd9⟩ := hQ9
  have N9 := Fr.app N8 N9q
  have hlt_st := Nat.lt_of_lt_of_le Es6__8.lt szt
  rw [(by first | rfl | decide : (own_cut (14 : Int32) [(.int (123 : Int32)), (.int (34 : Int32)), (.int (97 : Int32)), (.int (34 : Int32)), (.int (58 : Int32)), (.int (110 : Int32)), (.int (117 : Int32)), (.int (108 : Int32)), (.int (108 : Int32)), (.int (44 : Int32)), (.int (110 : Int32)), (.int (117 : Int32)), (.int (108 : Int32)), (.int (108 : Int32)), (.int (0 : Int32)), (.int (0 : Int32))]) = [(.int (123 : Int32)), (.int (34 : Int32)), (.int (97 : Int32)), (.int (34 : Int32)), (.int (58 : Int32)), (.int (110 : Int32)), (.int (117 : Int32)), (.int (108 : Int32)), (.int (108 : Int32)), (.int (44 : Int32)), (.int (110 : Int32)), (.int (117 : Int32)), (.int (108 : Int32)), (.int (108 : Int32))])] at Vd9
  have S0__9 := own_sta_keep S0__8 Kc9 ns0
  have SF__9 := own_sta_keep SF__8 Kc9 ns0
  have Es4__9 := Es4__8.keep Kc9
  have Sk4__9 := Sk4__8.keep Kc9 (fun q => nomatch q)
  have Sv4__9 := Sv4__8.keep Kc9 (fun q => nomatch q)
  have W4__9 := W4__8.keep Kc9 (fun q => nomatch q)
  have Es6__9 := Es6__8.keep Kc9
  have Sk6__9 := Sk6__8.keep Kc9 (fun q => nomatch q)
  have Sv6__9 := Sv6__8.keep Kc9 (fun q => nomatch q)
  have W6__9 := W6__8.keep Kc9 (fun q => nomatch q)
  have Ec8__9 := Ec8.keep Kc9
  have Fv8__9 := Fv8.keep Kc9 (fun q => nomatch q)
  have Fk8__9 := Fk8.keep Kc9 (fun q => nomatch q)
  have Fn8__9 := Fn8.keep Kc9 (fun q => nomatch q)
  have Vb8__9 := Vb8.keep Kc9 (fun q => nomatch q)
  have Ej8__9 := Ej8.keep Kc9
  have Ft8__9 := Ft8.keep Kc9 (fun q => nomatch q)
  have Fa8__9 := Fa8.keep Kc9 (fun q => nomatch q)
  have KK9 : Keep h0 T9.heap [] := Keep.trans KK8 Kc9 (fun _ q => nomatch q)
  have Zs9 : n0 ≤ T9.heap.size := Nat.le_trans Zs8 Kc9.1
  have R9 := R8.trans (CHr.keep Kc9 sf0 R8.1)
  have hk9 := Nat.le_trans hk8 Kc9.1
  obtain ⟨cq10, kq10, q10a, q10b, q10c⟩ := isOf hZ rfl Es6__9
  obtain ⟨_, _, ⟨T10, L10, k10, n10⟩, -, X10, ⟨Lc10, hQ10, l10, y10, z10⟩, st10⟩ := X9.virtualBack hx (y := (⟨"java/lang/String", "equals", "(Ljava/lang/Object;)Z"⟩ : MethodName)) (z := (⟨"java/lang/String", "equals", "(Ljava/lang/Object;)Z"⟩ : MethodName)) hown (mvT hZ (hw _ (List.mem_of_getElem? (i := 166) rfl))) (mvT hZ (hw _ (List.mem_of_getElem? (i := 167) rfl))) (notFace_of_selects (args := #[]) (mvT hZ (hw _ (List.mem_of_getElem? (i := 169) rfl)))) (mvT hZ (hw _ (List.mem_of_getElem? (i := 169) rfl))) (mvT hZ (hw _ (List.mem_of_getElem? (i := 168) rfl))) (by decide) (backOf (W := 0) (rmE l Z aw hw [] a6 st d6 d kd6 kd (14 : Int32) [(.int (123 : Int32)), (.int (34 : Int32)), (.int (97 : Int32)), (.int (34 : Int32)), (.int (58 : Int32)), (.int (110 : Int32)), (.int (117 : Int32)), (.int (108 : Int32)), (.int (108 : Int32)), (.int (44 : Int32)), (.int (110 : Int32)), (.int (117 : Int32)), (.int (108 : Int32)), (.int (108 : Int32))] cs T9.heap n0 Zs9 Es9 Sk6__9 Sk9 Sv6__9 Sv9 W6__9 Vd9 S0__9 (by decide) (own_hall3) (own_nref hlt_st) hcs) hZ (hw _ (List.mem_of_getElem? (i := 170) rfl)) (hw _ (List.mem_of_getElem? (i := 24) rfl)) (by decide) (by decide)) q10a q10c (g := (mkF m 132 #[.val (.int p0), .val (.int (3 : Int32)), .val (.ref b1), .val (.ref a6), .val (.ref b1), .val (.ref b1)] [(.ref st), (.ref a6)])) rfl (by rw [hml]; rfl) (Steps.refl _) (argsL := [(.ref st)]) (rest := []) (lenOf pd__Ljava_lang_Object__Z rfl) rfl (by show 2 * 0 + _ ≤ _; exact Nat.le_of_eq rfl) (hb hby at_132) (fun _ _ => ⟨rfl, rfl, (by decide : 15 + 0 ≤ _), (by decide : 155 + 0 ≤ _)⟩)
  dsimp only [Pt.U, Pt.locs, Pt.cells, Pt.slots] at X10 l10 y10 z10 st10 hQ10
  subst l10 y10 z10
  obtain ⟨rfl, N10q, q10⟩ := hQ10
  have N10 := Fr.app N9 N10q
  obtain ⟨fs, hr, hrun, hended, hRW⟩ := X10.leaveW hS8 (by rw [q10]; exact hk9) (v := some (.int (1 : Int32))) (fun h => by rw [Bd.returns] at h; cases h)
  have hRR : CHr Z consts_1 s.vm s.heap (T10.setFrames fs).vm (T10.setFrames fs).heap := by
    rw [hh]
    show CHr Z consts_1 s.vm h0 T10.vm T10.heap
    rw [q10]
    exact R9.trans (CHv.at X10 hZ (own_ew hw) R9.1)
  refine ⟨_, _, pre0 _ ?_, hrun, hended, _, _, rfl, ?_, hRR, hRW.1, hRW.2.1, hRW.2.2.1, hRW.2.2.2.mono (by decide) (by decide)⟩
  · show Steps p.tables e below (s₁.setTop (mkF m 0 #[.val (.int p0), .unset, .unset, .unset, .unset, .unset] [])) _
    refine XS.iloadN X0.here hx rfl (hb hby at_0) rfl ?_
    show Steps p.tables e below (s₁.setTop (mkF m 1 #[.val (.int p0), .unset, .unset, .unset, .unset, .unset] [(.int p0)])) _
    refine X0.ldcInt hx hown_0 (mvT hZ_0 (hw _ (List.mem_of_getElem? (i := 0) rfl))) (g := (mkF m 1 #[.val (.int p0), .unset, .unset, .unset, .unset, .unset] [(.int p0)])) rfl (hb hby at_1) _ ?_
    show Steps p.tables e below (s₁.setTop (mkF m 3 #[.val (.int p0), .unset, .unset, .unset, .unset, .unset] [(.int (2147483647 : Int32)), (.int p0)])) _
    refine XS.iand X0.here hx rfl (hb hby at_3) rfl ?_
    show Steps p.tables e below (s₁.setTop (mkF m 4 #[.val (.int p0), .unset, .unset, .unset, .unset, .unset] [(.int (p0 &&& (2147483647 : Int32)))])) _
    refine XS.iconst X0.here hx rfl (hb hby at_4) ?_
    show Steps p.tables e below (s₁.setTop (mkF m 5 #[.val (.int p0), .unset, .unset, .unset, .unset, .unset] [(.int (5 : Int32)), (.int (p0 &&& (2147483647 : Int32)))])) _
    refine XS.irem X0.here hx rfl (hb hby at_5) rfl (by decide) ?_
    show Steps p.tables e below (s₁.setTop (mkF m 6 #[.val (.int p0), .unset, .unset, .unset, .unset, .unset] [(.int ((p0 &&& (2147483647 : Int32)) - (p0 &&& (2147483647 : Int32)) / (5 : Int32) * (5 : Int32)))])) _
    rw [hm]
    show Steps p.tables e below (s₁.setTop (mkF m 6 #[.val (.int p0), .unset, .unset, .unset, .unset, .unset] [(.int (3 : Int32))])) _
    refine XS.istoreN X0.here hx rfl (hb hby at_6) rfl (l' := #[.val (.int p0), .val (.int (3 : Int32)), .unset, .unset, .unset, .unset]) rfl ?_
    show Steps p.tables e below (s₁.setTop (mkF m 7 #[.val (.int p0), .val (.int (3 : Int32)), .unset, .unset, .unset, .unset] [])) _
    refine st1 _ ?_
    show Steps p.tables e below (T1.setTop (mkF m 10 #[.val (.int p0), .val (.int (3 : Int32)), .unset, .unset, .unset, .unset] [(.ref b1)])) _
    refine XS.dup X1.here hx rfl (hb hby at_10) rfl rfl ?_
    show Steps p.tables e below (T1.setTop (mkF m 11 #[.val (.int p0), .val (.int (3 : Int32)), .unset, .unset, .unset, .unset] [(.ref b1), (.ref b1)])) _
    refine st2.trans ?_
    show Steps p.tables e below (T2.setTop (mkF m 14 #[.val (.int p0), .val (.int (3 : Int32)), .unset, .unset, .unset, .unset] [(.ref b1)])) _
    refine XS.astoreN X2.here hx rfl (hb hby at_14) rfl rfl (l' := #[.val (.int p0), .val (.int (3 : Int32)), .val (.ref b1), .unset, .unset, .unset]) rfl ?_
    show Steps p.tables e below (T2.setTop (mkF m 15 #[.val (.int p0), .val (.int (3 : Int32)), .val (.ref b1), .unset, .unset, .unset] [])) _
    refine XS.iloadN X2.here hx rfl (hb hby at_15) rfl ?_
    show Steps p.tables e below (T2.setTop (mkF m 16 #[.val (.int p0), .val (.int (3 : Int32)), .val (.ref b1), .unset, .unset, .unset] [(.int (3 : Int32))])) _
    refine XS.ifYes X2.here hx rfl (pc0 := 16) (pc' := 25) rfl (hb hby at_16) rfl ((if0 _ _).trans (feq (by decide : ¬ ((3 : Int32) = (0 : Int32)))).2) (by decide) (by decide) ?_
    show Steps p.tables e below (T2.setTop (mkF m 25 #[.val (.int p0), .val (.int (3 : Int32)), .val (.ref b1), .unset, .unset, .unset] [])) _
    refine XS.iloadN X2.here hx rfl (hb hby at_25) rfl ?_
    show Steps p.tables e below (T2.setTop (mkF m 26 #[.val (.int p0), .val (.int (3 : Int32)), .val (.ref b1), .unset, .unset, .unset] [(.int (3 : Int32))])) _
    refine XS.iconst X2.here hx rfl (hb hby at_26) ?_
    show Steps p.tables e below (T2.setTop (mkF m 27 #[.val (.int p0), .val (.int (3 : Int32)), .val (.ref b1), .unset, .unset, .unset] [(.int (1 : Int32)), (.int (3 : Int32))])) _
    refine XS.icmpYes X2.here hx rfl (pc0 := 27) (pc' := 41) rfl (hb hby at_27) rfl (feq (by decide : ¬ ((3 : Int32) = (1 : Int32)))).2 (by decide) (by decide) ?_
    show Steps p.tables e below (T2.setTop (mkF m 41 #[.val (.int p0), .val (.int (3 : Int32)), .val (.ref b1), .unset, .unset, .unset] [])) _
    refine XS.iloadN X2.here hx rfl (hb hby at_41) rfl ?_
    show Steps p.tables e below (T2.setTop (mkF m 42 #[.val (.int p0), .val (.int (3 : Int32)), .val (.ref b1), .unset, .unset, .unset] [(.int (3 : Int32))])) _
    refine XS.iconst X2.here hx rfl (hb hby at_42) ?_
    show Steps p.tables e below (T2.setTop (mkF m 43 #[.val (.int p0), .val (.int (3 : Int32)), .val (.ref b1), .unset, .unset, .unset] [(.int (2 : Int32)), (.int (3 : Int32))])) _
    refine XS.icmpYes X2.here hx rfl (pc0 := 43) (pc' := 62) rfl (hb hby at_43) rfl (feq (by decide : ¬ ((3 : Int32) = (2 : Int32)))).2 (by decide) (by decide) ?_
    show Steps p.tables e below (T2.setTop (mkF m 62 #[.val (.int p0), .val (.int (3 : Int32)), .val (.ref b1), .unset, .unset, .unset] [])) _
    refine XS.iloadN X2.here hx rfl (hb hby at_62) rfl ?_
    show Steps p.tables e below (T2.setTop (mkF m 63 #[.val (.int p0), .val (.int (3 : Int32)), .val (.ref b1), .unset, .unset, .unset] [(.int (3 : Int32))])) _
    refine XS.iconst X2.here hx rfl (hb hby at_63) ?_
    show Steps p.tables e below (T2.setTop (mkF m 64 #[.val (.int p0), .val (.int (3 : Int32)), .val (.ref b1), .unset, .unset, .unset] [(.int (3 : Int32)), (.int (3 : Int32))])) _
    refine XS.icmpNo X2.here hx rfl (hb hby at_64) rfl (teq (rfl : (3 : Int32) = (3 : Int32))).2 ?_
    show Steps p.tables e below (T2.setTop (mkF m 67 #[.val (.int p0), .val (.int (3 : Int32)), .val (.ref b1), .unset, .unset, .unset] [])) _
    refine XS.aloadN X2.here hx rfl (hb hby at_67) rfl rfl ?_
    show Steps p.tables e below (T2.setTop (mkF m 68 #[.val (.int p0), .val (.int (3 : Int32)), .val (.ref b1), .unset, .unset, .unset] [(.ref b1)])) _
    refine st3.trans ?_
    show Steps p.tables e below (T3.setTop (mkF m 71 #[.val (.int p0), .val (.int (3 : Int32)), .val (.ref b1), .unset, .unset, .unset] [(.ref b1)])) _
    refine XS.pop X3.here hx rfl (hb hby at_71) rfl rfl ?_
    show Steps p.tables e below (T3.setTop (mkF m 72 #[.val (.int p0), .val (.int (3 : Int32)), .val (.ref b1), .unset, .unset, .unset] [])) _
    refine XS.aloadN X3.here hx rfl (hb hby at_72) rfl rfl ?_
    show Steps p.tables e below (T3.setTop (mkF m 73 #[.val (.int p0), .val (.int (3 : Int32)), .val (.ref b1), .unset, .unset, .unset] [(.ref b1)])) _
    refine st4 _ ?_
    show Steps p.tables e below (T4.setTop (mkF m 75 #[.val (.int p0), .val (.int (3 : Int32)), .val (.ref b1), .unset, .unset, .unset] [(.ref a4), (.ref b1)])) _
    refine st5.trans ?_
    show Steps p.tables e below (T5.setTop (mkF m 78 #[.val (.int p0), .val (.int (3 : Int32)), .val (.ref b1), .unset, .unset, .unset] [(.ref b1)])) _
    refine XS.pop X5.here hx rfl (hb hby at_78) rfl rfl ?_
    show Steps p.tables e below (T5.setTop (mkF m 79 #[.val (.int p0), .val (.int (3 : Int32)), .val (.ref b1), .unset, .unset, .unset] [])) _
    refine st6 _ ?_
    show Steps p.tables e below (T6.setTop (mkF m 81 #[.val (.int p0), .val (.int (3 : Int32)), .val (.ref b1), .unset, .unset, .unset] [(.ref a6)])) _
    refine XS.astoreN X6.here hx rfl (hb hby at_81) rfl rfl (l' := #[.val (.int p0), .val (.int (3 : Int32)), .val (.ref b1), .val (.ref a6), .unset, .unset]) rfl ?_
    show Steps p.tables e below (T6.setTop (mkF m 82 #[.val (.int p0), .val (.int (3 : Int32)), .val (.ref b1), .val (.ref a6), .unset, .unset] [])) _
    refine XS.goto X6.here hx rfl (pc0 := 82) (pc' := 103) rfl (hb hby at_82) (by decide) (by decide) ?_
    show Steps p.tables e below (T6.setTop (mkF m 103 #[.val (.int p0), .val (.int (3 : Int32)), .val (.ref b1), .val (.ref a6), .unset, .unset] [])) _
    refine XS.aloadN X6.here hx rfl (hb hby at_103) rfl rfl ?_
    show Steps p.tables e below (T6.setTop (mkF m 104 #[.val (.int p0), .val (.int (3 : Int32)), .val (.ref b1), .val (.ref a6), .unset, .unset] [(.ref b1)])) _
    refine st7.trans ?_
    show Steps p.tables e below (T7.setTop (mkF m 107 #[.val (.int p0), .val (.int (3 : Int32)), .val (.ref b1), .val (.ref a6), .unset, .unset] [(.ref b1)])) _
    refine XS.astore X7.here hx rfl (hb hby at_107) rfl rfl (l' := #[.val (.int p0), .val (.int (3 : Int32)), .val (.ref b1), .val (.ref a6), .val (.ref b1), .unset]) rfl ?_
    show Steps p.tables e below (T7.setTop (mkF m 109 #[.val (.int p0), .val (.int (3 : Int32)), .val (.ref b1), .val (.ref a6), .val (.ref b1), .unset] [])) _
    refine XS.aloadN X7.here hx rfl (hb hby at_109) rfl rfl ?_
    show Steps p.tables e below (T7.setTop (mkF m 110 #[.val (.int p0), .val (.int (3 : Int32)), .val (.ref b1), .val (.ref a6), .val (.ref b1), .unset] [(.ref b1)])) _
    refine st8.trans ?_
    show Steps p.tables e below (T8.setTop (mkF m 113 #[.val (.int p0), .val (.int (3 : Int32)), .val (.ref b1), .val (.ref a6), .val (.ref b1), .unset] [(.ref b1)])) _
    refine XS.astore X8.here hx rfl (hb hby at_113) rfl rfl (l' := #[.val (.int p0), .val (.int (3 : Int32)), .val (.ref b1), .val (.ref a6), .val (.ref b1), .val (.ref b1)]) rfl ?_
    show Steps p.tables e below (T8.setTop (mkF m 115 #[.val (.int p0), .val (.int (3 : Int32)), .val (.ref b1), .val (.ref a6), .val (.ref b1), .val (.ref b1)] [])) _
    refine XS.aload X8.here hx rfl (hb hby at_115) rfl rfl ?_
    show Steps p.tables e below (T8.setTop (mkF m 117 #[.val (.int p0), .val (.int (3 : Int32)), .val (.ref b1), .val (.ref a6), .val (.ref b1), .val (.ref b1)] [(.ref b1)])) _
    refine XS.aloadN X8.here hx rfl (hb hby at_117) rfl rfl ?_
    show Steps p.tables e below (T8.setTop (mkF m 118 #[.val (.int p0), .val (.int (3 : Int32)), .val (.ref b1), .val (.ref a6), .val (.ref b1), .val (.ref b1)] [(.ref b1), (.ref b1)])) _
    refine Jvm.RoadKit.acmp (g := (mkF m 118 #[.val (.int p0), .val (.int (3 : Int32)), .val (.ref b1), .val (.ref a6), .val (.ref b1), .val (.ref b1)] [(.ref b1), (.ref b1)])) X8 hx rfl rfl rfl (pc0 := 118) (pc' := 121) (same := true) rfl (hb hby at_118) rfl (decide_eq_true rfl) (by decide) (by decide) ?_
    show Steps p.tables e below (T8.setTop (mkF m 121 #[.val (.int p0), .val (.int (3 : Int32)), .val (.ref b1), .val (.ref a6), .val (.ref b1), .val (.ref b1)] [])) _
    refine XS.aload X8.here hx rfl (hb hby at_121) rfl rfl ?_
    show Steps p.tables e below (T8.setTop (mkF m 123 #[.val (.int p0), .val (.int (3 : Int32)), .val (.ref b1), .val (.ref a6), .val (.ref b1), .val (.ref b1)] [(.ref b1)])) _
    refine XS.aloadN X8.here hx rfl (hb hby at_123) rfl rfl ?_
    show Steps p.tables e below (T8.setTop (mkF m 124 #[.val (.int p0), .val (.int (3 : Int32)), .val (.ref b1), .val (.ref a6), .val (.ref b1), .val (.ref b1)] [(.ref b1), (.ref b1)])) _
    refine Jvm.RoadKit.acmp (g := (mkF m 124 #[.val (.int p0), .val (.int (3 : Int32)), .val (.ref b1), .val (.ref a6), .val (.ref b1), .val (.ref b1)] [(.ref b1), (.ref b1)])) X8 hx rfl rfl rfl (pc0 := 124) (pc' := 127) (same := true) rfl (hb hby at_124) rfl (decide_eq_true rfl) (by decide) (by decide) ?_
    show Steps p.tables e below (T8.setTop (mkF m 127 #[.val (.int p0), .val (.int (3 : Int32)), .val (.ref b1), .val (.ref a6), .val (.ref b1), .val (.ref b1)] [])) _
    refine XS.aloadN X8.here hx rfl (hb hby at_127) rfl rfl ?_
    show Steps p.tables e below (T8.setTop (mkF m 128 #[.val (.int p0), .val (.int (3 : Int32)), .val (.ref b1), .val (.ref a6), .val (.ref b1), .val (.ref b1)] [(.ref a6)])) _
    refine XS.aloadN X8.here hx rfl (hb hby at_128) rfl rfl ?_
    show Steps p.tables e below (T8.setTop (mkF m 129 #[.val (.int p0), .val (.int (3 : Int32)), .val (.ref b1), .val (.ref a6), .val (.ref b1), .val (.ref b1)] [(.ref b1), (.ref a6)])) _
    refine st9.trans ?_
    show Steps p.tables e below (T9.setTop (mkF m 132 #[.val (.int p0), .val (.int (3 : Int32)), .val (.ref b1), .val (.ref a6), .val (.ref b1), .val (.ref b1)] [(.ref st), (.ref a6)])) _
    refine st10.trans ?_
    show Steps p.tables e below (T10.setTop (mkF m 135 #[.val (.int p0), .val (.int (3 : Int32)), .val (.ref b1), .val (.ref a6), .val (.ref b1), .val (.ref b1)] [(.int (1 : Int32))])) _
    refine XS.ifNo X10.here hx rfl (hb hby at_135) rfl ((if0 _ _).trans (feq (by decide : ¬ ((1 : Int32) = (0 : Int32)))).1) ?_
    show Steps p.tables e below (T10.setTop (mkF m 138 #[.val (.int p0), .val (.int (3 : Int32)), .val (.ref b1), .val (.ref a6), .val (.ref b1), .val (.ref b1)] [])) _
    refine XS.iconst X10.here hx rfl (hb hby at_138) ?_
    show Steps p.tables e below (T10.setTop (mkF m 139 #[.val (.int p0), .val (.int (3 : Int32)), .val (.ref b1), .val (.ref a6), .val (.ref b1), .val (.ref b1)] [(.int (1 : Int32))])) _
    refine XS.goto X10.here hx rfl (pc0 := 139) (pc' := 143) rfl (hb hby at_139) (by decide) (by decide) ?_
    show Steps p.tables e below (T10.setTop (mkF m 143 #[.val (.int p0), .val (.int (3 : Int32)), .val (.ref b1), .val (.ref a6), .val (.ref b1), .val (.ref b1)] [(.int (1 : Int32))])) _
    exact retN X10 hx (t := .boolean) Bd.returns (by simp) (hb hby at_143) hr
  · show Q0_3 Z p0 fm cs h0 n0 _ T10.heap _
    rw [q10]
    exact ⟨rfl, N10⟩
theorem ef_rm0_4 (m : MethodId) (p0 : Int32) : entryFrame m #[(.int p0)] maxLocals = mkF m 0 #[.val (.int p0), .unset, .unset, .unset, .unset, .unset] [] := by first | (simp [entryFrame, mkF, argsToLocals, Value.category, maxLocals]; done) | rfl
def Q0_4 (Z : State) (p0 : Int32) (fm : Value) (cs : Int32) (h0 : Heap) (n0 : Nat) (v : Option Value) (h : Heap) (L : List Loc) : Prop := v = some (.int (1 : Int32)) ∧ Fr n0 L
set_option maxRecDepth 65536 in
set_option maxHeartbeats 40000000 in
theorem rm0_4 (l : Launch) (Z : State) (aw : Array Value) (hw : ∀ d ∈ tables_1, d.before aw Z = true) (ws : List Jvm.Cond) (p0 : Int32) (fm : Value) (cs : Int32) (h0 : Heap) (n0 : Nat) (Z0 : n0 ≤ h0.size) (SF : Sta Z h0 "jdk/internal/util/Preconditions" "SIOOBE_FORMATTER" "Ljava/util/function/BiFunction;" fm) (S0 : Sta Z h0 "java/lang/String" "COMPACT_STRINGS" "Z" (.int cs)) (hfm : fm.isRef = true) (hcs : ¬ (cs = (0 : Int32))) (hm : ((p0 &&& (2147483647 : Int32)) - (p0 &&& (2147483647 : Int32)) / (5 : Int32) * (5 : Int32)) = (4 : Int32)) :
    MetFree l x (head1 (Jvm.Cond.code x code maxLocals ret :: ws) room_1) (fun a U => a = #[(.int p0)] ∧ Z.Warmed39 U.vm ∧ U.heap = h0 ∧ CHv Z consts_1 U.vm h0) (fun _ _ _ _ _ => True) (fun _ U o U' => ∃ v L, o = .returned v ∧ Q0_4 Z p0 fm cs h0 n0 v U'.heap L ∧ CHr Z consts_1 U.vm U.heap U'.vm U'.heap ∧ ReturnedEndW U o U' L room_1.cells room_1.slots) := by
  refine MetFree.of_bodySF (plainFor_of_name pn_latentrace_io_JsonWriterNullValuePinLaw) hisR ?_
  intro p e s m args below meth cd s₁ Bd hml0 hP hK
  obtain ⟨rfl, hZ, hh, hCH⟩ := hP
  have hx := Bd.exec
  have hby := Bd.bytes
  have hml : cd.maxLocals = 6 := hml0
  have hown : s.vm.findClass "latentrace/io/JsonWriterNullValuePinLaw" = some m.cls := findClass_of_methodNamed Bd.named
  have hnm := (name_of_methodNamed Bd.named Bd.method).1
  have X0 : Stand p l e room_1 (s.setVm s.vm) m #[(.int p0)] below meth cd s₁ [] 0 0 := Stand.of_body Bd
  have e0 : s₁.heap = h0 := by rw [← hh, Bd.state]; rfl
  have N0 := Fr.nil n0
  have pre0 : ∀ t, Steps p.tables e below (s₁.setTop (mkF m 0 #[.val (.int p0), .unset, .unset, .unset, .unset, .unset] [])) t → Steps p.tables e below (s₁.setTop (entryFrame m #[(.int p0)] maxLocals)) t := fun t k => castTop (ef_rm0_4 m p0) k
  have hZ_0 := hZ
  have hown_0 := hown
  have hS0 : s.Since s.vm 0 := (State.WarmedH.refl s).since 0
  have hk0 : 0 ≤ h0.size := Nat.zero_le _
  have R0 : CHr Z consts_1 s.vm h0 s.vm h0 := CHr.refl hCH
  obtain ⟨T1, h1, X1, e1, E1, A1, D1, -, st1⟩ := newO X0 hx hZ hown (hw _ (List.mem_of_getElem? (i := 1) rfl)) (hw _ (List.mem_of_getElem? (i := 2) rfl)) (hw _ (List.mem_of_getElem? (i := 3) rfl)) e0 (g := (mkF m 7 #[.val (.int p0), .val (.int (4 : Int32)), .unset, .unset, .unset, .unset] [])) rfl (hb hby at_7) (by decide) (by decide)
  obtain ⟨b1, g1⟩ : ∃ z, z = h0.size := ⟨_, rfl⟩
  rw [← g1] at A1 D1 st1
  have g_b1 : n0 ≤ b1 := Nat.le_trans Z0 (Nat.le_of_eq g1.symm)
  have sz_b1 : h0.size ≤ b1 := Nat.le_trans (Keep.refl h0 []).1 (Nat.le_of_eq g1.symm)
  have S0__1 := S0.ext E1
  have SF__1 := SF.ext E1
  have K1 : Keep h0 h1 [] := (Keep.refl h0 []).ext E1
  have Zs1 : n0 ≤ h1.size := Nat.le_trans Z0 E1.1
  have hk1 := Nat.le_trans hk0 E1.1
  have R1 := R0.trans (CHr.ext E1 R0.1)
  have F_text_b1 : Fld Z h1 b1 "latentrace/io/JsonWriter" "text" "Ljava/lang/StringBuilder;" .null := D1 (Or.inr (hw _ (List.mem_of_getElem? (i := 31) rfl))) (ty := (.object "java/lang/StringBuilder")) (by decide)
  have F_afterValue_b1 : Fld Z h1 b1 "latentrace/io/JsonWriter" "afterValue" "Z" (.int (0 : Int32)) := D1 (Or.inl (hw _ (List.mem_of_getElem? (i := 48) rfl))) (ty := .boolean) (by decide)
  obtain ⟨_, _, ⟨T2, L2, k2, n2⟩, -, X2, ⟨Lc2, hQ2, l2, y2, z2⟩, st2⟩ := X1.specialBack hx (y := (⟨"latentrace/io/JsonWriter", "<init>", "()V"⟩ : MethodName)) rfl hown (mvT hZ (hw _ (List.mem_of_getElem? (i := 4) rfl))) (mvT hZ (hw _ (List.mem_of_getElem? (i := 5) rfl))) (mvT hZ (hw _ (List.mem_of_getElem? (i := 6) rfl))) (by decide) (backOf (W := 1) (rmJInit l Z aw hw [] b1 .null cs h1 n0 Zs1 A1 g_b1 F_text_b1 F_afterValue_b1 S0__1 hcs) hZ (hw _ (List.mem_of_getElem? (i := 6) rfl)) (hw _ (List.mem_of_getElem? (i := 3) rfl)) (by decide) (by decide)) (g := (mkF m 11 #[.val (.int p0), .val (.int (4 : Int32)), .unset, .unset, .unset, .unset] [(.ref b1), (.ref b1)])) rfl (by rw [hml]; rfl) (Steps.refl _) (a := b1) (argsL := []) (rest := [(.ref b1)]) (lenOf pd___V rfl) rfl (by show 2 * 0 + _ ≤ _; exact Nat.le_of_eq rfl) (hb hby at_11) (fun _ _ => ⟨rfl, e1, (by decide : 1 + 2 ≤ _), (by decide : 2 + 20 ≤ _)⟩)
  dsimp only [Pt.U, Pt.locs, Pt.cells, Pt.slots] at X2 l2 y2 z2 st2 hQ2
  subst l2 y2 z2
  obtain ⟨sb, b, k, rfl, N2q, gsb, gb, Kc2, Ej2, Ft2, Fa2, Ec2, Fv2, Fk2, Fn2, Vb2⟩ := hQ2
  have N2 := Fr.app N0 N2q
  have sz_sb : h0.size ≤ sb := Nat.le_trans K1.1 gsb
  have g_sb : n0 ≤ sb := Nat.le_trans Zs1 gsb
  have sz_b : h0.size ≤ b := Nat.le_trans K1.1 gb
  have g_b : n0 ≤ b := Nat.le_trans Zs1 gb
  have S0__2 := own_sta_keep S0__1 Kc2 (nsS (A1.nostat) ns0)
  have SF__2 := own_sta_keep SF__1 Kc2 (nsS (A1.nostat) ns0)
  have KK2 : Keep h0 T2.heap [] := Keep.trans K1 Kc2 (fun x q => by cases List.mem_singleton.mp q; exact (Or.inr sz_b1))
  have Zs2 : n0 ≤ T2.heap.size := Nat.le_trans Zs1 Kc2.1
  have R2 := R1.trans (CHr.keep Kc2 (sfS (Safe.exa hZ.alike A1 (by decide) (by decide)) sf0) R1.1)
  have hk2 := Nat.le_trans hk1 Kc2.1
  obtain ⟨cq3, kq3, q3a, q3b, q3c⟩ := isOf hZ rfl Ej2
  obtain ⟨_, _, ⟨T3, L3, k3, n3⟩, -, X3, ⟨Lc3, hQ3, l3, y3, z3⟩, st3⟩ := X2.virtualBack hx (y := (⟨"latentrace/io/JsonWriter", "beginArray", "()Llatentrace/io/JsonWriter;"⟩ : MethodName)) (z := (⟨"latentrace/io/JsonWriter", "beginArray", "()Llatentrace/io/JsonWriter;"⟩ : MethodName)) hown (mvT hZ (hw _ (List.mem_of_getElem? (i := 227) rfl))) (mvT hZ (hw _ (List.mem_of_getElem? (i := 228) rfl))) (notFace_of_selects (args := #[]) (mvT hZ (hw _ (List.mem_of_getElem? (i := 230) rfl)))) (mvT hZ (hw _ (List.mem_of_getElem? (i := 230) rfl))) (mvT hZ (hw _ (List.mem_of_getElem? (i := 229) rfl))) (by decide) (backOf (W := 0) (rm_beginArray l Z aw hw [] b1  sb b k (0 : Int32) [(.int (0 : Int32)), (.int (0 : Int32)), (.int (0 : Int32)), (.int (0 : Int32)), (.int (0 : Int32)), (.int (0 : Int32)), (.int (0 : Int32)), (.int (0 : Int32)), (.int (0 : Int32)), (.int (0 : Int32)), (.int (0 : Int32)), (.int (0 : Int32)), (.int (0 : Int32)), (.int (0 : Int32)), (.int (0 : Int32)), (.int (0 : Int32))]  cs T2.heap n0 Zs2 Ej2 g_b1 Ft2 Fa2 Ec2 g_sb Fv2 Fk2 Fn2 Vb2 g_b  S0__2 (by decide) (by decide) (by decide) hcs) hZ (hw _ (List.mem_of_getElem? (i := 231) rfl)) (hw _ (List.mem_of_getElem? (i := 3) rfl)) (by decide) (by decide)) q3a q3c (g := (mkF m 86 #[.val (.int p0), .val (.int (4 : Int32)), .val (.ref b1), .unset, .unset, .unset] [(.ref b1)])) rfl (by rw [hml]; rfl) (Steps.refl _) (argsL := []) (rest := []) (lenOf pd___Llatentrace_io_JsonWriter_ rfl) rfl (by show 2 * 0 + _ ≤ _; exact Nat.le_of_eq rfl) (hb hby at_86) (fun _ _ => ⟨rfl, rfl, (by decide : 3 + 0 ≤ _), (by decide : 22 + 0 ≤ _)⟩)
  dsimp only [Pt.U, Pt.locs, Pt.cells, Pt.slots] at X3 l3 y3 z3 st3 hQ3
  subst l3 y3 z3
  obtain ⟨rfl, N3q, Kc3, Ej3, Ft3, Fa3, Ec3, Fv3, Fk3, Fn3, Vb3⟩ := hQ3
  have N3 := Fr.app N2 N3q
  rw [(by decide : ((0 : Int32) + (1 : Int32)) = (1 : Int32))] at Fn3
  rw [(by first | rfl | decide : (([(.int (0 : Int32)), (.int (0 : Int32)), (.int (0 : Int32)), (.int (0 : Int32)), (.int (0 : Int32)), (.int (0 : Int32)), (.int (0 : Int32)), (.int (0 : Int32)), (.int (0 : Int32)), (.int (0 : Int32)), (.int (0 : Int32)), (.int (0 : Int32)), (.int (0 : Int32)), (.int (0 : Int32)), (.int (0 : Int32)), (.int (0 : Int32))].set ((0 : Int32)).toNatClampNeg (.int (nar .byte ((91 : Int32).toInt8.toInt32)))) : List Value) = [(.int (91 : Int32)), (.int (0 : Int32)), (.int (0 : Int32)), (.int (0 : Int32)), (.int (0 : Int32)), (.int (0 : Int32)), (.int (0 : Int32)), (.int (0 : Int32)), (.int (0 : Int32)), (.int (0 : Int32)), (.int (0 : Int32)), (.int (0 : Int32)), (.int (0 : Int32)), (.int (0 : Int32)), (.int (0 : Int32)), (.int (0 : Int32))])] at Vb3
  have S0__3 := own_sta_keep S0__2 Kc3 (nsS (Ej2.nostat) (nsS (Ec2.nostat) (nsS (Vb2.nostat) ns0)))
  have SF__3 := own_sta_keep SF__2 Kc3 (nsS (Ej2.nostat) (nsS (Ec2.nostat) (nsS (Vb2.nostat) ns0)))
  have KK3 : Keep h0 T3.heap [] := Keep.trans KK2 Kc3 (fun x q => by simp only [List.mem_cons, List.not_mem_nil, or_false] at q; rcases q with rfl | rfl | rfl <;> first | exact (Or.inr sz_b1) | exact (Or.inr sz_sb) | exact (Or.inr sz_b))
  have Zs3 : n0 ≤ T3.heap.size := Nat.le_trans Zs2 Kc3.1
  have R3 := R2.trans (CHr.keep Kc3 (sfS (Safe.exa hZ.alike Ej2 (by decide) (by decide)) (sfS (Safe.exa hZ.alike Ec2 (by decide) (by decide)) (sfS (own_safe hw hZ Vb2) sf0))) R2.1)
  have hk3 := Nat.le_trans hk2 Kc3.1
  obtain ⟨cq4, kq4, q4a, q4b, q4c⟩ := isOf hZ rfl Ej3
  obtain ⟨_, _, ⟨T4, L4, k4, n4⟩, -, X4, ⟨Lc4, hQ4, l4, y4, z4⟩, st4⟩ := X3.virtualBack hx (y := (⟨"latentrace/io/JsonWriter", "beginArray", "()Llatentrace/io/JsonWriter;"⟩ : MethodName)) (z := (⟨"latentrace/io/JsonWriter", "beginArray", "()Llatentrace/io/JsonWriter;"⟩ : MethodName)) hown (mvT hZ (hw _ (List.mem_of_getElem? (i := 227) rfl))) (mvT hZ (hw _ (List.mem_of_getElem? (i := 228) rfl))) (notFace_of_selects (args := #[]) (mvT hZ (hw _ (List.mem_of_getElem? (i := 230) rfl)))) (mvT hZ (hw _ (List.mem_of_getElem? (i := 230) rfl))) (mvT hZ (hw _ (List.mem_of_getElem? (i := 229) rfl))) (by decide) (backOf (W := 0) (rm_beginArray l Z aw hw [] b1  sb b k (1 : Int32) [(.int (91 : Int32)), (.int (0 : Int32)), (.int (0 : Int32)), (.int (0 : Int32)), (.int (0 : Int32)), (.int (0 : Int32)), (.int (0 : Int32)), (.int (0 : Int32)), (.int (0 : Int32)), (.int (0 : Int32)), (.int (0 : Int32)), (.int (0 : Int32)), (.int (0 : Int32)), (.int (0 : Int32)), (.int (0 : Int32)), (.int (0 : Int32))]  cs T3.heap n0 Zs3 Ej3 g_b1 Ft3 Fa3 Ec3 g_sb Fv3 Fk3 Fn3 Vb3 g_b  S0__3 (by decide) (by decide) (by decide) hcs) hZ (hw _ (List.mem_of_getElem? (i := 231) rfl)) (hw _ (List.mem_of_getElem? (i := 3) rfl)) (by decide) (by decide)) q4a q4c (g := (mkF m 91 #[.val (.int p0), .val (.int (4 : Int32)), .val (.ref b1), .unset, .unset, .unset] [(.ref b1)])) rfl (by rw [hml]; rfl) (Steps.refl _) (argsL := []) (rest := []) (lenOf pd___Llatentrace_io_JsonWriter_ rfl) rfl (by show 2 * 0 + _ ≤ _; exact Nat.le_of_eq rfl) (hb hby at_91) (fun _ _ => ⟨rfl, rfl, (by decide : 3 + 0 ≤ _), (by decide : 22 + 0 ≤ _)⟩)
  dsimp only [Pt.U, Pt.locs, Pt.cells, Pt.slots] at X4 l4 y4 z4 st4 hQ4
  subst l4 y4 z4
  obtain ⟨rfl, N4q, Kc4, Ej4, Ft4, Fa4, Ec4, Fv4, Fk4, Fn4, Vb4⟩ := hQ4
  have N4 := Fr.app N3 N4q
  rw [(by decide : ((1 : Int32) + (1 : Int32)) = (2 : Int32))] at Fn4
  rw [(by first | rfl | decide : (([(.int (91 : Int32)), (.int (0 : Int32)), (.int (0 : Int32)), (.int (0 : Int32)), (.int (0 : Int32)), (.int (0 : Int32)), (.int (0 : Int32)), (.int (0 : Int32)), (.int (0 : Int32)), (.int (0 : Int32)), (.int (0 : Int32)), (.int (0 : Int32)), (.int (0 : Int32)), (.int (0 : Int32)), (.int (0 : Int32)), (.int (0 : Int32))].set ((1 : Int32)).toNatClampNeg (.int (nar .byte ((91 : Int32).toInt8.toInt32)))) : List Value) = [(.int (91 : Int32)), (.int (91 : Int32)), (.int (0 : Int32)), (.int (0 : Int32)), (.int (0 : Int32)), (.int (0 : Int32)), (.int (0 : Int32)), (.int (0 : Int32)), (.int (0 : Int32)), (.int (0 : Int32)), (.int (0 : Int32)), (.int (0 : Int32)), (.int (0 : Int32)), (.int (0 : Int32)), (.int (0 : Int32)), (.int (0 : Int32))])] at Vb4
  have S0__4 := own_sta_keep S0__3 Kc4 (nsS (Ej3.nostat) (nsS (Ec3.nostat) (nsS (Vb3.nostat) ns0)))
  have SF__4 := own_sta_keep SF__3 Kc4 (nsS (Ej3.nostat) (nsS (Ec3.nostat) (nsS (Vb3.nostat) ns0)))
  have KK4 : Keep h0 T4.heap [] := Keep.trans KK3 Kc4 (fun x q => by simp only [List.mem_cons, List.not_mem_nil, or_false] at q; rcases q with rfl | rfl | rfl <;> first | exact (Or.inr sz_b1) | exact (Or.inr sz_sb) | exact (Or.inr sz_b))
  have Zs4 : n0 ≤ T4.heap.size := Nat.le_trans Zs3 Kc4.1
  have R4 := R3.trans (CHr.keep Kc4 (sfS (Safe.exa hZ.alike Ej3 (by decide) (by decide)) (sfS (Safe.exa hZ.alike Ec3 (by decide) (by decide)) (sfS (own_safe hw hZ Vb3) sf0))) R3.1)
  have hk4 := Nat.le_trans hk3 Kc4.1
  obtain ⟨cq5, kq5, q5a, q5b, q5c⟩ := isOf hZ rfl Ej4
  obtain ⟨_, _, ⟨T5, L5, k5, n5⟩, -, X5, ⟨Lc5, hQ5, l5, y5, z5⟩, st5⟩ := X4.virtualBack hx (y := (⟨"latentrace/io/JsonWriter", "endArray", "()Llatentrace/io/JsonWriter;"⟩ : MethodName)) (z := (⟨"latentrace/io/JsonWriter", "endArray", "()Llatentrace/io/JsonWriter;"⟩ : MethodName)) hown (mvT hZ (hw _ (List.mem_of_getElem? (i := 233) rfl))) (mvT hZ (hw _ (List.mem_of_getElem? (i := 234) rfl))) (notFace_of_selects (args := #[]) (mvT hZ (hw _ (List.mem_of_getElem? (i := 236) rfl)))) (mvT hZ (hw _ (List.mem_of_getElem? (i := 236) rfl))) (mvT hZ (hw _ (List.mem_of_getElem? (i := 235) rfl))) (by decide) (backOf (W := 0) (rm_endArray l Z aw hw [] b1  sb b k (2 : Int32) [(.int (91 : Int32)), (.int (91 : Int32)), (.int (0 : Int32)), (.int (0 : Int32)), (.int (0 : Int32)), (.int (0 : Int32)), (.int (0 : Int32)), (.int (0 : Int32)), (.int (0 : Int32)), (.int (0 : Int32)), (.int (0 : Int32)), (.int (0 : Int32)), (.int (0 : Int32)), (.int (0 : Int32)), (.int (0 : Int32)), (.int (0 : Int32))]  cs T4.heap n0 Zs4 Ej4 g_b1 Ft4 Fa4 Ec4 g_sb Fv4 Fk4 Fn4 Vb4 g_b  S0__4 (by decide) (by decide) (by decide) hcs) hZ (hw _ (List.mem_of_getElem? (i := 237) rfl)) (hw _ (List.mem_of_getElem? (i := 3) rfl)) (by decide) (by decide)) q5a q5c (g := (mkF m 96 #[.val (.int p0), .val (.int (4 : Int32)), .val (.ref b1), .unset, .unset, .unset] [(.ref b1)])) rfl (by rw [hml]; rfl) (Steps.refl _) (argsL := []) (rest := []) (lenOf pd___Llatentrace_io_JsonWriter_ rfl) rfl (by show 2 * 0 + _ ≤ _; exact Nat.le_of_eq rfl) (hb hby at_96) (fun _ _ => ⟨rfl, rfl, (by decide : 3 + 0 ≤ _), (by decide : 22 + 0 ≤ _)⟩)
  dsimp only [Pt.U, Pt.locs, Pt.cells, Pt.slots] at X5 l5 y5 z5 st5 hQ5
  subst l5 y5 z5
  obtain ⟨rfl, N5q, Kc5, Ej5, Ft5, Fa5, Ec5, Fv5, Fk5, Fn5, Vb5⟩ := hQ5
  have N5 := Fr.app N4 N5q
  rw [(by decide : ((2 : Int32) + (1 : Int32)) = (3 : Int32))] at Fn5
  rw [(by first | rfl | decide : (([(.int (91 : Int32)), (.int (91 : Int32)), (.int (0 : Int32)), (.int (0 : Int32)), (.int (0 : Int32)), (.int (0 : Int32)), (.int (0 : Int32)), (.int (0 : Int32)), (.int (0 : Int32)), (.int (0 : Int32)), (.int (0 : Int32)), (.int (0 : Int32)), (.int (0 : Int32)), (.int (0 : Int32)), (.int (0 : Int32)), (.int (0 : Int32))].set ((2 : Int32)).toNatClampNeg (.int (nar .byte ((93 : Int32).toInt8.toInt32)))) : List Value) = [(.int (91 : Int32)), (.int (91 : Int32)), (.int (93 : Int32)), (.int (0 : Int32)), (.int (0 : Int32)), (.int (0 : Int32)), (.int (0 : Int32)), (.int (0 : Int32)), (.int (0 : Int32)), (.int (0 : Int32)), (.int (0 : Int32)), (.int (0 : Int32)), (.int (0 : Int32)), (.int (0 : Int32)), (.int (0 : Int32)), (.int (0 : Int32))])] at Vb5
  have S0__5 := own_sta_keep S0__4 Kc5 (nsS (Ej4.nostat) (nsS (Ec4.nostat) (nsS (Vb4.nostat) ns0)))
  have SF__5 := own_sta_keep SF__4 Kc5 (nsS (Ej4.nostat) (nsS (Ec4.nostat) (nsS (Vb4.nostat) ns0)))
  have KK5 : Keep h0 T5.heap [] := Keep.trans KK4 Kc5 (fun x q => by simp only [List.mem_cons, List.not_mem_nil, or_false] at q; rcases q with rfl | rfl | rfl <;> first | exact (Or.inr sz_b1) | exact (Or.inr sz_sb) | exact (Or.inr sz_b))
  have Zs5 : n0 ≤ T5.heap.size := Nat.le_trans Zs4 Kc5.1
  have R5 := R4.trans (CHr.keep Kc5 (sfS (Safe.exa hZ.alike Ej4 (by decide) (by decide)) (sfS (Safe.exa hZ.alike Ec4 (by decide) (by decide)) (sfS (own_safe hw hZ Vb4) sf0))) R4.1)
  have hk5 := Nat.le_trans hk4 Kc5.1
  obtain ⟨a6, T6, h6, k6, d6, kd6, X6, e6, E6, hS6, hk6, hZ, hown, Es6, Sk6, Sv6, W6, la6, lb6, Rl6, -, -, st6⟩ := ldcCH X5 hx hZ hown (hw _ (List.mem_of_getElem? (i := 242) rfl)) (own_strs hw) rfl hS0 hk5 (own_ew hw) (List.mem_of_getElem? (i := 6) rfl) R5.1 (vs := [(.int (91 : Int32)), (.int (91 : Int32)), (.int (93 : Int32)), (.int (44 : Int32)), (.int (110 : Int32)), (.int (117 : Int32)), (.int (108 : Int32)), (.int (108 : Int32)), (.int (44 : Int32)), (.int (110 : Int32)), (.int (117 : Int32)), (.int (108 : Int32)), (.int (108 : Int32))]) (z := (13 : Int32)) ⟨by decide, by rfl⟩ (by decide) (by decide) (g := (mkF m 100 #[.val (.int p0), .val (.int (4 : Int32)), .val (.ref b1), .unset, .unset, .unset] [])) rfl (hb hby at_100) (n := 52) (by decide) (by decide) (by decide) (by decide)
  have hZ_6 := hZ
  have hown_6 := hown
  have S0__6 := S0__5.ext E6
  have SF__6 := SF__5.ext E6
  have Ec5__6 := Ec5.ext E6
  have Fv5__6 := Fv5.ext E6
  have Fk5__6 := Fk5.ext E6
  have Fn5__6 := Fn5.ext E6
  have Vb5__6 := Vb5.ext E6
  have Ej5__6 := Ej5.ext E6
  have Ft5__6 := Ft5.ext E6
  have Fa5__6 := Fa5.ext E6
  have K6 : Keep h0 h6 [] := KK5.ext E6
  have Zs6 : n0 ≤ h6.size := Nat.le_trans Zs5 E6.1
  have R6 := R5.trans Rl6
  obtain ⟨cq7, kq7, q7a, q7b, q7c⟩ := isOf hZ e6 Ej5__6
  obtain ⟨_, _, ⟨T7, L7, k7, n7⟩, -, X7, hs7, hg7, ⟨Lc7, hQ7, l7, y7, z7, Rc7⟩, st7⟩ := X6.virtualBackS hx (y := (⟨"latentrace/io/JsonWriter", "nullValue", "()Llatentrace/io/JsonWriter;"⟩ : MethodName)) (z := (⟨"latentrace/io/JsonWriter", "nullValue", "()Llatentrace/io/JsonWriter;"⟩ : MethodName)) hown (mvT hZ (hw _ (List.mem_of_getElem? (i := 38) rfl))) (mvT hZ (hw _ (List.mem_of_getElem? (i := 39) rfl))) (notFace_of_selects (args := #[]) (mvT hZ (hw _ (List.mem_of_getElem? (i := 41) rfl)))) (mvT hZ (hw _ (List.mem_of_getElem? (i := 41) rfl))) (mvT hZ (hw _ (List.mem_of_getElem? (i := 40) rfl))) (by decide) (backOfSH (W := 0) (rmNull1 l Z aw hw [] b1  sb b k (3 : Int32) [(.int (91 : Int32)), (.int (91 : Int32)), (.int (93 : Int32)), (.int (0 : Int32)), (.int (0 : Int32)), (.int (0 : Int32)), (.int (0 : Int32)), (.int (0 : Int32)), (.int (0 : Int32)), (.int (0 : Int32)), (.int (0 : Int32)), (.int (0 : Int32)), (.int (0 : Int32)), (.int (0 : Int32)), (.int (0 : Int32)), (.int (0 : Int32))]  cs h6 n0 Zs6 Ej5__6 g_b1 Ft5__6 Fa5__6 Ec5__6 g_sb Fv5__6 Fk5__6 Fn5__6 Vb5__6 g_b  S0__6 (by decide) (by decide) (by decide) (by decide) (by decide) (by decide) (by decide) hcs) hZ (hw _ (List.mem_of_getElem? (i := 42) rfl)) (hw _ (List.mem_of_getElem? (i := 3) rfl)) (by decide) (by decide) (own_ew hw) R6.1) q7a q7c (g := (mkF m 104 #[.val (.int p0), .val (.int (4 : Int32)), .val (.ref b1), .val (.ref a6), .unset, .unset] [(.ref b1)])) rfl (by rw [hml]; rfl) (Steps.refl _) (argsL := []) (rest := []) (lenOf pd___Llatentrace_io_JsonWriter_ rfl) rfl (by show 2 * 0 + _ ≤ _; exact Nat.le_of_eq rfl) (hb hby at_104) (fun _ _ => ⟨rfl, e6, (by decide : 5 + 2 ≤ _), (by decide : 78 + 20 ≤ _)⟩)
  dsimp only [Pt.U, Pt.locs, Pt.cells, Pt.slots] at X7 l7 y7 z7 st7 hQ7 hs7 hg7 Rc7
  subst l7 y7 z7
  obtain ⟨X7, hS7, hZ, hown⟩ := rebS hS6 (by rw [e6]; exact hk6) X7 hs7 hg7 hZ hown
  obtain ⟨rfl, N7q, Kc7, Ej7, Ft7, Fa7, Ec7, Fv7, Fk7, Fn7, Vb7⟩ := hQ7
  have N7 := Fr.app N5 N7q
  rw [(by decide : (((3 : Int32) + (1 : Int32)) + (4 : Int32)) = (8 : Int32))] at Fn7
  rw [(by first | rfl | decide : ((([(.int (91 : Int32)), (.int (91 : Int32)), (.int (93 : Int32)), (.int (0 : Int32)), (.int (0 : Int32)), (.int (0 : Int32)), (.int (0 : Int32)), (.int (0 : Int32)), (.int (0 : Int32)), (.int (0 : Int32)), (.int (0 : Int32)), (.int (0 : Int32)), (.int (0 : Int32)), (.int (0 : Int32)), (.int (0 : Int32)), (.int (0 : Int32))].set ((3 : Int32)).toNatClampNeg (.int (nar .byte ((44 : Int32).toInt8.toInt32)))).take (((3 : Int32) + (1 : Int32))).toNatClampNeg ++ [(.int (110 : Int32)), (.int (117 : Int32)), (.int (108 : Int32)), (.int (108 : Int32))] ++ ([(.int (91 : Int32)), (.int (91 : Int32)), (.int (93 : Int32)), (.int (0 : Int32)), (.int (0 : Int32)), (.int (0 : Int32)), (.int (0 : Int32)), (.int (0 : Int32)), (.int (0 : Int32)), (.int (0 : Int32)), (.int (0 : Int32)), (.int (0 : Int32)), (.int (0 : Int32)), (.int (0 : Int32)), (.int (0 : Int32)), (.int (0 : Int32))].set ((3 : Int32)).toNatClampNeg (.int (nar .byte ((44 : Int32).toInt8.toInt32)))).drop ((((3 : Int32) + (1 : Int32))).toNatClampNeg + ((4 : Int32)).toNatClampNeg)) : List Value) = [(.int (91 : Int32)), (.int (91 : Int32)), (.int (93 : Int32)), (.int (44 : Int32)), (.int (110 : Int32)), (.int (117 : Int32)), (.int (108 : Int32)), (.int (108 : Int32)), (.int (0 : Int32)), (.int (0 : Int32)), (.int (0 : Int32)), (.int (0 : Int32)), (.int (0 : Int32)), (.int (0 : Int32)), (.int (0 : Int32)), (.int (0 : Int32))])] at Vb7
  have hZ_7 := hZ
  have hown_7 := hown
  have S0__7 := own_sta_keep S0__6 Kc7 (nsS (Ej5__6.nostat) (nsS (Ec5__6.nostat) (nsS (Vb5__6.nostat) ns0)))
  have SF__7 := own_sta_keep SF__6 Kc7 (nsS (Ej5__6.nostat) (nsS (Ec5__6.nostat) (nsS (Vb5__6.nostat) ns0)))
  have Es6__7 := Es6.keep Kc7
  have Sk6__7 := Sk6.keep Kc7 (by simp only [List.mem_cons, List.not_mem_nil, or_false, not_or]; exact ⟨(ne_exa Es6 Ej5__6 (by decide)), (ne_exa Es6 Ec5__6 (by decide)), (Es6.neArv Vb5__6 (hw _ (List.mem_of_getElem? (i := 33) rfl)))⟩)
  have Sv6__7 := Sv6.keep Kc7 (by simp only [List.mem_cons, List.not_mem_nil, or_false, not_or]; exact ⟨(ne_exa Es6 Ej5__6 (by decide)), (ne_exa Es6 Ec5__6 (by decide)), (Es6.neArv Vb5__6 (hw _ (List.mem_of_getElem? (i := 33) rfl)))⟩)
  have W6__7 := W6.keep Kc7 (by simp only [List.mem_cons, List.not_mem_nil, or_false, not_or]; exact ⟨(Ne.symm (Ej5__6.neArv W6 (hw _ (List.mem_of_getElem? (i := 2) rfl)))), (Ne.symm (Ec5__6.neArv W6 (hw _ (List.mem_of_getElem? (i := 11) rfl)))), (arv_ne W6 Vb5__6 (Or.inl (by decide)))⟩)
  have KK7 : Keep h0 T7.heap [] := Keep.trans K6 Kc7 (fun x q => by simp only [List.mem_cons, List.not_mem_nil, or_false] at q; rcases q with rfl | rfl | rfl <;> first | exact (Or.inr sz_b1) | exact (Or.inr sz_sb) | exact (Or.inr sz_b))
  have Zs7 : n0 ≤ T7.heap.size := Nat.le_trans Zs6 Kc7.1
  have R7 := R6.trans Rc7
  have hk7 : T7.heap.size ≤ T7.heap.size := Nat.le_refl _
  obtain ⟨cq8, kq8, q8a, q8b, q8c⟩ := isOf hZ rfl Ej7
  obtain ⟨_, _, ⟨T8, L8, k8, n8⟩, -, X8, hs8, hg8, ⟨Lc8, hQ8, l8, y8, z8, Rc8⟩, st8⟩ := X7.virtualBackS hx (y := (⟨"latentrace/io/JsonWriter", "nullValue", "()Llatentrace/io/JsonWriter;"⟩ : MethodName)) (z := (⟨"latentrace/io/JsonWriter", "nullValue", "()Llatentrace/io/JsonWriter;"⟩ : MethodName)) hown (mvT hZ (hw _ (List.mem_of_getElem? (i := 38) rfl))) (mvT hZ (hw _ (List.mem_of_getElem? (i := 39) rfl))) (notFace_of_selects (args := #[]) (mvT hZ (hw _ (List.mem_of_getElem? (i := 41) rfl)))) (mvT hZ (hw _ (List.mem_of_getElem? (i := 41) rfl))) (mvT hZ (hw _ (List.mem_of_getElem? (i := 40) rfl))) (by decide) (backOfSH (W := 0) (rmNull1 l Z aw hw [] b1  sb b k (8 : Int32) [(.int (91 : Int32)), (.int (91 : Int32)), (.int (93 : Int32)), (.int (44 : Int32)), (.int (110 : Int32)), (.int (117 : Int32)), (.int (108 : Int32)), (.int (108 : Int32)), (.int (0 : Int32)), (.int (0 : Int32)), (.int (0 : Int32)), (.int (0 : Int32)), (.int (0 : Int32)), (.int (0 : Int32)), (.int (0 : Int32)), (.int (0 : Int32))]  cs T7.heap n0 Zs7 Ej7 g_b1 Ft7 Fa7 Ec7 g_sb Fv7 Fk7 Fn7 Vb7 g_b  S0__7 (by decide) (by decide) (by decide) (by decide) (by decide) (by decide) (by decide) hcs) hZ (hw _ (List.mem_of_getElem? (i := 42) rfl)) (hw _ (List.mem_of_getElem? (i := 3) rfl)) (by decide) (by decide) (own_ew hw) R7.1) q8a q8c (g := (mkF m 110 #[.val (.int p0), .val (.int (4 : Int32)), .val (.ref b1), .val (.ref a6), .val (.ref b1), .unset] [(.ref b1)])) rfl (by rw [hml]; rfl) (Steps.refl _) (argsL := []) (rest := []) (lenOf pd___Llatentrace_io_JsonWriter_ rfl) rfl (by show 2 * 0 + _ ≤ _; exact Nat.le_of_eq rfl) (hb hby at_110) (fun _ _ => ⟨rfl, rfl, (by decide : 7 + 2 ≤ _), (by decide : 98 + 20 ≤ _)⟩)
  dsimp only [Pt.U, Pt.locs, Pt.cells, Pt.slots] at X8 l8 y8 z8 st8 hQ8 hs8 hg8 Rc8
  subst l8 y8 z8
  obtain ⟨X8, hS8, hZ, hown⟩ := rebS hS7 hk7 X8 hs8 hg8 hZ hown
  obtain ⟨rfl, N8q, Kc8, Ej8, Ft8, Fa8, Ec8, Fv8, Fk8, Fn8, Vb8⟩ := hQ8
  have N8 := Fr.app N7 N8q
  rw [(by decide : (((8 : Int32) + (1 : Int32)) + (4 : Int32)) = (13 : Int32))] at Fn8
  rw [(by first | rfl | decide : ((([(.int (91 : Int32)), (.int (91 : Int32)), (.int (93 : Int32)), (.int (44 : Int32)), (.int (110 : Int32)), (.int (117 : Int32)), (.int (108 : Int32)), (.int (108 : Int32)), (.int (0 : Int32)), (.int (0 : Int32)), (.int (0 : Int32)), (.int (0 : Int32)), (.int (0 : Int32)), (.int (0 : Int32)), (.int (0 : Int32)), (.int (0 : Int32))].set ((8 : Int32)).toNatClampNeg (.int (nar .byte ((44 : Int32).toInt8.toInt32)))).take (((8 : Int32) + (1 : Int32))).toNatClampNeg ++ [(.int (110 : Int32)), (.int (117 : Int32)), (.int (108 : Int32)), (.int (108 : Int32))] ++ ([(.int (91 : Int32)), (.int (91 : Int32)), (.int (93 : Int32)), (.int (44 : Int32)), (.int (110 : Int32)), (.int (117 : Int32)), (.int (108 : Int32)), (.int (108 : Int32)), (.int (0 : Int32)), (.int (0 : Int32)), (.int (0 : Int32)), (.int (0 : Int32)), (.int (0 : Int32)), (.int (0 : Int32)), (.int (0 : Int32)), (.int (0 : Int32))].set ((8 : Int32)).toNatClampNeg (.int (nar .byte ((44 : Int32).toInt8.toInt32)))).drop ((((8 : Int32) + (1 : Int32))).toNatClampNeg + ((4 : Int32)).toNatClampNeg)) : List Value) = [(.int (91 : Int32)), (.int (91 : Int32)), (.int (93 : Int32)), (.int (44 : Int32)), (.int (110 : Int32)), (.int (117 : Int32)), (.int (108 : Int32)), (.int (108 : Int32)), (.int (44 : Int32)), (.int (110 : Int32)), (.int (117 : Int32)), (.int (108 : Int32)), (.int (108 : Int32)), (.int (0 : Int32)), (.int (0 : Int32)), (.int (0 : Int32))])] at Vb8
  have hZ_8 := hZ
  have hown_8 := hown
  have S0__8 := own_sta_keep S0__7 Kc8 (nsS (Ej7.nostat) (nsS (Ec7.nostat) (nsS (Vb7.nostat) ns0)))
  have SF__8 := own_sta_keep SF__7 Kc8 (nsS (Ej7.nostat) (nsS (Ec7.nostat) (nsS (Vb7.nostat) ns0)))
  have Es6__8 := Es6__7.keep Kc8
  have Sk6__8 := Sk6__7.keep Kc8 (by simp only [List.mem_cons, List.not_mem_nil, or_false, not_or]; exact ⟨(ne_exa Es6__7 Ej7 (by decide)), (ne_exa Es6__7 Ec7 (by decide)), (Es6__7.neArv Vb7 (hw _ (List.mem_of_getElem? (i := 33) rfl)))⟩)
  have Sv6__8 := Sv6__7.keep Kc8 (by simp only [List.mem_cons, List.not_mem_nil, or_false, not_or]; exact ⟨(ne_exa Es6__7 Ej7 (by decide)), (ne_exa Es6__7 Ec7 (by decide)), (Es6__7.neArv Vb7 (hw _ (List.mem_of_getElem? (i := 33) rfl)))⟩)
  have W6__8 := W6__7.keep Kc8 (by simp only [List.mem_cons, List.not_mem_nil, or_false, not_or]; exact ⟨(Ne.symm (Ej7.neArv W6__7 (hw _ (List.mem_of_getElem? (i := 2) rfl)))), (Ne.symm (Ec7.neArv W6__7 (hw _ (List.mem_of_getElem? (i := 11) rfl)))), (arv_ne W6__7 Vb7 (Or.inl (by decide)))⟩)
  have KK8 : Keep h0 T8.heap [] := Keep.trans KK7 Kc8 (fun x q => by simp only [List.mem_cons, List.not_mem_nil, or_false] at q; rcases q with rfl | rfl | rfl <;> first | exact (Or.inr sz_b1) | exact (Or.inr sz_sb) | exact (Or.inr sz_b))
  have Zs8 : n0 ≤ T8.heap.size := Nat.le_trans Zs7 Kc8.1
  have R8 := R7.trans Rc8
  have hk8 : T8.heap.size ≤ T8.heap.size := Nat.le_refl _
  obtain ⟨cq9, kq9, q9a, q9b, q9c⟩ := isOf hZ rfl Ej8
  obtain ⟨_, _, ⟨T9, L9, k9, n9⟩, -, X9, ⟨Lc9, hQ9, l9, y9, z9⟩, st9⟩ := X8.virtualBack hx (y := (⟨"latentrace/io/JsonWriter", "toString", "()Ljava/lang/String;"⟩ : MethodName)) (z := (⟨"latentrace/io/JsonWriter", "toString", "()Ljava/lang/String;"⟩ : MethodName)) hown (mvT hZ (hw _ (List.mem_of_getElem? (i := 118) rfl))) (mvT hZ (hw _ (List.mem_of_getElem? (i := 119) rfl))) (notFace_of_selects (args := #[]) (mvT hZ (hw _ (List.mem_of_getElem? (i := 121) rfl)))) (mvT hZ (hw _ (List.mem_of_getElem? (i := 121) rfl))) (mvT hZ (hw _ (List.mem_of_getElem? (i := 120) rfl))) (by decide) (backOf (W := 1) (rmJTS l Z aw hw [] b1 sb b k (13 : Int32) [(.int (91 : Int32)), (.int (91 : Int32)), (.int (93 : Int32)), (.int (44 : Int32)), (.int (110 : Int32)), (.int (117 : Int32)), (.int (108 : Int32)), (.int (108 : Int32)), (.int (44 : Int32)), (.int (110 : Int32)), (.int (117 : Int32)), (.int (108 : Int32)), (.int (108 : Int32)), (.int (0 : Int32)), (.int (0 : Int32)), (.int (0 : Int32))] cs T8.heap n0 Zs8 Ej8 g_b1 Ft8 Fa8 Ec8 g_sb Fv8 Fk8 Fn8 Vb8 g_b S0__8 (by decide) (by decide) (by decide) (by decide) hcs) hZ (hw _ (List.mem_of_getElem? (i := 122) rfl)) (hw _ (List.mem_of_getElem? (i := 3) rfl)) (by decide) (by decide)) q9a q9c (g := (mkF m 129 #[.val (.int p0), .val (.int (4 : Int32)), .val (.ref b1), .val (.ref a6), .val (.ref b1), .val (.ref b1)] [(.ref b1), (.ref a6)])) rfl (by rw [hml]; rfl) (Steps.refl _) (argsL := []) (rest := [(.ref a6)]) (lenOf pd___Ljava_lang_String_ rfl) rfl (by show 2 * 0 + _ ≤ _; exact Nat.le_of_eq rfl) (hb hby at_129) (fun _ _ => ⟨rfl, rfl, (by decide : 9 + 2 ≤ _), (by decide : 118 + 20 ≤ _)⟩)
  dsimp only [Pt.U, Pt.locs, Pt.cells, Pt.slots] at X9 l9 y9 z9 st9 hQ9
  subst l9 y9 z9
  obtain ⟨st, d, kd, rfl, N9q, szt, Kc9, Es9, Sk9, Sv9, Vd9⟩ := hQ9
  have N9 := Fr.app N8 N9q
  have hlt_st := Nat.lt_of_lt_of_le Es6__8.lt szt
  rw [(by first | rfl | decide : (own_cut (13 : Int32) [(.int (91 : Int32)), (.int (91 : Int32)), (.int (93 : Int32)), (.int (44 : Int32)), (.int (110 : Int32)), (.int (117 : Int32)), (.int (108 : Int32)), (.int (108 : Int32)), (.int (44 : Int32)), (.int (110 : Int32)), (.int (117 : Int32)), (.int (108 : Int32)), (.int (108 : Int32)), (.int (0 : Int32)), (.int (0 : Int32)), (.int (0 : Int32))]) = [(.int (91 : Int32)), (.int (91 : Int32)), (.int (93 : Int32)), (.int (44 : Int32)), (.int (110 : Int32)), (.int (117 : Int32)), (.int (108 : Int32)), (.int (108 : Int32)), (.int (44 : Int32)), (.int (110 : Int32)), (.int (117 : Int32)), (.int (108 : Int32)), (.int (108 : Int32))])] at Vd9
  have S0__9 := own_sta_keep S0__8 Kc9 ns0
  have SF__9 := own_sta_keep SF__8 Kc9 ns0
  have Es6__9 := Es6__8.keep Kc9
  have Sk6__9 := Sk6__8.keep Kc9 (fun q => nomatch q)
  have Sv6__9 := Sv6__8.keep Kc9 (fun q => nomatch q)
  have W6__9 := W6__8.keep Kc9 (fun q => nomatch q)
  have Ec8__9 := Ec8.keep Kc9
  have Fv8__9 := Fv8.keep Kc9 (fun q => nomatch q)
  have Fk8__9 := Fk8.keep Kc9 (fun q => nomatch q)
  have Fn8__9 := Fn8.keep Kc9 (fun q => nomatch q)
  have Vb8__9 := Vb8.keep Kc9 (fun q => nomatch q)
  have Ej8__9 := Ej8.keep Kc9
  have Ft8__9 := Ft8.keep Kc9 (fun q => nomatch q)
  have Fa8__9 := Fa8.keep Kc9 (fun q => nomatch q)
  have KK9 : Keep h0 T9.heap [] := Keep.trans KK8 Kc9 (fun _ q => nomatch q)
  have Zs9 : n0 ≤ T9.heap.size := Nat.le_trans Zs8 Kc9.1
  have R9 := R8.trans (CHr.keep Kc9 sf0 R8.1)
  have hk9 := Nat.le_trans hk8 Kc9.1
  obtain ⟨cq10, kq10, q10a, q10b, q10c⟩ := isOf hZ rfl Es6__9
  obtain ⟨_, _, ⟨T10, L10, k10, n10⟩, -, X10, ⟨Lc10, hQ10, l10, y10, z10⟩, st10⟩ := X9.virtualBack hx (y := (⟨"java/lang/String", "equals", "(Ljava/lang/Object;)Z"⟩ : MethodName)) (z := (⟨"java/lang/String", "equals", "(Ljava/lang/Object;)Z"⟩ : MethodName)) hown (mvT hZ (hw _ (List.mem_of_getElem? (i := 166) rfl))) (mvT hZ (hw _ (List.mem_of_getElem? (i := 167) rfl))) (notFace_of_selects (args := #[]) (mvT hZ (hw _ (List.mem_of_getElem? (i := 169) rfl)))) (mvT hZ (hw _ (List.mem_of_getElem? (i := 169) rfl))) (mvT hZ (hw _ (List.mem_of_getElem? (i := 168) rfl))) (by decide) (backOf (W := 0) (rmE l Z aw hw [] a6 st d6 d kd6 kd (13 : Int32) [(.int (91 : Int32)), (.int (91 : Int32)), (.int (93 : Int32)), (.int (44 : Int32)), (.int (110 : Int32)), (.int (117 : Int32)), (.int (108 : Int32)), (.int (108 : Int32)), (.int (44 : Int32)), (.int (110 : Int32)), (.int (117 : Int32)), (.int (108 : Int32)), (.int (108 : Int32))] cs T9.heap n0 Zs9 Es9 Sk6__9 Sk9 Sv6__9 Sv9 W6__9 Vd9 S0__9 (by decide) (own_hall4) (own_nref hlt_st) hcs) hZ (hw _ (List.mem_of_getElem? (i := 170) rfl)) (hw _ (List.mem_of_getElem? (i := 24) rfl)) (by decide) (by decide)) q10a q10c (g := (mkF m 132 #[.val (.int p0), .val (.int (4 : Int32)), .val (.ref b1), .val (.ref a6), .val (.ref b1), .val (.ref b1)] [(.ref st), (.ref a6)])) rfl (by rw [hml]; rfl) (Steps.refl _) (argsL := [(.ref st)]) (rest := []) (lenOf pd__Ljava_lang_Object__Z rfl) rfl (by show 2 * 0 + _ ≤ _; exact Nat.le_of_eq rfl) (hb hby at_132) (fun _ _ => ⟨rfl, rfl, (by decide : 11 + 0 ≤ _), (by decide : 138 + 0 ≤ _)⟩)
  dsimp only [Pt.U, Pt.locs, Pt.cells, Pt.slots] at X10 l10 y10 z10 st10 hQ10
  subst l10 y10 z10
  obtain ⟨rfl, N10q, q10⟩ := hQ10
  have N10 := Fr.app N9 N10q
  obtain ⟨fs, hr, hrun, hended, hRW⟩ := X10.leaveW hS8 (by rw [q10]; exact hk9) (v := some (.int (1 : Int32))) (fun h => by rw [Bd.returns] at h; cases h)
  have hRR : CHr Z consts_1 s.vm s.heap (T10.setFrames fs).vm (T10.setFrames fs).heap := by
    rw [hh]
    show CHr Z consts_1 s.vm h0 T10.vm T10.heap
    rw [q10]
    exact R9.trans (CHv.at X10 hZ (own_ew hw) R9.1)
  refine ⟨_, _, pre0 _ ?_, hrun, hended, _, _, rfl, ?_, hRR, hRW.1, hRW.2.1, hRW.2.2.1, hRW.2.2.2.mono (by decide) (by decide)⟩
  · show Steps p.tables e below (s₁.setTop (mkF m 0 #[.val (.int p0), .unset, .unset, .unset, .unset, .unset] [])) _
    refine XS.iloadN X0.here hx rfl (hb hby at_0) rfl ?_
    show Steps p.tables e below (s₁.setTop (mkF m 1 #[.val (.int p0), .unset, .unset, .unset, .unset, .unset] [(.int p0)])) _
    refine X0.ldcInt hx hown_0 (mvT hZ_0 (hw _ (List.mem_of_getElem? (i := 0) rfl))) (g := (mkF m 1 #[.val (.int p0), .unset, .unset, .unset, .unset, .unset] [(.int p0)])) rfl (hb hby at_1) _ ?_
    show Steps p.tables e below (s₁.setTop (mkF m 3 #[.val (.int p0), .unset, .unset, .unset, .unset, .unset] [(.int (2147483647 : Int32)), (.int p0)])) _
    refine XS.iand X0.here hx rfl (hb hby at_3) rfl ?_
    show Steps p.tables e below (s₁.setTop (mkF m 4 #[.val (.int p0), .unset, .unset, .unset, .unset, .unset] [(.int (p0 &&& (2147483647 : Int32)))])) _
    refine XS.iconst X0.here hx rfl (hb hby at_4) ?_
    show Steps p.tables e below (s₁.setTop (mkF m 5 #[.val (.int p0), .unset, .unset, .unset, .unset, .unset] [(.int (5 : Int32)), (.int (p0 &&& (2147483647 : Int32)))])) _
    refine XS.irem X0.here hx rfl (hb hby at_5) rfl (by decide) ?_
    show Steps p.tables e below (s₁.setTop (mkF m 6 #[.val (.int p0), .unset, .unset, .unset, .unset, .unset] [(.int ((p0 &&& (2147483647 : Int32)) - (p0 &&& (2147483647 : Int32)) / (5 : Int32) * (5 : Int32)))])) _
    rw [hm]
    show Steps p.tables e below (s₁.setTop (mkF m 6 #[.val (.int p0), .unset, .unset, .unset, .unset, .unset] [(.int (4 : Int32))])) _
    refine XS.istoreN X0.here hx rfl (hb hby at_6) rfl (l' := #[.val (.int p0), .val (.int (4 : Int32)), .unset, .unset, .unset, .unset]) rfl ?_
    show Steps p.tables e below (s₁.setTop (mkF m 7 #[.val (.int p0), .val (.int (4 : Int32)), .unset, .unset, .unset, .unset] [])) _
    refine st1 _ ?_
    show Steps p.tables e below (T1.setTop (mkF m 10 #[.val (.int p0), .val (.int (4 : Int32)), .unset, .unset, .unset, .unset] [(.ref b1)])) _
    refine XS.dup X1.here hx rfl (hb hby at_10) rfl rfl ?_
    show Steps p.tables e below (T1.setTop (mkF m 11 #[.val (.int p0), .val (.int (4 : Int32)), .unset, .unset, .unset, .unset] [(.ref b1), (.ref b1)])) _
    refine st2.trans ?_
    show Steps p.tables e below (T2.setTop (mkF m 14 #[.val (.int p0), .val (.int (4 : Int32)), .unset, .unset, .unset, .unset] [(.ref b1)])) _
    refine XS.astoreN X2.here hx rfl (hb hby at_14) rfl rfl (l' := #[.val (.int p0), .val (.int (4 : Int32)), .val (.ref b1), .unset, .unset, .unset]) rfl ?_
    show Steps p.tables e below (T2.setTop (mkF m 15 #[.val (.int p0), .val (.int (4 : Int32)), .val (.ref b1), .unset, .unset, .unset] [])) _
    refine XS.iloadN X2.here hx rfl (hb hby at_15) rfl ?_
    show Steps p.tables e below (T2.setTop (mkF m 16 #[.val (.int p0), .val (.int (4 : Int32)), .val (.ref b1), .unset, .unset, .unset] [(.int (4 : Int32))])) _
    refine XS.ifYes X2.here hx rfl (pc0 := 16) (pc' := 25) rfl (hb hby at_16) rfl ((if0 _ _).trans (feq (by decide : ¬ ((4 : Int32) = (0 : Int32)))).2) (by decide) (by decide) ?_
    show Steps p.tables e below (T2.setTop (mkF m 25 #[.val (.int p0), .val (.int (4 : Int32)), .val (.ref b1), .unset, .unset, .unset] [])) _
    refine XS.iloadN X2.here hx rfl (hb hby at_25) rfl ?_
    show Steps p.tables e below (T2.setTop (mkF m 26 #[.val (.int p0), .val (.int (4 : Int32)), .val (.ref b1), .unset, .unset, .unset] [(.int (4 : Int32))])) _
    refine XS.iconst X2.here hx rfl (hb hby at_26) ?_
    show Steps p.tables e below (T2.setTop (mkF m 27 #[.val (.int p0), .val (.int (4 : Int32)), .val (.ref b1), .unset, .unset, .unset] [(.int (1 : Int32)), (.int (4 : Int32))])) _
    refine XS.icmpYes X2.here hx rfl (pc0 := 27) (pc' := 41) rfl (hb hby at_27) rfl (feq (by decide : ¬ ((4 : Int32) = (1 : Int32)))).2 (by decide) (by decide) ?_
    show Steps p.tables e below (T2.setTop (mkF m 41 #[.val (.int p0), .val (.int (4 : Int32)), .val (.ref b1), .unset, .unset, .unset] [])) _
    refine XS.iloadN X2.here hx rfl (hb hby at_41) rfl ?_
    show Steps p.tables e below (T2.setTop (mkF m 42 #[.val (.int p0), .val (.int (4 : Int32)), .val (.ref b1), .unset, .unset, .unset] [(.int (4 : Int32))])) _
    refine XS.iconst X2.here hx rfl (hb hby at_42) ?_
    show Steps p.tables e below (T2.setTop (mkF m 43 #[.val (.int p0), .val (.int (4 : Int32)), .val (.ref b1), .unset, .unset, .unset] [(.int (2 : Int32)), (.int (4 : Int32))])) _
    refine XS.icmpYes X2.here hx rfl (pc0 := 43) (pc' := 62) rfl (hb hby at_43) rfl (feq (by decide : ¬ ((4 : Int32) = (2 : Int32)))).2 (by decide) (by decide) ?_
    show Steps p.tables e below (T2.setTop (mkF m 62 #[.val (.int p0), .val (.int (4 : Int32)), .val (.ref b1), .unset, .unset, .unset] [])) _
    refine XS.iloadN X2.here hx rfl (hb hby at_62) rfl ?_
    show Steps p.tables e below (T2.setTop (mkF m 63 #[.val (.int p0), .val (.int (4 : Int32)), .val (.ref b1), .unset, .unset, .unset] [(.int (4 : Int32))])) _
    refine XS.iconst X2.here hx rfl (hb hby at_63) ?_
    show Steps p.tables e below (T2.setTop (mkF m 64 #[.val (.int p0), .val (.int (4 : Int32)), .val (.ref b1), .unset, .unset, .unset] [(.int (3 : Int32)), (.int (4 : Int32))])) _
    refine XS.icmpYes X2.here hx rfl (pc0 := 64) (pc' := 85) rfl (hb hby at_64) rfl (feq (by decide : ¬ ((4 : Int32) = (3 : Int32)))).2 (by decide) (by decide) ?_
    show Steps p.tables e below (T2.setTop (mkF m 85 #[.val (.int p0), .val (.int (4 : Int32)), .val (.ref b1), .unset, .unset, .unset] [])) _
    refine XS.aloadN X2.here hx rfl (hb hby at_85) rfl rfl ?_
    show Steps p.tables e below (T2.setTop (mkF m 86 #[.val (.int p0), .val (.int (4 : Int32)), .val (.ref b1), .unset, .unset, .unset] [(.ref b1)])) _
    refine st3.trans ?_
    show Steps p.tables e below (T3.setTop (mkF m 89 #[.val (.int p0), .val (.int (4 : Int32)), .val (.ref b1), .unset, .unset, .unset] [(.ref b1)])) _
    refine XS.pop X3.here hx rfl (hb hby at_89) rfl rfl ?_
    show Steps p.tables e below (T3.setTop (mkF m 90 #[.val (.int p0), .val (.int (4 : Int32)), .val (.ref b1), .unset, .unset, .unset] [])) _
    refine XS.aloadN X3.here hx rfl (hb hby at_90) rfl rfl ?_
    show Steps p.tables e below (T3.setTop (mkF m 91 #[.val (.int p0), .val (.int (4 : Int32)), .val (.ref b1), .unset, .unset, .unset] [(.ref b1)])) _
    refine st4.trans ?_
    show Steps p.tables e below (T4.setTop (mkF m 94 #[.val (.int p0), .val (.int (4 : Int32)), .val (.ref b1), .unset, .unset, .unset] [(.ref b1)])) _
    refine XS.pop X4.here hx rfl (hb hby at_94) rfl rfl ?_
    show Steps p.tables e below (T4.setTop (mkF m 95 #[.val (.int p0), .val (.int (4 : Int32)), .val (.ref b1), .unset, .unset, .unset] [])) _
    refine XS.aloadN X4.here hx rfl (hb hby at_95) rfl rfl ?_
    show Steps p.tables e below (T4.setTop (mkF m 96 #[.val (.int p0), .val (.int (4 : Int32)), .val (.ref b1), .unset, .unset, .unset] [(.ref b1)])) _
    refine st5.trans ?_
    show Steps p.tables e below (T5.setTop (mkF m 99 #[.val (.int p0), .val (.int (4 : Int32)), .val (.ref b1), .unset, .unset, .unset] [(.ref b1)])) _
    refine XS.pop X5.here hx rfl (hb hby at_99) rfl rfl ?_
    show Steps p.tables e below (T5.setTop (mkF m 100 #[.val (.int p0), .val (.int (4 : Int32)), .val (.ref b1), .unset, .unset, .unset] [])) _
    refine st6 _ ?_
    show Steps p.tables e below (T6.setTop (mkF m 102 #[.val (.int p0), .val (.int (4 : Int32)), .val (.ref b1), .unset, .unset, .unset] [(.ref a6)])) _
    refine XS.astoreN X6.here hx rfl (hb hby at_102) rfl rfl (l' := #[.val (.int p0), .val (.int (4 : Int32)), .val (.ref b1), .val (.ref a6), .unset, .unset]) rfl ?_
    show Steps p.tables e below (T6.setTop (mkF m 103 #[.val (.int p0), .val (.int (4 : Int32)), .val (.ref b1), .val (.ref a6), .unset, .unset] [])) _
    refine XS.aloadN X6.here hx rfl (hb hby at_103) rfl rfl ?_
    show Steps p.tables e below (T6.setTop (mkF m 104 #[.val (.int p0), .val (.int (4 : Int32)), .val (.ref b1), .val (.ref a6), .unset, .unset] [(.ref b1)])) _
    refine st7.trans ?_
    show Steps p.tables e below (T7.setTop (mkF m 107 #[.val (.int p0), .val (.int (4 : Int32)), .val (.ref b1), .val (.ref a6), .unset, .unset] [(.ref b1)])) _
    refine XS.astore X7.here hx rfl (hb hby at_107) rfl rfl (l' := #[.val (.int p0), .val (.int (4 : Int32)), .val (.ref b1), .val (.ref a6), .val (.ref b1), .unset]) rfl ?_
    show Steps p.tables e below (T7.setTop (mkF m 109 #[.val (.int p0), .val (.int (4 : Int32)), .val (.ref b1), .val (.ref a6), .val (.ref b1), .unset] [])) _
    refine XS.aloadN X7.here hx rfl (hb hby at_109) rfl rfl ?_
    show Steps p.tables e below (T7.setTop (mkF m 110 #[.val (.int p0), .val (.int (4 : Int32)), .val (.ref b1), .val (.ref a6), .val (.ref b1), .unset] [(.ref b1)])) _
    refine st8.trans ?_
    show Steps p.tables e below (T8.setTop (mkF m 113 #[.val (.int p0), .val (.int (4 : Int32)), .val (.ref b1), .val (.ref a6), .val (.ref b1), .unset] [(.ref b1)])) _
    refine XS.astore X8.here hx rfl (hb hby at_113) rfl rfl (l' := #[.val (.int p0), .val (.int (4 : Int32)), .val (.ref b1), .val (.ref a6), .val (.ref b1), .val (.ref b1)]) rfl ?_
    show Steps p.tables e below (T8.setTop (mkF m 115 #[.val (.int p0), .val (.int (4 : Int32)), .val (.ref b1), .val (.ref a6), .val (.ref b1), .val (.ref b1)] [])) _
    refine XS.aload X8.here hx rfl (hb hby at_115) rfl rfl ?_
    show Steps p.tables e below (T8.setTop (mkF m 117 #[.val (.int p0), .val (.int (4 : Int32)), .val (.ref b1), .val (.ref a6), .val (.ref b1), .val (.ref b1)] [(.ref b1)])) _
    refine XS.aloadN X8.here hx rfl (hb hby at_117) rfl rfl ?_
    show Steps p.tables e below (T8.setTop (mkF m 118 #[.val (.int p0), .val (.int (4 : Int32)), .val (.ref b1), .val (.ref a6), .val (.ref b1), .val (.ref b1)] [(.ref b1), (.ref b1)])) _
    refine Jvm.RoadKit.acmp (g := (mkF m 118 #[.val (.int p0), .val (.int (4 : Int32)), .val (.ref b1), .val (.ref a6), .val (.ref b1), .val (.ref b1)] [(.ref b1), (.ref b1)])) X8 hx rfl rfl rfl (pc0 := 118) (pc' := 121) (same := true) rfl (hb hby at_118) rfl (decide_eq_true rfl) (by decide) (by decide) ?_
    show Steps p.tables e below (T8.setTop (mkF m 121 #[.val (.int p0), .val (.int (4 : Int32)), .val (.ref b1), .val (.ref a6), .val (.ref b1), .val (.ref b1)] [])) _
    refine XS.aload X8.here hx rfl (hb hby at_121) rfl rfl ?_
    show Steps p.tables e below (T8.setTop (mkF m 123 #[.val (.int p0), .val (.int (4 : Int32)), .val (.ref b1), .val (.ref a6), .val (.ref b1), .val (.ref b1)] [(.ref b1)])) _
    refine XS.aloadN X8.here hx rfl (hb hby at_123) rfl rfl ?_
    show Steps p.tables e below (T8.setTop (mkF m 124 #[.val (.int p0), .val (.int (4 : Int32)), .val (.ref b1), .val (.ref a6), .val (.ref b1), .val (.ref b1)] [(.ref b1), (.ref b1)])) _
    refine Jvm.RoadKit.acmp (g := (mkF m 124 #[.val (.int p0), .val (.int (4 : Int32)), .val (.ref b1), .val (.ref a6), .val (.ref b1), .val (.ref b1)] [(.ref b1), (.ref b1)])) X8 hx rfl rfl rfl (pc0 := 124) (pc' := 127) (same := true) rfl (hb hby at_124) rfl (decide_eq_true rfl) (by decide) (by decide) ?_
    show Steps p.tables e below (T8.setTop (mkF m 127 #[.val (.int p0), .val (.int (4 : Int32)), .val (.ref b1), .val (.ref a6), .val (.ref b1), .val (.ref b1)] [])) _
    refine XS.aloadN X8.here hx rfl (hb hby at_127) rfl rfl ?_
    show Steps p.tables e below (T8.setTop (mkF m 128 #[.val (.int p0), .val (.int (4 : Int32)), .val (.ref b1), .val (.ref a6), .val (.ref b1), .val (.ref b1)] [(.ref a6)])) _
    refine XS.aloadN X8.here hx rfl (hb hby at_128) rfl rfl ?_
    show Steps p.tables e below (T8.setTop (mkF m 129 #[.val (.int p0), .val (.int (4 : Int32)), .val (.ref b1), .val (.ref a6), .val (.ref b1), .val (.ref b1)] [(.ref b1), (.ref a6)])) _
    refine st9.trans ?_
    show Steps p.tables e below (T9.setTop (mkF m 132 #[.val (.int p0), .val (.int (4 : Int32)), .val (.ref b1), .val (.ref a6), .val (.ref b1), .val (.ref b1)] [(.ref st), (.ref a6)])) _
    refine st10.trans ?_
    show Steps p.tables e below (T10.setTop (mkF m 135 #[.val (.int p0), .val (.int (4 : Int32)), .val (.ref b1), .val (.ref a6), .val (.ref b1), .val (.ref b1)] [(.int (1 : Int32))])) _
    refine XS.ifNo X10.here hx rfl (hb hby at_135) rfl ((if0 _ _).trans (feq (by decide : ¬ ((1 : Int32) = (0 : Int32)))).1) ?_
    show Steps p.tables e below (T10.setTop (mkF m 138 #[.val (.int p0), .val (.int (4 : Int32)), .val (.ref b1), .val (.ref a6), .val (.ref b1), .val (.ref b1)] [])) _
    refine XS.iconst X10.here hx rfl (hb hby at_138) ?_
    show Steps p.tables e below (T10.setTop (mkF m 139 #[.val (.int p0), .val (.int (4 : Int32)), .val (.ref b1), .val (.ref a6), .val (.ref b1), .val (.ref b1)] [(.int (1 : Int32))])) _
    refine XS.goto X10.here hx rfl (pc0 := 139) (pc' := 143) rfl (hb hby at_139) (by decide) (by decide) ?_
    show Steps p.tables e below (T10.setTop (mkF m 143 #[.val (.int p0), .val (.int (4 : Int32)), .val (.ref b1), .val (.ref a6), .val (.ref b1), .val (.ref b1)] [(.int (1 : Int32))])) _
    exact retN X10 hx (t := .boolean) Bd.returns (by simp) (hb hby at_143) hr
  · show Q0_4 Z p0 fm cs h0 n0 _ T10.heap _
    rw [q10]
    exact ⟨rfl, N10⟩
def Q0 (Z : State) (p0 : Int32) (h0 : Heap) (n0 : Nat) (v : Option Value) (h : Heap) (L : List Loc) : Prop := v = some (.int (1 : Int32)) ∧ Fr n0 L
theorem rm0 (l : Launch) (Z : State) (a0 : Array Value) (hw : ∀ d ∈ tables_1, d.before a0 Z = true) (ws : List Jvm.Cond) (p0 : Int32) (fm : Value) (cs : Int32) (h0 : Heap) (n0 : Nat) (Z0 : n0 ≤ h0.size) (S1 : Sta Z h0 "jdk/internal/util/Preconditions" "SIOOBE_FORMATTER" "Ljava/util/function/BiFunction;" fm) (S0 : Sta Z h0 "java/lang/String" "COMPACT_STRINGS" "Z" (.int cs)) (hfm : fm.isRef = true) (hcs : ¬ (cs = (0 : Int32))) :
    MetFree l x (head1 (Jvm.Cond.code x code maxLocals ret :: ws) room_1) (fun a U => a = #[(.int p0)] ∧ Z.Warmed39 U.vm ∧ U.heap = h0 ∧ CHv Z consts_1 U.vm h0) (fun _ _ _ _ _ => True) (fun _ U o U' => ∃ v L, o = .returned v ∧ Q0 Z p0 h0 n0 v U'.heap L ∧ CHr Z consts_1 U.vm U.heap U'.vm U'.heap ∧ ReturnedEndW U o U' L room_1.cells room_1.slots) := by
  rcases own_rem5 p0 with h | h | h | h | h
  · exact rm0_0 l Z a0 hw ws p0 fm cs h0 n0 Z0 S1 S0 hfm hcs h
  · exact rm0_1 l Z a0 hw ws p0 fm cs h0 n0 Z0 S1 S0 hfm hcs h
  · exact rm0_2 l Z a0 hw ws p0 fm cs h0 n0 Z0 S1 S0 hfm hcs h
  · exact rm0_3 l Z a0 hw ws p0 fm cs h0 n0 Z0 S1 S0 hfm hcs h
  · exact rm0_4 l Z a0 hw ws p0 fm cs h0 n0 Z0 S1 S0 hfm hcs h
theorem own_start {Z : State} {a0 : Array Value} (hs : ∀ d ∈ jdkStatics_1, d.before a0 Z = true) : (∃ cs : Int32, Sta Z Z.heap "java/lang/String" "COMPACT_STRINGS" "Z" (.int cs) ∧ ¬ (cs = (0 : Int32))) ∧ ∃ fm : Value, Sta Z Z.heap "jdk/internal/util/Preconditions" "SIOOBE_FORMATTER" "Ljava/util/function/BiFunction;" fm ∧ fm.isRef = true := by
  have w0 := hs _ (List.mem_of_getElem? (i := 0) rfl)
  have w1 := Cond.before_iff.mp (hs _ (List.mem_of_getElem? (i := 1) rfl))
  have w2 := Cond.before_iff.mp (hs _ (List.mem_of_getElem? (i := 2) rfl))
  have w7 := hs _ (List.mem_of_getElem? (i := 7) rfl)
  have w8 := Cond.before_iff.mp (hs _ (List.mem_of_getElem? (i := 8) rfl))
  obtain ⟨cs, ec⟩ := is_v w1
  obtain ⟨fm, ef, hf⟩ := isR_v w8
  have q := not_v w2
  refine ⟨⟨cs, Sta.start ec (Or.inl w0), fun hc => ?_⟩, fm, Sta.start ef (Or.inl w7), hf⟩
  have q2 := eq_i ec (Term.int_eval (0)) (congrArg Value.int hc)
  rw [q2] at q
  cases q
set_option maxRecDepth 65536 in
set_option maxHeartbeats 40000000 in
theorem comes_1 {Post : Tables → Env → Array Value → State → Outcome → State → Prop} (hpost : ∀ tb e args s v u, (limb_1_1.after args s (.returned v) u = true ∧ limb_1_2.after args s (.returned v) u = true ∧ True) → FramedW s (.returned v) u (Jvm.fieldLocs frame_1_writes args s ++ Jvm.arrayLocs frame_1_arrays args s ++ Jvm.staticLocs frame_1_statics s) 40 7360 → Post tb e args s (.returned v) u) :
    ArmFor flags0 classFile x code maxLocals ret World_1 tables_1 room_1 Calls_1 rest_1 Pre_1 Post := by
  intro l hfl _ _ p e ha hc hk s m args below hf hA hF happ hP
  obtain ⟨hcalls, hrest, hpre⟩ := hP
  obtain ⟨-, -, -, hnamed, -, -, -, hat⟩ := (Spec.applies_iff hf).mp happ
  obtain ⟨hg, hn⟩ := and_e (Cond.before_iff.mp (show (Jvm.Cond.and given_1 narrow_1).before args s = true from hpre))
  obtain ⟨gc, gr0⟩ := and_e hg
  obtain ⟨w0, rfl⟩ : ∃ w0 : Value, args = #[w0] := by
    have hs : args.size = 1 := by simpa [Cond.value, given_1] using gc
    obtain ⟨L⟩ := args
    match L, hs with
    | [w0], _ => exact ⟨w0, rfl⟩
  have hw := fun d (hd : d ∈ tables_1) => atoms_spec (ws := Jvm.Cond.code x code maxLocals ret :: tables_1) hat d (List.mem_cons_of_mem _ hd)
  have hfit : Fit s := fun {y c} hc i hi => by
    obtain ⟨ha, rfl⟩ := Array.getElem?_eq_some_iff.mp hc
    have q := List.all_eq_true.mp ((Array.all_eq_true_iff_forall_mem.mp hF) _ (Array.getElem_mem ha)) i (List.mem_range.mpr hi)
    simpa [Array.getElem?_eq_getElem hi] using q
  obtain ⟨hsets, hown0⟩ := atoms_of _ (rest_1_c_eq ▸ (show rest_1_c.before _ s = true from hrest))
  have hr0 := Cond.before_iff.mp hown0
  obtain ⟨i0, ei0⟩ := is_v gr0
  obtain rfl : w0 = (.int i0) := Option.some.inj ei0
  obtain ⟨⟨cs, hSc, hcs⟩, fm, hSf, hfm⟩ := own_start hsets
  have hCH : CHv s consts_1 s.vm s.heap := CHv.start (own_ew hw) hcalls.1 (hsets _ (List.mem_of_getElem? (i := 2) rfl)) (hw _ (List.mem_of_getElem? (i := 25) rfl)) (hw _ (List.mem_of_getElem? (i := 33) rfl))
  obtain ⟨n, o, h1, h2, h3, _, L, rfl, ⟨rfl, N⟩, hq⟩ := rm0 l s _ hw tables_1 i0 fm cs s.heap s.heap.size (Nat.le_refl _) hSf hSc hfm hcs p e ha hc hk s m _ below hf ((Spec.applies_iff_loose hf).mp happ).1 ⟨rfl, State.Warmed39.refl s, rfl, hCH⟩ trivial
  refine ⟨n, _, h1, h2, h3, hpost _ _ _ _ _ _ ⟨Cond.after_iff.mpr rfl, Cond.after_iff.mpr (eq_i res_at (Term.int_eval (1)) rfl), trivial⟩ ⟨hq.2.1, hq.2.2.1, hq.2.2.2.1, (hq.2.2.2.2.sift fun y hy => Or.inr (N y hy)).mono (by decide) (by decide)⟩⟩
theorem main_1_1 : Claimed_1_1 := comes_1 fun _ _ _ _ _ _ h hF => ⟨h.1, hF⟩
theorem main_1_2 : Claimed_1_2 := comes_1 fun _ _ _ _ _ _ h hF => ⟨h.2.1, hF⟩
end Jvm.Pilot.@@N@@
namespace Jvm.Pilot.@@N@@
open Jvm Jvm.ClassFile Sem Op Lib Jvm.Free Jvm.Stand Jvm.Pilot.@@N@@.Jvm.D
/-! MADE BY PROGRAM (witnessworld.py) out of the Statement's table words and the real class files: 23 classes; the members and pool entries that the words name. The judged class is class 1, her method 1. -/
namespace start1
open Jvm.ClassFile
def u (s : String) : CpInfo := .utf8 (stringToUtf16 s)
/-- a pool by its gaps: so many unusable entries, then the entry; so many at the end -/
def gap : Nat → List CpInfo → List CpInfo
  | 0, r => r
  | n + 1, r => .unusable :: gap n r
def poolList (es : List (Nat × CpInfo)) (last : Nat) : List CpInfo := es.foldr (fun e r => gap e.1 (e.2 :: r)) (gap last [])
def pool (es : List (Nat × CpInfo)) (last : Nat) : Array CpInfo := ⟨poolList es last⟩
def fileOf (pool : Array CpInfo) (this : Nat) (attrs : Array Attribute := #[]) (ms : Array MethodInfo := #[]) (fl : Nat := 33) (sup : Nat := 0) (ifs : Array Nat := #[]) (fds : Array FieldInfo := #[]) : ClassFile where
  minorVersion := 0
  majorVersion := 65
  constantPool := pool
  accessFlags := fl
  thisClass := this
  superClass := sup
  interfaces := ifs
  fields := fds
  methods := ms
  attributes := attrs
def plain (name : String) (sup : Option ClassId) : Class where
  name := name
  kind := .ordinary
  loader := none
  accessFlags := 33
  super := sup
  interfaces := #[]
  cf := none
  fields := #[]
  methods := #[]
  instanceTypes := #[]
  staticTypes := #[]
  resolved := #[]
  callSites := []
  init := .initialized
  statics := none
  mirror := none

def pool0 : Array CpInfo := pool [(5, u "<init>"), (0, u "()V"), (1, .class_ 10), (1, u "java/lang/Object")] 113

def k0c0 : Code := { maxStack := 0, maxLocals := 1, code := object_method_1_code, exceptionTable := #[], attributes := #[] }
def k0m0 : Method := { name := "<init>", desc := "()V", sig := { parameters := [], returnType := none }, accessFlags := 1, code := some k0c0 }
/-- java/lang/Object -/
def k0 : Class := { plain "java/lang/Object" none with
  accessFlags := 33
  interfaces := #[]
  cf := some (fileOf pool0 8 #[] #[{ accessFlags := 1, nameIndex := 5, descriptorIndex := 6, attributes := #[] }] 33 0 #[] #[])
  fields := #[]
  methods := #[k0m0]
  instanceTypes := #[]
  staticTypes := #[]
  resolved := Array.replicate 124 none
  statics := none }

def pool1 : Array CpInfo := pool [(2, .class_ 4), (0, .nameAndType 5 6), (0, u "java/lang/Object"), (0, u "<init>"), (0, u "()V"), (0, .integer 2147483647), (0, .class_ 9), (0, u "latentrace/io/JsonWriter"), (0, .methodref 8 3), (0, .string 12), (0, u "null,null"), (0, .methodref 8 14), (0, .nameAndType 15 16), (0, u "beginArray"), (0, u "()Llatentrace/io/JsonWriter;"), (0, .string 18), (0, u "[null,null"), (0, .methodref 8 20), (0, .nameAndType 21 16), (0, u "endArray"), (0, .string 23), (0, u "[],null,null"), (0, .methodref 8 25), (0, .nameAndType 26 16), (0, u "beginObject"), (0, .string 28), (0, u "a"), (0, .methodref 8 30), (0, .nameAndType 31 32), (0, u "name"), (0, u "(Ljava/lang/String;)Llatentrace/io/JsonWriter;"), (0, .string 34), (0, u "{\"a\":null,null"), (0, .string 36), (0, u "[[],null,null"), (0, .methodref 8 38), (0, .nameAndType 39 16), (0, u "nullValue"), (0, .methodref 8 41), (0, .nameAndType 42 43), (0, u "toString"), (0, u "()Ljava/lang/String;"), (0, .methodref 45 46), (0, .class_ 47), (0, .nameAndType 48 49), (0, u "java/lang/String"), (0, u "equals"), (0, u "(Ljava/lang/Object;)Z"), (0, .class_ 51), (0, u "latentrace/io/JsonWriterNullValuePinLaw"), (2, u "law"), (0, u "(I)Z")] 3

def k1m0 : Method := { name := "<init>", desc := "()V", sig := { parameters := [], returnType := none }, accessFlags := 1, code := none }
def k1c1 : Code := { maxStack := 2, maxLocals := 6, code := code, exceptionTable := #[], attributes := #[] }
def k1m1 : Method := { name := "law", desc := "(I)Z", sig := { parameters := [.int], returnType := some .boolean }, accessFlags := 9, code := some k1c1 }
/-- latentrace/io/JsonWriterNullValuePinLaw -/
def k1 : Class := { plain "latentrace/io/JsonWriterNullValuePinLaw" (some 0) with
  accessFlags := 49
  interfaces := #[]
  cf := some (fileOf pool1 50 #[] #[{ accessFlags := 1, nameIndex := 5, descriptorIndex := 6, attributes := #[] }, { accessFlags := 9, nameIndex := 54, descriptorIndex := 55, attributes := #[] }] 49 2 #[] #[])
  fields := #[]
  methods := #[k1m0, k1m1]
  instanceTypes := #[]
  staticTypes := #[]
  resolved := Array.replicate 59 none
  statics := none }

def pool2 : Array CpInfo := pool [(1, .methodref 2 3), (0, .class_ 4), (0, .nameAndType 5 6), (0, u "java/lang/Object"), (0, u "<init>"), (0, u "()V"), (0, .class_ 8), (0, u "java/lang/StringBuilder"), (0, .methodref 7 3), (0, .fieldref 11 12), (0, .class_ 13), (0, .nameAndType 14 15), (0, u "latentrace/io/JsonWriter"), (0, u "text"), (0, u "Ljava/lang/StringBuilder;"), (0, .methodref 11 17), (0, .nameAndType 18 19), (0, u "open"), (0, u "(C)Llatentrace/io/JsonWriter;"), (0, .methodref 11 21), (0, .nameAndType 22 19), (0, u "close"), (0, .methodref 11 24), (0, .nameAndType 25 6), (0, u "separate"), (0, .methodref 11 27), (0, .nameAndType 28 29), (0, u "quote"), (0, u "(Ljava/lang/String;)V"), (0, .methodref 7 31), (0, .nameAndType 32 33), (0, u "append"), (0, u "(C)Ljava/lang/StringBuilder;"), (0, .fieldref 11 35), (0, .nameAndType 36 37), (0, u "afterValue"), (0, u "Z"), (22, u "beginArray"), (0, u "()Llatentrace/io/JsonWriter;"), (12, u "endArray"), (0, .string 76), (0, u "null"), (0, .methodref 7 78), (0, .nameAndType 32 79), (0, u "(Ljava/lang/String;)Ljava/lang/StringBuilder;"), (0, .methodref 7 81), (0, .nameAndType 82 83), (0, u "toString"), (0, u "()Ljava/lang/String;"), (0, .methodref 85 86), (0, .class_ 87), (0, .nameAndType 88 89), (0, u "java/lang/String"), (0, u "length"), (0, u "()I"), (0, .methodref 85 91), (0, .nameAndType 92 93), (0, u "charAt"), (0, u "(I)C"), (16, u "valueOf"), (5, .methodref 85 117), (0, .nameAndType 110 118), (0, u "(C)Ljava/lang/String;"), (2, u "beginObject"), (1, u "name"), (0, u "(Ljava/lang/String;)Llatentrace/io/JsonWriter;"), (8, u "nullValue")] 30

def k2c0 : Code := { maxStack := 3, maxLocals := 1, code := prog_20_method_1_code, exceptionTable := #[], attributes := #[] }
def k2m0 : Method := { name := "<init>", desc := "()V", sig := { parameters := [], returnType := none }, accessFlags := 1, code := some k2c0 }
def k2c1 : Code := { maxStack := 2, maxLocals := 1, code := prog_20_method_2_code, exceptionTable := #[], attributes := #[] }
def k2m1 : Method := { name := "beginObject", desc := "()Llatentrace/io/JsonWriter;", sig := { parameters := [], returnType := some (.object "latentrace/io/JsonWriter") }, accessFlags := 1, code := some k2c1 }
def k2c2 : Code := { maxStack := 2, maxLocals := 1, code := prog_20_method_4_code, exceptionTable := #[], attributes := #[] }
def k2m2 : Method := { name := "beginArray", desc := "()Llatentrace/io/JsonWriter;", sig := { parameters := [], returnType := some (.object "latentrace/io/JsonWriter") }, accessFlags := 1, code := some k2c2 }
def k2c3 : Code := { maxStack := 2, maxLocals := 1, code := prog_20_method_5_code, exceptionTable := #[], attributes := #[] }
def k2m3 : Method := { name := "endArray", desc := "()Llatentrace/io/JsonWriter;", sig := { parameters := [], returnType := some (.object "latentrace/io/JsonWriter") }, accessFlags := 1, code := some k2c3 }
def k2c4 : Code := { maxStack := 2, maxLocals := 2, code := prog_20_method_6_code, exceptionTable := #[], attributes := #[] }
def k2m4 : Method := { name := "name", desc := "(Ljava/lang/String;)Llatentrace/io/JsonWriter;", sig := { parameters := [(.object "java/lang/String")], returnType := some (.object "latentrace/io/JsonWriter") }, accessFlags := 1, code := some k2c4 }
def k2c5 : Code := { maxStack := 2, maxLocals := 1, code := prog_20_method_11_code, exceptionTable := #[], attributes := #[] }
def k2m5 : Method := { name := "nullValue", desc := "()Llatentrace/io/JsonWriter;", sig := { parameters := [], returnType := some (.object "latentrace/io/JsonWriter") }, accessFlags := 1, code := some k2c5 }
def k2c6 : Code := { maxStack := 1, maxLocals := 1, code := prog_20_method_12_code, exceptionTable := #[], attributes := #[] }
def k2m6 : Method := { name := "toString", desc := "()Ljava/lang/String;", sig := { parameters := [], returnType := some (.object "java/lang/String") }, accessFlags := 1, code := some k2c6 }
def k2c7 : Code := { maxStack := 2, maxLocals := 2, code := prog_20_method_13_code, exceptionTable := #[], attributes := #[] }
def k2m7 : Method := { name := "open", desc := "(C)Llatentrace/io/JsonWriter;", sig := { parameters := [.char], returnType := some (.object "latentrace/io/JsonWriter") }, accessFlags := 2, code := some k2c7 }
def k2c8 : Code := { maxStack := 2, maxLocals := 2, code := prog_20_method_14_code, exceptionTable := #[], attributes := #[] }
def k2m8 : Method := { name := "close", desc := "(C)Llatentrace/io/JsonWriter;", sig := { parameters := [.char], returnType := some (.object "latentrace/io/JsonWriter") }, accessFlags := 2, code := some k2c8 }
def k2c9 : Code := { maxStack := 2, maxLocals := 1, code := prog_20_method_15_code, exceptionTable := #[], attributes := #[] }
def k2m9 : Method := { name := "separate", desc := "()V", sig := { parameters := [], returnType := none }, accessFlags := 2, code := some k2c9 }
def k2c10 : Code := { maxStack := 6, maxLocals := 4, code := prog_20_method_16_code, exceptionTable := #[], attributes := #[] }
def k2m10 : Method := { name := "quote", desc := "(Ljava/lang/String;)V", sig := { parameters := [(.object "java/lang/String")], returnType := none }, accessFlags := 2, code := some k2c10 }
/-- latentrace/io/JsonWriter -/
def k2 : Class := { plain "latentrace/io/JsonWriter" (some 0) with
  accessFlags := 49
  interfaces := #[]
  cf := some (fileOf pool2 11 #[] #[{ accessFlags := 1, nameIndex := 5, descriptorIndex := 6, attributes := #[] }, { accessFlags := 1, nameIndex := 121, descriptorIndex := 61, attributes := #[] }, { accessFlags := 1, nameIndex := 60, descriptorIndex := 61, attributes := #[] }, { accessFlags := 1, nameIndex := 74, descriptorIndex := 61, attributes := #[] }, { accessFlags := 1, nameIndex := 123, descriptorIndex := 124, attributes := #[] }, { accessFlags := 1, nameIndex := 133, descriptorIndex := 61, attributes := #[] }, { accessFlags := 1, nameIndex := 82, descriptorIndex := 83, attributes := #[] }, { accessFlags := 2, nameIndex := 18, descriptorIndex := 19, attributes := #[] }, { accessFlags := 2, nameIndex := 22, descriptorIndex := 19, attributes := #[] }, { accessFlags := 2, nameIndex := 25, descriptorIndex := 6, attributes := #[] }, { accessFlags := 2, nameIndex := 28, descriptorIndex := 29, attributes := #[] }] 49 2 #[] #[{ accessFlags := 18, nameIndex := 14, descriptorIndex := 15, attributes := #[] }, { accessFlags := 2, nameIndex := 36, descriptorIndex := 37, attributes := #[] }])
  fields := #[{ name := "text", type := (.object "java/lang/StringBuilder"), accessFlags := 18, slot := 0, constantValue := 0 }, { name := "afterValue", type := .boolean, accessFlags := 2, slot := 1, constantValue := 0 }]
  methods := #[k2m0, k2m1, k2m2, k2m3, k2m4, k2m5, k2m6, k2m7, k2m8, k2m9, k2m10]
  instanceTypes := #[(.object "java/lang/StringBuilder"), .boolean]
  staticTypes := #[]
  resolved := Array.replicate 164 none
  statics := none }

def pool3 : Array CpInfo := pool [(1, .class_ 2), (0, u "java/lang/Appendable"), (0, .class_ 4), (0, u "java/lang/Object")] 9

/-- java/lang/Appendable -/
def k3 : Class := { plain "java/lang/Appendable" (some 0) with
  accessFlags := 1537
  interfaces := #[]
  cf := some (fileOf pool3 1 #[] #[] 1537 3 #[] #[])
  fields := #[]
  methods := #[]
  instanceTypes := #[]
  staticTypes := #[]
  resolved := Array.replicate 14 none
  statics := none }

def pool4 : Array CpInfo := pool [(2, .class_ 4), (1, u "java/lang/CharSequence"), (42, .class_ 48), (0, u "java/lang/CharSequence$1CodePointIterator"), (10, .class_ 60), (0, u "java/lang/CharSequence$1CharIterator"), (5, .class_ 67), (0, u "java/lang/Object")] 63

/-- java/lang/CharSequence -/
def k4 : Class := { plain "java/lang/CharSequence" (some 0) with
  accessFlags := 1537
  interfaces := #[]
  cf := some (fileOf pool4 2 #[.nestMembers #[47, 59]] #[] 1537 66 #[] #[])
  fields := #[]
  methods := #[]
  instanceTypes := #[]
  staticTypes := #[]
  resolved := Array.replicate 131 none
  statics := none }

def pool5 : Array CpInfo := pool [(1, .class_ 2), (0, u "java/lang/String"), (0, .methodref 4 5), (0, .class_ 6), (0, .nameAndType 7 8), (0, u "java/lang/Object"), (0, u "<init>"), (0, u "()V"), (1, .class_ 12), (1, u "java/lang/AbstractStringBuilder"), (0, u "EMPTYVALUE"), (0, u "[B"), (0, .fieldref 10 16), (0, .nameAndType 17 14), (0, u "value"), (0, .fieldref 1 19), (0, .nameAndType 20 21), (0, u "COMPACT_STRINGS"), (0, u "Z"), (0, .fieldref 10 23), (0, .nameAndType 24 25), (0, u "coder"), (0, u "B"), (6, .methodref 1 33), (0, .nameAndType 34 35), (0, u "length"), (0, u "()I"), (4, .methodref 1 41), (0, .nameAndType 24 42), (0, u "()B"), (2, u "append"), (0, u "(Ljava/lang/String;)Ljava/lang/AbstractStringBuilder;"), (1, .class_ 49), (0, u "java/lang/CharSequence"), (19, u "(Ljava/lang/String;)V"), (5, u "maybeLatin1"), (3, .fieldref 10 80), (0, .nameAndType 81 82), (0, u "count"), (0, u "I"), (0, .methodref 10 84), (0, .nameAndType 85 86), (0, u "isLatin1"), (0, u "()Z"), (1, .class_ 90), (1, u "java/lang/StringLatin1"), (9, .methodref 10 101), (0, .nameAndType 102 103), (0, u "ensureCapacityInternal"), (0, u "(I)V"), (87, .methodref 88 192), (0, .nameAndType 193 194), (0, u "canEncode"), (0, u "(C)Z"), (13, .methodref 10 209), (0, .nameAndType 210 211), (0, u "putStringAt"), (0, u "(ILjava/lang/String;)V"), (5, u "inflateIfNeededFor"), (2, .nameAndType 221 222), (0, u "getBytes"), (0, u "([BIB)V"), (69, u "(C)Ljava/lang/AbstractStringBuilder;"), (104, .methodref 10 398), (0, .nameAndType 217 69), (0, .methodref 1 220), (3, u "()[B"), (40, .class_ 445), (0, u "java/lang/Appendable"), (106, u "getValue")] 56

def k5m0 : Method := { name := "<init>", desc := "()V", sig := { parameters := [], returnType := none }, accessFlags := 0, code := none }
def k5c1 : Code := { maxStack := 2, maxLocals := 2, code := jdk_68_method_2_code, exceptionTable := #[], attributes := #[] }
def k5m1 : Method := { name := "<init>", desc := "(I)V", sig := { parameters := [.int], returnType := none }, accessFlags := 0, code := some k5c1 }
def k5c2 : Code := { maxStack := 1, maxLocals := 1, code := jdk_68_method_6_code, exceptionTable := #[], attributes := #[] }
def k5m2 : Method := { name := "length", desc := "()I", sig := { parameters := [], returnType := some .int }, accessFlags := 1, code := some k5c2 }
def k5c3 : Code := { maxStack := 4, maxLocals := 3, code := jdk_68_method_9_code, exceptionTable := #[], attributes := #[] }
def k5m3 : Method := { name := "ensureCapacityInternal", desc := "(I)V", sig := { parameters := [.int], returnType := none }, accessFlags := 2, code := some k5c3 }
def k5c4 : Code := { maxStack := 3, maxLocals := 3, code := jdk_68_method_22_code, exceptionTable := #[], attributes := #[] }
def k5m4 : Method := { name := "append", desc := "(Ljava/lang/String;)Ljava/lang/AbstractStringBuilder;", sig := { parameters := [(.object "java/lang/String")], returnType := some (.object "java/lang/AbstractStringBuilder") }, accessFlags := 1, code := some k5c4 }
def k5c5 : Code := { maxStack := 5, maxLocals := 2, code := jdk_68_method_31_code, exceptionTable := #[], attributes := #[] }
def k5m5 : Method := { name := "append", desc := "(C)Ljava/lang/AbstractStringBuilder;", sig := { parameters := [.char], returnType := some (.object "java/lang/AbstractStringBuilder") }, accessFlags := 1, code := some k5c5 }
def k5c6 : Code := { maxStack := 1, maxLocals := 1, code := jdk_68_method_64_code, exceptionTable := #[], attributes := #[] }
def k5m6 : Method := { name := "getValue", desc := "()[B", sig := { parameters := [], returnType := some (.array .byte) }, accessFlags := 16, code := some k5c6 }
def k5c7 : Code := { maxStack := 1, maxLocals := 1, code := jdk_68_method_68_code, exceptionTable := #[], attributes := #[] }
def k5m7 : Method := { name := "isLatin1", desc := "()Z", sig := { parameters := [], returnType := some .boolean }, accessFlags := 16, code := some k5c7 }
def k5c8 : Code := { maxStack := 2, maxLocals := 2, code := jdk_68_method_71_code, exceptionTable := #[], attributes := #[] }
def k5m8 : Method := { name := "inflateIfNeededFor", desc := "(Ljava/lang/String;)V", sig := { parameters := [(.object "java/lang/String")], returnType := none }, accessFlags := 2, code := some k5c8 }
def k5c9 : Code := { maxStack := 4, maxLocals := 3, code := jdk_68_method_73_code, exceptionTable := #[], attributes := #[] }
def k5m9 : Method := { name := "putStringAt", desc := "(ILjava/lang/String;)V", sig := { parameters := [.int, (.object "java/lang/String")], returnType := none }, accessFlags := 2, code := some k5c9 }
/-- java/lang/AbstractStringBuilder -/
def k5 : Class := { plain "java/lang/AbstractStringBuilder" (some 0) with
  accessFlags := 1056
  interfaces := #[3, 4]
  cf := some (fileOf pool5 10 #[] #[{ accessFlags := 0, nameIndex := 7, descriptorIndex := 8, attributes := #[] }, { accessFlags := 0, nameIndex := 7, descriptorIndex := 103, attributes := #[] }, { accessFlags := 1, nameIndex := 34, descriptorIndex := 35, attributes := #[] }, { accessFlags := 2, nameIndex := 102, descriptorIndex := 103, attributes := #[] }, { accessFlags := 1, nameIndex := 45, descriptorIndex := 46, attributes := #[] }, { accessFlags := 1, nameIndex := 45, descriptorIndex := 292, attributes := #[] }, { accessFlags := 16, nameIndex := 552, descriptorIndex := 403, attributes := #[] }, { accessFlags := 16, nameIndex := 85, descriptorIndex := 86, attributes := #[] }, { accessFlags := 2, nameIndex := 217, descriptorIndex := 69, attributes := #[] }, { accessFlags := 2, nameIndex := 210, descriptorIndex := 211, attributes := #[] }] 1056 4 #[444, 48] #[{ accessFlags := 0, nameIndex := 17, descriptorIndex := 14, attributes := #[] }, { accessFlags := 0, nameIndex := 24, descriptorIndex := 25, attributes := #[] }, { accessFlags := 0, nameIndex := 75, descriptorIndex := 21, attributes := #[] }, { accessFlags := 0, nameIndex := 81, descriptorIndex := 82, attributes := #[] }, { accessFlags := 26, nameIndex := 13, descriptorIndex := 14, attributes := #[] }])
  fields := #[{ name := "value", type := (.array .byte), accessFlags := 0, slot := 0, constantValue := 0 }, { name := "coder", type := .byte, accessFlags := 0, slot := 1, constantValue := 0 }, { name := "maybeLatin1", type := .boolean, accessFlags := 0, slot := 2, constantValue := 0 }, { name := "count", type := .int, accessFlags := 0, slot := 3, constantValue := 0 }, { name := "EMPTYVALUE", type := (.array .byte), accessFlags := 26, slot := 0, constantValue := 0 }]
  methods := #[k5m0, k5m1, k5m2, k5m3, k5m4, k5m5, k5m6, k5m7, k5m8, k5m9]
  instanceTypes := #[(.array .byte), .byte, .boolean, .int]
  staticTypes := #[(.array .byte)]
  resolved := Array.replicate 609 none
  statics := none }

def pool6 : Array CpInfo := pool [(1, .class_ 2), (0, u "java/io/Serializable"), (0, .class_ 4), (0, u "java/lang/Object")] 2

/-- java/io/Serializable -/
def k6 : Class := { plain "java/io/Serializable" (some 0) with
  accessFlags := 1537
  interfaces := #[]
  cf := some (fileOf pool6 1 #[] #[] 1537 3 #[] #[])
  fields := #[]
  methods := #[]
  instanceTypes := #[]
  staticTypes := #[]
  resolved := Array.replicate 7 none
  statics := none }

def pool7 : Array CpInfo := pool [(1, .class_ 2), (0, u "java/lang/Comparable"), (0, .class_ 4), (0, u "java/lang/Object")] 7

/-- java/lang/Comparable -/
def k7 : Class := { plain "java/lang/Comparable" (some 0) with
  accessFlags := 1537
  interfaces := #[]
  cf := some (fileOf pool7 1 #[] #[] 1537 3 #[] #[])
  fields := #[]
  methods := #[]
  instanceTypes := #[]
  staticTypes := #[]
  resolved := Array.replicate 12 none
  statics := none }

def pool8 : Array CpInfo := pool [(1, .methodref 2 3), (0, .class_ 4), (0, .nameAndType 5 6), (0, u "java/lang/AbstractStringBuilder"), (0, u "<init>"), (0, u "(I)V"), (11, .class_ 20), (1, u "java/lang/String"), (3, .class_ 26), (1, u "java/lang/StringBuilder"), (0, u "append"), (0, u "(Ljava/lang/String;)Ljava/lang/StringBuilder;"), (0, .methodref 2 30), (0, .nameAndType 27 31), (0, u "(Ljava/lang/String;)Ljava/lang/AbstractStringBuilder;"), (18, .methodref 2 51), (0, .nameAndType 27 52), (0, u "(C)Ljava/lang/AbstractStringBuilder;"), (84, .methodref 18 138), (0, .nameAndType 5 139), (0, u "(Ljava/lang/StringBuilder;)V"), (5, u "()V"), (10, u "()I"), (129, u "(C)Ljava/lang/StringBuilder;"), (56, .methodref 2 344), (0, .nameAndType 345 156), (0, u "length"), (3, .class_ 350), (0, u "java/lang/Appendable"), (0, .class_ 352), (0, u "java/io/Serializable"), (0, .class_ 354), (0, u "java/lang/Comparable"), (0, .class_ 356), (0, u "java/lang/CharSequence"), (0, u "serialVersionUID"), (0, u "J"), (40, u "toString"), (0, u "()Ljava/lang/String;")] 21

def k8c0 : Code := { maxStack := 2, maxLocals := 1, code := jdk_67_method_1_code, exceptionTable := #[], attributes := #[] }
def k8m0 : Method := { name := "<init>", desc := "()V", sig := { parameters := [], returnType := none }, accessFlags := 1, code := some k8c0 }
def k8c1 : Code := { maxStack := 2, maxLocals := 2, code := jdk_67_method_7_code, exceptionTable := #[], attributes := #[] }
def k8m1 : Method := { name := "append", desc := "(Ljava/lang/String;)Ljava/lang/StringBuilder;", sig := { parameters := [(.object "java/lang/String")], returnType := some (.object "java/lang/StringBuilder") }, accessFlags := 1, code := some k8c1 }
def k8c2 : Code := { maxStack := 2, maxLocals := 2, code := jdk_67_method_14_code, exceptionTable := #[], attributes := #[] }
def k8m2 : Method := { name := "append", desc := "(C)Ljava/lang/StringBuilder;", sig := { parameters := [.char], returnType := some (.object "java/lang/StringBuilder") }, accessFlags := 1, code := some k8c2 }
def k8c3 : Code := { maxStack := 3, maxLocals := 1, code := jdk_67_method_42_code, exceptionTable := #[], attributes := #[] }
def k8m3 : Method := { name := "toString", desc := "()Ljava/lang/String;", sig := { parameters := [], returnType := some (.object "java/lang/String") }, accessFlags := 1, code := some k8c3 }
def k8c4 : Code := { maxStack := 1, maxLocals := 1, code := jdk_67_method_93_code, exceptionTable := #[], attributes := #[] }
def k8m4 : Method := { name := "length", desc := "()I", sig := { parameters := [], returnType := some .int }, accessFlags := 4161, code := some k8c4 }
/-- java/lang/StringBuilder -/
def k8 : Class := { plain "java/lang/StringBuilder" (some 5) with
  accessFlags := 49
  interfaces := #[3, 6, 7, 4]
  cf := some (fileOf pool8 24 #[] #[{ accessFlags := 1, nameIndex := 5, descriptorIndex := 145, attributes := #[] }, { accessFlags := 1, nameIndex := 27, descriptorIndex := 28, attributes := #[] }, { accessFlags := 1, nameIndex := 27, descriptorIndex := 286, attributes := #[] }, { accessFlags := 1, nameIndex := 399, descriptorIndex := 400, attributes := #[] }, { accessFlags := 4161, nameIndex := 345, descriptorIndex := 156, attributes := #[] }] 49 2 #[349, 351, 353, 355] #[{ accessFlags := 24, nameIndex := 357, descriptorIndex := 358, attributes := #[] }])
  fields := #[{ name := "serialVersionUID", type := .long, accessFlags := 24, slot := 0, constantValue := 0 }]
  methods := #[k8m0, k8m1, k8m2, k8m3, k8m4]
  instanceTypes := #[(.array .byte), .byte, .boolean, .int]
  staticTypes := #[.long]
  resolved := Array.replicate 422 none
  statics := none }

def pool9 : Array CpInfo := pool [(1, .class_ 2), (0, u "java/lang/constant/Constable"), (0, .class_ 4), (0, u "java/lang/Object")] 6

/-- java/lang/constant/Constable -/
def k9 : Class := { plain "java/lang/constant/Constable" (some 0) with
  accessFlags := 1537
  interfaces := #[]
  cf := some (fileOf pool9 1 #[] #[] 1537 3 #[] #[])
  fields := #[]
  methods := #[]
  instanceTypes := #[]
  staticTypes := #[]
  resolved := Array.replicate 11 none
  statics := none }

def pool10 : Array CpInfo := pool [(1, .class_ 2), (0, u "java/lang/constant/ConstantDesc"), (0, .class_ 4), (0, u "java/lang/Object")] 32

/-- java/lang/constant/ConstantDesc -/
def k10 : Class := { plain "java/lang/constant/ConstantDesc" (some 0) with
  accessFlags := 1537
  interfaces := #[]
  cf := some (fileOf pool10 1 #[] #[] 1537 3 #[] #[])
  fields := #[]
  methods := #[]
  instanceTypes := #[]
  staticTypes := #[]
  resolved := Array.replicate 37 none
  statics := none }

def pool11 : Array CpInfo := pool [(1, .methodref 2 3), (0, .class_ 4), (0, .nameAndType 5 6), (0, u "java/lang/Object"), (0, u "<init>"), (0, u "()V"), (2, .fieldref 10 11), (0, .class_ 12), (0, .nameAndType 13 14), (0, u "java/lang/String"), (0, u "value"), (0, u "[B"), (0, .fieldref 10 16), (0, .nameAndType 17 18), (0, u "coder"), (0, u "B"), (2, u "hash"), (0, u "I"), (2, u "hashIsZero"), (0, u "Z"), (11, .fieldref 10 39), (0, .nameAndType 40 26), (0, u "COMPACT_STRINGS"), (12, u "toBytes"), (0, .methodref 55 56), (0, .class_ 57), (0, .nameAndType 58 59), (0, u "java/util/Arrays"), (0, u "copyOfRange"), (0, u "([BII)[B"), (47, .class_ 109), (1, u "java/lang/StringLatin1"), (32, u "()Z"), (50, .class_ 195), (1, u "java/lang/System"), (13, .methodref 10 210), (0, .nameAndType 5 211), (0, u "([BB)V"), (0, .methodref 193 213), (0, .nameAndType 214 215), (0, u "arraycopy"), (0, u "(Ljava/lang/Object;ILjava/lang/Object;II)V"), (118, u "()I"), (0, .methodref 10 336), (0, .nameAndType 17 337), (0, u "()B"), (2, u "()[B"), (22, u "([BI)C"), (5, u "(C)Z"), (21, u "(II)V"), (35, u "(I)C"), (61, .methodref 10 490), (0, .nameAndType 5 491), (0, u "(Ljava/lang/AbstractStringBuilder;Ljava/lang/Void;)V"), (0, .methodref 10 493), (0, .nameAndType 494 142), (0, u "isLatin1"), (0, .methodref 107 496), (0, .nameAndType 497 363), (0, u "charAt"), (3, u "checkIndex"), (4, .nameAndType 507 334), (0, u "length"), (24, u "getBytes"), (8, .methodref 107 542), (0, .nameAndType 543 544), (0, u "equals"), (0, u "([B[B)Z"), (4, .methodref 550 506), (0, .class_ 551), (0, u "java/lang/AbstractStringBuilder"), (0, .methodref 550 553), (0, .nameAndType 554 340), (0, u "getValue"), (18, u "(Ljava/lang/Object;)Z"), (1, .class_ 576), (0, u "java/lang/CharSequence"), (22, u "CASE_INSENSITIVE_ORDER"), (0, u "Ljava/util/Comparator;"), (181, u "valueOf"), (0, u "(C)Ljava/lang/String;"), (37, u "([BIB)V"), (193, .methodref 107 1016), (0, .nameAndType 1017 369), (0, u "canEncode"), (0, .methodref 107 1019), (0, .nameAndType 53 1020), (0, u "(C)[B"), (26, .methodref 550 493), (5, .fieldref 1054 1055), (0, .class_ 1056), (0, .nameAndType 1057 1058), (0, u "jdk/internal/util/Preconditions"), (0, u "SIOOBE_FORMATTER"), (0, u "Ljava/util/function/BiFunction;"), (0, .methodref 1054 1060), (0, .nameAndType 501 1061), (0, u "(IILjava/util/function/BiFunction;)I"), (39, u "serialPersistentFields"), (0, u "[Ljava/io/ObjectStreamField;"), (0, .class_ 1104), (0, u "java/lang/String$CaseInsensitiveComparator"), (1, .class_ 1107), (0, u "java/io/Serializable"), (0, .class_ 1109), (0, u "java/lang/Comparable"), (0, .class_ 1111), (0, u "java/lang/constant/Constable"), (0, .class_ 1113), (0, u "java/lang/constant/ConstantDesc"), (2, u "serialVersionUID"), (0, u "J"), (3, u "REPL"), (0, u "C"), (2, u "LATIN1"), (1, u "UTF16"), (105, u "(Ljava/lang/StringBuilder;)V")] 217

def k11m0 : Method := { name := "<init>", desc := "()V", sig := { parameters := [], returnType := none }, accessFlags := 1, code := none }
def k11c1 : Code := { maxStack := 3, maxLocals := 2, code := jdk_42_method_53_code, exceptionTable := #[], attributes := #[] }
def k11m1 : Method := { name := "<init>", desc := "(Ljava/lang/StringBuilder;)V", sig := { parameters := [(.object "java/lang/StringBuilder")], returnType := none }, accessFlags := 1, code := some k11c1 }
def k11c2 : Code := { maxStack := 2, maxLocals := 1, code := jdk_42_method_54_code, exceptionTable := #[], attributes := #[] }
def k11m2 : Method := { name := "length", desc := "()I", sig := { parameters := [], returnType := some .int }, accessFlags := 1, code := some k11c2 }
def k11c3 : Code := { maxStack := 2, maxLocals := 2, code := jdk_42_method_56_code, exceptionTable := #[], attributes := #[] }
def k11m3 : Method := { name := "charAt", desc := "(I)C", sig := { parameters := [.int], returnType := some .char }, accessFlags := 1, code := some k11c3 }
def k11c4 : Code := { maxStack := 2, maxLocals := 3, code := jdk_42_method_66_code, exceptionTable := #[], attributes := #[] }
def k11m4 : Method := { name := "equals", desc := "(Ljava/lang/Object;)Z", sig := { parameters := [(.object "java/lang/Object")], returnType := some .boolean }, accessFlags := 1, code := some k11c4 }
def k11c5 : Code := { maxStack := 4, maxLocals := 1, code := jdk_42_method_139_code, exceptionTable := #[], attributes := #[] }
def k11m5 : Method := { name := "valueOf", desc := "(C)Ljava/lang/String;", sig := { parameters := [.char], returnType := some (.object "java/lang/String") }, accessFlags := 9, code := some k11c5 }
def k11c6 : Code := { maxStack := 5, maxLocals := 4, code := jdk_42_method_147_code, exceptionTable := #[], attributes := #[] }
def k11m6 : Method := { name := "getBytes", desc := "([BIB)V", sig := { parameters := [(.array .byte), .int, .byte], returnType := none }, accessFlags := 0, code := some k11c6 }
def k11c7 : Code := { maxStack := 5, maxLocals := 5, code := jdk_42_method_150_code, exceptionTable := #[], attributes := #[] }
def k11m7 : Method := { name := "<init>", desc := "(Ljava/lang/AbstractStringBuilder;Ljava/lang/Void;)V", sig := { parameters := [(.object "java/lang/AbstractStringBuilder"), (.object "java/lang/Void")], returnType := none }, accessFlags := 0, code := some k11c7 }
def k11c8 : Code := { maxStack := 2, maxLocals := 3, code := jdk_42_method_151_code, exceptionTable := #[], attributes := #[] }
def k11m8 : Method := { name := "<init>", desc := "([BB)V", sig := { parameters := [(.array .byte), .byte], returnType := none }, accessFlags := 0, code := some k11c8 }
def k11c9 : Code := { maxStack := 1, maxLocals := 1, code := jdk_42_method_152_code, exceptionTable := #[], attributes := #[] }
def k11m9 : Method := { name := "coder", desc := "()B", sig := { parameters := [], returnType := some .byte }, accessFlags := 0, code := some k11c9 }
def k11c10 : Code := { maxStack := 1, maxLocals := 1, code := jdk_42_method_154_code, exceptionTable := #[], attributes := #[] }
def k11m10 : Method := { name := "isLatin1", desc := "()Z", sig := { parameters := [], returnType := some .boolean }, accessFlags := 0, code := some k11c10 }
def k11c11 : Code := { maxStack := 3, maxLocals := 2, code := jdk_42_method_155_code, exceptionTable := #[], attributes := #[] }
def k11m11 : Method := { name := "checkIndex", desc := "(II)V", sig := { parameters := [.int, .int], returnType := none }, accessFlags := 8, code := some k11c11 }
/-- java/lang/String -/
def k11 : Class := { plain "java/lang/String" (some 0) with
  accessFlags := 49
  interfaces := #[6, 7, 4, 9, 10]
  cf := some (fileOf pool11 10 #[.nestMembers #[1103]] #[{ accessFlags := 1, nameIndex := 5, descriptorIndex := 6, attributes := #[] }, { accessFlags := 1, nameIndex := 5, descriptorIndex := 1233, attributes := #[] }, { accessFlags := 1, nameIndex := 507, descriptorIndex := 334, attributes := #[] }, { accessFlags := 1, nameIndex := 497, descriptorIndex := 427, attributes := #[] }, { accessFlags := 1, nameIndex := 543, descriptorIndex := 573, attributes := #[] }, { accessFlags := 9, nameIndex := 782, descriptorIndex := 783, attributes := #[] }, { accessFlags := 0, nameIndex := 532, descriptorIndex := 821, attributes := #[] }, { accessFlags := 0, nameIndex := 5, descriptorIndex := 491, attributes := #[] }, { accessFlags := 0, nameIndex := 5, descriptorIndex := 211, attributes := #[] }, { accessFlags := 0, nameIndex := 17, descriptorIndex := 337, attributes := #[] }, { accessFlags := 0, nameIndex := 494, descriptorIndex := 142, attributes := #[] }, { accessFlags := 8, nameIndex := 501, descriptorIndex := 391, attributes := #[] }] 49 2 #[1106, 1108, 575, 1110, 1112] #[{ accessFlags := 18, nameIndex := 13, descriptorIndex := 14, attributes := #[] }, { accessFlags := 18, nameIndex := 17, descriptorIndex := 18, attributes := #[] }, { accessFlags := 2, nameIndex := 21, descriptorIndex := 22, attributes := #[] }, { accessFlags := 2, nameIndex := 25, descriptorIndex := 26, attributes := #[] }, { accessFlags := 26, nameIndex := 1116, descriptorIndex := 1117, attributes := #[] }, { accessFlags := 24, nameIndex := 40, descriptorIndex := 26, attributes := #[] }, { accessFlags := 26, nameIndex := 1101, descriptorIndex := 1102, attributes := #[] }, { accessFlags := 26, nameIndex := 1121, descriptorIndex := 1122, attributes := #[] }, { accessFlags := 25, nameIndex := 599, descriptorIndex := 600, attributes := #[] }, { accessFlags := 24, nameIndex := 1125, descriptorIndex := 18, attributes := #[] }, { accessFlags := 24, nameIndex := 1127, descriptorIndex := 18, attributes := #[] }])
  fields := #[{ name := "value", type := (.array .byte), accessFlags := 18, slot := 0, constantValue := 0 }, { name := "coder", type := .byte, accessFlags := 18, slot := 1, constantValue := 0 }, { name := "hash", type := .int, accessFlags := 2, slot := 2, constantValue := 0 }, { name := "hashIsZero", type := .boolean, accessFlags := 2, slot := 3, constantValue := 0 }, { name := "serialVersionUID", type := .long, accessFlags := 26, slot := 0, constantValue := 0 }, { name := "COMPACT_STRINGS", type := .boolean, accessFlags := 24, slot := 1, constantValue := 0 }, { name := "serialPersistentFields", type := (.array (.object "java/io/ObjectStreamField")), accessFlags := 26, slot := 2, constantValue := 0 }, { name := "REPL", type := .char, accessFlags := 26, slot := 3, constantValue := 0 }, { name := "CASE_INSENSITIVE_ORDER", type := (.object "java/util/Comparator"), accessFlags := 25, slot := 4, constantValue := 0 }, { name := "LATIN1", type := .byte, accessFlags := 24, slot := 5, constantValue := 0 }, { name := "UTF16", type := .byte, accessFlags := 24, slot := 6, constantValue := 0 }]
  methods := #[k11m0, k11m1, k11m2, k11m3, k11m4, k11m5, k11m6, k11m7, k11m8, k11m9, k11m10, k11m11]
  instanceTypes := #[(.array .byte), .byte, .int, .boolean]
  staticTypes := #[.long, .boolean, (.array (.object "java/io/ObjectStreamField")), .char, (.object "java/util/Comparator"), .byte, .byte]
  resolved := Array.replicate 1451 none
  statics := some 0 }

def pool12 : Array CpInfo := pool [(2, .class_ 4), (1, u "java/lang/Object"), (0, u "<init>"), (0, u "()V"), (1, .class_ 10), (1, u "java/lang/System"), (0, u "allowSecurityManager"), (0, u "I"), (16, u "cons"), (0, u "Ljava/io/Console;"), (77, .class_ 110), (1, u "java/lang/System$CallersHolder"), (43, u "initialErrStream"), (0, u "Ljava/io/PrintStream;"), (19, u "security"), (0, u "Ljava/lang/SecurityManager;"), (31, .class_ 209), (0, u "java/lang/System$1"), (7, u "props"), (0, u "Ljava/util/Properties;"), (2, u "lineSeparator"), (0, u "Ljava/lang/String;"), (96, .class_ 321), (1, u "java/lang/System$LoggerFinder"), (5, .class_ 328), (0, u "java/lang/System$Logger"), (67, u "err"), (2, u "out"), (91, u "notSupportedJnuEncoding"), (15, u "in"), (17, u "initialIn"), (0, u "Ljava/io/InputStream;"), (35, u "bootLayer"), (0, u "Ljava/lang/ModuleLayer;"), (99, .class_ 664), (0, u "java/lang/System$2"), (9, u "NEVER"), (2, u "MAYBE"), (49, u "arraycopy"), (0, u "(Ljava/lang/Object;ILjava/lang/Object;II)V"), (72, .class_ 802), (0, u "java/lang/System$Logger$Level")] 31

def k12m0 : Method := { name := "<init>", desc := "()V", sig := { parameters := [], returnType := none }, accessFlags := 2, code := none }
def k12m1 : Method := { name := "arraycopy", desc := "(Ljava/lang/Object;ILjava/lang/Object;II)V", sig := { parameters := [(.object "java/lang/Object"), .int, (.object "java/lang/Object"), .int, .int], returnType := none }, accessFlags := 265, code := none }
/-- java/lang/System -/
def k12 : Class := { plain "java/lang/System" (some 0) with
  accessFlags := 49
  interfaces := #[]
  cf := some (fileOf pool12 8 #[.nestMembers #[319, 327, 801, 108, 663, 208]] #[{ accessFlags := 2, nameIndex := 5, descriptorIndex := 6, attributes := #[] }, { accessFlags := 265, nameIndex := 727, descriptorIndex := 728, attributes := #[] }] 49 2 #[] #[{ accessFlags := 25, nameIndex := 507, descriptorIndex := 526, attributes := #[] }, { accessFlags := 25, nameIndex := 399, descriptorIndex := 155, attributes := #[] }, { accessFlags := 25, nameIndex := 396, descriptorIndex := 155, attributes := #[] }, { accessFlags := 10, nameIndex := 525, descriptorIndex := 526, attributes := #[] }, { accessFlags := 26, nameIndex := 674, descriptorIndex := 12, attributes := #[] }, { accessFlags := 26, nameIndex := 677, descriptorIndex := 12, attributes := #[] }, { accessFlags := 10, nameIndex := 11, descriptorIndex := 12, attributes := #[] }, { accessFlags := 74, nameIndex := 175, descriptorIndex := 176, attributes := #[] }, { accessFlags := 10, nameIndex := 491, descriptorIndex := 222, attributes := #[] }, { accessFlags := 74, nameIndex := 29, descriptorIndex := 30, attributes := #[] }, { accessFlags := 74, nameIndex := 154, descriptorIndex := 155, attributes := #[] }, { accessFlags := 10, nameIndex := 217, descriptorIndex := 218, attributes := #[] }, { accessFlags := 10, nameIndex := 221, descriptorIndex := 222, attributes := #[] }, { accessFlags := 8, nameIndex := 562, descriptorIndex := 563, attributes := #[] }])
  fields := #[{ name := "in", type := (.object "java/io/InputStream"), accessFlags := 25, slot := 0, constantValue := 0 }, { name := "out", type := (.object "java/io/PrintStream"), accessFlags := 25, slot := 1, constantValue := 0 }, { name := "err", type := (.object "java/io/PrintStream"), accessFlags := 25, slot := 2, constantValue := 0 }, { name := "initialIn", type := (.object "java/io/InputStream"), accessFlags := 10, slot := 3, constantValue := 0 }, { name := "NEVER", type := .int, accessFlags := 26, slot := 4, constantValue := 0 }, { name := "MAYBE", type := .int, accessFlags := 26, slot := 5, constantValue := 0 }, { name := "allowSecurityManager", type := .int, accessFlags := 10, slot := 6, constantValue := 0 }, { name := "security", type := (.object "java/lang/SecurityManager"), accessFlags := 74, slot := 7, constantValue := 0 }, { name := "notSupportedJnuEncoding", type := (.object "java/lang/String"), accessFlags := 10, slot := 8, constantValue := 0 }, { name := "cons", type := (.object "java/io/Console"), accessFlags := 74, slot := 9, constantValue := 0 }, { name := "initialErrStream", type := (.object "java/io/PrintStream"), accessFlags := 74, slot := 10, constantValue := 0 }, { name := "props", type := (.object "java/util/Properties"), accessFlags := 10, slot := 11, constantValue := 0 }, { name := "lineSeparator", type := (.object "java/lang/String"), accessFlags := 10, slot := 12, constantValue := 0 }, { name := "bootLayer", type := (.object "java/lang/ModuleLayer"), accessFlags := 8, slot := 13, constantValue := 0 }]
  methods := #[k12m0, k12m1]
  instanceTypes := #[]
  staticTypes := #[(.object "java/io/InputStream"), (.object "java/io/PrintStream"), (.object "java/io/PrintStream"), (.object "java/io/InputStream"), .int, .int, .int, (.object "java/lang/SecurityManager"), (.object "java/lang/String"), (.object "java/io/Console"), (.object "java/io/PrintStream"), (.object "java/util/Properties"), (.object "java/lang/String"), (.object "java/lang/ModuleLayer")]
  resolved := Array.replicate 834 none
  statics := none }

def pool13 : Array CpInfo := pool [(1, .class_ 2), (0, u "java/lang/String"), (1, .class_ 6), (1, u "java/lang/Object"), (0, u "<init>"), (0, u "()V"), (0, .methodref 1 10), (0, .nameAndType 11 12), (0, u "checkIndex"), (0, u "(II)V"), (1, .class_ 16), (1, u "java/lang/StringLatin1"), (36, u "([BI)C"), (36, u "canEncode"), (14, u "(C)Z"), (15, u "$assertionsDisabled"), (0, u "Z"), (98, .class_ 223), (1, u "java/lang/StringLatin1$LinesSpliterator"), (28, u "charAt"), (28, u "equals"), (0, u "([B[B)Z"), (97, u "toBytes"), (1, u "(C)[B"), (7, .class_ 391), (0, u "java/lang/StringLatin1$CharsSpliterator")] 3

def k13m0 : Method := { name := "<init>", desc := "()V", sig := { parameters := [], returnType := none }, accessFlags := 0, code := none }
def k13c1 : Code := { maxStack := 2, maxLocals := 2, code := jdk_43_method_2_code, exceptionTable := #[], attributes := #[] }
def k13m1 : Method := { name := "charAt", desc := "([BI)C", sig := { parameters := [(.array .byte), .int], returnType := some .char }, accessFlags := 9, code := some k13c1 }
def k13c2 : Code := { maxStack := 2, maxLocals := 1, code := jdk_43_method_3_code, exceptionTable := #[], attributes := #[] }
def k13m2 : Method := { name := "canEncode", desc := "(C)Z", sig := { parameters := [.char], returnType := some .boolean }, accessFlags := 9, code := some k13c2 }
def k13c3 : Code := { maxStack := 3, maxLocals := 3, code := jdk_43_method_13_code, exceptionTable := #[], attributes := #[] }
def k13m3 : Method := { name := "equals", desc := "([B[B)Z", sig := { parameters := [(.array .byte), (.array .byte)], returnType := some .boolean }, accessFlags := 9, code := some k13c3 }
def k13c4 : Code := { maxStack := 4, maxLocals := 1, code := jdk_43_method_46_code, exceptionTable := #[], attributes := #[] }
def k13m4 : Method := { name := "toBytes", desc := "(C)[B", sig := { parameters := [.char], returnType := some (.array .byte) }, accessFlags := 9, code := some k13c4 }
/-- java/lang/StringLatin1 -/
def k13 : Class := { plain "java/lang/StringLatin1" (some 0) with
  accessFlags := 48
  interfaces := #[]
  cf := some (fileOf pool13 14 #[.nestMembers #[390, 221]] #[{ accessFlags := 0, nameIndex := 7, descriptorIndex := 8, attributes := #[] }, { accessFlags := 9, nameIndex := 252, descriptorIndex := 53, attributes := #[] }, { accessFlags := 9, nameIndex := 90, descriptorIndex := 105, attributes := #[] }, { accessFlags := 9, nameIndex := 281, descriptorIndex := 282, attributes := #[] }, { accessFlags := 9, nameIndex := 380, descriptorIndex := 382, attributes := #[] }] 48 4 #[] #[{ accessFlags := 4120, nameIndex := 121, descriptorIndex := 122, attributes := #[] }])
  fields := #[{ name := "$assertionsDisabled", type := .boolean, accessFlags := 4120, slot := 0, constantValue := 0 }]
  methods := #[k13m0, k13m1, k13m2, k13m3, k13m4]
  instanceTypes := #[]
  staticTypes := #[.boolean]
  resolved := Array.replicate 395 none
  statics := none }

def pool14 : Array CpInfo := pool [(2, .class_ 4), (1, u "java/lang/Object"), (0, u "<init>"), (0, u "()V"), (7, .class_ 16), (1, u "java/util/Arrays"), (57, .class_ 76), (1, u "java/util/Arrays$NaturalOrder"), (36, .class_ 115), (1, u "java/util/Arrays$LegacyMergeSort"), (1, u "Z"), (21, u "copyOfRange"), (10, .methodref 151 152), (0, .class_ 153), (0, .nameAndType 154 155), (0, u "java/lang/System"), (0, u "arraycopy"), (0, u "(Ljava/lang/Object;ILjava/lang/Object;II)V"), (148, .methodref 305 306), (0, .class_ 307), (0, .nameAndType 308 309), (0, u "java/lang/Math"), (0, u "min"), (0, u "(II)I"), (29, .methodref 14 340), (0, .nameAndType 341 342), (0, u "copyOfRangeByte"), (0, u "([BII)[B"), (0, .methodref 14 344), (0, .nameAndType 345 346), (0, u "checkLength"), (0, u "(II)V"), (28, .class_ 376), (0, u "java/util/Arrays$ArrayList"), (68, u "$assertionsDisabled"), (269, u "MIN_ARRAY_SORT_GRAN"), (0, u "I"), (2, u "INSERTIONSORT_THRESHOLD"), (255, .class_ 976), (0, u "java/util/Arrays$ArrayItr")] 52

def k14m0 : Method := { name := "<init>", desc := "()V", sig := { parameters := [], returnType := none }, accessFlags := 2, code := none }
def k14c1 : Code := { maxStack := 4, maxLocals := 2, code := jdk_65_method_131_code, exceptionTable := #[], attributes := #[] }
def k14m1 : Method := { name := "checkLength", desc := "(II)V", sig := { parameters := [.int, .int], returnType := none }, accessFlags := 10, code := some k14c1 }
def k14c2 : Code := { maxStack := 3, maxLocals := 3, code := jdk_65_method_132_code, exceptionTable := #[], attributes := #[] }
def k14m2 : Method := { name := "copyOfRange", desc := "([BII)[B", sig := { parameters := [(.array .byte), .int, .int], returnType := some (.array .byte) }, accessFlags := 9, code := some k14c2 }
def k14c3 : Code := { maxStack := 6, maxLocals := 5, code := jdk_65_method_133_code, exceptionTable := #[], attributes := #[] }
def k14m3 : Method := { name := "copyOfRangeByte", desc := "([BII)[B", sig := { parameters := [(.array .byte), .int, .int], returnType := some (.array .byte) }, accessFlags := 10, code := some k14c3 }
/-- java/util/Arrays -/
def k14 : Class := { plain "java/util/Arrays" (some 0) with
  accessFlags := 49
  interfaces := #[]
  cf := some (fileOf pool14 14 #[.nestMembers #[975, 375, 113, 74]] #[{ accessFlags := 2, nameIndex := 5, descriptorIndex := 6, attributes := #[] }, { accessFlags := 10, nameIndex := 345, descriptorIndex := 346, attributes := #[] }, { accessFlags := 9, nameIndex := 139, descriptorIndex := 342, attributes := #[] }, { accessFlags := 10, nameIndex := 341, descriptorIndex := 342, attributes := #[] }] 49 2 #[] #[{ accessFlags := 26, nameIndex := 715, descriptorIndex := 716, attributes := #[] }, { accessFlags := 26, nameIndex := 719, descriptorIndex := 716, attributes := #[] }, { accessFlags := 4120, nameIndex := 445, descriptorIndex := 117, attributes := #[] }])
  fields := #[{ name := "MIN_ARRAY_SORT_GRAN", type := .int, accessFlags := 26, slot := 0, constantValue := 0 }, { name := "INSERTIONSORT_THRESHOLD", type := .int, accessFlags := 26, slot := 1, constantValue := 0 }, { name := "$assertionsDisabled", type := .boolean, accessFlags := 4120, slot := 2, constantValue := 0 }]
  methods := #[k14m0, k14m1, k14m2, k14m3]
  instanceTypes := #[]
  staticTypes := #[.int, .int, .boolean]
  resolved := Array.replicate 1029 none
  statics := none }

def pool15 : Array CpInfo := pool [(1, .class_ 2), (0, u "java/lang/Math"), (1, .class_ 6), (1, u "java/lang/Object"), (0, u "<init>"), (0, u "()V"), (89, .class_ 100), (1, u "java/lang/Math$RandomNumberGeneratorHolder"), (71, u "negativeZeroFloatBits"), (0, u "J"), (2, u "negativeZeroDoubleBits"), (24, u "min"), (43, u "$assertionsDisabled"), (0, u "Z"), (88, u "(II)I"), (2, u "twoToTheDoubleScaleDown"), (0, u "D"), (4, u "twoToTheDoubleScaleUp"), (9, u "E"), (3, u "PI"), (2, u "TAU"), (2, u "DEGREES_TO_RADIANS"), (0, u "RADIANS_TO_DEGREES")] 94

def k15m0 : Method := { name := "<init>", desc := "()V", sig := { parameters := [], returnType := none }, accessFlags := 2, code := none }
def k15c1 : Code := { maxStack := 2, maxLocals := 2, code := jdk_29_method_69_code, exceptionTable := #[], attributes := #[] }
def k15m1 : Method := { name := "min", desc := "(II)I", sig := { parameters := [.int, .int], returnType := some .int }, accessFlags := 9, code := some k15c1 }
/-- java/lang/Math -/
def k15 : Class := { plain "java/lang/Math" (some 0) with
  accessFlags := 49
  interfaces := #[]
  cf := some (fileOf pool15 1 #[.nestMembers #[98]] #[{ accessFlags := 2, nameIndex := 7, descriptorIndex := 8, attributes := #[] }, { accessFlags := 9, nameIndex := 201, descriptorIndex := 335, attributes := #[] }] 49 4 #[] #[{ accessFlags := 25, nameIndex := 354, descriptorIndex := 339, attributes := #[] }, { accessFlags := 25, nameIndex := 358, descriptorIndex := 339, attributes := #[] }, { accessFlags := 25, nameIndex := 361, descriptorIndex := 339, attributes := #[] }, { accessFlags := 26, nameIndex := 364, descriptorIndex := 339, attributes := #[] }, { accessFlags := 26, nameIndex := 365, descriptorIndex := 339, attributes := #[] }, { accessFlags := 26, nameIndex := 172, descriptorIndex := 173, attributes := #[] }, { accessFlags := 26, nameIndex := 176, descriptorIndex := 173, attributes := #[] }, { accessFlags := 8, nameIndex := 344, descriptorIndex := 339, attributes := #[] }, { accessFlags := 8, nameIndex := 338, descriptorIndex := 339, attributes := #[] }, { accessFlags := 4120, nameIndex := 245, descriptorIndex := 246, attributes := #[] }])
  fields := #[{ name := "E", type := .double, accessFlags := 25, slot := 0, constantValue := 0 }, { name := "PI", type := .double, accessFlags := 25, slot := 1, constantValue := 0 }, { name := "TAU", type := .double, accessFlags := 25, slot := 2, constantValue := 0 }, { name := "DEGREES_TO_RADIANS", type := .double, accessFlags := 26, slot := 3, constantValue := 0 }, { name := "RADIANS_TO_DEGREES", type := .double, accessFlags := 26, slot := 4, constantValue := 0 }, { name := "negativeZeroFloatBits", type := .long, accessFlags := 26, slot := 5, constantValue := 0 }, { name := "negativeZeroDoubleBits", type := .long, accessFlags := 26, slot := 6, constantValue := 0 }, { name := "twoToTheDoubleScaleUp", type := .double, accessFlags := 8, slot := 7, constantValue := 0 }, { name := "twoToTheDoubleScaleDown", type := .double, accessFlags := 8, slot := 8, constantValue := 0 }, { name := "$assertionsDisabled", type := .boolean, accessFlags := 4120, slot := 9, constantValue := 0 }]
  methods := #[k15m0, k15m1]
  instanceTypes := #[]
  staticTypes := #[.double, .double, .double, .double, .double, .long, .long, .double, .double, .boolean]
  resolved := Array.replicate 460 none
  statics := none }

def pool16 : Array CpInfo := pool [(2, .class_ 4), (1, u "java/lang/Object"), (0, u "<init>"), (0, u "()V"), (17, .class_ 26), (1, u "jdk/internal/util/Preconditions"), (6, u "checkIndex"), (21, .class_ 56), (0, u "jdk/internal/util/Preconditions$4"), (57, .class_ 115), (0, u "jdk/internal/util/Preconditions$1"), (7, u "SIOOBE_FORMATTER"), (0, u "Ljava/util/function/BiFunction;"), (0, .class_ 126), (0, u "jdk/internal/util/Preconditions$2"), (3, u "AIOOBE_FORMATTER"), (0, .class_ 132), (0, u "jdk/internal/util/Preconditions$3"), (3, u "IOOBE_FORMATTER"), (41, u "(IILjava/util/function/BiFunction;)I")] 15

def k16m0 : Method := { name := "<init>", desc := "()V", sig := { parameters := [], returnType := none }, accessFlags := 1, code := none }
def k16c1 : Code := { maxStack := 3, maxLocals := 3, code := jdk_41_method_11_code, exceptionTable := #[], attributes := #[] }
def k16m1 : Method := { name := "checkIndex", desc := "(IILjava/util/function/BiFunction;)I", sig := { parameters := [.int, .int, (.object "java/util/function/BiFunction")], returnType := some .int }, accessFlags := 9, code := some k16c1 }
/-- jdk/internal/util/Preconditions -/
def k16 : Class := { plain "jdk/internal/util/Preconditions" (some 0) with
  accessFlags := 33
  interfaces := #[]
  cf := some (fileOf pool16 24 #[.nestMembers #[55, 131, 125, 114]] #[{ accessFlags := 1, nameIndex := 5, descriptorIndex := 6, attributes := #[] }, { accessFlags := 9, nameIndex := 33, descriptorIndex := 178, attributes := #[] }] 33 2 #[] #[{ accessFlags := 25, nameIndex := 123, descriptorIndex := 124, attributes := #[] }, { accessFlags := 25, nameIndex := 130, descriptorIndex := 124, attributes := #[] }, { accessFlags := 25, nameIndex := 136, descriptorIndex := 124, attributes := #[] }])
  fields := #[{ name := "SIOOBE_FORMATTER", type := (.object "java/util/function/BiFunction"), accessFlags := 25, slot := 0, constantValue := 0 }, { name := "AIOOBE_FORMATTER", type := (.object "java/util/function/BiFunction"), accessFlags := 25, slot := 1, constantValue := 0 }, { name := "IOOBE_FORMATTER", type := (.object "java/util/function/BiFunction"), accessFlags := 25, slot := 2, constantValue := 0 }]
  methods := #[k16m0, k16m1]
  instanceTypes := #[]
  staticTypes := #[(.object "java/util/function/BiFunction"), (.object "java/util/function/BiFunction"), (.object "java/util/function/BiFunction")]
  resolved := Array.replicate 194 none
  statics := some 1 }

def pool17 : Array CpInfo := pool [(9, u "<init>"), (6, .class_ 18), (1, u "java/lang/Object"), (0, u "()V"), (1, .class_ 23), (1, u "jdk/internal/util/ArraysSupport"), (0, u "LOG2_ARRAY_LONG_INDEX_SCALE"), (0, u "I"), (2, u "U"), (0, u "Ljdk/internal/misc/Unsafe;"), (8, u "BIG_ENDIAN"), (0, u "Z"), (8, u "LOG2_BYTE_BIT_SIZE"), (4, u "LOG2_ARRAY_INT_INDEX_SCALE"), (54, u "JLA"), (0, u "Ljdk/internal/access/JavaLangAccess;"), (11, u "LOG2_ARRAY_BOOLEAN_INDEX_SCALE"), (9, u "LOG2_ARRAY_BYTE_INDEX_SCALE"), (5, u "LOG2_ARRAY_CHAR_INDEX_SCALE"), (5, u "LOG2_ARRAY_SHORT_INDEX_SCALE"), (18, u "LOG2_ARRAY_FLOAT_INDEX_SCALE"), (24, u "LOG2_ARRAY_DOUBLE_INDEX_SCALE"), (89, u "T_BOOLEAN"), (2, u "T_CHAR"), (1, u "T_FLOAT"), (1, u "T_DOUBLE"), (1, u "T_BYTE"), (1, u "T_SHORT"), (1, u "T_INT"), (1, u "T_LONG"), (1, u "SOFT_MAX_ARRAY_LENGTH")] 83

def k17m0 : Method := { name := "<init>", desc := "()V", sig := { parameters := [], returnType := none }, accessFlags := 2, code := none }
/-- jdk/internal/util/ArraysSupport -/
def k17 : Class := { plain "jdk/internal/util/ArraysSupport" (some 0) with
  accessFlags := 33
  interfaces := #[]
  cf := some (fileOf pool17 21 #[] #[{ accessFlags := 2, nameIndex := 9, descriptorIndex := 19, attributes := #[] }] 33 16 #[] #[{ accessFlags := 24, nameIndex := 28, descriptorIndex := 29, attributes := #[] }, { accessFlags := 26, nameIndex := 38, descriptorIndex := 39, attributes := #[] }, { accessFlags := 25, nameIndex := 121, descriptorIndex := 25, attributes := #[] }, { accessFlags := 25, nameIndex := 131, descriptorIndex := 25, attributes := #[] }, { accessFlags := 25, nameIndex := 137, descriptorIndex := 25, attributes := #[] }, { accessFlags := 25, nameIndex := 143, descriptorIndex := 25, attributes := #[] }, { accessFlags := 25, nameIndex := 53, descriptorIndex := 25, attributes := #[] }, { accessFlags := 25, nameIndex := 24, descriptorIndex := 25, attributes := #[] }, { accessFlags := 25, nameIndex := 162, descriptorIndex := 25, attributes := #[] }, { accessFlags := 25, nameIndex := 187, descriptorIndex := 25, attributes := #[] }, { accessFlags := 26, nameIndex := 48, descriptorIndex := 25, attributes := #[] }, { accessFlags := 25, nameIndex := 277, descriptorIndex := 25, attributes := #[] }, { accessFlags := 25, nameIndex := 280, descriptorIndex := 25, attributes := #[] }, { accessFlags := 25, nameIndex := 282, descriptorIndex := 25, attributes := #[] }, { accessFlags := 25, nameIndex := 284, descriptorIndex := 25, attributes := #[] }, { accessFlags := 25, nameIndex := 286, descriptorIndex := 25, attributes := #[] }, { accessFlags := 25, nameIndex := 288, descriptorIndex := 25, attributes := #[] }, { accessFlags := 25, nameIndex := 290, descriptorIndex := 25, attributes := #[] }, { accessFlags := 25, nameIndex := 292, descriptorIndex := 25, attributes := #[] }, { accessFlags := 26, nameIndex := 108, descriptorIndex := 109, attributes := #[] }, { accessFlags := 25, nameIndex := 294, descriptorIndex := 25, attributes := #[] }])
  fields := #[{ name := "U", type := (.object "jdk/internal/misc/Unsafe"), accessFlags := 24, slot := 0, constantValue := 0 }, { name := "BIG_ENDIAN", type := .boolean, accessFlags := 26, slot := 1, constantValue := 0 }, { name := "LOG2_ARRAY_BOOLEAN_INDEX_SCALE", type := .int, accessFlags := 25, slot := 2, constantValue := 0 }, { name := "LOG2_ARRAY_BYTE_INDEX_SCALE", type := .int, accessFlags := 25, slot := 3, constantValue := 0 }, { name := "LOG2_ARRAY_CHAR_INDEX_SCALE", type := .int, accessFlags := 25, slot := 4, constantValue := 0 }, { name := "LOG2_ARRAY_SHORT_INDEX_SCALE", type := .int, accessFlags := 25, slot := 5, constantValue := 0 }, { name := "LOG2_ARRAY_INT_INDEX_SCALE", type := .int, accessFlags := 25, slot := 6, constantValue := 0 }, { name := "LOG2_ARRAY_LONG_INDEX_SCALE", type := .int, accessFlags := 25, slot := 7, constantValue := 0 }, { name := "LOG2_ARRAY_FLOAT_INDEX_SCALE", type := .int, accessFlags := 25, slot := 8, constantValue := 0 }, { name := "LOG2_ARRAY_DOUBLE_INDEX_SCALE", type := .int, accessFlags := 25, slot := 9, constantValue := 0 }, { name := "LOG2_BYTE_BIT_SIZE", type := .int, accessFlags := 26, slot := 10, constantValue := 0 }, { name := "T_BOOLEAN", type := .int, accessFlags := 25, slot := 11, constantValue := 0 }, { name := "T_CHAR", type := .int, accessFlags := 25, slot := 12, constantValue := 0 }, { name := "T_FLOAT", type := .int, accessFlags := 25, slot := 13, constantValue := 0 }, { name := "T_DOUBLE", type := .int, accessFlags := 25, slot := 14, constantValue := 0 }, { name := "T_BYTE", type := .int, accessFlags := 25, slot := 15, constantValue := 0 }, { name := "T_SHORT", type := .int, accessFlags := 25, slot := 16, constantValue := 0 }, { name := "T_INT", type := .int, accessFlags := 25, slot := 17, constantValue := 0 }, { name := "T_LONG", type := .int, accessFlags := 25, slot := 18, constantValue := 0 }, { name := "JLA", type := (.object "jdk/internal/access/JavaLangAccess"), accessFlags := 26, slot := 19, constantValue := 0 }, { name := "SOFT_MAX_ARRAY_LENGTH", type := .int, accessFlags := 25, slot := 20, constantValue := 0 }]
  methods := #[k17m0]
  instanceTypes := #[]
  staticTypes := #[(.object "jdk/internal/misc/Unsafe"), .boolean, .int, .int, .int, .int, .int, .int, .int, .int, .int, .int, .int, .int, .int, .int, .int, .int, .int, (.object "jdk/internal/access/JavaLangAccess"), .int]
  resolved := Array.replicate 378 none
  statics := none }

def pool18 : Array CpInfo := pool [(1, u "java/lang/Cloneable"), (0, .class_ 1), (0, u "java/lang/Object"), (0, .class_ 3)] 3

/-- java/lang/Cloneable -/
def k18 : Class := { plain "java/lang/Cloneable" (some 0) with
  accessFlags := 1537
  interfaces := #[]
  cf := some (fileOf pool18 2 #[] #[] 1537 4 #[] #[])
  fields := #[]
  methods := #[]
  instanceTypes := #[]
  staticTypes := #[]
  resolved := Array.replicate 8 none
  statics := none }

/-- the primitive byte -/
def k19 : Class := { plain "byte" none with kind := .primitive 'B', accessFlags := 0x411 }
/-- [B -/
def k20 : Class := { plain "[B" (some 0) with kind := .array 19 .byte, interfaces := #[18, 6], accessFlags := 1041 }

/-- the primitive int -/
def k21 : Class := { plain "int" none with kind := .primitive 'I', accessFlags := 0x411 }
/-- [I -/
def k22 : Class := { plain "[I" (some 0) with kind := .array 21 .int, interfaces := #[18, 6], accessFlags := 1041 }

def heap : Heap := #[{ cls := 11, slots := #[.long 0, .int 1, .null, .int 0, .null, .int 0, .int 0], vm := .statics 11 },
  { cls := 16, slots := #[.null, .null, .null], vm := .statics 16 }]
def classes : Array Class := #[k0, k1, k2, k3, k4, k5, k6, k7, k8, k9, k10, k11, k12, k13, k14, k15, k16, k17, k18, k19, k20, k21, k22]
def interned : List (Array UInt16 × Addr) := []
def slotsUsed : Nat := 10
def theMethod : MethodId := ⟨1, 1⟩
def args0 : Array Value := #[.int 3]
def aboutOver (below : List Frame) : State where
  vm := { classes := classes, interned := interned.toArray }
  heap := heap
  slotsUsed := slotsUsed
  threads := #[{ frames := .invoking theMethod args0 :: below }]
def below0 : List Frame := [.native { method := ⟨0, 0⟩, args := #[] }]
def about1 : State := aboutOver below0
def p0 : Program := .bare "" "" ""
def e0 : Env := launch0.env 0 0 0
theorem w_frames : about1.frames = Frame.invoking theMethod args0 :: below0 := rfl
set_option maxRecDepth 65536 in
theorem w_args : argsFit about1.vm theMethod args0 = true := by decide +kernel
set_option maxRecDepth 65536 in
theorem w_heap : heapFits about1 = true := by decide +kernel
set_option maxRecDepth 65536 in
theorem w_runnable : about1.curStatus? = some .runnable := by decide +kernel
set_option maxRecDepth 65536 in
theorem w_alone : about1.alone = true := by decide +kernel
set_option maxRecDepth 65536 in
theorem w_named : about1.methodNamed? x = some theMethod := by decide +kernel
set_option maxRecDepth 65536 in
theorem w_hears : about1.hears theMethod below0 = true := by decide +kernel
set_option maxRecDepth 65536 in
theorem w_ripe : about1.ripe theMethod args0 below0 = true := by decide +kernel
theorem w_running : about1.status = .running := rfl
set_option maxRecDepth 65536 in
theorem w_room : about1.hasRoom e0.platform room_1 = true :=
  launch0.hasRoom_least _ room_1 (by decide +kernel) (by decide +kernel) (by decide +kernel) (by decide +kernel) (by decide +kernel) (by decide +kernel)
theorem allAtoms_all (ts : List Jvm.Cond) (a : Array Jvm.Value) (st : Jvm.State) : (allAtoms ts).before a st = ts.all (fun c => c.before a st) := by
  induction ts with
  | nil => rfl
  | cons c t ih =>
    show (Jvm.Cond.and c (allAtoms t)).before a st = _
    rw [Jvm.Cond.before_and, ih, List.all_cons]
def words1 : List Jvm.Cond := Jvm.Cond.code x code maxLocals ret :: tables_1
/-- a 'code' word, met by the world's own term for the bytes: nothing is compared byte by byte -/
theorem code_word {y : MethodName} {bytes : ByteArray} {mx : Nat} {rt : Option FieldType} {a : Array Value} {s : State} {m : MethodId} {meth : Method} {c : Code} (h1 : s.methodNamed? y = some m) (h2 : s.vm.method? m = some meth) (h3 : meth.code = some c) (h4 : c.code = bytes)
    (h5 : (c.maxLocals == mx && c.exceptionTable.isEmpty && decide (c.maxStack ≤ mostOperands) && decide (meth.sig.returnType = rt) && !meth.locks && decide (parseMethodDescriptor y.desc = some meth.sig)) = true) : (Jvm.Cond.code y bytes mx rt).before a s = true := by
  simp only [Bool.and_eq_true, beq_iff_eq, Bool.not_eq_true', decide_eq_true_eq] at h5
  obtain ⟨⟨⟨⟨⟨g1, g2⟩, g3⟩, g4⟩, g5⟩, g6⟩ := h5
  simp [Cond.before, Cond.holds, Cond.value, h1, h2, h3, h4, g1, g2, g3, g4, g5, g6]
def isCode : Jvm.Cond → Bool
  | .code _ _ _ _ => true
  | _ => false
theorem all_split {L : List Jvm.Cond} {P : Jvm.Cond → Bool} (h1 : L.all (fun c => isCode c || P c) = true) (h2 : ∀ c ∈ L.filter isCode, P c = true) : L.all P = true := by
  refine List.all_eq_true.mpr fun c hc => ?_
  have h := List.all_eq_true.mp h1 c hc
  rcases Bool.eq_false_or_eq_true (isCode c) with hi | hi
  · exact h2 c (List.mem_filter.mpr ⟨hc, hi⟩)
  · simpa [hi] using h
set_option maxRecDepth 65536 in
theorem w_c0 : (Jvm.Cond.code x code maxLocals ret).before args0 about1 = true := code_word (m := ⟨1, 1⟩) (meth := k1m1) (c := k1c1) (by decide +kernel) rfl rfl rfl (by decide +kernel)
set_option maxRecDepth 65536 in
theorem w_c1 : (Jvm.Cond.code ({ cls := "latentrace/io/JsonWriter", name := "<init>", desc := "()V" } : Jvm.MethodName) prog_20_method_1_code (1 : Nat) (Option.none : Option Jvm.ClassFile.FieldType)).before args0 about1 = true := code_word (m := ⟨2, 0⟩) (meth := k2m0) (c := k2c0) (by decide +kernel) rfl rfl rfl (by decide +kernel)
set_option maxRecDepth 65536 in
theorem w_c2 : (Jvm.Cond.code ({ cls := "java/lang/Object", name := "<init>", desc := "()V" } : Jvm.MethodName) object_method_1_code (1 : Nat) (Option.none : Option Jvm.ClassFile.FieldType)).before args0 about1 = true := code_word (m := ⟨0, 0⟩) (meth := k0m0) (c := k0c0) (by decide +kernel) rfl rfl rfl (by decide +kernel)
set_option maxRecDepth 65536 in
theorem w_c3 : (Jvm.Cond.code ({ cls := "java/lang/StringBuilder", name := "<init>", desc := "()V" } : Jvm.MethodName) jdk_67_method_1_code (1 : Nat) (Option.none : Option Jvm.ClassFile.FieldType)).before args0 about1 = true := code_word (m := ⟨8, 0⟩) (meth := k8m0) (c := k8c0) (by decide +kernel) rfl rfl rfl (by decide +kernel)
set_option maxRecDepth 65536 in
theorem w_c4 : (Jvm.Cond.code ({ cls := "java/lang/AbstractStringBuilder", name := "<init>", desc := "(I)V" } : Jvm.MethodName) jdk_68_method_2_code (2 : Nat) (Option.none : Option Jvm.ClassFile.FieldType)).before args0 about1 = true := code_word (m := ⟨5, 1⟩) (meth := k5m1) (c := k5c1) (by decide +kernel) rfl rfl rfl (by decide +kernel)
set_option maxRecDepth 65536 in
theorem w_c5 : (Jvm.Cond.code ({ cls := "latentrace/io/JsonWriter", name := "nullValue", desc := "()Llatentrace/io/JsonWriter;" } : Jvm.MethodName) prog_20_method_11_code (1 : Nat) (Option.some (Jvm.ClassFile.FieldType.object "latentrace/io/JsonWriter"))).before args0 about1 = true := code_word (m := ⟨2, 5⟩) (meth := k2m5) (c := k2c5) (by decide +kernel) rfl rfl rfl (by decide +kernel)
set_option maxRecDepth 65536 in
theorem w_c6 : (Jvm.Cond.code ({ cls := "latentrace/io/JsonWriter", name := "separate", desc := "()V" } : Jvm.MethodName) prog_20_method_15_code (1 : Nat) (Option.none : Option Jvm.ClassFile.FieldType)).before args0 about1 = true := code_word (m := ⟨2, 9⟩) (meth := k2m9) (c := k2c9) (by decide +kernel) rfl rfl rfl (by decide +kernel)
set_option maxRecDepth 65536 in
theorem w_c7 : (Jvm.Cond.code ({ cls := "java/lang/StringBuilder", name := "append", desc := "(Ljava/lang/String;)Ljava/lang/StringBuilder;" } : Jvm.MethodName) jdk_67_method_7_code (2 : Nat) (Option.some (Jvm.ClassFile.FieldType.object "java/lang/StringBuilder"))).before args0 about1 = true := code_word (m := ⟨8, 1⟩) (meth := k8m1) (c := k8c1) (by decide +kernel) rfl rfl rfl (by decide +kernel)
set_option maxRecDepth 65536 in
theorem w_c8 : (Jvm.Cond.code ({ cls := "java/lang/AbstractStringBuilder", name := "append", desc := "(Ljava/lang/String;)Ljava/lang/AbstractStringBuilder;" } : Jvm.MethodName) jdk_68_method_22_code (3 : Nat) (Option.some (Jvm.ClassFile.FieldType.object "java/lang/AbstractStringBuilder"))).before args0 about1 = true := code_word (m := ⟨5, 4⟩) (meth := k5m4) (c := k5c4) (by decide +kernel) rfl rfl rfl (by decide +kernel)
set_option maxRecDepth 65536 in
theorem w_c9 : (Jvm.Cond.code ({ cls := "java/lang/String", name := "length", desc := "()I" } : Jvm.MethodName) jdk_42_method_54_code (1 : Nat) (Option.some Jvm.ClassFile.FieldType.int)).before args0 about1 = true := code_word (m := ⟨11, 2⟩) (meth := k11m2) (c := k11c2) (by decide +kernel) rfl rfl rfl (by decide +kernel)
set_option maxRecDepth 65536 in
theorem w_c10 : (Jvm.Cond.code ({ cls := "java/lang/String", name := "coder", desc := "()B" } : Jvm.MethodName) jdk_42_method_152_code (1 : Nat) (Option.some Jvm.ClassFile.FieldType.byte)).before args0 about1 = true := code_word (m := ⟨11, 9⟩) (meth := k11m9) (c := k11c9) (by decide +kernel) rfl rfl rfl (by decide +kernel)
set_option maxRecDepth 65536 in
theorem w_c11 : (Jvm.Cond.code ({ cls := "java/lang/AbstractStringBuilder", name := "ensureCapacityInternal", desc := "(I)V" } : Jvm.MethodName) jdk_68_method_9_code (3 : Nat) (Option.none : Option Jvm.ClassFile.FieldType)).before args0 about1 = true := code_word (m := ⟨5, 3⟩) (meth := k5m3) (c := k5c3) (by decide +kernel) rfl rfl rfl (by decide +kernel)
set_option maxRecDepth 65536 in
theorem w_c12 : (Jvm.Cond.code ({ cls := "java/lang/AbstractStringBuilder", name := "putStringAt", desc := "(ILjava/lang/String;)V" } : Jvm.MethodName) jdk_68_method_73_code (3 : Nat) (Option.none : Option Jvm.ClassFile.FieldType)).before args0 about1 = true := code_word (m := ⟨5, 9⟩) (meth := k5m9) (c := k5c9) (by decide +kernel) rfl rfl rfl (by decide +kernel)
set_option maxRecDepth 65536 in
theorem w_c13 : (Jvm.Cond.code ({ cls := "java/lang/AbstractStringBuilder", name := "inflateIfNeededFor", desc := "(Ljava/lang/String;)V" } : Jvm.MethodName) jdk_68_method_71_code (2 : Nat) (Option.none : Option Jvm.ClassFile.FieldType)).before args0 about1 = true := code_word (m := ⟨5, 8⟩) (meth := k5m8) (c := k5c8) (by decide +kernel) rfl rfl rfl (by decide +kernel)
set_option maxRecDepth 65536 in
theorem w_c14 : (Jvm.Cond.code ({ cls := "java/lang/String", name := "getBytes", desc := "([BIB)V" } : Jvm.MethodName) jdk_42_method_147_code (4 : Nat) (Option.none : Option Jvm.ClassFile.FieldType)).before args0 about1 = true := code_word (m := ⟨11, 6⟩) (meth := k11m6) (c := k11c6) (by decide +kernel) rfl rfl rfl (by decide +kernel)
set_option maxRecDepth 65536 in
theorem w_c15 : (Jvm.Cond.code ({ cls := "java/lang/StringBuilder", name := "append", desc := "(C)Ljava/lang/StringBuilder;" } : Jvm.MethodName) jdk_67_method_14_code (2 : Nat) (Option.some (Jvm.ClassFile.FieldType.object "java/lang/StringBuilder"))).before args0 about1 = true := code_word (m := ⟨8, 2⟩) (meth := k8m2) (c := k8c2) (by decide +kernel) rfl rfl rfl (by decide +kernel)
set_option maxRecDepth 65536 in
theorem w_c16 : (Jvm.Cond.code ({ cls := "java/lang/AbstractStringBuilder", name := "append", desc := "(C)Ljava/lang/AbstractStringBuilder;" } : Jvm.MethodName) jdk_68_method_31_code (2 : Nat) (Option.some (Jvm.ClassFile.FieldType.object "java/lang/AbstractStringBuilder"))).before args0 about1 = true := code_word (m := ⟨5, 5⟩) (meth := k5m5) (c := k5c5) (by decide +kernel) rfl rfl rfl (by decide +kernel)
set_option maxRecDepth 65536 in
theorem w_c17 : (Jvm.Cond.code ({ cls := "java/lang/AbstractStringBuilder", name := "isLatin1", desc := "()Z" } : Jvm.MethodName) jdk_68_method_68_code (1 : Nat) (Option.some Jvm.ClassFile.FieldType.boolean)).before args0 about1 = true := code_word (m := ⟨5, 7⟩) (meth := k5m7) (c := k5c7) (by decide +kernel) rfl rfl rfl (by decide +kernel)
set_option maxRecDepth 65536 in
theorem w_c18 : (Jvm.Cond.code ({ cls := "java/lang/StringLatin1", name := "canEncode", desc := "(C)Z" } : Jvm.MethodName) jdk_43_method_3_code (1 : Nat) (Option.some Jvm.ClassFile.FieldType.boolean)).before args0 about1 = true := code_word (m := ⟨13, 2⟩) (meth := k13m2) (c := k13c2) (by decide +kernel) rfl rfl rfl (by decide +kernel)
set_option maxRecDepth 65536 in
theorem w_c19 : (Jvm.Cond.code ({ cls := "latentrace/io/JsonWriter", name := "toString", desc := "()Ljava/lang/String;" } : Jvm.MethodName) prog_20_method_12_code (1 : Nat) (Option.some (Jvm.ClassFile.FieldType.object "java/lang/String"))).before args0 about1 = true := code_word (m := ⟨2, 6⟩) (meth := k2m6) (c := k2c6) (by decide +kernel) rfl rfl rfl (by decide +kernel)
set_option maxRecDepth 65536 in
theorem w_c20 : (Jvm.Cond.code ({ cls := "java/lang/StringBuilder", name := "toString", desc := "()Ljava/lang/String;" } : Jvm.MethodName) jdk_67_method_42_code (1 : Nat) (Option.some (Jvm.ClassFile.FieldType.object "java/lang/String"))).before args0 about1 = true := code_word (m := ⟨8, 3⟩) (meth := k8m3) (c := k8c3) (by decide +kernel) rfl rfl rfl (by decide +kernel)
set_option maxRecDepth 65536 in
theorem w_c21 : (Jvm.Cond.code ({ cls := "java/lang/String", name := "<init>", desc := "(Ljava/lang/StringBuilder;)V" } : Jvm.MethodName) jdk_42_method_53_code (2 : Nat) (Option.none : Option Jvm.ClassFile.FieldType)).before args0 about1 = true := code_word (m := ⟨11, 1⟩) (meth := k11m1) (c := k11c1) (by decide +kernel) rfl rfl rfl (by decide +kernel)
set_option maxRecDepth 65536 in
theorem w_c22 : (Jvm.Cond.code ({ cls := "java/lang/String", name := "<init>", desc := "(Ljava/lang/AbstractStringBuilder;Ljava/lang/Void;)V" } : Jvm.MethodName) jdk_42_method_150_code (5 : Nat) (Option.none : Option Jvm.ClassFile.FieldType)).before args0 about1 = true := code_word (m := ⟨11, 7⟩) (meth := k11m7) (c := k11c7) (by decide +kernel) rfl rfl rfl (by decide +kernel)
set_option maxRecDepth 65536 in
theorem w_c23 : (Jvm.Cond.code ({ cls := "java/lang/AbstractStringBuilder", name := "getValue", desc := "()[B" } : Jvm.MethodName) jdk_68_method_64_code (1 : Nat) (Option.some (Jvm.ClassFile.FieldType.array Jvm.ClassFile.FieldType.byte))).before args0 about1 = true := code_word (m := ⟨5, 6⟩) (meth := k5m6) (c := k5c6) (by decide +kernel) rfl rfl rfl (by decide +kernel)
set_option maxRecDepth 65536 in
theorem w_c24 : (Jvm.Cond.code ({ cls := "java/lang/StringBuilder", name := "length", desc := "()I" } : Jvm.MethodName) jdk_67_method_93_code (1 : Nat) (Option.some Jvm.ClassFile.FieldType.int)).before args0 about1 = true := code_word (m := ⟨8, 4⟩) (meth := k8m4) (c := k8c4) (by decide +kernel) rfl rfl rfl (by decide +kernel)
set_option maxRecDepth 65536 in
theorem w_c25 : (Jvm.Cond.code ({ cls := "java/lang/AbstractStringBuilder", name := "length", desc := "()I" } : Jvm.MethodName) jdk_68_method_6_code (1 : Nat) (Option.some Jvm.ClassFile.FieldType.int)).before args0 about1 = true := code_word (m := ⟨5, 2⟩) (meth := k5m2) (c := k5c2) (by decide +kernel) rfl rfl rfl (by decide +kernel)
set_option maxRecDepth 65536 in
theorem w_c26 : (Jvm.Cond.code ({ cls := "java/util/Arrays", name := "copyOfRange", desc := "([BII)[B" } : Jvm.MethodName) jdk_65_method_132_code (3 : Nat) (Option.some (Jvm.ClassFile.FieldType.array Jvm.ClassFile.FieldType.byte))).before args0 about1 = true := code_word (m := ⟨14, 2⟩) (meth := k14m2) (c := k14c2) (by decide +kernel) rfl rfl rfl (by decide +kernel)
set_option maxRecDepth 65536 in
theorem w_c27 : (Jvm.Cond.code ({ cls := "java/util/Arrays", name := "copyOfRangeByte", desc := "([BII)[B" } : Jvm.MethodName) jdk_65_method_133_code (5 : Nat) (Option.some (Jvm.ClassFile.FieldType.array Jvm.ClassFile.FieldType.byte))).before args0 about1 = true := code_word (m := ⟨14, 3⟩) (meth := k14m3) (c := k14c3) (by decide +kernel) rfl rfl rfl (by decide +kernel)
set_option maxRecDepth 65536 in
theorem w_c28 : (Jvm.Cond.code ({ cls := "java/util/Arrays", name := "checkLength", desc := "(II)V" } : Jvm.MethodName) jdk_65_method_131_code (2 : Nat) (Option.none : Option Jvm.ClassFile.FieldType)).before args0 about1 = true := code_word (m := ⟨14, 1⟩) (meth := k14m1) (c := k14c1) (by decide +kernel) rfl rfl rfl (by decide +kernel)
set_option maxRecDepth 65536 in
theorem w_c29 : (Jvm.Cond.code ({ cls := "java/lang/Math", name := "min", desc := "(II)I" } : Jvm.MethodName) jdk_29_method_69_code (2 : Nat) (Option.some Jvm.ClassFile.FieldType.int)).before args0 about1 = true := code_word (m := ⟨15, 1⟩) (meth := k15m1) (c := k15c1) (by decide +kernel) rfl rfl rfl (by decide +kernel)
set_option maxRecDepth 65536 in
theorem w_c30 : (Jvm.Cond.code ({ cls := "java/lang/String", name := "equals", desc := "(Ljava/lang/Object;)Z" } : Jvm.MethodName) jdk_42_method_66_code (3 : Nat) (Option.some Jvm.ClassFile.FieldType.boolean)).before args0 about1 = true := code_word (m := ⟨11, 4⟩) (meth := k11m4) (c := k11c4) (by decide +kernel) rfl rfl rfl (by decide +kernel)
set_option maxRecDepth 65536 in
theorem w_c31 : (Jvm.Cond.code ({ cls := "java/lang/StringLatin1", name := "equals", desc := "([B[B)Z" } : Jvm.MethodName) jdk_43_method_13_code (3 : Nat) (Option.some Jvm.ClassFile.FieldType.boolean)).before args0 about1 = true := code_word (m := ⟨13, 3⟩) (meth := k13m3) (c := k13c3) (by decide +kernel) rfl rfl rfl (by decide +kernel)
set_option maxRecDepth 65536 in
theorem w_c32 : (Jvm.Cond.code ({ cls := "latentrace/io/JsonWriter", name := "beginObject", desc := "()Llatentrace/io/JsonWriter;" } : Jvm.MethodName) prog_20_method_2_code (1 : Nat) (Option.some (Jvm.ClassFile.FieldType.object "latentrace/io/JsonWriter"))).before args0 about1 = true := code_word (m := ⟨2, 1⟩) (meth := k2m1) (c := k2c1) (by decide +kernel) rfl rfl rfl (by decide +kernel)
set_option maxRecDepth 65536 in
theorem w_c33 : (Jvm.Cond.code ({ cls := "latentrace/io/JsonWriter", name := "open", desc := "(C)Llatentrace/io/JsonWriter;" } : Jvm.MethodName) prog_20_method_13_code (2 : Nat) (Option.some (Jvm.ClassFile.FieldType.object "latentrace/io/JsonWriter"))).before args0 about1 = true := code_word (m := ⟨2, 7⟩) (meth := k2m7) (c := k2c7) (by decide +kernel) rfl rfl rfl (by decide +kernel)
set_option maxRecDepth 65536 in
theorem w_c34 : (Jvm.Cond.code ({ cls := "latentrace/io/JsonWriter", name := "name", desc := "(Ljava/lang/String;)Llatentrace/io/JsonWriter;" } : Jvm.MethodName) prog_20_method_6_code (2 : Nat) (Option.some (Jvm.ClassFile.FieldType.object "latentrace/io/JsonWriter"))).before args0 about1 = true := code_word (m := ⟨2, 4⟩) (meth := k2m4) (c := k2c4) (by decide +kernel) rfl rfl rfl (by decide +kernel)
set_option maxRecDepth 65536 in
theorem w_c35 : (Jvm.Cond.code ({ cls := "latentrace/io/JsonWriter", name := "quote", desc := "(Ljava/lang/String;)V" } : Jvm.MethodName) prog_20_method_16_code (4 : Nat) (Option.none : Option Jvm.ClassFile.FieldType)).before args0 about1 = true := code_word (m := ⟨2, 10⟩) (meth := k2m10) (c := k2c10) (by decide +kernel) rfl rfl rfl (by decide +kernel)
set_option maxRecDepth 65536 in
theorem w_c36 : (Jvm.Cond.code ({ cls := "java/lang/String", name := "charAt", desc := "(I)C" } : Jvm.MethodName) jdk_42_method_56_code (2 : Nat) (Option.some Jvm.ClassFile.FieldType.char)).before args0 about1 = true := code_word (m := ⟨11, 3⟩) (meth := k11m3) (c := k11c3) (by decide +kernel) rfl rfl rfl (by decide +kernel)
set_option maxRecDepth 65536 in
theorem w_c37 : (Jvm.Cond.code ({ cls := "java/lang/String", name := "isLatin1", desc := "()Z" } : Jvm.MethodName) jdk_42_method_154_code (1 : Nat) (Option.some Jvm.ClassFile.FieldType.boolean)).before args0 about1 = true := code_word (m := ⟨11, 10⟩) (meth := k11m10) (c := k11c10) (by decide +kernel) rfl rfl rfl (by decide +kernel)
set_option maxRecDepth 65536 in
theorem w_c38 : (Jvm.Cond.code ({ cls := "java/lang/StringLatin1", name := "charAt", desc := "([BI)C" } : Jvm.MethodName) jdk_43_method_2_code (2 : Nat) (Option.some Jvm.ClassFile.FieldType.char)).before args0 about1 = true := code_word (m := ⟨13, 1⟩) (meth := k13m1) (c := k13c1) (by decide +kernel) rfl rfl rfl (by decide +kernel)
set_option maxRecDepth 65536 in
theorem w_c39 : (Jvm.Cond.code ({ cls := "java/lang/String", name := "checkIndex", desc := "(II)V" } : Jvm.MethodName) jdk_42_method_155_code (2 : Nat) (Option.none : Option Jvm.ClassFile.FieldType)).before args0 about1 = true := code_word (m := ⟨11, 11⟩) (meth := k11m11) (c := k11c11) (by decide +kernel) rfl rfl rfl (by decide +kernel)
set_option maxRecDepth 65536 in
theorem w_c40 : (Jvm.Cond.code ({ cls := "jdk/internal/util/Preconditions", name := "checkIndex", desc := "(IILjava/util/function/BiFunction;)I" } : Jvm.MethodName) jdk_41_method_11_code (3 : Nat) (Option.some Jvm.ClassFile.FieldType.int)).before args0 about1 = true := code_word (m := ⟨16, 1⟩) (meth := k16m1) (c := k16c1) (by decide +kernel) rfl rfl rfl (by decide +kernel)
set_option maxRecDepth 65536 in
theorem w_c41 : (Jvm.Cond.code ({ cls := "java/lang/String", name := "valueOf", desc := "(C)Ljava/lang/String;" } : Jvm.MethodName) jdk_42_method_139_code (1 : Nat) (Option.some (Jvm.ClassFile.FieldType.object "java/lang/String"))).before args0 about1 = true := code_word (m := ⟨11, 5⟩) (meth := k11m5) (c := k11c5) (by decide +kernel) rfl rfl rfl (by decide +kernel)
set_option maxRecDepth 65536 in
theorem w_c42 : (Jvm.Cond.code ({ cls := "java/lang/StringLatin1", name := "toBytes", desc := "(C)[B" } : Jvm.MethodName) jdk_43_method_46_code (1 : Nat) (Option.some (Jvm.ClassFile.FieldType.array Jvm.ClassFile.FieldType.byte))).before args0 about1 = true := code_word (m := ⟨13, 4⟩) (meth := k13m4) (c := k13c4) (by decide +kernel) rfl rfl rfl (by decide +kernel)
set_option maxRecDepth 65536 in
theorem w_c43 : (Jvm.Cond.code ({ cls := "java/lang/String", name := "<init>", desc := "([BB)V" } : Jvm.MethodName) jdk_42_method_151_code (3 : Nat) (Option.none : Option Jvm.ClassFile.FieldType)).before args0 about1 = true := code_word (m := ⟨11, 8⟩) (meth := k11m8) (c := k11c8) (by decide +kernel) rfl rfl rfl (by decide +kernel)
set_option maxRecDepth 65536 in
theorem w_c44 : (Jvm.Cond.code ({ cls := "latentrace/io/JsonWriter", name := "beginArray", desc := "()Llatentrace/io/JsonWriter;" } : Jvm.MethodName) prog_20_method_4_code (1 : Nat) (Option.some (Jvm.ClassFile.FieldType.object "latentrace/io/JsonWriter"))).before args0 about1 = true := code_word (m := ⟨2, 2⟩) (meth := k2m2) (c := k2c2) (by decide +kernel) rfl rfl rfl (by decide +kernel)
set_option maxRecDepth 65536 in
theorem w_c45 : (Jvm.Cond.code ({ cls := "latentrace/io/JsonWriter", name := "endArray", desc := "()Llatentrace/io/JsonWriter;" } : Jvm.MethodName) prog_20_method_5_code (1 : Nat) (Option.some (Jvm.ClassFile.FieldType.object "latentrace/io/JsonWriter"))).before args0 about1 = true := code_word (m := ⟨2, 3⟩) (meth := k2m3) (c := k2c3) (by decide +kernel) rfl rfl rfl (by decide +kernel)
set_option maxRecDepth 65536 in
theorem w_c46 : (Jvm.Cond.code ({ cls := "latentrace/io/JsonWriter", name := "close", desc := "(C)Llatentrace/io/JsonWriter;" } : Jvm.MethodName) prog_20_method_14_code (2 : Nat) (Option.some (Jvm.ClassFile.FieldType.object "latentrace/io/JsonWriter"))).before args0 about1 = true := code_word (m := ⟨2, 8⟩) (meth := k2m8) (c := k2c8) (by decide +kernel) rfl rfl rfl (by decide +kernel)
def codes1 : List Jvm.Cond := [Jvm.Cond.code x code maxLocals ret, Jvm.Cond.code ({ cls := "latentrace/io/JsonWriter", name := "<init>", desc := "()V" } : Jvm.MethodName) prog_20_method_1_code (1 : Nat) (Option.none : Option Jvm.ClassFile.FieldType), Jvm.Cond.code ({ cls := "java/lang/Object", name := "<init>", desc := "()V" } : Jvm.MethodName) object_method_1_code (1 : Nat) (Option.none : Option Jvm.ClassFile.FieldType), Jvm.Cond.code ({ cls := "java/lang/StringBuilder", name := "<init>", desc := "()V" } : Jvm.MethodName) jdk_67_method_1_code (1 : Nat) (Option.none : Option Jvm.ClassFile.FieldType), Jvm.Cond.code ({ cls := "java/lang/AbstractStringBuilder", name := "<init>", desc := "(I)V" } : Jvm.MethodName) jdk_68_method_2_code (2 : Nat) (Option.none : Option Jvm.ClassFile.FieldType), Jvm.Cond.code ({ cls := "latentrace/io/JsonWriter", name := "nullValue", desc := "()Llatentrace/io/JsonWriter;" } : Jvm.MethodName) prog_20_method_11_code (1 : Nat) (Option.some (Jvm.ClassFile.FieldType.object "latentrace/io/JsonWriter")), Jvm.Cond.code ({ cls := "latentrace/io/JsonWriter", name := "separate", desc := "()V" } : Jvm.MethodName) prog_20_method_15_code (1 : Nat) (Option.none : Option Jvm.ClassFile.FieldType), Jvm.Cond.code ({ cls := "java/lang/StringBuilder", name := "append", desc := "(Ljava/lang/String;)Ljava/lang/StringBuilder;" } : Jvm.MethodName) jdk_67_method_7_code (2 : Nat) (Option.some (Jvm.ClassFile.FieldType.object "java/lang/StringBuilder")), Jvm.Cond.code ({ cls := "java/lang/AbstractStringBuilder", name := "append", desc := "(Ljava/lang/String;)Ljava/lang/AbstractStringBuilder;" } : Jvm.MethodName) jdk_68_method_22_code (3 : Nat) (Option.some (Jvm.ClassFile.FieldType.object "java/lang/AbstractStringBuilder")), Jvm.Cond.code ({ cls := "java/lang/String", name := "length", desc := "()I" } : Jvm.MethodName) jdk_42_method_54_code (1 : Nat) (Option.some Jvm.ClassFile.FieldType.int), Jvm.Cond.code ({ cls := "java/lang/String", name := "coder", desc := "()B" } : Jvm.MethodName) jdk_42_method_152_code (1 : Nat) (Option.some Jvm.ClassFile.FieldType.byte), Jvm.Cond.code ({ cls := "java/lang/AbstractStringBuilder", name := "ensureCapacityInternal", desc := "(I)V" } : Jvm.MethodName) jdk_68_method_9_code (3 : Nat) (Option.none : Option Jvm.ClassFile.FieldType), Jvm.Cond.code ({ cls := "java/lang/AbstractStringBuilder", name := "putStringAt", desc := "(ILjava/lang/String;)V" } : Jvm.MethodName) jdk_68_method_73_code (3 : Nat) (Option.none : Option Jvm.ClassFile.FieldType), Jvm.Cond.code ({ cls := "java/lang/AbstractStringBuilder", name := "inflateIfNeededFor", desc := "(Ljava/lang/String;)V" } : Jvm.MethodName) jdk_68_method_71_code (2 : Nat) (Option.none : Option Jvm.ClassFile.FieldType), Jvm.Cond.code ({ cls := "java/lang/String", name := "getBytes", desc := "([BIB)V" } : Jvm.MethodName) jdk_42_method_147_code (4 : Nat) (Option.none : Option Jvm.ClassFile.FieldType), Jvm.Cond.code ({ cls := "java/lang/StringBuilder", name := "append", desc := "(C)Ljava/lang/StringBuilder;" } : Jvm.MethodName) jdk_67_method_14_code (2 : Nat) (Option.some (Jvm.ClassFile.FieldType.object "java/lang/StringBuilder")), Jvm.Cond.code ({ cls := "java/lang/AbstractStringBuilder", name := "append", desc := "(C)Ljava/lang/AbstractStringBuilder;" } : Jvm.MethodName) jdk_68_method_31_code (2 : Nat) (Option.some (Jvm.ClassFile.FieldType.object "java/lang/AbstractStringBuilder")), Jvm.Cond.code ({ cls := "java/lang/AbstractStringBuilder", name := "isLatin1", desc := "()Z" } : Jvm.MethodName) jdk_68_method_68_code (1 : Nat) (Option.some Jvm.ClassFile.FieldType.boolean), Jvm.Cond.code ({ cls := "java/lang/StringLatin1", name := "canEncode", desc := "(C)Z" } : Jvm.MethodName) jdk_43_method_3_code (1 : Nat) (Option.some Jvm.ClassFile.FieldType.boolean), Jvm.Cond.code ({ cls := "latentrace/io/JsonWriter", name := "toString", desc := "()Ljava/lang/String;" } : Jvm.MethodName) prog_20_method_12_code (1 : Nat) (Option.some (Jvm.ClassFile.FieldType.object "java/lang/String")), Jvm.Cond.code ({ cls := "java/lang/StringBuilder", name := "toString", desc := "()Ljava/lang/String;" } : Jvm.MethodName) jdk_67_method_42_code (1 : Nat) (Option.some (Jvm.ClassFile.FieldType.object "java/lang/String")), Jvm.Cond.code ({ cls := "java/lang/String", name := "<init>", desc := "(Ljava/lang/StringBuilder;)V" } : Jvm.MethodName) jdk_42_method_53_code (2 : Nat) (Option.none : Option Jvm.ClassFile.FieldType), Jvm.Cond.code ({ cls := "java/lang/String", name := "<init>", desc := "(Ljava/lang/AbstractStringBuilder;Ljava/lang/Void;)V" } : Jvm.MethodName) jdk_42_method_150_code (5 : Nat) (Option.none : Option Jvm.ClassFile.FieldType), Jvm.Cond.code ({ cls := "java/lang/AbstractStringBuilder", name := "getValue", desc := "()[B" } : Jvm.MethodName) jdk_68_method_64_code (1 : Nat) (Option.some (Jvm.ClassFile.FieldType.array Jvm.ClassFile.FieldType.byte)), Jvm.Cond.code ({ cls := "java/lang/StringBuilder", name := "length", desc := "()I" } : Jvm.MethodName) jdk_67_method_93_code (1 : Nat) (Option.some Jvm.ClassFile.FieldType.int), Jvm.Cond.code ({ cls := "java/lang/AbstractStringBuilder", name := "length", desc := "()I" } : Jvm.MethodName) jdk_68_method_6_code (1 : Nat) (Option.some Jvm.ClassFile.FieldType.int), Jvm.Cond.code ({ cls := "java/util/Arrays", name := "copyOfRange", desc := "([BII)[B" } : Jvm.MethodName) jdk_65_method_132_code (3 : Nat) (Option.some (Jvm.ClassFile.FieldType.array Jvm.ClassFile.FieldType.byte)), Jvm.Cond.code ({ cls := "java/util/Arrays", name := "copyOfRangeByte", desc := "([BII)[B" } : Jvm.MethodName) jdk_65_method_133_code (5 : Nat) (Option.some (Jvm.ClassFile.FieldType.array Jvm.ClassFile.FieldType.byte)), Jvm.Cond.code ({ cls := "java/util/Arrays", name := "checkLength", desc := "(II)V" } : Jvm.MethodName) jdk_65_method_131_code (2 : Nat) (Option.none : Option Jvm.ClassFile.FieldType), Jvm.Cond.code ({ cls := "java/lang/Math", name := "min", desc := "(II)I" } : Jvm.MethodName) jdk_29_method_69_code (2 : Nat) (Option.some Jvm.ClassFile.FieldType.int), Jvm.Cond.code ({ cls := "java/lang/String", name := "equals", desc := "(Ljava/lang/Object;)Z" } : Jvm.MethodName) jdk_42_method_66_code (3 : Nat) (Option.some Jvm.ClassFile.FieldType.boolean), Jvm.Cond.code ({ cls := "java/lang/StringLatin1", name := "equals", desc := "([B[B)Z" } : Jvm.MethodName) jdk_43_method_13_code (3 : Nat) (Option.some Jvm.ClassFile.FieldType.boolean), Jvm.Cond.code ({ cls := "latentrace/io/JsonWriter", name := "beginObject", desc := "()Llatentrace/io/JsonWriter;" } : Jvm.MethodName) prog_20_method_2_code (1 : Nat) (Option.some (Jvm.ClassFile.FieldType.object "latentrace/io/JsonWriter")), Jvm.Cond.code ({ cls := "latentrace/io/JsonWriter", name := "open", desc := "(C)Llatentrace/io/JsonWriter;" } : Jvm.MethodName) prog_20_method_13_code (2 : Nat) (Option.some (Jvm.ClassFile.FieldType.object "latentrace/io/JsonWriter")), Jvm.Cond.code ({ cls := "latentrace/io/JsonWriter", name := "name", desc := "(Ljava/lang/String;)Llatentrace/io/JsonWriter;" } : Jvm.MethodName) prog_20_method_6_code (2 : Nat) (Option.some (Jvm.ClassFile.FieldType.object "latentrace/io/JsonWriter")), Jvm.Cond.code ({ cls := "latentrace/io/JsonWriter", name := "quote", desc := "(Ljava/lang/String;)V" } : Jvm.MethodName) prog_20_method_16_code (4 : Nat) (Option.none : Option Jvm.ClassFile.FieldType), Jvm.Cond.code ({ cls := "java/lang/String", name := "charAt", desc := "(I)C" } : Jvm.MethodName) jdk_42_method_56_code (2 : Nat) (Option.some Jvm.ClassFile.FieldType.char), Jvm.Cond.code ({ cls := "java/lang/String", name := "isLatin1", desc := "()Z" } : Jvm.MethodName) jdk_42_method_154_code (1 : Nat) (Option.some Jvm.ClassFile.FieldType.boolean), Jvm.Cond.code ({ cls := "java/lang/StringLatin1", name := "charAt", desc := "([BI)C" } : Jvm.MethodName) jdk_43_method_2_code (2 : Nat) (Option.some Jvm.ClassFile.FieldType.char), Jvm.Cond.code ({ cls := "java/lang/String", name := "checkIndex", desc := "(II)V" } : Jvm.MethodName) jdk_42_method_155_code (2 : Nat) (Option.none : Option Jvm.ClassFile.FieldType), Jvm.Cond.code ({ cls := "jdk/internal/util/Preconditions", name := "checkIndex", desc := "(IILjava/util/function/BiFunction;)I" } : Jvm.MethodName) jdk_41_method_11_code (3 : Nat) (Option.some Jvm.ClassFile.FieldType.int), Jvm.Cond.code ({ cls := "java/lang/String", name := "valueOf", desc := "(C)Ljava/lang/String;" } : Jvm.MethodName) jdk_42_method_139_code (1 : Nat) (Option.some (Jvm.ClassFile.FieldType.object "java/lang/String")), Jvm.Cond.code ({ cls := "java/lang/StringLatin1", name := "toBytes", desc := "(C)[B" } : Jvm.MethodName) jdk_43_method_46_code (1 : Nat) (Option.some (Jvm.ClassFile.FieldType.array Jvm.ClassFile.FieldType.byte)), Jvm.Cond.code ({ cls := "java/lang/String", name := "<init>", desc := "([BB)V" } : Jvm.MethodName) jdk_42_method_151_code (3 : Nat) (Option.none : Option Jvm.ClassFile.FieldType), Jvm.Cond.code ({ cls := "latentrace/io/JsonWriter", name := "beginArray", desc := "()Llatentrace/io/JsonWriter;" } : Jvm.MethodName) prog_20_method_4_code (1 : Nat) (Option.some (Jvm.ClassFile.FieldType.object "latentrace/io/JsonWriter")), Jvm.Cond.code ({ cls := "latentrace/io/JsonWriter", name := "endArray", desc := "()Llatentrace/io/JsonWriter;" } : Jvm.MethodName) prog_20_method_5_code (1 : Nat) (Option.some (Jvm.ClassFile.FieldType.object "latentrace/io/JsonWriter")), Jvm.Cond.code ({ cls := "latentrace/io/JsonWriter", name := "close", desc := "(C)Llatentrace/io/JsonWriter;" } : Jvm.MethodName) prog_20_method_14_code (2 : Nat) (Option.some (Jvm.ClassFile.FieldType.object "latentrace/io/JsonWriter"))]
set_option maxRecDepth 65536 in
theorem codes_eq : words1.filter isCode = codes1 := rfl
theorem w_codes : ∀ c ∈ words1.filter isCode, c.before args0 about1 = true := by
  rw [codes_eq]
  intro c hc
  simp only [codes1, List.mem_cons, List.not_mem_nil, or_false] at hc
  rcases hc with rfl | rfl | rfl | rfl | rfl | rfl | rfl | rfl | rfl | rfl | rfl | rfl | rfl | rfl | rfl | rfl | rfl | rfl | rfl | rfl | rfl | rfl | rfl | rfl | rfl | rfl | rfl | rfl | rfl | rfl | rfl | rfl | rfl | rfl | rfl | rfl | rfl | rfl | rfl | rfl | rfl | rfl | rfl | rfl | rfl | rfl | rfl
  · exact w_c0
  · exact w_c1
  · exact w_c2
  · exact w_c3
  · exact w_c4
  · exact w_c5
  · exact w_c6
  · exact w_c7
  · exact w_c8
  · exact w_c9
  · exact w_c10
  · exact w_c11
  · exact w_c12
  · exact w_c13
  · exact w_c14
  · exact w_c15
  · exact w_c16
  · exact w_c17
  · exact w_c18
  · exact w_c19
  · exact w_c20
  · exact w_c21
  · exact w_c22
  · exact w_c23
  · exact w_c24
  · exact w_c25
  · exact w_c26
  · exact w_c27
  · exact w_c28
  · exact w_c29
  · exact w_c30
  · exact w_c31
  · exact w_c32
  · exact w_c33
  · exact w_c34
  · exact w_c35
  · exact w_c36
  · exact w_c37
  · exact w_c38
  · exact w_c39
  · exact w_c40
  · exact w_c41
  · exact w_c42
  · exact w_c43
  · exact w_c44
  · exact w_c45
  · exact w_c46
set_option maxRecDepth 65536 in
theorem w_t1 : (words1.take 24).all (fun c => isCode c || c.before args0 about1) = true := by decide +kernel
set_option maxRecDepth 65536 in
theorem w_t2 : ((words1.drop 24).take 24).all (fun c => isCode c || c.before args0 about1) = true := by decide +kernel
set_option maxRecDepth 65536 in
theorem w_t3 : (((words1.drop 24).drop 24).take 24).all (fun c => isCode c || c.before args0 about1) = true := by decide +kernel
set_option maxRecDepth 65536 in
theorem w_t4 : ((((words1.drop 24).drop 24).drop 24).take 24).all (fun c => isCode c || c.before args0 about1) = true := by decide +kernel
set_option maxRecDepth 65536 in
theorem w_t5 : (((((words1.drop 24).drop 24).drop 24).drop 24).take 24).all (fun c => isCode c || c.before args0 about1) = true := by decide +kernel
set_option maxRecDepth 65536 in
theorem w_t6 : ((((((words1.drop 24).drop 24).drop 24).drop 24).drop 24).take 24).all (fun c => isCode c || c.before args0 about1) = true := by decide +kernel
set_option maxRecDepth 65536 in
theorem w_t7 : (((((((words1.drop 24).drop 24).drop 24).drop 24).drop 24).drop 24).take 24).all (fun c => isCode c || c.before args0 about1) = true := by decide +kernel
set_option maxRecDepth 65536 in
theorem w_t8 : ((((((((words1.drop 24).drop 24).drop 24).drop 24).drop 24).drop 24).drop 24).take 24).all (fun c => isCode c || c.before args0 about1) = true := by decide +kernel
set_option maxRecDepth 65536 in
theorem w_t9 : (((((((((words1.drop 24).drop 24).drop 24).drop 24).drop 24).drop 24).drop 24).drop 24).take 24).all (fun c => isCode c || c.before args0 about1) = true := by decide +kernel
set_option maxRecDepth 65536 in
theorem w_t10 : ((((((((((words1.drop 24).drop 24).drop 24).drop 24).drop 24).drop 24).drop 24).drop 24).drop 24).take 24).all (fun c => isCode c || c.before args0 about1) = true := by decide +kernel
set_option maxRecDepth 65536 in
theorem w_t11 : ((((((((((words1.drop 24).drop 24).drop 24).drop 24).drop 24).drop 24).drop 24).drop 24).drop 24).drop 24).all (fun c => isCode c || c.before args0 about1) = true := by decide +kernel
theorem w_tables : (allAtoms (Jvm.Cond.code x code maxLocals ret :: tables_1)).before args0 about1 = true := by
  rw [allAtoms_all]
  show words1.all (fun c => c.before args0 about1) = true
  refine all_split ?_ w_codes
  rw [← List.take_append_drop 24 words1, List.all_append, w_t1, ← List.take_append_drop 24 (words1.drop 24), List.all_append, w_t2, ← List.take_append_drop 24 ((words1.drop 24).drop 24), List.all_append, w_t3, ← List.take_append_drop 24 (((words1.drop 24).drop 24).drop 24), List.all_append, w_t4, ← List.take_append_drop 24 ((((words1.drop 24).drop 24).drop 24).drop 24), List.all_append, w_t5, ← List.take_append_drop 24 (((((words1.drop 24).drop 24).drop 24).drop 24).drop 24), List.all_append, w_t6, ← List.take_append_drop 24 ((((((words1.drop 24).drop 24).drop 24).drop 24).drop 24).drop 24), List.all_append, w_t7, ← List.take_append_drop 24 (((((((words1.drop 24).drop 24).drop 24).drop 24).drop 24).drop 24).drop 24), List.all_append, w_t8, ← List.take_append_drop 24 ((((((((words1.drop 24).drop 24).drop 24).drop 24).drop 24).drop 24).drop 24).drop 24), List.all_append, w_t9, ← List.take_append_drop 24 (((((((((words1.drop 24).drop 24).drop 24).drop 24).drop 24).drop 24).drop 24).drop 24).drop 24), List.all_append, w_t10, w_t11]
  rfl
set_option maxRecDepth 65536 in
theorem w_rest : rest_1_c.before args0 about1 = true := by decide +kernel
set_option maxRecDepth 65536 in
theorem w_case : (Jvm.Cond.and given_1 narrow_1).before args0 about1 = true := by decide +kernel
set_option maxRecDepth 65536 in
theorem w_consts : constsHeld consts_1 about1 := Jvm.Lit.constsHeldB_iff.mp (by decide +kernel)
theorem w_applies : (headSpec (Jvm.Cond.code x code maxLocals ret :: tables_1) room_1).applies x e0.platform about1 = true :=
  (Spec.applies_iff w_frames).mpr ⟨w_running, w_runnable, w_alone, w_named, w_hears, w_ripe, w_room, w_tables⟩
theorem atStart : AtStart classFile x code maxLocals ret World_1 tables_1 room_1 Calls_1 rest_1 Pre_1 launch0 p0 e0 about1 theMethod args0 below0 :=
  ⟨lists_1, trivial, launch0.admits_env _ _ _, launch0.least_env, fairChoices_fair.cas, fairChoices_fair.clock, w_frames, w_args, w_heap, w_applies, ⟨w_consts, trivial⟩, w_rest, w_case⟩
end start1
theorem witness_1 : WitnessClaimed_1 := ⟨start1.p0, start1.e0, start1.about1, start1.theMethod, start1.args0, start1.below0, start1.atStart⟩
end Jvm.Pilot.@@N@@
