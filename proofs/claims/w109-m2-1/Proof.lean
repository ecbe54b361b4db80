import JvmDerived
import JvmDerived.Pilot.@@N@@Statement
import JvmDerived.Pilot.@@N@@Code
set_option linter.unusedVariables false
set_option linter.unusedSimpArgs false
namespace Jvm.Pilot.@@N@@
open Jvm Jvm.ClassFile Sem Op Lib Jvm.Free Jvm.Stand Jvm.LawKit Jvm.RoadKit Bundle Jvm.Pilot.@@N@@.Jvm.D
section OwnKit
variable {p : Program} {l : Launch} {e : Env} {R : Room} {s : State} {m : MethodId} {args : Array Value} {below : List Frame} {meth : Method} {c : Code} {T U W : State} {locs : List Loc} {cells slots : Nat} {Q : Option Value → Heap → List Loc → Prop} {K N : Nat}
/-- from U the body comes to its end, and Q holds there -/
def own_Ends (p : Program) (e : Env) (below : List Frame) (s : State) (Q : Option Value → Heap → List Loc → Prop) (K N : Nat) (U : State) : Prop :=
  ∃ s₂ o, Steps p.tables e below U s₂ ∧ s₂.status = .running ∧ Ended s₂ below o ∧ ∃ v L, o = .returned v ∧ Q v s₂.heap L ∧ FrameEnd s o s₂ L K N
theorem own_by {V : State} (h : ∀ t, Steps p.tables e below V t → Steps p.tables e below U t) (k : own_Ends p e below s Q K N V) : own_Ends p e below s Q K N U := by
  obtain ⟨s2, o, h1, h2⟩ := k; exact ⟨s2, o, h _ h1, h2⟩
theorem own_ret0 (X : Stand p l e R s m args below meth c T locs cells slots) (hx : p.tables.exec = Jvm.exec) (hlk : meth.locks = false) {h : Heap} (eT : T.heap = h) {pc : Nat} {Ls : Array Slot} (hret : meth.sig.returnType = none)
    (hd : decode c.code pc = .ok (.return_, 1)) (hQ : Q none h locs) (hK : cells ≤ K) (hN : slots ≤ N) : own_Ends p e below s Q K N (T.setTop (mkF m pc Ls [])) := by
  obtain ⟨fs, hr, hrun, hended, hW, hsame⟩ := X.leave (v := none) (fun _ => rfl) hlk
  exact ⟨_, _, X.returnOut hx hret hd hr, hrun, hended, _, _, rfl, (by subst eT; exact hQ), ⟨_, rfl⟩, hW, hsame.mono hK hN⟩
theorem own_retI (X : Stand p l e R s m args below meth c T locs cells slots) (hx : p.tables.exec = Jvm.exec) (hlk : meth.locks = false) {h : Heap} (eT : T.heap = h) {pc : Nat} {Ls : Array Slot} {z : Int32} {rest : List Value} (hret : meth.sig.returnType = some .int)
    (hd : decode c.code pc = .ok (.ireturn, 1)) (hQ : Q (some (.int z)) h locs) (hK : cells ≤ K) (hN : slots ≤ N) : own_Ends p e below s Q K N (T.setTop (mkF m pc Ls (.int z :: rest))) := by
  obtain ⟨fs, hr, hrun, hended, hW, hsame⟩ := X.leave (v := some (.int z)) (fun h => by rw [hret] at h; cases h) hlk
  exact ⟨_, _, retOut X hx hret rfl (Or.inl ⟨rfl, Or.inl rfl, z, rfl⟩) hd hr, hrun, hended, _, _, rfl, (by subst eT; exact hQ), ⟨_, rfl⟩, hW, hsame.mono hK hN⟩
theorem own_retN (X : Stand p l e R s m args below meth c T locs cells slots) (hx : p.tables.exec = Jvm.exec) (hlk : meth.locks = false) {h : Heap} (eT : T.heap = h) {pc : Nat} {Ls : Array Slot} {z : Int32} {t : FieldType} {rest : List Value} (hret : meth.sig.returnType = some t) (ht : t = .boolean ∨ t = .byte ∨ t = .char ∨ t = .short) (hz : nar t z = z)
    (hd : decode c.code pc = .ok (.ireturn, 1)) (hQ : Q (some (.int z)) h locs) (hK : cells ≤ K) (hN : slots ≤ N) : own_Ends p e below s Q K N (T.setTop (mkF m pc Ls (.int z :: rest))) := by
  obtain ⟨fs, hr, hrun, hended, hW, hsame⟩ := X.leave (v := some (.int z)) (fun h => by rw [hret] at h; cases h) hlk
  exact ⟨_, _, retN X hx hret ht hd (by rw [hz]; exact hr), hrun, hended, _, _, rfl, (by subst eT; exact hQ), ⟨_, rfl⟩, hW, hsame.mono hK hN⟩
theorem own_retL (X : Stand p l e R s m args below meth c T locs cells slots) (hx : p.tables.exec = Jvm.exec) (hlk : meth.locks = false) {h : Heap} (eT : T.heap = h) {pc : Nat} {Ls : Array Slot} {z : Int64} {rest : List Value} (hret : meth.sig.returnType = some .long)
    (hd : decode c.code pc = .ok (.lreturn, 1)) (hQ : Q (some (.long z)) h locs) (hK : cells ≤ K) (hN : slots ≤ N) : own_Ends p e below s Q K N (T.setTop (mkF m pc Ls (.long z :: rest))) := by
  obtain ⟨fs, hr, hrun, hended, hW, hsame⟩ := X.leave (v := some (.long z)) (fun h => by rw [hret] at h; cases h) hlk
  exact ⟨_, _, retOut X hx hret rfl (Or.inr (Or.inl ⟨rfl, rfl, z, rfl⟩)) hd hr, hrun, hended, _, _, rfl, (by subst eT; exact hQ), ⟨_, rfl⟩, hW, hsame.mono hK hN⟩
theorem own_retA (X : Stand p l e R s m args below meth c T locs cells slots) (hx : p.tables.exec = Jvm.exec) (hlk : meth.locks = false) {h : Heap} (eT : T.heap = h) {pc : Nat} {Ls : Array Slot} {w : Value} {t : FieldType} {rest : List Value} (hw : w.isRef = true) (hret : meth.sig.returnType = some t) (ht : t.isReference = true)
    (hd : decode c.code pc = .ok (.areturn, 1)) (hQ : Q (some w) h locs) (hK : cells ≤ K) (hN : slots ≤ N) : own_Ends p e below s Q K N (T.setTop (mkF m pc Ls (w :: rest))) := by
  obtain ⟨fs, hr, hrun, hended, hW, hsame⟩ := X.leave (v := some w) (fun h => by rw [hret] at h; cases h) hlk
  exact ⟨_, _, retOut X hx hret (by cases t <;> cases w <;> first | rfl | (simp [FieldType.isReference] at ht) | (simp [Value.isRef] at hw)) (Or.inr (Or.inr (Or.inr (Or.inr ⟨rfl, ht, hw⟩)))) hd hr, hrun, hended, _, _, rfl, (by subst eT; exact hQ), ⟨_, rfl⟩, hW, hsame.mono hK hN⟩

theorem own_neg1 : (-1 : Int32).toInt = -1 := rfl
end OwnKit
theorem own_selPriv {s : State} {args args' : Array Value} {y : MethodName} {n : Nat} (wi : (Cond.instantiable y.cls n).before args s = true) (wp : (Cond.privateMethod y).before args' s = true) (wm : (Cond.instanceMethod y).before args s = true) (hy : y.cls ≠ "java/lang/invoke/MethodHandle" ∧ y.cls ≠ "java/lang/invoke/VarHandle") : (Cond.selects y.cls y y).before args s = true := by
  obtain ⟨c, k, h1, h2, h3, h4, -⟩ := Cond.instantiable_spec wi
  exact selects_self_of_private h1 h2 (Bool.or_eq_false_iff.mp h4).1 (Cond.privateMethod_at wp) wm hy
section OwnWords
variable {args : Array Value} {s : State} {t : Term} {x : Addr} {C n d : String} {cl : Cell} {ty : FieldType}
theorem own_evI {k : Int32} (h : (Cond.eq t (.int k)).value args s none s [] = some true) : t.eval args s none [] s = some (.int k) := by
  obtain ⟨y, z, h1, h2, h3, -⟩ := cmp_v (Or.inl h)
  have h2' : z = .int k := (Option.some.inj h2).symm
  subst h2'
  cases y with
  | int v =>
    have q : v = k := by simpa [Cond.value, h1, Term.eval] using h
    rw [h1, q]
  | _ => simp [Kin, Value.isRef] at h3
theorem own_fldS {k : Int32} (ht : t.eval args s none [] s = some (.ref x)) (h : (Cond.eq (.field t C n d) (.int k)).value args s none s [] = some true) : Fld s s.heap x C n d (.int k) :=
  Fld.start ((fld_at ht).symm.trans (own_evI h))
theorem own_lenEv {k : Int32} (ev : t.eval args s none [] s = some (.ref x)) (A : Arr s s.heap x cl ty) (h : (Cond.eq (.length t) (.int k)).value args s none s [] = some true) : cl.slots.size.toInt32 = k ∧ cl.slots.size < 2 ^ 31 := by
  have e := own_evI h
  have hat := A.fin (Vm.Alike.refl _)
  simp only [Term.eval, ev, hat, Option.bind_eq_bind, Option.bind_some] at e
  split at e
  · rename_i hlt
    exact ⟨Value.int.inj (Option.some.inj e), hlt⟩
  · cases e
theorem own_len256 (ev : t.eval args s none [] s = some (.ref x)) (A : Arr s s.heap x cl ty) (h : (Cond.eq (.length t) (.int 256)).value args s none s [] = some true) : cl.slots.size = 256 := by
  obtain ⟨h1, h2⟩ := own_lenEv ev A h
  have q := len_toInt h2
  rw [h1] at q
  have q' : (256 : Int32).toInt = 256 := rfl
  omega
theorem own_cacheEl {K : String} {E : Jvm.Cond} (ev : (Term.static K n d).eval args s none [] s = some (.ref x)) (A : Arr s s.heap x cl ty) (hsz : cl.slots.size = 256) (h : (Cond.all (.static K n d) (.and (.exactly (.elem (.static K n d) (.index 0)) C) E)).value args s none s [] = some true) : ∀ j, j < 256 → ∃ b, cl.slots[j]? = some (.ref b) ∧ Exa s s.heap b C := by
  intro j hj
  have hat := A.fin (Vm.Alike.refl _)
  obtain ⟨h1, -⟩ := and_e (Cond.all_elim ev hat h j (by rw [hsz]; exact hj))
  obtain ⟨b, eb⟩ := exa_v h1
  have evj : (Term.static K n d).eval args s none [j] s = some (.ref x) := ev
  have q := (elem_in eb evj (Term.index_eval j) A.1).2
  rw [show j.toInt32 = Int32.ofNat j from rfl, Int32.toNatClampNeg_ofNat_of_lt (by omega)] at q
  exact ⟨b, q, exa_at eb h1⟩
theorem own_elemI {i k : Int32} (ev : t.eval args s none [] s = some (.ref x)) (A : Arr s s.heap x cl ty) (h : (Cond.eq (.elem t (.int i)) (.int k)).value args s none s [] = some true) : ¬ (i < 0 ∨ cl.slots.size ≤ i.toNatClampNeg) ∧ cl.slots[i.toNatClampNeg]? = some (.int k) :=
  elem_in (own_evI h) ev (Term.int_eval i) A.1
end OwnWords

theorem own_d_jdk_18_1_0 : decode jdk_18_method_1_code 0 = .ok (.aload_n 0, 1) := by decide +kernel
theorem own_d_jdk_18_1_1 : decode jdk_18_method_1_code 1 = .ok (.invokespecial 1, 3) := by decide +kernel
theorem own_d_jdk_18_1_4 : decode jdk_18_method_1_code 4 = .ok (.return_, 1) := by decide +kernel
theorem own_d_jdk_33_22_0 : decode jdk_33_method_22_code 0 = .ok (.iload_n 0, 1) := by decide +kernel
theorem own_d_jdk_33_22_1 : decode jdk_33_method_22_code 1 = .ok (.bipush (-128), 2) := by decide +kernel
theorem own_d_jdk_33_22_3 : decode jdk_33_method_22_code 3 = .ok (.if_icmp .lt 20, 3) := by decide +kernel
theorem own_d_jdk_33_22_6 : decode jdk_33_method_22_code 6 = .ok (.iload_n 0, 1) := by decide +kernel
theorem own_d_jdk_33_22_7 : decode jdk_33_method_22_code 7 = .ok (.getstatic 191, 3) := by decide +kernel
theorem own_d_jdk_33_22_10 : decode jdk_33_method_22_code 10 = .ok (.if_icmp .gt 13, 3) := by decide +kernel
theorem own_d_jdk_33_22_13 : decode jdk_33_method_22_code 13 = .ok (.getstatic 195, 3) := by decide +kernel
theorem own_d_jdk_33_22_16 : decode jdk_33_method_22_code 16 = .ok (.iload_n 0, 1) := by decide +kernel
theorem own_d_jdk_33_22_17 : decode jdk_33_method_22_code 17 = .ok (.sipush 128, 3) := by decide +kernel
theorem own_d_jdk_33_22_20 : decode jdk_33_method_22_code 20 = .ok (.iadd, 1) := by decide +kernel
theorem own_d_jdk_33_22_21 : decode jdk_33_method_22_code 21 = .ok (.aaload, 1) := by decide +kernel
theorem own_d_jdk_33_22_22 : decode jdk_33_method_22_code 22 = .ok (.areturn, 1) := by decide +kernel
theorem own_d_jdk_33_22_23 : decode jdk_33_method_22_code 23 = .ok (.new 1, 3) := by decide +kernel
theorem own_d_jdk_33_22_26 : decode jdk_33_method_22_code 26 = .ok (.dup, 1) := by decide +kernel
theorem own_d_jdk_33_22_27 : decode jdk_33_method_22_code 27 = .ok (.iload_n 0, 1) := by decide +kernel
theorem own_d_jdk_33_22_28 : decode jdk_33_method_22_code 28 = .ok (.invokespecial 199, 3) := by decide +kernel
theorem own_d_jdk_33_22_31 : decode jdk_33_method_22_code 31 = .ok (.areturn, 1) := by decide +kernel
theorem own_d_jdk_33_23_0 : decode jdk_33_method_23_code 0 = .ok (.aload_n 0, 1) := by decide +kernel
theorem own_d_jdk_33_23_1 : decode jdk_33_method_23_code 1 = .ok (.invokespecial 202, 3) := by decide +kernel
theorem own_d_jdk_33_23_4 : decode jdk_33_method_23_code 4 = .ok (.aload_n 0, 1) := by decide +kernel
theorem own_d_jdk_33_23_5 : decode jdk_33_method_23_code 5 = .ok (.iload_n 1, 1) := by decide +kernel
theorem own_d_jdk_33_23_6 : decode jdk_33_method_23_code 6 = .ok (.putfield 205, 3) := by decide +kernel
theorem own_d_jdk_33_23_9 : decode jdk_33_method_23_code 9 = .ok (.return_, 1) := by decide +kernel
theorem own_d_prog_17_1_0 : decode prog_17_method_1_code 0 = .ok (.aload_n 0, 1) := by decide +kernel
theorem own_d_prog_17_1_1 : decode prog_17_method_1_code 1 = .ok (.invokespecial 1, 3) := by decide +kernel
theorem own_d_prog_17_1_4 : decode prog_17_method_1_code 4 = .ok (.iload_n 1, 1) := by decide +kernel
theorem own_d_prog_17_1_5 : decode prog_17_method_1_code 5 = .ok (.ifCond .lt 9, 3) := by decide +kernel
theorem own_d_prog_17_1_8 : decode prog_17_method_1_code 8 = .ok (.lload_n 2, 1) := by decide +kernel
theorem own_d_prog_17_1_9 : decode prog_17_method_1_code 9 = .ok (.lconst 0, 1) := by decide +kernel
theorem own_d_prog_17_1_10 : decode prog_17_method_1_code 10 = .ok (.lcmp, 1) := by decide +kernel
theorem own_d_prog_17_1_11 : decode prog_17_method_1_code 11 = .ok (.ifCond .ge 18, 3) := by decide +kernel
theorem own_d_prog_17_1_29 : decode prog_17_method_1_code 29 = .ok (.aload_n 0, 1) := by decide +kernel
theorem own_d_prog_17_1_30 : decode prog_17_method_1_code 30 = .ok (.iload_n 1, 1) := by decide +kernel
theorem own_d_prog_17_1_31 : decode prog_17_method_1_code 31 = .ok (.putfield 16, 3) := by decide +kernel
theorem own_d_prog_17_1_34 : decode prog_17_method_1_code 34 = .ok (.aload_n 0, 1) := by decide +kernel
theorem own_d_prog_17_1_35 : decode prog_17_method_1_code 35 = .ok (.lload_n 2, 1) := by decide +kernel
theorem own_d_prog_17_1_36 : decode prog_17_method_1_code 36 = .ok (.putfield 22, 3) := by decide +kernel
theorem own_d_prog_17_1_39 : decode prog_17_method_1_code 39 = .ok (.return_, 1) := by decide +kernel
theorem own_d_prog_17_4_0 : decode prog_17_method_4_code 0 = .ok (.aload_n 1, 1) := by decide +kernel
theorem own_d_prog_17_4_1 : decode prog_17_method_4_code 1 = .ok (.instanceof 17, 3) := by decide +kernel
theorem own_d_prog_17_4_4 : decode prog_17_method_4_code 4 = .ok (.ifCond .ne 5, 3) := by decide +kernel
theorem own_d_prog_17_4_7 : decode prog_17_method_4_code 7 = .ok (.iconst 0, 1) := by decide +kernel
theorem own_d_prog_17_4_8 : decode prog_17_method_4_code 8 = .ok (.ireturn, 1) := by decide +kernel
theorem own_d_prog_17_4_9 : decode prog_17_method_4_code 9 = .ok (.aload_n 1, 1) := by decide +kernel
theorem own_d_prog_17_4_10 : decode prog_17_method_4_code 10 = .ok (.checkcast 17, 3) := by decide +kernel
theorem own_d_prog_17_4_13 : decode prog_17_method_4_code 13 = .ok (.astore_n 2, 1) := by decide +kernel
theorem own_d_prog_17_4_14 : decode prog_17_method_4_code 14 = .ok (.aload_n 0, 1) := by decide +kernel
theorem own_d_prog_17_4_15 : decode prog_17_method_4_code 15 = .ok (.getfield 16, 3) := by decide +kernel
theorem own_d_prog_17_4_18 : decode prog_17_method_4_code 18 = .ok (.aload_n 2, 1) := by decide +kernel
theorem own_d_prog_17_4_19 : decode prog_17_method_4_code 19 = .ok (.getfield 16, 3) := by decide +kernel
theorem own_d_prog_17_4_22 : decode prog_17_method_4_code 22 = .ok (.if_icmp .ne 19, 3) := by decide +kernel
theorem own_d_prog_17_4_25 : decode prog_17_method_4_code 25 = .ok (.aload_n 0, 1) := by decide +kernel
theorem own_d_prog_17_4_26 : decode prog_17_method_4_code 26 = .ok (.getfield 22, 3) := by decide +kernel
theorem own_d_prog_17_4_29 : decode prog_17_method_4_code 29 = .ok (.aload_n 2, 1) := by decide +kernel
theorem own_d_prog_17_4_30 : decode prog_17_method_4_code 30 = .ok (.getfield 22, 3) := by decide +kernel
theorem own_d_prog_17_4_33 : decode prog_17_method_4_code 33 = .ok (.lcmp, 1) := by decide +kernel
theorem own_d_prog_17_4_34 : decode prog_17_method_4_code 34 = .ok (.ifCond .ne 7, 3) := by decide +kernel
theorem own_d_prog_17_4_37 : decode prog_17_method_4_code 37 = .ok (.iconst 1, 1) := by decide +kernel
theorem own_d_prog_17_4_38 : decode prog_17_method_4_code 38 = .ok (.goto 4, 3) := by decide +kernel
theorem own_d_prog_17_4_41 : decode prog_17_method_4_code 41 = .ok (.iconst 0, 1) := by decide +kernel
theorem own_d_prog_17_4_42 : decode prog_17_method_4_code 42 = .ok (.ireturn, 1) := by decide +kernel
theorem own_pd0 : parseMethodDescriptor "()V" = some ⟨[], none⟩ := by decide +kernel
theorem own_pd1 : parseMethodDescriptor "(I)V" = some ⟨[.int], none⟩ := by decide +kernel
theorem own_pd2 : parseMethodDescriptor "(IJ)V" = some ⟨[.int, .long], none⟩ := by decide +kernel
theorem own_pd3 : parseMethodDescriptor "(Ljava/lang/Object;)Z" = some ⟨[(.object "java/lang/Object")], some .boolean⟩ := by decide +kernel
theorem own_pd4 : parseMethodDescriptor "(I)Ljava/lang/Integer;" = some ⟨[.int], some (.object "java/lang/Integer")⟩ := by decide +kernel
theorem own_pn0 : plainName "com/example/balcon/balcon/model/Position" = true := by first | (simp [plainName, overriddenIn]; done) | decide +kernel
theorem own_pn1 : plainName "java/lang/Number" = true := by first | (simp [plainName, overriddenIn]; done) | decide +kernel
theorem own_pn2 : plainName "java/lang/Integer" = true := by first | (simp [plainName, overriddenIn]; done) | decide +kernel
theorem own_pn3 : plainName "com/example/balcon/balcon/model/PositionEqualsPinLaw" = true := by first | (simp [plainName, overriddenIn]; done) | decide +kernel
theorem own_placeI (w : Int32) (h1 : ¬ w < (-128 : Int32)) (h2 : ¬ (127 : Int32) < w) : ¬ ((w + (128 : Int32)) < 0 ∨ 256 ≤ (w + (128 : Int32)).toNatClampNeg) ∧ (w + (128 : Int32)).toNatClampNeg < 256 := by
  have e1 := c_iadd w 128
  have e2 := rng32 (w + 128)
  have e3 := rng32 w
  simp only [Int32.lt_iff_toInt_lt, Int32.reduceToInt, Int32.toNatClampNeg] at *
  have e4 : (-128 : Int32).toInt = -128 := rfl
  omega
theorem own_nsRoot {Z : State} {a0 : Array Value} {K : String} {n : Nat} (w : (Cond.noSuperclass "java/lang/Object").before a0 Z = true) (wi : (Cond.instantiable K n).before a0 Z = true) (hn : "java/lang/Object" ≠ K) : NS Z "java/lang/Object" K := by
  obtain ⟨c, k, h1, h2, h3, -⟩ := Cond.noSuperclass_spec w
  obtain ⟨t, kt, g1, -⟩ := Cond.instantiable_spec wi
  refine ⟨c, t, h1, g1, fun fuel => ?_⟩
  have ne := ids_ne h1 g1 hn
  rcases fuel with _ | f
  · rfl
  · simp [Vm.isSubclassAux, ne, h2, h3]
theorem own_notOf {Z : State} {a0 : Array Value} {C S K : String} {n : Nat} (w : (Cond.superclass C S).before a0 Z = true) (wi : (Cond.instantiable K n).before a0 Z = true) (N : NS Z C K) (hn : C ≠ K) : ∃ c t, Z.vm.findClass C = some c ∧ Z.vm.findClass K = some t ∧ Z.vm.assignable c t = false := by
  obtain ⟨c, t, f1, f2, hN⟩ := N
  obtain ⟨p, k, kp, -, h2, -, -, h5, -, h7⟩ := Cond.superclass_spec f1 w
  obtain ⟨t', kt, g1, g2, g3, g4, -⟩ := Cond.instantiable_spec wi
  cases f2.symm.trans g1
  have ne := ids_ne f1 f2 hn
  have gi : kt.isInterface = false := (Bool.or_eq_false_iff.mp g4).1
  exact ⟨c, t, f1, f2, by show Z.vm.assignableAux (255 + 1) c t = false; simp [Vm.assignableAux, ne, h2, g2, h5, g3, gi, Vm.isSubclass, hN]⟩
def own_eqP (a b : Int32) (c d : Int64) : Int32 := if a = b ∧ c = d then 1 else 0
theorem own_eqP_symm (a b : Int32) (c d : Int64) : own_eqP a b c d = own_eqP b a d c := by unfold own_eqP; simp only [eq_comm]
theorem own_eqP_self (a : Int32) (c : Int64) : own_eqP a a c c = 1 := if_pos ⟨rfl, rfl⟩
theorem own_nn32 (x : Int32) : ¬ (x &&& (2147483647 : Int32)) < (0 : Int32) := by
  have e : (x &&& (2147483647 : Int32)).toInt = x.toInt % (2 ^ 31 : Nat) := c_mask x 2147483647 31 (by decide) (by decide)
  rw [Int32.lt_iff_toInt_lt, e]; simp only [Int32.reduceToInt]; omega
theorem own_nn64 (x : Int64) : ¬ (x &&& (9223372036854775807 : Int64)) < (0 : Int64) := by
  have e : (x &&& (9223372036854775807 : Int64)).toInt = x.toInt % (2 ^ 63 : Nat) := c_maskL x 9223372036854775807 63 (by decide) (by decide)
  have e0 : (0 : Int64).toInt = 0 := rfl
  rw [Int64.lt_iff_toInt_lt, e, e0]; omega

def own_Q_own_init (Z : State) (o0 : Addr) (p1 : Int32) (q2 : Int64) (h0 : Heap) (n0 : Nat) : Option Value → Heap → List Loc → Prop := fun v h L => v = none ∧ Fr n0 L ∧ Keep h0 h [o0] ∧ Exa Z h o0 "com/example/balcon/balcon/model/Position" ∧ Fld Z h o0 "com/example/balcon/balcon/model/Position" "partition" "I" (.int p1) ∧ Fld Z h o0 "com/example/balcon/balcon/model/Position" "offset" "J" (.long q2)
theorem own_ef_own_init (m : MethodId) (x0 : Addr) (x1 : Int32) (x2 : Int64) : entryFrame m #[(.ref x0), (.int x1), (.long x2)] 4 = mkF m 0 #[.val (.ref x0), .val (.int x1), .val (.long x2), .second] [] := by first | (simp [entryFrame, mkF, argsToLocals, Value.category]; done) | rfl
set_option maxRecDepth 65536 in
set_option maxHeartbeats 40000000 in
theorem own_init (l : Launch) (Z : State) (a0 : Array Value) (hw : ∀ d ∈ tables_1, d.before a0 Z = true) (ws : List Jvm.Cond) (o0 : Addr) (p1 : Int32) (q2 : Int64) (h0 : Heap) (n0 : Nat) (Z0 : n0 ≤ h0.size) (g0 : n0 ≤ o0) (E0 : Exa Z h0 o0 "com/example/balcon/balcon/model/Position") (F_partition : Fld Z h0 o0 "com/example/balcon/balcon/model/Position" "partition" "I" (.int (0 : Int32))) (F_offset : Fld Z h0 o0 "com/example/balcon/balcon/model/Position" "offset" "J" (.long (0 : Int64))) (hp : ¬ p1 < (0 : Int32)) (hq : ¬ q2 < (0 : Int64)) :
    MetFree l (⟨"com/example/balcon/balcon/model/Position", "<init>", "(IJ)V"⟩ : MethodName) (head1 (Jvm.Cond.code (⟨"com/example/balcon/balcon/model/Position", "<init>", "(IJ)V"⟩ : MethodName) prog_17_method_1_code 4 none :: ws) ({ frames := 1, cells := 0, slots := 0, locals := 12 } : Room)) (fun a U => a = #[(.ref o0), (.int p1), (.long q2)] ∧ Z.Warmed39 U.vm ∧ U.heap = h0) (fun _ _ _ _ _ => True) (fun _ U o U' => ∃ v L, o = .returned v ∧ (own_Q_own_init Z o0 p1 q2 h0 n0) v U'.heap L ∧ FrameEnd U o U' L ({ frames := 1, cells := 0, slots := 0, locals := 12 } : Room).cells ({ frames := 1, cells := 0, slots := 0, locals := 12 } : Room).slots) := by
  refine MetFree.of_bodySF (plainFor_of_name own_pn0) hisR ?_
  intro p e s m args below meth c s₁ Bd hml0 hP hK
  obtain ⟨rfl, hZ, hh⟩ := hP
  have hx := Bd.exec
  have hby := Bd.bytes
  have hml : c.maxLocals = 4 := hml0
  have hown : s.vm.findClass "com/example/balcon/balcon/model/Position" = some m.cls := findClass_of_methodNamed Bd.named
  have hnm := (name_of_methodNamed Bd.named Bd.method).1
  have hlk : meth.locks = false := BodyLoose.notSynchronized Bd
  have X0 : Stand p l e ({ frames := 1, cells := 0, slots := 0, locals := 12 } : Room) s m #[(.ref o0), (.int p1), (.long q2)] below meth c s₁ [] 0 0 := Stand.of_body Bd
  have e0 : s₁.heap = h0 := by rw [← hh, Bd.state]; rfl
  have N0 := Fr.nil n0
  show own_Ends p e below s (own_Q_own_init Z o0 p1 q2 h0 n0) ({ frames := 1, cells := 0, slots := 0, locals := 12 } : Room).cells ({ frames := 1, cells := 0, slots := 0, locals := 12 } : Room).slots _
  refine own_by (V := s₁.setTop (mkF m 0 #[.val (.ref o0), .val (.int p1), .val (.long q2), .second] [])) (fun t k => castTop (own_ef_own_init m o0 p1 q2) k) ?_
  refine own_by (V := s₁.setTop (mkF m 1 #[.val (.ref o0), .val (.int p1), .val (.long q2), .second] [(.ref o0)])) (fun t k => XS.aloadN X0.here hx rfl (hb hby own_d_prog_17_1_0) rfl rfl k) ?_
  obtain ⟨T1, X1, e1, st1⟩ := initO X0 hx hZ hown (hw _ (List.mem_of_getElem? (i := 8) rfl)) (hw _ (List.mem_of_getElem? (i := 9) rfl)) (hw _ (List.mem_of_getElem? (i := 10) rfl)) e0 (g := (mkF m 1 #[.val (.ref o0), .val (.int p1), .val (.long q2), .second] [(.ref o0)])) rfl (by rw [hml]; rfl) rfl (hb hby own_d_prog_17_1_1) (by decide) (W := 0) (by show 2 * 0 + _ ≤ _; exact Nat.le_of_eq rfl) (by decide)
  refine own_by (V := T1.setTop (mkF m 4 #[.val (.ref o0), .val (.int p1), .val (.long q2), .second] [])) st1 ?_
  refine own_by (V := T1.setTop (mkF m 5 #[.val (.ref o0), .val (.int p1), .val (.long q2), .second] [(.int p1)])) (fun t k => XS.iloadN X1.here hx rfl (hb hby own_d_prog_17_1_4) rfl  k) ?_
  have hb5_2 : ¬ (p1 < (0 : Int32)) := hp
  refine own_by (V := T1.setTop (mkF m 8 #[.val (.ref o0), .val (.int p1), .val (.long q2), .second] [])) (fun t k => XS.ifNo X1.here hx rfl (hb hby own_d_prog_17_1_5) rfl ((if0 _ _).trans (flt hb5_2).1) k) ?_
  refine own_by (V := T1.setTop (mkF m 9 #[.val (.ref o0), .val (.int p1), .val (.long q2), .second] [(.long q2)])) (fun t k => XS.lloadN X1.here hx rfl (hb hby own_d_prog_17_1_8) rfl  k) ?_
  refine own_by (V := T1.setTop (mkF m 10 #[.val (.ref o0), .val (.int p1), .val (.long q2), .second] [(.long (0 : Int64)), (.long q2)])) (fun t k => XS.lconst X1.here hx rfl (hb hby own_d_prog_17_1_9) k) ?_
  refine own_by (V := T1.setTop (mkF m 11 #[.val (.ref o0), .val (.int p1), .val (.long q2), .second] [(.int (lcmpW q2 (0 : Int64)))])) (fun t k => XS.lcmp X1.here hx rfl (hb hby own_d_prog_17_1_10) rfl k) ?_
  have hb11_3 : ¬ ((lcmpW q2 (0 : Int64)) < (0 : Int32)) := fun q => hq ((lw_lt _ _).mp q)
  refine own_by (V := T1.setTop (mkF m 29 #[.val (.ref o0), .val (.int p1), .val (.long q2), .second] [])) (fun t k => XS.ifYes X1.here hx rfl (pc0 := 11) (pc' := 29) rfl (hb hby own_d_prog_17_1_11) rfl ((if0 _ _).trans (flt hb11_3).2.1) (by decide) (by decide) k) ?_
  refine own_by (V := T1.setTop (mkF m 30 #[.val (.ref o0), .val (.int p1), .val (.long q2), .second] [(.ref o0)])) (fun t k => XS.aloadN X1.here hx rfl (hb hby own_d_prog_17_1_29) rfl rfl k) ?_
  refine own_by (V := T1.setTop (mkF m 31 #[.val (.ref o0), .val (.int p1), .val (.long q2), .second] [(.int p1), (.ref o0)])) (fun t k => XS.iloadN X1.here hx rfl (hb hby own_d_prog_17_1_30) rfl  k) ?_
  obtain ⟨T4, h4, X4, e4, W4, st4⟩ := putF X1 hx hZ hown (host := "") (Or.inl (hw _ (List.mem_of_getElem? (i := 11) rfl))) Via.refl e1 F_partition E0 (Or.inr ⟨(hw _ (List.mem_of_getElem? (i := 12) rfl)), rfl, hnm⟩) (hw _ (List.mem_of_getElem? (i := 3) rfl)) (ty := .int) (by decide) rfl rfl (g := (mkF m 31 #[.val (.ref o0), .val (.int p1), .val (.long q2), .second] [(.int p1), (.ref o0)])) rfl rfl (hb hby own_d_prog_17_1_31)
  have N4 := Fr.snoc X4 N0 g0
  have K4 := (Keep.refl h0 [o0]).wr W4 (Or.inl (List.mem_singleton.mpr rfl))
  have Zs4 : n0 ≤ h4.size := by rw [W4.size]; exact Z0
  have f5 := E0.wr W4
  have f6 := F_partition.same W4
  have f7 := F_offset.other W4 (Or.inr (slot_ne (Or.inr (hw _ (List.mem_of_getElem? (i := 14) rfl))) (Or.inr (hw _ (List.mem_of_getElem? (i := 12) rfl))) (by decide) (t := .long) (t' := .int) (by decide) (by decide)))
  refine own_by (V := T4.setTop (mkF m 34 #[.val (.ref o0), .val (.int p1), .val (.long q2), .second] [])) st4 ?_
  refine own_by (V := T4.setTop (mkF m 35 #[.val (.ref o0), .val (.int p1), .val (.long q2), .second] [(.ref o0)])) (fun t k => XS.aloadN X4.here hx rfl (hb hby own_d_prog_17_1_34) rfl rfl k) ?_
  refine own_by (V := T4.setTop (mkF m 36 #[.val (.ref o0), .val (.int p1), .val (.long q2), .second] [(.long q2), (.ref o0)])) (fun t k => XS.lloadN X4.here hx rfl (hb hby own_d_prog_17_1_35) rfl  k) ?_
  obtain ⟨T8, h8, X8, e8, W8, st8⟩ := putF X4 hx hZ hown (host := "") (Or.inl (hw _ (List.mem_of_getElem? (i := 13) rfl))) Via.refl e4 f7 f5 (Or.inr ⟨(hw _ (List.mem_of_getElem? (i := 14) rfl)), rfl, hnm⟩) (hw _ (List.mem_of_getElem? (i := 3) rfl)) (ty := .long) (by decide) rfl rfl (g := (mkF m 36 #[.val (.ref o0), .val (.int p1), .val (.long q2), .second] [(.long q2), (.ref o0)])) rfl rfl (hb hby own_d_prog_17_1_36)
  have N8 := Fr.snoc X8 N4 g0
  have K8 := K4.wr W8 (Or.inl (List.mem_singleton.mpr rfl))
  have Zs8 : n0 ≤ h8.size := by rw [W8.size]; exact Zs4
  have f9 := f5.wr W8
  have f10 := f6.other W8 (Or.inr (slot_ne (Or.inr (hw _ (List.mem_of_getElem? (i := 12) rfl))) (Or.inr (hw _ (List.mem_of_getElem? (i := 14) rfl))) (by decide) (t := .int) (t' := .long) (by decide) (by decide)))
  have f11 := f7.same W8
  refine own_by (V := T8.setTop (mkF m 39 #[.val (.ref o0), .val (.int p1), .val (.long q2), .second] [])) st8 ?_
  refine own_ret0 X8 hx hlk e8 Bd.returns (hb hby own_d_prog_17_1_39) ?_ (by decide) (by decide)
  exact ⟨rfl, N8, K8, f9, f10, f11⟩
def own_Q_own_eqPos (Z : State) (o0 : Addr) (o1 : Addr) (u0_partition : Int32) (u1_partition : Int32) (u0_offset : Int64) (u1_offset : Int64) (h0 : Heap) (n0 : Nat) : Option Value → Heap → List Loc → Prop := fun v h L => v = some (.int (own_eqP u0_partition u1_partition u0_offset u1_offset)) ∧ Fr n0 L ∧ h = h0
theorem own_ef_own_eqPos (m : MethodId) (x0 : Addr) (x1 : Addr) : entryFrame m #[(.ref x0), (.ref x1)] 3 = mkF m 0 #[.val (.ref x0), .val (.ref x1), .unset] [] := by first | (simp [entryFrame, mkF, argsToLocals, Value.category]; done) | rfl
set_option maxRecDepth 65536 in
set_option maxHeartbeats 40000000 in
theorem own_eqPos (l : Launch) (Z : State) (a0 : Array Value) (hw : ∀ d ∈ tables_1, d.before a0 Z = true) (ws : List Jvm.Cond) (o0 : Addr) (o1 : Addr) (u0_partition : Int32) (u1_partition : Int32) (u0_offset : Int64) (u1_offset : Int64) (h0 : Heap) (n0 : Nat) (F0_partition : Fld Z h0 o0 "com/example/balcon/balcon/model/Position" "partition" "I" (.int u0_partition)) (F1_partition : Fld Z h0 o1 "com/example/balcon/balcon/model/Position" "partition" "I" (.int u1_partition)) (F0_offset : Fld Z h0 o0 "com/example/balcon/balcon/model/Position" "offset" "J" (.long u0_offset)) (F1_offset : Fld Z h0 o1 "com/example/balcon/balcon/model/Position" "offset" "J" (.long u1_offset)) (E1 : Exa Z h0 o1 "com/example/balcon/balcon/model/Position") :
    MetFree l (⟨"com/example/balcon/balcon/model/Position", "equals", "(Ljava/lang/Object;)Z"⟩ : MethodName) (head1 (Jvm.Cond.code (⟨"com/example/balcon/balcon/model/Position", "equals", "(Ljava/lang/Object;)Z"⟩ : MethodName) prog_17_method_4_code 3 (some .boolean) :: ws) ({ frames := 0, cells := 0, slots := 0, locals := 0 } : Room)) (fun a U => a = #[(.ref o0), (.ref o1)] ∧ Z.Warmed39 U.vm ∧ U.heap = h0) (fun _ _ _ _ _ => True) (fun _ U o U' => ∃ v L, o = .returned v ∧ (own_Q_own_eqPos Z o0 o1 u0_partition u1_partition u0_offset u1_offset h0 n0) v U'.heap L ∧ FrameEnd U o U' L ({ frames := 0, cells := 0, slots := 0, locals := 0 } : Room).cells ({ frames := 0, cells := 0, slots := 0, locals := 0 } : Room).slots) := by
  refine MetFree.of_bodySF (plainFor_of_name own_pn0) hisR ?_
  intro p e s m args below meth c s₁ Bd hml0 hP hK
  obtain ⟨rfl, hZ, hh⟩ := hP
  have hx := Bd.exec
  have hby := Bd.bytes
  have hml : c.maxLocals = 3 := hml0
  have hown : s.vm.findClass "com/example/balcon/balcon/model/Position" = some m.cls := findClass_of_methodNamed Bd.named
  have hnm := (name_of_methodNamed Bd.named Bd.method).1
  have hlk : meth.locks = false := BodyLoose.notSynchronized Bd
  have X0 : Stand p l e ({ frames := 0, cells := 0, slots := 0, locals := 0 } : Room) s m #[(.ref o0), (.ref o1)] below meth c s₁ [] 0 0 := Stand.of_body Bd
  have e0 : s₁.heap = h0 := by rw [← hh, Bd.state]; rfl
  have N0 := Fr.nil n0
  show own_Ends p e below s (own_Q_own_eqPos Z o0 o1 u0_partition u1_partition u0_offset u1_offset h0 n0) ({ frames := 0, cells := 0, slots := 0, locals := 0 } : Room).cells ({ frames := 0, cells := 0, slots := 0, locals := 0 } : Room).slots _
  refine own_by (V := s₁.setTop (mkF m 0 #[.val (.ref o0), .val (.ref o1), .unset] [])) (fun t k => castTop (own_ef_own_eqPos m o0 o1) k) ?_
  refine own_by (V := s₁.setTop (mkF m 1 #[.val (.ref o0), .val (.ref o1), .unset] [(.ref o1)])) (fun t k => XS.aloadN X0.here hx rfl (hb hby own_d_prog_17_4_0) rfl rfl k) ?_
  obtain ⟨T1, X1, e1, st1⟩ := instY X0 hx hZ hown (hw _ (List.mem_of_getElem? (i := 20) rfl)) e0 (Ins.self E1) (g := (mkF m 1 #[.val (.ref o0), .val (.ref o1), .unset] [(.ref o1)])) rfl rfl (hb hby own_d_prog_17_4_1)
  refine own_by (V := T1.setTop (mkF m 4 #[.val (.ref o0), .val (.ref o1), .unset] [(.int (1 : Int32))])) st1 ?_
  have hb4_2 : ¬ ((1 : Int32) = (0 : Int32)) := by decide
  refine own_by (V := T1.setTop (mkF m 9 #[.val (.ref o0), .val (.ref o1), .unset] [])) (fun t k => XS.ifYes X1.here hx rfl (pc0 := 4) (pc' := 9) rfl (hb hby own_d_prog_17_4_4) rfl ((if0 _ _).trans (feq hb4_2).2) (by decide) (by decide) k) ?_
  refine own_by (V := T1.setTop (mkF m 10 #[.val (.ref o0), .val (.ref o1), .unset] [(.ref o1)])) (fun t k => XS.aloadN X1.here hx rfl (hb hby own_d_prog_17_4_9) rfl rfl k) ?_
  obtain ⟨T3, X3, e3, st3⟩ := castY X1 hx hZ hown (hw _ (List.mem_of_getElem? (i := 20) rfl)) e1 (Ins.self E1) (g := (mkF m 10 #[.val (.ref o0), .val (.ref o1), .unset] [(.ref o1)])) rfl rfl (hb hby own_d_prog_17_4_10)
  refine own_by (V := T3.setTop (mkF m 13 #[.val (.ref o0), .val (.ref o1), .unset] [(.ref o1)])) st3 ?_
  refine own_by (V := T3.setTop (mkF m 14 #[.val (.ref o0), .val (.ref o1), .val (.ref o1)] [])) (fun t k => XS.astoreN X3.here hx rfl (hb hby own_d_prog_17_4_13) rfl rfl (l' := #[.val (.ref o0), .val (.ref o1), .val (.ref o1)]) rfl k) ?_
  refine own_by (V := T3.setTop (mkF m 15 #[.val (.ref o0), .val (.ref o1), .val (.ref o1)] [(.ref o0)])) (fun t k => XS.aloadN X3.here hx rfl (hb hby own_d_prog_17_4_14) rfl rfl k) ?_
  obtain ⟨T4, X4, e4, st4⟩ := getF X3 hx hZ hown (host := "") (Or.inl (hw _ (List.mem_of_getElem? (i := 11) rfl))) Via.refl e3 F0_partition (g := (mkF m 15 #[.val (.ref o0), .val (.ref o1), .val (.ref o1)] [(.ref o0)])) rfl rfl (hb hby own_d_prog_17_4_15)
  refine own_by (V := T4.setTop (mkF m 18 #[.val (.ref o0), .val (.ref o1), .val (.ref o1)] [(.int u0_partition)])) st4 ?_
  refine own_by (V := T4.setTop (mkF m 19 #[.val (.ref o0), .val (.ref o1), .val (.ref o1)] [(.ref o1), (.int u0_partition)])) (fun t k => XS.aloadN X4.here hx rfl (hb hby own_d_prog_17_4_18) rfl rfl k) ?_
  obtain ⟨T5, X5, e5, st5⟩ := getF X4 hx hZ hown (host := "") (Or.inl (hw _ (List.mem_of_getElem? (i := 11) rfl))) Via.refl e4 F1_partition (g := (mkF m 19 #[.val (.ref o0), .val (.ref o1), .val (.ref o1)] [(.ref o1), (.int u0_partition)])) rfl rfl (hb hby own_d_prog_17_4_19)
  refine own_by (V := T5.setTop (mkF m 22 #[.val (.ref o0), .val (.ref o1), .val (.ref o1)] [(.int u1_partition), (.int u0_partition)])) st5 ?_
  by_cases hb22_6 : u0_partition = u1_partition
  · refine own_by (V := T5.setTop (mkF m 25 #[.val (.ref o0), .val (.ref o1), .val (.ref o1)] [])) (fun t k => XS.icmpNo X5.here hx rfl (hb hby own_d_prog_17_4_22) rfl (teq hb22_6).2 k) ?_
    refine own_by (V := T5.setTop (mkF m 26 #[.val (.ref o0), .val (.ref o1), .val (.ref o1)] [(.ref o0)])) (fun t k => XS.aloadN X5.here hx rfl (hb hby own_d_prog_17_4_25) rfl rfl k) ?_
    obtain ⟨T7, X7, e7, st7⟩ := getF X5 hx hZ hown (host := "") (Or.inl (hw _ (List.mem_of_getElem? (i := 13) rfl))) Via.refl e5 F0_offset (g := (mkF m 26 #[.val (.ref o0), .val (.ref o1), .val (.ref o1)] [(.ref o0)])) rfl rfl (hb hby own_d_prog_17_4_26)
    refine own_by (V := T7.setTop (mkF m 29 #[.val (.ref o0), .val (.ref o1), .val (.ref o1)] [(.long u0_offset)])) st7 ?_
    refine own_by (V := T7.setTop (mkF m 30 #[.val (.ref o0), .val (.ref o1), .val (.ref o1)] [(.ref o1), (.long u0_offset)])) (fun t k => XS.aloadN X7.here hx rfl (hb hby own_d_prog_17_4_29) rfl rfl k) ?_
    obtain ⟨T8, X8, e8, st8⟩ := getF X7 hx hZ hown (host := "") (Or.inl (hw _ (List.mem_of_getElem? (i := 13) rfl))) Via.refl e7 F1_offset (g := (mkF m 30 #[.val (.ref o0), .val (.ref o1), .val (.ref o1)] [(.ref o1), (.long u0_offset)])) rfl rfl (hb hby own_d_prog_17_4_30)
    refine own_by (V := T8.setTop (mkF m 33 #[.val (.ref o0), .val (.ref o1), .val (.ref o1)] [(.long u1_offset), (.long u0_offset)])) st8 ?_
    refine own_by (V := T8.setTop (mkF m 34 #[.val (.ref o0), .val (.ref o1), .val (.ref o1)] [(.int (lcmpW u0_offset u1_offset))])) (fun t k => XS.lcmp X8.here hx rfl (hb hby own_d_prog_17_4_33) rfl k) ?_
    by_cases hb34_9 : (lcmpW u0_offset u1_offset) = (0 : Int32)
    · refine own_by (V := T8.setTop (mkF m 37 #[.val (.ref o0), .val (.ref o1), .val (.ref o1)] [])) (fun t k => XS.ifNo X8.here hx rfl (hb hby own_d_prog_17_4_34) rfl ((if0 _ _).trans (teq hb34_9).2) k) ?_
      refine own_by (V := T8.setTop (mkF m 38 #[.val (.ref o0), .val (.ref o1), .val (.ref o1)] [(.int (1 : Int32))])) (fun t k => XS.iconst X8.here hx rfl (hb hby own_d_prog_17_4_37) k) ?_
      refine own_by (V := T8.setTop (mkF m 42 #[.val (.ref o0), .val (.ref o1), .val (.ref o1)] [(.int (1 : Int32))])) (fun t k => XS.goto X8.here hx rfl (pc0 := 38) (pc' := 42) rfl (hb hby own_d_prog_17_4_38) (by decide) (by decide) k) ?_
      refine own_retN X8 hx hlk e8 Bd.returns (t := .boolean) (by simp) rfl (hb hby own_d_prog_17_4_42) ?_ (by decide) (by decide)
      exact ⟨congrArg (fun z => some (Value.int z)) (show (1 : Int32) = (own_eqP u0_partition u1_partition u0_offset u1_offset) from by exact (if_pos ⟨hb22_6, (lw_eq _ _).mp hb34_9⟩).symm), N0, rfl⟩
    · refine own_by (V := T8.setTop (mkF m 41 #[.val (.ref o0), .val (.ref o1), .val (.ref o1)] [])) (fun t k => XS.ifYes X8.here hx rfl (pc0 := 34) (pc' := 41) rfl (hb hby own_d_prog_17_4_34) rfl ((if0 _ _).trans (feq hb34_9).2) (by decide) (by decide) k) ?_
      refine own_by (V := T8.setTop (mkF m 42 #[.val (.ref o0), .val (.ref o1), .val (.ref o1)] [(.int (0 : Int32))])) (fun t k => XS.iconst X8.here hx rfl (hb hby own_d_prog_17_4_41) k) ?_
      refine own_retN X8 hx hlk e8 Bd.returns (t := .boolean) (by simp) rfl (hb hby own_d_prog_17_4_42) ?_ (by decide) (by decide)
      exact ⟨congrArg (fun z => some (Value.int z)) (show (0 : Int32) = (own_eqP u0_partition u1_partition u0_offset u1_offset) from by exact (if_neg fun q => hb34_9 ((lw_eq _ _).mpr q.2)).symm), N0, rfl⟩
  · refine own_by (V := T5.setTop (mkF m 41 #[.val (.ref o0), .val (.ref o1), .val (.ref o1)] [])) (fun t k => XS.icmpYes X5.here hx rfl (pc0 := 22) (pc' := 41) rfl (hb hby own_d_prog_17_4_22) rfl (feq hb22_6).2 (by decide) (by decide) k) ?_
    refine own_by (V := T5.setTop (mkF m 42 #[.val (.ref o0), .val (.ref o1), .val (.ref o1)] [(.int (0 : Int32))])) (fun t k => XS.iconst X5.here hx rfl (hb hby own_d_prog_17_4_41) k) ?_
    refine own_retN X5 hx hlk e5 Bd.returns (t := .boolean) (by simp) rfl (hb hby own_d_prog_17_4_42) ?_ (by decide) (by decide)
    exact ⟨congrArg (fun z => some (Value.int z)) (show (0 : Int32) = (own_eqP u0_partition u1_partition u0_offset u1_offset) from by exact (if_neg fun q => hb22_6 q.1).symm), N0, rfl⟩
def own_Q_own_eqNull (Z : State) (o0 : Addr) (h0 : Heap) (n0 : Nat) : Option Value → Heap → List Loc → Prop := fun v h L => v = some (.int (0 : Int32)) ∧ Fr n0 L ∧ h = h0
theorem own_ef_own_eqNull (m : MethodId) (x0 : Addr) : entryFrame m #[(.ref x0), .null] 3 = mkF m 0 #[.val (.ref x0), .val .null, .unset] [] := by first | (simp [entryFrame, mkF, argsToLocals, Value.category]; done) | rfl
set_option maxRecDepth 65536 in
set_option maxHeartbeats 40000000 in
theorem own_eqNull (l : Launch) (Z : State) (a0 : Array Value) (hw : ∀ d ∈ tables_1, d.before a0 Z = true) (ws : List Jvm.Cond) (o0 : Addr) (h0 : Heap) (n0 : Nat) :
    MetFree l (⟨"com/example/balcon/balcon/model/Position", "equals", "(Ljava/lang/Object;)Z"⟩ : MethodName) (head1 (Jvm.Cond.code (⟨"com/example/balcon/balcon/model/Position", "equals", "(Ljava/lang/Object;)Z"⟩ : MethodName) prog_17_method_4_code 3 (some .boolean) :: ws) ({ frames := 0, cells := 0, slots := 0, locals := 0 } : Room)) (fun a U => a = #[(.ref o0), .null] ∧ Z.Warmed39 U.vm ∧ U.heap = h0) (fun _ _ _ _ _ => True) (fun _ U o U' => ∃ v L, o = .returned v ∧ (own_Q_own_eqNull Z o0 h0 n0) v U'.heap L ∧ FrameEnd U o U' L ({ frames := 0, cells := 0, slots := 0, locals := 0 } : Room).cells ({ frames := 0, cells := 0, slots := 0, locals := 0 } : Room).slots) := by
  refine MetFree.of_bodySF (plainFor_of_name own_pn0) hisR ?_
  intro p e s m args below meth c s₁ Bd hml0 hP hK
  obtain ⟨rfl, hZ, hh⟩ := hP
  have hx := Bd.exec
  have hby := Bd.bytes
  have hml : c.maxLocals = 3 := hml0
  have hown : s.vm.findClass "com/example/balcon/balcon/model/Position" = some m.cls := findClass_of_methodNamed Bd.named
  have hnm := (name_of_methodNamed Bd.named Bd.method).1
  have hlk : meth.locks = false := BodyLoose.notSynchronized Bd
  have X0 : Stand p l e ({ frames := 0, cells := 0, slots := 0, locals := 0 } : Room) s m #[(.ref o0), .null] below meth c s₁ [] 0 0 := Stand.of_body Bd
  have e0 : s₁.heap = h0 := by rw [← hh, Bd.state]; rfl
  have N0 := Fr.nil n0
  show own_Ends p e below s (own_Q_own_eqNull Z o0 h0 n0) ({ frames := 0, cells := 0, slots := 0, locals := 0 } : Room).cells ({ frames := 0, cells := 0, slots := 0, locals := 0 } : Room).slots _
  refine own_by (V := s₁.setTop (mkF m 0 #[.val (.ref o0), .val .null, .unset] [])) (fun t k => castTop (own_ef_own_eqNull m o0) k) ?_
  refine own_by (V := s₁.setTop (mkF m 1 #[.val (.ref o0), .val .null, .unset] [.null])) (fun t k => XS.aloadN X0.here hx rfl (hb hby own_d_prog_17_4_0) rfl rfl k) ?_
  refine own_by (V := s₁.setTop (mkF m 4 #[.val (.ref o0), .val .null, .unset] [(.int (0 : Int32))])) (Jvm.Stand.instanceofNull X0 hx (g := (mkF m 1 #[.val (.ref o0), .val .null, .unset] [.null])) rfl rfl (hb hby own_d_prog_17_4_1)) ?_
  have hb4_2 : ((0 : Int32) = (0 : Int32)) := by decide
  refine own_by (V := s₁.setTop (mkF m 7 #[.val (.ref o0), .val .null, .unset] [])) (fun t k => XS.ifNo X0.here hx rfl (hb hby own_d_prog_17_4_4) rfl ((if0 _ _).trans (teq hb4_2).2) k) ?_
  refine own_by (V := s₁.setTop (mkF m 8 #[.val (.ref o0), .val .null, .unset] [(.int (0 : Int32))])) (fun t k => XS.iconst X0.here hx rfl (hb hby own_d_prog_17_4_7) k) ?_
  refine own_retN X0 hx hlk e0 Bd.returns (t := .boolean) (by simp) rfl (hb hby own_d_prog_17_4_8) ?_ (by decide) (by decide)
  exact ⟨congrArg (fun z => some (Value.int z)) (show (0 : Int32) = (0 : Int32) from by rfl), N0, rfl⟩
def own_Q_own_eqBox (Z : State) (o0 : Addr) (o1 : Addr) (h0 : Heap) (n0 : Nat) : Option Value → Heap → List Loc → Prop := fun v h L => v = some (.int (0 : Int32)) ∧ Fr n0 L ∧ h = h0
theorem own_ef_own_eqBox (m : MethodId) (x0 : Addr) (x1 : Addr) : entryFrame m #[(.ref x0), (.ref x1)] 3 = mkF m 0 #[.val (.ref x0), .val (.ref x1), .unset] [] := by first | (simp [entryFrame, mkF, argsToLocals, Value.category]; done) | rfl
set_option maxRecDepth 65536 in
set_option maxHeartbeats 40000000 in
theorem own_eqBox (l : Launch) (Z : State) (a0 : Array Value) (hw : ∀ d ∈ tables_1, d.before a0 Z = true) (ws : List Jvm.Cond) (o0 : Addr) (o1 : Addr) (h0 : Heap) (n0 : Nat) (E1 : Exa Z h0 o1 "java/lang/Integer") :
    MetFree l (⟨"com/example/balcon/balcon/model/Position", "equals", "(Ljava/lang/Object;)Z"⟩ : MethodName) (head1 (Jvm.Cond.code (⟨"com/example/balcon/balcon/model/Position", "equals", "(Ljava/lang/Object;)Z"⟩ : MethodName) prog_17_method_4_code 3 (some .boolean) :: ws) ({ frames := 0, cells := 0, slots := 0, locals := 0 } : Room)) (fun a U => a = #[(.ref o0), (.ref o1)] ∧ Z.Warmed39 U.vm ∧ U.heap = h0) (fun _ _ _ _ _ => True) (fun _ U o U' => ∃ v L, o = .returned v ∧ (own_Q_own_eqBox Z o0 o1 h0 n0) v U'.heap L ∧ FrameEnd U o U' L ({ frames := 0, cells := 0, slots := 0, locals := 0 } : Room).cells ({ frames := 0, cells := 0, slots := 0, locals := 0 } : Room).slots) := by
  refine MetFree.of_bodySF (plainFor_of_name own_pn0) hisR ?_
  intro p e s m args below meth c s₁ Bd hml0 hP hK
  obtain ⟨rfl, hZ, hh⟩ := hP
  have hx := Bd.exec
  have hby := Bd.bytes
  have hml : c.maxLocals = 3 := hml0
  have hown : s.vm.findClass "com/example/balcon/balcon/model/Position" = some m.cls := findClass_of_methodNamed Bd.named
  have hnm := (name_of_methodNamed Bd.named Bd.method).1
  have hlk : meth.locks = false := BodyLoose.notSynchronized Bd
  have X0 : Stand p l e ({ frames := 0, cells := 0, slots := 0, locals := 0 } : Room) s m #[(.ref o0), (.ref o1)] below meth c s₁ [] 0 0 := Stand.of_body Bd
  have e0 : s₁.heap = h0 := by rw [← hh, Bd.state]; rfl
  have N0 := Fr.nil n0
  show own_Ends p e below s (own_Q_own_eqBox Z o0 o1 h0 n0) ({ frames := 0, cells := 0, slots := 0, locals := 0 } : Room).cells ({ frames := 0, cells := 0, slots := 0, locals := 0 } : Room).slots _
  refine own_by (V := s₁.setTop (mkF m 0 #[.val (.ref o0), .val (.ref o1), .unset] [])) (fun t k => castTop (own_ef_own_eqBox m o0 o1) k) ?_
  refine own_by (V := s₁.setTop (mkF m 1 #[.val (.ref o0), .val (.ref o1), .unset] [(.ref o1)])) (fun t k => XS.aloadN X0.here hx rfl (hb hby own_d_prog_17_4_0) rfl rfl k) ?_
  obtain ⟨T1, X1, e1, st1⟩ := instNo X0 hx hZ hown (hw _ (List.mem_of_getElem? (i := 20) rfl)) e0 E1 (own_notOf (hw _ (List.mem_of_getElem? (i := 29) rfl)) (hw _ (List.mem_of_getElem? (i := 3) rfl)) (NS.step (hw _ (List.mem_of_getElem? (i := 29) rfl)) (NS.step (hw _ (List.mem_of_getElem? (i := 30) rfl)) (own_nsRoot (hw _ (List.mem_of_getElem? (i := 31) rfl)) (hw _ (List.mem_of_getElem? (i := 3) rfl)) (by decide)) (by decide)) (by decide)) (by decide)) (g := (mkF m 1 #[.val (.ref o0), .val (.ref o1), .unset] [(.ref o1)])) rfl rfl (hb hby own_d_prog_17_4_1)
  refine own_by (V := T1.setTop (mkF m 4 #[.val (.ref o0), .val (.ref o1), .unset] [(.int (0 : Int32))])) st1 ?_
  have hb4_2 : ((0 : Int32) = (0 : Int32)) := by decide
  refine own_by (V := T1.setTop (mkF m 7 #[.val (.ref o0), .val (.ref o1), .unset] [])) (fun t k => XS.ifNo X1.here hx rfl (hb hby own_d_prog_17_4_4) rfl ((if0 _ _).trans (teq hb4_2).2) k) ?_
  refine own_by (V := T1.setTop (mkF m 8 #[.val (.ref o0), .val (.ref o1), .unset] [(.int (0 : Int32))])) (fun t k => XS.iconst X1.here hx rfl (hb hby own_d_prog_17_4_7) k) ?_
  refine own_retN X1 hx hlk e1 Bd.returns (t := .boolean) (by simp) rfl (hb hby own_d_prog_17_4_8) ?_ (by decide) (by decide)
  exact ⟨congrArg (fun z => some (Value.int z)) (show (0 : Int32) = (0 : Int32) from by rfl), N0, rfl⟩
def own_Q_own_nb (Z : State) (o0 : Addr) (h0 : Heap) (n0 : Nat) : Option Value → Heap → List Loc → Prop := fun v h L => v = none ∧ Fr n0 L ∧ h = h0
theorem own_ef_own_nb (m : MethodId) (x0 : Addr) : entryFrame m #[(.ref x0)] 1 = mkF m 0 #[.val (.ref x0)] [] := by first | (simp [entryFrame, mkF, argsToLocals, Value.category]; done) | rfl
set_option maxRecDepth 65536 in
set_option maxHeartbeats 40000000 in
theorem own_nb (l : Launch) (Z : State) (a0 : Array Value) (hw : ∀ d ∈ tables_1, d.before a0 Z = true) (ws : List Jvm.Cond) (o0 : Addr) (h0 : Heap) (n0 : Nat) :
    MetFree l (⟨"java/lang/Number", "<init>", "()V"⟩ : MethodName) (head1 (Jvm.Cond.code (⟨"java/lang/Number", "<init>", "()V"⟩ : MethodName) jdk_18_method_1_code 1 none :: ws) ({ frames := 1, cells := 0, slots := 0, locals := 12 } : Room)) (fun a U => a = #[(.ref o0)] ∧ Z.Warmed39 U.vm ∧ U.heap = h0) (fun _ _ _ _ _ => True) (fun _ U o U' => ∃ v L, o = .returned v ∧ (own_Q_own_nb Z o0 h0 n0) v U'.heap L ∧ FrameEnd U o U' L ({ frames := 1, cells := 0, slots := 0, locals := 12 } : Room).cells ({ frames := 1, cells := 0, slots := 0, locals := 12 } : Room).slots) := by
  refine MetFree.of_bodySF (plainFor_of_name own_pn1) hisR ?_
  intro p e s m args below meth c s₁ Bd hml0 hP hK
  obtain ⟨rfl, hZ, hh⟩ := hP
  have hx := Bd.exec
  have hby := Bd.bytes
  have hml : c.maxLocals = 1 := hml0
  have hown : s.vm.findClass "java/lang/Number" = some m.cls := findClass_of_methodNamed Bd.named
  have hnm := (name_of_methodNamed Bd.named Bd.method).1
  have hlk : meth.locks = false := BodyLoose.notSynchronized Bd
  have X0 : Stand p l e ({ frames := 1, cells := 0, slots := 0, locals := 12 } : Room) s m #[(.ref o0)] below meth c s₁ [] 0 0 := Stand.of_body Bd
  have e0 : s₁.heap = h0 := by rw [← hh, Bd.state]; rfl
  have N0 := Fr.nil n0
  show own_Ends p e below s (own_Q_own_nb Z o0 h0 n0) ({ frames := 1, cells := 0, slots := 0, locals := 12 } : Room).cells ({ frames := 1, cells := 0, slots := 0, locals := 12 } : Room).slots _
  refine own_by (V := s₁.setTop (mkF m 0 #[.val (.ref o0)] [])) (fun t k => castTop (own_ef_own_nb m o0) k) ?_
  refine own_by (V := s₁.setTop (mkF m 1 #[.val (.ref o0)] [(.ref o0)])) (fun t k => XS.aloadN X0.here hx rfl (hb hby own_d_jdk_18_1_0) rfl rfl k) ?_
  obtain ⟨T1, X1, e1, st1⟩ := initO X0 hx hZ hown (hw _ (List.mem_of_getElem? (i := 44) rfl)) (hw _ (List.mem_of_getElem? (i := 9) rfl)) (hw _ (List.mem_of_getElem? (i := 10) rfl)) e0 (g := (mkF m 1 #[.val (.ref o0)] [(.ref o0)])) rfl (by rw [hml]; rfl) rfl (hb hby own_d_jdk_18_1_1) (by decide) (W := 0) (by show 2 * 0 + _ ≤ _; exact Nat.le_of_eq rfl) (by decide)
  refine own_by (V := T1.setTop (mkF m 4 #[.val (.ref o0)] [])) st1 ?_
  refine own_ret0 X1 hx hlk e1 Bd.returns (hb hby own_d_jdk_18_1_4) ?_ (by decide) (by decide)
  exact ⟨rfl, N0, rfl⟩
def own_Q_own_boxinit (Z : State) (o0 : Addr) (p1 : Int32) (h0 : Heap) (n0 : Nat) : Option Value → Heap → List Loc → Prop := fun v h L => v = none ∧ Fr n0 L ∧ Keep h0 h [o0] ∧ Exa Z h o0 "java/lang/Integer" ∧ Fld Z h o0 "java/lang/Integer" "value" "I" (.int p1)
theorem own_ef_own_boxinit (m : MethodId) (x0 : Addr) (x1 : Int32) : entryFrame m #[(.ref x0), (.int x1)] 2 = mkF m 0 #[.val (.ref x0), .val (.int x1)] [] := by first | (simp [entryFrame, mkF, argsToLocals, Value.category]; done) | rfl
set_option maxRecDepth 65536 in
set_option maxHeartbeats 40000000 in
theorem own_boxinit (l : Launch) (Z : State) (a0 : Array Value) (hw : ∀ d ∈ tables_1, d.before a0 Z = true) (ws : List Jvm.Cond) (o0 : Addr) (p1 : Int32) (h0 : Heap) (n0 : Nat) (Z0 : n0 ≤ h0.size) (g0 : n0 ≤ o0) (E0 : Exa Z h0 o0 "java/lang/Integer") (F_value : Fld Z h0 o0 "java/lang/Integer" "value" "I" (.int (0 : Int32))) :
    MetFree l (⟨"java/lang/Integer", "<init>", "(I)V"⟩ : MethodName) (head1 (Jvm.Cond.code (⟨"java/lang/Integer", "<init>", "(I)V"⟩ : MethodName) jdk_33_method_23_code 2 none :: ws) ({ frames := 2, cells := 0, slots := 0, locals := 24 } : Room)) (fun a U => a = #[(.ref o0), (.int p1)] ∧ Z.Warmed39 U.vm ∧ U.heap = h0) (fun _ _ _ _ _ => True) (fun _ U o U' => ∃ v L, o = .returned v ∧ (own_Q_own_boxinit Z o0 p1 h0 n0) v U'.heap L ∧ FrameEnd U o U' L ({ frames := 2, cells := 0, slots := 0, locals := 24 } : Room).cells ({ frames := 2, cells := 0, slots := 0, locals := 24 } : Room).slots) := by
  refine MetFree.of_bodySF (plainFor_of_name own_pn2) hisR ?_
  intro p e s m args below meth c s₁ Bd hml0 hP hK
  obtain ⟨rfl, hZ, hh⟩ := hP
  have hx := Bd.exec
  have hby := Bd.bytes
  have hml : c.maxLocals = 2 := hml0
  have hown : s.vm.findClass "java/lang/Integer" = some m.cls := findClass_of_methodNamed Bd.named
  have hnm := (name_of_methodNamed Bd.named Bd.method).1
  have hlk : meth.locks = false := BodyLoose.notSynchronized Bd
  have X0 : Stand p l e ({ frames := 2, cells := 0, slots := 0, locals := 24 } : Room) s m #[(.ref o0), (.int p1)] below meth c s₁ [] 0 0 := Stand.of_body Bd
  have e0 : s₁.heap = h0 := by rw [← hh, Bd.state]; rfl
  have N0 := Fr.nil n0
  show own_Ends p e below s (own_Q_own_boxinit Z o0 p1 h0 n0) ({ frames := 2, cells := 0, slots := 0, locals := 24 } : Room).cells ({ frames := 2, cells := 0, slots := 0, locals := 24 } : Room).slots _
  refine own_by (V := s₁.setTop (mkF m 0 #[.val (.ref o0), .val (.int p1)] [])) (fun t k => castTop (own_ef_own_boxinit m o0 p1) k) ?_
  refine own_by (V := s₁.setTop (mkF m 1 #[.val (.ref o0), .val (.int p1)] [(.ref o0)])) (fun t k => XS.aloadN X0.here hx rfl (hb hby own_d_jdk_33_23_0) rfl rfl k) ?_
  obtain ⟨_, _, ⟨T1, Lq1, kq1, nq1⟩, -, X1, ⟨Lc1, hQ1, lq1, yq1, zq1⟩, st1⟩ := X0.specialBack hx (y := (⟨"java/lang/Number", "<init>", "()V"⟩ : MethodName)) rfl hown (mvT hZ (hw _ (List.mem_of_getElem? (i := 38) rfl))) (mvT hZ (hw _ (List.mem_of_getElem? (i := 39) rfl))) (mvT hZ (hw _ (List.mem_of_getElem? (i := 43) rfl))) (by decide) (backOf (W := 0) (own_nb l Z a0 hw [] o0 h0 n0 ) hZ (hw _ (List.mem_of_getElem? (i := 43) rfl)) (hw _ (List.mem_of_getElem? (i := 42) rfl)) (by decide) (by decide)) (g := (mkF m 1 #[.val (.ref o0), .val (.int p1)] [(.ref o0)])) rfl (by rw [hml]; rfl) (Steps.refl _) (a := o0) (argsL := []) (rest := []) (lenOf own_pd0 rfl) rfl (by show 2 * 0 + _ ≤ _; exact Nat.le_of_eq rfl) (hb hby own_d_jdk_33_23_1) (fun _ _ => ⟨rfl, e0, (by decide : 0 + 0 ≤ _), (by decide : 0 + 0 ≤ _)⟩)
  dsimp only [Pt.U, Pt.locs, Pt.cells, Pt.slots] at X1 lq1 yq1 zq1 st1 hQ1
  subst lq1 yq1 zq1
  obtain ⟨rfl, N1q, e1⟩ := hQ1
  have N1 := Fr.app N0 N1q
  refine own_by (V := T1.setTop (mkF m 4 #[.val (.ref o0), .val (.int p1)] [])) (fun t k => st1.trans k) ?_
  refine own_by (V := T1.setTop (mkF m 5 #[.val (.ref o0), .val (.int p1)] [(.ref o0)])) (fun t k => XS.aloadN X1.here hx rfl (hb hby own_d_jdk_33_23_4) rfl rfl k) ?_
  refine own_by (V := T1.setTop (mkF m 6 #[.val (.ref o0), .val (.int p1)] [(.int p1), (.ref o0)])) (fun t k => XS.iloadN X1.here hx rfl (hb hby own_d_jdk_33_23_5) rfl  k) ?_
  obtain ⟨T2, h2, X2, e2, W2, st2⟩ := putF X1 hx hZ hown (host := "") (Or.inl (hw _ (List.mem_of_getElem? (i := 45) rfl))) Via.refl e1 F_value E0 (Or.inr ⟨(hw _ (List.mem_of_getElem? (i := 46) rfl)), rfl, hnm⟩) (hw _ (List.mem_of_getElem? (i := 33) rfl)) (ty := .int) (by decide) rfl rfl (g := (mkF m 6 #[.val (.ref o0), .val (.int p1)] [(.int p1), (.ref o0)])) rfl rfl (hb hby own_d_jdk_33_23_6)
  have N2 := Fr.snoc X2 N1 g0
  have K2 := (Keep.refl h0 [o0]).wr W2 (Or.inl (List.mem_singleton.mpr rfl))
  have Zs2 : n0 ≤ h2.size := by rw [W2.size]; exact Z0
  have f3 := E0.wr W2
  have f4 := F_value.same W2
  refine own_by (V := T2.setTop (mkF m 9 #[.val (.ref o0), .val (.int p1)] [])) st2 ?_
  refine own_ret0 X2 hx hlk e2 Bd.returns (hb hby own_d_jdk_33_23_9) ?_ (by decide) (by decide)
  exact ⟨rfl, N2, K2, f3, f4⟩
def own_Q_own_valueOf (Z : State) (p0 : Int32) (wc : Addr) (clc : Cell) (h0 : Heap) (n0 : Nat) : Option Value → Heap → List Loc → Prop := fun v h L => ∃ r, v = some (.ref r) ∧ Fr n0 L ∧ Keep h0 h [] ∧ Exa Z h r "java/lang/Integer"
theorem own_ef_own_valueOf (m : MethodId) (x0 : Int32) : entryFrame m #[(.int x0)] 1 = mkF m 0 #[.val (.int x0)] [] := by first | (simp [entryFrame, mkF, argsToLocals, Value.category]; done) | rfl
set_option maxRecDepth 65536 in
set_option maxHeartbeats 40000000 in
theorem own_valueOf (l : Launch) (Z : State) (a0 : Array Value) (hw : ∀ d ∈ tables_1, d.before a0 Z = true) (ws : List Jvm.Cond) (p0 : Int32) (wc : Addr) (clc : Cell) (h0 : Heap) (n0 : Nat) (Z0 : n0 ≤ h0.size) (SC : Sta Z h0 "java/lang/Integer$IntegerCache" "cache" "[Ljava/lang/Integer;" (.ref wc)) (AC : Arr Z h0 wc clc (.object "java/lang/Integer")) (hsz : clc.slots.size = 256) (hel : ∀ j, j < 256 → ∃ b, clc.slots[j]? = some (.ref b) ∧ Exa Z h0 b "java/lang/Integer") (SH : Sta Z h0 "java/lang/Integer$IntegerCache" "high" "I" (.int (127 : Int32))) :
    MetFree l (⟨"java/lang/Integer", "valueOf", "(I)Ljava/lang/Integer;"⟩ : MethodName) (head1 (Jvm.Cond.code (⟨"java/lang/Integer", "valueOf", "(I)Ljava/lang/Integer;"⟩ : MethodName) jdk_33_method_22_code 1 (some (.object "java/lang/Integer")) :: ws) ({ frames := 3, cells := 1, slots := 1, locals := 38 } : Room)) (fun a U => a = #[(.int p0)] ∧ Z.Warmed39 U.vm ∧ U.heap = h0) (fun _ _ _ _ _ => True) (fun _ U o U' => ∃ v L, o = .returned v ∧ (own_Q_own_valueOf Z p0 wc clc h0 n0) v U'.heap L ∧ FrameEnd U o U' L ({ frames := 3, cells := 1, slots := 1, locals := 38 } : Room).cells ({ frames := 3, cells := 1, slots := 1, locals := 38 } : Room).slots) := by
  refine MetFree.of_bodySF (plainFor_of_name own_pn2) hisR ?_
  intro p e s m args below meth c s₁ Bd hml0 hP hK
  obtain ⟨rfl, hZ, hh⟩ := hP
  have hx := Bd.exec
  have hby := Bd.bytes
  have hml : c.maxLocals = 1 := hml0
  have hown : s.vm.findClass "java/lang/Integer" = some m.cls := findClass_of_methodNamed Bd.named
  have hnm := (name_of_methodNamed Bd.named Bd.method).1
  have hlk : meth.locks = false := BodyLoose.notSynchronized Bd
  have X0 : Stand p l e ({ frames := 3, cells := 1, slots := 1, locals := 38 } : Room) s m #[(.int p0)] below meth c s₁ [] 0 0 := Stand.of_body Bd
  have e0 : s₁.heap = h0 := by rw [← hh, Bd.state]; rfl
  have N0 := Fr.nil n0
  show own_Ends p e below s (own_Q_own_valueOf Z p0 wc clc h0 n0) ({ frames := 3, cells := 1, slots := 1, locals := 38 } : Room).cells ({ frames := 3, cells := 1, slots := 1, locals := 38 } : Room).slots _
  refine own_by (V := s₁.setTop (mkF m 0 #[.val (.int p0)] [])) (fun t k => castTop (own_ef_own_valueOf m p0) k) ?_
  refine own_by (V := s₁.setTop (mkF m 1 #[.val (.int p0)] [(.int p0)])) (fun t k => XS.iloadN X0.here hx rfl (hb hby own_d_jdk_33_22_0) rfl  k) ?_
  refine own_by (V := s₁.setTop (mkF m 3 #[.val (.int p0)] [(.int (-128 : Int32)), (.int p0)])) (fun t k => XS.bipush X0.here hx rfl (hb hby own_d_jdk_33_22_1) k) ?_
  by_cases hb3_1 : p0 < (-128 : Int32)
  · refine own_by (V := s₁.setTop (mkF m 23 #[.val (.int p0)] [])) (fun t k => XS.icmpYes X0.here hx rfl (pc0 := 3) (pc' := 23) rfl (hb hby own_d_jdk_33_22_3) rfl (tlt hb3_1).1 (by decide) (by decide) k) ?_
    obtain ⟨T2, h2, X2, e2, E2, A2, D2, -, st2⟩ := newO X0 hx hZ hown (hw _ (List.mem_of_getElem? (i := 32) rfl)) (hw _ (List.mem_of_getElem? (i := 33) rfl)) (hw _ (List.mem_of_getElem? (i := 24) rfl)) e0 (g := (mkF m 23 #[.val (.int p0)] [])) rfl (hb hby own_d_jdk_33_22_23) (by decide) (by decide)
    obtain ⟨b2, g2⟩ : ∃ z, z = h0.size := ⟨_, rfl⟩
    rw [← g2] at A2 D2 st2
    have kb2 : h0.size ≤ b2 := Nat.le_trans (Keep.refl h0 []).1 (Nat.le_of_eq g2.symm)
    have f3 := SC.ext E2
    have f4 := SH.ext E2
    have K2 := (Keep.refl h0 []).ext E2
    have f6 : Fld Z h2 b2 "java/lang/Integer" "value" "I" (.int (0 : Int32)) := D2 (Or.inr (hw _ (List.mem_of_getElem? (i := 46) rfl))) (ty := .int) (by decide)
    have gn2 : n0 ≤ b2 := Nat.le_trans Z0 (Nat.le_of_eq g2.symm)
    have Zs2 : n0 ≤ h2.size := Nat.le_trans Z0 E2.1
    refine own_by (V := T2.setTop (mkF m 26 #[.val (.int p0)] [(.ref b2)])) st2 ?_
    refine own_by (V := T2.setTop (mkF m 27 #[.val (.int p0)] [(.ref b2), (.ref b2)])) (fun t k => XS.dup X2.here hx rfl (hb hby own_d_jdk_33_22_26) rfl rfl k) ?_
    refine own_by (V := T2.setTop (mkF m 28 #[.val (.int p0)] [(.int p0), (.ref b2), (.ref b2)])) (fun t k => XS.iloadN X2.here hx rfl (hb hby own_d_jdk_33_22_27) rfl  k) ?_
    obtain ⟨_, _, ⟨T7, Lq7, kq7, nq7⟩, -, X7, ⟨Lc7, hQ7, lq7, yq7, zq7⟩, st7⟩ := X2.specialBack hx (y := (⟨"java/lang/Integer", "<init>", "(I)V"⟩ : MethodName)) rfl hown (mvT hZ (hw _ (List.mem_of_getElem? (i := 34) rfl))) (mvT hZ (hw _ (List.mem_of_getElem? (i := 35) rfl))) (mvT hZ (hw _ (List.mem_of_getElem? (i := 37) rfl))) (by decide) (backOf (W := 1) (own_boxinit l Z a0 hw [] b2 p0 h2 n0 Zs2 gn2 A2 f6) hZ (hw _ (List.mem_of_getElem? (i := 37) rfl)) (hw _ (List.mem_of_getElem? (i := 24) rfl)) (by decide) (by decide)) (g := (mkF m 28 #[.val (.int p0)] [(.int p0), (.ref b2), (.ref b2)])) rfl (by rw [hml]; rfl) (Steps.refl _) (a := b2) (argsL := [(.int p0)]) (rest := [(.ref b2)]) (lenOf own_pd1 rfl) rfl (by show 2 * 0 + _ ≤ _; exact Nat.le_of_eq rfl) (hb hby own_d_jdk_33_22_28) (fun _ _ => ⟨rfl, e2, (by decide : 1 + 0 ≤ _), (by decide : 1 + 0 ≤ _)⟩)
    dsimp only [Pt.U, Pt.locs, Pt.cells, Pt.slots] at X7 lq7 yq7 zq7 st7 hQ7
    subst lq7 yq7 zq7
    obtain ⟨rfl, N7q, Kc7, Ec7, g7_0⟩ := hQ7
    have N7 := Fr.app N0 N7q
    have K7 := K2.trans Kc7 (allS (Or.inr kb2) all0)
    have Zs7 : n0 ≤ T7.heap.size := Nat.le_trans Zs2 Kc7.1
    refine own_by (V := T7.setTop (mkF m 31 #[.val (.int p0)] [(.ref b2)])) (fun t k => st7.trans k) ?_
    refine own_retA X7 hx hlk rfl (w := (.ref b2)) rfl Bd.returns rfl (hb hby own_d_jdk_33_22_31) ?_ (by decide) (by decide)
    exact ⟨b2, rfl, N7, K7, Ec7⟩
  · refine own_by (V := s₁.setTop (mkF m 6 #[.val (.int p0)] [])) (fun t k => XS.icmpNo X0.here hx rfl (hb hby own_d_jdk_33_22_3) rfl (flt hb3_1).1 k) ?_
    refine own_by (V := s₁.setTop (mkF m 7 #[.val (.int p0)] [(.int p0)])) (fun t k => XS.iloadN X0.here hx rfl (hb hby own_d_jdk_33_22_6) rfl  k) ?_
    obtain ⟨T10, X10, e10, st10⟩ := getS2 X0 hx hZ hown (host := "") (Or.inl (hw _ (List.mem_of_getElem? (i := 26) rfl))) Via.refl e0 SH (g := (mkF m 7 #[.val (.int p0)] [(.int p0)])) rfl (hb hby own_d_jdk_33_22_7)
    refine own_by (V := T10.setTop (mkF m 10 #[.val (.int p0)] [(.int (127 : Int32)), (.int p0)])) st10 ?_
    by_cases hb10_11 : (127 : Int32) < p0
    · refine own_by (V := T10.setTop (mkF m 23 #[.val (.int p0)] [])) (fun t k => XS.icmpYes X10.here hx rfl (pc0 := 10) (pc' := 23) rfl (hb hby own_d_jdk_33_22_10) rfl (tlt hb10_11).2.2.1 (by decide) (by decide) k) ?_
      obtain ⟨T12, h12, X12, e12, E12, A12, D12, -, st12⟩ := newO X10 hx hZ hown (hw _ (List.mem_of_getElem? (i := 32) rfl)) (hw _ (List.mem_of_getElem? (i := 33) rfl)) (hw _ (List.mem_of_getElem? (i := 24) rfl)) e10 (g := (mkF m 23 #[.val (.int p0)] [])) rfl (hb hby own_d_jdk_33_22_23) (by decide) (by decide)
      obtain ⟨b12, g12⟩ : ∃ z, z = h0.size := ⟨_, rfl⟩
      rw [← g12] at A12 D12 st12
      have kb12 : h0.size ≤ b12 := Nat.le_trans (Keep.refl h0 []).1 (Nat.le_of_eq g12.symm)
      have f13 := SC.ext E12
      have f14 := SH.ext E12
      have K12 := (Keep.refl h0 []).ext E12
      have f16 : Fld Z h12 b12 "java/lang/Integer" "value" "I" (.int (0 : Int32)) := D12 (Or.inr (hw _ (List.mem_of_getElem? (i := 46) rfl))) (ty := .int) (by decide)
      have gn12 : n0 ≤ b12 := Nat.le_trans Z0 (Nat.le_of_eq g12.symm)
      have Zs12 : n0 ≤ h12.size := Nat.le_trans Z0 E12.1
      refine own_by (V := T12.setTop (mkF m 26 #[.val (.int p0)] [(.ref b12)])) st12 ?_
      refine own_by (V := T12.setTop (mkF m 27 #[.val (.int p0)] [(.ref b12), (.ref b12)])) (fun t k => XS.dup X12.here hx rfl (hb hby own_d_jdk_33_22_26) rfl rfl k) ?_
      refine own_by (V := T12.setTop (mkF m 28 #[.val (.int p0)] [(.int p0), (.ref b12), (.ref b12)])) (fun t k => XS.iloadN X12.here hx rfl (hb hby own_d_jdk_33_22_27) rfl  k) ?_
      obtain ⟨_, _, ⟨T17, Lq17, kq17, nq17⟩, -, X17, ⟨Lc17, hQ17, lq17, yq17, zq17⟩, st17⟩ := X12.specialBack hx (y := (⟨"java/lang/Integer", "<init>", "(I)V"⟩ : MethodName)) rfl hown (mvT hZ (hw _ (List.mem_of_getElem? (i := 34) rfl))) (mvT hZ (hw _ (List.mem_of_getElem? (i := 35) rfl))) (mvT hZ (hw _ (List.mem_of_getElem? (i := 37) rfl))) (by decide) (backOf (W := 1) (own_boxinit l Z a0 hw [] b12 p0 h12 n0 Zs12 gn12 A12 f16) hZ (hw _ (List.mem_of_getElem? (i := 37) rfl)) (hw _ (List.mem_of_getElem? (i := 24) rfl)) (by decide) (by decide)) (g := (mkF m 28 #[.val (.int p0)] [(.int p0), (.ref b12), (.ref b12)])) rfl (by rw [hml]; rfl) (Steps.refl _) (a := b12) (argsL := [(.int p0)]) (rest := [(.ref b12)]) (lenOf own_pd1 rfl) rfl (by show 2 * 0 + _ ≤ _; exact Nat.le_of_eq rfl) (hb hby own_d_jdk_33_22_28) (fun _ _ => ⟨rfl, e12, (by decide : 1 + 0 ≤ _), (by decide : 1 + 0 ≤ _)⟩)
      dsimp only [Pt.U, Pt.locs, Pt.cells, Pt.slots] at X17 lq17 yq17 zq17 st17 hQ17
      subst lq17 yq17 zq17
      obtain ⟨rfl, N17q, Kc17, Ec17, g17_0⟩ := hQ17
      have N17 := Fr.app N0 N17q
      have K17 := K12.trans Kc17 (allS (Or.inr kb12) all0)
      have Zs17 : n0 ≤ T17.heap.size := Nat.le_trans Zs12 Kc17.1
      refine own_by (V := T17.setTop (mkF m 31 #[.val (.int p0)] [(.ref b12)])) (fun t k => st17.trans k) ?_
      refine own_retA X17 hx hlk rfl (w := (.ref b12)) rfl Bd.returns rfl (hb hby own_d_jdk_33_22_31) ?_ (by decide) (by decide)
      exact ⟨b12, rfl, N17, K17, Ec17⟩
    · refine own_by (V := T10.setTop (mkF m 13 #[.val (.int p0)] [])) (fun t k => XS.icmpNo X10.here hx rfl (hb hby own_d_jdk_33_22_10) rfl (flt hb10_11).2.2.1 k) ?_
      obtain ⟨T20, X20, e20, st20⟩ := getS2 X10 hx hZ hown (host := "") (Or.inl (hw _ (List.mem_of_getElem? (i := 28) rfl))) Via.refl e10 SC (g := (mkF m 13 #[.val (.int p0)] [])) rfl (hb hby own_d_jdk_33_22_13)
      refine own_by (V := T20.setTop (mkF m 16 #[.val (.int p0)] [(.ref wc)])) st20 ?_
      refine own_by (V := T20.setTop (mkF m 17 #[.val (.int p0)] [(.int p0), (.ref wc)])) (fun t k => XS.iloadN X20.here hx rfl (hb hby own_d_jdk_33_22_16) rfl  k) ?_
      refine own_by (V := T20.setTop (mkF m 20 #[.val (.int p0)] [(.int (128 : Int32)), (.int p0), (.ref wc)])) (fun t k => XS.sipush X20.here hx rfl (hb hby own_d_jdk_33_22_17) k) ?_
      refine own_by (V := T20.setTop (mkF m 21 #[.val (.int p0)] [(.int (p0 + (128 : Int32))), (.ref wc)])) (fun t k => XS.iadd X20.here hx rfl (hb hby own_d_jdk_33_22_20) rfl k) ?_
      obtain ⟨hp1, hp2⟩ := own_placeI p0 hb3_1 hb10_11
      obtain ⟨bx, hbx, Ebx⟩ := hel _ hp2
      refine own_by (V := T20.setTop (mkF m 22 #[.val (.int p0)] [(.ref bx)])) (X20.aaload hx (j := (p0 + (128 : Int32))) (v := .ref bx) (by rw [e20]; exact AC.1) (State.isArrayOf_alike hZ.alike AC.2.1) rfl AC.2.2 (by rw [hsz]; exact hp1) hbx (g := (mkF m 21 #[.val (.int p0)] [(.int (p0 + (128 : Int32))), (.ref wc)])) rfl rfl (hb hby own_d_jdk_33_22_21)) ?_
      refine own_retA X20 hx hlk e20 (w := (.ref bx)) rfl Bd.returns rfl (hb hby own_d_jdk_33_22_22) ?_ (by decide) (by decide)
      exact ⟨bx, rfl, N0, (Keep.refl h0 []), Ebx⟩
def own_Q_own_rm0 (Z : State) (p0 : Int32) (q1 : Int64) (p2 : Int32) (q3 : Int64) (p4 : Int32) (h0 : Heap) (n0 : Nat) : Option Value → Heap → List Loc → Prop := fun v h L => v = some (.int 1) ∧ Fr n0 L
theorem own_ef_own_rm0 (m : MethodId) (x0 : Int32) (x1 : Int64) (x2 : Int32) (x3 : Int64) (x4 : Int32) : entryFrame m #[(.int x0), (.long x1), (.int x2), (.long x3), (.int x4)] maxLocals = mkF m 0 #[.val (.int x0), .val (.long x1), .second, .val (.int x2), .val (.long x3), .second, .val (.int x4), .unset, .unset, .unset, .unset, .unset, .unset, .unset, .unset, .unset, .unset] [] := by first | (simp [entryFrame, mkF, argsToLocals, Value.category, maxLocals]; done) | rfl
set_option maxRecDepth 65536 in
set_option maxHeartbeats 40000000 in
theorem own_rm0 (l : Launch) (Z : State) (a0 : Array Value) (hw : ∀ d ∈ tables_1, d.before a0 Z = true) (ws : List Jvm.Cond) (p0 : Int32) (q1 : Int64) (p2 : Int32) (q3 : Int64) (p4 : Int32) (h0 : Heap) (n0 : Nat) (Z0 : n0 ≤ h0.size) (O0 : Old Z n0 h0) (wc : Addr) (clc : Cell) (SC : Sta Z Z.heap "java/lang/Integer$IntegerCache" "cache" "[Ljava/lang/Integer;" (.ref wc)) (AC : Arr Z Z.heap wc clc (.object "java/lang/Integer")) (hsz : clc.slots.size = 256) (hel : ∀ j, j < 256 → ∃ b, clc.slots[j]? = some (.ref b) ∧ Exa Z Z.heap b "java/lang/Integer") (SH : Sta Z Z.heap "java/lang/Integer$IntegerCache" "high" "I" (.int (127 : Int32))) :
    MetFree l x (head1 (Jvm.Cond.code x code maxLocals ret :: ws) room_1) (fun a U => a = #[(.int p0), (.long q1), (.int p2), (.long q3), (.int p4)] ∧ Z.Warmed39 U.vm ∧ U.heap = h0) (fun _ _ _ _ _ => True) (fun _ U o U' => ∃ v L, o = .returned v ∧ (own_Q_own_rm0 Z p0 q1 p2 q3 p4 h0 n0) v U'.heap L ∧ FrameEnd U o U' L room_1.cells room_1.slots) := by
  refine MetFree.of_bodySF (plainFor_of_name own_pn3) hisR ?_
  intro p e s m args below meth c s₁ Bd hml0 hP hK
  obtain ⟨rfl, hZ, hh⟩ := hP
  have hx := Bd.exec
  have hby := Bd.bytes
  have hml : c.maxLocals = 17 := hml0
  have hown : s.vm.findClass "com/example/balcon/balcon/model/PositionEqualsPinLaw" = some m.cls := findClass_of_methodNamed Bd.named
  have hnm := (name_of_methodNamed Bd.named Bd.method).1
  have hlk : meth.locks = false := BodyLoose.notSynchronized Bd
  have X0 : Stand p l e room_1 s m #[(.int p0), (.long q1), (.int p2), (.long q3), (.int p4)] below meth c s₁ [] 0 0 := Stand.of_body Bd
  have e0 : s₁.heap = h0 := by rw [← hh, Bd.state]; rfl
  have N0 := Fr.nil n0
  show own_Ends p e below s (own_Q_own_rm0 Z p0 q1 p2 q3 p4 h0 n0) room_1.cells room_1.slots _
  refine own_by (V := s₁.setTop (mkF m 0 #[.val (.int p0), .val (.long q1), .second, .val (.int p2), .val (.long q3), .second, .val (.int p4), .unset, .unset, .unset, .unset, .unset, .unset, .unset, .unset, .unset, .unset] [])) (fun t k => castTop (own_ef_own_rm0 m p0 q1 p2 q3 p4) k) ?_
  refine own_by (V := s₁.setTop (mkF m 1 #[.val (.int p0), .val (.long q1), .second, .val (.int p2), .val (.long q3), .second, .val (.int p4), .unset, .unset, .unset, .unset, .unset, .unset, .unset, .unset, .unset, .unset] [(.int p0)])) (fun t k => XS.iloadN X0.here hx rfl (hb hby at_0) rfl  k) ?_
  refine own_by (V := s₁.setTop (mkF m 3 #[.val (.int p0), .val (.long q1), .second, .val (.int p2), .val (.long q3), .second, .val (.int p4), .unset, .unset, .unset, .unset, .unset, .unset, .unset, .unset, .unset, .unset] [(.int (2147483647 : Int32)), (.int p0)])) (Jvm.Stand.ldcInt X0 hx hown (mvT hZ (hw _ (List.mem_of_getElem? (i := 0) rfl))) (g := (mkF m 1 #[.val (.int p0), .val (.long q1), .second, .val (.int p2), .val (.long q3), .second, .val (.int p4), .unset, .unset, .unset, .unset, .unset, .unset, .unset, .unset, .unset, .unset] [(.int p0)])) rfl (hb hby at_1)) ?_
  refine own_by (V := s₁.setTop (mkF m 4 #[.val (.int p0), .val (.long q1), .second, .val (.int p2), .val (.long q3), .second, .val (.int p4), .unset, .unset, .unset, .unset, .unset, .unset, .unset, .unset, .unset, .unset] [(.int (p0 &&& (2147483647 : Int32)))])) (fun t k => XS.iand X0.here hx rfl (hb hby at_3) rfl k) ?_
  obtain ⟨z1, hz1⟩ : ∃ z : Int32, z = (p0 &&& (2147483647 : Int32)) := ⟨_, rfl⟩
  rw [← hz1]
  refine own_by (V := s₁.setTop (mkF m 6 #[.val (.int p0), .val (.long q1), .second, .val (.int p2), .val (.long q3), .second, .val (.int p4), .val (.int z1), .unset, .unset, .unset, .unset, .unset, .unset, .unset, .unset, .unset] [])) (fun t k => XS.istore X0.here hx rfl (hb hby at_4) rfl (l' := #[.val (.int p0), .val (.long q1), .second, .val (.int p2), .val (.long q3), .second, .val (.int p4), .val (.int z1), .unset, .unset, .unset, .unset, .unset, .unset, .unset, .unset, .unset]) rfl k) ?_
  refine own_by (V := s₁.setTop (mkF m 7 #[.val (.int p0), .val (.long q1), .second, .val (.int p2), .val (.long q3), .second, .val (.int p4), .val (.int z1), .unset, .unset, .unset, .unset, .unset, .unset, .unset, .unset, .unset] [(.long q1)])) (fun t k => XS.lloadN X0.here hx rfl (hb hby at_6) rfl  k) ?_
  refine own_by (V := s₁.setTop (mkF m 10 #[.val (.int p0), .val (.long q1), .second, .val (.int p2), .val (.long q3), .second, .val (.int p4), .val (.int z1), .unset, .unset, .unset, .unset, .unset, .unset, .unset, .unset, .unset] [(.long (9223372036854775807 : Int64)), (.long q1)])) (Jvm.Stand.ldc2Long X0 hx hown (mvT hZ (hw _ (List.mem_of_getElem? (i := 1) rfl))) (g := (mkF m 7 #[.val (.int p0), .val (.long q1), .second, .val (.int p2), .val (.long q3), .second, .val (.int p4), .val (.int z1), .unset, .unset, .unset, .unset, .unset, .unset, .unset, .unset, .unset] [(.long q1)])) rfl (hb hby at_7)) ?_
  refine own_by (V := s₁.setTop (mkF m 11 #[.val (.int p0), .val (.long q1), .second, .val (.int p2), .val (.long q3), .second, .val (.int p4), .val (.int z1), .unset, .unset, .unset, .unset, .unset, .unset, .unset, .unset, .unset] [(.long (q1 &&& (9223372036854775807 : Int64)))])) (fun t k => XS.land X0.here hx rfl (hb hby at_10) rfl k) ?_
  obtain ⟨z2, hz2⟩ : ∃ z : Int64, z = (q1 &&& (9223372036854775807 : Int64)) := ⟨_, rfl⟩
  rw [← hz2]
  refine own_by (V := s₁.setTop (mkF m 13 #[.val (.int p0), .val (.long q1), .second, .val (.int p2), .val (.long q3), .second, .val (.int p4), .val (.int z1), .val (.long z2), .second, .unset, .unset, .unset, .unset, .unset, .unset, .unset] [])) (fun t k => XS.lstore X0.here hx rfl (hb hby at_11) rfl (l' := #[.val (.int p0), .val (.long q1), .second, .val (.int p2), .val (.long q3), .second, .val (.int p4), .val (.int z1), .val (.long z2), .second, .unset, .unset, .unset, .unset, .unset, .unset, .unset]) rfl k) ?_
  refine own_by (V := s₁.setTop (mkF m 15 #[.val (.int p0), .val (.long q1), .second, .val (.int p2), .val (.long q3), .second, .val (.int p4), .val (.int z1), .val (.long z2), .second, .unset, .unset, .unset, .unset, .unset, .unset, .unset] [(.int p4)])) (fun t k => XS.iload X0.here hx rfl (hb hby at_13) rfl  k) ?_
  refine own_by (V := s₁.setTop (mkF m 16 #[.val (.int p0), .val (.long q1), .second, .val (.int p2), .val (.long q3), .second, .val (.int p4), .val (.int z1), .val (.long z2), .second, .unset, .unset, .unset, .unset, .unset, .unset, .unset] [(.int (1 : Int32)), (.int p4)])) (fun t k => XS.iconst X0.here hx rfl (hb hby at_15) k) ?_
  refine own_by (V := s₁.setTop (mkF m 17 #[.val (.int p0), .val (.long q1), .second, .val (.int p2), .val (.long q3), .second, .val (.int p4), .val (.int z1), .val (.long z2), .second, .unset, .unset, .unset, .unset, .unset, .unset, .unset] [(.int (p4 &&& (1 : Int32)))])) (fun t k => XS.iand X0.here hx rfl (hb hby at_16) rfl k) ?_
  have hnn7 : ¬ z1 < (0 : Int32) := by rw [hz1]; exact own_nn32 _
  have hnn8 : ¬ z2 < (0 : Int64) := by rw [hz2]; exact own_nn64 _
  have J3 : ∀ (T3 : State) (l3 : List Loc) (pb : Int32) (X3 : Stand p l e room_1 s m #[(.int p0), (.long q1), (.int p2), (.long q3), (.int p4)] below meth c T3 l3 0 0) (e3 : T3.heap = h0) (N3 : Fr n0 l3) (hpb : ¬ pb < (0 : Int32)), own_Ends p e below s (own_Q_own_rm0 Z p0 q1 p2 q3 p4 h0 n0) room_1.cells room_1.slots (T3.setTop (mkF m 29 #[.val (.int p0), .val (.long q1), .second, .val (.int p2), .val (.long q3), .second, .val (.int p4), .val (.int z1), .val (.long z2), .second, .unset, .unset, .unset, .unset, .unset, .unset, .unset] [(.int pb)])) := by
    intro T3 l3 pb X3 e3 N3 hpb
    refine own_by (V := T3.setTop (mkF m 31 #[.val (.int p0), .val (.long q1), .second, .val (.int p2), .val (.long q3), .second, .val (.int p4), .val (.int z1), .val (.long z2), .second, .val (.int pb), .unset, .unset, .unset, .unset, .unset, .unset] [])) (fun t k => XS.istore X3.here hx rfl (hb hby at_29) rfl (l' := #[.val (.int p0), .val (.long q1), .second, .val (.int p2), .val (.long q3), .second, .val (.int p4), .val (.int z1), .val (.long z2), .second, .val (.int pb), .unset, .unset, .unset, .unset, .unset, .unset]) rfl k) ?_
    refine own_by (V := T3.setTop (mkF m 33 #[.val (.int p0), .val (.long q1), .second, .val (.int p2), .val (.long q3), .second, .val (.int p4), .val (.int z1), .val (.long z2), .second, .val (.int pb), .unset, .unset, .unset, .unset, .unset, .unset] [(.int p4)])) (fun t k => XS.iload X3.here hx rfl (hb hby at_31) rfl  k) ?_
    refine own_by (V := T3.setTop (mkF m 34 #[.val (.int p0), .val (.long q1), .second, .val (.int p2), .val (.long q3), .second, .val (.int p4), .val (.int z1), .val (.long z2), .second, .val (.int pb), .unset, .unset, .unset, .unset, .unset, .unset] [(.int (2 : Int32)), (.int p4)])) (fun t k => XS.iconst X3.here hx rfl (hb hby at_33) k) ?_
    refine own_by (V := T3.setTop (mkF m 35 #[.val (.int p0), .val (.long q1), .second, .val (.int p2), .val (.long q3), .second, .val (.int p4), .val (.int z1), .val (.long z2), .second, .val (.int pb), .unset, .unset, .unset, .unset, .unset, .unset] [(.int (p4 &&& (2 : Int32)))])) (fun t k => XS.iand X3.here hx rfl (hb hby at_34) rfl k) ?_
    have J4 : ∀ (T4 : State) (l4 : List Loc) (oy : Int64) (X4 : Stand p l e room_1 s m #[(.int p0), (.long q1), (.int p2), (.long q3), (.int p4)] below meth c T4 l4 0 0) (e4 : T4.heap = h0) (N4 : Fr n0 l4) (hoy : ¬ oy < (0 : Int64)), own_Ends p e below s (own_Q_own_rm0 Z p0 q1 p2 q3 p4 h0 n0) room_1.cells room_1.slots (T4.setTop (mkF m 49 #[.val (.int p0), .val (.long q1), .second, .val (.int p2), .val (.long q3), .second, .val (.int p4), .val (.int z1), .val (.long z2), .second, .val (.int pb), .unset, .unset, .unset, .unset, .unset, .unset] [(.long oy)])) := by
      intro T4 l4 oy X4 e4 N4 hoy
      refine own_by (V := T4.setTop (mkF m 51 #[.val (.int p0), .val (.long q1), .second, .val (.int p2), .val (.long q3), .second, .val (.int p4), .val (.int z1), .val (.long z2), .second, .val (.int pb), .val (.long oy), .second, .unset, .unset, .unset, .unset] [])) (fun t k => XS.lstore X4.here hx rfl (hb hby at_49) rfl (l' := #[.val (.int p0), .val (.long q1), .second, .val (.int p2), .val (.long q3), .second, .val (.int p4), .val (.int z1), .val (.long z2), .second, .val (.int pb), .val (.long oy), .second, .unset, .unset, .unset, .unset]) rfl k) ?_
      obtain ⟨T5, h5, X5, e5, E5, A5, D5, -, st5⟩ := newO X4 hx hZ hown (hw _ (List.mem_of_getElem? (i := 2) rfl)) (hw _ (List.mem_of_getElem? (i := 3) rfl)) (hw _ (List.mem_of_getElem? (i := 4) rfl)) e4 (g := (mkF m 51 #[.val (.int p0), .val (.long q1), .second, .val (.int p2), .val (.long q3), .second, .val (.int p4), .val (.int z1), .val (.long z2), .second, .val (.int pb), .val (.long oy), .second, .unset, .unset, .unset, .unset] [])) rfl (hb hby at_51) (by decide) (by decide)
      obtain ⟨b5, g5⟩ : ∃ z, z = h0.size := ⟨_, rfl⟩
      rw [← g5] at A5 D5 st5
      have O5 := O0.ext E5
      have f6 : Fld Z h5 b5 "com/example/balcon/balcon/model/Position" "partition" "I" (.int (0 : Int32)) := D5 (Or.inr (hw _ (List.mem_of_getElem? (i := 12) rfl))) (ty := .int) (by decide)
      have f7 : Fld Z h5 b5 "com/example/balcon/balcon/model/Position" "offset" "J" (.long (0 : Int64)) := D5 (Or.inr (hw _ (List.mem_of_getElem? (i := 14) rfl))) (ty := .long) (by decide)
      have gn5 : n0 ≤ b5 := Nat.le_trans Z0 (Nat.le_of_eq g5.symm)
      have Zs5 : n0 ≤ h5.size := Nat.le_trans Z0 E5.1
      refine own_by (V := T5.setTop (mkF m 54 #[.val (.int p0), .val (.long q1), .second, .val (.int p2), .val (.long q3), .second, .val (.int p4), .val (.int z1), .val (.long z2), .second, .val (.int pb), .val (.long oy), .second, .unset, .unset, .unset, .unset] [(.ref b5)])) st5 ?_
      refine own_by (V := T5.setTop (mkF m 55 #[.val (.int p0), .val (.long q1), .second, .val (.int p2), .val (.long q3), .second, .val (.int p4), .val (.int z1), .val (.long z2), .second, .val (.int pb), .val (.long oy), .second, .unset, .unset, .unset, .unset] [(.ref b5), (.ref b5)])) (fun t k => XS.dup X5.here hx rfl (hb hby at_54) rfl rfl k) ?_
      refine own_by (V := T5.setTop (mkF m 57 #[.val (.int p0), .val (.long q1), .second, .val (.int p2), .val (.long q3), .second, .val (.int p4), .val (.int z1), .val (.long z2), .second, .val (.int pb), .val (.long oy), .second, .unset, .unset, .unset, .unset] [(.int z1), (.ref b5), (.ref b5)])) (fun t k => XS.iload X5.here hx rfl (hb hby at_55) rfl  k) ?_
      refine own_by (V := T5.setTop (mkF m 59 #[.val (.int p0), .val (.long q1), .second, .val (.int p2), .val (.long q3), .second, .val (.int p4), .val (.int z1), .val (.long z2), .second, .val (.int pb), .val (.long oy), .second, .unset, .unset, .unset, .unset] [(.long z2), (.int z1), (.ref b5), (.ref b5)])) (fun t k => XS.lload X5.here hx rfl (hb hby at_57) rfl  k) ?_
      obtain ⟨_, _, ⟨T8, Lq8, kq8, nq8⟩, -, X8, ⟨Lc8, hQ8, lq8, yq8, zq8⟩, st8⟩ := X5.specialBack hx (y := (⟨"com/example/balcon/balcon/model/Position", "<init>", "(IJ)V"⟩ : MethodName)) rfl hown (mvT hZ (hw _ (List.mem_of_getElem? (i := 5) rfl))) (mvT hZ (hw _ (List.mem_of_getElem? (i := 6) rfl))) (mvT hZ (hw _ (List.mem_of_getElem? (i := 7) rfl))) (by decide) (backOf (W := 1) (own_init l Z a0 hw [] b5 z1 z2 h5 n0 Zs5 gn5 A5 f6 f7 hnn7 hnn8) hZ (hw _ (List.mem_of_getElem? (i := 7) rfl)) (hw _ (List.mem_of_getElem? (i := 4) rfl)) (by decide) (by decide)) (g := (mkF m 59 #[.val (.int p0), .val (.long q1), .second, .val (.int p2), .val (.long q3), .second, .val (.int p4), .val (.int z1), .val (.long z2), .second, .val (.int pb), .val (.long oy), .second, .unset, .unset, .unset, .unset] [(.long z2), (.int z1), (.ref b5), (.ref b5)])) rfl (by rw [hml]; rfl) (Steps.refl _) (a := b5) (argsL := [(.int z1), (.long z2)]) (rest := [(.ref b5)]) (lenOf own_pd2 rfl) rfl (by show 2 * 0 + _ ≤ _; exact Nat.le_of_eq rfl) (hb hby at_59) (fun _ _ => ⟨rfl, e5, (by decide : 1 + 0 ≤ _), (by decide : 2 + 0 ≤ _)⟩)
      dsimp only [Pt.U, Pt.locs, Pt.cells, Pt.slots] at X8 lq8 yq8 zq8 st8 hQ8
      subst lq8 yq8 zq8
      obtain ⟨rfl, N8q, Kc8, Ec8, g8_0, g8_1⟩ := hQ8
      have N8 := Fr.app N4 N8q
      have O8 := O5.keep Kc8 (allS gn5 all0)
      have Zs8 : n0 ≤ T8.heap.size := Nat.le_trans Zs5 Kc8.1
      refine own_by (V := T8.setTop (mkF m 62 #[.val (.int p0), .val (.long q1), .second, .val (.int p2), .val (.long q3), .second, .val (.int p4), .val (.int z1), .val (.long z2), .second, .val (.int pb), .val (.long oy), .second, .unset, .unset, .unset, .unset] [(.ref b5)])) (fun t k => st8.trans k) ?_
      refine own_by (V := T8.setTop (mkF m 64 #[.val (.int p0), .val (.long q1), .second, .val (.int p2), .val (.long q3), .second, .val (.int p4), .val (.int z1), .val (.long z2), .second, .val (.int pb), .val (.long oy), .second, .val (.ref b5), .unset, .unset, .unset] [])) (fun t k => XS.astore X8.here hx rfl (hb hby at_62) rfl rfl (l' := #[.val (.int p0), .val (.long q1), .second, .val (.int p2), .val (.long q3), .second, .val (.int p4), .val (.int z1), .val (.long z2), .second, .val (.int pb), .val (.long oy), .second, .val (.ref b5), .unset, .unset, .unset]) rfl k) ?_
      obtain ⟨T9, h9, X9, e9, E9, A9, D9, -, st9⟩ := newO X8 hx hZ hown (hw _ (List.mem_of_getElem? (i := 2) rfl)) (hw _ (List.mem_of_getElem? (i := 3) rfl)) (hw _ (List.mem_of_getElem? (i := 4) rfl)) rfl (g := (mkF m 64 #[.val (.int p0), .val (.long q1), .second, .val (.int p2), .val (.long q3), .second, .val (.int p4), .val (.int z1), .val (.long z2), .second, .val (.int pb), .val (.long oy), .second, .val (.ref b5), .unset, .unset, .unset] [])) rfl (hb hby at_64) (by decide) (by decide)
      obtain ⟨b9, g9⟩ : ∃ z, z = T8.heap.size := ⟨_, rfl⟩
      rw [← g9] at A9 D9 st9
      have ne10 : b5 ≠ b9 := Nat.ne_of_lt (Nat.lt_of_lt_of_le Ec8.lt (Nat.le_of_eq g9.symm))
      have f11 := Ec8.ext E9
      have f12 := g8_0.ext E9
      have f13 := g8_1.ext E9
      have O9 := O8.ext E9
      have f16 : Fld Z h9 b9 "com/example/balcon/balcon/model/Position" "partition" "I" (.int (0 : Int32)) := D9 (Or.inr (hw _ (List.mem_of_getElem? (i := 12) rfl))) (ty := .int) (by decide)
      have f17 : Fld Z h9 b9 "com/example/balcon/balcon/model/Position" "offset" "J" (.long (0 : Int64)) := D9 (Or.inr (hw _ (List.mem_of_getElem? (i := 14) rfl))) (ty := .long) (by decide)
      have gn9 : n0 ≤ b9 := Nat.le_trans Zs8 (Nat.le_of_eq g9.symm)
      have Zs9 : n0 ≤ h9.size := Nat.le_trans Zs8 E9.1
      refine own_by (V := T9.setTop (mkF m 67 #[.val (.int p0), .val (.long q1), .second, .val (.int p2), .val (.long q3), .second, .val (.int p4), .val (.int z1), .val (.long z2), .second, .val (.int pb), .val (.long oy), .second, .val (.ref b5), .unset, .unset, .unset] [(.ref b9)])) st9 ?_
      refine own_by (V := T9.setTop (mkF m 68 #[.val (.int p0), .val (.long q1), .second, .val (.int p2), .val (.long q3), .second, .val (.int p4), .val (.int z1), .val (.long z2), .second, .val (.int pb), .val (.long oy), .second, .val (.ref b5), .unset, .unset, .unset] [(.ref b9), (.ref b9)])) (fun t k => XS.dup X9.here hx rfl (hb hby at_67) rfl rfl k) ?_
      refine own_by (V := T9.setTop (mkF m 70 #[.val (.int p0), .val (.long q1), .second, .val (.int p2), .val (.long q3), .second, .val (.int p4), .val (.int z1), .val (.long z2), .second, .val (.int pb), .val (.long oy), .second, .val (.ref b5), .unset, .unset, .unset] [(.int pb), (.ref b9), (.ref b9)])) (fun t k => XS.iload X9.here hx rfl (hb hby at_68) rfl  k) ?_
      refine own_by (V := T9.setTop (mkF m 72 #[.val (.int p0), .val (.long q1), .second, .val (.int p2), .val (.long q3), .second, .val (.int p4), .val (.int z1), .val (.long z2), .second, .val (.int pb), .val (.long oy), .second, .val (.ref b5), .unset, .unset, .unset] [(.long oy), (.int pb), (.ref b9), (.ref b9)])) (fun t k => XS.lload X9.here hx rfl (hb hby at_70) rfl  k) ?_
      obtain ⟨_, _, ⟨T18, Lq18, kq18, nq18⟩, -, X18, ⟨Lc18, hQ18, lq18, yq18, zq18⟩, st18⟩ := X9.specialBack hx (y := (⟨"com/example/balcon/balcon/model/Position", "<init>", "(IJ)V"⟩ : MethodName)) rfl hown (mvT hZ (hw _ (List.mem_of_getElem? (i := 5) rfl))) (mvT hZ (hw _ (List.mem_of_getElem? (i := 6) rfl))) (mvT hZ (hw _ (List.mem_of_getElem? (i := 7) rfl))) (by decide) (backOf (W := 1) (own_init l Z a0 hw [] b9 pb oy h9 n0 Zs9 gn9 A9 f16 f17 hpb hoy) hZ (hw _ (List.mem_of_getElem? (i := 7) rfl)) (hw _ (List.mem_of_getElem? (i := 4) rfl)) (by decide) (by decide)) (g := (mkF m 72 #[.val (.int p0), .val (.long q1), .second, .val (.int p2), .val (.long q3), .second, .val (.int p4), .val (.int z1), .val (.long z2), .second, .val (.int pb), .val (.long oy), .second, .val (.ref b5), .unset, .unset, .unset] [(.long oy), (.int pb), (.ref b9), (.ref b9)])) rfl (by rw [hml]; rfl) (Steps.refl _) (a := b9) (argsL := [(.int pb), (.long oy)]) (rest := [(.ref b9)]) (lenOf own_pd2 rfl) rfl (by show 2 * 0 + _ ≤ _; exact Nat.le_of_eq rfl) (hb hby at_72) (fun _ _ => ⟨rfl, e9, (by decide : 2 + 0 ≤ _), (by decide : 4 + 0 ≤ _)⟩)
      dsimp only [Pt.U, Pt.locs, Pt.cells, Pt.slots] at X18 lq18 yq18 zq18 st18 hQ18
      subst lq18 yq18 zq18
      obtain ⟨rfl, N18q, Kc18, Ec18, g18_0, g18_1⟩ := hQ18
      have N18 := Fr.app N8 N18q
      have f19 := f11.keep Kc18
      have f20 := f12.keep Kc18 (ninS ne10 nin0)
      have f21 := f13.keep Kc18 (ninS ne10 nin0)
      have O18 := O9.keep Kc18 (allS gn9 all0)
      have Zs18 : n0 ≤ T18.heap.size := Nat.le_trans Zs9 Kc18.1
      refine own_by (V := T18.setTop (mkF m 75 #[.val (.int p0), .val (.long q1), .second, .val (.int p2), .val (.long q3), .second, .val (.int p4), .val (.int z1), .val (.long z2), .second, .val (.int pb), .val (.long oy), .second, .val (.ref b5), .unset, .unset, .unset] [(.ref b9)])) (fun t k => st18.trans k) ?_
      refine own_by (V := T18.setTop (mkF m 77 #[.val (.int p0), .val (.long q1), .second, .val (.int p2), .val (.long q3), .second, .val (.int p4), .val (.int z1), .val (.long z2), .second, .val (.int pb), .val (.long oy), .second, .val (.ref b5), .val (.ref b9), .unset, .unset] [])) (fun t k => XS.astore X18.here hx rfl (hb hby at_75) rfl rfl (l' := #[.val (.int p0), .val (.long q1), .second, .val (.int p2), .val (.long q3), .second, .val (.int p4), .val (.int z1), .val (.long z2), .second, .val (.int pb), .val (.long oy), .second, .val (.ref b5), .val (.ref b9), .unset, .unset]) rfl k) ?_
      refine own_by (V := T18.setTop (mkF m 79 #[.val (.int p0), .val (.long q1), .second, .val (.int p2), .val (.long q3), .second, .val (.int p4), .val (.int z1), .val (.long z2), .second, .val (.int pb), .val (.long oy), .second, .val (.ref b5), .val (.ref b9), .unset, .unset] [(.int z1)])) (fun t k => XS.iload X18.here hx rfl (hb hby at_77) rfl  k) ?_
      refine own_by (V := T18.setTop (mkF m 81 #[.val (.int p0), .val (.long q1), .second, .val (.int p2), .val (.long q3), .second, .val (.int p4), .val (.int z1), .val (.long z2), .second, .val (.int pb), .val (.long oy), .second, .val (.ref b5), .val (.ref b9), .unset, .unset] [(.int pb), (.int z1)])) (fun t k => XS.iload X18.here hx rfl (hb hby at_79) rfl  k) ?_
      have J22 : ∀ (T22 : State) (l22 : List Loc) (v15 : Int32) (X22 : Stand p l e room_1 s m #[(.int p0), (.long q1), (.int p2), (.long q3), (.int p4)] below meth c T22 l22 2 4) (e22 : T22.heap = T18.heap) (N22 : Fr n0 l22) (hv15 : v15 = own_eqP z1 pb z2 oy), own_Ends p e below s (own_Q_own_rm0 Z p0 q1 p2 q3 p4 h0 n0) room_1.cells room_1.slots (T22.setTop (mkF m 97 #[.val (.int p0), .val (.long q1), .second, .val (.int p2), .val (.long q3), .second, .val (.int p4), .val (.int z1), .val (.long z2), .second, .val (.int pb), .val (.long oy), .second, .val (.ref b5), .val (.ref b9), .unset, .unset] [(.int v15)])) := by
        intro T22 l22 v15 X22 e22 N22 hv15
        refine own_by (V := T22.setTop (mkF m 99 #[.val (.int p0), .val (.long q1), .second, .val (.int p2), .val (.long q3), .second, .val (.int p4), .val (.int z1), .val (.long z2), .second, .val (.int pb), .val (.long oy), .second, .val (.ref b5), .val (.ref b9), .val (.int v15), .unset] [])) (fun t k => XS.istore X22.here hx rfl (hb hby at_97) rfl (l' := #[.val (.int p0), .val (.long q1), .second, .val (.int p2), .val (.long q3), .second, .val (.int p4), .val (.int z1), .val (.long z2), .second, .val (.int pb), .val (.long oy), .second, .val (.ref b5), .val (.ref b9), .val (.int v15), .unset]) rfl k) ?_
        refine own_by (V := T22.setTop (mkF m 101 #[.val (.int p0), .val (.long q1), .second, .val (.int p2), .val (.long q3), .second, .val (.int p4), .val (.int z1), .val (.long z2), .second, .val (.int pb), .val (.long oy), .second, .val (.ref b5), .val (.ref b9), .val (.int v15), .unset] [(.ref b5)])) (fun t k => XS.aload X22.here hx rfl (hb hby at_99) rfl rfl k) ?_
        refine own_by (V := T22.setTop (mkF m 103 #[.val (.int p0), .val (.long q1), .second, .val (.int p2), .val (.long q3), .second, .val (.int p4), .val (.int z1), .val (.long z2), .second, .val (.int pb), .val (.long oy), .second, .val (.ref b5), .val (.ref b9), .val (.int v15), .unset] [(.ref b9), (.ref b5)])) (fun t k => XS.aload X22.here hx rfl (hb hby at_101) rfl rfl k) ?_
        obtain ⟨cq24, kq24, q24a, q24b, q24c⟩ := isOf hZ e22 f19
        obtain ⟨_, _, ⟨T23, Lq23, kq23, nq23⟩, -, X23, ⟨Lc23, hQ23, lq23, yq23, zq23⟩, st23⟩ := X22.virtualBack hx (y := (⟨"com/example/balcon/balcon/model/Position", "equals", "(Ljava/lang/Object;)Z"⟩ : MethodName)) (z := (⟨"com/example/balcon/balcon/model/Position", "equals", "(Ljava/lang/Object;)Z"⟩ : MethodName)) hown (mvT hZ (hw _ (List.mem_of_getElem? (i := 15) rfl))) (mvT hZ (hw _ (List.mem_of_getElem? (i := 16) rfl))) (notFace_of_selects (args := #[]) (mvT hZ (hw _ (List.mem_of_getElem? (i := 18) rfl)))) (mvT hZ (hw _ (List.mem_of_getElem? (i := 18) rfl))) (mvT hZ (hw _ (List.mem_of_getElem? (i := 17) rfl))) (by decide) (backOf (W := 0) (own_eqPos l Z a0 hw [] b5 b9 z1 pb z2 oy T18.heap n0 f20 g18_0 f21 g18_1 Ec18) hZ (hw _ (List.mem_of_getElem? (i := 19) rfl)) (hw _ (List.mem_of_getElem? (i := 4) rfl)) (by decide) (by decide)) q24a q24c (g := (mkF m 103 #[.val (.int p0), .val (.long q1), .second, .val (.int p2), .val (.long q3), .second, .val (.int p4), .val (.int z1), .val (.long z2), .second, .val (.int pb), .val (.long oy), .second, .val (.ref b5), .val (.ref b9), .val (.int v15), .unset] [(.ref b9), (.ref b5)])) rfl (by rw [hml]; rfl) (Steps.refl _) (argsL := [(.ref b9)]) (rest := []) (lenOf own_pd3 rfl) rfl (by show 2 * 0 + _ ≤ _; exact Nat.le_of_eq rfl) (hb hby at_103) (fun _ _ => ⟨rfl, e22, (by decide : 2 + 0 ≤ _), (by decide : 4 + 0 ≤ _)⟩)
        dsimp only [Pt.U, Pt.locs, Pt.cells, Pt.slots] at X23 lq23 yq23 zq23 st23 hQ23
        subst lq23 yq23 zq23
        obtain ⟨rfl, N23q, e23⟩ := hQ23
        have N23 := Fr.app N22 N23q
        refine own_by (V := T23.setTop (mkF m 106 #[.val (.int p0), .val (.long q1), .second, .val (.int p2), .val (.long q3), .second, .val (.int p4), .val (.int z1), .val (.long z2), .second, .val (.int pb), .val (.long oy), .second, .val (.ref b5), .val (.ref b9), .val (.int v15), .unset] [(.int (own_eqP z1 pb z2 oy))])) (fun t k => st23.trans k) ?_
        refine own_by (V := T23.setTop (mkF m 108 #[.val (.int p0), .val (.long q1), .second, .val (.int p2), .val (.long q3), .second, .val (.int p4), .val (.int z1), .val (.long z2), .second, .val (.int pb), .val (.long oy), .second, .val (.ref b5), .val (.ref b9), .val (.int v15), .unset] [(.int v15), (.int (own_eqP z1 pb z2 oy))])) (fun t k => XS.iload X23.here hx rfl (hb hby at_106) rfl  k) ?_
        have hb108_25 : ((own_eqP z1 pb z2 oy) = v15) := hv15.symm
        refine own_by (V := T23.setTop (mkF m 111 #[.val (.int p0), .val (.long q1), .second, .val (.int p2), .val (.long q3), .second, .val (.int p4), .val (.int z1), .val (.long z2), .second, .val (.int pb), .val (.long oy), .second, .val (.ref b5), .val (.ref b9), .val (.int v15), .unset] [])) (fun t k => XS.icmpNo X23.here hx rfl (hb hby at_108) rfl (teq hb108_25).2 k) ?_
        refine own_by (V := T23.setTop (mkF m 112 #[.val (.int p0), .val (.long q1), .second, .val (.int p2), .val (.long q3), .second, .val (.int p4), .val (.int z1), .val (.long z2), .second, .val (.int pb), .val (.long oy), .second, .val (.ref b5), .val (.ref b9), .val (.int v15), .unset] [(.int (1 : Int32))])) (fun t k => XS.iconst X23.here hx rfl (hb hby at_111) k) ?_
        refine own_by (V := T23.setTop (mkF m 116 #[.val (.int p0), .val (.long q1), .second, .val (.int p2), .val (.long q3), .second, .val (.int p4), .val (.int z1), .val (.long z2), .second, .val (.int pb), .val (.long oy), .second, .val (.ref b5), .val (.ref b9), .val (.int v15), .unset] [(.int (1 : Int32))])) (fun t k => XS.goto X23.here hx rfl (pc0 := 112) (pc' := 116) rfl (hb hby at_112) (by decide) (by decide) k) ?_
        refine own_by (V := T23.setTop (mkF m 118 #[.val (.int p0), .val (.long q1), .second, .val (.int p2), .val (.long q3), .second, .val (.int p4), .val (.int z1), .val (.long z2), .second, .val (.int pb), .val (.long oy), .second, .val (.ref b5), .val (.ref b9), .val (.int v15), .val (.int (1 : Int32))] [])) (fun t k => XS.istore X23.here hx rfl (hb hby at_116) rfl (l' := #[.val (.int p0), .val (.long q1), .second, .val (.int p2), .val (.long q3), .second, .val (.int p4), .val (.int z1), .val (.long z2), .second, .val (.int pb), .val (.long oy), .second, .val (.ref b5), .val (.ref b9), .val (.int v15), .val (.int (1 : Int32))]) rfl k) ?_
        refine own_by (V := T23.setTop (mkF m 120 #[.val (.int p0), .val (.long q1), .second, .val (.int p2), .val (.long q3), .second, .val (.int p4), .val (.int z1), .val (.long z2), .second, .val (.int pb), .val (.long oy), .second, .val (.ref b5), .val (.ref b9), .val (.int v15), .val (.int (1 : Int32))] [(.int (1 : Int32))])) (fun t k => XS.iload X23.here hx rfl (hb hby at_118) rfl  k) ?_
        have hb120_26 : ¬ ((1 : Int32) = (0 : Int32)) := by decide
        refine own_by (V := T23.setTop (mkF m 123 #[.val (.int p0), .val (.long q1), .second, .val (.int p2), .val (.long q3), .second, .val (.int p4), .val (.int z1), .val (.long z2), .second, .val (.int pb), .val (.long oy), .second, .val (.ref b5), .val (.ref b9), .val (.int v15), .val (.int (1 : Int32))] [])) (fun t k => XS.ifNo X23.here hx rfl (hb hby at_120) rfl ((if0 _ _).trans (feq hb120_26).1) k) ?_
        refine own_by (V := T23.setTop (mkF m 125 #[.val (.int p0), .val (.long q1), .second, .val (.int p2), .val (.long q3), .second, .val (.int p4), .val (.int z1), .val (.long z2), .second, .val (.int pb), .val (.long oy), .second, .val (.ref b5), .val (.ref b9), .val (.int v15), .val (.int (1 : Int32))] [(.ref b9)])) (fun t k => XS.aload X23.here hx rfl (hb hby at_123) rfl rfl k) ?_
        refine own_by (V := T23.setTop (mkF m 127 #[.val (.int p0), .val (.long q1), .second, .val (.int p2), .val (.long q3), .second, .val (.int p4), .val (.int z1), .val (.long z2), .second, .val (.int pb), .val (.long oy), .second, .val (.ref b5), .val (.ref b9), .val (.int v15), .val (.int (1 : Int32))] [(.ref b5), (.ref b9)])) (fun t k => XS.aload X23.here hx rfl (hb hby at_125) rfl rfl k) ?_
        obtain ⟨cq28, kq28, q28a, q28b, q28c⟩ := isOf hZ e23 Ec18
        obtain ⟨_, _, ⟨T27, Lq27, kq27, nq27⟩, -, X27, ⟨Lc27, hQ27, lq27, yq27, zq27⟩, st27⟩ := X23.virtualBack hx (y := (⟨"com/example/balcon/balcon/model/Position", "equals", "(Ljava/lang/Object;)Z"⟩ : MethodName)) (z := (⟨"com/example/balcon/balcon/model/Position", "equals", "(Ljava/lang/Object;)Z"⟩ : MethodName)) hown (mvT hZ (hw _ (List.mem_of_getElem? (i := 15) rfl))) (mvT hZ (hw _ (List.mem_of_getElem? (i := 16) rfl))) (notFace_of_selects (args := #[]) (mvT hZ (hw _ (List.mem_of_getElem? (i := 18) rfl)))) (mvT hZ (hw _ (List.mem_of_getElem? (i := 18) rfl))) (mvT hZ (hw _ (List.mem_of_getElem? (i := 17) rfl))) (by decide) (backOf (W := 0) (own_eqPos l Z a0 hw [] b9 b5 pb z1 oy z2 T18.heap n0 g18_0 f20 g18_1 f21 f19) hZ (hw _ (List.mem_of_getElem? (i := 19) rfl)) (hw _ (List.mem_of_getElem? (i := 4) rfl)) (by decide) (by decide)) q28a q28c (g := (mkF m 127 #[.val (.int p0), .val (.long q1), .second, .val (.int p2), .val (.long q3), .second, .val (.int p4), .val (.int z1), .val (.long z2), .second, .val (.int pb), .val (.long oy), .second, .val (.ref b5), .val (.ref b9), .val (.int v15), .val (.int (1 : Int32))] [(.ref b5), (.ref b9)])) rfl (by rw [hml]; rfl) (Steps.refl _) (argsL := [(.ref b5)]) (rest := []) (lenOf own_pd3 rfl) rfl (by show 2 * 0 + _ ≤ _; exact Nat.le_of_eq rfl) (hb hby at_127) (fun _ _ => ⟨rfl, e23, (by decide : 2 + 0 ≤ _), (by decide : 4 + 0 ≤ _)⟩)
        dsimp only [Pt.U, Pt.locs, Pt.cells, Pt.slots] at X27 lq27 yq27 zq27 st27 hQ27
        subst lq27 yq27 zq27
        obtain ⟨rfl, N27q, e27⟩ := hQ27
        have N27 := Fr.app N23 N27q
        refine own_by (V := T27.setTop (mkF m 130 #[.val (.int p0), .val (.long q1), .second, .val (.int p2), .val (.long q3), .second, .val (.int p4), .val (.int z1), .val (.long z2), .second, .val (.int pb), .val (.long oy), .second, .val (.ref b5), .val (.ref b9), .val (.int v15), .val (.int (1 : Int32))] [(.int (own_eqP pb z1 oy z2))])) (fun t k => st27.trans k) ?_
        refine own_by (V := T27.setTop (mkF m 132 #[.val (.int p0), .val (.long q1), .second, .val (.int p2), .val (.long q3), .second, .val (.int p4), .val (.int z1), .val (.long z2), .second, .val (.int pb), .val (.long oy), .second, .val (.ref b5), .val (.ref b9), .val (.int v15), .val (.int (1 : Int32))] [(.int v15), (.int (own_eqP pb z1 oy z2))])) (fun t k => XS.iload X27.here hx rfl (hb hby at_130) rfl  k) ?_
        have hb132_29 : ((own_eqP pb z1 oy z2) = v15) := by rw [hv15]; exact own_eqP_symm _ _ _ _
        refine own_by (V := T27.setTop (mkF m 135 #[.val (.int p0), .val (.long q1), .second, .val (.int p2), .val (.long q3), .second, .val (.int p4), .val (.int z1), .val (.long z2), .second, .val (.int pb), .val (.long oy), .second, .val (.ref b5), .val (.ref b9), .val (.int v15), .val (.int (1 : Int32))] [])) (fun t k => XS.icmpNo X27.here hx rfl (hb hby at_132) rfl (teq hb132_29).2 k) ?_
        refine own_by (V := T27.setTop (mkF m 136 #[.val (.int p0), .val (.long q1), .second, .val (.int p2), .val (.long q3), .second, .val (.int p4), .val (.int z1), .val (.long z2), .second, .val (.int pb), .val (.long oy), .second, .val (.ref b5), .val (.ref b9), .val (.int v15), .val (.int (1 : Int32))] [(.int (1 : Int32))])) (fun t k => XS.iconst X27.here hx rfl (hb hby at_135) k) ?_
        refine own_by (V := T27.setTop (mkF m 140 #[.val (.int p0), .val (.long q1), .second, .val (.int p2), .val (.long q3), .second, .val (.int p4), .val (.int z1), .val (.long z2), .second, .val (.int pb), .val (.long oy), .second, .val (.ref b5), .val (.ref b9), .val (.int v15), .val (.int (1 : Int32))] [(.int (1 : Int32))])) (fun t k => XS.goto X27.here hx rfl (pc0 := 136) (pc' := 140) rfl (hb hby at_136) (by decide) (by decide) k) ?_
        refine own_by (V := T27.setTop (mkF m 142 #[.val (.int p0), .val (.long q1), .second, .val (.int p2), .val (.long q3), .second, .val (.int p4), .val (.int z1), .val (.long z2), .second, .val (.int pb), .val (.long oy), .second, .val (.ref b5), .val (.ref b9), .val (.int v15), .val (.int (1 : Int32))] [])) (fun t k => XS.istore X27.here hx rfl (hb hby at_140) rfl (l' := #[.val (.int p0), .val (.long q1), .second, .val (.int p2), .val (.long q3), .second, .val (.int p4), .val (.int z1), .val (.long z2), .second, .val (.int pb), .val (.long oy), .second, .val (.ref b5), .val (.ref b9), .val (.int v15), .val (.int (1 : Int32))]) rfl k) ?_
        refine own_by (V := T27.setTop (mkF m 144 #[.val (.int p0), .val (.long q1), .second, .val (.int p2), .val (.long q3), .second, .val (.int p4), .val (.int z1), .val (.long z2), .second, .val (.int pb), .val (.long oy), .second, .val (.ref b5), .val (.ref b9), .val (.int v15), .val (.int (1 : Int32))] [(.int (1 : Int32))])) (fun t k => XS.iload X27.here hx rfl (hb hby at_142) rfl  k) ?_
        have hb144_30 : ¬ ((1 : Int32) = (0 : Int32)) := by decide
        refine own_by (V := T27.setTop (mkF m 147 #[.val (.int p0), .val (.long q1), .second, .val (.int p2), .val (.long q3), .second, .val (.int p4), .val (.int z1), .val (.long z2), .second, .val (.int pb), .val (.long oy), .second, .val (.ref b5), .val (.ref b9), .val (.int v15), .val (.int (1 : Int32))] [])) (fun t k => XS.ifNo X27.here hx rfl (hb hby at_144) rfl ((if0 _ _).trans (feq hb144_30).1) k) ?_
        refine own_by (V := T27.setTop (mkF m 149 #[.val (.int p0), .val (.long q1), .second, .val (.int p2), .val (.long q3), .second, .val (.int p4), .val (.int z1), .val (.long z2), .second, .val (.int pb), .val (.long oy), .second, .val (.ref b5), .val (.ref b9), .val (.int v15), .val (.int (1 : Int32))] [(.ref b5)])) (fun t k => XS.aload X27.here hx rfl (hb hby at_147) rfl rfl k) ?_
        refine own_by (V := T27.setTop (mkF m 151 #[.val (.int p0), .val (.long q1), .second, .val (.int p2), .val (.long q3), .second, .val (.int p4), .val (.int z1), .val (.long z2), .second, .val (.int pb), .val (.long oy), .second, .val (.ref b5), .val (.ref b9), .val (.int v15), .val (.int (1 : Int32))] [(.ref b5), (.ref b5)])) (fun t k => XS.aload X27.here hx rfl (hb hby at_149) rfl rfl k) ?_
        obtain ⟨cq32, kq32, q32a, q32b, q32c⟩ := isOf hZ e27 f19
        obtain ⟨_, _, ⟨T31, Lq31, kq31, nq31⟩, -, X31, ⟨Lc31, hQ31, lq31, yq31, zq31⟩, st31⟩ := X27.virtualBack hx (y := (⟨"com/example/balcon/balcon/model/Position", "equals", "(Ljava/lang/Object;)Z"⟩ : MethodName)) (z := (⟨"com/example/balcon/balcon/model/Position", "equals", "(Ljava/lang/Object;)Z"⟩ : MethodName)) hown (mvT hZ (hw _ (List.mem_of_getElem? (i := 15) rfl))) (mvT hZ (hw _ (List.mem_of_getElem? (i := 16) rfl))) (notFace_of_selects (args := #[]) (mvT hZ (hw _ (List.mem_of_getElem? (i := 18) rfl)))) (mvT hZ (hw _ (List.mem_of_getElem? (i := 18) rfl))) (mvT hZ (hw _ (List.mem_of_getElem? (i := 17) rfl))) (by decide) (backOf (W := 0) (own_eqPos l Z a0 hw [] b5 b5 z1 z1 z2 z2 T18.heap n0 f20 f20 f21 f21 f19) hZ (hw _ (List.mem_of_getElem? (i := 19) rfl)) (hw _ (List.mem_of_getElem? (i := 4) rfl)) (by decide) (by decide)) q32a q32c (g := (mkF m 151 #[.val (.int p0), .val (.long q1), .second, .val (.int p2), .val (.long q3), .second, .val (.int p4), .val (.int z1), .val (.long z2), .second, .val (.int pb), .val (.long oy), .second, .val (.ref b5), .val (.ref b9), .val (.int v15), .val (.int (1 : Int32))] [(.ref b5), (.ref b5)])) rfl (by rw [hml]; rfl) (Steps.refl _) (argsL := [(.ref b5)]) (rest := []) (lenOf own_pd3 rfl) rfl (by show 2 * 0 + _ ≤ _; exact Nat.le_of_eq rfl) (hb hby at_151) (fun _ _ => ⟨rfl, e27, (by decide : 2 + 0 ≤ _), (by decide : 4 + 0 ≤ _)⟩)
        dsimp only [Pt.U, Pt.locs, Pt.cells, Pt.slots] at X31 lq31 yq31 zq31 st31 hQ31
        subst lq31 yq31 zq31
        obtain ⟨rfl, N31q, e31⟩ := hQ31
        have N31 := Fr.app N27 N31q
        refine own_by (V := T31.setTop (mkF m 154 #[.val (.int p0), .val (.long q1), .second, .val (.int p2), .val (.long q3), .second, .val (.int p4), .val (.int z1), .val (.long z2), .second, .val (.int pb), .val (.long oy), .second, .val (.ref b5), .val (.ref b9), .val (.int v15), .val (.int (1 : Int32))] [(.int (own_eqP z1 z1 z2 z2))])) (fun t k => st31.trans k) ?_
        have hb154_33 : ¬ ((own_eqP z1 z1 z2 z2) = (0 : Int32)) := by rw [own_eqP_self]; decide
        refine own_by (V := T31.setTop (mkF m 157 #[.val (.int p0), .val (.long q1), .second, .val (.int p2), .val (.long q3), .second, .val (.int p4), .val (.int z1), .val (.long z2), .second, .val (.int pb), .val (.long oy), .second, .val (.ref b5), .val (.ref b9), .val (.int v15), .val (.int (1 : Int32))] [])) (fun t k => XS.ifNo X31.here hx rfl (hb hby at_154) rfl ((if0 _ _).trans (feq hb154_33).1) k) ?_
        refine own_by (V := T31.setTop (mkF m 158 #[.val (.int p0), .val (.long q1), .second, .val (.int p2), .val (.long q3), .second, .val (.int p4), .val (.int z1), .val (.long z2), .second, .val (.int pb), .val (.long oy), .second, .val (.ref b5), .val (.ref b9), .val (.int v15), .val (.int (1 : Int32))] [(.int (1 : Int32))])) (fun t k => XS.iconst X31.here hx rfl (hb hby at_157) k) ?_
        refine own_by (V := T31.setTop (mkF m 162 #[.val (.int p0), .val (.long q1), .second, .val (.int p2), .val (.long q3), .second, .val (.int p4), .val (.int z1), .val (.long z2), .second, .val (.int pb), .val (.long oy), .second, .val (.ref b5), .val (.ref b9), .val (.int v15), .val (.int (1 : Int32))] [(.int (1 : Int32))])) (fun t k => XS.goto X31.here hx rfl (pc0 := 158) (pc' := 162) rfl (hb hby at_158) (by decide) (by decide) k) ?_
        refine own_by (V := T31.setTop (mkF m 164 #[.val (.int p0), .val (.long q1), .second, .val (.int p2), .val (.long q3), .second, .val (.int p4), .val (.int z1), .val (.long z2), .second, .val (.int pb), .val (.long oy), .second, .val (.ref b5), .val (.ref b9), .val (.int v15), .val (.int (1 : Int32))] [])) (fun t k => XS.istore X31.here hx rfl (hb hby at_162) rfl (l' := #[.val (.int p0), .val (.long q1), .second, .val (.int p2), .val (.long q3), .second, .val (.int p4), .val (.int z1), .val (.long z2), .second, .val (.int pb), .val (.long oy), .second, .val (.ref b5), .val (.ref b9), .val (.int v15), .val (.int (1 : Int32))]) rfl k) ?_
        refine own_by (V := T31.setTop (mkF m 166 #[.val (.int p0), .val (.long q1), .second, .val (.int p2), .val (.long q3), .second, .val (.int p4), .val (.int z1), .val (.long z2), .second, .val (.int pb), .val (.long oy), .second, .val (.ref b5), .val (.ref b9), .val (.int v15), .val (.int (1 : Int32))] [(.int (1 : Int32))])) (fun t k => XS.iload X31.here hx rfl (hb hby at_164) rfl  k) ?_
        have hb166_34 : ¬ ((1 : Int32) = (0 : Int32)) := by decide
        refine own_by (V := T31.setTop (mkF m 169 #[.val (.int p0), .val (.long q1), .second, .val (.int p2), .val (.long q3), .second, .val (.int p4), .val (.int z1), .val (.long z2), .second, .val (.int pb), .val (.long oy), .second, .val (.ref b5), .val (.ref b9), .val (.int v15), .val (.int (1 : Int32))] [])) (fun t k => XS.ifNo X31.here hx rfl (hb hby at_166) rfl ((if0 _ _).trans (feq hb166_34).1) k) ?_
        refine own_by (V := T31.setTop (mkF m 171 #[.val (.int p0), .val (.long q1), .second, .val (.int p2), .val (.long q3), .second, .val (.int p4), .val (.int z1), .val (.long z2), .second, .val (.int pb), .val (.long oy), .second, .val (.ref b5), .val (.ref b9), .val (.int v15), .val (.int (1 : Int32))] [(.ref b5)])) (fun t k => XS.aload X31.here hx rfl (hb hby at_169) rfl rfl k) ?_
        refine own_by (V := T31.setTop (mkF m 172 #[.val (.int p0), .val (.long q1), .second, .val (.int p2), .val (.long q3), .second, .val (.int p4), .val (.int z1), .val (.long z2), .second, .val (.int pb), .val (.long oy), .second, .val (.ref b5), .val (.ref b9), .val (.int v15), .val (.int (1 : Int32))] [.null, (.ref b5)])) (fun t k => XS.aconstNull X31.here hx rfl (hb hby at_171) k) ?_
        obtain ⟨cq36, kq36, q36a, q36b, q36c⟩ := isOf hZ e31 f19
        obtain ⟨_, _, ⟨T35, Lq35, kq35, nq35⟩, -, X35, ⟨Lc35, hQ35, lq35, yq35, zq35⟩, st35⟩ := X31.virtualBack hx (y := (⟨"com/example/balcon/balcon/model/Position", "equals", "(Ljava/lang/Object;)Z"⟩ : MethodName)) (z := (⟨"com/example/balcon/balcon/model/Position", "equals", "(Ljava/lang/Object;)Z"⟩ : MethodName)) hown (mvT hZ (hw _ (List.mem_of_getElem? (i := 15) rfl))) (mvT hZ (hw _ (List.mem_of_getElem? (i := 16) rfl))) (notFace_of_selects (args := #[]) (mvT hZ (hw _ (List.mem_of_getElem? (i := 18) rfl)))) (mvT hZ (hw _ (List.mem_of_getElem? (i := 18) rfl))) (mvT hZ (hw _ (List.mem_of_getElem? (i := 17) rfl))) (by decide) (backOf (W := 0) (own_eqNull l Z a0 hw [] b5 T18.heap n0 ) hZ (hw _ (List.mem_of_getElem? (i := 19) rfl)) (hw _ (List.mem_of_getElem? (i := 4) rfl)) (by decide) (by decide)) q36a q36c (g := (mkF m 172 #[.val (.int p0), .val (.long q1), .second, .val (.int p2), .val (.long q3), .second, .val (.int p4), .val (.int z1), .val (.long z2), .second, .val (.int pb), .val (.long oy), .second, .val (.ref b5), .val (.ref b9), .val (.int v15), .val (.int (1 : Int32))] [.null, (.ref b5)])) rfl (by rw [hml]; rfl) (Steps.refl _) (argsL := [.null]) (rest := []) (lenOf own_pd3 rfl) rfl (by show 2 * 0 + _ ≤ _; exact Nat.le_of_eq rfl) (hb hby at_172) (fun _ _ => ⟨rfl, e31, (by decide : 2 + 0 ≤ _), (by decide : 4 + 0 ≤ _)⟩)
        dsimp only [Pt.U, Pt.locs, Pt.cells, Pt.slots] at X35 lq35 yq35 zq35 st35 hQ35
        subst lq35 yq35 zq35
        obtain ⟨rfl, N35q, e35⟩ := hQ35
        have N35 := Fr.app N31 N35q
        refine own_by (V := T35.setTop (mkF m 175 #[.val (.int p0), .val (.long q1), .second, .val (.int p2), .val (.long q3), .second, .val (.int p4), .val (.int z1), .val (.long z2), .second, .val (.int pb), .val (.long oy), .second, .val (.ref b5), .val (.ref b9), .val (.int v15), .val (.int (1 : Int32))] [(.int (0 : Int32))])) (fun t k => st35.trans k) ?_
        have hb175_37 : ((0 : Int32) = (0 : Int32)) := by decide
        refine own_by (V := T35.setTop (mkF m 178 #[.val (.int p0), .val (.long q1), .second, .val (.int p2), .val (.long q3), .second, .val (.int p4), .val (.int z1), .val (.long z2), .second, .val (.int pb), .val (.long oy), .second, .val (.ref b5), .val (.ref b9), .val (.int v15), .val (.int (1 : Int32))] [])) (fun t k => XS.ifNo X35.here hx rfl (hb hby at_175) rfl ((if0 _ _).trans (teq hb175_37).2) k) ?_
        refine own_by (V := T35.setTop (mkF m 179 #[.val (.int p0), .val (.long q1), .second, .val (.int p2), .val (.long q3), .second, .val (.int p4), .val (.int z1), .val (.long z2), .second, .val (.int pb), .val (.long oy), .second, .val (.ref b5), .val (.ref b9), .val (.int v15), .val (.int (1 : Int32))] [(.int (1 : Int32))])) (fun t k => XS.iconst X35.here hx rfl (hb hby at_178) k) ?_
        refine own_by (V := T35.setTop (mkF m 183 #[.val (.int p0), .val (.long q1), .second, .val (.int p2), .val (.long q3), .second, .val (.int p4), .val (.int z1), .val (.long z2), .second, .val (.int pb), .val (.long oy), .second, .val (.ref b5), .val (.ref b9), .val (.int v15), .val (.int (1 : Int32))] [(.int (1 : Int32))])) (fun t k => XS.goto X35.here hx rfl (pc0 := 179) (pc' := 183) rfl (hb hby at_179) (by decide) (by decide) k) ?_
        refine own_by (V := T35.setTop (mkF m 185 #[.val (.int p0), .val (.long q1), .second, .val (.int p2), .val (.long q3), .second, .val (.int p4), .val (.int z1), .val (.long z2), .second, .val (.int pb), .val (.long oy), .second, .val (.ref b5), .val (.ref b9), .val (.int v15), .val (.int (1 : Int32))] [])) (fun t k => XS.istore X35.here hx rfl (hb hby at_183) rfl (l' := #[.val (.int p0), .val (.long q1), .second, .val (.int p2), .val (.long q3), .second, .val (.int p4), .val (.int z1), .val (.long z2), .second, .val (.int pb), .val (.long oy), .second, .val (.ref b5), .val (.ref b9), .val (.int v15), .val (.int (1 : Int32))]) rfl k) ?_
        refine own_by (V := T35.setTop (mkF m 187 #[.val (.int p0), .val (.long q1), .second, .val (.int p2), .val (.long q3), .second, .val (.int p4), .val (.int z1), .val (.long z2), .second, .val (.int pb), .val (.long oy), .second, .val (.ref b5), .val (.ref b9), .val (.int v15), .val (.int (1 : Int32))] [(.int (1 : Int32))])) (fun t k => XS.iload X35.here hx rfl (hb hby at_185) rfl  k) ?_
        have hb187_38 : ¬ ((1 : Int32) = (0 : Int32)) := by decide
        refine own_by (V := T35.setTop (mkF m 190 #[.val (.int p0), .val (.long q1), .second, .val (.int p2), .val (.long q3), .second, .val (.int p4), .val (.int z1), .val (.long z2), .second, .val (.int pb), .val (.long oy), .second, .val (.ref b5), .val (.ref b9), .val (.int v15), .val (.int (1 : Int32))] [])) (fun t k => XS.ifNo X35.here hx rfl (hb hby at_187) rfl ((if0 _ _).trans (feq hb187_38).1) k) ?_
        refine own_by (V := T35.setTop (mkF m 192 #[.val (.int p0), .val (.long q1), .second, .val (.int p2), .val (.long q3), .second, .val (.int p4), .val (.int z1), .val (.long z2), .second, .val (.int pb), .val (.long oy), .second, .val (.ref b5), .val (.ref b9), .val (.int v15), .val (.int (1 : Int32))] [(.ref b5)])) (fun t k => XS.aload X35.here hx rfl (hb hby at_190) rfl rfl k) ?_
        refine own_by (V := T35.setTop (mkF m 194 #[.val (.int p0), .val (.long q1), .second, .val (.int p2), .val (.long q3), .second, .val (.int p4), .val (.int z1), .val (.long z2), .second, .val (.int pb), .val (.long oy), .second, .val (.ref b5), .val (.ref b9), .val (.int v15), .val (.int (1 : Int32))] [(.int z1), (.ref b5)])) (fun t k => XS.iload X35.here hx rfl (hb hby at_192) rfl  k) ?_
        obtain ⟨_, _, ⟨T39, Lq39, kq39, nq39⟩, -, X39, ⟨Lc39, hQ39, lq39, yq39, zq39⟩, st39⟩ := Jvm.LawKit.callS X35 hx (y := (⟨"java/lang/Integer", "valueOf", "(I)Ljava/lang/Integer;"⟩ : MethodName)) hown (mvT hZ (hw _ (List.mem_of_getElem? (i := 22) rfl))) (mvT hZ (hw _ (List.mem_of_getElem? (i := 23) rfl))) (mvT hZ (hw _ (List.mem_of_getElem? (i := 24) rfl))) (mvT hZ (hw _ (List.mem_of_getElem? (i := 25) rfl))) (by decide) (backOf (W := 1) (own_valueOf l Z a0 hw [] z1 wc clc T18.heap n0 Zs18 (SC.ext O18.2) (AC.ext O18.2) hsz (fun j hj => by obtain ⟨b, q1, q2⟩ := hel j hj; exact ⟨b, q1, q2.ext O18.2⟩) (SH.ext O18.2)) hZ (hw _ (List.mem_of_getElem? (i := 25) rfl)) (hw _ (List.mem_of_getElem? (i := 24) rfl)) (by decide) (by decide)) (g := (mkF m 194 #[.val (.int p0), .val (.long q1), .second, .val (.int p2), .val (.long q3), .second, .val (.int p4), .val (.int z1), .val (.long z2), .second, .val (.int pb), .val (.long oy), .second, .val (.ref b5), .val (.ref b9), .val (.int v15), .val (.int (1 : Int32))] [(.int z1), (.ref b5)])) rfl (by rw [hml]; rfl) (argsL := [(.int z1)]) (rest := [(.ref b5)]) (lenOf own_pd4 rfl) rfl (by show 2 * 0 + _ ≤ _; exact Nat.le_of_eq rfl) (hb hby at_194) (fun _ _ => ⟨rfl, e35, (by decide : 2 + 1 ≤ _), (by decide : 4 + 1 ≤ _)⟩)
        dsimp only [Pt.U, Pt.locs, Pt.cells, Pt.slots] at X39 lq39 yq39 zq39 st39 hQ39
        subst lq39 yq39 zq39
        obtain ⟨r39, rfl, N39q, Kc39, Ec39⟩ := hQ39
        have N39 := Fr.app N35 N39q
        have f40 := f19.keep Kc39
        have f41 := f20.keep Kc39 nin0
        have f42 := f21.keep Kc39 nin0
        have f43 := Ec18.keep Kc39
        have f44 := g18_0.keep Kc39 nin0
        have f45 := g18_1.keep Kc39 nin0
        have O39 := O18.keep Kc39 all0
        have Zs39 : n0 ≤ T39.heap.size := Nat.le_trans Zs18 Kc39.1
        refine own_by (V := T39.setTop (mkF m 197 #[.val (.int p0), .val (.long q1), .second, .val (.int p2), .val (.long q3), .second, .val (.int p4), .val (.int z1), .val (.long z2), .second, .val (.int pb), .val (.long oy), .second, .val (.ref b5), .val (.ref b9), .val (.int v15), .val (.int (1 : Int32))] [(.ref r39), (.ref b5)])) st39 ?_
        obtain ⟨cq47, kq47, q47a, q47b, q47c⟩ := isOf hZ rfl f40
        obtain ⟨_, _, ⟨T46, Lq46, kq46, nq46⟩, -, X46, ⟨Lc46, hQ46, lq46, yq46, zq46⟩, st46⟩ := X39.virtualBack hx (y := (⟨"com/example/balcon/balcon/model/Position", "equals", "(Ljava/lang/Object;)Z"⟩ : MethodName)) (z := (⟨"com/example/balcon/balcon/model/Position", "equals", "(Ljava/lang/Object;)Z"⟩ : MethodName)) hown (mvT hZ (hw _ (List.mem_of_getElem? (i := 15) rfl))) (mvT hZ (hw _ (List.mem_of_getElem? (i := 16) rfl))) (notFace_of_selects (args := #[]) (mvT hZ (hw _ (List.mem_of_getElem? (i := 18) rfl)))) (mvT hZ (hw _ (List.mem_of_getElem? (i := 18) rfl))) (mvT hZ (hw _ (List.mem_of_getElem? (i := 17) rfl))) (by decide) (backOf (W := 0) (own_eqBox l Z a0 hw [] b5 r39 T39.heap n0 Ec39) hZ (hw _ (List.mem_of_getElem? (i := 19) rfl)) (hw _ (List.mem_of_getElem? (i := 4) rfl)) (by decide) (by decide)) q47a q47c (g := (mkF m 197 #[.val (.int p0), .val (.long q1), .second, .val (.int p2), .val (.long q3), .second, .val (.int p4), .val (.int z1), .val (.long z2), .second, .val (.int pb), .val (.long oy), .second, .val (.ref b5), .val (.ref b9), .val (.int v15), .val (.int (1 : Int32))] [(.ref r39), (.ref b5)])) rfl (by rw [hml]; rfl) (Steps.refl _) (argsL := [(.ref r39)]) (rest := []) (lenOf own_pd3 rfl) rfl (by show 2 * 0 + _ ≤ _; exact Nat.le_of_eq rfl) (hb hby at_197) (fun _ _ => ⟨rfl, rfl, (by decide : 3 + 0 ≤ _), (by decide : 5 + 0 ≤ _)⟩)
        dsimp only [Pt.U, Pt.locs, Pt.cells, Pt.slots] at X46 lq46 yq46 zq46 st46 hQ46
        subst lq46 yq46 zq46
        obtain ⟨rfl, N46q, e46⟩ := hQ46
        have N46 := Fr.app N39 N46q
        refine own_by (V := T46.setTop (mkF m 200 #[.val (.int p0), .val (.long q1), .second, .val (.int p2), .val (.long q3), .second, .val (.int p4), .val (.int z1), .val (.long z2), .second, .val (.int pb), .val (.long oy), .second, .val (.ref b5), .val (.ref b9), .val (.int v15), .val (.int (1 : Int32))] [(.int (0 : Int32))])) (fun t k => st46.trans k) ?_
        have hb200_48 : ((0 : Int32) = (0 : Int32)) := by decide
        refine own_by (V := T46.setTop (mkF m 203 #[.val (.int p0), .val (.long q1), .second, .val (.int p2), .val (.long q3), .second, .val (.int p4), .val (.int z1), .val (.long z2), .second, .val (.int pb), .val (.long oy), .second, .val (.ref b5), .val (.ref b9), .val (.int v15), .val (.int (1 : Int32))] [])) (fun t k => XS.ifNo X46.here hx rfl (hb hby at_200) rfl ((if0 _ _).trans (teq hb200_48).2) k) ?_
        refine own_by (V := T46.setTop (mkF m 204 #[.val (.int p0), .val (.long q1), .second, .val (.int p2), .val (.long q3), .second, .val (.int p4), .val (.int z1), .val (.long z2), .second, .val (.int pb), .val (.long oy), .second, .val (.ref b5), .val (.ref b9), .val (.int v15), .val (.int (1 : Int32))] [(.int (1 : Int32))])) (fun t k => XS.iconst X46.here hx rfl (hb hby at_203) k) ?_
        refine own_by (V := T46.setTop (mkF m 208 #[.val (.int p0), .val (.long q1), .second, .val (.int p2), .val (.long q3), .second, .val (.int p4), .val (.int z1), .val (.long z2), .second, .val (.int pb), .val (.long oy), .second, .val (.ref b5), .val (.ref b9), .val (.int v15), .val (.int (1 : Int32))] [(.int (1 : Int32))])) (fun t k => XS.goto X46.here hx rfl (pc0 := 204) (pc' := 208) rfl (hb hby at_204) (by decide) (by decide) k) ?_
        refine own_by (V := T46.setTop (mkF m 210 #[.val (.int p0), .val (.long q1), .second, .val (.int p2), .val (.long q3), .second, .val (.int p4), .val (.int z1), .val (.long z2), .second, .val (.int pb), .val (.long oy), .second, .val (.ref b5), .val (.ref b9), .val (.int v15), .val (.int (1 : Int32))] [])) (fun t k => XS.istore X46.here hx rfl (hb hby at_208) rfl (l' := #[.val (.int p0), .val (.long q1), .second, .val (.int p2), .val (.long q3), .second, .val (.int p4), .val (.int z1), .val (.long z2), .second, .val (.int pb), .val (.long oy), .second, .val (.ref b5), .val (.ref b9), .val (.int v15), .val (.int (1 : Int32))]) rfl k) ?_
        refine own_by (V := T46.setTop (mkF m 212 #[.val (.int p0), .val (.long q1), .second, .val (.int p2), .val (.long q3), .second, .val (.int p4), .val (.int z1), .val (.long z2), .second, .val (.int pb), .val (.long oy), .second, .val (.ref b5), .val (.ref b9), .val (.int v15), .val (.int (1 : Int32))] [(.int (1 : Int32))])) (fun t k => XS.iload X46.here hx rfl (hb hby at_210) rfl  k) ?_
        refine own_retN X46 hx hlk e46 Bd.returns (t := .boolean) (by simp) rfl (hb hby at_212) ?_ (by decide) (by decide)
        exact ⟨rfl, N46⟩
      by_cases hb81_49 : z1 = pb
      · refine own_by (V := T18.setTop (mkF m 84 #[.val (.int p0), .val (.long q1), .second, .val (.int p2), .val (.long q3), .second, .val (.int p4), .val (.int z1), .val (.long z2), .second, .val (.int pb), .val (.long oy), .second, .val (.ref b5), .val (.ref b9), .unset, .unset] [])) (fun t k => XS.icmpNo X18.here hx rfl (hb hby at_81) rfl (teq hb81_49).2 k) ?_
        refine own_by (V := T18.setTop (mkF m 86 #[.val (.int p0), .val (.long q1), .second, .val (.int p2), .val (.long q3), .second, .val (.int p4), .val (.int z1), .val (.long z2), .second, .val (.int pb), .val (.long oy), .second, .val (.ref b5), .val (.ref b9), .unset, .unset] [(.long z2)])) (fun t k => XS.lload X18.here hx rfl (hb hby at_84) rfl  k) ?_
        refine own_by (V := T18.setTop (mkF m 88 #[.val (.int p0), .val (.long q1), .second, .val (.int p2), .val (.long q3), .second, .val (.int p4), .val (.int z1), .val (.long z2), .second, .val (.int pb), .val (.long oy), .second, .val (.ref b5), .val (.ref b9), .unset, .unset] [(.long oy), (.long z2)])) (fun t k => XS.lload X18.here hx rfl (hb hby at_86) rfl  k) ?_
        refine own_by (V := T18.setTop (mkF m 89 #[.val (.int p0), .val (.long q1), .second, .val (.int p2), .val (.long q3), .second, .val (.int p4), .val (.int z1), .val (.long z2), .second, .val (.int pb), .val (.long oy), .second, .val (.ref b5), .val (.ref b9), .unset, .unset] [(.int (lcmpW z2 oy))])) (fun t k => XS.lcmp X18.here hx rfl (hb hby at_88) rfl k) ?_
        by_cases hb89_50 : (lcmpW z2 oy) = (0 : Int32)
        · refine own_by (V := T18.setTop (mkF m 92 #[.val (.int p0), .val (.long q1), .second, .val (.int p2), .val (.long q3), .second, .val (.int p4), .val (.int z1), .val (.long z2), .second, .val (.int pb), .val (.long oy), .second, .val (.ref b5), .val (.ref b9), .unset, .unset] [])) (fun t k => XS.ifNo X18.here hx rfl (hb hby at_89) rfl ((if0 _ _).trans (teq hb89_50).2) k) ?_
          refine own_by (V := T18.setTop (mkF m 93 #[.val (.int p0), .val (.long q1), .second, .val (.int p2), .val (.long q3), .second, .val (.int p4), .val (.int z1), .val (.long z2), .second, .val (.int pb), .val (.long oy), .second, .val (.ref b5), .val (.ref b9), .unset, .unset] [(.int (1 : Int32))])) (fun t k => XS.iconst X18.here hx rfl (hb hby at_92) k) ?_
          refine own_by (V := T18.setTop (mkF m 97 #[.val (.int p0), .val (.long q1), .second, .val (.int p2), .val (.long q3), .second, .val (.int p4), .val (.int z1), .val (.long z2), .second, .val (.int pb), .val (.long oy), .second, .val (.ref b5), .val (.ref b9), .unset, .unset] [(.int (1 : Int32))])) (fun t k => XS.goto X18.here hx rfl (pc0 := 93) (pc' := 97) rfl (hb hby at_93) (by decide) (by decide) k) ?_
          exact J22 T18 _ (1 : Int32) (X18.more (by decide) (by decide)) rfl N18 (if_pos ⟨hb81_49, (lw_eq _ _).mp hb89_50⟩).symm
        · refine own_by (V := T18.setTop (mkF m 96 #[.val (.int p0), .val (.long q1), .second, .val (.int p2), .val (.long q3), .second, .val (.int p4), .val (.int z1), .val (.long z2), .second, .val (.int pb), .val (.long oy), .second, .val (.ref b5), .val (.ref b9), .unset, .unset] [])) (fun t k => XS.ifYes X18.here hx rfl (pc0 := 89) (pc' := 96) rfl (hb hby at_89) rfl ((if0 _ _).trans (feq hb89_50).2) (by decide) (by decide) k) ?_
          refine own_by (V := T18.setTop (mkF m 97 #[.val (.int p0), .val (.long q1), .second, .val (.int p2), .val (.long q3), .second, .val (.int p4), .val (.int z1), .val (.long z2), .second, .val (.int pb), .val (.long oy), .second, .val (.ref b5), .val (.ref b9), .unset, .unset] [(.int (0 : Int32))])) (fun t k => XS.iconst X18.here hx rfl (hb hby at_96) k) ?_
          exact J22 T18 _ (0 : Int32) (X18.more (by decide) (by decide)) rfl N18 (if_neg fun q => hb89_50 ((lw_eq _ _).mpr q.2)).symm
      · refine own_by (V := T18.setTop (mkF m 96 #[.val (.int p0), .val (.long q1), .second, .val (.int p2), .val (.long q3), .second, .val (.int p4), .val (.int z1), .val (.long z2), .second, .val (.int pb), .val (.long oy), .second, .val (.ref b5), .val (.ref b9), .unset, .unset] [])) (fun t k => XS.icmpYes X18.here hx rfl (pc0 := 81) (pc' := 96) rfl (hb hby at_81) rfl (feq hb81_49).2 (by decide) (by decide) k) ?_
        refine own_by (V := T18.setTop (mkF m 97 #[.val (.int p0), .val (.long q1), .second, .val (.int p2), .val (.long q3), .second, .val (.int p4), .val (.int z1), .val (.long z2), .second, .val (.int pb), .val (.long oy), .second, .val (.ref b5), .val (.ref b9), .unset, .unset] [(.int (0 : Int32))])) (fun t k => XS.iconst X18.here hx rfl (hb hby at_96) k) ?_
        exact J22 T18 _ (0 : Int32) (X18.more (by decide) (by decide)) rfl N18 (if_neg fun q => hb81_49 q.1).symm
    by_cases hb35_51 : (p4 &&& (2 : Int32)) = (0 : Int32)
    · refine own_by (V := T3.setTop (mkF m 43 #[.val (.int p0), .val (.long q1), .second, .val (.int p2), .val (.long q3), .second, .val (.int p4), .val (.int z1), .val (.long z2), .second, .val (.int pb), .unset, .unset, .unset, .unset, .unset, .unset] [])) (fun t k => XS.ifYes X3.here hx rfl (pc0 := 35) (pc' := 43) rfl (hb hby at_35) rfl ((if0 _ _).trans (teq hb35_51).1) (by decide) (by decide) k) ?_
      refine own_by (V := T3.setTop (mkF m 45 #[.val (.int p0), .val (.long q1), .second, .val (.int p2), .val (.long q3), .second, .val (.int p4), .val (.int z1), .val (.long z2), .second, .val (.int pb), .unset, .unset, .unset, .unset, .unset, .unset] [(.long q3)])) (fun t k => XS.lload X3.here hx rfl (hb hby at_43) rfl  k) ?_
      refine own_by (V := T3.setTop (mkF m 48 #[.val (.int p0), .val (.long q1), .second, .val (.int p2), .val (.long q3), .second, .val (.int p4), .val (.int z1), .val (.long z2), .second, .val (.int pb), .unset, .unset, .unset, .unset, .unset, .unset] [(.long (9223372036854775807 : Int64)), (.long q3)])) (Jvm.Stand.ldc2Long X3 hx hown (mvT hZ (hw _ (List.mem_of_getElem? (i := 1) rfl))) (g := (mkF m 45 #[.val (.int p0), .val (.long q1), .second, .val (.int p2), .val (.long q3), .second, .val (.int p4), .val (.int z1), .val (.long z2), .second, .val (.int pb), .unset, .unset, .unset, .unset, .unset, .unset] [(.long q3)])) rfl (hb hby at_45)) ?_
      refine own_by (V := T3.setTop (mkF m 49 #[.val (.int p0), .val (.long q1), .second, .val (.int p2), .val (.long q3), .second, .val (.int p4), .val (.int z1), .val (.long z2), .second, .val (.int pb), .unset, .unset, .unset, .unset, .unset, .unset] [(.long (q3 &&& (9223372036854775807 : Int64)))])) (fun t k => XS.land X3.here hx rfl (hb hby at_48) rfl k) ?_
      exact J4 T3 _ (q3 &&& (9223372036854775807 : Int64)) (X3.more (by decide) (by decide)) e3 N3 (own_nn64 _)
    · refine own_by (V := T3.setTop (mkF m 38 #[.val (.int p0), .val (.long q1), .second, .val (.int p2), .val (.long q3), .second, .val (.int p4), .val (.int z1), .val (.long z2), .second, .val (.int pb), .unset, .unset, .unset, .unset, .unset, .unset] [])) (fun t k => XS.ifNo X3.here hx rfl (hb hby at_35) rfl ((if0 _ _).trans (feq hb35_51).1) k) ?_
      refine own_by (V := T3.setTop (mkF m 40 #[.val (.int p0), .val (.long q1), .second, .val (.int p2), .val (.long q3), .second, .val (.int p4), .val (.int z1), .val (.long z2), .second, .val (.int pb), .unset, .unset, .unset, .unset, .unset, .unset] [(.long z2)])) (fun t k => XS.lload X3.here hx rfl (hb hby at_38) rfl  k) ?_
      refine own_by (V := T3.setTop (mkF m 49 #[.val (.int p0), .val (.long q1), .second, .val (.int p2), .val (.long q3), .second, .val (.int p4), .val (.int z1), .val (.long z2), .second, .val (.int pb), .unset, .unset, .unset, .unset, .unset, .unset] [(.long z2)])) (fun t k => XS.goto X3.here hx rfl (pc0 := 40) (pc' := 49) rfl (hb hby at_40) (by decide) (by decide) k) ?_
      exact J4 T3 _ z2 (X3.more (by decide) (by decide)) e3 N3 hnn8
  by_cases hb17_52 : (p4 &&& (1 : Int32)) = (0 : Int32)
  · refine own_by (V := s₁.setTop (mkF m 25 #[.val (.int p0), .val (.long q1), .second, .val (.int p2), .val (.long q3), .second, .val (.int p4), .val (.int z1), .val (.long z2), .second, .unset, .unset, .unset, .unset, .unset, .unset, .unset] [])) (fun t k => XS.ifYes X0.here hx rfl (pc0 := 17) (pc' := 25) rfl (hb hby at_17) rfl ((if0 _ _).trans (teq hb17_52).1) (by decide) (by decide) k) ?_
    refine own_by (V := s₁.setTop (mkF m 26 #[.val (.int p0), .val (.long q1), .second, .val (.int p2), .val (.long q3), .second, .val (.int p4), .val (.int z1), .val (.long z2), .second, .unset, .unset, .unset, .unset, .unset, .unset, .unset] [(.int p2)])) (fun t k => XS.iloadN X0.here hx rfl (hb hby at_25) rfl  k) ?_
    refine own_by (V := s₁.setTop (mkF m 28 #[.val (.int p0), .val (.long q1), .second, .val (.int p2), .val (.long q3), .second, .val (.int p4), .val (.int z1), .val (.long z2), .second, .unset, .unset, .unset, .unset, .unset, .unset, .unset] [(.int (2147483647 : Int32)), (.int p2)])) (Jvm.Stand.ldcInt X0 hx hown (mvT hZ (hw _ (List.mem_of_getElem? (i := 0) rfl))) (g := (mkF m 26 #[.val (.int p0), .val (.long q1), .second, .val (.int p2), .val (.long q3), .second, .val (.int p4), .val (.int z1), .val (.long z2), .second, .unset, .unset, .unset, .unset, .unset, .unset, .unset] [(.int p2)])) rfl (hb hby at_26)) ?_
    refine own_by (V := s₁.setTop (mkF m 29 #[.val (.int p0), .val (.long q1), .second, .val (.int p2), .val (.long q3), .second, .val (.int p4), .val (.int z1), .val (.long z2), .second, .unset, .unset, .unset, .unset, .unset, .unset, .unset] [(.int (p2 &&& (2147483647 : Int32)))])) (fun t k => XS.iand X0.here hx rfl (hb hby at_28) rfl k) ?_
    exact J3 s₁ _ (p2 &&& (2147483647 : Int32)) (X0.more (by decide) (by decide)) e0 N0 (own_nn32 _)
  · refine own_by (V := s₁.setTop (mkF m 20 #[.val (.int p0), .val (.long q1), .second, .val (.int p2), .val (.long q3), .second, .val (.int p4), .val (.int z1), .val (.long z2), .second, .unset, .unset, .unset, .unset, .unset, .unset, .unset] [])) (fun t k => XS.ifNo X0.here hx rfl (hb hby at_17) rfl ((if0 _ _).trans (feq hb17_52).1) k) ?_
    refine own_by (V := s₁.setTop (mkF m 22 #[.val (.int p0), .val (.long q1), .second, .val (.int p2), .val (.long q3), .second, .val (.int p4), .val (.int z1), .val (.long z2), .second, .unset, .unset, .unset, .unset, .unset, .unset, .unset] [(.int z1)])) (fun t k => XS.iload X0.here hx rfl (hb hby at_20) rfl  k) ?_
    refine own_by (V := s₁.setTop (mkF m 29 #[.val (.int p0), .val (.long q1), .second, .val (.int p2), .val (.long q3), .second, .val (.int p4), .val (.int z1), .val (.long z2), .second, .unset, .unset, .unset, .unset, .unset, .unset, .unset] [(.int z1)])) (fun t k => XS.goto X0.here hx rfl (pc0 := 22) (pc' := 29) rfl (hb hby at_22) (by decide) (by decide) k) ?_
    exact J3 s₁ _ z1 (X0.more (by decide) (by decide)) e0 N0 hnn7
set_option maxRecDepth 65536 in
set_option maxHeartbeats 40000000 in
theorem own_comes {Post : Tables → Env → Array Value → State → Outcome → State → Prop} (hpost : ∀ tb e args s v u, (limb_1_1.after args s (.returned v) u = true ∧ limb_1_2.after args s (.returned v) u = true ∧ True) → FrameEnd s (.returned v) u (Jvm.fieldLocs frame_1_writes args s ++ Jvm.arrayLocs frame_1_arrays args s ++ Jvm.staticLocs frame_1_statics s) 16 128 → Post tb e args s (.returned v) u) :
    ArmFor flags0 classFile x code maxLocals ret World_1 tables_1 room_1 Calls_1 rest_1 Pre_1 Post := by
  intro l hfl _ _ p e ha hc hk s m args below hf hA hF happ hP
  obtain ⟨hcalls, hrest, hpre⟩ := hP
  obtain ⟨-, -, -, hnamed, -, -, -, hat⟩ := (Spec.applies_iff hf).mp happ
  obtain ⟨hg, hn⟩ := and_e (Cond.before_iff.mp (show (Jvm.Cond.and given_1 narrow_1).before args s = true from hpre))
  obtain ⟨hc0, hr0⟩ := and_e hg
  obtain ⟨hv0, hr1⟩ := and_e hr0
  obtain ⟨hv1, hr2⟩ := and_e hr1
  obtain ⟨hv2, hr3⟩ := and_e hr2
  obtain ⟨hv3, hr4⟩ := and_e hr3
  have hv4 := hr4
  obtain ⟨w0, w1, w2, w3, w4, rfl⟩ : ∃ w0 w1 w2 w3 w4 : Value, args = #[w0, w1, w2, w3, w4] := by
    have hs : args.size = 5 := by simpa [Cond.value, given_1] using hc0
    obtain ⟨L⟩ := args
    match L, hs with
    | [w0, w1, w2, w3, w4], _ => exact ⟨w0, w1, w2, w3, w4, rfl⟩
  have hw := fun d (hd : d ∈ tables_1) => atoms_spec (ws := Jvm.Cond.code x code maxLocals ret :: tables_1) hat d (List.mem_cons_of_mem _ hd)
  have hfit : Fit s := fun {y c} hc i hi => by
    obtain ⟨ha, rfl⟩ := Array.getElem?_eq_some_iff.mp hc
    have q := List.all_eq_true.mp ((Array.all_eq_true_iff_forall_mem.mp hF) _ (Array.getElem_mem ha)) i (List.mem_range.mpr hi)
    simpa [Array.getElem?_eq_getElem hi] using q
  obtain ⟨hsets, hown0⟩ := atoms_of _ (rest_1_c_eq ▸ (show rest_1_c.before _ s = true from hrest))
  obtain ⟨i0, ei0⟩ := is_v hv0
  obtain rfl : w0 = (.int i0) := Option.some.inj ei0
  obtain ⟨i1, ei1⟩ := isL_v hv1
  obtain rfl : w1 = (.long i1) := Option.some.inj ei1
  obtain ⟨i2, ei2⟩ := is_v hv2
  obtain rfl : w2 = (.int i2) := Option.some.inj ei2
  obtain ⟨i3, ei3⟩ := isL_v hv3
  obtain rfl : w3 = (.long i3) := Option.some.inj ei3
  obtain ⟨i4, ei4⟩ := is_v hv4
  obtain rfl : w4 = (.int i4) := Option.some.inj ei4
  obtain ⟨wc, evc⟩ := arr_v (Cond.before_iff.mp (hsets _ (List.mem_of_getElem? (i := 4) rfl)))
  have SC := Sta.start evc (Or.inr ⟨(hw _ (List.mem_of_getElem? (i := 27) rfl)), (hsets _ (List.mem_of_getElem? (i := 2) rfl))⟩)
  obtain ⟨clc, AC⟩ := Arr.start evc (Cond.before_iff.mp (hsets _ (List.mem_of_getElem? (i := 4) rfl)))
  have hsz : clc.slots.size = 256 := own_len256 evc AC (Cond.before_iff.mp (hsets _ (List.mem_of_getElem? (i := 6) rfl)))
  have hel : ∀ j, j < 256 → ∃ b, clc.slots[j]? = some (.ref b) ∧ Exa s s.heap b "java/lang/Integer" := own_cacheEl evc AC hsz (Cond.before_iff.mp (hsets _ (List.mem_of_getElem? (i := 7) rfl)))
  have SH := Sta.start (own_evI (Cond.before_iff.mp (hsets _ (List.mem_of_getElem? (i := 3) rfl)))) (Or.inl (hsets _ (List.mem_of_getElem? (i := 1) rfl)))
  obtain ⟨n, o, h1, h2, h3, _, L, rfl, ⟨rfl, N⟩, hq⟩ := own_rm0 l s _ hw tables_1 i0 i1 i2 i3 i4  s.heap s.heap.size (Nat.le_refl _) (Old.start s) wc clc SC AC hsz hel SH p e ha hc hk s m _ below hf ((Spec.applies_iff_loose hf).mp happ).1 ⟨rfl, State.Warmed39.refl s, rfl⟩ trivial
  refine ⟨n, _, h1, h2, h3, hpost _ _ _ _ _ _ ⟨Cond.after_iff.mpr rfl, Cond.after_iff.mpr (eq_i res_at (Term.int_eval (1)) rfl), trivial⟩ ⟨hq.1, hq.2.1, (hq.2.2.sift fun y hy => Or.inr (N y hy)).mono (by decide) (by decide)⟩⟩
theorem main_1_1 : Claimed_1_1 := own_comes fun _ _ _ _ _ _ h hF => ⟨h.1, hF⟩
theorem main_1_2 : Claimed_1_2 := own_comes fun _ _ _ _ _ _ h hF => ⟨h.2.1, hF⟩

end Jvm.Pilot.@@N@@
namespace Jvm.Pilot.@@N@@
open Jvm Jvm.ClassFile Sem Op Lib Jvm.Free Jvm.Stand Jvm.Pilot.@@N@@.Jvm.D
/-! MADE BY PROGRAM (witnessworld.py) out of the Statement's table words and the real class files: 16 classes; the members and pool entries that the words name. The judged class is class 1, her method 1. -/
namespace start1
open Jvm.ClassFile
def u (s : String) : CpInfo := .utf8 (stringToUtf16 s)
/-- a pool by its gaps: so many unusable entries, then the entry; so many at the end -/
def gap : Nat → List CpInfo → List CpInfo
  | 0, r => r
  | n + 1, r => .unusable :: gap n r
def poolList (es : List (Nat × CpInfo)) (last : Nat) : List CpInfo := es.foldr (fun e r => gap e.1 (e.2 :: r)) (gap last [])
def pool (es : List (Nat × CpInfo)) (last : Nat) : Array CpInfo := ⟨poolList es last⟩
def fileOf (pool : Array CpInfo) (this : Nat) (attrs : Array Attribute := #[]) (ms : Array MethodInfo := #[]) (fl : Nat := 33) (sup : Nat := 0) (ifs : Array Nat := #[]) (fds : Array FieldInfo := #[]) : ClassFile where
  minorVersion := 0
  majorVersion := 65
  constantPool := pool
  accessFlags := fl
  thisClass := this
  superClass := sup
  interfaces := ifs
  fields := fds
  methods := ms
  attributes := attrs
def plain (name : String) (sup : Option ClassId) : Class where
  name := name
  kind := .ordinary
  loader := none
  accessFlags := 33
  super := sup
  interfaces := #[]
  cf := none
  fields := #[]
  methods := #[]
  instanceTypes := #[]
  staticTypes := #[]
  resolved := #[]
  callSites := []
  init := .initialized
  statics := none
  mirror := none

def pool0 : Array CpInfo := pool [(5, u "<init>"), (0, u "()V"), (1, .class_ 10), (1, u "java/lang/Object")] 113

def k0c0 : Code := { maxStack := 0, maxLocals := 1, code := object_method_1_code, exceptionTable := #[], attributes := #[] }
def k0m0 : Method := { name := "<init>", desc := "()V", sig := { parameters := [], returnType := none }, accessFlags := 1, code := some k0c0 }
/-- java/lang/Object -/
def k0 : Class := { plain "java/lang/Object" none with
  accessFlags := 33
  interfaces := #[]
  cf := some (fileOf pool0 8 #[] #[{ accessFlags := 1, nameIndex := 5, descriptorIndex := 6, attributes := #[] }] 33 0 #[] #[])
  fields := #[]
  methods := #[k0m0]
  instanceTypes := #[]
  staticTypes := #[]
  resolved := Array.replicate 124 none
  statics := none }

def pool1 : Array CpInfo := pool [(2, .class_ 4), (1, u "java/lang/Object"), (0, u "<init>"), (0, u "()V"), (0, .integer 2147483647), (0, .long 9223372036854775807), (1, .class_ 11), (0, u "com/example/balcon/balcon/model/Position"), (0, .methodref 10 13), (0, .nameAndType 5 14), (0, u "(IJ)V"), (0, .methodref 10 16), (0, .nameAndType 17 18), (0, u "equals"), (0, u "(Ljava/lang/Object;)Z"), (0, .methodref 20 21), (0, .class_ 22), (0, .nameAndType 23 24), (0, u "java/lang/Integer"), (0, u "valueOf"), (0, u "(I)Ljava/lang/Integer;"), (0, .class_ 26), (0, u "com/example/balcon/balcon/model/PositionEqualsPinLaw"), (2, u "law"), (0, u "(IJIJI)Z")] 3

def k1m0 : Method := { name := "<init>", desc := "()V", sig := { parameters := [], returnType := none }, accessFlags := 1, code := none }
def k1c1 : Code := { maxStack := 5, maxLocals := 17, code := code, exceptionTable := #[], attributes := #[] }
def k1m1 : Method := { name := "law", desc := "(IJIJI)Z", sig := { parameters := [.int, .long, .int, .long, .int], returnType := some .boolean }, accessFlags := 9, code := some k1c1 }
/-- com/example/balcon/balcon/model/PositionEqualsPinLaw -/
def k1 : Class := { plain "com/example/balcon/balcon/model/PositionEqualsPinLaw" (some 0) with
  accessFlags := 49
  interfaces := #[]
  cf := some (fileOf pool1 25 #[] #[{ accessFlags := 1, nameIndex := 5, descriptorIndex := 6, attributes := #[] }, { accessFlags := 9, nameIndex := 29, descriptorIndex := 30, attributes := #[] }] 49 2 #[] #[])
  fields := #[]
  methods := #[k1m0, k1m1]
  instanceTypes := #[]
  staticTypes := #[]
  resolved := Array.replicate 34 none
  statics := none }

def pool2 : Array CpInfo := pool [(1, .methodref 2 3), (0, .class_ 4), (0, .nameAndType 5 6), (0, u "java/lang/Object"), (0, u "<init>"), (0, u "()V"), (9, .fieldref 17 18), (0, .class_ 19), (0, .nameAndType 20 21), (0, u "com/example/balcon/balcon/model/Position"), (0, u "partition"), (0, u "I"), (0, .fieldref 17 23), (0, .nameAndType 24 25), (0, u "offset"), (0, u "J"), (7, u "(IJ)V"), (5, u "equals"), (0, u "(Ljava/lang/Object;)Z")] 21

def k2c0 : Code := { maxStack := 5, maxLocals := 4, code := prog_17_method_1_code, exceptionTable := #[], attributes := #[] }
def k2m0 : Method := { name := "<init>", desc := "(IJ)V", sig := { parameters := [.int, .long], returnType := none }, accessFlags := 1, code := some k2c0 }
def k2c1 : Code := { maxStack := 4, maxLocals := 3, code := prog_17_method_4_code, exceptionTable := #[], attributes := #[] }
def k2m1 : Method := { name := "equals", desc := "(Ljava/lang/Object;)Z", sig := { parameters := [(.object "java/lang/Object")], returnType := some .boolean }, accessFlags := 1, code := some k2c1 }
/-- com/example/balcon/balcon/model/Position -/
def k2 : Class := { plain "com/example/balcon/balcon/model/Position" (some 0) with
  accessFlags := 49
  interfaces := #[]
  cf := some (fileOf pool2 17 #[] #[{ accessFlags := 1, nameIndex := 5, descriptorIndex := 33, attributes := #[] }, { accessFlags := 1, nameIndex := 39, descriptorIndex := 40, attributes := #[] }] 49 2 #[] #[{ accessFlags := 18, nameIndex := 20, descriptorIndex := 21, attributes := #[] }, { accessFlags := 18, nameIndex := 24, descriptorIndex := 25, attributes := #[] }])
  fields := #[{ name := "partition", type := .int, accessFlags := 18, slot := 0, constantValue := 0 }, { name := "offset", type := .long, accessFlags := 18, slot := 1, constantValue := 0 }]
  methods := #[k2m0, k2m1]
  instanceTypes := #[.int, .long]
  staticTypes := #[]
  resolved := Array.replicate 62 none
  statics := none }

def pool3 : Array CpInfo := pool [(1, .class_ 2), (0, u "java/io/Serializable"), (0, .class_ 4), (0, u "java/lang/Object")] 2

/-- java/io/Serializable -/
def k3 : Class := { plain "java/io/Serializable" (some 0) with
  accessFlags := 1537
  interfaces := #[]
  cf := some (fileOf pool3 1 #[] #[] 1537 3 #[] #[])
  fields := #[]
  methods := #[]
  instanceTypes := #[]
  staticTypes := #[]
  resolved := Array.replicate 7 none
  statics := none }

def pool4 : Array CpInfo := pool [(1, .methodref 2 3), (0, .class_ 4), (0, .nameAndType 5 6), (0, u "java/lang/Object"), (0, u "<init>"), (0, u "()V"), (1, .class_ 10), (1, u "java/lang/Number"), (2, .class_ 14), (0, u "java/io/Serializable"), (0, u "serialVersionUID"), (0, u "J")] 20

def k4c0 : Code := { maxStack := 1, maxLocals := 1, code := jdk_18_method_1_code, exceptionTable := #[], attributes := #[] }
def k4m0 : Method := { name := "<init>", desc := "()V", sig := { parameters := [], returnType := none }, accessFlags := 1, code := some k4c0 }
/-- java/lang/Number -/
def k4 : Class := { plain "java/lang/Number" (some 0) with
  accessFlags := 1057
  interfaces := #[3]
  cf := some (fileOf pool4 8 #[] #[{ accessFlags := 1, nameIndex := 5, descriptorIndex := 6, attributes := #[] }] 1057 2 #[13] #[{ accessFlags := 26, nameIndex := 15, descriptorIndex := 16, attributes := #[] }])
  fields := #[{ name := "serialVersionUID", type := .long, accessFlags := 26, slot := 0, constantValue := 0 }]
  methods := #[k4m0]
  instanceTypes := #[]
  staticTypes := #[.long]
  resolved := Array.replicate 37 none
  statics := none }

def pool5 : Array CpInfo := pool [(1, .class_ 2), (0, u "java/lang/Comparable"), (0, .class_ 4), (0, u "java/lang/Object")] 7

/-- java/lang/Comparable -/
def k5 : Class := { plain "java/lang/Comparable" (some 0) with
  accessFlags := 1537
  interfaces := #[]
  cf := some (fileOf pool5 1 #[] #[] 1537 3 #[] #[])
  fields := #[]
  methods := #[]
  instanceTypes := #[]
  staticTypes := #[]
  resolved := Array.replicate 12 none
  statics := none }

def pool6 : Array CpInfo := pool [(1, .class_ 2), (0, u "java/lang/constant/Constable"), (0, .class_ 4), (0, u "java/lang/Object")] 6

/-- java/lang/constant/Constable -/
def k6 : Class := { plain "java/lang/constant/Constable" (some 0) with
  accessFlags := 1537
  interfaces := #[]
  cf := some (fileOf pool6 1 #[] #[] 1537 3 #[] #[])
  fields := #[]
  methods := #[]
  instanceTypes := #[]
  staticTypes := #[]
  resolved := Array.replicate 11 none
  statics := none }

def pool7 : Array CpInfo := pool [(1, .class_ 2), (0, u "java/lang/constant/ConstantDesc"), (0, .class_ 4), (0, u "java/lang/Object")] 32

/-- java/lang/constant/ConstantDesc -/
def k7 : Class := { plain "java/lang/constant/ConstantDesc" (some 0) with
  accessFlags := 1537
  interfaces := #[]
  cf := some (fileOf pool7 1 #[] #[] 1537 3 #[] #[])
  fields := #[]
  methods := #[]
  instanceTypes := #[]
  staticTypes := #[]
  resolved := Array.replicate 37 none
  statics := none }

def pool8 : Array CpInfo := pool [(1, .class_ 2), (0, u "java/lang/Integer"), (16, u "digits"), (0, u "[C"), (46, u "<init>"), (17, u "DigitOnes"), (0, u "[B"), (2, u "DigitTens"), (10, .nameAndType 67 101), (0, u "()V"), (85, u "valueOf"), (0, u "(I)Ljava/lang/Integer;"), (0, .class_ 190), (0, u "java/lang/Integer$IntegerCache"), (0, .fieldref 189 192), (0, .nameAndType 193 194), (0, u "high"), (0, u "I"), (0, .fieldref 189 196), (0, .nameAndType 197 198), (0, u "cache"), (0, u "[Ljava/lang/Integer;"), (0, .methodref 1 200), (0, .nameAndType 67 201), (0, u "(I)V"), (0, .methodref 203 100), (0, .class_ 204), (0, u "java/lang/Number"), (0, .fieldref 1 206), (0, .nameAndType 207 194), (0, u "value"), (94, u "TYPE"), (0, u "Ljava/lang/Class;"), (0, .class_ 305), (0, u "java/lang/Comparable"), (0, .class_ 307), (0, u "java/lang/constant/Constable"), (0, .class_ 309), (0, u "java/lang/constant/ConstantDesc"), (0, u "MIN_VALUE"), (1, u "MAX_VALUE"), (3, u "SIZE"), (1, u "BYTES"), (1, u "serialVersionUID"), (0, u "J")] 131

def k8c0 : Code := { maxStack := 3, maxLocals := 1, code := jdk_33_method_22_code, exceptionTable := #[], attributes := #[] }
def k8m0 : Method := { name := "valueOf", desc := "(I)Ljava/lang/Integer;", sig := { parameters := [.int], returnType := some (.object "java/lang/Integer") }, accessFlags := 9, code := some k8c0 }
def k8c1 : Code := { maxStack := 2, maxLocals := 2, code := jdk_33_method_23_code, exceptionTable := #[], attributes := #[] }
def k8m1 : Method := { name := "<init>", desc := "(I)V", sig := { parameters := [.int], returnType := none }, accessFlags := 1, code := some k8c1 }
/-- java/lang/Integer -/
def k8 : Class := { plain "java/lang/Integer" (some 4) with
  accessFlags := 49
  interfaces := #[5, 6, 7]
  cf := some (fileOf pool8 1 #[.nestMembers #[189]] #[{ accessFlags := 9, nameIndex := 187, descriptorIndex := 188, attributes := #[] }, { accessFlags := 1, nameIndex := 67, descriptorIndex := 201, attributes := #[] }] 49 203 #[304, 306, 308] #[{ accessFlags := 25, nameIndex := 310, descriptorIndex := 194, attributes := #[] }, { accessFlags := 25, nameIndex := 312, descriptorIndex := 194, attributes := #[] }, { accessFlags := 25, nameIndex := 302, descriptorIndex := 303, attributes := #[] }, { accessFlags := 24, nameIndex := 19, descriptorIndex := 20, attributes := #[] }, { accessFlags := 24, nameIndex := 89, descriptorIndex := 86, attributes := #[] }, { accessFlags := 24, nameIndex := 85, descriptorIndex := 86, attributes := #[] }, { accessFlags := 18, nameIndex := 207, descriptorIndex := 194, attributes := #[] }, { accessFlags := 25, nameIndex := 316, descriptorIndex := 194, attributes := #[] }, { accessFlags := 25, nameIndex := 318, descriptorIndex := 194, attributes := #[] }, { accessFlags := 26, nameIndex := 320, descriptorIndex := 321, attributes := #[] }])
  fields := #[{ name := "MIN_VALUE", type := .int, accessFlags := 25, slot := 0, constantValue := 0 }, { name := "MAX_VALUE", type := .int, accessFlags := 25, slot := 1, constantValue := 0 }, { name := "TYPE", type := (.object "java/lang/Class"), accessFlags := 25, slot := 2, constantValue := 0 }, { name := "digits", type := (.array .char), accessFlags := 24, slot := 3, constantValue := 0 }, { name := "DigitTens", type := (.array .byte), accessFlags := 24, slot := 4, constantValue := 0 }, { name := "DigitOnes", type := (.array .byte), accessFlags := 24, slot := 5, constantValue := 0 }, { name := "value", type := .int, accessFlags := 18, slot := 0, constantValue := 0 }, { name := "SIZE", type := .int, accessFlags := 25, slot := 6, constantValue := 0 }, { name := "BYTES", type := .int, accessFlags := 25, slot := 7, constantValue := 0 }, { name := "serialVersionUID", type := .long, accessFlags := 26, slot := 8, constantValue := 0 }]
  methods := #[k8m0, k8m1]
  instanceTypes := #[.int]
  staticTypes := #[.int, .int, (.object "java/lang/Class"), (.array .char), (.array .byte), (.array .byte), .int, .int, .long]
  resolved := Array.replicate 453 none
  statics := none }

def pool9 : Array CpInfo := pool [(2, .class_ 4), (1, u "java/lang/Object"), (0, u "<init>"), (0, u "()V"), (0, .class_ 8), (0, u "java/lang/Integer"), (7, .class_ 18), (1, u "java/lang/Integer$IntegerCache"), (0, u "$assertionsDisabled"), (0, u "Z"), (26, u "high"), (0, u "I"), (8, u "archivedCache"), (0, u "[Ljava/lang/Integer;"), (12, u "cache"), (0, u "low")] 27

def k9m0 : Method := { name := "<init>", desc := "()V", sig := { parameters := [], returnType := none }, accessFlags := 2, code := none }
/-- java/lang/Integer$IntegerCache -/
def k9 : Class := { plain "java/lang/Integer$IntegerCache" (some 0) with
  accessFlags := 48
  interfaces := #[]
  cf := some (fileOf pool9 16 #[.nestHost 7] #[{ accessFlags := 2, nameIndex := 5, descriptorIndex := 6, attributes := #[] }] 48 2 #[] #[{ accessFlags := 24, nameIndex := 72, descriptorIndex := 48, attributes := #[] }, { accessFlags := 24, nameIndex := 47, descriptorIndex := 48, attributes := #[] }, { accessFlags := 24, nameIndex := 71, descriptorIndex := 58, attributes := #[] }, { accessFlags := 8, nameIndex := 57, descriptorIndex := 58, attributes := #[] }, { accessFlags := 4120, nameIndex := 19, descriptorIndex := 20, attributes := #[] }])
  fields := #[{ name := "low", type := .int, accessFlags := 24, slot := 0, constantValue := 0 }, { name := "high", type := .int, accessFlags := 24, slot := 1, constantValue := 0 }, { name := "cache", type := (.array (.object "java/lang/Integer")), accessFlags := 24, slot := 2, constantValue := 0 }, { name := "archivedCache", type := (.array (.object "java/lang/Integer")), accessFlags := 8, slot := 3, constantValue := 0 }, { name := "$assertionsDisabled", type := .boolean, accessFlags := 4120, slot := 4, constantValue := 0 }]
  methods := #[k9m0]
  instanceTypes := #[]
  staticTypes := #[.int, .int, (.array (.object "java/lang/Integer")), (.array (.object "java/lang/Integer")), .boolean]
  resolved := Array.replicate 100 none
  statics := some 0 }

def pool10 : Array CpInfo := pool [(1, u "java/lang/Cloneable"), (0, .class_ 1), (0, u "java/lang/Object"), (0, .class_ 3)] 3

/-- java/lang/Cloneable -/
def k10 : Class := { plain "java/lang/Cloneable" (some 0) with
  accessFlags := 1537
  interfaces := #[]
  cf := some (fileOf pool10 2 #[] #[] 1537 4 #[] #[])
  fields := #[]
  methods := #[]
  instanceTypes := #[]
  staticTypes := #[]
  resolved := Array.replicate 8 none
  statics := none }

/-- the primitive byte -/
def k11 : Class := { plain "byte" none with kind := .primitive 'B', accessFlags := 0x411 }
/-- [B -/
def k12 : Class := { plain "[B" (some 0) with kind := .array 11 .byte, interfaces := #[10, 3], accessFlags := 1041 }

/-- the primitive int -/
def k13 : Class := { plain "int" none with kind := .primitive 'I', accessFlags := 0x411 }
/-- [I -/
def k14 : Class := { plain "[I" (some 0) with kind := .array 13 .int, interfaces := #[10, 3], accessFlags := 1041 }

/-- [Ljava/lang/Integer; -/
def k15 : Class := { plain "[Ljava/lang/Integer;" (some 0) with kind := .array 8 (.object "java/lang/Integer"), interfaces := #[10, 3], accessFlags := 1041 }

def heap : Heap := #[{ cls := 9, slots := #[.int 0, .int 127, .ref 1, .null, .int 0], vm := .statics 9 },
  { cls := 15, slots := #[.ref 2, .ref 3, .ref 4, .ref 5, .ref 6, .ref 7, .ref 8, .ref 9, .ref 10, .ref 11, .ref 12, .ref 13, .ref 14, .ref 15, .ref 16, .ref 17, .ref 18, .ref 19, .ref 20, .ref 21, .ref 22, .ref 23, .ref 24, .ref 25, .ref 26, .ref 27, .ref 28, .ref 29, .ref 30, .ref 31, .ref 32, .ref 33, .ref 34, .ref 35, .ref 36, .ref 37, .ref 38, .ref 39, .ref 40, .ref 41, .ref 42, .ref 43, .ref 44, .ref 45, .ref 46, .ref 47, .ref 48, .ref 49, .ref 50, .ref 51, .ref 52, .ref 53, .ref 54, .ref 55, .ref 56, .ref 57, .ref 58, .ref 59, .ref 60, .ref 61, .ref 62, .ref 63, .ref 64, .ref 65, .ref 66, .ref 67, .ref 68, .ref 69, .ref 70, .ref 71, .ref 72, .ref 73, .ref 74, .ref 75, .ref 76, .ref 77, .ref 78, .ref 79, .ref 80, .ref 81, .ref 82, .ref 83, .ref 84, .ref 85, .ref 86, .ref 87, .ref 88, .ref 89, .ref 90, .ref 91, .ref 92, .ref 93, .ref 94, .ref 95, .ref 96, .ref 97, .ref 98, .ref 99, .ref 100, .ref 101, .ref 102, .ref 103, .ref 104, .ref 105, .ref 106, .ref 107, .ref 108, .ref 109, .ref 110, .ref 111, .ref 112, .ref 113, .ref 114, .ref 115, .ref 116, .ref 117, .ref 118, .ref 119, .ref 120, .ref 121, .ref 122, .ref 123, .ref 124, .ref 125, .ref 126, .ref 127, .ref 128, .ref 129, .ref 130, .ref 131, .ref 132, .ref 133, .ref 134, .ref 135, .ref 136, .ref 137, .ref 138, .ref 139, .ref 140, .ref 141, .ref 142, .ref 143, .ref 144, .ref 145, .ref 146, .ref 147, .ref 148, .ref 149, .ref 150, .ref 151, .ref 152, .ref 153, .ref 154, .ref 155, .ref 156, .ref 157, .ref 158, .ref 159, .ref 160, .ref 161, .ref 162, .ref 163, .ref 164, .ref 165, .ref 166, .ref 167, .ref 168, .ref 169, .ref 170, .ref 171, .ref 172, .ref 173, .ref 174, .ref 175, .ref 176, .ref 177, .ref 178, .ref 179, .ref 180, .ref 181, .ref 182, .ref 183, .ref 184, .ref 185, .ref 186, .ref 187, .ref 188, .ref 189, .ref 190, .ref 191, .ref 192, .ref 193, .ref 194, .ref 195, .ref 196, .ref 197, .ref 198, .ref 199, .ref 200, .ref 201, .ref 202, .ref 203, .ref 204, .ref 205, .ref 206, .ref 207, .ref 208, .ref 209, .ref 210, .ref 211, .ref 212, .ref 213, .ref 214, .ref 215, .ref 216, .ref 217, .ref 218, .ref 219, .ref 220, .ref 221, .ref 222, .ref 223, .ref 224, .ref 225, .ref 226, .ref 227, .ref 228, .ref 229, .ref 230, .ref 231, .ref 232, .ref 233, .ref 234, .ref 235, .ref 236, .ref 237, .ref 238, .ref 239, .ref 240, .ref 241, .ref 242, .ref 243, .ref 244, .ref 245, .ref 246, .ref 247, .ref 248, .ref 249, .ref 250, .ref 251, .ref 252, .ref 253, .ref 254, .ref 255, .ref 256, .ref 257], vm := .none },
  { cls := 8, slots := #[.int (-128)], vm := .none },
  { cls := 8, slots := #[.int (-127)], vm := .none },
  { cls := 8, slots := #[.int (-126)], vm := .none },
  { cls := 8, slots := #[.int (-125)], vm := .none },
  { cls := 8, slots := #[.int (-124)], vm := .none },
  { cls := 8, slots := #[.int (-123)], vm := .none },
  { cls := 8, slots := #[.int (-122)], vm := .none },
  { cls := 8, slots := #[.int (-121)], vm := .none },
  { cls := 8, slots := #[.int (-120)], vm := .none },
  { cls := 8, slots := #[.int (-119)], vm := .none },
  { cls := 8, slots := #[.int (-118)], vm := .none },
  { cls := 8, slots := #[.int (-117)], vm := .none },
  { cls := 8, slots := #[.int (-116)], vm := .none },
  { cls := 8, slots := #[.int (-115)], vm := .none },
  { cls := 8, slots := #[.int (-114)], vm := .none },
  { cls := 8, slots := #[.int (-113)], vm := .none },
  { cls := 8, slots := #[.int (-112)], vm := .none },
  { cls := 8, slots := #[.int (-111)], vm := .none },
  { cls := 8, slots := #[.int (-110)], vm := .none },
  { cls := 8, slots := #[.int (-109)], vm := .none },
  { cls := 8, slots := #[.int (-108)], vm := .none },
  { cls := 8, slots := #[.int (-107)], vm := .none },
  { cls := 8, slots := #[.int (-106)], vm := .none },
  { cls := 8, slots := #[.int (-105)], vm := .none },
  { cls := 8, slots := #[.int (-104)], vm := .none },
  { cls := 8, slots := #[.int (-103)], vm := .none },
  { cls := 8, slots := #[.int (-102)], vm := .none },
  { cls := 8, slots := #[.int (-101)], vm := .none },
  { cls := 8, slots := #[.int (-100)], vm := .none },
  { cls := 8, slots := #[.int (-99)], vm := .none },
  { cls := 8, slots := #[.int (-98)], vm := .none },
  { cls := 8, slots := #[.int (-97)], vm := .none },
  { cls := 8, slots := #[.int (-96)], vm := .none },
  { cls := 8, slots := #[.int (-95)], vm := .none },
  { cls := 8, slots := #[.int (-94)], vm := .none },
  { cls := 8, slots := #[.int (-93)], vm := .none },
  { cls := 8, slots := #[.int (-92)], vm := .none },
  { cls := 8, slots := #[.int (-91)], vm := .none },
  { cls := 8, slots := #[.int (-90)], vm := .none },
  { cls := 8, slots := #[.int (-89)], vm := .none },
  { cls := 8, slots := #[.int (-88)], vm := .none },
  { cls := 8, slots := #[.int (-87)], vm := .none },
  { cls := 8, slots := #[.int (-86)], vm := .none },
  { cls := 8, slots := #[.int (-85)], vm := .none },
  { cls := 8, slots := #[.int (-84)], vm := .none },
  { cls := 8, slots := #[.int (-83)], vm := .none },
  { cls := 8, slots := #[.int (-82)], vm := .none },
  { cls := 8, slots := #[.int (-81)], vm := .none },
  { cls := 8, slots := #[.int (-80)], vm := .none },
  { cls := 8, slots := #[.int (-79)], vm := .none },
  { cls := 8, slots := #[.int (-78)], vm := .none },
  { cls := 8, slots := #[.int (-77)], vm := .none },
  { cls := 8, slots := #[.int (-76)], vm := .none },
  { cls := 8, slots := #[.int (-75)], vm := .none },
  { cls := 8, slots := #[.int (-74)], vm := .none },
  { cls := 8, slots := #[.int (-73)], vm := .none },
  { cls := 8, slots := #[.int (-72)], vm := .none },
  { cls := 8, slots := #[.int (-71)], vm := .none },
  { cls := 8, slots := #[.int (-70)], vm := .none },
  { cls := 8, slots := #[.int (-69)], vm := .none },
  { cls := 8, slots := #[.int (-68)], vm := .none },
  { cls := 8, slots := #[.int (-67)], vm := .none },
  { cls := 8, slots := #[.int (-66)], vm := .none },
  { cls := 8, slots := #[.int (-65)], vm := .none },
  { cls := 8, slots := #[.int (-64)], vm := .none },
  { cls := 8, slots := #[.int (-63)], vm := .none },
  { cls := 8, slots := #[.int (-62)], vm := .none },
  { cls := 8, slots := #[.int (-61)], vm := .none },
  { cls := 8, slots := #[.int (-60)], vm := .none },
  { cls := 8, slots := #[.int (-59)], vm := .none },
  { cls := 8, slots := #[.int (-58)], vm := .none },
  { cls := 8, slots := #[.int (-57)], vm := .none },
  { cls := 8, slots := #[.int (-56)], vm := .none },
  { cls := 8, slots := #[.int (-55)], vm := .none },
  { cls := 8, slots := #[.int (-54)], vm := .none },
  { cls := 8, slots := #[.int (-53)], vm := .none },
  { cls := 8, slots := #[.int (-52)], vm := .none },
  { cls := 8, slots := #[.int (-51)], vm := .none },
  { cls := 8, slots := #[.int (-50)], vm := .none },
  { cls := 8, slots := #[.int (-49)], vm := .none },
  { cls := 8, slots := #[.int (-48)], vm := .none },
  { cls := 8, slots := #[.int (-47)], vm := .none },
  { cls := 8, slots := #[.int (-46)], vm := .none },
  { cls := 8, slots := #[.int (-45)], vm := .none },
  { cls := 8, slots := #[.int (-44)], vm := .none },
  { cls := 8, slots := #[.int (-43)], vm := .none },
  { cls := 8, slots := #[.int (-42)], vm := .none },
  { cls := 8, slots := #[.int (-41)], vm := .none },
  { cls := 8, slots := #[.int (-40)], vm := .none },
  { cls := 8, slots := #[.int (-39)], vm := .none },
  { cls := 8, slots := #[.int (-38)], vm := .none },
  { cls := 8, slots := #[.int (-37)], vm := .none },
  { cls := 8, slots := #[.int (-36)], vm := .none },
  { cls := 8, slots := #[.int (-35)], vm := .none },
  { cls := 8, slots := #[.int (-34)], vm := .none },
  { cls := 8, slots := #[.int (-33)], vm := .none },
  { cls := 8, slots := #[.int (-32)], vm := .none },
  { cls := 8, slots := #[.int (-31)], vm := .none },
  { cls := 8, slots := #[.int (-30)], vm := .none },
  { cls := 8, slots := #[.int (-29)], vm := .none },
  { cls := 8, slots := #[.int (-28)], vm := .none },
  { cls := 8, slots := #[.int (-27)], vm := .none },
  { cls := 8, slots := #[.int (-26)], vm := .none },
  { cls := 8, slots := #[.int (-25)], vm := .none },
  { cls := 8, slots := #[.int (-24)], vm := .none },
  { cls := 8, slots := #[.int (-23)], vm := .none },
  { cls := 8, slots := #[.int (-22)], vm := .none },
  { cls := 8, slots := #[.int (-21)], vm := .none },
  { cls := 8, slots := #[.int (-20)], vm := .none },
  { cls := 8, slots := #[.int (-19)], vm := .none },
  { cls := 8, slots := #[.int (-18)], vm := .none },
  { cls := 8, slots := #[.int (-17)], vm := .none },
  { cls := 8, slots := #[.int (-16)], vm := .none },
  { cls := 8, slots := #[.int (-15)], vm := .none },
  { cls := 8, slots := #[.int (-14)], vm := .none },
  { cls := 8, slots := #[.int (-13)], vm := .none },
  { cls := 8, slots := #[.int (-12)], vm := .none },
  { cls := 8, slots := #[.int (-11)], vm := .none },
  { cls := 8, slots := #[.int (-10)], vm := .none },
  { cls := 8, slots := #[.int (-9)], vm := .none },
  { cls := 8, slots := #[.int (-8)], vm := .none },
  { cls := 8, slots := #[.int (-7)], vm := .none },
  { cls := 8, slots := #[.int (-6)], vm := .none },
  { cls := 8, slots := #[.int (-5)], vm := .none },
  { cls := 8, slots := #[.int (-4)], vm := .none },
  { cls := 8, slots := #[.int (-3)], vm := .none },
  { cls := 8, slots := #[.int (-2)], vm := .none },
  { cls := 8, slots := #[.int (-1)], vm := .none },
  { cls := 8, slots := #[.int 0], vm := .none },
  { cls := 8, slots := #[.int 1], vm := .none },
  { cls := 8, slots := #[.int 2], vm := .none },
  { cls := 8, slots := #[.int 3], vm := .none },
  { cls := 8, slots := #[.int 4], vm := .none },
  { cls := 8, slots := #[.int 5], vm := .none },
  { cls := 8, slots := #[.int 6], vm := .none },
  { cls := 8, slots := #[.int 7], vm := .none },
  { cls := 8, slots := #[.int 8], vm := .none },
  { cls := 8, slots := #[.int 9], vm := .none },
  { cls := 8, slots := #[.int 10], vm := .none },
  { cls := 8, slots := #[.int 11], vm := .none },
  { cls := 8, slots := #[.int 12], vm := .none },
  { cls := 8, slots := #[.int 13], vm := .none },
  { cls := 8, slots := #[.int 14], vm := .none },
  { cls := 8, slots := #[.int 15], vm := .none },
  { cls := 8, slots := #[.int 16], vm := .none },
  { cls := 8, slots := #[.int 17], vm := .none },
  { cls := 8, slots := #[.int 18], vm := .none },
  { cls := 8, slots := #[.int 19], vm := .none },
  { cls := 8, slots := #[.int 20], vm := .none },
  { cls := 8, slots := #[.int 21], vm := .none },
  { cls := 8, slots := #[.int 22], vm := .none },
  { cls := 8, slots := #[.int 23], vm := .none },
  { cls := 8, slots := #[.int 24], vm := .none },
  { cls := 8, slots := #[.int 25], vm := .none },
  { cls := 8, slots := #[.int 26], vm := .none },
  { cls := 8, slots := #[.int 27], vm := .none },
  { cls := 8, slots := #[.int 28], vm := .none },
  { cls := 8, slots := #[.int 29], vm := .none },
  { cls := 8, slots := #[.int 30], vm := .none },
  { cls := 8, slots := #[.int 31], vm := .none },
  { cls := 8, slots := #[.int 32], vm := .none },
  { cls := 8, slots := #[.int 33], vm := .none },
  { cls := 8, slots := #[.int 34], vm := .none },
  { cls := 8, slots := #[.int 35], vm := .none },
  { cls := 8, slots := #[.int 36], vm := .none },
  { cls := 8, slots := #[.int 37], vm := .none },
  { cls := 8, slots := #[.int 38], vm := .none },
  { cls := 8, slots := #[.int 39], vm := .none },
  { cls := 8, slots := #[.int 40], vm := .none },
  { cls := 8, slots := #[.int 41], vm := .none },
  { cls := 8, slots := #[.int 42], vm := .none },
  { cls := 8, slots := #[.int 43], vm := .none },
  { cls := 8, slots := #[.int 44], vm := .none },
  { cls := 8, slots := #[.int 45], vm := .none },
  { cls := 8, slots := #[.int 46], vm := .none },
  { cls := 8, slots := #[.int 47], vm := .none },
  { cls := 8, slots := #[.int 48], vm := .none },
  { cls := 8, slots := #[.int 49], vm := .none },
  { cls := 8, slots := #[.int 50], vm := .none },
  { cls := 8, slots := #[.int 51], vm := .none },
  { cls := 8, slots := #[.int 52], vm := .none },
  { cls := 8, slots := #[.int 53], vm := .none },
  { cls := 8, slots := #[.int 54], vm := .none },
  { cls := 8, slots := #[.int 55], vm := .none },
  { cls := 8, slots := #[.int 56], vm := .none },
  { cls := 8, slots := #[.int 57], vm := .none },
  { cls := 8, slots := #[.int 58], vm := .none },
  { cls := 8, slots := #[.int 59], vm := .none },
  { cls := 8, slots := #[.int 60], vm := .none },
  { cls := 8, slots := #[.int 61], vm := .none },
  { cls := 8, slots := #[.int 62], vm := .none },
  { cls := 8, slots := #[.int 63], vm := .none },
  { cls := 8, slots := #[.int 64], vm := .none },
  { cls := 8, slots := #[.int 65], vm := .none },
  { cls := 8, slots := #[.int 66], vm := .none },
  { cls := 8, slots := #[.int 67], vm := .none },
  { cls := 8, slots := #[.int 68], vm := .none },
  { cls := 8, slots := #[.int 69], vm := .none },
  { cls := 8, slots := #[.int 70], vm := .none },
  { cls := 8, slots := #[.int 71], vm := .none },
  { cls := 8, slots := #[.int 72], vm := .none },
  { cls := 8, slots := #[.int 73], vm := .none },
  { cls := 8, slots := #[.int 74], vm := .none },
  { cls := 8, slots := #[.int 75], vm := .none },
  { cls := 8, slots := #[.int 76], vm := .none },
  { cls := 8, slots := #[.int 77], vm := .none },
  { cls := 8, slots := #[.int 78], vm := .none },
  { cls := 8, slots := #[.int 79], vm := .none },
  { cls := 8, slots := #[.int 80], vm := .none },
  { cls := 8, slots := #[.int 81], vm := .none },
  { cls := 8, slots := #[.int 82], vm := .none },
  { cls := 8, slots := #[.int 83], vm := .none },
  { cls := 8, slots := #[.int 84], vm := .none },
  { cls := 8, slots := #[.int 85], vm := .none },
  { cls := 8, slots := #[.int 86], vm := .none },
  { cls := 8, slots := #[.int 87], vm := .none },
  { cls := 8, slots := #[.int 88], vm := .none },
  { cls := 8, slots := #[.int 89], vm := .none },
  { cls := 8, slots := #[.int 90], vm := .none },
  { cls := 8, slots := #[.int 91], vm := .none },
  { cls := 8, slots := #[.int 92], vm := .none },
  { cls := 8, slots := #[.int 93], vm := .none },
  { cls := 8, slots := #[.int 94], vm := .none },
  { cls := 8, slots := #[.int 95], vm := .none },
  { cls := 8, slots := #[.int 96], vm := .none },
  { cls := 8, slots := #[.int 97], vm := .none },
  { cls := 8, slots := #[.int 98], vm := .none },
  { cls := 8, slots := #[.int 99], vm := .none },
  { cls := 8, slots := #[.int 100], vm := .none },
  { cls := 8, slots := #[.int 101], vm := .none },
  { cls := 8, slots := #[.int 102], vm := .none },
  { cls := 8, slots := #[.int 103], vm := .none },
  { cls := 8, slots := #[.int 104], vm := .none },
  { cls := 8, slots := #[.int 105], vm := .none },
  { cls := 8, slots := #[.int 106], vm := .none },
  { cls := 8, slots := #[.int 107], vm := .none },
  { cls := 8, slots := #[.int 108], vm := .none },
  { cls := 8, slots := #[.int 109], vm := .none },
  { cls := 8, slots := #[.int 110], vm := .none },
  { cls := 8, slots := #[.int 111], vm := .none },
  { cls := 8, slots := #[.int 112], vm := .none },
  { cls := 8, slots := #[.int 113], vm := .none },
  { cls := 8, slots := #[.int 114], vm := .none },
  { cls := 8, slots := #[.int 115], vm := .none },
  { cls := 8, slots := #[.int 116], vm := .none },
  { cls := 8, slots := #[.int 117], vm := .none },
  { cls := 8, slots := #[.int 118], vm := .none },
  { cls := 8, slots := #[.int 119], vm := .none },
  { cls := 8, slots := #[.int 120], vm := .none },
  { cls := 8, slots := #[.int 121], vm := .none },
  { cls := 8, slots := #[.int 122], vm := .none },
  { cls := 8, slots := #[.int 123], vm := .none },
  { cls := 8, slots := #[.int 124], vm := .none },
  { cls := 8, slots := #[.int 125], vm := .none },
  { cls := 8, slots := #[.int 126], vm := .none },
  { cls := 8, slots := #[.int 127], vm := .none }]
def classes : Array Class := #[k0, k1, k2, k3, k4, k5, k6, k7, k8, k9, k10, k11, k12, k13, k14, k15]
def interned : List (Array UInt16 × Addr) := []
def slotsUsed : Nat := 517
def theMethod : MethodId := ⟨1, 1⟩
def args0 : Array Value := #[.int 5, .long 7, .int 5, .long 7, .int 3]
def aboutOver (below : List Frame) : State where
  vm := { classes := classes, interned := interned.toArray }
  heap := heap
  slotsUsed := slotsUsed
  threads := #[{ frames := .invoking theMethod args0 :: below }]
def below0 : List Frame := [.native { method := ⟨0, 0⟩, args := #[] }]
def about1 : State := aboutOver below0
def p0 : Program := .bare "" "" ""
def e0 : Env := launch0.env 0 0 0
theorem w_frames : about1.frames = Frame.invoking theMethod args0 :: below0 := rfl
set_option maxRecDepth 65536 in
theorem w_args : argsFit about1.vm theMethod args0 = true := by decide +kernel
set_option maxRecDepth 65536 in
theorem w_heap : heapFits about1 = true := by decide +kernel
set_option maxRecDepth 65536 in
theorem w_runnable : about1.curStatus? = some .runnable := by decide +kernel
set_option maxRecDepth 65536 in
theorem w_alone : about1.alone = true := by decide +kernel
set_option maxRecDepth 65536 in
theorem w_named : about1.methodNamed? x = some theMethod := by decide +kernel
set_option maxRecDepth 65536 in
theorem w_hears : about1.hears theMethod below0 = true := by decide +kernel
set_option maxRecDepth 65536 in
theorem w_ripe : about1.ripe theMethod args0 below0 = true := by decide +kernel
theorem w_running : about1.status = .running := rfl
set_option maxRecDepth 65536 in
theorem w_room : about1.hasRoom e0.platform room_1 = true :=
  launch0.hasRoom_least _ room_1 (by decide +kernel) (by decide +kernel) (by decide +kernel) (by decide +kernel) (by decide +kernel) (by decide +kernel)
theorem allAtoms_all (ts : List Jvm.Cond) (a : Array Jvm.Value) (st : Jvm.State) : (allAtoms ts).before a st = ts.all (fun c => c.before a st) := by
  induction ts with
  | nil => rfl
  | cons c t ih =>
    show (Jvm.Cond.and c (allAtoms t)).before a st = _
    rw [Jvm.Cond.before_and, ih, List.all_cons]
def words1 : List Jvm.Cond := Jvm.Cond.code x code maxLocals ret :: tables_1
/-- a 'code' word, met by the world's own term for the bytes: nothing is compared byte by byte -/
theorem code_word {y : MethodName} {bytes : ByteArray} {mx : Nat} {rt : Option FieldType} {a : Array Value} {s : State} {m : MethodId} {meth : Method} {c : Code} (h1 : s.methodNamed? y = some m) (h2 : s.vm.method? m = some meth) (h3 : meth.code = some c) (h4 : c.code = bytes)
    (h5 : (c.maxLocals == mx && c.exceptionTable.isEmpty && decide (c.maxStack ≤ mostOperands) && decide (meth.sig.returnType = rt) && !meth.locks && decide (parseMethodDescriptor y.desc = some meth.sig)) = true) : (Jvm.Cond.code y bytes mx rt).before a s = true := by
  simp only [Bool.and_eq_true, beq_iff_eq, Bool.not_eq_true', decide_eq_true_eq] at h5
  obtain ⟨⟨⟨⟨⟨g1, g2⟩, g3⟩, g4⟩, g5⟩, g6⟩ := h5
  simp [Cond.before, Cond.holds, Cond.value, h1, h2, h3, h4, g1, g2, g3, g4, g5, g6]
def isCode : Jvm.Cond → Bool
  | .code _ _ _ _ => true
  | _ => false
theorem all_split {L : List Jvm.Cond} {P : Jvm.Cond → Bool} (h1 : L.all (fun c => isCode c || P c) = true) (h2 : ∀ c ∈ L.filter isCode, P c = true) : L.all P = true := by
  refine List.all_eq_true.mpr fun c hc => ?_
  have h := List.all_eq_true.mp h1 c hc
  rcases Bool.eq_false_or_eq_true (isCode c) with hi | hi
  · exact h2 c (List.mem_filter.mpr ⟨hc, hi⟩)
  · simpa [hi] using h
set_option maxRecDepth 65536 in
theorem w_c0 : (Jvm.Cond.code x code maxLocals ret).before args0 about1 = true := code_word (m := ⟨1, 1⟩) (meth := k1m1) (c := k1c1) (by decide +kernel) rfl rfl rfl (by decide +kernel)
set_option maxRecDepth 65536 in
theorem w_c1 : (Jvm.Cond.code ({ cls := "com/example/balcon/balcon/model/Position", name := "<init>", desc := "(IJ)V" } : Jvm.MethodName) prog_17_method_1_code (4 : Nat) (Option.none : Option Jvm.ClassFile.FieldType)).before args0 about1 = true := code_word (m := ⟨2, 0⟩) (meth := k2m0) (c := k2c0) (by decide +kernel) rfl rfl rfl (by decide +kernel)
set_option maxRecDepth 65536 in
theorem w_c2 : (Jvm.Cond.code ({ cls := "java/lang/Object", name := "<init>", desc := "()V" } : Jvm.MethodName) object_method_1_code (1 : Nat) (Option.none : Option Jvm.ClassFile.FieldType)).before args0 about1 = true := code_word (m := ⟨0, 0⟩) (meth := k0m0) (c := k0c0) (by decide +kernel) rfl rfl rfl (by decide +kernel)
set_option maxRecDepth 65536 in
theorem w_c3 : (Jvm.Cond.code ({ cls := "com/example/balcon/balcon/model/Position", name := "equals", desc := "(Ljava/lang/Object;)Z" } : Jvm.MethodName) prog_17_method_4_code (3 : Nat) (Option.some Jvm.ClassFile.FieldType.boolean)).before args0 about1 = true := code_word (m := ⟨2, 1⟩) (meth := k2m1) (c := k2c1) (by decide +kernel) rfl rfl rfl (by decide +kernel)
set_option maxRecDepth 65536 in
theorem w_c4 : (Jvm.Cond.code ({ cls := "java/lang/Integer", name := "valueOf", desc := "(I)Ljava/lang/Integer;" } : Jvm.MethodName) jdk_33_method_22_code (1 : Nat) (Option.some (Jvm.ClassFile.FieldType.object "java/lang/Integer"))).before args0 about1 = true := code_word (m := ⟨8, 0⟩) (meth := k8m0) (c := k8c0) (by decide +kernel) rfl rfl rfl (by decide +kernel)
set_option maxRecDepth 65536 in
theorem w_c5 : (Jvm.Cond.code ({ cls := "java/lang/Integer", name := "<init>", desc := "(I)V" } : Jvm.MethodName) jdk_33_method_23_code (2 : Nat) (Option.none : Option Jvm.ClassFile.FieldType)).before args0 about1 = true := code_word (m := ⟨8, 1⟩) (meth := k8m1) (c := k8c1) (by decide +kernel) rfl rfl rfl (by decide +kernel)
set_option maxRecDepth 65536 in
theorem w_c6 : (Jvm.Cond.code ({ cls := "java/lang/Number", name := "<init>", desc := "()V" } : Jvm.MethodName) jdk_18_method_1_code (1 : Nat) (Option.none : Option Jvm.ClassFile.FieldType)).before args0 about1 = true := code_word (m := ⟨4, 0⟩) (meth := k4m0) (c := k4c0) (by decide +kernel) rfl rfl rfl (by decide +kernel)
def codes1 : List Jvm.Cond := [Jvm.Cond.code x code maxLocals ret, Jvm.Cond.code ({ cls := "com/example/balcon/balcon/model/Position", name := "<init>", desc := "(IJ)V" } : Jvm.MethodName) prog_17_method_1_code (4 : Nat) (Option.none : Option Jvm.ClassFile.FieldType), Jvm.Cond.code ({ cls := "java/lang/Object", name := "<init>", desc := "()V" } : Jvm.MethodName) object_method_1_code (1 : Nat) (Option.none : Option Jvm.ClassFile.FieldType), Jvm.Cond.code ({ cls := "com/example/balcon/balcon/model/Position", name := "equals", desc := "(Ljava/lang/Object;)Z" } : Jvm.MethodName) prog_17_method_4_code (3 : Nat) (Option.some Jvm.ClassFile.FieldType.boolean), Jvm.Cond.code ({ cls := "java/lang/Integer", name := "valueOf", desc := "(I)Ljava/lang/Integer;" } : Jvm.MethodName) jdk_33_method_22_code (1 : Nat) (Option.some (Jvm.ClassFile.FieldType.object "java/lang/Integer")), Jvm.Cond.code ({ cls := "java/lang/Integer", name := "<init>", desc := "(I)V" } : Jvm.MethodName) jdk_33_method_23_code (2 : Nat) (Option.none : Option Jvm.ClassFile.FieldType), Jvm.Cond.code ({ cls := "java/lang/Number", name := "<init>", desc := "()V" } : Jvm.MethodName) jdk_18_method_1_code (1 : Nat) (Option.none : Option Jvm.ClassFile.FieldType)]
set_option maxRecDepth 65536 in
theorem codes_eq : words1.filter isCode = codes1 := rfl
theorem w_codes : ∀ c ∈ words1.filter isCode, c.before args0 about1 = true := by
  rw [codes_eq]
  intro c hc
  simp only [codes1, List.mem_cons, List.not_mem_nil, or_false] at hc
  rcases hc with rfl | rfl | rfl | rfl | rfl | rfl | rfl
  · exact w_c0
  · exact w_c1
  · exact w_c2
  · exact w_c3
  · exact w_c4
  · exact w_c5
  · exact w_c6
set_option maxRecDepth 65536 in
theorem w_t1 : (words1.take 24).all (fun c => isCode c || c.before args0 about1) = true := by decide +kernel
set_option maxRecDepth 65536 in
theorem w_t2 : (words1.drop 24).all (fun c => isCode c || c.before args0 about1) = true := by decide +kernel
theorem w_tables : (allAtoms (Jvm.Cond.code x code maxLocals ret :: tables_1)).before args0 about1 = true := by
  rw [allAtoms_all]
  show words1.all (fun c => c.before args0 about1) = true
  refine all_split ?_ w_codes
  rw [← List.take_append_drop 24 words1, List.all_append, w_t1, w_t2]
  rfl
set_option maxRecDepth 65536 in
theorem w_rest : rest_1_c.before args0 about1 = true := by decide +kernel
set_option maxRecDepth 65536 in
theorem w_case : (Jvm.Cond.and given_1 narrow_1).before args0 about1 = true := by decide +kernel
theorem w_applies : (headSpec (Jvm.Cond.code x code maxLocals ret :: tables_1) room_1).applies x e0.platform about1 = true :=
  (Spec.applies_iff w_frames).mpr ⟨w_running, w_runnable, w_alone, w_named, w_hears, w_ripe, w_room, w_tables⟩
theorem atStart : AtStart classFile x code maxLocals ret World_1 tables_1 room_1 Calls_1 rest_1 Pre_1 launch0 p0 e0 about1 theMethod args0 below0 :=
  ⟨lists_1, trivial, launch0.admits_env _ _ _, launch0.least_env, fairChoices_fair.cas, fairChoices_fair.clock, w_frames, w_args, w_heap, w_applies, trivial, w_rest, w_case⟩
end start1
theorem witness_1 : WitnessClaimed_1 := ⟨start1.p0, start1.e0, start1.about1, start1.theMethod, start1.args0, start1.below0, start1.atStart⟩
end Jvm.Pilot.@@N@@
