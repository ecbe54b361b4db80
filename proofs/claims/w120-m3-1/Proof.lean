import JvmDerived
import JvmDerived.Pilot.@@N@@Statement
import JvmDerived.Pilot.@@N@@Code
set_option linter.unusedVariables false
set_option linter.unusedSimpArgs false
namespace Jvm.Pilot.@@N@@
open Jvm Jvm.ClassFile Sem Op Lib Jvm.Free Jvm.Stand Jvm.LawKit Jvm.RoadKit Bundle Jvm.Pilot.@@N@@.Jvm.D
section OwnKit
variable {p : Program} {l : Launch} {e : Env} {R : Room} {s : State} {m : MethodId} {args : Array Value} {below : List Frame} {meth : Method} {c : Code} {T U W : State} {locs : List Loc} {cells slots : Nat} {Q : Option Value → Heap → List Loc → Prop} {K N : Nat}
/-- from U the body comes to its end, and Q holds there -/
def own_Ends (p : Program) (e : Env) (below : List Frame) (s : State) (Q : Option Value → Heap → List Loc → Prop) (K N : Nat) (U : State) : Prop :=
  ∃ s₂ o, Steps p.tables e below U s₂ ∧ s₂.status = .running ∧ Ended s₂ below o ∧ ∃ v L, o = .returned v ∧ Q v s₂.heap L ∧ FrameEnd s o s₂ L K N
theorem own_by {V : State} (h : ∀ t, Steps p.tables e below V t → Steps p.tables e below U t) (k : own_Ends p e below s Q K N V) : own_Ends p e below s Q K N U := by
  obtain ⟨s2, o, h1, h2⟩ := k; exact ⟨s2, o, h _ h1, h2⟩
theorem own_ret0 (X : Stand p l e R s m args below meth c T locs cells slots) (hx : p.tables.exec = Jvm.exec) (hlk : meth.locks = false) {h : Heap} (eT : T.heap = h) {pc : Nat} {Ls : Array Slot} (hret : meth.sig.returnType = none)
    (hd : decode c.code pc = .ok (.return_, 1)) (hQ : Q none h locs) (hK : cells ≤ K) (hN : slots ≤ N) : own_Ends p e below s Q K N (T.setTop (mkF m pc Ls [])) := by
  obtain ⟨fs, hr, hrun, hended, hW, hsame⟩ := X.leave (v := none) (fun _ => rfl) hlk
  exact ⟨_, _, X.returnOut hx hret hd hr, hrun, hended, _, _, rfl, (by subst eT; exact hQ), ⟨_, rfl⟩, hW, hsame.mono hK hN⟩
theorem own_retI (X : Stand p l e R s m args below meth c T locs cells slots) (hx : p.tables.exec = Jvm.exec) (hlk : meth.locks = false) {h : Heap} (eT : T.heap = h) {pc : Nat} {Ls : Array Slot} {z : Int32} {rest : List Value} (hret : meth.sig.returnType = some .int)
    (hd : decode c.code pc = .ok (.ireturn, 1)) (hQ : Q (some (.int z)) h locs) (hK : cells ≤ K) (hN : slots ≤ N) : own_Ends p e below s Q K N (T.setTop (mkF m pc Ls (.int z :: rest))) := by
  obtain ⟨fs, hr, hrun, hended, hW, hsame⟩ := X.leave (v := some (.int z)) (fun h => by rw [hret] at h; cases h) hlk
  exact ⟨_, _, retOut X hx hret rfl (Or.inl ⟨rfl, Or.inl rfl, z, rfl⟩) hd hr, hrun, hended, _, _, rfl, (by subst eT; exact hQ), ⟨_, rfl⟩, hW, hsame.mono hK hN⟩
theorem own_retN (X : Stand p l e R s m args below meth c T locs cells slots) (hx : p.tables.exec = Jvm.exec) (hlk : meth.locks = false) {h : Heap} (eT : T.heap = h) {pc : Nat} {Ls : Array Slot} {z : Int32} {t : FieldType} {rest : List Value} (hret : meth.sig.returnType = some t) (ht : t = .boolean ∨ t = .byte ∨ t = .char ∨ t = .short) (hz : nar t z = z)
    (hd : decode c.code pc = .ok (.ireturn, 1)) (hQ : Q (some (.int z)) h locs) (hK : cells ≤ K) (hN : slots ≤ N) : own_Ends p e below s Q K N (T.setTop (mkF m pc Ls (.int z :: rest))) := by
  obtain ⟨fs, hr, hrun, hended, hW, hsame⟩ := X.leave (v := some (.int z)) (fun h => by rw [hret] at h; cases h) hlk
  exact ⟨_, _, retN X hx hret ht hd (by rw [hz]; exact hr), hrun, hended, _, _, rfl, (by subst eT; exact hQ), ⟨_, rfl⟩, hW, hsame.mono hK hN⟩
theorem own_retL (X : Stand p l e R s m args below meth c T locs cells slots) (hx : p.tables.exec = Jvm.exec) (hlk : meth.locks = false) {h : Heap} (eT : T.heap = h) {pc : Nat} {Ls : Array Slot} {z : Int64} {rest : List Value} (hret : meth.sig.returnType = some .long)
    (hd : decode c.code pc = .ok (.lreturn, 1)) (hQ : Q (some (.long z)) h locs) (hK : cells ≤ K) (hN : slots ≤ N) : own_Ends p e below s Q K N (T.setTop (mkF m pc Ls (.long z :: rest))) := by
  obtain ⟨fs, hr, hrun, hended, hW, hsame⟩ := X.leave (v := some (.long z)) (fun h => by rw [hret] at h; cases h) hlk
  exact ⟨_, _, retOut X hx hret rfl (Or.inr (Or.inl ⟨rfl, rfl, z, rfl⟩)) hd hr, hrun, hended, _, _, rfl, (by subst eT; exact hQ), ⟨_, rfl⟩, hW, hsame.mono hK hN⟩
theorem own_retA (X : Stand p l e R s m args below meth c T locs cells slots) (hx : p.tables.exec = Jvm.exec) (hlk : meth.locks = false) {h : Heap} (eT : T.heap = h) {pc : Nat} {Ls : Array Slot} {w : Value} {t : FieldType} {rest : List Value} (hw : w.isRef = true) (hret : meth.sig.returnType = some t) (ht : t.isReference = true)
    (hd : decode c.code pc = .ok (.areturn, 1)) (hQ : Q (some w) h locs) (hK : cells ≤ K) (hN : slots ≤ N) : own_Ends p e below s Q K N (T.setTop (mkF m pc Ls (w :: rest))) := by
  obtain ⟨fs, hr, hrun, hended, hW, hsame⟩ := X.leave (v := some w) (fun h => by rw [hret] at h; cases h) hlk
  exact ⟨_, _, retOut X hx hret (by cases t <;> cases w <;> first | rfl | (simp [FieldType.isReference] at ht) | (simp [Value.isRef] at hw)) (Or.inr (Or.inr (Or.inr (Or.inr ⟨rfl, ht, hw⟩)))) hd hr, hrun, hended, _, _, rfl, (by subst eT; exact hQ), ⟨_, rfl⟩, hW, hsame.mono hK hN⟩

theorem own_neg1 : (-1 : Int32).toInt = -1 := rfl
end OwnKit
theorem own_selPriv {s : State} {args args' : Array Value} {y : MethodName} {n : Nat} (wi : (Cond.instantiable y.cls n).before args s = true) (wp : (Cond.privateMethod y).before args' s = true) (wm : (Cond.instanceMethod y).before args s = true) (hy : y.cls ≠ "java/lang/invoke/MethodHandle" ∧ y.cls ≠ "java/lang/invoke/VarHandle") : (Cond.selects y.cls y y).before args s = true := by
  obtain ⟨c, k, h1, h2, h3, h4, -⟩ := Cond.instantiable_spec wi
  exact selects_self_of_private h1 h2 (Bool.or_eq_false_iff.mp h4).1 (Cond.privateMethod_at wp) wm hy
section OwnWords
variable {args : Array Value} {s : State} {t : Term} {x : Addr} {C n d : String} {cl : Cell} {ty : FieldType}
theorem own_evI {k : Int32} (h : (Cond.eq t (.int k)).value args s none s [] = some true) : t.eval args s none [] s = some (.int k) := by
  obtain ⟨y, z, h1, h2, h3, -⟩ := cmp_v (Or.inl h)
  have h2' : z = .int k := (Option.some.inj h2).symm
  subst h2'
  cases y with
  | int v =>
    have q : v = k := by simpa [Cond.value, h1, Term.eval] using h
    rw [h1, q]
  | _ => simp [Kin, Value.isRef] at h3
theorem own_fldS {k : Int32} (ht : t.eval args s none [] s = some (.ref x)) (h : (Cond.eq (.field t C n d) (.int k)).value args s none s [] = some true) : Fld s s.heap x C n d (.int k) :=
  Fld.start ((fld_at ht).symm.trans (own_evI h))
theorem own_lenEv {k : Int32} (ev : t.eval args s none [] s = some (.ref x)) (A : Arr s s.heap x cl ty) (h : (Cond.eq (.length t) (.int k)).value args s none s [] = some true) : cl.slots.size.toInt32 = k ∧ cl.slots.size < 2 ^ 31 := by
  have e := own_evI h
  have hat := A.fin (Vm.Alike.refl _)
  simp only [Term.eval, ev, hat, Option.bind_eq_bind, Option.bind_some] at e
  split at e
  · rename_i hlt
    exact ⟨Value.int.inj (Option.some.inj e), hlt⟩
  · cases e
theorem own_len256 (ev : t.eval args s none [] s = some (.ref x)) (A : Arr s s.heap x cl ty) (h : (Cond.eq (.length t) (.int 256)).value args s none s [] = some true) : cl.slots.size = 256 := by
  obtain ⟨h1, h2⟩ := own_lenEv ev A h
  have q := len_toInt h2
  rw [h1] at q
  have q' : (256 : Int32).toInt = 256 := rfl
  omega
theorem own_cacheEl {K : String} {E : Jvm.Cond} (ev : (Term.static K n d).eval args s none [] s = some (.ref x)) (A : Arr s s.heap x cl ty) (hsz : cl.slots.size = 256) (h : (Cond.all (.static K n d) (.and (.exactly (.elem (.static K n d) (.index 0)) C) E)).value args s none s [] = some true) : ∀ j, j < 256 → ∃ b, cl.slots[j]? = some (.ref b) ∧ Exa s s.heap b C := by
  intro j hj
  have hat := A.fin (Vm.Alike.refl _)
  obtain ⟨h1, -⟩ := and_e (Cond.all_elim ev hat h j (by rw [hsz]; exact hj))
  obtain ⟨b, eb⟩ := exa_v h1
  have evj : (Term.static K n d).eval args s none [j] s = some (.ref x) := ev
  have q := (elem_in eb evj (Term.index_eval j) A.1).2
  rw [show j.toInt32 = Int32.ofNat j from rfl, Int32.toNatClampNeg_ofNat_of_lt (by omega)] at q
  exact ⟨b, q, exa_at eb h1⟩
theorem own_elemI {i k : Int32} (ev : t.eval args s none [] s = some (.ref x)) (A : Arr s s.heap x cl ty) (h : (Cond.eq (.elem t (.int i)) (.int k)).value args s none s [] = some true) : ¬ (i < 0 ∨ cl.slots.size ≤ i.toNatClampNeg) ∧ cl.slots[i.toNatClampNeg]? = some (.int k) :=
  elem_in (own_evI h) ev (Term.int_eval i) A.1
end OwnWords

theorem own_d_jdk_31_10_0 : decode jdk_31_method_10_code 0 = .ok (.aload_n 0, 1) := by decide +kernel
theorem own_d_jdk_31_10_1 : decode jdk_31_method_10_code 1 = .ok (.ifnonnull 11, 3) := by decide +kernel
theorem own_d_jdk_31_10_12 : decode jdk_31_method_10_code 12 = .ok (.aload_n 0, 1) := by decide +kernel
theorem own_d_jdk_31_10_13 : decode jdk_31_method_10_code 13 = .ok (.areturn, 1) := by decide +kernel
theorem own_d_jdk_42_149_0 : decode jdk_42_method_149_code 0 = .ok (.aload_n 0, 1) := by decide +kernel
theorem own_d_jdk_42_149_1 : decode jdk_42_method_149_code 1 = .ok (.invokespecial 1, 3) := by decide +kernel
theorem own_d_jdk_42_149_4 : decode jdk_42_method_149_code 4 = .ok (.iload_n 3, 1) := by decide +kernel
theorem own_d_jdk_42_149_5 : decode jdk_42_method_149_code 5 = .ok (.ifCond .ne 22, 3) := by decide +kernel
theorem own_d_jdk_42_149_8 : decode jdk_42_method_149_code 8 = .ok (.aload_n 0, 1) := by decide +kernel
theorem own_d_jdk_42_149_9 : decode jdk_42_method_149_code 9 = .ok (.ldc 7, 2) := by decide +kernel
theorem own_d_jdk_42_149_11 : decode jdk_42_method_149_code 11 = .ok (.getfield 9, 3) := by decide +kernel
theorem own_d_jdk_42_149_14 : decode jdk_42_method_149_code 14 = .ok (.putfield 9, 3) := by decide +kernel
theorem own_d_jdk_42_149_17 : decode jdk_42_method_149_code 17 = .ok (.aload_n 0, 1) := by decide +kernel
theorem own_d_jdk_42_149_18 : decode jdk_42_method_149_code 18 = .ok (.ldc 7, 2) := by decide +kernel
theorem own_d_jdk_42_149_20 : decode jdk_42_method_149_code 20 = .ok (.getfield 15, 3) := by decide +kernel
theorem own_d_jdk_42_149_23 : decode jdk_42_method_149_code 23 = .ok (.putfield 15, 3) := by decide +kernel
theorem own_d_jdk_42_149_26 : decode jdk_42_method_149_code 26 = .ok (.return_, 1) := by decide +kernel
theorem own_d_jdk_42_149_27 : decode jdk_42_method_149_code 27 = .ok (.getstatic 38, 3) := by decide +kernel
theorem own_d_jdk_42_149_30 : decode jdk_42_method_149_code 30 = .ok (.ifCond .eq 28, 3) := by decide +kernel
theorem own_d_jdk_42_149_33 : decode jdk_42_method_149_code 33 = .ok (.aload_n 1, 1) := by decide +kernel
theorem own_d_jdk_42_149_34 : decode jdk_42_method_149_code 34 = .ok (.iload_n 2, 1) := by decide +kernel
theorem own_d_jdk_42_149_35 : decode jdk_42_method_149_code 35 = .ok (.iload_n 3, 1) := by decide +kernel
theorem own_d_jdk_42_149_36 : decode jdk_42_method_149_code 36 = .ok (.invokestatic 177, 3) := by decide +kernel
theorem own_d_jdk_42_149_39 : decode jdk_42_method_149_code 39 = .ok (.astore 5, 2) := by decide +kernel
theorem own_d_jdk_42_149_41 : decode jdk_42_method_149_code 41 = .ok (.aload_n 0, 1) := by decide +kernel
theorem own_d_jdk_42_149_42 : decode jdk_42_method_149_code 42 = .ok (.aload 5, 2) := by decide +kernel
theorem own_d_jdk_42_149_44 : decode jdk_42_method_149_code 44 = .ok (.iload_n 3, 1) := by decide +kernel
theorem own_d_jdk_42_149_45 : decode jdk_42_method_149_code 45 = .ok (.invokestatic 47, 3) := by decide +kernel
theorem own_d_jdk_42_149_48 : decode jdk_42_method_149_code 48 = .ok (.putfield 15, 3) := by decide +kernel
theorem own_d_jdk_42_149_51 : decode jdk_42_method_149_code 51 = .ok (.aload_n 0, 1) := by decide +kernel
theorem own_d_jdk_42_149_52 : decode jdk_42_method_149_code 52 = .ok (.aload 5, 2) := by decide +kernel
theorem own_d_jdk_42_149_54 : decode jdk_42_method_149_code 54 = .ok (.putfield 9, 3) := by decide +kernel
theorem own_d_jdk_42_149_57 : decode jdk_42_method_149_code 57 = .ok (.return_, 1) := by decide +kernel
theorem own_d_jdk_42_3_0 : decode jdk_42_method_3_code 0 = .ok (.aload_n 0, 1) := by decide +kernel
theorem own_d_jdk_42_3_1 : decode jdk_42_method_3_code 1 = .ok (.aload_n 1, 1) := by decide +kernel
theorem own_d_jdk_42_3_2 : decode jdk_42_method_3_code 2 = .ok (.iconst 0, 1) := by decide +kernel
theorem own_d_jdk_42_3_3 : decode jdk_42_method_3_code 3 = .ok (.aload_n 1, 1) := by decide +kernel
theorem own_d_jdk_42_3_4 : decode jdk_42_method_3_code 4 = .ok (.arraylength, 1) := by decide +kernel
theorem own_d_jdk_42_3_5 : decode jdk_42_method_3_code 5 = .ok (.aconst_null, 1) := by decide +kernel
theorem own_d_jdk_42_3_6 : decode jdk_42_method_3_code 6 = .ok (.invokespecial 27, 3) := by decide +kernel
theorem own_d_jdk_42_3_9 : decode jdk_42_method_3_code 9 = .ok (.return_, 1) := by decide +kernel
theorem own_d_jdk_42_66_0 : decode jdk_42_method_66_code 0 = .ok (.aload_n 0, 1) := by decide +kernel
theorem own_d_jdk_42_66_1 : decode jdk_42_method_66_code 1 = .ok (.aload_n 1, 1) := by decide +kernel
theorem own_d_jdk_42_66_2 : decode jdk_42_method_66_code 2 = .ok (.if_acmp .ne 5, 3) := by decide +kernel
theorem own_d_jdk_42_66_5 : decode jdk_42_method_66_code 5 = .ok (.iconst 1, 1) := by decide +kernel
theorem own_d_jdk_42_66_6 : decode jdk_42_method_66_code 6 = .ok (.ireturn, 1) := by decide +kernel
theorem own_d_jdk_42_66_7 : decode jdk_42_method_66_code 7 = .ok (.aload_n 1, 1) := by decide +kernel
theorem own_d_jdk_42_66_8 : decode jdk_42_method_66_code 8 = .ok (.instanceof 10, 3) := by decide +kernel
theorem own_d_jdk_42_66_11 : decode jdk_42_method_66_code 11 = .ok (.ifCond .eq 43, 3) := by decide +kernel
theorem own_d_jdk_42_66_14 : decode jdk_42_method_66_code 14 = .ok (.aload_n 1, 1) := by decide +kernel
theorem own_d_jdk_42_66_15 : decode jdk_42_method_66_code 15 = .ok (.checkcast 10, 3) := by decide +kernel
theorem own_d_jdk_42_66_18 : decode jdk_42_method_66_code 18 = .ok (.astore_n 2, 1) := by decide +kernel
theorem own_d_jdk_42_66_19 : decode jdk_42_method_66_code 19 = .ok (.getstatic 38, 3) := by decide +kernel
theorem own_d_jdk_42_66_22 : decode jdk_42_method_66_code 22 = .ok (.ifCond .eq 14, 3) := by decide +kernel
theorem own_d_jdk_42_66_25 : decode jdk_42_method_66_code 25 = .ok (.aload_n 0, 1) := by decide +kernel
theorem own_d_jdk_42_66_26 : decode jdk_42_method_66_code 26 = .ok (.getfield 15, 3) := by decide +kernel
theorem own_d_jdk_42_66_29 : decode jdk_42_method_66_code 29 = .ok (.aload_n 2, 1) := by decide +kernel
theorem own_d_jdk_42_66_30 : decode jdk_42_method_66_code 30 = .ok (.getfield 15, 3) := by decide +kernel
theorem own_d_jdk_42_66_33 : decode jdk_42_method_66_code 33 = .ok (.if_icmp .ne 21, 3) := by decide +kernel
theorem own_d_jdk_42_66_36 : decode jdk_42_method_66_code 36 = .ok (.aload_n 0, 1) := by decide +kernel
theorem own_d_jdk_42_66_37 : decode jdk_42_method_66_code 37 = .ok (.getfield 9, 3) := by decide +kernel
theorem own_d_jdk_42_66_40 : decode jdk_42_method_66_code 40 = .ok (.aload_n 2, 1) := by decide +kernel
theorem own_d_jdk_42_66_41 : decode jdk_42_method_66_code 41 = .ok (.getfield 9, 3) := by decide +kernel
theorem own_d_jdk_42_66_44 : decode jdk_42_method_66_code 44 = .ok (.invokestatic 541, 3) := by decide +kernel
theorem own_d_jdk_42_66_47 : decode jdk_42_method_66_code 47 = .ok (.ifCond .eq 7, 3) := by decide +kernel
theorem own_d_jdk_42_66_50 : decode jdk_42_method_66_code 50 = .ok (.iconst 1, 1) := by decide +kernel
theorem own_d_jdk_42_66_51 : decode jdk_42_method_66_code 51 = .ok (.goto 4, 3) := by decide +kernel
theorem own_d_jdk_42_66_54 : decode jdk_42_method_66_code 54 = .ok (.iconst 0, 1) := by decide +kernel
theorem own_d_jdk_42_66_55 : decode jdk_42_method_66_code 55 = .ok (.ireturn, 1) := by decide +kernel
theorem own_d_jdk_43_13_0 : decode jdk_43_method_13_code 0 = .ok (.aload_n 0, 1) := by decide +kernel
theorem own_d_jdk_43_13_1 : decode jdk_43_method_13_code 1 = .ok (.arraylength, 1) := by decide +kernel
theorem own_d_jdk_43_13_2 : decode jdk_43_method_13_code 2 = .ok (.aload_n 1, 1) := by decide +kernel
theorem own_d_jdk_43_13_3 : decode jdk_43_method_13_code 3 = .ok (.arraylength, 1) := by decide +kernel
theorem own_d_jdk_43_13_4 : decode jdk_43_method_13_code 4 = .ok (.if_icmp .ne 30, 3) := by decide +kernel
theorem own_d_jdk_43_13_7 : decode jdk_43_method_13_code 7 = .ok (.iconst 0, 1) := by decide +kernel
theorem own_d_jdk_43_13_8 : decode jdk_43_method_13_code 8 = .ok (.istore_n 2, 1) := by decide +kernel
theorem own_d_jdk_43_13_9 : decode jdk_43_method_13_code 9 = .ok (.iload_n 2, 1) := by decide +kernel
theorem own_d_jdk_43_13_10 : decode jdk_43_method_13_code 10 = .ok (.aload_n 0, 1) := by decide +kernel
theorem own_d_jdk_43_13_11 : decode jdk_43_method_13_code 11 = .ok (.arraylength, 1) := by decide +kernel
theorem own_d_jdk_43_13_12 : decode jdk_43_method_13_code 12 = .ok (.if_icmp .ge 20, 3) := by decide +kernel
theorem own_d_jdk_43_13_15 : decode jdk_43_method_13_code 15 = .ok (.aload_n 0, 1) := by decide +kernel
theorem own_d_jdk_43_13_16 : decode jdk_43_method_13_code 16 = .ok (.iload_n 2, 1) := by decide +kernel
theorem own_d_jdk_43_13_17 : decode jdk_43_method_13_code 17 = .ok (.baload, 1) := by decide +kernel
theorem own_d_jdk_43_13_18 : decode jdk_43_method_13_code 18 = .ok (.aload_n 1, 1) := by decide +kernel
theorem own_d_jdk_43_13_19 : decode jdk_43_method_13_code 19 = .ok (.iload_n 2, 1) := by decide +kernel
theorem own_d_jdk_43_13_20 : decode jdk_43_method_13_code 20 = .ok (.baload, 1) := by decide +kernel
theorem own_d_jdk_43_13_21 : decode jdk_43_method_13_code 21 = .ok (.if_icmp .eq 5, 3) := by decide +kernel
theorem own_d_jdk_43_13_24 : decode jdk_43_method_13_code 24 = .ok (.iconst 0, 1) := by decide +kernel
theorem own_d_jdk_43_13_25 : decode jdk_43_method_13_code 25 = .ok (.ireturn, 1) := by decide +kernel
theorem own_d_jdk_43_13_26 : decode jdk_43_method_13_code 26 = .ok (.iinc 2 1, 3) := by decide +kernel
theorem own_d_jdk_43_13_29 : decode jdk_43_method_13_code 29 = .ok (.goto (-20), 3) := by decide +kernel
theorem own_d_jdk_43_13_32 : decode jdk_43_method_13_code 32 = .ok (.iconst 1, 1) := by decide +kernel
theorem own_d_jdk_43_13_33 : decode jdk_43_method_13_code 33 = .ok (.ireturn, 1) := by decide +kernel
theorem own_d_jdk_43_13_34 : decode jdk_43_method_13_code 34 = .ok (.iconst 0, 1) := by decide +kernel
theorem own_d_jdk_43_13_35 : decode jdk_43_method_13_code 35 = .ok (.ireturn, 1) := by decide +kernel
theorem own_d_jdk_52_15_0 : decode jdk_52_method_15_code 0 = .ok (.iload_n 1, 1) := by decide +kernel
theorem own_d_jdk_52_15_1 : decode jdk_52_method_15_code 1 = .ok (.aload_n 0, 1) := by decide +kernel
theorem own_d_jdk_52_15_2 : decode jdk_52_method_15_code 2 = .ok (.arraylength, 1) := by decide +kernel
theorem own_d_jdk_52_15_3 : decode jdk_52_method_15_code 3 = .ok (.isub, 1) := by decide +kernel
theorem own_d_jdk_52_15_4 : decode jdk_52_method_15_code 4 = .ok (.bipush 31, 2) := by decide +kernel
theorem own_d_jdk_52_15_6 : decode jdk_52_method_15_code 6 = .ok (.iushr, 1) := by decide +kernel
theorem own_d_jdk_52_15_7 : decode jdk_52_method_15_code 7 = .ok (.i2b, 1) := by decide +kernel
theorem own_d_jdk_52_15_8 : decode jdk_52_method_15_code 8 = .ok (.ireturn, 1) := by decide +kernel
theorem own_d_jdk_52_16_0 : decode jdk_52_method_16_code 0 = .ok (.iload_n 2, 1) := by decide +kernel
theorem own_d_jdk_52_16_1 : decode jdk_52_method_16_code 1 = .ok (.newarray .byte, 2) := by decide +kernel
theorem own_d_jdk_52_16_3 : decode jdk_52_method_16_code 3 = .ok (.astore_n 3, 1) := by decide +kernel
theorem own_d_jdk_52_16_4 : decode jdk_52_method_16_code 4 = .ok (.aload_n 0, 1) := by decide +kernel
theorem own_d_jdk_52_16_5 : decode jdk_52_method_16_code 5 = .ok (.iload_n 1, 1) := by decide +kernel
theorem own_d_jdk_52_16_6 : decode jdk_52_method_16_code 6 = .ok (.aload_n 3, 1) := by decide +kernel
theorem own_d_jdk_52_16_7 : decode jdk_52_method_16_code 7 = .ok (.iconst 0, 1) := by decide +kernel
theorem own_d_jdk_52_16_8 : decode jdk_52_method_16_code 8 = .ok (.iload_n 2, 1) := by decide +kernel
theorem own_d_jdk_52_16_9 : decode jdk_52_method_16_code 9 = .ok (.invokestatic 115, 3) := by decide +kernel
theorem own_d_jdk_52_16_12 : decode jdk_52_method_16_code 12 = .ok (.istore 4, 2) := by decide +kernel
theorem own_d_jdk_52_16_14 : decode jdk_52_method_16_code 14 = .ok (.iload 4, 2) := by decide +kernel
theorem own_d_jdk_52_16_16 : decode jdk_52_method_16_code 16 = .ok (.iload_n 2, 1) := by decide +kernel
theorem own_d_jdk_52_16_17 : decode jdk_52_method_16_code 17 = .ok (.if_icmp .eq 40, 3) := by decide +kernel
theorem own_d_jdk_52_16_57 : decode jdk_52_method_16_code 57 = .ok (.aload_n 3, 1) := by decide +kernel
theorem own_d_jdk_52_16_58 : decode jdk_52_method_16_code 58 = .ok (.areturn, 1) := by decide +kernel
theorem own_d_jdk_52_21_0 : decode jdk_52_method_21_code 0 = .ok (.iconst 0, 1) := by decide +kernel
theorem own_d_jdk_52_21_1 : decode jdk_52_method_21_code 1 = .ok (.istore 5, 2) := by decide +kernel
theorem own_d_jdk_52_21_3 : decode jdk_52_method_21_code 3 = .ok (.iload 5, 2) := by decide +kernel
theorem own_d_jdk_52_21_5 : decode jdk_52_method_21_code 5 = .ok (.iload 4, 2) := by decide +kernel
theorem own_d_jdk_52_21_7 : decode jdk_52_method_21_code 7 = .ok (.if_icmp .ge 37, 3) := by decide +kernel
theorem own_d_jdk_52_21_10 : decode jdk_52_method_21_code 10 = .ok (.aload_n 0, 1) := by decide +kernel
theorem own_d_jdk_52_21_11 : decode jdk_52_method_21_code 11 = .ok (.iload_n 1, 1) := by decide +kernel
theorem own_d_jdk_52_21_12 : decode jdk_52_method_21_code 12 = .ok (.caload, 1) := by decide +kernel
theorem own_d_jdk_52_21_13 : decode jdk_52_method_21_code 13 = .ok (.istore 6, 2) := by decide +kernel
theorem own_d_jdk_52_21_15 : decode jdk_52_method_21_code 15 = .ok (.iload 6, 2) := by decide +kernel
theorem own_d_jdk_52_21_17 : decode jdk_52_method_21_code 17 = .ok (.sipush 255, 3) := by decide +kernel
theorem own_d_jdk_52_21_20 : decode jdk_52_method_21_code 20 = .ok (.if_icmp .le 6, 3) := by decide +kernel
theorem own_d_jdk_52_21_26 : decode jdk_52_method_21_code 26 = .ok (.aload_n 2, 1) := by decide +kernel
theorem own_d_jdk_52_21_27 : decode jdk_52_method_21_code 27 = .ok (.iload_n 3, 1) := by decide +kernel
theorem own_d_jdk_52_21_28 : decode jdk_52_method_21_code 28 = .ok (.iload 6, 2) := by decide +kernel
theorem own_d_jdk_52_21_30 : decode jdk_52_method_21_code 30 = .ok (.i2b, 1) := by decide +kernel
theorem own_d_jdk_52_21_31 : decode jdk_52_method_21_code 31 = .ok (.bastore, 1) := by decide +kernel
theorem own_d_jdk_52_21_32 : decode jdk_52_method_21_code 32 = .ok (.iinc 1 1, 3) := by decide +kernel
theorem own_d_jdk_52_21_35 : decode jdk_52_method_21_code 35 = .ok (.iinc 3 1, 3) := by decide +kernel
theorem own_d_jdk_52_21_38 : decode jdk_52_method_21_code 38 = .ok (.iinc 5 1, 3) := by decide +kernel
theorem own_d_jdk_52_21_41 : decode jdk_52_method_21_code 41 = .ok (.goto (-38), 3) := by decide +kernel
theorem own_d_jdk_52_21_44 : decode jdk_52_method_21_code 44 = .ok (.iload 4, 2) := by decide +kernel
theorem own_d_jdk_52_21_46 : decode jdk_52_method_21_code 46 = .ok (.ireturn, 1) := by decide +kernel
theorem own_d_method_2_0 : decode method_2_code 0 = .ok (.iload_n 0, 1) := by decide +kernel
theorem own_d_method_2_1 : decode method_2_code 1 = .ok (.iconst 3, 1) := by decide +kernel
theorem own_d_method_2_2 : decode method_2_code 2 = .ok (.iand, 1) := by decide +kernel
theorem own_d_method_2_3 : decode method_2_code 3 = .ok (.iconst 3, 1) := by decide +kernel
theorem own_d_method_2_4 : decode method_2_code 4 = .ok (.irem, 1) := by decide +kernel
theorem own_d_method_2_5 : decode method_2_code 5 = .ok (.ireturn, 1) := by decide +kernel
theorem own_d_method_3_0 : decode method_3_code 0 = .ok (.iload_n 0, 1) := by decide +kernel
theorem own_d_method_3_1 : decode method_3_code 1 = .ok (.iconst 2, 1) := by decide +kernel
theorem own_d_method_3_2 : decode method_3_code 2 = .ok (.iushr, 1) := by decide +kernel
theorem own_d_method_3_3 : decode method_3_code 3 = .ok (.sipush 255, 3) := by decide +kernel
theorem own_d_method_3_6 : decode method_3_code 6 = .ok (.iand, 1) := by decide +kernel
theorem own_d_method_3_7 : decode method_3_code 7 = .ok (.i2c, 1) := by decide +kernel
theorem own_d_method_3_8 : decode method_3_code 8 = .ok (.ireturn, 1) := by decide +kernel
theorem own_d_method_4_0 : decode method_4_code 0 = .ok (.iload_n 0, 1) := by decide +kernel
theorem own_d_method_4_1 : decode method_4_code 1 = .ok (.bipush 10, 2) := by decide +kernel
theorem own_d_method_4_3 : decode method_4_code 3 = .ok (.iushr, 1) := by decide +kernel
theorem own_d_method_4_4 : decode method_4_code 4 = .ok (.sipush 255, 3) := by decide +kernel
theorem own_d_method_4_7 : decode method_4_code 7 = .ok (.iand, 1) := by decide +kernel
theorem own_d_method_4_8 : decode method_4_code 8 = .ok (.i2c, 1) := by decide +kernel
theorem own_d_method_4_9 : decode method_4_code 9 = .ok (.ireturn, 1) := by decide +kernel
theorem own_d_method_5_0 : decode method_5_code 0 = .ok (.iload_n 0, 1) := by decide +kernel
theorem own_d_method_5_1 : decode method_5_code 1 = .ok (.invokestatic 7, 3) := by decide +kernel
theorem own_d_method_5_4 : decode method_5_code 4 = .ok (.istore_n 1, 1) := by decide +kernel
theorem own_d_method_5_5 : decode method_5_code 5 = .ok (.iload_n 1, 1) := by decide +kernel
theorem own_d_method_5_6 : decode method_5_code 6 = .ok (.ifCond .ne 14, 3) := by decide +kernel
theorem own_d_method_5_9 : decode method_5_code 9 = .ok (.new 13, 3) := by decide +kernel
theorem own_d_method_5_12 : decode method_5_code 12 = .ok (.dup, 1) := by decide +kernel
theorem own_d_method_5_13 : decode method_5_code 13 = .ok (.iconst 0, 1) := by decide +kernel
theorem own_d_method_5_14 : decode method_5_code 14 = .ok (.newarray .char, 2) := by decide +kernel
theorem own_d_method_5_16 : decode method_5_code 16 = .ok (.invokespecial 15, 3) := by decide +kernel
theorem own_d_method_5_19 : decode method_5_code 19 = .ok (.areturn, 1) := by decide +kernel
theorem own_d_method_5_20 : decode method_5_code 20 = .ok (.iload_n 1, 1) := by decide +kernel
theorem own_d_method_5_21 : decode method_5_code 21 = .ok (.iconst 1, 1) := by decide +kernel
theorem own_d_method_5_22 : decode method_5_code 22 = .ok (.if_icmp .ne 23, 3) := by decide +kernel
theorem own_d_method_5_25 : decode method_5_code 25 = .ok (.iconst 1, 1) := by decide +kernel
theorem own_d_method_5_26 : decode method_5_code 26 = .ok (.newarray .char, 2) := by decide +kernel
theorem own_d_method_5_28 : decode method_5_code 28 = .ok (.astore_n 2, 1) := by decide +kernel
theorem own_d_method_5_29 : decode method_5_code 29 = .ok (.aload_n 2, 1) := by decide +kernel
theorem own_d_method_5_30 : decode method_5_code 30 = .ok (.iconst 0, 1) := by decide +kernel
theorem own_d_method_5_31 : decode method_5_code 31 = .ok (.iload_n 0, 1) := by decide +kernel
theorem own_d_method_5_32 : decode method_5_code 32 = .ok (.invokestatic 18, 3) := by decide +kernel
theorem own_d_method_5_35 : decode method_5_code 35 = .ok (.castore, 1) := by decide +kernel
theorem own_d_method_5_36 : decode method_5_code 36 = .ok (.new 13, 3) := by decide +kernel
theorem own_d_method_5_39 : decode method_5_code 39 = .ok (.dup, 1) := by decide +kernel
theorem own_d_method_5_40 : decode method_5_code 40 = .ok (.aload_n 2, 1) := by decide +kernel
theorem own_d_method_5_41 : decode method_5_code 41 = .ok (.invokespecial 15, 3) := by decide +kernel
theorem own_d_method_5_44 : decode method_5_code 44 = .ok (.areturn, 1) := by decide +kernel
theorem own_d_method_5_45 : decode method_5_code 45 = .ok (.iconst 2, 1) := by decide +kernel
theorem own_d_method_5_46 : decode method_5_code 46 = .ok (.newarray .char, 2) := by decide +kernel
theorem own_d_method_5_48 : decode method_5_code 48 = .ok (.astore_n 2, 1) := by decide +kernel
theorem own_d_method_5_49 : decode method_5_code 49 = .ok (.aload_n 2, 1) := by decide +kernel
theorem own_d_method_5_50 : decode method_5_code 50 = .ok (.iconst 0, 1) := by decide +kernel
theorem own_d_method_5_51 : decode method_5_code 51 = .ok (.iload_n 0, 1) := by decide +kernel
theorem own_d_method_5_52 : decode method_5_code 52 = .ok (.invokestatic 18, 3) := by decide +kernel
theorem own_d_method_5_55 : decode method_5_code 55 = .ok (.castore, 1) := by decide +kernel
theorem own_d_method_5_56 : decode method_5_code 56 = .ok (.aload_n 2, 1) := by decide +kernel
theorem own_d_method_5_57 : decode method_5_code 57 = .ok (.iconst 1, 1) := by decide +kernel
theorem own_d_method_5_58 : decode method_5_code 58 = .ok (.iload_n 0, 1) := by decide +kernel
theorem own_d_method_5_59 : decode method_5_code 59 = .ok (.invokestatic 22, 3) := by decide +kernel
theorem own_d_method_5_62 : decode method_5_code 62 = .ok (.castore, 1) := by decide +kernel
theorem own_d_method_5_63 : decode method_5_code 63 = .ok (.new 13, 3) := by decide +kernel
theorem own_d_method_5_66 : decode method_5_code 66 = .ok (.dup, 1) := by decide +kernel
theorem own_d_method_5_67 : decode method_5_code 67 = .ok (.aload_n 2, 1) := by decide +kernel
theorem own_d_method_5_68 : decode method_5_code 68 = .ok (.invokespecial 15, 3) := by decide +kernel
theorem own_d_method_5_71 : decode method_5_code 71 = .ok (.areturn, 1) := by decide +kernel
theorem own_d_method_6_0 : decode method_6_code 0 = .ok (.iload_n 0, 1) := by decide +kernel
theorem own_d_method_6_1 : decode method_6_code 1 = .ok (.invokestatic 7, 3) := by decide +kernel
theorem own_d_method_6_4 : decode method_6_code 4 = .ok (.istore_n 2, 1) := by decide +kernel
theorem own_d_method_6_5 : decode method_6_code 5 = .ok (.iload_n 2, 1) := by decide +kernel
theorem own_d_method_6_6 : decode method_6_code 6 = .ok (.iload_n 1, 1) := by decide +kernel
theorem own_d_method_6_7 : decode method_6_code 7 = .ok (.invokestatic 7, 3) := by decide +kernel
theorem own_d_method_6_10 : decode method_6_code 10 = .ok (.if_icmp .ne 39, 3) := by decide +kernel
theorem own_d_method_6_13 : decode method_6_code 13 = .ok (.iload_n 2, 1) := by decide +kernel
theorem own_d_method_6_14 : decode method_6_code 14 = .ok (.iconst 1, 1) := by decide +kernel
theorem own_d_method_6_15 : decode method_6_code 15 = .ok (.if_icmp .lt 14, 3) := by decide +kernel
theorem own_d_method_6_18 : decode method_6_code 18 = .ok (.iload_n 0, 1) := by decide +kernel
theorem own_d_method_6_19 : decode method_6_code 19 = .ok (.invokestatic 18, 3) := by decide +kernel
theorem own_d_method_6_22 : decode method_6_code 22 = .ok (.iload_n 1, 1) := by decide +kernel
theorem own_d_method_6_23 : decode method_6_code 23 = .ok (.invokestatic 18, 3) := by decide +kernel
theorem own_d_method_6_26 : decode method_6_code 26 = .ok (.if_icmp .ne 23, 3) := by decide +kernel
theorem own_d_method_6_29 : decode method_6_code 29 = .ok (.iload_n 2, 1) := by decide +kernel
theorem own_d_method_6_30 : decode method_6_code 30 = .ok (.iconst 2, 1) := by decide +kernel
theorem own_d_method_6_31 : decode method_6_code 31 = .ok (.if_icmp .lt 14, 3) := by decide +kernel
theorem own_d_method_6_34 : decode method_6_code 34 = .ok (.iload_n 0, 1) := by decide +kernel
theorem own_d_method_6_35 : decode method_6_code 35 = .ok (.invokestatic 22, 3) := by decide +kernel
theorem own_d_method_6_38 : decode method_6_code 38 = .ok (.iload_n 1, 1) := by decide +kernel
theorem own_d_method_6_39 : decode method_6_code 39 = .ok (.invokestatic 22, 3) := by decide +kernel
theorem own_d_method_6_42 : decode method_6_code 42 = .ok (.if_icmp .ne 7, 3) := by decide +kernel
theorem own_d_method_6_45 : decode method_6_code 45 = .ok (.iconst 1, 1) := by decide +kernel
theorem own_d_method_6_46 : decode method_6_code 46 = .ok (.goto 4, 3) := by decide +kernel
theorem own_d_method_6_49 : decode method_6_code 49 = .ok (.iconst 0, 1) := by decide +kernel
theorem own_d_method_6_50 : decode method_6_code 50 = .ok (.ireturn, 1) := by decide +kernel
theorem own_d_prog_170_1_0 : decode prog_170_method_1_code 0 = .ok (.aload_n 0, 1) := by decide +kernel
theorem own_d_prog_170_1_1 : decode prog_170_method_1_code 1 = .ok (.invokespecial 1, 3) := by decide +kernel
theorem own_d_prog_170_1_4 : decode prog_170_method_1_code 4 = .ok (.aload_n 0, 1) := by decide +kernel
theorem own_d_prog_170_1_5 : decode prog_170_method_1_code 5 = .ok (.aload_n 1, 1) := by decide +kernel
theorem own_d_prog_170_1_6 : decode prog_170_method_1_code 6 = .ok (.invokestatic 7, 3) := by decide +kernel
theorem own_d_prog_170_1_9 : decode prog_170_method_1_code 9 = .ok (.checkcast 13, 3) := by decide +kernel
theorem own_d_prog_170_1_12 : decode prog_170_method_1_code 12 = .ok (.putfield 15, 3) := by decide +kernel
theorem own_d_prog_170_1_15 : decode prog_170_method_1_code 15 = .ok (.aload_n 0, 1) := by decide +kernel
theorem own_d_prog_170_1_16 : decode prog_170_method_1_code 16 = .ok (.aload_n 2, 1) := by decide +kernel
theorem own_d_prog_170_1_17 : decode prog_170_method_1_code 17 = .ok (.invokestatic 7, 3) := by decide +kernel
theorem own_d_prog_170_1_20 : decode prog_170_method_1_code 20 = .ok (.checkcast 13, 3) := by decide +kernel
theorem own_d_prog_170_1_23 : decode prog_170_method_1_code 23 = .ok (.putfield 21, 3) := by decide +kernel
theorem own_d_prog_170_1_26 : decode prog_170_method_1_code 26 = .ok (.aload_n 0, 1) := by decide +kernel
theorem own_d_prog_170_1_27 : decode prog_170_method_1_code 27 = .ok (.iload_n 3, 1) := by decide +kernel
theorem own_d_prog_170_1_28 : decode prog_170_method_1_code 28 = .ok (.putfield 24, 3) := by decide +kernel
theorem own_d_prog_170_1_31 : decode prog_170_method_1_code 31 = .ok (.return_, 1) := by decide +kernel
theorem own_d_prog_170_5_0 : decode prog_170_method_5_code 0 = .ok (.aload_n 1, 1) := by decide +kernel
theorem own_d_prog_170_5_1 : decode prog_170_method_5_code 1 = .ok (.instanceof 16, 3) := by decide +kernel
theorem own_d_prog_170_5_4 : decode prog_170_method_5_code 4 = .ok (.ifCond .eq 40, 3) := by decide +kernel
theorem own_d_prog_170_5_7 : decode prog_170_method_5_code 7 = .ok (.aload_n 1, 1) := by decide +kernel
theorem own_d_prog_170_5_8 : decode prog_170_method_5_code 8 = .ok (.checkcast 16, 3) := by decide +kernel
theorem own_d_prog_170_5_11 : decode prog_170_method_5_code 11 = .ok (.astore_n 2, 1) := by decide +kernel
theorem own_d_prog_170_5_12 : decode prog_170_method_5_code 12 = .ok (.aload_n 0, 1) := by decide +kernel
theorem own_d_prog_170_5_13 : decode prog_170_method_5_code 13 = .ok (.getfield 15, 3) := by decide +kernel
theorem own_d_prog_170_5_16 : decode prog_170_method_5_code 16 = .ok (.aload_n 2, 1) := by decide +kernel
theorem own_d_prog_170_5_17 : decode prog_170_method_5_code 17 = .ok (.getfield 15, 3) := by decide +kernel
theorem own_d_prog_170_5_20 : decode prog_170_method_5_code 20 = .ok (.invokevirtual 38, 3) := by decide +kernel
theorem own_d_prog_170_5_23 : decode prog_170_method_5_code 23 = .ok (.ifCond .eq 21, 3) := by decide +kernel
theorem own_d_prog_170_5_26 : decode prog_170_method_5_code 26 = .ok (.aload_n 0, 1) := by decide +kernel
theorem own_d_prog_170_5_27 : decode prog_170_method_5_code 27 = .ok (.getfield 21, 3) := by decide +kernel
theorem own_d_prog_170_5_30 : decode prog_170_method_5_code 30 = .ok (.aload_n 2, 1) := by decide +kernel
theorem own_d_prog_170_5_31 : decode prog_170_method_5_code 31 = .ok (.getfield 21, 3) := by decide +kernel
theorem own_d_prog_170_5_34 : decode prog_170_method_5_code 34 = .ok (.invokevirtual 38, 3) := by decide +kernel
theorem own_d_prog_170_5_37 : decode prog_170_method_5_code 37 = .ok (.ifCond .eq 7, 3) := by decide +kernel
theorem own_d_prog_170_5_40 : decode prog_170_method_5_code 40 = .ok (.iconst 1, 1) := by decide +kernel
theorem own_d_prog_170_5_41 : decode prog_170_method_5_code 41 = .ok (.goto 4, 3) := by decide +kernel
theorem own_d_prog_170_5_44 : decode prog_170_method_5_code 44 = .ok (.iconst 0, 1) := by decide +kernel
theorem own_d_prog_170_5_45 : decode prog_170_method_5_code 45 = .ok (.ireturn, 1) := by decide +kernel
theorem own_d_prog_172_1_0 : decode prog_172_method_1_code 0 = .ok (.aload_n 0, 1) := by decide +kernel
theorem own_d_prog_172_1_1 : decode prog_172_method_1_code 1 = .ok (.invokespecial 1, 3) := by decide +kernel
theorem own_d_prog_172_1_4 : decode prog_172_method_1_code 4 = .ok (.aload_n 0, 1) := by decide +kernel
theorem own_d_prog_172_1_5 : decode prog_172_method_1_code 5 = .ok (.lload_n 1, 1) := by decide +kernel
theorem own_d_prog_172_1_6 : decode prog_172_method_1_code 6 = .ok (.putfield 7, 3) := by decide +kernel
theorem own_d_prog_172_1_9 : decode prog_172_method_1_code 9 = .ok (.return_, 1) := by decide +kernel
theorem own_pd0 : parseMethodDescriptor "(I)I" = some ⟨[.int], some .int⟩ := by decide +kernel
theorem own_pd1 : parseMethodDescriptor "(I)C" = some ⟨[.int], some .char⟩ := by decide +kernel
theorem own_pd2 : parseMethodDescriptor "([CI[BII)I" = some ⟨[(.array .char), .int, (.array .byte), .int, .int], some .int⟩ := by decide +kernel
theorem own_pd3 : parseMethodDescriptor "([CII)[B" = some ⟨[(.array .char), .int, .int], some (.array .byte)⟩ := by decide +kernel
theorem own_pd4 : parseMethodDescriptor "([BI)B" = some ⟨[(.array .byte), .int], some .byte⟩ := by decide +kernel
theorem own_pd5 : parseMethodDescriptor "([CIILjava/lang/Void;)V" = some ⟨[(.array .char), .int, .int, (.object "java/lang/Void")], none⟩ := by decide +kernel
theorem own_pd6 : parseMethodDescriptor "([C)V" = some ⟨[(.array .char)], none⟩ := by decide +kernel
theorem own_pd7 : parseMethodDescriptor "([B[B)Z" = some ⟨[(.array .byte), (.array .byte)], some .boolean⟩ := by decide +kernel
theorem own_pd8 : parseMethodDescriptor "(Ljava/lang/Object;)Ljava/lang/Object;" = some ⟨[(.object "java/lang/Object")], some (.object "java/lang/Object")⟩ := by decide +kernel
theorem own_pd9 : parseMethodDescriptor "(Ljava/lang/Object;)Z" = some ⟨[(.object "java/lang/Object")], some .boolean⟩ := by decide +kernel
theorem own_pd10 : parseMethodDescriptor "(I)Ljava/lang/String;" = some ⟨[.int], some (.object "java/lang/String")⟩ := by decide +kernel
theorem own_pd11 : parseMethodDescriptor "(Ljava/lang/String;Ljava/lang/String;I)V" = some ⟨[(.object "java/lang/String"), (.object "java/lang/String"), .int], none⟩ := by decide +kernel
theorem own_pd12 : parseMethodDescriptor "(II)Z" = some ⟨[.int, .int], some .boolean⟩ := by decide +kernel
theorem own_pd13 : parseMethodDescriptor "(J)V" = some ⟨[.long], none⟩ := by decide +kernel
theorem own_pn0 : plainName "com/example/forec/forec/ConstantEqualsPinLaw" = true := by first | (simp [plainName, overriddenIn]; done) | decide +kernel
theorem own_pn1 : plainName "java/lang/StringUTF16" = true := by first | (simp [plainName, overriddenIn]; done) | decide +kernel
theorem own_pn2 : plainName "java/lang/String" = true := by first | (simp [plainName, overriddenIn]; done) | decide +kernel
theorem own_pn3 : plainName "java/lang/StringLatin1" = true := by first | (simp [plainName, overriddenIn]; done) | decide +kernel
theorem own_pn4 : plainName "java/util/Objects" = true := by first | (simp [plainName, overriddenIn]; done) | decide +kernel
theorem own_pn5 : plainName "com/example/forec/forec/Value$Constant" = true := by first | (simp [plainName, overriddenIn]; done) | decide +kernel
theorem own_pn6 : plainName "com/example/forec/forec/Value$Int" = true := by first | (simp [plainName, overriddenIn]; done) | decide +kernel
section OwnWide
variable {p : Program} {l : Launch} {e : Env} {R : Room} {s : State} {m : MethodId} {args : Array Value} {below : List Frame} {meth : Method} {c : Code} {T U : State} {locs : List Loc} {cells slots : Nat} {Q : Option Value → Heap → List Loc → Prop} {K N : Nat} {Z : State} {a0 : Array Value} {h h' : Heap}
/-- what is known of the loaded empty text -/
def own_LF (Z : State) (h : Heap) (la lb : Addr) (lk : ClassId) : Prop := Exa Z h la "java/lang/String" ∧ Fld Z h la "java/lang/String" "coder" "B" (.int (0 : Int32)) ∧ Fld Z h la "java/lang/String" "value" "[B" (.ref lb) ∧ Arv Z h lb lk .byte (0 : Int32) [] (.int (0 : Int32))
/-- the constant: nothing was interned since the start, or it is loaded and known -/
def own_LS (Z U : State) (h : Heap) : Prop := IB Z U.vm [] ∨ ∃ la lb lk, Lit U "java/lang/String" 7 la ∧ own_LF Z h la lb lk
theorem own_ls_vm {V : State} (H : own_LS Z U h) (hW : U.WarmedH V.vm) : own_LS Z V h := by
  rcases H with I | ⟨la, lb, lk, L, F⟩
  · left; obtain ⟨more, e, hm⟩ := I; exact ⟨more, by rw [hW.interned_eq]; exact e, hm⟩
  · right; exact ⟨la, lb, lk, State.resolvedAt?_warmed39 hW.wide L, F⟩
theorem own_ls_ext (H : own_LS Z U h) (E : Ext h h') : own_LS Z U h' := by
  rcases H with I | ⟨la, lb, lk, L, F1, F2, F3, F4⟩
  · exact Or.inl I
  · exact Or.inr ⟨la, lb, lk, L, F1.ext E, F2.ext E, F3.ext E, F4.ext E⟩
theorem own_ls_keep0 (H : own_LS Z U h) (K : Keep h h' []) : own_LS Z U h' := by
  rcases H with I | ⟨la, lb, lk, L, F1, F2, F3, F4⟩
  · exact Or.inl I
  · exact Or.inr ⟨la, lb, lk, L, F1.keep K, F2.keep K nin0, F3.keep K nin0, F4.keep K nin0⟩
theorem own_ls_keep {o : Addr} {C : String} {n : Nat} (H : own_LS Z U h) (K : Keep h h' [o]) (E : Exa Z h o C) (hC : C ≠ "java/lang/String") (w : (Cond.instantiable C n).before a0 Z = true) : own_LS Z U h' := by
  rcases H with I | ⟨la, lb, lk, L, F1, F2, F3, F4⟩
  · exact Or.inl I
  · have n1 : la ≠ o := Exa.ne F1 E (Ne.symm hC)
    have n2 : lb ≠ o := (Exa.neArv E F4 w).symm
    exact Or.inr ⟨la, lb, lk, L, F1.keep K, F2.keep K (ninS n1 nin0), F3.keep K (ninS n1 nin0), F4.keep K (ninS n2 nin0)⟩
def own_EndsW (p : Program) (e : Env) (below : List Frame) (s Z : State) (Q : Option Value → Heap → List Loc → Prop) (K N : Nat) (U : State) : Prop :=
  ∃ s₂ o, Steps p.tables e below U s₂ ∧ s₂.status = .running ∧ Ended s₂ below o ∧ ∃ v L, o = .returned v ∧ Q v s₂.heap L ∧ own_LS Z s₂ s₂.heap ∧ ReturnedEndW s o s₂ L K N
theorem own_byW {V : State} (h : ∀ t, Steps p.tables e below V t → Steps p.tables e below U t) (k : own_EndsW p e below s Z Q K N V) : own_EndsW p e below s Z Q K N U := by
  obtain ⟨s2, o, h1, h2⟩ := k; exact ⟨s2, o, h _ h1, h2⟩
theorem own_endW {vm0 : Vm} (X : Stand p l e R (s.setVm vm0) m args below meth c T locs cells slots) (hlk : meth.locks = false) {k0 : Nat} (hS : s.Since vm0 k0) (hk : k0 ≤ h.size) (eT : T.heap = h) (H : own_LS Z (s.setVm vm0) h) {g : JFrame} {v : Option Value} (hv : meth.sig.returnType = none → v = none)
    (hst : ∀ fs, (∀ (f : JFrame) (acts : List Action), f.method = m → f.locked = none → f.entered = [] → (doReturn e (T.setTop f) acts v).1 = T.setFrames fs) → Steps p.tables e below (T.setTop g) (T.setFrames fs)) (hQ : Q v h locs) (hK : cells ≤ K) (hN : slots ≤ N) : own_EndsW p e below s Z Q K N (T.setTop g) := by
  obtain ⟨fs, hr, hrun, hend, r1, r2, r3, r4⟩ := X.leaveW hS (by rw [eT]; exact hk) hv hlk
  exact ⟨_, _, hst fs hr, hrun, hend, _, _, rfl, (by subst eT; exact hQ), own_ls_vm (V := T.setFrames fs) (by subst eT; exact H) X.warmed, r1, r2, r3, r4.mono hK hN⟩
theorem own_retW0 {vm0 : Vm} (X : Stand p l e R (s.setVm vm0) m args below meth c T locs cells slots) (hx : p.tables.exec = Jvm.exec) (hlk : meth.locks = false) {k0 : Nat} (hS : s.Since vm0 k0) (hk : k0 ≤ h.size) (eT : T.heap = h) (H : own_LS Z (s.setVm vm0) h) {pc : Nat} {Ls : Array Slot} (hret : meth.sig.returnType = none)
    (hd : decode c.code pc = .ok (.return_, 1)) (hQ : Q none h locs) (hK : cells ≤ K) (hN : slots ≤ N) : own_EndsW p e below s Z Q K N (T.setTop (mkF m pc Ls [])) :=
  own_endW X hlk hS hk eT H (v := none) (fun _ => rfl) (fun fs hr => X.returnOut hx hret hd hr) hQ hK hN
theorem own_retWA {vm0 : Vm} (X : Stand p l e R (s.setVm vm0) m args below meth c T locs cells slots) (hx : p.tables.exec = Jvm.exec) (hlk : meth.locks = false) {k0 : Nat} (hS : s.Since vm0 k0) (hk : k0 ≤ h.size) (eT : T.heap = h) (H : own_LS Z (s.setVm vm0) h) {pc : Nat} {Ls : Array Slot} {w : Value} {t : FieldType} {rest : List Value} (hw : w.isRef = true) (hret : meth.sig.returnType = some t) (ht : t.isReference = true)
    (hd : decode c.code pc = .ok (.areturn, 1)) (hQ : Q (some w) h locs) (hK : cells ≤ K) (hN : slots ≤ N) : own_EndsW p e below s Z Q K N (T.setTop (mkF m pc Ls (w :: rest))) :=
  own_endW X hlk hS hk eT H (v := some w) (fun q => by rw [hret] at q; cases q) (fun fs hr => retOut X hx hret (by cases t <;> cases w <;> first | rfl | (simp [FieldType.isReference] at ht) | (simp [Value.isRef] at hw)) (Or.inr (Or.inr (Or.inr (Or.inr ⟨rfl, ht, hw⟩)))) hd hr) hQ hK hN
theorem own_retWN {vm0 : Vm} (X : Stand p l e R (s.setVm vm0) m args below meth c T locs cells slots) (hx : p.tables.exec = Jvm.exec) (hlk : meth.locks = false) {k0 : Nat} (hS : s.Since vm0 k0) (hk : k0 ≤ h.size) (eT : T.heap = h) (H : own_LS Z (s.setVm vm0) h) {pc : Nat} {Ls : Array Slot} {z : Int32} {t : FieldType} {rest : List Value} (hret : meth.sig.returnType = some t) (ht : t = .boolean ∨ t = .byte ∨ t = .char ∨ t = .short) (hz : nar t z = z)
    (hd : decode c.code pc = .ok (.ireturn, 1)) (hQ : Q (some (.int z)) h locs) (hK : cells ≤ K) (hN : slots ≤ N) : own_EndsW p e below s Z Q K N (T.setTop (mkF m pc Ls (.int z :: rest))) :=
  own_endW X hlk hS hk eT H (v := some (.int z)) (fun q => by rw [hret] at q; cases q) (fun fs hr => retN X hx hret ht hd (by rw [hz]; exact hr)) hQ hK hN
theorem own_backOfW {y : MethodName} {bytes : ByteArray} {maxL : Nat} {ret : Option FieldType} {rm : Room} {len W : Nat} {as' : Array Value} {Q : Option Value → Heap → List Loc → Prop}
    (hM : MetFree l y (head1 [Cond.code y bytes maxL ret] rm) (fun a U => a = as' ∧ Z.Warmed39 U.vm ∧ U.heap = h ∧ own_LS Z U h) (fun _ _ _ _ _ => True) (fun _ U o U' => ∃ v L, o = .returned v ∧ Q v U'.heap L ∧ own_LS Z U' U'.heap ∧ ReturnedEndW U o U' L rm.cells rm.slots))
    (hZ : Z.Warmed39 s.vm) (H : own_LS Z s h) (wc : (Cond.code y bytes maxL ret).before a0 Z = true) (wz : (Cond.initialized y.cls).before a0 Z = true) (hf : rm.frames + 1 ≤ R.frames) (hl : W + (maxL + 11) + rm.locals ≤ R.locals) :
    BackS l R p e below s args y len W (fun A a => a = as' ∧ A.U.heap = h ∧ A.cells + rm.cells ≤ R.cells ∧ A.slots + rm.slots ≤ R.slots)
      (fun A _ v B => ∃ L, (Q v B.U.heap L ∧ own_LS Z B.U B.U.heap) ∧ B.locs = A.locs ++ L ∧ B.cells = A.cells + rm.cells ∧ B.slots = A.slots + rm.slots) :=
  BackS.of_freeW (bytes := bytes) (maxL := maxL) (ret := ret) (E := fun _ _ o t L k n => k = rm.cells ∧ n = rm.slots ∧ ∃ v, o = .returned v ∧ Q v t.heap L ∧ own_LS Z t t.heap) hM hf hl
    (fun m meth c A a Y hp => have hU : Z.Warmed39 A.U.vm := wtrans hZ Y.warmed
      ⟨by show (Cond.and _ .tt).before a A.U = true; rw [Cond.before_and, mv hU wc]; rfl, mv hU wc, mv hU wz, hp.2.2.1, hp.2.2.2⟩)
    (fun m meth c A a g mk Y hp => ⟨hp.1, wtrans hZ Y.warmed, hp.2.1, own_ls_vm (V := A.U.calling g mk a) H Y.warmed⟩) (fun _ _ _ _ _ _ _ _ _ => trivial)
    (fun _ _ _ _ ⟨v, L, h1, h2, h3, h4⟩ => ⟨L, _, _, h4, rfl, rfl, v, h1, h2, h3⟩)
    (fun m meth c A a g mk v t L k n Y hp _ _ ⟨e1, e2, v', e3, e4, e5⟩ => by cases e3; subst e1 e2; exact ⟨L, ⟨e4, e5⟩, rfl, rfl, rfl⟩)
end OwnWide

theorem own_placeI (w : Int32) (h1 : ¬ w < (-128 : Int32)) (h2 : ¬ (127 : Int32) < w) : ¬ ((w + (128 : Int32)) < 0 ∨ 256 ≤ (w + (128 : Int32)).toNatClampNeg) ∧ (w + (128 : Int32)).toNatClampNeg < 256 := by
  have e1 := c_iadd w 128
  have e2 := rng32 (w + 128)
  have e3 := rng32 w
  simp only [Int32.lt_iff_toInt_lt, Int32.reduceToInt, Int32.toNatClampNeg] at *
  have e4 : (-128 : Int32).toInt = -128 := rfl
  omega
theorem own_nsRoot {Z : State} {a0 : Array Value} {K : String} {n : Nat} (w : (Cond.noSuperclass "java/lang/Object").before a0 Z = true) (wi : (Cond.instantiable K n).before a0 Z = true) (hn : "java/lang/Object" ≠ K) : NS Z "java/lang/Object" K := by
  obtain ⟨c, k, h1, h2, h3, -⟩ := Cond.noSuperclass_spec w
  obtain ⟨t, kt, g1, -⟩ := Cond.instantiable_spec wi
  refine ⟨c, t, h1, g1, fun fuel => ?_⟩
  have ne := ids_ne h1 g1 hn
  rcases fuel with _ | f
  · rfl
  · simp [Vm.isSubclassAux, ne, h2, h3]
theorem own_notOf {Z : State} {a0 : Array Value} {C S K : String} {n : Nat} (w : (Cond.superclass C S).before a0 Z = true) (wi : (Cond.instantiable K n).before a0 Z = true) (N : NS Z C K) (hn : C ≠ K) : ∃ c t, Z.vm.findClass C = some c ∧ Z.vm.findClass K = some t ∧ Z.vm.assignable c t = false := by
  obtain ⟨c, t, f1, f2, hN⟩ := N
  obtain ⟨p, k, kp, -, h2, -, -, h5, -, h7⟩ := Cond.superclass_spec f1 w
  obtain ⟨t', kt, g1, g2, g3, g4, -⟩ := Cond.instantiable_spec wi
  cases f2.symm.trans g1
  have ne := ids_ne f1 f2 hn
  have gi : kt.isInterface = false := (Bool.or_eq_false_iff.mp g4).1
  exact ⟨c, t, f1, f2, by show Z.vm.assignableAux (255 + 1) c t = false; simp [Vm.assignableAux, ne, h2, g2, h5, g3, gi, Vm.isSubclass, hN]⟩
theorem own_strAtoms {Z : State} {a0 : Array Value} (hw : ∀ d ∈ tables_1, d.before a0 Z = true) : ∀ a ∈ Bundle.stringAtoms, a.before a0 Z = true := by
  intro d hd
  simp only [Bundle.stringAtoms, List.mem_cons, List.not_mem_nil, or_false] at hd
  rcases hd with rfl | rfl | rfl | rfl | rfl | rfl | rfl
  · exact (hw _ (List.mem_of_getElem? (i := 12) rfl))
  · exact (hw _ (List.mem_of_getElem? (i := 11) rfl))
  · exact (hw _ (List.mem_of_getElem? (i := 25) rfl))
  · exact (hw _ (List.mem_of_getElem? (i := 26) rfl))
  · exact (hw _ (List.mem_of_getElem? (i := 27) rfl))
  · exact (hw _ (List.mem_of_getElem? (i := 28) rfl))
  · exact (hw _ (List.mem_of_getElem? (i := 29) rfl))
def own_len (x : Int32) : Int32 := (x &&& (3 : Int32)) % (3 : Int32)
def own_ch0 (x : Int32) : Int32 := ((((x.toUInt32 >>> ((2 : Int32) &&& 31).toUInt32).toInt32) &&& (255 : Int32)).toUInt32.toUInt16.toUInt32.toInt32)
def own_ch1 (x : Int32) : Int32 := ((((x.toUInt32 >>> ((10 : Int32) &&& 31).toUInt32).toInt32) &&& (255 : Int32)).toUInt32.toUInt16.toUInt32.toInt32)
def own_bytes (x : Int32) : List Value := if own_len x = 0 then [] else if own_len x = 1 then [(.int (nar .byte ((nar .char (own_ch0 x)).toInt8.toInt32)))] else [(.int (nar .byte ((nar .char (own_ch0 x)).toInt8.toInt32))), (.int (nar .byte ((nar .char (own_ch1 x)).toInt8.toInt32)))]
theorem own_len3 (x : Int32) : own_len x = 0 ∨ own_len x = 1 ∨ own_len x = 2 := by
  have e : (x &&& (3 : Int32)).toInt = x.toInt % (2 ^ 2 : Nat) := c_mask x 3 2 (by decide) (by decide)
  have e1 := (c_irem (x &&& (3 : Int32)) 3 3 rfl).1 (by omega)
  have e2 : (own_len x).toInt = (x &&& (3 : Int32)).toInt % 3 := e1
  simp only [← Int32.toInt_inj, Int32.reduceToInt]; omega
theorem own_i2c255 (y : Int32) : ¬ (255 : Int32) < nar .char ((y &&& (255 : Int32)).toUInt32.toUInt16.toUInt32.toInt32) ∧ nar .char ((y &&& (255 : Int32)).toUInt32.toUInt16.toUInt32.toInt32) = ((y &&& (255 : Int32)).toUInt32.toUInt16.toUInt32.toInt32) := by
  have e1 : (y &&& (255 : Int32)).toInt = y.toInt % (2 ^ 8 : Nat) := c_mask y 255 8 (by decide) (by decide)
  have e4 := c_i2c (y &&& (255 : Int32))
  have e5 := c_i2c ((y &&& (255 : Int32)).toUInt32.toUInt16.toUInt32.toInt32)
  rw [Int32.lt_iff_toInt_lt, ← Int32.toInt_inj]
  simp only [nar, Int32.reduceToInt]
  omega
theorem own_byteEq (y z : Int32) : (nar .byte ((nar .char ((y &&& (255 : Int32)).toUInt32.toUInt16.toUInt32.toInt32)).toInt8.toInt32) = nar .byte ((nar .char ((z &&& (255 : Int32)).toUInt32.toUInt16.toUInt32.toInt32)).toInt8.toInt32)) ↔ ((y &&& (255 : Int32)).toUInt32.toUInt16.toUInt32.toInt32) = ((z &&& (255 : Int32)).toUInt32.toUInt16.toUInt32.toInt32) := by
  rw [(own_i2c255 y).2, (own_i2c255 z).2]
  have a1 : (y &&& (255 : Int32)).toInt = y.toInt % (2 ^ 8 : Nat) := c_mask y 255 8 (by decide) (by decide)
  have a2 : (z &&& (255 : Int32)).toInt = z.toInt % (2 ^ 8 : Nat) := c_mask z 255 8 (by decide) (by decide)
  have b1 := c_i2c (y &&& (255 : Int32))
  have b2 := c_i2c (z &&& (255 : Int32))
  have d1 := c_i2b ((y &&& (255 : Int32)).toUInt32.toUInt16.toUInt32.toInt32)
  have d2 := c_i2b ((z &&& (255 : Int32)).toUInt32.toUInt16.toUInt32.toInt32)
  have f1 := c_i2b (((y &&& (255 : Int32)).toUInt32.toUInt16.toUInt32.toInt32).toInt8.toInt32)
  have f2 := c_i2b (((z &&& (255 : Int32)).toUInt32.toUInt16.toUInt32.toInt32).toInt8.toInt32)
  simp only [nar, ← Int32.toInt_inj]
  constructor <;> intro h <;> omega
def own_same (x y : Int32) : Int32 := if own_len x = own_len y ∧ (own_len x < 1 ∨ own_ch0 x = own_ch0 y) ∧ (own_len x < 2 ∨ own_ch1 x = own_ch1 y) then 1 else 0
theorem own_same01 (x y : Int32) : own_same x y = 0 ∨ own_same x y = 1 := by unfold own_same; split <;> simp
theorem own_same_self (x : Int32) : own_same x x = 1 := if_pos ⟨rfl, Or.inr rfl, Or.inr rfl⟩
theorem own_same_symm (x y : Int32) : own_same x y = own_same y x := by
  unfold own_same
  by_cases h : own_len x = own_len y
  · simp only [h, true_and, eq_comm]
  · rw [if_neg (fun q => h q.1), if_neg (fun q => h q.1.symm)]
def own_both (a b : Int32) : Int32 := if a = 0 then 0 else if b = 0 then 0 else 1
theorem own_arv0 {Z : State} {h : Heap} {b : Addr} {k : ClassId} {x : Int32} (q : own_len x = 0) (F : Arv Z h b k .byte (0 : Int32) [] (.int (0 : Int32))) : Arv Z h b k .byte (own_len x) (own_bytes x) (.int (0 : Int32)) := by
  have q2 : own_bytes x = [] := by unfold own_bytes; simp [q]
  rw [q2, q]; exact F
theorem own_arv1 {Z : State} {h : Heap} {b : Addr} {k : ClassId} {x : Int32} (q : own_len x = 1) (F : Arv Z h b k .byte (1 : Int32) [(.int (nar .byte ((nar .char (own_ch0 x)).toInt8.toInt32)))] (.int (0 : Int32))) : Arv Z h b k .byte (own_len x) (own_bytes x) (.int (0 : Int32)) := by
  have q2 : own_bytes x = [(.int (nar .byte ((nar .char (own_ch0 x)).toInt8.toInt32)))] := by unfold own_bytes; simp [q]
  rw [q2, q]; exact F
theorem own_arv2 {Z : State} {h : Heap} {b : Addr} {k : ClassId} {x : Int32} (q : own_len x = 2) (F : Arv Z h b k .byte (2 : Int32) [(.int (nar .byte ((nar .char (own_ch0 x)).toInt8.toInt32))), (.int (nar .byte ((nar .char (own_ch1 x)).toInt8.toInt32)))] (.int (0 : Int32))) : Arv Z h b k .byte (own_len x) (own_bytes x) (.int (0 : Int32)) := by
  have q2 : own_bytes x = [(.int (nar .byte ((nar .char (own_ch0 x)).toInt8.toInt32))), (.int (nar .byte ((nar .char (own_ch1 x)).toInt8.toInt32)))] := by unfold own_bytes; simp [q]
  rw [q2, q]; exact F
theorem own_arvB0 {Z : State} {h : Heap} {b : Addr} {k : ClassId} {x : Int32} (q : own_len x = 0) (F : Arv Z h b k .byte (own_len x) (own_bytes x) (.int (0 : Int32))) : Arv Z h b k .byte (0 : Int32) [] (.int (0 : Int32)) := by
  have q2 : own_bytes x = [] := by unfold own_bytes; simp [q]
  rw [q2, q] at F; exact F
theorem own_arvB1 {Z : State} {h : Heap} {b : Addr} {k : ClassId} {x : Int32} (q : own_len x = 1) (F : Arv Z h b k .byte (own_len x) (own_bytes x) (.int (0 : Int32))) : Arv Z h b k .byte (1 : Int32) [(.int (nar .byte ((nar .char (own_ch0 x)).toInt8.toInt32)))] (.int (0 : Int32)) := by
  have q2 : own_bytes x = [(.int (nar .byte ((nar .char (own_ch0 x)).toInt8.toInt32)))] := by unfold own_bytes; simp [q]
  rw [q2, q] at F; exact F
theorem own_arvB2 {Z : State} {h : Heap} {b : Addr} {k : ClassId} {x : Int32} (q : own_len x = 2) (F : Arv Z h b k .byte (own_len x) (own_bytes x) (.int (0 : Int32))) : Arv Z h b k .byte (2 : Int32) [(.int (nar .byte ((nar .char (own_ch0 x)).toInt8.toInt32))), (.int (nar .byte ((nar .char (own_ch1 x)).toInt8.toInt32)))] (.int (0 : Int32)) := by
  have q2 : own_bytes x = [(.int (nar .byte ((nar .char (own_ch0 x)).toInt8.toInt32))), (.int (nar .byte ((nar .char (own_ch1 x)).toInt8.toInt32)))] := by unfold own_bytes; simp [q]
  rw [q2, q] at F; exact F
theorem own_same_no10 {x y : Int32} (q : own_len x = 1) (h : ¬ own_ch0 x = own_ch0 y) : (0 : Int32) = own_same x y := (if_neg fun u => u.2.1.elim (fun z => by rw [q] at z; exact absurd z (by decide)) h).symm
theorem own_same_no20 {x y : Int32} (q : own_len x = 2) (h : ¬ own_ch0 x = own_ch0 y) : (0 : Int32) = own_same x y := (if_neg fun u => u.2.1.elim (fun z => by rw [q] at z; exact absurd z (by decide)) h).symm
theorem own_same_no21 {x y : Int32} (q : own_len x = 2) (h : ¬ own_ch1 x = own_ch1 y) : (0 : Int32) = own_same x y := (if_neg fun u => u.2.2.elim (fun z => by rw [q] at z; exact absurd z (by decide)) h).symm
theorem own_same_len {x y a b : Int32} (q : own_len x = a) (r : own_len y = b) (h : a ≠ b) : (0 : Int32) = own_same x y := (if_neg fun u => h (q.symm.trans (u.1.trans r))).symm

def own_Q_own_rlen (Z : State) (p0 : Int32) (h0 : Heap) (n0 : Nat) : Option Value → Heap → List Loc → Prop := fun v h L => v = some (.int (own_len p0)) ∧ Fr n0 L ∧ h = h0
theorem own_ef_own_rlen (m : MethodId) (x0 : Int32) : entryFrame m #[(.int x0)] 1 = mkF m 0 #[.val (.int x0)] [] := by first | (simp [entryFrame, mkF, argsToLocals, Value.category]; done) | rfl
set_option maxRecDepth 65536 in
set_option maxHeartbeats 40000000 in
theorem own_rlen (l : Launch) (Z : State) (a0 : Array Value) (hw : ∀ d ∈ tables_1, d.before a0 Z = true) (ws : List Jvm.Cond) (p0 : Int32) (h0 : Heap) (n0 : Nat) :
    MetFree l (⟨"com/example/forec/forec/ConstantEqualsPinLaw", "len", "(I)I"⟩ : MethodName) (head1 (Jvm.Cond.code (⟨"com/example/forec/forec/ConstantEqualsPinLaw", "len", "(I)I"⟩ : MethodName) method_2_code 1 (some .int) :: ws) ({ frames := 0, cells := 0, slots := 0, locals := 0 } : Room)) (fun a U => a = #[(.int p0)] ∧ Z.Warmed39 U.vm ∧ U.heap = h0) (fun _ _ _ _ _ => True) (fun _ U o U' => ∃ v L, o = .returned v ∧ (own_Q_own_rlen Z p0 h0 n0) v U'.heap L ∧ FrameEnd U o U' L ({ frames := 0, cells := 0, slots := 0, locals := 0 } : Room).cells ({ frames := 0, cells := 0, slots := 0, locals := 0 } : Room).slots) := by
  refine MetFree.of_bodySF (plainFor_of_name own_pn0) hisR ?_
  intro p e s m args below meth c s₁ Bd hml0 hP hK
  obtain ⟨rfl, hZ, hh⟩ := hP
  have hx := Bd.exec
  have hby := Bd.bytes
  have hml : c.maxLocals = 1 := hml0
  have hown : s.vm.findClass "com/example/forec/forec/ConstantEqualsPinLaw" = some m.cls := findClass_of_methodNamed Bd.named
  have hnm := (name_of_methodNamed Bd.named Bd.method).1
  have hlk : meth.locks = false := BodyLoose.notSynchronized Bd
  have X0 : Stand p l e ({ frames := 0, cells := 0, slots := 0, locals := 0 } : Room) s m #[(.int p0)] below meth c s₁ [] 0 0 := Stand.of_body Bd
  have e0 : s₁.heap = h0 := by rw [← hh, Bd.state]; rfl
  have N0 := Fr.nil n0
  show own_Ends p e below s (own_Q_own_rlen Z p0 h0 n0) ({ frames := 0, cells := 0, slots := 0, locals := 0 } : Room).cells ({ frames := 0, cells := 0, slots := 0, locals := 0 } : Room).slots _
  refine own_by (V := s₁.setTop (mkF m 0 #[.val (.int p0)] [])) (fun t k => castTop (own_ef_own_rlen m p0) k) ?_
  refine own_by (V := s₁.setTop (mkF m 1 #[.val (.int p0)] [(.int p0)])) (fun t k => XS.iloadN X0.here hx rfl (hb hby own_d_method_2_0) rfl  k) ?_
  refine own_by (V := s₁.setTop (mkF m 2 #[.val (.int p0)] [(.int (3 : Int32)), (.int p0)])) (fun t k => XS.iconst X0.here hx rfl (hb hby own_d_method_2_1) k) ?_
  refine own_by (V := s₁.setTop (mkF m 3 #[.val (.int p0)] [(.int (p0 &&& (3 : Int32)))])) (fun t k => XS.iand X0.here hx rfl (hb hby own_d_method_2_2) rfl k) ?_
  refine own_by (V := s₁.setTop (mkF m 4 #[.val (.int p0)] [(.int (3 : Int32)), (.int (p0 &&& (3 : Int32)))])) (fun t k => XS.iconst X0.here hx rfl (hb hby own_d_method_2_3) k) ?_
  refine own_by (V := s₁.setTop (mkF m 5 #[.val (.int p0)] [(.int ((p0 &&& (3 : Int32)) % (3 : Int32)))])) (fun t k => iremM X0 hx rfl (hb hby own_d_method_2_4) rfl (by decide) k) ?_
  refine own_retI X0 hx hlk e0 Bd.returns (hb hby own_d_method_2_5) ?_ (by decide) (by decide)
  exact ⟨congrArg (fun z => some (Value.int z)) (show ((p0 &&& (3 : Int32)) % (3 : Int32)) = (own_len p0) from by rfl), N0, rfl⟩
def own_Q_own_rch0 (Z : State) (p0 : Int32) (h0 : Heap) (n0 : Nat) : Option Value → Heap → List Loc → Prop := fun v h L => v = some (.int (own_ch0 p0)) ∧ Fr n0 L ∧ h = h0
theorem own_ef_own_rch0 (m : MethodId) (x0 : Int32) : entryFrame m #[(.int x0)] 1 = mkF m 0 #[.val (.int x0)] [] := by first | (simp [entryFrame, mkF, argsToLocals, Value.category]; done) | rfl
set_option maxRecDepth 65536 in
set_option maxHeartbeats 40000000 in
theorem own_rch0 (l : Launch) (Z : State) (a0 : Array Value) (hw : ∀ d ∈ tables_1, d.before a0 Z = true) (ws : List Jvm.Cond) (p0 : Int32) (h0 : Heap) (n0 : Nat) :
    MetFree l (⟨"com/example/forec/forec/ConstantEqualsPinLaw", "ch0", "(I)C"⟩ : MethodName) (head1 (Jvm.Cond.code (⟨"com/example/forec/forec/ConstantEqualsPinLaw", "ch0", "(I)C"⟩ : MethodName) method_3_code 1 (some .char) :: ws) ({ frames := 0, cells := 0, slots := 0, locals := 0 } : Room)) (fun a U => a = #[(.int p0)] ∧ Z.Warmed39 U.vm ∧ U.heap = h0) (fun _ _ _ _ _ => True) (fun _ U o U' => ∃ v L, o = .returned v ∧ (own_Q_own_rch0 Z p0 h0 n0) v U'.heap L ∧ FrameEnd U o U' L ({ frames := 0, cells := 0, slots := 0, locals := 0 } : Room).cells ({ frames := 0, cells := 0, slots := 0, locals := 0 } : Room).slots) := by
  refine MetFree.of_bodySF (plainFor_of_name own_pn0) hisR ?_
  intro p e s m args below meth c s₁ Bd hml0 hP hK
  obtain ⟨rfl, hZ, hh⟩ := hP
  have hx := Bd.exec
  have hby := Bd.bytes
  have hml : c.maxLocals = 1 := hml0
  have hown : s.vm.findClass "com/example/forec/forec/ConstantEqualsPinLaw" = some m.cls := findClass_of_methodNamed Bd.named
  have hnm := (name_of_methodNamed Bd.named Bd.method).1
  have hlk : meth.locks = false := BodyLoose.notSynchronized Bd
  have X0 : Stand p l e ({ frames := 0, cells := 0, slots := 0, locals := 0 } : Room) s m #[(.int p0)] below meth c s₁ [] 0 0 := Stand.of_body Bd
  have e0 : s₁.heap = h0 := by rw [← hh, Bd.state]; rfl
  have N0 := Fr.nil n0
  show own_Ends p e below s (own_Q_own_rch0 Z p0 h0 n0) ({ frames := 0, cells := 0, slots := 0, locals := 0 } : Room).cells ({ frames := 0, cells := 0, slots := 0, locals := 0 } : Room).slots _
  refine own_by (V := s₁.setTop (mkF m 0 #[.val (.int p0)] [])) (fun t k => castTop (own_ef_own_rch0 m p0) k) ?_
  refine own_by (V := s₁.setTop (mkF m 1 #[.val (.int p0)] [(.int p0)])) (fun t k => XS.iloadN X0.here hx rfl (hb hby own_d_method_3_0) rfl  k) ?_
  refine own_by (V := s₁.setTop (mkF m 2 #[.val (.int p0)] [(.int (2 : Int32)), (.int p0)])) (fun t k => XS.iconst X0.here hx rfl (hb hby own_d_method_3_1) k) ?_
  refine own_by (V := s₁.setTop (mkF m 3 #[.val (.int p0)] [(.int ((p0.toUInt32 >>> ((2 : Int32) &&& 31).toUInt32).toInt32))])) (fun t k => XS.iushr X0.here hx rfl (hb hby own_d_method_3_2) rfl k) ?_
  refine own_by (V := s₁.setTop (mkF m 6 #[.val (.int p0)] [(.int (255 : Int32)), (.int ((p0.toUInt32 >>> ((2 : Int32) &&& 31).toUInt32).toInt32))])) (fun t k => XS.sipush X0.here hx rfl (hb hby own_d_method_3_3) k) ?_
  refine own_by (V := s₁.setTop (mkF m 7 #[.val (.int p0)] [(.int (((p0.toUInt32 >>> ((2 : Int32) &&& 31).toUInt32).toInt32) &&& (255 : Int32)))])) (fun t k => XS.iand X0.here hx rfl (hb hby own_d_method_3_6) rfl k) ?_
  refine own_by (V := s₁.setTop (mkF m 8 #[.val (.int p0)] [(.int ((((p0.toUInt32 >>> ((2 : Int32) &&& 31).toUInt32).toInt32) &&& (255 : Int32)).toUInt32.toUInt16.toUInt32.toInt32))])) (fun t k => XS.i2c X0.here hx rfl (hb hby own_d_method_3_7) rfl k) ?_
  refine own_retN X0 hx hlk e0 Bd.returns (t := .char) (by simp) ((own_i2c255 _).2) (hb hby own_d_method_3_8) ?_ (by decide) (by decide)
  exact ⟨congrArg (fun z => some (Value.int z)) (show ((((p0.toUInt32 >>> ((2 : Int32) &&& 31).toUInt32).toInt32) &&& (255 : Int32)).toUInt32.toUInt16.toUInt32.toInt32) = (own_ch0 p0) from by rfl), N0, rfl⟩
def own_Q_own_rch1 (Z : State) (p0 : Int32) (h0 : Heap) (n0 : Nat) : Option Value → Heap → List Loc → Prop := fun v h L => v = some (.int (own_ch1 p0)) ∧ Fr n0 L ∧ h = h0
theorem own_ef_own_rch1 (m : MethodId) (x0 : Int32) : entryFrame m #[(.int x0)] 1 = mkF m 0 #[.val (.int x0)] [] := by first | (simp [entryFrame, mkF, argsToLocals, Value.category]; done) | rfl
set_option maxRecDepth 65536 in
set_option maxHeartbeats 40000000 in
theorem own_rch1 (l : Launch) (Z : State) (a0 : Array Value) (hw : ∀ d ∈ tables_1, d.before a0 Z = true) (ws : List Jvm.Cond) (p0 : Int32) (h0 : Heap) (n0 : Nat) :
    MetFree l (⟨"com/example/forec/forec/ConstantEqualsPinLaw", "ch1", "(I)C"⟩ : MethodName) (head1 (Jvm.Cond.code (⟨"com/example/forec/forec/ConstantEqualsPinLaw", "ch1", "(I)C"⟩ : MethodName) method_4_code 1 (some .char) :: ws) ({ frames := 0, cells := 0, slots := 0, locals := 0 } : Room)) (fun a U => a = #[(.int p0)] ∧ Z.Warmed39 U.vm ∧ U.heap = h0) (fun _ _ _ _ _ => True) (fun _ U o U' => ∃ v L, o = .returned v ∧ (own_Q_own_rch1 Z p0 h0 n0) v U'.heap L ∧ FrameEnd U o U' L ({ frames := 0, cells := 0, slots := 0, locals := 0 } : Room).cells ({ frames := 0, cells := 0, slots := 0, locals := 0 } : Room).slots) := by
  refine MetFree.of_bodySF (plainFor_of_name own_pn0) hisR ?_
  intro p e s m args below meth c s₁ Bd hml0 hP hK
  obtain ⟨rfl, hZ, hh⟩ := hP
  have hx := Bd.exec
  have hby := Bd.bytes
  have hml : c.maxLocals = 1 := hml0
  have hown : s.vm.findClass "com/example/forec/forec/ConstantEqualsPinLaw" = some m.cls := findClass_of_methodNamed Bd.named
  have hnm := (name_of_methodNamed Bd.named Bd.method).1
  have hlk : meth.locks = false := BodyLoose.notSynchronized Bd
  have X0 : Stand p l e ({ frames := 0, cells := 0, slots := 0, locals := 0 } : Room) s m #[(.int p0)] below meth c s₁ [] 0 0 := Stand.of_body Bd
  have e0 : s₁.heap = h0 := by rw [← hh, Bd.state]; rfl
  have N0 := Fr.nil n0
  show own_Ends p e below s (own_Q_own_rch1 Z p0 h0 n0) ({ frames := 0, cells := 0, slots := 0, locals := 0 } : Room).cells ({ frames := 0, cells := 0, slots := 0, locals := 0 } : Room).slots _
  refine own_by (V := s₁.setTop (mkF m 0 #[.val (.int p0)] [])) (fun t k => castTop (own_ef_own_rch1 m p0) k) ?_
  refine own_by (V := s₁.setTop (mkF m 1 #[.val (.int p0)] [(.int p0)])) (fun t k => XS.iloadN X0.here hx rfl (hb hby own_d_method_4_0) rfl  k) ?_
  refine own_by (V := s₁.setTop (mkF m 3 #[.val (.int p0)] [(.int (10 : Int32)), (.int p0)])) (fun t k => XS.bipush X0.here hx rfl (hb hby own_d_method_4_1) k) ?_
  refine own_by (V := s₁.setTop (mkF m 4 #[.val (.int p0)] [(.int ((p0.toUInt32 >>> ((10 : Int32) &&& 31).toUInt32).toInt32))])) (fun t k => XS.iushr X0.here hx rfl (hb hby own_d_method_4_3) rfl k) ?_
  refine own_by (V := s₁.setTop (mkF m 7 #[.val (.int p0)] [(.int (255 : Int32)), (.int ((p0.toUInt32 >>> ((10 : Int32) &&& 31).toUInt32).toInt32))])) (fun t k => XS.sipush X0.here hx rfl (hb hby own_d_method_4_4) k) ?_
  refine own_by (V := s₁.setTop (mkF m 8 #[.val (.int p0)] [(.int (((p0.toUInt32 >>> ((10 : Int32) &&& 31).toUInt32).toInt32) &&& (255 : Int32)))])) (fun t k => XS.iand X0.here hx rfl (hb hby own_d_method_4_7) rfl k) ?_
  refine own_by (V := s₁.setTop (mkF m 9 #[.val (.int p0)] [(.int ((((p0.toUInt32 >>> ((10 : Int32) &&& 31).toUInt32).toInt32) &&& (255 : Int32)).toUInt32.toUInt16.toUInt32.toInt32))])) (fun t k => XS.i2c X0.here hx rfl (hb hby own_d_method_4_8) rfl k) ?_
  refine own_retN X0 hx hlk e0 Bd.returns (t := .char) (by simp) ((own_i2c255 _).2) (hb hby own_d_method_4_9) ?_ (by decide) (by decide)
  exact ⟨congrArg (fun z => some (Value.int z)) (show ((((p0.toUInt32 >>> ((10 : Int32) &&& 31).toUInt32).toInt32) &&& (255 : Int32)).toUInt32.toUInt16.toUInt32.toInt32) = (own_ch1 p0) from by rfl), N0, rfl⟩
def own_Q_own_rsame (Z : State) (p0 : Int32) (p1 : Int32) (h0 : Heap) (n0 : Nat) : Option Value → Heap → List Loc → Prop := fun v h L => v = some (.int (own_same p0 p1)) ∧ Fr n0 L ∧ h = h0
theorem own_ef_own_rsame (m : MethodId) (x0 : Int32) (x1 : Int32) : entryFrame m #[(.int x0), (.int x1)] 3 = mkF m 0 #[.val (.int x0), .val (.int x1), .unset] [] := by first | (simp [entryFrame, mkF, argsToLocals, Value.category]; done) | rfl
set_option maxRecDepth 65536 in
set_option maxHeartbeats 40000000 in
theorem own_rsame (l : Launch) (Z : State) (a0 : Array Value) (hw : ∀ d ∈ tables_1, d.before a0 Z = true) (ws : List Jvm.Cond) (p0 : Int32) (p1 : Int32) (h0 : Heap) (n0 : Nat) :
    MetFree l (⟨"com/example/forec/forec/ConstantEqualsPinLaw", "same", "(II)Z"⟩ : MethodName) (head1 (Jvm.Cond.code (⟨"com/example/forec/forec/ConstantEqualsPinLaw", "same", "(II)Z"⟩ : MethodName) method_6_code 3 (some .boolean) :: ws) ({ frames := 1, cells := 0, slots := 0, locals := 13 } : Room)) (fun a U => a = #[(.int p0), (.int p1)] ∧ Z.Warmed39 U.vm ∧ U.heap = h0) (fun _ _ _ _ _ => True) (fun _ U o U' => ∃ v L, o = .returned v ∧ (own_Q_own_rsame Z p0 p1 h0 n0) v U'.heap L ∧ FrameEnd U o U' L ({ frames := 1, cells := 0, slots := 0, locals := 13 } : Room).cells ({ frames := 1, cells := 0, slots := 0, locals := 13 } : Room).slots) := by
  refine MetFree.of_bodySF (plainFor_of_name own_pn0) hisR ?_
  intro p e s m args below meth c s₁ Bd hml0 hP hK
  obtain ⟨rfl, hZ, hh⟩ := hP
  have hx := Bd.exec
  have hby := Bd.bytes
  have hml : c.maxLocals = 3 := hml0
  have hown : s.vm.findClass "com/example/forec/forec/ConstantEqualsPinLaw" = some m.cls := findClass_of_methodNamed Bd.named
  have hnm := (name_of_methodNamed Bd.named Bd.method).1
  have hlk : meth.locks = false := BodyLoose.notSynchronized Bd
  have X0 : Stand p l e ({ frames := 1, cells := 0, slots := 0, locals := 13 } : Room) s m #[(.int p0), (.int p1)] below meth c s₁ [] 0 0 := Stand.of_body Bd
  have e0 : s₁.heap = h0 := by rw [← hh, Bd.state]; rfl
  have N0 := Fr.nil n0
  show own_Ends p e below s (own_Q_own_rsame Z p0 p1 h0 n0) ({ frames := 1, cells := 0, slots := 0, locals := 13 } : Room).cells ({ frames := 1, cells := 0, slots := 0, locals := 13 } : Room).slots _
  refine own_by (V := s₁.setTop (mkF m 0 #[.val (.int p0), .val (.int p1), .unset] [])) (fun t k => castTop (own_ef_own_rsame m p0 p1) k) ?_
  refine own_by (V := s₁.setTop (mkF m 1 #[.val (.int p0), .val (.int p1), .unset] [(.int p0)])) (fun t k => XS.iloadN X0.here hx rfl (hb hby own_d_method_6_0) rfl  k) ?_
  obtain ⟨_, _, ⟨T1, Lq1, kq1, nq1⟩, -, X1, ⟨Lc1, hQ1, lq1, yq1, zq1⟩, st1⟩ := Jvm.LawKit.callS X0 hx (y := (⟨"com/example/forec/forec/ConstantEqualsPinLaw", "len", "(I)I"⟩ : MethodName)) hown (mvT hZ (hw _ (List.mem_of_getElem? (i := 7) rfl))) (mvT hZ (hw _ (List.mem_of_getElem? (i := 8) rfl))) (mvT hZ (hw _ (List.mem_of_getElem? (i := 5) rfl))) (mvT hZ (hw _ (List.mem_of_getElem? (i := 9) rfl))) (by decide) (backOf (W := 0) (own_rlen l Z a0 hw [] p0 h0 n0) hZ (hw _ (List.mem_of_getElem? (i := 9) rfl)) (hw _ (List.mem_of_getElem? (i := 5) rfl)) (by decide) (by decide)) (g := (mkF m 1 #[.val (.int p0), .val (.int p1), .unset] [(.int p0)])) rfl (by rw [hml]; rfl) (argsL := [(.int p0)]) (rest := []) (lenOf own_pd0 rfl) rfl (by show 2 * 0 + _ ≤ _; exact Nat.le_of_eq rfl) (hb hby own_d_method_6_1) (fun _ _ => ⟨rfl, e0, (by decide : 0 + 0 ≤ _), (by decide : 0 + 0 ≤ _)⟩)
  dsimp only [Pt.U, Pt.locs, Pt.cells, Pt.slots] at X1 lq1 yq1 zq1 st1 hQ1
  subst lq1 yq1 zq1
  obtain ⟨rfl, N1q, e1⟩ := hQ1
  have N1 := Fr.app N0 N1q
  refine own_by (V := T1.setTop (mkF m 4 #[.val (.int p0), .val (.int p1), .unset] [(.int (own_len p0))])) st1 ?_
  refine own_by (V := T1.setTop (mkF m 5 #[.val (.int p0), .val (.int p1), .val (.int (own_len p0))] [])) (fun t k => XS.istoreN X1.here hx rfl (hb hby own_d_method_6_4) rfl (l' := #[.val (.int p0), .val (.int p1), .val (.int (own_len p0))]) rfl k) ?_
  refine own_by (V := T1.setTop (mkF m 6 #[.val (.int p0), .val (.int p1), .val (.int (own_len p0))] [(.int (own_len p0))])) (fun t k => XS.iloadN X1.here hx rfl (hb hby own_d_method_6_5) rfl  k) ?_
  refine own_by (V := T1.setTop (mkF m 7 #[.val (.int p0), .val (.int p1), .val (.int (own_len p0))] [(.int p1), (.int (own_len p0))])) (fun t k => XS.iloadN X1.here hx rfl (hb hby own_d_method_6_6) rfl  k) ?_
  obtain ⟨_, _, ⟨T2, Lq2, kq2, nq2⟩, -, X2, ⟨Lc2, hQ2, lq2, yq2, zq2⟩, st2⟩ := Jvm.LawKit.callS X1 hx (y := (⟨"com/example/forec/forec/ConstantEqualsPinLaw", "len", "(I)I"⟩ : MethodName)) hown (mvT hZ (hw _ (List.mem_of_getElem? (i := 7) rfl))) (mvT hZ (hw _ (List.mem_of_getElem? (i := 8) rfl))) (mvT hZ (hw _ (List.mem_of_getElem? (i := 5) rfl))) (mvT hZ (hw _ (List.mem_of_getElem? (i := 9) rfl))) (by decide) (backOf (W := 1) (own_rlen l Z a0 hw [] p1 h0 n0) hZ (hw _ (List.mem_of_getElem? (i := 9) rfl)) (hw _ (List.mem_of_getElem? (i := 5) rfl)) (by decide) (by decide)) (g := (mkF m 7 #[.val (.int p0), .val (.int p1), .val (.int (own_len p0))] [(.int p1), (.int (own_len p0))])) rfl (by rw [hml]; rfl) (argsL := [(.int p1)]) (rest := [(.int (own_len p0))]) (lenOf own_pd0 rfl) rfl (by show 2 * 0 + _ ≤ _; exact Nat.le_of_eq rfl) (hb hby own_d_method_6_7) (fun _ _ => ⟨rfl, e1, (by decide : 0 + 0 ≤ _), (by decide : 0 + 0 ≤ _)⟩)
  dsimp only [Pt.U, Pt.locs, Pt.cells, Pt.slots] at X2 lq2 yq2 zq2 st2 hQ2
  subst lq2 yq2 zq2
  obtain ⟨rfl, N2q, e2⟩ := hQ2
  have N2 := Fr.app N1 N2q
  refine own_by (V := T2.setTop (mkF m 10 #[.val (.int p0), .val (.int p1), .val (.int (own_len p0))] [(.int (own_len p1)), (.int (own_len p0))])) st2 ?_
  by_cases hb10_3 : (own_len p0) = (own_len p1)
  · refine own_by (V := T2.setTop (mkF m 13 #[.val (.int p0), .val (.int p1), .val (.int (own_len p0))] [])) (fun t k => XS.icmpNo X2.here hx rfl (hb hby own_d_method_6_10) rfl (teq hb10_3).2 k) ?_
    refine own_by (V := T2.setTop (mkF m 14 #[.val (.int p0), .val (.int p1), .val (.int (own_len p0))] [(.int (own_len p0))])) (fun t k => XS.iloadN X2.here hx rfl (hb hby own_d_method_6_13) rfl  k) ?_
    refine own_by (V := T2.setTop (mkF m 15 #[.val (.int p0), .val (.int p1), .val (.int (own_len p0))] [(.int (1 : Int32)), (.int (own_len p0))])) (fun t k => XS.iconst X2.here hx rfl (hb hby own_d_method_6_14) k) ?_
    by_cases hb15_4 : (own_len p0) < (1 : Int32)
    · refine own_by (V := T2.setTop (mkF m 29 #[.val (.int p0), .val (.int p1), .val (.int (own_len p0))] [])) (fun t k => XS.icmpYes X2.here hx rfl (pc0 := 15) (pc' := 29) rfl (hb hby own_d_method_6_15) rfl (tlt hb15_4).1 (by decide) (by decide) k) ?_
      refine own_by (V := T2.setTop (mkF m 30 #[.val (.int p0), .val (.int p1), .val (.int (own_len p0))] [(.int (own_len p0))])) (fun t k => XS.iloadN X2.here hx rfl (hb hby own_d_method_6_29) rfl  k) ?_
      refine own_by (V := T2.setTop (mkF m 31 #[.val (.int p0), .val (.int p1), .val (.int (own_len p0))] [(.int (2 : Int32)), (.int (own_len p0))])) (fun t k => XS.iconst X2.here hx rfl (hb hby own_d_method_6_30) k) ?_
      by_cases hb31_5 : (own_len p0) < (2 : Int32)
      · refine own_by (V := T2.setTop (mkF m 45 #[.val (.int p0), .val (.int p1), .val (.int (own_len p0))] [])) (fun t k => XS.icmpYes X2.here hx rfl (pc0 := 31) (pc' := 45) rfl (hb hby own_d_method_6_31) rfl (tlt hb31_5).1 (by decide) (by decide) k) ?_
        refine own_by (V := T2.setTop (mkF m 46 #[.val (.int p0), .val (.int p1), .val (.int (own_len p0))] [(.int (1 : Int32))])) (fun t k => XS.iconst X2.here hx rfl (hb hby own_d_method_6_45) k) ?_
        refine own_by (V := T2.setTop (mkF m 50 #[.val (.int p0), .val (.int p1), .val (.int (own_len p0))] [(.int (1 : Int32))])) (fun t k => XS.goto X2.here hx rfl (pc0 := 46) (pc' := 50) rfl (hb hby own_d_method_6_46) (by decide) (by decide) k) ?_
        refine own_retN X2 hx hlk e2 Bd.returns (t := .boolean) (by simp) rfl (hb hby own_d_method_6_50) ?_ (by decide) (by decide)
        exact ⟨congrArg (fun z => some (Value.int z)) (show (1 : Int32) = (own_same p0 p1) from by exact (if_pos ⟨hb10_3, Or.inl hb15_4, Or.inl hb31_5⟩).symm), N2, rfl⟩
      · refine own_by (V := T2.setTop (mkF m 34 #[.val (.int p0), .val (.int p1), .val (.int (own_len p0))] [])) (fun t k => XS.icmpNo X2.here hx rfl (hb hby own_d_method_6_31) rfl (flt hb31_5).1 k) ?_
        refine own_by (V := T2.setTop (mkF m 35 #[.val (.int p0), .val (.int p1), .val (.int (own_len p0))] [(.int p0)])) (fun t k => XS.iloadN X2.here hx rfl (hb hby own_d_method_6_34) rfl  k) ?_
        obtain ⟨_, _, ⟨T6, Lq6, kq6, nq6⟩, -, X6, ⟨Lc6, hQ6, lq6, yq6, zq6⟩, st6⟩ := Jvm.LawKit.callS X2 hx (y := (⟨"com/example/forec/forec/ConstantEqualsPinLaw", "ch1", "(I)C"⟩ : MethodName)) hown (mvT hZ (hw _ (List.mem_of_getElem? (i := 50) rfl))) (mvT hZ (hw _ (List.mem_of_getElem? (i := 51) rfl))) (mvT hZ (hw _ (List.mem_of_getElem? (i := 5) rfl))) (mvT hZ (hw _ (List.mem_of_getElem? (i := 52) rfl))) (by decide) (backOf (W := 0) (own_rch1 l Z a0 hw [] p0 h0 n0) hZ (hw _ (List.mem_of_getElem? (i := 52) rfl)) (hw _ (List.mem_of_getElem? (i := 5) rfl)) (by decide) (by decide)) (g := (mkF m 35 #[.val (.int p0), .val (.int p1), .val (.int (own_len p0))] [(.int p0)])) rfl (by rw [hml]; rfl) (argsL := [(.int p0)]) (rest := []) (lenOf own_pd1 rfl) rfl (by show 2 * 0 + _ ≤ _; exact Nat.le_of_eq rfl) (hb hby own_d_method_6_35) (fun _ _ => ⟨rfl, e2, (by decide : 0 + 0 ≤ _), (by decide : 0 + 0 ≤ _)⟩)
        dsimp only [Pt.U, Pt.locs, Pt.cells, Pt.slots] at X6 lq6 yq6 zq6 st6 hQ6
        subst lq6 yq6 zq6
        obtain ⟨rfl, N6q, e6⟩ := hQ6
        have N6 := Fr.app N2 N6q
        refine own_by (V := T6.setTop (mkF m 38 #[.val (.int p0), .val (.int p1), .val (.int (own_len p0))] [(.int (own_ch1 p0))])) st6 ?_
        refine own_by (V := T6.setTop (mkF m 39 #[.val (.int p0), .val (.int p1), .val (.int (own_len p0))] [(.int p1), (.int (own_ch1 p0))])) (fun t k => XS.iloadN X6.here hx rfl (hb hby own_d_method_6_38) rfl  k) ?_
        obtain ⟨_, _, ⟨T7, Lq7, kq7, nq7⟩, -, X7, ⟨Lc7, hQ7, lq7, yq7, zq7⟩, st7⟩ := Jvm.LawKit.callS X6 hx (y := (⟨"com/example/forec/forec/ConstantEqualsPinLaw", "ch1", "(I)C"⟩ : MethodName)) hown (mvT hZ (hw _ (List.mem_of_getElem? (i := 50) rfl))) (mvT hZ (hw _ (List.mem_of_getElem? (i := 51) rfl))) (mvT hZ (hw _ (List.mem_of_getElem? (i := 5) rfl))) (mvT hZ (hw _ (List.mem_of_getElem? (i := 52) rfl))) (by decide) (backOf (W := 1) (own_rch1 l Z a0 hw [] p1 h0 n0) hZ (hw _ (List.mem_of_getElem? (i := 52) rfl)) (hw _ (List.mem_of_getElem? (i := 5) rfl)) (by decide) (by decide)) (g := (mkF m 39 #[.val (.int p0), .val (.int p1), .val (.int (own_len p0))] [(.int p1), (.int (own_ch1 p0))])) rfl (by rw [hml]; rfl) (argsL := [(.int p1)]) (rest := [(.int (own_ch1 p0))]) (lenOf own_pd1 rfl) rfl (by show 2 * 0 + _ ≤ _; exact Nat.le_of_eq rfl) (hb hby own_d_method_6_39) (fun _ _ => ⟨rfl, e6, (by decide : 0 + 0 ≤ _), (by decide : 0 + 0 ≤ _)⟩)
        dsimp only [Pt.U, Pt.locs, Pt.cells, Pt.slots] at X7 lq7 yq7 zq7 st7 hQ7
        subst lq7 yq7 zq7
        obtain ⟨rfl, N7q, e7⟩ := hQ7
        have N7 := Fr.app N6 N7q
        refine own_by (V := T7.setTop (mkF m 42 #[.val (.int p0), .val (.int p1), .val (.int (own_len p0))] [(.int (own_ch1 p1)), (.int (own_ch1 p0))])) st7 ?_
        by_cases hb42_8 : (own_ch1 p0) = (own_ch1 p1)
        · refine own_by (V := T7.setTop (mkF m 45 #[.val (.int p0), .val (.int p1), .val (.int (own_len p0))] [])) (fun t k => XS.icmpNo X7.here hx rfl (hb hby own_d_method_6_42) rfl (teq hb42_8).2 k) ?_
          refine own_by (V := T7.setTop (mkF m 46 #[.val (.int p0), .val (.int p1), .val (.int (own_len p0))] [(.int (1 : Int32))])) (fun t k => XS.iconst X7.here hx rfl (hb hby own_d_method_6_45) k) ?_
          refine own_by (V := T7.setTop (mkF m 50 #[.val (.int p0), .val (.int p1), .val (.int (own_len p0))] [(.int (1 : Int32))])) (fun t k => XS.goto X7.here hx rfl (pc0 := 46) (pc' := 50) rfl (hb hby own_d_method_6_46) (by decide) (by decide) k) ?_
          refine own_retN X7 hx hlk e7 Bd.returns (t := .boolean) (by simp) rfl (hb hby own_d_method_6_50) ?_ (by decide) (by decide)
          exact ⟨congrArg (fun z => some (Value.int z)) (show (1 : Int32) = (own_same p0 p1) from by exact (if_pos ⟨hb10_3, Or.inl hb15_4, Or.inr hb42_8⟩).symm), N7, rfl⟩
        · refine own_by (V := T7.setTop (mkF m 49 #[.val (.int p0), .val (.int p1), .val (.int (own_len p0))] [])) (fun t k => XS.icmpYes X7.here hx rfl (pc0 := 42) (pc' := 49) rfl (hb hby own_d_method_6_42) rfl (feq hb42_8).2 (by decide) (by decide) k) ?_
          refine own_by (V := T7.setTop (mkF m 50 #[.val (.int p0), .val (.int p1), .val (.int (own_len p0))] [(.int (0 : Int32))])) (fun t k => XS.iconst X7.here hx rfl (hb hby own_d_method_6_49) k) ?_
          refine own_retN X7 hx hlk e7 Bd.returns (t := .boolean) (by simp) rfl (hb hby own_d_method_6_50) ?_ (by decide) (by decide)
          exact ⟨congrArg (fun z => some (Value.int z)) (show (0 : Int32) = (own_same p0 p1) from by exact (if_neg fun q => q.2.2.elim hb31_5 hb42_8).symm), N7, rfl⟩
    · refine own_by (V := T2.setTop (mkF m 18 #[.val (.int p0), .val (.int p1), .val (.int (own_len p0))] [])) (fun t k => XS.icmpNo X2.here hx rfl (hb hby own_d_method_6_15) rfl (flt hb15_4).1 k) ?_
      refine own_by (V := T2.setTop (mkF m 19 #[.val (.int p0), .val (.int p1), .val (.int (own_len p0))] [(.int p0)])) (fun t k => XS.iloadN X2.here hx rfl (hb hby own_d_method_6_18) rfl  k) ?_
      obtain ⟨_, _, ⟨T9, Lq9, kq9, nq9⟩, -, X9, ⟨Lc9, hQ9, lq9, yq9, zq9⟩, st9⟩ := Jvm.LawKit.callS X2 hx (y := (⟨"com/example/forec/forec/ConstantEqualsPinLaw", "ch0", "(I)C"⟩ : MethodName)) hown (mvT hZ (hw _ (List.mem_of_getElem? (i := 47) rfl))) (mvT hZ (hw _ (List.mem_of_getElem? (i := 48) rfl))) (mvT hZ (hw _ (List.mem_of_getElem? (i := 5) rfl))) (mvT hZ (hw _ (List.mem_of_getElem? (i := 49) rfl))) (by decide) (backOf (W := 0) (own_rch0 l Z a0 hw [] p0 h0 n0) hZ (hw _ (List.mem_of_getElem? (i := 49) rfl)) (hw _ (List.mem_of_getElem? (i := 5) rfl)) (by decide) (by decide)) (g := (mkF m 19 #[.val (.int p0), .val (.int p1), .val (.int (own_len p0))] [(.int p0)])) rfl (by rw [hml]; rfl) (argsL := [(.int p0)]) (rest := []) (lenOf own_pd1 rfl) rfl (by show 2 * 0 + _ ≤ _; exact Nat.le_of_eq rfl) (hb hby own_d_method_6_19) (fun _ _ => ⟨rfl, e2, (by decide : 0 + 0 ≤ _), (by decide : 0 + 0 ≤ _)⟩)
      dsimp only [Pt.U, Pt.locs, Pt.cells, Pt.slots] at X9 lq9 yq9 zq9 st9 hQ9
      subst lq9 yq9 zq9
      obtain ⟨rfl, N9q, e9⟩ := hQ9
      have N9 := Fr.app N2 N9q
      refine own_by (V := T9.setTop (mkF m 22 #[.val (.int p0), .val (.int p1), .val (.int (own_len p0))] [(.int (own_ch0 p0))])) st9 ?_
      refine own_by (V := T9.setTop (mkF m 23 #[.val (.int p0), .val (.int p1), .val (.int (own_len p0))] [(.int p1), (.int (own_ch0 p0))])) (fun t k => XS.iloadN X9.here hx rfl (hb hby own_d_method_6_22) rfl  k) ?_
      obtain ⟨_, _, ⟨T10, Lq10, kq10, nq10⟩, -, X10, ⟨Lc10, hQ10, lq10, yq10, zq10⟩, st10⟩ := Jvm.LawKit.callS X9 hx (y := (⟨"com/example/forec/forec/ConstantEqualsPinLaw", "ch0", "(I)C"⟩ : MethodName)) hown (mvT hZ (hw _ (List.mem_of_getElem? (i := 47) rfl))) (mvT hZ (hw _ (List.mem_of_getElem? (i := 48) rfl))) (mvT hZ (hw _ (List.mem_of_getElem? (i := 5) rfl))) (mvT hZ (hw _ (List.mem_of_getElem? (i := 49) rfl))) (by decide) (backOf (W := 1) (own_rch0 l Z a0 hw [] p1 h0 n0) hZ (hw _ (List.mem_of_getElem? (i := 49) rfl)) (hw _ (List.mem_of_getElem? (i := 5) rfl)) (by decide) (by decide)) (g := (mkF m 23 #[.val (.int p0), .val (.int p1), .val (.int (own_len p0))] [(.int p1), (.int (own_ch0 p0))])) rfl (by rw [hml]; rfl) (argsL := [(.int p1)]) (rest := [(.int (own_ch0 p0))]) (lenOf own_pd1 rfl) rfl (by show 2 * 0 + _ ≤ _; exact Nat.le_of_eq rfl) (hb hby own_d_method_6_23) (fun _ _ => ⟨rfl, e9, (by decide : 0 + 0 ≤ _), (by decide : 0 + 0 ≤ _)⟩)
      dsimp only [Pt.U, Pt.locs, Pt.cells, Pt.slots] at X10 lq10 yq10 zq10 st10 hQ10
      subst lq10 yq10 zq10
      obtain ⟨rfl, N10q, e10⟩ := hQ10
      have N10 := Fr.app N9 N10q
      refine own_by (V := T10.setTop (mkF m 26 #[.val (.int p0), .val (.int p1), .val (.int (own_len p0))] [(.int (own_ch0 p1)), (.int (own_ch0 p0))])) st10 ?_
      by_cases hb26_11 : (own_ch0 p0) = (own_ch0 p1)
      · refine own_by (V := T10.setTop (mkF m 29 #[.val (.int p0), .val (.int p1), .val (.int (own_len p0))] [])) (fun t k => XS.icmpNo X10.here hx rfl (hb hby own_d_method_6_26) rfl (teq hb26_11).2 k) ?_
        refine own_by (V := T10.setTop (mkF m 30 #[.val (.int p0), .val (.int p1), .val (.int (own_len p0))] [(.int (own_len p0))])) (fun t k => XS.iloadN X10.here hx rfl (hb hby own_d_method_6_29) rfl  k) ?_
        refine own_by (V := T10.setTop (mkF m 31 #[.val (.int p0), .val (.int p1), .val (.int (own_len p0))] [(.int (2 : Int32)), (.int (own_len p0))])) (fun t k => XS.iconst X10.here hx rfl (hb hby own_d_method_6_30) k) ?_
        by_cases hb31_12 : (own_len p0) < (2 : Int32)
        · refine own_by (V := T10.setTop (mkF m 45 #[.val (.int p0), .val (.int p1), .val (.int (own_len p0))] [])) (fun t k => XS.icmpYes X10.here hx rfl (pc0 := 31) (pc' := 45) rfl (hb hby own_d_method_6_31) rfl (tlt hb31_12).1 (by decide) (by decide) k) ?_
          refine own_by (V := T10.setTop (mkF m 46 #[.val (.int p0), .val (.int p1), .val (.int (own_len p0))] [(.int (1 : Int32))])) (fun t k => XS.iconst X10.here hx rfl (hb hby own_d_method_6_45) k) ?_
          refine own_by (V := T10.setTop (mkF m 50 #[.val (.int p0), .val (.int p1), .val (.int (own_len p0))] [(.int (1 : Int32))])) (fun t k => XS.goto X10.here hx rfl (pc0 := 46) (pc' := 50) rfl (hb hby own_d_method_6_46) (by decide) (by decide) k) ?_
          refine own_retN X10 hx hlk e10 Bd.returns (t := .boolean) (by simp) rfl (hb hby own_d_method_6_50) ?_ (by decide) (by decide)
          exact ⟨congrArg (fun z => some (Value.int z)) (show (1 : Int32) = (own_same p0 p1) from by exact (if_pos ⟨hb10_3, Or.inr hb26_11, Or.inl hb31_12⟩).symm), N10, rfl⟩
        · refine own_by (V := T10.setTop (mkF m 34 #[.val (.int p0), .val (.int p1), .val (.int (own_len p0))] [])) (fun t k => XS.icmpNo X10.here hx rfl (hb hby own_d_method_6_31) rfl (flt hb31_12).1 k) ?_
          refine own_by (V := T10.setTop (mkF m 35 #[.val (.int p0), .val (.int p1), .val (.int (own_len p0))] [(.int p0)])) (fun t k => XS.iloadN X10.here hx rfl (hb hby own_d_method_6_34) rfl  k) ?_
          obtain ⟨_, _, ⟨T13, Lq13, kq13, nq13⟩, -, X13, ⟨Lc13, hQ13, lq13, yq13, zq13⟩, st13⟩ := Jvm.LawKit.callS X10 hx (y := (⟨"com/example/forec/forec/ConstantEqualsPinLaw", "ch1", "(I)C"⟩ : MethodName)) hown (mvT hZ (hw _ (List.mem_of_getElem? (i := 50) rfl))) (mvT hZ (hw _ (List.mem_of_getElem? (i := 51) rfl))) (mvT hZ (hw _ (List.mem_of_getElem? (i := 5) rfl))) (mvT hZ (hw _ (List.mem_of_getElem? (i := 52) rfl))) (by decide) (backOf (W := 0) (own_rch1 l Z a0 hw [] p0 h0 n0) hZ (hw _ (List.mem_of_getElem? (i := 52) rfl)) (hw _ (List.mem_of_getElem? (i := 5) rfl)) (by decide) (by decide)) (g := (mkF m 35 #[.val (.int p0), .val (.int p1), .val (.int (own_len p0))] [(.int p0)])) rfl (by rw [hml]; rfl) (argsL := [(.int p0)]) (rest := []) (lenOf own_pd1 rfl) rfl (by show 2 * 0 + _ ≤ _; exact Nat.le_of_eq rfl) (hb hby own_d_method_6_35) (fun _ _ => ⟨rfl, e10, (by decide : 0 + 0 ≤ _), (by decide : 0 + 0 ≤ _)⟩)
          dsimp only [Pt.U, Pt.locs, Pt.cells, Pt.slots] at X13 lq13 yq13 zq13 st13 hQ13
          subst lq13 yq13 zq13
          obtain ⟨rfl, N13q, e13⟩ := hQ13
          have N13 := Fr.app N10 N13q
          refine own_by (V := T13.setTop (mkF m 38 #[.val (.int p0), .val (.int p1), .val (.int (own_len p0))] [(.int (own_ch1 p0))])) st13 ?_
          refine own_by (V := T13.setTop (mkF m 39 #[.val (.int p0), .val (.int p1), .val (.int (own_len p0))] [(.int p1), (.int (own_ch1 p0))])) (fun t k => XS.iloadN X13.here hx rfl (hb hby own_d_method_6_38) rfl  k) ?_
          obtain ⟨_, _, ⟨T14, Lq14, kq14, nq14⟩, -, X14, ⟨Lc14, hQ14, lq14, yq14, zq14⟩, st14⟩ := Jvm.LawKit.callS X13 hx (y := (⟨"com/example/forec/forec/ConstantEqualsPinLaw", "ch1", "(I)C"⟩ : MethodName)) hown (mvT hZ (hw _ (List.mem_of_getElem? (i := 50) rfl))) (mvT hZ (hw _ (List.mem_of_getElem? (i := 51) rfl))) (mvT hZ (hw _ (List.mem_of_getElem? (i := 5) rfl))) (mvT hZ (hw _ (List.mem_of_getElem? (i := 52) rfl))) (by decide) (backOf (W := 1) (own_rch1 l Z a0 hw [] p1 h0 n0) hZ (hw _ (List.mem_of_getElem? (i := 52) rfl)) (hw _ (List.mem_of_getElem? (i := 5) rfl)) (by decide) (by decide)) (g := (mkF m 39 #[.val (.int p0), .val (.int p1), .val (.int (own_len p0))] [(.int p1), (.int (own_ch1 p0))])) rfl (by rw [hml]; rfl) (argsL := [(.int p1)]) (rest := [(.int (own_ch1 p0))]) (lenOf own_pd1 rfl) rfl (by show 2 * 0 + _ ≤ _; exact Nat.le_of_eq rfl) (hb hby own_d_method_6_39) (fun _ _ => ⟨rfl, e13, (by decide : 0 + 0 ≤ _), (by decide : 0 + 0 ≤ _)⟩)
          dsimp only [Pt.U, Pt.locs, Pt.cells, Pt.slots] at X14 lq14 yq14 zq14 st14 hQ14
          subst lq14 yq14 zq14
          obtain ⟨rfl, N14q, e14⟩ := hQ14
          have N14 := Fr.app N13 N14q
          refine own_by (V := T14.setTop (mkF m 42 #[.val (.int p0), .val (.int p1), .val (.int (own_len p0))] [(.int (own_ch1 p1)), (.int (own_ch1 p0))])) st14 ?_
          by_cases hb42_15 : (own_ch1 p0) = (own_ch1 p1)
          · refine own_by (V := T14.setTop (mkF m 45 #[.val (.int p0), .val (.int p1), .val (.int (own_len p0))] [])) (fun t k => XS.icmpNo X14.here hx rfl (hb hby own_d_method_6_42) rfl (teq hb42_15).2 k) ?_
            refine own_by (V := T14.setTop (mkF m 46 #[.val (.int p0), .val (.int p1), .val (.int (own_len p0))] [(.int (1 : Int32))])) (fun t k => XS.iconst X14.here hx rfl (hb hby own_d_method_6_45) k) ?_
            refine own_by (V := T14.setTop (mkF m 50 #[.val (.int p0), .val (.int p1), .val (.int (own_len p0))] [(.int (1 : Int32))])) (fun t k => XS.goto X14.here hx rfl (pc0 := 46) (pc' := 50) rfl (hb hby own_d_method_6_46) (by decide) (by decide) k) ?_
            refine own_retN X14 hx hlk e14 Bd.returns (t := .boolean) (by simp) rfl (hb hby own_d_method_6_50) ?_ (by decide) (by decide)
            exact ⟨congrArg (fun z => some (Value.int z)) (show (1 : Int32) = (own_same p0 p1) from by exact (if_pos ⟨hb10_3, Or.inr hb26_11, Or.inr hb42_15⟩).symm), N14, rfl⟩
          · refine own_by (V := T14.setTop (mkF m 49 #[.val (.int p0), .val (.int p1), .val (.int (own_len p0))] [])) (fun t k => XS.icmpYes X14.here hx rfl (pc0 := 42) (pc' := 49) rfl (hb hby own_d_method_6_42) rfl (feq hb42_15).2 (by decide) (by decide) k) ?_
            refine own_by (V := T14.setTop (mkF m 50 #[.val (.int p0), .val (.int p1), .val (.int (own_len p0))] [(.int (0 : Int32))])) (fun t k => XS.iconst X14.here hx rfl (hb hby own_d_method_6_49) k) ?_
            refine own_retN X14 hx hlk e14 Bd.returns (t := .boolean) (by simp) rfl (hb hby own_d_method_6_50) ?_ (by decide) (by decide)
            exact ⟨congrArg (fun z => some (Value.int z)) (show (0 : Int32) = (own_same p0 p1) from by exact (if_neg fun q => q.2.2.elim hb31_12 hb42_15).symm), N14, rfl⟩
      · refine own_by (V := T10.setTop (mkF m 49 #[.val (.int p0), .val (.int p1), .val (.int (own_len p0))] [])) (fun t k => XS.icmpYes X10.here hx rfl (pc0 := 26) (pc' := 49) rfl (hb hby own_d_method_6_26) rfl (feq hb26_11).2 (by decide) (by decide) k) ?_
        refine own_by (V := T10.setTop (mkF m 50 #[.val (.int p0), .val (.int p1), .val (.int (own_len p0))] [(.int (0 : Int32))])) (fun t k => XS.iconst X10.here hx rfl (hb hby own_d_method_6_49) k) ?_
        refine own_retN X10 hx hlk e10 Bd.returns (t := .boolean) (by simp) rfl (hb hby own_d_method_6_50) ?_ (by decide) (by decide)
        exact ⟨congrArg (fun z => some (Value.int z)) (show (0 : Int32) = (own_same p0 p1) from by exact (if_neg fun q => q.2.1.elim hb15_4 hb26_11).symm), N10, rfl⟩
  · refine own_by (V := T2.setTop (mkF m 49 #[.val (.int p0), .val (.int p1), .val (.int (own_len p0))] [])) (fun t k => XS.icmpYes X2.here hx rfl (pc0 := 10) (pc' := 49) rfl (hb hby own_d_method_6_10) rfl (feq hb10_3).2 (by decide) (by decide) k) ?_
    refine own_by (V := T2.setTop (mkF m 50 #[.val (.int p0), .val (.int p1), .val (.int (own_len p0))] [(.int (0 : Int32))])) (fun t k => XS.iconst X2.here hx rfl (hb hby own_d_method_6_49) k) ?_
    refine own_retN X2 hx hlk e2 Bd.returns (t := .boolean) (by simp) rfl (hb hby own_d_method_6_50) ?_ (by decide) (by decide)
    exact ⟨congrArg (fun z => some (Value.int z)) (show (0 : Int32) = (own_same p0 p1) from by exact (if_neg fun q => hb10_3 q.1).symm), N2, rfl⟩
def own_Q_own_cmp1_1 (Z : State) (o0 : Addr) (o2 : Addr) (kc : ClassId) (kb : ClassId) (x0 : Int32) (h0 : Heap) (n0 : Nat) : Option Value → Heap → List Loc → Prop := fun v h L => v = some (.int (1 : Int32)) ∧ Fr n0 L ∧ Keep h0 h [o2] ∧ Arv Z h o2 kb .byte (1 : Int32) [(.int (nar .byte (x0.toInt8.toInt32)))] (.int (0 : Int32))
theorem own_ef_own_cmp1_1 (m : MethodId) (x0 : Addr) (x2 : Addr) : entryFrame m #[(.ref x0), (.int (0 : Int32)), (.ref x2), (.int (0 : Int32)), (.int (1 : Int32))] 7 = mkF m 0 #[.val (.ref x0), .val (.int (0 : Int32)), .val (.ref x2), .val (.int (0 : Int32)), .val (.int (1 : Int32)), .unset, .unset] [] := by first | (simp [entryFrame, mkF, argsToLocals, Value.category]; done) | rfl
set_option maxRecDepth 65536 in
set_option maxHeartbeats 40000000 in
theorem own_cmp1_1 (l : Launch) (Z : State) (a0 : Array Value) (hw : ∀ d ∈ tables_1, d.before a0 Z = true) (ws : List Jvm.Cond) (o0 : Addr) (o2 : Addr) (kc : ClassId) (kb : ClassId) (x0 : Int32) (h0 : Heap) (n0 : Nat) (Z0 : n0 ≤ h0.size) (A0 : Arv Z h0 o0 kc .char (1 : Int32) [(.int x0)] (.int (0 : Int32))) (A2 : Arv Z h0 o2 kb .byte (1 : Int32) [(.int (0 : Int32))] (.int (0 : Int32))) (hne : o0 ≠ o2) (g2 : n0 ≤ o2) (hp0 : ¬ (255 : Int32) < x0) :
    MetFree l (⟨"java/lang/StringUTF16", "compress", "([CI[BII)I"⟩ : MethodName) (head1 (Jvm.Cond.code (⟨"java/lang/StringUTF16", "compress", "([CI[BII)I"⟩ : MethodName) jdk_52_method_21_code 7 (some .int) :: ws) ({ frames := 0, cells := 0, slots := 0, locals := 0 } : Room)) (fun a U => a = #[(.ref o0), (.int (0 : Int32)), (.ref o2), (.int (0 : Int32)), (.int (1 : Int32))] ∧ Z.Warmed39 U.vm ∧ U.heap = h0) (fun _ _ _ _ _ => True) (fun _ U o U' => ∃ v L, o = .returned v ∧ (own_Q_own_cmp1_1 Z o0 o2 kc kb x0 h0 n0) v U'.heap L ∧ FrameEnd U o U' L ({ frames := 0, cells := 0, slots := 0, locals := 0 } : Room).cells ({ frames := 0, cells := 0, slots := 0, locals := 0 } : Room).slots) := by
  refine MetFree.of_bodySF (plainFor_of_name own_pn1) hisR ?_
  intro p e s m args below meth c s₁ Bd hml0 hP hK
  obtain ⟨rfl, hZ, hh⟩ := hP
  have hx := Bd.exec
  have hby := Bd.bytes
  have hml : c.maxLocals = 7 := hml0
  have hown : s.vm.findClass "java/lang/StringUTF16" = some m.cls := findClass_of_methodNamed Bd.named
  have hnm := (name_of_methodNamed Bd.named Bd.method).1
  have hlk : meth.locks = false := BodyLoose.notSynchronized Bd
  have X0 : Stand p l e ({ frames := 0, cells := 0, slots := 0, locals := 0 } : Room) s m #[(.ref o0), (.int (0 : Int32)), (.ref o2), (.int (0 : Int32)), (.int (1 : Int32))] below meth c s₁ [] 0 0 := Stand.of_body Bd
  have e0 : s₁.heap = h0 := by rw [← hh, Bd.state]; rfl
  have N0 := Fr.nil n0
  show own_Ends p e below s (own_Q_own_cmp1_1 Z o0 o2 kc kb x0 h0 n0) ({ frames := 0, cells := 0, slots := 0, locals := 0 } : Room).cells ({ frames := 0, cells := 0, slots := 0, locals := 0 } : Room).slots _
  refine own_by (V := s₁.setTop (mkF m 0 #[.val (.ref o0), .val (.int (0 : Int32)), .val (.ref o2), .val (.int (0 : Int32)), .val (.int (1 : Int32)), .unset, .unset] [])) (fun t k => castTop (own_ef_own_cmp1_1 m o0 o2) k) ?_
  refine own_by (V := s₁.setTop (mkF m 1 #[.val (.ref o0), .val (.int (0 : Int32)), .val (.ref o2), .val (.int (0 : Int32)), .val (.int (1 : Int32)), .unset, .unset] [(.int (0 : Int32))])) (fun t k => XS.iconst X0.here hx rfl (hb hby own_d_jdk_52_21_0) k) ?_
  refine own_by (V := s₁.setTop (mkF m 3 #[.val (.ref o0), .val (.int (0 : Int32)), .val (.ref o2), .val (.int (0 : Int32)), .val (.int (1 : Int32)), .val (.int (0 : Int32)), .unset] [])) (fun t k => XS.istore X0.here hx rfl (hb hby own_d_jdk_52_21_1) rfl (l' := #[.val (.ref o0), .val (.int (0 : Int32)), .val (.ref o2), .val (.int (0 : Int32)), .val (.int (1 : Int32)), .val (.int (0 : Int32)), .unset]) rfl k) ?_
  refine own_by (V := s₁.setTop (mkF m 5 #[.val (.ref o0), .val (.int (0 : Int32)), .val (.ref o2), .val (.int (0 : Int32)), .val (.int (1 : Int32)), .val (.int (0 : Int32)), .unset] [(.int (0 : Int32))])) (fun t k => XS.iload X0.here hx rfl (hb hby own_d_jdk_52_21_3) rfl  k) ?_
  refine own_by (V := s₁.setTop (mkF m 7 #[.val (.ref o0), .val (.int (0 : Int32)), .val (.ref o2), .val (.int (0 : Int32)), .val (.int (1 : Int32)), .val (.int (0 : Int32)), .unset] [(.int (1 : Int32)), (.int (0 : Int32))])) (fun t k => XS.iload X0.here hx rfl (hb hby own_d_jdk_52_21_5) rfl  k) ?_
  have hb7_1 : ((0 : Int32) < (1 : Int32)) := by decide
  refine own_by (V := s₁.setTop (mkF m 10 #[.val (.ref o0), .val (.int (0 : Int32)), .val (.ref o2), .val (.int (0 : Int32)), .val (.int (1 : Int32)), .val (.int (0 : Int32)), .unset] [])) (fun t k => XS.icmpNo X0.here hx rfl (hb hby own_d_jdk_52_21_7) rfl (tlt hb7_1).2.1 k) ?_
  refine own_by (V := s₁.setTop (mkF m 11 #[.val (.ref o0), .val (.int (0 : Int32)), .val (.ref o2), .val (.int (0 : Int32)), .val (.int (1 : Int32)), .val (.int (0 : Int32)), .unset] [(.ref o0)])) (fun t k => XS.aloadN X0.here hx rfl (hb hby own_d_jdk_52_21_10) rfl rfl k) ?_
  refine own_by (V := s₁.setTop (mkF m 12 #[.val (.ref o0), .val (.int (0 : Int32)), .val (.ref o2), .val (.int (0 : Int32)), .val (.int (1 : Int32)), .val (.int (0 : Int32)), .unset] [(.int (0 : Int32)), (.ref o0)])) (fun t k => XS.iloadN X0.here hx rfl (hb hby own_d_jdk_52_21_11) rfl  k) ?_
  obtain ⟨cl2, Ar2, qa2, Sa2, Ma2, Ha2, Ua2⟩ := id A0
  have hi2 := inb_of Sa2 (j := (0 : Int32)) ⟨(by decide), (by decide)⟩
  refine own_by (V := s₁.setTop (mkF m 13 #[.val (.ref o0), .val (.int (0 : Int32)), .val (.ref o2), .val (.int (0 : Int32)), .val (.int (1 : Int32)), .val (.int (0 : Int32)), .unset] [(.int x0)])) (X0.caload hx (j := (0 : Int32)) (v := (.int x0)) (by rw [e0]; exact Ar2.1) (State.isArrayOf_alike hZ.alike Ar2.2.1) Ar2.2.2 hi2 (Has.at Ha2 hi2 rfl) (g := (mkF m 12 #[.val (.ref o0), .val (.int (0 : Int32)), .val (.ref o2), .val (.int (0 : Int32)), .val (.int (1 : Int32)), .val (.int (0 : Int32)), .unset] [(.int (0 : Int32)), (.ref o0)])) rfl rfl (hb hby own_d_jdk_52_21_12)) ?_
  refine own_by (V := s₁.setTop (mkF m 15 #[.val (.ref o0), .val (.int (0 : Int32)), .val (.ref o2), .val (.int (0 : Int32)), .val (.int (1 : Int32)), .val (.int (0 : Int32)), .val (.int x0)] [])) (fun t k => XS.istore X0.here hx rfl (hb hby own_d_jdk_52_21_13) rfl (l' := #[.val (.ref o0), .val (.int (0 : Int32)), .val (.ref o2), .val (.int (0 : Int32)), .val (.int (1 : Int32)), .val (.int (0 : Int32)), .val (.int x0)]) rfl k) ?_
  refine own_by (V := s₁.setTop (mkF m 17 #[.val (.ref o0), .val (.int (0 : Int32)), .val (.ref o2), .val (.int (0 : Int32)), .val (.int (1 : Int32)), .val (.int (0 : Int32)), .val (.int x0)] [(.int x0)])) (fun t k => XS.iload X0.here hx rfl (hb hby own_d_jdk_52_21_15) rfl  k) ?_
  refine own_by (V := s₁.setTop (mkF m 20 #[.val (.ref o0), .val (.int (0 : Int32)), .val (.ref o2), .val (.int (0 : Int32)), .val (.int (1 : Int32)), .val (.int (0 : Int32)), .val (.int x0)] [(.int (255 : Int32)), (.int x0)])) (fun t k => XS.sipush X0.here hx rfl (hb hby own_d_jdk_52_21_17) k) ?_
  have hb20_3 : ¬ ((255 : Int32) < x0) := hp0
  refine own_by (V := s₁.setTop (mkF m 26 #[.val (.ref o0), .val (.int (0 : Int32)), .val (.ref o2), .val (.int (0 : Int32)), .val (.int (1 : Int32)), .val (.int (0 : Int32)), .val (.int x0)] [])) (fun t k => XS.icmpYes X0.here hx rfl (pc0 := 20) (pc' := 26) rfl (hb hby own_d_jdk_52_21_20) rfl (flt hb20_3).2.2.2 (by decide) (by decide) k) ?_
  refine own_by (V := s₁.setTop (mkF m 27 #[.val (.ref o0), .val (.int (0 : Int32)), .val (.ref o2), .val (.int (0 : Int32)), .val (.int (1 : Int32)), .val (.int (0 : Int32)), .val (.int x0)] [(.ref o2)])) (fun t k => XS.aloadN X0.here hx rfl (hb hby own_d_jdk_52_21_26) rfl rfl k) ?_
  refine own_by (V := s₁.setTop (mkF m 28 #[.val (.ref o0), .val (.int (0 : Int32)), .val (.ref o2), .val (.int (0 : Int32)), .val (.int (1 : Int32)), .val (.int (0 : Int32)), .val (.int x0)] [(.int (0 : Int32)), (.ref o2)])) (fun t k => XS.iloadN X0.here hx rfl (hb hby own_d_jdk_52_21_27) rfl  k) ?_
  refine own_by (V := s₁.setTop (mkF m 30 #[.val (.ref o0), .val (.int (0 : Int32)), .val (.ref o2), .val (.int (0 : Int32)), .val (.int (1 : Int32)), .val (.int (0 : Int32)), .val (.int x0)] [(.int x0), (.int (0 : Int32)), (.ref o2)])) (fun t k => XS.iload X0.here hx rfl (hb hby own_d_jdk_52_21_28) rfl  k) ?_
  refine own_by (V := s₁.setTop (mkF m 31 #[.val (.ref o0), .val (.int (0 : Int32)), .val (.ref o2), .val (.int (0 : Int32)), .val (.int (1 : Int32)), .val (.int (0 : Int32)), .val (.int x0)] [(.int (x0.toInt8.toInt32)), (.int (0 : Int32)), (.ref o2)])) (fun t k => XS.i2b X0.here hx rfl (hb hby own_d_jdk_52_21_30) rfl k) ?_
  obtain ⟨cl4, Ar4, qa4, Sa4, Ma4, Ha4, Ua4⟩ := id A2
  obtain ⟨T5, h5, X5, e5, W5, st5⟩ := stB X0 hx hZ e0 Ar4 (j := (0 : Int32)) (inb_of Sa4 ⟨(by decide), (by decide)⟩) (g := (mkF m 31 #[.val (.ref o0), .val (.int (0 : Int32)), .val (.ref o2), .val (.int (0 : Int32)), .val (.int (1 : Int32)), .val (.int (0 : Int32)), .val (.int x0)] [(.int (x0.toInt8.toInt32)), (.int (0 : Int32)), (.ref o2)])) rfl rfl (hb hby own_d_jdk_52_21_31)
  have N5 := Fr.snoc X5 N0 g2
  have K5 := (Keep.refl h0 [o2]).wr W5 (Or.inl (List.mem_of_getElem? (i := 0) rfl))
  have Zs5 : n0 ≤ h5.size := by rw [W5.size]; exact Z0
  have f6 := A0.other W5 hne
  have V5 : Arv Z h5 o2 kb .byte (1 : Int32) [(.int (nar .byte (x0.toInt8.toInt32)))] (.int (0 : Int32)) := Arv.set Ar4 qa4 Sa4 Ma4 Ha4 Ua4 (fits_nar_byte _) W5 0 (by decide) (by simp)
  refine own_by (V := T5.setTop (mkF m 32 #[.val (.ref o0), .val (.int (0 : Int32)), .val (.ref o2), .val (.int (0 : Int32)), .val (.int (1 : Int32)), .val (.int (0 : Int32)), .val (.int x0)] [])) st5 ?_
  refine own_by (V := T5.setTop (mkF m 35 #[.val (.ref o0), .val (.int (1 : Int32)), .val (.ref o2), .val (.int (0 : Int32)), .val (.int (1 : Int32)), .val (.int (0 : Int32)), .val (.int x0)] [])) (fun t k => XS.iinc X5.here hx rfl (hb hby own_d_jdk_52_21_32) rfl (l' := #[.val (.ref o0), .val (.int (1 : Int32)), .val (.ref o2), .val (.int (0 : Int32)), .val (.int (1 : Int32)), .val (.int (0 : Int32)), .val (.int x0)]) rfl k) ?_
  refine own_by (V := T5.setTop (mkF m 38 #[.val (.ref o0), .val (.int (1 : Int32)), .val (.ref o2), .val (.int (1 : Int32)), .val (.int (1 : Int32)), .val (.int (0 : Int32)), .val (.int x0)] [])) (fun t k => XS.iinc X5.here hx rfl (hb hby own_d_jdk_52_21_35) rfl (l' := #[.val (.ref o0), .val (.int (1 : Int32)), .val (.ref o2), .val (.int (1 : Int32)), .val (.int (1 : Int32)), .val (.int (0 : Int32)), .val (.int x0)]) rfl k) ?_
  refine own_by (V := T5.setTop (mkF m 41 #[.val (.ref o0), .val (.int (1 : Int32)), .val (.ref o2), .val (.int (1 : Int32)), .val (.int (1 : Int32)), .val (.int (1 : Int32)), .val (.int x0)] [])) (fun t k => XS.iinc X5.here hx rfl (hb hby own_d_jdk_52_21_38) rfl (l' := #[.val (.ref o0), .val (.int (1 : Int32)), .val (.ref o2), .val (.int (1 : Int32)), .val (.int (1 : Int32)), .val (.int (1 : Int32)), .val (.int x0)]) rfl k) ?_
  refine own_by (V := T5.setTop (mkF m 3 #[.val (.ref o0), .val (.int (1 : Int32)), .val (.ref o2), .val (.int (1 : Int32)), .val (.int (1 : Int32)), .val (.int (1 : Int32)), .val (.int x0)] [])) (fun t k => XS.goto X5.here hx rfl (pc0 := 41) (pc' := 3) rfl (hb hby own_d_jdk_52_21_41) (by decide) (by decide) k) ?_
  refine own_by (V := T5.setTop (mkF m 5 #[.val (.ref o0), .val (.int (1 : Int32)), .val (.ref o2), .val (.int (1 : Int32)), .val (.int (1 : Int32)), .val (.int (1 : Int32)), .val (.int x0)] [(.int (1 : Int32))])) (fun t k => XS.iload X5.here hx rfl (hb hby own_d_jdk_52_21_3) rfl  k) ?_
  refine own_by (V := T5.setTop (mkF m 7 #[.val (.ref o0), .val (.int (1 : Int32)), .val (.ref o2), .val (.int (1 : Int32)), .val (.int (1 : Int32)), .val (.int (1 : Int32)), .val (.int x0)] [(.int (1 : Int32)), (.int (1 : Int32))])) (fun t k => XS.iload X5.here hx rfl (hb hby own_d_jdk_52_21_5) rfl  k) ?_
  have hb7_7 : ¬ ((1 : Int32) < (1 : Int32)) := by decide
  refine own_by (V := T5.setTop (mkF m 44 #[.val (.ref o0), .val (.int (1 : Int32)), .val (.ref o2), .val (.int (1 : Int32)), .val (.int (1 : Int32)), .val (.int (1 : Int32)), .val (.int x0)] [])) (fun t k => XS.icmpYes X5.here hx rfl (pc0 := 7) (pc' := 44) rfl (hb hby own_d_jdk_52_21_7) rfl (flt hb7_7).2.1 (by decide) (by decide) k) ?_
  refine own_by (V := T5.setTop (mkF m 46 #[.val (.ref o0), .val (.int (1 : Int32)), .val (.ref o2), .val (.int (1 : Int32)), .val (.int (1 : Int32)), .val (.int (1 : Int32)), .val (.int x0)] [(.int (1 : Int32))])) (fun t k => XS.iload X5.here hx rfl (hb hby own_d_jdk_52_21_44) rfl  k) ?_
  refine own_retI X5 hx hlk e5 Bd.returns (hb hby own_d_jdk_52_21_46) ?_ (by decide) (by decide)
  exact ⟨rfl, N5, K5, V5⟩
def own_Q_own_cmp2_1 (Z : State) (o0 : Addr) (kc : ClassId) (x0 : Int32) (h0 : Heap) (n0 : Nat) : Option Value → Heap → List Loc → Prop := fun v h L => ∃ (b : Addr) (kb : ClassId), v = some (.ref b) ∧ Fr n0 L ∧ Keep h0 h [] ∧ h0.size ≤ b ∧ Arv Z h b kb .byte (1 : Int32) [(.int (nar .byte (x0.toInt8.toInt32)))] (.int (0 : Int32))
theorem own_ef_own_cmp2_1 (m : MethodId) (x0 : Addr) : entryFrame m #[(.ref x0), (.int (0 : Int32)), (.int (1 : Int32))] 6 = mkF m 0 #[.val (.ref x0), .val (.int (0 : Int32)), .val (.int (1 : Int32)), .unset, .unset, .unset] [] := by first | (simp [entryFrame, mkF, argsToLocals, Value.category]; done) | rfl
set_option maxRecDepth 65536 in
set_option maxHeartbeats 40000000 in
theorem own_cmp2_1 (l : Launch) (Z : State) (a0 : Array Value) (hw : ∀ d ∈ tables_1, d.before a0 Z = true) (ws : List Jvm.Cond) (o0 : Addr) (kc : ClassId) (x0 : Int32) (h0 : Heap) (n0 : Nat) (Z0 : n0 ≤ h0.size) (A0 : Arv Z h0 o0 kc .char (1 : Int32) [(.int x0)] (.int (0 : Int32))) (hp0 : ¬ (255 : Int32) < x0) :
    MetFree l (⟨"java/lang/StringUTF16", "compress", "([CII)[B"⟩ : MethodName) (head1 (Jvm.Cond.code (⟨"java/lang/StringUTF16", "compress", "([CII)[B"⟩ : MethodName) jdk_52_method_16_code 6 (some (.array .byte)) :: ws) ({ frames := 1, cells := 1, slots := 1, locals := 18 } : Room)) (fun a U => a = #[(.ref o0), (.int (0 : Int32)), (.int (1 : Int32))] ∧ Z.Warmed39 U.vm ∧ U.heap = h0) (fun _ _ _ _ _ => True) (fun _ U o U' => ∃ v L, o = .returned v ∧ (own_Q_own_cmp2_1 Z o0 kc x0 h0 n0) v U'.heap L ∧ FrameEnd U o U' L ({ frames := 1, cells := 1, slots := 1, locals := 18 } : Room).cells ({ frames := 1, cells := 1, slots := 1, locals := 18 } : Room).slots) := by
  refine MetFree.of_bodySF (plainFor_of_name own_pn1) hisR ?_
  intro p e s m args below meth c s₁ Bd hml0 hP hK
  obtain ⟨rfl, hZ, hh⟩ := hP
  have hx := Bd.exec
  have hby := Bd.bytes
  have hml : c.maxLocals = 6 := hml0
  have hown : s.vm.findClass "java/lang/StringUTF16" = some m.cls := findClass_of_methodNamed Bd.named
  have hnm := (name_of_methodNamed Bd.named Bd.method).1
  have hlk : meth.locks = false := BodyLoose.notSynchronized Bd
  have X0 : Stand p l e ({ frames := 1, cells := 1, slots := 1, locals := 18 } : Room) s m #[(.ref o0), (.int (0 : Int32)), (.int (1 : Int32))] below meth c s₁ [] 0 0 := Stand.of_body Bd
  have e0 : s₁.heap = h0 := by rw [← hh, Bd.state]; rfl
  have N0 := Fr.nil n0
  show own_Ends p e below s (own_Q_own_cmp2_1 Z o0 kc x0 h0 n0) ({ frames := 1, cells := 1, slots := 1, locals := 18 } : Room).cells ({ frames := 1, cells := 1, slots := 1, locals := 18 } : Room).slots _
  refine own_by (V := s₁.setTop (mkF m 0 #[.val (.ref o0), .val (.int (0 : Int32)), .val (.int (1 : Int32)), .unset, .unset, .unset] [])) (fun t k => castTop (own_ef_own_cmp2_1 m o0) k) ?_
  refine own_by (V := s₁.setTop (mkF m 1 #[.val (.ref o0), .val (.int (0 : Int32)), .val (.int (1 : Int32)), .unset, .unset, .unset] [(.int (1 : Int32))])) (fun t k => XS.iloadN X0.here hx rfl (hb hby own_d_jdk_52_16_0) rfl  k) ?_
  obtain ⟨T1, h1, k1, X1, e1, E1, A1, st1⟩ := newP X0 hx hZ (hw _ (List.mem_of_getElem? (i := 25) rfl)) e0 (g := (mkF m 1 #[.val (.ref o0), .val (.int (0 : Int32)), .val (.int (1 : Int32)), .unset, .unset, .unset] [(.int (1 : Int32))])) rfl (hb hby own_d_jdk_52_16_1) rfl (by decide) (cap := 1) (by decide) (by decide) (by decide) (by decide)
  obtain ⟨b1, g1⟩ : ∃ z, z = h0.size := ⟨_, rfl⟩
  rw [← g1] at A1 st1
  have kb1 : h0.size ≤ b1 := Nat.le_trans (Keep.refl h0 []).1 (Nat.le_of_eq g1.symm)
  have ne2 : o0 ≠ b1 := Nat.ne_of_lt (Nat.lt_of_lt_of_le A0.lt (Nat.le_of_eq g1.symm))
  have f3 := A0.ext E1
  have K1 := (Keep.refl h0 []).ext E1
  have V1 : Arv Z h1 b1 k1 .byte (1 : Int32) [(.int (0 : Int32))] (.int (0 : Int32)) := (Arv.new A1 (by decide)).pad (pad_rep [] (.int (0 : Int32)) 1)
  have gn1 : n0 ≤ b1 := Nat.le_trans Z0 (Nat.le_of_eq g1.symm)
  have Zs1 : n0 ≤ h1.size := Nat.le_trans Z0 E1.1
  refine own_by (V := T1.setTop (mkF m 3 #[.val (.ref o0), .val (.int (0 : Int32)), .val (.int (1 : Int32)), .unset, .unset, .unset] [(.ref b1)])) st1 ?_
  refine own_by (V := T1.setTop (mkF m 4 #[.val (.ref o0), .val (.int (0 : Int32)), .val (.int (1 : Int32)), .val (.ref b1), .unset, .unset] [])) (fun t k => XS.astoreN X1.here hx rfl (hb hby own_d_jdk_52_16_3) rfl rfl (l' := #[.val (.ref o0), .val (.int (0 : Int32)), .val (.int (1 : Int32)), .val (.ref b1), .unset, .unset]) rfl k) ?_
  refine own_by (V := T1.setTop (mkF m 5 #[.val (.ref o0), .val (.int (0 : Int32)), .val (.int (1 : Int32)), .val (.ref b1), .unset, .unset] [(.ref o0)])) (fun t k => XS.aloadN X1.here hx rfl (hb hby own_d_jdk_52_16_4) rfl rfl k) ?_
  refine own_by (V := T1.setTop (mkF m 6 #[.val (.ref o0), .val (.int (0 : Int32)), .val (.int (1 : Int32)), .val (.ref b1), .unset, .unset] [(.int (0 : Int32)), (.ref o0)])) (fun t k => XS.iloadN X1.here hx rfl (hb hby own_d_jdk_52_16_5) rfl  k) ?_
  refine own_by (V := T1.setTop (mkF m 7 #[.val (.ref o0), .val (.int (0 : Int32)), .val (.int (1 : Int32)), .val (.ref b1), .unset, .unset] [(.ref b1), (.int (0 : Int32)), (.ref o0)])) (fun t k => XS.aloadN X1.here hx rfl (hb hby own_d_jdk_52_16_6) rfl rfl k) ?_
  refine own_by (V := T1.setTop (mkF m 8 #[.val (.ref o0), .val (.int (0 : Int32)), .val (.int (1 : Int32)), .val (.ref b1), .unset, .unset] [(.int (0 : Int32)), (.ref b1), (.int (0 : Int32)), (.ref o0)])) (fun t k => XS.iconst X1.here hx rfl (hb hby own_d_jdk_52_16_7) k) ?_
  refine own_by (V := T1.setTop (mkF m 9 #[.val (.ref o0), .val (.int (0 : Int32)), .val (.int (1 : Int32)), .val (.ref b1), .unset, .unset] [(.int (1 : Int32)), (.int (0 : Int32)), (.ref b1), (.int (0 : Int32)), (.ref o0)])) (fun t k => XS.iloadN X1.here hx rfl (hb hby own_d_jdk_52_16_8) rfl  k) ?_
  obtain ⟨_, _, ⟨T6, Lq6, kq6, nq6⟩, -, X6, ⟨Lc6, hQ6, lq6, yq6, zq6⟩, st6⟩ := Jvm.LawKit.callS X1 hx (y := (⟨"java/lang/StringUTF16", "compress", "([CI[BII)I"⟩ : MethodName)) hown (mvT hZ (hw _ (List.mem_of_getElem? (i := 58) rfl))) (mvT hZ (hw _ (List.mem_of_getElem? (i := 59) rfl))) (mvT hZ (hw _ (List.mem_of_getElem? (i := 56) rfl))) (mvT hZ (hw _ (List.mem_of_getElem? (i := 60) rfl))) (by decide) (backOf (W := 0) (own_cmp1_1 l Z a0 hw [] o0 b1 kc k1 x0 h1 n0 Zs1 f3 V1 ne2 gn1 hp0) hZ (hw _ (List.mem_of_getElem? (i := 60) rfl)) (hw _ (List.mem_of_getElem? (i := 56) rfl)) (by decide) (by decide)) (g := (mkF m 9 #[.val (.ref o0), .val (.int (0 : Int32)), .val (.int (1 : Int32)), .val (.ref b1), .unset, .unset] [(.int (1 : Int32)), (.int (0 : Int32)), (.ref b1), (.int (0 : Int32)), (.ref o0)])) rfl (by rw [hml]; rfl) (argsL := [(.ref o0), (.int (0 : Int32)), (.ref b1), (.int (0 : Int32)), (.int (1 : Int32))]) (rest := []) (lenOf own_pd2 rfl) rfl (by show 2 * 0 + _ ≤ _; exact Nat.le_of_eq rfl) (hb hby own_d_jdk_52_16_9) (fun _ _ => ⟨rfl, e1, (by decide : 1 + 0 ≤ _), (by decide : 1 + 0 ≤ _)⟩)
  dsimp only [Pt.U, Pt.locs, Pt.cells, Pt.slots] at X6 lq6 yq6 zq6 st6 hQ6
  subst lq6 yq6 zq6
  obtain ⟨rfl, N6q, Kc6, g6_0⟩ := hQ6
  have N6 := Fr.app N0 N6q
  have f7 := f3.keep Kc6 (ninS ne2 nin0)
  have K6 := K1.trans Kc6 (allS (Or.inr kb1) all0)
  have Zs6 : n0 ≤ T6.heap.size := Nat.le_trans Zs1 Kc6.1
  refine own_by (V := T6.setTop (mkF m 12 #[.val (.ref o0), .val (.int (0 : Int32)), .val (.int (1 : Int32)), .val (.ref b1), .unset, .unset] [(.int (1 : Int32))])) st6 ?_
  refine own_by (V := T6.setTop (mkF m 14 #[.val (.ref o0), .val (.int (0 : Int32)), .val (.int (1 : Int32)), .val (.ref b1), .val (.int (1 : Int32)), .unset] [])) (fun t k => XS.istore X6.here hx rfl (hb hby own_d_jdk_52_16_12) rfl (l' := #[.val (.ref o0), .val (.int (0 : Int32)), .val (.int (1 : Int32)), .val (.ref b1), .val (.int (1 : Int32)), .unset]) rfl k) ?_
  refine own_by (V := T6.setTop (mkF m 16 #[.val (.ref o0), .val (.int (0 : Int32)), .val (.int (1 : Int32)), .val (.ref b1), .val (.int (1 : Int32)), .unset] [(.int (1 : Int32))])) (fun t k => XS.iload X6.here hx rfl (hb hby own_d_jdk_52_16_14) rfl  k) ?_
  refine own_by (V := T6.setTop (mkF m 17 #[.val (.ref o0), .val (.int (0 : Int32)), .val (.int (1 : Int32)), .val (.ref b1), .val (.int (1 : Int32)), .unset] [(.int (1 : Int32)), (.int (1 : Int32))])) (fun t k => XS.iloadN X6.here hx rfl (hb hby own_d_jdk_52_16_16) rfl  k) ?_
  have hb17_9 : ((1 : Int32) = (1 : Int32)) := rfl
  refine own_by (V := T6.setTop (mkF m 57 #[.val (.ref o0), .val (.int (0 : Int32)), .val (.int (1 : Int32)), .val (.ref b1), .val (.int (1 : Int32)), .unset] [])) (fun t k => XS.icmpYes X6.here hx rfl (pc0 := 17) (pc' := 57) rfl (hb hby own_d_jdk_52_16_17) rfl (teq hb17_9).1 (by decide) (by decide) k) ?_
  refine own_by (V := T6.setTop (mkF m 58 #[.val (.ref o0), .val (.int (0 : Int32)), .val (.int (1 : Int32)), .val (.ref b1), .val (.int (1 : Int32)), .unset] [(.ref b1)])) (fun t k => XS.aloadN X6.here hx rfl (hb hby own_d_jdk_52_16_57) rfl rfl k) ?_
  refine own_retA X6 hx hlk rfl (w := (.ref b1)) rfl Bd.returns rfl (hb hby own_d_jdk_52_16_58) ?_ (by decide) (by decide)
  exact ⟨b1, k1, rfl, N6, K6, (kb1), g6_0⟩
def own_Q_own_coder_1 (Z : State) (o0 : Addr) (kb : ClassId) (y0 : Value) (h0 : Heap) (n0 : Nat) : Option Value → Heap → List Loc → Prop := fun v h L => v = some (.int (0 : Int32)) ∧ Fr n0 L ∧ h = h0
theorem own_ef_own_coder_1 (m : MethodId) (x0 : Addr) : entryFrame m #[(.ref x0), (.int (1 : Int32))] 2 = mkF m 0 #[.val (.ref x0), .val (.int (1 : Int32))] [] := by first | (simp [entryFrame, mkF, argsToLocals, Value.category]; done) | rfl
set_option maxRecDepth 65536 in
set_option maxHeartbeats 40000000 in
theorem own_coder_1 (l : Launch) (Z : State) (a0 : Array Value) (hw : ∀ d ∈ tables_1, d.before a0 Z = true) (ws : List Jvm.Cond) (o0 : Addr) (kb : ClassId) (y0 : Value) (h0 : Heap) (n0 : Nat) (A0 : Arv Z h0 o0 kb .byte (1 : Int32) [y0] (.int (0 : Int32))) :
    MetFree l (⟨"java/lang/StringUTF16", "coderFromArrayLen", "([BI)B"⟩ : MethodName) (head1 (Jvm.Cond.code (⟨"java/lang/StringUTF16", "coderFromArrayLen", "([BI)B"⟩ : MethodName) jdk_52_method_15_code 2 (some .byte) :: ws) ({ frames := 0, cells := 0, slots := 0, locals := 0 } : Room)) (fun a U => a = #[(.ref o0), (.int (1 : Int32))] ∧ Z.Warmed39 U.vm ∧ U.heap = h0) (fun _ _ _ _ _ => True) (fun _ U o U' => ∃ v L, o = .returned v ∧ (own_Q_own_coder_1 Z o0 kb y0 h0 n0) v U'.heap L ∧ FrameEnd U o U' L ({ frames := 0, cells := 0, slots := 0, locals := 0 } : Room).cells ({ frames := 0, cells := 0, slots := 0, locals := 0 } : Room).slots) := by
  refine MetFree.of_bodySF (plainFor_of_name own_pn1) hisR ?_
  intro p e s m args below meth c s₁ Bd hml0 hP hK
  obtain ⟨rfl, hZ, hh⟩ := hP
  have hx := Bd.exec
  have hby := Bd.bytes
  have hml : c.maxLocals = 2 := hml0
  have hown : s.vm.findClass "java/lang/StringUTF16" = some m.cls := findClass_of_methodNamed Bd.named
  have hnm := (name_of_methodNamed Bd.named Bd.method).1
  have hlk : meth.locks = false := BodyLoose.notSynchronized Bd
  have X0 : Stand p l e ({ frames := 0, cells := 0, slots := 0, locals := 0 } : Room) s m #[(.ref o0), (.int (1 : Int32))] below meth c s₁ [] 0 0 := Stand.of_body Bd
  have e0 : s₁.heap = h0 := by rw [← hh, Bd.state]; rfl
  have N0 := Fr.nil n0
  show own_Ends p e below s (own_Q_own_coder_1 Z o0 kb y0 h0 n0) ({ frames := 0, cells := 0, slots := 0, locals := 0 } : Room).cells ({ frames := 0, cells := 0, slots := 0, locals := 0 } : Room).slots _
  refine own_by (V := s₁.setTop (mkF m 0 #[.val (.ref o0), .val (.int (1 : Int32))] [])) (fun t k => castTop (own_ef_own_coder_1 m o0) k) ?_
  refine own_by (V := s₁.setTop (mkF m 1 #[.val (.ref o0), .val (.int (1 : Int32))] [(.int (1 : Int32))])) (fun t k => XS.iloadN X0.here hx rfl (hb hby own_d_jdk_52_15_0) rfl  k) ?_
  refine own_by (V := s₁.setTop (mkF m 2 #[.val (.ref o0), .val (.int (1 : Int32))] [(.ref o0), (.int (1 : Int32))])) (fun t k => XS.aloadN X0.here hx rfl (hb hby own_d_jdk_52_15_1) rfl rfl k) ?_
  obtain ⟨cl1, Ar1, qa1, Sa1, Ma1, Ha1, Ua1⟩ := id A0
  have hl1 := len_of Sa1 Ma1
  refine own_by (V := s₁.setTop (mkF m 3 #[.val (.ref o0), .val (.int (1 : Int32))] [(.int (1 : Int32)), (.int (1 : Int32))])) (by have q := X0.arraylength hx (cell := cl1) (by rw [e0]; exact Ar1.1) (State.isArrayOf_alike hZ.alike Ar1.2.1) (g := (mkF m 2 #[.val (.ref o0), .val (.int (1 : Int32))] [(.ref o0), (.int (1 : Int32))])) rfl (rest := [(.int (1 : Int32))]) rfl (hb hby own_d_jdk_52_15_2); rw [hl1] at q; exact q) ?_
  refine own_by (V := s₁.setTop (mkF m 4 #[.val (.ref o0), .val (.int (1 : Int32))] [(.int (0 : Int32))])) (fun t k => XS.isub X0.here hx rfl (hb hby own_d_jdk_52_15_3) rfl k) ?_
  refine own_by (V := s₁.setTop (mkF m 6 #[.val (.ref o0), .val (.int (1 : Int32))] [(.int (31 : Int32)), (.int (0 : Int32))])) (fun t k => XS.bipush X0.here hx rfl (hb hby own_d_jdk_52_15_4) k) ?_
  refine own_by (V := s₁.setTop (mkF m 7 #[.val (.ref o0), .val (.int (1 : Int32))] [(.int (((0 : Int32).toUInt32 >>> ((31 : Int32) &&& 31).toUInt32).toInt32))])) (fun t k => XS.iushr X0.here hx rfl (hb hby own_d_jdk_52_15_6) rfl k) ?_
  refine own_by (V := s₁.setTop (mkF m 8 #[.val (.ref o0), .val (.int (1 : Int32))] [(.int ((((0 : Int32).toUInt32 >>> ((31 : Int32) &&& 31).toUInt32).toInt32).toInt8.toInt32))])) (fun t k => XS.i2b X0.here hx rfl (hb hby own_d_jdk_52_15_7) rfl k) ?_
  refine own_retN X0 hx hlk e0 Bd.returns (t := .byte) (by simp) (by decide) (hb hby own_d_jdk_52_15_8) ?_ (by decide) (by decide)
  exact ⟨congrArg (fun z => some (Value.int z)) (show ((((0 : Int32).toUInt32 >>> ((31 : Int32) &&& 31).toUInt32).toInt32).toInt8.toInt32) = (0 : Int32) from by decide), N0, rfl⟩
def own_Q_own_strA_1 (Z : State) (o0 : Addr) (o1 : Addr) (kc : ClassId) (cs : Int32) (x0 : Int32) (h0 : Heap) (n0 : Nat) : Option Value → Heap → List Loc → Prop := fun v h L => ∃ (b : Addr) (kb : ClassId), v = none ∧ Fr n0 L ∧ Keep h0 h [o0] ∧ h0.size ≤ b ∧ Exa Z h o0 "java/lang/String" ∧ Fld Z h o0 "java/lang/String" "value" "[B" (.ref b) ∧ Fld Z h o0 "java/lang/String" "coder" "B" (.int (0 : Int32)) ∧ Arv Z h b kb .byte (1 : Int32) [(.int (nar .byte (x0.toInt8.toInt32)))] (.int (0 : Int32))
theorem own_ef_own_strA_1 (m : MethodId) (x0 : Addr) (x1 : Addr) : entryFrame m #[(.ref x0), (.ref x1), (.int (0 : Int32)), (.int (1 : Int32)), .null] 6 = mkF m 0 #[.val (.ref x0), .val (.ref x1), .val (.int (0 : Int32)), .val (.int (1 : Int32)), .val .null, .unset] [] := by first | (simp [entryFrame, mkF, argsToLocals, Value.category]; done) | rfl
set_option maxRecDepth 65536 in
set_option maxHeartbeats 40000000 in
theorem own_strA_1 (l : Launch) (Z : State) (a0 : Array Value) (hw : ∀ d ∈ tables_1, d.before a0 Z = true) (ws : List Jvm.Cond) (o0 : Addr) (o1 : Addr) (kc : ClassId) (cs : Int32) (x0 : Int32) (h0 : Heap) (n0 : Nat) (Z0 : n0 ≤ h0.size) (g0 : n0 ≤ o0) (E0 : Exa Z h0 o0 "java/lang/String") (Fv : Fld Z h0 o0 "java/lang/String" "value" "[B" .null) (Fc : Fld Z h0 o0 "java/lang/String" "coder" "B" (.int (0 : Int32))) (A1 : Arv Z h0 o1 kc .char (1 : Int32) [(.int x0)] (.int (0 : Int32))) (hne : o1 ≠ o0) (SS : Sta Z h0 "java/lang/String" "COMPACT_STRINGS" "Z" (.int cs)) (hcs : ¬ cs = (0 : Int32)) (hp0 : ¬ (255 : Int32) < x0) :
    MetFree l (⟨"java/lang/String", "<init>", "([CIILjava/lang/Void;)V"⟩ : MethodName) (head1 (Jvm.Cond.code (⟨"java/lang/String", "<init>", "([CIILjava/lang/Void;)V"⟩ : MethodName) jdk_42_method_149_code 6 none :: ws) ({ frames := 2, cells := 1, slots := 1, locals := 35 } : Room)) (fun a U => a = #[(.ref o0), (.ref o1), (.int (0 : Int32)), (.int (1 : Int32)), .null] ∧ Z.Warmed39 U.vm ∧ U.heap = h0) (fun _ _ _ _ _ => True) (fun _ U o U' => ∃ v L, o = .returned v ∧ (own_Q_own_strA_1 Z o0 o1 kc cs x0 h0 n0) v U'.heap L ∧ FrameEnd U o U' L ({ frames := 2, cells := 1, slots := 1, locals := 35 } : Room).cells ({ frames := 2, cells := 1, slots := 1, locals := 35 } : Room).slots) := by
  refine MetFree.of_bodySF (plainFor_of_name own_pn2) hisR ?_
  intro p e s m args below meth c s₁ Bd hml0 hP hK
  obtain ⟨rfl, hZ, hh⟩ := hP
  have hx := Bd.exec
  have hby := Bd.bytes
  have hml : c.maxLocals = 6 := hml0
  have hown : s.vm.findClass "java/lang/String" = some m.cls := findClass_of_methodNamed Bd.named
  have hnm := (name_of_methodNamed Bd.named Bd.method).1
  have hlk : meth.locks = false := BodyLoose.notSynchronized Bd
  have X0 : Stand p l e ({ frames := 2, cells := 1, slots := 1, locals := 35 } : Room) s m #[(.ref o0), (.ref o1), (.int (0 : Int32)), (.int (1 : Int32)), .null] below meth c s₁ [] 0 0 := Stand.of_body Bd
  have e0 : s₁.heap = h0 := by rw [← hh, Bd.state]; rfl
  have N0 := Fr.nil n0
  show own_Ends p e below s (own_Q_own_strA_1 Z o0 o1 kc cs x0 h0 n0) ({ frames := 2, cells := 1, slots := 1, locals := 35 } : Room).cells ({ frames := 2, cells := 1, slots := 1, locals := 35 } : Room).slots _
  refine own_by (V := s₁.setTop (mkF m 0 #[.val (.ref o0), .val (.ref o1), .val (.int (0 : Int32)), .val (.int (1 : Int32)), .val .null, .unset] [])) (fun t k => castTop (own_ef_own_strA_1 m o0 o1) k) ?_
  refine own_by (V := s₁.setTop (mkF m 1 #[.val (.ref o0), .val (.ref o1), .val (.int (0 : Int32)), .val (.int (1 : Int32)), .val .null, .unset] [(.ref o0)])) (fun t k => XS.aloadN X0.here hx rfl (hb hby own_d_jdk_42_149_0) rfl rfl k) ?_
  obtain ⟨T1, X1, e1, st1⟩ := initO X0 hx hZ hown (hw _ (List.mem_of_getElem? (i := 21) rfl)) (hw _ (List.mem_of_getElem? (i := 22) rfl)) (hw _ (List.mem_of_getElem? (i := 23) rfl)) e0 (g := (mkF m 1 #[.val (.ref o0), .val (.ref o1), .val (.int (0 : Int32)), .val (.int (1 : Int32)), .val .null, .unset] [(.ref o0)])) rfl (by rw [hml]; rfl) rfl (hb hby own_d_jdk_42_149_1) (by decide) (W := 0) (by show 2 * 0 + _ ≤ _; exact Nat.le_of_eq rfl) (by decide)
  refine own_by (V := T1.setTop (mkF m 4 #[.val (.ref o0), .val (.ref o1), .val (.int (0 : Int32)), .val (.int (1 : Int32)), .val .null, .unset] [])) st1 ?_
  refine own_by (V := T1.setTop (mkF m 5 #[.val (.ref o0), .val (.ref o1), .val (.int (0 : Int32)), .val (.int (1 : Int32)), .val .null, .unset] [(.int (1 : Int32))])) (fun t k => XS.iloadN X1.here hx rfl (hb hby own_d_jdk_42_149_4) rfl  k) ?_
  have hb5_2 : ¬ ((1 : Int32) = (0 : Int32)) := by decide
  refine own_by (V := T1.setTop (mkF m 27 #[.val (.ref o0), .val (.ref o1), .val (.int (0 : Int32)), .val (.int (1 : Int32)), .val .null, .unset] [])) (fun t k => XS.ifYes X1.here hx rfl (pc0 := 5) (pc' := 27) rfl (hb hby own_d_jdk_42_149_5) rfl ((if0 _ _).trans (feq hb5_2).2) (by decide) (by decide) k) ?_
  obtain ⟨T3, X3, e3, st3⟩ := getS2 X1 hx hZ hown (host := "") (Or.inl (hw _ (List.mem_of_getElem? (i := 53) rfl))) Via.refl e1 SS (g := (mkF m 27 #[.val (.ref o0), .val (.ref o1), .val (.int (0 : Int32)), .val (.int (1 : Int32)), .val .null, .unset] [])) rfl (hb hby own_d_jdk_42_149_27)
  refine own_by (V := T3.setTop (mkF m 30 #[.val (.ref o0), .val (.ref o1), .val (.int (0 : Int32)), .val (.int (1 : Int32)), .val .null, .unset] [(.int cs)])) st3 ?_
  have hb30_4 : ¬ (cs = (0 : Int32)) := hcs
  refine own_by (V := T3.setTop (mkF m 33 #[.val (.ref o0), .val (.ref o1), .val (.int (0 : Int32)), .val (.int (1 : Int32)), .val .null, .unset] [])) (fun t k => XS.ifNo X3.here hx rfl (hb hby own_d_jdk_42_149_30) rfl ((if0 _ _).trans (feq hb30_4).1) k) ?_
  refine own_by (V := T3.setTop (mkF m 34 #[.val (.ref o0), .val (.ref o1), .val (.int (0 : Int32)), .val (.int (1 : Int32)), .val .null, .unset] [(.ref o1)])) (fun t k => XS.aloadN X3.here hx rfl (hb hby own_d_jdk_42_149_33) rfl rfl k) ?_
  refine own_by (V := T3.setTop (mkF m 35 #[.val (.ref o0), .val (.ref o1), .val (.int (0 : Int32)), .val (.int (1 : Int32)), .val .null, .unset] [(.int (0 : Int32)), (.ref o1)])) (fun t k => XS.iloadN X3.here hx rfl (hb hby own_d_jdk_42_149_34) rfl  k) ?_
  refine own_by (V := T3.setTop (mkF m 36 #[.val (.ref o0), .val (.ref o1), .val (.int (0 : Int32)), .val (.int (1 : Int32)), .val .null, .unset] [(.int (1 : Int32)), (.int (0 : Int32)), (.ref o1)])) (fun t k => XS.iloadN X3.here hx rfl (hb hby own_d_jdk_42_149_35) rfl  k) ?_
  obtain ⟨_, _, ⟨T5, Lq5, kq5, nq5⟩, -, X5, ⟨Lc5, hQ5, lq5, yq5, zq5⟩, st5⟩ := Jvm.LawKit.callS X3 hx (y := (⟨"java/lang/StringUTF16", "compress", "([CII)[B"⟩ : MethodName)) hown (mvT hZ (hw _ (List.mem_of_getElem? (i := 54) rfl))) (mvT hZ (hw _ (List.mem_of_getElem? (i := 55) rfl))) (mvT hZ (hw _ (List.mem_of_getElem? (i := 56) rfl))) (mvT hZ (hw _ (List.mem_of_getElem? (i := 57) rfl))) (by decide) (backOf (W := 0) (own_cmp2_1 l Z a0 hw [] o1 kc x0 h0 n0 Z0 A1 hp0) hZ (hw _ (List.mem_of_getElem? (i := 57) rfl)) (hw _ (List.mem_of_getElem? (i := 56) rfl)) (by decide) (by decide)) (g := (mkF m 36 #[.val (.ref o0), .val (.ref o1), .val (.int (0 : Int32)), .val (.int (1 : Int32)), .val .null, .unset] [(.int (1 : Int32)), (.int (0 : Int32)), (.ref o1)])) rfl (by rw [hml]; rfl) (argsL := [(.ref o1), (.int (0 : Int32)), (.int (1 : Int32))]) (rest := []) (lenOf own_pd3 rfl) rfl (by show 2 * 0 + _ ≤ _; exact Nat.le_of_eq rfl) (hb hby own_d_jdk_42_149_36) (fun _ _ => ⟨rfl, e3, (by decide : 0 + 1 ≤ _), (by decide : 0 + 1 ≤ _)⟩)
  dsimp only [Pt.U, Pt.locs, Pt.cells, Pt.slots] at X5 lq5 yq5 zq5 st5 hQ5
  subst lq5 yq5 zq5
  obtain ⟨b5, kb5, rfl, N5q, Kc5, hf5_b, g5_0⟩ := hQ5
  have N5 := Fr.app N0 N5q
  have ne6 : o0 ≠ b5 := Nat.ne_of_lt (Nat.lt_of_lt_of_le E0.lt hf5_b)
  have ne7 : o1 ≠ b5 := Nat.ne_of_lt (Nat.lt_of_lt_of_le A1.lt hf5_b)
  have gn5_b : n0 ≤ b5 := Nat.le_trans Z0 hf5_b
  have kb5_b : h0.size ≤ b5 := Nat.le_trans (Keep.refl h0 [o0]).1 hf5_b
  have f8 := E0.keep Kc5
  have f9 := Fv.keep Kc5 nin0
  have f10 := Fc.keep Kc5 nin0
  have f11 := A1.keep Kc5 nin0
  have K5 := (Keep.refl h0 [o0]).trans Kc5 all0
  have Zs5 : n0 ≤ T5.heap.size := Nat.le_trans Z0 Kc5.1
  refine own_by (V := T5.setTop (mkF m 39 #[.val (.ref o0), .val (.ref o1), .val (.int (0 : Int32)), .val (.int (1 : Int32)), .val .null, .unset] [(.ref b5)])) st5 ?_
  refine own_by (V := T5.setTop (mkF m 41 #[.val (.ref o0), .val (.ref o1), .val (.int (0 : Int32)), .val (.int (1 : Int32)), .val .null, .val (.ref b5)] [])) (fun t k => XS.astore X5.here hx rfl (hb hby own_d_jdk_42_149_39) rfl rfl (l' := #[.val (.ref o0), .val (.ref o1), .val (.int (0 : Int32)), .val (.int (1 : Int32)), .val .null, .val (.ref b5)]) rfl k) ?_
  refine own_by (V := T5.setTop (mkF m 42 #[.val (.ref o0), .val (.ref o1), .val (.int (0 : Int32)), .val (.int (1 : Int32)), .val .null, .val (.ref b5)] [(.ref o0)])) (fun t k => XS.aloadN X5.here hx rfl (hb hby own_d_jdk_42_149_41) rfl rfl k) ?_
  refine own_by (V := T5.setTop (mkF m 44 #[.val (.ref o0), .val (.ref o1), .val (.int (0 : Int32)), .val (.int (1 : Int32)), .val .null, .val (.ref b5)] [(.ref b5), (.ref o0)])) (fun t k => XS.aload X5.here hx rfl (hb hby own_d_jdk_42_149_42) rfl rfl k) ?_
  refine own_by (V := T5.setTop (mkF m 45 #[.val (.ref o0), .val (.ref o1), .val (.int (0 : Int32)), .val (.int (1 : Int32)), .val .null, .val (.ref b5)] [(.int (1 : Int32)), (.ref b5), (.ref o0)])) (fun t k => XS.iloadN X5.here hx rfl (hb hby own_d_jdk_42_149_44) rfl  k) ?_
  obtain ⟨_, _, ⟨T13, Lq13, kq13, nq13⟩, -, X13, ⟨Lc13, hQ13, lq13, yq13, zq13⟩, st13⟩ := Jvm.LawKit.callS X5 hx (y := (⟨"java/lang/StringUTF16", "coderFromArrayLen", "([BI)B"⟩ : MethodName)) hown (mvT hZ (hw _ (List.mem_of_getElem? (i := 61) rfl))) (mvT hZ (hw _ (List.mem_of_getElem? (i := 62) rfl))) (mvT hZ (hw _ (List.mem_of_getElem? (i := 56) rfl))) (mvT hZ (hw _ (List.mem_of_getElem? (i := 63) rfl))) (by decide) (backOf (W := 1) (own_coder_1 l Z a0 hw [] b5 kb5 (.int (nar .byte (x0.toInt8.toInt32))) T5.heap n0 g5_0) hZ (hw _ (List.mem_of_getElem? (i := 63) rfl)) (hw _ (List.mem_of_getElem? (i := 56) rfl)) (by decide) (by decide)) (g := (mkF m 45 #[.val (.ref o0), .val (.ref o1), .val (.int (0 : Int32)), .val (.int (1 : Int32)), .val .null, .val (.ref b5)] [(.int (1 : Int32)), (.ref b5), (.ref o0)])) rfl (by rw [hml]; rfl) (argsL := [(.ref b5), (.int (1 : Int32))]) (rest := [(.ref o0)]) (lenOf own_pd4 rfl) rfl (by show 2 * 0 + _ ≤ _; exact Nat.le_of_eq rfl) (hb hby own_d_jdk_42_149_45) (fun _ _ => ⟨rfl, rfl, (by decide : 1 + 0 ≤ _), (by decide : 1 + 0 ≤ _)⟩)
  dsimp only [Pt.U, Pt.locs, Pt.cells, Pt.slots] at X13 lq13 yq13 zq13 st13 hQ13
  subst lq13 yq13 zq13
  obtain ⟨rfl, N13q, e13⟩ := hQ13
  have N13 := Fr.app N5 N13q
  refine own_by (V := T13.setTop (mkF m 48 #[.val (.ref o0), .val (.ref o1), .val (.int (0 : Int32)), .val (.int (1 : Int32)), .val .null, .val (.ref b5)] [(.int (0 : Int32)), (.ref o0)])) st13 ?_
  obtain ⟨T14, h14, X14, e14, W14, st14⟩ := putFN X13 hx hZ hown (hw _ (List.mem_of_getElem? (i := 31) rfl)) Via.refl e13 f10 f8 (Or.inr ⟨(hw _ (List.mem_of_getElem? (i := 27) rfl)), rfl, hnm⟩) (hw _ (List.mem_of_getElem? (i := 11) rfl)) (ty := .byte) (v' := (.int (0 : Int32))) (by decide) rfl rfl (g := (mkF m 48 #[.val (.ref o0), .val (.ref o1), .val (.int (0 : Int32)), .val (.int (1 : Int32)), .val .null, .val (.ref b5)] [(.int (0 : Int32)), (.ref o0)])) rfl rfl (hb hby own_d_jdk_42_149_48)
  have N14 := Fr.snoc X14 N13 g0
  have K14 := K5.wr W14 (Or.inl (List.mem_of_getElem? (i := 0) rfl))
  have Zs14 : n0 ≤ h14.size := by rw [W14.size]; exact Zs5
  have f15 := f8.wr W14
  have f16 := f9.other W14 (Or.inr (slot_ne (Or.inr (hw _ (List.mem_of_getElem? (i := 26) rfl))) (Or.inr (hw _ (List.mem_of_getElem? (i := 27) rfl))) (by decide) (t := (.array .byte)) (t' := .byte) (by decide) (by decide)))
  have f17 := f10.same W14
  have f18 := f11.other W14 hne
  have f19 := g5_0.other W14 (Ne.symm ne6)
  refine own_by (V := T14.setTop (mkF m 51 #[.val (.ref o0), .val (.ref o1), .val (.int (0 : Int32)), .val (.int (1 : Int32)), .val .null, .val (.ref b5)] [])) st14 ?_
  refine own_by (V := T14.setTop (mkF m 52 #[.val (.ref o0), .val (.ref o1), .val (.int (0 : Int32)), .val (.int (1 : Int32)), .val .null, .val (.ref b5)] [(.ref o0)])) (fun t k => XS.aloadN X14.here hx rfl (hb hby own_d_jdk_42_149_51) rfl rfl k) ?_
  refine own_by (V := T14.setTop (mkF m 54 #[.val (.ref o0), .val (.ref o1), .val (.int (0 : Int32)), .val (.int (1 : Int32)), .val .null, .val (.ref b5)] [(.ref b5), (.ref o0)])) (fun t k => XS.aload X14.here hx rfl (hb hby own_d_jdk_42_149_52) rfl rfl k) ?_
  obtain ⟨T20, h20, X20, e20, W20, st20⟩ := putF X14 hx hZ hown (host := "") (Or.inl (hw _ (List.mem_of_getElem? (i := 30) rfl))) Via.refl e14 f16 f15 (Or.inr ⟨(hw _ (List.mem_of_getElem? (i := 26) rfl)), rfl, hnm⟩) (hw _ (List.mem_of_getElem? (i := 11) rfl)) (ty := (.array .byte)) (by decide) rfl rfl (g := (mkF m 54 #[.val (.ref o0), .val (.ref o1), .val (.int (0 : Int32)), .val (.int (1 : Int32)), .val .null, .val (.ref b5)] [(.ref b5), (.ref o0)])) rfl rfl (hb hby own_d_jdk_42_149_54)
  have N20 := Fr.snoc X20 N14 g0
  have K20 := K14.wr W20 (Or.inl (List.mem_of_getElem? (i := 0) rfl))
  have Zs20 : n0 ≤ h20.size := by rw [W20.size]; exact Zs14
  have f21 := f15.wr W20
  have f22 := f16.same W20
  have f23 := f17.other W20 (Or.inr (slot_ne (Or.inr (hw _ (List.mem_of_getElem? (i := 27) rfl))) (Or.inr (hw _ (List.mem_of_getElem? (i := 26) rfl))) (by decide) (t := .byte) (t' := (.array .byte)) (by decide) (by decide)))
  have f24 := f18.other W20 hne
  have f25 := f19.other W20 (Ne.symm ne6)
  refine own_by (V := T20.setTop (mkF m 57 #[.val (.ref o0), .val (.ref o1), .val (.int (0 : Int32)), .val (.int (1 : Int32)), .val .null, .val (.ref b5)] [])) st20 ?_
  refine own_ret0 X20 hx hlk e20 Bd.returns (hb hby own_d_jdk_42_149_57) ?_ (by decide) (by decide)
  exact ⟨b5, kb5, rfl, N20, K20, (kb5_b), f21, f22, f23, f25⟩
def own_Q_own_strB_1 (Z : State) (o0 : Addr) (o1 : Addr) (kc : ClassId) (cs : Int32) (x0 : Int32) (h0 : Heap) (n0 : Nat) : Option Value → Heap → List Loc → Prop := fun v h L => ∃ (b : Addr) (kb : ClassId), v = none ∧ Fr n0 L ∧ Keep h0 h [o0] ∧ h0.size ≤ b ∧ Exa Z h o0 "java/lang/String" ∧ Fld Z h o0 "java/lang/String" "value" "[B" (.ref b) ∧ Fld Z h o0 "java/lang/String" "coder" "B" (.int (0 : Int32)) ∧ Arv Z h b kb .byte (1 : Int32) [(.int (nar .byte (x0.toInt8.toInt32)))] (.int (0 : Int32))
theorem own_ef_own_strB_1 (m : MethodId) (x0 : Addr) (x1 : Addr) : entryFrame m #[(.ref x0), (.ref x1)] 2 = mkF m 0 #[.val (.ref x0), .val (.ref x1)] [] := by first | (simp [entryFrame, mkF, argsToLocals, Value.category]; done) | rfl
set_option maxRecDepth 65536 in
set_option maxHeartbeats 40000000 in
theorem own_strB_1 (l : Launch) (Z : State) (a0 : Array Value) (hw : ∀ d ∈ tables_1, d.before a0 Z = true) (ws : List Jvm.Cond) (o0 : Addr) (o1 : Addr) (kc : ClassId) (cs : Int32) (x0 : Int32) (h0 : Heap) (n0 : Nat) (Z0 : n0 ≤ h0.size) (g0 : n0 ≤ o0) (E0 : Exa Z h0 o0 "java/lang/String") (Fv : Fld Z h0 o0 "java/lang/String" "value" "[B" .null) (Fc : Fld Z h0 o0 "java/lang/String" "coder" "B" (.int (0 : Int32))) (A1 : Arv Z h0 o1 kc .char (1 : Int32) [(.int x0)] (.int (0 : Int32))) (hne : o1 ≠ o0) (SS : Sta Z h0 "java/lang/String" "COMPACT_STRINGS" "Z" (.int cs)) (hcs : ¬ cs = (0 : Int32)) (hp0 : ¬ (255 : Int32) < x0) :
    MetFree l (⟨"java/lang/String", "<init>", "([C)V"⟩ : MethodName) (head1 (Jvm.Cond.code (⟨"java/lang/String", "<init>", "([C)V"⟩ : MethodName) jdk_42_method_3_code 2 none :: ws) ({ frames := 3, cells := 1, slots := 1, locals := 52 } : Room)) (fun a U => a = #[(.ref o0), (.ref o1)] ∧ Z.Warmed39 U.vm ∧ U.heap = h0) (fun _ _ _ _ _ => True) (fun _ U o U' => ∃ v L, o = .returned v ∧ (own_Q_own_strB_1 Z o0 o1 kc cs x0 h0 n0) v U'.heap L ∧ FrameEnd U o U' L ({ frames := 3, cells := 1, slots := 1, locals := 52 } : Room).cells ({ frames := 3, cells := 1, slots := 1, locals := 52 } : Room).slots) := by
  refine MetFree.of_bodySF (plainFor_of_name own_pn2) hisR ?_
  intro p e s m args below meth c s₁ Bd hml0 hP hK
  obtain ⟨rfl, hZ, hh⟩ := hP
  have hx := Bd.exec
  have hby := Bd.bytes
  have hml : c.maxLocals = 2 := hml0
  have hown : s.vm.findClass "java/lang/String" = some m.cls := findClass_of_methodNamed Bd.named
  have hnm := (name_of_methodNamed Bd.named Bd.method).1
  have hlk : meth.locks = false := BodyLoose.notSynchronized Bd
  have X0 : Stand p l e ({ frames := 3, cells := 1, slots := 1, locals := 52 } : Room) s m #[(.ref o0), (.ref o1)] below meth c s₁ [] 0 0 := Stand.of_body Bd
  have e0 : s₁.heap = h0 := by rw [← hh, Bd.state]; rfl
  have N0 := Fr.nil n0
  show own_Ends p e below s (own_Q_own_strB_1 Z o0 o1 kc cs x0 h0 n0) ({ frames := 3, cells := 1, slots := 1, locals := 52 } : Room).cells ({ frames := 3, cells := 1, slots := 1, locals := 52 } : Room).slots _
  refine own_by (V := s₁.setTop (mkF m 0 #[.val (.ref o0), .val (.ref o1)] [])) (fun t k => castTop (own_ef_own_strB_1 m o0 o1) k) ?_
  refine own_by (V := s₁.setTop (mkF m 1 #[.val (.ref o0), .val (.ref o1)] [(.ref o0)])) (fun t k => XS.aloadN X0.here hx rfl (hb hby own_d_jdk_42_3_0) rfl rfl k) ?_
  refine own_by (V := s₁.setTop (mkF m 2 #[.val (.ref o0), .val (.ref o1)] [(.ref o1), (.ref o0)])) (fun t k => XS.aloadN X0.here hx rfl (hb hby own_d_jdk_42_3_1) rfl rfl k) ?_
  refine own_by (V := s₁.setTop (mkF m 3 #[.val (.ref o0), .val (.ref o1)] [(.int (0 : Int32)), (.ref o1), (.ref o0)])) (fun t k => XS.iconst X0.here hx rfl (hb hby own_d_jdk_42_3_2) k) ?_
  refine own_by (V := s₁.setTop (mkF m 4 #[.val (.ref o0), .val (.ref o1)] [(.ref o1), (.int (0 : Int32)), (.ref o1), (.ref o0)])) (fun t k => XS.aloadN X0.here hx rfl (hb hby own_d_jdk_42_3_3) rfl rfl k) ?_
  obtain ⟨cl1, Ar1, qa1, Sa1, Ma1, Ha1, Ua1⟩ := id A1
  have hl1 := len_of Sa1 Ma1
  refine own_by (V := s₁.setTop (mkF m 5 #[.val (.ref o0), .val (.ref o1)] [(.int (1 : Int32)), (.int (0 : Int32)), (.ref o1), (.ref o0)])) (by have q := X0.arraylength hx (cell := cl1) (by rw [e0]; exact Ar1.1) (State.isArrayOf_alike hZ.alike Ar1.2.1) (g := (mkF m 4 #[.val (.ref o0), .val (.ref o1)] [(.ref o1), (.int (0 : Int32)), (.ref o1), (.ref o0)])) rfl (rest := [(.int (0 : Int32)), (.ref o1), (.ref o0)]) rfl (hb hby own_d_jdk_42_3_4); rw [hl1] at q; exact q) ?_
  refine own_by (V := s₁.setTop (mkF m 6 #[.val (.ref o0), .val (.ref o1)] [.null, (.int (1 : Int32)), (.int (0 : Int32)), (.ref o1), (.ref o0)])) (fun t k => XS.aconstNull X0.here hx rfl (hb hby own_d_jdk_42_3_5) k) ?_
  obtain ⟨_, _, ⟨T2, Lq2, kq2, nq2⟩, -, X2, ⟨Lc2, hQ2, lq2, yq2, zq2⟩, st2⟩ := X0.specialBack hx (y := (⟨"java/lang/String", "<init>", "([CIILjava/lang/Void;)V"⟩ : MethodName)) rfl hown (mvT hZ (hw _ (List.mem_of_getElem? (i := 17) rfl))) (mvT hZ (hw _ (List.mem_of_getElem? (i := 18) rfl))) (mvT hZ (hw _ (List.mem_of_getElem? (i := 20) rfl))) (by decide) (backOf (W := 0) (own_strA_1 l Z a0 hw [] o0 o1 kc cs x0 h0 n0 Z0 g0 E0 Fv Fc A1 hne SS hcs hp0) hZ (hw _ (List.mem_of_getElem? (i := 20) rfl)) (hw _ (List.mem_of_getElem? (i := 12) rfl)) (by decide) (by decide)) (g := (mkF m 6 #[.val (.ref o0), .val (.ref o1)] [.null, (.int (1 : Int32)), (.int (0 : Int32)), (.ref o1), (.ref o0)])) rfl (by rw [hml]; rfl) (Steps.refl _) (a := o0) (argsL := [(.ref o1), (.int (0 : Int32)), (.int (1 : Int32)), .null]) (rest := []) (lenOf own_pd5 rfl) rfl (by show 2 * 0 + _ ≤ _; exact Nat.le_of_eq rfl) (hb hby own_d_jdk_42_3_6) (fun _ _ => ⟨rfl, e0, (by decide : 0 + 1 ≤ _), (by decide : 0 + 1 ≤ _)⟩)
  dsimp only [Pt.U, Pt.locs, Pt.cells, Pt.slots] at X2 lq2 yq2 zq2 st2 hQ2
  subst lq2 yq2 zq2
  obtain ⟨b2, kb2, rfl, N2q, Kc2, hf2_b, g2_0, g2_1, g2_2, g2_3⟩ := hQ2
  have N2 := Fr.app N0 N2q
  have ne3 : o0 ≠ b2 := Nat.ne_of_lt (Nat.lt_of_lt_of_le E0.lt hf2_b)
  have ne4 : o1 ≠ b2 := Nat.ne_of_lt (Nat.lt_of_lt_of_le A1.lt hf2_b)
  have gn2_b : n0 ≤ b2 := Nat.le_trans Z0 hf2_b
  have kb2_b : h0.size ≤ b2 := Nat.le_trans (Keep.refl h0 [o0]).1 hf2_b
  have f5 := E0.keep Kc2
  have f8 := A1.keep Kc2 (ninS hne nin0)
  have K2 := (Keep.refl h0 [o0]).trans Kc2 (allS (Or.inl (List.mem_of_getElem? (i := 0) rfl)) all0)
  have Zs2 : n0 ≤ T2.heap.size := Nat.le_trans Z0 Kc2.1
  refine own_by (V := T2.setTop (mkF m 9 #[.val (.ref o0), .val (.ref o1)] [])) (fun t k => st2.trans k) ?_
  refine own_ret0 X2 hx hlk rfl Bd.returns (hb hby own_d_jdk_42_3_9) ?_ (by decide) (by decide)
  exact ⟨b2, kb2, rfl, N2, K2, (kb2_b), g2_0, g2_1, g2_2, g2_3⟩
def own_Q_own_cmp1_2 (Z : State) (o0 : Addr) (o2 : Addr) (kc : ClassId) (kb : ClassId) (x0 : Int32) (x1 : Int32) (h0 : Heap) (n0 : Nat) : Option Value → Heap → List Loc → Prop := fun v h L => v = some (.int (2 : Int32)) ∧ Fr n0 L ∧ Keep h0 h [o2] ∧ Arv Z h o2 kb .byte (2 : Int32) [(.int (nar .byte (x0.toInt8.toInt32))), (.int (nar .byte (x1.toInt8.toInt32)))] (.int (0 : Int32))
theorem own_ef_own_cmp1_2 (m : MethodId) (x0 : Addr) (x2 : Addr) : entryFrame m #[(.ref x0), (.int (0 : Int32)), (.ref x2), (.int (0 : Int32)), (.int (2 : Int32))] 7 = mkF m 0 #[.val (.ref x0), .val (.int (0 : Int32)), .val (.ref x2), .val (.int (0 : Int32)), .val (.int (2 : Int32)), .unset, .unset] [] := by first | (simp [entryFrame, mkF, argsToLocals, Value.category]; done) | rfl
set_option maxRecDepth 65536 in
set_option maxHeartbeats 40000000 in
theorem own_cmp1_2 (l : Launch) (Z : State) (a0 : Array Value) (hw : ∀ d ∈ tables_1, d.before a0 Z = true) (ws : List Jvm.Cond) (o0 : Addr) (o2 : Addr) (kc : ClassId) (kb : ClassId) (x0 : Int32) (x1 : Int32) (h0 : Heap) (n0 : Nat) (Z0 : n0 ≤ h0.size) (A0 : Arv Z h0 o0 kc .char (2 : Int32) [(.int x0), (.int x1)] (.int (0 : Int32))) (A2 : Arv Z h0 o2 kb .byte (2 : Int32) [(.int (0 : Int32)), (.int (0 : Int32))] (.int (0 : Int32))) (hne : o0 ≠ o2) (g2 : n0 ≤ o2) (hp0 : ¬ (255 : Int32) < x0) (hp1 : ¬ (255 : Int32) < x1) :
    MetFree l (⟨"java/lang/StringUTF16", "compress", "([CI[BII)I"⟩ : MethodName) (head1 (Jvm.Cond.code (⟨"java/lang/StringUTF16", "compress", "([CI[BII)I"⟩ : MethodName) jdk_52_method_21_code 7 (some .int) :: ws) ({ frames := 0, cells := 0, slots := 0, locals := 0 } : Room)) (fun a U => a = #[(.ref o0), (.int (0 : Int32)), (.ref o2), (.int (0 : Int32)), (.int (2 : Int32))] ∧ Z.Warmed39 U.vm ∧ U.heap = h0) (fun _ _ _ _ _ => True) (fun _ U o U' => ∃ v L, o = .returned v ∧ (own_Q_own_cmp1_2 Z o0 o2 kc kb x0 x1 h0 n0) v U'.heap L ∧ FrameEnd U o U' L ({ frames := 0, cells := 0, slots := 0, locals := 0 } : Room).cells ({ frames := 0, cells := 0, slots := 0, locals := 0 } : Room).slots) := by
  refine MetFree.of_bodySF (plainFor_of_name own_pn1) hisR ?_
  intro p e s m args below meth c s₁ Bd hml0 hP hK
  obtain ⟨rfl, hZ, hh⟩ := hP
  have hx := Bd.exec
  have hby := Bd.bytes
  have hml : c.maxLocals = 7 := hml0
  have hown : s.vm.findClass "java/lang/StringUTF16" = some m.cls := findClass_of_methodNamed Bd.named
  have hnm := (name_of_methodNamed Bd.named Bd.method).1
  have hlk : meth.locks = false := BodyLoose.notSynchronized Bd
  have X0 : Stand p l e ({ frames := 0, cells := 0, slots := 0, locals := 0 } : Room) s m #[(.ref o0), (.int (0 : Int32)), (.ref o2), (.int (0 : Int32)), (.int (2 : Int32))] below meth c s₁ [] 0 0 := Stand.of_body Bd
  have e0 : s₁.heap = h0 := by rw [← hh, Bd.state]; rfl
  have N0 := Fr.nil n0
  show own_Ends p e below s (own_Q_own_cmp1_2 Z o0 o2 kc kb x0 x1 h0 n0) ({ frames := 0, cells := 0, slots := 0, locals := 0 } : Room).cells ({ frames := 0, cells := 0, slots := 0, locals := 0 } : Room).slots _
  refine own_by (V := s₁.setTop (mkF m 0 #[.val (.ref o0), .val (.int (0 : Int32)), .val (.ref o2), .val (.int (0 : Int32)), .val (.int (2 : Int32)), .unset, .unset] [])) (fun t k => castTop (own_ef_own_cmp1_2 m o0 o2) k) ?_
  refine own_by (V := s₁.setTop (mkF m 1 #[.val (.ref o0), .val (.int (0 : Int32)), .val (.ref o2), .val (.int (0 : Int32)), .val (.int (2 : Int32)), .unset, .unset] [(.int (0 : Int32))])) (fun t k => XS.iconst X0.here hx rfl (hb hby own_d_jdk_52_21_0) k) ?_
  refine own_by (V := s₁.setTop (mkF m 3 #[.val (.ref o0), .val (.int (0 : Int32)), .val (.ref o2), .val (.int (0 : Int32)), .val (.int (2 : Int32)), .val (.int (0 : Int32)), .unset] [])) (fun t k => XS.istore X0.here hx rfl (hb hby own_d_jdk_52_21_1) rfl (l' := #[.val (.ref o0), .val (.int (0 : Int32)), .val (.ref o2), .val (.int (0 : Int32)), .val (.int (2 : Int32)), .val (.int (0 : Int32)), .unset]) rfl k) ?_
  refine own_by (V := s₁.setTop (mkF m 5 #[.val (.ref o0), .val (.int (0 : Int32)), .val (.ref o2), .val (.int (0 : Int32)), .val (.int (2 : Int32)), .val (.int (0 : Int32)), .unset] [(.int (0 : Int32))])) (fun t k => XS.iload X0.here hx rfl (hb hby own_d_jdk_52_21_3) rfl  k) ?_
  refine own_by (V := s₁.setTop (mkF m 7 #[.val (.ref o0), .val (.int (0 : Int32)), .val (.ref o2), .val (.int (0 : Int32)), .val (.int (2 : Int32)), .val (.int (0 : Int32)), .unset] [(.int (2 : Int32)), (.int (0 : Int32))])) (fun t k => XS.iload X0.here hx rfl (hb hby own_d_jdk_52_21_5) rfl  k) ?_
  have hb7_1 : ((0 : Int32) < (2 : Int32)) := by decide
  refine own_by (V := s₁.setTop (mkF m 10 #[.val (.ref o0), .val (.int (0 : Int32)), .val (.ref o2), .val (.int (0 : Int32)), .val (.int (2 : Int32)), .val (.int (0 : Int32)), .unset] [])) (fun t k => XS.icmpNo X0.here hx rfl (hb hby own_d_jdk_52_21_7) rfl (tlt hb7_1).2.1 k) ?_
  refine own_by (V := s₁.setTop (mkF m 11 #[.val (.ref o0), .val (.int (0 : Int32)), .val (.ref o2), .val (.int (0 : Int32)), .val (.int (2 : Int32)), .val (.int (0 : Int32)), .unset] [(.ref o0)])) (fun t k => XS.aloadN X0.here hx rfl (hb hby own_d_jdk_52_21_10) rfl rfl k) ?_
  refine own_by (V := s₁.setTop (mkF m 12 #[.val (.ref o0), .val (.int (0 : Int32)), .val (.ref o2), .val (.int (0 : Int32)), .val (.int (2 : Int32)), .val (.int (0 : Int32)), .unset] [(.int (0 : Int32)), (.ref o0)])) (fun t k => XS.iloadN X0.here hx rfl (hb hby own_d_jdk_52_21_11) rfl  k) ?_
  obtain ⟨cl2, Ar2, qa2, Sa2, Ma2, Ha2, Ua2⟩ := id A0
  have hi2 := inb_of Sa2 (j := (0 : Int32)) ⟨(by decide), (by decide)⟩
  refine own_by (V := s₁.setTop (mkF m 13 #[.val (.ref o0), .val (.int (0 : Int32)), .val (.ref o2), .val (.int (0 : Int32)), .val (.int (2 : Int32)), .val (.int (0 : Int32)), .unset] [(.int x0)])) (X0.caload hx (j := (0 : Int32)) (v := (.int x0)) (by rw [e0]; exact Ar2.1) (State.isArrayOf_alike hZ.alike Ar2.2.1) Ar2.2.2 hi2 (Has.at Ha2 hi2 rfl) (g := (mkF m 12 #[.val (.ref o0), .val (.int (0 : Int32)), .val (.ref o2), .val (.int (0 : Int32)), .val (.int (2 : Int32)), .val (.int (0 : Int32)), .unset] [(.int (0 : Int32)), (.ref o0)])) rfl rfl (hb hby own_d_jdk_52_21_12)) ?_
  refine own_by (V := s₁.setTop (mkF m 15 #[.val (.ref o0), .val (.int (0 : Int32)), .val (.ref o2), .val (.int (0 : Int32)), .val (.int (2 : Int32)), .val (.int (0 : Int32)), .val (.int x0)] [])) (fun t k => XS.istore X0.here hx rfl (hb hby own_d_jdk_52_21_13) rfl (l' := #[.val (.ref o0), .val (.int (0 : Int32)), .val (.ref o2), .val (.int (0 : Int32)), .val (.int (2 : Int32)), .val (.int (0 : Int32)), .val (.int x0)]) rfl k) ?_
  refine own_by (V := s₁.setTop (mkF m 17 #[.val (.ref o0), .val (.int (0 : Int32)), .val (.ref o2), .val (.int (0 : Int32)), .val (.int (2 : Int32)), .val (.int (0 : Int32)), .val (.int x0)] [(.int x0)])) (fun t k => XS.iload X0.here hx rfl (hb hby own_d_jdk_52_21_15) rfl  k) ?_
  refine own_by (V := s₁.setTop (mkF m 20 #[.val (.ref o0), .val (.int (0 : Int32)), .val (.ref o2), .val (.int (0 : Int32)), .val (.int (2 : Int32)), .val (.int (0 : Int32)), .val (.int x0)] [(.int (255 : Int32)), (.int x0)])) (fun t k => XS.sipush X0.here hx rfl (hb hby own_d_jdk_52_21_17) k) ?_
  have hb20_3 : ¬ ((255 : Int32) < x0) := hp0
  refine own_by (V := s₁.setTop (mkF m 26 #[.val (.ref o0), .val (.int (0 : Int32)), .val (.ref o2), .val (.int (0 : Int32)), .val (.int (2 : Int32)), .val (.int (0 : Int32)), .val (.int x0)] [])) (fun t k => XS.icmpYes X0.here hx rfl (pc0 := 20) (pc' := 26) rfl (hb hby own_d_jdk_52_21_20) rfl (flt hb20_3).2.2.2 (by decide) (by decide) k) ?_
  refine own_by (V := s₁.setTop (mkF m 27 #[.val (.ref o0), .val (.int (0 : Int32)), .val (.ref o2), .val (.int (0 : Int32)), .val (.int (2 : Int32)), .val (.int (0 : Int32)), .val (.int x0)] [(.ref o2)])) (fun t k => XS.aloadN X0.here hx rfl (hb hby own_d_jdk_52_21_26) rfl rfl k) ?_
  refine own_by (V := s₁.setTop (mkF m 28 #[.val (.ref o0), .val (.int (0 : Int32)), .val (.ref o2), .val (.int (0 : Int32)), .val (.int (2 : Int32)), .val (.int (0 : Int32)), .val (.int x0)] [(.int (0 : Int32)), (.ref o2)])) (fun t k => XS.iloadN X0.here hx rfl (hb hby own_d_jdk_52_21_27) rfl  k) ?_
  refine own_by (V := s₁.setTop (mkF m 30 #[.val (.ref o0), .val (.int (0 : Int32)), .val (.ref o2), .val (.int (0 : Int32)), .val (.int (2 : Int32)), .val (.int (0 : Int32)), .val (.int x0)] [(.int x0), (.int (0 : Int32)), (.ref o2)])) (fun t k => XS.iload X0.here hx rfl (hb hby own_d_jdk_52_21_28) rfl  k) ?_
  refine own_by (V := s₁.setTop (mkF m 31 #[.val (.ref o0), .val (.int (0 : Int32)), .val (.ref o2), .val (.int (0 : Int32)), .val (.int (2 : Int32)), .val (.int (0 : Int32)), .val (.int x0)] [(.int (x0.toInt8.toInt32)), (.int (0 : Int32)), (.ref o2)])) (fun t k => XS.i2b X0.here hx rfl (hb hby own_d_jdk_52_21_30) rfl k) ?_
  obtain ⟨cl4, Ar4, qa4, Sa4, Ma4, Ha4, Ua4⟩ := id A2
  obtain ⟨T5, h5, X5, e5, W5, st5⟩ := stB X0 hx hZ e0 Ar4 (j := (0 : Int32)) (inb_of Sa4 ⟨(by decide), (by decide)⟩) (g := (mkF m 31 #[.val (.ref o0), .val (.int (0 : Int32)), .val (.ref o2), .val (.int (0 : Int32)), .val (.int (2 : Int32)), .val (.int (0 : Int32)), .val (.int x0)] [(.int (x0.toInt8.toInt32)), (.int (0 : Int32)), (.ref o2)])) rfl rfl (hb hby own_d_jdk_52_21_31)
  have N5 := Fr.snoc X5 N0 g2
  have K5 := (Keep.refl h0 [o2]).wr W5 (Or.inl (List.mem_of_getElem? (i := 0) rfl))
  have Zs5 : n0 ≤ h5.size := by rw [W5.size]; exact Z0
  have f6 := A0.other W5 hne
  have V5 : Arv Z h5 o2 kb .byte (2 : Int32) [(.int (nar .byte (x0.toInt8.toInt32))), (.int (0 : Int32))] (.int (0 : Int32)) := Arv.set Ar4 qa4 Sa4 Ma4 Ha4 Ua4 (fits_nar_byte _) W5 0 (by decide) (by simp)
  refine own_by (V := T5.setTop (mkF m 32 #[.val (.ref o0), .val (.int (0 : Int32)), .val (.ref o2), .val (.int (0 : Int32)), .val (.int (2 : Int32)), .val (.int (0 : Int32)), .val (.int x0)] [])) st5 ?_
  refine own_by (V := T5.setTop (mkF m 35 #[.val (.ref o0), .val (.int (1 : Int32)), .val (.ref o2), .val (.int (0 : Int32)), .val (.int (2 : Int32)), .val (.int (0 : Int32)), .val (.int x0)] [])) (fun t k => XS.iinc X5.here hx rfl (hb hby own_d_jdk_52_21_32) rfl (l' := #[.val (.ref o0), .val (.int (1 : Int32)), .val (.ref o2), .val (.int (0 : Int32)), .val (.int (2 : Int32)), .val (.int (0 : Int32)), .val (.int x0)]) rfl k) ?_
  refine own_by (V := T5.setTop (mkF m 38 #[.val (.ref o0), .val (.int (1 : Int32)), .val (.ref o2), .val (.int (1 : Int32)), .val (.int (2 : Int32)), .val (.int (0 : Int32)), .val (.int x0)] [])) (fun t k => XS.iinc X5.here hx rfl (hb hby own_d_jdk_52_21_35) rfl (l' := #[.val (.ref o0), .val (.int (1 : Int32)), .val (.ref o2), .val (.int (1 : Int32)), .val (.int (2 : Int32)), .val (.int (0 : Int32)), .val (.int x0)]) rfl k) ?_
  refine own_by (V := T5.setTop (mkF m 41 #[.val (.ref o0), .val (.int (1 : Int32)), .val (.ref o2), .val (.int (1 : Int32)), .val (.int (2 : Int32)), .val (.int (1 : Int32)), .val (.int x0)] [])) (fun t k => XS.iinc X5.here hx rfl (hb hby own_d_jdk_52_21_38) rfl (l' := #[.val (.ref o0), .val (.int (1 : Int32)), .val (.ref o2), .val (.int (1 : Int32)), .val (.int (2 : Int32)), .val (.int (1 : Int32)), .val (.int x0)]) rfl k) ?_
  refine own_by (V := T5.setTop (mkF m 3 #[.val (.ref o0), .val (.int (1 : Int32)), .val (.ref o2), .val (.int (1 : Int32)), .val (.int (2 : Int32)), .val (.int (1 : Int32)), .val (.int x0)] [])) (fun t k => XS.goto X5.here hx rfl (pc0 := 41) (pc' := 3) rfl (hb hby own_d_jdk_52_21_41) (by decide) (by decide) k) ?_
  refine own_by (V := T5.setTop (mkF m 5 #[.val (.ref o0), .val (.int (1 : Int32)), .val (.ref o2), .val (.int (1 : Int32)), .val (.int (2 : Int32)), .val (.int (1 : Int32)), .val (.int x0)] [(.int (1 : Int32))])) (fun t k => XS.iload X5.here hx rfl (hb hby own_d_jdk_52_21_3) rfl  k) ?_
  refine own_by (V := T5.setTop (mkF m 7 #[.val (.ref o0), .val (.int (1 : Int32)), .val (.ref o2), .val (.int (1 : Int32)), .val (.int (2 : Int32)), .val (.int (1 : Int32)), .val (.int x0)] [(.int (2 : Int32)), (.int (1 : Int32))])) (fun t k => XS.iload X5.here hx rfl (hb hby own_d_jdk_52_21_5) rfl  k) ?_
  have hb7_7 : ((1 : Int32) < (2 : Int32)) := by decide
  refine own_by (V := T5.setTop (mkF m 10 #[.val (.ref o0), .val (.int (1 : Int32)), .val (.ref o2), .val (.int (1 : Int32)), .val (.int (2 : Int32)), .val (.int (1 : Int32)), .val (.int x0)] [])) (fun t k => XS.icmpNo X5.here hx rfl (hb hby own_d_jdk_52_21_7) rfl (tlt hb7_7).2.1 k) ?_
  refine own_by (V := T5.setTop (mkF m 11 #[.val (.ref o0), .val (.int (1 : Int32)), .val (.ref o2), .val (.int (1 : Int32)), .val (.int (2 : Int32)), .val (.int (1 : Int32)), .val (.int x0)] [(.ref o0)])) (fun t k => XS.aloadN X5.here hx rfl (hb hby own_d_jdk_52_21_10) rfl rfl k) ?_
  refine own_by (V := T5.setTop (mkF m 12 #[.val (.ref o0), .val (.int (1 : Int32)), .val (.ref o2), .val (.int (1 : Int32)), .val (.int (2 : Int32)), .val (.int (1 : Int32)), .val (.int x0)] [(.int (1 : Int32)), (.ref o0)])) (fun t k => XS.iloadN X5.here hx rfl (hb hby own_d_jdk_52_21_11) rfl  k) ?_
  obtain ⟨cl8, Ar8, qa8, Sa8, Ma8, Ha8, Ua8⟩ := id f6
  have hi8 := inb_of Sa8 (j := (1 : Int32)) ⟨(by decide), (by decide)⟩
  refine own_by (V := T5.setTop (mkF m 13 #[.val (.ref o0), .val (.int (1 : Int32)), .val (.ref o2), .val (.int (1 : Int32)), .val (.int (2 : Int32)), .val (.int (1 : Int32)), .val (.int x0)] [(.int x1)])) (X5.caload hx (j := (1 : Int32)) (v := (.int x1)) (by rw [e5]; exact Ar8.1) (State.isArrayOf_alike hZ.alike Ar8.2.1) Ar8.2.2 hi8 (Has.at Ha8 hi8 rfl) (g := (mkF m 12 #[.val (.ref o0), .val (.int (1 : Int32)), .val (.ref o2), .val (.int (1 : Int32)), .val (.int (2 : Int32)), .val (.int (1 : Int32)), .val (.int x0)] [(.int (1 : Int32)), (.ref o0)])) rfl rfl (hb hby own_d_jdk_52_21_12)) ?_
  refine own_by (V := T5.setTop (mkF m 15 #[.val (.ref o0), .val (.int (1 : Int32)), .val (.ref o2), .val (.int (1 : Int32)), .val (.int (2 : Int32)), .val (.int (1 : Int32)), .val (.int x1)] [])) (fun t k => XS.istore X5.here hx rfl (hb hby own_d_jdk_52_21_13) rfl (l' := #[.val (.ref o0), .val (.int (1 : Int32)), .val (.ref o2), .val (.int (1 : Int32)), .val (.int (2 : Int32)), .val (.int (1 : Int32)), .val (.int x1)]) rfl k) ?_
  refine own_by (V := T5.setTop (mkF m 17 #[.val (.ref o0), .val (.int (1 : Int32)), .val (.ref o2), .val (.int (1 : Int32)), .val (.int (2 : Int32)), .val (.int (1 : Int32)), .val (.int x1)] [(.int x1)])) (fun t k => XS.iload X5.here hx rfl (hb hby own_d_jdk_52_21_15) rfl  k) ?_
  refine own_by (V := T5.setTop (mkF m 20 #[.val (.ref o0), .val (.int (1 : Int32)), .val (.ref o2), .val (.int (1 : Int32)), .val (.int (2 : Int32)), .val (.int (1 : Int32)), .val (.int x1)] [(.int (255 : Int32)), (.int x1)])) (fun t k => XS.sipush X5.here hx rfl (hb hby own_d_jdk_52_21_17) k) ?_
  have hb20_9 : ¬ ((255 : Int32) < x1) := hp1
  refine own_by (V := T5.setTop (mkF m 26 #[.val (.ref o0), .val (.int (1 : Int32)), .val (.ref o2), .val (.int (1 : Int32)), .val (.int (2 : Int32)), .val (.int (1 : Int32)), .val (.int x1)] [])) (fun t k => XS.icmpYes X5.here hx rfl (pc0 := 20) (pc' := 26) rfl (hb hby own_d_jdk_52_21_20) rfl (flt hb20_9).2.2.2 (by decide) (by decide) k) ?_
  refine own_by (V := T5.setTop (mkF m 27 #[.val (.ref o0), .val (.int (1 : Int32)), .val (.ref o2), .val (.int (1 : Int32)), .val (.int (2 : Int32)), .val (.int (1 : Int32)), .val (.int x1)] [(.ref o2)])) (fun t k => XS.aloadN X5.here hx rfl (hb hby own_d_jdk_52_21_26) rfl rfl k) ?_
  refine own_by (V := T5.setTop (mkF m 28 #[.val (.ref o0), .val (.int (1 : Int32)), .val (.ref o2), .val (.int (1 : Int32)), .val (.int (2 : Int32)), .val (.int (1 : Int32)), .val (.int x1)] [(.int (1 : Int32)), (.ref o2)])) (fun t k => XS.iloadN X5.here hx rfl (hb hby own_d_jdk_52_21_27) rfl  k) ?_
  refine own_by (V := T5.setTop (mkF m 30 #[.val (.ref o0), .val (.int (1 : Int32)), .val (.ref o2), .val (.int (1 : Int32)), .val (.int (2 : Int32)), .val (.int (1 : Int32)), .val (.int x1)] [(.int x1), (.int (1 : Int32)), (.ref o2)])) (fun t k => XS.iload X5.here hx rfl (hb hby own_d_jdk_52_21_28) rfl  k) ?_
  refine own_by (V := T5.setTop (mkF m 31 #[.val (.ref o0), .val (.int (1 : Int32)), .val (.ref o2), .val (.int (1 : Int32)), .val (.int (2 : Int32)), .val (.int (1 : Int32)), .val (.int x1)] [(.int (x1.toInt8.toInt32)), (.int (1 : Int32)), (.ref o2)])) (fun t k => XS.i2b X5.here hx rfl (hb hby own_d_jdk_52_21_30) rfl k) ?_
  obtain ⟨cl10, Ar10, qa10, Sa10, Ma10, Ha10, Ua10⟩ := id V5
  obtain ⟨T11, h11, X11, e11, W11, st11⟩ := stB X5 hx hZ e5 Ar10 (j := (1 : Int32)) (inb_of Sa10 ⟨(by decide), (by decide)⟩) (g := (mkF m 31 #[.val (.ref o0), .val (.int (1 : Int32)), .val (.ref o2), .val (.int (1 : Int32)), .val (.int (2 : Int32)), .val (.int (1 : Int32)), .val (.int x1)] [(.int (x1.toInt8.toInt32)), (.int (1 : Int32)), (.ref o2)])) rfl rfl (hb hby own_d_jdk_52_21_31)
  have N11 := Fr.snoc X11 N5 g2
  have K11 := K5.wr W11 (Or.inl (List.mem_of_getElem? (i := 0) rfl))
  have Zs11 : n0 ≤ h11.size := by rw [W11.size]; exact Zs5
  have f12 := f6.other W11 hne
  have V11 : Arv Z h11 o2 kb .byte (2 : Int32) [(.int (nar .byte (x0.toInt8.toInt32))), (.int (nar .byte (x1.toInt8.toInt32)))] (.int (0 : Int32)) := Arv.set Ar10 qa10 Sa10 Ma10 Ha10 Ua10 (fits_nar_byte _) W11 1 (by decide) (by simp)
  refine own_by (V := T11.setTop (mkF m 32 #[.val (.ref o0), .val (.int (1 : Int32)), .val (.ref o2), .val (.int (1 : Int32)), .val (.int (2 : Int32)), .val (.int (1 : Int32)), .val (.int x1)] [])) st11 ?_
  refine own_by (V := T11.setTop (mkF m 35 #[.val (.ref o0), .val (.int (2 : Int32)), .val (.ref o2), .val (.int (1 : Int32)), .val (.int (2 : Int32)), .val (.int (1 : Int32)), .val (.int x1)] [])) (fun t k => XS.iinc X11.here hx rfl (hb hby own_d_jdk_52_21_32) rfl (l' := #[.val (.ref o0), .val (.int (2 : Int32)), .val (.ref o2), .val (.int (1 : Int32)), .val (.int (2 : Int32)), .val (.int (1 : Int32)), .val (.int x1)]) rfl k) ?_
  refine own_by (V := T11.setTop (mkF m 38 #[.val (.ref o0), .val (.int (2 : Int32)), .val (.ref o2), .val (.int (2 : Int32)), .val (.int (2 : Int32)), .val (.int (1 : Int32)), .val (.int x1)] [])) (fun t k => XS.iinc X11.here hx rfl (hb hby own_d_jdk_52_21_35) rfl (l' := #[.val (.ref o0), .val (.int (2 : Int32)), .val (.ref o2), .val (.int (2 : Int32)), .val (.int (2 : Int32)), .val (.int (1 : Int32)), .val (.int x1)]) rfl k) ?_
  refine own_by (V := T11.setTop (mkF m 41 #[.val (.ref o0), .val (.int (2 : Int32)), .val (.ref o2), .val (.int (2 : Int32)), .val (.int (2 : Int32)), .val (.int (2 : Int32)), .val (.int x1)] [])) (fun t k => XS.iinc X11.here hx rfl (hb hby own_d_jdk_52_21_38) rfl (l' := #[.val (.ref o0), .val (.int (2 : Int32)), .val (.ref o2), .val (.int (2 : Int32)), .val (.int (2 : Int32)), .val (.int (2 : Int32)), .val (.int x1)]) rfl k) ?_
  refine own_by (V := T11.setTop (mkF m 3 #[.val (.ref o0), .val (.int (2 : Int32)), .val (.ref o2), .val (.int (2 : Int32)), .val (.int (2 : Int32)), .val (.int (2 : Int32)), .val (.int x1)] [])) (fun t k => XS.goto X11.here hx rfl (pc0 := 41) (pc' := 3) rfl (hb hby own_d_jdk_52_21_41) (by decide) (by decide) k) ?_
  refine own_by (V := T11.setTop (mkF m 5 #[.val (.ref o0), .val (.int (2 : Int32)), .val (.ref o2), .val (.int (2 : Int32)), .val (.int (2 : Int32)), .val (.int (2 : Int32)), .val (.int x1)] [(.int (2 : Int32))])) (fun t k => XS.iload X11.here hx rfl (hb hby own_d_jdk_52_21_3) rfl  k) ?_
  refine own_by (V := T11.setTop (mkF m 7 #[.val (.ref o0), .val (.int (2 : Int32)), .val (.ref o2), .val (.int (2 : Int32)), .val (.int (2 : Int32)), .val (.int (2 : Int32)), .val (.int x1)] [(.int (2 : Int32)), (.int (2 : Int32))])) (fun t k => XS.iload X11.here hx rfl (hb hby own_d_jdk_52_21_5) rfl  k) ?_
  have hb7_13 : ¬ ((2 : Int32) < (2 : Int32)) := by decide
  refine own_by (V := T11.setTop (mkF m 44 #[.val (.ref o0), .val (.int (2 : Int32)), .val (.ref o2), .val (.int (2 : Int32)), .val (.int (2 : Int32)), .val (.int (2 : Int32)), .val (.int x1)] [])) (fun t k => XS.icmpYes X11.here hx rfl (pc0 := 7) (pc' := 44) rfl (hb hby own_d_jdk_52_21_7) rfl (flt hb7_13).2.1 (by decide) (by decide) k) ?_
  refine own_by (V := T11.setTop (mkF m 46 #[.val (.ref o0), .val (.int (2 : Int32)), .val (.ref o2), .val (.int (2 : Int32)), .val (.int (2 : Int32)), .val (.int (2 : Int32)), .val (.int x1)] [(.int (2 : Int32))])) (fun t k => XS.iload X11.here hx rfl (hb hby own_d_jdk_52_21_44) rfl  k) ?_
  refine own_retI X11 hx hlk e11 Bd.returns (hb hby own_d_jdk_52_21_46) ?_ (by decide) (by decide)
  exact ⟨rfl, N11, K11, V11⟩
def own_Q_own_cmp2_2 (Z : State) (o0 : Addr) (kc : ClassId) (x0 : Int32) (x1 : Int32) (h0 : Heap) (n0 : Nat) : Option Value → Heap → List Loc → Prop := fun v h L => ∃ (b : Addr) (kb : ClassId), v = some (.ref b) ∧ Fr n0 L ∧ Keep h0 h [] ∧ h0.size ≤ b ∧ Arv Z h b kb .byte (2 : Int32) [(.int (nar .byte (x0.toInt8.toInt32))), (.int (nar .byte (x1.toInt8.toInt32)))] (.int (0 : Int32))
theorem own_ef_own_cmp2_2 (m : MethodId) (x0 : Addr) : entryFrame m #[(.ref x0), (.int (0 : Int32)), (.int (2 : Int32))] 6 = mkF m 0 #[.val (.ref x0), .val (.int (0 : Int32)), .val (.int (2 : Int32)), .unset, .unset, .unset] [] := by first | (simp [entryFrame, mkF, argsToLocals, Value.category]; done) | rfl
set_option maxRecDepth 65536 in
set_option maxHeartbeats 40000000 in
theorem own_cmp2_2 (l : Launch) (Z : State) (a0 : Array Value) (hw : ∀ d ∈ tables_1, d.before a0 Z = true) (ws : List Jvm.Cond) (o0 : Addr) (kc : ClassId) (x0 : Int32) (x1 : Int32) (h0 : Heap) (n0 : Nat) (Z0 : n0 ≤ h0.size) (A0 : Arv Z h0 o0 kc .char (2 : Int32) [(.int x0), (.int x1)] (.int (0 : Int32))) (hp0 : ¬ (255 : Int32) < x0) (hp1 : ¬ (255 : Int32) < x1) :
    MetFree l (⟨"java/lang/StringUTF16", "compress", "([CII)[B"⟩ : MethodName) (head1 (Jvm.Cond.code (⟨"java/lang/StringUTF16", "compress", "([CII)[B"⟩ : MethodName) jdk_52_method_16_code 6 (some (.array .byte)) :: ws) ({ frames := 1, cells := 1, slots := 2, locals := 18 } : Room)) (fun a U => a = #[(.ref o0), (.int (0 : Int32)), (.int (2 : Int32))] ∧ Z.Warmed39 U.vm ∧ U.heap = h0) (fun _ _ _ _ _ => True) (fun _ U o U' => ∃ v L, o = .returned v ∧ (own_Q_own_cmp2_2 Z o0 kc x0 x1 h0 n0) v U'.heap L ∧ FrameEnd U o U' L ({ frames := 1, cells := 1, slots := 2, locals := 18 } : Room).cells ({ frames := 1, cells := 1, slots := 2, locals := 18 } : Room).slots) := by
  refine MetFree.of_bodySF (plainFor_of_name own_pn1) hisR ?_
  intro p e s m args below meth c s₁ Bd hml0 hP hK
  obtain ⟨rfl, hZ, hh⟩ := hP
  have hx := Bd.exec
  have hby := Bd.bytes
  have hml : c.maxLocals = 6 := hml0
  have hown : s.vm.findClass "java/lang/StringUTF16" = some m.cls := findClass_of_methodNamed Bd.named
  have hnm := (name_of_methodNamed Bd.named Bd.method).1
  have hlk : meth.locks = false := BodyLoose.notSynchronized Bd
  have X0 : Stand p l e ({ frames := 1, cells := 1, slots := 2, locals := 18 } : Room) s m #[(.ref o0), (.int (0 : Int32)), (.int (2 : Int32))] below meth c s₁ [] 0 0 := Stand.of_body Bd
  have e0 : s₁.heap = h0 := by rw [← hh, Bd.state]; rfl
  have N0 := Fr.nil n0
  show own_Ends p e below s (own_Q_own_cmp2_2 Z o0 kc x0 x1 h0 n0) ({ frames := 1, cells := 1, slots := 2, locals := 18 } : Room).cells ({ frames := 1, cells := 1, slots := 2, locals := 18 } : Room).slots _
  refine own_by (V := s₁.setTop (mkF m 0 #[.val (.ref o0), .val (.int (0 : Int32)), .val (.int (2 : Int32)), .unset, .unset, .unset] [])) (fun t k => castTop (own_ef_own_cmp2_2 m o0) k) ?_
  refine own_by (V := s₁.setTop (mkF m 1 #[.val (.ref o0), .val (.int (0 : Int32)), .val (.int (2 : Int32)), .unset, .unset, .unset] [(.int (2 : Int32))])) (fun t k => XS.iloadN X0.here hx rfl (hb hby own_d_jdk_52_16_0) rfl  k) ?_
  obtain ⟨T1, h1, k1, X1, e1, E1, A1, st1⟩ := newP X0 hx hZ (hw _ (List.mem_of_getElem? (i := 25) rfl)) e0 (g := (mkF m 1 #[.val (.ref o0), .val (.int (0 : Int32)), .val (.int (2 : Int32)), .unset, .unset, .unset] [(.int (2 : Int32))])) rfl (hb hby own_d_jdk_52_16_1) rfl (by decide) (cap := 2) (by decide) (by decide) (by decide) (by decide)
  obtain ⟨b1, g1⟩ : ∃ z, z = h0.size := ⟨_, rfl⟩
  rw [← g1] at A1 st1
  have kb1 : h0.size ≤ b1 := Nat.le_trans (Keep.refl h0 []).1 (Nat.le_of_eq g1.symm)
  have ne2 : o0 ≠ b1 := Nat.ne_of_lt (Nat.lt_of_lt_of_le A0.lt (Nat.le_of_eq g1.symm))
  have f3 := A0.ext E1
  have K1 := (Keep.refl h0 []).ext E1
  have V1 : Arv Z h1 b1 k1 .byte (2 : Int32) [(.int (0 : Int32)), (.int (0 : Int32))] (.int (0 : Int32)) := (Arv.new A1 (by decide)).pad (pad_rep [] (.int (0 : Int32)) 2)
  have gn1 : n0 ≤ b1 := Nat.le_trans Z0 (Nat.le_of_eq g1.symm)
  have Zs1 : n0 ≤ h1.size := Nat.le_trans Z0 E1.1
  refine own_by (V := T1.setTop (mkF m 3 #[.val (.ref o0), .val (.int (0 : Int32)), .val (.int (2 : Int32)), .unset, .unset, .unset] [(.ref b1)])) st1 ?_
  refine own_by (V := T1.setTop (mkF m 4 #[.val (.ref o0), .val (.int (0 : Int32)), .val (.int (2 : Int32)), .val (.ref b1), .unset, .unset] [])) (fun t k => XS.astoreN X1.here hx rfl (hb hby own_d_jdk_52_16_3) rfl rfl (l' := #[.val (.ref o0), .val (.int (0 : Int32)), .val (.int (2 : Int32)), .val (.ref b1), .unset, .unset]) rfl k) ?_
  refine own_by (V := T1.setTop (mkF m 5 #[.val (.ref o0), .val (.int (0 : Int32)), .val (.int (2 : Int32)), .val (.ref b1), .unset, .unset] [(.ref o0)])) (fun t k => XS.aloadN X1.here hx rfl (hb hby own_d_jdk_52_16_4) rfl rfl k) ?_
  refine own_by (V := T1.setTop (mkF m 6 #[.val (.ref o0), .val (.int (0 : Int32)), .val (.int (2 : Int32)), .val (.ref b1), .unset, .unset] [(.int (0 : Int32)), (.ref o0)])) (fun t k => XS.iloadN X1.here hx rfl (hb hby own_d_jdk_52_16_5) rfl  k) ?_
  refine own_by (V := T1.setTop (mkF m 7 #[.val (.ref o0), .val (.int (0 : Int32)), .val (.int (2 : Int32)), .val (.ref b1), .unset, .unset] [(.ref b1), (.int (0 : Int32)), (.ref o0)])) (fun t k => XS.aloadN X1.here hx rfl (hb hby own_d_jdk_52_16_6) rfl rfl k) ?_
  refine own_by (V := T1.setTop (mkF m 8 #[.val (.ref o0), .val (.int (0 : Int32)), .val (.int (2 : Int32)), .val (.ref b1), .unset, .unset] [(.int (0 : Int32)), (.ref b1), (.int (0 : Int32)), (.ref o0)])) (fun t k => XS.iconst X1.here hx rfl (hb hby own_d_jdk_52_16_7) k) ?_
  refine own_by (V := T1.setTop (mkF m 9 #[.val (.ref o0), .val (.int (0 : Int32)), .val (.int (2 : Int32)), .val (.ref b1), .unset, .unset] [(.int (2 : Int32)), (.int (0 : Int32)), (.ref b1), (.int (0 : Int32)), (.ref o0)])) (fun t k => XS.iloadN X1.here hx rfl (hb hby own_d_jdk_52_16_8) rfl  k) ?_
  obtain ⟨_, _, ⟨T6, Lq6, kq6, nq6⟩, -, X6, ⟨Lc6, hQ6, lq6, yq6, zq6⟩, st6⟩ := Jvm.LawKit.callS X1 hx (y := (⟨"java/lang/StringUTF16", "compress", "([CI[BII)I"⟩ : MethodName)) hown (mvT hZ (hw _ (List.mem_of_getElem? (i := 58) rfl))) (mvT hZ (hw _ (List.mem_of_getElem? (i := 59) rfl))) (mvT hZ (hw _ (List.mem_of_getElem? (i := 56) rfl))) (mvT hZ (hw _ (List.mem_of_getElem? (i := 60) rfl))) (by decide) (backOf (W := 0) (own_cmp1_2 l Z a0 hw [] o0 b1 kc k1 x0 x1 h1 n0 Zs1 f3 V1 ne2 gn1 hp0 hp1) hZ (hw _ (List.mem_of_getElem? (i := 60) rfl)) (hw _ (List.mem_of_getElem? (i := 56) rfl)) (by decide) (by decide)) (g := (mkF m 9 #[.val (.ref o0), .val (.int (0 : Int32)), .val (.int (2 : Int32)), .val (.ref b1), .unset, .unset] [(.int (2 : Int32)), (.int (0 : Int32)), (.ref b1), (.int (0 : Int32)), (.ref o0)])) rfl (by rw [hml]; rfl) (argsL := [(.ref o0), (.int (0 : Int32)), (.ref b1), (.int (0 : Int32)), (.int (2 : Int32))]) (rest := []) (lenOf own_pd2 rfl) rfl (by show 2 * 0 + _ ≤ _; exact Nat.le_of_eq rfl) (hb hby own_d_jdk_52_16_9) (fun _ _ => ⟨rfl, e1, (by decide : 1 + 0 ≤ _), (by decide : 2 + 0 ≤ _)⟩)
  dsimp only [Pt.U, Pt.locs, Pt.cells, Pt.slots] at X6 lq6 yq6 zq6 st6 hQ6
  subst lq6 yq6 zq6
  obtain ⟨rfl, N6q, Kc6, g6_0⟩ := hQ6
  have N6 := Fr.app N0 N6q
  have f7 := f3.keep Kc6 (ninS ne2 nin0)
  have K6 := K1.trans Kc6 (allS (Or.inr kb1) all0)
  have Zs6 : n0 ≤ T6.heap.size := Nat.le_trans Zs1 Kc6.1
  refine own_by (V := T6.setTop (mkF m 12 #[.val (.ref o0), .val (.int (0 : Int32)), .val (.int (2 : Int32)), .val (.ref b1), .unset, .unset] [(.int (2 : Int32))])) st6 ?_
  refine own_by (V := T6.setTop (mkF m 14 #[.val (.ref o0), .val (.int (0 : Int32)), .val (.int (2 : Int32)), .val (.ref b1), .val (.int (2 : Int32)), .unset] [])) (fun t k => XS.istore X6.here hx rfl (hb hby own_d_jdk_52_16_12) rfl (l' := #[.val (.ref o0), .val (.int (0 : Int32)), .val (.int (2 : Int32)), .val (.ref b1), .val (.int (2 : Int32)), .unset]) rfl k) ?_
  refine own_by (V := T6.setTop (mkF m 16 #[.val (.ref o0), .val (.int (0 : Int32)), .val (.int (2 : Int32)), .val (.ref b1), .val (.int (2 : Int32)), .unset] [(.int (2 : Int32))])) (fun t k => XS.iload X6.here hx rfl (hb hby own_d_jdk_52_16_14) rfl  k) ?_
  refine own_by (V := T6.setTop (mkF m 17 #[.val (.ref o0), .val (.int (0 : Int32)), .val (.int (2 : Int32)), .val (.ref b1), .val (.int (2 : Int32)), .unset] [(.int (2 : Int32)), (.int (2 : Int32))])) (fun t k => XS.iloadN X6.here hx rfl (hb hby own_d_jdk_52_16_16) rfl  k) ?_
  have hb17_9 : ((2 : Int32) = (2 : Int32)) := rfl
  refine own_by (V := T6.setTop (mkF m 57 #[.val (.ref o0), .val (.int (0 : Int32)), .val (.int (2 : Int32)), .val (.ref b1), .val (.int (2 : Int32)), .unset] [])) (fun t k => XS.icmpYes X6.here hx rfl (pc0 := 17) (pc' := 57) rfl (hb hby own_d_jdk_52_16_17) rfl (teq hb17_9).1 (by decide) (by decide) k) ?_
  refine own_by (V := T6.setTop (mkF m 58 #[.val (.ref o0), .val (.int (0 : Int32)), .val (.int (2 : Int32)), .val (.ref b1), .val (.int (2 : Int32)), .unset] [(.ref b1)])) (fun t k => XS.aloadN X6.here hx rfl (hb hby own_d_jdk_52_16_57) rfl rfl k) ?_
  refine own_retA X6 hx hlk rfl (w := (.ref b1)) rfl Bd.returns rfl (hb hby own_d_jdk_52_16_58) ?_ (by decide) (by decide)
  exact ⟨b1, k1, rfl, N6, K6, (kb1), g6_0⟩
def own_Q_own_coder_2 (Z : State) (o0 : Addr) (kb : ClassId) (y0 : Value) (y1 : Value) (h0 : Heap) (n0 : Nat) : Option Value → Heap → List Loc → Prop := fun v h L => v = some (.int (0 : Int32)) ∧ Fr n0 L ∧ h = h0
theorem own_ef_own_coder_2 (m : MethodId) (x0 : Addr) : entryFrame m #[(.ref x0), (.int (2 : Int32))] 2 = mkF m 0 #[.val (.ref x0), .val (.int (2 : Int32))] [] := by first | (simp [entryFrame, mkF, argsToLocals, Value.category]; done) | rfl
set_option maxRecDepth 65536 in
set_option maxHeartbeats 40000000 in
theorem own_coder_2 (l : Launch) (Z : State) (a0 : Array Value) (hw : ∀ d ∈ tables_1, d.before a0 Z = true) (ws : List Jvm.Cond) (o0 : Addr) (kb : ClassId) (y0 : Value) (y1 : Value) (h0 : Heap) (n0 : Nat) (A0 : Arv Z h0 o0 kb .byte (2 : Int32) [y0, y1] (.int (0 : Int32))) :
    MetFree l (⟨"java/lang/StringUTF16", "coderFromArrayLen", "([BI)B"⟩ : MethodName) (head1 (Jvm.Cond.code (⟨"java/lang/StringUTF16", "coderFromArrayLen", "([BI)B"⟩ : MethodName) jdk_52_method_15_code 2 (some .byte) :: ws) ({ frames := 0, cells := 0, slots := 0, locals := 0 } : Room)) (fun a U => a = #[(.ref o0), (.int (2 : Int32))] ∧ Z.Warmed39 U.vm ∧ U.heap = h0) (fun _ _ _ _ _ => True) (fun _ U o U' => ∃ v L, o = .returned v ∧ (own_Q_own_coder_2 Z o0 kb y0 y1 h0 n0) v U'.heap L ∧ FrameEnd U o U' L ({ frames := 0, cells := 0, slots := 0, locals := 0 } : Room).cells ({ frames := 0, cells := 0, slots := 0, locals := 0 } : Room).slots) := by
  refine MetFree.of_bodySF (plainFor_of_name own_pn1) hisR ?_
  intro p e s m args below meth c s₁ Bd hml0 hP hK
  obtain ⟨rfl, hZ, hh⟩ := hP
  have hx := Bd.exec
  have hby := Bd.bytes
  have hml : c.maxLocals = 2 := hml0
  have hown : s.vm.findClass "java/lang/StringUTF16" = some m.cls := findClass_of_methodNamed Bd.named
  have hnm := (name_of_methodNamed Bd.named Bd.method).1
  have hlk : meth.locks = false := BodyLoose.notSynchronized Bd
  have X0 : Stand p l e ({ frames := 0, cells := 0, slots := 0, locals := 0 } : Room) s m #[(.ref o0), (.int (2 : Int32))] below meth c s₁ [] 0 0 := Stand.of_body Bd
  have e0 : s₁.heap = h0 := by rw [← hh, Bd.state]; rfl
  have N0 := Fr.nil n0
  show own_Ends p e below s (own_Q_own_coder_2 Z o0 kb y0 y1 h0 n0) ({ frames := 0, cells := 0, slots := 0, locals := 0 } : Room).cells ({ frames := 0, cells := 0, slots := 0, locals := 0 } : Room).slots _
  refine own_by (V := s₁.setTop (mkF m 0 #[.val (.ref o0), .val (.int (2 : Int32))] [])) (fun t k => castTop (own_ef_own_coder_2 m o0) k) ?_
  refine own_by (V := s₁.setTop (mkF m 1 #[.val (.ref o0), .val (.int (2 : Int32))] [(.int (2 : Int32))])) (fun t k => XS.iloadN X0.here hx rfl (hb hby own_d_jdk_52_15_0) rfl  k) ?_
  refine own_by (V := s₁.setTop (mkF m 2 #[.val (.ref o0), .val (.int (2 : Int32))] [(.ref o0), (.int (2 : Int32))])) (fun t k => XS.aloadN X0.here hx rfl (hb hby own_d_jdk_52_15_1) rfl rfl k) ?_
  obtain ⟨cl1, Ar1, qa1, Sa1, Ma1, Ha1, Ua1⟩ := id A0
  have hl1 := len_of Sa1 Ma1
  refine own_by (V := s₁.setTop (mkF m 3 #[.val (.ref o0), .val (.int (2 : Int32))] [(.int (2 : Int32)), (.int (2 : Int32))])) (by have q := X0.arraylength hx (cell := cl1) (by rw [e0]; exact Ar1.1) (State.isArrayOf_alike hZ.alike Ar1.2.1) (g := (mkF m 2 #[.val (.ref o0), .val (.int (2 : Int32))] [(.ref o0), (.int (2 : Int32))])) rfl (rest := [(.int (2 : Int32))]) rfl (hb hby own_d_jdk_52_15_2); rw [hl1] at q; exact q) ?_
  refine own_by (V := s₁.setTop (mkF m 4 #[.val (.ref o0), .val (.int (2 : Int32))] [(.int (0 : Int32))])) (fun t k => XS.isub X0.here hx rfl (hb hby own_d_jdk_52_15_3) rfl k) ?_
  refine own_by (V := s₁.setTop (mkF m 6 #[.val (.ref o0), .val (.int (2 : Int32))] [(.int (31 : Int32)), (.int (0 : Int32))])) (fun t k => XS.bipush X0.here hx rfl (hb hby own_d_jdk_52_15_4) k) ?_
  refine own_by (V := s₁.setTop (mkF m 7 #[.val (.ref o0), .val (.int (2 : Int32))] [(.int (((0 : Int32).toUInt32 >>> ((31 : Int32) &&& 31).toUInt32).toInt32))])) (fun t k => XS.iushr X0.here hx rfl (hb hby own_d_jdk_52_15_6) rfl k) ?_
  refine own_by (V := s₁.setTop (mkF m 8 #[.val (.ref o0), .val (.int (2 : Int32))] [(.int ((((0 : Int32).toUInt32 >>> ((31 : Int32) &&& 31).toUInt32).toInt32).toInt8.toInt32))])) (fun t k => XS.i2b X0.here hx rfl (hb hby own_d_jdk_52_15_7) rfl k) ?_
  refine own_retN X0 hx hlk e0 Bd.returns (t := .byte) (by simp) (by decide) (hb hby own_d_jdk_52_15_8) ?_ (by decide) (by decide)
  exact ⟨congrArg (fun z => some (Value.int z)) (show ((((0 : Int32).toUInt32 >>> ((31 : Int32) &&& 31).toUInt32).toInt32).toInt8.toInt32) = (0 : Int32) from by decide), N0, rfl⟩
def own_Q_own_strA_2 (Z : State) (o0 : Addr) (o1 : Addr) (kc : ClassId) (cs : Int32) (x0 : Int32) (x1 : Int32) (h0 : Heap) (n0 : Nat) : Option Value → Heap → List Loc → Prop := fun v h L => ∃ (b : Addr) (kb : ClassId), v = none ∧ Fr n0 L ∧ Keep h0 h [o0] ∧ h0.size ≤ b ∧ Exa Z h o0 "java/lang/String" ∧ Fld Z h o0 "java/lang/String" "value" "[B" (.ref b) ∧ Fld Z h o0 "java/lang/String" "coder" "B" (.int (0 : Int32)) ∧ Arv Z h b kb .byte (2 : Int32) [(.int (nar .byte (x0.toInt8.toInt32))), (.int (nar .byte (x1.toInt8.toInt32)))] (.int (0 : Int32))
theorem own_ef_own_strA_2 (m : MethodId) (x0 : Addr) (x1 : Addr) : entryFrame m #[(.ref x0), (.ref x1), (.int (0 : Int32)), (.int (2 : Int32)), .null] 6 = mkF m 0 #[.val (.ref x0), .val (.ref x1), .val (.int (0 : Int32)), .val (.int (2 : Int32)), .val .null, .unset] [] := by first | (simp [entryFrame, mkF, argsToLocals, Value.category]; done) | rfl
set_option maxRecDepth 65536 in
set_option maxHeartbeats 40000000 in
theorem own_strA_2 (l : Launch) (Z : State) (a0 : Array Value) (hw : ∀ d ∈ tables_1, d.before a0 Z = true) (ws : List Jvm.Cond) (o0 : Addr) (o1 : Addr) (kc : ClassId) (cs : Int32) (x0 : Int32) (x1 : Int32) (h0 : Heap) (n0 : Nat) (Z0 : n0 ≤ h0.size) (g0 : n0 ≤ o0) (E0 : Exa Z h0 o0 "java/lang/String") (Fv : Fld Z h0 o0 "java/lang/String" "value" "[B" .null) (Fc : Fld Z h0 o0 "java/lang/String" "coder" "B" (.int (0 : Int32))) (A1 : Arv Z h0 o1 kc .char (2 : Int32) [(.int x0), (.int x1)] (.int (0 : Int32))) (hne : o1 ≠ o0) (SS : Sta Z h0 "java/lang/String" "COMPACT_STRINGS" "Z" (.int cs)) (hcs : ¬ cs = (0 : Int32)) (hp0 : ¬ (255 : Int32) < x0) (hp1 : ¬ (255 : Int32) < x1) :
    MetFree l (⟨"java/lang/String", "<init>", "([CIILjava/lang/Void;)V"⟩ : MethodName) (head1 (Jvm.Cond.code (⟨"java/lang/String", "<init>", "([CIILjava/lang/Void;)V"⟩ : MethodName) jdk_42_method_149_code 6 none :: ws) ({ frames := 2, cells := 1, slots := 2, locals := 35 } : Room)) (fun a U => a = #[(.ref o0), (.ref o1), (.int (0 : Int32)), (.int (2 : Int32)), .null] ∧ Z.Warmed39 U.vm ∧ U.heap = h0) (fun _ _ _ _ _ => True) (fun _ U o U' => ∃ v L, o = .returned v ∧ (own_Q_own_strA_2 Z o0 o1 kc cs x0 x1 h0 n0) v U'.heap L ∧ FrameEnd U o U' L ({ frames := 2, cells := 1, slots := 2, locals := 35 } : Room).cells ({ frames := 2, cells := 1, slots := 2, locals := 35 } : Room).slots) := by
  refine MetFree.of_bodySF (plainFor_of_name own_pn2) hisR ?_
  intro p e s m args below meth c s₁ Bd hml0 hP hK
  obtain ⟨rfl, hZ, hh⟩ := hP
  have hx := Bd.exec
  have hby := Bd.bytes
  have hml : c.maxLocals = 6 := hml0
  have hown : s.vm.findClass "java/lang/String" = some m.cls := findClass_of_methodNamed Bd.named
  have hnm := (name_of_methodNamed Bd.named Bd.method).1
  have hlk : meth.locks = false := BodyLoose.notSynchronized Bd
  have X0 : Stand p l e ({ frames := 2, cells := 1, slots := 2, locals := 35 } : Room) s m #[(.ref o0), (.ref o1), (.int (0 : Int32)), (.int (2 : Int32)), .null] below meth c s₁ [] 0 0 := Stand.of_body Bd
  have e0 : s₁.heap = h0 := by rw [← hh, Bd.state]; rfl
  have N0 := Fr.nil n0
  show own_Ends p e below s (own_Q_own_strA_2 Z o0 o1 kc cs x0 x1 h0 n0) ({ frames := 2, cells := 1, slots := 2, locals := 35 } : Room).cells ({ frames := 2, cells := 1, slots := 2, locals := 35 } : Room).slots _
  refine own_by (V := s₁.setTop (mkF m 0 #[.val (.ref o0), .val (.ref o1), .val (.int (0 : Int32)), .val (.int (2 : Int32)), .val .null, .unset] [])) (fun t k => castTop (own_ef_own_strA_2 m o0 o1) k) ?_
  refine own_by (V := s₁.setTop (mkF m 1 #[.val (.ref o0), .val (.ref o1), .val (.int (0 : Int32)), .val (.int (2 : Int32)), .val .null, .unset] [(.ref o0)])) (fun t k => XS.aloadN X0.here hx rfl (hb hby own_d_jdk_42_149_0) rfl rfl k) ?_
  obtain ⟨T1, X1, e1, st1⟩ := initO X0 hx hZ hown (hw _ (List.mem_of_getElem? (i := 21) rfl)) (hw _ (List.mem_of_getElem? (i := 22) rfl)) (hw _ (List.mem_of_getElem? (i := 23) rfl)) e0 (g := (mkF m 1 #[.val (.ref o0), .val (.ref o1), .val (.int (0 : Int32)), .val (.int (2 : Int32)), .val .null, .unset] [(.ref o0)])) rfl (by rw [hml]; rfl) rfl (hb hby own_d_jdk_42_149_1) (by decide) (W := 0) (by show 2 * 0 + _ ≤ _; exact Nat.le_of_eq rfl) (by decide)
  refine own_by (V := T1.setTop (mkF m 4 #[.val (.ref o0), .val (.ref o1), .val (.int (0 : Int32)), .val (.int (2 : Int32)), .val .null, .unset] [])) st1 ?_
  refine own_by (V := T1.setTop (mkF m 5 #[.val (.ref o0), .val (.ref o1), .val (.int (0 : Int32)), .val (.int (2 : Int32)), .val .null, .unset] [(.int (2 : Int32))])) (fun t k => XS.iloadN X1.here hx rfl (hb hby own_d_jdk_42_149_4) rfl  k) ?_
  have hb5_2 : ¬ ((2 : Int32) = (0 : Int32)) := by decide
  refine own_by (V := T1.setTop (mkF m 27 #[.val (.ref o0), .val (.ref o1), .val (.int (0 : Int32)), .val (.int (2 : Int32)), .val .null, .unset] [])) (fun t k => XS.ifYes X1.here hx rfl (pc0 := 5) (pc' := 27) rfl (hb hby own_d_jdk_42_149_5) rfl ((if0 _ _).trans (feq hb5_2).2) (by decide) (by decide) k) ?_
  obtain ⟨T3, X3, e3, st3⟩ := getS2 X1 hx hZ hown (host := "") (Or.inl (hw _ (List.mem_of_getElem? (i := 53) rfl))) Via.refl e1 SS (g := (mkF m 27 #[.val (.ref o0), .val (.ref o1), .val (.int (0 : Int32)), .val (.int (2 : Int32)), .val .null, .unset] [])) rfl (hb hby own_d_jdk_42_149_27)
  refine own_by (V := T3.setTop (mkF m 30 #[.val (.ref o0), .val (.ref o1), .val (.int (0 : Int32)), .val (.int (2 : Int32)), .val .null, .unset] [(.int cs)])) st3 ?_
  have hb30_4 : ¬ (cs = (0 : Int32)) := hcs
  refine own_by (V := T3.setTop (mkF m 33 #[.val (.ref o0), .val (.ref o1), .val (.int (0 : Int32)), .val (.int (2 : Int32)), .val .null, .unset] [])) (fun t k => XS.ifNo X3.here hx rfl (hb hby own_d_jdk_42_149_30) rfl ((if0 _ _).trans (feq hb30_4).1) k) ?_
  refine own_by (V := T3.setTop (mkF m 34 #[.val (.ref o0), .val (.ref o1), .val (.int (0 : Int32)), .val (.int (2 : Int32)), .val .null, .unset] [(.ref o1)])) (fun t k => XS.aloadN X3.here hx rfl (hb hby own_d_jdk_42_149_33) rfl rfl k) ?_
  refine own_by (V := T3.setTop (mkF m 35 #[.val (.ref o0), .val (.ref o1), .val (.int (0 : Int32)), .val (.int (2 : Int32)), .val .null, .unset] [(.int (0 : Int32)), (.ref o1)])) (fun t k => XS.iloadN X3.here hx rfl (hb hby own_d_jdk_42_149_34) rfl  k) ?_
  refine own_by (V := T3.setTop (mkF m 36 #[.val (.ref o0), .val (.ref o1), .val (.int (0 : Int32)), .val (.int (2 : Int32)), .val .null, .unset] [(.int (2 : Int32)), (.int (0 : Int32)), (.ref o1)])) (fun t k => XS.iloadN X3.here hx rfl (hb hby own_d_jdk_42_149_35) rfl  k) ?_
  obtain ⟨_, _, ⟨T5, Lq5, kq5, nq5⟩, -, X5, ⟨Lc5, hQ5, lq5, yq5, zq5⟩, st5⟩ := Jvm.LawKit.callS X3 hx (y := (⟨"java/lang/StringUTF16", "compress", "([CII)[B"⟩ : MethodName)) hown (mvT hZ (hw _ (List.mem_of_getElem? (i := 54) rfl))) (mvT hZ (hw _ (List.mem_of_getElem? (i := 55) rfl))) (mvT hZ (hw _ (List.mem_of_getElem? (i := 56) rfl))) (mvT hZ (hw _ (List.mem_of_getElem? (i := 57) rfl))) (by decide) (backOf (W := 0) (own_cmp2_2 l Z a0 hw [] o1 kc x0 x1 h0 n0 Z0 A1 hp0 hp1) hZ (hw _ (List.mem_of_getElem? (i := 57) rfl)) (hw _ (List.mem_of_getElem? (i := 56) rfl)) (by decide) (by decide)) (g := (mkF m 36 #[.val (.ref o0), .val (.ref o1), .val (.int (0 : Int32)), .val (.int (2 : Int32)), .val .null, .unset] [(.int (2 : Int32)), (.int (0 : Int32)), (.ref o1)])) rfl (by rw [hml]; rfl) (argsL := [(.ref o1), (.int (0 : Int32)), (.int (2 : Int32))]) (rest := []) (lenOf own_pd3 rfl) rfl (by show 2 * 0 + _ ≤ _; exact Nat.le_of_eq rfl) (hb hby own_d_jdk_42_149_36) (fun _ _ => ⟨rfl, e3, (by decide : 0 + 1 ≤ _), (by decide : 0 + 2 ≤ _)⟩)
  dsimp only [Pt.U, Pt.locs, Pt.cells, Pt.slots] at X5 lq5 yq5 zq5 st5 hQ5
  subst lq5 yq5 zq5
  obtain ⟨b5, kb5, rfl, N5q, Kc5, hf5_b, g5_0⟩ := hQ5
  have N5 := Fr.app N0 N5q
  have ne6 : o0 ≠ b5 := Nat.ne_of_lt (Nat.lt_of_lt_of_le E0.lt hf5_b)
  have ne7 : o1 ≠ b5 := Nat.ne_of_lt (Nat.lt_of_lt_of_le A1.lt hf5_b)
  have gn5_b : n0 ≤ b5 := Nat.le_trans Z0 hf5_b
  have kb5_b : h0.size ≤ b5 := Nat.le_trans (Keep.refl h0 [o0]).1 hf5_b
  have f8 := E0.keep Kc5
  have f9 := Fv.keep Kc5 nin0
  have f10 := Fc.keep Kc5 nin0
  have f11 := A1.keep Kc5 nin0
  have K5 := (Keep.refl h0 [o0]).trans Kc5 all0
  have Zs5 : n0 ≤ T5.heap.size := Nat.le_trans Z0 Kc5.1
  refine own_by (V := T5.setTop (mkF m 39 #[.val (.ref o0), .val (.ref o1), .val (.int (0 : Int32)), .val (.int (2 : Int32)), .val .null, .unset] [(.ref b5)])) st5 ?_
  refine own_by (V := T5.setTop (mkF m 41 #[.val (.ref o0), .val (.ref o1), .val (.int (0 : Int32)), .val (.int (2 : Int32)), .val .null, .val (.ref b5)] [])) (fun t k => XS.astore X5.here hx rfl (hb hby own_d_jdk_42_149_39) rfl rfl (l' := #[.val (.ref o0), .val (.ref o1), .val (.int (0 : Int32)), .val (.int (2 : Int32)), .val .null, .val (.ref b5)]) rfl k) ?_
  refine own_by (V := T5.setTop (mkF m 42 #[.val (.ref o0), .val (.ref o1), .val (.int (0 : Int32)), .val (.int (2 : Int32)), .val .null, .val (.ref b5)] [(.ref o0)])) (fun t k => XS.aloadN X5.here hx rfl (hb hby own_d_jdk_42_149_41) rfl rfl k) ?_
  refine own_by (V := T5.setTop (mkF m 44 #[.val (.ref o0), .val (.ref o1), .val (.int (0 : Int32)), .val (.int (2 : Int32)), .val .null, .val (.ref b5)] [(.ref b5), (.ref o0)])) (fun t k => XS.aload X5.here hx rfl (hb hby own_d_jdk_42_149_42) rfl rfl k) ?_
  refine own_by (V := T5.setTop (mkF m 45 #[.val (.ref o0), .val (.ref o1), .val (.int (0 : Int32)), .val (.int (2 : Int32)), .val .null, .val (.ref b5)] [(.int (2 : Int32)), (.ref b5), (.ref o0)])) (fun t k => XS.iloadN X5.here hx rfl (hb hby own_d_jdk_42_149_44) rfl  k) ?_
  obtain ⟨_, _, ⟨T13, Lq13, kq13, nq13⟩, -, X13, ⟨Lc13, hQ13, lq13, yq13, zq13⟩, st13⟩ := Jvm.LawKit.callS X5 hx (y := (⟨"java/lang/StringUTF16", "coderFromArrayLen", "([BI)B"⟩ : MethodName)) hown (mvT hZ (hw _ (List.mem_of_getElem? (i := 61) rfl))) (mvT hZ (hw _ (List.mem_of_getElem? (i := 62) rfl))) (mvT hZ (hw _ (List.mem_of_getElem? (i := 56) rfl))) (mvT hZ (hw _ (List.mem_of_getElem? (i := 63) rfl))) (by decide) (backOf (W := 1) (own_coder_2 l Z a0 hw [] b5 kb5 (.int (nar .byte (x0.toInt8.toInt32))) (.int (nar .byte (x1.toInt8.toInt32))) T5.heap n0 g5_0) hZ (hw _ (List.mem_of_getElem? (i := 63) rfl)) (hw _ (List.mem_of_getElem? (i := 56) rfl)) (by decide) (by decide)) (g := (mkF m 45 #[.val (.ref o0), .val (.ref o1), .val (.int (0 : Int32)), .val (.int (2 : Int32)), .val .null, .val (.ref b5)] [(.int (2 : Int32)), (.ref b5), (.ref o0)])) rfl (by rw [hml]; rfl) (argsL := [(.ref b5), (.int (2 : Int32))]) (rest := [(.ref o0)]) (lenOf own_pd4 rfl) rfl (by show 2 * 0 + _ ≤ _; exact Nat.le_of_eq rfl) (hb hby own_d_jdk_42_149_45) (fun _ _ => ⟨rfl, rfl, (by decide : 1 + 0 ≤ _), (by decide : 2 + 0 ≤ _)⟩)
  dsimp only [Pt.U, Pt.locs, Pt.cells, Pt.slots] at X13 lq13 yq13 zq13 st13 hQ13
  subst lq13 yq13 zq13
  obtain ⟨rfl, N13q, e13⟩ := hQ13
  have N13 := Fr.app N5 N13q
  refine own_by (V := T13.setTop (mkF m 48 #[.val (.ref o0), .val (.ref o1), .val (.int (0 : Int32)), .val (.int (2 : Int32)), .val .null, .val (.ref b5)] [(.int (0 : Int32)), (.ref o0)])) st13 ?_
  obtain ⟨T14, h14, X14, e14, W14, st14⟩ := putFN X13 hx hZ hown (hw _ (List.mem_of_getElem? (i := 31) rfl)) Via.refl e13 f10 f8 (Or.inr ⟨(hw _ (List.mem_of_getElem? (i := 27) rfl)), rfl, hnm⟩) (hw _ (List.mem_of_getElem? (i := 11) rfl)) (ty := .byte) (v' := (.int (0 : Int32))) (by decide) rfl rfl (g := (mkF m 48 #[.val (.ref o0), .val (.ref o1), .val (.int (0 : Int32)), .val (.int (2 : Int32)), .val .null, .val (.ref b5)] [(.int (0 : Int32)), (.ref o0)])) rfl rfl (hb hby own_d_jdk_42_149_48)
  have N14 := Fr.snoc X14 N13 g0
  have K14 := K5.wr W14 (Or.inl (List.mem_of_getElem? (i := 0) rfl))
  have Zs14 : n0 ≤ h14.size := by rw [W14.size]; exact Zs5
  have f15 := f8.wr W14
  have f16 := f9.other W14 (Or.inr (slot_ne (Or.inr (hw _ (List.mem_of_getElem? (i := 26) rfl))) (Or.inr (hw _ (List.mem_of_getElem? (i := 27) rfl))) (by decide) (t := (.array .byte)) (t' := .byte) (by decide) (by decide)))
  have f17 := f10.same W14
  have f18 := f11.other W14 hne
  have f19 := g5_0.other W14 (Ne.symm ne6)
  refine own_by (V := T14.setTop (mkF m 51 #[.val (.ref o0), .val (.ref o1), .val (.int (0 : Int32)), .val (.int (2 : Int32)), .val .null, .val (.ref b5)] [])) st14 ?_
  refine own_by (V := T14.setTop (mkF m 52 #[.val (.ref o0), .val (.ref o1), .val (.int (0 : Int32)), .val (.int (2 : Int32)), .val .null, .val (.ref b5)] [(.ref o0)])) (fun t k => XS.aloadN X14.here hx rfl (hb hby own_d_jdk_42_149_51) rfl rfl k) ?_
  refine own_by (V := T14.setTop (mkF m 54 #[.val (.ref o0), .val (.ref o1), .val (.int (0 : Int32)), .val (.int (2 : Int32)), .val .null, .val (.ref b5)] [(.ref b5), (.ref o0)])) (fun t k => XS.aload X14.here hx rfl (hb hby own_d_jdk_42_149_52) rfl rfl k) ?_
  obtain ⟨T20, h20, X20, e20, W20, st20⟩ := putF X14 hx hZ hown (host := "") (Or.inl (hw _ (List.mem_of_getElem? (i := 30) rfl))) Via.refl e14 f16 f15 (Or.inr ⟨(hw _ (List.mem_of_getElem? (i := 26) rfl)), rfl, hnm⟩) (hw _ (List.mem_of_getElem? (i := 11) rfl)) (ty := (.array .byte)) (by decide) rfl rfl (g := (mkF m 54 #[.val (.ref o0), .val (.ref o1), .val (.int (0 : Int32)), .val (.int (2 : Int32)), .val .null, .val (.ref b5)] [(.ref b5), (.ref o0)])) rfl rfl (hb hby own_d_jdk_42_149_54)
  have N20 := Fr.snoc X20 N14 g0
  have K20 := K14.wr W20 (Or.inl (List.mem_of_getElem? (i := 0) rfl))
  have Zs20 : n0 ≤ h20.size := by rw [W20.size]; exact Zs14
  have f21 := f15.wr W20
  have f22 := f16.same W20
  have f23 := f17.other W20 (Or.inr (slot_ne (Or.inr (hw _ (List.mem_of_getElem? (i := 27) rfl))) (Or.inr (hw _ (List.mem_of_getElem? (i := 26) rfl))) (by decide) (t := .byte) (t' := (.array .byte)) (by decide) (by decide)))
  have f24 := f18.other W20 hne
  have f25 := f19.other W20 (Ne.symm ne6)
  refine own_by (V := T20.setTop (mkF m 57 #[.val (.ref o0), .val (.ref o1), .val (.int (0 : Int32)), .val (.int (2 : Int32)), .val .null, .val (.ref b5)] [])) st20 ?_
  refine own_ret0 X20 hx hlk e20 Bd.returns (hb hby own_d_jdk_42_149_57) ?_ (by decide) (by decide)
  exact ⟨b5, kb5, rfl, N20, K20, (kb5_b), f21, f22, f23, f25⟩
def own_Q_own_strB_2 (Z : State) (o0 : Addr) (o1 : Addr) (kc : ClassId) (cs : Int32) (x0 : Int32) (x1 : Int32) (h0 : Heap) (n0 : Nat) : Option Value → Heap → List Loc → Prop := fun v h L => ∃ (b : Addr) (kb : ClassId), v = none ∧ Fr n0 L ∧ Keep h0 h [o0] ∧ h0.size ≤ b ∧ Exa Z h o0 "java/lang/String" ∧ Fld Z h o0 "java/lang/String" "value" "[B" (.ref b) ∧ Fld Z h o0 "java/lang/String" "coder" "B" (.int (0 : Int32)) ∧ Arv Z h b kb .byte (2 : Int32) [(.int (nar .byte (x0.toInt8.toInt32))), (.int (nar .byte (x1.toInt8.toInt32)))] (.int (0 : Int32))
theorem own_ef_own_strB_2 (m : MethodId) (x0 : Addr) (x1 : Addr) : entryFrame m #[(.ref x0), (.ref x1)] 2 = mkF m 0 #[.val (.ref x0), .val (.ref x1)] [] := by first | (simp [entryFrame, mkF, argsToLocals, Value.category]; done) | rfl
set_option maxRecDepth 65536 in
set_option maxHeartbeats 40000000 in
theorem own_strB_2 (l : Launch) (Z : State) (a0 : Array Value) (hw : ∀ d ∈ tables_1, d.before a0 Z = true) (ws : List Jvm.Cond) (o0 : Addr) (o1 : Addr) (kc : ClassId) (cs : Int32) (x0 : Int32) (x1 : Int32) (h0 : Heap) (n0 : Nat) (Z0 : n0 ≤ h0.size) (g0 : n0 ≤ o0) (E0 : Exa Z h0 o0 "java/lang/String") (Fv : Fld Z h0 o0 "java/lang/String" "value" "[B" .null) (Fc : Fld Z h0 o0 "java/lang/String" "coder" "B" (.int (0 : Int32))) (A1 : Arv Z h0 o1 kc .char (2 : Int32) [(.int x0), (.int x1)] (.int (0 : Int32))) (hne : o1 ≠ o0) (SS : Sta Z h0 "java/lang/String" "COMPACT_STRINGS" "Z" (.int cs)) (hcs : ¬ cs = (0 : Int32)) (hp0 : ¬ (255 : Int32) < x0) (hp1 : ¬ (255 : Int32) < x1) :
    MetFree l (⟨"java/lang/String", "<init>", "([C)V"⟩ : MethodName) (head1 (Jvm.Cond.code (⟨"java/lang/String", "<init>", "([C)V"⟩ : MethodName) jdk_42_method_3_code 2 none :: ws) ({ frames := 3, cells := 1, slots := 2, locals := 52 } : Room)) (fun a U => a = #[(.ref o0), (.ref o1)] ∧ Z.Warmed39 U.vm ∧ U.heap = h0) (fun _ _ _ _ _ => True) (fun _ U o U' => ∃ v L, o = .returned v ∧ (own_Q_own_strB_2 Z o0 o1 kc cs x0 x1 h0 n0) v U'.heap L ∧ FrameEnd U o U' L ({ frames := 3, cells := 1, slots := 2, locals := 52 } : Room).cells ({ frames := 3, cells := 1, slots := 2, locals := 52 } : Room).slots) := by
  refine MetFree.of_bodySF (plainFor_of_name own_pn2) hisR ?_
  intro p e s m args below meth c s₁ Bd hml0 hP hK
  obtain ⟨rfl, hZ, hh⟩ := hP
  have hx := Bd.exec
  have hby := Bd.bytes
  have hml : c.maxLocals = 2 := hml0
  have hown : s.vm.findClass "java/lang/String" = some m.cls := findClass_of_methodNamed Bd.named
  have hnm := (name_of_methodNamed Bd.named Bd.method).1
  have hlk : meth.locks = false := BodyLoose.notSynchronized Bd
  have X0 : Stand p l e ({ frames := 3, cells := 1, slots := 2, locals := 52 } : Room) s m #[(.ref o0), (.ref o1)] below meth c s₁ [] 0 0 := Stand.of_body Bd
  have e0 : s₁.heap = h0 := by rw [← hh, Bd.state]; rfl
  have N0 := Fr.nil n0
  show own_Ends p e below s (own_Q_own_strB_2 Z o0 o1 kc cs x0 x1 h0 n0) ({ frames := 3, cells := 1, slots := 2, locals := 52 } : Room).cells ({ frames := 3, cells := 1, slots := 2, locals := 52 } : Room).slots _
  refine own_by (V := s₁.setTop (mkF m 0 #[.val (.ref o0), .val (.ref o1)] [])) (fun t k => castTop (own_ef_own_strB_2 m o0 o1) k) ?_
  refine own_by (V := s₁.setTop (mkF m 1 #[.val (.ref o0), .val (.ref o1)] [(.ref o0)])) (fun t k => XS.aloadN X0.here hx rfl (hb hby own_d_jdk_42_3_0) rfl rfl k) ?_
  refine own_by (V := s₁.setTop (mkF m 2 #[.val (.ref o0), .val (.ref o1)] [(.ref o1), (.ref o0)])) (fun t k => XS.aloadN X0.here hx rfl (hb hby own_d_jdk_42_3_1) rfl rfl k) ?_
  refine own_by (V := s₁.setTop (mkF m 3 #[.val (.ref o0), .val (.ref o1)] [(.int (0 : Int32)), (.ref o1), (.ref o0)])) (fun t k => XS.iconst X0.here hx rfl (hb hby own_d_jdk_42_3_2) k) ?_
  refine own_by (V := s₁.setTop (mkF m 4 #[.val (.ref o0), .val (.ref o1)] [(.ref o1), (.int (0 : Int32)), (.ref o1), (.ref o0)])) (fun t k => XS.aloadN X0.here hx rfl (hb hby own_d_jdk_42_3_3) rfl rfl k) ?_
  obtain ⟨cl1, Ar1, qa1, Sa1, Ma1, Ha1, Ua1⟩ := id A1
  have hl1 := len_of Sa1 Ma1
  refine own_by (V := s₁.setTop (mkF m 5 #[.val (.ref o0), .val (.ref o1)] [(.int (2 : Int32)), (.int (0 : Int32)), (.ref o1), (.ref o0)])) (by have q := X0.arraylength hx (cell := cl1) (by rw [e0]; exact Ar1.1) (State.isArrayOf_alike hZ.alike Ar1.2.1) (g := (mkF m 4 #[.val (.ref o0), .val (.ref o1)] [(.ref o1), (.int (0 : Int32)), (.ref o1), (.ref o0)])) rfl (rest := [(.int (0 : Int32)), (.ref o1), (.ref o0)]) rfl (hb hby own_d_jdk_42_3_4); rw [hl1] at q; exact q) ?_
  refine own_by (V := s₁.setTop (mkF m 6 #[.val (.ref o0), .val (.ref o1)] [.null, (.int (2 : Int32)), (.int (0 : Int32)), (.ref o1), (.ref o0)])) (fun t k => XS.aconstNull X0.here hx rfl (hb hby own_d_jdk_42_3_5) k) ?_
  obtain ⟨_, _, ⟨T2, Lq2, kq2, nq2⟩, -, X2, ⟨Lc2, hQ2, lq2, yq2, zq2⟩, st2⟩ := X0.specialBack hx (y := (⟨"java/lang/String", "<init>", "([CIILjava/lang/Void;)V"⟩ : MethodName)) rfl hown (mvT hZ (hw _ (List.mem_of_getElem? (i := 17) rfl))) (mvT hZ (hw _ (List.mem_of_getElem? (i := 18) rfl))) (mvT hZ (hw _ (List.mem_of_getElem? (i := 20) rfl))) (by decide) (backOf (W := 0) (own_strA_2 l Z a0 hw [] o0 o1 kc cs x0 x1 h0 n0 Z0 g0 E0 Fv Fc A1 hne SS hcs hp0 hp1) hZ (hw _ (List.mem_of_getElem? (i := 20) rfl)) (hw _ (List.mem_of_getElem? (i := 12) rfl)) (by decide) (by decide)) (g := (mkF m 6 #[.val (.ref o0), .val (.ref o1)] [.null, (.int (2 : Int32)), (.int (0 : Int32)), (.ref o1), (.ref o0)])) rfl (by rw [hml]; rfl) (Steps.refl _) (a := o0) (argsL := [(.ref o1), (.int (0 : Int32)), (.int (2 : Int32)), .null]) (rest := []) (lenOf own_pd5 rfl) rfl (by show 2 * 0 + _ ≤ _; exact Nat.le_of_eq rfl) (hb hby own_d_jdk_42_3_6) (fun _ _ => ⟨rfl, e0, (by decide : 0 + 1 ≤ _), (by decide : 0 + 2 ≤ _)⟩)
  dsimp only [Pt.U, Pt.locs, Pt.cells, Pt.slots] at X2 lq2 yq2 zq2 st2 hQ2
  subst lq2 yq2 zq2
  obtain ⟨b2, kb2, rfl, N2q, Kc2, hf2_b, g2_0, g2_1, g2_2, g2_3⟩ := hQ2
  have N2 := Fr.app N0 N2q
  have ne3 : o0 ≠ b2 := Nat.ne_of_lt (Nat.lt_of_lt_of_le E0.lt hf2_b)
  have ne4 : o1 ≠ b2 := Nat.ne_of_lt (Nat.lt_of_lt_of_le A1.lt hf2_b)
  have gn2_b : n0 ≤ b2 := Nat.le_trans Z0 hf2_b
  have kb2_b : h0.size ≤ b2 := Nat.le_trans (Keep.refl h0 [o0]).1 hf2_b
  have f5 := E0.keep Kc2
  have f8 := A1.keep Kc2 (ninS hne nin0)
  have K2 := (Keep.refl h0 [o0]).trans Kc2 (allS (Or.inl (List.mem_of_getElem? (i := 0) rfl)) all0)
  have Zs2 : n0 ≤ T2.heap.size := Nat.le_trans Z0 Kc2.1
  refine own_by (V := T2.setTop (mkF m 9 #[.val (.ref o0), .val (.ref o1)] [])) (fun t k => st2.trans k) ?_
  refine own_ret0 X2 hx hlk rfl Bd.returns (hb hby own_d_jdk_42_3_9) ?_ (by decide) (by decide)
  exact ⟨b2, kb2, rfl, N2, K2, (kb2_b), g2_0, g2_1, g2_2, g2_3⟩
def own_Q_own_strA_0 (Z : State) (o0 : Addr) (o1 : Addr) (h0 : Heap) (n0 : Nat) : Option Value → Heap → List Loc → Prop := fun v h L => ∃ (b : Addr) (kb : ClassId), v = none ∧ Fr n0 L ∧ Keep h0 h [o0] ∧ Exa Z h o0 "java/lang/String" ∧ Fld Z h o0 "java/lang/String" "value" "[B" (.ref b) ∧ Fld Z h o0 "java/lang/String" "coder" "B" (.int (0 : Int32)) ∧ Arv Z h b kb .byte (0 : Int32) [] (.int (0 : Int32))
theorem own_ef_own_strA_0 (m : MethodId) (x0 : Addr) (x1 : Addr) : entryFrame m #[(.ref x0), (.ref x1), (.int (0 : Int32)), (.int (0 : Int32)), .null] 6 = mkF m 0 #[.val (.ref x0), .val (.ref x1), .val (.int (0 : Int32)), .val (.int (0 : Int32)), .val .null, .unset] [] := by first | (simp [entryFrame, mkF, argsToLocals, Value.category]; done) | rfl
set_option maxRecDepth 65536 in
set_option maxHeartbeats 40000000 in
theorem own_strA_0 (l : Launch) (Z : State) (a0 : Array Value) (hw : ∀ d ∈ tables_1, d.before a0 Z = true) (ws : List Jvm.Cond) (o0 : Addr) (o1 : Addr) (h0 : Heap) (n0 : Nat) (Z0 : n0 ≤ h0.size) (g0 : n0 ≤ o0) (E0 : Exa Z h0 o0 "java/lang/String") (Fv : Fld Z h0 o0 "java/lang/String" "value" "[B" .null) (Fc : Fld Z h0 o0 "java/lang/String" "coder" "B" (.int (0 : Int32))) (O0 : Old Z n0 h0) (hcH : Jvm.Lit.constHeld Z "java/lang/String" 7) (hcw : Jvm.Lit.compactW.before a0 Z = true) :
    MetFree l (⟨"java/lang/String", "<init>", "([CIILjava/lang/Void;)V"⟩ : MethodName) (head1 (Jvm.Cond.code (⟨"java/lang/String", "<init>", "([CIILjava/lang/Void;)V"⟩ : MethodName) jdk_42_method_149_code 6 none :: ws) ({ frames := 1, cells := 2, slots := 4, locals := 12 } : Room)) (fun a U => a = #[(.ref o0), (.ref o1), (.int (0 : Int32)), (.int (0 : Int32)), .null] ∧ Z.Warmed39 U.vm ∧ U.heap = h0 ∧ own_LS Z U h0) (fun _ _ _ _ _ => True) (fun _ U o U' => ∃ v L, o = .returned v ∧ (own_Q_own_strA_0 Z o0 o1 h0 n0) v U'.heap L ∧ own_LS Z U' U'.heap ∧ ReturnedEndW U o U' L ({ frames := 1, cells := 2, slots := 4, locals := 12 } : Room).cells ({ frames := 1, cells := 2, slots := 4, locals := 12 } : Room).slots) := by
  refine MetFree.of_bodySF (plainFor_of_name own_pn2) hisR ?_
  intro p e s m args below meth c s₁ Bd hml0 hP hK
  obtain ⟨rfl, hZ, hh, LS0⟩ := hP
  have hx := Bd.exec
  have hby := Bd.bytes
  have hml : c.maxLocals = 6 := hml0
  have hown : s.vm.findClass "java/lang/String" = some m.cls := findClass_of_methodNamed Bd.named
  have hnm := (name_of_methodNamed Bd.named Bd.method).1
  have hlk : meth.locks = false := BodyLoose.notSynchronized Bd
  have X0 : Stand p l e ({ frames := 1, cells := 2, slots := 4, locals := 12 } : Room) s m #[(.ref o0), (.ref o1), (.int (0 : Int32)), (.int (0 : Int32)), .null] below meth c s₁ [] 0 0 := Stand.of_body Bd
  have e0 : s₁.heap = h0 := by rw [← hh, Bd.state]; rfl
  have N0 := Fr.nil n0
  have X0 : Stand p l e ({ frames := 1, cells := 2, slots := 4, locals := 12 } : Room) (s.setVm s.vm) m #[(.ref o0), (.ref o1), (.int (0 : Int32)), (.int (0 : Int32)), .null] below meth c s₁ [] 0 0 := X0
  have hZ : Z.Warmed39 (s.setVm s.vm).vm := hZ
  have hown : (s.setVm s.vm).vm.findClass "java/lang/String" = some m.cls := hown
  have LS0 : own_LS Z (s.setVm s.vm) h0 := LS0
  have hS : s.Since s.vm h0.size := (State.WarmedH.refl s).since _
  show own_EndsW p e below s Z (own_Q_own_strA_0 Z o0 o1 h0 n0) ({ frames := 1, cells := 2, slots := 4, locals := 12 } : Room).cells ({ frames := 1, cells := 2, slots := 4, locals := 12 } : Room).slots _
  refine own_byW (V := s₁.setTop (mkF m 0 #[.val (.ref o0), .val (.ref o1), .val (.int (0 : Int32)), .val (.int (0 : Int32)), .val .null, .unset] [])) (fun t k => castTop (own_ef_own_strA_0 m o0 o1) k) ?_
  have hk0 : h0.size ≤ h0.size := Nat.le_refl _
  refine own_byW (V := s₁.setTop (mkF m 1 #[.val (.ref o0), .val (.ref o1), .val (.int (0 : Int32)), .val (.int (0 : Int32)), .val .null, .unset] [(.ref o0)])) (fun t k => XS.aloadN X0.here hx rfl (hb hby own_d_jdk_42_149_0) rfl rfl k) ?_
  obtain ⟨T1, X1, e1, st1⟩ := initO X0 hx hZ hown (hw _ (List.mem_of_getElem? (i := 21) rfl)) (hw _ (List.mem_of_getElem? (i := 22) rfl)) (hw _ (List.mem_of_getElem? (i := 23) rfl)) e0 (g := (mkF m 1 #[.val (.ref o0), .val (.ref o1), .val (.int (0 : Int32)), .val (.int (0 : Int32)), .val .null, .unset] [(.ref o0)])) rfl (by rw [hml]; rfl) rfl (hb hby own_d_jdk_42_149_1) (by decide) (W := 0) (by show 2 * 0 + _ ≤ _; exact Nat.le_of_eq rfl) (by decide)
  refine own_byW (V := T1.setTop (mkF m 4 #[.val (.ref o0), .val (.ref o1), .val (.int (0 : Int32)), .val (.int (0 : Int32)), .val .null, .unset] [])) st1 ?_
  refine own_byW (V := T1.setTop (mkF m 5 #[.val (.ref o0), .val (.ref o1), .val (.int (0 : Int32)), .val (.int (0 : Int32)), .val .null, .unset] [(.int (0 : Int32))])) (fun t k => XS.iloadN X1.here hx rfl (hb hby own_d_jdk_42_149_4) rfl  k) ?_
  have hb5_2 : ((0 : Int32) = (0 : Int32)) := rfl
  refine own_byW (V := T1.setTop (mkF m 8 #[.val (.ref o0), .val (.ref o1), .val (.int (0 : Int32)), .val (.int (0 : Int32)), .val .null, .unset] [])) (fun t k => XS.ifNo X1.here hx rfl (hb hby own_d_jdk_42_149_5) rfl ((if0 _ _).trans (teq hb5_2).2) k) ?_
  refine own_byW (V := T1.setTop (mkF m 9 #[.val (.ref o0), .val (.ref o1), .val (.int (0 : Int32)), .val (.int (0 : Int32)), .val .null, .unset] [(.ref o0)])) (fun t k => XS.aloadN X1.here hx rfl (hb hby own_d_jdk_42_149_8) rfl rfl k) ?_
  rcases LS0 with I0 | ⟨la, lb, lk, Li, Ela, Fla, Vla, Alb⟩
  · obtain ⟨la, T3, h3, k3, lb, lk, X3, e3, E3, hS, hk3, hZ, hown, Ela, Fla, Vla, Alb, -, -, -, Li, st3⟩ := ldcSVL (s := s) (vm0 := s.vm) X1 hx hZ hown (hw _ (List.mem_of_getElem? (i := 24) rfl)) (own_strAtoms hw) e1 hS hk0 (Fr.nil _) (fun b cl q => by rw [hh]; exact O0.2.2 b cl q) I0 (by simp) hcH hcw (vs := []) (z := 0) ⟨fun c hc => by simp at hc, rfl⟩ (by decide) rfl (g := (mkF m 9 #[.val (.ref o0), .val (.ref o1), .val (.int (0 : Int32)), .val (.int (0 : Int32)), .val .null, .unset] [(.ref o0)])) rfl (hb hby own_d_jdk_42_149_9) (n := 0) (by decide) (by decide) (by decide) (by decide)
    have f5 := E0.ext E3
    have f6 := Fv.ext E3
    have f7 := Fc.ext E3
    have K3 := (Keep.refl h0 [o0]).ext E3
    have O3 := O0.ext E3
    have Zs3 : n0 ≤ h3.size := Nat.le_trans Z0 E3.1
    have nla : la ≠ o0 := Fld.ne Vla f6 (by simp)
    refine own_byW (V := T3.setTop (mkF m 11 #[.val (.ref o0), .val (.ref o1), .val (.int (0 : Int32)), .val (.int (0 : Int32)), .val .null, .unset] [(.ref la), (.ref o0)])) st3 ?_
    obtain ⟨T9, X9, e9, st9⟩ := getF X3 hx hZ hown (host := "") (Or.inl (hw _ (List.mem_of_getElem? (i := 30) rfl))) Via.refl e3 Vla (g := (mkF m 11 #[.val (.ref o0), .val (.ref o1), .val (.int (0 : Int32)), .val (.int (0 : Int32)), .val .null, .unset] [(.ref la), (.ref o0)])) rfl rfl (hb hby own_d_jdk_42_149_11)
    refine own_byW (V := T9.setTop (mkF m 14 #[.val (.ref o0), .val (.ref o1), .val (.int (0 : Int32)), .val (.int (0 : Int32)), .val .null, .unset] [(.ref lb), (.ref o0)])) st9 ?_
    obtain ⟨T10, h10, X10, e10, W10, st10⟩ := putF X9 hx hZ hown (host := "") (Or.inl (hw _ (List.mem_of_getElem? (i := 30) rfl))) Via.refl e9 f6 f5 (Or.inr ⟨(hw _ (List.mem_of_getElem? (i := 26) rfl)), rfl, hnm⟩) (hw _ (List.mem_of_getElem? (i := 11) rfl)) (ty := (.array .byte)) (by decide) rfl rfl (g := (mkF m 14 #[.val (.ref o0), .val (.ref o1), .val (.int (0 : Int32)), .val (.int (0 : Int32)), .val .null, .unset] [(.ref lb), (.ref o0)])) rfl rfl (hb hby own_d_jdk_42_149_14)
    have N10 := Fr.snoc X10 N0 g0
    have K10 := K3.wr W10 (Or.inl (List.mem_of_getElem? (i := 0) rfl))
    have O10 := O3.wr W10 g0
    have Zs10 : n0 ≤ h10.size := by rw [W10.size]; exact Zs3
    have hk11 := Nat.le_trans hk3 (Nat.le_of_eq W10.size.symm)
    have f12 := f5.wr W10
    have f13 := f6.same W10
    have f14 := f7.other W10 (Or.inr (slot_ne (Or.inr (hw _ (List.mem_of_getElem? (i := 27) rfl))) (Or.inr (hw _ (List.mem_of_getElem? (i := 26) rfl))) (by decide) (t := .byte) (t' := (.array .byte)) (by decide) (by decide)))
    have f15 := Ela.wr W10
    have f16 := Fla.other W10 (Or.inl nla)
    have f17 := Vla.other W10 (Or.inl nla)
    have f18 := Alb.other W10 (Ne.symm (Exa.neArv f5 Alb (hw _ (List.mem_of_getElem? (i := 11) rfl))))
    refine own_byW (V := T10.setTop (mkF m 17 #[.val (.ref o0), .val (.ref o1), .val (.int (0 : Int32)), .val (.int (0 : Int32)), .val .null, .unset] [])) st10 ?_
    refine own_byW (V := T10.setTop (mkF m 18 #[.val (.ref o0), .val (.ref o1), .val (.int (0 : Int32)), .val (.int (0 : Int32)), .val .null, .unset] [(.ref o0)])) (fun t k => XS.aloadN X10.here hx rfl (hb hby own_d_jdk_42_149_17) rfl rfl k) ?_
    refine own_byW (V := T10.setTop (mkF m 20 #[.val (.ref o0), .val (.ref o1), .val (.int (0 : Int32)), .val (.int (0 : Int32)), .val .null, .unset] [(.ref la), (.ref o0)])) (ldcAgain (s := s) (vm0 := T3.vm) X10 hx hZ hown (hw _ (List.mem_of_getElem? (i := 24) rfl)) Li (g := (mkF m 18 #[.val (.ref o0), .val (.ref o1), .val (.int (0 : Int32)), .val (.int (0 : Int32)), .val .null, .unset] [(.ref o0)])) rfl (hb hby own_d_jdk_42_149_18)) ?_
    obtain ⟨T19, X19, e19, st19⟩ := getF X10 hx hZ hown (host := "") (Or.inl (hw _ (List.mem_of_getElem? (i := 31) rfl))) Via.refl e10 f16 (g := (mkF m 20 #[.val (.ref o0), .val (.ref o1), .val (.int (0 : Int32)), .val (.int (0 : Int32)), .val .null, .unset] [(.ref la), (.ref o0)])) rfl rfl (hb hby own_d_jdk_42_149_20)
    refine own_byW (V := T19.setTop (mkF m 23 #[.val (.ref o0), .val (.ref o1), .val (.int (0 : Int32)), .val (.int (0 : Int32)), .val .null, .unset] [(.int (0 : Int32)), (.ref o0)])) st19 ?_
    obtain ⟨T20, h20, X20, e20, W20, st20⟩ := putFN X19 hx hZ hown (hw _ (List.mem_of_getElem? (i := 31) rfl)) Via.refl e19 f14 f12 (Or.inr ⟨(hw _ (List.mem_of_getElem? (i := 27) rfl)), rfl, hnm⟩) (hw _ (List.mem_of_getElem? (i := 11) rfl)) (ty := .byte) (v' := (.int (0 : Int32))) (by decide) rfl rfl (g := (mkF m 23 #[.val (.ref o0), .val (.ref o1), .val (.int (0 : Int32)), .val (.int (0 : Int32)), .val .null, .unset] [(.int (0 : Int32)), (.ref o0)])) rfl rfl (hb hby own_d_jdk_42_149_23)
    have N20 := Fr.snoc X20 N10 g0
    have K20 := K10.wr W20 (Or.inl (List.mem_of_getElem? (i := 0) rfl))
    have O20 := O10.wr W20 g0
    have Zs20 : n0 ≤ h20.size := by rw [W20.size]; exact Zs10
    have hk21 := Nat.le_trans hk11 (Nat.le_of_eq W20.size.symm)
    have f22 := f12.wr W20
    have f23 := f13.other W20 (Or.inr (slot_ne (Or.inr (hw _ (List.mem_of_getElem? (i := 26) rfl))) (Or.inr (hw _ (List.mem_of_getElem? (i := 27) rfl))) (by decide) (t := (.array .byte)) (t' := .byte) (by decide) (by decide)))
    have f24 := f14.same W20
    have f25 := f15.wr W20
    have f26 := f16.other W20 (Or.inl nla)
    have f27 := f17.other W20 (Or.inl nla)
    have f28 := f18.other W20 (Ne.symm (Exa.neArv f12 f18 (hw _ (List.mem_of_getElem? (i := 11) rfl))))
    refine own_byW (V := T20.setTop (mkF m 26 #[.val (.ref o0), .val (.ref o1), .val (.int (0 : Int32)), .val (.int (0 : Int32)), .val .null, .unset] [])) st20 ?_
    refine own_retW0 X20 hx hlk hS hk21 e20 (Or.inr ⟨la, lb, lk, Li, f25, f26, f27, f28⟩) Bd.returns (hb hby own_d_jdk_42_149_26) ?_ (by decide) (by decide)
    exact ⟨lb, lk, rfl, N20, K20, f22, f23, f24, f28⟩
  · have nla : la ≠ o0 := Fld.ne Vla Fv (by simp)
    refine own_byW (V := T1.setTop (mkF m 11 #[.val (.ref o0), .val (.ref o1), .val (.int (0 : Int32)), .val (.int (0 : Int32)), .val .null, .unset] [(.ref la), (.ref o0)])) (ldcAgain (s := s) (vm0 := s.vm) X1 hx hZ hown (hw _ (List.mem_of_getElem? (i := 24) rfl)) Li (g := (mkF m 9 #[.val (.ref o0), .val (.ref o1), .val (.int (0 : Int32)), .val (.int (0 : Int32)), .val .null, .unset] [(.ref o0)])) rfl (hb hby own_d_jdk_42_149_9)) ?_
    obtain ⟨T29, X29, e29, st29⟩ := getF X1 hx hZ hown (host := "") (Or.inl (hw _ (List.mem_of_getElem? (i := 30) rfl))) Via.refl e1 Vla (g := (mkF m 11 #[.val (.ref o0), .val (.ref o1), .val (.int (0 : Int32)), .val (.int (0 : Int32)), .val .null, .unset] [(.ref la), (.ref o0)])) rfl rfl (hb hby own_d_jdk_42_149_11)
    refine own_byW (V := T29.setTop (mkF m 14 #[.val (.ref o0), .val (.ref o1), .val (.int (0 : Int32)), .val (.int (0 : Int32)), .val .null, .unset] [(.ref lb), (.ref o0)])) st29 ?_
    obtain ⟨T30, h30, X30, e30, W30, st30⟩ := putF X29 hx hZ hown (host := "") (Or.inl (hw _ (List.mem_of_getElem? (i := 30) rfl))) Via.refl e29 Fv E0 (Or.inr ⟨(hw _ (List.mem_of_getElem? (i := 26) rfl)), rfl, hnm⟩) (hw _ (List.mem_of_getElem? (i := 11) rfl)) (ty := (.array .byte)) (by decide) rfl rfl (g := (mkF m 14 #[.val (.ref o0), .val (.ref o1), .val (.int (0 : Int32)), .val (.int (0 : Int32)), .val .null, .unset] [(.ref lb), (.ref o0)])) rfl rfl (hb hby own_d_jdk_42_149_14)
    have N30 := Fr.snoc X30 N0 g0
    have K30 := (Keep.refl h0 [o0]).wr W30 (Or.inl (List.mem_of_getElem? (i := 0) rfl))
    have O30 := O0.wr W30 g0
    have Zs30 : n0 ≤ h30.size := by rw [W30.size]; exact Z0
    have hk31 := Nat.le_trans hk0 (Nat.le_of_eq W30.size.symm)
    have f32 := E0.wr W30
    have f33 := Fv.same W30
    have f34 := Fc.other W30 (Or.inr (slot_ne (Or.inr (hw _ (List.mem_of_getElem? (i := 27) rfl))) (Or.inr (hw _ (List.mem_of_getElem? (i := 26) rfl))) (by decide) (t := .byte) (t' := (.array .byte)) (by decide) (by decide)))
    have f35 := Ela.wr W30
    have f36 := Fla.other W30 (Or.inl nla)
    have f37 := Vla.other W30 (Or.inl nla)
    have f38 := Alb.other W30 (Ne.symm (Exa.neArv E0 Alb (hw _ (List.mem_of_getElem? (i := 11) rfl))))
    refine own_byW (V := T30.setTop (mkF m 17 #[.val (.ref o0), .val (.ref o1), .val (.int (0 : Int32)), .val (.int (0 : Int32)), .val .null, .unset] [])) st30 ?_
    refine own_byW (V := T30.setTop (mkF m 18 #[.val (.ref o0), .val (.ref o1), .val (.int (0 : Int32)), .val (.int (0 : Int32)), .val .null, .unset] [(.ref o0)])) (fun t k => XS.aloadN X30.here hx rfl (hb hby own_d_jdk_42_149_17) rfl rfl k) ?_
    refine own_byW (V := T30.setTop (mkF m 20 #[.val (.ref o0), .val (.ref o1), .val (.int (0 : Int32)), .val (.int (0 : Int32)), .val .null, .unset] [(.ref la), (.ref o0)])) (ldcAgain (s := s) (vm0 := s.vm) X30 hx hZ hown (hw _ (List.mem_of_getElem? (i := 24) rfl)) Li (g := (mkF m 18 #[.val (.ref o0), .val (.ref o1), .val (.int (0 : Int32)), .val (.int (0 : Int32)), .val .null, .unset] [(.ref o0)])) rfl (hb hby own_d_jdk_42_149_18)) ?_
    obtain ⟨T39, X39, e39, st39⟩ := getF X30 hx hZ hown (host := "") (Or.inl (hw _ (List.mem_of_getElem? (i := 31) rfl))) Via.refl e30 f36 (g := (mkF m 20 #[.val (.ref o0), .val (.ref o1), .val (.int (0 : Int32)), .val (.int (0 : Int32)), .val .null, .unset] [(.ref la), (.ref o0)])) rfl rfl (hb hby own_d_jdk_42_149_20)
    refine own_byW (V := T39.setTop (mkF m 23 #[.val (.ref o0), .val (.ref o1), .val (.int (0 : Int32)), .val (.int (0 : Int32)), .val .null, .unset] [(.int (0 : Int32)), (.ref o0)])) st39 ?_
    obtain ⟨T40, h40, X40, e40, W40, st40⟩ := putFN X39 hx hZ hown (hw _ (List.mem_of_getElem? (i := 31) rfl)) Via.refl e39 f34 f32 (Or.inr ⟨(hw _ (List.mem_of_getElem? (i := 27) rfl)), rfl, hnm⟩) (hw _ (List.mem_of_getElem? (i := 11) rfl)) (ty := .byte) (v' := (.int (0 : Int32))) (by decide) rfl rfl (g := (mkF m 23 #[.val (.ref o0), .val (.ref o1), .val (.int (0 : Int32)), .val (.int (0 : Int32)), .val .null, .unset] [(.int (0 : Int32)), (.ref o0)])) rfl rfl (hb hby own_d_jdk_42_149_23)
    have N40 := Fr.snoc X40 N30 g0
    have K40 := K30.wr W40 (Or.inl (List.mem_of_getElem? (i := 0) rfl))
    have O40 := O30.wr W40 g0
    have Zs40 : n0 ≤ h40.size := by rw [W40.size]; exact Zs30
    have hk41 := Nat.le_trans hk31 (Nat.le_of_eq W40.size.symm)
    have f42 := f32.wr W40
    have f43 := f33.other W40 (Or.inr (slot_ne (Or.inr (hw _ (List.mem_of_getElem? (i := 26) rfl))) (Or.inr (hw _ (List.mem_of_getElem? (i := 27) rfl))) (by decide) (t := (.array .byte)) (t' := .byte) (by decide) (by decide)))
    have f44 := f34.same W40
    have f45 := f35.wr W40
    have f46 := f36.other W40 (Or.inl nla)
    have f47 := f37.other W40 (Or.inl nla)
    have f48 := f38.other W40 (Ne.symm (Exa.neArv f32 f38 (hw _ (List.mem_of_getElem? (i := 11) rfl))))
    refine own_byW (V := T40.setTop (mkF m 26 #[.val (.ref o0), .val (.ref o1), .val (.int (0 : Int32)), .val (.int (0 : Int32)), .val .null, .unset] [])) st40 ?_
    refine own_retW0 X40 hx hlk hS hk41 e40 (Or.inr ⟨la, lb, lk, Li, f45, f46, f47, f48⟩) Bd.returns (hb hby own_d_jdk_42_149_26) ?_ (by decide) (by decide)
    exact ⟨lb, lk, rfl, N40, K40, f42, f43, f44, f48⟩
def own_Q_own_strB_0 (Z : State) (o0 : Addr) (o1 : Addr) (kc : ClassId) (h0 : Heap) (n0 : Nat) : Option Value → Heap → List Loc → Prop := fun v h L => ∃ (b : Addr) (kb : ClassId), v = none ∧ Fr n0 L ∧ Keep h0 h [o0] ∧ Exa Z h o0 "java/lang/String" ∧ Fld Z h o0 "java/lang/String" "value" "[B" (.ref b) ∧ Fld Z h o0 "java/lang/String" "coder" "B" (.int (0 : Int32)) ∧ Arv Z h b kb .byte (0 : Int32) [] (.int (0 : Int32))
theorem own_ef_own_strB_0 (m : MethodId) (x0 : Addr) (x1 : Addr) : entryFrame m #[(.ref x0), (.ref x1)] 2 = mkF m 0 #[.val (.ref x0), .val (.ref x1)] [] := by first | (simp [entryFrame, mkF, argsToLocals, Value.category]; done) | rfl
set_option maxRecDepth 65536 in
set_option maxHeartbeats 40000000 in
theorem own_strB_0 (l : Launch) (Z : State) (a0 : Array Value) (hw : ∀ d ∈ tables_1, d.before a0 Z = true) (ws : List Jvm.Cond) (o0 : Addr) (o1 : Addr) (kc : ClassId) (h0 : Heap) (n0 : Nat) (Z0 : n0 ≤ h0.size) (g0 : n0 ≤ o0) (E0 : Exa Z h0 o0 "java/lang/String") (Fv : Fld Z h0 o0 "java/lang/String" "value" "[B" .null) (Fc : Fld Z h0 o0 "java/lang/String" "coder" "B" (.int (0 : Int32))) (A1 : Arv Z h0 o1 kc .char (0 : Int32) [] (.int (0 : Int32))) (O0 : Old Z n0 h0) (hcH : Jvm.Lit.constHeld Z "java/lang/String" 7) (hcw : Jvm.Lit.compactW.before a0 Z = true) :
    MetFree l (⟨"java/lang/String", "<init>", "([C)V"⟩ : MethodName) (head1 (Jvm.Cond.code (⟨"java/lang/String", "<init>", "([C)V"⟩ : MethodName) jdk_42_method_3_code 2 none :: ws) ({ frames := 2, cells := 2, slots := 4, locals := 29 } : Room)) (fun a U => a = #[(.ref o0), (.ref o1)] ∧ Z.Warmed39 U.vm ∧ U.heap = h0 ∧ own_LS Z U h0) (fun _ _ _ _ _ => True) (fun _ U o U' => ∃ v L, o = .returned v ∧ (own_Q_own_strB_0 Z o0 o1 kc h0 n0) v U'.heap L ∧ own_LS Z U' U'.heap ∧ ReturnedEndW U o U' L ({ frames := 2, cells := 2, slots := 4, locals := 29 } : Room).cells ({ frames := 2, cells := 2, slots := 4, locals := 29 } : Room).slots) := by
  refine MetFree.of_bodySF (plainFor_of_name own_pn2) hisR ?_
  intro p e s m args below meth c s₁ Bd hml0 hP hK
  obtain ⟨rfl, hZ, hh, LS0⟩ := hP
  have hx := Bd.exec
  have hby := Bd.bytes
  have hml : c.maxLocals = 2 := hml0
  have hown : s.vm.findClass "java/lang/String" = some m.cls := findClass_of_methodNamed Bd.named
  have hnm := (name_of_methodNamed Bd.named Bd.method).1
  have hlk : meth.locks = false := BodyLoose.notSynchronized Bd
  have X0 : Stand p l e ({ frames := 2, cells := 2, slots := 4, locals := 29 } : Room) s m #[(.ref o0), (.ref o1)] below meth c s₁ [] 0 0 := Stand.of_body Bd
  have e0 : s₁.heap = h0 := by rw [← hh, Bd.state]; rfl
  have N0 := Fr.nil n0
  have X0 : Stand p l e ({ frames := 2, cells := 2, slots := 4, locals := 29 } : Room) (s.setVm s.vm) m #[(.ref o0), (.ref o1)] below meth c s₁ [] 0 0 := X0
  have hZ : Z.Warmed39 (s.setVm s.vm).vm := hZ
  have hown : (s.setVm s.vm).vm.findClass "java/lang/String" = some m.cls := hown
  have LS0 : own_LS Z (s.setVm s.vm) h0 := LS0
  have hS : s.Since s.vm h0.size := (State.WarmedH.refl s).since _
  show own_EndsW p e below s Z (own_Q_own_strB_0 Z o0 o1 kc h0 n0) ({ frames := 2, cells := 2, slots := 4, locals := 29 } : Room).cells ({ frames := 2, cells := 2, slots := 4, locals := 29 } : Room).slots _
  refine own_byW (V := s₁.setTop (mkF m 0 #[.val (.ref o0), .val (.ref o1)] [])) (fun t k => castTop (own_ef_own_strB_0 m o0 o1) k) ?_
  have hk0 : h0.size ≤ h0.size := Nat.le_refl _
  refine own_byW (V := s₁.setTop (mkF m 1 #[.val (.ref o0), .val (.ref o1)] [(.ref o0)])) (fun t k => XS.aloadN X0.here hx rfl (hb hby own_d_jdk_42_3_0) rfl rfl k) ?_
  refine own_byW (V := s₁.setTop (mkF m 2 #[.val (.ref o0), .val (.ref o1)] [(.ref o1), (.ref o0)])) (fun t k => XS.aloadN X0.here hx rfl (hb hby own_d_jdk_42_3_1) rfl rfl k) ?_
  refine own_byW (V := s₁.setTop (mkF m 3 #[.val (.ref o0), .val (.ref o1)] [(.int (0 : Int32)), (.ref o1), (.ref o0)])) (fun t k => XS.iconst X0.here hx rfl (hb hby own_d_jdk_42_3_2) k) ?_
  refine own_byW (V := s₁.setTop (mkF m 4 #[.val (.ref o0), .val (.ref o1)] [(.ref o1), (.int (0 : Int32)), (.ref o1), (.ref o0)])) (fun t k => XS.aloadN X0.here hx rfl (hb hby own_d_jdk_42_3_3) rfl rfl k) ?_
  obtain ⟨cl1, Ar1, qa1, Sa1, Ma1, Ha1, Ua1⟩ := id A1
  have hl1 := len_of Sa1 Ma1
  refine own_byW (V := s₁.setTop (mkF m 5 #[.val (.ref o0), .val (.ref o1)] [(.int (0 : Int32)), (.int (0 : Int32)), (.ref o1), (.ref o0)])) (by have q := X0.arraylength hx (cell := cl1) (by rw [e0]; exact Ar1.1) (State.isArrayOf_alike hZ.alike Ar1.2.1) (g := (mkF m 4 #[.val (.ref o0), .val (.ref o1)] [(.ref o1), (.int (0 : Int32)), (.ref o1), (.ref o0)])) rfl (rest := [(.int (0 : Int32)), (.ref o1), (.ref o0)]) rfl (hb hby own_d_jdk_42_3_4); rw [hl1] at q; exact q) ?_
  refine own_byW (V := s₁.setTop (mkF m 6 #[.val (.ref o0), .val (.ref o1)] [.null, (.int (0 : Int32)), (.int (0 : Int32)), (.ref o1), (.ref o0)])) (fun t k => XS.aconstNull X0.here hx rfl (hb hby own_d_jdk_42_3_5) k) ?_
  obtain ⟨_, _, ⟨T2, Lq2, kq2, nq2⟩, -, X2, hs2, hg2, ⟨Lc2, ⟨hQ2, LSc2⟩, lq2, yq2, zq2⟩, st2⟩ := X0.specialBackS hx (y := (⟨"java/lang/String", "<init>", "([CIILjava/lang/Void;)V"⟩ : MethodName)) rfl hown (mvT hZ (hw _ (List.mem_of_getElem? (i := 17) rfl))) (mvT hZ (hw _ (List.mem_of_getElem? (i := 18) rfl))) (mvT hZ (hw _ (List.mem_of_getElem? (i := 20) rfl))) (by decide) (own_backOfW (W := 0) (own_strA_0 l Z a0 hw [] o0 o1 h0 n0 Z0 g0 E0 Fv Fc O0 hcH hcw) hZ LS0 (hw _ (List.mem_of_getElem? (i := 20) rfl)) (hw _ (List.mem_of_getElem? (i := 12) rfl)) (by decide) (by decide)) (g := (mkF m 6 #[.val (.ref o0), .val (.ref o1)] [.null, (.int (0 : Int32)), (.int (0 : Int32)), (.ref o1), (.ref o0)])) rfl (by rw [hml]; rfl) (Steps.refl _) (a := o0) (argsL := [(.ref o1), (.int (0 : Int32)), (.int (0 : Int32)), .null]) (rest := []) (lenOf own_pd5 rfl) rfl (by show 2 * 0 + _ ≤ _; exact Nat.le_of_eq rfl) (hb hby own_d_jdk_42_3_6) (fun _ _ => ⟨rfl, e0, (by decide : 0 + 2 ≤ _), (by decide : 0 + 4 ≤ _)⟩)
  dsimp only [Pt.U, Pt.locs, Pt.cells, Pt.slots] at X2 lq2 yq2 zq2 st2 hQ2 hs2 hg2 LSc2
  subst lq2 yq2 zq2
  obtain ⟨X2, hS, hZ, hown⟩ := rebS hS (by rw [e0]; exact hk0) X2 hs2 hg2 hZ hown
  have LSb2 : own_LS Z (s.setVm T2.vm) T2.heap := LSc2
  have hk2 : T2.heap.size ≤ T2.heap.size := Nat.le_refl _
  obtain ⟨b2, kb2, rfl, N2q, Kc2, g2_0, g2_1, g2_2, g2_3⟩ := hQ2
  have N2 := Fr.app N0 N2q
  have f3 := E0.keep Kc2
  have f6 := A1.keep Kc2 (ninS (Ne.symm (Exa.neArv E0 A1 (hw _ (List.mem_of_getElem? (i := 11) rfl)))) nin0)
  have K2 := (Keep.refl h0 [o0]).trans Kc2 (allS (Or.inl (List.mem_of_getElem? (i := 0) rfl)) all0)
  have O2 := O0.keep Kc2 (allS g0 all0)
  have Zs2 : n0 ≤ T2.heap.size := Nat.le_trans Z0 Kc2.1
  refine own_byW (V := T2.setTop (mkF m 9 #[.val (.ref o0), .val (.ref o1)] [])) (fun t k => st2.trans k) ?_
  refine own_retW0 X2 hx hlk hS hk2 rfl LSb2 Bd.returns (hb hby own_d_jdk_42_3_9) ?_ (by decide) (by decide)
  exact ⟨b2, kb2, rfl, N2, K2, g2_0, g2_1, g2_2, g2_3⟩
def own_Q_own_rstr (Z : State) (p0 : Int32) (cs : Int32) (h0 : Heap) (n0 : Nat) : Option Value → Heap → List Loc → Prop := fun v h L => ∃ (r : Addr) (b : Addr) (kb : ClassId), v = some (.ref r) ∧ Fr n0 L ∧ Keep h0 h [] ∧ h0.size ≤ r ∧ Exa Z h r "java/lang/String" ∧ Fld Z h r "java/lang/String" "value" "[B" (.ref b) ∧ Fld Z h r "java/lang/String" "coder" "B" (.int (0 : Int32)) ∧ Arv Z h b kb .byte (own_len p0) (own_bytes p0) (.int (0 : Int32))
theorem own_ef_own_rstr (m : MethodId) (x0 : Int32) : entryFrame m #[(.int x0)] 3 = mkF m 0 #[.val (.int x0), .unset, .unset] [] := by first | (simp [entryFrame, mkF, argsToLocals, Value.category]; done) | rfl
set_option maxRecDepth 65536 in
set_option maxHeartbeats 40000000 in
theorem own_rstr (l : Launch) (Z : State) (a0 : Array Value) (hw : ∀ d ∈ tables_1, d.before a0 Z = true) (ws : List Jvm.Cond) (p0 : Int32) (cs : Int32) (h0 : Heap) (n0 : Nat) (Z0 : n0 ≤ h0.size) (hcs : ¬ cs = (0 : Int32)) (SS : Sta Z Z.heap "java/lang/String" "COMPACT_STRINGS" "Z" (.int cs)) (O0 : Old Z n0 h0) (hcH : Jvm.Lit.constHeld Z "java/lang/String" 7) (hcw : Jvm.Lit.compactW.before a0 Z = true) :
    MetFree l (⟨"com/example/forec/forec/ConstantEqualsPinLaw", "str", "(I)Ljava/lang/String;"⟩ : MethodName) (head1 (Jvm.Cond.code (⟨"com/example/forec/forec/ConstantEqualsPinLaw", "str", "(I)Ljava/lang/String;"⟩ : MethodName) method_5_code 3 (some (.object "java/lang/String")) :: ws) ({ frames := 4, cells := 4, slots := 8, locals := 66 } : Room)) (fun a U => a = #[(.int p0)] ∧ Z.Warmed39 U.vm ∧ U.heap = h0 ∧ own_LS Z U h0) (fun _ _ _ _ _ => True) (fun _ U o U' => ∃ v L, o = .returned v ∧ (own_Q_own_rstr Z p0 cs h0 n0) v U'.heap L ∧ own_LS Z U' U'.heap ∧ ReturnedEndW U o U' L ({ frames := 4, cells := 4, slots := 8, locals := 66 } : Room).cells ({ frames := 4, cells := 4, slots := 8, locals := 66 } : Room).slots) := by
  refine MetFree.of_bodySF (plainFor_of_name own_pn0) hisR ?_
  intro p e s m args below meth c s₁ Bd hml0 hP hK
  obtain ⟨rfl, hZ, hh, LS0⟩ := hP
  have hx := Bd.exec
  have hby := Bd.bytes
  have hml : c.maxLocals = 3 := hml0
  have hown : s.vm.findClass "com/example/forec/forec/ConstantEqualsPinLaw" = some m.cls := findClass_of_methodNamed Bd.named
  have hnm := (name_of_methodNamed Bd.named Bd.method).1
  have hlk : meth.locks = false := BodyLoose.notSynchronized Bd
  have X0 : Stand p l e ({ frames := 4, cells := 4, slots := 8, locals := 66 } : Room) s m #[(.int p0)] below meth c s₁ [] 0 0 := Stand.of_body Bd
  have e0 : s₁.heap = h0 := by rw [← hh, Bd.state]; rfl
  have N0 := Fr.nil n0
  have X0 : Stand p l e ({ frames := 4, cells := 4, slots := 8, locals := 66 } : Room) (s.setVm s.vm) m #[(.int p0)] below meth c s₁ [] 0 0 := X0
  have hZ : Z.Warmed39 (s.setVm s.vm).vm := hZ
  have hown : (s.setVm s.vm).vm.findClass "com/example/forec/forec/ConstantEqualsPinLaw" = some m.cls := hown
  have LS0 : own_LS Z (s.setVm s.vm) h0 := LS0
  have hS : s.Since s.vm h0.size := (State.WarmedH.refl s).since _
  show own_EndsW p e below s Z (own_Q_own_rstr Z p0 cs h0 n0) ({ frames := 4, cells := 4, slots := 8, locals := 66 } : Room).cells ({ frames := 4, cells := 4, slots := 8, locals := 66 } : Room).slots _
  refine own_byW (V := s₁.setTop (mkF m 0 #[.val (.int p0), .unset, .unset] [])) (fun t k => castTop (own_ef_own_rstr m p0) k) ?_
  have hk0 : h0.size ≤ h0.size := Nat.le_refl _
  refine own_byW (V := s₁.setTop (mkF m 1 #[.val (.int p0), .unset, .unset] [(.int p0)])) (fun t k => XS.iloadN X0.here hx rfl (hb hby own_d_method_5_0) rfl  k) ?_
  obtain ⟨_, _, ⟨T1, Lq1, kq1, nq1⟩, -, X1, ⟨Lc1, hQ1, lq1, yq1, zq1⟩, st1⟩ := Jvm.LawKit.callS X0 hx (y := (⟨"com/example/forec/forec/ConstantEqualsPinLaw", "len", "(I)I"⟩ : MethodName)) hown (mvT hZ (hw _ (List.mem_of_getElem? (i := 7) rfl))) (mvT hZ (hw _ (List.mem_of_getElem? (i := 8) rfl))) (mvT hZ (hw _ (List.mem_of_getElem? (i := 5) rfl))) (mvT hZ (hw _ (List.mem_of_getElem? (i := 9) rfl))) (by decide) (backOf (W := 0) (own_rlen l Z a0 hw [] p0 h0 n0) hZ (hw _ (List.mem_of_getElem? (i := 9) rfl)) (hw _ (List.mem_of_getElem? (i := 5) rfl)) (by decide) (by decide)) (g := (mkF m 1 #[.val (.int p0), .unset, .unset] [(.int p0)])) rfl (by rw [hml]; rfl) (argsL := [(.int p0)]) (rest := []) (lenOf own_pd0 rfl) rfl (by show 2 * 0 + _ ≤ _; exact Nat.le_of_eq rfl) (hb hby own_d_method_5_1) (fun _ _ => ⟨rfl, e0, (by decide : 0 + 0 ≤ _), (by decide : 0 + 0 ≤ _)⟩)
  dsimp only [Pt.U, Pt.locs, Pt.cells, Pt.slots] at X1 lq1 yq1 zq1 st1 hQ1
  subst lq1 yq1 zq1
  obtain ⟨rfl, N1q, e1⟩ := hQ1
  have N1 := Fr.app N0 N1q
  refine own_byW (V := T1.setTop (mkF m 4 #[.val (.int p0), .unset, .unset] [(.int (own_len p0))])) st1 ?_
  refine own_byW (V := T1.setTop (mkF m 5 #[.val (.int p0), .val (.int (own_len p0)), .unset] [])) (fun t k => XS.istoreN X1.here hx rfl (hb hby own_d_method_5_4) rfl (l' := #[.val (.int p0), .val (.int (own_len p0)), .unset]) rfl k) ?_
  refine own_byW (V := T1.setTop (mkF m 6 #[.val (.int p0), .val (.int (own_len p0)), .unset] [(.int (own_len p0))])) (fun t k => XS.iloadN X1.here hx rfl (hb hby own_d_method_5_5) rfl  k) ?_
  by_cases hb6_2 : (own_len p0) = (0 : Int32)
  · refine own_byW (V := T1.setTop (mkF m 9 #[.val (.int p0), .val (.int (own_len p0)), .unset] [])) (fun t k => XS.ifNo X1.here hx rfl (hb hby own_d_method_5_6) rfl ((if0 _ _).trans (teq hb6_2).2) k) ?_
    obtain ⟨T3, h3, X3, e3, E3, A3, D3, -, st3⟩ := newO X1 hx hZ hown (hw _ (List.mem_of_getElem? (i := 10) rfl)) (hw _ (List.mem_of_getElem? (i := 11) rfl)) (hw _ (List.mem_of_getElem? (i := 12) rfl)) e1 (g := (mkF m 9 #[.val (.int p0), .val (.int (own_len p0)), .unset] [])) rfl (hb hby own_d_method_5_9) (by decide) (by decide)
    obtain ⟨b3, g3⟩ : ∃ z, z = h0.size := ⟨_, rfl⟩
    rw [← g3] at A3 D3 st3
    have kb3 : h0.size ≤ b3 := Nat.le_trans (Keep.refl h0 []).1 (Nat.le_of_eq g3.symm)
    have hk4 := Nat.le_trans hk0 E3.1
    have LS5 := own_ls_ext LS0 E3
    have K3 := (Keep.refl h0 []).ext E3
    have O3 := O0.ext E3
    have f10 : Fld Z h3 b3 "java/lang/String" "value" "[B" .null := D3 (Or.inr (hw _ (List.mem_of_getElem? (i := 26) rfl))) (ty := (.array .byte)) (by decide)
    have f11 : Fld Z h3 b3 "java/lang/String" "coder" "B" (.int (0 : Int32)) := D3 (Or.inr (hw _ (List.mem_of_getElem? (i := 27) rfl))) (ty := .byte) (by decide)
    have gn3 : n0 ≤ b3 := Nat.le_trans Z0 (Nat.le_of_eq g3.symm)
    have Zs3 : n0 ≤ h3.size := Nat.le_trans Z0 E3.1
    refine own_byW (V := T3.setTop (mkF m 12 #[.val (.int p0), .val (.int (own_len p0)), .unset] [(.ref b3)])) st3 ?_
    refine own_byW (V := T3.setTop (mkF m 13 #[.val (.int p0), .val (.int (own_len p0)), .unset] [(.ref b3), (.ref b3)])) (fun t k => XS.dup X3.here hx rfl (hb hby own_d_method_5_12) rfl rfl k) ?_
    refine own_byW (V := T3.setTop (mkF m 14 #[.val (.int p0), .val (.int (own_len p0)), .unset] [(.int (0 : Int32)), (.ref b3), (.ref b3)])) (fun t k => XS.iconst X3.here hx rfl (hb hby own_d_method_5_13) k) ?_
    obtain ⟨T12, h12, k12, X12, e12, E12, A12, st12⟩ := newP X3 hx hZ (hw _ (List.mem_of_getElem? (i := 13) rfl)) e3 (g := (mkF m 14 #[.val (.int p0), .val (.int (own_len p0)), .unset] [(.int (0 : Int32)), (.ref b3), (.ref b3)])) rfl (hb hby own_d_method_5_14) rfl (by decide) (cap := 0) (by decide) (by decide) (by decide) (by decide)
    obtain ⟨b12, g12⟩ : ∃ z, z = h3.size := ⟨_, rfl⟩
    rw [← g12] at A12 st12
    have kb12 : h0.size ≤ b12 := Nat.le_trans K3.1 (Nat.le_of_eq g12.symm)
    have ne13 : b3 ≠ b12 := Nat.ne_of_lt (Nat.lt_of_lt_of_le A3.lt (Nat.le_of_eq g12.symm))
    have hk14 := Nat.le_trans hk4 E12.1
    have LS15 := own_ls_ext LS5 E12
    have f20 := A3.ext E12
    have f21 := f10.ext E12
    have f22 := f11.ext E12
    have K12 := K3.ext E12
    have O12 := O3.ext E12
    have V12 : Arv Z h12 b12 k12 .char (0 : Int32) [] (.int (0 : Int32)) := (Arv.new A12 (by decide)).pad (pad_rep [] (.int (0 : Int32)) 0)
    have gn12 : n0 ≤ b12 := Nat.le_trans Zs3 (Nat.le_of_eq g12.symm)
    have Zs12 : n0 ≤ h12.size := Nat.le_trans Zs3 E12.1
    refine own_byW (V := T12.setTop (mkF m 16 #[.val (.int p0), .val (.int (own_len p0)), .unset] [(.ref b12), (.ref b3), (.ref b3)])) st12 ?_
    obtain ⟨_, _, ⟨T26, Lq26, kq26, nq26⟩, -, X26, hs26, hg26, ⟨Lc26, ⟨hQ26, LSc26⟩, lq26, yq26, zq26⟩, st26⟩ := X12.specialBackS hx (y := (⟨"java/lang/String", "<init>", "([C)V"⟩ : MethodName)) rfl hown (mvT hZ (hw _ (List.mem_of_getElem? (i := 14) rfl))) (mvT hZ (hw _ (List.mem_of_getElem? (i := 15) rfl))) (mvT hZ (hw _ (List.mem_of_getElem? (i := 16) rfl))) (by decide) (own_backOfW (W := 1) (own_strB_0 l Z a0 hw [] b3 b12 k12 h12 n0 Zs12 gn3 f20 f21 f22 V12 O12 hcH hcw) hZ LS15 (hw _ (List.mem_of_getElem? (i := 16) rfl)) (hw _ (List.mem_of_getElem? (i := 12) rfl)) (by decide) (by decide)) (g := (mkF m 16 #[.val (.int p0), .val (.int (own_len p0)), .unset] [(.ref b12), (.ref b3), (.ref b3)])) rfl (by rw [hml]; rfl) (Steps.refl _) (a := b3) (argsL := [(.ref b12)]) (rest := [(.ref b3)]) (lenOf own_pd6 rfl) rfl (by show 2 * 0 + _ ≤ _; exact Nat.le_of_eq rfl) (hb hby own_d_method_5_16) (fun _ _ => ⟨rfl, e12, (by decide : 2 + 2 ≤ _), (by decide : 4 + 4 ≤ _)⟩)
    dsimp only [Pt.U, Pt.locs, Pt.cells, Pt.slots] at X26 lq26 yq26 zq26 st26 hQ26 hs26 hg26 LSc26
    subst lq26 yq26 zq26
    obtain ⟨X26, hS, hZ, hown⟩ := rebS hS (by rw [e12]; exact hk14) X26 hs26 hg26 hZ hown
    have LSb26 : own_LS Z (s.setVm T26.vm) T26.heap := LSc26
    have hk26 : T26.heap.size ≤ T26.heap.size := Nat.le_refl _
    obtain ⟨b26, kb26, rfl, N26q, Kc26, g26_0, g26_1, g26_2, g26_3⟩ := hQ26
    have N26 := Fr.app N1 N26q
    have f27 := f20.keep Kc26
    have f30 := V12.keep Kc26 (ninS (Ne.symm ne13) nin0)
    have K26 := K12.trans Kc26 (allS (Or.inr kb3) all0)
    have O26 := O12.keep Kc26 (allS gn3 all0)
    have Zs26 : n0 ≤ T26.heap.size := Nat.le_trans Zs12 Kc26.1
    refine own_byW (V := T26.setTop (mkF m 19 #[.val (.int p0), .val (.int (own_len p0)), .unset] [(.ref b3)])) (fun t k => st26.trans k) ?_
    refine own_retWA X26 hx hlk hS hk26 rfl LSb26 (w := (.ref b3)) rfl Bd.returns rfl (hb hby own_d_method_5_19) ?_ (by decide) (by decide)
    exact ⟨b3, b26, kb26, rfl, N26, K26, (kb3), g26_0, g26_1, g26_2, (own_arv0 (by exact hb6_2) g26_3)⟩
  · refine own_byW (V := T1.setTop (mkF m 20 #[.val (.int p0), .val (.int (own_len p0)), .unset] [])) (fun t k => XS.ifYes X1.here hx rfl (pc0 := 6) (pc' := 20) rfl (hb hby own_d_method_5_6) rfl ((if0 _ _).trans (feq hb6_2).2) (by decide) (by decide) k) ?_
    refine own_byW (V := T1.setTop (mkF m 21 #[.val (.int p0), .val (.int (own_len p0)), .unset] [(.int (own_len p0))])) (fun t k => XS.iloadN X1.here hx rfl (hb hby own_d_method_5_20) rfl  k) ?_
    refine own_byW (V := T1.setTop (mkF m 22 #[.val (.int p0), .val (.int (own_len p0)), .unset] [(.int (1 : Int32)), (.int (own_len p0))])) (fun t k => XS.iconst X1.here hx rfl (hb hby own_d_method_5_21) k) ?_
    by_cases hb22_31 : (own_len p0) = (1 : Int32)
    · refine own_byW (V := T1.setTop (mkF m 25 #[.val (.int p0), .val (.int (own_len p0)), .unset] [])) (fun t k => XS.icmpNo X1.here hx rfl (hb hby own_d_method_5_22) rfl (teq hb22_31).2 k) ?_
      refine own_byW (V := T1.setTop (mkF m 26 #[.val (.int p0), .val (.int (own_len p0)), .unset] [(.int (1 : Int32))])) (fun t k => XS.iconst X1.here hx rfl (hb hby own_d_method_5_25) k) ?_
      obtain ⟨T32, h32, k32, X32, e32, E32, A32, st32⟩ := newP X1 hx hZ (hw _ (List.mem_of_getElem? (i := 13) rfl)) e1 (g := (mkF m 26 #[.val (.int p0), .val (.int (own_len p0)), .unset] [(.int (1 : Int32))])) rfl (hb hby own_d_method_5_26) rfl (by decide) (cap := 1) (by decide) (by decide) (by decide) (by decide)
      obtain ⟨b32, g32⟩ : ∃ z, z = h0.size := ⟨_, rfl⟩
      rw [← g32] at A32 st32
      have kb32 : h0.size ≤ b32 := Nat.le_trans (Keep.refl h0 []).1 (Nat.le_of_eq g32.symm)
      have hk33 := Nat.le_trans hk0 E32.1
      have LS34 := own_ls_ext LS0 E32
      have K32 := (Keep.refl h0 []).ext E32
      have O32 := O0.ext E32
      have V32 : Arv Z h32 b32 k32 .char (1 : Int32) [(.int (0 : Int32))] (.int (0 : Int32)) := (Arv.new A32 (by decide)).pad (pad_rep [] (.int (0 : Int32)) 1)
      have gn32 : n0 ≤ b32 := Nat.le_trans Z0 (Nat.le_of_eq g32.symm)
      have Zs32 : n0 ≤ h32.size := Nat.le_trans Z0 E32.1
      refine own_byW (V := T32.setTop (mkF m 28 #[.val (.int p0), .val (.int (own_len p0)), .unset] [(.ref b32)])) st32 ?_
      refine own_byW (V := T32.setTop (mkF m 29 #[.val (.int p0), .val (.int (own_len p0)), .val (.ref b32)] [])) (fun t k => XS.astoreN X32.here hx rfl (hb hby own_d_method_5_28) rfl rfl (l' := #[.val (.int p0), .val (.int (own_len p0)), .val (.ref b32)]) rfl k) ?_
      refine own_byW (V := T32.setTop (mkF m 30 #[.val (.int p0), .val (.int (own_len p0)), .val (.ref b32)] [(.ref b32)])) (fun t k => XS.aloadN X32.here hx rfl (hb hby own_d_method_5_29) rfl rfl k) ?_
      refine own_byW (V := T32.setTop (mkF m 31 #[.val (.int p0), .val (.int (own_len p0)), .val (.ref b32)] [(.int (0 : Int32)), (.ref b32)])) (fun t k => XS.iconst X32.here hx rfl (hb hby own_d_method_5_30) k) ?_
      refine own_byW (V := T32.setTop (mkF m 32 #[.val (.int p0), .val (.int (own_len p0)), .val (.ref b32)] [(.int p0), (.int (0 : Int32)), (.ref b32)])) (fun t k => XS.iloadN X32.here hx rfl (hb hby own_d_method_5_31) rfl  k) ?_
      obtain ⟨_, _, ⟨T39, Lq39, kq39, nq39⟩, -, X39, ⟨Lc39, hQ39, lq39, yq39, zq39⟩, st39⟩ := Jvm.LawKit.callS X32 hx (y := (⟨"com/example/forec/forec/ConstantEqualsPinLaw", "ch0", "(I)C"⟩ : MethodName)) hown (mvT hZ (hw _ (List.mem_of_getElem? (i := 47) rfl))) (mvT hZ (hw _ (List.mem_of_getElem? (i := 48) rfl))) (mvT hZ (hw _ (List.mem_of_getElem? (i := 5) rfl))) (mvT hZ (hw _ (List.mem_of_getElem? (i := 49) rfl))) (by decide) (backOf (W := 2) (own_rch0 l Z a0 hw [] p0 h32 n0) hZ (hw _ (List.mem_of_getElem? (i := 49) rfl)) (hw _ (List.mem_of_getElem? (i := 5) rfl)) (by decide) (by decide)) (g := (mkF m 32 #[.val (.int p0), .val (.int (own_len p0)), .val (.ref b32)] [(.int p0), (.int (0 : Int32)), (.ref b32)])) rfl (by rw [hml]; rfl) (argsL := [(.int p0)]) (rest := [(.int (0 : Int32)), (.ref b32)]) (lenOf own_pd1 rfl) rfl (by show 2 * 0 + _ ≤ _; exact Nat.le_of_eq rfl) (hb hby own_d_method_5_32) (fun _ _ => ⟨rfl, e32, (by decide : 1 + 0 ≤ _), (by decide : 1 + 0 ≤ _)⟩)
      dsimp only [Pt.U, Pt.locs, Pt.cells, Pt.slots] at X39 lq39 yq39 zq39 st39 hQ39
      subst lq39 yq39 zq39
      obtain ⟨rfl, N39q, e39⟩ := hQ39
      have N39 := Fr.app N1 N39q
      refine own_byW (V := T39.setTop (mkF m 35 #[.val (.int p0), .val (.int (own_len p0)), .val (.ref b32)] [(.int (own_ch0 p0)), (.int (0 : Int32)), (.ref b32)])) st39 ?_
      obtain ⟨cl40, Ar40, qa40, Sa40, Ma40, Ha40, Ua40⟩ := id V32
      obtain ⟨T41, h41, X41, e41, W41, st41⟩ := stC X39 hx hZ e39 Ar40 (j := (0 : Int32)) (inb_of Sa40 ⟨(by decide), (by decide)⟩) (g := (mkF m 35 #[.val (.int p0), .val (.int (own_len p0)), .val (.ref b32)] [(.int (own_ch0 p0)), (.int (0 : Int32)), (.ref b32)])) rfl rfl (hb hby own_d_method_5_35)
      have N41 := Fr.snoc X41 N39 gn32
      have K41 := K32.wr W41 (Or.inr kb32)
      have O41 := O32.wr W41 gn32
      have Zs41 : n0 ≤ h41.size := by rw [W41.size]; exact Zs32
      have hk42 := Nat.le_trans hk33 (Nat.le_of_eq W41.size.symm)
      have V41 : Arv Z h41 b32 k32 .char (1 : Int32) [(.int (nar .char (own_ch0 p0)))] (.int (0 : Int32)) := Arv.set Ar40 qa40 Sa40 Ma40 Ha40 Ua40 (fits_nar_char _) W41 0 (by decide) (by simp)
      refine own_byW (V := T41.setTop (mkF m 36 #[.val (.int p0), .val (.int (own_len p0)), .val (.ref b32)] [])) st41 ?_
      obtain ⟨T44, h44, X44, e44, E44, A44, D44, -, st44⟩ := newO X41 hx hZ hown (hw _ (List.mem_of_getElem? (i := 10) rfl)) (hw _ (List.mem_of_getElem? (i := 11) rfl)) (hw _ (List.mem_of_getElem? (i := 12) rfl)) e41 (g := (mkF m 36 #[.val (.int p0), .val (.int (own_len p0)), .val (.ref b32)] [])) rfl (hb hby own_d_method_5_36) (by decide) (by decide)
      obtain ⟨b44, g44⟩ : ∃ z, z = h41.size := ⟨_, rfl⟩
      rw [← g44] at A44 D44 st44
      have kb44 : h0.size ≤ b44 := Nat.le_trans K41.1 (Nat.le_of_eq g44.symm)
      have ne45 : b32 ≠ b44 := Nat.ne_of_lt (Nat.lt_of_lt_of_le V41.lt (Nat.le_of_eq g44.symm))
      have hk46 := Nat.le_trans hk42 E44.1
      have f50 := V41.ext E44
      have K44 := K41.ext E44
      have O44 := O41.ext E44
      have f54 : Fld Z h44 b44 "java/lang/String" "value" "[B" .null := D44 (Or.inr (hw _ (List.mem_of_getElem? (i := 26) rfl))) (ty := (.array .byte)) (by decide)
      have f55 : Fld Z h44 b44 "java/lang/String" "coder" "B" (.int (0 : Int32)) := D44 (Or.inr (hw _ (List.mem_of_getElem? (i := 27) rfl))) (ty := .byte) (by decide)
      have gn44 : n0 ≤ b44 := Nat.le_trans Zs41 (Nat.le_of_eq g44.symm)
      have Zs44 : n0 ≤ h44.size := Nat.le_trans Zs41 E44.1
      refine own_byW (V := T44.setTop (mkF m 39 #[.val (.int p0), .val (.int (own_len p0)), .val (.ref b32)] [(.ref b44)])) st44 ?_
      refine own_byW (V := T44.setTop (mkF m 40 #[.val (.int p0), .val (.int (own_len p0)), .val (.ref b32)] [(.ref b44), (.ref b44)])) (fun t k => XS.dup X44.here hx rfl (hb hby own_d_method_5_39) rfl rfl k) ?_
      refine own_byW (V := T44.setTop (mkF m 41 #[.val (.int p0), .val (.int (own_len p0)), .val (.ref b32)] [(.ref b32), (.ref b44), (.ref b44)])) (fun t k => XS.aloadN X44.here hx rfl (hb hby own_d_method_5_40) rfl rfl k) ?_
      obtain ⟨_, _, ⟨T56, Lq56, kq56, nq56⟩, -, X56, ⟨Lc56, hQ56, lq56, yq56, zq56⟩, st56⟩ := X44.specialBack hx (y := (⟨"java/lang/String", "<init>", "([C)V"⟩ : MethodName)) rfl hown (mvT hZ (hw _ (List.mem_of_getElem? (i := 14) rfl))) (mvT hZ (hw _ (List.mem_of_getElem? (i := 15) rfl))) (mvT hZ (hw _ (List.mem_of_getElem? (i := 16) rfl))) (by decide) (backOf (W := 1) (own_strB_1 l Z a0 hw [] b44 b32 k32 cs (nar .char (own_ch0 p0)) h44 n0 Zs44 gn44 A44 f54 f55 f50 ne45 (SS.ext O44.2) hcs (own_i2c255 _).1) hZ (hw _ (List.mem_of_getElem? (i := 16) rfl)) (hw _ (List.mem_of_getElem? (i := 12) rfl)) (by decide) (by decide)) (g := (mkF m 41 #[.val (.int p0), .val (.int (own_len p0)), .val (.ref b32)] [(.ref b32), (.ref b44), (.ref b44)])) rfl (by rw [hml]; rfl) (Steps.refl _) (a := b44) (argsL := [(.ref b32)]) (rest := [(.ref b44)]) (lenOf own_pd6 rfl) rfl (by show 2 * 0 + _ ≤ _; exact Nat.le_of_eq rfl) (hb hby own_d_method_5_41) (fun _ _ => ⟨rfl, e44, (by decide : 2 + 1 ≤ _), (by decide : 5 + 1 ≤ _)⟩)
      dsimp only [Pt.U, Pt.locs, Pt.cells, Pt.slots] at X56 lq56 yq56 zq56 st56 hQ56
      subst lq56 yq56 zq56
      obtain ⟨b56, kb56, rfl, N56q, Kc56, hf56_b, g56_0, g56_1, g56_2, g56_3⟩ := hQ56
      have N56 := Fr.app N41 N56q
      have ne57 : b32 ≠ b56 := Nat.ne_of_lt (Nat.lt_of_lt_of_le f50.lt hf56_b)
      have ne58 : b44 ≠ b56 := Nat.ne_of_lt (Nat.lt_of_lt_of_le A44.lt hf56_b)
      have gn56_b : n0 ≤ b56 := Nat.le_trans Zs44 hf56_b
      have kb56_b : h0.size ≤ b56 := Nat.le_trans K44.1 hf56_b
      have hk59 := Nat.le_trans hk46 Kc56.1
      have f60 := f50.keep Kc56 (ninS ne45 nin0)
      have f61 := A44.keep Kc56
      have K56 := K44.trans Kc56 (allS (Or.inr kb44) all0)
      have O56 := O44.keep Kc56 (allS gn44 all0)
      have Zs56 : n0 ≤ T56.heap.size := Nat.le_trans Zs44 Kc56.1
      refine own_byW (V := T56.setTop (mkF m 44 #[.val (.int p0), .val (.int (own_len p0)), .val (.ref b32)] [(.ref b44)])) (fun t k => st56.trans k) ?_
      refine own_retWA X56 hx hlk hS hk59 rfl (own_ls_keep0 LS0 K56) (w := (.ref b44)) rfl Bd.returns rfl (hb hby own_d_method_5_44) ?_ (by decide) (by decide)
      exact ⟨b44, b56, kb56, rfl, N56, K56, (kb44), g56_0, g56_1, g56_2, (own_arv1 (by exact hb22_31) g56_3)⟩
    · refine own_byW (V := T1.setTop (mkF m 45 #[.val (.int p0), .val (.int (own_len p0)), .unset] [])) (fun t k => XS.icmpYes X1.here hx rfl (pc0 := 22) (pc' := 45) rfl (hb hby own_d_method_5_22) rfl (feq hb22_31).2 (by decide) (by decide) k) ?_
      refine own_byW (V := T1.setTop (mkF m 46 #[.val (.int p0), .val (.int (own_len p0)), .unset] [(.int (2 : Int32))])) (fun t k => XS.iconst X1.here hx rfl (hb hby own_d_method_5_45) k) ?_
      obtain ⟨T64, h64, k64, X64, e64, E64, A64, st64⟩ := newP X1 hx hZ (hw _ (List.mem_of_getElem? (i := 13) rfl)) e1 (g := (mkF m 46 #[.val (.int p0), .val (.int (own_len p0)), .unset] [(.int (2 : Int32))])) rfl (hb hby own_d_method_5_46) rfl (by decide) (cap := 2) (by decide) (by decide) (by decide) (by decide)
      obtain ⟨b64, g64⟩ : ∃ z, z = h0.size := ⟨_, rfl⟩
      rw [← g64] at A64 st64
      have kb64 : h0.size ≤ b64 := Nat.le_trans (Keep.refl h0 []).1 (Nat.le_of_eq g64.symm)
      have hk65 := Nat.le_trans hk0 E64.1
      have LS66 := own_ls_ext LS0 E64
      have K64 := (Keep.refl h0 []).ext E64
      have O64 := O0.ext E64
      have V64 : Arv Z h64 b64 k64 .char (2 : Int32) [(.int (0 : Int32)), (.int (0 : Int32))] (.int (0 : Int32)) := (Arv.new A64 (by decide)).pad (pad_rep [] (.int (0 : Int32)) 2)
      have gn64 : n0 ≤ b64 := Nat.le_trans Z0 (Nat.le_of_eq g64.symm)
      have Zs64 : n0 ≤ h64.size := Nat.le_trans Z0 E64.1
      refine own_byW (V := T64.setTop (mkF m 48 #[.val (.int p0), .val (.int (own_len p0)), .unset] [(.ref b64)])) st64 ?_
      refine own_byW (V := T64.setTop (mkF m 49 #[.val (.int p0), .val (.int (own_len p0)), .val (.ref b64)] [])) (fun t k => XS.astoreN X64.here hx rfl (hb hby own_d_method_5_48) rfl rfl (l' := #[.val (.int p0), .val (.int (own_len p0)), .val (.ref b64)]) rfl k) ?_
      refine own_byW (V := T64.setTop (mkF m 50 #[.val (.int p0), .val (.int (own_len p0)), .val (.ref b64)] [(.ref b64)])) (fun t k => XS.aloadN X64.here hx rfl (hb hby own_d_method_5_49) rfl rfl k) ?_
      refine own_byW (V := T64.setTop (mkF m 51 #[.val (.int p0), .val (.int (own_len p0)), .val (.ref b64)] [(.int (0 : Int32)), (.ref b64)])) (fun t k => XS.iconst X64.here hx rfl (hb hby own_d_method_5_50) k) ?_
      refine own_byW (V := T64.setTop (mkF m 52 #[.val (.int p0), .val (.int (own_len p0)), .val (.ref b64)] [(.int p0), (.int (0 : Int32)), (.ref b64)])) (fun t k => XS.iloadN X64.here hx rfl (hb hby own_d_method_5_51) rfl  k) ?_
      obtain ⟨_, _, ⟨T71, Lq71, kq71, nq71⟩, -, X71, ⟨Lc71, hQ71, lq71, yq71, zq71⟩, st71⟩ := Jvm.LawKit.callS X64 hx (y := (⟨"com/example/forec/forec/ConstantEqualsPinLaw", "ch0", "(I)C"⟩ : MethodName)) hown (mvT hZ (hw _ (List.mem_of_getElem? (i := 47) rfl))) (mvT hZ (hw _ (List.mem_of_getElem? (i := 48) rfl))) (mvT hZ (hw _ (List.mem_of_getElem? (i := 5) rfl))) (mvT hZ (hw _ (List.mem_of_getElem? (i := 49) rfl))) (by decide) (backOf (W := 2) (own_rch0 l Z a0 hw [] p0 h64 n0) hZ (hw _ (List.mem_of_getElem? (i := 49) rfl)) (hw _ (List.mem_of_getElem? (i := 5) rfl)) (by decide) (by decide)) (g := (mkF m 52 #[.val (.int p0), .val (.int (own_len p0)), .val (.ref b64)] [(.int p0), (.int (0 : Int32)), (.ref b64)])) rfl (by rw [hml]; rfl) (argsL := [(.int p0)]) (rest := [(.int (0 : Int32)), (.ref b64)]) (lenOf own_pd1 rfl) rfl (by show 2 * 0 + _ ≤ _; exact Nat.le_of_eq rfl) (hb hby own_d_method_5_52) (fun _ _ => ⟨rfl, e64, (by decide : 1 + 0 ≤ _), (by decide : 2 + 0 ≤ _)⟩)
      dsimp only [Pt.U, Pt.locs, Pt.cells, Pt.slots] at X71 lq71 yq71 zq71 st71 hQ71
      subst lq71 yq71 zq71
      obtain ⟨rfl, N71q, e71⟩ := hQ71
      have N71 := Fr.app N1 N71q
      refine own_byW (V := T71.setTop (mkF m 55 #[.val (.int p0), .val (.int (own_len p0)), .val (.ref b64)] [(.int (own_ch0 p0)), (.int (0 : Int32)), (.ref b64)])) st71 ?_
      obtain ⟨cl72, Ar72, qa72, Sa72, Ma72, Ha72, Ua72⟩ := id V64
      obtain ⟨T73, h73, X73, e73, W73, st73⟩ := stC X71 hx hZ e71 Ar72 (j := (0 : Int32)) (inb_of Sa72 ⟨(by decide), (by decide)⟩) (g := (mkF m 55 #[.val (.int p0), .val (.int (own_len p0)), .val (.ref b64)] [(.int (own_ch0 p0)), (.int (0 : Int32)), (.ref b64)])) rfl rfl (hb hby own_d_method_5_55)
      have N73 := Fr.snoc X73 N71 gn64
      have K73 := K64.wr W73 (Or.inr kb64)
      have O73 := O64.wr W73 gn64
      have Zs73 : n0 ≤ h73.size := by rw [W73.size]; exact Zs64
      have hk74 := Nat.le_trans hk65 (Nat.le_of_eq W73.size.symm)
      have V73 : Arv Z h73 b64 k64 .char (2 : Int32) [(.int (nar .char (own_ch0 p0))), (.int (0 : Int32))] (.int (0 : Int32)) := Arv.set Ar72 qa72 Sa72 Ma72 Ha72 Ua72 (fits_nar_char _) W73 0 (by decide) (by simp)
      refine own_byW (V := T73.setTop (mkF m 56 #[.val (.int p0), .val (.int (own_len p0)), .val (.ref b64)] [])) st73 ?_
      refine own_byW (V := T73.setTop (mkF m 57 #[.val (.int p0), .val (.int (own_len p0)), .val (.ref b64)] [(.ref b64)])) (fun t k => XS.aloadN X73.here hx rfl (hb hby own_d_method_5_56) rfl rfl k) ?_
      refine own_byW (V := T73.setTop (mkF m 58 #[.val (.int p0), .val (.int (own_len p0)), .val (.ref b64)] [(.int (1 : Int32)), (.ref b64)])) (fun t k => XS.iconst X73.here hx rfl (hb hby own_d_method_5_57) k) ?_
      refine own_byW (V := T73.setTop (mkF m 59 #[.val (.int p0), .val (.int (own_len p0)), .val (.ref b64)] [(.int p0), (.int (1 : Int32)), (.ref b64)])) (fun t k => XS.iloadN X73.here hx rfl (hb hby own_d_method_5_58) rfl  k) ?_
      obtain ⟨_, _, ⟨T76, Lq76, kq76, nq76⟩, -, X76, ⟨Lc76, hQ76, lq76, yq76, zq76⟩, st76⟩ := Jvm.LawKit.callS X73 hx (y := (⟨"com/example/forec/forec/ConstantEqualsPinLaw", "ch1", "(I)C"⟩ : MethodName)) hown (mvT hZ (hw _ (List.mem_of_getElem? (i := 50) rfl))) (mvT hZ (hw _ (List.mem_of_getElem? (i := 51) rfl))) (mvT hZ (hw _ (List.mem_of_getElem? (i := 5) rfl))) (mvT hZ (hw _ (List.mem_of_getElem? (i := 52) rfl))) (by decide) (backOf (W := 2) (own_rch1 l Z a0 hw [] p0 h73 n0) hZ (hw _ (List.mem_of_getElem? (i := 52) rfl)) (hw _ (List.mem_of_getElem? (i := 5) rfl)) (by decide) (by decide)) (g := (mkF m 59 #[.val (.int p0), .val (.int (own_len p0)), .val (.ref b64)] [(.int p0), (.int (1 : Int32)), (.ref b64)])) rfl (by rw [hml]; rfl) (argsL := [(.int p0)]) (rest := [(.int (1 : Int32)), (.ref b64)]) (lenOf own_pd1 rfl) rfl (by show 2 * 0 + _ ≤ _; exact Nat.le_of_eq rfl) (hb hby own_d_method_5_59) (fun _ _ => ⟨rfl, e73, (by decide : 1 + 0 ≤ _), (by decide : 2 + 0 ≤ _)⟩)
      dsimp only [Pt.U, Pt.locs, Pt.cells, Pt.slots] at X76 lq76 yq76 zq76 st76 hQ76
      subst lq76 yq76 zq76
      obtain ⟨rfl, N76q, e76⟩ := hQ76
      have N76 := Fr.app N73 N76q
      refine own_byW (V := T76.setTop (mkF m 62 #[.val (.int p0), .val (.int (own_len p0)), .val (.ref b64)] [(.int (own_ch1 p0)), (.int (1 : Int32)), (.ref b64)])) st76 ?_
      obtain ⟨cl77, Ar77, qa77, Sa77, Ma77, Ha77, Ua77⟩ := id V73
      obtain ⟨T78, h78, X78, e78, W78, st78⟩ := stC X76 hx hZ e76 Ar77 (j := (1 : Int32)) (inb_of Sa77 ⟨(by decide), (by decide)⟩) (g := (mkF m 62 #[.val (.int p0), .val (.int (own_len p0)), .val (.ref b64)] [(.int (own_ch1 p0)), (.int (1 : Int32)), (.ref b64)])) rfl rfl (hb hby own_d_method_5_62)
      have N78 := Fr.snoc X78 N76 gn64
      have K78 := K73.wr W78 (Or.inr kb64)
      have O78 := O73.wr W78 gn64
      have Zs78 : n0 ≤ h78.size := by rw [W78.size]; exact Zs73
      have hk79 := Nat.le_trans hk74 (Nat.le_of_eq W78.size.symm)
      have V78 : Arv Z h78 b64 k64 .char (2 : Int32) [(.int (nar .char (own_ch0 p0))), (.int (nar .char (own_ch1 p0)))] (.int (0 : Int32)) := Arv.set Ar77 qa77 Sa77 Ma77 Ha77 Ua77 (fits_nar_char _) W78 1 (by decide) (by simp)
      refine own_byW (V := T78.setTop (mkF m 63 #[.val (.int p0), .val (.int (own_len p0)), .val (.ref b64)] [])) st78 ?_
      obtain ⟨T80, h80, X80, e80, E80, A80, D80, -, st80⟩ := newO X78 hx hZ hown (hw _ (List.mem_of_getElem? (i := 10) rfl)) (hw _ (List.mem_of_getElem? (i := 11) rfl)) (hw _ (List.mem_of_getElem? (i := 12) rfl)) e78 (g := (mkF m 63 #[.val (.int p0), .val (.int (own_len p0)), .val (.ref b64)] [])) rfl (hb hby own_d_method_5_63) (by decide) (by decide)
      obtain ⟨b80, g80⟩ : ∃ z, z = h78.size := ⟨_, rfl⟩
      rw [← g80] at A80 D80 st80
      have kb80 : h0.size ≤ b80 := Nat.le_trans K78.1 (Nat.le_of_eq g80.symm)
      have ne81 : b64 ≠ b80 := Nat.ne_of_lt (Nat.lt_of_lt_of_le V78.lt (Nat.le_of_eq g80.symm))
      have hk82 := Nat.le_trans hk79 E80.1
      have f86 := V78.ext E80
      have K80 := K78.ext E80
      have O80 := O78.ext E80
      have f90 : Fld Z h80 b80 "java/lang/String" "value" "[B" .null := D80 (Or.inr (hw _ (List.mem_of_getElem? (i := 26) rfl))) (ty := (.array .byte)) (by decide)
      have f91 : Fld Z h80 b80 "java/lang/String" "coder" "B" (.int (0 : Int32)) := D80 (Or.inr (hw _ (List.mem_of_getElem? (i := 27) rfl))) (ty := .byte) (by decide)
      have gn80 : n0 ≤ b80 := Nat.le_trans Zs78 (Nat.le_of_eq g80.symm)
      have Zs80 : n0 ≤ h80.size := Nat.le_trans Zs78 E80.1
      refine own_byW (V := T80.setTop (mkF m 66 #[.val (.int p0), .val (.int (own_len p0)), .val (.ref b64)] [(.ref b80)])) st80 ?_
      refine own_byW (V := T80.setTop (mkF m 67 #[.val (.int p0), .val (.int (own_len p0)), .val (.ref b64)] [(.ref b80), (.ref b80)])) (fun t k => XS.dup X80.here hx rfl (hb hby own_d_method_5_66) rfl rfl k) ?_
      refine own_byW (V := T80.setTop (mkF m 68 #[.val (.int p0), .val (.int (own_len p0)), .val (.ref b64)] [(.ref b64), (.ref b80), (.ref b80)])) (fun t k => XS.aloadN X80.here hx rfl (hb hby own_d_method_5_67) rfl rfl k) ?_
      obtain ⟨_, _, ⟨T92, Lq92, kq92, nq92⟩, -, X92, ⟨Lc92, hQ92, lq92, yq92, zq92⟩, st92⟩ := X80.specialBack hx (y := (⟨"java/lang/String", "<init>", "([C)V"⟩ : MethodName)) rfl hown (mvT hZ (hw _ (List.mem_of_getElem? (i := 14) rfl))) (mvT hZ (hw _ (List.mem_of_getElem? (i := 15) rfl))) (mvT hZ (hw _ (List.mem_of_getElem? (i := 16) rfl))) (by decide) (backOf (W := 1) (own_strB_2 l Z a0 hw [] b80 b64 k64 cs (nar .char (own_ch0 p0)) (nar .char (own_ch1 p0)) h80 n0 Zs80 gn80 A80 f90 f91 f86 ne81 (SS.ext O80.2) hcs (own_i2c255 _).1 (own_i2c255 _).1) hZ (hw _ (List.mem_of_getElem? (i := 16) rfl)) (hw _ (List.mem_of_getElem? (i := 12) rfl)) (by decide) (by decide)) (g := (mkF m 68 #[.val (.int p0), .val (.int (own_len p0)), .val (.ref b64)] [(.ref b64), (.ref b80), (.ref b80)])) rfl (by rw [hml]; rfl) (Steps.refl _) (a := b80) (argsL := [(.ref b64)]) (rest := [(.ref b80)]) (lenOf own_pd6 rfl) rfl (by show 2 * 0 + _ ≤ _; exact Nat.le_of_eq rfl) (hb hby own_d_method_5_68) (fun _ _ => ⟨rfl, e80, (by decide : 2 + 1 ≤ _), (by decide : 6 + 2 ≤ _)⟩)
      dsimp only [Pt.U, Pt.locs, Pt.cells, Pt.slots] at X92 lq92 yq92 zq92 st92 hQ92
      subst lq92 yq92 zq92
      obtain ⟨b92, kb92, rfl, N92q, Kc92, hf92_b, g92_0, g92_1, g92_2, g92_3⟩ := hQ92
      have N92 := Fr.app N78 N92q
      have ne93 : b64 ≠ b92 := Nat.ne_of_lt (Nat.lt_of_lt_of_le f86.lt hf92_b)
      have ne94 : b80 ≠ b92 := Nat.ne_of_lt (Nat.lt_of_lt_of_le A80.lt hf92_b)
      have gn92_b : n0 ≤ b92 := Nat.le_trans Zs80 hf92_b
      have kb92_b : h0.size ≤ b92 := Nat.le_trans K80.1 hf92_b
      have hk95 := Nat.le_trans hk82 Kc92.1
      have f96 := f86.keep Kc92 (ninS ne81 nin0)
      have f97 := A80.keep Kc92
      have K92 := K80.trans Kc92 (allS (Or.inr kb80) all0)
      have O92 := O80.keep Kc92 (allS gn80 all0)
      have Zs92 : n0 ≤ T92.heap.size := Nat.le_trans Zs80 Kc92.1
      refine own_byW (V := T92.setTop (mkF m 71 #[.val (.int p0), .val (.int (own_len p0)), .val (.ref b64)] [(.ref b80)])) (fun t k => st92.trans k) ?_
      refine own_retWA X92 hx hlk hS hk95 rfl (own_ls_keep0 LS0 K92) (w := (.ref b80)) rfl Bd.returns rfl (hb hby own_d_method_5_71) ?_ (by decide) (by decide)
      exact ⟨b80, b92, kb92, rfl, N92, K92, (kb80), g92_0, g92_1, g92_2, (own_arv2 (by exact ((own_len3 p0).resolve_left hb6_2).resolve_left hb22_31) g92_3)⟩
def own_Q_own_lateq (Z : State) (o0 : Addr) (o1 : Addr) (k0 : ClassId) (k1 : ClassId) (x : Int32) (y : Int32) (h0 : Heap) (n0 : Nat) : Option Value → Heap → List Loc → Prop := fun v h L => v = some (.int (own_same x y)) ∧ Fr n0 L ∧ h = h0
theorem own_ef_own_lateq (m : MethodId) (x0 : Addr) (x1 : Addr) : entryFrame m #[(.ref x0), (.ref x1)] 3 = mkF m 0 #[.val (.ref x0), .val (.ref x1), .unset] [] := by first | (simp [entryFrame, mkF, argsToLocals, Value.category]; done) | rfl
set_option maxRecDepth 65536 in
set_option maxHeartbeats 40000000 in
theorem own_lateq (l : Launch) (Z : State) (a0 : Array Value) (hw : ∀ d ∈ tables_1, d.before a0 Z = true) (ws : List Jvm.Cond) (o0 : Addr) (o1 : Addr) (k0 : ClassId) (k1 : ClassId) (x : Int32) (y : Int32) (h0 : Heap) (n0 : Nat) (A0 : Arv Z h0 o0 k0 .byte (own_len x) (own_bytes x) (.int (0 : Int32))) (A1 : Arv Z h0 o1 k1 .byte (own_len y) (own_bytes y) (.int (0 : Int32))) :
    MetFree l (⟨"java/lang/StringLatin1", "equals", "([B[B)Z"⟩ : MethodName) (head1 (Jvm.Cond.code (⟨"java/lang/StringLatin1", "equals", "([B[B)Z"⟩ : MethodName) jdk_43_method_13_code 3 (some .boolean) :: ws) ({ frames := 0, cells := 0, slots := 0, locals := 0 } : Room)) (fun a U => a = #[(.ref o0), (.ref o1)] ∧ Z.Warmed39 U.vm ∧ U.heap = h0) (fun _ _ _ _ _ => True) (fun _ U o U' => ∃ v L, o = .returned v ∧ (own_Q_own_lateq Z o0 o1 k0 k1 x y h0 n0) v U'.heap L ∧ FrameEnd U o U' L ({ frames := 0, cells := 0, slots := 0, locals := 0 } : Room).cells ({ frames := 0, cells := 0, slots := 0, locals := 0 } : Room).slots) := by
  refine MetFree.of_bodySF (plainFor_of_name own_pn3) hisR ?_
  intro p e s m args below meth c s₁ Bd hml0 hP hK
  obtain ⟨rfl, hZ, hh⟩ := hP
  have hx := Bd.exec
  have hby := Bd.bytes
  have hml : c.maxLocals = 3 := hml0
  have hown : s.vm.findClass "java/lang/StringLatin1" = some m.cls := findClass_of_methodNamed Bd.named
  have hnm := (name_of_methodNamed Bd.named Bd.method).1
  have hlk : meth.locks = false := BodyLoose.notSynchronized Bd
  have X0 : Stand p l e ({ frames := 0, cells := 0, slots := 0, locals := 0 } : Room) s m #[(.ref o0), (.ref o1)] below meth c s₁ [] 0 0 := Stand.of_body Bd
  have e0 : s₁.heap = h0 := by rw [← hh, Bd.state]; rfl
  have N0 := Fr.nil n0
  show own_Ends p e below s (own_Q_own_lateq Z o0 o1 k0 k1 x y h0 n0) ({ frames := 0, cells := 0, slots := 0, locals := 0 } : Room).cells ({ frames := 0, cells := 0, slots := 0, locals := 0 } : Room).slots _
  refine own_by (V := s₁.setTop (mkF m 0 #[.val (.ref o0), .val (.ref o1), .unset] [])) (fun t k => castTop (own_ef_own_lateq m o0 o1) k) ?_
  rcases own_len3 x with qx | qx | qx
  · have B0 := own_arvB0 qx A0
    rcases own_len3 y with qy | qy | qy
    · have B1 := own_arvB0 qy A1
      refine own_by (V := s₁.setTop (mkF m 1 #[.val (.ref o0), .val (.ref o1), .unset] [(.ref o0)])) (fun t k => XS.aloadN X0.here hx rfl (hb hby own_d_jdk_43_13_0) rfl rfl k) ?_
      obtain ⟨cl1, Ar1, qa1, Sa1, Ma1, Ha1, Ua1⟩ := id B0
      have hl1 := len_of Sa1 Ma1
      refine own_by (V := s₁.setTop (mkF m 2 #[.val (.ref o0), .val (.ref o1), .unset] [(.int (0 : Int32))])) (by have q := X0.arraylength hx (cell := cl1) (by rw [e0]; exact Ar1.1) (State.isArrayOf_alike hZ.alike Ar1.2.1) (g := (mkF m 1 #[.val (.ref o0), .val (.ref o1), .unset] [(.ref o0)])) rfl (rest := []) rfl (hb hby own_d_jdk_43_13_1); rw [hl1] at q; exact q) ?_
      refine own_by (V := s₁.setTop (mkF m 3 #[.val (.ref o0), .val (.ref o1), .unset] [(.ref o1), (.int (0 : Int32))])) (fun t k => XS.aloadN X0.here hx rfl (hb hby own_d_jdk_43_13_2) rfl rfl k) ?_
      obtain ⟨cl2, Ar2, qa2, Sa2, Ma2, Ha2, Ua2⟩ := id B1
      have hl2 := len_of Sa2 Ma2
      refine own_by (V := s₁.setTop (mkF m 4 #[.val (.ref o0), .val (.ref o1), .unset] [(.int (0 : Int32)), (.int (0 : Int32))])) (by have q := X0.arraylength hx (cell := cl2) (by rw [e0]; exact Ar2.1) (State.isArrayOf_alike hZ.alike Ar2.2.1) (g := (mkF m 3 #[.val (.ref o0), .val (.ref o1), .unset] [(.ref o1), (.int (0 : Int32))])) rfl (rest := [(.int (0 : Int32))]) rfl (hb hby own_d_jdk_43_13_3); rw [hl2] at q; exact q) ?_
      have hb4_3 : ((0 : Int32) = (0 : Int32)) := rfl
      refine own_by (V := s₁.setTop (mkF m 7 #[.val (.ref o0), .val (.ref o1), .unset] [])) (fun t k => XS.icmpNo X0.here hx rfl (hb hby own_d_jdk_43_13_4) rfl (teq hb4_3).2 k) ?_
      refine own_by (V := s₁.setTop (mkF m 8 #[.val (.ref o0), .val (.ref o1), .unset] [(.int (0 : Int32))])) (fun t k => XS.iconst X0.here hx rfl (hb hby own_d_jdk_43_13_7) k) ?_
      refine own_by (V := s₁.setTop (mkF m 9 #[.val (.ref o0), .val (.ref o1), .val (.int (0 : Int32))] [])) (fun t k => XS.istoreN X0.here hx rfl (hb hby own_d_jdk_43_13_8) rfl (l' := #[.val (.ref o0), .val (.ref o1), .val (.int (0 : Int32))]) rfl k) ?_
      refine own_by (V := s₁.setTop (mkF m 10 #[.val (.ref o0), .val (.ref o1), .val (.int (0 : Int32))] [(.int (0 : Int32))])) (fun t k => XS.iloadN X0.here hx rfl (hb hby own_d_jdk_43_13_9) rfl  k) ?_
      refine own_by (V := s₁.setTop (mkF m 11 #[.val (.ref o0), .val (.ref o1), .val (.int (0 : Int32))] [(.ref o0), (.int (0 : Int32))])) (fun t k => XS.aloadN X0.here hx rfl (hb hby own_d_jdk_43_13_10) rfl rfl k) ?_
      obtain ⟨cl4, Ar4, qa4, Sa4, Ma4, Ha4, Ua4⟩ := id B0
      have hl4 := len_of Sa4 Ma4
      refine own_by (V := s₁.setTop (mkF m 12 #[.val (.ref o0), .val (.ref o1), .val (.int (0 : Int32))] [(.int (0 : Int32)), (.int (0 : Int32))])) (by have q := X0.arraylength hx (cell := cl4) (by rw [e0]; exact Ar4.1) (State.isArrayOf_alike hZ.alike Ar4.2.1) (g := (mkF m 11 #[.val (.ref o0), .val (.ref o1), .val (.int (0 : Int32))] [(.ref o0), (.int (0 : Int32))])) rfl (rest := [(.int (0 : Int32))]) rfl (hb hby own_d_jdk_43_13_11); rw [hl4] at q; exact q) ?_
      have hb12_5 : ¬ ((0 : Int32) < (0 : Int32)) := by decide
      refine own_by (V := s₁.setTop (mkF m 32 #[.val (.ref o0), .val (.ref o1), .val (.int (0 : Int32))] [])) (fun t k => XS.icmpYes X0.here hx rfl (pc0 := 12) (pc' := 32) rfl (hb hby own_d_jdk_43_13_12) rfl (flt hb12_5).2.1 (by decide) (by decide) k) ?_
      refine own_by (V := s₁.setTop (mkF m 33 #[.val (.ref o0), .val (.ref o1), .val (.int (0 : Int32))] [(.int (1 : Int32))])) (fun t k => XS.iconst X0.here hx rfl (hb hby own_d_jdk_43_13_32) k) ?_
      refine own_retN X0 hx hlk e0 Bd.returns (t := .boolean) (by simp) rfl (hb hby own_d_jdk_43_13_33) ?_ (by decide) (by decide)
      exact ⟨congrArg (fun z => some (Value.int z)) (show (1 : Int32) = (own_same x y) from by exact (if_pos ⟨qx.trans qy.symm, Or.inl (by rw [qx]; decide), Or.inl (by rw [qx]; decide)⟩).symm), N0, rfl⟩
    · have B1 := own_arvB1 qy A1
      refine own_by (V := s₁.setTop (mkF m 1 #[.val (.ref o0), .val (.ref o1), .unset] [(.ref o0)])) (fun t k => XS.aloadN X0.here hx rfl (hb hby own_d_jdk_43_13_0) rfl rfl k) ?_
      obtain ⟨cl6, Ar6, qa6, Sa6, Ma6, Ha6, Ua6⟩ := id B0
      have hl6 := len_of Sa6 Ma6
      refine own_by (V := s₁.setTop (mkF m 2 #[.val (.ref o0), .val (.ref o1), .unset] [(.int (0 : Int32))])) (by have q := X0.arraylength hx (cell := cl6) (by rw [e0]; exact Ar6.1) (State.isArrayOf_alike hZ.alike Ar6.2.1) (g := (mkF m 1 #[.val (.ref o0), .val (.ref o1), .unset] [(.ref o0)])) rfl (rest := []) rfl (hb hby own_d_jdk_43_13_1); rw [hl6] at q; exact q) ?_
      refine own_by (V := s₁.setTop (mkF m 3 #[.val (.ref o0), .val (.ref o1), .unset] [(.ref o1), (.int (0 : Int32))])) (fun t k => XS.aloadN X0.here hx rfl (hb hby own_d_jdk_43_13_2) rfl rfl k) ?_
      obtain ⟨cl7, Ar7, qa7, Sa7, Ma7, Ha7, Ua7⟩ := id B1
      have hl7 := len_of Sa7 Ma7
      refine own_by (V := s₁.setTop (mkF m 4 #[.val (.ref o0), .val (.ref o1), .unset] [(.int (1 : Int32)), (.int (0 : Int32))])) (by have q := X0.arraylength hx (cell := cl7) (by rw [e0]; exact Ar7.1) (State.isArrayOf_alike hZ.alike Ar7.2.1) (g := (mkF m 3 #[.val (.ref o0), .val (.ref o1), .unset] [(.ref o1), (.int (0 : Int32))])) rfl (rest := [(.int (0 : Int32))]) rfl (hb hby own_d_jdk_43_13_3); rw [hl7] at q; exact q) ?_
      have hb4_8 : ¬ ((0 : Int32) = (1 : Int32)) := by decide
      refine own_by (V := s₁.setTop (mkF m 34 #[.val (.ref o0), .val (.ref o1), .unset] [])) (fun t k => XS.icmpYes X0.here hx rfl (pc0 := 4) (pc' := 34) rfl (hb hby own_d_jdk_43_13_4) rfl (feq hb4_8).2 (by decide) (by decide) k) ?_
      refine own_by (V := s₁.setTop (mkF m 35 #[.val (.ref o0), .val (.ref o1), .unset] [(.int (0 : Int32))])) (fun t k => XS.iconst X0.here hx rfl (hb hby own_d_jdk_43_13_34) k) ?_
      refine own_retN X0 hx hlk e0 Bd.returns (t := .boolean) (by simp) rfl (hb hby own_d_jdk_43_13_35) ?_ (by decide) (by decide)
      exact ⟨congrArg (fun z => some (Value.int z)) (show (0 : Int32) = (own_same x y) from by exact own_same_len qx qy (by decide)), N0, rfl⟩
    · have B1 := own_arvB2 qy A1
      refine own_by (V := s₁.setTop (mkF m 1 #[.val (.ref o0), .val (.ref o1), .unset] [(.ref o0)])) (fun t k => XS.aloadN X0.here hx rfl (hb hby own_d_jdk_43_13_0) rfl rfl k) ?_
      obtain ⟨cl9, Ar9, qa9, Sa9, Ma9, Ha9, Ua9⟩ := id B0
      have hl9 := len_of Sa9 Ma9
      refine own_by (V := s₁.setTop (mkF m 2 #[.val (.ref o0), .val (.ref o1), .unset] [(.int (0 : Int32))])) (by have q := X0.arraylength hx (cell := cl9) (by rw [e0]; exact Ar9.1) (State.isArrayOf_alike hZ.alike Ar9.2.1) (g := (mkF m 1 #[.val (.ref o0), .val (.ref o1), .unset] [(.ref o0)])) rfl (rest := []) rfl (hb hby own_d_jdk_43_13_1); rw [hl9] at q; exact q) ?_
      refine own_by (V := s₁.setTop (mkF m 3 #[.val (.ref o0), .val (.ref o1), .unset] [(.ref o1), (.int (0 : Int32))])) (fun t k => XS.aloadN X0.here hx rfl (hb hby own_d_jdk_43_13_2) rfl rfl k) ?_
      obtain ⟨cl10, Ar10, qa10, Sa10, Ma10, Ha10, Ua10⟩ := id B1
      have hl10 := len_of Sa10 Ma10
      refine own_by (V := s₁.setTop (mkF m 4 #[.val (.ref o0), .val (.ref o1), .unset] [(.int (2 : Int32)), (.int (0 : Int32))])) (by have q := X0.arraylength hx (cell := cl10) (by rw [e0]; exact Ar10.1) (State.isArrayOf_alike hZ.alike Ar10.2.1) (g := (mkF m 3 #[.val (.ref o0), .val (.ref o1), .unset] [(.ref o1), (.int (0 : Int32))])) rfl (rest := [(.int (0 : Int32))]) rfl (hb hby own_d_jdk_43_13_3); rw [hl10] at q; exact q) ?_
      have hb4_11 : ¬ ((0 : Int32) = (2 : Int32)) := by decide
      refine own_by (V := s₁.setTop (mkF m 34 #[.val (.ref o0), .val (.ref o1), .unset] [])) (fun t k => XS.icmpYes X0.here hx rfl (pc0 := 4) (pc' := 34) rfl (hb hby own_d_jdk_43_13_4) rfl (feq hb4_11).2 (by decide) (by decide) k) ?_
      refine own_by (V := s₁.setTop (mkF m 35 #[.val (.ref o0), .val (.ref o1), .unset] [(.int (0 : Int32))])) (fun t k => XS.iconst X0.here hx rfl (hb hby own_d_jdk_43_13_34) k) ?_
      refine own_retN X0 hx hlk e0 Bd.returns (t := .boolean) (by simp) rfl (hb hby own_d_jdk_43_13_35) ?_ (by decide) (by decide)
      exact ⟨congrArg (fun z => some (Value.int z)) (show (0 : Int32) = (own_same x y) from by exact own_same_len qx qy (by decide)), N0, rfl⟩
  · have B0 := own_arvB1 qx A0
    rcases own_len3 y with qy | qy | qy
    · have B1 := own_arvB0 qy A1
      refine own_by (V := s₁.setTop (mkF m 1 #[.val (.ref o0), .val (.ref o1), .unset] [(.ref o0)])) (fun t k => XS.aloadN X0.here hx rfl (hb hby own_d_jdk_43_13_0) rfl rfl k) ?_
      obtain ⟨cl12, Ar12, qa12, Sa12, Ma12, Ha12, Ua12⟩ := id B0
      have hl12 := len_of Sa12 Ma12
      refine own_by (V := s₁.setTop (mkF m 2 #[.val (.ref o0), .val (.ref o1), .unset] [(.int (1 : Int32))])) (by have q := X0.arraylength hx (cell := cl12) (by rw [e0]; exact Ar12.1) (State.isArrayOf_alike hZ.alike Ar12.2.1) (g := (mkF m 1 #[.val (.ref o0), .val (.ref o1), .unset] [(.ref o0)])) rfl (rest := []) rfl (hb hby own_d_jdk_43_13_1); rw [hl12] at q; exact q) ?_
      refine own_by (V := s₁.setTop (mkF m 3 #[.val (.ref o0), .val (.ref o1), .unset] [(.ref o1), (.int (1 : Int32))])) (fun t k => XS.aloadN X0.here hx rfl (hb hby own_d_jdk_43_13_2) rfl rfl k) ?_
      obtain ⟨cl13, Ar13, qa13, Sa13, Ma13, Ha13, Ua13⟩ := id B1
      have hl13 := len_of Sa13 Ma13
      refine own_by (V := s₁.setTop (mkF m 4 #[.val (.ref o0), .val (.ref o1), .unset] [(.int (0 : Int32)), (.int (1 : Int32))])) (by have q := X0.arraylength hx (cell := cl13) (by rw [e0]; exact Ar13.1) (State.isArrayOf_alike hZ.alike Ar13.2.1) (g := (mkF m 3 #[.val (.ref o0), .val (.ref o1), .unset] [(.ref o1), (.int (1 : Int32))])) rfl (rest := [(.int (1 : Int32))]) rfl (hb hby own_d_jdk_43_13_3); rw [hl13] at q; exact q) ?_
      have hb4_14 : ¬ ((1 : Int32) = (0 : Int32)) := by decide
      refine own_by (V := s₁.setTop (mkF m 34 #[.val (.ref o0), .val (.ref o1), .unset] [])) (fun t k => XS.icmpYes X0.here hx rfl (pc0 := 4) (pc' := 34) rfl (hb hby own_d_jdk_43_13_4) rfl (feq hb4_14).2 (by decide) (by decide) k) ?_
      refine own_by (V := s₁.setTop (mkF m 35 #[.val (.ref o0), .val (.ref o1), .unset] [(.int (0 : Int32))])) (fun t k => XS.iconst X0.here hx rfl (hb hby own_d_jdk_43_13_34) k) ?_
      refine own_retN X0 hx hlk e0 Bd.returns (t := .boolean) (by simp) rfl (hb hby own_d_jdk_43_13_35) ?_ (by decide) (by decide)
      exact ⟨congrArg (fun z => some (Value.int z)) (show (0 : Int32) = (own_same x y) from by exact own_same_len qx qy (by decide)), N0, rfl⟩
    · have B1 := own_arvB1 qy A1
      refine own_by (V := s₁.setTop (mkF m 1 #[.val (.ref o0), .val (.ref o1), .unset] [(.ref o0)])) (fun t k => XS.aloadN X0.here hx rfl (hb hby own_d_jdk_43_13_0) rfl rfl k) ?_
      obtain ⟨cl15, Ar15, qa15, Sa15, Ma15, Ha15, Ua15⟩ := id B0
      have hl15 := len_of Sa15 Ma15
      refine own_by (V := s₁.setTop (mkF m 2 #[.val (.ref o0), .val (.ref o1), .unset] [(.int (1 : Int32))])) (by have q := X0.arraylength hx (cell := cl15) (by rw [e0]; exact Ar15.1) (State.isArrayOf_alike hZ.alike Ar15.2.1) (g := (mkF m 1 #[.val (.ref o0), .val (.ref o1), .unset] [(.ref o0)])) rfl (rest := []) rfl (hb hby own_d_jdk_43_13_1); rw [hl15] at q; exact q) ?_
      refine own_by (V := s₁.setTop (mkF m 3 #[.val (.ref o0), .val (.ref o1), .unset] [(.ref o1), (.int (1 : Int32))])) (fun t k => XS.aloadN X0.here hx rfl (hb hby own_d_jdk_43_13_2) rfl rfl k) ?_
      obtain ⟨cl16, Ar16, qa16, Sa16, Ma16, Ha16, Ua16⟩ := id B1
      have hl16 := len_of Sa16 Ma16
      refine own_by (V := s₁.setTop (mkF m 4 #[.val (.ref o0), .val (.ref o1), .unset] [(.int (1 : Int32)), (.int (1 : Int32))])) (by have q := X0.arraylength hx (cell := cl16) (by rw [e0]; exact Ar16.1) (State.isArrayOf_alike hZ.alike Ar16.2.1) (g := (mkF m 3 #[.val (.ref o0), .val (.ref o1), .unset] [(.ref o1), (.int (1 : Int32))])) rfl (rest := [(.int (1 : Int32))]) rfl (hb hby own_d_jdk_43_13_3); rw [hl16] at q; exact q) ?_
      have hb4_17 : ((1 : Int32) = (1 : Int32)) := rfl
      refine own_by (V := s₁.setTop (mkF m 7 #[.val (.ref o0), .val (.ref o1), .unset] [])) (fun t k => XS.icmpNo X0.here hx rfl (hb hby own_d_jdk_43_13_4) rfl (teq hb4_17).2 k) ?_
      refine own_by (V := s₁.setTop (mkF m 8 #[.val (.ref o0), .val (.ref o1), .unset] [(.int (0 : Int32))])) (fun t k => XS.iconst X0.here hx rfl (hb hby own_d_jdk_43_13_7) k) ?_
      refine own_by (V := s₁.setTop (mkF m 9 #[.val (.ref o0), .val (.ref o1), .val (.int (0 : Int32))] [])) (fun t k => XS.istoreN X0.here hx rfl (hb hby own_d_jdk_43_13_8) rfl (l' := #[.val (.ref o0), .val (.ref o1), .val (.int (0 : Int32))]) rfl k) ?_
      refine own_by (V := s₁.setTop (mkF m 10 #[.val (.ref o0), .val (.ref o1), .val (.int (0 : Int32))] [(.int (0 : Int32))])) (fun t k => XS.iloadN X0.here hx rfl (hb hby own_d_jdk_43_13_9) rfl  k) ?_
      refine own_by (V := s₁.setTop (mkF m 11 #[.val (.ref o0), .val (.ref o1), .val (.int (0 : Int32))] [(.ref o0), (.int (0 : Int32))])) (fun t k => XS.aloadN X0.here hx rfl (hb hby own_d_jdk_43_13_10) rfl rfl k) ?_
      obtain ⟨cl18, Ar18, qa18, Sa18, Ma18, Ha18, Ua18⟩ := id B0
      have hl18 := len_of Sa18 Ma18
      refine own_by (V := s₁.setTop (mkF m 12 #[.val (.ref o0), .val (.ref o1), .val (.int (0 : Int32))] [(.int (1 : Int32)), (.int (0 : Int32))])) (by have q := X0.arraylength hx (cell := cl18) (by rw [e0]; exact Ar18.1) (State.isArrayOf_alike hZ.alike Ar18.2.1) (g := (mkF m 11 #[.val (.ref o0), .val (.ref o1), .val (.int (0 : Int32))] [(.ref o0), (.int (0 : Int32))])) rfl (rest := [(.int (0 : Int32))]) rfl (hb hby own_d_jdk_43_13_11); rw [hl18] at q; exact q) ?_
      have hb12_19 : ((0 : Int32) < (1 : Int32)) := by decide
      refine own_by (V := s₁.setTop (mkF m 15 #[.val (.ref o0), .val (.ref o1), .val (.int (0 : Int32))] [])) (fun t k => XS.icmpNo X0.here hx rfl (hb hby own_d_jdk_43_13_12) rfl (tlt hb12_19).2.1 k) ?_
      refine own_by (V := s₁.setTop (mkF m 16 #[.val (.ref o0), .val (.ref o1), .val (.int (0 : Int32))] [(.ref o0)])) (fun t k => XS.aloadN X0.here hx rfl (hb hby own_d_jdk_43_13_15) rfl rfl k) ?_
      refine own_by (V := s₁.setTop (mkF m 17 #[.val (.ref o0), .val (.ref o1), .val (.int (0 : Int32))] [(.int (0 : Int32)), (.ref o0)])) (fun t k => XS.iloadN X0.here hx rfl (hb hby own_d_jdk_43_13_16) rfl  k) ?_
      obtain ⟨cl20, Ar20, qa20, Sa20, Ma20, Ha20, Ua20⟩ := id B0
      have hi20 := inb_of Sa20 (j := (0 : Int32)) ⟨(by decide), (by decide)⟩
      refine own_by (V := s₁.setTop (mkF m 18 #[.val (.ref o0), .val (.ref o1), .val (.int (0 : Int32))] [(.int (nar .byte ((nar .char (own_ch0 x)).toInt8.toInt32)))])) (X0.baloadBytes hx (j := (0 : Int32)) (v := (.int (nar .byte ((nar .char (own_ch0 x)).toInt8.toInt32)))) (by rw [e0]; exact Ar20.1) (State.isArrayOf_alike hZ.alike Ar20.2.1) Ar20.2.2 hi20 (Has.at Ha20 hi20 rfl) (g := (mkF m 17 #[.val (.ref o0), .val (.ref o1), .val (.int (0 : Int32))] [(.int (0 : Int32)), (.ref o0)])) rfl rfl (hb hby own_d_jdk_43_13_17)) ?_
      refine own_by (V := s₁.setTop (mkF m 19 #[.val (.ref o0), .val (.ref o1), .val (.int (0 : Int32))] [(.ref o1), (.int (nar .byte ((nar .char (own_ch0 x)).toInt8.toInt32)))])) (fun t k => XS.aloadN X0.here hx rfl (hb hby own_d_jdk_43_13_18) rfl rfl k) ?_
      refine own_by (V := s₁.setTop (mkF m 20 #[.val (.ref o0), .val (.ref o1), .val (.int (0 : Int32))] [(.int (0 : Int32)), (.ref o1), (.int (nar .byte ((nar .char (own_ch0 x)).toInt8.toInt32)))])) (fun t k => XS.iloadN X0.here hx rfl (hb hby own_d_jdk_43_13_19) rfl  k) ?_
      obtain ⟨cl21, Ar21, qa21, Sa21, Ma21, Ha21, Ua21⟩ := id B1
      have hi21 := inb_of Sa21 (j := (0 : Int32)) ⟨(by decide), (by decide)⟩
      refine own_by (V := s₁.setTop (mkF m 21 #[.val (.ref o0), .val (.ref o1), .val (.int (0 : Int32))] [(.int (nar .byte ((nar .char (own_ch0 y)).toInt8.toInt32))), (.int (nar .byte ((nar .char (own_ch0 x)).toInt8.toInt32)))])) (X0.baloadBytes hx (j := (0 : Int32)) (v := (.int (nar .byte ((nar .char (own_ch0 y)).toInt8.toInt32)))) (by rw [e0]; exact Ar21.1) (State.isArrayOf_alike hZ.alike Ar21.2.1) Ar21.2.2 hi21 (Has.at Ha21 hi21 rfl) (g := (mkF m 20 #[.val (.ref o0), .val (.ref o1), .val (.int (0 : Int32))] [(.int (0 : Int32)), (.ref o1), (.int (nar .byte ((nar .char (own_ch0 x)).toInt8.toInt32)))])) rfl rfl (hb hby own_d_jdk_43_13_20)) ?_
      by_cases hb21_22 : (nar .byte ((nar .char (own_ch0 x)).toInt8.toInt32)) = (nar .byte ((nar .char (own_ch0 y)).toInt8.toInt32))
      · refine own_by (V := s₁.setTop (mkF m 26 #[.val (.ref o0), .val (.ref o1), .val (.int (0 : Int32))] [])) (fun t k => XS.icmpYes X0.here hx rfl (pc0 := 21) (pc' := 26) rfl (hb hby own_d_jdk_43_13_21) rfl (teq hb21_22).1 (by decide) (by decide) k) ?_
        refine own_by (V := s₁.setTop (mkF m 29 #[.val (.ref o0), .val (.ref o1), .val (.int (1 : Int32))] [])) (fun t k => XS.iinc X0.here hx rfl (hb hby own_d_jdk_43_13_26) rfl (l' := #[.val (.ref o0), .val (.ref o1), .val (.int (1 : Int32))]) rfl k) ?_
        refine own_by (V := s₁.setTop (mkF m 9 #[.val (.ref o0), .val (.ref o1), .val (.int (1 : Int32))] [])) (fun t k => XS.goto X0.here hx rfl (pc0 := 29) (pc' := 9) rfl (hb hby own_d_jdk_43_13_29) (by decide) (by decide) k) ?_
        refine own_by (V := s₁.setTop (mkF m 10 #[.val (.ref o0), .val (.ref o1), .val (.int (1 : Int32))] [(.int (1 : Int32))])) (fun t k => XS.iloadN X0.here hx rfl (hb hby own_d_jdk_43_13_9) rfl  k) ?_
        refine own_by (V := s₁.setTop (mkF m 11 #[.val (.ref o0), .val (.ref o1), .val (.int (1 : Int32))] [(.ref o0), (.int (1 : Int32))])) (fun t k => XS.aloadN X0.here hx rfl (hb hby own_d_jdk_43_13_10) rfl rfl k) ?_
        obtain ⟨cl23, Ar23, qa23, Sa23, Ma23, Ha23, Ua23⟩ := id B0
        have hl23 := len_of Sa23 Ma23
        refine own_by (V := s₁.setTop (mkF m 12 #[.val (.ref o0), .val (.ref o1), .val (.int (1 : Int32))] [(.int (1 : Int32)), (.int (1 : Int32))])) (by have q := X0.arraylength hx (cell := cl23) (by rw [e0]; exact Ar23.1) (State.isArrayOf_alike hZ.alike Ar23.2.1) (g := (mkF m 11 #[.val (.ref o0), .val (.ref o1), .val (.int (1 : Int32))] [(.ref o0), (.int (1 : Int32))])) rfl (rest := [(.int (1 : Int32))]) rfl (hb hby own_d_jdk_43_13_11); rw [hl23] at q; exact q) ?_
        have hb12_24 : ¬ ((1 : Int32) < (1 : Int32)) := by decide
        refine own_by (V := s₁.setTop (mkF m 32 #[.val (.ref o0), .val (.ref o1), .val (.int (1 : Int32))] [])) (fun t k => XS.icmpYes X0.here hx rfl (pc0 := 12) (pc' := 32) rfl (hb hby own_d_jdk_43_13_12) rfl (flt hb12_24).2.1 (by decide) (by decide) k) ?_
        refine own_by (V := s₁.setTop (mkF m 33 #[.val (.ref o0), .val (.ref o1), .val (.int (1 : Int32))] [(.int (1 : Int32))])) (fun t k => XS.iconst X0.here hx rfl (hb hby own_d_jdk_43_13_32) k) ?_
        refine own_retN X0 hx hlk e0 Bd.returns (t := .boolean) (by simp) rfl (hb hby own_d_jdk_43_13_33) ?_ (by decide) (by decide)
        exact ⟨congrArg (fun z => some (Value.int z)) (show (1 : Int32) = (own_same x y) from by exact (if_pos ⟨qx.trans qy.symm, Or.inr ((own_byteEq _ _).mp hb21_22), Or.inl (by rw [qx]; decide)⟩).symm), N0, rfl⟩
      · refine own_by (V := s₁.setTop (mkF m 24 #[.val (.ref o0), .val (.ref o1), .val (.int (0 : Int32))] [])) (fun t k => XS.icmpNo X0.here hx rfl (hb hby own_d_jdk_43_13_21) rfl (feq hb21_22).1 k) ?_
        refine own_by (V := s₁.setTop (mkF m 25 #[.val (.ref o0), .val (.ref o1), .val (.int (0 : Int32))] [(.int (0 : Int32))])) (fun t k => XS.iconst X0.here hx rfl (hb hby own_d_jdk_43_13_24) k) ?_
        refine own_retN X0 hx hlk e0 Bd.returns (t := .boolean) (by simp) rfl (hb hby own_d_jdk_43_13_25) ?_ (by decide) (by decide)
        exact ⟨congrArg (fun z => some (Value.int z)) (show (0 : Int32) = (own_same x y) from by exact own_same_no10 qx (fun u => hb21_22 ((own_byteEq _ _).mpr u))), N0, rfl⟩
    · have B1 := own_arvB2 qy A1
      refine own_by (V := s₁.setTop (mkF m 1 #[.val (.ref o0), .val (.ref o1), .unset] [(.ref o0)])) (fun t k => XS.aloadN X0.here hx rfl (hb hby own_d_jdk_43_13_0) rfl rfl k) ?_
      obtain ⟨cl25, Ar25, qa25, Sa25, Ma25, Ha25, Ua25⟩ := id B0
      have hl25 := len_of Sa25 Ma25
      refine own_by (V := s₁.setTop (mkF m 2 #[.val (.ref o0), .val (.ref o1), .unset] [(.int (1 : Int32))])) (by have q := X0.arraylength hx (cell := cl25) (by rw [e0]; exact Ar25.1) (State.isArrayOf_alike hZ.alike Ar25.2.1) (g := (mkF m 1 #[.val (.ref o0), .val (.ref o1), .unset] [(.ref o0)])) rfl (rest := []) rfl (hb hby own_d_jdk_43_13_1); rw [hl25] at q; exact q) ?_
      refine own_by (V := s₁.setTop (mkF m 3 #[.val (.ref o0), .val (.ref o1), .unset] [(.ref o1), (.int (1 : Int32))])) (fun t k => XS.aloadN X0.here hx rfl (hb hby own_d_jdk_43_13_2) rfl rfl k) ?_
      obtain ⟨cl26, Ar26, qa26, Sa26, Ma26, Ha26, Ua26⟩ := id B1
      have hl26 := len_of Sa26 Ma26
      refine own_by (V := s₁.setTop (mkF m 4 #[.val (.ref o0), .val (.ref o1), .unset] [(.int (2 : Int32)), (.int (1 : Int32))])) (by have q := X0.arraylength hx (cell := cl26) (by rw [e0]; exact Ar26.1) (State.isArrayOf_alike hZ.alike Ar26.2.1) (g := (mkF m 3 #[.val (.ref o0), .val (.ref o1), .unset] [(.ref o1), (.int (1 : Int32))])) rfl (rest := [(.int (1 : Int32))]) rfl (hb hby own_d_jdk_43_13_3); rw [hl26] at q; exact q) ?_
      have hb4_27 : ¬ ((1 : Int32) = (2 : Int32)) := by decide
      refine own_by (V := s₁.setTop (mkF m 34 #[.val (.ref o0), .val (.ref o1), .unset] [])) (fun t k => XS.icmpYes X0.here hx rfl (pc0 := 4) (pc' := 34) rfl (hb hby own_d_jdk_43_13_4) rfl (feq hb4_27).2 (by decide) (by decide) k) ?_
      refine own_by (V := s₁.setTop (mkF m 35 #[.val (.ref o0), .val (.ref o1), .unset] [(.int (0 : Int32))])) (fun t k => XS.iconst X0.here hx rfl (hb hby own_d_jdk_43_13_34) k) ?_
      refine own_retN X0 hx hlk e0 Bd.returns (t := .boolean) (by simp) rfl (hb hby own_d_jdk_43_13_35) ?_ (by decide) (by decide)
      exact ⟨congrArg (fun z => some (Value.int z)) (show (0 : Int32) = (own_same x y) from by exact own_same_len qx qy (by decide)), N0, rfl⟩
  · have B0 := own_arvB2 qx A0
    rcases own_len3 y with qy | qy | qy
    · have B1 := own_arvB0 qy A1
      refine own_by (V := s₁.setTop (mkF m 1 #[.val (.ref o0), .val (.ref o1), .unset] [(.ref o0)])) (fun t k => XS.aloadN X0.here hx rfl (hb hby own_d_jdk_43_13_0) rfl rfl k) ?_
      obtain ⟨cl28, Ar28, qa28, Sa28, Ma28, Ha28, Ua28⟩ := id B0
      have hl28 := len_of Sa28 Ma28
      refine own_by (V := s₁.setTop (mkF m 2 #[.val (.ref o0), .val (.ref o1), .unset] [(.int (2 : Int32))])) (by have q := X0.arraylength hx (cell := cl28) (by rw [e0]; exact Ar28.1) (State.isArrayOf_alike hZ.alike Ar28.2.1) (g := (mkF m 1 #[.val (.ref o0), .val (.ref o1), .unset] [(.ref o0)])) rfl (rest := []) rfl (hb hby own_d_jdk_43_13_1); rw [hl28] at q; exact q) ?_
      refine own_by (V := s₁.setTop (mkF m 3 #[.val (.ref o0), .val (.ref o1), .unset] [(.ref o1), (.int (2 : Int32))])) (fun t k => XS.aloadN X0.here hx rfl (hb hby own_d_jdk_43_13_2) rfl rfl k) ?_
      obtain ⟨cl29, Ar29, qa29, Sa29, Ma29, Ha29, Ua29⟩ := id B1
      have hl29 := len_of Sa29 Ma29
      refine own_by (V := s₁.setTop (mkF m 4 #[.val (.ref o0), .val (.ref o1), .unset] [(.int (0 : Int32)), (.int (2 : Int32))])) (by have q := X0.arraylength hx (cell := cl29) (by rw [e0]; exact Ar29.1) (State.isArrayOf_alike hZ.alike Ar29.2.1) (g := (mkF m 3 #[.val (.ref o0), .val (.ref o1), .unset] [(.ref o1), (.int (2 : Int32))])) rfl (rest := [(.int (2 : Int32))]) rfl (hb hby own_d_jdk_43_13_3); rw [hl29] at q; exact q) ?_
      have hb4_30 : ¬ ((2 : Int32) = (0 : Int32)) := by decide
      refine own_by (V := s₁.setTop (mkF m 34 #[.val (.ref o0), .val (.ref o1), .unset] [])) (fun t k => XS.icmpYes X0.here hx rfl (pc0 := 4) (pc' := 34) rfl (hb hby own_d_jdk_43_13_4) rfl (feq hb4_30).2 (by decide) (by decide) k) ?_
      refine own_by (V := s₁.setTop (mkF m 35 #[.val (.ref o0), .val (.ref o1), .unset] [(.int (0 : Int32))])) (fun t k => XS.iconst X0.here hx rfl (hb hby own_d_jdk_43_13_34) k) ?_
      refine own_retN X0 hx hlk e0 Bd.returns (t := .boolean) (by simp) rfl (hb hby own_d_jdk_43_13_35) ?_ (by decide) (by decide)
      exact ⟨congrArg (fun z => some (Value.int z)) (show (0 : Int32) = (own_same x y) from by exact own_same_len qx qy (by decide)), N0, rfl⟩
    · have B1 := own_arvB1 qy A1
      refine own_by (V := s₁.setTop (mkF m 1 #[.val (.ref o0), .val (.ref o1), .unset] [(.ref o0)])) (fun t k => XS.aloadN X0.here hx rfl (hb hby own_d_jdk_43_13_0) rfl rfl k) ?_
      obtain ⟨cl31, Ar31, qa31, Sa31, Ma31, Ha31, Ua31⟩ := id B0
      have hl31 := len_of Sa31 Ma31
      refine own_by (V := s₁.setTop (mkF m 2 #[.val (.ref o0), .val (.ref o1), .unset] [(.int (2 : Int32))])) (by have q := X0.arraylength hx (cell := cl31) (by rw [e0]; exact Ar31.1) (State.isArrayOf_alike hZ.alike Ar31.2.1) (g := (mkF m 1 #[.val (.ref o0), .val (.ref o1), .unset] [(.ref o0)])) rfl (rest := []) rfl (hb hby own_d_jdk_43_13_1); rw [hl31] at q; exact q) ?_
      refine own_by (V := s₁.setTop (mkF m 3 #[.val (.ref o0), .val (.ref o1), .unset] [(.ref o1), (.int (2 : Int32))])) (fun t k => XS.aloadN X0.here hx rfl (hb hby own_d_jdk_43_13_2) rfl rfl k) ?_
      obtain ⟨cl32, Ar32, qa32, Sa32, Ma32, Ha32, Ua32⟩ := id B1
      have hl32 := len_of Sa32 Ma32
      refine own_by (V := s₁.setTop (mkF m 4 #[.val (.ref o0), .val (.ref o1), .unset] [(.int (1 : Int32)), (.int (2 : Int32))])) (by have q := X0.arraylength hx (cell := cl32) (by rw [e0]; exact Ar32.1) (State.isArrayOf_alike hZ.alike Ar32.2.1) (g := (mkF m 3 #[.val (.ref o0), .val (.ref o1), .unset] [(.ref o1), (.int (2 : Int32))])) rfl (rest := [(.int (2 : Int32))]) rfl (hb hby own_d_jdk_43_13_3); rw [hl32] at q; exact q) ?_
      have hb4_33 : ¬ ((2 : Int32) = (1 : Int32)) := by decide
      refine own_by (V := s₁.setTop (mkF m 34 #[.val (.ref o0), .val (.ref o1), .unset] [])) (fun t k => XS.icmpYes X0.here hx rfl (pc0 := 4) (pc' := 34) rfl (hb hby own_d_jdk_43_13_4) rfl (feq hb4_33).2 (by decide) (by decide) k) ?_
      refine own_by (V := s₁.setTop (mkF m 35 #[.val (.ref o0), .val (.ref o1), .unset] [(.int (0 : Int32))])) (fun t k => XS.iconst X0.here hx rfl (hb hby own_d_jdk_43_13_34) k) ?_
      refine own_retN X0 hx hlk e0 Bd.returns (t := .boolean) (by simp) rfl (hb hby own_d_jdk_43_13_35) ?_ (by decide) (by decide)
      exact ⟨congrArg (fun z => some (Value.int z)) (show (0 : Int32) = (own_same x y) from by exact own_same_len qx qy (by decide)), N0, rfl⟩
    · have B1 := own_arvB2 qy A1
      refine own_by (V := s₁.setTop (mkF m 1 #[.val (.ref o0), .val (.ref o1), .unset] [(.ref o0)])) (fun t k => XS.aloadN X0.here hx rfl (hb hby own_d_jdk_43_13_0) rfl rfl k) ?_
      obtain ⟨cl34, Ar34, qa34, Sa34, Ma34, Ha34, Ua34⟩ := id B0
      have hl34 := len_of Sa34 Ma34
      refine own_by (V := s₁.setTop (mkF m 2 #[.val (.ref o0), .val (.ref o1), .unset] [(.int (2 : Int32))])) (by have q := X0.arraylength hx (cell := cl34) (by rw [e0]; exact Ar34.1) (State.isArrayOf_alike hZ.alike Ar34.2.1) (g := (mkF m 1 #[.val (.ref o0), .val (.ref o1), .unset] [(.ref o0)])) rfl (rest := []) rfl (hb hby own_d_jdk_43_13_1); rw [hl34] at q; exact q) ?_
      refine own_by (V := s₁.setTop (mkF m 3 #[.val (.ref o0), .val (.ref o1), .unset] [(.ref o1), (.int (2 : Int32))])) (fun t k => XS.aloadN X0.here hx rfl (hb hby own_d_jdk_43_13_2) rfl rfl k) ?_
      obtain ⟨cl35, Ar35, qa35, Sa35, Ma35, Ha35, Ua35⟩ := id B1
      have hl35 := len_of Sa35 Ma35
      refine own_by (V := s₁.setTop (mkF m 4 #[.val (.ref o0), .val (.ref o1), .unset] [(.int (2 : Int32)), (.int (2 : Int32))])) (by have q := X0.arraylength hx (cell := cl35) (by rw [e0]; exact Ar35.1) (State.isArrayOf_alike hZ.alike Ar35.2.1) (g := (mkF m 3 #[.val (.ref o0), .val (.ref o1), .unset] [(.ref o1), (.int (2 : Int32))])) rfl (rest := [(.int (2 : Int32))]) rfl (hb hby own_d_jdk_43_13_3); rw [hl35] at q; exact q) ?_
      have hb4_36 : ((2 : Int32) = (2 : Int32)) := rfl
      refine own_by (V := s₁.setTop (mkF m 7 #[.val (.ref o0), .val (.ref o1), .unset] [])) (fun t k => XS.icmpNo X0.here hx rfl (hb hby own_d_jdk_43_13_4) rfl (teq hb4_36).2 k) ?_
      refine own_by (V := s₁.setTop (mkF m 8 #[.val (.ref o0), .val (.ref o1), .unset] [(.int (0 : Int32))])) (fun t k => XS.iconst X0.here hx rfl (hb hby own_d_jdk_43_13_7) k) ?_
      refine own_by (V := s₁.setTop (mkF m 9 #[.val (.ref o0), .val (.ref o1), .val (.int (0 : Int32))] [])) (fun t k => XS.istoreN X0.here hx rfl (hb hby own_d_jdk_43_13_8) rfl (l' := #[.val (.ref o0), .val (.ref o1), .val (.int (0 : Int32))]) rfl k) ?_
      refine own_by (V := s₁.setTop (mkF m 10 #[.val (.ref o0), .val (.ref o1), .val (.int (0 : Int32))] [(.int (0 : Int32))])) (fun t k => XS.iloadN X0.here hx rfl (hb hby own_d_jdk_43_13_9) rfl  k) ?_
      refine own_by (V := s₁.setTop (mkF m 11 #[.val (.ref o0), .val (.ref o1), .val (.int (0 : Int32))] [(.ref o0), (.int (0 : Int32))])) (fun t k => XS.aloadN X0.here hx rfl (hb hby own_d_jdk_43_13_10) rfl rfl k) ?_
      obtain ⟨cl37, Ar37, qa37, Sa37, Ma37, Ha37, Ua37⟩ := id B0
      have hl37 := len_of Sa37 Ma37
      refine own_by (V := s₁.setTop (mkF m 12 #[.val (.ref o0), .val (.ref o1), .val (.int (0 : Int32))] [(.int (2 : Int32)), (.int (0 : Int32))])) (by have q := X0.arraylength hx (cell := cl37) (by rw [e0]; exact Ar37.1) (State.isArrayOf_alike hZ.alike Ar37.2.1) (g := (mkF m 11 #[.val (.ref o0), .val (.ref o1), .val (.int (0 : Int32))] [(.ref o0), (.int (0 : Int32))])) rfl (rest := [(.int (0 : Int32))]) rfl (hb hby own_d_jdk_43_13_11); rw [hl37] at q; exact q) ?_
      have hb12_38 : ((0 : Int32) < (2 : Int32)) := by decide
      refine own_by (V := s₁.setTop (mkF m 15 #[.val (.ref o0), .val (.ref o1), .val (.int (0 : Int32))] [])) (fun t k => XS.icmpNo X0.here hx rfl (hb hby own_d_jdk_43_13_12) rfl (tlt hb12_38).2.1 k) ?_
      refine own_by (V := s₁.setTop (mkF m 16 #[.val (.ref o0), .val (.ref o1), .val (.int (0 : Int32))] [(.ref o0)])) (fun t k => XS.aloadN X0.here hx rfl (hb hby own_d_jdk_43_13_15) rfl rfl k) ?_
      refine own_by (V := s₁.setTop (mkF m 17 #[.val (.ref o0), .val (.ref o1), .val (.int (0 : Int32))] [(.int (0 : Int32)), (.ref o0)])) (fun t k => XS.iloadN X0.here hx rfl (hb hby own_d_jdk_43_13_16) rfl  k) ?_
      obtain ⟨cl39, Ar39, qa39, Sa39, Ma39, Ha39, Ua39⟩ := id B0
      have hi39 := inb_of Sa39 (j := (0 : Int32)) ⟨(by decide), (by decide)⟩
      refine own_by (V := s₁.setTop (mkF m 18 #[.val (.ref o0), .val (.ref o1), .val (.int (0 : Int32))] [(.int (nar .byte ((nar .char (own_ch0 x)).toInt8.toInt32)))])) (X0.baloadBytes hx (j := (0 : Int32)) (v := (.int (nar .byte ((nar .char (own_ch0 x)).toInt8.toInt32)))) (by rw [e0]; exact Ar39.1) (State.isArrayOf_alike hZ.alike Ar39.2.1) Ar39.2.2 hi39 (Has.at Ha39 hi39 rfl) (g := (mkF m 17 #[.val (.ref o0), .val (.ref o1), .val (.int (0 : Int32))] [(.int (0 : Int32)), (.ref o0)])) rfl rfl (hb hby own_d_jdk_43_13_17)) ?_
      refine own_by (V := s₁.setTop (mkF m 19 #[.val (.ref o0), .val (.ref o1), .val (.int (0 : Int32))] [(.ref o1), (.int (nar .byte ((nar .char (own_ch0 x)).toInt8.toInt32)))])) (fun t k => XS.aloadN X0.here hx rfl (hb hby own_d_jdk_43_13_18) rfl rfl k) ?_
      refine own_by (V := s₁.setTop (mkF m 20 #[.val (.ref o0), .val (.ref o1), .val (.int (0 : Int32))] [(.int (0 : Int32)), (.ref o1), (.int (nar .byte ((nar .char (own_ch0 x)).toInt8.toInt32)))])) (fun t k => XS.iloadN X0.here hx rfl (hb hby own_d_jdk_43_13_19) rfl  k) ?_
      obtain ⟨cl40, Ar40, qa40, Sa40, Ma40, Ha40, Ua40⟩ := id B1
      have hi40 := inb_of Sa40 (j := (0 : Int32)) ⟨(by decide), (by decide)⟩
      refine own_by (V := s₁.setTop (mkF m 21 #[.val (.ref o0), .val (.ref o1), .val (.int (0 : Int32))] [(.int (nar .byte ((nar .char (own_ch0 y)).toInt8.toInt32))), (.int (nar .byte ((nar .char (own_ch0 x)).toInt8.toInt32)))])) (X0.baloadBytes hx (j := (0 : Int32)) (v := (.int (nar .byte ((nar .char (own_ch0 y)).toInt8.toInt32)))) (by rw [e0]; exact Ar40.1) (State.isArrayOf_alike hZ.alike Ar40.2.1) Ar40.2.2 hi40 (Has.at Ha40 hi40 rfl) (g := (mkF m 20 #[.val (.ref o0), .val (.ref o1), .val (.int (0 : Int32))] [(.int (0 : Int32)), (.ref o1), (.int (nar .byte ((nar .char (own_ch0 x)).toInt8.toInt32)))])) rfl rfl (hb hby own_d_jdk_43_13_20)) ?_
      by_cases hb21_41 : (nar .byte ((nar .char (own_ch0 x)).toInt8.toInt32)) = (nar .byte ((nar .char (own_ch0 y)).toInt8.toInt32))
      · refine own_by (V := s₁.setTop (mkF m 26 #[.val (.ref o0), .val (.ref o1), .val (.int (0 : Int32))] [])) (fun t k => XS.icmpYes X0.here hx rfl (pc0 := 21) (pc' := 26) rfl (hb hby own_d_jdk_43_13_21) rfl (teq hb21_41).1 (by decide) (by decide) k) ?_
        refine own_by (V := s₁.setTop (mkF m 29 #[.val (.ref o0), .val (.ref o1), .val (.int (1 : Int32))] [])) (fun t k => XS.iinc X0.here hx rfl (hb hby own_d_jdk_43_13_26) rfl (l' := #[.val (.ref o0), .val (.ref o1), .val (.int (1 : Int32))]) rfl k) ?_
        refine own_by (V := s₁.setTop (mkF m 9 #[.val (.ref o0), .val (.ref o1), .val (.int (1 : Int32))] [])) (fun t k => XS.goto X0.here hx rfl (pc0 := 29) (pc' := 9) rfl (hb hby own_d_jdk_43_13_29) (by decide) (by decide) k) ?_
        refine own_by (V := s₁.setTop (mkF m 10 #[.val (.ref o0), .val (.ref o1), .val (.int (1 : Int32))] [(.int (1 : Int32))])) (fun t k => XS.iloadN X0.here hx rfl (hb hby own_d_jdk_43_13_9) rfl  k) ?_
        refine own_by (V := s₁.setTop (mkF m 11 #[.val (.ref o0), .val (.ref o1), .val (.int (1 : Int32))] [(.ref o0), (.int (1 : Int32))])) (fun t k => XS.aloadN X0.here hx rfl (hb hby own_d_jdk_43_13_10) rfl rfl k) ?_
        obtain ⟨cl42, Ar42, qa42, Sa42, Ma42, Ha42, Ua42⟩ := id B0
        have hl42 := len_of Sa42 Ma42
        refine own_by (V := s₁.setTop (mkF m 12 #[.val (.ref o0), .val (.ref o1), .val (.int (1 : Int32))] [(.int (2 : Int32)), (.int (1 : Int32))])) (by have q := X0.arraylength hx (cell := cl42) (by rw [e0]; exact Ar42.1) (State.isArrayOf_alike hZ.alike Ar42.2.1) (g := (mkF m 11 #[.val (.ref o0), .val (.ref o1), .val (.int (1 : Int32))] [(.ref o0), (.int (1 : Int32))])) rfl (rest := [(.int (1 : Int32))]) rfl (hb hby own_d_jdk_43_13_11); rw [hl42] at q; exact q) ?_
        have hb12_43 : ((1 : Int32) < (2 : Int32)) := by decide
        refine own_by (V := s₁.setTop (mkF m 15 #[.val (.ref o0), .val (.ref o1), .val (.int (1 : Int32))] [])) (fun t k => XS.icmpNo X0.here hx rfl (hb hby own_d_jdk_43_13_12) rfl (tlt hb12_43).2.1 k) ?_
        refine own_by (V := s₁.setTop (mkF m 16 #[.val (.ref o0), .val (.ref o1), .val (.int (1 : Int32))] [(.ref o0)])) (fun t k => XS.aloadN X0.here hx rfl (hb hby own_d_jdk_43_13_15) rfl rfl k) ?_
        refine own_by (V := s₁.setTop (mkF m 17 #[.val (.ref o0), .val (.ref o1), .val (.int (1 : Int32))] [(.int (1 : Int32)), (.ref o0)])) (fun t k => XS.iloadN X0.here hx rfl (hb hby own_d_jdk_43_13_16) rfl  k) ?_
        obtain ⟨cl44, Ar44, qa44, Sa44, Ma44, Ha44, Ua44⟩ := id B0
        have hi44 := inb_of Sa44 (j := (1 : Int32)) ⟨(by decide), (by decide)⟩
        refine own_by (V := s₁.setTop (mkF m 18 #[.val (.ref o0), .val (.ref o1), .val (.int (1 : Int32))] [(.int (nar .byte ((nar .char (own_ch1 x)).toInt8.toInt32)))])) (X0.baloadBytes hx (j := (1 : Int32)) (v := (.int (nar .byte ((nar .char (own_ch1 x)).toInt8.toInt32)))) (by rw [e0]; exact Ar44.1) (State.isArrayOf_alike hZ.alike Ar44.2.1) Ar44.2.2 hi44 (Has.at Ha44 hi44 rfl) (g := (mkF m 17 #[.val (.ref o0), .val (.ref o1), .val (.int (1 : Int32))] [(.int (1 : Int32)), (.ref o0)])) rfl rfl (hb hby own_d_jdk_43_13_17)) ?_
        refine own_by (V := s₁.setTop (mkF m 19 #[.val (.ref o0), .val (.ref o1), .val (.int (1 : Int32))] [(.ref o1), (.int (nar .byte ((nar .char (own_ch1 x)).toInt8.toInt32)))])) (fun t k => XS.aloadN X0.here hx rfl (hb hby own_d_jdk_43_13_18) rfl rfl k) ?_
        refine own_by (V := s₁.setTop (mkF m 20 #[.val (.ref o0), .val (.ref o1), .val (.int (1 : Int32))] [(.int (1 : Int32)), (.ref o1), (.int (nar .byte ((nar .char (own_ch1 x)).toInt8.toInt32)))])) (fun t k => XS.iloadN X0.here hx rfl (hb hby own_d_jdk_43_13_19) rfl  k) ?_
        obtain ⟨cl45, Ar45, qa45, Sa45, Ma45, Ha45, Ua45⟩ := id B1
        have hi45 := inb_of Sa45 (j := (1 : Int32)) ⟨(by decide), (by decide)⟩
        refine own_by (V := s₁.setTop (mkF m 21 #[.val (.ref o0), .val (.ref o1), .val (.int (1 : Int32))] [(.int (nar .byte ((nar .char (own_ch1 y)).toInt8.toInt32))), (.int (nar .byte ((nar .char (own_ch1 x)).toInt8.toInt32)))])) (X0.baloadBytes hx (j := (1 : Int32)) (v := (.int (nar .byte ((nar .char (own_ch1 y)).toInt8.toInt32)))) (by rw [e0]; exact Ar45.1) (State.isArrayOf_alike hZ.alike Ar45.2.1) Ar45.2.2 hi45 (Has.at Ha45 hi45 rfl) (g := (mkF m 20 #[.val (.ref o0), .val (.ref o1), .val (.int (1 : Int32))] [(.int (1 : Int32)), (.ref o1), (.int (nar .byte ((nar .char (own_ch1 x)).toInt8.toInt32)))])) rfl rfl (hb hby own_d_jdk_43_13_20)) ?_
        by_cases hb21_46 : (nar .byte ((nar .char (own_ch1 x)).toInt8.toInt32)) = (nar .byte ((nar .char (own_ch1 y)).toInt8.toInt32))
        · refine own_by (V := s₁.setTop (mkF m 26 #[.val (.ref o0), .val (.ref o1), .val (.int (1 : Int32))] [])) (fun t k => XS.icmpYes X0.here hx rfl (pc0 := 21) (pc' := 26) rfl (hb hby own_d_jdk_43_13_21) rfl (teq hb21_46).1 (by decide) (by decide) k) ?_
          refine own_by (V := s₁.setTop (mkF m 29 #[.val (.ref o0), .val (.ref o1), .val (.int (2 : Int32))] [])) (fun t k => XS.iinc X0.here hx rfl (hb hby own_d_jdk_43_13_26) rfl (l' := #[.val (.ref o0), .val (.ref o1), .val (.int (2 : Int32))]) rfl k) ?_
          refine own_by (V := s₁.setTop (mkF m 9 #[.val (.ref o0), .val (.ref o1), .val (.int (2 : Int32))] [])) (fun t k => XS.goto X0.here hx rfl (pc0 := 29) (pc' := 9) rfl (hb hby own_d_jdk_43_13_29) (by decide) (by decide) k) ?_
          refine own_by (V := s₁.setTop (mkF m 10 #[.val (.ref o0), .val (.ref o1), .val (.int (2 : Int32))] [(.int (2 : Int32))])) (fun t k => XS.iloadN X0.here hx rfl (hb hby own_d_jdk_43_13_9) rfl  k) ?_
          refine own_by (V := s₁.setTop (mkF m 11 #[.val (.ref o0), .val (.ref o1), .val (.int (2 : Int32))] [(.ref o0), (.int (2 : Int32))])) (fun t k => XS.aloadN X0.here hx rfl (hb hby own_d_jdk_43_13_10) rfl rfl k) ?_
          obtain ⟨cl47, Ar47, qa47, Sa47, Ma47, Ha47, Ua47⟩ := id B0
          have hl47 := len_of Sa47 Ma47
          refine own_by (V := s₁.setTop (mkF m 12 #[.val (.ref o0), .val (.ref o1), .val (.int (2 : Int32))] [(.int (2 : Int32)), (.int (2 : Int32))])) (by have q := X0.arraylength hx (cell := cl47) (by rw [e0]; exact Ar47.1) (State.isArrayOf_alike hZ.alike Ar47.2.1) (g := (mkF m 11 #[.val (.ref o0), .val (.ref o1), .val (.int (2 : Int32))] [(.ref o0), (.int (2 : Int32))])) rfl (rest := [(.int (2 : Int32))]) rfl (hb hby own_d_jdk_43_13_11); rw [hl47] at q; exact q) ?_
          have hb12_48 : ¬ ((2 : Int32) < (2 : Int32)) := by decide
          refine own_by (V := s₁.setTop (mkF m 32 #[.val (.ref o0), .val (.ref o1), .val (.int (2 : Int32))] [])) (fun t k => XS.icmpYes X0.here hx rfl (pc0 := 12) (pc' := 32) rfl (hb hby own_d_jdk_43_13_12) rfl (flt hb12_48).2.1 (by decide) (by decide) k) ?_
          refine own_by (V := s₁.setTop (mkF m 33 #[.val (.ref o0), .val (.ref o1), .val (.int (2 : Int32))] [(.int (1 : Int32))])) (fun t k => XS.iconst X0.here hx rfl (hb hby own_d_jdk_43_13_32) k) ?_
          refine own_retN X0 hx hlk e0 Bd.returns (t := .boolean) (by simp) rfl (hb hby own_d_jdk_43_13_33) ?_ (by decide) (by decide)
          exact ⟨congrArg (fun z => some (Value.int z)) (show (1 : Int32) = (own_same x y) from by exact (if_pos ⟨qx.trans qy.symm, Or.inr ((own_byteEq _ _).mp hb21_41), Or.inr ((own_byteEq _ _).mp hb21_46)⟩).symm), N0, rfl⟩
        · refine own_by (V := s₁.setTop (mkF m 24 #[.val (.ref o0), .val (.ref o1), .val (.int (1 : Int32))] [])) (fun t k => XS.icmpNo X0.here hx rfl (hb hby own_d_jdk_43_13_21) rfl (feq hb21_46).1 k) ?_
          refine own_by (V := s₁.setTop (mkF m 25 #[.val (.ref o0), .val (.ref o1), .val (.int (1 : Int32))] [(.int (0 : Int32))])) (fun t k => XS.iconst X0.here hx rfl (hb hby own_d_jdk_43_13_24) k) ?_
          refine own_retN X0 hx hlk e0 Bd.returns (t := .boolean) (by simp) rfl (hb hby own_d_jdk_43_13_25) ?_ (by decide) (by decide)
          exact ⟨congrArg (fun z => some (Value.int z)) (show (0 : Int32) = (own_same x y) from by exact own_same_no21 qx (fun u => hb21_46 ((own_byteEq _ _).mpr u))), N0, rfl⟩
      · refine own_by (V := s₁.setTop (mkF m 24 #[.val (.ref o0), .val (.ref o1), .val (.int (0 : Int32))] [])) (fun t k => XS.icmpNo X0.here hx rfl (hb hby own_d_jdk_43_13_21) rfl (feq hb21_41).1 k) ?_
        refine own_by (V := s₁.setTop (mkF m 25 #[.val (.ref o0), .val (.ref o1), .val (.int (0 : Int32))] [(.int (0 : Int32))])) (fun t k => XS.iconst X0.here hx rfl (hb hby own_d_jdk_43_13_24) k) ?_
        refine own_retN X0 hx hlk e0 Bd.returns (t := .boolean) (by simp) rfl (hb hby own_d_jdk_43_13_25) ?_ (by decide) (by decide)
        exact ⟨congrArg (fun z => some (Value.int z)) (show (0 : Int32) = (own_same x y) from by exact own_same_no20 qx (fun u => hb21_41 ((own_byteEq _ _).mpr u))), N0, rfl⟩
def own_Q_own_streq (Z : State) (o0 : Addr) (o1 : Addr) (cs : Int32) (b0 : Addr) (k0 : ClassId) (x0 : Int32) (b1 : Addr) (k1 : ClassId) (x1 : Int32) (h0 : Heap) (n0 : Nat) : Option Value → Heap → List Loc → Prop := fun v h L => v = some (.int (own_same x0 x1)) ∧ Fr n0 L ∧ h = h0
theorem own_ef_own_streq (m : MethodId) (x0 : Addr) (x1 : Addr) : entryFrame m #[(.ref x0), (.ref x1)] 3 = mkF m 0 #[.val (.ref x0), .val (.ref x1), .unset] [] := by first | (simp [entryFrame, mkF, argsToLocals, Value.category]; done) | rfl
set_option maxRecDepth 65536 in
set_option maxHeartbeats 40000000 in
theorem own_streq (l : Launch) (Z : State) (a0 : Array Value) (hw : ∀ d ∈ tables_1, d.before a0 Z = true) (ws : List Jvm.Cond) (o0 : Addr) (o1 : Addr) (cs : Int32) (b0 : Addr) (k0 : ClassId) (x0 : Int32) (b1 : Addr) (k1 : ClassId) (x1 : Int32) (h0 : Heap) (n0 : Nat) (SS : Sta Z h0 "java/lang/String" "COMPACT_STRINGS" "Z" (.int cs)) (hcs : ¬ cs = (0 : Int32)) (V0 : Fld Z h0 o0 "java/lang/String" "value" "[B" (.ref b0)) (C0 : Fld Z h0 o0 "java/lang/String" "coder" "B" (.int (0 : Int32))) (A0 : Arv Z h0 b0 k0 .byte (own_len x0) (own_bytes x0) (.int (0 : Int32))) (V1 : Fld Z h0 o1 "java/lang/String" "value" "[B" (.ref b1)) (C1 : Fld Z h0 o1 "java/lang/String" "coder" "B" (.int (0 : Int32))) (A1 : Arv Z h0 b1 k1 .byte (own_len x1) (own_bytes x1) (.int (0 : Int32))) (E1 : Exa Z h0 o1 "java/lang/String") (hne : o0 ≠ o1) :
    MetFree l (⟨"java/lang/String", "equals", "(Ljava/lang/Object;)Z"⟩ : MethodName) (head1 (Jvm.Cond.code (⟨"java/lang/String", "equals", "(Ljava/lang/Object;)Z"⟩ : MethodName) jdk_42_method_66_code 3 (some .boolean) :: ws) ({ frames := 1, cells := 0, slots := 0, locals := 14 } : Room)) (fun a U => a = #[(.ref o0), (.ref o1)] ∧ Z.Warmed39 U.vm ∧ U.heap = h0) (fun _ _ _ _ _ => True) (fun _ U o U' => ∃ v L, o = .returned v ∧ (own_Q_own_streq Z o0 o1 cs b0 k0 x0 b1 k1 x1 h0 n0) v U'.heap L ∧ FrameEnd U o U' L ({ frames := 1, cells := 0, slots := 0, locals := 14 } : Room).cells ({ frames := 1, cells := 0, slots := 0, locals := 14 } : Room).slots) := by
  refine MetFree.of_bodySF (plainFor_of_name own_pn2) hisR ?_
  intro p e s m args below meth c s₁ Bd hml0 hP hK
  obtain ⟨rfl, hZ, hh⟩ := hP
  have hx := Bd.exec
  have hby := Bd.bytes
  have hml : c.maxLocals = 3 := hml0
  have hown : s.vm.findClass "java/lang/String" = some m.cls := findClass_of_methodNamed Bd.named
  have hnm := (name_of_methodNamed Bd.named Bd.method).1
  have hlk : meth.locks = false := BodyLoose.notSynchronized Bd
  have X0 : Stand p l e ({ frames := 1, cells := 0, slots := 0, locals := 14 } : Room) s m #[(.ref o0), (.ref o1)] below meth c s₁ [] 0 0 := Stand.of_body Bd
  have e0 : s₁.heap = h0 := by rw [← hh, Bd.state]; rfl
  have N0 := Fr.nil n0
  show own_Ends p e below s (own_Q_own_streq Z o0 o1 cs b0 k0 x0 b1 k1 x1 h0 n0) ({ frames := 1, cells := 0, slots := 0, locals := 14 } : Room).cells ({ frames := 1, cells := 0, slots := 0, locals := 14 } : Room).slots _
  refine own_by (V := s₁.setTop (mkF m 0 #[.val (.ref o0), .val (.ref o1), .unset] [])) (fun t k => castTop (own_ef_own_streq m o0 o1) k) ?_
  refine own_by (V := s₁.setTop (mkF m 1 #[.val (.ref o0), .val (.ref o1), .unset] [(.ref o0)])) (fun t k => XS.aloadN X0.here hx rfl (hb hby own_d_jdk_42_66_0) rfl rfl k) ?_
  refine own_by (V := s₁.setTop (mkF m 2 #[.val (.ref o0), .val (.ref o1), .unset] [(.ref o1), (.ref o0)])) (fun t k => XS.aloadN X0.here hx rfl (hb hby own_d_jdk_42_66_1) rfl rfl k) ?_
  have ha2_1 : ¬ (o0 = o1) := hne
  refine own_by (V := s₁.setTop (mkF m 7 #[.val (.ref o0), .val (.ref o1), .unset] [])) (fun t k => Jvm.RoadKit.acmp (g := (mkF m 2 #[.val (.ref o0), .val (.ref o1), .unset] [(.ref o1), (.ref o0)])) X0 hx rfl rfl rfl (pc0 := 2) (pc' := 7) (same := false) rfl (hb hby own_d_jdk_42_66_2) rfl (decide_eq_false fun q => ha2_1 (Value.ref.inj q)) (by decide) (by decide) k) ?_
  refine own_by (V := s₁.setTop (mkF m 8 #[.val (.ref o0), .val (.ref o1), .unset] [(.ref o1)])) (fun t k => XS.aloadN X0.here hx rfl (hb hby own_d_jdk_42_66_7) rfl rfl k) ?_
  obtain ⟨T2, X2, e2, st2⟩ := instY X0 hx hZ hown (hw _ (List.mem_of_getElem? (i := 79) rfl)) e0 (Ins.self E1) (g := (mkF m 8 #[.val (.ref o0), .val (.ref o1), .unset] [(.ref o1)])) rfl rfl (hb hby own_d_jdk_42_66_8)
  refine own_by (V := T2.setTop (mkF m 11 #[.val (.ref o0), .val (.ref o1), .unset] [(.int (1 : Int32))])) st2 ?_
  have hb11_3 : ¬ ((1 : Int32) = (0 : Int32)) := by decide
  refine own_by (V := T2.setTop (mkF m 14 #[.val (.ref o0), .val (.ref o1), .unset] [])) (fun t k => XS.ifNo X2.here hx rfl (hb hby own_d_jdk_42_66_11) rfl ((if0 _ _).trans (feq hb11_3).1) k) ?_
  refine own_by (V := T2.setTop (mkF m 15 #[.val (.ref o0), .val (.ref o1), .unset] [(.ref o1)])) (fun t k => XS.aloadN X2.here hx rfl (hb hby own_d_jdk_42_66_14) rfl rfl k) ?_
  obtain ⟨T4, X4, e4, st4⟩ := castY X2 hx hZ hown (hw _ (List.mem_of_getElem? (i := 79) rfl)) e2 (Ins.self E1) (g := (mkF m 15 #[.val (.ref o0), .val (.ref o1), .unset] [(.ref o1)])) rfl rfl (hb hby own_d_jdk_42_66_15)
  refine own_by (V := T4.setTop (mkF m 18 #[.val (.ref o0), .val (.ref o1), .unset] [(.ref o1)])) st4 ?_
  refine own_by (V := T4.setTop (mkF m 19 #[.val (.ref o0), .val (.ref o1), .val (.ref o1)] [])) (fun t k => XS.astoreN X4.here hx rfl (hb hby own_d_jdk_42_66_18) rfl rfl (l' := #[.val (.ref o0), .val (.ref o1), .val (.ref o1)]) rfl k) ?_
  obtain ⟨T5, X5, e5, st5⟩ := getS2 X4 hx hZ hown (host := "") (Or.inl (hw _ (List.mem_of_getElem? (i := 53) rfl))) Via.refl e4 SS (g := (mkF m 19 #[.val (.ref o0), .val (.ref o1), .val (.ref o1)] [])) rfl (hb hby own_d_jdk_42_66_19)
  refine own_by (V := T5.setTop (mkF m 22 #[.val (.ref o0), .val (.ref o1), .val (.ref o1)] [(.int cs)])) st5 ?_
  have hb22_6 : ¬ (cs = (0 : Int32)) := hcs
  refine own_by (V := T5.setTop (mkF m 25 #[.val (.ref o0), .val (.ref o1), .val (.ref o1)] [])) (fun t k => XS.ifNo X5.here hx rfl (hb hby own_d_jdk_42_66_22) rfl ((if0 _ _).trans (feq hb22_6).1) k) ?_
  refine own_by (V := T5.setTop (mkF m 26 #[.val (.ref o0), .val (.ref o1), .val (.ref o1)] [(.ref o0)])) (fun t k => XS.aloadN X5.here hx rfl (hb hby own_d_jdk_42_66_25) rfl rfl k) ?_
  obtain ⟨T7, X7, e7, st7⟩ := getF X5 hx hZ hown (host := "") (Or.inl (hw _ (List.mem_of_getElem? (i := 31) rfl))) Via.refl e5 C0 (g := (mkF m 26 #[.val (.ref o0), .val (.ref o1), .val (.ref o1)] [(.ref o0)])) rfl rfl (hb hby own_d_jdk_42_66_26)
  refine own_by (V := T7.setTop (mkF m 29 #[.val (.ref o0), .val (.ref o1), .val (.ref o1)] [(.int (0 : Int32))])) st7 ?_
  refine own_by (V := T7.setTop (mkF m 30 #[.val (.ref o0), .val (.ref o1), .val (.ref o1)] [(.ref o1), (.int (0 : Int32))])) (fun t k => XS.aloadN X7.here hx rfl (hb hby own_d_jdk_42_66_29) rfl rfl k) ?_
  obtain ⟨T8, X8, e8, st8⟩ := getF X7 hx hZ hown (host := "") (Or.inl (hw _ (List.mem_of_getElem? (i := 31) rfl))) Via.refl e7 C1 (g := (mkF m 30 #[.val (.ref o0), .val (.ref o1), .val (.ref o1)] [(.ref o1), (.int (0 : Int32))])) rfl rfl (hb hby own_d_jdk_42_66_30)
  refine own_by (V := T8.setTop (mkF m 33 #[.val (.ref o0), .val (.ref o1), .val (.ref o1)] [(.int (0 : Int32)), (.int (0 : Int32))])) st8 ?_
  have hb33_9 : ((0 : Int32) = (0 : Int32)) := rfl
  refine own_by (V := T8.setTop (mkF m 36 #[.val (.ref o0), .val (.ref o1), .val (.ref o1)] [])) (fun t k => XS.icmpNo X8.here hx rfl (hb hby own_d_jdk_42_66_33) rfl (teq hb33_9).2 k) ?_
  refine own_by (V := T8.setTop (mkF m 37 #[.val (.ref o0), .val (.ref o1), .val (.ref o1)] [(.ref o0)])) (fun t k => XS.aloadN X8.here hx rfl (hb hby own_d_jdk_42_66_36) rfl rfl k) ?_
  obtain ⟨T10, X10, e10, st10⟩ := getF X8 hx hZ hown (host := "") (Or.inl (hw _ (List.mem_of_getElem? (i := 30) rfl))) Via.refl e8 V0 (g := (mkF m 37 #[.val (.ref o0), .val (.ref o1), .val (.ref o1)] [(.ref o0)])) rfl rfl (hb hby own_d_jdk_42_66_37)
  refine own_by (V := T10.setTop (mkF m 40 #[.val (.ref o0), .val (.ref o1), .val (.ref o1)] [(.ref b0)])) st10 ?_
  refine own_by (V := T10.setTop (mkF m 41 #[.val (.ref o0), .val (.ref o1), .val (.ref o1)] [(.ref o1), (.ref b0)])) (fun t k => XS.aloadN X10.here hx rfl (hb hby own_d_jdk_42_66_40) rfl rfl k) ?_
  obtain ⟨T11, X11, e11, st11⟩ := getF X10 hx hZ hown (host := "") (Or.inl (hw _ (List.mem_of_getElem? (i := 30) rfl))) Via.refl e10 V1 (g := (mkF m 41 #[.val (.ref o0), .val (.ref o1), .val (.ref o1)] [(.ref o1), (.ref b0)])) rfl rfl (hb hby own_d_jdk_42_66_41)
  refine own_by (V := T11.setTop (mkF m 44 #[.val (.ref o0), .val (.ref o1), .val (.ref o1)] [(.ref b1), (.ref b0)])) st11 ?_
  obtain ⟨_, _, ⟨T12, Lq12, kq12, nq12⟩, -, X12, ⟨Lc12, hQ12, lq12, yq12, zq12⟩, st12⟩ := Jvm.LawKit.callS X11 hx (y := (⟨"java/lang/StringLatin1", "equals", "([B[B)Z"⟩ : MethodName)) hown (mvT hZ (hw _ (List.mem_of_getElem? (i := 80) rfl))) (mvT hZ (hw _ (List.mem_of_getElem? (i := 81) rfl))) (mvT hZ (hw _ (List.mem_of_getElem? (i := 82) rfl))) (mvT hZ (hw _ (List.mem_of_getElem? (i := 83) rfl))) (by decide) (backOf (W := 0) (own_lateq l Z a0 hw [] b0 b1 k0 k1 x0 x1 h0 n0 A0 A1) hZ (hw _ (List.mem_of_getElem? (i := 83) rfl)) (hw _ (List.mem_of_getElem? (i := 82) rfl)) (by decide) (by decide)) (g := (mkF m 44 #[.val (.ref o0), .val (.ref o1), .val (.ref o1)] [(.ref b1), (.ref b0)])) rfl (by rw [hml]; rfl) (argsL := [(.ref b0), (.ref b1)]) (rest := []) (lenOf own_pd7 rfl) rfl (by show 2 * 0 + _ ≤ _; exact Nat.le_of_eq rfl) (hb hby own_d_jdk_42_66_44) (fun _ _ => ⟨rfl, e11, (by decide : 0 + 0 ≤ _), (by decide : 0 + 0 ≤ _)⟩)
  dsimp only [Pt.U, Pt.locs, Pt.cells, Pt.slots] at X12 lq12 yq12 zq12 st12 hQ12
  subst lq12 yq12 zq12
  obtain ⟨rfl, N12q, e12⟩ := hQ12
  have N12 := Fr.app N0 N12q
  refine own_by (V := T12.setTop (mkF m 47 #[.val (.ref o0), .val (.ref o1), .val (.ref o1)] [(.int (own_same x0 x1))])) st12 ?_
  by_cases hb47_13 : (own_same x0 x1) = (0 : Int32)
  · refine own_by (V := T12.setTop (mkF m 54 #[.val (.ref o0), .val (.ref o1), .val (.ref o1)] [])) (fun t k => XS.ifYes X12.here hx rfl (pc0 := 47) (pc' := 54) rfl (hb hby own_d_jdk_42_66_47) rfl ((if0 _ _).trans (teq hb47_13).1) (by decide) (by decide) k) ?_
    refine own_by (V := T12.setTop (mkF m 55 #[.val (.ref o0), .val (.ref o1), .val (.ref o1)] [(.int (0 : Int32))])) (fun t k => XS.iconst X12.here hx rfl (hb hby own_d_jdk_42_66_54) k) ?_
    refine own_retN X12 hx hlk e12 Bd.returns (t := .boolean) (by simp) rfl (hb hby own_d_jdk_42_66_55) ?_ (by decide) (by decide)
    exact ⟨congrArg (fun z => some (Value.int z)) (show (0 : Int32) = (own_same x0 x1) from by exact hb47_13.symm), N12, rfl⟩
  · refine own_by (V := T12.setTop (mkF m 50 #[.val (.ref o0), .val (.ref o1), .val (.ref o1)] [])) (fun t k => XS.ifNo X12.here hx rfl (hb hby own_d_jdk_42_66_47) rfl ((if0 _ _).trans (feq hb47_13).1) k) ?_
    refine own_by (V := T12.setTop (mkF m 51 #[.val (.ref o0), .val (.ref o1), .val (.ref o1)] [(.int (1 : Int32))])) (fun t k => XS.iconst X12.here hx rfl (hb hby own_d_jdk_42_66_50) k) ?_
    refine own_by (V := T12.setTop (mkF m 55 #[.val (.ref o0), .val (.ref o1), .val (.ref o1)] [(.int (1 : Int32))])) (fun t k => XS.goto X12.here hx rfl (pc0 := 51) (pc' := 55) rfl (hb hby own_d_jdk_42_66_51) (by decide) (by decide) k) ?_
    refine own_retN X12 hx hlk e12 Bd.returns (t := .boolean) (by simp) rfl (hb hby own_d_jdk_42_66_55) ?_ (by decide) (by decide)
    exact ⟨congrArg (fun z => some (Value.int z)) (show (1 : Int32) = (own_same x0 x1) from by exact ((own_same01 _ _).resolve_left hb47_13).symm), N12, rfl⟩
def own_Q_own_streq1 (Z : State) (o0 : Addr) (h0 : Heap) (n0 : Nat) : Option Value → Heap → List Loc → Prop := fun v h L => v = some (.int (1 : Int32)) ∧ Fr n0 L ∧ h = h0
theorem own_ef_own_streq1 (m : MethodId) (x0 : Addr) (x1 : Addr) : entryFrame m #[(.ref x0), (.ref x1)] 3 = mkF m 0 #[.val (.ref x0), .val (.ref x1), .unset] [] := by first | (simp [entryFrame, mkF, argsToLocals, Value.category]; done) | rfl
set_option maxRecDepth 65536 in
set_option maxHeartbeats 40000000 in
theorem own_streq1 (l : Launch) (Z : State) (a0 : Array Value) (hw : ∀ d ∈ tables_1, d.before a0 Z = true) (ws : List Jvm.Cond) (o0 : Addr) (h0 : Heap) (n0 : Nat) :
    MetFree l (⟨"java/lang/String", "equals", "(Ljava/lang/Object;)Z"⟩ : MethodName) (head1 (Jvm.Cond.code (⟨"java/lang/String", "equals", "(Ljava/lang/Object;)Z"⟩ : MethodName) jdk_42_method_66_code 3 (some .boolean) :: ws) ({ frames := 0, cells := 0, slots := 0, locals := 0 } : Room)) (fun a U => a = #[(.ref o0), (.ref o0)] ∧ Z.Warmed39 U.vm ∧ U.heap = h0) (fun _ _ _ _ _ => True) (fun _ U o U' => ∃ v L, o = .returned v ∧ (own_Q_own_streq1 Z o0 h0 n0) v U'.heap L ∧ FrameEnd U o U' L ({ frames := 0, cells := 0, slots := 0, locals := 0 } : Room).cells ({ frames := 0, cells := 0, slots := 0, locals := 0 } : Room).slots) := by
  refine MetFree.of_bodySF (plainFor_of_name own_pn2) hisR ?_
  intro p e s m args below meth c s₁ Bd hml0 hP hK
  obtain ⟨rfl, hZ, hh⟩ := hP
  have hx := Bd.exec
  have hby := Bd.bytes
  have hml : c.maxLocals = 3 := hml0
  have hown : s.vm.findClass "java/lang/String" = some m.cls := findClass_of_methodNamed Bd.named
  have hnm := (name_of_methodNamed Bd.named Bd.method).1
  have hlk : meth.locks = false := BodyLoose.notSynchronized Bd
  have X0 : Stand p l e ({ frames := 0, cells := 0, slots := 0, locals := 0 } : Room) s m #[(.ref o0), (.ref o0)] below meth c s₁ [] 0 0 := Stand.of_body Bd
  have e0 : s₁.heap = h0 := by rw [← hh, Bd.state]; rfl
  have N0 := Fr.nil n0
  show own_Ends p e below s (own_Q_own_streq1 Z o0 h0 n0) ({ frames := 0, cells := 0, slots := 0, locals := 0 } : Room).cells ({ frames := 0, cells := 0, slots := 0, locals := 0 } : Room).slots _
  refine own_by (V := s₁.setTop (mkF m 0 #[.val (.ref o0), .val (.ref o0), .unset] [])) (fun t k => castTop (own_ef_own_streq1 m o0 o0) k) ?_
  refine own_by (V := s₁.setTop (mkF m 1 #[.val (.ref o0), .val (.ref o0), .unset] [(.ref o0)])) (fun t k => XS.aloadN X0.here hx rfl (hb hby own_d_jdk_42_66_0) rfl rfl k) ?_
  refine own_by (V := s₁.setTop (mkF m 2 #[.val (.ref o0), .val (.ref o0), .unset] [(.ref o0), (.ref o0)])) (fun t k => XS.aloadN X0.here hx rfl (hb hby own_d_jdk_42_66_1) rfl rfl k) ?_
  refine own_by (V := s₁.setTop (mkF m 5 #[.val (.ref o0), .val (.ref o0), .unset] [])) (fun t k => Jvm.RoadKit.acmp (g := (mkF m 2 #[.val (.ref o0), .val (.ref o0), .unset] [(.ref o0), (.ref o0)])) X0 hx rfl rfl rfl (pc0 := 2) (pc' := 5) (same := true) rfl (hb hby own_d_jdk_42_66_2) rfl (decide_eq_true rfl) (by decide) (by decide) k) ?_
  refine own_by (V := s₁.setTop (mkF m 6 #[.val (.ref o0), .val (.ref o0), .unset] [(.int (1 : Int32))])) (fun t k => XS.iconst X0.here hx rfl (hb hby own_d_jdk_42_66_5) k) ?_
  refine own_retN X0 hx hlk e0 Bd.returns (t := .boolean) (by simp) rfl (hb hby own_d_jdk_42_66_6) ?_ (by decide) (by decide)
  exact ⟨congrArg (fun z => some (Value.int z)) (show (1 : Int32) = (1 : Int32) from by rfl), N0, rfl⟩
def own_Q_own_nonnull (Z : State) (o0 : Addr) (h0 : Heap) (n0 : Nat) : Option Value → Heap → List Loc → Prop := fun v h L => v = some (.ref o0) ∧ Fr n0 L ∧ h = h0
theorem own_ef_own_nonnull (m : MethodId) (x0 : Addr) : entryFrame m #[(.ref x0)] 1 = mkF m 0 #[.val (.ref x0)] [] := by first | (simp [entryFrame, mkF, argsToLocals, Value.category]; done) | rfl
set_option maxRecDepth 65536 in
set_option maxHeartbeats 40000000 in
theorem own_nonnull (l : Launch) (Z : State) (a0 : Array Value) (hw : ∀ d ∈ tables_1, d.before a0 Z = true) (ws : List Jvm.Cond) (o0 : Addr) (h0 : Heap) (n0 : Nat) :
    MetFree l (⟨"java/util/Objects", "requireNonNull", "(Ljava/lang/Object;)Ljava/lang/Object;"⟩ : MethodName) (head1 (Jvm.Cond.code (⟨"java/util/Objects", "requireNonNull", "(Ljava/lang/Object;)Ljava/lang/Object;"⟩ : MethodName) jdk_31_method_10_code 1 (some (.object "java/lang/Object")) :: ws) ({ frames := 0, cells := 0, slots := 0, locals := 0 } : Room)) (fun a U => a = #[(.ref o0)] ∧ Z.Warmed39 U.vm ∧ U.heap = h0) (fun _ _ _ _ _ => True) (fun _ U o U' => ∃ v L, o = .returned v ∧ (own_Q_own_nonnull Z o0 h0 n0) v U'.heap L ∧ FrameEnd U o U' L ({ frames := 0, cells := 0, slots := 0, locals := 0 } : Room).cells ({ frames := 0, cells := 0, slots := 0, locals := 0 } : Room).slots) := by
  refine MetFree.of_bodySF (plainFor_of_name own_pn4) hisR ?_
  intro p e s m args below meth c s₁ Bd hml0 hP hK
  obtain ⟨rfl, hZ, hh⟩ := hP
  have hx := Bd.exec
  have hby := Bd.bytes
  have hml : c.maxLocals = 1 := hml0
  have hown : s.vm.findClass "java/util/Objects" = some m.cls := findClass_of_methodNamed Bd.named
  have hnm := (name_of_methodNamed Bd.named Bd.method).1
  have hlk : meth.locks = false := BodyLoose.notSynchronized Bd
  have X0 : Stand p l e ({ frames := 0, cells := 0, slots := 0, locals := 0 } : Room) s m #[(.ref o0)] below meth c s₁ [] 0 0 := Stand.of_body Bd
  have e0 : s₁.heap = h0 := by rw [← hh, Bd.state]; rfl
  have N0 := Fr.nil n0
  show own_Ends p e below s (own_Q_own_nonnull Z o0 h0 n0) ({ frames := 0, cells := 0, slots := 0, locals := 0 } : Room).cells ({ frames := 0, cells := 0, slots := 0, locals := 0 } : Room).slots _
  refine own_by (V := s₁.setTop (mkF m 0 #[.val (.ref o0)] [])) (fun t k => castTop (own_ef_own_nonnull m o0) k) ?_
  refine own_by (V := s₁.setTop (mkF m 1 #[.val (.ref o0)] [(.ref o0)])) (fun t k => XS.aloadN X0.here hx rfl (hb hby own_d_jdk_31_10_0) rfl rfl k) ?_
  refine own_by (V := s₁.setTop (mkF m 12 #[.val (.ref o0)] [])) (fun t k => XS.ifnonnullYes X0.here hx rfl (pc0 := 1) (pc' := 12) rfl (hb hby own_d_jdk_31_10_1) rfl (by decide) (by decide) k) ?_
  refine own_by (V := s₁.setTop (mkF m 13 #[.val (.ref o0)] [(.ref o0)])) (fun t k => XS.aloadN X0.here hx rfl (hb hby own_d_jdk_31_10_12) rfl rfl k) ?_
  refine own_retA X0 hx hlk e0 (w := (.ref o0)) rfl Bd.returns rfl (hb hby own_d_jdk_31_10_13) ?_ (by decide) (by decide)
  exact ⟨congrArg (fun z => some (Value.ref z)) (show o0 = o0 from by rfl), N0, rfl⟩
def own_Q_own_cinit (Z : State) (o0 : Addr) (o1 : Addr) (o2 : Addr) (p3 : Int32) (h0 : Heap) (n0 : Nat) : Option Value → Heap → List Loc → Prop := fun v h L => v = none ∧ Fr n0 L ∧ Keep h0 h [o0] ∧ Exa Z h o0 "com/example/forec/forec/Value$Constant" ∧ Fld Z h o0 "com/example/forec/forec/Value$Constant" "type" "Ljava/lang/String;" (.ref o1) ∧ Fld Z h o0 "com/example/forec/forec/Value$Constant" "name" "Ljava/lang/String;" (.ref o2) ∧ Fld Z h o0 "com/example/forec/forec/Value$Constant" "position" "I" (.int p3)
theorem own_ef_own_cinit (m : MethodId) (x0 : Addr) (x1 : Addr) (x2 : Addr) (x3 : Int32) : entryFrame m #[(.ref x0), (.ref x1), (.ref x2), (.int x3)] 4 = mkF m 0 #[.val (.ref x0), .val (.ref x1), .val (.ref x2), .val (.int x3)] [] := by first | (simp [entryFrame, mkF, argsToLocals, Value.category]; done) | rfl
set_option maxRecDepth 65536 in
set_option maxHeartbeats 40000000 in
theorem own_cinit (l : Launch) (Z : State) (a0 : Array Value) (hw : ∀ d ∈ tables_1, d.before a0 Z = true) (ws : List Jvm.Cond) (o0 : Addr) (o1 : Addr) (o2 : Addr) (p3 : Int32) (h0 : Heap) (n0 : Nat) (Z0 : n0 ≤ h0.size) (g0 : n0 ≤ o0) (E0 : Exa Z h0 o0 "com/example/forec/forec/Value$Constant") (F_type : Fld Z h0 o0 "com/example/forec/forec/Value$Constant" "type" "Ljava/lang/String;" .null) (F_name : Fld Z h0 o0 "com/example/forec/forec/Value$Constant" "name" "Ljava/lang/String;" .null) (F_position : Fld Z h0 o0 "com/example/forec/forec/Value$Constant" "position" "I" (.int (0 : Int32))) (E1 : Exa Z h0 o1 "java/lang/String") (E2 : Exa Z h0 o2 "java/lang/String") :
    MetFree l (⟨"com/example/forec/forec/Value$Constant", "<init>", "(Ljava/lang/String;Ljava/lang/String;I)V"⟩ : MethodName) (head1 (Jvm.Cond.code (⟨"com/example/forec/forec/Value$Constant", "<init>", "(Ljava/lang/String;Ljava/lang/String;I)V"⟩ : MethodName) prog_170_method_1_code 4 none :: ws) ({ frames := 1, cells := 0, slots := 0, locals := 13 } : Room)) (fun a U => a = #[(.ref o0), (.ref o1), (.ref o2), (.int p3)] ∧ Z.Warmed39 U.vm ∧ U.heap = h0) (fun _ _ _ _ _ => True) (fun _ U o U' => ∃ v L, o = .returned v ∧ (own_Q_own_cinit Z o0 o1 o2 p3 h0 n0) v U'.heap L ∧ FrameEnd U o U' L ({ frames := 1, cells := 0, slots := 0, locals := 13 } : Room).cells ({ frames := 1, cells := 0, slots := 0, locals := 13 } : Room).slots) := by
  refine MetFree.of_bodySF (plainFor_of_name own_pn5) hisR ?_
  intro p e s m args below meth c s₁ Bd hml0 hP hK
  obtain ⟨rfl, hZ, hh⟩ := hP
  have hx := Bd.exec
  have hby := Bd.bytes
  have hml : c.maxLocals = 4 := hml0
  have hown : s.vm.findClass "com/example/forec/forec/Value$Constant" = some m.cls := findClass_of_methodNamed Bd.named
  have hnm := (name_of_methodNamed Bd.named Bd.method).1
  have hlk : meth.locks = false := BodyLoose.notSynchronized Bd
  have X0 : Stand p l e ({ frames := 1, cells := 0, slots := 0, locals := 13 } : Room) s m #[(.ref o0), (.ref o1), (.ref o2), (.int p3)] below meth c s₁ [] 0 0 := Stand.of_body Bd
  have e0 : s₁.heap = h0 := by rw [← hh, Bd.state]; rfl
  have N0 := Fr.nil n0
  show own_Ends p e below s (own_Q_own_cinit Z o0 o1 o2 p3 h0 n0) ({ frames := 1, cells := 0, slots := 0, locals := 13 } : Room).cells ({ frames := 1, cells := 0, slots := 0, locals := 13 } : Room).slots _
  refine own_by (V := s₁.setTop (mkF m 0 #[.val (.ref o0), .val (.ref o1), .val (.ref o2), .val (.int p3)] [])) (fun t k => castTop (own_ef_own_cinit m o0 o1 o2 p3) k) ?_
  refine own_by (V := s₁.setTop (mkF m 1 #[.val (.ref o0), .val (.ref o1), .val (.ref o2), .val (.int p3)] [(.ref o0)])) (fun t k => XS.aloadN X0.here hx rfl (hb hby own_d_prog_170_1_0) rfl rfl k) ?_
  obtain ⟨T1, X1, e1, st1⟩ := initO X0 hx hZ hown (hw _ (List.mem_of_getElem? (i := 35) rfl)) (hw _ (List.mem_of_getElem? (i := 22) rfl)) (hw _ (List.mem_of_getElem? (i := 23) rfl)) e0 (g := (mkF m 1 #[.val (.ref o0), .val (.ref o1), .val (.ref o2), .val (.int p3)] [(.ref o0)])) rfl (by rw [hml]; rfl) rfl (hb hby own_d_prog_170_1_1) (by decide) (W := 0) (by show 2 * 0 + _ ≤ _; exact Nat.le_of_eq rfl) (by decide)
  refine own_by (V := T1.setTop (mkF m 4 #[.val (.ref o0), .val (.ref o1), .val (.ref o2), .val (.int p3)] [])) st1 ?_
  refine own_by (V := T1.setTop (mkF m 5 #[.val (.ref o0), .val (.ref o1), .val (.ref o2), .val (.int p3)] [(.ref o0)])) (fun t k => XS.aloadN X1.here hx rfl (hb hby own_d_prog_170_1_4) rfl rfl k) ?_
  refine own_by (V := T1.setTop (mkF m 6 #[.val (.ref o0), .val (.ref o1), .val (.ref o2), .val (.int p3)] [(.ref o1), (.ref o0)])) (fun t k => XS.aloadN X1.here hx rfl (hb hby own_d_prog_170_1_5) rfl rfl k) ?_
  obtain ⟨_, _, ⟨T2, Lq2, kq2, nq2⟩, -, X2, ⟨Lc2, hQ2, lq2, yq2, zq2⟩, st2⟩ := Jvm.LawKit.callS X1 hx (y := (⟨"java/util/Objects", "requireNonNull", "(Ljava/lang/Object;)Ljava/lang/Object;"⟩ : MethodName)) hown (mvT hZ (hw _ (List.mem_of_getElem? (i := 36) rfl))) (mvT hZ (hw _ (List.mem_of_getElem? (i := 37) rfl))) (mvT hZ (hw _ (List.mem_of_getElem? (i := 38) rfl))) (mvT hZ (hw _ (List.mem_of_getElem? (i := 39) rfl))) (by decide) (backOf (W := 1) (own_nonnull l Z a0 hw [] o1 h0 n0 ) hZ (hw _ (List.mem_of_getElem? (i := 39) rfl)) (hw _ (List.mem_of_getElem? (i := 38) rfl)) (by decide) (by decide)) (g := (mkF m 6 #[.val (.ref o0), .val (.ref o1), .val (.ref o2), .val (.int p3)] [(.ref o1), (.ref o0)])) rfl (by rw [hml]; rfl) (argsL := [(.ref o1)]) (rest := [(.ref o0)]) (lenOf own_pd8 rfl) rfl (by show 2 * 0 + _ ≤ _; exact Nat.le_of_eq rfl) (hb hby own_d_prog_170_1_6) (fun _ _ => ⟨rfl, e1, (by decide : 0 + 0 ≤ _), (by decide : 0 + 0 ≤ _)⟩)
  dsimp only [Pt.U, Pt.locs, Pt.cells, Pt.slots] at X2 lq2 yq2 zq2 st2 hQ2
  subst lq2 yq2 zq2
  obtain ⟨rfl, N2q, e2⟩ := hQ2
  have N2 := Fr.app N0 N2q
  refine own_by (V := T2.setTop (mkF m 9 #[.val (.ref o0), .val (.ref o1), .val (.ref o2), .val (.int p3)] [(.ref o1), (.ref o0)])) st2 ?_
  obtain ⟨T3, X3, e3, st3⟩ := castY X2 hx hZ hown (hw _ (List.mem_of_getElem? (i := 40) rfl)) e2 (Ins.self E1) (g := (mkF m 9 #[.val (.ref o0), .val (.ref o1), .val (.ref o2), .val (.int p3)] [(.ref o1), (.ref o0)])) rfl rfl (hb hby own_d_prog_170_1_9)
  refine own_by (V := T3.setTop (mkF m 12 #[.val (.ref o0), .val (.ref o1), .val (.ref o2), .val (.int p3)] [(.ref o1), (.ref o0)])) st3 ?_
  obtain ⟨T4, h4, X4, e4, W4, st4⟩ := putF X3 hx hZ hown (host := "") (Or.inl (hw _ (List.mem_of_getElem? (i := 41) rfl))) Via.refl e3 F_type E0 (Or.inr ⟨(hw _ (List.mem_of_getElem? (i := 42) rfl)), rfl, hnm⟩) (hw _ (List.mem_of_getElem? (i := 1) rfl)) (ty := (.object "java/lang/String")) (by decide) rfl rfl (g := (mkF m 12 #[.val (.ref o0), .val (.ref o1), .val (.ref o2), .val (.int p3)] [(.ref o1), (.ref o0)])) rfl rfl (hb hby own_d_prog_170_1_12)
  have N4 := Fr.snoc X4 N2 g0
  have K4 := (Keep.refl h0 [o0]).wr W4 (Or.inl (List.mem_singleton.mpr rfl))
  have Zs4 : n0 ≤ h4.size := by rw [W4.size]; exact Z0
  have f5 := E0.wr W4
  have f6 := F_type.same W4
  have f7 := F_name.other W4 (Or.inr (slot_ne (Or.inr (hw _ (List.mem_of_getElem? (i := 44) rfl))) (Or.inr (hw _ (List.mem_of_getElem? (i := 42) rfl))) (by decide) (t := (.object "java/lang/String")) (t' := (.object "java/lang/String")) (by decide) (by decide)))
  have f8 := F_position.other W4 (Or.inr (slot_ne (Or.inr (hw _ (List.mem_of_getElem? (i := 46) rfl))) (Or.inr (hw _ (List.mem_of_getElem? (i := 42) rfl))) (by decide) (t := .int) (t' := (.object "java/lang/String")) (by decide) (by decide)))
  have f9 := E1.wr W4
  have f10 := E2.wr W4
  refine own_by (V := T4.setTop (mkF m 15 #[.val (.ref o0), .val (.ref o1), .val (.ref o2), .val (.int p3)] [])) st4 ?_
  refine own_by (V := T4.setTop (mkF m 16 #[.val (.ref o0), .val (.ref o1), .val (.ref o2), .val (.int p3)] [(.ref o0)])) (fun t k => XS.aloadN X4.here hx rfl (hb hby own_d_prog_170_1_15) rfl rfl k) ?_
  refine own_by (V := T4.setTop (mkF m 17 #[.val (.ref o0), .val (.ref o1), .val (.ref o2), .val (.int p3)] [(.ref o2), (.ref o0)])) (fun t k => XS.aloadN X4.here hx rfl (hb hby own_d_prog_170_1_16) rfl rfl k) ?_
  obtain ⟨_, _, ⟨T11, Lq11, kq11, nq11⟩, -, X11, ⟨Lc11, hQ11, lq11, yq11, zq11⟩, st11⟩ := Jvm.LawKit.callS X4 hx (y := (⟨"java/util/Objects", "requireNonNull", "(Ljava/lang/Object;)Ljava/lang/Object;"⟩ : MethodName)) hown (mvT hZ (hw _ (List.mem_of_getElem? (i := 36) rfl))) (mvT hZ (hw _ (List.mem_of_getElem? (i := 37) rfl))) (mvT hZ (hw _ (List.mem_of_getElem? (i := 38) rfl))) (mvT hZ (hw _ (List.mem_of_getElem? (i := 39) rfl))) (by decide) (backOf (W := 1) (own_nonnull l Z a0 hw [] o2 h4 n0 ) hZ (hw _ (List.mem_of_getElem? (i := 39) rfl)) (hw _ (List.mem_of_getElem? (i := 38) rfl)) (by decide) (by decide)) (g := (mkF m 17 #[.val (.ref o0), .val (.ref o1), .val (.ref o2), .val (.int p3)] [(.ref o2), (.ref o0)])) rfl (by rw [hml]; rfl) (argsL := [(.ref o2)]) (rest := [(.ref o0)]) (lenOf own_pd8 rfl) rfl (by show 2 * 0 + _ ≤ _; exact Nat.le_of_eq rfl) (hb hby own_d_prog_170_1_17) (fun _ _ => ⟨rfl, e4, (by decide : 0 + 0 ≤ _), (by decide : 0 + 0 ≤ _)⟩)
  dsimp only [Pt.U, Pt.locs, Pt.cells, Pt.slots] at X11 lq11 yq11 zq11 st11 hQ11
  subst lq11 yq11 zq11
  obtain ⟨rfl, N11q, e11⟩ := hQ11
  have N11 := Fr.app N4 N11q
  refine own_by (V := T11.setTop (mkF m 20 #[.val (.ref o0), .val (.ref o1), .val (.ref o2), .val (.int p3)] [(.ref o2), (.ref o0)])) st11 ?_
  obtain ⟨T12, X12, e12, st12⟩ := castY X11 hx hZ hown (hw _ (List.mem_of_getElem? (i := 40) rfl)) e11 (Ins.self f10) (g := (mkF m 20 #[.val (.ref o0), .val (.ref o1), .val (.ref o2), .val (.int p3)] [(.ref o2), (.ref o0)])) rfl rfl (hb hby own_d_prog_170_1_20)
  refine own_by (V := T12.setTop (mkF m 23 #[.val (.ref o0), .val (.ref o1), .val (.ref o2), .val (.int p3)] [(.ref o2), (.ref o0)])) st12 ?_
  obtain ⟨T13, h13, X13, e13, W13, st13⟩ := putF X12 hx hZ hown (host := "") (Or.inl (hw _ (List.mem_of_getElem? (i := 43) rfl))) Via.refl e12 f7 f5 (Or.inr ⟨(hw _ (List.mem_of_getElem? (i := 44) rfl)), rfl, hnm⟩) (hw _ (List.mem_of_getElem? (i := 1) rfl)) (ty := (.object "java/lang/String")) (by decide) rfl rfl (g := (mkF m 23 #[.val (.ref o0), .val (.ref o1), .val (.ref o2), .val (.int p3)] [(.ref o2), (.ref o0)])) rfl rfl (hb hby own_d_prog_170_1_23)
  have N13 := Fr.snoc X13 N11 g0
  have K13 := K4.wr W13 (Or.inl (List.mem_singleton.mpr rfl))
  have Zs13 : n0 ≤ h13.size := by rw [W13.size]; exact Zs4
  have f14 := f5.wr W13
  have f15 := f6.other W13 (Or.inr (slot_ne (Or.inr (hw _ (List.mem_of_getElem? (i := 42) rfl))) (Or.inr (hw _ (List.mem_of_getElem? (i := 44) rfl))) (by decide) (t := (.object "java/lang/String")) (t' := (.object "java/lang/String")) (by decide) (by decide)))
  have f16 := f7.same W13
  have f17 := f8.other W13 (Or.inr (slot_ne (Or.inr (hw _ (List.mem_of_getElem? (i := 46) rfl))) (Or.inr (hw _ (List.mem_of_getElem? (i := 44) rfl))) (by decide) (t := .int) (t' := (.object "java/lang/String")) (by decide) (by decide)))
  have f18 := f9.wr W13
  have f19 := f10.wr W13
  refine own_by (V := T13.setTop (mkF m 26 #[.val (.ref o0), .val (.ref o1), .val (.ref o2), .val (.int p3)] [])) st13 ?_
  refine own_by (V := T13.setTop (mkF m 27 #[.val (.ref o0), .val (.ref o1), .val (.ref o2), .val (.int p3)] [(.ref o0)])) (fun t k => XS.aloadN X13.here hx rfl (hb hby own_d_prog_170_1_26) rfl rfl k) ?_
  refine own_by (V := T13.setTop (mkF m 28 #[.val (.ref o0), .val (.ref o1), .val (.ref o2), .val (.int p3)] [(.int p3), (.ref o0)])) (fun t k => XS.iloadN X13.here hx rfl (hb hby own_d_prog_170_1_27) rfl  k) ?_
  obtain ⟨T20, h20, X20, e20, W20, st20⟩ := putF X13 hx hZ hown (host := "") (Or.inl (hw _ (List.mem_of_getElem? (i := 45) rfl))) Via.refl e13 f17 f14 (Or.inr ⟨(hw _ (List.mem_of_getElem? (i := 46) rfl)), rfl, hnm⟩) (hw _ (List.mem_of_getElem? (i := 1) rfl)) (ty := .int) (by decide) rfl rfl (g := (mkF m 28 #[.val (.ref o0), .val (.ref o1), .val (.ref o2), .val (.int p3)] [(.int p3), (.ref o0)])) rfl rfl (hb hby own_d_prog_170_1_28)
  have N20 := Fr.snoc X20 N13 g0
  have K20 := K13.wr W20 (Or.inl (List.mem_singleton.mpr rfl))
  have Zs20 : n0 ≤ h20.size := by rw [W20.size]; exact Zs13
  have f21 := f14.wr W20
  have f22 := f15.other W20 (Or.inr (slot_ne (Or.inr (hw _ (List.mem_of_getElem? (i := 42) rfl))) (Or.inr (hw _ (List.mem_of_getElem? (i := 46) rfl))) (by decide) (t := (.object "java/lang/String")) (t' := .int) (by decide) (by decide)))
  have f23 := f16.other W20 (Or.inr (slot_ne (Or.inr (hw _ (List.mem_of_getElem? (i := 44) rfl))) (Or.inr (hw _ (List.mem_of_getElem? (i := 46) rfl))) (by decide) (t := (.object "java/lang/String")) (t' := .int) (by decide) (by decide)))
  have f24 := f17.same W20
  have f25 := f18.wr W20
  have f26 := f19.wr W20
  refine own_by (V := T20.setTop (mkF m 31 #[.val (.ref o0), .val (.ref o1), .val (.ref o2), .val (.int p3)] [])) st20 ?_
  refine own_ret0 X20 hx hlk e20 Bd.returns (hb hby own_d_prog_170_1_31) ?_ (by decide) (by decide)
  exact ⟨rfl, N20, K20, f21, f22, f23, f24⟩
def own_Q_own_iinit (Z : State) (o0 : Addr) (q1 : Int64) (h0 : Heap) (n0 : Nat) : Option Value → Heap → List Loc → Prop := fun v h L => v = none ∧ Fr n0 L ∧ Keep h0 h [o0] ∧ Exa Z h o0 "com/example/forec/forec/Value$Int" ∧ Fld Z h o0 "com/example/forec/forec/Value$Int" "value" "J" (.long q1)
theorem own_ef_own_iinit (m : MethodId) (x0 : Addr) (x1 : Int64) : entryFrame m #[(.ref x0), (.long x1)] 3 = mkF m 0 #[.val (.ref x0), .val (.long x1), .second] [] := by first | (simp [entryFrame, mkF, argsToLocals, Value.category]; done) | rfl
set_option maxRecDepth 65536 in
set_option maxHeartbeats 40000000 in
theorem own_iinit (l : Launch) (Z : State) (a0 : Array Value) (hw : ∀ d ∈ tables_1, d.before a0 Z = true) (ws : List Jvm.Cond) (o0 : Addr) (q1 : Int64) (h0 : Heap) (n0 : Nat) (Z0 : n0 ≤ h0.size) (g0 : n0 ≤ o0) (E0 : Exa Z h0 o0 "com/example/forec/forec/Value$Int") (F_value : Fld Z h0 o0 "com/example/forec/forec/Value$Int" "value" "J" (.long (0 : Int64))) :
    MetFree l (⟨"com/example/forec/forec/Value$Int", "<init>", "(J)V"⟩ : MethodName) (head1 (Jvm.Cond.code (⟨"com/example/forec/forec/Value$Int", "<init>", "(J)V"⟩ : MethodName) prog_172_method_1_code 3 none :: ws) ({ frames := 1, cells := 0, slots := 0, locals := 12 } : Room)) (fun a U => a = #[(.ref o0), (.long q1)] ∧ Z.Warmed39 U.vm ∧ U.heap = h0) (fun _ _ _ _ _ => True) (fun _ U o U' => ∃ v L, o = .returned v ∧ (own_Q_own_iinit Z o0 q1 h0 n0) v U'.heap L ∧ FrameEnd U o U' L ({ frames := 1, cells := 0, slots := 0, locals := 12 } : Room).cells ({ frames := 1, cells := 0, slots := 0, locals := 12 } : Room).slots) := by
  refine MetFree.of_bodySF (plainFor_of_name own_pn6) hisR ?_
  intro p e s m args below meth c s₁ Bd hml0 hP hK
  obtain ⟨rfl, hZ, hh⟩ := hP
  have hx := Bd.exec
  have hby := Bd.bytes
  have hml : c.maxLocals = 3 := hml0
  have hown : s.vm.findClass "com/example/forec/forec/Value$Int" = some m.cls := findClass_of_methodNamed Bd.named
  have hnm := (name_of_methodNamed Bd.named Bd.method).1
  have hlk : meth.locks = false := BodyLoose.notSynchronized Bd
  have X0 : Stand p l e ({ frames := 1, cells := 0, slots := 0, locals := 12 } : Room) s m #[(.ref o0), (.long q1)] below meth c s₁ [] 0 0 := Stand.of_body Bd
  have e0 : s₁.heap = h0 := by rw [← hh, Bd.state]; rfl
  have N0 := Fr.nil n0
  show own_Ends p e below s (own_Q_own_iinit Z o0 q1 h0 n0) ({ frames := 1, cells := 0, slots := 0, locals := 12 } : Room).cells ({ frames := 1, cells := 0, slots := 0, locals := 12 } : Room).slots _
  refine own_by (V := s₁.setTop (mkF m 0 #[.val (.ref o0), .val (.long q1), .second] [])) (fun t k => castTop (own_ef_own_iinit m o0 q1) k) ?_
  refine own_by (V := s₁.setTop (mkF m 1 #[.val (.ref o0), .val (.long q1), .second] [(.ref o0)])) (fun t k => XS.aloadN X0.here hx rfl (hb hby own_d_prog_172_1_0) rfl rfl k) ?_
  obtain ⟨T1, X1, e1, st1⟩ := initO X0 hx hZ hown (hw _ (List.mem_of_getElem? (i := 90) rfl)) (hw _ (List.mem_of_getElem? (i := 22) rfl)) (hw _ (List.mem_of_getElem? (i := 23) rfl)) e0 (g := (mkF m 1 #[.val (.ref o0), .val (.long q1), .second] [(.ref o0)])) rfl (by rw [hml]; rfl) rfl (hb hby own_d_prog_172_1_1) (by decide) (W := 0) (by show 2 * 0 + _ ≤ _; exact Nat.le_of_eq rfl) (by decide)
  refine own_by (V := T1.setTop (mkF m 4 #[.val (.ref o0), .val (.long q1), .second] [])) st1 ?_
  refine own_by (V := T1.setTop (mkF m 5 #[.val (.ref o0), .val (.long q1), .second] [(.ref o0)])) (fun t k => XS.aloadN X1.here hx rfl (hb hby own_d_prog_172_1_4) rfl rfl k) ?_
  refine own_by (V := T1.setTop (mkF m 6 #[.val (.ref o0), .val (.long q1), .second] [(.long q1), (.ref o0)])) (fun t k => XS.lloadN X1.here hx rfl (hb hby own_d_prog_172_1_5) rfl  k) ?_
  obtain ⟨T2, h2, X2, e2, W2, st2⟩ := putF X1 hx hZ hown (host := "") (Or.inl (hw _ (List.mem_of_getElem? (i := 91) rfl))) Via.refl e1 F_value E0 (Or.inr ⟨(hw _ (List.mem_of_getElem? (i := 92) rfl)), rfl, hnm⟩) (hw _ (List.mem_of_getElem? (i := 85) rfl)) (ty := .long) (by decide) rfl rfl (g := (mkF m 6 #[.val (.ref o0), .val (.long q1), .second] [(.long q1), (.ref o0)])) rfl rfl (hb hby own_d_prog_172_1_6)
  have N2 := Fr.snoc X2 N0 g0
  have K2 := (Keep.refl h0 [o0]).wr W2 (Or.inl (List.mem_singleton.mpr rfl))
  have Zs2 : n0 ≤ h2.size := by rw [W2.size]; exact Z0
  have f3 := E0.wr W2
  have f4 := F_value.same W2
  refine own_by (V := T2.setTop (mkF m 9 #[.val (.ref o0), .val (.long q1), .second] [])) st2 ?_
  refine own_ret0 X2 hx hlk e2 Bd.returns (hb hby own_d_prog_172_1_9) ?_ (by decide) (by decide)
  exact ⟨rfl, N2, K2, f3, f4⟩
def own_Q_own_coneq (Z : State) (o0 : Addr) (o1 : Addr) (cs : Int32) (a_t0 : Addr) (by_t0 : Addr) (ky_t0 : ClassId) (xt0 : Int32) (a_n0 : Addr) (by_n0 : Addr) (ky_n0 : ClassId) (xn0 : Int32) (a_t1 : Addr) (by_t1 : Addr) (ky_t1 : ClassId) (xt1 : Int32) (a_n1 : Addr) (by_n1 : Addr) (ky_n1 : ClassId) (xn1 : Int32) (h0 : Heap) (n0 : Nat) : Option Value → Heap → List Loc → Prop := fun v h L => v = some (.int (own_both (own_same xt0 xt1) (own_same xn0 xn1))) ∧ Fr n0 L ∧ h = h0
theorem own_ef_own_coneq (m : MethodId) (x0 : Addr) (x1 : Addr) : entryFrame m #[(.ref x0), (.ref x1)] 3 = mkF m 0 #[.val (.ref x0), .val (.ref x1), .unset] [] := by first | (simp [entryFrame, mkF, argsToLocals, Value.category]; done) | rfl
set_option maxRecDepth 65536 in
set_option maxHeartbeats 40000000 in
theorem own_coneq (l : Launch) (Z : State) (a0 : Array Value) (hw : ∀ d ∈ tables_1, d.before a0 Z = true) (ws : List Jvm.Cond) (o0 : Addr) (o1 : Addr) (cs : Int32) (a_t0 : Addr) (by_t0 : Addr) (ky_t0 : ClassId) (xt0 : Int32) (a_n0 : Addr) (by_n0 : Addr) (ky_n0 : ClassId) (xn0 : Int32) (a_t1 : Addr) (by_t1 : Addr) (ky_t1 : ClassId) (xt1 : Int32) (a_n1 : Addr) (by_n1 : Addr) (ky_n1 : ClassId) (xn1 : Int32) (h0 : Heap) (n0 : Nat) (SS : Sta Z h0 "java/lang/String" "COMPACT_STRINGS" "Z" (.int cs)) (hcs : ¬ cs = (0 : Int32)) (PFt0 : Fld Z h0 o0 "com/example/forec/forec/Value$Constant" "type" "Ljava/lang/String;" (.ref a_t0)) (PEt0 : Exa Z h0 a_t0 "java/lang/String") (PVt0 : Fld Z h0 a_t0 "java/lang/String" "value" "[B" (.ref by_t0)) (PCt0 : Fld Z h0 a_t0 "java/lang/String" "coder" "B" (.int (0 : Int32))) (PAt0 : Arv Z h0 by_t0 ky_t0 .byte (own_len xt0) (own_bytes xt0) (.int (0 : Int32))) (PFn0 : Fld Z h0 o0 "com/example/forec/forec/Value$Constant" "name" "Ljava/lang/String;" (.ref a_n0)) (PEn0 : Exa Z h0 a_n0 "java/lang/String") (PVn0 : Fld Z h0 a_n0 "java/lang/String" "value" "[B" (.ref by_n0)) (PCn0 : Fld Z h0 a_n0 "java/lang/String" "coder" "B" (.int (0 : Int32))) (PAn0 : Arv Z h0 by_n0 ky_n0 .byte (own_len xn0) (own_bytes xn0) (.int (0 : Int32))) (PFt1 : Fld Z h0 o1 "com/example/forec/forec/Value$Constant" "type" "Ljava/lang/String;" (.ref a_t1)) (PEt1 : Exa Z h0 a_t1 "java/lang/String") (PVt1 : Fld Z h0 a_t1 "java/lang/String" "value" "[B" (.ref by_t1)) (PCt1 : Fld Z h0 a_t1 "java/lang/String" "coder" "B" (.int (0 : Int32))) (PAt1 : Arv Z h0 by_t1 ky_t1 .byte (own_len xt1) (own_bytes xt1) (.int (0 : Int32))) (PFn1 : Fld Z h0 o1 "com/example/forec/forec/Value$Constant" "name" "Ljava/lang/String;" (.ref a_n1)) (PEn1 : Exa Z h0 a_n1 "java/lang/String") (PVn1 : Fld Z h0 a_n1 "java/lang/String" "value" "[B" (.ref by_n1)) (PCn1 : Fld Z h0 a_n1 "java/lang/String" "coder" "B" (.int (0 : Int32))) (PAn1 : Arv Z h0 by_n1 ky_n1 .byte (own_len xn1) (own_bytes xn1) (.int (0 : Int32))) (Eo : Exa Z h0 o1 "com/example/forec/forec/Value$Constant") (hnt : a_t0 ≠ a_t1) (hnn : a_n0 ≠ a_n1) :
    MetFree l (⟨"com/example/forec/forec/Value$Constant", "equals", "(Ljava/lang/Object;)Z"⟩ : MethodName) (head1 (Jvm.Cond.code (⟨"com/example/forec/forec/Value$Constant", "equals", "(Ljava/lang/Object;)Z"⟩ : MethodName) prog_170_method_5_code 3 (some .boolean) :: ws) ({ frames := 2, cells := 0, slots := 0, locals := 28 } : Room)) (fun a U => a = #[(.ref o0), (.ref o1)] ∧ Z.Warmed39 U.vm ∧ U.heap = h0) (fun _ _ _ _ _ => True) (fun _ U o U' => ∃ v L, o = .returned v ∧ (own_Q_own_coneq Z o0 o1 cs a_t0 by_t0 ky_t0 xt0 a_n0 by_n0 ky_n0 xn0 a_t1 by_t1 ky_t1 xt1 a_n1 by_n1 ky_n1 xn1 h0 n0) v U'.heap L ∧ FrameEnd U o U' L ({ frames := 2, cells := 0, slots := 0, locals := 28 } : Room).cells ({ frames := 2, cells := 0, slots := 0, locals := 28 } : Room).slots) := by
  refine MetFree.of_bodySF (plainFor_of_name own_pn5) hisR ?_
  intro p e s m args below meth c s₁ Bd hml0 hP hK
  obtain ⟨rfl, hZ, hh⟩ := hP
  have hx := Bd.exec
  have hby := Bd.bytes
  have hml : c.maxLocals = 3 := hml0
  have hown : s.vm.findClass "com/example/forec/forec/Value$Constant" = some m.cls := findClass_of_methodNamed Bd.named
  have hnm := (name_of_methodNamed Bd.named Bd.method).1
  have hlk : meth.locks = false := BodyLoose.notSynchronized Bd
  have X0 : Stand p l e ({ frames := 2, cells := 0, slots := 0, locals := 28 } : Room) s m #[(.ref o0), (.ref o1)] below meth c s₁ [] 0 0 := Stand.of_body Bd
  have e0 : s₁.heap = h0 := by rw [← hh, Bd.state]; rfl
  have N0 := Fr.nil n0
  show own_Ends p e below s (own_Q_own_coneq Z o0 o1 cs a_t0 by_t0 ky_t0 xt0 a_n0 by_n0 ky_n0 xn0 a_t1 by_t1 ky_t1 xt1 a_n1 by_n1 ky_n1 xn1 h0 n0) ({ frames := 2, cells := 0, slots := 0, locals := 28 } : Room).cells ({ frames := 2, cells := 0, slots := 0, locals := 28 } : Room).slots _
  refine own_by (V := s₁.setTop (mkF m 0 #[.val (.ref o0), .val (.ref o1), .unset] [])) (fun t k => castTop (own_ef_own_coneq m o0 o1) k) ?_
  refine own_by (V := s₁.setTop (mkF m 1 #[.val (.ref o0), .val (.ref o1), .unset] [(.ref o1)])) (fun t k => XS.aloadN X0.here hx rfl (hb hby own_d_prog_170_5_0) rfl rfl k) ?_
  obtain ⟨T1, X1, e1, st1⟩ := instY X0 hx hZ hown (hw _ (List.mem_of_getElem? (i := 72) rfl)) e0 (Ins.self Eo) (g := (mkF m 1 #[.val (.ref o0), .val (.ref o1), .unset] [(.ref o1)])) rfl rfl (hb hby own_d_prog_170_5_1)
  refine own_by (V := T1.setTop (mkF m 4 #[.val (.ref o0), .val (.ref o1), .unset] [(.int (1 : Int32))])) st1 ?_
  have hb4_2 : ¬ ((1 : Int32) = (0 : Int32)) := by decide
  refine own_by (V := T1.setTop (mkF m 7 #[.val (.ref o0), .val (.ref o1), .unset] [])) (fun t k => XS.ifNo X1.here hx rfl (hb hby own_d_prog_170_5_4) rfl ((if0 _ _).trans (feq hb4_2).1) k) ?_
  refine own_by (V := T1.setTop (mkF m 8 #[.val (.ref o0), .val (.ref o1), .unset] [(.ref o1)])) (fun t k => XS.aloadN X1.here hx rfl (hb hby own_d_prog_170_5_7) rfl rfl k) ?_
  obtain ⟨T3, X3, e3, st3⟩ := castY X1 hx hZ hown (hw _ (List.mem_of_getElem? (i := 72) rfl)) e1 (Ins.self Eo) (g := (mkF m 8 #[.val (.ref o0), .val (.ref o1), .unset] [(.ref o1)])) rfl rfl (hb hby own_d_prog_170_5_8)
  refine own_by (V := T3.setTop (mkF m 11 #[.val (.ref o0), .val (.ref o1), .unset] [(.ref o1)])) st3 ?_
  refine own_by (V := T3.setTop (mkF m 12 #[.val (.ref o0), .val (.ref o1), .val (.ref o1)] [])) (fun t k => XS.astoreN X3.here hx rfl (hb hby own_d_prog_170_5_11) rfl rfl (l' := #[.val (.ref o0), .val (.ref o1), .val (.ref o1)]) rfl k) ?_
  refine own_by (V := T3.setTop (mkF m 13 #[.val (.ref o0), .val (.ref o1), .val (.ref o1)] [(.ref o0)])) (fun t k => XS.aloadN X3.here hx rfl (hb hby own_d_prog_170_5_12) rfl rfl k) ?_
  obtain ⟨T4, X4, e4, st4⟩ := getF X3 hx hZ hown (host := "") (Or.inl (hw _ (List.mem_of_getElem? (i := 41) rfl))) Via.refl e3 PFt0 (g := (mkF m 13 #[.val (.ref o0), .val (.ref o1), .val (.ref o1)] [(.ref o0)])) rfl rfl (hb hby own_d_prog_170_5_13)
  refine own_by (V := T4.setTop (mkF m 16 #[.val (.ref o0), .val (.ref o1), .val (.ref o1)] [(.ref a_t0)])) st4 ?_
  refine own_by (V := T4.setTop (mkF m 17 #[.val (.ref o0), .val (.ref o1), .val (.ref o1)] [(.ref o1), (.ref a_t0)])) (fun t k => XS.aloadN X4.here hx rfl (hb hby own_d_prog_170_5_16) rfl rfl k) ?_
  obtain ⟨T5, X5, e5, st5⟩ := getF X4 hx hZ hown (host := "") (Or.inl (hw _ (List.mem_of_getElem? (i := 41) rfl))) Via.refl e4 PFt1 (g := (mkF m 17 #[.val (.ref o0), .val (.ref o1), .val (.ref o1)] [(.ref o1), (.ref a_t0)])) rfl rfl (hb hby own_d_prog_170_5_17)
  refine own_by (V := T5.setTop (mkF m 20 #[.val (.ref o0), .val (.ref o1), .val (.ref o1)] [(.ref a_t1), (.ref a_t0)])) st5 ?_
  obtain ⟨cq7, kq7, q7a, q7b, q7c⟩ := isOf hZ e5 PEt0
  obtain ⟨_, _, ⟨T6, Lq6, kq6, nq6⟩, -, X6, ⟨Lc6, hQ6, lq6, yq6, zq6⟩, st6⟩ := X5.virtualBack hx (y := (⟨"java/lang/String", "equals", "(Ljava/lang/Object;)Z"⟩ : MethodName)) (z := (⟨"java/lang/String", "equals", "(Ljava/lang/Object;)Z"⟩ : MethodName)) hown (mvT hZ (hw _ (List.mem_of_getElem? (i := 74) rfl))) (mvT hZ (hw _ (List.mem_of_getElem? (i := 75) rfl))) (notFace_of_selects (args := #[]) (mvT hZ (hw _ (List.mem_of_getElem? (i := 77) rfl)))) (mvT hZ (hw _ (List.mem_of_getElem? (i := 77) rfl))) (mvT hZ (hw _ (List.mem_of_getElem? (i := 76) rfl))) (by decide) (backOf (W := 0) (own_streq l Z a0 hw [] a_t0 a_t1 cs by_t0 ky_t0 xt0 by_t1 ky_t1 xt1 h0 n0 SS hcs PVt0 PCt0 PAt0 PVt1 PCt1 PAt1 PEt1 hnt) hZ (hw _ (List.mem_of_getElem? (i := 78) rfl)) (hw _ (List.mem_of_getElem? (i := 12) rfl)) (by decide) (by decide)) q7a q7c (g := (mkF m 20 #[.val (.ref o0), .val (.ref o1), .val (.ref o1)] [(.ref a_t1), (.ref a_t0)])) rfl (by rw [hml]; rfl) (Steps.refl _) (argsL := [(.ref a_t1)]) (rest := []) (lenOf own_pd9 rfl) rfl (by show 2 * 0 + _ ≤ _; exact Nat.le_of_eq rfl) (hb hby own_d_prog_170_5_20) (fun _ _ => ⟨rfl, e5, (by decide : 0 + 0 ≤ _), (by decide : 0 + 0 ≤ _)⟩)
  dsimp only [Pt.U, Pt.locs, Pt.cells, Pt.slots] at X6 lq6 yq6 zq6 st6 hQ6
  subst lq6 yq6 zq6
  obtain ⟨rfl, N6q, e6⟩ := hQ6
  have N6 := Fr.app N0 N6q
  refine own_by (V := T6.setTop (mkF m 23 #[.val (.ref o0), .val (.ref o1), .val (.ref o1)] [(.int (own_same xt0 xt1))])) (fun t k => st6.trans k) ?_
  by_cases hb23_8 : (own_same xt0 xt1) = (0 : Int32)
  · refine own_by (V := T6.setTop (mkF m 44 #[.val (.ref o0), .val (.ref o1), .val (.ref o1)] [])) (fun t k => XS.ifYes X6.here hx rfl (pc0 := 23) (pc' := 44) rfl (hb hby own_d_prog_170_5_23) rfl ((if0 _ _).trans (teq hb23_8).1) (by decide) (by decide) k) ?_
    refine own_by (V := T6.setTop (mkF m 45 #[.val (.ref o0), .val (.ref o1), .val (.ref o1)] [(.int (0 : Int32))])) (fun t k => XS.iconst X6.here hx rfl (hb hby own_d_prog_170_5_44) k) ?_
    refine own_retN X6 hx hlk e6 Bd.returns (t := .boolean) (by simp) rfl (hb hby own_d_prog_170_5_45) ?_ (by decide) (by decide)
    exact ⟨congrArg (fun z => some (Value.int z)) (show (0 : Int32) = (own_both (own_same xt0 xt1) (own_same xn0 xn1)) from by (unfold own_both; rw [if_pos hb23_8])), N6, rfl⟩
  · refine own_by (V := T6.setTop (mkF m 26 #[.val (.ref o0), .val (.ref o1), .val (.ref o1)] [])) (fun t k => XS.ifNo X6.here hx rfl (hb hby own_d_prog_170_5_23) rfl ((if0 _ _).trans (feq hb23_8).1) k) ?_
    refine own_by (V := T6.setTop (mkF m 27 #[.val (.ref o0), .val (.ref o1), .val (.ref o1)] [(.ref o0)])) (fun t k => XS.aloadN X6.here hx rfl (hb hby own_d_prog_170_5_26) rfl rfl k) ?_
    obtain ⟨T9, X9, e9, st9⟩ := getF X6 hx hZ hown (host := "") (Or.inl (hw _ (List.mem_of_getElem? (i := 43) rfl))) Via.refl e6 PFn0 (g := (mkF m 27 #[.val (.ref o0), .val (.ref o1), .val (.ref o1)] [(.ref o0)])) rfl rfl (hb hby own_d_prog_170_5_27)
    refine own_by (V := T9.setTop (mkF m 30 #[.val (.ref o0), .val (.ref o1), .val (.ref o1)] [(.ref a_n0)])) st9 ?_
    refine own_by (V := T9.setTop (mkF m 31 #[.val (.ref o0), .val (.ref o1), .val (.ref o1)] [(.ref o1), (.ref a_n0)])) (fun t k => XS.aloadN X9.here hx rfl (hb hby own_d_prog_170_5_30) rfl rfl k) ?_
    obtain ⟨T10, X10, e10, st10⟩ := getF X9 hx hZ hown (host := "") (Or.inl (hw _ (List.mem_of_getElem? (i := 43) rfl))) Via.refl e9 PFn1 (g := (mkF m 31 #[.val (.ref o0), .val (.ref o1), .val (.ref o1)] [(.ref o1), (.ref a_n0)])) rfl rfl (hb hby own_d_prog_170_5_31)
    refine own_by (V := T10.setTop (mkF m 34 #[.val (.ref o0), .val (.ref o1), .val (.ref o1)] [(.ref a_n1), (.ref a_n0)])) st10 ?_
    obtain ⟨cq12, kq12, q12a, q12b, q12c⟩ := isOf hZ e10 PEn0
    obtain ⟨_, _, ⟨T11, Lq11, kq11, nq11⟩, -, X11, ⟨Lc11, hQ11, lq11, yq11, zq11⟩, st11⟩ := X10.virtualBack hx (y := (⟨"java/lang/String", "equals", "(Ljava/lang/Object;)Z"⟩ : MethodName)) (z := (⟨"java/lang/String", "equals", "(Ljava/lang/Object;)Z"⟩ : MethodName)) hown (mvT hZ (hw _ (List.mem_of_getElem? (i := 74) rfl))) (mvT hZ (hw _ (List.mem_of_getElem? (i := 75) rfl))) (notFace_of_selects (args := #[]) (mvT hZ (hw _ (List.mem_of_getElem? (i := 77) rfl)))) (mvT hZ (hw _ (List.mem_of_getElem? (i := 77) rfl))) (mvT hZ (hw _ (List.mem_of_getElem? (i := 76) rfl))) (by decide) (backOf (W := 0) (own_streq l Z a0 hw [] a_n0 a_n1 cs by_n0 ky_n0 xn0 by_n1 ky_n1 xn1 h0 n0 SS hcs PVn0 PCn0 PAn0 PVn1 PCn1 PAn1 PEn1 hnn) hZ (hw _ (List.mem_of_getElem? (i := 78) rfl)) (hw _ (List.mem_of_getElem? (i := 12) rfl)) (by decide) (by decide)) q12a q12c (g := (mkF m 34 #[.val (.ref o0), .val (.ref o1), .val (.ref o1)] [(.ref a_n1), (.ref a_n0)])) rfl (by rw [hml]; rfl) (Steps.refl _) (argsL := [(.ref a_n1)]) (rest := []) (lenOf own_pd9 rfl) rfl (by show 2 * 0 + _ ≤ _; exact Nat.le_of_eq rfl) (hb hby own_d_prog_170_5_34) (fun _ _ => ⟨rfl, e10, (by decide : 0 + 0 ≤ _), (by decide : 0 + 0 ≤ _)⟩)
    dsimp only [Pt.U, Pt.locs, Pt.cells, Pt.slots] at X11 lq11 yq11 zq11 st11 hQ11
    subst lq11 yq11 zq11
    obtain ⟨rfl, N11q, e11⟩ := hQ11
    have N11 := Fr.app N6 N11q
    refine own_by (V := T11.setTop (mkF m 37 #[.val (.ref o0), .val (.ref o1), .val (.ref o1)] [(.int (own_same xn0 xn1))])) (fun t k => st11.trans k) ?_
    by_cases hb37_13 : (own_same xn0 xn1) = (0 : Int32)
    · refine own_by (V := T11.setTop (mkF m 44 #[.val (.ref o0), .val (.ref o1), .val (.ref o1)] [])) (fun t k => XS.ifYes X11.here hx rfl (pc0 := 37) (pc' := 44) rfl (hb hby own_d_prog_170_5_37) rfl ((if0 _ _).trans (teq hb37_13).1) (by decide) (by decide) k) ?_
      refine own_by (V := T11.setTop (mkF m 45 #[.val (.ref o0), .val (.ref o1), .val (.ref o1)] [(.int (0 : Int32))])) (fun t k => XS.iconst X11.here hx rfl (hb hby own_d_prog_170_5_44) k) ?_
      refine own_retN X11 hx hlk e11 Bd.returns (t := .boolean) (by simp) rfl (hb hby own_d_prog_170_5_45) ?_ (by decide) (by decide)
      exact ⟨congrArg (fun z => some (Value.int z)) (show (0 : Int32) = (own_both (own_same xt0 xt1) (own_same xn0 xn1)) from by (unfold own_both; rw [if_neg hb23_8, if_pos hb37_13])), N11, rfl⟩
    · refine own_by (V := T11.setTop (mkF m 40 #[.val (.ref o0), .val (.ref o1), .val (.ref o1)] [])) (fun t k => XS.ifNo X11.here hx rfl (hb hby own_d_prog_170_5_37) rfl ((if0 _ _).trans (feq hb37_13).1) k) ?_
      refine own_by (V := T11.setTop (mkF m 41 #[.val (.ref o0), .val (.ref o1), .val (.ref o1)] [(.int (1 : Int32))])) (fun t k => XS.iconst X11.here hx rfl (hb hby own_d_prog_170_5_40) k) ?_
      refine own_by (V := T11.setTop (mkF m 45 #[.val (.ref o0), .val (.ref o1), .val (.ref o1)] [(.int (1 : Int32))])) (fun t k => XS.goto X11.here hx rfl (pc0 := 41) (pc' := 45) rfl (hb hby own_d_prog_170_5_41) (by decide) (by decide) k) ?_
      refine own_retN X11 hx hlk e11 Bd.returns (t := .boolean) (by simp) rfl (hb hby own_d_prog_170_5_45) ?_ (by decide) (by decide)
      exact ⟨congrArg (fun z => some (Value.int z)) (show (1 : Int32) = (own_both (own_same xt0 xt1) (own_same xn0 xn1)) from by (unfold own_both; rw [if_neg hb23_8, if_neg hb37_13])), N11, rfl⟩
def own_Q_own_coneq1 (Z : State) (o0 : Addr) (cs : Int32) (a_t0 : Addr) (by_t0 : Addr) (ky_t0 : ClassId) (xt0 : Int32) (a_n0 : Addr) (by_n0 : Addr) (ky_n0 : ClassId) (xn0 : Int32) (h0 : Heap) (n0 : Nat) : Option Value → Heap → List Loc → Prop := fun v h L => v = some (.int (1 : Int32)) ∧ Fr n0 L ∧ h = h0
theorem own_ef_own_coneq1 (m : MethodId) (x0 : Addr) (x1 : Addr) : entryFrame m #[(.ref x0), (.ref x1)] 3 = mkF m 0 #[.val (.ref x0), .val (.ref x1), .unset] [] := by first | (simp [entryFrame, mkF, argsToLocals, Value.category]; done) | rfl
set_option maxRecDepth 65536 in
set_option maxHeartbeats 40000000 in
theorem own_coneq1 (l : Launch) (Z : State) (a0 : Array Value) (hw : ∀ d ∈ tables_1, d.before a0 Z = true) (ws : List Jvm.Cond) (o0 : Addr) (cs : Int32) (a_t0 : Addr) (by_t0 : Addr) (ky_t0 : ClassId) (xt0 : Int32) (a_n0 : Addr) (by_n0 : Addr) (ky_n0 : ClassId) (xn0 : Int32) (h0 : Heap) (n0 : Nat) (SS : Sta Z h0 "java/lang/String" "COMPACT_STRINGS" "Z" (.int cs)) (hcs : ¬ cs = (0 : Int32)) (PFt0 : Fld Z h0 o0 "com/example/forec/forec/Value$Constant" "type" "Ljava/lang/String;" (.ref a_t0)) (PEt0 : Exa Z h0 a_t0 "java/lang/String") (PVt0 : Fld Z h0 a_t0 "java/lang/String" "value" "[B" (.ref by_t0)) (PCt0 : Fld Z h0 a_t0 "java/lang/String" "coder" "B" (.int (0 : Int32))) (PAt0 : Arv Z h0 by_t0 ky_t0 .byte (own_len xt0) (own_bytes xt0) (.int (0 : Int32))) (PFn0 : Fld Z h0 o0 "com/example/forec/forec/Value$Constant" "name" "Ljava/lang/String;" (.ref a_n0)) (PEn0 : Exa Z h0 a_n0 "java/lang/String") (PVn0 : Fld Z h0 a_n0 "java/lang/String" "value" "[B" (.ref by_n0)) (PCn0 : Fld Z h0 a_n0 "java/lang/String" "coder" "B" (.int (0 : Int32))) (PAn0 : Arv Z h0 by_n0 ky_n0 .byte (own_len xn0) (own_bytes xn0) (.int (0 : Int32))) (Eo : Exa Z h0 o0 "com/example/forec/forec/Value$Constant") :
    MetFree l (⟨"com/example/forec/forec/Value$Constant", "equals", "(Ljava/lang/Object;)Z"⟩ : MethodName) (head1 (Jvm.Cond.code (⟨"com/example/forec/forec/Value$Constant", "equals", "(Ljava/lang/Object;)Z"⟩ : MethodName) prog_170_method_5_code 3 (some .boolean) :: ws) ({ frames := 1, cells := 0, slots := 0, locals := 14 } : Room)) (fun a U => a = #[(.ref o0), (.ref o0)] ∧ Z.Warmed39 U.vm ∧ U.heap = h0) (fun _ _ _ _ _ => True) (fun _ U o U' => ∃ v L, o = .returned v ∧ (own_Q_own_coneq1 Z o0 cs a_t0 by_t0 ky_t0 xt0 a_n0 by_n0 ky_n0 xn0 h0 n0) v U'.heap L ∧ FrameEnd U o U' L ({ frames := 1, cells := 0, slots := 0, locals := 14 } : Room).cells ({ frames := 1, cells := 0, slots := 0, locals := 14 } : Room).slots) := by
  refine MetFree.of_bodySF (plainFor_of_name own_pn5) hisR ?_
  intro p e s m args below meth c s₁ Bd hml0 hP hK
  obtain ⟨rfl, hZ, hh⟩ := hP
  have hx := Bd.exec
  have hby := Bd.bytes
  have hml : c.maxLocals = 3 := hml0
  have hown : s.vm.findClass "com/example/forec/forec/Value$Constant" = some m.cls := findClass_of_methodNamed Bd.named
  have hnm := (name_of_methodNamed Bd.named Bd.method).1
  have hlk : meth.locks = false := BodyLoose.notSynchronized Bd
  have X0 : Stand p l e ({ frames := 1, cells := 0, slots := 0, locals := 14 } : Room) s m #[(.ref o0), (.ref o0)] below meth c s₁ [] 0 0 := Stand.of_body Bd
  have e0 : s₁.heap = h0 := by rw [← hh, Bd.state]; rfl
  have N0 := Fr.nil n0
  show own_Ends p e below s (own_Q_own_coneq1 Z o0 cs a_t0 by_t0 ky_t0 xt0 a_n0 by_n0 ky_n0 xn0 h0 n0) ({ frames := 1, cells := 0, slots := 0, locals := 14 } : Room).cells ({ frames := 1, cells := 0, slots := 0, locals := 14 } : Room).slots _
  refine own_by (V := s₁.setTop (mkF m 0 #[.val (.ref o0), .val (.ref o0), .unset] [])) (fun t k => castTop (own_ef_own_coneq1 m o0 o0) k) ?_
  refine own_by (V := s₁.setTop (mkF m 1 #[.val (.ref o0), .val (.ref o0), .unset] [(.ref o0)])) (fun t k => XS.aloadN X0.here hx rfl (hb hby own_d_prog_170_5_0) rfl rfl k) ?_
  obtain ⟨T1, X1, e1, st1⟩ := instY X0 hx hZ hown (hw _ (List.mem_of_getElem? (i := 72) rfl)) e0 (Ins.self Eo) (g := (mkF m 1 #[.val (.ref o0), .val (.ref o0), .unset] [(.ref o0)])) rfl rfl (hb hby own_d_prog_170_5_1)
  refine own_by (V := T1.setTop (mkF m 4 #[.val (.ref o0), .val (.ref o0), .unset] [(.int (1 : Int32))])) st1 ?_
  have hb4_2 : ¬ ((1 : Int32) = (0 : Int32)) := by decide
  refine own_by (V := T1.setTop (mkF m 7 #[.val (.ref o0), .val (.ref o0), .unset] [])) (fun t k => XS.ifNo X1.here hx rfl (hb hby own_d_prog_170_5_4) rfl ((if0 _ _).trans (feq hb4_2).1) k) ?_
  refine own_by (V := T1.setTop (mkF m 8 #[.val (.ref o0), .val (.ref o0), .unset] [(.ref o0)])) (fun t k => XS.aloadN X1.here hx rfl (hb hby own_d_prog_170_5_7) rfl rfl k) ?_
  obtain ⟨T3, X3, e3, st3⟩ := castY X1 hx hZ hown (hw _ (List.mem_of_getElem? (i := 72) rfl)) e1 (Ins.self Eo) (g := (mkF m 8 #[.val (.ref o0), .val (.ref o0), .unset] [(.ref o0)])) rfl rfl (hb hby own_d_prog_170_5_8)
  refine own_by (V := T3.setTop (mkF m 11 #[.val (.ref o0), .val (.ref o0), .unset] [(.ref o0)])) st3 ?_
  refine own_by (V := T3.setTop (mkF m 12 #[.val (.ref o0), .val (.ref o0), .val (.ref o0)] [])) (fun t k => XS.astoreN X3.here hx rfl (hb hby own_d_prog_170_5_11) rfl rfl (l' := #[.val (.ref o0), .val (.ref o0), .val (.ref o0)]) rfl k) ?_
  refine own_by (V := T3.setTop (mkF m 13 #[.val (.ref o0), .val (.ref o0), .val (.ref o0)] [(.ref o0)])) (fun t k => XS.aloadN X3.here hx rfl (hb hby own_d_prog_170_5_12) rfl rfl k) ?_
  obtain ⟨T4, X4, e4, st4⟩ := getF X3 hx hZ hown (host := "") (Or.inl (hw _ (List.mem_of_getElem? (i := 41) rfl))) Via.refl e3 PFt0 (g := (mkF m 13 #[.val (.ref o0), .val (.ref o0), .val (.ref o0)] [(.ref o0)])) rfl rfl (hb hby own_d_prog_170_5_13)
  refine own_by (V := T4.setTop (mkF m 16 #[.val (.ref o0), .val (.ref o0), .val (.ref o0)] [(.ref a_t0)])) st4 ?_
  refine own_by (V := T4.setTop (mkF m 17 #[.val (.ref o0), .val (.ref o0), .val (.ref o0)] [(.ref o0), (.ref a_t0)])) (fun t k => XS.aloadN X4.here hx rfl (hb hby own_d_prog_170_5_16) rfl rfl k) ?_
  obtain ⟨T5, X5, e5, st5⟩ := getF X4 hx hZ hown (host := "") (Or.inl (hw _ (List.mem_of_getElem? (i := 41) rfl))) Via.refl e4 PFt0 (g := (mkF m 17 #[.val (.ref o0), .val (.ref o0), .val (.ref o0)] [(.ref o0), (.ref a_t0)])) rfl rfl (hb hby own_d_prog_170_5_17)
  refine own_by (V := T5.setTop (mkF m 20 #[.val (.ref o0), .val (.ref o0), .val (.ref o0)] [(.ref a_t0), (.ref a_t0)])) st5 ?_
  obtain ⟨cq7, kq7, q7a, q7b, q7c⟩ := isOf hZ e5 PEt0
  obtain ⟨_, _, ⟨T6, Lq6, kq6, nq6⟩, -, X6, ⟨Lc6, hQ6, lq6, yq6, zq6⟩, st6⟩ := X5.virtualBack hx (y := (⟨"java/lang/String", "equals", "(Ljava/lang/Object;)Z"⟩ : MethodName)) (z := (⟨"java/lang/String", "equals", "(Ljava/lang/Object;)Z"⟩ : MethodName)) hown (mvT hZ (hw _ (List.mem_of_getElem? (i := 74) rfl))) (mvT hZ (hw _ (List.mem_of_getElem? (i := 75) rfl))) (notFace_of_selects (args := #[]) (mvT hZ (hw _ (List.mem_of_getElem? (i := 77) rfl)))) (mvT hZ (hw _ (List.mem_of_getElem? (i := 77) rfl))) (mvT hZ (hw _ (List.mem_of_getElem? (i := 76) rfl))) (by decide) (backOf (W := 0) (own_streq1 l Z a0 hw [] a_t0 h0 n0 ) hZ (hw _ (List.mem_of_getElem? (i := 78) rfl)) (hw _ (List.mem_of_getElem? (i := 12) rfl)) (by decide) (by decide)) q7a q7c (g := (mkF m 20 #[.val (.ref o0), .val (.ref o0), .val (.ref o0)] [(.ref a_t0), (.ref a_t0)])) rfl (by rw [hml]; rfl) (Steps.refl _) (argsL := [(.ref a_t0)]) (rest := []) (lenOf own_pd9 rfl) rfl (by show 2 * 0 + _ ≤ _; exact Nat.le_of_eq rfl) (hb hby own_d_prog_170_5_20) (fun _ _ => ⟨rfl, e5, (by decide : 0 + 0 ≤ _), (by decide : 0 + 0 ≤ _)⟩)
  dsimp only [Pt.U, Pt.locs, Pt.cells, Pt.slots] at X6 lq6 yq6 zq6 st6 hQ6
  subst lq6 yq6 zq6
  obtain ⟨rfl, N6q, e6⟩ := hQ6
  have N6 := Fr.app N0 N6q
  refine own_by (V := T6.setTop (mkF m 23 #[.val (.ref o0), .val (.ref o0), .val (.ref o0)] [(.int (1 : Int32))])) (fun t k => st6.trans k) ?_
  have hb23_8 : ¬ ((1 : Int32) = (0 : Int32)) := by decide
  refine own_by (V := T6.setTop (mkF m 26 #[.val (.ref o0), .val (.ref o0), .val (.ref o0)] [])) (fun t k => XS.ifNo X6.here hx rfl (hb hby own_d_prog_170_5_23) rfl ((if0 _ _).trans (feq hb23_8).1) k) ?_
  refine own_by (V := T6.setTop (mkF m 27 #[.val (.ref o0), .val (.ref o0), .val (.ref o0)] [(.ref o0)])) (fun t k => XS.aloadN X6.here hx rfl (hb hby own_d_prog_170_5_26) rfl rfl k) ?_
  obtain ⟨T9, X9, e9, st9⟩ := getF X6 hx hZ hown (host := "") (Or.inl (hw _ (List.mem_of_getElem? (i := 43) rfl))) Via.refl e6 PFn0 (g := (mkF m 27 #[.val (.ref o0), .val (.ref o0), .val (.ref o0)] [(.ref o0)])) rfl rfl (hb hby own_d_prog_170_5_27)
  refine own_by (V := T9.setTop (mkF m 30 #[.val (.ref o0), .val (.ref o0), .val (.ref o0)] [(.ref a_n0)])) st9 ?_
  refine own_by (V := T9.setTop (mkF m 31 #[.val (.ref o0), .val (.ref o0), .val (.ref o0)] [(.ref o0), (.ref a_n0)])) (fun t k => XS.aloadN X9.here hx rfl (hb hby own_d_prog_170_5_30) rfl rfl k) ?_
  obtain ⟨T10, X10, e10, st10⟩ := getF X9 hx hZ hown (host := "") (Or.inl (hw _ (List.mem_of_getElem? (i := 43) rfl))) Via.refl e9 PFn0 (g := (mkF m 31 #[.val (.ref o0), .val (.ref o0), .val (.ref o0)] [(.ref o0), (.ref a_n0)])) rfl rfl (hb hby own_d_prog_170_5_31)
  refine own_by (V := T10.setTop (mkF m 34 #[.val (.ref o0), .val (.ref o0), .val (.ref o0)] [(.ref a_n0), (.ref a_n0)])) st10 ?_
  obtain ⟨cq12, kq12, q12a, q12b, q12c⟩ := isOf hZ e10 PEn0
  obtain ⟨_, _, ⟨T11, Lq11, kq11, nq11⟩, -, X11, ⟨Lc11, hQ11, lq11, yq11, zq11⟩, st11⟩ := X10.virtualBack hx (y := (⟨"java/lang/String", "equals", "(Ljava/lang/Object;)Z"⟩ : MethodName)) (z := (⟨"java/lang/String", "equals", "(Ljava/lang/Object;)Z"⟩ : MethodName)) hown (mvT hZ (hw _ (List.mem_of_getElem? (i := 74) rfl))) (mvT hZ (hw _ (List.mem_of_getElem? (i := 75) rfl))) (notFace_of_selects (args := #[]) (mvT hZ (hw _ (List.mem_of_getElem? (i := 77) rfl)))) (mvT hZ (hw _ (List.mem_of_getElem? (i := 77) rfl))) (mvT hZ (hw _ (List.mem_of_getElem? (i := 76) rfl))) (by decide) (backOf (W := 0) (own_streq1 l Z a0 hw [] a_n0 h0 n0 ) hZ (hw _ (List.mem_of_getElem? (i := 78) rfl)) (hw _ (List.mem_of_getElem? (i := 12) rfl)) (by decide) (by decide)) q12a q12c (g := (mkF m 34 #[.val (.ref o0), .val (.ref o0), .val (.ref o0)] [(.ref a_n0), (.ref a_n0)])) rfl (by rw [hml]; rfl) (Steps.refl _) (argsL := [(.ref a_n0)]) (rest := []) (lenOf own_pd9 rfl) rfl (by show 2 * 0 + _ ≤ _; exact Nat.le_of_eq rfl) (hb hby own_d_prog_170_5_34) (fun _ _ => ⟨rfl, e10, (by decide : 0 + 0 ≤ _), (by decide : 0 + 0 ≤ _)⟩)
  dsimp only [Pt.U, Pt.locs, Pt.cells, Pt.slots] at X11 lq11 yq11 zq11 st11 hQ11
  subst lq11 yq11 zq11
  obtain ⟨rfl, N11q, e11⟩ := hQ11
  have N11 := Fr.app N6 N11q
  refine own_by (V := T11.setTop (mkF m 37 #[.val (.ref o0), .val (.ref o0), .val (.ref o0)] [(.int (1 : Int32))])) (fun t k => st11.trans k) ?_
  have hb37_13 : ¬ ((1 : Int32) = (0 : Int32)) := by decide
  refine own_by (V := T11.setTop (mkF m 40 #[.val (.ref o0), .val (.ref o0), .val (.ref o0)] [])) (fun t k => XS.ifNo X11.here hx rfl (hb hby own_d_prog_170_5_37) rfl ((if0 _ _).trans (feq hb37_13).1) k) ?_
  refine own_by (V := T11.setTop (mkF m 41 #[.val (.ref o0), .val (.ref o0), .val (.ref o0)] [(.int (1 : Int32))])) (fun t k => XS.iconst X11.here hx rfl (hb hby own_d_prog_170_5_40) k) ?_
  refine own_by (V := T11.setTop (mkF m 45 #[.val (.ref o0), .val (.ref o0), .val (.ref o0)] [(.int (1 : Int32))])) (fun t k => XS.goto X11.here hx rfl (pc0 := 41) (pc' := 45) rfl (hb hby own_d_prog_170_5_41) (by decide) (by decide) k) ?_
  refine own_retN X11 hx hlk e11 Bd.returns (t := .boolean) (by simp) rfl (hb hby own_d_prog_170_5_45) ?_ (by decide) (by decide)
  exact ⟨congrArg (fun z => some (Value.int z)) (show (1 : Int32) = (1 : Int32) from by rfl), N11, rfl⟩
def own_Q_own_coneq0 (Z : State) (o0 : Addr) (h0 : Heap) (n0 : Nat) : Option Value → Heap → List Loc → Prop := fun v h L => v = some (.int (0 : Int32)) ∧ Fr n0 L ∧ h = h0
theorem own_ef_own_coneq0 (m : MethodId) (x0 : Addr) : entryFrame m #[(.ref x0), .null] 3 = mkF m 0 #[.val (.ref x0), .val .null, .unset] [] := by first | (simp [entryFrame, mkF, argsToLocals, Value.category]; done) | rfl
set_option maxRecDepth 65536 in
set_option maxHeartbeats 40000000 in
theorem own_coneq0 (l : Launch) (Z : State) (a0 : Array Value) (hw : ∀ d ∈ tables_1, d.before a0 Z = true) (ws : List Jvm.Cond) (o0 : Addr) (h0 : Heap) (n0 : Nat) :
    MetFree l (⟨"com/example/forec/forec/Value$Constant", "equals", "(Ljava/lang/Object;)Z"⟩ : MethodName) (head1 (Jvm.Cond.code (⟨"com/example/forec/forec/Value$Constant", "equals", "(Ljava/lang/Object;)Z"⟩ : MethodName) prog_170_method_5_code 3 (some .boolean) :: ws) ({ frames := 0, cells := 0, slots := 0, locals := 0 } : Room)) (fun a U => a = #[(.ref o0), .null] ∧ Z.Warmed39 U.vm ∧ U.heap = h0) (fun _ _ _ _ _ => True) (fun _ U o U' => ∃ v L, o = .returned v ∧ (own_Q_own_coneq0 Z o0 h0 n0) v U'.heap L ∧ FrameEnd U o U' L ({ frames := 0, cells := 0, slots := 0, locals := 0 } : Room).cells ({ frames := 0, cells := 0, slots := 0, locals := 0 } : Room).slots) := by
  refine MetFree.of_bodySF (plainFor_of_name own_pn5) hisR ?_
  intro p e s m args below meth c s₁ Bd hml0 hP hK
  obtain ⟨rfl, hZ, hh⟩ := hP
  have hx := Bd.exec
  have hby := Bd.bytes
  have hml : c.maxLocals = 3 := hml0
  have hown : s.vm.findClass "com/example/forec/forec/Value$Constant" = some m.cls := findClass_of_methodNamed Bd.named
  have hnm := (name_of_methodNamed Bd.named Bd.method).1
  have hlk : meth.locks = false := BodyLoose.notSynchronized Bd
  have X0 : Stand p l e ({ frames := 0, cells := 0, slots := 0, locals := 0 } : Room) s m #[(.ref o0), .null] below meth c s₁ [] 0 0 := Stand.of_body Bd
  have e0 : s₁.heap = h0 := by rw [← hh, Bd.state]; rfl
  have N0 := Fr.nil n0
  show own_Ends p e below s (own_Q_own_coneq0 Z o0 h0 n0) ({ frames := 0, cells := 0, slots := 0, locals := 0 } : Room).cells ({ frames := 0, cells := 0, slots := 0, locals := 0 } : Room).slots _
  refine own_by (V := s₁.setTop (mkF m 0 #[.val (.ref o0), .val .null, .unset] [])) (fun t k => castTop (own_ef_own_coneq0 m o0) k) ?_
  refine own_by (V := s₁.setTop (mkF m 1 #[.val (.ref o0), .val .null, .unset] [.null])) (fun t k => XS.aloadN X0.here hx rfl (hb hby own_d_prog_170_5_0) rfl rfl k) ?_
  refine own_by (V := s₁.setTop (mkF m 4 #[.val (.ref o0), .val .null, .unset] [(.int (0 : Int32))])) (Jvm.Stand.instanceofNull X0 hx (g := (mkF m 1 #[.val (.ref o0), .val .null, .unset] [.null])) rfl rfl (hb hby own_d_prog_170_5_1)) ?_
  have hb4_2 : ((0 : Int32) = (0 : Int32)) := rfl
  refine own_by (V := s₁.setTop (mkF m 44 #[.val (.ref o0), .val .null, .unset] [])) (fun t k => XS.ifYes X0.here hx rfl (pc0 := 4) (pc' := 44) rfl (hb hby own_d_prog_170_5_4) rfl ((if0 _ _).trans (teq hb4_2).1) (by decide) (by decide) k) ?_
  refine own_by (V := s₁.setTop (mkF m 45 #[.val (.ref o0), .val .null, .unset] [(.int (0 : Int32))])) (fun t k => XS.iconst X0.here hx rfl (hb hby own_d_prog_170_5_44) k) ?_
  refine own_retN X0 hx hlk e0 Bd.returns (t := .boolean) (by simp) rfl (hb hby own_d_prog_170_5_45) ?_ (by decide) (by decide)
  exact ⟨congrArg (fun z => some (Value.int z)) (show (0 : Int32) = (0 : Int32) from by rfl), N0, rfl⟩
def own_Q_own_coneqI (Z : State) (o0 : Addr) (o1 : Addr) (h0 : Heap) (n0 : Nat) : Option Value → Heap → List Loc → Prop := fun v h L => v = some (.int (0 : Int32)) ∧ Fr n0 L ∧ h = h0
theorem own_ef_own_coneqI (m : MethodId) (x0 : Addr) (x1 : Addr) : entryFrame m #[(.ref x0), (.ref x1)] 3 = mkF m 0 #[.val (.ref x0), .val (.ref x1), .unset] [] := by first | (simp [entryFrame, mkF, argsToLocals, Value.category]; done) | rfl
set_option maxRecDepth 65536 in
set_option maxHeartbeats 40000000 in
theorem own_coneqI (l : Launch) (Z : State) (a0 : Array Value) (hw : ∀ d ∈ tables_1, d.before a0 Z = true) (ws : List Jvm.Cond) (o0 : Addr) (o1 : Addr) (h0 : Heap) (n0 : Nat) (E1 : Exa Z h0 o1 "com/example/forec/forec/Value$Int") :
    MetFree l (⟨"com/example/forec/forec/Value$Constant", "equals", "(Ljava/lang/Object;)Z"⟩ : MethodName) (head1 (Jvm.Cond.code (⟨"com/example/forec/forec/Value$Constant", "equals", "(Ljava/lang/Object;)Z"⟩ : MethodName) prog_170_method_5_code 3 (some .boolean) :: ws) ({ frames := 0, cells := 0, slots := 0, locals := 0 } : Room)) (fun a U => a = #[(.ref o0), (.ref o1)] ∧ Z.Warmed39 U.vm ∧ U.heap = h0) (fun _ _ _ _ _ => True) (fun _ U o U' => ∃ v L, o = .returned v ∧ (own_Q_own_coneqI Z o0 o1 h0 n0) v U'.heap L ∧ FrameEnd U o U' L ({ frames := 0, cells := 0, slots := 0, locals := 0 } : Room).cells ({ frames := 0, cells := 0, slots := 0, locals := 0 } : Room).slots) := by
  refine MetFree.of_bodySF (plainFor_of_name own_pn5) hisR ?_
  intro p e s m args below meth c s₁ Bd hml0 hP hK
  obtain ⟨rfl, hZ, hh⟩ := hP
  have hx := Bd.exec
  have hby := Bd.bytes
  have hml : c.maxLocals = 3 := hml0
  have hown : s.vm.findClass "com/example/forec/forec/Value$Constant" = some m.cls := findClass_of_methodNamed Bd.named
  have hnm := (name_of_methodNamed Bd.named Bd.method).1
  have hlk : meth.locks = false := BodyLoose.notSynchronized Bd
  have X0 : Stand p l e ({ frames := 0, cells := 0, slots := 0, locals := 0 } : Room) s m #[(.ref o0), (.ref o1)] below meth c s₁ [] 0 0 := Stand.of_body Bd
  have e0 : s₁.heap = h0 := by rw [← hh, Bd.state]; rfl
  have N0 := Fr.nil n0
  show own_Ends p e below s (own_Q_own_coneqI Z o0 o1 h0 n0) ({ frames := 0, cells := 0, slots := 0, locals := 0 } : Room).cells ({ frames := 0, cells := 0, slots := 0, locals := 0 } : Room).slots _
  refine own_by (V := s₁.setTop (mkF m 0 #[.val (.ref o0), .val (.ref o1), .unset] [])) (fun t k => castTop (own_ef_own_coneqI m o0 o1) k) ?_
  refine own_by (V := s₁.setTop (mkF m 1 #[.val (.ref o0), .val (.ref o1), .unset] [(.ref o1)])) (fun t k => XS.aloadN X0.here hx rfl (hb hby own_d_prog_170_5_0) rfl rfl k) ?_
  obtain ⟨T1, X1, e1, st1⟩ := instNo X0 hx hZ hown (hw _ (List.mem_of_getElem? (i := 72) rfl)) e0 E1 (own_notOf (hw _ (List.mem_of_getElem? (i := 93) rfl)) (hw _ (List.mem_of_getElem? (i := 1) rfl)) (NS.step (hw _ (List.mem_of_getElem? (i := 93) rfl)) (own_nsRoot (hw _ (List.mem_of_getElem? (i := 94) rfl)) (hw _ (List.mem_of_getElem? (i := 1) rfl)) (by decide)) (by decide)) (by decide)) (g := (mkF m 1 #[.val (.ref o0), .val (.ref o1), .unset] [(.ref o1)])) rfl rfl (hb hby own_d_prog_170_5_1)
  refine own_by (V := T1.setTop (mkF m 4 #[.val (.ref o0), .val (.ref o1), .unset] [(.int (0 : Int32))])) st1 ?_
  have hb4_2 : ((0 : Int32) = (0 : Int32)) := rfl
  refine own_by (V := T1.setTop (mkF m 44 #[.val (.ref o0), .val (.ref o1), .unset] [])) (fun t k => XS.ifYes X1.here hx rfl (pc0 := 4) (pc' := 44) rfl (hb hby own_d_prog_170_5_4) rfl ((if0 _ _).trans (teq hb4_2).1) (by decide) (by decide) k) ?_
  refine own_by (V := T1.setTop (mkF m 45 #[.val (.ref o0), .val (.ref o1), .unset] [(.int (0 : Int32))])) (fun t k => XS.iconst X1.here hx rfl (hb hby own_d_prog_170_5_44) k) ?_
  refine own_retN X1 hx hlk e1 Bd.returns (t := .boolean) (by simp) rfl (hb hby own_d_prog_170_5_45) ?_ (by decide) (by decide)
  exact ⟨congrArg (fun z => some (Value.int z)) (show (0 : Int32) = (0 : Int32) from by rfl), N0, rfl⟩
def own_Q_own_rm0 (Z : State) (p0 : Int32) (p1 : Int32) (p2 : Int32) (p3 : Int32) (p4 : Int32) (p5 : Int32) (h0 : Heap) (n0 : Nat) : Option Value → Heap → List Loc → Prop := fun v h L => v = some (.int 1) ∧ Fr n0 L
theorem own_ef_own_rm0 (m : MethodId) (x0 : Int32) (x1 : Int32) (x2 : Int32) (x3 : Int32) (x4 : Int32) (x5 : Int32) : entryFrame m #[(.int x0), (.int x1), (.int x2), (.int x3), (.int x4), (.int x5)] maxLocals = mkF m 0 #[.val (.int x0), .val (.int x1), .val (.int x2), .val (.int x3), .val (.int x4), .val (.int x5), .unset, .unset, .unset, .unset, .unset, .unset] [] := by first | (simp [entryFrame, mkF, argsToLocals, Value.category, maxLocals]; done) | rfl
set_option maxRecDepth 65536 in
set_option maxHeartbeats 40000000 in
theorem own_rm0 (l : Launch) (Z : State) (a0 : Array Value) (hw : ∀ d ∈ tables_1, d.before a0 Z = true) (ws : List Jvm.Cond) (p0 : Int32) (p1 : Int32) (p2 : Int32) (p3 : Int32) (p4 : Int32) (p5 : Int32) (h0 : Heap) (n0 : Nat) (Z0 : n0 ≤ h0.size) (O0 : Old Z n0 h0) (hcH : Jvm.Lit.constHeld Z "java/lang/String" 7) (hcw : Jvm.Lit.compactW.before a0 Z = true) (cs : Int32) (hcs : ¬ cs = (0 : Int32)) (SS : Sta Z Z.heap "java/lang/String" "COMPACT_STRINGS" "Z" (.int cs)) :
    MetFree l x (head1 (Jvm.Cond.code x code maxLocals ret :: ws) room_1) (fun a U => a = #[(.int p0), (.int p1), (.int p2), (.int p3), (.int p4), (.int p5)] ∧ Z.Warmed39 U.vm ∧ U.heap = h0 ∧ own_LS Z U h0) (fun _ _ _ _ _ => True) (fun _ U o U' => ∃ v L, o = .returned v ∧ (own_Q_own_rm0 Z p0 p1 p2 p3 p4 p5 h0 n0) v U'.heap L ∧ own_LS Z U' U'.heap ∧ ReturnedEndW U o U' L room_1.cells room_1.slots) := by
  refine MetFree.of_bodySF (plainFor_of_name own_pn0) hisR ?_
  intro p e s m args below meth c s₁ Bd hml0 hP hK
  obtain ⟨rfl, hZ, hh, LS0⟩ := hP
  have hx := Bd.exec
  have hby := Bd.bytes
  have hml : c.maxLocals = 12 := hml0
  have hown : s.vm.findClass "com/example/forec/forec/ConstantEqualsPinLaw" = some m.cls := findClass_of_methodNamed Bd.named
  have hnm := (name_of_methodNamed Bd.named Bd.method).1
  have hlk : meth.locks = false := BodyLoose.notSynchronized Bd
  have X0 : Stand p l e room_1 s m #[(.int p0), (.int p1), (.int p2), (.int p3), (.int p4), (.int p5)] below meth c s₁ [] 0 0 := Stand.of_body Bd
  have e0 : s₁.heap = h0 := by rw [← hh, Bd.state]; rfl
  have N0 := Fr.nil n0
  have X0 : Stand p l e room_1 (s.setVm s.vm) m #[(.int p0), (.int p1), (.int p2), (.int p3), (.int p4), (.int p5)] below meth c s₁ [] 0 0 := X0
  have hZ : Z.Warmed39 (s.setVm s.vm).vm := hZ
  have hown : (s.setVm s.vm).vm.findClass "com/example/forec/forec/ConstantEqualsPinLaw" = some m.cls := hown
  have LS0 : own_LS Z (s.setVm s.vm) h0 := LS0
  have hS : s.Since s.vm h0.size := (State.WarmedH.refl s).since _
  show own_EndsW p e below s Z (own_Q_own_rm0 Z p0 p1 p2 p3 p4 p5 h0 n0) room_1.cells room_1.slots _
  refine own_byW (V := s₁.setTop (mkF m 0 #[.val (.int p0), .val (.int p1), .val (.int p2), .val (.int p3), .val (.int p4), .val (.int p5), .unset, .unset, .unset, .unset, .unset, .unset] [])) (fun t k => castTop (own_ef_own_rm0 m p0 p1 p2 p3 p4 p5) k) ?_
  have hk0 : h0.size ≤ h0.size := Nat.le_refl _
  refine own_byW (V := s₁.setTop (mkF m 1 #[.val (.int p0), .val (.int p1), .val (.int p2), .val (.int p3), .val (.int p4), .val (.int p5), .unset, .unset, .unset, .unset, .unset, .unset] [(.int p2)])) (fun t k => XS.iloadN X0.here hx rfl (hb hby at_0) rfl  k) ?_
  have J1 : ∀ (T1 : State) (l1 : List Loc) (tt2 : Int32) (X1 : Stand p l e room_1 (s.setVm s.vm) m #[(.int p0), (.int p1), (.int p2), (.int p3), (.int p4), (.int p5)] below meth c T1 l1 0 0) (e1 : T1.heap = h0) (N1 : Fr n0 l1), own_EndsW p e below s Z (own_Q_own_rm0 Z p0 p1 p2 p3 p4 p5 h0 n0) room_1.cells room_1.slots (T1.setTop (mkF m 9 #[.val (.int p0), .val (.int p1), .val (.int p2), .val (.int p3), .val (.int p4), .val (.int p5), .unset, .unset, .unset, .unset, .unset, .unset] [(.int tt2)])) := by
    intro T1 l1 tt2 X1 e1 N1 
    refine own_byW (V := T1.setTop (mkF m 11 #[.val (.int p0), .val (.int p1), .val (.int p2), .val (.int p3), .val (.int p4), .val (.int p5), .val (.int tt2), .unset, .unset, .unset, .unset, .unset] [])) (fun t k => XS.istore X1.here hx rfl (hb hby at_9) rfl (l' := #[.val (.int p0), .val (.int p1), .val (.int p2), .val (.int p3), .val (.int p4), .val (.int p5), .val (.int tt2), .unset, .unset, .unset, .unset, .unset]) rfl k) ?_
    refine own_byW (V := T1.setTop (mkF m 12 #[.val (.int p0), .val (.int p1), .val (.int p2), .val (.int p3), .val (.int p4), .val (.int p5), .val (.int tt2), .unset, .unset, .unset, .unset, .unset] [(.int p3)])) (fun t k => XS.iloadN X1.here hx rfl (hb hby at_11) rfl  k) ?_
    have J2 : ∀ (T2 : State) (l2 : List Loc) (nn2 : Int32) (X2 : Stand p l e room_1 (s.setVm s.vm) m #[(.int p0), (.int p1), (.int p2), (.int p3), (.int p4), (.int p5)] below meth c T2 l2 0 0) (e2 : T2.heap = h0) (N2 : Fr n0 l2), own_EndsW p e below s Z (own_Q_own_rm0 Z p0 p1 p2 p3 p4 p5 h0 n0) room_1.cells room_1.slots (T2.setTop (mkF m 20 #[.val (.int p0), .val (.int p1), .val (.int p2), .val (.int p3), .val (.int p4), .val (.int p5), .val (.int tt2), .unset, .unset, .unset, .unset, .unset] [(.int nn2)])) := by
      intro T2 l2 nn2 X2 e2 N2 
      refine own_byW (V := T2.setTop (mkF m 22 #[.val (.int p0), .val (.int p1), .val (.int p2), .val (.int p3), .val (.int p4), .val (.int p5), .val (.int tt2), .val (.int nn2), .unset, .unset, .unset, .unset] [])) (fun t k => XS.istore X2.here hx rfl (hb hby at_20) rfl (l' := #[.val (.int p0), .val (.int p1), .val (.int p2), .val (.int p3), .val (.int p4), .val (.int p5), .val (.int tt2), .val (.int nn2), .unset, .unset, .unset, .unset]) rfl k) ?_
      refine own_byW (V := T2.setTop (mkF m 23 #[.val (.int p0), .val (.int p1), .val (.int p2), .val (.int p3), .val (.int p4), .val (.int p5), .val (.int tt2), .val (.int nn2), .unset, .unset, .unset, .unset] [(.int p2)])) (fun t k => XS.iloadN X2.here hx rfl (hb hby at_22) rfl  k) ?_
      refine own_byW (V := T2.setTop (mkF m 25 #[.val (.int p0), .val (.int p1), .val (.int p2), .val (.int p3), .val (.int p4), .val (.int p5), .val (.int tt2), .val (.int nn2), .unset, .unset, .unset, .unset] [(.int (28 : Int32)), (.int p2)])) (fun t k => XS.bipush X2.here hx rfl (hb hby at_23) k) ?_
      refine own_byW (V := T2.setTop (mkF m 26 #[.val (.int p0), .val (.int p1), .val (.int p2), .val (.int p3), .val (.int p4), .val (.int p5), .val (.int tt2), .val (.int nn2), .unset, .unset, .unset, .unset] [(.int ((p2.toUInt32 >>> ((28 : Int32) &&& 31).toUInt32).toInt32))])) (fun t k => XS.iushr X2.here hx rfl (hb hby at_25) rfl k) ?_
      refine own_byW (V := T2.setTop (mkF m 27 #[.val (.int p0), .val (.int p1), .val (.int p2), .val (.int p3), .val (.int p4), .val (.int p5), .val (.int tt2), .val (.int nn2), .unset, .unset, .unset, .unset] [(.int (3 : Int32)), (.int ((p2.toUInt32 >>> ((28 : Int32) &&& 31).toUInt32).toInt32))])) (fun t k => XS.iconst X2.here hx rfl (hb hby at_26) k) ?_
      refine own_byW (V := T2.setTop (mkF m 28 #[.val (.int p0), .val (.int p1), .val (.int p2), .val (.int p3), .val (.int p4), .val (.int p5), .val (.int tt2), .val (.int nn2), .unset, .unset, .unset, .unset] [(.int (((p2.toUInt32 >>> ((28 : Int32) &&& 31).toUInt32).toInt32) &&& (3 : Int32)))])) (fun t k => XS.iand X2.here hx rfl (hb hby at_27) rfl k) ?_
      obtain ⟨z3, hz3⟩ : ∃ z : Int32, z = (((p2.toUInt32 >>> ((28 : Int32) &&& 31).toUInt32).toInt32) &&& (3 : Int32)) := ⟨_, rfl⟩
      rw [← hz3]
      refine own_byW (V := T2.setTop (mkF m 30 #[.val (.int p0), .val (.int p1), .val (.int p2), .val (.int p3), .val (.int p4), .val (.int p5), .val (.int tt2), .val (.int nn2), .val (.int z3), .unset, .unset, .unset] [])) (fun t k => XS.istore X2.here hx rfl (hb hby at_28) rfl (l' := #[.val (.int p0), .val (.int p1), .val (.int p2), .val (.int p3), .val (.int p4), .val (.int p5), .val (.int tt2), .val (.int nn2), .val (.int z3), .unset, .unset, .unset]) rfl k) ?_
      obtain ⟨T4, h4, X4, e4, E4, A4, D4, -, st4⟩ := newO X2 hx hZ hown (hw _ (List.mem_of_getElem? (i := 0) rfl)) (hw _ (List.mem_of_getElem? (i := 1) rfl)) (hw _ (List.mem_of_getElem? (i := 2) rfl)) e2 (g := (mkF m 30 #[.val (.int p0), .val (.int p1), .val (.int p2), .val (.int p3), .val (.int p4), .val (.int p5), .val (.int tt2), .val (.int nn2), .val (.int z3), .unset, .unset, .unset] [])) rfl (hb hby at_30) (by decide) (by decide)
      obtain ⟨b4, g4⟩ : ∃ z, z = h0.size := ⟨_, rfl⟩
      rw [← g4] at A4 D4 st4
      have hk5 := Nat.le_trans hk0 E4.1
      have LS6 := own_ls_ext LS0 E4
      have O4 := O0.ext E4
      have f10 : Fld Z h4 b4 "com/example/forec/forec/Value$Constant" "type" "Ljava/lang/String;" .null := D4 (Or.inr (hw _ (List.mem_of_getElem? (i := 42) rfl))) (ty := (.object "java/lang/String")) (by decide)
      have f11 : Fld Z h4 b4 "com/example/forec/forec/Value$Constant" "name" "Ljava/lang/String;" .null := D4 (Or.inr (hw _ (List.mem_of_getElem? (i := 44) rfl))) (ty := (.object "java/lang/String")) (by decide)
      have f12 : Fld Z h4 b4 "com/example/forec/forec/Value$Constant" "position" "I" (.int (0 : Int32)) := D4 (Or.inr (hw _ (List.mem_of_getElem? (i := 46) rfl))) (ty := .int) (by decide)
      have gn4 : n0 ≤ b4 := Nat.le_trans Z0 (Nat.le_of_eq g4.symm)
      have Zs4 : n0 ≤ h4.size := Nat.le_trans Z0 E4.1
      refine own_byW (V := T4.setTop (mkF m 33 #[.val (.int p0), .val (.int p1), .val (.int p2), .val (.int p3), .val (.int p4), .val (.int p5), .val (.int tt2), .val (.int nn2), .val (.int z3), .unset, .unset, .unset] [(.ref b4)])) st4 ?_
      refine own_byW (V := T4.setTop (mkF m 34 #[.val (.int p0), .val (.int p1), .val (.int p2), .val (.int p3), .val (.int p4), .val (.int p5), .val (.int tt2), .val (.int nn2), .val (.int z3), .unset, .unset, .unset] [(.ref b4), (.ref b4)])) (fun t k => XS.dup X4.here hx rfl (hb hby at_33) rfl rfl k) ?_
      refine own_byW (V := T4.setTop (mkF m 35 #[.val (.int p0), .val (.int p1), .val (.int p2), .val (.int p3), .val (.int p4), .val (.int p5), .val (.int tt2), .val (.int nn2), .val (.int z3), .unset, .unset, .unset] [(.int p0), (.ref b4), (.ref b4)])) (fun t k => XS.iloadN X4.here hx rfl (hb hby at_34) rfl  k) ?_
      obtain ⟨_, _, ⟨T13, Lq13, kq13, nq13⟩, -, X13, hs13, hg13, ⟨Lc13, ⟨hQ13, LSc13⟩, lq13, yq13, zq13⟩, st13⟩ := callSS X4 hx (y := (⟨"com/example/forec/forec/ConstantEqualsPinLaw", "str", "(I)Ljava/lang/String;"⟩ : MethodName)) hown (mvT hZ (hw _ (List.mem_of_getElem? (i := 3) rfl))) (mvT hZ (hw _ (List.mem_of_getElem? (i := 4) rfl))) (mvT hZ (hw _ (List.mem_of_getElem? (i := 5) rfl))) (mvT hZ (hw _ (List.mem_of_getElem? (i := 6) rfl))) (by decide) (own_backOfW (W := 2) (own_rstr l Z a0 hw [] p0 cs h4 n0 Zs4 hcs SS O4 hcH hcw) hZ LS6 (hw _ (List.mem_of_getElem? (i := 6) rfl)) (hw _ (List.mem_of_getElem? (i := 5) rfl)) (by decide) (by decide)) (g := (mkF m 35 #[.val (.int p0), .val (.int p1), .val (.int p2), .val (.int p3), .val (.int p4), .val (.int p5), .val (.int tt2), .val (.int nn2), .val (.int z3), .unset, .unset, .unset] [(.int p0), (.ref b4), (.ref b4)])) rfl (by rw [hml]; rfl) (argsL := [(.int p0)]) (rest := [(.ref b4), (.ref b4)]) (lenOf own_pd10 rfl) rfl (by show 2 * 0 + _ ≤ _; exact Nat.le_of_eq rfl) (hb hby at_35) (fun _ _ => ⟨rfl, e4, (by decide : 1 + 4 ≤ _), (by decide : 3 + 8 ≤ _)⟩)
      dsimp only [Pt.U, Pt.locs, Pt.cells, Pt.slots] at X13 lq13 yq13 zq13 st13 hQ13 hs13 hg13 LSc13
      subst lq13 yq13 zq13
      obtain ⟨X13, hS, hZ, hown⟩ := rebS hS (by rw [e4]; exact hk5) X13 hs13 hg13 hZ hown
      have LSb13 : own_LS Z (s.setVm T13.vm) T13.heap := LSc13
      have hk13 : T13.heap.size ≤ T13.heap.size := Nat.le_refl _
      obtain ⟨r13, b13, kb13, rfl, N13q, Kc13, hf13_r, g13_0, g13_1, g13_2, g13_3⟩ := hQ13
      have N13 := Fr.app N2 N13q
      have ne14 : b4 ≠ r13 := Nat.ne_of_lt (Nat.lt_of_lt_of_le A4.lt hf13_r)
      have gn13_r : n0 ≤ r13 := Nat.le_trans Zs4 hf13_r
      have f15 := A4.keep Kc13
      have f16 := f10.keep Kc13 nin0
      have f17 := f11.keep Kc13 nin0
      have f18 := f12.keep Kc13 nin0
      have O13 := O4.keep Kc13 all0
      have Zs13 : n0 ≤ T13.heap.size := Nat.le_trans Zs4 Kc13.1
      refine own_byW (V := T13.setTop (mkF m 38 #[.val (.int p0), .val (.int p1), .val (.int p2), .val (.int p3), .val (.int p4), .val (.int p5), .val (.int tt2), .val (.int nn2), .val (.int z3), .unset, .unset, .unset] [(.ref r13), (.ref b4), (.ref b4)])) (fun t k => st13.trans k) ?_
      refine own_byW (V := T13.setTop (mkF m 39 #[.val (.int p0), .val (.int p1), .val (.int p2), .val (.int p3), .val (.int p4), .val (.int p5), .val (.int tt2), .val (.int nn2), .val (.int z3), .unset, .unset, .unset] [(.int p1), (.ref r13), (.ref b4), (.ref b4)])) (fun t k => XS.iloadN X13.here hx rfl (hb hby at_38) rfl  k) ?_
      obtain ⟨_, _, ⟨T19, Lq19, kq19, nq19⟩, -, X19, hs19, hg19, ⟨Lc19, ⟨hQ19, LSc19⟩, lq19, yq19, zq19⟩, st19⟩ := callSS X13 hx (y := (⟨"com/example/forec/forec/ConstantEqualsPinLaw", "str", "(I)Ljava/lang/String;"⟩ : MethodName)) hown (mvT hZ (hw _ (List.mem_of_getElem? (i := 3) rfl))) (mvT hZ (hw _ (List.mem_of_getElem? (i := 4) rfl))) (mvT hZ (hw _ (List.mem_of_getElem? (i := 5) rfl))) (mvT hZ (hw _ (List.mem_of_getElem? (i := 6) rfl))) (by decide) (own_backOfW (W := 3) (own_rstr l Z a0 hw [] p1 cs T13.heap n0 Zs13 hcs SS O13 hcH hcw) hZ LSb13 (hw _ (List.mem_of_getElem? (i := 6) rfl)) (hw _ (List.mem_of_getElem? (i := 5) rfl)) (by decide) (by decide)) (g := (mkF m 39 #[.val (.int p0), .val (.int p1), .val (.int p2), .val (.int p3), .val (.int p4), .val (.int p5), .val (.int tt2), .val (.int nn2), .val (.int z3), .unset, .unset, .unset] [(.int p1), (.ref r13), (.ref b4), (.ref b4)])) rfl (by rw [hml]; rfl) (argsL := [(.int p1)]) (rest := [(.ref r13), (.ref b4), (.ref b4)]) (lenOf own_pd10 rfl) rfl (by show 2 * 0 + _ ≤ _; exact Nat.le_of_eq rfl) (hb hby at_39) (fun _ _ => ⟨rfl, rfl, (by decide : 5 + 4 ≤ _), (by decide : 11 + 8 ≤ _)⟩)
      dsimp only [Pt.U, Pt.locs, Pt.cells, Pt.slots] at X19 lq19 yq19 zq19 st19 hQ19 hs19 hg19 LSc19
      subst lq19 yq19 zq19
      obtain ⟨X19, hS, hZ, hown⟩ := rebS hS (by exact hk13) X19 hs19 hg19 hZ hown
      have LSb19 : own_LS Z (s.setVm T19.vm) T19.heap := LSc19
      have hk19 : T19.heap.size ≤ T19.heap.size := Nat.le_refl _
      obtain ⟨r19, b19, kb19, rfl, N19q, Kc19, hf19_r, g19_0, g19_1, g19_2, g19_3⟩ := hQ19
      have N19 := Fr.app N13 N19q
      have ne20 : b4 ≠ r19 := Nat.ne_of_lt (Nat.lt_of_lt_of_le f15.lt hf19_r)
      have ne21 : r13 ≠ r19 := Nat.ne_of_lt (Nat.lt_of_lt_of_le g13_0.lt hf19_r)
      have ne22 : b13 ≠ r19 := Nat.ne_of_lt (Nat.lt_of_lt_of_le g13_3.lt hf19_r)
      have gn19_r : n0 ≤ r19 := Nat.le_trans Zs13 hf19_r
      have f23 := f15.keep Kc19
      have f24 := f16.keep Kc19 nin0
      have f25 := f17.keep Kc19 nin0
      have f26 := f18.keep Kc19 nin0
      have f27 := g13_0.keep Kc19
      have f28 := g13_1.keep Kc19 nin0
      have f29 := g13_2.keep Kc19 nin0
      have f30 := g13_3.keep Kc19 nin0
      have O19 := O13.keep Kc19 all0
      have Zs19 : n0 ≤ T19.heap.size := Nat.le_trans Zs13 Kc19.1
      refine own_byW (V := T19.setTop (mkF m 42 #[.val (.int p0), .val (.int p1), .val (.int p2), .val (.int p3), .val (.int p4), .val (.int p5), .val (.int tt2), .val (.int nn2), .val (.int z3), .unset, .unset, .unset] [(.ref r19), (.ref r13), (.ref b4), (.ref b4)])) (fun t k => st19.trans k) ?_
      refine own_byW (V := T19.setTop (mkF m 44 #[.val (.int p0), .val (.int p1), .val (.int p2), .val (.int p3), .val (.int p4), .val (.int p5), .val (.int tt2), .val (.int nn2), .val (.int z3), .unset, .unset, .unset] [(.int p4), (.ref r19), (.ref r13), (.ref b4), (.ref b4)])) (fun t k => XS.iload X19.here hx rfl (hb hby at_42) rfl  k) ?_
      obtain ⟨_, _, ⟨T31, Lq31, kq31, nq31⟩, -, X31, ⟨Lc31, hQ31, lq31, yq31, zq31⟩, st31⟩ := X19.specialBack hx (y := (⟨"com/example/forec/forec/Value$Constant", "<init>", "(Ljava/lang/String;Ljava/lang/String;I)V"⟩ : MethodName)) rfl hown (mvT hZ (hw _ (List.mem_of_getElem? (i := 32) rfl))) (mvT hZ (hw _ (List.mem_of_getElem? (i := 33) rfl))) (mvT hZ (hw _ (List.mem_of_getElem? (i := 34) rfl))) (by decide) (backOf (W := 1) (own_cinit l Z a0 hw [] b4 r13 r19 p4 T19.heap n0 Zs19 gn4 f23 f24 f25 f26 f27 g19_0) hZ (hw _ (List.mem_of_getElem? (i := 34) rfl)) (hw _ (List.mem_of_getElem? (i := 2) rfl)) (by decide) (by decide)) (g := (mkF m 44 #[.val (.int p0), .val (.int p1), .val (.int p2), .val (.int p3), .val (.int p4), .val (.int p5), .val (.int tt2), .val (.int nn2), .val (.int z3), .unset, .unset, .unset] [(.int p4), (.ref r19), (.ref r13), (.ref b4), (.ref b4)])) rfl (by rw [hml]; rfl) (Steps.refl _) (a := b4) (argsL := [(.ref r13), (.ref r19), (.int p4)]) (rest := [(.ref b4)]) (lenOf own_pd11 rfl) rfl (by show 2 * 0 + _ ≤ _; exact Nat.le_of_eq rfl) (hb hby at_44) (fun _ _ => ⟨rfl, rfl, (by decide : 9 + 0 ≤ _), (by decide : 19 + 0 ≤ _)⟩)
      dsimp only [Pt.U, Pt.locs, Pt.cells, Pt.slots] at X31 lq31 yq31 zq31 st31 hQ31
      subst lq31 yq31 zq31
      obtain ⟨rfl, N31q, Kc31, Ec31, g31_0, g31_1, g31_2⟩ := hQ31
      have N31 := Fr.app N19 N31q
      have hk32 := Nat.le_trans hk19 Kc31.1
      have LS33 := own_ls_keep LSb19 Kc31 f23 (by decide) (hw _ (List.mem_of_getElem? (i := 1) rfl))
      have f34 := f27.keep Kc31
      have f35 := f28.keep Kc31 (ninS (Ne.symm ne14) nin0)
      have f36 := f29.keep Kc31 (ninS (Ne.symm ne14) nin0)
      have f37 := f30.keep Kc31 (ninS (Ne.symm (Exa.neArv f23 f30 (hw _ (List.mem_of_getElem? (i := 1) rfl)))) nin0)
      have f38 := g19_0.keep Kc31
      have f39 := g19_1.keep Kc31 (ninS (Ne.symm ne20) nin0)
      have f40 := g19_2.keep Kc31 (ninS (Ne.symm ne20) nin0)
      have f41 := g19_3.keep Kc31 (ninS (Ne.symm (Exa.neArv f23 g19_3 (hw _ (List.mem_of_getElem? (i := 1) rfl)))) nin0)
      have O31 := O19.keep Kc31 (allS gn4 all0)
      have Zs31 : n0 ≤ T31.heap.size := Nat.le_trans Zs19 Kc31.1
      refine own_byW (V := T31.setTop (mkF m 47 #[.val (.int p0), .val (.int p1), .val (.int p2), .val (.int p3), .val (.int p4), .val (.int p5), .val (.int tt2), .val (.int nn2), .val (.int z3), .unset, .unset, .unset] [(.ref b4)])) (fun t k => st31.trans k) ?_
      refine own_byW (V := T31.setTop (mkF m 49 #[.val (.int p0), .val (.int p1), .val (.int p2), .val (.int p3), .val (.int p4), .val (.int p5), .val (.int tt2), .val (.int nn2), .val (.int z3), .val (.ref b4), .unset, .unset] [])) (fun t k => XS.astore X31.here hx rfl (hb hby at_47) rfl rfl (l' := #[.val (.int p0), .val (.int p1), .val (.int p2), .val (.int p3), .val (.int p4), .val (.int p5), .val (.int tt2), .val (.int nn2), .val (.int z3), .val (.ref b4), .unset, .unset]) rfl k) ?_
      refine own_byW (V := T31.setTop (mkF m 51 #[.val (.int p0), .val (.int p1), .val (.int p2), .val (.int p3), .val (.int p4), .val (.int p5), .val (.int tt2), .val (.int nn2), .val (.int z3), .val (.ref b4), .unset, .unset] [(.int z3)])) (fun t k => XS.iload X31.here hx rfl (hb hby at_49) rfl  k) ?_
      by_cases hb51_42 : z3 = (0 : Int32)
      · refine own_byW (V := T31.setTop (mkF m 54 #[.val (.int p0), .val (.int p1), .val (.int p2), .val (.int p3), .val (.int p4), .val (.int p5), .val (.int tt2), .val (.int nn2), .val (.int z3), .val (.ref b4), .unset, .unset] [])) (fun t k => XS.ifNo X31.here hx rfl (hb hby at_51) rfl ((if0 _ _).trans (teq hb51_42).2) k) ?_
        obtain ⟨T43, h43, X43, e43, E43, A43, D43, -, st43⟩ := newO X31 hx hZ hown (hw _ (List.mem_of_getElem? (i := 0) rfl)) (hw _ (List.mem_of_getElem? (i := 1) rfl)) (hw _ (List.mem_of_getElem? (i := 2) rfl)) rfl (g := (mkF m 54 #[.val (.int p0), .val (.int p1), .val (.int p2), .val (.int p3), .val (.int p4), .val (.int p5), .val (.int tt2), .val (.int nn2), .val (.int z3), .val (.ref b4), .unset, .unset] [])) rfl (hb hby at_54) (by decide) (by decide)
        obtain ⟨b43, g43⟩ : ∃ z, z = T31.heap.size := ⟨_, rfl⟩
        rw [← g43] at A43 D43 st43
        have ne44 : b4 ≠ b43 := Nat.ne_of_lt (Nat.lt_of_lt_of_le Ec31.lt (Nat.le_of_eq g43.symm))
        have ne45 : r13 ≠ b43 := Nat.ne_of_lt (Nat.lt_of_lt_of_le f34.lt (Nat.le_of_eq g43.symm))
        have ne46 : b13 ≠ b43 := Nat.ne_of_lt (Nat.lt_of_lt_of_le f37.lt (Nat.le_of_eq g43.symm))
        have ne47 : r19 ≠ b43 := Nat.ne_of_lt (Nat.lt_of_lt_of_le f38.lt (Nat.le_of_eq g43.symm))
        have ne48 : b19 ≠ b43 := Nat.ne_of_lt (Nat.lt_of_lt_of_le f41.lt (Nat.le_of_eq g43.symm))
        have hk49 := Nat.le_trans hk32 E43.1
        have LS50 := own_ls_ext LS33 E43
        have f53 := Ec31.ext E43
        have f54 := g31_0.ext E43
        have f55 := g31_1.ext E43
        have f56 := g31_2.ext E43
        have f60 := f34.ext E43
        have f61 := f35.ext E43
        have f62 := f36.ext E43
        have f63 := f37.ext E43
        have f68 := f38.ext E43
        have f69 := f39.ext E43
        have f70 := f40.ext E43
        have f71 := f41.ext E43
        have O43 := O31.ext E43
        have f78 : Fld Z h43 b43 "com/example/forec/forec/Value$Constant" "type" "Ljava/lang/String;" .null := D43 (Or.inr (hw _ (List.mem_of_getElem? (i := 42) rfl))) (ty := (.object "java/lang/String")) (by decide)
        have f79 : Fld Z h43 b43 "com/example/forec/forec/Value$Constant" "name" "Ljava/lang/String;" .null := D43 (Or.inr (hw _ (List.mem_of_getElem? (i := 44) rfl))) (ty := (.object "java/lang/String")) (by decide)
        have f80 : Fld Z h43 b43 "com/example/forec/forec/Value$Constant" "position" "I" (.int (0 : Int32)) := D43 (Or.inr (hw _ (List.mem_of_getElem? (i := 46) rfl))) (ty := .int) (by decide)
        have gn43 : n0 ≤ b43 := Nat.le_trans Zs31 (Nat.le_of_eq g43.symm)
        have Zs43 : n0 ≤ h43.size := Nat.le_trans Zs31 E43.1
        refine own_byW (V := T43.setTop (mkF m 57 #[.val (.int p0), .val (.int p1), .val (.int p2), .val (.int p3), .val (.int p4), .val (.int p5), .val (.int tt2), .val (.int nn2), .val (.int z3), .val (.ref b4), .unset, .unset] [(.ref b43)])) st43 ?_
        refine own_byW (V := T43.setTop (mkF m 58 #[.val (.int p0), .val (.int p1), .val (.int p2), .val (.int p3), .val (.int p4), .val (.int p5), .val (.int tt2), .val (.int nn2), .val (.int z3), .val (.ref b4), .unset, .unset] [(.ref b43), (.ref b43)])) (fun t k => XS.dup X43.here hx rfl (hb hby at_57) rfl rfl k) ?_
        refine own_byW (V := T43.setTop (mkF m 60 #[.val (.int p0), .val (.int p1), .val (.int p2), .val (.int p3), .val (.int p4), .val (.int p5), .val (.int tt2), .val (.int nn2), .val (.int z3), .val (.ref b4), .unset, .unset] [(.int tt2), (.ref b43), (.ref b43)])) (fun t k => XS.iload X43.here hx rfl (hb hby at_58) rfl  k) ?_
        obtain ⟨_, _, ⟨T81, Lq81, kq81, nq81⟩, -, X81, hs81, hg81, ⟨Lc81, ⟨hQ81, LSc81⟩, lq81, yq81, zq81⟩, st81⟩ := callSS X43 hx (y := (⟨"com/example/forec/forec/ConstantEqualsPinLaw", "str", "(I)Ljava/lang/String;"⟩ : MethodName)) hown (mvT hZ (hw _ (List.mem_of_getElem? (i := 3) rfl))) (mvT hZ (hw _ (List.mem_of_getElem? (i := 4) rfl))) (mvT hZ (hw _ (List.mem_of_getElem? (i := 5) rfl))) (mvT hZ (hw _ (List.mem_of_getElem? (i := 6) rfl))) (by decide) (own_backOfW (W := 2) (own_rstr l Z a0 hw [] tt2 cs h43 n0 Zs43 hcs SS O43 hcH hcw) hZ LS50 (hw _ (List.mem_of_getElem? (i := 6) rfl)) (hw _ (List.mem_of_getElem? (i := 5) rfl)) (by decide) (by decide)) (g := (mkF m 60 #[.val (.int p0), .val (.int p1), .val (.int p2), .val (.int p3), .val (.int p4), .val (.int p5), .val (.int tt2), .val (.int nn2), .val (.int z3), .val (.ref b4), .unset, .unset] [(.int tt2), (.ref b43), (.ref b43)])) rfl (by rw [hml]; rfl) (argsL := [(.int tt2)]) (rest := [(.ref b43), (.ref b43)]) (lenOf own_pd10 rfl) rfl (by show 2 * 0 + _ ≤ _; exact Nat.le_of_eq rfl) (hb hby at_60) (fun _ _ => ⟨rfl, e43, (by decide : 10 + 4 ≤ _), (by decide : 22 + 8 ≤ _)⟩)
        dsimp only [Pt.U, Pt.locs, Pt.cells, Pt.slots] at X81 lq81 yq81 zq81 st81 hQ81 hs81 hg81 LSc81
        subst lq81 yq81 zq81
        obtain ⟨X81, hS, hZ, hown⟩ := rebS hS (by rw [e43]; exact hk49) X81 hs81 hg81 hZ hown
        have LSb81 : own_LS Z (s.setVm T81.vm) T81.heap := LSc81
        have hk81 : T81.heap.size ≤ T81.heap.size := Nat.le_refl _
        obtain ⟨r81, b81, kb81, rfl, N81q, Kc81, hf81_r, g81_0, g81_1, g81_2, g81_3⟩ := hQ81
        have N81 := Fr.app N31 N81q
        have ne82 : b4 ≠ r81 := Nat.ne_of_lt (Nat.lt_of_lt_of_le f53.lt hf81_r)
        have ne83 : r13 ≠ r81 := Nat.ne_of_lt (Nat.lt_of_lt_of_le f60.lt hf81_r)
        have ne84 : b13 ≠ r81 := Nat.ne_of_lt (Nat.lt_of_lt_of_le f63.lt hf81_r)
        have ne85 : r19 ≠ r81 := Nat.ne_of_lt (Nat.lt_of_lt_of_le f68.lt hf81_r)
        have ne86 : b19 ≠ r81 := Nat.ne_of_lt (Nat.lt_of_lt_of_le f71.lt hf81_r)
        have ne87 : b43 ≠ r81 := Nat.ne_of_lt (Nat.lt_of_lt_of_le A43.lt hf81_r)
        have gn81_r : n0 ≤ r81 := Nat.le_trans Zs43 hf81_r
        have f88 := f53.keep Kc81
        have f89 := f54.keep Kc81 nin0
        have f90 := f55.keep Kc81 nin0
        have f91 := f56.keep Kc81 nin0
        have f92 := f60.keep Kc81
        have f93 := f61.keep Kc81 nin0
        have f94 := f62.keep Kc81 nin0
        have f95 := f63.keep Kc81 nin0
        have f96 := f68.keep Kc81
        have f97 := f69.keep Kc81 nin0
        have f98 := f70.keep Kc81 nin0
        have f99 := f71.keep Kc81 nin0
        have f100 := A43.keep Kc81
        have f101 := f78.keep Kc81 nin0
        have f102 := f79.keep Kc81 nin0
        have f103 := f80.keep Kc81 nin0
        have O81 := O43.keep Kc81 all0
        have Zs81 : n0 ≤ T81.heap.size := Nat.le_trans Zs43 Kc81.1
        refine own_byW (V := T81.setTop (mkF m 63 #[.val (.int p0), .val (.int p1), .val (.int p2), .val (.int p3), .val (.int p4), .val (.int p5), .val (.int tt2), .val (.int nn2), .val (.int z3), .val (.ref b4), .unset, .unset] [(.ref r81), (.ref b43), (.ref b43)])) (fun t k => st81.trans k) ?_
        refine own_byW (V := T81.setTop (mkF m 65 #[.val (.int p0), .val (.int p1), .val (.int p2), .val (.int p3), .val (.int p4), .val (.int p5), .val (.int tt2), .val (.int nn2), .val (.int z3), .val (.ref b4), .unset, .unset] [(.int nn2), (.ref r81), (.ref b43), (.ref b43)])) (fun t k => XS.iload X81.here hx rfl (hb hby at_63) rfl  k) ?_
        obtain ⟨_, _, ⟨T104, Lq104, kq104, nq104⟩, -, X104, hs104, hg104, ⟨Lc104, ⟨hQ104, LSc104⟩, lq104, yq104, zq104⟩, st104⟩ := callSS X81 hx (y := (⟨"com/example/forec/forec/ConstantEqualsPinLaw", "str", "(I)Ljava/lang/String;"⟩ : MethodName)) hown (mvT hZ (hw _ (List.mem_of_getElem? (i := 3) rfl))) (mvT hZ (hw _ (List.mem_of_getElem? (i := 4) rfl))) (mvT hZ (hw _ (List.mem_of_getElem? (i := 5) rfl))) (mvT hZ (hw _ (List.mem_of_getElem? (i := 6) rfl))) (by decide) (own_backOfW (W := 3) (own_rstr l Z a0 hw [] nn2 cs T81.heap n0 Zs81 hcs SS O81 hcH hcw) hZ LSb81 (hw _ (List.mem_of_getElem? (i := 6) rfl)) (hw _ (List.mem_of_getElem? (i := 5) rfl)) (by decide) (by decide)) (g := (mkF m 65 #[.val (.int p0), .val (.int p1), .val (.int p2), .val (.int p3), .val (.int p4), .val (.int p5), .val (.int tt2), .val (.int nn2), .val (.int z3), .val (.ref b4), .unset, .unset] [(.int nn2), (.ref r81), (.ref b43), (.ref b43)])) rfl (by rw [hml]; rfl) (argsL := [(.int nn2)]) (rest := [(.ref r81), (.ref b43), (.ref b43)]) (lenOf own_pd10 rfl) rfl (by show 2 * 0 + _ ≤ _; exact Nat.le_of_eq rfl) (hb hby at_65) (fun _ _ => ⟨rfl, rfl, (by decide : 14 + 4 ≤ _), (by decide : 30 + 8 ≤ _)⟩)
        dsimp only [Pt.U, Pt.locs, Pt.cells, Pt.slots] at X104 lq104 yq104 zq104 st104 hQ104 hs104 hg104 LSc104
        subst lq104 yq104 zq104
        obtain ⟨X104, hS, hZ, hown⟩ := rebS hS (by exact hk81) X104 hs104 hg104 hZ hown
        have LSb104 : own_LS Z (s.setVm T104.vm) T104.heap := LSc104
        have hk104 : T104.heap.size ≤ T104.heap.size := Nat.le_refl _
        obtain ⟨r104, b104, kb104, rfl, N104q, Kc104, hf104_r, g104_0, g104_1, g104_2, g104_3⟩ := hQ104
        have N104 := Fr.app N81 N104q
        have ne105 : b4 ≠ r104 := Nat.ne_of_lt (Nat.lt_of_lt_of_le f88.lt hf104_r)
        have ne106 : r13 ≠ r104 := Nat.ne_of_lt (Nat.lt_of_lt_of_le f92.lt hf104_r)
        have ne107 : b13 ≠ r104 := Nat.ne_of_lt (Nat.lt_of_lt_of_le f95.lt hf104_r)
        have ne108 : r19 ≠ r104 := Nat.ne_of_lt (Nat.lt_of_lt_of_le f96.lt hf104_r)
        have ne109 : b19 ≠ r104 := Nat.ne_of_lt (Nat.lt_of_lt_of_le f99.lt hf104_r)
        have ne110 : b43 ≠ r104 := Nat.ne_of_lt (Nat.lt_of_lt_of_le f100.lt hf104_r)
        have ne111 : r81 ≠ r104 := Nat.ne_of_lt (Nat.lt_of_lt_of_le g81_0.lt hf104_r)
        have ne112 : b81 ≠ r104 := Nat.ne_of_lt (Nat.lt_of_lt_of_le g81_3.lt hf104_r)
        have gn104_r : n0 ≤ r104 := Nat.le_trans Zs81 hf104_r
        have f113 := f88.keep Kc104
        have f114 := f89.keep Kc104 nin0
        have f115 := f90.keep Kc104 nin0
        have f116 := f91.keep Kc104 nin0
        have f117 := f92.keep Kc104
        have f118 := f93.keep Kc104 nin0
        have f119 := f94.keep Kc104 nin0
        have f120 := f95.keep Kc104 nin0
        have f121 := f96.keep Kc104
        have f122 := f97.keep Kc104 nin0
        have f123 := f98.keep Kc104 nin0
        have f124 := f99.keep Kc104 nin0
        have f125 := f100.keep Kc104
        have f126 := f101.keep Kc104 nin0
        have f127 := f102.keep Kc104 nin0
        have f128 := f103.keep Kc104 nin0
        have f129 := g81_0.keep Kc104
        have f130 := g81_1.keep Kc104 nin0
        have f131 := g81_2.keep Kc104 nin0
        have f132 := g81_3.keep Kc104 nin0
        have O104 := O81.keep Kc104 all0
        have Zs104 : n0 ≤ T104.heap.size := Nat.le_trans Zs81 Kc104.1
        refine own_byW (V := T104.setTop (mkF m 68 #[.val (.int p0), .val (.int p1), .val (.int p2), .val (.int p3), .val (.int p4), .val (.int p5), .val (.int tt2), .val (.int nn2), .val (.int z3), .val (.ref b4), .unset, .unset] [(.ref r104), (.ref r81), (.ref b43), (.ref b43)])) (fun t k => st104.trans k) ?_
        refine own_byW (V := T104.setTop (mkF m 70 #[.val (.int p0), .val (.int p1), .val (.int p2), .val (.int p3), .val (.int p4), .val (.int p5), .val (.int tt2), .val (.int nn2), .val (.int z3), .val (.ref b4), .unset, .unset] [(.int p5), (.ref r104), (.ref r81), (.ref b43), (.ref b43)])) (fun t k => XS.iload X104.here hx rfl (hb hby at_68) rfl  k) ?_
        obtain ⟨_, _, ⟨T133, Lq133, kq133, nq133⟩, -, X133, ⟨Lc133, hQ133, lq133, yq133, zq133⟩, st133⟩ := X104.specialBack hx (y := (⟨"com/example/forec/forec/Value$Constant", "<init>", "(Ljava/lang/String;Ljava/lang/String;I)V"⟩ : MethodName)) rfl hown (mvT hZ (hw _ (List.mem_of_getElem? (i := 32) rfl))) (mvT hZ (hw _ (List.mem_of_getElem? (i := 33) rfl))) (mvT hZ (hw _ (List.mem_of_getElem? (i := 34) rfl))) (by decide) (backOf (W := 1) (own_cinit l Z a0 hw [] b43 r81 r104 p5 T104.heap n0 Zs104 gn43 f125 f126 f127 f128 f129 g104_0) hZ (hw _ (List.mem_of_getElem? (i := 34) rfl)) (hw _ (List.mem_of_getElem? (i := 2) rfl)) (by decide) (by decide)) (g := (mkF m 70 #[.val (.int p0), .val (.int p1), .val (.int p2), .val (.int p3), .val (.int p4), .val (.int p5), .val (.int tt2), .val (.int nn2), .val (.int z3), .val (.ref b4), .unset, .unset] [(.int p5), (.ref r104), (.ref r81), (.ref b43), (.ref b43)])) rfl (by rw [hml]; rfl) (Steps.refl _) (a := b43) (argsL := [(.ref r81), (.ref r104), (.int p5)]) (rest := [(.ref b43)]) (lenOf own_pd11 rfl) rfl (by show 2 * 0 + _ ≤ _; exact Nat.le_of_eq rfl) (hb hby at_70) (fun _ _ => ⟨rfl, rfl, (by decide : 18 + 0 ≤ _), (by decide : 38 + 0 ≤ _)⟩)
        dsimp only [Pt.U, Pt.locs, Pt.cells, Pt.slots] at X133 lq133 yq133 zq133 st133 hQ133
        subst lq133 yq133 zq133
        obtain ⟨rfl, N133q, Kc133, Ec133, g133_0, g133_1, g133_2⟩ := hQ133
        have N133 := Fr.app N104 N133q
        have hk134 := Nat.le_trans hk104 Kc133.1
        have LS135 := own_ls_keep LSb104 Kc133 f125 (by decide) (hw _ (List.mem_of_getElem? (i := 1) rfl))
        have f136 := f113.keep Kc133
        have f137 := f114.keep Kc133 (ninS ne44 nin0)
        have f138 := f115.keep Kc133 (ninS ne44 nin0)
        have f139 := f116.keep Kc133 (ninS ne44 nin0)
        have f140 := f117.keep Kc133
        have f141 := f118.keep Kc133 (ninS ne45 nin0)
        have f142 := f119.keep Kc133 (ninS ne45 nin0)
        have f143 := f120.keep Kc133 (ninS ne46 nin0)
        have f144 := f121.keep Kc133
        have f145 := f122.keep Kc133 (ninS ne47 nin0)
        have f146 := f123.keep Kc133 (ninS ne47 nin0)
        have f147 := f124.keep Kc133 (ninS ne48 nin0)
        have f148 := f129.keep Kc133
        have f149 := f130.keep Kc133 (ninS (Ne.symm ne87) nin0)
        have f150 := f131.keep Kc133 (ninS (Ne.symm ne87) nin0)
        have f151 := f132.keep Kc133 (ninS (Ne.symm (Exa.neArv f125 f132 (hw _ (List.mem_of_getElem? (i := 1) rfl)))) nin0)
        have f152 := g104_0.keep Kc133
        have f153 := g104_1.keep Kc133 (ninS (Ne.symm ne110) nin0)
        have f154 := g104_2.keep Kc133 (ninS (Ne.symm ne110) nin0)
        have f155 := g104_3.keep Kc133 (ninS (Ne.symm (Exa.neArv f125 g104_3 (hw _ (List.mem_of_getElem? (i := 1) rfl)))) nin0)
        have O133 := O104.keep Kc133 (allS gn43 all0)
        have Zs133 : n0 ≤ T133.heap.size := Nat.le_trans Zs104 Kc133.1
        refine own_byW (V := T133.setTop (mkF m 73 #[.val (.int p0), .val (.int p1), .val (.int p2), .val (.int p3), .val (.int p4), .val (.int p5), .val (.int tt2), .val (.int nn2), .val (.int z3), .val (.ref b4), .unset, .unset] [(.ref b43)])) (fun t k => st133.trans k) ?_
        refine own_byW (V := T133.setTop (mkF m 75 #[.val (.int p0), .val (.int p1), .val (.int p2), .val (.int p3), .val (.int p4), .val (.int p5), .val (.int tt2), .val (.int nn2), .val (.int z3), .val (.ref b4), .val (.ref b43), .unset] [])) (fun t k => XS.astore X133.here hx rfl (hb hby at_73) rfl rfl (l' := #[.val (.int p0), .val (.int p1), .val (.int p2), .val (.int p3), .val (.int p4), .val (.int p5), .val (.int tt2), .val (.int nn2), .val (.int z3), .val (.ref b4), .val (.ref b43), .unset]) rfl k) ?_
        refine own_byW (V := T133.setTop (mkF m 76 #[.val (.int p0), .val (.int p1), .val (.int p2), .val (.int p3), .val (.int p4), .val (.int p5), .val (.int tt2), .val (.int nn2), .val (.int z3), .val (.ref b4), .val (.ref b43), .unset] [(.int p0)])) (fun t k => XS.iloadN X133.here hx rfl (hb hby at_75) rfl  k) ?_
        refine own_byW (V := T133.setTop (mkF m 78 #[.val (.int p0), .val (.int p1), .val (.int p2), .val (.int p3), .val (.int p4), .val (.int p5), .val (.int tt2), .val (.int nn2), .val (.int z3), .val (.ref b4), .val (.ref b43), .unset] [(.int tt2), (.int p0)])) (fun t k => XS.iload X133.here hx rfl (hb hby at_76) rfl  k) ?_
        obtain ⟨_, _, ⟨T156, Lq156, kq156, nq156⟩, -, X156, ⟨Lc156, hQ156, lq156, yq156, zq156⟩, st156⟩ := Jvm.LawKit.callS X133 hx (y := (⟨"com/example/forec/forec/ConstantEqualsPinLaw", "same", "(II)Z"⟩ : MethodName)) hown (mvT hZ (hw _ (List.mem_of_getElem? (i := 64) rfl))) (mvT hZ (hw _ (List.mem_of_getElem? (i := 65) rfl))) (mvT hZ (hw _ (List.mem_of_getElem? (i := 5) rfl))) (mvT hZ (hw _ (List.mem_of_getElem? (i := 66) rfl))) (by decide) (backOf (W := 0) (own_rsame l Z a0 hw [] p0 tt2 T133.heap n0) hZ (hw _ (List.mem_of_getElem? (i := 66) rfl)) (hw _ (List.mem_of_getElem? (i := 5) rfl)) (by decide) (by decide)) (g := (mkF m 78 #[.val (.int p0), .val (.int p1), .val (.int p2), .val (.int p3), .val (.int p4), .val (.int p5), .val (.int tt2), .val (.int nn2), .val (.int z3), .val (.ref b4), .val (.ref b43), .unset] [(.int tt2), (.int p0)])) rfl (by rw [hml]; rfl) (argsL := [(.int p0), (.int tt2)]) (rest := []) (lenOf own_pd12 rfl) rfl (by show 2 * 0 + _ ≤ _; exact Nat.le_of_eq rfl) (hb hby at_78) (fun _ _ => ⟨rfl, rfl, (by decide : 18 + 0 ≤ _), (by decide : 38 + 0 ≤ _)⟩)
        dsimp only [Pt.U, Pt.locs, Pt.cells, Pt.slots] at X156 lq156 yq156 zq156 st156 hQ156
        subst lq156 yq156 zq156
        obtain ⟨rfl, N156q, e156⟩ := hQ156
        have N156 := Fr.app N133 N156q
        refine own_byW (V := T156.setTop (mkF m 81 #[.val (.int p0), .val (.int p1), .val (.int p2), .val (.int p3), .val (.int p4), .val (.int p5), .val (.int tt2), .val (.int nn2), .val (.int z3), .val (.ref b4), .val (.ref b43), .unset] [(.int (own_same p0 tt2))])) st156 ?_
        have J157 : ∀ (T157 : State) (l157 : List Loc) (v11 : Int32) (X157 : Stand p l e room_1 (s.setVm T104.vm) m #[(.int p0), (.int p1), (.int p2), (.int p3), (.int p4), (.int p5)] below meth c T157 l157 18 38) (e157 : T157.heap = T133.heap) (N157 : Fr n0 l157) (hv11 : v11 = own_both (own_same p0 tt2) (own_same p1 nn2)), own_EndsW p e below s Z (own_Q_own_rm0 Z p0 p1 p2 p3 p4 p5 h0 n0) room_1.cells room_1.slots (T157.setTop (mkF m 98 #[.val (.int p0), .val (.int p1), .val (.int p2), .val (.int p3), .val (.int p4), .val (.int p5), .val (.int tt2), .val (.int nn2), .val (.int z3), .val (.ref b4), .val (.ref b43), .unset] [(.int v11)])) := by
          intro T157 l157 v11 X157 e157 N157 hv11
          refine own_byW (V := T157.setTop (mkF m 100 #[.val (.int p0), .val (.int p1), .val (.int p2), .val (.int p3), .val (.int p4), .val (.int p5), .val (.int tt2), .val (.int nn2), .val (.int z3), .val (.ref b4), .val (.ref b43), .val (.int v11)] [])) (fun t k => XS.istore X157.here hx rfl (hb hby at_98) rfl (l' := #[.val (.int p0), .val (.int p1), .val (.int p2), .val (.int p3), .val (.int p4), .val (.int p5), .val (.int tt2), .val (.int nn2), .val (.int z3), .val (.ref b4), .val (.ref b43), .val (.int v11)]) rfl k) ?_
          refine own_byW (V := T157.setTop (mkF m 102 #[.val (.int p0), .val (.int p1), .val (.int p2), .val (.int p3), .val (.int p4), .val (.int p5), .val (.int tt2), .val (.int nn2), .val (.int z3), .val (.ref b4), .val (.ref b43), .val (.int v11)] [(.ref b4)])) (fun t k => XS.aload X157.here hx rfl (hb hby at_100) rfl rfl k) ?_
          refine own_byW (V := T157.setTop (mkF m 104 #[.val (.int p0), .val (.int p1), .val (.int p2), .val (.int p3), .val (.int p4), .val (.int p5), .val (.int tt2), .val (.int nn2), .val (.int z3), .val (.ref b4), .val (.ref b43), .val (.int v11)] [(.ref b43), (.ref b4)])) (fun t k => XS.aload X157.here hx rfl (hb hby at_102) rfl rfl k) ?_
          obtain ⟨cq159, kq159, q159a, q159b, q159c⟩ := isOf hZ e157 f136
          obtain ⟨_, _, ⟨T158, Lq158, kq158, nq158⟩, -, X158, ⟨Lc158, hQ158, lq158, yq158, zq158⟩, st158⟩ := X157.virtualBack hx (y := (⟨"com/example/forec/forec/Value$Constant", "equals", "(Ljava/lang/Object;)Z"⟩ : MethodName)) (z := (⟨"com/example/forec/forec/Value$Constant", "equals", "(Ljava/lang/Object;)Z"⟩ : MethodName)) hown (mvT hZ (hw _ (List.mem_of_getElem? (i := 67) rfl))) (mvT hZ (hw _ (List.mem_of_getElem? (i := 68) rfl))) (notFace_of_selects (args := #[]) (mvT hZ (hw _ (List.mem_of_getElem? (i := 70) rfl)))) (mvT hZ (hw _ (List.mem_of_getElem? (i := 70) rfl))) (mvT hZ (hw _ (List.mem_of_getElem? (i := 69) rfl))) (by decide) (backOf (W := 0) (own_coneq l Z a0 hw [] b4 b43 cs r13 b13 kb13 p0 r19 b19 kb19 p1 r81 b81 kb81 tt2 r104 b104 kb104 nn2 T133.heap n0 (SS.ext O133.2) hcs f137 f140 f141 f142 f143 f138 f144 f145 f146 f147 g133_0 f148 f149 f150 f151 g133_1 f152 f153 f154 f155 Ec133 ne83 ne108) hZ (hw _ (List.mem_of_getElem? (i := 71) rfl)) (hw _ (List.mem_of_getElem? (i := 2) rfl)) (by decide) (by decide)) q159a q159c (g := (mkF m 104 #[.val (.int p0), .val (.int p1), .val (.int p2), .val (.int p3), .val (.int p4), .val (.int p5), .val (.int tt2), .val (.int nn2), .val (.int z3), .val (.ref b4), .val (.ref b43), .val (.int v11)] [(.ref b43), (.ref b4)])) rfl (by rw [hml]; rfl) (Steps.refl _) (argsL := [(.ref b43)]) (rest := []) (lenOf own_pd9 rfl) rfl (by show 2 * 0 + _ ≤ _; exact Nat.le_of_eq rfl) (hb hby at_104) (fun _ _ => ⟨rfl, e157, (by decide : 18 + 0 ≤ _), (by decide : 38 + 0 ≤ _)⟩)
          dsimp only [Pt.U, Pt.locs, Pt.cells, Pt.slots] at X158 lq158 yq158 zq158 st158 hQ158
          subst lq158 yq158 zq158
          obtain ⟨rfl, N158q, e158⟩ := hQ158
          have N158 := Fr.app N157 N158q
          refine own_byW (V := T158.setTop (mkF m 107 #[.val (.int p0), .val (.int p1), .val (.int p2), .val (.int p3), .val (.int p4), .val (.int p5), .val (.int tt2), .val (.int nn2), .val (.int z3), .val (.ref b4), .val (.ref b43), .val (.int v11)] [(.int (own_both (own_same p0 tt2) (own_same p1 nn2)))])) (fun t k => st158.trans k) ?_
          refine own_byW (V := T158.setTop (mkF m 109 #[.val (.int p0), .val (.int p1), .val (.int p2), .val (.int p3), .val (.int p4), .val (.int p5), .val (.int tt2), .val (.int nn2), .val (.int z3), .val (.ref b4), .val (.ref b43), .val (.int v11)] [(.int v11), (.int (own_both (own_same p0 tt2) (own_same p1 nn2)))])) (fun t k => XS.iload X158.here hx rfl (hb hby at_107) rfl  k) ?_
          have hb109_160 : ((own_both (own_same p0 tt2) (own_same p1 nn2)) = v11) := hv11.symm
          refine own_byW (V := T158.setTop (mkF m 112 #[.val (.int p0), .val (.int p1), .val (.int p2), .val (.int p3), .val (.int p4), .val (.int p5), .val (.int tt2), .val (.int nn2), .val (.int z3), .val (.ref b4), .val (.ref b43), .val (.int v11)] [])) (fun t k => XS.icmpNo X158.here hx rfl (hb hby at_109) rfl (teq hb109_160).2 k) ?_
          refine own_byW (V := T158.setTop (mkF m 114 #[.val (.int p0), .val (.int p1), .val (.int p2), .val (.int p3), .val (.int p4), .val (.int p5), .val (.int tt2), .val (.int nn2), .val (.int z3), .val (.ref b4), .val (.ref b43), .val (.int v11)] [(.ref b43)])) (fun t k => XS.aload X158.here hx rfl (hb hby at_112) rfl rfl k) ?_
          refine own_byW (V := T158.setTop (mkF m 116 #[.val (.int p0), .val (.int p1), .val (.int p2), .val (.int p3), .val (.int p4), .val (.int p5), .val (.int tt2), .val (.int nn2), .val (.int z3), .val (.ref b4), .val (.ref b43), .val (.int v11)] [(.ref b4), (.ref b43)])) (fun t k => XS.aload X158.here hx rfl (hb hby at_114) rfl rfl k) ?_
          obtain ⟨cq162, kq162, q162a, q162b, q162c⟩ := isOf hZ e158 Ec133
          obtain ⟨_, _, ⟨T161, Lq161, kq161, nq161⟩, -, X161, ⟨Lc161, hQ161, lq161, yq161, zq161⟩, st161⟩ := X158.virtualBack hx (y := (⟨"com/example/forec/forec/Value$Constant", "equals", "(Ljava/lang/Object;)Z"⟩ : MethodName)) (z := (⟨"com/example/forec/forec/Value$Constant", "equals", "(Ljava/lang/Object;)Z"⟩ : MethodName)) hown (mvT hZ (hw _ (List.mem_of_getElem? (i := 67) rfl))) (mvT hZ (hw _ (List.mem_of_getElem? (i := 68) rfl))) (notFace_of_selects (args := #[]) (mvT hZ (hw _ (List.mem_of_getElem? (i := 70) rfl)))) (mvT hZ (hw _ (List.mem_of_getElem? (i := 70) rfl))) (mvT hZ (hw _ (List.mem_of_getElem? (i := 69) rfl))) (by decide) (backOf (W := 0) (own_coneq l Z a0 hw [] b43 b4 cs r81 b81 kb81 tt2 r104 b104 kb104 nn2 r13 b13 kb13 p0 r19 b19 kb19 p1 T133.heap n0 (SS.ext O133.2) hcs g133_0 f148 f149 f150 f151 g133_1 f152 f153 f154 f155 f137 f140 f141 f142 f143 f138 f144 f145 f146 f147 f136 (Ne.symm ne83) (Ne.symm ne108)) hZ (hw _ (List.mem_of_getElem? (i := 71) rfl)) (hw _ (List.mem_of_getElem? (i := 2) rfl)) (by decide) (by decide)) q162a q162c (g := (mkF m 116 #[.val (.int p0), .val (.int p1), .val (.int p2), .val (.int p3), .val (.int p4), .val (.int p5), .val (.int tt2), .val (.int nn2), .val (.int z3), .val (.ref b4), .val (.ref b43), .val (.int v11)] [(.ref b4), (.ref b43)])) rfl (by rw [hml]; rfl) (Steps.refl _) (argsL := [(.ref b4)]) (rest := []) (lenOf own_pd9 rfl) rfl (by show 2 * 0 + _ ≤ _; exact Nat.le_of_eq rfl) (hb hby at_116) (fun _ _ => ⟨rfl, e158, (by decide : 18 + 0 ≤ _), (by decide : 38 + 0 ≤ _)⟩)
          dsimp only [Pt.U, Pt.locs, Pt.cells, Pt.slots] at X161 lq161 yq161 zq161 st161 hQ161
          subst lq161 yq161 zq161
          obtain ⟨rfl, N161q, e161⟩ := hQ161
          have N161 := Fr.app N158 N161q
          refine own_byW (V := T161.setTop (mkF m 119 #[.val (.int p0), .val (.int p1), .val (.int p2), .val (.int p3), .val (.int p4), .val (.int p5), .val (.int tt2), .val (.int nn2), .val (.int z3), .val (.ref b4), .val (.ref b43), .val (.int v11)] [(.int (own_both (own_same tt2 p0) (own_same nn2 p1)))])) (fun t k => st161.trans k) ?_
          refine own_byW (V := T161.setTop (mkF m 121 #[.val (.int p0), .val (.int p1), .val (.int p2), .val (.int p3), .val (.int p4), .val (.int p5), .val (.int tt2), .val (.int nn2), .val (.int z3), .val (.ref b4), .val (.ref b43), .val (.int v11)] [(.int v11), (.int (own_both (own_same tt2 p0) (own_same nn2 p1)))])) (fun t k => XS.iload X161.here hx rfl (hb hby at_119) rfl  k) ?_
          have hb121_163 : ((own_both (own_same tt2 p0) (own_same nn2 p1)) = v11) := by rw [hv11, own_same_symm tt2 p0, own_same_symm nn2 p1]
          refine own_byW (V := T161.setTop (mkF m 124 #[.val (.int p0), .val (.int p1), .val (.int p2), .val (.int p3), .val (.int p4), .val (.int p5), .val (.int tt2), .val (.int nn2), .val (.int z3), .val (.ref b4), .val (.ref b43), .val (.int v11)] [])) (fun t k => XS.icmpNo X161.here hx rfl (hb hby at_121) rfl (teq hb121_163).2 k) ?_
          refine own_byW (V := T161.setTop (mkF m 125 #[.val (.int p0), .val (.int p1), .val (.int p2), .val (.int p3), .val (.int p4), .val (.int p5), .val (.int tt2), .val (.int nn2), .val (.int z3), .val (.ref b4), .val (.ref b43), .val (.int v11)] [(.int (1 : Int32))])) (fun t k => XS.iconst X161.here hx rfl (hb hby at_124) k) ?_
          refine own_byW (V := T161.setTop (mkF m 129 #[.val (.int p0), .val (.int p1), .val (.int p2), .val (.int p3), .val (.int p4), .val (.int p5), .val (.int tt2), .val (.int nn2), .val (.int z3), .val (.ref b4), .val (.ref b43), .val (.int v11)] [(.int (1 : Int32))])) (fun t k => XS.goto X161.here hx rfl (pc0 := 125) (pc' := 129) rfl (hb hby at_125) (by decide) (by decide) k) ?_
          refine own_retWN X161 hx hlk hS hk134 e161 LS135 Bd.returns (t := .boolean) (by simp) rfl (hb hby at_129) ?_ (by decide) (by decide)
          exact ⟨rfl, N161⟩
        by_cases hb81_164 : (own_same p0 tt2) = (0 : Int32)
        · refine own_byW (V := T156.setTop (mkF m 97 #[.val (.int p0), .val (.int p1), .val (.int p2), .val (.int p3), .val (.int p4), .val (.int p5), .val (.int tt2), .val (.int nn2), .val (.int z3), .val (.ref b4), .val (.ref b43), .unset] [])) (fun t k => XS.ifYes X156.here hx rfl (pc0 := 81) (pc' := 97) rfl (hb hby at_81) rfl ((if0 _ _).trans (teq hb81_164).1) (by decide) (by decide) k) ?_
          refine own_byW (V := T156.setTop (mkF m 98 #[.val (.int p0), .val (.int p1), .val (.int p2), .val (.int p3), .val (.int p4), .val (.int p5), .val (.int tt2), .val (.int nn2), .val (.int z3), .val (.ref b4), .val (.ref b43), .unset] [(.int (0 : Int32))])) (fun t k => XS.iconst X156.here hx rfl (hb hby at_97) k) ?_
          exact J157 T156 _ (0 : Int32) (X156.more (by decide) (by decide)) e156 N156 (by unfold own_both; rw [if_pos hb81_164])
        · refine own_byW (V := T156.setTop (mkF m 84 #[.val (.int p0), .val (.int p1), .val (.int p2), .val (.int p3), .val (.int p4), .val (.int p5), .val (.int tt2), .val (.int nn2), .val (.int z3), .val (.ref b4), .val (.ref b43), .unset] [])) (fun t k => XS.ifNo X156.here hx rfl (hb hby at_81) rfl ((if0 _ _).trans (feq hb81_164).1) k) ?_
          refine own_byW (V := T156.setTop (mkF m 85 #[.val (.int p0), .val (.int p1), .val (.int p2), .val (.int p3), .val (.int p4), .val (.int p5), .val (.int tt2), .val (.int nn2), .val (.int z3), .val (.ref b4), .val (.ref b43), .unset] [(.int p1)])) (fun t k => XS.iloadN X156.here hx rfl (hb hby at_84) rfl  k) ?_
          refine own_byW (V := T156.setTop (mkF m 87 #[.val (.int p0), .val (.int p1), .val (.int p2), .val (.int p3), .val (.int p4), .val (.int p5), .val (.int tt2), .val (.int nn2), .val (.int z3), .val (.ref b4), .val (.ref b43), .unset] [(.int nn2), (.int p1)])) (fun t k => XS.iload X156.here hx rfl (hb hby at_85) rfl  k) ?_
          obtain ⟨_, _, ⟨T165, Lq165, kq165, nq165⟩, -, X165, ⟨Lc165, hQ165, lq165, yq165, zq165⟩, st165⟩ := Jvm.LawKit.callS X156 hx (y := (⟨"com/example/forec/forec/ConstantEqualsPinLaw", "same", "(II)Z"⟩ : MethodName)) hown (mvT hZ (hw _ (List.mem_of_getElem? (i := 64) rfl))) (mvT hZ (hw _ (List.mem_of_getElem? (i := 65) rfl))) (mvT hZ (hw _ (List.mem_of_getElem? (i := 5) rfl))) (mvT hZ (hw _ (List.mem_of_getElem? (i := 66) rfl))) (by decide) (backOf (W := 0) (own_rsame l Z a0 hw [] p1 nn2 T133.heap n0) hZ (hw _ (List.mem_of_getElem? (i := 66) rfl)) (hw _ (List.mem_of_getElem? (i := 5) rfl)) (by decide) (by decide)) (g := (mkF m 87 #[.val (.int p0), .val (.int p1), .val (.int p2), .val (.int p3), .val (.int p4), .val (.int p5), .val (.int tt2), .val (.int nn2), .val (.int z3), .val (.ref b4), .val (.ref b43), .unset] [(.int nn2), (.int p1)])) rfl (by rw [hml]; rfl) (argsL := [(.int p1), (.int nn2)]) (rest := []) (lenOf own_pd12 rfl) rfl (by show 2 * 0 + _ ≤ _; exact Nat.le_of_eq rfl) (hb hby at_87) (fun _ _ => ⟨rfl, e156, (by decide : 18 + 0 ≤ _), (by decide : 38 + 0 ≤ _)⟩)
          dsimp only [Pt.U, Pt.locs, Pt.cells, Pt.slots] at X165 lq165 yq165 zq165 st165 hQ165
          subst lq165 yq165 zq165
          obtain ⟨rfl, N165q, e165⟩ := hQ165
          have N165 := Fr.app N156 N165q
          refine own_byW (V := T165.setTop (mkF m 90 #[.val (.int p0), .val (.int p1), .val (.int p2), .val (.int p3), .val (.int p4), .val (.int p5), .val (.int tt2), .val (.int nn2), .val (.int z3), .val (.ref b4), .val (.ref b43), .unset] [(.int (own_same p1 nn2))])) st165 ?_
          by_cases hb90_166 : (own_same p1 nn2) = (0 : Int32)
          · refine own_byW (V := T165.setTop (mkF m 97 #[.val (.int p0), .val (.int p1), .val (.int p2), .val (.int p3), .val (.int p4), .val (.int p5), .val (.int tt2), .val (.int nn2), .val (.int z3), .val (.ref b4), .val (.ref b43), .unset] [])) (fun t k => XS.ifYes X165.here hx rfl (pc0 := 90) (pc' := 97) rfl (hb hby at_90) rfl ((if0 _ _).trans (teq hb90_166).1) (by decide) (by decide) k) ?_
            refine own_byW (V := T165.setTop (mkF m 98 #[.val (.int p0), .val (.int p1), .val (.int p2), .val (.int p3), .val (.int p4), .val (.int p5), .val (.int tt2), .val (.int nn2), .val (.int z3), .val (.ref b4), .val (.ref b43), .unset] [(.int (0 : Int32))])) (fun t k => XS.iconst X165.here hx rfl (hb hby at_97) k) ?_
            exact J157 T165 _ (0 : Int32) (X165.more (by decide) (by decide)) e165 N165 (by unfold own_both; rw [if_neg hb81_164, if_pos hb90_166])
          · refine own_byW (V := T165.setTop (mkF m 93 #[.val (.int p0), .val (.int p1), .val (.int p2), .val (.int p3), .val (.int p4), .val (.int p5), .val (.int tt2), .val (.int nn2), .val (.int z3), .val (.ref b4), .val (.ref b43), .unset] [])) (fun t k => XS.ifNo X165.here hx rfl (hb hby at_90) rfl ((if0 _ _).trans (feq hb90_166).1) k) ?_
            refine own_byW (V := T165.setTop (mkF m 94 #[.val (.int p0), .val (.int p1), .val (.int p2), .val (.int p3), .val (.int p4), .val (.int p5), .val (.int tt2), .val (.int nn2), .val (.int z3), .val (.ref b4), .val (.ref b43), .unset] [(.int (1 : Int32))])) (fun t k => XS.iconst X165.here hx rfl (hb hby at_93) k) ?_
            refine own_byW (V := T165.setTop (mkF m 98 #[.val (.int p0), .val (.int p1), .val (.int p2), .val (.int p3), .val (.int p4), .val (.int p5), .val (.int tt2), .val (.int nn2), .val (.int z3), .val (.ref b4), .val (.ref b43), .unset] [(.int (1 : Int32))])) (fun t k => XS.goto X165.here hx rfl (pc0 := 94) (pc' := 98) rfl (hb hby at_94) (by decide) (by decide) k) ?_
            exact J157 T165 _ (1 : Int32) (X165.more (by decide) (by decide)) e165 N165 (by unfold own_both; rw [if_neg hb81_164, if_neg hb90_166])
      · refine own_byW (V := T31.setTop (mkF m 130 #[.val (.int p0), .val (.int p1), .val (.int p2), .val (.int p3), .val (.int p4), .val (.int p5), .val (.int tt2), .val (.int nn2), .val (.int z3), .val (.ref b4), .unset, .unset] [])) (fun t k => XS.ifYes X31.here hx rfl (pc0 := 51) (pc' := 130) rfl (hb hby at_51) rfl ((if0 _ _).trans (feq hb51_42).2) (by decide) (by decide) k) ?_
        refine own_byW (V := T31.setTop (mkF m 132 #[.val (.int p0), .val (.int p1), .val (.int p2), .val (.int p3), .val (.int p4), .val (.int p5), .val (.int tt2), .val (.int nn2), .val (.int z3), .val (.ref b4), .unset, .unset] [(.int z3)])) (fun t k => XS.iload X31.here hx rfl (hb hby at_130) rfl  k) ?_
        refine own_byW (V := T31.setTop (mkF m 133 #[.val (.int p0), .val (.int p1), .val (.int p2), .val (.int p3), .val (.int p4), .val (.int p5), .val (.int tt2), .val (.int nn2), .val (.int z3), .val (.ref b4), .unset, .unset] [(.int (1 : Int32)), (.int z3)])) (fun t k => XS.iconst X31.here hx rfl (hb hby at_132) k) ?_
        by_cases hb133_167 : z3 = (1 : Int32)
        · refine own_byW (V := T31.setTop (mkF m 136 #[.val (.int p0), .val (.int p1), .val (.int p2), .val (.int p3), .val (.int p4), .val (.int p5), .val (.int tt2), .val (.int nn2), .val (.int z3), .val (.ref b4), .unset, .unset] [])) (fun t k => XS.icmpNo X31.here hx rfl (hb hby at_133) rfl (teq hb133_167).2 k) ?_
          refine own_byW (V := T31.setTop (mkF m 138 #[.val (.int p0), .val (.int p1), .val (.int p2), .val (.int p3), .val (.int p4), .val (.int p5), .val (.int tt2), .val (.int nn2), .val (.int z3), .val (.ref b4), .unset, .unset] [(.ref b4)])) (fun t k => XS.aload X31.here hx rfl (hb hby at_136) rfl rfl k) ?_
          refine own_byW (V := T31.setTop (mkF m 140 #[.val (.int p0), .val (.int p1), .val (.int p2), .val (.int p3), .val (.int p4), .val (.int p5), .val (.int tt2), .val (.int nn2), .val (.int z3), .val (.ref b4), .unset, .unset] [(.ref b4), (.ref b4)])) (fun t k => XS.aload X31.here hx rfl (hb hby at_138) rfl rfl k) ?_
          obtain ⟨cq169, kq169, q169a, q169b, q169c⟩ := isOf hZ rfl Ec31
          obtain ⟨_, _, ⟨T168, Lq168, kq168, nq168⟩, -, X168, ⟨Lc168, hQ168, lq168, yq168, zq168⟩, st168⟩ := X31.virtualBack hx (y := (⟨"com/example/forec/forec/Value$Constant", "equals", "(Ljava/lang/Object;)Z"⟩ : MethodName)) (z := (⟨"com/example/forec/forec/Value$Constant", "equals", "(Ljava/lang/Object;)Z"⟩ : MethodName)) hown (mvT hZ (hw _ (List.mem_of_getElem? (i := 67) rfl))) (mvT hZ (hw _ (List.mem_of_getElem? (i := 68) rfl))) (notFace_of_selects (args := #[]) (mvT hZ (hw _ (List.mem_of_getElem? (i := 70) rfl)))) (mvT hZ (hw _ (List.mem_of_getElem? (i := 70) rfl))) (mvT hZ (hw _ (List.mem_of_getElem? (i := 69) rfl))) (by decide) (backOf (W := 0) (own_coneq1 l Z a0 hw [] b4 cs r13 b13 kb13 p0 r19 b19 kb19 p1 T31.heap n0 (SS.ext O31.2) hcs g31_0 f34 f35 f36 f37 g31_1 f38 f39 f40 f41 Ec31) hZ (hw _ (List.mem_of_getElem? (i := 71) rfl)) (hw _ (List.mem_of_getElem? (i := 2) rfl)) (by decide) (by decide)) q169a q169c (g := (mkF m 140 #[.val (.int p0), .val (.int p1), .val (.int p2), .val (.int p3), .val (.int p4), .val (.int p5), .val (.int tt2), .val (.int nn2), .val (.int z3), .val (.ref b4), .unset, .unset] [(.ref b4), (.ref b4)])) rfl (by rw [hml]; rfl) (Steps.refl _) (argsL := [(.ref b4)]) (rest := []) (lenOf own_pd9 rfl) rfl (by show 2 * 0 + _ ≤ _; exact Nat.le_of_eq rfl) (hb hby at_140) (fun _ _ => ⟨rfl, rfl, (by decide : 9 + 0 ≤ _), (by decide : 19 + 0 ≤ _)⟩)
          dsimp only [Pt.U, Pt.locs, Pt.cells, Pt.slots] at X168 lq168 yq168 zq168 st168 hQ168
          subst lq168 yq168 zq168
          obtain ⟨rfl, N168q, e168⟩ := hQ168
          have N168 := Fr.app N31 N168q
          refine own_byW (V := T168.setTop (mkF m 143 #[.val (.int p0), .val (.int p1), .val (.int p2), .val (.int p3), .val (.int p4), .val (.int p5), .val (.int tt2), .val (.int nn2), .val (.int z3), .val (.ref b4), .unset, .unset] [(.int (1 : Int32))])) (fun t k => st168.trans k) ?_
          refine own_retWN X168 hx hlk hS hk32 e168 LS33 Bd.returns (t := .boolean) (by simp) rfl (hb hby at_143) ?_ (by decide) (by decide)
          exact ⟨rfl, N168⟩
        · refine own_byW (V := T31.setTop (mkF m 144 #[.val (.int p0), .val (.int p1), .val (.int p2), .val (.int p3), .val (.int p4), .val (.int p5), .val (.int tt2), .val (.int nn2), .val (.int z3), .val (.ref b4), .unset, .unset] [])) (fun t k => XS.icmpYes X31.here hx rfl (pc0 := 133) (pc' := 144) rfl (hb hby at_133) rfl (feq hb133_167).2 (by decide) (by decide) k) ?_
          refine own_byW (V := T31.setTop (mkF m 146 #[.val (.int p0), .val (.int p1), .val (.int p2), .val (.int p3), .val (.int p4), .val (.int p5), .val (.int tt2), .val (.int nn2), .val (.int z3), .val (.ref b4), .unset, .unset] [(.int z3)])) (fun t k => XS.iload X31.here hx rfl (hb hby at_144) rfl  k) ?_
          refine own_byW (V := T31.setTop (mkF m 147 #[.val (.int p0), .val (.int p1), .val (.int p2), .val (.int p3), .val (.int p4), .val (.int p5), .val (.int tt2), .val (.int nn2), .val (.int z3), .val (.ref b4), .unset, .unset] [(.int (2 : Int32)), (.int z3)])) (fun t k => XS.iconst X31.here hx rfl (hb hby at_146) k) ?_
          by_cases hb147_170 : z3 = (2 : Int32)
          · refine own_byW (V := T31.setTop (mkF m 150 #[.val (.int p0), .val (.int p1), .val (.int p2), .val (.int p3), .val (.int p4), .val (.int p5), .val (.int tt2), .val (.int nn2), .val (.int z3), .val (.ref b4), .unset, .unset] [])) (fun t k => XS.icmpNo X31.here hx rfl (hb hby at_147) rfl (teq hb147_170).2 k) ?_
            refine own_byW (V := T31.setTop (mkF m 152 #[.val (.int p0), .val (.int p1), .val (.int p2), .val (.int p3), .val (.int p4), .val (.int p5), .val (.int tt2), .val (.int nn2), .val (.int z3), .val (.ref b4), .unset, .unset] [(.ref b4)])) (fun t k => XS.aload X31.here hx rfl (hb hby at_150) rfl rfl k) ?_
            refine own_byW (V := T31.setTop (mkF m 153 #[.val (.int p0), .val (.int p1), .val (.int p2), .val (.int p3), .val (.int p4), .val (.int p5), .val (.int tt2), .val (.int nn2), .val (.int z3), .val (.ref b4), .unset, .unset] [.null, (.ref b4)])) (fun t k => XS.aconstNull X31.here hx rfl (hb hby at_152) k) ?_
            obtain ⟨cq172, kq172, q172a, q172b, q172c⟩ := isOf hZ rfl Ec31
            obtain ⟨_, _, ⟨T171, Lq171, kq171, nq171⟩, -, X171, ⟨Lc171, hQ171, lq171, yq171, zq171⟩, st171⟩ := X31.virtualBack hx (y := (⟨"com/example/forec/forec/Value$Constant", "equals", "(Ljava/lang/Object;)Z"⟩ : MethodName)) (z := (⟨"com/example/forec/forec/Value$Constant", "equals", "(Ljava/lang/Object;)Z"⟩ : MethodName)) hown (mvT hZ (hw _ (List.mem_of_getElem? (i := 67) rfl))) (mvT hZ (hw _ (List.mem_of_getElem? (i := 68) rfl))) (notFace_of_selects (args := #[]) (mvT hZ (hw _ (List.mem_of_getElem? (i := 70) rfl)))) (mvT hZ (hw _ (List.mem_of_getElem? (i := 70) rfl))) (mvT hZ (hw _ (List.mem_of_getElem? (i := 69) rfl))) (by decide) (backOf (W := 0) (own_coneq0 l Z a0 hw [] b4 T31.heap n0 ) hZ (hw _ (List.mem_of_getElem? (i := 71) rfl)) (hw _ (List.mem_of_getElem? (i := 2) rfl)) (by decide) (by decide)) q172a q172c (g := (mkF m 153 #[.val (.int p0), .val (.int p1), .val (.int p2), .val (.int p3), .val (.int p4), .val (.int p5), .val (.int tt2), .val (.int nn2), .val (.int z3), .val (.ref b4), .unset, .unset] [.null, (.ref b4)])) rfl (by rw [hml]; rfl) (Steps.refl _) (argsL := [.null]) (rest := []) (lenOf own_pd9 rfl) rfl (by show 2 * 0 + _ ≤ _; exact Nat.le_of_eq rfl) (hb hby at_153) (fun _ _ => ⟨rfl, rfl, (by decide : 9 + 0 ≤ _), (by decide : 19 + 0 ≤ _)⟩)
            dsimp only [Pt.U, Pt.locs, Pt.cells, Pt.slots] at X171 lq171 yq171 zq171 st171 hQ171
            subst lq171 yq171 zq171
            obtain ⟨rfl, N171q, e171⟩ := hQ171
            have N171 := Fr.app N31 N171q
            refine own_byW (V := T171.setTop (mkF m 156 #[.val (.int p0), .val (.int p1), .val (.int p2), .val (.int p3), .val (.int p4), .val (.int p5), .val (.int tt2), .val (.int nn2), .val (.int z3), .val (.ref b4), .unset, .unset] [(.int (0 : Int32))])) (fun t k => st171.trans k) ?_
            have hb156_173 : ((0 : Int32) = (0 : Int32)) := rfl
            refine own_byW (V := T171.setTop (mkF m 159 #[.val (.int p0), .val (.int p1), .val (.int p2), .val (.int p3), .val (.int p4), .val (.int p5), .val (.int tt2), .val (.int nn2), .val (.int z3), .val (.ref b4), .unset, .unset] [])) (fun t k => XS.ifNo X171.here hx rfl (hb hby at_156) rfl ((if0 _ _).trans (teq hb156_173).2) k) ?_
            refine own_byW (V := T171.setTop (mkF m 160 #[.val (.int p0), .val (.int p1), .val (.int p2), .val (.int p3), .val (.int p4), .val (.int p5), .val (.int tt2), .val (.int nn2), .val (.int z3), .val (.ref b4), .unset, .unset] [(.int (1 : Int32))])) (fun t k => XS.iconst X171.here hx rfl (hb hby at_159) k) ?_
            refine own_byW (V := T171.setTop (mkF m 164 #[.val (.int p0), .val (.int p1), .val (.int p2), .val (.int p3), .val (.int p4), .val (.int p5), .val (.int tt2), .val (.int nn2), .val (.int z3), .val (.ref b4), .unset, .unset] [(.int (1 : Int32))])) (fun t k => XS.goto X171.here hx rfl (pc0 := 160) (pc' := 164) rfl (hb hby at_160) (by decide) (by decide) k) ?_
            refine own_retWN X171 hx hlk hS hk32 e171 LS33 Bd.returns (t := .boolean) (by simp) rfl (hb hby at_164) ?_ (by decide) (by decide)
            exact ⟨rfl, N171⟩
          · refine own_byW (V := T31.setTop (mkF m 165 #[.val (.int p0), .val (.int p1), .val (.int p2), .val (.int p3), .val (.int p4), .val (.int p5), .val (.int tt2), .val (.int nn2), .val (.int z3), .val (.ref b4), .unset, .unset] [])) (fun t k => XS.icmpYes X31.here hx rfl (pc0 := 147) (pc' := 165) rfl (hb hby at_147) rfl (feq hb147_170).2 (by decide) (by decide) k) ?_
            obtain ⟨T174, h174, X174, e174, E174, A174, D174, -, st174⟩ := newO X31 hx hZ hown (hw _ (List.mem_of_getElem? (i := 84) rfl)) (hw _ (List.mem_of_getElem? (i := 85) rfl)) (hw _ (List.mem_of_getElem? (i := 86) rfl)) rfl (g := (mkF m 165 #[.val (.int p0), .val (.int p1), .val (.int p2), .val (.int p3), .val (.int p4), .val (.int p5), .val (.int tt2), .val (.int nn2), .val (.int z3), .val (.ref b4), .unset, .unset] [])) rfl (hb hby at_165) (by decide) (by decide)
            obtain ⟨b174, g174⟩ : ∃ z, z = T31.heap.size := ⟨_, rfl⟩
            rw [← g174] at A174 D174 st174
            have ne175 : b4 ≠ b174 := Nat.ne_of_lt (Nat.lt_of_lt_of_le Ec31.lt (Nat.le_of_eq g174.symm))
            have ne176 : r13 ≠ b174 := Nat.ne_of_lt (Nat.lt_of_lt_of_le f34.lt (Nat.le_of_eq g174.symm))
            have ne177 : b13 ≠ b174 := Nat.ne_of_lt (Nat.lt_of_lt_of_le f37.lt (Nat.le_of_eq g174.symm))
            have ne178 : r19 ≠ b174 := Nat.ne_of_lt (Nat.lt_of_lt_of_le f38.lt (Nat.le_of_eq g174.symm))
            have ne179 : b19 ≠ b174 := Nat.ne_of_lt (Nat.lt_of_lt_of_le f41.lt (Nat.le_of_eq g174.symm))
            have hk180 := Nat.le_trans hk32 E174.1
            have LS181 := own_ls_ext LS33 E174
            have f184 := Ec31.ext E174
            have f185 := g31_0.ext E174
            have f186 := g31_1.ext E174
            have f187 := g31_2.ext E174
            have f191 := f34.ext E174
            have f192 := f35.ext E174
            have f193 := f36.ext E174
            have f194 := f37.ext E174
            have f199 := f38.ext E174
            have f200 := f39.ext E174
            have f201 := f40.ext E174
            have f202 := f41.ext E174
            have O174 := O31.ext E174
            have f209 : Fld Z h174 b174 "com/example/forec/forec/Value$Int" "value" "J" (.long (0 : Int64)) := D174 (Or.inr (hw _ (List.mem_of_getElem? (i := 92) rfl))) (ty := .long) (by decide)
            have gn174 : n0 ≤ b174 := Nat.le_trans Zs31 (Nat.le_of_eq g174.symm)
            have Zs174 : n0 ≤ h174.size := Nat.le_trans Zs31 E174.1
            refine own_byW (V := T174.setTop (mkF m 168 #[.val (.int p0), .val (.int p1), .val (.int p2), .val (.int p3), .val (.int p4), .val (.int p5), .val (.int tt2), .val (.int nn2), .val (.int z3), .val (.ref b4), .unset, .unset] [(.ref b174)])) st174 ?_
            refine own_byW (V := T174.setTop (mkF m 169 #[.val (.int p0), .val (.int p1), .val (.int p2), .val (.int p3), .val (.int p4), .val (.int p5), .val (.int tt2), .val (.int nn2), .val (.int z3), .val (.ref b4), .unset, .unset] [(.ref b174), (.ref b174)])) (fun t k => XS.dup X174.here hx rfl (hb hby at_168) rfl rfl k) ?_
            refine own_byW (V := T174.setTop (mkF m 171 #[.val (.int p0), .val (.int p1), .val (.int p2), .val (.int p3), .val (.int p4), .val (.int p5), .val (.int tt2), .val (.int nn2), .val (.int z3), .val (.ref b4), .unset, .unset] [(.int p5), (.ref b174), (.ref b174)])) (fun t k => XS.iload X174.here hx rfl (hb hby at_169) rfl  k) ?_
            refine own_byW (V := T174.setTop (mkF m 172 #[.val (.int p0), .val (.int p1), .val (.int p2), .val (.int p3), .val (.int p4), .val (.int p5), .val (.int tt2), .val (.int nn2), .val (.int z3), .val (.ref b4), .unset, .unset] [(.long (p5.toInt64)), (.ref b174), (.ref b174)])) (fun t k => XS.i2l X174.here hx rfl (hb hby at_171) rfl k) ?_
            obtain ⟨_, _, ⟨T210, Lq210, kq210, nq210⟩, -, X210, ⟨Lc210, hQ210, lq210, yq210, zq210⟩, st210⟩ := X174.specialBack hx (y := (⟨"com/example/forec/forec/Value$Int", "<init>", "(J)V"⟩ : MethodName)) rfl hown (mvT hZ (hw _ (List.mem_of_getElem? (i := 87) rfl))) (mvT hZ (hw _ (List.mem_of_getElem? (i := 88) rfl))) (mvT hZ (hw _ (List.mem_of_getElem? (i := 89) rfl))) (by decide) (backOf (W := 1) (own_iinit l Z a0 hw [] b174 (p5.toInt64) h174 n0 Zs174 gn174 A174 f209) hZ (hw _ (List.mem_of_getElem? (i := 89) rfl)) (hw _ (List.mem_of_getElem? (i := 86) rfl)) (by decide) (by decide)) (g := (mkF m 172 #[.val (.int p0), .val (.int p1), .val (.int p2), .val (.int p3), .val (.int p4), .val (.int p5), .val (.int tt2), .val (.int nn2), .val (.int z3), .val (.ref b4), .unset, .unset] [(.long (p5.toInt64)), (.ref b174), (.ref b174)])) rfl (by rw [hml]; rfl) (Steps.refl _) (a := b174) (argsL := [(.long (p5.toInt64))]) (rest := [(.ref b174)]) (lenOf own_pd13 rfl) rfl (by show 2 * 0 + _ ≤ _; exact Nat.le_of_eq rfl) (hb hby at_172) (fun _ _ => ⟨rfl, e174, (by decide : 10 + 0 ≤ _), (by decide : 20 + 0 ≤ _)⟩)
            dsimp only [Pt.U, Pt.locs, Pt.cells, Pt.slots] at X210 lq210 yq210 zq210 st210 hQ210
            subst lq210 yq210 zq210
            obtain ⟨rfl, N210q, Kc210, Ec210, g210_0⟩ := hQ210
            have N210 := Fr.app N31 N210q
            have hk211 := Nat.le_trans hk180 Kc210.1
            have LS212 := own_ls_keep LS181 Kc210 A174 (by decide) (hw _ (List.mem_of_getElem? (i := 85) rfl))
            have f213 := f184.keep Kc210
            have f214 := f185.keep Kc210 (ninS ne175 nin0)
            have f215 := f186.keep Kc210 (ninS ne175 nin0)
            have f216 := f187.keep Kc210 (ninS ne175 nin0)
            have f217 := f191.keep Kc210
            have f218 := f192.keep Kc210 (ninS ne176 nin0)
            have f219 := f193.keep Kc210 (ninS ne176 nin0)
            have f220 := f194.keep Kc210 (ninS ne177 nin0)
            have f221 := f199.keep Kc210
            have f222 := f200.keep Kc210 (ninS ne178 nin0)
            have f223 := f201.keep Kc210 (ninS ne178 nin0)
            have f224 := f202.keep Kc210 (ninS ne179 nin0)
            have O210 := O174.keep Kc210 (allS gn174 all0)
            have Zs210 : n0 ≤ T210.heap.size := Nat.le_trans Zs174 Kc210.1
            refine own_byW (V := T210.setTop (mkF m 175 #[.val (.int p0), .val (.int p1), .val (.int p2), .val (.int p3), .val (.int p4), .val (.int p5), .val (.int tt2), .val (.int nn2), .val (.int z3), .val (.ref b4), .unset, .unset] [(.ref b174)])) (fun t k => st210.trans k) ?_
            refine own_byW (V := T210.setTop (mkF m 177 #[.val (.int p0), .val (.int p1), .val (.int p2), .val (.int p3), .val (.int p4), .val (.int p5), .val (.int tt2), .val (.int nn2), .val (.int z3), .val (.ref b4), .val (.ref b174), .unset] [])) (fun t k => XS.astore X210.here hx rfl (hb hby at_175) rfl rfl (l' := #[.val (.int p0), .val (.int p1), .val (.int p2), .val (.int p3), .val (.int p4), .val (.int p5), .val (.int tt2), .val (.int nn2), .val (.int z3), .val (.ref b4), .val (.ref b174), .unset]) rfl k) ?_
            refine own_byW (V := T210.setTop (mkF m 179 #[.val (.int p0), .val (.int p1), .val (.int p2), .val (.int p3), .val (.int p4), .val (.int p5), .val (.int tt2), .val (.int nn2), .val (.int z3), .val (.ref b4), .val (.ref b174), .unset] [(.ref b4)])) (fun t k => XS.aload X210.here hx rfl (hb hby at_177) rfl rfl k) ?_
            refine own_byW (V := T210.setTop (mkF m 181 #[.val (.int p0), .val (.int p1), .val (.int p2), .val (.int p3), .val (.int p4), .val (.int p5), .val (.int tt2), .val (.int nn2), .val (.int z3), .val (.ref b4), .val (.ref b174), .unset] [(.ref b174), (.ref b4)])) (fun t k => XS.aload X210.here hx rfl (hb hby at_179) rfl rfl k) ?_
            obtain ⟨cq226, kq226, q226a, q226b, q226c⟩ := isOf hZ rfl f213
            obtain ⟨_, _, ⟨T225, Lq225, kq225, nq225⟩, -, X225, ⟨Lc225, hQ225, lq225, yq225, zq225⟩, st225⟩ := X210.virtualBack hx (y := (⟨"com/example/forec/forec/Value$Constant", "equals", "(Ljava/lang/Object;)Z"⟩ : MethodName)) (z := (⟨"com/example/forec/forec/Value$Constant", "equals", "(Ljava/lang/Object;)Z"⟩ : MethodName)) hown (mvT hZ (hw _ (List.mem_of_getElem? (i := 67) rfl))) (mvT hZ (hw _ (List.mem_of_getElem? (i := 68) rfl))) (notFace_of_selects (args := #[]) (mvT hZ (hw _ (List.mem_of_getElem? (i := 70) rfl)))) (mvT hZ (hw _ (List.mem_of_getElem? (i := 70) rfl))) (mvT hZ (hw _ (List.mem_of_getElem? (i := 69) rfl))) (by decide) (backOf (W := 0) (own_coneqI l Z a0 hw [] b4 b174 T210.heap n0 Ec210) hZ (hw _ (List.mem_of_getElem? (i := 71) rfl)) (hw _ (List.mem_of_getElem? (i := 2) rfl)) (by decide) (by decide)) q226a q226c (g := (mkF m 181 #[.val (.int p0), .val (.int p1), .val (.int p2), .val (.int p3), .val (.int p4), .val (.int p5), .val (.int tt2), .val (.int nn2), .val (.int z3), .val (.ref b4), .val (.ref b174), .unset] [(.ref b174), (.ref b4)])) rfl (by rw [hml]; rfl) (Steps.refl _) (argsL := [(.ref b174)]) (rest := []) (lenOf own_pd9 rfl) rfl (by show 2 * 0 + _ ≤ _; exact Nat.le_of_eq rfl) (hb hby at_181) (fun _ _ => ⟨rfl, rfl, (by decide : 10 + 0 ≤ _), (by decide : 20 + 0 ≤ _)⟩)
            dsimp only [Pt.U, Pt.locs, Pt.cells, Pt.slots] at X225 lq225 yq225 zq225 st225 hQ225
            subst lq225 yq225 zq225
            obtain ⟨rfl, N225q, e225⟩ := hQ225
            have N225 := Fr.app N210 N225q
            refine own_byW (V := T225.setTop (mkF m 184 #[.val (.int p0), .val (.int p1), .val (.int p2), .val (.int p3), .val (.int p4), .val (.int p5), .val (.int tt2), .val (.int nn2), .val (.int z3), .val (.ref b4), .val (.ref b174), .unset] [(.int (0 : Int32))])) (fun t k => st225.trans k) ?_
            have hb184_227 : ((0 : Int32) = (0 : Int32)) := rfl
            refine own_byW (V := T225.setTop (mkF m 187 #[.val (.int p0), .val (.int p1), .val (.int p2), .val (.int p3), .val (.int p4), .val (.int p5), .val (.int tt2), .val (.int nn2), .val (.int z3), .val (.ref b4), .val (.ref b174), .unset] [])) (fun t k => XS.ifNo X225.here hx rfl (hb hby at_184) rfl ((if0 _ _).trans (teq hb184_227).2) k) ?_
            refine own_byW (V := T225.setTop (mkF m 188 #[.val (.int p0), .val (.int p1), .val (.int p2), .val (.int p3), .val (.int p4), .val (.int p5), .val (.int tt2), .val (.int nn2), .val (.int z3), .val (.ref b4), .val (.ref b174), .unset] [(.int (1 : Int32))])) (fun t k => XS.iconst X225.here hx rfl (hb hby at_187) k) ?_
            refine own_byW (V := T225.setTop (mkF m 192 #[.val (.int p0), .val (.int p1), .val (.int p2), .val (.int p3), .val (.int p4), .val (.int p5), .val (.int tt2), .val (.int nn2), .val (.int z3), .val (.ref b4), .val (.ref b174), .unset] [(.int (1 : Int32))])) (fun t k => XS.goto X225.here hx rfl (pc0 := 188) (pc' := 192) rfl (hb hby at_188) (by decide) (by decide) k) ?_
            refine own_retWN X225 hx hlk hS hk211 e225 LS212 Bd.returns (t := .boolean) (by simp) rfl (hb hby at_192) ?_ (by decide) (by decide)
            exact ⟨rfl, N225⟩
    by_cases hb12_228 : p3 < (0 : Int32)
    · refine own_byW (V := T1.setTop (mkF m 15 #[.val (.int p0), .val (.int p1), .val (.int p2), .val (.int p3), .val (.int p4), .val (.int p5), .val (.int tt2), .unset, .unset, .unset, .unset, .unset] [])) (fun t k => XS.ifNo X1.here hx rfl (hb hby at_12) rfl ((if0 _ _).trans (tlt hb12_228).2.1) k) ?_
      refine own_byW (V := T1.setTop (mkF m 16 #[.val (.int p0), .val (.int p1), .val (.int p2), .val (.int p3), .val (.int p4), .val (.int p5), .val (.int tt2), .unset, .unset, .unset, .unset, .unset] [(.int p1)])) (fun t k => XS.iloadN X1.here hx rfl (hb hby at_15) rfl  k) ?_
      refine own_byW (V := T1.setTop (mkF m 20 #[.val (.int p0), .val (.int p1), .val (.int p2), .val (.int p3), .val (.int p4), .val (.int p5), .val (.int tt2), .unset, .unset, .unset, .unset, .unset] [(.int p1)])) (fun t k => XS.goto X1.here hx rfl (pc0 := 16) (pc' := 20) rfl (hb hby at_16) (by decide) (by decide) k) ?_
      exact J2 T1 _ p1 (X1.more (by decide) (by decide)) e1 N1 
    · refine own_byW (V := T1.setTop (mkF m 19 #[.val (.int p0), .val (.int p1), .val (.int p2), .val (.int p3), .val (.int p4), .val (.int p5), .val (.int tt2), .unset, .unset, .unset, .unset, .unset] [])) (fun t k => XS.ifYes X1.here hx rfl (pc0 := 12) (pc' := 19) rfl (hb hby at_12) rfl ((if0 _ _).trans (flt hb12_228).2.1) (by decide) (by decide) k) ?_
      refine own_byW (V := T1.setTop (mkF m 20 #[.val (.int p0), .val (.int p1), .val (.int p2), .val (.int p3), .val (.int p4), .val (.int p5), .val (.int tt2), .unset, .unset, .unset, .unset, .unset] [(.int p3)])) (fun t k => XS.iloadN X1.here hx rfl (hb hby at_19) rfl  k) ?_
      exact J2 T1 _ p3 (X1.more (by decide) (by decide)) e1 N1 
  by_cases hb1_229 : p2 < (0 : Int32)
  · refine own_byW (V := s₁.setTop (mkF m 4 #[.val (.int p0), .val (.int p1), .val (.int p2), .val (.int p3), .val (.int p4), .val (.int p5), .unset, .unset, .unset, .unset, .unset, .unset] [])) (fun t k => XS.ifNo X0.here hx rfl (hb hby at_1) rfl ((if0 _ _).trans (tlt hb1_229).2.1) k) ?_
    refine own_byW (V := s₁.setTop (mkF m 5 #[.val (.int p0), .val (.int p1), .val (.int p2), .val (.int p3), .val (.int p4), .val (.int p5), .unset, .unset, .unset, .unset, .unset, .unset] [(.int p0)])) (fun t k => XS.iloadN X0.here hx rfl (hb hby at_4) rfl  k) ?_
    refine own_byW (V := s₁.setTop (mkF m 9 #[.val (.int p0), .val (.int p1), .val (.int p2), .val (.int p3), .val (.int p4), .val (.int p5), .unset, .unset, .unset, .unset, .unset, .unset] [(.int p0)])) (fun t k => XS.goto X0.here hx rfl (pc0 := 5) (pc' := 9) rfl (hb hby at_5) (by decide) (by decide) k) ?_
    exact J1 s₁ _ p0 (X0.more (by decide) (by decide)) e0 N0 
  · refine own_byW (V := s₁.setTop (mkF m 8 #[.val (.int p0), .val (.int p1), .val (.int p2), .val (.int p3), .val (.int p4), .val (.int p5), .unset, .unset, .unset, .unset, .unset, .unset] [])) (fun t k => XS.ifYes X0.here hx rfl (pc0 := 1) (pc' := 8) rfl (hb hby at_1) rfl ((if0 _ _).trans (flt hb1_229).2.1) (by decide) (by decide) k) ?_
    refine own_byW (V := s₁.setTop (mkF m 9 #[.val (.int p0), .val (.int p1), .val (.int p2), .val (.int p3), .val (.int p4), .val (.int p5), .unset, .unset, .unset, .unset, .unset, .unset] [(.int p2)])) (fun t k => XS.iloadN X0.here hx rfl (hb hby at_8) rfl  k) ?_
    exact J1 s₁ _ p2 (X0.more (by decide) (by decide)) e0 N0 
set_option maxRecDepth 65536 in
set_option maxHeartbeats 40000000 in
theorem own_comes {Post : Tables → Env → Array Value → State → Outcome → State → Prop} (hpost : ∀ tb e args s v u, (limb_1_1.after args s (.returned v) u = true ∧ limb_1_2.after args s (.returned v) u = true ∧ True) → FramedW s (.returned v) u (Jvm.fieldLocs frame_1_writes args s ++ Jvm.arrayLocs frame_1_arrays args s ++ Jvm.staticLocs frame_1_statics s) 40 1216 → Post tb e args s (.returned v) u) :
    ArmFor flags0 classFile x code maxLocals ret World_1 tables_1 room_1 Calls_1 rest_1 Pre_1 Post := by
  intro l hfl _ _ p e ha hc hk s m args below hf hA hF happ hP
  obtain ⟨hcalls, hrest, hpre⟩ := hP
  obtain ⟨-, -, -, hnamed, -, -, -, hat⟩ := (Spec.applies_iff hf).mp happ
  obtain ⟨hg, hn⟩ := and_e (Cond.before_iff.mp (show (Jvm.Cond.and given_1 narrow_1).before args s = true from hpre))
  obtain ⟨hc0, hr0⟩ := and_e hg
  obtain ⟨hv0, hr1⟩ := and_e hr0
  obtain ⟨hv1, hr2⟩ := and_e hr1
  obtain ⟨hv2, hr3⟩ := and_e hr2
  obtain ⟨hv3, hr4⟩ := and_e hr3
  obtain ⟨hv4, hr5⟩ := and_e hr4
  have hv5 := hr5
  obtain ⟨w0, w1, w2, w3, w4, w5, rfl⟩ : ∃ w0 w1 w2 w3 w4 w5 : Value, args = #[w0, w1, w2, w3, w4, w5] := by
    have hs : args.size = 6 := by simpa [Cond.value, given_1] using hc0
    obtain ⟨L⟩ := args
    match L, hs with
    | [w0, w1, w2, w3, w4, w5], _ => exact ⟨w0, w1, w2, w3, w4, w5, rfl⟩
  have hw := fun d (hd : d ∈ tables_1) => atoms_spec (ws := Jvm.Cond.code x code maxLocals ret :: tables_1) hat d (List.mem_cons_of_mem _ hd)
  have hfit : Fit s := fun {y c} hc i hi => by
    obtain ⟨ha, rfl⟩ := Array.getElem?_eq_some_iff.mp hc
    have q := List.all_eq_true.mp ((Array.all_eq_true_iff_forall_mem.mp hF) _ (Array.getElem_mem ha)) i (List.mem_range.mpr hi)
    simpa [Array.getElem?_eq_getElem hi] using q
  obtain ⟨hsets, hown0⟩ := atoms_of _ (rest_1_c_eq ▸ (show rest_1_c.before _ s = true from hrest))
  obtain ⟨i0, ei0⟩ := is_v hv0
  obtain rfl : w0 = (.int i0) := Option.some.inj ei0
  obtain ⟨i1, ei1⟩ := is_v hv1
  obtain rfl : w1 = (.int i1) := Option.some.inj ei1
  obtain ⟨i2, ei2⟩ := is_v hv2
  obtain rfl : w2 = (.int i2) := Option.some.inj ei2
  obtain ⟨i3, ei3⟩ := is_v hv3
  obtain rfl : w3 = (.int i3) := Option.some.inj ei3
  obtain ⟨i4, ei4⟩ := is_v hv4
  obtain rfl : w4 = (.int i4) := Option.some.inj ei4
  obtain ⟨i5, ei5⟩ := is_v hv5
  obtain rfl : w5 = (.int i5) := Option.some.inj ei5
  obtain ⟨cs, evcs⟩ := is_v (Cond.before_iff.mp (hsets _ (List.mem_of_getElem? (i := 1) rfl)))
  have SS := Sta.start evcs (Or.inl (hsets _ (List.mem_of_getElem? (i := 0) rfl)))
  have hcs : ¬ cs = (0 : Int32) := gotF (Cond.eq_ints evcs (Term.int_eval 0)) (not_v (Cond.before_iff.mp (hsets _ (List.mem_of_getElem? (i := 2) rfl))))
  have hcH : Jvm.Lit.constHeld s "java/lang/String" 7 := hcalls.1 _ (List.mem_singleton.mpr rfl)
  have hcw : Jvm.Lit.compactW.before _ s = true := (hsets _ (List.mem_of_getElem? (i := 2) rfl))
  obtain ⟨n, o, h1, h2, h3, _, L, rfl, ⟨rfl, N⟩, hLS, hq⟩ := own_rm0 l s _ hw tables_1 i0 i1 i2 i3 i4 i5  s.heap s.heap.size (Nat.le_refl _) (Old.start s) hcH hcw cs hcs SS p e ha hc hk s m _ below hf ((Spec.applies_iff_loose hf).mp happ).1 ⟨rfl, State.Warmed39.refl s, rfl, Or.inl IB.start⟩ trivial
  refine ⟨n, _, h1, h2, h3, hpost _ _ _ _ _ _ ⟨Cond.after_iff.mpr rfl, Cond.after_iff.mpr (eq_i res_at (Term.int_eval (1)) rfl), trivial⟩ ⟨hq.1, hq.2.1, hq.2.2.1, (hq.2.2.2.sift fun y hy => Or.inr (N y hy)).mono (by decide) (by decide)⟩⟩
theorem main_1_1 : Claimed_1_1 := own_comes fun _ _ _ _ _ _ h hF => ⟨h.1, hF⟩
theorem main_1_2 : Claimed_1_2 := own_comes fun _ _ _ _ _ _ h hF => ⟨h.2.1, hF⟩

end Jvm.Pilot.@@N@@
namespace Jvm.Pilot.@@N@@
open Jvm Jvm.ClassFile Sem Op Lib Jvm.Free Jvm.Stand Jvm.Pilot.@@N@@.Jvm.D
/-! MADE BY PROGRAM (witnessworld.py) out of the Statement's table words and the real class files: 23 classes; the members and pool entries that the words name. The judged class is class 1, her method 6. -/
namespace start1
open Jvm.ClassFile
def u (s : String) : CpInfo := .utf8 (stringToUtf16 s)
/-- a pool by its gaps: so many unusable entries, then the entry; so many at the end -/
def gap : Nat → List CpInfo → List CpInfo
  | 0, r => r
  | n + 1, r => .unusable :: gap n r
def poolList (es : List (Nat × CpInfo)) (last : Nat) : List CpInfo := es.foldr (fun e r => gap e.1 (e.2 :: r)) (gap last [])
def pool (es : List (Nat × CpInfo)) (last : Nat) : Array CpInfo := ⟨poolList es last⟩
def fileOf (pool : Array CpInfo) (this : Nat) (attrs : Array Attribute := #[]) (ms : Array MethodInfo := #[]) (fl : Nat := 33) (sup : Nat := 0) (ifs : Array Nat := #[]) (fds : Array FieldInfo := #[]) : ClassFile where
  minorVersion := 0
  majorVersion := 65
  constantPool := pool
  accessFlags := fl
  thisClass := this
  superClass := sup
  interfaces := ifs
  fields := fds
  methods := ms
  attributes := attrs
def plain (name : String) (sup : Option ClassId) : Class where
  name := name
  kind := .ordinary
  loader := none
  accessFlags := 33
  super := sup
  interfaces := #[]
  cf := none
  fields := #[]
  methods := #[]
  instanceTypes := #[]
  staticTypes := #[]
  resolved := #[]
  callSites := []
  init := .initialized
  statics := none
  mirror := none

def pool0 : Array CpInfo := pool [(5, u "<init>"), (0, u "()V"), (1, .class_ 10), (1, u "java/lang/Object")] 113

def k0c0 : Code := { maxStack := 0, maxLocals := 1, code := object_method_1_code, exceptionTable := #[], attributes := #[] }
def k0m0 : Method := { name := "<init>", desc := "()V", sig := { parameters := [], returnType := none }, accessFlags := 1, code := some k0c0 }
/-- java/lang/Object -/
def k0 : Class := { plain "java/lang/Object" none with
  accessFlags := 33
  interfaces := #[]
  cf := some (fileOf pool0 8 #[] #[{ accessFlags := 1, nameIndex := 5, descriptorIndex := 6, attributes := #[] }] 33 0 #[] #[])
  fields := #[]
  methods := #[k0m0]
  instanceTypes := #[]
  staticTypes := #[]
  resolved := Array.replicate 124 none
  statics := none }

def pool1 : Array CpInfo := pool [(2, .class_ 4), (1, u "java/lang/Object"), (0, u "<init>"), (0, u "()V"), (0, .methodref 8 9), (0, .class_ 10), (0, .nameAndType 11 12), (0, u "com/example/forec/forec/ConstantEqualsPinLaw"), (0, u "len"), (0, u "(I)I"), (0, .class_ 14), (0, u "java/lang/String"), (0, .methodref 13 16), (0, .nameAndType 5 17), (0, u "([C)V"), (0, .methodref 8 19), (0, .nameAndType 20 21), (0, u "ch0"), (0, u "(I)C"), (0, .methodref 8 23), (0, .nameAndType 24 21), (0, u "ch1"), (0, .class_ 26), (0, u "com/example/forec/forec/Value$Constant"), (0, .methodref 8 28), (0, .nameAndType 29 30), (0, u "str"), (0, u "(I)Ljava/lang/String;"), (0, .methodref 25 32), (0, .nameAndType 5 33), (0, u "(Ljava/lang/String;Ljava/lang/String;I)V"), (0, .methodref 8 35), (0, .nameAndType 36 37), (0, u "same"), (0, u "(II)Z"), (0, .methodref 25 39), (0, .nameAndType 40 41), (0, u "equals"), (0, u "(Ljava/lang/Object;)Z"), (0, .class_ 43), (0, u "com/example/forec/forec/Value$Int"), (0, .methodref 42 45), (0, .nameAndType 5 46), (0, u "(J)V"), (3, u "law"), (0, u "(IIIIII)Z")] 7

def k1m0 : Method := { name := "<init>", desc := "()V", sig := { parameters := [], returnType := none }, accessFlags := 2, code := none }
def k1c1 : Code := { maxStack := 2, maxLocals := 1, code := method_2_code, exceptionTable := #[], attributes := #[] }
def k1m1 : Method := { name := "len", desc := "(I)I", sig := { parameters := [.int], returnType := some .int }, accessFlags := 10, code := some k1c1 }
def k1c2 : Code := { maxStack := 2, maxLocals := 1, code := method_3_code, exceptionTable := #[], attributes := #[] }
def k1m2 : Method := { name := "ch0", desc := "(I)C", sig := { parameters := [.int], returnType := some .char }, accessFlags := 10, code := some k1c2 }
def k1c3 : Code := { maxStack := 2, maxLocals := 1, code := method_4_code, exceptionTable := #[], attributes := #[] }
def k1m3 : Method := { name := "ch1", desc := "(I)C", sig := { parameters := [.int], returnType := some .char }, accessFlags := 10, code := some k1c3 }
def k1c4 : Code := { maxStack := 3, maxLocals := 3, code := method_5_code, exceptionTable := #[], attributes := #[] }
def k1m4 : Method := { name := "str", desc := "(I)Ljava/lang/String;", sig := { parameters := [.int], returnType := some (.object "java/lang/String") }, accessFlags := 10, code := some k1c4 }
def k1c5 : Code := { maxStack := 2, maxLocals := 3, code := method_6_code, exceptionTable := #[], attributes := #[] }
def k1m5 : Method := { name := "same", desc := "(II)Z", sig := { parameters := [.int, .int], returnType := some .boolean }, accessFlags := 10, code := some k1c5 }
def k1c6 : Code := { maxStack := 5, maxLocals := 12, code := code, exceptionTable := #[], attributes := #[] }
def k1m6 : Method := { name := "law", desc := "(IIIIII)Z", sig := { parameters := [.int, .int, .int, .int, .int, .int], returnType := some .boolean }, accessFlags := 9, code := some k1c6 }
/-- com/example/forec/forec/ConstantEqualsPinLaw -/
def k1 : Class := { plain "com/example/forec/forec/ConstantEqualsPinLaw" (some 0) with
  accessFlags := 49
  interfaces := #[]
  cf := some (fileOf pool1 8 #[] #[{ accessFlags := 2, nameIndex := 5, descriptorIndex := 6, attributes := #[] }, { accessFlags := 10, nameIndex := 11, descriptorIndex := 12, attributes := #[] }, { accessFlags := 10, nameIndex := 20, descriptorIndex := 21, attributes := #[] }, { accessFlags := 10, nameIndex := 24, descriptorIndex := 21, attributes := #[] }, { accessFlags := 10, nameIndex := 29, descriptorIndex := 30, attributes := #[] }, { accessFlags := 10, nameIndex := 36, descriptorIndex := 37, attributes := #[] }, { accessFlags := 9, nameIndex := 50, descriptorIndex := 51, attributes := #[] }] 49 2 #[] #[])
  fields := #[]
  methods := #[k1m0, k1m1, k1m2, k1m3, k1m4, k1m5, k1m6]
  instanceTypes := #[]
  staticTypes := #[]
  resolved := Array.replicate 59 none
  statics := none }

def pool2 : Array CpInfo := pool [(1, .class_ 2), (0, u "java/lang/Comparable"), (0, .class_ 4), (0, u "java/lang/Object")] 7

/-- java/lang/Comparable -/
def k2 : Class := { plain "java/lang/Comparable" (some 0) with
  accessFlags := 1537
  interfaces := #[]
  cf := some (fileOf pool2 1 #[] #[] 1537 3 #[] #[])
  fields := #[]
  methods := #[]
  instanceTypes := #[]
  staticTypes := #[]
  resolved := Array.replicate 12 none
  statics := none }

def pool3 : Array CpInfo := pool [(2, .class_ 4), (1, u "com/example/forec/forec/Value"), (24, .class_ 30), (0, u "java/lang/Object"), (0, .class_ 32), (0, u "java/lang/Comparable"), (15, .class_ 49), (0, u "com/example/forec/forec/Value$FiniteSet"), (0, .class_ 51), (0, u "com/example/forec/forec/Value$Sequence"), (0, .class_ 53), (0, u "com/example/forec/forec/Value$Tuple"), (0, .class_ 55), (0, u "com/example/forec/forec/Value$Constant"), (0, .class_ 57), (0, u "com/example/forec/forec/Value$Int")] 7

/-- com/example/forec/forec/Value -/
def k3 : Class := { plain "com/example/forec/forec/Value" (some 0) with
  accessFlags := 1536
  interfaces := #[2]
  cf := some (fileOf pool3 2 #[.nestMembers #[48, 50, 52, 54, 56]] #[] 1536 29 #[31] #[])
  fields := #[]
  methods := #[]
  instanceTypes := #[]
  staticTypes := #[]
  resolved := Array.replicate 65 none
  statics := none }

def pool4 : Array CpInfo := pool [(1, .methodref 2 3), (0, .class_ 4), (0, .nameAndType 5 6), (0, u "java/lang/Object"), (0, u "<init>"), (0, u "()V"), (0, .methodref 8 9), (0, .class_ 10), (0, .nameAndType 11 12), (0, u "java/util/Objects"), (0, u "requireNonNull"), (0, u "(Ljava/lang/Object;)Ljava/lang/Object;"), (0, .class_ 14), (0, u "java/lang/String"), (0, .fieldref 16 17), (0, .class_ 18), (0, .nameAndType 19 20), (0, u "com/example/forec/forec/Value$Constant"), (0, u "type"), (0, u "Ljava/lang/String;"), (0, .fieldref 16 22), (0, .nameAndType 23 20), (0, u "name"), (0, .fieldref 16 25), (0, .nameAndType 26 27), (0, u "position"), (0, u "I"), (10, .methodref 13 39), (0, .nameAndType 40 41), (0, u "equals"), (0, u "(Ljava/lang/Object;)Z"), (4, .class_ 47), (0, u "com/example/forec/forec/Value"), (0, u "(Ljava/lang/String;Ljava/lang/String;I)V")] 15

def k4c0 : Code := { maxStack := 2, maxLocals := 4, code := prog_170_method_1_code, exceptionTable := #[], attributes := #[] }
def k4m0 : Method := { name := "<init>", desc := "(Ljava/lang/String;Ljava/lang/String;I)V", sig := { parameters := [(.object "java/lang/String"), (.object "java/lang/String"), .int], returnType := none }, accessFlags := 0, code := some k4c0 }
def k4c1 : Code := { maxStack := 2, maxLocals := 3, code := prog_170_method_5_code, exceptionTable := #[], attributes := #[] }
def k4m1 : Method := { name := "equals", desc := "(Ljava/lang/Object;)Z", sig := { parameters := [(.object "java/lang/Object")], returnType := some .boolean }, accessFlags := 1, code := some k4c1 }
/-- com/example/forec/forec/Value$Constant -/
def k4 : Class := { plain "com/example/forec/forec/Value$Constant" (some 0) with
  accessFlags := 49
  interfaces := #[3]
  cf := some (fileOf pool4 16 #[.nestHost 46] #[{ accessFlags := 0, nameIndex := 5, descriptorIndex := 48, attributes := #[] }, { accessFlags := 1, nameIndex := 40, descriptorIndex := 41, attributes := #[] }] 49 2 #[46] #[{ accessFlags := 18, nameIndex := 19, descriptorIndex := 20, attributes := #[] }, { accessFlags := 18, nameIndex := 23, descriptorIndex := 20, attributes := #[] }, { accessFlags := 18, nameIndex := 26, descriptorIndex := 27, attributes := #[] }])
  fields := #[{ name := "type", type := (.object "java/lang/String"), accessFlags := 18, slot := 0, constantValue := 0 }, { name := "name", type := (.object "java/lang/String"), accessFlags := 18, slot := 1, constantValue := 0 }, { name := "position", type := .int, accessFlags := 18, slot := 2, constantValue := 0 }]
  methods := #[k4m0, k4m1]
  instanceTypes := #[(.object "java/lang/String"), (.object "java/lang/String"), .int]
  staticTypes := #[]
  resolved := Array.replicate 64 none
  statics := none }

def pool5 : Array CpInfo := pool [(1, .class_ 2), (0, u "java/io/Serializable"), (0, .class_ 4), (0, u "java/lang/Object")] 2

/-- java/io/Serializable -/
def k5 : Class := { plain "java/io/Serializable" (some 0) with
  accessFlags := 1537
  interfaces := #[]
  cf := some (fileOf pool5 1 #[] #[] 1537 3 #[] #[])
  fields := #[]
  methods := #[]
  instanceTypes := #[]
  staticTypes := #[]
  resolved := Array.replicate 7 none
  statics := none }

def pool6 : Array CpInfo := pool [(2, .class_ 4), (1, u "java/lang/CharSequence"), (42, .class_ 48), (0, u "java/lang/CharSequence$1CodePointIterator"), (10, .class_ 60), (0, u "java/lang/CharSequence$1CharIterator"), (5, .class_ 67), (0, u "java/lang/Object")] 63

/-- java/lang/CharSequence -/
def k6 : Class := { plain "java/lang/CharSequence" (some 0) with
  accessFlags := 1537
  interfaces := #[]
  cf := some (fileOf pool6 2 #[.nestMembers #[47, 59]] #[] 1537 66 #[] #[])
  fields := #[]
  methods := #[]
  instanceTypes := #[]
  staticTypes := #[]
  resolved := Array.replicate 131 none
  statics := none }

def pool7 : Array CpInfo := pool [(1, .class_ 2), (0, u "java/lang/constant/Constable"), (0, .class_ 4), (0, u "java/lang/Object")] 6

/-- java/lang/constant/Constable -/
def k7 : Class := { plain "java/lang/constant/Constable" (some 0) with
  accessFlags := 1537
  interfaces := #[]
  cf := some (fileOf pool7 1 #[] #[] 1537 3 #[] #[])
  fields := #[]
  methods := #[]
  instanceTypes := #[]
  staticTypes := #[]
  resolved := Array.replicate 11 none
  statics := none }

def pool8 : Array CpInfo := pool [(1, .class_ 2), (0, u "java/lang/constant/ConstantDesc"), (0, .class_ 4), (0, u "java/lang/Object")] 32

/-- java/lang/constant/ConstantDesc -/
def k8 : Class := { plain "java/lang/constant/ConstantDesc" (some 0) with
  accessFlags := 1537
  interfaces := #[]
  cf := some (fileOf pool8 1 #[] #[] 1537 3 #[] #[])
  fields := #[]
  methods := #[]
  instanceTypes := #[]
  staticTypes := #[]
  resolved := Array.replicate 37 none
  statics := none }

def pool9 : Array CpInfo := pool [(1, .methodref 2 3), (0, .class_ 4), (0, .nameAndType 5 6), (0, u "java/lang/Object"), (0, u "<init>"), (0, u "()V"), (0, .string 8), (0, u ""), (0, .fieldref 10 11), (0, .class_ 12), (0, .nameAndType 13 14), (0, u "java/lang/String"), (0, u "value"), (0, u "[B"), (0, .fieldref 10 16), (0, .nameAndType 17 18), (0, u "coder"), (0, u "B"), (2, u "hash"), (0, u "I"), (2, u "hashIsZero"), (0, u "Z"), (0, .methodref 10 28), (0, .nameAndType 5 29), (0, u "([CIILjava/lang/Void;)V"), (8, .fieldref 10 39), (0, .nameAndType 40 26), (0, u "COMPACT_STRINGS"), (1, .class_ 44), (1, u "java/lang/StringUTF16"), (0, u "compress"), (1, .methodref 42 48), (0, .nameAndType 49 50), (0, u "coderFromArrayLen"), (0, u "([BI)B"), (56, .class_ 109), (1, u "java/lang/StringLatin1"), (67, .methodref 42 178), (0, .nameAndType 45 179), (0, u "([CII)[B"), (361, .methodref 107 542), (0, .nameAndType 543 544), (0, u "equals"), (0, u "([B[B)Z"), (28, u "(Ljava/lang/Object;)Z"), (1, .class_ 576), (0, u "java/lang/CharSequence"), (22, u "CASE_INSENSITIVE_ORDER"), (0, u "Ljava/util/Comparator;"), (409, u "([C)V"), (90, u "serialPersistentFields"), (0, u "[Ljava/io/ObjectStreamField;"), (0, .class_ 1104), (0, u "java/lang/String$CaseInsensitiveComparator"), (1, .class_ 1107), (0, u "java/io/Serializable"), (0, .class_ 1109), (0, u "java/lang/Comparable"), (0, .class_ 1111), (0, u "java/lang/constant/Constable"), (0, .class_ 1113), (0, u "java/lang/constant/ConstantDesc"), (2, u "serialVersionUID"), (0, u "J"), (3, u "REPL"), (0, u "C"), (2, u "LATIN1"), (1, u "UTF16")] 323

def k9m0 : Method := { name := "<init>", desc := "()V", sig := { parameters := [], returnType := none }, accessFlags := 1, code := none }
def k9c1 : Code := { maxStack := 5, maxLocals := 2, code := jdk_42_method_3_code, exceptionTable := #[], attributes := #[] }
def k9m1 : Method := { name := "<init>", desc := "([C)V", sig := { parameters := [(.array .char)], returnType := none }, accessFlags := 1, code := some k9c1 }
def k9c2 : Code := { maxStack := 2, maxLocals := 3, code := jdk_42_method_66_code, exceptionTable := #[], attributes := #[] }
def k9m2 : Method := { name := "equals", desc := "(Ljava/lang/Object;)Z", sig := { parameters := [(.object "java/lang/Object")], returnType := some .boolean }, accessFlags := 1, code := some k9c2 }
def k9c3 : Code := { maxStack := 4, maxLocals := 6, code := jdk_42_method_149_code, exceptionTable := #[], attributes := #[] }
def k9m3 : Method := { name := "<init>", desc := "([CIILjava/lang/Void;)V", sig := { parameters := [(.array .char), .int, .int, (.object "java/lang/Void")], returnType := none }, accessFlags := 2, code := some k9c3 }
/-- java/lang/String -/
def k9 : Class := { plain "java/lang/String" (some 0) with
  accessFlags := 49
  interfaces := #[5, 2, 6, 7, 8]
  cf := some (fileOf pool9 10 #[.nestMembers #[1103]] #[{ accessFlags := 1, nameIndex := 5, descriptorIndex := 6, attributes := #[] }, { accessFlags := 1, nameIndex := 5, descriptorIndex := 1010, attributes := #[] }, { accessFlags := 1, nameIndex := 543, descriptorIndex := 573, attributes := #[] }, { accessFlags := 2, nameIndex := 5, descriptorIndex := 29, attributes := #[] }] 49 2 #[1106, 1108, 575, 1110, 1112] #[{ accessFlags := 18, nameIndex := 13, descriptorIndex := 14, attributes := #[] }, { accessFlags := 18, nameIndex := 17, descriptorIndex := 18, attributes := #[] }, { accessFlags := 2, nameIndex := 21, descriptorIndex := 22, attributes := #[] }, { accessFlags := 2, nameIndex := 25, descriptorIndex := 26, attributes := #[] }, { accessFlags := 26, nameIndex := 1116, descriptorIndex := 1117, attributes := #[] }, { accessFlags := 24, nameIndex := 40, descriptorIndex := 26, attributes := #[] }, { accessFlags := 26, nameIndex := 1101, descriptorIndex := 1102, attributes := #[] }, { accessFlags := 26, nameIndex := 1121, descriptorIndex := 1122, attributes := #[] }, { accessFlags := 25, nameIndex := 599, descriptorIndex := 600, attributes := #[] }, { accessFlags := 24, nameIndex := 1125, descriptorIndex := 18, attributes := #[] }, { accessFlags := 24, nameIndex := 1127, descriptorIndex := 18, attributes := #[] }])
  fields := #[{ name := "value", type := (.array .byte), accessFlags := 18, slot := 0, constantValue := 0 }, { name := "coder", type := .byte, accessFlags := 18, slot := 1, constantValue := 0 }, { name := "hash", type := .int, accessFlags := 2, slot := 2, constantValue := 0 }, { name := "hashIsZero", type := .boolean, accessFlags := 2, slot := 3, constantValue := 0 }, { name := "serialVersionUID", type := .long, accessFlags := 26, slot := 0, constantValue := 0 }, { name := "COMPACT_STRINGS", type := .boolean, accessFlags := 24, slot := 1, constantValue := 0 }, { name := "serialPersistentFields", type := (.array (.object "java/io/ObjectStreamField")), accessFlags := 26, slot := 2, constantValue := 0 }, { name := "REPL", type := .char, accessFlags := 26, slot := 3, constantValue := 0 }, { name := "CASE_INSENSITIVE_ORDER", type := (.object "java/util/Comparator"), accessFlags := 25, slot := 4, constantValue := 0 }, { name := "LATIN1", type := .byte, accessFlags := 24, slot := 5, constantValue := 0 }, { name := "UTF16", type := .byte, accessFlags := 24, slot := 6, constantValue := 0 }]
  methods := #[k9m0, k9m1, k9m2, k9m3]
  instanceTypes := #[(.array .byte), .byte, .int, .boolean]
  staticTypes := #[.long, .boolean, (.array (.object "java/io/ObjectStreamField")), .char, (.object "java/util/Comparator"), .byte, .byte]
  resolved := Array.replicate 1451 none
  statics := some 0 }

def pool10 : Array CpInfo := pool [(2, .class_ 4), (1, u "java/lang/Object"), (0, u "<init>"), (0, u "()V"), (35, .class_ 44), (1, u "java/util/Objects"), (0, u "requireNonNull"), (0, u "(Ljava/lang/Object;)Ljava/lang/Object;")] 137

def k10m0 : Method := { name := "<init>", desc := "()V", sig := { parameters := [], returnType := none }, accessFlags := 2, code := none }
def k10c1 : Code := { maxStack := 2, maxLocals := 1, code := jdk_31_method_10_code, exceptionTable := #[], attributes := #[] }
def k10m1 : Method := { name := "requireNonNull", desc := "(Ljava/lang/Object;)Ljava/lang/Object;", sig := { parameters := [(.object "java/lang/Object")], returnType := some (.object "java/lang/Object") }, accessFlags := 9, code := some k10c1 }
/-- java/util/Objects -/
def k10 : Class := { plain "java/util/Objects" (some 0) with
  accessFlags := 49
  interfaces := #[]
  cf := some (fileOf pool10 42 #[] #[{ accessFlags := 2, nameIndex := 5, descriptorIndex := 6, attributes := #[] }, { accessFlags := 9, nameIndex := 45, descriptorIndex := 46, attributes := #[] }] 49 2 #[] #[])
  fields := #[]
  methods := #[k10m0, k10m1]
  instanceTypes := #[]
  staticTypes := #[]
  resolved := Array.replicate 184 none
  statics := none }

def pool11 : Array CpInfo := pool [(6, .class_ 8), (1, u "java/lang/Object"), (0, u "<init>"), (0, u "()V"), (1, .class_ 14), (1, u "java/lang/StringUTF16"), (31, u "$assertionsDisabled"), (0, u "Z"), (13, u "HI_BYTE_SHIFT"), (0, u "I"), (2, u "LO_BYTE_SHIFT"), (49, .methodref 12 116), (0, .nameAndType 117 118), (0, u "compress"), (0, u "([CI[BII)I"), (3, u "([CII)[B"), (138, u "coderFromArrayLen"), (0, u "([BI)B"), (106, .class_ 371), (1, u "java/lang/StringUTF16$LinesSpliterator"), (58, u "MAX_LENGTH"), (196, .class_ 628), (0, u "java/lang/StringUTF16$CodePointsSpliterator"), (0, .class_ 630), (0, u "java/lang/StringUTF16$CharsSpliterator")] 4

def k11m0 : Method := { name := "<init>", desc := "()V", sig := { parameters := [], returnType := none }, accessFlags := 0, code := none }
def k11c1 : Code := { maxStack := 2, maxLocals := 2, code := jdk_52_method_15_code, exceptionTable := #[], attributes := #[] }
def k11m1 : Method := { name := "coderFromArrayLen", desc := "([BI)B", sig := { parameters := [(.array .byte), .int], returnType := some .byte }, accessFlags := 8, code := some k11c1 }
def k11c2 : Code := { maxStack := 5, maxLocals := 6, code := jdk_52_method_16_code, exceptionTable := #[], attributes := #[] }
def k11m2 : Method := { name := "compress", desc := "([CII)[B", sig := { parameters := [(.array .char), .int, .int], returnType := some (.array .byte) }, accessFlags := 9, code := some k11c2 }
def k11c3 : Code := { maxStack := 3, maxLocals := 7, code := jdk_52_method_21_code, exceptionTable := #[], attributes := #[] }
def k11m3 : Method := { name := "compress", desc := "([CI[BII)I", sig := { parameters := [(.array .char), .int, (.array .byte), .int, .int], returnType := some .int }, accessFlags := 9, code := some k11c3 }
/-- java/lang/StringUTF16 -/
def k11 : Class := { plain "java/lang/StringUTF16" (some 0) with
  accessFlags := 48
  interfaces := #[]
  cf := some (fileOf pool11 12 #[.nestMembers #[627, 629, 369]] #[{ accessFlags := 0, nameIndex := 9, descriptorIndex := 10, attributes := #[] }, { accessFlags := 8, nameIndex := 261, descriptorIndex := 262, attributes := #[] }, { accessFlags := 9, nameIndex := 117, descriptorIndex := 122, attributes := #[] }, { accessFlags := 9, nameIndex := 117, descriptorIndex := 118, attributes := #[] }] 48 6 #[] #[{ accessFlags := 26, nameIndex := 61, descriptorIndex := 62, attributes := #[] }, { accessFlags := 26, nameIndex := 65, descriptorIndex := 62, attributes := #[] }, { accessFlags := 24, nameIndex := 430, descriptorIndex := 62, attributes := #[] }, { accessFlags := 4120, nameIndex := 46, descriptorIndex := 47, attributes := #[] }])
  fields := #[{ name := "HI_BYTE_SHIFT", type := .int, accessFlags := 26, slot := 0, constantValue := 0 }, { name := "LO_BYTE_SHIFT", type := .int, accessFlags := 26, slot := 1, constantValue := 0 }, { name := "MAX_LENGTH", type := .int, accessFlags := 24, slot := 2, constantValue := 0 }, { name := "$assertionsDisabled", type := .boolean, accessFlags := 4120, slot := 3, constantValue := 0 }]
  methods := #[k11m0, k11m1, k11m2, k11m3]
  instanceTypes := #[]
  staticTypes := #[.int, .int, .int, .boolean]
  resolved := Array.replicate 635 none
  statics := none }

def pool12 : Array CpInfo := pool [(4, .class_ 6), (1, u "java/lang/Object"), (0, u "<init>"), (0, u "()V"), (5, .class_ 16), (1, u "java/lang/StringLatin1"), (104, u "$assertionsDisabled"), (0, u "Z"), (98, .class_ 223), (1, u "java/lang/StringLatin1$LinesSpliterator"), (57, u "equals"), (0, u "([B[B)Z"), (107, .class_ 391), (0, u "java/lang/StringLatin1$CharsSpliterator")] 3

def k12m0 : Method := { name := "<init>", desc := "()V", sig := { parameters := [], returnType := none }, accessFlags := 0, code := none }
def k12c1 : Code := { maxStack := 3, maxLocals := 3, code := jdk_43_method_13_code, exceptionTable := #[], attributes := #[] }
def k12m1 : Method := { name := "equals", desc := "([B[B)Z", sig := { parameters := [(.array .byte), (.array .byte)], returnType := some .boolean }, accessFlags := 9, code := some k12c1 }
/-- java/lang/StringLatin1 -/
def k12 : Class := { plain "java/lang/StringLatin1" (some 0) with
  accessFlags := 48
  interfaces := #[]
  cf := some (fileOf pool12 14 #[.nestMembers #[390, 221]] #[{ accessFlags := 0, nameIndex := 7, descriptorIndex := 8, attributes := #[] }, { accessFlags := 9, nameIndex := 281, descriptorIndex := 282, attributes := #[] }] 48 4 #[] #[{ accessFlags := 4120, nameIndex := 121, descriptorIndex := 122, attributes := #[] }])
  fields := #[{ name := "$assertionsDisabled", type := .boolean, accessFlags := 4120, slot := 0, constantValue := 0 }]
  methods := #[k12m0, k12m1]
  instanceTypes := #[]
  staticTypes := #[.boolean]
  resolved := Array.replicate 395 none
  statics := none }

def pool13 : Array CpInfo := pool [(1, .methodref 2 3), (0, .class_ 4), (0, .nameAndType 5 6), (0, u "java/lang/Object"), (0, u "<init>"), (0, u "()V"), (0, .fieldref 8 9), (0, .class_ 10), (0, .nameAndType 11 12), (0, u "com/example/forec/forec/Value$Int"), (0, u "value"), (0, u "J"), (14, .class_ 28), (0, u "com/example/forec/forec/Value"), (0, u "(J)V")] 16

def k13c0 : Code := { maxStack := 3, maxLocals := 3, code := prog_172_method_1_code, exceptionTable := #[], attributes := #[] }
def k13m0 : Method := { name := "<init>", desc := "(J)V", sig := { parameters := [.long], returnType := none }, accessFlags := 0, code := some k13c0 }
/-- com/example/forec/forec/Value$Int -/
def k13 : Class := { plain "com/example/forec/forec/Value$Int" (some 0) with
  accessFlags := 49
  interfaces := #[3]
  cf := some (fileOf pool13 8 #[.nestHost 27] #[{ accessFlags := 0, nameIndex := 5, descriptorIndex := 29, attributes := #[] }] 49 2 #[27] #[{ accessFlags := 18, nameIndex := 11, descriptorIndex := 12, attributes := #[] }])
  fields := #[{ name := "value", type := .long, accessFlags := 18, slot := 0, constantValue := 0 }]
  methods := #[k13m0]
  instanceTypes := #[.long]
  staticTypes := #[]
  resolved := Array.replicate 46 none
  statics := none }

def pool14 : Array CpInfo := pool [(2, .class_ 4), (1, u "java/lang/Object"), (0, u "<init>"), (0, u "()V"), (17, .class_ 26), (1, u "jdk/internal/util/Preconditions"), (28, .class_ 56), (0, u "jdk/internal/util/Preconditions$4"), (57, .class_ 115), (0, u "jdk/internal/util/Preconditions$1"), (7, u "SIOOBE_FORMATTER"), (0, u "Ljava/util/function/BiFunction;"), (0, .class_ 126), (0, u "jdk/internal/util/Preconditions$2"), (3, u "AIOOBE_FORMATTER"), (0, .class_ 132), (0, u "jdk/internal/util/Preconditions$3"), (3, u "IOOBE_FORMATTER")] 57

def k14m0 : Method := { name := "<init>", desc := "()V", sig := { parameters := [], returnType := none }, accessFlags := 1, code := none }
/-- jdk/internal/util/Preconditions -/
def k14 : Class := { plain "jdk/internal/util/Preconditions" (some 0) with
  accessFlags := 33
  interfaces := #[]
  cf := some (fileOf pool14 24 #[.nestMembers #[55, 131, 125, 114]] #[{ accessFlags := 1, nameIndex := 5, descriptorIndex := 6, attributes := #[] }] 33 2 #[] #[{ accessFlags := 25, nameIndex := 123, descriptorIndex := 124, attributes := #[] }, { accessFlags := 25, nameIndex := 130, descriptorIndex := 124, attributes := #[] }, { accessFlags := 25, nameIndex := 136, descriptorIndex := 124, attributes := #[] }])
  fields := #[{ name := "SIOOBE_FORMATTER", type := (.object "java/util/function/BiFunction"), accessFlags := 25, slot := 0, constantValue := 0 }, { name := "AIOOBE_FORMATTER", type := (.object "java/util/function/BiFunction"), accessFlags := 25, slot := 1, constantValue := 0 }, { name := "IOOBE_FORMATTER", type := (.object "java/util/function/BiFunction"), accessFlags := 25, slot := 2, constantValue := 0 }]
  methods := #[k14m0]
  instanceTypes := #[]
  staticTypes := #[(.object "java/util/function/BiFunction"), (.object "java/util/function/BiFunction"), (.object "java/util/function/BiFunction")]
  resolved := Array.replicate 194 none
  statics := some 1 }

def pool15 : Array CpInfo := pool [(9, u "<init>"), (6, .class_ 18), (1, u "java/lang/Object"), (0, u "()V"), (1, .class_ 23), (1, u "jdk/internal/util/ArraysSupport"), (0, u "LOG2_ARRAY_LONG_INDEX_SCALE"), (0, u "I"), (2, u "U"), (0, u "Ljdk/internal/misc/Unsafe;"), (8, u "BIG_ENDIAN"), (0, u "Z"), (8, u "LOG2_BYTE_BIT_SIZE"), (4, u "LOG2_ARRAY_INT_INDEX_SCALE"), (54, u "JLA"), (0, u "Ljdk/internal/access/JavaLangAccess;"), (11, u "LOG2_ARRAY_BOOLEAN_INDEX_SCALE"), (9, u "LOG2_ARRAY_BYTE_INDEX_SCALE"), (5, u "LOG2_ARRAY_CHAR_INDEX_SCALE"), (5, u "LOG2_ARRAY_SHORT_INDEX_SCALE"), (18, u "LOG2_ARRAY_FLOAT_INDEX_SCALE"), (24, u "LOG2_ARRAY_DOUBLE_INDEX_SCALE"), (89, u "T_BOOLEAN"), (2, u "T_CHAR"), (1, u "T_FLOAT"), (1, u "T_DOUBLE"), (1, u "T_BYTE"), (1, u "T_SHORT"), (1, u "T_INT"), (1, u "T_LONG"), (1, u "SOFT_MAX_ARRAY_LENGTH")] 83

def k15m0 : Method := { name := "<init>", desc := "()V", sig := { parameters := [], returnType := none }, accessFlags := 2, code := none }
/-- jdk/internal/util/ArraysSupport -/
def k15 : Class := { plain "jdk/internal/util/ArraysSupport" (some 0) with
  accessFlags := 33
  interfaces := #[]
  cf := some (fileOf pool15 21 #[] #[{ accessFlags := 2, nameIndex := 9, descriptorIndex := 19, attributes := #[] }] 33 16 #[] #[{ accessFlags := 24, nameIndex := 28, descriptorIndex := 29, attributes := #[] }, { accessFlags := 26, nameIndex := 38, descriptorIndex := 39, attributes := #[] }, { accessFlags := 25, nameIndex := 121, descriptorIndex := 25, attributes := #[] }, { accessFlags := 25, nameIndex := 131, descriptorIndex := 25, attributes := #[] }, { accessFlags := 25, nameIndex := 137, descriptorIndex := 25, attributes := #[] }, { accessFlags := 25, nameIndex := 143, descriptorIndex := 25, attributes := #[] }, { accessFlags := 25, nameIndex := 53, descriptorIndex := 25, attributes := #[] }, { accessFlags := 25, nameIndex := 24, descriptorIndex := 25, attributes := #[] }, { accessFlags := 25, nameIndex := 162, descriptorIndex := 25, attributes := #[] }, { accessFlags := 25, nameIndex := 187, descriptorIndex := 25, attributes := #[] }, { accessFlags := 26, nameIndex := 48, descriptorIndex := 25, attributes := #[] }, { accessFlags := 25, nameIndex := 277, descriptorIndex := 25, attributes := #[] }, { accessFlags := 25, nameIndex := 280, descriptorIndex := 25, attributes := #[] }, { accessFlags := 25, nameIndex := 282, descriptorIndex := 25, attributes := #[] }, { accessFlags := 25, nameIndex := 284, descriptorIndex := 25, attributes := #[] }, { accessFlags := 25, nameIndex := 286, descriptorIndex := 25, attributes := #[] }, { accessFlags := 25, nameIndex := 288, descriptorIndex := 25, attributes := #[] }, { accessFlags := 25, nameIndex := 290, descriptorIndex := 25, attributes := #[] }, { accessFlags := 25, nameIndex := 292, descriptorIndex := 25, attributes := #[] }, { accessFlags := 26, nameIndex := 108, descriptorIndex := 109, attributes := #[] }, { accessFlags := 25, nameIndex := 294, descriptorIndex := 25, attributes := #[] }])
  fields := #[{ name := "U", type := (.object "jdk/internal/misc/Unsafe"), accessFlags := 24, slot := 0, constantValue := 0 }, { name := "BIG_ENDIAN", type := .boolean, accessFlags := 26, slot := 1, constantValue := 0 }, { name := "LOG2_ARRAY_BOOLEAN_INDEX_SCALE", type := .int, accessFlags := 25, slot := 2, constantValue := 0 }, { name := "LOG2_ARRAY_BYTE_INDEX_SCALE", type := .int, accessFlags := 25, slot := 3, constantValue := 0 }, { name := "LOG2_ARRAY_CHAR_INDEX_SCALE", type := .int, accessFlags := 25, slot := 4, constantValue := 0 }, { name := "LOG2_ARRAY_SHORT_INDEX_SCALE", type := .int, accessFlags := 25, slot := 5, constantValue := 0 }, { name := "LOG2_ARRAY_INT_INDEX_SCALE", type := .int, accessFlags := 25, slot := 6, constantValue := 0 }, { name := "LOG2_ARRAY_LONG_INDEX_SCALE", type := .int, accessFlags := 25, slot := 7, constantValue := 0 }, { name := "LOG2_ARRAY_FLOAT_INDEX_SCALE", type := .int, accessFlags := 25, slot := 8, constantValue := 0 }, { name := "LOG2_ARRAY_DOUBLE_INDEX_SCALE", type := .int, accessFlags := 25, slot := 9, constantValue := 0 }, { name := "LOG2_BYTE_BIT_SIZE", type := .int, accessFlags := 26, slot := 10, constantValue := 0 }, { name := "T_BOOLEAN", type := .int, accessFlags := 25, slot := 11, constantValue := 0 }, { name := "T_CHAR", type := .int, accessFlags := 25, slot := 12, constantValue := 0 }, { name := "T_FLOAT", type := .int, accessFlags := 25, slot := 13, constantValue := 0 }, { name := "T_DOUBLE", type := .int, accessFlags := 25, slot := 14, constantValue := 0 }, { name := "T_BYTE", type := .int, accessFlags := 25, slot := 15, constantValue := 0 }, { name := "T_SHORT", type := .int, accessFlags := 25, slot := 16, constantValue := 0 }, { name := "T_INT", type := .int, accessFlags := 25, slot := 17, constantValue := 0 }, { name := "T_LONG", type := .int, accessFlags := 25, slot := 18, constantValue := 0 }, { name := "JLA", type := (.object "jdk/internal/access/JavaLangAccess"), accessFlags := 26, slot := 19, constantValue := 0 }, { name := "SOFT_MAX_ARRAY_LENGTH", type := .int, accessFlags := 25, slot := 20, constantValue := 0 }]
  methods := #[k15m0]
  instanceTypes := #[]
  staticTypes := #[(.object "jdk/internal/misc/Unsafe"), .boolean, .int, .int, .int, .int, .int, .int, .int, .int, .int, .int, .int, .int, .int, .int, .int, .int, .int, (.object "jdk/internal/access/JavaLangAccess"), .int]
  resolved := Array.replicate 378 none
  statics := none }

def pool16 : Array CpInfo := pool [(1, u "java/lang/Cloneable"), (0, .class_ 1), (0, u "java/lang/Object"), (0, .class_ 3)] 3

/-- java/lang/Cloneable -/
def k16 : Class := { plain "java/lang/Cloneable" (some 0) with
  accessFlags := 1537
  interfaces := #[]
  cf := some (fileOf pool16 2 #[] #[] 1537 4 #[] #[])
  fields := #[]
  methods := #[]
  instanceTypes := #[]
  staticTypes := #[]
  resolved := Array.replicate 8 none
  statics := none }

/-- the primitive byte -/
def k17 : Class := { plain "byte" none with kind := .primitive 'B', accessFlags := 0x411 }
/-- [B -/
def k18 : Class := { plain "[B" (some 0) with kind := .array 17 .byte, interfaces := #[16, 5], accessFlags := 1041 }

/-- the primitive char -/
def k19 : Class := { plain "char" none with kind := .primitive 'C', accessFlags := 0x411 }
/-- [C -/
def k20 : Class := { plain "[C" (some 0) with kind := .array 19 .char, interfaces := #[16, 5], accessFlags := 1041 }

/-- the primitive int -/
def k21 : Class := { plain "int" none with kind := .primitive 'I', accessFlags := 0x411 }
/-- [I -/
def k22 : Class := { plain "[I" (some 0) with kind := .array 21 .int, interfaces := #[16, 5], accessFlags := 1041 }

def heap : Heap := #[{ cls := 9, slots := #[.long 0, .int 1, .null, .int 0, .null, .int 0, .int 0], vm := .statics 9 },
  { cls := 14, slots := #[.null, .null, .null], vm := .statics 14 }]
def classes : Array Class := #[k0, k1, k2, k3, k4, k5, k6, k7, k8, k9, k10, k11, k12, k13, k14, k15, k16, k17, k18, k19, k20, k21, k22]
def interned : List (Array UInt16 × Addr) := []
def slotsUsed : Nat := 10
def theMethod : MethodId := ⟨1, 6⟩
def args0 : Array Value := #[.int 1, .int 2, .int 3, .int 4, .int 5, .int 6]
def aboutOver (below : List Frame) : State where
  vm := { classes := classes, interned := interned.toArray }
  heap := heap
  slotsUsed := slotsUsed
  threads := #[{ frames := .invoking theMethod args0 :: below }]
def below0 : List Frame := [.native { method := ⟨0, 0⟩, args := #[] }]
def about1 : State := aboutOver below0
def p0 : Program := .bare "" "" ""
def e0 : Env := launch0.env 0 0 0
theorem w_frames : about1.frames = Frame.invoking theMethod args0 :: below0 := rfl
set_option maxRecDepth 65536 in
theorem w_args : argsFit about1.vm theMethod args0 = true := by decide +kernel
set_option maxRecDepth 65536 in
theorem w_heap : heapFits about1 = true := by decide +kernel
set_option maxRecDepth 65536 in
theorem w_runnable : about1.curStatus? = some .runnable := by decide +kernel
set_option maxRecDepth 65536 in
theorem w_alone : about1.alone = true := by decide +kernel
set_option maxRecDepth 65536 in
theorem w_named : about1.methodNamed? x = some theMethod := by decide +kernel
set_option maxRecDepth 65536 in
theorem w_hears : about1.hears theMethod below0 = true := by decide +kernel
set_option maxRecDepth 65536 in
theorem w_ripe : about1.ripe theMethod args0 below0 = true := by decide +kernel
theorem w_running : about1.status = .running := rfl
set_option maxRecDepth 65536 in
theorem w_room : about1.hasRoom e0.platform room_1 = true :=
  launch0.hasRoom_least _ room_1 (by decide +kernel) (by decide +kernel) (by decide +kernel) (by decide +kernel) (by decide +kernel) (by decide +kernel)
theorem allAtoms_all (ts : List Jvm.Cond) (a : Array Jvm.Value) (st : Jvm.State) : (allAtoms ts).before a st = ts.all (fun c => c.before a st) := by
  induction ts with
  | nil => rfl
  | cons c t ih =>
    show (Jvm.Cond.and c (allAtoms t)).before a st = _
    rw [Jvm.Cond.before_and, ih, List.all_cons]
def words1 : List Jvm.Cond := Jvm.Cond.code x code maxLocals ret :: tables_1
/-- a 'code' word, met by the world's own term for the bytes: nothing is compared byte by byte -/
theorem code_word {y : MethodName} {bytes : ByteArray} {mx : Nat} {rt : Option FieldType} {a : Array Value} {s : State} {m : MethodId} {meth : Method} {c : Code} (h1 : s.methodNamed? y = some m) (h2 : s.vm.method? m = some meth) (h3 : meth.code = some c) (h4 : c.code = bytes)
    (h5 : (c.maxLocals == mx && c.exceptionTable.isEmpty && decide (c.maxStack ≤ mostOperands) && decide (meth.sig.returnType = rt) && !meth.locks && decide (parseMethodDescriptor y.desc = some meth.sig)) = true) : (Jvm.Cond.code y bytes mx rt).before a s = true := by
  simp only [Bool.and_eq_true, beq_iff_eq, Bool.not_eq_true', decide_eq_true_eq] at h5
  obtain ⟨⟨⟨⟨⟨g1, g2⟩, g3⟩, g4⟩, g5⟩, g6⟩ := h5
  simp [Cond.before, Cond.holds, Cond.value, h1, h2, h3, h4, g1, g2, g3, g4, g5, g6]
def isCode : Jvm.Cond → Bool
  | .code _ _ _ _ => true
  | _ => false
theorem all_split {L : List Jvm.Cond} {P : Jvm.Cond → Bool} (h1 : L.all (fun c => isCode c || P c) = true) (h2 : ∀ c ∈ L.filter isCode, P c = true) : L.all P = true := by
  refine List.all_eq_true.mpr fun c hc => ?_
  have h := List.all_eq_true.mp h1 c hc
  rcases Bool.eq_false_or_eq_true (isCode c) with hi | hi
  · exact h2 c (List.mem_filter.mpr ⟨hc, hi⟩)
  · simpa [hi] using h
set_option maxRecDepth 65536 in
theorem w_c0 : (Jvm.Cond.code x code maxLocals ret).before args0 about1 = true := code_word (m := ⟨1, 6⟩) (meth := k1m6) (c := k1c6) (by decide +kernel) rfl rfl rfl (by decide +kernel)
set_option maxRecDepth 65536 in
theorem w_c1 : (Jvm.Cond.code ({ cls := "com/example/forec/forec/ConstantEqualsPinLaw", name := "str", desc := "(I)Ljava/lang/String;" } : Jvm.MethodName) method_5_code (3 : Nat) (Option.some (Jvm.ClassFile.FieldType.object "java/lang/String"))).before args0 about1 = true := code_word (m := ⟨1, 4⟩) (meth := k1m4) (c := k1c4) (by decide +kernel) rfl rfl rfl (by decide +kernel)
set_option maxRecDepth 65536 in
theorem w_c2 : (Jvm.Cond.code ({ cls := "com/example/forec/forec/ConstantEqualsPinLaw", name := "len", desc := "(I)I" } : Jvm.MethodName) method_2_code (1 : Nat) (Option.some Jvm.ClassFile.FieldType.int)).before args0 about1 = true := code_word (m := ⟨1, 1⟩) (meth := k1m1) (c := k1c1) (by decide +kernel) rfl rfl rfl (by decide +kernel)
set_option maxRecDepth 65536 in
theorem w_c3 : (Jvm.Cond.code ({ cls := "java/lang/String", name := "<init>", desc := "([C)V" } : Jvm.MethodName) jdk_42_method_3_code (2 : Nat) (Option.none : Option Jvm.ClassFile.FieldType)).before args0 about1 = true := code_word (m := ⟨9, 1⟩) (meth := k9m1) (c := k9c1) (by decide +kernel) rfl rfl rfl (by decide +kernel)
set_option maxRecDepth 65536 in
theorem w_c4 : (Jvm.Cond.code ({ cls := "java/lang/String", name := "<init>", desc := "([CIILjava/lang/Void;)V" } : Jvm.MethodName) jdk_42_method_149_code (6 : Nat) (Option.none : Option Jvm.ClassFile.FieldType)).before args0 about1 = true := code_word (m := ⟨9, 3⟩) (meth := k9m3) (c := k9c3) (by decide +kernel) rfl rfl rfl (by decide +kernel)
set_option maxRecDepth 65536 in
theorem w_c5 : (Jvm.Cond.code ({ cls := "java/lang/Object", name := "<init>", desc := "()V" } : Jvm.MethodName) object_method_1_code (1 : Nat) (Option.none : Option Jvm.ClassFile.FieldType)).before args0 about1 = true := code_word (m := ⟨0, 0⟩) (meth := k0m0) (c := k0c0) (by decide +kernel) rfl rfl rfl (by decide +kernel)
set_option maxRecDepth 65536 in
theorem w_c6 : (Jvm.Cond.code ({ cls := "com/example/forec/forec/Value$Constant", name := "<init>", desc := "(Ljava/lang/String;Ljava/lang/String;I)V" } : Jvm.MethodName) prog_170_method_1_code (4 : Nat) (Option.none : Option Jvm.ClassFile.FieldType)).before args0 about1 = true := code_word (m := ⟨4, 0⟩) (meth := k4m0) (c := k4c0) (by decide +kernel) rfl rfl rfl (by decide +kernel)
set_option maxRecDepth 65536 in
theorem w_c7 : (Jvm.Cond.code ({ cls := "java/util/Objects", name := "requireNonNull", desc := "(Ljava/lang/Object;)Ljava/lang/Object;" } : Jvm.MethodName) jdk_31_method_10_code (1 : Nat) (Option.some (Jvm.ClassFile.FieldType.object "java/lang/Object"))).before args0 about1 = true := code_word (m := ⟨10, 1⟩) (meth := k10m1) (c := k10c1) (by decide +kernel) rfl rfl rfl (by decide +kernel)
set_option maxRecDepth 65536 in
theorem w_c8 : (Jvm.Cond.code ({ cls := "com/example/forec/forec/ConstantEqualsPinLaw", name := "ch0", desc := "(I)C" } : Jvm.MethodName) method_3_code (1 : Nat) (Option.some Jvm.ClassFile.FieldType.char)).before args0 about1 = true := code_word (m := ⟨1, 2⟩) (meth := k1m2) (c := k1c2) (by decide +kernel) rfl rfl rfl (by decide +kernel)
set_option maxRecDepth 65536 in
theorem w_c9 : (Jvm.Cond.code ({ cls := "com/example/forec/forec/ConstantEqualsPinLaw", name := "ch1", desc := "(I)C" } : Jvm.MethodName) method_4_code (1 : Nat) (Option.some Jvm.ClassFile.FieldType.char)).before args0 about1 = true := code_word (m := ⟨1, 3⟩) (meth := k1m3) (c := k1c3) (by decide +kernel) rfl rfl rfl (by decide +kernel)
set_option maxRecDepth 65536 in
theorem w_c10 : (Jvm.Cond.code ({ cls := "java/lang/StringUTF16", name := "compress", desc := "([CII)[B" } : Jvm.MethodName) jdk_52_method_16_code (6 : Nat) (Option.some (Jvm.ClassFile.FieldType.array Jvm.ClassFile.FieldType.byte))).before args0 about1 = true := code_word (m := ⟨11, 2⟩) (meth := k11m2) (c := k11c2) (by decide +kernel) rfl rfl rfl (by decide +kernel)
set_option maxRecDepth 65536 in
theorem w_c11 : (Jvm.Cond.code ({ cls := "java/lang/StringUTF16", name := "compress", desc := "([CI[BII)I" } : Jvm.MethodName) jdk_52_method_21_code (7 : Nat) (Option.some Jvm.ClassFile.FieldType.int)).before args0 about1 = true := code_word (m := ⟨11, 3⟩) (meth := k11m3) (c := k11c3) (by decide +kernel) rfl rfl rfl (by decide +kernel)
set_option maxRecDepth 65536 in
theorem w_c12 : (Jvm.Cond.code ({ cls := "java/lang/StringUTF16", name := "coderFromArrayLen", desc := "([BI)B" } : Jvm.MethodName) jdk_52_method_15_code (2 : Nat) (Option.some Jvm.ClassFile.FieldType.byte)).before args0 about1 = true := code_word (m := ⟨11, 1⟩) (meth := k11m1) (c := k11c1) (by decide +kernel) rfl rfl rfl (by decide +kernel)
set_option maxRecDepth 65536 in
theorem w_c13 : (Jvm.Cond.code ({ cls := "com/example/forec/forec/ConstantEqualsPinLaw", name := "same", desc := "(II)Z" } : Jvm.MethodName) method_6_code (3 : Nat) (Option.some Jvm.ClassFile.FieldType.boolean)).before args0 about1 = true := code_word (m := ⟨1, 5⟩) (meth := k1m5) (c := k1c5) (by decide +kernel) rfl rfl rfl (by decide +kernel)
set_option maxRecDepth 65536 in
theorem w_c14 : (Jvm.Cond.code ({ cls := "com/example/forec/forec/Value$Constant", name := "equals", desc := "(Ljava/lang/Object;)Z" } : Jvm.MethodName) prog_170_method_5_code (3 : Nat) (Option.some Jvm.ClassFile.FieldType.boolean)).before args0 about1 = true := code_word (m := ⟨4, 1⟩) (meth := k4m1) (c := k4c1) (by decide +kernel) rfl rfl rfl (by decide +kernel)
set_option maxRecDepth 65536 in
theorem w_c15 : (Jvm.Cond.code ({ cls := "java/lang/String", name := "equals", desc := "(Ljava/lang/Object;)Z" } : Jvm.MethodName) jdk_42_method_66_code (3 : Nat) (Option.some Jvm.ClassFile.FieldType.boolean)).before args0 about1 = true := code_word (m := ⟨9, 2⟩) (meth := k9m2) (c := k9c2) (by decide +kernel) rfl rfl rfl (by decide +kernel)
set_option maxRecDepth 65536 in
theorem w_c16 : (Jvm.Cond.code ({ cls := "java/lang/StringLatin1", name := "equals", desc := "([B[B)Z" } : Jvm.MethodName) jdk_43_method_13_code (3 : Nat) (Option.some Jvm.ClassFile.FieldType.boolean)).before args0 about1 = true := code_word (m := ⟨12, 1⟩) (meth := k12m1) (c := k12c1) (by decide +kernel) rfl rfl rfl (by decide +kernel)
set_option maxRecDepth 65536 in
theorem w_c17 : (Jvm.Cond.code ({ cls := "com/example/forec/forec/Value$Int", name := "<init>", desc := "(J)V" } : Jvm.MethodName) prog_172_method_1_code (3 : Nat) (Option.none : Option Jvm.ClassFile.FieldType)).before args0 about1 = true := code_word (m := ⟨13, 0⟩) (meth := k13m0) (c := k13c0) (by decide +kernel) rfl rfl rfl (by decide +kernel)
def codes1 : List Jvm.Cond := [Jvm.Cond.code x code maxLocals ret, Jvm.Cond.code ({ cls := "com/example/forec/forec/ConstantEqualsPinLaw", name := "str", desc := "(I)Ljava/lang/String;" } : Jvm.MethodName) method_5_code (3 : Nat) (Option.some (Jvm.ClassFile.FieldType.object "java/lang/String")), Jvm.Cond.code ({ cls := "com/example/forec/forec/ConstantEqualsPinLaw", name := "len", desc := "(I)I" } : Jvm.MethodName) method_2_code (1 : Nat) (Option.some Jvm.ClassFile.FieldType.int), Jvm.Cond.code ({ cls := "java/lang/String", name := "<init>", desc := "([C)V" } : Jvm.MethodName) jdk_42_method_3_code (2 : Nat) (Option.none : Option Jvm.ClassFile.FieldType), Jvm.Cond.code ({ cls := "java/lang/String", name := "<init>", desc := "([CIILjava/lang/Void;)V" } : Jvm.MethodName) jdk_42_method_149_code (6 : Nat) (Option.none : Option Jvm.ClassFile.FieldType), Jvm.Cond.code ({ cls := "java/lang/Object", name := "<init>", desc := "()V" } : Jvm.MethodName) object_method_1_code (1 : Nat) (Option.none : Option Jvm.ClassFile.FieldType), Jvm.Cond.code ({ cls := "com/example/forec/forec/Value$Constant", name := "<init>", desc := "(Ljava/lang/String;Ljava/lang/String;I)V" } : Jvm.MethodName) prog_170_method_1_code (4 : Nat) (Option.none : Option Jvm.ClassFile.FieldType), Jvm.Cond.code ({ cls := "java/util/Objects", name := "requireNonNull", desc := "(Ljava/lang/Object;)Ljava/lang/Object;" } : Jvm.MethodName) jdk_31_method_10_code (1 : Nat) (Option.some (Jvm.ClassFile.FieldType.object "java/lang/Object")), Jvm.Cond.code ({ cls := "com/example/forec/forec/ConstantEqualsPinLaw", name := "ch0", desc := "(I)C" } : Jvm.MethodName) method_3_code (1 : Nat) (Option.some Jvm.ClassFile.FieldType.char), Jvm.Cond.code ({ cls := "com/example/forec/forec/ConstantEqualsPinLaw", name := "ch1", desc := "(I)C" } : Jvm.MethodName) method_4_code (1 : Nat) (Option.some Jvm.ClassFile.FieldType.char), Jvm.Cond.code ({ cls := "java/lang/StringUTF16", name := "compress", desc := "([CII)[B" } : Jvm.MethodName) jdk_52_method_16_code (6 : Nat) (Option.some (Jvm.ClassFile.FieldType.array Jvm.ClassFile.FieldType.byte)), Jvm.Cond.code ({ cls := "java/lang/StringUTF16", name := "compress", desc := "([CI[BII)I" } : Jvm.MethodName) jdk_52_method_21_code (7 : Nat) (Option.some Jvm.ClassFile.FieldType.int), Jvm.Cond.code ({ cls := "java/lang/StringUTF16", name := "coderFromArrayLen", desc := "([BI)B" } : Jvm.MethodName) jdk_52_method_15_code (2 : Nat) (Option.some Jvm.ClassFile.FieldType.byte), Jvm.Cond.code ({ cls := "com/example/forec/forec/ConstantEqualsPinLaw", name := "same", desc := "(II)Z" } : Jvm.MethodName) method_6_code (3 : Nat) (Option.some Jvm.ClassFile.FieldType.boolean), Jvm.Cond.code ({ cls := "com/example/forec/forec/Value$Constant", name := "equals", desc := "(Ljava/lang/Object;)Z" } : Jvm.MethodName) prog_170_method_5_code (3 : Nat) (Option.some Jvm.ClassFile.FieldType.boolean), Jvm.Cond.code ({ cls := "java/lang/String", name := "equals", desc := "(Ljava/lang/Object;)Z" } : Jvm.MethodName) jdk_42_method_66_code (3 : Nat) (Option.some Jvm.ClassFile.FieldType.boolean), Jvm.Cond.code ({ cls := "java/lang/StringLatin1", name := "equals", desc := "([B[B)Z" } : Jvm.MethodName) jdk_43_method_13_code (3 : Nat) (Option.some Jvm.ClassFile.FieldType.boolean), Jvm.Cond.code ({ cls := "com/example/forec/forec/Value$Int", name := "<init>", desc := "(J)V" } : Jvm.MethodName) prog_172_method_1_code (3 : Nat) (Option.none : Option Jvm.ClassFile.FieldType)]
set_option maxRecDepth 65536 in
theorem codes_eq : words1.filter isCode = codes1 := rfl
theorem w_codes : ∀ c ∈ words1.filter isCode, c.before args0 about1 = true := by
  rw [codes_eq]
  intro c hc
  simp only [codes1, List.mem_cons, List.not_mem_nil, or_false] at hc
  rcases hc with rfl | rfl | rfl | rfl | rfl | rfl | rfl | rfl | rfl | rfl | rfl | rfl | rfl | rfl | rfl | rfl | rfl | rfl
  · exact w_c0
  · exact w_c1
  · exact w_c2
  · exact w_c3
  · exact w_c4
  · exact w_c5
  · exact w_c6
  · exact w_c7
  · exact w_c8
  · exact w_c9
  · exact w_c10
  · exact w_c11
  · exact w_c12
  · exact w_c13
  · exact w_c14
  · exact w_c15
  · exact w_c16
  · exact w_c17
set_option maxRecDepth 65536 in
theorem w_t1 : (words1.take 24).all (fun c => isCode c || c.before args0 about1) = true := by decide +kernel
set_option maxRecDepth 65536 in
theorem w_t2 : ((words1.drop 24).take 24).all (fun c => isCode c || c.before args0 about1) = true := by decide +kernel
set_option maxRecDepth 65536 in
theorem w_t3 : (((words1.drop 24).drop 24).take 24).all (fun c => isCode c || c.before args0 about1) = true := by decide +kernel
set_option maxRecDepth 65536 in
theorem w_t4 : (((words1.drop 24).drop 24).drop 24).all (fun c => isCode c || c.before args0 about1) = true := by decide +kernel
theorem w_tables : (allAtoms (Jvm.Cond.code x code maxLocals ret :: tables_1)).before args0 about1 = true := by
  rw [allAtoms_all]
  show words1.all (fun c => c.before args0 about1) = true
  refine all_split ?_ w_codes
  rw [← List.take_append_drop 24 words1, List.all_append, w_t1, ← List.take_append_drop 24 (words1.drop 24), List.all_append, w_t2, ← List.take_append_drop 24 ((words1.drop 24).drop 24), List.all_append, w_t3, w_t4]
  rfl
set_option maxRecDepth 65536 in
theorem w_rest : rest_1_c.before args0 about1 = true := by decide +kernel
set_option maxRecDepth 65536 in
theorem w_case : (Jvm.Cond.and given_1 narrow_1).before args0 about1 = true := by decide +kernel
set_option maxRecDepth 65536 in
theorem w_consts : constsHeld consts_1 about1 := Jvm.Lit.constsHeldB_iff.mp (by decide +kernel)
theorem w_applies : (headSpec (Jvm.Cond.code x code maxLocals ret :: tables_1) room_1).applies x e0.platform about1 = true :=
  (Spec.applies_iff w_frames).mpr ⟨w_running, w_runnable, w_alone, w_named, w_hears, w_ripe, w_room, w_tables⟩
theorem atStart : AtStart classFile x code maxLocals ret World_1 tables_1 room_1 Calls_1 rest_1 Pre_1 launch0 p0 e0 about1 theMethod args0 below0 :=
  ⟨lists_1, trivial, launch0.admits_env _ _ _, launch0.least_env, fairChoices_fair.cas, fairChoices_fair.clock, w_frames, w_args, w_heap, w_applies, ⟨w_consts, trivial⟩, w_rest, w_case⟩
end start1
theorem witness_1 : WitnessClaimed_1 := ⟨start1.p0, start1.e0, start1.about1, start1.theMethod, start1.args0, start1.below0, start1.atStart⟩
end Jvm.Pilot.@@N@@
